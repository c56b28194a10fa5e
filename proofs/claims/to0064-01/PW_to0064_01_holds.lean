import PyProof.Rows.All
import Wide.All
import OpenK.AllK
import Wide.FinOn
import Lean
import PySem.Challenge.RW_to0064_01
set_option Elab.async false
set_option maxRecDepth 100000
set_option maxHeartbeats 0
set_option linter.unusedVariables false
set_option compiler.extract_closed false
section
namespace MineH
noncomputable section
theorem ws : PySem.Challenge.rw_to0064_01.wellSaid = true := by kernel_rfl
open PySem PySem.W
noncomputable abbrev pw : Program := PySem.Challenge.pw_to0064_01
noncomputable def sat (i : Nat) : Stmt := match pw.main.body.drop i with | s :: _ => s | [] => .Pass ⟨0, 0, 0, 0⟩
noncomputable def sit (i j : Nat) : Stmt := match sat i with | .ClassDef _ _ _ b _ _ _ _ _ _ _ => (match b.drop j with | s :: _ => s | [] => .Pass ⟨0, 0, 0, 0⟩) | s => s
noncomputable def fp (s : Stmt) : Arguments × List Stmt × Scope := match s with | .FunctionDef _ a b _ _ _ sc _ _ _ => (a, b, sc) | _ => (⟨[], [], none, [], [], none, []⟩, [], pw.main.scope)
noncomputable def lf : Life := { }
noncomputable def ei (k t : Nat) : Int × Value := (.ofNat k, .int (.ofNat k) t)
noncomputable def li (k t : Nat) : Value := .int (.ofNat k) t
noncomputable def env : Env := { scope := pw.main.scope, locals := mainNs, globals := mainNs, cells := [], code := (.ref 13), frame := some 14 }
noncomputable def cE : Code := .body (behindTheImports pw) env
noncomputable def fB : List Frame := [topFrame ⟨0, 0, 0, 0⟩]
noncomputable abbrev twRun := @PySem.W.Fast.tw10110043849684766642
noncomputable abbrev twGo := @PySem.W.Fast.tw10295753902157049106
noncomputable abbrev twTab := PySem.W.Fast.tw14364793385576792824
noncomputable abbrev twDen := @PySem.W.Fast.tw11892475500146522536
noncomputable abbrev twExecs := @PySem.W.Fast.tw12563942051412417395
noncomputable def TP (l : List Stmt) (q : Pos) : Thread := ⟨(twExecs l env).wrap doneF deadEnd id id, cE, q, fB⟩
noncomputable def m0 : Nat := 11
noncomputable def ann : Option Value := (some (.ref 6))
noncomputable def gs : Array GenState := Array.mk []

theorem goEq {w : World} {n : Nat} {s s' : SharedT} {t t' : Thread} (h : twGo twTab pw w m0 ann 1 n s t = some (s', t')) : segGoT treeTable pw w m0 ann 1 n s t = some (s', t') := by
  rw [PySem.W.Fast.te10295753902157049106, PySem.W.Fast.te14364793385576792824]; exact h
theorem lastRun {w : World} {n : Nat} {s s' : SharedT} {t : Thread} {r : Flow × Code × Pos} (h : twRun twTab pw w m0 ann 1 n s t = some (r.1, s', r.2.1, r.2.2)) : segRun treeTable pw w m0 ann 1 n s.abs t = some (r.1, s'.abs, r.2.1, r.2.2) :=
  segRun_of (by rw [PySem.W.Fast.te10110043849684766642, PySem.W.Fast.te14364793385576792824]; exact h)
theorem TP_eq (l : List Stmt) (q : Pos) : TP l q = piecesOf l env cE q fB := by
  unfold TP piecesOf; rw [PySem.W.Fast.te12563942051412417395]
theorem pr1 {α : Type} {a b c d a' b' c' d' : α} (h : (a, b, c, d) = (a', b', c', d')) : a = a' := congrArg (fun x => x.1) h
theorem pr2 {α : Type} {a b c d a' b' c' d' : α} (h : (a, b, c, d) = (a', b', c', d')) : b = b' := congrArg (fun x => x.2.1) h
theorem pr3 {α : Type} {a b c d a' b' c' d' : α} (h : (a, b, c, d) = (a', b', c', d')) : c = c' := congrArg (fun x => x.2.2.1) h
theorem pr4 {α : Type} {a b c d a' b' c' d' : α} (h : (a, b, c, d) = (a', b', c', d')) : d = d' := congrArg (fun x => x.2.2.2) h
theorem pa1 {α : Type} {a b a' b' : α} (h : (a, b) = (a', b')) : a = a' := congrArg (fun x => x.1) h
theorem pa2 {α : Type} {a b a' b' : α} (h : (a, b) = (a', b')) : b = b' := congrArg (fun x => x.2) h
theorem lift0 {P : List Frame → Prop} (h : P []) : ∀ fs : List Frame, fs.length = 0 → P fs := fun fs e => by rw [List.length_eq_zero_iff.mp e]; exact h
theorem liftS {P : List Frame → Prop} {n : Nat} (h : ∀ a (fs : List Frame), fs.length = n → P (a :: fs)) : ∀ fs : List Frame, fs.length = n + 1 → P fs := fun fs e => by
  cases fs with
  | nil => cases e
  | cons a t => exact h a t (Nat.succ.inj e)
theorem lift3 {P : List Frame → Prop} (h : ∀ a b c, P [a, b, c]) : ∀ fs : List Frame, fs.length = 3 → P fs :=
  liftS fun a => liftS (P := fun t => P (a :: t)) fun b => liftS (P := fun t => P (a :: b :: t)) fun c => lift0 (P := fun t => P (a :: b :: c :: t)) (h a b c)
theorem lift4 {P : List Frame → Prop} (h : ∀ a b c d, P [a, b, c, d]) : ∀ fs : List Frame, fs.length = 4 → P fs :=
  liftS fun a => liftS (P := fun t => P (a :: t)) fun b => liftS (P := fun t => P (a :: b :: t)) fun c => liftS (P := fun t => P (a :: b :: c :: t)) fun d => lift0 (P := fun t => P (a :: b :: c :: d :: t)) (h a b c d)
noncomputable abbrev wf (f : Bool) (w : World) : World := World.withFollow w "set-order" f

@[reducible] noncomputable def A0 : { x : Arguments // (fp (sat 0)).1 = x } := ⟨_, by conv => lhs; whnf⟩
@[reducible] noncomputable def B0 : { x : List Stmt // (fp (sat 0)).2.1 = x } := ⟨_, by conv => lhs; whnf⟩
@[reducible] noncomputable def C0 : { x : Scope // (fp (sat 0)).2.2 = x } := ⟨_, by conv => lhs; whnf⟩
@[reducible] noncomputable def A2m1 : { x : Arguments // (fp (sit 2 1)).1 = x } := ⟨_, by conv => lhs; whnf⟩
@[reducible] noncomputable def B2m1 : { x : List Stmt // (fp (sit 2 1)).2.1 = x } := ⟨_, by conv => lhs; whnf⟩
@[reducible] noncomputable def C2m1 : { x : Scope // (fp (sit 2 1)).2.2 = x } := ⟨_, by conv => lhs; whnf⟩
@[reducible] noncomputable def A2m2 : { x : Arguments // (fp (sit 2 2)).1 = x } := ⟨_, by conv => lhs; whnf⟩
@[reducible] noncomputable def B2m2 : { x : List Stmt // (fp (sit 2 2)).2.1 = x } := ⟨_, by conv => lhs; whnf⟩
@[reducible] noncomputable def C2m2 : { x : Scope // (fp (sit 2 2)).2.2 = x } := ⟨_, by conv => lhs; whnf⟩
@[reducible] noncomputable def A2m3 : { x : Arguments // (fp (sit 2 3)).1 = x } := ⟨_, by conv => lhs; whnf⟩
@[reducible] noncomputable def B2m3 : { x : List Stmt // (fp (sit 2 3)).2.1 = x } := ⟨_, by conv => lhs; whnf⟩
@[reducible] noncomputable def C2m3 : { x : Scope // (fp (sit 2 3)).2.2 = x } := ⟨_, by conv => lhs; whnf⟩
@[reducible] noncomputable def A2m4 : { x : Arguments // (fp (sit 2 4)).1 = x } := ⟨_, by conv => lhs; whnf⟩
@[reducible] noncomputable def B2m4 : { x : List Stmt // (fp (sit 2 4)).2.1 = x } := ⟨_, by conv => lhs; whnf⟩
@[reducible] noncomputable def C2m4 : { x : Scope // (fp (sit 2 4)).2.2 = x } := ⟨_, by conv => lhs; whnf⟩
@[reducible] noncomputable def A2m5 : { x : Arguments // (fp (sit 2 5)).1 = x } := ⟨_, by conv => lhs; whnf⟩
@[reducible] noncomputable def B2m5 : { x : List Stmt // (fp (sit 2 5)).2.1 = x } := ⟨_, by conv => lhs; whnf⟩
@[reducible] noncomputable def C2m5 : { x : Scope // (fp (sit 2 5)).2.2 = x } := ⟨_, by conv => lhs; whnf⟩
@[reducible] noncomputable def A2m6 : { x : Arguments // (fp (sit 2 6)).1 = x } := ⟨_, by conv => lhs; whnf⟩
@[reducible] noncomputable def B2m6 : { x : List Stmt // (fp (sit 2 6)).2.1 = x } := ⟨_, by conv => lhs; whnf⟩
@[reducible] noncomputable def C2m6 : { x : Scope // (fp (sit 2 6)).2.2 = x } := ⟨_, by conv => lhs; whnf⟩
@[reducible] noncomputable def A2m7 : { x : Arguments // (fp (sit 2 7)).1 = x } := ⟨_, by conv => lhs; whnf⟩
@[reducible] noncomputable def B2m7 : { x : List Stmt // (fp (sit 2 7)).2.1 = x } := ⟨_, by conv => lhs; whnf⟩
@[reducible] noncomputable def C2m7 : { x : Scope // (fp (sit 2 7)).2.2 = x } := ⟨_, by conv => lhs; whnf⟩
@[reducible] noncomputable def A4 : { x : Arguments // (fp (sat 4)).1 = x } := ⟨_, by conv => lhs; whnf⟩
@[reducible] noncomputable def B4 : { x : List Stmt // (fp (sat 4)).2.1 = x } := ⟨_, by conv => lhs; whnf⟩
@[reducible] noncomputable def C4 : { x : Scope // (fp (sat 4)).2.2 = x } := ⟨_, by conv => lhs; whnf⟩
@[reducible] noncomputable def A5 : { x : Arguments // (fp (sat 5)).1 = x } := ⟨_, by conv => lhs; whnf⟩
@[reducible] noncomputable def B5 : { x : List Stmt // (fp (sat 5)).2.1 = x } := ⟨_, by conv => lhs; whnf⟩
@[reducible] noncomputable def C5 : { x : Scope // (fp (sat 5)).2.2 = x } := ⟨_, by conv => lhs; whnf⟩
@[reducible] noncomputable def A8 : { x : Arguments // (fp (sat 8)).1 = x } := ⟨_, by conv => lhs; whnf⟩
@[reducible] noncomputable def B8 : { x : List Stmt // (fp (sat 8)).2.1 = x } := ⟨_, by conv => lhs; whnf⟩
@[reducible] noncomputable def C8 : { x : Scope // (fp (sat 8)).2.2 = x } := ⟨_, by conv => lhs; whnf⟩
@[reducible] noncomputable def A10 : { x : Arguments // (fp (sat 10)).1 = x } := ⟨_, by conv => lhs; whnf⟩
@[reducible] noncomputable def B10 : { x : List Stmt // (fp (sat 10)).2.1 = x } := ⟨_, by conv => lhs; whnf⟩
@[reducible] noncomputable def C10 : { x : Scope // (fp (sat 10)).2.2 = x } := ⟨_, by conv => lhs; whnf⟩
@[reducible] noncomputable def A12 : { x : Arguments // (fp (sat 12)).1 = x } := ⟨_, by conv => lhs; whnf⟩
@[reducible] noncomputable def B12 : { x : List Stmt // (fp (sat 12)).2.1 = x } := ⟨_, by conv => lhs; whnf⟩
@[reducible] noncomputable def C12 : { x : Scope // (fp (sat 12)).2.2 = x } := ⟨_, by conv => lhs; whnf⟩
@[reducible] noncomputable def A14 : { x : Arguments // (fp (sat 14)).1 = x } := ⟨_, by conv => lhs; whnf⟩
@[reducible] noncomputable def B14 : { x : List Stmt // (fp (sat 14)).2.1 = x } := ⟨_, by conv => lhs; whnf⟩
@[reducible] noncomputable def C14 : { x : Scope // (fp (sat 14)).2.2 = x } := ⟨_, by conv => lhs; whnf⟩
@[reducible] noncomputable def A66 : { x : Arguments // (fp (sat 66)).1 = x } := ⟨_, by conv => lhs; whnf⟩
@[reducible] noncomputable def B66 : { x : List Stmt // (fp (sat 66)).2.1 = x } := ⟨_, by conv => lhs; whnf⟩
@[reducible] noncomputable def C66 : { x : Scope // (fp (sat 66)).2.2 = x } := ⟨_, by conv => lhs; whnf⟩
@[reducible] noncomputable def A68 : { x : Arguments // (fp (sat 68)).1 = x } := ⟨_, by conv => lhs; whnf⟩
@[reducible] noncomputable def B68 : { x : List Stmt // (fp (sat 68)).2.1 = x } := ⟨_, by conv => lhs; whnf⟩
@[reducible] noncomputable def C68 : { x : Scope // (fp (sat 68)).2.2 = x } := ⟨_, by conv => lhs; whnf⟩
@[reducible] noncomputable def A69 : { x : Arguments // (fp (sat 69)).1 = x } := ⟨_, by conv => lhs; whnf⟩
@[reducible] noncomputable def B69 : { x : List Stmt // (fp (sat 69)).2.1 = x } := ⟨_, by conv => lhs; whnf⟩
@[reducible] noncomputable def C69 : { x : Scope // (fp (sat 69)).2.2 = x } := ⟨_, by conv => lhs; whnf⟩
@[reducible] noncomputable def A70 : { x : Arguments // (fp (sat 70)).1 = x } := ⟨_, by conv => lhs; whnf⟩
@[reducible] noncomputable def B70 : { x : List Stmt // (fp (sat 70)).2.1 = x } := ⟨_, by conv => lhs; whnf⟩
@[reducible] noncomputable def C70 : { x : Scope // (fp (sat 70)).2.2 = x } := ⟨_, by conv => lhs; whnf⟩
@[reducible] noncomputable def A71 : { x : Arguments // (fp (sat 71)).1 = x } := ⟨_, by conv => lhs; whnf⟩
@[reducible] noncomputable def B71 : { x : List Stmt // (fp (sat 71)).2.1 = x } := ⟨_, by conv => lhs; whnf⟩
@[reducible] noncomputable def C71 : { x : Scope // (fp (sat 71)).2.2 = x } := ⟨_, by conv => lhs; whnf⟩
noncomputable def o11v0 (P : Params) : Obj := ⟨(.type "tuple"), none, .seq #[] 0, #[]⟩
noncomputable def o12v1 (P : Params) : Obj := ⟨.none, none, .fields #[], #[]⟩
noncomputable def o13v2 (P : Params) : Obj := ⟨(.type "code"), none, .fields #[(.str (Str.ofString "<module>") 182), (.str (Str.ofString "<module>") 183), (.str (Str.ofString "/claim/cut.py") 184), (.int (.ofNat (nat_lit 1)) (nat_lit 0)), (.int (.ofNat (nat_lit 0)) (nat_lit 0)), (.int (.ofNat (nat_lit 0)) (nat_lit 0)), (.int (.ofNat (nat_lit 0)) (nat_lit 0)), (.int (.ofNat (nat_lit 0)) (nat_lit 0)), (.ref 11), (.bool false), (.int (.ofNat (nat_lit 181)) (nat_lit 0)), (.ref 12), .none, .none, .none, .none, (.int (.ofNat (nat_lit 185)) (nat_lit 0)), (.int (.ofNat (nat_lit 1)) (nat_lit 0)), (.str (Str.ofString "/claim/cut.py") 186)], #[]⟩
noncomputable def o14v3 (P : Params) : Obj := ⟨(.type "frame"), none, .plain, #[(some (.ref 13)), (some (.ref 3)), (some (.ref 3)), none, (some (.str (Str.ofString "__main__") 164)), none, (some (.ref 0))]⟩
noncomputable def Ha (P : Params) : Heap := ⟨Array.mk [boot_o_0 P, boot_o_1 P, boot_o_2 P, boot_o_3 P, boot_o_4 P, boot_o_5 P, boot_o_6 P, boot_o_7 P, boot_o_8 P, boot_o_9 P, boot_o_10 P, o11v0 P, o12v1 P, o13v2 P, o14v3 P], lf⟩
noncomputable def Sa (w : World) (os : OsState) : Shared := ⟨Ha w.params, gs, boot_drawn, 187, os⟩
/- pre: 12 steps, rows [] []; pos ⟨0, 0, 0, 0⟩ -/
noncomputable def tb (f : Bool) (P : Params) : BT := (.node (boot_o_0 P) (.node (boot_o_1 P) (.node (boot_o_3 P) (.node (boot_o_7 P) .nil .nil) (.node (o11v0 P) .nil .nil)) (.node (boot_o_5 P) (.node (boot_o_9 P) .nil .nil) (.node (o13v2 P) .nil .nil))) (.node (boot_o_2 P) (.node (boot_o_4 P) (.node (boot_o_8 P) .nil .nil) (.node (o12v1 P) .nil .nil)) (.node (boot_o_6 P) (.node (boot_o_10 P) .nil .nil) (.node (o14v3 P) .nil .nil))))
noncomputable def Sb (f : Bool) (w : World) (os : OsState) : SharedT := ⟨tb f w.params, 15, lf, gs, boot_drawn, 187, os⟩
/- block: 0 steps, rows [] []; pos ⟨0, 0, 0, 0⟩ -/
noncomputable def sts0 : List Stmt := (pw.main.body.drop 0).take 2
noncomputable def o3v4 (P : Params) : Obj := ⟨(.type "dict"), none, .dict #[⟨PyData.keyHash P (Str.ofString "__name__"), (.str (Str.ofString "__name__") 165), (.str (Str.ofString "cpy313.tabnanny") 194)⟩, ⟨PyData.keyHash P (Str.ofString "__doc__"), (.str (Str.ofString "__doc__") 166), .none⟩, ⟨PyData.keyHash P (Str.ofString "__package__"), (.str (Str.ofString "__package__") 167), .none⟩, ⟨PyData.keyHash P (Str.ofString "__loader__"), (.str (Str.ofString "__loader__") 168), (.builtin "__main__.__loader__#opaque")⟩, ⟨PyData.keyHash P (Str.ofString "__spec__"), (.str (Str.ofString "__spec__") 169), .none⟩, ⟨PyData.keyHash P (Str.ofString "__annotations__"), (.str (Str.ofString "__annotations__") 170), (.ref 6)⟩, ⟨PyData.keyHash P (Str.ofString "__builtins__"), (.str (Str.ofString "__builtins__") 171), (.ref 4)⟩, ⟨PyData.keyHash P (Str.ofString "__file__"), (.str (Str.ofString "__file__") 173), (.str (Str.ofString "/claim/cut.py") 172)⟩, ⟨PyData.keyHash P (Str.ofString "__cached__"), (.str (Str.ofString "__cached__") 174), .none⟩, ⟨PyData.keyHash P (Str.ofString "_wall"), (.str (Str.ofString "_wall") 193), (.ref 21)⟩] 10, #[]⟩
noncomputable def o12v5 (P : Params) : Obj := ⟨.none, none, .fields #[(.int (.ofNat (nat_lit 1)) (nat_lit 0)), (.int (.ofNat (nat_lit 0)) (nat_lit 0)), (.ref 20)], #[]⟩
noncomputable def o15v6 (P : Params) : Obj := ⟨(.type "tuple"), none, .seq #[] 0, #[]⟩
noncomputable def o16v7 (P : Params) : Obj := ⟨.none, none, .fields #[], #[]⟩
noncomputable def o17v8 (P : Params) : Obj := ⟨(.type "tuple"), none, .seq #[(.str (Str.ofString "k") 190)] 0, #[]⟩
noncomputable def o18v9 (P : Params) : Obj := ⟨(.type "tuple"), none, .seq #[] 0, #[]⟩
noncomputable def o19v10 (P : Params) : Obj := ⟨.none, none, .func { name := (Str.ofString "_wall"), qualname := (Str.ofString "_wall"), params := A0.1, body := .stmts B0.1, scope := C0.1, globals := 0, closure := [], defaults := .none, kwdefaults := .none, doc := .none, pyModule := .none, annotations := none, code := .none, closureTuple := .none, builtins := 0 }, #[]⟩
noncomputable def o20v11 (P : Params) : Obj := ⟨(.type "code"), none, .fields #[(.str (Str.ofString "_wall") 187), (.str (Str.ofString "_wall") 188), (.str (Str.ofString "/claim/cut.py") 189), (.int (.ofNat (nat_lit 1)) (nat_lit 0)), (.int (.ofNat (nat_lit 1)) (nat_lit 0)), (.int (.ofNat (nat_lit 0)) (nat_lit 0)), (.int (.ofNat (nat_lit 0)) (nat_lit 0)), (.int (.ofNat (nat_lit 3)) (nat_lit 0)), (.ref 15), (.bool true), (.int (.ofNat (nat_lit 181)) (nat_lit 0)), (.ref 16), .none, (.ref 17), (.ref 18), (.ref 19), (.int (.ofNat (nat_lit 191)) (nat_lit 0)), (.int (.ofNat (nat_lit 1)) (nat_lit 0)), (.str (Str.ofString "/claim/cut.py") 192)], #[]⟩
noncomputable def o21v12 (P : Params) : Obj := ⟨(.type "function"), none, .func { name := (Str.ofString "_wall"), qualname := (Str.ofString "_wall"), params := A0.1, body := .stmts B0.1, scope := C0.1, globals := 3, closure := [], defaults := .none, kwdefaults := .none, doc := .none, pyModule := (.str (Str.ofString "__main__") 164), annotations := none, code := (.ref 20), closureTuple := .none, builtins := 0 }, #[]⟩
noncomputable def t0 (f : Bool) (P : Params) : BT := (.node (boot_o_0 P) (.node (boot_o_1 P) (.node (o3v4 P) (.node (boot_o_7 P) (.node (o15v6 P) .nil .nil) .nil) (.node (o11v0 P) (.node (o19v10 P) .nil .nil) .nil)) (.node (boot_o_5 P) (.node (boot_o_9 P) (.node (o17v8 P) .nil .nil) .nil) (.node (o13v2 P) (.node (o21v12 P) .nil .nil) .nil))) (.node (boot_o_2 P) (.node (boot_o_4 P) (.node (boot_o_8 P) (.node (o16v7 P) .nil .nil) .nil) (.node (o12v5 P) (.node (o20v11 P) .nil .nil) .nil)) (.node (boot_o_6 P) (.node (boot_o_10 P) (.node (o18v9 P) .nil .nil) .nil) (.node (o14v3 P) .nil .nil))))
noncomputable def S0 (f : Bool) (w : World) (os : OsState) : SharedT := ⟨t0 f w.params, 22, lf, gs, boot_drawn, 196, os⟩
noncomputable def Q0 (f : Bool) (w : World) : Prop := (fun os => twRun twTab pw (wf f w) m0 ann 1 39 (Sb f (wf f w) os) (TP sts0 ⟨0, 0, 0, 0⟩)) = fun os => some (.next, S0 f (wf f w) os, cE, ⟨4, 0, 4, 8⟩)
theorem q0 : ∀ f w, Q0 f w := fun f => (fun w => by unfold Q0; kernel_rfl)
theorem r0 (f : Bool) (w : World) (os : OsState) : segRun treeTable pw (wf f w) m0 ann 1 39 (Sb f (wf f w) os).abs (piecesOf sts0 env cE ⟨0, 0, 0, 0⟩ fB) = some (.next, (S0 f (wf f w) os).abs, cE, ⟨4, 0, 4, 8⟩) := TP_eq sts0 ⟨0, 0, 0, 0⟩ ▸ (lastRun (r := (_, _, _)) (congrFun (q0 f w) os))
noncomputable def sts1 : List Stmt := (pw.main.body.drop 2).take 1
noncomputable def o3v13 (P : Params) : Obj := ⟨(.type "dict"), none, .dict #[⟨PyData.keyHash P (Str.ofString "__name__"), (.str (Str.ofString "__name__") 165), (.str (Str.ofString "cpy313.tabnanny") 194)⟩, ⟨PyData.keyHash P (Str.ofString "__doc__"), (.str (Str.ofString "__doc__") 166), .none⟩, ⟨PyData.keyHash P (Str.ofString "__package__"), (.str (Str.ofString "__package__") 167), .none⟩, ⟨PyData.keyHash P (Str.ofString "__loader__"), (.str (Str.ofString "__loader__") 168), (.builtin "__main__.__loader__#opaque")⟩, ⟨PyData.keyHash P (Str.ofString "__spec__"), (.str (Str.ofString "__spec__") 169), .none⟩, ⟨PyData.keyHash P (Str.ofString "__annotations__"), (.str (Str.ofString "__annotations__") 170), (.ref 6)⟩, ⟨PyData.keyHash P (Str.ofString "__builtins__"), (.str (Str.ofString "__builtins__") 171), (.ref 4)⟩, ⟨PyData.keyHash P (Str.ofString "__file__"), (.str (Str.ofString "__file__") 173), (.str (Str.ofString "/claim/cut.py") 172)⟩, ⟨PyData.keyHash P (Str.ofString "__cached__"), (.str (Str.ofString "__cached__") 174), .none⟩, ⟨PyData.keyHash P (Str.ofString "_wall"), (.str (Str.ofString "_wall") 193), (.ref 21)⟩, ⟨PyData.keyHash P (Str.ofString "Whitespace"), (.str (Str.ofString "Whitespace") 291), (.ref 83)⟩] 11, #[]⟩
noncomputable def o12v14 (P : Params) : Obj := ⟨.none, none, .fields #[(.int (.ofNat (nat_lit 1)) (nat_lit 0)), (.int (.ofNat (nat_lit 0)) (nat_lit 0)), (.ref 20), (.int (.ofNat (nat_lit 5)) (nat_lit 0)), (.int (.ofNat (nat_lit 0)) (nat_lit 0)), (.ref 27)], #[]⟩
noncomputable def o22v15 (P : Params) : Obj := ⟨(.type "tuple"), none, .seq #[] 0, #[]⟩
noncomputable def o23v16 (P : Params) : Obj := ⟨(.type "builtin_function_or_method"), none, .fields #[(.builtin "type.__prepare__"), (.type "type")], #[]⟩
noncomputable def o24v17 (P : Params) : Obj := ⟨(.type "dict"), none, .dict #[⟨PyData.keyHash P (Str.ofString "__module__"), (.str (Str.ofString "__module__") 203), (.str (Str.ofString "cpy313.tabnanny") 194)⟩, ⟨PyData.keyHash P (Str.ofString "__qualname__"), (.str (Str.ofString "__qualname__") 205), (.str (Str.ofString "Whitespace") 204)⟩, ⟨PyData.keyHash P (Str.ofString "__firstlineno__"), (.str (Str.ofString "__firstlineno__") 207), (.int (.ofNat (nat_lit 5)) (nat_lit 206))⟩, ⟨PyData.keyHash P (Str.ofString "S"), (.str (Str.ofString "S") 211), (.str (Str.ofString " ") 209)⟩, ⟨PyData.keyHash P (Str.ofString "T"), (.str (Str.ofString "T") 212), (.str (Str.ofString "\t") 210)⟩, ⟨PyData.keyHash P (Str.ofString "__init__"), (.str (Str.ofString "__init__") 227), (.ref 38)⟩, ⟨PyData.keyHash P (Str.ofString "longest_run_of_spaces"), (.str (Str.ofString "longest_run_of_spaces") 234), (.ref 45)⟩, ⟨PyData.keyHash P (Str.ofString "indent_level"), (.str (Str.ofString "indent_level") 246), (.ref 52)⟩, ⟨PyData.keyHash P (Str.ofString "equal"), (.str (Str.ofString "equal") 254), (.ref 59)⟩, ⟨PyData.keyHash P (Str.ofString "not_equal_witness"), (.str (Str.ofString "not_equal_witness") 262), (.ref 66)⟩, ⟨PyData.keyHash P (Str.ofString "less"), (.str (Str.ofString "less") 270), (.ref 73)⟩, ⟨PyData.keyHash P (Str.ofString "not_less_witness"), (.str (Str.ofString "not_less_witness") 278), (.ref 80)⟩, ⟨PyData.keyHash P (Str.ofString "__static_attributes__"), (.str (Str.ofString "__static_attributes__") 284), (.ref 81)⟩] 13, #[]⟩
noncomputable def o25v18 (P : Params) : Obj := ⟨(.type "tuple"), none, .seq #[] 0, #[]⟩
noncomputable def o26v19 (P : Params) : Obj := ⟨.none, none, .fields #[(.int (.ofNat (nat_lit 8)) (nat_lit 0)), (.int (.ofNat (nat_lit 4)) (nat_lit 0)), (.ref 37), (.int (.ofNat (nat_lit 31)) (nat_lit 0)), (.int (.ofNat (nat_lit 4)) (nat_lit 0)), (.ref 44), (.int (.ofNat (nat_lit 34)) (nat_lit 0)), (.int (.ofNat (nat_lit 4)) (nat_lit 0)), (.ref 51), (.int (.ofNat (nat_lit 41)) (nat_lit 0)), (.int (.ofNat (nat_lit 4)) (nat_lit 0)), (.ref 58), (.int (.ofNat (nat_lit 44)) (nat_lit 0)), (.int (.ofNat (nat_lit 4)) (nat_lit 0)), (.ref 65), (.int (.ofNat (nat_lit 47)) (nat_lit 0)), (.int (.ofNat (nat_lit 4)) (nat_lit 0)), (.ref 72), (.int (.ofNat (nat_lit 50)) (nat_lit 0)), (.int (.ofNat (nat_lit 4)) (nat_lit 0)), (.ref 79)], #[]⟩
noncomputable def o27v20 (P : Params) : Obj := ⟨(.type "code"), none, .fields #[(.str (Str.ofString "Whitespace") 198), (.str (Str.ofString "Whitespace") 199), (.str (Str.ofString "/claim/cut.py") 200), (.int (.ofNat (nat_lit 5)) (nat_lit 0)), (.int (.ofNat (nat_lit 0)) (nat_lit 0)), (.int (.ofNat (nat_lit 0)) (nat_lit 0)), (.int (.ofNat (nat_lit 0)) (nat_lit 0)), (.int (.ofNat (nat_lit 0)) (nat_lit 0)), (.ref 25), (.bool false), (.int (.ofNat (nat_lit 181)) (nat_lit 0)), (.ref 26), .none, .none, .none, .none, (.int (.ofNat (nat_lit 201)) (nat_lit 0)), (.int (.ofNat (nat_lit 5)) (nat_lit 0)), (.str (Str.ofString "/claim/cut.py") 202)], #[]⟩
noncomputable def o28v21 (P : Params) : Obj := ⟨(.type "frame"), none, .plain, #[(some (.ref 27)), (some (.ref 3)), (some (.ref 24)), none, (some (.str (Str.ofString "cpy313.tabnanny") 194)), none, (some (.ref 0))]⟩
noncomputable def o29v22 (P : Params) : Obj := ⟨(.type "str_ascii_iterator"), none, .fields #[.none, (.int (.ofNat (nat_lit 2)) (nat_lit 0))], #[]⟩
noncomputable def o30v23 (P : Params) : Obj := ⟨(.type "tuple"), none, .seq #[] 0, #[]⟩
noncomputable def o31v24 (P : Params) : Obj := ⟨(.type "StopIteration"), none, .fields #[(.ref 30), .none, .none, .none, (.bool false), .none], #[]⟩
noncomputable def o32v25 (P : Params) : Obj := ⟨(.type "tuple"), none, .seq #[] 0, #[]⟩
noncomputable def o33v26 (P : Params) : Obj := ⟨.none, none, .fields #[], #[]⟩
noncomputable def o34v27 (P : Params) : Obj := ⟨(.type "tuple"), none, .seq #[(.str (Str.ofString "self") 216), (.str (Str.ofString "ws") 217), (.str (Str.ofString "S") 218), (.str (Str.ofString "T") 219), (.str (Str.ofString "count") 220), (.str (Str.ofString "b") 221), (.str (Str.ofString "n") 222), (.str (Str.ofString "nt") 223), (.str (Str.ofString "ch") 224)] 0, #[]⟩
noncomputable def o35v28 (P : Params) : Obj := ⟨(.type "tuple"), none, .seq #[] 0, #[]⟩
noncomputable def o36v29 (P : Params) : Obj := ⟨.none, none, .func { name := (Str.ofString "__init__"), qualname := (Str.ofString "Whitespace.__init__"), params := A2m1.1, body := .stmts B2m1.1, scope := C2m1.1, globals := 0, closure := [], defaults := .none, kwdefaults := .none, doc := .none, pyModule := .none, annotations := none, code := .none, closureTuple := .none, builtins := 0 }, #[]⟩
noncomputable def o37v30 (P : Params) : Obj := ⟨(.type "code"), none, .fields #[(.str (Str.ofString "__init__") 213), (.str (Str.ofString "Whitespace.__init__") 214), (.str (Str.ofString "/claim/cut.py") 215), (.int (.ofNat (nat_lit 8)) (nat_lit 0)), (.int (.ofNat (nat_lit 2)) (nat_lit 0)), (.int (.ofNat (nat_lit 0)) (nat_lit 0)), (.int (.ofNat (nat_lit 0)) (nat_lit 0)), (.int (.ofNat (nat_lit 3)) (nat_lit 0)), (.ref 32), (.bool true), (.int (.ofNat (nat_lit 181)) (nat_lit 0)), (.ref 33), .none, (.ref 34), (.ref 35), (.ref 36), (.int (.ofNat (nat_lit 225)) (nat_lit 0)), (.int (.ofNat (nat_lit 8)) (nat_lit 0)), (.str (Str.ofString "/claim/cut.py") 226)], #[]⟩
noncomputable def o38v31 (P : Params) : Obj := ⟨(.type "function"), none, .func { name := (Str.ofString "__init__"), qualname := (Str.ofString "Whitespace.__init__"), params := A2m1.1, body := .stmts B2m1.1, scope := C2m1.1, globals := 3, closure := [], defaults := .none, kwdefaults := .none, doc := .none, pyModule := (.str (Str.ofString "cpy313.tabnanny") 194), annotations := none, code := (.ref 37), closureTuple := .none, builtins := 0 }, #[]⟩
noncomputable def o39v32 (P : Params) : Obj := ⟨(.type "tuple"), none, .seq #[] 0, #[]⟩
noncomputable def o40v33 (P : Params) : Obj := ⟨.none, none, .fields #[], #[]⟩
noncomputable def o41v34 (P : Params) : Obj := ⟨(.type "tuple"), none, .seq #[(.str (Str.ofString "self") 231)] 0, #[]⟩
noncomputable def o42v35 (P : Params) : Obj := ⟨(.type "tuple"), none, .seq #[] 0, #[]⟩
noncomputable def o43v36 (P : Params) : Obj := ⟨.none, none, .func { name := (Str.ofString "longest_run_of_spaces"), qualname := (Str.ofString "Whitespace.longest_run_of_spaces"), params := A2m2.1, body := .stmts B2m2.1, scope := C2m2.1, globals := 0, closure := [], defaults := .none, kwdefaults := .none, doc := .none, pyModule := .none, annotations := none, code := .none, closureTuple := .none, builtins := 0 }, #[]⟩
noncomputable def o44v37 (P : Params) : Obj := ⟨(.type "code"), none, .fields #[(.str (Str.ofString "longest_run_of_spaces") 228), (.str (Str.ofString "Whitespace.longest_run_of_spaces") 229), (.str (Str.ofString "/claim/cut.py") 230), (.int (.ofNat (nat_lit 31)) (nat_lit 0)), (.int (.ofNat (nat_lit 1)) (nat_lit 0)), (.int (.ofNat (nat_lit 0)) (nat_lit 0)), (.int (.ofNat (nat_lit 0)) (nat_lit 0)), (.int (.ofNat (nat_lit 3)) (nat_lit 0)), (.ref 39), (.bool true), (.int (.ofNat (nat_lit 181)) (nat_lit 0)), (.ref 40), .none, (.ref 41), (.ref 42), (.ref 43), (.int (.ofNat (nat_lit 232)) (nat_lit 0)), (.int (.ofNat (nat_lit 31)) (nat_lit 0)), (.str (Str.ofString "/claim/cut.py") 233)], #[]⟩
noncomputable def o45v38 (P : Params) : Obj := ⟨(.type "function"), none, .func { name := (Str.ofString "longest_run_of_spaces"), qualname := (Str.ofString "Whitespace.longest_run_of_spaces"), params := A2m2.1, body := .stmts B2m2.1, scope := C2m2.1, globals := 3, closure := [], defaults := .none, kwdefaults := .none, doc := .none, pyModule := (.str (Str.ofString "cpy313.tabnanny") 194), annotations := none, code := (.ref 44), closureTuple := .none, builtins := 0 }, #[]⟩
noncomputable def o46v39 (P : Params) : Obj := ⟨(.type "tuple"), none, .seq #[] 0, #[]⟩
noncomputable def o47v40 (P : Params) : Obj := ⟨.none, none, .fields #[], #[]⟩
noncomputable def o48v41 (P : Params) : Obj := ⟨(.type "tuple"), none, .seq #[(.str (Str.ofString "self") 238), (.str (Str.ofString "tabsize") 239), (.str (Str.ofString "count") 240), (.str (Str.ofString "trailing") 241), (.str (Str.ofString "il") 242), (.str (Str.ofString "i") 243)] 0, #[]⟩
noncomputable def o49v42 (P : Params) : Obj := ⟨(.type "tuple"), none, .seq #[] 0, #[]⟩
noncomputable def o50v43 (P : Params) : Obj := ⟨.none, none, .func { name := (Str.ofString "indent_level"), qualname := (Str.ofString "Whitespace.indent_level"), params := A2m3.1, body := .stmts B2m3.1, scope := C2m3.1, globals := 0, closure := [], defaults := .none, kwdefaults := .none, doc := .none, pyModule := .none, annotations := none, code := .none, closureTuple := .none, builtins := 0 }, #[]⟩
noncomputable def o51v44 (P : Params) : Obj := ⟨(.type "code"), none, .fields #[(.str (Str.ofString "indent_level") 235), (.str (Str.ofString "Whitespace.indent_level") 236), (.str (Str.ofString "/claim/cut.py") 237), (.int (.ofNat (nat_lit 34)) (nat_lit 0)), (.int (.ofNat (nat_lit 2)) (nat_lit 0)), (.int (.ofNat (nat_lit 0)) (nat_lit 0)), (.int (.ofNat (nat_lit 0)) (nat_lit 0)), (.int (.ofNat (nat_lit 3)) (nat_lit 0)), (.ref 46), (.bool true), (.int (.ofNat (nat_lit 181)) (nat_lit 0)), (.ref 47), .none, (.ref 48), (.ref 49), (.ref 50), (.int (.ofNat (nat_lit 244)) (nat_lit 0)), (.int (.ofNat (nat_lit 34)) (nat_lit 0)), (.str (Str.ofString "/claim/cut.py") 245)], #[]⟩
noncomputable def o52v45 (P : Params) : Obj := ⟨(.type "function"), none, .func { name := (Str.ofString "indent_level"), qualname := (Str.ofString "Whitespace.indent_level"), params := A2m3.1, body := .stmts B2m3.1, scope := C2m3.1, globals := 3, closure := [], defaults := .none, kwdefaults := .none, doc := .none, pyModule := (.str (Str.ofString "cpy313.tabnanny") 194), annotations := none, code := (.ref 51), closureTuple := .none, builtins := 0 }, #[]⟩
noncomputable def o53v46 (P : Params) : Obj := ⟨(.type "tuple"), none, .seq #[] 0, #[]⟩
noncomputable def o54v47 (P : Params) : Obj := ⟨.none, none, .fields #[], #[]⟩
noncomputable def o55v48 (P : Params) : Obj := ⟨(.type "tuple"), none, .seq #[(.str (Str.ofString "self") 250), (.str (Str.ofString "other") 251)] 0, #[]⟩
noncomputable def o56v49 (P : Params) : Obj := ⟨(.type "tuple"), none, .seq #[] 0, #[]⟩
noncomputable def o57v50 (P : Params) : Obj := ⟨.none, none, .func { name := (Str.ofString "equal"), qualname := (Str.ofString "Whitespace.equal"), params := A2m4.1, body := .stmts B2m4.1, scope := C2m4.1, globals := 0, closure := [], defaults := .none, kwdefaults := .none, doc := .none, pyModule := .none, annotations := none, code := .none, closureTuple := .none, builtins := 0 }, #[]⟩
noncomputable def o58v51 (P : Params) : Obj := ⟨(.type "code"), none, .fields #[(.str (Str.ofString "equal") 247), (.str (Str.ofString "Whitespace.equal") 248), (.str (Str.ofString "/claim/cut.py") 249), (.int (.ofNat (nat_lit 41)) (nat_lit 0)), (.int (.ofNat (nat_lit 2)) (nat_lit 0)), (.int (.ofNat (nat_lit 0)) (nat_lit 0)), (.int (.ofNat (nat_lit 0)) (nat_lit 0)), (.int (.ofNat (nat_lit 3)) (nat_lit 0)), (.ref 53), (.bool true), (.int (.ofNat (nat_lit 181)) (nat_lit 0)), (.ref 54), .none, (.ref 55), (.ref 56), (.ref 57), (.int (.ofNat (nat_lit 252)) (nat_lit 0)), (.int (.ofNat (nat_lit 41)) (nat_lit 0)), (.str (Str.ofString "/claim/cut.py") 253)], #[]⟩
noncomputable def o59v52 (P : Params) : Obj := ⟨(.type "function"), none, .func { name := (Str.ofString "equal"), qualname := (Str.ofString "Whitespace.equal"), params := A2m4.1, body := .stmts B2m4.1, scope := C2m4.1, globals := 3, closure := [], defaults := .none, kwdefaults := .none, doc := .none, pyModule := (.str (Str.ofString "cpy313.tabnanny") 194), annotations := none, code := (.ref 58), closureTuple := .none, builtins := 0 }, #[]⟩
noncomputable def o60v53 (P : Params) : Obj := ⟨(.type "tuple"), none, .seq #[] 0, #[]⟩
noncomputable def o61v54 (P : Params) : Obj := ⟨.none, none, .fields #[], #[]⟩
noncomputable def o62v55 (P : Params) : Obj := ⟨(.type "tuple"), none, .seq #[(.str (Str.ofString "self") 258), (.str (Str.ofString "other") 259)] 0, #[]⟩
noncomputable def o63v56 (P : Params) : Obj := ⟨(.type "tuple"), none, .seq #[] 0, #[]⟩
noncomputable def o64v57 (P : Params) : Obj := ⟨.none, none, .func { name := (Str.ofString "not_equal_witness"), qualname := (Str.ofString "Whitespace.not_equal_witness"), params := A2m5.1, body := .stmts B2m5.1, scope := C2m5.1, globals := 0, closure := [], defaults := .none, kwdefaults := .none, doc := .none, pyModule := .none, annotations := none, code := .none, closureTuple := .none, builtins := 0 }, #[]⟩
noncomputable def o65v58 (P : Params) : Obj := ⟨(.type "code"), none, .fields #[(.str (Str.ofString "not_equal_witness") 255), (.str (Str.ofString "Whitespace.not_equal_witness") 256), (.str (Str.ofString "/claim/cut.py") 257), (.int (.ofNat (nat_lit 44)) (nat_lit 0)), (.int (.ofNat (nat_lit 2)) (nat_lit 0)), (.int (.ofNat (nat_lit 0)) (nat_lit 0)), (.int (.ofNat (nat_lit 0)) (nat_lit 0)), (.int (.ofNat (nat_lit 3)) (nat_lit 0)), (.ref 60), (.bool true), (.int (.ofNat (nat_lit 181)) (nat_lit 0)), (.ref 61), .none, (.ref 62), (.ref 63), (.ref 64), (.int (.ofNat (nat_lit 260)) (nat_lit 0)), (.int (.ofNat (nat_lit 44)) (nat_lit 0)), (.str (Str.ofString "/claim/cut.py") 261)], #[]⟩
noncomputable def o66v59 (P : Params) : Obj := ⟨(.type "function"), none, .func { name := (Str.ofString "not_equal_witness"), qualname := (Str.ofString "Whitespace.not_equal_witness"), params := A2m5.1, body := .stmts B2m5.1, scope := C2m5.1, globals := 3, closure := [], defaults := .none, kwdefaults := .none, doc := .none, pyModule := (.str (Str.ofString "cpy313.tabnanny") 194), annotations := none, code := (.ref 65), closureTuple := .none, builtins := 0 }, #[]⟩
noncomputable def o67v60 (P : Params) : Obj := ⟨(.type "tuple"), none, .seq #[] 0, #[]⟩
noncomputable def o68v61 (P : Params) : Obj := ⟨.none, none, .fields #[], #[]⟩
noncomputable def o69v62 (P : Params) : Obj := ⟨(.type "tuple"), none, .seq #[(.str (Str.ofString "self") 266), (.str (Str.ofString "other") 267)] 0, #[]⟩
noncomputable def o70v63 (P : Params) : Obj := ⟨(.type "tuple"), none, .seq #[] 0, #[]⟩
noncomputable def o71v64 (P : Params) : Obj := ⟨.none, none, .func { name := (Str.ofString "less"), qualname := (Str.ofString "Whitespace.less"), params := A2m6.1, body := .stmts B2m6.1, scope := C2m6.1, globals := 0, closure := [], defaults := .none, kwdefaults := .none, doc := .none, pyModule := .none, annotations := none, code := .none, closureTuple := .none, builtins := 0 }, #[]⟩
noncomputable def o72v65 (P : Params) : Obj := ⟨(.type "code"), none, .fields #[(.str (Str.ofString "less") 263), (.str (Str.ofString "Whitespace.less") 264), (.str (Str.ofString "/claim/cut.py") 265), (.int (.ofNat (nat_lit 47)) (nat_lit 0)), (.int (.ofNat (nat_lit 2)) (nat_lit 0)), (.int (.ofNat (nat_lit 0)) (nat_lit 0)), (.int (.ofNat (nat_lit 0)) (nat_lit 0)), (.int (.ofNat (nat_lit 3)) (nat_lit 0)), (.ref 67), (.bool true), (.int (.ofNat (nat_lit 181)) (nat_lit 0)), (.ref 68), .none, (.ref 69), (.ref 70), (.ref 71), (.int (.ofNat (nat_lit 268)) (nat_lit 0)), (.int (.ofNat (nat_lit 47)) (nat_lit 0)), (.str (Str.ofString "/claim/cut.py") 269)], #[]⟩
noncomputable def o73v66 (P : Params) : Obj := ⟨(.type "function"), none, .func { name := (Str.ofString "less"), qualname := (Str.ofString "Whitespace.less"), params := A2m6.1, body := .stmts B2m6.1, scope := C2m6.1, globals := 3, closure := [], defaults := .none, kwdefaults := .none, doc := .none, pyModule := (.str (Str.ofString "cpy313.tabnanny") 194), annotations := none, code := (.ref 72), closureTuple := .none, builtins := 0 }, #[]⟩
noncomputable def o74v67 (P : Params) : Obj := ⟨(.type "tuple"), none, .seq #[] 0, #[]⟩
noncomputable def o75v68 (P : Params) : Obj := ⟨.none, none, .fields #[], #[]⟩
noncomputable def o76v69 (P : Params) : Obj := ⟨(.type "tuple"), none, .seq #[(.str (Str.ofString "self") 274), (.str (Str.ofString "other") 275)] 0, #[]⟩
noncomputable def o77v70 (P : Params) : Obj := ⟨(.type "tuple"), none, .seq #[] 0, #[]⟩
noncomputable def o78v71 (P : Params) : Obj := ⟨.none, none, .func { name := (Str.ofString "not_less_witness"), qualname := (Str.ofString "Whitespace.not_less_witness"), params := A2m7.1, body := .stmts B2m7.1, scope := C2m7.1, globals := 0, closure := [], defaults := .none, kwdefaults := .none, doc := .none, pyModule := .none, annotations := none, code := .none, closureTuple := .none, builtins := 0 }, #[]⟩
noncomputable def o79v72 (P : Params) : Obj := ⟨(.type "code"), none, .fields #[(.str (Str.ofString "not_less_witness") 271), (.str (Str.ofString "Whitespace.not_less_witness") 272), (.str (Str.ofString "/claim/cut.py") 273), (.int (.ofNat (nat_lit 50)) (nat_lit 0)), (.int (.ofNat (nat_lit 2)) (nat_lit 0)), (.int (.ofNat (nat_lit 0)) (nat_lit 0)), (.int (.ofNat (nat_lit 0)) (nat_lit 0)), (.int (.ofNat (nat_lit 3)) (nat_lit 0)), (.ref 74), (.bool true), (.int (.ofNat (nat_lit 181)) (nat_lit 0)), (.ref 75), .none, (.ref 76), (.ref 77), (.ref 78), (.int (.ofNat (nat_lit 276)) (nat_lit 0)), (.int (.ofNat (nat_lit 50)) (nat_lit 0)), (.str (Str.ofString "/claim/cut.py") 277)], #[]⟩
noncomputable def o80v73 (P : Params) : Obj := ⟨(.type "function"), none, .func { name := (Str.ofString "not_less_witness"), qualname := (Str.ofString "Whitespace.not_less_witness"), params := A2m7.1, body := .stmts B2m7.1, scope := C2m7.1, globals := 3, closure := [], defaults := .none, kwdefaults := .none, doc := .none, pyModule := (.str (Str.ofString "cpy313.tabnanny") 194), annotations := none, code := (.ref 79), closureTuple := .none, builtins := 0 }, #[]⟩
noncomputable def o81v74 (P : Params) : Obj := ⟨(.type "tuple"), none, .seq #[(.str (Str.ofString "is_simple") 279), (.str (Str.ofString "n") 280), (.str (Str.ofString "norm") 281), (.str (Str.ofString "nt") 282), (.str (Str.ofString "raw") 283)] 0, #[]⟩
noncomputable def o82v75 (P : Params) : Obj := ⟨(.type "dict"), none, .dict #[⟨PyData.keyHash P (Str.ofString "__module__"), (.str (Str.ofString "__module__") 203), (.str (Str.ofString "cpy313.tabnanny") 194)⟩, ⟨PyData.keyHash P (Str.ofString "__firstlineno__"), (.str (Str.ofString "__firstlineno__") 207), (.int (.ofNat (nat_lit 5)) (nat_lit 206))⟩, ⟨PyData.keyHash P (Str.ofString "S"), (.str (Str.ofString "S") 211), (.str (Str.ofString " ") 209)⟩, ⟨PyData.keyHash P (Str.ofString "T"), (.str (Str.ofString "T") 212), (.str (Str.ofString "\t") 210)⟩, ⟨PyData.keyHash P (Str.ofString "__init__"), (.str (Str.ofString "__init__") 227), (.ref 38)⟩, ⟨PyData.keyHash P (Str.ofString "longest_run_of_spaces"), (.str (Str.ofString "longest_run_of_spaces") 234), (.ref 45)⟩, ⟨PyData.keyHash P (Str.ofString "indent_level"), (.str (Str.ofString "indent_level") 246), (.ref 52)⟩, ⟨PyData.keyHash P (Str.ofString "equal"), (.str (Str.ofString "equal") 254), (.ref 59)⟩, ⟨PyData.keyHash P (Str.ofString "not_equal_witness"), (.str (Str.ofString "not_equal_witness") 262), (.ref 66)⟩, ⟨PyData.keyHash P (Str.ofString "less"), (.str (Str.ofString "less") 270), (.ref 73)⟩, ⟨PyData.keyHash P (Str.ofString "not_less_witness"), (.str (Str.ofString "not_less_witness") 278), (.ref 80)⟩, ⟨PyData.keyHash P (Str.ofString "__static_attributes__"), (.str (Str.ofString "__static_attributes__") 284), (.ref 81)⟩, ⟨PyData.keyHash P (Str.ofString "__dict__"), (.str (Str.ofString "__dict__") 286), (.ref 84)⟩, ⟨PyData.keyHash P (Str.ofString "__weakref__"), (.str (Str.ofString "__weakref__") 288), (.ref 85)⟩, ⟨PyData.keyHash P (Str.ofString "__doc__"), (.str (Str.ofString "__doc__") 289), .none⟩] 4, #[]⟩
noncomputable def o83v76 (P : Params) : Obj := ⟨(.type "type"), none, .cls { name := (Str.ofString "Whitespace"), bases := [(.type "object")], mro := [(.ref 83), (.type "object")], ns := 82, qualname := (Str.ofString "Whitespace"), hasDict := true, slotNames := [], subclasses := [], abstract := false, collection := none, hasDel := false }, #[none, none, (some (.str (Str.ofString "Whitespace") 196)), (some (.str (Str.ofString "Whitespace") 204)), (some (.builtin "object.__new__")), (some (.bool true))]⟩
noncomputable def o84v77 (P : Params) : Obj := ⟨(.type "getset_descriptor"), none, .fields #[(.str (Str.ofString "__dict__") 285), (.ref 83), (.builtin "function.__dict__"), (.builtin "function.__dict__#set")], #[]⟩
noncomputable def o85v78 (P : Params) : Obj := ⟨(.type "getset_descriptor"), none, .fields #[(.str (Str.ofString "__weakref__") 287), (.ref 83), (.builtin "ExceptionGroup.__weakref__"), .none], #[]⟩
noncomputable def o86v79 (P : Params) : Obj := ⟨(.type "super"), none, .fields #[(.ref 83), (.ref 83), (.ref 83)], #[]⟩
noncomputable def o87v80 (P : Params) : Obj := ⟨(.type "builtin_function_or_method"), none, .fields #[(.builtin "object.__init_subclass__"), (.ref 83)], #[]⟩
noncomputable def t1 (f : Bool) (P : Params) : BT := (.node (boot_o_0 P) (.node (boot_o_1 P) (.node (o3v13 P) (.node (boot_o_7 P) (.node (o15v6 P) (.node (o31v24 P) (.node (o63v56 P) .nil .nil) .nil) (.node (o47v40 P) (.node (o79v72 P) .nil .nil) .nil)) (.node (o23v16 P) (.node (o39v32 P) (.node (o71v64 P) .nil .nil) .nil) (.node (o55v48 P) (.node (o87v80 P) .nil .nil) .nil))) (.node (o11v0 P) (.node (o19v10 P) (.node (o35v28 P) (.node (o67v60 P) .nil .nil) .nil) (.node (o51v44 P) (.node (o83v76 P) .nil .nil) .nil)) (.node (o27v20 P) (.node (o43v36 P) (.node (o75v68 P) .nil .nil) .nil) (.node (o59v52 P) .nil .nil)))) (.node (boot_o_5 P) (.node (boot_o_9 P) (.node (o17v8 P) (.node (o33v26 P) (.node (o65v58 P) .nil .nil) .nil) (.node (o49v42 P) (.node (o81v74 P) .nil .nil) .nil)) (.node (o25v18 P) (.node (o41v34 P) (.node (o73v66 P) .nil .nil) .nil) (.node (o57v50 P) .nil .nil))) (.node (o13v2 P) (.node (o21v12 P) (.node (o37v30 P) (.node (o69v62 P) .nil .nil) .nil) (.node (o53v46 P) (.node (o85v78 P) .nil .nil) .nil)) (.node (o29v22 P) (.node (o45v38 P) (.node (o77v70 P) .nil .nil) .nil) (.node (o61v54 P) .nil .nil))))) (.node (boot_o_2 P) (.node (boot_o_4 P) (.node (boot_o_8 P) (.node (o16v7 P) (.node (o32v25 P) (.node (o64v57 P) .nil .nil) .nil) (.node (o48v41 P) (.node (o80v73 P) .nil .nil) .nil)) (.node (o24v17 P) (.node (o40v33 P) (.node (o72v65 P) .nil .nil) .nil) (.node (o56v49 P) .nil .nil))) (.node (o12v14 P) (.node (o20v11 P) (.node (o36v29 P) (.node (o68v61 P) .nil .nil) .nil) (.node (o52v45 P) (.node (o84v77 P) .nil .nil) .nil)) (.node (o28v21 P) (.node (o44v37 P) (.node (o76v69 P) .nil .nil) .nil) (.node (o60v53 P) .nil .nil)))) (.node (boot_o_6 P) (.node (boot_o_10 P) (.node (o18v9 P) (.node (o34v27 P) (.node (o66v59 P) .nil .nil) .nil) (.node (o50v43 P) (.node (o82v75 P) .nil .nil) .nil)) (.node (o26v19 P) (.node (o42v35 P) (.node (o74v67 P) .nil .nil) .nil) (.node (o58v51 P) .nil .nil))) (.node (o14v3 P) (.node (o22v15 P) (.node (o38v31 P) (.node (o70v63 P) .nil .nil) .nil) (.node (o54v47 P) (.node (o86v79 P) .nil .nil) .nil)) (.node (o30v23 P) (.node (o46v39 P) (.node (o78v71 P) .nil .nil) .nil) (.node (o62v55 P) .nil .nil))))))
noncomputable def S1 (f : Bool) (w : World) (os : OsState) : SharedT := ⟨t1 f w.params, 88, lf, gs, boot_drawn, 292, os⟩
noncomputable def Q1 (f : Bool) (w : World) : Prop := (fun os => twRun twTab pw (wf f w) m0 ann 1 489 (S0 f (wf f w) os) (TP sts1 ⟨4, 0, 4, 8⟩)) = fun os => some (.next, S1 f (wf f w) os, cE, ⟨5, 0, 51, 16⟩)
noncomputable def G1 (f : Bool) (w : World) (os : OsState) : Option (Flow × SharedT × Code × Pos) := twRun twTab pw (wf f w) m0 ann 1 489 (S0 f (wf f w) os) (TP sts1 ⟨4, 0, 4, 8⟩)
noncomputable def H1 (f : Bool) (w : World) (os : OsState) : Option (Flow × SharedT × Code × Pos) := some (.next, S1 f (wf f w) os, cE, ⟨5, 0, 51, 16⟩)
theorem y1 : ∀ (f : Bool) (w : World), (G1 f (World.withFollow w "special-get-raises" false), G1 f (World.withFollow w "special-get-raises" true)) = (H1 f (World.withFollow w "special-get-raises" false), H1 f (World.withFollow w "special-get-raises" true)) := by intro f; intro w; kernel_rfl
theorem q1 : ∀ f w, Q1 f w := fun f => byRow2 "special-get-raises" (P := fun w => Q1 f w) (fun w => (Eq.mp (show (G1 f (World.withFollow w "special-get-raises" false) = H1 f (World.withFollow w "special-get-raises" false)) = Q1 f (World.withFollow w "special-get-raises" false) from by kernel_rfl) (pa1 (y1 f w)))) (fun w => (Eq.mp (show (G1 f (World.withFollow w "special-get-raises" true) = H1 f (World.withFollow w "special-get-raises" true)) = Q1 f (World.withFollow w "special-get-raises" true) from by kernel_rfl) (pa2 (y1 f w))))
theorem r1 (f : Bool) (w : World) (os : OsState) : segRun treeTable pw (wf f w) m0 ann 1 489 (S0 f (wf f w) os).abs (piecesOf sts1 env cE ⟨4, 0, 4, 8⟩ fB) = some (.next, (S1 f (wf f w) os).abs, cE, ⟨5, 0, 51, 16⟩) := TP_eq sts1 ⟨4, 0, 4, 8⟩ ▸ (lastRun (r := (_, _, _)) (congrFun (q1 f w) os))
noncomputable def sts2 : List Stmt := (pw.main.body.drop 3).take 4
noncomputable def o3v81 (P : Params) : Obj := ⟨(.type "dict"), none, .dict #[⟨PyData.keyHash P (Str.ofString "__name__"), (.str (Str.ofString "__name__") 165), (.str (Str.ofString "cpy313.stringprep") 316)⟩, ⟨PyData.keyHash P (Str.ofString "__doc__"), (.str (Str.ofString "__doc__") 166), .none⟩, ⟨PyData.keyHash P (Str.ofString "__package__"), (.str (Str.ofString "__package__") 167), .none⟩, ⟨PyData.keyHash P (Str.ofString "__loader__"), (.str (Str.ofString "__loader__") 168), (.builtin "__main__.__loader__#opaque")⟩, ⟨PyData.keyHash P (Str.ofString "__spec__"), (.str (Str.ofString "__spec__") 169), .none⟩, ⟨PyData.keyHash P (Str.ofString "__annotations__"), (.str (Str.ofString "__annotations__") 170), (.ref 6)⟩, ⟨PyData.keyHash P (Str.ofString "__builtins__"), (.str (Str.ofString "__builtins__") 171), (.ref 4)⟩, ⟨PyData.keyHash P (Str.ofString "__file__"), (.str (Str.ofString "__file__") 173), (.str (Str.ofString "/claim/cut.py") 172)⟩, ⟨PyData.keyHash P (Str.ofString "__cached__"), (.str (Str.ofString "__cached__") 174), .none⟩, ⟨PyData.keyHash P (Str.ofString "_wall"), (.str (Str.ofString "_wall") 193), (.ref 21)⟩, ⟨PyData.keyHash P (Str.ofString "Whitespace"), (.str (Str.ofString "Whitespace") 291), (.ref 83)⟩, ⟨PyData.keyHash P (Str.ofString "_int2digits"), (.str (Str.ofString "_int2digits") 304), (.ref 94)⟩, ⟨PyData.keyHash P (Str.ofString "_digits2int"), (.str (Str.ofString "_digits2int") 315), (.ref 101)⟩] 13, #[]⟩
noncomputable def o12v82 (P : Params) : Obj := ⟨.none, none, .fields #[(.int (.ofNat (nat_lit 1)) (nat_lit 0)), (.int (.ofNat (nat_lit 0)) (nat_lit 0)), (.ref 20), (.int (.ofNat (nat_lit 5)) (nat_lit 0)), (.int (.ofNat (nat_lit 0)) (nat_lit 0)), (.ref 27), (.int (.ofNat (nat_lit 53)) (nat_lit 0)), (.int (.ofNat (nat_lit 0)) (nat_lit 0)), (.ref 93), (.int (.ofNat (nat_lit 69)) (nat_lit 0)), (.int (.ofNat (nat_lit 0)) (nat_lit 0)), (.ref 100)], #[]⟩
noncomputable def o88v83 (P : Params) : Obj := ⟨(.type "tuple"), none, .seq #[] 0, #[]⟩
noncomputable def o89v84 (P : Params) : Obj := ⟨.none, none, .fields #[], #[]⟩
noncomputable def o90v85 (P : Params) : Obj := ⟨(.type "tuple"), none, .seq #[(.str (Str.ofString "a") 297), (.str (Str.ofString "n") 298)] 0, #[]⟩
noncomputable def o91v86 (P : Params) : Obj := ⟨(.type "tuple"), none, .seq #[(.str (Str.ofString "n") 299), (.str (Str.ofString "a_digits") 300), (.str (Str.ofString "inner") 301)] 0, #[]⟩
noncomputable def o92v87 (P : Params) : Obj := ⟨.none, none, .func { name := (Str.ofString "_int2digits"), qualname := (Str.ofString "_int2digits"), params := A4.1, body := .stmts B4.1, scope := C4.1, globals := 0, closure := [], defaults := .none, kwdefaults := .none, doc := .none, pyModule := .none, annotations := none, code := .none, closureTuple := .none, builtins := 0 }, #[]⟩
noncomputable def o93v88 (P : Params) : Obj := ⟨(.type "code"), none, .fields #[(.str (Str.ofString "_int2digits") 294), (.str (Str.ofString "_int2digits") 295), (.str (Str.ofString "/claim/cut.py") 296), (.int (.ofNat (nat_lit 53)) (nat_lit 0)), (.int (.ofNat (nat_lit 2)) (nat_lit 0)), (.int (.ofNat (nat_lit 0)) (nat_lit 0)), (.int (.ofNat (nat_lit 0)) (nat_lit 0)), (.int (.ofNat (nat_lit 3)) (nat_lit 0)), (.ref 88), (.bool true), (.int (.ofNat (nat_lit 181)) (nat_lit 0)), (.ref 89), .none, (.ref 90), (.ref 91), (.ref 92), (.int (.ofNat (nat_lit 302)) (nat_lit 0)), (.int (.ofNat (nat_lit 53)) (nat_lit 0)), (.str (Str.ofString "/claim/cut.py") 303)], #[]⟩
noncomputable def o94v89 (P : Params) : Obj := ⟨(.type "function"), none, .func { name := (Str.ofString "_int2digits"), qualname := (Str.ofString "_int2digits"), params := A4.1, body := .stmts B4.1, scope := C4.1, globals := 3, closure := [], defaults := .none, kwdefaults := .none, doc := .none, pyModule := (.str (Str.ofString "cpy313._pylong") 292), annotations := none, code := (.ref 93), closureTuple := .none, builtins := 0 }, #[]⟩
noncomputable def o95v90 (P : Params) : Obj := ⟨(.type "tuple"), none, .seq #[] 0, #[]⟩
noncomputable def o96v91 (P : Params) : Obj := ⟨.none, none, .fields #[], #[]⟩
noncomputable def o97v92 (P : Params) : Obj := ⟨(.type "tuple"), none, .seq #[(.str (Str.ofString "digits") 308), (.str (Str.ofString "n") 309)] 0, #[]⟩
noncomputable def o98v93 (P : Params) : Obj := ⟨(.type "tuple"), none, .seq #[(.str (Str.ofString "digits") 310), (.str (Str.ofString "n") 311), (.str (Str.ofString "inner") 312)] 0, #[]⟩
noncomputable def o99v94 (P : Params) : Obj := ⟨.none, none, .func { name := (Str.ofString "_digits2int"), qualname := (Str.ofString "_digits2int"), params := A5.1, body := .stmts B5.1, scope := C5.1, globals := 0, closure := [], defaults := .none, kwdefaults := .none, doc := .none, pyModule := .none, annotations := none, code := .none, closureTuple := .none, builtins := 0 }, #[]⟩
noncomputable def o100v95 (P : Params) : Obj := ⟨(.type "code"), none, .fields #[(.str (Str.ofString "_digits2int") 305), (.str (Str.ofString "_digits2int") 306), (.str (Str.ofString "/claim/cut.py") 307), (.int (.ofNat (nat_lit 69)) (nat_lit 0)), (.int (.ofNat (nat_lit 2)) (nat_lit 0)), (.int (.ofNat (nat_lit 0)) (nat_lit 0)), (.int (.ofNat (nat_lit 0)) (nat_lit 0)), (.int (.ofNat (nat_lit 3)) (nat_lit 0)), (.ref 95), (.bool true), (.int (.ofNat (nat_lit 181)) (nat_lit 0)), (.ref 96), .none, (.ref 97), (.ref 98), (.ref 99), (.int (.ofNat (nat_lit 313)) (nat_lit 0)), (.int (.ofNat (nat_lit 69)) (nat_lit 0)), (.str (Str.ofString "/claim/cut.py") 314)], #[]⟩
noncomputable def o101v96 (P : Params) : Obj := ⟨(.type "function"), none, .func { name := (Str.ofString "_digits2int"), qualname := (Str.ofString "_digits2int"), params := A5.1, body := .stmts B5.1, scope := C5.1, globals := 3, closure := [], defaults := .none, kwdefaults := .none, doc := .none, pyModule := (.str (Str.ofString "cpy313._pylong") 292), annotations := none, code := (.ref 100), closureTuple := .none, builtins := 0 }, #[]⟩
noncomputable def t2 (f : Bool) (P : Params) : BT := (.node (boot_o_0 P) (.node (boot_o_1 P) (.node (o3v81 P) (.node (boot_o_7 P) (.node (o15v6 P) (.node (o31v24 P) (.node (o63v56 P) .nil .nil) (.node (o95v90 P) .nil .nil)) (.node (o47v40 P) (.node (o79v72 P) .nil .nil) .nil)) (.node (o23v16 P) (.node (o39v32 P) (.node (o71v64 P) .nil .nil) .nil) (.node (o55v48 P) (.node (o87v80 P) .nil .nil) .nil))) (.node (o11v0 P) (.node (o19v10 P) (.node (o35v28 P) (.node (o67v60 P) .nil .nil) (.node (o99v94 P) .nil .nil)) (.node (o51v44 P) (.node (o83v76 P) .nil .nil) .nil)) (.node (o27v20 P) (.node (o43v36 P) (.node (o75v68 P) .nil .nil) .nil) (.node (o59v52 P) (.node (o91v86 P) .nil .nil) .nil)))) (.node (boot_o_5 P) (.node (boot_o_9 P) (.node (o17v8 P) (.node (o33v26 P) (.node (o65v58 P) .nil .nil) (.node (o97v92 P) .nil .nil)) (.node (o49v42 P) (.node (o81v74 P) .nil .nil) .nil)) (.node (o25v18 P) (.node (o41v34 P) (.node (o73v66 P) .nil .nil) .nil) (.node (o57v50 P) (.node (o89v84 P) .nil .nil) .nil))) (.node (o13v2 P) (.node (o21v12 P) (.node (o37v30 P) (.node (o69v62 P) .nil .nil) (.node (o101v96 P) .nil .nil)) (.node (o53v46 P) (.node (o85v78 P) .nil .nil) .nil)) (.node (o29v22 P) (.node (o45v38 P) (.node (o77v70 P) .nil .nil) .nil) (.node (o61v54 P) (.node (o93v88 P) .nil .nil) .nil))))) (.node (boot_o_2 P) (.node (boot_o_4 P) (.node (boot_o_8 P) (.node (o16v7 P) (.node (o32v25 P) (.node (o64v57 P) .nil .nil) (.node (o96v91 P) .nil .nil)) (.node (o48v41 P) (.node (o80v73 P) .nil .nil) .nil)) (.node (o24v17 P) (.node (o40v33 P) (.node (o72v65 P) .nil .nil) .nil) (.node (o56v49 P) (.node (o88v83 P) .nil .nil) .nil))) (.node (o12v82 P) (.node (o20v11 P) (.node (o36v29 P) (.node (o68v61 P) .nil .nil) (.node (o100v95 P) .nil .nil)) (.node (o52v45 P) (.node (o84v77 P) .nil .nil) .nil)) (.node (o28v21 P) (.node (o44v37 P) (.node (o76v69 P) .nil .nil) .nil) (.node (o60v53 P) (.node (o92v87 P) .nil .nil) .nil)))) (.node (boot_o_6 P) (.node (boot_o_10 P) (.node (o18v9 P) (.node (o34v27 P) (.node (o66v59 P) .nil .nil) (.node (o98v93 P) .nil .nil)) (.node (o50v43 P) (.node (o82v75 P) .nil .nil) .nil)) (.node (o26v19 P) (.node (o42v35 P) (.node (o74v67 P) .nil .nil) .nil) (.node (o58v51 P) (.node (o90v85 P) .nil .nil) .nil))) (.node (o14v3 P) (.node (o22v15 P) (.node (o38v31 P) (.node (o70v63 P) .nil .nil) .nil) (.node (o54v47 P) (.node (o86v79 P) .nil .nil) .nil)) (.node (o30v23 P) (.node (o46v39 P) (.node (o78v71 P) .nil .nil) .nil) (.node (o62v55 P) (.node (o94v89 P) .nil .nil) .nil))))))
noncomputable def S2 (f : Bool) (w : World) (os : OsState) : SharedT := ⟨t2 f w.params, 102, lf, gs, boot_drawn, 318, os⟩
noncomputable def Q2 (f : Bool) (w : World) : Prop := (fun os => twRun twTab pw (wf f w) m0 ann 1 85 (S1 f (wf f w) os) (TP sts2 ⟨5, 0, 51, 16⟩)) = fun os => some (.next, S2 f (wf f w) os, cE, ⟨78, 0, 78, 8⟩)
theorem q2 : ∀ f w, Q2 f w := fun f => (fun w => by unfold Q2; kernel_rfl)
theorem r2 (f : Bool) (w : World) (os : OsState) : segRun treeTable pw (wf f w) m0 ann 1 85 (S1 f (wf f w) os).abs (piecesOf sts2 env cE ⟨5, 0, 51, 16⟩ fB) = some (.next, (S2 f (wf f w) os).abs, cE, ⟨78, 0, 78, 8⟩) := TP_eq sts2 ⟨5, 0, 51, 16⟩ ▸ (lastRun (r := (_, _, _)) (congrFun (q2 f w) os))
noncomputable def sts3 : List Stmt := (pw.main.body.drop 7).take 1
noncomputable def EL1 : List Value := li (nat_lit 173) (nat_lit 318) :: li (nat_lit 847) (nat_lit 319) :: li (nat_lit 6150) (nat_lit 320) :: li (nat_lit 6155) (nat_lit 321) :: li (nat_lit 6156) (nat_lit 322) :: li (nat_lit 6157) (nat_lit 323) :: li (nat_lit 8203) (nat_lit 324) :: li (nat_lit 8204) (nat_lit 325) :: li (nat_lit 8205) (nat_lit 326) :: li (nat_lit 8288) (nat_lit 327) :: li (nat_lit 65279) (nat_lit 328) :: []
noncomputable def o102v97 (P : Params) : Obj := ⟨(.type "list"), none, .seq ⟨EL1 ++ []⟩ 0, #[]⟩
noncomputable def o103v98 (P : Params) : Obj := ⟨(.type "range"), none, .fields #[(.int (.ofNat (nat_lit 65024)) (nat_lit 329)), (.int (.ofNat (nat_lit 65040)) (nat_lit 330)), (.int (.ofNat (nat_lit 1)) (nat_lit 331))], #[]⟩
noncomputable def o104v99 (P : Params) : Obj := ⟨(.type "list"), none, .seq #[] 2, #[]⟩
noncomputable def o105v100 (P : Params) : Obj := ⟨(.type "range_iterator"), none, .fields #[(.int (.ofNat (nat_lit 65024)) (nat_lit 0)), (.int (.ofNat (nat_lit 16)) (nat_lit 0)), (.int (.ofNat (nat_lit 1)) (nat_lit 0))], #[]⟩
noncomputable def TT1 (x0 x1 : Obj) (f : Bool) (P : Params) : BT := (.node (boot_o_0 P) (.node (boot_o_1 P) (.node (o3v81 P) (.node (boot_o_7 P) (.node (o15v6 P) (.node (o31v24 P) (.node (o63v56 P) .nil .nil) (.node (o95v90 P) .nil .nil)) (.node (o47v40 P) (.node (o79v72 P) .nil .nil) .nil)) (.node (o23v16 P) (.node (o39v32 P) (.node (o71v64 P) .nil .nil) (.node (o103v98 P) .nil .nil)) (.node (o55v48 P) (.node (o87v80 P) .nil .nil) .nil))) (.node (o11v0 P) (.node (o19v10 P) (.node (o35v28 P) (.node (o67v60 P) .nil .nil) (.node (o99v94 P) .nil .nil)) (.node (o51v44 P) (.node (o83v76 P) .nil .nil) .nil)) (.node (o27v20 P) (.node (o43v36 P) (.node (o75v68 P) .nil .nil) .nil) (.node (o59v52 P) (.node (o91v86 P) .nil .nil) .nil)))) (.node (boot_o_5 P) (.node (boot_o_9 P) (.node (o17v8 P) (.node (o33v26 P) (.node (o65v58 P) .nil .nil) (.node (o97v92 P) .nil .nil)) (.node (o49v42 P) (.node (o81v74 P) .nil .nil) .nil)) (.node (o25v18 P) (.node (o41v34 P) (.node (o73v66 P) .nil .nil) (.node x0 .nil .nil)) (.node (o57v50 P) (.node (o89v84 P) .nil .nil) .nil))) (.node (o13v2 P) (.node (o21v12 P) (.node (o37v30 P) (.node (o69v62 P) .nil .nil) (.node (o101v96 P) .nil .nil)) (.node (o53v46 P) (.node (o85v78 P) .nil .nil) .nil)) (.node (o29v22 P) (.node (o45v38 P) (.node (o77v70 P) .nil .nil) .nil) (.node (o61v54 P) (.node (o93v88 P) .nil .nil) .nil))))) (.node (boot_o_2 P) (.node (boot_o_4 P) (.node (boot_o_8 P) (.node (o16v7 P) (.node (o32v25 P) (.node (o64v57 P) .nil .nil) (.node (o96v91 P) .nil .nil)) (.node (o48v41 P) (.node (o80v73 P) .nil .nil) .nil)) (.node (o24v17 P) (.node (o40v33 P) (.node (o72v65 P) .nil .nil) (.node x1 .nil .nil)) (.node (o56v49 P) (.node (o88v83 P) .nil .nil) .nil))) (.node (o12v82 P) (.node (o20v11 P) (.node (o36v29 P) (.node (o68v61 P) .nil .nil) (.node (o100v95 P) .nil .nil)) (.node (o52v45 P) (.node (o84v77 P) .nil .nil) .nil)) (.node (o28v21 P) (.node (o44v37 P) (.node (o76v69 P) .nil .nil) .nil) (.node (o60v53 P) (.node (o92v87 P) .nil .nil) .nil)))) (.node (boot_o_6 P) (.node (boot_o_10 P) (.node (o18v9 P) (.node (o34v27 P) (.node (o66v59 P) .nil .nil) (.node (o98v93 P) .nil .nil)) (.node (o50v43 P) (.node (o82v75 P) .nil .nil) .nil)) (.node (o26v19 P) (.node (o42v35 P) (.node (o74v67 P) .nil .nil) .nil) (.node (o58v51 P) (.node (o90v85 P) .nil .nil) .nil))) (.node (o14v3 P) (.node (o22v15 P) (.node (o38v31 P) (.node (o70v63 P) .nil .nil) (.node (o102v97 P) .nil .nil)) (.node (o54v47 P) (.node (o86v79 P) .nil .nil) .nil)) (.node (o30v23 P) (.node (o46v39 P) (.node (o78v71 P) .nil .nil) .nil) (.node (o62v55 P) (.node (o94v89 P) .nil .nil) .nil))))))
noncomputable def t3c0 (f : Bool) (P : Params) : BT := TT1 (o105v100 P) (o104v99 P) f P
noncomputable def S3c0 (f : Bool) (w : World) (os : OsState) : SharedT := ⟨t3c0 f w.params, 106, lf, gs, boot_drawn, 334, os⟩
noncomputable def fr3c0 (f : Bool) (w : World) (os : OsState) : List Frame := match twGo twTab pw (wf f (World.withFollow w "special-get-raises" false)) m0 ann 1 97 (S2 f (wf f (World.withFollow w "special-get-raises" false)) os) (TP sts3 ⟨78, 0, 78, 8⟩) with | some (_, t) => t.stack | none => []
noncomputable def TH3c0 (fs : List Frame) : Thread := ⟨twDen twTab (.builtin "list.extend.loop" ⟨[(.ref 104), (.ref 105), .none], []⟩), (.builtin "list.extend.loop" ⟨[(.ref 104), (.ref 105), .none], []⟩), ⟨79, 81, 79, 106⟩, fs⟩
noncomputable def T3c0 (f : Bool) (w : World) (os : OsState) : Thread := TH3c0 (fr3c0 f w os)
noncomputable def Q3c0 (f : Bool) (w : World) : Prop := (fun os => twGo twTab pw (wf f w) m0 ann 1 97 (S2 f (wf f w) os) (TP sts3 ⟨78, 0, 78, 8⟩)) = fun os => some (S3c0 f (wf f w) os, (T3c0 f w os))
noncomputable def G3c0 (f : Bool) (w : World) (os : OsState) : Option (SharedT × Thread) := twGo twTab pw (wf f w) m0 ann 1 97 (S2 f (wf f w) os) (TP sts3 ⟨78, 0, 78, 8⟩)
noncomputable def H3c0 (f : Bool) (w : World) (os : OsState) : Option (SharedT × Thread) := some (S3c0 f (wf f w) os, (T3c0 f w os))
theorem y3c0 : ∀ (f : Bool) (w : World), (G3c0 f (World.withFollow w "special-get-raises" false), G3c0 f (World.withFollow w "special-get-raises" true)) = (H3c0 f (World.withFollow w "special-get-raises" false), H3c0 f (World.withFollow w "special-get-raises" true)) := by intro f; intro w; kernel_rfl
theorem q3c0 : ∀ f w, Q3c0 f w := fun f => byRow2 "special-get-raises" (P := fun w => Q3c0 f w) (fun w => (Eq.mp (show (G3c0 f (World.withFollow w "special-get-raises" false) = H3c0 f (World.withFollow w "special-get-raises" false)) = Q3c0 f (World.withFollow w "special-get-raises" false) from by kernel_rfl) (pa1 (y3c0 f w)))) (fun w => (Eq.mp (show (G3c0 f (World.withFollow w "special-get-raises" true) = H3c0 f (World.withFollow w "special-get-raises" true)) = Q3c0 f (World.withFollow w "special-get-raises" true) from by kernel_rfl) (pa2 (y3c0 f w))))
theorem l3c0 (f : Bool) (w : World) : (fun os => (fr3c0 f w os).length) = fun _ => 3 := by kernel_rfl
noncomputable def o104v101 (P : Params) : Obj := ⟨(.type "list"), none, .seq #[(.int (.ofNat (nat_lit 65024)) (nat_lit 334)), (.int (.ofNat (nat_lit 65025)) (nat_lit 335))] 4, #[]⟩
noncomputable def o105v102 (P : Params) : Obj := ⟨(.type "range_iterator"), none, .fields #[(.int (.ofNat (nat_lit 65026)) (nat_lit 0)), (.int (.ofNat (nat_lit 14)) (nat_lit 0)), (.int (.ofNat (nat_lit 1)) (nat_lit 0))], #[]⟩
noncomputable def t3c1 (f : Bool) (P : Params) : BT := TT1 (o105v102 P) (o104v101 P) f P
noncomputable def S3c1 (f : Bool) (w : World) (os : OsState) : SharedT := ⟨t3c1 f w.params, 106, lf, gs, boot_drawn, 336, os⟩
noncomputable def GG3c0 (k : Nat) (A : Bool → World → OsState → SharedT) (f : Bool) (w : World) (a0 a1 a2 : Frame) (os : OsState) : Option (SharedT × Thread) := twGo twTab pw (wf f w) m0 ann 1 k (A f (wf f w) os) (TH3c0 [a0, a1, a2])
noncomputable def HH3c0 (B : Bool → World → OsState → SharedT) (f : Bool) (w : World) (a0 a1 a2 : Frame) (os : OsState) : Option (SharedT × Thread) := some (B f (wf f w) os, TH3c0 [a0, a1, a2])
noncomputable def Y3c0p (k : Nat) (A B : Bool → World → OsState → SharedT) : Prop := ∀ (f : Bool) (w : World) (a0 a1 a2 : Frame), GG3c0 k A f w a0 a1 a2 = HH3c0 B f w a0 a1 a2
theorem X3c0p {k : Nat} {A B : Bool → World → OsState → SharedT} (y : Y3c0p k A B) : ∀ (f : Bool) (w : World) (a0 a1 a2 : Frame), GG3c0 k A f w a0 a1 a2 = HH3c0 B f w a0 a1 a2 :=
  let P := fun (f : Bool) (w : World) => ∀ a0 a1 a2 : Frame, GG3c0 k A f w a0 a1 a2 = HH3c0 B f w a0 a1 a2
  show ∀ f w, P f w from fun f w a0 a1 a2 => y f w a0 a1 a2
theorem U3c0p {k : Nat} {A B : Bool → World → OsState → SharedT} (y : Y3c0p k A B) (f : Bool) (w : World) (os : OsState) : twGo twTab pw (wf f w) m0 ann 1 k (A f (wf f w) os) (T3c0 f w os) = some (B f (wf f w) os, T3c0 f w os) :=
  lift3 (P := fun fs => twGo twTab pw (wf f w) m0 ann 1 k (A f (wf f w) os) (TH3c0 fs) = some (B f (wf f w) os, TH3c0 fs)) (fun a0 a1 a2 => congrFun (X3c0p y f w a0 a1 a2) os) _ (congrFun (l3c0 f w) os)
theorem y3c1 : Y3c0p 34 S3c0 S3c1 := by intro f w a0 a1 a2; kernel_rfl
noncomputable def o104v103 (P : Params) : Obj := ⟨(.type "list"), none, .seq #[(.int (.ofNat (nat_lit 65024)) (nat_lit 334)), (.int (.ofNat (nat_lit 65025)) (nat_lit 335)), (.int (.ofNat (nat_lit 65026)) (nat_lit 336)), (.int (.ofNat (nat_lit 65027)) (nat_lit 337))] 6, #[]⟩
noncomputable def o105v104 (P : Params) : Obj := ⟨(.type "range_iterator"), none, .fields #[(.int (.ofNat (nat_lit 65028)) (nat_lit 0)), (.int (.ofNat (nat_lit 12)) (nat_lit 0)), (.int (.ofNat (nat_lit 1)) (nat_lit 0))], #[]⟩
noncomputable def t3c2 (f : Bool) (P : Params) : BT := TT1 (o105v104 P) (o104v103 P) f P
noncomputable def S3c2 (f : Bool) (w : World) (os : OsState) : SharedT := ⟨t3c2 f w.params, 106, lf, gs, boot_drawn, 338, os⟩
theorem y3c2 : Y3c0p 34 S3c1 S3c2 := by intro f w a0 a1 a2; kernel_rfl
noncomputable def o104v105 (P : Params) : Obj := ⟨(.type "list"), none, .seq #[(.int (.ofNat (nat_lit 65024)) (nat_lit 334)), (.int (.ofNat (nat_lit 65025)) (nat_lit 335)), (.int (.ofNat (nat_lit 65026)) (nat_lit 336)), (.int (.ofNat (nat_lit 65027)) (nat_lit 337)), (.int (.ofNat (nat_lit 65028)) (nat_lit 338)), (.int (.ofNat (nat_lit 65029)) (nat_lit 339))] 8, #[]⟩
noncomputable def o105v106 (P : Params) : Obj := ⟨(.type "range_iterator"), none, .fields #[(.int (.ofNat (nat_lit 65030)) (nat_lit 0)), (.int (.ofNat (nat_lit 10)) (nat_lit 0)), (.int (.ofNat (nat_lit 1)) (nat_lit 0))], #[]⟩
noncomputable def t3c3 (f : Bool) (P : Params) : BT := TT1 (o105v106 P) (o104v105 P) f P
noncomputable def S3c3 (f : Bool) (w : World) (os : OsState) : SharedT := ⟨t3c3 f w.params, 106, lf, gs, boot_drawn, 340, os⟩
theorem y3c3 : Y3c0p 34 S3c2 S3c3 := by intro f w a0 a1 a2; kernel_rfl
noncomputable def o104v107 (P : Params) : Obj := ⟨(.type "list"), none, .seq #[(.int (.ofNat (nat_lit 65024)) (nat_lit 334)), (.int (.ofNat (nat_lit 65025)) (nat_lit 335)), (.int (.ofNat (nat_lit 65026)) (nat_lit 336)), (.int (.ofNat (nat_lit 65027)) (nat_lit 337)), (.int (.ofNat (nat_lit 65028)) (nat_lit 338)), (.int (.ofNat (nat_lit 65029)) (nat_lit 339)), (.int (.ofNat (nat_lit 65030)) (nat_lit 340)), (.int (.ofNat (nat_lit 65031)) (nat_lit 341))] 10, #[]⟩
noncomputable def o105v108 (P : Params) : Obj := ⟨(.type "range_iterator"), none, .fields #[(.int (.ofNat (nat_lit 65032)) (nat_lit 0)), (.int (.ofNat (nat_lit 8)) (nat_lit 0)), (.int (.ofNat (nat_lit 1)) (nat_lit 0))], #[]⟩
noncomputable def t3c4 (f : Bool) (P : Params) : BT := TT1 (o105v108 P) (o104v107 P) f P
noncomputable def S3c4 (f : Bool) (w : World) (os : OsState) : SharedT := ⟨t3c4 f w.params, 106, lf, gs, boot_drawn, 342, os⟩
theorem y3c4 : Y3c0p 34 S3c3 S3c4 := by intro f w a0 a1 a2; kernel_rfl
noncomputable def EL2 : List Value := li (nat_lit 65024) (nat_lit 334) :: li (nat_lit 65025) (nat_lit 335) :: li (nat_lit 65026) (nat_lit 336) :: li (nat_lit 65027) (nat_lit 337) :: li (nat_lit 65028) (nat_lit 338) :: li (nat_lit 65029) (nat_lit 339) :: li (nat_lit 65030) (nat_lit 340) :: li (nat_lit 65031) (nat_lit 341) :: li (nat_lit 65032) (nat_lit 342) :: li (nat_lit 65033) (nat_lit 343) :: []
noncomputable def o104v109 (P : Params) : Obj := ⟨(.type "list"), none, .seq ⟨EL2 ++ []⟩ 12, #[]⟩
noncomputable def o105v110 (P : Params) : Obj := ⟨(.type "range_iterator"), none, .fields #[(.int (.ofNat (nat_lit 65034)) (nat_lit 0)), (.int (.ofNat (nat_lit 6)) (nat_lit 0)), (.int (.ofNat (nat_lit 1)) (nat_lit 0))], #[]⟩
noncomputable def t3c5 (f : Bool) (P : Params) : BT := TT1 (o105v110 P) (o104v109 P) f P
noncomputable def S3c5 (f : Bool) (w : World) (os : OsState) : SharedT := ⟨t3c5 f w.params, 106, lf, gs, boot_drawn, 344, os⟩
theorem y3c5 : Y3c0p 34 S3c4 S3c5 := by intro f w a0 a1 a2; kernel_rfl
noncomputable def o104v111 (P : Params) : Obj := ⟨(.type "list"), none, .seq ⟨EL2 ++ [li (nat_lit 65034) (nat_lit 344), li (nat_lit 65035) (nat_lit 345)]⟩ 14, #[]⟩
noncomputable def o105v112 (P : Params) : Obj := ⟨(.type "range_iterator"), none, .fields #[(.int (.ofNat (nat_lit 65036)) (nat_lit 0)), (.int (.ofNat (nat_lit 4)) (nat_lit 0)), (.int (.ofNat (nat_lit 1)) (nat_lit 0))], #[]⟩
noncomputable def t3c6 (f : Bool) (P : Params) : BT := TT1 (o105v112 P) (o104v111 P) f P
noncomputable def S3c6 (f : Bool) (w : World) (os : OsState) : SharedT := ⟨t3c6 f w.params, 106, lf, gs, boot_drawn, 346, os⟩
theorem y3c6 : Y3c0p 34 S3c5 S3c6 := by intro f w a0 a1 a2; kernel_rfl
noncomputable def o104v113 (P : Params) : Obj := ⟨(.type "list"), none, .seq ⟨EL2 ++ [li (nat_lit 65034) (nat_lit 344), li (nat_lit 65035) (nat_lit 345), li (nat_lit 65036) (nat_lit 346), li (nat_lit 65037) (nat_lit 347)]⟩ 16, #[]⟩
noncomputable def o105v114 (P : Params) : Obj := ⟨(.type "range_iterator"), none, .fields #[(.int (.ofNat (nat_lit 65038)) (nat_lit 0)), (.int (.ofNat (nat_lit 2)) (nat_lit 0)), (.int (.ofNat (nat_lit 1)) (nat_lit 0))], #[]⟩
noncomputable def t3c7 (f : Bool) (P : Params) : BT := TT1 (o105v114 P) (o104v113 P) f P
noncomputable def S3c7 (f : Bool) (w : World) (os : OsState) : SharedT := ⟨t3c7 f w.params, 106, lf, gs, boot_drawn, 348, os⟩
theorem y3c7 : Y3c0p 34 S3c6 S3c7 := by intro f w a0 a1 a2; kernel_rfl
noncomputable def o104v115 (P : Params) : Obj := ⟨(.type "list"), none, .seq ⟨EL2 ++ [li (nat_lit 65034) (nat_lit 344), li (nat_lit 65035) (nat_lit 345), li (nat_lit 65036) (nat_lit 346), li (nat_lit 65037) (nat_lit 347), li (nat_lit 65038) (nat_lit 348), li (nat_lit 65039) (nat_lit 349)]⟩ 18, #[]⟩
noncomputable def o105v116 (P : Params) : Obj := ⟨(.type "range_iterator"), none, .fields #[(.int (.ofNat (nat_lit 65040)) (nat_lit 0)), (.int (.ofNat (nat_lit 0)) (nat_lit 0)), (.int (.ofNat (nat_lit 1)) (nat_lit 0))], #[]⟩
noncomputable def t3c8 (f : Bool) (P : Params) : BT := TT1 (o105v116 P) (o104v115 P) f P
noncomputable def S3c8 (f : Bool) (w : World) (os : OsState) : SharedT := ⟨t3c8 f w.params, 106, lf, gs, boot_drawn, 350, os⟩
theorem y3c8 : Y3c0p 34 S3c7 S3c8 := by intro f w a0 a1 a2; kernel_rfl
noncomputable def o106v117 (P : Params) : Obj := ⟨(.type "tuple"), none, .seq #[] 0, #[]⟩
noncomputable def o107v118 (P : Params) : Obj := ⟨(.type "StopIteration"), none, .fields #[(.ref 106), .none, .none, .none, (.bool false), .none], #[]⟩
noncomputable def EL3 : List Value := li (nat_lit 173) (nat_lit 318) :: li (nat_lit 847) (nat_lit 319) :: li (nat_lit 6150) (nat_lit 320) :: li (nat_lit 6155) (nat_lit 321) :: li (nat_lit 6156) (nat_lit 322) :: li (nat_lit 6157) (nat_lit 323) :: li (nat_lit 8203) (nat_lit 324) :: li (nat_lit 8204) (nat_lit 325) :: li (nat_lit 8205) (nat_lit 326) :: li (nat_lit 8288) (nat_lit 327) :: li (nat_lit 65279) (nat_lit 328) :: li (nat_lit 65024) (nat_lit 334) :: li (nat_lit 65025) (nat_lit 335) :: li (nat_lit 65026) (nat_lit 336) :: li (nat_lit 65027) (nat_lit 337) :: li (nat_lit 65028) (nat_lit 338) :: li (nat_lit 65029) (nat_lit 339) :: li (nat_lit 65030) (nat_lit 340) :: li (nat_lit 65031) (nat_lit 341) :: li (nat_lit 65032) (nat_lit 342) :: li (nat_lit 65033) (nat_lit 343) :: li (nat_lit 65034) (nat_lit 344) :: li (nat_lit 65035) (nat_lit 345) :: li (nat_lit 65036) (nat_lit 346) :: li (nat_lit 65037) (nat_lit 347) :: li (nat_lit 65038) (nat_lit 348) :: li (nat_lit 65039) (nat_lit 349) :: []
noncomputable def o108v119 (P : Params) : Obj := ⟨(.type "list"), none, .seq ⟨EL3 ++ []⟩ 0, #[]⟩
noncomputable def s109v120 (f : Bool) (P : Params) : Obj := ⟨(.type "set"), none, .set #[] 0 { mask := (nat_lit 7), place := #[], dummies := #[], finger := 0, led := !f, moves := 0, plain := true }, #[]⟩
noncomputable def o110v121 (P : Params) : Obj := ⟨(.type "list_iterator"), none, .fields #[(.ref 108), (.int (.ofNat (nat_lit 0)) (nat_lit 0))], #[]⟩
noncomputable def TT2 (x0 x1 : Obj) (f : Bool) (P : Params) : BT := (.node (boot_o_0 P) (.node (boot_o_1 P) (.node (o3v81 P) (.node (boot_o_7 P) (.node (o15v6 P) (.node (o31v24 P) (.node (o63v56 P) .nil .nil) (.node (o95v90 P) .nil .nil)) (.node (o47v40 P) (.node (o79v72 P) .nil .nil) .nil)) (.node (o23v16 P) (.node (o39v32 P) (.node (o71v64 P) .nil .nil) (.node (o103v98 P) .nil .nil)) (.node (o55v48 P) (.node (o87v80 P) .nil .nil) .nil))) (.node (o11v0 P) (.node (o19v10 P) (.node (o35v28 P) (.node (o67v60 P) .nil .nil) (.node (o99v94 P) .nil .nil)) (.node (o51v44 P) (.node (o83v76 P) .nil .nil) .nil)) (.node (o27v20 P) (.node (o43v36 P) (.node (o75v68 P) .nil .nil) (.node (o107v118 P) .nil .nil)) (.node (o59v52 P) (.node (o91v86 P) .nil .nil) .nil)))) (.node (boot_o_5 P) (.node (boot_o_9 P) (.node (o17v8 P) (.node (o33v26 P) (.node (o65v58 P) .nil .nil) (.node (o97v92 P) .nil .nil)) (.node (o49v42 P) (.node (o81v74 P) .nil .nil) .nil)) (.node (o25v18 P) (.node (o41v34 P) (.node (o73v66 P) .nil .nil) (.node (o105v116 P) .nil .nil)) (.node (o57v50 P) (.node (o89v84 P) .nil .nil) .nil))) (.node (o13v2 P) (.node (o21v12 P) (.node (o37v30 P) (.node (o69v62 P) .nil .nil) (.node (o101v96 P) .nil .nil)) (.node (o53v46 P) (.node (o85v78 P) .nil .nil) .nil)) (.node (o29v22 P) (.node (o45v38 P) (.node (o77v70 P) .nil .nil) (.node x0 .nil .nil)) (.node (o61v54 P) (.node (o93v88 P) .nil .nil) .nil))))) (.node (boot_o_2 P) (.node (boot_o_4 P) (.node (boot_o_8 P) (.node (o16v7 P) (.node (o32v25 P) (.node (o64v57 P) .nil .nil) (.node (o96v91 P) .nil .nil)) (.node (o48v41 P) (.node (o80v73 P) .nil .nil) .nil)) (.node (o24v17 P) (.node (o40v33 P) (.node (o72v65 P) .nil .nil) (.node (o104v115 P) .nil .nil)) (.node (o56v49 P) (.node (o88v83 P) .nil .nil) .nil))) (.node (o12v82 P) (.node (o20v11 P) (.node (o36v29 P) (.node (o68v61 P) .nil .nil) (.node (o100v95 P) .nil .nil)) (.node (o52v45 P) (.node (o84v77 P) .nil .nil) .nil)) (.node (o28v21 P) (.node (o44v37 P) (.node (o76v69 P) .nil .nil) (.node (o108v119 P) .nil .nil)) (.node (o60v53 P) (.node (o92v87 P) .nil .nil) .nil)))) (.node (boot_o_6 P) (.node (boot_o_10 P) (.node (o18v9 P) (.node (o34v27 P) (.node (o66v59 P) .nil .nil) (.node (o98v93 P) .nil .nil)) (.node (o50v43 P) (.node (o82v75 P) .nil .nil) .nil)) (.node (o26v19 P) (.node (o42v35 P) (.node (o74v67 P) .nil .nil) (.node (o106v117 P) .nil .nil)) (.node (o58v51 P) (.node (o90v85 P) .nil .nil) .nil))) (.node (o14v3 P) (.node (o22v15 P) (.node (o38v31 P) (.node (o70v63 P) .nil .nil) (.node (o102v97 P) .nil .nil)) (.node (o54v47 P) (.node (o86v79 P) .nil .nil) .nil)) (.node (o30v23 P) (.node (o46v39 P) (.node (o78v71 P) .nil .nil) (.node x1 .nil .nil)) (.node (o62v55 P) (.node (o94v89 P) .nil .nil) .nil))))))
noncomputable def t3c9 (f : Bool) (P : Params) : BT := TT2 (s109v120 f P) (o110v121 P) f P
noncomputable def S3c9 (f : Bool) (w : World) (os : OsState) : SharedT := ⟨t3c9 f w.params, 111, lf, gs, boot_drawn, 350, os⟩
noncomputable def fr3c9 (f : Bool) (w : World) (os : OsState) : List Frame := match twGo twTab pw (wf f (World.withFollow w "special-get-raises" false)) m0 ann 1 59 (S3c8 f (wf f (World.withFollow w "special-get-raises" false)) os) (T3c0 f w os) with | some (_, t) => t.stack | none => []
noncomputable def TH3c9 (fs : List Frame) : Thread := ⟨twDen twTab (.builtin "set.update.loop" ⟨[(.ref 109), (.ref 110)], []⟩), (.builtin "set.update.loop" ⟨[(.ref 109), (.ref 110)], []⟩), ⟨79, 9, 79, 107⟩, fs⟩
noncomputable def T3c9 (f : Bool) (w : World) (os : OsState) : Thread := TH3c9 (fr3c9 f w os)
noncomputable def Q3c9 (f : Bool) (w : World) : Prop := (fun os => twGo twTab pw (wf f w) m0 ann 1 59 (S3c8 f (wf f w) os) (T3c0 f w os)) = fun os => some (S3c9 f (wf f w) os, (T3c9 f w os))
noncomputable def G3c9 (f : Bool) (w : World) (os : OsState) : Option (SharedT × Thread) := twGo twTab pw (wf f w) m0 ann 1 59 (S3c8 f (wf f w) os) (T3c0 f w os)
noncomputable def H3c9 (f : Bool) (w : World) (os : OsState) : Option (SharedT × Thread) := some (S3c9 f (wf f w) os, (T3c9 f w os))
theorem y3c9 : ∀ (w : World), (G3c9 true (World.withFollow w "special-get-raises" false), G3c9 true (World.withFollow w "special-get-raises" true), G3c9 false (World.withFollow w "special-get-raises" false), G3c9 false (World.withFollow w "special-get-raises" true)) = (H3c9 true (World.withFollow w "special-get-raises" false), H3c9 true (World.withFollow w "special-get-raises" true), H3c9 false (World.withFollow w "special-get-raises" false), H3c9 false (World.withFollow w "special-get-raises" true)) := by intro w; kernel_rfl
theorem q3c9 : ∀ f w, Q3c9 f w := fun f => match f with | true => (byRow2 "special-get-raises" (P := fun w => Q3c9 true w) (fun w => (Eq.mp (show (G3c9 true (World.withFollow w "special-get-raises" false) = H3c9 true (World.withFollow w "special-get-raises" false)) = Q3c9 true (World.withFollow w "special-get-raises" false) from by kernel_rfl) (pr1 (y3c9 w)))) (fun w => (Eq.mp (show (G3c9 true (World.withFollow w "special-get-raises" true) = H3c9 true (World.withFollow w "special-get-raises" true)) = Q3c9 true (World.withFollow w "special-get-raises" true) from by kernel_rfl) (pr2 (y3c9 w))))) | false => (byRow2 "special-get-raises" (P := fun w => Q3c9 false w) (fun w => (Eq.mp (show (G3c9 false (World.withFollow w "special-get-raises" false) = H3c9 false (World.withFollow w "special-get-raises" false)) = Q3c9 false (World.withFollow w "special-get-raises" false) from by kernel_rfl) (pr3 (y3c9 w)))) (fun w => (Eq.mp (show (G3c9 false (World.withFollow w "special-get-raises" true) = H3c9 false (World.withFollow w "special-get-raises" true)) = Q3c9 false (World.withFollow w "special-get-raises" true) from by kernel_rfl) (pr4 (y3c9 w)))))
theorem l3c9 (f : Bool) (w : World) : (fun os => (fr3c9 f w os).length) = fun _ => 4 := by kernel_rfl
noncomputable def s109v122 (f : Bool) (P : Params) : Obj := ⟨(.type "set"), none, .set #[ei (nat_lit 173) (nat_lit 318)] 1 { mask := (nat_lit 7), place := #[(nat_lit 5)], dummies := #[], finger := 0, led := !f, moves := 0, plain := true }, #[]⟩
noncomputable def o110v123 (P : Params) : Obj := ⟨(.type "list_iterator"), none, .fields #[(.ref 108), (.int (.ofNat (nat_lit 1)) (nat_lit 0))], #[]⟩
noncomputable def t3c10 (f : Bool) (P : Params) : BT := TT2 (s109v122 f P) (o110v123 P) f P
noncomputable def S3c10 (f : Bool) (w : World) (os : OsState) : SharedT := ⟨t3c10 f w.params, 111, lf, gs, boot_drawn, 351, os⟩
noncomputable def GG3c9 (k : Nat) (A : Bool → World → OsState → SharedT) (f : Bool) (w : World) (a0 a1 a2 a3 : Frame) (os : OsState) : Option (SharedT × Thread) := twGo twTab pw (wf f w) m0 ann 1 k (A f (wf f w) os) (TH3c9 [a0, a1, a2, a3])
noncomputable def HH3c9 (B : Bool → World → OsState → SharedT) (f : Bool) (w : World) (a0 a1 a2 a3 : Frame) (os : OsState) : Option (SharedT × Thread) := some (B f (wf f w) os, TH3c9 [a0, a1, a2, a3])
noncomputable def Y3c9ms (k : Nat) (A B : Bool → World → OsState → SharedT) : Prop := ∀ (w : World) (a0 a1 a2 a3 : Frame), (GG3c9 k A true (World.withFollow w "special-get-raises" false) a0 a1 a2 a3, GG3c9 k A true (World.withFollow w "special-get-raises" true) a0 a1 a2 a3, GG3c9 k A false (World.withFollow w "special-get-raises" false) a0 a1 a2 a3, GG3c9 k A false (World.withFollow w "special-get-raises" true) a0 a1 a2 a3) = (HH3c9 B true (World.withFollow w "special-get-raises" false) a0 a1 a2 a3, HH3c9 B true (World.withFollow w "special-get-raises" true) a0 a1 a2 a3, HH3c9 B false (World.withFollow w "special-get-raises" false) a0 a1 a2 a3, HH3c9 B false (World.withFollow w "special-get-raises" true) a0 a1 a2 a3)
theorem X3c9ms {k : Nat} {A B : Bool → World → OsState → SharedT} (y : Y3c9ms k A B) : ∀ (f : Bool) (w : World) (a0 a1 a2 a3 : Frame), GG3c9 k A f w a0 a1 a2 a3 = HH3c9 B f w a0 a1 a2 a3 :=
  let P := fun (f : Bool) (w : World) => ∀ a0 a1 a2 a3 : Frame, GG3c9 k A f w a0 a1 a2 a3 = HH3c9 B f w a0 a1 a2 a3
  show ∀ f w, P f w from fun f => match f with | true => byRow2 "special-get-raises" (P := fun w => P true w) (fun w a0 a1 a2 a3 => pr1 (y w a0 a1 a2 a3)) (fun w a0 a1 a2 a3 => pr2 (y w a0 a1 a2 a3)) | false => byRow2 "special-get-raises" (P := fun w => P false w) (fun w a0 a1 a2 a3 => pr3 (y w a0 a1 a2 a3)) (fun w a0 a1 a2 a3 => pr4 (y w a0 a1 a2 a3))
theorem U3c9ms {k : Nat} {A B : Bool → World → OsState → SharedT} (y : Y3c9ms k A B) (f : Bool) (w : World) (os : OsState) : twGo twTab pw (wf f w) m0 ann 1 k (A f (wf f w) os) (T3c9 f w os) = some (B f (wf f w) os, T3c9 f w os) :=
  lift4 (P := fun fs => twGo twTab pw (wf f w) m0 ann 1 k (A f (wf f w) os) (TH3c9 fs) = some (B f (wf f w) os, TH3c9 fs)) (fun a0 a1 a2 a3 => congrFun (X3c9ms y f w a0 a1 a2 a3) os) _ (congrFun (l3c9 f w) os)
theorem y3c10 : Y3c9ms 20 S3c9 S3c10 := by intro w a0 a1 a2 a3; kernel_rfl
noncomputable def s109v124 (f : Bool) (P : Params) : Obj := ⟨(.type "set"), none, .set #[ei (nat_lit 173) (nat_lit 318), ei (nat_lit 847) (nat_lit 319)] 2 { mask := (nat_lit 7), place := #[(nat_lit 5), (nat_lit 7)], dummies := #[], finger := 0, led := !f, moves := 0, plain := true }, #[]⟩
noncomputable def o110v125 (P : Params) : Obj := ⟨(.type "list_iterator"), none, .fields #[(.ref 108), (.int (.ofNat (nat_lit 2)) (nat_lit 0))], #[]⟩
noncomputable def t3c11 (f : Bool) (P : Params) : BT := TT2 (s109v124 f P) (o110v125 P) f P
noncomputable def S3c11 (f : Bool) (w : World) (os : OsState) : SharedT := ⟨t3c11 f w.params, 111, lf, gs, boot_drawn, 352, os⟩
theorem y3c11 : Y3c9ms 20 S3c10 S3c11 := by intro w a0 a1 a2 a3; kernel_rfl
noncomputable def s109v126 (f : Bool) (P : Params) : Obj := ⟨(.type "set"), none, .set #[ei (nat_lit 173) (nat_lit 318), ei (nat_lit 6150) (nat_lit 320), ei (nat_lit 847) (nat_lit 319)] 3 { mask := (nat_lit 7), place := #[(nat_lit 5), (nat_lit 6), (nat_lit 7)], dummies := #[], finger := 0, led := !f, moves := 0, plain := true }, #[]⟩
noncomputable def o110v127 (P : Params) : Obj := ⟨(.type "list_iterator"), none, .fields #[(.ref 108), (.int (.ofNat (nat_lit 3)) (nat_lit 0))], #[]⟩
noncomputable def t3c12 (f : Bool) (P : Params) : BT := TT2 (s109v126 f P) (o110v127 P) f P
noncomputable def S3c12 (f : Bool) (w : World) (os : OsState) : SharedT := ⟨t3c12 f w.params, 111, lf, gs, boot_drawn, 353, os⟩
theorem y3c12 : Y3c9ms 20 S3c11 S3c12 := by intro w a0 a1 a2 a3; kernel_rfl
noncomputable def s109v128 (f : Bool) (P : Params) : Obj := ⟨(.type "set"), none, .set #[ei (nat_lit 6155) (nat_lit 321), ei (nat_lit 173) (nat_lit 318), ei (nat_lit 6150) (nat_lit 320), ei (nat_lit 847) (nat_lit 319)] 4 { mask := (nat_lit 7), place := #[(nat_lit 3), (nat_lit 5), (nat_lit 6), (nat_lit 7)], dummies := #[], finger := 0, led := !f, moves := 0, plain := true }, #[]⟩
noncomputable def o110v129 (P : Params) : Obj := ⟨(.type "list_iterator"), none, .fields #[(.ref 108), (.int (.ofNat (nat_lit 4)) (nat_lit 0))], #[]⟩
noncomputable def t3c13 (f : Bool) (P : Params) : BT := TT2 (s109v128 f P) (o110v129 P) f P
noncomputable def S3c13 (f : Bool) (w : World) (os : OsState) : SharedT := ⟨t3c13 f w.params, 111, lf, gs, boot_drawn, 354, os⟩
theorem y3c13 : Y3c9ms 20 S3c12 S3c13 := by intro w a0 a1 a2 a3; kernel_rfl
noncomputable def s109v130 (f : Bool) (P : Params) : Obj := ⟨(.type "set"), none, .set #[ei (nat_lit 6150) (nat_lit 320), ei (nat_lit 6155) (nat_lit 321), ei (nat_lit 6156) (nat_lit 322), ei (nat_lit 173) (nat_lit 318), ei (nat_lit 847) (nat_lit 319)] 6 { mask := (nat_lit 31), place := #[(nat_lit 6), (nat_lit 11), (nat_lit 12), (nat_lit 13), (nat_lit 15)], dummies := #[], finger := 0, led := !f, moves := 1, plain := true }, #[]⟩
noncomputable def o110v131 (P : Params) : Obj := ⟨(.type "list_iterator"), none, .fields #[(.ref 108), (.int (.ofNat (nat_lit 5)) (nat_lit 0))], #[]⟩
noncomputable def t3c14 (f : Bool) (P : Params) : BT := TT2 (s109v130 f P) (o110v131 P) f P
noncomputable def S3c14 (f : Bool) (w : World) (os : OsState) : SharedT := ⟨t3c14 f w.params, 111, lf, gs, boot_drawn, 355, os⟩
theorem y3c14 : Y3c9ms 22 S3c13 S3c14 := by intro w a0 a1 a2 a3; kernel_rfl
noncomputable def s109v132 (f : Bool) (P : Params) : Obj := ⟨(.type "set"), none, .set #[ei (nat_lit 6150) (nat_lit 320), ei (nat_lit 6155) (nat_lit 321), ei (nat_lit 6156) (nat_lit 322), ei (nat_lit 173) (nat_lit 318), ei (nat_lit 6157) (nat_lit 323), ei (nat_lit 847) (nat_lit 319)] 7 { mask := (nat_lit 31), place := #[(nat_lit 6), (nat_lit 11), (nat_lit 12), (nat_lit 13), (nat_lit 14), (nat_lit 15)], dummies := #[], finger := 0, led := !f, moves := 1, plain := true }, #[]⟩
noncomputable def o110v133 (P : Params) : Obj := ⟨(.type "list_iterator"), none, .fields #[(.ref 108), (.int (.ofNat (nat_lit 6)) (nat_lit 0))], #[]⟩
noncomputable def t3c15 (f : Bool) (P : Params) : BT := TT2 (s109v132 f P) (o110v133 P) f P
noncomputable def S3c15 (f : Bool) (w : World) (os : OsState) : SharedT := ⟨t3c15 f w.params, 111, lf, gs, boot_drawn, 356, os⟩
theorem y3c15 : Y3c9ms 20 S3c14 S3c15 := by intro w a0 a1 a2 a3; kernel_rfl
noncomputable def s109v134 (f : Bool) (P : Params) : Obj := ⟨(.type "set"), none, .set #[ei (nat_lit 6150) (nat_lit 320), ei (nat_lit 6155) (nat_lit 321), ei (nat_lit 6156) (nat_lit 322), ei (nat_lit 173) (nat_lit 318), ei (nat_lit 6157) (nat_lit 323), ei (nat_lit 847) (nat_lit 319), ei (nat_lit 8203) (nat_lit 324)] 8 { mask := (nat_lit 31), place := #[(nat_lit 6), (nat_lit 11), (nat_lit 12), (nat_lit 13), (nat_lit 14), (nat_lit 15), (nat_lit 16)], dummies := #[], finger := 0, led := !f, moves := 1, plain := true }, #[]⟩
noncomputable def o110v135 (P : Params) : Obj := ⟨(.type "list_iterator"), none, .fields #[(.ref 108), (.int (.ofNat (nat_lit 7)) (nat_lit 0))], #[]⟩
noncomputable def t3c16 (f : Bool) (P : Params) : BT := TT2 (s109v134 f P) (o110v135 P) f P
noncomputable def S3c16 (f : Bool) (w : World) (os : OsState) : SharedT := ⟨t3c16 f w.params, 111, lf, gs, boot_drawn, 357, os⟩
theorem y3c16 : Y3c9ms 20 S3c15 S3c16 := by intro w a0 a1 a2 a3; kernel_rfl
noncomputable def s109v136 (f : Bool) (P : Params) : Obj := ⟨(.type "set"), none, .set #[ei (nat_lit 6150) (nat_lit 320), ei (nat_lit 6155) (nat_lit 321), ei (nat_lit 6156) (nat_lit 322), ei (nat_lit 173) (nat_lit 318), ei (nat_lit 6157) (nat_lit 323), ei (nat_lit 847) (nat_lit 319), ei (nat_lit 8203) (nat_lit 324), ei (nat_lit 8204) (nat_lit 325)] 9 { mask := (nat_lit 31), place := #[(nat_lit 6), (nat_lit 11), (nat_lit 12), (nat_lit 13), (nat_lit 14), (nat_lit 15), (nat_lit 16), (nat_lit 17)], dummies := #[], finger := 0, led := !f, moves := 1, plain := true }, #[]⟩
noncomputable def o110v137 (P : Params) : Obj := ⟨(.type "list_iterator"), none, .fields #[(.ref 108), (.int (.ofNat (nat_lit 8)) (nat_lit 0))], #[]⟩
noncomputable def t3c17 (f : Bool) (P : Params) : BT := TT2 (s109v136 f P) (o110v137 P) f P
noncomputable def S3c17 (f : Bool) (w : World) (os : OsState) : SharedT := ⟨t3c17 f w.params, 111, lf, gs, boot_drawn, 358, os⟩
theorem y3c17 : Y3c9ms 20 S3c16 S3c17 := by intro w a0 a1 a2 a3; kernel_rfl
noncomputable def EB4 : List (Int × Value) := ei (nat_lit 6150) (nat_lit 320) :: ei (nat_lit 6155) (nat_lit 321) :: ei (nat_lit 6156) (nat_lit 322) :: ei (nat_lit 173) (nat_lit 318) :: ei (nat_lit 6157) (nat_lit 323) :: ei (nat_lit 847) (nat_lit 319) :: ei (nat_lit 8203) (nat_lit 324) :: ei (nat_lit 8204) (nat_lit 325) :: ei (nat_lit 8205) (nat_lit 326) :: []
noncomputable def EP4 : List Nat := (nat_lit 6) :: (nat_lit 11) :: (nat_lit 12) :: (nat_lit 13) :: (nat_lit 14) :: (nat_lit 15) :: (nat_lit 16) :: (nat_lit 17) :: (nat_lit 18) :: []
noncomputable def s109v138 (f : Bool) (P : Params) : Obj := ⟨(.type "set"), none, .set ⟨EB4 ++ []⟩ 10 { mask := (nat_lit 31), place := ⟨EP4 ++ []⟩, dummies := #[], finger := 0, led := !f, moves := 1, plain := true }, #[]⟩
noncomputable def o110v139 (P : Params) : Obj := ⟨(.type "list_iterator"), none, .fields #[(.ref 108), (.int (.ofNat (nat_lit 9)) (nat_lit 0))], #[]⟩
noncomputable def t3c18 (f : Bool) (P : Params) : BT := TT2 (s109v138 f P) (o110v139 P) f P
noncomputable def S3c18 (f : Bool) (w : World) (os : OsState) : SharedT := ⟨t3c18 f w.params, 111, lf, gs, boot_drawn, 359, os⟩
theorem y3c18 : Y3c9ms 20 S3c17 S3c18 := by intro w a0 a1 a2 a3; kernel_rfl
noncomputable def EB5 : List (Int × Value) := ei (nat_lit 8288) (nat_lit 327) :: ei (nat_lit 6150) (nat_lit 320) :: ei (nat_lit 6155) (nat_lit 321) :: ei (nat_lit 6156) (nat_lit 322) :: ei (nat_lit 173) (nat_lit 318) :: ei (nat_lit 6157) (nat_lit 323) :: ei (nat_lit 847) (nat_lit 319) :: ei (nat_lit 8203) (nat_lit 324) :: ei (nat_lit 8204) (nat_lit 325) :: ei (nat_lit 8205) (nat_lit 326) :: []
noncomputable def EP5 : List Nat := (nat_lit 0) :: (nat_lit 6) :: (nat_lit 11) :: (nat_lit 12) :: (nat_lit 13) :: (nat_lit 14) :: (nat_lit 15) :: (nat_lit 16) :: (nat_lit 17) :: (nat_lit 18) :: []
noncomputable def s109v140 (f : Bool) (P : Params) : Obj := ⟨(.type "set"), none, .set ⟨EB5 ++ []⟩ 11 { mask := (nat_lit 31), place := ⟨EP5 ++ []⟩, dummies := #[], finger := 0, led := !f, moves := 1, plain := true }, #[]⟩
noncomputable def o110v141 (P : Params) : Obj := ⟨(.type "list_iterator"), none, .fields #[(.ref 108), (.int (.ofNat (nat_lit 10)) (nat_lit 0))], #[]⟩
noncomputable def t3c19 (f : Bool) (P : Params) : BT := TT2 (s109v140 f P) (o110v141 P) f P
noncomputable def S3c19 (f : Bool) (w : World) (os : OsState) : SharedT := ⟨t3c19 f w.params, 111, lf, gs, boot_drawn, 360, os⟩
theorem y3c19 : Y3c9ms 20 S3c18 S3c19 := by intro w a0 a1 a2 a3; kernel_rfl
noncomputable def s109v142 (f : Bool) (P : Params) : Obj := ⟨(.type "set"), none, .set ⟨EB5 ++ [ei (nat_lit 65279) (nat_lit 328)]⟩ 12 { mask := (nat_lit 31), place := ⟨EP5 ++ [(nat_lit 31)]⟩, dummies := #[], finger := 0, led := !f, moves := 1, plain := true }, #[]⟩
noncomputable def o110v143 (P : Params) : Obj := ⟨(.type "list_iterator"), none, .fields #[(.ref 108), (.int (.ofNat (nat_lit 11)) (nat_lit 0))], #[]⟩
noncomputable def t3c20 (f : Bool) (P : Params) : BT := TT2 (s109v142 f P) (o110v143 P) f P
noncomputable def S3c20 (f : Bool) (w : World) (os : OsState) : SharedT := ⟨t3c20 f w.params, 111, lf, gs, boot_drawn, 361, os⟩
theorem y3c20 : Y3c9ms 20 S3c19 S3c20 := by intro w a0 a1 a2 a3; kernel_rfl
noncomputable def EB6 : List (Int × Value) := ei (nat_lit 8288) (nat_lit 327) :: ei (nat_lit 65024) (nat_lit 334) :: ei (nat_lit 6150) (nat_lit 320) :: ei (nat_lit 6155) (nat_lit 321) :: ei (nat_lit 6156) (nat_lit 322) :: ei (nat_lit 173) (nat_lit 318) :: ei (nat_lit 6157) (nat_lit 323) :: ei (nat_lit 847) (nat_lit 319) :: ei (nat_lit 8203) (nat_lit 324) :: ei (nat_lit 8204) (nat_lit 325) :: ei (nat_lit 8205) (nat_lit 326) :: ei (nat_lit 65279) (nat_lit 328) :: []
noncomputable def EP6 : List Nat := (nat_lit 0) :: (nat_lit 1) :: (nat_lit 6) :: (nat_lit 11) :: (nat_lit 12) :: (nat_lit 13) :: (nat_lit 14) :: (nat_lit 15) :: (nat_lit 16) :: (nat_lit 17) :: (nat_lit 18) :: (nat_lit 31) :: []
noncomputable def s109v144 (f : Bool) (P : Params) : Obj := ⟨(.type "set"), none, .set ⟨EB6 ++ []⟩ 13 { mask := (nat_lit 31), place := ⟨EP6 ++ []⟩, dummies := #[], finger := 0, led := !f, moves := 1, plain := true }, #[]⟩
noncomputable def o110v145 (P : Params) : Obj := ⟨(.type "list_iterator"), none, .fields #[(.ref 108), (.int (.ofNat (nat_lit 12)) (nat_lit 0))], #[]⟩
noncomputable def t3c21 (f : Bool) (P : Params) : BT := TT2 (s109v144 f P) (o110v145 P) f P
noncomputable def S3c21 (f : Bool) (w : World) (os : OsState) : SharedT := ⟨t3c21 f w.params, 111, lf, gs, boot_drawn, 362, os⟩
theorem y3c21 : Y3c9ms 20 S3c20 S3c21 := by intro w a0 a1 a2 a3; kernel_rfl
noncomputable def EB7 : List (Int × Value) := ei (nat_lit 8288) (nat_lit 327) :: ei (nat_lit 65024) (nat_lit 334) :: ei (nat_lit 65025) (nat_lit 335) :: ei (nat_lit 6150) (nat_lit 320) :: ei (nat_lit 6155) (nat_lit 321) :: ei (nat_lit 6156) (nat_lit 322) :: ei (nat_lit 173) (nat_lit 318) :: ei (nat_lit 6157) (nat_lit 323) :: ei (nat_lit 847) (nat_lit 319) :: ei (nat_lit 8203) (nat_lit 324) :: ei (nat_lit 8204) (nat_lit 325) :: ei (nat_lit 8205) (nat_lit 326) :: ei (nat_lit 65279) (nat_lit 328) :: []
noncomputable def EP7 : List Nat := (nat_lit 0) :: (nat_lit 1) :: (nat_lit 2) :: (nat_lit 6) :: (nat_lit 11) :: (nat_lit 12) :: (nat_lit 13) :: (nat_lit 14) :: (nat_lit 15) :: (nat_lit 16) :: (nat_lit 17) :: (nat_lit 18) :: (nat_lit 31) :: []
noncomputable def s109v146 (f : Bool) (P : Params) : Obj := ⟨(.type "set"), none, .set ⟨EB7 ++ []⟩ 14 { mask := (nat_lit 31), place := ⟨EP7 ++ []⟩, dummies := #[], finger := 0, led := !f, moves := 1, plain := true }, #[]⟩
noncomputable def o110v147 (P : Params) : Obj := ⟨(.type "list_iterator"), none, .fields #[(.ref 108), (.int (.ofNat (nat_lit 13)) (nat_lit 0))], #[]⟩
noncomputable def t3c22 (f : Bool) (P : Params) : BT := TT2 (s109v146 f P) (o110v147 P) f P
noncomputable def S3c22 (f : Bool) (w : World) (os : OsState) : SharedT := ⟨t3c22 f w.params, 111, lf, gs, boot_drawn, 363, os⟩
theorem y3c22 : Y3c9ms 20 S3c21 S3c22 := by intro w a0 a1 a2 a3; kernel_rfl
noncomputable def EB8 : List (Int × Value) := ei (nat_lit 8288) (nat_lit 327) :: ei (nat_lit 65024) (nat_lit 334) :: ei (nat_lit 65025) (nat_lit 335) :: ei (nat_lit 65026) (nat_lit 336) :: ei (nat_lit 6150) (nat_lit 320) :: ei (nat_lit 6155) (nat_lit 321) :: ei (nat_lit 6156) (nat_lit 322) :: ei (nat_lit 173) (nat_lit 318) :: ei (nat_lit 6157) (nat_lit 323) :: ei (nat_lit 847) (nat_lit 319) :: ei (nat_lit 8203) (nat_lit 324) :: ei (nat_lit 8204) (nat_lit 325) :: ei (nat_lit 8205) (nat_lit 326) :: ei (nat_lit 65279) (nat_lit 328) :: []
noncomputable def EP8 : List Nat := (nat_lit 0) :: (nat_lit 1) :: (nat_lit 2) :: (nat_lit 3) :: (nat_lit 6) :: (nat_lit 11) :: (nat_lit 12) :: (nat_lit 13) :: (nat_lit 14) :: (nat_lit 15) :: (nat_lit 16) :: (nat_lit 17) :: (nat_lit 18) :: (nat_lit 31) :: []
noncomputable def s109v148 (f : Bool) (P : Params) : Obj := ⟨(.type "set"), none, .set ⟨EB8 ++ []⟩ 15 { mask := (nat_lit 31), place := ⟨EP8 ++ []⟩, dummies := #[], finger := 0, led := !f, moves := 1, plain := true }, #[]⟩
noncomputable def o110v149 (P : Params) : Obj := ⟨(.type "list_iterator"), none, .fields #[(.ref 108), (.int (.ofNat (nat_lit 14)) (nat_lit 0))], #[]⟩
noncomputable def t3c23 (f : Bool) (P : Params) : BT := TT2 (s109v148 f P) (o110v149 P) f P
noncomputable def S3c23 (f : Bool) (w : World) (os : OsState) : SharedT := ⟨t3c23 f w.params, 111, lf, gs, boot_drawn, 364, os⟩
theorem y3c23 : Y3c9ms 20 S3c22 S3c23 := by intro w a0 a1 a2 a3; kernel_rfl
noncomputable def EB9 : List (Int × Value) := ei (nat_lit 8288) (nat_lit 327) :: ei (nat_lit 65024) (nat_lit 334) :: ei (nat_lit 65025) (nat_lit 335) :: ei (nat_lit 65026) (nat_lit 336) :: ei (nat_lit 65027) (nat_lit 337) :: ei (nat_lit 6150) (nat_lit 320) :: ei (nat_lit 6155) (nat_lit 321) :: ei (nat_lit 6156) (nat_lit 322) :: ei (nat_lit 173) (nat_lit 318) :: ei (nat_lit 6157) (nat_lit 323) :: ei (nat_lit 847) (nat_lit 319) :: ei (nat_lit 8203) (nat_lit 324) :: ei (nat_lit 8204) (nat_lit 325) :: ei (nat_lit 8205) (nat_lit 326) :: ei (nat_lit 65279) (nat_lit 328) :: []
noncomputable def EP9 : List Nat := (nat_lit 0) :: (nat_lit 1) :: (nat_lit 2) :: (nat_lit 3) :: (nat_lit 4) :: (nat_lit 6) :: (nat_lit 11) :: (nat_lit 12) :: (nat_lit 13) :: (nat_lit 14) :: (nat_lit 15) :: (nat_lit 16) :: (nat_lit 17) :: (nat_lit 18) :: (nat_lit 31) :: []
noncomputable def s109v150 (f : Bool) (P : Params) : Obj := ⟨(.type "set"), none, .set ⟨EB9 ++ []⟩ 16 { mask := (nat_lit 31), place := ⟨EP9 ++ []⟩, dummies := #[], finger := 0, led := !f, moves := 1, plain := true }, #[]⟩
noncomputable def o110v151 (P : Params) : Obj := ⟨(.type "list_iterator"), none, .fields #[(.ref 108), (.int (.ofNat (nat_lit 15)) (nat_lit 0))], #[]⟩
noncomputable def t3c24 (f : Bool) (P : Params) : BT := TT2 (s109v150 f P) (o110v151 P) f P
noncomputable def S3c24 (f : Bool) (w : World) (os : OsState) : SharedT := ⟨t3c24 f w.params, 111, lf, gs, boot_drawn, 365, os⟩
theorem y3c24 : Y3c9ms 20 S3c23 S3c24 := by intro w a0 a1 a2 a3; kernel_rfl
noncomputable def EB10 : List (Int × Value) := ei (nat_lit 8288) (nat_lit 327) :: ei (nat_lit 65024) (nat_lit 334) :: ei (nat_lit 65025) (nat_lit 335) :: ei (nat_lit 65026) (nat_lit 336) :: ei (nat_lit 65027) (nat_lit 337) :: ei (nat_lit 65028) (nat_lit 338) :: ei (nat_lit 6150) (nat_lit 320) :: ei (nat_lit 6155) (nat_lit 321) :: ei (nat_lit 6156) (nat_lit 322) :: ei (nat_lit 173) (nat_lit 318) :: ei (nat_lit 6157) (nat_lit 323) :: ei (nat_lit 847) (nat_lit 319) :: ei (nat_lit 8203) (nat_lit 324) :: ei (nat_lit 8204) (nat_lit 325) :: ei (nat_lit 8205) (nat_lit 326) :: ei (nat_lit 65279) (nat_lit 328) :: []
noncomputable def EP10 : List Nat := (nat_lit 0) :: (nat_lit 1) :: (nat_lit 2) :: (nat_lit 3) :: (nat_lit 4) :: (nat_lit 5) :: (nat_lit 6) :: (nat_lit 11) :: (nat_lit 12) :: (nat_lit 13) :: (nat_lit 14) :: (nat_lit 15) :: (nat_lit 16) :: (nat_lit 17) :: (nat_lit 18) :: (nat_lit 31) :: []
noncomputable def s109v152 (f : Bool) (P : Params) : Obj := ⟨(.type "set"), none, .set ⟨EB10 ++ []⟩ 17 { mask := (nat_lit 31), place := ⟨EP10 ++ []⟩, dummies := #[], finger := 0, led := !f, moves := 1, plain := true }, #[]⟩
noncomputable def o110v153 (P : Params) : Obj := ⟨(.type "list_iterator"), none, .fields #[(.ref 108), (.int (.ofNat (nat_lit 16)) (nat_lit 0))], #[]⟩
noncomputable def t3c25 (f : Bool) (P : Params) : BT := TT2 (s109v152 f P) (o110v153 P) f P
noncomputable def S3c25 (f : Bool) (w : World) (os : OsState) : SharedT := ⟨t3c25 f w.params, 111, lf, gs, boot_drawn, 366, os⟩
theorem y3c25 : Y3c9ms 20 S3c24 S3c25 := by intro w a0 a1 a2 a3; kernel_rfl
noncomputable def EB11 : List (Int × Value) := ei (nat_lit 8288) (nat_lit 327) :: ei (nat_lit 65024) (nat_lit 334) :: ei (nat_lit 65025) (nat_lit 335) :: ei (nat_lit 65026) (nat_lit 336) :: ei (nat_lit 65027) (nat_lit 337) :: ei (nat_lit 65028) (nat_lit 338) :: ei (nat_lit 6150) (nat_lit 320) :: ei (nat_lit 65029) (nat_lit 339) :: ei (nat_lit 6155) (nat_lit 321) :: ei (nat_lit 6156) (nat_lit 322) :: ei (nat_lit 173) (nat_lit 318) :: ei (nat_lit 6157) (nat_lit 323) :: ei (nat_lit 847) (nat_lit 319) :: ei (nat_lit 8203) (nat_lit 324) :: ei (nat_lit 8204) (nat_lit 325) :: ei (nat_lit 8205) (nat_lit 326) :: ei (nat_lit 65279) (nat_lit 328) :: []
noncomputable def EP11 : List Nat := (nat_lit 0) :: (nat_lit 1) :: (nat_lit 2) :: (nat_lit 3) :: (nat_lit 4) :: (nat_lit 5) :: (nat_lit 6) :: (nat_lit 7) :: (nat_lit 11) :: (nat_lit 12) :: (nat_lit 13) :: (nat_lit 14) :: (nat_lit 15) :: (nat_lit 16) :: (nat_lit 17) :: (nat_lit 18) :: (nat_lit 31) :: []
noncomputable def s109v154 (f : Bool) (P : Params) : Obj := ⟨(.type "set"), none, .set ⟨EB11 ++ []⟩ 18 { mask := (nat_lit 31), place := ⟨EP11 ++ []⟩, dummies := #[], finger := 0, led := !f, moves := 1, plain := true }, #[]⟩
noncomputable def o110v155 (P : Params) : Obj := ⟨(.type "list_iterator"), none, .fields #[(.ref 108), (.int (.ofNat (nat_lit 17)) (nat_lit 0))], #[]⟩
noncomputable def t3c26 (f : Bool) (P : Params) : BT := TT2 (s109v154 f P) (o110v155 P) f P
noncomputable def S3c26 (f : Bool) (w : World) (os : OsState) : SharedT := ⟨t3c26 f w.params, 111, lf, gs, boot_drawn, 367, os⟩
theorem y3c26 : Y3c9ms 20 S3c25 S3c26 := by intro w a0 a1 a2 a3; kernel_rfl
noncomputable def EB12 : List (Int × Value) := ei (nat_lit 8288) (nat_lit 327) :: ei (nat_lit 65024) (nat_lit 334) :: ei (nat_lit 65025) (nat_lit 335) :: ei (nat_lit 65026) (nat_lit 336) :: ei (nat_lit 65027) (nat_lit 337) :: ei (nat_lit 65028) (nat_lit 338) :: ei (nat_lit 6150) (nat_lit 320) :: ei (nat_lit 65029) (nat_lit 339) :: ei (nat_lit 65030) (nat_lit 340) :: ei (nat_lit 6155) (nat_lit 321) :: ei (nat_lit 6156) (nat_lit 322) :: ei (nat_lit 173) (nat_lit 318) :: ei (nat_lit 6157) (nat_lit 323) :: ei (nat_lit 847) (nat_lit 319) :: ei (nat_lit 8203) (nat_lit 324) :: ei (nat_lit 8204) (nat_lit 325) :: ei (nat_lit 8205) (nat_lit 326) :: ei (nat_lit 65279) (nat_lit 328) :: []
noncomputable def EP12 : List Nat := (nat_lit 0) :: (nat_lit 1) :: (nat_lit 2) :: (nat_lit 3) :: (nat_lit 4) :: (nat_lit 5) :: (nat_lit 6) :: (nat_lit 7) :: (nat_lit 8) :: (nat_lit 11) :: (nat_lit 12) :: (nat_lit 13) :: (nat_lit 14) :: (nat_lit 15) :: (nat_lit 16) :: (nat_lit 17) :: (nat_lit 18) :: (nat_lit 31) :: []
noncomputable def s109v156 (f : Bool) (P : Params) : Obj := ⟨(.type "set"), none, .set ⟨EB12 ++ []⟩ 19 { mask := (nat_lit 31), place := ⟨EP12 ++ []⟩, dummies := #[], finger := 0, led := !f, moves := 1, plain := true }, #[]⟩
noncomputable def o110v157 (P : Params) : Obj := ⟨(.type "list_iterator"), none, .fields #[(.ref 108), (.int (.ofNat (nat_lit 18)) (nat_lit 0))], #[]⟩
noncomputable def t3c27 (f : Bool) (P : Params) : BT := TT2 (s109v156 f P) (o110v157 P) f P
noncomputable def S3c27 (f : Bool) (w : World) (os : OsState) : SharedT := ⟨t3c27 f w.params, 111, lf, gs, boot_drawn, 368, os⟩
theorem y3c27 : Y3c9ms 20 S3c26 S3c27 := by intro w a0 a1 a2 a3; kernel_rfl
noncomputable def EB13 : List (Int × Value) := ei (nat_lit 65024) (nat_lit 334) :: ei (nat_lit 65025) (nat_lit 335) :: ei (nat_lit 65026) (nat_lit 336) :: ei (nat_lit 65027) (nat_lit 337) :: ei (nat_lit 65028) (nat_lit 338) :: ei (nat_lit 65029) (nat_lit 339) :: ei (nat_lit 6150) (nat_lit 320) :: ei (nat_lit 65030) (nat_lit 340) :: ei (nat_lit 65031) (nat_lit 341) :: ei (nat_lit 6155) (nat_lit 321) :: ei (nat_lit 6156) (nat_lit 322) :: ei (nat_lit 6157) (nat_lit 323) :: ei (nat_lit 8203) (nat_lit 324) :: ei (nat_lit 8204) (nat_lit 325) :: ei (nat_lit 8205) (nat_lit 326) :: ei (nat_lit 173) (nat_lit 318) :: ei (nat_lit 847) (nat_lit 319) :: ei (nat_lit 8288) (nat_lit 327) :: ei (nat_lit 65279) (nat_lit 328) :: []
noncomputable def EP13 : List Nat := (nat_lit 0) :: (nat_lit 1) :: (nat_lit 2) :: (nat_lit 3) :: (nat_lit 4) :: (nat_lit 5) :: (nat_lit 6) :: (nat_lit 7) :: (nat_lit 8) :: (nat_lit 11) :: (nat_lit 12) :: (nat_lit 13) :: (nat_lit 14) :: (nat_lit 15) :: (nat_lit 16) :: (nat_lit 45) :: (nat_lit 79) :: (nat_lit 96) :: (nat_lit 127) :: []
noncomputable def s109v158 (f : Bool) (P : Params) : Obj := ⟨(.type "set"), none, .set ⟨EB13 ++ []⟩ 21 { mask := (nat_lit 127), place := ⟨EP13 ++ []⟩, dummies := #[], finger := 0, led := !f, moves := 2, plain := true }, #[]⟩
noncomputable def o110v159 (P : Params) : Obj := ⟨(.type "list_iterator"), none, .fields #[(.ref 108), (.int (.ofNat (nat_lit 19)) (nat_lit 0))], #[]⟩
noncomputable def t3c28 (f : Bool) (P : Params) : BT := TT2 (s109v158 f P) (o110v159 P) f P
noncomputable def S3c28 (f : Bool) (w : World) (os : OsState) : SharedT := ⟨t3c28 f w.params, 111, lf, gs, boot_drawn, 369, os⟩
theorem y3c28 : Y3c9ms 22 S3c27 S3c28 := by intro w a0 a1 a2 a3; kernel_rfl
noncomputable def EB14 : List (Int × Value) := ei (nat_lit 65024) (nat_lit 334) :: ei (nat_lit 65025) (nat_lit 335) :: ei (nat_lit 65026) (nat_lit 336) :: ei (nat_lit 65027) (nat_lit 337) :: ei (nat_lit 65028) (nat_lit 338) :: ei (nat_lit 65029) (nat_lit 339) :: ei (nat_lit 6150) (nat_lit 320) :: ei (nat_lit 65030) (nat_lit 340) :: ei (nat_lit 65031) (nat_lit 341) :: ei (nat_lit 65032) (nat_lit 342) :: ei (nat_lit 6155) (nat_lit 321) :: ei (nat_lit 6156) (nat_lit 322) :: ei (nat_lit 6157) (nat_lit 323) :: ei (nat_lit 8203) (nat_lit 324) :: ei (nat_lit 8204) (nat_lit 325) :: ei (nat_lit 8205) (nat_lit 326) :: ei (nat_lit 173) (nat_lit 318) :: ei (nat_lit 847) (nat_lit 319) :: ei (nat_lit 8288) (nat_lit 327) :: ei (nat_lit 65279) (nat_lit 328) :: []
noncomputable def EP14 : List Nat := (nat_lit 0) :: (nat_lit 1) :: (nat_lit 2) :: (nat_lit 3) :: (nat_lit 4) :: (nat_lit 5) :: (nat_lit 6) :: (nat_lit 7) :: (nat_lit 8) :: (nat_lit 9) :: (nat_lit 11) :: (nat_lit 12) :: (nat_lit 13) :: (nat_lit 14) :: (nat_lit 15) :: (nat_lit 16) :: (nat_lit 45) :: (nat_lit 79) :: (nat_lit 96) :: (nat_lit 127) :: []
noncomputable def s109v160 (f : Bool) (P : Params) : Obj := ⟨(.type "set"), none, .set ⟨EB14 ++ []⟩ 22 { mask := (nat_lit 127), place := ⟨EP14 ++ []⟩, dummies := #[], finger := 0, led := !f, moves := 2, plain := true }, #[]⟩
noncomputable def o110v161 (P : Params) : Obj := ⟨(.type "list_iterator"), none, .fields #[(.ref 108), (.int (.ofNat (nat_lit 20)) (nat_lit 0))], #[]⟩
noncomputable def t3c29 (f : Bool) (P : Params) : BT := TT2 (s109v160 f P) (o110v161 P) f P
noncomputable def S3c29 (f : Bool) (w : World) (os : OsState) : SharedT := ⟨t3c29 f w.params, 111, lf, gs, boot_drawn, 370, os⟩
theorem y3c29 : Y3c9ms 20 S3c28 S3c29 := by intro w a0 a1 a2 a3; kernel_rfl
noncomputable def EB15 : List (Int × Value) := ei (nat_lit 65024) (nat_lit 334) :: ei (nat_lit 65025) (nat_lit 335) :: ei (nat_lit 65026) (nat_lit 336) :: ei (nat_lit 65027) (nat_lit 337) :: ei (nat_lit 65028) (nat_lit 338) :: ei (nat_lit 65029) (nat_lit 339) :: ei (nat_lit 6150) (nat_lit 320) :: ei (nat_lit 65030) (nat_lit 340) :: ei (nat_lit 65031) (nat_lit 341) :: ei (nat_lit 65032) (nat_lit 342) :: ei (nat_lit 65033) (nat_lit 343) :: ei (nat_lit 6155) (nat_lit 321) :: ei (nat_lit 6156) (nat_lit 322) :: ei (nat_lit 6157) (nat_lit 323) :: ei (nat_lit 8203) (nat_lit 324) :: ei (nat_lit 8204) (nat_lit 325) :: ei (nat_lit 8205) (nat_lit 326) :: ei (nat_lit 173) (nat_lit 318) :: ei (nat_lit 847) (nat_lit 319) :: ei (nat_lit 8288) (nat_lit 327) :: ei (nat_lit 65279) (nat_lit 328) :: []
noncomputable def EP15 : List Nat := (nat_lit 0) :: (nat_lit 1) :: (nat_lit 2) :: (nat_lit 3) :: (nat_lit 4) :: (nat_lit 5) :: (nat_lit 6) :: (nat_lit 7) :: (nat_lit 8) :: (nat_lit 9) :: (nat_lit 10) :: (nat_lit 11) :: (nat_lit 12) :: (nat_lit 13) :: (nat_lit 14) :: (nat_lit 15) :: (nat_lit 16) :: (nat_lit 45) :: (nat_lit 79) :: (nat_lit 96) :: (nat_lit 127) :: []
noncomputable def s109v162 (f : Bool) (P : Params) : Obj := ⟨(.type "set"), none, .set ⟨EB15 ++ []⟩ 23 { mask := (nat_lit 127), place := ⟨EP15 ++ []⟩, dummies := #[], finger := 0, led := !f, moves := 2, plain := true }, #[]⟩
noncomputable def o110v163 (P : Params) : Obj := ⟨(.type "list_iterator"), none, .fields #[(.ref 108), (.int (.ofNat (nat_lit 21)) (nat_lit 0))], #[]⟩
noncomputable def t3c30 (f : Bool) (P : Params) : BT := TT2 (s109v162 f P) (o110v163 P) f P
noncomputable def S3c30 (f : Bool) (w : World) (os : OsState) : SharedT := ⟨t3c30 f w.params, 111, lf, gs, boot_drawn, 371, os⟩
theorem y3c30 : Y3c9ms 20 S3c29 S3c30 := by intro w a0 a1 a2 a3; kernel_rfl
noncomputable def EB16 : List (Int × Value) := ei (nat_lit 65024) (nat_lit 334) :: ei (nat_lit 65025) (nat_lit 335) :: ei (nat_lit 65026) (nat_lit 336) :: ei (nat_lit 65027) (nat_lit 337) :: ei (nat_lit 65028) (nat_lit 338) :: ei (nat_lit 65029) (nat_lit 339) :: ei (nat_lit 6150) (nat_lit 320) :: ei (nat_lit 65030) (nat_lit 340) :: ei (nat_lit 65031) (nat_lit 341) :: ei (nat_lit 65032) (nat_lit 342) :: ei (nat_lit 65033) (nat_lit 343) :: ei (nat_lit 6155) (nat_lit 321) :: ei (nat_lit 6156) (nat_lit 322) :: ei (nat_lit 6157) (nat_lit 323) :: ei (nat_lit 8203) (nat_lit 324) :: ei (nat_lit 8204) (nat_lit 325) :: ei (nat_lit 8205) (nat_lit 326) :: ei (nat_lit 65034) (nat_lit 344) :: ei (nat_lit 173) (nat_lit 318) :: ei (nat_lit 847) (nat_lit 319) :: ei (nat_lit 8288) (nat_lit 327) :: ei (nat_lit 65279) (nat_lit 328) :: []
noncomputable def EP16 : List Nat := (nat_lit 0) :: (nat_lit 1) :: (nat_lit 2) :: (nat_lit 3) :: (nat_lit 4) :: (nat_lit 5) :: (nat_lit 6) :: (nat_lit 7) :: (nat_lit 8) :: (nat_lit 9) :: (nat_lit 10) :: (nat_lit 11) :: (nat_lit 12) :: (nat_lit 13) :: (nat_lit 14) :: (nat_lit 15) :: (nat_lit 16) :: (nat_lit 17) :: (nat_lit 45) :: (nat_lit 79) :: (nat_lit 96) :: (nat_lit 127) :: []
noncomputable def s109v164 (f : Bool) (P : Params) : Obj := ⟨(.type "set"), none, .set ⟨EB16 ++ []⟩ 24 { mask := (nat_lit 127), place := ⟨EP16 ++ []⟩, dummies := #[], finger := 0, led := !f, moves := 2, plain := true }, #[]⟩
noncomputable def o110v165 (P : Params) : Obj := ⟨(.type "list_iterator"), none, .fields #[(.ref 108), (.int (.ofNat (nat_lit 22)) (nat_lit 0))], #[]⟩
noncomputable def t3c31 (f : Bool) (P : Params) : BT := TT2 (s109v164 f P) (o110v165 P) f P
noncomputable def S3c31 (f : Bool) (w : World) (os : OsState) : SharedT := ⟨t3c31 f w.params, 111, lf, gs, boot_drawn, 372, os⟩
theorem y3c31 : Y3c9ms 20 S3c30 S3c31 := by intro w a0 a1 a2 a3; kernel_rfl
noncomputable def EB17 : List (Int × Value) := ei (nat_lit 65024) (nat_lit 334) :: ei (nat_lit 65025) (nat_lit 335) :: ei (nat_lit 65026) (nat_lit 336) :: ei (nat_lit 65027) (nat_lit 337) :: ei (nat_lit 65028) (nat_lit 338) :: ei (nat_lit 65029) (nat_lit 339) :: ei (nat_lit 6150) (nat_lit 320) :: ei (nat_lit 65030) (nat_lit 340) :: ei (nat_lit 65031) (nat_lit 341) :: ei (nat_lit 65032) (nat_lit 342) :: ei (nat_lit 65033) (nat_lit 343) :: ei (nat_lit 6155) (nat_lit 321) :: ei (nat_lit 6156) (nat_lit 322) :: ei (nat_lit 6157) (nat_lit 323) :: ei (nat_lit 8203) (nat_lit 324) :: ei (nat_lit 8204) (nat_lit 325) :: ei (nat_lit 8205) (nat_lit 326) :: ei (nat_lit 65034) (nat_lit 344) :: ei (nat_lit 65035) (nat_lit 345) :: ei (nat_lit 173) (nat_lit 318) :: ei (nat_lit 847) (nat_lit 319) :: ei (nat_lit 8288) (nat_lit 327) :: ei (nat_lit 65279) (nat_lit 328) :: []
noncomputable def EP17 : List Nat := (nat_lit 0) :: (nat_lit 1) :: (nat_lit 2) :: (nat_lit 3) :: (nat_lit 4) :: (nat_lit 5) :: (nat_lit 6) :: (nat_lit 7) :: (nat_lit 8) :: (nat_lit 9) :: (nat_lit 10) :: (nat_lit 11) :: (nat_lit 12) :: (nat_lit 13) :: (nat_lit 14) :: (nat_lit 15) :: (nat_lit 16) :: (nat_lit 17) :: (nat_lit 18) :: (nat_lit 45) :: (nat_lit 79) :: (nat_lit 96) :: (nat_lit 127) :: []
noncomputable def s109v166 (f : Bool) (P : Params) : Obj := ⟨(.type "set"), none, .set ⟨EB17 ++ []⟩ 25 { mask := (nat_lit 127), place := ⟨EP17 ++ []⟩, dummies := #[], finger := 0, led := !f, moves := 2, plain := true }, #[]⟩
noncomputable def o110v167 (P : Params) : Obj := ⟨(.type "list_iterator"), none, .fields #[(.ref 108), (.int (.ofNat (nat_lit 23)) (nat_lit 0))], #[]⟩
noncomputable def t3c32 (f : Bool) (P : Params) : BT := TT2 (s109v166 f P) (o110v167 P) f P
noncomputable def S3c32 (f : Bool) (w : World) (os : OsState) : SharedT := ⟨t3c32 f w.params, 111, lf, gs, boot_drawn, 373, os⟩
theorem y3c32 : Y3c9ms 20 S3c31 S3c32 := by intro w a0 a1 a2 a3; kernel_rfl
noncomputable def EB18 : List (Int × Value) := ei (nat_lit 65024) (nat_lit 334) :: ei (nat_lit 65025) (nat_lit 335) :: ei (nat_lit 65026) (nat_lit 336) :: ei (nat_lit 65027) (nat_lit 337) :: ei (nat_lit 65028) (nat_lit 338) :: ei (nat_lit 65029) (nat_lit 339) :: ei (nat_lit 6150) (nat_lit 320) :: ei (nat_lit 65030) (nat_lit 340) :: ei (nat_lit 65031) (nat_lit 341) :: ei (nat_lit 65032) (nat_lit 342) :: ei (nat_lit 65033) (nat_lit 343) :: ei (nat_lit 6155) (nat_lit 321) :: ei (nat_lit 6156) (nat_lit 322) :: ei (nat_lit 6157) (nat_lit 323) :: ei (nat_lit 8203) (nat_lit 324) :: ei (nat_lit 8204) (nat_lit 325) :: ei (nat_lit 8205) (nat_lit 326) :: ei (nat_lit 65034) (nat_lit 344) :: ei (nat_lit 65035) (nat_lit 345) :: ei (nat_lit 65036) (nat_lit 346) :: ei (nat_lit 173) (nat_lit 318) :: ei (nat_lit 847) (nat_lit 319) :: ei (nat_lit 8288) (nat_lit 327) :: ei (nat_lit 65279) (nat_lit 328) :: []
noncomputable def EP18 : List Nat := (nat_lit 0) :: (nat_lit 1) :: (nat_lit 2) :: (nat_lit 3) :: (nat_lit 4) :: (nat_lit 5) :: (nat_lit 6) :: (nat_lit 7) :: (nat_lit 8) :: (nat_lit 9) :: (nat_lit 10) :: (nat_lit 11) :: (nat_lit 12) :: (nat_lit 13) :: (nat_lit 14) :: (nat_lit 15) :: (nat_lit 16) :: (nat_lit 17) :: (nat_lit 18) :: (nat_lit 19) :: (nat_lit 45) :: (nat_lit 79) :: (nat_lit 96) :: (nat_lit 127) :: []
noncomputable def s109v168 (f : Bool) (P : Params) : Obj := ⟨(.type "set"), none, .set ⟨EB18 ++ []⟩ 26 { mask := (nat_lit 127), place := ⟨EP18 ++ []⟩, dummies := #[], finger := 0, led := !f, moves := 2, plain := true }, #[]⟩
noncomputable def o110v169 (P : Params) : Obj := ⟨(.type "list_iterator"), none, .fields #[(.ref 108), (.int (.ofNat (nat_lit 24)) (nat_lit 0))], #[]⟩
noncomputable def t3c33 (f : Bool) (P : Params) : BT := TT2 (s109v168 f P) (o110v169 P) f P
noncomputable def S3c33 (f : Bool) (w : World) (os : OsState) : SharedT := ⟨t3c33 f w.params, 111, lf, gs, boot_drawn, 374, os⟩
theorem y3c33 : Y3c9ms 20 S3c32 S3c33 := by intro w a0 a1 a2 a3; kernel_rfl
noncomputable def EB19 : List (Int × Value) := ei (nat_lit 65024) (nat_lit 334) :: ei (nat_lit 65025) (nat_lit 335) :: ei (nat_lit 65026) (nat_lit 336) :: ei (nat_lit 65027) (nat_lit 337) :: ei (nat_lit 65028) (nat_lit 338) :: ei (nat_lit 65029) (nat_lit 339) :: ei (nat_lit 6150) (nat_lit 320) :: ei (nat_lit 65030) (nat_lit 340) :: ei (nat_lit 65031) (nat_lit 341) :: ei (nat_lit 65032) (nat_lit 342) :: ei (nat_lit 65033) (nat_lit 343) :: ei (nat_lit 6155) (nat_lit 321) :: ei (nat_lit 6156) (nat_lit 322) :: ei (nat_lit 6157) (nat_lit 323) :: ei (nat_lit 8203) (nat_lit 324) :: ei (nat_lit 8204) (nat_lit 325) :: ei (nat_lit 8205) (nat_lit 326) :: ei (nat_lit 65034) (nat_lit 344) :: ei (nat_lit 65035) (nat_lit 345) :: ei (nat_lit 65036) (nat_lit 346) :: ei (nat_lit 65037) (nat_lit 347) :: ei (nat_lit 173) (nat_lit 318) :: ei (nat_lit 847) (nat_lit 319) :: ei (nat_lit 8288) (nat_lit 327) :: ei (nat_lit 65279) (nat_lit 328) :: []
noncomputable def EP19 : List Nat := (nat_lit 0) :: (nat_lit 1) :: (nat_lit 2) :: (nat_lit 3) :: (nat_lit 4) :: (nat_lit 5) :: (nat_lit 6) :: (nat_lit 7) :: (nat_lit 8) :: (nat_lit 9) :: (nat_lit 10) :: (nat_lit 11) :: (nat_lit 12) :: (nat_lit 13) :: (nat_lit 14) :: (nat_lit 15) :: (nat_lit 16) :: (nat_lit 17) :: (nat_lit 18) :: (nat_lit 19) :: (nat_lit 20) :: (nat_lit 45) :: (nat_lit 79) :: (nat_lit 96) :: (nat_lit 127) :: []
noncomputable def s109v170 (f : Bool) (P : Params) : Obj := ⟨(.type "set"), none, .set ⟨EB19 ++ []⟩ 27 { mask := (nat_lit 127), place := ⟨EP19 ++ []⟩, dummies := #[], finger := 0, led := !f, moves := 2, plain := true }, #[]⟩
noncomputable def o110v171 (P : Params) : Obj := ⟨(.type "list_iterator"), none, .fields #[(.ref 108), (.int (.ofNat (nat_lit 25)) (nat_lit 0))], #[]⟩
noncomputable def t3c34 (f : Bool) (P : Params) : BT := TT2 (s109v170 f P) (o110v171 P) f P
noncomputable def S3c34 (f : Bool) (w : World) (os : OsState) : SharedT := ⟨t3c34 f w.params, 111, lf, gs, boot_drawn, 375, os⟩
theorem y3c34 : Y3c9ms 20 S3c33 S3c34 := by intro w a0 a1 a2 a3; kernel_rfl
noncomputable def EB20 : List (Int × Value) := ei (nat_lit 65024) (nat_lit 334) :: ei (nat_lit 65025) (nat_lit 335) :: ei (nat_lit 65026) (nat_lit 336) :: ei (nat_lit 65027) (nat_lit 337) :: ei (nat_lit 65028) (nat_lit 338) :: ei (nat_lit 65029) (nat_lit 339) :: ei (nat_lit 6150) (nat_lit 320) :: ei (nat_lit 65030) (nat_lit 340) :: ei (nat_lit 65031) (nat_lit 341) :: ei (nat_lit 65032) (nat_lit 342) :: ei (nat_lit 65033) (nat_lit 343) :: ei (nat_lit 6155) (nat_lit 321) :: ei (nat_lit 6156) (nat_lit 322) :: ei (nat_lit 6157) (nat_lit 323) :: ei (nat_lit 8203) (nat_lit 324) :: ei (nat_lit 8204) (nat_lit 325) :: ei (nat_lit 8205) (nat_lit 326) :: ei (nat_lit 65034) (nat_lit 344) :: ei (nat_lit 65035) (nat_lit 345) :: ei (nat_lit 65036) (nat_lit 346) :: ei (nat_lit 65037) (nat_lit 347) :: ei (nat_lit 65038) (nat_lit 348) :: ei (nat_lit 173) (nat_lit 318) :: ei (nat_lit 847) (nat_lit 319) :: ei (nat_lit 8288) (nat_lit 327) :: ei (nat_lit 65279) (nat_lit 328) :: []
noncomputable def EP20 : List Nat := (nat_lit 0) :: (nat_lit 1) :: (nat_lit 2) :: (nat_lit 3) :: (nat_lit 4) :: (nat_lit 5) :: (nat_lit 6) :: (nat_lit 7) :: (nat_lit 8) :: (nat_lit 9) :: (nat_lit 10) :: (nat_lit 11) :: (nat_lit 12) :: (nat_lit 13) :: (nat_lit 14) :: (nat_lit 15) :: (nat_lit 16) :: (nat_lit 17) :: (nat_lit 18) :: (nat_lit 19) :: (nat_lit 20) :: (nat_lit 21) :: (nat_lit 45) :: (nat_lit 79) :: (nat_lit 96) :: (nat_lit 127) :: []
noncomputable def s109v172 (f : Bool) (P : Params) : Obj := ⟨(.type "set"), none, .set ⟨EB20 ++ []⟩ 28 { mask := (nat_lit 127), place := ⟨EP20 ++ []⟩, dummies := #[], finger := 0, led := !f, moves := 2, plain := true }, #[]⟩
noncomputable def o110v173 (P : Params) : Obj := ⟨(.type "list_iterator"), none, .fields #[(.ref 108), (.int (.ofNat (nat_lit 26)) (nat_lit 0))], #[]⟩
noncomputable def t3c35 (f : Bool) (P : Params) : BT := TT2 (s109v172 f P) (o110v173 P) f P
noncomputable def S3c35 (f : Bool) (w : World) (os : OsState) : SharedT := ⟨t3c35 f w.params, 111, lf, gs, boot_drawn, 376, os⟩
theorem y3c35 : Y3c9ms 20 S3c34 S3c35 := by intro w a0 a1 a2 a3; kernel_rfl
noncomputable def s109v174 (f : Bool) (P : Params) : Obj := ⟨(.type "set"), none, .set #[((.ofNat (nat_lit 65024)), (.int (.ofNat (nat_lit 65024)) (nat_lit 334))), ((.ofNat (nat_lit 65025)), (.int (.ofNat (nat_lit 65025)) (nat_lit 335))), ((.ofNat (nat_lit 65026)), (.int (.ofNat (nat_lit 65026)) (nat_lit 336))), ((.ofNat (nat_lit 65027)), (.int (.ofNat (nat_lit 65027)) (nat_lit 337))), ((.ofNat (nat_lit 65028)), (.int (.ofNat (nat_lit 65028)) (nat_lit 338))), ((.ofNat (nat_lit 65029)), (.int (.ofNat (nat_lit 65029)) (nat_lit 339))), ((.ofNat (nat_lit 6150)), (.int (.ofNat (nat_lit 6150)) (nat_lit 320))), ((.ofNat (nat_lit 65030)), (.int (.ofNat (nat_lit 65030)) (nat_lit 340))), ((.ofNat (nat_lit 65031)), (.int (.ofNat (nat_lit 65031)) (nat_lit 341))), ((.ofNat (nat_lit 65032)), (.int (.ofNat (nat_lit 65032)) (nat_lit 342))), ((.ofNat (nat_lit 65033)), (.int (.ofNat (nat_lit 65033)) (nat_lit 343))), ((.ofNat (nat_lit 6155)), (.int (.ofNat (nat_lit 6155)) (nat_lit 321))), ((.ofNat (nat_lit 6156)), (.int (.ofNat (nat_lit 6156)) (nat_lit 322))), ((.ofNat (nat_lit 6157)), (.int (.ofNat (nat_lit 6157)) (nat_lit 323))), ((.ofNat (nat_lit 8203)), (.int (.ofNat (nat_lit 8203)) (nat_lit 324))), ((.ofNat (nat_lit 8204)), (.int (.ofNat (nat_lit 8204)) (nat_lit 325))), ((.ofNat (nat_lit 8205)), (.int (.ofNat (nat_lit 8205)) (nat_lit 326))), ((.ofNat (nat_lit 65034)), (.int (.ofNat (nat_lit 65034)) (nat_lit 344))), ((.ofNat (nat_lit 65035)), (.int (.ofNat (nat_lit 65035)) (nat_lit 345))), ((.ofNat (nat_lit 65036)), (.int (.ofNat (nat_lit 65036)) (nat_lit 346))), ((.ofNat (nat_lit 65037)), (.int (.ofNat (nat_lit 65037)) (nat_lit 347))), ((.ofNat (nat_lit 65038)), (.int (.ofNat (nat_lit 65038)) (nat_lit 348))), ((.ofNat (nat_lit 65039)), (.int (.ofNat (nat_lit 65039)) (nat_lit 349))), ((.ofNat (nat_lit 173)), (.int (.ofNat (nat_lit 173)) (nat_lit 318))), ((.ofNat (nat_lit 847)), (.int (.ofNat (nat_lit 847)) (nat_lit 319))), ((.ofNat (nat_lit 8288)), (.int (.ofNat (nat_lit 8288)) (nat_lit 327))), ((.ofNat (nat_lit 65279)), (.int (.ofNat (nat_lit 65279)) (nat_lit 328)))] 29 { mask := (nat_lit 127), place := #[(nat_lit 0), (nat_lit 1), (nat_lit 2), (nat_lit 3), (nat_lit 4), (nat_lit 5), (nat_lit 6), (nat_lit 7), (nat_lit 8), (nat_lit 9), (nat_lit 10), (nat_lit 11), (nat_lit 12), (nat_lit 13), (nat_lit 14), (nat_lit 15), (nat_lit 16), (nat_lit 17), (nat_lit 18), (nat_lit 19), (nat_lit 20), (nat_lit 21), (nat_lit 22), (nat_lit 45), (nat_lit 79), (nat_lit 96), (nat_lit 127)], dummies := #[], finger := 0, led := !f, moves := 2, plain := true }, #[]⟩
noncomputable def o110v175 (P : Params) : Obj := ⟨(.type "list_iterator"), none, .fields #[(.ref 108), (.int (.ofNat (nat_lit 27)) (nat_lit 0))], #[]⟩
noncomputable def t3c36 (f : Bool) (P : Params) : BT := TT2 (s109v174 f P) (o110v175 P) f P
noncomputable def S3c36 (f : Bool) (w : World) (os : OsState) : SharedT := ⟨t3c36 f w.params, 111, lf, gs, boot_drawn, 377, os⟩
theorem y3c36 : Y3c9ms 20 S3c35 S3c36 := by intro w a0 a1 a2 a3; kernel_rfl
noncomputable def o3v176 (P : Params) : Obj := ⟨(.type "dict"), none, .dict #[⟨PyData.keyHash P (Str.ofString "__name__"), (.str (Str.ofString "__name__") 165), (.str (Str.ofString "cpy313.stringprep") 316)⟩, ⟨PyData.keyHash P (Str.ofString "__doc__"), (.str (Str.ofString "__doc__") 166), .none⟩, ⟨PyData.keyHash P (Str.ofString "__package__"), (.str (Str.ofString "__package__") 167), .none⟩, ⟨PyData.keyHash P (Str.ofString "__loader__"), (.str (Str.ofString "__loader__") 168), (.builtin "__main__.__loader__#opaque")⟩, ⟨PyData.keyHash P (Str.ofString "__spec__"), (.str (Str.ofString "__spec__") 169), .none⟩, ⟨PyData.keyHash P (Str.ofString "__annotations__"), (.str (Str.ofString "__annotations__") 170), (.ref 6)⟩, ⟨PyData.keyHash P (Str.ofString "__builtins__"), (.str (Str.ofString "__builtins__") 171), (.ref 4)⟩, ⟨PyData.keyHash P (Str.ofString "__file__"), (.str (Str.ofString "__file__") 173), (.str (Str.ofString "/claim/cut.py") 172)⟩, ⟨PyData.keyHash P (Str.ofString "__cached__"), (.str (Str.ofString "__cached__") 174), .none⟩, ⟨PyData.keyHash P (Str.ofString "_wall"), (.str (Str.ofString "_wall") 193), (.ref 21)⟩, ⟨PyData.keyHash P (Str.ofString "Whitespace"), (.str (Str.ofString "Whitespace") 291), (.ref 83)⟩, ⟨PyData.keyHash P (Str.ofString "_int2digits"), (.str (Str.ofString "_int2digits") 304), (.ref 94)⟩, ⟨PyData.keyHash P (Str.ofString "_digits2int"), (.str (Str.ofString "_digits2int") 315), (.ref 101)⟩, ⟨PyData.keyHash P (Str.ofString "b1_set"), (.str (Str.ofString "b1_set") 377), (.ref 109)⟩] 14, #[]⟩
noncomputable def o110v177 (P : Params) : Obj := ⟨(.type "list_iterator"), none, .fields #[.none, (.int (.ofNat (nat_lit 27)) (nat_lit 0))], #[]⟩
noncomputable def o111v178 (P : Params) : Obj := ⟨(.type "tuple"), none, .seq #[] 0, #[]⟩
noncomputable def o112v179 (P : Params) : Obj := ⟨(.type "StopIteration"), none, .fields #[(.ref 111), .none, .none, .none, (.bool false), .none], #[]⟩
noncomputable def t3 (f : Bool) (P : Params) : BT := (.node (boot_o_0 P) (.node (boot_o_1 P) (.node (o3v176 P) (.node (boot_o_7 P) (.node (o15v6 P) (.node (o31v24 P) (.node (o63v56 P) .nil .nil) (.node (o95v90 P) .nil .nil)) (.node (o47v40 P) (.node (o79v72 P) .nil .nil) (.node (o111v178 P) .nil .nil))) (.node (o23v16 P) (.node (o39v32 P) (.node (o71v64 P) .nil .nil) (.node (o103v98 P) .nil .nil)) (.node (o55v48 P) (.node (o87v80 P) .nil .nil) .nil))) (.node (o11v0 P) (.node (o19v10 P) (.node (o35v28 P) (.node (o67v60 P) .nil .nil) (.node (o99v94 P) .nil .nil)) (.node (o51v44 P) (.node (o83v76 P) .nil .nil) .nil)) (.node (o27v20 P) (.node (o43v36 P) (.node (o75v68 P) .nil .nil) (.node (o107v118 P) .nil .nil)) (.node (o59v52 P) (.node (o91v86 P) .nil .nil) .nil)))) (.node (boot_o_5 P) (.node (boot_o_9 P) (.node (o17v8 P) (.node (o33v26 P) (.node (o65v58 P) .nil .nil) (.node (o97v92 P) .nil .nil)) (.node (o49v42 P) (.node (o81v74 P) .nil .nil) .nil)) (.node (o25v18 P) (.node (o41v34 P) (.node (o73v66 P) .nil .nil) (.node (o105v116 P) .nil .nil)) (.node (o57v50 P) (.node (o89v84 P) .nil .nil) .nil))) (.node (o13v2 P) (.node (o21v12 P) (.node (o37v30 P) (.node (o69v62 P) .nil .nil) (.node (o101v96 P) .nil .nil)) (.node (o53v46 P) (.node (o85v78 P) .nil .nil) .nil)) (.node (o29v22 P) (.node (o45v38 P) (.node (o77v70 P) .nil .nil) (.node (s109v174 f P) .nil .nil)) (.node (o61v54 P) (.node (o93v88 P) .nil .nil) .nil))))) (.node (boot_o_2 P) (.node (boot_o_4 P) (.node (boot_o_8 P) (.node (o16v7 P) (.node (o32v25 P) (.node (o64v57 P) .nil .nil) (.node (o96v91 P) .nil .nil)) (.node (o48v41 P) (.node (o80v73 P) .nil .nil) (.node (o112v179 P) .nil .nil))) (.node (o24v17 P) (.node (o40v33 P) (.node (o72v65 P) .nil .nil) (.node (o104v115 P) .nil .nil)) (.node (o56v49 P) (.node (o88v83 P) .nil .nil) .nil))) (.node (o12v82 P) (.node (o20v11 P) (.node (o36v29 P) (.node (o68v61 P) .nil .nil) (.node (o100v95 P) .nil .nil)) (.node (o52v45 P) (.node (o84v77 P) .nil .nil) .nil)) (.node (o28v21 P) (.node (o44v37 P) (.node (o76v69 P) .nil .nil) (.node (o108v119 P) .nil .nil)) (.node (o60v53 P) (.node (o92v87 P) .nil .nil) .nil)))) (.node (boot_o_6 P) (.node (boot_o_10 P) (.node (o18v9 P) (.node (o34v27 P) (.node (o66v59 P) .nil .nil) (.node (o98v93 P) .nil .nil)) (.node (o50v43 P) (.node (o82v75 P) .nil .nil) .nil)) (.node (o26v19 P) (.node (o42v35 P) (.node (o74v67 P) .nil .nil) (.node (o106v117 P) .nil .nil)) (.node (o58v51 P) (.node (o90v85 P) .nil .nil) .nil))) (.node (o14v3 P) (.node (o22v15 P) (.node (o38v31 P) (.node (o70v63 P) .nil .nil) (.node (o102v97 P) .nil .nil)) (.node (o54v47 P) (.node (o86v79 P) .nil .nil) .nil)) (.node (o30v23 P) (.node (o46v39 P) (.node (o78v71 P) .nil .nil) (.node (o110v177 P) .nil .nil)) (.node (o62v55 P) (.node (o94v89 P) .nil .nil) .nil))))))
noncomputable def S3 (f : Bool) (w : World) (os : OsState) : SharedT := ⟨t3 f w.params, 113, lf, gs, boot_drawn, 378, os⟩
noncomputable def Q3 (f : Bool) (w : World) : Prop := (fun os => twRun twTab pw (wf f w) m0 ann 1 27 (S3c36 f (wf f w) os) (T3c9 f w os)) = fun os => some (.next, S3 f (wf f w) os, cE, ⟨79, 0, 79, 6⟩)
noncomputable def G3 (f : Bool) (w : World) (os : OsState) : Option (Flow × SharedT × Code × Pos) := twRun twTab pw (wf f w) m0 ann 1 27 (S3c36 f (wf f w) os) (T3c9 f w os)
noncomputable def H3 (f : Bool) (w : World) (os : OsState) : Option (Flow × SharedT × Code × Pos) := some (.next, S3 f (wf f w) os, cE, ⟨79, 0, 79, 6⟩)
theorem y3 : ∀ (w : World), (G3 true w, G3 false w) = (H3 true w, H3 false w) := by intro w; kernel_rfl
theorem q3 : ∀ f w, Q3 f w := fun f => match f with | true => (fun w => (Eq.mp (show (G3 true w = H3 true w) = Q3 true w from by kernel_rfl) (pa1 (y3 w)))) | false => (fun w => (Eq.mp (show (G3 false w = H3 false w) = Q3 false w from by kernel_rfl) (pa2 (y3 w))))
theorem r3 (f : Bool) (w : World) (os : OsState) : segRun treeTable pw (wf f w) m0 ann 1 (97 + (34 + (34 + (34 + (34 + (34 + (34 + (34 + (34 + (59 + (20 + (20 + (20 + (20 + (22 + (20 + (20 + (20 + (20 + (20 + (20 + (20 + (20 + (20 + (20 + (20 + (20 + (20 + (22 + (20 + (20 + (20 + (20 + (20 + (20 + (20 + (20 + 27))))))))))))))))))))))))))))))))))))) (S2 f (wf f w) os).abs (piecesOf sts3 env cE ⟨78, 0, 78, 8⟩ fB) = some (.next, (S3 f (wf f w) os).abs, cE, ⟨79, 0, 79, 6⟩) := TP_eq sts3 ⟨78, 0, 78, 8⟩ ▸ (seg_go (segGo_of (goEq (congrFun (q3c0 f w) os))) (seg_go (segGo_of (goEq (U3c0p y3c1 f w os))) (seg_go (segGo_of (goEq (U3c0p y3c2 f w os))) (seg_go (segGo_of (goEq (U3c0p y3c3 f w os))) (seg_go (segGo_of (goEq (U3c0p y3c4 f w os))) (seg_go (segGo_of (goEq (U3c0p y3c5 f w os))) (seg_go (segGo_of (goEq (U3c0p y3c6 f w os))) (seg_go (segGo_of (goEq (U3c0p y3c7 f w os))) (seg_go (segGo_of (goEq (U3c0p y3c8 f w os))) (seg_go (segGo_of (goEq (congrFun (q3c9 f w) os))) (seg_go (segGo_of (goEq (U3c9ms y3c10 f w os))) (seg_go (segGo_of (goEq (U3c9ms y3c11 f w os))) (seg_go (segGo_of (goEq (U3c9ms y3c12 f w os))) (seg_go (segGo_of (goEq (U3c9ms y3c13 f w os))) (seg_go (segGo_of (goEq (U3c9ms y3c14 f w os))) (seg_go (segGo_of (goEq (U3c9ms y3c15 f w os))) (seg_go (segGo_of (goEq (U3c9ms y3c16 f w os))) (seg_go (segGo_of (goEq (U3c9ms y3c17 f w os))) (seg_go (segGo_of (goEq (U3c9ms y3c18 f w os))) (seg_go (segGo_of (goEq (U3c9ms y3c19 f w os))) (seg_go (segGo_of (goEq (U3c9ms y3c20 f w os))) (seg_go (segGo_of (goEq (U3c9ms y3c21 f w os))) (seg_go (segGo_of (goEq (U3c9ms y3c22 f w os))) (seg_go (segGo_of (goEq (U3c9ms y3c23 f w os))) (seg_go (segGo_of (goEq (U3c9ms y3c24 f w os))) (seg_go (segGo_of (goEq (U3c9ms y3c25 f w os))) (seg_go (segGo_of (goEq (U3c9ms y3c26 f w os))) (seg_go (segGo_of (goEq (U3c9ms y3c27 f w os))) (seg_go (segGo_of (goEq (U3c9ms y3c28 f w os))) (seg_go (segGo_of (goEq (U3c9ms y3c29 f w os))) (seg_go (segGo_of (goEq (U3c9ms y3c30 f w os))) (seg_go (segGo_of (goEq (U3c9ms y3c31 f w os))) (seg_go (segGo_of (goEq (U3c9ms y3c32 f w os))) (seg_go (segGo_of (goEq (U3c9ms y3c33 f w os))) (seg_go (segGo_of (goEq (U3c9ms y3c34 f w os))) (seg_go (segGo_of (goEq (U3c9ms y3c35 f w os))) (seg_go (segGo_of (goEq (U3c9ms y3c36 f w os))) (lastRun (r := (_, _, _)) (congrFun (q3 f w) os)))))))))))))))))))))))))))))))))))))))
noncomputable def sts4 : List Stmt := (pw.main.body.drop 8).take 3
noncomputable def o3v180 (P : Params) : Obj := ⟨(.type "dict"), none, .dict #[⟨PyData.keyHash P (Str.ofString "__name__"), (.str (Str.ofString "__name__") 165), (.str (Str.ofString "cpy313.stringprep") 316)⟩, ⟨PyData.keyHash P (Str.ofString "__doc__"), (.str (Str.ofString "__doc__") 166), .none⟩, ⟨PyData.keyHash P (Str.ofString "__package__"), (.str (Str.ofString "__package__") 167), .none⟩, ⟨PyData.keyHash P (Str.ofString "__loader__"), (.str (Str.ofString "__loader__") 168), (.builtin "__main__.__loader__#opaque")⟩, ⟨PyData.keyHash P (Str.ofString "__spec__"), (.str (Str.ofString "__spec__") 169), .none⟩, ⟨PyData.keyHash P (Str.ofString "__annotations__"), (.str (Str.ofString "__annotations__") 170), (.ref 6)⟩, ⟨PyData.keyHash P (Str.ofString "__builtins__"), (.str (Str.ofString "__builtins__") 171), (.ref 4)⟩, ⟨PyData.keyHash P (Str.ofString "__file__"), (.str (Str.ofString "__file__") 173), (.str (Str.ofString "/claim/cut.py") 172)⟩, ⟨PyData.keyHash P (Str.ofString "__cached__"), (.str (Str.ofString "__cached__") 174), .none⟩, ⟨PyData.keyHash P (Str.ofString "_wall"), (.str (Str.ofString "_wall") 193), (.ref 21)⟩, ⟨PyData.keyHash P (Str.ofString "Whitespace"), (.str (Str.ofString "Whitespace") 291), (.ref 83)⟩, ⟨PyData.keyHash P (Str.ofString "_int2digits"), (.str (Str.ofString "_int2digits") 304), (.ref 94)⟩, ⟨PyData.keyHash P (Str.ofString "_digits2int"), (.str (Str.ofString "_digits2int") 315), (.ref 101)⟩, ⟨PyData.keyHash P (Str.ofString "b1_set"), (.str (Str.ofString "b1_set") 377), (.ref 109)⟩, ⟨PyData.keyHash P (Str.ofString "in_table_b1"), (.str (Str.ofString "in_table_b1") 384), (.ref 119)⟩] 15, #[]⟩
noncomputable def o12v181 (P : Params) : Obj := ⟨.none, none, .fields #[(.int (.ofNat (nat_lit 1)) (nat_lit 0)), (.int (.ofNat (nat_lit 0)) (nat_lit 0)), (.ref 20), (.int (.ofNat (nat_lit 5)) (nat_lit 0)), (.int (.ofNat (nat_lit 0)) (nat_lit 0)), (.ref 27), (.int (.ofNat (nat_lit 53)) (nat_lit 0)), (.int (.ofNat (nat_lit 0)) (nat_lit 0)), (.ref 93), (.int (.ofNat (nat_lit 69)) (nat_lit 0)), (.int (.ofNat (nat_lit 0)) (nat_lit 0)), (.ref 100), (.int (.ofNat (nat_lit 80)) (nat_lit 0)), (.int (.ofNat (nat_lit 0)) (nat_lit 0)), (.ref 118)], #[]⟩
noncomputable def o113v182 (P : Params) : Obj := ⟨(.type "tuple"), none, .seq #[] 0, #[]⟩
noncomputable def o114v183 (P : Params) : Obj := ⟨.none, none, .fields #[], #[]⟩
noncomputable def o115v184 (P : Params) : Obj := ⟨(.type "tuple"), none, .seq #[(.str (Str.ofString "code") 381)] 0, #[]⟩
noncomputable def o116v185 (P : Params) : Obj := ⟨(.type "tuple"), none, .seq #[] 0, #[]⟩
noncomputable def o117v186 (P : Params) : Obj := ⟨.none, none, .func { name := (Str.ofString "in_table_b1"), qualname := (Str.ofString "in_table_b1"), params := A8.1, body := .stmts B8.1, scope := C8.1, globals := 0, closure := [], defaults := .none, kwdefaults := .none, doc := .none, pyModule := .none, annotations := none, code := .none, closureTuple := .none, builtins := 0 }, #[]⟩
noncomputable def o118v187 (P : Params) : Obj := ⟨(.type "code"), none, .fields #[(.str (Str.ofString "in_table_b1") 378), (.str (Str.ofString "in_table_b1") 379), (.str (Str.ofString "/claim/cut.py") 380), (.int (.ofNat (nat_lit 80)) (nat_lit 0)), (.int (.ofNat (nat_lit 1)) (nat_lit 0)), (.int (.ofNat (nat_lit 0)) (nat_lit 0)), (.int (.ofNat (nat_lit 0)) (nat_lit 0)), (.int (.ofNat (nat_lit 3)) (nat_lit 0)), (.ref 113), (.bool true), (.int (.ofNat (nat_lit 181)) (nat_lit 0)), (.ref 114), .none, (.ref 115), (.ref 116), (.ref 117), (.int (.ofNat (nat_lit 382)) (nat_lit 0)), (.int (.ofNat (nat_lit 80)) (nat_lit 0)), (.str (Str.ofString "/claim/cut.py") 383)], #[]⟩
noncomputable def o119v188 (P : Params) : Obj := ⟨(.type "function"), none, .func { name := (Str.ofString "in_table_b1"), qualname := (Str.ofString "in_table_b1"), params := A8.1, body := .stmts B8.1, scope := C8.1, globals := 3, closure := [], defaults := .none, kwdefaults := .none, doc := .none, pyModule := (.str (Str.ofString "cpy313.stringprep") 316), annotations := none, code := (.ref 118), closureTuple := .none, builtins := 0 }, #[]⟩
noncomputable def o120v189 (P : Params) : Obj := ⟨(.type "range"), none, .fields #[(.int (.ofNat (nat_lit 65529)) (nat_lit 385)), (.int (.ofNat (nat_lit 65534)) (nat_lit 386)), (.int (.ofNat (nat_lit 1)) (nat_lit 387))], #[]⟩
noncomputable def s121v190 (f : Bool) (P : Params) : Obj := ⟨(.type "set"), none, .set #[] 0 { mask := (nat_lit 7), place := #[], dummies := #[], finger := 0, led := !f, moves := 0, plain := true }, #[]⟩
noncomputable def o122v191 (P : Params) : Obj := ⟨(.type "range_iterator"), none, .fields #[(.int (.ofNat (nat_lit 65529)) (nat_lit 0)), (.int (.ofNat (nat_lit 5)) (nat_lit 0)), (.int (.ofNat (nat_lit 1)) (nat_lit 0))], #[]⟩
noncomputable def TT3 (x0 x1 : Obj) (f : Bool) (P : Params) : BT := (.node (boot_o_0 P) (.node (boot_o_1 P) (.node (o3v180 P) (.node (boot_o_7 P) (.node (o15v6 P) (.node (o31v24 P) (.node (o63v56 P) .nil .nil) (.node (o95v90 P) .nil .nil)) (.node (o47v40 P) (.node (o79v72 P) .nil .nil) (.node (o111v178 P) .nil .nil))) (.node (o23v16 P) (.node (o39v32 P) (.node (o71v64 P) .nil .nil) (.node (o103v98 P) .nil .nil)) (.node (o55v48 P) (.node (o87v80 P) .nil .nil) (.node (o119v188 P) .nil .nil)))) (.node (o11v0 P) (.node (o19v10 P) (.node (o35v28 P) (.node (o67v60 P) .nil .nil) (.node (o99v94 P) .nil .nil)) (.node (o51v44 P) (.node (o83v76 P) .nil .nil) (.node (o115v184 P) .nil .nil))) (.node (o27v20 P) (.node (o43v36 P) (.node (o75v68 P) .nil .nil) (.node (o107v118 P) .nil .nil)) (.node (o59v52 P) (.node (o91v86 P) .nil .nil) .nil)))) (.node (boot_o_5 P) (.node (boot_o_9 P) (.node (o17v8 P) (.node (o33v26 P) (.node (o65v58 P) .nil .nil) (.node (o97v92 P) .nil .nil)) (.node (o49v42 P) (.node (o81v74 P) .nil .nil) (.node (o113v182 P) .nil .nil))) (.node (o25v18 P) (.node (o41v34 P) (.node (o73v66 P) .nil .nil) (.node (o105v116 P) .nil .nil)) (.node (o57v50 P) (.node (o89v84 P) .nil .nil) (.node x0 .nil .nil)))) (.node (o13v2 P) (.node (o21v12 P) (.node (o37v30 P) (.node (o69v62 P) .nil .nil) (.node (o101v96 P) .nil .nil)) (.node (o53v46 P) (.node (o85v78 P) .nil .nil) (.node (o117v186 P) .nil .nil))) (.node (o29v22 P) (.node (o45v38 P) (.node (o77v70 P) .nil .nil) (.node (s109v174 f P) .nil .nil)) (.node (o61v54 P) (.node (o93v88 P) .nil .nil) .nil))))) (.node (boot_o_2 P) (.node (boot_o_4 P) (.node (boot_o_8 P) (.node (o16v7 P) (.node (o32v25 P) (.node (o64v57 P) .nil .nil) (.node (o96v91 P) .nil .nil)) (.node (o48v41 P) (.node (o80v73 P) .nil .nil) (.node (o112v179 P) .nil .nil))) (.node (o24v17 P) (.node (o40v33 P) (.node (o72v65 P) .nil .nil) (.node (o104v115 P) .nil .nil)) (.node (o56v49 P) (.node (o88v83 P) .nil .nil) (.node (o120v189 P) .nil .nil)))) (.node (o12v181 P) (.node (o20v11 P) (.node (o36v29 P) (.node (o68v61 P) .nil .nil) (.node (o100v95 P) .nil .nil)) (.node (o52v45 P) (.node (o84v77 P) .nil .nil) (.node (o116v185 P) .nil .nil))) (.node (o28v21 P) (.node (o44v37 P) (.node (o76v69 P) .nil .nil) (.node (o108v119 P) .nil .nil)) (.node (o60v53 P) (.node (o92v87 P) .nil .nil) .nil)))) (.node (boot_o_6 P) (.node (boot_o_10 P) (.node (o18v9 P) (.node (o34v27 P) (.node (o66v59 P) .nil .nil) (.node (o98v93 P) .nil .nil)) (.node (o50v43 P) (.node (o82v75 P) .nil .nil) (.node (o114v183 P) .nil .nil))) (.node (o26v19 P) (.node (o42v35 P) (.node (o74v67 P) .nil .nil) (.node (o106v117 P) .nil .nil)) (.node (o58v51 P) (.node (o90v85 P) .nil .nil) (.node x1 .nil .nil)))) (.node (o14v3 P) (.node (o22v15 P) (.node (o38v31 P) (.node (o70v63 P) .nil .nil) (.node (o102v97 P) .nil .nil)) (.node (o54v47 P) (.node (o86v79 P) .nil .nil) (.node (o118v187 P) .nil .nil))) (.node (o30v23 P) (.node (o46v39 P) (.node (o78v71 P) .nil .nil) (.node (o110v177 P) .nil .nil)) (.node (o62v55 P) (.node (o94v89 P) .nil .nil) .nil))))))
noncomputable def t4c0 (f : Bool) (P : Params) : BT := TT3 (s121v190 f P) (o122v191 P) f P
noncomputable def S4c0 (f : Bool) (w : World) (os : OsState) : SharedT := ⟨t4c0 f w.params, 123, lf, gs, boot_drawn, 388, os⟩
noncomputable def fr4c0 (f : Bool) (w : World) (os : OsState) : List Frame := match twGo twTab pw (wf f (World.withFollow w "special-get-raises" false)) m0 ann 1 87 (S3 f (wf f (World.withFollow w "special-get-raises" false)) os) (TP sts4 ⟨79, 0, 79, 6⟩) with | some (_, t) => t.stack | none => []
noncomputable def TH4c0 (fs : List Frame) : Thread := ⟨twDen twTab (.builtin "set.update.loop" ⟨[(.ref 121), (.ref 122)], []⟩), (.builtin "set.update.loop" ⟨[(.ref 121), (.ref 122)], []⟩), ⟨82, 9, 82, 33⟩, fs⟩
noncomputable def T4c0 (f : Bool) (w : World) (os : OsState) : Thread := TH4c0 (fr4c0 f w os)
noncomputable def Q4c0 (f : Bool) (w : World) : Prop := (fun os => twGo twTab pw (wf f w) m0 ann 1 87 (S3 f (wf f w) os) (TP sts4 ⟨79, 0, 79, 6⟩)) = fun os => some (S4c0 f (wf f w) os, (T4c0 f w os))
noncomputable def G4c0 (f : Bool) (w : World) (os : OsState) : Option (SharedT × Thread) := twGo twTab pw (wf f w) m0 ann 1 87 (S3 f (wf f w) os) (TP sts4 ⟨79, 0, 79, 6⟩)
noncomputable def H4c0 (f : Bool) (w : World) (os : OsState) : Option (SharedT × Thread) := some (S4c0 f (wf f w) os, (T4c0 f w os))
theorem y4c0 : ∀ (w : World), (G4c0 true (World.withFollow w "special-get-raises" false), G4c0 true (World.withFollow w "special-get-raises" true), G4c0 false (World.withFollow w "special-get-raises" false), G4c0 false (World.withFollow w "special-get-raises" true)) = (H4c0 true (World.withFollow w "special-get-raises" false), H4c0 true (World.withFollow w "special-get-raises" true), H4c0 false (World.withFollow w "special-get-raises" false), H4c0 false (World.withFollow w "special-get-raises" true)) := by intro w; kernel_rfl
theorem q4c0 : ∀ f w, Q4c0 f w := fun f => match f with | true => (byRow2 "special-get-raises" (P := fun w => Q4c0 true w) (fun w => (Eq.mp (show (G4c0 true (World.withFollow w "special-get-raises" false) = H4c0 true (World.withFollow w "special-get-raises" false)) = Q4c0 true (World.withFollow w "special-get-raises" false) from by kernel_rfl) (pr1 (y4c0 w)))) (fun w => (Eq.mp (show (G4c0 true (World.withFollow w "special-get-raises" true) = H4c0 true (World.withFollow w "special-get-raises" true)) = Q4c0 true (World.withFollow w "special-get-raises" true) from by kernel_rfl) (pr2 (y4c0 w))))) | false => (byRow2 "special-get-raises" (P := fun w => Q4c0 false w) (fun w => (Eq.mp (show (G4c0 false (World.withFollow w "special-get-raises" false) = H4c0 false (World.withFollow w "special-get-raises" false)) = Q4c0 false (World.withFollow w "special-get-raises" false) from by kernel_rfl) (pr3 (y4c0 w)))) (fun w => (Eq.mp (show (G4c0 false (World.withFollow w "special-get-raises" true) = H4c0 false (World.withFollow w "special-get-raises" true)) = Q4c0 false (World.withFollow w "special-get-raises" true) from by kernel_rfl) (pr4 (y4c0 w)))))
theorem l4c0 (f : Bool) (w : World) : (fun os => (fr4c0 f w os).length) = fun _ => 4 := by kernel_rfl
noncomputable def s121v192 (f : Bool) (P : Params) : Obj := ⟨(.type "set"), none, .set #[ei (nat_lit 65529) (nat_lit 388)] 1 { mask := (nat_lit 7), place := #[(nat_lit 1)], dummies := #[], finger := 0, led := !f, moves := 0, plain := true }, #[]⟩
noncomputable def o122v193 (P : Params) : Obj := ⟨(.type "range_iterator"), none, .fields #[(.int (.ofNat (nat_lit 65530)) (nat_lit 0)), (.int (.ofNat (nat_lit 4)) (nat_lit 0)), (.int (.ofNat (nat_lit 1)) (nat_lit 0))], #[]⟩
noncomputable def t4c1 (f : Bool) (P : Params) : BT := TT3 (s121v192 f P) (o122v193 P) f P
noncomputable def S4c1 (f : Bool) (w : World) (os : OsState) : SharedT := ⟨t4c1 f w.params, 123, lf, gs, boot_drawn, 390, os⟩
noncomputable def GG4c0 (k : Nat) (A : Bool → World → OsState → SharedT) (f : Bool) (w : World) (a0 a1 a2 a3 : Frame) (os : OsState) : Option (SharedT × Thread) := twGo twTab pw (wf f w) m0 ann 1 k (A f (wf f w) os) (TH4c0 [a0, a1, a2, a3])
noncomputable def HH4c0 (B : Bool → World → OsState → SharedT) (f : Bool) (w : World) (a0 a1 a2 a3 : Frame) (os : OsState) : Option (SharedT × Thread) := some (B f (wf f w) os, TH4c0 [a0, a1, a2, a3])
noncomputable def Y4c0ms (k : Nat) (A B : Bool → World → OsState → SharedT) : Prop := ∀ (w : World) (a0 a1 a2 a3 : Frame), (GG4c0 k A true (World.withFollow w "special-get-raises" false) a0 a1 a2 a3, GG4c0 k A true (World.withFollow w "special-get-raises" true) a0 a1 a2 a3, GG4c0 k A false (World.withFollow w "special-get-raises" false) a0 a1 a2 a3, GG4c0 k A false (World.withFollow w "special-get-raises" true) a0 a1 a2 a3) = (HH4c0 B true (World.withFollow w "special-get-raises" false) a0 a1 a2 a3, HH4c0 B true (World.withFollow w "special-get-raises" true) a0 a1 a2 a3, HH4c0 B false (World.withFollow w "special-get-raises" false) a0 a1 a2 a3, HH4c0 B false (World.withFollow w "special-get-raises" true) a0 a1 a2 a3)
theorem X4c0ms {k : Nat} {A B : Bool → World → OsState → SharedT} (y : Y4c0ms k A B) : ∀ (f : Bool) (w : World) (a0 a1 a2 a3 : Frame), GG4c0 k A f w a0 a1 a2 a3 = HH4c0 B f w a0 a1 a2 a3 :=
  let P := fun (f : Bool) (w : World) => ∀ a0 a1 a2 a3 : Frame, GG4c0 k A f w a0 a1 a2 a3 = HH4c0 B f w a0 a1 a2 a3
  show ∀ f w, P f w from fun f => match f with | true => byRow2 "special-get-raises" (P := fun w => P true w) (fun w a0 a1 a2 a3 => pr1 (y w a0 a1 a2 a3)) (fun w a0 a1 a2 a3 => pr2 (y w a0 a1 a2 a3)) | false => byRow2 "special-get-raises" (P := fun w => P false w) (fun w a0 a1 a2 a3 => pr3 (y w a0 a1 a2 a3)) (fun w a0 a1 a2 a3 => pr4 (y w a0 a1 a2 a3))
theorem U4c0ms {k : Nat} {A B : Bool → World → OsState → SharedT} (y : Y4c0ms k A B) (f : Bool) (w : World) (os : OsState) : twGo twTab pw (wf f w) m0 ann 1 k (A f (wf f w) os) (T4c0 f w os) = some (B f (wf f w) os, T4c0 f w os) :=
  lift4 (P := fun fs => twGo twTab pw (wf f w) m0 ann 1 k (A f (wf f w) os) (TH4c0 fs) = some (B f (wf f w) os, TH4c0 fs)) (fun a0 a1 a2 a3 => congrFun (X4c0ms y f w a0 a1 a2 a3) os) _ (congrFun (l4c0 f w) os)
theorem y4c1 : Y4c0ms 23 S4c0 S4c1 := by intro w a0 a1 a2 a3; kernel_rfl
noncomputable def s121v194 (f : Bool) (P : Params) : Obj := ⟨(.type "set"), none, .set #[ei (nat_lit 65529) (nat_lit 388), ei (nat_lit 65530) (nat_lit 390)] 2 { mask := (nat_lit 7), place := #[(nat_lit 1), (nat_lit 2)], dummies := #[], finger := 0, led := !f, moves := 0, plain := true }, #[]⟩
noncomputable def o122v195 (P : Params) : Obj := ⟨(.type "range_iterator"), none, .fields #[(.int (.ofNat (nat_lit 65531)) (nat_lit 0)), (.int (.ofNat (nat_lit 3)) (nat_lit 0)), (.int (.ofNat (nat_lit 1)) (nat_lit 0))], #[]⟩
noncomputable def t4c2 (f : Bool) (P : Params) : BT := TT3 (s121v194 f P) (o122v195 P) f P
noncomputable def S4c2 (f : Bool) (w : World) (os : OsState) : SharedT := ⟨t4c2 f w.params, 123, lf, gs, boot_drawn, 392, os⟩
theorem y4c2 : Y4c0ms 23 S4c1 S4c2 := by intro w a0 a1 a2 a3; kernel_rfl
noncomputable def s121v196 (f : Bool) (P : Params) : Obj := ⟨(.type "set"), none, .set #[ei (nat_lit 65529) (nat_lit 388), ei (nat_lit 65530) (nat_lit 390), ei (nat_lit 65531) (nat_lit 392)] 3 { mask := (nat_lit 7), place := #[(nat_lit 1), (nat_lit 2), (nat_lit 3)], dummies := #[], finger := 0, led := !f, moves := 0, plain := true }, #[]⟩
noncomputable def o122v197 (P : Params) : Obj := ⟨(.type "range_iterator"), none, .fields #[(.int (.ofNat (nat_lit 65532)) (nat_lit 0)), (.int (.ofNat (nat_lit 2)) (nat_lit 0)), (.int (.ofNat (nat_lit 1)) (nat_lit 0))], #[]⟩
noncomputable def t4c3 (f : Bool) (P : Params) : BT := TT3 (s121v196 f P) (o122v197 P) f P
noncomputable def S4c3 (f : Bool) (w : World) (os : OsState) : SharedT := ⟨t4c3 f w.params, 123, lf, gs, boot_drawn, 394, os⟩
theorem y4c3 : Y4c0ms 23 S4c2 S4c3 := by intro w a0 a1 a2 a3; kernel_rfl
noncomputable def s121v198 (f : Bool) (P : Params) : Obj := ⟨(.type "set"), none, .set #[ei (nat_lit 65529) (nat_lit 388), ei (nat_lit 65530) (nat_lit 390), ei (nat_lit 65531) (nat_lit 392), ei (nat_lit 65532) (nat_lit 394)] 4 { mask := (nat_lit 7), place := #[(nat_lit 1), (nat_lit 2), (nat_lit 3), (nat_lit 4)], dummies := #[], finger := 0, led := !f, moves := 0, plain := true }, #[]⟩
noncomputable def o122v199 (P : Params) : Obj := ⟨(.type "range_iterator"), none, .fields #[(.int (.ofNat (nat_lit 65533)) (nat_lit 0)), (.int (.ofNat (nat_lit 1)) (nat_lit 0)), (.int (.ofNat (nat_lit 1)) (nat_lit 0))], #[]⟩
noncomputable def t4c4 (f : Bool) (P : Params) : BT := TT3 (s121v198 f P) (o122v199 P) f P
noncomputable def S4c4 (f : Bool) (w : World) (os : OsState) : SharedT := ⟨t4c4 f w.params, 123, lf, gs, boot_drawn, 396, os⟩
theorem y4c4 : Y4c0ms 23 S4c3 S4c4 := by intro w a0 a1 a2 a3; kernel_rfl
noncomputable def s121v200 (f : Bool) (P : Params) : Obj := ⟨(.type "set"), none, .set #[((.ofNat (nat_lit 65529)), (.int (.ofNat (nat_lit 65529)) (nat_lit 388))), ((.ofNat (nat_lit 65530)), (.int (.ofNat (nat_lit 65530)) (nat_lit 390))), ((.ofNat (nat_lit 65531)), (.int (.ofNat (nat_lit 65531)) (nat_lit 392))), ((.ofNat (nat_lit 65532)), (.int (.ofNat (nat_lit 65532)) (nat_lit 394))), ((.ofNat (nat_lit 65533)), (.int (.ofNat (nat_lit 65533)) (nat_lit 396)))] 6 { mask := (nat_lit 31), place := #[(nat_lit 25), (nat_lit 26), (nat_lit 27), (nat_lit 28), (nat_lit 29)], dummies := #[], finger := 0, led := !f, moves := 1, plain := true }, #[]⟩
noncomputable def o122v201 (P : Params) : Obj := ⟨(.type "range_iterator"), none, .fields #[(.int (.ofNat (nat_lit 65534)) (nat_lit 0)), (.int (.ofNat (nat_lit 0)) (nat_lit 0)), (.int (.ofNat (nat_lit 1)) (nat_lit 0))], #[]⟩
noncomputable def t4c5 (f : Bool) (P : Params) : BT := TT3 (s121v200 f P) (o122v201 P) f P
noncomputable def S4c5 (f : Bool) (w : World) (os : OsState) : SharedT := ⟨t4c5 f w.params, 123, lf, gs, boot_drawn, 398, os⟩
theorem y4c5 : Y4c0ms 25 S4c4 S4c5 := by intro w a0 a1 a2 a3; kernel_rfl
noncomputable def o3v202 (P : Params) : Obj := ⟨(.type "dict"), none, .dict #[⟨PyData.keyHash P (Str.ofString "__name__"), (.str (Str.ofString "__name__") 165), (.str (Str.ofString "cpy313.stringprep") 316)⟩, ⟨PyData.keyHash P (Str.ofString "__doc__"), (.str (Str.ofString "__doc__") 166), .none⟩, ⟨PyData.keyHash P (Str.ofString "__package__"), (.str (Str.ofString "__package__") 167), .none⟩, ⟨PyData.keyHash P (Str.ofString "__loader__"), (.str (Str.ofString "__loader__") 168), (.builtin "__main__.__loader__#opaque")⟩, ⟨PyData.keyHash P (Str.ofString "__spec__"), (.str (Str.ofString "__spec__") 169), .none⟩, ⟨PyData.keyHash P (Str.ofString "__annotations__"), (.str (Str.ofString "__annotations__") 170), (.ref 6)⟩, ⟨PyData.keyHash P (Str.ofString "__builtins__"), (.str (Str.ofString "__builtins__") 171), (.ref 4)⟩, ⟨PyData.keyHash P (Str.ofString "__file__"), (.str (Str.ofString "__file__") 173), (.str (Str.ofString "/claim/cut.py") 172)⟩, ⟨PyData.keyHash P (Str.ofString "__cached__"), (.str (Str.ofString "__cached__") 174), .none⟩, ⟨PyData.keyHash P (Str.ofString "_wall"), (.str (Str.ofString "_wall") 193), (.ref 21)⟩, ⟨PyData.keyHash P (Str.ofString "Whitespace"), (.str (Str.ofString "Whitespace") 291), (.ref 83)⟩, ⟨PyData.keyHash P (Str.ofString "_int2digits"), (.str (Str.ofString "_int2digits") 304), (.ref 94)⟩, ⟨PyData.keyHash P (Str.ofString "_digits2int"), (.str (Str.ofString "_digits2int") 315), (.ref 101)⟩, ⟨PyData.keyHash P (Str.ofString "b1_set"), (.str (Str.ofString "b1_set") 377), (.ref 109)⟩, ⟨PyData.keyHash P (Str.ofString "in_table_b1"), (.str (Str.ofString "in_table_b1") 384), (.ref 119)⟩, ⟨PyData.keyHash P (Str.ofString "c6_set"), (.str (Str.ofString "c6_set") 398), (.ref 121)⟩, ⟨PyData.keyHash P (Str.ofString "in_table_c6"), (.str (Str.ofString "in_table_c6") 405), (.ref 131)⟩] 17, #[]⟩
noncomputable def o12v203 (P : Params) : Obj := ⟨.none, none, .fields #[(.int (.ofNat (nat_lit 1)) (nat_lit 0)), (.int (.ofNat (nat_lit 0)) (nat_lit 0)), (.ref 20), (.int (.ofNat (nat_lit 5)) (nat_lit 0)), (.int (.ofNat (nat_lit 0)) (nat_lit 0)), (.ref 27), (.int (.ofNat (nat_lit 53)) (nat_lit 0)), (.int (.ofNat (nat_lit 0)) (nat_lit 0)), (.ref 93), (.int (.ofNat (nat_lit 69)) (nat_lit 0)), (.int (.ofNat (nat_lit 0)) (nat_lit 0)), (.ref 100), (.int (.ofNat (nat_lit 80)) (nat_lit 0)), (.int (.ofNat (nat_lit 0)) (nat_lit 0)), (.ref 118), (.int (.ofNat (nat_lit 83)) (nat_lit 0)), (.int (.ofNat (nat_lit 0)) (nat_lit 0)), (.ref 130)], #[]⟩
noncomputable def o123v204 (P : Params) : Obj := ⟨(.type "tuple"), none, .seq #[] 0, #[]⟩
noncomputable def o124v205 (P : Params) : Obj := ⟨(.type "StopIteration"), none, .fields #[(.ref 123), .none, .none, .none, (.bool false), .none], #[]⟩
noncomputable def o125v206 (P : Params) : Obj := ⟨(.type "tuple"), none, .seq #[] 0, #[]⟩
noncomputable def o126v207 (P : Params) : Obj := ⟨.none, none, .fields #[], #[]⟩
noncomputable def o127v208 (P : Params) : Obj := ⟨(.type "tuple"), none, .seq #[(.str (Str.ofString "code") 402)] 0, #[]⟩
noncomputable def o128v209 (P : Params) : Obj := ⟨(.type "tuple"), none, .seq #[] 0, #[]⟩
noncomputable def o129v210 (P : Params) : Obj := ⟨.none, none, .func { name := (Str.ofString "in_table_c6"), qualname := (Str.ofString "in_table_c6"), params := A10.1, body := .stmts B10.1, scope := C10.1, globals := 0, closure := [], defaults := .none, kwdefaults := .none, doc := .none, pyModule := .none, annotations := none, code := .none, closureTuple := .none, builtins := 0 }, #[]⟩
noncomputable def o130v211 (P : Params) : Obj := ⟨(.type "code"), none, .fields #[(.str (Str.ofString "in_table_c6") 399), (.str (Str.ofString "in_table_c6") 400), (.str (Str.ofString "/claim/cut.py") 401), (.int (.ofNat (nat_lit 83)) (nat_lit 0)), (.int (.ofNat (nat_lit 1)) (nat_lit 0)), (.int (.ofNat (nat_lit 0)) (nat_lit 0)), (.int (.ofNat (nat_lit 0)) (nat_lit 0)), (.int (.ofNat (nat_lit 3)) (nat_lit 0)), (.ref 125), (.bool true), (.int (.ofNat (nat_lit 181)) (nat_lit 0)), (.ref 126), .none, (.ref 127), (.ref 128), (.ref 129), (.int (.ofNat (nat_lit 403)) (nat_lit 0)), (.int (.ofNat (nat_lit 83)) (nat_lit 0)), (.str (Str.ofString "/claim/cut.py") 404)], #[]⟩
noncomputable def o131v212 (P : Params) : Obj := ⟨(.type "function"), none, .func { name := (Str.ofString "in_table_c6"), qualname := (Str.ofString "in_table_c6"), params := A10.1, body := .stmts B10.1, scope := C10.1, globals := 3, closure := [], defaults := .none, kwdefaults := .none, doc := .none, pyModule := (.str (Str.ofString "cpy313.stringprep") 316), annotations := none, code := (.ref 130), closureTuple := .none, builtins := 0 }, #[]⟩
noncomputable def t4 (f : Bool) (P : Params) : BT := (.node (boot_o_0 P) (.node (boot_o_1 P) (.node (o3v202 P) (.node (boot_o_7 P) (.node (o15v6 P) (.node (o31v24 P) (.node (o63v56 P) (.node (o127v208 P) .nil .nil) .nil) (.node (o95v90 P) .nil .nil)) (.node (o47v40 P) (.node (o79v72 P) .nil .nil) (.node (o111v178 P) .nil .nil))) (.node (o23v16 P) (.node (o39v32 P) (.node (o71v64 P) .nil .nil) (.node (o103v98 P) .nil .nil)) (.node (o55v48 P) (.node (o87v80 P) .nil .nil) (.node (o119v188 P) .nil .nil)))) (.node (o11v0 P) (.node (o19v10 P) (.node (o35v28 P) (.node (o67v60 P) (.node (o131v212 P) .nil .nil) .nil) (.node (o99v94 P) .nil .nil)) (.node (o51v44 P) (.node (o83v76 P) .nil .nil) (.node (o115v184 P) .nil .nil))) (.node (o27v20 P) (.node (o43v36 P) (.node (o75v68 P) .nil .nil) (.node (o107v118 P) .nil .nil)) (.node (o59v52 P) (.node (o91v86 P) .nil .nil) (.node (o123v204 P) .nil .nil))))) (.node (boot_o_5 P) (.node (boot_o_9 P) (.node (o17v8 P) (.node (o33v26 P) (.node (o65v58 P) (.node (o129v210 P) .nil .nil) .nil) (.node (o97v92 P) .nil .nil)) (.node (o49v42 P) (.node (o81v74 P) .nil .nil) (.node (o113v182 P) .nil .nil))) (.node (o25v18 P) (.node (o41v34 P) (.node (o73v66 P) .nil .nil) (.node (o105v116 P) .nil .nil)) (.node (o57v50 P) (.node (o89v84 P) .nil .nil) (.node (s121v200 f P) .nil .nil)))) (.node (o13v2 P) (.node (o21v12 P) (.node (o37v30 P) (.node (o69v62 P) .nil .nil) (.node (o101v96 P) .nil .nil)) (.node (o53v46 P) (.node (o85v78 P) .nil .nil) (.node (o117v186 P) .nil .nil))) (.node (o29v22 P) (.node (o45v38 P) (.node (o77v70 P) .nil .nil) (.node (s109v174 f P) .nil .nil)) (.node (o61v54 P) (.node (o93v88 P) .nil .nil) (.node (o125v206 P) .nil .nil)))))) (.node (boot_o_2 P) (.node (boot_o_4 P) (.node (boot_o_8 P) (.node (o16v7 P) (.node (o32v25 P) (.node (o64v57 P) (.node (o128v209 P) .nil .nil) .nil) (.node (o96v91 P) .nil .nil)) (.node (o48v41 P) (.node (o80v73 P) .nil .nil) (.node (o112v179 P) .nil .nil))) (.node (o24v17 P) (.node (o40v33 P) (.node (o72v65 P) .nil .nil) (.node (o104v115 P) .nil .nil)) (.node (o56v49 P) (.node (o88v83 P) .nil .nil) (.node (o120v189 P) .nil .nil)))) (.node (o12v203 P) (.node (o20v11 P) (.node (o36v29 P) (.node (o68v61 P) .nil .nil) (.node (o100v95 P) .nil .nil)) (.node (o52v45 P) (.node (o84v77 P) .nil .nil) (.node (o116v185 P) .nil .nil))) (.node (o28v21 P) (.node (o44v37 P) (.node (o76v69 P) .nil .nil) (.node (o108v119 P) .nil .nil)) (.node (o60v53 P) (.node (o92v87 P) .nil .nil) (.node (o124v205 P) .nil .nil))))) (.node (boot_o_6 P) (.node (boot_o_10 P) (.node (o18v9 P) (.node (o34v27 P) (.node (o66v59 P) (.node (o130v211 P) .nil .nil) .nil) (.node (o98v93 P) .nil .nil)) (.node (o50v43 P) (.node (o82v75 P) .nil .nil) (.node (o114v183 P) .nil .nil))) (.node (o26v19 P) (.node (o42v35 P) (.node (o74v67 P) .nil .nil) (.node (o106v117 P) .nil .nil)) (.node (o58v51 P) (.node (o90v85 P) .nil .nil) (.node (o122v201 P) .nil .nil)))) (.node (o14v3 P) (.node (o22v15 P) (.node (o38v31 P) (.node (o70v63 P) .nil .nil) (.node (o102v97 P) .nil .nil)) (.node (o54v47 P) (.node (o86v79 P) .nil .nil) (.node (o118v187 P) .nil .nil))) (.node (o30v23 P) (.node (o46v39 P) (.node (o78v71 P) .nil .nil) (.node (o110v177 P) .nil .nil)) (.node (o62v55 P) (.node (o94v89 P) .nil .nil) (.node (o126v207 P) .nil .nil)))))))
noncomputable def S4 (f : Bool) (w : World) (os : OsState) : SharedT := ⟨t4 f w.params, 132, lf, gs, boot_drawn, 406, os⟩
noncomputable def Q4 (f : Bool) (w : World) : Prop := (fun os => twRun twTab pw (wf f w) m0 ann 1 54 (S4c5 f (wf f w) os) (T4c0 f w os)) = fun os => some (.next, S4 f (wf f w) os, cE, ⟨83, 0, 84, 30⟩)
noncomputable def G4 (f : Bool) (w : World) (os : OsState) : Option (Flow × SharedT × Code × Pos) := twRun twTab pw (wf f w) m0 ann 1 54 (S4c5 f (wf f w) os) (T4c0 f w os)
noncomputable def H4 (f : Bool) (w : World) (os : OsState) : Option (Flow × SharedT × Code × Pos) := some (.next, S4 f (wf f w) os, cE, ⟨83, 0, 84, 30⟩)
theorem y4 : ∀ (w : World), (G4 true w, G4 false w) = (H4 true w, H4 false w) := by intro w; kernel_rfl
theorem q4 : ∀ f w, Q4 f w := fun f => match f with | true => (fun w => (Eq.mp (show (G4 true w = H4 true w) = Q4 true w from by kernel_rfl) (pa1 (y4 w)))) | false => (fun w => (Eq.mp (show (G4 false w = H4 false w) = Q4 false w from by kernel_rfl) (pa2 (y4 w))))
theorem r4 (f : Bool) (w : World) (os : OsState) : segRun treeTable pw (wf f w) m0 ann 1 (87 + (23 + (23 + (23 + (23 + (25 + 54)))))) (S3 f (wf f w) os).abs (piecesOf sts4 env cE ⟨79, 0, 79, 6⟩ fB) = some (.next, (S4 f (wf f w) os).abs, cE, ⟨83, 0, 84, 30⟩) := TP_eq sts4 ⟨79, 0, 79, 6⟩ ▸ (seg_go (segGo_of (goEq (congrFun (q4c0 f w) os))) (seg_go (segGo_of (goEq (U4c0ms y4c1 f w os))) (seg_go (segGo_of (goEq (U4c0ms y4c2 f w os))) (seg_go (segGo_of (goEq (U4c0ms y4c3 f w os))) (seg_go (segGo_of (goEq (U4c0ms y4c4 f w os))) (seg_go (segGo_of (goEq (U4c0ms y4c5 f w os))) (lastRun (r := (_, _, _)) (congrFun (q4 f w) os))))))))
noncomputable def sts5 : List Stmt := (pw.main.body.drop 11).take 2
noncomputable def o132v213 (P : Params) : Obj := ⟨(.type "range"), none, .fields #[(.int (.ofNat (nat_lit 12272)) (nat_lit 406)), (.int (.ofNat (nat_lit 12284)) (nat_lit 407)), (.int (.ofNat (nat_lit 1)) (nat_lit 408))], #[]⟩
noncomputable def s133v214 (f : Bool) (P : Params) : Obj := ⟨(.type "set"), none, .set #[] 0 { mask := (nat_lit 7), place := #[], dummies := #[], finger := 0, led := !f, moves := 0, plain := true }, #[]⟩
noncomputable def o134v215 (P : Params) : Obj := ⟨(.type "range_iterator"), none, .fields #[(.int (.ofNat (nat_lit 12272)) (nat_lit 0)), (.int (.ofNat (nat_lit 12)) (nat_lit 0)), (.int (.ofNat (nat_lit 1)) (nat_lit 0))], #[]⟩
noncomputable def TT4 (x0 x1 : Obj) (f : Bool) (P : Params) : BT := (.node (boot_o_0 P) (.node (boot_o_1 P) (.node (o3v202 P) (.node (boot_o_7 P) (.node (o15v6 P) (.node (o31v24 P) (.node (o63v56 P) (.node (o127v208 P) .nil .nil) .nil) (.node (o95v90 P) .nil .nil)) (.node (o47v40 P) (.node (o79v72 P) .nil .nil) (.node (o111v178 P) .nil .nil))) (.node (o23v16 P) (.node (o39v32 P) (.node (o71v64 P) .nil .nil) (.node (o103v98 P) .nil .nil)) (.node (o55v48 P) (.node (o87v80 P) .nil .nil) (.node (o119v188 P) .nil .nil)))) (.node (o11v0 P) (.node (o19v10 P) (.node (o35v28 P) (.node (o67v60 P) (.node (o131v212 P) .nil .nil) .nil) (.node (o99v94 P) .nil .nil)) (.node (o51v44 P) (.node (o83v76 P) .nil .nil) (.node (o115v184 P) .nil .nil))) (.node (o27v20 P) (.node (o43v36 P) (.node (o75v68 P) .nil .nil) (.node (o107v118 P) .nil .nil)) (.node (o59v52 P) (.node (o91v86 P) .nil .nil) (.node (o123v204 P) .nil .nil))))) (.node (boot_o_5 P) (.node (boot_o_9 P) (.node (o17v8 P) (.node (o33v26 P) (.node (o65v58 P) (.node (o129v210 P) .nil .nil) .nil) (.node (o97v92 P) .nil .nil)) (.node (o49v42 P) (.node (o81v74 P) .nil .nil) (.node (o113v182 P) .nil .nil))) (.node (o25v18 P) (.node (o41v34 P) (.node (o73v66 P) .nil .nil) (.node (o105v116 P) .nil .nil)) (.node (o57v50 P) (.node (o89v84 P) .nil .nil) (.node (s121v200 f P) .nil .nil)))) (.node (o13v2 P) (.node (o21v12 P) (.node (o37v30 P) (.node (o69v62 P) (.node x0 .nil .nil) .nil) (.node (o101v96 P) .nil .nil)) (.node (o53v46 P) (.node (o85v78 P) .nil .nil) (.node (o117v186 P) .nil .nil))) (.node (o29v22 P) (.node (o45v38 P) (.node (o77v70 P) .nil .nil) (.node (s109v174 f P) .nil .nil)) (.node (o61v54 P) (.node (o93v88 P) .nil .nil) (.node (o125v206 P) .nil .nil)))))) (.node (boot_o_2 P) (.node (boot_o_4 P) (.node (boot_o_8 P) (.node (o16v7 P) (.node (o32v25 P) (.node (o64v57 P) (.node (o128v209 P) .nil .nil) .nil) (.node (o96v91 P) .nil .nil)) (.node (o48v41 P) (.node (o80v73 P) .nil .nil) (.node (o112v179 P) .nil .nil))) (.node (o24v17 P) (.node (o40v33 P) (.node (o72v65 P) .nil .nil) (.node (o104v115 P) .nil .nil)) (.node (o56v49 P) (.node (o88v83 P) .nil .nil) (.node (o120v189 P) .nil .nil)))) (.node (o12v203 P) (.node (o20v11 P) (.node (o36v29 P) (.node (o68v61 P) (.node (o132v213 P) .nil .nil) .nil) (.node (o100v95 P) .nil .nil)) (.node (o52v45 P) (.node (o84v77 P) .nil .nil) (.node (o116v185 P) .nil .nil))) (.node (o28v21 P) (.node (o44v37 P) (.node (o76v69 P) .nil .nil) (.node (o108v119 P) .nil .nil)) (.node (o60v53 P) (.node (o92v87 P) .nil .nil) (.node (o124v205 P) .nil .nil))))) (.node (boot_o_6 P) (.node (boot_o_10 P) (.node (o18v9 P) (.node (o34v27 P) (.node (o66v59 P) (.node (o130v211 P) .nil .nil) .nil) (.node (o98v93 P) .nil .nil)) (.node (o50v43 P) (.node (o82v75 P) .nil .nil) (.node (o114v183 P) .nil .nil))) (.node (o26v19 P) (.node (o42v35 P) (.node (o74v67 P) .nil .nil) (.node (o106v117 P) .nil .nil)) (.node (o58v51 P) (.node (o90v85 P) .nil .nil) (.node (o122v201 P) .nil .nil)))) (.node (o14v3 P) (.node (o22v15 P) (.node (o38v31 P) (.node (o70v63 P) (.node x1 .nil .nil) .nil) (.node (o102v97 P) .nil .nil)) (.node (o54v47 P) (.node (o86v79 P) .nil .nil) (.node (o118v187 P) .nil .nil))) (.node (o30v23 P) (.node (o46v39 P) (.node (o78v71 P) .nil .nil) (.node (o110v177 P) .nil .nil)) (.node (o62v55 P) (.node (o94v89 P) .nil .nil) (.node (o126v207 P) .nil .nil)))))))
noncomputable def t5c0 (f : Bool) (P : Params) : BT := TT4 (s133v214 f P) (o134v215 P) f P
noncomputable def S5c0 (f : Bool) (w : World) (os : OsState) : SharedT := ⟨t5c0 f w.params, 135, lf, gs, boot_drawn, 409, os⟩
noncomputable def fr5c0 (f : Bool) (w : World) (os : OsState) : List Frame := match twGo twTab pw (wf f (World.withFollow w "special-get-raises" false)) m0 ann 1 58 (S4 f (wf f (World.withFollow w "special-get-raises" false)) os) (TP sts5 ⟨83, 0, 84, 30⟩) with | some (_, t) => t.stack | none => []
noncomputable def TH5c0 (fs : List Frame) : Thread := ⟨twDen twTab (.builtin "set.update.loop" ⟨[(.ref 133), (.ref 134)], []⟩), (.builtin "set.update.loop" ⟨[(.ref 133), (.ref 134)], []⟩), ⟨85, 9, 85, 33⟩, fs⟩
noncomputable def T5c0 (f : Bool) (w : World) (os : OsState) : Thread := TH5c0 (fr5c0 f w os)
noncomputable def Q5c0 (f : Bool) (w : World) : Prop := (fun os => twGo twTab pw (wf f w) m0 ann 1 58 (S4 f (wf f w) os) (TP sts5 ⟨83, 0, 84, 30⟩)) = fun os => some (S5c0 f (wf f w) os, (T5c0 f w os))
noncomputable def G5c0 (f : Bool) (w : World) (os : OsState) : Option (SharedT × Thread) := twGo twTab pw (wf f w) m0 ann 1 58 (S4 f (wf f w) os) (TP sts5 ⟨83, 0, 84, 30⟩)
noncomputable def H5c0 (f : Bool) (w : World) (os : OsState) : Option (SharedT × Thread) := some (S5c0 f (wf f w) os, (T5c0 f w os))
theorem y5c0 : ∀ (w : World), (G5c0 true (World.withFollow w "special-get-raises" false), G5c0 true (World.withFollow w "special-get-raises" true), G5c0 false (World.withFollow w "special-get-raises" false), G5c0 false (World.withFollow w "special-get-raises" true)) = (H5c0 true (World.withFollow w "special-get-raises" false), H5c0 true (World.withFollow w "special-get-raises" true), H5c0 false (World.withFollow w "special-get-raises" false), H5c0 false (World.withFollow w "special-get-raises" true)) := by intro w; kernel_rfl
theorem q5c0 : ∀ f w, Q5c0 f w := fun f => match f with | true => (byRow2 "special-get-raises" (P := fun w => Q5c0 true w) (fun w => (Eq.mp (show (G5c0 true (World.withFollow w "special-get-raises" false) = H5c0 true (World.withFollow w "special-get-raises" false)) = Q5c0 true (World.withFollow w "special-get-raises" false) from by kernel_rfl) (pr1 (y5c0 w)))) (fun w => (Eq.mp (show (G5c0 true (World.withFollow w "special-get-raises" true) = H5c0 true (World.withFollow w "special-get-raises" true)) = Q5c0 true (World.withFollow w "special-get-raises" true) from by kernel_rfl) (pr2 (y5c0 w))))) | false => (byRow2 "special-get-raises" (P := fun w => Q5c0 false w) (fun w => (Eq.mp (show (G5c0 false (World.withFollow w "special-get-raises" false) = H5c0 false (World.withFollow w "special-get-raises" false)) = Q5c0 false (World.withFollow w "special-get-raises" false) from by kernel_rfl) (pr3 (y5c0 w)))) (fun w => (Eq.mp (show (G5c0 false (World.withFollow w "special-get-raises" true) = H5c0 false (World.withFollow w "special-get-raises" true)) = Q5c0 false (World.withFollow w "special-get-raises" true) from by kernel_rfl) (pr4 (y5c0 w)))))
theorem l5c0 (f : Bool) (w : World) : (fun os => (fr5c0 f w os).length) = fun _ => 4 := by kernel_rfl
noncomputable def s133v216 (f : Bool) (P : Params) : Obj := ⟨(.type "set"), none, .set #[ei (nat_lit 12272) (nat_lit 409)] 1 { mask := (nat_lit 7), place := #[(nat_lit 0)], dummies := #[], finger := 0, led := !f, moves := 0, plain := true }, #[]⟩
noncomputable def o134v217 (P : Params) : Obj := ⟨(.type "range_iterator"), none, .fields #[(.int (.ofNat (nat_lit 12273)) (nat_lit 0)), (.int (.ofNat (nat_lit 11)) (nat_lit 0)), (.int (.ofNat (nat_lit 1)) (nat_lit 0))], #[]⟩
noncomputable def t5c1 (f : Bool) (P : Params) : BT := TT4 (s133v216 f P) (o134v217 P) f P
noncomputable def S5c1 (f : Bool) (w : World) (os : OsState) : SharedT := ⟨t5c1 f w.params, 135, lf, gs, boot_drawn, 411, os⟩
noncomputable def GG5c0 (k : Nat) (A : Bool → World → OsState → SharedT) (f : Bool) (w : World) (a0 a1 a2 a3 : Frame) (os : OsState) : Option (SharedT × Thread) := twGo twTab pw (wf f w) m0 ann 1 k (A f (wf f w) os) (TH5c0 [a0, a1, a2, a3])
noncomputable def HH5c0 (B : Bool → World → OsState → SharedT) (f : Bool) (w : World) (a0 a1 a2 a3 : Frame) (os : OsState) : Option (SharedT × Thread) := some (B f (wf f w) os, TH5c0 [a0, a1, a2, a3])
noncomputable def Y5c0ms (k : Nat) (A B : Bool → World → OsState → SharedT) : Prop := ∀ (w : World) (a0 a1 a2 a3 : Frame), (GG5c0 k A true (World.withFollow w "special-get-raises" false) a0 a1 a2 a3, GG5c0 k A true (World.withFollow w "special-get-raises" true) a0 a1 a2 a3, GG5c0 k A false (World.withFollow w "special-get-raises" false) a0 a1 a2 a3, GG5c0 k A false (World.withFollow w "special-get-raises" true) a0 a1 a2 a3) = (HH5c0 B true (World.withFollow w "special-get-raises" false) a0 a1 a2 a3, HH5c0 B true (World.withFollow w "special-get-raises" true) a0 a1 a2 a3, HH5c0 B false (World.withFollow w "special-get-raises" false) a0 a1 a2 a3, HH5c0 B false (World.withFollow w "special-get-raises" true) a0 a1 a2 a3)
theorem X5c0ms {k : Nat} {A B : Bool → World → OsState → SharedT} (y : Y5c0ms k A B) : ∀ (f : Bool) (w : World) (a0 a1 a2 a3 : Frame), GG5c0 k A f w a0 a1 a2 a3 = HH5c0 B f w a0 a1 a2 a3 :=
  let P := fun (f : Bool) (w : World) => ∀ a0 a1 a2 a3 : Frame, GG5c0 k A f w a0 a1 a2 a3 = HH5c0 B f w a0 a1 a2 a3
  show ∀ f w, P f w from fun f => match f with | true => byRow2 "special-get-raises" (P := fun w => P true w) (fun w a0 a1 a2 a3 => pr1 (y w a0 a1 a2 a3)) (fun w a0 a1 a2 a3 => pr2 (y w a0 a1 a2 a3)) | false => byRow2 "special-get-raises" (P := fun w => P false w) (fun w a0 a1 a2 a3 => pr3 (y w a0 a1 a2 a3)) (fun w a0 a1 a2 a3 => pr4 (y w a0 a1 a2 a3))
theorem U5c0ms {k : Nat} {A B : Bool → World → OsState → SharedT} (y : Y5c0ms k A B) (f : Bool) (w : World) (os : OsState) : twGo twTab pw (wf f w) m0 ann 1 k (A f (wf f w) os) (T5c0 f w os) = some (B f (wf f w) os, T5c0 f w os) :=
  lift4 (P := fun fs => twGo twTab pw (wf f w) m0 ann 1 k (A f (wf f w) os) (TH5c0 fs) = some (B f (wf f w) os, TH5c0 fs)) (fun a0 a1 a2 a3 => congrFun (X5c0ms y f w a0 a1 a2 a3) os) _ (congrFun (l5c0 f w) os)
theorem y5c1 : Y5c0ms 23 S5c0 S5c1 := by intro w a0 a1 a2 a3; kernel_rfl
noncomputable def s133v218 (f : Bool) (P : Params) : Obj := ⟨(.type "set"), none, .set #[ei (nat_lit 12272) (nat_lit 409), ei (nat_lit 12273) (nat_lit 411)] 2 { mask := (nat_lit 7), place := #[(nat_lit 0), (nat_lit 1)], dummies := #[], finger := 0, led := !f, moves := 0, plain := true }, #[]⟩
noncomputable def o134v219 (P : Params) : Obj := ⟨(.type "range_iterator"), none, .fields #[(.int (.ofNat (nat_lit 12274)) (nat_lit 0)), (.int (.ofNat (nat_lit 10)) (nat_lit 0)), (.int (.ofNat (nat_lit 1)) (nat_lit 0))], #[]⟩
noncomputable def t5c2 (f : Bool) (P : Params) : BT := TT4 (s133v218 f P) (o134v219 P) f P
noncomputable def S5c2 (f : Bool) (w : World) (os : OsState) : SharedT := ⟨t5c2 f w.params, 135, lf, gs, boot_drawn, 413, os⟩
theorem y5c2 : Y5c0ms 23 S5c1 S5c2 := by intro w a0 a1 a2 a3; kernel_rfl
noncomputable def s133v220 (f : Bool) (P : Params) : Obj := ⟨(.type "set"), none, .set #[ei (nat_lit 12272) (nat_lit 409), ei (nat_lit 12273) (nat_lit 411), ei (nat_lit 12274) (nat_lit 413)] 3 { mask := (nat_lit 7), place := #[(nat_lit 0), (nat_lit 1), (nat_lit 2)], dummies := #[], finger := 0, led := !f, moves := 0, plain := true }, #[]⟩
noncomputable def o134v221 (P : Params) : Obj := ⟨(.type "range_iterator"), none, .fields #[(.int (.ofNat (nat_lit 12275)) (nat_lit 0)), (.int (.ofNat (nat_lit 9)) (nat_lit 0)), (.int (.ofNat (nat_lit 1)) (nat_lit 0))], #[]⟩
noncomputable def t5c3 (f : Bool) (P : Params) : BT := TT4 (s133v220 f P) (o134v221 P) f P
noncomputable def S5c3 (f : Bool) (w : World) (os : OsState) : SharedT := ⟨t5c3 f w.params, 135, lf, gs, boot_drawn, 415, os⟩
theorem y5c3 : Y5c0ms 23 S5c2 S5c3 := by intro w a0 a1 a2 a3; kernel_rfl
noncomputable def s133v222 (f : Bool) (P : Params) : Obj := ⟨(.type "set"), none, .set #[ei (nat_lit 12272) (nat_lit 409), ei (nat_lit 12273) (nat_lit 411), ei (nat_lit 12274) (nat_lit 413), ei (nat_lit 12275) (nat_lit 415)] 4 { mask := (nat_lit 7), place := #[(nat_lit 0), (nat_lit 1), (nat_lit 2), (nat_lit 3)], dummies := #[], finger := 0, led := !f, moves := 0, plain := true }, #[]⟩
noncomputable def o134v223 (P : Params) : Obj := ⟨(.type "range_iterator"), none, .fields #[(.int (.ofNat (nat_lit 12276)) (nat_lit 0)), (.int (.ofNat (nat_lit 8)) (nat_lit 0)), (.int (.ofNat (nat_lit 1)) (nat_lit 0))], #[]⟩
noncomputable def t5c4 (f : Bool) (P : Params) : BT := TT4 (s133v222 f P) (o134v223 P) f P
noncomputable def S5c4 (f : Bool) (w : World) (os : OsState) : SharedT := ⟨t5c4 f w.params, 135, lf, gs, boot_drawn, 417, os⟩
theorem y5c4 : Y5c0ms 23 S5c3 S5c4 := by intro w a0 a1 a2 a3; kernel_rfl
noncomputable def s133v224 (f : Bool) (P : Params) : Obj := ⟨(.type "set"), none, .set #[ei (nat_lit 12272) (nat_lit 409), ei (nat_lit 12273) (nat_lit 411), ei (nat_lit 12274) (nat_lit 413), ei (nat_lit 12275) (nat_lit 415), ei (nat_lit 12276) (nat_lit 417)] 6 { mask := (nat_lit 31), place := #[(nat_lit 16), (nat_lit 17), (nat_lit 18), (nat_lit 19), (nat_lit 20)], dummies := #[], finger := 0, led := !f, moves := 1, plain := true }, #[]⟩
noncomputable def o134v225 (P : Params) : Obj := ⟨(.type "range_iterator"), none, .fields #[(.int (.ofNat (nat_lit 12277)) (nat_lit 0)), (.int (.ofNat (nat_lit 7)) (nat_lit 0)), (.int (.ofNat (nat_lit 1)) (nat_lit 0))], #[]⟩
noncomputable def t5c5 (f : Bool) (P : Params) : BT := TT4 (s133v224 f P) (o134v225 P) f P
noncomputable def S5c5 (f : Bool) (w : World) (os : OsState) : SharedT := ⟨t5c5 f w.params, 135, lf, gs, boot_drawn, 419, os⟩
theorem y5c5 : Y5c0ms 25 S5c4 S5c5 := by intro w a0 a1 a2 a3; kernel_rfl
noncomputable def s133v226 (f : Bool) (P : Params) : Obj := ⟨(.type "set"), none, .set #[ei (nat_lit 12272) (nat_lit 409), ei (nat_lit 12273) (nat_lit 411), ei (nat_lit 12274) (nat_lit 413), ei (nat_lit 12275) (nat_lit 415), ei (nat_lit 12276) (nat_lit 417), ei (nat_lit 12277) (nat_lit 419)] 7 { mask := (nat_lit 31), place := #[(nat_lit 16), (nat_lit 17), (nat_lit 18), (nat_lit 19), (nat_lit 20), (nat_lit 21)], dummies := #[], finger := 0, led := !f, moves := 1, plain := true }, #[]⟩
noncomputable def o134v227 (P : Params) : Obj := ⟨(.type "range_iterator"), none, .fields #[(.int (.ofNat (nat_lit 12278)) (nat_lit 0)), (.int (.ofNat (nat_lit 6)) (nat_lit 0)), (.int (.ofNat (nat_lit 1)) (nat_lit 0))], #[]⟩
noncomputable def t5c6 (f : Bool) (P : Params) : BT := TT4 (s133v226 f P) (o134v227 P) f P
noncomputable def S5c6 (f : Bool) (w : World) (os : OsState) : SharedT := ⟨t5c6 f w.params, 135, lf, gs, boot_drawn, 421, os⟩
theorem y5c6 : Y5c0ms 23 S5c5 S5c6 := by intro w a0 a1 a2 a3; kernel_rfl
noncomputable def s133v228 (f : Bool) (P : Params) : Obj := ⟨(.type "set"), none, .set #[ei (nat_lit 12272) (nat_lit 409), ei (nat_lit 12273) (nat_lit 411), ei (nat_lit 12274) (nat_lit 413), ei (nat_lit 12275) (nat_lit 415), ei (nat_lit 12276) (nat_lit 417), ei (nat_lit 12277) (nat_lit 419), ei (nat_lit 12278) (nat_lit 421)] 8 { mask := (nat_lit 31), place := #[(nat_lit 16), (nat_lit 17), (nat_lit 18), (nat_lit 19), (nat_lit 20), (nat_lit 21), (nat_lit 22)], dummies := #[], finger := 0, led := !f, moves := 1, plain := true }, #[]⟩
noncomputable def o134v229 (P : Params) : Obj := ⟨(.type "range_iterator"), none, .fields #[(.int (.ofNat (nat_lit 12279)) (nat_lit 0)), (.int (.ofNat (nat_lit 5)) (nat_lit 0)), (.int (.ofNat (nat_lit 1)) (nat_lit 0))], #[]⟩
noncomputable def t5c7 (f : Bool) (P : Params) : BT := TT4 (s133v228 f P) (o134v229 P) f P
noncomputable def S5c7 (f : Bool) (w : World) (os : OsState) : SharedT := ⟨t5c7 f w.params, 135, lf, gs, boot_drawn, 423, os⟩
theorem y5c7 : Y5c0ms 23 S5c6 S5c7 := by intro w a0 a1 a2 a3; kernel_rfl
noncomputable def s133v230 (f : Bool) (P : Params) : Obj := ⟨(.type "set"), none, .set #[ei (nat_lit 12272) (nat_lit 409), ei (nat_lit 12273) (nat_lit 411), ei (nat_lit 12274) (nat_lit 413), ei (nat_lit 12275) (nat_lit 415), ei (nat_lit 12276) (nat_lit 417), ei (nat_lit 12277) (nat_lit 419), ei (nat_lit 12278) (nat_lit 421), ei (nat_lit 12279) (nat_lit 423)] 9 { mask := (nat_lit 31), place := #[(nat_lit 16), (nat_lit 17), (nat_lit 18), (nat_lit 19), (nat_lit 20), (nat_lit 21), (nat_lit 22), (nat_lit 23)], dummies := #[], finger := 0, led := !f, moves := 1, plain := true }, #[]⟩
noncomputable def o134v231 (P : Params) : Obj := ⟨(.type "range_iterator"), none, .fields #[(.int (.ofNat (nat_lit 12280)) (nat_lit 0)), (.int (.ofNat (nat_lit 4)) (nat_lit 0)), (.int (.ofNat (nat_lit 1)) (nat_lit 0))], #[]⟩
noncomputable def t5c8 (f : Bool) (P : Params) : BT := TT4 (s133v230 f P) (o134v231 P) f P
noncomputable def S5c8 (f : Bool) (w : World) (os : OsState) : SharedT := ⟨t5c8 f w.params, 135, lf, gs, boot_drawn, 425, os⟩
theorem y5c8 : Y5c0ms 23 S5c7 S5c8 := by intro w a0 a1 a2 a3; kernel_rfl
noncomputable def EB21 : List (Int × Value) := ei (nat_lit 12272) (nat_lit 409) :: ei (nat_lit 12273) (nat_lit 411) :: ei (nat_lit 12274) (nat_lit 413) :: ei (nat_lit 12275) (nat_lit 415) :: ei (nat_lit 12276) (nat_lit 417) :: ei (nat_lit 12277) (nat_lit 419) :: ei (nat_lit 12278) (nat_lit 421) :: ei (nat_lit 12279) (nat_lit 423) :: ei (nat_lit 12280) (nat_lit 425) :: []
noncomputable def EP21 : List Nat := (nat_lit 16) :: (nat_lit 17) :: (nat_lit 18) :: (nat_lit 19) :: (nat_lit 20) :: (nat_lit 21) :: (nat_lit 22) :: (nat_lit 23) :: (nat_lit 24) :: []
noncomputable def s133v232 (f : Bool) (P : Params) : Obj := ⟨(.type "set"), none, .set ⟨EB21 ++ []⟩ 10 { mask := (nat_lit 31), place := ⟨EP21 ++ []⟩, dummies := #[], finger := 0, led := !f, moves := 1, plain := true }, #[]⟩
noncomputable def o134v233 (P : Params) : Obj := ⟨(.type "range_iterator"), none, .fields #[(.int (.ofNat (nat_lit 12281)) (nat_lit 0)), (.int (.ofNat (nat_lit 3)) (nat_lit 0)), (.int (.ofNat (nat_lit 1)) (nat_lit 0))], #[]⟩
noncomputable def t5c9 (f : Bool) (P : Params) : BT := TT4 (s133v232 f P) (o134v233 P) f P
noncomputable def S5c9 (f : Bool) (w : World) (os : OsState) : SharedT := ⟨t5c9 f w.params, 135, lf, gs, boot_drawn, 427, os⟩
theorem y5c9 : Y5c0ms 23 S5c8 S5c9 := by intro w a0 a1 a2 a3; kernel_rfl
noncomputable def s133v234 (f : Bool) (P : Params) : Obj := ⟨(.type "set"), none, .set ⟨EB21 ++ [ei (nat_lit 12281) (nat_lit 427)]⟩ 11 { mask := (nat_lit 31), place := ⟨EP21 ++ [(nat_lit 25)]⟩, dummies := #[], finger := 0, led := !f, moves := 1, plain := true }, #[]⟩
noncomputable def o134v235 (P : Params) : Obj := ⟨(.type "range_iterator"), none, .fields #[(.int (.ofNat (nat_lit 12282)) (nat_lit 0)), (.int (.ofNat (nat_lit 2)) (nat_lit 0)), (.int (.ofNat (nat_lit 1)) (nat_lit 0))], #[]⟩
noncomputable def t5c10 (f : Bool) (P : Params) : BT := TT4 (s133v234 f P) (o134v235 P) f P
noncomputable def S5c10 (f : Bool) (w : World) (os : OsState) : SharedT := ⟨t5c10 f w.params, 135, lf, gs, boot_drawn, 429, os⟩
theorem y5c10 : Y5c0ms 23 S5c9 S5c10 := by intro w a0 a1 a2 a3; kernel_rfl
noncomputable def s133v236 (f : Bool) (P : Params) : Obj := ⟨(.type "set"), none, .set ⟨EB21 ++ [ei (nat_lit 12281) (nat_lit 427), ei (nat_lit 12282) (nat_lit 429)]⟩ 12 { mask := (nat_lit 31), place := ⟨EP21 ++ [(nat_lit 25), (nat_lit 26)]⟩, dummies := #[], finger := 0, led := !f, moves := 1, plain := true }, #[]⟩
noncomputable def o134v237 (P : Params) : Obj := ⟨(.type "range_iterator"), none, .fields #[(.int (.ofNat (nat_lit 12283)) (nat_lit 0)), (.int (.ofNat (nat_lit 1)) (nat_lit 0)), (.int (.ofNat (nat_lit 1)) (nat_lit 0))], #[]⟩
noncomputable def t5c11 (f : Bool) (P : Params) : BT := TT4 (s133v236 f P) (o134v237 P) f P
noncomputable def S5c11 (f : Bool) (w : World) (os : OsState) : SharedT := ⟨t5c11 f w.params, 135, lf, gs, boot_drawn, 431, os⟩
theorem y5c11 : Y5c0ms 23 S5c10 S5c11 := by intro w a0 a1 a2 a3; kernel_rfl
noncomputable def s133v238 (f : Bool) (P : Params) : Obj := ⟨(.type "set"), none, .set #[((.ofNat (nat_lit 12272)), (.int (.ofNat (nat_lit 12272)) (nat_lit 409))), ((.ofNat (nat_lit 12273)), (.int (.ofNat (nat_lit 12273)) (nat_lit 411))), ((.ofNat (nat_lit 12274)), (.int (.ofNat (nat_lit 12274)) (nat_lit 413))), ((.ofNat (nat_lit 12275)), (.int (.ofNat (nat_lit 12275)) (nat_lit 415))), ((.ofNat (nat_lit 12276)), (.int (.ofNat (nat_lit 12276)) (nat_lit 417))), ((.ofNat (nat_lit 12277)), (.int (.ofNat (nat_lit 12277)) (nat_lit 419))), ((.ofNat (nat_lit 12278)), (.int (.ofNat (nat_lit 12278)) (nat_lit 421))), ((.ofNat (nat_lit 12279)), (.int (.ofNat (nat_lit 12279)) (nat_lit 423))), ((.ofNat (nat_lit 12280)), (.int (.ofNat (nat_lit 12280)) (nat_lit 425))), ((.ofNat (nat_lit 12281)), (.int (.ofNat (nat_lit 12281)) (nat_lit 427))), ((.ofNat (nat_lit 12282)), (.int (.ofNat (nat_lit 12282)) (nat_lit 429))), ((.ofNat (nat_lit 12283)), (.int (.ofNat (nat_lit 12283)) (nat_lit 431)))] 13 { mask := (nat_lit 31), place := #[(nat_lit 16), (nat_lit 17), (nat_lit 18), (nat_lit 19), (nat_lit 20), (nat_lit 21), (nat_lit 22), (nat_lit 23), (nat_lit 24), (nat_lit 25), (nat_lit 26), (nat_lit 27)], dummies := #[], finger := 0, led := !f, moves := 1, plain := true }, #[]⟩
noncomputable def o134v239 (P : Params) : Obj := ⟨(.type "range_iterator"), none, .fields #[(.int (.ofNat (nat_lit 12284)) (nat_lit 0)), (.int (.ofNat (nat_lit 0)) (nat_lit 0)), (.int (.ofNat (nat_lit 1)) (nat_lit 0))], #[]⟩
noncomputable def t5c12 (f : Bool) (P : Params) : BT := TT4 (s133v238 f P) (o134v239 P) f P
noncomputable def S5c12 (f : Bool) (w : World) (os : OsState) : SharedT := ⟨t5c12 f w.params, 135, lf, gs, boot_drawn, 433, os⟩
theorem y5c12 : Y5c0ms 23 S5c11 S5c12 := by intro w a0 a1 a2 a3; kernel_rfl
noncomputable def o3v240 (P : Params) : Obj := ⟨(.type "dict"), none, .dict #[⟨PyData.keyHash P (Str.ofString "__name__"), (.str (Str.ofString "__name__") 165), (.str (Str.ofString "cpy313.stringprep") 316)⟩, ⟨PyData.keyHash P (Str.ofString "__doc__"), (.str (Str.ofString "__doc__") 166), .none⟩, ⟨PyData.keyHash P (Str.ofString "__package__"), (.str (Str.ofString "__package__") 167), .none⟩, ⟨PyData.keyHash P (Str.ofString "__loader__"), (.str (Str.ofString "__loader__") 168), (.builtin "__main__.__loader__#opaque")⟩, ⟨PyData.keyHash P (Str.ofString "__spec__"), (.str (Str.ofString "__spec__") 169), .none⟩, ⟨PyData.keyHash P (Str.ofString "__annotations__"), (.str (Str.ofString "__annotations__") 170), (.ref 6)⟩, ⟨PyData.keyHash P (Str.ofString "__builtins__"), (.str (Str.ofString "__builtins__") 171), (.ref 4)⟩, ⟨PyData.keyHash P (Str.ofString "__file__"), (.str (Str.ofString "__file__") 173), (.str (Str.ofString "/claim/cut.py") 172)⟩, ⟨PyData.keyHash P (Str.ofString "__cached__"), (.str (Str.ofString "__cached__") 174), .none⟩, ⟨PyData.keyHash P (Str.ofString "_wall"), (.str (Str.ofString "_wall") 193), (.ref 21)⟩, ⟨PyData.keyHash P (Str.ofString "Whitespace"), (.str (Str.ofString "Whitespace") 291), (.ref 83)⟩, ⟨PyData.keyHash P (Str.ofString "_int2digits"), (.str (Str.ofString "_int2digits") 304), (.ref 94)⟩, ⟨PyData.keyHash P (Str.ofString "_digits2int"), (.str (Str.ofString "_digits2int") 315), (.ref 101)⟩, ⟨PyData.keyHash P (Str.ofString "b1_set"), (.str (Str.ofString "b1_set") 377), (.ref 109)⟩, ⟨PyData.keyHash P (Str.ofString "in_table_b1"), (.str (Str.ofString "in_table_b1") 384), (.ref 119)⟩, ⟨PyData.keyHash P (Str.ofString "c6_set"), (.str (Str.ofString "c6_set") 398), (.ref 121)⟩, ⟨PyData.keyHash P (Str.ofString "in_table_c6"), (.str (Str.ofString "in_table_c6") 405), (.ref 131)⟩, ⟨PyData.keyHash P (Str.ofString "c7_set"), (.str (Str.ofString "c7_set") 433), (.ref 133)⟩, ⟨PyData.keyHash P (Str.ofString "in_table_c7"), (.str (Str.ofString "in_table_c7") 440), (.ref 143)⟩] 19, #[]⟩
noncomputable def o12v241 (P : Params) : Obj := ⟨.none, none, .fields #[(.int (.ofNat (nat_lit 1)) (nat_lit 0)), (.int (.ofNat (nat_lit 0)) (nat_lit 0)), (.ref 20), (.int (.ofNat (nat_lit 5)) (nat_lit 0)), (.int (.ofNat (nat_lit 0)) (nat_lit 0)), (.ref 27), (.int (.ofNat (nat_lit 53)) (nat_lit 0)), (.int (.ofNat (nat_lit 0)) (nat_lit 0)), (.ref 93), (.int (.ofNat (nat_lit 69)) (nat_lit 0)), (.int (.ofNat (nat_lit 0)) (nat_lit 0)), (.ref 100), (.int (.ofNat (nat_lit 80)) (nat_lit 0)), (.int (.ofNat (nat_lit 0)) (nat_lit 0)), (.ref 118), (.int (.ofNat (nat_lit 83)) (nat_lit 0)), (.int (.ofNat (nat_lit 0)) (nat_lit 0)), (.ref 130), (.int (.ofNat (nat_lit 86)) (nat_lit 0)), (.int (.ofNat (nat_lit 0)) (nat_lit 0)), (.ref 142)], #[]⟩
noncomputable def o135v242 (P : Params) : Obj := ⟨(.type "tuple"), none, .seq #[] 0, #[]⟩
noncomputable def o136v243 (P : Params) : Obj := ⟨(.type "StopIteration"), none, .fields #[(.ref 135), .none, .none, .none, (.bool false), .none], #[]⟩
noncomputable def o137v244 (P : Params) : Obj := ⟨(.type "tuple"), none, .seq #[] 0, #[]⟩
noncomputable def o138v245 (P : Params) : Obj := ⟨.none, none, .fields #[], #[]⟩
noncomputable def o139v246 (P : Params) : Obj := ⟨(.type "tuple"), none, .seq #[(.str (Str.ofString "code") 437)] 0, #[]⟩
noncomputable def o140v247 (P : Params) : Obj := ⟨(.type "tuple"), none, .seq #[] 0, #[]⟩
noncomputable def o141v248 (P : Params) : Obj := ⟨.none, none, .func { name := (Str.ofString "in_table_c7"), qualname := (Str.ofString "in_table_c7"), params := A12.1, body := .stmts B12.1, scope := C12.1, globals := 0, closure := [], defaults := .none, kwdefaults := .none, doc := .none, pyModule := .none, annotations := none, code := .none, closureTuple := .none, builtins := 0 }, #[]⟩
noncomputable def o142v249 (P : Params) : Obj := ⟨(.type "code"), none, .fields #[(.str (Str.ofString "in_table_c7") 434), (.str (Str.ofString "in_table_c7") 435), (.str (Str.ofString "/claim/cut.py") 436), (.int (.ofNat (nat_lit 86)) (nat_lit 0)), (.int (.ofNat (nat_lit 1)) (nat_lit 0)), (.int (.ofNat (nat_lit 0)) (nat_lit 0)), (.int (.ofNat (nat_lit 0)) (nat_lit 0)), (.int (.ofNat (nat_lit 3)) (nat_lit 0)), (.ref 137), (.bool true), (.int (.ofNat (nat_lit 181)) (nat_lit 0)), (.ref 138), .none, (.ref 139), (.ref 140), (.ref 141), (.int (.ofNat (nat_lit 438)) (nat_lit 0)), (.int (.ofNat (nat_lit 86)) (nat_lit 0)), (.str (Str.ofString "/claim/cut.py") 439)], #[]⟩
noncomputable def o143v250 (P : Params) : Obj := ⟨(.type "function"), none, .func { name := (Str.ofString "in_table_c7"), qualname := (Str.ofString "in_table_c7"), params := A12.1, body := .stmts B12.1, scope := C12.1, globals := 3, closure := [], defaults := .none, kwdefaults := .none, doc := .none, pyModule := (.str (Str.ofString "cpy313.stringprep") 316), annotations := none, code := (.ref 142), closureTuple := .none, builtins := 0 }, #[]⟩
noncomputable def t5 (f : Bool) (P : Params) : BT := (.node (boot_o_0 P) (.node (boot_o_1 P) (.node (o3v240 P) (.node (boot_o_7 P) (.node (o15v6 P) (.node (o31v24 P) (.node (o63v56 P) (.node (o127v208 P) .nil .nil) .nil) (.node (o95v90 P) .nil .nil)) (.node (o47v40 P) (.node (o79v72 P) (.node (o143v250 P) .nil .nil) .nil) (.node (o111v178 P) .nil .nil))) (.node (o23v16 P) (.node (o39v32 P) (.node (o71v64 P) (.node (o135v242 P) .nil .nil) .nil) (.node (o103v98 P) .nil .nil)) (.node (o55v48 P) (.node (o87v80 P) .nil .nil) (.node (o119v188 P) .nil .nil)))) (.node (o11v0 P) (.node (o19v10 P) (.node (o35v28 P) (.node (o67v60 P) (.node (o131v212 P) .nil .nil) .nil) (.node (o99v94 P) .nil .nil)) (.node (o51v44 P) (.node (o83v76 P) .nil .nil) (.node (o115v184 P) .nil .nil))) (.node (o27v20 P) (.node (o43v36 P) (.node (o75v68 P) (.node (o139v246 P) .nil .nil) .nil) (.node (o107v118 P) .nil .nil)) (.node (o59v52 P) (.node (o91v86 P) .nil .nil) (.node (o123v204 P) .nil .nil))))) (.node (boot_o_5 P) (.node (boot_o_9 P) (.node (o17v8 P) (.node (o33v26 P) (.node (o65v58 P) (.node (o129v210 P) .nil .nil) .nil) (.node (o97v92 P) .nil .nil)) (.node (o49v42 P) (.node (o81v74 P) .nil .nil) (.node (o113v182 P) .nil .nil))) (.node (o25v18 P) (.node (o41v34 P) (.node (o73v66 P) (.node (o137v244 P) .nil .nil) .nil) (.node (o105v116 P) .nil .nil)) (.node (o57v50 P) (.node (o89v84 P) .nil .nil) (.node (s121v200 f P) .nil .nil)))) (.node (o13v2 P) (.node (o21v12 P) (.node (o37v30 P) (.node (o69v62 P) (.node (s133v238 f P) .nil .nil) .nil) (.node (o101v96 P) .nil .nil)) (.node (o53v46 P) (.node (o85v78 P) .nil .nil) (.node (o117v186 P) .nil .nil))) (.node (o29v22 P) (.node (o45v38 P) (.node (o77v70 P) (.node (o141v248 P) .nil .nil) .nil) (.node (s109v174 f P) .nil .nil)) (.node (o61v54 P) (.node (o93v88 P) .nil .nil) (.node (o125v206 P) .nil .nil)))))) (.node (boot_o_2 P) (.node (boot_o_4 P) (.node (boot_o_8 P) (.node (o16v7 P) (.node (o32v25 P) (.node (o64v57 P) (.node (o128v209 P) .nil .nil) .nil) (.node (o96v91 P) .nil .nil)) (.node (o48v41 P) (.node (o80v73 P) .nil .nil) (.node (o112v179 P) .nil .nil))) (.node (o24v17 P) (.node (o40v33 P) (.node (o72v65 P) (.node (o136v243 P) .nil .nil) .nil) (.node (o104v115 P) .nil .nil)) (.node (o56v49 P) (.node (o88v83 P) .nil .nil) (.node (o120v189 P) .nil .nil)))) (.node (o12v241 P) (.node (o20v11 P) (.node (o36v29 P) (.node (o68v61 P) (.node (o132v213 P) .nil .nil) .nil) (.node (o100v95 P) .nil .nil)) (.node (o52v45 P) (.node (o84v77 P) .nil .nil) (.node (o116v185 P) .nil .nil))) (.node (o28v21 P) (.node (o44v37 P) (.node (o76v69 P) (.node (o140v247 P) .nil .nil) .nil) (.node (o108v119 P) .nil .nil)) (.node (o60v53 P) (.node (o92v87 P) .nil .nil) (.node (o124v205 P) .nil .nil))))) (.node (boot_o_6 P) (.node (boot_o_10 P) (.node (o18v9 P) (.node (o34v27 P) (.node (o66v59 P) (.node (o130v211 P) .nil .nil) .nil) (.node (o98v93 P) .nil .nil)) (.node (o50v43 P) (.node (o82v75 P) .nil .nil) (.node (o114v183 P) .nil .nil))) (.node (o26v19 P) (.node (o42v35 P) (.node (o74v67 P) (.node (o138v245 P) .nil .nil) .nil) (.node (o106v117 P) .nil .nil)) (.node (o58v51 P) (.node (o90v85 P) .nil .nil) (.node (o122v201 P) .nil .nil)))) (.node (o14v3 P) (.node (o22v15 P) (.node (o38v31 P) (.node (o70v63 P) (.node (o134v239 P) .nil .nil) .nil) (.node (o102v97 P) .nil .nil)) (.node (o54v47 P) (.node (o86v79 P) .nil .nil) (.node (o118v187 P) .nil .nil))) (.node (o30v23 P) (.node (o46v39 P) (.node (o78v71 P) (.node (o142v249 P) .nil .nil) .nil) (.node (o110v177 P) .nil .nil)) (.node (o62v55 P) (.node (o94v89 P) .nil .nil) (.node (o126v207 P) .nil .nil)))))))
noncomputable def S5 (f : Bool) (w : World) (os : OsState) : SharedT := ⟨t5 f w.params, 144, lf, gs, boot_drawn, 441, os⟩
noncomputable def Q5 (f : Bool) (w : World) : Prop := (fun os => twRun twTab pw (wf f w) m0 ann 1 54 (S5c12 f (wf f w) os) (T5c0 f w os)) = fun os => some (.next, S5 f (wf f w) os, cE, ⟨86, 0, 87, 30⟩)
noncomputable def G5 (f : Bool) (w : World) (os : OsState) : Option (Flow × SharedT × Code × Pos) := twRun twTab pw (wf f w) m0 ann 1 54 (S5c12 f (wf f w) os) (T5c0 f w os)
noncomputable def H5 (f : Bool) (w : World) (os : OsState) : Option (Flow × SharedT × Code × Pos) := some (.next, S5 f (wf f w) os, cE, ⟨86, 0, 87, 30⟩)
theorem y5 : ∀ (w : World), (G5 true w, G5 false w) = (H5 true w, H5 false w) := by intro w; kernel_rfl
theorem q5 : ∀ f w, Q5 f w := fun f => match f with | true => (fun w => (Eq.mp (show (G5 true w = H5 true w) = Q5 true w from by kernel_rfl) (pa1 (y5 w)))) | false => (fun w => (Eq.mp (show (G5 false w = H5 false w) = Q5 false w from by kernel_rfl) (pa2 (y5 w))))
theorem r5 (f : Bool) (w : World) (os : OsState) : segRun treeTable pw (wf f w) m0 ann 1 (58 + (23 + (23 + (23 + (23 + (25 + (23 + (23 + (23 + (23 + (23 + (23 + (23 + 54))))))))))))) (S4 f (wf f w) os).abs (piecesOf sts5 env cE ⟨83, 0, 84, 30⟩ fB) = some (.next, (S5 f (wf f w) os).abs, cE, ⟨86, 0, 87, 30⟩) := TP_eq sts5 ⟨83, 0, 84, 30⟩ ▸ (seg_go (segGo_of (goEq (congrFun (q5c0 f w) os))) (seg_go (segGo_of (goEq (U5c0ms y5c1 f w os))) (seg_go (segGo_of (goEq (U5c0ms y5c2 f w os))) (seg_go (segGo_of (goEq (U5c0ms y5c3 f w os))) (seg_go (segGo_of (goEq (U5c0ms y5c4 f w os))) (seg_go (segGo_of (goEq (U5c0ms y5c5 f w os))) (seg_go (segGo_of (goEq (U5c0ms y5c6 f w os))) (seg_go (segGo_of (goEq (U5c0ms y5c7 f w os))) (seg_go (segGo_of (goEq (U5c0ms y5c8 f w os))) (seg_go (segGo_of (goEq (U5c0ms y5c9 f w os))) (seg_go (segGo_of (goEq (U5c0ms y5c10 f w os))) (seg_go (segGo_of (goEq (U5c0ms y5c11 f w os))) (seg_go (segGo_of (goEq (U5c0ms y5c12 f w os))) (lastRun (r := (_, _, _)) (congrFun (q5 f w) os)))))))))))))))
noncomputable def sts6 : List Stmt := (pw.main.body.drop 13).take 1
noncomputable def o144v251 (P : Params) : Obj := ⟨(.type "list"), none, .seq #[(.int (.ofNat (nat_lit 917505)) (nat_lit 441))] 0, #[]⟩
noncomputable def o145v252 (P : Params) : Obj := ⟨(.type "range"), none, .fields #[(.int (.ofNat (nat_lit 917536)) (nat_lit 442)), (.int (.ofNat (nat_lit 917632)) (nat_lit 443)), (.int (.ofNat (nat_lit 1)) (nat_lit 444))], #[]⟩
noncomputable def o146v253 (P : Params) : Obj := ⟨(.type "list"), none, .seq #[] 2, #[]⟩
noncomputable def o147v254 (P : Params) : Obj := ⟨(.type "range_iterator"), none, .fields #[(.int (.ofNat (nat_lit 917536)) (nat_lit 0)), (.int (.ofNat (nat_lit 96)) (nat_lit 0)), (.int (.ofNat (nat_lit 1)) (nat_lit 0))], #[]⟩
noncomputable def TT5 (x0 x1 : Obj) (f : Bool) (P : Params) : BT := (.node (boot_o_0 P) (.node (boot_o_1 P) (.node (o3v240 P) (.node (boot_o_7 P) (.node (o15v6 P) (.node (o31v24 P) (.node (o63v56 P) (.node (o127v208 P) .nil .nil) .nil) (.node (o95v90 P) .nil .nil)) (.node (o47v40 P) (.node (o79v72 P) (.node (o143v250 P) .nil .nil) .nil) (.node (o111v178 P) .nil .nil))) (.node (o23v16 P) (.node (o39v32 P) (.node (o71v64 P) (.node (o135v242 P) .nil .nil) .nil) (.node (o103v98 P) .nil .nil)) (.node (o55v48 P) (.node (o87v80 P) .nil .nil) (.node (o119v188 P) .nil .nil)))) (.node (o11v0 P) (.node (o19v10 P) (.node (o35v28 P) (.node (o67v60 P) (.node (o131v212 P) .nil .nil) .nil) (.node (o99v94 P) .nil .nil)) (.node (o51v44 P) (.node (o83v76 P) (.node x0 .nil .nil) .nil) (.node (o115v184 P) .nil .nil))) (.node (o27v20 P) (.node (o43v36 P) (.node (o75v68 P) (.node (o139v246 P) .nil .nil) .nil) (.node (o107v118 P) .nil .nil)) (.node (o59v52 P) (.node (o91v86 P) .nil .nil) (.node (o123v204 P) .nil .nil))))) (.node (boot_o_5 P) (.node (boot_o_9 P) (.node (o17v8 P) (.node (o33v26 P) (.node (o65v58 P) (.node (o129v210 P) .nil .nil) .nil) (.node (o97v92 P) .nil .nil)) (.node (o49v42 P) (.node (o81v74 P) (.node (o145v252 P) .nil .nil) .nil) (.node (o113v182 P) .nil .nil))) (.node (o25v18 P) (.node (o41v34 P) (.node (o73v66 P) (.node (o137v244 P) .nil .nil) .nil) (.node (o105v116 P) .nil .nil)) (.node (o57v50 P) (.node (o89v84 P) .nil .nil) (.node (s121v200 f P) .nil .nil)))) (.node (o13v2 P) (.node (o21v12 P) (.node (o37v30 P) (.node (o69v62 P) (.node (s133v238 f P) .nil .nil) .nil) (.node (o101v96 P) .nil .nil)) (.node (o53v46 P) (.node (o85v78 P) .nil .nil) (.node (o117v186 P) .nil .nil))) (.node (o29v22 P) (.node (o45v38 P) (.node (o77v70 P) (.node (o141v248 P) .nil .nil) .nil) (.node (s109v174 f P) .nil .nil)) (.node (o61v54 P) (.node (o93v88 P) .nil .nil) (.node (o125v206 P) .nil .nil)))))) (.node (boot_o_2 P) (.node (boot_o_4 P) (.node (boot_o_8 P) (.node (o16v7 P) (.node (o32v25 P) (.node (o64v57 P) (.node (o128v209 P) .nil .nil) .nil) (.node (o96v91 P) .nil .nil)) (.node (o48v41 P) (.node (o80v73 P) (.node (o144v251 P) .nil .nil) .nil) (.node (o112v179 P) .nil .nil))) (.node (o24v17 P) (.node (o40v33 P) (.node (o72v65 P) (.node (o136v243 P) .nil .nil) .nil) (.node (o104v115 P) .nil .nil)) (.node (o56v49 P) (.node (o88v83 P) .nil .nil) (.node (o120v189 P) .nil .nil)))) (.node (o12v241 P) (.node (o20v11 P) (.node (o36v29 P) (.node (o68v61 P) (.node (o132v213 P) .nil .nil) .nil) (.node (o100v95 P) .nil .nil)) (.node (o52v45 P) (.node (o84v77 P) .nil .nil) (.node (o116v185 P) .nil .nil))) (.node (o28v21 P) (.node (o44v37 P) (.node (o76v69 P) (.node (o140v247 P) .nil .nil) .nil) (.node (o108v119 P) .nil .nil)) (.node (o60v53 P) (.node (o92v87 P) .nil .nil) (.node (o124v205 P) .nil .nil))))) (.node (boot_o_6 P) (.node (boot_o_10 P) (.node (o18v9 P) (.node (o34v27 P) (.node (o66v59 P) (.node (o130v211 P) .nil .nil) .nil) (.node (o98v93 P) .nil .nil)) (.node (o50v43 P) (.node (o82v75 P) (.node x1 .nil .nil) .nil) (.node (o114v183 P) .nil .nil))) (.node (o26v19 P) (.node (o42v35 P) (.node (o74v67 P) (.node (o138v245 P) .nil .nil) .nil) (.node (o106v117 P) .nil .nil)) (.node (o58v51 P) (.node (o90v85 P) .nil .nil) (.node (o122v201 P) .nil .nil)))) (.node (o14v3 P) (.node (o22v15 P) (.node (o38v31 P) (.node (o70v63 P) (.node (o134v239 P) .nil .nil) .nil) (.node (o102v97 P) .nil .nil)) (.node (o54v47 P) (.node (o86v79 P) .nil .nil) (.node (o118v187 P) .nil .nil))) (.node (o30v23 P) (.node (o46v39 P) (.node (o78v71 P) (.node (o142v249 P) .nil .nil) .nil) (.node (o110v177 P) .nil .nil)) (.node (o62v55 P) (.node (o94v89 P) .nil .nil) (.node (o126v207 P) .nil .nil)))))))
noncomputable def t6c0 (f : Bool) (P : Params) : BT := TT5 (o147v254 P) (o146v253 P) f P
noncomputable def S6c0 (f : Bool) (w : World) (os : OsState) : SharedT := ⟨t6c0 f w.params, 148, lf, gs, boot_drawn, 447, os⟩
noncomputable def fr6c0 (f : Bool) (w : World) (os : OsState) : List Frame := match twGo twTab pw (wf f (World.withFollow w "special-get-raises" false)) m0 ann 1 87 (S5 f (wf f (World.withFollow w "special-get-raises" false)) os) (TP sts6 ⟨86, 0, 87, 30⟩) with | some (_, t) => t.stack | none => []
noncomputable def TH6c0 (fs : List Frame) : Thread := ⟨twDen twTab (.builtin "list.extend.loop" ⟨[(.ref 146), (.ref 147), .none], []⟩), (.builtin "list.extend.loop" ⟨[(.ref 146), (.ref 147), .none], []⟩), ⟨88, 24, 88, 51⟩, fs⟩
noncomputable def T6c0 (f : Bool) (w : World) (os : OsState) : Thread := TH6c0 (fr6c0 f w os)
noncomputable def Q6c0 (f : Bool) (w : World) : Prop := (fun os => twGo twTab pw (wf f w) m0 ann 1 87 (S5 f (wf f w) os) (TP sts6 ⟨86, 0, 87, 30⟩)) = fun os => some (S6c0 f (wf f w) os, (T6c0 f w os))
noncomputable def G6c0 (f : Bool) (w : World) (os : OsState) : Option (SharedT × Thread) := twGo twTab pw (wf f w) m0 ann 1 87 (S5 f (wf f w) os) (TP sts6 ⟨86, 0, 87, 30⟩)
noncomputable def H6c0 (f : Bool) (w : World) (os : OsState) : Option (SharedT × Thread) := some (S6c0 f (wf f w) os, (T6c0 f w os))
theorem y6c0 : ∀ (f : Bool) (w : World), (G6c0 f (World.withFollow w "special-get-raises" false), G6c0 f (World.withFollow w "special-get-raises" true)) = (H6c0 f (World.withFollow w "special-get-raises" false), H6c0 f (World.withFollow w "special-get-raises" true)) := by intro f; intro w; kernel_rfl
theorem q6c0 : ∀ f w, Q6c0 f w := fun f => byRow2 "special-get-raises" (P := fun w => Q6c0 f w) (fun w => (Eq.mp (show (G6c0 f (World.withFollow w "special-get-raises" false) = H6c0 f (World.withFollow w "special-get-raises" false)) = Q6c0 f (World.withFollow w "special-get-raises" false) from by kernel_rfl) (pa1 (y6c0 f w)))) (fun w => (Eq.mp (show (G6c0 f (World.withFollow w "special-get-raises" true) = H6c0 f (World.withFollow w "special-get-raises" true)) = Q6c0 f (World.withFollow w "special-get-raises" true) from by kernel_rfl) (pa2 (y6c0 f w))))
theorem l6c0 (f : Bool) (w : World) : (fun os => (fr6c0 f w os).length) = fun _ => 3 := by kernel_rfl
noncomputable def o146v255 (P : Params) : Obj := ⟨(.type "list"), none, .seq #[(.int (.ofNat (nat_lit 917536)) (nat_lit 447)), (.int (.ofNat (nat_lit 917537)) (nat_lit 448))] 4, #[]⟩
noncomputable def o147v256 (P : Params) : Obj := ⟨(.type "range_iterator"), none, .fields #[(.int (.ofNat (nat_lit 917538)) (nat_lit 0)), (.int (.ofNat (nat_lit 94)) (nat_lit 0)), (.int (.ofNat (nat_lit 1)) (nat_lit 0))], #[]⟩
noncomputable def t6c1 (f : Bool) (P : Params) : BT := TT5 (o147v256 P) (o146v255 P) f P
noncomputable def S6c1 (f : Bool) (w : World) (os : OsState) : SharedT := ⟨t6c1 f w.params, 148, lf, gs, boot_drawn, 449, os⟩
noncomputable def GG6c0 (k : Nat) (A : Bool → World → OsState → SharedT) (f : Bool) (w : World) (a0 a1 a2 : Frame) (os : OsState) : Option (SharedT × Thread) := twGo twTab pw (wf f w) m0 ann 1 k (A f (wf f w) os) (TH6c0 [a0, a1, a2])
noncomputable def HH6c0 (B : Bool → World → OsState → SharedT) (f : Bool) (w : World) (a0 a1 a2 : Frame) (os : OsState) : Option (SharedT × Thread) := some (B f (wf f w) os, TH6c0 [a0, a1, a2])
noncomputable def Y6c0p (k : Nat) (A B : Bool → World → OsState → SharedT) : Prop := ∀ (f : Bool) (w : World) (a0 a1 a2 : Frame), GG6c0 k A f w a0 a1 a2 = HH6c0 B f w a0 a1 a2
theorem X6c0p {k : Nat} {A B : Bool → World → OsState → SharedT} (y : Y6c0p k A B) : ∀ (f : Bool) (w : World) (a0 a1 a2 : Frame), GG6c0 k A f w a0 a1 a2 = HH6c0 B f w a0 a1 a2 :=
  let P := fun (f : Bool) (w : World) => ∀ a0 a1 a2 : Frame, GG6c0 k A f w a0 a1 a2 = HH6c0 B f w a0 a1 a2
  show ∀ f w, P f w from fun f w a0 a1 a2 => y f w a0 a1 a2
theorem U6c0p {k : Nat} {A B : Bool → World → OsState → SharedT} (y : Y6c0p k A B) (f : Bool) (w : World) (os : OsState) : twGo twTab pw (wf f w) m0 ann 1 k (A f (wf f w) os) (T6c0 f w os) = some (B f (wf f w) os, T6c0 f w os) :=
  lift3 (P := fun fs => twGo twTab pw (wf f w) m0 ann 1 k (A f (wf f w) os) (TH6c0 fs) = some (B f (wf f w) os, TH6c0 fs)) (fun a0 a1 a2 => congrFun (X6c0p y f w a0 a1 a2) os) _ (congrFun (l6c0 f w) os)
theorem y6c1 : Y6c0p 34 S6c0 S6c1 := by intro f w a0 a1 a2; kernel_rfl
noncomputable def o146v257 (P : Params) : Obj := ⟨(.type "list"), none, .seq #[(.int (.ofNat (nat_lit 917536)) (nat_lit 447)), (.int (.ofNat (nat_lit 917537)) (nat_lit 448)), (.int (.ofNat (nat_lit 917538)) (nat_lit 449)), (.int (.ofNat (nat_lit 917539)) (nat_lit 450))] 6, #[]⟩
noncomputable def o147v258 (P : Params) : Obj := ⟨(.type "range_iterator"), none, .fields #[(.int (.ofNat (nat_lit 917540)) (nat_lit 0)), (.int (.ofNat (nat_lit 92)) (nat_lit 0)), (.int (.ofNat (nat_lit 1)) (nat_lit 0))], #[]⟩
noncomputable def t6c2 (f : Bool) (P : Params) : BT := TT5 (o147v258 P) (o146v257 P) f P
noncomputable def S6c2 (f : Bool) (w : World) (os : OsState) : SharedT := ⟨t6c2 f w.params, 148, lf, gs, boot_drawn, 451, os⟩
theorem y6c2 : Y6c0p 34 S6c1 S6c2 := by intro f w a0 a1 a2; kernel_rfl
noncomputable def o146v259 (P : Params) : Obj := ⟨(.type "list"), none, .seq #[(.int (.ofNat (nat_lit 917536)) (nat_lit 447)), (.int (.ofNat (nat_lit 917537)) (nat_lit 448)), (.int (.ofNat (nat_lit 917538)) (nat_lit 449)), (.int (.ofNat (nat_lit 917539)) (nat_lit 450)), (.int (.ofNat (nat_lit 917540)) (nat_lit 451)), (.int (.ofNat (nat_lit 917541)) (nat_lit 452))] 8, #[]⟩
noncomputable def o147v260 (P : Params) : Obj := ⟨(.type "range_iterator"), none, .fields #[(.int (.ofNat (nat_lit 917542)) (nat_lit 0)), (.int (.ofNat (nat_lit 90)) (nat_lit 0)), (.int (.ofNat (nat_lit 1)) (nat_lit 0))], #[]⟩
noncomputable def t6c3 (f : Bool) (P : Params) : BT := TT5 (o147v260 P) (o146v259 P) f P
noncomputable def S6c3 (f : Bool) (w : World) (os : OsState) : SharedT := ⟨t6c3 f w.params, 148, lf, gs, boot_drawn, 453, os⟩
theorem y6c3 : Y6c0p 34 S6c2 S6c3 := by intro f w a0 a1 a2; kernel_rfl
noncomputable def o146v261 (P : Params) : Obj := ⟨(.type "list"), none, .seq #[(.int (.ofNat (nat_lit 917536)) (nat_lit 447)), (.int (.ofNat (nat_lit 917537)) (nat_lit 448)), (.int (.ofNat (nat_lit 917538)) (nat_lit 449)), (.int (.ofNat (nat_lit 917539)) (nat_lit 450)), (.int (.ofNat (nat_lit 917540)) (nat_lit 451)), (.int (.ofNat (nat_lit 917541)) (nat_lit 452)), (.int (.ofNat (nat_lit 917542)) (nat_lit 453)), (.int (.ofNat (nat_lit 917543)) (nat_lit 454))] 10, #[]⟩
noncomputable def o147v262 (P : Params) : Obj := ⟨(.type "range_iterator"), none, .fields #[(.int (.ofNat (nat_lit 917544)) (nat_lit 0)), (.int (.ofNat (nat_lit 88)) (nat_lit 0)), (.int (.ofNat (nat_lit 1)) (nat_lit 0))], #[]⟩
noncomputable def t6c4 (f : Bool) (P : Params) : BT := TT5 (o147v262 P) (o146v261 P) f P
noncomputable def S6c4 (f : Bool) (w : World) (os : OsState) : SharedT := ⟨t6c4 f w.params, 148, lf, gs, boot_drawn, 455, os⟩
theorem y6c4 : Y6c0p 34 S6c3 S6c4 := by intro f w a0 a1 a2; kernel_rfl
noncomputable def EL22 : List Value := li (nat_lit 917536) (nat_lit 447) :: li (nat_lit 917537) (nat_lit 448) :: li (nat_lit 917538) (nat_lit 449) :: li (nat_lit 917539) (nat_lit 450) :: li (nat_lit 917540) (nat_lit 451) :: li (nat_lit 917541) (nat_lit 452) :: li (nat_lit 917542) (nat_lit 453) :: li (nat_lit 917543) (nat_lit 454) :: li (nat_lit 917544) (nat_lit 455) :: li (nat_lit 917545) (nat_lit 456) :: []
noncomputable def o146v263 (P : Params) : Obj := ⟨(.type "list"), none, .seq ⟨EL22 ++ []⟩ 12, #[]⟩
noncomputable def o147v264 (P : Params) : Obj := ⟨(.type "range_iterator"), none, .fields #[(.int (.ofNat (nat_lit 917546)) (nat_lit 0)), (.int (.ofNat (nat_lit 86)) (nat_lit 0)), (.int (.ofNat (nat_lit 1)) (nat_lit 0))], #[]⟩
noncomputable def t6c5 (f : Bool) (P : Params) : BT := TT5 (o147v264 P) (o146v263 P) f P
noncomputable def S6c5 (f : Bool) (w : World) (os : OsState) : SharedT := ⟨t6c5 f w.params, 148, lf, gs, boot_drawn, 457, os⟩
theorem y6c5 : Y6c0p 34 S6c4 S6c5 := by intro f w a0 a1 a2; kernel_rfl
noncomputable def o146v265 (P : Params) : Obj := ⟨(.type "list"), none, .seq ⟨EL22 ++ [li (nat_lit 917546) (nat_lit 457), li (nat_lit 917547) (nat_lit 458)]⟩ 14, #[]⟩
noncomputable def o147v266 (P : Params) : Obj := ⟨(.type "range_iterator"), none, .fields #[(.int (.ofNat (nat_lit 917548)) (nat_lit 0)), (.int (.ofNat (nat_lit 84)) (nat_lit 0)), (.int (.ofNat (nat_lit 1)) (nat_lit 0))], #[]⟩
noncomputable def t6c6 (f : Bool) (P : Params) : BT := TT5 (o147v266 P) (o146v265 P) f P
noncomputable def S6c6 (f : Bool) (w : World) (os : OsState) : SharedT := ⟨t6c6 f w.params, 148, lf, gs, boot_drawn, 459, os⟩
theorem y6c6 : Y6c0p 34 S6c5 S6c6 := by intro f w a0 a1 a2; kernel_rfl
noncomputable def o146v267 (P : Params) : Obj := ⟨(.type "list"), none, .seq ⟨EL22 ++ [li (nat_lit 917546) (nat_lit 457), li (nat_lit 917547) (nat_lit 458), li (nat_lit 917548) (nat_lit 459), li (nat_lit 917549) (nat_lit 460)]⟩ 16, #[]⟩
noncomputable def o147v268 (P : Params) : Obj := ⟨(.type "range_iterator"), none, .fields #[(.int (.ofNat (nat_lit 917550)) (nat_lit 0)), (.int (.ofNat (nat_lit 82)) (nat_lit 0)), (.int (.ofNat (nat_lit 1)) (nat_lit 0))], #[]⟩
noncomputable def t6c7 (f : Bool) (P : Params) : BT := TT5 (o147v268 P) (o146v267 P) f P
noncomputable def S6c7 (f : Bool) (w : World) (os : OsState) : SharedT := ⟨t6c7 f w.params, 148, lf, gs, boot_drawn, 461, os⟩
theorem y6c7 : Y6c0p 34 S6c6 S6c7 := by intro f w a0 a1 a2; kernel_rfl
noncomputable def o146v269 (P : Params) : Obj := ⟨(.type "list"), none, .seq ⟨EL22 ++ [li (nat_lit 917546) (nat_lit 457), li (nat_lit 917547) (nat_lit 458), li (nat_lit 917548) (nat_lit 459), li (nat_lit 917549) (nat_lit 460), li (nat_lit 917550) (nat_lit 461), li (nat_lit 917551) (nat_lit 462)]⟩ 18, #[]⟩
noncomputable def o147v270 (P : Params) : Obj := ⟨(.type "range_iterator"), none, .fields #[(.int (.ofNat (nat_lit 917552)) (nat_lit 0)), (.int (.ofNat (nat_lit 80)) (nat_lit 0)), (.int (.ofNat (nat_lit 1)) (nat_lit 0))], #[]⟩
noncomputable def t6c8 (f : Bool) (P : Params) : BT := TT5 (o147v270 P) (o146v269 P) f P
noncomputable def S6c8 (f : Bool) (w : World) (os : OsState) : SharedT := ⟨t6c8 f w.params, 148, lf, gs, boot_drawn, 463, os⟩
theorem y6c8 : Y6c0p 34 S6c7 S6c8 := by intro f w a0 a1 a2; kernel_rfl
noncomputable def o146v271 (P : Params) : Obj := ⟨(.type "list"), none, .seq ⟨EL22 ++ [li (nat_lit 917546) (nat_lit 457), li (nat_lit 917547) (nat_lit 458), li (nat_lit 917548) (nat_lit 459), li (nat_lit 917549) (nat_lit 460), li (nat_lit 917550) (nat_lit 461), li (nat_lit 917551) (nat_lit 462), li (nat_lit 917552) (nat_lit 463), li (nat_lit 917553) (nat_lit 464)]⟩ 20, #[]⟩
noncomputable def o147v272 (P : Params) : Obj := ⟨(.type "range_iterator"), none, .fields #[(.int (.ofNat (nat_lit 917554)) (nat_lit 0)), (.int (.ofNat (nat_lit 78)) (nat_lit 0)), (.int (.ofNat (nat_lit 1)) (nat_lit 0))], #[]⟩
noncomputable def t6c9 (f : Bool) (P : Params) : BT := TT5 (o147v272 P) (o146v271 P) f P
noncomputable def S6c9 (f : Bool) (w : World) (os : OsState) : SharedT := ⟨t6c9 f w.params, 148, lf, gs, boot_drawn, 465, os⟩
theorem y6c9 : Y6c0p 34 S6c8 S6c9 := by intro f w a0 a1 a2; kernel_rfl
noncomputable def o146v273 (P : Params) : Obj := ⟨(.type "list"), none, .seq ⟨EL22 ++ [li (nat_lit 917546) (nat_lit 457), li (nat_lit 917547) (nat_lit 458), li (nat_lit 917548) (nat_lit 459), li (nat_lit 917549) (nat_lit 460), li (nat_lit 917550) (nat_lit 461), li (nat_lit 917551) (nat_lit 462), li (nat_lit 917552) (nat_lit 463), li (nat_lit 917553) (nat_lit 464), li (nat_lit 917554) (nat_lit 465), li (nat_lit 917555) (nat_lit 466)]⟩ 22, #[]⟩
noncomputable def o147v274 (P : Params) : Obj := ⟨(.type "range_iterator"), none, .fields #[(.int (.ofNat (nat_lit 917556)) (nat_lit 0)), (.int (.ofNat (nat_lit 76)) (nat_lit 0)), (.int (.ofNat (nat_lit 1)) (nat_lit 0))], #[]⟩
noncomputable def t6c10 (f : Bool) (P : Params) : BT := TT5 (o147v274 P) (o146v273 P) f P
noncomputable def S6c10 (f : Bool) (w : World) (os : OsState) : SharedT := ⟨t6c10 f w.params, 148, lf, gs, boot_drawn, 467, os⟩
theorem y6c10 : Y6c0p 34 S6c9 S6c10 := by intro f w a0 a1 a2; kernel_rfl
noncomputable def o146v275 (P : Params) : Obj := ⟨(.type "list"), none, .seq ⟨EL22 ++ [li (nat_lit 917546) (nat_lit 457), li (nat_lit 917547) (nat_lit 458), li (nat_lit 917548) (nat_lit 459), li (nat_lit 917549) (nat_lit 460), li (nat_lit 917550) (nat_lit 461), li (nat_lit 917551) (nat_lit 462), li (nat_lit 917552) (nat_lit 463), li (nat_lit 917553) (nat_lit 464), li (nat_lit 917554) (nat_lit 465), li (nat_lit 917555) (nat_lit 466), li (nat_lit 917556) (nat_lit 467), li (nat_lit 917557) (nat_lit 468)]⟩ 24, #[]⟩
noncomputable def o147v276 (P : Params) : Obj := ⟨(.type "range_iterator"), none, .fields #[(.int (.ofNat (nat_lit 917558)) (nat_lit 0)), (.int (.ofNat (nat_lit 74)) (nat_lit 0)), (.int (.ofNat (nat_lit 1)) (nat_lit 0))], #[]⟩
noncomputable def t6c11 (f : Bool) (P : Params) : BT := TT5 (o147v276 P) (o146v275 P) f P
noncomputable def S6c11 (f : Bool) (w : World) (os : OsState) : SharedT := ⟨t6c11 f w.params, 148, lf, gs, boot_drawn, 469, os⟩
theorem y6c11 : Y6c0p 34 S6c10 S6c11 := by intro f w a0 a1 a2; kernel_rfl
noncomputable def EL23 : List Value := li (nat_lit 917536) (nat_lit 447) :: li (nat_lit 917537) (nat_lit 448) :: li (nat_lit 917538) (nat_lit 449) :: li (nat_lit 917539) (nat_lit 450) :: li (nat_lit 917540) (nat_lit 451) :: li (nat_lit 917541) (nat_lit 452) :: li (nat_lit 917542) (nat_lit 453) :: li (nat_lit 917543) (nat_lit 454) :: li (nat_lit 917544) (nat_lit 455) :: li (nat_lit 917545) (nat_lit 456) :: li (nat_lit 917546) (nat_lit 457) :: li (nat_lit 917547) (nat_lit 458) :: li (nat_lit 917548) (nat_lit 459) :: li (nat_lit 917549) (nat_lit 460) :: li (nat_lit 917550) (nat_lit 461) :: li (nat_lit 917551) (nat_lit 462) :: li (nat_lit 917552) (nat_lit 463) :: li (nat_lit 917553) (nat_lit 464) :: li (nat_lit 917554) (nat_lit 465) :: li (nat_lit 917555) (nat_lit 466) :: li (nat_lit 917556) (nat_lit 467) :: li (nat_lit 917557) (nat_lit 468) :: li (nat_lit 917558) (nat_lit 469) :: li (nat_lit 917559) (nat_lit 470) :: []
noncomputable def o146v277 (P : Params) : Obj := ⟨(.type "list"), none, .seq ⟨EL23 ++ []⟩ 26, #[]⟩
noncomputable def o147v278 (P : Params) : Obj := ⟨(.type "range_iterator"), none, .fields #[(.int (.ofNat (nat_lit 917560)) (nat_lit 0)), (.int (.ofNat (nat_lit 72)) (nat_lit 0)), (.int (.ofNat (nat_lit 1)) (nat_lit 0))], #[]⟩
noncomputable def t6c12 (f : Bool) (P : Params) : BT := TT5 (o147v278 P) (o146v277 P) f P
noncomputable def S6c12 (f : Bool) (w : World) (os : OsState) : SharedT := ⟨t6c12 f w.params, 148, lf, gs, boot_drawn, 471, os⟩
theorem y6c12 : Y6c0p 34 S6c11 S6c12 := by intro f w a0 a1 a2; kernel_rfl
noncomputable def o146v279 (P : Params) : Obj := ⟨(.type "list"), none, .seq ⟨EL23 ++ [li (nat_lit 917560) (nat_lit 471), li (nat_lit 917561) (nat_lit 472)]⟩ 28, #[]⟩
noncomputable def o147v280 (P : Params) : Obj := ⟨(.type "range_iterator"), none, .fields #[(.int (.ofNat (nat_lit 917562)) (nat_lit 0)), (.int (.ofNat (nat_lit 70)) (nat_lit 0)), (.int (.ofNat (nat_lit 1)) (nat_lit 0))], #[]⟩
noncomputable def t6c13 (f : Bool) (P : Params) : BT := TT5 (o147v280 P) (o146v279 P) f P
noncomputable def S6c13 (f : Bool) (w : World) (os : OsState) : SharedT := ⟨t6c13 f w.params, 148, lf, gs, boot_drawn, 473, os⟩
theorem y6c13 : Y6c0p 34 S6c12 S6c13 := by intro f w a0 a1 a2; kernel_rfl
noncomputable def o146v281 (P : Params) : Obj := ⟨(.type "list"), none, .seq ⟨EL23 ++ [li (nat_lit 917560) (nat_lit 471), li (nat_lit 917561) (nat_lit 472), li (nat_lit 917562) (nat_lit 473), li (nat_lit 917563) (nat_lit 474)]⟩ 30, #[]⟩
noncomputable def o147v282 (P : Params) : Obj := ⟨(.type "range_iterator"), none, .fields #[(.int (.ofNat (nat_lit 917564)) (nat_lit 0)), (.int (.ofNat (nat_lit 68)) (nat_lit 0)), (.int (.ofNat (nat_lit 1)) (nat_lit 0))], #[]⟩
noncomputable def t6c14 (f : Bool) (P : Params) : BT := TT5 (o147v282 P) (o146v281 P) f P
noncomputable def S6c14 (f : Bool) (w : World) (os : OsState) : SharedT := ⟨t6c14 f w.params, 148, lf, gs, boot_drawn, 475, os⟩
theorem y6c14 : Y6c0p 34 S6c13 S6c14 := by intro f w a0 a1 a2; kernel_rfl
noncomputable def o146v283 (P : Params) : Obj := ⟨(.type "list"), none, .seq ⟨EL23 ++ [li (nat_lit 917560) (nat_lit 471), li (nat_lit 917561) (nat_lit 472), li (nat_lit 917562) (nat_lit 473), li (nat_lit 917563) (nat_lit 474), li (nat_lit 917564) (nat_lit 475), li (nat_lit 917565) (nat_lit 476)]⟩ 32, #[]⟩
noncomputable def o147v284 (P : Params) : Obj := ⟨(.type "range_iterator"), none, .fields #[(.int (.ofNat (nat_lit 917566)) (nat_lit 0)), (.int (.ofNat (nat_lit 66)) (nat_lit 0)), (.int (.ofNat (nat_lit 1)) (nat_lit 0))], #[]⟩
noncomputable def t6c15 (f : Bool) (P : Params) : BT := TT5 (o147v284 P) (o146v283 P) f P
noncomputable def S6c15 (f : Bool) (w : World) (os : OsState) : SharedT := ⟨t6c15 f w.params, 148, lf, gs, boot_drawn, 477, os⟩
theorem y6c15 : Y6c0p 34 S6c14 S6c15 := by intro f w a0 a1 a2; kernel_rfl
noncomputable def o146v285 (P : Params) : Obj := ⟨(.type "list"), none, .seq ⟨EL23 ++ [li (nat_lit 917560) (nat_lit 471), li (nat_lit 917561) (nat_lit 472), li (nat_lit 917562) (nat_lit 473), li (nat_lit 917563) (nat_lit 474), li (nat_lit 917564) (nat_lit 475), li (nat_lit 917565) (nat_lit 476), li (nat_lit 917566) (nat_lit 477), li (nat_lit 917567) (nat_lit 478)]⟩ 34, #[]⟩
noncomputable def o147v286 (P : Params) : Obj := ⟨(.type "range_iterator"), none, .fields #[(.int (.ofNat (nat_lit 917568)) (nat_lit 0)), (.int (.ofNat (nat_lit 64)) (nat_lit 0)), (.int (.ofNat (nat_lit 1)) (nat_lit 0))], #[]⟩
noncomputable def t6c16 (f : Bool) (P : Params) : BT := TT5 (o147v286 P) (o146v285 P) f P
noncomputable def S6c16 (f : Bool) (w : World) (os : OsState) : SharedT := ⟨t6c16 f w.params, 148, lf, gs, boot_drawn, 479, os⟩
theorem y6c16 : Y6c0p 34 S6c15 S6c16 := by intro f w a0 a1 a2; kernel_rfl
noncomputable def o146v287 (P : Params) : Obj := ⟨(.type "list"), none, .seq ⟨EL23 ++ [li (nat_lit 917560) (nat_lit 471), li (nat_lit 917561) (nat_lit 472), li (nat_lit 917562) (nat_lit 473), li (nat_lit 917563) (nat_lit 474), li (nat_lit 917564) (nat_lit 475), li (nat_lit 917565) (nat_lit 476), li (nat_lit 917566) (nat_lit 477), li (nat_lit 917567) (nat_lit 478), li (nat_lit 917568) (nat_lit 479), li (nat_lit 917569) (nat_lit 480)]⟩ 36, #[]⟩
noncomputable def o147v288 (P : Params) : Obj := ⟨(.type "range_iterator"), none, .fields #[(.int (.ofNat (nat_lit 917570)) (nat_lit 0)), (.int (.ofNat (nat_lit 62)) (nat_lit 0)), (.int (.ofNat (nat_lit 1)) (nat_lit 0))], #[]⟩
noncomputable def t6c17 (f : Bool) (P : Params) : BT := TT5 (o147v288 P) (o146v287 P) f P
noncomputable def S6c17 (f : Bool) (w : World) (os : OsState) : SharedT := ⟨t6c17 f w.params, 148, lf, gs, boot_drawn, 481, os⟩
theorem y6c17 : Y6c0p 34 S6c16 S6c17 := by intro f w a0 a1 a2; kernel_rfl
noncomputable def o146v289 (P : Params) : Obj := ⟨(.type "list"), none, .seq ⟨EL23 ++ [li (nat_lit 917560) (nat_lit 471), li (nat_lit 917561) (nat_lit 472), li (nat_lit 917562) (nat_lit 473), li (nat_lit 917563) (nat_lit 474), li (nat_lit 917564) (nat_lit 475), li (nat_lit 917565) (nat_lit 476), li (nat_lit 917566) (nat_lit 477), li (nat_lit 917567) (nat_lit 478), li (nat_lit 917568) (nat_lit 479), li (nat_lit 917569) (nat_lit 480), li (nat_lit 917570) (nat_lit 481), li (nat_lit 917571) (nat_lit 482)]⟩ 38, #[]⟩
noncomputable def o147v290 (P : Params) : Obj := ⟨(.type "range_iterator"), none, .fields #[(.int (.ofNat (nat_lit 917572)) (nat_lit 0)), (.int (.ofNat (nat_lit 60)) (nat_lit 0)), (.int (.ofNat (nat_lit 1)) (nat_lit 0))], #[]⟩
noncomputable def t6c18 (f : Bool) (P : Params) : BT := TT5 (o147v290 P) (o146v289 P) f P
noncomputable def S6c18 (f : Bool) (w : World) (os : OsState) : SharedT := ⟨t6c18 f w.params, 148, lf, gs, boot_drawn, 483, os⟩
theorem y6c18 : Y6c0p 34 S6c17 S6c18 := by intro f w a0 a1 a2; kernel_rfl
noncomputable def EL24 : List Value := li (nat_lit 917536) (nat_lit 447) :: li (nat_lit 917537) (nat_lit 448) :: li (nat_lit 917538) (nat_lit 449) :: li (nat_lit 917539) (nat_lit 450) :: li (nat_lit 917540) (nat_lit 451) :: li (nat_lit 917541) (nat_lit 452) :: li (nat_lit 917542) (nat_lit 453) :: li (nat_lit 917543) (nat_lit 454) :: li (nat_lit 917544) (nat_lit 455) :: li (nat_lit 917545) (nat_lit 456) :: li (nat_lit 917546) (nat_lit 457) :: li (nat_lit 917547) (nat_lit 458) :: li (nat_lit 917548) (nat_lit 459) :: li (nat_lit 917549) (nat_lit 460) :: li (nat_lit 917550) (nat_lit 461) :: li (nat_lit 917551) (nat_lit 462) :: li (nat_lit 917552) (nat_lit 463) :: li (nat_lit 917553) (nat_lit 464) :: li (nat_lit 917554) (nat_lit 465) :: li (nat_lit 917555) (nat_lit 466) :: li (nat_lit 917556) (nat_lit 467) :: li (nat_lit 917557) (nat_lit 468) :: li (nat_lit 917558) (nat_lit 469) :: li (nat_lit 917559) (nat_lit 470) :: li (nat_lit 917560) (nat_lit 471) :: li (nat_lit 917561) (nat_lit 472) :: li (nat_lit 917562) (nat_lit 473) :: li (nat_lit 917563) (nat_lit 474) :: li (nat_lit 917564) (nat_lit 475) :: li (nat_lit 917565) (nat_lit 476) :: li (nat_lit 917566) (nat_lit 477) :: li (nat_lit 917567) (nat_lit 478) :: li (nat_lit 917568) (nat_lit 479) :: li (nat_lit 917569) (nat_lit 480) :: li (nat_lit 917570) (nat_lit 481) :: li (nat_lit 917571) (nat_lit 482) :: li (nat_lit 917572) (nat_lit 483) :: li (nat_lit 917573) (nat_lit 484) :: []
noncomputable def o146v291 (P : Params) : Obj := ⟨(.type "list"), none, .seq ⟨EL24 ++ []⟩ 40, #[]⟩
noncomputable def o147v292 (P : Params) : Obj := ⟨(.type "range_iterator"), none, .fields #[(.int (.ofNat (nat_lit 917574)) (nat_lit 0)), (.int (.ofNat (nat_lit 58)) (nat_lit 0)), (.int (.ofNat (nat_lit 1)) (nat_lit 0))], #[]⟩
noncomputable def t6c19 (f : Bool) (P : Params) : BT := TT5 (o147v292 P) (o146v291 P) f P
noncomputable def S6c19 (f : Bool) (w : World) (os : OsState) : SharedT := ⟨t6c19 f w.params, 148, lf, gs, boot_drawn, 485, os⟩
theorem y6c19 : Y6c0p 34 S6c18 S6c19 := by intro f w a0 a1 a2; kernel_rfl
noncomputable def o146v293 (P : Params) : Obj := ⟨(.type "list"), none, .seq ⟨EL24 ++ [li (nat_lit 917574) (nat_lit 485), li (nat_lit 917575) (nat_lit 486)]⟩ 42, #[]⟩
noncomputable def o147v294 (P : Params) : Obj := ⟨(.type "range_iterator"), none, .fields #[(.int (.ofNat (nat_lit 917576)) (nat_lit 0)), (.int (.ofNat (nat_lit 56)) (nat_lit 0)), (.int (.ofNat (nat_lit 1)) (nat_lit 0))], #[]⟩
noncomputable def t6c20 (f : Bool) (P : Params) : BT := TT5 (o147v294 P) (o146v293 P) f P
noncomputable def S6c20 (f : Bool) (w : World) (os : OsState) : SharedT := ⟨t6c20 f w.params, 148, lf, gs, boot_drawn, 487, os⟩
theorem y6c20 : Y6c0p 34 S6c19 S6c20 := by intro f w a0 a1 a2; kernel_rfl
noncomputable def o146v295 (P : Params) : Obj := ⟨(.type "list"), none, .seq ⟨EL24 ++ [li (nat_lit 917574) (nat_lit 485), li (nat_lit 917575) (nat_lit 486), li (nat_lit 917576) (nat_lit 487), li (nat_lit 917577) (nat_lit 488)]⟩ 44, #[]⟩
noncomputable def o147v296 (P : Params) : Obj := ⟨(.type "range_iterator"), none, .fields #[(.int (.ofNat (nat_lit 917578)) (nat_lit 0)), (.int (.ofNat (nat_lit 54)) (nat_lit 0)), (.int (.ofNat (nat_lit 1)) (nat_lit 0))], #[]⟩
noncomputable def t6c21 (f : Bool) (P : Params) : BT := TT5 (o147v296 P) (o146v295 P) f P
noncomputable def S6c21 (f : Bool) (w : World) (os : OsState) : SharedT := ⟨t6c21 f w.params, 148, lf, gs, boot_drawn, 489, os⟩
theorem y6c21 : Y6c0p 34 S6c20 S6c21 := by intro f w a0 a1 a2; kernel_rfl
noncomputable def o146v297 (P : Params) : Obj := ⟨(.type "list"), none, .seq ⟨EL24 ++ [li (nat_lit 917574) (nat_lit 485), li (nat_lit 917575) (nat_lit 486), li (nat_lit 917576) (nat_lit 487), li (nat_lit 917577) (nat_lit 488), li (nat_lit 917578) (nat_lit 489), li (nat_lit 917579) (nat_lit 490)]⟩ 46, #[]⟩
noncomputable def o147v298 (P : Params) : Obj := ⟨(.type "range_iterator"), none, .fields #[(.int (.ofNat (nat_lit 917580)) (nat_lit 0)), (.int (.ofNat (nat_lit 52)) (nat_lit 0)), (.int (.ofNat (nat_lit 1)) (nat_lit 0))], #[]⟩
noncomputable def t6c22 (f : Bool) (P : Params) : BT := TT5 (o147v298 P) (o146v297 P) f P
noncomputable def S6c22 (f : Bool) (w : World) (os : OsState) : SharedT := ⟨t6c22 f w.params, 148, lf, gs, boot_drawn, 491, os⟩
theorem y6c22 : Y6c0p 34 S6c21 S6c22 := by intro f w a0 a1 a2; kernel_rfl
noncomputable def o146v299 (P : Params) : Obj := ⟨(.type "list"), none, .seq ⟨EL24 ++ [li (nat_lit 917574) (nat_lit 485), li (nat_lit 917575) (nat_lit 486), li (nat_lit 917576) (nat_lit 487), li (nat_lit 917577) (nat_lit 488), li (nat_lit 917578) (nat_lit 489), li (nat_lit 917579) (nat_lit 490), li (nat_lit 917580) (nat_lit 491), li (nat_lit 917581) (nat_lit 492)]⟩ 48, #[]⟩
noncomputable def o147v300 (P : Params) : Obj := ⟨(.type "range_iterator"), none, .fields #[(.int (.ofNat (nat_lit 917582)) (nat_lit 0)), (.int (.ofNat (nat_lit 50)) (nat_lit 0)), (.int (.ofNat (nat_lit 1)) (nat_lit 0))], #[]⟩
noncomputable def t6c23 (f : Bool) (P : Params) : BT := TT5 (o147v300 P) (o146v299 P) f P
noncomputable def S6c23 (f : Bool) (w : World) (os : OsState) : SharedT := ⟨t6c23 f w.params, 148, lf, gs, boot_drawn, 493, os⟩
theorem y6c23 : Y6c0p 34 S6c22 S6c23 := by intro f w a0 a1 a2; kernel_rfl
noncomputable def o146v301 (P : Params) : Obj := ⟨(.type "list"), none, .seq ⟨EL24 ++ [li (nat_lit 917574) (nat_lit 485), li (nat_lit 917575) (nat_lit 486), li (nat_lit 917576) (nat_lit 487), li (nat_lit 917577) (nat_lit 488), li (nat_lit 917578) (nat_lit 489), li (nat_lit 917579) (nat_lit 490), li (nat_lit 917580) (nat_lit 491), li (nat_lit 917581) (nat_lit 492), li (nat_lit 917582) (nat_lit 493), li (nat_lit 917583) (nat_lit 494)]⟩ 50, #[]⟩
noncomputable def o147v302 (P : Params) : Obj := ⟨(.type "range_iterator"), none, .fields #[(.int (.ofNat (nat_lit 917584)) (nat_lit 0)), (.int (.ofNat (nat_lit 48)) (nat_lit 0)), (.int (.ofNat (nat_lit 1)) (nat_lit 0))], #[]⟩
noncomputable def t6c24 (f : Bool) (P : Params) : BT := TT5 (o147v302 P) (o146v301 P) f P
noncomputable def S6c24 (f : Bool) (w : World) (os : OsState) : SharedT := ⟨t6c24 f w.params, 148, lf, gs, boot_drawn, 495, os⟩
theorem y6c24 : Y6c0p 34 S6c23 S6c24 := by intro f w a0 a1 a2; kernel_rfl
noncomputable def o146v303 (P : Params) : Obj := ⟨(.type "list"), none, .seq ⟨EL24 ++ [li (nat_lit 917574) (nat_lit 485), li (nat_lit 917575) (nat_lit 486), li (nat_lit 917576) (nat_lit 487), li (nat_lit 917577) (nat_lit 488), li (nat_lit 917578) (nat_lit 489), li (nat_lit 917579) (nat_lit 490), li (nat_lit 917580) (nat_lit 491), li (nat_lit 917581) (nat_lit 492), li (nat_lit 917582) (nat_lit 493), li (nat_lit 917583) (nat_lit 494), li (nat_lit 917584) (nat_lit 495), li (nat_lit 917585) (nat_lit 496)]⟩ 52, #[]⟩
noncomputable def o147v304 (P : Params) : Obj := ⟨(.type "range_iterator"), none, .fields #[(.int (.ofNat (nat_lit 917586)) (nat_lit 0)), (.int (.ofNat (nat_lit 46)) (nat_lit 0)), (.int (.ofNat (nat_lit 1)) (nat_lit 0))], #[]⟩
noncomputable def t6c25 (f : Bool) (P : Params) : BT := TT5 (o147v304 P) (o146v303 P) f P
noncomputable def S6c25 (f : Bool) (w : World) (os : OsState) : SharedT := ⟨t6c25 f w.params, 148, lf, gs, boot_drawn, 497, os⟩
theorem y6c25 : Y6c0p 34 S6c24 S6c25 := by intro f w a0 a1 a2; kernel_rfl
noncomputable def EL25 : List Value := li (nat_lit 917536) (nat_lit 447) :: li (nat_lit 917537) (nat_lit 448) :: li (nat_lit 917538) (nat_lit 449) :: li (nat_lit 917539) (nat_lit 450) :: li (nat_lit 917540) (nat_lit 451) :: li (nat_lit 917541) (nat_lit 452) :: li (nat_lit 917542) (nat_lit 453) :: li (nat_lit 917543) (nat_lit 454) :: li (nat_lit 917544) (nat_lit 455) :: li (nat_lit 917545) (nat_lit 456) :: li (nat_lit 917546) (nat_lit 457) :: li (nat_lit 917547) (nat_lit 458) :: li (nat_lit 917548) (nat_lit 459) :: li (nat_lit 917549) (nat_lit 460) :: li (nat_lit 917550) (nat_lit 461) :: li (nat_lit 917551) (nat_lit 462) :: li (nat_lit 917552) (nat_lit 463) :: li (nat_lit 917553) (nat_lit 464) :: li (nat_lit 917554) (nat_lit 465) :: li (nat_lit 917555) (nat_lit 466) :: li (nat_lit 917556) (nat_lit 467) :: li (nat_lit 917557) (nat_lit 468) :: li (nat_lit 917558) (nat_lit 469) :: li (nat_lit 917559) (nat_lit 470) :: li (nat_lit 917560) (nat_lit 471) :: li (nat_lit 917561) (nat_lit 472) :: li (nat_lit 917562) (nat_lit 473) :: li (nat_lit 917563) (nat_lit 474) :: li (nat_lit 917564) (nat_lit 475) :: li (nat_lit 917565) (nat_lit 476) :: li (nat_lit 917566) (nat_lit 477) :: li (nat_lit 917567) (nat_lit 478) :: li (nat_lit 917568) (nat_lit 479) :: li (nat_lit 917569) (nat_lit 480) :: li (nat_lit 917570) (nat_lit 481) :: li (nat_lit 917571) (nat_lit 482) :: li (nat_lit 917572) (nat_lit 483) :: li (nat_lit 917573) (nat_lit 484) :: li (nat_lit 917574) (nat_lit 485) :: li (nat_lit 917575) (nat_lit 486) :: li (nat_lit 917576) (nat_lit 487) :: li (nat_lit 917577) (nat_lit 488) :: li (nat_lit 917578) (nat_lit 489) :: li (nat_lit 917579) (nat_lit 490) :: li (nat_lit 917580) (nat_lit 491) :: li (nat_lit 917581) (nat_lit 492) :: li (nat_lit 917582) (nat_lit 493) :: li (nat_lit 917583) (nat_lit 494) :: li (nat_lit 917584) (nat_lit 495) :: li (nat_lit 917585) (nat_lit 496) :: li (nat_lit 917586) (nat_lit 497) :: li (nat_lit 917587) (nat_lit 498) :: []
noncomputable def o146v305 (P : Params) : Obj := ⟨(.type "list"), none, .seq ⟨EL25 ++ []⟩ 54, #[]⟩
noncomputable def o147v306 (P : Params) : Obj := ⟨(.type "range_iterator"), none, .fields #[(.int (.ofNat (nat_lit 917588)) (nat_lit 0)), (.int (.ofNat (nat_lit 44)) (nat_lit 0)), (.int (.ofNat (nat_lit 1)) (nat_lit 0))], #[]⟩
noncomputable def t6c26 (f : Bool) (P : Params) : BT := TT5 (o147v306 P) (o146v305 P) f P
noncomputable def S6c26 (f : Bool) (w : World) (os : OsState) : SharedT := ⟨t6c26 f w.params, 148, lf, gs, boot_drawn, 499, os⟩
theorem y6c26 : Y6c0p 34 S6c25 S6c26 := by intro f w a0 a1 a2; kernel_rfl
noncomputable def o146v307 (P : Params) : Obj := ⟨(.type "list"), none, .seq ⟨EL25 ++ [li (nat_lit 917588) (nat_lit 499), li (nat_lit 917589) (nat_lit 500)]⟩ 56, #[]⟩
noncomputable def o147v308 (P : Params) : Obj := ⟨(.type "range_iterator"), none, .fields #[(.int (.ofNat (nat_lit 917590)) (nat_lit 0)), (.int (.ofNat (nat_lit 42)) (nat_lit 0)), (.int (.ofNat (nat_lit 1)) (nat_lit 0))], #[]⟩
noncomputable def t6c27 (f : Bool) (P : Params) : BT := TT5 (o147v308 P) (o146v307 P) f P
noncomputable def S6c27 (f : Bool) (w : World) (os : OsState) : SharedT := ⟨t6c27 f w.params, 148, lf, gs, boot_drawn, 501, os⟩
theorem y6c27 : Y6c0p 34 S6c26 S6c27 := by intro f w a0 a1 a2; kernel_rfl
noncomputable def o146v309 (P : Params) : Obj := ⟨(.type "list"), none, .seq ⟨EL25 ++ [li (nat_lit 917588) (nat_lit 499), li (nat_lit 917589) (nat_lit 500), li (nat_lit 917590) (nat_lit 501), li (nat_lit 917591) (nat_lit 502)]⟩ 58, #[]⟩
noncomputable def o147v310 (P : Params) : Obj := ⟨(.type "range_iterator"), none, .fields #[(.int (.ofNat (nat_lit 917592)) (nat_lit 0)), (.int (.ofNat (nat_lit 40)) (nat_lit 0)), (.int (.ofNat (nat_lit 1)) (nat_lit 0))], #[]⟩
noncomputable def t6c28 (f : Bool) (P : Params) : BT := TT5 (o147v310 P) (o146v309 P) f P
noncomputable def S6c28 (f : Bool) (w : World) (os : OsState) : SharedT := ⟨t6c28 f w.params, 148, lf, gs, boot_drawn, 503, os⟩
theorem y6c28 : Y6c0p 34 S6c27 S6c28 := by intro f w a0 a1 a2; kernel_rfl
noncomputable def o146v311 (P : Params) : Obj := ⟨(.type "list"), none, .seq ⟨EL25 ++ [li (nat_lit 917588) (nat_lit 499), li (nat_lit 917589) (nat_lit 500), li (nat_lit 917590) (nat_lit 501), li (nat_lit 917591) (nat_lit 502), li (nat_lit 917592) (nat_lit 503), li (nat_lit 917593) (nat_lit 504)]⟩ 60, #[]⟩
noncomputable def o147v312 (P : Params) : Obj := ⟨(.type "range_iterator"), none, .fields #[(.int (.ofNat (nat_lit 917594)) (nat_lit 0)), (.int (.ofNat (nat_lit 38)) (nat_lit 0)), (.int (.ofNat (nat_lit 1)) (nat_lit 0))], #[]⟩
noncomputable def t6c29 (f : Bool) (P : Params) : BT := TT5 (o147v312 P) (o146v311 P) f P
noncomputable def S6c29 (f : Bool) (w : World) (os : OsState) : SharedT := ⟨t6c29 f w.params, 148, lf, gs, boot_drawn, 505, os⟩
theorem y6c29 : Y6c0p 34 S6c28 S6c29 := by intro f w a0 a1 a2; kernel_rfl
noncomputable def o146v313 (P : Params) : Obj := ⟨(.type "list"), none, .seq ⟨EL25 ++ [li (nat_lit 917588) (nat_lit 499), li (nat_lit 917589) (nat_lit 500), li (nat_lit 917590) (nat_lit 501), li (nat_lit 917591) (nat_lit 502), li (nat_lit 917592) (nat_lit 503), li (nat_lit 917593) (nat_lit 504), li (nat_lit 917594) (nat_lit 505), li (nat_lit 917595) (nat_lit 506)]⟩ 62, #[]⟩
noncomputable def o147v314 (P : Params) : Obj := ⟨(.type "range_iterator"), none, .fields #[(.int (.ofNat (nat_lit 917596)) (nat_lit 0)), (.int (.ofNat (nat_lit 36)) (nat_lit 0)), (.int (.ofNat (nat_lit 1)) (nat_lit 0))], #[]⟩
noncomputable def t6c30 (f : Bool) (P : Params) : BT := TT5 (o147v314 P) (o146v313 P) f P
noncomputable def S6c30 (f : Bool) (w : World) (os : OsState) : SharedT := ⟨t6c30 f w.params, 148, lf, gs, boot_drawn, 507, os⟩
theorem y6c30 : Y6c0p 34 S6c29 S6c30 := by intro f w a0 a1 a2; kernel_rfl
noncomputable def o146v315 (P : Params) : Obj := ⟨(.type "list"), none, .seq ⟨EL25 ++ [li (nat_lit 917588) (nat_lit 499), li (nat_lit 917589) (nat_lit 500), li (nat_lit 917590) (nat_lit 501), li (nat_lit 917591) (nat_lit 502), li (nat_lit 917592) (nat_lit 503), li (nat_lit 917593) (nat_lit 504), li (nat_lit 917594) (nat_lit 505), li (nat_lit 917595) (nat_lit 506), li (nat_lit 917596) (nat_lit 507), li (nat_lit 917597) (nat_lit 508)]⟩ 64, #[]⟩
noncomputable def o147v316 (P : Params) : Obj := ⟨(.type "range_iterator"), none, .fields #[(.int (.ofNat (nat_lit 917598)) (nat_lit 0)), (.int (.ofNat (nat_lit 34)) (nat_lit 0)), (.int (.ofNat (nat_lit 1)) (nat_lit 0))], #[]⟩
noncomputable def t6c31 (f : Bool) (P : Params) : BT := TT5 (o147v316 P) (o146v315 P) f P
noncomputable def S6c31 (f : Bool) (w : World) (os : OsState) : SharedT := ⟨t6c31 f w.params, 148, lf, gs, boot_drawn, 509, os⟩
theorem y6c31 : Y6c0p 34 S6c30 S6c31 := by intro f w a0 a1 a2; kernel_rfl
noncomputable def o146v317 (P : Params) : Obj := ⟨(.type "list"), none, .seq ⟨EL25 ++ [li (nat_lit 917588) (nat_lit 499), li (nat_lit 917589) (nat_lit 500), li (nat_lit 917590) (nat_lit 501), li (nat_lit 917591) (nat_lit 502), li (nat_lit 917592) (nat_lit 503), li (nat_lit 917593) (nat_lit 504), li (nat_lit 917594) (nat_lit 505), li (nat_lit 917595) (nat_lit 506), li (nat_lit 917596) (nat_lit 507), li (nat_lit 917597) (nat_lit 508), li (nat_lit 917598) (nat_lit 509), li (nat_lit 917599) (nat_lit 510)]⟩ 66, #[]⟩
noncomputable def o147v318 (P : Params) : Obj := ⟨(.type "range_iterator"), none, .fields #[(.int (.ofNat (nat_lit 917600)) (nat_lit 0)), (.int (.ofNat (nat_lit 32)) (nat_lit 0)), (.int (.ofNat (nat_lit 1)) (nat_lit 0))], #[]⟩
noncomputable def t6c32 (f : Bool) (P : Params) : BT := TT5 (o147v318 P) (o146v317 P) f P
noncomputable def S6c32 (f : Bool) (w : World) (os : OsState) : SharedT := ⟨t6c32 f w.params, 148, lf, gs, boot_drawn, 511, os⟩
theorem y6c32 : Y6c0p 34 S6c31 S6c32 := by intro f w a0 a1 a2; kernel_rfl
noncomputable def EL26 : List Value := li (nat_lit 917536) (nat_lit 447) :: li (nat_lit 917537) (nat_lit 448) :: li (nat_lit 917538) (nat_lit 449) :: li (nat_lit 917539) (nat_lit 450) :: li (nat_lit 917540) (nat_lit 451) :: li (nat_lit 917541) (nat_lit 452) :: li (nat_lit 917542) (nat_lit 453) :: li (nat_lit 917543) (nat_lit 454) :: li (nat_lit 917544) (nat_lit 455) :: li (nat_lit 917545) (nat_lit 456) :: li (nat_lit 917546) (nat_lit 457) :: li (nat_lit 917547) (nat_lit 458) :: li (nat_lit 917548) (nat_lit 459) :: li (nat_lit 917549) (nat_lit 460) :: li (nat_lit 917550) (nat_lit 461) :: li (nat_lit 917551) (nat_lit 462) :: li (nat_lit 917552) (nat_lit 463) :: li (nat_lit 917553) (nat_lit 464) :: li (nat_lit 917554) (nat_lit 465) :: li (nat_lit 917555) (nat_lit 466) :: li (nat_lit 917556) (nat_lit 467) :: li (nat_lit 917557) (nat_lit 468) :: li (nat_lit 917558) (nat_lit 469) :: li (nat_lit 917559) (nat_lit 470) :: li (nat_lit 917560) (nat_lit 471) :: li (nat_lit 917561) (nat_lit 472) :: li (nat_lit 917562) (nat_lit 473) :: li (nat_lit 917563) (nat_lit 474) :: li (nat_lit 917564) (nat_lit 475) :: li (nat_lit 917565) (nat_lit 476) :: li (nat_lit 917566) (nat_lit 477) :: li (nat_lit 917567) (nat_lit 478) :: li (nat_lit 917568) (nat_lit 479) :: li (nat_lit 917569) (nat_lit 480) :: li (nat_lit 917570) (nat_lit 481) :: li (nat_lit 917571) (nat_lit 482) :: li (nat_lit 917572) (nat_lit 483) :: li (nat_lit 917573) (nat_lit 484) :: li (nat_lit 917574) (nat_lit 485) :: li (nat_lit 917575) (nat_lit 486) :: li (nat_lit 917576) (nat_lit 487) :: li (nat_lit 917577) (nat_lit 488) :: li (nat_lit 917578) (nat_lit 489) :: li (nat_lit 917579) (nat_lit 490) :: li (nat_lit 917580) (nat_lit 491) :: li (nat_lit 917581) (nat_lit 492) :: li (nat_lit 917582) (nat_lit 493) :: li (nat_lit 917583) (nat_lit 494) :: li (nat_lit 917584) (nat_lit 495) :: li (nat_lit 917585) (nat_lit 496) :: li (nat_lit 917586) (nat_lit 497) :: li (nat_lit 917587) (nat_lit 498) :: li (nat_lit 917588) (nat_lit 499) :: li (nat_lit 917589) (nat_lit 500) :: li (nat_lit 917590) (nat_lit 501) :: li (nat_lit 917591) (nat_lit 502) :: li (nat_lit 917592) (nat_lit 503) :: li (nat_lit 917593) (nat_lit 504) :: li (nat_lit 917594) (nat_lit 505) :: li (nat_lit 917595) (nat_lit 506) :: li (nat_lit 917596) (nat_lit 507) :: li (nat_lit 917597) (nat_lit 508) :: li (nat_lit 917598) (nat_lit 509) :: li (nat_lit 917599) (nat_lit 510) :: li (nat_lit 917600) (nat_lit 511) :: li (nat_lit 917601) (nat_lit 512) :: []
noncomputable def o146v319 (P : Params) : Obj := ⟨(.type "list"), none, .seq ⟨EL26 ++ []⟩ 68, #[]⟩
noncomputable def o147v320 (P : Params) : Obj := ⟨(.type "range_iterator"), none, .fields #[(.int (.ofNat (nat_lit 917602)) (nat_lit 0)), (.int (.ofNat (nat_lit 30)) (nat_lit 0)), (.int (.ofNat (nat_lit 1)) (nat_lit 0))], #[]⟩
noncomputable def t6c33 (f : Bool) (P : Params) : BT := TT5 (o147v320 P) (o146v319 P) f P
noncomputable def S6c33 (f : Bool) (w : World) (os : OsState) : SharedT := ⟨t6c33 f w.params, 148, lf, gs, boot_drawn, 513, os⟩
theorem y6c33 : Y6c0p 34 S6c32 S6c33 := by intro f w a0 a1 a2; kernel_rfl
noncomputable def o146v321 (P : Params) : Obj := ⟨(.type "list"), none, .seq ⟨EL26 ++ [li (nat_lit 917602) (nat_lit 513), li (nat_lit 917603) (nat_lit 514)]⟩ 70, #[]⟩
noncomputable def o147v322 (P : Params) : Obj := ⟨(.type "range_iterator"), none, .fields #[(.int (.ofNat (nat_lit 917604)) (nat_lit 0)), (.int (.ofNat (nat_lit 28)) (nat_lit 0)), (.int (.ofNat (nat_lit 1)) (nat_lit 0))], #[]⟩
noncomputable def t6c34 (f : Bool) (P : Params) : BT := TT5 (o147v322 P) (o146v321 P) f P
noncomputable def S6c34 (f : Bool) (w : World) (os : OsState) : SharedT := ⟨t6c34 f w.params, 148, lf, gs, boot_drawn, 515, os⟩
theorem y6c34 : Y6c0p 34 S6c33 S6c34 := by intro f w a0 a1 a2; kernel_rfl
noncomputable def o146v323 (P : Params) : Obj := ⟨(.type "list"), none, .seq ⟨EL26 ++ [li (nat_lit 917602) (nat_lit 513), li (nat_lit 917603) (nat_lit 514), li (nat_lit 917604) (nat_lit 515), li (nat_lit 917605) (nat_lit 516)]⟩ 72, #[]⟩
noncomputable def o147v324 (P : Params) : Obj := ⟨(.type "range_iterator"), none, .fields #[(.int (.ofNat (nat_lit 917606)) (nat_lit 0)), (.int (.ofNat (nat_lit 26)) (nat_lit 0)), (.int (.ofNat (nat_lit 1)) (nat_lit 0))], #[]⟩
noncomputable def t6c35 (f : Bool) (P : Params) : BT := TT5 (o147v324 P) (o146v323 P) f P
noncomputable def S6c35 (f : Bool) (w : World) (os : OsState) : SharedT := ⟨t6c35 f w.params, 148, lf, gs, boot_drawn, 517, os⟩
theorem y6c35 : Y6c0p 34 S6c34 S6c35 := by intro f w a0 a1 a2; kernel_rfl
noncomputable def o146v325 (P : Params) : Obj := ⟨(.type "list"), none, .seq ⟨EL26 ++ [li (nat_lit 917602) (nat_lit 513), li (nat_lit 917603) (nat_lit 514), li (nat_lit 917604) (nat_lit 515), li (nat_lit 917605) (nat_lit 516), li (nat_lit 917606) (nat_lit 517), li (nat_lit 917607) (nat_lit 518)]⟩ 74, #[]⟩
noncomputable def o147v326 (P : Params) : Obj := ⟨(.type "range_iterator"), none, .fields #[(.int (.ofNat (nat_lit 917608)) (nat_lit 0)), (.int (.ofNat (nat_lit 24)) (nat_lit 0)), (.int (.ofNat (nat_lit 1)) (nat_lit 0))], #[]⟩
noncomputable def t6c36 (f : Bool) (P : Params) : BT := TT5 (o147v326 P) (o146v325 P) f P
noncomputable def S6c36 (f : Bool) (w : World) (os : OsState) : SharedT := ⟨t6c36 f w.params, 148, lf, gs, boot_drawn, 519, os⟩
theorem y6c36 : Y6c0p 34 S6c35 S6c36 := by intro f w a0 a1 a2; kernel_rfl
noncomputable def o146v327 (P : Params) : Obj := ⟨(.type "list"), none, .seq ⟨EL26 ++ [li (nat_lit 917602) (nat_lit 513), li (nat_lit 917603) (nat_lit 514), li (nat_lit 917604) (nat_lit 515), li (nat_lit 917605) (nat_lit 516), li (nat_lit 917606) (nat_lit 517), li (nat_lit 917607) (nat_lit 518), li (nat_lit 917608) (nat_lit 519), li (nat_lit 917609) (nat_lit 520)]⟩ 76, #[]⟩
noncomputable def o147v328 (P : Params) : Obj := ⟨(.type "range_iterator"), none, .fields #[(.int (.ofNat (nat_lit 917610)) (nat_lit 0)), (.int (.ofNat (nat_lit 22)) (nat_lit 0)), (.int (.ofNat (nat_lit 1)) (nat_lit 0))], #[]⟩
noncomputable def t6c37 (f : Bool) (P : Params) : BT := TT5 (o147v328 P) (o146v327 P) f P
noncomputable def S6c37 (f : Bool) (w : World) (os : OsState) : SharedT := ⟨t6c37 f w.params, 148, lf, gs, boot_drawn, 521, os⟩
theorem y6c37 : Y6c0p 34 S6c36 S6c37 := by intro f w a0 a1 a2; kernel_rfl
noncomputable def o146v329 (P : Params) : Obj := ⟨(.type "list"), none, .seq ⟨EL26 ++ [li (nat_lit 917602) (nat_lit 513), li (nat_lit 917603) (nat_lit 514), li (nat_lit 917604) (nat_lit 515), li (nat_lit 917605) (nat_lit 516), li (nat_lit 917606) (nat_lit 517), li (nat_lit 917607) (nat_lit 518), li (nat_lit 917608) (nat_lit 519), li (nat_lit 917609) (nat_lit 520), li (nat_lit 917610) (nat_lit 521), li (nat_lit 917611) (nat_lit 522)]⟩ 78, #[]⟩
noncomputable def o147v330 (P : Params) : Obj := ⟨(.type "range_iterator"), none, .fields #[(.int (.ofNat (nat_lit 917612)) (nat_lit 0)), (.int (.ofNat (nat_lit 20)) (nat_lit 0)), (.int (.ofNat (nat_lit 1)) (nat_lit 0))], #[]⟩
noncomputable def t6c38 (f : Bool) (P : Params) : BT := TT5 (o147v330 P) (o146v329 P) f P
noncomputable def S6c38 (f : Bool) (w : World) (os : OsState) : SharedT := ⟨t6c38 f w.params, 148, lf, gs, boot_drawn, 523, os⟩
theorem y6c38 : Y6c0p 34 S6c37 S6c38 := by intro f w a0 a1 a2; kernel_rfl
noncomputable def o146v331 (P : Params) : Obj := ⟨(.type "list"), none, .seq ⟨EL26 ++ [li (nat_lit 917602) (nat_lit 513), li (nat_lit 917603) (nat_lit 514), li (nat_lit 917604) (nat_lit 515), li (nat_lit 917605) (nat_lit 516), li (nat_lit 917606) (nat_lit 517), li (nat_lit 917607) (nat_lit 518), li (nat_lit 917608) (nat_lit 519), li (nat_lit 917609) (nat_lit 520), li (nat_lit 917610) (nat_lit 521), li (nat_lit 917611) (nat_lit 522), li (nat_lit 917612) (nat_lit 523), li (nat_lit 917613) (nat_lit 524)]⟩ 80, #[]⟩
noncomputable def o147v332 (P : Params) : Obj := ⟨(.type "range_iterator"), none, .fields #[(.int (.ofNat (nat_lit 917614)) (nat_lit 0)), (.int (.ofNat (nat_lit 18)) (nat_lit 0)), (.int (.ofNat (nat_lit 1)) (nat_lit 0))], #[]⟩
noncomputable def t6c39 (f : Bool) (P : Params) : BT := TT5 (o147v332 P) (o146v331 P) f P
noncomputable def S6c39 (f : Bool) (w : World) (os : OsState) : SharedT := ⟨t6c39 f w.params, 148, lf, gs, boot_drawn, 525, os⟩
theorem y6c39 : Y6c0p 34 S6c38 S6c39 := by intro f w a0 a1 a2; kernel_rfl
noncomputable def EL27 : List Value := li (nat_lit 917536) (nat_lit 447) :: li (nat_lit 917537) (nat_lit 448) :: li (nat_lit 917538) (nat_lit 449) :: li (nat_lit 917539) (nat_lit 450) :: li (nat_lit 917540) (nat_lit 451) :: li (nat_lit 917541) (nat_lit 452) :: li (nat_lit 917542) (nat_lit 453) :: li (nat_lit 917543) (nat_lit 454) :: li (nat_lit 917544) (nat_lit 455) :: li (nat_lit 917545) (nat_lit 456) :: li (nat_lit 917546) (nat_lit 457) :: li (nat_lit 917547) (nat_lit 458) :: li (nat_lit 917548) (nat_lit 459) :: li (nat_lit 917549) (nat_lit 460) :: li (nat_lit 917550) (nat_lit 461) :: li (nat_lit 917551) (nat_lit 462) :: li (nat_lit 917552) (nat_lit 463) :: li (nat_lit 917553) (nat_lit 464) :: li (nat_lit 917554) (nat_lit 465) :: li (nat_lit 917555) (nat_lit 466) :: li (nat_lit 917556) (nat_lit 467) :: li (nat_lit 917557) (nat_lit 468) :: li (nat_lit 917558) (nat_lit 469) :: li (nat_lit 917559) (nat_lit 470) :: li (nat_lit 917560) (nat_lit 471) :: li (nat_lit 917561) (nat_lit 472) :: li (nat_lit 917562) (nat_lit 473) :: li (nat_lit 917563) (nat_lit 474) :: li (nat_lit 917564) (nat_lit 475) :: li (nat_lit 917565) (nat_lit 476) :: li (nat_lit 917566) (nat_lit 477) :: li (nat_lit 917567) (nat_lit 478) :: li (nat_lit 917568) (nat_lit 479) :: li (nat_lit 917569) (nat_lit 480) :: li (nat_lit 917570) (nat_lit 481) :: li (nat_lit 917571) (nat_lit 482) :: li (nat_lit 917572) (nat_lit 483) :: li (nat_lit 917573) (nat_lit 484) :: li (nat_lit 917574) (nat_lit 485) :: li (nat_lit 917575) (nat_lit 486) :: li (nat_lit 917576) (nat_lit 487) :: li (nat_lit 917577) (nat_lit 488) :: li (nat_lit 917578) (nat_lit 489) :: li (nat_lit 917579) (nat_lit 490) :: li (nat_lit 917580) (nat_lit 491) :: li (nat_lit 917581) (nat_lit 492) :: li (nat_lit 917582) (nat_lit 493) :: li (nat_lit 917583) (nat_lit 494) :: li (nat_lit 917584) (nat_lit 495) :: li (nat_lit 917585) (nat_lit 496) :: li (nat_lit 917586) (nat_lit 497) :: li (nat_lit 917587) (nat_lit 498) :: li (nat_lit 917588) (nat_lit 499) :: li (nat_lit 917589) (nat_lit 500) :: li (nat_lit 917590) (nat_lit 501) :: li (nat_lit 917591) (nat_lit 502) :: li (nat_lit 917592) (nat_lit 503) :: li (nat_lit 917593) (nat_lit 504) :: li (nat_lit 917594) (nat_lit 505) :: li (nat_lit 917595) (nat_lit 506) :: li (nat_lit 917596) (nat_lit 507) :: li (nat_lit 917597) (nat_lit 508) :: li (nat_lit 917598) (nat_lit 509) :: li (nat_lit 917599) (nat_lit 510) :: li (nat_lit 917600) (nat_lit 511) :: li (nat_lit 917601) (nat_lit 512) :: li (nat_lit 917602) (nat_lit 513) :: li (nat_lit 917603) (nat_lit 514) :: li (nat_lit 917604) (nat_lit 515) :: li (nat_lit 917605) (nat_lit 516) :: li (nat_lit 917606) (nat_lit 517) :: li (nat_lit 917607) (nat_lit 518) :: li (nat_lit 917608) (nat_lit 519) :: li (nat_lit 917609) (nat_lit 520) :: li (nat_lit 917610) (nat_lit 521) :: li (nat_lit 917611) (nat_lit 522) :: li (nat_lit 917612) (nat_lit 523) :: li (nat_lit 917613) (nat_lit 524) :: li (nat_lit 917614) (nat_lit 525) :: li (nat_lit 917615) (nat_lit 526) :: []
noncomputable def o146v333 (P : Params) : Obj := ⟨(.type "list"), none, .seq ⟨EL27 ++ []⟩ 82, #[]⟩
noncomputable def o147v334 (P : Params) : Obj := ⟨(.type "range_iterator"), none, .fields #[(.int (.ofNat (nat_lit 917616)) (nat_lit 0)), (.int (.ofNat (nat_lit 16)) (nat_lit 0)), (.int (.ofNat (nat_lit 1)) (nat_lit 0))], #[]⟩
noncomputable def t6c40 (f : Bool) (P : Params) : BT := TT5 (o147v334 P) (o146v333 P) f P
noncomputable def S6c40 (f : Bool) (w : World) (os : OsState) : SharedT := ⟨t6c40 f w.params, 148, lf, gs, boot_drawn, 527, os⟩
theorem y6c40 : Y6c0p 34 S6c39 S6c40 := by intro f w a0 a1 a2; kernel_rfl
noncomputable def o146v335 (P : Params) : Obj := ⟨(.type "list"), none, .seq ⟨EL27 ++ [li (nat_lit 917616) (nat_lit 527), li (nat_lit 917617) (nat_lit 528)]⟩ 84, #[]⟩
noncomputable def o147v336 (P : Params) : Obj := ⟨(.type "range_iterator"), none, .fields #[(.int (.ofNat (nat_lit 917618)) (nat_lit 0)), (.int (.ofNat (nat_lit 14)) (nat_lit 0)), (.int (.ofNat (nat_lit 1)) (nat_lit 0))], #[]⟩
noncomputable def t6c41 (f : Bool) (P : Params) : BT := TT5 (o147v336 P) (o146v335 P) f P
noncomputable def S6c41 (f : Bool) (w : World) (os : OsState) : SharedT := ⟨t6c41 f w.params, 148, lf, gs, boot_drawn, 529, os⟩
theorem y6c41 : Y6c0p 34 S6c40 S6c41 := by intro f w a0 a1 a2; kernel_rfl
noncomputable def o146v337 (P : Params) : Obj := ⟨(.type "list"), none, .seq ⟨EL27 ++ [li (nat_lit 917616) (nat_lit 527), li (nat_lit 917617) (nat_lit 528), li (nat_lit 917618) (nat_lit 529), li (nat_lit 917619) (nat_lit 530)]⟩ 86, #[]⟩
noncomputable def o147v338 (P : Params) : Obj := ⟨(.type "range_iterator"), none, .fields #[(.int (.ofNat (nat_lit 917620)) (nat_lit 0)), (.int (.ofNat (nat_lit 12)) (nat_lit 0)), (.int (.ofNat (nat_lit 1)) (nat_lit 0))], #[]⟩
noncomputable def t6c42 (f : Bool) (P : Params) : BT := TT5 (o147v338 P) (o146v337 P) f P
noncomputable def S6c42 (f : Bool) (w : World) (os : OsState) : SharedT := ⟨t6c42 f w.params, 148, lf, gs, boot_drawn, 531, os⟩
theorem y6c42 : Y6c0p 34 S6c41 S6c42 := by intro f w a0 a1 a2; kernel_rfl
noncomputable def o146v339 (P : Params) : Obj := ⟨(.type "list"), none, .seq ⟨EL27 ++ [li (nat_lit 917616) (nat_lit 527), li (nat_lit 917617) (nat_lit 528), li (nat_lit 917618) (nat_lit 529), li (nat_lit 917619) (nat_lit 530), li (nat_lit 917620) (nat_lit 531), li (nat_lit 917621) (nat_lit 532)]⟩ 88, #[]⟩
noncomputable def o147v340 (P : Params) : Obj := ⟨(.type "range_iterator"), none, .fields #[(.int (.ofNat (nat_lit 917622)) (nat_lit 0)), (.int (.ofNat (nat_lit 10)) (nat_lit 0)), (.int (.ofNat (nat_lit 1)) (nat_lit 0))], #[]⟩
noncomputable def t6c43 (f : Bool) (P : Params) : BT := TT5 (o147v340 P) (o146v339 P) f P
noncomputable def S6c43 (f : Bool) (w : World) (os : OsState) : SharedT := ⟨t6c43 f w.params, 148, lf, gs, boot_drawn, 533, os⟩
theorem y6c43 : Y6c0p 34 S6c42 S6c43 := by intro f w a0 a1 a2; kernel_rfl
noncomputable def o146v341 (P : Params) : Obj := ⟨(.type "list"), none, .seq ⟨EL27 ++ [li (nat_lit 917616) (nat_lit 527), li (nat_lit 917617) (nat_lit 528), li (nat_lit 917618) (nat_lit 529), li (nat_lit 917619) (nat_lit 530), li (nat_lit 917620) (nat_lit 531), li (nat_lit 917621) (nat_lit 532), li (nat_lit 917622) (nat_lit 533), li (nat_lit 917623) (nat_lit 534)]⟩ 90, #[]⟩
noncomputable def o147v342 (P : Params) : Obj := ⟨(.type "range_iterator"), none, .fields #[(.int (.ofNat (nat_lit 917624)) (nat_lit 0)), (.int (.ofNat (nat_lit 8)) (nat_lit 0)), (.int (.ofNat (nat_lit 1)) (nat_lit 0))], #[]⟩
noncomputable def t6c44 (f : Bool) (P : Params) : BT := TT5 (o147v342 P) (o146v341 P) f P
noncomputable def S6c44 (f : Bool) (w : World) (os : OsState) : SharedT := ⟨t6c44 f w.params, 148, lf, gs, boot_drawn, 535, os⟩
theorem y6c44 : Y6c0p 34 S6c43 S6c44 := by intro f w a0 a1 a2; kernel_rfl
noncomputable def o146v343 (P : Params) : Obj := ⟨(.type "list"), none, .seq ⟨EL27 ++ [li (nat_lit 917616) (nat_lit 527), li (nat_lit 917617) (nat_lit 528), li (nat_lit 917618) (nat_lit 529), li (nat_lit 917619) (nat_lit 530), li (nat_lit 917620) (nat_lit 531), li (nat_lit 917621) (nat_lit 532), li (nat_lit 917622) (nat_lit 533), li (nat_lit 917623) (nat_lit 534), li (nat_lit 917624) (nat_lit 535), li (nat_lit 917625) (nat_lit 536)]⟩ 92, #[]⟩
noncomputable def o147v344 (P : Params) : Obj := ⟨(.type "range_iterator"), none, .fields #[(.int (.ofNat (nat_lit 917626)) (nat_lit 0)), (.int (.ofNat (nat_lit 6)) (nat_lit 0)), (.int (.ofNat (nat_lit 1)) (nat_lit 0))], #[]⟩
noncomputable def t6c45 (f : Bool) (P : Params) : BT := TT5 (o147v344 P) (o146v343 P) f P
noncomputable def S6c45 (f : Bool) (w : World) (os : OsState) : SharedT := ⟨t6c45 f w.params, 148, lf, gs, boot_drawn, 537, os⟩
theorem y6c45 : Y6c0p 34 S6c44 S6c45 := by intro f w a0 a1 a2; kernel_rfl
noncomputable def o146v345 (P : Params) : Obj := ⟨(.type "list"), none, .seq ⟨EL27 ++ [li (nat_lit 917616) (nat_lit 527), li (nat_lit 917617) (nat_lit 528), li (nat_lit 917618) (nat_lit 529), li (nat_lit 917619) (nat_lit 530), li (nat_lit 917620) (nat_lit 531), li (nat_lit 917621) (nat_lit 532), li (nat_lit 917622) (nat_lit 533), li (nat_lit 917623) (nat_lit 534), li (nat_lit 917624) (nat_lit 535), li (nat_lit 917625) (nat_lit 536), li (nat_lit 917626) (nat_lit 537), li (nat_lit 917627) (nat_lit 538)]⟩ 94, #[]⟩
noncomputable def o147v346 (P : Params) : Obj := ⟨(.type "range_iterator"), none, .fields #[(.int (.ofNat (nat_lit 917628)) (nat_lit 0)), (.int (.ofNat (nat_lit 4)) (nat_lit 0)), (.int (.ofNat (nat_lit 1)) (nat_lit 0))], #[]⟩
noncomputable def t6c46 (f : Bool) (P : Params) : BT := TT5 (o147v346 P) (o146v345 P) f P
noncomputable def S6c46 (f : Bool) (w : World) (os : OsState) : SharedT := ⟨t6c46 f w.params, 148, lf, gs, boot_drawn, 539, os⟩
theorem y6c46 : Y6c0p 34 S6c45 S6c46 := by intro f w a0 a1 a2; kernel_rfl
noncomputable def EL28 : List Value := li (nat_lit 917536) (nat_lit 447) :: li (nat_lit 917537) (nat_lit 448) :: li (nat_lit 917538) (nat_lit 449) :: li (nat_lit 917539) (nat_lit 450) :: li (nat_lit 917540) (nat_lit 451) :: li (nat_lit 917541) (nat_lit 452) :: li (nat_lit 917542) (nat_lit 453) :: li (nat_lit 917543) (nat_lit 454) :: li (nat_lit 917544) (nat_lit 455) :: li (nat_lit 917545) (nat_lit 456) :: li (nat_lit 917546) (nat_lit 457) :: li (nat_lit 917547) (nat_lit 458) :: li (nat_lit 917548) (nat_lit 459) :: li (nat_lit 917549) (nat_lit 460) :: li (nat_lit 917550) (nat_lit 461) :: li (nat_lit 917551) (nat_lit 462) :: li (nat_lit 917552) (nat_lit 463) :: li (nat_lit 917553) (nat_lit 464) :: li (nat_lit 917554) (nat_lit 465) :: li (nat_lit 917555) (nat_lit 466) :: li (nat_lit 917556) (nat_lit 467) :: li (nat_lit 917557) (nat_lit 468) :: li (nat_lit 917558) (nat_lit 469) :: li (nat_lit 917559) (nat_lit 470) :: li (nat_lit 917560) (nat_lit 471) :: li (nat_lit 917561) (nat_lit 472) :: li (nat_lit 917562) (nat_lit 473) :: li (nat_lit 917563) (nat_lit 474) :: li (nat_lit 917564) (nat_lit 475) :: li (nat_lit 917565) (nat_lit 476) :: li (nat_lit 917566) (nat_lit 477) :: li (nat_lit 917567) (nat_lit 478) :: li (nat_lit 917568) (nat_lit 479) :: li (nat_lit 917569) (nat_lit 480) :: li (nat_lit 917570) (nat_lit 481) :: li (nat_lit 917571) (nat_lit 482) :: li (nat_lit 917572) (nat_lit 483) :: li (nat_lit 917573) (nat_lit 484) :: li (nat_lit 917574) (nat_lit 485) :: li (nat_lit 917575) (nat_lit 486) :: li (nat_lit 917576) (nat_lit 487) :: li (nat_lit 917577) (nat_lit 488) :: li (nat_lit 917578) (nat_lit 489) :: li (nat_lit 917579) (nat_lit 490) :: li (nat_lit 917580) (nat_lit 491) :: li (nat_lit 917581) (nat_lit 492) :: li (nat_lit 917582) (nat_lit 493) :: li (nat_lit 917583) (nat_lit 494) :: li (nat_lit 917584) (nat_lit 495) :: li (nat_lit 917585) (nat_lit 496) :: li (nat_lit 917586) (nat_lit 497) :: li (nat_lit 917587) (nat_lit 498) :: li (nat_lit 917588) (nat_lit 499) :: li (nat_lit 917589) (nat_lit 500) :: li (nat_lit 917590) (nat_lit 501) :: li (nat_lit 917591) (nat_lit 502) :: li (nat_lit 917592) (nat_lit 503) :: li (nat_lit 917593) (nat_lit 504) :: li (nat_lit 917594) (nat_lit 505) :: li (nat_lit 917595) (nat_lit 506) :: li (nat_lit 917596) (nat_lit 507) :: li (nat_lit 917597) (nat_lit 508) :: li (nat_lit 917598) (nat_lit 509) :: li (nat_lit 917599) (nat_lit 510) :: li (nat_lit 917600) (nat_lit 511) :: li (nat_lit 917601) (nat_lit 512) :: li (nat_lit 917602) (nat_lit 513) :: li (nat_lit 917603) (nat_lit 514) :: li (nat_lit 917604) (nat_lit 515) :: li (nat_lit 917605) (nat_lit 516) :: li (nat_lit 917606) (nat_lit 517) :: li (nat_lit 917607) (nat_lit 518) :: li (nat_lit 917608) (nat_lit 519) :: li (nat_lit 917609) (nat_lit 520) :: li (nat_lit 917610) (nat_lit 521) :: li (nat_lit 917611) (nat_lit 522) :: li (nat_lit 917612) (nat_lit 523) :: li (nat_lit 917613) (nat_lit 524) :: li (nat_lit 917614) (nat_lit 525) :: li (nat_lit 917615) (nat_lit 526) :: li (nat_lit 917616) (nat_lit 527) :: li (nat_lit 917617) (nat_lit 528) :: li (nat_lit 917618) (nat_lit 529) :: li (nat_lit 917619) (nat_lit 530) :: li (nat_lit 917620) (nat_lit 531) :: li (nat_lit 917621) (nat_lit 532) :: li (nat_lit 917622) (nat_lit 533) :: li (nat_lit 917623) (nat_lit 534) :: li (nat_lit 917624) (nat_lit 535) :: li (nat_lit 917625) (nat_lit 536) :: li (nat_lit 917626) (nat_lit 537) :: li (nat_lit 917627) (nat_lit 538) :: li (nat_lit 917628) (nat_lit 539) :: li (nat_lit 917629) (nat_lit 540) :: []
noncomputable def o146v347 (P : Params) : Obj := ⟨(.type "list"), none, .seq ⟨EL28 ++ []⟩ 96, #[]⟩
noncomputable def o147v348 (P : Params) : Obj := ⟨(.type "range_iterator"), none, .fields #[(.int (.ofNat (nat_lit 917630)) (nat_lit 0)), (.int (.ofNat (nat_lit 2)) (nat_lit 0)), (.int (.ofNat (nat_lit 1)) (nat_lit 0))], #[]⟩
noncomputable def t6c47 (f : Bool) (P : Params) : BT := TT5 (o147v348 P) (o146v347 P) f P
noncomputable def S6c47 (f : Bool) (w : World) (os : OsState) : SharedT := ⟨t6c47 f w.params, 148, lf, gs, boot_drawn, 541, os⟩
theorem y6c47 : Y6c0p 34 S6c46 S6c47 := by intro f w a0 a1 a2; kernel_rfl
noncomputable def o146v349 (P : Params) : Obj := ⟨(.type "list"), none, .seq ⟨EL28 ++ [li (nat_lit 917630) (nat_lit 541), li (nat_lit 917631) (nat_lit 542)]⟩ 98, #[]⟩
noncomputable def o147v350 (P : Params) : Obj := ⟨(.type "range_iterator"), none, .fields #[(.int (.ofNat (nat_lit 917632)) (nat_lit 0)), (.int (.ofNat (nat_lit 0)) (nat_lit 0)), (.int (.ofNat (nat_lit 1)) (nat_lit 0))], #[]⟩
noncomputable def t6c48 (f : Bool) (P : Params) : BT := TT5 (o147v350 P) (o146v349 P) f P
noncomputable def S6c48 (f : Bool) (w : World) (os : OsState) : SharedT := ⟨t6c48 f w.params, 148, lf, gs, boot_drawn, 543, os⟩
theorem y6c48 : Y6c0p 34 S6c47 S6c48 := by intro f w a0 a1 a2; kernel_rfl
noncomputable def o148v351 (P : Params) : Obj := ⟨(.type "tuple"), none, .seq #[] 0, #[]⟩
noncomputable def o149v352 (P : Params) : Obj := ⟨(.type "StopIteration"), none, .fields #[(.ref 148), .none, .none, .none, (.bool false), .none], #[]⟩
noncomputable def EL29 : List Value := li (nat_lit 917505) (nat_lit 441) :: li (nat_lit 917536) (nat_lit 447) :: li (nat_lit 917537) (nat_lit 448) :: li (nat_lit 917538) (nat_lit 449) :: li (nat_lit 917539) (nat_lit 450) :: li (nat_lit 917540) (nat_lit 451) :: li (nat_lit 917541) (nat_lit 452) :: li (nat_lit 917542) (nat_lit 453) :: li (nat_lit 917543) (nat_lit 454) :: li (nat_lit 917544) (nat_lit 455) :: li (nat_lit 917545) (nat_lit 456) :: li (nat_lit 917546) (nat_lit 457) :: li (nat_lit 917547) (nat_lit 458) :: li (nat_lit 917548) (nat_lit 459) :: li (nat_lit 917549) (nat_lit 460) :: li (nat_lit 917550) (nat_lit 461) :: li (nat_lit 917551) (nat_lit 462) :: li (nat_lit 917552) (nat_lit 463) :: li (nat_lit 917553) (nat_lit 464) :: li (nat_lit 917554) (nat_lit 465) :: li (nat_lit 917555) (nat_lit 466) :: li (nat_lit 917556) (nat_lit 467) :: li (nat_lit 917557) (nat_lit 468) :: li (nat_lit 917558) (nat_lit 469) :: li (nat_lit 917559) (nat_lit 470) :: li (nat_lit 917560) (nat_lit 471) :: li (nat_lit 917561) (nat_lit 472) :: li (nat_lit 917562) (nat_lit 473) :: li (nat_lit 917563) (nat_lit 474) :: li (nat_lit 917564) (nat_lit 475) :: li (nat_lit 917565) (nat_lit 476) :: li (nat_lit 917566) (nat_lit 477) :: li (nat_lit 917567) (nat_lit 478) :: li (nat_lit 917568) (nat_lit 479) :: li (nat_lit 917569) (nat_lit 480) :: li (nat_lit 917570) (nat_lit 481) :: li (nat_lit 917571) (nat_lit 482) :: li (nat_lit 917572) (nat_lit 483) :: li (nat_lit 917573) (nat_lit 484) :: li (nat_lit 917574) (nat_lit 485) :: li (nat_lit 917575) (nat_lit 486) :: li (nat_lit 917576) (nat_lit 487) :: li (nat_lit 917577) (nat_lit 488) :: li (nat_lit 917578) (nat_lit 489) :: li (nat_lit 917579) (nat_lit 490) :: li (nat_lit 917580) (nat_lit 491) :: li (nat_lit 917581) (nat_lit 492) :: li (nat_lit 917582) (nat_lit 493) :: li (nat_lit 917583) (nat_lit 494) :: li (nat_lit 917584) (nat_lit 495) :: li (nat_lit 917585) (nat_lit 496) :: li (nat_lit 917586) (nat_lit 497) :: li (nat_lit 917587) (nat_lit 498) :: li (nat_lit 917588) (nat_lit 499) :: li (nat_lit 917589) (nat_lit 500) :: li (nat_lit 917590) (nat_lit 501) :: li (nat_lit 917591) (nat_lit 502) :: li (nat_lit 917592) (nat_lit 503) :: li (nat_lit 917593) (nat_lit 504) :: li (nat_lit 917594) (nat_lit 505) :: li (nat_lit 917595) (nat_lit 506) :: li (nat_lit 917596) (nat_lit 507) :: li (nat_lit 917597) (nat_lit 508) :: li (nat_lit 917598) (nat_lit 509) :: li (nat_lit 917599) (nat_lit 510) :: li (nat_lit 917600) (nat_lit 511) :: li (nat_lit 917601) (nat_lit 512) :: li (nat_lit 917602) (nat_lit 513) :: li (nat_lit 917603) (nat_lit 514) :: li (nat_lit 917604) (nat_lit 515) :: li (nat_lit 917605) (nat_lit 516) :: li (nat_lit 917606) (nat_lit 517) :: li (nat_lit 917607) (nat_lit 518) :: li (nat_lit 917608) (nat_lit 519) :: li (nat_lit 917609) (nat_lit 520) :: li (nat_lit 917610) (nat_lit 521) :: li (nat_lit 917611) (nat_lit 522) :: li (nat_lit 917612) (nat_lit 523) :: li (nat_lit 917613) (nat_lit 524) :: li (nat_lit 917614) (nat_lit 525) :: li (nat_lit 917615) (nat_lit 526) :: li (nat_lit 917616) (nat_lit 527) :: li (nat_lit 917617) (nat_lit 528) :: li (nat_lit 917618) (nat_lit 529) :: li (nat_lit 917619) (nat_lit 530) :: li (nat_lit 917620) (nat_lit 531) :: li (nat_lit 917621) (nat_lit 532) :: li (nat_lit 917622) (nat_lit 533) :: li (nat_lit 917623) (nat_lit 534) :: li (nat_lit 917624) (nat_lit 535) :: li (nat_lit 917625) (nat_lit 536) :: li (nat_lit 917626) (nat_lit 537) :: li (nat_lit 917627) (nat_lit 538) :: li (nat_lit 917628) (nat_lit 539) :: li (nat_lit 917629) (nat_lit 540) :: li (nat_lit 917630) (nat_lit 541) :: li (nat_lit 917631) (nat_lit 542) :: []
noncomputable def o150v353 (P : Params) : Obj := ⟨(.type "list"), none, .seq ⟨EL29 ++ []⟩ 0, #[]⟩
noncomputable def s151v354 (f : Bool) (P : Params) : Obj := ⟨(.type "set"), none, .set #[] 0 { mask := (nat_lit 7), place := #[], dummies := #[], finger := 0, led := !f, moves := 0, plain := true }, #[]⟩
noncomputable def o152v355 (P : Params) : Obj := ⟨(.type "list_iterator"), none, .fields #[(.ref 150), (.int (.ofNat (nat_lit 0)) (nat_lit 0))], #[]⟩
noncomputable def TT6 (x0 x1 : Obj) (f : Bool) (P : Params) : BT := (.node (boot_o_0 P) (.node (boot_o_1 P) (.node (o3v240 P) (.node (boot_o_7 P) (.node (o15v6 P) (.node (o31v24 P) (.node (o63v56 P) (.node (o127v208 P) .nil .nil) .nil) (.node (o95v90 P) .nil .nil)) (.node (o47v40 P) (.node (o79v72 P) (.node (o143v250 P) .nil .nil) .nil) (.node (o111v178 P) .nil .nil))) (.node (o23v16 P) (.node (o39v32 P) (.node (o71v64 P) (.node (o135v242 P) .nil .nil) .nil) (.node (o103v98 P) .nil .nil)) (.node (o55v48 P) (.node (o87v80 P) (.node x0 .nil .nil) .nil) (.node (o119v188 P) .nil .nil)))) (.node (o11v0 P) (.node (o19v10 P) (.node (o35v28 P) (.node (o67v60 P) (.node (o131v212 P) .nil .nil) .nil) (.node (o99v94 P) .nil .nil)) (.node (o51v44 P) (.node (o83v76 P) (.node (o147v350 P) .nil .nil) .nil) (.node (o115v184 P) .nil .nil))) (.node (o27v20 P) (.node (o43v36 P) (.node (o75v68 P) (.node (o139v246 P) .nil .nil) .nil) (.node (o107v118 P) .nil .nil)) (.node (o59v52 P) (.node (o91v86 P) .nil .nil) (.node (o123v204 P) .nil .nil))))) (.node (boot_o_5 P) (.node (boot_o_9 P) (.node (o17v8 P) (.node (o33v26 P) (.node (o65v58 P) (.node (o129v210 P) .nil .nil) .nil) (.node (o97v92 P) .nil .nil)) (.node (o49v42 P) (.node (o81v74 P) (.node (o145v252 P) .nil .nil) .nil) (.node (o113v182 P) .nil .nil))) (.node (o25v18 P) (.node (o41v34 P) (.node (o73v66 P) (.node (o137v244 P) .nil .nil) .nil) (.node (o105v116 P) .nil .nil)) (.node (o57v50 P) (.node (o89v84 P) .nil .nil) (.node (s121v200 f P) .nil .nil)))) (.node (o13v2 P) (.node (o21v12 P) (.node (o37v30 P) (.node (o69v62 P) (.node (s133v238 f P) .nil .nil) .nil) (.node (o101v96 P) .nil .nil)) (.node (o53v46 P) (.node (o85v78 P) (.node (o149v352 P) .nil .nil) .nil) (.node (o117v186 P) .nil .nil))) (.node (o29v22 P) (.node (o45v38 P) (.node (o77v70 P) (.node (o141v248 P) .nil .nil) .nil) (.node (s109v174 f P) .nil .nil)) (.node (o61v54 P) (.node (o93v88 P) .nil .nil) (.node (o125v206 P) .nil .nil)))))) (.node (boot_o_2 P) (.node (boot_o_4 P) (.node (boot_o_8 P) (.node (o16v7 P) (.node (o32v25 P) (.node (o64v57 P) (.node (o128v209 P) .nil .nil) .nil) (.node (o96v91 P) .nil .nil)) (.node (o48v41 P) (.node (o80v73 P) (.node (o144v251 P) .nil .nil) .nil) (.node (o112v179 P) .nil .nil))) (.node (o24v17 P) (.node (o40v33 P) (.node (o72v65 P) (.node (o136v243 P) .nil .nil) .nil) (.node (o104v115 P) .nil .nil)) (.node (o56v49 P) (.node (o88v83 P) (.node x1 .nil .nil) .nil) (.node (o120v189 P) .nil .nil)))) (.node (o12v241 P) (.node (o20v11 P) (.node (o36v29 P) (.node (o68v61 P) (.node (o132v213 P) .nil .nil) .nil) (.node (o100v95 P) .nil .nil)) (.node (o52v45 P) (.node (o84v77 P) (.node (o148v351 P) .nil .nil) .nil) (.node (o116v185 P) .nil .nil))) (.node (o28v21 P) (.node (o44v37 P) (.node (o76v69 P) (.node (o140v247 P) .nil .nil) .nil) (.node (o108v119 P) .nil .nil)) (.node (o60v53 P) (.node (o92v87 P) .nil .nil) (.node (o124v205 P) .nil .nil))))) (.node (boot_o_6 P) (.node (boot_o_10 P) (.node (o18v9 P) (.node (o34v27 P) (.node (o66v59 P) (.node (o130v211 P) .nil .nil) .nil) (.node (o98v93 P) .nil .nil)) (.node (o50v43 P) (.node (o82v75 P) (.node (o146v349 P) .nil .nil) .nil) (.node (o114v183 P) .nil .nil))) (.node (o26v19 P) (.node (o42v35 P) (.node (o74v67 P) (.node (o138v245 P) .nil .nil) .nil) (.node (o106v117 P) .nil .nil)) (.node (o58v51 P) (.node (o90v85 P) .nil .nil) (.node (o122v201 P) .nil .nil)))) (.node (o14v3 P) (.node (o22v15 P) (.node (o38v31 P) (.node (o70v63 P) (.node (o134v239 P) .nil .nil) .nil) (.node (o102v97 P) .nil .nil)) (.node (o54v47 P) (.node (o86v79 P) (.node (o150v353 P) .nil .nil) .nil) (.node (o118v187 P) .nil .nil))) (.node (o30v23 P) (.node (o46v39 P) (.node (o78v71 P) (.node (o142v249 P) .nil .nil) .nil) (.node (o110v177 P) .nil .nil)) (.node (o62v55 P) (.node (o94v89 P) .nil .nil) (.node (o126v207 P) .nil .nil)))))))
noncomputable def t6c49 (f : Bool) (P : Params) : BT := TT6 (s151v354 f P) (o152v355 P) f P
noncomputable def S6c49 (f : Bool) (w : World) (os : OsState) : SharedT := ⟨t6c49 f w.params, 153, lf, gs, boot_drawn, 543, os⟩
noncomputable def fr6c49 (f : Bool) (w : World) (os : OsState) : List Frame := match twGo twTab pw (wf f (World.withFollow w "special-get-raises" false)) m0 ann 1 59 (S6c48 f (wf f (World.withFollow w "special-get-raises" false)) os) (T6c0 f w os) with | some (_, t) => t.stack | none => []
noncomputable def TH6c49 (fs : List Frame) : Thread := ⟨twDen twTab (.builtin "set.update.loop" ⟨[(.ref 151), (.ref 152)], []⟩), (.builtin "set.update.loop" ⟨[(.ref 151), (.ref 152)], []⟩), ⟨88, 9, 88, 52⟩, fs⟩
noncomputable def T6c49 (f : Bool) (w : World) (os : OsState) : Thread := TH6c49 (fr6c49 f w os)
noncomputable def Q6c49 (f : Bool) (w : World) : Prop := (fun os => twGo twTab pw (wf f w) m0 ann 1 59 (S6c48 f (wf f w) os) (T6c0 f w os)) = fun os => some (S6c49 f (wf f w) os, (T6c49 f w os))
noncomputable def G6c49 (f : Bool) (w : World) (os : OsState) : Option (SharedT × Thread) := twGo twTab pw (wf f w) m0 ann 1 59 (S6c48 f (wf f w) os) (T6c0 f w os)
noncomputable def H6c49 (f : Bool) (w : World) (os : OsState) : Option (SharedT × Thread) := some (S6c49 f (wf f w) os, (T6c49 f w os))
theorem y6c49 : ∀ (w : World), (G6c49 true (World.withFollow w "special-get-raises" false), G6c49 true (World.withFollow w "special-get-raises" true), G6c49 false (World.withFollow w "special-get-raises" false), G6c49 false (World.withFollow w "special-get-raises" true)) = (H6c49 true (World.withFollow w "special-get-raises" false), H6c49 true (World.withFollow w "special-get-raises" true), H6c49 false (World.withFollow w "special-get-raises" false), H6c49 false (World.withFollow w "special-get-raises" true)) := by intro w; kernel_rfl
theorem q6c49 : ∀ f w, Q6c49 f w := fun f => match f with | true => (byRow2 "special-get-raises" (P := fun w => Q6c49 true w) (fun w => (Eq.mp (show (G6c49 true (World.withFollow w "special-get-raises" false) = H6c49 true (World.withFollow w "special-get-raises" false)) = Q6c49 true (World.withFollow w "special-get-raises" false) from by kernel_rfl) (pr1 (y6c49 w)))) (fun w => (Eq.mp (show (G6c49 true (World.withFollow w "special-get-raises" true) = H6c49 true (World.withFollow w "special-get-raises" true)) = Q6c49 true (World.withFollow w "special-get-raises" true) from by kernel_rfl) (pr2 (y6c49 w))))) | false => (byRow2 "special-get-raises" (P := fun w => Q6c49 false w) (fun w => (Eq.mp (show (G6c49 false (World.withFollow w "special-get-raises" false) = H6c49 false (World.withFollow w "special-get-raises" false)) = Q6c49 false (World.withFollow w "special-get-raises" false) from by kernel_rfl) (pr3 (y6c49 w)))) (fun w => (Eq.mp (show (G6c49 false (World.withFollow w "special-get-raises" true) = H6c49 false (World.withFollow w "special-get-raises" true)) = Q6c49 false (World.withFollow w "special-get-raises" true) from by kernel_rfl) (pr4 (y6c49 w)))))
theorem l6c49 (f : Bool) (w : World) : (fun os => (fr6c49 f w os).length) = fun _ => 4 := by kernel_rfl
noncomputable def s151v356 (f : Bool) (P : Params) : Obj := ⟨(.type "set"), none, .set #[ei (nat_lit 917505) (nat_lit 441)] 1 { mask := (nat_lit 7), place := #[(nat_lit 1)], dummies := #[], finger := 0, led := !f, moves := 0, plain := true }, #[]⟩
noncomputable def o152v357 (P : Params) : Obj := ⟨(.type "list_iterator"), none, .fields #[(.ref 150), (.int (.ofNat (nat_lit 1)) (nat_lit 0))], #[]⟩
noncomputable def t6c50 (f : Bool) (P : Params) : BT := TT6 (s151v356 f P) (o152v357 P) f P
noncomputable def S6c50 (f : Bool) (w : World) (os : OsState) : SharedT := ⟨t6c50 f w.params, 153, lf, gs, boot_drawn, 544, os⟩
noncomputable def GG6c49 (k : Nat) (A : Bool → World → OsState → SharedT) (f : Bool) (w : World) (a0 a1 a2 a3 : Frame) (os : OsState) : Option (SharedT × Thread) := twGo twTab pw (wf f w) m0 ann 1 k (A f (wf f w) os) (TH6c49 [a0, a1, a2, a3])
noncomputable def HH6c49 (B : Bool → World → OsState → SharedT) (f : Bool) (w : World) (a0 a1 a2 a3 : Frame) (os : OsState) : Option (SharedT × Thread) := some (B f (wf f w) os, TH6c49 [a0, a1, a2, a3])
noncomputable def Y6c49ms (k : Nat) (A B : Bool → World → OsState → SharedT) : Prop := ∀ (w : World) (a0 a1 a2 a3 : Frame), (GG6c49 k A true (World.withFollow w "special-get-raises" false) a0 a1 a2 a3, GG6c49 k A true (World.withFollow w "special-get-raises" true) a0 a1 a2 a3, GG6c49 k A false (World.withFollow w "special-get-raises" false) a0 a1 a2 a3, GG6c49 k A false (World.withFollow w "special-get-raises" true) a0 a1 a2 a3) = (HH6c49 B true (World.withFollow w "special-get-raises" false) a0 a1 a2 a3, HH6c49 B true (World.withFollow w "special-get-raises" true) a0 a1 a2 a3, HH6c49 B false (World.withFollow w "special-get-raises" false) a0 a1 a2 a3, HH6c49 B false (World.withFollow w "special-get-raises" true) a0 a1 a2 a3)
theorem X6c49ms {k : Nat} {A B : Bool → World → OsState → SharedT} (y : Y6c49ms k A B) : ∀ (f : Bool) (w : World) (a0 a1 a2 a3 : Frame), GG6c49 k A f w a0 a1 a2 a3 = HH6c49 B f w a0 a1 a2 a3 :=
  let P := fun (f : Bool) (w : World) => ∀ a0 a1 a2 a3 : Frame, GG6c49 k A f w a0 a1 a2 a3 = HH6c49 B f w a0 a1 a2 a3
  show ∀ f w, P f w from fun f => match f with | true => byRow2 "special-get-raises" (P := fun w => P true w) (fun w a0 a1 a2 a3 => pr1 (y w a0 a1 a2 a3)) (fun w a0 a1 a2 a3 => pr2 (y w a0 a1 a2 a3)) | false => byRow2 "special-get-raises" (P := fun w => P false w) (fun w a0 a1 a2 a3 => pr3 (y w a0 a1 a2 a3)) (fun w a0 a1 a2 a3 => pr4 (y w a0 a1 a2 a3))
theorem U6c49ms {k : Nat} {A B : Bool → World → OsState → SharedT} (y : Y6c49ms k A B) (f : Bool) (w : World) (os : OsState) : twGo twTab pw (wf f w) m0 ann 1 k (A f (wf f w) os) (T6c49 f w os) = some (B f (wf f w) os, T6c49 f w os) :=
  lift4 (P := fun fs => twGo twTab pw (wf f w) m0 ann 1 k (A f (wf f w) os) (TH6c49 fs) = some (B f (wf f w) os, TH6c49 fs)) (fun a0 a1 a2 a3 => congrFun (X6c49ms y f w a0 a1 a2 a3) os) _ (congrFun (l6c49 f w) os)
theorem y6c50 : Y6c49ms 20 S6c49 S6c50 := by intro w a0 a1 a2 a3; kernel_rfl
noncomputable def s151v358 (f : Bool) (P : Params) : Obj := ⟨(.type "set"), none, .set #[ei (nat_lit 917536) (nat_lit 447), ei (nat_lit 917505) (nat_lit 441)] 2 { mask := (nat_lit 7), place := #[(nat_lit 0), (nat_lit 1)], dummies := #[], finger := 0, led := !f, moves := 0, plain := true }, #[]⟩
noncomputable def o152v359 (P : Params) : Obj := ⟨(.type "list_iterator"), none, .fields #[(.ref 150), (.int (.ofNat (nat_lit 2)) (nat_lit 0))], #[]⟩
noncomputable def t6c51 (f : Bool) (P : Params) : BT := TT6 (s151v358 f P) (o152v359 P) f P
noncomputable def S6c51 (f : Bool) (w : World) (os : OsState) : SharedT := ⟨t6c51 f w.params, 153, lf, gs, boot_drawn, 545, os⟩
theorem y6c51 : Y6c49ms 20 S6c50 S6c51 := by intro w a0 a1 a2 a3; kernel_rfl
noncomputable def s151v360 (f : Bool) (P : Params) : Obj := ⟨(.type "set"), none, .set #[ei (nat_lit 917536) (nat_lit 447), ei (nat_lit 917505) (nat_lit 441), ei (nat_lit 917537) (nat_lit 448)] 3 { mask := (nat_lit 7), place := #[(nat_lit 0), (nat_lit 1), (nat_lit 7)], dummies := #[], finger := 0, led := !f, moves := 0, plain := true }, #[]⟩
noncomputable def o152v361 (P : Params) : Obj := ⟨(.type "list_iterator"), none, .fields #[(.ref 150), (.int (.ofNat (nat_lit 3)) (nat_lit 0))], #[]⟩
noncomputable def t6c52 (f : Bool) (P : Params) : BT := TT6 (s151v360 f P) (o152v361 P) f P
noncomputable def S6c52 (f : Bool) (w : World) (os : OsState) : SharedT := ⟨t6c52 f w.params, 153, lf, gs, boot_drawn, 546, os⟩
theorem y6c52 : Y6c49ms 20 S6c51 S6c52 := by intro w a0 a1 a2 a3; kernel_rfl
noncomputable def s151v362 (f : Bool) (P : Params) : Obj := ⟨(.type "set"), none, .set #[ei (nat_lit 917536) (nat_lit 447), ei (nat_lit 917505) (nat_lit 441), ei (nat_lit 917538) (nat_lit 449), ei (nat_lit 917537) (nat_lit 448)] 4 { mask := (nat_lit 7), place := #[(nat_lit 0), (nat_lit 1), (nat_lit 2), (nat_lit 7)], dummies := #[], finger := 0, led := !f, moves := 0, plain := true }, #[]⟩
noncomputable def o152v363 (P : Params) : Obj := ⟨(.type "list_iterator"), none, .fields #[(.ref 150), (.int (.ofNat (nat_lit 4)) (nat_lit 0))], #[]⟩
noncomputable def t6c53 (f : Bool) (P : Params) : BT := TT6 (s151v362 f P) (o152v363 P) f P
noncomputable def S6c53 (f : Bool) (w : World) (os : OsState) : SharedT := ⟨t6c53 f w.params, 153, lf, gs, boot_drawn, 547, os⟩
theorem y6c53 : Y6c49ms 20 S6c52 S6c53 := by intro w a0 a1 a2 a3; kernel_rfl
noncomputable def s151v364 (f : Bool) (P : Params) : Obj := ⟨(.type "set"), none, .set #[ei (nat_lit 917536) (nat_lit 447), ei (nat_lit 917505) (nat_lit 441), ei (nat_lit 917538) (nat_lit 449), ei (nat_lit 917539) (nat_lit 450), ei (nat_lit 917537) (nat_lit 448)] 6 { mask := (nat_lit 31), place := #[(nat_lit 0), (nat_lit 1), (nat_lit 2), (nat_lit 3), (nat_lit 4)], dummies := #[], finger := 0, led := !f, moves := 1, plain := true }, #[]⟩
noncomputable def o152v365 (P : Params) : Obj := ⟨(.type "list_iterator"), none, .fields #[(.ref 150), (.int (.ofNat (nat_lit 5)) (nat_lit 0))], #[]⟩
noncomputable def t6c54 (f : Bool) (P : Params) : BT := TT6 (s151v364 f P) (o152v365 P) f P
noncomputable def S6c54 (f : Bool) (w : World) (os : OsState) : SharedT := ⟨t6c54 f w.params, 153, lf, gs, boot_drawn, 548, os⟩
theorem y6c54 : Y6c49ms 22 S6c53 S6c54 := by intro w a0 a1 a2 a3; kernel_rfl
noncomputable def s151v366 (f : Bool) (P : Params) : Obj := ⟨(.type "set"), none, .set #[ei (nat_lit 917536) (nat_lit 447), ei (nat_lit 917505) (nat_lit 441), ei (nat_lit 917538) (nat_lit 449), ei (nat_lit 917539) (nat_lit 450), ei (nat_lit 917537) (nat_lit 448), ei (nat_lit 917540) (nat_lit 451)] 7 { mask := (nat_lit 31), place := #[(nat_lit 0), (nat_lit 1), (nat_lit 2), (nat_lit 3), (nat_lit 4), (nat_lit 5)], dummies := #[], finger := 0, led := !f, moves := 1, plain := true }, #[]⟩
noncomputable def o152v367 (P : Params) : Obj := ⟨(.type "list_iterator"), none, .fields #[(.ref 150), (.int (.ofNat (nat_lit 6)) (nat_lit 0))], #[]⟩
noncomputable def t6c55 (f : Bool) (P : Params) : BT := TT6 (s151v366 f P) (o152v367 P) f P
noncomputable def S6c55 (f : Bool) (w : World) (os : OsState) : SharedT := ⟨t6c55 f w.params, 153, lf, gs, boot_drawn, 549, os⟩
theorem y6c55 : Y6c49ms 20 S6c54 S6c55 := by intro w a0 a1 a2 a3; kernel_rfl
noncomputable def s151v368 (f : Bool) (P : Params) : Obj := ⟨(.type "set"), none, .set #[ei (nat_lit 917536) (nat_lit 447), ei (nat_lit 917505) (nat_lit 441), ei (nat_lit 917538) (nat_lit 449), ei (nat_lit 917539) (nat_lit 450), ei (nat_lit 917537) (nat_lit 448), ei (nat_lit 917540) (nat_lit 451), ei (nat_lit 917541) (nat_lit 452)] 8 { mask := (nat_lit 31), place := #[(nat_lit 0), (nat_lit 1), (nat_lit 2), (nat_lit 3), (nat_lit 4), (nat_lit 5), (nat_lit 6)], dummies := #[], finger := 0, led := !f, moves := 1, plain := true }, #[]⟩
noncomputable def o152v369 (P : Params) : Obj := ⟨(.type "list_iterator"), none, .fields #[(.ref 150), (.int (.ofNat (nat_lit 7)) (nat_lit 0))], #[]⟩
noncomputable def t6c56 (f : Bool) (P : Params) : BT := TT6 (s151v368 f P) (o152v369 P) f P
noncomputable def S6c56 (f : Bool) (w : World) (os : OsState) : SharedT := ⟨t6c56 f w.params, 153, lf, gs, boot_drawn, 550, os⟩
theorem y6c56 : Y6c49ms 20 S6c55 S6c56 := by intro w a0 a1 a2 a3; kernel_rfl
noncomputable def s151v370 (f : Bool) (P : Params) : Obj := ⟨(.type "set"), none, .set #[ei (nat_lit 917536) (nat_lit 447), ei (nat_lit 917505) (nat_lit 441), ei (nat_lit 917538) (nat_lit 449), ei (nat_lit 917539) (nat_lit 450), ei (nat_lit 917537) (nat_lit 448), ei (nat_lit 917540) (nat_lit 451), ei (nat_lit 917541) (nat_lit 452), ei (nat_lit 917542) (nat_lit 453)] 9 { mask := (nat_lit 31), place := #[(nat_lit 0), (nat_lit 1), (nat_lit 2), (nat_lit 3), (nat_lit 4), (nat_lit 5), (nat_lit 6), (nat_lit 7)], dummies := #[], finger := 0, led := !f, moves := 1, plain := true }, #[]⟩
noncomputable def o152v371 (P : Params) : Obj := ⟨(.type "list_iterator"), none, .fields #[(.ref 150), (.int (.ofNat (nat_lit 8)) (nat_lit 0))], #[]⟩
noncomputable def t6c57 (f : Bool) (P : Params) : BT := TT6 (s151v370 f P) (o152v371 P) f P
noncomputable def S6c57 (f : Bool) (w : World) (os : OsState) : SharedT := ⟨t6c57 f w.params, 153, lf, gs, boot_drawn, 551, os⟩
theorem y6c57 : Y6c49ms 20 S6c56 S6c57 := by intro w a0 a1 a2 a3; kernel_rfl
noncomputable def EB30 : List (Int × Value) := ei (nat_lit 917536) (nat_lit 447) :: ei (nat_lit 917505) (nat_lit 441) :: ei (nat_lit 917538) (nat_lit 449) :: ei (nat_lit 917539) (nat_lit 450) :: ei (nat_lit 917537) (nat_lit 448) :: ei (nat_lit 917540) (nat_lit 451) :: ei (nat_lit 917541) (nat_lit 452) :: ei (nat_lit 917542) (nat_lit 453) :: ei (nat_lit 917543) (nat_lit 454) :: []
noncomputable def EP30 : List Nat := (nat_lit 0) :: (nat_lit 1) :: (nat_lit 2) :: (nat_lit 3) :: (nat_lit 4) :: (nat_lit 5) :: (nat_lit 6) :: (nat_lit 7) :: (nat_lit 8) :: []
noncomputable def s151v372 (f : Bool) (P : Params) : Obj := ⟨(.type "set"), none, .set ⟨EB30 ++ []⟩ 10 { mask := (nat_lit 31), place := ⟨EP30 ++ []⟩, dummies := #[], finger := 0, led := !f, moves := 1, plain := true }, #[]⟩
noncomputable def o152v373 (P : Params) : Obj := ⟨(.type "list_iterator"), none, .fields #[(.ref 150), (.int (.ofNat (nat_lit 9)) (nat_lit 0))], #[]⟩
noncomputable def t6c58 (f : Bool) (P : Params) : BT := TT6 (s151v372 f P) (o152v373 P) f P
noncomputable def S6c58 (f : Bool) (w : World) (os : OsState) : SharedT := ⟨t6c58 f w.params, 153, lf, gs, boot_drawn, 552, os⟩
theorem y6c58 : Y6c49ms 20 S6c57 S6c58 := by intro w a0 a1 a2 a3; kernel_rfl
noncomputable def s151v374 (f : Bool) (P : Params) : Obj := ⟨(.type "set"), none, .set ⟨EB30 ++ [ei (nat_lit 917544) (nat_lit 455)]⟩ 11 { mask := (nat_lit 31), place := ⟨EP30 ++ [(nat_lit 9)]⟩, dummies := #[], finger := 0, led := !f, moves := 1, plain := true }, #[]⟩
noncomputable def o152v375 (P : Params) : Obj := ⟨(.type "list_iterator"), none, .fields #[(.ref 150), (.int (.ofNat (nat_lit 10)) (nat_lit 0))], #[]⟩
noncomputable def t6c59 (f : Bool) (P : Params) : BT := TT6 (s151v374 f P) (o152v375 P) f P
noncomputable def S6c59 (f : Bool) (w : World) (os : OsState) : SharedT := ⟨t6c59 f w.params, 153, lf, gs, boot_drawn, 553, os⟩
theorem y6c59 : Y6c49ms 20 S6c58 S6c59 := by intro w a0 a1 a2 a3; kernel_rfl
noncomputable def s151v376 (f : Bool) (P : Params) : Obj := ⟨(.type "set"), none, .set ⟨EB30 ++ [ei (nat_lit 917544) (nat_lit 455), ei (nat_lit 917545) (nat_lit 456)]⟩ 12 { mask := (nat_lit 31), place := ⟨EP30 ++ [(nat_lit 9), (nat_lit 10)]⟩, dummies := #[], finger := 0, led := !f, moves := 1, plain := true }, #[]⟩
noncomputable def o152v377 (P : Params) : Obj := ⟨(.type "list_iterator"), none, .fields #[(.ref 150), (.int (.ofNat (nat_lit 11)) (nat_lit 0))], #[]⟩
noncomputable def t6c60 (f : Bool) (P : Params) : BT := TT6 (s151v376 f P) (o152v377 P) f P
noncomputable def S6c60 (f : Bool) (w : World) (os : OsState) : SharedT := ⟨t6c60 f w.params, 153, lf, gs, boot_drawn, 554, os⟩
theorem y6c60 : Y6c49ms 20 S6c59 S6c60 := by intro w a0 a1 a2 a3; kernel_rfl
noncomputable def s151v378 (f : Bool) (P : Params) : Obj := ⟨(.type "set"), none, .set ⟨EB30 ++ [ei (nat_lit 917544) (nat_lit 455), ei (nat_lit 917545) (nat_lit 456), ei (nat_lit 917546) (nat_lit 457)]⟩ 13 { mask := (nat_lit 31), place := ⟨EP30 ++ [(nat_lit 9), (nat_lit 10), (nat_lit 11)]⟩, dummies := #[], finger := 0, led := !f, moves := 1, plain := true }, #[]⟩
noncomputable def o152v379 (P : Params) : Obj := ⟨(.type "list_iterator"), none, .fields #[(.ref 150), (.int (.ofNat (nat_lit 12)) (nat_lit 0))], #[]⟩
noncomputable def t6c61 (f : Bool) (P : Params) : BT := TT6 (s151v378 f P) (o152v379 P) f P
noncomputable def S6c61 (f : Bool) (w : World) (os : OsState) : SharedT := ⟨t6c61 f w.params, 153, lf, gs, boot_drawn, 555, os⟩
theorem y6c61 : Y6c49ms 20 S6c60 S6c61 := by intro w a0 a1 a2 a3; kernel_rfl
noncomputable def s151v380 (f : Bool) (P : Params) : Obj := ⟨(.type "set"), none, .set ⟨EB30 ++ [ei (nat_lit 917544) (nat_lit 455), ei (nat_lit 917545) (nat_lit 456), ei (nat_lit 917546) (nat_lit 457), ei (nat_lit 917547) (nat_lit 458)]⟩ 14 { mask := (nat_lit 31), place := ⟨EP30 ++ [(nat_lit 9), (nat_lit 10), (nat_lit 11), (nat_lit 12)]⟩, dummies := #[], finger := 0, led := !f, moves := 1, plain := true }, #[]⟩
noncomputable def o152v381 (P : Params) : Obj := ⟨(.type "list_iterator"), none, .fields #[(.ref 150), (.int (.ofNat (nat_lit 13)) (nat_lit 0))], #[]⟩
noncomputable def t6c62 (f : Bool) (P : Params) : BT := TT6 (s151v380 f P) (o152v381 P) f P
noncomputable def S6c62 (f : Bool) (w : World) (os : OsState) : SharedT := ⟨t6c62 f w.params, 153, lf, gs, boot_drawn, 556, os⟩
theorem y6c62 : Y6c49ms 20 S6c61 S6c62 := by intro w a0 a1 a2 a3; kernel_rfl
noncomputable def s151v382 (f : Bool) (P : Params) : Obj := ⟨(.type "set"), none, .set ⟨EB30 ++ [ei (nat_lit 917544) (nat_lit 455), ei (nat_lit 917545) (nat_lit 456), ei (nat_lit 917546) (nat_lit 457), ei (nat_lit 917547) (nat_lit 458), ei (nat_lit 917548) (nat_lit 459)]⟩ 15 { mask := (nat_lit 31), place := ⟨EP30 ++ [(nat_lit 9), (nat_lit 10), (nat_lit 11), (nat_lit 12), (nat_lit 13)]⟩, dummies := #[], finger := 0, led := !f, moves := 1, plain := true }, #[]⟩
noncomputable def o152v383 (P : Params) : Obj := ⟨(.type "list_iterator"), none, .fields #[(.ref 150), (.int (.ofNat (nat_lit 14)) (nat_lit 0))], #[]⟩
noncomputable def t6c63 (f : Bool) (P : Params) : BT := TT6 (s151v382 f P) (o152v383 P) f P
noncomputable def S6c63 (f : Bool) (w : World) (os : OsState) : SharedT := ⟨t6c63 f w.params, 153, lf, gs, boot_drawn, 557, os⟩
theorem y6c63 : Y6c49ms 20 S6c62 S6c63 := by intro w a0 a1 a2 a3; kernel_rfl
noncomputable def s151v384 (f : Bool) (P : Params) : Obj := ⟨(.type "set"), none, .set ⟨EB30 ++ [ei (nat_lit 917544) (nat_lit 455), ei (nat_lit 917545) (nat_lit 456), ei (nat_lit 917546) (nat_lit 457), ei (nat_lit 917547) (nat_lit 458), ei (nat_lit 917548) (nat_lit 459), ei (nat_lit 917549) (nat_lit 460)]⟩ 16 { mask := (nat_lit 31), place := ⟨EP30 ++ [(nat_lit 9), (nat_lit 10), (nat_lit 11), (nat_lit 12), (nat_lit 13), (nat_lit 14)]⟩, dummies := #[], finger := 0, led := !f, moves := 1, plain := true }, #[]⟩
noncomputable def o152v385 (P : Params) : Obj := ⟨(.type "list_iterator"), none, .fields #[(.ref 150), (.int (.ofNat (nat_lit 15)) (nat_lit 0))], #[]⟩
noncomputable def t6c64 (f : Bool) (P : Params) : BT := TT6 (s151v384 f P) (o152v385 P) f P
noncomputable def S6c64 (f : Bool) (w : World) (os : OsState) : SharedT := ⟨t6c64 f w.params, 153, lf, gs, boot_drawn, 558, os⟩
theorem y6c64 : Y6c49ms 20 S6c63 S6c64 := by intro w a0 a1 a2 a3; kernel_rfl
noncomputable def s151v386 (f : Bool) (P : Params) : Obj := ⟨(.type "set"), none, .set ⟨EB30 ++ [ei (nat_lit 917544) (nat_lit 455), ei (nat_lit 917545) (nat_lit 456), ei (nat_lit 917546) (nat_lit 457), ei (nat_lit 917547) (nat_lit 458), ei (nat_lit 917548) (nat_lit 459), ei (nat_lit 917549) (nat_lit 460), ei (nat_lit 917550) (nat_lit 461)]⟩ 17 { mask := (nat_lit 31), place := ⟨EP30 ++ [(nat_lit 9), (nat_lit 10), (nat_lit 11), (nat_lit 12), (nat_lit 13), (nat_lit 14), (nat_lit 15)]⟩, dummies := #[], finger := 0, led := !f, moves := 1, plain := true }, #[]⟩
noncomputable def o152v387 (P : Params) : Obj := ⟨(.type "list_iterator"), none, .fields #[(.ref 150), (.int (.ofNat (nat_lit 16)) (nat_lit 0))], #[]⟩
noncomputable def t6c65 (f : Bool) (P : Params) : BT := TT6 (s151v386 f P) (o152v387 P) f P
noncomputable def S6c65 (f : Bool) (w : World) (os : OsState) : SharedT := ⟨t6c65 f w.params, 153, lf, gs, boot_drawn, 559, os⟩
theorem y6c65 : Y6c49ms 20 S6c64 S6c65 := by intro w a0 a1 a2 a3; kernel_rfl
noncomputable def s151v388 (f : Bool) (P : Params) : Obj := ⟨(.type "set"), none, .set ⟨EB30 ++ [ei (nat_lit 917544) (nat_lit 455), ei (nat_lit 917545) (nat_lit 456), ei (nat_lit 917546) (nat_lit 457), ei (nat_lit 917547) (nat_lit 458), ei (nat_lit 917548) (nat_lit 459), ei (nat_lit 917549) (nat_lit 460), ei (nat_lit 917550) (nat_lit 461), ei (nat_lit 917551) (nat_lit 462)]⟩ 18 { mask := (nat_lit 31), place := ⟨EP30 ++ [(nat_lit 9), (nat_lit 10), (nat_lit 11), (nat_lit 12), (nat_lit 13), (nat_lit 14), (nat_lit 15), (nat_lit 16)]⟩, dummies := #[], finger := 0, led := !f, moves := 1, plain := true }, #[]⟩
noncomputable def o152v389 (P : Params) : Obj := ⟨(.type "list_iterator"), none, .fields #[(.ref 150), (.int (.ofNat (nat_lit 17)) (nat_lit 0))], #[]⟩
noncomputable def t6c66 (f : Bool) (P : Params) : BT := TT6 (s151v388 f P) (o152v389 P) f P
noncomputable def S6c66 (f : Bool) (w : World) (os : OsState) : SharedT := ⟨t6c66 f w.params, 153, lf, gs, boot_drawn, 560, os⟩
theorem y6c66 : Y6c49ms 20 S6c65 S6c66 := by intro w a0 a1 a2 a3; kernel_rfl
noncomputable def s151v390 (f : Bool) (P : Params) : Obj := ⟨(.type "set"), none, .set ⟨EB30 ++ [ei (nat_lit 917544) (nat_lit 455), ei (nat_lit 917545) (nat_lit 456), ei (nat_lit 917546) (nat_lit 457), ei (nat_lit 917547) (nat_lit 458), ei (nat_lit 917548) (nat_lit 459), ei (nat_lit 917549) (nat_lit 460), ei (nat_lit 917550) (nat_lit 461), ei (nat_lit 917551) (nat_lit 462), ei (nat_lit 917552) (nat_lit 463)]⟩ 19 { mask := (nat_lit 31), place := ⟨EP30 ++ [(nat_lit 9), (nat_lit 10), (nat_lit 11), (nat_lit 12), (nat_lit 13), (nat_lit 14), (nat_lit 15), (nat_lit 16), (nat_lit 17)]⟩, dummies := #[], finger := 0, led := !f, moves := 1, plain := true }, #[]⟩
noncomputable def o152v391 (P : Params) : Obj := ⟨(.type "list_iterator"), none, .fields #[(.ref 150), (.int (.ofNat (nat_lit 18)) (nat_lit 0))], #[]⟩
noncomputable def t6c67 (f : Bool) (P : Params) : BT := TT6 (s151v390 f P) (o152v391 P) f P
noncomputable def S6c67 (f : Bool) (w : World) (os : OsState) : SharedT := ⟨t6c67 f w.params, 153, lf, gs, boot_drawn, 561, os⟩
theorem y6c67 : Y6c49ms 20 S6c66 S6c67 := by intro w a0 a1 a2 a3; kernel_rfl
noncomputable def EB31 : List (Int × Value) := ei (nat_lit 917505) (nat_lit 441) :: ei (nat_lit 917536) (nat_lit 447) :: ei (nat_lit 917537) (nat_lit 448) :: ei (nat_lit 917538) (nat_lit 449) :: ei (nat_lit 917539) (nat_lit 450) :: ei (nat_lit 917540) (nat_lit 451) :: ei (nat_lit 917541) (nat_lit 452) :: ei (nat_lit 917542) (nat_lit 453) :: ei (nat_lit 917543) (nat_lit 454) :: ei (nat_lit 917544) (nat_lit 455) :: ei (nat_lit 917545) (nat_lit 456) :: ei (nat_lit 917546) (nat_lit 457) :: ei (nat_lit 917547) (nat_lit 458) :: ei (nat_lit 917548) (nat_lit 459) :: ei (nat_lit 917549) (nat_lit 460) :: ei (nat_lit 917550) (nat_lit 461) :: ei (nat_lit 917551) (nat_lit 462) :: ei (nat_lit 917552) (nat_lit 463) :: ei (nat_lit 917553) (nat_lit 464) :: []
noncomputable def EP31 : List Nat := (nat_lit 1) :: (nat_lit 32) :: (nat_lit 33) :: (nat_lit 34) :: (nat_lit 35) :: (nat_lit 36) :: (nat_lit 37) :: (nat_lit 38) :: (nat_lit 39) :: (nat_lit 40) :: (nat_lit 41) :: (nat_lit 42) :: (nat_lit 43) :: (nat_lit 44) :: (nat_lit 45) :: (nat_lit 46) :: (nat_lit 47) :: (nat_lit 48) :: (nat_lit 49) :: []
noncomputable def s151v392 (f : Bool) (P : Params) : Obj := ⟨(.type "set"), none, .set ⟨EB31 ++ []⟩ 21 { mask := (nat_lit 127), place := ⟨EP31 ++ []⟩, dummies := #[], finger := 0, led := !f, moves := 2, plain := true }, #[]⟩
noncomputable def o152v393 (P : Params) : Obj := ⟨(.type "list_iterator"), none, .fields #[(.ref 150), (.int (.ofNat (nat_lit 19)) (nat_lit 0))], #[]⟩
noncomputable def t6c68 (f : Bool) (P : Params) : BT := TT6 (s151v392 f P) (o152v393 P) f P
noncomputable def S6c68 (f : Bool) (w : World) (os : OsState) : SharedT := ⟨t6c68 f w.params, 153, lf, gs, boot_drawn, 562, os⟩
theorem y6c68 : Y6c49ms 22 S6c67 S6c68 := by intro w a0 a1 a2 a3; kernel_rfl
noncomputable def s151v394 (f : Bool) (P : Params) : Obj := ⟨(.type "set"), none, .set ⟨EB31 ++ [ei (nat_lit 917554) (nat_lit 465)]⟩ 22 { mask := (nat_lit 127), place := ⟨EP31 ++ [(nat_lit 50)]⟩, dummies := #[], finger := 0, led := !f, moves := 2, plain := true }, #[]⟩
noncomputable def o152v395 (P : Params) : Obj := ⟨(.type "list_iterator"), none, .fields #[(.ref 150), (.int (.ofNat (nat_lit 20)) (nat_lit 0))], #[]⟩
noncomputable def t6c69 (f : Bool) (P : Params) : BT := TT6 (s151v394 f P) (o152v395 P) f P
noncomputable def S6c69 (f : Bool) (w : World) (os : OsState) : SharedT := ⟨t6c69 f w.params, 153, lf, gs, boot_drawn, 563, os⟩
theorem y6c69 : Y6c49ms 20 S6c68 S6c69 := by intro w a0 a1 a2 a3; kernel_rfl
noncomputable def s151v396 (f : Bool) (P : Params) : Obj := ⟨(.type "set"), none, .set ⟨EB31 ++ [ei (nat_lit 917554) (nat_lit 465), ei (nat_lit 917555) (nat_lit 466)]⟩ 23 { mask := (nat_lit 127), place := ⟨EP31 ++ [(nat_lit 50), (nat_lit 51)]⟩, dummies := #[], finger := 0, led := !f, moves := 2, plain := true }, #[]⟩
noncomputable def o152v397 (P : Params) : Obj := ⟨(.type "list_iterator"), none, .fields #[(.ref 150), (.int (.ofNat (nat_lit 21)) (nat_lit 0))], #[]⟩
noncomputable def t6c70 (f : Bool) (P : Params) : BT := TT6 (s151v396 f P) (o152v397 P) f P
noncomputable def S6c70 (f : Bool) (w : World) (os : OsState) : SharedT := ⟨t6c70 f w.params, 153, lf, gs, boot_drawn, 564, os⟩
theorem y6c70 : Y6c49ms 20 S6c69 S6c70 := by intro w a0 a1 a2 a3; kernel_rfl
noncomputable def s151v398 (f : Bool) (P : Params) : Obj := ⟨(.type "set"), none, .set ⟨EB31 ++ [ei (nat_lit 917554) (nat_lit 465), ei (nat_lit 917555) (nat_lit 466), ei (nat_lit 917556) (nat_lit 467)]⟩ 24 { mask := (nat_lit 127), place := ⟨EP31 ++ [(nat_lit 50), (nat_lit 51), (nat_lit 52)]⟩, dummies := #[], finger := 0, led := !f, moves := 2, plain := true }, #[]⟩
noncomputable def o152v399 (P : Params) : Obj := ⟨(.type "list_iterator"), none, .fields #[(.ref 150), (.int (.ofNat (nat_lit 22)) (nat_lit 0))], #[]⟩
noncomputable def t6c71 (f : Bool) (P : Params) : BT := TT6 (s151v398 f P) (o152v399 P) f P
noncomputable def S6c71 (f : Bool) (w : World) (os : OsState) : SharedT := ⟨t6c71 f w.params, 153, lf, gs, boot_drawn, 565, os⟩
theorem y6c71 : Y6c49ms 20 S6c70 S6c71 := by intro w a0 a1 a2 a3; kernel_rfl
noncomputable def s151v400 (f : Bool) (P : Params) : Obj := ⟨(.type "set"), none, .set ⟨EB31 ++ [ei (nat_lit 917554) (nat_lit 465), ei (nat_lit 917555) (nat_lit 466), ei (nat_lit 917556) (nat_lit 467), ei (nat_lit 917557) (nat_lit 468)]⟩ 25 { mask := (nat_lit 127), place := ⟨EP31 ++ [(nat_lit 50), (nat_lit 51), (nat_lit 52), (nat_lit 53)]⟩, dummies := #[], finger := 0, led := !f, moves := 2, plain := true }, #[]⟩
noncomputable def o152v401 (P : Params) : Obj := ⟨(.type "list_iterator"), none, .fields #[(.ref 150), (.int (.ofNat (nat_lit 23)) (nat_lit 0))], #[]⟩
noncomputable def t6c72 (f : Bool) (P : Params) : BT := TT6 (s151v400 f P) (o152v401 P) f P
noncomputable def S6c72 (f : Bool) (w : World) (os : OsState) : SharedT := ⟨t6c72 f w.params, 153, lf, gs, boot_drawn, 566, os⟩
theorem y6c72 : Y6c49ms 20 S6c71 S6c72 := by intro w a0 a1 a2 a3; kernel_rfl
noncomputable def s151v402 (f : Bool) (P : Params) : Obj := ⟨(.type "set"), none, .set ⟨EB31 ++ [ei (nat_lit 917554) (nat_lit 465), ei (nat_lit 917555) (nat_lit 466), ei (nat_lit 917556) (nat_lit 467), ei (nat_lit 917557) (nat_lit 468), ei (nat_lit 917558) (nat_lit 469)]⟩ 26 { mask := (nat_lit 127), place := ⟨EP31 ++ [(nat_lit 50), (nat_lit 51), (nat_lit 52), (nat_lit 53), (nat_lit 54)]⟩, dummies := #[], finger := 0, led := !f, moves := 2, plain := true }, #[]⟩
noncomputable def o152v403 (P : Params) : Obj := ⟨(.type "list_iterator"), none, .fields #[(.ref 150), (.int (.ofNat (nat_lit 24)) (nat_lit 0))], #[]⟩
noncomputable def t6c73 (f : Bool) (P : Params) : BT := TT6 (s151v402 f P) (o152v403 P) f P
noncomputable def S6c73 (f : Bool) (w : World) (os : OsState) : SharedT := ⟨t6c73 f w.params, 153, lf, gs, boot_drawn, 567, os⟩
theorem y6c73 : Y6c49ms 20 S6c72 S6c73 := by intro w a0 a1 a2 a3; kernel_rfl
noncomputable def s151v404 (f : Bool) (P : Params) : Obj := ⟨(.type "set"), none, .set ⟨EB31 ++ [ei (nat_lit 917554) (nat_lit 465), ei (nat_lit 917555) (nat_lit 466), ei (nat_lit 917556) (nat_lit 467), ei (nat_lit 917557) (nat_lit 468), ei (nat_lit 917558) (nat_lit 469), ei (nat_lit 917559) (nat_lit 470)]⟩ 27 { mask := (nat_lit 127), place := ⟨EP31 ++ [(nat_lit 50), (nat_lit 51), (nat_lit 52), (nat_lit 53), (nat_lit 54), (nat_lit 55)]⟩, dummies := #[], finger := 0, led := !f, moves := 2, plain := true }, #[]⟩
noncomputable def o152v405 (P : Params) : Obj := ⟨(.type "list_iterator"), none, .fields #[(.ref 150), (.int (.ofNat (nat_lit 25)) (nat_lit 0))], #[]⟩
noncomputable def t6c74 (f : Bool) (P : Params) : BT := TT6 (s151v404 f P) (o152v405 P) f P
noncomputable def S6c74 (f : Bool) (w : World) (os : OsState) : SharedT := ⟨t6c74 f w.params, 153, lf, gs, boot_drawn, 568, os⟩
theorem y6c74 : Y6c49ms 20 S6c73 S6c74 := by intro w a0 a1 a2 a3; kernel_rfl
noncomputable def s151v406 (f : Bool) (P : Params) : Obj := ⟨(.type "set"), none, .set ⟨EB31 ++ [ei (nat_lit 917554) (nat_lit 465), ei (nat_lit 917555) (nat_lit 466), ei (nat_lit 917556) (nat_lit 467), ei (nat_lit 917557) (nat_lit 468), ei (nat_lit 917558) (nat_lit 469), ei (nat_lit 917559) (nat_lit 470), ei (nat_lit 917560) (nat_lit 471)]⟩ 28 { mask := (nat_lit 127), place := ⟨EP31 ++ [(nat_lit 50), (nat_lit 51), (nat_lit 52), (nat_lit 53), (nat_lit 54), (nat_lit 55), (nat_lit 56)]⟩, dummies := #[], finger := 0, led := !f, moves := 2, plain := true }, #[]⟩
noncomputable def o152v407 (P : Params) : Obj := ⟨(.type "list_iterator"), none, .fields #[(.ref 150), (.int (.ofNat (nat_lit 26)) (nat_lit 0))], #[]⟩
noncomputable def t6c75 (f : Bool) (P : Params) : BT := TT6 (s151v406 f P) (o152v407 P) f P
noncomputable def S6c75 (f : Bool) (w : World) (os : OsState) : SharedT := ⟨t6c75 f w.params, 153, lf, gs, boot_drawn, 569, os⟩
theorem y6c75 : Y6c49ms 20 S6c74 S6c75 := by intro w a0 a1 a2 a3; kernel_rfl
noncomputable def s151v408 (f : Bool) (P : Params) : Obj := ⟨(.type "set"), none, .set ⟨EB31 ++ [ei (nat_lit 917554) (nat_lit 465), ei (nat_lit 917555) (nat_lit 466), ei (nat_lit 917556) (nat_lit 467), ei (nat_lit 917557) (nat_lit 468), ei (nat_lit 917558) (nat_lit 469), ei (nat_lit 917559) (nat_lit 470), ei (nat_lit 917560) (nat_lit 471), ei (nat_lit 917561) (nat_lit 472)]⟩ 29 { mask := (nat_lit 127), place := ⟨EP31 ++ [(nat_lit 50), (nat_lit 51), (nat_lit 52), (nat_lit 53), (nat_lit 54), (nat_lit 55), (nat_lit 56), (nat_lit 57)]⟩, dummies := #[], finger := 0, led := !f, moves := 2, plain := true }, #[]⟩
noncomputable def o152v409 (P : Params) : Obj := ⟨(.type "list_iterator"), none, .fields #[(.ref 150), (.int (.ofNat (nat_lit 27)) (nat_lit 0))], #[]⟩
noncomputable def t6c76 (f : Bool) (P : Params) : BT := TT6 (s151v408 f P) (o152v409 P) f P
noncomputable def S6c76 (f : Bool) (w : World) (os : OsState) : SharedT := ⟨t6c76 f w.params, 153, lf, gs, boot_drawn, 570, os⟩
theorem y6c76 : Y6c49ms 20 S6c75 S6c76 := by intro w a0 a1 a2 a3; kernel_rfl
noncomputable def s151v410 (f : Bool) (P : Params) : Obj := ⟨(.type "set"), none, .set ⟨EB31 ++ [ei (nat_lit 917554) (nat_lit 465), ei (nat_lit 917555) (nat_lit 466), ei (nat_lit 917556) (nat_lit 467), ei (nat_lit 917557) (nat_lit 468), ei (nat_lit 917558) (nat_lit 469), ei (nat_lit 917559) (nat_lit 470), ei (nat_lit 917560) (nat_lit 471), ei (nat_lit 917561) (nat_lit 472), ei (nat_lit 917562) (nat_lit 473)]⟩ 30 { mask := (nat_lit 127), place := ⟨EP31 ++ [(nat_lit 50), (nat_lit 51), (nat_lit 52), (nat_lit 53), (nat_lit 54), (nat_lit 55), (nat_lit 56), (nat_lit 57), (nat_lit 58)]⟩, dummies := #[], finger := 0, led := !f, moves := 2, plain := true }, #[]⟩
noncomputable def o152v411 (P : Params) : Obj := ⟨(.type "list_iterator"), none, .fields #[(.ref 150), (.int (.ofNat (nat_lit 28)) (nat_lit 0))], #[]⟩
noncomputable def t6c77 (f : Bool) (P : Params) : BT := TT6 (s151v410 f P) (o152v411 P) f P
noncomputable def S6c77 (f : Bool) (w : World) (os : OsState) : SharedT := ⟨t6c77 f w.params, 153, lf, gs, boot_drawn, 571, os⟩
theorem y6c77 : Y6c49ms 20 S6c76 S6c77 := by intro w a0 a1 a2 a3; kernel_rfl
noncomputable def s151v412 (f : Bool) (P : Params) : Obj := ⟨(.type "set"), none, .set ⟨EB31 ++ [ei (nat_lit 917554) (nat_lit 465), ei (nat_lit 917555) (nat_lit 466), ei (nat_lit 917556) (nat_lit 467), ei (nat_lit 917557) (nat_lit 468), ei (nat_lit 917558) (nat_lit 469), ei (nat_lit 917559) (nat_lit 470), ei (nat_lit 917560) (nat_lit 471), ei (nat_lit 917561) (nat_lit 472), ei (nat_lit 917562) (nat_lit 473), ei (nat_lit 917563) (nat_lit 474)]⟩ 31 { mask := (nat_lit 127), place := ⟨EP31 ++ [(nat_lit 50), (nat_lit 51), (nat_lit 52), (nat_lit 53), (nat_lit 54), (nat_lit 55), (nat_lit 56), (nat_lit 57), (nat_lit 58), (nat_lit 59)]⟩, dummies := #[], finger := 0, led := !f, moves := 2, plain := true }, #[]⟩
noncomputable def o152v413 (P : Params) : Obj := ⟨(.type "list_iterator"), none, .fields #[(.ref 150), (.int (.ofNat (nat_lit 29)) (nat_lit 0))], #[]⟩
noncomputable def t6c78 (f : Bool) (P : Params) : BT := TT6 (s151v412 f P) (o152v413 P) f P
noncomputable def S6c78 (f : Bool) (w : World) (os : OsState) : SharedT := ⟨t6c78 f w.params, 153, lf, gs, boot_drawn, 572, os⟩
theorem y6c78 : Y6c49ms 20 S6c77 S6c78 := by intro w a0 a1 a2 a3; kernel_rfl
noncomputable def s151v414 (f : Bool) (P : Params) : Obj := ⟨(.type "set"), none, .set ⟨EB31 ++ [ei (nat_lit 917554) (nat_lit 465), ei (nat_lit 917555) (nat_lit 466), ei (nat_lit 917556) (nat_lit 467), ei (nat_lit 917557) (nat_lit 468), ei (nat_lit 917558) (nat_lit 469), ei (nat_lit 917559) (nat_lit 470), ei (nat_lit 917560) (nat_lit 471), ei (nat_lit 917561) (nat_lit 472), ei (nat_lit 917562) (nat_lit 473), ei (nat_lit 917563) (nat_lit 474), ei (nat_lit 917564) (nat_lit 475)]⟩ 32 { mask := (nat_lit 127), place := ⟨EP31 ++ [(nat_lit 50), (nat_lit 51), (nat_lit 52), (nat_lit 53), (nat_lit 54), (nat_lit 55), (nat_lit 56), (nat_lit 57), (nat_lit 58), (nat_lit 59), (nat_lit 60)]⟩, dummies := #[], finger := 0, led := !f, moves := 2, plain := true }, #[]⟩
noncomputable def o152v415 (P : Params) : Obj := ⟨(.type "list_iterator"), none, .fields #[(.ref 150), (.int (.ofNat (nat_lit 30)) (nat_lit 0))], #[]⟩
noncomputable def t6c79 (f : Bool) (P : Params) : BT := TT6 (s151v414 f P) (o152v415 P) f P
noncomputable def S6c79 (f : Bool) (w : World) (os : OsState) : SharedT := ⟨t6c79 f w.params, 153, lf, gs, boot_drawn, 573, os⟩
theorem y6c79 : Y6c49ms 20 S6c78 S6c79 := by intro w a0 a1 a2 a3; kernel_rfl
noncomputable def s151v416 (f : Bool) (P : Params) : Obj := ⟨(.type "set"), none, .set ⟨EB31 ++ [ei (nat_lit 917554) (nat_lit 465), ei (nat_lit 917555) (nat_lit 466), ei (nat_lit 917556) (nat_lit 467), ei (nat_lit 917557) (nat_lit 468), ei (nat_lit 917558) (nat_lit 469), ei (nat_lit 917559) (nat_lit 470), ei (nat_lit 917560) (nat_lit 471), ei (nat_lit 917561) (nat_lit 472), ei (nat_lit 917562) (nat_lit 473), ei (nat_lit 917563) (nat_lit 474), ei (nat_lit 917564) (nat_lit 475), ei (nat_lit 917565) (nat_lit 476)]⟩ 33 { mask := (nat_lit 127), place := ⟨EP31 ++ [(nat_lit 50), (nat_lit 51), (nat_lit 52), (nat_lit 53), (nat_lit 54), (nat_lit 55), (nat_lit 56), (nat_lit 57), (nat_lit 58), (nat_lit 59), (nat_lit 60), (nat_lit 61)]⟩, dummies := #[], finger := 0, led := !f, moves := 2, plain := true }, #[]⟩
noncomputable def o152v417 (P : Params) : Obj := ⟨(.type "list_iterator"), none, .fields #[(.ref 150), (.int (.ofNat (nat_lit 31)) (nat_lit 0))], #[]⟩
noncomputable def t6c80 (f : Bool) (P : Params) : BT := TT6 (s151v416 f P) (o152v417 P) f P
noncomputable def S6c80 (f : Bool) (w : World) (os : OsState) : SharedT := ⟨t6c80 f w.params, 153, lf, gs, boot_drawn, 574, os⟩
theorem y6c80 : Y6c49ms 20 S6c79 S6c80 := by intro w a0 a1 a2 a3; kernel_rfl
noncomputable def EB32 : List (Int × Value) := ei (nat_lit 917505) (nat_lit 441) :: ei (nat_lit 917536) (nat_lit 447) :: ei (nat_lit 917537) (nat_lit 448) :: ei (nat_lit 917538) (nat_lit 449) :: ei (nat_lit 917539) (nat_lit 450) :: ei (nat_lit 917540) (nat_lit 451) :: ei (nat_lit 917541) (nat_lit 452) :: ei (nat_lit 917542) (nat_lit 453) :: ei (nat_lit 917543) (nat_lit 454) :: ei (nat_lit 917544) (nat_lit 455) :: ei (nat_lit 917545) (nat_lit 456) :: ei (nat_lit 917546) (nat_lit 457) :: ei (nat_lit 917547) (nat_lit 458) :: ei (nat_lit 917548) (nat_lit 459) :: ei (nat_lit 917549) (nat_lit 460) :: ei (nat_lit 917550) (nat_lit 461) :: ei (nat_lit 917551) (nat_lit 462) :: ei (nat_lit 917552) (nat_lit 463) :: ei (nat_lit 917553) (nat_lit 464) :: ei (nat_lit 917554) (nat_lit 465) :: ei (nat_lit 917555) (nat_lit 466) :: ei (nat_lit 917556) (nat_lit 467) :: ei (nat_lit 917557) (nat_lit 468) :: ei (nat_lit 917558) (nat_lit 469) :: ei (nat_lit 917559) (nat_lit 470) :: ei (nat_lit 917560) (nat_lit 471) :: ei (nat_lit 917561) (nat_lit 472) :: ei (nat_lit 917562) (nat_lit 473) :: ei (nat_lit 917563) (nat_lit 474) :: ei (nat_lit 917564) (nat_lit 475) :: ei (nat_lit 917565) (nat_lit 476) :: ei (nat_lit 917566) (nat_lit 477) :: []
noncomputable def EP32 : List Nat := (nat_lit 1) :: (nat_lit 32) :: (nat_lit 33) :: (nat_lit 34) :: (nat_lit 35) :: (nat_lit 36) :: (nat_lit 37) :: (nat_lit 38) :: (nat_lit 39) :: (nat_lit 40) :: (nat_lit 41) :: (nat_lit 42) :: (nat_lit 43) :: (nat_lit 44) :: (nat_lit 45) :: (nat_lit 46) :: (nat_lit 47) :: (nat_lit 48) :: (nat_lit 49) :: (nat_lit 50) :: (nat_lit 51) :: (nat_lit 52) :: (nat_lit 53) :: (nat_lit 54) :: (nat_lit 55) :: (nat_lit 56) :: (nat_lit 57) :: (nat_lit 58) :: (nat_lit 59) :: (nat_lit 60) :: (nat_lit 61) :: (nat_lit 62) :: []
noncomputable def s151v418 (f : Bool) (P : Params) : Obj := ⟨(.type "set"), none, .set ⟨EB32 ++ []⟩ 34 { mask := (nat_lit 127), place := ⟨EP32 ++ []⟩, dummies := #[], finger := 0, led := !f, moves := 2, plain := true }, #[]⟩
noncomputable def o152v419 (P : Params) : Obj := ⟨(.type "list_iterator"), none, .fields #[(.ref 150), (.int (.ofNat (nat_lit 32)) (nat_lit 0))], #[]⟩
noncomputable def t6c81 (f : Bool) (P : Params) : BT := TT6 (s151v418 f P) (o152v419 P) f P
noncomputable def S6c81 (f : Bool) (w : World) (os : OsState) : SharedT := ⟨t6c81 f w.params, 153, lf, gs, boot_drawn, 575, os⟩
theorem y6c81 : Y6c49ms 20 S6c80 S6c81 := by intro w a0 a1 a2 a3; kernel_rfl
noncomputable def s151v420 (f : Bool) (P : Params) : Obj := ⟨(.type "set"), none, .set ⟨EB32 ++ [ei (nat_lit 917567) (nat_lit 478)]⟩ 35 { mask := (nat_lit 127), place := ⟨EP32 ++ [(nat_lit 63)]⟩, dummies := #[], finger := 0, led := !f, moves := 2, plain := true }, #[]⟩
noncomputable def o152v421 (P : Params) : Obj := ⟨(.type "list_iterator"), none, .fields #[(.ref 150), (.int (.ofNat (nat_lit 33)) (nat_lit 0))], #[]⟩
noncomputable def t6c82 (f : Bool) (P : Params) : BT := TT6 (s151v420 f P) (o152v421 P) f P
noncomputable def S6c82 (f : Bool) (w : World) (os : OsState) : SharedT := ⟨t6c82 f w.params, 153, lf, gs, boot_drawn, 576, os⟩
theorem y6c82 : Y6c49ms 20 S6c81 S6c82 := by intro w a0 a1 a2 a3; kernel_rfl
noncomputable def s151v422 (f : Bool) (P : Params) : Obj := ⟨(.type "set"), none, .set ⟨EB32 ++ [ei (nat_lit 917567) (nat_lit 478), ei (nat_lit 917568) (nat_lit 479)]⟩ 36 { mask := (nat_lit 127), place := ⟨EP32 ++ [(nat_lit 63), (nat_lit 64)]⟩, dummies := #[], finger := 0, led := !f, moves := 2, plain := true }, #[]⟩
noncomputable def o152v423 (P : Params) : Obj := ⟨(.type "list_iterator"), none, .fields #[(.ref 150), (.int (.ofNat (nat_lit 34)) (nat_lit 0))], #[]⟩
noncomputable def t6c83 (f : Bool) (P : Params) : BT := TT6 (s151v422 f P) (o152v423 P) f P
noncomputable def S6c83 (f : Bool) (w : World) (os : OsState) : SharedT := ⟨t6c83 f w.params, 153, lf, gs, boot_drawn, 577, os⟩
theorem y6c83 : Y6c49ms 20 S6c82 S6c83 := by intro w a0 a1 a2 a3; kernel_rfl
noncomputable def s151v424 (f : Bool) (P : Params) : Obj := ⟨(.type "set"), none, .set ⟨EB32 ++ [ei (nat_lit 917567) (nat_lit 478), ei (nat_lit 917568) (nat_lit 479), ei (nat_lit 917569) (nat_lit 480)]⟩ 37 { mask := (nat_lit 127), place := ⟨EP32 ++ [(nat_lit 63), (nat_lit 64), (nat_lit 65)]⟩, dummies := #[], finger := 0, led := !f, moves := 2, plain := true }, #[]⟩
noncomputable def o152v425 (P : Params) : Obj := ⟨(.type "list_iterator"), none, .fields #[(.ref 150), (.int (.ofNat (nat_lit 35)) (nat_lit 0))], #[]⟩
noncomputable def t6c84 (f : Bool) (P : Params) : BT := TT6 (s151v424 f P) (o152v425 P) f P
noncomputable def S6c84 (f : Bool) (w : World) (os : OsState) : SharedT := ⟨t6c84 f w.params, 153, lf, gs, boot_drawn, 578, os⟩
theorem y6c84 : Y6c49ms 20 S6c83 S6c84 := by intro w a0 a1 a2 a3; kernel_rfl
noncomputable def s151v426 (f : Bool) (P : Params) : Obj := ⟨(.type "set"), none, .set ⟨EB32 ++ [ei (nat_lit 917567) (nat_lit 478), ei (nat_lit 917568) (nat_lit 479), ei (nat_lit 917569) (nat_lit 480), ei (nat_lit 917570) (nat_lit 481)]⟩ 38 { mask := (nat_lit 127), place := ⟨EP32 ++ [(nat_lit 63), (nat_lit 64), (nat_lit 65), (nat_lit 66)]⟩, dummies := #[], finger := 0, led := !f, moves := 2, plain := true }, #[]⟩
noncomputable def o152v427 (P : Params) : Obj := ⟨(.type "list_iterator"), none, .fields #[(.ref 150), (.int (.ofNat (nat_lit 36)) (nat_lit 0))], #[]⟩
noncomputable def t6c85 (f : Bool) (P : Params) : BT := TT6 (s151v426 f P) (o152v427 P) f P
noncomputable def S6c85 (f : Bool) (w : World) (os : OsState) : SharedT := ⟨t6c85 f w.params, 153, lf, gs, boot_drawn, 579, os⟩
theorem y6c85 : Y6c49ms 20 S6c84 S6c85 := by intro w a0 a1 a2 a3; kernel_rfl
noncomputable def s151v428 (f : Bool) (P : Params) : Obj := ⟨(.type "set"), none, .set ⟨EB32 ++ [ei (nat_lit 917567) (nat_lit 478), ei (nat_lit 917568) (nat_lit 479), ei (nat_lit 917569) (nat_lit 480), ei (nat_lit 917570) (nat_lit 481), ei (nat_lit 917571) (nat_lit 482)]⟩ 39 { mask := (nat_lit 127), place := ⟨EP32 ++ [(nat_lit 63), (nat_lit 64), (nat_lit 65), (nat_lit 66), (nat_lit 67)]⟩, dummies := #[], finger := 0, led := !f, moves := 2, plain := true }, #[]⟩
noncomputable def o152v429 (P : Params) : Obj := ⟨(.type "list_iterator"), none, .fields #[(.ref 150), (.int (.ofNat (nat_lit 37)) (nat_lit 0))], #[]⟩
noncomputable def t6c86 (f : Bool) (P : Params) : BT := TT6 (s151v428 f P) (o152v429 P) f P
noncomputable def S6c86 (f : Bool) (w : World) (os : OsState) : SharedT := ⟨t6c86 f w.params, 153, lf, gs, boot_drawn, 580, os⟩
theorem y6c86 : Y6c49ms 20 S6c85 S6c86 := by intro w a0 a1 a2 a3; kernel_rfl
noncomputable def s151v430 (f : Bool) (P : Params) : Obj := ⟨(.type "set"), none, .set ⟨EB32 ++ [ei (nat_lit 917567) (nat_lit 478), ei (nat_lit 917568) (nat_lit 479), ei (nat_lit 917569) (nat_lit 480), ei (nat_lit 917570) (nat_lit 481), ei (nat_lit 917571) (nat_lit 482), ei (nat_lit 917572) (nat_lit 483)]⟩ 40 { mask := (nat_lit 127), place := ⟨EP32 ++ [(nat_lit 63), (nat_lit 64), (nat_lit 65), (nat_lit 66), (nat_lit 67), (nat_lit 68)]⟩, dummies := #[], finger := 0, led := !f, moves := 2, plain := true }, #[]⟩
noncomputable def o152v431 (P : Params) : Obj := ⟨(.type "list_iterator"), none, .fields #[(.ref 150), (.int (.ofNat (nat_lit 38)) (nat_lit 0))], #[]⟩
noncomputable def t6c87 (f : Bool) (P : Params) : BT := TT6 (s151v430 f P) (o152v431 P) f P
noncomputable def S6c87 (f : Bool) (w : World) (os : OsState) : SharedT := ⟨t6c87 f w.params, 153, lf, gs, boot_drawn, 581, os⟩
theorem y6c87 : Y6c49ms 20 S6c86 S6c87 := by intro w a0 a1 a2 a3; kernel_rfl
noncomputable def s151v432 (f : Bool) (P : Params) : Obj := ⟨(.type "set"), none, .set ⟨EB32 ++ [ei (nat_lit 917567) (nat_lit 478), ei (nat_lit 917568) (nat_lit 479), ei (nat_lit 917569) (nat_lit 480), ei (nat_lit 917570) (nat_lit 481), ei (nat_lit 917571) (nat_lit 482), ei (nat_lit 917572) (nat_lit 483), ei (nat_lit 917573) (nat_lit 484)]⟩ 41 { mask := (nat_lit 127), place := ⟨EP32 ++ [(nat_lit 63), (nat_lit 64), (nat_lit 65), (nat_lit 66), (nat_lit 67), (nat_lit 68), (nat_lit 69)]⟩, dummies := #[], finger := 0, led := !f, moves := 2, plain := true }, #[]⟩
noncomputable def o152v433 (P : Params) : Obj := ⟨(.type "list_iterator"), none, .fields #[(.ref 150), (.int (.ofNat (nat_lit 39)) (nat_lit 0))], #[]⟩
noncomputable def t6c88 (f : Bool) (P : Params) : BT := TT6 (s151v432 f P) (o152v433 P) f P
noncomputable def S6c88 (f : Bool) (w : World) (os : OsState) : SharedT := ⟨t6c88 f w.params, 153, lf, gs, boot_drawn, 582, os⟩
theorem y6c88 : Y6c49ms 20 S6c87 S6c88 := by intro w a0 a1 a2 a3; kernel_rfl
noncomputable def s151v434 (f : Bool) (P : Params) : Obj := ⟨(.type "set"), none, .set ⟨EB32 ++ [ei (nat_lit 917567) (nat_lit 478), ei (nat_lit 917568) (nat_lit 479), ei (nat_lit 917569) (nat_lit 480), ei (nat_lit 917570) (nat_lit 481), ei (nat_lit 917571) (nat_lit 482), ei (nat_lit 917572) (nat_lit 483), ei (nat_lit 917573) (nat_lit 484), ei (nat_lit 917574) (nat_lit 485)]⟩ 42 { mask := (nat_lit 127), place := ⟨EP32 ++ [(nat_lit 63), (nat_lit 64), (nat_lit 65), (nat_lit 66), (nat_lit 67), (nat_lit 68), (nat_lit 69), (nat_lit 70)]⟩, dummies := #[], finger := 0, led := !f, moves := 2, plain := true }, #[]⟩
noncomputable def o152v435 (P : Params) : Obj := ⟨(.type "list_iterator"), none, .fields #[(.ref 150), (.int (.ofNat (nat_lit 40)) (nat_lit 0))], #[]⟩
noncomputable def t6c89 (f : Bool) (P : Params) : BT := TT6 (s151v434 f P) (o152v435 P) f P
noncomputable def S6c89 (f : Bool) (w : World) (os : OsState) : SharedT := ⟨t6c89 f w.params, 153, lf, gs, boot_drawn, 583, os⟩
theorem y6c89 : Y6c49ms 20 S6c88 S6c89 := by intro w a0 a1 a2 a3; kernel_rfl
noncomputable def s151v436 (f : Bool) (P : Params) : Obj := ⟨(.type "set"), none, .set ⟨EB32 ++ [ei (nat_lit 917567) (nat_lit 478), ei (nat_lit 917568) (nat_lit 479), ei (nat_lit 917569) (nat_lit 480), ei (nat_lit 917570) (nat_lit 481), ei (nat_lit 917571) (nat_lit 482), ei (nat_lit 917572) (nat_lit 483), ei (nat_lit 917573) (nat_lit 484), ei (nat_lit 917574) (nat_lit 485), ei (nat_lit 917575) (nat_lit 486)]⟩ 43 { mask := (nat_lit 127), place := ⟨EP32 ++ [(nat_lit 63), (nat_lit 64), (nat_lit 65), (nat_lit 66), (nat_lit 67), (nat_lit 68), (nat_lit 69), (nat_lit 70), (nat_lit 71)]⟩, dummies := #[], finger := 0, led := !f, moves := 2, plain := true }, #[]⟩
noncomputable def o152v437 (P : Params) : Obj := ⟨(.type "list_iterator"), none, .fields #[(.ref 150), (.int (.ofNat (nat_lit 41)) (nat_lit 0))], #[]⟩
noncomputable def t6c90 (f : Bool) (P : Params) : BT := TT6 (s151v436 f P) (o152v437 P) f P
noncomputable def S6c90 (f : Bool) (w : World) (os : OsState) : SharedT := ⟨t6c90 f w.params, 153, lf, gs, boot_drawn, 584, os⟩
theorem y6c90 : Y6c49ms 20 S6c89 S6c90 := by intro w a0 a1 a2 a3; kernel_rfl
noncomputable def s151v438 (f : Bool) (P : Params) : Obj := ⟨(.type "set"), none, .set ⟨EB32 ++ [ei (nat_lit 917567) (nat_lit 478), ei (nat_lit 917568) (nat_lit 479), ei (nat_lit 917569) (nat_lit 480), ei (nat_lit 917570) (nat_lit 481), ei (nat_lit 917571) (nat_lit 482), ei (nat_lit 917572) (nat_lit 483), ei (nat_lit 917573) (nat_lit 484), ei (nat_lit 917574) (nat_lit 485), ei (nat_lit 917575) (nat_lit 486), ei (nat_lit 917576) (nat_lit 487)]⟩ 44 { mask := (nat_lit 127), place := ⟨EP32 ++ [(nat_lit 63), (nat_lit 64), (nat_lit 65), (nat_lit 66), (nat_lit 67), (nat_lit 68), (nat_lit 69), (nat_lit 70), (nat_lit 71), (nat_lit 72)]⟩, dummies := #[], finger := 0, led := !f, moves := 2, plain := true }, #[]⟩
noncomputable def o152v439 (P : Params) : Obj := ⟨(.type "list_iterator"), none, .fields #[(.ref 150), (.int (.ofNat (nat_lit 42)) (nat_lit 0))], #[]⟩
noncomputable def t6c91 (f : Bool) (P : Params) : BT := TT6 (s151v438 f P) (o152v439 P) f P
noncomputable def S6c91 (f : Bool) (w : World) (os : OsState) : SharedT := ⟨t6c91 f w.params, 153, lf, gs, boot_drawn, 585, os⟩
theorem y6c91 : Y6c49ms 20 S6c90 S6c91 := by intro w a0 a1 a2 a3; kernel_rfl
noncomputable def s151v440 (f : Bool) (P : Params) : Obj := ⟨(.type "set"), none, .set ⟨EB32 ++ [ei (nat_lit 917567) (nat_lit 478), ei (nat_lit 917568) (nat_lit 479), ei (nat_lit 917569) (nat_lit 480), ei (nat_lit 917570) (nat_lit 481), ei (nat_lit 917571) (nat_lit 482), ei (nat_lit 917572) (nat_lit 483), ei (nat_lit 917573) (nat_lit 484), ei (nat_lit 917574) (nat_lit 485), ei (nat_lit 917575) (nat_lit 486), ei (nat_lit 917576) (nat_lit 487), ei (nat_lit 917577) (nat_lit 488)]⟩ 45 { mask := (nat_lit 127), place := ⟨EP32 ++ [(nat_lit 63), (nat_lit 64), (nat_lit 65), (nat_lit 66), (nat_lit 67), (nat_lit 68), (nat_lit 69), (nat_lit 70), (nat_lit 71), (nat_lit 72), (nat_lit 73)]⟩, dummies := #[], finger := 0, led := !f, moves := 2, plain := true }, #[]⟩
noncomputable def o152v441 (P : Params) : Obj := ⟨(.type "list_iterator"), none, .fields #[(.ref 150), (.int (.ofNat (nat_lit 43)) (nat_lit 0))], #[]⟩
noncomputable def t6c92 (f : Bool) (P : Params) : BT := TT6 (s151v440 f P) (o152v441 P) f P
noncomputable def S6c92 (f : Bool) (w : World) (os : OsState) : SharedT := ⟨t6c92 f w.params, 153, lf, gs, boot_drawn, 586, os⟩
theorem y6c92 : Y6c49ms 20 S6c91 S6c92 := by intro w a0 a1 a2 a3; kernel_rfl
noncomputable def s151v442 (f : Bool) (P : Params) : Obj := ⟨(.type "set"), none, .set ⟨EB32 ++ [ei (nat_lit 917567) (nat_lit 478), ei (nat_lit 917568) (nat_lit 479), ei (nat_lit 917569) (nat_lit 480), ei (nat_lit 917570) (nat_lit 481), ei (nat_lit 917571) (nat_lit 482), ei (nat_lit 917572) (nat_lit 483), ei (nat_lit 917573) (nat_lit 484), ei (nat_lit 917574) (nat_lit 485), ei (nat_lit 917575) (nat_lit 486), ei (nat_lit 917576) (nat_lit 487), ei (nat_lit 917577) (nat_lit 488), ei (nat_lit 917578) (nat_lit 489)]⟩ 46 { mask := (nat_lit 127), place := ⟨EP32 ++ [(nat_lit 63), (nat_lit 64), (nat_lit 65), (nat_lit 66), (nat_lit 67), (nat_lit 68), (nat_lit 69), (nat_lit 70), (nat_lit 71), (nat_lit 72), (nat_lit 73), (nat_lit 74)]⟩, dummies := #[], finger := 0, led := !f, moves := 2, plain := true }, #[]⟩
noncomputable def o152v443 (P : Params) : Obj := ⟨(.type "list_iterator"), none, .fields #[(.ref 150), (.int (.ofNat (nat_lit 44)) (nat_lit 0))], #[]⟩
noncomputable def t6c93 (f : Bool) (P : Params) : BT := TT6 (s151v442 f P) (o152v443 P) f P
noncomputable def S6c93 (f : Bool) (w : World) (os : OsState) : SharedT := ⟨t6c93 f w.params, 153, lf, gs, boot_drawn, 587, os⟩
theorem y6c93 : Y6c49ms 20 S6c92 S6c93 := by intro w a0 a1 a2 a3; kernel_rfl
noncomputable def EB33 : List (Int × Value) := ei (nat_lit 917505) (nat_lit 441) :: ei (nat_lit 917536) (nat_lit 447) :: ei (nat_lit 917537) (nat_lit 448) :: ei (nat_lit 917538) (nat_lit 449) :: ei (nat_lit 917539) (nat_lit 450) :: ei (nat_lit 917540) (nat_lit 451) :: ei (nat_lit 917541) (nat_lit 452) :: ei (nat_lit 917542) (nat_lit 453) :: ei (nat_lit 917543) (nat_lit 454) :: ei (nat_lit 917544) (nat_lit 455) :: ei (nat_lit 917545) (nat_lit 456) :: ei (nat_lit 917546) (nat_lit 457) :: ei (nat_lit 917547) (nat_lit 458) :: ei (nat_lit 917548) (nat_lit 459) :: ei (nat_lit 917549) (nat_lit 460) :: ei (nat_lit 917550) (nat_lit 461) :: ei (nat_lit 917551) (nat_lit 462) :: ei (nat_lit 917552) (nat_lit 463) :: ei (nat_lit 917553) (nat_lit 464) :: ei (nat_lit 917554) (nat_lit 465) :: ei (nat_lit 917555) (nat_lit 466) :: ei (nat_lit 917556) (nat_lit 467) :: ei (nat_lit 917557) (nat_lit 468) :: ei (nat_lit 917558) (nat_lit 469) :: ei (nat_lit 917559) (nat_lit 470) :: ei (nat_lit 917560) (nat_lit 471) :: ei (nat_lit 917561) (nat_lit 472) :: ei (nat_lit 917562) (nat_lit 473) :: ei (nat_lit 917563) (nat_lit 474) :: ei (nat_lit 917564) (nat_lit 475) :: ei (nat_lit 917565) (nat_lit 476) :: ei (nat_lit 917566) (nat_lit 477) :: ei (nat_lit 917567) (nat_lit 478) :: ei (nat_lit 917568) (nat_lit 479) :: ei (nat_lit 917569) (nat_lit 480) :: ei (nat_lit 917570) (nat_lit 481) :: ei (nat_lit 917571) (nat_lit 482) :: ei (nat_lit 917572) (nat_lit 483) :: ei (nat_lit 917573) (nat_lit 484) :: ei (nat_lit 917574) (nat_lit 485) :: ei (nat_lit 917575) (nat_lit 486) :: ei (nat_lit 917576) (nat_lit 487) :: ei (nat_lit 917577) (nat_lit 488) :: ei (nat_lit 917578) (nat_lit 489) :: ei (nat_lit 917579) (nat_lit 490) :: []
noncomputable def EP33 : List Nat := (nat_lit 1) :: (nat_lit 32) :: (nat_lit 33) :: (nat_lit 34) :: (nat_lit 35) :: (nat_lit 36) :: (nat_lit 37) :: (nat_lit 38) :: (nat_lit 39) :: (nat_lit 40) :: (nat_lit 41) :: (nat_lit 42) :: (nat_lit 43) :: (nat_lit 44) :: (nat_lit 45) :: (nat_lit 46) :: (nat_lit 47) :: (nat_lit 48) :: (nat_lit 49) :: (nat_lit 50) :: (nat_lit 51) :: (nat_lit 52) :: (nat_lit 53) :: (nat_lit 54) :: (nat_lit 55) :: (nat_lit 56) :: (nat_lit 57) :: (nat_lit 58) :: (nat_lit 59) :: (nat_lit 60) :: (nat_lit 61) :: (nat_lit 62) :: (nat_lit 63) :: (nat_lit 64) :: (nat_lit 65) :: (nat_lit 66) :: (nat_lit 67) :: (nat_lit 68) :: (nat_lit 69) :: (nat_lit 70) :: (nat_lit 71) :: (nat_lit 72) :: (nat_lit 73) :: (nat_lit 74) :: (nat_lit 75) :: []
noncomputable def s151v444 (f : Bool) (P : Params) : Obj := ⟨(.type "set"), none, .set ⟨EB33 ++ []⟩ 47 { mask := (nat_lit 127), place := ⟨EP33 ++ []⟩, dummies := #[], finger := 0, led := !f, moves := 2, plain := true }, #[]⟩
noncomputable def o152v445 (P : Params) : Obj := ⟨(.type "list_iterator"), none, .fields #[(.ref 150), (.int (.ofNat (nat_lit 45)) (nat_lit 0))], #[]⟩
noncomputable def t6c94 (f : Bool) (P : Params) : BT := TT6 (s151v444 f P) (o152v445 P) f P
noncomputable def S6c94 (f : Bool) (w : World) (os : OsState) : SharedT := ⟨t6c94 f w.params, 153, lf, gs, boot_drawn, 588, os⟩
theorem y6c94 : Y6c49ms 20 S6c93 S6c94 := by intro w a0 a1 a2 a3; kernel_rfl
noncomputable def s151v446 (f : Bool) (P : Params) : Obj := ⟨(.type "set"), none, .set ⟨EB33 ++ [ei (nat_lit 917580) (nat_lit 491)]⟩ 48 { mask := (nat_lit 127), place := ⟨EP33 ++ [(nat_lit 76)]⟩, dummies := #[], finger := 0, led := !f, moves := 2, plain := true }, #[]⟩
noncomputable def o152v447 (P : Params) : Obj := ⟨(.type "list_iterator"), none, .fields #[(.ref 150), (.int (.ofNat (nat_lit 46)) (nat_lit 0))], #[]⟩
noncomputable def t6c95 (f : Bool) (P : Params) : BT := TT6 (s151v446 f P) (o152v447 P) f P
noncomputable def S6c95 (f : Bool) (w : World) (os : OsState) : SharedT := ⟨t6c95 f w.params, 153, lf, gs, boot_drawn, 589, os⟩
theorem y6c95 : Y6c49ms 20 S6c94 S6c95 := by intro w a0 a1 a2 a3; kernel_rfl
noncomputable def s151v448 (f : Bool) (P : Params) : Obj := ⟨(.type "set"), none, .set ⟨EB33 ++ [ei (nat_lit 917580) (nat_lit 491), ei (nat_lit 917581) (nat_lit 492)]⟩ 49 { mask := (nat_lit 127), place := ⟨EP33 ++ [(nat_lit 76), (nat_lit 77)]⟩, dummies := #[], finger := 0, led := !f, moves := 2, plain := true }, #[]⟩
noncomputable def o152v449 (P : Params) : Obj := ⟨(.type "list_iterator"), none, .fields #[(.ref 150), (.int (.ofNat (nat_lit 47)) (nat_lit 0))], #[]⟩
noncomputable def t6c96 (f : Bool) (P : Params) : BT := TT6 (s151v448 f P) (o152v449 P) f P
noncomputable def S6c96 (f : Bool) (w : World) (os : OsState) : SharedT := ⟨t6c96 f w.params, 153, lf, gs, boot_drawn, 590, os⟩
theorem y6c96 : Y6c49ms 20 S6c95 S6c96 := by intro w a0 a1 a2 a3; kernel_rfl
noncomputable def s151v450 (f : Bool) (P : Params) : Obj := ⟨(.type "set"), none, .set ⟨EB33 ++ [ei (nat_lit 917580) (nat_lit 491), ei (nat_lit 917581) (nat_lit 492), ei (nat_lit 917582) (nat_lit 493)]⟩ 50 { mask := (nat_lit 127), place := ⟨EP33 ++ [(nat_lit 76), (nat_lit 77), (nat_lit 78)]⟩, dummies := #[], finger := 0, led := !f, moves := 2, plain := true }, #[]⟩
noncomputable def o152v451 (P : Params) : Obj := ⟨(.type "list_iterator"), none, .fields #[(.ref 150), (.int (.ofNat (nat_lit 48)) (nat_lit 0))], #[]⟩
noncomputable def t6c97 (f : Bool) (P : Params) : BT := TT6 (s151v450 f P) (o152v451 P) f P
noncomputable def S6c97 (f : Bool) (w : World) (os : OsState) : SharedT := ⟨t6c97 f w.params, 153, lf, gs, boot_drawn, 591, os⟩
theorem y6c97 : Y6c49ms 20 S6c96 S6c97 := by intro w a0 a1 a2 a3; kernel_rfl
noncomputable def s151v452 (f : Bool) (P : Params) : Obj := ⟨(.type "set"), none, .set ⟨EB33 ++ [ei (nat_lit 917580) (nat_lit 491), ei (nat_lit 917581) (nat_lit 492), ei (nat_lit 917582) (nat_lit 493), ei (nat_lit 917583) (nat_lit 494)]⟩ 51 { mask := (nat_lit 127), place := ⟨EP33 ++ [(nat_lit 76), (nat_lit 77), (nat_lit 78), (nat_lit 79)]⟩, dummies := #[], finger := 0, led := !f, moves := 2, plain := true }, #[]⟩
noncomputable def o152v453 (P : Params) : Obj := ⟨(.type "list_iterator"), none, .fields #[(.ref 150), (.int (.ofNat (nat_lit 49)) (nat_lit 0))], #[]⟩
noncomputable def t6c98 (f : Bool) (P : Params) : BT := TT6 (s151v452 f P) (o152v453 P) f P
noncomputable def S6c98 (f : Bool) (w : World) (os : OsState) : SharedT := ⟨t6c98 f w.params, 153, lf, gs, boot_drawn, 592, os⟩
theorem y6c98 : Y6c49ms 20 S6c97 S6c98 := by intro w a0 a1 a2 a3; kernel_rfl
noncomputable def s151v454 (f : Bool) (P : Params) : Obj := ⟨(.type "set"), none, .set ⟨EB33 ++ [ei (nat_lit 917580) (nat_lit 491), ei (nat_lit 917581) (nat_lit 492), ei (nat_lit 917582) (nat_lit 493), ei (nat_lit 917583) (nat_lit 494), ei (nat_lit 917584) (nat_lit 495)]⟩ 52 { mask := (nat_lit 127), place := ⟨EP33 ++ [(nat_lit 76), (nat_lit 77), (nat_lit 78), (nat_lit 79), (nat_lit 80)]⟩, dummies := #[], finger := 0, led := !f, moves := 2, plain := true }, #[]⟩
noncomputable def o152v455 (P : Params) : Obj := ⟨(.type "list_iterator"), none, .fields #[(.ref 150), (.int (.ofNat (nat_lit 50)) (nat_lit 0))], #[]⟩
noncomputable def t6c99 (f : Bool) (P : Params) : BT := TT6 (s151v454 f P) (o152v455 P) f P
noncomputable def S6c99 (f : Bool) (w : World) (os : OsState) : SharedT := ⟨t6c99 f w.params, 153, lf, gs, boot_drawn, 593, os⟩
theorem y6c99 : Y6c49ms 20 S6c98 S6c99 := by intro w a0 a1 a2 a3; kernel_rfl
noncomputable def s151v456 (f : Bool) (P : Params) : Obj := ⟨(.type "set"), none, .set ⟨EB33 ++ [ei (nat_lit 917580) (nat_lit 491), ei (nat_lit 917581) (nat_lit 492), ei (nat_lit 917582) (nat_lit 493), ei (nat_lit 917583) (nat_lit 494), ei (nat_lit 917584) (nat_lit 495), ei (nat_lit 917585) (nat_lit 496)]⟩ 53 { mask := (nat_lit 127), place := ⟨EP33 ++ [(nat_lit 76), (nat_lit 77), (nat_lit 78), (nat_lit 79), (nat_lit 80), (nat_lit 81)]⟩, dummies := #[], finger := 0, led := !f, moves := 2, plain := true }, #[]⟩
noncomputable def o152v457 (P : Params) : Obj := ⟨(.type "list_iterator"), none, .fields #[(.ref 150), (.int (.ofNat (nat_lit 51)) (nat_lit 0))], #[]⟩
noncomputable def t6c100 (f : Bool) (P : Params) : BT := TT6 (s151v456 f P) (o152v457 P) f P
noncomputable def S6c100 (f : Bool) (w : World) (os : OsState) : SharedT := ⟨t6c100 f w.params, 153, lf, gs, boot_drawn, 594, os⟩
theorem y6c100 : Y6c49ms 20 S6c99 S6c100 := by intro w a0 a1 a2 a3; kernel_rfl
noncomputable def s151v458 (f : Bool) (P : Params) : Obj := ⟨(.type "set"), none, .set ⟨EB33 ++ [ei (nat_lit 917580) (nat_lit 491), ei (nat_lit 917581) (nat_lit 492), ei (nat_lit 917582) (nat_lit 493), ei (nat_lit 917583) (nat_lit 494), ei (nat_lit 917584) (nat_lit 495), ei (nat_lit 917585) (nat_lit 496), ei (nat_lit 917586) (nat_lit 497)]⟩ 54 { mask := (nat_lit 127), place := ⟨EP33 ++ [(nat_lit 76), (nat_lit 77), (nat_lit 78), (nat_lit 79), (nat_lit 80), (nat_lit 81), (nat_lit 82)]⟩, dummies := #[], finger := 0, led := !f, moves := 2, plain := true }, #[]⟩
noncomputable def o152v459 (P : Params) : Obj := ⟨(.type "list_iterator"), none, .fields #[(.ref 150), (.int (.ofNat (nat_lit 52)) (nat_lit 0))], #[]⟩
noncomputable def t6c101 (f : Bool) (P : Params) : BT := TT6 (s151v458 f P) (o152v459 P) f P
noncomputable def S6c101 (f : Bool) (w : World) (os : OsState) : SharedT := ⟨t6c101 f w.params, 153, lf, gs, boot_drawn, 595, os⟩
theorem y6c101 : Y6c49ms 20 S6c100 S6c101 := by intro w a0 a1 a2 a3; kernel_rfl
noncomputable def s151v460 (f : Bool) (P : Params) : Obj := ⟨(.type "set"), none, .set ⟨EB33 ++ [ei (nat_lit 917580) (nat_lit 491), ei (nat_lit 917581) (nat_lit 492), ei (nat_lit 917582) (nat_lit 493), ei (nat_lit 917583) (nat_lit 494), ei (nat_lit 917584) (nat_lit 495), ei (nat_lit 917585) (nat_lit 496), ei (nat_lit 917586) (nat_lit 497), ei (nat_lit 917587) (nat_lit 498)]⟩ 55 { mask := (nat_lit 127), place := ⟨EP33 ++ [(nat_lit 76), (nat_lit 77), (nat_lit 78), (nat_lit 79), (nat_lit 80), (nat_lit 81), (nat_lit 82), (nat_lit 83)]⟩, dummies := #[], finger := 0, led := !f, moves := 2, plain := true }, #[]⟩
noncomputable def o152v461 (P : Params) : Obj := ⟨(.type "list_iterator"), none, .fields #[(.ref 150), (.int (.ofNat (nat_lit 53)) (nat_lit 0))], #[]⟩
noncomputable def t6c102 (f : Bool) (P : Params) : BT := TT6 (s151v460 f P) (o152v461 P) f P
noncomputable def S6c102 (f : Bool) (w : World) (os : OsState) : SharedT := ⟨t6c102 f w.params, 153, lf, gs, boot_drawn, 596, os⟩
theorem y6c102 : Y6c49ms 20 S6c101 S6c102 := by intro w a0 a1 a2 a3; kernel_rfl
noncomputable def s151v462 (f : Bool) (P : Params) : Obj := ⟨(.type "set"), none, .set ⟨EB33 ++ [ei (nat_lit 917580) (nat_lit 491), ei (nat_lit 917581) (nat_lit 492), ei (nat_lit 917582) (nat_lit 493), ei (nat_lit 917583) (nat_lit 494), ei (nat_lit 917584) (nat_lit 495), ei (nat_lit 917585) (nat_lit 496), ei (nat_lit 917586) (nat_lit 497), ei (nat_lit 917587) (nat_lit 498), ei (nat_lit 917588) (nat_lit 499)]⟩ 56 { mask := (nat_lit 127), place := ⟨EP33 ++ [(nat_lit 76), (nat_lit 77), (nat_lit 78), (nat_lit 79), (nat_lit 80), (nat_lit 81), (nat_lit 82), (nat_lit 83), (nat_lit 84)]⟩, dummies := #[], finger := 0, led := !f, moves := 2, plain := true }, #[]⟩
noncomputable def o152v463 (P : Params) : Obj := ⟨(.type "list_iterator"), none, .fields #[(.ref 150), (.int (.ofNat (nat_lit 54)) (nat_lit 0))], #[]⟩
noncomputable def t6c103 (f : Bool) (P : Params) : BT := TT6 (s151v462 f P) (o152v463 P) f P
noncomputable def S6c103 (f : Bool) (w : World) (os : OsState) : SharedT := ⟨t6c103 f w.params, 153, lf, gs, boot_drawn, 597, os⟩
theorem y6c103 : Y6c49ms 20 S6c102 S6c103 := by intro w a0 a1 a2 a3; kernel_rfl
noncomputable def s151v464 (f : Bool) (P : Params) : Obj := ⟨(.type "set"), none, .set ⟨EB33 ++ [ei (nat_lit 917580) (nat_lit 491), ei (nat_lit 917581) (nat_lit 492), ei (nat_lit 917582) (nat_lit 493), ei (nat_lit 917583) (nat_lit 494), ei (nat_lit 917584) (nat_lit 495), ei (nat_lit 917585) (nat_lit 496), ei (nat_lit 917586) (nat_lit 497), ei (nat_lit 917587) (nat_lit 498), ei (nat_lit 917588) (nat_lit 499), ei (nat_lit 917589) (nat_lit 500)]⟩ 57 { mask := (nat_lit 127), place := ⟨EP33 ++ [(nat_lit 76), (nat_lit 77), (nat_lit 78), (nat_lit 79), (nat_lit 80), (nat_lit 81), (nat_lit 82), (nat_lit 83), (nat_lit 84), (nat_lit 85)]⟩, dummies := #[], finger := 0, led := !f, moves := 2, plain := true }, #[]⟩
noncomputable def o152v465 (P : Params) : Obj := ⟨(.type "list_iterator"), none, .fields #[(.ref 150), (.int (.ofNat (nat_lit 55)) (nat_lit 0))], #[]⟩
noncomputable def t6c104 (f : Bool) (P : Params) : BT := TT6 (s151v464 f P) (o152v465 P) f P
noncomputable def S6c104 (f : Bool) (w : World) (os : OsState) : SharedT := ⟨t6c104 f w.params, 153, lf, gs, boot_drawn, 598, os⟩
theorem y6c104 : Y6c49ms 20 S6c103 S6c104 := by intro w a0 a1 a2 a3; kernel_rfl
noncomputable def s151v466 (f : Bool) (P : Params) : Obj := ⟨(.type "set"), none, .set ⟨EB33 ++ [ei (nat_lit 917580) (nat_lit 491), ei (nat_lit 917581) (nat_lit 492), ei (nat_lit 917582) (nat_lit 493), ei (nat_lit 917583) (nat_lit 494), ei (nat_lit 917584) (nat_lit 495), ei (nat_lit 917585) (nat_lit 496), ei (nat_lit 917586) (nat_lit 497), ei (nat_lit 917587) (nat_lit 498), ei (nat_lit 917588) (nat_lit 499), ei (nat_lit 917589) (nat_lit 500), ei (nat_lit 917590) (nat_lit 501)]⟩ 58 { mask := (nat_lit 127), place := ⟨EP33 ++ [(nat_lit 76), (nat_lit 77), (nat_lit 78), (nat_lit 79), (nat_lit 80), (nat_lit 81), (nat_lit 82), (nat_lit 83), (nat_lit 84), (nat_lit 85), (nat_lit 86)]⟩, dummies := #[], finger := 0, led := !f, moves := 2, plain := true }, #[]⟩
noncomputable def o152v467 (P : Params) : Obj := ⟨(.type "list_iterator"), none, .fields #[(.ref 150), (.int (.ofNat (nat_lit 56)) (nat_lit 0))], #[]⟩
noncomputable def t6c105 (f : Bool) (P : Params) : BT := TT6 (s151v466 f P) (o152v467 P) f P
noncomputable def S6c105 (f : Bool) (w : World) (os : OsState) : SharedT := ⟨t6c105 f w.params, 153, lf, gs, boot_drawn, 599, os⟩
theorem y6c105 : Y6c49ms 20 S6c104 S6c105 := by intro w a0 a1 a2 a3; kernel_rfl
noncomputable def s151v468 (f : Bool) (P : Params) : Obj := ⟨(.type "set"), none, .set ⟨EB33 ++ [ei (nat_lit 917580) (nat_lit 491), ei (nat_lit 917581) (nat_lit 492), ei (nat_lit 917582) (nat_lit 493), ei (nat_lit 917583) (nat_lit 494), ei (nat_lit 917584) (nat_lit 495), ei (nat_lit 917585) (nat_lit 496), ei (nat_lit 917586) (nat_lit 497), ei (nat_lit 917587) (nat_lit 498), ei (nat_lit 917588) (nat_lit 499), ei (nat_lit 917589) (nat_lit 500), ei (nat_lit 917590) (nat_lit 501), ei (nat_lit 917591) (nat_lit 502)]⟩ 59 { mask := (nat_lit 127), place := ⟨EP33 ++ [(nat_lit 76), (nat_lit 77), (nat_lit 78), (nat_lit 79), (nat_lit 80), (nat_lit 81), (nat_lit 82), (nat_lit 83), (nat_lit 84), (nat_lit 85), (nat_lit 86), (nat_lit 87)]⟩, dummies := #[], finger := 0, led := !f, moves := 2, plain := true }, #[]⟩
noncomputable def o152v469 (P : Params) : Obj := ⟨(.type "list_iterator"), none, .fields #[(.ref 150), (.int (.ofNat (nat_lit 57)) (nat_lit 0))], #[]⟩
noncomputable def t6c106 (f : Bool) (P : Params) : BT := TT6 (s151v468 f P) (o152v469 P) f P
noncomputable def S6c106 (f : Bool) (w : World) (os : OsState) : SharedT := ⟨t6c106 f w.params, 153, lf, gs, boot_drawn, 600, os⟩
theorem y6c106 : Y6c49ms 20 S6c105 S6c106 := by intro w a0 a1 a2 a3; kernel_rfl
noncomputable def EB34 : List (Int × Value) := ei (nat_lit 917505) (nat_lit 441) :: ei (nat_lit 917536) (nat_lit 447) :: ei (nat_lit 917537) (nat_lit 448) :: ei (nat_lit 917538) (nat_lit 449) :: ei (nat_lit 917539) (nat_lit 450) :: ei (nat_lit 917540) (nat_lit 451) :: ei (nat_lit 917541) (nat_lit 452) :: ei (nat_lit 917542) (nat_lit 453) :: ei (nat_lit 917543) (nat_lit 454) :: ei (nat_lit 917544) (nat_lit 455) :: ei (nat_lit 917545) (nat_lit 456) :: ei (nat_lit 917546) (nat_lit 457) :: ei (nat_lit 917547) (nat_lit 458) :: ei (nat_lit 917548) (nat_lit 459) :: ei (nat_lit 917549) (nat_lit 460) :: ei (nat_lit 917550) (nat_lit 461) :: ei (nat_lit 917551) (nat_lit 462) :: ei (nat_lit 917552) (nat_lit 463) :: ei (nat_lit 917553) (nat_lit 464) :: ei (nat_lit 917554) (nat_lit 465) :: ei (nat_lit 917555) (nat_lit 466) :: ei (nat_lit 917556) (nat_lit 467) :: ei (nat_lit 917557) (nat_lit 468) :: ei (nat_lit 917558) (nat_lit 469) :: ei (nat_lit 917559) (nat_lit 470) :: ei (nat_lit 917560) (nat_lit 471) :: ei (nat_lit 917561) (nat_lit 472) :: ei (nat_lit 917562) (nat_lit 473) :: ei (nat_lit 917563) (nat_lit 474) :: ei (nat_lit 917564) (nat_lit 475) :: ei (nat_lit 917565) (nat_lit 476) :: ei (nat_lit 917566) (nat_lit 477) :: ei (nat_lit 917567) (nat_lit 478) :: ei (nat_lit 917568) (nat_lit 479) :: ei (nat_lit 917569) (nat_lit 480) :: ei (nat_lit 917570) (nat_lit 481) :: ei (nat_lit 917571) (nat_lit 482) :: ei (nat_lit 917572) (nat_lit 483) :: ei (nat_lit 917573) (nat_lit 484) :: ei (nat_lit 917574) (nat_lit 485) :: ei (nat_lit 917575) (nat_lit 486) :: ei (nat_lit 917576) (nat_lit 487) :: ei (nat_lit 917577) (nat_lit 488) :: ei (nat_lit 917578) (nat_lit 489) :: ei (nat_lit 917579) (nat_lit 490) :: ei (nat_lit 917580) (nat_lit 491) :: ei (nat_lit 917581) (nat_lit 492) :: ei (nat_lit 917582) (nat_lit 493) :: ei (nat_lit 917583) (nat_lit 494) :: ei (nat_lit 917584) (nat_lit 495) :: ei (nat_lit 917585) (nat_lit 496) :: ei (nat_lit 917586) (nat_lit 497) :: ei (nat_lit 917587) (nat_lit 498) :: ei (nat_lit 917588) (nat_lit 499) :: ei (nat_lit 917589) (nat_lit 500) :: ei (nat_lit 917590) (nat_lit 501) :: ei (nat_lit 917591) (nat_lit 502) :: ei (nat_lit 917592) (nat_lit 503) :: []
noncomputable def EP34 : List Nat := (nat_lit 1) :: (nat_lit 32) :: (nat_lit 33) :: (nat_lit 34) :: (nat_lit 35) :: (nat_lit 36) :: (nat_lit 37) :: (nat_lit 38) :: (nat_lit 39) :: (nat_lit 40) :: (nat_lit 41) :: (nat_lit 42) :: (nat_lit 43) :: (nat_lit 44) :: (nat_lit 45) :: (nat_lit 46) :: (nat_lit 47) :: (nat_lit 48) :: (nat_lit 49) :: (nat_lit 50) :: (nat_lit 51) :: (nat_lit 52) :: (nat_lit 53) :: (nat_lit 54) :: (nat_lit 55) :: (nat_lit 56) :: (nat_lit 57) :: (nat_lit 58) :: (nat_lit 59) :: (nat_lit 60) :: (nat_lit 61) :: (nat_lit 62) :: (nat_lit 63) :: (nat_lit 64) :: (nat_lit 65) :: (nat_lit 66) :: (nat_lit 67) :: (nat_lit 68) :: (nat_lit 69) :: (nat_lit 70) :: (nat_lit 71) :: (nat_lit 72) :: (nat_lit 73) :: (nat_lit 74) :: (nat_lit 75) :: (nat_lit 76) :: (nat_lit 77) :: (nat_lit 78) :: (nat_lit 79) :: (nat_lit 80) :: (nat_lit 81) :: (nat_lit 82) :: (nat_lit 83) :: (nat_lit 84) :: (nat_lit 85) :: (nat_lit 86) :: (nat_lit 87) :: (nat_lit 88) :: []
noncomputable def s151v470 (f : Bool) (P : Params) : Obj := ⟨(.type "set"), none, .set ⟨EB34 ++ []⟩ 60 { mask := (nat_lit 127), place := ⟨EP34 ++ []⟩, dummies := #[], finger := 0, led := !f, moves := 2, plain := true }, #[]⟩
noncomputable def o152v471 (P : Params) : Obj := ⟨(.type "list_iterator"), none, .fields #[(.ref 150), (.int (.ofNat (nat_lit 58)) (nat_lit 0))], #[]⟩
noncomputable def t6c107 (f : Bool) (P : Params) : BT := TT6 (s151v470 f P) (o152v471 P) f P
noncomputable def S6c107 (f : Bool) (w : World) (os : OsState) : SharedT := ⟨t6c107 f w.params, 153, lf, gs, boot_drawn, 601, os⟩
theorem y6c107 : Y6c49ms 20 S6c106 S6c107 := by intro w a0 a1 a2 a3; kernel_rfl
noncomputable def s151v472 (f : Bool) (P : Params) : Obj := ⟨(.type "set"), none, .set ⟨EB34 ++ [ei (nat_lit 917593) (nat_lit 504)]⟩ 61 { mask := (nat_lit 127), place := ⟨EP34 ++ [(nat_lit 89)]⟩, dummies := #[], finger := 0, led := !f, moves := 2, plain := true }, #[]⟩
noncomputable def o152v473 (P : Params) : Obj := ⟨(.type "list_iterator"), none, .fields #[(.ref 150), (.int (.ofNat (nat_lit 59)) (nat_lit 0))], #[]⟩
noncomputable def t6c108 (f : Bool) (P : Params) : BT := TT6 (s151v472 f P) (o152v473 P) f P
noncomputable def S6c108 (f : Bool) (w : World) (os : OsState) : SharedT := ⟨t6c108 f w.params, 153, lf, gs, boot_drawn, 602, os⟩
theorem y6c108 : Y6c49ms 20 S6c107 S6c108 := by intro w a0 a1 a2 a3; kernel_rfl
noncomputable def s151v474 (f : Bool) (P : Params) : Obj := ⟨(.type "set"), none, .set ⟨EB34 ++ [ei (nat_lit 917593) (nat_lit 504), ei (nat_lit 917594) (nat_lit 505)]⟩ 62 { mask := (nat_lit 127), place := ⟨EP34 ++ [(nat_lit 89), (nat_lit 90)]⟩, dummies := #[], finger := 0, led := !f, moves := 2, plain := true }, #[]⟩
noncomputable def o152v475 (P : Params) : Obj := ⟨(.type "list_iterator"), none, .fields #[(.ref 150), (.int (.ofNat (nat_lit 60)) (nat_lit 0))], #[]⟩
noncomputable def t6c109 (f : Bool) (P : Params) : BT := TT6 (s151v474 f P) (o152v475 P) f P
noncomputable def S6c109 (f : Bool) (w : World) (os : OsState) : SharedT := ⟨t6c109 f w.params, 153, lf, gs, boot_drawn, 603, os⟩
theorem y6c109 : Y6c49ms 20 S6c108 S6c109 := by intro w a0 a1 a2 a3; kernel_rfl
noncomputable def s151v476 (f : Bool) (P : Params) : Obj := ⟨(.type "set"), none, .set ⟨EB34 ++ [ei (nat_lit 917593) (nat_lit 504), ei (nat_lit 917594) (nat_lit 505), ei (nat_lit 917595) (nat_lit 506)]⟩ 63 { mask := (nat_lit 127), place := ⟨EP34 ++ [(nat_lit 89), (nat_lit 90), (nat_lit 91)]⟩, dummies := #[], finger := 0, led := !f, moves := 2, plain := true }, #[]⟩
noncomputable def o152v477 (P : Params) : Obj := ⟨(.type "list_iterator"), none, .fields #[(.ref 150), (.int (.ofNat (nat_lit 61)) (nat_lit 0))], #[]⟩
noncomputable def t6c110 (f : Bool) (P : Params) : BT := TT6 (s151v476 f P) (o152v477 P) f P
noncomputable def S6c110 (f : Bool) (w : World) (os : OsState) : SharedT := ⟨t6c110 f w.params, 153, lf, gs, boot_drawn, 604, os⟩
theorem y6c110 : Y6c49ms 20 S6c109 S6c110 := by intro w a0 a1 a2 a3; kernel_rfl
noncomputable def s151v478 (f : Bool) (P : Params) : Obj := ⟨(.type "set"), none, .set ⟨EB34 ++ [ei (nat_lit 917593) (nat_lit 504), ei (nat_lit 917594) (nat_lit 505), ei (nat_lit 917595) (nat_lit 506), ei (nat_lit 917596) (nat_lit 507)]⟩ 64 { mask := (nat_lit 127), place := ⟨EP34 ++ [(nat_lit 89), (nat_lit 90), (nat_lit 91), (nat_lit 92)]⟩, dummies := #[], finger := 0, led := !f, moves := 2, plain := true }, #[]⟩
noncomputable def o152v479 (P : Params) : Obj := ⟨(.type "list_iterator"), none, .fields #[(.ref 150), (.int (.ofNat (nat_lit 62)) (nat_lit 0))], #[]⟩
noncomputable def t6c111 (f : Bool) (P : Params) : BT := TT6 (s151v478 f P) (o152v479 P) f P
noncomputable def S6c111 (f : Bool) (w : World) (os : OsState) : SharedT := ⟨t6c111 f w.params, 153, lf, gs, boot_drawn, 605, os⟩
theorem y6c111 : Y6c49ms 20 S6c110 S6c111 := by intro w a0 a1 a2 a3; kernel_rfl
noncomputable def s151v480 (f : Bool) (P : Params) : Obj := ⟨(.type "set"), none, .set ⟨EB34 ++ [ei (nat_lit 917593) (nat_lit 504), ei (nat_lit 917594) (nat_lit 505), ei (nat_lit 917595) (nat_lit 506), ei (nat_lit 917596) (nat_lit 507), ei (nat_lit 917597) (nat_lit 508)]⟩ 65 { mask := (nat_lit 127), place := ⟨EP34 ++ [(nat_lit 89), (nat_lit 90), (nat_lit 91), (nat_lit 92), (nat_lit 93)]⟩, dummies := #[], finger := 0, led := !f, moves := 2, plain := true }, #[]⟩
noncomputable def o152v481 (P : Params) : Obj := ⟨(.type "list_iterator"), none, .fields #[(.ref 150), (.int (.ofNat (nat_lit 63)) (nat_lit 0))], #[]⟩
noncomputable def t6c112 (f : Bool) (P : Params) : BT := TT6 (s151v480 f P) (o152v481 P) f P
noncomputable def S6c112 (f : Bool) (w : World) (os : OsState) : SharedT := ⟨t6c112 f w.params, 153, lf, gs, boot_drawn, 606, os⟩
theorem y6c112 : Y6c49ms 20 S6c111 S6c112 := by intro w a0 a1 a2 a3; kernel_rfl
noncomputable def s151v482 (f : Bool) (P : Params) : Obj := ⟨(.type "set"), none, .set ⟨EB34 ++ [ei (nat_lit 917593) (nat_lit 504), ei (nat_lit 917594) (nat_lit 505), ei (nat_lit 917595) (nat_lit 506), ei (nat_lit 917596) (nat_lit 507), ei (nat_lit 917597) (nat_lit 508), ei (nat_lit 917598) (nat_lit 509)]⟩ 66 { mask := (nat_lit 127), place := ⟨EP34 ++ [(nat_lit 89), (nat_lit 90), (nat_lit 91), (nat_lit 92), (nat_lit 93), (nat_lit 94)]⟩, dummies := #[], finger := 0, led := !f, moves := 2, plain := true }, #[]⟩
noncomputable def o152v483 (P : Params) : Obj := ⟨(.type "list_iterator"), none, .fields #[(.ref 150), (.int (.ofNat (nat_lit 64)) (nat_lit 0))], #[]⟩
noncomputable def t6c113 (f : Bool) (P : Params) : BT := TT6 (s151v482 f P) (o152v483 P) f P
noncomputable def S6c113 (f : Bool) (w : World) (os : OsState) : SharedT := ⟨t6c113 f w.params, 153, lf, gs, boot_drawn, 607, os⟩
theorem y6c113 : Y6c49ms 20 S6c112 S6c113 := by intro w a0 a1 a2 a3; kernel_rfl
noncomputable def s151v484 (f : Bool) (P : Params) : Obj := ⟨(.type "set"), none, .set ⟨EB34 ++ [ei (nat_lit 917593) (nat_lit 504), ei (nat_lit 917594) (nat_lit 505), ei (nat_lit 917595) (nat_lit 506), ei (nat_lit 917596) (nat_lit 507), ei (nat_lit 917597) (nat_lit 508), ei (nat_lit 917598) (nat_lit 509), ei (nat_lit 917599) (nat_lit 510)]⟩ 67 { mask := (nat_lit 127), place := ⟨EP34 ++ [(nat_lit 89), (nat_lit 90), (nat_lit 91), (nat_lit 92), (nat_lit 93), (nat_lit 94), (nat_lit 95)]⟩, dummies := #[], finger := 0, led := !f, moves := 2, plain := true }, #[]⟩
noncomputable def o152v485 (P : Params) : Obj := ⟨(.type "list_iterator"), none, .fields #[(.ref 150), (.int (.ofNat (nat_lit 65)) (nat_lit 0))], #[]⟩
noncomputable def t6c114 (f : Bool) (P : Params) : BT := TT6 (s151v484 f P) (o152v485 P) f P
noncomputable def S6c114 (f : Bool) (w : World) (os : OsState) : SharedT := ⟨t6c114 f w.params, 153, lf, gs, boot_drawn, 608, os⟩
theorem y6c114 : Y6c49ms 20 S6c113 S6c114 := by intro w a0 a1 a2 a3; kernel_rfl
noncomputable def s151v486 (f : Bool) (P : Params) : Obj := ⟨(.type "set"), none, .set ⟨EB34 ++ [ei (nat_lit 917593) (nat_lit 504), ei (nat_lit 917594) (nat_lit 505), ei (nat_lit 917595) (nat_lit 506), ei (nat_lit 917596) (nat_lit 507), ei (nat_lit 917597) (nat_lit 508), ei (nat_lit 917598) (nat_lit 509), ei (nat_lit 917599) (nat_lit 510), ei (nat_lit 917600) (nat_lit 511)]⟩ 68 { mask := (nat_lit 127), place := ⟨EP34 ++ [(nat_lit 89), (nat_lit 90), (nat_lit 91), (nat_lit 92), (nat_lit 93), (nat_lit 94), (nat_lit 95), (nat_lit 96)]⟩, dummies := #[], finger := 0, led := !f, moves := 2, plain := true }, #[]⟩
noncomputable def o152v487 (P : Params) : Obj := ⟨(.type "list_iterator"), none, .fields #[(.ref 150), (.int (.ofNat (nat_lit 66)) (nat_lit 0))], #[]⟩
noncomputable def t6c115 (f : Bool) (P : Params) : BT := TT6 (s151v486 f P) (o152v487 P) f P
noncomputable def S6c115 (f : Bool) (w : World) (os : OsState) : SharedT := ⟨t6c115 f w.params, 153, lf, gs, boot_drawn, 609, os⟩
theorem y6c115 : Y6c49ms 20 S6c114 S6c115 := by intro w a0 a1 a2 a3; kernel_rfl
noncomputable def s151v488 (f : Bool) (P : Params) : Obj := ⟨(.type "set"), none, .set ⟨EB34 ++ [ei (nat_lit 917593) (nat_lit 504), ei (nat_lit 917594) (nat_lit 505), ei (nat_lit 917595) (nat_lit 506), ei (nat_lit 917596) (nat_lit 507), ei (nat_lit 917597) (nat_lit 508), ei (nat_lit 917598) (nat_lit 509), ei (nat_lit 917599) (nat_lit 510), ei (nat_lit 917600) (nat_lit 511), ei (nat_lit 917601) (nat_lit 512)]⟩ 69 { mask := (nat_lit 127), place := ⟨EP34 ++ [(nat_lit 89), (nat_lit 90), (nat_lit 91), (nat_lit 92), (nat_lit 93), (nat_lit 94), (nat_lit 95), (nat_lit 96), (nat_lit 97)]⟩, dummies := #[], finger := 0, led := !f, moves := 2, plain := true }, #[]⟩
noncomputable def o152v489 (P : Params) : Obj := ⟨(.type "list_iterator"), none, .fields #[(.ref 150), (.int (.ofNat (nat_lit 67)) (nat_lit 0))], #[]⟩
noncomputable def t6c116 (f : Bool) (P : Params) : BT := TT6 (s151v488 f P) (o152v489 P) f P
noncomputable def S6c116 (f : Bool) (w : World) (os : OsState) : SharedT := ⟨t6c116 f w.params, 153, lf, gs, boot_drawn, 610, os⟩
theorem y6c116 : Y6c49ms 20 S6c115 S6c116 := by intro w a0 a1 a2 a3; kernel_rfl
noncomputable def s151v490 (f : Bool) (P : Params) : Obj := ⟨(.type "set"), none, .set ⟨EB34 ++ [ei (nat_lit 917593) (nat_lit 504), ei (nat_lit 917594) (nat_lit 505), ei (nat_lit 917595) (nat_lit 506), ei (nat_lit 917596) (nat_lit 507), ei (nat_lit 917597) (nat_lit 508), ei (nat_lit 917598) (nat_lit 509), ei (nat_lit 917599) (nat_lit 510), ei (nat_lit 917600) (nat_lit 511), ei (nat_lit 917601) (nat_lit 512), ei (nat_lit 917602) (nat_lit 513)]⟩ 70 { mask := (nat_lit 127), place := ⟨EP34 ++ [(nat_lit 89), (nat_lit 90), (nat_lit 91), (nat_lit 92), (nat_lit 93), (nat_lit 94), (nat_lit 95), (nat_lit 96), (nat_lit 97), (nat_lit 98)]⟩, dummies := #[], finger := 0, led := !f, moves := 2, plain := true }, #[]⟩
noncomputable def o152v491 (P : Params) : Obj := ⟨(.type "list_iterator"), none, .fields #[(.ref 150), (.int (.ofNat (nat_lit 68)) (nat_lit 0))], #[]⟩
noncomputable def t6c117 (f : Bool) (P : Params) : BT := TT6 (s151v490 f P) (o152v491 P) f P
noncomputable def S6c117 (f : Bool) (w : World) (os : OsState) : SharedT := ⟨t6c117 f w.params, 153, lf, gs, boot_drawn, 611, os⟩
theorem y6c117 : Y6c49ms 20 S6c116 S6c117 := by intro w a0 a1 a2 a3; kernel_rfl
noncomputable def s151v492 (f : Bool) (P : Params) : Obj := ⟨(.type "set"), none, .set ⟨EB34 ++ [ei (nat_lit 917593) (nat_lit 504), ei (nat_lit 917594) (nat_lit 505), ei (nat_lit 917595) (nat_lit 506), ei (nat_lit 917596) (nat_lit 507), ei (nat_lit 917597) (nat_lit 508), ei (nat_lit 917598) (nat_lit 509), ei (nat_lit 917599) (nat_lit 510), ei (nat_lit 917600) (nat_lit 511), ei (nat_lit 917601) (nat_lit 512), ei (nat_lit 917602) (nat_lit 513), ei (nat_lit 917603) (nat_lit 514)]⟩ 71 { mask := (nat_lit 127), place := ⟨EP34 ++ [(nat_lit 89), (nat_lit 90), (nat_lit 91), (nat_lit 92), (nat_lit 93), (nat_lit 94), (nat_lit 95), (nat_lit 96), (nat_lit 97), (nat_lit 98), (nat_lit 99)]⟩, dummies := #[], finger := 0, led := !f, moves := 2, plain := true }, #[]⟩
noncomputable def o152v493 (P : Params) : Obj := ⟨(.type "list_iterator"), none, .fields #[(.ref 150), (.int (.ofNat (nat_lit 69)) (nat_lit 0))], #[]⟩
noncomputable def t6c118 (f : Bool) (P : Params) : BT := TT6 (s151v492 f P) (o152v493 P) f P
noncomputable def S6c118 (f : Bool) (w : World) (os : OsState) : SharedT := ⟨t6c118 f w.params, 153, lf, gs, boot_drawn, 612, os⟩
theorem y6c118 : Y6c49ms 20 S6c117 S6c118 := by intro w a0 a1 a2 a3; kernel_rfl
noncomputable def s151v494 (f : Bool) (P : Params) : Obj := ⟨(.type "set"), none, .set ⟨EB34 ++ [ei (nat_lit 917593) (nat_lit 504), ei (nat_lit 917594) (nat_lit 505), ei (nat_lit 917595) (nat_lit 506), ei (nat_lit 917596) (nat_lit 507), ei (nat_lit 917597) (nat_lit 508), ei (nat_lit 917598) (nat_lit 509), ei (nat_lit 917599) (nat_lit 510), ei (nat_lit 917600) (nat_lit 511), ei (nat_lit 917601) (nat_lit 512), ei (nat_lit 917602) (nat_lit 513), ei (nat_lit 917603) (nat_lit 514), ei (nat_lit 917604) (nat_lit 515)]⟩ 72 { mask := (nat_lit 127), place := ⟨EP34 ++ [(nat_lit 89), (nat_lit 90), (nat_lit 91), (nat_lit 92), (nat_lit 93), (nat_lit 94), (nat_lit 95), (nat_lit 96), (nat_lit 97), (nat_lit 98), (nat_lit 99), (nat_lit 100)]⟩, dummies := #[], finger := 0, led := !f, moves := 2, plain := true }, #[]⟩
noncomputable def o152v495 (P : Params) : Obj := ⟨(.type "list_iterator"), none, .fields #[(.ref 150), (.int (.ofNat (nat_lit 70)) (nat_lit 0))], #[]⟩
noncomputable def t6c119 (f : Bool) (P : Params) : BT := TT6 (s151v494 f P) (o152v495 P) f P
noncomputable def S6c119 (f : Bool) (w : World) (os : OsState) : SharedT := ⟨t6c119 f w.params, 153, lf, gs, boot_drawn, 613, os⟩
theorem y6c119 : Y6c49ms 20 S6c118 S6c119 := by intro w a0 a1 a2 a3; kernel_rfl
noncomputable def EB35 : List (Int × Value) := ei (nat_lit 917505) (nat_lit 441) :: ei (nat_lit 917536) (nat_lit 447) :: ei (nat_lit 917537) (nat_lit 448) :: ei (nat_lit 917538) (nat_lit 449) :: ei (nat_lit 917539) (nat_lit 450) :: ei (nat_lit 917540) (nat_lit 451) :: ei (nat_lit 917541) (nat_lit 452) :: ei (nat_lit 917542) (nat_lit 453) :: ei (nat_lit 917543) (nat_lit 454) :: ei (nat_lit 917544) (nat_lit 455) :: ei (nat_lit 917545) (nat_lit 456) :: ei (nat_lit 917546) (nat_lit 457) :: ei (nat_lit 917547) (nat_lit 458) :: ei (nat_lit 917548) (nat_lit 459) :: ei (nat_lit 917549) (nat_lit 460) :: ei (nat_lit 917550) (nat_lit 461) :: ei (nat_lit 917551) (nat_lit 462) :: ei (nat_lit 917552) (nat_lit 463) :: ei (nat_lit 917553) (nat_lit 464) :: ei (nat_lit 917554) (nat_lit 465) :: ei (nat_lit 917555) (nat_lit 466) :: ei (nat_lit 917556) (nat_lit 467) :: ei (nat_lit 917557) (nat_lit 468) :: ei (nat_lit 917558) (nat_lit 469) :: ei (nat_lit 917559) (nat_lit 470) :: ei (nat_lit 917560) (nat_lit 471) :: ei (nat_lit 917561) (nat_lit 472) :: ei (nat_lit 917562) (nat_lit 473) :: ei (nat_lit 917563) (nat_lit 474) :: ei (nat_lit 917564) (nat_lit 475) :: ei (nat_lit 917565) (nat_lit 476) :: ei (nat_lit 917566) (nat_lit 477) :: ei (nat_lit 917567) (nat_lit 478) :: ei (nat_lit 917568) (nat_lit 479) :: ei (nat_lit 917569) (nat_lit 480) :: ei (nat_lit 917570) (nat_lit 481) :: ei (nat_lit 917571) (nat_lit 482) :: ei (nat_lit 917572) (nat_lit 483) :: ei (nat_lit 917573) (nat_lit 484) :: ei (nat_lit 917574) (nat_lit 485) :: ei (nat_lit 917575) (nat_lit 486) :: ei (nat_lit 917576) (nat_lit 487) :: ei (nat_lit 917577) (nat_lit 488) :: ei (nat_lit 917578) (nat_lit 489) :: ei (nat_lit 917579) (nat_lit 490) :: ei (nat_lit 917580) (nat_lit 491) :: ei (nat_lit 917581) (nat_lit 492) :: ei (nat_lit 917582) (nat_lit 493) :: ei (nat_lit 917583) (nat_lit 494) :: ei (nat_lit 917584) (nat_lit 495) :: ei (nat_lit 917585) (nat_lit 496) :: ei (nat_lit 917586) (nat_lit 497) :: ei (nat_lit 917587) (nat_lit 498) :: ei (nat_lit 917588) (nat_lit 499) :: ei (nat_lit 917589) (nat_lit 500) :: ei (nat_lit 917590) (nat_lit 501) :: ei (nat_lit 917591) (nat_lit 502) :: ei (nat_lit 917592) (nat_lit 503) :: ei (nat_lit 917593) (nat_lit 504) :: ei (nat_lit 917594) (nat_lit 505) :: ei (nat_lit 917595) (nat_lit 506) :: ei (nat_lit 917596) (nat_lit 507) :: ei (nat_lit 917597) (nat_lit 508) :: ei (nat_lit 917598) (nat_lit 509) :: ei (nat_lit 917599) (nat_lit 510) :: ei (nat_lit 917600) (nat_lit 511) :: ei (nat_lit 917601) (nat_lit 512) :: ei (nat_lit 917602) (nat_lit 513) :: ei (nat_lit 917603) (nat_lit 514) :: ei (nat_lit 917604) (nat_lit 515) :: ei (nat_lit 917605) (nat_lit 516) :: []
noncomputable def EP35 : List Nat := (nat_lit 1) :: (nat_lit 32) :: (nat_lit 33) :: (nat_lit 34) :: (nat_lit 35) :: (nat_lit 36) :: (nat_lit 37) :: (nat_lit 38) :: (nat_lit 39) :: (nat_lit 40) :: (nat_lit 41) :: (nat_lit 42) :: (nat_lit 43) :: (nat_lit 44) :: (nat_lit 45) :: (nat_lit 46) :: (nat_lit 47) :: (nat_lit 48) :: (nat_lit 49) :: (nat_lit 50) :: (nat_lit 51) :: (nat_lit 52) :: (nat_lit 53) :: (nat_lit 54) :: (nat_lit 55) :: (nat_lit 56) :: (nat_lit 57) :: (nat_lit 58) :: (nat_lit 59) :: (nat_lit 60) :: (nat_lit 61) :: (nat_lit 62) :: (nat_lit 63) :: (nat_lit 64) :: (nat_lit 65) :: (nat_lit 66) :: (nat_lit 67) :: (nat_lit 68) :: (nat_lit 69) :: (nat_lit 70) :: (nat_lit 71) :: (nat_lit 72) :: (nat_lit 73) :: (nat_lit 74) :: (nat_lit 75) :: (nat_lit 76) :: (nat_lit 77) :: (nat_lit 78) :: (nat_lit 79) :: (nat_lit 80) :: (nat_lit 81) :: (nat_lit 82) :: (nat_lit 83) :: (nat_lit 84) :: (nat_lit 85) :: (nat_lit 86) :: (nat_lit 87) :: (nat_lit 88) :: (nat_lit 89) :: (nat_lit 90) :: (nat_lit 91) :: (nat_lit 92) :: (nat_lit 93) :: (nat_lit 94) :: (nat_lit 95) :: (nat_lit 96) :: (nat_lit 97) :: (nat_lit 98) :: (nat_lit 99) :: (nat_lit 100) :: (nat_lit 101) :: []
noncomputable def s151v496 (f : Bool) (P : Params) : Obj := ⟨(.type "set"), none, .set ⟨EB35 ++ []⟩ 73 { mask := (nat_lit 127), place := ⟨EP35 ++ []⟩, dummies := #[], finger := 0, led := !f, moves := 2, plain := true }, #[]⟩
noncomputable def o152v497 (P : Params) : Obj := ⟨(.type "list_iterator"), none, .fields #[(.ref 150), (.int (.ofNat (nat_lit 71)) (nat_lit 0))], #[]⟩
noncomputable def t6c120 (f : Bool) (P : Params) : BT := TT6 (s151v496 f P) (o152v497 P) f P
noncomputable def S6c120 (f : Bool) (w : World) (os : OsState) : SharedT := ⟨t6c120 f w.params, 153, lf, gs, boot_drawn, 614, os⟩
theorem y6c120 : Y6c49ms 20 S6c119 S6c120 := by intro w a0 a1 a2 a3; kernel_rfl
noncomputable def s151v498 (f : Bool) (P : Params) : Obj := ⟨(.type "set"), none, .set ⟨EB35 ++ [ei (nat_lit 917606) (nat_lit 517)]⟩ 74 { mask := (nat_lit 127), place := ⟨EP35 ++ [(nat_lit 102)]⟩, dummies := #[], finger := 0, led := !f, moves := 2, plain := true }, #[]⟩
noncomputable def o152v499 (P : Params) : Obj := ⟨(.type "list_iterator"), none, .fields #[(.ref 150), (.int (.ofNat (nat_lit 72)) (nat_lit 0))], #[]⟩
noncomputable def t6c121 (f : Bool) (P : Params) : BT := TT6 (s151v498 f P) (o152v499 P) f P
noncomputable def S6c121 (f : Bool) (w : World) (os : OsState) : SharedT := ⟨t6c121 f w.params, 153, lf, gs, boot_drawn, 615, os⟩
theorem y6c121 : Y6c49ms 20 S6c120 S6c121 := by intro w a0 a1 a2 a3; kernel_rfl
noncomputable def s151v500 (f : Bool) (P : Params) : Obj := ⟨(.type "set"), none, .set ⟨EB35 ++ [ei (nat_lit 917606) (nat_lit 517), ei (nat_lit 917607) (nat_lit 518)]⟩ 75 { mask := (nat_lit 127), place := ⟨EP35 ++ [(nat_lit 102), (nat_lit 103)]⟩, dummies := #[], finger := 0, led := !f, moves := 2, plain := true }, #[]⟩
noncomputable def o152v501 (P : Params) : Obj := ⟨(.type "list_iterator"), none, .fields #[(.ref 150), (.int (.ofNat (nat_lit 73)) (nat_lit 0))], #[]⟩
noncomputable def t6c122 (f : Bool) (P : Params) : BT := TT6 (s151v500 f P) (o152v501 P) f P
noncomputable def S6c122 (f : Bool) (w : World) (os : OsState) : SharedT := ⟨t6c122 f w.params, 153, lf, gs, boot_drawn, 616, os⟩
theorem y6c122 : Y6c49ms 20 S6c121 S6c122 := by intro w a0 a1 a2 a3; kernel_rfl
noncomputable def s151v502 (f : Bool) (P : Params) : Obj := ⟨(.type "set"), none, .set ⟨EB35 ++ [ei (nat_lit 917606) (nat_lit 517), ei (nat_lit 917607) (nat_lit 518), ei (nat_lit 917608) (nat_lit 519)]⟩ 76 { mask := (nat_lit 127), place := ⟨EP35 ++ [(nat_lit 102), (nat_lit 103), (nat_lit 104)]⟩, dummies := #[], finger := 0, led := !f, moves := 2, plain := true }, #[]⟩
noncomputable def o152v503 (P : Params) : Obj := ⟨(.type "list_iterator"), none, .fields #[(.ref 150), (.int (.ofNat (nat_lit 74)) (nat_lit 0))], #[]⟩
noncomputable def t6c123 (f : Bool) (P : Params) : BT := TT6 (s151v502 f P) (o152v503 P) f P
noncomputable def S6c123 (f : Bool) (w : World) (os : OsState) : SharedT := ⟨t6c123 f w.params, 153, lf, gs, boot_drawn, 617, os⟩
theorem y6c123 : Y6c49ms 20 S6c122 S6c123 := by intro w a0 a1 a2 a3; kernel_rfl
noncomputable def s151v504 (f : Bool) (P : Params) : Obj := ⟨(.type "set"), none, .set ⟨EB35 ++ [ei (nat_lit 917606) (nat_lit 517), ei (nat_lit 917607) (nat_lit 518), ei (nat_lit 917608) (nat_lit 519), ei (nat_lit 917609) (nat_lit 520)]⟩ 77 { mask := (nat_lit 127), place := ⟨EP35 ++ [(nat_lit 102), (nat_lit 103), (nat_lit 104), (nat_lit 105)]⟩, dummies := #[], finger := 0, led := !f, moves := 2, plain := true }, #[]⟩
noncomputable def o152v505 (P : Params) : Obj := ⟨(.type "list_iterator"), none, .fields #[(.ref 150), (.int (.ofNat (nat_lit 75)) (nat_lit 0))], #[]⟩
noncomputable def t6c124 (f : Bool) (P : Params) : BT := TT6 (s151v504 f P) (o152v505 P) f P
noncomputable def S6c124 (f : Bool) (w : World) (os : OsState) : SharedT := ⟨t6c124 f w.params, 153, lf, gs, boot_drawn, 618, os⟩
theorem y6c124 : Y6c49ms 20 S6c123 S6c124 := by intro w a0 a1 a2 a3; kernel_rfl
noncomputable def s151v506 (f : Bool) (P : Params) : Obj := ⟨(.type "set"), none, .set ⟨EB35 ++ [ei (nat_lit 917606) (nat_lit 517), ei (nat_lit 917607) (nat_lit 518), ei (nat_lit 917608) (nat_lit 519), ei (nat_lit 917609) (nat_lit 520), ei (nat_lit 917610) (nat_lit 521)]⟩ 78 { mask := (nat_lit 127), place := ⟨EP35 ++ [(nat_lit 102), (nat_lit 103), (nat_lit 104), (nat_lit 105), (nat_lit 106)]⟩, dummies := #[], finger := 0, led := !f, moves := 2, plain := true }, #[]⟩
noncomputable def o152v507 (P : Params) : Obj := ⟨(.type "list_iterator"), none, .fields #[(.ref 150), (.int (.ofNat (nat_lit 76)) (nat_lit 0))], #[]⟩
noncomputable def t6c125 (f : Bool) (P : Params) : BT := TT6 (s151v506 f P) (o152v507 P) f P
noncomputable def S6c125 (f : Bool) (w : World) (os : OsState) : SharedT := ⟨t6c125 f w.params, 153, lf, gs, boot_drawn, 619, os⟩
theorem y6c125 : Y6c49ms 20 S6c124 S6c125 := by intro w a0 a1 a2 a3; kernel_rfl
noncomputable def s151v508 (f : Bool) (P : Params) : Obj := ⟨(.type "set"), none, .set ⟨EB35 ++ [ei (nat_lit 917606) (nat_lit 517), ei (nat_lit 917607) (nat_lit 518), ei (nat_lit 917608) (nat_lit 519), ei (nat_lit 917609) (nat_lit 520), ei (nat_lit 917610) (nat_lit 521), ei (nat_lit 917611) (nat_lit 522)]⟩ 80 { mask := (nat_lit 511), place := ⟨EP35 ++ [(nat_lit 102), (nat_lit 103), (nat_lit 104), (nat_lit 105), (nat_lit 106), (nat_lit 107)]⟩, dummies := #[], finger := 0, led := !f, moves := 3, plain := true }, #[]⟩
noncomputable def o152v509 (P : Params) : Obj := ⟨(.type "list_iterator"), none, .fields #[(.ref 150), (.int (.ofNat (nat_lit 77)) (nat_lit 0))], #[]⟩
noncomputable def t6c126 (f : Bool) (P : Params) : BT := TT6 (s151v508 f P) (o152v509 P) f P
noncomputable def S6c126 (f : Bool) (w : World) (os : OsState) : SharedT := ⟨t6c126 f w.params, 153, lf, gs, boot_drawn, 620, os⟩
theorem y6c126 : Y6c49ms 22 S6c125 S6c126 := by intro w a0 a1 a2 a3; kernel_rfl
noncomputable def s151v510 (f : Bool) (P : Params) : Obj := ⟨(.type "set"), none, .set ⟨EB35 ++ [ei (nat_lit 917606) (nat_lit 517), ei (nat_lit 917607) (nat_lit 518), ei (nat_lit 917608) (nat_lit 519), ei (nat_lit 917609) (nat_lit 520), ei (nat_lit 917610) (nat_lit 521), ei (nat_lit 917611) (nat_lit 522), ei (nat_lit 917612) (nat_lit 523)]⟩ 81 { mask := (nat_lit 511), place := ⟨EP35 ++ [(nat_lit 102), (nat_lit 103), (nat_lit 104), (nat_lit 105), (nat_lit 106), (nat_lit 107), (nat_lit 108)]⟩, dummies := #[], finger := 0, led := !f, moves := 3, plain := true }, #[]⟩
noncomputable def o152v511 (P : Params) : Obj := ⟨(.type "list_iterator"), none, .fields #[(.ref 150), (.int (.ofNat (nat_lit 78)) (nat_lit 0))], #[]⟩
noncomputable def t6c127 (f : Bool) (P : Params) : BT := TT6 (s151v510 f P) (o152v511 P) f P
noncomputable def S6c127 (f : Bool) (w : World) (os : OsState) : SharedT := ⟨t6c127 f w.params, 153, lf, gs, boot_drawn, 621, os⟩
theorem y6c127 : Y6c49ms 20 S6c126 S6c127 := by intro w a0 a1 a2 a3; kernel_rfl
noncomputable def s151v512 (f : Bool) (P : Params) : Obj := ⟨(.type "set"), none, .set ⟨EB35 ++ [ei (nat_lit 917606) (nat_lit 517), ei (nat_lit 917607) (nat_lit 518), ei (nat_lit 917608) (nat_lit 519), ei (nat_lit 917609) (nat_lit 520), ei (nat_lit 917610) (nat_lit 521), ei (nat_lit 917611) (nat_lit 522), ei (nat_lit 917612) (nat_lit 523), ei (nat_lit 917613) (nat_lit 524)]⟩ 82 { mask := (nat_lit 511), place := ⟨EP35 ++ [(nat_lit 102), (nat_lit 103), (nat_lit 104), (nat_lit 105), (nat_lit 106), (nat_lit 107), (nat_lit 108), (nat_lit 109)]⟩, dummies := #[], finger := 0, led := !f, moves := 3, plain := true }, #[]⟩
noncomputable def o152v513 (P : Params) : Obj := ⟨(.type "list_iterator"), none, .fields #[(.ref 150), (.int (.ofNat (nat_lit 79)) (nat_lit 0))], #[]⟩
noncomputable def t6c128 (f : Bool) (P : Params) : BT := TT6 (s151v512 f P) (o152v513 P) f P
noncomputable def S6c128 (f : Bool) (w : World) (os : OsState) : SharedT := ⟨t6c128 f w.params, 153, lf, gs, boot_drawn, 622, os⟩
theorem y6c128 : Y6c49ms 20 S6c127 S6c128 := by intro w a0 a1 a2 a3; kernel_rfl
noncomputable def s151v514 (f : Bool) (P : Params) : Obj := ⟨(.type "set"), none, .set ⟨EB35 ++ [ei (nat_lit 917606) (nat_lit 517), ei (nat_lit 917607) (nat_lit 518), ei (nat_lit 917608) (nat_lit 519), ei (nat_lit 917609) (nat_lit 520), ei (nat_lit 917610) (nat_lit 521), ei (nat_lit 917611) (nat_lit 522), ei (nat_lit 917612) (nat_lit 523), ei (nat_lit 917613) (nat_lit 524), ei (nat_lit 917614) (nat_lit 525)]⟩ 83 { mask := (nat_lit 511), place := ⟨EP35 ++ [(nat_lit 102), (nat_lit 103), (nat_lit 104), (nat_lit 105), (nat_lit 106), (nat_lit 107), (nat_lit 108), (nat_lit 109), (nat_lit 110)]⟩, dummies := #[], finger := 0, led := !f, moves := 3, plain := true }, #[]⟩
noncomputable def o152v515 (P : Params) : Obj := ⟨(.type "list_iterator"), none, .fields #[(.ref 150), (.int (.ofNat (nat_lit 80)) (nat_lit 0))], #[]⟩
noncomputable def t6c129 (f : Bool) (P : Params) : BT := TT6 (s151v514 f P) (o152v515 P) f P
noncomputable def S6c129 (f : Bool) (w : World) (os : OsState) : SharedT := ⟨t6c129 f w.params, 153, lf, gs, boot_drawn, 623, os⟩
theorem y6c129 : Y6c49ms 20 S6c128 S6c129 := by intro w a0 a1 a2 a3; kernel_rfl
noncomputable def s151v516 (f : Bool) (P : Params) : Obj := ⟨(.type "set"), none, .set ⟨EB35 ++ [ei (nat_lit 917606) (nat_lit 517), ei (nat_lit 917607) (nat_lit 518), ei (nat_lit 917608) (nat_lit 519), ei (nat_lit 917609) (nat_lit 520), ei (nat_lit 917610) (nat_lit 521), ei (nat_lit 917611) (nat_lit 522), ei (nat_lit 917612) (nat_lit 523), ei (nat_lit 917613) (nat_lit 524), ei (nat_lit 917614) (nat_lit 525), ei (nat_lit 917615) (nat_lit 526)]⟩ 84 { mask := (nat_lit 511), place := ⟨EP35 ++ [(nat_lit 102), (nat_lit 103), (nat_lit 104), (nat_lit 105), (nat_lit 106), (nat_lit 107), (nat_lit 108), (nat_lit 109), (nat_lit 110), (nat_lit 111)]⟩, dummies := #[], finger := 0, led := !f, moves := 3, plain := true }, #[]⟩
noncomputable def o152v517 (P : Params) : Obj := ⟨(.type "list_iterator"), none, .fields #[(.ref 150), (.int (.ofNat (nat_lit 81)) (nat_lit 0))], #[]⟩
noncomputable def t6c130 (f : Bool) (P : Params) : BT := TT6 (s151v516 f P) (o152v517 P) f P
noncomputable def S6c130 (f : Bool) (w : World) (os : OsState) : SharedT := ⟨t6c130 f w.params, 153, lf, gs, boot_drawn, 624, os⟩
theorem y6c130 : Y6c49ms 20 S6c129 S6c130 := by intro w a0 a1 a2 a3; kernel_rfl
noncomputable def s151v518 (f : Bool) (P : Params) : Obj := ⟨(.type "set"), none, .set ⟨EB35 ++ [ei (nat_lit 917606) (nat_lit 517), ei (nat_lit 917607) (nat_lit 518), ei (nat_lit 917608) (nat_lit 519), ei (nat_lit 917609) (nat_lit 520), ei (nat_lit 917610) (nat_lit 521), ei (nat_lit 917611) (nat_lit 522), ei (nat_lit 917612) (nat_lit 523), ei (nat_lit 917613) (nat_lit 524), ei (nat_lit 917614) (nat_lit 525), ei (nat_lit 917615) (nat_lit 526), ei (nat_lit 917616) (nat_lit 527)]⟩ 85 { mask := (nat_lit 511), place := ⟨EP35 ++ [(nat_lit 102), (nat_lit 103), (nat_lit 104), (nat_lit 105), (nat_lit 106), (nat_lit 107), (nat_lit 108), (nat_lit 109), (nat_lit 110), (nat_lit 111), (nat_lit 112)]⟩, dummies := #[], finger := 0, led := !f, moves := 3, plain := true }, #[]⟩
noncomputable def o152v519 (P : Params) : Obj := ⟨(.type "list_iterator"), none, .fields #[(.ref 150), (.int (.ofNat (nat_lit 82)) (nat_lit 0))], #[]⟩
noncomputable def t6c131 (f : Bool) (P : Params) : BT := TT6 (s151v518 f P) (o152v519 P) f P
noncomputable def S6c131 (f : Bool) (w : World) (os : OsState) : SharedT := ⟨t6c131 f w.params, 153, lf, gs, boot_drawn, 625, os⟩
theorem y6c131 : Y6c49ms 20 S6c130 S6c131 := by intro w a0 a1 a2 a3; kernel_rfl
noncomputable def s151v520 (f : Bool) (P : Params) : Obj := ⟨(.type "set"), none, .set ⟨EB35 ++ [ei (nat_lit 917606) (nat_lit 517), ei (nat_lit 917607) (nat_lit 518), ei (nat_lit 917608) (nat_lit 519), ei (nat_lit 917609) (nat_lit 520), ei (nat_lit 917610) (nat_lit 521), ei (nat_lit 917611) (nat_lit 522), ei (nat_lit 917612) (nat_lit 523), ei (nat_lit 917613) (nat_lit 524), ei (nat_lit 917614) (nat_lit 525), ei (nat_lit 917615) (nat_lit 526), ei (nat_lit 917616) (nat_lit 527), ei (nat_lit 917617) (nat_lit 528)]⟩ 86 { mask := (nat_lit 511), place := ⟨EP35 ++ [(nat_lit 102), (nat_lit 103), (nat_lit 104), (nat_lit 105), (nat_lit 106), (nat_lit 107), (nat_lit 108), (nat_lit 109), (nat_lit 110), (nat_lit 111), (nat_lit 112), (nat_lit 113)]⟩, dummies := #[], finger := 0, led := !f, moves := 3, plain := true }, #[]⟩
noncomputable def o152v521 (P : Params) : Obj := ⟨(.type "list_iterator"), none, .fields #[(.ref 150), (.int (.ofNat (nat_lit 83)) (nat_lit 0))], #[]⟩
noncomputable def t6c132 (f : Bool) (P : Params) : BT := TT6 (s151v520 f P) (o152v521 P) f P
noncomputable def S6c132 (f : Bool) (w : World) (os : OsState) : SharedT := ⟨t6c132 f w.params, 153, lf, gs, boot_drawn, 626, os⟩
theorem y6c132 : Y6c49ms 20 S6c131 S6c132 := by intro w a0 a1 a2 a3; kernel_rfl
noncomputable def EB36 : List (Int × Value) := ei (nat_lit 917505) (nat_lit 441) :: ei (nat_lit 917536) (nat_lit 447) :: ei (nat_lit 917537) (nat_lit 448) :: ei (nat_lit 917538) (nat_lit 449) :: ei (nat_lit 917539) (nat_lit 450) :: ei (nat_lit 917540) (nat_lit 451) :: ei (nat_lit 917541) (nat_lit 452) :: ei (nat_lit 917542) (nat_lit 453) :: ei (nat_lit 917543) (nat_lit 454) :: ei (nat_lit 917544) (nat_lit 455) :: ei (nat_lit 917545) (nat_lit 456) :: ei (nat_lit 917546) (nat_lit 457) :: ei (nat_lit 917547) (nat_lit 458) :: ei (nat_lit 917548) (nat_lit 459) :: ei (nat_lit 917549) (nat_lit 460) :: ei (nat_lit 917550) (nat_lit 461) :: ei (nat_lit 917551) (nat_lit 462) :: ei (nat_lit 917552) (nat_lit 463) :: ei (nat_lit 917553) (nat_lit 464) :: ei (nat_lit 917554) (nat_lit 465) :: ei (nat_lit 917555) (nat_lit 466) :: ei (nat_lit 917556) (nat_lit 467) :: ei (nat_lit 917557) (nat_lit 468) :: ei (nat_lit 917558) (nat_lit 469) :: ei (nat_lit 917559) (nat_lit 470) :: ei (nat_lit 917560) (nat_lit 471) :: ei (nat_lit 917561) (nat_lit 472) :: ei (nat_lit 917562) (nat_lit 473) :: ei (nat_lit 917563) (nat_lit 474) :: ei (nat_lit 917564) (nat_lit 475) :: ei (nat_lit 917565) (nat_lit 476) :: ei (nat_lit 917566) (nat_lit 477) :: ei (nat_lit 917567) (nat_lit 478) :: ei (nat_lit 917568) (nat_lit 479) :: ei (nat_lit 917569) (nat_lit 480) :: ei (nat_lit 917570) (nat_lit 481) :: ei (nat_lit 917571) (nat_lit 482) :: ei (nat_lit 917572) (nat_lit 483) :: ei (nat_lit 917573) (nat_lit 484) :: ei (nat_lit 917574) (nat_lit 485) :: ei (nat_lit 917575) (nat_lit 486) :: ei (nat_lit 917576) (nat_lit 487) :: ei (nat_lit 917577) (nat_lit 488) :: ei (nat_lit 917578) (nat_lit 489) :: ei (nat_lit 917579) (nat_lit 490) :: ei (nat_lit 917580) (nat_lit 491) :: ei (nat_lit 917581) (nat_lit 492) :: ei (nat_lit 917582) (nat_lit 493) :: ei (nat_lit 917583) (nat_lit 494) :: ei (nat_lit 917584) (nat_lit 495) :: ei (nat_lit 917585) (nat_lit 496) :: ei (nat_lit 917586) (nat_lit 497) :: ei (nat_lit 917587) (nat_lit 498) :: ei (nat_lit 917588) (nat_lit 499) :: ei (nat_lit 917589) (nat_lit 500) :: ei (nat_lit 917590) (nat_lit 501) :: ei (nat_lit 917591) (nat_lit 502) :: ei (nat_lit 917592) (nat_lit 503) :: ei (nat_lit 917593) (nat_lit 504) :: ei (nat_lit 917594) (nat_lit 505) :: ei (nat_lit 917595) (nat_lit 506) :: ei (nat_lit 917596) (nat_lit 507) :: ei (nat_lit 917597) (nat_lit 508) :: ei (nat_lit 917598) (nat_lit 509) :: ei (nat_lit 917599) (nat_lit 510) :: ei (nat_lit 917600) (nat_lit 511) :: ei (nat_lit 917601) (nat_lit 512) :: ei (nat_lit 917602) (nat_lit 513) :: ei (nat_lit 917603) (nat_lit 514) :: ei (nat_lit 917604) (nat_lit 515) :: ei (nat_lit 917605) (nat_lit 516) :: ei (nat_lit 917606) (nat_lit 517) :: ei (nat_lit 917607) (nat_lit 518) :: ei (nat_lit 917608) (nat_lit 519) :: ei (nat_lit 917609) (nat_lit 520) :: ei (nat_lit 917610) (nat_lit 521) :: ei (nat_lit 917611) (nat_lit 522) :: ei (nat_lit 917612) (nat_lit 523) :: ei (nat_lit 917613) (nat_lit 524) :: ei (nat_lit 917614) (nat_lit 525) :: ei (nat_lit 917615) (nat_lit 526) :: ei (nat_lit 917616) (nat_lit 527) :: ei (nat_lit 917617) (nat_lit 528) :: ei (nat_lit 917618) (nat_lit 529) :: []
noncomputable def EP36 : List Nat := (nat_lit 1) :: (nat_lit 32) :: (nat_lit 33) :: (nat_lit 34) :: (nat_lit 35) :: (nat_lit 36) :: (nat_lit 37) :: (nat_lit 38) :: (nat_lit 39) :: (nat_lit 40) :: (nat_lit 41) :: (nat_lit 42) :: (nat_lit 43) :: (nat_lit 44) :: (nat_lit 45) :: (nat_lit 46) :: (nat_lit 47) :: (nat_lit 48) :: (nat_lit 49) :: (nat_lit 50) :: (nat_lit 51) :: (nat_lit 52) :: (nat_lit 53) :: (nat_lit 54) :: (nat_lit 55) :: (nat_lit 56) :: (nat_lit 57) :: (nat_lit 58) :: (nat_lit 59) :: (nat_lit 60) :: (nat_lit 61) :: (nat_lit 62) :: (nat_lit 63) :: (nat_lit 64) :: (nat_lit 65) :: (nat_lit 66) :: (nat_lit 67) :: (nat_lit 68) :: (nat_lit 69) :: (nat_lit 70) :: (nat_lit 71) :: (nat_lit 72) :: (nat_lit 73) :: (nat_lit 74) :: (nat_lit 75) :: (nat_lit 76) :: (nat_lit 77) :: (nat_lit 78) :: (nat_lit 79) :: (nat_lit 80) :: (nat_lit 81) :: (nat_lit 82) :: (nat_lit 83) :: (nat_lit 84) :: (nat_lit 85) :: (nat_lit 86) :: (nat_lit 87) :: (nat_lit 88) :: (nat_lit 89) :: (nat_lit 90) :: (nat_lit 91) :: (nat_lit 92) :: (nat_lit 93) :: (nat_lit 94) :: (nat_lit 95) :: (nat_lit 96) :: (nat_lit 97) :: (nat_lit 98) :: (nat_lit 99) :: (nat_lit 100) :: (nat_lit 101) :: (nat_lit 102) :: (nat_lit 103) :: (nat_lit 104) :: (nat_lit 105) :: (nat_lit 106) :: (nat_lit 107) :: (nat_lit 108) :: (nat_lit 109) :: (nat_lit 110) :: (nat_lit 111) :: (nat_lit 112) :: (nat_lit 113) :: (nat_lit 114) :: []
noncomputable def s151v522 (f : Bool) (P : Params) : Obj := ⟨(.type "set"), none, .set ⟨EB36 ++ []⟩ 87 { mask := (nat_lit 511), place := ⟨EP36 ++ []⟩, dummies := #[], finger := 0, led := !f, moves := 3, plain := true }, #[]⟩
noncomputable def o152v523 (P : Params) : Obj := ⟨(.type "list_iterator"), none, .fields #[(.ref 150), (.int (.ofNat (nat_lit 84)) (nat_lit 0))], #[]⟩
noncomputable def t6c133 (f : Bool) (P : Params) : BT := TT6 (s151v522 f P) (o152v523 P) f P
noncomputable def S6c133 (f : Bool) (w : World) (os : OsState) : SharedT := ⟨t6c133 f w.params, 153, lf, gs, boot_drawn, 627, os⟩
theorem y6c133 : Y6c49ms 20 S6c132 S6c133 := by intro w a0 a1 a2 a3; kernel_rfl
noncomputable def s151v524 (f : Bool) (P : Params) : Obj := ⟨(.type "set"), none, .set ⟨EB36 ++ [ei (nat_lit 917619) (nat_lit 530)]⟩ 88 { mask := (nat_lit 511), place := ⟨EP36 ++ [(nat_lit 115)]⟩, dummies := #[], finger := 0, led := !f, moves := 3, plain := true }, #[]⟩
noncomputable def o152v525 (P : Params) : Obj := ⟨(.type "list_iterator"), none, .fields #[(.ref 150), (.int (.ofNat (nat_lit 85)) (nat_lit 0))], #[]⟩
noncomputable def t6c134 (f : Bool) (P : Params) : BT := TT6 (s151v524 f P) (o152v525 P) f P
noncomputable def S6c134 (f : Bool) (w : World) (os : OsState) : SharedT := ⟨t6c134 f w.params, 153, lf, gs, boot_drawn, 628, os⟩
theorem y6c134 : Y6c49ms 20 S6c133 S6c134 := by intro w a0 a1 a2 a3; kernel_rfl
noncomputable def s151v526 (f : Bool) (P : Params) : Obj := ⟨(.type "set"), none, .set ⟨EB36 ++ [ei (nat_lit 917619) (nat_lit 530), ei (nat_lit 917620) (nat_lit 531)]⟩ 89 { mask := (nat_lit 511), place := ⟨EP36 ++ [(nat_lit 115), (nat_lit 116)]⟩, dummies := #[], finger := 0, led := !f, moves := 3, plain := true }, #[]⟩
noncomputable def o152v527 (P : Params) : Obj := ⟨(.type "list_iterator"), none, .fields #[(.ref 150), (.int (.ofNat (nat_lit 86)) (nat_lit 0))], #[]⟩
noncomputable def t6c135 (f : Bool) (P : Params) : BT := TT6 (s151v526 f P) (o152v527 P) f P
noncomputable def S6c135 (f : Bool) (w : World) (os : OsState) : SharedT := ⟨t6c135 f w.params, 153, lf, gs, boot_drawn, 629, os⟩
theorem y6c135 : Y6c49ms 20 S6c134 S6c135 := by intro w a0 a1 a2 a3; kernel_rfl
noncomputable def s151v528 (f : Bool) (P : Params) : Obj := ⟨(.type "set"), none, .set ⟨EB36 ++ [ei (nat_lit 917619) (nat_lit 530), ei (nat_lit 917620) (nat_lit 531), ei (nat_lit 917621) (nat_lit 532)]⟩ 90 { mask := (nat_lit 511), place := ⟨EP36 ++ [(nat_lit 115), (nat_lit 116), (nat_lit 117)]⟩, dummies := #[], finger := 0, led := !f, moves := 3, plain := true }, #[]⟩
noncomputable def o152v529 (P : Params) : Obj := ⟨(.type "list_iterator"), none, .fields #[(.ref 150), (.int (.ofNat (nat_lit 87)) (nat_lit 0))], #[]⟩
noncomputable def t6c136 (f : Bool) (P : Params) : BT := TT6 (s151v528 f P) (o152v529 P) f P
noncomputable def S6c136 (f : Bool) (w : World) (os : OsState) : SharedT := ⟨t6c136 f w.params, 153, lf, gs, boot_drawn, 630, os⟩
theorem y6c136 : Y6c49ms 20 S6c135 S6c136 := by intro w a0 a1 a2 a3; kernel_rfl
noncomputable def s151v530 (f : Bool) (P : Params) : Obj := ⟨(.type "set"), none, .set ⟨EB36 ++ [ei (nat_lit 917619) (nat_lit 530), ei (nat_lit 917620) (nat_lit 531), ei (nat_lit 917621) (nat_lit 532), ei (nat_lit 917622) (nat_lit 533)]⟩ 91 { mask := (nat_lit 511), place := ⟨EP36 ++ [(nat_lit 115), (nat_lit 116), (nat_lit 117), (nat_lit 118)]⟩, dummies := #[], finger := 0, led := !f, moves := 3, plain := true }, #[]⟩
noncomputable def o152v531 (P : Params) : Obj := ⟨(.type "list_iterator"), none, .fields #[(.ref 150), (.int (.ofNat (nat_lit 88)) (nat_lit 0))], #[]⟩
noncomputable def t6c137 (f : Bool) (P : Params) : BT := TT6 (s151v530 f P) (o152v531 P) f P
noncomputable def S6c137 (f : Bool) (w : World) (os : OsState) : SharedT := ⟨t6c137 f w.params, 153, lf, gs, boot_drawn, 631, os⟩
theorem y6c137 : Y6c49ms 20 S6c136 S6c137 := by intro w a0 a1 a2 a3; kernel_rfl
noncomputable def s151v532 (f : Bool) (P : Params) : Obj := ⟨(.type "set"), none, .set ⟨EB36 ++ [ei (nat_lit 917619) (nat_lit 530), ei (nat_lit 917620) (nat_lit 531), ei (nat_lit 917621) (nat_lit 532), ei (nat_lit 917622) (nat_lit 533), ei (nat_lit 917623) (nat_lit 534)]⟩ 92 { mask := (nat_lit 511), place := ⟨EP36 ++ [(nat_lit 115), (nat_lit 116), (nat_lit 117), (nat_lit 118), (nat_lit 119)]⟩, dummies := #[], finger := 0, led := !f, moves := 3, plain := true }, #[]⟩
noncomputable def o152v533 (P : Params) : Obj := ⟨(.type "list_iterator"), none, .fields #[(.ref 150), (.int (.ofNat (nat_lit 89)) (nat_lit 0))], #[]⟩
noncomputable def t6c138 (f : Bool) (P : Params) : BT := TT6 (s151v532 f P) (o152v533 P) f P
noncomputable def S6c138 (f : Bool) (w : World) (os : OsState) : SharedT := ⟨t6c138 f w.params, 153, lf, gs, boot_drawn, 632, os⟩
theorem y6c138 : Y6c49ms 20 S6c137 S6c138 := by intro w a0 a1 a2 a3; kernel_rfl
noncomputable def s151v534 (f : Bool) (P : Params) : Obj := ⟨(.type "set"), none, .set ⟨EB36 ++ [ei (nat_lit 917619) (nat_lit 530), ei (nat_lit 917620) (nat_lit 531), ei (nat_lit 917621) (nat_lit 532), ei (nat_lit 917622) (nat_lit 533), ei (nat_lit 917623) (nat_lit 534), ei (nat_lit 917624) (nat_lit 535)]⟩ 93 { mask := (nat_lit 511), place := ⟨EP36 ++ [(nat_lit 115), (nat_lit 116), (nat_lit 117), (nat_lit 118), (nat_lit 119), (nat_lit 120)]⟩, dummies := #[], finger := 0, led := !f, moves := 3, plain := true }, #[]⟩
noncomputable def o152v535 (P : Params) : Obj := ⟨(.type "list_iterator"), none, .fields #[(.ref 150), (.int (.ofNat (nat_lit 90)) (nat_lit 0))], #[]⟩
noncomputable def t6c139 (f : Bool) (P : Params) : BT := TT6 (s151v534 f P) (o152v535 P) f P
noncomputable def S6c139 (f : Bool) (w : World) (os : OsState) : SharedT := ⟨t6c139 f w.params, 153, lf, gs, boot_drawn, 633, os⟩
theorem y6c139 : Y6c49ms 20 S6c138 S6c139 := by intro w a0 a1 a2 a3; kernel_rfl
noncomputable def s151v536 (f : Bool) (P : Params) : Obj := ⟨(.type "set"), none, .set ⟨EB36 ++ [ei (nat_lit 917619) (nat_lit 530), ei (nat_lit 917620) (nat_lit 531), ei (nat_lit 917621) (nat_lit 532), ei (nat_lit 917622) (nat_lit 533), ei (nat_lit 917623) (nat_lit 534), ei (nat_lit 917624) (nat_lit 535), ei (nat_lit 917625) (nat_lit 536)]⟩ 94 { mask := (nat_lit 511), place := ⟨EP36 ++ [(nat_lit 115), (nat_lit 116), (nat_lit 117), (nat_lit 118), (nat_lit 119), (nat_lit 120), (nat_lit 121)]⟩, dummies := #[], finger := 0, led := !f, moves := 3, plain := true }, #[]⟩
noncomputable def o152v537 (P : Params) : Obj := ⟨(.type "list_iterator"), none, .fields #[(.ref 150), (.int (.ofNat (nat_lit 91)) (nat_lit 0))], #[]⟩
noncomputable def t6c140 (f : Bool) (P : Params) : BT := TT6 (s151v536 f P) (o152v537 P) f P
noncomputable def S6c140 (f : Bool) (w : World) (os : OsState) : SharedT := ⟨t6c140 f w.params, 153, lf, gs, boot_drawn, 634, os⟩
theorem y6c140 : Y6c49ms 20 S6c139 S6c140 := by intro w a0 a1 a2 a3; kernel_rfl
noncomputable def s151v538 (f : Bool) (P : Params) : Obj := ⟨(.type "set"), none, .set ⟨EB36 ++ [ei (nat_lit 917619) (nat_lit 530), ei (nat_lit 917620) (nat_lit 531), ei (nat_lit 917621) (nat_lit 532), ei (nat_lit 917622) (nat_lit 533), ei (nat_lit 917623) (nat_lit 534), ei (nat_lit 917624) (nat_lit 535), ei (nat_lit 917625) (nat_lit 536), ei (nat_lit 917626) (nat_lit 537)]⟩ 95 { mask := (nat_lit 511), place := ⟨EP36 ++ [(nat_lit 115), (nat_lit 116), (nat_lit 117), (nat_lit 118), (nat_lit 119), (nat_lit 120), (nat_lit 121), (nat_lit 122)]⟩, dummies := #[], finger := 0, led := !f, moves := 3, plain := true }, #[]⟩
noncomputable def o152v539 (P : Params) : Obj := ⟨(.type "list_iterator"), none, .fields #[(.ref 150), (.int (.ofNat (nat_lit 92)) (nat_lit 0))], #[]⟩
noncomputable def t6c141 (f : Bool) (P : Params) : BT := TT6 (s151v538 f P) (o152v539 P) f P
noncomputable def S6c141 (f : Bool) (w : World) (os : OsState) : SharedT := ⟨t6c141 f w.params, 153, lf, gs, boot_drawn, 635, os⟩
theorem y6c141 : Y6c49ms 20 S6c140 S6c141 := by intro w a0 a1 a2 a3; kernel_rfl
noncomputable def s151v540 (f : Bool) (P : Params) : Obj := ⟨(.type "set"), none, .set ⟨EB36 ++ [ei (nat_lit 917619) (nat_lit 530), ei (nat_lit 917620) (nat_lit 531), ei (nat_lit 917621) (nat_lit 532), ei (nat_lit 917622) (nat_lit 533), ei (nat_lit 917623) (nat_lit 534), ei (nat_lit 917624) (nat_lit 535), ei (nat_lit 917625) (nat_lit 536), ei (nat_lit 917626) (nat_lit 537), ei (nat_lit 917627) (nat_lit 538)]⟩ 96 { mask := (nat_lit 511), place := ⟨EP36 ++ [(nat_lit 115), (nat_lit 116), (nat_lit 117), (nat_lit 118), (nat_lit 119), (nat_lit 120), (nat_lit 121), (nat_lit 122), (nat_lit 123)]⟩, dummies := #[], finger := 0, led := !f, moves := 3, plain := true }, #[]⟩
noncomputable def o152v541 (P : Params) : Obj := ⟨(.type "list_iterator"), none, .fields #[(.ref 150), (.int (.ofNat (nat_lit 93)) (nat_lit 0))], #[]⟩
noncomputable def t6c142 (f : Bool) (P : Params) : BT := TT6 (s151v540 f P) (o152v541 P) f P
noncomputable def S6c142 (f : Bool) (w : World) (os : OsState) : SharedT := ⟨t6c142 f w.params, 153, lf, gs, boot_drawn, 636, os⟩
theorem y6c142 : Y6c49ms 20 S6c141 S6c142 := by intro w a0 a1 a2 a3; kernel_rfl
noncomputable def s151v542 (f : Bool) (P : Params) : Obj := ⟨(.type "set"), none, .set ⟨EB36 ++ [ei (nat_lit 917619) (nat_lit 530), ei (nat_lit 917620) (nat_lit 531), ei (nat_lit 917621) (nat_lit 532), ei (nat_lit 917622) (nat_lit 533), ei (nat_lit 917623) (nat_lit 534), ei (nat_lit 917624) (nat_lit 535), ei (nat_lit 917625) (nat_lit 536), ei (nat_lit 917626) (nat_lit 537), ei (nat_lit 917627) (nat_lit 538), ei (nat_lit 917628) (nat_lit 539)]⟩ 97 { mask := (nat_lit 511), place := ⟨EP36 ++ [(nat_lit 115), (nat_lit 116), (nat_lit 117), (nat_lit 118), (nat_lit 119), (nat_lit 120), (nat_lit 121), (nat_lit 122), (nat_lit 123), (nat_lit 124)]⟩, dummies := #[], finger := 0, led := !f, moves := 3, plain := true }, #[]⟩
noncomputable def o152v543 (P : Params) : Obj := ⟨(.type "list_iterator"), none, .fields #[(.ref 150), (.int (.ofNat (nat_lit 94)) (nat_lit 0))], #[]⟩
noncomputable def t6c143 (f : Bool) (P : Params) : BT := TT6 (s151v542 f P) (o152v543 P) f P
noncomputable def S6c143 (f : Bool) (w : World) (os : OsState) : SharedT := ⟨t6c143 f w.params, 153, lf, gs, boot_drawn, 637, os⟩
theorem y6c143 : Y6c49ms 20 S6c142 S6c143 := by intro w a0 a1 a2 a3; kernel_rfl
noncomputable def s151v544 (f : Bool) (P : Params) : Obj := ⟨(.type "set"), none, .set ⟨EB36 ++ [ei (nat_lit 917619) (nat_lit 530), ei (nat_lit 917620) (nat_lit 531), ei (nat_lit 917621) (nat_lit 532), ei (nat_lit 917622) (nat_lit 533), ei (nat_lit 917623) (nat_lit 534), ei (nat_lit 917624) (nat_lit 535), ei (nat_lit 917625) (nat_lit 536), ei (nat_lit 917626) (nat_lit 537), ei (nat_lit 917627) (nat_lit 538), ei (nat_lit 917628) (nat_lit 539), ei (nat_lit 917629) (nat_lit 540)]⟩ 98 { mask := (nat_lit 511), place := ⟨EP36 ++ [(nat_lit 115), (nat_lit 116), (nat_lit 117), (nat_lit 118), (nat_lit 119), (nat_lit 120), (nat_lit 121), (nat_lit 122), (nat_lit 123), (nat_lit 124), (nat_lit 125)]⟩, dummies := #[], finger := 0, led := !f, moves := 3, plain := true }, #[]⟩
noncomputable def o152v545 (P : Params) : Obj := ⟨(.type "list_iterator"), none, .fields #[(.ref 150), (.int (.ofNat (nat_lit 95)) (nat_lit 0))], #[]⟩
noncomputable def t6c144 (f : Bool) (P : Params) : BT := TT6 (s151v544 f P) (o152v545 P) f P
noncomputable def S6c144 (f : Bool) (w : World) (os : OsState) : SharedT := ⟨t6c144 f w.params, 153, lf, gs, boot_drawn, 638, os⟩
theorem y6c144 : Y6c49ms 20 S6c143 S6c144 := by intro w a0 a1 a2 a3; kernel_rfl
noncomputable def s151v546 (f : Bool) (P : Params) : Obj := ⟨(.type "set"), none, .set ⟨EB36 ++ [ei (nat_lit 917619) (nat_lit 530), ei (nat_lit 917620) (nat_lit 531), ei (nat_lit 917621) (nat_lit 532), ei (nat_lit 917622) (nat_lit 533), ei (nat_lit 917623) (nat_lit 534), ei (nat_lit 917624) (nat_lit 535), ei (nat_lit 917625) (nat_lit 536), ei (nat_lit 917626) (nat_lit 537), ei (nat_lit 917627) (nat_lit 538), ei (nat_lit 917628) (nat_lit 539), ei (nat_lit 917629) (nat_lit 540), ei (nat_lit 917630) (nat_lit 541)]⟩ 99 { mask := (nat_lit 511), place := ⟨EP36 ++ [(nat_lit 115), (nat_lit 116), (nat_lit 117), (nat_lit 118), (nat_lit 119), (nat_lit 120), (nat_lit 121), (nat_lit 122), (nat_lit 123), (nat_lit 124), (nat_lit 125), (nat_lit 126)]⟩, dummies := #[], finger := 0, led := !f, moves := 3, plain := true }, #[]⟩
noncomputable def o152v547 (P : Params) : Obj := ⟨(.type "list_iterator"), none, .fields #[(.ref 150), (.int (.ofNat (nat_lit 96)) (nat_lit 0))], #[]⟩
noncomputable def t6c145 (f : Bool) (P : Params) : BT := TT6 (s151v546 f P) (o152v547 P) f P
noncomputable def S6c145 (f : Bool) (w : World) (os : OsState) : SharedT := ⟨t6c145 f w.params, 153, lf, gs, boot_drawn, 639, os⟩
theorem y6c145 : Y6c49ms 20 S6c144 S6c145 := by intro w a0 a1 a2 a3; kernel_rfl
noncomputable def s151v548 (f : Bool) (P : Params) : Obj := ⟨(.type "set"), none, .set #[((.ofNat (nat_lit 917505)), (.int (.ofNat (nat_lit 917505)) (nat_lit 441))), ((.ofNat (nat_lit 917536)), (.int (.ofNat (nat_lit 917536)) (nat_lit 447))), ((.ofNat (nat_lit 917537)), (.int (.ofNat (nat_lit 917537)) (nat_lit 448))), ((.ofNat (nat_lit 917538)), (.int (.ofNat (nat_lit 917538)) (nat_lit 449))), ((.ofNat (nat_lit 917539)), (.int (.ofNat (nat_lit 917539)) (nat_lit 450))), ((.ofNat (nat_lit 917540)), (.int (.ofNat (nat_lit 917540)) (nat_lit 451))), ((.ofNat (nat_lit 917541)), (.int (.ofNat (nat_lit 917541)) (nat_lit 452))), ((.ofNat (nat_lit 917542)), (.int (.ofNat (nat_lit 917542)) (nat_lit 453))), ((.ofNat (nat_lit 917543)), (.int (.ofNat (nat_lit 917543)) (nat_lit 454))), ((.ofNat (nat_lit 917544)), (.int (.ofNat (nat_lit 917544)) (nat_lit 455))), ((.ofNat (nat_lit 917545)), (.int (.ofNat (nat_lit 917545)) (nat_lit 456))), ((.ofNat (nat_lit 917546)), (.int (.ofNat (nat_lit 917546)) (nat_lit 457))), ((.ofNat (nat_lit 917547)), (.int (.ofNat (nat_lit 917547)) (nat_lit 458))), ((.ofNat (nat_lit 917548)), (.int (.ofNat (nat_lit 917548)) (nat_lit 459))), ((.ofNat (nat_lit 917549)), (.int (.ofNat (nat_lit 917549)) (nat_lit 460))), ((.ofNat (nat_lit 917550)), (.int (.ofNat (nat_lit 917550)) (nat_lit 461))), ((.ofNat (nat_lit 917551)), (.int (.ofNat (nat_lit 917551)) (nat_lit 462))), ((.ofNat (nat_lit 917552)), (.int (.ofNat (nat_lit 917552)) (nat_lit 463))), ((.ofNat (nat_lit 917553)), (.int (.ofNat (nat_lit 917553)) (nat_lit 464))), ((.ofNat (nat_lit 917554)), (.int (.ofNat (nat_lit 917554)) (nat_lit 465))), ((.ofNat (nat_lit 917555)), (.int (.ofNat (nat_lit 917555)) (nat_lit 466))), ((.ofNat (nat_lit 917556)), (.int (.ofNat (nat_lit 917556)) (nat_lit 467))), ((.ofNat (nat_lit 917557)), (.int (.ofNat (nat_lit 917557)) (nat_lit 468))), ((.ofNat (nat_lit 917558)), (.int (.ofNat (nat_lit 917558)) (nat_lit 469))), ((.ofNat (nat_lit 917559)), (.int (.ofNat (nat_lit 917559)) (nat_lit 470))), ((.ofNat (nat_lit 917560)), (.int (.ofNat (nat_lit 917560)) (nat_lit 471))), ((.ofNat (nat_lit 917561)), (.int (.ofNat (nat_lit 917561)) (nat_lit 472))), ((.ofNat (nat_lit 917562)), (.int (.ofNat (nat_lit 917562)) (nat_lit 473))), ((.ofNat (nat_lit 917563)), (.int (.ofNat (nat_lit 917563)) (nat_lit 474))), ((.ofNat (nat_lit 917564)), (.int (.ofNat (nat_lit 917564)) (nat_lit 475))), ((.ofNat (nat_lit 917565)), (.int (.ofNat (nat_lit 917565)) (nat_lit 476))), ((.ofNat (nat_lit 917566)), (.int (.ofNat (nat_lit 917566)) (nat_lit 477))), ((.ofNat (nat_lit 917567)), (.int (.ofNat (nat_lit 917567)) (nat_lit 478))), ((.ofNat (nat_lit 917568)), (.int (.ofNat (nat_lit 917568)) (nat_lit 479))), ((.ofNat (nat_lit 917569)), (.int (.ofNat (nat_lit 917569)) (nat_lit 480))), ((.ofNat (nat_lit 917570)), (.int (.ofNat (nat_lit 917570)) (nat_lit 481))), ((.ofNat (nat_lit 917571)), (.int (.ofNat (nat_lit 917571)) (nat_lit 482))), ((.ofNat (nat_lit 917572)), (.int (.ofNat (nat_lit 917572)) (nat_lit 483))), ((.ofNat (nat_lit 917573)), (.int (.ofNat (nat_lit 917573)) (nat_lit 484))), ((.ofNat (nat_lit 917574)), (.int (.ofNat (nat_lit 917574)) (nat_lit 485))), ((.ofNat (nat_lit 917575)), (.int (.ofNat (nat_lit 917575)) (nat_lit 486))), ((.ofNat (nat_lit 917576)), (.int (.ofNat (nat_lit 917576)) (nat_lit 487))), ((.ofNat (nat_lit 917577)), (.int (.ofNat (nat_lit 917577)) (nat_lit 488))), ((.ofNat (nat_lit 917578)), (.int (.ofNat (nat_lit 917578)) (nat_lit 489))), ((.ofNat (nat_lit 917579)), (.int (.ofNat (nat_lit 917579)) (nat_lit 490))), ((.ofNat (nat_lit 917580)), (.int (.ofNat (nat_lit 917580)) (nat_lit 491))), ((.ofNat (nat_lit 917581)), (.int (.ofNat (nat_lit 917581)) (nat_lit 492))), ((.ofNat (nat_lit 917582)), (.int (.ofNat (nat_lit 917582)) (nat_lit 493))), ((.ofNat (nat_lit 917583)), (.int (.ofNat (nat_lit 917583)) (nat_lit 494))), ((.ofNat (nat_lit 917584)), (.int (.ofNat (nat_lit 917584)) (nat_lit 495))), ((.ofNat (nat_lit 917585)), (.int (.ofNat (nat_lit 917585)) (nat_lit 496))), ((.ofNat (nat_lit 917586)), (.int (.ofNat (nat_lit 917586)) (nat_lit 497))), ((.ofNat (nat_lit 917587)), (.int (.ofNat (nat_lit 917587)) (nat_lit 498))), ((.ofNat (nat_lit 917588)), (.int (.ofNat (nat_lit 917588)) (nat_lit 499))), ((.ofNat (nat_lit 917589)), (.int (.ofNat (nat_lit 917589)) (nat_lit 500))), ((.ofNat (nat_lit 917590)), (.int (.ofNat (nat_lit 917590)) (nat_lit 501))), ((.ofNat (nat_lit 917591)), (.int (.ofNat (nat_lit 917591)) (nat_lit 502))), ((.ofNat (nat_lit 917592)), (.int (.ofNat (nat_lit 917592)) (nat_lit 503))), ((.ofNat (nat_lit 917593)), (.int (.ofNat (nat_lit 917593)) (nat_lit 504))), ((.ofNat (nat_lit 917594)), (.int (.ofNat (nat_lit 917594)) (nat_lit 505))), ((.ofNat (nat_lit 917595)), (.int (.ofNat (nat_lit 917595)) (nat_lit 506))), ((.ofNat (nat_lit 917596)), (.int (.ofNat (nat_lit 917596)) (nat_lit 507))), ((.ofNat (nat_lit 917597)), (.int (.ofNat (nat_lit 917597)) (nat_lit 508))), ((.ofNat (nat_lit 917598)), (.int (.ofNat (nat_lit 917598)) (nat_lit 509))), ((.ofNat (nat_lit 917599)), (.int (.ofNat (nat_lit 917599)) (nat_lit 510))), ((.ofNat (nat_lit 917600)), (.int (.ofNat (nat_lit 917600)) (nat_lit 511))), ((.ofNat (nat_lit 917601)), (.int (.ofNat (nat_lit 917601)) (nat_lit 512))), ((.ofNat (nat_lit 917602)), (.int (.ofNat (nat_lit 917602)) (nat_lit 513))), ((.ofNat (nat_lit 917603)), (.int (.ofNat (nat_lit 917603)) (nat_lit 514))), ((.ofNat (nat_lit 917604)), (.int (.ofNat (nat_lit 917604)) (nat_lit 515))), ((.ofNat (nat_lit 917605)), (.int (.ofNat (nat_lit 917605)) (nat_lit 516))), ((.ofNat (nat_lit 917606)), (.int (.ofNat (nat_lit 917606)) (nat_lit 517))), ((.ofNat (nat_lit 917607)), (.int (.ofNat (nat_lit 917607)) (nat_lit 518))), ((.ofNat (nat_lit 917608)), (.int (.ofNat (nat_lit 917608)) (nat_lit 519))), ((.ofNat (nat_lit 917609)), (.int (.ofNat (nat_lit 917609)) (nat_lit 520))), ((.ofNat (nat_lit 917610)), (.int (.ofNat (nat_lit 917610)) (nat_lit 521))), ((.ofNat (nat_lit 917611)), (.int (.ofNat (nat_lit 917611)) (nat_lit 522))), ((.ofNat (nat_lit 917612)), (.int (.ofNat (nat_lit 917612)) (nat_lit 523))), ((.ofNat (nat_lit 917613)), (.int (.ofNat (nat_lit 917613)) (nat_lit 524))), ((.ofNat (nat_lit 917614)), (.int (.ofNat (nat_lit 917614)) (nat_lit 525))), ((.ofNat (nat_lit 917615)), (.int (.ofNat (nat_lit 917615)) (nat_lit 526))), ((.ofNat (nat_lit 917616)), (.int (.ofNat (nat_lit 917616)) (nat_lit 527))), ((.ofNat (nat_lit 917617)), (.int (.ofNat (nat_lit 917617)) (nat_lit 528))), ((.ofNat (nat_lit 917618)), (.int (.ofNat (nat_lit 917618)) (nat_lit 529))), ((.ofNat (nat_lit 917619)), (.int (.ofNat (nat_lit 917619)) (nat_lit 530))), ((.ofNat (nat_lit 917620)), (.int (.ofNat (nat_lit 917620)) (nat_lit 531))), ((.ofNat (nat_lit 917621)), (.int (.ofNat (nat_lit 917621)) (nat_lit 532))), ((.ofNat (nat_lit 917622)), (.int (.ofNat (nat_lit 917622)) (nat_lit 533))), ((.ofNat (nat_lit 917623)), (.int (.ofNat (nat_lit 917623)) (nat_lit 534))), ((.ofNat (nat_lit 917624)), (.int (.ofNat (nat_lit 917624)) (nat_lit 535))), ((.ofNat (nat_lit 917625)), (.int (.ofNat (nat_lit 917625)) (nat_lit 536))), ((.ofNat (nat_lit 917626)), (.int (.ofNat (nat_lit 917626)) (nat_lit 537))), ((.ofNat (nat_lit 917627)), (.int (.ofNat (nat_lit 917627)) (nat_lit 538))), ((.ofNat (nat_lit 917628)), (.int (.ofNat (nat_lit 917628)) (nat_lit 539))), ((.ofNat (nat_lit 917629)), (.int (.ofNat (nat_lit 917629)) (nat_lit 540))), ((.ofNat (nat_lit 917630)), (.int (.ofNat (nat_lit 917630)) (nat_lit 541))), ((.ofNat (nat_lit 917631)), (.int (.ofNat (nat_lit 917631)) (nat_lit 542)))] 100 { mask := (nat_lit 511), place := #[(nat_lit 1), (nat_lit 32), (nat_lit 33), (nat_lit 34), (nat_lit 35), (nat_lit 36), (nat_lit 37), (nat_lit 38), (nat_lit 39), (nat_lit 40), (nat_lit 41), (nat_lit 42), (nat_lit 43), (nat_lit 44), (nat_lit 45), (nat_lit 46), (nat_lit 47), (nat_lit 48), (nat_lit 49), (nat_lit 50), (nat_lit 51), (nat_lit 52), (nat_lit 53), (nat_lit 54), (nat_lit 55), (nat_lit 56), (nat_lit 57), (nat_lit 58), (nat_lit 59), (nat_lit 60), (nat_lit 61), (nat_lit 62), (nat_lit 63), (nat_lit 64), (nat_lit 65), (nat_lit 66), (nat_lit 67), (nat_lit 68), (nat_lit 69), (nat_lit 70), (nat_lit 71), (nat_lit 72), (nat_lit 73), (nat_lit 74), (nat_lit 75), (nat_lit 76), (nat_lit 77), (nat_lit 78), (nat_lit 79), (nat_lit 80), (nat_lit 81), (nat_lit 82), (nat_lit 83), (nat_lit 84), (nat_lit 85), (nat_lit 86), (nat_lit 87), (nat_lit 88), (nat_lit 89), (nat_lit 90), (nat_lit 91), (nat_lit 92), (nat_lit 93), (nat_lit 94), (nat_lit 95), (nat_lit 96), (nat_lit 97), (nat_lit 98), (nat_lit 99), (nat_lit 100), (nat_lit 101), (nat_lit 102), (nat_lit 103), (nat_lit 104), (nat_lit 105), (nat_lit 106), (nat_lit 107), (nat_lit 108), (nat_lit 109), (nat_lit 110), (nat_lit 111), (nat_lit 112), (nat_lit 113), (nat_lit 114), (nat_lit 115), (nat_lit 116), (nat_lit 117), (nat_lit 118), (nat_lit 119), (nat_lit 120), (nat_lit 121), (nat_lit 122), (nat_lit 123), (nat_lit 124), (nat_lit 125), (nat_lit 126), (nat_lit 127)], dummies := #[], finger := 0, led := !f, moves := 3, plain := true }, #[]⟩
noncomputable def o152v549 (P : Params) : Obj := ⟨(.type "list_iterator"), none, .fields #[(.ref 150), (.int (.ofNat (nat_lit 97)) (nat_lit 0))], #[]⟩
noncomputable def t6c146 (f : Bool) (P : Params) : BT := TT6 (s151v548 f P) (o152v549 P) f P
noncomputable def S6c146 (f : Bool) (w : World) (os : OsState) : SharedT := ⟨t6c146 f w.params, 153, lf, gs, boot_drawn, 640, os⟩
theorem y6c146 : Y6c49ms 20 S6c145 S6c146 := by intro w a0 a1 a2 a3; kernel_rfl
noncomputable def o3v550 (P : Params) : Obj := ⟨(.type "dict"), none, .dict #[⟨PyData.keyHash P (Str.ofString "__name__"), (.str (Str.ofString "__name__") 165), (.str (Str.ofString "cpy313.stringprep") 316)⟩, ⟨PyData.keyHash P (Str.ofString "__doc__"), (.str (Str.ofString "__doc__") 166), .none⟩, ⟨PyData.keyHash P (Str.ofString "__package__"), (.str (Str.ofString "__package__") 167), .none⟩, ⟨PyData.keyHash P (Str.ofString "__loader__"), (.str (Str.ofString "__loader__") 168), (.builtin "__main__.__loader__#opaque")⟩, ⟨PyData.keyHash P (Str.ofString "__spec__"), (.str (Str.ofString "__spec__") 169), .none⟩, ⟨PyData.keyHash P (Str.ofString "__annotations__"), (.str (Str.ofString "__annotations__") 170), (.ref 6)⟩, ⟨PyData.keyHash P (Str.ofString "__builtins__"), (.str (Str.ofString "__builtins__") 171), (.ref 4)⟩, ⟨PyData.keyHash P (Str.ofString "__file__"), (.str (Str.ofString "__file__") 173), (.str (Str.ofString "/claim/cut.py") 172)⟩, ⟨PyData.keyHash P (Str.ofString "__cached__"), (.str (Str.ofString "__cached__") 174), .none⟩, ⟨PyData.keyHash P (Str.ofString "_wall"), (.str (Str.ofString "_wall") 193), (.ref 21)⟩, ⟨PyData.keyHash P (Str.ofString "Whitespace"), (.str (Str.ofString "Whitespace") 291), (.ref 83)⟩, ⟨PyData.keyHash P (Str.ofString "_int2digits"), (.str (Str.ofString "_int2digits") 304), (.ref 94)⟩, ⟨PyData.keyHash P (Str.ofString "_digits2int"), (.str (Str.ofString "_digits2int") 315), (.ref 101)⟩, ⟨PyData.keyHash P (Str.ofString "b1_set"), (.str (Str.ofString "b1_set") 377), (.ref 109)⟩, ⟨PyData.keyHash P (Str.ofString "in_table_b1"), (.str (Str.ofString "in_table_b1") 384), (.ref 119)⟩, ⟨PyData.keyHash P (Str.ofString "c6_set"), (.str (Str.ofString "c6_set") 398), (.ref 121)⟩, ⟨PyData.keyHash P (Str.ofString "in_table_c6"), (.str (Str.ofString "in_table_c6") 405), (.ref 131)⟩, ⟨PyData.keyHash P (Str.ofString "c7_set"), (.str (Str.ofString "c7_set") 433), (.ref 133)⟩, ⟨PyData.keyHash P (Str.ofString "in_table_c7"), (.str (Str.ofString "in_table_c7") 440), (.ref 143)⟩, ⟨PyData.keyHash P (Str.ofString "c9_set"), (.str (Str.ofString "c9_set") 640), (.ref 151)⟩] 20, #[]⟩
noncomputable def o152v551 (P : Params) : Obj := ⟨(.type "list_iterator"), none, .fields #[.none, (.int (.ofNat (nat_lit 97)) (nat_lit 0))], #[]⟩
noncomputable def o153v552 (P : Params) : Obj := ⟨(.type "tuple"), none, .seq #[] 0, #[]⟩
noncomputable def o154v553 (P : Params) : Obj := ⟨(.type "StopIteration"), none, .fields #[(.ref 153), .none, .none, .none, (.bool false), .none], #[]⟩
noncomputable def t6 (f : Bool) (P : Params) : BT := (.node (boot_o_0 P) (.node (boot_o_1 P) (.node (o3v550 P) (.node (boot_o_7 P) (.node (o15v6 P) (.node (o31v24 P) (.node (o63v56 P) (.node (o127v208 P) .nil .nil) .nil) (.node (o95v90 P) .nil .nil)) (.node (o47v40 P) (.node (o79v72 P) (.node (o143v250 P) .nil .nil) .nil) (.node (o111v178 P) .nil .nil))) (.node (o23v16 P) (.node (o39v32 P) (.node (o71v64 P) (.node (o135v242 P) .nil .nil) .nil) (.node (o103v98 P) .nil .nil)) (.node (o55v48 P) (.node (o87v80 P) (.node (s151v548 f P) .nil .nil) .nil) (.node (o119v188 P) .nil .nil)))) (.node (o11v0 P) (.node (o19v10 P) (.node (o35v28 P) (.node (o67v60 P) (.node (o131v212 P) .nil .nil) .nil) (.node (o99v94 P) .nil .nil)) (.node (o51v44 P) (.node (o83v76 P) (.node (o147v350 P) .nil .nil) .nil) (.node (o115v184 P) .nil .nil))) (.node (o27v20 P) (.node (o43v36 P) (.node (o75v68 P) (.node (o139v246 P) .nil .nil) .nil) (.node (o107v118 P) .nil .nil)) (.node (o59v52 P) (.node (o91v86 P) .nil .nil) (.node (o123v204 P) .nil .nil))))) (.node (boot_o_5 P) (.node (boot_o_9 P) (.node (o17v8 P) (.node (o33v26 P) (.node (o65v58 P) (.node (o129v210 P) .nil .nil) .nil) (.node (o97v92 P) .nil .nil)) (.node (o49v42 P) (.node (o81v74 P) (.node (o145v252 P) .nil .nil) .nil) (.node (o113v182 P) .nil .nil))) (.node (o25v18 P) (.node (o41v34 P) (.node (o73v66 P) (.node (o137v244 P) .nil .nil) .nil) (.node (o105v116 P) .nil .nil)) (.node (o57v50 P) (.node (o89v84 P) (.node (o153v552 P) .nil .nil) .nil) (.node (s121v200 f P) .nil .nil)))) (.node (o13v2 P) (.node (o21v12 P) (.node (o37v30 P) (.node (o69v62 P) (.node (s133v238 f P) .nil .nil) .nil) (.node (o101v96 P) .nil .nil)) (.node (o53v46 P) (.node (o85v78 P) (.node (o149v352 P) .nil .nil) .nil) (.node (o117v186 P) .nil .nil))) (.node (o29v22 P) (.node (o45v38 P) (.node (o77v70 P) (.node (o141v248 P) .nil .nil) .nil) (.node (s109v174 f P) .nil .nil)) (.node (o61v54 P) (.node (o93v88 P) .nil .nil) (.node (o125v206 P) .nil .nil)))))) (.node (boot_o_2 P) (.node (boot_o_4 P) (.node (boot_o_8 P) (.node (o16v7 P) (.node (o32v25 P) (.node (o64v57 P) (.node (o128v209 P) .nil .nil) .nil) (.node (o96v91 P) .nil .nil)) (.node (o48v41 P) (.node (o80v73 P) (.node (o144v251 P) .nil .nil) .nil) (.node (o112v179 P) .nil .nil))) (.node (o24v17 P) (.node (o40v33 P) (.node (o72v65 P) (.node (o136v243 P) .nil .nil) .nil) (.node (o104v115 P) .nil .nil)) (.node (o56v49 P) (.node (o88v83 P) (.node (o152v551 P) .nil .nil) .nil) (.node (o120v189 P) .nil .nil)))) (.node (o12v241 P) (.node (o20v11 P) (.node (o36v29 P) (.node (o68v61 P) (.node (o132v213 P) .nil .nil) .nil) (.node (o100v95 P) .nil .nil)) (.node (o52v45 P) (.node (o84v77 P) (.node (o148v351 P) .nil .nil) .nil) (.node (o116v185 P) .nil .nil))) (.node (o28v21 P) (.node (o44v37 P) (.node (o76v69 P) (.node (o140v247 P) .nil .nil) .nil) (.node (o108v119 P) .nil .nil)) (.node (o60v53 P) (.node (o92v87 P) .nil .nil) (.node (o124v205 P) .nil .nil))))) (.node (boot_o_6 P) (.node (boot_o_10 P) (.node (o18v9 P) (.node (o34v27 P) (.node (o66v59 P) (.node (o130v211 P) .nil .nil) .nil) (.node (o98v93 P) .nil .nil)) (.node (o50v43 P) (.node (o82v75 P) (.node (o146v349 P) .nil .nil) .nil) (.node (o114v183 P) .nil .nil))) (.node (o26v19 P) (.node (o42v35 P) (.node (o74v67 P) (.node (o138v245 P) .nil .nil) .nil) (.node (o106v117 P) .nil .nil)) (.node (o58v51 P) (.node (o90v85 P) (.node (o154v553 P) .nil .nil) .nil) (.node (o122v201 P) .nil .nil)))) (.node (o14v3 P) (.node (o22v15 P) (.node (o38v31 P) (.node (o70v63 P) (.node (o134v239 P) .nil .nil) .nil) (.node (o102v97 P) .nil .nil)) (.node (o54v47 P) (.node (o86v79 P) (.node (o150v353 P) .nil .nil) .nil) (.node (o118v187 P) .nil .nil))) (.node (o30v23 P) (.node (o46v39 P) (.node (o78v71 P) (.node (o142v249 P) .nil .nil) .nil) (.node (o110v177 P) .nil .nil)) (.node (o62v55 P) (.node (o94v89 P) .nil .nil) (.node (o126v207 P) .nil .nil)))))))
noncomputable def S6 (f : Bool) (w : World) (os : OsState) : SharedT := ⟨t6 f w.params, 155, lf, gs, boot_drawn, 641, os⟩
noncomputable def Q6 (f : Bool) (w : World) : Prop := (fun os => twRun twTab pw (wf f w) m0 ann 1 27 (S6c146 f (wf f w) os) (T6c49 f w os)) = fun os => some (.next, S6 f (wf f w) os, cE, ⟨88, 0, 88, 6⟩)
noncomputable def G6 (f : Bool) (w : World) (os : OsState) : Option (Flow × SharedT × Code × Pos) := twRun twTab pw (wf f w) m0 ann 1 27 (S6c146 f (wf f w) os) (T6c49 f w os)
noncomputable def H6 (f : Bool) (w : World) (os : OsState) : Option (Flow × SharedT × Code × Pos) := some (.next, S6 f (wf f w) os, cE, ⟨88, 0, 88, 6⟩)
theorem y6 : ∀ (w : World), (G6 true w, G6 false w) = (H6 true w, H6 false w) := by intro w; kernel_rfl
theorem q6 : ∀ f w, Q6 f w := fun f => match f with | true => (fun w => (Eq.mp (show (G6 true w = H6 true w) = Q6 true w from by kernel_rfl) (pa1 (y6 w)))) | false => (fun w => (Eq.mp (show (G6 false w = H6 false w) = Q6 false w from by kernel_rfl) (pa2 (y6 w))))
theorem r6 (f : Bool) (w : World) (os : OsState) : segRun treeTable pw (wf f w) m0 ann 1 (87 + (34 + (34 + (34 + (34 + (34 + (34 + (34 + (34 + (34 + (34 + (34 + (34 + (34 + (34 + (34 + (34 + (34 + (34 + (34 + (34 + (34 + (34 + (34 + (34 + (34 + (34 + (34 + (34 + (34 + (34 + (34 + (34 + (34 + (34 + (34 + (34 + (34 + (34 + (34 + (34 + (34 + (34 + (34 + (34 + (34 + (34 + (34 + (34 + (59 + (20 + (20 + (20 + (20 + (22 + (20 + (20 + (20 + (20 + (20 + (20 + (20 + (20 + (20 + (20 + (20 + (20 + (20 + (22 + (20 + (20 + (20 + (20 + (20 + (20 + (20 + (20 + (20 + (20 + (20 + (20 + (20 + (20 + (20 + (20 + (20 + (20 + (20 + (20 + (20 + (20 + (20 + (20 + (20 + (20 + (20 + (20 + (20 + (20 + (20 + (20 + (20 + (20 + (20 + (20 + (20 + (20 + (20 + (20 + (20 + (20 + (20 + (20 + (20 + (20 + (20 + (20 + (20 + (20 + (20 + (20 + (20 + (20 + (20 + (20 + (20 + (22 + (20 + (20 + (20 + (20 + (20 + (20 + (20 + (20 + (20 + (20 + (20 + (20 + (20 + (20 + (20 + (20 + (20 + (20 + (20 + (20 + 27))))))))))))))))))))))))))))))))))))))))))))))))))))))))))))))))))))))))))))))))))))))))))))))))))))))))))))))))))))))))))))))))))))))))))))))))))) (S5 f (wf f w) os).abs (piecesOf sts6 env cE ⟨86, 0, 87, 30⟩ fB) = some (.next, (S6 f (wf f w) os).abs, cE, ⟨88, 0, 88, 6⟩) := TP_eq sts6 ⟨86, 0, 87, 30⟩ ▸ (seg_go (segGo_of (goEq (congrFun (q6c0 f w) os))) (seg_go (segGo_of (goEq (U6c0p y6c1 f w os))) (seg_go (segGo_of (goEq (U6c0p y6c2 f w os))) (seg_go (segGo_of (goEq (U6c0p y6c3 f w os))) (seg_go (segGo_of (goEq (U6c0p y6c4 f w os))) (seg_go (segGo_of (goEq (U6c0p y6c5 f w os))) (seg_go (segGo_of (goEq (U6c0p y6c6 f w os))) (seg_go (segGo_of (goEq (U6c0p y6c7 f w os))) (seg_go (segGo_of (goEq (U6c0p y6c8 f w os))) (seg_go (segGo_of (goEq (U6c0p y6c9 f w os))) (seg_go (segGo_of (goEq (U6c0p y6c10 f w os))) (seg_go (segGo_of (goEq (U6c0p y6c11 f w os))) (seg_go (segGo_of (goEq (U6c0p y6c12 f w os))) (seg_go (segGo_of (goEq (U6c0p y6c13 f w os))) (seg_go (segGo_of (goEq (U6c0p y6c14 f w os))) (seg_go (segGo_of (goEq (U6c0p y6c15 f w os))) (seg_go (segGo_of (goEq (U6c0p y6c16 f w os))) (seg_go (segGo_of (goEq (U6c0p y6c17 f w os))) (seg_go (segGo_of (goEq (U6c0p y6c18 f w os))) (seg_go (segGo_of (goEq (U6c0p y6c19 f w os))) (seg_go (segGo_of (goEq (U6c0p y6c20 f w os))) (seg_go (segGo_of (goEq (U6c0p y6c21 f w os))) (seg_go (segGo_of (goEq (U6c0p y6c22 f w os))) (seg_go (segGo_of (goEq (U6c0p y6c23 f w os))) (seg_go (segGo_of (goEq (U6c0p y6c24 f w os))) (seg_go (segGo_of (goEq (U6c0p y6c25 f w os))) (seg_go (segGo_of (goEq (U6c0p y6c26 f w os))) (seg_go (segGo_of (goEq (U6c0p y6c27 f w os))) (seg_go (segGo_of (goEq (U6c0p y6c28 f w os))) (seg_go (segGo_of (goEq (U6c0p y6c29 f w os))) (seg_go (segGo_of (goEq (U6c0p y6c30 f w os))) (seg_go (segGo_of (goEq (U6c0p y6c31 f w os))) (seg_go (segGo_of (goEq (U6c0p y6c32 f w os))) (seg_go (segGo_of (goEq (U6c0p y6c33 f w os))) (seg_go (segGo_of (goEq (U6c0p y6c34 f w os))) (seg_go (segGo_of (goEq (U6c0p y6c35 f w os))) (seg_go (segGo_of (goEq (U6c0p y6c36 f w os))) (seg_go (segGo_of (goEq (U6c0p y6c37 f w os))) (seg_go (segGo_of (goEq (U6c0p y6c38 f w os))) (seg_go (segGo_of (goEq (U6c0p y6c39 f w os))) (seg_go (segGo_of (goEq (U6c0p y6c40 f w os))) (seg_go (segGo_of (goEq (U6c0p y6c41 f w os))) (seg_go (segGo_of (goEq (U6c0p y6c42 f w os))) (seg_go (segGo_of (goEq (U6c0p y6c43 f w os))) (seg_go (segGo_of (goEq (U6c0p y6c44 f w os))) (seg_go (segGo_of (goEq (U6c0p y6c45 f w os))) (seg_go (segGo_of (goEq (U6c0p y6c46 f w os))) (seg_go (segGo_of (goEq (U6c0p y6c47 f w os))) (seg_go (segGo_of (goEq (U6c0p y6c48 f w os))) (seg_go (segGo_of (goEq (congrFun (q6c49 f w) os))) (seg_go (segGo_of (goEq (U6c49ms y6c50 f w os))) (seg_go (segGo_of (goEq (U6c49ms y6c51 f w os))) (seg_go (segGo_of (goEq (U6c49ms y6c52 f w os))) (seg_go (segGo_of (goEq (U6c49ms y6c53 f w os))) (seg_go (segGo_of (goEq (U6c49ms y6c54 f w os))) (seg_go (segGo_of (goEq (U6c49ms y6c55 f w os))) (seg_go (segGo_of (goEq (U6c49ms y6c56 f w os))) (seg_go (segGo_of (goEq (U6c49ms y6c57 f w os))) (seg_go (segGo_of (goEq (U6c49ms y6c58 f w os))) (seg_go (segGo_of (goEq (U6c49ms y6c59 f w os))) (seg_go (segGo_of (goEq (U6c49ms y6c60 f w os))) (seg_go (segGo_of (goEq (U6c49ms y6c61 f w os))) (seg_go (segGo_of (goEq (U6c49ms y6c62 f w os))) (seg_go (segGo_of (goEq (U6c49ms y6c63 f w os))) (seg_go (segGo_of (goEq (U6c49ms y6c64 f w os))) (seg_go (segGo_of (goEq (U6c49ms y6c65 f w os))) (seg_go (segGo_of (goEq (U6c49ms y6c66 f w os))) (seg_go (segGo_of (goEq (U6c49ms y6c67 f w os))) (seg_go (segGo_of (goEq (U6c49ms y6c68 f w os))) (seg_go (segGo_of (goEq (U6c49ms y6c69 f w os))) (seg_go (segGo_of (goEq (U6c49ms y6c70 f w os))) (seg_go (segGo_of (goEq (U6c49ms y6c71 f w os))) (seg_go (segGo_of (goEq (U6c49ms y6c72 f w os))) (seg_go (segGo_of (goEq (U6c49ms y6c73 f w os))) (seg_go (segGo_of (goEq (U6c49ms y6c74 f w os))) (seg_go (segGo_of (goEq (U6c49ms y6c75 f w os))) (seg_go (segGo_of (goEq (U6c49ms y6c76 f w os))) (seg_go (segGo_of (goEq (U6c49ms y6c77 f w os))) (seg_go (segGo_of (goEq (U6c49ms y6c78 f w os))) (seg_go (segGo_of (goEq (U6c49ms y6c79 f w os))) (seg_go (segGo_of (goEq (U6c49ms y6c80 f w os))) (seg_go (segGo_of (goEq (U6c49ms y6c81 f w os))) (seg_go (segGo_of (goEq (U6c49ms y6c82 f w os))) (seg_go (segGo_of (goEq (U6c49ms y6c83 f w os))) (seg_go (segGo_of (goEq (U6c49ms y6c84 f w os))) (seg_go (segGo_of (goEq (U6c49ms y6c85 f w os))) (seg_go (segGo_of (goEq (U6c49ms y6c86 f w os))) (seg_go (segGo_of (goEq (U6c49ms y6c87 f w os))) (seg_go (segGo_of (goEq (U6c49ms y6c88 f w os))) (seg_go (segGo_of (goEq (U6c49ms y6c89 f w os))) (seg_go (segGo_of (goEq (U6c49ms y6c90 f w os))) (seg_go (segGo_of (goEq (U6c49ms y6c91 f w os))) (seg_go (segGo_of (goEq (U6c49ms y6c92 f w os))) (seg_go (segGo_of (goEq (U6c49ms y6c93 f w os))) (seg_go (segGo_of (goEq (U6c49ms y6c94 f w os))) (seg_go (segGo_of (goEq (U6c49ms y6c95 f w os))) (seg_go (segGo_of (goEq (U6c49ms y6c96 f w os))) (seg_go (segGo_of (goEq (U6c49ms y6c97 f w os))) (seg_go (segGo_of (goEq (U6c49ms y6c98 f w os))) (seg_go (segGo_of (goEq (U6c49ms y6c99 f w os))) (seg_go (segGo_of (goEq (U6c49ms y6c100 f w os))) (seg_go (segGo_of (goEq (U6c49ms y6c101 f w os))) (seg_go (segGo_of (goEq (U6c49ms y6c102 f w os))) (seg_go (segGo_of (goEq (U6c49ms y6c103 f w os))) (seg_go (segGo_of (goEq (U6c49ms y6c104 f w os))) (seg_go (segGo_of (goEq (U6c49ms y6c105 f w os))) (seg_go (segGo_of (goEq (U6c49ms y6c106 f w os))) (seg_go (segGo_of (goEq (U6c49ms y6c107 f w os))) (seg_go (segGo_of (goEq (U6c49ms y6c108 f w os))) (seg_go (segGo_of (goEq (U6c49ms y6c109 f w os))) (seg_go (segGo_of (goEq (U6c49ms y6c110 f w os))) (seg_go (segGo_of (goEq (U6c49ms y6c111 f w os))) (seg_go (segGo_of (goEq (U6c49ms y6c112 f w os))) (seg_go (segGo_of (goEq (U6c49ms y6c113 f w os))) (seg_go (segGo_of (goEq (U6c49ms y6c114 f w os))) (seg_go (segGo_of (goEq (U6c49ms y6c115 f w os))) (seg_go (segGo_of (goEq (U6c49ms y6c116 f w os))) (seg_go (segGo_of (goEq (U6c49ms y6c117 f w os))) (seg_go (segGo_of (goEq (U6c49ms y6c118 f w os))) (seg_go (segGo_of (goEq (U6c49ms y6c119 f w os))) (seg_go (segGo_of (goEq (U6c49ms y6c120 f w os))) (seg_go (segGo_of (goEq (U6c49ms y6c121 f w os))) (seg_go (segGo_of (goEq (U6c49ms y6c122 f w os))) (seg_go (segGo_of (goEq (U6c49ms y6c123 f w os))) (seg_go (segGo_of (goEq (U6c49ms y6c124 f w os))) (seg_go (segGo_of (goEq (U6c49ms y6c125 f w os))) (seg_go (segGo_of (goEq (U6c49ms y6c126 f w os))) (seg_go (segGo_of (goEq (U6c49ms y6c127 f w os))) (seg_go (segGo_of (goEq (U6c49ms y6c128 f w os))) (seg_go (segGo_of (goEq (U6c49ms y6c129 f w os))) (seg_go (segGo_of (goEq (U6c49ms y6c130 f w os))) (seg_go (segGo_of (goEq (U6c49ms y6c131 f w os))) (seg_go (segGo_of (goEq (U6c49ms y6c132 f w os))) (seg_go (segGo_of (goEq (U6c49ms y6c133 f w os))) (seg_go (segGo_of (goEq (U6c49ms y6c134 f w os))) (seg_go (segGo_of (goEq (U6c49ms y6c135 f w os))) (seg_go (segGo_of (goEq (U6c49ms y6c136 f w os))) (seg_go (segGo_of (goEq (U6c49ms y6c137 f w os))) (seg_go (segGo_of (goEq (U6c49ms y6c138 f w os))) (seg_go (segGo_of (goEq (U6c49ms y6c139 f w os))) (seg_go (segGo_of (goEq (U6c49ms y6c140 f w os))) (seg_go (segGo_of (goEq (U6c49ms y6c141 f w os))) (seg_go (segGo_of (goEq (U6c49ms y6c142 f w os))) (seg_go (segGo_of (goEq (U6c49ms y6c143 f w os))) (seg_go (segGo_of (goEq (U6c49ms y6c144 f w os))) (seg_go (segGo_of (goEq (U6c49ms y6c145 f w os))) (seg_go (segGo_of (goEq (U6c49ms y6c146 f w os))) (lastRun (r := (_, _, _)) (congrFun (q6 f w) os)))))))))))))))))))))))))))))))))))))))))))))))))))))))))))))))))))))))))))))))))))))))))))))))))))))))))))))))))))))))))))))))))))))))))))))))))))))
noncomputable def sts7 : List Stmt := (pw.main.body.drop 14).take 42
noncomputable def o3v554 (P : Params) : Obj := ⟨(.type "dict"), none, .dict #[⟨PyData.keyHash P (Str.ofString "__name__"), (.str (Str.ofString "__name__") 165), (.str (Str.ofString "cpy313.token") 648)⟩, ⟨PyData.keyHash P (Str.ofString "__doc__"), (.str (Str.ofString "__doc__") 166), .none⟩, ⟨PyData.keyHash P (Str.ofString "__package__"), (.str (Str.ofString "__package__") 167), .none⟩, ⟨PyData.keyHash P (Str.ofString "__loader__"), (.str (Str.ofString "__loader__") 168), (.builtin "__main__.__loader__#opaque")⟩, ⟨PyData.keyHash P (Str.ofString "__spec__"), (.str (Str.ofString "__spec__") 169), .none⟩, ⟨PyData.keyHash P (Str.ofString "__annotations__"), (.str (Str.ofString "__annotations__") 170), (.ref 6)⟩, ⟨PyData.keyHash P (Str.ofString "__builtins__"), (.str (Str.ofString "__builtins__") 171), (.ref 4)⟩, ⟨PyData.keyHash P (Str.ofString "__file__"), (.str (Str.ofString "__file__") 173), (.str (Str.ofString "/claim/cut.py") 172)⟩, ⟨PyData.keyHash P (Str.ofString "__cached__"), (.str (Str.ofString "__cached__") 174), .none⟩, ⟨PyData.keyHash P (Str.ofString "_wall"), (.str (Str.ofString "_wall") 193), (.ref 21)⟩, ⟨PyData.keyHash P (Str.ofString "Whitespace"), (.str (Str.ofString "Whitespace") 291), (.ref 83)⟩, ⟨PyData.keyHash P (Str.ofString "_int2digits"), (.str (Str.ofString "_int2digits") 304), (.ref 94)⟩, ⟨PyData.keyHash P (Str.ofString "_digits2int"), (.str (Str.ofString "_digits2int") 315), (.ref 101)⟩, ⟨PyData.keyHash P (Str.ofString "b1_set"), (.str (Str.ofString "b1_set") 377), (.ref 109)⟩, ⟨PyData.keyHash P (Str.ofString "in_table_b1"), (.str (Str.ofString "in_table_b1") 384), (.ref 119)⟩, ⟨PyData.keyHash P (Str.ofString "c6_set"), (.str (Str.ofString "c6_set") 398), (.ref 121)⟩, ⟨PyData.keyHash P (Str.ofString "in_table_c6"), (.str (Str.ofString "in_table_c6") 405), (.ref 131)⟩, ⟨PyData.keyHash P (Str.ofString "c7_set"), (.str (Str.ofString "c7_set") 433), (.ref 133)⟩, ⟨PyData.keyHash P (Str.ofString "in_table_c7"), (.str (Str.ofString "in_table_c7") 440), (.ref 143)⟩, ⟨PyData.keyHash P (Str.ofString "c9_set"), (.str (Str.ofString "c9_set") 640), (.ref 151)⟩, ⟨PyData.keyHash P (Str.ofString "in_table_c9"), (.str (Str.ofString "in_table_c9") 647), (.ref 161)⟩, ⟨PyData.keyHash P (Str.ofString "ENDMARKER"), (.str (Str.ofString "ENDMARKER") 651), (.int (.ofNat (nat_lit 0)) (nat_lit 650))⟩, ⟨PyData.keyHash P (Str.ofString "LPAR"), (.str (Str.ofString "LPAR") 653), (.int (.ofNat (nat_lit 7)) (nat_lit 652))⟩, ⟨PyData.keyHash P (Str.ofString "RPAR"), (.str (Str.ofString "RPAR") 655), (.int (.ofNat (nat_lit 8)) (nat_lit 654))⟩, ⟨PyData.keyHash P (Str.ofString "LSQB"), (.str (Str.ofString "LSQB") 657), (.int (.ofNat (nat_lit 9)) (nat_lit 656))⟩, ⟨PyData.keyHash P (Str.ofString "RSQB"), (.str (Str.ofString "RSQB") 659), (.int (.ofNat (nat_lit 10)) (nat_lit 658))⟩, ⟨PyData.keyHash P (Str.ofString "COLON"), (.str (Str.ofString "COLON") 661), (.int (.ofNat (nat_lit 11)) (nat_lit 660))⟩, ⟨PyData.keyHash P (Str.ofString "COMMA"), (.str (Str.ofString "COMMA") 663), (.int (.ofNat (nat_lit 12)) (nat_lit 662))⟩, ⟨PyData.keyHash P (Str.ofString "SEMI"), (.str (Str.ofString "SEMI") 665), (.int (.ofNat (nat_lit 13)) (nat_lit 664))⟩, ⟨PyData.keyHash P (Str.ofString "PLUS"), (.str (Str.ofString "PLUS") 667), (.int (.ofNat (nat_lit 14)) (nat_lit 666))⟩, ⟨PyData.keyHash P (Str.ofString "MINUS"), (.str (Str.ofString "MINUS") 669), (.int (.ofNat (nat_lit 15)) (nat_lit 668))⟩, ⟨PyData.keyHash P (Str.ofString "STAR"), (.str (Str.ofString "STAR") 671), (.int (.ofNat (nat_lit 16)) (nat_lit 670))⟩, ⟨PyData.keyHash P (Str.ofString "SLASH"), (.str (Str.ofString "SLASH") 673), (.int (.ofNat (nat_lit 17)) (nat_lit 672))⟩, ⟨PyData.keyHash P (Str.ofString "VBAR"), (.str (Str.ofString "VBAR") 675), (.int (.ofNat (nat_lit 18)) (nat_lit 674))⟩, ⟨PyData.keyHash P (Str.ofString "AMPER"), (.str (Str.ofString "AMPER") 677), (.int (.ofNat (nat_lit 19)) (nat_lit 676))⟩, ⟨PyData.keyHash P (Str.ofString "LESS"), (.str (Str.ofString "LESS") 679), (.int (.ofNat (nat_lit 20)) (nat_lit 678))⟩, ⟨PyData.keyHash P (Str.ofString "GREATER"), (.str (Str.ofString "GREATER") 681), (.int (.ofNat (nat_lit 21)) (nat_lit 680))⟩, ⟨PyData.keyHash P (Str.ofString "EQUAL"), (.str (Str.ofString "EQUAL") 683), (.int (.ofNat (nat_lit 22)) (nat_lit 682))⟩, ⟨PyData.keyHash P (Str.ofString "DOT"), (.str (Str.ofString "DOT") 685), (.int (.ofNat (nat_lit 23)) (nat_lit 684))⟩, ⟨PyData.keyHash P (Str.ofString "PERCENT"), (.str (Str.ofString "PERCENT") 687), (.int (.ofNat (nat_lit 24)) (nat_lit 686))⟩, ⟨PyData.keyHash P (Str.ofString "LBRACE"), (.str (Str.ofString "LBRACE") 689), (.int (.ofNat (nat_lit 25)) (nat_lit 688))⟩, ⟨PyData.keyHash P (Str.ofString "RBRACE"), (.str (Str.ofString "RBRACE") 691), (.int (.ofNat (nat_lit 26)) (nat_lit 690))⟩, ⟨PyData.keyHash P (Str.ofString "EQEQUAL"), (.str (Str.ofString "EQEQUAL") 693), (.int (.ofNat (nat_lit 27)) (nat_lit 692))⟩, ⟨PyData.keyHash P (Str.ofString "NOTEQUAL"), (.str (Str.ofString "NOTEQUAL") 695), (.int (.ofNat (nat_lit 28)) (nat_lit 694))⟩, ⟨PyData.keyHash P (Str.ofString "LESSEQUAL"), (.str (Str.ofString "LESSEQUAL") 697), (.int (.ofNat (nat_lit 29)) (nat_lit 696))⟩, ⟨PyData.keyHash P (Str.ofString "GREATEREQUAL"), (.str (Str.ofString "GREATEREQUAL") 699), (.int (.ofNat (nat_lit 30)) (nat_lit 698))⟩, ⟨PyData.keyHash P (Str.ofString "TILDE"), (.str (Str.ofString "TILDE") 701), (.int (.ofNat (nat_lit 31)) (nat_lit 700))⟩, ⟨PyData.keyHash P (Str.ofString "CIRCUMFLEX"), (.str (Str.ofString "CIRCUMFLEX") 703), (.int (.ofNat (nat_lit 32)) (nat_lit 702))⟩, ⟨PyData.keyHash P (Str.ofString "LEFTSHIFT"), (.str (Str.ofString "LEFTSHIFT") 705), (.int (.ofNat (nat_lit 33)) (nat_lit 704))⟩, ⟨PyData.keyHash P (Str.ofString "RIGHTSHIFT"), (.str (Str.ofString "RIGHTSHIFT") 707), (.int (.ofNat (nat_lit 34)) (nat_lit 706))⟩, ⟨PyData.keyHash P (Str.ofString "DOUBLESTAR"), (.str (Str.ofString "DOUBLESTAR") 709), (.int (.ofNat (nat_lit 35)) (nat_lit 708))⟩, ⟨PyData.keyHash P (Str.ofString "PLUSEQUAL"), (.str (Str.ofString "PLUSEQUAL") 711), (.int (.ofNat (nat_lit 36)) (nat_lit 710))⟩, ⟨PyData.keyHash P (Str.ofString "MINEQUAL"), (.str (Str.ofString "MINEQUAL") 713), (.int (.ofNat (nat_lit 37)) (nat_lit 712))⟩, ⟨PyData.keyHash P (Str.ofString "STAREQUAL"), (.str (Str.ofString "STAREQUAL") 715), (.int (.ofNat (nat_lit 38)) (nat_lit 714))⟩, ⟨PyData.keyHash P (Str.ofString "SLASHEQUAL"), (.str (Str.ofString "SLASHEQUAL") 717), (.int (.ofNat (nat_lit 39)) (nat_lit 716))⟩, ⟨PyData.keyHash P (Str.ofString "PERCENTEQUAL"), (.str (Str.ofString "PERCENTEQUAL") 719), (.int (.ofNat (nat_lit 40)) (nat_lit 718))⟩, ⟨PyData.keyHash P (Str.ofString "AMPEREQUAL"), (.str (Str.ofString "AMPEREQUAL") 721), (.int (.ofNat (nat_lit 41)) (nat_lit 720))⟩, ⟨PyData.keyHash P (Str.ofString "VBAREQUAL"), (.str (Str.ofString "VBAREQUAL") 723), (.int (.ofNat (nat_lit 42)) (nat_lit 722))⟩, ⟨PyData.keyHash P (Str.ofString "CIRCUMFLEXEQUAL"), (.str (Str.ofString "CIRCUMFLEXEQUAL") 725), (.int (.ofNat (nat_lit 43)) (nat_lit 724))⟩, ⟨PyData.keyHash P (Str.ofString "LEFTSHIFTEQUAL"), (.str (Str.ofString "LEFTSHIFTEQUAL") 727), (.int (.ofNat (nat_lit 44)) (nat_lit 726))⟩, ⟨PyData.keyHash P (Str.ofString "RIGHTSHIFTEQUAL"), (.str (Str.ofString "RIGHTSHIFTEQUAL") 729), (.int (.ofNat (nat_lit 45)) (nat_lit 728))⟩] 61, #[]⟩
noncomputable def o12v555 (P : Params) : Obj := ⟨.none, none, .fields #[(.int (.ofNat (nat_lit 1)) (nat_lit 0)), (.int (.ofNat (nat_lit 0)) (nat_lit 0)), (.ref 20), (.int (.ofNat (nat_lit 5)) (nat_lit 0)), (.int (.ofNat (nat_lit 0)) (nat_lit 0)), (.ref 27), (.int (.ofNat (nat_lit 53)) (nat_lit 0)), (.int (.ofNat (nat_lit 0)) (nat_lit 0)), (.ref 93), (.int (.ofNat (nat_lit 69)) (nat_lit 0)), (.int (.ofNat (nat_lit 0)) (nat_lit 0)), (.ref 100), (.int (.ofNat (nat_lit 80)) (nat_lit 0)), (.int (.ofNat (nat_lit 0)) (nat_lit 0)), (.ref 118), (.int (.ofNat (nat_lit 83)) (nat_lit 0)), (.int (.ofNat (nat_lit 0)) (nat_lit 0)), (.ref 130), (.int (.ofNat (nat_lit 86)) (nat_lit 0)), (.int (.ofNat (nat_lit 0)) (nat_lit 0)), (.ref 142), (.int (.ofNat (nat_lit 89)) (nat_lit 0)), (.int (.ofNat (nat_lit 0)) (nat_lit 0)), (.ref 160)], #[]⟩
noncomputable def o155v556 (P : Params) : Obj := ⟨(.type "tuple"), none, .seq #[] 0, #[]⟩
noncomputable def o156v557 (P : Params) : Obj := ⟨.none, none, .fields #[], #[]⟩
noncomputable def o157v558 (P : Params) : Obj := ⟨(.type "tuple"), none, .seq #[(.str (Str.ofString "code") 644)] 0, #[]⟩
noncomputable def o158v559 (P : Params) : Obj := ⟨(.type "tuple"), none, .seq #[] 0, #[]⟩
noncomputable def o159v560 (P : Params) : Obj := ⟨.none, none, .func { name := (Str.ofString "in_table_c9"), qualname := (Str.ofString "in_table_c9"), params := A14.1, body := .stmts B14.1, scope := C14.1, globals := 0, closure := [], defaults := .none, kwdefaults := .none, doc := .none, pyModule := .none, annotations := none, code := .none, closureTuple := .none, builtins := 0 }, #[]⟩
noncomputable def o160v561 (P : Params) : Obj := ⟨(.type "code"), none, .fields #[(.str (Str.ofString "in_table_c9") 641), (.str (Str.ofString "in_table_c9") 642), (.str (Str.ofString "/claim/cut.py") 643), (.int (.ofNat (nat_lit 89)) (nat_lit 0)), (.int (.ofNat (nat_lit 1)) (nat_lit 0)), (.int (.ofNat (nat_lit 0)) (nat_lit 0)), (.int (.ofNat (nat_lit 0)) (nat_lit 0)), (.int (.ofNat (nat_lit 3)) (nat_lit 0)), (.ref 155), (.bool true), (.int (.ofNat (nat_lit 181)) (nat_lit 0)), (.ref 156), .none, (.ref 157), (.ref 158), (.ref 159), (.int (.ofNat (nat_lit 645)) (nat_lit 0)), (.int (.ofNat (nat_lit 89)) (nat_lit 0)), (.str (Str.ofString "/claim/cut.py") 646)], #[]⟩
noncomputable def o161v562 (P : Params) : Obj := ⟨(.type "function"), none, .func { name := (Str.ofString "in_table_c9"), qualname := (Str.ofString "in_table_c9"), params := A14.1, body := .stmts B14.1, scope := C14.1, globals := 3, closure := [], defaults := .none, kwdefaults := .none, doc := .none, pyModule := (.str (Str.ofString "cpy313.stringprep") 316), annotations := none, code := (.ref 160), closureTuple := .none, builtins := 0 }, #[]⟩
noncomputable def t7 (f : Bool) (P : Params) : BT := (.node (boot_o_0 P) (.node (boot_o_1 P) (.node (o3v554 P) (.node (boot_o_7 P) (.node (o15v6 P) (.node (o31v24 P) (.node (o63v56 P) (.node (o127v208 P) .nil .nil) .nil) (.node (o95v90 P) (.node (o159v560 P) .nil .nil) .nil)) (.node (o47v40 P) (.node (o79v72 P) (.node (o143v250 P) .nil .nil) .nil) (.node (o111v178 P) .nil .nil))) (.node (o23v16 P) (.node (o39v32 P) (.node (o71v64 P) (.node (o135v242 P) .nil .nil) .nil) (.node (o103v98 P) .nil .nil)) (.node (o55v48 P) (.node (o87v80 P) (.node (s151v548 f P) .nil .nil) .nil) (.node (o119v188 P) .nil .nil)))) (.node (o11v0 P) (.node (o19v10 P) (.node (o35v28 P) (.node (o67v60 P) (.node (o131v212 P) .nil .nil) .nil) (.node (o99v94 P) .nil .nil)) (.node (o51v44 P) (.node (o83v76 P) (.node (o147v350 P) .nil .nil) .nil) (.node (o115v184 P) .nil .nil))) (.node (o27v20 P) (.node (o43v36 P) (.node (o75v68 P) (.node (o139v246 P) .nil .nil) .nil) (.node (o107v118 P) .nil .nil)) (.node (o59v52 P) (.node (o91v86 P) (.node (o155v556 P) .nil .nil) .nil) (.node (o123v204 P) .nil .nil))))) (.node (boot_o_5 P) (.node (boot_o_9 P) (.node (o17v8 P) (.node (o33v26 P) (.node (o65v58 P) (.node (o129v210 P) .nil .nil) .nil) (.node (o97v92 P) (.node (o161v562 P) .nil .nil) .nil)) (.node (o49v42 P) (.node (o81v74 P) (.node (o145v252 P) .nil .nil) .nil) (.node (o113v182 P) .nil .nil))) (.node (o25v18 P) (.node (o41v34 P) (.node (o73v66 P) (.node (o137v244 P) .nil .nil) .nil) (.node (o105v116 P) .nil .nil)) (.node (o57v50 P) (.node (o89v84 P) (.node (o153v552 P) .nil .nil) .nil) (.node (s121v200 f P) .nil .nil)))) (.node (o13v2 P) (.node (o21v12 P) (.node (o37v30 P) (.node (o69v62 P) (.node (s133v238 f P) .nil .nil) .nil) (.node (o101v96 P) .nil .nil)) (.node (o53v46 P) (.node (o85v78 P) (.node (o149v352 P) .nil .nil) .nil) (.node (o117v186 P) .nil .nil))) (.node (o29v22 P) (.node (o45v38 P) (.node (o77v70 P) (.node (o141v248 P) .nil .nil) .nil) (.node (s109v174 f P) .nil .nil)) (.node (o61v54 P) (.node (o93v88 P) (.node (o157v558 P) .nil .nil) .nil) (.node (o125v206 P) .nil .nil)))))) (.node (boot_o_2 P) (.node (boot_o_4 P) (.node (boot_o_8 P) (.node (o16v7 P) (.node (o32v25 P) (.node (o64v57 P) (.node (o128v209 P) .nil .nil) .nil) (.node (o96v91 P) (.node (o160v561 P) .nil .nil) .nil)) (.node (o48v41 P) (.node (o80v73 P) (.node (o144v251 P) .nil .nil) .nil) (.node (o112v179 P) .nil .nil))) (.node (o24v17 P) (.node (o40v33 P) (.node (o72v65 P) (.node (o136v243 P) .nil .nil) .nil) (.node (o104v115 P) .nil .nil)) (.node (o56v49 P) (.node (o88v83 P) (.node (o152v551 P) .nil .nil) .nil) (.node (o120v189 P) .nil .nil)))) (.node (o12v555 P) (.node (o20v11 P) (.node (o36v29 P) (.node (o68v61 P) (.node (o132v213 P) .nil .nil) .nil) (.node (o100v95 P) .nil .nil)) (.node (o52v45 P) (.node (o84v77 P) (.node (o148v351 P) .nil .nil) .nil) (.node (o116v185 P) .nil .nil))) (.node (o28v21 P) (.node (o44v37 P) (.node (o76v69 P) (.node (o140v247 P) .nil .nil) .nil) (.node (o108v119 P) .nil .nil)) (.node (o60v53 P) (.node (o92v87 P) (.node (o156v557 P) .nil .nil) .nil) (.node (o124v205 P) .nil .nil))))) (.node (boot_o_6 P) (.node (boot_o_10 P) (.node (o18v9 P) (.node (o34v27 P) (.node (o66v59 P) (.node (o130v211 P) .nil .nil) .nil) (.node (o98v93 P) .nil .nil)) (.node (o50v43 P) (.node (o82v75 P) (.node (o146v349 P) .nil .nil) .nil) (.node (o114v183 P) .nil .nil))) (.node (o26v19 P) (.node (o42v35 P) (.node (o74v67 P) (.node (o138v245 P) .nil .nil) .nil) (.node (o106v117 P) .nil .nil)) (.node (o58v51 P) (.node (o90v85 P) (.node (o154v553 P) .nil .nil) .nil) (.node (o122v201 P) .nil .nil)))) (.node (o14v3 P) (.node (o22v15 P) (.node (o38v31 P) (.node (o70v63 P) (.node (o134v239 P) .nil .nil) .nil) (.node (o102v97 P) .nil .nil)) (.node (o54v47 P) (.node (o86v79 P) (.node (o150v353 P) .nil .nil) .nil) (.node (o118v187 P) .nil .nil))) (.node (o30v23 P) (.node (o46v39 P) (.node (o78v71 P) (.node (o142v249 P) .nil .nil) .nil) (.node (o110v177 P) .nil .nil)) (.node (o62v55 P) (.node (o94v89 P) (.node (o158v559 P) .nil .nil) .nil) (.node (o126v207 P) .nil .nil)))))))
noncomputable def S7 (f : Bool) (w : World) (os : OsState) : SharedT := ⟨t7 f w.params, 162, lf, gs, boot_drawn, 730, os⟩
noncomputable def Q7 (f : Bool) (w : World) : Prop := (fun os => twRun twTab pw (wf f w) m0 ann 1 399 (S6 f (wf f w) os) (TP sts7 ⟨88, 0, 88, 6⟩)) = fun os => some (.next, S7 f (wf f w) os, cE, ⟨131, 0, 131, 15⟩)
theorem q7 : ∀ f w, Q7 f w := fun f => (fun w => by unfold Q7; kernel_rfl)
theorem r7 (f : Bool) (w : World) (os : OsState) : segRun treeTable pw (wf f w) m0 ann 1 399 (S6 f (wf f w) os).abs (piecesOf sts7 env cE ⟨88, 0, 88, 6⟩ fB) = some (.next, (S7 f (wf f w) os).abs, cE, ⟨131, 0, 131, 15⟩) := TP_eq sts7 ⟨88, 0, 88, 6⟩ ▸ (lastRun (r := (_, _, _)) (congrFun (q7 f w) os))
noncomputable def sts8 : List Stmt := (pw.main.body.drop 56).take 9
noncomputable def o3v563 (P : Params) : Obj := ⟨(.type "dict"), none, .dict #[⟨PyData.keyHash P (Str.ofString "__name__"), (.str (Str.ofString "__name__") 165), (.str (Str.ofString "cpy313.token") 648)⟩, ⟨PyData.keyHash P (Str.ofString "__doc__"), (.str (Str.ofString "__doc__") 166), .none⟩, ⟨PyData.keyHash P (Str.ofString "__package__"), (.str (Str.ofString "__package__") 167), .none⟩, ⟨PyData.keyHash P (Str.ofString "__loader__"), (.str (Str.ofString "__loader__") 168), (.builtin "__main__.__loader__#opaque")⟩, ⟨PyData.keyHash P (Str.ofString "__spec__"), (.str (Str.ofString "__spec__") 169), .none⟩, ⟨PyData.keyHash P (Str.ofString "__annotations__"), (.str (Str.ofString "__annotations__") 170), (.ref 6)⟩, ⟨PyData.keyHash P (Str.ofString "__builtins__"), (.str (Str.ofString "__builtins__") 171), (.ref 4)⟩, ⟨PyData.keyHash P (Str.ofString "__file__"), (.str (Str.ofString "__file__") 173), (.str (Str.ofString "/claim/cut.py") 172)⟩, ⟨PyData.keyHash P (Str.ofString "__cached__"), (.str (Str.ofString "__cached__") 174), .none⟩, ⟨PyData.keyHash P (Str.ofString "_wall"), (.str (Str.ofString "_wall") 193), (.ref 21)⟩, ⟨PyData.keyHash P (Str.ofString "Whitespace"), (.str (Str.ofString "Whitespace") 291), (.ref 83)⟩, ⟨PyData.keyHash P (Str.ofString "_int2digits"), (.str (Str.ofString "_int2digits") 304), (.ref 94)⟩, ⟨PyData.keyHash P (Str.ofString "_digits2int"), (.str (Str.ofString "_digits2int") 315), (.ref 101)⟩, ⟨PyData.keyHash P (Str.ofString "b1_set"), (.str (Str.ofString "b1_set") 377), (.ref 109)⟩, ⟨PyData.keyHash P (Str.ofString "in_table_b1"), (.str (Str.ofString "in_table_b1") 384), (.ref 119)⟩, ⟨PyData.keyHash P (Str.ofString "c6_set"), (.str (Str.ofString "c6_set") 398), (.ref 121)⟩, ⟨PyData.keyHash P (Str.ofString "in_table_c6"), (.str (Str.ofString "in_table_c6") 405), (.ref 131)⟩, ⟨PyData.keyHash P (Str.ofString "c7_set"), (.str (Str.ofString "c7_set") 433), (.ref 133)⟩, ⟨PyData.keyHash P (Str.ofString "in_table_c7"), (.str (Str.ofString "in_table_c7") 440), (.ref 143)⟩, ⟨PyData.keyHash P (Str.ofString "c9_set"), (.str (Str.ofString "c9_set") 640), (.ref 151)⟩, ⟨PyData.keyHash P (Str.ofString "in_table_c9"), (.str (Str.ofString "in_table_c9") 647), (.ref 161)⟩, ⟨PyData.keyHash P (Str.ofString "ENDMARKER"), (.str (Str.ofString "ENDMARKER") 651), (.int (.ofNat (nat_lit 0)) (nat_lit 650))⟩, ⟨PyData.keyHash P (Str.ofString "LPAR"), (.str (Str.ofString "LPAR") 653), (.int (.ofNat (nat_lit 7)) (nat_lit 652))⟩, ⟨PyData.keyHash P (Str.ofString "RPAR"), (.str (Str.ofString "RPAR") 655), (.int (.ofNat (nat_lit 8)) (nat_lit 654))⟩, ⟨PyData.keyHash P (Str.ofString "LSQB"), (.str (Str.ofString "LSQB") 657), (.int (.ofNat (nat_lit 9)) (nat_lit 656))⟩, ⟨PyData.keyHash P (Str.ofString "RSQB"), (.str (Str.ofString "RSQB") 659), (.int (.ofNat (nat_lit 10)) (nat_lit 658))⟩, ⟨PyData.keyHash P (Str.ofString "COLON"), (.str (Str.ofString "COLON") 661), (.int (.ofNat (nat_lit 11)) (nat_lit 660))⟩, ⟨PyData.keyHash P (Str.ofString "COMMA"), (.str (Str.ofString "COMMA") 663), (.int (.ofNat (nat_lit 12)) (nat_lit 662))⟩, ⟨PyData.keyHash P (Str.ofString "SEMI"), (.str (Str.ofString "SEMI") 665), (.int (.ofNat (nat_lit 13)) (nat_lit 664))⟩, ⟨PyData.keyHash P (Str.ofString "PLUS"), (.str (Str.ofString "PLUS") 667), (.int (.ofNat (nat_lit 14)) (nat_lit 666))⟩, ⟨PyData.keyHash P (Str.ofString "MINUS"), (.str (Str.ofString "MINUS") 669), (.int (.ofNat (nat_lit 15)) (nat_lit 668))⟩, ⟨PyData.keyHash P (Str.ofString "STAR"), (.str (Str.ofString "STAR") 671), (.int (.ofNat (nat_lit 16)) (nat_lit 670))⟩, ⟨PyData.keyHash P (Str.ofString "SLASH"), (.str (Str.ofString "SLASH") 673), (.int (.ofNat (nat_lit 17)) (nat_lit 672))⟩, ⟨PyData.keyHash P (Str.ofString "VBAR"), (.str (Str.ofString "VBAR") 675), (.int (.ofNat (nat_lit 18)) (nat_lit 674))⟩, ⟨PyData.keyHash P (Str.ofString "AMPER"), (.str (Str.ofString "AMPER") 677), (.int (.ofNat (nat_lit 19)) (nat_lit 676))⟩, ⟨PyData.keyHash P (Str.ofString "LESS"), (.str (Str.ofString "LESS") 679), (.int (.ofNat (nat_lit 20)) (nat_lit 678))⟩, ⟨PyData.keyHash P (Str.ofString "GREATER"), (.str (Str.ofString "GREATER") 681), (.int (.ofNat (nat_lit 21)) (nat_lit 680))⟩, ⟨PyData.keyHash P (Str.ofString "EQUAL"), (.str (Str.ofString "EQUAL") 683), (.int (.ofNat (nat_lit 22)) (nat_lit 682))⟩, ⟨PyData.keyHash P (Str.ofString "DOT"), (.str (Str.ofString "DOT") 685), (.int (.ofNat (nat_lit 23)) (nat_lit 684))⟩, ⟨PyData.keyHash P (Str.ofString "PERCENT"), (.str (Str.ofString "PERCENT") 687), (.int (.ofNat (nat_lit 24)) (nat_lit 686))⟩, ⟨PyData.keyHash P (Str.ofString "LBRACE"), (.str (Str.ofString "LBRACE") 689), (.int (.ofNat (nat_lit 25)) (nat_lit 688))⟩, ⟨PyData.keyHash P (Str.ofString "RBRACE"), (.str (Str.ofString "RBRACE") 691), (.int (.ofNat (nat_lit 26)) (nat_lit 690))⟩, ⟨PyData.keyHash P (Str.ofString "EQEQUAL"), (.str (Str.ofString "EQEQUAL") 693), (.int (.ofNat (nat_lit 27)) (nat_lit 692))⟩, ⟨PyData.keyHash P (Str.ofString "NOTEQUAL"), (.str (Str.ofString "NOTEQUAL") 695), (.int (.ofNat (nat_lit 28)) (nat_lit 694))⟩, ⟨PyData.keyHash P (Str.ofString "LESSEQUAL"), (.str (Str.ofString "LESSEQUAL") 697), (.int (.ofNat (nat_lit 29)) (nat_lit 696))⟩, ⟨PyData.keyHash P (Str.ofString "GREATEREQUAL"), (.str (Str.ofString "GREATEREQUAL") 699), (.int (.ofNat (nat_lit 30)) (nat_lit 698))⟩, ⟨PyData.keyHash P (Str.ofString "TILDE"), (.str (Str.ofString "TILDE") 701), (.int (.ofNat (nat_lit 31)) (nat_lit 700))⟩, ⟨PyData.keyHash P (Str.ofString "CIRCUMFLEX"), (.str (Str.ofString "CIRCUMFLEX") 703), (.int (.ofNat (nat_lit 32)) (nat_lit 702))⟩, ⟨PyData.keyHash P (Str.ofString "LEFTSHIFT"), (.str (Str.ofString "LEFTSHIFT") 705), (.int (.ofNat (nat_lit 33)) (nat_lit 704))⟩, ⟨PyData.keyHash P (Str.ofString "RIGHTSHIFT"), (.str (Str.ofString "RIGHTSHIFT") 707), (.int (.ofNat (nat_lit 34)) (nat_lit 706))⟩, ⟨PyData.keyHash P (Str.ofString "DOUBLESTAR"), (.str (Str.ofString "DOUBLESTAR") 709), (.int (.ofNat (nat_lit 35)) (nat_lit 708))⟩, ⟨PyData.keyHash P (Str.ofString "PLUSEQUAL"), (.str (Str.ofString "PLUSEQUAL") 711), (.int (.ofNat (nat_lit 36)) (nat_lit 710))⟩, ⟨PyData.keyHash P (Str.ofString "MINEQUAL"), (.str (Str.ofString "MINEQUAL") 713), (.int (.ofNat (nat_lit 37)) (nat_lit 712))⟩, ⟨PyData.keyHash P (Str.ofString "STAREQUAL"), (.str (Str.ofString "STAREQUAL") 715), (.int (.ofNat (nat_lit 38)) (nat_lit 714))⟩, ⟨PyData.keyHash P (Str.ofString "SLASHEQUAL"), (.str (Str.ofString "SLASHEQUAL") 717), (.int (.ofNat (nat_lit 39)) (nat_lit 716))⟩, ⟨PyData.keyHash P (Str.ofString "PERCENTEQUAL"), (.str (Str.ofString "PERCENTEQUAL") 719), (.int (.ofNat (nat_lit 40)) (nat_lit 718))⟩, ⟨PyData.keyHash P (Str.ofString "AMPEREQUAL"), (.str (Str.ofString "AMPEREQUAL") 721), (.int (.ofNat (nat_lit 41)) (nat_lit 720))⟩, ⟨PyData.keyHash P (Str.ofString "VBAREQUAL"), (.str (Str.ofString "VBAREQUAL") 723), (.int (.ofNat (nat_lit 42)) (nat_lit 722))⟩, ⟨PyData.keyHash P (Str.ofString "CIRCUMFLEXEQUAL"), (.str (Str.ofString "CIRCUMFLEXEQUAL") 725), (.int (.ofNat (nat_lit 43)) (nat_lit 724))⟩, ⟨PyData.keyHash P (Str.ofString "LEFTSHIFTEQUAL"), (.str (Str.ofString "LEFTSHIFTEQUAL") 727), (.int (.ofNat (nat_lit 44)) (nat_lit 726))⟩, ⟨PyData.keyHash P (Str.ofString "RIGHTSHIFTEQUAL"), (.str (Str.ofString "RIGHTSHIFTEQUAL") 729), (.int (.ofNat (nat_lit 45)) (nat_lit 728))⟩, ⟨PyData.keyHash P (Str.ofString "DOUBLESTAREQUAL"), (.str (Str.ofString "DOUBLESTAREQUAL") 731), (.int (.ofNat (nat_lit 46)) (nat_lit 730))⟩, ⟨PyData.keyHash P (Str.ofString "DOUBLESLASH"), (.str (Str.ofString "DOUBLESLASH") 733), (.int (.ofNat (nat_lit 47)) (nat_lit 732))⟩, ⟨PyData.keyHash P (Str.ofString "DOUBLESLASHEQUAL"), (.str (Str.ofString "DOUBLESLASHEQUAL") 735), (.int (.ofNat (nat_lit 48)) (nat_lit 734))⟩, ⟨PyData.keyHash P (Str.ofString "AT"), (.str (Str.ofString "AT") 737), (.int (.ofNat (nat_lit 49)) (nat_lit 736))⟩, ⟨PyData.keyHash P (Str.ofString "ATEQUAL"), (.str (Str.ofString "ATEQUAL") 739), (.int (.ofNat (nat_lit 50)) (nat_lit 738))⟩, ⟨PyData.keyHash P (Str.ofString "RARROW"), (.str (Str.ofString "RARROW") 741), (.int (.ofNat (nat_lit 51)) (nat_lit 740))⟩, ⟨PyData.keyHash P (Str.ofString "ELLIPSIS"), (.str (Str.ofString "ELLIPSIS") 743), (.int (.ofNat (nat_lit 52)) (nat_lit 742))⟩, ⟨PyData.keyHash P (Str.ofString "COLONEQUAL"), (.str (Str.ofString "COLONEQUAL") 745), (.int (.ofNat (nat_lit 53)) (nat_lit 744))⟩, ⟨PyData.keyHash P (Str.ofString "EXCLAMATION"), (.str (Str.ofString "EXCLAMATION") 747), (.int (.ofNat (nat_lit 54)) (nat_lit 746))⟩] 70, #[]⟩
noncomputable def t8 (f : Bool) (P : Params) : BT := (.node (boot_o_0 P) (.node (boot_o_1 P) (.node (o3v563 P) (.node (boot_o_7 P) (.node (o15v6 P) (.node (o31v24 P) (.node (o63v56 P) (.node (o127v208 P) .nil .nil) .nil) (.node (o95v90 P) (.node (o159v560 P) .nil .nil) .nil)) (.node (o47v40 P) (.node (o79v72 P) (.node (o143v250 P) .nil .nil) .nil) (.node (o111v178 P) .nil .nil))) (.node (o23v16 P) (.node (o39v32 P) (.node (o71v64 P) (.node (o135v242 P) .nil .nil) .nil) (.node (o103v98 P) .nil .nil)) (.node (o55v48 P) (.node (o87v80 P) (.node (s151v548 f P) .nil .nil) .nil) (.node (o119v188 P) .nil .nil)))) (.node (o11v0 P) (.node (o19v10 P) (.node (o35v28 P) (.node (o67v60 P) (.node (o131v212 P) .nil .nil) .nil) (.node (o99v94 P) .nil .nil)) (.node (o51v44 P) (.node (o83v76 P) (.node (o147v350 P) .nil .nil) .nil) (.node (o115v184 P) .nil .nil))) (.node (o27v20 P) (.node (o43v36 P) (.node (o75v68 P) (.node (o139v246 P) .nil .nil) .nil) (.node (o107v118 P) .nil .nil)) (.node (o59v52 P) (.node (o91v86 P) (.node (o155v556 P) .nil .nil) .nil) (.node (o123v204 P) .nil .nil))))) (.node (boot_o_5 P) (.node (boot_o_9 P) (.node (o17v8 P) (.node (o33v26 P) (.node (o65v58 P) (.node (o129v210 P) .nil .nil) .nil) (.node (o97v92 P) (.node (o161v562 P) .nil .nil) .nil)) (.node (o49v42 P) (.node (o81v74 P) (.node (o145v252 P) .nil .nil) .nil) (.node (o113v182 P) .nil .nil))) (.node (o25v18 P) (.node (o41v34 P) (.node (o73v66 P) (.node (o137v244 P) .nil .nil) .nil) (.node (o105v116 P) .nil .nil)) (.node (o57v50 P) (.node (o89v84 P) (.node (o153v552 P) .nil .nil) .nil) (.node (s121v200 f P) .nil .nil)))) (.node (o13v2 P) (.node (o21v12 P) (.node (o37v30 P) (.node (o69v62 P) (.node (s133v238 f P) .nil .nil) .nil) (.node (o101v96 P) .nil .nil)) (.node (o53v46 P) (.node (o85v78 P) (.node (o149v352 P) .nil .nil) .nil) (.node (o117v186 P) .nil .nil))) (.node (o29v22 P) (.node (o45v38 P) (.node (o77v70 P) (.node (o141v248 P) .nil .nil) .nil) (.node (s109v174 f P) .nil .nil)) (.node (o61v54 P) (.node (o93v88 P) (.node (o157v558 P) .nil .nil) .nil) (.node (o125v206 P) .nil .nil)))))) (.node (boot_o_2 P) (.node (boot_o_4 P) (.node (boot_o_8 P) (.node (o16v7 P) (.node (o32v25 P) (.node (o64v57 P) (.node (o128v209 P) .nil .nil) .nil) (.node (o96v91 P) (.node (o160v561 P) .nil .nil) .nil)) (.node (o48v41 P) (.node (o80v73 P) (.node (o144v251 P) .nil .nil) .nil) (.node (o112v179 P) .nil .nil))) (.node (o24v17 P) (.node (o40v33 P) (.node (o72v65 P) (.node (o136v243 P) .nil .nil) .nil) (.node (o104v115 P) .nil .nil)) (.node (o56v49 P) (.node (o88v83 P) (.node (o152v551 P) .nil .nil) .nil) (.node (o120v189 P) .nil .nil)))) (.node (o12v555 P) (.node (o20v11 P) (.node (o36v29 P) (.node (o68v61 P) (.node (o132v213 P) .nil .nil) .nil) (.node (o100v95 P) .nil .nil)) (.node (o52v45 P) (.node (o84v77 P) (.node (o148v351 P) .nil .nil) .nil) (.node (o116v185 P) .nil .nil))) (.node (o28v21 P) (.node (o44v37 P) (.node (o76v69 P) (.node (o140v247 P) .nil .nil) .nil) (.node (o108v119 P) .nil .nil)) (.node (o60v53 P) (.node (o92v87 P) (.node (o156v557 P) .nil .nil) .nil) (.node (o124v205 P) .nil .nil))))) (.node (boot_o_6 P) (.node (boot_o_10 P) (.node (o18v9 P) (.node (o34v27 P) (.node (o66v59 P) (.node (o130v211 P) .nil .nil) .nil) (.node (o98v93 P) .nil .nil)) (.node (o50v43 P) (.node (o82v75 P) (.node (o146v349 P) .nil .nil) .nil) (.node (o114v183 P) .nil .nil))) (.node (o26v19 P) (.node (o42v35 P) (.node (o74v67 P) (.node (o138v245 P) .nil .nil) .nil) (.node (o106v117 P) .nil .nil)) (.node (o58v51 P) (.node (o90v85 P) (.node (o154v553 P) .nil .nil) .nil) (.node (o122v201 P) .nil .nil)))) (.node (o14v3 P) (.node (o22v15 P) (.node (o38v31 P) (.node (o70v63 P) (.node (o134v239 P) .nil .nil) .nil) (.node (o102v97 P) .nil .nil)) (.node (o54v47 P) (.node (o86v79 P) (.node (o150v353 P) .nil .nil) .nil) (.node (o118v187 P) .nil .nil))) (.node (o30v23 P) (.node (o46v39 P) (.node (o78v71 P) (.node (o142v249 P) .nil .nil) .nil) (.node (o110v177 P) .nil .nil)) (.node (o62v55 P) (.node (o94v89 P) (.node (o158v559 P) .nil .nil) .nil) (.node (o126v207 P) .nil .nil)))))))
noncomputable def S8 (f : Bool) (w : World) (os : OsState) : SharedT := ⟨t8 f w.params, 162, lf, gs, boot_drawn, 748, os⟩
noncomputable def Q8 (f : Bool) (w : World) : Prop := (fun os => twRun twTab pw (wf f w) m0 ann 1 82 (S7 f (wf f w) os) (TP sts8 ⟨131, 0, 131, 15⟩)) = fun os => some (.next, S8 f (wf f w) os, cE, ⟨140, 0, 140, 11⟩)
theorem q8 : ∀ f w, Q8 f w := fun f => (fun w => by unfold Q8; kernel_rfl)
theorem r8 (f : Bool) (w : World) (os : OsState) : segRun treeTable pw (wf f w) m0 ann 1 82 (S7 f (wf f w) os).abs (piecesOf sts8 env cE ⟨131, 0, 131, 15⟩ fB) = some (.next, (S8 f (wf f w) os).abs, cE, ⟨140, 0, 140, 11⟩) := TP_eq sts8 ⟨131, 0, 131, 15⟩ ▸ (lastRun (r := (_, _, _)) (congrFun (q8 f w) os))
noncomputable def sts9 : List Stmt := (pw.main.body.drop 65).take 1
noncomputable def o3v564 (P : Params) : Obj := ⟨(.type "dict"), none, .dict #[⟨PyData.keyHash P (Str.ofString "__name__"), (.str (Str.ofString "__name__") 165), (.str (Str.ofString "cpy313.token") 648)⟩, ⟨PyData.keyHash P (Str.ofString "__doc__"), (.str (Str.ofString "__doc__") 166), .none⟩, ⟨PyData.keyHash P (Str.ofString "__package__"), (.str (Str.ofString "__package__") 167), .none⟩, ⟨PyData.keyHash P (Str.ofString "__loader__"), (.str (Str.ofString "__loader__") 168), (.builtin "__main__.__loader__#opaque")⟩, ⟨PyData.keyHash P (Str.ofString "__spec__"), (.str (Str.ofString "__spec__") 169), .none⟩, ⟨PyData.keyHash P (Str.ofString "__annotations__"), (.str (Str.ofString "__annotations__") 170), (.ref 6)⟩, ⟨PyData.keyHash P (Str.ofString "__builtins__"), (.str (Str.ofString "__builtins__") 171), (.ref 4)⟩, ⟨PyData.keyHash P (Str.ofString "__file__"), (.str (Str.ofString "__file__") 173), (.str (Str.ofString "/claim/cut.py") 172)⟩, ⟨PyData.keyHash P (Str.ofString "__cached__"), (.str (Str.ofString "__cached__") 174), .none⟩, ⟨PyData.keyHash P (Str.ofString "_wall"), (.str (Str.ofString "_wall") 193), (.ref 21)⟩, ⟨PyData.keyHash P (Str.ofString "Whitespace"), (.str (Str.ofString "Whitespace") 291), (.ref 83)⟩, ⟨PyData.keyHash P (Str.ofString "_int2digits"), (.str (Str.ofString "_int2digits") 304), (.ref 94)⟩, ⟨PyData.keyHash P (Str.ofString "_digits2int"), (.str (Str.ofString "_digits2int") 315), (.ref 101)⟩, ⟨PyData.keyHash P (Str.ofString "b1_set"), (.str (Str.ofString "b1_set") 377), (.ref 109)⟩, ⟨PyData.keyHash P (Str.ofString "in_table_b1"), (.str (Str.ofString "in_table_b1") 384), (.ref 119)⟩, ⟨PyData.keyHash P (Str.ofString "c6_set"), (.str (Str.ofString "c6_set") 398), (.ref 121)⟩, ⟨PyData.keyHash P (Str.ofString "in_table_c6"), (.str (Str.ofString "in_table_c6") 405), (.ref 131)⟩, ⟨PyData.keyHash P (Str.ofString "c7_set"), (.str (Str.ofString "c7_set") 433), (.ref 133)⟩, ⟨PyData.keyHash P (Str.ofString "in_table_c7"), (.str (Str.ofString "in_table_c7") 440), (.ref 143)⟩, ⟨PyData.keyHash P (Str.ofString "c9_set"), (.str (Str.ofString "c9_set") 640), (.ref 151)⟩, ⟨PyData.keyHash P (Str.ofString "in_table_c9"), (.str (Str.ofString "in_table_c9") 647), (.ref 161)⟩, ⟨PyData.keyHash P (Str.ofString "ENDMARKER"), (.str (Str.ofString "ENDMARKER") 651), (.int (.ofNat (nat_lit 0)) (nat_lit 650))⟩, ⟨PyData.keyHash P (Str.ofString "LPAR"), (.str (Str.ofString "LPAR") 653), (.int (.ofNat (nat_lit 7)) (nat_lit 652))⟩, ⟨PyData.keyHash P (Str.ofString "RPAR"), (.str (Str.ofString "RPAR") 655), (.int (.ofNat (nat_lit 8)) (nat_lit 654))⟩, ⟨PyData.keyHash P (Str.ofString "LSQB"), (.str (Str.ofString "LSQB") 657), (.int (.ofNat (nat_lit 9)) (nat_lit 656))⟩, ⟨PyData.keyHash P (Str.ofString "RSQB"), (.str (Str.ofString "RSQB") 659), (.int (.ofNat (nat_lit 10)) (nat_lit 658))⟩, ⟨PyData.keyHash P (Str.ofString "COLON"), (.str (Str.ofString "COLON") 661), (.int (.ofNat (nat_lit 11)) (nat_lit 660))⟩, ⟨PyData.keyHash P (Str.ofString "COMMA"), (.str (Str.ofString "COMMA") 663), (.int (.ofNat (nat_lit 12)) (nat_lit 662))⟩, ⟨PyData.keyHash P (Str.ofString "SEMI"), (.str (Str.ofString "SEMI") 665), (.int (.ofNat (nat_lit 13)) (nat_lit 664))⟩, ⟨PyData.keyHash P (Str.ofString "PLUS"), (.str (Str.ofString "PLUS") 667), (.int (.ofNat (nat_lit 14)) (nat_lit 666))⟩, ⟨PyData.keyHash P (Str.ofString "MINUS"), (.str (Str.ofString "MINUS") 669), (.int (.ofNat (nat_lit 15)) (nat_lit 668))⟩, ⟨PyData.keyHash P (Str.ofString "STAR"), (.str (Str.ofString "STAR") 671), (.int (.ofNat (nat_lit 16)) (nat_lit 670))⟩, ⟨PyData.keyHash P (Str.ofString "SLASH"), (.str (Str.ofString "SLASH") 673), (.int (.ofNat (nat_lit 17)) (nat_lit 672))⟩, ⟨PyData.keyHash P (Str.ofString "VBAR"), (.str (Str.ofString "VBAR") 675), (.int (.ofNat (nat_lit 18)) (nat_lit 674))⟩, ⟨PyData.keyHash P (Str.ofString "AMPER"), (.str (Str.ofString "AMPER") 677), (.int (.ofNat (nat_lit 19)) (nat_lit 676))⟩, ⟨PyData.keyHash P (Str.ofString "LESS"), (.str (Str.ofString "LESS") 679), (.int (.ofNat (nat_lit 20)) (nat_lit 678))⟩, ⟨PyData.keyHash P (Str.ofString "GREATER"), (.str (Str.ofString "GREATER") 681), (.int (.ofNat (nat_lit 21)) (nat_lit 680))⟩, ⟨PyData.keyHash P (Str.ofString "EQUAL"), (.str (Str.ofString "EQUAL") 683), (.int (.ofNat (nat_lit 22)) (nat_lit 682))⟩, ⟨PyData.keyHash P (Str.ofString "DOT"), (.str (Str.ofString "DOT") 685), (.int (.ofNat (nat_lit 23)) (nat_lit 684))⟩, ⟨PyData.keyHash P (Str.ofString "PERCENT"), (.str (Str.ofString "PERCENT") 687), (.int (.ofNat (nat_lit 24)) (nat_lit 686))⟩, ⟨PyData.keyHash P (Str.ofString "LBRACE"), (.str (Str.ofString "LBRACE") 689), (.int (.ofNat (nat_lit 25)) (nat_lit 688))⟩, ⟨PyData.keyHash P (Str.ofString "RBRACE"), (.str (Str.ofString "RBRACE") 691), (.int (.ofNat (nat_lit 26)) (nat_lit 690))⟩, ⟨PyData.keyHash P (Str.ofString "EQEQUAL"), (.str (Str.ofString "EQEQUAL") 693), (.int (.ofNat (nat_lit 27)) (nat_lit 692))⟩, ⟨PyData.keyHash P (Str.ofString "NOTEQUAL"), (.str (Str.ofString "NOTEQUAL") 695), (.int (.ofNat (nat_lit 28)) (nat_lit 694))⟩, ⟨PyData.keyHash P (Str.ofString "LESSEQUAL"), (.str (Str.ofString "LESSEQUAL") 697), (.int (.ofNat (nat_lit 29)) (nat_lit 696))⟩, ⟨PyData.keyHash P (Str.ofString "GREATEREQUAL"), (.str (Str.ofString "GREATEREQUAL") 699), (.int (.ofNat (nat_lit 30)) (nat_lit 698))⟩, ⟨PyData.keyHash P (Str.ofString "TILDE"), (.str (Str.ofString "TILDE") 701), (.int (.ofNat (nat_lit 31)) (nat_lit 700))⟩, ⟨PyData.keyHash P (Str.ofString "CIRCUMFLEX"), (.str (Str.ofString "CIRCUMFLEX") 703), (.int (.ofNat (nat_lit 32)) (nat_lit 702))⟩, ⟨PyData.keyHash P (Str.ofString "LEFTSHIFT"), (.str (Str.ofString "LEFTSHIFT") 705), (.int (.ofNat (nat_lit 33)) (nat_lit 704))⟩, ⟨PyData.keyHash P (Str.ofString "RIGHTSHIFT"), (.str (Str.ofString "RIGHTSHIFT") 707), (.int (.ofNat (nat_lit 34)) (nat_lit 706))⟩, ⟨PyData.keyHash P (Str.ofString "DOUBLESTAR"), (.str (Str.ofString "DOUBLESTAR") 709), (.int (.ofNat (nat_lit 35)) (nat_lit 708))⟩, ⟨PyData.keyHash P (Str.ofString "PLUSEQUAL"), (.str (Str.ofString "PLUSEQUAL") 711), (.int (.ofNat (nat_lit 36)) (nat_lit 710))⟩, ⟨PyData.keyHash P (Str.ofString "MINEQUAL"), (.str (Str.ofString "MINEQUAL") 713), (.int (.ofNat (nat_lit 37)) (nat_lit 712))⟩, ⟨PyData.keyHash P (Str.ofString "STAREQUAL"), (.str (Str.ofString "STAREQUAL") 715), (.int (.ofNat (nat_lit 38)) (nat_lit 714))⟩, ⟨PyData.keyHash P (Str.ofString "SLASHEQUAL"), (.str (Str.ofString "SLASHEQUAL") 717), (.int (.ofNat (nat_lit 39)) (nat_lit 716))⟩, ⟨PyData.keyHash P (Str.ofString "PERCENTEQUAL"), (.str (Str.ofString "PERCENTEQUAL") 719), (.int (.ofNat (nat_lit 40)) (nat_lit 718))⟩, ⟨PyData.keyHash P (Str.ofString "AMPEREQUAL"), (.str (Str.ofString "AMPEREQUAL") 721), (.int (.ofNat (nat_lit 41)) (nat_lit 720))⟩, ⟨PyData.keyHash P (Str.ofString "VBAREQUAL"), (.str (Str.ofString "VBAREQUAL") 723), (.int (.ofNat (nat_lit 42)) (nat_lit 722))⟩, ⟨PyData.keyHash P (Str.ofString "CIRCUMFLEXEQUAL"), (.str (Str.ofString "CIRCUMFLEXEQUAL") 725), (.int (.ofNat (nat_lit 43)) (nat_lit 724))⟩, ⟨PyData.keyHash P (Str.ofString "LEFTSHIFTEQUAL"), (.str (Str.ofString "LEFTSHIFTEQUAL") 727), (.int (.ofNat (nat_lit 44)) (nat_lit 726))⟩, ⟨PyData.keyHash P (Str.ofString "RIGHTSHIFTEQUAL"), (.str (Str.ofString "RIGHTSHIFTEQUAL") 729), (.int (.ofNat (nat_lit 45)) (nat_lit 728))⟩, ⟨PyData.keyHash P (Str.ofString "DOUBLESTAREQUAL"), (.str (Str.ofString "DOUBLESTAREQUAL") 731), (.int (.ofNat (nat_lit 46)) (nat_lit 730))⟩, ⟨PyData.keyHash P (Str.ofString "DOUBLESLASH"), (.str (Str.ofString "DOUBLESLASH") 733), (.int (.ofNat (nat_lit 47)) (nat_lit 732))⟩, ⟨PyData.keyHash P (Str.ofString "DOUBLESLASHEQUAL"), (.str (Str.ofString "DOUBLESLASHEQUAL") 735), (.int (.ofNat (nat_lit 48)) (nat_lit 734))⟩, ⟨PyData.keyHash P (Str.ofString "AT"), (.str (Str.ofString "AT") 737), (.int (.ofNat (nat_lit 49)) (nat_lit 736))⟩, ⟨PyData.keyHash P (Str.ofString "ATEQUAL"), (.str (Str.ofString "ATEQUAL") 739), (.int (.ofNat (nat_lit 50)) (nat_lit 738))⟩, ⟨PyData.keyHash P (Str.ofString "RARROW"), (.str (Str.ofString "RARROW") 741), (.int (.ofNat (nat_lit 51)) (nat_lit 740))⟩, ⟨PyData.keyHash P (Str.ofString "ELLIPSIS"), (.str (Str.ofString "ELLIPSIS") 743), (.int (.ofNat (nat_lit 52)) (nat_lit 742))⟩, ⟨PyData.keyHash P (Str.ofString "COLONEQUAL"), (.str (Str.ofString "COLONEQUAL") 745), (.int (.ofNat (nat_lit 53)) (nat_lit 744))⟩, ⟨PyData.keyHash P (Str.ofString "EXCLAMATION"), (.str (Str.ofString "EXCLAMATION") 747), (.int (.ofNat (nat_lit 54)) (nat_lit 746))⟩, ⟨PyData.keyHash P (Str.ofString "EXACT_TOKEN_TYPES"), (.str (Str.ofString "EXACT_TOKEN_TYPES") 844), (.ref 162)⟩] 71, #[]⟩
noncomputable def o162v565 (P : Params) : Obj := ⟨(.type "dict"), none, .dict #[⟨PyData.keyHash P (Str.ofString "!"), (.str (Str.ofString "!") 748), (.int (.ofNat (nat_lit 54)) (nat_lit 746))⟩, ⟨PyData.keyHash P (Str.ofString "!="), (.str (Str.ofString "!=") 750), (.int (.ofNat (nat_lit 28)) (nat_lit 694))⟩, ⟨PyData.keyHash P (Str.ofString "%"), (.str (Str.ofString "%") 752), (.int (.ofNat (nat_lit 24)) (nat_lit 686))⟩, ⟨PyData.keyHash P (Str.ofString "%="), (.str (Str.ofString "%=") 754), (.int (.ofNat (nat_lit 40)) (nat_lit 718))⟩, ⟨PyData.keyHash P (Str.ofString "&"), (.str (Str.ofString "&") 756), (.int (.ofNat (nat_lit 19)) (nat_lit 676))⟩, ⟨PyData.keyHash P (Str.ofString "&="), (.str (Str.ofString "&=") 758), (.int (.ofNat (nat_lit 41)) (nat_lit 720))⟩, ⟨PyData.keyHash P (Str.ofString "("), (.str (Str.ofString "(") 760), (.int (.ofNat (nat_lit 7)) (nat_lit 652))⟩, ⟨PyData.keyHash P (Str.ofString ")"), (.str (Str.ofString ")") 762), (.int (.ofNat (nat_lit 8)) (nat_lit 654))⟩, ⟨PyData.keyHash P (Str.ofString "*"), (.str (Str.ofString "*") 764), (.int (.ofNat (nat_lit 16)) (nat_lit 670))⟩, ⟨PyData.keyHash P (Str.ofString "**"), (.str (Str.ofString "**") 766), (.int (.ofNat (nat_lit 35)) (nat_lit 708))⟩, ⟨PyData.keyHash P (Str.ofString "**="), (.str (Str.ofString "**=") 768), (.int (.ofNat (nat_lit 46)) (nat_lit 730))⟩, ⟨PyData.keyHash P (Str.ofString "*="), (.str (Str.ofString "*=") 770), (.int (.ofNat (nat_lit 38)) (nat_lit 714))⟩, ⟨PyData.keyHash P (Str.ofString "+"), (.str (Str.ofString "+") 772), (.int (.ofNat (nat_lit 14)) (nat_lit 666))⟩, ⟨PyData.keyHash P (Str.ofString "+="), (.str (Str.ofString "+=") 774), (.int (.ofNat (nat_lit 36)) (nat_lit 710))⟩, ⟨PyData.keyHash P (Str.ofString ","), (.str (Str.ofString ",") 776), (.int (.ofNat (nat_lit 12)) (nat_lit 662))⟩, ⟨PyData.keyHash P (Str.ofString "-"), (.str (Str.ofString "-") 778), (.int (.ofNat (nat_lit 15)) (nat_lit 668))⟩, ⟨PyData.keyHash P (Str.ofString "-="), (.str (Str.ofString "-=") 780), (.int (.ofNat (nat_lit 37)) (nat_lit 712))⟩, ⟨PyData.keyHash P (Str.ofString "->"), (.str (Str.ofString "->") 782), (.int (.ofNat (nat_lit 51)) (nat_lit 740))⟩, ⟨PyData.keyHash P (Str.ofString "."), (.str (Str.ofString ".") 784), (.int (.ofNat (nat_lit 23)) (nat_lit 684))⟩, ⟨PyData.keyHash P (Str.ofString "..."), (.str (Str.ofString "...") 786), (.int (.ofNat (nat_lit 52)) (nat_lit 742))⟩, ⟨PyData.keyHash P (Str.ofString "/"), (.str (Str.ofString "/") 788), (.int (.ofNat (nat_lit 17)) (nat_lit 672))⟩, ⟨PyData.keyHash P (Str.ofString "//"), (.str (Str.ofString "//") 790), (.int (.ofNat (nat_lit 47)) (nat_lit 732))⟩, ⟨PyData.keyHash P (Str.ofString "//="), (.str (Str.ofString "//=") 792), (.int (.ofNat (nat_lit 48)) (nat_lit 734))⟩, ⟨PyData.keyHash P (Str.ofString "/="), (.str (Str.ofString "/=") 794), (.int (.ofNat (nat_lit 39)) (nat_lit 716))⟩, ⟨PyData.keyHash P (Str.ofString ":"), (.str (Str.ofString ":") 796), (.int (.ofNat (nat_lit 11)) (nat_lit 660))⟩, ⟨PyData.keyHash P (Str.ofString ":="), (.str (Str.ofString ":=") 798), (.int (.ofNat (nat_lit 53)) (nat_lit 744))⟩, ⟨PyData.keyHash P (Str.ofString ";"), (.str (Str.ofString ";") 800), (.int (.ofNat (nat_lit 13)) (nat_lit 664))⟩, ⟨PyData.keyHash P (Str.ofString "<"), (.str (Str.ofString "<") 802), (.int (.ofNat (nat_lit 20)) (nat_lit 678))⟩, ⟨PyData.keyHash P (Str.ofString "<<"), (.str (Str.ofString "<<") 804), (.int (.ofNat (nat_lit 33)) (nat_lit 704))⟩, ⟨PyData.keyHash P (Str.ofString "<<="), (.str (Str.ofString "<<=") 806), (.int (.ofNat (nat_lit 44)) (nat_lit 726))⟩, ⟨PyData.keyHash P (Str.ofString "<="), (.str (Str.ofString "<=") 808), (.int (.ofNat (nat_lit 29)) (nat_lit 696))⟩, ⟨PyData.keyHash P (Str.ofString "="), (.str (Str.ofString "=") 810), (.int (.ofNat (nat_lit 22)) (nat_lit 682))⟩, ⟨PyData.keyHash P (Str.ofString "=="), (.str (Str.ofString "==") 812), (.int (.ofNat (nat_lit 27)) (nat_lit 692))⟩, ⟨PyData.keyHash P (Str.ofString ">"), (.str (Str.ofString ">") 814), (.int (.ofNat (nat_lit 21)) (nat_lit 680))⟩, ⟨PyData.keyHash P (Str.ofString ">="), (.str (Str.ofString ">=") 816), (.int (.ofNat (nat_lit 30)) (nat_lit 698))⟩, ⟨PyData.keyHash P (Str.ofString ">>"), (.str (Str.ofString ">>") 817), (.int (.ofNat (nat_lit 34)) (nat_lit 706))⟩, ⟨PyData.keyHash P (Str.ofString ">>="), (.str (Str.ofString ">>=") 818), (.int (.ofNat (nat_lit 45)) (nat_lit 728))⟩, ⟨PyData.keyHash P (Str.ofString "@"), (.str (Str.ofString "@") 819), (.int (.ofNat (nat_lit 49)) (nat_lit 736))⟩, ⟨PyData.keyHash P (Str.ofString "@="), (.str (Str.ofString "@=") 820), (.int (.ofNat (nat_lit 50)) (nat_lit 738))⟩, ⟨PyData.keyHash P (Str.ofString "["), (.str (Str.ofString "[") 821), (.int (.ofNat (nat_lit 9)) (nat_lit 656))⟩, ⟨PyData.keyHash P (Str.ofString "]"), (.str (Str.ofString "]") 822), (.int (.ofNat (nat_lit 10)) (nat_lit 658))⟩, ⟨PyData.keyHash P (Str.ofString "^"), (.str (Str.ofString "^") 823), (.int (.ofNat (nat_lit 32)) (nat_lit 702))⟩, ⟨PyData.keyHash P (Str.ofString "^="), (.str (Str.ofString "^=") 824), (.int (.ofNat (nat_lit 43)) (nat_lit 724))⟩, ⟨PyData.keyHash P (Str.ofString "{"), (.str (Str.ofString "{") 825), (.int (.ofNat (nat_lit 25)) (nat_lit 688))⟩, ⟨PyData.keyHash P (Str.ofString "|"), (.str (Str.ofString "|") 826), (.int (.ofNat (nat_lit 18)) (nat_lit 674))⟩, ⟨PyData.keyHash P (Str.ofString "|="), (.str (Str.ofString "|=") 827), (.int (.ofNat (nat_lit 42)) (nat_lit 722))⟩, ⟨PyData.keyHash P (Str.ofString "}"), (.str (Str.ofString "}") 828), (.int (.ofNat (nat_lit 26)) (nat_lit 690))⟩, ⟨PyData.keyHash P (Str.ofString "~"), (.str (Str.ofString "~") 829), (.int (.ofNat (nat_lit 31)) (nat_lit 700))⟩] 48, #[]⟩
noncomputable def o163v566 (P : Params) : Obj := ⟨(.type "dict"), none, .dict #[⟨PyData.keyHash P (Str.ofString "->"), (.str (Str.ofString "->") 782), (.int (.ofNat (nat_lit 51)) (nat_lit 740))⟩, ⟨PyData.keyHash P (Str.ofString "."), (.str (Str.ofString ".") 784), (.int (.ofNat (nat_lit 23)) (nat_lit 684))⟩, ⟨PyData.keyHash P (Str.ofString "..."), (.str (Str.ofString "...") 786), (.int (.ofNat (nat_lit 52)) (nat_lit 742))⟩, ⟨PyData.keyHash P (Str.ofString "/"), (.str (Str.ofString "/") 788), (.int (.ofNat (nat_lit 17)) (nat_lit 672))⟩, ⟨PyData.keyHash P (Str.ofString "//"), (.str (Str.ofString "//") 790), (.int (.ofNat (nat_lit 47)) (nat_lit 732))⟩, ⟨PyData.keyHash P (Str.ofString "//="), (.str (Str.ofString "//=") 792), (.int (.ofNat (nat_lit 48)) (nat_lit 734))⟩, ⟨PyData.keyHash P (Str.ofString "/="), (.str (Str.ofString "/=") 794), (.int (.ofNat (nat_lit 39)) (nat_lit 716))⟩, ⟨PyData.keyHash P (Str.ofString ":"), (.str (Str.ofString ":") 796), (.int (.ofNat (nat_lit 11)) (nat_lit 660))⟩, ⟨PyData.keyHash P (Str.ofString ":="), (.str (Str.ofString ":=") 798), (.int (.ofNat (nat_lit 53)) (nat_lit 744))⟩, ⟨PyData.keyHash P (Str.ofString ";"), (.str (Str.ofString ";") 800), (.int (.ofNat (nat_lit 13)) (nat_lit 664))⟩, ⟨PyData.keyHash P (Str.ofString "<"), (.str (Str.ofString "<") 802), (.int (.ofNat (nat_lit 20)) (nat_lit 678))⟩, ⟨PyData.keyHash P (Str.ofString "<<"), (.str (Str.ofString "<<") 804), (.int (.ofNat (nat_lit 33)) (nat_lit 704))⟩, ⟨PyData.keyHash P (Str.ofString "<<="), (.str (Str.ofString "<<=") 806), (.int (.ofNat (nat_lit 44)) (nat_lit 726))⟩, ⟨PyData.keyHash P (Str.ofString "<="), (.str (Str.ofString "<=") 808), (.int (.ofNat (nat_lit 29)) (nat_lit 696))⟩, ⟨PyData.keyHash P (Str.ofString "="), (.str (Str.ofString "=") 810), (.int (.ofNat (nat_lit 22)) (nat_lit 682))⟩, ⟨PyData.keyHash P (Str.ofString "=="), (.str (Str.ofString "==") 812), (.int (.ofNat (nat_lit 27)) (nat_lit 692))⟩, ⟨PyData.keyHash P (Str.ofString ">"), (.str (Str.ofString ">") 814), (.int (.ofNat (nat_lit 21)) (nat_lit 680))⟩] 17, #[]⟩
noncomputable def o164v567 (P : Params) : Obj := ⟨(.type "dict"), none, .dict #[⟨PyData.keyHash P (Str.ofString ">="), (.str (Str.ofString ">=") 816), (.int (.ofNat (nat_lit 30)) (nat_lit 698))⟩, ⟨PyData.keyHash P (Str.ofString ">>"), (.str (Str.ofString ">>") 817), (.int (.ofNat (nat_lit 34)) (nat_lit 706))⟩, ⟨PyData.keyHash P (Str.ofString ">>="), (.str (Str.ofString ">>=") 818), (.int (.ofNat (nat_lit 45)) (nat_lit 728))⟩, ⟨PyData.keyHash P (Str.ofString "@"), (.str (Str.ofString "@") 819), (.int (.ofNat (nat_lit 49)) (nat_lit 736))⟩, ⟨PyData.keyHash P (Str.ofString "@="), (.str (Str.ofString "@=") 820), (.int (.ofNat (nat_lit 50)) (nat_lit 738))⟩, ⟨PyData.keyHash P (Str.ofString "["), (.str (Str.ofString "[") 821), (.int (.ofNat (nat_lit 9)) (nat_lit 656))⟩, ⟨PyData.keyHash P (Str.ofString "]"), (.str (Str.ofString "]") 822), (.int (.ofNat (nat_lit 10)) (nat_lit 658))⟩, ⟨PyData.keyHash P (Str.ofString "^"), (.str (Str.ofString "^") 823), (.int (.ofNat (nat_lit 32)) (nat_lit 702))⟩, ⟨PyData.keyHash P (Str.ofString "^="), (.str (Str.ofString "^=") 824), (.int (.ofNat (nat_lit 43)) (nat_lit 724))⟩, ⟨PyData.keyHash P (Str.ofString "{"), (.str (Str.ofString "{") 825), (.int (.ofNat (nat_lit 25)) (nat_lit 688))⟩, ⟨PyData.keyHash P (Str.ofString "|"), (.str (Str.ofString "|") 826), (.int (.ofNat (nat_lit 18)) (nat_lit 674))⟩, ⟨PyData.keyHash P (Str.ofString "|="), (.str (Str.ofString "|=") 827), (.int (.ofNat (nat_lit 42)) (nat_lit 722))⟩, ⟨PyData.keyHash P (Str.ofString "}"), (.str (Str.ofString "}") 828), (.int (.ofNat (nat_lit 26)) (nat_lit 690))⟩, ⟨PyData.keyHash P (Str.ofString "~"), (.str (Str.ofString "~") 829), (.int (.ofNat (nat_lit 31)) (nat_lit 700))⟩] 14, #[]⟩
noncomputable def t9 (f : Bool) (P : Params) : BT := (.node (boot_o_0 P) (.node (boot_o_1 P) (.node (o3v564 P) (.node (boot_o_7 P) (.node (o15v6 P) (.node (o31v24 P) (.node (o63v56 P) (.node (o127v208 P) .nil .nil) .nil) (.node (o95v90 P) (.node (o159v560 P) .nil .nil) .nil)) (.node (o47v40 P) (.node (o79v72 P) (.node (o143v250 P) .nil .nil) .nil) (.node (o111v178 P) .nil .nil))) (.node (o23v16 P) (.node (o39v32 P) (.node (o71v64 P) (.node (o135v242 P) .nil .nil) .nil) (.node (o103v98 P) .nil .nil)) (.node (o55v48 P) (.node (o87v80 P) (.node (s151v548 f P) .nil .nil) .nil) (.node (o119v188 P) .nil .nil)))) (.node (o11v0 P) (.node (o19v10 P) (.node (o35v28 P) (.node (o67v60 P) (.node (o131v212 P) .nil .nil) .nil) (.node (o99v94 P) (.node (o163v566 P) .nil .nil) .nil)) (.node (o51v44 P) (.node (o83v76 P) (.node (o147v350 P) .nil .nil) .nil) (.node (o115v184 P) .nil .nil))) (.node (o27v20 P) (.node (o43v36 P) (.node (o75v68 P) (.node (o139v246 P) .nil .nil) .nil) (.node (o107v118 P) .nil .nil)) (.node (o59v52 P) (.node (o91v86 P) (.node (o155v556 P) .nil .nil) .nil) (.node (o123v204 P) .nil .nil))))) (.node (boot_o_5 P) (.node (boot_o_9 P) (.node (o17v8 P) (.node (o33v26 P) (.node (o65v58 P) (.node (o129v210 P) .nil .nil) .nil) (.node (o97v92 P) (.node (o161v562 P) .nil .nil) .nil)) (.node (o49v42 P) (.node (o81v74 P) (.node (o145v252 P) .nil .nil) .nil) (.node (o113v182 P) .nil .nil))) (.node (o25v18 P) (.node (o41v34 P) (.node (o73v66 P) (.node (o137v244 P) .nil .nil) .nil) (.node (o105v116 P) .nil .nil)) (.node (o57v50 P) (.node (o89v84 P) (.node (o153v552 P) .nil .nil) .nil) (.node (s121v200 f P) .nil .nil)))) (.node (o13v2 P) (.node (o21v12 P) (.node (o37v30 P) (.node (o69v62 P) (.node (s133v238 f P) .nil .nil) .nil) (.node (o101v96 P) .nil .nil)) (.node (o53v46 P) (.node (o85v78 P) (.node (o149v352 P) .nil .nil) .nil) (.node (o117v186 P) .nil .nil))) (.node (o29v22 P) (.node (o45v38 P) (.node (o77v70 P) (.node (o141v248 P) .nil .nil) .nil) (.node (s109v174 f P) .nil .nil)) (.node (o61v54 P) (.node (o93v88 P) (.node (o157v558 P) .nil .nil) .nil) (.node (o125v206 P) .nil .nil)))))) (.node (boot_o_2 P) (.node (boot_o_4 P) (.node (boot_o_8 P) (.node (o16v7 P) (.node (o32v25 P) (.node (o64v57 P) (.node (o128v209 P) .nil .nil) .nil) (.node (o96v91 P) (.node (o160v561 P) .nil .nil) .nil)) (.node (o48v41 P) (.node (o80v73 P) (.node (o144v251 P) .nil .nil) .nil) (.node (o112v179 P) .nil .nil))) (.node (o24v17 P) (.node (o40v33 P) (.node (o72v65 P) (.node (o136v243 P) .nil .nil) .nil) (.node (o104v115 P) .nil .nil)) (.node (o56v49 P) (.node (o88v83 P) (.node (o152v551 P) .nil .nil) .nil) (.node (o120v189 P) .nil .nil)))) (.node (o12v555 P) (.node (o20v11 P) (.node (o36v29 P) (.node (o68v61 P) (.node (o132v213 P) .nil .nil) .nil) (.node (o100v95 P) (.node (o164v567 P) .nil .nil) .nil)) (.node (o52v45 P) (.node (o84v77 P) (.node (o148v351 P) .nil .nil) .nil) (.node (o116v185 P) .nil .nil))) (.node (o28v21 P) (.node (o44v37 P) (.node (o76v69 P) (.node (o140v247 P) .nil .nil) .nil) (.node (o108v119 P) .nil .nil)) (.node (o60v53 P) (.node (o92v87 P) (.node (o156v557 P) .nil .nil) .nil) (.node (o124v205 P) .nil .nil))))) (.node (boot_o_6 P) (.node (boot_o_10 P) (.node (o18v9 P) (.node (o34v27 P) (.node (o66v59 P) (.node (o130v211 P) .nil .nil) .nil) (.node (o98v93 P) (.node (o162v565 P) .nil .nil) .nil)) (.node (o50v43 P) (.node (o82v75 P) (.node (o146v349 P) .nil .nil) .nil) (.node (o114v183 P) .nil .nil))) (.node (o26v19 P) (.node (o42v35 P) (.node (o74v67 P) (.node (o138v245 P) .nil .nil) .nil) (.node (o106v117 P) .nil .nil)) (.node (o58v51 P) (.node (o90v85 P) (.node (o154v553 P) .nil .nil) .nil) (.node (o122v201 P) .nil .nil)))) (.node (o14v3 P) (.node (o22v15 P) (.node (o38v31 P) (.node (o70v63 P) (.node (o134v239 P) .nil .nil) .nil) (.node (o102v97 P) .nil .nil)) (.node (o54v47 P) (.node (o86v79 P) (.node (o150v353 P) .nil .nil) .nil) (.node (o118v187 P) .nil .nil))) (.node (o30v23 P) (.node (o46v39 P) (.node (o78v71 P) (.node (o142v249 P) .nil .nil) .nil) (.node (o110v177 P) .nil .nil)) (.node (o62v55 P) (.node (o94v89 P) (.node (o158v559 P) .nil .nil) .nil) (.node (o126v207 P) .nil .nil)))))))
noncomputable def S9 (f : Bool) (w : World) (os : OsState) : SharedT := ⟨t9 f w.params, 165, lf, gs, boot_drawn, 845, os⟩
noncomputable def Q9 (f : Bool) (w : World) : Prop := (fun os => twRun twTab pw (wf f w) m0 ann 1 979 (S8 f (wf f w) os) (TP sts9 ⟨140, 0, 140, 11⟩)) = fun os => some (.next, S9 f (wf f w) os, cE, ⟨141, 0, 141, 17⟩)
noncomputable def G9 (f : Bool) (w : World) (os : OsState) : Option (Flow × SharedT × Code × Pos) := twRun twTab pw (wf f w) m0 ann 1 979 (S8 f (wf f w) os) (TP sts9 ⟨140, 0, 140, 11⟩)
noncomputable def H9 (f : Bool) (w : World) (os : OsState) : Option (Flow × SharedT × Code × Pos) := some (.next, S9 f (wf f w) os, cE, ⟨141, 0, 141, 17⟩)
theorem y9 : ∀ (f : Bool) (w : World), (G9 f (World.withFollow w "special-get-raises" false), G9 f (World.withFollow w "special-get-raises" true)) = (H9 f (World.withFollow w "special-get-raises" false), H9 f (World.withFollow w "special-get-raises" true)) := by intro f; intro w; kernel_rfl
theorem q9 : ∀ f w, Q9 f w := fun f => byRow2 "special-get-raises" (P := fun w => Q9 f w) (fun w => (Eq.mp (show (G9 f (World.withFollow w "special-get-raises" false) = H9 f (World.withFollow w "special-get-raises" false)) = Q9 f (World.withFollow w "special-get-raises" false) from by kernel_rfl) (pa1 (y9 f w)))) (fun w => (Eq.mp (show (G9 f (World.withFollow w "special-get-raises" true) = H9 f (World.withFollow w "special-get-raises" true)) = Q9 f (World.withFollow w "special-get-raises" true) from by kernel_rfl) (pa2 (y9 f w))))
theorem r9 (f : Bool) (w : World) (os : OsState) : segRun treeTable pw (wf f w) m0 ann 1 979 (S8 f (wf f w) os).abs (piecesOf sts9 env cE ⟨140, 0, 140, 11⟩ fB) = some (.next, (S9 f (wf f w) os).abs, cE, ⟨141, 0, 141, 17⟩) := TP_eq sts9 ⟨140, 0, 140, 11⟩ ▸ (lastRun (r := (_, _, _)) (congrFun (q9 f w) os))
noncomputable def sts10 : List Stmt := (pw.main.body.drop 66).take 6
noncomputable def o3v568 (P : Params) : Obj := ⟨(.type "dict"), none, .dict #[⟨PyData.keyHash P (Str.ofString "__name__"), (.str (Str.ofString "__name__") 165), (.str (Str.ofString "law_to0064_01") 852)⟩, ⟨PyData.keyHash P (Str.ofString "__doc__"), (.str (Str.ofString "__doc__") 166), .none⟩, ⟨PyData.keyHash P (Str.ofString "__package__"), (.str (Str.ofString "__package__") 167), .none⟩, ⟨PyData.keyHash P (Str.ofString "__loader__"), (.str (Str.ofString "__loader__") 168), (.builtin "__main__.__loader__#opaque")⟩, ⟨PyData.keyHash P (Str.ofString "__spec__"), (.str (Str.ofString "__spec__") 169), .none⟩, ⟨PyData.keyHash P (Str.ofString "__annotations__"), (.str (Str.ofString "__annotations__") 170), (.ref 6)⟩, ⟨PyData.keyHash P (Str.ofString "__builtins__"), (.str (Str.ofString "__builtins__") 171), (.ref 4)⟩, ⟨PyData.keyHash P (Str.ofString "__file__"), (.str (Str.ofString "__file__") 173), (.str (Str.ofString "/claim/cut.py") 172)⟩, ⟨PyData.keyHash P (Str.ofString "__cached__"), (.str (Str.ofString "__cached__") 174), .none⟩, ⟨PyData.keyHash P (Str.ofString "_wall"), (.str (Str.ofString "_wall") 193), (.ref 21)⟩, ⟨PyData.keyHash P (Str.ofString "Whitespace"), (.str (Str.ofString "Whitespace") 291), (.ref 83)⟩, ⟨PyData.keyHash P (Str.ofString "_int2digits"), (.str (Str.ofString "_int2digits") 304), (.ref 94)⟩, ⟨PyData.keyHash P (Str.ofString "_digits2int"), (.str (Str.ofString "_digits2int") 315), (.ref 101)⟩, ⟨PyData.keyHash P (Str.ofString "b1_set"), (.str (Str.ofString "b1_set") 377), (.ref 109)⟩, ⟨PyData.keyHash P (Str.ofString "in_table_b1"), (.str (Str.ofString "in_table_b1") 384), (.ref 119)⟩, ⟨PyData.keyHash P (Str.ofString "c6_set"), (.str (Str.ofString "c6_set") 398), (.ref 121)⟩, ⟨PyData.keyHash P (Str.ofString "in_table_c6"), (.str (Str.ofString "in_table_c6") 405), (.ref 131)⟩, ⟨PyData.keyHash P (Str.ofString "c7_set"), (.str (Str.ofString "c7_set") 433), (.ref 133)⟩, ⟨PyData.keyHash P (Str.ofString "in_table_c7"), (.str (Str.ofString "in_table_c7") 440), (.ref 143)⟩, ⟨PyData.keyHash P (Str.ofString "c9_set"), (.str (Str.ofString "c9_set") 640), (.ref 151)⟩, ⟨PyData.keyHash P (Str.ofString "in_table_c9"), (.str (Str.ofString "in_table_c9") 647), (.ref 161)⟩, ⟨PyData.keyHash P (Str.ofString "ENDMARKER"), (.str (Str.ofString "ENDMARKER") 651), (.int (.ofNat (nat_lit 0)) (nat_lit 650))⟩, ⟨PyData.keyHash P (Str.ofString "LPAR"), (.str (Str.ofString "LPAR") 653), (.int (.ofNat (nat_lit 7)) (nat_lit 652))⟩, ⟨PyData.keyHash P (Str.ofString "RPAR"), (.str (Str.ofString "RPAR") 655), (.int (.ofNat (nat_lit 8)) (nat_lit 654))⟩, ⟨PyData.keyHash P (Str.ofString "LSQB"), (.str (Str.ofString "LSQB") 657), (.int (.ofNat (nat_lit 9)) (nat_lit 656))⟩, ⟨PyData.keyHash P (Str.ofString "RSQB"), (.str (Str.ofString "RSQB") 659), (.int (.ofNat (nat_lit 10)) (nat_lit 658))⟩, ⟨PyData.keyHash P (Str.ofString "COLON"), (.str (Str.ofString "COLON") 661), (.int (.ofNat (nat_lit 11)) (nat_lit 660))⟩, ⟨PyData.keyHash P (Str.ofString "COMMA"), (.str (Str.ofString "COMMA") 663), (.int (.ofNat (nat_lit 12)) (nat_lit 662))⟩, ⟨PyData.keyHash P (Str.ofString "SEMI"), (.str (Str.ofString "SEMI") 665), (.int (.ofNat (nat_lit 13)) (nat_lit 664))⟩, ⟨PyData.keyHash P (Str.ofString "PLUS"), (.str (Str.ofString "PLUS") 667), (.int (.ofNat (nat_lit 14)) (nat_lit 666))⟩, ⟨PyData.keyHash P (Str.ofString "MINUS"), (.str (Str.ofString "MINUS") 669), (.int (.ofNat (nat_lit 15)) (nat_lit 668))⟩, ⟨PyData.keyHash P (Str.ofString "STAR"), (.str (Str.ofString "STAR") 671), (.int (.ofNat (nat_lit 16)) (nat_lit 670))⟩, ⟨PyData.keyHash P (Str.ofString "SLASH"), (.str (Str.ofString "SLASH") 673), (.int (.ofNat (nat_lit 17)) (nat_lit 672))⟩, ⟨PyData.keyHash P (Str.ofString "VBAR"), (.str (Str.ofString "VBAR") 675), (.int (.ofNat (nat_lit 18)) (nat_lit 674))⟩, ⟨PyData.keyHash P (Str.ofString "AMPER"), (.str (Str.ofString "AMPER") 677), (.int (.ofNat (nat_lit 19)) (nat_lit 676))⟩, ⟨PyData.keyHash P (Str.ofString "LESS"), (.str (Str.ofString "LESS") 679), (.int (.ofNat (nat_lit 20)) (nat_lit 678))⟩, ⟨PyData.keyHash P (Str.ofString "GREATER"), (.str (Str.ofString "GREATER") 681), (.int (.ofNat (nat_lit 21)) (nat_lit 680))⟩, ⟨PyData.keyHash P (Str.ofString "EQUAL"), (.str (Str.ofString "EQUAL") 683), (.int (.ofNat (nat_lit 22)) (nat_lit 682))⟩, ⟨PyData.keyHash P (Str.ofString "DOT"), (.str (Str.ofString "DOT") 685), (.int (.ofNat (nat_lit 23)) (nat_lit 684))⟩, ⟨PyData.keyHash P (Str.ofString "PERCENT"), (.str (Str.ofString "PERCENT") 687), (.int (.ofNat (nat_lit 24)) (nat_lit 686))⟩, ⟨PyData.keyHash P (Str.ofString "LBRACE"), (.str (Str.ofString "LBRACE") 689), (.int (.ofNat (nat_lit 25)) (nat_lit 688))⟩, ⟨PyData.keyHash P (Str.ofString "RBRACE"), (.str (Str.ofString "RBRACE") 691), (.int (.ofNat (nat_lit 26)) (nat_lit 690))⟩, ⟨PyData.keyHash P (Str.ofString "EQEQUAL"), (.str (Str.ofString "EQEQUAL") 693), (.int (.ofNat (nat_lit 27)) (nat_lit 692))⟩, ⟨PyData.keyHash P (Str.ofString "NOTEQUAL"), (.str (Str.ofString "NOTEQUAL") 695), (.int (.ofNat (nat_lit 28)) (nat_lit 694))⟩, ⟨PyData.keyHash P (Str.ofString "LESSEQUAL"), (.str (Str.ofString "LESSEQUAL") 697), (.int (.ofNat (nat_lit 29)) (nat_lit 696))⟩, ⟨PyData.keyHash P (Str.ofString "GREATEREQUAL"), (.str (Str.ofString "GREATEREQUAL") 699), (.int (.ofNat (nat_lit 30)) (nat_lit 698))⟩, ⟨PyData.keyHash P (Str.ofString "TILDE"), (.str (Str.ofString "TILDE") 701), (.int (.ofNat (nat_lit 31)) (nat_lit 700))⟩, ⟨PyData.keyHash P (Str.ofString "CIRCUMFLEX"), (.str (Str.ofString "CIRCUMFLEX") 703), (.int (.ofNat (nat_lit 32)) (nat_lit 702))⟩, ⟨PyData.keyHash P (Str.ofString "LEFTSHIFT"), (.str (Str.ofString "LEFTSHIFT") 705), (.int (.ofNat (nat_lit 33)) (nat_lit 704))⟩, ⟨PyData.keyHash P (Str.ofString "RIGHTSHIFT"), (.str (Str.ofString "RIGHTSHIFT") 707), (.int (.ofNat (nat_lit 34)) (nat_lit 706))⟩, ⟨PyData.keyHash P (Str.ofString "DOUBLESTAR"), (.str (Str.ofString "DOUBLESTAR") 709), (.int (.ofNat (nat_lit 35)) (nat_lit 708))⟩, ⟨PyData.keyHash P (Str.ofString "PLUSEQUAL"), (.str (Str.ofString "PLUSEQUAL") 711), (.int (.ofNat (nat_lit 36)) (nat_lit 710))⟩, ⟨PyData.keyHash P (Str.ofString "MINEQUAL"), (.str (Str.ofString "MINEQUAL") 713), (.int (.ofNat (nat_lit 37)) (nat_lit 712))⟩, ⟨PyData.keyHash P (Str.ofString "STAREQUAL"), (.str (Str.ofString "STAREQUAL") 715), (.int (.ofNat (nat_lit 38)) (nat_lit 714))⟩, ⟨PyData.keyHash P (Str.ofString "SLASHEQUAL"), (.str (Str.ofString "SLASHEQUAL") 717), (.int (.ofNat (nat_lit 39)) (nat_lit 716))⟩, ⟨PyData.keyHash P (Str.ofString "PERCENTEQUAL"), (.str (Str.ofString "PERCENTEQUAL") 719), (.int (.ofNat (nat_lit 40)) (nat_lit 718))⟩, ⟨PyData.keyHash P (Str.ofString "AMPEREQUAL"), (.str (Str.ofString "AMPEREQUAL") 721), (.int (.ofNat (nat_lit 41)) (nat_lit 720))⟩, ⟨PyData.keyHash P (Str.ofString "VBAREQUAL"), (.str (Str.ofString "VBAREQUAL") 723), (.int (.ofNat (nat_lit 42)) (nat_lit 722))⟩, ⟨PyData.keyHash P (Str.ofString "CIRCUMFLEXEQUAL"), (.str (Str.ofString "CIRCUMFLEXEQUAL") 725), (.int (.ofNat (nat_lit 43)) (nat_lit 724))⟩, ⟨PyData.keyHash P (Str.ofString "LEFTSHIFTEQUAL"), (.str (Str.ofString "LEFTSHIFTEQUAL") 727), (.int (.ofNat (nat_lit 44)) (nat_lit 726))⟩, ⟨PyData.keyHash P (Str.ofString "RIGHTSHIFTEQUAL"), (.str (Str.ofString "RIGHTSHIFTEQUAL") 729), (.int (.ofNat (nat_lit 45)) (nat_lit 728))⟩, ⟨PyData.keyHash P (Str.ofString "DOUBLESTAREQUAL"), (.str (Str.ofString "DOUBLESTAREQUAL") 731), (.int (.ofNat (nat_lit 46)) (nat_lit 730))⟩, ⟨PyData.keyHash P (Str.ofString "DOUBLESLASH"), (.str (Str.ofString "DOUBLESLASH") 733), (.int (.ofNat (nat_lit 47)) (nat_lit 732))⟩, ⟨PyData.keyHash P (Str.ofString "DOUBLESLASHEQUAL"), (.str (Str.ofString "DOUBLESLASHEQUAL") 735), (.int (.ofNat (nat_lit 48)) (nat_lit 734))⟩, ⟨PyData.keyHash P (Str.ofString "AT"), (.str (Str.ofString "AT") 737), (.int (.ofNat (nat_lit 49)) (nat_lit 736))⟩, ⟨PyData.keyHash P (Str.ofString "ATEQUAL"), (.str (Str.ofString "ATEQUAL") 739), (.int (.ofNat (nat_lit 50)) (nat_lit 738))⟩, ⟨PyData.keyHash P (Str.ofString "RARROW"), (.str (Str.ofString "RARROW") 741), (.int (.ofNat (nat_lit 51)) (nat_lit 740))⟩, ⟨PyData.keyHash P (Str.ofString "ELLIPSIS"), (.str (Str.ofString "ELLIPSIS") 743), (.int (.ofNat (nat_lit 52)) (nat_lit 742))⟩, ⟨PyData.keyHash P (Str.ofString "COLONEQUAL"), (.str (Str.ofString "COLONEQUAL") 745), (.int (.ofNat (nat_lit 53)) (nat_lit 744))⟩, ⟨PyData.keyHash P (Str.ofString "EXCLAMATION"), (.str (Str.ofString "EXCLAMATION") 747), (.int (.ofNat (nat_lit 54)) (nat_lit 746))⟩, ⟨PyData.keyHash P (Str.ofString "EXACT_TOKEN_TYPES"), (.str (Str.ofString "EXACT_TOKEN_TYPES") 844), (.ref 162)⟩, ⟨PyData.keyHash P (Str.ofString "ISEOF"), (.str (Str.ofString "ISEOF") 851), (.ref 171)⟩, ⟨PyData.keyHash P (Str.ofString "_law_text"), (.str (Str.ofString "_law_text") 867), (.ref 178)⟩, ⟨PyData.keyHash P (Str.ofString "_law_read"), (.str (Str.ofString "_law_read") 873), (.ref 183)⟩, ⟨PyData.keyHash P (Str.ofString "_law_leaps"), (.str (Str.ofString "_law_leaps") 883), (.ref 190)⟩, ⟨PyData.keyHash P (Str.ofString "law"), (.str (Str.ofString "law") 889), (.ref 195)⟩] 76, #[]⟩
noncomputable def o12v569 (P : Params) : Obj := ⟨.none, none, .fields #[(.int (.ofNat (nat_lit 1)) (nat_lit 0)), (.int (.ofNat (nat_lit 0)) (nat_lit 0)), (.ref 20), (.int (.ofNat (nat_lit 5)) (nat_lit 0)), (.int (.ofNat (nat_lit 0)) (nat_lit 0)), (.ref 27), (.int (.ofNat (nat_lit 53)) (nat_lit 0)), (.int (.ofNat (nat_lit 0)) (nat_lit 0)), (.ref 93), (.int (.ofNat (nat_lit 69)) (nat_lit 0)), (.int (.ofNat (nat_lit 0)) (nat_lit 0)), (.ref 100), (.int (.ofNat (nat_lit 80)) (nat_lit 0)), (.int (.ofNat (nat_lit 0)) (nat_lit 0)), (.ref 118), (.int (.ofNat (nat_lit 83)) (nat_lit 0)), (.int (.ofNat (nat_lit 0)) (nat_lit 0)), (.ref 130), (.int (.ofNat (nat_lit 86)) (nat_lit 0)), (.int (.ofNat (nat_lit 0)) (nat_lit 0)), (.ref 142), (.int (.ofNat (nat_lit 89)) (nat_lit 0)), (.int (.ofNat (nat_lit 0)) (nat_lit 0)), (.ref 160), (.int (.ofNat (nat_lit 142)) (nat_lit 0)), (.int (.ofNat (nat_lit 0)) (nat_lit 0)), (.ref 170), (.int (.ofNat (nat_lit 145)) (nat_lit 0)), (.int (.ofNat (nat_lit 0)) (nat_lit 0)), (.ref 177), (.int (.ofNat (nat_lit 159)) (nat_lit 0)), (.int (.ofNat (nat_lit 0)) (nat_lit 0)), (.ref 182), (.int (.ofNat (nat_lit 175)) (nat_lit 0)), (.int (.ofNat (nat_lit 0)) (nat_lit 0)), (.ref 189), (.int (.ofNat (nat_lit 185)) (nat_lit 0)), (.int (.ofNat (nat_lit 0)) (nat_lit 0)), (.ref 194)], #[]⟩
noncomputable def o165v570 (P : Params) : Obj := ⟨(.type "tuple"), none, .seq #[] 0, #[]⟩
noncomputable def o166v571 (P : Params) : Obj := ⟨.none, none, .fields #[], #[]⟩
noncomputable def o167v572 (P : Params) : Obj := ⟨(.type "tuple"), none, .seq #[(.str (Str.ofString "x") 848)] 0, #[]⟩
noncomputable def o168v573 (P : Params) : Obj := ⟨(.type "tuple"), none, .seq #[] 0, #[]⟩
noncomputable def o169v574 (P : Params) : Obj := ⟨.none, none, .func { name := (Str.ofString "ISEOF"), qualname := (Str.ofString "ISEOF"), params := A66.1, body := .stmts B66.1, scope := C66.1, globals := 0, closure := [], defaults := .none, kwdefaults := .none, doc := .none, pyModule := .none, annotations := none, code := .none, closureTuple := .none, builtins := 0 }, #[]⟩
noncomputable def o170v575 (P : Params) : Obj := ⟨(.type "code"), none, .fields #[(.str (Str.ofString "ISEOF") 845), (.str (Str.ofString "ISEOF") 846), (.str (Str.ofString "/claim/cut.py") 847), (.int (.ofNat (nat_lit 142)) (nat_lit 0)), (.int (.ofNat (nat_lit 1)) (nat_lit 0)), (.int (.ofNat (nat_lit 0)) (nat_lit 0)), (.int (.ofNat (nat_lit 0)) (nat_lit 0)), (.int (.ofNat (nat_lit 3)) (nat_lit 0)), (.ref 165), (.bool true), (.int (.ofNat (nat_lit 181)) (nat_lit 0)), (.ref 166), .none, (.ref 167), (.ref 168), (.ref 169), (.int (.ofNat (nat_lit 849)) (nat_lit 0)), (.int (.ofNat (nat_lit 142)) (nat_lit 0)), (.str (Str.ofString "/claim/cut.py") 850)], #[]⟩
noncomputable def o171v576 (P : Params) : Obj := ⟨(.type "function"), none, .func { name := (Str.ofString "ISEOF"), qualname := (Str.ofString "ISEOF"), params := A66.1, body := .stmts B66.1, scope := C66.1, globals := 3, closure := [], defaults := .none, kwdefaults := .none, doc := .none, pyModule := (.str (Str.ofString "cpy313.token") 648), annotations := none, code := (.ref 170), closureTuple := .none, builtins := 0 }, #[]⟩
noncomputable def o172v577 (P : Params) : Obj := ⟨(.type "tuple"), none, .seq #[] 0, #[]⟩
noncomputable def o173v578 (P : Params) : Obj := ⟨.none, none, .fields #[], #[]⟩
noncomputable def o174v579 (P : Params) : Obj := ⟨(.type "tuple"), none, .seq #[(.str (Str.ofString "script") 857), (.str (Str.ofString "unseen") 858), (.str (Str.ofString "gaps") 859), (.str (Str.ofString "lacking") 860), (.str (Str.ofString "signs") 861), (.str (Str.ofString "meant") 862), (.str (Str.ofString "place") 863), (.str (Str.ofString "x") 864)] 0, #[]⟩
noncomputable def o175v580 (P : Params) : Obj := ⟨(.type "tuple"), none, .seq #[] 0, #[]⟩
noncomputable def o176v581 (P : Params) : Obj := ⟨.none, none, .func { name := (Str.ofString "_law_text"), qualname := (Str.ofString "_law_text"), params := A68.1, body := .stmts B68.1, scope := C68.1, globals := 0, closure := [], defaults := .none, kwdefaults := .none, doc := .none, pyModule := .none, annotations := none, code := .none, closureTuple := .none, builtins := 0 }, #[]⟩
noncomputable def o177v582 (P : Params) : Obj := ⟨(.type "code"), none, .fields #[(.str (Str.ofString "_law_text") 854), (.str (Str.ofString "_law_text") 855), (.str (Str.ofString "/claim/cut.py") 856), (.int (.ofNat (nat_lit 145)) (nat_lit 0)), (.int (.ofNat (nat_lit 1)) (nat_lit 0)), (.int (.ofNat (nat_lit 0)) (nat_lit 0)), (.int (.ofNat (nat_lit 0)) (nat_lit 0)), (.int (.ofNat (nat_lit 3)) (nat_lit 0)), (.ref 172), (.bool true), (.int (.ofNat (nat_lit 181)) (nat_lit 0)), (.ref 173), .none, (.ref 174), (.ref 175), (.ref 176), (.int (.ofNat (nat_lit 865)) (nat_lit 0)), (.int (.ofNat (nat_lit 145)) (nat_lit 0)), (.str (Str.ofString "/claim/cut.py") 866)], #[]⟩
noncomputable def o178v583 (P : Params) : Obj := ⟨(.type "function"), none, .func { name := (Str.ofString "_law_text"), qualname := (Str.ofString "_law_text"), params := A68.1, body := .stmts B68.1, scope := C68.1, globals := 3, closure := [], defaults := .none, kwdefaults := .none, doc := .none, pyModule := (.str (Str.ofString "law_to0064_01") 852), annotations := none, code := (.ref 177), closureTuple := .none, builtins := 0 }, #[]⟩
noncomputable def o179v584 (P : Params) : Obj := ⟨(.type "tuple"), none, .seq #[] 0, #[]⟩
noncomputable def o180v585 (P : Params) : Obj := ⟨.none, none, .fields #[], #[]⟩
noncomputable def o181v586 (P : Params) : Obj := ⟨.none, none, .func { name := (Str.ofString "_law_read"), qualname := (Str.ofString "_law_read"), params := A69.1, body := .stmts B69.1, scope := C69.1, globals := 0, closure := [], defaults := .none, kwdefaults := .none, doc := .none, pyModule := .none, annotations := none, code := .none, closureTuple := .none, builtins := 0 }, #[]⟩
noncomputable def o182v587 (P : Params) : Obj := ⟨(.type "code"), none, .fields #[(.str (Str.ofString "_law_read") 868), (.str (Str.ofString "_law_read") 869), (.str (Str.ofString "/claim/cut.py") 870), (.int (.ofNat (nat_lit 159)) (nat_lit 0)), (.int (.ofNat (nat_lit 1)) (nat_lit 0)), (.int (.ofNat (nat_lit 0)) (nat_lit 0)), (.int (.ofNat (nat_lit 0)) (nat_lit 0)), (.int (.ofNat (nat_lit 3)) (nat_lit 0)), (.ref 179), (.bool true), (.int (.ofNat (nat_lit 181)) (nat_lit 0)), (.ref 180), .none, .none, .none, (.ref 181), (.int (.ofNat (nat_lit 871)) (nat_lit 0)), (.int (.ofNat (nat_lit 159)) (nat_lit 0)), (.str (Str.ofString "/claim/cut.py") 872)], #[]⟩
noncomputable def o183v588 (P : Params) : Obj := ⟨(.type "function"), none, .func { name := (Str.ofString "_law_read"), qualname := (Str.ofString "_law_read"), params := A69.1, body := .stmts B69.1, scope := C69.1, globals := 3, closure := [], defaults := .none, kwdefaults := .none, doc := .none, pyModule := (.str (Str.ofString "law_to0064_01") 852), annotations := none, code := (.ref 182), closureTuple := .none, builtins := 0 }, #[]⟩
noncomputable def o184v589 (P : Params) : Obj := ⟨(.type "tuple"), none, .seq #[] 0, #[]⟩
noncomputable def o185v590 (P : Params) : Obj := ⟨.none, none, .fields #[], #[]⟩
noncomputable def o186v591 (P : Params) : Obj := ⟨(.type "tuple"), none, .seq #[(.str (Str.ofString "text") 877), (.str (Str.ofString "far") 878), (.str (Str.ofString "leaps") 879), (.str (Str.ofString "place") 880)] 0, #[]⟩
noncomputable def o187v592 (P : Params) : Obj := ⟨(.type "tuple"), none, .seq #[] 0, #[]⟩
noncomputable def o188v593 (P : Params) : Obj := ⟨.none, none, .func { name := (Str.ofString "_law_leaps"), qualname := (Str.ofString "_law_leaps"), params := A70.1, body := .stmts B70.1, scope := C70.1, globals := 0, closure := [], defaults := .none, kwdefaults := .none, doc := .none, pyModule := .none, annotations := none, code := .none, closureTuple := .none, builtins := 0 }, #[]⟩
noncomputable def o189v594 (P : Params) : Obj := ⟨(.type "code"), none, .fields #[(.str (Str.ofString "_law_leaps") 874), (.str (Str.ofString "_law_leaps") 875), (.str (Str.ofString "/claim/cut.py") 876), (.int (.ofNat (nat_lit 175)) (nat_lit 0)), (.int (.ofNat (nat_lit 2)) (nat_lit 0)), (.int (.ofNat (nat_lit 0)) (nat_lit 0)), (.int (.ofNat (nat_lit 0)) (nat_lit 0)), (.int (.ofNat (nat_lit 3)) (nat_lit 0)), (.ref 184), (.bool true), (.int (.ofNat (nat_lit 181)) (nat_lit 0)), (.ref 185), .none, (.ref 186), (.ref 187), (.ref 188), (.int (.ofNat (nat_lit 881)) (nat_lit 0)), (.int (.ofNat (nat_lit 175)) (nat_lit 0)), (.str (Str.ofString "/claim/cut.py") 882)], #[]⟩
noncomputable def o190v595 (P : Params) : Obj := ⟨(.type "function"), none, .func { name := (Str.ofString "_law_leaps"), qualname := (Str.ofString "_law_leaps"), params := A70.1, body := .stmts B70.1, scope := C70.1, globals := 3, closure := [], defaults := .none, kwdefaults := .none, doc := .none, pyModule := (.str (Str.ofString "law_to0064_01") 852), annotations := none, code := (.ref 189), closureTuple := .none, builtins := 0 }, #[]⟩
noncomputable def o191v596 (P : Params) : Obj := ⟨(.type "tuple"), none, .seq #[] 0, #[]⟩
noncomputable def o192v597 (P : Params) : Obj := ⟨.none, none, .fields #[], #[]⟩
noncomputable def o193v598 (P : Params) : Obj := ⟨.none, none, .func { name := (Str.ofString "law"), qualname := (Str.ofString "law"), params := A71.1, body := .stmts B71.1, scope := C71.1, globals := 0, closure := [], defaults := .none, kwdefaults := .none, doc := .none, pyModule := .none, annotations := none, code := .none, closureTuple := .none, builtins := 0 }, #[]⟩
noncomputable def o194v599 (P : Params) : Obj := ⟨(.type "code"), none, .fields #[(.str (Str.ofString "law") 884), (.str (Str.ofString "law") 885), (.str (Str.ofString "/claim/cut.py") 886), (.int (.ofNat (nat_lit 185)) (nat_lit 0)), (.int (.ofNat (nat_lit 1)) (nat_lit 0)), (.int (.ofNat (nat_lit 0)) (nat_lit 0)), (.int (.ofNat (nat_lit 0)) (nat_lit 0)), (.int (.ofNat (nat_lit 3)) (nat_lit 0)), (.ref 191), (.bool true), (.int (.ofNat (nat_lit 181)) (nat_lit 0)), (.ref 192), .none, .none, .none, (.ref 193), (.int (.ofNat (nat_lit 887)) (nat_lit 0)), (.int (.ofNat (nat_lit 185)) (nat_lit 0)), (.str (Str.ofString "/claim/cut.py") 888)], #[]⟩
noncomputable def o195v600 (P : Params) : Obj := ⟨(.type "function"), none, .func { name := (Str.ofString "law"), qualname := (Str.ofString "law"), params := A71.1, body := .stmts B71.1, scope := C71.1, globals := 3, closure := [], defaults := .none, kwdefaults := .none, doc := .none, pyModule := (.str (Str.ofString "law_to0064_01") 852), annotations := none, code := (.ref 194), closureTuple := .none, builtins := 0 }, #[]⟩
noncomputable def t10 (f : Bool) (P : Params) : BT := (.node (boot_o_0 P) (.node (boot_o_1 P) (.node (o3v568 P) (.node (boot_o_7 P) (.node (o15v6 P) (.node (o31v24 P) (.node (o63v56 P) (.node (o127v208 P) .nil .nil) (.node (o191v596 P) .nil .nil)) (.node (o95v90 P) (.node (o159v560 P) .nil .nil) .nil)) (.node (o47v40 P) (.node (o79v72 P) (.node (o143v250 P) .nil .nil) .nil) (.node (o111v178 P) (.node (o175v580 P) .nil .nil) .nil))) (.node (o23v16 P) (.node (o39v32 P) (.node (o71v64 P) (.node (o135v242 P) .nil .nil) .nil) (.node (o103v98 P) (.node (o167v572 P) .nil .nil) .nil)) (.node (o55v48 P) (.node (o87v80 P) (.node (s151v548 f P) .nil .nil) .nil) (.node (o119v188 P) (.node (o183v588 P) .nil .nil) .nil)))) (.node (o11v0 P) (.node (o19v10 P) (.node (o35v28 P) (.node (o67v60 P) (.node (o131v212 P) .nil .nil) (.node (o195v600 P) .nil .nil)) (.node (o99v94 P) (.node (o163v566 P) .nil .nil) .nil)) (.node (o51v44 P) (.node (o83v76 P) (.node (o147v350 P) .nil .nil) .nil) (.node (o115v184 P) (.node (o179v584 P) .nil .nil) .nil))) (.node (o27v20 P) (.node (o43v36 P) (.node (o75v68 P) (.node (o139v246 P) .nil .nil) .nil) (.node (o107v118 P) (.node (o171v576 P) .nil .nil) .nil)) (.node (o59v52 P) (.node (o91v86 P) (.node (o155v556 P) .nil .nil) .nil) (.node (o123v204 P) (.node (o187v592 P) .nil .nil) .nil))))) (.node (boot_o_5 P) (.node (boot_o_9 P) (.node (o17v8 P) (.node (o33v26 P) (.node (o65v58 P) (.node (o129v210 P) .nil .nil) (.node (o193v598 P) .nil .nil)) (.node (o97v92 P) (.node (o161v562 P) .nil .nil) .nil)) (.node (o49v42 P) (.node (o81v74 P) (.node (o145v252 P) .nil .nil) .nil) (.node (o113v182 P) (.node (o177v582 P) .nil .nil) .nil))) (.node (o25v18 P) (.node (o41v34 P) (.node (o73v66 P) (.node (o137v244 P) .nil .nil) .nil) (.node (o105v116 P) (.node (o169v574 P) .nil .nil) .nil)) (.node (o57v50 P) (.node (o89v84 P) (.node (o153v552 P) .nil .nil) .nil) (.node (s121v200 f P) (.node (o185v590 P) .nil .nil) .nil)))) (.node (o13v2 P) (.node (o21v12 P) (.node (o37v30 P) (.node (o69v62 P) (.node (s133v238 f P) .nil .nil) .nil) (.node (o101v96 P) (.node (o165v570 P) .nil .nil) .nil)) (.node (o53v46 P) (.node (o85v78 P) (.node (o149v352 P) .nil .nil) .nil) (.node (o117v186 P) (.node (o181v586 P) .nil .nil) .nil))) (.node (o29v22 P) (.node (o45v38 P) (.node (o77v70 P) (.node (o141v248 P) .nil .nil) .nil) (.node (s109v174 f P) (.node (o173v578 P) .nil .nil) .nil)) (.node (o61v54 P) (.node (o93v88 P) (.node (o157v558 P) .nil .nil) .nil) (.node (o125v206 P) (.node (o189v594 P) .nil .nil) .nil)))))) (.node (boot_o_2 P) (.node (boot_o_4 P) (.node (boot_o_8 P) (.node (o16v7 P) (.node (o32v25 P) (.node (o64v57 P) (.node (o128v209 P) .nil .nil) (.node (o192v597 P) .nil .nil)) (.node (o96v91 P) (.node (o160v561 P) .nil .nil) .nil)) (.node (o48v41 P) (.node (o80v73 P) (.node (o144v251 P) .nil .nil) .nil) (.node (o112v179 P) (.node (o176v581 P) .nil .nil) .nil))) (.node (o24v17 P) (.node (o40v33 P) (.node (o72v65 P) (.node (o136v243 P) .nil .nil) .nil) (.node (o104v115 P) (.node (o168v573 P) .nil .nil) .nil)) (.node (o56v49 P) (.node (o88v83 P) (.node (o152v551 P) .nil .nil) .nil) (.node (o120v189 P) (.node (o184v589 P) .nil .nil) .nil)))) (.node (o12v569 P) (.node (o20v11 P) (.node (o36v29 P) (.node (o68v61 P) (.node (o132v213 P) .nil .nil) .nil) (.node (o100v95 P) (.node (o164v567 P) .nil .nil) .nil)) (.node (o52v45 P) (.node (o84v77 P) (.node (o148v351 P) .nil .nil) .nil) (.node (o116v185 P) (.node (o180v585 P) .nil .nil) .nil))) (.node (o28v21 P) (.node (o44v37 P) (.node (o76v69 P) (.node (o140v247 P) .nil .nil) .nil) (.node (o108v119 P) (.node (o172v577 P) .nil .nil) .nil)) (.node (o60v53 P) (.node (o92v87 P) (.node (o156v557 P) .nil .nil) .nil) (.node (o124v205 P) (.node (o188v593 P) .nil .nil) .nil))))) (.node (boot_o_6 P) (.node (boot_o_10 P) (.node (o18v9 P) (.node (o34v27 P) (.node (o66v59 P) (.node (o130v211 P) .nil .nil) (.node (o194v599 P) .nil .nil)) (.node (o98v93 P) (.node (o162v565 P) .nil .nil) .nil)) (.node (o50v43 P) (.node (o82v75 P) (.node (o146v349 P) .nil .nil) .nil) (.node (o114v183 P) (.node (o178v583 P) .nil .nil) .nil))) (.node (o26v19 P) (.node (o42v35 P) (.node (o74v67 P) (.node (o138v245 P) .nil .nil) .nil) (.node (o106v117 P) (.node (o170v575 P) .nil .nil) .nil)) (.node (o58v51 P) (.node (o90v85 P) (.node (o154v553 P) .nil .nil) .nil) (.node (o122v201 P) (.node (o186v591 P) .nil .nil) .nil)))) (.node (o14v3 P) (.node (o22v15 P) (.node (o38v31 P) (.node (o70v63 P) (.node (o134v239 P) .nil .nil) .nil) (.node (o102v97 P) (.node (o166v571 P) .nil .nil) .nil)) (.node (o54v47 P) (.node (o86v79 P) (.node (o150v353 P) .nil .nil) .nil) (.node (o118v187 P) (.node (o182v587 P) .nil .nil) .nil))) (.node (o30v23 P) (.node (o46v39 P) (.node (o78v71 P) (.node (o142v249 P) .nil .nil) .nil) (.node (o110v177 P) (.node (o174v579 P) .nil .nil) .nil)) (.node (o62v55 P) (.node (o94v89 P) (.node (o158v559 P) .nil .nil) .nil) (.node (o126v207 P) (.node (o190v595 P) .nil .nil) .nil)))))))
noncomputable def S10 (f : Bool) (w : World) (os : OsState) : SharedT := ⟨t10 f w.params, 196, lf, gs, boot_drawn, 890, os⟩
noncomputable def Q10 (f : Bool) (w : World) : Prop := (fun os => twRun twTab pw (wf f w) m0 ann 1 159 (S9 f (wf f w) os) (TP sts10 ⟨141, 0, 141, 17⟩)) = fun os => some (.next, S10 f (wf f w) os, cE, ⟨185, 0, 210, 55⟩)
theorem q10 : ∀ f w, Q10 f w := fun f => (fun w => by unfold Q10; kernel_rfl)
theorem r10 (f : Bool) (w : World) (os : OsState) : segRun treeTable pw (wf f w) m0 ann 1 159 (S9 f (wf f w) os).abs (piecesOf sts10 env cE ⟨141, 0, 141, 17⟩ fB) = some (.next, (S10 f (wf f w) os).abs, cE, ⟨185, 0, 210, 55⟩) := TP_eq sts10 ⟨141, 0, 141, 17⟩ ▸ (lastRun (r := (_, _, _)) (congrFun (q10 f w) os))
noncomputable def tf (f : Bool) (P : Params) : BT := (.node (boot_o_0 P) (.node (boot_o_1 P) (.node (o3v568 P) (.node (boot_o_7 P) (.node (o15v6 P) (.node (o31v24 P) (.node (o63v56 P) (.node (o127v208 P) .nil .nil) (.node (o191v596 P) .nil .nil)) (.node (o95v90 P) (.node (o159v560 P) .nil .nil) .nil)) (.node (o47v40 P) (.node (o79v72 P) (.node (o143v250 P) .nil .nil) .nil) (.node (o111v178 P) (.node (o175v580 P) .nil .nil) .nil))) (.node (o23v16 P) (.node (o39v32 P) (.node (o71v64 P) (.node (o135v242 P) .nil .nil) .nil) (.node (o103v98 P) (.node (o167v572 P) .nil .nil) .nil)) (.node (o55v48 P) (.node (o87v80 P) (.node (s151v548 f P) .nil .nil) .nil) (.node (o119v188 P) (.node (o183v588 P) .nil .nil) .nil)))) (.node (o11v0 P) (.node (o19v10 P) (.node (o35v28 P) (.node (o67v60 P) (.node (o131v212 P) .nil .nil) (.node (o195v600 P) .nil .nil)) (.node (o99v94 P) (.node (o163v566 P) .nil .nil) .nil)) (.node (o51v44 P) (.node (o83v76 P) (.node (o147v350 P) .nil .nil) .nil) (.node (o115v184 P) (.node (o179v584 P) .nil .nil) .nil))) (.node (o27v20 P) (.node (o43v36 P) (.node (o75v68 P) (.node (o139v246 P) .nil .nil) .nil) (.node (o107v118 P) (.node (o171v576 P) .nil .nil) .nil)) (.node (o59v52 P) (.node (o91v86 P) (.node (o155v556 P) .nil .nil) .nil) (.node (o123v204 P) (.node (o187v592 P) .nil .nil) .nil))))) (.node (boot_o_5 P) (.node (boot_o_9 P) (.node (o17v8 P) (.node (o33v26 P) (.node (o65v58 P) (.node (o129v210 P) .nil .nil) (.node (o193v598 P) .nil .nil)) (.node (o97v92 P) (.node (o161v562 P) .nil .nil) .nil)) (.node (o49v42 P) (.node (o81v74 P) (.node (o145v252 P) .nil .nil) .nil) (.node (o113v182 P) (.node (o177v582 P) .nil .nil) .nil))) (.node (o25v18 P) (.node (o41v34 P) (.node (o73v66 P) (.node (o137v244 P) .nil .nil) .nil) (.node (o105v116 P) (.node (o169v574 P) .nil .nil) .nil)) (.node (o57v50 P) (.node (o89v84 P) (.node (o153v552 P) .nil .nil) .nil) (.node (s121v200 f P) (.node (o185v590 P) .nil .nil) .nil)))) (.node (o13v2 P) (.node (o21v12 P) (.node (o37v30 P) (.node (o69v62 P) (.node (s133v238 f P) .nil .nil) .nil) (.node (o101v96 P) (.node (o165v570 P) .nil .nil) .nil)) (.node (o53v46 P) (.node (o85v78 P) (.node (o149v352 P) .nil .nil) .nil) (.node (o117v186 P) (.node (o181v586 P) .nil .nil) .nil))) (.node (o29v22 P) (.node (o45v38 P) (.node (o77v70 P) (.node (o141v248 P) .nil .nil) .nil) (.node (s109v174 f P) (.node (o173v578 P) .nil .nil) .nil)) (.node (o61v54 P) (.node (o93v88 P) (.node (o157v558 P) .nil .nil) .nil) (.node (o125v206 P) (.node (o189v594 P) .nil .nil) .nil)))))) (.node (boot_o_2 P) (.node (boot_o_4 P) (.node (boot_o_8 P) (.node (o16v7 P) (.node (o32v25 P) (.node (o64v57 P) (.node (o128v209 P) .nil .nil) (.node (o192v597 P) .nil .nil)) (.node (o96v91 P) (.node (o160v561 P) .nil .nil) .nil)) (.node (o48v41 P) (.node (o80v73 P) (.node (o144v251 P) .nil .nil) .nil) (.node (o112v179 P) (.node (o176v581 P) .nil .nil) .nil))) (.node (o24v17 P) (.node (o40v33 P) (.node (o72v65 P) (.node (o136v243 P) .nil .nil) .nil) (.node (o104v115 P) (.node (o168v573 P) .nil .nil) .nil)) (.node (o56v49 P) (.node (o88v83 P) (.node (o152v551 P) .nil .nil) .nil) (.node (o120v189 P) (.node (o184v589 P) .nil .nil) .nil)))) (.node (o12v569 P) (.node (o20v11 P) (.node (o36v29 P) (.node (o68v61 P) (.node (o132v213 P) .nil .nil) .nil) (.node (o100v95 P) (.node (o164v567 P) .nil .nil) .nil)) (.node (o52v45 P) (.node (o84v77 P) (.node (o148v351 P) .nil .nil) .nil) (.node (o116v185 P) (.node (o180v585 P) .nil .nil) .nil))) (.node (o28v21 P) (.node (o44v37 P) (.node (o76v69 P) (.node (o140v247 P) .nil .nil) .nil) (.node (o108v119 P) (.node (o172v577 P) .nil .nil) .nil)) (.node (o60v53 P) (.node (o92v87 P) (.node (o156v557 P) .nil .nil) .nil) (.node (o124v205 P) (.node (o188v593 P) .nil .nil) .nil))))) (.node (boot_o_6 P) (.node (boot_o_10 P) (.node (o18v9 P) (.node (o34v27 P) (.node (o66v59 P) (.node (o130v211 P) .nil .nil) (.node (o194v599 P) .nil .nil)) (.node (o98v93 P) (.node (o162v565 P) .nil .nil) .nil)) (.node (o50v43 P) (.node (o82v75 P) (.node (o146v349 P) .nil .nil) .nil) (.node (o114v183 P) (.node (o178v583 P) .nil .nil) .nil))) (.node (o26v19 P) (.node (o42v35 P) (.node (o74v67 P) (.node (o138v245 P) .nil .nil) .nil) (.node (o106v117 P) (.node (o170v575 P) .nil .nil) .nil)) (.node (o58v51 P) (.node (o90v85 P) (.node (o154v553 P) .nil .nil) .nil) (.node (o122v201 P) (.node (o186v591 P) .nil .nil) .nil)))) (.node (o14v3 P) (.node (o22v15 P) (.node (o38v31 P) (.node (o70v63 P) (.node (o134v239 P) .nil .nil) .nil) (.node (o102v97 P) (.node (o166v571 P) .nil .nil) .nil)) (.node (o54v47 P) (.node (o86v79 P) (.node (o150v353 P) .nil .nil) .nil) (.node (o118v187 P) (.node (o182v587 P) .nil .nil) .nil))) (.node (o30v23 P) (.node (o46v39 P) (.node (o78v71 P) (.node (o142v249 P) .nil .nil) .nil) (.node (o110v177 P) (.node (o174v579 P) .nil .nil) .nil)) (.node (o62v55 P) (.node (o94v89 P) (.node (o158v559 P) .nil .nil) .nil) (.node (o126v207 P) (.node (o190v595 P) .nil .nil) .nil)))))))
noncomputable def Sf (f : Bool) (w : World) (os : OsState) : SharedT := ⟨tf f w.params, 196, lf, gs, boot_drawn, 890, os⟩
noncomputable def KL (P : Params) : Frag := (.cons (nat_lit 2, boot_o_2 P) (.cons (nat_lit 3, o3v568 P) (.cons (nat_lit 15, o15v6 P) (.cons (nat_lit 17, o17v8 P) (.cons (nat_lit 18, o18v9 P) (.cons (nat_lit 20, o20v11 P) (.cons (nat_lit 21, o21v12 P) (.cons (nat_lit 32, o32v25 P) (.cons (nat_lit 34, o34v27 P) (.cons (nat_lit 35, o35v28 P) (.cons (nat_lit 37, o37v30 P) (.cons (nat_lit 38, o38v31 P) (.cons (nat_lit 39, o39v32 P) (.cons (nat_lit 41, o41v34 P) (.cons (nat_lit 42, o42v35 P) (.cons (nat_lit 44, o44v37 P) (.cons (nat_lit 45, o45v38 P) (.cons (nat_lit 46, o46v39 P) (.cons (nat_lit 48, o48v41 P) (.cons (nat_lit 49, o49v42 P) (.cons (nat_lit 51, o51v44 P) (.cons (nat_lit 52, o52v45 P) (.cons (nat_lit 53, o53v46 P) (.cons (nat_lit 55, o55v48 P) (.cons (nat_lit 56, o56v49 P) (.cons (nat_lit 58, o58v51 P) (.cons (nat_lit 59, o59v52 P) (.cons (nat_lit 60, o60v53 P) (.cons (nat_lit 62, o62v55 P) (.cons (nat_lit 63, o63v56 P) (.cons (nat_lit 65, o65v58 P) (.cons (nat_lit 66, o66v59 P) (.cons (nat_lit 67, o67v60 P) (.cons (nat_lit 69, o69v62 P) (.cons (nat_lit 70, o70v63 P) (.cons (nat_lit 72, o72v65 P) (.cons (nat_lit 73, o73v66 P) (.cons (nat_lit 74, o74v67 P) (.cons (nat_lit 76, o76v69 P) (.cons (nat_lit 77, o77v70 P) (.cons (nat_lit 79, o79v72 P) (.cons (nat_lit 80, o80v73 P) (.cons (nat_lit 81, o81v74 P) (.cons (nat_lit 82, o82v75 P) (.cons (nat_lit 83, o83v76 P) (.cons (nat_lit 84, o84v77 P) (.cons (nat_lit 85, o85v78 P) (.cons (nat_lit 88, o88v83 P) (.cons (nat_lit 90, o90v85 P) (.cons (nat_lit 91, o91v86 P) (.cons (nat_lit 93, o93v88 P) (.cons (nat_lit 94, o94v89 P) (.cons (nat_lit 95, o95v90 P) (.cons (nat_lit 97, o97v92 P) (.cons (nat_lit 98, o98v93 P) (.cons (nat_lit 100, o100v95 P) (.cons (nat_lit 101, o101v96 P) (.cons (nat_lit 109, s109v174 (P.followText "set-order") P) (.cons (nat_lit 113, o113v182 P) (.cons (nat_lit 115, o115v184 P) (.cons (nat_lit 116, o116v185 P) (.cons (nat_lit 118, o118v187 P) (.cons (nat_lit 119, o119v188 P) (.cons (nat_lit 121, s121v200 (P.followText "set-order") P) (.cons (nat_lit 125, o125v206 P) (.cons (nat_lit 127, o127v208 P) (.cons (nat_lit 128, o128v209 P) (.cons (nat_lit 130, o130v211 P) (.cons (nat_lit 131, o131v212 P) (.cons (nat_lit 133, s133v238 (P.followText "set-order") P) (.cons (nat_lit 137, o137v244 P) (.cons (nat_lit 139, o139v246 P) (.cons (nat_lit 140, o140v247 P) (.cons (nat_lit 142, o142v249 P) (.cons (nat_lit 143, o143v250 P) (.cons (nat_lit 151, s151v548 (P.followText "set-order") P) (.cons (nat_lit 155, o155v556 P) (.cons (nat_lit 157, o157v558 P) (.cons (nat_lit 158, o158v559 P) (.cons (nat_lit 160, o160v561 P) (.cons (nat_lit 161, o161v562 P) (.cons (nat_lit 162, o162v565 P) (.cons (nat_lit 165, o165v570 P) (.cons (nat_lit 167, o167v572 P) (.cons (nat_lit 168, o168v573 P) (.cons (nat_lit 170, o170v575 P) (.cons (nat_lit 171, o171v576 P) (.cons (nat_lit 172, o172v577 P) (.cons (nat_lit 174, o174v579 P) (.cons (nat_lit 175, o175v580 P) (.cons (nat_lit 177, o177v582 P) (.cons (nat_lit 178, o178v583 P) (.cons (nat_lit 179, o179v584 P) (.cons (nat_lit 182, o182v587 P) (.cons (nat_lit 183, o183v588 P) (.cons (nat_lit 184, o184v589 P) (.cons (nat_lit 186, o186v591 P) (.cons (nat_lit 187, o187v592 P) (.cons (nat_lit 189, o189v594 P) (.cons (nat_lit 190, o190v595 P) (.cons (nat_lit 191, o191v596 P) (.cons (nat_lit 194, o194v599 P) (.cons (nat_lit 195, o195v600 P) .nil)))))))))))))))))))))))))))))))))))))))))))))))))))))))))))))))))))))))))))))))))))))))))))))))))))))))
noncomputable def KA : List Addr := [nat_lit 2, nat_lit 3, nat_lit 15, nat_lit 17, nat_lit 18, nat_lit 20, nat_lit 21, nat_lit 32, nat_lit 34, nat_lit 35, nat_lit 37, nat_lit 38, nat_lit 39, nat_lit 41, nat_lit 42, nat_lit 44, nat_lit 45, nat_lit 46, nat_lit 48, nat_lit 49, nat_lit 51, nat_lit 52, nat_lit 53, nat_lit 55, nat_lit 56, nat_lit 58, nat_lit 59, nat_lit 60, nat_lit 62, nat_lit 63, nat_lit 65, nat_lit 66, nat_lit 67, nat_lit 69, nat_lit 70, nat_lit 72, nat_lit 73, nat_lit 74, nat_lit 76, nat_lit 77, nat_lit 79, nat_lit 80, nat_lit 81, nat_lit 82, nat_lit 83, nat_lit 84, nat_lit 85, nat_lit 88, nat_lit 90, nat_lit 91, nat_lit 93, nat_lit 94, nat_lit 95, nat_lit 97, nat_lit 98, nat_lit 100, nat_lit 101, nat_lit 109, nat_lit 113, nat_lit 115, nat_lit 116, nat_lit 118, nat_lit 119, nat_lit 121, nat_lit 125, nat_lit 127, nat_lit 128, nat_lit 130, nat_lit 131, nat_lit 133, nat_lit 137, nat_lit 139, nat_lit 140, nat_lit 142, nat_lit 143, nat_lit 151, nat_lit 155, nat_lit 157, nat_lit 158, nat_lit 160, nat_lit 161, nat_lit 162, nat_lit 165, nat_lit 167, nat_lit 168, nat_lit 170, nat_lit 171, nat_lit 172, nat_lit 174, nat_lit 175, nat_lit 177, nat_lit 178, nat_lit 179, nat_lit 182, nat_lit 183, nat_lit 184, nat_lit 186, nat_lit 187, nat_lit 189, nat_lit 190, nat_lit 191, nat_lit 194, nat_lit 195]
@[reducible] noncomputable def sV0 : { x : Stmt // sat 0 = x } := ⟨_, by conv => lhs; whnf⟩
@[reducible] noncomputable def sV2 : { x : Stmt // sat 2 = x } := ⟨_, by conv => lhs; whnf⟩
@[reducible] noncomputable def sV4 : { x : Stmt // sat 4 = x } := ⟨_, by conv => lhs; whnf⟩
@[reducible] noncomputable def sV5 : { x : Stmt // sat 5 = x } := ⟨_, by conv => lhs; whnf⟩
@[reducible] noncomputable def sV7 : { x : Stmt // sat 7 = x } := ⟨_, by conv => lhs; whnf⟩
@[reducible] noncomputable def sV8 : { x : Stmt // sat 8 = x } := ⟨_, by conv => lhs; whnf⟩
@[reducible] noncomputable def sV9 : { x : Stmt // sat 9 = x } := ⟨_, by conv => lhs; whnf⟩
@[reducible] noncomputable def sV10 : { x : Stmt // sat 10 = x } := ⟨_, by conv => lhs; whnf⟩
@[reducible] noncomputable def sV11 : { x : Stmt // sat 11 = x } := ⟨_, by conv => lhs; whnf⟩
@[reducible] noncomputable def sV12 : { x : Stmt // sat 12 = x } := ⟨_, by conv => lhs; whnf⟩
@[reducible] noncomputable def sV13 : { x : Stmt // sat 13 = x } := ⟨_, by conv => lhs; whnf⟩
@[reducible] noncomputable def sV14 : { x : Stmt // sat 14 = x } := ⟨_, by conv => lhs; whnf⟩
@[reducible] noncomputable def sV16 : { x : Stmt // sat 16 = x } := ⟨_, by conv => lhs; whnf⟩
@[reducible] noncomputable def sV17 : { x : Stmt // sat 17 = x } := ⟨_, by conv => lhs; whnf⟩
@[reducible] noncomputable def sV18 : { x : Stmt // sat 18 = x } := ⟨_, by conv => lhs; whnf⟩
@[reducible] noncomputable def sV19 : { x : Stmt // sat 19 = x } := ⟨_, by conv => lhs; whnf⟩
@[reducible] noncomputable def sV20 : { x : Stmt // sat 20 = x } := ⟨_, by conv => lhs; whnf⟩
@[reducible] noncomputable def sV21 : { x : Stmt // sat 21 = x } := ⟨_, by conv => lhs; whnf⟩
@[reducible] noncomputable def sV22 : { x : Stmt // sat 22 = x } := ⟨_, by conv => lhs; whnf⟩
@[reducible] noncomputable def sV23 : { x : Stmt // sat 23 = x } := ⟨_, by conv => lhs; whnf⟩
@[reducible] noncomputable def sV24 : { x : Stmt // sat 24 = x } := ⟨_, by conv => lhs; whnf⟩
@[reducible] noncomputable def sV25 : { x : Stmt // sat 25 = x } := ⟨_, by conv => lhs; whnf⟩
@[reducible] noncomputable def sV26 : { x : Stmt // sat 26 = x } := ⟨_, by conv => lhs; whnf⟩
@[reducible] noncomputable def sV27 : { x : Stmt // sat 27 = x } := ⟨_, by conv => lhs; whnf⟩
@[reducible] noncomputable def sV28 : { x : Stmt // sat 28 = x } := ⟨_, by conv => lhs; whnf⟩
@[reducible] noncomputable def sV29 : { x : Stmt // sat 29 = x } := ⟨_, by conv => lhs; whnf⟩
@[reducible] noncomputable def sV30 : { x : Stmt // sat 30 = x } := ⟨_, by conv => lhs; whnf⟩
@[reducible] noncomputable def sV31 : { x : Stmt // sat 31 = x } := ⟨_, by conv => lhs; whnf⟩
@[reducible] noncomputable def sV32 : { x : Stmt // sat 32 = x } := ⟨_, by conv => lhs; whnf⟩
@[reducible] noncomputable def sV33 : { x : Stmt // sat 33 = x } := ⟨_, by conv => lhs; whnf⟩
@[reducible] noncomputable def sV34 : { x : Stmt // sat 34 = x } := ⟨_, by conv => lhs; whnf⟩
@[reducible] noncomputable def sV35 : { x : Stmt // sat 35 = x } := ⟨_, by conv => lhs; whnf⟩
@[reducible] noncomputable def sV36 : { x : Stmt // sat 36 = x } := ⟨_, by conv => lhs; whnf⟩
@[reducible] noncomputable def sV37 : { x : Stmt // sat 37 = x } := ⟨_, by conv => lhs; whnf⟩
@[reducible] noncomputable def sV38 : { x : Stmt // sat 38 = x } := ⟨_, by conv => lhs; whnf⟩
@[reducible] noncomputable def sV39 : { x : Stmt // sat 39 = x } := ⟨_, by conv => lhs; whnf⟩
@[reducible] noncomputable def sV40 : { x : Stmt // sat 40 = x } := ⟨_, by conv => lhs; whnf⟩
@[reducible] noncomputable def sV41 : { x : Stmt // sat 41 = x } := ⟨_, by conv => lhs; whnf⟩
@[reducible] noncomputable def sV42 : { x : Stmt // sat 42 = x } := ⟨_, by conv => lhs; whnf⟩
@[reducible] noncomputable def sV43 : { x : Stmt // sat 43 = x } := ⟨_, by conv => lhs; whnf⟩
@[reducible] noncomputable def sV44 : { x : Stmt // sat 44 = x } := ⟨_, by conv => lhs; whnf⟩
@[reducible] noncomputable def sV45 : { x : Stmt // sat 45 = x } := ⟨_, by conv => lhs; whnf⟩
@[reducible] noncomputable def sV46 : { x : Stmt // sat 46 = x } := ⟨_, by conv => lhs; whnf⟩
@[reducible] noncomputable def sV47 : { x : Stmt // sat 47 = x } := ⟨_, by conv => lhs; whnf⟩
@[reducible] noncomputable def sV48 : { x : Stmt // sat 48 = x } := ⟨_, by conv => lhs; whnf⟩
@[reducible] noncomputable def sV49 : { x : Stmt // sat 49 = x } := ⟨_, by conv => lhs; whnf⟩
@[reducible] noncomputable def sV50 : { x : Stmt // sat 50 = x } := ⟨_, by conv => lhs; whnf⟩
@[reducible] noncomputable def sV51 : { x : Stmt // sat 51 = x } := ⟨_, by conv => lhs; whnf⟩
@[reducible] noncomputable def sV52 : { x : Stmt // sat 52 = x } := ⟨_, by conv => lhs; whnf⟩
@[reducible] noncomputable def sV53 : { x : Stmt // sat 53 = x } := ⟨_, by conv => lhs; whnf⟩
@[reducible] noncomputable def sV54 : { x : Stmt // sat 54 = x } := ⟨_, by conv => lhs; whnf⟩
@[reducible] noncomputable def sV55 : { x : Stmt // sat 55 = x } := ⟨_, by conv => lhs; whnf⟩
@[reducible] noncomputable def sV56 : { x : Stmt // sat 56 = x } := ⟨_, by conv => lhs; whnf⟩
@[reducible] noncomputable def sV57 : { x : Stmt // sat 57 = x } := ⟨_, by conv => lhs; whnf⟩
@[reducible] noncomputable def sV58 : { x : Stmt // sat 58 = x } := ⟨_, by conv => lhs; whnf⟩
@[reducible] noncomputable def sV59 : { x : Stmt // sat 59 = x } := ⟨_, by conv => lhs; whnf⟩
@[reducible] noncomputable def sV60 : { x : Stmt // sat 60 = x } := ⟨_, by conv => lhs; whnf⟩
@[reducible] noncomputable def sV61 : { x : Stmt // sat 61 = x } := ⟨_, by conv => lhs; whnf⟩
@[reducible] noncomputable def sV62 : { x : Stmt // sat 62 = x } := ⟨_, by conv => lhs; whnf⟩
@[reducible] noncomputable def sV63 : { x : Stmt // sat 63 = x } := ⟨_, by conv => lhs; whnf⟩
@[reducible] noncomputable def sV64 : { x : Stmt // sat 64 = x } := ⟨_, by conv => lhs; whnf⟩
@[reducible] noncomputable def sV65 : { x : Stmt // sat 65 = x } := ⟨_, by conv => lhs; whnf⟩
@[reducible] noncomputable def sV66 : { x : Stmt // sat 66 = x } := ⟨_, by conv => lhs; whnf⟩
@[reducible] noncomputable def sV68 : { x : Stmt // sat 68 = x } := ⟨_, by conv => lhs; whnf⟩
@[reducible] noncomputable def sV69 : { x : Stmt // sat 69 = x } := ⟨_, by conv => lhs; whnf⟩
@[reducible] noncomputable def sV70 : { x : Stmt // sat 70 = x } := ⟨_, by conv => lhs; whnf⟩
@[reducible] noncomputable def sV71 : { x : Stmt // sat 71 = x } := ⟨_, by conv => lhs; whnf⟩
noncomputable def qv : Program := { pw with main := { pw.main with body := sV0.1 :: sV2.1 :: sV4.1 :: sV5.1 :: sV7.1 :: sV8.1 :: sV9.1 :: sV10.1 :: sV11.1 :: sV12.1 :: sV13.1 :: sV14.1 :: sV16.1 :: sV17.1 :: sV18.1 :: sV19.1 :: sV20.1 :: sV21.1 :: sV22.1 :: sV23.1 :: sV24.1 :: sV25.1 :: sV26.1 :: sV27.1 :: sV28.1 :: sV29.1 :: sV30.1 :: sV31.1 :: sV32.1 :: sV33.1 :: sV34.1 :: sV35.1 :: sV36.1 :: sV37.1 :: sV38.1 :: sV39.1 :: sV40.1 :: sV41.1 :: sV42.1 :: sV43.1 :: sV44.1 :: sV45.1 :: sV46.1 :: sV47.1 :: sV48.1 :: sV49.1 :: sV50.1 :: sV51.1 :: sV52.1 :: sV53.1 :: sV54.1 :: sV55.1 :: sV56.1 :: sV57.1 :: sV58.1 :: sV59.1 :: sV60.1 :: sV61.1 :: sV62.1 :: sV63.1 :: sV64.1 :: sV65.1 :: sV66.1 :: sV68.1 :: sV69.1 :: sV70.1 :: sV71.1 :: [] } }
noncomputable def lse : List Str := [(Str.ofString "Whitespace"), (Str.ofString "b1_set"), (Str.ofString "c6_set"), (Str.ofString "c7_set"), (Str.ofString "c9_set"), (Str.ofString "EXACT_TOKEN_TYPES")]
/- steps 7632 lv [] -/
/- fin: 1 steps, rows [] []; groups 11; last state S10; pos ⟨185, 0, 210, 55⟩ -/

noncomputable def Qpre (w : World) : Prop := (fun os => PySem.W.Fast.tw15667345088766844465 twTab pw w m0 ann 12 ⟨boot_heap w.params, gs, boot_drawn, boot_toks, os⟩ (topStub pw)) = fun os => some (Sa w os, ⟨twDen twTab cE, cE, ⟨0, 0, 0, 0⟩, fB⟩)
theorem qpre : ∀ w, Qpre w := fun w => by unfold Qpre; kernel_rfl
theorem qblock (f : Bool) (w : World) : (fun os => segRun treeTable pw w m0 ann 1 1 (Sa w os) (blockOf (behindTheImports pw) env cE ⟨0, 0, 0, 0⟩ fB)) = fun os => some (.next, (Sb f w os).abs, cE, ⟨0, 0, 0, 0⟩) := by kernel_rfl
theorem qfin (f : Bool) (w : World) : (fun os => PySem.W.Fast.tw14082659384304107361 twTab pw w m0 ann 2 (S10 f w os).abs ⟨doneF .next, cE, ⟨185, 0, 210, 55⟩, fB⟩) = fun os => some (Sf f w os).abs := by kernel_rfl
theorem denEq : twDen twTab = denote treeTable := by rw [PySem.W.Fast.te11892475500146522536, PySem.W.Fast.te14364793385576792824]
theorem bodyEq : behindTheImports pw = sts0 ++ (sts1 ++ (sts2 ++ (sts3 ++ (sts4 ++ (sts5 ++ (sts6 ++ (sts7 ++ (sts8 ++ (sts9 ++ (sts10 ++ ([]))))))))))) := by kernel_rfl
noncomputable def mAll : Nat := (12 + (1 + (39 + (489 + (85 + ((97 + (34 + (34 + (34 + (34 + (34 + (34 + (34 + (34 + (59 + (20 + (20 + (20 + (20 + (22 + (20 + (20 + (20 + (20 + (20 + (20 + (20 + (20 + (20 + (20 + (20 + (20 + (20 + (22 + (20 + (20 + (20 + (20 + (20 + (20 + (20 + (20 + 27))))))))))))))))))))))))))))))))))))) + ((87 + (23 + (23 + (23 + (23 + (25 + 54)))))) + ((58 + (23 + (23 + (23 + (23 + (25 + (23 + (23 + (23 + (23 + (23 + (23 + (23 + 54))))))))))))) + ((87 + (34 + (34 + (34 + (34 + (34 + (34 + (34 + (34 + (34 + (34 + (34 + (34 + (34 + (34 + (34 + (34 + (34 + (34 + (34 + (34 + (34 + (34 + (34 + (34 + (34 + (34 + (34 + (34 + (34 + (34 + (34 + (34 + (34 + (34 + (34 + (34 + (34 + (34 + (34 + (34 + (34 + (34 + (34 + (34 + (34 + (34 + (34 + (34 + (59 + (20 + (20 + (20 + (20 + (22 + (20 + (20 + (20 + (20 + (20 + (20 + (20 + (20 + (20 + (20 + (20 + (20 + (20 + (22 + (20 + (20 + (20 + (20 + (20 + (20 + (20 + (20 + (20 + (20 + (20 + (20 + (20 + (20 + (20 + (20 + (20 + (20 + (20 + (20 + (20 + (20 + (20 + (20 + (20 + (20 + (20 + (20 + (20 + (20 + (20 + (20 + (20 + (20 + (20 + (20 + (20 + (20 + (20 + (20 + (20 + (20 + (20 + (20 + (20 + (20 + (20 + (20 + (20 + (20 + (20 + (20 + (20 + (20 + (20 + (20 + (20 + (22 + (20 + (20 + (20 + (20 + (20 + (20 + (20 + (20 + (20 + (20 + (20 + (20 + (20 + (20 + (20 + (20 + (20 + (20 + (20 + (20 + 27))))))))))))))))))))))))))))))))))))))))))))))))))))))))))))))))))))))))))))))))))))))))))))))))))))))))))))))))))))))))))))))))))))))))))))))))))) + (399 + (82 + (979 + (159 + 2)))))))))))))
theorem runF (f : Bool) (w₀ : World) (os : OsState) : topRun treeTable pw (wf f w₀) m0 ann mAll ⟨boot_heap (wf f w₀).params, gs, boot_drawn, boot_toks, os⟩ (topStub pw) = some (Sf f (wf f w₀) os).abs := by
  have h0 : ∀ w : World, topGo treeTable pw w m0 ann 12 ⟨boot_heap w.params, gs, boot_drawn, boot_toks, os⟩ (topStub pw) = some (Sa w os, ⟨denote treeTable cE, cE, ⟨0, 0, 0, 0⟩, fB⟩) := by
    intro w
    rw [PySem.W.Fast.te15667345088766844465, ← denEq, PySem.W.Fast.te14364793385576792824]; exact congrFun (qpre w) os
  refine go_top (h0 _) ?_
  refine piece_block (b := behindTheImports pw) (env := env) (congrFun (qblock f (wf f w₀)) os) ?_
  rw [bodyEq]
  refine piece_app (r0 f w₀ os) ?_
  refine piece_app (r1 f w₀ os) ?_
  refine piece_app (r2 f w₀ os) ?_
  refine piece_app (r3 f w₀ os) ?_
  refine piece_app (r4 f w₀ os) ?_
  refine piece_app (r5 f w₀ os) ?_
  refine piece_app (r6 f w₀ os) ?_
  refine piece_app (r7 f w₀ os) ?_
  refine piece_app (r8 f w₀ os) ?_
  refine piece_app (r9 f w₀ os) ?_
  refine piece_app (r10 f w₀ os) ?_
  exact piece_nil (by rw [PySem.W.Fast.te14082659384304107361, PySem.W.Fast.te14364793385576792824]; exact congrFun (qfin f (wf f w₀)) os)
theorem runAll (w : World) (os : OsState) : topRun treeTable pw w m0 ann mAll ⟨boot_heap w.params, gs, boot_drawn, boot_toks, os⟩ (topStub pw) = some (Sf (w.params.followText "set-order") w os).abs := by
  have h := runF (w.params.followText "set-order") w os
  rw [show wf (w.params.followText "set-order") w = w from World.withFollow_self w "set-order"] at h
  exact h
noncomputable def Hend (P : Params) : Heap := absHeap (tf (P.followText "set-order") P) 196 lf
noncomputable abbrev rw0 : OpenRow := PySem.Challenge.rw_to0064_01.row
theorem kOk : ∀ P : Params, KA = (KL P).map (·.1) := fun _ => by kernel_rfl
noncomputable abbrev kH : Hook := kHook KL KA kOk
noncomputable abbrev nAll : Nat := 15364
noncomputable abbrev Xt0 : Shared → Bool := fun s => xlAt qv [] s && recOk (RowW.records rw0.toRowW) s
theorem openAll (w : World) : (fencedOpening treeTable pw w 15364).map (fun s => (s.heap, s.gens, s.drawn, s.toks)) = some (boot_heap w.params, gs, boot_drawn, boot_toks) :=
  boot_open (by kernel_rfl) (by decide) (fun s => by kernel_rfl) w
theorem sizeAll (w : World) : ((boot_heap w.params).isNs mainGlobals && gs.size == 0, (boot_heap w.params).objs.size, (boot_heap w.params).nsMap mainGlobals "__annotations__") = (true, m0, ann) := by kernel_rfl
theorem look1 (w : World) : (fun os => (staticsOk (importedModules pw.main.body) (boot_heap w.params) (Hend w.params) && namesBound pw (Hend w.params) && gensDone ⟨Hend w.params, gs, boot_drawn, 890, os⟩ && laidKept (boot_heap w.params) (Hend w.params))) = fun _ => true := by kernel_rfl
theorem look2 (w : World) : (fun os => openSeen qv lse (importedModules pw.main.body) Xt0 true ⟨Hend w.params, gs, boot_drawn, 890, os⟩) = fun _ => openGood qv lse := by
  rw [PySem.W.Fast.te4187177175401517315]; kernel_rfl
theorem look3 (w : World) : (fun os => kH.obs ⟨Hend w.params, gs, boot_drawn, 890, os⟩) = fun _ => kH.val w := by kernel_rfl
theorem left : LeftO pw qv lse Xt0 kH.obs kH.val nAll :=
  LeftO.of_pieces (H₀ := boot_heap) (H₁ := Hend) (gs₀ := gs) (gs₁ := gs) (d₀ := boot_drawn) (d₁ := boot_drawn) (k₀ := boot_toks) (k₁ := 890) (m₀ := m0) (ann := ann) (M := mAll)
    openAll sizeAll (fun w os => runAll w os) (by decide) (fun w => by
      funext os
      exact Prod.ext (congrFun (look1 w) os) (Prod.ext (congrFun (look2 w) os) (congrFun (look3 w) os)))

end
end MineH
end

section
open PySem PySem.W PyProof.Rows
namespace Mine
noncomputable section
noncomputable abbrev LP : Program := PySem.Challenge.rw_to0064_01.row.prog
noncomputable abbrev LK (w : World) : Frag := MineH.KL w.params

/-- a set of ints that stands written out -/
noncomputable def intElem (e : Int × Value) : Bool := match e.2 with | .int i _ => e.1 == hashInt i | _ => false
noncomputable def intIn (es : List (Int × Value)) (k : Int) : Bool := es.any fun e => Value.isInt k e.2
theorem setObj_ints {prog : Program} {w : World} {es : Array (Int × Value)} {ep : Nat} {t : SetTable} (h : es.toList.all intElem = true) (hf : t.fits es.size = true) :
    Obj.SetObjOf (intKind prog w) ⟨.type "set", none, .set es ep t, #[]⟩ (intIn es.toList) es.size := by
  refine ⟨⟨rfl, rfl, rfl⟩, es, ep, t, rfl, ?_, ?_, rfl, hf⟩
  · intro e he
    have := List.all_eq_true.mp h e he
    obtain ⟨hh, v⟩ := e
    unfold intElem at this
    dsimp only at this
    split at this
    · rename_i i t'
      exact ⟨⟨i, by simp [intKind, Value.isInt], beq_iff_eq.mp this⟩, rfl⟩
    · cases this
  · intro k
    unfold intIn
    rw [List.any_eq_true]
    rfl
theorem inSet_K {prog : Program} {w : World} {A : Around} {E : Value → Shared → Prop} {s : Shared} {K : Frag} {h₀ : Heap} {L a : Addr} {m : Str → Option Value} {es : Array (Int × Value)} {ep : Nat} {t : SetTable} {k : Int} {u : Tok} {Q : Value → Shared → Prop}
    (F : Fr h₀ L s.heap m) (X₀ : K.In h₀) (hl : K.lookup a = some ⟨.type "set", none, .set es ep t, #[]⟩) (h1 : es.toList.all intElem = true) (h2 : t.fits es.size = true) (h3 : Nat.blt es.size scanBound = true)
    (h : Q (.bool (intIn es.toList k)) { s with toks := s.toks + 1 }) : wpAny (model prog w) A (compareOp .In (.int k u) (.ref a)) Q E s :=
  wpAny_inSet_of (k := k) (intKind_is prog w k u) rfl ((setObj_ints h1 h2).setOf ((X₀.keeps F.keep) _ _ hl) (Nat.le_of_ble_eq_true h3)) h

section
variable {lp : Program} {w : World} {loose : List Str} {mean : ExcName → Option Value} {mg mb : Str → Option Value}
local macro_rules | `(tactic| walk_at "compareOp In int") => `(tactic| (k_here; (with_reducible show wpAny _ _ (compareOp CmpOp.In (Value.int _ _) (Value.ref _)) _ _ _); k_dflt (refine' inSet_K ?k1 ?k2 ?k3 ?k4 ?k5 ?k6 ?_; (case k1 => k_asm); (case k2 => k_asm); (case k3 => k_is); (case k4 => first | kernel_rfl! | fail "k4"); (case k5 => first | kernel_rfl! | fail "k5"); (case k6 => first | kernel_rfl! | fail "k6"); k_whole)))
noncomputable def b1L : List Int := [65024, 65025, 65026, 65027, 65028, 65029, 6150, 65030, 65031, 65032, 65033, 6155, 6156, 6157, 8203, 8204, 8205, 65034, 65035, 65036, 65037, 65038, 65039, 173, 847, 8288, 65279]
noncomputable def b1F (x : Str) : Bool := b1L.any fun i => i == ((x.cps.getD 0 0 : Nat) : Int)
theorem c_b1 (news : CbLed) (x : Str) (tx : Tok) : CbClaim LP w (LK w) lp loose mean mg mb 119 news [] (x.length = 1) [.str x tx] (fun _ => .bool (b1F x)) := by
  dsimp only [CbClaim, CbLists, CbRet, LK, LP]; k_fill; intros; rename_i hret
  refine wpAny_call ?_; k_dflt cell_enter
  k_steps
  exact cb_retB hret (by rfl) (by assumption) (by assumption)
noncomputable def c6L : List Int := [65529, 65530, 65531, 65532, 65533]
noncomputable def c6F (x : Str) : Bool := c6L.any fun i => i == ((x.cps.getD 0 0 : Nat) : Int)
theorem c_c6 (news : CbLed) (x : Str) (tx : Tok) : CbClaim LP w (LK w) lp loose mean mg mb 131 news [] (x.length = 1) [.str x tx] (fun _ => .bool (c6F x)) := by
  dsimp only [CbClaim, CbLists, CbRet, LK, LP]; k_fill; intros; rename_i hret
  refine wpAny_call ?_; k_dflt cell_enter
  k_steps
  exact cb_retB hret (by rfl) (by assumption) (by assumption)
noncomputable def c7L : List Int := [12272, 12273, 12274, 12275, 12276, 12277, 12278, 12279, 12280, 12281, 12282, 12283]
noncomputable def c7F (x : Str) : Bool := c7L.any fun i => i == ((x.cps.getD 0 0 : Nat) : Int)
theorem c_c7 (news : CbLed) (x : Str) (tx : Tok) : CbClaim LP w (LK w) lp loose mean mg mb 143 news [] (x.length = 1) [.str x tx] (fun _ => .bool (c7F x)) := by
  dsimp only [CbClaim, CbLists, CbRet, LK, LP]; k_fill; intros; rename_i hret
  refine wpAny_call ?_; k_dflt cell_enter
  k_steps
  exact cb_retB hret (by rfl) (by assumption) (by assumption)
noncomputable def c9L : List Int := [917505, 917536, 917537, 917538, 917539, 917540, 917541, 917542, 917543, 917544, 917545, 917546, 917547, 917548, 917549, 917550, 917551, 917552, 917553, 917554, 917555, 917556, 917557, 917558, 917559, 917560, 917561, 917562, 917563, 917564, 917565, 917566, 917567, 917568, 917569, 917570, 917571, 917572, 917573, 917574, 917575, 917576, 917577, 917578, 917579, 917580, 917581, 917582, 917583, 917584, 917585, 917586, 917587, 917588, 917589, 917590, 917591, 917592, 917593, 917594, 917595, 917596, 917597, 917598, 917599, 917600, 917601, 917602, 917603, 917604, 917605, 917606, 917607, 917608, 917609, 917610, 917611, 917612, 917613, 917614, 917615, 917616, 917617, 917618, 917619, 917620, 917621, 917622, 917623, 917624, 917625, 917626, 917627, 917628, 917629, 917630, 917631]
noncomputable def c9F (x : Str) : Bool := c9L.any fun i => i == ((x.cps.getD 0 0 : Nat) : Int)
theorem c_c9 (news : CbLed) (x : Str) (tx : Tok) : CbClaim LP w (LK w) lp loose mean mg mb 161 news [] (x.length = 1) [.str x tx] (fun _ => .bool (c9F x)) := by
  dsimp only [CbClaim, CbLists, CbRet, LK, LP]; k_fill; intros; rename_i hret
  refine wpAny_call ?_; k_dflt cell_enter
  k_steps
  exact cb_retB hret (by rfl) (by assumption) (by assumption)
theorem c_iseof (news : CbLed) (x : Int) (tx : Tok) : CbClaim LP w (LK w) lp loose mean mg mb 171 news [] True [.int x tx] (fun _ => .bool (x == 0)) := by
  dsimp only [CbClaim, CbLists, CbRet, LK, LP]; k_fill; intros; rename_i hret
  refine wpAny_call ?_; k_dflt cell_enter
  k_steps
  exact cb_retB hret (by rfl) (by assumption) (by assumption)
end
end
end Mine
end
section
open PySem PySem.W PyProof.Rows PySem.Builtin PySem.Builtin.Str
namespace Mine
noncomputable section
noncomputable def Stop (P : Prop) : Prop := P
theorem stop {P : Prop} (h : Stop P) : P := h
/-- the slice of a text by codes -/
noncomputable def sl (x : Str) (i j : Int) : List Nat := (x.cps.toList.drop i.toNat).take (j.toNat - i.toNat)
noncomputable def leapsN (x : Str) (far : Int) : Nat → Int → Int
  | 0, _ => 0
  | n + 1, p => if p + 2 * far ≤ (x.length : Int) then (if (Txt.slice x (some p) (some (p + far)) == Txt.slice x (some (p + far)) (some (p + 2 * far))) = true then 1 + leapsN x far n (p + far) else leapsN x far n (p + 1)) else 0
theorem leaps_hit {x : Str} {far p l R : Int} (h : ∃ n : Nat, 11 ≤ (n : Int) + p ∧ l + leapsN x far n p = R) (h0 : 0 ≤ p) (hf : 1 ≤ far) (hx : x.length = 10) (hp : p + 2 * far ≤ (x.length : Int))
    (e : (Txt.slice x (some p) (some (p + far)) == Txt.slice x (some (p + far)) (some (p + 2 * far))) = true) : ∃ n : Nat, 11 ≤ (n : Int) + (p + far) ∧ (l + 1) + leapsN x far n (p + far) = R := by
  obtain ⟨n, hn, h⟩ := h
  cases n with
  | zero => omega
  | succ n =>
    refine ⟨n, by omega, ?_⟩
    rw [leapsN, if_pos hp, if_pos e] at h
    omega
theorem leaps_miss {x : Str} {far p l R : Int} (h : ∃ n : Nat, 11 ≤ (n : Int) + p ∧ l + leapsN x far n p = R) (h0 : 0 ≤ p) (hf : 1 ≤ far) (hx : x.length = 10) (hp : p + 2 * far ≤ (x.length : Int))
    (e : (Txt.slice x (some p) (some (p + far)) == Txt.slice x (some (p + far)) (some (p + 2 * far))) = false) : ∃ n : Nat, 11 ≤ (n : Int) + (p + 1) ∧ l + leapsN x far n (p + 1) = R := by
  obtain ⟨n, hn, h⟩ := h
  cases n with
  | zero => omega
  | succ n =>
    refine ⟨n, by omega, ?_⟩
    rw [leapsN, if_pos hp, if_neg (by rw [e]; exact Bool.false_ne_true)] at h
    omega
theorem leaps_end {x : Str} {far p l R : Int} (h : ∃ n : Nat, 11 ≤ (n : Int) + p ∧ l + leapsN x far n p = R) (hp : ¬ p + 2 * far ≤ (x.length : Int)) : l = R := by
  obtain ⟨n, hn, h⟩ := h
  cases n with
  | zero => simpa [leapsN] using h
  | succ n => rw [leapsN, if_neg hp] at h; omega
structure MarkX : Prop where
/-- a claim on a call of a def whose return is handed on by R -/
noncomputable abbrev CallClaim (prog : Program) (w : World) (K : Frag) (p : Program) (loose : List Str) (mean : ExcName → Option Value) (mg mb : Str → Option Value) (f : Addr) (news : List (Addr × Obj)) (vs : List Value) (pre : Heap → Addr → Shared → Prop)
    (R : Heap → Addr → (Str → Option Value) → Shared → (Value → Shared → Prop) → Prop) : Prop :=
  ∀ (dp un : Nat) (gd : Option (List Code)) (cn : Str) (cs : Scope) (a : Addr) (ccd : Value) (cl : List (Str × Addr)) (outer : List Env) (A₀ : Around) (base h₀ : Heap) (L : Addr) (m : Str → Option Value) (s : Shared) (Q E : Value → Shared → Prop),
    Below A₀ base outer h₀ → Fr h₀ L s.heap m → K.In h₀ → News h₀ L s.heap news → Top p loose mean mg mb h₀ → cs.kind = .function →
    pre base L s → dp + 40 < recursionLimit → un + 128 < cLine → R h₀ L m s Q →
      wpAny (model prog w) (ktrTop dp un gd cn cs L a ccd cl outer) (call (.ref f) vs) Q E s
section
variable {lp : Program} {w : World} {loose : List Str} {mean : ExcName → Option Value} {mg mb : Str → Option Value}
local macro_rules | `(tactic| walk_at "exec While") => `(tactic| (k_here; (with_reducible show wpAny _ _ (exec (Stmt.While _ _ _ _) _) _ _ _); refine stop ?_))
theorem c_leaps (news : CbLed) (x : Str) (tx : Tok) (far : Int) (tf : Tok) : CbClaim LP w (LK w) lp loose mean mg mb 190 news [] (x.length = 10 ∧ 1 ≤ far ∧ far ≤ 5) [.str x tx, .int far tf] (fun t => .int (leapsN x far 11 0) t) := by
  dsimp only [CbClaim, CbLists, CbRet, LK, LP]; k_fill; intros; rename_i hpre _ _ hret
  obtain ⟨hx, hf1, hf5⟩ := hpre
  refine wpAny_call ?_; k_dflt cell_enter
  k_steps
  unfold Stop
  (k_with "state" => first
    | exact ⟨by omega, by omega, ⟨11, by omega, by omega⟩⟩
    | (rename (Exists _) => hE; exact ⟨by omega, by omega, leaps_hit hE (by assumption) hf1 hx (by assumption) (by assumption)⟩)
    | (rename (Exists _) => hE; exact ⟨by omega, by omega, leaps_miss hE (by assumption) hf1 hx (by assumption) (by assumption)⟩))
  k_while (fun _ l p => 0 ≤ p ∧ p ≤ 10 ∧ ∃ n : Nat, 11 ≤ (n : Int) + p ∧ l + leapsN x far n p = leapsN x far 11 0) (fun _ _ p => (11 - p).toNat) "leaps" "place"
  k_steps
  rename (Exists _) => hE
  exact cb_retI hret (leaps_end hE (by first | assumption | omega)) (by assumption) (by assumption)
end
end
end Mine
end
section
open PySem PySem.W PyProof.Rows PySem.Builtin PySem.Builtin.Str
namespace Mine
noncomputable section
noncomputable def lackL : List Int := [0, 1, 3, 6, 4, 9, 7, 12, 15, 10]
noncomputable def xv (ns : List Int) (i : Int) : Int := if i < ns.length then Int.fmod (ns.getD i.toNat 0) 1000000 else lackL.getD i.toNat 0
noncomputable def meantOf (x : Int) : Int := [16,35,38].getD (Int.fmod x 3).toNat 0
theorem getD_lo {L : List Int} (h : L.all (fun i => decide (0 ≤ i)) = true) (n : Nat) : 0 ≤ L.getD n 0 := by
  rw [List.getD_eq_getElem?_getD]
  cases e : L[n]? with
  | none => exact Int.le_refl 0
  | some v => exact of_decide_eq_true (List.all_eq_true.mp h v (List.mem_of_getElem? e))
theorem getD_hi {L : List Int} {B : Int} (hB : 0 ≤ B) (h : L.all (fun i => decide (i ≤ B)) = true) (n : Nat) : L.getD n 0 ≤ B := by
  rw [List.getD_eq_getElem?_getD]
  cases e : L[n]? with
  | none => exact hB
  | some v => exact of_decide_eq_true (List.all_eq_true.mp h v (List.mem_of_getElem? e))
noncomputable def unseenL : List Int := [847, 6156, 6157, 8204, 8288, 65024, 65030]
noncomputable def gapsL : List Int := [65529, 12272, 917505, 65533, 12283, 917536, 65531, 917631]
noncomputable def signsStep (a : Str) (x : Int) : Str :=
  if 0 < x.fmod 3 then a ++ Str.ofString "*" ++ ({ cps := #[(unseenL.getD ((x.fdiv 3).fmod 7).toNat 0).toNat] } ++ Txt.item (Str.ofString " *=") (x.fmod 3)) ++ { cps := #[(gapsL.getD ((x.fdiv 3).fmod 8).toNat 0).toNat] }
  else a ++ Str.ofString "*" ++ { cps := #[(gapsL.getD ((x.fdiv 3).fmod 8).toNat 0).toNat] }
noncomputable abbrev TextRet (h₀ : Heap) (L : Addr) (m : Str → Option Value) (news : List (Addr × Obj)) (s : Shared) (Q : Value → Shared → Prop) (sg : Str) (mt : List Int) : Prop :=
  ∀ (D l' : Addr) (t : Tok) (vs' : List Value) (n : Nat) (h' : Heap) (tk' : Nat), IntsAre vs' mt → AllLt l' news → AllLt D ((l', W.listOf vs'.toArray n) :: news) → Fr h₀ L h' m →
    News h₀ L h' ((D, ({ cls := .type "tuple", data := .seq #[.str sg t, .ref l'] } : Obj)) :: (l', W.listOf vs'.toArray n) :: news) → Q (.ref D) { s with heap := h', toks := tk' }
theorem text_ret {h₀ h' : Heap} {L D l' : Addr} {m : Str → Option Value} {news : List (Addr × Obj)} {s : Shared} {Q : Value → Shared → Prop} {sg : Str} {mt : List Int} {t : Tok} {vs' : List Value} {n tk' : Nat} {r1 r2 r3 : Addr × Obj}
    (hret : TextRet h₀ L m news s Q sg mt) (N : News h₀ L h' ((D, ({ cls := .type "tuple", data := .seq #[.str sg t, .ref l'] } : Obj)) :: (l', W.listOf vs'.toArray n) :: r1 :: r2 :: r3 :: news)) (hi : IntsAre vs' mt) (F : Fr h₀ L h' m)
    (a1 : AllLt l' (r1 :: r2 :: r3 :: news)) (a2 : AllLt D ((l', W.listOf vs'.toArray n) :: r1 :: r2 :: r3 :: news)) : Q (.ref D) { s with heap := h', toks := tk' } :=
  hret D l' t vs' n h' tk' hi a1.2.2.2 ⟨a2.1, a2.2.2.2.2⟩ F (cb_drop N fun p hp => by
    rcases List.mem_cons.mp hp with rfl | hp
    · exact .head _
    · rcases List.mem_cons.mp hp with rfl | hp
      · exact .tail _ (.head _)
      · exact .tail _ (.tail _ (.tail _ (.tail _ (.tail _ hp)))))
noncomputable def signsOf (ns pre : List Int) : Str := (pre.map (xv ns)).foldl signsStep (Str.ofString "")
theorem signsOf_snoc (ns pre : List Int) (k : Int) : signsOf ns (pre ++ [k]) = signsStep (signsOf ns pre) (xv ns k) := by
  unfold signsOf; rw [List.map_append, List.foldl_append]; rfl
theorem item_len (x : Int) (h : 0 < x.fmod 3) : (Txt.item (Str.ofString " *=") (x.fmod 3)).length = 1 := by
  have h3 : x.fmod 3 = x % 3 := Int.fmod_eq_emod_of_nonneg x (by omega)
  rw [h3] at h ⊢
  have : x % 3 = 1 ∨ x % 3 = 2 := by omega
  rcases this with e | e <;> rw [e] <;> decide +kernel
theorem xv_in {ns : List Int} {k : Int} (h0 : 0 ≤ k) (h : k < ns.length) : (ns.getD k.toNat 0).fmod (10 ^ Int.toNat 6) = xv ns k := by
  unfold xv; rw [if_pos h]; rfl
theorem xv_out {ns : List Int} {k : Int} (h : ¬ k < ns.length) : [0, 1, 3, 6, 4, 9, 7, 12, 15, 10].getD k.toNat 0 = xv ns k := by
  unfold xv; rw [if_neg h]; rfl
theorem text_hit {ns pre : List Int} {k x : Int} {sg : Str} {mt : List Int} (hP : sg = signsOf ns pre ∧ mt = pre.map (fun i => meantOf (xv ns i)) ∧ sg.length ≤ 4 * pre.length ∧ mt.length = pre.length ∧ pre.length ≤ 10) (hk : pre.length < 10) (hx : x = xv ns k) (h : 0 < x.fmod 3) :
    sg ++ Str.ofString "*" ++ ({ cps := #[(unseenL.getD ((x.fdiv 3).fmod 7).toNat 0).toNat] } ++ Txt.item (Str.ofString " *=") (x.fmod 3)) ++ { cps := #[(gapsL.getD ((x.fdiv 3).fmod 8).toNat 0).toNat] } = signsOf ns (pre ++ [k]) ∧
    mt ++ [[16, 35, 38].getD (x.fmod 3).toNat 0] = (pre ++ [k]).map (fun i => meantOf (xv ns i)) ∧
    (sg ++ Str.ofString "*" ++ ({ cps := #[(unseenL.getD ((x.fdiv 3).fmod 7).toNat 0).toNat] } ++ Txt.item (Str.ofString " *=") (x.fmod 3)) ++ { cps := #[(gapsL.getD ((x.fdiv 3).fmod 8).toNat 0).toNat] }).length ≤ 4 * (pre ++ [k]).length ∧
    (mt ++ [[16, 35, 38].getD (x.fmod 3).toNat 0]).length = (pre ++ [k]).length ∧ (pre ++ [k]).length ≤ 10 := by
  obtain ⟨rfl, rfl, h3, h4, h5⟩ := hP
  subst hx
  refine ⟨?_, ?_, ?_, ?_, ?_⟩
  · rw [signsOf_snoc, signsStep, if_pos h]
  · rw [List.map_append]; rfl
  · have hi := item_len _ h
    simp only [Str.length_append, List.length_append, List.length_cons, List.length_nil, hi]
    show (_ : Nat) + 1 + (1 + 1) + 1 ≤ _
    omega
  · simp
  · simp; omega
theorem text_miss {ns pre : List Int} {k x : Int} {sg : Str} {mt : List Int} (hP : sg = signsOf ns pre ∧ mt = pre.map (fun i => meantOf (xv ns i)) ∧ sg.length ≤ 4 * pre.length ∧ mt.length = pre.length ∧ pre.length ≤ 10) (hk : pre.length < 10) (hx : x = xv ns k) (h : ¬ 0 < x.fmod 3) :
    sg ++ Str.ofString "*" ++ { cps := #[(gapsL.getD ((x.fdiv 3).fmod 8).toNat 0).toNat] } = signsOf ns (pre ++ [k]) ∧
    mt ++ [[16, 35, 38].getD (x.fmod 3).toNat 0] = (pre ++ [k]).map (fun i => meantOf (xv ns i)) ∧
    (sg ++ Str.ofString "*" ++ { cps := #[(gapsL.getD ((x.fdiv 3).fmod 8).toNat 0).toNat] }).length ≤ 4 * (pre ++ [k]).length ∧
    (mt ++ [[16, 35, 38].getD (x.fmod 3).toNat 0]).length = (pre ++ [k]).length ∧ (pre ++ [k]).length ≤ 10 := by
  obtain ⟨rfl, rfl, h3, h4, h5⟩ := hP
  subst hx
  refine ⟨?_, ?_, ?_, ?_, ?_⟩
  · rw [signsOf_snoc, signsStep, if_neg h]
  · rw [List.map_append]; rfl
  · simp only [Str.length_append, List.length_append, List.length_cons, List.length_nil]
    show (_ : Nat) + 1 + 1 ≤ _
    omega
  · simp
  · simp; omega
section
variable {lp : Program} {w : World} {loose : List Str} {mean : ExcName → Option Value} {mg mb : Str → Option Value}
local macro_rules | `(tactic| walk_at "pyIter ref") => `(tactic| (k_here; refine stop ?_))
local macro_rules | `(tactic| walk_at "storeName") => `(tactic| (k_here; (with_reducible show wpAny _ _ (storeName _ (Str.ofString "x") _) _ _ _); (fail_if_success (have hm : MarkX := by assumption)); refine stop ?_))
local macro_rules | `(tactic| walk_at "callWith") => `(tactic| ((with_reducible show wpAny _ _ (callWith _ (Value.builtin _) [_] _ _) _ _ _); (refine callWith_method1 ?_)))
local macro_rules | `(tactic| walk_at $k:str) => if ["eval BinOp", "eval Name", "eval Constant int", "eval Constant str", "eval Subscript", "storeName", "subscriptTail"].contains k.getString then `(tactic| (k_here; first | (k_gentoks; (try dsimp only)) | dsimp only)) else Lean.Macro.throwUnsupported
local macro_rules | `(tactic| kst_allIn) => `(tactic| (with_reducible (intro p9 h9; (repeat (first | exact h9 | exact List.mem_append.mpr (.inl h9) | refine List.Mem.tail _ ?_ | refine List.mem_append.mpr (.inr ?_))); done)))
local macro_rules | `(tactic| walk_at "call builtin:chr") => `(tactic| (k_here; (with_reducible show wpAny _ _ (call (Value.builtin "chr") [Value.int _ _]) _ _ _); (refine chr_of_range ?cl ?ch ?_; (case cl => exact getD_lo (by decide) _); (case ch => exact getD_hi (by decide) (by decide) _))))
theorem c_text (news : CbLed) (l : Addr) (vs : List Value) (ns : List Int) (hi : IntsAre vs ns) (hn : ns.length ≤ 63) : CallClaim LP w (LK w) lp loose mean mg mb 178 news [.ref l] (fun base _ _ => base.IsList l vs.toArray)
    (fun h₀ L m s Q => TextRet h₀ L m news s Q (signsOf ns (rangeKs 0 10)) ((rangeKs 0 10).map (fun i => meantOf (xv ns i)))) := by
  dsimp only [CallClaim, TextRet, LK, LP]; k_fill; intros; rename_i hl _ _ hret
  refine wpAny_call ?_; k_dflt cell_enter
  have hn62 : ns.length < 2 ^ 62 := by omega
  k_steps
  unfold Stop
  (k_with "state" => (first
    | exact ⟨rfl, rfl, by decide, rfl, by decide⟩
    | (rename xv _ _ = _ => hx; first
        | (have h0 : 0 < Int.fmod _ 3 := (by assumption); exact text_hit ⟨by assumption, by assumption, by assumption, by assumption, by assumption⟩ (by assumption) hx.symm h0)
        | (have h0 : ¬ 0 < Int.fmod _ 3 := (by assumption); exact text_miss ⟨by assumption, by assumption, by assumption, by assumption, by assumption⟩ (by assumption) hx.symm h0))))
  k_state (fun pre sg mt => sg = signsOf ns pre ∧ mt = pre.map (fun i => meantOf (xv ns i)) ∧ sg.length ≤ 4 * pre.length ∧ mt.length = pre.length ∧ pre.length ≤ 10) "signs" "meant"
  k_steps
  rotate_left 2
  · subst_vars
    exact text_ret hret (by assumption) (by assumption) (by assumption) (by first | assumption | ((simp only [AllLt, and_true]); assumption)) (by first | assumption | ((simp only [AllLt, and_true]); assumption))
  · unfold Stop
    rw [xv_in (by omega) (by assumption)]
    generalize hx : xv ns kN = x
    have hm : MarkX := ⟨⟩
    k_steps
  · unfold Stop
    rw [xv_out (by assumption)]
    generalize hx : xv ns kN = x
    have hm : MarkX := ⟨⟩
    k_steps
end
end
end Mine
end
section
local macro_rules | `(tactic| omega) => `(tactic| grind)
section
open PySem PySem.W PyProof.Rows
namespace Mine
theorem xor_halves (x y : Int) : Builtin.bitXor x y = 2 * Builtin.bitXor (x / 2) (y / 2) + (if x % 2 = y % 2 then 0 else 1) := by
  rw [bitXor_and, bitXor_and, kbt_halves]
  have hx : x % 2 = 0 ∨ x % 2 = 1 := by omega
  have hy : y % 2 = 0 ∨ y % 2 = 1 := by omega
  rcases hx with hx | hx <;> rcases hy with hy | hy <;> simp only [hx, hy] <;> simp <;> omega
theorem xor_low : ∀ (s : Nat) (x : Int), Builtin.bitXor x (x / 2 ^ s * 2 ^ s) = x % 2 ^ s
  | 0, x => by simp [bitXor_self]
  | s + 1, x => by
    have ih := xor_low s (x / 2)
    have e1 : x / 2 ^ (s + 1) = x / 2 / 2 ^ s := by rw [Int.pow_succ, Int.mul_comm, Int.ediv_ediv_of_nonneg (by decide)]
    have e2 : x / 2 ^ (s + 1) * 2 ^ (s + 1) = 2 * (x / 2 / 2 ^ s * 2 ^ s) := by rw [e1, Int.pow_succ, ← Int.mul_assoc, Int.mul_comm _ 2]
    have e3 : x % 2 ^ (s + 1) = x - x / 2 ^ (s + 1) * 2 ^ (s + 1) := by rw [Int.emod_def, Int.mul_comm]
    have e4 : x / 2 % 2 ^ s = x / 2 - x / 2 / 2 ^ s * 2 ^ s := by rw [Int.emod_def, Int.mul_comm]
    rw [xor_halves, e3, e2]
    generalize x / 2 / 2 ^ s * 2 ^ s = z at *
    rw [show 2 * z / 2 = z from by omega, ih, e4, show 2 * z % 2 = 0 from by omega]
    split <;> omega
theorem xor_step {M N : Int} (hN : 2 * M = N)
    (ih : ∀ x y : Int, Builtin.bitXor x y / M = Builtin.bitXor (x / M) (y / M) ∧ Builtin.bitXor x y % M = Builtin.bitXor (x % M) (y % M)) (x y : Int) :
    Builtin.bitXor x y / N = Builtin.bitXor (x / N) (y / N) ∧ Builtin.bitXor x y % N = Builtin.bitXor (x % N) (y % N) := by
  subst hN
  have h1 : ∀ x : Int, x / (2 * M) = x / 2 / M := fun x => (Int.ediv_ediv_of_nonneg (by decide)).symm
  have h4 : ∀ x : Int, x % (2 * M) = 2 * (x / 2 % M) + x % 2 := by
    intro x
    rw [Int.emod_def x (2 * M), h1, Int.emod_def (x / 2) M, Int.mul_assoc]
    generalize M * (x / 2 / M) = z
    omega
  have h2 : ∀ x : Int, x % (2 * M) / 2 = x / 2 % M := by intro x; rw [h4]; generalize x / 2 % M = z; omega
  have h3 : ∀ x : Int, x % (2 * M) % 2 = x % 2 := by intro x; rw [h4]; generalize x / 2 % M = z; omega
  have e := xor_halves x y
  have d : Builtin.bitXor x y / 2 = Builtin.bitXor (x / 2) (y / 2) := by rw [e]; split <;> omega
  have r : Builtin.bitXor x y % 2 = if x % 2 = y % 2 then 0 else 1 := by rw [e]; split <;> omega
  constructor
  · rw [h1, d, (ih _ _).1, ← h1, ← h1]
  · rw [h4 (Builtin.bitXor x y), d, r, (ih _ _).2, xor_halves (x % (2 * M)) (y % (2 * M)), h2, h2, h3, h3]
theorem xor_64 (x y : Int) : Builtin.bitXor x y / 64 = Builtin.bitXor (x / 64) (y / 64) ∧ Builtin.bitXor x y % 64 = Builtin.bitXor (x % 64) (y % 64) := by
  have a0 : ∀ x y : Int, Builtin.bitXor x y / 1 = Builtin.bitXor (x / 1) (y / 1) ∧ Builtin.bitXor x y % 1 = Builtin.bitXor (x % 1) (y % 1) := fun x y => ⟨by simp only [Int.ediv_one], by simp only [Int.emod_one, bitXor_self]⟩
  exact xor_step (M := 32) (by decide) (xor_step (M := 16) (by decide) (xor_step (M := 8) (by decide) (xor_step (M := 4) (by decide) (xor_step (M := 2) (by decide) (xor_step (by decide) a0))))) x y
noncomputable def setAll (ds : List Int) (x : Int) (lo m : Nat) : List Int := (List.range ds.length).map fun i => if lo ≤ i ∧ i < lo + m then x / 64 ^ (i - lo) % 64 else ds.getD i 0
theorem setAll_length (ds : List Int) (x : Int) (lo m : Nat) : (setAll ds x lo m).length = ds.length := by simp [setAll]
theorem setAll_getD (ds : List Int) (x : Int) (lo m i : Nat) (h : i < ds.length) : (setAll ds x lo m).getD i 0 = if lo ≤ i ∧ i < lo + m then x / 64 ^ (i - lo) % 64 else ds.getD i 0 := by
  unfold setAll
  rw [List.getD_eq_getElem?_getD, List.getElem?_map, List.getElem?_range h]
  rfl
theorem ext_getD {a b : List Int} (hl : a.length = b.length) (h : ∀ i, i < a.length → a.getD i 0 = b.getD i 0) : a = b := by
  refine List.ext_getElem hl fun i h1 h2 => ?_
  have := h i h1
  rw [List.getD_eq_getElem?_getD, List.getD_eq_getElem?_getD, List.getElem?_eq_getElem h1, List.getElem?_eq_getElem h2] at this
  exact this
theorem setAll_one {ds : List Int} {x : Int} {lo : Nat} (h : lo < ds.length) (h0 : 0 ≤ x) (h1 : x < 64) : ds.set lo x = setAll ds x lo 1 := by
  refine ext_getD (by rw [setAll_length, List.length_set]) fun i hi => ?_
  rw [List.length_set] at hi
  rw [setAll_getD _ _ _ _ _ hi, List.getD_eq_getElem?_getD, List.getElem?_set]
  by_cases e : lo = i
  · subst e
    rw [if_pos rfl, if_pos h, if_pos ⟨Nat.le_refl _, Nat.lt_succ_self _⟩, Nat.sub_self]
    simp only [Option.getD_some, Int.pow_zero, Int.ediv_one]
    omega
  · rw [if_neg e, if_neg (by omega), List.getD_eq_getElem?_getD]
theorem pow64 (a : Nat) : (0 : Int) < 64 ^ a := Int.pow_pos (by decide)
theorem setAll_two {ds : List Int} {x : Int} {lo a b : Nat} : setAll (setAll ds (x % 64 ^ a) lo a) (x / 64 ^ a) (lo + a) b = setAll ds x lo (a + b) := by
  refine ext_getD (by simp only [setAll_length]) fun i hi => ?_
  simp only [setAll_length] at hi
  rw [setAll_getD _ _ _ _ _ (by rw [setAll_length]; exact hi), setAll_getD _ _ _ _ _ hi, setAll_getD _ _ _ _ _ hi]
  by_cases c1 : lo + a ≤ i ∧ i < lo + a + b
  · rw [if_pos c1, if_pos (by omega), Int.ediv_ediv_of_nonneg (Int.le_of_lt (pow64 a)), ← Int.pow_add, show a + (i - (lo + a)) = i - lo from by omega]
  · rw [if_neg c1]
    by_cases c2 : lo ≤ i ∧ i < lo + a
    · rw [if_pos c2, if_pos (by omega)]
      have e : a = (i - lo) + 1 + (a - 1 - (i - lo)) := by omega
      have k : (64 : Int) ^ a = 64 ^ (i - lo) * (64 * 64 ^ (a - 1 - (i - lo))) := by
        conv => lhs; rw [e, Int.pow_add, Int.pow_succ, Int.mul_assoc]
      rw [k, Int.emod_def x, Int.mul_assoc]
      generalize x / (64 ^ (i - lo) * (64 * 64 ^ (a - 1 - (i - lo)))) = z
      rw [show x - 64 ^ (i - lo) * (64 * 64 ^ (a - 1 - (i - lo)) * z) = x + 64 ^ (i - lo) * (64 * (-(64 ^ (a - 1 - (i - lo)) * z))) from by simp only [Int.mul_neg, Int.mul_assoc]; omega, Int.add_mul_ediv_left _ _ (Int.ne_of_gt (pow64 _)), Int.add_mul_emod_self_left]
    · rw [if_neg c2, if_neg (by omega)]
theorem low_eq {x : Int} {d : Int} {a : Nat} (h : d = a) : Builtin.bitXor x (x.fdiv (2 ^ (d * 6).toNat) * 2 ^ (d * 6).toNat) = x % 64 ^ a := by
  have e : (d * 6).toNat = 6 * a := by omega
  rw [e, Int.fdiv_eq_ediv_of_nonneg _ (Int.le_of_lt (Int.pow_pos (by decide))), xor_low, Int.pow_mul]
  rfl
theorem up_eq {x : Int} {d : Int} {a : Nat} (h : d = a) : x.fdiv (2 ^ (d * 6).toNat) = x / 64 ^ a := by
  have e : (d * 6).toNat = 6 * a := by omega
  rw [e, Int.fdiv_eq_ediv_of_nonneg _ (Int.le_of_lt (Int.pow_pos (by decide))), Int.pow_mul]
  rfl
theorem up_lt {x : Int} {a b : Nat} (h : x < 64 ^ (a + b)) : x / 64 ^ a < 64 ^ b := Int.ediv_lt_of_lt_mul (pow64 a) (by rw [← Int.pow_add, Nat.add_comm]; exact h)
end Mine
end
end
section
open PySem PySem.Spec PySem.Calls PyProof.Rows PyProof.Rows.LCg PyProof.Rows.LCt
namespace Mine
section
variable {prog : Program} {w : World} {A : Around} {E : Value → Shared → Prop} {s : Shared} {h₀ : Heap} {L : Addr} {m : Str → Option Value} {env : Env}
/-- what a value gives to a loop: an iterator that hands out n things of which P tells -/
noncomputable def Opens (prog : Program) (w : World) (A : Around) (h₀ : Heap) (L : Addr) (S : List (Addr × Obj) → Prop) (P : Nat → Value → Prop) (n : Nat) (xv : Value) (s₁ : Shared) : Prop :=
  ∀ (Q' : Value → Shared → Prop) (E' : Value → Shared → Prop), (∀ (o : Obj) (fp : List Addr) (St : Nat → Heap → Prop), Walks prog w A s₁.heap.objs.size fp [s₁.heap.objs.size] n P St →
    (∀ i h, St i h → ∃ o, h.get? s₁.heap.objs.size = some o) →
    (∀ i h h' o nw, St i h → h.get? s₁.heap.objs.size = some o → h'.get? s₁.heap.objs.size = some o → (∀ b o, h₀.get? b = some o → h'.get? b = some o) → News h₀ L h' nw → S nw → St i h') →
    St 0 (s₁.heap.push o) → (∀ b ∈ fp, b < (s₁.heap.push o).objs.size) → Q' (.ref s₁.heap.objs.size) { s₁ with heap := s₁.heap.push o }) → wpAny (model prog w) A (pyIter xv) Q' E' s₁
theorem opens_str {x : Str} {t : Tok} {s₁ : Shared} (hh : A.handled = none) : Opens prog w A h₀ L (fun _ => True) (SignAt x) x.cps.size (.str x t) s₁ := by
  intro Q' E' h
  have fit : ∀ T, Walks prog w A s₁.heap.objs.size [s₁.heap.objs.size] [s₁.heap.objs.size] x.cps.size (SignAt x) (fun i h => h.IsStrIter s₁.heap.objs.size T x t i) → Q' (.ref s₁.heap.objs.size) { s₁ with heap := s₁.heap.push { cls := .type T, data := .fields #[.str x t, .int 0 0] } } := fun T W =>
    h _ _ _ W (fun i h st => let ⟨o, e, _⟩ := st; ⟨o, e⟩) (fun i h h' o nw st e e' _ _ _ => by obtain ⟨o', q, r⟩ := st; rw [e] at q; cases q; exact ⟨o, e', r⟩) ⟨_, Heap.get?_push_size _ rfl, rfl, rfl⟩
      (fun b hb => by rw [List.mem_singleton.mp hb, Heap.size_push]; exact Nat.lt_succ_self _)
  cases ha : x.cps.all (· < 128)
  · exact wpAny_pyIter_wide ha (fit _ (Walks.strWide hh _ x t))
  · exact wpAny_pyIter_ascii ha (fit _ (Walks.strAscii hh _ x t))
noncomputable def TupAt (ax : Addr) (its : Array Value) (news : List (Addr × Obj)) : Prop := ∃ o, (ax, o) ∈ news ∧ o.cls = .type "tuple" ∧ ∃ n, o.data = .seq its n
theorem opens_tuple {ax : Addr} {its : Array Value} {news : List (Addr × Obj)} {s₁ : Shared} (hh : A.handled = none) (N : News h₀ L s₁.heap news) (ht : TupAt ax its news) : Opens prog w A h₀ L (TupAt ax its) (fun i v => its[i]? = some v) its.size (.ref ax) s₁ := by
  intro Q' E' h
  obtain ⟨o, hm, hc, n, hd⟩ := ht
  have hT : s₁.heap.IsTuple ax its := ⟨o, (N _ hm).1, hc, n, hd⟩
  have hlt : ax < s₁.heap.objs.size := Heap.lt_size (N _ hm).1
  refine wpAny_pyIter_tuple hT (h _ _ _ (Walks.tuple hh _ ax (Nat.ne_of_lt hlt) its) (fun i h st => let ⟨o, e, _⟩ := st.1; ⟨o, e⟩) (fun i h h' o nw st e e' _ N' S => ⟨by obtain ⟨o', q, r⟩ := st.1; rw [e] at q; cases q; exact ⟨o, e', r⟩, ?_⟩) ⟨⟨_, Heap.get?_push_size _ rfl, rfl, rfl⟩, ⟨o, Heap.get?_push_of_some _ (N _ hm).1, hc, n, hd⟩⟩ (fun b hb => ?_))
  · obtain ⟨o2, hm2, hc2, n2, hd2⟩ := S
    exact ⟨o2, (N' _ hm2).1, hc2, n2, hd2⟩
  · rw [Heap.size_push]
    rcases List.mem_cons.mp hb with rfl | hb
    · exact Nat.lt_succ_self _
    · rw [List.mem_singleton.mp hb]; exact Nat.lt_succ_of_lt hlt
/-- the source of a block with one test -/
noncomputable def SrcG (prog : Program) (w : World) (A : Around) (h₀ : Heap) (L : Addr) (m : Str → Option Value) (env : Env) (ct elt : Expr) (x : Str) (scope : Scope) (cl : List (Str × Addr)) (Fin : Shared → List Value → List (Addr × Obj) → Prop) (xv : Value) (s₁ : Shared) : Prop :=
  ∃ (S : List (Addr × Obj) → Prop) (P : Nat → Value → Prop) (n : Nat) (news : List (Addr × Obj)), Opens prog w A h₀ L S P n xv s₁ ∧ Fr h₀ L s₁.heap m ∧ News h₀ L s₁.heap news ∧ n ≤ sizeLine ∧ S news ∧
    ∀ s₂ : Shared, (∃ h, s₂ = { s₁ with heap := h }) → CompRestT prog w A h₀ L m env ct elt x scope cl s₂ S P (Fin s₂) n 0 [] news
theorem ListComp_G {ct elt iter : Expr} {x : Str} {px : Pos} {scope : Scope} {cl : List (Str × Addr)} {pos : Pos} {Q : Value → Shared → Prop} (_F₀ : Fr h₀ L s.heap m)
    (hclos : closureFor scope env = pure cl) (hcell : ∀ y ∈ scope.names, y.2 ≠ .cell) (hkind : scope.kind = .function)
    (hnames : ∀ y ∈ scope.names, y.2 = .local → scope.names.lookup y.1 = some .local) (hx : scope.names.lookup x = some .local)
    (h : wpAny (model prog w) A (eval iter env) (SrcG prog w A h₀ L m env ct elt x scope cl (fun s₂ => FinE h₀ L m s₂ Q)) E s)
    (hs : ∀ x, foldedSetIterable iter env x = pure x := by intro _; rfl) :
    wpAny (model prog w) A (eval (.ListComp elt [⟨.Name x px, iter, [ct], 0⟩] scope pos) env) Q E s := by
  rw [eval_ListComp]
  refine wpAny_comprehension_free (use := none) rfl hs hclos hkind hnames (wpAny_mono h (fun xv s₁ h₁ => ?_) fun _ _ e => e)
  obtain ⟨S, P, n, news, op, F, N, hsz, hS, R⟩ := h₁
  refine op _ _ fun o fp St W hIo hSt hst hfp => ?_
  refine block_T W hsz hIo hSt hcell hkind hx hst hfp (F.keeps fun _ _ e => Heap.get?_push_of_some _ e) (N.grown fun _ _ e => Heap.get?_push_of_some _ e) (Nat.ne_of_lt F.ns.lt) (next_is_new F) (fun p hp => Nat.ne_of_lt (Heap.lt_size (N p hp).1)) hS (R _ ⟨_, rfl⟩) ?_
  intro D C h tk m' ys news' F' N' o1 hn hC₀ hD₀ hCL hDL hCD offC fin
  refine ⟨m', hn, fun h'' hs'' => fin D h'' tk (F'.change hs'' hCL hC₀) (fun p hp => ?_) o1⟩
  refine ⟨hs''.extBut _ _ ?_ (N' p hp).1, (N' p hp).2⟩
  rcases List.mem_cons.mp hp with rfl | hp
  · exact Ne.symm hCD
  · exact offC p hp
theorem Assign_ListComp_G {ct elt iter : Expr} {x y : Str} {px py : Pos} {scope : Scope} {cl : List (Str × Addr)} {pos spos : Pos} {Q : Flow → Shared → Prop} (_F₀ : Fr h₀ L s.heap m) (hLe : env.locals = L)
    (hsw : swapsWith (.ListComp elt [⟨.Name x px, iter, [ct], 0⟩] scope pos) (some (.Name y py)) spos.line env = pure true)
    (hclos : closureFor scope env = pure cl) (hcell : ∀ z ∈ scope.names, z.2 ≠ .cell) (hkind : scope.kind = .function)
    (hnames : ∀ z ∈ scope.names, z.2 = .local → scope.names.lookup z.1 = some .local) (hx : scope.names.lookup x = some .local)
    (hy : env.kindOf y = some .local) (hp : (env.scope.kind == .class || (env.scope.kind == .module && env.locals != env.globals)) = false)
    (h : wpAny (model prog w) A (eval iter env) (SrcG prog w A h₀ L m env ct elt x scope cl (fun s₂ => FinA h₀ L m s₂ y Q)) E s)
    (hs : ∀ x, foldedSetIterable iter env x = pure x := by intro _; rfl) :
    wpAny (model prog w) A (exec (.Assign [.Name y py] (.ListComp elt [⟨.Name x px, iter, [ct], 0⟩] scope pos) spos) env) Q E s := by
  subst hLe
  rw [exec_Assign_Name_used _ _ _ _ hsw]
  refine wpAny_bind (wpAny_standAt (wpAny_bind ?_))
  show wpAny _ A (do let _ ← comprehension (.ListComp elt [⟨.Name x px, iter, [ct], 0⟩] scope pos) scope env _ (newList []) false (eval iter env) (some (assign (.Name y py) env))) _ _ s
  refine wpAny_bind (wpAny_mono (wpAny_comprehension_free (use := some (assign (.Name y py) env)) (Q := fun _ s' => Q .next s') rfl hs hclos hkind hnames
    (wpAny_mono h (fun xv s₁ h₁ => ?_) fun _ _ e => e)) (fun _ s' hq => wpAny_pure (wpAny_pure hq)) fun _ _ e => e)
  obtain ⟨S, P, n, news, op, F, N, hsz, hS, R⟩ := h₁
  refine op _ _ fun o fp St W hIo hSt hst hfp => ?_
  refine block_T W hsz hIo hSt hcell hkind hx hst hfp (F.keeps fun _ _ e => Heap.get?_push_of_some _ e) (N.grown fun _ _ e => Heap.get?_push_of_some _ e) (Nat.ne_of_lt F.ns.lt) (next_is_new F) (fun p hp => Nat.ne_of_lt (Heap.lt_size (N p hp).1)) hS (R _ ⟨_, rfl⟩) ?_
  intro D C h' tk m' ys news' F' N' o1 hn hC₀ hD₀ hCL hDL hCD offC fin
  show wpAny _ A (assign (.Name y py) env (.ref D)) _ _ _
  refine wpAny_assign_Name (wpAny_storeName_local hy F'.ns (fun h₂ hn₂ hs₂ => ?_) hp)
  have hL₀ : h₀.get? env.locals = none := Heap.get?_none_of_le F'.above
  have F₂ : Fr h₀ env.locals h₂ (fun z => if z = y then some (.ref D) else m z) := ⟨hn₂, fun b o e => hs₂.extBut b o (fun q => by rw [q, hL₀] at e; cases e) (F'.keep b o e), F'.above⟩
  refine ⟨m', hn.sameBut hs₂ hCL, fun h'' hs'' => fin D h'' _ (F₂.change hs'' hCL hC₀) (fun p hp => ?_) o1⟩
  have z : h₂.get? p.1 = some p.2 := hs₂.extBut _ _ (N' p hp).2.1 (N' p hp).1
  refine ⟨hs''.extBut _ _ ?_ z, (N' p hp).2⟩
  rcases List.mem_cons.mp hp with rfl | hp
  · exact Ne.symm hCD
  · exact offC p hp
theorem compEnd_mono {m : Str → Option Value} {s₁ : Shared} {I C D : Addr} {oI oC oD : Obj} {S : List (Addr × Obj) → Prop} {r r' : Value → List (Addr × Obj) → Prop} {y : Value} {s₂ : Shared} (h : CompEnd h₀ L m s₁ I oI C oC D oD S r y s₂) (k : ∀ news, r y news → r' y news) : CompEnd h₀ L m s₁ I oI C oC D oD S r' y s₂ :=
  let ⟨h', tk, news', e, F, N, o, hS, q⟩ := h; ⟨h', tk, news', e, F, N, o, hS, k _ q⟩
/-- the turns of a block by an invariant: with a test -/
theorem restT_inv {ct elt : Expr} {x : Str} {scope : Scope} {cl : List (Str × Addr)} {S : List (Addr × Obj) → Prop} {P : Nat → Value → Prop} {Fin : List Value → List (Addr × Obj) → Prop} {n : Nat} (Inv : Nat → List Value → List (Addr × Obj) → Prop)
    (turn : ∀ (i : Nat) (ys : List Value) (news : List (Addr × Obj)), i < n → Inv i ys news → ∀ v I oI C oC D m₂ h tk (E' : Value → Shared → Prop), P i v → NsObj oC m₂ → m₂ x = some v → Fr h₀ L h m → News h₀ L h ((I, oI) :: (C, oC) :: (D, lst ys) :: news) → Off3 I C D news → ((@Ne Nat I C) ∧ (@Ne Nat I D) ∧ (@Ne Nat C D)) →
      wpAny (model prog w) A (isTrue ct (compEnvC scope cl C env) (eval ct (compEnvC scope cl C env))) (fun ok s' => if ok = true then
        wpAny (model prog w) A (eval elt (compEnvC scope cl C env)) (CompEnd h₀ L m { s with heap := h, toks := tk } I oI C oC D (lst ys) S (fun y news' => Inv (i + 1) (ys ++ [y]) news')) E' s'
        else CompEnd h₀ L m { s with heap := h, toks := tk } I oI C oC D (lst ys) S (fun _ news' => Inv (i + 1) ys news') Value.none s') E' { s with heap := h, toks := tk })
    (fin : ∀ ys news, Inv n ys news → Fin ys news) : ∀ (k i : Nat) (ys : List Value) (news : List (Addr × Obj)), i + k = n → Inv i ys news → CompRestT prog w A h₀ L m env ct elt x scope cl s S P Fin k i ys news
  | 0, i, ys, news, e, hi => CompRestT.zero (fin ys news (by rw [Nat.add_zero] at e; exact e ▸ hi))
  | k + 1, i, ys, news, e, hi => CompRestT.succ fun v I oI C oC D m₂ h tk E' hv hC hx F N off ne =>
    wpAny_mono (turn i ys news (by omega) hi v I oI C oC D m₂ h tk E' hv hC hx F N off ne) (fun ok s' q => by
      cases ok with
      | true =>
        simp only [if_true] at q ⊢
        exact wpAny_mono q (fun y s'' q' => compEnd_mono q' fun nw q'' => restT_inv Inv turn fin k (i + 1) _ nw (by omega) q'') fun _ _ e => e
      | false =>
        simp only [Bool.false_eq_true, if_false] at q ⊢
        exact compEnd_mono q fun nw q'' => restT_inv Inv turn fin k (i + 1) _ nw (by omega) q'') fun _ _ e => e
/-- the turns of a block by an invariant: no test -/
theorem rest_inv {elt : Expr} {x : Str} {scope : Scope} {cl : List (Str × Addr)} {S : List (Addr × Obj) → Prop} {P : Nat → Value → Prop} {Fin : List Value → List (Addr × Obj) → Prop} {n : Nat} (Inv : Nat → List Value → List (Addr × Obj) → Prop)
    (turn : ∀ (i : Nat) (ys : List Value) (news : List (Addr × Obj)), i < n → Inv i ys news → ∀ v I oI C oC D m₂ h tk (E' : Value → Shared → Prop), P i v → NsObj oC m₂ → m₂ x = some v → Fr h₀ L h m → News h₀ L h ((I, oI) :: (C, oC) :: (D, lst ys) :: news) → Off3 I C D news → ((@Ne Nat I C) ∧ (@Ne Nat I D) ∧ (@Ne Nat C D)) →
      wpAny (model prog w) A (eval elt (compEnvC scope cl C env)) (CompEnd h₀ L m { s with heap := h, toks := tk } I oI C oC D (lst ys) S (fun y news' => Inv (i + 1) (ys ++ [y]) news')) E' { s with heap := h, toks := tk })
    (fin : ∀ ys news, Inv n ys news → Fin ys news) : ∀ (k i : Nat) (ys : List Value) (news : List (Addr × Obj)), i + k = n → Inv i ys news → CompRest prog w A h₀ L m env elt x scope cl s S P Fin k i ys news
  | 0, i, ys, news, e, hi => CompRest.zero (fin ys news (by rw [Nat.add_zero] at e; exact e ▸ hi))
  | k + 1, i, ys, news, e, hi => CompRest.succ fun v I oI C oC D m₂ h tk E' hv hC hx F N off ne =>
    wpAny_mono (turn i ys news (by omega) hi v I oI C oC D m₂ h tk E' hv hC hx F N off ne) (fun y s'' q' => compEnd_mono q' fun nw q'' => rest_inv Inv turn fin k (i + 1) _ nw (by omega) q'') fun _ _ e => e
theorem srcG_str {ct elt : Expr} {x : Str} {scope : Scope} {cl : List (Str × Addr)} {Fin : Shared → List Value → List (Addr × Obj) → Prop} {xs : Str} {t : Tok} {news : List (Addr × Obj)} {s₁ : Shared}
    (hh : A.handled = none) (F : Fr h₀ L s₁.heap m) (N : News h₀ L s₁.heap news) (hsz : xs.cps.size ≤ sizeLine) (Inv : Nat → List Value → Prop)
    (turn : ∀ (g : Heap) (i : Nat) (ys : List Value) (c : Nat) (u : Tok), i < xs.cps.size → Inv i ys → xs.cps[i]? = some c → ∀ I oI C oC D m₂ h tk (E' : Value → Shared → Prop), NsObj oC m₂ → m₂ x = some (.str ⟨#[c]⟩ u) → Fr h₀ L h m → News h₀ L h ((I, oI) :: (C, oC) :: (D, lst ys) :: news) → Off3 I C D news → ((@Ne Nat I C) ∧ (@Ne Nat I D) ∧ (@Ne Nat C D)) →
      wpAny (model prog w) A (isTrue ct (compEnvC scope cl C env) (eval ct (compEnvC scope cl C env))) (fun ok s' => if ok = true then
        wpAny (model prog w) A (eval elt (compEnvC scope cl C env)) (CompEnd h₀ L m { { s₁ with heap := g } with heap := h, toks := tk } I oI C oC D (lst ys) (fun _ => True) (fun y news' => news' = news ∧ Inv (i + 1) (ys ++ [y]))) E' s'
        else CompEnd h₀ L m { { s₁ with heap := g } with heap := h, toks := tk } I oI C oC D (lst ys) (fun _ => True) (fun _ news' => news' = news ∧ Inv (i + 1) ys) Value.none s') E' { { s₁ with heap := g } with heap := h, toks := tk })
    (fin : ∀ g ys, Inv xs.cps.size ys → Fin { s₁ with heap := g } ys news) (h0 : Inv 0 []) : SrcG prog w A h₀ L m env ct elt x scope cl Fin (.str xs t) s₁ := by
  refine ⟨_, _, _, news, opens_str hh, F, N, hsz, trivial, fun s₂ hs₂ => ?_⟩
  obtain ⟨g, rfl⟩ := hs₂
  refine restT_inv (fun i ys nw => nw = news ∧ Inv i ys) ?_ ?_ _ _ _ _ (Nat.zero_add _) ⟨rfl, h0⟩
  · rintro i ys nw hi ⟨rfl, hI⟩ v I oI C oC D m₂ h tk E' hv hC hx F' N' off ne
    obtain ⟨c, u, hc, rfl⟩ := hv
    exact turn g i ys c u hi hI hc I oI C oC D m₂ h tk E' hC hx F' N' off ne
  · rintro ys nw ⟨rfl, hI⟩
    exact fin g ys hI
theorem srcG_tuple {ct elt : Expr} {x : Str} {scope : Scope} {cl : List (Str × Addr)} {Fin : Shared → List Value → List (Addr × Obj) → Prop} {ax : Addr} {its : Array Value} {news : List (Addr × Obj)} {s₁ : Shared}
    (hh : A.handled = none) (F : Fr h₀ L s₁.heap m) (N : News h₀ L s₁.heap news) (ht : TupAt ax its news) (hsz : its.size ≤ sizeLine) (Inv : Nat → List Value → Prop)
    (turn : ∀ (g : Heap) (i : Nat) (ys : List Value) (v : Value), i < its.size → Inv i ys → its[i]? = some v → ∀ I oI C oC D m₂ h tk (E' : Value → Shared → Prop), NsObj oC m₂ → m₂ x = some v → Fr h₀ L h m → News h₀ L h ((I, oI) :: (C, oC) :: (D, lst ys) :: news) → Off3 I C D news → ((@Ne Nat I C) ∧ (@Ne Nat I D) ∧ (@Ne Nat C D)) →
      wpAny (model prog w) A (isTrue ct (compEnvC scope cl C env) (eval ct (compEnvC scope cl C env))) (fun ok s' => if ok = true then
        wpAny (model prog w) A (eval elt (compEnvC scope cl C env)) (CompEnd h₀ L m { { s₁ with heap := g } with heap := h, toks := tk } I oI C oC D (lst ys) (TupAt ax its) (fun y news' => news' = news ∧ Inv (i + 1) (ys ++ [y]))) E' s'
        else CompEnd h₀ L m { { s₁ with heap := g } with heap := h, toks := tk } I oI C oC D (lst ys) (TupAt ax its) (fun _ news' => news' = news ∧ Inv (i + 1) ys) Value.none s') E' { { s₁ with heap := g } with heap := h, toks := tk })
    (fin : ∀ g ys, Inv its.size ys → Fin { s₁ with heap := g } ys news) (h0 : Inv 0 []) : SrcG prog w A h₀ L m env ct elt x scope cl Fin (.ref ax) s₁ := by
  refine ⟨_, _, _, news, opens_tuple hh N ht, F, N, hsz, ht, fun s₂ hs₂ => ?_⟩
  obtain ⟨g, rfl⟩ := hs₂
  refine restT_inv (fun i ys nw => nw = news ∧ Inv i ys) ?_ ?_ _ _ _ _ (Nat.zero_add _) ⟨rfl, h0⟩
  · rintro i ys nw hi ⟨rfl, hI⟩ v I oI C oC D m₂ h tk E' hv hC hx F' N' off ne
    exact turn g i ys v hi hI hv I oI C oC D m₂ h tk E' hC hx F' N' off ne
  · rintro ys nw ⟨rfl, hI⟩
    exact fin g ys hI
end
end Mine
end
section
open PySem PySem.W PyProof.Rows PySem.Builtin PySem.Builtin.Str
namespace Mine
noncomputable section
noncomputable def tokT : List (Str × Int) := [(Str.ofString "!", 54), (Str.ofString "!=", 28), (Str.ofString "%", 24), (Str.ofString "%=", 40), (Str.ofString "&", 19), (Str.ofString "&=", 41), (Str.ofString "(", 7), (Str.ofString ")", 8), (Str.ofString "*", 16), (Str.ofString "**", 35), (Str.ofString "**=", 46), (Str.ofString "*=", 38), (Str.ofString "+", 14), (Str.ofString "+=", 36), (Str.ofString ",", 12), (Str.ofString "-", 15), (Str.ofString "-=", 37), (Str.ofString "->", 51), (Str.ofString ".", 23), (Str.ofString "...", 52), (Str.ofString "/", 17), (Str.ofString "//", 47), (Str.ofString "//=", 48), (Str.ofString "/=", 39), (Str.ofString ":", 11), (Str.ofString ":=", 53), (Str.ofString ";", 13), (Str.ofString "<", 20), (Str.ofString "<<", 33), (Str.ofString "<<=", 44), (Str.ofString "<=", 29), (Str.ofString "=", 22), (Str.ofString "==", 27), (Str.ofString ">", 21), (Str.ofString ">=", 30), (Str.ofString ">>", 34), (Str.ofString ">>=", 45), (Str.ofString "@", 49), (Str.ofString "@=", 50), (Str.ofString "[", 9), (Str.ofString "]", 10), (Str.ofString "^", 32), (Str.ofString "^=", 43), (Str.ofString "{", 25), (Str.ofString "|", 18), (Str.ofString "|=", 42), (Str.ofString "}", 26), (Str.ofString "~", 31)]
noncomputable def tokF (x : Str) : Option Int := (tokT.find? fun p => p.1 == x).map (·.2)
noncomputable def entOf (e : DictEntry) : Option (Str × Int) := match e.key, e.val with | .str k _, .int i _ => some (k, i) | _, _ => none
theorem findBy_tab {x : Str} : ∀ (es : List DictEntry) (T : List (Str × Int)), es.map entOf = T.map some → (∀ p, (T.find? fun p => p.1 == x) = some p → ∃ u, (es.find? fun e => Value.isStrOf x e.key).map (·.val) = some (.int p.2 u)) ∧ ((T.find? fun p => p.1 == x) = none → (es.find? fun e => Value.isStrOf x e.key).map (·.val) = none)
  | [], T, h => by
    cases T with
    | nil => exact ⟨fun p hp => (nomatch hp), fun _ => rfl⟩
    | cons a T => cases h
  | e :: es, T, h => by
    cases T with
    | nil => cases h
    | cons a T =>
      rw [List.map_cons, List.map_cons] at h
      obtain ⟨h1, h2⟩ := List.cons.inj h
      have ih := findBy_tab (x := x) es T h2
      obtain ⟨k, i⟩ := a
      obtain ⟨u1, u2, hk, hv⟩ : ∃ u1 u2, e.key = .str k u1 ∧ e.val = .int i u2 := by
        unfold entOf at h1
        split at h1
        · rename_i k' u1 i' u2 e1 e2
          cases h1
          exact ⟨u1, u2, e1, e2⟩
        · cases h1
      rw [List.find?_cons, List.find?_cons, hk]
      have hs : Value.isStrOf x (.str k u1) = (k == x) := by first | rfl | exact beq_comm
      rw [hs]
      cases hb : k == x with
      | true => exact ⟨fun p hp => by cases hp; exact ⟨u2, congrArg some hv⟩, fun hn => by cases hn⟩
      | false => exact ih
theorem tok_some {x : Str} {i : Int} {es : Array DictEntry} (h : es.toList.map entOf = tokT.map some) (e : tokF x = some i) : ∃ u, findBy Value.isStrOf es x = some (.int i u) := by
  obtain ⟨p, hp, rfl⟩ := Option.map_eq_some_iff.mp e
  obtain ⟨l⟩ := es
  unfold findBy
  rw [List.find?_toArray]
  exact (findBy_tab _ _ h).1 p hp
theorem tok_isSome {x : Str} {es : Array DictEntry} (h : es.toList.map entOf = tokT.map some) : (findBy Value.isStrOf es x).isSome = (tokF x).isSome := by
  cases e : tokF x with
  | some i => obtain ⟨u, hu⟩ := tok_some h e; rw [hu]; rfl
  | none =>
    have e' := Option.map_eq_none_iff.mp e
    obtain ⟨l⟩ := es
    unfold findBy
    rw [List.find?_toArray, (findBy_tab _ _ h).2 e']
    rfl
theorem tabIn_K {prog : Program} {w : World} {A : Around} {E : Value → Shared → Prop} {s : Shared} {K : Frag} {h₀ : Heap} {L a : Addr} {m : Str → Option Value} {es : Array DictEntry} {n : Nat} {x : Str} {t : Tok} {Q : Value → Shared → Prop}
    (F : Fr h₀ L s.heap m) (X₀ : K.In h₀) (hl : K.lookup a = some ⟨.type "dict", none, .dict es n, #[]⟩) (hk : KeysLit w.params es.toList) (lo : (a == sysModules) = false) (ht : es.toList.map entOf = tokT.map some)
    (h : Q (.bool (tokF x).isSome) { s with toks := s.toks + 1 }) : wpAny (model prog w) A (compareOp .In (.str x t) (.ref a)) Q E s :=
  wpAny_in_of (strKind_is prog w x t) lo (mapOf_K (prog := prog) (X₀.keeps F.keep) hl hk) (by rw [tok_isSome ht]; exact h)
theorem tabItem_K {prog : Program} {w : World} {A : Around} {E : Value → Shared → Prop} {s : Shared} {K : Frag} {h₀ : Heap} {L a : Addr} {m : Str → Option Value} {es : Array DictEntry} {n : Nat} {x : Str} {t : Tok} {i : Int} {value slice : Expr} {Q : Value → Shared → Prop}
    (F : Fr h₀ L s.heap m) (X₀ : K.In h₀) (hl : K.lookup a = some ⟨.type "dict", none, .dict es n, #[]⟩) (hk : KeysLit w.params es.toList) (ht : es.toList.map entOf = tokT.map some) (hx : tokF x = some i)
    (h : ∀ u, Q (.int i u) { s with toks := s.toks + 1 })
    (hs : subscripted slice false (.ref a) (.str x t) = operate [.ref a, .str x t] (getItem (.ref a) (.str x t)) := by with_unfolding_all rfl) : wpAny (model prog w) A (subscriptTail value slice (.ref a) (.str x t)) Q E s := by
  have hm := mapOf_K (prog := prog) (X₀.keeps F.keep) hl hk
  obtain ⟨u, hu⟩ := tok_some ht hx
  exact tail_any hm.typeIs slot_dict_getitem.lookup (wpAny_getItem_of (strKind_is prog w x t) hm hu (h u)) hs
@[irreducible] def fitsL (y : Str) (p : Int) : List Str := (([3, 2, 1] : List Int).map fun k => Txt.slice y (some p) (some (p + k))).filter fun s => (tokF s).isSome
noncomputable def isGap (s : Str) : Bool := c6F s || c7F s || c9F s
noncomputable def readN (y : Str) : Nat → Int → List Int
  | 0, _ => []
  | n + 1, p => if p < (y.length : Int) then (match fitsL y p with
      | f :: _ => (tokF f).getD 0 :: readN y n (p + f.length)
      | [] => if isGap (Txt.item y p) = true then readN y n (p + 1) else 0 :: readN y n (p + 1))
    else []
theorem readN_zero (y : Str) (p : Int) : readN y 0 p = [] := rfl
theorem readN_succ (y : Str) (n : Nat) (p : Int) : readN y (n + 1) p = if p < (y.length : Int) then (match fitsL y p with
      | f :: _ => (tokF f).getD 0 :: readN y n (p + f.length)
      | [] => if isGap (Txt.item y p) = true then readN y n (p + 1) else 0 :: readN y n (p + 1))
    else [] := rfl
end
end Mine
end
section
local macro_rules | `(tactic| omega) => `(tactic| grind)
section
open PySem PySem.W PyProof.Rows PySem.Builtin PySem.Builtin.Str PySem.StrLaws
namespace Mine
theorem sidx_clip {a b len : Nat} : strSliceIndices (some (a : Int)) (some (b : Int)) 1 len = strSliceIndices (some ((min a len : Nat) : Int)) (some ((min b len : Nat) : Int)) 1 len := by
  have h1 : ¬ ((a : Int) < 0) := by omega
  have h2 : ¬ ((b : Int) < 0) := by omega
  have h3 : ¬ (((min a len : Nat) : Int) < 0) := by omega
  have h4 : ¬ (((min b len : Nat) : Int) < 0) := by omega
  have e1 : max (0 : Int) (min (a : Int) (len : Int)) = max (0 : Int) (min ((min a len : Nat) : Int) (len : Int)) := by omega
  have e2 : max (0 : Int) (min (b : Int) (len : Int)) = max (0 : Int) (min ((min b len : Nat) : Int) (len : Int)) := by omega
  simp only [strSliceIndices, h1, h2, h3, h4, if_false, show ((1 : Int) > 0) = True from by simp, if_true]
  rw [e1, e2]
theorem slice_list {x : Str} {a b : Nat} (h : a ≤ b) : (Txt.slice x (some (a : Int)) (some (b : Int))).cps.toList = (x.cps.toList.drop a).take (b - a) := by
  have hl : x.cps.toList.length = x.length := Array.length_toList
  have hc : (strSliceIndices (some (a : Int)) (some (b : Int)) 1 x.length).filterMap (x.cps[·]?) = (x.cps.toList.drop a).take (b - a) := by
    rw [sidx_clip, sliced_plain x (a := min a x.length) (b := min b x.length) (by omega) (Nat.min_le_right _ _)]
    by_cases ha : a ≤ x.length
    · rw [Nat.min_eq_left ha]
      by_cases hb : b ≤ x.length
      · rw [Nat.min_eq_left hb]
      · rw [Nat.min_eq_right (by omega)]
        have : (x.cps.toList.drop a).length = x.length - a := by rw [List.length_drop, hl]
        rw [List.take_of_length_le (by omega), List.take_of_length_le (by omega)]
    · rw [Nat.min_eq_right (by omega), List.drop_of_length_le (by omega), List.drop_of_length_le (by omega)]
      simp
  unfold Txt.slice
  split
  · rename_i hh
    have hn : (strSliceIndices (some (a : Int)) (some (b : Int)) 1 x.length).length = x.length := by simpa using hh
    have h2 : (strSliceIndices (some (a : Int)) (some (b : Int)) 1 x.length).length = min b x.length - min a x.length := by
      rw [sidx_clip, strSliceIndices_plain (by omega) (Nat.min_le_right _ _)]; simp
    by_cases h0 : x.length = 0
    · have : x.cps.toList = [] := List.eq_nil_of_length_eq_zero (by omega)
      rw [this]; simp
    · have ha : a = 0 := by omega
      have hb : x.length ≤ b := by omega
      subst ha
      rw [List.drop_zero, List.take_of_length_le (by omega)]
  · exact hc
theorem slice_len {x : Str} {a b : Nat} (h : a ≤ b) : (Txt.slice x (some (a : Int)) (some (b : Int))).length = min (b - a) (x.length - a) := by
  show (Txt.slice x (some (a : Int)) (some (b : Int))).cps.size = _
  rw [← Array.length_toList, slice_list h, List.length_take, List.length_drop, Array.length_toList]
  rfl
theorem slice_lenI {x : Str} {p k : Int} (h0 : 0 ≤ p) (hk : 0 ≤ k) : ((Txt.slice x (some p) (some (p + k))).length : Int) ≤ k ∧ (p ≤ (x.length : Int) → p + ((Txt.slice x (some p) (some (p + k))).length : Int) ≤ (x.length : Int)) := by
  obtain ⟨a, rfl⟩ := Int.eq_ofNat_of_zero_le h0
  obtain ⟨b, rfl⟩ := Int.eq_ofNat_of_zero_le hk
  have h := slice_len (x := x) (a := a) (b := a + b) (by omega)
  have e : ((a : Int) + (b : Int)) = ((a + b : Nat) : Int) := by omega
  rw [e, h]
  omega
theorem tokF_nil : tokF ⟨#[]⟩ = none := by decide +kernel
theorem tok_pos {s : Str} {i : Int} (h : tokF s = some i) : 1 ≤ s.length := by
  rcases Nat.eq_zero_or_pos s.length with h0 | h0
  · have : s = ⟨#[]⟩ := by
      obtain ⟨c⟩ := s
      have : c = #[] := Array.eq_empty_of_size_eq_zero h0
      rw [this]
    rw [this, tokF_nil] at h
    cases h
  · exact h0
theorem fits_mem {y f : Str} {r : List Str} {p : Int} (h0 : 0 ≤ p) (h1 : p ≤ (y.length : Int)) (h : fitsL y p = f :: r) : ∃ i, tokF f = some i ∧ 1 ≤ f.length ∧ f.length ≤ 3 ∧ p + (f.length : Int) ≤ (y.length : Int) := by
  have hm : f ∈ fitsL y p := by rw [h]; exact List.mem_cons_self
  unfold fitsL at hm
  obtain ⟨hm1, hm2⟩ := List.mem_filter.mp hm
  obtain ⟨k, hk, rfl⟩ := List.mem_map.mp hm1
  obtain ⟨i, hi⟩ := Option.isSome_iff_exists.mp hm2
  have hk3 : 0 ≤ k ∧ k ≤ 3 := by
    simp only [List.mem_cons, List.not_mem_nil, or_false] at hk
    rcases hk with rfl | rfl | rfl <;> decide
  have hs := slice_lenI (x := y) h0 hk3.1
  exact ⟨i, hi, tok_pos hi, by omega, hs.2 h1⟩
end Mine
end
end
section
open PySem PySem.W PyProof.Rows PySem.Builtin PySem.Builtin.Str
namespace Mine
noncomputable section
theorem own_ne {own : List (Addr × Obj)} {L a : Nat} (h : AllLt L own) (ha : @LE.le Nat _ L a) : ∀ p ∈ own, p.1 ≠ a := by
  induction own with
  | nil => intro p hp; cases hp
  | cons q r ih =>
    intro p hp e
    rcases List.mem_cons.mp hp with rfl | hp
    · have h1 : @LT.lt Nat _ p.1 L := h.1
      rw [e] at h1
      exact Nat.lt_irrefl _ (Nat.lt_of_lt_of_le h1 ha)
    · exact ih h.2 p hp e
section
variable {lp : Program} {w : World} {loose : List Str} {mean : ExcName → Option Value} {mg mb : Str → Option Value}
local macro_rules | `(tactic| k_all) => `(tactic| (refine' own_ne ?a ?b; (case a => assumption); (case b => (try dsimp only); omega)))
local macro_rules | `(tactic| walk_at "call ref") => `(tactic| (k_here; kn_here; (refine stop ?_)))
local macro_rules | `(tactic| walk_at "binaryOp LShift int int") => `(tactic| (k_here; (refine stop ?_)))
/-- the digits of a list from place i, m of them, as one number to base 64 -/
noncomputable def valF (ns : List Int) : Nat → Nat → Int
  | _, 0 => 0
  | i, m + 1 => ns.getD i 0 + 64 * valF ns (i + 1) m
theorem valF_add (ns : List Int) (b : Nat) : ∀ (a i : Nat), valF ns i (a + b) = valF ns i a + 64 ^ a * valF ns (i + a) b
  | 0, i => by simp [valF]
  | a + 1, i => by
    have h := valF_add ns b a (i + 1)
    rw [show a + 1 + b = (a + b) + 1 from by omega, valF, valF, h, show i + (a + 1) = i + 1 + a from by omega, Int.pow_succ, Int.mul_add, Int.mul_comm (64 ^ a) 64, Int.mul_assoc]
    omega
theorem getD_in {ns : List Int} {B : Int} (hB : 0 < B) (h : ∀ v ∈ ns, 0 ≤ v ∧ v < B) (i : Nat) : 0 ≤ ns.getD i 0 ∧ ns.getD i 0 < B := by
  rw [List.getD_eq_getElem?_getD]
  cases e : ns[i]? with
  | none => exact ⟨Int.le_refl 0, hB⟩
  | some v => exact h v (List.mem_of_getElem? e)
theorem valF_bound {ns : List Int} (h : ∀ v ∈ ns, 0 ≤ v ∧ v < 64) : ∀ (m i : Nat), 0 ≤ valF ns i m ∧ valF ns i m < 64 ^ m
  | 0, i => by simp [valF]
  | m + 1, i => by
    have h1 := valF_bound h m (i + 1)
    have h2 := getD_in (by decide) h i
    rw [valF, Int.pow_succ]
    omega
theorem valF_small {ns : List Int} (h : ∀ v ∈ ns, 0 ≤ v ∧ v < 64) {m : Nat} (hm : m ≤ 10) (i : Nat) : (valF ns i m).natAbs < 2 ^ 64 := by
  have h1 := valF_bound h m i
  have h2 : (64 : Int) ^ m ≤ 64 ^ 10 := by exact_mod_cast Nat.pow_le_pow_right (n := 64) (by decide) hm
  have h3 : (64 : Int) ^ 10 < 2 ^ 64 := by decide
  omega
theorem valF_node {ns : List Int} {Lo mid Hi : Int} (h0 : 0 ≤ Lo) (h1 : Lo < mid) (h2 : mid < Hi) : valF ns mid.toNat (Hi - mid).toNat * 2 ^ ((mid - Lo) * 6).toNat + valF ns Lo.toNat (mid - Lo).toNat = valF ns Lo.toNat (Hi - Lo).toNat := by
  have e1 : (Hi - Lo).toNat = (mid - Lo).toNat + (Hi - mid).toNat := by omega
  have e2 : mid.toNat = Lo.toNat + (mid - Lo).toNat := by omega
  have e3 : ((mid - Lo) * 6).toNat = 6 * (mid - Lo).toNat := by omega
  rw [e1, valF_add, ← e2, e3, Int.pow_mul, Int.mul_comm]
  show (64 : Int) ^ _ * _ + _ = _
  omega
theorem mid_facts (L R : Int) : 2 * (L + R).fdiv (2 ^ Int.toNat 1) ≤ L + R ∧ L + R < 2 * (L + R).fdiv (2 ^ Int.toNat 1) + 2 := by
  have h : (L + R).fdiv (2 ^ Int.toNat 1) = (L + R) / 2 := Int.fdiv_eq_ediv_of_nonneg _ (by decide)
  rw [h]; omega
theorem valF_leaf {ns : List Int} {Lo Hi : Int} (h : Lo + 1 = Hi) : ns.getD Lo.toNat 0 = valF ns Lo.toNat (Hi - Lo).toNat := by
  rw [show (Hi - Lo).toNat = 0 + 1 from by omega, valF, valF]; omega
noncomputable abbrev InnerClaim (prog : Program) (w : World) (K : Frag) (p : Program) (loose : List Str) (mean : ExcName → Option Value) (mg mb : Str → Option Value) (f : Addr) (led : List (Addr × Obj)) (ns : List Int) (k : Nat) : Prop :=
  ∀ (Lo Hi : Int) (t1 t2 : Tok) (dp un : Nat) (gd : Option (List Code)) (cn : Str) (cs : Scope) (a : Addr) (ccd : Value) (cl : List (Str × Addr)) (outer : List Env) (A₀ : Around) (base h₀ : Heap) (L : Addr) (m : Str → Option Value) (s : Shared) (Q E : Value → Shared → Prop),
    0 ≤ Lo → Lo < Hi → Hi ≤ 10 → Hi - Lo ≤ k → Below A₀ base outer h₀ → Fr h₀ L s.heap m → K.In h₀ → News h₀ L s.heap led → Top p loose mean mg mb h₀ → cs.kind = .function →
    dp + k + 2 < recursionLimit → un + 8 * k + 20 < cLine → CbRet h₀ L m led s Q (fun t => .int (valF ns Lo.toNat (Hi - Lo).toNat) t) →
      wpAny (model prog w) (ktrTop dp un gd cn cs L a ccd cl outer) (call (.ref f) [.int Lo t1, .int Hi t2]) Q E s
theorem use_inner {prog : Program} {w : World} {K : Frag} {p : Program} {loose : List Str} {mean : ExcName → Option Value} {mg mb : Str → Option Value} {f : Addr} {led : List (Addr × Obj)} {ns : List Int} {k : Nat} {Lo Hi : Int} {t1 t2 : Tok} {A A₀ : Around} {dp un : Nat} {gd : Option (List Code)} {cn : Str} {cs : Scope} {a : Addr} {ccd : Value} {cl : List (Str × Addr)} {outer : List Env} {base h₀ : Heap} {L : Addr} {m : Str → Option Value} {s : Shared} {Q E : Value → Shared → Prop}
    (hA : A = ktrTop dp un gd cn cs L a ccd cl outer) (C : InnerClaim prog w K p loose mean mg mb f led ns k) (B : Below A₀ base outer h₀) (F : Fr h₀ L s.heap m) (X : K.In h₀) (N : News h₀ L s.heap led) (T : Top p loose mean mg mb h₀) (hk : cs.kind = .function)
    (h0 : 0 ≤ Lo) (h1 : Lo < Hi) (h2 : Hi ≤ 10) (h3 : Hi - Lo ≤ k) (hd : dp + k + 2 < recursionLimit) (hu : un + 8 * k + 20 < cLine) (h : CbRet h₀ L m led s Q (fun t => .int (valF ns Lo.toNat (Hi - Lo).toNat) t)) : wpAny (model prog w) A (call (.ref f) [.int Lo t1, .int Hi t2]) Q E s := by
  subst hA
  exact C Lo Hi t1 t2 dp un gd cn cs a ccd cl outer A₀ base h₀ L m s Q E h0 h1 h2 h3 B F X N T hk hd hu h
theorem c_d2i (l : Addr) (vs : List Value) (ns : List Int) (n : Nat) (own : CbLed) (hi : IntsAre vs ns) (hn : ns.length = 10) (hb : ∀ v ∈ ns, 0 ≤ v ∧ v < 64) (hoff : OwnOff own [l, 96]) (hl : @LT.lt Nat _ 96 l) (t6 : Tok) :
    CallClaim LP w (LK w) lp loose mean mg mb 101 ((l, W.listOf vs.toArray n) :: (96, tabObj #[]) :: own) [.ref l, .int 6 t6] (fun base _ _ => True)
    (fun h₀ L m s Q => ∀ ps : Array Value, CbRet h₀ L m ((l, W.listOf vs.toArray n) :: (96, tabObj ps) :: own) s Q (fun t => .int (valF ns 0 10) t)) := by
  dsimp only [CallClaim, CbRet, LK, LP]; k_fill; intros; rename_i _ _ hret
  refine wpAny_call ?_
  k_dflt (refine' code_defC ?k1 ?k2 ?k3 ?k4 ?k5 ?kA ?kF ?kK ?k6 ?k7 ?k8 ?k9 ?kB ?kD ?_ ?c2 ?c3 ?c4; (case kA => exact rfl); (case kF => exact rfl); (case kK => assumption); (case k1 => k_asm); (case k2 => k_asm); (case k3 => k_asm); (case k4 => k_asm); (case k5 => k_asm); (case k6 => k_is); (case k7 => k_is); (case k8 => ktr_room); (case k9 => exact BindsTo.of_eq rfl); (case kB => exact rfl); (case kD => decide +kernel); (case c2 => exact rfl); (case c3 => exact rfl); (case c4 => exact rfl); k_whole; intro g' L' h' tk' cells' FG' F' N' Y' B' X' T' l1; (try k_lt l1); k_cells Y'; (try simp only [List.cons_append, List.nil_append] at N'); (try dsimp only); (try k_lift B'); (try k_fold))
  rename_i o' o2' o3'
  have hOwn : AllLt L' own := l1.2.2
  have hC : CodeHd g' 100 96 := codeHd_of_K X' (by kernel_rfl)
  k_steps
  unfold Stop
  k_dflt (refine' use_inner (k := 10) (ns := ns) ?hA ?C ?B ?F ?X ?N ?T ?hk ?h0 ?h1 ?h2 ?h3 ?hd ?hu ?h)
  case F => k_asm
  case B => k_asm
  case X => k_asm
  case N => k_asm
  case T => k_asm
  case hA => exact rfl
  case hk => exact rfl
  case h0 => omega
  case h1 => omega
  case h2 => omega
  case h3 => omega
  case hd => ktr_room
  case hu => ktr_units
  case h =>
    intro t9 h9 tk9 F9 N9
    (try dsimp only)
    k_steps
    exact cb_retI (hret (#[] ++ #[rawInt 71, rawInt 4, .ref _])) (by rw [hn]; rfl) (by assumption) (cb_drop (by assumption) (by kcj_all))
  case C =>
    generalize 10 = k
    induction k with
    | zero =>
      dsimp only [InnerClaim]
      intros
      omega
    | succ k ih =>
      dsimp only [InnerClaim]
      intro Lo Hi t1 t2 dp2 un2 gd2 cn2 cs2 a2 ccd2 cl2 outer2 A2 base2 h2 L2 m2 s2 Q2 E2 q0 q1 q2 q3 B2 F2 X2 N2 T2 hk2 hd2 hu2 hret2
      refine wpAny_call ?_
      k_dflt (refine' code_nest ?k1 ?k2 ?k3 ?k4 ?k5 ?kA ?kF ?kK ?k6 ?k7 ?k8 ?k9 ?kB ?_ ?c2 ?c3 ?c4 ?c5; (case kA => exact rfl); (case kF => exact rfl); (case kK => assumption); (case k1 => k_asm); (case k2 => k_asm); (case k3 => k_asm); (case k4 => k_asm); (case k5 => k_asm); (case k6 => k_mem); (case k7 => exact codeRec_news (by k_asm) (by k_mem) (by assumption) (by assumption)); (case k8 => ktr_room); (case k9 => exact BindsTo.of_eq rfl); (case c5 => decide); (case kB => exact locs rfl); (case c2 => exact rfl); (case c3 => exact rfl); (case c4 => exact rfl); k_whole; intro g' L' h' FG' F' N' B' X' T'; (try dsimp only); (try k_lift B'); (try k_fold))
      k_steps
      · exact cb_retI hret2 (valF_leaf (by assumption)) (by assumption) (by assumption)
      unfold Stop
      k_dflt (refine' use_inner (k := k) (ns := ns) ?hA ?C ?B ?F ?X ?N ?T ?hk ?h0 ?h1 ?h2 ?h3 ?hd ?hu ?h)
      case C => exact ih
      case F => k_asm
      case B => k_asm
      case X => k_asm
      case N => k_asm
      case T => k_asm
      case hA => exact rfl
      case hk => exact rfl
      case hd => ktr_room
      case hu => ktr_units
      case h0 => have := mid_facts Lo Hi; omega
      case h1 => have := mid_facts Lo Hi; omega
      case h2 => omega
      case h3 => have := mid_facts Lo Hi; omega
      case h =>
        intro t9 h9 tk9 F9 N9
        (try dsimp only)
        (try k_fold)
        have hmf := mid_facts Lo Hi
        k_steps
        unfold Stop
        refine lshift_int_small (by omega) (by omega) (valF_small hb (by omega) _) ?_
        k_steps
        unfold Stop
        k_dflt (refine' use_inner (k := k) (ns := ns) ?hA ?C ?B ?F ?X ?N ?T ?hk ?h0 ?h1 ?h2 ?h3 ?hd ?hu ?h)
        case C => exact ih
        case F => k_asm
        case B => k_asm
        case X => k_asm
        case N => k_asm
        case T => k_asm
        case hA => exact rfl
        case hk => exact rfl
        case hd => ktr_room
        case hu => ktr_units
        case h0 => omega
        case h1 => omega
        case h2 => omega
        case h3 => omega
        case h =>
          intro t9 h9 tk9 F9 N9
          (try dsimp only)
          (try k_fold)
          k_steps
          exact cb_retI hret2 (valF_node q0 (by omega) (by omega)) (by assumption) (by assumption)
end
end
end Mine
end
section
open PySem PySem.W PyProof.Rows PySem.Builtin PySem.Builtin.Str
namespace Mine
noncomputable section
theorem pow64_lt {b : Nat} (hb : b ≤ 10) : (64 : Int) ^ b < ((2 ^ 64 : Nat) : Int) := by
  have h : (64 : Int) ^ b ≤ 64 ^ 10 := by exact_mod_cast Nat.pow_le_pow_right (n := 64) (by decide) hb
  exact Int.lt_of_le_of_lt h (by decide)
noncomputable def digitsF (a : Int) : List Int := (List.range 10).map fun i => a / 64 ^ i % 64
theorem setAll_ten (a : Int) : setAll (List.replicate (Int.toNat 10) [(0 : Int)]).flatten a (Int.toNat 0) (10 - 0 : Int).toNat = digitsF a := by
  unfold setAll digitsF
  refine List.map_congr_left fun i hi => ?_
  rw [if_pos ⟨Nat.zero_le _, by have := List.mem_range.mp hi; exact this⟩]
  rfl
theorem off_of_lt {c : Addr} : ∀ {own : List (Addr × Obj)}, AllLt c own → OwnOff own [c]
  | [], _ => fun _ hp => nomatch hp
  | q :: r, h => fun p hp b hb e => by
    rcases List.mem_singleton.mp hb with rfl
    rcases List.mem_cons.mp hp with rfl | hp
    · have h1 : @LT.lt Nat _ p.1 b := h.1
      rw [e] at h1
      exact Nat.lt_irrefl _ h1
    · exact off_of_lt h.2 p hp b (.head _) e
noncomputable abbrev I2dRet (h₀ : Heap) (L : Addr) (m : Str → Option Value) (own : List (Addr × Obj)) (s : Shared) (Q : Value → Shared → Prop) (a : Int) : Prop :=
  ∀ (D c' : Addr) (oc : Obj) (vc : Array Value) (t : Tok) (vs' : List Value) (n : Nat) (h' : Heap) (tk' : Nat), IntsAre vs' (digitsF a) → oc.data = .fields vc → vc[1]? = some (.str (Str.ofString "_int2digits.<locals>.inner") t) → OwnOff own [c'] → AllLt D own → @LT.lt Nat _ 89 c' → @LT.lt Nat _ 89 D → c' ≠ D → Fr h₀ L h' m →
    News h₀ L h' ((D, W.listOf vs'.toArray n) :: (c', oc) :: (89, tabObj #[rawInt 56, rawInt 4, .ref c']) :: own) → Q (.ref D) { s with heap := h', toks := tk' }
noncomputable abbrev InnerClaim2 (prog : Program) (w : World) (K : Frag) (p : Program) (loose : List Str) (mean : ExcName → Option Value) (mg mb : Str → Option Value) (f : Addr) (g : Obj → List (Addr × Obj)) (k : Nat) : Prop :=
  ∀ (x Lo Hi : Int) (t0 t1 t2 : Tok) (vs : List Value) (ds : List Int) (n : Nat) (dp un : Nat) (gd : Option (List Code)) (cn : Str) (cs : Scope) (a : Addr) (ccd : Value) (cl : List (Str × Addr)) (outer : List Env) (A₀ : Around) (base h₀ : Heap) (L : Addr) (m : Str → Option Value) (s : Shared) (Q E : Value → Shared → Prop),
    0 ≤ Lo → Lo < Hi → Hi ≤ 10 → Hi - Lo ≤ k → 0 ≤ x → x < 64 ^ (Hi - Lo).toNat → IntsAre vs ds → ds.length = 10 → Below A₀ base outer h₀ → Fr h₀ L s.heap m → K.In h₀ → News h₀ L s.heap (g (W.listOf vs.toArray n)) → Top p loose mean mg mb h₀ → cs.kind = .function →
    dp + k + 2 < recursionLimit → un + 8 * k + 20 < cLine →
    (∀ (vs' : List Value) (n' : Nat) (h' : Heap) (tk' : Nat), IntsAre vs' (setAll ds x Lo.toNat (Hi - Lo).toNat) → Fr h₀ L h' m → News h₀ L h' (g (W.listOf vs'.toArray n')) → Q .none { s with heap := h', toks := tk' }) →
      wpAny (model prog w) (ktrTop dp un gd cn cs L a ccd cl outer) (call (.ref f) [.int x t0, .int Lo t1, .int Hi t2]) Q E s
theorem use_inner2 {prog : Program} {w : World} {K : Frag} {p : Program} {loose : List Str} {mean : ExcName → Option Value} {mg mb : Str → Option Value} {f D : Addr} {news : List (Addr × Obj)} {g : Obj → List (Addr × Obj)} {k n : Nat} {x Lo Hi : Int} {t0 t1 t2 : Tok} {vs : List Value} {ds : List Int} {A A₀ : Around} {dp un : Nat} {gd : Option (List Code)} {cn : Str} {cs : Scope} {a : Addr} {ccd : Value} {cl : List (Str × Addr)} {outer : List Env} {base h₀ : Heap} {L : Addr} {m : Str → Option Value} {s : Shared} {Q E : Value → Shared → Prop}
    (hA : A = ktrTop dp un gd cn cs L a ccd cl outer) (C : InnerClaim2 prog w K p loose mean mg mb f g k) (B : Below A₀ base outer h₀) (F : Fr h₀ L s.heap m) (X : K.In h₀) (N : News h₀ L s.heap news) (_hD : (D, W.listOf vs.toArray n) ∈ news) (U : UpdF D (W.listOf vs.toArray n) news g) (T : Top p loose mean mg mb h₀) (hk : cs.kind = .function)
    (h0 : 0 ≤ Lo) (h1 : Lo < Hi) (h2 : Hi ≤ 10) (h3 : Hi - Lo ≤ k) (hx0 : 0 ≤ x) (hx1 : x < 64 ^ (Hi - Lo).toNat) (hi : IntsAre vs ds) (hl : ds.length = 10) (hd : dp + k + 2 < recursionLimit) (hu : un + 8 * k + 20 < cLine)
    (h : ∀ (vs' : List Value) (n' : Nat) (h' : Heap) (tk' : Nat), IntsAre vs' (setAll ds x Lo.toNat (Hi - Lo).toNat) → Fr h₀ L h' m → News h₀ L h' (g (W.listOf vs'.toArray n')) → Q .none { s with heap := h', toks := tk' }) : wpAny (model prog w) A (call (.ref f) [.int x t0, .int Lo t1, .int Hi t2]) Q E s := by
  subst hA
  obtain ⟨own, rest, rfl, hg, _, _⟩ := U.split
  exact C x Lo Hi t0 t1 t2 vs ds n dp un gd cn cs a ccd cl outer A₀ base h₀ L m s Q E h0 h1 h2 h3 hx0 hx1 hi hl B F X ((hg (W.listOf vs.toArray n)).symm ▸ N) T hk hd hu h
theorem bits_ten {a : Int} (h0 : 2 ^ 54 ≤ a) (h1 : a < 2 ^ 60) : ((Int.intBits a : Int) + 6 - 1).fdiv 6 = 10 := by
  have u : Int.intBits a ≤ 60 := intBits_le_iff.mpr (by omega)
  have l : ¬ Int.intBits a ≤ 54 := fun h => by have := intBits_le_iff.mp h; omega
  rw [Int.fdiv_eq_ediv_of_nonneg _ (by decide)]
  omega
section
variable {lp : Program} {w : World} {loose : List Str} {mean : ExcName → Option Value} {mg mb : Str → Option Value}
local macro_rules | `(tactic| k_all) => `(tactic| (refine' own_ne ?a ?b; (case a => assumption); (case b => (try dsimp only); omega)))
local macro_rules | `(tactic| walk_at "binaryOp LShift int int") => `(tactic| (k_here; (refine stop ?_)))
local macro_rules | `(tactic| walk_at "binaryOp RShift int int") => `(tactic| (k_here; (with_reducible show wpAny _ _ (binaryOp Operator.RShift (Value.int _ _) (Value.int (_ * _) _)) _ _ _); (refine stop ?_)))
local macro_rules | `(tactic| walk_at "call ref") => `(tactic| (k_here; kn_here; (refine stop ?_)))
local macro_rules | `(tactic| walk_at "binaryOp Mult ref int") => `(tactic| (k_here; (with_reducible show wpAny _ _ (binaryOp Operator.Mult (Value.ref _) (Value.int (Int.fdiv _ _) _)) _ _ _); (refine stop ?_)))
theorem c_i2d (a : Int) (ta : Tok) (own : CbLed) (h0 : 2 ^ 54 ≤ a) (h1 : a < 2 ^ 60) (hoff : OwnOff own [89]) (t6 : Tok) :
    CallClaim LP w (LK w) lp loose mean mg mb 94 ((89, tabObj #[]) :: own) [.int a ta, .int 6 t6] (fun base _ _ => True)
    (fun h₀ L m s Q => I2dRet h₀ L m own s Q a) := by
  dsimp only [CallClaim, I2dRet, LK, LP]; k_fill; intros; rename_i _ _ hret
  refine wpAny_call ?_
  k_dflt (refine' code_defC ?k1 ?k2 ?k3 ?k4 ?k5 ?kA ?kF ?kK ?k6 ?k7 ?k8 ?k9 ?kB ?kD ?_ ?c2 ?c3 ?c4; (case kA => exact rfl); (case kF => exact rfl); (case kK => assumption); (case k1 => k_asm); (case k2 => k_asm); (case k3 => k_asm); (case k4 => k_asm); (case k5 => k_asm); (case k6 => k_is); (case k7 => k_is); (case k8 => ktr_room); (case k9 => exact BindsTo.of_eq rfl); (case kB => exact rfl); (case kD => decide +kernel); (case c2 => exact rfl); (case c3 => exact rfl); (case c4 => exact rfl); k_whole; intro g' L' h' tk' cells' FG' F' N' Y' B' X' T' l1; (try k_lt l1); k_cells Y'; (try simp only [List.cons_append, List.nil_append] at N'); (try dsimp only); (try k_lift B'); (try k_fold))
  rename_i o' o2' o3'
  have hOwn : AllLt L' own := l1.2
  have hC : CodeHd g' 93 89 := codeHd_of_K X' (by kernel_rfl)
  k_steps
  unfold Stop
  rw [bits_ten h0 h1]
  (try dsimp only)
  k_steps
  · unfold Stop
    k_dflt (refine' use_inner2 (k := 10) ?hA ?C ?B ?F ?X ?N ?D ?U ?T ?hk ?h0 ?h1 ?h2 ?h3 ?hx0 ?hx1 ?hi ?hl ?hd ?hu ?h)
    case hi => assumption
    case F => k_asm
    case B => k_asm
    case X => k_asm
    case N => k_asm
    case D => k_mem
    case U => k_updF
    case T => k_asm
    case hA => exact rfl
    case hk => exact rfl
    case h0 => omega
    case h1 => omega
    case h2 => omega
    case h3 => omega
    case hx0 => omega
    case hx1 => exact Int.lt_of_lt_of_le h1 (by decide)
    case hl => rfl
    case hd => ktr_room
    case hu => ktr_units
    case h =>
      intro vs9 n9 h9 tk9 I9 F9 N9
      (try dsimp only at N9)
      (try dsimp only)
      (try k_fold)
      k_steps
      rename (_ ∧ _ ∧ _ ∧ _ ∧ _ ∧ _ ∧ AllLt _ own) => lc
      rename (_ ∧ _ ∧ _ ∧ _ ∧ _ ∧ AllLt _ own) => lD
      exact hret _ _ _ _ _ _ _ _ _ (setAll_ten a ▸ I9) (by assumption) (by assumption) (off_of_lt lc.2.2.2.2.2.2) lD.2.2.2.2.2 lc.2.2.2.2.2.1 lD.2.2.2.2.1 (Nat.ne_of_gt lc.1) (by assumption) (cb_drop (by assumption) (by kcj_all))
    case C =>
      generalize 10 = k
      induction k with
      | zero =>
        dsimp only [InnerClaim2]
        intros
        omega
      | succ k ih =>
        dsimp only [InnerClaim2]
        intro x Lo Hi t0 t1 t2 vs ds n dp2 un2 gd2 cn2 cs2 a2 ccd2 cl2 outer2 A2 base2 h2 L2 m2 s2 Q2 E2 q0 q1 q2 q3 x0 x1 I2 hl2 B2 F2 X2 N2 T2 hk2 hd2 hu2 hret2
        have hmf := mid_facts Lo Hi
        refine wpAny_call ?_
        k_dflt (refine' code_nest ?k1 ?k2 ?k3 ?k4 ?k5 ?kA ?kF ?kK ?k6 ?k7 ?k8 ?k9 ?kB ?_ ?c2 ?c3 ?c4 ?c5; (case kA => exact rfl); (case kF => exact rfl); (case kK => assumption); (case k1 => k_asm); (case k2 => k_asm); (case k3 => k_asm); (case k4 => k_asm); (case k5 => k_asm); (case k6 => k_mem); (case k7 => exact codeRec_news (by k_asm) (by k_mem) (by assumption) (by assumption)); (case k8 => ktr_room); (case k9 => exact BindsTo.of_eq rfl); (case c5 => decide); (case kB => exact locs rfl); (case c2 => exact rfl); (case c3 => exact rfl); (case c4 => exact rfl); k_whole; intro g' L' h' FG' F' N' B' X' T'; (try dsimp only at N'); (try dsimp only); (try k_lift B'); (try k_fold))
        k_steps
        · refine hret2 _ _ _ _ ?_ (by assumption) (by assumption)
          rw [show (Hi - Lo).toNat = 1 from by omega, ← setAll_one (by omega) x0 (Int.lt_of_lt_of_le x1 (by rw [show (Hi - Lo).toNat = 1 from by omega]; decide))]
          assumption
        unfold Stop
        refine rshift_int (by omega) ?_
        (try dsimp only)
        k_steps
        unfold Stop
        have ha1 : (Lo + Hi).fdiv (2 ^ Int.toNat 1) - Lo = (((Lo + Hi).fdiv (2 ^ Int.toNat 1) - Lo).toNat : Int) := by omega
        have hup := up_eq (x := x) ha1
        have hlow := low_eq (x := x) ha1
        have hx2 := up_lt (x := x) (a := ((Lo + Hi).fdiv (2 ^ Int.toNat 1) - Lo).toNat) (b := (Hi - (Lo + Hi).fdiv (2 ^ Int.toNat 1)).toNat) (by rw [show ((Lo + Hi).fdiv (2 ^ Int.toNat 1) - Lo).toNat + (Hi - (Lo + Hi).fdiv (2 ^ Int.toNat 1)).toNat = (Hi - Lo).toNat from by omega]; exact x1)
        have hx3 := Int.ediv_nonneg x0 (Int.le_of_lt (pow64 ((Lo + Hi).fdiv (2 ^ Int.toNat 1) - Lo).toNat))
        refine lshift_int_small (by omega) (by omega) ?_ ?_
        · rw [hup]
          refine Int.ofNat_lt.mp (Int.lt_of_le_of_lt (b := x / 64 ^ ((Lo + Hi).fdiv (2 ^ Int.toNat 1) - Lo).toNat) (by omega) (Int.lt_trans hx2 ?_))
          exact pow64_lt (by omega)
        (try dsimp only)
        k_steps
        unfold Stop
        k_dflt (refine' use_inner2 (k := k) ?hA ?C ?B ?F ?X ?N ?D ?U ?T ?hk ?h0 ?h1 ?h2 ?h3 ?hx0 ?hx1 ?hi ?hl ?hd ?hu ?h)
        case C => exact ih
        case hi => exact I2
        case F => k_asm
        case B => k_asm
        case X => k_asm
        case N => k_asm
        case D => k_mem
        case U => k_updF
        case T => k_asm
        case hA => exact rfl
        case hk => exact rfl
        case h0 => omega
        case h1 => omega
        case h2 => omega
        case h3 => omega
        case hx0 => rw [hlow]; exact Int.emod_nonneg _ (Int.ne_of_gt (pow64 _))
        case hx1 => rw [hlow]; exact Int.emod_lt_of_pos _ (pow64 _)
        case hl => exact hl2
        case hd => ktr_room
        case hu => ktr_units
        case h =>
          intro vs9 n9 h9 tk9 I9 F9 N9
          (try dsimp only at N9)
          (try dsimp only)
          (try k_fold)
          k_steps
          unfold Stop
          k_dflt (refine' use_inner2 (k := k) ?hA ?C ?B ?F ?X ?N ?D ?U ?T ?hk ?h0 ?h1 ?h2 ?h3 ?hx0 ?hx1 ?hi ?hl ?hd ?hu ?h)
          case C => exact ih
          case hi => exact I9
          case F => k_asm
          case B => k_asm
          case X => k_asm
          case N => k_asm
          case D => k_mem
          case U => k_updF
          case T => k_asm
          case hA => exact rfl
          case hk => exact rfl
          case h0 => omega
          case h1 => omega
          case h2 => omega
          case h3 => omega
          case hx0 => rw [hup]; exact hx3
          case hx1 => rw [hup]; exact hx2
          case hl => rw [setAll_length]; exact hl2
          case hd => ktr_room
          case hu => ktr_units
          case h =>
            intro vs8 n8 h8 tk8 I8 F8 N8
            (try dsimp only at N8)
            (try dsimp only)
            (try k_fold)
            k_steps
            refine hret2 vs8 n8 _ _ ?_ (by assumption) (by assumption)
            have := setAll_two (ds := ds) (x := x) (lo := Lo.toNat) (a := ((Lo + Hi).fdiv (2 ^ Int.toNat 1) - Lo).toNat) (b := (Hi - (Lo + Hi).fdiv (2 ^ Int.toNat 1)).toNat)
            rw [show ((Lo + Hi).fdiv (2 ^ Int.toNat 1) - Lo).toNat + (Hi - (Lo + Hi).fdiv (2 ^ Int.toNat 1)).toNat = (Hi - Lo).toNat from by omega, show Lo.toNat + ((Lo + Hi).fdiv (2 ^ Int.toNat 1) - Lo).toNat = ((Lo + Hi).fdiv (2 ^ Int.toNat 1)).toNat from by omega, ← hlow, ← hup] at this
            rw [← this]
            exact I8
  · exfalso; omega
theorem c_i2dH (a : Int) (ta : Tok) (own : CbLed) (h0 : 2 ^ 54 ≤ a) (h1 : a < 2 ^ 60) (hoff : OwnOff own [89]) (t6 : Tok) (cc : Addr) (oc : Obj) (vc : Array Value) (tc : Tok) (hc1 : oc.data = .fields vc) (hc2 : vc[1]? = some (.str (Str.ofString "_int2digits.<locals>.inner") tc)) (hc3 : OwnOff own [cc]) (hc4 : @LT.lt Nat _ 89 cc) :
    CallClaim LP w (LK w) lp loose mean mg mb 94 ((cc, oc) :: (89, tabObj #[rawInt 56, rawInt 4, .ref cc]) :: own) [.int a ta, .int 6 t6] (fun base _ _ => True)
    (fun h₀ L m s Q => I2dRet h₀ L m own s Q a) := by
  dsimp only [CallClaim, I2dRet, LK, LP]; k_fill; intros; rename_i _ _ hret
  refine wpAny_call ?_
  k_dflt (refine' code_defC ?k1 ?k2 ?k3 ?k4 ?k5 ?kA ?kF ?kK ?k6 ?k7 ?k8 ?k9 ?kB ?kD ?_ ?c2 ?c3 ?c4; (case kA => exact rfl); (case kF => exact rfl); (case kK => assumption); (case k1 => k_asm); (case k2 => k_asm); (case k3 => k_asm); (case k4 => k_asm); (case k5 => k_asm); (case k6 => k_is); (case k7 => k_is); (case k8 => ktr_room); (case k9 => exact BindsTo.of_eq rfl); (case kB => exact rfl); (case kD => decide +kernel); (case c2 => exact rfl); (case c3 => exact rfl); (case c4 => exact rfl); k_whole; intro g' L' h' tk' cells' FG' F' N' Y' B' X' T' l1; (try k_lt l1); k_cells Y'; (try simp only [List.cons_append, List.nil_append] at N'); (try dsimp only); (try k_lift B'); (try k_fold))
  rename_i o' o2' o3'
  have hOwn : AllLt L' own := l1.2.2
  have hC : CodeHd g' 93 89 := codeHd_of_K X' (by kernel_rfl)
  k_steps
  unfold Stop
  rw [bits_ten h0 h1]
  (try dsimp only)
  k_steps
  · unfold Stop
    k_dflt (refine' use_inner2 (k := 10) ?hA ?C ?B ?F ?X ?N ?D ?U ?T ?hk ?h0 ?h1 ?h2 ?h3 ?hx0 ?hx1 ?hi ?hl ?hd ?hu ?h)
    case hi => assumption
    case F => k_asm
    case B => k_asm
    case X => k_asm
    case N => k_asm
    case D => k_mem
    case U => k_updF
    case T => k_asm
    case hA => exact rfl
    case hk => exact rfl
    case h0 => omega
    case h1 => omega
    case h2 => omega
    case h3 => omega
    case hx0 => omega
    case hx1 => exact Int.lt_of_lt_of_le h1 (by decide)
    case hl => rfl
    case hd => ktr_room
    case hu => ktr_units
    case h =>
      intro vs9 n9 h9 tk9 I9 F9 N9
      (try dsimp only at N9)
      (try dsimp only)
      (try k_fold)
      k_steps
      rename (_ ∧ _ ∧ _ ∧ _ ∧ _ ∧ _ ∧ AllLt _ own) => lD
      exact hret _ _ _ _ _ _ _ _ _ (setAll_ten a ▸ I9) hc1 hc2 hc3 lD.2.2.2.2.2.2 hc4 lD.2.2.2.2.2.1 (Nat.ne_of_lt lD.2.2.2.2.1) (by assumption) (cb_drop (by assumption) (by kcj_all))
    case C =>
      generalize 10 = k
      induction k with
      | zero =>
        dsimp only [InnerClaim2]
        intros
        omega
      | succ k ih =>
        dsimp only [InnerClaim2]
        intro x Lo Hi t0 t1 t2 vs ds n dp2 un2 gd2 cn2 cs2 a2 ccd2 cl2 outer2 A2 base2 h2 L2 m2 s2 Q2 E2 q0 q1 q2 q3 x0 x1 I2 hl2 B2 F2 X2 N2 T2 hk2 hd2 hu2 hret2
        have hmf := mid_facts Lo Hi
        refine wpAny_call ?_
        k_dflt (refine' code_nest ?k1 ?k2 ?k3 ?k4 ?k5 ?kA ?kF ?kK ?k6 ?k7 ?k8 ?k9 ?kB ?_ ?c2 ?c3 ?c4 ?c5; (case kA => exact rfl); (case kF => exact rfl); (case kK => assumption); (case k1 => k_asm); (case k2 => k_asm); (case k3 => k_asm); (case k4 => k_asm); (case k5 => k_asm); (case k6 => k_mem); (case k7 => exact codeRec_news (by k_asm) (by k_mem) (by assumption) (by assumption)); (case k8 => ktr_room); (case k9 => exact BindsTo.of_eq rfl); (case c5 => decide); (case kB => exact locs rfl); (case c2 => exact rfl); (case c3 => exact rfl); (case c4 => exact rfl); k_whole; intro g' L' h' FG' F' N' B' X' T'; (try dsimp only at N'); (try dsimp only); (try k_lift B'); (try k_fold))
        k_steps
        · refine hret2 _ _ _ _ ?_ (by assumption) (by assumption)
          rw [show (Hi - Lo).toNat = 1 from by omega, ← setAll_one (by omega) x0 (Int.lt_of_lt_of_le x1 (by rw [show (Hi - Lo).toNat = 1 from by omega]; decide))]
          assumption
        unfold Stop
        refine rshift_int (by omega) ?_
        (try dsimp only)
        k_steps
        unfold Stop
        have ha1 : (Lo + Hi).fdiv (2 ^ Int.toNat 1) - Lo = (((Lo + Hi).fdiv (2 ^ Int.toNat 1) - Lo).toNat : Int) := by omega
        have hup := up_eq (x := x) ha1
        have hlow := low_eq (x := x) ha1
        have hx2 := up_lt (x := x) (a := ((Lo + Hi).fdiv (2 ^ Int.toNat 1) - Lo).toNat) (b := (Hi - (Lo + Hi).fdiv (2 ^ Int.toNat 1)).toNat) (by rw [show ((Lo + Hi).fdiv (2 ^ Int.toNat 1) - Lo).toNat + (Hi - (Lo + Hi).fdiv (2 ^ Int.toNat 1)).toNat = (Hi - Lo).toNat from by omega]; exact x1)
        have hx3 := Int.ediv_nonneg x0 (Int.le_of_lt (pow64 ((Lo + Hi).fdiv (2 ^ Int.toNat 1) - Lo).toNat))
        refine lshift_int_small (by omega) (by omega) ?_ ?_
        · rw [hup]
          refine Int.ofNat_lt.mp (Int.lt_of_le_of_lt (b := x / 64 ^ ((Lo + Hi).fdiv (2 ^ Int.toNat 1) - Lo).toNat) (by omega) (Int.lt_trans hx2 ?_))
          exact pow64_lt (by omega)
        (try dsimp only)
        k_steps
        unfold Stop
        k_dflt (refine' use_inner2 (k := k) ?hA ?C ?B ?F ?X ?N ?D ?U ?T ?hk ?h0 ?h1 ?h2 ?h3 ?hx0 ?hx1 ?hi ?hl ?hd ?hu ?h)
        case C => exact ih
        case hi => exact I2
        case F => k_asm
        case B => k_asm
        case X => k_asm
        case N => k_asm
        case D => k_mem
        case U => k_updF
        case T => k_asm
        case hA => exact rfl
        case hk => exact rfl
        case h0 => omega
        case h1 => omega
        case h2 => omega
        case h3 => omega
        case hx0 => rw [hlow]; exact Int.emod_nonneg _ (Int.ne_of_gt (pow64 _))
        case hx1 => rw [hlow]; exact Int.emod_lt_of_pos _ (pow64 _)
        case hl => exact hl2
        case hd => ktr_room
        case hu => ktr_units
        case h =>
          intro vs9 n9 h9 tk9 I9 F9 N9
          (try dsimp only at N9)
          (try dsimp only)
          (try k_fold)
          k_steps
          unfold Stop
          k_dflt (refine' use_inner2 (k := k) ?hA ?C ?B ?F ?X ?N ?D ?U ?T ?hk ?h0 ?h1 ?h2 ?h3 ?hx0 ?hx1 ?hi ?hl ?hd ?hu ?h)
          case C => exact ih
          case hi => exact I9
          case F => k_asm
          case B => k_asm
          case X => k_asm
          case N => k_asm
          case D => k_mem
          case U => k_updF
          case T => k_asm
          case hA => exact rfl
          case hk => exact rfl
          case h0 => omega
          case h1 => omega
          case h2 => omega
          case h3 => omega
          case hx0 => rw [hup]; exact hx3
          case hx1 => rw [hup]; exact hx2
          case hl => rw [setAll_length]; exact hl2
          case hd => ktr_room
          case hu => ktr_units
          case h =>
            intro vs8 n8 h8 tk8 I8 F8 N8
            (try dsimp only at N8)
            (try dsimp only)
            (try k_fold)
            k_steps
            refine hret2 vs8 n8 _ _ ?_ (by assumption) (by assumption)
            have := setAll_two (ds := ds) (x := x) (lo := Lo.toNat) (a := ((Lo + Hi).fdiv (2 ^ Int.toNat 1) - Lo).toNat) (b := (Hi - (Lo + Hi).fdiv (2 ^ Int.toNat 1)).toNat)
            rw [show ((Lo + Hi).fdiv (2 ^ Int.toNat 1) - Lo).toNat + (Hi - (Lo + Hi).fdiv (2 ^ Int.toNat 1)).toNat = (Hi - Lo).toNat from by omega, show Lo.toNat + ((Lo + Hi).fdiv (2 ^ Int.toNat 1) - Lo).toNat = ((Lo + Hi).fdiv (2 ^ Int.toNat 1)).toNat from by omega, ← hlow, ← hup] at this
            rw [← this]
            exact I8
  · exfalso; omega
/-- the table of _int2digits' own defs: empty, or with the one def's code -/
noncomputable def tabLed : Option (Addr × Obj) → List (Addr × Obj)
  | none => [(89, tabObj #[])]
  | some p => [p, (89, tabObj #[rawInt 56, rawInt 4, .ref p.1])]
noncomputable def TabOk (own : List (Addr × Obj)) : Option (Addr × Obj) → Prop
  | none => True
  | some p => (∃ vc t, p.2.data = .fields vc ∧ vc[1]? = some (.str (Str.ofString "_int2digits.<locals>.inner") t)) ∧ OwnOff own [p.1] ∧ @LT.lt Nat _ 89 p.1
noncomputable abbrev I2dRetU (h₀ : Heap) (L : Addr) (m : Str → Option Value) (own : List (Addr × Obj)) (s : Shared) (Q : Value → Shared → Prop) (a : Int) : Prop :=
  ∀ (D : Addr) (p : Addr × Obj) (vs' : List Value) (n : Nat) (h' : Heap) (tk' : Nat), IntsAre vs' (digitsF a) → TabOk own (some p) → AllLt D own → @LT.lt Nat _ 89 D → @Ne Nat p.1 D → Fr h₀ L h' m →
    News h₀ L h' ((D, W.listOf vs'.toArray n) :: (tabLed (some p) ++ own)) → Q (.ref D) { s with heap := h', toks := tk' }
theorem c_i2dU (a : Int) (ta : Tok) (own : CbLed) (h0 : 2 ^ 54 ≤ a) (h1 : a < 2 ^ 60) (hoff : OwnOff own [89]) (t6 : Tok) (tb : Option (Addr × Obj)) (ht : TabOk own tb) :
    CallClaim LP w (LK w) lp loose mean mg mb 94 (tabLed tb ++ own) [.int a ta, .int 6 t6] (fun base _ _ => True)
    (fun h₀ L m s Q => I2dRetU h₀ L m own s Q a) := by
  intro dp un gd cn cs aa ccd cl outer A₀ base h₀ L m s Q E B F X N T hk pr hd hu hr
  have hr' : I2dRet h₀ L m own s Q a := fun D c' oc vc t vs' n h' tk' q1 q2 q3 q4 q5 q6 q7 q8 q9 q10 => hr D (c', oc) vs' n h' tk' q1 ⟨⟨vc, t, q2, q3⟩, q4, q6⟩ q5 q7 q8 q9 q10
  cases tb with
  | none => exact c_i2d a ta own h0 h1 hoff t6 dp un gd cn cs aa ccd cl outer A₀ base h₀ L m s Q E B F X N T hk pr hd hu hr'
  | some p =>
    obtain ⟨cc, oc⟩ := p
    obtain ⟨⟨vc, t, e1, e2⟩, e3, e4⟩ := ht
    exact c_i2dH a ta own h0 h1 hoff t6 cc oc vc t e1 e2 e3 e4 dp un gd cn cs aa ccd cl outer A₀ base h₀ L m s Q E B F X N T hk pr hd hu hr'
end
end
end Mine
end
section
open PySem PySem.W PyProof.Rows PySem.Builtin PySem.Builtin.Str
namespace Mine
noncomputable section
theorem use_b {prog : Program} {w : World} {K : Frag} {p : Program} {loose : List Str} {mean : ExcName → Option Value} {mg mb : Str → Option Value} {f : Addr} {led : List (Addr × Obj)} {pre : Prop} {vs : List Value} {R : Tok → Value} {A A₀ : Around} {dp un : Nat} {gd : Option (List Code)} {cn : Str} {cs : Scope} {a : Addr} {ccd : Value} {cl : List (Str × Addr)} {outer : List Env} {base h₀ : Heap} {L : Addr} {m : Str → Option Value} {s : Shared} {Q E : Value → Shared → Prop}
    (hA : A = ktrTop dp un gd cn cs L a ccd cl outer) (C : CbClaim prog w K p loose mean mg mb f led [] pre vs R) (B : Below A₀ base outer h₀) (F : Fr h₀ L s.heap m) (X : K.In h₀) (N : News h₀ L s.heap led) (T : Top p loose mean mg mb h₀) (hk : cs.kind = .function)
    (hp : pre) (hd : dp + 1 < recursionLimit) (hu : un + 8 < cLine) (h : CbRet h₀ L m led s Q R) : wpAny (model prog w) A (call (.ref f) vs) Q E s := by
  subst hA
  exact C dp un gd cn cs a ccd cl outer A₀ base h₀ L m s Q E B F X N T hk hp hd hu h
theorem take_succ_of {l : List Nat} {i c : Nat} (h : l[i]? = some c) : l.take (i + 1) = l.take i ++ [c] := by rw [List.take_add_one, h]; rfl
noncomputable def filtN (x : Str) (i : Nat) : List Str := ((x.cps.toList.take i).filter fun c => !b1F ⟨#[c]⟩).map fun c => ⟨#[c]⟩
theorem filtN_skip {x : Str} {i c : Nat} (h : x.cps[i]? = some c) (hb : b1F ⟨#[c]⟩ = true) : filtN x (i + 1) = filtN x i := by
  unfold filtN
  rw [take_succ_of (by rw [Array.getElem?_toList]; exact h), List.filter_append]
  simp [hb]
theorem filtN_keep {x : Str} {i c : Nat} (h : x.cps[i]? = some c) (hb : b1F ⟨#[c]⟩ = false) : filtN x (i + 1) = filtN x i ++ [⟨#[c]⟩] := by
  unfold filtN
  rw [take_succ_of (by rw [Array.getElem?_toList]; exact h), List.filter_append]
  simp [hb]
/-- the text without the signs of table B.1 -/
noncomputable def seenF (x : Str) : Str := ⟨(x.cps.toList.filter fun c => !b1F ⟨#[c]⟩).toArray⟩
theorem join_seen (x : Str) : Txt.join (Str.ofString "") (filtN x x.cps.size) = seenF x := by
  have h := join_nil_signs (seenF x)
  have e : signs (seenF x) = filtN x x.cps.size := by
    unfold signs seenF filtN
    rw [List.take_of_length_le (Nat.le_of_eq (Array.length_toList))]
  rw [e] at h
  exact (beq_iff_eq.mp (join_closes (by decide))).trans h
theorem filtN_fits (x : Str) (hx : x.length ≤ 40) : ((filtN x x.cps.size).map (·.length)).sum + (filtN x x.cps.size).length * (Str.ofString "").length ≤ 16777216 := by
  have h1 : ∀ l : List Nat, ((l.map fun c => (⟨#[c]⟩ : Str)).map (·.length)).sum = l.length := by
    intro l
    induction l with
    | nil => rfl
    | cons a l ih => rw [List.map_cons, List.map_cons, List.sum_cons, ih, List.length_cons, Nat.add_comm]; rfl
  have h2 : (filtN x x.cps.size).length ≤ 40 := by
    unfold filtN
    rw [List.length_map]
    exact Nat.le_trans (List.length_filter_le _ _) (Nat.le_trans (List.length_take_le _ _) hx)
  have h3 : ((filtN x x.cps.size).map (·.length)).sum = (filtN x x.cps.size).length := by
    unfold filtN
    rw [h1, List.length_map]
  rw [h3]
  have h4 : (Str.ofString "").length = 0 := by decide
  rw [h4]
  omega
theorem seenF_len (x : Str) (hx : x.length ≤ 40) : (seenF x).length ≤ 40 := by
  refine Nat.le_trans ?_ hx
  show (List.toArray _).size ≤ x.cps.size
  rw [List.size_toArray, ← Array.length_toList]
  exact List.length_filter_le _ _
/-- the fits of the first i sizes -/
noncomputable def fitN (y : Str) (p : Int) (i : Nat) : List Str := ((([3, 2, 1] : List Int).take i).map fun k => Txt.slice y (some p) (some (p + k))).filter fun s => (tokF s).isSome
theorem three_at {t1 t2 t3 : Tok} {i : Nat} {v : Value} (h : (#[Value.int 3 t1, .int 2 t2, .int 1 t3] : Array Value)[i]? = some v) : ∃ (k : Int) (t : Tok), v = .int k t ∧ 1 ≤ k ∧ k ≤ 3 ∧ ([3, 2, 1] : List Int)[i]? = some k := by
  match i with
  | 0 => exact ⟨3, t1, (Option.some.inj h).symm, by decide, by decide, rfl⟩
  | 1 => exact ⟨2, t2, (Option.some.inj h).symm, by decide, by decide, rfl⟩
  | 2 => exact ⟨1, t3, (Option.some.inj h).symm, by decide, by decide, rfl⟩
  | n + 3 => simp at h
theorem fitN_keep {y : Str} {p k : Int} {i : Nat} (h : ([3, 2, 1] : List Int)[i]? = some k) (hb : (tokF (Txt.slice y (some p) (some (p + k)))).isSome = true) : fitN y p (i + 1) = fitN y p i ++ [Txt.slice y (some p) (some (p + k))] := by
  unfold fitN
  rw [List.take_add_one, h, List.map_append, List.filter_append]
  simp [hb]
theorem fitN_skip {y : Str} {p k : Int} {i : Nat} (h : ([3, 2, 1] : List Int)[i]? = some k) (hb : (tokF (Txt.slice y (some p) (some (p + k)))).isSome = false) : fitN y p (i + 1) = fitN y p i := by
  unfold fitN
  rw [List.take_add_one, h, List.map_append, List.filter_append]
  simp [hb]
theorem read_hit {y f : Str} {r : List Str} {p i : Int} {row R : List Int} {k : Nat} (h5 : row ++ readN y k p = R) (h4 : (y.length : Int) + 1 ≤ k + p) (hlt : p < (y.length : Int)) (hL : fitsL y p = f :: r) (hi : tokF f = some i) (hf : 1 ≤ f.length) :
    ∃ k' : Nat, (y.length : Int) + 1 ≤ k' + (p + f.length) ∧ (row ++ [i]) ++ readN y k' (p + f.length) = R := by
  cases k with
  | zero => omega
  | succ k =>
    refine ⟨k, by omega, ?_⟩
    rw [readN_succ, if_pos hlt, hL] at h5
    simp only [hi, Option.getD_some] at h5
    rw [List.append_assoc]
    exact h5
theorem read_gap {y : Str} {p : Int} {row R : List Int} {k : Nat} (h5 : row ++ readN y k p = R) (h4 : (y.length : Int) + 1 ≤ k + p) (hlt : p < (y.length : Int)) (hL : fitsL y p = []) (hg : isGap (Txt.item y p) = true) :
    ∃ k' : Nat, (y.length : Int) + 1 ≤ k' + (p + 1) ∧ row ++ readN y k' (p + 1) = R := by
  cases k with
  | zero => omega
  | succ k =>
    refine ⟨k, by omega, ?_⟩
    rw [readN_succ, if_pos hlt, hL] at h5
    simpa only [hg, if_true] using h5
theorem read_odd {y : Str} {p : Int} {row R : List Int} {k : Nat} (h5 : row ++ readN y k p = R) (h4 : (y.length : Int) + 1 ≤ k + p) (hlt : p < (y.length : Int)) (hL : fitsL y p = []) (hg : isGap (Txt.item y p) = false) :
    ∃ k' : Nat, (y.length : Int) + 1 ≤ k' + (p + 1) ∧ (row ++ [0]) ++ readN y k' (p + 1) = R := by
  cases k with
  | zero => omega
  | succ k =>
    refine ⟨k, by omega, ?_⟩
    rw [readN_succ, if_pos hlt, hL] at h5
    simp only [hg, Bool.false_eq_true, if_false] at h5
    rw [List.append_assoc]
    exact h5
theorem read_end {y : Str} {p : Int} {row R : List Int} {k : Nat} (h5 : row ++ readN y k p = R) (hlt : ¬ p < (y.length : Int)) : row = R := by
  cases k with
  | zero => rwa [readN_zero, List.append_nil] at h5
  | succ k => rwa [readN_succ, if_neg hlt, List.append_nil] at h5
theorem ints_snoc {i : Int} {t : Tok} : ∀ {vs : List Value} {ns : List Int}, IntsAre vs ns → IntsAre (vs ++ [.int i t]) (ns ++ [i])
  | _, _, .nil => .cons i t .nil
  | _, _, .cons j u r => .cons j u (ints_snoc r)
noncomputable def rowF (x : Str) : List Int := readN (seenF x) ((seenF x).length + 1) 0
noncomputable abbrev ListRet (h₀ : Heap) (L : Addr) (m : Str → Option Value) (own : List (Addr × Obj)) (s : Shared) (Q : Value → Shared → Prop) (ns : List Int) : Prop :=
  ∀ (D : Addr) (vs' : List Value) (n : Nat) (h' : Heap) (tk' : Nat), IntsAre vs' ns → AllLt D own → Fr h₀ L h' m → News h₀ L h' ((D, W.listOf vs'.toArray n) :: own) → Q (.ref D) { s with heap := h', toks := tk' }
structure RS where
  vs : List Value
  row : List Int
  n : Nat
  o : Obj
  p : Int
  t : Tok
section
variable {lp : Program} {w : World} {loose : List Str} {mean : ExcName → Option Value} {mg mb : Str → Option Value}
local macro_rules | `(tactic| k_all) => `(tactic| (refine' own_ne ?a ?b; (case a => assumption); (case b => (try dsimp only); omega)))
local macro_rules | `(tactic| walk_at "compareOp NotEq ref ref") => `(tactic| (k_here; (fail_if_success (have hm : MarkX := by assumption)); (refine stop ?_)))
local macro_rules | `(tactic| walk_at "subscriptTail") => `(tactic| (k_here; (with_reducible show wpAny _ _ (subscriptTail _ _ (Value.ref 162) (Value.str _ _)) _ _ _); (refine stop ?_)))
local macro_rules | `(tactic| walk_at "loadName") => `(tactic| (k_here; k_dflt (refine' loadX_C ?N ?c ?m ?d ?_ ?a ?b; (case a => rfl); (case b => rfl); (case N => k_asm); (case c => rfl); (case m => k_mem); (case d => k_asm); k_whole)))
local macro_rules | `(tactic| walk_at $k:str) => if ["eval ListComp", "exec Assign cons ListComp", "KswPost", "compareOp In str ref", "exec While", "call builtin:str.join"].contains k.getString then `(tactic| (k_here; (refine stop ?_))) else Lean.Macro.throwUnsupported
local macro_rules | `(tactic| walk_at "call ref") => `(tactic| (k_here; refine stop ?_))
theorem c_read (x : Str) (tx : Tok) (own : CbLed) (hx : x.length ≤ 40) : CallClaim LP w (LK w) lp loose mean mg mb 183 own [.str x tx] (fun base _ _ => True)
    (fun h₀ L m s Q => ListRet h₀ L m own s Q (rowF x)) := by
  dsimp only [CallClaim, ListRet, LK, LP]; k_fill; intros; rename_i _ _ hret
  unfold rowF at hret
  refine wpAny_call ?_
  k_dflt (refine' code_defC ?k1 ?k2 ?k3 ?k4 ?k5 ?kA ?kF ?kK ?k6 ?k7 ?k8 ?k9 ?kB ?kD ?_ ?c2 ?c3 ?c4; (case kA => exact rfl); (case kF => exact rfl); (case kK => assumption); (case k1 => k_asm); (case k2 => k_asm); (case k3 => k_asm); (case k4 => k_asm); (case k5 => k_asm); (case k6 => k_is); (case k7 => k_is); (case k8 => ktr_room); (case k9 => exact BindsTo.of_eq rfl); (case kB => exact rfl); (case kD => decide +kernel); (case c2 => exact rfl); (case c3 => exact rfl); (case c4 => exact rfl); k_whole; intro g' L' h' tk' cells' FG' F' N' Y' B' X' T' l1; (try k_lt l1); k_cells Y'; (try simp only [List.cons_append, List.nil_append] at N'); (try dsimp only); (try k_lift B'); (try k_fold))
  rename_i o' o2' o3'
  have hOwn : AllLt L' own := allLt_of l1
  k_steps
  unfold Stop
  k_dflt (refine ListComp_G (by k_asm) (by with_unfolding_all rfl) (by decide) (by rfl) (by decide) (by rfl) ?_)
  k_steps
  k_dflt (refine' srcG_str ?hh ?F ?N ?hsz (fun i ys => StrsAre ys (filtN x i)) ?turn ?fin ?h0)
  case hh => exact rfl
  case F => k_asm
  case N => k_asm
  case hsz => exact Nat.le_trans hx (by decide)
  case h0 => exact StrsAre.nil
  case turn =>
    intro g9 i9 ys9 c9 u9 hi9 I9 hc9 I' oI' C' oC' D' m' h' tk' E' hC' hx' F' N' off' ne'
    k_steps
    unfold Stop
    k_dflt (refine' use_b ?hA (c_b1 _ _ _) ?B ?F ?X ?N ?T ?hk ?hp ?hd ?hu ?h)
    case F => k_asm
    case B => k_asm
    case X => k_asm
    case N => k_asm
    case T => k_asm
    case hA => exact rfl
    case hk => exact rfl
    case hp => exact rfl
    case hd => ktr_room
    case hu => ktr_units
    case h =>
      intro t8 h8 tk8 F8 N8
      (try dsimp only)
      k_steps
      · refine LCg.CompEnd.intro (by k_asm) (by k_asm) _ (fun _ h => h) off' trivial ⟨rfl, ?_⟩
        rw [filtN_skip hc9 (by assumption)]
        exact I9
      · refine LCg.CompEnd.intro (by k_asm) (by k_asm) _ (fun _ h => h) off' trivial ⟨rfl, ?_⟩
        rw [filtN_keep hc9 (by assumption)]
        exact kct_snoc I9
  case fin =>
    intro g9 ys9 I9
    unfold LCg.FinE
    intro D' h' tk' F' N' o1'
    simp only [LCg.Off1, and_true] at o1'
    (try dsimp only)
    (try k_fold)
    k_steps
    unfold Stop
    refine join_list (News.isList (by k_asm) (by k_mem)) (by simpa using I9) ?_ ?_
    · exact filtN_fits x hx
    intro t7 k7
    rw [join_seen]
    have hyl := seenF_len x hx
    generalize seenF x = y at hyl hret ⊢
    (try dsimp only)
    k_steps
    unfold Stop
    rename_i oS dS tkA lR hA lrow hB hC oP F0 N0 dP
    k_dflt (refine' ksw_while (fun c : RS => (lR, W.listOf c.vs.toArray c.n) :: (D', LCg.lst ys9) :: (L' + 1 + 1, c.o) :: (L' + 1, oS) :: own) (fun _ => []) (fun c => IntsAre c.vs c.row ∧ c.o.data = .cell (some (.int c.p c.t))) [Str.ofString "sign", Str.ofString "fits"] (fun c => 0 ≤ c.p ∧ c.p ≤ ((y).length : Int) ∧ (c.row.length : Int) ≤ c.p ∧ ∃ k : Nat, ((y).length : Int) + 1 ≤ k + c.p ∧ c.row ++ readN (y) k c.p = readN (y) ((y).length + 1) 0) (fun c => ((y).length + 1 - c.p).toNat) ⟨[], [], 0, oP, 0, tk⟩ ?F ?N ?hf ?hk ?hp ?turn ?hE)
    case F => k_asm
    case N => k_asm
    case hf => exact ⟨IntsAre.nil, dP⟩
    case hk => exact fun _ h => nomatch h
    case hp => (dsimp only; exact ⟨by decide, by omega, by decide, y.length + 1, by omega, rfl⟩)
    case hE => first | passes_own | with_unfolding_all passes_own
    case turn =>
      intro c u9 h9 tk9 hf9 hp9 F9 N9
      obtain ⟨vs, row, n, o, p, t⟩ := c
      dsimp only at hf9 hp9 F9 N9
      obtain ⟨hi9, hd9⟩ := hf9
      obtain ⟨hp1, hp2, hp3, k9, hp4, hp5⟩ := hp9
      k_steps
      · unfold Stop
        k_dflt (refine Assign_ListComp_G (by k_asm) (by rfl) (by with_unfolding_all rfl) (by with_unfolding_all rfl) (by decide) (by rfl) (by decide) (by rfl) (by rfl) (by rfl) ?_)
        k_steps
        k_dflt (refine' srcG_tuple ?hh ?F ?N ?ht ?hsz (fun i ys => StrsAre ys (fitN y p i)) ?turn ?fin ?h0)
        case hh => exact rfl
        case F => k_asm
        case N => k_asm
        case ht => exact ⟨_, by k_mem, rfl, _, rfl⟩
        case hsz => exact Nat.le_of_ble_eq_true rfl
        case h0 => exact StrsAre.nil
        case turn =>
          intro g8 i8 ys8 v8 hi8 I8 hv8 I' oI' C' oC' D' m' h' tk' E' hC' hx' F' N' off' ne'
          have hv7 := three_at hv8
          obtain ⟨k8, t8, rfl, hk1, hk2, hk3⟩ := hv7
          k_steps
          unfold Stop
          k_dflt (refine' tabIn_K ?F ?X ?hl ?hk ?lo ?ht ?h)
          case F => k_asm
          case X => k_asm
          case hl => k_is
          case hk => k_keys
          case lo => rfl
          case ht => kernel_rfl!
          case h =>
            k_steps
            · refine LCg.CompEnd.intro (by k_asm) (by k_asm) _ (fun _ h => h) off' ⟨_, by k_mem, rfl, _, rfl⟩ ⟨rfl, ?_⟩
              rw [fitN_keep hk3 (by assumption)]
              exact kct_snoc I8
            · refine LCg.CompEnd.intro (by k_asm) (by k_asm) _ (fun _ h => h) off' ⟨_, by k_mem, rfl, _, rfl⟩ ⟨rfl, ?_⟩
              rw [fitN_skip hk3 (by assumption)]
              exact I8
        case fin =>
          intro g8 ys8 I8
          unfold LCg.FinA
          intro D' h' tk' F' N' o1'
          simp only [LCg.Off1, and_true] at o1'
          have I7 : StrsAre ys8 (fitsL y p) := by unfold fitsL; exact I8
          (try dsimp only)
          (try k_fold)
          cases hL : fitsL y p with
          | nil =>
            rw [hL] at I7
            cases I7
            have hm : MarkX := ⟨⟩
            k_steps
            unfold Stop
            k_dflt (refine' use_b ?hA (c_c6 _ _ _) ?B ?F ?X ?N ?T ?hk ?hp ?hd ?hu ?h)
            case F => k_asm
            case B => k_asm
            case X => k_asm
            case N => k_asm
            case T => k_asm
            case hA => exact rfl
            case hk => exact rfl
            case hp => exact rfl
            case hd => ktr_room
            case hu => ktr_units
            case h =>
              intro t5 h5 tk5 F5 N5
              (try dsimp only)
              k_steps
              · unfold Stop
                show KswEnd _ _ _ _ _ _ _ _ _ _ _ _
                refine ksw_end ⟨vs, row, n, _, p + 1, _⟩ (by k_asm) (by k_asm) (by kcj_all) ⟨hi9, by assumption⟩ (fun _ h => nomatch h) ?_ ⟨by dsimp only; omega, by dsimp only; omega, by dsimp only; omega, read_gap hp5 hp4 (by assumption) hL (by simp [isGap, *])⟩ (by dsimp only; omega)
                (intro z _ h3; simp only [List.contains_cons, List.contains_nil, Bool.or_false, Bool.or_eq_false_iff, beq_eq_false_iff_ne, ne_eq] at h3; simp [kstB, h3])
              unfold Stop
              k_dflt (refine' use_b ?hA (c_c7 _ _ _) ?B ?F ?X ?N ?T ?hk ?hp ?hd ?hu ?h)
              case F => k_asm
              case B => k_asm
              case X => k_asm
              case N => k_asm
              case T => k_asm
              case hA => exact rfl
              case hk => exact rfl
              case hp => exact rfl
              case hd => ktr_room
              case hu => ktr_units
              case h =>
                intro t5 h5 tk5 F5 N5
                (try dsimp only)
                k_steps
                · unfold Stop
                  show KswEnd _ _ _ _ _ _ _ _ _ _ _ _
                  refine ksw_end ⟨vs, row, n, _, p + 1, _⟩ (by k_asm) (by k_asm) (by kcj_all) ⟨hi9, by assumption⟩ (fun _ h => nomatch h) ?_ ⟨by dsimp only; omega, by dsimp only; omega, by dsimp only; omega, read_gap hp5 hp4 (by assumption) hL (by simp [isGap, *])⟩ (by dsimp only; omega)
                  (intro z _ h3; simp only [List.contains_cons, List.contains_nil, Bool.or_false, Bool.or_eq_false_iff, beq_eq_false_iff_ne, ne_eq] at h3; simp [kstB, h3])
                unfold Stop
                k_dflt (refine' use_b ?hA (c_c9 _ _ _) ?B ?F ?X ?N ?T ?hk ?hp ?hd ?hu ?h)
                case F => k_asm
                case B => k_asm
                case X => k_asm
                case N => k_asm
                case T => k_asm
                case hA => exact rfl
                case hk => exact rfl
                case hp => exact rfl
                case hd => ktr_room
                case hu => ktr_units
                case h =>
                  intro t5 h5 tk5 F5 N5
                  (try dsimp only)
                  k_steps
                  · unfold Stop
                    show KswEnd _ _ _ _ _ _ _ _ _ _ _ _
                    refine ksw_end ⟨vs, row, n, _, p + 1, _⟩ (by k_asm) (by k_asm) (by kcj_all) ⟨hi9, by assumption⟩ (fun _ h => nomatch h) ?_ ⟨by dsimp only; omega, by dsimp only; omega, by dsimp only; omega, read_gap hp5 hp4 (by assumption) hL (by simp [isGap, *])⟩ (by dsimp only; omega)
                    (intro z _ h3; simp only [List.contains_cons, List.contains_nil, Bool.or_false, Bool.or_eq_false_iff, beq_eq_false_iff_ne, ne_eq] at h3; simp [kstB, h3])
                  · unfold Stop
                    show KswEnd _ _ _ _ _ _ _ _ _ _ _ _
                    rename News _ _ _ _ => N4
                    rw [List.push_toArray] at N4
                    refine ksw_end ⟨vs ++ [.int 0 _], row ++ [0], n + 1, _, p + 1, _⟩ (by k_asm) (by k_asm) (by kcj_all) ⟨ints_snoc hi9, by assumption⟩ (fun _ h => nomatch h) ?_ ⟨by dsimp only; omega, by dsimp only; omega, by simp only [List.length_append, List.length_cons, List.length_nil]; omega, read_odd hp5 hp4 (by assumption) hL (by simp [isGap, *])⟩ (by dsimp only; omega)
                    (intro z _ h3; simp only [List.contains_cons, List.contains_nil, Bool.or_false, Bool.or_eq_false_iff, beq_eq_false_iff_ne, ne_eq] at h3; simp [kstB, h3])
          | cons f r =>
            rw [hL] at I7
            cases I7 with
            | cons _ uf I6 =>
            obtain ⟨i5, hi5, hf1, hf2, hf3⟩ := fits_mem hp1 hp2 hL
            k_steps
            unfold Stop
            refine cmp_ofNotEq (PySem.SeqAt.RcNeAt.lists_lengths (News.isList (by k_asm) (by k_mem)) (News.isList (by k_asm) (by k_mem)) (by simp) (by ktr_units) _ _ _ _ ?_)
            k_steps
            unfold Stop
            k_dflt (refine' tabItem_K ?F ?X ?hl ?hk ?ht ?hx ?h)
            case F => k_asm
            case X => k_asm
            case hl => k_is
            case hk => k_keys
            case ht => kernel_rfl!
            case hx => exact hi5
            case h =>
              intro u7
              k_steps
              unfold Stop
              show KswEnd _ _ _ _ _ _ _ _ _ _ _ _
              refine ksw_end ⟨vs ++ [.int i5 u7], row ++ [i5], n + 1, _, p + (f.length : Int), _⟩ (by k_asm) (by k_asm) (by kcj_all) ⟨ints_snoc hi9, by assumption⟩ (fun _ h => nomatch h) ?_ ⟨by dsimp only; omega, by dsimp only; omega, by simp only [List.length_append, List.length_cons, List.length_nil]; omega, read_hit hp5 hp4 (by assumption) hL hi5 hf1⟩ (by dsimp only; omega)
              (intro z _ h3; simp only [List.contains_cons, List.contains_nil, Bool.or_false, Bool.or_eq_false_iff, beq_eq_false_iff_ne, ne_eq] at h3; simp [kstB, h3])
      · have hr := read_end hp5 (by assumption)
        subst hr
        exact hret _ _ _ _ _ hi9 lrow.2.2.2 (by assumption) (cb_drop (by assumption) (by kcj_all))
end
end
end Mine
end
section
open PySem PySem.W PyProof.Rows PySem.Builtin PySem.Builtin.Str
namespace Mine
noncomputable section
section
variable {prog : Program} {w : World} {A : Around} {E : Value → Shared → Prop} {s : Shared} {env : Env} {h₀ : Heap} {x : Str} {body : List Stmt} {Q : Flow → Shared → Prop}
theorem str_inv {σ : Type} {y : Str} {t : Tok} {m₀ : Str → Option Value} (Led : σ → List (Addr × Obj)) (ps : σ → List (Str × Value)) (Facts : σ → Prop) (stored : List Str) (P : Nat → σ → Prop) (c₀ : σ)
    (hh : A.handled = none) (F : Fr h₀ env.locals s.heap m₀) (N : News h₀ env.locals s.heap (Led c₀)) (hf : Facts c₀) (hk : ∀ p ∈ ps c₀, m₀ p.1 = some p.2) (hp : P 0 c₀)
    (turn : ∀ (c : σ) (i ch : Nat) (t' : Tok) (u : Str → Option Value) h tk own, y.cps[i]? = some ch → OwnOff own ((Led c).map (·.1)) → Facts c → P i c →
      Fr h₀ env.locals h (fun z => if z = x then some (.str ⟨#[ch]⟩ t') else kstB (fun z => if stored.contains z then u z else m₀ z) (ps c) z) → News h₀ env.locals h (Led c ++ own) →
      wpAny (model prog w) A (execs body env) (InvPostG h₀ env.locals (KstS Led ps Facts x stored m₀ (fun _ => P (i + 1)) []) own { s with heap := h, toks := tk } Q) E { s with heap := h, toks := tk })
    (done : ∀ (c : σ) (u : Str → Option Value) h tk, Facts c → P y.cps.size c → Fr h₀ env.locals h (fun z => if z = x then u z else kstB (fun z => if stored.contains z then u z else m₀ z) (ps c) z) → News h₀ env.locals h (Led c) → Q .next { s with heap := h, toks := tk }) :
    wpAny (model prog w) A (pyIter (.str y t)) (fun it s₂ => LoopAtV prog w A h₀ env x body Q E it s₂) E s := by
  have fit : ∀ T, Walks prog w A s.heap.objs.size [s.heap.objs.size] [s.heap.objs.size] y.cps.size (SignAt y) (fun i h => h.IsStrIter s.heap.objs.size T y t i) → LoopAtV prog w A h₀ env x body Q E (.ref s.heap.objs.size) { s with heap := s.heap.push { cls := .type T, data := .fields #[.str y t, .int 0 0] } } := fun T W => by
    refine kdr_loop (fun i m nx => KstS Led ps Facts x stored m₀ (fun _ => P i) [] m nx) W (fun _ h => h) (fun _ h => h) ?_ ?_ ?_ ?_ ⟨_, Heap.get?_push_size _ rfl, rfl, rfl⟩ (F.push _) (fun p hp => ⟨Heap.get?_push_of_some _ (N p hp).1, (N p hp).2⟩) ⟨c₀, rfl, hf, hk, fun _ _ _ _ => rfl, hp⟩ ?_ ?_
    · intro i h hi b hb
      rw [List.mem_singleton.mp hb]
      obtain ⟨o, e, _⟩ := hi
      exact ⟨o, e⟩
    · intro hm
      exact absurd F.ns.lt ((List.mem_singleton.mp hm) ▸ Nat.lt_irrefl _)
    · intro b hb
      rw [List.mem_singleton.mp hb]
      exact next_is_new F
    · intro p hp hI
      exact absurd (Heap.lt_size (N p hp).1) ((List.mem_singleton.mp hI) ▸ Nat.lt_irrefl _)
    · rintro i v m₁ nx h tk own hi ⟨ch, t', hc, rfl⟩ hoff ⟨c, rfl, hf', h1, h2, hp'⟩ F₁ N₁
      exact turn c i ch t' m₁ h tk own hc hoff hf' hp' (kst_fr h1 h2 F₁) N₁
    · rintro m₁ nx h tk ⟨c, rfl, hf', h1, h2, hp'⟩ F₁ N₁
      exact done c m₁ h tk hf' hp' (kst_frOut h1 h2 F₁) N₁
  cases ha : y.cps.all (· < 128)
  · exact wpAny_pyIter_wide ha (fit _ (Walks.strWide hh _ y t))
  · exact wpAny_pyIter_ascii ha (fit _ (Walks.strAscii hh _ y t))
end
section
variable {prog : Program} {w : World} {A : Around} {E : Value → Shared → Prop} {s : Shared} {h₀ : Heap} {L : Addr} {m : Str → Option Value} {Q : Value → Shared → Prop}
theorem tup_mine {l : Addr} {vs : List Value} {news : List (Addr × Obj)} (Fh : Fr h₀ L s.heap m) (N : News h₀ L s.heap news) (hl : s.heap.IsList l vs.toArray) (hsz : vs.length ≤ sizeLine)
    (hQ : ∀ (D : Addr) h', Fr h₀ L h' m → News h₀ L h' ((D, { cls := .type "tuple", data := .seq vs.toArray }) :: news) → AllLt D news → Q (.ref D) { s with heap := h' }) :
    wpAny (model prog w) A (call (.type "tuple") [.ref l]) Q E s := by
  refine call_tuple_list hl (fun h' hk => ?_) (by rw [List.size_toArray]; exact hsz)
  have F' : Fr h₀ L h' m := Fh.keeps hk
  have N' : News h₀ L h' news := fun p hp => ⟨hk _ _ (N p hp).1, (N p hp).2⟩
  exact hQ _ _ (F'.push _) (N'.push F' _) (allLt_of fun p hp => Heap.lt_size (N' p hp).1)
end
/-- what the tabs and blanks of a lead come to: the counts of runs, the blanks behind the last tab, the tabs -/
noncomputable def wsStep (c : List Int × Int × Int) (ch : Nat) : List Int × Int × Int :=
  if ch = 32 then (c.1, c.2.1 + 1, c.2.2)
  else let k := if (c.1.length : Int) ≤ c.2.1 then c.1 ++ List.replicate (c.2.1 - c.1.length + 1).toNat 0 else c.1
    (k.set c.2.1.toNat (k.getD c.2.1.toNat 0 + 1), 0, c.2.2 + 1)
noncomputable def wsF (y : Str) (i : Nat) : List Int × Int × Int := (y.cps.toList.take i).foldl wsStep ([], 0, 0)
theorem wsF_succ {y : Str} {i ch : Nat} (h : y.cps[i]? = some ch) : wsF y (i + 1) = wsStep (wsF y i) ch := by
  unfold wsF
  rw [take_succ_of (by rw [Array.getElem?_toList]; exact h), List.foldl_append]
  rfl
theorem one_eq {ch k : Nat} {s : Str} (h : (({ cps := #[ch] } : Str) == s) = true) (hs : s = ⟨#[k]⟩) : ch = k := by
  have e := eq_of_beq h
  rw [hs] at e
  injection e with e
  injection e with e
  injection e
theorem ws_blank {y : Str} {i ch : Nat} {cnt : List Int} {b nt : Int} (e : (cnt, b, nt) = wsF y i) (hc : y.cps[i]? = some ch) (h : (({ cps := #[ch] } : Str) == Str.ofString " ") = true) : (cnt, b + 1, nt) = wsF y (i + 1) := by
  rw [wsF_succ hc, ← e, one_eq h (k := 32) (by decide)]
  rfl
theorem ws_tabN {y : Str} {i ch : Nat} {cnt : List Int} {b nt : Int} (e : (cnt, b, nt) = wsF y i) (hc : y.cps[i]? = some ch) (h : (({ cps := #[ch] } : Str) == Str.ofString "\t") = true) (hb : (cnt.length : Int) ≤ b) :
    ((cnt ++ (List.replicate (b - (cnt.length : Int) + 1).toNat [(0 : Int)]).flatten).set b.toNat ((cnt ++ (List.replicate (b - (cnt.length : Int) + 1).toNat [(0 : Int)]).flatten).getD b.toNat 0 + 1), (0 : Int), nt + 1) = wsF y (i + 1) := by
  rw [wsF_succ hc, ← e, one_eq h (k := 9) (by decide), List.flatten_replicate_singleton]
  unfold wsStep
  rw [if_neg (by decide)]
  simp only [if_pos hb]
theorem ws_tabO {y : Str} {i ch : Nat} {cnt : List Int} {b nt : Int} (e : (cnt, b, nt) = wsF y i) (hc : y.cps[i]? = some ch) (h : (({ cps := #[ch] } : Str) == Str.ofString "\t") = true) (hb : ¬ (cnt.length : Int) ≤ b) :
    (cnt.set b.toNat (cnt.getD b.toNat 0 + 1), (0 : Int), nt + 1) = wsF y (i + 1) := by
  rw [wsF_succ hc, ← e, one_eq h (k := 9) (by decide)]
  unfold wsStep
  rw [if_neg (by decide)]
  simp only [if_neg hb]
theorem allLt_app {d : Addr} : ∀ {l k : List (Addr × Obj)}, AllLt d (l ++ k) → AllLt d l ∧ AllLt d k
  | [], _, h => ⟨trivial, h⟩
  | _ :: _, _, h => ⟨⟨h.1, (allLt_app h.2).1⟩, (allLt_app h.2).2⟩
theorem own_new {own4 own : List (Addr × Obj)} {ca D2 : Addr} {rest : List Addr} (off : OwnOff own4 (ca :: rest)) (h : AllLt D2 (own ++ own4)) : OwnOff own4 (D2 :: rest) := by
  intro p hp b hb
  rcases List.mem_cons.mp hb with rfl | hb
  · exact off_of_lt (allLt_app h).2 p hp b (.head _)
  · exact off p hp b (.tail _ hb)
noncomputable abbrev wsDict (P : Params) (k1 k2 k3 k4 k5 : Tok) (raw n nt norm sm : Value) : Obj :=
  dictOf [{ hash := PyData.keyHash P (Str.ofString "raw"), key := .str (Str.ofString "raw") k1, val := raw }, { hash := PyData.keyHash P (Str.ofString "n"), key := .str (Str.ofString "n") k2, val := n }, { hash := PyData.keyHash P (Str.ofString "nt"), key := .str (Str.ofString "nt") k3, val := nt },
    { hash := PyData.keyHash P (Str.ofString "norm"), key := .str (Str.ofString "norm") k4, val := norm }, { hash := PyData.keyHash P (Str.ofString "is_simple"), key := .str (Str.ofString "is_simple") k5, val := sm }] 5
/-- an object of Whitespace, with all that hangs on it -/
noncomputable abbrev wsLed (P : Params) (X dX Dn DT : Addr) (k1 k2 k3 k4 k5 tn tb : Tok) (raw n sm : Value) (vs : List Value) (b nt : Int) : List (Addr × Obj) :=
  [(Dn, ({ cls := .type "tuple", data := .seq #[.ref DT, .int b tb] } : Obj)), (DT, ({ cls := .type "tuple", data := .seq vs.toArray } : Obj)), (X, instObj 83 dX), (dX, wsDict P k1 k2 k3 k4 k5 raw n (.int nt tn) (.ref Dn) sm)]
noncomputable abbrev WsRet (P : Params) (h₀ : Heap) (L : Addr) (m : Str → Option Value) (own : List (Addr × Obj)) (s : Shared) (Q : Value → Shared → Prop) (x : Str) : Prop :=
  ∀ (X dX Dn DT : Addr) (k1 k2 k3 k4 k5 tn tb : Tok) (raw n sm : Value) (vs : List Value) (cnt : List Int) (b nt : Int) (h' : Heap) (tk' : Nat), (cnt, b, nt) = wsF x x.cps.size → IntsAre vs cnt → 0 ≤ b → b ≤ 10 → cnt.length ≤ 10 → 0 ≤ nt → nt ≤ 10 →
    @LT.lt Nat _ dX X → @LT.lt Nat _ X DT → @LT.lt Nat _ DT Dn → AllLt dX own → Fr h₀ L h' m → News h₀ L h' (wsLed P X dX Dn DT k1 k2 k3 k4 k5 tn tb raw n sm vs b nt ++ own) → Q (.ref X) { s with heap := h', toks := tk' }
structure WSt where
  a : Addr
  vs : List Value
  cap : Nat
  cnt : List Int
  b : Int
  nt : Int
  n : Int
  tb : Tok
  tn : Tok
  tnt : Tok
section
variable {lp : Program} {w : World} {loose : List Str} {mean : ExcName → Option Value} {mg mb : Str → Option Value}
local macro_rules | `(tactic| k_all) => `(tactic| (refine' own_ne ?a ?b; (case a => assumption); (case b => (try dsimp only); omega)))
local macro_rules | `(tactic| k_all) => `(tactic| (refine' List.forall_mem_append.mpr ⟨?a, ?b⟩; (case a => k_all); (case b => k_all)))
local macro_rules | `(tactic| walk_at $k:str) => if ["call type:tuple", "InvPostG"].contains k.getString then `(tactic| (k_here; (refine stop ?_))) else Lean.Macro.throwUnsupported
local macro_rules | `(tactic| walk_at "pyIter str") => `(tactic| (k_here; refine stop ?_))
theorem c_ws (x : Str) (tx : Tok) (own : CbLed) (hx : x.length ≤ 10) (hc : ∀ ch ∈ x.cps.toList, ch = 32 ∨ ch = 9) : CallClaim LP w (LK w) lp loose mean mg mb 83 own [.str x tx] (fun base _ _ => True)
    (fun h₀ L m s Q => WsRet w.params h₀ L m own s Q x) := by
  dsimp only [CallClaim, WsRet, LK, LP]; k_fill; intros; rename_i _ _ hret
  k_dflt (refine' call_cls ?k1 ?k2 ?k3 ?k4 ?k5 ?k6 ?_; (case k1 => k_asm); (case k2 => k_asm); (case k3 => k_asm); (case k4 => k_is); (case k5 => k_is); (case k6 => k_is); k_whole)
  intro x' d' h' F' N' l1 l2
  (try k_lt l1); (try k_lt2 l2); (try k_sweep)
  k_dflt (refine' code_def ?k1 ?k2 ?k3 ?k4 ?k5 ?kA ?kF ?kK ?k6 ?k7 ?k8 ?k9 ?kB ?_ ?c2 ?c3 ?c4 ?c5; (case kA => exact rfl); (case kF => exact rfl); (case kK => assumption); (case k1 => k_asm); (case k2 => k_asm); (case k3 => k_asm); (case k4 => k_asm); (case k5 => k_asm); (case k6 => k_is); (case k7 => k_is); (case k8 => first | ktr_room | trace_state); (case k9 => exact BindsTo.of_eq rfl); (case c5 => decide); (case kB => exact locs rfl); (case c2 => exact rfl); (case c3 => exact rfl); (case c4 => exact rfl); k_whole; intro g' L' h' FG' F' N' B' X' T'; (try dsimp only); (try k_lift B'); (try k_fold))
  k_steps
  unfold Stop
  rename_i tkA hA D hB lD hC hD' hE tkB lC hF llC hG hH hI hJ F0 N0
  k_dflt (refine' str_inv (fun c : WSt => (c.a, W.listOf c.vs.toArray c.cap) :: (D, ({ cls := Value.type "tuple", data := Data.seq #[Value.str (Str.ofString " ") 209, Value.str (Str.ofString "\t") 210] } : Obj)) :: (x', instObj 83 d') :: (d', dictOf [{ hash := PyData.keyHash w.params (Str.ofString "raw"), key := Value.str (Str.ofString "raw") (tkA + 1), val := Value.str x tx }] 1) :: own) (fun c : WSt => [(Str.ofString "nt", .int c.nt c.tnt), (Str.ofString "n", .int c.n c.tn), (Str.ofString "b", .int c.b c.tb), (Str.ofString "count", .ref c.a)]) (fun c => IntsAre c.vs c.cnt ∧ @LT.lt Nat _ D c.a ∧ @LT.lt Nat _ x' c.a ∧ @LT.lt Nat _ d' c.a ∧ AllLt c.a own) [] (fun i c => (c.cnt, c.b, c.nt) = wsF x i ∧ 0 ≤ c.b ∧ c.b ≤ i ∧ c.cnt.length ≤ i ∧ 0 ≤ c.nt ∧ c.nt ≤ i ∧ 0 ≤ c.n ∧ c.n ≤ i) ⟨lC, [], 0, [], 0, 0, 0, tk, tk, tk⟩ ?hh ?F ?N ?hf ?hk ?hp ?turn ?done)
  case hh => exact rfl
  case F => k_asm
  case N => k_asm
  case hf => exact ⟨.nil, llC⟩
  case hk => (dsimp only; kst_all)
  case hp => dsimp only; exact ⟨rfl, by decide, by decide, by decide, by decide, by decide, by decide, by decide⟩
  case turn =>
    intro c i ch t4 u4 h4 tk4 own4 hch4 off4 hf4 hp4 F4 N4
    obtain ⟨ca, cvs, ccap, ccnt, cb, cnt, cn, ctb, ctn, ctnt⟩ := c
    dsimp only at hf4 hp4 F4 N4 off4
    obtain ⟨i4, a1, a2, a3, a4⟩ := hf4
    obtain ⟨e4, b1, b2, b3, b4, b5, b6, b7⟩ := hp4
    simp only [kstB] at F4
    simp only [List.cons_append] at N4
    have hMk : KstMark := kstMark
    have hlv : cvs.length = ccnt.length := i4.length
    have hi10 : i < 10 := Nat.lt_of_lt_of_le (by obtain ⟨hh9, _⟩ := Array.getElem?_eq_some_iff.mp hch4; exact hh9) hx
    k_steps
    · unfold Stop
      show InvEndG _ _ _ _ _ _
      refine InvEndG.intro (by k_asm) (by k_asm) ⟨⟨ca, cvs, ccap, ccnt, cb + 1, cnt, cn + 1, _, _, _⟩, rfl, ⟨i4, a1, a2, a3, a4⟩, by dsimp only; kst_all, (by intro z hz hps _; simp only [List.forall_mem_cons, List.not_mem_nil, false_implies, implies_true, and_true, ne_eq] at hps; simp [hz, hps]), ⟨ws_blank e4 hch4 (by assumption), by dsimp only; omega, by dsimp only; omega, by dsimp only; omega, by dsimp only; omega, by dsimp only; omega, by dsimp only; omega, by dsimp only; omega⟩⟩ off4 (by kcj_all) (by intro p9 h9; kst_mem)
    · unfold Stop
      rename (_ ∧ _ ∧ _ ∧ _ ∧ _ ∧ _ ∧ AllLt _ (own ++ own4)) => lN
      show InvEndG _ _ _ _ _ _
      refine InvEndG.intro (by k_asm) (by k_asm) ⟨⟨_, _, 0, (ccnt ++ (List.replicate (cb - (ccnt.length : Int) + 1).toNat [(0 : Int)]).flatten).set cb.toNat ((ccnt ++ (List.replicate (cb - (ccnt.length : Int) + 1).toNat [(0 : Int)]).flatten).getD cb.toNat 0 + 1), 0, cnt + 1, cn + 1, _, _, _⟩, rfl, ⟨by assumption, lN.2.2.2.1, lN.2.2.2.2.1, lN.2.2.2.2.2.1, (allLt_app lN.2.2.2.2.2.2).1⟩, by dsimp only; kst_all, (by intro z hz hps _; simp only [List.forall_mem_cons, List.not_mem_nil, false_implies, implies_true, and_true, ne_eq] at hps; simp [hz, hps]), ⟨ws_tabN e4 hch4 (by assumption) (by assumption), by dsimp only; omega, by dsimp only; omega, by dsimp only; simp only [List.length_set, List.length_append, List.flatten_replicate_singleton, List.length_replicate]; omega, by dsimp only; omega, by dsimp only; omega, by dsimp only; omega, by dsimp only; omega⟩⟩ (own_new off4 lN.2.2.2.2.2.2) (by kcj_all) (by intro p9 h9; kst_mem)
    · unfold Stop
      rename IntsAre (List.set cvs _ _) _ => i8
      show InvEndG _ _ _ _ _ _
      refine InvEndG.intro (by k_asm) (by k_asm) ⟨⟨ca, _, ccap, ccnt.set cb.toNat (ccnt.getD cb.toNat 0 + 1), 0, cnt + 1, cn + 1, _, _, _⟩, rfl, ⟨i8, a1, a2, a3, a4⟩, by dsimp only; kst_all, (by intro z hz hps _; simp only [List.forall_mem_cons, List.not_mem_nil, false_implies, implies_true, and_true, ne_eq] at hps; simp [hz, hps]), ⟨ws_tabO e4 hch4 (by assumption) (by assumption), by dsimp only; omega, by dsimp only; omega, by dsimp only; simp only [List.length_set]; omega, by dsimp only; omega, by dsimp only; omega, by dsimp only; omega, by dsimp only; omega⟩⟩ off4 (by kcj_all) (by intro p9 h9; kst_mem)
    · exfalso
      have hm := hc ch (List.mem_of_getElem? (by rw [Array.getElem?_toList]; exact hch4))
      rcases hm with rfl | rfl
      · rename ((({ cps := #[32] } : Str) == Str.ofString " ") = false) => hf9
        exact absurd hf9 (by decide)
      · rename ((({ cps := #[9] } : Str) == Str.ofString "\t") = false) => hf9
        exact absurd hf9 (by decide)
  case done =>
    intro c u4 h4 tk4 hf4 hp4 F4 N4
    obtain ⟨ca, cvs, ccap, ccnt, cb, cnt, cn, ctb, ctn, ctnt⟩ := c
    dsimp only at hf4 hp4 F4 N4
    obtain ⟨i4, a1, a2, a3, a4⟩ := hf4
    obtain ⟨e4, b1, b2, b3, b4, b5, b6, b7⟩ := hp4
    simp only [kstB] at F4
    have hMk : KstMark := kstMark
    have hlv : cvs.length = ccnt.length := i4.length
    have hi10 : x.cps.size ≤ 10 := hx
    k_steps
    unfold Stop
    refine tup_mine (by k_asm) (by k_asm) (News.isList (by k_asm) (by k_mem)) (by rw [hlv]; exact Nat.le_trans b3 (Nat.le_trans hi10 (by decide))) ?_
    intro DT h6 F6 N6 l6
    simp only [AllLt, and_true] at l6
    (try dsimp only)
    k_steps
    rename (_ ∧ _ ∧ _ ∧ _ ∧ _ ∧ AllLt _ own) => lN
    exact hret _ _ _ _ _ _ _ _ _ _ _ _ _ _ _ _ _ _ _ _ e4 i4 b1 (by omega) (by omega) b4 (by omega) l2 l6.2.2.1 lN.1 (allLt_of l1) (by assumption) (cb_drop (by assumption) (by kcj_all))
end
end
end Mine
end
section
open PySem PySem.W PyProof.Rows PySem.Builtin PySem.Builtin.Str
namespace Mine
noncomputable section
noncomputable def ilF (cnt : List Int) (far : Int) (pre : List Int) : Int := pre.foldl (fun a i => a + i.fdiv far * cnt.getD i.toNat 0) 0
theorem il_snoc {cnt : List Int} {far a k : Int} {pre : List Int} (h : a = ilF cnt far pre) : a + k.fdiv far * cnt.getD k.toNat 0 = ilF cnt far (pre ++ [k]) := by
  unfold ilF at *
  rw [List.foldl_append, ← h]
  rfl
section
variable {lp : Program} {w : World} {loose : List Str} {mean : ExcName → Option Value} {mg mb : Str → Option Value}
local macro_rules | `(tactic| walk_at $k:str) => if ["pyIter ref", "call builtin:len"].contains k.getString then `(tactic| (k_here; (refine stop ?_))) else Lean.Macro.throwUnsupported
theorem c_ind (X dX Dn DT : Addr) (k1 k2 k3 k4 k5 tn tb : Tok) (raw n sm : Value) (vs : List Value) (cnt : List Int) (b nt : Int) (far : Int) (tf : Tok) (own : CbLed) (hi : IntsAre vs cnt) (hb0 : 0 ≤ b) (hb : b ≤ 10) (hl : cnt.length ≤ 10) (hn0 : 0 ≤ nt) (hn : nt ≤ 10) (hf1 : 1 ≤ far) (hf5 : far ≤ 5)
    (l1 : @LT.lt Nat _ dX X) (l2 : @LT.lt Nat _ X DT) (l3 : @LT.lt Nat _ DT Dn) :
    CallClaim LP w (LK w) lp loose mean mg mb 52 (wsLed w.params X dX Dn DT k1 k2 k3 k4 k5 tn tb raw n sm vs b nt ++ own) [.ref X, .int far tf] (fun base _ _ => True)
    (fun h₀ L m s Q => CbRet h₀ L m (wsLed w.params X dX Dn DT k1 k2 k3 k4 k5 tn tb raw n sm vs b nt ++ own) s Q (fun t => .int (b + far * (ilF cnt far (rangeKs far (cnt.length - far.toNat)) + nt)) t)) := by
  dsimp only [CallClaim, CbRet, LK, LP, wsLed]; k_fill; intros; rename_i _ _ hret
  simp only [List.cons_append, List.nil_append] at *
  have hlv : vs.length = cnt.length := hi.length
  refine wpAny_call ?_; k_dflt cell_enter
  k_steps
  unfold Stop
  refine PyProof.Rows.len_tuple (News.isTup (by k_asm) (by k_mem)) (by rw [List.size_toArray]; omega) ?_
  rw [List.size_toArray, hlv]
  (try dsimp only)
  k_steps
  unfold Stop
  (k_with "state" => (first
    | exact rfl
    | (rename (_ = ilF _ _ _) => hI; exact il_snoc hI)
))
  k_state (fun pre il => il = ilF cnt far pre) "il"
  · have hq0 : 0 ≤ kN.fdiv far := Int.fdiv_nonneg (by omega) (by omega)
    have hq1 : kN.fdiv far ≤ 10 := by
      rw [Int.fdiv_eq_ediv_of_nonneg _ (by omega)]
      exact Int.le_trans (Int.ediv_le_self _ (by omega)) (by omega)
    k_steps
  · k_steps
    exact cb_retI hret (by rw [kInv, show ((cnt.length : Int) - far).toNat = cnt.length - far.toNat from by omega]) (by assumption) (cb_drop (by assumption) (by kcj_all))
end
end
end Mine
end
section
open PySem PySem.Spec PySem.Calls PyProof.Rows PyProof.Rows.LCg PyProof.Rows.LCt
namespace Mine
section
variable {prog : Program} {w : World} {A : Around} {E : Value → Shared → Prop} {s : Shared} {h₀ : Heap} {L : Addr} {m : Str → Option Value} {env : Env}
theorem srcU_list {elt : Expr} {x : Str} {scope : Scope} {cl : List (Str × Addr)} {Fin : Shared → List Value → List (Addr × Obj) → Prop} {ax : Addr} {its : Array Value} {k : Nat} {news : List (Addr × Obj)} {s₁ : Shared}
    (hh : A.handled = none) (F : Fr h₀ L s₁.heap m) (N : News h₀ L s₁.heap news) (hm : (ax, ({ cls := .type "list", data := .seq its k } : Obj)) ∈ news) (hsz : its.size ≤ sizeLine) (Inv : Nat → List Value → Prop)
    (turn : ∀ (g : Heap) (i : Nat) (ys : List Value) (v : Value), i < its.size → Inv i ys → its[i]? = some v → ∀ I oI C oC D m₂ h tk (E' : Value → Shared → Prop), NsObj oC m₂ → m₂ x = some v → Fr h₀ L h m → News h₀ L h ((I, oI) :: (C, oC) :: (D, lst ys) :: news) → Off3 I C D news → ((@Ne Nat I C) ∧ (@Ne Nat I D) ∧ (@Ne Nat C D)) →
      wpAny (model prog w) A (eval elt (compEnvC scope cl C env)) (CompEnd h₀ L m { { s₁ with heap := g } with heap := h, toks := tk } I oI C oC D (lst ys) (SrcAt h₀ ax its) (fun y news' => news' = news ∧ Inv (i + 1) (ys ++ [y]))) E' { { s₁ with heap := g } with heap := h, toks := tk })
    (fin : ∀ g ys, Inv its.size ys → Fin { s₁ with heap := g } ys news) (h0 : Inv 0 []) : CompSrc prog w A h₀ L m env elt x scope cl Fin (.ref ax) s₁ := by
  refine CompSrc.ledger hh F N hm hsz fun g => ?_
  refine rest_inv (fun i ys nw => nw = news ∧ Inv i ys) ?_ ?_ _ _ _ _ (Nat.zero_add _) ⟨rfl, h0⟩
  · rintro i ys nw hi ⟨rfl, hI⟩ v I oI C oC D m₂ h tk E' hv hC hx F' N' off ne
    exact turn g i ys v hi hI hv I oI C oC D m₂ h tk E' hC hx F' N' off ne
  · rintro ys nw ⟨rfl, hI⟩
    exact fin g ys hI
theorem srcU_range {elt : Expr} {x : Str} {scope : Scope} {cl : List (Str × Addr)} {Fin : Shared → List Value → List (Addr × Obj) → Prop} {r : Addr} {a b : Int} {t u v : Tok} {n : Nat} {news : List (Addr × Obj)} {s₁ : Shared}
    (hh : A.handled = none) (F : Fr h₀ L s₁.heap m) (N : News h₀ L s₁.heap news) (hr : IsRange s₁.heap r a b 1 t u v) (hsm : Builtin.Range.small a b 1 = true) (hn : Builtin.Range.rangeSize a b 1 = ((n : Nat) : Int)) (hsz : n ≤ sizeLine) (Inv : Nat → List Value → Prop)
    (turn : ∀ (g : Heap) (i : Nat) (ys : List Value) (t' : Tok), i < n → Inv i ys → ∀ I oI C oC D m₂ h tk (E' : Value → Shared → Prop), NsObj oC m₂ → m₂ x = some (.int (a + (i : Int)) t') → Fr h₀ L h m → News h₀ L h ((I, oI) :: (C, oC) :: (D, lst ys) :: news) → Off3 I C D news → ((@Ne Nat I C) ∧ (@Ne Nat I D) ∧ (@Ne Nat C D)) →
      wpAny (model prog w) A (eval elt (compEnvC scope cl C env)) (CompEnd h₀ L m { { s₁ with heap := g } with heap := h, toks := tk } I oI C oC D (lst ys) (fun _ => True) (fun y news' => news' = news ∧ Inv (i + 1) (ys ++ [y]))) E' { { s₁ with heap := g } with heap := h, toks := tk })
    (fin : ∀ g ys, Inv n ys → Fin { s₁ with heap := g } ys news) (h0 : Inv 0 []) : CompSrc prog w A h₀ L m env elt x scope cl Fin (.ref r) s₁ := by
  refine CompSrc.range hh F N hr hsm hn hsz fun g => ?_
  refine rest_inv (fun i ys nw => nw = news ∧ Inv i ys) ?_ ?_ _ _ _ _ (Nat.zero_add _) ⟨rfl, h0⟩
  · rintro i ys nw hi ⟨rfl, hI⟩ v I oI C oC D m₂ h tk E' hv hC hx F' N' off ne
    obtain ⟨t', rfl⟩ := hv
    exact turn g i ys t' hi hI I oI C oC D m₂ h tk E' hC hx F' N' off ne
  · rintro ys nw ⟨rfl, hI⟩
    exact fin g ys hI
theorem srcT_range {ct elt : Expr} {x : Str} {scope : Scope} {cl : List (Str × Addr)} {Fin : Shared → List Value → List (Addr × Obj) → Prop} {r : Addr} {a b : Int} {t u v : Tok} {n : Nat} {news : List (Addr × Obj)} {s₁ : Shared}
    (hh : A.handled = none) (F : Fr h₀ L s₁.heap m) (N : News h₀ L s₁.heap news) (hr : IsRange s₁.heap r a b 1 t u v) (hsm : Builtin.Range.small a b 1 = true) (hn : Builtin.Range.rangeSize a b 1 = ((n : Nat) : Int)) (hsz : n ≤ sizeLine) (Inv : Nat → List Value → Prop)
    (turn : ∀ (g : Heap) (i : Nat) (ys : List Value) (t' : Tok), i < n → Inv i ys → ∀ I oI C oC D m₂ h tk (E' : Value → Shared → Prop), NsObj oC m₂ → m₂ x = some (.int (a + (i : Int)) t') → Fr h₀ L h m → News h₀ L h ((I, oI) :: (C, oC) :: (D, lst ys) :: news) → Off3 I C D news → ((@Ne Nat I C) ∧ (@Ne Nat I D) ∧ (@Ne Nat C D)) →
      wpAny (model prog w) A (isTrue ct (compEnvC scope cl C env) (eval ct (compEnvC scope cl C env))) (fun ok s' => if ok = true then
        wpAny (model prog w) A (eval elt (compEnvC scope cl C env)) (CompEnd h₀ L m { { s₁ with heap := g } with heap := h, toks := tk } I oI C oC D (lst ys) (fun _ => True) (fun y news' => news' = news ∧ Inv (i + 1) (ys ++ [y]))) E' s'
        else CompEnd h₀ L m { { s₁ with heap := g } with heap := h, toks := tk } I oI C oC D (lst ys) (fun _ => True) (fun _ news' => news' = news ∧ Inv (i + 1) ys) Value.none s') E' { { s₁ with heap := g } with heap := h, toks := tk })
    (fin : ∀ g ys, Inv n ys → Fin { s₁ with heap := g } ys news) (h0 : Inv 0 []) : CompSrcT prog w A h₀ L m env ct elt x scope cl Fin (.ref r) s₁ := by
  refine CompSrcT.range hh F N hr hsm hn hsz fun g => ?_
  refine restT_inv (fun i ys nw => nw = news ∧ Inv i ys) ?_ ?_ _ _ _ _ (Nat.zero_add _) ⟨rfl, h0⟩
  · rintro i ys nw hi ⟨rfl, hI⟩ v I oI C oC D m₂ h tk E' hv hC hx F' N' off ne
    obtain ⟨t', rfl⟩ := hv
    exact turn g i ys t' hi hI I oI C oC D m₂ h tk E' hC hx F' N' off ne
  · rintro ys nw ⟨rfl, hI⟩
    exact fin g ys hI
end
end Mine
end
section
open PySem PySem.Spec PySem.Calls PySem.W PyProof.Rows
namespace Mine
section
variable {prog : Program} {w : World} {A : Around} {E : Value → Shared → Prop} {s : Shared} {h₀ : Heap} {m : Str → Option Value} {env : Env} {Q : Flow → Shared → Prop}
/-- a for over a range whose target may be any (a cell's name): the turn begins with the assignment, and ends by its end -/
theorem for_range_any {target iter : Expr} {body : List Stmt} {pos : Pos} {a b : Int} {n : Nat} (_F₀ : Fr h₀ env.locals s.heap m) (J : Nat → (Str → Option Value) → List (Addr × Obj) → Prop)
    (h : wpAny (model prog w) A (eval iter env) (fun xv s₁ => ∃ (r : Addr) (t u v : Tok) (m₁ : Str → Option Value) (news : List (Addr × Obj)), xv = .ref r ∧ A.handled = none ∧ Fr h₀ env.locals s₁.heap m₁ ∧ News h₀ env.locals s₁.heap news ∧ IsRange s₁.heap r a b 1 t u v ∧ Builtin.Range.small a b 1 = true ∧ Builtin.Range.rangeSize a b 1 = ((n : Nat) : Int) ∧ J 0 m₁ news ∧
      (∀ (i : Nat) m₁ nx (sh : Shared) own t, i < n → J i m₁ nx → OwnOff own (nx.map (·.1)) → Fr h₀ env.locals sh.heap m₁ → News h₀ env.locals sh.heap (nx ++ own) →
        wpAny (model prog w) A (assign target env (.int (a + (i : Int)) t)) (fun _ s₂ => wpAny (model prog w) A (execs body env) (fun f s₃ => f = .next ∧ InvEndG h₀ env.locals (J (i + 1)) own sh s₃) E s₂) E sh) ∧
      (∀ m₁ nx h tk, J n m₁ nx → Fr h₀ env.locals h m₁ → News h₀ env.locals h nx → Q .next { s₁ with heap := h, toks := tk })) E s)
    (hgo : ∀ I v, letOwnedTupleGo target (.ref I) v = pure ()) (hE : PassesOwn (model prog w) A env E)
    (hs : ∀ x, foldedSetIterable iter env x = pure x) :
    wpAny (model prog w) A (exec (.For target iter body [] pos) env) Q E s := by
  refine For_invT h₀ (wpAny_mono h (fun xv s₁ h₁ => ?_) fun _ _ e => e) hs hE
  obtain ⟨r, t, u, v, m₁, news, rfl, hh, F, N, hr, hsm, hn, hj, step, done⟩ := h₁
  refine wpAny_pyIter_range hr hsm ?_
  refine ⟨s₁.heap.objs.size, [s₁.heap.objs.size], [s₁.heap.objs.size], n, _, _, m₁, news, J, rfl, LCg.range_walks hh a n, ?_, ?_, ?_, ?_, F.push _, (fun p hp => ⟨Heap.get?_push_of_some _ (N p hp).1, (N p hp).2⟩), ?_, hj, ?_, ?_⟩
  · intro hm
    exact absurd F.ns.lt ((List.mem_singleton.mp hm) ▸ Nat.lt_irrefl _)
  · intro b hb
    rw [List.mem_singleton.mp hb]
    exact next_is_new F
  · intro p hp hI
    exact absurd (Heap.lt_size (N p hp).1) ((List.mem_singleton.mp hI) ▸ Nat.lt_irrefl _)
  · show IsRangeIter _ _ _ _ _
    rw [hn]
    simpa using Heap.get?_push_size _ rfl
  · intro i s' v Q' _ hq
    rw [hgo]
    exact wpAny_pure hq
  · rintro i v m₂ nx s₂ own hi ⟨t', rfl⟩ hJ hoff hown hget hfp hst F₁ N₁
    have hsep : OwnOff own (nx.map (·.1)) := by
      intro p hp b' hb e
      obtain ⟨q, hq, rfl⟩ := List.mem_map.mp hb
      exact hoff q hq (e ▸ hown p hp)
    have N₂ : News h₀ env.locals s₂.heap (nx ++ own) := fun p hp => N₁ p ((List.mem_append.mp hp).elim (fun h => List.mem_append.mpr (.inr h)) fun h => List.mem_append.mpr (.inl h))
    refine wpAny_mono (step i m₂ nx s₂ own t' hi hJ hsep F₁ N₂) (fun _ s₃ hs₃ => wpAny_mono hs₃ (fun f s₄ p => ?_) fun _ _ e => e) fun _ _ e => e
    obtain ⟨rfl, h', tk, m', news', nx', e, F', N', hn', ho, ha, hm⟩ := p
    refine ⟨rfl, h', tk, m', nx', e, F', fun p hp => N' p ((List.mem_append.mp hp).elim (ho p) (hn' p)), fun p hp hq => ?_, hm⟩
    rw [List.mem_singleton] at hq
    have hI : ∃ o, s₂.heap.get? s₁.heap.objs.size = some o := ⟨_, hst⟩
    obtain ⟨o, hbo⟩ := hI
    exact ha _ (hfp _ (List.mem_singleton.mpr rfl) (next_is_new F) o hbo) p.1 (List.mem_map.mpr ⟨p, hp, rfl⟩) hq.symm
  · intro h' tk m' news' F' N' _ hJ
    exact done m' news' h' tk hJ F' N'
end
end Mine
end
section
open PySem PySem.W PyProof.Rows PySem.Builtin PySem.Builtin.Str
namespace Mine
noncomputable def textF (mt : List Int) : Str := ⟨(mt.map Int.toNat).toArray⟩
theorem join_text (mt : List Int) : Txt.join (Str.ofString "") (mt.map fun n => (⟨#[n.toNat]⟩ : Str)) = textF mt := by
  have h := join_nil_signs (textF mt)
  have e : signs (textF mt) = mt.map fun n => (⟨#[n.toNat]⟩ : Str) := by
    unfold signs textF
    rw [List.map_map]
    rfl
  rw [e] at h
  exact (beq_iff_eq.mp (join_closes (by decide))).trans h
end Mine
end
section
local macro_rules | `(tactic| omega) => `(tactic| grind)
section
open PySem PySem.W PyProof.Rows
namespace Mine
theorem meant_three (x : Int) : meantOf x = 16 ∨ meantOf x = 35 ∨ meantOf x = 38 := by
  unfold meantOf
  have h3 : x.fmod 3 = x % 3 := Int.fmod_eq_emod_of_nonneg x (by omega)
  rw [h3]
  have h : x % 3 = 0 ∨ x % 3 = 1 ∨ x % 3 = 2 := by omega
  rcases h with e | e | e <;> rw [e] <;> decide
theorem meant_in (ns : List Int) : ∀ v ∈ (rangeKs 0 10).map (fun i => meantOf (xv ns i)), v = 16 ∨ v = 35 ∨ v = 38 := by
  intro v hv
  obtain ⟨i, _, rfl⟩ := List.mem_map.mp hv
  exact meant_three _
/-- the i-th figure of a row's number -/
theorem valF_digit {mt : List Int} (h : ∀ v ∈ mt, 0 ≤ v ∧ v < 64) {n i : Nat} (hi : i < n) : valF mt 0 n / 64 ^ i % 64 = mt.getD i 0 := by
  have e : n = i + (n - i) := by omega
  obtain ⟨k, hk⟩ : ∃ k, n - i = k + 1 := ⟨n - i - 1, by omega⟩
  have hb := valF_bound h i 0
  have hd := getD_in (by decide) h i
  rw [e, valF_add, hk, Nat.zero_add, valF, Int.add_mul_ediv_left _ _ (Int.ne_of_gt (pow64 i)), Int.ediv_eq_zero_of_lt hb.1 hb.2]
  omega
theorem valF_over {mt : List Int} (h : ∀ v ∈ mt, 0 ≤ v ∧ v < 64) {n i : Nat} (hi : n ≤ i) : valF mt 0 n / 64 ^ i % 64 = 0 := by
  have hb := valF_bound h n 0
  have h2 : (64 : Int) ^ n ≤ 64 ^ i := by exact_mod_cast Nat.pow_le_pow_right (n := 64) (by decide) hi
  rw [Int.ediv_eq_zero_of_lt hb.1 (Int.lt_of_lt_of_le hb.2 h2)]
  rfl
theorem xor_digit (x y : Int) : ∀ i : Nat, Builtin.bitXor x y / 64 ^ i = Builtin.bitXor (x / 64 ^ i) (y / 64 ^ i)
  | 0 => by simp
  | i + 1 => by
    rw [Int.pow_succ, ← Int.ediv_ediv_of_nonneg (Int.le_of_lt (pow64 i)), ← Int.ediv_ediv_of_nonneg (Int.le_of_lt (pow64 i)), ← Int.ediv_ediv_of_nonneg (Int.le_of_lt (pow64 i)), xor_digit x y i, (xor_64 _ _).1]
/-- the figures of a row's number against itself moved on -/
theorem moved_digit {mt : List Int} (h : ∀ v ∈ mt, 0 ≤ v ∧ v < 64) (hl : mt.length = 10) (far : Nat) {i : Nat} (hi : i < 10) :
    Builtin.bitXor (valF mt 0 10) (valF mt 0 10 / 64 ^ far) / 64 ^ i % 64 = Builtin.bitXor (mt.getD i 0) (mt.getD (i + far) 0) := by
  rw [xor_digit, (xor_64 _ _).2, valF_digit h hi, Int.ediv_ediv_of_nonneg (Int.le_of_lt (pow64 far)), ← Int.pow_add, Nat.add_comm far i]
  by_cases hc : i + far < 10
  · rw [valF_digit h hc]
  · rw [valF_over h (by omega), List.getD_eq_getElem?_getD (l := mt) (i := i + far), List.getElem?_eq_none (by omega)]
    rfl
theorem xor_same {u v : Int} (hu : u = 16 ∨ u = 35 ∨ u = 38) (hv : v = 0 ∨ v = 16 ∨ v = 35 ∨ v = 38) : (Builtin.bitXor u v == 0) = (u == v) := by
  rcases hu with rfl | rfl | rfl <;> rcases hv with rfl | rfl | rfl | rfl <;> decide +kernel
/-- which figures of a row are those that stand so far on -/
noncomputable def sameF (mt : List Int) (far : Nat) : List Bool := (List.range 10).map fun i => mt.getD i 0 == mt.getD (i + far) 0
theorem same_eq {mt : List Int} (h : ∀ v ∈ mt, v = 16 ∨ v = 35 ∨ v = 38) (hl : mt.length = 10) (far : Nat) :
    (digitsF (Builtin.bitXor (valF mt 0 10) (valF mt 0 10 / 64 ^ far))).map (fun d => d == 0) = sameF mt far := by
  unfold digitsF sameF
  rw [List.map_map]
  refine List.map_congr_left fun i hi => ?_
  have hi := List.mem_range.mp hi
  have hb : ∀ v ∈ mt, 0 ≤ v ∧ v < 64 := fun v hv => by rcases h v hv with rfl | rfl | rfl <;> decide
  show (Builtin.bitXor _ _ / 64 ^ i % 64 == 0) = _
  rw [moved_digit hb hl far hi]
  refine xor_same ?_ ?_
  · rw [List.getD_eq_getElem?_getD, List.getElem?_eq_getElem (by omega)]
    exact h _ (List.getElem_mem _)
  · rw [List.getD_eq_getElem?_getD]
    cases e : mt[i + far]? with
    | none => exact .inl rfl
    | some v => exact .inr (h v (List.mem_of_getElem? e))
/-- the number of a row, and it against itself moved on, have ten figures -/
theorem moved_big {mt : List Int} (h : ∀ v ∈ mt, v = 16 ∨ v = 35 ∨ v = 38) (hl : mt.length = 10) {far : Nat} (hf : 1 ≤ far) : 2 ^ 54 ≤ Builtin.bitXor (valF mt 0 10) (valF mt 0 10 / 64 ^ far) ∧ Builtin.bitXor (valF mt 0 10) (valF mt 0 10 / 64 ^ far) < 2 ^ 60 := by
  have hb : ∀ v ∈ mt, 0 ≤ v ∧ v < 64 := fun v hv => by rcases h v hv with rfl | rfl | rfl <;> decide
  have e9 := xor_digit (valF mt 0 10) (valF mt 0 10 / 64 ^ far) 9
  have v9 : valF mt 0 10 / 64 ^ 9 = mt.getD 9 0 := by
    have hb9 := valF_bound hb 9 0
    have hd := getD_in (by decide) hb 9
    rw [show 10 = 9 + 1 from rfl, valF_add, Int.add_mul_ediv_left _ _ (by decide), Int.ediv_eq_zero_of_lt hb9.1 hb9.2]
    show 0 + (mt.getD 9 0 + 64 * 0) = _
    omega
  have z9 : valF mt 0 10 / 64 ^ far / 64 ^ 9 = 0 := by
    have hb10 := valF_bound hb 10 0
    rw [Int.ediv_ediv_of_nonneg (Int.le_of_lt (pow64 far)), ← Int.pow_add]
    refine Int.ediv_eq_zero_of_lt hb10.1 (Int.lt_of_lt_of_le hb10.2 ?_)
    exact_mod_cast Nat.pow_le_pow_right (n := 64) (by decide) (by omega)
  rw [v9, z9, bitXor_zero] at e9
  have h9 : mt.getD 9 0 = 16 ∨ mt.getD 9 0 = 35 ∨ mt.getD 9 0 = 38 := by
    rw [List.getD_eq_getElem?_getD, List.getElem?_eq_getElem (by omega)]
    exact h _ (List.getElem_mem _)
  have p9 : (64 : Int) ^ 9 = 2 ^ 54 := by decide
  rw [p9] at e9
  generalize Builtin.bitXor (valF mt 0 10) (valF mt 0 10 / 64 ^ far) = z at *
  omega
end Mine
end
section
open PySem PySem.W PyProof.Rows PySem.Builtin PySem.Builtin.Str
namespace Mine
theorem tokT_ascii : tokT.all (fun p => p.1.cps.toList.all (· < 128)) = true := by decide +kernel
theorem tok_wide {l : List Nat} (h : l.any (fun c => !decide (c < 128)) = true) : tokF ⟨l.toArray⟩ = none := by
  unfold tokF
  rw [Option.map_eq_none_iff, List.find?_eq_none]
  intro p hp he
  have e : p.1 = ⟨l.toArray⟩ := eq_of_beq he
  have h2 := List.all_eq_true.mp tokT_ascii p hp
  rw [e] at h2
  obtain ⟨c, hc, hn⟩ := List.any_eq_true.mp h
  have h3 := List.all_eq_true.mp h2 c (by simpa using hc)
  simp_all
theorem slice_mk (pre L : List Nat) (k : Nat) : Txt.slice ⟨(pre ++ L).toArray⟩ (some (pre.length : Int)) (some ((pre.length : Int) + (k : Int))) = ⟨(L.take k).toArray⟩ := by
  have h := slice_list (x := ⟨(pre ++ L).toArray⟩) (a := pre.length) (b := pre.length + k) (by omega)
  have e : ((pre.length + k : Nat) : Int) = (pre.length : Int) + (k : Int) := by omega
  rw [e] at h
  have h2 : (Txt.slice ⟨(pre ++ L).toArray⟩ (some (pre.length : Int)) (some ((pre.length : Int) + (k : Int)))).cps.toList = L.take k := by
    rw [h, show pre.length + k - pre.length = k from by omega]
    simp
  generalize Txt.slice ⟨(pre ++ L).toArray⟩ (some (pre.length : Int)) (some ((pre.length : Int) + (k : Int))) = z at h2
  obtain ⟨c⟩ := z
  rw [← h2]
theorem fits_mk (pre L : List Nat) : fitsL ⟨(pre ++ L).toArray⟩ (pre.length : Int) = ([3, 2, 1].map fun k => (⟨(L.take k).toArray⟩ : Str)).filter fun s => (tokF s).isSome := by
  unfold fitsL
  have h3 := slice_mk pre L 3
  have h2 := slice_mk pre L 2
  have h1 := slice_mk pre L 1
  simp only [List.map_cons, List.map_nil]
  rw [show ((3 : Nat) : Int) = 3 from rfl] at h3
  rw [show ((2 : Nat) : Int) = 2 from rfl] at h2
  rw [show ((1 : Nat) : Int) = 1 from rfl] at h1
  rw [h3, h2, h1]
theorem item_mk (pre L : List Nat) (c : Nat) : Txt.item ⟨(pre ++ c :: L).toArray⟩ (pre.length : Int) = ⟨#[c]⟩ := by
  have e : seqIndex? (pre.length : Int) (⟨(pre ++ c :: L).toArray⟩ : Str).length = some pre.length := by
    have hl : (⟨(pre ++ c :: L).toArray⟩ : Str).length = (pre ++ c :: L).length := by show (List.toArray _).size = _; simp
    rw [hl]
    unfold seqIndex?
    have h0 : ¬ ((pre.length : Int) < 0) := by omega
    simp only [h0, if_false]
    simp
    omega
  unfold Txt.item Txt.charAt
  rw [e]
  simp
/-- the signs of a piece that are seen -/
noncomputable def pieceL (x : Int) : List Nat := 42 :: (if x.fmod 3 = 1 then [42] else if x.fmod 3 = 2 then [61] else []) ++ [(gapsL.getD ((x.fdiv 3).fmod 8).toNat 0).toNat]
noncomputable def gapN (x : Int) : Nat := (gapsL.getD ((x.fdiv 3).fmod 8).toNat 0).toNat
theorem gap_ok (x : Int) : 128 ≤ gapN x ∧ isGap ⟨#[gapN x]⟩ = true ∧ b1F ⟨#[gapN x]⟩ = false := by
  unfold gapN
  have h : (x.fdiv 3).fmod 8 = (x.fdiv 3) % 8 := Int.fmod_eq_emod_of_nonneg _ (by omega)
  rw [h]
  generalize x.fdiv 3 = z
  have : z % 8 = 0 ∨ z % 8 = 1 ∨ z % 8 = 2 ∨ z % 8 = 3 ∨ z % 8 = 4 ∨ z % 8 = 5 ∨ z % 8 = 6 ∨ z % 8 = 7 := by omega
  rcases this with e | e | e | e | e | e | e | e <;> rw [e] <;> decide +kernel
theorem tok_star : tokF ⟨#[42]⟩ = some 16 := by decide +kernel
theorem tok_2star : tokF ⟨#[42, 42]⟩ = some 35 := by decide +kernel
theorem tok_stareq : tokF ⟨#[42, 61]⟩ = some 38 := by decide +kernel
theorem len_mk (l : List Nat) : (⟨l.toArray⟩ : Str).length = l.length := by show l.toArray.size = _; simp
/-- a gap is passed over -/
theorem read_gapL (pre L : List Nat) (x : Int) (k : Nat) : readN ⟨(pre ++ gapN x :: L).toArray⟩ (k + 1) (pre.length : Int) = readN ⟨(pre ++ gapN x :: L).toArray⟩ k ((pre.length : Int) + 1) := by
  obtain ⟨g1, g2, _⟩ := gap_ok x
  have hw : ∀ j, tokF ⟨((gapN x :: L).take (j + 1)).toArray⟩ = none := fun j => tok_wide (by simp; omega)
  rw [readN_succ, if_pos (by rw [len_mk]; simp; omega), fits_mk]
  simp only [List.map_cons, List.map_nil]
  have e3 := hw 2
  have e2 := hw 1
  have e1 := hw 0
  simp only [List.filter_cons, e3, e2, e1, Option.isSome_none, Bool.false_eq_true, if_false, List.filter_nil]
  rw [item_mk, g2]
  rfl
theorem meant_0 {x : Int} (h : x.fmod 3 = 0) : meantOf x = 16 := by unfold meantOf; rw [h]; rfl
theorem meant_1 {x : Int} (h : x.fmod 3 = 1) : meantOf x = 35 := by unfold meantOf; rw [h]; rfl
theorem meant_2 {x : Int} (h : x.fmod 3 = 2) : meantOf x = 38 := by unfold meantOf; rw [h]; rfl
theorem read_piece (pre rest : List Nat) (x : Int) (k : Nat) : readN ⟨(pre ++ (pieceL x ++ rest)).toArray⟩ (k + 2) (pre.length : Int) = meantOf x :: readN ⟨(pre ++ (pieceL x ++ rest)).toArray⟩ k (((pre ++ pieceL x).length : Nat) : Int) := by
  obtain ⟨g1, g2, _⟩ := gap_ok x
  have h3 : x.fmod 3 = 0 ∨ x.fmod 3 = 1 ∨ x.fmod 3 = 2 := by
    have : x.fmod 3 = x % 3 := Int.fmod_eq_emod_of_nonneg x (by omega)
    omega
  rw [show k + 2 = (k + 1) + 1 from rfl, readN_succ, if_pos (by rw [len_mk]; unfold pieceL; simp; omega), fits_mk]
  rcases h3 with h | h | h
  · have hp : pieceL x = [42, gapN x] := by unfold pieceL gapN; rw [h]; rfl
    have e3 : tokF ⟨(([42, gapN x] ++ rest).take 3).toArray⟩ = none := tok_wide (by simp; omega)
    have e2 : tokF ⟨(([42, gapN x] ++ rest).take 2).toArray⟩ = none := tok_wide (by simp; omega)
    have e1 : tokF ⟨(([42, gapN x] ++ rest).take 1).toArray⟩ = some 16 := tok_star
    rw [hp, meant_0 h]
    simp only [List.map_cons, List.map_nil, List.filter_cons, e3, e2, e1, Option.isSome_none, Option.isSome_some, Bool.false_eq_true, if_false, if_true, List.filter_nil, Option.getD_some]
    have hg := read_gapL (pre ++ [42]) rest x k
    have ea : pre ++ [42] ++ gapN x :: rest = pre ++ ([42, gapN x] ++ rest) := by simp
    rw [ea] at hg
    have el : (⟨(([42, gapN x] ++ rest).take 1).toArray⟩ : Str).length = 1 := rfl
    rw [el]
    have ep : (((pre ++ [42]).length : Nat) : Int) = (pre.length : Int) + ((1 : Nat) : Int) := by simp
    rw [ep] at hg
    rw [hg]
    congr 2
    simp
    omega
  · have hp : pieceL x = [42, 42, gapN x] := by unfold pieceL gapN; rw [h]; rfl
    have e3 : tokF ⟨(([42, 42, gapN x] ++ rest).take 3).toArray⟩ = none := tok_wide (by simp; omega)
    have e2 : tokF ⟨(([42, 42, gapN x] ++ rest).take 2).toArray⟩ = some 35 := tok_2star
    have e1 : tokF ⟨(([42, 42, gapN x] ++ rest).take 1).toArray⟩ = some 16 := tok_star
    rw [hp, meant_1 h]
    simp only [List.map_cons, List.map_nil, List.filter_cons, e3, e2, e1, Option.isSome_none, Option.isSome_some, Bool.false_eq_true, if_false, if_true, List.filter_nil, Option.getD_some]
    have hg := read_gapL (pre ++ [42, 42]) rest x k
    have ea : pre ++ [42, 42] ++ gapN x :: rest = pre ++ ([42, 42, gapN x] ++ rest) := by simp
    rw [ea] at hg
    have el : (⟨(([42, 42, gapN x] ++ rest).take 2).toArray⟩ : Str).length = 2 := rfl
    rw [el]
    have ep : (((pre ++ [42, 42]).length : Nat) : Int) = (pre.length : Int) + ((2 : Nat) : Int) := by simp
    rw [ep] at hg
    rw [hg]
    congr 2
    simp
    omega
  · have hp : pieceL x = [42, 61, gapN x] := by unfold pieceL gapN; rw [h]; rfl
    have e3 : tokF ⟨(([42, 61, gapN x] ++ rest).take 3).toArray⟩ = none := tok_wide (by simp; omega)
    have e2 : tokF ⟨(([42, 61, gapN x] ++ rest).take 2).toArray⟩ = some 38 := tok_stareq
    have e1 : tokF ⟨(([42, 61, gapN x] ++ rest).take 1).toArray⟩ = some 16 := tok_star
    rw [hp, meant_2 h]
    simp only [List.map_cons, List.map_nil, List.filter_cons, e3, e2, e1, Option.isSome_none, Option.isSome_some, Bool.false_eq_true, if_false, if_true, List.filter_nil, Option.getD_some]
    have hg := read_gapL (pre ++ [42, 61]) rest x k
    have ea : pre ++ [42, 61] ++ gapN x :: rest = pre ++ ([42, 61, gapN x] ++ rest) := by simp
    rw [ea] at hg
    have el : (⟨(([42, 61, gapN x] ++ rest).take 2).toArray⟩ : Str).length = 2 := rfl
    rw [el]
    have ep : (((pre ++ [42, 61]).length : Nat) : Int) = (pre.length : Int) + ((2 : Nat) : Int) := by simp
    rw [ep] at hg
    rw [hg]
    congr 2
    simp
    omega
noncomputable def seenL (l : List Nat) : List Nat := l.filter fun c => !b1F ⟨#[c]⟩
theorem seenF_mk (x : Str) : seenF x = ⟨(seenL x.cps.toList).toArray⟩ := rfl
theorem unseen_ok (x : Int) : b1F ⟨#[(unseenL.getD ((x.fdiv 3).fmod 7).toNat 0).toNat]⟩ = true := by
  have h : (x.fdiv 3).fmod 7 = (x.fdiv 3) % 7 := Int.fmod_eq_emod_of_nonneg _ (by omega)
  rw [h]
  generalize x.fdiv 3 = z
  have : z % 7 = 0 ∨ z % 7 = 1 ∨ z % 7 = 2 ∨ z % 7 = 3 ∨ z % 7 = 4 ∨ z % 7 = 5 ∨ z % 7 = 6 := by omega
  rcases this with e | e | e | e | e | e | e <;> rw [e] <;> decide +kernel
theorem star_seen : b1F ⟨#[42]⟩ = false := by decide +kernel
theorem eq_seen : b1F ⟨#[61]⟩ = false := by decide +kernel
theorem cps_app (a b : Str) : (a ++ b).cps.toList = a.cps.toList ++ b.cps.toList := by
  show (a.cps ++ b.cps).toList = _
  simp
theorem seen_step (a : Str) (x : Int) : seenL (signsStep a x).cps.toList = seenL a.cps.toList ++ pieceL x := by
  obtain ⟨_, _, g3⟩ := gap_ok x
  have hu := unseen_ok x
  have h3 : x.fmod 3 = 0 ∨ x.fmod 3 = 1 ∨ x.fmod 3 = 2 := by
    have : x.fmod 3 = x % 3 := Int.fmod_eq_emod_of_nonneg x (by omega)
    omega
  have hs : (Str.ofString "*").cps.toList = [42] := by decide
  have i1 : (Txt.item (Str.ofString " *=") 1).cps.toList = [42] := by decide +kernel
  have i2 : (Txt.item (Str.ofString " *=") 2).cps.toList = [61] := by decide +kernel
  unfold signsStep pieceL seenL
  unfold gapN at g3
  generalize (gapsL.getD ((x.fdiv 3).fmod 8).toNat 0).toNat = gn at g3 ⊢
  generalize (unseenL.getD ((x.fdiv 3).fmod 7).toNat 0).toNat = un at hu ⊢
  rcases h3 with h | h | h
  · rw [if_neg (by omega)]
    simp only [cps_app, hs, List.filter_append]
    simp [star_seen, g3, h]
  · rw [if_pos (by omega)]
    simp only [cps_app, hs, List.filter_append, h, i1]
    simp [star_seen, g3, hu]
  · rw [if_pos (by omega)]
    simp only [cps_app, hs, List.filter_append, h, i2]
    simp [star_seen, eq_seen, g3, hu]
theorem seen_fold : ∀ (xs : List Int) (a : Str), seenL (xs.foldl signsStep a).cps.toList = seenL a.cps.toList ++ xs.flatMap pieceL
  | [], a => by simp
  | x :: xs, a => by rw [List.foldl_cons, seen_fold xs, seen_step, List.append_assoc, List.flatMap_cons]
theorem piece_len (x : Int) : 2 ≤ (pieceL x).length := by unfold pieceL; simp
theorem read_all : ∀ (xs : List Int) (pre : List Nat) (j : Nat), readN ⟨(pre ++ xs.flatMap pieceL).toArray⟩ (2 * xs.length + j) (pre.length : Int) = xs.map meantOf
  | [], pre, j => by
    cases j with
    | zero => rfl
    | succ j =>
      rw [show 2 * ([] : List Int).length + (j + 1) = j + 1 from by simp, readN_succ, if_neg (by rw [len_mk]; simp)]
      rfl
  | x :: xs, pre, j => by
    have h := read_piece pre (xs.flatMap pieceL) x (2 * xs.length + j)
    have ih := read_all xs (pre ++ pieceL x) j
    rw [List.append_assoc] at ih
    rw [List.flatMap_cons, show 2 * (x :: xs).length + j = 2 * xs.length + j + 2 from by simp; omega, h, ih, List.map_cons]
theorem flat_len : ∀ xs : List Int, 2 * xs.length ≤ (xs.flatMap pieceL).length
  | [] => by simp
  | x :: xs => by
    have h1 := piece_len x
    have h2 := flat_len xs
    rw [List.flatMap_cons, List.length_append, List.length_cons]
    omega
theorem read_text (ns : List Int) : rowF (signsOf ns (rangeKs 0 10)) = (rangeKs 0 10).map (fun i => meantOf (xv ns i)) := by
  have hs : seenL (signsOf ns (rangeKs 0 10)).cps.toList = ((rangeKs 0 10).map (xv ns)).flatMap pieceL := by
    unfold signsOf
    rw [seen_fold]
    rfl
  unfold rowF
  rw [seenF_mk, hs, len_mk]
  have hf := flat_len ((rangeKs 0 10).map (xv ns))
  generalize hx : (rangeKs 0 10).map (xv ns) = xs at hf
  obtain ⟨j, hj⟩ : ∃ j, (xs.flatMap pieceL).length + 1 = 2 * xs.length + j := ⟨(xs.flatMap pieceL).length + 1 - 2 * xs.length, by omega⟩
  rw [hj]
  have h := read_all xs [] j
  rw [List.nil_append] at h
  rw [show (0 : Int) = ((([] : List Nat).length : Nat) : Int) from rfl, h, ← hx, List.map_map]
  rfl
end Mine
end
section
open PySem PySem.W PyProof.Rows
namespace Mine
noncomputable def allB : Nat → List (List Bool)
  | 0 => [[]]
  | n + 1 => (allB n).flatMap fun l => [false :: l, true :: l]
theorem mem_allB : ∀ l : List Bool, l ∈ allB l.length
  | [] => by simp [allB]
  | b :: l => by
    have h := mem_allB l
    simp only [List.length_cons, allB, List.mem_flatMap]
    exact ⟨l, h, by cases b <;> simp⟩
noncomputable def leadS (bs : List Bool) : Str := ⟨(bs.map fun b => if b then 32 else 9).toArray⟩
noncomputable def leapsB (bs : List Bool) (far : Nat) : Nat → Nat → Int
  | 0, _ => 0
  | n + 1, p => if p + 2 * far ≤ 10 then (if ((bs.drop p).take far).all id = true then 1 + leapsB bs far n (p + far) else leapsB bs far n (p + 1)) else 0
noncomputable def indB (far : Nat) (bs : List Bool) : Int := let c := wsF (leadS bs) 10; c.2.1 + (far : Int) * (ilF c.1 far (rangeKs far (c.1.length - far)) + c.2.2)
noncomputable def chk (far : Nat) (bs : List Bool) : Bool := indB far bs == (far : Int) * ((10 - ((bs.take (10 - far)).filter id).length : Int) + leapsB bs far 11 0)
set_option maxHeartbeats 4000000 in
theorem chk_5 : ((allB 5).all fun l => chk 5 (l ++ List.replicate 5 false)) = true := by decide +kernel
set_option maxHeartbeats 4000000 in
theorem chk_4 : ((allB 6).all fun l => chk 4 (l ++ List.replicate 4 false)) = true := by decide +kernel
set_option maxHeartbeats 4000000 in
theorem chk_3 : ((allB 7).all fun l => chk 3 (l ++ List.replicate 3 false)) = true := by decide +kernel
set_option maxHeartbeats 4000000 in
theorem chk_2 : ((allB 8).all fun l => chk 2 (l ++ List.replicate 2 false)) = true := by decide +kernel
set_option maxHeartbeats 4000000 in
theorem chk_1 : ((allB 9).all fun l => chk 1 (l ++ List.replicate 1 false)) = true := by decide +kernel
end Mine
end
section
open PySem PySem.W PyProof.Rows
namespace Mine
theorem take_drop_map {α : Type} (d : α) (l : List α) {p far : Nat} (h : p + far ≤ l.length) : (l.drop p).take far = (List.range far).map fun j => l.getD (p + j) d := by
  refine List.ext_getElem (by simp; omega) fun i h1 h2 => ?_
  simp only [List.length_map, List.length_range] at h2
  rw [List.getElem_take, List.getElem_drop, List.getElem_map, List.getElem_range, List.getD_eq_getElem?_getD, List.getElem?_eq_getElem (by omega)]
  rfl
theorem str_eq_list {a b : Str} : (a == b) = decide (a.cps.toList = b.cps.toList) := by
  rw [Bool.eq_iff_iff, beq_iff_eq, decide_eq_true_eq]
  constructor
  · rintro rfl; rfl
  · intro h
    obtain ⟨⟨x⟩⟩ := a
    obtain ⟨⟨y⟩⟩ := b
    simp only at h
    rw [h]
theorem toNat_inj {u v : Int} (hu : u = 16 ∨ u = 35 ∨ u = 38) (hv : v = 16 ∨ v = 35 ∨ v = 38) : u.toNat = v.toNat ↔ (u == v) = true := by
  rcases hu with rfl | rfl | rfl <;> rcases hv with rfl | rfl | rfl <;> decide
theorem same_len (mt : List Int) (far : Nat) : (sameF mt far).length = 10 := by unfold sameF; simp
theorem same_at (mt : List Int) (far : Nat) {i : Nat} (hi : i < 10) : (sameF mt far).getD i false = (mt.getD i 0 == mt.getD (i + far) 0) := by
  unfold sameF
  rw [List.getD_eq_getElem?_getD, List.getElem?_map, List.getElem?_range hi]
  rfl
theorem getD_word {mt : List Int} (h : ∀ v ∈ mt, v = 16 ∨ v = 35 ∨ v = 38) {i : Nat} (hi : i < mt.length) : mt.getD i 0 = 16 ∨ mt.getD i 0 = 35 ∨ mt.getD i 0 = 38 := by
  rw [List.getD_eq_getElem?_getD, List.getElem?_eq_getElem hi]
  exact h _ (List.getElem_mem _)
theorem slice_same {mt : List Int} (h : ∀ v ∈ mt, v = 16 ∨ v = 35 ∨ v = 38) (hl : mt.length = 10) {p far : Nat} (hp : p + 2 * far ≤ 10) :
    (Txt.slice (textF mt) (some (p : Int)) (some ((p : Int) + (far : Int))) == Txt.slice (textF mt) (some ((p : Int) + (far : Int))) (some ((p : Int) + 2 * (far : Int)))) = (((sameF mt far).drop p).take far).all id := by
  have hc : (textF mt).cps.toList = mt.map Int.toNat := by unfold textF; simp
  have e1 : ((p : Int) + (far : Int)) = ((p + far : Nat) : Int) := by omega
  have e2 : ((p : Int) + 2 * (far : Int)) = ((p + 2 * far : Nat) : Int) := by omega
  rw [str_eq_list, e1, e2, slice_list (by omega), slice_list (by omega), hc, show p + far - p = far from by omega, show p + 2 * far - (p + far) = far from by omega,
    take_drop_map 0 _ (by simp; omega), take_drop_map 0 _ (by simp; omega), take_drop_map false _ (by rw [same_len]; omega), Bool.eq_iff_iff, decide_eq_true_eq, List.map_inj_left, List.all_eq_true]
  have g : ∀ i, i < 10 → (mt.map Int.toNat).getD i 0 = (mt.getD i 0).toNat := by
    intro i hi
    rw [List.getD_eq_getElem?_getD, List.getD_eq_getElem?_getD, List.getElem?_map, List.getElem?_eq_getElem (by omega)]
    rfl
  constructor
  · intro q b hb
    obtain ⟨j, hj, rfl⟩ := List.mem_map.mp hb
    have hj' := List.mem_range.mp hj
    have q1 := q j hj
    rw [g _ (by omega), g _ (by omega)] at q1
    show (sameF mt far).getD (p + j) false = true
    rw [same_at mt far (by omega), show p + j + far = p + far + j from by omega]
    exact (toNat_inj (getD_word h (by omega)) (getD_word h (by omega))).mp q1
  · intro q j hj
    have hj' := List.mem_range.mp hj
    have q1 := q _ (List.mem_map.mpr ⟨j, hj, rfl⟩)
    have q2 : (sameF mt far).getD (p + j) false = true := q1
    rw [same_at mt far (by omega), show p + j + far = p + far + j from by omega] at q2
    rw [g _ (by omega), g _ (by omega)]
    exact (toNat_inj (getD_word h (by omega)) (getD_word h (by omega))).mpr q2
theorem leaps_same {mt : List Int} (h : ∀ v ∈ mt, v = 16 ∨ v = 35 ∨ v = 38) (hl : mt.length = 10) (far : Nat) : ∀ (n p : Nat), leapsN (textF mt) (far : Int) n (p : Int) = leapsB (sameF mt far) far n p
  | 0, p => rfl
  | n + 1, p => by
    have hx : (textF mt).length = 10 := by
      show (List.toArray _).size = 10
      simp [hl]
    rw [leapsN, leapsB, hx]
    by_cases hp : p + 2 * far ≤ 10
    · rw [if_pos (by omega), if_pos hp, slice_same h hl hp]
      have i1 := leaps_same h hl far n (p + far)
      have i2 := leaps_same h hl far n (p + 1)
      rw [show (((p + far : Nat) : Int)) = (p : Int) + (far : Int) from by omega] at i1
      rw [show (((p + 1 : Nat) : Int)) = (p : Int) + 1 from by omega] at i2
      rw [i1, i2]
    · rw [if_neg (by omega), if_neg hp]
end Mine
end
section
open PySem PySem.W PyProof.Rows
namespace Mine
theorem same_split {mt : List Int} (h : ∀ v ∈ mt, v = 16 ∨ v = 35 ∨ v = 38) (hl : mt.length = 10) {far : Nat} (hf : far ≤ 10) : sameF mt far = (sameF mt far).take (10 - far) ++ List.replicate far false := by
  have e : (sameF mt far).drop (10 - far) = List.replicate far false := by
    refine List.ext_getElem (by simp [same_len]; omega) fun i h1 h2 => ?_
    simp only [List.length_replicate] at h2
    rw [List.getElem_drop, List.getElem_replicate]
    have q := same_at mt far (i := 10 - far + i) (by omega)
    rw [List.getD_eq_getElem?_getD, List.getElem?_eq_getElem (by rw [same_len]; omega)] at q
    have q2 : (sameF mt far)[10 - far + i]'(by rw [same_len]; omega) = (mt.getD (10 - far + i) 0 == mt.getD (10 - far + i + far) 0) := q
    rw [q2, List.getD_eq_getElem?_getD (l := mt) (i := 10 - far + i + far), List.getElem?_eq_none (by omega)]
    have hw := getD_word h (i := 10 - far + i) (by omega)
    show (mt.getD (10 - far + i) 0 == 0) = false
    rcases hw with e | e | e <;> rw [e] <;> decide
  conv => lhs; rw [← List.take_append_drop (10 - far) (sameF mt far), e]
theorem chk_same {mt : List Int} (h : ∀ v ∈ mt, v = 16 ∨ v = 35 ∨ v = 38) (hl : mt.length = 10) {far : Nat} (h1 : 1 ≤ far) (h5 : far ≤ 5) : chk far (sameF mt far) = true := by
  have hs := same_split h hl (far := far) (by omega)
  have hm := mem_allB ((sameF mt far).take (10 - far))
  have hn : ((sameF mt far).take (10 - far)).length = 10 - far := by rw [List.length_take, same_len]; omega
  rw [hn] at hm
  rw [hs]
  have hc : far = 1 ∨ far = 2 ∨ far = 3 ∨ far = 4 ∨ far = 5 := by omega
  rcases hc with rfl | rfl | rfl | rfl | rfl
  · exact List.all_eq_true.mp chk_1 _ hm
  · exact List.all_eq_true.mp chk_2 _ hm
  · exact List.all_eq_true.mp chk_3 _ hm
  · exact List.all_eq_true.mp chk_4 _ hm
  · exact List.all_eq_true.mp chk_5 _ hm
/-- the lead's column tells the figures unlike and the leaps -/
theorem lead_law {mt : List Int} (h : ∀ v ∈ mt, v = 16 ∨ v = 35 ∨ v = 38) (hl : mt.length = 10) {far : Nat} (h1 : 1 ≤ far) (h5 : far ≤ 5) :
    indB far (sameF mt far) = (far : Int) * ((10 - (((sameF mt far).take (10 - far)).filter id).length : Int) + leapsN (textF mt) (far : Int) 11 0) := by
  have hc := chk_same h hl h1 h5
  have e := leaps_same h hl far 11 0
  rw [show ((0 : Nat) : Int) = 0 from rfl] at e
  rw [e]
  exact eq_of_beq hc
end Mine
end
end
section
open PySem PySem.W PyProof.Rows PySem.Builtin PySem.Builtin.Str
namespace Mine
noncomputable section
structure MkE : Prop where
structure MkN : Prop where
structure MkA : Prop where
theorem use_c {prog : Program} {w : World} {K : Frag} {p : Program} {loose : List Str} {mean : ExcName → Option Value} {mg mb : Str → Option Value} {f : Addr} {led : List (Addr × Obj)} {vs : List Value} {pre : Heap → Addr → Shared → Prop} {R : Heap → Addr → (Str → Option Value) → Shared → (Value → Shared → Prop) → Prop} {A A₀ : Around} {dp un : Nat} {gd : Option (List Code)} {cn : Str} {cs : Scope} {a : Addr} {ccd : Value} {cl : List (Str × Addr)} {outer : List Env} {base h₀ : Heap} {L : Addr} {m : Str → Option Value} {s : Shared} {Q E : Value → Shared → Prop}
    (hA : A = ktrTop dp un gd cn cs L a ccd cl outer) (C : CallClaim prog w K p loose mean mg mb f led vs pre R) (B : Below A₀ base outer h₀) (F : Fr h₀ L s.heap m) (X : K.In h₀) (N : News h₀ L s.heap led) (T : Top p loose mean mg mb h₀) (hk : cs.kind = .function)
    (hp : pre base L s) (hd : dp + 40 < recursionLimit) (hu : un + 128 < cLine) (h : R h₀ L m s Q) : wpAny (model prog w) A (call (.ref f) vs) Q E s := by
  subst hA
  exact C dp un gd cn cs a ccd cl outer A₀ base h₀ L m s Q E B F X N T hk hp hd hu h
theorem step_len (a : Str) (x : Int) : (signsStep a x).length ≤ a.length + 4 := by
  unfold signsStep
  split
  · rename_i h
    have hi := item_len _ h
    simp only [Str.length_append, hi]
    show (_ : Nat) + 1 + (1 + 1) + 1 ≤ _
    omega
  · simp only [Str.length_append]
    show (_ : Nat) + 1 + 1 ≤ _
    omega
theorem fold_len : ∀ (l : List Int) (a : Str), (l.foldl signsStep a).length ≤ a.length + 4 * l.length
  | [], a => by simp
  | x :: l, a => by
    have h1 := step_len a x
    have h2 := fold_len l (signsStep a x)
    simp only [List.foldl_cons, List.length_cons]
    omega
theorem signs_len (ns : List Int) : (signsOf ns (rangeKs 0 10)).length ≤ 40 := by
  have h := fold_len ((rangeKs 0 10).map (xv ns)) (Str.ofString "")
  rw [List.length_map, rangeKs_length] at h
  have h0 : (Str.ofString "").length = 0 := by decide
  unfold signsOf
  omega
theorem meant_ex {ns : List Int} {vs1 vs2 : List Value} (I1 : IntsAre vs1 ((rangeKs 0 10).map (fun i => meantOf (xv ns i)))) (I2 : IntsAre vs2 (rowF (signsOf ns (rangeKs 0 10)))) : ∃ mt : List Int, IntsAre vs1 mt ∧ IntsAre vs2 mt ∧ mt.length = 10 ∧ ∀ v ∈ mt, v = 16 ∨ v = 35 ∨ v = 38 :=
  ⟨_, I1, read_text ns ▸ I2, by rw [List.length_map, rangeKs_length], meant_in ns⟩
theorem ints_at {vs : List Value} {ns : List Int} (h : IntsAre vs ns) : ∀ {i : Nat} {v : Value}, vs[i]? = some v → ∃ n t, ns[i]? = some n ∧ v = .int n t := by
  induction h with
  | nil => intro i v e; cases e
  | cons j u r ih =>
    intro i v e
    cases i with
    | zero => cases e; exact ⟨j, u, rfl, rfl⟩
    | succ i => exact ih e
theorem ones_fit (mt : List Int) (h : mt.length = 10) : ((mt.map fun n => (⟨#[n.toNat]⟩ : Str)).map (·.length)).sum + (mt.map fun n => (⟨#[n.toNat]⟩ : Str)).length * (Str.ofString "").length ≤ 16777216 := by
  have h1 : ∀ l : List Int, ((l.map fun n => (⟨#[n.toNat]⟩ : Str)).map (·.length)).sum = l.length := by
    intro l
    induction l with
    | nil => rfl
    | cons a l ih => rw [List.map_cons, List.map_cons, List.sum_cons, ih, List.length_cons, Nat.add_comm]; rfl
  rw [h1, List.length_map, h]
  decide
theorem own_two {own : List (Addr × Obj)} {a b : Addr} (h1 : ∀ p ∈ own, p.1 ≠ a) (h2 : ∀ p ∈ own, p.1 ≠ b) : OwnOff own [a, b] := by
  intro p hp c hc
  rcases List.mem_cons.mp hc with rfl | hc
  · exact h1 p hp
  · rw [List.mem_singleton.mp hc]; exact h2 p hp
theorem off_four {a1 a2 a3 a4 l : Addr} {c1 c2 c3 c4 : Obj} (h1 : @LT.lt Nat _ a1 l) (h2 : @LT.lt Nat _ a2 l) (h3 : @LT.lt Nat _ a3 l) (h4 : @LT.lt Nat _ a4 l) (k1 : @LT.lt Nat _ 96 a1) (k2 : @LT.lt Nat _ 96 a2) (k3 : @LT.lt Nat _ 96 a3) (k4 : @LT.lt Nat _ a4 96) : OwnOff [(a1, c1), (a2, c2), (a3, c3), (a4, c4)] [l, 96] := by
  refine own_two ?_ ?_
  · intro p hp
    rcases List.mem_cons.mp hp with rfl | hp
    · exact Nat.ne_of_lt h1
    · rcases List.mem_cons.mp hp with rfl | hp
      · exact Nat.ne_of_lt h2
      · rcases List.mem_cons.mp hp with rfl | hp
        · exact Nat.ne_of_lt h3
        · rw [List.mem_singleton.mp hp]; exact Nat.ne_of_lt h4
  · intro p hp
    rcases List.mem_cons.mp hp with rfl | hp
    · exact Nat.ne_of_gt k1
    · rcases List.mem_cons.mp hp with rfl | hp
      · exact Nat.ne_of_gt k2
      · rcases List.mem_cons.mp hp with rfl | hp
        · exact Nat.ne_of_gt k3
        · rw [List.mem_singleton.mp hp]; exact Nat.ne_of_lt k4
structure FS where
  oF : Obj
  vF : List Value
  cF : Nat
  vS : List Value
  cS : Nat
  tb : Option (Addr × Obj)
  tl : List (Addr × Obj)
/-- the squares found up to a distance -/
noncomputable def sqOf (mt : List Int) (far : Nat) : List Dat := ((List.range (10 - 2 * far + 1)).filter fun i => (((sameF mt far).drop i).take far).all id).map fun (i : Nat) => Dat.tuple [Dat.str (Txt.slice (textF mt) (some (i : Int)) (some ((i : Int) + 2 * (far : Int)))), Dat.int (i : Int)]
noncomputable def sqUp (mt : List Int) : Nat → List Dat
  | 0 => []
  | k + 1 => sqUp mt k ++ sqOf mt (k + 1)
noncomputable abbrev farStored : List Str := [Str.ofString "same", Str.ofString "lead", Str.ofString "unlike"]
noncomputable def farLed (aS aF L : Addr) (K : List (Addr × Obj)) (c : FS) : List (Addr × Obj) := (aS, listOf c.vS.toArray c.cS) :: (aF, listOf c.vF.toArray c.cF) :: (L + 1 + 1, c.oF) :: (K ++ (tabLed c.tb ++ c.tl))
noncomputable def FarJ (aS aF L : Addr) (K : List (Addr × Obj)) (m₀ : Str → Option Value) (mt : List Int) (k : Nat) (m : Str → Option Value) (nx : List (Addr × Obj)) : Prop :=
  ∃ c : FS, nx = farLed aS aF L K c ∧ (∀ z, z ≠ Str.ofString "i" → (∀ p ∈ ([] : List (Str × Value)), z ≠ p.1) → farStored.contains z = false → m z = m₀ z) ∧
    (∃ v, c.oF.data = .cell v) ∧ DatAll c.tl c.vF (sqUp mt k) ∧ DatAll c.tl c.vS (sqUp mt k) ∧ OwnOff (tabLed c.tb ++ c.tl) (aS :: aF :: (L + 1 + 1) :: K.map (·.1)) ∧ OwnOff c.tl [89] ∧ TabOk c.tl c.tb
theorem tab_up {A tl own : List (Addr × Obj)} {tb : Option (Addr × Obj)} (h : TabOk tl tb) (hA : OwnOff (tabLed tb) (A.map (·.1))) (ho : OwnOff own ((tabLed tb).map (·.1))) : TabOk (A ++ (tl ++ own)) tb := by
  cases tb with
  | none => trivial
  | some p =>
    refine ⟨h.1, ?_, h.2.2⟩
    intro q hq b hb
    rw [List.mem_singleton.mp hb]
    rcases List.mem_append.mp hq with hq | hq
    · exact fun e => hA p (.head _) q.1 (List.mem_map.mpr ⟨q, hq, rfl⟩) e.symm
    · rcases List.mem_append.mp hq with hq | hq
      · exact h.2.1 q hq p.1 (.head _)
      · exact ho q hq p.1 (.head _)
theorem off_app {A B : List (Addr × Obj)} {adr : List Addr} (h1 : OwnOff A adr) (h2 : OwnOff B adr) : OwnOff (A ++ B) adr := fun p hp => (List.mem_append.mp hp).elim (h1 p) (h2 p)
theorem off_left {A B : List (Addr × Obj)} {adr : List Addr} (h : OwnOff (A ++ B) adr) : OwnOff A adr := fun p hp => h p (List.mem_append.mpr (.inl hp))
theorem off_right {A B : List (Addr × Obj)} {adr : List Addr} (h : OwnOff (A ++ B) adr) : OwnOff B adr := fun p hp => h p (List.mem_append.mpr (.inr hp))
theorem off_sub {own : List (Addr × Obj)} {adr adr' : List Addr} (h : OwnOff own adr) (hs : ∀ b ∈ adr', b ∈ adr) : OwnOff own adr' := fun p hp b hb => h p hp b (hs b hb)
theorem tab_has (tb : Option (Addr × Obj)) : (89 : Addr) ∈ (tabLed tb).map (·.1) := by
  cases tb with
  | none => exact .head _
  | some p => exact .tail _ (.head _)
theorem off_pre {own A R : List (Addr × Obj)} (h : OwnOff own ((A ++ R).map (·.1))) : OwnOff own (A.map (·.1)) ∧ OwnOff own (R.map (·.1)) := by
  rw [List.map_append] at h
  exact ⟨off_sub h fun b hb => List.mem_append.mpr (.inl hb), off_sub h fun b hb => List.mem_append.mpr (.inr hb)⟩
theorem far_up (x : Int) (i : Nat) : x.fdiv (2 ^ (6 * (1 + (i : Int))).toNat) = x / 64 ^ (i + 1) := by
  rw [show (6 * (1 + (i : Int))).toNat = 6 * (i + 1) from by omega, Int.pow_mul, Int.fdiv_eq_ediv_of_nonneg _ (Int.le_of_lt (Int.pow_pos (by decide)))]
  rfl
theorem off_big {A tl own : List (Addr × Obj)} (h : ∀ b ∈ A.map (·.1), @LT.lt Nat _ 89 b) (h1 : OwnOff tl [89]) (h2 : OwnOff own [89]) : OwnOff (A ++ (tl ++ own)) [89] := by
  refine off_app (fun p hp b hb => ?_) (off_app h1 h2)
  rw [List.mem_singleton.mp hb]
  exact Nat.ne_of_gt (h p.1 (List.mem_map.mpr ⟨p, hp, rfl⟩))
theorem mem_swap {α : Type} {x : α} {T A B : List α} : ∀ q ∈ x :: (A ++ (T ++ B)), q ∈ x :: (T ++ (A ++ B)) := by
  intro q hq
  simp only [List.mem_cons, List.mem_append] at hq ⊢
  rcases hq with h | h | h | h
  · exact .inl h
  · exact .inr (.inr (.inl h))
  · exact .inr (.inl h)
  · exact .inr (.inr (.inr h))
theorem ys_same {mt : List Int} (h : ∀ v ∈ mt, v = 16 ∨ v = 35 ∨ v = 38) (hl : mt.length = 10) (far : Nat) {ys : List Value} (e : ys = ((digitsF (bitXor (valF mt 0 10) (valF mt 0 10 / 64 ^ far))).take 10).map fun d => Value.bool (d == 0)) : ys = (sameF mt far).map Value.bool := by
  rw [e, ← same_eq h hl far, List.map_map, List.take_of_length_le (by unfold digitsF; simp)]
  rfl
theorem lead_len (bs : List Bool) (h : bs.length = 10) : (leadS bs).length = 10 := by
  show (List.toArray _).size = 10
  simp [h]
theorem lead_chars (bs : List Bool) : ∀ ch ∈ (leadS bs).cps.toList, ch = 32 ∨ ch = 9 := by
  intro ch hc
  unfold leadS at hc
  obtain ⟨b, _, rfl⟩ := List.mem_map.mp hc
  cases b <;> simp
theorem lead_map (bs : List Bool) : (bs.map fun b => if b then Str.ofString " " else Str.ofString "\t") = signs (leadS bs) := by
  unfold signs leadS
  rw [List.map_map]
  refine List.map_congr_left fun b _ => ?_
  cases b <;> decide
theorem lead_join (bs : List Bool) : Txt.join (Str.ofString "") (bs.map fun b => if b then Str.ofString " " else Str.ofString "\t") = leadS bs := by
  rw [lead_map]
  exact (beq_iff_eq.mp (join_closes (by decide))).trans (join_nil_signs (leadS bs))
theorem lead_fit (bs : List Bool) (h : bs.length = 10) : ((bs.map fun b => if b then Str.ofString " " else Str.ofString "\t").map (·.length)).sum + (bs.map fun b => if b then Str.ofString " " else Str.ofString "\t").length * (Str.ofString "").length ≤ 16777216 := by
  have h1 : ∀ l : List Bool, ((l.map fun b => if b then Str.ofString " " else Str.ofString "\t").map (·.length)).sum = l.length := by
    intro l
    induction l with
    | nil => rfl
    | cons a l ih => rw [List.map_cons, List.map_cons, List.sum_cons, ih, List.length_cons, Nat.add_comm]; cases a <;> rfl
  rw [h1, List.length_map, h]
  decide
theorem off_cons {own : List (Addr × Obj)} {a : Addr} {adr : List Addr} (h1 : OwnOff own [a]) (h2 : OwnOff own adr) : OwnOff own (a :: adr) := fun p hp b hb => (List.mem_cons.mp hb).elim (fun e => e ▸ h1 p hp a (.head _)) fun h => h2 p hp b h
/-- the table's own objects stand off a list of addresses -/
theorem tab_off {A R : List (Addr × Obj)} {p : Addr × Obj} (h : TabOk (A ++ R) (some p)) (h89 : ∀ b ∈ A.map (·.1), @LT.lt Nat _ 89 b) : OwnOff (tabLed (some p)) (A.map (·.1)) := by
  intro q hq b hb
  rcases List.mem_cons.mp hq with rfl | hq
  · obtain ⟨r, hr, rfl⟩ := List.mem_map.mp hb
    exact fun e => h.2.1 r (List.mem_append.mpr (.inl hr)) q.1 (.head _) e.symm
  · rw [List.mem_singleton.mp hq]
    exact Nat.ne_of_lt (h89 b hb)
theorem tab_off1 {p : Addr × Obj} {D : Addr} (h : @Ne Nat p.1 D) (h9 : @LT.lt Nat _ 89 D) : OwnOff (tabLed (some p)) [D] := by
  intro q hq b hb
  rw [List.mem_singleton.mp hb]
  rcases List.mem_cons.mp hq with rfl | hq
  · exact h
  · rw [List.mem_singleton.mp hq]; exact Nat.ne_of_lt h9
noncomputable abbrev farJof {h₀ h : Heap} {L : Addr} {m : Str → Option Value} (_F : Fr h₀ L h m) (aS aF D2 : Addr) (o2 o96 oB oT : Obj) (mt : List Int) : Nat → (Str → Option Value) → List (Addr × Obj) → Prop := FarJ aS aF L [(D2, o2), (96, o96), (L + 1 + 1 + 1, oB), (L + 1, oT)] m mt
theorem same_fr {h₀ h h' : Heap} {L L' : Addr} {m m' : Str → Option Value} (_F : Fr h₀ L h m) (e : L' = L) (G : Fr h₀ L' h' m') : Fr h₀ L h' m' := e ▸ G
theorem same_news {h₀ h h' : Heap} {L L' : Addr} {m : Str → Option Value} {l : List (Addr × Obj)} (_F : Fr h₀ L h m) (e : L' = L) (G : News h₀ L' h' l) : News h₀ L h' l := e ▸ G
theorem text_len {mt : List Int} (h : mt.length = 10) : (textF mt).length = 10 := by
  show (List.toArray _).size = 10
  simp [h]
theorem item_same {mt : List Int} (h : ∀ v ∈ mt, v = 16 ∨ v = 35 ∨ v = 38) (hl : mt.length = 10) {p i : Nat} (hp : p + i < 9) :
    (Txt.item (textF mt) (0 + (p : Int)) == Txt.item (textF mt) (0 + (p : Int) + (1 + (i : Int)))) = (sameF mt (i + 1)).getD p false := by
  have hx := text_len hl
  have g : ∀ q : Nat, q < 10 → Txt.item (textF mt) (q : Int) = ⟨#[(mt.getD q 0).toNat]⟩ := by
    intro q hq
    rw [item_meets ⟨by omega, by omega⟩]
    unfold textF
    rw [Int.toNat_natCast, Array.getD_eq_getD_getElem?, List.getElem?_toArray, List.getElem?_map, List.getElem?_eq_getElem (by omega), List.getD_eq_getElem?_getD, List.getElem?_eq_getElem (by omega)]
    rfl
  rw [show (0 + (p : Int)) = ((p : Nat) : Int) from by omega, show ((p : Int) + (1 + (i : Int))) = ((p + (i + 1) : Nat) : Int) from by omega, g p (by omega), g _ (by omega), same_at mt (i + 1) (by omega)]
  have e1 := toNat_inj (getD_word h (i := p) (by omega)) (getD_word h (i := p + (i + 1)) (by omega))
  rw [Bool.eq_iff_iff, ← e1, beq_iff_eq]
  constructor
  · intro q
    injection q with q
    injection q with q
    injection q
  · intro q
    rw [q]
theorem same_at? {mt : List Int} {i p : Nat} {b : Bool} (hp : p < 10) (he : (sameF mt (i + 1)).getD p false = b) : (sameF mt (i + 1))[p]? = some b := by
  rw [List.getD_eq_getElem?_getD, List.getElem?_eq_getElem (by rw [same_len]; exact hp)] at he
  rw [List.getElem?_eq_getElem (by rw [same_len]; exact hp)]
  exact congrArg some he
theorem far_law {mt : List Int} {i : Nat} {cnt : List Int} {b nt : Int} (e : (cnt, b, nt) = wsF (leadS (sameF mt (i + 1))) (leadS (sameF mt (i + 1))).cps.size) (h : ∀ v ∈ mt, v = 16 ∨ v = 35 ∨ v = 38) (hl : mt.length = 10) (hi : i < 5) :
    b + (1 + (i : Int)) * (ilF cnt (1 + (i : Int)) (rangeKs (1 + (i : Int)) (cnt.length - (1 + (i : Int)).toNat)) + nt) = (1 + (i : Int)) * (10 - ((((sameF mt (i + 1)).take (9 - i)).filter _root_.id).length : Int) + leapsN (textF mt) (1 + (i : Int)) 11 0) := by
  have hs : (leadS (sameF mt (i + 1))).cps.size = 10 := lead_len _ (same_len mt (i + 1))
  rw [hs] at e
  have h9 := lead_law h hl (far := i + 1) (by omega) (by omega)
  unfold indB at h9
  rw [← e] at h9
  dsimp only at h9
  rw [show ((i + 1 : Nat) : Int) = 1 + (i : Int) from by omega, show 10 - (i + 1) = 9 - i from by omega] at h9
  rw [show (1 + (i : Int)).toNat = i + 1 from by omega]
  exact h9
theorem far_small {i : Nat} (hi : i < 5) : Builtin.Range.small 0 (10 - (1 + (i : Int))) 1 = true ∧ Builtin.Range.rangeSize 0 (10 - (1 + (i : Int))) 1 = ((9 - i : Nat) : Int) := by
  have h : i = 0 ∨ i = 1 ∨ i = 2 ∨ i = 3 ∨ i = 4 := by omega
  rcases h with rfl | rfl | rfl | rfl | rfl <;> decide
end
end Mine
end
section
open PySem PySem.W PyProof.Rows PySem.Builtin PySem.Builtin.Str
namespace Mine
noncomputable section
noncomputable def sqTo (mt : List Int) (far j : Nat) : List Dat := ((List.range j).filter fun i => (((sameF mt far).drop i).take far).all _root_.id).map fun (i : Nat) => Dat.tuple [Dat.str (Txt.slice (textF mt) (some (i : Int)) (some ((i : Int) + 2 * (far : Int)))), Dat.int (i : Int)]
noncomputable def InJ (aS aF : Addr) (C R tlO : List (Addr × Obj)) (offA : List Addr) (m₀ : Str → Option Value) (mt : List Int) (i j : Nat) (m : Str → Option Value) (nx : List (Addr × Obj)) : Prop :=
  ∃ (vF : List Value) (cF : Nat) (vS : List Value) (cS : Nat) (tlN : List (Addr × Obj)), nx = (aS, listOf vS.toArray cS) :: (aF, listOf vF.toArray cF) :: (C ++ (tlN ++ R)) ∧ (∀ z, z ≠ Str.ofString "i" → (∀ p ∈ ([] : List (Str × Value)), z ≠ p.1) → ([] : List Str).contains z = false → m z = m₀ z) ∧
    DatAll (tlN ++ tlO) vF (sqUp mt i ++ sqTo mt (i + 1) j) ∧ DatAll (tlN ++ tlO) vS (sqUp mt i ++ sqTo mt (i + 1) j) ∧ OwnOff tlN offA
noncomputable abbrev inJof {h₀ h : Heap} {L : Addr} {m : Str → Option Value} (_F : Fr h₀ L h m) (aS aF : Addr) (C R tlO : List (Addr × Obj)) (offA : List Addr) (mt : List Int) (i : Nat) : Nat → (Str → Option Value) → List (Addr × Obj) → Prop := InJ aS aF C R tlO offA m mt i
noncomputable abbrev tupO (x : Str) (t : Tok) (k : Int) (u : Tok) : Obj := { cls := .type "tuple", data := .seq #[.str x t, .int k u] }
theorem bools_map : ∀ bs : List Bool, LSm.BoolsAre (bs.map Value.bool) bs
  | [] => .nil
  | b :: bs => .cons b (bools_map bs)
theorem pick_bools {bs : List Bool} {j i : Nat} (h : j + (i + 1) ≤ bs.length) : kms_pick (bs.map Value.bool).toArray.toList (some (j : Int)) (some ((j : Int) + (1 + (i : Int)))) = ((bs.drop j).take (i + 1)).map Value.bool := by
  unfold kms_pick kms_lo kms_hi
  simp only
  rw [if_neg (by omega), if_neg (by omega), List.length_map, Int.toNat_natCast, show ((j : Int) + (1 + (i : Int))).toNat = j + (i + 1) from by omega, Nat.min_eq_left (by omega), Nat.min_eq_left (by omega), show j + (i + 1) - j = i + 1 from by omega,
    ← List.map_drop, ← List.map_take]
theorem sqTo_len (mt : List Int) (far j : Nat) : (sqTo mt far j).length ≤ j := by
  unfold sqTo
  rw [List.length_map]
  exact Nat.le_trans (List.length_filter_le _ _) (by simp)
theorem sqUp_len (mt : List Int) : ∀ k, (sqUp mt k).length ≤ 11 * k
  | 0 => Nat.le_refl _
  | k + 1 => by
    have h1 := sqUp_len mt k
    have h2 : (sqOf mt (k + 1)).length ≤ 10 - 2 * (k + 1) + 1 := sqTo_len mt (k + 1) (10 - 2 * (k + 1) + 1)
    rw [sqUp, List.length_append]
    omega
theorem sq_len {mt : List Int} {i j : Nat} (hi : i < 5) (hj : j < 9 - 2 * i) : (sqUp mt i ++ sqTo mt (i + 1) j).length ≤ 64 := by
  have h1 := sqUp_len mt i
  have h2 := sqTo_len mt (i + 1) j
  rw [List.length_append]
  omega
theorem place_le {i j : Nat} (hi : i < 5) (hj : j < 9 - 2 * i) : j + 2 * (i + 1) ≤ 10 := by omega
theorem place_le2 {i j : Nat} (hi : i < 5) (hj : j < 9 - 2 * i) : j + (i + 1) ≤ 10 := by omega
theorem slice_sameI {mt : List Int} (h : ∀ v ∈ mt, v = 16 ∨ v = 35 ∨ v = 38) (hl : mt.length = 10) {p i : Nat} (hp : p + 2 * (i + 1) ≤ 10) :
    (Txt.slice (textF mt) (some (p : Int)) (some ((p : Int) + (1 + (i : Int)))) == Txt.slice (textF mt) (some ((p : Int) + (1 + (i : Int)))) (some ((p : Int) + 2 * (1 + (i : Int))))) = (((sameF mt (i + 1)).drop p).take (i + 1)).all _root_.id := by
  have h9 := slice_same h hl hp
  rw [show ((i + 1 : Nat) : Int) = 1 + (i : Int) from by omega] at h9
  exact h9
theorem allLt_mem {d : Nat} {q : Addr × Obj} {l : List (Addr × Obj)} (h : AllLt d l) (hq : q ∈ l) : @LT.lt Nat _ q.1 d := by
  induction l with
  | nil => cases hq
  | cons x l ih =>
    rcases List.mem_cons.mp hq with rfl | hq
    · exact h.1
    · exact ih h.2 hq
theorem sq_hit {mt : List Int} {i j : Nat} (h : (((sameF mt (i + 1)).drop j).take (i + 1)).all _root_.id = true) :
    sqTo mt (i + 1) (j + 1) = sqTo mt (i + 1) j ++ [Dat.tuple [Dat.str (Txt.slice (textF mt) (some (j : Int)) (some ((j : Int) + 2 * (1 + (i : Int))))), Dat.int (j : Int)]] := by
  unfold sqTo
  rw [List.range_succ, List.filter_append, List.map_append, List.filter_cons, if_pos h, show ((i + 1 : Nat) : Int) = 1 + (i : Int) from by omega]
  rfl
theorem sq_miss {mt : List Int} {i j : Nat} (h : (((sameF mt (i + 1)).drop j).take (i + 1)).all _root_.id = false) : sqTo mt (i + 1) (j + 1) = sqTo mt (i + 1) j := by
  unfold sqTo
  rw [List.range_succ, List.filter_append, List.map_append, List.filter_cons, if_neg (by rw [h]; exact Bool.false_ne_true)]
  simp
theorem dat_snoc {tlN tl more : List (Addr × Obj)} {vs : List Value} {ds es : List Dat} {D : Addr} {x : Str} {t u : Tok} {k : Int} (h : DatAll (tlN ++ tl) vs (es ++ ds)) (hs : ∀ q ∈ tlN, q ∈ more) (hm : (D, ({ cls := .type "tuple", data := .seq #[.str x t, .int k u] } : Obj)) ∈ more) :
    DatAll (more ++ tl) (vs ++ [.ref D]) (es ++ (ds ++ [Dat.tuple [Dat.str x, Dat.int k]])) := by
  rw [← List.append_assoc]
  refine (DatAll.mono ?_ h).append (.one (.tuple (vs := [.str x t, .int k u]) (n := 0) (List.mem_append.mpr (.inl hm)) (.cons (.str _ _) (.cons (.int _ _) .nil))))
  intro q hq
  exact (List.mem_append.mp hq).elim (fun h => List.mem_append.mpr (.inl (hs q h))) fun h => List.mem_append.mpr (.inr h)
theorem off_consL {D : Addr} {o : Obj} {own : List (Addr × Obj)} {adr : List Addr} (h : ∀ b ∈ adr, @LT.lt Nat _ b D) (h2 : OwnOff own adr) : OwnOff ((D, o) :: own) adr := by
  intro q hq b hb
  rcases List.mem_cons.mp hq with rfl | hq
  · exact Nat.ne_of_gt (h b hb)
  · exact h2 q hq b hb
theorem off_joinA {own : List (Addr × Obj)} {A B : List Addr} (h1 : OwnOff own A) (h2 : OwnOff own B) : OwnOff own (A ++ B) := fun p hp b hb => (List.mem_append.mp hb).elim (h1 p hp b) (h2 p hp b)
section
variable {h₀ h' : Heap} {L aS aF DS DF D8 : Addr} {o8 : Obj} {m' m₀ : Str → Option Value} {C R tl tlN ownI : List (Addr × Obj)} {offA : List Addr} {mt : List Int} {i j : Nat} {vF vS : List Value} {cF cS : Nat} {tS tF uS uF : Tok} {s₁ : Shared} {tk : Nat}
theorem in_hit (F : Fr h₀ L h' m') (hm : ∀ z, z ≠ Str.ofString "i" → m' z = m₀ z)
    (N : News h₀ L h' ((DS, ({ cls := .type "tuple", data := .seq #[.str (Txt.slice (textF mt) (some (j : Int)) (some ((j : Int) + 2 * (1 + (i : Int))))) tS, .int (j : Int) uS] } : Obj)) :: (DF, ({ cls := .type "tuple", data := .seq #[.str (Txt.slice (textF mt) (some (j : Int)) (some ((j : Int) + 2 * (1 + (i : Int))))) tF, .int (j : Int) uF] } : Obj)) :: (D8, o8) :: (aS, listOf (vS.toArray.push (.ref DS)) (cS + 1)) :: (aF, listOf (vF.toArray.push (.ref DF)) (cF + 1)) :: (C ++ (tlN ++ (R ++ ownI)))))
    (hdF : DatAll (tlN ++ tl) vF (sqUp mt i ++ sqTo mt (i + 1) j)) (hdS : DatAll (tlN ++ tl) vS (sqUp mt i ++ sqTo mt (i + 1) j)) (hall : (((sameF mt (i + 1)).drop j).take (i + 1)).all _root_.id = true)
    (hoN : OwnOff tlN offA) (hoI : OwnOff ownI (aS :: aF :: C.map (·.1))) (hoI2 : OwnOff ownI ((tlN ++ R).map (·.1))) (lS : ∀ b ∈ offA, @LT.lt Nat _ b DS) (lF : ∀ b ∈ offA, @LT.lt Nat _ b DF) (aS' : AllLt DS (tlN ++ (R ++ ownI))) (aF' : AllLt DF (tlN ++ (R ++ ownI))) :
    InvEndG h₀ L (InJ aS aF C R tl offA m₀ mt i (j + 1)) ownI s₁ { s₁ with heap := h', toks := tk } := by
  rw [List.push_toArray, List.push_toArray] at N
  refine InvEndG.intro F N ⟨vF ++ [.ref DF], cF + 1, vS ++ [.ref DS], cS + 1, (DS, tupO (Txt.slice (textF mt) (some (j : Int)) (some ((j : Int) + 2 * (1 + (i : Int))))) tS j uS) :: (DF, tupO (Txt.slice (textF mt) (some (j : Int)) (some ((j : Int) + 2 * (1 + (i : Int))))) tF j uF) :: tlN, rfl, fun z hz _ _ => hm z hz, ?_, ?_, off_consL lS (off_consL lF hoN)⟩ ?_ ?_ ?_
  · rw [sq_hit hall]
    exact dat_snoc hdF (fun q hq => .tail _ (.tail _ hq)) (.tail _ (.head _))
  · rw [sq_hit hall]
    exact dat_snoc hdS (fun q hq => .tail _ (.tail _ hq)) (.head _)
  · rw [List.map_cons, List.map_cons, List.map_append]
    refine off_joinA (A := aS :: aF :: C.map (·.1)) hoI ?_
    rw [List.cons_append, List.cons_append, List.map_cons, List.map_cons]
    have one : ∀ D : Addr, AllLt D (tlN ++ (R ++ ownI)) → OwnOff ownI [D] := fun D h => off_of_lt (allLt_app (allLt_app h).2).2
    exact off_cons (one _ aS') (off_cons (one _ aF') hoI2)
  · intro q hq
    simp only [List.mem_cons, List.mem_append] at hq ⊢
    rcases hq with h | h | h | (h | h | h) | h
    · exact .inr (.inr (.inr (.inl h)))
    · exact .inr (.inr (.inr (.inr (.inl h))))
    · exact .inr (.inr (.inr (.inr (.inr (.inl h)))))
    · exact .inl h
    · exact .inr (.inl h)
    · exact .inr (.inr (.inr (.inr (.inr (.inr (.inl h))))))
    · exact .inr (.inr (.inr (.inr (.inr (.inr (.inr (.inl h)))))))
  · intro q hq
    simp only [List.mem_cons, List.mem_append]
    exact .inr (.inr (.inr (.inr (.inr (.inr (.inr (.inr hq)))))))
theorem in_miss (F : Fr h₀ L h' m') (hm : ∀ z, z ≠ Str.ofString "i" → m' z = m₀ z)
    (N : News h₀ L h' ((D8, o8) :: (aS, listOf vS.toArray cS) :: (aF, listOf vF.toArray cF) :: (C ++ (tlN ++ (R ++ ownI)))))
    (hdF : DatAll (tlN ++ tl) vF (sqUp mt i ++ sqTo mt (i + 1) j)) (hdS : DatAll (tlN ++ tl) vS (sqUp mt i ++ sqTo mt (i + 1) j)) (hall : (((sameF mt (i + 1)).drop j).take (i + 1)).all _root_.id = false)
    (hoN : OwnOff tlN offA) (hoI : OwnOff ownI (aS :: aF :: C.map (·.1))) (hoI2 : OwnOff ownI ((tlN ++ R).map (·.1))) :
    InvEndG h₀ L (InJ aS aF C R tl offA m₀ mt i (j + 1)) ownI s₁ { s₁ with heap := h', toks := tk } := by
  refine InvEndG.intro F N ⟨vF, cF, vS, cS, tlN, rfl, fun z hz _ _ => hm z hz, ?_, ?_, hoN⟩ ?_ ?_ ?_
  · rw [sq_miss hall]
    exact hdF
  · rw [sq_miss hall]
    exact hdS
  · rw [List.map_cons, List.map_cons, List.map_append]
    exact off_joinA (A := aS :: aF :: C.map (·.1)) hoI hoI2
  · intro q hq
    simp only [List.mem_cons, List.mem_append] at hq ⊢
    rcases hq with h | h | h | h | h
    · exact .inr (.inl h)
    · exact .inr (.inr (.inl h))
    · exact .inr (.inr (.inr (.inl h)))
    · exact .inr (.inr (.inr (.inr (.inl h))))
    · exact .inr (.inr (.inr (.inr (.inr (.inl h)))))
  · intro q hq
    simp only [List.mem_cons, List.mem_append]
    exact .inr (.inr (.inr (.inr (.inr (.inr hq)))))
end
theorem in_small {i : Nat} (hi : i < 5) : Builtin.Range.small 0 (10 - 2 * (1 + (i : Int)) + 1) 1 = true ∧ Builtin.Range.rangeSize 0 (10 - 2 * (1 + (i : Int)) + 1) 1 = ((9 - 2 * i : Nat) : Int) := by
  have h : i = 0 ∨ i = 1 ∨ i = 2 ∨ i = 3 ∨ i = 4 := by omega
  rcases h with rfl | rfl | rfl | rfl | rfl <;> decide
end
end Mine
end
section
open PySem PySem.W PyProof.Rows PySem.Builtin
open Sem (wp)
namespace Mine9
theorem getAttrQ_miss_list {prog : Program} {w : World} {A : Around} {E : Value → Shared → Prop} {s : Shared} {a : Addr} {o : Obj} {xs : Array Value} {k : Nat} {name : Str} {Q : Option Value → Shared → Prop}
    (hx : s.heap.get? a = some o) (hc : o.cls = .type "list") (hdat : o.data = .seq xs k) (hd : o.dict = none) (hmiss : typeLookup (.type "list") name = pure none) (hname : (["__module__", "__name__", "__qualname__", "__doc__", "__annotations__"] : List Str).contains name = false) (hA : A.handled = none)
    (h : ∀ h' tk e, Heap.NewExcOf s.heap h' e "AttributeError" → Q none { s with heap := h', toks := tk }) (hsz : name.length + 100 ≤ sizeLine := by size_fits) :
    wpAny (model prog w) A (getAttr? (.ref a) name) Q E s := by
  obtain ⟨c, dct, dat, sl⟩ := o
  simp only at hc hdat hd
  subst hc hdat hd
  obtain ⟨hp, g, d, tk, os⟩ := s
  have hT : ∀ tk', (⟨hp, g, d, tk', os⟩ : Shared).TypeIs (.ref a) "list" := fun _ => ⟨_, hx, rfl⟩
  have f1 := sub_AttributeError
  have f3 := F.slot_list_getattribute.lookup
  have f4 := F.slot_list_getattribute.bind (.ref a)
  have f5 : ∀ _ : Unit, _ := fun _ => am_list_getattr_none
  have hm9 : ∀ _ : Unit, _ := fun _ => hmiss
  clear hmiss
  unfold getAttr? getAttrBy? getAttrBy
  repeat (any_goals (first | (with_reducible refine wpAny_of_eq (f5 ()) ?_) | assumption | exact hT _ | ((with_reducible show wpAny _ _ (call (Value.builtin "list.__getattribute__") _ _) _ _ _); refine call_meets F.slot_list_getattribute (hT _) am_entry_list_getattribute (F.args_list_getattribute_2 _ _) (meets_getattribute_miss_list a xs k sl name _ (hm9 ()) hname hsz) ⟨hx, hA, fun h' tk' e hx' => ?_⟩) | wp_step))
  obtain ⟨t', u', he⟩ := hx'.there
  show wpAny _ _ (getattributeRaised _ _ _ _ _ _ _) _ _ _
  unfold getattributeRaised
  repeat (any_goals (first | (with_reducible refine wpAny_of_eq (f5 ()) ?_) | assumption | wp_step))
  exact h _ _ _ hx'.of
theorem keys_miss : typeLookup (.type "list") "keys" = pure none := am_miss_of_fast (by decide +kernel)
end Mine9
end
section
open PySem PySem.W PyProof.Rows PySem.Builtin
open Sem (wp)
namespace Mine9
theorem entry_dict_update_loop : entryFor table "dict.update.loop" = some Builtin.«dict.update.loop» := entryFor_of_tree (by kernel_rfl)
theorem plain_dict_update_loop : plainId "dict.update.loop" = true := by decide +kernel
section
variable {prog : Program} {w : World} {K : Type} [DecidableEq K] {knd : KeyKind prog w K} {A : Around} {R : Result → Shared → Prop} {I : Addr} {fp wr : List Addr} {G : Array GenState → Array GenState → Prop} {n : Nat} {P : Nat → Value → Prop} {St : Nat → Shared → Prop}
theorem codeAny_dict_update_loop (W : WalksS prog w A.in1 I fp wr G n P St) (d : Addr) (hdf : d ∉ fp) (pairs : Nat → K × Value) (s₀ : Shared)
    (hval : ∀ i v, P i v → ∃ a key o c, v = .ref a ∧ a ≠ d ∧ a ∉ wr ∧ s₀.heap.get? a = some o ∧ o.cls = .type "tuple" ∧ o.data = .seq #[key, (pairs i).2] c ∧ knd.is (pairs i).1 key = true) (hb : n ≤ sizeLine) :
    ∀ (k i : Nat) (s : Shared) (j : Int) (t : Tok), n - i = k → i ≤ n → St i s → Moved (d :: wr) G s₀ s → s.heap.DictOf knd d (merged [] ((List.range i).map pairs)) →
      (∀ s', Moved (d :: wr) G s₀ s' → s'.heap.DictOf knd d (merged [] ((List.range n).map pairs)) → R (.ok (.ret .none)) s') →
      codeAny (model prog w) A (.builtin "dict.update.loop" ⟨[.ref d, .ref I, .int j t, .none], []⟩) R s := by
  have hdw : d ∉ wr := fun h => hdf (W.sub _ h)
  have hsub : ∀ b ∈ wr, b ∈ d :: wr := fun b hb => List.mem_cons_of_mem _ hb
  intro k
  induction k with
  | zero =>
    intro i s j t hk hi hst hm0 hS hR
    have hin : i = n := by omega
    subst hin
    refine codeAny_builtin entry_dict_update_loop ?_
    rw [Around.under_plainId plain_dict_update_loop _]
    show wpAny _ A.in1 (pyNext (.ref I) >>= _) _ _ s
    refine wpAny_bind (W.done s _ _ hst fun s' hm => ?_)
    show wpAny _ A.in1 (ret Value.none) _ _ s'
    exact wpAny_pure (hR s' (Moved.trans W.gtrans hm0 (hm.mono hsub)) (by
      obtain ⟨o, es, ep, ho, rest⟩ := hS
      exact ⟨o, es, ep, hm.heap d _ hdw ho, rest⟩))
  | succ k ih =>
    intro i s j t hk hi hst hm0 hS hR
    have hlt : i < n := by omega
    refine codeAny_builtin entry_dict_update_loop ?_
    rw [Around.under_plainId plain_dict_update_loop _]
    show wpAny _ A.in1 (pyNext (.ref I) >>= _) _ _ s
    refine wpAny_bind (W.item i s _ _ hlt hst fun v s' hP hst' hm => ?_)
    obtain ⟨a, key, o, c, rfl, had, haw, hao, hoc, hod, hkey⟩ := hval i v hP
    have hm1 := Moved.trans W.gtrans hm0 (hm.mono hsub)
    have hao' : s'.heap.get? a = some o := hm1.heap a o (by simp only [List.mem_cons, not_or]; exact ⟨had, haw⟩) hao
    have hS' : s'.heap.DictOf knd d (merged [] ((List.range i).map pairs)) := by
      obtain ⟨o, es, ep, ho, rest⟩ := hS
      exact ⟨o, es, ep, hm.heap d _ hdw ho, rest⟩
    have hlen : (merged ([] : List (K × Value)) ((List.range i).map pairs)).length ≤ sizeLine := by
      have h1 := merged_length_le ([] : List (K × Value)) ((List.range i).map pairs)
      simp at h1
      omega
    refine wpAny_bind (wpAny_holding ?_)
    refine wpAny_bind (wpAny_tryCatch ?_)
    unfold Builtin.Dict.pairItems
    refine wpAny_bind (wpAny_typeOf ⟨o, hao', hoc⟩ ?_)
    rw [if_pos (by decide)]
    refine wpAny_bind (wpAny_seqItems hao' hod ?_)
    refine wpAny_pure ?_
    show wpAny _ _ (holding [key, (pairs i).2] (dictSet d key (pairs i).2)) _ _ _
    refine wpAny_holding ?_
    unfold dictSet
    refine wpAny_holding ?_
    refine wpAny_bind (knd.pyHash hkey ?_)
    refine wpAny_dictSetHashed_pairs (s := { s' with toks := s'.toks + 1 }) hkey hS' (fun h' hd' hsb => ?_) hlen
    have hdi : h'.DictOf knd d (merged [] ((List.range (i + 1)).map pairs)) := by
      rw [List.range_succ, List.map_append]
      unfold merged at hd' ⊢
      rw [List.foldl_append]
      exact hd'
    refine wpAny_pure ⟨plainId_quiet plain_dict_update_loop _, ih (i + 1) _ _ _ (by omega) hlt (W.frame _ s' _ _ hst' (Nat.le_succ _) fun b hb o e => ?_) ?_ hdi hR⟩
    · rw [hsb.2 b (fun h : b = d => hdf (by rw [← h]; exact hb))]; exact e
    · refine Moved.then_heap hm1 (Nat.le_succ _) fun b o hb e => ?_
      rw [hsb.2 b (fun h : b = d => hb (by rw [h]; exact List.mem_cons_self))]; exact e
end
end Mine9
end
section
open PySem PySem.W PyProof.Rows PySem.Builtin
open Sem (wp)
namespace Mine9
section
variable {prog : Program} {w : World} {K : Type} [DecidableEq K] {knd : KeyKind prog w K} {A : Around} {E : Value → Shared → Prop} {s : Shared}
theorem call_dict_pairs {l : Addr} {items : Array Value} {nl : Nat} {pairs : Nat → K × Value} {Q : Value → Shared → Prop} (hh : A.handled = none) (hl : s.heap.get? l = some (W.listOf items nl))
    (hp : ∀ (i : Nat) v, items[i]? = some v → ∃ a key o c, v = .ref a ∧ s.heap.get? a = some o ∧ o.cls = .type "tuple" ∧ o.data = .seq #[key, (pairs i).2] c ∧ knd.is (pairs i).1 key = true) (hb : items.size ≤ sizeLine)
    (h : ∀ h' tk, h'.DictOf knd s.heap.objs.size (merged [] ((List.range items.size).map pairs)) → (∀ b o, s.heap.get? b = some o → h'.get? b = some o) → Q (.ref s.heap.objs.size) { s with heap := h', toks := tk }) :
    wpAny (model prog w) A (call (.type "dict") [.ref l]) Q E s := by
  have hls : l < s.heap.objs.size := Heap.lt_size hl
  refine callType_codes (Q₁ := fun obj s₁ => obj = .ref s.heap.objs.size ∧ s₁ = { s with heap := s.heap.push { cls := .type "dict", data := .dict #[] } }) F.kt_called_dict (F.kt_typeCall_dict_1 _) F.entry_dict_init (kt_code_dict_new _ ⟨rfl, rfl⟩) ?_
  rintro obj s₁ ⟨rfl, rfl⟩
  have hnew : (s.heap.push { cls := .type "dict", data := .dict #[] }).DictOf knd s.heap.objs.size [] := Heap.DictOf.new s.heap
  have hl1 : (s.heap.push { cls := .type "dict", data := .dict #[] }).get? l = some (W.listOf items nl) := Heap.get?_push_of_some _ hl
  refine ⟨hnew.typeIs, F.args_dict_init_2 _ _, ?_⟩
  unfold Builtin.«dict.__init__»
  refine wpAny_bind ?_
  unfold Builtin.Dict.selfAndRest
  refine wpAny_bind (wpAny_notOrdered_dict hnew.typeIs ?_)
  show wpAny _ _ (pure (s.heap.objs.size, [Value.ref l])) _ _ _
  refine wpAny_pure ?_
  show wpAny _ _ (Builtin.Dict.updateFrom "dict.__init__" s.heap.objs.size (.ref l) [] .none) _ _ _
  unfold Builtin.Dict.updateFrom
  refine wpAny_bind (wpAny_typeOf (T := "list") ⟨_, hl1, rfl⟩ ?_)
  rw [if_pos (by decide)]
  refine wpAny_bind (getAttrQ_miss_list hl1 rfl rfl rfl keys_miss (by decide +kernel) (by simp [hh]) fun h' tk e hx => ?_)
  rw [if_pos (show (Option.isNone (none : Option Value)) = true from rfl)]
  have hD : s.heap.objs.size < h'.objs.size := by
    have h9 := hx.keeps s.heap.objs.size _ (Heap.get?_push_size _ rfl)
    exact Heap.lt_size h9
  have hl2 : h'.get? l = some (W.listOf items nl) := hx.keeps _ _ hl1
  have hls2 : h'.IsList l items := ⟨_, hl2, rfl, nl, rfl⟩
  have hneI : l ≠ h'.objs.size := Nat.ne_of_lt (Heap.lt_size hl2)
  show wpAny _ _ (pyIter (.ref l) >>= _) _ _ _
  refine wpAny_bind (wpAny_pyIter_list hls2 ?_)
  have hh3 : A.in1.in1.handled = none := by simp [hh]
  have W := (Walks.list (prog := prog) (w := w) (A := A.in1.in1) hh3 h'.objs.size l hneI items).toS
  refine wpAny_pure ⟨plainId_quiet plain_dict_update_loop _, codeAny_dict_update_loop (knd := knd) W s.heap.objs.size ?_ pairs { s with heap := h'.push { cls := .type "list_iterator", data := .fields #[.ref l, .int 0 0] }, toks := tk } ?_ hb (items.size - 0) 0 _ _ _ (by omega) (Nat.zero_le _) ⟨⟨_, Heap.get?_push_size _ rfl, rfl, rfl⟩, hls2.push _⟩ (Moved.refl fun _ => rfl) ?_ ?_⟩
  · simp only [List.mem_cons, List.not_mem_nil, or_false, not_or]
    exact ⟨Nat.ne_of_lt hD, Nat.ne_of_gt hls⟩
  · intro i v hv
    obtain ⟨a, key, o, c, rfl, hao, hoc, hod, hkey⟩ := hp i v hv
    have ha : a < s.heap.objs.size := Heap.lt_size hao
    refine ⟨a, key, o, c, rfl, Nat.ne_of_lt ha, ?_, Heap.get?_push_of_some _ (hx.keeps _ _ (Heap.get?_push_of_some _ hao)), hoc, hod, hkey⟩
    simp only [List.mem_cons, List.not_mem_nil, or_false]
    exact Nat.ne_of_lt (Nat.lt_trans ha hD)
  · show Heap.DictOf knd (h'.push _) s.heap.objs.size []
    obtain ⟨o, es, ep, ho, rest⟩ := hnew
    exact ⟨o, es, ep, Heap.get?_push_of_some _ (hx.keeps _ _ ho), rest⟩
  · intro s' hm hd
    obtain ⟨h3, g3, d3, tk3, os3⟩ := s'
    have eg : g3 = s.gens := hm.gens
    have ed : d3 = s.drawn := hm.drawn
    have eo : os3 = s.os := hm.os
    subst eg; subst ed; subst eo
    refine ⟨rfl, h h3 tk3 hd fun b o e => ?_⟩
    have hbs : b < s.heap.objs.size := Heap.lt_size e
    refine hm.heap b o ?_ (Heap.get?_push_of_some _ (hx.keeps _ _ (Heap.get?_push_of_some _ e)))
    simp only [List.mem_cons, List.not_mem_nil, or_false, not_or]
    exact ⟨Nat.ne_of_lt hbs, Nat.ne_of_lt (Nat.lt_trans hbs hD)⟩
end
end Mine9
end
section
open PySem PySem.W PyProof.Rows PySem.Builtin
open Sem (wp)
namespace Mine9
noncomputable def seenK {K : Type} [DecidableEq K] (val : Nat → K) : Nat → List K
  | 0 => []
  | i + 1 => if val i ∈ seenK val i then seenK val i else seenK val i ++ [val i]
theorem seenK_len {K : Type} [DecidableEq K] (val : Nat → K) : ∀ i, (seenK val i).length ≤ i
  | 0 => Nat.le_refl _
  | i + 1 => by
    have h := seenK_len val i
    unfold seenK
    split
    · omega
    · rw [List.length_append, List.length_singleton]; omega
theorem mem_seen {K : Type} [DecidableEq K] (val : Nat → K) (i : Nat) (k : K) : k ∈ seenK val (i + 1) ↔ (k ∈ seenK val i ∨ k = val i) := by
  rw [show seenK val (i + 1) = if val i ∈ seenK val i then seenK val i else seenK val i ++ [val i] from rfl]
  by_cases h : val i ∈ seenK val i
  · rw [if_pos h]
    exact ⟨.inl, fun q => q.elim id fun e => e ▸ h⟩
  · rw [if_neg h, List.mem_append, List.mem_singleton]
section
variable {prog : Program} {w : World} {K : Type} [DecidableEq K] {knd : KeyKind prog w K} {A : Around} {R : Result → Shared → Prop} {I : Addr} {fp wr : List Addr} {G : Array GenState → Array GenState → Prop} {n : Nat} {P : Nat → Value → Prop} {St : Nat → Shared → Prop}
theorem codeAny_set_loop (W : WalksS prog w A.in1 I fp wr G n P St) (S : Addr) (hSf : S ∉ fp) (val : Nat → K) (s₀ : Shared)
    (hval : ∀ i v, P i v → knd.is (val i) v = true ∧ v.scannable = true) (hb : n + 1 < scanBound) :
    ∀ (k i : Nat) (s : Shared), n - i = k → i ≤ n → St i s → Moved (S :: wr) G s₀ s → s.heap.SetOf knd S (fun k' => decide (k' ∈ seenK val i)) (seenK val i).length →
      (∀ s', Moved (S :: wr) G s₀ s' → s'.heap.SetOf knd S (fun k' => decide (k' ∈ seenK val n)) (seenK val n).length → R (.ok (.ret .none)) s') →
      codeAny (model prog w) A (.builtin "set.update.loop" ⟨[.ref S, .ref I], []⟩) R s := by
  have hSw : S ∉ wr := fun h => hSf (W.sub _ h)
  have hsub : ∀ b ∈ wr, b ∈ S :: wr := fun b hb => List.mem_cons_of_mem _ hb
  intro k
  induction k with
  | zero =>
    intro i s hk hi hst hm0 hS hR
    have hin : i = n := by omega
    subst hin
    refine codeAny_builtin PyProof.Rows.F.entry_set_update_loop ?_
    rw [Around.under_plainId PyProof.Rows.F.plain_set_update_loop _]
    show wpAny _ A.in1 (pyNext (.ref I) >>= _) _ _ s
    refine wpAny_bind (W.done s _ _ hst fun s' hm => ?_)
    show wpAny _ A.in1 (ret Value.none) _ _ s'
    refine wpAny_pure (hR s' (Moved.trans W.gtrans hm0 (hm.mono hsub)) ?_)
    obtain ⟨o, es, ep, t, ho, rest⟩ := hS
    exact ⟨o, es, ep, t, hm.heap S _ hSw ho, rest⟩
  | succ k ih =>
    intro i s hk hi hst hm0 hS hR
    have hlt : i < n := by omega
    refine codeAny_builtin PyProof.Rows.F.entry_set_update_loop ?_
    rw [Around.under_plainId PyProof.Rows.F.plain_set_update_loop _]
    show wpAny _ A.in1 (pyNext (.ref I) >>= _) _ _ s
    refine wpAny_bind (W.item i s _ _ hlt hst fun v s' hP hst' hm => ?_)
    obtain ⟨hkey, hsc⟩ := hval i v hP
    have hm1 := Moved.trans W.gtrans hm0 (hm.mono hsub)
    have hS' : s'.heap.SetOf knd S (fun k' => decide (k' ∈ seenK val i)) (seenK val i).length := by
      obtain ⟨o, es, ep, t, ho, rest⟩ := hS
      exact ⟨o, es, ep, t, hm.heap S _ hSw ho, rest⟩
    have hroom : (seenK val i).length + 1 < scanBound := by have := seenK_len val i; omega
    show wpAny _ A.in1 (holding [v] (setAdd S v) >>= _) _ _ s'
    refine wpAny_bind (wpAny_holding ?_)
    unfold setAdd
    refine wpAny_holding ?_
    refine wpAny_bind (knd.pyHash hkey ?_)
    refine wpAny_setAddHashed_of (s := { s' with toks := s'.toks + 1 }) hkey hsc hS' hroom fun h' hsb hS2 => ?_
    have hSi : h'.SetOf knd S (fun k' => decide (k' ∈ seenK val (i + 1))) (seenK val (i + 1)).length := by
      have e1 : (fun k' => decide (k' ∈ seenK val i) || decide (k' = val i)) = fun k' => decide (k' ∈ seenK val (i + 1)) := by
        funext k'
        rw [← Bool.decide_or]
        exact decide_eq_decide.mpr (mem_seen val i k').symm
      have e2 : (if decide (val i ∈ seenK val i) = true then (seenK val i).length else (seenK val i).length + 1) = (seenK val (i + 1)).length := by
        rw [show seenK val (i + 1) = if val i ∈ seenK val i then seenK val i else seenK val i ++ [val i] from rfl]
        by_cases h : val i ∈ seenK val i
        · rw [if_pos (decide_eq_true h), if_pos h]
        · rw [if_neg (by simpa using h), if_neg h, List.length_append, List.length_singleton]
      rw [← e1, ← e2]
      exact hS2
    refine wpAny_pure ⟨plainId_quiet PyProof.Rows.F.plain_set_update_loop _, ih (i + 1) _ (by omega) hlt (W.frame _ s' _ _ hst' (Nat.le_succ _) fun b hb o e => ?_) ?_ hSi hR⟩
    · rw [hsb.2 b (fun h : b = S => hSf (by rw [← h]; exact hb))]; exact e
    · refine Moved.then_heap hm1 (Nat.le_succ _) fun b o hb e => ?_
      rw [hsb.2 b (fun h : b = S => hb (by rw [h]; exact List.mem_cons_self))]; exact e
end
theorem sub_str_set : isSubtype (.type "str") (.type "set") = pure false := by rw [isSubtype_type]; kernel_rfl
theorem sub_str_frozenset : isSubtype (.type "str") (.type "frozenset") = pure false := by rw [isSubtype_type]; kernel_rfl
section
variable {prog : Program} {w : World} {A : Around} {E : Value → Shared → Prop} {s : Shared}
theorem call_set_str {y : Str} {t : Tok} {Q : Value → Shared → Prop} (hh : A.handled = none) (ha : y.cps.all (· < 128) = true) (hb : y.cps.size + 1 < scanBound)
    (h : ∀ (h' : Heap) (tk : Nat), h'.SetOf (PySem.strKind prog w) s.heap.objs.size (fun k' => decide (k' ∈ seenK (fun i => (⟨#[y.cps.getD i 0]⟩ : Str)) y.cps.size)) (seenK (fun i => (⟨#[y.cps.getD i 0]⟩ : Str)) y.cps.size).length →
      (∀ b o, s.heap.get? b = some o → h'.get? b = some o) → Q (.ref s.heap.objs.size) { s with heap := h', toks := tk }) :
    wpAny (model prog w) A (call (.type "set") [.str y t]) Q E s := by
  obtain ⟨c, tl, hmro⟩ := PySem.F.called_set.mro
  have hmade := PySem.F.called_set.made
  have hsub := PySem.F.called_set.sub
  refine wpAny_call (codeAny_of_tree ?_)
  show wpAny _ _ (callAny (.type "set") _) _ _ _
  refine wpAny_pure ⟨Code.quiet_builtin _ (by decide +kernel), codeAny_builtin PySem.F.entry_type_call ?_⟩
  rw [Around.under_plain (weight_type_call_type "set" [.str y t] []) rfl]
  have h1 := PySem.F.called_set.notType
  have h2 := PySem.F.called_set.canCreate
  have hct := PySem.F.typeCall_set_1 (.str y t)
  repeat (any_goals (first | assumption | wp_step))
  refine codeAny_mono (PySem.code_set_new_1 (.str y t) (E := E) (Q₁ := fun obj s₁ => obj = .ref s.heap.objs.size ∧ ∃ led : Bool, s₁ = { s with heap := s.heap.push { cls := .type "set", dict := none, data := .set #[] 0 (.fresh 0 0 led) } }) fun led => ⟨rfl, led, rfl⟩) fun r s₁ hr => ?_
  match r, hr with
  | .error e, hr => exact hr
  | .ok (.ret obj), hr =>
    obtain ⟨rfl, led, rfl⟩ := hr
    have hS : (s.heap.push { cls := .type "set", dict := none, data := .set #[] 0 (.fresh 0 0 led) }).get? s.heap.objs.size = some { cls := .type "set", dict := none, data := .set #[] 0 (.fresh 0 0 led) } := Heap.get?_push_size _ rfl
    have hT : Shared.TypeIs { s with heap := s.heap.push { cls := .type "set", dict := none, data := .set #[] 0 (.fresh 0 0 led) } } (.ref s.heap.objs.size) "set" := ⟨_, hS, rfl⟩
    have hli := PySem.F.called_set.init.lookup
    have hbi := PySem.F.called_set.init.bind (.ref s.heap.objs.size)
    repeat (any_goals (first | assumption | wp_step))
    refine codeAny_mono (codeAny_call_builtin (R := wants (fun r s₂ => r = .none ∧ Q (.ref s.heap.objs.size) s₂) E) PySem.F.called_set.init.plain PySem.F.entry_set_init (PySem.check_set_init_1 hT ?_)) fun r₂ s₂ hr₂ => ?_
    · have f1 := sub_str_set
      have f2 := sub_str_frozenset
      have hne : (Value.type "str" == Value.type "dict") = false := by decide
      unfold Builtin.«set.__init__» noKeywords Builtin.Frozenset.updateFrom
      generalize hPI : pyIter = PI
      wp_walk
      subst hPI
      refine wpAny_pyIter_ascii ha ?_
      refine wpAny_bind (wpAny_runValue ?_)
      have hh3 : A.in1.in1.in1.handled = none := by simp [hh]
      have W := (Walks.strAscii (prog := prog) (w := w) (A := A.in1.in1.in1) hh3 (s.heap.push { cls := .type "set", dict := none, data := .set #[] 0 (.fresh 0 0 led) }).objs.size y t).toS
      refine codeAny_set_loop (knd := PySem.strKind prog w) W s.heap.objs.size ?_ (fun i => (⟨#[y.cps.getD i 0]⟩ : Str)) { s with heap := (s.heap.push { cls := .type "set", dict := none, data := .set #[] 0 (.fresh 0 0 led) }).push { cls := .type "str_ascii_iterator", data := .fields #[.str y t, .int 0 0] } } ?_ hb (y.cps.size - 0) 0 _ (by omega) (Nat.zero_le _) ⟨_, Heap.get?_push_size _ rfl, rfl, rfl⟩ (Moved.refl fun _ => rfl) ?_ ?_
      · rw [Heap.size_push]
        simp only [List.mem_cons, List.not_mem_nil, or_false]
        exact Nat.ne_of_lt (Nat.lt_succ_self _)
      · rintro i v ⟨ch, t', hc, rfl⟩
        refine ⟨?_, rfl⟩
        have e : y.cps.getD i 0 = ch := by rw [Array.getD_eq_getD_getElem?, hc]; rfl
        rw [e]
        exact strKind_is _ _ _ _
      · exact SetOf_congr ((PyProof.Rows.setObjOf_fresh (knd := PySem.strKind prog w) led).setOf (Heap.get?_push_of_some _ hS) (by unfold scanBound; omega)) (fun _ => rfl) rfl
      · intro s' hm hd
        obtain ⟨h3, g3, d3, tk3, os3⟩ := s'
        have eg : g3 = s.gens := hm.gens
        have ed : d3 = s.drawn := hm.drawn
        have eo : os3 = s.os := hm.os
        subst eg; subst ed; subst eo
        show wpAny _ _ _ _ _ _
        refine wpAny_pure ?_
        show wpAny _ _ (ret Value.none) _ _ _
        refine wpAny_pure ⟨rfl, h h3 tk3 hd fun b o e => ?_⟩
        have hbs : b < s.heap.objs.size := Heap.lt_size e
        refine hm.heap b o ?_ (Heap.get?_push_of_some _ (Heap.get?_push_of_some _ e))
        rw [Heap.size_push]
        simp only [List.mem_cons, List.not_mem_nil, or_false, not_or]
        exact ⟨Nat.ne_of_lt hbs, Nat.ne_of_lt (Nat.lt_succ_of_lt hbs)⟩
    · match r₂, hr₂ with
      | .error e, hr₂ => exact hr₂
      | .ok (.ret r), hr₂ =>
        obtain ⟨rfl, hq⟩ := hr₂
        repeat (any_goals (first | assumption | wp_step))
end
end Mine9
end
section
open PySem PySem.W PyProof.Rows PySem.Builtin PySem.Builtin.Str
namespace Mine
open Mine9
noncomputable def mkD (p : Str × Int) : Dat := Dat.tuple [Dat.str p.1, Dat.int p.2]
theorem pairs_of {tl : List (Addr × Obj)} : ∀ {vs : List Value} {sq : List (Str × Int)}, DatAll tl vs (sq.map mkD) → ∃ prs : List (Str × Value), prs.map (·.1) = sq.map (·.1) ∧ IntsAre (prs.map (·.2)) (sq.map (·.2)) ∧
    ∀ (i : Nat) (v : Value), vs[i]? = some v → ∃ a x t n y, v = .ref a ∧ (a, ({ cls := .type "tuple", data := .seq #[.str x t, y] n } : Obj)) ∈ tl ∧ prs[i]? = some (x, y)
  | vs, [], h => by
    cases h
    exact ⟨[], rfl, .nil, fun i v e => by simp at e⟩
  | vs, p :: sq, h => by
    rw [List.map_cons] at h
    cases h with
    | cons h1 h2 =>
      obtain ⟨prs, e1, e2, e3⟩ := pairs_of h2
      unfold mkD at h1
      cases h1 with
      | tuple hm hd =>
        cases hd with
        | cons k1 hd =>
          cases hd with
          | cons k2 hd =>
            cases hd
            cases k1
            cases k2
            rename_i a9 n9 t8 t9
            refine ⟨(p.1, .int p.2 t9) :: prs, by rw [List.map_cons, List.map_cons, e1], .cons _ _ e2, ?_⟩
            intro i v e
            cases i with
            | zero =>
              rw [List.getElem?_cons_zero] at e
              cases e
              exact ⟨_, _, _, _, _, rfl, hm, rfl⟩
            | succ i =>
              rw [List.getElem?_cons_succ] at e
              obtain ⟨a, x, t, n, y, q1, q2, q3⟩ := e3 i v e
              exact ⟨a, x, t, n, y, q1, q2, by rw [List.getElem?_cons_succ]; exact q3⟩
section
variable {prog : Program} {w : World} {A : Around} {E : Value → Shared → Prop} {s : Shared} {h₀ : Heap} {L l : Addr} {m : Str → Option Value} {news : List (Addr × Obj)}
theorem news_new {h' : Heap} {o : Obj} (F : Fr h₀ L s.heap m) (N : News h₀ L s.heap news) (up : ∀ b o, s.heap.get? b = some o → h'.get? b = some o) (ho : h'.get? s.heap.objs.size = some o) : News h₀ L h' ((s.heap.objs.size, o) :: news) := by
  intro p hp
  rcases List.mem_cons.mp hp with rfl | hp
  · exact ⟨ho, Nat.ne_of_gt F.ns.lt, next_is_new F⟩
  · exact ⟨up _ _ (N p hp).1, (N p hp).2⟩
theorem dict_pairs_N {vs : List Value} {nl : Nat} {sq : List (Str × Int)} {tl : List (Addr × Obj)} {Q : Value → Shared → Prop} (F : Fr h₀ L s.heap m) (N : News h₀ L s.heap news) (hbig : h₀.NoLimit) (hh : A.handled = none) (hm : (l, W.listOf vs.toArray nl) ∈ news)
    (hd : DatAll tl vs (sq.map mkD)) (hsub : ∀ p ∈ tl, p ∈ news) (hsz : vs.length ≤ sizeLine)
    (h : ∀ (D : Addr) h' tk o (prs : List (Str × Value)), prs.map (·.1) = sq.map (·.1) → IntsAre (prs.map (·.2)) (sq.map (·.2)) → Fr h₀ L h' m → News h₀ L h' ((D, o) :: news) → o.IsDictOf (PySem.strKind prog w) (merged [] prs) → AllLt D news → (D == sysModules) = false → Q (.ref D) { s with heap := h', toks := tk }) :
    wpAny (model prog w) A (call (.type "dict") [.ref l]) Q E s := by
  obtain ⟨prs, e1, e2, e3⟩ := pairs_of hd
  have hl : vs.length = prs.length := by
    rw [hd.length, List.length_map, ← List.length_map (f := (·.1)) (as := prs), e1, List.length_map]
  refine call_dict_pairs (knd := PySem.strKind prog w) (pairs := fun i => prs.getD i (Str.ofString "", .none)) hh (N _ hm).1 ?_ (by rw [List.size_toArray]; exact hsz) ?_
  · intro i v hv
    rw [List.getElem?_toArray] at hv
    obtain ⟨a, x, t, n, y, rfl, hmem, hp⟩ := e3 i v hv
    refine ⟨a, .str x t, _, n, rfl, (N _ (hsub _ hmem)).1, rfl, ?_, ?_⟩
    · rw [List.getD_eq_getElem?_getD, hp]; rfl
    · rw [List.getD_eq_getElem?_getD, hp]; exact strKind_is _ _ _ _
  · intro h' tk hd' up
    obtain ⟨o, ho, hD⟩ := Heap.dictOf_iff.mp hd'
    have er : (List.range vs.toArray.size).map (fun i => prs.getD i (Str.ofString "", .none)) = prs := by
      rw [List.size_toArray, hl]
      refine List.ext_getElem (by simp) fun i h1 h2 => ?_
      rw [List.getElem_map, List.getElem_range, List.getD_eq_getElem?_getD, List.getElem?_eq_getElem h2]
      rfl
    rw [er] at hD
    exact h _ h' tk o prs e1 e2 (F.keeps up) (news_new F N up ho) hD (allLt_of fun p hp => Heap.lt_size (N p hp).1) (F.notModules (modules_low hbig))
theorem set_str_N {y : Str} {t : Tok} {Q : Value → Shared → Prop} (F : Fr h₀ L s.heap m) (N : News h₀ L s.heap news) (hh : A.handled = none) (ha : y.cps.all (· < 128) = true) (hb : y.cps.size + 1 < scanBound)
    (h : ∀ (D : Addr) h' tk o, Fr h₀ L h' m → News h₀ L h' ((D, o) :: news) → o.SetObjOf (PySem.strKind prog w) (fun k' => decide (k' ∈ seenK (fun i => (⟨#[y.cps.getD i 0]⟩ : Str)) y.cps.size)) (seenK (fun i => (⟨#[y.cps.getD i 0]⟩ : Str)) y.cps.size).length → AllLt D news → Q (.ref D) { s with heap := h', toks := tk }) :
    wpAny (model prog w) A (call (.type "set") [.str y t]) Q E s := by
  refine call_set_str hh ha hb fun h' tk hS up => ?_
  obtain ⟨o, ho, hso⟩ := hS.objOf
  exact h _ h' tk o (F.keeps up) (news_new F N up ho) hso (allLt_of fun p hp => Heap.lt_size (N p hp).1)
end
end Mine
end
section
open PySem PySem.W PyProof.Rows PySem.Builtin PySem.Builtin.Str
namespace Mine
noncomputable def sqLo (mt : List Int) (far j : Nat) : List (Str × Int) := ((List.range j).filter fun i => (((sameF mt far).drop i).take far).all _root_.id).map fun (i : Nat) => (Txt.slice (textF mt) (some (i : Int)) (some ((i : Int) + 2 * (far : Int))), (i : Int))
noncomputable def sqLu (mt : List Int) : Nat → List (Str × Int)
  | 0 => []
  | k + 1 => sqLu mt k ++ sqLo mt (k + 1) (10 - 2 * (k + 1) + 1)
theorem sqUp_eq (mt : List Int) : ∀ k, sqUp mt k = (sqLu mt k).map mkD
  | 0 => rfl
  | k + 1 => by
    rw [sqUp, sqLu, List.map_append, sqUp_eq mt k]
    congr 1
    unfold sqOf sqLo
    rw [List.map_map]
    rfl
theorem sqLo_in {mt : List Int} {far j : Nat} {p : Str × Int} (h : p ∈ sqLo mt far j) : ∃ i, i < j ∧ p = (Txt.slice (textF mt) (some (i : Int)) (some ((i : Int) + 2 * (far : Int))), (i : Int)) := by
  unfold sqLo at h
  obtain ⟨i, hi, rfl⟩ := List.mem_map.mp h
  exact ⟨i, List.mem_range.mp (List.mem_filter.mp hi).1, rfl⟩
theorem sqLu_in {mt : List Int} : ∀ {k : Nat} {p : Str × Int}, p ∈ sqLu mt k → ∃ i far : Nat, far ≤ k ∧ p = (Txt.slice (textF mt) (some (i : Int)) (some ((i : Int) + 2 * (far : Int))), (i : Int))
  | 0, p, h => absurd h List.not_mem_nil
  | k + 1, p, h => by
    rw [sqLu] at h
    rcases List.mem_append.mp h with h | h
    · obtain ⟨i, far, h1, h2⟩ := sqLu_in h
      exact ⟨i, far, by omega, h2⟩
    · obtain ⟨i, _, h2⟩ := sqLo_in h
      exact ⟨i, k + 1, Nat.le_refl _, h2⟩
theorem slice_small (mt : List Int) (hl : mt.length = 10) (i far : Nat) : (Txt.slice (textF mt) (some (i : Int)) (some ((i : Int) + 2 * (far : Int)))).length ≤ 10 := by
  have e := slice_list (x := textF mt) (a := i) (b := i + 2 * far) (by omega)
  rw [show ((i + 2 * far : Nat) : Int) = (i : Int) + 2 * (far : Int) from by omega] at e
  show Array.size _ ≤ 10
  rw [← Array.length_toList, e, List.length_take, List.length_drop]
  have hx : (textF mt).cps.toList.length = 10 := by
    rw [Array.length_toList]
    exact text_len hl
  omega
theorem slice_letters {mt : List Int} (h : ∀ v ∈ mt, v = 16 ∨ v = 35 ∨ v = 38) (i far : Nat) : ∀ c ∈ (Txt.slice (textF mt) (some (i : Int)) (some ((i : Int) + 2 * (far : Int)))).cps.toList, c = 16 ∨ c = 35 ∨ c = 38 := by
  have e := slice_list (x := textF mt) (a := i) (b := i + 2 * far) (by omega)
  rw [show ((i + 2 * far : Nat) : Int) = (i : Int) + 2 * (far : Int) from by omega] at e
  rw [e]
  intro c hc
  have hc := List.mem_of_mem_drop (List.mem_of_mem_take hc)
  unfold textF at hc
  obtain ⟨v, hv, rfl⟩ := List.mem_map.mp hc
  rcases h v hv with rfl | rfl | rfl <;> decide
theorem sqOk {mt : List Int} (hmi : ∀ v ∈ mt, v = 16 ∨ v = 35 ∨ v = 38) : ∀ k, ∀ d ∈ sqUp mt k, kqdOk 8 d = true := by
  intro k d hd
  rw [sqUp_eq] at hd
  obtain ⟨p, hp, rfl⟩ := List.mem_map.mp hd
  obtain ⟨i, far, _, rfl⟩ := sqLu_in hp
  have h := slice_letters hmi i far
  unfold mkD
  simp only [kqdOk, List.all_cons, List.all_nil, Bool.and_true]
  show Array.all _ _ = true
  rw [← Array.all_toList, List.all_eq_true]
  intro c hc
  rcases h c hc with rfl | rfl | rfl <;> decide
end Mine
namespace Mine
noncomputable def storeI (acc : List (Str × Int)) (k : Str) (v : Int) : List (Str × Int) := if acc.any (fun kv => kv.1 = k) then acc.map (fun kv => if kv.1 = k then (kv.1, v) else kv) else acc ++ [(k, v)]
noncomputable def lastL (mt : List Int) : List (Str × Int) := (sqLu mt 5).foldl (fun acc kv => storeI acc kv.1 kv.2) []
theorem ints_snoc9 {i : Int} {t : Tok} : ∀ {vs : List Value} {ns : List Int}, IntsAre vs ns → IntsAre (vs ++ [.int i t]) (ns ++ [i])
  | _, _, .nil => .cons i t .nil
  | _, _, .cons j u r => .cons j u (ints_snoc9 r)
theorem any_fst {k : Str} : ∀ {acc : List (Str × Value)} {aI : List (Str × Int)}, acc.map (·.1) = aI.map (·.1) → acc.any (fun kv => kv.1 = k) = aI.any (fun kv => kv.1 = k)
  | [], [], _ => rfl
  | [], _ :: _, h => by cases h
  | _ :: _, [], h => by cases h
  | p :: acc, q :: aI, h => by
    rw [List.map_cons, List.map_cons] at h
    injection h with h1 h2
    rw [List.any_cons, List.any_cons, h1, any_fst h2]
theorem store_fst {k : Str} {v : Int} {t : Tok} : ∀ {acc : List (Str × Value)} {aI : List (Str × Int)}, acc.map (·.1) = aI.map (·.1) → IntsAre (acc.map (·.2)) (aI.map (·.2)) →
    (acc.map (fun kv => if kv.1 = k then (kv.1, Value.int v t) else kv)).map (·.1) = (aI.map (fun kv => if kv.1 = k then (kv.1, v) else kv)).map (·.1) ∧
    IntsAre ((acc.map (fun kv => if kv.1 = k then (kv.1, Value.int v t) else kv)).map (·.2)) ((aI.map (fun kv => if kv.1 = k then (kv.1, v) else kv)).map (·.2))
  | [], [], _, _ => ⟨rfl, .nil⟩
  | [], _ :: _, h, _ => by cases h
  | _ :: _, [], h, _ => by cases h
  | (p1, p2) :: acc, (q1, q2) :: aI, h, hi => by
    simp only [List.map_cons, List.cons.injEq] at h hi
    obtain ⟨rfl, h2⟩ := h
    cases hi with
    | cons _ u r =>
      obtain ⟨a, b⟩ := store_fst (k := k) (v := v) (t := t) h2 r
      by_cases e : p1 = k
      · simp only [List.map_cons, if_pos e]
        exact ⟨by rw [a], .cons _ _ b⟩
      · simp only [List.map_cons, if_neg e]
        exact ⟨by rw [a], .cons _ _ b⟩
theorem stored_ints {acc : List (Str × Value)} {aI : List (Str × Int)} (k : Str) (v : Int) (t : Tok) (h : acc.map (·.1) = aI.map (·.1)) (hi : IntsAre (acc.map (·.2)) (aI.map (·.2))) :
    (stored acc k (.int v t)).map (·.1) = (storeI aI k v).map (·.1) ∧ IntsAre ((stored acc k (.int v t)).map (·.2)) ((storeI aI k v).map (·.2)) := by
  unfold stored storeI
  rw [any_fst h]
  by_cases e : (aI.any fun kv => decide (kv.1 = k)) = true
  · rw [if_pos e, if_pos e]
    exact store_fst h hi
  · rw [if_neg e, if_neg e]
    refine ⟨by simp [h], ?_⟩
    rw [List.map_append, List.map_append]
    exact ints_snoc9 hi
theorem merged_ints : ∀ {prs : List (Str × Value)} {sq : List (Str × Int)} {acc : List (Str × Value)} {aI : List (Str × Int)}, prs.map (·.1) = sq.map (·.1) → IntsAre (prs.map (·.2)) (sq.map (·.2)) → acc.map (·.1) = aI.map (·.1) → IntsAre (acc.map (·.2)) (aI.map (·.2)) →
    (merged acc prs).map (·.1) = (sq.foldl (fun acc kv => storeI acc kv.1 kv.2) aI).map (·.1) ∧ IntsAre ((merged acc prs).map (·.2)) ((sq.foldl (fun acc kv => storeI acc kv.1 kv.2) aI).map (·.2))
  | [], [], _, _, _, _, h, hi => ⟨h, hi⟩
  | [], _ :: _, _, _, h, _, _, _ => by cases h
  | _ :: _, [], _, _, h, _, _, _ => by cases h
  | (p1, p2) :: prs, (q1, q2) :: sq, acc, aI, h, hp, ha, hi => by
    simp only [List.map_cons, List.cons.injEq] at h hp
    obtain ⟨rfl, h2⟩ := h
    cases hp with
    | cons _ u r =>
      obtain ⟨a, b⟩ := stored_ints p1 q2 u ha hi
      exact merged_ints (prs := prs) (sq := sq) h2 r a b
theorem merged_last {mt : List Int} {prs : List (Str × Value)} (e1 : prs.map (·.1) = (sqLu mt 5).map (·.1)) (e2 : IntsAre (prs.map (·.2)) ((sqLu mt 5).map (·.2))) : IntsAre ((merged [] prs).map (·.2)) ((lastL mt).map (·.2)) := (merged_ints (acc := []) (aI := []) e1 e2 rfl .nil).2
end Mine
end
section
local macro_rules | `(tactic| omega) => `(tactic| grind)
section
namespace Mine
noncomputable def anyN (k : Nat) : List (Nat × Nat) → Bool
  | [] => false
  | p :: r => match Nat.beq p.1 k with | true => true | false => anyN k r
noncomputable def repN (k v : Nat) : List (Nat × Nat) → List (Nat × Nat)
  | [] => []
  | p :: r => match Nat.beq p.1 k with | true => (p.1, v) :: repN k v r | false => p :: repN k v r
noncomputable def putN (d : List (Nat × Nat)) (k v : Nat) : List (Nat × Nat) := match anyN k d with | true => repN k v d | false => d ++ [(k, v)]
noncomputable def sqN (w : Nat) : Nat → Nat → Nat → List (Nat × Nat) → List (Nat × Nat)
  | 0, _, _, d => d
  | k + 1, f, i, d => match Nat.beq (w / 4 ^ i % 4 ^ f) (w / 4 ^ (i + f) % 4 ^ f) with
    | true => sqN w k f (i + 1) (putN d (w / 4 ^ i % 4 ^ (2 * f) + 4 ^ (2 * f)) i)
    | false => sqN w k f (i + 1) d
noncomputable def cntN (i : Nat) : List (Nat × Nat) → Nat
  | [] => 0
  | p :: r => match Nat.beq p.2 i with | true => Nat.succ (cntN i r) | false => cntN i r
noncomputable def dictN (w : Nat) : List (Nat × Nat) := sqN w 1 5 0 (sqN w 3 4 0 (sqN w 5 3 0 (sqN w 7 2 0 (sqN w 9 1 0 []))))
noncomputable def okN (d : List (Nat × Nat)) (m : Nat) : Bool :=
  Nat.ble (d.length + m) 10 && (Nat.ble (cntN 0 d) 2 && Nat.ble (cntN 1 d) 2 && Nat.ble (cntN 2 d) 2 && Nat.ble (cntN 3 d) 2 && Nat.ble (cntN 4 d) 2 && Nat.ble (cntN 5 d) 2 && Nat.ble (cntN 6 d) 2 && Nat.ble (cntN 7 d) 2 && Nat.ble (cntN 8 d) 2 && Nat.ble (cntN 9 d) 2)
noncomputable def chkN (w m : Nat) : Bool := okN (dictN w) m
noncomputable def allR : Nat → Nat → Nat → Nat → Bool
  | 0, w, _, m => chkN w m
  | n + 1, w, p, m => match m with
    | 0 => allR n w (p * 4) 1
    | 1 => allR n w (p * 4) 1 && allR n (w + p) (p * 4) 2
    | 2 => allR n w (p * 4) 2 && allR n (w + p) (p * 4) 2 && allR n (w + 2 * p) (p * 4) 3
    | m => allR n w (p * 4) m && allR n (w + p) (p * 4) m && allR n (w + 2 * p) (p * 4) m
theorem st0 (n w p : Nat) (a : allR n w (p * 4) 1 = true) : allR (n + 1) w p 0 = true := by
  rw [allR]; exact a
theorem st1 (n w p : Nat) (a : allR n w (p * 4) 1 = true) (b : allR n (w + p) (p * 4) 2 = true) : allR (n + 1) w p 1 = true := by
  rw [allR, a, b]; rfl
theorem st2 (n w p : Nat) (a : allR n w (p * 4) 2 = true) (b : allR n (w + p) (p * 4) 2 = true) (c : allR n (w + 2 * p) (p * 4) 3 = true) : allR (n + 1) w p 2 = true := by
  rw [allR, a, b, c]; rfl
theorem st3 (n w p : Nat) (a : allR n w (p * 4) 3 = true) (b : allR n (w + p) (p * 4) 3 = true) (c : allR n (w + 2 * p) (p * 4) 3 = true) : allR (n + 1) w p 3 = true := by
  have e : allR (n + 1) w p 3 = (allR n w (p * 4) 3 && allR n (w + p) (p * 4) 3 && allR n (w + 2 * p) (p * 4) 3) := rfl
  rw [e, a, b, c]; rfl
set_option maxHeartbeats 8000000 in
theorem t5_0 : allR 5 0 1024 1 = true := by decide +kernel
set_option maxHeartbeats 8000000 in
theorem t5_1 : allR 5 256 1024 2 = true := by decide +kernel
set_option maxHeartbeats 8000000 in
theorem t5_2 : allR 5 64 1024 2 = true := by decide +kernel
set_option maxHeartbeats 8000000 in
theorem t5_3 : allR 5 320 1024 2 = true := by decide +kernel
set_option maxHeartbeats 8000000 in
theorem t5_4 : allR 5 576 1024 3 = true := by decide +kernel
set_option maxHeartbeats 8000000 in
theorem t5_5 : allR 5 16 1024 2 = true := by decide +kernel
set_option maxHeartbeats 8000000 in
theorem t5_6 : allR 5 272 1024 2 = true := by decide +kernel
set_option maxHeartbeats 8000000 in
theorem t5_7 : allR 5 528 1024 3 = true := by decide +kernel
set_option maxHeartbeats 8000000 in
theorem t5_8 : allR 5 80 1024 2 = true := by decide +kernel
set_option maxHeartbeats 8000000 in
theorem t5_9 : allR 5 336 1024 2 = true := by decide +kernel
set_option maxHeartbeats 8000000 in
theorem t5_10 : allR 5 592 1024 3 = true := by decide +kernel
set_option maxHeartbeats 8000000 in
theorem t5_11 : allR 5 144 1024 3 = true := by decide +kernel
set_option maxHeartbeats 8000000 in
theorem t5_12 : allR 5 400 1024 3 = true := by decide +kernel
set_option maxHeartbeats 8000000 in
theorem t5_13 : allR 5 656 1024 3 = true := by decide +kernel
set_option maxHeartbeats 8000000 in
theorem t5_14 : allR 5 4 1024 2 = true := by decide +kernel
set_option maxHeartbeats 8000000 in
theorem t5_15 : allR 5 260 1024 2 = true := by decide +kernel
set_option maxHeartbeats 8000000 in
theorem t5_16 : allR 5 516 1024 3 = true := by decide +kernel
set_option maxHeartbeats 8000000 in
theorem t5_17 : allR 5 68 1024 2 = true := by decide +kernel
set_option maxHeartbeats 8000000 in
theorem t5_18 : allR 5 324 1024 2 = true := by decide +kernel
set_option maxHeartbeats 8000000 in
theorem t5_19 : allR 5 580 1024 3 = true := by decide +kernel
set_option maxHeartbeats 8000000 in
theorem t5_20 : allR 5 132 1024 3 = true := by decide +kernel
set_option maxHeartbeats 8000000 in
theorem t5_21 : allR 5 388 1024 3 = true := by decide +kernel
set_option maxHeartbeats 8000000 in
theorem t5_22 : allR 5 644 1024 3 = true := by decide +kernel
set_option maxHeartbeats 8000000 in
theorem t5_23 : allR 5 20 1024 2 = true := by decide +kernel
set_option maxHeartbeats 8000000 in
theorem t5_24 : allR 5 276 1024 2 = true := by decide +kernel
set_option maxHeartbeats 8000000 in
theorem t5_25 : allR 5 532 1024 3 = true := by decide +kernel
set_option maxHeartbeats 8000000 in
theorem t5_26 : allR 5 84 1024 2 = true := by decide +kernel
set_option maxHeartbeats 8000000 in
theorem t5_27 : allR 5 340 1024 2 = true := by decide +kernel
set_option maxHeartbeats 8000000 in
theorem t5_28 : allR 5 596 1024 3 = true := by decide +kernel
set_option maxHeartbeats 8000000 in
theorem t5_29 : allR 5 148 1024 3 = true := by decide +kernel
set_option maxHeartbeats 8000000 in
theorem t5_30 : allR 5 404 1024 3 = true := by decide +kernel
set_option maxHeartbeats 8000000 in
theorem t5_31 : allR 5 660 1024 3 = true := by decide +kernel
set_option maxHeartbeats 8000000 in
theorem t5_32 : allR 5 36 1024 3 = true := by decide +kernel
set_option maxHeartbeats 8000000 in
theorem t5_33 : allR 5 292 1024 3 = true := by decide +kernel
set_option maxHeartbeats 8000000 in
theorem t5_34 : allR 5 548 1024 3 = true := by decide +kernel
set_option maxHeartbeats 8000000 in
theorem t5_35 : allR 5 100 1024 3 = true := by decide +kernel
set_option maxHeartbeats 8000000 in
theorem t5_36 : allR 5 356 1024 3 = true := by decide +kernel
set_option maxHeartbeats 8000000 in
theorem t5_37 : allR 5 612 1024 3 = true := by decide +kernel
set_option maxHeartbeats 8000000 in
theorem t5_38 : allR 5 164 1024 3 = true := by decide +kernel
set_option maxHeartbeats 8000000 in
theorem t5_39 : allR 5 420 1024 3 = true := by decide +kernel
set_option maxHeartbeats 8000000 in
theorem t5_40 : allR 5 676 1024 3 = true := by decide +kernel
theorem tall : allR 10 0 1 0 = true :=
  st0 9 0 1 (st1 8 0 4 (st1 7 0 16 (st1 6 0 64 (st1 5 0 256 t5_0 t5_1) (st2 5 64 256 t5_2 t5_3 t5_4)) (st2 6 16 64 (st2 5 16 256 t5_5 t5_6 t5_7) (st2 5 80 256 t5_8 t5_9 t5_10) (st3 5 144 256 t5_11 t5_12 t5_13))) (st2 7 4 16 (st2 6 4 64 (st2 5 4 256 t5_14 t5_15 t5_16) (st2 5 68 256 t5_17 t5_18 t5_19) (st3 5 132 256 t5_20 t5_21 t5_22)) (st2 6 20 64 (st2 5 20 256 t5_23 t5_24 t5_25) (st2 5 84 256 t5_26 t5_27 t5_28) (st3 5 148 256 t5_29 t5_30 t5_31)) (st3 6 36 64 (st3 5 36 256 t5_32 t5_33 t5_34) (st3 5 100 256 t5_35 t5_36 t5_37) (st3 5 164 256 t5_38 t5_39 t5_40))))
end Mine
end
section
open PySem PySem.W PyProof.Rows PySem.Builtin PySem.Builtin.Str
namespace Mine
open Mine9
noncomputable def enc : List Nat → Nat
  | [] => 0
  | a :: l => a + 4 * enc l
theorem enc_drop : ∀ (i : Nat) (l : List Nat), (∀ a ∈ l, a < 4) → enc l / 4 ^ i = enc (l.drop i)
  | 0, l, _ => by simp
  | i + 1, [], _ => by simp [enc]
  | i + 1, a :: l, h => by
    rw [List.drop_succ_cons, ← enc_drop i l (fun b hb => h b (.tail _ hb)), enc, Nat.pow_succ, Nat.mul_comm (4 ^ i) 4, ← Nat.div_div_eq_div_mul]
    have h4 := h a (.head _)
    rw [show (a + 4 * enc l) / 4 = enc l from by omega]
theorem enc_take : ∀ (f : Nat) (l : List Nat), (∀ a ∈ l, a < 4) → enc l % 4 ^ f = enc (l.take f)
  | 0, l, _ => by simp [enc, Nat.mod_one]
  | f + 1, [], _ => by simp [enc]
  | f + 1, a :: l, h => by
    have h4 := h a (.head _)
    rw [List.take_succ_cons, enc, enc, ← enc_take f l (fun b hb => h b (.tail _ hb)), Nat.pow_succ, Nat.mul_comm (4 ^ f) 4, Nat.mod_mul, show (a + 4 * enc l) % 4 = a from by omega, show (a + 4 * enc l) / 4 = enc l from by omega]
theorem enc_lt : ∀ (l : List Nat), (∀ a ∈ l, a < 4) → enc l < 4 ^ l.length
  | [], _ => by simp [enc]
  | a :: l, h => by
    have h4 := h a (.head _)
    have h5 := enc_lt l (fun b hb => h b (.tail _ hb))
    rw [enc, List.length_cons, Nat.pow_succ]
    omega
theorem enc_inj : ∀ (l k : List Nat), (∀ a ∈ l, a < 4) → (∀ a ∈ k, a < 4) → l.length = k.length → enc l = enc k → l = k
  | [], [], _, _, _, _ => rfl
  | [], _ :: _, _, _, h, _ => by cases h
  | _ :: _, [], _, _, h, _ => by cases h
  | a :: l, b :: k, h1, h2, hl, he => by
    have ha := h1 a (.head _)
    have hb := h2 b (.head _)
    rw [enc, enc] at he
    have e1 : a = b := by omega
    have e2 : enc l = enc k := by omega
    rw [e1, enc_inj l k (fun c hc => h1 c (.tail _ hc)) (fun c hc => h2 c (.tail _ hc)) (by simpa using hl) e2]
/-- growing words: each letter is old, or the next new one -/
noncomputable def nxt (m c : Nat) : Nat := if c = m then m + 1 else m
noncomputable def rg : Nat → List Nat → Prop
  | _, [] => True
  | m, c :: u => c ≤ m ∧ c ≤ 2 ∧ rg (nxt m c) u
noncomputable def fin9 : Nat → List Nat → Nat
  | m, [] => m
  | m, c :: u => fin9 (nxt m c) u
theorem allR_sound : ∀ (n w p m : Nat), m ≤ 3 → allR n w p m = true → ∀ u : List Nat, u.length = n → rg m u → chkN (w + p * enc u) (fin9 m u) = true
  | 0, w, p, m, _, h, [], _, _ => by
    rw [allR] at h
    simpa [enc, fin9] using h
  | n + 1, w, p, m, hm, h, c :: u, hl, hr => by
    obtain ⟨h1, h2, h3⟩ := hr
    have hl' : u.length = n := by simpa using hl
    have e : w + p * enc (c :: u) = (w + c * p) + p * 4 * enc u := by rw [enc, Nat.mul_add, Nat.mul_assoc, Nat.mul_comm p c]; omega
    rw [e, fin9]
    have hc : c = 0 ∨ c = 1 ∨ c = 2 := by omega
    have hm' : m = 0 ∨ m = 1 ∨ m = 2 ∨ m = 3 := by omega
    rcases hm' with rfl | rfl | rfl | rfl
    · have : c = 0 := by omega
      subst this
      rw [show w + 0 * p = w from by omega]
      exact allR_sound n w (p * 4) 1 (by omega) h u hl' h3
    · rw [allR, Bool.and_eq_true] at h
      rcases hc with rfl | rfl | rfl
      · rw [show w + 0 * p = w from by omega]; exact allR_sound n w (p * 4) 1 (by omega) h.1 u hl' h3
      · rw [show w + 1 * p = w + p from by omega]; exact allR_sound n (w + p) (p * 4) 2 (by omega) h.2 u hl' h3
      · omega
    · rw [allR, Bool.and_eq_true, Bool.and_eq_true] at h
      rcases hc with rfl | rfl | rfl
      · rw [show w + 0 * p = w from by omega]; exact allR_sound n w (p * 4) 2 (by omega) h.1.1 u hl' h3
      · rw [show w + 1 * p = w + p from by omega]; exact allR_sound n (w + p) (p * 4) 2 (by omega) h.1.2 u hl' h3
      · exact allR_sound n (w + 2 * p) (p * 4) 3 (by omega) h.2 u hl' h3
    · have h' : (allR n w (p * 4) 3 && allR n (w + p) (p * 4) 3 && allR n (w + 2 * p) (p * 4) 3) = true := h
      rw [Bool.and_eq_true, Bool.and_eq_true] at h'
      rcases hc with rfl | rfl | rfl
      · rw [show w + 0 * p = w from by omega]; exact allR_sound n w (p * 4) 3 (by omega) h'.1.1 u hl' h3
      · rw [show w + 1 * p = w + p from by omega]; exact allR_sound n (w + p) (p * 4) 3 (by omega) h'.1.2 u hl' h3
      · exact allR_sound n (w + 2 * p) (p * 4) 3 (by omega) h'.2 u hl' h3
end Mine
end
section
open PySem PySem.W PyProof.Rows PySem.Builtin PySem.Builtin.Str
namespace Mine
open Mine9
section
variable {φ : Nat → Nat} {L : List Nat}
noncomputable def InL (L : List Nat) (x : Str) : Prop := ∀ c ∈ x.cps.toList, c ∈ L
noncomputable def kap (φ : Nat → Nat) (x : Str) : Nat := enc (x.cps.toList.map φ) + 4 ^ x.cps.toList.length
theorem map_inj_on (hi : ∀ a ∈ L, ∀ b ∈ L, φ a = φ b → a = b) : ∀ (l k : List Nat), (∀ c ∈ l, c ∈ L) → (∀ c ∈ k, c ∈ L) → l.map φ = k.map φ → l = k
  | [], [], _, _, _ => rfl
  | [], _ :: _, _, _, h => by cases h
  | _ :: _, [], _, _, h => by cases h
  | a :: l, b :: k, h1, h2, h => by
    rw [List.map_cons, List.map_cons] at h
    injection h with h3 h4
    rw [hi a (h1 a (.head _)) b (h2 b (.head _)) h3, map_inj_on hi l k (fun c hc => h1 c (.tail _ hc)) (fun c hc => h2 c (.tail _ hc)) h4]
theorem map_lt (hs : ∀ a ∈ L, φ a < 4) {l : List Nat} (h : ∀ c ∈ l, c ∈ L) : ∀ a ∈ l.map φ, a < 4 := by
  intro a ha
  obtain ⟨b, hb, rfl⟩ := List.mem_map.mp ha
  exact hs b (h b hb)
theorem str_ext {x y : Str} (h : x.cps.toList = y.cps.toList) : x = y := by
  obtain ⟨⟨x⟩⟩ := x
  obtain ⟨⟨y⟩⟩ := y
  simp only at h
  rw [h]
theorem kap_inj (hi : ∀ a ∈ L, ∀ b ∈ L, φ a = φ b → a = b) (hs : ∀ a ∈ L, φ a < 4) {x y : Str} (hx : InL L x) (hy : InL L y) (h : kap φ x = kap φ y) : x = y := by
  unfold kap at h
  have h1 := enc_lt (x.cps.toList.map φ) (map_lt hs hx)
  have h2 := enc_lt (y.cps.toList.map φ) (map_lt hs hy)
  rw [List.length_map] at h1 h2
  have hl : x.cps.toList.length = y.cps.toList.length := by
    rcases Nat.lt_trichotomy x.cps.toList.length y.cps.toList.length with q | q | q
    · have h3 : 4 ^ (x.cps.toList.length + 1) ≤ 4 ^ y.cps.toList.length := Nat.pow_le_pow_right (by decide) q
      rw [Nat.pow_succ] at h3
      omega
    · exact q
    · have h3 : 4 ^ (y.cps.toList.length + 1) ≤ 4 ^ x.cps.toList.length := Nat.pow_le_pow_right (by decide) q
      rw [Nat.pow_succ] at h3
      omega
  rw [hl] at h
  have he : enc (x.cps.toList.map φ) = enc (y.cps.toList.map φ) := by omega
  exact str_ext (map_inj_on hi _ _ hx hy (enc_inj _ _ (map_lt hs hx) (map_lt hs hy) (by rw [List.length_map, List.length_map, hl]) he))
noncomputable def gN (φ : Nat → Nat) (kv : Str × Int) : Nat × Nat := (kap φ kv.1, kv.2.toNat)
theorem any_hom (hi : ∀ a ∈ L, ∀ b ∈ L, φ a = φ b → a = b) (hs : ∀ a ∈ L, φ a < 4) {k : Str} (hk : InL L k) : ∀ (acc : List (Str × Int)), (∀ kv ∈ acc, InL L kv.1) → anyN (kap φ k) (acc.map (gN φ)) = acc.any (fun kv => kv.1 = k)
  | [], _ => rfl
  | p :: acc, h => by
    rw [List.map_cons, List.any_cons, anyN, any_hom hi hs hk acc (fun q hq => h q (.tail _ hq))]
    by_cases e : p.1 = k
    · have : Nat.beq (gN φ p).1 (kap φ k) = true := by unfold gN; rw [e]; exact Nat.beq_refl _
      rw [this, decide_eq_true e]
      rfl
    · have : Nat.beq (gN φ p).1 (kap φ k) = false := by
        rw [Bool.eq_false_iff]
        intro q
        exact e (kap_inj hi hs (h p (.head _)) hk (Nat.eq_of_beq_eq_true q))
      rw [this, decide_eq_false e]
      rfl
theorem rep_hom (hi : ∀ a ∈ L, ∀ b ∈ L, φ a = φ b → a = b) (hs : ∀ a ∈ L, φ a < 4) {k : Str} (hk : InL L k) (v : Int) : ∀ (acc : List (Str × Int)), (∀ kv ∈ acc, InL L kv.1) → repN (kap φ k) v.toNat (acc.map (gN φ)) = (acc.map (fun kv => if kv.1 = k then (kv.1, v) else kv)).map (gN φ)
  | [], _ => rfl
  | p :: acc, h => by
    rw [List.map_cons, List.map_cons, List.map_cons, repN, rep_hom hi hs hk v acc (fun q hq => h q (.tail _ hq))]
    by_cases e : p.1 = k
    · have : Nat.beq (gN φ p).1 (kap φ k) = true := by unfold gN; rw [e]; exact Nat.beq_refl _
      rw [this, if_pos e]
      rfl
    · have : Nat.beq (gN φ p).1 (kap φ k) = false := by
        rw [Bool.eq_false_iff]
        intro q
        exact e (kap_inj hi hs (h p (.head _)) hk (Nat.eq_of_beq_eq_true q))
      rw [this, if_neg e]
theorem store_hom (hi : ∀ a ∈ L, ∀ b ∈ L, φ a = φ b → a = b) (hs : ∀ a ∈ L, φ a < 4) {k : Str} (hk : InL L k) (v : Int) {acc : List (Str × Int)} (h : ∀ kv ∈ acc, InL L kv.1) : (storeI acc k v).map (gN φ) = putN (acc.map (gN φ)) (kap φ k) v.toNat := by
  unfold storeI putN
  rw [any_hom hi hs hk acc h]
  by_cases e : (acc.any fun kv => decide (kv.1 = k)) = true
  · rw [if_pos e, e, ← rep_hom hi hs hk v acc h]
  · rw [if_neg e, (Bool.not_eq_true _).mp e, List.map_append]
    rfl
theorem store_in {k : Str} (hk : InL L k) (v : Int) {acc : List (Str × Int)} (h : ∀ kv ∈ acc, InL L kv.1) : ∀ kv ∈ storeI acc k v, InL L kv.1 := by
  intro kv hkv
  unfold storeI at hkv
  by_cases e : (acc.any fun kv => decide (kv.1 = k)) = true
  · rw [if_pos e] at hkv
    obtain ⟨q, hq, rfl⟩ := List.mem_map.mp hkv
    by_cases e2 : q.1 = k
    · rw [if_pos e2]; exact h q hq
    · rw [if_neg e2]; exact h q hq
  · rw [if_neg e] at hkv
    rcases List.mem_append.mp hkv with hkv | hkv
    · exact h kv hkv
    · rw [List.mem_singleton.mp hkv]; exact hk
end
section
variable {φ : Nat → Nat} {mt : List Int}
theorem text_list (mt : List Int) : (textF mt).cps.toList = mt.map Int.toNat := rfl
theorem slice_cps (mt : List Int) (i d : Nat) : (Txt.slice (textF mt) (some (i : Int)) (some ((i + d : Nat) : Int))).cps.toList = ((mt.map Int.toNat).drop i).take d := by
  rw [slice_list (by omega), text_list, show i + d - i = d from by omega]
theorem part_in (l : List Nat) (i d : Nat) : ∀ c ∈ (l.drop i).take d, c ∈ l := fun c hc => List.mem_of_mem_drop (List.mem_of_mem_take hc)
theorem part_enc {L : List Nat} (hs : ∀ a ∈ L, φ a < 4) (i d : Nat) : enc (L.map φ) / 4 ^ i % 4 ^ d = enc (((L.drop i).take d).map φ) := by
  have hv : ∀ a ∈ L.map φ, a < 4 := map_lt hs fun c hc => hc
  rw [enc_drop _ _ hv, enc_take _ _ (fun a ha => hv a (List.mem_of_mem_drop ha)), ← List.map_drop, ← List.map_take]
theorem test_hom (h : ∀ v ∈ mt, v = 16 ∨ v = 35 ∨ v = 38) (hl : mt.length = 10) (hi : ∀ a ∈ mt.map Int.toNat, ∀ b ∈ mt.map Int.toNat, φ a = φ b → a = b) (hs : ∀ a ∈ mt.map Int.toNat, φ a < 4) {i f : Nat} (hf : i + 2 * f ≤ 10) :
    Nat.beq (enc ((mt.map Int.toNat).map φ) / 4 ^ i % 4 ^ f) (enc ((mt.map Int.toNat).map φ) / 4 ^ (i + f) % 4 ^ f) = (((sameF mt f).drop i).take f).all _root_.id := by
  rw [← slice_same h hl hf, show ((i : Int) + (f : Int)) = ((i + f : Nat) : Int) from by omega, show ((i : Int) + 2 * (f : Int)) = ((i + f + f : Nat) : Int) from by omega, str_eq_list, slice_cps, slice_cps,
    part_enc hs, part_enc hs, Bool.eq_iff_iff, decide_eq_true_eq]
  have hL : (mt.map Int.toNat).length = 10 := by rw [List.length_map, hl]
  generalize mt.map Int.toNat = L at hi hs hL ⊢
  constructor
  · intro q
    have q := Nat.eq_of_beq_eq_true q
    refine map_inj_on hi _ _ (part_in _ _ _) (part_in _ _ _) (enc_inj _ _ (map_lt hs (part_in _ _ _)) (map_lt hs (part_in _ _ _)) ?_ q)
    simp only [List.length_map, List.length_take, List.length_drop, hL]
    omega
  · intro q
    rw [q]
    exact Nat.beq_refl _
theorem key_hom (hl : mt.length = 10) (hs : ∀ a ∈ mt.map Int.toNat, φ a < 4) {i f : Nat} (hf : i + 2 * f ≤ 10) :
    kap φ (Txt.slice (textF mt) (some (i : Int)) (some ((i : Int) + 2 * (f : Int)))) = enc ((mt.map Int.toNat).map φ) / 4 ^ i % 4 ^ (2 * f) + 4 ^ (2 * f) := by
  unfold kap
  rw [show ((i : Int) + 2 * (f : Int)) = ((i + 2 * f : Nat) : Int) from by omega, slice_cps, part_enc hs]
  have hL : (((mt.map Int.toNat).drop i).take (2 * f)).length = 2 * f := by
    rw [List.length_take, List.length_drop, List.length_map, hl]
    omega
  rw [hL]
noncomputable def sqFr (mt : List Int) (far i n : Nat) : List (Str × Int) := ((List.range' i n).filter fun i => (((sameF mt far).drop i).take far).all _root_.id).map fun (i : Nat) => (Txt.slice (textF mt) (some (i : Int)) (some ((i : Int) + 2 * (far : Int))), (i : Int))
theorem sqFr_zero (mt : List Int) (far n : Nat) : sqLo mt far n = sqFr mt far 0 n := by
  unfold sqLo sqFr
  rw [List.range_eq_range']
noncomputable abbrev stI (acc : List (Str × Int)) (kv : Str × Int) : List (Str × Int) := storeI acc kv.1 kv.2
theorem fold_hom (h : ∀ v ∈ mt, v = 16 ∨ v = 35 ∨ v = 38) (hl : mt.length = 10) (hi : ∀ a ∈ mt.map Int.toNat, ∀ b ∈ mt.map Int.toNat, φ a = φ b → a = b) (hs : ∀ a ∈ mt.map Int.toNat, φ a < 4) (f : Nat) :
    ∀ (n i : Nat) (acc : List (Str × Int)), i + n + 2 * f ≤ 11 → (∀ kv ∈ acc, InL (mt.map Int.toNat) kv.1) →
      ((sqFr mt f i n).foldl stI acc).map (gN φ) = sqN (enc ((mt.map Int.toNat).map φ)) n f i (acc.map (gN φ)) ∧ ∀ kv ∈ (sqFr mt f i n).foldl stI acc, InL (mt.map Int.toNat) kv.1
  | 0, i, acc, _, ha => ⟨rfl, ha⟩
  | n + 1, i, acc, hn, ha => by
    have ht := test_hom h hl hi hs (i := i) (f := f) (by omega)
    have hk : InL (mt.map Int.toNat) (Txt.slice (textF mt) (some (i : Int)) (some ((i : Int) + 2 * (f : Int)))) := by
      unfold InL
      rw [show ((i : Int) + 2 * (f : Int)) = ((i + 2 * f : Nat) : Int) from by omega, slice_cps]
      exact part_in _ _ _
    rw [sqN, ht]
    cases e : (((sameF mt f).drop i).take f).all _root_.id with
    | true =>
      have es : sqFr mt f i (n + 1) = (Txt.slice (textF mt) (some (i : Int)) (some ((i : Int) + 2 * (f : Int))), (i : Int)) :: sqFr mt f (i + 1) n := by
        unfold sqFr
        rw [List.range'_succ, List.filter_cons, if_pos e, List.map_cons]
      rw [es, List.foldl_cons]
      have r := fold_hom h hl hi hs f n (i + 1) (stI acc (Txt.slice (textF mt) (some (i : Int)) (some ((i : Int) + 2 * (f : Int))), (i : Int))) (by omega) (store_in hk _ ha)
      refine ⟨?_, r.2⟩
      rw [r.1, store_hom hi hs hk _ ha, key_hom hl hs (by omega), Int.toNat_natCast]
    | false =>
      have es : sqFr mt f i (n + 1) = sqFr mt f (i + 1) n := by
        unfold sqFr
        rw [List.range'_succ, List.filter_cons, if_neg (by rw [e]; exact Bool.false_ne_true)]
      rw [es]
      exact fold_hom h hl hi hs f n (i + 1) acc (by omega) ha
theorem last_hom (h : ∀ v ∈ mt, v = 16 ∨ v = 35 ∨ v = 38) (hl : mt.length = 10) (hi : ∀ a ∈ mt.map Int.toNat, ∀ b ∈ mt.map Int.toNat, φ a = φ b → a = b) (hs : ∀ a ∈ mt.map Int.toNat, φ a < 4) :
    (lastL mt).map (gN φ) = dictN (enc ((mt.map Int.toNat).map φ)) := by
  have e : lastL mt = (sqFr mt 5 0 1).foldl stI ((sqFr mt 4 0 3).foldl stI ((sqFr mt 3 0 5).foldl stI ((sqFr mt 2 0 7).foldl stI ((sqFr mt 1 0 9).foldl stI [])))) := by
    rw [← sqFr_zero, ← sqFr_zero, ← sqFr_zero, ← sqFr_zero, ← sqFr_zero]
    unfold lastL
    simp only [sqLu, List.nil_append, List.foldl_append]
  have r1 := fold_hom h hl hi hs 1 9 0 [] (by omega) (fun _ q => nomatch q)
  have r2 := fold_hom h hl hi hs 2 7 0 _ (by omega) r1.2
  have r3 := fold_hom h hl hi hs 3 5 0 _ (by omega) r2.2
  have r4 := fold_hom h hl hi hs 4 3 0 _ (by omega) r3.2
  have r5 := fold_hom h hl hi hs 5 1 0 _ (by omega) r4.2
  rw [e, r5.1, r4.1, r3.1, r2.1, r1.1]
  first | done | rfl
end
end Mine
end
section
open PySem PySem.W PyProof.Rows PySem.Builtin PySem.Builtin.Str
namespace Mine
open Mine9
theorem seen_pre {K : Type} [DecidableEq K] (val : Nat → K) (i : Nat) : ∀ d : Nat, ∃ t, seenK val (i + d) = seenK val i ++ t
  | 0 => ⟨[], by rw [List.append_nil]; rfl⟩
  | d + 1 => by
    obtain ⟨t, ht⟩ := seen_pre val i d
    by_cases h : val (i + d) ∈ seenK val (i + d)
    · exact ⟨t, by rw [show seenK val (i + (d + 1)) = if val (i + d) ∈ seenK val (i + d) then seenK val (i + d) else seenK val (i + d) ++ [val (i + d)] from rfl, if_pos h, ht]⟩
    · exact ⟨t ++ [val (i + d)], by rw [show seenK val (i + (d + 1)) = if val (i + d) ∈ seenK val (i + d) then seenK val (i + d) else seenK val (i + d) ++ [val (i + d)] from rfl, if_neg h, ht, List.append_assoc]⟩
theorem seen_has {K : Type} [DecidableEq K] (val : Nat → K) {i n : Nat} (h : i < n) : val i ∈ seenK val n := by
  obtain ⟨t, ht⟩ := seen_pre val (i + 1) (n - (i + 1))
  rw [show i + 1 + (n - (i + 1)) = n from by omega] at ht
  rw [ht]
  exact List.mem_append.mpr (.inl ((mem_seen val i (val i)).mpr (.inr rfl)))
theorem seen_from {K : Type} [DecidableEq K] (val : Nat → K) : ∀ (n : Nat) (k : K), k ∈ seenK val n → ∃ i, i < n ∧ k = val i
  | 0, k, h => absurd h List.not_mem_nil
  | n + 1, k, h => by
    rcases (mem_seen val n k).mp h with h | h
    · obtain ⟨i, hi, e⟩ := seen_from val n k h
      exact ⟨i, by omega, e⟩
    · exact ⟨n, by omega, h⟩
theorem seen_nodup {K : Type} [DecidableEq K] (val : Nat → K) : ∀ n, (seenK val n).Nodup
  | 0 => List.nodup_nil
  | n + 1 => by
    have h := seen_nodup val n
    rw [show seenK val (n + 1) = if val n ∈ seenK val n then seenK val n else seenK val n ++ [val n] from rfl]
    by_cases e : val n ∈ seenK val n
    · rw [if_pos e]; exact h
    · rw [if_neg e, List.nodup_append]
      refine ⟨h, by simp, ?_⟩
      intro a ha b hb
      rw [List.mem_singleton.mp hb]
      exact fun q => e (q ▸ ha)
theorem three_len {K : Type} [DecidableEq K] (a b c : K) : ∀ (l : List K), l.Nodup → (∀ x ∈ l, x = a ∨ x = b ∨ x = c) → l.length ≤ 3 := by
  intro l hn h
  have hle : ∀ l : List K, (∀ x ∈ l, x = a ∨ x = b ∨ x = c) → l.length ≤ l.count a + l.count b + l.count c := by
    intro l
    induction l with
    | nil => intro _; simp
    | cons x l ih =>
      intro h
      have ih := ih (fun y hy => h y (.tail _ hy))
      simp only [List.count_cons, List.length_cons]
      rcases h x (.head _) with rfl | rfl | rfl
      · simp; omega
      · simp; omega
      · simp; omega
  have h1 := hle l h
  have ha := List.nodup_iff_count.mp hn a
  have hb := List.nodup_iff_count.mp hn b
  have hc := List.nodup_iff_count.mp hn c
  omega
/-- the word of first meetings grows -/
theorem rg_seen {K : Type} [DecidableEq K] (val : Nat → K) (n : Nat) (h3 : (seenK val n).length ≤ 3) : ∀ (d i : Nat), i + d = n →
    rg (seenK val i).length ((List.range' i d).map fun j => (seenK val n).idxOf (val j)) ∧ fin9 (seenK val i).length ((List.range' i d).map fun j => (seenK val n).idxOf (val j)) = (seenK val n).length
  | 0, i, h => by
    rw [show i = n from by omega]
    exact ⟨trivial, rfl⟩
  | d + 1, i, h => by
    have r := rg_seen val n h3 d (i + 1) (by omega)
    rw [List.range'_succ, List.map_cons]
    have hlt : (seenK val n).idxOf (val i) < (seenK val n).length := List.idxOf_lt_length_of_mem (seen_has val (by omega))
    have hx : (seenK val n).idxOf (val i) ≤ (seenK val i).length ∧ nxt (seenK val i).length ((seenK val n).idxOf (val i)) = (seenK val (i + 1)).length := by
      by_cases e : val i ∈ seenK val i
      · obtain ⟨t, ht⟩ := seen_pre val i (d + 1)
        rw [h] at ht
        have e1 : (seenK val n).idxOf (val i) = (seenK val i).idxOf (val i) := by rw [ht, List.idxOf_append, if_pos e]
        have e2 := List.idxOf_lt_length_of_mem e
        rw [e1]
        refine ⟨by omega, ?_⟩
        unfold nxt
        rw [if_neg (by omega), show seenK val (i + 1) = if val i ∈ seenK val i then seenK val i else seenK val i ++ [val i] from rfl, if_pos e]
      · obtain ⟨t, ht⟩ := seen_pre val (i + 1) d
        rw [show i + 1 + d = n from by omega] at ht
        have e0 : seenK val (i + 1) = seenK val i ++ [val i] := by rw [show seenK val (i + 1) = if val i ∈ seenK val i then seenK val i else seenK val i ++ [val i] from rfl, if_neg e]
        have e1 : (seenK val n).idxOf (val i) = (seenK val i).length := by
          rw [ht, e0, List.append_assoc, List.idxOf_append, if_neg e]
          simp
        rw [e1]
        refine ⟨Nat.le_refl _, ?_⟩
        unfold nxt
        rw [if_pos rfl, e0, List.length_append, List.length_singleton]
    refine ⟨⟨hx.1, by omega, ?_⟩, ?_⟩
    · rw [hx.2]; exact r.1
    · rw [fin9, hx.2]; exact r.2
theorem cnt_hom (φ : Nat → Nat) (i : Nat) : ∀ (l : List (Str × Int)), (∀ kv ∈ l, 0 ≤ kv.2) → (l.map (·.2)).count (i : Int) = cntN i (l.map (gN φ))
  | [], _ => rfl
  | p :: l, h => by
    have h0 := h p (.head _)
    have ih := cnt_hom φ i l (fun q hq => h q (.tail _ hq))
    rw [List.map_cons, List.map_cons, List.count_cons, ih, cntN]
    by_cases e : p.2 = (i : Int)
    · have : Nat.beq (gN φ p).2 i = true := by unfold gN; rw [show p.2.toNat = i from by omega]; exact Nat.beq_refl _
      rw [this, if_pos (by rw [e]; simp)]
    · have : Nat.beq (gN φ p).2 i = false := by
        rw [Bool.eq_false_iff]
        intro q
        have q := Nat.eq_of_beq_eq_true q
        unfold gN at q
        simp only at q
        exact e (by omega)
      rw [this, if_neg (by simpa using e)]
      rfl
theorem store_pos {k : Str} {v : Int} (hv : 0 ≤ v) {acc : List (Str × Int)} (h : ∀ kv ∈ acc, 0 ≤ kv.2) : ∀ kv ∈ storeI acc k v, 0 ≤ kv.2 := by
  intro kv hkv
  unfold storeI at hkv
  by_cases e : (acc.any fun kv => decide (kv.1 = k)) = true
  · rw [if_pos e] at hkv
    obtain ⟨q, hq, rfl⟩ := List.mem_map.mp hkv
    by_cases e2 : q.1 = k
    · rw [if_pos e2]; exact hv
    · rw [if_neg e2]; exact h q hq
  · rw [if_neg e] at hkv
    rcases List.mem_append.mp hkv with hkv | hkv
    · exact h kv hkv
    · rw [List.mem_singleton.mp hkv]; exact hv
theorem fold_pos : ∀ (l acc : List (Str × Int)), (∀ kv ∈ l, 0 ≤ kv.2) → (∀ kv ∈ acc, 0 ≤ kv.2) → ∀ kv ∈ l.foldl (fun acc kv => storeI acc kv.1 kv.2) acc, 0 ≤ kv.2
  | [], _, _, h => h
  | p :: l, acc, hl, h => fold_pos l _ (fun q hq => hl q (.tail _ hq)) (store_pos (hl p (.head _)) h)
theorem last_pos (mt : List Int) : ∀ kv ∈ lastL mt, 0 ≤ kv.2 := by
  refine fold_pos _ _ ?_ (fun _ q => nomatch q)
  intro kv hkv
  obtain ⟨i, far, _, rfl⟩ := sqLu_in hkv
  exact Int.natCast_nonneg i
theorem idx_inj {α : Type} [DecidableEq α] {l : List α} {a b : α} (ha : a ∈ l) (hb : b ∈ l) (h : l.idxOf a = l.idxOf b) : a = b := by
  have e1 : l[l.idxOf a]? = some a := by rw [List.getElem?_eq_getElem (List.idxOf_lt_length_of_mem ha), List.getElem_idxOf]
  have e2 : l[l.idxOf b]? = some b := by rw [List.getElem?_eq_getElem (List.idxOf_lt_length_of_mem hb), List.getElem_idxOf]
  rw [h, e2] at e1
  exact (Option.some.inj e1).symm
theorem one_inj {a b : Nat} (h : (⟨#[a]⟩ : Str) = ⟨#[b]⟩) : a = b := by
  have h1 : (⟨#[a]⟩ : Str).cps.toList = (⟨#[b]⟩ : Str).cps.toList := by rw [h]
  simpa using h1
theorem law_both {mt : List Int} (h : ∀ v ∈ mt, v = 16 ∨ v = 35 ∨ v = 38) (hl : mt.length = 10) :
    ∃ φ : Nat → Nat, (lastL mt).map (gN φ) = dictN (enc ((mt.map Int.toNat).map φ)) ∧ chkN (enc ((mt.map Int.toNat).map φ)) (seenK (fun i => (⟨#[(textF mt).cps.getD i 0]⟩ : Str)) 10).length = true := by
  generalize hv : (fun i => (⟨#[(textF mt).cps.getD i 0]⟩ : Str)) = val
  have hval : ∀ i, val i = ⟨#[(textF mt).cps.getD i 0]⟩ := fun i => by rw [← hv]
  have hget : ∀ i : Nat, i < 10 → (textF mt).cps.getD i 0 = (mt.getD i 0).toNat := by
    intro i hi
    unfold textF
    rw [Array.getD_eq_getD_getElem?, List.getElem?_toArray, List.getElem?_map, List.getElem?_eq_getElem (by omega), List.getD_eq_getElem?_getD, List.getElem?_eq_getElem (by omega)]
    rfl
  have hS3 : (seenK val 10).length ≤ 3 := by
    refine three_len (⟨#[16]⟩ : Str) ⟨#[35]⟩ ⟨#[38]⟩ _ (seen_nodup val 10) ?_
    intro x hx
    obtain ⟨i, hi, rfl⟩ := seen_from val 10 x hx
    rw [hval, hget i hi]
    rcases getD_word h (i := i) (by omega) with e | e | e <;> rw [e] <;> simp
  have hw : (mt.map Int.toNat).map (fun c => (seenK val 10).idxOf (⟨#[c]⟩ : Str)) = (List.range' 0 10).map fun j => (seenK val 10).idxOf (val j) := by
    refine List.ext_getElem (by simp [hl]) fun i h1 h2 => ?_
    simp only [List.length_map, List.length_range'] at h2
    rw [List.getElem_map, List.getElem_map, List.getElem_map, List.getElem_range', hval]
    rw [show 0 + 1 * i = i from by omega, hget i h2, List.getD_eq_getElem?_getD, List.getElem?_eq_getElem (by omega)]
    rfl
  have hmem : ∀ c ∈ mt.map Int.toNat, (⟨#[c]⟩ : Str) ∈ seenK val 10 := by
    intro c hc
    obtain ⟨i, hi, rfl⟩ := List.getElem_of_mem hc
    rw [List.length_map, hl] at hi
    have := seen_has val hi
    rw [hval, hget i hi, List.getD_eq_getElem?_getD, List.getElem?_eq_getElem (by omega)] at this
    rw [List.getElem_map]
    exact this
  refine ⟨fun c => (seenK val 10).idxOf (⟨#[c]⟩ : Str), last_hom h hl ?_ ?_, ?_⟩
  · intro a ha b hb e
    exact one_inj (idx_inj (hmem a ha) (hmem b hb) e)
  · intro a ha
    have := List.idxOf_lt_length_of_mem (hmem a ha)
    show (seenK val 10).idxOf _ < 4
    omega
  · have r := rg_seen val 10 hS3 10 0 rfl
    have a := allR_sound 10 0 1 0 (by decide) tall _ (by simp) r.1
    rw [← hw] at a
    rw [show (0 : Nat) = (seenK val 0).length from rfl] at a
    have r2 := r.2
    rw [← hw] at r2
    rw [r2, show (seenK val 0).length + 1 * enc ((mt.map Int.toNat).map fun c => (seenK val 10).idxOf (⟨#[c]⟩ : Str)) = enc ((mt.map Int.toNat).map fun c => (seenK val 10).idxOf (⟨#[c]⟩ : Str)) from by rw [show (seenK val 0).length = 0 from rfl]; omega] at a
    exact a
theorem last_law {mt : List Int} (h : ∀ v ∈ mt, v = 16 ∨ v = 35 ∨ v = 38) (hl : mt.length = 10) : (lastL mt).length + (seenK (fun i => (⟨#[(textF mt).cps.getD i 0]⟩ : Str)) (textF mt).cps.size).length ≤ 10 := by
  obtain ⟨φ, e, hc⟩ := law_both h hl
  rw [show (textF mt).cps.size = 10 from text_len hl]
  unfold chkN okN at hc
  rw [Bool.and_eq_true, ← e, List.length_map] at hc
  exact Nat.le_of_ble_eq_true hc.1
theorem begun_law {mt : List Int} (h : ∀ v ∈ mt, v = 16 ∨ v = 35 ∨ v = 38) (hl : mt.length = 10) (i : Nat) (hi : i < 10) : ((lastL mt).map (·.2)).count (i : Int) ≤ 2 := by
  obtain ⟨φ, e, hc⟩ := law_both h hl
  rw [cnt_hom φ i _ (last_pos mt), e]
  unfold chkN okN at hc
  simp only [Bool.and_eq_true] at hc
  obtain ⟨_, hc⟩ := hc
  obtain ⟨hc, h9⟩ := hc
  obtain ⟨hc, h8⟩ := hc
  obtain ⟨hc, h7⟩ := hc
  obtain ⟨hc, h6⟩ := hc
  obtain ⟨hc, h5⟩ := hc
  obtain ⟨hc, h4⟩ := hc
  obtain ⟨hc, h3⟩ := hc
  obtain ⟨hc, h2⟩ := hc
  obtain ⟨h0, h1⟩ := hc
  have hi' : i = 0 ∨ i = 1 ∨ i = 2 ∨ i = 3 ∨ i = 4 ∨ i = 5 ∨ i = 6 ∨ i = 7 ∨ i = 8 ∨ i = 9 := by omega
  rcases hi' with rfl | rfl | rfl | rfl | rfl | rfl | rfl | rfl | rfl | rfl
  · exact Nat.le_of_ble_eq_true h0
  · exact Nat.le_of_ble_eq_true h1
  · exact Nat.le_of_ble_eq_true h2
  · exact Nat.le_of_ble_eq_true h3
  · exact Nat.le_of_ble_eq_true h4
  · exact Nat.le_of_ble_eq_true h5
  · exact Nat.le_of_ble_eq_true h6
  · exact Nat.le_of_ble_eq_true h7
  · exact Nat.le_of_ble_eq_true h8
  · exact Nat.le_of_ble_eq_true h9
end Mine
end
end
section
open PySem PySem.W PyProof.Rows PySem.Builtin PySem.Builtin.Str
namespace Mine
open Mine9
noncomputable section
theorem sq_up {mt : List Int} {i : Nat} (hi : i < 5) : sqUp mt i ++ sqTo mt (i + 1) (9 - 2 * i) = sqUp mt (i + 1) := by
  rw [sqUp]
  unfold sqOf sqTo
  rw [show 9 - 2 * i = 10 - 2 * (i + 1) + 1 from by omega]
theorem off_swap {A B : List (Addr × Obj)} (h : OwnOff A (B.map (·.1))) : OwnOff B (A.map (·.1)) := by
  intro q hq b hb e
  obtain ⟨r, hr, rfl⟩ := List.mem_map.mp hb
  exact h r hr q.1 (List.mem_map.mpr ⟨q, hq, rfl⟩) e.symm
theorem far_end {h₀ h' : Heap} {L aS aF D5 D : Addr} {m' m₀ : Str → Option Value} {K tl tlN own R : List (Addr × Obj)} {o5 oF2 : Obj} {v : Option Value} {p : Addr × Obj} {mt : List Int} {i : Nat} {vF vS oS oFo : List Value} {cF cS cSo cFo : Nat} {s₁ : Shared} {tk : Nat} {oFx : Obj}
    (F : Fr h₀ L h' m') (hm : ∀ z, z ≠ Str.ofString "i" → farStored.contains z = false → m' z = m₀ z)
    (N : News h₀ L h' ((aS, listOf vS.toArray cS) :: (aF, listOf vF.toArray cF) :: (D5, o5) :: (L + 1 + 1, oF2) :: (K ++ (tlN ++ R))))
    (hR : R = tabLed (some p) ++ (tl ++ own)) (hoF : oF2.data = .cell v) (hi : i < 5)
    (hdF : DatAll (tlN ++ tl) vF (sqUp mt i ++ sqTo mt (i + 1) (9 - 2 * i))) (hdS : DatAll (tlN ++ tl) vS (sqUp mt i ++ sqTo mt (i + 1) (9 - 2 * i)))
    (hoN : OwnOff tlN (D5 :: aS :: aF :: (L + 1 + 1) :: (K.map (·.1) ++ R.map (·.1)))) (hRo : OwnOff R (D :: aS :: aF :: (L + 1 + 1) :: K.map (·.1))) (ht9 : OwnOff tl [89])
    (htb : TabOk ((aS, listOf oS.toArray cSo) :: (aF, listOf oFo.toArray cFo) :: (L + 1 + 1, oFx) :: (K ++ (tl ++ own))) (some p)) (hoA : OwnOff own (aS :: aF :: (L + 1 + 1) :: K.map (·.1))) (ho89 : OwnOff own [89]) (hoL : OwnOff own (tl.map (·.1))) :
    InvEndG h₀ L (FarJ aS aF L K m₀ mt (i + 1)) own s₁ { s₁ with heap := h', toks := tk } := by
  have hRm : ∀ q ∈ tabLed (some p) ++ (tl ++ own), q.1 ∈ R.map (·.1) := fun q hq => List.mem_map.mpr ⟨q, hR ▸ hq, rfl⟩
  have hNR : OwnOff tlN (R.map (·.1)) := off_sub hoN fun b hb => .tail _ (.tail _ (.tail _ (.tail _ (List.mem_append.mpr (.inr hb)))))
  have hNA : OwnOff tlN (aS :: aF :: (L + 1 + 1) :: K.map (·.1)) := off_sub hoN fun b hb => .tail _ (by
    rcases List.mem_cons.mp hb with rfl | hb
    · exact .head _
    · rcases List.mem_cons.mp hb with rfl | hb
      · exact .tail _ (.head _)
      · rcases List.mem_cons.mp hb with rfl | hb
        · exact .tail _ (.tail _ (.head _))
        · exact .tail _ (.tail _ (.tail _ (List.mem_append.mpr (.inl hb)))))
  have hRA : OwnOff (tabLed (some p) ++ (tl ++ own)) (aS :: aF :: (L + 1 + 1) :: K.map (·.1)) := hR ▸ off_sub hRo fun b hb => .tail _ hb
  have hpo : OwnOff own [p.1] := fun q hq b hb => List.mem_singleton.mp hb ▸ htb.2.1 q (.tail _ (.tail _ (.tail _ (List.mem_append.mpr (.inr (List.mem_append.mpr (.inr hq))))))) p.1 (.head _)
  have hpl : OwnOff tl [p.1] := fun q hq b hb => List.mem_singleton.mp hb ▸ htb.2.1 q (.tail _ (.tail _ (.tail _ (List.mem_append.mpr (.inr (List.mem_append.mpr (.inl hq))))))) p.1 (.head _)
  refine InvEndG.intro F N ⟨⟨oF2, vF, cF, vS, cS, some p, tlN ++ tl⟩, rfl, fun z hz _ hz2 => hm z hz hz2, ⟨v, hoF⟩, sq_up hi ▸ hdF, sq_up hi ▸ hdS, ?_, ?_, ?_⟩ ?_ ?_ ?_
  · exact off_app (off_left hRA) (off_app hNA (off_left (off_right hRA)))
  · exact off_app (off_sub hNR fun b hb => List.mem_singleton.mp hb ▸ hRm (89, _) (.tail _ (.head _))) ht9
  · exact ⟨htb.1, off_app (off_sub hNR fun b hb => List.mem_singleton.mp hb ▸ hRm p (.head _)) hpl, htb.2.2⟩
  · unfold farLed
    rw [List.map_cons, List.map_cons, List.map_cons, List.map_append, List.map_append, List.map_append]
    refine off_joinA (A := aS :: aF :: (L + 1 + 1) :: K.map (·.1)) hoA (off_joinA ?_ (off_joinA ?_ hoL))
    · exact off_cons hpo ho89
    · exact off_swap (off_sub hNR fun b hb => by
        obtain ⟨q, hq, rfl⟩ := List.mem_map.mp hb
        exact hRm q (List.mem_append.mpr (.inr (List.mem_append.mpr (.inr hq)))))
  · intro q hq
    unfold farLed at hq
    rw [hR]
    simp only [List.mem_cons, List.mem_append] at hq ⊢
    rcases hq with h | h | h | h | h | h | h
    · exact .inl h
    · exact .inr (.inl h)
    · exact .inr (.inr (.inr (.inl h)))
    · exact .inr (.inr (.inr (.inr (.inl h))))
    · exact .inr (.inr (.inr (.inr (.inr (.inr (.inl h))))))
    · exact .inr (.inr (.inr (.inr (.inr (.inl h)))))
    · exact .inr (.inr (.inr (.inr (.inr (.inr (.inr (.inl h)))))))
  · intro q hq
    rw [hR]
    simp only [List.mem_cons, List.mem_append]
    exact .inr (.inr (.inr (.inr (.inr (.inr (.inr (.inr hq)))))))
theorem tab_none {adr : List Addr} (h : ∀ b ∈ adr, @LT.lt Nat _ 89 b) : OwnOff (tabLed none ++ []) adr := by
  intro q hq b hb
  rw [List.append_nil] at hq
  rw [List.mem_singleton.mp hq]
  exact Nat.ne_of_lt (h b hb)
theorem not_dec {p : Prop} {inst : Decidable (p = p)} {Q : Value → Shared → Prop} {s : Shared} (h : Q (.bool (!true)) s) : Q (.bool (!@decide (p = p) inst)) s := by
  rw [@decide_eq_true _ inst rfl]; exact h
theorem not_decL {l : List Dat} {inst : Decidable (l = l)} {Q : Value → Shared → Prop} {s : Shared} (h : Q (.bool (!true)) s) : Q (.bool (!@decide (l = l) inst)) s := by
  rw [@decide_eq_true _ inst rfl]; exact h
theorem in10 {α : Type} {q a1 a2 a3 a4 a5 a6 a7 a8 a9 a10 : α} {A tl : List α} (h : q ∈ tl) : q ∈ a1 :: a2 :: a3 :: a4 :: a5 :: a6 :: a7 :: a8 :: a9 :: a10 :: (A ++ tl) :=
  .tail _ (.tail _ (.tail _ (.tail _ (.tail _ (.tail _ (.tail _ (.tail _ (.tail _ (.tail _ (List.mem_append.mpr (.inr h)))))))))))
theorem text_ascii {mt : List Int} (h : ∀ v ∈ mt, v = 16 ∨ v = 35 ∨ v = 38) : (textF mt).cps.all (· < 128) = true := by
  unfold textF
  rw [← Array.all_toList, List.all_eq_true]
  intro c hc
  obtain ⟨v, hv, rfl⟩ := List.mem_map.mp hc
  rcases h v hv with rfl | rfl | rfl <;> decide
theorem text_scan {mt : List Int} (h : mt.length = 10) : (textF mt).cps.size + 1 < scanBound := by
  rw [show (textF mt).cps.size = 10 from text_len h]
  decide
end
end Mine
end
section
open PySem PySem.W PyProof.Rows PySem.Builtin PySem.Builtin.Str
open Mine9
namespace Mine
noncomputable section
local macro_rules | `(tactic| walk_at "Exists") => `(tactic| (k_here; (fail_if_success (fail_if_success (have hm : MkE := by assumption))); (refine stop ?_)))
local macro_rules | `(tactic| walk_at $k:str) => if ["compareOp NotEq ref ref", "call builtin:len"].contains k.getString then `(tactic| (k_here; (fail_if_success (fail_if_success (have hm : MkN := by assumption))); (refine stop ?_))) else Lean.Macro.throwUnsupported
local macro_rules | `(tactic| walk_at $k:str) => if ["exec For Name Call cons nil", "eval ListComp", "exec Assign cons ListComp", "CompSrc", "CompSrcT", "call builtin:str.join", "call ref", "subscriptTail Name Slice ref ref", "call builtin:all", "call builtin:list.count", "call type:dict", "call type:set", "call type:list", "call builtin:max"].contains k.getString then `(tactic| (k_here; (refine stop ?_))) else Lean.Macro.throwUnsupported
local macro_rules | `(tactic| walk_at "callWith") => `(tactic| ((with_reducible show wpAny _ _ (callWith _ (Value.builtin _) [_] _ _) _ _ _); (refine callWith_method1 ?_)))
local macro_rules | `(tactic| walk_at "And") => `(tactic| (k_here; (fail_if_success (fail_if_success (have hm : MkA := by assumption))); (refine stop ?_)))
local macro_rules | `(tactic| walk_at "call builtin:list.append") => `(tactic| (k_here; (with_reducible show wpAny _ _ (call (Value.builtin _) [Value.ref _, _]) _ _ _); k_dflt (refine' append_K ?k1 ?k2 ?k3 ?_ ?z; (case k1 => k_asm); (case k2 => k_asm); (case k3 => k_upd); (case z => (rw [List.size_toArray]; exact Nat.le_trans (by omega) (by decide : 64 ≤ sizeLine))); k_whole); intro h' F' N'; (try k_sweep)))
structure Box (P : Prop) : Prop where
  out : P
set_option maxRecDepth 100000 in
set_option maxHeartbeats 0 in
noncomputable def part1 : { P : Prop // Box P → PySem.Challenge.rw_to0064_01.Holds } := ⟨_, fun hP => by
  w_on
  refine holds_law MineH.ws (fun said9 => ?_)
  refine holds_open (q := MineH.qv) (loose := MineH.lse) (Xt := fun s => xlAt MineH.qv [] s && recOk (RowW.records PySem.Challenge.rw_to0064_01.row.toRowW) s) (XP := XL MineH.qv []) (Yf := Hook.obs (kHook MineH.KL MineH.KA MineH.kOk)) (Ya := Hook.val (kHook MineH.KL MineH.KA MineH.kOk)) (YP := Hook.says (kHook MineH.KL MineH.KA MineH.kOk)) (N := MineH.nAll) MineH.left (Hook.of (kHook MineH.KL MineH.KA MineH.kOk)) (Hook.keeps (kHook MineH.KL MineH.KA MineH.kOk)) (fun s e => xl_of s (Bool.and_eq_true_iff.mp e).1) XL.keeps (by rfl) (by rfl) (by rfl) (fun s e => recFacts_of (Bool.and_eq_true_iff.mp e).2) (by rfl) said9 (by decide +kernel) ⟨rfl, rfl, rfl, rfl, rfl, by decide +kernel⟩ ?mainW ?mainC
  case mainW => w_witness2
  clear said9
  k_fill
  k_go0
  rename_i oB oF oT dB dF dT X0 T0 K0 F0 cH1 cH2 N0 l0
  k_steps
  unfold Stop
  rename (IntsAre _ _) => hI
  k_dflt (refine' use_c ?hA (c_text _ _ _ _ hI ?hn) ?B ?F ?X ?N ?T ?hk ?hp ?hd ?hu ?h)
  case F => k_asm
  case B => k_asm
  case X => k_asm
  case N => k_asm
  case T => k_asm
  case hn => omega
  case hA => exact rfl
  case hk => exact rfl
  case hp => assumption
  case hd => decide +kernel
  case hu => decide +kernel
  case h =>
    intro D1 l1 t1 vs1 n1 h1 tk1 I1 a1 a2 F1 N1
    simp only [AllLt, and_true] at a1 a2
    (try dsimp only)
    k_steps
    unfold Stop
    k_dflt (refine' use_c ?hA (c_read _ _ _ (signs_len _)) ?B ?F ?X ?N ?T ?hk ?hp ?hd ?hu ?h)
    case F => k_asm
    case B => k_asm
    case X => k_asm
    case N => k_asm
    case T => k_asm
    case hA => exact rfl
    case hk => exact rfl
    case hp => trivial
    case hd => decide +kernel
    case hu => decide +kernel
    case h =>
      intro D2 vs2 n2 h2 tk2 I2 b2 F2 N2
      obtain ⟨mt, J1, J2, hml, hmi⟩ := meant_ex I1 I2
      clear I1 I2
      simp only [AllLt, and_true] at b2
      (try dsimp only)
      k_steps
      unfold Stop
      k_dflt (refine LCg.ListComp_U (F₀ := by k_asm) (by with_unfolding_all rfl) (by decide) (by rfl) (by decide) (by rfl) ?_)
      k_steps
      unfold Stop
      k_dflt (refine' srcU_list ?hh ?F ?N ?hm ?hsz (fun i ys => StrsAre ys ((mt.take i).map fun n => (⟨#[n.toNat]⟩ : Str))) ?turn ?fin ?h0)
      case hh => exact rfl
      case F => k_asm
      case N => k_asm
      case hm => k_mem
      case hsz => rw [List.size_toArray, J2.length, hml]; decide
      case h0 => exact StrsAre.nil
      case turn =>
        intro g9 i9 ys9 v9 hi9 I9 hv9 I' oI' C' oC' D' m' h' tk' E' hC' hx' F' N' off' ne'
        rw [List.getElem?_toArray] at hv9
        obtain ⟨n9, t9, hn9, rfl⟩ := ints_at J2 hv9
        have hn3 := hmi n9 (List.mem_of_getElem? hn9)
        k_steps
        refine LCg.CompEnd.intro (by k_asm) (by k_asm) _ (fun _ h => h) off' (.inr ⟨_, by k_mem, rfl, _, rfl⟩) ⟨rfl, ?_⟩
        rw [List.take_add_one, hn9, List.map_append]
        exact kct_snoc I9
      case fin =>
        intro g9 ys9 I9
        unfold LCg.FinE
        intro D3 h3 tk3 F3 N3 o3'
        simp only [LCg.Off1, and_true] at o3'
        (try dsimp only)
        (try k_fold)
        k_steps
        unfold Stop
        rw [List.size_toArray, J2.length, List.take_length] at I9
        refine join_list (News.isList (by k_asm) (by k_mem)) (by simpa using I9) (ones_fit mt hml) ?_
        intro t7 k7
        rw [join_text]
        (try dsimp only)
        k_steps
        unfold Stop
        rename_i oT2 F7 N7 dT2
        k_dflt (refine' use_c ?hA (c_d2i _ _ _ _ [(_, oB), (_, oF), (_, oT2), (89, tabObj #[])] J2 hml ?hb ?hoff ?hl _) ?B ?F ?X ?N ?T ?hk ?hp ?hd ?hu ?h)
        case N => exact cb_drop (by assumption) (by kcj_all)
        case F => k_asm
        case B => k_asm
        case X => k_asm
        case T => k_asm
        case hb => exact fun v hv => by rcases hmi v hv with rfl | rfl | rfl <;> decide
        case hoff => exact off_four (by omega) (by omega) (by omega) (by omega) (by omega) (by omega) (by omega) (by decide)
        case hl => exact b2.2.2.2.2.2.2
        case hA => exact rfl
        case hk => exact rfl
        case hp => trivial
        case hd => decide +kernel
        case hu => decide +kernel
        case h =>
          intro ps t6 h6 tk6 F6 N6
          (try dsimp only)
          k_steps
          rename_i z1 z2 z3 z4 z5 z6 z7 z8 z9 z10 z11 z12 z13 z14 z15 z16 z17 z18 z19 z20 z21 z22 z23 z24 z25 z26 z27 z28 z29 z30 z31 z32 z33 z34 z35 z36 z37 z38 z39 z40 z41 z42 z43 z44 z45 z46 z47 z48 z49 z50 z51 z52 z53 z54 z55 z56 z57 z58 z59 z60 z61 z62 z63 z64 z65
          clear z16 z17 z18 z19 z20 z21 z23 z24 z25 z26 z27 z37 z40 o3'
          revert z1 z2 z3 z4 z5 z6 z7 z8 z9 z10 z11 z12 z13 z14 z15 hT9 z22 z28 z29 z30 z31 z32 z33 z34 z35 z36 hI z38 z39 z41 z42 oB oF oT dB dF dT X0 T0 K0 F0 lifted cH2 codeHd l0 D1 l1 t1 vs1 n1 h1 tk1 a1 a2 z43 z44 z45 z46 D2 vs2 n2 h2 tk2 mt J1 J2 hml hmi b2 z47 z48 z49 z50 g9 ys9 I9 D3 h3 tk3 qk ek t7 k7 z51 oT2 dT2 z52 ps t6 h6 tk6 z53 z54 z55 z56 z57 z58 z59 z60 z61 z62 z63 z64 z65 tk
          exact hP.out⟩
set_option maxRecDepth 100000 in
set_option maxHeartbeats 0 in
noncomputable def part2 : { P : Prop × Prop // Box P.1 → Box P.2 → part1.1 } := ⟨(_, _), fun bxA bxB => by
  k_fill
  intro z1 z2 s1 z4 z5 z6 z7 z8 z9 z10 z11 z12 z13 z14 z15 hT9 z22 z28 z29 z30 z31 z32 z33 z34 z35 z36 hI z38 z39 z41 z42 oB oF oT dB dF dT X0 T0 K0 F0 lifted cH2 codeHd l0 D1 l1 t1 vs1 n1 h1 tk1 a1 a2 z43 z44 z45 z46 D2 vs2 n2 h2 tk2 mt J1 J2 hml hmi b2 z47 z48 z49 z50 g9 ys9 I9 D3 h3 tk3 qk ek t7 k7 z51 oT2 dT2 z52 ps t6 h6 tk6 z53 z54 aF q0 lF q1 q2 aS q3 lS hp9 F9 N9 tk
  have hml' : ((mt.length : Nat) : Int) = 10 := by omega
  rw [hml'] at F9
  unfold Stop
  refine for_range_any F9 (a := 1) (b := 6) (n := 5) (farJof F9 aS aF D2 (W.listOf vs2.toArray n2) (tabObj ps) oB oT2 mt) ?h ?hgo ?hE ?hs
  case hgo => intro I v; rfl
  case hs => intro x; rfl
  case hE => first | passes_own | with_unfolding_all passes_own
  case h =>
    have hE : MkE := ⟨⟩
    k_steps
    unfold Stop
    clear hE
    rename_i ur vr tr hR Fr1 Nr1 kr1
    rw [show (10 : Int).fdiv 2 + 1 = 6 from by decide] at hR
    refine ⟨_, _, _, _, _, farLed aS aF s1.heap.objs.size [(D2, W.listOf vs2.toArray n2), (96, tabObj ps), (s1.heap.objs.size + 1 + 1 + 1, oB), (s1.heap.objs.size + 1, oT2)] ⟨oF, [], 0, [], 0, none, []⟩, rfl, rfl, Fr1, cb_drop Nr1 ?fsub, hR, by decide, by decide, ?fj0, ?fturn, ?fdone⟩
    case fsub => dsimp only [farLed, tabLed, List.cons_append, List.nil_append]; kcj_all
    case fj0 =>
      refine ⟨⟨oF, [], 0, [], 0, none, []⟩, rfl, fun _ _ _ _ => rfl, ⟨_, dF⟩, .nil, .nil, tab_none ?_, fun _ h => absurd h List.not_mem_nil, trivial⟩
      dsimp only [List.map]
      simp only [List.forall_mem_cons, List.not_mem_nil, false_implies, implies_true, and_true]
      exact ⟨lS.2.2.2.2.2.2, lF.2.2.2.2.2, by omega, by omega, by decide, by omega, by omega⟩
    case fdone =>
      rename_i yy1 yy2 yy3 yy4
      revert z1 z2 s1 z4 z5 z6 z7 z8 z9 z10 z11 z12 z13 z14 z15 hT9 z22 z28 z29 z30 z31 z32 z33 z34 z35 z36 hI z38 z39 z41 z42 oB oF oT dB dF dT X0 T0 K0 F0 lifted cH2 codeHd l0 D1 l1 t1 vs1 n1 h1 tk1 a1 a2 z43 z44 z45 z46 D2 vs2 n2 h2 tk2 mt J1 J2 hml hmi b2 z47 z48 z49 z50 g9 ys9 I9 D3 h3 tk3 qk ek t7 k7 z51 oT2 dT2 z52 ps t6 h6 tk6 z53 z54 aF q0 lF q1 q2 aS q3 lS hp9 yy1 yy2 tk hml' yy3 yy4 ur vr tr hR Fr1 Nr1 kr1
      exact bxA.out
    case fturn =>
      intro i m₁ nx sh own t hi hJ hoff Fi Ni
      obtain ⟨⟨oF1, vF, cF, vS, cS, tb, tl⟩, rfl, hm1, hoF, hdF, hdS, hta, ht9, htb⟩ := hJ
      dsimp only at hoF hdF hdS hta ht9 htb
      have Fj := kst_frOut (x := Str.ofString "i") (ps := []) (stored := farStored) (fun _ h => nomatch h) hm1 Fi
      dsimp only [farStored, kstB] at Fj
      simp only [farLed, List.cons_append, List.nil_append, List.append_assoc] at Ni hoff
      replace Fj := same_fr Fr1 rfl Fj
      replace Ni := same_news Fr1 rfl Ni
      clear Fi hm1
      obtain ⟨hh, gg, dd, tt, oo⟩ := sh
      obtain ⟨vc, hoF⟩ := hoF
      dsimp only at Fj Ni
      dsimp only [List.map] at hta
      obtain ⟨hofA, hofR⟩ := off_pre (A := [(aS, _), (aF, _), (_, oF1), (D2, _), (96, _), (_, oB), (_, oT2)]) (R := tabLed tb ++ tl) hoff
      dsimp only [List.map] at hofA
      rw [List.map_append] at hofR
      have hofT : OwnOff own ((tabLed tb).map (·.1)) := off_sub hofR fun b hb => List.mem_append.mpr (.inl hb)
      have hofL : OwnOff own (tl.map (·.1)) := off_sub hofR fun b hb => List.mem_append.mpr (.inr hb)
      have hta1 := off_left hta
      have hta2 := off_right hta
      have hMk : KstMark := kstMark
      k_steps
      unfold Stop
      k_dflt (refine LCg.Assign_ListComp_U (F₀ := by k_asm) (by rfl) (by with_unfolding_all rfl) (by with_unfolding_all rfl) (by decide) (by rfl) (by decide) (by rfl) (by rfl) (by rfl) ?_)
      k_steps
      unfold Stop
      rw [far_up]
      rename_i oF2 F7 N7 dF2
      have hbig := moved_big hmi hml (far := i + 1) (by omega)
      have htb2 := tab_up (A := (aS, W.listOf vS.toArray cS) :: (aF, W.listOf vF.toArray cF) :: (s1.heap.objs.size + 1 + 1, oF2) :: (D2, W.listOf vs2.toArray n2) :: (96, tabObj ps) :: (s1.heap.objs.size + 1 + 1 + 1, oB) :: (s1.heap.objs.size + 1, oT2) :: []) htb hta1 hofT
      have h89 : ∀ b ∈ [aS, aF, s1.heap.objs.size + 1 + 1, D2, 96, s1.heap.objs.size + 1 + 1 + 1, s1.heap.objs.size + 1], @LT.lt Nat _ 89 b := by
        simp only [List.forall_mem_cons, List.not_mem_nil, false_implies, implies_true, and_true]
        exact ⟨lS.2.2.2.2.2.2, lF.2.2.2.2.2, by omega, by omega, by decide, by omega, by omega⟩
      have hof89 : OwnOff ((aS, W.listOf vS.toArray cS) :: (aF, W.listOf vF.toArray cF) :: (s1.heap.objs.size + 1 + 1, oF2) :: (D2, W.listOf vs2.toArray n2) :: (96, tabObj ps) :: (s1.heap.objs.size + 1 + 1 + 1, oB) :: (s1.heap.objs.size + 1, oT2) :: (tl ++ own)) [89] :=
        off_big (A := (aS, W.listOf vS.toArray cS) :: (aF, W.listOf vF.toArray cF) :: (s1.heap.objs.size + 1 + 1, oF2) :: (D2, W.listOf vs2.toArray n2) :: (96, tabObj ps) :: (s1.heap.objs.size + 1 + 1 + 1, oB) :: (s1.heap.objs.size + 1, oT2) :: []) h89 ht9 (off_sub hofT fun b hb => List.mem_singleton.mp hb ▸ tab_has tb)
      dsimp only [List.cons_append, List.nil_append] at htb2
      k_dflt (refine' use_c ?hA (c_i2dU _ _ _ hbig.1 hbig.2 hof89 _ tb htb2) ?B ?F ?X ?N ?T ?hk ?hp ?hd ?hu ?h)
      case N => exact cb_drop (by assumption) (by kcj_all)
      case F => k_asm
      case B => k_asm
      case X => k_asm
      case T => k_asm
      case hA => exact rfl
      case hk => exact rfl
      case hp => trivial
      case hd => decide +kernel
      case hu => decide +kernel
      case h =>
        intro D p vs' n h' tk' I1 htb3 lD h9D hpD F8 N8
        obtain ⟨R, hR⟩ : ∃ R, R = tabLed (some p) ++ (tl ++ own) := ⟨_, rfl⟩
        have hRo : OwnOff R [D, aS, aF, s1.heap.objs.size + 1 + 1, D2, 96, s1.heap.objs.size + 1 + 1 + 1, s1.heap.objs.size + 1] := by
          rw [hR]
          exact off_app (off_cons (tab_off1 hpD h9D) (tab_off (A := (aS, W.listOf vS.toArray cS) :: (aF, W.listOf vF.toArray cF) :: (s1.heap.objs.size + 1 + 1, oF2) :: (D2, W.listOf vs2.toArray n2) :: (96, tabObj ps) :: (s1.heap.objs.size + 1 + 1 + 1, oB) :: (s1.heap.objs.size + 1, oT2) :: []) htb3 h89))
            (off_cons (off_of_lt lD.2.2.2.2.2.2.2) (off_app hta2 hofA))
        have N9b : News (ghostOf s1.heap [(93, 89), (100, 96)]) s1.heap.objs.size h' ((D, W.listOf vs'.toArray n) :: (aS, W.listOf vS.toArray cS) :: (aF, W.listOf vF.toArray cF) :: (s1.heap.objs.size + 1 + 1, oF2) :: (D2, W.listOf vs2.toArray n2) :: (96, tabObj ps) :: (s1.heap.objs.size + 1 + 1 + 1, oB) :: (s1.heap.objs.size + 1, oT2) :: R) :=
          cb_drop N8 (by rw [hR]; exact mem_swap (T := tabLed (some p)) (B := tl ++ own) (A := (aS, W.listOf vS.toArray cS) :: (aF, W.listOf vF.toArray cF) :: (s1.heap.objs.size + 1 + 1, oF2) :: (D2, W.listOf vs2.toArray n2) :: (96, tabObj ps) :: (s1.heap.objs.size + 1 + 1 + 1, oB) :: (s1.heap.objs.size + 1, oT2) :: []))
        clear N8
        have lDs : aS < D ∧ aF < D := ⟨lD.1, lD.2.1⟩
        have hdl : vs'.length = 10 := I1.length
        (try dsimp only)
        k_dflt (refine' srcU_list ?hh ?F ?N ?hm ?hsz (fun j ys => ys = ((digitsF (bitXor (valF mt 0 10) (valF mt 0 10 / 64 ^ (i + 1)))).take j).map fun d => Value.bool (d == 0)) ?turn ?fin ?h0)
        case hh => exact rfl
        case F => k_asm
        case N => k_asm
        case hm => k_mem
        case hsz => rw [List.size_toArray, hdl]; decide
        case h0 => rfl
        case turn =>
          intro g9 i9 ys9 v9 hi9 I9 hv9 I' oI' C' oC' D' m' h' tk' E' hC' hx' F' N' off' ne'
          rw [List.getElem?_toArray] at hv9
          obtain ⟨n9, t9, hn9, rfl⟩ := ints_at I1 hv9
          k_steps
          unfold Stop
          k_dflt (refine' use_b ?hA (c_iseof _ _ _) ?B ?F ?X ?N ?T ?hk ?hp ?hd ?hu ?h)
          case F => k_asm
          case B => k_asm
          case X => k_asm
          case N => k_asm
          case T => k_asm
          case hA => exact rfl
          case hk => exact rfl
          case hp => trivial
          case hd => ktr_room
          case hu => ktr_units
          case h =>
            intro t8 h8 tk8 F8 N8
            (try dsimp only)
            k_steps
            refine LCg.CompEnd.intro (by k_asm) (by k_asm) _ (fun _ h => h) off' (.inr ⟨_, by k_mem, rfl, _, rfl⟩) ⟨rfl, ?_⟩
            rw [List.take_add_one, hn9, List.map_append, I9]
            rfl
        case fin =>
          intro g9 ys9 I9
          rw [List.size_toArray, hdl] at I9
          replace I9 := ys_same hmi hml (i + 1) I9
          subst I9
          unfold LCg.FinA
          intro D5 h5 tk5 F5 N5 o5
          simp only [LCg.Off1, and_true] at o5
          (try dsimp only)
          (try k_fold)
          k_steps
          unfold Stop
          k_dflt (refine LCg.ListComp_U (F₀ := by k_asm) (by with_unfolding_all rfl) (by decide) (by rfl) (by decide) (by rfl) ?_)
          k_steps
          unfold Stop
          k_dflt (refine' srcU_list ?hh ?F ?N ?hm ?hsz (fun j ys => StrsAre ys (((sameF mt (i + 1)).take j).map fun b => if b then Str.ofString " " else Str.ofString "\t")) ?turn ?fin ?h0)
          case hh => exact rfl
          case F => k_asm
          case N => k_asm
          case hm => k_mem
          case hsz => rw [List.size_toArray, List.length_map, same_len]; decide
          case h0 => exact StrsAre.nil
          case turn =>
            intro g9 i9 ys9 v9 hi9 I9 hv9 I' oI' C' oC' D' m' h' tk' E' hC' hx' F' N' off' ne'
            rw [List.getElem?_toArray, List.getElem?_map] at hv9
            obtain ⟨b9, hb9, rfl⟩ := Option.map_eq_some_iff.mp hv9
            have hI9 : ∀ t, StrsAre (ys9 ++ [Value.str (if b9 then Str.ofString " " else Str.ofString "\t") t]) (((sameF mt (i + 1)).take (i9 + 1)).map fun b => if b then Str.ofString " " else Str.ofString "\t") := by
              intro t
              rw [List.take_add_one, hb9, List.map_append]
              exact kct_snoc I9
            cases b9
            · k_steps
              exact LCg.CompEnd.intro (by k_asm) (by k_asm) _ (fun _ h => h) off' (.inr ⟨_, by k_mem, rfl, _, rfl⟩) ⟨rfl, hI9 _⟩
            · k_steps
              exact LCg.CompEnd.intro (by k_asm) (by k_asm) _ (fun _ h => h) off' (.inr ⟨_, by k_mem, rfl, _, rfl⟩) ⟨rfl, hI9 _⟩
          case fin =>
            intro g9 ys9 I9
            rw [List.size_toArray, List.length_map, same_len, List.take_of_length_le (by rw [same_len]; exact Nat.le_refl _)] at I9
            unfold LCg.FinE
            intro D6 h6 tk6 F6 N6 o6
            simp only [LCg.Off1, and_true] at o6
            (try dsimp only)
            (try k_fold)
            k_steps
            unfold Stop
            refine join_list (News.isList (by k_asm) (by k_mem)) (by simpa using I9) (lead_fit _ (same_len mt (i + 1))) ?_
            intro t9 k9
            rw [lead_join]
            (try dsimp only)
            k_steps
            unfold Stop
            k_dflt (refine' use_c ?hA (c_ws _ _ _ ?hx ?hc) ?B ?F ?X ?N ?T ?hk ?hp ?hd ?hu ?h)
            case hx => exact Nat.le_of_eq (lead_len _ (same_len mt (i + 1)))
            case hc => exact lead_chars _
            case N => k_asm
            case F => k_asm
            case B => k_asm
            case X => k_asm
            case T => k_asm
            case hA => exact rfl
            case hk => exact rfl
            case hp => trivial
            case hd => decide +kernel
            case hu => decide +kernel
            case h =>
              intro X dX Dn DT u1 u2 u3 u4 u5 tn tb' raw nn sm vsC cnt bC ntC h7 tk7 e7 I7 hb0 hb10 hcl hnt0 hnt10 lX1 lX2 lX3 ldX F7 N7
              simp only [AllLt] at ldX
              simp only [List.cons_append, List.nil_append] at N7
              (try dsimp only)
              k_steps
              unfold Stop
              rename_i yy1 yy2 yy3 yy4 yy5 yy6 yy7 yy8 yy9 yy10 yy11 yy12 yy13 yy14 yy15 yy16 yy17 yy18 yy19 yy20
              revert z1 z2 s1 z4 z5 z6 z7 z8 z9 z10 z11 z12 z13 z14 z15 hT9 z22 z28 z29 z30 z31 z32 z33 z34 z35 z36 hI z38 z39 z41 z42 oB oF oT dB dF dT X0 T0 K0 F0 lifted cH2 codeHd l0 D1 l1 t1 vs1 n1 h1 tk1 a1 a2 z43 z44 z45 z46 D2 vs2 n2 h2 tk2 mt J1 J2 hml hmi b2 z47 z48 z49 z50 yy1 yy2 yy3 D3 h3 tk3 yy4 yy5 t7 k7 z51 oT2 dT2 z52 ps t6 yy6 yy7 z53 z54 aF q0 lF q1 q2 aS q3 lS hp9 yy8 yy9 hml' yy10 yy11 ur vr tr yy12 kr1 i m₁ own t hi oF1 vF cF vS cS tb tl hoff hdF hdS hta ht9 htb hh gg dd tt oo vc hoF hofA hofR hofT hofL hta1 hta2 hMk yy13 oF2 dF2 yy14 hbig htb2 h89 hof89 D p vs' n h' tk' I1 htb3 lD h9D hpD R hR hRo lDs hdl yy15 D5 h5 tk5 o5 yy16 yy17 g9 ys9 I9 D6 h6 tk6 o6 qk ek t9 k9 X dX Dn DT u1 u2 u3 u4 u5 tn tb' raw nn sm vsC cnt bC ntC h7 tk7 e7 I7 hb0 hb10 hcl hnt0 hnt10 lX1 lX2 lX3 ldX yy18 yy19 yy20 tk
              exact bxB.out⟩
set_option maxRecDepth 100000 in
set_option maxHeartbeats 0 in
noncomputable def part3 : { P : Prop // Box P → part2.1.2 } := ⟨_, fun bxC => by
  k_fill
  intro z1 z2 s1 z4 z5 z6 z7 z8 z9 z10 z11 z12 z13 z14 z15 hT9 z22 z28 z29 z30 z31 z32 z33 z34 z35 z36 hI z38 z39 z41 z42 oB oF oT dB dF dT X0 T0 K0 F0 lifted cH2 codeHd l0 D1 l1 t1 vs1 n1 h1 tk1 a1 a2 z43 z44 z45 z46 D2 vs2 n2 h2 tk2 mt J1 J2 hml hmi b2 z47 z48 z49 z50 yy1 yy2 yy3 D3 h3 tk3 yy4 yy5 t7 k7 z51 oT2 dT2 z52 ps t6 yy6 yy7 z53 z54 aF q0 lF q1 q2 aS q3 lS hp9 yy8 yy9 hml' yy10 yy11 ur vr tr yy12 kr1 i m₁ own t hi oF1 vF cF vS cS tb tl hoff hdF hdS hta ht9 htb hh gg dd tt oo vc hoF hofA hofR hofT hofL hta1 hta2 hMk yy13 oF2 dF2 yy14 hbig htb2 h89 hof89 D p vs' n h' tk' I1 htb3 lD h9D hpD R hR hRo lDs hdl yy15 D5 h5 tk5 o5 yy16 yy17 g9 ys9 I9 D6 h6 tk6 o6 qk ek t9 k9 X dX Dn DT u1 u2 u3 u4 u5 tn tb' raw nn sm vsC cnt bC ntC h7 tk7 e7 I7 hb0 hb10 hcl hnt0 hnt10 lX1 lX2 lX3 ldX yy18 yy19 yy20 tk
  have hxl : (textF mt).length = 10 := text_len hml
  k_dflt (refine LCt.ListComp_T (F₀ := by k_asm) (by with_unfolding_all rfl) (by decide) (by rfl) (by decide) (by rfl) ?_)
  k_steps
  unfold Stop
  rename IsRange _ _ _ _ _ _ _ _ => hR9
  k_dflt (refine' srcT_range ?hh ?F ?N hR9 (far_small hi).1 (far_small hi).2 ?hsz (fun j ys => ys.length = (((sameF mt (i + 1)).take j).filter id).length) ?turn ?fin ?h0)
  case hh => exact rfl
  case F => k_asm
  case N => k_asm
  case hsz => exact Nat.le_trans (Nat.sub_le _ _) (by decide)
  case h0 => rfl
  case turn =>
    intro g9 i9 ys9 t9 hi9 I9 I' oI' C' oC' D' m' h' tk' E' hC' hx' F' N' off' ne'
    k_steps
    · rename ((Txt.item _ _ == Txt.item _ _) = true) => he
      rw [item_same hmi hml (by omega)] at he
      refine LCg.CompEnd.intro (by k_asm) (by k_asm) _ (fun _ h => h) off' trivial ⟨rfl, ?_⟩
      rw [List.length_append, List.take_add_one, List.filter_append, List.length_append, I9, same_at? (i := i) (by omega) he]
      rfl
    · rename ((Txt.item _ _ == Txt.item _ _) = false) => he
      rw [item_same hmi hml (by omega)] at he
      refine LCg.CompEnd.intro (by k_asm) (by k_asm) _ (fun _ h => h) off' trivial ⟨rfl, ?_⟩
      rw [List.take_add_one, List.filter_append, List.length_append, I9, same_at? (i := i) (by omega) he]
      rfl
  case fin =>
    intro g9 ys9 I9
    have hyl : ys9.length ≤ 10 := by
      rw [I9]
      refine Nat.le_trans (List.length_filter_le _ _) ?_
      rw [List.length_take, same_len]
      exact Nat.min_le_right _ _
    unfold LCg.FinE
    intro D7 h7 tk7 F7 N7 o7
    simp only [LCg.Off1, and_true] at o7
    (try dsimp only)
    (try k_fold)
    k_steps
    refine PyProof.Rows.len_list (News.isList (by k_asm) (by k_mem)) (by rw [List.size_toArray]; omega) ?_
    rw [show ys9.toArray.size = ys9.length from List.size_toArray .., I9]
    (try dsimp only)
    k_steps
    unfold Stop
    k_dflt (refine' use_c ?hA (c_ind X dX Dn DT u1 u2 u3 u4 u5 tn tb' raw nn sm vsC cnt bC ntC (1 + (i : Int)) _ ((D5, LCg.lst ((sameF mt (i + 1)).map Value.bool)) :: (aS, W.listOf vS.toArray cS) :: (aF, W.listOf vF.toArray cF) :: (s1.heap.objs.size + 1 + 1, oF2) :: (D2, W.listOf vs2.toArray n2) :: (96, tabObj ps) :: (s1.heap.objs.size + 1 + 1 + 1, oB) :: (s1.heap.objs.size + 1, oT2) :: R) I7 hb0 hb10 hcl hnt0 hnt10 (by omega) (by omega) lX1 lX2 lX3) ?B ?F ?X ?N ?T ?hk ?hp ?hd ?hu ?h)
    case N => exact cb_drop (by assumption) (by kcj_all)
    case F => k_asm
    case B => k_asm
    case X => k_asm
    case T => k_asm
    case hA => exact rfl
    case hk => exact rfl
    case hp => trivial
    case hd => decide +kernel
    case hu => decide +kernel
    case h =>
      intro t8 h8 tk8 F8 N8
      simp only [List.cons_append, List.nil_append] at N8
      (try dsimp only)
      k_steps
      unfold Stop
      k_dflt (refine' use_b ?hA (c_leaps _ _ _ _ _) ?B ?F ?X ?N ?T ?hk ?hp ?hd ?hu ?h)
      case F => k_asm
      case B => k_asm
      case X => k_asm
      case N => k_asm
      case T => k_asm
      case hA => exact rfl
      case hk => exact rfl
      case hp => exact ⟨hxl, by omega, by omega⟩
      case hd => ktr_room
      case hu => ktr_units
      case h =>
        intro t10 h10 tk10 F10 N10
        (try dsimp only)
        have hlaw := far_law e7 hmi hml hi
        k_steps
        · exact absurd hlaw (by assumption)
        · exact absurd hlaw (by assumption)
        · unfold Stop
          clear hlaw
          rename_i xx1 xx2 xx3 xx4 xx5 xx6 xx7 xx8 xx9 xx10 xx11 xx12 xx13 xx14 xx15 xx16 xx17 xx18 xx19
          clear o6 o7
          revert z1 z2 s1 z4 z5 z6 z7 z8 z9 z10 z11 z12 z13 z14 z15 hT9 z22 z28 z29 z30 z31 z32 z33 z34 z35 z36 hI z38 z39 z41 z42 oB oF oT dB dF dT X0 T0 K0 F0 lifted cH2 codeHd l0 D1 l1 t1 vs1 n1 h1 tk1 a1 a2 z43 z44 z45 z46 D2 vs2 n2 h2 tk2 mt J1 J2 hml hmi b2 z47 z48 z49 z50 yy1 yy2 yy3 D3 h3 tk3 yy4 yy5 t7 k7 z51 oT2 dT2 z52 ps t6 yy6 yy7 z53 z54 aF q0 lF q1 q2 aS q3 lS hp9 yy8 yy9 hml' yy10 yy11 ur vr tr yy12 kr1 i m₁ own t hi oF1 vF cF vS cS tb tl hoff hdF hdS hta ht9 htb hh gg dd tt oo vc hoF hofA hofR hofT hofL hta1 hta2 hMk yy13 oF2 dF2 yy14 hbig htb2 h89 hof89 D p vs' n h' tk' I1 htb3 lD h9D hpD R hR hRo lDs hdl yy15 D5 h5 tk5 o5 yy16 yy17 xx1 xx2 xx3 D6 h6 tk6 xx4 xx5 t9 k9 X dX Dn DT u1 u2 u3 u4 u5 tn tb' raw nn sm vsC cnt bC ntC xx6 xx7 e7 I7 hb0 hb10 hcl hnt0 hnt10 lX1 lX2 lX3 ldX yy18 xx8 hxl xx9 xx10 xx11 xx12 xx13 hR9 xx14 g9 ys9 I9 hyl D7 h7 tk7 qk ek xx15 xx16 xx17 xx18 t8 h8 tk8 F8 N8 t10 h10 tk10 F10 N10 xx19 tk
          exact bxC.out⟩
set_option maxRecDepth 100000 in
set_option maxHeartbeats 0 in
theorem part5 : part2.1.1 := by
  k_fill
  intro z1 z2 s1 z4 z5 z6 z7 z8 z9 z10 z11 z12 z13 z14 z15 hT9 z22 z28 z29 z30 z31 z32 z33 z34 z35 z36 hI z38 z39 z41 z42 oB oF oT dB dF dT X0 T0 K0 F0 lifted cH2 codeHd l0 D1 l1 t1 vs1 n1 h1 tk1 a1 a2 z43 z44 z45 z46 D2 vs2 n2 h2 tk2 mt J1 J2 hml hmi b2 z47 z48 z49 z50 g9 ys9 I9 D3 h3 tk3 qk ek t7 k7 z51 oT2 dT2 z52 ps t6 h6 tk6 z53 z54 aF q0 lF q1 q2 aS q3 lS hp9 yy1 yy2 tk hml' yy3 yy4 ur vr tr hR Fr1 Nr1 kr1
  intro m3 nx3 h3 tk3 hJ3 F3 N3
  obtain ⟨⟨oF1, vF, cF, vS, cS, tb, tl⟩, rfl, hm1, hoF, hdF, hdS, hta, ht9, htb⟩ := hJ3
  dsimp only at hoF hdF hdS hta ht9 htb
  have Fj := kst_frOut (x := Str.ofString "i") (ps := []) (stored := farStored) (fun _ h => nomatch h) hm1 F3
  dsimp only [farStored, kstB] at Fj
  simp only [farLed, List.cons_append, List.nil_append, List.append_assoc] at N3
  replace Fj := same_fr Fr1 rfl Fj
  replace N3 := same_news Fr1 rfl N3
  clear F3 hm1
  obtain ⟨vc, hoF⟩ := hoF
  dsimp only [List.map] at hta
  have hMk : KstMark := kstMark
  have hN : MkN := ⟨⟩
  (try dsimp only)
  k_steps
  unfold Stop
  have hvF : vF.length ≤ 64 := by rw [hdF.length]; exact Nat.le_trans (sqUp_len mt 5) (by decide)
  k_dflt (refine dict_pairs_N (by k_asm) (by k_asm) (Top.nolimit (by k_asm)) (by rfl) (by k_mem) (sqUp_eq mt 5 ▸ hdF) (fun q hq => .tail _ (.tail _ (.tail _ (.tail _ (.tail _ (.tail _ (.tail _ (List.mem_append.mpr (.inr hq))))))))) (Nat.le_trans hvF (by decide)) ?_)
  intro D4 h4 tk4 o4 prs e41 e42 F4 N4 hD4 l4 lo4
  (try k_lt l4)
  (try dsimp only)
  k_steps
  unfold Stop
  simp only [AllLt] at l4
  have hm5 := merged_last e41 e42
  have hkv : (merged [] prs).length = (lastL mt).length := by
    have h9 := hm5.length
    rw [List.length_map, List.length_map] at h9
    exact h9
  have hkl : (merged [] prs).length ≤ 64 := by
    refine Nat.le_trans (merged_length_le [] prs) ?_
    have h9 := congrArg List.length e41
    rw [List.length_map, List.length_map] at h9
    have h8 := congrArg List.length (sqUp_eq mt 5)
    rw [List.length_map] at h8
    have h7 := sqUp_len mt 5
    rw [List.length_nil]
    omega
  k_dflt (refine kdl_list_valuesP (knd := PySem.strKind _ _) (by rfl) (by k_asm) (by k_asm) (by k_mem) (by k_mem) (by k_asm) (Nat.le_trans hkl (by decide)) ?_)
  intro B cB h5 tk5 F5 N5 l5
  (try k_lt l5)
  (try dsimp only)
  k_steps
  unfold Stop
  k_dflt (refine kqd_ne (by k_asm) (by k_mem) rfl rfl hdF (fun q hq => in10 hq) (by k_mem) rfl rfl hdS (fun q hq => in10 hq) (sqOk hmi 5) (sqOk hmi 5) (by ktr_units) ?_)
  simp only [decide_true, Bool.not_true]
  k_steps
  unfold Stop
  k_dflt (refine kda_len (knd := PySem.strKind _ _) (by k_asm) (by k_mem) (by k_asm) (by k_asm) (Nat.le_trans hkl (by decide)) ?_)
  rw [hkv]
  k_steps
  unfold Stop
  k_dflt (refine set_str_N (by k_asm) (by k_asm) (by rfl) (text_ascii hmi) (text_scan hml) ?_)
  intro D6 h6 tk6' o6 F6 N6 hs6 l6
  (try dsimp only)
  k_steps
  unfold Stop
  have hlast := last_law hmi hml
  have hbeg := begun_law hmi hml
  k_dflt (refine kse_len (knd := PySem.strKind _ _) (by k_asm) (UpdF.head fun q hq => Nat.ne_of_lt (allLt_mem l6 hq)) hs6 (Int.lt_of_le_of_lt (b := 10) (by omega) (by decide)) ?_)
  simp only [AllLt] at l6
  generalize (seenK (fun i => (⟨#[(textF mt).cps.getD i 0]⟩ : Str)) (textF mt).cps.size).length = ls at hlast ⊢
  (try dsimp only)
  k_steps
  unfold Stop
  k_dflt (refine LCg.ListComp_U (F₀ := by k_asm) (by with_unfolding_all rfl) (by decide) (by rfl) (by decide) (by rfl) ?_)
  k_steps
  unfold Stop
  rename IsRange _ _ _ _ _ _ _ _ => hR9
  k_dflt (refine' srcU_range (n := 10) ?hh ?F ?N hR9 (by decide) (by decide) ?hsz (fun j ys => IntsAre ys ((List.range j).map fun (i : Nat) => ((((lastL mt).map (·.2)).count (i : Int) : Nat) : Int))) ?turn ?fin ?h0)
  case hh => exact rfl
  case F => k_asm
  case N => k_asm
  case hsz => decide
  case h0 => exact .nil
  case turn =>
    intro g9 i9 ys9 t9 hi9 I9 I' oI' C' oC' D' m' h' tk' E' hC' hx' F' N' off' ne'
    rw [Int.zero_add] at hx'
    k_steps
    unfold Stop
    refine count_list_ints (News.isList (by k_asm) (by k_mem)) hm5 ?_
    (try dsimp only)
    k_steps
    refine LCg.CompEnd.intro (by k_asm) (by k_asm) _ (fun _ h => h) off' trivial ⟨rfl, ?_⟩
    rw [List.range_succ, List.map_append]
    exact ints_snoc9 I9
  case fin =>
    intro g9 ys9 I9
    unfold LCg.FinE
    intro D7 h7 tk7 F7 N7 o7
    simp only [LCg.Off1, and_true] at o7
    (try dsimp only)
    (try k_fold)
    k_steps
    unfold Stop
    refine kso_max (by k_asm) (by k_asm) (News.isList (by k_asm) (by k_mem)) I9 (by rw [List.length_map, List.length_range]; decide) (by rfl) ?_
    intro h8 M t8 tk8 F8 N8 hM hmx
    have hM2 : M ≤ 2 := by
      obtain ⟨i, hi, rfl⟩ := List.mem_map.mp hM
      have := hbeg i (List.mem_range.mp hi)
      omega
    clear hM hmx hbeg I9 hm5 hlast hkv hkl hdF hdS e41 e42 hs6 hD4
    have hA : MkA := ⟨⟩
    k_steps
    unfold Stop
    clear hA
    rw [decide_eq_true hM2]
    clear hM2
    cases tb with
    | none =>
      simp only [tabLed, List.cons_append, List.nil_append] at N8
      k_steps
    | some pt =>
      simp only [tabLed, List.cons_append, List.nil_append] at N8
      k_steps
set_option maxRecDepth 100000 in
set_option maxHeartbeats 0 in
theorem part4 : part3.1 := by
  k_fill
  intro z1 z2 s1 z4 z5 z6 z7 z8 z9 z10 z11 z12 z13 z14 z15 hT9 z22 z28 z29 z30 z31 z32 z33 z34 z35 z36 hI z38 z39 z41 z42 oB oF oT dB dF dT X0 T0 K0 F0 lifted cH2 codeHd l0 D1 l1 t1 vs1 n1 h1 tk1 a1 a2 z43 z44 z45 z46 D2 vs2 n2 h2 tk2 mt J1 J2 hml hmi b2 z47 z48 z49 z50 yy1 yy2 yy3 D3 h3 tk3 yy4 yy5 t7 k7 z51 oT2 dT2 z52 ps t6 yy6 yy7 z53 z54 aF q0 lF q1 q2 aS q3 lS hp9 yy8 yy9 hml' yy10 yy11 ur vr tr yy12 kr1 i m₁ own t hi oF1 vF cF vS cS tb tl hoff hdF hdS hta ht9 htb hh gg dd tt oo vc hoF hofA hofR hofT hofL hta1 hta2 hMk yy13 oF2 dF2 yy14 hbig htb2 h89 hof89 D p vs' n h' tk' I1 htb3 lD h9D hpD R hR hRo lDs hdl yy15 D5 h5 tk5 o5 yy16 yy17 xx1 xx2 xx3 D6 h6 tk6 xx4 xx5 t9 k9 X dX Dn DT u1 u2 u3 u4 u5 tn tb' raw nn sm vsC cnt bC ntC xx6 xx7 e7 I7 hb0 hb10 hcl hnt0 hnt10 lX1 lX2 lX3 ldX yy18 xx8 hxl xx9 xx10 xx11 xx12 xx13 hR9 xx14 g9 ys9 I9 hyl D7 h7 tk7 qk ek xx15 xx16 xx17 xx18 t8 h8 tk8 F8 N8 t10 h10 tk10 F10 N10 xx19 tk
  rename Fr _ _ _ _ => Fz
  rename News _ _ _ _ => Nz
  refine for_range_any Fz (a := 0) (b := 10 - 2 * (1 + (i : Int)) + 1) (n := 9 - 2 * i) (inJof Fz aS aF [(D5, LCg.lst ((sameF mt (i + 1)).map Value.bool)), (s1.heap.objs.size + 1 + 1, oF2), (D2, W.listOf vs2.toArray n2), (96, tabObj ps), (s1.heap.objs.size + 1 + 1 + 1, oB), (s1.heap.objs.size + 1, oT2)] R tl (D5 :: aS :: aF :: (s1.heap.objs.size + 1 + 1) :: D2 :: 96 :: (s1.heap.objs.size + 1 + 1 + 1) :: (s1.heap.objs.size + 1) :: R.map (·.1)) mt i) ?h ?hgo ?hE ?hs
  case hgo => intro I v; rfl
  case hs => intro x; rfl
  case hE => first | passes_own | with_unfolding_all passes_own
  case h =>
    have hE : MkE := ⟨⟩
    k_steps
    unfold Stop
    clear hE
    rename_i ur vr tr hR9 Fr1 Nr1 kr1
    refine ⟨_, _, _, _, _, (aS, W.listOf vS.toArray cS) :: (aF, W.listOf vF.toArray cF) :: ([(D5, LCg.lst ((sameF mt (i + 1)).map Value.bool)), (s1.heap.objs.size + 1 + 1, oF2), (D2, W.listOf vs2.toArray n2), (96, tabObj ps), (s1.heap.objs.size + 1 + 1 + 1, oB), (s1.heap.objs.size + 1, oT2)] ++ ([] ++ R)), rfl, rfl, Fr1, cb_drop Nr1 ?isub, hR9, (in_small hi).1, (in_small hi).2, ?ij0, ?iturn, ?idone⟩
    case ij0 => exact ⟨vF, cF, vS, cS, [], rfl, fun _ _ _ _ => rfl, by simpa [sqTo] using hdF, by simpa [sqTo] using hdS, fun _ h => nomatch h⟩
    case isub => dsimp only [List.cons_append, List.nil_append]; kcj_all
    case idone =>
      intro m3 nx3 h3 tk3 hJ3 F3 N3
      obtain ⟨vF3, cF3, vS3, cS3, tlN, rfl, hm2, hdF3, hdS3, hoN⟩ := hJ3
      have Fj := kst_frOut (x := Str.ofString "i") (ps := []) (stored := []) (fun _ h => nomatch h) hm2 F3
      simp only [kstB, List.contains_nil, Bool.false_eq_true, if_false] at Fj
      simp only [List.cons_append, List.nil_append, List.append_assoc] at N3
      replace Fj := same_fr Fr1 rfl Fj
      replace N3 := same_news Fr1 rfl N3
      clear F3 hm2
      k_steps
      exact far_end (K := [(D2, W.listOf vs2.toArray n2), (96, tabObj ps), (s1.heap.objs.size + 1 + 1 + 1, oB), (s1.heap.objs.size + 1, oT2)]) Fj (by
        intro z hz h3
        simp only [farStored, List.contains_cons, List.contains_nil, Bool.or_false, Bool.or_eq_false_iff, beq_eq_false_iff_ne, ne_eq] at h3
        simp [hz, h3]) N3 hR dF2 hi hdF3 hdS3 hoN hRo ht9 htb3 hofA (off_sub hofT fun b hb => List.mem_singleton.mp hb ▸ tab_has tb) hofL
    case iturn =>
      rintro j m₂ nx ⟨hh3, gg3, dd3, tt3, oo3⟩ ownI tI hj ⟨vF3, cF3, vS3, cS3, tlN, rfl, hm2, hdF3, hdS3, hoN⟩ hoffI Fi Ni
      have Fj := kst_frOut (x := Str.ofString "i") (ps := []) (stored := []) (fun _ h => nomatch h) hm2 Fi
      simp only [kstB, List.contains_nil, Bool.false_eq_true, if_false] at Fj
      simp only [List.cons_append, List.nil_append, List.append_assoc] at Ni hoffI
      replace Fj := same_fr Fr1 rfl Fj
      replace Ni := same_news Fr1 rfl Ni
      (try dsimp only at Fj Ni)
      clear Fi hm2
      rw [Int.zero_add]
      obtain ⟨hoI, hoI2⟩ := off_pre (A := [(aS, _), (aF, _), (D5, _), (_, oF2), (D2, _), (96, _), (_, oB), (_, oT2)]) (R := tlN ++ R) hoffI
      dsimp only [List.map] at hoI
      have hzF : vF3.length ≤ 64 := by rw [hdF3.length]; exact sq_len hi hj
      have hzS : vS3.length ≤ 64 := by rw [hdS3.length]; exact sq_len hi hj
      have hMk : KstMark := kstMark
      have hpick : kms_pick ((sameF mt (i + 1)).map Value.bool).toArray.toList (some (j : Int)) (some ((j : Int) + (1 + (i : Int)))) = ((((sameF mt (i + 1)).drop j).take (i + 1)).map Value.bool) := pick_bools (by rw [same_len]; exact place_le2 hi hj)
      k_steps
      unfold Stop
      k_dflt (refine' kms_slice_lit ?F ?N ?l ?pa ?pb hpick ?_ ?s ?t ?z; (case F => k_asm); (case N => k_asm); (case l => exact News.isList (by k_asm) (by k_mem)); (case pa => kmk_part); (case pb => kmk_part); (case s => with_unfolding_all rfl); (case t => kmk_pure); (case z => rw [List.size_toArray, List.length_map, same_len]; decide))
      intro D8 h8 F8 N8 l8
      (try k_lt l8)
      (try dsimp only)
      k_steps
      unfold Stop
      refine LSm.all_bools (by k_asm) (by k_asm) (by rfl) (News.isList (by k_asm) (by k_mem)) (bools_map _) ?_
      intro h9 tk9 F9 N9
      (try dsimp only)
      k_steps
      · rename ((_ : List Bool).all _ = true) => hall
        rename_i e1 e2 e3 e4 DF0 e5 lFx e6 e7 e8 e9 e10 D9 k9 h9a t9a Fa Na b1 t9b Fb Nb DS0 b2 lSx hz9 Fz Nz
        obtain ⟨f1, f2, f3, f4, f5, f6, f7, f8, f9, f10⟩ := lFx
        obtain ⟨_, g1, g2, g3, g4, g5, g6, g7, g8, g9, g10⟩ := lSx
        refine in_hit (C := [(D5, LCg.lst ((sameF mt (i + 1)).map Value.bool)), (s1.heap.objs.size + 1 + 1, oF2), (D2, W.listOf vs2.toArray n2), (96, tabObj ps), (s1.heap.objs.size + 1 + 1 + 1, oB), (s1.heap.objs.size + 1, oT2)]) Fz ?hm Nz hdF3 hdS3 hall hoN hoI hoI2 ?lS ?lF g10 f10
        case hm => intro z hz; simp only [hz, if_false]
        case lS =>
          have hp : ∀ b ∈ R.map (·.1), @LT.lt Nat _ b DS0 := fun b hb => by obtain ⟨q, hq, rfl⟩ := List.mem_map.mp hb; exact allLt_mem g10 (List.mem_append.mpr (.inr (List.mem_append.mpr (.inl hq))))
          refine List.forall_mem_cons.mpr ⟨g4, List.forall_mem_cons.mpr ⟨g2, List.forall_mem_cons.mpr ⟨g3, List.forall_mem_cons.mpr ⟨g5, List.forall_mem_cons.mpr ⟨g6, List.forall_mem_cons.mpr ⟨g7, List.forall_mem_cons.mpr ⟨g8, List.forall_mem_cons.mpr ⟨g9, hp⟩⟩⟩⟩⟩⟩⟩⟩
        case lF =>
          have hp : ∀ b ∈ R.map (·.1), @LT.lt Nat _ b DF0 := fun b hb => by obtain ⟨q, hq, rfl⟩ := List.mem_map.mp hb; exact allLt_mem f10 (List.mem_append.mpr (.inr (List.mem_append.mpr (.inl hq))))
          refine List.forall_mem_cons.mpr ⟨f4, List.forall_mem_cons.mpr ⟨f2, List.forall_mem_cons.mpr ⟨f3, List.forall_mem_cons.mpr ⟨f5, List.forall_mem_cons.mpr ⟨f6, List.forall_mem_cons.mpr ⟨f7, List.forall_mem_cons.mpr ⟨f8, List.forall_mem_cons.mpr ⟨f9, hp⟩⟩⟩⟩⟩⟩⟩⟩
      · exfalso
        rename ((_ : List Bool).all _ = true) => hall
        rename ((_ == _) = false) => he
        rw [slice_sameI hmi hml (place_le hi hj), hall] at he
        cases he
      · exfalso
        rename ((_ : List Bool).all _ = false) => hall
        rename ((_ == _) = true) => he
        rw [slice_sameI hmi hml (place_le hi hj), hall] at he
        cases he
      · rename ((_ : List Bool).all _ = false) => hall
        rename Fr _ _ _ _ => Fz
        rename News _ _ _ _ => Nz
        refine in_miss (C := [(D5, LCg.lst ((sameF mt (i + 1)).map Value.bool)), (s1.heap.objs.size + 1 + 1, oF2), (D2, W.listOf vs2.toArray n2), (96, tabObj ps), (s1.heap.objs.size + 1 + 1 + 1, oB), (s1.heap.objs.size + 1, oT2)]) Fz ?hm Nz hdF3 hdS3 hall hoN hoI hoI2
        intro z hz; simp only [hz, if_false]
end
end Mine
end
section
open PySem PySem.W PyProof.Rows PySem.Builtin PySem.Builtin.Str
open Mine9
open Mine
theorem PySem.Challenge.cw_to0064_01_holds : PySem.Challenge.rw_to0064_01.Holds := by
  exact part1.2 ⟨part2.2 ⟨part5⟩ ⟨part3.2 ⟨part4⟩⟩⟩
end
