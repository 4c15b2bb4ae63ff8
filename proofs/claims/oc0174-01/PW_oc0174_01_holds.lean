import PyProof.Rows.All
import Wide.All
import OpenK.AllK
import Wide.FinOn
import Lean
import PySem.Challenge.RW_oc0174_01
open PySem PySem.W PyProof.Rows PySem.Spec PySem.Calls
set_option Elab.async false
set_option maxRecDepth 100000
set_option pp.maxSteps 6000
set_option pp.deepTerms false
set_option pp.deepTerms.threshold 5
set_option linter.all false
set_option compiler.extract_closed false
set_option hygiene false
namespace Mine
section
universe u1 u2 u3 u4 u5 u6 u7 u8 u9 u10 u11 u12 u13 u14 u15 u16 u17 u18 u19 u20
inductive Ex1 {α1 : Type} (p : α1 → Prop) : Prop
  | mk (x1 : α1) (h : p x1) : Ex1 p
inductive Ex2 {α1 : Type} {α2 : Type} (p : α1 → α2 → Prop) : Prop
  | mk (x1 : α1) (x2 : α2) (h : p x1 x2) : Ex2 p
inductive Ex3 {α1 : Type} {α2 : Type} {α3 : Type} (p : α1 → α2 → α3 → Prop) : Prop
  | mk (x1 : α1) (x2 : α2) (x3 : α3) (h : p x1 x2 x3) : Ex3 p
inductive Ex4 {α1 : Type} {α2 : Type} {α3 : Type} {α4 : Type} (p : α1 → α2 → α3 → α4 → Prop) : Prop
  | mk (x1 : α1) (x2 : α2) (x3 : α3) (x4 : α4) (h : p x1 x2 x3 x4) : Ex4 p
inductive Ex5 {α1 : Type} {α2 : Type} {α3 : Type} {α4 : Type} {α5 : Type} (p : α1 → α2 → α3 → α4 → α5 → Prop) : Prop
  | mk (x1 : α1) (x2 : α2) (x3 : α3) (x4 : α4) (x5 : α5) (h : p x1 x2 x3 x4 x5) : Ex5 p
inductive Ex6 {α1 : Type} {α2 : Type} {α3 : Type} {α4 : Type} {α5 : Type} {α6 : Type} (p : α1 → α2 → α3 → α4 → α5 → α6 → Prop) : Prop
  | mk (x1 : α1) (x2 : α2) (x3 : α3) (x4 : α4) (x5 : α5) (x6 : α6) (h : p x1 x2 x3 x4 x5 x6) : Ex6 p
inductive Ex7 {α1 : Type} {α2 : Type} {α3 : Type} {α4 : Type} {α5 : Type} {α6 : Type} {α7 : Type} (p : α1 → α2 → α3 → α4 → α5 → α6 → α7 → Prop) : Prop
  | mk (x1 : α1) (x2 : α2) (x3 : α3) (x4 : α4) (x5 : α5) (x6 : α6) (x7 : α7) (h : p x1 x2 x3 x4 x5 x6 x7) : Ex7 p
inductive Ex8 {α1 : Type} {α2 : Type} {α3 : Type} {α4 : Type} {α5 : Type} {α6 : Type} {α7 : Type} {α8 : Type} (p : α1 → α2 → α3 → α4 → α5 → α6 → α7 → α8 → Prop) : Prop
  | mk (x1 : α1) (x2 : α2) (x3 : α3) (x4 : α4) (x5 : α5) (x6 : α6) (x7 : α7) (x8 : α8) (h : p x1 x2 x3 x4 x5 x6 x7 x8) : Ex8 p
inductive Ex9 {α1 : Type} {α2 : Type} {α3 : Type} {α4 : Type} {α5 : Type} {α6 : Type} {α7 : Type} {α8 : Type} {α9 : Type} (p : α1 → α2 → α3 → α4 → α5 → α6 → α7 → α8 → α9 → Prop) : Prop
  | mk (x1 : α1) (x2 : α2) (x3 : α3) (x4 : α4) (x5 : α5) (x6 : α6) (x7 : α7) (x8 : α8) (x9 : α9) (h : p x1 x2 x3 x4 x5 x6 x7 x8 x9) : Ex9 p
inductive Ex11 {α1 : Type} {α2 : Type} {α3 : Type} {α4 : Type} {α5 : Type} {α6 : Type} {α7 : Type} {α8 : Type} {α9 : Type} {α10 : Type} {α11 : Type} (p : α1 → α2 → α3 → α4 → α5 → α6 → α7 → α8 → α9 → α10 → α11 → Prop) : Prop
  | mk (x1 : α1) (x2 : α2) (x3 : α3) (x4 : α4) (x5 : α5) (x6 : α6) (x7 : α7) (x8 : α8) (x9 : α9) (x10 : α10) (x11 : α11) (h : p x1 x2 x3 x4 x5 x6 x7 x8 x9 x10 x11) : Ex11 p
inductive Ex12 {α1 : Type} {α2 : Type} {α3 : Type} {α4 : Type} {α5 : Type} {α6 : Type} {α7 : Type} {α8 : Type} {α9 : Type} {α10 : Type} {α11 : Type} {α12 : Type} (p : α1 → α2 → α3 → α4 → α5 → α6 → α7 → α8 → α9 → α10 → α11 → α12 → Prop) : Prop
  | mk (x1 : α1) (x2 : α2) (x3 : α3) (x4 : α4) (x5 : α5) (x6 : α6) (x7 : α7) (x8 : α8) (x9 : α9) (x10 : α10) (x11 : α11) (x12 : α12) (h : p x1 x2 x3 x4 x5 x6 x7 x8 x9 x10 x11 x12) : Ex12 p
inductive Ex13 {α1 : Type} {α2 : Type} {α3 : Type} {α4 : Type} {α5 : Type} {α6 : Type} {α7 : Type} {α8 : Type} {α9 : Type} {α10 : Type} {α11 : Type} {α12 : Type} {α13 : Type} (p : α1 → α2 → α3 → α4 → α5 → α6 → α7 → α8 → α9 → α10 → α11 → α12 → α13 → Prop) : Prop
  | mk (x1 : α1) (x2 : α2) (x3 : α3) (x4 : α4) (x5 : α5) (x6 : α6) (x7 : α7) (x8 : α8) (x9 : α9) (x10 : α10) (x11 : α11) (x12 : α12) (x13 : α13) (h : p x1 x2 x3 x4 x5 x6 x7 x8 x9 x10 x11 x12 x13) : Ex13 p
inductive Ex16 {α1 : Type} {α2 : Type} {α3 : Type} {α4 : Type} {α5 : Type} {α6 : Type} {α7 : Type} {α8 : Type} {α9 : Type} {α10 : Type} {α11 : Type} {α12 : Type} {α13 : Type} {α14 : Type} {α15 : Type} {α16 : Type} (p : α1 → α2 → α3 → α4 → α5 → α6 → α7 → α8 → α9 → α10 → α11 → α12 → α13 → α14 → α15 → α16 → Prop) : Prop
  | mk (x1 : α1) (x2 : α2) (x3 : α3) (x4 : α4) (x5 : α5) (x6 : α6) (x7 : α7) (x8 : α8) (x9 : α9) (x10 : α10) (x11 : α11) (x12 : α12) (x13 : α13) (x14 : α14) (x15 : α15) (x16 : α16) (h : p x1 x2 x3 x4 x5 x6 x7 x8 x9 x10 x11 x12 x13 x14 x15 x16) : Ex16 p
inductive Cj3 (a1 a2 a3 : Prop) : Prop
  | mk (h1 : a1) (h2 : a2) (h3 : a3) : Cj3 a1 a2 a3
inductive Cj4 (a1 a2 a3 a4 : Prop) : Prop
  | mk (h1 : a1) (h2 : a2) (h3 : a3) (h4 : a4) : Cj4 a1 a2 a3 a4
inductive Cj5 (a1 a2 a3 a4 a5 : Prop) : Prop
  | mk (h1 : a1) (h2 : a2) (h3 : a3) (h4 : a4) (h5 : a5) : Cj5 a1 a2 a3 a4 a5
inductive Cj6 (a1 a2 a3 a4 a5 a6 : Prop) : Prop
  | mk (h1 : a1) (h2 : a2) (h3 : a3) (h4 : a4) (h5 : a5) (h6 : a6) : Cj6 a1 a2 a3 a4 a5 a6
inductive Cj7 (a1 a2 a3 a4 a5 a6 a7 : Prop) : Prop
  | mk (h1 : a1) (h2 : a2) (h3 : a3) (h4 : a4) (h5 : a5) (h6 : a6) (h7 : a7) : Cj7 a1 a2 a3 a4 a5 a6 a7
inductive Cj8 (a1 a2 a3 a4 a5 a6 a7 a8 : Prop) : Prop
  | mk (h1 : a1) (h2 : a2) (h3 : a3) (h4 : a4) (h5 : a5) (h6 : a6) (h7 : a7) (h8 : a8) : Cj8 a1 a2 a3 a4 a5 a6 a7 a8
inductive Cj9 (a1 a2 a3 a4 a5 a6 a7 a8 a9 : Prop) : Prop
  | mk (h1 : a1) (h2 : a2) (h3 : a3) (h4 : a4) (h5 : a5) (h6 : a6) (h7 : a7) (h8 : a8) (h9 : a9) : Cj9 a1 a2 a3 a4 a5 a6 a7 a8 a9
inductive Cj11 (a1 a2 a3 a4 a5 a6 a7 a8 a9 a10 a11 : Prop) : Prop
  | mk (h1 : a1) (h2 : a2) (h3 : a3) (h4 : a4) (h5 : a5) (h6 : a6) (h7 : a7) (h8 : a8) (h9 : a9) (h10 : a10) (h11 : a11) : Cj11 a1 a2 a3 a4 a5 a6 a7 a8 a9 a10 a11
inductive Cj12 (a1 a2 a3 a4 a5 a6 a7 a8 a9 a10 a11 a12 : Prop) : Prop
  | mk (h1 : a1) (h2 : a2) (h3 : a3) (h4 : a4) (h5 : a5) (h6 : a6) (h7 : a7) (h8 : a8) (h9 : a9) (h10 : a10) (h11 : a11) (h12 : a12) : Cj12 a1 a2 a3 a4 a5 a6 a7 a8 a9 a10 a11 a12
inductive Cj18 (a1 a2 a3 a4 a5 a6 a7 a8 a9 a10 a11 a12 a13 a14 a15 a16 a17 a18 : Prop) : Prop
  | mk (h1 : a1) (h2 : a2) (h3 : a3) (h4 : a4) (h5 : a5) (h6 : a6) (h7 : a7) (h8 : a8) (h9 : a9) (h10 : a10) (h11 : a11) (h12 : a12) (h13 : a13) (h14 : a14) (h15 : a15) (h16 : a16) (h17 : a17) (h18 : a18) : Cj18 a1 a2 a3 a4 a5 a6 a7 a8 a9 a10 a11 a12 a13 a14 a15 a16 a17 a18
end
section
theorem sub_nil {α : Type} {old : List α} : ∀ q ∈ ([] : List α), q ∈ old := fun _ h => nomatch h
theorem sub_cons {α : Type} {a : α} {l old : List α} (h : a ∈ old) (t : ∀ q ∈ l, q ∈ old) : ∀ q ∈ a :: l, q ∈ old := List.forall_mem_cons.mpr ⟨h, t⟩
theorem sub_app {α : Type} {A B old : List α} (h : ∀ q ∈ A, q ∈ old) (t : ∀ q ∈ B, q ∈ old) : ∀ q ∈ A ++ B, q ∈ old := fun q hq => (List.mem_append.mp hq).elim (h q) (t q)
theorem sub_refl {α : Type} {l : List α} : ∀ q ∈ l, q ∈ l := fun _ h => h
theorem sub_wk {α : Type} {b : α} {l as : List α} (h : ∀ q ∈ l, q ∈ as) : ∀ q ∈ l, q ∈ b :: as := fun q hq => .tail _ (h q hq)
theorem sub_inl {α : Type} {l A B : List α} (h : ∀ q ∈ l, q ∈ A) : ∀ q ∈ l, q ∈ A ++ B := fun q hq => List.mem_append_left _ (h q hq)
theorem sub_inr {α : Type} {l A B : List α} (h : ∀ q ∈ l, q ∈ B) : ∀ q ∈ l, q ∈ A ++ B := fun q hq => List.mem_append_right _ (h q hq)
theorem mem_inl {α : Type} {a : α} {A B : List α} (h : a ∈ A) : a ∈ A ++ B := List.mem_append_left _ h
theorem mem_inr {α : Type} {a : α} {A B : List α} (h : a ∈ B) : a ∈ A ++ B := List.mem_append_right _ h
theorem led_go {α : Type} {p : α} {new old : List α} (hp : p ∈ new) (h : ∀ q ∈ new, q ∈ old) : p ∈ old := h p hp
end
section
open PySem PySem.W PyProof.Rows
set_option maxHeartbeats 8000000
set_option compiler.extract_closed false
noncomputable def vbody : List Stmt := [0, 2, 3, 5, 6, 7, 8, 9, 11, 12, 13, 14, 15].filterMap fun i => (PySem.Challenge.pw_oc0174_01.main.body)[i]?
noncomputable def view : Program := { PySem.Challenge.pw_oc0174_01 with main := { PySem.Challenge.pw_oc0174_01.main with body := vbody } }
set_option hygiene false in
local macro_rules | `(tactic| o_law) => `(tactic| refine PySem.W.holds_law (by decide +kernel) fun said => ?_)
noncomputable abbrev rowV : RowW := OpenRow.toRowW (OpenLaw.row PySem.Challenge.rw_oc0174_01)
noncomputable abbrev headX : Shared → Bool := fun s => xlAt Mine.view [] s && recOk (RowW.records rowV) s
theorem headA : ∀ s, headX s = true → XL Mine.view [] (s.heap.nsMap mainGlobals) s.heap := fun s e => xl_of s (Bool.and_eq_true_iff.mp e).1
theorem headB : ∀ s, headX s = true → RecFacts (RowW.records rowV) s.heap := fun s e => recFacts_of (Bool.and_eq_true_iff.mp e).2
theorem headC : (OpenLaw.row PySem.Challenge.rw_oc0174_01).prog.bare := ⟨rfl, rfl, rfl, rfl, rfl, by decide +kernel⟩
set_option hygiene false in
local macro_rules | `(tactic| o_head $H) => `(tactic| (refine PySem.W.holds_open (q := Mine.view) (loose := [Str.ofString "_NodeInfo"]) (Xt := Mine.headX) (Yf := Hook.obs $H) (Ya := Hook.val $H) (YP := Hook.says $H) (N := 2630) ?hl (Hook.of $H) (Hook.keeps $H) Mine.headA XL.keeps (by rfl) (by rfl) (by rfl) Mine.headB (by rfl) (by first | assumption | decide +kernel) (by decide +kernel) Mine.headC ?hw ?hc; (case hl => exact fun w => by kernel_rfl)))
open_top hd for PySem.Challenge.rw_oc0174_01
theorem topOff : True := by
  w_top off
  trivial
end
section
open PySem PySem.W PyProof.Rows PySem.Spec PySem.Calls
set_option maxHeartbeats 8000000
noncomputable abbrev TP (mean : ExcName → Option Value) (mg mb : Str → Option Value) (h₀ : Heap) : Prop := Top Mine.view (looseW Mine.view [Str.ofString "_NodeInfo"]) mean mg mb h₀
noncomputable abbrev PG : Program := PySem.Challenge.rw_oc0174_01.row.prog
noncomputable def Stop {α : Type} (_ : Sem α) : Prop := True
set_option autoImplicit true in
theorem p0 : Stop (call (.ref a) l) := trivial
set_option autoImplicit true in
theorem p1 : Stop (call (.type c) l) := trivial
set_option autoImplicit true in
theorem p2 : Stop (exec (.For e f x y p) v) := trivial
set_option autoImplicit true in
theorem p3 : Stop (exec (.While e x y p) v) := trivial
set_option autoImplicit true in
theorem p4 : Stop (exec (.Try x y z u p) v) := trivial
set_option autoImplicit true in
theorem p5 : Stop (eval (.ListComp e c o p) v) := trivial
set_option autoImplicit true in
theorem p6 : Stop (exec (.Assign t (.ListComp e c o p) q) v) := trivial
set_option autoImplicit true in
theorem p7 : Stop (call (.builtin "list.append") l) := trivial
set_option autoImplicit true in
theorem p8 : Stop (getMethod (.ref a) t d) := trivial
set_option autoImplicit true in
theorem p9 : Stop (getAttr (.ref a) t d) := trivial
set_option autoImplicit true in
theorem p10 : Stop (setAttr (.ref a) t x) := trivial
set_option autoImplicit true in
theorem p11 : Stop (exec (.If e x y p) v) := trivial
set_option autoImplicit true in
theorem p12 : Stop (truthy (.ref a)) := trivial
set_option autoImplicit true in
theorem p13 : Stop (callWith p (.ref a) [] l k) := trivial
set_option autoImplicit true in
theorem p14 : Stop (subscriptTail e f (.ref a) i) := trivial
set_option autoImplicit true in
theorem p15 : Stop (setItem (.ref a) i x) := trivial
set_option autoImplicit true in
theorem p16 : Stop (delItem (.ref a) i) := trivial
set_option autoImplicit true in
theorem p17 : Stop (call (.builtin "list.pop") l) := trivial
set_option autoImplicit true in
theorem p18 : Stop (call (.builtin "len") l) := trivial
set_option autoImplicit true in
theorem p19 : Stop (call (.builtin "iter") l) := trivial
set_option autoImplicit true in
theorem p20 : Stop (pyIter (.ref a)) := trivial
set_option autoImplicit true in
theorem p21 : Stop (call (.builtin "list.remove") l) := trivial
set_option autoImplicit true in
theorem p22 : Stop (call (.builtin "list.extend") l) := trivial
set_option autoImplicit true in
theorem p23 : Stop (compareOp o (.ref a) (.ref b)) := trivial
set_option autoImplicit true in
theorem p24 : Stop (binaryOp o (.ref a) (.ref b)) := trivial
set_option autoImplicit true in
theorem p25 : Stop (binaryOp o (.bool a) (.bool b)) := trivial
set_option autoImplicit true in
theorem p26 : Stop (compareOp o i (.ref a)) := trivial
set_option autoImplicit true in
theorem p27 : Stop (call (.builtin "sorted") l k) := trivial
set_option autoImplicit true in
theorem p28 : Stop (call (.builtin "list.index") l k) := trivial
theorem stop_here {α : Type} {M : Model} {A : Around} {t : Sem α} {Q : α → Shared → Prop} {E : Value → Shared → Prop} {s : Shared} (_ : Stop t) (k : wpAny M A t Q E s) : wpAny M A t Q E s := k
theorem ne_s1 {n : Nat} : n ≠ n.succ := Nat.ne_of_lt (Nat.lt_succ_self _)
theorem ne_s2 {n : Nat} : n.succ ≠ n := Nat.ne_of_gt (Nat.lt_succ_self _)
theorem ne_s3 {n : Nat} : n ≠ n.succ.succ := Nat.ne_of_lt (Nat.lt_succ_of_lt (Nat.lt_succ_self _))
theorem ne_s4 {n : Nat} : n.succ.succ ≠ n := Nat.ne_of_gt (Nat.lt_succ_of_lt (Nat.lt_succ_self _))
structure OnK (M : Model) (A : Around) (rest : List Stmt) (env : Env) (Q : Flow → Shared → Prop) (E : Value → Shared → Prop) (K : Flow → Shared → Prop) : Prop where
  next : ∀ {s' : Shared}, wpAny M A (execs rest env) Q E s' → K .next s'
  ret : ∀ {v : Value} {s' : Shared}, Q (.ret v) s' → K (.ret v) s'
  brk : ∀ {s' : Shared}, Q .brk s' → K .brk s'
  cont : ∀ {s' : Shared}, Q .cont s' → K .cont s'
theorem execs_consK {M : Model} {A : Around} {st : Stmt} {rest : List Stmt} {env : Env} {Q : Flow → Shared → Prop} {E : Value → Shared → Prop} {s : Shared}
    (h : ∀ K, OnK M A rest env Q E K → wpAny M A (exec st env) K E s) : wpAny M A (execs (st :: rest) env) Q E s :=
  wpAny_execs_cons (h _ ⟨fun x => x, fun x => x, fun x => x, fun x => x⟩)
noncomputable def setAt (d : Addr) (o' : Obj) : List (Addr × Obj) → List (Addr × Obj)
  | [] => []
  | p :: r => if p.1 = d then (d, o') :: r else p :: setAt d o' r
theorem setAt_keys (d : Addr) (o' : Obj) : ∀ l : List (Addr × Obj), (setAt d o' l).map (·.1) = l.map (·.1)
  | [] => rfl
  | p :: r => by
    unfold setAt
    by_cases h : p.1 = d
    · rw [if_pos h]; simp [h]
    · rw [if_neg h]; simp [setAt_keys d o' r]
theorem mem_setAt_self {d : Addr} {o o' : Obj} : ∀ {l : List (Addr × Obj)}, (d, o) ∈ l → (d, o') ∈ setAt d o' l
  | p :: r, h => by
    unfold setAt
    by_cases q : p.1 = d
    · rw [if_pos q]; exact .head _
    · rw [if_neg q]
      rcases List.mem_cons.mp h with e | h
      · subst e; exact absurd rfl q
      · exact .tail _ (mem_setAt_self h)
theorem mem_setAt_ne {d : Addr} {o' : Obj} {p : Addr × Obj} (hp : p.1 ≠ d) : ∀ {l : List (Addr × Obj)}, p ∈ l → p ∈ setAt d o' l
  | q :: r, h => by
    unfold setAt
    by_cases z : q.1 = d
    · rw [if_pos z]
      rcases List.mem_cons.mp h with e | h
      · subst e; exact absurd z hp
      · exact .tail _ h
    · rw [if_neg z]
      rcases List.mem_cons.mp h with e | h
      · subst e; exact .head _
      · exact .tail _ (mem_setAt_ne hp h)
theorem updF_setAt {d : Addr} {o : Obj} : ∀ {l : List (Addr × Obj)}, (l.map (·.1)).Nodup → (d, o) ∈ l → UpdF d o l (fun o' => setAt d o' l)
  | p :: r, nd, h => by
    rw [List.map_cons, List.nodup_cons] at nd
    by_cases z : p.1 = d
    · have hn : ∀ q ∈ r, q.1 ≠ d := fun q hq e => nd.1 (by rw [z, ← e]; exact List.mem_map_of_mem hq)
      have : p = (d, o) := by
        rcases List.mem_cons.mp h with e | h
        · exact e.symm
        · exact absurd rfl (hn _ h)
      subst this
      have e : (fun o' => setAt d o' ((d, o) :: r)) = fun o' => (d, o') :: r := by funext o'; unfold setAt; rw [if_pos rfl]
      rw [e]; exact .head hn
    · have e : (fun o' => setAt d o' (p :: r)) = fun o' => p :: setAt d o' r := by funext o'; rw [setAt, if_neg z]
      rw [e]
      refine .tail z (updF_setAt nd.2 ?_)
      rcases List.mem_cons.mp h with e | h
      · subst e; exact absurd rfl z
      · exact h
theorem updF_app {d : Addr} {o : Obj} {l : List (Addr × Obj)} {g : Obj → List (Addr × Obj)} (U : UpdF d o l g) : ∀ {fr : List (Addr × Obj)}, (∀ p ∈ fr, p.1 ≠ d) → UpdF d o (fr ++ l) (fun o' => fr ++ g o')
  | [], _ => U
  | p :: r, h => .tail (h p (.head _)) (updF_app U fun q hq => h q (.tail _ hq))
theorem upd_of_updF {d : Addr} {o : Obj} (o' : Obj) : ∀ {l : List (Addr × Obj)} {g : Obj → List (Addr × Obj)}, UpdF d o l g → Upd d o o' l (g o')
  | _, _, .head h => .head h
  | _, _, .tail h r => .tail h (upd_of_updF o' r)
theorem news_join {h₀ g h : Heap} {L L' : Addr} {m' : Str → Option Value} {ex rest : List (Addr × Obj)} (kN : News h₀ L h ex) (F' : Fr g L' h m') (hR : ∀ p ∈ rest, g.get? p.1 = some p.2) (hN : ∀ p ∈ rest, p.1 ≠ L ∧ h₀.get? p.1 = none) : News h₀ L h (ex ++ rest) := fun p hp => by
  rcases List.mem_append.mp hp with q | q
  · exact kN p q
  · exact ⟨F'.keep _ _ (hR p q), hN p q⟩
theorem rest_ne {g h : Heap} {L' : Addr} {ex rest : List (Addr × Obj)} (N' : News g L' h ex) (hR : ∀ p ∈ rest, g.get? p.1 = some p.2) {a : Addr} {o : Obj} (hm : (a, o) ∈ ex) : ∀ p ∈ rest, p.1 ≠ a := fun p hp e => by
  have h1 := hR p hp
  rw [e, (N' _ hm).2.2] at h1
  cases h1
theorem stored_new {kvs : List (Int × Value)} {k : Int} {v : Value} (h : valueAt kvs k = none) : stored kvs k v = kvs ++ [(k, v)] := by
  unfold stored
  rw [if_neg]
  intro q
  obtain ⟨p, hp, e⟩ := List.any_eq_true.mp q
  unfold valueAt at h
  rw [Option.map_eq_none_iff, List.find?_eq_none] at h
  exact h p hp e
noncomputable abbrev nodeO (dn sn : Addr) (kv pv : Value) : Obj := { cls := .ref 54, dict := some dn, data := .plain, slots := #[some kv, some pv, some (.ref sn)] }
structure Nodes (nA dA sA : Int → Addr) (keys : List Int) (np : Int → Int) (succ : Int → List Int) (srt : List (Addr × Obj)) : Prop where
  nd : (srt.map (·.1)).Nodup
  node : ∀ k ∈ keys, ∃ tk tp, (nA k, nodeO (dA k) (sA k) (.int k tk) (.int (np k) tp)) ∈ srt
  dict : ∀ k ∈ keys, (dA k, dictOf [] 0) ∈ srt
  list : ∀ k ∈ keys, ∃ sv n, IntsAre sv (succ k) ∧ (sA k, listOf sv.toArray n) ∈ srt
  inj : ∀ j ∈ keys, ∀ k ∈ keys, sA j = sA k → j = k
end
section
open PySem PySem.W PyProof.Rows PySem.Spec PySem.Calls
set_option maxHeartbeats 4000000
theorem li_getattr_none : typeLookup (.type "list_iterator") "__getattr__" = pure none := by rw [typeLookup_type, builtinLookup_eq_fast]; kernel_rfl
theorem li_slot_ga : Slot "list_iterator" "__getattribute__" "object.__getattribute__" :=
  .of (owner := "object") (n := "__getattribute__") (by rw [typeLookup_type, builtinLookup_eq_fast]; kernel_rfl) (by decide +kernel) (by decide +kernel) (by decide +kernel)
    (by first | exact .inl (by decide +kernel) | exact .inr (by decide +kernel)) (by rw [isSubtype_type]; kernel_rfl)
theorem li_entry_ga : entryFor table "object.__getattribute__" = some Builtin.«object.__getattribute__» := entryFor_of_tree (by kernel_rfl)
theorem li_args_ga (a b : Value) : argsOk "object.__getattribute__" ⟨[a, b], []⟩ := by unfold argsOk; kernel_rfl
theorem li_next : typeLookup (.type "list_iterator") "__next__" = pure (some (.builtin "list_iterator.__next__")) := by rw [typeLookup_type, builtinLookup_eq_fast]; kernel_rfl
theorem li_kind : builtinKind "list_iterator.__next__" = some Manifest.AttrKind.slot := by decide +kernel
theorem wd_get : typeLookup (.type "wrapper_descriptor") "__get__" = pure (some (.builtin "wrapper_descriptor.__get__")) := by rw [typeLookup_type, builtinLookup_eq_fast]; kernel_rfl
theorem wd_set : typeLookup (.type "wrapper_descriptor") "__set__" = pure none := by rw [typeLookup_type, builtinLookup_eq_fast]; kernel_rfl
theorem wd_delete : typeLookup (.type "wrapper_descriptor") "__delete__" = pure none := by rw [typeLookup_type, builtinLookup_eq_fast]; kernel_rfl
theorem wd_slot : Slot "wrapper_descriptor" "__get__" "wrapper_descriptor.__get__" :=
  .of (owner := "wrapper_descriptor") (n := "__get__") (by rw [typeLookup_type, builtinLookup_eq_fast]; kernel_rfl) (by decide +kernel) (by decide +kernel) (by decide +kernel)
    (by first | exact .inl (by decide +kernel) | exact .inr (by decide +kernel)) (by rw [isSubtype_type]; kernel_rfl)
theorem wd_entry : entryFor table "wrapper_descriptor.__get__" = some Builtin.«wrapper_descriptor.__get__» := entryFor_of_tree (by kernel_rfl)
theorem wd_args (a b c : Value) : argsOk "wrapper_descriptor.__get__" ⟨[a, b, c], []⟩ := by unfold argsOk; kernel_rfl
theorem li_type : typeOf (.builtin "list_iterator.__next__") = pure (.type "wrapper_descriptor") := by show builtinType _ = _; rw [builtinType_eq_fast]; kernel_rfl
theorem li_sub : isSubtype (.type "list_iterator") (.type "list_iterator") = pure true := by rw [isSubtype_type]; kernel_rfl
theorem wd_call {prog : Program} {w : World} {A : Around} {R : Result → Shared → Prop} {s : Shared} {a : Addr} {vs : Array Value} (hx : s.heap.get? a = some { cls := .type "list_iterator", dict := none, data := .fields vs })
    (h : R (.ok (.ret (.ref s.heap.objs.size))) { s with heap := s.heap.push { cls := .type "method-wrapper", data := .fields #[.builtin "list_iterator.__next__", .ref a] } }) :
    codeAny (model prog w) A (.call (.builtin "wrapper_descriptor.__get__") ⟨[.builtin "list_iterator.__next__", .ref a, .type "list_iterator"], []⟩) R s := by
  obtain ⟨hp, g, d, tk, os⟩ := s
  have f1 := li_type
  have f2 := li_sub
  have hT : (⟨hp, g, d, tk, os⟩ : Shared).TypeIs (.ref a) "list_iterator" := ⟨_, hx, rfl⟩
  refine codeAny_call_builtin wd_slot.plain wd_entry (wd_slot.check _ _ _ _ _ _ _ _ li_type (wd_args _ _ _) ?_)
  unfold Builtin.«wrapper_descriptor.__get__»
  repeat (any_goals (first | assumption | wp_step))
  rw [show ".".intercalate ("list_iterator.__next__".cutAt '.').dropLast = "list_iterator" by decide +kernel]
  repeat (any_goals (first | assumption | wp_step))
theorem meets_ga_next (a : Addr) (vs : Array Value) (u : Tok) :
    Meets (Builtin.«object.__getattribute__» ⟨[.ref a, .str (Str.ofString "__next__") u], []⟩) (fun A R s => s.heap.get? a = some { cls := .type "list_iterator", dict := none, data := .fields vs } ∧
      R (.ok (.ret (.ref s.heap.objs.size))) { s with heap := s.heap.push { cls := .type "method-wrapper", data := .fields #[.builtin "list_iterator.__next__", .ref a] } }) :=
  Meets.of_wp fun prog w A R s hs => by
    obtain ⟨hp, g, d, tk, os⟩ := s
    obtain ⟨hx, hs⟩ := hs
    have hT : (⟨hp, g, d, tk, os⟩ : Shared).TypeIs (.ref a) "list_iterator" := ⟨_, hx, rfl⟩
    have f1 := li_next
    unfold Builtin.«object.__getattribute__»
    repeat (any_goals (first | assumption | wp_step))
    have f2 := wd_get
    have f3 := wd_set
    have f4 := wd_delete
    simp only [li_kind]
    repeat (any_goals (first | assumption | (simp only [li_kind]; done) | wp_step | (simp only [li_kind])))
    refine wd_call hx ?_
    repeat (any_goals (first | assumption | wp_step))
    exact ⟨_, rfl, hs⟩
theorem getAttr_next {prog : Program} {w : World} {A : Around} {E : Value → Shared → Prop} {s : Shared} {a : Addr} {vs : Array Value} {Q : Value → Shared → Prop}
    (hx : s.heap.get? a = some { cls := .type "list_iterator", dict := none, data := .fields vs })
    (h : Q (.ref s.heap.objs.size) { s with heap := s.heap.push { cls := .type "method-wrapper", data := .fields #[.builtin "list_iterator.__next__", .ref a] }, toks := s.toks + 1 }) :
    wpAny (model prog w) A (getAttr (.ref a) (Str.ofString "__next__") true) Q E s := by
  obtain ⟨hp, g, d, tk, os⟩ := s
  have hT : ∀ tk', (⟨hp, g, d, tk', os⟩ : Shared).TypeIs (.ref a) "list_iterator" := fun _ => ⟨_, hx, rfl⟩
  have f3 := li_slot_ga.lookup
  have f4 := li_slot_ga.bind (.ref a)
  have f5 := li_getattr_none
  unfold getAttr getAttrBy
  repeat (any_goals (first | assumption | exact hT _ | ((with_reducible show wpAny _ _ (call (Value.builtin "object.__getattribute__") _ _) _ _ _); refine call_meets li_slot_ga (hT _) li_entry_ga (li_args_ga _ _) (meets_ga_next a vs _) ⟨hx, ?_⟩) | wp_step))
  show wpAny _ _ (handedOut _) _ _ _
  exact handed_on rfl h
end
section
open PySem PySem.W PyProof.Rows PySem.Spec PySem.Calls
set_option maxHeartbeats 4000000
theorem mw_check (a : Addr) : checkBoundCall "list_iterator.__next__" ⟨[.ref a], []⟩ = pure () := by unfold checkBoundCall; kernel_rfl
noncomputable abbrev mwO (it : Addr) : Obj := { cls := .type "method-wrapper", data := .fields #[.builtin "list_iterator.__next__", .ref it] }
noncomputable abbrev liO (l : Addr) (i : Nat) : Obj := { cls := .type "list_iterator", data := .fields #[.ref l, .int i 0] }
section
variable {prog : Program} {w : World} {A : Around} {R : Result → Shared → Prop} {s : Shared} {b it l : Addr} {i : Nat} {items : Array Value} {x : Value}
theorem mw_open (hb : s.heap.get? b = some (mwO it)) (h : codeAny (model prog w) A (.builtin "list_iterator.__next__" ⟨[.ref it], []⟩) R s) : codeAny (model prog w) A (.call (.ref b) ⟨[], []⟩) R s := by
  refine codeAny_of_tree ?_
  show wpAny _ _ (callAny (.ref b) _) _ _ _
  unfold callAny
  refine wpAny_bind (wpAny_load hb ?_)
  show wpAny _ _ (checkBoundCall "list_iterator.__next__" ⟨[.ref it], []⟩ >>= fun _ => again _) _ _ _
  rw [mw_check]
  exact wpAny_pure ⟨plainId_quiet (by decide +kernel) _, h⟩
theorem mw_builtin (h : wpAny (model prog w) A.in1 (Builtin.«list_iterator.__next__» ⟨[.ref it], []⟩) (fun fin s' => match fin with | .done f => R (.ok f) s' | .again c' => c'.quiet = true ∧ codeAny (model prog w) A c' R s') (fun e s' => R (.error e) s') s) :
    codeAny (model prog w) A (.builtin "list_iterator.__next__" ⟨[.ref it], []⟩) R s := by
  refine codeAny_builtin entry_listiter_next ?_
  rw [Around.under_plainId (by decide +kernel)]
  exact h
theorem mw_item (hb : s.heap.get? b = some (mwO it)) (hit : s.heap.get? it = some (liO l i)) (hl : s.heap.IsList l items) (hx : items[i]? = some x)
    (h : R (.ok (.ret x)) { s with heap := s.heap.update it (Obj.mapFields (·.setIfInBounds 1 (rawInt (i + 1)))) }) : codeAny (model prog w) A (.call (.ref b) ⟨[], []⟩) R s := by
  obtain ⟨ol, hol, _, nl, hdl⟩ := hl
  refine mw_open hb (mw_builtin ?_)
  show wpAny _ _ (field (.ref it) 0 >>= _) _ _ s
  refine wpAny_bind (wpAny_field hit rfl (x := .ref l) rfl ?_)
  show wpAny _ _ (if (Value.ref l == Value.none) = true then _ else _) _ _ s
  rw [if_neg (show ¬ ((Value.ref l == Value.none) = true) from Bool.false_ne_true)]
  show wpAny _ _ (field (.ref it) 1 >>= _) _ _ s
  refine wpAny_bind (wpAny_field hit rfl (x := .int i 0) rfl ?_)
  show wpAny _ _ (seqItems? (.ref l) >>= _) _ _ s
  refine wpAny_bind (wpAny_seqItems hol hdl ?_)
  simp only [Int.toNat_natCast, hx]
  exact wpAny_bind (wpAny_setField hit rfl (by simp) (wpAny_pure h))
theorem mw_end (hh : A.handled = none) (hb : s.heap.get? b = some (mwO it)) (hit : s.heap.get? it = some (liO l i)) (hl : s.heap.IsList l items) (hx : items[i]? = none)
    (h : ∀ h' e, Heap.NewExcOf (s.heap.update it (Obj.mapFields (·.setIfInBounds 0 .none))) h' e "StopIteration" → R (.error (.ref e)) { s with heap := h' }) : codeAny (model prog w) A (.call (.ref b) ⟨[], []⟩) R s := by
  obtain ⟨ol, hol, _, nl, hdl⟩ := hl
  refine mw_open hb (mw_builtin ?_)
  show wpAny _ _ (field (.ref it) 0 >>= _) _ _ s
  refine wpAny_bind (wpAny_field hit rfl (x := .ref l) rfl ?_)
  show wpAny _ _ (if (Value.ref l == Value.none) = true then _ else _) _ _ s
  rw [if_neg (show ¬ ((Value.ref l == Value.none) = true) from Bool.false_ne_true)]
  show wpAny _ _ (field (.ref it) 1 >>= _) _ _ s
  refine wpAny_bind (wpAny_field hit rfl (x := .int i 0) rfl ?_)
  show wpAny _ _ (seqItems? (.ref l) >>= _) _ _ s
  refine wpAny_bind (wpAny_seqItems hol hdl ?_)
  simp only [Int.toNat_natCast, hx]
  refine wpAny_bind (wpAny_rule (wpAny_bind (wpAny_setField hit rfl (by simp) ?_)))
  show wpAny _ _ (newExc (.type "StopIteration") [] >>= _) _ _ _
  refine wpAny_bind ?_
  simp only [newExc, newTuple]
  refine wpAny_bind (wpAny_newObj_type ?_ (by size_fits))
  refine wpAny_bind (m := firstArgMember _ _) (wpAny_of_eq (a := Value.none) (by first | rfl | (simp only [firstArgMember]; rfl)) ?_)
  refine wpAny_newObj_type ?_ (by size_fits)
  simp only [raiseNew]
  refine wpAny_bind (wpAny_handled ?_)
  rw [show A.in1.handled = none from hh]
  refine wpAny_bind (wpAny_pure (wpAny_throw ?_))
  refine h _ _ ⟨fun c o e => Heap.get?_push_of_some _ (Heap.get?_push_of_some _ e), Heap.get?_none_of_le (by simp [Heap.size_push]), _, _, Heap.get?_push_size _ rfl, rfl, rfl, rfl⟩
end
end
section
open PySem PySem.W PyProof.Rows PySem.Spec PySem.Calls
section
variable {O : KeyOrd} {key : Nat → O.α} {N : Nat} {cmp : Nat → Nat → (Bool → Shared → Prop) → Shared → Prop} {Inv : Shared → Prop}
noncomputable def Answers (O : KeyOrd) (key : Nat → O.α) (N : Nat) (cmp : Nat → Nat → (Bool → Shared → Prop) → Shared → Prop) (Inv : Shared → Prop) : Prop :=
  ∀ (i j : Nat) (C : Bool → Shared → Prop) (s : Shared), i < N → j < N → Inv s → (∀ s', Inv s' → C (O.blt (key i) (key j)) s') → cmp i j C s
noncomputable def PB (N : Nat) (p : Array Nat) : Prop := p.Perm (List.range N).toArray
theorem PB.size {p : Array Nat} (h : PB N p) : p.size = N := by have := h.size_eq; simpa using this
theorem PB.lt {p : Array Nat} (h : PB N p) {i : Nat} (hi : i < N) : p.getD i 0 < N := by
  have hz := h.size
  have hi' : i < p.size := by lia
  have e : p.getD i 0 = p[i] := by simp [Array.getD, hi']
  rw [e]
  have hm : p[i] ∈ (List.range N).toArray.toList := (Array.perm_iff_toList_perm.mp h).mem_iff.mp (by simp)
  simpa using hm
noncomputable def KP (O : KeyOrd) (key : Nat → O.α) (p : Array Nat) (i : Nat) : O.α := key (p.getD i 0)
noncomputable def Up (O : KeyOrd) (key : Nat → O.α) (p : Array Nat) (k : Nat) : Prop := ∀ i j, i ≤ j → j < k → O.kle (KP O key p i) (KP O key p j)
noncomputable def Down (O : KeyOrd) (key : Nat → O.α) (p : Array Nat) (k : Nat) : Prop := ∀ i j, i ≤ j → j < k → O.kle (KP O key p j) (KP O key p i)
theorem getD_q (p : Array Nat) (i : Nat) : p.getD i 0 = (p[i]?).getD 0 := by
  by_cases h : i < p.size
  · simp [Array.getD, h]
  · simp [Array.getD, h]
theorem KP_bubble {p : Array Nat} {src d : Nat} (hs : src < p.size) (hd : d ≤ src) (k : Nat) :
    KP O key (bubble p src d) k = if k = src - d then KP O key p src else if src - d < k ∧ k ≤ src then KP O key p (k - 1) else KP O key p k := by
  unfold KP
  rw [getD_q, getElem?_bubble hs d hd k, getD_q p, getD_q p, getD_q p]
  split
  · rfl
  · split <;> rfl
theorem KP_mirror {p : Array Nat} {i j : Nat} (hj : j ≤ p.size) (k : Nat) : KP O key (kas_rev p i j) k = if i ≤ k ∧ k < j then KP O key p (i + j - 1 - k) else KP O key p k := by
  unfold KP kas_rev
  rw [getD_q, getElem?_mirror_all hj k, getD_q p, getD_q p]
  split <;> rfl
theorem KP_mirror_eq {p : Array Nat} {i j : Nat} (hj : j ≤ p.size) (he : ∀ k, i ≤ k → k < j → KP O key p k = KP O key p (j - 1)) (k : Nat) : KP O key (kas_rev p i j) k = KP O key p k := by
  rw [KP_mirror hj]
  split
  · rw [he _ (by lia) (by lia), he k (by lia) (by lia)]
  · rfl
theorem PB.rev {p : Array Nat} (h : PB N p) (i j : Nat) : PB N (kas_rev p i j) := (mirror_perm p i j _).trans h
variable (H : Answers O key N cmp Inv)
include H
theorem ask_run {p : Array Nat} (hp : PB N p) {i j : Nat} (hi : i < N) (hj : j < N) {α : Type} {k : Bool → KasT α} {Q : α → Shared → Prop} {s : Shared} (hs : Inv s)
    (h : ∀ s', Inv s' → (k (O.blt (KP O key p i) (KP O key p j))).kasWp cmp Q s') : (KasT.ask (p.getD i 0) (p.getD j 0) k).kasWp cmp Q s :=
  H _ _ _ s (hp.lt hi) (hp.lt hj) hs h
theorem asc_run {p : Array Nat} (hp : PB N p) {Q : Nat → Shared → Prop} : ∀ (f n : Nat) (s : Shared), 1 ≤ n → n + f ≤ N → Up O key p n → Inv s →
    (∀ m s', n ≤ m → m ≤ n + f → Up O key p m → (m = n + f ∨ O.klt (KP O key p m) (KP O key p (m - 1))) → Inv s' → Q m s') → (kas_asc p f n).kasWp cmp Q s
  | 0, n, s, h1, h2, h3, h4, h5 => h5 n s (Nat.le_refl _) (Nat.le_refl _) h3 (.inl rfl) h4
  | f + 1, n, s, h1, h2, h3, h4, h5 => by
    unfold kas_asc
    refine ask_run H hp (by lia) (by lia) h4 fun s' hs' => ?_
    cases hc : O.blt (KP O key p n) (KP O key p (n - 1)) with
    | true =>
      rw [if_pos rfl]
      exact h5 n s' (Nat.le_refl _) (by lia) h3 (.inr hc) hs'
    | false =>
      rw [if_neg (by decide)]
      refine asc_run hp f (n + 1) s' (by lia) (by lia) (fun i j hij hj => ?_) hs' fun m s'' a b c d e => h5 m s'' (by lia) (by lia) c (d.imp (fun q => by lia) id) e
      by_cases hjn : j < n
      · exact h3 i j hij hjn
      · have hj' : j = n := by lia
        subst hj'
        by_cases hi : i = j
        · subst hi; exact KeyOrd.kle_refl _
        · exact KeyOrd.kle_trans (h3 i (j - 1) (by lia) (by lia)) hc
theorem tail_run {p : Array Nat} (hp : PB N p) {n : Nat} {s : Shared} {Q : Nat × Array Nat → Shared → Prop} (h1 : 1 ≤ n) (hn : n ≤ N) (hd : Down O key p n) (hs : Inv s)
    (h : ∀ m p' s', PB N p' → 1 ≤ m → m ≤ N → Up O key p' m → Inv s' → Q (m, p') s') : (kas_tail3 n N p).kasWp cmp Q s := by
  unfold kas_tail3
  rw [KasT.kasWp_bind]
  have hz := hp.size
  refine asc_run H (hp.rev 0 n) (N - n) n s h1 (by lia) (fun i j hij hj => ?_) hs fun m s' a b c _ e => h m _ s' (hp.rev 0 n) (by lia) (by lia) c e
  rw [KP_mirror (by lia), KP_mirror (by lia), if_pos (by lia), if_pos (by lia)]
  exact hd _ _ (by lia) (by lia)
theorem desc_run {Q : Array Nat × Nat × Nat → Shared → Prop} : ∀ (f : Nat) (p : Array Nat) (n q : Nat) (s : Shared), PB N p → 1 ≤ n → n + f ≤ N → Down O key p n → q + 1 ≤ n → (∀ i, n - (q + 1) ≤ i → i < n → KP O key p i = KP O key p (n - 1)) → Inv s →
    (∀ p' m q' s', PB N p' → n ≤ m → m ≤ N → Down O key p' m → q' + 1 ≤ m → (∀ i, m - (q' + 1) ≤ i → i < m → KP O key p' i = KP O key p' (m - 1)) → Inv s' → Q (p', m, q') s') → (kas_desc f p n q).kasWp cmp Q s
  | 0, p, n, q, s, hp, h1, h2, h3, h4, h5, h6, h => h p n q s hp (Nat.le_refl _) (by lia) h3 h4 h5 h6
  | f + 1, p, n, q, s, hp, h1, h2, h3, h4, h5, h6, h => by
    have hz := hp.size
    unfold kas_desc
    refine ask_run H hp (by lia) (by lia) h6 fun s' hs' => ?_
    have step1 : ∀ p', O.klt (KP O key p n) (KP O key p (n - 1)) → (∀ k, KP O key p' k = KP O key p k) → Down O key p' (n + 1) := fun p' hc hk i j hij hj => by
      rw [hk, hk]
      by_cases hjn : j < n
      · exact h3 i j hij hjn
      · have hj' : j = n := by lia
        subst hj'
        by_cases hi : i = j
        · subst hi; exact KeyOrd.kle_refl _
        · exact KeyOrd.kle_trans (KeyOrd.kle_of_klt hc) (h3 i (j - 1) (by lia) (by lia))
    have one : ∀ p' : Array Nat, ∀ i, n + 1 - (0 + 1) ≤ i → i < n + 1 → KP O key p' i = KP O key p' (n + 1 - 1) := fun p' i a b => by
      have : i = n + 1 - 1 := by lia
      rw [this]
    cases hc : O.blt (KP O key p n) (KP O key p (n - 1)) with
    | true =>
      rw [if_pos rfl]
      by_cases hq : q > 0
      · rw [if_pos hq]
        exact desc_run f _ (n + 1) 0 s' (hp.rev _ _) (by lia) (by lia) (step1 _ hc (KP_mirror_eq (by lia) h5)) (by lia) (one _) hs' fun p' m q' s'' a b => h p' m q' s'' a (by lia)
      · rw [if_neg hq]
        exact desc_run f p (n + 1) 0 s' hp (by lia) (by lia) (step1 _ hc fun _ => rfl) (by lia) (one _) hs' fun p' m q' s'' a b => h p' m q' s'' a (by lia)
    | false =>
      rw [if_neg (by decide)]
      refine ask_run H hp (by lia) (by lia) hs' fun s2 hs2 => ?_
      cases hd : O.blt (KP O key p (n - 1)) (KP O key p n) with
      | true =>
        rw [if_pos rfl]
        exact h p n q s2 hp (Nat.le_refl _) (by lia) h3 h4 h5 hs2
      | false =>
        rw [if_neg (by decide)]
        have he : KP O key p n = KP O key p (n - 1) := KeyOrd.kle_antisymm hd hc
        refine desc_run f p (n + 1) (q + 1) s2 hp (by lia) (by lia) (fun i j hij hj => ?_) (by lia) (fun i a b => ?_) hs2 fun p' m q' s'' a b => h p' m q' s'' a (by lia)
        · by_cases hjn : j < n
          · exact h3 i j hij hjn
          · have hj' : j = n := by lia
            subst hj'
            by_cases hi : i = j
            · subst hi; exact KeyOrd.kle_refl _
            · rw [he]; exact h3 i (j - 1) (by lia) (by lia)
        · rw [show n + 1 - 1 = n by lia]
          by_cases hi : i = n
          · subst hi; rfl
          · rw [he]; exact h5 i (by lia) (by lia)
theorem descPart_run {p : Array Nat} (hp : PB N p) {n : Nat} {s : Shared} {Q : Nat × Array Nat → Shared → Prop} (hn : n + 1 ≤ N) (hd : Down O key p (n + 1)) (hs : Inv s)
    (h : ∀ m p' s', PB N p' → 1 ≤ m → m ≤ N → Up O key p' m → Inv s' → Q (m, p') s') : (kas_descPart n N p).kasWp cmp Q s := by
  unfold kas_descPart
  rw [KasT.kasWp_bind]
  refine desc_run H (N - (n + 1)) p (n + 1) 0 s hp (by lia) (by lia) hd (by lia) (fun i a b => by rw [show i = n + 1 - 1 by lia]) hs fun p' m q' s' hp' hm1 hm2 hd' hq he hs' => ?_
  dsimp only
  have hz := hp'.size
  by_cases hq0 : q' > 0
  · rw [if_pos hq0]
    refine tail_run H (hp'.rev _ _) (by lia) hm2 (fun i j hij hj => ?_) hs' h
    rw [KP_mirror_eq (by lia) he, KP_mirror_eq (by lia) he]
    exact hd' i j hij hj
  · rw [if_neg hq0]
    exact tail_run H hp' (by lia) hm2 hd' hs' h
theorem count_run {p : Array Nat} (hp : PB N p) {s : Shared} {Q : Nat × Array Nat → Shared → Prop} (h1 : 1 ≤ N) (hs : Inv s)
    (h : ∀ m p' s', PB N p' → 1 ≤ m → m ≤ N → Up O key p' m → Inv s' → Q (m, p') s') : (kas_count N p).kasWp cmp Q s := by
  unfold kas_count
  rw [KasT.kasWp_bind]
  have hz := hp.size
  refine asc_run H hp (N - 1) 1 s (Nat.le_refl _) (by lia) (fun i j hij hj => by rw [show i = j by lia]; exact KeyOrd.kle_refl _) hs fun n s' hn1 hn2 hu hor hs' => ?_
  by_cases hnn : n = N
  · rw [if_pos (by simpa using hnn)]
    exact h n p s' hp hn1 (by lia) hu hs'
  · rw [if_neg (by simpa using hnn)]
    have hlt := hor.resolve_left (by lia)
    by_cases hg : n > 1
    · rw [if_pos hg]
      refine ask_run H hp (by lia) (by lia) hs' fun s2 hs2 => ?_
      cases hr : O.blt (KP O key p 0) (KP O key p (n - 1)) with
      | true =>
        rw [if_pos rfl]
        exact h n p s2 hp hn1 (by lia) hu hs2
      | false =>
        rw [if_neg (by decide)]
        have hall : ∀ k, 0 ≤ k → k < n → KP O key p k = KP O key p (n - 1) := fun k _ hk => by
          have a1 := hu 0 k (by lia) hk
          have a2 := hu k (n - 1) (by lia) (by lia)
          exact KeyOrd.kle_antisymm a2 (KeyOrd.kle_trans hr a1)
        refine descPart_run H (hp.rev _ _) (by lia) (fun i j hij hj => ?_) hs2 h
        rw [KP_mirror_eq (by lia) hall, KP_mirror_eq (by lia) hall]
        by_cases hjn : j < n
        · rw [hall i (by lia) (by lia), hall j (by lia) hjn]; exact KeyOrd.kle_refl _
        · have hj' : j = n := by lia
          subst hj'
          by_cases hi : i = j
          · subst hi; exact KeyOrd.kle_refl _
          · rw [hall i (by lia) (by lia)]; exact KeyOrd.kle_of_klt hlt
    · rw [if_neg hg]
      have hn' : n = 1 := by lia
      subst hn'
      refine descPart_run H hp (by lia) (fun i j hij hj => ?_) hs' h
      by_cases hi : i = j
      · subst hi; exact KeyOrd.kle_refl _
      · have hi0 : i = 0 := by lia
        have hj1 : j = 1 := by lia
        subst hi0; subst hj1
        exact KeyOrd.kle_of_klt hlt
theorem place_run {p : Array Nat} (hp : PB N p) {k : Nat} (hk : k < N) (hu : Up O key p k) {Q : Nat → Shared → Prop} : ∀ (f l r : Nat) (s : Shared), l ≤ r → r ≤ k → r - l ≤ f →
    (∀ i, i < l → O.kle (KP O key p i) (KP O key p k)) → (∀ i, r ≤ i → i < k → O.klt (KP O key p k) (KP O key p i)) → Inv s →
    (∀ l s', l ≤ k → (∀ i, i < l → O.kle (KP O key p i) (KP O key p k)) → (∀ i, l ≤ i → i < k → O.klt (KP O key p k) (KP O key p i)) → Inv s' → Q l s') → (kas_place p k f l r).kasWp cmp Q s
  | 0, l, r, s, h1, h2, h3, h4, h5, h6, h => by
    have : l = r := by lia
    subst this
    exact h l s h2 h4 h5 h6
  | f + 1, l, r, s, h1, h2, h3, h4, h5, h6, h => by
    unfold kas_place
    by_cases hge : l ≥ r
    · rw [if_pos hge]
      have : l = r := by lia
      subst this
      exact h l s h2 h4 h5 h6
    · rw [if_neg hge]
      refine ask_run H hp hk (by lia) h6 fun s' hs' => ?_
      cases hc : O.blt (KP O key p k) (KP O key p ((l + r) / 2)) with
      | true =>
        rw [if_pos rfl]
        refine place_run hp hk hu f l ((l + r) / 2) s' (by lia) (by lia) (by lia) h4 (fun i a b => ?_) hs' h
        exact KeyOrd.klt_of_klt_of_kle hc (hu _ _ a b)
      | false =>
        rw [if_neg (by decide)]
        refine place_run hp hk hu f ((l + r) / 2 + 1) r s' (by lia) (by lia) (by lia) (fun i a => ?_) h5 hs' h
        exact KeyOrd.kle_trans (hu i ((l + r) / 2) (by lia) (by lia)) (show O.kle _ _ from hc)
theorem bin_run {Q : Array Nat → Shared → Prop} : ∀ (f : Nat) (p : Array Nat) (k : Nat) (s : Shared), PB N p → 1 ≤ k → k + f = N → Up O key p k → Inv s → (∀ p' s', PB N p' → Up O key p' N → Inv s' → Q p' s') → (kas_bin f p k).kasWp cmp Q s
  | 0, p, k, s, hp, h1, h2, h3, h4, h => by
    have : k = N := by lia
    subst this
    exact h p s hp h3 h4
  | f + 1, p, k, s, hp, h1, h2, h3, h4, h => by
    unfold kas_bin
    rw [KasT.kasWp_bind]
    have hz := hp.size
    refine place_run H hp (by lia) h3 k 0 k s (by lia) (Nat.le_refl _) (by lia) (fun i a => absurd a (Nat.not_lt_zero _)) (fun i a b => by lia) h4 fun l s' hl hlo hhi hs' => ?_
    refine bin_run f _ (k + 1) s' ((bubble_perm p k (k - l)).trans hp) (by lia) (by lia) (fun i j hij hj => ?_) hs' h
    rw [KP_bubble (by lia) (by lia), KP_bubble (by lia) (by lia), show k - (k - l) = l by lia]
    repeat' split
    all_goals first
      | (exfalso; lia)
      | exact KeyOrd.kle_refl _
      | exact hlo _ (by lia)
      | exact KeyOrd.kle_of_klt (hhi _ (by lia) (by lia))
      | exact h3 _ _ (by lia) (by lia)
theorem sort_run {Q : Array Nat → Shared → Prop} {s : Shared} (h1 : 1 ≤ N) (hs : Inv s) (h : ∀ p s', PB N p → Up O key p N → Inv s' → Q p s') : (kas_sort N).kasWp cmp Q s := by
  unfold kas_sort
  rw [KasT.kasWp_bind]
  refine count_run H (Array.Perm.refl _) h1 hs fun m p s' hp hm1 hm2 hu hs' => ?_
  dsimp only
  by_cases hlt : m < N
  · rw [if_pos hlt, show max m 1 = m by lia]
    exact bin_run H (N - m) p m s' hp hm1 (by lia) hu hs' h
  · rw [if_neg hlt]
    have : m = N := by lia
    subst this
    exact h p s' hp hu hs'
end
end
section
open PySem PySem.W PyProof.Rows PySem.Spec PySem.Calls
noncomputable def hpC (k : Int × Int) : Int := reduceHash (Builtin.Tuple.tupleHashOf [hashInt k.1, hashInt k.2])
noncomputable def keys10 : List (Int × Int) := [(0, 1), (0, 2), (0, 3), (0, 4), (1, 2), (1, 3), (1, 4), (2, 3), (2, 4), (3, 4)]
theorem hpC_inj : ∀ a ∈ keys10, ∀ b ∈ keys10, hpC a = hpC b → a = b := by decide +kernel
theorem hp_ex : ∃ f : Int × Int → Int, ∀ k, f k = hpC k := ⟨hpC, fun _ => rfl⟩
noncomputable def hp : Int × Int → Int := Classical.choose hp_ex
theorem hp_eq (k : Int × Int) : hp k = hpC k := Classical.choose_spec hp_ex k
theorem hp_inj : ∀ a ∈ keys10, ∀ b ∈ keys10, hp a = hp b → a = b := fun a ha b hb e => hpC_inj a ha b hb (by rw [← hp_eq, ← hp_eq]; exact e)
noncomputable def walkL (mask : Nat) : Nat → Nat → Nat → List Nat
  | 0, _, _ => []
  | f + 1, i, p => (List.range (SetTable.runEnd mask i + 1 - i)).map (i + ·) ++ walkL mask f (SetTable.leap mask i p).1 (SetTable.leap mask i p).2
noncomputable def walkH (mask : Nat) (h : Int) : List Nat := walkL mask (SetTable.turns mask) (SetTable.bits h % (mask + 1)) (SetTable.bits h)
noncomputable def adv (mask : Nat) (p : SetTable.Probe) : SetTable.Probe := SetTable.advance { mask := mask, place := #[], dummies := #[], finger := 0, led := false, moves := 0, plain := false } p
noncomputable def startP (mask : Nat) (h : Int) : SetTable.Probe := SetTable.probeStart { mask := mask, place := #[], dummies := #[], finger := 0, led := false, moves := 0, plain := false } h
noncomputable def places (mask : Nat) : Nat → SetTable.Probe → List Nat
  | 0, _ => []
  | n + 1, p => p.j :: places mask n (adv mask p)
noncomputable def okWalk (mask : Nat) (h : Int) : Bool :=
  decide (places mask (walkH mask h).length (startP mask h) = walkH mask h) && decide ((walkH mask h).length ≤ 10 * SetTable.turns mask) && ((List.range (mask + 1)).all fun j => (walkH mask h).contains j) && (walkH mask h).all fun j => decide (j ≤ mask)
theorem ok7C : ∀ k ∈ keys10, okWalk 7 (hpC k) = true := by decide +kernel
theorem ok31C : ∀ k ∈ keys10, okWalk 31 (hpC k) = true := by decide +kernel
theorem ok7 : ∀ k ∈ keys10, okWalk 7 (hp k) = true := fun k hk => by rw [hp_eq]; exact ok7C k hk
theorem ok31 : ∀ k ∈ keys10, okWalk 31 (hp k) = true := fun k hk => by rw [hp_eq]; exact ok31C k hk
end
section
open PySem PySem.W PyProof.Rows PySem.Spec PySem.Calls
theorem below_go {xs : Array Nat} {j : Nat} (hr : xs.toList.Pairwise (· < ·)) : ∀ (fuel lo hi : Nat), lo ≤ hi → hi ≤ xs.size → hi - lo ≤ fuel → (∀ i, i < lo → xs.getD i 0 < j) → (∀ i, hi ≤ i → i < xs.size → j ≤ xs.getD i 0) →
    (SetTable.below.go xs j fuel lo hi ≤ xs.size ∧ (∀ i, i < SetTable.below.go xs j fuel lo hi → xs.getD i 0 < j) ∧ (∀ i, SetTable.below.go xs j fuel lo hi ≤ i → i < xs.size → j ≤ xs.getD i 0)) := by
  have mono : ∀ a b, a ≤ b → b < xs.size → xs.getD a 0 ≤ xs.getD b 0 := by
    intro a b hab hb
    have ha : a < xs.size := Nat.lt_of_le_of_lt hab hb
    have e1 : xs.getD a 0 = xs.toList[a]'(by simpa using ha) := by simp [Array.getD, ha]
    have e2 : xs.getD b 0 = xs.toList[b]'(by simpa using hb) := by simp [Array.getD, hb]
    rw [e1, e2]
    rcases Nat.lt_or_eq_of_le hab with h | h
    · exact Nat.le_of_lt (List.pairwise_iff_getElem.mp hr a b _ _ h)
    · subst h; exact Nat.le_refl _
  intro fuel
  induction fuel with
  | zero =>
    intro lo hi h1 h2 h3 h4 h5
    have : lo = hi := by lia
    subst this
    exact ⟨h2, h4, h5⟩
  | succ f ih =>
    intro lo hi h1 h2 h3 h4 h5
    unfold SetTable.below.go
    by_cases hlt : lo < hi
    · rw [if_pos hlt]
      dsimp only
      have hm : (lo + hi) / 2 < xs.size := by lia
      have eg : xs.getD ((lo + hi) / 2) j = xs.getD ((lo + hi) / 2) 0 := by simp [Array.getD, hm]
      rw [eg]
      by_cases hc : xs.getD ((lo + hi) / 2) 0 < j
      · rw [if_pos hc]
        refine ih _ _ (by lia) h2 (by lia) (fun i hi' => ?_) h5
        exact Nat.lt_of_le_of_lt (mono i ((lo + hi) / 2) (by lia) (by lia)) hc
      · rw [if_neg hc]
        refine ih _ _ (by lia) (by lia) (by lia) h4 (fun i hi' hs => ?_)
        exact Nat.le_trans (Nat.not_lt.mp hc) (mono _ i hi' hs)
    · rw [if_neg hlt]
      have : lo = hi := by lia
      subst this
      exact ⟨h2, h4, h5⟩
theorem below_spec {xs : Array Nat} (hr : xs.toList.Pairwise (· < ·)) (j : Nat) :
    (SetTable.below xs j ≤ xs.size ∧ (∀ i, i < SetTable.below xs j → xs.getD i 0 < j) ∧ (∀ i, SetTable.below xs j ≤ i → i < xs.size → j ≤ xs.getD i 0)) :=
  below_go hr xs.size 0 xs.size (Nat.zero_le _) (Nat.le_refl _) (by lia) (fun i h => absurd h (Nat.not_lt_zero _)) (fun i h1 h2 => absurd h1 (Nat.not_le.mpr h2))
theorem has_nil (j : Nat) : SetTable.has #[] j = false := by simp [SetTable.has]
theorem slot_live {t : SetTable} (hr : t.place.toList.Pairwise (· < ·)) {i j : Nat} (h : t.place[i]? = some j) : t.slot j = .live i := by
  obtain ⟨b1, b2, b3⟩ := below_spec hr j
  have hi : i < t.place.size := by
    obtain ⟨q, _⟩ := Array.getElem?_eq_some_iff.mp h
    exact q
  have e1 : t.place.getD i 0 = j := by
    obtain ⟨q, e⟩ := Array.getElem?_eq_some_iff.mp h
    simp [Array.getD, q, e]
  have hb : SetTable.below t.place j = i := by
    rcases Nat.lt_trichotomy (SetTable.below t.place j) i with h1 | h1 | h1
    · have h2 := b3 _ (Nat.le_refl _) (Nat.lt_trans h1 hi)
      have h3 : t.place.getD (SetTable.below t.place j) 0 < t.place.getD i 0 := by
        have q1 : SetTable.below t.place j < t.place.size := Nat.lt_trans h1 hi
        have := List.pairwise_iff_getElem.mp hr (SetTable.below t.place j) i (by simpa using q1) (by simpa using hi) h1
        simpa [Array.getD, q1, hi] using this
      lia
    · exact h1
    · have := b2 i h1
      lia
  unfold SetTable.slot
  dsimp only
  rw [hb, h, if_pos (by simp)]
theorem slot_empty {t : SetTable} (hd : t.dummies = #[]) {j : Nat} (h : j ∉ t.place.toList) : t.slot j = .empty := by
  unfold SetTable.slot
  dsimp only
  rw [if_neg, if_neg]
  · rw [hd, has_nil]; decide
  · intro q
    have q' : t.place[SetTable.below t.place j]? = some j := by simpa using q
    obtain ⟨z, e⟩ := Array.getElem?_eq_some_iff.mp q'
    exact h (e ▸ by simp)
theorem go_probe {t : SetTable} (hr : t.place.toList.Pairwise (· < ·)) (hd : t.dummies = #[]) {hashAt : Nat → Int} {h : Int} : ∀ (pre : List Nat) (j : Nat) (post : List Nat) (fuel : Nat) (p : SetTable.Probe) (n : Nat),
    places t.mask n p = pre ++ j :: post → p.dummy = none → n ≤ fuel → (∀ x ∈ pre, ∃ i, t.place[i]? = some x ∧ (hashAt i == h) = false) →
    (j ∉ t.place.toList → SetTable.probe.go t hashAt h fuel p = some (.empty j none)) ∧ (∀ i, t.place[i]? = some j → hashAt i = h → ∃ nx, SetTable.probe.go t hashAt h fuel p = some (.candidate j i nx)) := by
  intro pre
  induction pre with
  | nil =>
    intro j post fuel p n hp hdm hf _
    cases n with
    | zero => cases hp
    | succ n =>
      cases fuel with
      | zero => lia
      | succ fuel =>
        unfold places at hp
        simp only [List.nil_append, List.cons.injEq] at hp
        obtain ⟨rfl, _⟩ := hp
        unfold SetTable.probe.go
        refine ⟨fun hj => ?_, fun i hi he => ?_⟩
        · rw [slot_empty hd hj, hdm]
        · rw [slot_live hr hi]
          dsimp only
          rw [if_pos (by simp [he])]
          exact ⟨_, rfl⟩
  | cons y pre ih =>
    intro j post fuel p n hp hdm hf hx
    cases n with
    | zero => cases hp
    | succ n =>
      cases fuel with
      | zero => lia
      | succ fuel =>
        unfold places at hp
        simp only [List.cons_append, List.cons.injEq] at hp
        obtain ⟨rfl, hp⟩ := hp
        obtain ⟨i, hi, hn⟩ := hx _ (.head _)
        have e : SetTable.probe.go t hashAt h (fuel + 1) p = SetTable.probe.go t hashAt h fuel (adv t.mask p) := by
          conv => lhs; unfold SetTable.probe.go
          rw [slot_live hr hi]
          dsimp only
          rw [if_neg (by rw [hn]; decide)]
          rfl
        rw [e]
        refine ih j post fuel (adv t.mask p) n hp ?_ (by lia) (fun x hx' => hx x (.tail _ hx'))
        unfold adv SetTable.advance
        split
        · exact hdm
        · exact hdm
theorem first_split {α : Type} {P : α → Prop} [DecidablePred P] : ∀ (l : List α), (∃ x ∈ l, P x) → ∃ pre x post, l = pre ++ x :: post ∧ P x ∧ ∀ y ∈ pre, ¬ P y
  | [], h => by obtain ⟨_, h, _⟩ := h; cases h
  | a :: l, h => by
    by_cases ha : P a
    · exact ⟨[], a, l, rfl, ha, fun _ h => nomatch h⟩
    · obtain ⟨x, hx, hp⟩ := h
      rcases List.mem_cons.mp hx with rfl | hx
      · exact absurd hp ha
      · obtain ⟨pre, y, post, e, hy, hn⟩ := first_split l ⟨x, hx, hp⟩
        refine ⟨a :: pre, y, post, by rw [e]; rfl, hy, fun z hz => ?_⟩
        rcases List.mem_cons.mp hz with rfl | hz
        · exact ha
        · exact hn z hz
theorem nodupLen {α : Type} [BEq α] [LawfulBEq α] : ∀ {l m : List α}, l.Nodup → (∀ x ∈ l, x ∈ m) → l.length ≤ m.length
  | [], _, _, _ => Nat.zero_le _
  | a :: l, m, hn, hs => by
    rw [List.nodup_cons] at hn
    have ha := hs a (.head _)
    have h2 := nodupLen (l := l) (m := m.erase a) hn.2 fun x hx => (List.mem_erase_of_ne (fun e : x = a => hn.1 (e ▸ hx))).mpr (hs x (.tail _ hx))
    have h3 := List.length_erase_of_mem ha
    have h4 := List.length_pos_of_mem ha
    simp only [List.length_cons]
    lia
noncomputable def RchT (mask : Nat) (k : Int × Int) (j : Nat) (ps : List Nat) : Prop := ∃ pre post, walkH mask (hp k) = pre ++ j :: post ∧ ∀ x ∈ pre, x ∈ ps ∧ x ≠ j
structure Tab (t : SetTable) (hs : List (Int × Int)) : Prop where
  room : (t.mask = 7 ∧ hs.length ≤ 5) ∨ (t.mask = 31 ∧ hs.length ≤ 10)
  dum : t.dummies = #[]
  plain : t.plain = true
  len : t.place.size = hs.length
  rise : t.place.toList.Pairwise (· < ·)
  le : ∀ j ∈ t.place.toList, j ≤ t.mask
  keys : ∀ k ∈ hs, k ∈ keys10
  nd : hs.Nodup
  reach : ∀ (i : Nat) k j, hs[i]? = some k → t.place[i]? = some j → RchT t.mask k j t.place.toList
theorem Tab.walk {t : SetTable} {hs : List (Int × Int)} (T : Tab t hs) {k : Int × Int} (hk : k ∈ keys10) :
    places t.mask (walkH t.mask (hp k)).length (startP t.mask (hp k)) = walkH t.mask (hp k) ∧ (walkH t.mask (hp k)).length ≤ 10 * SetTable.turns t.mask ∧ (∀ j, j ≤ t.mask → j ∈ walkH t.mask (hp k)) ∧ ∀ j ∈ walkH t.mask (hp k), j ≤ t.mask := by
  have h : okWalk t.mask (hp k) = true := by
    rcases T.room with ⟨e, _⟩ | ⟨e, _⟩
    · rw [e]; exact ok7 k hk
    · rw [e]; exact ok31 k hk
  unfold okWalk at h
  simp only [Bool.and_eq_true, decide_eq_true_eq, List.all_eq_true, List.mem_range, List.contains_iff_mem] at h
  exact ⟨h.1.1.1, h.1.1.2, fun j hj => h.1.2 j (by lia), h.2⟩
theorem Tab.search {t : SetTable} {hs : List (Int × Int)} (T : Tab t hs) {k : Int × Int} (hk : k ∈ keys10) {hashAt : Nat → Int} (hh : ∀ (i : Nat) k', hs[i]? = some k' → hashAt i = hp k') :
    (∀ i, hs[i]? = some k → ∃ j nx, t.place[i]? = some j ∧ t.probe hashAt (hp k) (t.probeStart (hp k)) = some (.candidate j i nx)) ∧
    (k ∉ hs → ∃ j, j ≤ t.mask ∧ j ∉ t.place.toList ∧ RchT t.mask k j t.place.toList ∧ t.probe hashAt (hp k) (t.probeStart (hp k)) = some (.empty j none)) := by
  obtain ⟨w1, w2, w3, w4⟩ := T.walk hk
  have hlen := T.len
  have at_ : ∀ i : Nat, i < hs.length → ∃ k' j', hs[i]? = some k' ∧ t.place[i]? = some j' := fun i hi => ⟨hs[i], t.place[i]'(by lia), List.getElem?_eq_getElem hi, Array.getElem?_eq_getElem (by lia)⟩
  have ofp : ∀ x ∈ t.place.toList, ∃ (i : Nat) (k' : Int × Int), t.place[i]? = some x ∧ hs[i]? = some k' := fun x hx => by
    obtain ⟨i, hi, e⟩ := List.getElem_of_mem hx
    have hi' : i < t.place.size := by simpa using hi
    have hi2 : i < hs.length := by lia
    exact ⟨i, hs[i], by rw [Array.getElem?_eq_getElem hi', ← e]; simp, List.getElem?_eq_getElem hi2⟩
  constructor
  · intro i hi
    have hil : i < hs.length := by
      obtain ⟨q, _⟩ := List.getElem?_eq_some_iff.mp hi
      exact q
    obtain ⟨_, j, _, hj⟩ := at_ i hil
    obtain ⟨pre, post, hw, hpre⟩ := T.reach i k j hi hj
    have h2 := (go_probe (hashAt := hashAt) (h := hp k) T.rise T.dum pre j post (10 * SetTable.turns t.mask) (startP t.mask (hp k)) _ (w1.trans hw) rfl w2 (fun x hx => by
      obtain ⟨hx1, hx2⟩ := hpre x hx
      obtain ⟨i', k', e1, e2⟩ := ofp x hx1
      refine ⟨i', e1, ?_⟩
      rw [hh i' k' e2]
      apply beq_false_of_ne
      intro e
      have := hp_inj k' (T.keys k' (List.mem_of_getElem? e2)) k hk e
      subst this
      have hii : i' = i := by
        obtain ⟨z1, f1⟩ := List.getElem?_eq_some_iff.mp e2
        obtain ⟨z2, f2⟩ := List.getElem?_eq_some_iff.mp hi
        rcases Nat.lt_trichotomy i' i with h | h | h
        · exact absurd (f1.trans f2.symm) (List.pairwise_iff_getElem.mp T.nd i' i z1 z2 h)
        · exact h
        · exact absurd (f2.trans f1.symm) (List.pairwise_iff_getElem.mp T.nd i i' z2 z1 h)
      subst hii
      rw [e1] at hj
      exact hx2 (Option.some.inj hj))).2 i hj (hh i k hi)
    obtain ⟨nx, e⟩ := h2
    exact ⟨j, nx, hj, e⟩
  · intro hkn
    have hex : ∃ j, j ≤ t.mask ∧ j ∉ t.place.toList := by
      apply Classical.byContradiction
      intro hc
      have hall : ∀ j ∈ List.range (t.mask + 1), j ∈ t.place.toList := fun j hj => Classical.byContradiction fun q => hc ⟨j, by have := List.mem_range.mp hj; lia, q⟩
      have := nodupLen List.nodup_range hall
      simp only [List.length_range, Array.length_toList] at this
      rcases T.room with ⟨e, _⟩ | ⟨e, _⟩ <;> lia
    obtain ⟨j0, hj1, hj2⟩ := hex
    obtain ⟨pre, j, post, hw, hjn, hpre⟩ := first_split (P := fun j => j ∉ t.place.toList) (walkH t.mask (hp k)) ⟨j0, w3 j0 hj1, hj2⟩
    have hpre' : ∀ x ∈ pre, x ∈ t.place.toList := fun x hx => Classical.not_not.mp (hpre x hx)
    have h2 := (go_probe (hashAt := hashAt) (h := hp k) T.rise T.dum pre j post (10 * SetTable.turns t.mask) (startP t.mask (hp k)) _ (w1.trans hw) rfl w2 (fun x hx => by
      obtain ⟨i', k', e1, e2⟩ := ofp x (hpre' x hx)
      refine ⟨i', e1, ?_⟩
      rw [hh i' k' e2]
      apply beq_false_of_ne
      intro e
      have := hp_inj k' (T.keys k' (List.mem_of_getElem? e2)) k hk e
      subst this
      exact hkn (List.mem_of_getElem? e2))).1 hjn
    refine ⟨j, w4 j (by rw [hw]; simp), hjn, ⟨pre, post, hw, fun x hx => ⟨hpre' x hx, fun e => hjn (e ▸ hpre' x hx)⟩⟩, h2⟩
end
section
open PySem PySem.W PyProof.Rows PySem.Spec PySem.Calls
theorem insertAt_list {α : Type} (xs : Array α) (p : Nat) (x : α) : (SetTable.insertAt xs p x).toList = xs.toList.take p ++ x :: xs.toList.drop p := SetTable.toList_insertAt xs p x
theorem perm_ins {α : Type} (l : List α) (p : Nat) (x : α) : (l.take p ++ x :: l.drop p).Perm (x :: l) :=
  List.perm_middle.trans (by rw [List.take_append_drop])
theorem getElem?_ins {α : Type} (l : List α) (p : Nat) (hp : p ≤ l.length) (x : α) (i : Nat) : (l.take p ++ x :: l.drop p)[i]? = if i < p then l[i]? else if i = p then some x else l[i - 1]? := by
  by_cases h1 : i < p
  · rw [if_pos h1, List.getElem?_append_left (by rw [List.length_take]; lia), List.getElem?_take_of_lt h1]
  · rw [if_neg h1, List.getElem?_append_right (by rw [List.length_take]; lia), List.length_take, Nat.min_eq_left hp]
    by_cases h2 : i = p
    · subst h2; rw [if_pos rfl, Nat.sub_self]; rfl
    · rw [if_neg h2]
      obtain ⟨d, hd⟩ : ∃ d, i - p = d + 1 := ⟨i - p - 1, by lia⟩
      rw [hd, List.getElem?_cons_succ, List.getElem?_drop]
      congr 1; lia
theorem RchT.mono {mask : Nat} {k : Int × Int} {j : Nat} {ps ps' : List Nat} (h : RchT mask k j ps) (hs : ∀ x ∈ ps, x ∈ ps') : RchT mask k j ps' := by
  obtain ⟨pre, post, e, hx⟩ := h
  exact ⟨pre, post, e, fun x h => ⟨hs x (hx x h).1, (hx x h).2⟩⟩
theorem put_place (t : SetTable) (hd : t.dummies = #[]) (j : Nat) : (t.put j).1 = { t with place := SetTable.insertAt t.place (SetTable.below t.place j) j } ∧ (t.put j).2 = SetTable.below t.place j := by
  refine ⟨?_, rfl⟩
  unfold SetTable.put
  dsimp only
  rw [hd, has_nil, if_neg (by decide), ← hd]
theorem Tab.put {t : SetTable} {hs : List (Int × Int)} (T : Tab t hs) {k : Int × Int} (hk : k ∈ keys10) (hn : k ∉ hs) {j : Nat} (hj : j ≤ t.mask) (hf : j ∉ t.place.toList) (hr : RchT t.mask k j t.place.toList)
    (room : (t.mask = 7 ∧ hs.length + 1 ≤ 5) ∨ (t.mask = 31 ∧ hs.length + 1 ≤ 10)) :
    Tab (t.put j).1 (hs.take (t.put j).2 ++ k :: hs.drop (t.put j).2) ∧ (t.put j).2 ≤ hs.length := by
  obtain ⟨e1, e2⟩ := put_place t T.dum j
  obtain ⟨b1, b2, b3⟩ := below_spec T.rise j
  have hlen := T.len
  rw [e1, e2]
  obtain ⟨p, hp⟩ : ∃ p, p = SetTable.below t.place j := ⟨_, rfl⟩
  rw [← hp] at b1 b2 b3 ⊢
  have hpl : p ≤ hs.length := by lia
  have pl : ∀ (i : Nat) (x : Nat), t.place.toList[i]? = some x → t.place.getD i 0 = x ∧ i < t.place.size := fun i x h => by
    obtain ⟨z, e⟩ := List.getElem?_eq_some_iff.mp h
    have z' : i < t.place.size := by simpa using z
    refine ⟨?_, z'⟩
    simp [Array.getD, z']; simpa using e
  have hl := insertAt_list t.place p j
  refine ⟨⟨?_, T.dum, T.plain, ?_, ?_, ?_, ?_, ?_, ?_⟩, hpl⟩
  · have e : (hs.take p ++ k :: hs.drop p).length = hs.length + 1 := by simp; lia
    dsimp only
    rw [e]; exact room
  · show (SetTable.insertAt t.place p j).size = _
    rw [← Array.length_toList, hl]; simp; lia
  · show (SetTable.insertAt t.place p j).toList.Pairwise (· < ·)
    rw [hl, List.pairwise_append]
    have ht := List.Pairwise.sublist (List.take_sublist p t.place.toList) T.rise
    have hd := List.Pairwise.sublist (List.drop_sublist p t.place.toList) T.rise
    have tk : ∀ a ∈ t.place.toList.take p, a < j := fun a ha => by
      obtain ⟨i, hi, e⟩ := List.getElem_of_mem ha
      have hi1 : i < p := by simp at hi; lia
      have := pl i a (by rw [← e]; rw [List.getElem_take]; exact List.getElem?_eq_getElem _)
      have h2 := b2 i hi1
      lia
    have dr : ∀ b ∈ t.place.toList.drop p, j < b := fun b hb => by
      obtain ⟨i, hi, e⟩ := List.getElem_of_mem hb
      have hi1 : p + i < t.place.toList.length := by simp at hi ⊢; lia
      have := pl (p + i) b (by rw [← e, List.getElem_drop]; exact List.getElem?_eq_getElem _)
      have h3 := b3 (p + i) (by lia) this.2
      have hne : b ≠ j := fun q => hf (q ▸ List.drop_subset p _ hb)
      lia
    refine ⟨ht, ?_, fun a ha b hb => ?_⟩
    · rw [List.pairwise_cons]; exact ⟨dr, hd⟩
    · rcases List.mem_cons.mp hb with rfl | hb
      · exact tk a ha
      · exact Nat.lt_trans (tk a ha) (dr b hb)
  · show ∀ x ∈ (SetTable.insertAt t.place p j).toList, x ≤ t.mask
    rw [hl]
    intro x hx
    rcases List.mem_cons.mp ((perm_ins _ p j).mem_iff.mp hx) with rfl | hx
    · exact hj
    · exact T.le x hx
  · intro x hx
    rcases List.mem_cons.mp ((perm_ins _ p k).mem_iff.mp hx) with rfl | hx
    · exact hk
    · exact T.keys x hx
  · exact (perm_ins _ p k).nodup_iff.mpr (List.nodup_cons.mpr ⟨hn, T.nd⟩)
  · intro i k' j' h1 h2
    have h2' : (t.place.toList.take p ++ j :: t.place.toList.drop p)[i]? = some j' := by
      rw [← hl, Array.getElem?_toList]; exact h2
    rw [getElem?_ins _ p hpl] at h1
    rw [getElem?_ins _ p (by simp; lia)] at h2'
    have sub : ∀ x ∈ t.place.toList, x ∈ (SetTable.insertAt t.place p j).toList := fun x hx => by
      rw [hl]; exact (perm_ins _ p j).mem_iff.mpr (.tail _ hx)
    show RchT t.mask k' j' (SetTable.insertAt t.place p j).toList
    split at h1
    · rename_i q; rw [if_pos q, Array.getElem?_toList] at h2'
      exact (T.reach i k' j' h1 h2').mono sub
    · rename_i q
      rw [if_neg q] at h2'
      split at h1
      · rename_i q2
        rw [if_pos q2] at h2'
        cases h1; cases h2'
        exact hr.mono sub
      · rename_i q2
        rw [if_neg q2, Array.getElem?_toList] at h2'
        exact (T.reach (i - 1) k' j' h1 h2').mono sub
noncomputable def LI (hs : List (Int × Int)) (m : Nat) (ow : Array (Option Nat)) : Prop :=
  ow.size = 32 ∧ (∀ (i : Nat) k, i < m → hs[i]? = some k → ∃ j pre post, ow[j]? = some (some i) ∧ walkH 31 (hp k) = pre ++ j :: post ∧ ∀ x ∈ pre, (∃ i', ow[x]? = some (some i')) ∧ x ≠ j) ∧
    (∀ (j i : Nat), ow[j]? = some (some i) → i < m) ∧ ∀ (j j' i : Nat), ow[j]? = some (some i) → ow[j']? = some (some i) → j = j'
theorem free_find (mask : Nat) (ow : Array (Option Nat)) : ∀ (f i p : Nat), SetTable.layClean.free mask ow f i p = (walkL mask f i p).find? fun j => (ow.getD j (some 0)).isNone
  | 0, _, _ => rfl
  | f + 1, i, p => by
    unfold SetTable.layClean.free walkL
    rw [List.find?_append, List.find?_map]
    have ef : ((fun j => (ow.getD j (some 0)).isNone) ∘ fun x => i + x) = fun k => (ow.getD (i + k) (some 0)).isNone := rfl
    rw [ef]
    cases hq : List.find? (fun k => (ow.getD (i + k) (some 0)).isNone) (List.range (SetTable.runEnd mask i + 1 - i)) with
    | some k => rfl
    | none =>
      dsimp only
      rw [Option.map_none, Option.none_or, free_find mask ow f]
theorem li_step {hs : List (Int × Int)} {m : Nat} {ow : Array (Option Nat)} (h : LI hs m ow) (hm : m < 32) {k : Int × Int} (hk : k ∈ keys10) (hat : hs[m]? = some k) :
    ∃ j, SetTable.layClean.free 31 ow (SetTable.turns 31) (SetTable.bits (hp k) % (31 + 1)) (SetTable.bits (hp k)) = some j ∧ LI hs (m + 1) (ow.setIfInBounds j (some m)) := by
  obtain ⟨hz, h1, h2, h3⟩ := h
  have ok := ok31 k hk
  unfold okWalk at ok
  simp only [Bool.and_eq_true, decide_eq_true_eq, List.all_eq_true, List.mem_range, List.contains_iff_mem] at ok
  obtain ⟨⟨⟨_, _⟩, w3⟩, w4⟩ := ok
  rw [free_find]
  have hex : ∃ j, j < 32 ∧ ow[j]? = some none := by
    apply Classical.byContradiction
    intro hc
    have hall : ∀ j, j < 32 → ∃ i, ow[j]? = some (some i) := fun j hj => by
      have hj' : j < ow.size := by lia
      cases e : ow[j]'hj' with
      | none => exact absurd ⟨j, hj, by rw [Array.getElem?_eq_getElem hj', e]⟩ hc
      | some i => exact ⟨i, by rw [Array.getElem?_eq_getElem hj', e]⟩
    let f : Nat → Nat := fun j => ((ow[j]?).getD none).getD 0
    have hf : ∀ j, j < 32 → ow[j]? = some (some (f j)) := fun j hj => by
      obtain ⟨i, e⟩ := hall j hj
      show _ = some (some (((ow[j]?).getD none).getD 0))
      rw [e]; rfl
    have nd : ((List.range 32).map f).Nodup := by
      rw [List.nodup_iff_pairwise_ne, List.pairwise_map]
      refine List.Pairwise.imp_of_mem ?_ (List.nodup_iff_pairwise_ne.mp (List.nodup_range (n := 32)))
      intro a b ha hb hne e
      exact hne (h3 a b (f a) (hf a (List.mem_range.mp ha)) (e ▸ hf b (List.mem_range.mp hb)))
    have := nodupLen (m := List.range m) nd fun x hx => by
      obtain ⟨j, hj, e⟩ := List.mem_map.mp hx
      exact List.mem_range.mpr (e ▸ h2 j _ (hf j (List.mem_range.mp hj)))
    simp at this
    lia
  obtain ⟨j0, hj0, e0⟩ := hex
  have hw : walkH 31 (hp k) = walkL 31 (SetTable.turns 31) (SetTable.bits (hp k) % (31 + 1)) (SetTable.bits (hp k)) := rfl
  rw [← hw]
  obtain ⟨pre, j, post, hws, hjP, hpre⟩ := first_split (P := fun j => (ow.getD j (some 0)).isNone = true) (walkH 31 (hp k)) ⟨j0, w3 j0 hj0, by
    have q : j0 < ow.size := by lia
    have e1 : ow[j0] = none := by rw [Array.getElem?_eq_getElem q] at e0; exact Option.some.inj e0
    simp [Array.getD, q, e1]⟩
  have hj32 : j < 32 := by have := w4 j (by rw [hws]; simp); lia
  have hjz : j < ow.size := by lia
  have hjn : ow[j]? = some none := by
    rw [Array.getElem?_eq_getElem hjz]
    congr 1
    have : ow.getD j (some 0) = ow[j] := by simp [Array.getD, hjz]
    rw [this] at hjP
    exact Option.isNone_iff_eq_none.mp hjP
  have hpre2 : ∀ x ∈ pre, ∃ i', ow[x]? = some (some i') := fun x hx => by
    have hx32 : x < 32 := by have := w4 x (by rw [hws]; simp [hx]); lia
    have hxz : x < ow.size := by lia
    have := hpre x hx
    have e : ow.getD x (some 0) = ow[x] := by simp [Array.getD, hxz]
    rw [e] at this
    cases q : ow[x] with
    | none => rw [q] at this; exact absurd rfl this
    | some i => exact ⟨i, by rw [Array.getElem?_eq_getElem hxz, q]⟩
  refine ⟨j, ?_, ?_⟩
  · rw [hws, List.find?_append]
    have e1 : pre.find? (fun j => (ow.getD j (some 0)).isNone) = none := List.find?_eq_none.mpr hpre
    rw [e1, Option.none_or, List.find?_cons, hjP]
  have gs : ∀ x, (ow.setIfInBounds j (some m))[x]? = if x = j then some (some m) else ow[x]? := fun x => by
    rw [Array.getElem?_setIfInBounds]
    by_cases q : j = x
    · subst q; rw [if_pos rfl, if_pos rfl, if_pos hjz]
    · rw [if_neg q, if_neg (Ne.symm q)]
  have old : ∀ x i', ow[x]? = some (some i') → (ow.setIfInBounds j (some m))[x]? = some (some i') := fun x i' e => by
    rw [gs, if_neg]
    · exact e
    · intro q; subst q; rw [hjn] at e; cases e
  refine ⟨by simpa using hz, ?_, ?_, ?_⟩
  · intro i k' hi hk'
    rcases Nat.lt_succ_iff_lt_or_eq.mp hi with hlt | rfl
    · obtain ⟨j', pre', post', a1, a2, a3⟩ := h1 i k' hlt hk'
      exact ⟨j', pre', post', old _ _ a1, a2, fun x hx => ⟨let ⟨i', e⟩ := (a3 x hx).1; ⟨i', old _ _ e⟩, (a3 x hx).2⟩⟩
    · rw [hat] at hk'; cases hk'
      refine ⟨j, pre, post, by rw [gs, if_pos rfl], hws, fun x hx => ⟨let ⟨i', e⟩ := hpre2 x hx; ⟨i', old _ _ e⟩, fun q => ?_⟩⟩
      obtain ⟨i', e⟩ := hpre2 x hx
      rw [q, hjn] at e; cases e
  · intro x i e
    rw [gs] at e
    split at e
    · cases e; lia
    · have := h2 x i e; lia
  · intro a b i ea eb
    rw [gs] at ea eb
    split at ea
    · rename_i qa
      cases ea
      split at eb
      · rename_i qb; rw [qa, qb]
      · have := h2 b m eb; lia
    · split at eb
      · cases eb
        have := h2 a m ea; lia
      · exact h3 a b i ea eb
end
section
open PySem PySem.W PyProof.Rows PySem.Spec PySem.Calls
noncomputable def layStep (mask : Nat) (acc : Option (Array (Option Nat) × Nat)) (h : Int) : Option (Array (Option Nat) × Nat) := do
  let (owner, k) ← acc
  let j ← SetTable.layClean.free mask owner (SetTable.turns mask) (SetTable.bits h % (mask + 1)) (SetTable.bits h)
  pure (owner.setIfInBounds j (some k), k + 1)
theorem layStep_some {mask : Nat} {ow : Array (Option Nat)} {m j : Nat} {h : Int} (hj : SetTable.layClean.free mask ow (SetTable.turns mask) (SetTable.bits h % (mask + 1)) (SetTable.bits h) = some j) :
    layStep mask (some (ow, m)) h = some (ow.setIfInBounds j (some m), m + 1) := by
  unfold layStep
  simp only [Option.bind_eq_bind, Option.bind_some, hj]
  rfl
theorem lay_fold {hs : List (Int × Int)} (hk : ∀ k ∈ hs, k ∈ keys10) (hl : hs.length ≤ 32) (l : List (Int × Int)) : ∀ (m : Nat) (ow : Array (Option Nat)), LI hs m ow → m ≤ hs.length → hs.drop m = l →
    ∃ ow', (l.map hp).foldl (layStep 31) (some (ow, m)) = some (ow', hs.length) ∧ LI hs hs.length ow' := by
  induction l with
  | nil =>
    intro m ow h hle e
    have : hs.length ≤ m := List.drop_eq_nil_iff.mp e
    have hm : m = hs.length := by lia
    subst hm
    exact ⟨ow, by rw [List.map_nil, List.foldl_nil], h⟩
  | cons k l ih =>
    intro m ow h hle e
    have hm : m < hs.length := by
      apply Classical.byContradiction
      intro q
      rw [List.drop_of_length_le (by lia)] at e; cases e
    have hat : hs[m]? = some k := by
      have : (hs.drop m)[0]? = some k := by rw [e]; rfl
      simpa using this
    have e' : hs.drop (m + 1) = l := by
      rw [← List.drop_drop, e]; rfl
    obtain ⟨j, hj, h'⟩ := li_step h (by lia) (hk k (List.mem_of_getElem? hat)) hat
    obtain ⟨ow', e2, h2⟩ := ih (m + 1) _ h' (by lia) e'
    refine ⟨ow', ?_, h2⟩
    rw [List.map_cons, List.foldl_cons, layStep_some hj]
    exact e2
theorem lay_clean {hs : List (Int × Int)} (hk : ∀ k ∈ hs, k ∈ keys10) (hl : hs.length ≤ 32) :
    ∃ ow, SetTable.layClean 31 (hs.map hp).toArray = some ow ∧ LI hs hs.length ow := by
  have h0 : LI hs 0 (Array.replicate 32 none) := by
    refine ⟨by simp, fun i k hi => absurd hi (Nat.not_lt_zero _), fun j i e => ?_, fun j j' i e => ?_⟩ <;>
    · rw [Array.getElem?_replicate] at e
      split at e <;> cases e
  obtain ⟨ow, e, h⟩ := lay_fold hk hl hs 0 _ h0 (Nat.zero_le _) rfl
  refine ⟨ow, ?_, h⟩
  unfold SetTable.layClean
  rw [← Array.foldl_toList]
  show ((hs.map hp).foldl (layStep 31) (some (Array.replicate (31 + 1) none, 0))).map (·.1) = _
  rw [e]; rfl
noncomputable def live (ow : Array (Option Nat)) : List (Nat × Nat) := (List.range 32).filterMap fun j => (ow.getD j none).map (j, ·)
theorem mem_live {ow : Array (Option Nat)} (hz : ow.size = 32) {j i : Nat} : (j, i) ∈ live ow ↔ ow[j]? = some (some i) := by
  unfold live
  rw [List.mem_filterMap]
  constructor
  · rintro ⟨j', hj, e⟩
    have hj' : j' < ow.size := by rw [hz]; exact List.mem_range.mp hj
    have e1 : ow.getD j' none = ow[j'] := by simp [Array.getD, hj']
    rw [e1] at e
    cases q : ow[j'] with
    | none => rw [q] at e; cases e
    | some i' => rw [q] at e; cases e; rw [Array.getElem?_eq_getElem hj', q]
  · intro e
    obtain ⟨hj, q⟩ := Array.getElem?_eq_some_iff.mp e
    refine ⟨j, List.mem_range.mpr (by lia), ?_⟩
    have e1 : ow.getD j none = ow[j] := by simp [Array.getD, hj]
    rw [e1, q]; rfl
theorem live_rise (ow : Array (Option Nat)) : ((live ow).map (·.1)).Pairwise (· < ·) := by
  unfold live
  rw [List.pairwise_map, List.pairwise_filterMap]
  refine List.Pairwise.imp ?_ (List.pairwise_lt_range (n := 32))
  intro a b hab x hx y hy
  cases qa : ow.getD a none with
  | none => rw [qa] at hx; cases hx
  | some i =>
    cases qb : ow.getD b none with
    | none => rw [qb] at hy; cases hy
    | some i' => rw [qa] at hx; rw [qb] at hy; cases hx; cases hy; exact hab
theorem Tab.relay {t : SetTable} {α : Type} {L : List (α × (Int × Int))} (T : Tab t (L.map (·.2))) (hl : L.length ≤ 10) :
    ∃ t' L' order, t.relaid (L.map fun p => hp p.2).toArray 20 = some (t', order) ∧ L' = order.toList.filterMap (L[·]?) ∧ L'.Perm L ∧ Tab t' (L'.map (·.2)) ∧ t'.mask = 31 ∧ t'.led = t.led := by
  obtain ⟨ow, e, hz, h1, h2, h3⟩ := lay_clean T.keys (by rw [List.length_map]; lia)
  have em : (L.map fun p => hp p.2) = (L.map (·.2)).map hp := by rw [List.map_map]; rfl
  have hlen : (L.map (·.2)).length = L.length := List.length_map ..
  let lv := live ow
  have hlv : ∀ j i, (j, i) ∈ lv ↔ ow[j]? = some (some i) := fun j i => mem_live hz
  have rise := live_rise ow
  have ndo : (lv.map (·.2)).Nodup := by
    rw [List.nodup_iff_pairwise_ne, List.pairwise_map]
    refine List.Pairwise.imp_of_mem ?_ (List.pairwise_map.mp rise)
    rintro ⟨j, i⟩ ⟨j', i'⟩ ha hb hlt (q : i = i')
    subst q
    have := h3 j j' i ((hlv _ _).mp ha) ((hlv _ _).mp hb)
    dsimp only at hlt
    lia
  have permo : (lv.map (·.2)).Perm (List.range L.length) := by
    refine (List.perm_ext_iff_of_nodup ndo List.nodup_range).mpr fun i => ?_
    constructor
    · intro hi
      obtain ⟨⟨j, i'⟩, hm, rfl⟩ := List.mem_map.mp hi
      have := h2 j i' ((hlv _ _).mp hm)
      exact List.mem_range.mpr (by lia)
    · intro hi
      have hi' : i < (L.map (·.2)).length := by have := List.mem_range.mp hi; lia
      obtain ⟨j, pre, post, a1, _⟩ := h1 i _ hi' (List.getElem?_eq_getElem hi')
      exact List.mem_map.mpr ⟨(j, i), (hlv _ _).mpr a1, rfl⟩
  have hperm : ((lv.map (·.2)).filterMap (L[·]?)).Perm L := (permo.filterMap _).trans (by rw [List.filterMap_getElem?_range_length])
  have hL' : ∀ (n : Nat) j i, lv[n]? = some (j, i) → ((lv.map (·.2)).filterMap (L[·]?))[n]? = L[i]? := by
    have all : ∀ l : List (Nat × Nat), (∀ p ∈ l, p.2 < L.length) → ∀ (n : Nat) j i, l[n]? = some (j, i) → ((l.map (·.2)).filterMap (L[·]?))[n]? = L[i]? := by
      intro l
      induction l with
      | nil => intro _ n j i e; cases e
      | cons p l ih =>
        intro hb n j i e
        have hp := hb p (.head _)
        rw [List.map_cons, List.filterMap_cons, List.getElem?_eq_getElem hp]
        dsimp only
        cases n with
        | zero => cases e; simp [List.getElem?_eq_getElem hp]
        | succ n => rw [List.getElem?_cons_succ]; exact ih (fun q hq => hb q (.tail _ hq)) n j i (by simpa using e)
    exact all lv fun p hp => by have := h2 p.1 p.2 ((hlv _ _).mp hp); lia
  refine ⟨{ mask := 31, place := (lv.map (·.1)).toArray, dummies := #[], finger := t.finger, led := t.led, moves := t.movedTo 31, plain := t.plain }, (lv.map (·.2)).filterMap (L[·]?), (lv.map (·.2)).toArray, ?_, rfl, hperm, ?_, rfl, rfl⟩
  · unfold SetTable.relaid SetTable.laid
    have e32 : SetTable.sizeAbove 20 - 1 = 31 := by decide
    rw [e32, em, e]
    rfl
  · refine ⟨.inr ⟨rfl, by rw [List.length_map, hperm.length_eq]; exact hl⟩, rfl, T.plain, ?_, rise, ?_, ?_, ?_, ?_⟩
    · show ((lv.map (·.1)).toArray).size = _
      have := permo.length_eq
      rw [List.length_map, List.length_range] at this
      rw [List.size_toArray, List.length_map, List.length_map, hperm.length_eq]; exact this
    · intro j hj
      have hj' : j ∈ lv.map (·.1) := hj
      obtain ⟨⟨j', i⟩, hm, rfl⟩ := List.mem_map.mp hj'
      obtain ⟨q, _⟩ := Array.getElem?_eq_some_iff.mp ((hlv _ _).mp hm)
      show j' ≤ 31
      lia
    · intro k hk
      exact T.keys k ((hperm.map _).mem_iff.mp hk)
    · exact (hperm.map _).nodup_iff.mpr T.nd
    · intro n k j hk hj
      have hj' : (lv.map (·.1))[n]? = some j := by simpa using hj
      rw [List.getElem?_map] at hj'
      cases q : lv[n]? with
      | none => rw [q] at hj'; cases hj'
      | some p =>
        obtain ⟨j', i⟩ := p
        rw [q] at hj'
        have : j' = j := Option.some.inj hj'
        subst this
        rw [List.getElem?_map, hL' n j' i q, ← List.getElem?_map] at hk
        have hmem : (j', i) ∈ lv := List.mem_of_getElem? q
        have how := (hlv _ _).mp hmem
        obtain ⟨j2, pre, post, a1, a2, a3⟩ := h1 i k (h2 _ _ how) hk
        have := h3 _ _ _ a1 how
        subst this
        refine ⟨pre, post, a2, fun x hx => ⟨?_, (a3 x hx).2⟩⟩
        obtain ⟨i', e'⟩ := (a3 x hx).1
        show x ∈ lv.map (·.1)
        exact List.mem_map.mpr ⟨(x, i'), (hlv _ _).mpr e', rfl⟩
end
section
noncomputable def intoOf (w : List (Int × Int)) (mid : Int) : List Int := (w.filter fun p => decide (p.2 = mid)).map (·.1)
noncomputable def outOf (w : List (Int × Int)) (mid : Int) : List Int := (w.filter fun p => decide (p.1 = mid)).map (·.2)
noncomputable def extRow (w : List (Int × Int)) (low : Int) (hs : List Int) : List (Int × Int) := (hs.filter fun high => !decide ((low, high) ∈ w)).map fun high => (low, high)
noncomputable def extOf (w : List (Int × Int)) (ls hs : List Int) : List (Int × Int) := ls.flatMap fun low => extRow w low hs
noncomputable def waysStep (w : List (Int × Int)) (mid : Int) : List (Int × Int) := w ++ extOf w (intoOf w mid) (outOf w mid)
noncomputable def waysN (ps : List (Int × Int)) : Nat → List (Int × Int)
  | 0 => ps
  | i + 1 => waysStep (waysN ps i) (0 + (i : Nat))
theorem intoOf_snoc (l : List (Int × Int)) (p : Int × Int) (mid : Int) : intoOf (l ++ [p]) mid = intoOf l mid ++ if p.2 = mid then [p.1] else [] := by
  unfold intoOf
  rw [List.filter_append, List.map_append]
  by_cases h : p.2 = mid <;> simp [h]
theorem outOf_snoc (l : List (Int × Int)) (p : Int × Int) (mid : Int) : outOf (l ++ [p]) mid = outOf l mid ++ if p.1 = mid then [p.2] else [] := by
  unfold outOf
  rw [List.filter_append, List.map_append]
  by_cases h : p.1 = mid <;> simp [h]
theorem extOf_snoc (w : List (Int × Int)) (ls hs : List Int) (low : Int) : extOf w (ls ++ [low]) hs = extOf w ls hs ++ extRow w low hs := by
  unfold extOf; simp
theorem extRow_snoc (w : List (Int × Int)) (low high : Int) (hs : List Int) : extRow w low (hs ++ [high]) = extRow w low hs ++ if (low, high) ∈ w then [] else [(low, high)] := by
  unfold extRow
  rw [List.filter_append, List.map_append]
  by_cases h : (low, high) ∈ w <;> simp [h]
theorem low4_keys {p : Int × Int} (h : 0 ≤ p.1 ∧ p.1 < p.2 ∧ p.2 ≤ 4) : p ∈ keys10 := by
  obtain ⟨a, b⟩ := p
  dsimp only at h
  have ha : a = 0 ∨ a = 1 ∨ a = 2 ∨ a = 3 := by lia
  have hb : b = 1 ∨ b = 2 ∨ b = 3 ∨ b = 4 := by lia
  rcases ha with rfl | rfl | rfl | rfl <;> rcases hb with rfl | rfl | rfl | rfl <;> first | decide | lia
theorem ext_len (w : List (Int × Int)) (ls hs : List Int) : (extOf w ls hs).length ≤ ls.length * hs.length := by
  unfold extOf
  induction ls with
  | nil => simp
  | cons l ls ih =>
    rw [List.flatMap_cons, List.length_append, List.length_cons, Nat.succ_mul]
    have : (extRow w l hs).length ≤ hs.length := by unfold extRow; rw [List.length_map]; exact List.length_filter_le _ _
    lia
theorem split_len (w : List (Int × Int)) (mid : Int) (h : ∀ p ∈ w, p.1 < p.2) : (intoOf w mid).length + (outOf w mid).length ≤ w.length := by
  unfold intoOf outOf
  rw [List.length_map, List.length_map]
  induction w with
  | nil => simp
  | cons p w ih =>
    have hp := h p (.head _)
    have := ih fun q hq => h q (.tail _ hq)
    rw [List.filter_cons, List.filter_cons]
    by_cases h1 : p.2 = mid
    · have h2 : ¬ p.1 = mid := by lia
      simp only [h1, h2, decide_true, decide_false, if_true, Bool.false_eq_true, if_false, List.length_cons]
      lia
    · by_cases h2 : p.1 = mid
      · simp only [h1, h2, decide_true, decide_false, if_true, Bool.false_eq_true, if_false, List.length_cons]
        lia
      · simp only [h1, h2, decide_false, Bool.false_eq_true, if_false, List.length_cons]
        lia
noncomputable def Low4 (w : List (Int × Int)) : Prop := ∀ p ∈ w, 0 ≤ p.1 ∧ p.1 < p.2 ∧ p.2 ≤ 4
theorem mem_into {w : List (Int × Int)} {mid x : Int} : x ∈ intoOf w mid ↔ (x, mid) ∈ w := by
  unfold intoOf
  simp only [List.mem_map, List.mem_filter, decide_eq_true_eq]
  constructor
  · rintro ⟨⟨a, b⟩, ⟨h1, h2⟩, rfl⟩
    dsimp only at h2 ⊢
    rw [← h2]; exact h1
  · intro h
    exact ⟨(x, mid), ⟨h, rfl⟩, rfl⟩
theorem mem_out {w : List (Int × Int)} {mid x : Int} : x ∈ outOf w mid ↔ (mid, x) ∈ w := by
  unfold outOf
  simp only [List.mem_map, List.mem_filter, decide_eq_true_eq]
  constructor
  · rintro ⟨⟨a, b⟩, ⟨h1, h2⟩, rfl⟩
    dsimp only at h2 ⊢
    rw [← h2]; exact h1
  · intro h
    exact ⟨(mid, x), ⟨h, rfl⟩, rfl⟩
theorem mem_ext {w : List (Int × Int)} {mid : Int} {p : Int × Int} : p ∈ extOf w (intoOf w mid) (outOf w mid) ↔ (p.1, mid) ∈ w ∧ (mid, p.2) ∈ w ∧ p ∉ w := by
  unfold extOf extRow
  simp only [List.mem_flatMap, List.mem_map, List.mem_filter, mem_into, mem_out, Bool.not_eq_true', decide_eq_false_iff_not]
  constructor
  · rintro ⟨low, h1, high, ⟨h2, h3⟩, rfl⟩
    exact ⟨h1, h2, h3⟩
  · rintro ⟨h1, h2, h3⟩
    exact ⟨p.1, h1, p.2, ⟨h2, h3⟩, rfl⟩
theorem mem_step {w : List (Int × Int)} {mid : Int} {p : Int × Int} : p ∈ waysStep w mid ↔ p ∈ w ∨ ((p.1, mid) ∈ w ∧ (mid, p.2) ∈ w) := by
  unfold waysStep
  rw [List.mem_append, mem_ext]
  constructor
  · rintro (h | ⟨h1, h2, _⟩)
    · exact .inl h
    · exact .inr ⟨h1, h2⟩
  · rintro (h | ⟨h1, h2⟩)
    · exact .inl h
    · by_cases h : p ∈ w
      · exact .inl h
      · exact .inr ⟨h1, h2, h⟩
theorem Low4.step {w : List (Int × Int)} (h : Low4 w) (mid : Int) : Low4 (waysStep w mid) := by
  intro p hp
  rcases mem_step.mp hp with hp | ⟨h1, h2⟩
  · exact h p hp
  · have a := h _ h1
    have b := h _ h2
    dsimp only at a b
    lia
theorem Low4.all {ps : List (Int × Int)} (h : Low4 ps) : ∀ i, Low4 (waysN ps i)
  | 0 => h
  | i + 1 => (Low4.all h i).step _
theorem step_len {w : List (Int × Int)} (h : Low4 w) (mid : Int) {b : Nat} (hb : w.length ≤ b) : (waysStep w mid).length ≤ b + (intoOf w mid).length * (outOf w mid).length := by
  unfold waysStep
  rw [List.length_append]
  have := ext_len w (intoOf w mid) (outOf w mid)
  lia
theorem prod_le {x y b : Nat} (h : x + y ≤ b) : 4 * (x * y) ≤ b * b := by
  have e : 4 * (x * y) ≤ (x + y) * (x + y) := by
    rcases Nat.le_total x y with q | q
    · obtain ⟨d, rfl⟩ := Nat.exists_eq_add_of_le q
      have : (x + (x + d)) * (x + (x + d)) = 4 * (x * (x + d)) + d * d := by simp only [Nat.add_mul, Nat.mul_add]; have := Nat.mul_comm x d; lia
      lia
    · obtain ⟨d, rfl⟩ := Nat.exists_eq_add_of_le q
      have : (y + d + y) * (y + d + y) = 4 * ((y + d) * y) + d * d := by simp only [Nat.add_mul, Nat.mul_add]; have := Nat.mul_comm y d; lia
      lia
  exact Nat.le_trans e (Nat.mul_le_mul h h)
theorem waysN_len {ps : List (Int × Int)} (h : Low4 ps) (hl : ps.length ≤ 5) : ∀ i, i ≤ 5 → (waysN ps i).length ≤ 461 := by
  have go : ∀ i b, (waysN ps i).length ≤ b → ∀ c, b * b ≤ 4 * c + 3 → (waysN ps (i + 1)).length ≤ b + c := fun i b hb c hc => by
    have h1 := step_len (h.all i) (0 + (i : Nat)) hb
    have h2 := prod_le (split_len (waysN ps i) (0 + (i : Nat)) fun p hp => (h.all i p hp).2.1)
    have h3 := Nat.mul_le_mul hb hb
    show (waysStep (waysN ps i) (0 + (i : Nat))).length ≤ _
    lia
  have z0 : (waysN ps 0).length ≤ 5 := hl
  have into0 : intoOf (waysN ps 0) (0 + (0 : Nat)) = [] := by
    apply List.eq_nil_iff_forall_not_mem.mpr
    intro x hx
    have := h.all 0 _ (mem_into.mp hx)
    dsimp only at this; lia
  have z1 : (waysN ps 1).length ≤ 5 := by
    have := step_len (h.all 0) (0 + (0 : Nat)) z0
    rw [into0, List.length_nil, Nat.zero_mul, Nat.add_zero] at this
    exact this
  have z2 := go 1 5 z1 6 (by lia)
  have z3 := go 2 11 z2 30 (by lia)
  have z4 := go 3 41 z3 420 (by lia)
  have out4 : outOf (waysN ps 4) (0 + (4 : Nat)) = [] := by
    apply List.eq_nil_iff_forall_not_mem.mpr
    intro x hx
    have := h.all 4 _ (mem_out.mp hx)
    dsimp only at this; lia
  have z5 : (waysN ps 5).length ≤ 461 := by
    have := step_len (h.all 4) (0 + (4 : Nat)) z4
    rw [out4, List.length_nil, Nat.mul_zero, Nat.add_zero] at this
    exact this
  intro i hi
  match i, hi with
  | 0, _ => exact Nat.le_trans z0 (by decide)
  | 1, _ => exact Nat.le_trans z1 (by decide)
  | 2, _ => exact Nat.le_trans z2 (by decide)
  | 3, _ => exact Nat.le_trans z3 (by decide)
  | 4, _ => exact Nat.le_trans z4 (by decide)
  | 5, _ => exact z5
  | i + 6, hi => lia
end
local macro_rules | `(tactic| k_room) => `(tactic| ktr_room)
local macro_rules | `(tactic| k_units) => `(tactic| ktr_units)
local macro_rules | `(tactic| k_all) => `(tactic| assumption)
local macro_rules | `(tactic| walk_at "s0") => `(tactic| first | exact Mine.p0 | exact Mine.p1 | exact Mine.p2 | exact Mine.p3 | exact Mine.p4 | exact Mine.p5 | exact Mine.p6)
local macro_rules | `(tactic| walk_at "execs cons") => `(tactic| first | (k_here; k_gentoks) | (refine Mine.execs_consK ?_; intro kK kH))
local macro_rules | `(tactic| walk_at "onk") => `(tactic| ((with_reducible first | refine' Mine.OnK.next ?onk ?_ | refine' Mine.OnK.ret ?onk ?_ | refine' Mine.OnK.brk ?onk ?_ | refine' Mine.OnK.cont ?onk ?_); (case onk => assumption); (try clear kH kK); (try dsimp only)))
local macro_rules | `(tactic| k_ne) => `(tactic| (refine neN ?_; (try dsimp only); first | with_reducible assumption | exact Ne.symm (by with_reducible assumption) | exact Nat.ne_of_lt (by with_reducible assumption) | exact Nat.ne_of_gt (by with_reducible assumption) | with_reducible first | exact Mine.ne_s1 | exact Mine.ne_s2 | exact Mine.ne_s3 | exact Mine.ne_s4 | lia))
local macro_rules | `(tactic| walk_at "memA") => `(tactic| first | with_reducible exact List.mem_cons_self | exact List.mem_cons_self | (with_reducible assumption) | ((with_reducible first | refine List.mem_cons_of_mem _ ?_ | refine Mine.mem_inl ?_); walk_at "memA") | ((with_reducible refine Mine.mem_inr ?_); walk_at "memA"))
local macro_rules | `(tactic| walk_at "ledT") => `(tactic| with_reducible first | exact Mine.sub_refl | ((first | refine Mine.sub_wk ?_ | refine Mine.sub_inl ?_); walk_at "ledT") | (refine Mine.sub_inr ?_; walk_at "ledT"))
local macro_rules | `(tactic| walk_at "led") => `(tactic| first | exact Mine.sub_nil | ((with_reducible refine' Mine.sub_cons ?_ ?_); (focus walk_at "memA"); walk_at "led") | ((with_reducible refine' Mine.sub_app ?_ ?_); (focus walk_at "led"); walk_at "led") | walk_at "ledT")
local macro_rules | `(tactic| walk_at "evL") => `(tactic| (k_here; k_dflt (refine' ld ?zk1 ?zk2 ?_; (case zk1 => k_asm); (case zk2 => assumption); k_whole)))
local macro_rules | `(tactic| walk_at "evE") => `(tactic| (k_here; k_dflt (refine' ldE ?zk1 ?zk2 ?_; (case zk1 => k_asm); (case zk2 => assumption); k_whole)))
local macro_rules | `(tactic| walk_at "mem") => `(tactic| (repeat (first | exact List.Mem.head _ | assumption | refine List.Mem.tail _ ?_)))
local macro_rules | `(tactic| walk_at "own") => `(tactic| (k_here; (with_reducible show wpAny _ _ (eval (Expr.Name _ _) (compEnvC _ _ _ _)) _ _ _); k_dflt (first
  | (refine' ld_own ?zN ?zM ?zC ?zV ?za ?zb ?zd ?_; (case za | zb => exact rfl); (case zd => decide); (case zN => assumption); (case zM => walk_at "mem"); (case zC | zV => assumption))
  | (refine' ld_free ?zN ?za ?zb ?zM ?zD ?zk ?zd ?zn ?_; (case za | zb | zk => exact rfl); (case zd | zn => decide); (case zN => assumption); (case zM => walk_at "mem"); (case zD => assumption))
  | (refine' ld_cell ?zN ?za ?zb ?zM ?zD ?zk ?zd ?_; (case za | zb | zk => exact rfl); (case zd => decide); (case zN => assumption); (case zM => walk_at "mem"); (case zD => assumption)))))
section
set_option maxHeartbeats 8000000
theorem fillOne (w : World) (h₀ : Heap) : (Mine.hd.heap_1 w.params).In h₀ → PySem.Challenge.rw_oc0174_01 = PySem.Challenge.rw_oc0174_01 := by
  k_fill
  intro _
  rfl
end
section
set_option maxHeartbeats 8000000
noncomputable abbrev sEs (w : World) (n2i rd po nf : Value) (t1 t2 t3 t4 : Tok) : List DictEntry :=
  [⟨PyData.keyHash w.params (Str.ofString "_node2info"), .str (Str.ofString "_node2info") t1, n2i⟩, ⟨PyData.keyHash w.params (Str.ofString "_ready_nodes"), .str (Str.ofString "_ready_nodes") t2, rd⟩,
   ⟨PyData.keyHash w.params (Str.ofString "_npassedout"), .str (Str.ofString "_npassedout") t3, po⟩, ⟨PyData.keyHash w.params (Str.ofString "_nfinished"), .str (Str.ofString "_nfinished") t4, nf⟩]
theorem gn_old {w : World} {dp un : Nat} {gd : Option (List Code)} {cn : Str} {cs : Scope} {a : Addr} {ccd : Value} {cl : List (Str × Addr)} {outer : List Env} {A₀ : Around} {base h₀ : Heap} {L : Addr} {m mg mb : Str → Option Value} {mean : ExcName → Option Value} {s : Shared} {Q E : Value → Shared → Prop} {x dx d : Addr} {od : Obj} {t1 t2 t3 t4 : Tok} {rd po nf : Value} {rest : List (Addr × Obj)} {kvs : List (Int × Value)} {k : Int} {tk : Tok} {v : Addr}
    (B : Below A₀ base outer h₀) (F : Fr h₀ L s.heap m) (X : (Mine.hd.heap_1 w.params).In h₀) (T : TP mean mg mb h₀) (hk : cs.kind = .function) (hd : dp + 4 < recursionLimit) (hu : un + 32 < cLine)
    (N : News h₀ L s.heap ((x, instObj 151 dx) :: (dx, dictOf (sEs w (.ref d) rd po nf t1 t2 t3 t4) 4) :: (d, od) :: rest)) (hdm : (d == sysModules) = false)
    (D : od.IsDictOf (intKind PG w) kvs) (hv : valueAt kvs k = some (.ref v))
    (ret : ∀ h' tk', Fr h₀ L h' m → News h₀ L h' ((x, instObj 151 dx) :: (dx, dictOf (sEs w (.ref d) rd po nf t1 t2 t3 t4) 4) :: (d, od) :: rest) → Q (.ref v) { s with heap := h', toks := tk' }) :
    wpAny (model PG w) (ktrTop dp un gd cn cs L a ccd cl outer) (call (.ref 94) [.ref x, .int k tk]) Q E s := by
  refine wpAny_call ?_
  k_dflt ktr_enter
  (repeat' (first | (k_unfold; (try dsimp only)) | (k_end; kc_close) | walk1 | (dsimp only; walk1) | (leave1; walk_say "STEP leave1"; (try dsimp only)) | walk_at "onk" | fail "no step"))
  refine' kdg_get1 (kvs := kvs) (k := k) (knd := intKind PG w) ?n1 ?n2 D ?n3 ?n4 (some (.ref v)) hv ?_
  (case n1 => k_asm)
  (case n2 => exact .tail _ (.tail _ (.head _)))
  (case n3 => exact hdm)
  (case n4 => simp [intKind, Value.isInt])
  dsimp only [Option.getD]
  (repeat' (first | (k_unfold; (try dsimp only)) | (k_end; kc_close) | walk1 | (dsimp only; walk1) | (leave1; walk_say "STEP leave1"; (try dsimp only)) | walk_at "onk" | fail "no step"))
  exact ret _ _ (by k_asm) (by k_asm)
theorem gn_new {w : World} {dp un : Nat} {gd : Option (List Code)} {cn : Str} {cs : Scope} {a : Addr} {ccd : Value} {cl : List (Str × Addr)} {outer : List Env} {A₀ : Around} {base h₀ : Heap} {L : Addr} {m mg mb : Str → Option Value} {mean : ExcName → Option Value} {s : Shared} {Q E : Value → Shared → Prop} {x dx d : Addr} {od : Obj} {t1 t2 t3 t4 : Tok} {rd po nf : Value} {rest : List (Addr × Obj)} {kvs : List (Int × Value)} {k : Int} {tk : Tok}
    (B : Below A₀ base outer h₀) (F : Fr h₀ L s.heap m) (X : (Mine.hd.heap_1 w.params).In h₀) (T : TP mean mg mb h₀) (hk : cs.kind = .function) (hd : dp + 4 < recursionLimit) (hu : un + 32 < cLine)
    (N : News h₀ L s.heap ((x, instObj 151 dx) :: (dx, dictOf (sEs w (.ref d) rd po nf t1 t2 t3 t4) 4) :: (d, od) :: rest)) (hdm : (d == sysModules) = false)
    (D : od.IsDictOf (intKind PG w) kvs) (hv : valueAt kvs k = none) (hrest : ∀ p ∈ rest, p.1 ≠ x ∧ p.1 ≠ dx ∧ p.1 ≠ d) (h1 : x ≠ d) (h2 : dx ≠ d) (hlen : kvs.length ≤ 1000)
    (ret : ∀ h' tk' od' n dn sn tp, Fr h₀ L h' m → News h₀ L h' ([(sn, listOf #[] 0), (n, nodeO dn sn (.int k tk) (.int 0 tp)), (dn, dictOf [] 0), (x, instObj 151 dx), (dx, dictOf (sEs w (.ref d) rd po nf t1 t2 t3 t4) 4), (d, od')] ++ rest) →
      od'.IsDictOf (intKind PG w) (kvs ++ [(k, .ref n)]) → (∀ p ∈ rest, p.1 ≠ n ∧ p.1 ≠ dn ∧ p.1 ≠ sn) → (@LT.lt Nat _ x dn ∧ @LT.lt Nat _ dx dn ∧ @LT.lt Nat _ d dn ∧ @LT.lt Nat _ dn n ∧ @LT.lt Nat _ n sn) → Q (.ref n) { s with heap := h', toks := tk' }) :
    wpAny (model PG w) (ktrTop dp un gd cn cs L a ccd cl outer) (call (.ref 94) [.ref x, .int k tk]) Q E s := by
  refine wpAny_call ?_
  have N0 : News h₀ L s.heap [(x, instObj 151 dx), (dx, dictOf (sEs w (.ref d) rd po nf t1 t2 t3 t4) 4), (d, od)] := fun p hp => N p (by simp only [List.mem_cons, List.not_mem_nil, or_false] at hp ⊢; rcases hp with h | h | h <;> simp [h])
  k_dflt (refine' code_defG ?k1 ?k2 ?k3 ?k4 ?k5 ?kA ?kF ?kK ?k6 ?k7 ?k8 ?k9 ?kB ?_ ?c2 ?c3 ?c4 ?c5; (case kA => exact rfl); (case kF => exact rfl); (case kK => assumption); (case k1 => k_asm); (case k2 => k_asm); (case k3 => k_asm); (case k4 => exact N0); (case k5 => k_asm); (case k6 => k_is); (case k7 => k_is); (case k8 => ktr_room); (case k9 => exact BindsTo.of_eq rfl); (case c5 => decide); (case kB => exact locs rfl); (case c2 => exact rfl); (case c3 => exact rfl); (case c4 => exact rfl); k_whole; intro g' L' h' FG' F' N' B' X' T' kG'; (try dsimp only); (try k_fold))
  have hR : ∀ p ∈ rest, g'.get? p.1 = some p.2 := fun p hp => kG' _ _ (N p (.tail _ (.tail _ (.tail _ hp)))).1 (by simpa [eq_comm] using hrest p hp)
  (repeat' (first | (k_unfold; (try dsimp only)) | (k_end; kc_close) | walk1 | (dsimp only; walk1) | (leave1; walk_say "STEP leave1"; (try dsimp only)) | walk_at "onk" | fail "no step"))
  refine' kdg_get1 (kvs := kvs) (k := k) (knd := intKind PG w) ?n1 ?n2 D ?n3 ?n4 none hv ?_
  (case n1 => k_asm)
  (case n2 => exact .tail _ (.tail _ (.head _)))
  (case n3 => exact hdm)
  (case n4 => simp [intKind, Value.isInt])
  dsimp only [Option.getD]
  (repeat' (first | (k_unfold; (try dsimp only)) | (k_end; kc_close) | walk1 | (dsimp only; walk1) | (leave1; walk_say "STEP leave1"; (try dsimp only)) | walk_at "onk" | fail "no step"))
  refine' kda_set (kvs := kvs) (k := k) (knd := intKind PG w) ?n1 ?n2 ?n3 D ?n4 ?n5 ?_
  (case n1 => k_asm)
  (case n2 => k_asm)
  (case n3 => k_updF)
  (case n4 => simp [intKind, Value.isInt])
  (case n5 => rw [sizeLine_eq]; lia)
  intro h9 o9 F9 N9 D9
  (repeat' (first | (k_unfold; (try dsimp only)) | (k_end; kc_close) | walk1 | (dsimp only; walk1) | (leave1; walk_say "STEP leave1"; (try dsimp only)) | walk_at "onk" | fail "no step"))
  rename News h₀ L _ _ => kN
  rename Fr g' L' _ _ => F2
  rename News g' L' _ _ => N2
  refine ret _ _ o9 _ _ _ _ (by k_asm) (news_join kN F2 hR fun p hp => (N p (.tail _ (.tail _ (.tail _ hp)))).2) (stored_new hv ▸ D9) (fun p hp => ⟨rest_ne N2 hR (.tail _ (.head _)) p hp, rest_ne N2 hR (.tail _ (.tail _ (.head _))) p hp, rest_ne N2 hR (.head _) p hp⟩) ?_
  lia
end
section
set_option maxHeartbeats 8000000
noncomputable def upd {α : Type} (f : Int → α) (k : Int) (v : α) : Int → α := fun j => if j = k then v else f j
theorem upd_self {α : Type} (f : Int → α) (k : Int) (v : α) : upd f k v k = v := if_pos rfl
theorem upd_ne {α : Type} (f : Int → α) {k j : Int} (v : α) (h : j ≠ k) : upd f k v j = f j := if_neg h
theorem IntsAre.snoc {vs : List Value} {ns : List Int} (h : IntsAre vs ns) (n : Int) (t : Tok) : IntsAre (vs ++ [.int n t]) (ns ++ [n]) := by
  induction h with
  | nil => exact .cons n t .nil
  | cons a b _ ih => exact .cons a b ih
section
variable {w : World} {A : Around} {h₀ : Heap} {L : Addr} {m : Str → Option Value} {s : Shared} {E : Value → Shared → Prop} {nA dA sA : Int → Addr} {keys : List Int} {np : Int → Int} {succ : Int → List Int} {fr srt : List (Addr × Obj)} {k : Int}
theorem same_entry {l : List (Addr × Obj)} (nd : (l.map (·.1)).Nodup) {b : Addr} {o o' : Obj} (h : (b, o) ∈ l) (h' : (b, o') ∈ l) : o = o' := by
  induction l with
  | nil => exact absurd h (List.not_mem_nil)
  | cons p r ih =>
    have nd' := nd
    rw [List.map_cons, List.nodup_cons] at nd'
    have no : ∀ q : Obj, (b, q) ∈ r → p.1 ≠ b := fun q hq z => nd'.1 (by rw [z]; exact List.mem_map.mpr ⟨(b, q), hq, rfl⟩)
    rcases List.mem_cons.mp h with e | h
    · rcases List.mem_cons.mp h' with e' | h'
      · exact congrArg Prod.snd (e.trans e'.symm)
      · exact absurd (congrArg Prod.fst e).symm (no o' h')
    · rcases List.mem_cons.mp h' with e' | h'
      · exact absurd (congrArg Prod.fst e').symm (no o h)
      · exact ih nd'.2 h h'
theorem Nodes.nA_inj (Nd : Nodes nA dA sA keys np succ srt) {j : Int} (hj : j ∈ keys) (hk : k ∈ keys) (e : nA j = nA k) : j = k := by
  obtain ⟨t1, t2, h1⟩ := Nd.node j hj
  obtain ⟨t3, t4, h2⟩ := Nd.node k hk
  rw [e] at h1
  have e1 := congrArg (fun o : Obj => o.slots.toList.head?) (same_entry Nd.nd h1 h2)
  have e2 : some (some (Value.int j t1)) = some (some (Value.int k t3)) := e1
  injection e2 with e3
  injection e3 with e4
  injection e4
theorem Nodes.nA_dA (Nd : Nodes nA dA sA keys np succ srt) {j : Int} (hj : j ∈ keys) (hk : k ∈ keys) : nA j ≠ dA k := fun e => by
  obtain ⟨t1, t2, h1⟩ := Nd.node j hj
  have h2 := Nd.dict k hk
  rw [e] at h1
  have e1 := congrArg Obj.cls (same_entry Nd.nd h1 h2)
  exact nomatch e1
theorem Nodes.nA_sA (Nd : Nodes nA dA sA keys np succ srt) {j : Int} (hj : j ∈ keys) (hk : k ∈ keys) : nA j ≠ sA k := fun e => by
  obtain ⟨t1, t2, h1⟩ := Nd.node j hj
  obtain ⟨sv, n, _, h2⟩ := Nd.list k hk
  rw [e] at h1
  have e1 := congrArg Obj.cls (same_entry Nd.nd h1 h2)
  exact nomatch e1
theorem Nodes.dA_sA (Nd : Nodes nA dA sA keys np succ srt) {j : Int} (hj : j ∈ keys) (hk : k ∈ keys) : dA j ≠ sA k := fun e => by
  have h1 := Nd.dict j hj
  obtain ⟨sv, n, _, h2⟩ := Nd.list k hk
  rw [e] at h1
  have e1 := congrArg Obj.cls (same_entry Nd.nd h1 h2)
  have e2 : Value.type "dict" = Value.type "list" := e1
  exact absurd e2 (by decide)
theorem np_get {expr : Bool} {Q : Value → Shared → Prop} (F : Fr h₀ L s.heap m) (X : (Mine.hd.heap_1 w.params).In h₀) (N : News h₀ L s.heap (fr ++ srt)) (Nd : Nodes nA dA sA keys np succ srt) (hk : k ∈ keys)
    (h : ∀ t, Q (.int (np k) t) { s with toks := s.toks + 1 }) : wpAny (model PG w) A (getAttr (.ref (nA k)) (Str.ofString "npredecessors") expr) Q E s := by
  obtain ⟨tk, tp, hm⟩ := Nd.node k hk
  have hm' := List.mem_append_right fr hm
  have hd' := List.mem_append_right fr (Nd.dict k hk)
  k_dflt (refine' get_slot ?k1 ?k2 ?k3 ?k4 ?k5 ?k6 ?k7 ?k8 ?k9 ?k10 ?k11 ?_; (case k1 => k_asm); (case k2 => k_asm); (case k3 => exact InstAt.of_news N hm' hd'); (case k4 => k_is); (case k5 => k_is); (case k6 => k_is); (case k7 => k_is); (case k8 => k_is); (case k9 => k_is); (case k10 => exact rfl); (case k11 => k_handed); exact h _)
theorem succ_get {expr : Bool} {Q : Value → Shared → Prop} (F : Fr h₀ L s.heap m) (X : (Mine.hd.heap_1 w.params).In h₀) (N : News h₀ L s.heap (fr ++ srt)) (Nd : Nodes nA dA sA keys np succ srt) (hk : k ∈ keys)
    (h : Q (.ref (sA k)) { s with toks := s.toks + 1 }) : wpAny (model PG w) A (getAttr (.ref (nA k)) (Str.ofString "successors") expr) Q E s := by
  obtain ⟨tk, tp, hm⟩ := Nd.node k hk
  have hm' := List.mem_append_right fr hm
  have hd' := List.mem_append_right fr (Nd.dict k hk)
  k_dflt (refine' get_slot ?k1 ?k2 ?k3 ?k4 ?k5 ?k6 ?k7 ?k8 ?k9 ?k10 ?k11 ?_; (case k1 => k_asm); (case k2 => k_asm); (case k3 => exact InstAt.of_news N hm' hd'); (case k4 => k_is); (case k5 => k_is); (case k6 => k_is); (case k7 => k_is); (case k8 => k_is); (case k9 => k_is); (case k10 => exact rfl); (case k11 => k_handed); exact h)
theorem Nodes.setNp (Nd : Nodes nA dA sA keys np succ srt) (hk : k ∈ keys) {tk : Tok} {v : Int} {t : Tok} {tp : Tok} (hm : (nA k, nodeO (dA k) (sA k) (.int k tk) (.int (np k) tp)) ∈ srt) : Nodes nA dA sA keys (upd np k v) succ (setAt (nA k) (nodeO (dA k) (sA k) (.int k tk) (.int v t)) srt) where
  nd := by rw [setAt_keys]; exact Nd.nd
  node := fun j hj => by
    by_cases e : j = k
    · subst e; exact ⟨tk, t, by rw [upd_self]; exact mem_setAt_self hm⟩
    · obtain ⟨t1, t2, h1⟩ := Nd.node j hj
      exact ⟨t1, t2, by rw [upd_ne _ _ e]; exact mem_setAt_ne (fun q => e (Nd.nA_inj hj hk q)) h1⟩
  dict := fun j hj => mem_setAt_ne (Ne.symm (Nd.nA_dA hk hj)) (Nd.dict j hj)
  list := fun j hj => by
    obtain ⟨sv, n, hi, h1⟩ := Nd.list j hj
    exact ⟨sv, n, hi, mem_setAt_ne (Ne.symm (Nd.nA_sA hk hj)) h1⟩
  inj := Nd.inj
theorem np_set {Q : Unit → Shared → Prop} {v : Int} {t : Tok} (F : Fr h₀ L s.heap m) (X : (Mine.hd.heap_1 w.params).In h₀) (N : News h₀ L s.heap (fr ++ srt)) (Nd : Nodes nA dA sA keys np succ srt) (hk : k ∈ keys) (hfr : ∀ p ∈ fr, ∀ q ∈ srt, p.1 ≠ q.1)
    (h : ∀ h' srt', Fr h₀ L h' m → News h₀ L h' (fr ++ srt') → Nodes nA dA sA keys (upd np k v) succ srt' → srt'.map (·.1) = srt.map (·.1) → (∀ p ∈ srt, p.1 ≠ nA k → p ∈ srt') → Q () { s with heap := h', toks := s.toks + 1 }) :
    wpAny (model PG w) A (setAttr (.ref (nA k)) (Str.ofString "npredecessors") (.int v t)) Q E s := by
  obtain ⟨tk, tp, hm⟩ := Nd.node k hk
  have hm' := List.mem_append_right fr hm
  have hd' := List.mem_append_right fr (Nd.dict k hk)
  have U := updF_app (updF_setAt Nd.nd hm) (fun p hp => hfr p hp _ hm)
  k_dflt (refine' set_slot ?k1 ?k2 ?k3 ?k4 ?k5 ?k6 ?k7 ?k8 ?k9 ?k10 ?k11 ?k12 ?k13 ?_; (case k1 => k_asm); (case k2 => k_asm); (case k3 => k_asm); (case k4 => exact InstAt.of_news N hm' hd'); (case k5 => k_is); (case k6 => k_is); (case k7 => k_is); (case k8 => k_is); (case k9 => k_is); (case k10 => decide); (case k11 => exact rfl); (case k12 => exact rfl); (case k13 => exact upd_of_updF _ U))
  intro h' F' N'
  exact h h' _ F' N' (Nd.setNp hk hm) (setAt_keys _ _ _) fun p hp hne => mem_setAt_ne hne hp
theorem Nodes.pushSucc (Nd : Nodes nA dA sA keys np succ srt) (hk : k ∈ keys) {v : Int} {t : Tok} {sv : List Value} {n n' : Nat} (hi : IntsAre sv (succ k)) (hm : (sA k, listOf sv.toArray n) ∈ srt) :
    Nodes nA dA sA keys np (upd succ k (succ k ++ [v])) (setAt (sA k) (listOf (sv.toArray.push (.int v t)) n') srt) where
  nd := by rw [setAt_keys]; exact Nd.nd
  node := fun j hj => by
    obtain ⟨t1, t2, h1⟩ := Nd.node j hj
    exact ⟨t1, t2, mem_setAt_ne (Nd.nA_sA hj hk) h1⟩
  dict := fun j hj => mem_setAt_ne (Nd.dA_sA hj hk) (Nd.dict j hj)
  list := fun j hj => by
    by_cases e : j = k
    · subst e
      exact ⟨sv ++ [.int v t], n', by rw [upd_self]; exact IntsAre.snoc hi v t, by have := mem_setAt_self (o' := listOf (sv.toArray.push (.int v t)) n') hm; simpa using this⟩
    · obtain ⟨sv', n₂, hi', h1⟩ := Nd.list j hj
      exact ⟨sv', n₂, by rw [upd_ne _ _ e]; exact hi', mem_setAt_ne (fun q => e (Nd.inj j hj k hk q)) h1⟩
  inj := Nd.inj
theorem succ_push {Q : Value → Shared → Prop} {v : Int} {t : Tok} (F : Fr h₀ L s.heap m) (N : News h₀ L s.heap (fr ++ srt)) (Nd : Nodes nA dA sA keys np succ srt) (hk : k ∈ keys) (hfr : ∀ p ∈ fr, ∀ q ∈ srt, p.1 ≠ q.1) (hsz : (succ k).length ≤ 1000)
    (h : ∀ h' srt', Fr h₀ L h' m → News h₀ L h' (fr ++ srt') → Nodes nA dA sA keys np (upd succ k (succ k ++ [v])) srt' → srt'.map (·.1) = srt.map (·.1) → Q .none { s with heap := h' }) :
    wpAny (model PG w) A (call (.builtin "list.append") [.ref (sA k), .int v t]) Q E s := by
  obtain ⟨sv, n, hi, hm⟩ := Nd.list k hk
  have U := updF_app (updF_setAt Nd.nd hm) (fun p hp => hfr p hp _ hm)
  refine append_K F N (upd_of_updF _ U) (fun h' F' N' => h h' _ F' N' (Nd.pushSucc hk hi hm) (setAt_keys _ _ _)) ?_
  rw [List.size_toArray, hi.length, sizeLine_eq]; lia
theorem fr_srt {srt' : List (Addr × Obj)} (hfr : ∀ p ∈ fr, ∀ q ∈ srt, p.1 ≠ q.1) (e : srt'.map (·.1) = srt.map (·.1)) : ∀ p ∈ fr, ∀ q ∈ srt', p.1 ≠ q.1 := fun p hp q hq z => by
  have : q.1 ∈ srt.map (·.1) := by rw [← e]; exact List.mem_map_of_mem hq
  obtain ⟨q', hq', e'⟩ := List.mem_map.mp this
  exact hfr p hp q' hq' (by rw [z]; exact e'.symm)
theorem tail_srt {srt' : List (Addr × Obj)} {b : Addr} (h : ∀ q ∈ srt, q.1 ≠ b) (e : srt'.map (·.1) = srt.map (·.1)) : ∀ q ∈ srt', q.1 ≠ b := fun q hq z => by
  have : q.1 ∈ srt.map (·.1) := by rw [← e]; exact List.mem_map_of_mem hq
  obtain ⟨q', hq', e'⟩ := List.mem_map.mp this
  exact h q' hq' (by rw [e']; exact z)
end
end
section
set_option maxHeartbeats 8000000
noncomputable def touch (keys : List Int) (k : Int) : List Int := if k ∈ keys then keys else keys ++ [k]
theorem touch_mem (keys : List Int) (k : Int) : k ∈ touch keys k := by
  unfold touch; split
  · assumption
  · simp
theorem touch_sub {keys : List Int} {j : Int} (k : Int) (h : j ∈ keys) : j ∈ touch keys k := by
  unfold touch; split
  · exact h
  · simp [h]
theorem touch_of {keys : List Int} {k : Int} (h : k ∈ keys) : touch keys k = keys := if_pos h
theorem touch_len (keys : List Int) (k : Int) : (touch keys k).length ≤ keys.length + 1 := by
  unfold touch; split <;> simp
noncomputable abbrev kvsOf (keys : List Int) (nA : Int → Addr) : List (Int × Value) := keys.map fun k => (k, Value.ref (nA k))
theorem kvs_some {nA : Int → Addr} {k : Int} : ∀ {keys : List Int}, k ∈ keys → valueAt (kvsOf keys nA) k = some (.ref (nA k))
  | j :: r, h => by
    unfold valueAt
    by_cases e : j = k
    · subst e; simp [kvsOf]
    · have h' : k ∈ r := by rcases List.mem_cons.mp h with q | q
                            · exact absurd q.symm e
                            · exact q
      have := kvs_some (nA := nA) h'
      unfold valueAt at this
      simp only [kvsOf, List.map_cons, List.find?_cons, decide_eq_false e] at this ⊢
      exact this
theorem kvs_none {nA : Int → Addr} {k : Int} {keys : List Int} (h : k ∉ keys) : valueAt (kvsOf keys nA) k = none := by
  unfold valueAt
  rw [Option.map_eq_none_iff, List.find?_eq_none]
  intro p hp q
  obtain ⟨j, hj, rfl⟩ := List.mem_map.mp hp
  have q' : j = k := by simpa using q
  exact h (q' ▸ hj)
theorem kvs_upd {nA : Int → Addr} {k : Int} {n : Addr} {keys : List Int} (h : k ∉ keys) : kvsOf (keys ++ [k]) (upd nA k n) = kvsOf keys nA ++ [(k, .ref n)] := by
  simp only [kvsOf, List.map_append, List.map_cons, List.map_nil, upd_self]
  congr 1
  refine List.map_congr_left fun j hj => ?_
  rw [upd_ne _ _ (fun e : j = k => h (by rw [← e]; exact hj))]
structure Apart (x dx d : Addr) (rest srt : List (Addr × Obj)) : Prop where
  xdx : @Ne Nat x dx
  xd : @Ne Nat x d
  dxd : @Ne Nat dx d
  tl : ∀ p ∈ rest ++ srt, p.1 ≠ x ∧ p.1 ≠ dx ∧ p.1 ≠ d
  rs : ∀ p ∈ rest, ∀ q ∈ srt, p.1 ≠ q.1
theorem Apart.of_keys {x dx d : Addr} {rest srt srt' : List (Addr × Obj)} (P : Apart x dx d rest srt) (e : srt'.map (·.1) = srt.map (·.1)) : Apart x dx d rest srt' := by
  refine ⟨P.xdx, P.xd, P.dxd, fun p hp => ?_, fr_srt P.rs e⟩
  rcases List.mem_append.mp hp with h | h
  · exact P.tl p (List.mem_append_left _ h)
  · have : p.1 ∈ srt.map (·.1) := by rw [← e]; exact List.mem_map_of_mem h
    obtain ⟨q, hq, e'⟩ := List.mem_map.mp this
    have := P.tl q (List.mem_append_right _ hq)
    rw [e'] at this; exact this
theorem Apart.cons {x dx d D : Addr} {o : Obj} {rest srt : List (Addr × Obj)} (P : Apart x dx d rest srt) (h1 : D ≠ x) (h2 : D ≠ dx) (h3 : D ≠ d) (h4 : ∀ q ∈ srt, D ≠ q.1) : Apart x dx d ((D, o) :: rest) srt := by
  refine ⟨P.xdx, P.xd, P.dxd, fun p hp => ?_, fun p hp q hq => ?_⟩
  · rcases List.mem_cons.mp hp with h | h
    · subst h; exact ⟨h1, h2, h3⟩
    · exact P.tl p h
  · rcases List.mem_cons.mp hp with h | h
    · subst h; exact h4 q hq
    · exact P.rs p h q hq
theorem Apart.app {x dx d : Addr} {own rest srt : List (Addr × Obj)} (P : Apart x dx d rest srt) (h1 : ∀ p ∈ own, p.1 ≠ x ∧ p.1 ≠ dx ∧ p.1 ≠ d) (h4 : ∀ p ∈ own, ∀ q ∈ srt, p.1 ≠ q.1) : Apart x dx d (own ++ rest) srt := by
  refine ⟨P.xdx, P.xd, P.dxd, fun p hp => ?_, fun p hp q hq => ?_⟩
  · rw [List.append_assoc] at hp
    rcases List.mem_append.mp hp with h | h
    · exact h1 p h
    · exact P.tl p h
  · rcases List.mem_append.mp hp with h | h
    · exact h4 p h q hq
    · exact P.rs p h q hq
theorem Apart.drop {x dx d : Addr} {own rest srt : List (Addr × Obj)} (P : Apart x dx d (own ++ rest) srt) : Apart x dx d rest srt :=
  ⟨P.xdx, P.xd, P.dxd, fun p hp => P.tl p (by rw [List.append_assoc]; exact List.mem_append_right _ hp), fun p hp q hq => P.rs p (List.mem_append_right _ hp) q hq⟩
theorem Apart.front {x dx d : Addr} {o1 o2 o3 : Obj} {rest srt : List (Addr × Obj)} (P : Apart x dx d rest srt) : ∀ p ∈ (x, o1) :: (dx, o2) :: (d, o3) :: rest, ∀ q ∈ srt, p.1 ≠ q.1 := fun p hp q hq => by
  have h1 := P.tl q (List.mem_append_right _ hq)
  simp only [List.mem_cons] at hp
  rcases hp with h | h | h | h
  · subst h; exact Ne.symm h1.1
  · subst h; exact Ne.symm h1.2.1
  · subst h; exact Ne.symm h1.2.2
  · exact P.rs p h q hq
theorem Apart.headD {x dx d D : Addr} {o o1 o2 o3 : Obj} {rest srt : List (Addr × Obj)} (P : Apart x dx d ((D, o) :: rest) srt) (hr : ∀ p ∈ rest, p.1 ≠ D) : ∀ p ∈ (x, o1) :: (dx, o2) :: (d, o3) :: (rest ++ srt), D ≠ p.1 := fun p hp => by
  have h1 := P.tl (D, o) (.head _)
  simp only [List.mem_cons, List.mem_append] at hp
  rcases hp with h | h | h | h | h
  · subst h; exact h1.1
  · subst h; exact h1.2.1
  · subst h; exact h1.2.2
  · exact Ne.symm (hr p h)
  · exact P.rs _ (.head _) p h
theorem start2 {f : Str → Option Value} {a b : Str} (ha : f a = none) (hb : f b = none) : f = fun y => if y = a then none else if y = b then none else f y := by
  funext y
  by_cases h1 : y = a
  · rw [if_pos h1, h1, ha]
  · rw [if_neg h1]
    by_cases h2 : y = b
    · rw [if_pos h2, h2, hb]
    · rw [if_neg h2]
theorem again2 {f : Str → Option Value} {a b : Str} {u v u' v' : Option Value} : (fun y => if y = a then u' else if y = b then v' else if y = a then u else if y = b then v else f y) = fun y => if y = a then u' else if y = b then v' else f y := by
  funext y
  by_cases h1 : y = a
  · simp [h1]
  · by_cases h2 : y = b
    · simp [h2]
    · simp [h1, h2]
theorem gnT {w : World} {dp un : Nat} {gd : Option (List Code)} {cn : Str} {cs : Scope} {a : Addr} {ccd : Value} {cl : List (Str × Addr)} {outer : List Env} {A₀ : Around} {base h₀ : Heap} {L : Addr} {m mg mb : Str → Option Value} {mean : ExcName → Option Value} {s : Shared} {Q E : Value → Shared → Prop} {x dx d : Addr} {od : Obj} {t1 t2 t3 t4 : Tok} {rd po nf : Value} {rest srt : List (Addr × Obj)} {nA dA sA : Int → Addr} {keys : List Int} {np : Int → Int} {succ : Int → List Int} {k : Int} {tk : Tok}
    (B : Below A₀ base outer h₀) (F : Fr h₀ L s.heap m) (X : (Mine.hd.heap_1 w.params).In h₀) (T : TP mean mg mb h₀) (hk : cs.kind = .function) (hd : dp + 4 < recursionLimit) (hu : un + 32 < cLine)
    (N : News h₀ L s.heap ((x, instObj 151 dx) :: (dx, dictOf (sEs w (.ref d) rd po nf t1 t2 t3 t4) 4) :: (d, od) :: (rest ++ srt))) (hdm : (d == sysModules) = false)
    (D : od.IsDictOf (intKind PG w) (kvsOf keys nA)) (Nd : Nodes nA dA sA keys np succ srt) (P : Apart x dx d rest srt) (h0 : k ∉ keys → np k = 0 ∧ succ k = []) (hlen : keys.length ≤ 1000)
    (ret : ∀ h' tk' od' nA' dA' sA' srt', Fr h₀ L h' m → News h₀ L h' ((x, instObj 151 dx) :: (dx, dictOf (sEs w (.ref d) rd po nf t1 t2 t3 t4) 4) :: (d, od') :: (rest ++ srt')) →
      od'.IsDictOf (intKind PG w) (kvsOf (touch keys k) nA') → Nodes nA' dA' sA' (touch keys k) np succ srt' → Apart x dx d rest srt' → Q (.ref (nA' k)) { s with heap := h', toks := tk' }) :
    wpAny (model PG w) (ktrTop dp un gd cn cs L a ccd cl outer) (call (.ref 94) [.ref x, .int k tk]) Q E s := by
  by_cases hk' : k ∈ keys
  · refine gn_old B F X T hk hd hu N hdm D (kvs_some hk') fun h' tk' F' N' => ?_
    refine ret h' tk' od nA dA sA srt F' N' ?_ ?_ P <;> rw [touch_of hk'] <;> assumption
  · refine gn_new B F X T hk hd hu N hdm D (kvs_none hk') P.tl P.xd P.dxd (by simpa using hlen) fun h' tk' od' n dn sn tp F' N' D' f' o' => ?_
    have ht : touch keys k = keys ++ [k] := if_neg hk'
    have f1 : ∀ p ∈ srt, p.1 ≠ n ∧ p.1 ≠ dn ∧ p.1 ≠ sn := fun p hp => f' p (List.mem_append_right _ hp)
    have ne1 : ∀ {a b : Addr}, (∀ p ∈ srt, p.1 ≠ a) → ∀ o : Obj, (b, o) ∈ srt → b ≠ a := fun h o hm => h (_, o) hm
    have q := ret h' tk' od' (upd nA k n) (upd dA k dn) (upd sA k sn) ((sn, listOf #[] 0) :: (n, nodeO dn sn (.int k tk) (.int 0 tp)) :: (dn, dictOf [] 0) :: srt) F'
      (fun p hp => N' p (by (simp only [List.mem_cons, List.mem_append, List.not_mem_nil, or_false, or_assoc] at hp ⊢; rcases hp with h | h | h | h | h | h | h | h <;> first | exact .inl h | exact .inr (.inl h) | exact .inr (.inr (.inl h)) | exact .inr (.inr (.inr (.inl h))) | exact .inr (.inr (.inr (.inr (.inl h)))) | exact .inr (.inr (.inr (.inr (.inr (.inl h))))) | exact .inr (.inr (.inr (.inr (.inr (.inr (.inl h)))))) | exact .inr (.inr (.inr (.inr (.inr (.inr (.inr (h)))))))))) (by rw [ht, kvs_upd hk']; exact D')
    rw [upd_self] at q
    refine q ?_ ?_
    · rw [ht]
      refine ⟨?_, fun j hj => ?_, fun j hj => ?_, fun j hj => ?_, fun i hi j hj e => ?_⟩
      · simp only [List.map_cons, List.nodup_cons, List.mem_cons, not_or, List.mem_map, not_exists, not_and]
        refine ⟨⟨Nat.ne_of_gt o'.2.2.2.2, Nat.ne_of_gt (Nat.lt_trans o'.2.2.2.1 o'.2.2.2.2), fun p hp => (f1 p hp).2.2⟩, ⟨Nat.ne_of_gt o'.2.2.2.1, fun p hp => (f1 p hp).1⟩, fun p hp => (f1 p hp).2.1, Nd.nd⟩
      · by_cases e : j = k
        · subst e; rw [upd_self, upd_self, upd_self, (h0 hk').1]; exact ⟨tk, tp, .tail _ (.head _)⟩
        · have hj' : j ∈ keys := by rcases List.mem_append.mp hj with q | q
                                    · exact q
                                    · exact absurd (List.mem_singleton.mp q) e
          obtain ⟨a1, a2, a3⟩ := Nd.node j hj'
          rw [upd_ne _ _ e, upd_ne _ _ e, upd_ne _ _ e]; exact ⟨a1, a2, .tail _ (.tail _ (.tail _ a3))⟩
      · by_cases e : j = k
        · subst e; rw [upd_self]; exact .tail _ (.tail _ (.head _))
        · have hj' : j ∈ keys := by rcases List.mem_append.mp hj with q | q
                                    · exact q
                                    · exact absurd (List.mem_singleton.mp q) e
          rw [upd_ne _ _ e]; exact .tail _ (.tail _ (.tail _ (Nd.dict j hj')))
      · by_cases e : j = k
        · subst e; rw [upd_self, (h0 hk').2]; exact ⟨[], 0, .nil, .head _⟩
        · have hj' : j ∈ keys := by rcases List.mem_append.mp hj with q | q
                                    · exact q
                                    · exact absurd (List.mem_singleton.mp q) e
          obtain ⟨a1, a2, a3, a4⟩ := Nd.list j hj'
          rw [upd_ne _ _ e]; exact ⟨a1, a2, a3, .tail _ (.tail _ (.tail _ a4))⟩
      · have inK : ∀ z, z ∈ keys ++ [k] → z ≠ k → z ∈ keys := fun z hz h => by
          rcases List.mem_append.mp hz with q | q
          · exact q
          · exact absurd (List.mem_singleton.mp q) h
        by_cases ei : i = k
        · by_cases ej : j = k
          · rw [ei, ej]
          · subst ei
            rw [upd_self, upd_ne _ _ ej] at e
            obtain ⟨a1, a2, a3, a4⟩ := Nd.list j (inK j hj ej)
            exact absurd e.symm (f1 _ a4).2.2
        · by_cases ej : j = k
          · subst ej
            rw [upd_self, upd_ne _ _ ei] at e
            obtain ⟨a1, a2, a3, a4⟩ := Nd.list i (inK i hi ei)
            exact absurd e (f1 _ a4).2.2
          · rw [upd_ne _ _ ei, upd_ne _ _ ej] at e
            exact Nd.inj i (inK i hi ei) j (inK j hj ej) e
    · refine ⟨P.xdx, P.xd, P.dxd, fun p hp => ?_, fun p hp q hq => ?_⟩
      · rcases List.mem_append.mp hp with h | h
        · exact P.tl p (List.mem_append_left _ h)
        · simp only [List.mem_cons] at h
          rcases h with h | h | h | h
          · subst h; exact ⟨Nat.ne_of_gt (by lia), Nat.ne_of_gt (by lia), Nat.ne_of_gt (by lia)⟩
          · subst h; exact ⟨Nat.ne_of_gt (by lia), Nat.ne_of_gt (by lia), Nat.ne_of_gt (by lia)⟩
          · subst h; exact ⟨Nat.ne_of_gt (by lia), Nat.ne_of_gt (by lia), Nat.ne_of_gt (by lia)⟩
          · exact P.tl p (List.mem_append_right _ h)
      · have f2 := f' p (List.mem_append_left _ hp)
        simp only [List.mem_cons] at hq
        rcases hq with h | h | h | h
        · subst h; exact f2.2.2
        · subst h; exact f2.1
        · subst h; exact f2.2.1
        · exact P.rs p hp q h
end
section
set_option maxHeartbeats 8000000
section
variable {prog : Program} {w : World} {A : Around} {E : Value → Shared → Prop} {s : Shared} {env : Env} {h₀ : Heap} {target : Expr} {body : List Stmt} {Q : Flow → Shared → Prop} {m₀ : Str → Option Value} {news₀ : List (Addr × Obj)}
noncomputable def TurnEnd (h₀ : Heap) (L : Addr) (own : List (Addr × Obj)) (J : (Str → Option Value) → List (Addr × Obj) → Prop) (s₁ : Shared) (Q : Flow → Shared → Prop) (f : Flow) (s₂ : Shared) : Prop :=
  match f with
  | .ret v => Q (.ret v) s₂
  | .brk => Q .next s₂
  | _ => (Ex4 fun h' tk m' news' => Cj5 (s₂ = { s₁ with heap := h', toks := tk }) (Fr h₀ L h' m') (News h₀ L h' (own ++ news')) ((∀ p ∈ own, ∀ q ∈ news', p.1 ≠ q.1)) (J m' news'))
theorem turns_core {I ax : Addr} {n : Nat} {P : Nat → Value → Prop} {St : Nat → Heap → Prop} (J : Nat → (Str → Option Value) → List (Addr × Obj) → Prop) (W : Walks prog w A I [I, ax] [I] n P St)
    (hgo : ∀ i v (s : Shared) (Q : Unit → Shared → Prop) (E : Value → Shared → Prop), St i s.heap → Q () s → wpAny (model prog w) A (letOwnedTupleGo target (.ref I) v) Q E s)
    (hIo : ∀ i h, St i h → ∃ o, h.get? I = some o) (hAo : ∀ i h, St i h → ∃ o, h.get? ax = some o)
    (hst : St 0 s.heap) (F : Fr h₀ env.locals s.heap m₀) (N : News h₀ env.locals s.heap news₀) (hI₀ : h₀.get? I = none) (hLI : env.locals ≠ I) (hLa : env.locals ≠ ax) (off : ∀ p ∈ news₀, p.1 ≠ I ∧ p.1 ≠ ax) (h0 : J 0 m₀ news₀)
    (step : ∀ i v m₁ news₁ h₁ tk₁ own, i < n → P i v → J i m₁ news₁ → (∀ p ∈ own, ∀ q ∈ news₁, p.1 ≠ q.1) → Fr h₀ env.locals h₁ m₁ → News h₀ env.locals h₁ (own ++ news₁) →
      wpAny (model prog w) A (assign target env v) (fun _ s₃ => wpAny (model prog w) A (execs body env) (TurnEnd h₀ env.locals own (J (i + 1)) { s with heap := h₁, toks := tk₁ } Q) E s₃) E { s with heap := h₁, toks := tk₁ })
    (done : ∀ m' news' h' tk, J n m' news' → Fr h₀ env.locals h' m' → News h₀ env.locals h' news' → (∀ p ∈ news', p.1 ≠ ax) → Q .next { s with heap := h', toks := tk }) :
    TurnsAt prog w A h₀ env target body Q E (.ref I) s := by
  refine ⟨I, [I, ax], [I], n, _, _, St, m₀, news₀, fun i m nw => J i m nw ∧ (∀ p ∈ nw, p.1 ≠ ax), rfl, KTurns.ofWalks W hgo, ?_, ?_, ?_, hst, F, N, ⟨h0, fun p hp => (off p hp).2⟩, ?_, ?_⟩
  · simp [hLI, hLa]
  · intro b hb; rw [List.mem_singleton.mp hb]; exact hI₀
  · intro p hp; simpa using (off p hp).1
  · rintro i v m₁ news₁ h₁ tk₁ own hi hP ⟨hJ, hax⟩ hw ho1 ho2 ho3 st F₁ N₁
    have dis : ∀ p ∈ own, ∀ q ∈ news₁, p.1 ≠ q.1 := fun p hp q hq e => by
      have h1 := ho1 p hp
      rcases List.mem_cons.mp h1 with h1 | h1
      · exact hw q hq (by rw [← e, h1]; exact List.mem_singleton.mpr rfl)
      · exact hax q hq (by rw [← e]; exact List.mem_singleton.mp h1)
    refine wpAny_mono (step i v m₁ news₁ h₁ tk₁ own hi hP hJ dis F₁ N₁) (fun _ s₃ h₃ => wpAny_mono h₃ (fun f s₄ h₄ => ?_) fun _ _ e => e) fun _ _ e => e
    have fin : ((Ex4 fun h' tk m' news' => Cj5 (s₄ = { { s with heap := h₁, toks := tk₁ } with heap := h', toks := tk }) (Fr h₀ env.locals h' m') (News h₀ env.locals h' (own ++ news')) ((∀ p ∈ own, ∀ q ∈ news', p.1 ≠ q.1)) (J (i + 1) m' news'))) →
        LoopStepU h₀ env.locals [I] own (fun m nw => J (i + 1) m nw ∧ (∀ p ∈ nw, p.1 ≠ ax)) { s with heap := h₁, toks := tk₁ } .next s₄ := by
      rintro ⟨h', tk, m', news', rfl, F', N', dis', hJ'⟩
      refine ⟨rfl, h', tk, m', news', rfl, F', N', fun p hp hI => ?_, hJ', fun p hp e => ?_⟩
      · obtain ⟨oI, heI⟩ := hIo _ _ st
        exact dis' _ (ho3 I (.head _) hI₀ oI heI) p hp (List.mem_singleton.mp hI).symm
      · cases q : h₀.get? ax with
        | some o =>
          have := (N' p (List.mem_append_right _ hp)).2.2
          rw [e, q] at this; cases this
        | none =>
          obtain ⟨oA, heA⟩ := hAo _ _ st
          exact dis' _ (ho3 ax (.tail _ (.head _)) q oA heA) p hp e.symm
    cases f with
    | ret v => exact h₄
    | brk => exact h₄
    | next => exact fin h₄
    | cont => exact fin h₄
  · rintro h' tk m' news' F' N' _ ⟨hJ, hax⟩
    exact done m' news' h' tk hJ F' N' hax
theorem turns_coreA {I ax : Addr} {axO : Obj} {n : Nat} {P : Nat → Value → Prop} {St : Nat → Heap → Prop} (J : Nat → (Str → Option Value) → List (Addr × Obj) → Prop) (W : Walks prog w A I [I, ax] [I] n P St)
    (hgo : ∀ i v (s : Shared) (Q : Unit → Shared → Prop) (E : Value → Shared → Prop), St i s.heap → Q () s → wpAny (model prog w) A (letOwnedTupleGo target (.ref I) v) Q E s)
    (hIo : ∀ i h, St i h → ∃ o, h.get? I = some o)
    (hst : St 0 s.heap) (F : Fr h₀ env.locals s.heap m₀) (N : News h₀ env.locals s.heap ((ax, axO) :: news₀)) (hI₀ : h₀.get? I = none) (hLI : env.locals ≠ I) (hLa : env.locals ≠ ax) (hIa : ax ≠ I) (off : ∀ p ∈ news₀, p.1 ≠ I ∧ p.1 ≠ ax) (h0 : J 0 m₀ news₀)
    (step : ∀ i v m₁ news₁ h₁ tk₁ own, i < n → P i v → J i m₁ news₁ → (∀ p ∈ own, ∀ q ∈ news₁, p.1 ≠ q.1) → Fr h₀ env.locals h₁ m₁ → News h₀ env.locals h₁ (own ++ news₁) →
      wpAny (model prog w) A (assign target env v) (fun _ s₃ => wpAny (model prog w) A (execs body env) (TurnEnd h₀ env.locals own (J (i + 1)) { s with heap := h₁, toks := tk₁ } Q) E s₃) E { s with heap := h₁, toks := tk₁ })
    (done : ∀ m' news' h' tk, J n m' news' → Fr h₀ env.locals h' m' → News h₀ env.locals h' ((ax, axO) :: news') → (∀ p ∈ news', p.1 ≠ ax) → Q .next { s with heap := h', toks := tk }) :
    TurnsAt prog w A h₀ env target body Q E (.ref I) s := by
  have hax₀ : h₀.get? ax = none := (N _ (.head _)).2.2
  refine ⟨I, [I, ax], [I], n, _, _, St, m₀, (ax, axO) :: news₀, fun i m nw => ∃ nw', nw = (ax, axO) :: nw' ∧ J i m nw' ∧ (∀ p ∈ nw', p.1 ≠ ax), rfl, KTurns.ofWalks W hgo, ?_, ?_, ?_, hst, F, N, ⟨news₀, rfl, h0, fun p hp => (off p hp).2⟩, ?_, ?_⟩
  · simp [hLI, hLa]
  · intro b hb; rw [List.mem_singleton.mp hb]; exact hI₀
  · intro p hp
    rcases List.mem_cons.mp hp with h | h
    · subst h; simpa using hIa
    · simpa using (off p h).1
  · rintro i v m₁ news₂ h₁ tk₁ own hi hP ⟨news₁, rfl, hJ, hax⟩ hw ho1 ho2 ho3 st F₁ N₁
    have eax : h₁.get? ax = some axO := (N₁ (ax, axO) (List.mem_append_right _ (.head _))).1
    have dis : ∀ p ∈ own, ∀ q ∈ news₁, p.1 ≠ q.1 := fun p hp q hq e => by
      have h1 := ho1 p hp
      rcases List.mem_cons.mp h1 with h1 | h1
      · exact hw q (.tail _ hq) (by rw [← e, h1]; exact List.mem_singleton.mpr rfl)
      · exact hax q hq (by rw [← e]; exact List.mem_singleton.mp h1)
    refine wpAny_mono (step i v m₁ news₁ h₁ tk₁ own hi hP hJ dis F₁ fun p hp => N₁ p (by
      rcases List.mem_append.mp hp with h | h
      · exact List.mem_append_left _ h
      · exact List.mem_append_right _ (.tail _ h))) (fun _ s₃ h₃ => wpAny_mono h₃ (fun f s₄ h₄ => ?_) fun _ _ e => e) fun _ _ e => e
    have fin : ((Ex4 fun h' tk m' news' => Cj5 (s₄ = { { s with heap := h₁, toks := tk₁ } with heap := h', toks := tk }) (Fr h₀ env.locals h' m') (News h₀ env.locals h' (own ++ news')) ((∀ p ∈ own, ∀ q ∈ news', p.1 ≠ q.1)) (J (i + 1) m' news'))) →
        LoopStepU h₀ env.locals [I] own (fun m nw => ∃ nw', nw = (ax, axO) :: nw' ∧ J (i + 1) m nw' ∧ (∀ p ∈ nw', p.1 ≠ ax)) { s with heap := h₁, toks := tk₁ } .next s₄ := by
      rintro ⟨h', tk, m', news', rfl, F', N', dis', hJ'⟩
      have hown := ho3 ax (.tail _ (.head _)) hax₀ axO eax
      refine ⟨rfl, h', tk, m', (ax, axO) :: news', rfl, F', fun p hp => ?_, fun p hp hI => ?_, news', rfl, hJ', fun p hp e => dis' _ hown p hp e.symm⟩
      · rcases List.mem_append.mp hp with h | h
        · exact N' p (List.mem_append_left _ h)
        · rcases List.mem_cons.mp h with h | h
          · subst h; exact N' _ (List.mem_append_left _ hown)
          · exact N' p (List.mem_append_right _ h)
      · rcases List.mem_cons.mp hp with h | h
        · subst h; exact hIa (List.mem_singleton.mp hI)
        · obtain ⟨oI, heI⟩ := hIo _ _ st
          exact dis' _ (ho3 I (.head _) hI₀ oI heI) p h (List.mem_singleton.mp hI).symm
    cases f with
    | ret v => exact h₄
    | brk => exact h₄
    | next => exact fin h₄
    | cont => exact fin h₄
  · rintro h' tk m' news'' F' N' _ ⟨news', rfl, hJ, hax⟩
    exact done m' news' h' tk hJ F' N' hax
theorem turns_tuple {ax : Addr} {vs : List Value} {nv : Nat} (J : Nat → (Str → Option Value) → List (Addr × Obj) → Prop) (hh : A.handled = none) (F : Fr h₀ env.locals s.heap m₀)
    (N : News h₀ env.locals s.heap ((ax, ({ cls := .type "tuple", data := .seq vs.toArray nv } : Obj)) :: news₀)) (hax : ∀ p ∈ news₀, p.1 ≠ ax) (h0 : J 0 m₀ news₀)
    (step : ∀ i v m₁ news₁ h₁ tk₁ own, vs[i]? = some v → J i m₁ news₁ → (∀ p ∈ own, ∀ q ∈ news₁, p.1 ≠ q.1) → Fr h₀ env.locals h₁ m₁ → News h₀ env.locals h₁ (own ++ news₁) →
      wpAny (model prog w) A (assign target env v) (fun _ s₃ => wpAny (model prog w) A (execs body env) (TurnEnd h₀ env.locals own (J (i + 1)) { s with heap := h₁, toks := tk₁ } Q) E s₃) E { s with heap := h₁, toks := tk₁ })
    (done : ∀ m' news' h' tk, J vs.length m' news' → Fr h₀ env.locals h' m' → News h₀ env.locals h' ((ax, ({ cls := .type "tuple", data := .seq vs.toArray nv } : Obj)) :: news') → (∀ p ∈ news', p.1 ≠ ax) → Q .next { s with heap := h', toks := tk }) :
    wpAny (model prog w) A (pyIter (.ref ax)) (fun it s₂ => TurnsAt prog w A h₀ env target body Q E it s₂) E s := by
  have ha := N _ (.head _)
  have hl : s.heap.IsTuple ax vs.toArray := ⟨_, ha.1, rfl, nv, rfl⟩
  have hlt : ax < s.heap.objs.size := Heap.lt_size ha.1
  refine wpAny_pyIter_tuple hl ?_
  refine turns_coreA J (Walks.tuple hh s.heap.objs.size ax (Nat.ne_of_lt hlt) vs.toArray) (fun i v s Q E st q => letGo_tupleiter st.1 q) (fun i h st => ?_) ⟨⟨_, Heap.get?_push_size _ rfl, rfl, rfl⟩, hl.push _⟩ (F.push _)
    (fun p hp => ⟨Heap.get?_push_of_some _ (N p hp).1, (N p hp).2⟩) (next_is_new F) (Nat.ne_of_lt F.ns.lt) (Ne.symm ha.2.1) (Nat.ne_of_lt hlt) (fun p hp => ⟨Nat.ne_of_lt (Heap.lt_size (N p (.tail _ hp)).1), hax p hp⟩) h0
    (fun i v m₁ news₁ h₁ tk₁ own hi hP => step i v m₁ news₁ h₁ tk₁ own (by have hP' : vs.toArray[i]? = some v := hP; simpa using hP')) ?_
  · obtain ⟨o, e, _⟩ := st.1; exact ⟨o, e⟩
  · intro m' news' h' tk hJ; exact done m' news' h' tk (by simpa using hJ)
theorem turns_list {ax : Addr} {vs : List Value} {nv : Nat} (J : Nat → (Str → Option Value) → List (Addr × Obj) → Prop) (hh : A.handled = none) (F : Fr h₀ env.locals s.heap m₀)
    (N : News h₀ env.locals s.heap ((ax, listOf vs.toArray nv) :: news₀)) (hax : ∀ p ∈ news₀, p.1 ≠ ax) (h0 : J 0 m₀ news₀)
    (step : ∀ i v m₁ news₁ h₁ tk₁ own, vs[i]? = some v → J i m₁ news₁ → (∀ p ∈ own, ∀ q ∈ news₁, p.1 ≠ q.1) → Fr h₀ env.locals h₁ m₁ → News h₀ env.locals h₁ (own ++ news₁) →
      wpAny (model prog w) A (assign target env v) (fun _ s₃ => wpAny (model prog w) A (execs body env) (TurnEnd h₀ env.locals own (J (i + 1)) { s with heap := h₁, toks := tk₁ } Q) E s₃) E { s with heap := h₁, toks := tk₁ })
    (done : ∀ m' news' h' tk, J vs.length m' news' → Fr h₀ env.locals h' m' → News h₀ env.locals h' ((ax, listOf vs.toArray nv) :: news') → (∀ p ∈ news', p.1 ≠ ax) → Q .next { s with heap := h', toks := tk }) :
    wpAny (model prog w) A (pyIter (.ref ax)) (fun it s₂ => TurnsAt prog w A h₀ env target body Q E it s₂) E s := by
  have ha := N _ (.head _)
  have hl : s.heap.IsList ax vs.toArray := ⟨_, ha.1, rfl, nv, rfl⟩
  have hlt : ax < s.heap.objs.size := Heap.lt_size ha.1
  refine wpAny_pyIter_list hl ?_
  refine turns_coreA J (Walks.list hh s.heap.objs.size ax (Nat.ne_of_lt hlt) vs.toArray) (fun i v s Q E st q => letGo_listiter st.1 q) (fun i h st => ?_) ⟨⟨_, Heap.get?_push_size _ rfl, rfl, rfl⟩, hl.push _⟩ (F.push _)
    (fun p hp => ⟨Heap.get?_push_of_some _ (N p hp).1, (N p hp).2⟩) (next_is_new F) (Nat.ne_of_lt F.ns.lt) (Ne.symm ha.2.1) (Nat.ne_of_lt hlt) (fun p hp => ⟨Nat.ne_of_lt (Heap.lt_size (N p (.tail _ hp)).1), hax p hp⟩) h0
    (fun i v m₁ news₁ h₁ tk₁ own hi hP => step i v m₁ news₁ h₁ tk₁ own (by have hP' : vs.toArray[i]? = some v := hP; simpa using hP')) ?_
  · obtain ⟨o, e, _⟩ := st.1; exact ⟨o, e⟩
  · intro m' news' h' tk hJ; exact done m' news' h' tk (by simpa using hJ)
theorem turns_listIn {ax : Addr} {vs : List Value} {nv : Nat} (J : Nat → (Str → Option Value) → List (Addr × Obj) → Prop) (hh : A.handled = none) (F : Fr h₀ env.locals s.heap m₀)
    (N : News h₀ env.locals s.heap news₀) (hJ : ∀ i m nw, J i m nw → (ax, listOf vs.toArray nv) ∈ nw) (h0 : J 0 m₀ news₀)
    (step : ∀ i v m₁ news₁ h₁ tk₁ I oI, vs[i]? = some v → J i m₁ news₁ → (∀ q ∈ news₁, I ≠ q.1) → Fr h₀ env.locals h₁ m₁ → News h₀ env.locals h₁ ((I, oI) :: news₁) →
      wpAny (model prog w) A (assign target env v) (fun _ s₃ => wpAny (model prog w) A (execs body env) (TurnEnd h₀ env.locals [(I, oI)] (J (i + 1)) { s with heap := h₁, toks := tk₁ } Q) E s₃) E { s with heap := h₁, toks := tk₁ })
    (done : ∀ m' news' h' tk, J vs.length m' news' → Fr h₀ env.locals h' m' → News h₀ env.locals h' news' → Q .next { s with heap := h', toks := tk }) :
    wpAny (model prog w) A (pyIter (.ref ax)) (fun it s₂ => TurnsAt prog w A h₀ env target body Q E it s₂) E s := by
  have ha := N _ (hJ _ _ _ h0)
  have hl : s.heap.IsList ax vs.toArray := ⟨_, ha.1, rfl, nv, rfl⟩
  have hlt : ax < s.heap.objs.size := Heap.lt_size ha.1
  have hIa : ax ≠ s.heap.objs.size := Nat.ne_of_lt hlt
  have hI₀ : h₀.get? s.heap.objs.size = none := next_is_new F
  refine wpAny_pyIter_list hl ?_
  have W := Walks.list (prog := prog) (w := w) hh s.heap.objs.size ax hIa vs.toArray
  refine ⟨s.heap.objs.size, [s.heap.objs.size, ax], [s.heap.objs.size], vs.toArray.size, _, _, _, m₀, news₀, J, rfl, KTurns.ofWalks W (fun i v s Q E st q => letGo_listiter st.1 q), ?_, ?_, ?_, ⟨⟨_, Heap.get?_push_size _ rfl, rfl, rfl⟩, hl.push _⟩, F.push _,
    (fun p hp => ⟨Heap.get?_push_of_some _ (N p hp).1, (N p hp).2⟩), h0, ?_, ?_⟩
  · intro h
    rcases List.mem_cons.mp h with h | h
    · exact absurd F.ns.lt (h ▸ Nat.lt_irrefl _)
    · exact ha.2.1 (List.mem_singleton.mp h).symm
  · intro b hb; rw [List.mem_singleton.mp hb]; exact hI₀
  · intro p hp h; exact absurd (Heap.lt_size (N p hp).1) ((List.mem_singleton.mp h) ▸ Nat.lt_irrefl _)
  · rintro i v m₁ news₁ h₁ tk₁ own hi hP hJ₁ hw ho1 ho2 ho3 st F₁ N₁
    obtain ⟨oI, heI, _⟩ := st.1
    have eax : h₁.get? ax = some (listOf vs.toArray nv) := (N₁ _ (List.mem_append_right _ (hJ _ _ _ hJ₁))).1
    have hIo := ho3 _ (.head _) hI₀ oI heI
    refine wpAny_mono (step i v m₁ news₁ h₁ tk₁ s.heap.objs.size oI (by have hP' : vs.toArray[i]? = some v := hP; simpa using hP') hJ₁ (fun q hq e => hw q hq (by rw [← e]; exact List.mem_singleton.mpr rfl)) F₁ fun p hp => N₁ p (by
      rcases List.mem_cons.mp hp with h | h
      · subst h; exact List.mem_append_left _ hIo
      · exact List.mem_append_right _ h)) (fun _ s₃ h₃ => wpAny_mono h₃ (fun f s₄ h₄ => ?_) fun _ _ e => e) fun _ _ e => e
    have fin : ((Ex4 fun h' tk m' news' => Cj5 (s₄ = { { s with heap := h₁, toks := tk₁ } with heap := h', toks := tk }) (Fr h₀ env.locals h' m') (News h₀ env.locals h' ([(s.heap.objs.size, oI)] ++ news')) ((∀ p ∈ [(s.heap.objs.size, oI)], ∀ q ∈ news', p.1 ≠ q.1)) (J (i + 1) m' news'))) →
        LoopStepU h₀ env.locals [s.heap.objs.size] own (J (i + 1)) { s with heap := h₁, toks := tk₁ } .next s₄ := by
      rintro ⟨h', tk, m', news', rfl, F', N', dis', hJ'⟩
      refine ⟨rfl, h', tk, m', news', rfl, F', fun p hp => ?_, fun p hp hI => dis' _ (.head _) p hp (List.mem_singleton.mp hI).symm, hJ'⟩
      rcases List.mem_append.mp hp with h | h
      · have e2 := ho2 p h
        rcases List.mem_cons.mp (ho1 p h) with e | e
        · have : p = (s.heap.objs.size, oI) := by
            obtain ⟨p1, p2⟩ := p
            have e' : p1 = s.heap.objs.size := e
            subst e'
            rw [heI] at e2; cases e2; rfl
          rw [this]; exact N' _ (.head _)
        · have : p = (ax, listOf vs.toArray nv) := by
            obtain ⟨p1, p2⟩ := p
            have e' : p1 = ax := List.mem_singleton.mp e
            subst e'
            rw [eax] at e2; cases e2; rfl
          rw [this]; exact N' _ (.tail _ (hJ _ _ _ hJ'))
      · exact N' p (.tail _ h)
    cases f with
    | ret v => exact h₄
    | brk => exact h₄
    | next => exact fin h₄
    | cont => exact fin h₄
  · rintro h' tk m' news' F' N' _ hJ'
    exact done m' news' h' tk (by simpa using hJ') F' N'
end
section
variable {prog : Program} {w : World} {A : Around} {E : Value → Shared → Prop} {s : Shared} {h₀ : Heap} {L : Addr} {m : Str → Option Value} {news : List (Addr × Obj)}
theorem upd_news {h : Heap} {d : Addr} {o o' : Obj} {g : Obj → List (Addr × Obj)} {f : Obj → Obj} (F : Fr h₀ L h m) (N : News h₀ L h news) (U : UpdF d o news g) (e : f o = o') (hf : o'.isFreed = false) : Fr h₀ L (h.update d f) m ∧ News h₀ L (h.update d f) (g o') := by
  obtain ⟨pre, post, rfl, hg, a, b⟩ := U.split
  rw [hg]
  exact news_upd F N a b e hf
noncomputable abbrev turned (f : Array Value → Array Value) (its : Array Value) (n : Nat) : Obj := listOf (f its) (if (f its).size == its.size then n else n + 1)
theorem mapSeq_list (f : Array Value → Array Value) (its : Array Value) (n : Nat) : Obj.mapSeq f (listOf its n) = turned f its n := rfl
theorem clear_any {D : Addr} {its : Array Value} {n : Nat} {g : Obj → List (Addr × Obj)} {Q : Value → Shared → Prop} (F : Fr h₀ L s.heap m) (N : News h₀ L s.heap news) (U : UpdF D (listOf its n) news g) (hm : (D, listOf its n) ∈ news) (hz : its.size ≤ sizeLine)
    (h : ∀ h' n', Fr h₀ L h' m → News h₀ L h' (g (listOf #[] n')) → Q .none { s with heap := h' }) : wpAny (model prog w) A (call (.builtin "list.clear") [.ref D]) Q E s := by
  have z := N _ hm
  have k := upd_news F N U (mapSeq_list (fun _ => #[]) its n) rfl
  exact call_meets PySem.F.slot_list_clear ⟨_, z.1, rfl⟩ PySem.F.entry_list_clear (PySem.F.args_list_clear_1 _) (PySem.AutoSeq1.list_clear_list_0 D its n hz) ⟨z.1, h _ _ k.1 k.2⟩
end
end
section
open PySem PySem.W PyProof.Rows PySem.Spec PySem.Calls
theorem kts_memX {env : Env} {L b : Addr} {outer : List Env} (hf : env.frame = some L) (hm : b ∈ (env :: outer).filterMap (·.frame)) : b = L ∨ b ∈ outer.filterMap (·.frame) := by
  obtain ⟨e, he, hb⟩ := List.mem_filterMap.mp hm
  rcases List.mem_cons.mp he with rfl | he
  · exact .inl (Option.some.inj (hb.symm.trans hf))
  · exact .inr (List.mem_filterMap.mpr ⟨e, he, hb⟩)
noncomputable def LeaveT (A₀ : Around) (base : Heap) (env : Env) (outer : List Env) (K : Frag) (p : Program) (loose : List Str) (mean : ExcName → Option Value) (mg mb : Str → Option Value) (h₀ : Heap) (L : Addr) (m : Str → Option Value) (g : Heap)
    (R : Result → Shared → Prop) (v : Value) (s' : Shared) : Prop :=
  (Ex4 fun g' L' m' news' => Cj4 (KtsTurn ((env :: outer).filterMap (·.frame)) g g') (Fr g' L' s'.heap m') (News g' L' s'.heap news') (∀ h₀', KtsTurn (outer.filterMap (·.frame)) h₀ h₀' → Fr h₀' L s'.heap m → News h₀' L s'.heap news' → Below A₀ base outer h₀' → K.In h₀' → Top p loose mean mg mb h₀' → KtsDicts (outer.filterMap (·.frame)) h₀' → R (.ok (.ret v)) s'))
section
variable {prog : Program} {w : World} {A₀ A : Around} {s : Shared} {base h₀ : Heap} {outer : List Env} {L : Addr} {m : Str → Option Value} {env : Env} {news : List (Addr × Obj)} {K : Frag} {p : Program} {loose : List Str} {mean : ExcName → Option Value} {mg mb : Str → Option Value}
  {R : Result → Shared → Prop}
theorem groundT (B : Below A₀ base outer h₀) (F : Fr h₀ L s.heap m) (N : News h₀ L s.heap news) (XB : K.In base) (TB : Top p loose mean mg mb base) (D : KtsDicts (outer.filterMap (·.frame)) h₀)
    (hA : A.frames = some (env :: outer)) (hf : env.frame = some L) (hke : env.scope.kind = .function) :
    Fr h₀ L (hideAll s.heap (news.map (·.1))) m ∧ Below A base (env :: outer) (hideAll s.heap (news.map (·.1))) ∧ h₀.StaysIn (hideAll s.heap (news.map (·.1))) ∧ KtsDicts ((env :: outer).filterMap (·.frame)) (hideAll s.heap (news.map (·.1))) ∧
      ∀ v s', LeaveT A₀ base env outer K p loose mean mg mb h₀ L m (hideAll s.heap (news.map (·.1))) R v s' → R (.ok (.ret v)) s' := by
  have nm : ∀ b o, h₀.get? b = some o → b ∉ news.map (·.1) := fun b o e q => by
    obtain ⟨p, hp, rfl⟩ := List.mem_map.mp q
    rw [(N p hp).2.2] at e; cases e
  have st : h₀.StaysIn (hideAll s.heap (news.map (·.1))) := fun b o e => hideAll_get _ (F.keep b o e) (nm b o e)
  obtain ⟨oL, es, ep, hL, hLd, hLk, hLf⟩ := F.ns
  have nL : L ∉ news.map (·.1) := fun q => by
    obtain ⟨p, hp, e⟩ := List.mem_map.mp q
    exact (N p hp).2.1 e
  have hLg := hideAll_get (news.map (·.1)) hL nL
  have B₁ := pushX B F hf hke
  have nL₀ : h₀.get? L = none := kts_self F
  refine ⟨⟨⟨oL, es, ep, hLg, hLd, hLk, hLf⟩, st, F.above⟩, ⟨hA, fun b o e => st b o (B.stays b o e), funFrames_hideAll B₁.frames fun env' he b hb hf' => ?_⟩, st, ?_, fun v s' hl => ?_⟩
  · cases he with
    | head => exact nL ((Option.some.inj (hf.symm.trans hf') : L = b) ▸ hb)
    | tail _ he =>
      obtain ⟨L₁, o₁, hf₁, ho₁⟩ := funFrames_in B.frames env' he
      rw [hf₁] at hf'
      exact nm L₁ o₁ ho₁ ((Option.some.inj hf' : L₁ = b) ▸ hb)
  · intro b hb
    rcases kts_memX hf hb with rfl | hb
    · exact ⟨oL, es, ep, hLg, hLd⟩
    · obtain ⟨o, es', n', ho', hd'⟩ := D b hb
      exact ⟨o, es', n', st b o ho', hd'⟩
  · obtain ⟨g', L', m', news', T', F', N', k⟩ := hl
    obtain ⟨sl, hs⟩ := T'.up hLg
    obtain ⟨T₁, S₁⟩ := kts_turn_at (h := s'.heap) (fs := outer.filterMap (·.frame)) (g := h₀)
      (fun b hb => by
        obtain ⟨_, o, ho', _⟩ := B.frames.mem hb
        exact ⟨o, ho'⟩)
      (fun b o e nmem => F'.keep b o (T'.other b o (st b o e) (fun q => by
        rcases kts_memX hf q with z | z
        · rw [z, nL₀] at e
          cases e
        · exact nmem z)))
      (fun b o e hm => by
        obtain ⟨sl', hs'⟩ := T'.up (st b o e)
        exact ⟨sl', F'.keep _ _ hs'⟩)
    have B₃ : Below A₀ base outer (ktsHeap s'.heap (outer.filterMap (·.frame)) h₀) := ⟨B.stack, fun b o e => T₁.other b o (B.stays b o e) (fun hm => by
      rw [(B.frames.mem hm).1] at e
      cases e), B.frames.of_keeps fun b o e _ => by
      obtain ⟨sl', hs'⟩ := T₁.up e
      exact ⟨_, hs', rfl⟩⟩
    refine k _ T₁ ⟨⟨_, es, ep, F'.keep _ _ hs, hLd, hLk, hLf⟩, S₁, by rw [T₁.size]; exact F.above⟩ (fun p hp => ⟨(N' p hp).1, fun q => ?_, ?_⟩) B₃ (XB.keeps B₃.stays) (TB.keeps B₃.stays) (D.turn T₁)
    · have := (N' p hp).2.2; rw [q, hs] at this; cases this
    · refine T₁.none_ _ ?_
      cases q : h₀.get? p.1 with
      | none => rfl
      | some o =>
        obtain ⟨sl', hs'⟩ := T'.up (st _ _ q)
        have := (N' p hp).2.2
        rw [hs'] at this
        cases this
variable {name qual : Str} {params : Arguments} {body : List Stmt} {scope : Scope} {dV kV doc pm cdv ct oc : Value} {an od : Option Addr} {osl : Array (Option Value)} {f : Addr} {args : Args} {binds : List (Str × Value)}
theorem code_defT (B : Below A₀ base outer h₀) (F : Fr h₀ L s.heap m) (X₀ : K.In h₀) (N : News h₀ L s.heap news) (T : Top p loose mean mg mb h₀) (XB : K.In base) (TB : Top p loose mean mg mb base) (D : KtsDicts (outer.filterMap (·.frame)) h₀)
    (hA : A.frames = some (env :: outer)) (hf : env.frame = some L) (hke : env.scope.kind = .function)
    (ho : K.lookup f = some ⟨oc, od, .func (fnOf name qual params body scope dV kV doc pm an cdv ct), osl⟩) (hcd : codeIn K cdv qual = true) (hroom : A.depth < recursionLimit)
    (hbind : BindsTo s (fnOf name qual params body scope dV kV doc pm an cdv ct) args binds) (hloc : ∀ y ∈ binds, scope.names.lookup y.1 = some .local)
    (h : ∀ g L' h₁, Fr h₀ L g m → Fr g L' h₁ (fun y => binds.reverse.lookup y) → News g L' h₁ news → Below A base (env :: outer) g → K.In g → Top p loose mean mg mb g → KtsDicts ((env :: outer).filterMap (·.frame)) g → GSub s.heap g (news.map (·.1)) →
      wpAny (model prog w) (A.deeper (envOf qual scope L' f cdv)) (execs body (envOf qual scope L' f cdv))
        (fun fl s' => LeaveT A₀ base env outer K p loose mean mg mb h₀ L m g R (match fl with | .ret v => v | _ => .none) s')
        (fun e s' => wpAny (model prog w) (A.deeper (envOf qual scope L' f cdv)) (leaving (envOf qual scope L' f cdv) e) (fun _ s'' => R (.error e) s'') (fun e' s'' => R (.error e') s'') s')
        { s with heap := h₁, toks := s.toks + binds.length })
    (hco : scope.isCoroutine = false) (hgen : scope.isGenerator = false) (hk : scope.kind = .function)
    (hcell : ∀ x ∈ scope.names, x.2 ≠ .cell) : codeAny (model prog w) A (.call (.ref f) args) R s := by
  have X := X₀.keeps F.keep
  obtain ⟨FG, BG, st, DG, lv⟩ := groundT (R := R) B F N XB TB D hA hf hke
  refine codeAny_call_def (fd := fnOf name qual params body scope dV kV doc pm an cdv ct) (body := body) (binds := binds) hroom (X _ _ ho) rfl (T.nolimit.keeps F.keep) (codeRec_of X hcd) rfl hbind hcell hloc (fun h₁ hns hk₁ => ?_) hco hgen hk
  exact wpAny_mono (h _ s.heap.objs.size h₁ FG ⟨hns, fun b o e => hk₁ b o (of_hideAll _ e), Nat.le_of_eq (hideAll_size _ _)⟩
    (fun p hp => ⟨hk₁ _ _ (N p hp).1, Nat.ne_of_lt (Heap.lt_size (N p hp).1), hideAll_none _ (List.mem_map_of_mem hp)⟩) BG (X₀.keeps st) (T.keeps st) DG (fun b o e nm => hideAll_get _ e nm)) (fun fl s' hl => lv _ _ hl) fun _ _ y => y
end
end
section
open PySem PySem.W PyProof.Rows PySem.Spec PySem.Calls
section
variable {prog : Program} {w : World} {A₀ : Around} {E : Value → Shared → Prop} {s' : Shared} {base g h : Heap} {outer : List Env} {L a e : Addr} {m : Str → Option Value} {name : Str} {scope : Scope} {cd : Value}
  {b₀ : Stmt} {suite : List Stmt} {pos np : Pos} {rest : List ExceptHandler} {Q : Flow → Shared → Prop} {news : List (Addr × Obj)} {KF : Frag}
  {p : Program} {loose : List Str} {mean : ExcName → Option Value} {mg mb : Str → Option Value} {x : Str} {X T' : String}
theorem caught_here (hx : Heap.NewExcOf h s'.heap e X) (F : Fr g L h m) (N : News g L h news) (K : Below A₀ base outer g) (XB : KF.In base) (TB : Top p loose mean mg mb base)
    (D : KtsDicts (outer.filterMap (·.frame)) g)
    (ex : nsIn KF mainGlobals x = some none) (hv : bootBuiltins x = some (.type T')) (hn' : x ≠ "__name__")
    (hexc : isSubtype (.type T') (.type "BaseException") = pure true) (hnt : isSubtype (.type ((Manifest.find? T').elim "type" fun y => y.metatype)) (.type "tuple") = pure false) (hsub : isSubtype (.type X) (.type T') = pure true)
    (k : ∀ h' g', KtsTurn (outer.filterMap (·.frame)) g g' → Fr g' L h' m → News g' L h' news → Below A₀ base outer g' → KF.In g' → Top p loose mean mg mb g' → KtsDicts (outer.filterMap (·.frame)) g' →
      wpAny (model prog w) ((A₀.deeper (envOf name scope L a cd)).mark (some (.ref e))) (execs (b₀ :: suite) (envOf name scope L a cd)) Q (fun _ _ => False) { s' with heap := h' })
    (hk : scope.kind = .function := by rfl) (hx' : (envOf name scope L a cd).kindOf x = some .globalImplicit := by rfl) (hd : (x == ("__debug__" : Str)) = false := by decide) :
    wpAny (model prog w) (A₀.deeper (envOf name scope L a cd)) (noteFrame (.ref e) (envOf name scope L a cd))
      (fun _ s₂ => wpAny (model prog w) (A₀.deeper (envOf name scope L a cd)) (setFlight (.ref e) none) (fun _ s₃ =>
        wpAny (model prog w) (A₀.deeper (envOf name scope L a cd)) (handleBy (.ref e) (envOf name scope L a cd) (.ExceptHandler (some (.Name x np)) none (b₀ :: suite) pos :: rest)) Q E s₃) E s₂) E s' := by
  have K' := K.push (name := name) (a := a) (cd := cd) F hk
  have hin : ∀ env ∈ (envOf name scope L a cd :: outer), ∀ b, env.frame = some b → b ∈ (envOf name scope L a cd :: outer).filterMap (·.frame) := fun env he b hb => List.mem_filterMap.mpr ⟨env, he, hb⟩
  have hBG : ∀ b o, h.get? b = some o → b ∉ (envOf name scope L a cd :: outer).filterMap (·.frame) → (hideAll h ((envOf name scope L a cd :: outer).filterMap (·.frame))).get? b = some o := fun b o q nm => hideAll_get _ q nm
  have hl : ∀ q ∈ news, (hideAll h ((envOf name scope L a cd :: outer).filterMap (·.frame))).get? q.1 = some q.2 := fun q hq => by
    refine hideAll_get _ (N q hq).1 fun hm => ?_
    rcases kts_mem hm with z | z
    · exact (N q hq).2.1 z
    · obtain ⟨o, ho, _⟩ := (K.frames.mem z).2
      rw [(N q hq).2.2] at ho; cases ho
  obtain ⟨ob, vs, he, hcls, hdf, h1⟩ := hx.there
  have hen : (hideAll h ((envOf name scope L a cd :: outer).filterMap (·.frame))).get? e = none := by
    cases q : (hideAll h ((envOf name scope L a cd :: outer).filterMap (·.frame))).get? e with
    | none => rfl
    | some o => have := of_hideAll _ q; rw [hx.new] at this; cases this
  have hsz : 1 < vs.size := (Array.getElem?_eq_some_iff.mp h1).1
  have h0 : vs[0]? = some (vs[0]'(by lia)) := Array.getElem?_eq_some_iff.mpr ⟨by lia, rfl⟩
  have hsm : h.UpToSlots s'.heap := Heap.UpToSlots.of_keeps hx.keeps
  unfold noteFrame
  simp only [show (envOf name scope L a cd).frame = some L from rfl]
  refine wpAny_bind (wpAny_field he hdf h1 ?_)
  rw [if_neg (by decide)]
  refine wpAny_entryW (base := hideAll h ((envOf name scope L a cd :: outer).filterMap (·.frame))) (Around.frames_deeper K.stack) ((funFrames_hide K'.frames hin).of_keeps fun b o hb _ => ⟨o, hx.keeps b o hb, rfl⟩) rfl he
    (fun b o hb => hx.keeps b o (of_hideAll _ hb)) hen hdf hsz h0 fun h₄ hN => ?_
  obtain ⟨k1, k2, k3, hsm₄⟩ := hN
  rw [hcls] at k3
  refine wpAny_landsW ⟨k1, hen, k2, k3⟩ fun h₅ hheld hsm₅' => ?_
  have hsm₅ : s'.heap.UpToSlots h₅ := Heap.UpToSlots.trans hsm₄ hsm₅'
  obtain ⟨g₅, T₅, F₅, K₅⟩ := kts_ground K F hBG hheld.1 (hsm.trans hsm₅)
  have X₅ : KF.In g₅ := XB.keeps K₅.stays
  have P₅ : TopRead p loose mg mb g₅ := topRead_of (TB.keeps K₅.stays)
  obtain ⟨ob', hob, hobc⟩ := hheld.there
  refine wpAny_handleBy_builtin (X := X) (T := T') (b := true) hexc hnt hsub (name_B F₅ X₅ P₅ ex hv hn' ⟨rfl, ⟨ob', hob, hobc⟩, ?_⟩ hk hx' hd)
  refine lands_againW hheld fun h₆ hfl₆ hsm₆ => ?_
  obtain ⟨g₆, T₆, F₆, K₆⟩ := kts_ground K F hBG hfl₆.1 ((hsm.trans hsm₅).trans hsm₆)
  have Nl : News g₆ L h₆ news := fun q hq => ⟨hfl₆.1 _ _ (hl q hq), (N q hq).2.1, T₆.none_ _ (N q hq).2.2⟩
  exact wpAny_noRaise (k h₆ g₆ T₆ F₆ Nl K₆ (XB.keeps K₆.stays) (TB.keeps K₆.stays) (D.turn T₆))
end
end
section
open PySem PySem.W PyProof.Rows PySem.Spec PySem.Calls
section
variable {prog : Program} {w : World} {A : Around} {E : Value → Shared → Prop} {s : Shared} {env : Env} {target : Expr} {body : List Stmt} {Q : Flow → Shared → Prop}
noncomputable def FEnd (J : Shared → Prop) (Q : Flow → Shared → Prop) (f : Flow) (s : Shared) : Prop :=
  match f with
  | .ret v => Q (.ret v) s
  | .brk => Q .next s
  | .next => J s
  | .cont => J s
theorem for_st {iter : Expr} {pos : Pos}
    (h : wpAny (model prog w) A (eval iter env) (fun xv s₁ => wpAny (model prog w) A (pyIter xv) (fun it s₂ =>
      (Ex7 fun (I : Addr) (fp wr : List Addr) (n : Nat) (P : Nat → Value → Prop) (St : Nat → Heap → Prop) (J : Nat → Shared → Prop) => Cj7 (it = .ref I) (Walks prog w A I fp wr n P St) ((∀ i v (s : Shared) (Q : Unit → Shared → Prop) (E : Value → Shared → Prop), St i s.heap → Q () s → wpAny (model prog w) A (letOwnedTupleGo target (.ref I) v) Q E s)) ((∀ i s', J i s' → St i s'.heap)) (J 0 s₂) ((∀ i s' v h' tk, i < n → J i s' → P i v → St (i + 1) h' → (∀ b o, b ∉ wr → s'.heap.get? b = some o → h'.get? b = some o) →
          wpAny (model prog w) A (assign target env v) (fun _ s₃ => wpAny (model prog w) A (execs body env) (FEnd (J (i + 1)) Q) E s₃) E { s' with heap := h', toks := tk })) (∀ s' h' tk, J n s' → (∀ b o, b ∉ wr → s'.heap.get? b = some o → h'.get? b = some o) → Q .next { s' with heap := h', toks := tk }))) E s₁) E s)
    (hs : ∀ x, foldedSetIterable iter env x = pure x := by intro _; rfl)
    (hE : PassesOwn (model prog w) A env E := by passes_own) :
    wpAny (model prog w) A (exec (.For target iter body [] pos) env) Q E s := by
  refine wpAny_For (wpAny_mono h (fun xv s₁ h₁ => wpAny_mono h₁ (fun it s₂ h₂ => ?_) fun _ _ e => e) fun _ _ e => e) hs
  obtain ⟨I, fp, wr, n, P, St, J, rfl, W, hgo, hst, j0, step, done⟩ := h₂
  refine codeAny_forLoop_any (fun k s' => ∃ i, J i s' ∧ i ≤ n ∧ k = n + 1 - i) ?_ (n + 1) ⟨0, j0, Nat.zero_le _, rfl⟩
  rintro k s' ⟨i, hJ, hi, rfl⟩
  by_cases hlt : i < n
  · refine W.item i _ _ _ hlt (hst i s' hJ) fun v h₁ tk₁ hP st₁ hk₁ => ?_
    refine hgo (i + 1) v _ _ _ st₁ ?_
    refine wpAny_mono (step i s' v h₁ tk₁ hlt hJ hP st₁ hk₁) (fun _ s₃ h₃ => wpAny_mono h₃ (fun f s₄ h₄ => ?_) fun _ _ e => hE _ _ e) fun _ _ e => hE _ _ e
    cases f with
    | ret v => exact h₄
    | brk => exact h₄
    | next => exact ⟨n + 1 - (i + 1), by lia, i + 1, h₄, hlt, rfl⟩
    | cont => exact ⟨n + 1 - (i + 1), by lia, i + 1, h₄, hlt, rfl⟩
  · have hin : i = n := by lia
    subst hin
    exact W.done _ _ _ (hst _ _ hJ) fun h₁ tk₁ hk₁ => wpAny_execs_nil (done s' h₁ tk₁ hJ hk₁)
end
end
section
open PySem PySem.W PyProof.Rows PySem.Spec PySem.Calls
section
variable {prog : Program} {w : World} {A : Around} {E : Value → Shared → Prop} {s : Shared} {env : Env}
noncomputable def CompR (Q : Value → Shared → Prop) (D C : Addr) (r : Result) (s' : Shared) : Prop :=
  match r with
  | .ok _ => ∃ m', s'.heap.Ns C m' ∧ ∀ h', Heap.SameBut C s'.heap h' → Q (.ref D) { s' with heap := h' }
  | .error _ => False
structure CompNew (h h₁ : Heap) (scope : Scope) (cl : List (Str × Addr)) (D C : Addr) (oC : Obj) : Prop where
  isD : D = h.objs.size
  isC : C = h.objs.size + 1
  keep : ∀ b o, h.get? b = some o → h₁.get? b = some o
  list : h₁.get? D = some (LCg.lst [])
  names : h₁.get? C = some oC
  ns : LCg.NsObj oC fun _ => none
  cells : ∀ n c, (n, c) ∈ cellsFrom (C + 1) scope.names [] → h₁.get? c = some { cls := .type "cell", data := .cell none } ∧ C < c
theorem pushCells_at : ∀ (names : List (Str × NameKind)) (h : Heap) (acc : List (Str × Addr)) (lo : Nat), (∀ n c, (n, c) ∈ acc → h.get? c = some { cls := .type "cell", data := .cell none } ∧ lo ≤ c) → lo ≤ h.objs.size →
    ∀ n c, (n, c) ∈ cellsFrom h.objs.size names acc → (pushCells h names).get? c = some { cls := .type "cell", data := .cell none } ∧ lo ≤ c
  | [], _, _, _, x, _ => x
  | (name, kind) :: r, h, acc, lo, x, hlo => by
    unfold pushCells cellsFrom
    split
    · have := pushCells_at r (h.push { cls := .type "cell", data := .cell none }) ((name, h.objs.size) :: acc) lo (fun n c hm => by
        rcases List.mem_cons.mp hm with e | e
        · cases e; exact ⟨Heap.get?_push_size _ rfl, hlo⟩
        · exact ⟨Heap.get?_push_of_some _ (x n c e).1, (x n c e).2⟩) (by rw [Heap.size_push]; exact Nat.le_succ_of_le hlo)
      rw [Heap.size_push] at this
      exact this
    · exact pushCells_at r h acc lo x hlo
theorem newFunctionEnv_comp {scope : Scope} {cl : List (Str × Addr)} {Q : Env → Shared → Prop}
    (hQ : ∀ h' oC, h'.get? s.heap.objs.size = some oC → LCg.NsObj oC (fun _ => none) → (∀ b o, s.heap.get? b = some o → h'.get? b = some o) →
      (∀ n c, (n, c) ∈ cellsFrom (s.heap.objs.size + 1) scope.names [] → h'.get? c = some { cls := .type "cell", data := .cell none } ∧ s.heap.objs.size < c) →
      Q (newEnv scope s.heap.objs.size env.globals (cellsFrom (s.heap.objs.size + 1) scope.names cl) env.qual none .none (some env) builtinsNs) { s with heap := h' }) :
    wpAny (model prog w) A (newFunctionEnv scope env.globals cl [] env.qual none .none (some env)) Q E s := by
  simp only [newFunctionEnv, Option.isSome_some, if_true]
  refine wpAny_bind (wpAny_alloc ?_)
  refine wpAny_bind (wpAny_layCells _ (fun name kind cells => by cases hkc : kind == NameKind.cell <;> simp [hkc]) _ _ _ _ ?_)
  rw [List.forIn_nil]
  refine wpAny_bind (wpAny_pure (wpAny_pure ?_))
  have e1 : ({ s with heap := s.heap.push { cls := .type "dict", data := .dict #[] } } : Shared).heap.objs.size = s.heap.objs.size + 1 := Heap.size_push ..
  rw [e1]
  refine hQ _ { cls := .type "dict", data := .dict #[] } (pushCells_keeps _ _ _ _ (Heap.get?_push_size _ rfl)) ?_ (fun b o e => pushCells_keeps _ _ b o (Heap.get?_push_of_some _ e)) ?_
  · refine ⟨#[], 0, rfl, ?_, fun _ => rfl⟩
    intro e he; simp at he
  · have := pushCells_at scope.names (s.heap.push { cls := .type "dict", data := .dict #[] }) [] (s.heap.objs.size + 1) (fun _ _ hm => nomatch hm) (by rw [Heap.size_push]; exact Nat.le_refl _)
    rw [Heap.size_push] at this
    exact this
theorem comp_open {elt target iter : Expr} {ifs : List Expr} {gs : List Comprehension} {scope : Scope} {cl : List (Str × Addr)} {pos : Pos} {Q : Value → Shared → Prop}
    (hclos : closureFor scope env = pure cl) (hkind : scope.kind = .function) (hnames : ∀ y ∈ scope.names, y.2 = .local → scope.names.lookup y.1 = some .local)
    (h : wpAny (model prog w) A (eval iter env) (fun xv s₁ => wpAny (model prog w) A (pyIter xv) (fun it s₂ => (Ex6 fun (I : Addr) (fp wr : List Addr) (n : Nat) (P : Nat → Value → Prop) (St : Nat → Heap → Prop) => Cj4 (it = .ref I) (Walks prog w A I fp wr n P St) (St 0 s₂.heap) (∀ D C h₁ oC, CompNew s₂.heap h₁ scope cl D C oC →
        codeAny (model prog w) A (.compLoop (.ListComp elt (⟨target, iter, ifs, 0⟩ :: gs) scope pos) 0 (.ref I) (.ref D) (compEnvC scope (cellsFrom (C + 1) scope.names cl) C env)) (CompR Q D C) { s₂ with heap := h₁ }))) E s₁) E s)
    (hs : ∀ x, foldedSetIterable iter env x = pure x := by intro _; rfl) :
    wpAny (model prog w) A (eval (.ListComp elt (⟨target, iter, ifs, 0⟩ :: gs) scope pos) env) Q E s := by
  rw [eval_ListComp]
  refine wpAny_comprehension_free (use := none) rfl hs hclos hkind hnames (wpAny_mono h (fun xv s₁ h₁ => wpAny_mono h₁ (fun it s₂ h₂ => ?_) fun _ _ e => e) fun _ _ e => e)
  obtain ⟨I, fp, wr, n, P, St, rfl, W, hst, hl⟩ := h₂
  refine wpAny_newObj_type (newFunctionEnv_comp fun h₁ oC e1 e2 e3 e4 => ?_)
  have hsz : ({ s₂ with heap := s₂.heap.push { cls := .type "list", dict := none, data := .seq ([] : List Value).toArray } } : Shared).heap.objs.size = s₂.heap.objs.size + 1 := Heap.size_push ..
  rw [hsz] at e1 e4 ⊢
  have old : ∀ b o, s₂.heap.get? b = some o → h₁.get? b = some o := fun b o e => e3 b o (Heap.get?_push_of_some _ e)
  have L := hl s₂.heap.objs.size (s₂.heap.objs.size + 1) h₁ oC ⟨rfl, rfl, old, e3 _ _ (Heap.get?_push_size _ rfl), e1, e2, e4⟩
  have fin : codeAny (model prog w) A (.compLoop (.ListComp elt (⟨target, iter, ifs, 0⟩ :: gs) scope pos) 0 (.ref I) (.ref s₂.heap.objs.size) (compEnvC scope (cellsFrom (s₂.heap.objs.size + 1 + 1) scope.names cl) (s₂.heap.objs.size + 1) env))
      (compPost (model prog w) A E none Q (.ref s₂.heap.objs.size) (s₂.heap.objs.size + 1)) { s₂ with heap := h₁ } := codeAny_mono L fun r s' hr => by
    cases r with
    | ok f => exact hr
    | error e => exact absurd hr (by intro q; exact q)
  exact codeAny_compStart_list fin (W.self 0 _ _ _ (W.frame _ _ _ hst fun b _ o e => old b o e) fin)
theorem compLoop_st {elt target iter : Expr} {ifs : List Expr} {scope : Scope} {pos : Pos} {I D : Addr} {fp wr : List Addr} {n : Nat} {P : Nat → Value → Prop} {St : Nat → Heap → Prop} {R : Result → Shared → Prop}
    (J : Nat → Shared → Prop) (W : Walks prog w A I fp wr n P St)
    (hgo : ∀ i v (s : Shared) (Q : Unit → Shared → Prop) (E : Value → Shared → Prop), St i s.heap → Q () s → wpAny (model prog w) A (letOwnedTupleGo target (.ref I) v) Q E s)
    (hSt : ∀ i s', J i s' → St i s'.heap) (j0 : J 0 s)
    (step : ∀ i s' v h' tk, i < n → J i s' → P i v → St (i + 1) h' → (∀ b o, b ∉ wr → s'.heap.get? b = some o → h'.get? b = some o) →
      wpAny (model prog w) A (assign target env v) (fun _ s₂ =>
          wpAny (model prog w) A (forIn ifs true fun c r => if r = true then do let ok ← isTrue c env (eval c env); pure (ForInStep.yield ok) else pure (ForInStep.yield r)) (fun ok s₃ =>
            if ok = true then wpAny (model prog w) A (eval elt env) (fun x s₄ =>
              wpAny (model prog w) A (call (.builtin "list.append") [.ref D, x]) (fun _ s₅ => J (i + 1) s₅) (fun _ _ => False) s₄) (fun _ _ => False) s₃
            else J (i + 1) s₃) (fun _ _ => False) s₂) (fun _ _ => False) { s' with heap := h', toks := tk })
    (done : ∀ s' h' tk, J n s' → (∀ b o, b ∉ wr → s'.heap.get? b = some o → h'.get? b = some o) → R (.ok .next) { s' with heap := h', toks := tk }) :
    codeAny (model prog w) A (.compLoop (.ListComp elt [⟨target, iter, ifs, 0⟩] scope pos) 0 (.ref I) (.ref D) env) R s := by
  refine codeAny_loop rfl (fun k s' => ∃ i, J i s' ∧ i ≤ n ∧ k = n + 1 - i) (fun k s' hI => ?_) (n + 1) ⟨0, j0, Nat.zero_le _, rfl⟩
  obtain ⟨i, hJ, hi, rfl⟩ := hI
  show wpAny _ A ((compTurn (.ListComp elt [⟨target, iter, ifs, 0⟩] scope pos) 0 (.ref I) (.ref D) env).onRaise (fun x => do noteFrame x env; theTreesLotGoes x)) _ _ _
  refine wpAny_noted ?_
  rw [compTurn_list]
  refine wpAny_bind (wpAny_standAt (wpAny_bind ?_))
  by_cases hlt : i < n
  · refine W.item i _ _ _ hlt (hSt i s' hJ) fun v h₁ tk₁ hP st₁ hk₁ => ?_
    dsimp only
    refine wpAny_bind (hgo (i + 1) v _ _ _ st₁ ?_)
    refine wpAny_bind (wpAny_mono (step i s' v h₁ tk₁ hlt hJ hP st₁ hk₁) (fun _ s₂ h₂ => wpAny_bind (wpAny_mono h₂ (fun ok s₃ h₃ => ?_) fun _ _ h' => h'.elim)) fun _ _ h' => h'.elim)
    cases ok with
    | false => exact wpAny_pure ⟨rfl, n + 1 - (i + 1), by lia, i + 1, h₃, hlt, rfl⟩
    | true =>
      exact wpAny_bind (wpAny_bind (wpAny_mono h₃ (fun x s₄ h₄ => wpAny_bind (wpAny_mono h₄ (fun _ s₅ h₅ => wpAny_pure (wpAny_pure ⟨rfl, n + 1 - (i + 1), by lia, i + 1, h₅, hlt, rfl⟩)) fun _ _ h' => h'.elim)) fun _ _ h' => h'.elim))
  · obtain rfl : i = n := Nat.le_antisymm hi (Nat.not_lt.mp hlt)
    exact W.done _ _ _ (hSt _ _ hJ) fun h₁ tk₁ hk₁ => wpAny_pure (done s' h₁ tk₁ hJ hk₁)
end
end
section
open PySem PySem.W PyProof.Rows PySem.Spec PySem.Calls
open LCg
section
variable {prog : Program} {w : World} {A : Around} {E : Value → Shared → Prop} {s : Shared} {env : Env} {h₀ : Heap} {L : Addr} {m : Str → Option Value}
noncomputable abbrev cellE : Obj := { cls := .type "cell", data := .cell none }
noncomputable def CEnd (h₀ : Heap) (L : Addr) (m : Str → Option Value) (s₁ : Shared) (I : Addr) (oI : Obj) (C D : Addr) (ys : List Value) (Pr : List (Addr × Obj) → Prop) (s₃ : Shared) : Prop :=
  (Ex5 fun h' tk oC m₂ news' => Cj6 (s₃ = { s₁ with heap := h', toks := tk }) (Fr h₀ L h' m) (News h₀ L h' ((I, oI) :: (C, oC) :: (D, lst ys) :: news')) (NsObj oC m₂) (Off3 I C D news') (Pr news'))
noncomputable def CTurn (prog : Program) (w : World) (A : Around) (h₀ : Heap) (L : Addr) (m : Str → Option Value) (s : Shared) (elt target : Expr) (ifs : List Expr) (cenv : Env) (I C D : Addr) (P : Nat → Value → Prop) (Rel : Nat → List Value → List (Addr × Obj) → Prop) (n : Nat) : Prop :=
  ∀ i v h tk oI oC m₂ ys news', i < n → P i v → Fr h₀ L h m → News h₀ L h ((I, oI) :: (C, oC) :: (D, lst ys) :: news') → NsObj oC m₂ → Off3 I C D news' → ((@Ne Nat I C) ∧ (@Ne Nat I D) ∧ (@Ne Nat C D)) → Rel i ys news' →
    wpAny (model prog w) A (assign target cenv v) (fun _ s₂ =>
      wpAny (model prog w) A (forIn ifs true fun c r => if r = true then do let ok ← isTrue c cenv (eval c cenv); pure (ForInStep.yield ok) else pure (ForInStep.yield r)) (fun ok s₃ =>
        if ok = true then wpAny (model prog w) A (eval elt cenv) (fun y s₄ => CEnd h₀ L m { s with heap := h, toks := tk } I oI C D ys (Rel (i + 1) (ys ++ [y])) s₄) (fun _ _ => False) s₃
        else CEnd h₀ L m { s with heap := h, toks := tk } I oI C D ys (Rel (i + 1) ys) s₃) (fun _ _ => False) s₂) (fun _ _ => False) { s with heap := h, toks := tk }
theorem comp_core {elt target iter : Expr} {ifs : List Expr} {scope : Scope} {pos : Pos} {I C D : Addr} {fp : List Addr} {n : Nat} {P : Nat → Value → Prop} {St : Nat → Heap → Prop} {S : List (Addr × Obj) → Prop} {Rel : Nat → List Value → List (Addr × Obj) → Prop} {R : Result → Shared → Prop} {cenv : Env} {oI oC : Obj} {m₂ : Str → Option Value} {news : List (Addr × Obj)}
    (W : Walks prog w A I fp [I] n P St) (hsz : n ≤ sizeLine)
    (hgo : ∀ i v (s : Shared) (Q : Unit → Shared → Prop) (E : Value → Shared → Prop), St i s.heap → Q () s → wpAny (model prog w) A (letOwnedTupleGo target (.ref I) v) Q E s)
    (hIo : ∀ i h, St i h → ∃ o, h.get? I = some o)
    (hSt : ∀ i h h' o nw, St i h → h.get? I = some o → h'.get? I = some o → (∀ b o, h₀.get? b = some o → h'.get? b = some o) → News h₀ L h' nw → S nw → St i h')
    (hst : St 0 s.heap) (F : Fr h₀ L s.heap m) (N : News h₀ L s.heap ((I, oI) :: (C, oC) :: (D, lst []) :: news)) (hC : NsObj oC m₂) (off : Off3 I C D news) (ne : (@Ne Nat I C) ∧ (@Ne Nat I D) ∧ (@Ne Nat C D))
    (hS : ∀ i ys nw, Rel i ys nw → S nw) (hR0 : Rel 0 [] news) (turn : CTurn prog w A h₀ L m s elt target ifs cenv I C D P Rel n)
    (done : ∀ h tk ys oC m' news', Fr h₀ L h m → News h₀ L h ((C, oC) :: (D, lst ys) :: news') → NsObj oC m' → Off3 I C D news' → Rel n ys news' → R (.ok .next) { s with heap := h, toks := tk }) :
    codeAny (model prog w) A (.compLoop (.ListComp elt [⟨target, iter, ifs, 0⟩] scope pos) 0 (.ref I) (.ref D) cenv) R s := by
  have zI := N (I, oI) List.mem_cons_self
  have zC := N (C, oC) (.tail _ List.mem_cons_self)
  have zD := N (D, lst []) (.tail _ (.tail _ List.mem_cons_self))
  refine compLoop_st (fun i s' => (Ex6 fun h' tk ys oC m' news' => Cj8 (s' = { s with heap := h', toks := tk }) (ys.length ≤ i) (St i h') (Fr h₀ L h' m) (News h₀ L h' ((C, oC) :: (D, lst ys) :: news')) (NsObj oC m') (Off3 I C D news') (Rel i ys news'))) W hgo ?_ ?_ ?_ ?_
  · rintro i s' ⟨h', tk, ys, oC, m', news', rfl, _, hst, _⟩
    exact hst
  · exact ⟨s.heap, s.toks, [], oC, m₂, news, rfl, Nat.le_refl _, hst, F, fun p hp => N p (.tail _ hp), hC, off, hR0⟩
  · rintro i s' v h' tk' hi ⟨h1, tk, ys, oC, m', news', rfl, hyl, hst1, F1, N1, hC1, off1, hRel⟩ hP hst' keep
    obtain ⟨oI, heI⟩ := hIo _ _ hst'
    have F2 : Fr h₀ L h' m := fr_but F1 keep (Ne.symm zI.2.1) zI.2.2
    have off2 := off1.mem
    have N2 : News h₀ L h' ((I, oI) :: (C, oC) :: (D, lst ys) :: news') := fun p hp => by
      rcases List.mem_cons.mp hp with rfl | hp
      · exact ⟨heI, zI.2⟩
      · refine ⟨keep _ _ ?_ (N1 p hp).1, (N1 p hp).2⟩
        rcases List.mem_cons.mp hp with rfl | hp
        · simpa using Ne.symm ne.1
        rcases List.mem_cons.mp hp with rfl | hp
        · simpa using Ne.symm ne.2.1
        · simpa using (off2 p hp).1
    refine wpAny_mono (turn i v h' tk' oI oC m' ys news' hi hP F2 N2 hC1 off1 ne hRel) (fun _ s₂ h₂ => wpAny_mono h₂ (fun ok s₃ h₃ => ?_) fun _ _ e => e) fun _ _ e => e
    cases ok with
    | false =>
      obtain ⟨h3, tk3, oC3, m3, nw3, rfl, F3, N3, hC3, off3, hR3⟩ := h₃
      exact ⟨h3, tk3, ys, oC3, m3, nw3, rfl, Nat.le_succ_of_le hyl, hSt _ _ _ _ _ hst' heI (N3 _ List.mem_cons_self).1 F3.keep (fun p hp => N3 p (.tail _ (.tail _ (.tail _ hp)))) (hS _ _ _ hR3), F3, fun p hp => N3 p (.tail _ hp), hC3, off3, hR3⟩
    | true =>
      refine wpAny_mono (show wpAny _ _ _ _ _ _ from h₃) (fun y s₄ h₄ => ?_) fun _ _ e => e
      obtain ⟨h3, tk3, oC3, m3, nw3, rfl, F3, N3, hC3, off3, hR3⟩ := h₄
      have qD := N3 (D, lst ys) (.tail _ (.tail _ List.mem_cons_self))
      refine append_at (hsz := by show ys.toArray.size ≤ sizeLine; rw [List.size_toArray]; lia) qD.1 fun h₅ hs₅ hD₅ => ?_
      have hst3 : St (i + 1) h3 := hSt _ _ _ _ _ hst' heI (N3 _ List.mem_cons_self).1 F3.keep (fun p hp => N3 p (.tail _ (.tail _ (.tail _ hp)))) (hS _ _ _ hR3)
      have F5 : Fr h₀ L h₅ m := F3.change hs₅ qD.2.1 qD.2.2
      have off4 := off3.mem
      have N5 : News h₀ L h₅ ((I, oI) :: (C, oC3) :: (D, lst (ys ++ [y])) :: nw3) := fun p hp => by
        rcases List.mem_cons.mp hp with rfl | hp
        · exact ⟨hs₅.extBut _ _ ne.2.1 (N3 _ List.mem_cons_self).1, (N3 _ List.mem_cons_self).2⟩
        rcases List.mem_cons.mp hp with rfl | hp
        · exact ⟨hs₅.extBut _ _ ne.2.2 (N3 _ (.tail _ List.mem_cons_self)).1, (N3 _ (.tail _ List.mem_cons_self)).2⟩
        rcases List.mem_cons.mp hp with rfl | hp
        · exact ⟨hD₅.trans (congrArg some (lst_snoc ys y)), qD.2⟩
        · have z := N3 p (.tail _ (.tail _ (.tail _ hp)))
          exact ⟨hs₅.extBut _ _ (off4 p hp).2.2 z.1, z.2⟩
      refine ⟨h₅, tk3, ys ++ [y], oC3, m3, nw3, rfl, by simp; lia, hSt _ _ _ _ _ hst3 (N3 _ List.mem_cons_self).1 (N5 _ List.mem_cons_self).1 F5.keep (fun p hp => N5 p (.tail _ (.tail _ (.tail _ hp)))) (hS _ _ _ hR3), F5, fun p hp => N5 p (.tail _ hp), hC3, off3, hR3⟩
  · rintro s' h' tk' ⟨h1, tk, ys, oC, m', news', rfl, hyl, hst1, F1, N1, hC1, off1, hRel⟩ keep
    have off2 := off1.mem
    refine done h' tk' ys oC m' news' (fr_but F1 keep (Ne.symm zI.2.1) zI.2.2) (fun p hp => ⟨keep _ _ ?_ (N1 p hp).1, (N1 p hp).2⟩) hC1 off1 hRel
    rcases List.mem_cons.mp hp with rfl | hp
    · simpa using Ne.symm ne.1
    rcases List.mem_cons.mp hp with rfl | hp
    · simpa using Ne.symm ne.2.1
    · simpa using (off2 p hp).1
end
end
section
open PySem PySem.W PyProof.Rows PySem.Spec PySem.Calls
open LCg
section
variable {prog : Program} {w : World} {A : Around} {E : Value → Shared → Prop} {s : Shared} {env : Env} {h₀ : Heap} {L : Addr} {m : Str → Option Value} {news : List (Addr × Obj)}
noncomputable def cellNews (scope : Scope) (C : Addr) : List (Addr × Obj) := (cellsFrom (C + 1) scope.names []).map fun p => (p.2, cellE)
structure CSrc (prog : Program) (w : World) (A : Around) (h₀ : Heap) (L : Addr) (m : Str → Option Value) (S : List (Addr × Obj) → Prop) (P : Nat → Value → Prop) (n : Nat) (news : List (Addr × Obj)) (I : Addr) (h : Heap) : Prop where
  it : (Ex2 fun fp St => Cj5 (Walks prog w A I fp [I] n P St) ((∀ target i v (s : Shared) (Q : Unit → Shared → Prop) (E : Value → Shared → Prop), St i s.heap → Q () s → wpAny (model prog w) A (letOwnedTupleGo target (.ref I) v) Q E s)) ((∀ i h, St i h → ∃ o, h.get? I = some o)) ((∀ i h h' o nw, St i h → h.get? I = some o → h'.get? I = some o → (∀ b o, h₀.get? b = some o → h'.get? b = some o) → News h₀ L h' nw → S nw → St i h')) (St 0 h))
  sz : n ≤ sizeLine
  fr : Fr h₀ L h m
  nw : News h₀ L h news
  new : I ≠ L ∧ h₀.get? I = none
  off : ∀ p ∈ news, p.1 ≠ I
noncomputable def CRest (prog : Program) (w : World) (A : Around) (h₀ : Heap) (L : Addr) (m : Str → Option Value) (env : Env) (elt target : Expr) (ifs : List Expr) (scope : Scope) (cl : List (Str × Addr)) (S : List (Addr × Obj) → Prop) (P : Nat → Value → Prop) (n : Nat) (news : List (Addr × Obj)) (I : Addr) (s : Shared)
    (Fin : Addr → Addr → Shared → Prop) : Prop :=
  ∀ (D C : Addr) (s₃ : Shared), (∃ h, s₃ = { s with heap := h }) → (∀ p ∈ news, p.1 < D) → D < C → (Ex1 fun (Rel : Nat → List Value → List (Addr × Obj) → Prop) => Cj4 ((∀ i ys nw, Rel i ys nw → S nw)) (Rel 0 [] (cellNews scope C ++ news)) (CTurn prog w A h₀ L m s₃ elt target ifs (compEnvC scope (cellsFrom (C + 1) scope.names cl) C env) I C D P Rel n) (∀ h tk ys oC m' news', Fr h₀ L h m → News h₀ L h ((C, oC) :: (D, lst ys) :: news') → NsObj oC m' → Off3 I C D news' → (@Ne Nat C D) → Rel n ys news' → Fin D C { s₃ with heap := h, toks := tk }))
theorem comp_use {elt target iter : Expr} {ifs : List Expr} {scope : Scope} {cl : List (Str × Addr)} {pos : Pos} {s₂ : Shared} {I : Addr} {S : List (Addr × Obj) → Prop} {P : Nat → Value → Prop} {n : Nat} {Fin : Addr → Addr → Shared → Prop}
    (src : CSrc prog w A h₀ L m S P n news I s₂.heap) (rest : CRest prog w A h₀ L m env elt target ifs scope cl S P n news I s₂ Fin) {D C : Addr} {h₁ : Heap} {oC : Obj} (new : CompNew s₂.heap h₁ scope cl D C oC) :
    codeAny (model prog w) A (.compLoop (.ListComp elt [⟨target, iter, ifs, 0⟩] scope pos) 0 (.ref I) (.ref D) (compEnvC scope (cellsFrom (C + 1) scope.names cl) C env)) (fun r s' => match r with | .ok _ => Fin D C s' | .error _ => False) { s₂ with heap := h₁ } := by
  obtain ⟨⟨fp, St, W, hgo, hIo, hSt, hst⟩, hsz, F, N, ⟨hIL, hI₀⟩, off⟩ := src
  obtain ⟨isD, isC, keep, hl, hn, hns, hcells⟩ := new
  have hDC : D < C := by rw [isD, isC]; exact Nat.lt_succ_self _
  obtain ⟨Rel, hS, hR0, turn, fin⟩ := rest D C { s₂ with heap := h₁ } ⟨h₁, rfl⟩ (fun p hp => by rw [isD]; exact Heap.lt_size (N p hp).1) hDC
  obtain ⟨oI, hoI⟩ := hIo _ _ hst
  have hIlt : I < D := by rw [isD]; exact Heap.lt_size hoI
  have fresh₀ : ∀ a, s₂.heap.objs.size ≤ a → h₀.get? a = none := fun a ha => by
    cases e : h₀.get? a with
    | none => rfl
    | some o' => exact absurd (Heap.lt_size (F.keep a o' e)) (Nat.not_lt.mpr ha)
  have hLlt : L < D := by rw [isD]; exact F.ns.lt
  have ne : (@Ne Nat I C) ∧ (@Ne Nat I D) ∧ (@Ne Nat C D) := ⟨Nat.ne_of_lt (Nat.lt_trans hIlt hDC), Nat.ne_of_lt hIlt, Nat.ne_of_gt hDC⟩
  have F1 : Fr h₀ L h₁ m := F.keeps keep
  have cz : ∀ p ∈ cellNews scope C, h₁.get? p.1 = some p.2 ∧ C < p.1 := fun p hp => by
    obtain ⟨q, hq, e⟩ := List.mem_map.mp hp
    subst e
    exact hcells q.1 q.2 hq
  have offN : Off3 I C D (cellNews scope C ++ news) := Off3.of fun p hp => by
    rcases List.mem_append.mp hp with h | h
    · have := (cz p h).2
      exact ⟨Nat.ne_of_gt (Nat.lt_trans hIlt (Nat.lt_trans hDC this)), Nat.ne_of_gt this, Nat.ne_of_gt (Nat.lt_trans hDC this)⟩
    · have : p.1 < D := by rw [isD]; exact Heap.lt_size (N p h).1
      exact ⟨off p h, Nat.ne_of_lt (Nat.lt_trans this hDC), Nat.ne_of_lt this⟩
  have hle : ∀ a, D ≤ a → a ≠ L ∧ h₀.get? a = none := fun a ha => ⟨Nat.ne_of_gt (Nat.lt_of_lt_of_le hLlt ha), fresh₀ _ (isD ▸ ha)⟩
  have N1 : News h₀ L h₁ ((I, oI) :: (C, oC) :: (D, lst []) :: (cellNews scope C ++ news)) := fun p hp => by
    rcases List.mem_cons.mp hp with rfl | hp
    · exact ⟨keep _ _ hoI, hIL, hI₀⟩
    rcases List.mem_cons.mp hp with rfl | hp
    · exact ⟨hn, hle _ (Nat.le_of_lt hDC)⟩
    rcases List.mem_cons.mp hp with rfl | hp
    · exact ⟨hl, hle _ (Nat.le_refl _)⟩
    rcases List.mem_append.mp hp with h | h
    · exact ⟨(cz p h).1, hle _ (Nat.le_of_lt (Nat.lt_trans hDC (cz p h).2))⟩
    · exact ⟨keep _ _ (N p h).1, (N p h).2⟩
  exact comp_core W hsz (hgo _) hIo hSt (W.frame _ _ _ hst fun b _ o e => keep b o e) F1 N1 hns offN ne hS hR0 turn fun h tk ys oC m' nw F N hC off hR => fin h tk ys oC m' nw F N hC off ne.2.2 hR
theorem comp_eval {elt target iter : Expr} {ifs : List Expr} {scope : Scope} {cl : List (Str × Addr)} {pos : Pos} {Q : Value → Shared → Prop}
    (F₀ : Fr h₀ L s.heap m) (hclos : closureFor scope env = pure cl) (hkind : scope.kind = .function) (hnames : ∀ y ∈ scope.names, y.2 = .local → scope.names.lookup y.1 = some .local)
    (h : wpAny (model prog w) A (eval iter env) (fun xv s₁ => wpAny (model prog w) A (pyIter xv) (fun it s₂ => (Ex5 fun I S P n news => Cj3 (it = .ref I) (CSrc prog w A h₀ L m S P n news I s₂.heap) (CRest prog w A h₀ L m env elt target ifs scope cl S P n news I s₂ (fun D C s' => ∃ m', s'.heap.Ns C m' ∧ ∀ h', Heap.SameBut C s'.heap h' → Q (.ref D) { s' with heap := h' })))) E s₁) E s)
    (hs : ∀ x, foldedSetIterable iter env x = pure x := by intro _; rfl) :
    wpAny (model prog w) A (eval (.ListComp elt [⟨target, iter, ifs, 0⟩] scope pos) env) Q E s := by
  refine comp_open hclos hkind hnames (wpAny_mono h (fun xv s₁ h₁ => wpAny_mono h₁ (fun it s₂ h₂ => ?_) fun _ _ e => e) fun _ _ e => e) hs
  obtain ⟨I, S, P, n, news, rfl, src, rest⟩ := h₂
  obtain ⟨⟨fp, St, W, hgo, hIo, hSt, hst⟩, _⟩ := id src
  exact ⟨I, fp, [I], n, P, St, rfl, W, hst, fun D C h₁ oC new => codeAny_mono (comp_use src rest new) fun r s' hr => by
    cases r with
    | ok f => exact hr
    | error e => exact hr⟩
theorem comp_asg {elt target iter : Expr} {ifs : List Expr} {scope : Scope} {cl : List (Str × Addr)} {pos spos : Pos} {y : Str} {py : Pos} {Q : Flow → Shared → Prop}
    (hsw : swapsWith (.ListComp elt [⟨target, iter, ifs, 0⟩] scope pos) (some (.Name y py)) spos.line env = pure true)
    (F₀ : Fr h₀ L s.heap m) (hclos : closureFor scope env = pure cl) (hkind : scope.kind = .function) (hnames : ∀ y ∈ scope.names, y.2 = .local → scope.names.lookup y.1 = some .local)
    (h : wpAny (model prog w) A (eval iter env) (fun xv s₁ => wpAny (model prog w) A (pyIter xv) (fun it s₂ => (Ex5 fun I S P n news => Cj3 (it = .ref I) (CSrc prog w A h₀ L m S P n news I s₂.heap) (CRest prog w A h₀ L m env elt target ifs scope cl S P n news I s₂ (fun D C s' => wpAny (model prog w) A (assign (.Name y py) env (.ref D)) (fun _ s'' => ∃ m', s''.heap.Ns C m' ∧ ∀ h', Heap.SameBut C s''.heap h' → Q .next { s'' with heap := h' }) E s')))) E s₁) E s)
    (hs : ∀ x, foldedSetIterable iter env x = pure x := by intro _; rfl) :
    wpAny (model prog w) A (exec (.Assign [.Name y py] (.ListComp elt [⟨target, iter, ifs, 0⟩] scope pos) spos) env) Q E s := by
  rw [exec_Assign_Name_used _ _ _ _ hsw]
  refine wpAny_bind (wpAny_standAt (wpAny_bind ?_))
  show wpAny _ A (do let _ ← comprehension (.ListComp elt [⟨target, iter, ifs, 0⟩] scope pos) scope env _ (newList []) false (eval iter env) (some (assign (.Name y py) env))) _ _ s
  refine wpAny_bind (wpAny_mono (wpAny_comprehension_free (use := some (assign (.Name y py) env)) (Q := fun _ s' => Q .next s') rfl hs hclos hkind hnames
    (wpAny_mono h (fun xv s₁ h₁ => wpAny_mono h₁ (fun it s₂ h₂ => ?_) fun _ _ e => e) fun _ _ e => e)) (fun _ s' hq => wpAny_pure (wpAny_pure hq)) fun _ _ e => e)
  obtain ⟨I, S, P, n, news, rfl, src, rest⟩ := h₂
  obtain ⟨⟨fp, St, W, hgo, hIo, hSt, hst⟩, _⟩ := id src
  refine wpAny_newObj_type (newFunctionEnv_comp fun h₁ oC e1 e2 e3 e4 => ?_)
  have hsz : ({ s₂ with heap := s₂.heap.push { cls := .type "list", dict := none, data := .seq ([] : List Value).toArray } } : Shared).heap.objs.size = s₂.heap.objs.size + 1 := Heap.size_push ..
  rw [hsz] at e1 e4 ⊢
  have old : ∀ b o, s₂.heap.get? b = some o → h₁.get? b = some o := fun b o e => e3 b o (Heap.get?_push_of_some _ e)
  have L := comp_use (iter := iter) (pos := pos) src rest (D := s₂.heap.objs.size) (C := s₂.heap.objs.size + 1) (h₁ := h₁) (oC := oC) ⟨rfl, rfl, old, e3 _ _ (Heap.get?_push_size _ rfl), e1, e2, e4⟩
  have fin := codeAny_mono L (fun r s' hr => show compPost (model prog w) A E (some (assign (.Name y py) env)) (fun _ s' => Q .next s') (.ref s₂.heap.objs.size) (s₂.heap.objs.size + 1) r s' by
    cases r with
    | ok f => exact hr
    | error e => exact absurd hr (by intro q; exact q))
  exact codeAny_compStart_list fin (W.self 0 _ _ _ (W.frame _ _ _ hst fun b _ o e => old b o e) fin)
theorem aend {C : Addr} {oC : Obj} {m₂ : Str → Option Value} {G : Shared → Prop} {s : Shared} (F : Fr h₀ L s.heap m) (N : News h₀ L s.heap ((C, oC) :: news)) (hC : NsObj oC m₂) (off : ∀ p ∈ news, p.1 ≠ C)
    (k : ∀ h'', Fr h₀ L h'' m → News h₀ L h'' news → G { s with heap := h'' }) : ∃ m', s.heap.Ns C m' ∧ ∀ h', Heap.SameBut C s.heap h' → G { s with heap := h' } := by
  have z := N (C, oC) List.mem_cons_self
  exact ⟨m₂, hC.ns z.1, fun h' hs => k h' (F.change hs z.2.1 z.2.2) fun p hp => ⟨hs.extBut _ _ (off p hp) (N p (.tail _ hp)).1, (N p (.tail _ hp)).2⟩⟩
theorem asg_own {C : Addr} {oC : Obj} {m₂ : Str → Option Value} {g : Obj → List (Addr × Obj)} {scope : Scope} {cl : List (Str × Addr)} {x : Str} {px : Pos} {v : Value} {Q : Unit → Shared → Prop}
    (F : Fr h₀ L s.heap m) (N : News h₀ L s.heap news) (U : UpdF C oC news g) (hC : NsObj oC m₂) (hx : scope.names.lookup x = some .local) (hkind : scope.kind = .function)
    (h : ∀ h' oC', Fr h₀ L h' m → News h₀ L h' (g oC') → NsObj oC' (fun y => if y = x then some v else m₂ y) → Q () { s with heap := h', toks := s.toks + 1 }) :
    wpAny (model prog w) A (assign (.Name x px) (compEnvC scope cl C env) v) Q E s := by
  obtain ⟨pre, post, rfl, hg, a, b⟩ := U.split
  have z := N (C, oC) (List.mem_append_right _ (.head _))
  refine wpAny_assign_Name (wpAny_storeName_local (lookup_relabel_local hx) (hC.ns z.1) (fun h₃ hn₃ hs₃ => ?_) (by simp [compEnvC, relabel, hkind]))
  obtain ⟨oC', heC, hoC⟩ := ns_obj hn₃
  exact h h₃ oC' (F.change hs₃ z.2.1 z.2.2) (hg oC' ▸ N.setIn a b hs₃ heC) hoC
end
end
section
open PySem PySem.W PyProof.Rows PySem.Spec PySem.Calls
theorem ldE {M : Model} {A : Around} {E : Value → Shared → Prop} {s : Shared} {h₀ : Heap} {m : Str → Option Value} {env : Env} {x : Str} {pos : Pos} {v : Value} {Q : Value → Shared → Prop} (F : Fr h₀ env.locals s.heap m) (hv : m x = some v) (h : Q v s)
    (hk : env.scope.kind = .function := by rfl) (hl : env.kindOf x = some .local := by rfl) (hd : (x == ("__debug__" : Str)) = false := by decide) :
    wpAny M A (eval (.Name x pos) env) Q E s := wpAny_Name (wpAny_loadName_local hk hl F.ns hv h) hd
section
variable {prog : Program} {w : World} {A₀ A : Around} {s : Shared} {base h₀ : Heap} {outer : List Env} {L : Addr} {m : Str → Option Value} {env : Env} {news : List (Addr × Obj)} {K : Frag} {p : Program} {loose : List Str} {mean : ExcName → Option Value} {mg mb : Str → Option Value} {R : Result → Shared → Prop}
  {name qual : Str} {params : Arguments} {body : List Stmt} {scope : Scope} {dV kV doc pm cdv ct oc : Value} {an od : Option Addr} {osl : Array (Option Value)} {f : Addr} {args : Args} {binds : List (Str × Value)}
theorem code_defTC (B : Below A₀ base outer h₀) (F : Fr h₀ L s.heap m) (X₀ : K.In h₀) (N : News h₀ L s.heap news) (T : Top p loose mean mg mb h₀) (XB : K.In base) (TB : Top p loose mean mg mb base) (D : KtsDicts (outer.filterMap (·.frame)) h₀)
    (hA : A.frames = some (env :: outer)) (hf : env.frame = some L) (hke : env.scope.kind = .function)
    (ho : K.lookup f = some ⟨oc, od, .func (fnOf name qual params body scope dV kV doc pm an cdv ct), osl⟩) (hcd : codeIn K cdv qual = true) (hroom : A.depth < recursionLimit)
    (hbind : BindsTo s (fnOf name qual params body scope dV kV doc pm an cdv ct) args binds) (hkind : (binds.all fun y => scope.names.lookup y.1 == some .local || scope.names.lookup y.1 == some .cell) = true)
    (hnd : ((cellsFrom 0 scope.names []).map (·.1)).Nodup)
    (h : ∀ g L' h₁ tk cells, Fr h₀ L g m → Fr g L' h₁ (bindL (envOfC qual scope L' f cdv).kindOf binds fun _ => none) → News g L' h₁ (cells ++ news) →
      CellsAre (bindC (envOfC qual scope L' f cdv).kindOf binds fun _ => none) (cellsFrom (L' + 1) scope.names []) cells → Below A base (env :: outer) g → K.In g → Top p loose mean mg mb g → KtsDicts ((env :: outer).filterMap (·.frame)) g → GSub s.heap g (news.map (·.1)) → (∀ p ∈ news, p.1 < L') →
      wpAny (model prog w) (A.deeper (envOfC qual scope L' f cdv)) (execs body (envOfC qual scope L' f cdv))
        (fun fl s' => LeaveT A₀ base env outer K p loose mean mg mb h₀ L m g R (match fl with | .ret v => v | _ => .none) s')
        (fun e s' => wpAny (model prog w) (A.deeper (envOfC qual scope L' f cdv)) (leaving (envOfC qual scope L' f cdv) e) (fun _ s'' => R (.error e) s'') (fun e' s'' => R (.error e') s'') s')
        { s with heap := h₁, toks := tk })
    (hco : scope.isCoroutine = false) (hgen : scope.isGenerator = false) (hk : scope.kind = .function) : codeAny (model prog w) A (.call (.ref f) args) R s := by
  have X := X₀.keeps F.keep
  obtain ⟨FG, BG, st, DG, lv⟩ := groundT (R := R) B F N XB TB D hA hf hke
  refine codeAny_call_function (fd := fnOf name qual params body scope dV kV doc pm an cdv ct) hroom (X _ _ ho) rfl hco hgen rfl (codeRec_of X hcd) (hbind _ _ _ _ ?_)
  refine wpAny_newFunctionEnv_cells hk (kindsX hkind _) fun env' he s' x => ?_
  subst he
  refine ⟨(T.nolimit.keeps F.keep).keeps x.toInCall.keep, codeAny_func ?_⟩
  obtain ⟨h₁, tk, rfl, _⟩ := x.done
  have hk₁ := x.toInCall.keep
  obtain ⟨cells, NC, Y⟩ := Cl.news (h₀ := s.heap) (Nat.le_refl _) fun n c hm => ⟨x.cell n c (lookup_of_mem_nodup (cellsFrom_names scope.names 0 (s.heap.objs.size + 1) [] [] rfl ▸ hnd) hm), x.above n c hm⟩
  refine wpAny_mono (h _ s.heap.objs.size h₁ tk cells FG ⟨x.toInCall.ns, fun b o e => hk₁ b o (of_hideAll _ e), Nat.le_of_eq (hideAll_size _ _)⟩ (fun p hp => ?_) Y BG (X₀.keeps st) (T.keeps st) DG (fun b o e nm => hideAll_get _ e nm) (fun p hp => Heap.lt_size (N p hp).1)) (fun fl s' hl => lv _ _ hl) fun _ _ y => y
  rcases List.mem_append.mp hp with hp | hp
  · refine ⟨(NC p hp).1, (NC p hp).2.1, ?_⟩
    cases q : (hideAll s.heap (news.map (·.1))).get? p.1 with
    | none => rfl
    | some o => have := of_hideAll _ q; rw [(NC p hp).2.2] at this; cases this
  · exact ⟨hk₁ _ _ (N p hp).1, Nat.ne_of_lt (Heap.lt_size (N p hp).1), hideAll_none _ (List.mem_map_of_mem hp)⟩
end
end
section
open PySem PySem.W PyProof.Rows PySem.Spec PySem.Calls PySem.SeqAt
noncomputable abbrev tup2 (u v : Value) : Obj := { cls := .type "tuple", data := .seq #[u, v] }
inductive PairsAt (h : Heap) : List Value → List (Int × Int) → Prop
  | nil : PairsAt h [] []
  | cons {T : Addr} {a b : Int} {t u : Tok} {vs : List Value} {ps : List (Int × Int)} : h.get? T = some (tup2 (.int a t) (.int b u)) → PairsAt h vs ps → PairsAt h (.ref T :: vs) ((a, b) :: ps)
noncomputable abbrev pd (p : Int × Int) : PyData := .tuple [.int p.1, .int p.2]
theorem PairsAt.length {h : Heap} {vs : List Value} {ps : List (Int × Int)} (x : PairsAt h vs ps) : vs.length = ps.length := by
  induction x with
  | nil => rfl
  | cons _ _ ih => simp [ih]
theorem PairsAt.get {h : Heap} {vs : List Value} {ps : List (Int × Int)} (x : PairsAt h vs ps) : ∀ i (hi : i < ps.length), (Ex3 fun T t u => (vs[i]? = some (.ref T) ∧ h.get? T = some (tup2 (.int ps[i].1 t) (.int ps[i].2 u)))) := by
  induction x with
  | nil => intro i hi; exact absurd hi (Nat.not_lt_zero _)
  | cons e _ ih =>
    intro i hi
    cases i with
    | zero => exact ⟨_, _, _, rfl, e⟩
    | succ i => obtain ⟨T, t, u, h1, h2⟩ := ih i (by simpa using hi); exact ⟨T, t, u, by simpa using h1, by simpa using h2⟩
theorem PairsAt.keeps {h h' : Heap} {vs : List Value} {ps : List (Int × Int)} (x : PairsAt h vs ps) (k : ∀ b o, h.get? b = some o → h'.get? b = some o) : PairsAt h' vs ps := by
  induction x with
  | nil => exact .nil
  | cons e _ ih => exact .cons (k _ _ e) ih
theorem reads_pair {h : Heap} {T : Addr} {a b : Int} {t u : Tok} (e : h.get? T = some (tup2 (.int a t) (.int b u))) : Reads h (.ref T) (pd (a, b)) [] :=
  .tuple (vs := #[.int a t, .int b u]) (as := []) e rfl rfl (.cons (as := []) (bs := []) (.int a t) (.cons (as := []) (bs := []) (.int b u) .nil))
theorem PairsAt.reads {h : Heap} {vs : List Value} {ps : List (Int × Int)} (x : PairsAt h vs ps) : ReadsAll h vs (ps.map pd) [] := by
  induction x with
  | nil => exact .nil
  | cons e _ ih => exact .cons (as := []) (bs := []) (reads_pair e) ih
theorem reads_pairs {h : Heap} {l : Addr} {vs : List Value} {n : Nat} {ps : List (Int × Int)} (e : h.get? l = some (listOf vs.toArray n)) (x : PairsAt h vs ps) : Reads h (.ref l) (.list (ps.map pd)) [l] :=
  .list (vs := vs.toArray) e rfl rfl (by simpa using x.reads)
theorem shaped_pair (p : Int × Int) : shaped (pd p) = true := by
  unfold shaped
  simp [PyData.canLay0, PyData.depth, PyData.canLayAll0, PyData.depthAll]
theorem canLay_pairs : ∀ ps : List (Int × Int), PyData.canLayAll0 (ps.map pd) = true
  | [] => by simp [PyData.canLayAll0]
  | p :: ps => by
    have := canLay_pairs ps
    simp [PyData.canLayAll0, PyData.canLay0] at this ⊢; exact this
theorem depth_pairs : ∀ ps : List (Int × Int), PyData.depthAll (ps.map pd) ≤ 2
  | [] => by simp [PyData.depthAll]
  | p :: ps => by
    have := depth_pairs ps
    simp [PyData.depthAll, PyData.depth] at this ⊢; lia
theorem shaped_pairs (ps : List (Int × Int)) : shaped (.list (ps.map pd)) = true := by
  have h1 := depth_pairs ps
  have h2 : PyData.depth (.list (ps.map pd)) ≤ 64 := by simp only [PyData.depth]; lia
  show (PyData.canLay0 (.list (ps.map pd)) && decide (PyData.depth (.list (ps.map pd)) ≤ 64)) = true
  rw [Bool.and_eq_true]
  exact ⟨by simp only [PyData.canLay0]; exact canLay_pairs ps, decide_eq_true h2⟩
theorem noMix_pair (p q : Int × Int) : noMix (pd p) (pd q) = true := by simp [noMix, noMixAll]
theorem noMix_pairs : ∀ ps qs : List (Int × Int), noMixAll (ps.map pd) (qs.map pd) = true
  | [], [] => by simp [noMixAll]
  | [], _ :: _ => by simp [noMixAll]
  | _ :: _, [] => by simp [noMixAll]
  | p :: r, q :: s => by
    have := noMix_pairs r s
    have := noMix_pair p q
    simp only [List.map_cons, noMixAll, Bool.and_eq_true]
    exact ⟨noMix_pair p q, noMix_pairs r s⟩
theorem same_pair (p q : Int × Int) : PySem.Spec.same (pd p) (pd q) = decide (p = q) := by
  obtain ⟨a, b⟩ := p
  obtain ⟨c, d⟩ := q
  simp only [PySem.Spec.same, PySem.Spec.sameAll]
  by_cases h : a = c <;> by_cases g : b = d <;> simp [h, g]
theorem same_pairs : ∀ ps qs : List (Int × Int), PySem.Spec.sameAll (ps.map pd) (qs.map pd) = decide (ps = qs)
  | [], [] => by simp [PySem.Spec.sameAll]
  | [], _ :: _ => by simp [PySem.Spec.sameAll]
  | _ :: _, [] => by simp [PySem.Spec.sameAll]
  | p :: r, q :: s => by
    simp only [List.map_cons, PySem.Spec.sameAll]
    rw [same_pair p q, same_pairs r s]
    by_cases h : p = q <;> simp [h]
section
variable {prog : Program} {w : World} {A : Around} {E : Value → Shared → Prop} {s : Shared} {l k : Addr} {vs us : List Value} {n n2 : Nat} {ps qs : List (Int × Int)} {Q : Value → Shared → Prop}
theorem pairs_ne (h1 : s.heap.get? l = some (listOf vs.toArray n)) (h2 : s.heap.get? k = some (listOf us.toArray n2)) (x : PairsAt s.heap vs ps) (y : PairsAt s.heap us qs) (hu : A.units + 64 < cLine) (h : Q (.bool (!decide (ps = qs))) s) :
    wpAny (model prog w) A (compareOp .NotEq (.ref l) (.ref k)) Q E s :=
  ne_dataH_same (reads_pairs h1 x) (reads_pairs h2 y) (shaped_pairs ps) (shaped_pairs qs) hu (by simp only [noMix]; exact noMix_pairs ps qs) (by simp only [PySem.Spec.same]; rw [same_pairs]; exact h)
theorem countIn_pairs (q : Int × Int) : ∀ ps : List (Int × Int), 0 ≤ PySem.Spec.countIn (pd q) (ps.map pd) ∧ decide (PySem.Spec.countIn (pd q) (ps.map pd) ≠ 0) = decide (q ∈ ps)
  | [] => ⟨Int.le_refl _, by simp [PySem.Spec.countIn]⟩
  | p :: r => by
    have h := countIn_pairs q r
    simp only [List.map_cons, PySem.Spec.countIn]
    rw [same_pair p q]
    by_cases e : p = q
    · subst e
      simp only [decide_true, if_true]
      refine ⟨by lia, ?_⟩
      rw [decide_eq_true (p := (1 : Int) + PySem.Spec.countIn (pd p) (r.map pd) ≠ 0) (by lia)]
      simp
    · rw [if_neg (by simpa using e), Int.zero_add]
      refine ⟨h.1, h.2.trans ?_⟩
      have : q ∈ p :: r ↔ q ∈ r := ⟨fun x => (List.mem_cons.mp x).resolve_left (fun z => e z.symm), fun x => .tail _ x⟩
      exact decide_eq_decide.mpr this.symm
theorem pairs_in {T : Addr} {a b : Int} {t u : Tok} (hT : s.heap.get? T = some (tup2 (.int a t) (.int b u))) (h1 : s.heap.get? l = some (listOf vs.toArray n)) (x : PairsAt s.heap vs ps) (hu : A.units + 65 < cLine) (h : Q (.bool (decide ((a, b) ∈ ps))) s) :
    wpAny (model prog w) A (compareOp .In (.ref T) (.ref l)) Q E s :=
  in_list_dataH (reads_pairs h1 x) (reads_pair hT) (shaped_pairs ps) (shaped_pair (a, b)) hu (fun y hy => by obtain ⟨p, _, rfl⟩ := List.mem_map.mp hy; exact noMix_pair p (a, b)) (by rw [(countIn_pairs (a, b) ps).2]; exact h)
theorem pairs_notin {T : Addr} {a b : Int} {t u : Tok} (hT : s.heap.get? T = some (tup2 (.int a t) (.int b u))) (h1 : s.heap.get? l = some (listOf vs.toArray n)) (x : PairsAt s.heap vs ps) (hu : A.units + 65 < cLine) (h : Q (.bool (!decide ((a, b) ∈ ps))) s) :
    wpAny (model prog w) A (compareOp .NotIn (.ref T) (.ref l)) Q E s :=
  notIn_list_dataH (reads_pairs h1 x) (reads_pair hT) (shaped_pairs ps) (shaped_pair (a, b)) hu (fun y hy => by obtain ⟨p, _, rfl⟩ := List.mem_map.mp hy; exact noMix_pair p (a, b)) (by rw [(countIn_pairs (a, b) ps).2]; exact h)
end
end
section
open PySem PySem.W PyProof.Rows PySem.Spec PySem.Calls
set_option maxHeartbeats 8000000
open PySem.AutoSeq1 (wpAny_loadPart')
open PySem.MeetsSeq PySem.MeetsSeq3
noncomputable def lexLt : List Int → List Int → Bool
  | [], [] => false
  | [], _ :: _ => true
  | _ :: _, [] => false
  | a :: as, b :: bs => if a = b then lexLt as bs else decide (a < b)
theorem lt_loop (l b : Addr) (vs us : List Value) (ns ms : List Int) (n n2 : Nat) (hi : IntsAre vs ns) (hj : IntsAre us ms) (k : Nat) :
    ∀ i : Nat, vs.length - i = k → Meets (Builtin.«list.__eq__.loop» ⟨[.ref l, .ref b, rawInt i, rawInt 0], []⟩)
      (fun _ R s => s.heap.get? l = some { cls := .type "list", dict := none, data := .seq vs.toArray n, slots := #[] } ∧ s.heap.get? b = some { cls := .type "list", dict := none, data := .seq us.toArray n2, slots := #[] } ∧
        (i ≤ vs.length ∧ i ≤ us.length) ∧ R (.ok (.ret (.bool (lexLt (ns.drop i) (ms.drop i))))) s) := by
  have e1 := hi.length
  have e2 := hj.length
  have stop : ∀ i : Nat, i ≤ vs.length → i ≤ us.length → (i = vs.length ∨ i = us.length) → decide (vs.length < us.length) = lexLt (ns.drop i) (ms.drop i) := by
    intro i h1 h2 h3
    by_cases q1 : i = vs.length
    · have : ns.drop i = [] := List.drop_eq_nil_of_le (by lia)
      rw [this]
      cases q : ms.drop i with
      | nil => have := List.drop_eq_nil_iff.mp q; simp [lexLt]; lia
      | cons a r => have : i < ms.length := by
                      have := congrArg List.length q
                      simp at this; lia
                    simp [lexLt]; lia
    · have q2 : i = us.length := h3.resolve_left q1
      have : ms.drop i = [] := List.drop_eq_nil_of_le (by lia)
      rw [this]
      cases q : ns.drop i with
      | nil => have := List.drop_eq_nil_iff.mp q; lia
      | cons a r => simp [lexLt]; lia
  induction k with
  | zero =>
    intro i hk prog w A R s h
    obtain ⟨hp, g, d, tk, os⟩ := s; obtain ⟨hl, hb, ⟨hle, hle2⟩, h⟩ := h
    wp_walk using wpAny_loadPart' hl, wpAny_loadPart' hb
    have hi1 : vs.toArray[((i : Nat) : Int).toNat]? = none := by simp; lia
    rw [hi1]
    wp_walk using wpAny_loadPart' hl, wpAny_loadPart' hb
    show R (.ok (.ret (.bool (decide (vs.toArray.size < us.toArray.size))))) _
    simp only [List.size_toArray]
    rw [stop i hle hle2 (.inl (by lia))]
    exact h
  | succ k ih =>
    intro i hk prog w A R s h
    obtain ⟨hp, g, d, tk, os⟩ := s; obtain ⟨hl, hb, ⟨hle, hle2⟩, h⟩ := h
    wp_walk using wpAny_loadPart' hl, wpAny_loadPart' hb
    have hlt : i < ns.length := by lia
    obtain ⟨t, hx⟩ := hi.get i _ (List.getElem?_eq_getElem hlt)
    have hi1 : vs.toArray[((i : Nat) : Int).toNat]? = some (.int ns[i] t) := by simpa using hx
    have hd1 : ns.drop i = ns[i] :: ns.drop (i + 1) := List.drop_eq_getElem_cons hlt
    rw [hi1]
    by_cases hlt2 : i < ms.length
    · obtain ⟨u, hy⟩ := hj.get i _ (List.getElem?_eq_getElem hlt2)
      have hi2 : us.toArray[((i : Nat) : Int).toNat]? = some (.int ms[i] u) := by simpa using hy
      have hd2 : ms.drop i = ms[i] :: ms.drop (i + 1) := List.drop_eq_getElem_cons hlt2
      have hc : ((i : Int) + 1) = ((i + 1 : Nat) : Int) := by push_cast; rfl
      rw [hi2]
      rw [hd1, hd2] at h
      refine wpAny_bind (EqGives.int _ _ _ _ prog w _ _ _ _ ?_)
      by_cases he : ns[i] = ms[i]
      · rw [show (ns[i] == ms[i]) = true from by simpa using he]
        rw [show lexLt (ns[i] :: ns.drop (i + 1)) (ms[i] :: ms.drop (i + 1)) = lexLt (ns.drop (i + 1)) (ms.drop (i + 1)) from if_pos he] at h
        wp_walk
        rw [hc]
        exact ⟨plainId_quiet plain_eq_loop _, codeAny_builtin entry_eq_loop (by
          rw [Around.under_plainId plain_eq_loop _]
          exact ih (i + 1) (by lia) prog w A R _ ⟨hl, hb, ⟨by lia, by lia⟩, h⟩)⟩
      · rw [show (ns[i] == ms[i]) = false from by simpa using he]
        rw [show lexLt (ns[i] :: ns.drop (i + 1)) (ms[i] :: ms.drop (i + 1)) = decide (ns[i] < ms[i]) from if_neg he] at h
        wp_walk using wpAny_loadPart' hl, wpAny_loadPart' hb
        rw [hi1, hi2]
        show wpAny _ _ (compareOp .Lt (.int ns[i] t) (.int ms[i] u) >>= fun r => ret r) _ _ _
        refine wpAny_bind (lt_int ?_)
        exact wpAny_pure h
    · have hi2 : us.toArray[((i : Nat) : Int).toNat]? = none := by simp; lia
      rw [hi2]
      wp_walk using wpAny_loadPart' hl, wpAny_loadPart' hb
      show R (.ok (.ret (.bool (decide (vs.toArray.size < us.toArray.size))))) _
      simp only [List.size_toArray]
      rw [stop i hle hle2 (.inr (by lia))]
      exact h
theorem gt_loop (l b : Addr) (vs us : List Value) (ns ms : List Int) (n n2 : Nat) (hi : IntsAre vs ns) (hj : IntsAre us ms) (k : Nat) :
    ∀ i : Nat, vs.length - i = k → Meets (Builtin.«list.__eq__.loop» ⟨[.ref l, .ref b, rawInt i, rawInt 4], []⟩)
      (fun _ R s => s.heap.get? l = some { cls := .type "list", dict := none, data := .seq vs.toArray n, slots := #[] } ∧ s.heap.get? b = some { cls := .type "list", dict := none, data := .seq us.toArray n2, slots := #[] } ∧
        (i ≤ vs.length ∧ i ≤ us.length) ∧ R (.ok (.ret (.bool (lexLt (ms.drop i) (ns.drop i))))) s) := by
  have e1 := hi.length
  have e2 := hj.length
  have stop : ∀ i : Nat, i ≤ vs.length → i ≤ us.length → (i = vs.length ∨ i = us.length) → decide (us.length < vs.length) = lexLt (ms.drop i) (ns.drop i) := by
    intro i h1 h2 h3
    by_cases q1 : i = vs.length
    · have : ns.drop i = [] := List.drop_eq_nil_of_le (by lia)
      rw [this]
      cases q : ms.drop i with
      | nil => have := List.drop_eq_nil_iff.mp q; simp [lexLt]; lia
      | cons a r => have : i < ms.length := by
                      have := congrArg List.length q
                      simp at this; lia
                    simp [lexLt]; lia
    · have q2 : i = us.length := h3.resolve_left q1
      have : ms.drop i = [] := List.drop_eq_nil_of_le (by lia)
      rw [this]
      cases q : ns.drop i with
      | nil => have := List.drop_eq_nil_iff.mp q; lia
      | cons a r => simp [lexLt]; lia
  induction k with
  | zero =>
    intro i hk prog w A R s h
    obtain ⟨hp, g, d, tk, os⟩ := s; obtain ⟨hl, hb, ⟨hle, hle2⟩, h⟩ := h
    wp_walk using wpAny_loadPart' hl, wpAny_loadPart' hb
    have hi1 : vs.toArray[((i : Nat) : Int).toNat]? = none := by simp; lia
    rw [hi1]
    wp_walk using wpAny_loadPart' hl, wpAny_loadPart' hb
    show R (.ok (.ret (.bool (decide (us.toArray.size < vs.toArray.size))))) _
    simp only [List.size_toArray]
    rw [stop i hle hle2 (.inl (by lia))]
    exact h
  | succ k ih =>
    intro i hk prog w A R s h
    obtain ⟨hp, g, d, tk, os⟩ := s; obtain ⟨hl, hb, ⟨hle, hle2⟩, h⟩ := h
    wp_walk using wpAny_loadPart' hl, wpAny_loadPart' hb
    have hlt : i < ns.length := by lia
    obtain ⟨t, hx⟩ := hi.get i _ (List.getElem?_eq_getElem hlt)
    have hi1 : vs.toArray[((i : Nat) : Int).toNat]? = some (.int ns[i] t) := by simpa using hx
    have hd1 : ns.drop i = ns[i] :: ns.drop (i + 1) := List.drop_eq_getElem_cons hlt
    rw [hi1]
    by_cases hlt2 : i < ms.length
    · obtain ⟨u, hy⟩ := hj.get i _ (List.getElem?_eq_getElem hlt2)
      have hi2 : us.toArray[((i : Nat) : Int).toNat]? = some (.int ms[i] u) := by simpa using hy
      have hd2 : ms.drop i = ms[i] :: ms.drop (i + 1) := List.drop_eq_getElem_cons hlt2
      have hc : ((i : Int) + 1) = ((i + 1 : Nat) : Int) := by push_cast; rfl
      rw [hi2]
      rw [hd1, hd2] at h
      refine wpAny_bind (EqGives.int _ _ _ _ prog w _ _ _ _ ?_)
      by_cases he : ns[i] = ms[i]
      · rw [show (ns[i] == ms[i]) = true from by simpa using he]
        rw [show lexLt (ms[i] :: ms.drop (i + 1)) (ns[i] :: ns.drop (i + 1)) = lexLt (ms.drop (i + 1)) (ns.drop (i + 1)) from if_pos he.symm] at h
        wp_walk
        rw [hc]
        exact ⟨plainId_quiet plain_eq_loop _, codeAny_builtin entry_eq_loop (by
          rw [Around.under_plainId plain_eq_loop _]
          exact ih (i + 1) (by lia) prog w A R _ ⟨hl, hb, ⟨by lia, by lia⟩, h⟩)⟩
      · rw [show (ns[i] == ms[i]) = false from by simpa using he]
        rw [show lexLt (ms[i] :: ms.drop (i + 1)) (ns[i] :: ns.drop (i + 1)) = decide (ms[i] < ns[i]) from if_neg (fun q => he q.symm)] at h
        wp_walk using wpAny_loadPart' hl, wpAny_loadPart' hb
        rw [hi1, hi2]
        show wpAny _ _ (compareOp .Gt (.int ns[i] t) (.int ms[i] u) >>= fun r => ret r) _ _ _
        refine wpAny_bind (gt_int ?_)
        exact wpAny_pure h
    · have hi2 : us.toArray[((i : Nat) : Int).toNat]? = none := by simp; lia
      rw [hi2]
      wp_walk using wpAny_loadPart' hl, wpAny_loadPart' hb
      show R (.ok (.ret (.bool (decide (us.toArray.size < vs.toArray.size))))) _
      simp only [List.size_toArray]
      rw [stop i hle hle2 (.inr (by lia))]
      exact h
theorem list_lt (l b : Addr) (vs us : List Value) (ns ms : List Int) (n n2 : Nat) (hi : IntsAre vs ns) (hj : IntsAre us ms) :
    Meets (Builtin.«list.__lt__» ⟨[.ref l, .ref b], []⟩)
      (fun _ R s => s.heap.get? l = some { cls := .type "list", dict := none, data := .seq vs.toArray n, slots := #[] } ∧ s.heap.get? b = some { cls := .type "list", dict := none, data := .seq us.toArray n2, slots := #[] } ∧
        R (.ok (.ret (.bool (lexLt ns ms)))) s) := by
  intro prog w A R s h
  obtain ⟨hp, g, d, tk, os⟩ := s; obtain ⟨hl, hb, h⟩ := h
  have f3 := AutoSeq1.sub_list_list
  wp_walk using wpAny_loadPart' hl, wpAny_loadPart' hb
  exact ⟨plainId_quiet plain_eq_loop _, codeAny_builtin entry_eq_loop (by
    rw [Around.under_plainId plain_eq_loop _]
    exact lt_loop l b vs us ns ms n n2 hi hj _ 0 rfl prog w A R _ ⟨hl, hb, ⟨Nat.zero_le _, Nat.zero_le _⟩, h⟩)⟩
theorem list_gt (l b : Addr) (vs us : List Value) (ns ms : List Int) (n n2 : Nat) (hi : IntsAre vs ns) (hj : IntsAre us ms) :
    Meets (Builtin.«list.__gt__» ⟨[.ref l, .ref b], []⟩)
      (fun _ R s => s.heap.get? l = some { cls := .type "list", dict := none, data := .seq vs.toArray n, slots := #[] } ∧ s.heap.get? b = some { cls := .type "list", dict := none, data := .seq us.toArray n2, slots := #[] } ∧
        R (.ok (.ret (.bool (lexLt ms ns)))) s) := by
  intro prog w A R s h
  obtain ⟨hp, g, d, tk, os⟩ := s; obtain ⟨hl, hb, h⟩ := h
  have f3 := AutoSeq1.sub_list_list
  wp_walk using wpAny_loadPart' hl, wpAny_loadPart' hb
  exact ⟨plainId_quiet plain_eq_loop _, codeAny_builtin entry_eq_loop (by
    rw [Around.under_plainId plain_eq_loop _]
    exact gt_loop l b vs us ns ms n n2 hi hj _ 0 rfl prog w A R _ ⟨hl, hb, ⟨Nat.zero_le _, Nat.zero_le _⟩, h⟩)⟩
section
variable {prog : Program} {w : World} {A : Around} {E : Value → Shared → Prop} {s : Shared} {a b : Addr} {vs us : List Value} {ns ms : List Int} {n n2 : Nat} {Q : Value → Shared → Prop}
theorem lt_lists (h1 : s.heap.get? a = some (listOf vs.toArray n)) (h2 : s.heap.get? b = some (listOf us.toArray n2)) (hi : IntsAre vs ns) (hj : IntsAre us ms) (hu : A.units < cLine) (h : Q (.bool (lexLt ns ms)) s) :
    wpAny (model prog w) A (compareOp .Lt (.ref a) (.ref b)) Q E s :=
  cmp_ofLt (richCompare_meets_room (op := .Lt) ⟨_, h1, rfl⟩ ⟨_, h2, rfl⟩ PySem.F.slot_list_lt PySem.F.entry_list_lt (PySem.F.args_list_lt_2 _ _) (list_lt a b vs us ns ms n n2 hi hj) ⟨h1, h2, And.intro (fun q => by cases q) h⟩ hu)
theorem gt_lists (h1 : s.heap.get? a = some (listOf vs.toArray n)) (h2 : s.heap.get? b = some (listOf us.toArray n2)) (hi : IntsAre vs ns) (hj : IntsAre us ms) (hu : A.units < cLine) (h : Q (.bool (lexLt ms ns)) s) :
    wpAny (model prog w) A (compareOp .Gt (.ref a) (.ref b)) Q E s :=
  show wpAny (model prog w) A (richCompare .Gt (.ref a) (.ref b)) Q E s from richCompare_meets_room (op := .Gt) ⟨_, h1, rfl⟩ ⟨_, h2, rfl⟩ PySem.F.slot_list_gt PySem.F.entry_list_gt (PySem.F.args_list_gt_2 _ _) (list_gt a b vs us ns ms n n2 hi hj) ⟨h1, h2, And.intro (fun q => by cases q) h⟩ hu
end
end
section
open PySem PySem.W PyProof.Rows PySem.Spec PySem.Calls
section
variable {prog : Program} {w : World} {A : Around} {E : Value → Shared → Prop} {s : Shared} {env : Env} {elt t0 i0 t1 i1 : Expr} {ifs : List Expr} {scope : Scope} {pos : Pos} {R : Result → Shared → Prop} {I D : Addr} {fp wr : List Addr} {n : Nat} {P : Nat → Value → Prop} {St : Nat → Heap → Prop}
theorem compTurn_inner (it acc : Value) :
    compTurn (.ListComp elt [⟨t0, i0, [], 0⟩, ⟨t1, i1, ifs, 0⟩] scope pos) 1 it acc env = (do
      standAt i1.pos
      match ← pyNext it with
      | none => pure (.done .next)
      | some v =>
        letOwnedTupleGo t1 it v
        assign t1 env v
        let mut ok := true
        for c in ifs do
          if ok then ok ← isTrue c env (eval c env)
        if ok then
          (do let _ ← call (.builtin "list.append") [acc, ← eval elt env])
        again (.compLoop (.ListComp elt [⟨t0, i0, [], 0⟩, ⟨t1, i1, ifs, 0⟩] scope pos) 1 it acc env)) := by rfl
theorem compTurn_outer (it acc : Value) :
    compTurn (.ListComp elt [⟨t0, i0, [], 0⟩, ⟨t1, i1, ifs, 0⟩] scope pos) 0 it acc env = (do
      standAt i0.pos
      match ← pyNext it with
      | none => pure (.done .next)
      | some v =>
        letOwnedTupleGo t0 it v
        assign t0 env v
        let x ← eval i1 env
        standAt i1.pos
        let x ← foldedSetIterable i1 env x
        let _ ← runOwn (.compStart (.ListComp elt [⟨t0, i0, [], 0⟩, ⟨t1, i1, ifs, 0⟩] scope pos) 1 (← holding [x] (pyIter x)) acc env) env
        again (.compLoop (.ListComp elt [⟨t0, i0, [], 0⟩, ⟨t1, i1, ifs, 0⟩] scope pos) 0 it acc env)) := by rfl
theorem compLoop_inner (J : Nat → Shared → Prop) (W : Walks prog w A I fp wr n P St)
    (hgo : ∀ i v (s : Shared) (Q : Unit → Shared → Prop) (E : Value → Shared → Prop), St i s.heap → Q () s → wpAny (model prog w) A (letOwnedTupleGo t1 (.ref I) v) Q E s)
    (hSt : ∀ i s', J i s' → St i s'.heap) (j0 : J 0 s)
    (step : ∀ i s' v h' tk, i < n → J i s' → P i v → St (i + 1) h' → (∀ b o, b ∉ wr → s'.heap.get? b = some o → h'.get? b = some o) →
      wpAny (model prog w) A (assign t1 env v) (fun _ s₂ =>
          wpAny (model prog w) A (forIn ifs true fun c r => if r = true then do let ok ← isTrue c env (eval c env); pure (ForInStep.yield ok) else pure (ForInStep.yield r)) (fun ok s₃ =>
            if ok = true then wpAny (model prog w) A (eval elt env) (fun x s₄ =>
              wpAny (model prog w) A (call (.builtin "list.append") [.ref D, x]) (fun _ s₅ => J (i + 1) s₅) (fun _ _ => False) s₄) (fun _ _ => False) s₃
            else J (i + 1) s₃) (fun _ _ => False) s₂) (fun _ _ => False) { s' with heap := h', toks := tk })
    (done : ∀ s' h' tk, J n s' → (∀ b o, b ∉ wr → s'.heap.get? b = some o → h'.get? b = some o) → R (.ok .next) { s' with heap := h', toks := tk }) :
    codeAny (model prog w) A (.compLoop (.ListComp elt [⟨t0, i0, [], 0⟩, ⟨t1, i1, ifs, 0⟩] scope pos) 1 (.ref I) (.ref D) env) R s := by
  refine codeAny_loop rfl (fun k s' => ∃ i, J i s' ∧ i ≤ n ∧ k = n + 1 - i) (fun k s' hI => ?_) (n + 1) ⟨0, j0, Nat.zero_le _, rfl⟩
  obtain ⟨i, hJ, hi, rfl⟩ := hI
  show wpAny _ A ((compTurn (.ListComp elt [⟨t0, i0, [], 0⟩, ⟨t1, i1, ifs, 0⟩] scope pos) 1 (.ref I) (.ref D) env).onRaise (fun x => do noteFrame x env; theTreesLotGoes x)) _ _ _
  refine wpAny_noted ?_
  rw [compTurn_inner]
  refine wpAny_bind (wpAny_standAt (wpAny_bind ?_))
  by_cases hlt : i < n
  · refine W.item i _ _ _ hlt (hSt i s' hJ) fun v h₁ tk₁ hP st₁ hk₁ => ?_
    dsimp only
    refine wpAny_bind (hgo (i + 1) v _ _ _ st₁ ?_)
    refine wpAny_bind (wpAny_mono (step i s' v h₁ tk₁ hlt hJ hP st₁ hk₁) (fun _ s₂ h₂ => wpAny_bind (wpAny_mono h₂ (fun ok s₃ h₃ => ?_) fun _ _ h' => h'.elim)) fun _ _ h' => h'.elim)
    cases ok with
    | false => exact wpAny_pure ⟨rfl, n + 1 - (i + 1), by lia, i + 1, h₃, hlt, rfl⟩
    | true =>
      exact wpAny_bind (wpAny_bind (wpAny_mono h₃ (fun x s₄ h₄ => wpAny_bind (wpAny_mono h₄ (fun _ s₅ h₅ => wpAny_pure (wpAny_pure ⟨rfl, n + 1 - (i + 1), by lia, i + 1, h₅, hlt, rfl⟩)) fun _ _ h' => h'.elim)) fun _ _ h' => h'.elim))
  · obtain rfl : i = n := Nat.le_antisymm hi (Nat.not_lt.mp hlt)
    exact W.done _ _ _ (hSt _ _ hJ) fun h₁ tk₁ hk₁ => wpAny_pure (done s' h₁ tk₁ hJ hk₁)
theorem compStart_inner {it acc : Value}
    (h0 : codeAny (model prog w) A (.compLoop (.ListComp elt [⟨t0, i0, [], 0⟩, ⟨t1, i1, ifs, 0⟩] scope pos) 1 it acc env) R s)
    (h : wpAny (model prog w) A (pyIter it) (fun it' s' => codeAny (model prog w) A (.compLoop (.ListComp elt [⟨t0, i0, [], 0⟩, ⟨t1, i1, ifs, 0⟩] scope pos) 1 it' acc env) R s')
      (notedBy (model prog w) A env fun x s' => R (.error x) s') s) :
    codeAny (model prog w) A (.compStart (.ListComp elt [⟨t0, i0, [], 0⟩, ⟨t1, i1, ifs, 0⟩] scope pos) 1 it acc env) R s := by
  refine codeAny_of_tree ?_
  show wpAny _ _ ((compStart (.ListComp elt [⟨t0, i0, [], 0⟩, ⟨t1, i1, ifs, 0⟩] scope pos) 1 it acc env).onRaise (fun x => do noteFrame x env; standAt theWindowsPlace)) _ _ s
  refine wpAny_notedAt ?_
  unfold compStart
  show wpAny _ _ (ask >>= _) _ _ s
  refine wpAny_bind (wpAny_askSetting (wpAny_ite ?_))
  split
  · first
      | exact wpAny_bind (wpAny_pure (wpAny_pure (And.intro rfl h0)))
      | exact wpAny_pure (And.intro rfl h0)
  · first
      | exact wpAny_bind (wpAny_rule (wpAny_bind (wpAny_standAt (wpAny_bind (wpAny_mono h (fun it' s' h' => wpAny_pure (And.intro rfl h')) fun _ _ x => x)))))
      | (refine wpAny_bind (wpAny_rule ?_); show wpAny _ _ (standAt i1.pos >>= _) _ _ s; exact wpAny_bind (wpAny_standAt (wpAny_bind (wpAny_mono h (fun it' s' h' => wpAny_pure (And.intro rfl h')) fun _ _ x => x))))
theorem compLoop_outer (J : Nat → Shared → Prop) (W : Walks prog w A I fp wr n P St)
    (hgo : ∀ i v (s : Shared) (Q : Unit → Shared → Prop) (E : Value → Shared → Prop), St i s.heap → Q () s → wpAny (model prog w) A (letOwnedTupleGo t0 (.ref I) v) Q E s)
    (hSt : ∀ i s', J i s' → St i s'.heap) (j0 : J 0 s)
    (step : ∀ i s' v h' tk, i < n → J i s' → P i v → St (i + 1) h' → (∀ b o, b ∉ wr → s'.heap.get? b = some o → h'.get? b = some o) →
      wpAny (model prog w) A (assign t0 env v) (fun _ s₂ => wpAny (model prog w) A (eval i1 env) (fun xv s₃ => wpAny (model prog w) A (pyIter xv) (fun it s₄ =>
          (Ex6 fun (I₂ : Addr) (fp₂ wr₂ : List Addr) (n₂ : Nat) (P₂ : Nat → Value → Prop) (St₂ : Nat → Heap → Prop) => Cj4 (it = .ref I₂) (Walks prog w A I₂ fp₂ wr₂ n₂ P₂ St₂) (St₂ 0 s₄.heap) (codeAny (model prog w) A (.compLoop (.ListComp elt [⟨t0, i0, [], 0⟩, ⟨t1, i1, ifs, 0⟩] scope pos) 1 (.ref I₂) (.ref D) env) (fun r s' => match r with | .ok _ => J (i + 1) s' | .error _ => False) s₄)))
          (fun _ _ => False) s₃) (fun _ _ => False) s₂) (fun _ _ => False) { s' with heap := h', toks := tk })
    (done : ∀ s' h' tk, J n s' → (∀ b o, b ∉ wr → s'.heap.get? b = some o → h'.get? b = some o) → R (.ok .next) { s' with heap := h', toks := tk })
    (hs : ∀ x, foldedSetIterable i1 env x = pure x := by intro _; rfl) :
    codeAny (model prog w) A (.compLoop (.ListComp elt [⟨t0, i0, [], 0⟩, ⟨t1, i1, ifs, 0⟩] scope pos) 0 (.ref I) (.ref D) env) R s := by
  refine codeAny_loop rfl (fun k s' => ∃ i, J i s' ∧ i ≤ n ∧ k = n + 1 - i) (fun k s' hI => ?_) (n + 1) ⟨0, j0, Nat.zero_le _, rfl⟩
  obtain ⟨i, hJ, hi, rfl⟩ := hI
  show wpAny _ A ((compTurn (.ListComp elt [⟨t0, i0, [], 0⟩, ⟨t1, i1, ifs, 0⟩] scope pos) 0 (.ref I) (.ref D) env).onRaise (fun x => do noteFrame x env; theTreesLotGoes x)) _ _ _
  refine wpAny_noted ?_
  rw [compTurn_outer]
  refine wpAny_bind (wpAny_standAt (wpAny_bind ?_))
  by_cases hlt : i < n
  · refine W.item i _ _ _ hlt (hSt i s' hJ) fun v h₁ tk₁ hP st₁ hk₁ => ?_
    dsimp only
    refine wpAny_bind (hgo (i + 1) v _ _ _ st₁ ?_)
    refine wpAny_bind (wpAny_mono (step i s' v h₁ tk₁ hlt hJ hP st₁ hk₁) (fun _ s₂ h₂ => wpAny_bind (wpAny_mono h₂ (fun xv s₃ h₃ => ?_) fun _ _ h' => h'.elim)) fun _ _ h' => h'.elim)
    refine wpAny_bind (wpAny_standAt (wpAny_bind (wpAny_of_eq (hs xv) (wpAny_bind (wpAny_holding (wpAny_mono h₃ (fun it s₄ h₄ => ?_) fun _ _ h' => h'.elim))))))
    obtain ⟨I₂, fp₂, wr₂, n₂, P₂, St₂, rfl, W₂, hst₂, hc⟩ := h₄
    refine wpAny_bind (wpAny_runOwn ?_)
    refine (fun fin => compStart_inner fin (W₂.self 0 _ _ _ hst₂ fin)) ?_
    refine codeAny_mono hc fun r s' hr => ?_
    cases r with
    | ok f => exact wpAny_pure ⟨rfl, n + 1 - (i + 1), by lia, i + 1, hr, hlt, rfl⟩
    | error e => exact hr.elim
  · obtain rfl : i = n := Nat.le_antisymm hi (Nat.not_lt.mp hlt)
    exact W.done _ _ _ (hSt _ _ hJ) fun h₁ tk₁ hk₁ => wpAny_pure (done s' h₁ tk₁ hJ hk₁)
end
end
section
open PySem PySem.W PyProof.Rows PySem.Spec PySem.Calls
open LCg
section
variable {prog : Program} {w : World} {A : Around} {E : Value → Shared → Prop} {s : Shared} {env : Env} {h₀ : Heap} {L : Addr} {m : Str → Option Value}
noncomputable def CEndM (h₀ : Heap) (L : Addr) (m : Str → Option Value) (Mp : (Str → Option Value) → Prop) (s₁ : Shared) (I : Addr) (oI : Obj) (C D : Addr) (ys : List Value) (Pr : List (Addr × Obj) → Prop) (s₃ : Shared) : Prop :=
  (Ex5 fun h' tk oC m₂ news' => Cj7 (s₃ = { s₁ with heap := h', toks := tk }) (Fr h₀ L h' m) (News h₀ L h' ((I, oI) :: (C, oC) :: (D, lst ys) :: news')) (NsObj oC m₂) (Off3 I C D news') (Mp m₂) (Pr news'))
noncomputable def CTurnM (prog : Program) (w : World) (A : Around) (h₀ : Heap) (L : Addr) (m : Str → Option Value) (Mp : (Str → Option Value) → Prop) (s : Shared) (elt target : Expr) (ifs : List Expr) (cenv : Env) (I C D : Addr) (P : Nat → Value → Prop) (Rel : Nat → List Value → List (Addr × Obj) → Prop) (n : Nat) : Prop :=
  ∀ i v h tk oI oC m₂ ys news', i < n → P i v → Fr h₀ L h m → News h₀ L h ((I, oI) :: (C, oC) :: (D, lst ys) :: news') → NsObj oC m₂ → Off3 I C D news' → ((@Ne Nat I C) ∧ (@Ne Nat I D) ∧ (@Ne Nat C D)) → Mp m₂ → Rel i ys news' →
    wpAny (model prog w) A (assign target cenv v) (fun _ s₂ =>
      wpAny (model prog w) A (forIn ifs true fun c r => if r = true then do let ok ← isTrue c cenv (eval c cenv); pure (ForInStep.yield ok) else pure (ForInStep.yield r)) (fun ok s₃ =>
        if ok = true then wpAny (model prog w) A (eval elt cenv) (fun y s₄ => CEndM h₀ L m Mp { s with heap := h, toks := tk } I oI C D ys (Rel (i + 1) (ys ++ [y])) s₄) (fun _ _ => False) s₃
        else CEndM h₀ L m Mp { s with heap := h, toks := tk } I oI C D ys (Rel (i + 1) ys) s₃) (fun _ _ => False) s₂) (fun _ _ => False) { s with heap := h, toks := tk }
theorem comp_in2 {elt target t0 i0 i1 : Expr} {ifs : List Expr} {scope : Scope} {pos : Pos} {I C D : Addr} {fp : List Addr} {n b : Nat} {P : Nat → Value → Prop} {St : Nat → Heap → Prop} {S : List (Addr × Obj) → Prop} {Rel : Nat → List Value → List (Addr × Obj) → Prop} {R : Result → Shared → Prop} {Mp : (Str → Option Value) → Prop} {cenv : Env} {oI oC : Obj} {m₂ : Str → Option Value} {news : List (Addr × Obj)} {ys₀ : List Value}
    (W : Walks prog w A I fp [I] n P St) (hb : ys₀.length ≤ b) (hsz : b + n ≤ sizeLine)
    (hgo : ∀ i v (s : Shared) (Q : Unit → Shared → Prop) (E : Value → Shared → Prop), St i s.heap → Q () s → wpAny (model prog w) A (letOwnedTupleGo target (.ref I) v) Q E s)
    (hIo : ∀ i h, St i h → ∃ o, h.get? I = some o)
    (hSt : ∀ i h h' o nw, St i h → h.get? I = some o → h'.get? I = some o → (∀ b o, h₀.get? b = some o → h'.get? b = some o) → News h₀ L h' nw → S nw → St i h')
    (hst : St 0 s.heap) (F : Fr h₀ L s.heap m) (N : News h₀ L s.heap ((I, oI) :: (C, oC) :: (D, lst ys₀) :: news)) (hC : NsObj oC m₂) (off : Off3 I C D news) (ne : (@Ne Nat I C) ∧ (@Ne Nat I D) ∧ (@Ne Nat C D))
    (hS : ∀ i ys nw, Rel i ys nw → S nw) (hM : Mp m₂) (hR0 : Rel 0 ys₀ news) (turn : CTurnM prog w A h₀ L m Mp s elt target ifs cenv I C D P Rel n)
    (done : ∀ h tk ys oC m' news', Fr h₀ L h m → News h₀ L h ((C, oC) :: (D, lst ys) :: news') → NsObj oC m' → Off3 I C D news' → ys.length ≤ b + n → Rel n ys news' → R (.ok .next) { s with heap := h, toks := tk }) :
    codeAny (model prog w) A (.compLoop (.ListComp elt [⟨t0, i0, [], 0⟩, ⟨target, i1, ifs, 0⟩] scope pos) 1 (.ref I) (.ref D) cenv) R s := by
  have zI := N (I, oI) List.mem_cons_self
  have zC := N (C, oC) (.tail _ List.mem_cons_self)
  have zD := N (D, lst ys₀) (.tail _ (.tail _ List.mem_cons_self))
  refine compLoop_inner (fun i s' => (Ex6 fun h' tk ys oC m' news' => Cj9 (s' = { s with heap := h', toks := tk }) (ys.length ≤ b + i) (St i h') (Fr h₀ L h' m) (News h₀ L h' ((C, oC) :: (D, lst ys) :: news')) (NsObj oC m') (Off3 I C D news') (Mp m') (Rel i ys news'))) W hgo ?_ ?_ ?_ ?_
  · rintro i s' ⟨h', tk, ys, oC, m', news', rfl, _, hst, _⟩
    exact hst
  · exact ⟨s.heap, s.toks, ys₀, oC, m₂, news, rfl, by lia, hst, F, fun p hp => N p (.tail _ hp), hC, off, hM, hR0⟩
  · rintro i s' v h' tk' hi ⟨h1, tk, ys, oC, m', news', rfl, hyl, hst1, F1, N1, hC1, off1, hM1, hRel⟩ hP hst' keep
    obtain ⟨oI, heI⟩ := hIo _ _ hst'
    have F2 : Fr h₀ L h' m := fr_but F1 keep (Ne.symm zI.2.1) zI.2.2
    have off2 := off1.mem
    have N2 : News h₀ L h' ((I, oI) :: (C, oC) :: (D, lst ys) :: news') := fun p hp => by
      rcases List.mem_cons.mp hp with rfl | hp
      · exact ⟨heI, zI.2⟩
      · refine ⟨keep _ _ ?_ (N1 p hp).1, (N1 p hp).2⟩
        rcases List.mem_cons.mp hp with rfl | hp
        · simpa using Ne.symm ne.1
        rcases List.mem_cons.mp hp with rfl | hp
        · simpa using Ne.symm ne.2.1
        · simpa using (off2 p hp).1
    refine wpAny_mono (turn i v h' tk' oI oC m' ys news' hi hP F2 N2 hC1 off1 ne hM1 hRel) (fun _ s₂ h₂ => wpAny_mono h₂ (fun ok s₃ h₃ => ?_) fun _ _ e => e) fun _ _ e => e
    cases ok with
    | false =>
      obtain ⟨h3, tk3, oC3, m3, nw3, rfl, F3, N3, hC3, off3, hM3, hR3⟩ := h₃
      exact ⟨h3, tk3, ys, oC3, m3, nw3, rfl, Nat.le_succ_of_le hyl, hSt _ _ _ _ _ hst' heI (N3 _ List.mem_cons_self).1 F3.keep (fun p hp => N3 p (.tail _ (.tail _ (.tail _ hp)))) (hS _ _ _ hR3), F3, fun p hp => N3 p (.tail _ hp), hC3, off3, hM3, hR3⟩
    | true =>
      refine wpAny_mono (show wpAny _ _ _ _ _ _ from h₃) (fun y s₄ h₄ => ?_) fun _ _ e => e
      obtain ⟨h3, tk3, oC3, m3, nw3, rfl, F3, N3, hC3, off3, hM3, hR3⟩ := h₄
      have qD := N3 (D, lst ys) (.tail _ (.tail _ List.mem_cons_self))
      refine append_at (hsz := by show ys.toArray.size ≤ sizeLine; rw [List.size_toArray]; lia) qD.1 fun h₅ hs₅ hD₅ => ?_
      have hst3 : St (i + 1) h3 := hSt _ _ _ _ _ hst' heI (N3 _ List.mem_cons_self).1 F3.keep (fun p hp => N3 p (.tail _ (.tail _ (.tail _ hp)))) (hS _ _ _ hR3)
      have F5 : Fr h₀ L h₅ m := F3.change hs₅ qD.2.1 qD.2.2
      have off4 := off3.mem
      have N5 : News h₀ L h₅ ((I, oI) :: (C, oC3) :: (D, lst (ys ++ [y])) :: nw3) := fun p hp => by
        rcases List.mem_cons.mp hp with rfl | hp
        · exact ⟨hs₅.extBut _ _ ne.2.1 (N3 _ List.mem_cons_self).1, (N3 _ List.mem_cons_self).2⟩
        rcases List.mem_cons.mp hp with rfl | hp
        · exact ⟨hs₅.extBut _ _ ne.2.2 (N3 _ (.tail _ List.mem_cons_self)).1, (N3 _ (.tail _ List.mem_cons_self)).2⟩
        rcases List.mem_cons.mp hp with rfl | hp
        · exact ⟨hD₅.trans (congrArg some (lst_snoc ys y)), qD.2⟩
        · have z := N3 p (.tail _ (.tail _ (.tail _ hp)))
          exact ⟨hs₅.extBut _ _ (off4 p hp).2.2 z.1, z.2⟩
      refine ⟨h₅, tk3, ys ++ [y], oC3, m3, nw3, rfl, by simp; lia, hSt _ _ _ _ _ hst3 (N3 _ List.mem_cons_self).1 (N5 _ List.mem_cons_self).1 F5.keep (fun p hp => N5 p (.tail _ (.tail _ (.tail _ hp)))) (hS _ _ _ hR3), F5, fun p hp => N5 p (.tail _ hp), hC3, off3, hM3, hR3⟩
  · rintro s' h' tk' ⟨h1, tk, ys, oC, m', news', rfl, hyl, hst1, F1, N1, hC1, off1, hM1, hRel⟩ keep
    have off2 := off1.mem
    refine done h' tk' ys oC m' news' (fr_but F1 keep (Ne.symm zI.2.1) zI.2.2) (fun p hp => ⟨keep _ _ ?_ (N1 p hp).1, (N1 p hp).2⟩) hC1 off1 hyl hRel
    rcases List.mem_cons.mp hp with rfl | hp
    · simpa using Ne.symm ne.1
    rcases List.mem_cons.mp hp with rfl | hp
    · simpa using Ne.symm ne.2.1
    · simpa using (off2 p hp).1
noncomputable def OTurn (prog : Program) (w : World) (A : Around) (h₀ : Heap) (L : Addr) (m : Str → Option Value) (s : Shared) (elt t0 t1 i1 : Expr) (ifs : List Expr) (cenv : Env) (I C D : Addr) (P : Nat → Value → Prop) (Rel : Nat → List Value → List (Addr × Obj) → Prop) (n k : Nat) : Prop :=
  ∀ i v h tk oI oC m₂ ys news', i < n → P i v → Fr h₀ L h m → News h₀ L h ((I, oI) :: (C, oC) :: (D, lst ys) :: news') → NsObj oC m₂ → Off3 I C D news' → ((@Ne Nat I C) ∧ (@Ne Nat I D) ∧ (@Ne Nat C D)) → Rel i ys news' →
    wpAny (model prog w) A (assign t0 cenv v) (fun _ s₂ => wpAny (model prog w) A (eval i1 cenv) (fun xv s₃ => wpAny (model prog w) A (pyIter xv) (fun it s₄ =>
      (Ex11 fun (I₂ : Addr) (S₂ : List (Addr × Obj) → Prop) (P₂ : Nat → Value → Prop) (n₂ : Nat) (oC₄ : Obj) (m₄ : Str → Option Value) (nw₄ : List (Addr × Obj)) (Rel₂ : Nat → List Value → List (Addr × Obj) → Prop) (Mp : (Str → Option Value) → Prop) (h₄ : Heap) (tk₄ : Nat) => Cj11 (it = .ref I₂) (s₄ = { s with heap := h₄, toks := tk₄ }) (CSrc prog w A h₀ L m S₂ P₂ n₂ ((C, oC₄) :: (D, lst ys) :: (I, oI) :: nw₄) I₂ s₄.heap) (n₂ ≤ k) (NsObj oC₄ m₄) (Off3 I C D nw₄) ((∀ j ys' nw', Rel₂ j ys' nw' → S₂ nw')) (Mp m₄) (Rel₂ 0 ys ((I, oI) :: nw₄)) (CTurnM prog w A h₀ L m Mp { s with heap := h₄, toks := tk₄ } elt t1 ifs cenv I₂ C D P₂ Rel₂ n₂) (∀ ys' nw', Rel₂ n₂ ys' nw' → ∃ nw'', nw' = (I, oI) :: nw'' ∧ Off3 I C D nw'' ∧ Rel (i + 1) ys' nw''))) (fun _ _ => False) s₃) (fun _ _ => False) s₂) (fun _ _ => False) { s with heap := h, toks := tk }
theorem comp_out2 {elt t0 t1 i0 i1 : Expr} {ifs : List Expr} {scope : Scope} {pos : Pos} {I C D : Addr} {fp : List Addr} {n k : Nat} {P : Nat → Value → Prop} {St : Nat → Heap → Prop} {S : List (Addr × Obj) → Prop} {Rel : Nat → List Value → List (Addr × Obj) → Prop} {R : Result → Shared → Prop} {cenv : Env} {oI oC : Obj} {m₂ : Str → Option Value} {news : List (Addr × Obj)}
    (W : Walks prog w A I fp [I] n P St) (hsz : n * k ≤ sizeLine)
    (hgo : ∀ i v (s : Shared) (Q : Unit → Shared → Prop) (E : Value → Shared → Prop), St i s.heap → Q () s → wpAny (model prog w) A (letOwnedTupleGo t0 (.ref I) v) Q E s)
    (hIo : ∀ i h, St i h → ∃ o, h.get? I = some o)
    (hSt : ∀ i h h' o nw, St i h → h.get? I = some o → h'.get? I = some o → (∀ b o, h₀.get? b = some o → h'.get? b = some o) → News h₀ L h' nw → S nw → St i h')
    (hst : St 0 s.heap) (F : Fr h₀ L s.heap m) (N : News h₀ L s.heap ((I, oI) :: (C, oC) :: (D, lst []) :: news)) (hC : NsObj oC m₂) (off : Off3 I C D news) (ne : (@Ne Nat I C) ∧ (@Ne Nat I D) ∧ (@Ne Nat C D))
    (hS : ∀ i ys nw, Rel i ys nw → S nw) (hR0 : Rel 0 [] news) (turn : OTurn prog w A h₀ L m s elt t0 t1 i1 ifs cenv I C D P Rel n k)
    (done : ∀ h tk ys oC m' news', Fr h₀ L h m → News h₀ L h ((C, oC) :: (D, lst ys) :: news') → NsObj oC m' → Off3 I C D news' → Rel n ys news' → R (.ok .next) { s with heap := h, toks := tk })
    (hs : ∀ x, foldedSetIterable i1 cenv x = pure x := by intro _; rfl) :
    codeAny (model prog w) A (.compLoop (.ListComp elt [⟨t0, i0, [], 0⟩, ⟨t1, i1, ifs, 0⟩] scope pos) 0 (.ref I) (.ref D) cenv) R s := by
  have zI := N (I, oI) List.mem_cons_self
  have zD := N (D, lst []) (.tail _ (.tail _ List.mem_cons_self))
  refine compLoop_outer (hs := hs) (fun i s' => (Ex6 fun h' tk ys oC m' news' => Cj8 (s' = { s with heap := h', toks := tk }) (ys.length ≤ i * k) (St i h') (Fr h₀ L h' m) (News h₀ L h' ((C, oC) :: (D, lst ys) :: news')) (NsObj oC m') (Off3 I C D news') (Rel i ys news'))) W hgo ?_ ?_ ?_ ?_
  · rintro i s' ⟨h', tk, ys, oC, m', news', rfl, _, hst, _⟩
    exact hst
  · exact ⟨s.heap, s.toks, [], oC, m₂, news, rfl, Nat.zero_le _, hst, F, fun p hp => N p (.tail _ hp), hC, off, hR0⟩
  · rintro i s' v h' tk' hi ⟨h1, tk, ys, oC, m', news', rfl, hyl, hst1, F1, N1, hC1, off1, hRel⟩ hP hst' keep
    obtain ⟨oI, heI⟩ := hIo _ _ hst'
    have F2 : Fr h₀ L h' m := fr_but F1 keep (Ne.symm zI.2.1) zI.2.2
    have off2 := off1.mem
    have N2 : News h₀ L h' ((I, oI) :: (C, oC) :: (D, lst ys) :: news') := fun p hp => by
      rcases List.mem_cons.mp hp with rfl | hp
      · exact ⟨heI, zI.2⟩
      · refine ⟨keep _ _ ?_ (N1 p hp).1, (N1 p hp).2⟩
        rcases List.mem_cons.mp hp with rfl | hp
        · simpa using Ne.symm ne.1
        rcases List.mem_cons.mp hp with rfl | hp
        · simpa using Ne.symm ne.2.1
        · simpa using (off2 p hp).1
    refine wpAny_mono (turn i v h' tk' oI oC m' ys news' hi hP F2 N2 hC1 off1 ne hRel) (fun _ s₂ h₂ => wpAny_mono h₂ (fun xv s₃ h₃ => wpAny_mono h₃ (fun it s₄ h₄ => ?_) fun _ _ e => e) fun _ _ e => e) fun _ _ e => e
    obtain ⟨I₂, S₂, P₂, n₂, oC₄, m₄, nw₄, Rel₂, Mp, g₄, tk₄, rfl, rfl, src, hk, hC₄, off₄, hS₂, hMp, hR₂, turn₂, fin₂⟩ := h₄
    obtain ⟨⟨fp₂, St₂, W₂, hgo₂, hIo₂, hSt₂, hst₂⟩, hsz₂, F₄, N₄, new₂, offI₂⟩ := src
    obtain ⟨oI₂, heI₂⟩ := hIo₂ _ _ hst₂
    have off₅ := off₄.mem
    have n1 := offI₂ (C, oC₄) (.head _)
    have n2 := offI₂ (D, lst ys) (.tail _ (.head _))
    have ne₂ : (@Ne Nat I₂ C) ∧ (@Ne Nat I₂ D) ∧ (@Ne Nat C D) := ⟨Ne.symm n1, Ne.symm n2, ne.2.2⟩
    have hmul : (i + 1) * k ≤ n * k := Nat.mul_le_mul_right k hi
    have hsucc : (i + 1) * k = i * k + k := Nat.succ_mul i k
    refine ⟨I₂, fp₂, [I₂], n₂, P₂, St₂, rfl, W₂, hst₂, ?_⟩
    refine comp_in2 (s := { s with heap := g₄, toks := tk₄ }) (Rel := Rel₂) (b := i * k) (oI := oI₂) (oC := oC₄) (m₂ := m₄) (news := (I, oI) :: nw₄) (ys₀ := ys) W₂ hyl (by lia) (hgo₂ _) hIo₂ hSt₂ hst₂ F₄ (fun p hp => ?_) hC₄ (Off3.of fun p hp => ?_) ne₂ hS₂ hMp hR₂ turn₂ ?_
    · rcases List.mem_cons.mp hp with rfl | hp
      · exact ⟨heI₂, new₂.1, new₂.2⟩
      · exact N₄ p hp
    · rcases List.mem_cons.mp hp with rfl | hp
      · exact ⟨offI₂ _ (.tail _ (.tail _ (.head _))), ne.1, ne.2.1⟩
      · exact ⟨offI₂ _ (.tail _ (.tail _ (.tail _ hp))), (off₅ p hp).2.1, (off₅ p hp).2.2⟩
    · intro h₅ tk₅ ys₅ oC₅ m₅ nw₅ F₅ N₅ hC₅ off₆ hl₅ hR₅
      obtain ⟨nw₆, rfl, off₇, hRel₆⟩ := fin₂ ys₅ nw₅ hR₅
      refine ⟨h₅, tk₅, ys₅, oC₅, m₅, nw₆, rfl, by lia, ?_, F₅, fun p hp => N₅ p (by
        rcases List.mem_cons.mp hp with rfl | hp
        · exact .head _
        rcases List.mem_cons.mp hp with rfl | hp
        · exact .tail _ (.head _)
        · exact .tail _ (.tail _ (.tail _ hp))), hC₅, off₇, hRel₆⟩
      exact hSt _ _ _ _ _ hst' heI (N₅ (I, oI) (.tail _ (.tail _ (.head _)))).1 F₅.keep (fun p hp => N₅ p (.tail _ (.tail _ (.tail _ hp)))) (hS _ _ _ hRel₆)
  · rintro s' h' tk' ⟨h1, tk, ys, oC, m', news', rfl, hyl, hst1, F1, N1, hC1, off1, hRel⟩ keep
    have off2 := off1.mem
    refine done h' tk' ys oC m' news' (fr_but F1 keep (Ne.symm zI.2.1) zI.2.2) (fun p hp => ⟨keep _ _ ?_ (N1 p hp).1, (N1 p hp).2⟩) hC1 off1 hRel
    rcases List.mem_cons.mp hp with rfl | hp
    · simpa using Ne.symm ne.1
    rcases List.mem_cons.mp hp with rfl | hp
    · simpa using Ne.symm ne.2.1
    · simpa using (off2 p hp).1
end
end
section
open PySem PySem.W PyProof.Rows PySem.Spec PySem.Calls
section
variable {prog : Program} {w : World} {A : Around} {E : Value → Shared → Prop} {s : Shared}
theorem pairKey {h : Heap} {T : Addr} {a b : Int} {t u : Tok} (e : h.get? T = some (tup2 (.int a t) (.int b u))) : IsTupleKey (intKind prog w) h [a, b] T :=
  ⟨_, #[.int a t, .int b u], 0, e, rfl, rfl, .cons (intKind_is _ _ _ _) (.cons (intKind_is _ _ _ _) .nil)⟩
theorem pair_hash {T : Addr} {k : Int × Int} {t u : Tok} {Q : Int → Shared → Prop} (hu : A.units < cLine) (e : s.heap.get? T = some (tup2 (.int k.1 t) (.int k.2 u))) (h : Q (hp k) { s with toks := s.toks + 3 }) :
    wpAny (model prog w) A (pyHash (.ref T)) Q E s := wpAny_pyHash_tuple (knd := intKind prog w) hu (pairKey e) (show Q (hpC k) _ by rw [← hp_eq]; exact h)
theorem pair_eqBool {T U : Addr} {k l : Int × Int} {t u t' u' : Tok} {Q : Bool → Shared → Prop} (hu : A.units < cLine) (e : s.heap.get? T = some (tup2 (.int k.1 t) (.int k.2 u))) (e' : s.heap.get? U = some (tup2 (.int l.1 t') (.int l.2 u'))) (h : Q (decide (k = l)) s) :
    wpAny (model prog w) A (eqBool (.ref T) (.ref U)) Q E s := by
  refine wpAny_eqBool_tuple (knd := intKind prog w) hu (pairKey e) (pairKey e') ?_
  have : decide ([k.1, k.2] = [l.1, l.2]) = decide (k = l) := by
    obtain ⟨a, b⟩ := k; obtain ⟨c, d⟩ := l
    simp
  rw [this]; exact h
noncomputable abbrev Mem := List (Addr × (Int × Int))
noncomputable def ents (L : Mem) : Array (Int × Value) := (L.map fun p => (hp p.2, Value.ref p.1)).toArray
noncomputable def Laid (h : Heap) (L : Mem) : Prop := ∀ p ∈ L, ∃ t u, h.get? p.1 = some (tup2 (.int p.2.1 t) (.int p.2.2 u))
theorem Laid.keeps {h h' : Heap} {L : Mem} (x : Laid h L) (k : ∀ b o, h.get? b = some o → h'.get? b = some o) : Laid h' L := fun p hp => let ⟨t, u, e⟩ := x p hp; ⟨t, u, k _ _ e⟩
theorem ofClass_pair {T : Addr} {k : Int × Int} {t u : Tok} {Q : Bool → Shared → Prop} (e : s.heap.get? T = some (tup2 (.int k.1 t) (.int k.2 u))) (h : Q false s) : wpAny (model prog w) A (ofAClassStatement 8 (.ref T)) Q E s := by
  unfold ofAClassStatement
  refine wpAny_bind (wpAny_typeOf (T := "tuple") ⟨_, e, rfl⟩ ?_)
  dsimp only
  refine wpAny_bind (wpAny_pure ?_)
  rw [if_neg (by decide)]
  refine wpAny_bind (wpAny_seqItems e rfl ?_)
  dsimp only
  have hz : ∀ v : Value, (∃ n t, v = .int n t) → ofAClassStatement 7 v = pure false := by
    rintro v ⟨n, t, rfl⟩; rfl
  refine wpAny_bind ?_
  show wpAny _ _ (forIn #[Value.int k.1 t, Value.int k.2 u] _ _) _ _ s
  rw [← Array.forIn_toList]
  refine wpAny_forIn_list _ (fun rest r s' => r.1 = none ∧ s' = s ∧ ∀ v ∈ rest, ∃ n t, v = Value.int n t) _ ?_ ?_ _ _ ⟨rfl, rfl, fun v hv => ?_⟩
  · rintro v rest r s' ⟨hr, rfl, hall⟩
    rw [hz v (hall v List.mem_cons_self)]
    refine wpAny_bind (wpAny_pure ?_)
    simp only [Bool.false_eq_true, if_false]
    exact wpAny_pure ⟨rfl, rfl, fun u hu' => hall u (List.mem_cons_of_mem _ hu')⟩
  · rintro ⟨r1, r2⟩ s' ⟨hr, rfl, _⟩
    simp only at hr
    subst hr
    exact wpAny_pure h
  · simp only [List.mem_cons, List.not_mem_nil, or_false] at hv
    rcases hv with rfl | rfl
    · exact ⟨_, _, rfl⟩
    · exact ⟨_, _, rfl⟩
theorem unseen_pair {T : Addr} {k : Int × Int} {t u : Tok} {st : List Value} {Q : Bool → Shared → Prop} (e : s.heap.get? T = some (tup2 (.int k.1 t) (.int k.2 u))) (hs : ∀ v ∈ st, ∃ (U : Addr) (l : Int × Int) (t' u' : Tok), v = .ref U ∧ s.heap.get? U = some (tup2 (.int l.1 t') (.int l.2 u'))) (h : Q false s) :
    wpAny (model prog w) A (searchCouldBeSeen (.ref T) st) Q E s := by
  unfold searchCouldBeSeen
  refine wpAny_bind ?_
  refine wpAny_forIn_list _ (fun rest r s' => r.1 = none ∧ s' = s ∧ ∀ v ∈ rest, ∃ (U : Addr) (l : Int × Int) (t' u' : Tok), v = .ref U ∧ s.heap.get? U = some (tup2 (.int l.1 t') (.int l.2 u'))) _ ?_ ?_ _ _ ⟨rfl, rfl, hs⟩
  · rintro v rest r s' ⟨hr, rfl, hall⟩
    obtain ⟨U, l, t', u', rfl, e'⟩ := hall v List.mem_cons_self
    have hall' := fun u hu' => hall u (List.mem_cons_of_mem _ hu')
    dsimp only
    have hc : (carriedByValue (Value.ref T) && carriedByValue (Value.ref U)) = false := rfl
    rw [hc, Bool.or_false]
    by_cases hq : (T == U) = true
    · rw [if_pos hq]
      exact wpAny_pure ⟨rfl, rfl, hall'⟩
    · rw [if_neg hq]
      refine wpAny_bind (wpAny_eqIsQuiet_tuple (knd := intKind prog w) (pairKey e) ?_)
      simp only [Bool.not_true, Bool.false_eq_true, if_false]
      refine wpAny_bind (wpAny_eqIsQuiet_tuple (knd := intKind prog w) (pairKey e') ?_)
      simp only [Bool.not_true, Bool.false_eq_true, if_false]
      refine wpAny_bind (ofClass_pair e ?_)
      simp only [Bool.false_eq_true, if_false]
      refine wpAny_bind (ofClass_pair e' ?_)
      simp only [Bool.false_eq_true, if_false]
      exact wpAny_pure ⟨rfl, rfl, hall'⟩
  · rintro ⟨r1, r2⟩ s' ⟨hr, rfl, _⟩
    simp only at hr
    subst hr
    exact wpAny_pure h
theorem hbv_pair {T : Addr} {k : Int × Int} {t u : Tok} {Q : Bool → Shared → Prop} (e : s.heap.get? T = some (tup2 (.int k.1 t) (.int k.2 u))) (h : Q true s) : wpAny (model prog w) A (hashByValue 8 (.ref T)) Q E s := by
  have hT : s.TypeIs (.ref T) "tuple" := ⟨_, e, rfl⟩
  unfold hashByValue
  refine wpAny_bind (wpAny_specialOf hT F.slot_tuple_hash.lookup ?_)
  dsimp only
  refine wpAny_bind (wpAny_seqItems e rfl ?_)
  refine wpAny_bind ?_
  show wpAny _ _ (forIn #[Value.int k.1 t, Value.int k.2 u] _ _) _ _ s
  rw [← Array.forIn_toList]
  refine wpAny_forIn_list _ (fun rest r s' => r.1 = none ∧ s' = s ∧ ∀ v ∈ rest, ∃ n t, v = Value.int n t) _ ?_ ?_ _ _ ⟨rfl, rfl, fun v hv => ?_⟩
  · rintro v rest r s' ⟨hr, rfl, hall⟩
    obtain ⟨n, t', rfl⟩ := hall v List.mem_cons_self
    refine wpAny_bind ?_
    show wpAny _ _ (pure true) _ _ _
    refine wpAny_pure ?_
    simp only [Bool.not_true, Bool.false_eq_true, if_false]
    exact wpAny_pure ⟨rfl, rfl, fun u hu' => hall u (List.mem_cons_of_mem _ hu')⟩
  · rintro ⟨r1, r2⟩ s' ⟨hr, rfl, _⟩
    simp only at hr
    subst hr
    exact wpAny_pure h
  · simp only [List.mem_cons, List.not_mem_nil, or_false] at hv
    rcases hv with rfl | rfl
    · exact ⟨_, _, rfl⟩
    · exact ⟨_, _, rfl⟩
end
end
section
open PySem PySem.W PyProof.Rows PySem.Spec PySem.Calls
structure SetP (ld : Bool) (o : Obj) (L : Mem) : Prop where
  exact : o.ExactSet
  body : ∃ ep t, o.data = .set (ents L) ep t ∧ Tab t (L.map (·.2)) ∧ ((t.mask = 7 ∧ L.length ≤ 4) ∨ (t.mask = 31 ∧ L.length ≤ 10)) ∧ t.led = ld
theorem ents_size (L : Mem) : (ents L).size = L.length := by simp [ents]
theorem Tab.fits {t : SetTable} {L : Mem} (T : Tab t (L.map (·.2))) : t.fits (ents L).size = true := by
  unfold SetTable.fits SetTable.fill
  have h := T.len
  rw [List.length_map] at h
  rw [ents_size, T.dum, h]
  rcases T.room with ⟨e, l⟩ | ⟨e, l⟩
  · rw [List.length_map] at l
    simp [e]; lia
  · rw [List.length_map] at l
    simp [e]; lia
theorem ents_at {L : Mem} {i : Nat} {p : Addr × (Int × Int)} (h : L[i]? = some p) : (ents L)[i]? = some (hp p.2, Value.ref p.1) := by
  unfold ents
  simp [h]
section
variable {prog : Program} {w : World} {A : Around} {E : Value → Shared → Prop} {s : Shared}
theorem laid_filter {h : Heap} {L : Mem} (x : Laid h L) (q : Int × Value → Bool) : ∀ v ∈ ((ents L).filter q).toList.map (·.2), ∃ (U : Addr) (l : Int × Int) (t' u' : Tok), v = .ref U ∧ h.get? U = some (tup2 (.int l.1 t') (.int l.2 u')) := by
  intro v hv
  obtain ⟨e, he, rfl⟩ := List.mem_map.mp hv
  rw [Array.toList_filter, List.mem_filter] at he
  have h1 : e ∈ L.map fun p => (hp p.2, Value.ref p.1) := by simpa [ents] using he.1
  obtain ⟨p, hp', rfl⟩ := List.mem_map.mp h1
  obtain ⟨t, u, e⟩ := x p hp'
  exact ⟨p.1, p.2, t, u, rfl, e⟩
theorem search_fuel (fuel : Nat) {a T : Addr} {o : Obj} {L : Mem} {ep : Nat} {t : SetTable} {k : Int × Int} {tt tu : Tok} {Q : SetFound → Shared → Prop} (ho : s.heap.get? a = some o) (hd : o.data = .set (ents L) ep t) (TB : Tab t (L.map (·.2))) (la : Laid s.heap L)
    (hu : A.units < cLine) (hk : k ∈ keys10) (e : s.heap.get? T = some (tup2 (.int k.1 tt) (.int k.2 tu)))
    (h1 : k ∈ L.map (·.2) → Q (.there none) s) (h2 : ∀ j, k ∉ L.map (·.2) → j ≤ t.mask → j ∉ t.place.toList → RchT t.mask k j t.place.toList → Q (.free j false) s) :
    wpAny (model prog w) A (setSearchFrom a (.ref T) (hp k) true (fuel + 1) none) Q E s := by
  unfold setSearchFrom
  refine wpAny_bind (wpAny_setState_of ho hd TB.fits ?_)
  dsimp only
  have hg : t.gaveWay = false := by
    unfold SetTable.gaveWay
    rcases TB.room with ⟨e, _⟩ | ⟨e, _⟩ <;> rw [e] <;> decide
  rw [hg]
  simp only [Bool.false_eq_true, if_false]
  rw [Option.getD_none]
  generalize hS : t.probe _ (hp k) (t.probeStart (hp k)) = r
  have hat : ∀ (i : Nat) k', (L.map (·.2))[i]? = some k' → (((ents L)[i]?).map (·.1)).getD 0 = hp k' := fun i k' q => by
    rw [List.getElem?_map] at q
    cases z : L[i]? with
    | none => rw [z] at q; cases q
    | some p =>
      rw [z, Option.map_some] at q
      rw [ents_at z, Option.map_some, Option.getD_some, Option.some.inj q]
  have TS := TB.search hk (hashAt := fun i => (((ents L)[i]?).map (·.1)).getD 0) hat
  have hS' : t.probe (fun i => (((ents L)[i]?).map (·.1)).getD 0) (hp k) (t.probeStart (hp k)) = r := hS
  by_cases hm : k ∈ L.map (·.2)
  · obtain ⟨i, hi⟩ := List.getElem?_of_mem hm
    obtain ⟨j, nx, hj, he⟩ := TS.1 i hi
    rw [he] at hS'
    subst hS'
    dsimp only
    have hLi : ∃ p, L[i]? = some p ∧ p.2 = k := by
      rw [List.getElem?_map] at hi
      cases z : L[i]? with
      | none => rw [z] at hi; cases hi
      | some p => rw [z] at hi; exact ⟨p, rfl, Option.some.inj hi⟩
    obtain ⟨p, hpi, rfl⟩ := hLi
    obtain ⟨t1, u1, e1⟩ := la p (List.mem_of_getElem? hpi)
    have fin : wpAny (model prog w) A (do
        let some (_, y) := (ents L)[i]? | unsupported "internal:set-entry"
        let equal ← holding [y] (eqBool y (.ref T))
        let (es', _, t') ← setState a
        if true && equal then return SetFound.there none
        let some sm := t'.sameMemory t.moves t.mask | unsupported "set.changed-during-lookup:is-the-new-block-at-the-old-address"
        let still ← match (if sm then t'.slot j else .empty) with
          | .live i' => match es'[i']? with
            | some (_, y') => do pure (if ← isSame y' y then some i' else none)
            | none => pure none
          | _ => pure none
        match still with
        | none => rule "set.search.anew"; setSearchFrom a (.ref T) (hp p.2) true fuel none
        | some i' => if equal then return .there (some i') else setSearchFrom a (.ref T) (hp p.2) true fuel (some nx)) Q E s := by
      rw [ents_at hpi]
      dsimp only
      refine wpAny_bind (wpAny_holding (pair_eqBool hu e1 e ?_))
      rw [decide_eq_true rfl]
      refine wpAny_bind (wpAny_setState_of ho hd TB.fits ?_)
      dsimp only
      rw [if_pos (by decide)]
      exact wpAny_pure (h1 hm)
    cases hled : t.led with
    | true =>
      simp only [Bool.not_true, Bool.false_eq_true, if_false]
      exact fin
    | false =>
      simp only [Bool.not_false, if_true]
      refine wpAny_bind (unseen_pair e (laid_filter la _) ?_)
      simp only [Bool.false_eq_true, if_false]
      exact fin
  · obtain ⟨j, hj1, hj2, hj3, he⟩ := TS.2 hm
    rw [he] at hS'
    subst hS'
    dsimp only
    exact wpAny_pure (h2 j hm hj1 hj2 hj3)
theorem search_pair {a T : Addr} {o : Obj} {L : Mem} {ep : Nat} {t : SetTable} {k : Int × Int} {tt tu : Tok} {Q : SetFound → Shared → Prop} (ho : s.heap.get? a = some o) (hd : o.data = .set (ents L) ep t) (TB : Tab t (L.map (·.2))) (la : Laid s.heap L)
    (hu : A.units < cLine) (hk : k ∈ keys10) (e : s.heap.get? T = some (tup2 (.int k.1 tt) (.int k.2 tu)))
    (h1 : k ∈ L.map (·.2) → Q (.there none) s) (h2 : ∀ j, k ∉ L.map (·.2) → j ≤ t.mask → j ∉ t.place.toList → RchT t.mask k j t.place.toList → Q (.free j false) s) :
    wpAny (model prog w) A (setSearch a (.ref T) (hp k) true) Q E s := search_fuel 99999 ho hd TB la hu hk e h1 h2
end
end
section
open PySem PySem.W PyProof.Rows PySem.Spec PySem.Calls
section
variable {prog : Program} {w : World} {A : Around} {E : Value → Shared → Prop} {s : Shared} {ld : Bool}
theorem ents_ins (L : Mem) (p : Nat) (x : Addr × (Int × Int)) : SetTable.insertAt (ents L) p (hp x.2, Value.ref x.1) = ents (L.take p ++ x :: L.drop p) := by
  apply Array.toList_inj.mp
  rw [insertAt_list]
  unfold ents
  simp
theorem set_tooFull {t : SetTable} (hd : t.dummies = #[]) {n : Nat} (hn : t.place.size = n) : t.tooFull = decide (n * 5 ≥ t.mask * 3) := by
  unfold SetTable.tooFull SetTable.fill
  rw [hd, hn]
  rfl
theorem store_pair {a : Addr} {o : Obj} {es : Array (Int × Value)} {ep : Nat} {t t' : SetTable} {L : Mem} {Q : Unit → Shared → Prop} (ho : s.heap.get? a = some o) (hx : o.ExactSet) (hd : o.data = .set es ep t) (hz : L.length ≤ 10)
    (h : ∀ h' o', Heap.SameBut a s.heap h' → h'.get? a = some o' → o'.ExactSet → o'.data = .set (ents L) (ep + 1) t' → Q () { s with heap := h' }) :
    wpAny (model prog w) A (storeSet a (ents L) t') Q E s := by
  refine wpAny_storeSet_of ho hd ?_ (by rw [ents_size, sizeLine_eq]; lia)
  have hg : (s.heap.update a (Obj.putSet (ents L) t')).get? a = some { o with data := .set (ents L) (ep + 1) t' } := by
    have := Heap.get?_update_self (Obj.putSet (ents L) t') ho (by rw [putSet_of _ t' hd]; rfl)
    rw [putSet_of _ t' hd] at this; exact this
  exact h _ _ (Heap.SameBut.update s.heap a _) hg hx rfl
theorem relay_pair {a : Addr} {o : Obj} {ep : Nat} {t : SetTable} {L : Mem} {Q : Unit → Shared → Prop} (ho : s.heap.get? a = some o) (hx : o.ExactSet) (hd : o.data = .set (ents L) ep t) (TB : Tab t (L.map (·.2))) (hz : L.length ≤ 10) (hld : t.led = ld)
    (h : ∀ h' o' L', Heap.SameBut a s.heap h' → h'.get? a = some o' → SetP ld o' L' → L'.Perm L → Q () { s with heap := h' }) :
    wpAny (model prog w) A (setRelay a 20) Q E s := by
  unfold setRelay
  refine wpAny_bind (wpAny_setState_of ho hd TB.fits ?_)
  dsimp only
  obtain ⟨t', L', order, e, eL, pm, TB', hm, hled⟩ := TB.relay hz
  have e1 : (ents L).map (·.1) = (L.map fun p => hp p.2).toArray := by
    unfold ents
    apply Array.toList_inj.mp
    simp
  rw [e1, e, if_neg (by decide)]
  refine wpAny_bind ?_
  have e2 : order.filterMap ((ents L)[·]?) = ents L' := by
    apply Array.toList_inj.mp
    rw [Array.toList_filterMap, eL]
    unfold ents
    dsimp only
    rw [List.map_filterMap]
    congr 1
    funext i
    simp
  have fin : wpAny (model prog w) A (do
      let es' := order.filterMap ((ents L)[·]?)
      if es'.size != (ents L).size then unsupported "internal:set-table-lost-an-element"
      pure (es', t')) (fun x s' => wpAny (model prog w) A (storeSet a x.1 x.2) Q E s') E s := by
    dsimp only
    rw [e2]
    rw [if_neg (by rw [ents_size, ents_size, pm.length_eq]; simp)]
    refine wpAny_pure ?_
    exact store_pair ho hx hd (by rw [pm.length_eq]; exact hz) fun h' o' sb ho' hx' hd' => h h' o' L' sb ho' ⟨hx', _, _, hd', TB', .inr ⟨hm, by rw [pm.length_eq]; exact hz⟩, hled.trans hld⟩ pm
  exact fin
theorem add_fuel (fuel : Nat) {a T : Addr} {o : Obj} {L : Mem} {k : Int × Int} {tt tu : Tok} {Q : Bool → Shared → Prop} (ho : s.heap.get? a = some o) (S : SetP ld o L) (la : Laid s.heap L) (hu : A.units < cLine) (hk : k ∈ keys10)
    (e : s.heap.get? T = some (tup2 (.int k.1 tt) (.int k.2 tu)))
    (h : ∀ h' o' L', Heap.SameBut a s.heap h' → h'.get? a = some o' → SetP ld o' L' → L'.Perm (if k ∈ L.map (·.2) then L else (T, k) :: L) → ∀ b, Q b { s with heap := h' }) :
    wpAny (model prog w) A (setAddHashedIn a (.ref T) (hp k) (fuel + 1)) Q E s := by
  obtain ⟨hx, ep, t, hd, TB, hroom, hld⟩ := id S
  unfold setAddHashedIn
  refine wpAny_bind (wpAny_setState_of ho hd TB.fits ?_)
  dsimp only
  have hb : byScan (.ref T) (ents L) = false := rfl
  rw [hb]
  simp only [Bool.false_eq_true, if_false]
  refine wpAny_bind (search_pair ho hd TB la hu hk e ?_ ?_)
  · intro hm
    dsimp only
    refine wpAny_pure ?_
    have := h s.heap o L (Heap.SameBut.refl a s.heap) ho S (by rw [if_pos hm])
    exact this false
  · intro j hn hj hjp hr
    dsimp only
    refine wpAny_bind (wpAny_setState_of ho hd TB.fits ?_)
    dsimp only
    have hlen : (L.map (·.2)).length = L.length := List.length_map ..
    obtain ⟨TB2, hp2⟩ := TB.put hk hn hj hjp hr (by
      rw [hlen]
      rcases hroom with ⟨q, l⟩ | ⟨q, l⟩
      · exact .inl ⟨q, by lia⟩
      · refine .inr ⟨q, ?_⟩
        have hnd : (k :: L.map (·.2)).Nodup := List.nodup_cons.mpr ⟨hn, TB.nd⟩
        have := nodupLen hnd (m := keys10) fun x hx => (List.mem_cons.mp hx).elim (fun q => q ▸ hk) (TB.keys x)
        have e10 : keys10.length = 10 := rfl
        simp only [List.length_cons, List.length_map] at this
        lia)
    obtain ⟨L2, hL2⟩ : ∃ L2 : Mem, L2 = L.take (t.put j).2 ++ (T, k) :: L.drop (t.put j).2 := ⟨_, rfl⟩
    have em : (L.map (·.2)).take (t.put j).2 ++ k :: (L.map (·.2)).drop (t.put j).2 = L2.map (·.2) := by rw [hL2]; simp
    rw [em] at TB2
    have pm : L2.Perm (if k ∈ L.map (·.2) then L else (T, k) :: L) := by rw [if_neg hn, hL2]; exact perm_ins _ _ _
    have pm' : L2.length = L.length + 1 := by rw [pm.length_eq, if_neg hn]; rfl
    rw [if_pos TB2.plain]
    refine wpAny_bind (hbv_pair e ?_)
    rw [if_pos rfl, ents_ins L _ (T, k), ← hL2]
    have hz2 : L2.length ≤ 10 := by
      have hnd : (k :: L.map (·.2)).Nodup := List.nodup_cons.mpr ⟨hn, TB.nd⟩
      have := nodupLen hnd (m := keys10) fun x hx => (List.mem_cons.mp hx).elim (fun q => q ▸ hk) (TB.keys x)
      have e10 : keys10.length = 10 := rfl
      simp only [List.length_cons, List.length_map] at this
      lia
    have hm2 : (t.put j).1.mask = t.mask := by rw [(put_place t TB.dum j).1]
    have hld2 : (t.put j).1.led = ld := by rw [(put_place t TB.dum j).1]; exact hld
    refine wpAny_bind (store_pair ho hx hd hz2 fun h1 o1 sb1 ho1 hx1 hd1 => ?_)
    have htf := set_tooFull TB2.dum (TB2.len.trans (List.length_map ..))
    rw [htf, hm2]
    rcases hroom with ⟨q, l⟩ | ⟨q, l⟩
    · rw [q]
      by_cases h5 : L2.length = 5
      · rw [h5]
        have e20 : SetTable.grown ((ents L).size + 1) = 20 := by
          rw [ents_size, show L.length + 1 = 5 by lia]; decide
        rw [e20, if_pos (by decide)]
        refine wpAny_bind (relay_pair (ld := ld) ho1 hx1 hd1 TB2 hz2 hld2 fun h2 o2 L3 sb2 ho2 S2 pm2 => ?_)
        exact wpAny_pure (h h2 o2 L3 (sb1.trans sb2) ho2 S2 (pm2.trans pm) true)
      · rw [if_neg (by simp; lia)]
        exact wpAny_pure (h h1 o1 L2 sb1 ho1 ⟨hx1, _, _, hd1, TB2, .inl ⟨hm2.trans q, by lia⟩, hld2⟩ pm true)
    · rw [q, if_neg (by simp; lia)]
      exact wpAny_pure (h h1 o1 L2 sb1 ho1 ⟨hx1, _, _, hd1, TB2, .inr ⟨hm2.trans q, hz2⟩, hld2⟩ pm true)
theorem set_add_pair {a T : Addr} {o : Obj} {L : Mem} {k : Int × Int} {tt tu : Tok} {Q : Bool → Shared → Prop} (ho : s.heap.get? a = some o) (S : SetP ld o L) (la : Laid s.heap L) (hu : A.units < cLine) (hk : k ∈ keys10)
    (e : s.heap.get? T = some (tup2 (.int k.1 tt) (.int k.2 tu)))
    (h : ∀ h' o' L' tk, Heap.SameBut a s.heap h' → h'.get? a = some o' → SetP ld o' L' → L'.Perm (if k ∈ L.map (·.2) then L else (T, k) :: L) → ∀ b, Q b { s with heap := h', toks := tk }) :
    wpAny (model prog w) A (setAdd a (.ref T)) Q E s := by
  unfold setAdd
  refine wpAny_holding (wpAny_bind (pair_hash hu e ?_))
  unfold setAddHashed
  exact wpAny_holding (add_fuel 99999 (s := { s with toks := s.toks + 3 }) ho S la hu hk e fun h' o' L' sb ho' S' pm b => h h' o' L' _ sb ho' S' pm b)
end
end
section
open PySem PySem.W PyProof.Rows PySem.Spec PySem.Calls
structure SetOfPairs (ld : Bool) (vs : List Value) (ps : List (Int × Int)) (o : Obj) (L : Mem) : Prop where
  isSet : SetP ld o L
  from_ : ∀ p ∈ L, ∃ n : Nat, vs[n]? = some (.ref p.1) ∧ ps[n]? = some p.2
theorem laid_of {h : Heap} {vs : List Value} {ps : List (Int × Int)} (x : PairsAt h vs ps) {L : Mem} (hf : ∀ p ∈ L, ∃ n : Nat, vs[n]? = some (.ref p.1) ∧ ps[n]? = some p.2) : Laid h L := by
  intro p hp
  obtain ⟨n, h1, h2⟩ := hf p hp
  obtain ⟨hn, e⟩ := List.getElem?_eq_some_iff.mp h2
  obtain ⟨T, t, u, h3, h4⟩ := x.get n hn
  rw [h1] at h3
  cases h3
  exact ⟨t, u, by rw [e] at h4; exact h4⟩
section
variable {prog : Program} {w : World} {A : Around} {s : Shared} {R : Result → Shared → Prop} {ld : Bool}
theorem upd_loop {I S ax : Addr} {vs : List Value} {ps : List (Int × Int)} {hb : Heap} (hh : A.in1.handled = none) (hu : A.in1.units < cLine) (hne : ax ≠ I) (hSI : S ≠ I) (hSa : S ≠ ax) (hbS : hb.get? S = none) (hbI : hb.get? I = none) (x : PairsAt hb vs ps) (hk : ∀ p ∈ ps, p ∈ keys10) :
    ∀ (d i : Nat) (s : Shared), ps.length - i = d → i ≤ ps.length → (s.heap.IsListIter I ax i ∧ s.heap.IsList ax vs.toArray) → (∀ b o, hb.get? b = some o → s.heap.get? b = some o) →
      (∃ o L, s.heap.get? S = some o ∧ SetOfPairs ld vs ps o L ∧ ∀ q, q ∈ L.map (·.2) ↔ q ∈ ps.take i) →
      (∀ h' tk o L, (∀ b o, hb.get? b = some o → h'.get? b = some o) → h'.get? S = some o → SetOfPairs ld vs ps o L → (∀ q, q ∈ L.map (·.2) ↔ q ∈ ps) → R (.ok (.ret .none)) { s with heap := h', toks := tk }) →
      codeAny (model prog w) A (.builtin "set.update.loop" ⟨[.ref S, .ref I], []⟩) R s := by
  have W := Walks.list (prog := prog) (w := w) hh I ax hne vs.toArray
  have hvl := x.length
  have hvz : vs.toArray.size = ps.length := by simpa using hvl
  intro d
  induction d with
  | zero =>
    intro i s hd hi hst hkeep hset hR
    have hin : i = ps.length := by lia
    subst hin
    obtain ⟨o, L, ho, SP, hm⟩ := hset
    refine codeAny_builtin F.entry_set_update_loop ?_
    rw [Around.under_plainId F.plain_set_update_loop _]
    show wpAny _ A.in1 (pyNext (.ref I) >>= _) _ _ s
    refine wpAny_bind (W.done s _ _ (by rw [hvz]; exact hst) fun h' tk hk' => ?_)
    show wpAny _ A.in1 (ret Value.none) _ _ _
    refine wpAny_pure (hR h' tk o L (fun b o e => hk' b o (fun q => ?_) (hkeep b o e)) (hk' _ _ (by simpa using hSI) ho) SP (by rw [List.take_length] at hm; exact hm))
    rw [List.mem_singleton.mp q, hbI] at e; cases e
  | succ d ih =>
    intro i s hd hi hst hkeep hset hR
    have hlt : i < ps.length := by lia
    obtain ⟨o, L, ho, SP, hm⟩ := hset
    refine codeAny_builtin F.entry_set_update_loop ?_
    rw [Around.under_plainId F.plain_set_update_loop _]
    show wpAny _ A.in1 (pyNext (.ref I) >>= _) _ _ s
    refine wpAny_bind (W.item i s _ _ (by rw [hvz]; exact hlt) hst fun v h' tk hP hst' hk' => ?_)
    obtain ⟨T, t, u, hv, hT⟩ := x.get i hlt
    have hv' : v = .ref T := by
      have : vs[i]? = some v := by simpa using hP
      rw [hv] at this; exact (Option.some.inj this).symm
    subst hv'
    have keep' : ∀ b o, hb.get? b = some o → h'.get? b = some o := fun b o e => hk' b o (fun q => by rw [List.mem_singleton.mp q, hbI] at e; cases e) (hkeep b o e)
    have ho' := hk' S o (by simpa using hSI) ho
    show wpAny _ A.in1 (holding [Value.ref T] (setAdd S (.ref T)) >>= _) _ _ _
    refine wpAny_bind (wpAny_holding (set_add_pair (s := { s with heap := h', toks := tk }) ho' SP.isSet ((laid_of x SP.from_).keeps keep') hu (hk _ (List.getElem_mem hlt)) (keep' _ _ hT) fun h2 o2 L2 tk2 sb ho2 S2 pm b => ?_))
    have keep2 : ∀ b o, hb.get? b = some o → h2.get? b = some o := fun b o e => by
      rw [sb.2 b (fun q => by rw [q, hbS] at e; cases e)]; exact keep' b o e
    have from2 : ∀ p ∈ L2, ∃ n : Nat, vs[n]? = some (.ref p.1) ∧ ps[n]? = some p.2 := fun p hp => by
      have hp' := pm.mem_iff.mp hp
      split at hp'
      · exact SP.from_ p hp'
      · rcases List.mem_cons.mp hp' with rfl | hp'
        · exact ⟨i, hv, List.getElem?_eq_getElem hlt⟩
        · exact SP.from_ p hp'
    have etk : ps.take (i + 1) = ps.take i ++ [ps[i]] := by rw [List.take_succ, List.getElem?_eq_getElem hlt]; rfl
    refine wpAny_pure ⟨plainId_quiet F.plain_set_update_loop _, ih (i + 1) _ (by lia) hlt ?_ keep2 ⟨o2, L2, ho2, ⟨S2, from2⟩, fun q => ?_⟩ fun h3 tk3 o3 L3 k3 ho3 S3 m3 => hR h3 tk3 o3 L3 k3 ho3 S3 m3⟩
    · refine W.frame (i + 1) _ _ hst' fun b hb' o e => ?_
      rw [sb.2 b (fun q => ?_)]
      · exact e
      · rw [q] at hb'
        simp only [List.mem_cons, List.not_mem_nil, or_false] at hb'
        rcases hb' with h | h
        · exact hSI h
        · exact hSa h
    · rw [etk, List.mem_append, List.mem_singleton, ← hm q, (pm.map _).mem_iff]
      by_cases hc : ps[i] ∈ L.map (·.2)
      · rw [if_pos hc]
        exact ⟨fun h => .inl h, fun h => h.elim id fun e => e ▸ hc⟩
      · rw [if_neg hc, List.map_cons, List.mem_cons]
        exact ⟨fun h => h.symm, fun h => h.symm⟩
end
end
section
open PySem PySem.W PyProof.Rows PySem.Spec PySem.Calls
set_option maxHeartbeats 3200000
theorem tab_fresh (led : Bool) : Tab (.fresh 0 0 led) (([] : Mem).map (·.2)) :=
  ⟨.inl ⟨rfl, Nat.zero_le _⟩, rfl, rfl, rfl, List.Pairwise.nil, (fun j h => nomatch h), (fun k h => nomatch h), List.nodup_nil, (fun i k j h => nomatch h)⟩
theorem set_fresh (vs : List Value) (ps : List (Int × Int)) (led : Bool) : SetOfPairs led vs ps { cls := .type "set", dict := none, data := .set #[] 0 (.fresh 0 0 led) } [] :=
  SetOfPairs.mk ⟨⟨rfl, rfl, rfl⟩, 0, _, rfl, tab_fresh led, Or.inl ⟨rfl, Nat.zero_le _⟩, rfl⟩ (fun p h => nomatch h)
section
variable {prog : Program} {w : World} {A : Around} {E : Value → Shared → Prop} {s : Shared}
noncomputable def ledOf (w : World) : Bool := !w.params.followText "set-order"
theorem set_new_led (a : Value) {Q₁ : Value → Shared → Prop}
    (h : Q₁ (.ref s.heap.objs.size) { s with heap := s.heap.push { cls := .type "set", dict := none, data := .set #[] 0 (.fresh 0 0 (ledOf w)) } }) :
    codeAny (model prog w) A (.call (.builtin "set.__new__") ⟨[.type "set", a], []⟩) (wants Q₁ E) s := by
  refine codeAny_of_tree ?_
  show wpAny _ A.in1 (do checkBuiltinCall "set.__new__" ⟨[.type "set", a], []⟩; again (.builtin "set.__new__" ⟨[.type "set", a], []⟩)) _ _ s
  refine wpAny_bind (wpAny_of_eq (F.newCall_set_1 a) (wpAny_pure ⟨plainId_quiet F.plain_set_new _, codeAny_builtin F.entry_set_new ?_⟩))
  rw [Around.under_plainId F.plain_set_new _]
  unfold Builtin.«set.__new__» Builtin.Frozenset.newClass
  have hsub := sub_set_self
  obtain ⟨hp, g, d, tk, os⟩ := s
  dsimp only
  wp_walk
  refine wpAny_askSetting (wpAny_pure ?_)
  dsimp only
  simp only [newObj]
  refine wpAny_bind (wpAny_alloc (wpAny_pure ?_))
  exact wpAny_pure h
theorem upd_from {l : Addr} {S : Addr} {led : Bool} {vs : List Value} {ps : List (Int × Int)} {Q : Unit → Shared → Prop} {hb : Heap} (hh : A.handled = none) (hu : A.units + 8 < cLine) (hl : s.heap.IsList l vs.toArray) (x : PairsAt hb vs ps) (hk : ∀ p ∈ ps, p ∈ keys10)
    (hbS : hb.get? S = none) (hbz : hb.objs.size ≤ s.heap.objs.size) (keep : ∀ b o, hb.get? b = some o → s.heap.get? b = some o) (hS : s.heap.get? S = some { cls := .type "set", dict := none, data := .set #[] 0 (.fresh 0 0 led) }) (hlS : S ≠ l)
    (h : ∀ h' tk o Lm, (∀ b o, hb.get? b = some o → h'.get? b = some o) → h'.get? S = some o → SetOfPairs led vs ps o Lm → (∀ q, q ∈ Lm.map (·.2) ↔ q ∈ ps) → Q () { s with heap := h', toks := tk }) :
    wpAny (model prog w) A (Builtin.Frozenset.updateFrom "set.__init__" S (.ref l)) Q E s := by
  obtain ⟨ol, hol, hcl, nl, hdl⟩ := id hl
  obtain ⟨ocls, odict, odata, oslots⟩ := ol
  simp only at hcl hdl
  subst hcl; subst hdl
  have hsls := F.sub_list_set
  have hslf := F.sub_list_frozenset
  have hne : (Value.type "list" == Value.type "dict") = false := by decide
  unfold Builtin.Frozenset.updateFrom
  generalize hPI : pyIter = PI
  wp_walk
  subst hPI
  refine wpAny_pyIter_list hl ?_
  refine wpAny_bind (wpAny_runValue ?_)
  have hll : l < s.heap.objs.size := Heap.lt_size hol
  have hSl : S < s.heap.objs.size := Heap.lt_size hS
  refine upd_loop (hb := hb) (ax := l) (vs := vs) (ps := ps) (by simp [hh]) (by simp only [units_in1]; lia) (Nat.ne_of_lt hll) (Nat.ne_of_lt hSl) hlS hbS ?_ x hk (ps.length - 0) 0 _ rfl (Nat.zero_le _) ⟨⟨_, Heap.get?_push_size _ rfl, rfl, rfl⟩, hl.push _⟩ (fun b o e => Heap.get?_push_of_some _ (keep b o e)) ⟨_, [], Heap.get?_push_of_some _ hS, set_fresh vs ps led, fun q => by simp⟩ ?_
  · cases q : hb.get? s.heap.objs.size with
    | none => rfl
    | some o => exact absurd (Heap.lt_size q) (Nat.not_lt.mpr hbz)
  · intro h' tk o Lm k1 k2 k3 k4
    exact wpAny_pure (h h' tk o Lm k1 k2 k3 k4)
theorem call_set_pairs {l : Addr} {vs : List Value} {ps : List (Int × Int)} {Q : Value → Shared → Prop} (hh : A.handled = none) (hu : A.units + 16 < cLine) (hl : s.heap.IsList l vs.toArray) (x : PairsAt s.heap vs ps) (hk : ∀ p ∈ ps, p ∈ keys10)
    (h : ∀ h' tk o Lm, (∀ b o, s.heap.get? b = some o → h'.get? b = some o) → h'.get? s.heap.objs.size = some o → SetOfPairs (ledOf w) vs ps o Lm → (∀ q, q ∈ Lm.map (·.2) ↔ q ∈ ps) → Q (.ref s.heap.objs.size) { s with heap := h', toks := tk }) :
    wpAny (model prog w) A (call (.type "set") [.ref l]) Q E s := by
  obtain ⟨c, tl, hmro⟩ := F.called_set.mro
  have hmade := F.called_set.made
  have hsub := F.called_set.sub
  refine wpAny_call (codeAny_of_tree ?_)
  show wpAny _ _ (callAny (.type "set") _) _ _ _
  refine wpAny_pure ⟨Code.quiet_builtin _ (by decide +kernel), codeAny_builtin F.entry_type_call ?_⟩
  rw [Around.under_plain (weight_type_call_type "set" [.ref l] []) rfl]
  have h1 := F.called_set.notType
  have h2 := F.called_set.canCreate
  have hct := F.typeCall_set_1 (.ref l)
  repeat (any_goals (first | assumption | wp_step))
  refine codeAny_mono (set_new_led (.ref l) (E := E) (Q₁ := fun obj s₁ => obj = .ref s.heap.objs.size ∧ s₁ = { s with heap := s.heap.push { cls := .type "set", dict := none, data := .set #[] 0 (.fresh 0 0 (ledOf w)) } }) ⟨rfl, rfl⟩) fun r s₁ hr => ?_
  cases r with
  | error e => exact hr
  | ok fl =>
    cases fl with
    | ret obj =>
      obtain ⟨rfl, rfl⟩ := hr
      have hS : (s.heap.push { cls := .type "set", dict := none, data := .set #[] 0 (.fresh 0 0 (ledOf w)) }).get? s.heap.objs.size = some { cls := .type "set", dict := none, data := .set #[] 0 (.fresh 0 0 (ledOf w)) } := Heap.get?_push_size _ rfl
      have hT : Shared.TypeIs { s with heap := s.heap.push { cls := .type "set", dict := none, data := .set #[] 0 (.fresh 0 0 (ledOf w)) } } (.ref s.heap.objs.size) "set" := ⟨_, hS, rfl⟩
      have hli := F.called_set.init.lookup
      have hbi := F.called_set.init.bind (.ref s.heap.objs.size)
      repeat (any_goals (first | assumption | wp_step))
      refine codeAny_mono (codeAny_call_builtin (R := wants (fun r s₂ => r = .none ∧ ∃ h' tk o Lm, s₂ = { s with heap := h', toks := tk } ∧ (∀ b o, s.heap.get? b = some o → h'.get? b = some o) ∧ h'.get? s.heap.objs.size = some o ∧ SetOfPairs (ledOf w) vs ps o Lm ∧ (∀ q, q ∈ Lm.map (·.2) ↔ q ∈ ps)) E)
        F.called_set.init.plain F.entry_set_init (check_set_init_1 hT ?_)) fun r₂ s₂ hr₂ => ?_
      · unfold Builtin.«set.__init__» noKeywords
        generalize hU : Builtin.Frozenset.updateFrom = U
        wp_walk
        subst hU
        have hn : s.heap.get? s.heap.objs.size = none := by
          cases q : s.heap.get? s.heap.objs.size with
          | none => rfl
          | some o => exact absurd (Heap.lt_size q) (Nat.lt_irrefl _)
        have hls : s.heap.objs.size ≠ l := by
          obtain ⟨ol, hol, _⟩ := hl
          exact Nat.ne_of_gt (Heap.lt_size hol)
        refine upd_from (s := { s with heap := s.heap.push { cls := .type "set", dict := none, data := .set #[] 0 (.fresh 0 0 (ledOf w)) } }) (hb := s.heap) (by simp [hh]) (by simp only [units_in1]; lia) (hl.push _) x hk hn (by show _ ≤ (s.heap.push _).objs.size; rw [Heap.size_push]; exact Nat.le_succ _) (fun b o e => Heap.get?_push_of_some _ e) hS hls fun h' tk o Lm k1 k2 k3 k4 => ?_
        show wpAny _ _ (ret Value.none) _ _ _
        exact wpAny_pure ⟨rfl, h', tk, o, Lm, rfl, k1, k2, k3, k4⟩
      · cases r₂ with
        | error e => exact hr₂
        | ok fl₂ =>
          cases fl₂ with
          | ret r =>
            obtain ⟨rfl, h', tk, o, Lm, rfl, k1, k2, k3, k4⟩ := hr₂
            repeat (any_goals (first | assumption | wp_step))
            exact h h' tk o Lm k1 k2 k3 k4
          | _ => exact hr₂.elim
    | _ => exact hr.elim
end
end
section
open PySem PySem.W PyProof.Rows PySem.Spec PySem.Calls
set_option maxHeartbeats 3200000
theorem slot_setiter_next : Slot "set_iterator" "__next__" "set_iterator.__next__" :=
  .of (owner := "set_iterator") (n := "__next__") (by rw [typeLookup_type, builtinLookup_eq_fast]; kernel_rfl) (by decide +kernel) (by decide +kernel) (by decide +kernel) (.inl (by decide +kernel)) (by rw [isSubtype_type]; kernel_rfl)
theorem slot_setiter_iter : Slot "set_iterator" "__iter__" "set_iterator.__iter__" :=
  .of (owner := "set_iterator") (n := "__iter__") (by rw [typeLookup_type, builtinLookup_eq_fast]; kernel_rfl) (by decide +kernel) (by decide +kernel) (by decide +kernel) (.inl (by decide +kernel)) (by rw [isSubtype_type]; kernel_rfl)
theorem entry_setiter_next : entryFor table "set_iterator.__next__" = some Builtin.«set_iterator.__next__» := entryFor_of_tree (by kernel_rfl)
theorem args_setiter_next (a : Value) : argsOk "set_iterator.__next__" ⟨[a], []⟩ := by unfold argsOk; kernel_rfl
theorem entry_set_iter : entryFor table "set.__iter__" = some Builtin.«frozenset.__iter__» := entryFor_alias (id' := "frozenset.__iter__") (by kernel_rfl) rfl (by decide +kernel) (by kernel_rfl)
theorem erase_perm {α : Type} : ∀ (l : List α) (i : Nat) (h : i < l.length), (l[i] :: l.eraseIdx i).Perm l
  | a :: l, 0, _ => by simp
  | a :: l, i + 1, h => by
    simp only [List.getElem_cons_succ, List.eraseIdx_cons_succ]
    exact (List.Perm.swap a _ _).trans ((erase_perm l i (by simpa using h)).cons a)
theorem pick_go (next : Nat → Nat) {α : Type} : ∀ (f k : Nat) (left : List α) (out : Array α), left.length = f → (pickOrder.go next f k left out).toList.Perm (out.toList ++ left)
  | 0, _, left, out, h => by
    have : left = [] := List.length_eq_zero_iff.mp h
    subst this
    unfold pickOrder.go
    simp
  | f + 1, k, left, out, h => by
    unfold pickOrder.go
    have hlt : next k % left.length < left.length := Nat.mod_lt _ (by lia)
    rw [List.getElem?_eq_getElem hlt]
    dsimp only
    refine (pick_go next f (k + 1) _ _ (by rw [List.length_eraseIdx_of_lt hlt]; lia)).trans ?_
    rw [Array.toList_push, List.append_assoc]
    refine List.Perm.append_left _ ?_
    exact erase_perm _ _ hlt
theorem pick_perm (next : Nat → Nat) {α : Type} (xs : Array α) : (pickOrder next xs).toList.Perm xs.toList := by
  have := pick_go next xs.size 0 xs.toList #[] (by simp)
  simpa [pickOrder] using this
theorem below_zero {xs : Array Nat} (hr : xs.toList.Pairwise (· < ·)) : SetTable.below xs 0 = 0 := by
  obtain ⟨b1, b2, b3⟩ := below_spec hr 0
  apply Classical.byContradiction
  intro h
  have := b2 0 (by lia)
  lia
theorem below_next {xs : Array Nat} (hr : xs.toList.Pairwise (· < ·)) {i j : Nat} (h : xs[i]? = some j) : SetTable.below xs (j + 1) = i + 1 := by
  obtain ⟨b1, b2, b3⟩ := below_spec hr (j + 1)
  obtain ⟨hi, e⟩ := Array.getElem?_eq_some_iff.mp h
  have eg : ∀ k, (hk : k < xs.size) → xs.getD k 0 = xs[k] := fun k hk => by simp [Array.getD, hk]
  have ord : ∀ a b, a < b → (hb : b < xs.size) → xs.getD a 0 < xs.getD b 0 := fun a b hab hb => by
    have := List.pairwise_iff_getElem.mp hr a b (by simp; lia) (by simpa using hb) hab
    rw [eg a (by lia), eg b hb]
    simpa using this
  rcases Nat.lt_trichotomy (SetTable.below xs (j + 1)) (i + 1) with h1 | h1 | h1
  · have h2 := b3 i (by lia) hi
    rw [eg i hi, e] at h2
    lia
  · exact h1
  · have h2 := b2 (i + 1) (by lia)
    have h3 := ord i (i + 1) (Nat.lt_succ_self _) (by lia)
    rw [eg i hi, e] at h3
    lia
end
section
open PySem PySem.W PyProof.Rows PySem.Spec PySem.Calls
set_option maxHeartbeats 3200000
theorem entry_setiter_iter : entryFor table "set_iterator.__iter__" = some Builtin.«dict_keyiterator.__iter__» := entryFor_alias (id' := "dict_keyiterator.__iter__") (by kernel_rfl) rfl (by decide +kernel) (by kernel_rfl)
theorem args_setiter_iter (a : Value) : argsOk "set_iterator.__iter__" ⟨[a], []⟩ := by unfold argsOk; kernel_rfl
noncomputable abbrev siO (D : Addr) (slot i n ep : Nat) : Obj := { cls := .type "set_iterator", data := .fields #[.int slot 0, .int i 0, .ref D, .int n 0, .int ep 0] }
noncomputable def ordOf (w : World) (D : Addr) (ep : Nat) (L : Mem) : List (Int × Value) :=
  if ledOf w = true then (ents L).toList else (pickOrder (w.params.setOrder D ep) (ents L)).toList
theorem ordOf_perm (w : World) (D : Addr) (ep : Nat) (L : Mem) : (ordOf w D ep L).Perm (ents L).toList := by
  unfold ordOf
  split
  · exact List.Perm.refl _
  · exact pick_perm _ _
section
variable {prog : Program} {w : World} {A : Around} {E : Value → Shared → Prop} {s : Shared}
noncomputable def SetIt (w : World) (D I : Addr) (oD : Obj) (ep : Nat) (t : SetTable) (L : Mem) (i : Nat) (h : Heap) : Prop :=
  h.get? D = some oD ∧ ∃ slot, h.get? I = some (siO D slot i L.length ep) ∧ (ledOf w = true → SetTable.below t.place slot = i)
theorem setNext_at {D : Addr} {oD : Obj} {ep slot i : Nat} {t : SetTable} {L : Mem} {Q : Option (Value × Nat) → Shared → Prop} (ho : s.heap.get? D = some oD) (hd : oD.data = .set (ents L) ep t) (TB : Tab t (L.map (·.2))) (hl : t.led = ledOf w) (hs : ledOf w = true → SetTable.below t.place slot = i)
    (h : ∀ nx, (ledOf w = true → SetTable.below t.place nx = i + 1 ∨ L.length ≤ i) → Q (((ordOf w D ep L)[i]?).map fun e => (e.2, nx)) s) : wpAny (model prog w) A (setNext D slot i ep) Q E s := by
  unfold setNext
  refine wpAny_bind (wpAny_setState_of ho hd TB.fits ?_)
  dsimp only
  unfold setsByText
  refine wpAny_bind (wpAny_bind (wpAny_askSetting (wpAny_pure ?_)))
  dsimp only
  cases hq : w.params.followText "set-order" with
  | true =>
    have hf : ledOf w = false := by unfold ledOf; rw [hq]; rfl
    have e1 : (model prog w).w.params.followText "set-order" = true := hq
    rw [if_pos e1, if_neg (by simp)]
    unfold setWalk setsByText
    refine wpAny_bind (wpAny_bind (wpAny_setState_of ho hd TB.fits ?_))
    dsimp only
    refine wpAny_bind (wpAny_bind (wpAny_askSetting (wpAny_pure ?_)))
    rw [if_pos e1]
    refine wpAny_bind (wpAny_askSetting (wpAny_pure ?_))
    refine wpAny_pure ?_
    have := h slot (fun q => by rw [hf] at q; cases q)
    unfold ordOf at this
    rw [if_neg (by rw [hf]; decide), Array.getElem?_toList] at this
    exact this
  | false =>
    have hf : ledOf w = true := by unfold ledOf; rw [hq]; rfl
    have e1 : (model prog w).w.params.followText "set-order" = false := hq
    rw [if_neg (by rw [e1]; decide)]
    split
    · rename_i q
      exact absurd (show (!t.plain && decide ((ents L).size > 1)) = true from q) (by rw [TB.plain]; simp)
    show wpAny _ _ ((if (!t.led && !(ents L).isEmpty) = true then unsupported "set:maker-not-led" else pure ()) >>= _) _ _ s
    rw [if_neg (by rw [hl, hf]; simp)]
    refine wpAny_bind (wpAny_pure ?_)
    rw [hs hf]
    have hlen : t.place.size = L.length := TB.len.trans (List.length_map ..)
    have hord : (ordOf w D ep L)[i]? = (ents L)[i]? := by unfold ordOf; rw [if_pos hf, Array.getElem?_toList]
    rw [hord] at h
    refine wpAny_pure ?_
    by_cases hi : i < L.length
    · obtain ⟨p, hp'⟩ : ∃ p, L[i]? = some p := ⟨_, List.getElem?_eq_getElem hi⟩
      have h1 := ents_at hp'
      have h2 : t.place[i]? = some (t.place[i]'(by lia)) := Array.getElem?_eq_getElem _
      rw [h1] at h
      rw [h1, h2]
      exact h (t.place[i]'(by lia) + 1) fun _ => .inl (below_next TB.rise h2)
    · have h1 : (ents L)[i]? = none := Array.getElem?_eq_none (by rw [ents_size]; lia)
      rw [h1] at h
      rw [h1]
      exact h 0 fun _ => .inr (by lia)
theorem setiter_item {D I : Addr} {oD : Obj} {ep i : Nat} {t : SetTable} {L : Mem} {Q : Option Value → Shared → Prop} (hd : oD.data = .set (ents L) ep t) (TB : Tab t (L.map (·.2))) (hl : t.led = ledOf w) (hne : D ≠ I) (st : SetIt w D I oD ep t L i s.heap) (hi : i < L.length)
    (h : ∀ e h', (ordOf w D ep L)[i]? = some e → SetIt w D I oD ep t L (i + 1) h' → Heap.SameBut I s.heap h' → Q (some e.2) { s with heap := h' }) : wpAny (model prog w) A (pyNext (.ref I)) Q E s := by
  obtain ⟨ho, slot, hI, hs⟩ := st
  have hT : s.TypeIs (.ref I) "set_iterator" := ⟨_, hI, rfl⟩
  unfold pyNext
  refine wpAny_bind (wpAny_attempt (wpAny_callSpecial?_slot (name := Str.ofString "__next__") hT slot_setiter_next (wpAny_call_entry slot_setiter_next hT entry_setiter_next ?_ (args_setiter_next _))))
  unfold Builtin.«set_iterator.__next__»
  refine wpAny_bind (wpAny_pure ?_)
  refine wpAny_bind (wpAny_fieldsOf hI rfl ?_)
  dsimp only
  refine wpAny_bind (wpAny_setEntries_of ho hd TB.fits ?_)
  rw [if_neg (by rw [ents_size]; simp)]
  rw [Int.toNat_natCast, Int.toNat_natCast, Int.toNat_natCast]
  refine wpAny_bind (setNext_at ho hd TB hl hs fun nx hnx => ?_)
  have hle : i < (ordOf w D ep L).length := by rw [(ordOf_perm w D ep L).length_eq, Array.length_toList, ents_size]; exact hi
  rw [List.getElem?_eq_getElem hle]
  rw [Option.map_some]
  dsimp only
  refine wpAny_bind (wpAny_setField hI rfl (by simp) ?_)
  refine wpAny_bind (wpAny_setField (Heap.get?_update_self _ hI (Obj.isFreed_of_fields (Obj.data_mapFields rfl _))) (Obj.data_mapFields rfl _) (by simp) ?_)
  refine wpAny_pure ⟨_, rfl, wpAny_pure ?_⟩
  refine h _ _ (List.getElem?_eq_getElem hle) ⟨?_, nx, ?_, fun q => (hnx q).resolve_right (by lia)⟩ ((Heap.SameBut.update ..).trans (Heap.SameBut.update ..))
  · rw [Heap.get?_update_ne _ _ _ _ (by exact hne), Heap.get?_update_ne _ _ _ _ (by exact hne)]
    exact ho
  · exact Heap.get?_update_self _ (Heap.get?_update_self _ hI rfl) rfl
theorem setiter_end {D I : Addr} {oD : Obj} {ep i : Nat} {t : SetTable} {L : Mem} {Q : Option Value → Shared → Prop} (hh : A.handled = none) (hd : oD.data = .set (ents L) ep t) (TB : Tab t (L.map (·.2))) (hl : t.led = ledOf w) (hne : D ≠ I) (st : SetIt w D I oD ep t L i s.heap) (hi : L.length ≤ i)
    (h : ∀ h', Heap.ExtBut I s.heap h' → Q none { s with heap := h' }) : wpAny (model prog w) A (pyNext (.ref I)) Q E s := by
  obtain ⟨ho, slot, hI, hs⟩ := st
  have hT : s.TypeIs (.ref I) "set_iterator" := ⟨_, hI, rfl⟩
  unfold pyNext
  refine wpAny_bind (wpAny_attempt (wpAny_callSpecial?_slot (name := Str.ofString "__next__") hT slot_setiter_next (wpAny_call_entry slot_setiter_next hT entry_setiter_next ?_ (args_setiter_next _))))
  unfold Builtin.«set_iterator.__next__»
  refine wpAny_bind (wpAny_pure ?_)
  refine wpAny_bind (wpAny_fieldsOf hI rfl ?_)
  dsimp only
  refine wpAny_bind (wpAny_setEntries_of ho hd TB.fits ?_)
  rw [if_neg (by rw [ents_size]; simp)]
  rw [Int.toNat_natCast, Int.toNat_natCast, Int.toNat_natCast]
  refine wpAny_bind (setNext_at ho hd TB hl hs fun nx hnx => ?_)
  have hle : (ordOf w D ep L).length ≤ i := by rw [(ordOf_perm w D ep L).length_eq, Array.length_toList, ents_size]; exact hi
  rw [List.getElem?_eq_none hle]
  rw [Option.map_none]
  dsimp only
  refine wpAny_bind (wpAny_setField hI rfl (by simp) ?_)
  show wpAny _ _ (newExc (.type "StopIteration") [] >>= _) _ _ _
  refine wpAny_bind ?_
  simp only [newExc, newTuple]
  refine wpAny_bind (wpAny_newObj_type ?_ (by size_fits))
  refine wpAny_bind (m := firstArgMember _ _) (wpAny_of_eq (a := Value.none) (by first | rfl | (simp only [firstArgMember]; rfl)) ?_)
  refine wpAny_newObj_type ?_ (by size_fits)
  simp only [raiseNew]
  refine wpAny_bind (wpAny_handled ?_)
  rw [show A.in1.handled = none from hh]
  refine wpAny_bind (wpAny_pure (wpAny_throw ?_))
  refine wpAny_bind (wpAny_isInstance (T := "StopIteration") (b := true) ⟨_, Heap.get?_push_size _ rfl, rfl⟩ isSubtype_stop ?_)
  exact wpAny_pure (h _ (((Heap.SameBut.update ..).extBut.push _).push _))
theorem setiter_walks {D I : Addr} {oD : Obj} {ep : Nat} {t : SetTable} {L : Mem} (hh : A.handled = none) (hd : oD.data = .set (ents L) ep t) (TB : Tab t (L.map (·.2))) (hl : t.led = ledOf w) (hne : D ≠ I) :
    Walks prog w A I [I, D] [I] L.length (fun i v => ∃ e, (ordOf w D ep L)[i]? = some e ∧ v = e.2) (SetIt w D I oD ep t L) where
  sub := fun b hb => by simp at hb; simp [hb]
  frame := fun i h h' st hk => ⟨hk D (by simp) _ st.1, let ⟨slot, e, x⟩ := st.2; ⟨slot, hk I (by simp) _ e, x⟩⟩
  item := fun i s Q E hi st hQ => setiter_item hd TB hl hne st hi fun e h' he st' sb => hQ _ h' s.toks ⟨e, he, rfl⟩ st' fun b o hb x => sb.extBut b o (fun q => hb (by simp [q])) x
  done := fun s Q E st hQ => setiter_end hh hd TB hl hne st (Nat.le_refl _) fun h' x => hQ h' s.toks fun b o hb e => x b o (fun q => hb (by simp [q])) e
  self := fun i s Q E st hQ => by
    obtain ⟨ho, slot, hI, hs⟩ := st
    have hT : s.TypeIs (.ref I) "set_iterator" := ⟨_, hI, rfl⟩
    refine wpAny_pyIter_slot hT slot_setiter_iter (wpAny_call_entry slot_setiter_iter hT entry_setiter_iter ?_ (args_setiter_iter _))
    show wpAny _ _ (ret (.ref I)) _ _ s
    exact wpAny_pure ⟨_, rfl, "set_iterator", _, hT, slot_setiter_next.lookup, hQ⟩
theorem pyIter_set {D : Addr} {oD : Obj} {ep : Nat} {t : SetTable} {L : Mem} {Q : Value → Shared → Prop} (ho : s.heap.get? D = some oD) (hx : oD.ExactSet) (hd : oD.data = .set (ents L) ep t) (TB : Tab t (L.map (·.2)))
    (h : SetIt w D s.heap.objs.size oD ep t L 0 (s.heap.push (siO D 0 0 L.length ep)) → Q (.ref s.heap.objs.size) { s with heap := s.heap.push (siO D 0 0 L.length ep) }) : wpAny (model prog w) A (pyIter (.ref D)) Q E s := by
  have hT : s.TypeIs (.ref D) "set" := ⟨_, ho, hx.1⟩
  refine wpAny_pyIter_slot hT F.slot_set_iter (wpAny_call_entry F.slot_set_iter hT entry_set_iter ?_ (F.args_set_iter_1 _))
  unfold Builtin.«frozenset.__iter__»
  refine wpAny_bind (wpAny_bind (wpAny_pure (wpAny_pure ?_)))
  refine wpAny_bind (wpAny_bind (wpAny_setEntries_of ho hd TB.fits (wpAny_pure ?_)))
  have hdr : ∀ {Q' : Bool → Shared → Prop}, Q' false s → wpAny (model prog w) A.in1 (setDrawn D) Q' E s := fun {Q'} hq => by
    unfold setDrawn setsByText
    refine wpAny_bind (wpAny_setState_of ho hd TB.fits ?_)
    dsimp only
    refine wpAny_bind (wpAny_bind (wpAny_askSetting (wpAny_pure ?_)))
    refine wpAny_pure ?_
    have e : (!(model prog w).w.params.followText "set-order" && (!t.plain && decide ((ents L).size > 1))) = false := by rw [TB.plain]; simp
    exact e ▸ hq
  refine wpAny_bind (hdr ?_)
  dsimp only
  rw [if_neg (by decide)]
  refine wpAny_bind (wpAny_pure ?_)
  refine wpAny_bind (wpAny_setEpoch_of ho hd TB.fits ?_)
  refine wpAny_bind (wpAny_newObj_type (wpAny_pure ⟨_, rfl, "set_iterator", _, ⟨_, Heap.get?_push_size _ rfl, rfl⟩, slot_setiter_next.lookup, ?_⟩))
  have e := ents_size L
  rw [e]
  exact h ⟨Heap.get?_push_of_some _ ho, 0, Heap.get?_push_size _ rfl, fun _ => below_zero TB.rise⟩
end
end
section
open PySem PySem.W PyProof.Rows PySem.Spec PySem.Calls
set_option maxHeartbeats 3200000
section
variable {prog : Program} {w : World} {A : Around} {E : Value → Shared → Prop} {s : Shared}
theorem items_list {w : World} {D : Addr} {ep : Nat} {L : Mem} {acc : Array Value} (h : ItemsOf (fun i v => ∃ e, (ordOf w D ep L)[i]? = some e ∧ v = e.2) acc L.length) : acc.toList = (ordOf w D ep L).map (·.2) := by
  obtain ⟨h1, h2⟩ := h
  have hl : (ordOf w D ep L).length = L.length := by rw [(ordOf_perm w D ep L).length_eq, Array.length_toList, ents_size]
  apply List.ext_getElem?
  intro i
  by_cases hi : i < acc.size
  · have e1 : acc.toList[i]? = some acc[i] := by rw [Array.getElem?_toList]; exact Array.getElem?_eq_getElem hi
    obtain ⟨e, h3, h4⟩ := h2 i acc[i] (Array.getElem?_eq_getElem hi)
    rw [e1, List.getElem?_map, h3, h4]; rfl
  · rw [List.getElem?_eq_none (by simpa using hi), List.getElem?_eq_none (by rw [List.length_map]; lia)]
theorem collect_set {D : Addr} {oD : Obj} {ep : Nat} {t : SetTable} {L : Mem} {Q : List Value → Shared → Prop} (hh : A.handled = none) (ho : s.heap.get? D = some oD) (hx : oD.ExactSet) (hd : oD.data = .set (ents L) ep t) (TB : Tab t (L.map (·.2))) (hl : t.led = ledOf w) (hz : L.length ≤ 10)
    (h : ∀ h' tk, (∀ b o, s.heap.get? b = some o → h'.get? b = some o) → Q ((ordOf w D ep L).map (·.2)) { s with heap := h', toks := tk }) : wpAny (model prog w) A (collect (.ref D)) Q E s := by
  have hDlt : D < s.heap.objs.size := Heap.lt_size ho
  have hSD : s.heap.objs.size ≠ D := Nat.ne_of_gt hDlt
  unfold collect
  refine wpAny_bind (wpAny_runValue (codeAny_builtin F.entry_proto_collect ?_))
  rw [Around.under_plainId F.plain_proto_collect _]
  show wpAny _ A.in1 (newList [] >>= fun l => again (.builtin "list.__iadd__" ⟨[l, .ref D], []⟩)) _ _ s
  refine wpAny_bind (wpAny_newObj_type ?_)
  refine wpAny_pure ⟨plainId_quiet F.plain_list_iadd _, codeAny_builtin F.entry_list_iadd ?_⟩
  rw [Around.under_plainId F.plain_list_iadd _]
  have ho1 : (s.heap.push { cls := .type "list", data := .seq ([] : List Value).toArray }).get? D = some oD := Heap.get?_push_of_some _ ho
  have hT : Shared.TypeIs { s with heap := s.heap.push { cls := .type "list", data := .seq ([] : List Value).toArray } } (.ref D) "set" := ⟨_, ho1, hx.1⟩
  show wpAny _ A.in1 (Builtin.List.listExtendWith (.ref s.heap.objs.size) (.ref D) (.ref s.heap.objs.size)) _ _ _
  unfold Builtin.List.listExtendWith
  refine wpAny_bind (wpAny_typeOf hT ?_)
  have h1 : Builtin.List.listSameRef (.ref s.heap.objs.size) (.ref D) = false := by simp [Builtin.List.listSameRef, hSD]
  have h2 : (Value.type "set" == Value.type "list") = false := by decide
  have h3 : (Value.type "set" == Value.type "tuple") = false := by decide
  simp only [h1, h2, h3, Bool.or_false, Bool.false_eq_true, if_false]
  refine wpAny_bind (pyIter_set ho1 hx hd TB fun hst => ?_)
  have hT2 : Shared.TypeIs { s with heap := (s.heap.push { cls := .type "list", data := .seq ([] : List Value).toArray }).push (siO D 0 0 L.length ep) } (.ref D) "set" := ⟨_, Heap.get?_push_of_some _ ho1, hx.1⟩
  refine wpAny_bind (wpAny_holding ?_)
  unfold Builtin.List.listLengthHint
  refine wpAny_bind (wpAny_specialOf hT2 F.slot_set_len.lookup ?_)
  dsimp only
  rw [show splitId "set.__len__" = some ("set", "__len__") by decide +kernel]
  dsimp only
  refine wpAny_bind (wpAny_isInstance hT2 sub_set_self ?_)
  rw [if_neg (by decide)]
  rw [if_pos (by decide +kernel)]
  refine wpAny_bind (wpAny_typeOf hT2 ?_)
  dsimp only
  refine wpAny_pure ?_
  rw [if_pos (by decide +kernel)]
  refine wpAny_bind (wpAny_rule ?_)
  have hS₁ : (s.heap.push { cls := .type "list", data := .seq ([] : List Value).toArray }).get? s.heap.objs.size = some { cls := .type "list", data := .seq ([] : List Value).toArray } := Heap.get?_push_size _ rfl
  have hS₁' : ((s.heap.push { cls := .type "list", data := .seq ([] : List Value).toArray }).push (siO D 0 0 L.length ep)).get? s.heap.objs.size = some { cls := .type "list", data := .seq ([] : List Value).toArray } := Heap.get?_push_of_some _ hS₁
  refine wpAny_bind ?_
  show wpAny _ A.in1 (updateSeq s.heap.objs.size (·.push .none) >>= fun _ => updateSeq s.heap.objs.size (·.pop)) _ _ _
  refine wpAny_bind (wpAny_updateSeq hS₁' rfl ?_)
  have hS₂ := Heap.get?_update_self (Obj.mapSeq (·.push Value.none)) hS₁' rfl
  refine wpAny_updateSeq hS₂ rfl ?_
  have hS₃ := Heap.get?_update_self (Obj.mapSeq (·.pop)) hS₂ rfl
  have hIsz : (s.heap.push { cls := .type "list", data := .seq ([] : List Value).toArray }).objs.size = s.heap.objs.size + 1 := Heap.size_push ..
  have hSI : s.heap.objs.size ∉ [s.heap.objs.size + 1, D] := by
    simp only [List.mem_cons, List.not_mem_nil, or_false, not_or]
    exact ⟨Nat.ne_of_lt (Nat.lt_succ_self _), hSD⟩
  have hDI : D ≠ s.heap.objs.size + 1 := Nat.ne_of_lt (Nat.lt_succ_of_lt hDlt)
  have W := (setiter_walks (prog := prog) (w := w) (A := A.in1) (by exact hh) hd TB hl hDI).toS
  rw [hIsz]
  have oth : ∀ b o, b ≠ s.heap.objs.size → ((s.heap.push { cls := .type "list", data := .seq ([] : List Value).toArray }).push (siO D 0 0 L.length ep)).get? b = some o →
      ((((s.heap.push { cls := .type "list", data := .seq ([] : List Value).toArray }).push (siO D 0 0 L.length ep)).update s.heap.objs.size (Obj.mapSeq (·.push Value.none))).update s.heap.objs.size (Obj.mapSeq (·.pop))).get? b = some o :=
    fun b o hb e => (Heap.get?_update_other _ _ (Ne.symm hb)).trans ((Heap.get?_update_other _ _ (Ne.symm hb)).trans e)
  have hst' : SetIt w D (s.heap.objs.size + 1) oD ep t L 0 ((((s.heap.push { cls := .type "list", data := .seq ([] : List Value).toArray }).push (siO D 0 0 L.length ep)).update s.heap.objs.size (Obj.mapSeq (·.push Value.none))).update s.heap.objs.size (Obj.mapSeq (·.pop))) := by
    have hst2 := hst
    rw [hIsz] at hst2
    obtain ⟨q1, slot, q2, q3⟩ := hst2
    exact ⟨oth _ _ (Ne.symm hSD) q1, slot, oth _ _ (Nat.succ_ne_self _) q2, q3⟩
  refine wpAny_pure ⟨plainId_quiet F.plain_extend_loop _, codeAny_extend_loopS W (by rw [sizeLine_eq]; lia) _ hSI _ L.length 0 _ _ _ rfl (Nat.zero_le _) hst' hS₃ (ItemsOf.nil _) fun s' acc' c' hm hS' hacc => ?_⟩
  show wpAny _ A (load s.heap.objs.size >>= _) _ _ s'
  refine wpAny_bind (wpAny_load hS' ?_)
  refine wpAny_pure ?_
  rw [items_list hacc]
  obtain ⟨h', g', d', tk', os'⟩ := s'
  have eg : g' = s.gens := hm.gens
  have ed : d' = s.drawn := hm.drawn
  have eo : os' = s.os := hm.os
  subst eg; subst ed; subst eo
  refine h h' tk' fun b o e => ?_
  have hb := Heap.lt_size e
  refine hm.heap b o ?_ (oth b o (Nat.ne_of_lt hb) (Heap.get?_push_of_some _ (Heap.get?_push_of_some _ e)))
  simp only [List.mem_cons, List.not_mem_nil, or_false, not_or]
  exact ⟨Nat.ne_of_lt hb, Nat.ne_of_lt (Nat.lt_succ_of_lt hb)⟩
end
end
section
open PySem PySem.W PyProof.Rows PySem.Spec PySem.Calls
set_option maxHeartbeats 3200000
noncomputable def pairLt (p q : Int × Int) : Bool := decide (p.1 < q.1) || (decide (p.1 = q.1) && decide (p.2 < q.2))
theorem pairLt_iff (p q : Int × Int) : pairLt p q = true ↔ p.1 < q.1 ∨ (p.1 = q.1 ∧ p.2 < q.2) := by simp [pairLt]
theorem pairLt_not (p q : Int × Int) : pairLt p q = false ↔ ¬ (p.1 < q.1 ∨ (p.1 = q.1 ∧ p.2 < q.2)) := by rw [← pairLt_iff]; simp
noncomputable def OP : KeyOrd where
  α := Int × Int
  blt := pairLt
  irrefl := fun a => (pairLt_not a a).mpr (by lia)
  trans := fun a b c h1 h2 => by rw [pairLt_iff] at *; lia
  negTrans := fun a b c h => by rw [pairLt_iff] at *; rw [pairLt_iff]; lia
  total := fun a b h1 h2 => by
    rw [pairLt_not] at *
    obtain ⟨a1, a2⟩ := a; obtain ⟨b1, b2⟩ := b
    dsimp only at *
    have e1 : a1 = b1 := by lia
    have e2 : a2 = b2 := by lia
    rw [e1, e2]
section
variable {prog : Program} {w : World} {A : Around} {E : Value → Shared → Prop} {s : Shared} {h₀ : Heap} {L : Addr} {m : Str → Option Value} {news : List (Addr × Obj)}
theorem pair_keyLt {T U : Addr} {k l : Int × Int} {t u t' u' : Tok} {Q : Bool → Shared → Prop} (e1 : s.heap.get? T = some (tup2 (.int k.1 t) (.int k.2 u))) (e2 : s.heap.get? U = some (tup2 (.int l.1 t') (.int l.2 u'))) (h : Q (pairLt k l) s) :
    wpAny (model prog w) A (keyLt' (tuples' true) (.ref T) (.ref U)) Q E s := by
  refine kat_lt e1 rfl e2 rfl ?_
  show KatLex prog w A true _ Q [(Value.int k.1 t, Value.int l.1 t'), (Value.int k.2 u, Value.int l.2 u')] 0 s
  refine kat_cons (wpAny_eqBool_int ?_)
  by_cases h1 : k.1 = l.1
  · rw [show (k.1 == l.1) = true by simpa using h1]
    refine kat_yes (kat_cons (wpAny_eqBool_int ?_))
    by_cases h2 : k.2 = l.2
    · rw [show (k.2 == l.2) = true by simpa using h2]
      refine kat_yes (kat_nil ?_)
      have : pairLt k l = false := (pairLt_not k l).mpr (by lia)
      rw [this] at h
      exact h
    · rw [show (k.2 == l.2) = false by simpa using h2]
      refine kat_no ?_
      show wpAny (model prog w) A (oneLt' false _ _) Q _ s
      refine kat_one _ _ (wpAny_lt_int ?_)
      have : pairLt k l = decide (k.2 < l.2) := by
        by_cases h3 : k.2 < l.2
        · rw [decide_eq_true h3]; exact (pairLt_iff k l).mpr (.inr ⟨h1, h3⟩)
        · rw [decide_eq_false h3]; exact (pairLt_not k l).mpr (by lia)
      rw [this] at h
      exact h
  · rw [show (k.1 == l.1) = false by simpa using h1]
    refine kat_no ?_
    show wpAny (model prog w) A (oneLt' true _ _) Q _ s
    refine oneLt_int ?_
    have : pairLt k l = decide (k.1 < l.1) := by
      by_cases h3 : k.1 < l.1
      · rw [decide_eq_true h3]; exact (pairLt_iff k l).mpr (.inl h3)
      · rw [decide_eq_false h3]; exact (pairLt_not k l).mpr (by lia)
    rw [this] at h
    exact h
theorem perm_map_inv {α β : Type} {f : α → β} {l1 l2 : List β} (h : l1.Perm l2) : ∀ m : List α, l2 = m.map f → ∃ m' : List α, m'.Perm m ∧ l1 = m'.map f := by
  induction h with
  | nil => intro m e; exact ⟨m, .refl _, e⟩
  | cons x _ ih =>
    intro m e
    cases m with
    | nil => cases e
    | cons a m =>
      rw [List.map_cons, List.cons.injEq] at e
      obtain ⟨m', p, e'⟩ := ih m e.2
      exact ⟨a :: m', p.cons a, by rw [List.map_cons, e.1, e']⟩
  | swap x y l =>
    intro m e
    match m, e with
    | a :: b :: m, e =>
      rw [List.map_cons, List.map_cons, List.cons.injEq, List.cons.injEq] at e
      exact ⟨b :: a :: m, .swap _ _ _, by rw [List.map_cons, List.map_cons, e.1, e.2.1, e.2.2]⟩
  | trans _ _ ih1 ih2 =>
    intro m e
    obtain ⟨m2, p2, e2⟩ := ih2 m e
    obtain ⟨m1, p1, e1⟩ := ih1 m2 e2
    exact ⟨m1, p1.trans p2, e1⟩
theorem zip_snd (vs : List Value) : (vs.toArray.zip vs.toArray).map (·.2) = vs.toArray := by
  apply Array.toList_inj.mp
  rw [Array.toList_map, Array.toList_zip]
  show (vs.zip vs).map (·.2) = vs
  exact List.map_snd_zip (Nat.le_refl _)
theorem sort_short {a : Addr} {vs : List Value} {n : Nat} {P : PySem.Fin → Shared → Prop} (F : Fr h₀ L s.heap m) (N : News h₀ L s.heap news) (ho : s.heap.get? a = some (seqObj "list" vs.toArray n)) (haL : a ≠ L) (ha0 : h₀.get? a = none) (hna : ∀ p ∈ news, p.1 ≠ a) (h2 : vs.length < 2)
    (h : ∀ h' c, Fr h₀ L h' m → News h₀ L h' ((a, listOf vs.toArray c) :: news) → P (.done (.ret .none)) { s with heap := h' }) : wpAny (model prog w) A (Builtin.«list.sort» ⟨[.ref a], []⟩) P E s := by
  have ha : a < s.heap.objs.size := Heap.lt_size ho
  have s1 := Heap.SameBut.update s.heap a (Obj.mapSeq fun _ => (#[] : Array Value))
  obtain ⟨e1, ho1⟩ : ∃ e1, (s.heap.update a (Obj.mapSeq fun _ => (#[] : Array Value))).get? a = some (seqObj "list" #[] e1) := ⟨_, get?_update_seq ho fun _ => #[]⟩
  have F3 : Fr h₀ L (((s.heap.update a (Obj.mapSeq fun _ => (#[] : Array Value))).push (seqObj "tuple" vs.toArray 0)).push (seqObj "list" #[] 0)) m := ((kas_fr F s1 haL ha0).push _).push _
  have N3 : News h₀ L (((s.heap.update a (Obj.mapSeq fun _ => (#[] : Array Value))).push (seqObj "tuple" vs.toArray 0)).push (seqObj "list" #[] 0)) news :=
    (kas_news N s1 hna).grown fun b x e => Heap.get?_push_of_some _ (Heap.get?_push_of_some _ e)
  have ho3 : (((s.heap.update a (Obj.mapSeq fun _ => (#[] : Array Value))).push (seqObj "tuple" vs.toArray 0)).push (seqObj "list" #[] 0)).get? a = some (seqObj "list" #[] e1) := Heap.get?_push_of_some _ (Heap.get?_push_of_some _ ho1)
  have hz : vs.toArray.size = vs.length := List.size_toArray
  rw [list_sort_plain]
  refine wpAny_bind (listItems_at ho rfl ?_)
  refine wpAny_bind (listUpdate_at ho rfl ?_ (by rw [List.size_toArray, sizeLine_eq]; lia) (Nat.zero_le _))
  refine wpAny_bind (seqEpoch_at ho1 rfl ?_)
  refine wpAny_bind (wpAny_newTuple ?_ (by show vs.length ≤ _; rw [sizeLine_eq]; lia))
  refine wpAny_bind (wpAny_newList ?_ (Nat.zero_le _))
  refine wpAny_holding ?_
  show wpAny (model prog w) A _ P E { s with heap := ((s.heap.update a (Obj.mapSeq fun _ => (#[] : Array Value))).push (seqObj "tuple" vs.toArray 0)).push (seqObj "list" #[] 0) }
  dsimp only
  rw [if_pos (by rw [hz]; exact h2), if_pos (by rw [hz]; exact h2)]
  refine wpAny_bind (wpAny_pure ?_)
  rw [StateT.run_pure]
  refine wpAny_bind (wpAny_pure ?_)
  dsimp only
  have har : (arrOf (SortSt.mk' general' (vs.toArray.zip vs.toArray) #[] 7 none)).map (·.2) = vs.toArray := by
    show (vs.toArray.zip vs.toArray).map (·.2) = vs.toArray
    exact zip_snd vs
  rw [har]
  have s2 := Heap.SameBut.update (((s.heap.update a (Obj.mapSeq fun _ => (#[] : Array Value))).push (seqObj "tuple" vs.toArray 0)).push (seqObj "list" #[] 0)) a (Obj.mapSeq fun _ => vs.toArray)
  obtain ⟨c2, hc2⟩ : ∃ c2, ((((s.heap.update a (Obj.mapSeq fun _ => (#[] : Array Value))).push (seqObj "tuple" vs.toArray 0)).push (seqObj "list" #[] 0)).update a (Obj.mapSeq fun _ => vs.toArray)).get? a = some (seqObj "list" vs.toArray c2) := ⟨_, get?_update_seq ho3 fun _ => vs.toArray⟩
  refine wpAny_bind (seqEpoch_at ho3 rfl ?_)
  refine wpAny_bind (listUpdate_at ho3 rfl ?_ (Nat.zero_le _) (by rw [hz, sizeLine_eq]; lia))
  simp only [bne_self_eq_false, Bool.false_eq_true, if_false]
  refine wpAny_pure (h _ c2 (kas_fr F3 s2 haL ha0) fun p hp => ?_)
  rcases List.mem_cons.mp hp with rfl | hp
  · exact ⟨hc2, haL, ha0⟩
  · exact ⟨(s2.2 p.1 (hna p hp)).trans (N3 p hp).1, (N3 p hp).2⟩
theorem sort_pairs {a : Addr} {M : Mem} {n : Nat} {P : PySem.Fin → Shared → Prop} (F : Fr h₀ L s.heap m) (N : News h₀ L s.heap news) (ho : s.heap.get? a = some (seqObj "list" (M.map fun p => Value.ref p.1).toArray n)) (haL : a ≠ L) (ha0 : h₀.get? a = none) (hna : ∀ p ∈ news, p.1 ≠ a) (h64 : M.length < 64)
    (hl : ∀ p ∈ M, ∃ t u, (h₀.get? p.1 = some (tup2 (.int p.2.1 t) (.int p.2.2 u)) ∨ (p.1, tup2 (.int p.2.1 t) (.int p.2.2 u)) ∈ news))
    (h : ∀ h' c (M' : Mem), Fr h₀ L h' m → News h₀ L h' ((a, listOf (M'.map fun p => Value.ref p.1).toArray c) :: news) → M'.Perm M → (M'.map (·.2)).Pairwise (fun p q => pairLt q p = false) → P (.done (.ret .none)) { s with heap := h' }) : wpAny (model prog w) A (Builtin.«list.sort» ⟨[.ref a], []⟩) P E s := by
  have hlen : (M.map fun p => Value.ref p.1).length = M.length := List.length_map ..
  by_cases h2 : 2 ≤ M.length
  · refine kat_list_sort F N ho haL ha0 hna (by rw [hlen]; exact h2) (by rw [hlen]; exact h64) fun e1 h' F' N' => ?_
    have la : ∀ p ∈ M, ∃ t u, h'.get? p.1 = some (tup2 (.int p.2.1 t) (.int p.2.2 u)) := fun p hp => by
      obtain ⟨t, u, q⟩ := hl p hp
      exact ⟨t, u, q.elim (fun e => F'.keep _ _ e) fun e => (N' _ (.tail _ e)).1⟩
    have tups : ∀ M₀ : Mem, (∀ p ∈ M₀, ∃ t u, h'.get? p.1 = some (tup2 (.int p.2.1 t) (.int p.2.2 u))) → ∃ fs, KatTups h' (M₀.map fun p => Value.ref p.1) fs ∧ fs.length = M₀.length ∧ ∀ v ∈ fs, ∃ n t, v = Value.int n t := by
      intro M₀
      induction M₀ with
      | nil => intro _; exact ⟨[], KatTups.nil, rfl, fun v hv => nomatch hv⟩
      | cons p M₀ ih =>
        intro hM
        obtain ⟨fs, k1, k2, k3⟩ := ih fun q hq => hM q (.tail _ hq)
        obtain ⟨t, u, e⟩ := hM p (.head _)
        refine ⟨.int p.2.1 t :: fs, KatTups.cons e rfl rfl rfl k1, by simp [k2], fun v hv => ?_⟩
        rcases List.mem_cons.mp hv with rfl | hv
        · exact ⟨_, _, rfl⟩
        · exact k3 v hv
    obtain ⟨fs, k1, k2, k3⟩ := tups M la
    refine kat_kind (T := .type "int") k1 (by lia) (fun v hv => ?_) (by decide) ?_
    · obtain ⟨n, t, rfl⟩ := k3 v hv
      exact Looks.now
    · have hb : (Value.type "int" != Value.type "tuple") = true := by decide
      rw [hb, hlen]
      have hgd : ∀ i, i < M.length → (M.map fun p => Value.ref p.1).getD i Value.none = Value.ref (M.getD i (0, (0, 0))).1 := fun i hi => by
        rw [List.getD_eq_getElem?_getD, List.getD_eq_getElem?_getD, List.getElem?_map, List.getElem?_eq_getElem hi]; rfl
      have hmem : ∀ i, i < M.length → M.getD i (0, (0, 0)) ∈ M := fun i hi => by
        rw [List.getD_eq_getElem?_getD, List.getElem?_eq_getElem hi]; exact List.getElem_mem hi
      refine sort_run (O := OP) (key := fun i => (M.getD i (0, (0, 0))).2) (Inv := fun s' => s' = { s with heap := h' }) ?_ (by lia) rfl ?_
      · rintro i j C s' hi hj rfl hC
        unfold kas_ask
        rw [hgd i hi, hgd j hj]
        obtain ⟨t1, u1, q1⟩ := la _ (hmem i hi)
        obtain ⟨t2, u2, q2⟩ := la _ (hmem j hj)
        exact pair_keyLt q1 q2 (hC _ rfl)
      · rintro p s' hp hup rfl
        have hpz := hp.size
        have hpl : p.toList.Perm (List.range M.length) := by have := Array.perm_iff_toList_perm.mp hp; simpa using this
        have hlt : ∀ i ∈ p.toList, i < M.length := fun i hi => List.mem_range.mp (hpl.mem_iff.mp hi)
        have eM : p.toList.map (fun i => (M.map fun p => Value.ref p.1).getD i Value.none) = (p.toList.map fun i => M.getD i (0, (0, 0))).map fun p => Value.ref p.1 := by
          rw [List.map_map]
          exact List.map_congr_left fun i hi => hgd i (hlt i hi)
        have pm : (p.toList.map fun i => M.getD i (0, (0, 0))).Perm M := by
          refine (hpl.map _).trans ?_
          have : (List.range M.length).map (fun i => M.getD i (0, (0, 0))) = M := by
            apply List.ext_getElem?
            intro i
            by_cases hi : i < M.length
            · rw [List.getElem?_map, List.getElem?_range hi, Option.map_some, List.getD_eq_getElem?_getD, List.getElem?_eq_getElem hi]; rfl
            · rw [List.getElem?_eq_none (by simpa using hi), List.getElem?_eq_none (by lia)]
          rw [this]
        rw [eM]
        refine KasFin.intro F' N' (.head hna) fun h3 c F3 N3 => ?_
        refine h h3 c _ F3 N3 pm ?_
        rw [List.pairwise_iff_getElem]
        intro i j hi hj hij
        simp only [List.length_map, Array.length_toList] at hi hj
        simp only [List.getElem_map, Array.getElem_toList]
        have := hup i j (Nat.le_of_lt hij) (by lia)
        unfold KP at this
        have e1 : p.getD i 0 = p[i] := by simp [Array.getD, hi]
        have e2 : p.getD j 0 = p[j] := by simp [Array.getD, hj]
        rw [e1, e2] at this
        exact this
  · refine sort_short F N ho haL ha0 hna (by rw [hlen]; lia) fun h' c F' N' => h h' c M F' N' (List.Perm.refl _) ?_
    match M, h2 with
    | [], _ => exact List.Pairwise.nil
    | [p], _ => simp
    | _ :: _ :: _, h2 => exact absurd (by simp) h2
end
end
section
open PySem PySem.W PyProof.Rows PySem.Spec PySem.Calls
set_option maxHeartbeats 3200000
section
variable {prog : Program} {w : World} {A : Around} {E : Value → Shared → Prop} {s : Shared} {h₀ : Heap} {L : Addr} {m : Str → Option Value} {news : List (Addr × Obj)}
theorem sorted_set {D : Addr} {oD : Obj} {Lm : Mem} {Q : Value → Shared → Prop} (hh : A.handled = none) (F : Fr h₀ L s.heap m) (N : News h₀ L s.heap news) (hD : (D, oD) ∈ news) (SP : SetP (ledOf w) oD Lm) (hz : Lm.length ≤ 10)
    (hl : ∀ p ∈ Lm, ∃ t u, (h₀.get? p.1 = some (tup2 (.int p.2.1 t) (.int p.2.2 u)) ∨ (p.1, tup2 (.int p.2.1 t) (.int p.2.2 u)) ∈ news))
    (h : ∀ R h' tk c (M' : Mem), Fr h₀ L h' m → News h₀ L h' ((R, listOf (M'.map fun p => Value.ref p.1).toArray c) :: news) → (∀ p ∈ news, p.1 < R) → M'.Perm Lm → (M'.map (·.2)).Pairwise (fun p q => pairLt q p = false) → Q (.ref R) { s with heap := h', toks := tk }) :
    wpAny (model prog w) A (call (.builtin "sorted") [.ref D]) Q E s := by
  obtain ⟨hx, ep, t, hd, TB, _, hled⟩ := SP
  refine Calls.call_function_entry kind_sorted plain_sorted entry_sorted (args_sorted1 _) ?_
  unfold Builtin.«sorted»
  refine wpAny_bind (m := checkCount "sorted" 1 1 _) (wpAny_pure ?_)
  refine wpAny_bind (collect_set (by exact hh) (N _ hD).1 hx hd TB hled hz fun h1 tk1 keep => ?_)
  obtain ⟨M, pm, eM⟩ := perm_map_inv (ordOf_perm w D ep Lm) (f := fun p => (hp p.2, Value.ref p.1)) Lm (by unfold ents; simp)
  have eV : (ordOf w D ep Lm).map (·.2) = M.map fun p => Value.ref p.1 := by rw [eM, List.map_map]; rfl
  rw [eV]
  have hMl : M.length ≤ 10 := by rw [pm.length_eq]; exact hz
  refine wpAny_bind (wpAny_newList ?_ (by rw [List.length_map, sizeLine_eq]; lia))
  have F1 : Fr h₀ L h1 m := F.keeps keep
  have N1 : News h₀ L h1 news := N.grown keep
  have hL : L < h1.objs.size := F1.ns.lt
  have hoR : (h1.push (seqObj "list" (M.map fun p => Value.ref p.1).toArray 0)).get? h1.objs.size = some (seqObj "list" (M.map fun p => Value.ref p.1).toArray 0) := Heap.get?_push_size _ rfl
  refine wpAny_bind (wpAny_holding (wpAny_call_entry slot_list_sort ⟨_, hoR, rfl⟩ entry_list_sort ?_ (args_list_sort _)))
  refine sort_pairs (s := { s with heap := h1.push (seqObj "list" (M.map fun p => Value.ref p.1).toArray 0), toks := tk1 }) (F1.push _) (N1.grown fun b o e => Heap.get?_push_of_some _ e) hoR (Nat.ne_of_gt hL) (Heap.get?_none_of_le F1.above |> fun _ => ?_) (fun p hp => Nat.ne_of_lt (Heap.lt_size (N1 p hp).1)) (by lia) (fun p hp => hl p (pm.mem_iff.mp hp)) fun h3 c M' F3 N3 pm3 pw3 => ?_
  · cases q : h₀.get? h1.objs.size with
    | none => rfl
    | some o => exact absurd (Heap.lt_size (F1.keep _ _ q)) (Nat.lt_irrefl _)
  · refine ⟨_, rfl, wpAny_pure ⟨_, rfl, ?_⟩⟩
    exact h _ h3 tk1 c M' F3 N3 (fun p hp => Heap.lt_size (N1 p hp).1) (pm3.trans pm) pw3
end
end
section
open PySem PySem.W PyProof.Rows PySem.Spec PySem.Calls
inductive PairsN (news : List (Addr × Obj)) : List Value → List (Int × Int) → Prop
  | nil : PairsN news [] []
  | cons {T : Addr} {a b : Int} {t u : Tok} {vs : List Value} {ps : List (Int × Int)} : (T, tup2 (.int a t) (.int b u)) ∈ news → PairsN news vs ps → PairsN news (.ref T :: vs) ((a, b) :: ps)
theorem PairsN.at {h₀ h : Heap} {L : Addr} {news : List (Addr × Obj)} {vs : List Value} {ps : List (Int × Int)} (x : PairsN news vs ps) (N : News h₀ L h news) : PairsAt h vs ps := by
  induction x with
  | nil => exact .nil
  | cons e _ ih => exact .cons (N _ e).1 ih
theorem PairsN.mono {news news' : List (Addr × Obj)} {vs : List Value} {ps : List (Int × Int)} (x : PairsN news vs ps) (h : ∀ p ∈ news, p ∈ news') : PairsN news' vs ps := by
  induction x with
  | nil => exact .nil
  | cons e _ ih => exact .cons (h _ e) ih
theorem PairsN.append {news : List (Addr × Obj)} {vs us : List Value} {ps qs : List (Int × Int)} (x : PairsN news vs ps) (y : PairsN news us qs) : PairsN news (vs ++ us) (ps ++ qs) := by
  induction x with
  | nil => exact y
  | cons e _ ih => exact .cons e ih
theorem PairsN.length {news : List (Addr × Obj)} {vs : List Value} {ps : List (Int × Int)} (x : PairsN news vs ps) : vs.length = ps.length := by
  induction x with
  | nil => rfl
  | cons _ _ ih => simp [ih]
theorem PairsN.get {news : List (Addr × Obj)} {vs : List Value} {ps : List (Int × Int)} (x : PairsN news vs ps) : ∀ (n : Nat) (T : Addr) (k : Int × Int), vs[n]? = some (.ref T) → ps[n]? = some k → ∃ t u, (T, tup2 (.int k.1 t) (.int k.2 u)) ∈ news := by
  induction x with
  | nil => intro n T k h; cases h
  | cons e _ ih =>
    intro n T k h1 h2
    cases n with
    | zero => cases h1; cases h2; exact ⟨_, _, e⟩
    | succ n => exact ih n T k (by simpa using h1) (by simpa using h2)
theorem pairsN_mem {news : List (Addr × Obj)} {M : List (Addr × (Int × Int))} : (∀ p ∈ M, ∃ t u, (p.1, tup2 (.int p.2.1 t) (.int p.2.2 u)) ∈ news) → PairsN news (M.map fun p => Value.ref p.1) (M.map (·.2)) := by
  induction M with
  | nil => intro _; exact .nil
  | cons p M ih =>
    intro h
    obtain ⟨t, u, e⟩ := h p (.head _)
    exact .cons e (ih fun q hq => h q (.tail _ hq))
end
section
open PySem PySem.W PyProof.Rows PySem.Spec PySem.Calls
set_option maxHeartbeats 3200000
section
variable {prog : Program} {w : World} {A : Around} {E : Value → Shared → Prop} {s : Shared} {h₀ : Heap} {L : Addr} {m : Str → Option Value} {news : List (Addr × Obj)}
theorem set_pairs {l : Addr} {vs : List Value} {ps : List (Int × Int)} {tl : List (Addr × Obj)} {Q : Value → Shared → Prop} (hh : A.handled = none) (hu : A.units + 16 < cLine) (F : Fr h₀ L s.heap m) (N : News h₀ L s.heap news) (hl : s.heap.IsList l vs.toArray) (x : PairsN tl vs ps) (hsub : ∀ p ∈ tl, p ∈ news) (hk : ∀ p ∈ ps, p ∈ keys10)
    (h : ∀ D h' tk o (Lm : Mem), Fr h₀ L h' m → News h₀ L h' ((D, o) :: news) → (∀ p ∈ news, p.1 < D) → SetP (ledOf w) o Lm → Lm.length ≤ 10 → (Lm.map (·.2)).Nodup →
      (∀ p ∈ Lm, ∃ t u, (p.1, tup2 (.int p.2.1 t) (.int p.2.2 u)) ∈ tl) → (∀ q, q ∈ Lm.map (·.2) ↔ q ∈ ps) → Q (.ref D) { s with heap := h', toks := tk }) :
    wpAny (model prog w) A (call (.type "set") [.ref l]) Q E s := by
  refine call_set_pairs hh hu hl ((x.mono hsub).at N) hk fun h' tk o Lm keep ho SP hm => ?_
  have hnew : h₀.get? s.heap.objs.size = none := by
    cases q : h₀.get? s.heap.objs.size with
    | none => rfl
    | some o => exact absurd (Heap.lt_size (F.keep _ _ q)) (Nat.lt_irrefl _)
  obtain ⟨hx, ep, t, hd, TB, hr, hled⟩ := id SP.isSet
  refine h _ h' tk o Lm (F.keeps keep) (fun p hp => ?_) (fun p hp => Heap.lt_size (N p hp).1) SP.isSet (by rcases hr with ⟨_, q⟩ | ⟨_, q⟩ <;> lia) TB.nd (fun p hp => ?_) hm
  · rcases List.mem_cons.mp hp with rfl | hp
    · exact ⟨ho, Nat.ne_of_gt F.ns.lt, hnew⟩
    · exact ⟨keep _ _ (N p hp).1, (N p hp).2⟩
  · obtain ⟨n, e1, e2⟩ := SP.from_ p hp
    exact x.get n p.1 p.2 e1 e2
end
end
section
open PySem PySem.W PyProof.Rows PySem.Spec PySem.Calls PySem.SeqAt
inductive RowsAt (h : Heap) : List Value → List (List Int) → Prop
  | nil : RowsAt h [] []
  | cons {D : Addr} {pv : List Value} {n : Nat} {l : List Int} {vs : List Value} {ls : List (List Int)} : h.get? D = some (listOf pv.toArray n) → IntsAre pv l → RowsAt h vs ls → RowsAt h (.ref D :: vs) (l :: ls)
noncomputable abbrev rd (l : List Int) : PyData := .list (l.map .int)
theorem RowsAt.reads {h : Heap} {vs : List Value} {ls : List (List Int)} (x : RowsAt h vs ls) : ∃ as, ReadsAll h vs (ls.map rd) as := by
  induction x with
  | nil => exact ⟨_, .nil⟩
  | cons e j _ ih =>
    obtain ⟨as, r⟩ := ih
    exact ⟨_, .cons (.list e rfl rfl (by simpa using IntsAre.reads h j)) r⟩
theorem canLay_ints : ∀ l : List Int, PyData.canLayAll0 (l.map .int) = true
  | [] => by simp [PyData.canLayAll0]
  | p :: ps => by
    have := canLay_ints ps
    simp [PyData.canLayAll0, PyData.canLay0] at this ⊢; exact this
theorem depth_ints : ∀ l : List Int, PyData.depthAll (l.map .int) ≤ 1
  | [] => by simp [PyData.depthAll]
  | p :: ps => by
    have := depth_ints ps
    simp [PyData.depthAll, PyData.depth] at this ⊢; lia
theorem canLay_rows : ∀ ls : List (List Int), PyData.canLayAll0 (ls.map rd) = true
  | [] => by simp [PyData.canLayAll0]
  | p :: ps => by
    have h1 := canLay_rows ps
    have h2 := canLay_ints p
    simp only [List.map_cons, PyData.canLayAll0, PyData.canLay0, Bool.and_eq_true]
    exact ⟨h2, h1⟩
theorem depth_rows : ∀ ls : List (List Int), PyData.depthAll (ls.map rd) ≤ 2
  | [] => by simp [PyData.depthAll]
  | p :: ps => by
    have h1 := depth_rows ps
    have h2 := depth_ints p
    simp only [List.map_cons, PyData.depthAll, PyData.depth] at h1 h2 ⊢; lia
theorem shaped_rows (ls : List (List Int)) : shaped (.list (ls.map rd)) = true := by
  have h1 := depth_rows ls
  have h2 : PyData.depth (.list (ls.map rd)) ≤ 64 := by simp only [PyData.depth]; lia
  show (PyData.canLay0 (.list (ls.map rd)) && decide (PyData.depth (.list (ls.map rd)) ≤ 64)) = true
  rw [Bool.and_eq_true]
  exact ⟨by simp only [PyData.canLay0]; exact canLay_rows ls, decide_eq_true h2⟩
inductive RowsL (tl : List (Addr × Obj)) : List Value → List (List Int) → Prop
  | nil : RowsL tl [] []
  | cons {D : Addr} {pv : List Value} {n : Nat} {l : List Int} {vs : List Value} {ls : List (List Int)} : (D, listOf pv.toArray n) ∈ tl → IntsAre pv l → RowsL tl vs ls → RowsL tl (.ref D :: vs) (l :: ls)
theorem RowsL.length {tl : List (Addr × Obj)} {vs : List Value} {ls : List (List Int)} (x : RowsL tl vs ls) : vs.length = ls.length := by
  induction x with
  | nil => rfl
  | cons _ _ _ ih => simp [ih]
theorem RowsL.get {tl : List (Addr × Obj)} {vs : List Value} {ls : List (List Int)} (x : RowsL tl vs ls) : ∀ i (hi : i < ls.length), (Ex3 fun D pv n => Cj3 (vs[i]? = some (.ref D)) ((D, listOf pv.toArray n) ∈ tl) (IntsAre pv ls[i])) := by
  induction x with
  | nil => intro i hi; exact absurd hi (Nat.not_lt_zero _)
  | cons e j _ ih =>
    intro i hi
    cases i with
    | zero => exact ⟨_, _, _, rfl, e, j⟩
    | succ i => obtain ⟨D, pv, n, h1, h2, h3⟩ := ih i (by simpa using hi); exact ⟨D, pv, n, by simpa using h1, h2, by simpa using h3⟩
theorem RowsL.append {tl : List (Addr × Obj)} {vs us : List Value} {ls ks : List (List Int)} (x : RowsL tl vs ls) (y : RowsL tl us ks) : RowsL tl (vs ++ us) (ls ++ ks) := by
  induction x with
  | nil => exact y
  | cons e j _ ih => exact .cons e j ih
theorem RowsL.at {tl news : List (Addr × Obj)} {vs : List Value} {ls : List (List Int)} {h₀ h : Heap} {L : Addr} (x : RowsL tl vs ls) (N : News h₀ L h news) (hsub : ∀ p ∈ tl, p ∈ news) : RowsAt h vs ls := by
  induction x with
  | nil => exact .nil
  | cons e j _ ih => exact .cons (N _ (hsub _ e)).1 j ih
section
variable {prog : Program} {w : World} {A : Around} {E : Value → Shared → Prop} {s : Shared} {l k : Addr} {vs : List Value} {n n2 : Nat} {ls : List (List Int)} {Q : Value → Shared → Prop}
theorem rows_eq_nil (h1 : s.heap.get? l = some (listOf vs.toArray n)) (h2 : s.heap.get? k = some (listOf #[] n2)) (x : RowsAt s.heap vs ls) (hu : A.units + 64 < cLine) (h : Q (.bool (decide (ls = []))) s) :
    wpAny (model prog w) A (compareOp .Eq (.ref l) (.ref k)) Q E s := by
  obtain ⟨as, r⟩ := x.reads
  have ra : Reads s.heap (.ref l) (.list (ls.map rd)) (l :: as) := .list h1 rfl rfl (by simpa using r)
  have rb : Reads s.heap (.ref k) (.list (([] : List (List Int)).map rd)) [k] := .list (vs := #[]) h2 rfl rfl .nil
  refine eq_dataH_same ra rb (shaped_rows ls) (shaped_rows []) hu ?_ ?_
  · cases ls <;> simp [noMix, noMixAll]
  · have e : PySem.Spec.same (.list (ls.map rd)) (.list (([] : List (List Int)).map rd)) = decide (ls = []) := by cases ls <;> simp [PySem.Spec.same, PySem.Spec.sameAll]
    rw [e]; exact h
end
end
section
set_option maxHeartbeats 8000000
noncomputable def addKeys (keys : List Int) (k : Int) (ps : List Int) : List Int := ps.foldl touch (touch keys k)
noncomputable def addSucc (succ : Int → List Int) (k : Int) (ps : List Int) : Int → List Int := ps.foldl (fun f p => upd f p (f p ++ [k])) succ
theorem foldl_touch_sub {j : Int} : ∀ (ps keys : List Int), j ∈ keys → j ∈ ps.foldl touch keys
  | [], _, h => h
  | p :: r, keys, h => foldl_touch_sub r _ (touch_sub p h)
theorem addKeys_sub (keys : List Int) (k : Int) (ps : List Int) {j : Int} (h : j ∈ touch keys k) : j ∈ addKeys keys k ps := foldl_touch_sub ps _ h
theorem foldl_touch_mem {j : Int} : ∀ (ps keys : List Int), j ∈ ps → j ∈ ps.foldl touch keys
  | p :: r, keys, h => by
    rcases List.mem_cons.mp h with e | h
    · subst e; exact foldl_touch_sub r _ (touch_mem _ _)
    · exact foldl_touch_mem r _ h
theorem addKeys_mem (keys : List Int) (k : Int) (ps : List Int) {j : Int} (h : j ∈ ps) : j ∈ addKeys keys k ps := foldl_touch_mem ps _ h
theorem foldl_touch_len : ∀ (ps keys : List Int), (ps.foldl touch keys).length ≤ keys.length + ps.length
  | [], _ => by simp
  | p :: r, keys => by
    have h1 := foldl_touch_len r (touch keys p)
    have h2 := touch_len keys p
    simp only [List.foldl_cons, List.length_cons]; lia
theorem addKeys_len (keys : List Int) (k : Int) (ps : List Int) : (addKeys keys k ps).length ≤ keys.length + 1 + ps.length := by
  have h1 := foldl_touch_len ps (touch keys k)
  have h2 := touch_len keys k
  unfold addKeys; lia
theorem addSucc_ne {j : Int} (k : Int) : ∀ (ps : List Int) (succ : Int → List Int), j ∉ ps → addSucc succ k ps j = succ j
  | [], _, _ => rfl
  | p :: r, succ, h => by
    have h1 : j ≠ p := fun e => h (by rw [e]; exact .head _)
    have h2 := addSucc_ne k r (upd succ p (succ p ++ [k])) (fun q => h (.tail _ q))
    rw [upd_ne _ _ h1] at h2
    exact h2
theorem addSucc_len {j : Int} (k : Int) : ∀ (ps : List Int) (succ : Int → List Int), (addSucc succ k ps j).length ≤ (succ j).length + ps.length
  | [], _ => by simp [addSucc]
  | p :: r, succ => by
    have h2 := addSucc_len (j := j) k r (upd succ p (succ p ++ [k]))
    have h3 : (upd succ p (succ p ++ [k]) j).length ≤ (succ j).length + 1 := by
      by_cases e : j = p
      · subst e; rw [upd_self]; simp
      · rw [upd_ne _ _ e]; lia
    show (addSucc (upd succ p (succ p ++ [k])) k r j).length ≤ _
    simp only [List.length_cons]; lia
theorem addT {w : World} {dp un : Nat} {gd : Option (List Code)} {cn : Str} {cs : Scope} {a : Addr} {ccd : Value} {cl : List (Str × Addr)} {outer : List Env} {A₀ : Around} {base h₀ : Heap} {L : Addr} {m mg mb : Str → Option Value} {mean : ExcName → Option Value} {s : Shared} {Q E : Value → Shared → Prop} {x dx d : Addr} {od : Obj} {t1 t2 t3 t4 : Tok} {po nf : Value} {rest srt : List (Addr × Obj)} {nA dA sA : Int → Addr} {keys : List Int} {np : Int → Int} {succ : Int → List Int} {k : Int} {tq : Tok} {pv : List Value} {ps : List Int}
    (B : Below A₀ base outer h₀) (F : Fr h₀ L s.heap m) (X : (Mine.hd.heap_1 w.params).In h₀) (T : TP mean mg mb h₀) (hk : cs.kind = .function) (hd : dp + 6 < recursionLimit) (hu : un + 48 < cLine)
    (N : News h₀ L s.heap ((x, instObj 151 dx) :: (dx, dictOf (sEs w (.ref d) .none po nf t1 t2 t3 t4) 4) :: (d, od) :: (rest ++ srt))) (hdm : (d == sysModules) = false)
    (D : od.IsDictOf (intKind PG w) (kvsOf keys nA)) (Nd : Nodes nA dA sA keys np succ srt) (P : Apart x dx d rest srt) (h0 : ∀ j, j ∉ keys → np j = 0 ∧ succ j = []) (hlen : keys.length + ps.length ≤ 900) (hsl : ∀ j, (succ j).length ≤ 900) (hi : IntsAre pv ps) (hks : k ∉ ps) (hpl : pv.length ≤ 4)
    (ret : ∀ h' tk' od' nA' dA' sA' srt', Fr h₀ L h' m → News h₀ L h' ((x, instObj 151 dx) :: (dx, dictOf (sEs w (.ref d) .none po nf t1 t2 t3 t4) 4) :: (d, od') :: (rest ++ srt')) →
      od'.IsDictOf (intKind PG w) (kvsOf (addKeys keys k ps) nA') → Nodes nA' dA' sA' (addKeys keys k ps) (upd np k (np k + ps.length)) (addSucc succ k ps) srt' → Apart x dx d rest srt' → Q .none { s with heap := h', toks := tk' }) :
    wpAny (model PG w) (ktrTop dp un gd cn cs L a ccd cl outer) (call (.ref 101) (.ref x :: .int k tq :: pv)) Q E s := by
  refine wpAny_call ?_
  k_dflt (refine' kp_rest (vs := pv) (g₁ := fun D => some [(Str.ofString "self", .ref x), (Str.ofString "node", .int k tq), (Str.ofString "predecessors", .ref D)]) (binds := fun D => [(Str.ofString "self", .ref x), (Str.ofString "node", .int k tq), (Str.ofString "predecessors", .ref D)]) ?k1 ?k2 ?k3 ?k4 ?k5 ?kA ?kF ?kK ?k6 ?k7 ?k8 ?kV ?kP ?kG ?kB ?_ ?c2 ?c3 ?c4 ?c5; (case kA => exact rfl); (case kF => exact rfl); (case kK => first | exact rfl | assumption); (case k1 => k_asm); (case k2 => k_asm); (case k3 => k_asm); (case k4 => exact N); (case k5 => k_asm); (case k6 => k_is); (case k7 => k_is); (case k8 => k_room); (case kV => exact rfl); (case kP => rcases pv with _ | ⟨v1, _ | ⟨v2, _ | ⟨v3, _ | ⟨v4, _ | ⟨v5, r5⟩⟩⟩⟩⟩; exact rfl; exact rfl; exact rfl; exact rfl; exact rfl; exact absurd hpl (by simp)); (case kG => exact fun _ => rfl); (case kB => exact fun _ => locs rfl); (case c5 => decide); (case c2 => exact rfl); (case c3 => exact rfl); (case c4 => exact rfl); k_whole; intro D' g' L' h' l1 FG' F' N' B' X' T'; (try dsimp only); (try k_fold))
  (repeat' (first | (k_unfold; (try dsimp only)) | (k_end; wrow_close) | ((fail_if_success (with_reducible (refine Mine.stop_here ?_ ?_; walk_at "s0"))); walk1) | (dsimp only; (fail_if_success (with_reducible (refine Mine.stop_here ?_ ?_; walk_at "s0"))); walk1) | (leave1; walk_say "STEP leave1"; try dsimp only) | walk_at "onk" | fail "no step"))
  have l2 := List.forall_mem_cons.mp l1
  have l3 := List.forall_mem_cons.mp l2.2
  have l4 := List.forall_mem_cons.mp l3.2
  have P' : Apart x dx d ((D', ({ cls := .type "tuple", data := .seq pv.toArray } : Obj)) :: rest) srt := P.cons (Nat.ne_of_gt l2.1) (Nat.ne_of_gt l3.1) (Nat.ne_of_gt l4.1) fun q hq => Nat.ne_of_gt (l4.2 q (List.mem_append_right _ hq))
  refine' gnT (rest := (D', _) :: rest) ?b1 ?b2 ?b3 ?b4 ?b5 ?b6 ?b7 ?b8 hdm D Nd P' (h0 k) (by lia) ?_
  (case b1 => k_asm); (case b2 => k_asm); (case b3 => k_asm); (case b4 => k_asm); (case b5 => first | exact rfl | assumption); (case b6 => ktr_room); (case b7 => ktr_units)
  (case b8 => exact fun p hp => N' p (by simp only [List.cons_append, List.mem_cons] at hp ⊢; rcases hp with h | h | h | h | h <;> first | exact .inl h | exact .inr (.inl h) | exact .inr (.inr (.inl h)) | exact .inr (.inr (.inr (.inl h))) | exact .inr (.inr (.inr (.inr h)))))
  intro h9 tk9 od9 nA9 dA9 sA9 srt9 F9 N9 D9 Nd9 P9
  simp only [List.cons_append] at N9
  dsimp only
  (repeat' (first | (k_unfold; (try dsimp only)) | (k_end; wrow_close) | ((fail_if_success (with_reducible (refine Mine.stop_here ?_ ?_; walk_at "s0"))); walk1) | (dsimp only; (fail_if_success (with_reducible (refine Mine.stop_here ?_ ?_; walk_at "s0"))); walk1) | (leave1; walk_say "STEP leave1"; try dsimp only) | walk_at "onk" | fail "no step"))
  refine' np_get (fr := (x, _) :: (dx, _) :: (d, _) :: (D', _) :: rest) (srt := srt9) ?b1 ?b2 ?b3 Nd9 (touch_mem _ _) ?_
  (case b1 => k_asm)
  (case b2 => k_asm)
  (case b3 => k_asm)
  intro t9
  (repeat' (first | (k_unfold; (try dsimp only)) | (k_end; wrow_close) | ((fail_if_success (with_reducible (refine Mine.stop_here ?_ ?_; walk_at "s0"))); walk1) | (dsimp only; (fail_if_success (with_reducible (refine Mine.stop_here ?_ ?_; walk_at "s0"))); walk1) | (leave1; walk_say "STEP leave1"; try dsimp only) | walk_at "onk" | fail "no step"))
  rename News g' L' _ _ => N8
  have hlp := hi.length
  refine PyProof.Rows.len_tuple (items := pv.toArray) ⟨_, (N8 (D', _) (.tail _ (.tail _ (.tail _ (.head _))))).1, rfl, _, rfl⟩ (by simp; lia) ?_
  (repeat' (first | (k_unfold; (try dsimp only)) | (k_end; wrow_close) | ((fail_if_success (with_reducible (refine Mine.stop_here ?_ ?_; walk_at "s0"))); walk1) | (dsimp only; (fail_if_success (with_reducible (refine Mine.stop_here ?_ ?_; walk_at "s0"))); walk1) | (leave1; walk_say "STEP leave1"; try dsimp only) | walk_at "onk" | fail "no step"))
  refine' np_set (fr := (x, _) :: (dx, _) :: (d, _) :: (D', _) :: rest) (srt := srt9) ?b1 ?b2 ?b3 Nd9 (touch_mem _ _) ?b4 ?_
  (case b1 => k_asm)
  (case b2 => k_asm)
  (case b3 => k_asm)
  (case b4 => exact P9.front)
  clear N8
  intro h8 srt8 F8 N8 Nd8 e8 _
  have P8 := P9.of_keys e8
  (repeat' (first | (k_unfold; (try dsimp only)) | (k_end; wrow_close) | ((fail_if_success (with_reducible (refine Mine.stop_here ?_ ?_; walk_at "s0"))); walk1) | (dsimp only; (fail_if_success (with_reducible (refine Mine.stop_here ?_ ?_; walk_at "s0"))); walk1) | (leave1; walk_say "STEP leave1"; try dsimp only) | walk_at "onk" | fail "no step"))
  refine For_turns (by k_asm) ?_
  (repeat' (first | (k_unfold; (try dsimp only)) | (k_end; wrow_close) | ((fail_if_success (with_reducible (refine Mine.stop_here ?_ ?_; walk_at "s0"))); walk1) | (dsimp only; (fail_if_success (with_reducible (refine Mine.stop_here ?_ ?_; walk_at "s0"))); walk1) | (leave1; walk_say "STEP leave1"; try dsimp only) | walk_at "onk" | fail "no step"))
  refine turns_tuple (m₀ := fun y => if y = Str.ofString "nodeinfo" then some (Value.ref (nA9 k)) else List.lookup y [(Str.ofString "self", Value.ref x), (Str.ofString "node", Value.int k tq), (Str.ofString "predecessors", Value.ref D')].reverse)
    (news₀ := (x, instObj 151 dx) :: (dx, dictOf (sEs w (.ref d) .none po nf t1 t2 t3 t4) 4) :: (d, od9) :: (rest ++ srt8)) (vs := pv) (nv := 0)
    (fun i m' nw => ∃ u v : Option Value, (m' = fun y => if y = Str.ofString "pred_info" then u else if y = Str.ofString "pred" then v else if y = Str.ofString "nodeinfo" then some (Value.ref (nA9 k)) else List.lookup y [(Str.ofString "self", Value.ref x), (Str.ofString "node", Value.int k tq), (Str.ofString "predecessors", Value.ref D')].reverse) ∧
      (Ex5 fun od' nA' dA' sA' srt' => Cj4 (nw = (x, instObj 151 dx) :: (dx, dictOf (sEs w (.ref d) .none po nf t1 t2 t3 t4) 4) :: (d, od') :: (rest ++ srt')) (od'.IsDictOf (intKind PG w) (kvsOf (addKeys keys k (ps.take i)) nA')) (Nodes nA' dA' sA' (addKeys keys k (ps.take i)) (upd np k (np k + ps.length)) (addSucc succ k (ps.take i)) srt') (Apart x dx d rest srt'))) rfl (by k_asm) ?t1 ?t2 ?t3 ?t4 ?t5
  case t1 => exact fun p hp => N8 p (by simp only [List.cons_append, List.mem_cons] at hp ⊢; rcases hp with h | h | h | h | h <;> first | exact .inl h | exact .inr (.inl h) | exact .inr (.inr (.inl h)) | exact .inr (.inr (.inr (.inl h))) | exact .inr (.inr (.inr (.inr h))))
  case t2 => exact fun p hp => Ne.symm (P8.headD (fun p hp => Nat.ne_of_lt (l4.2 p (List.mem_append_left _ hp))) p hp)
  case t3 => exact ⟨none, none, start2 rfl rfl, od9, nA9, dA9, sA9, srt8, rfl, D9, by rw [show ps.length = pv.toArray.size by simp [hlp]]; exact Nd8, P8.drop (own := [_])⟩
  case t5 =>
    rintro m' news' h' tk ⟨u, v, rfl, od', nA', dA', sA', srt', rfl, D1, Nd1, P1⟩ F1 N1 hx
    rw [hlp, List.take_length] at D1 Nd1
    (repeat' (first | (k_unfold; (try dsimp only)) | (k_end; wrow_close) | ((fail_if_success (with_reducible (refine Mine.stop_here ?_ ?_; walk_at "s0"))); walk1) | (dsimp only; (fail_if_success (with_reducible (refine Mine.stop_here ?_ ?_; walk_at "s0"))); walk1) | (leave1; walk_say "STEP leave1"; try dsimp only) | walk_at "onk" | fail "no step"))
    rename News h₀ L _ _ => NN
    exact ret _ _ od' nA' dA' sA' srt' (by k_asm) (fun p hp => NN p (.tail _ hp)) D1 Nd1 P1
  case t4 =>
    rintro i v m₁ news₁ h₁ tk₁ own hv ⟨u, v', rfl, od', nA', dA', sA', srt', rfl, D1, Nd1, P1⟩ dis F1 N1
    have hil : i < ps.length := by rw [← hlp]; exact (List.getElem?_eq_some_iff.mp hv).1
    obtain ⟨t0, ht0⟩ := hi.get i ps[i] (List.getElem?_eq_getElem hil)
    obtain rfl : v = .int ps[i] t0 := Option.some.inj (hv.symm.trans ht0)
    have ht : ps.take (i + 1) = ps.take i ++ [ps[i]] := by simp
    have N2 : News g' L' h₁ ((x, instObj 151 dx) :: (dx, dictOf (sEs w (.ref d) .none po nf t1 t2 t3 t4) 4) :: (d, od') :: ((own ++ rest) ++ srt')) := fun p hp => N1 p (by
      refine led_go hp ?_
      walk_at "led")
    clear N1
    have P2 : Apart x dx d (own ++ rest) srt' := P1.app (fun p hp => ⟨dis p hp _ (.head _), dis p hp _ (.tail _ (.head _)), dis p hp _ (.tail _ (.tail _ (.head _)))⟩) (fun p hp q hq => dis p hp q (.tail _ (.tail _ (.tail _ (List.mem_append_right _ hq)))))
    have hp0 : ps[i] ∉ addKeys keys k (ps.take i) → upd np k (np k + ps.length) ps[i] = 0 ∧ addSucc succ k (ps.take i) ps[i] = [] := fun hn => by
      have h1 : ps[i] ∉ touch keys k := fun h => hn (addKeys_sub _ _ _ h)
      have h2 : ps[i] ≠ k := fun h => hks (by rw [← h]; exact List.getElem_mem hil)
      have h3 : ps[i] ∉ ps.take i := fun h => hn (addKeys_mem _ _ _ h)
      have h4 := h0 ps[i] (fun h => h1 (touch_sub _ h))
      exact ⟨by rw [upd_ne _ _ h2]; exact h4.1, by rw [addSucc_ne _ _ _ h3]; exact h4.2⟩
    (repeat' (first | (k_unfold; (try dsimp only)) | (k_end; wrow_close) | ((fail_if_success (with_reducible (refine Mine.stop_here ?_ ?_; walk_at "s0"))); walk1) | (dsimp only; (fail_if_success (with_reducible (refine Mine.stop_here ?_ ?_; walk_at "s0"))); walk1) | (leave1; walk_say "STEP leave1"; try dsimp only) | walk_at "onk" | fail "no step"))
    refine' gnT (rest := own ++ rest) ?b1 ?b2 ?b3 ?b4 ?b5 ?b6 ?b7 ?b8 hdm D1 Nd1 P2 hp0 ?b9 ?_
    (case b1 => k_asm); (case b2 => k_asm); (case b3 => k_asm); (case b4 => k_asm); (case b5 => first | exact rfl | assumption); (case b6 => ktr_room); (case b7 => ktr_units)
    (case b8 => k_asm)
    (case b9 => have := addKeys_len keys k (ps.take i); have := List.length_take_le i ps; lia)
    intro h7 tk7 od7 nA7 dA7 sA7 srt7 F7 N7 D7 Nd7 P7
    dsimp only
    (repeat' (first | (k_unfold; (try dsimp only)) | (k_end; wrow_close) | ((fail_if_success (with_reducible (refine Mine.stop_here ?_ ?_; first | walk_at "s0" | exact Mine.p7 | exact Mine.p8 | exact Mine.p9 | exact Mine.p10))); walk1) | (dsimp only; (fail_if_success (with_reducible (refine Mine.stop_here ?_ ?_; first | walk_at "s0" | exact Mine.p7 | exact Mine.p8 | exact Mine.p9 | exact Mine.p10))); walk1) | (leave1; walk_say "STEP leave1"; try dsimp only) | walk_at "onk" | fail "no step"))
    refine' succ_get (fr := (x, _) :: (dx, _) :: (d, _) :: (own ++ rest)) (srt := srt7) ?b1 ?b2 ?b3 Nd7 (touch_mem _ _) ?_
    (case b1 => k_asm)
    (case b2 => k_asm)
    (case b3 => k_asm)
    dsimp only
    obtain ⟨sv7, n7, hi7, hm7⟩ := Nd7.list ps[i] (touch_mem _ _)
    rename News g' L' _ _ => N6
    refine getMethod_append_N N6 (.tail _ (.tail _ (.tail _ (List.mem_append_right _ hm7)))) ?_
    (repeat' (first | (k_unfold; (try dsimp only)) | (k_end; wrow_close) | ((fail_if_success (with_reducible (refine Mine.stop_here ?_ ?_; first | walk_at "s0" | exact Mine.p7 | exact Mine.p8 | exact Mine.p9 | exact Mine.p10))); walk1) | (dsimp only; (fail_if_success (with_reducible (refine Mine.stop_here ?_ ?_; first | walk_at "s0" | exact Mine.p7 | exact Mine.p8 | exact Mine.p9 | exact Mine.p10))); walk1) | (leave1; walk_say "STEP leave1"; try dsimp only) | walk_at "onk" | fail "no step"))
    refine' succ_push (fr := (x, _) :: (dx, _) :: (d, _) :: (own ++ rest)) (srt := srt7) ?b1 ?b3 Nd7 (touch_mem _ _) P7.front ?b4 ?_
    (case b1 => k_asm)
    (case b3 => k_asm)
    (case b4 => have := addSucc_len (j := ps[i]) k (ps.take i) succ; have := hsl ps[i]; have := List.length_take_le i ps; lia)
    intro h5 srt5 F5 N5 Nd5 e5
    have P5 := P7.of_keys e5
    (repeat' (first | (k_unfold; (try dsimp only)) | (k_end; wrow_close) | ((fail_if_success (with_reducible (refine Mine.stop_here ?_ ?_; first | walk_at "s0" | exact Mine.p7 | exact Mine.p8 | exact Mine.p9 | exact Mine.p10))); walk1) | (dsimp only; (fail_if_success (with_reducible (refine Mine.stop_here ?_ ?_; first | walk_at "s0" | exact Mine.p7 | exact Mine.p8 | exact Mine.p9 | exact Mine.p10))); walk1) | (leave1; walk_say "STEP leave1"; try dsimp only) | walk_at "onk" | fail "no step"))
    have ek : addKeys keys k (ps.take (i + 1)) = touch (addKeys keys k (ps.take i)) ps[i] := by unfold addKeys; rw [ht, List.foldl_append]; rfl
    have es : addSucc succ k (ps.take (i + 1)) = upd (addSucc succ k (ps.take i)) ps[i] (addSucc succ k (ps.take i) ps[i] ++ [k]) := by unfold addSucc; rw [ht, List.foldl_append]; rfl
    refine ⟨h5, _, _, (x, instObj 151 dx) :: (dx, dictOf (sEs w (.ref d) .none po nf t1 t2 t3 t4) 4) :: (d, od7) :: (rest ++ srt5), rfl, F5, ?_, ?_, ⟨_, _, again2, od7, nA7, dA7, sA7, srt5, rfl, ?_, ?_, P5.drop⟩⟩
    · exact fun p hp => N5 p (by
        refine led_go hp ?_
        walk_at "led")
    · intro p hp q hq
      have hq' := P5.tl p (List.mem_append_left _ (List.mem_append_left _ hp))
      simp only [List.mem_cons, List.mem_append] at hq
      rcases hq with h | h | h | h | h
      · subst h; exact hq'.1
      · subst h; exact hq'.2.1
      · subst h; exact hq'.2.2
      · exact dis p hp q (.tail _ (.tail _ (.tail _ (List.mem_append_left _ h))))
      · exact P5.rs p (List.mem_append_left _ hp) q h
    · rw [ek]; exact D7
    · rw [ek, es]; exact Nd5
end
section
set_option maxHeartbeats 8000000
noncomputable def outAll (np : Int → Int) (rs : List Int) : Int → Int := rs.foldl (fun f k => upd f k (-1)) np
structure Apart4 (x dx d r : Addr) (rest srt : List (Addr × Obj)) : Prop extends Apart x dx d rest srt where
  xr : @Ne Nat x r
  dxr : @Ne Nat dx r
  dr : @Ne Nat d r
  tlr : ∀ p ∈ rest ++ srt, p.1 ≠ r
theorem Apart4.of_keys {x dx d r : Addr} {rest srt srt' : List (Addr × Obj)} (P : Apart4 x dx d r rest srt) (e : srt'.map (·.1) = srt.map (·.1)) : Apart4 x dx d r rest srt' :=
  ⟨P.toApart.of_keys e, P.xr, P.dxr, P.dr, fun p hp => by
    rcases List.mem_append.mp hp with h | h
    · exact P.tlr p (List.mem_append_left _ h)
    · exact tail_srt (fun q hq => P.tlr q (List.mem_append_right _ hq)) e p h⟩
theorem Apart4.front4 {x dx d r : Addr} {o1 o2 o3 o4 : Obj} {own rest srt : List (Addr × Obj)} (P : Apart4 x dx d r rest srt) (h : ∀ p ∈ own, ∀ q ∈ srt, p.1 ≠ q.1) : ∀ p ∈ (x, o1) :: (dx, o2) :: (d, o3) :: (r, o4) :: (own ++ rest), ∀ q ∈ srt, p.1 ≠ q.1 := fun p hp q hq => by
  have h1 := P.tl q (List.mem_append_right _ hq)
  have h2 := P.tlr q (List.mem_append_right _ hq)
  simp only [List.mem_cons, List.mem_append] at hp
  rcases hp with e | e | e | e | e | e
  · subst e; exact Ne.symm h1.1
  · subst e; exact Ne.symm h1.2.1
  · subst e; exact Ne.symm h1.2.2
  · subst e; exact Ne.symm h2
  · exact h p e q hq
  · exact P.rs p e q hq
theorem keep_dis {b x dx d r : Addr} {o1 o2 o3 o4 o1' o2' o3' o4' : Obj} {rest srt srt' : List (Addr × Obj)} (h : ∀ q ∈ (x, o1) :: (dx, o2) :: (d, o3) :: (r, o4) :: (rest ++ srt), b ≠ q.1) (e : srt'.map (·.1) = srt.map (·.1)) :
    ∀ q ∈ (x, o1') :: (dx, o2') :: (d, o3') :: (r, o4') :: (rest ++ srt'), b ≠ q.1 := fun q hq => by
  simp only [List.mem_cons, List.mem_append] at hq h
  rcases hq with z | z | z | z | z | z
  · subst z; exact h (x, o1) (.inl rfl)
  · subst z; exact h (dx, o2) (.inr (.inl rfl))
  · subst z; exact h (d, o3) (.inr (.inr (.inl rfl)))
  · subst z; exact h (r, o4) (.inr (.inr (.inr (.inl rfl))))
  · exact h q (.inr (.inr (.inr (.inr (.inl z)))))
  · exact Ne.symm (tail_srt (fun q hq => Ne.symm (h q (.inr (.inr (.inr (.inr (.inr hq))))))) e q z)
theorem start1 {f : Str → Option Value} {a : Str} (ha : f a = none) : f = fun y => if y = a then none else f y := by
  funext y
  by_cases h1 : y = a
  · rw [if_pos h1, h1, ha]
  · rw [if_neg h1]
theorem again1 {f : Str → Option Value} {a : Str} {u u' : Option Value} : (fun y => if y = a then u' else if y = a then u else f y) = fun y => if y = a then u' else f y := by
  funext y
  by_cases h1 : y = a
  · simp [h1]
  · simp [h1]
theorem get_ready {w : World} {dp un : Nat} {gd : Option (List Code)} {cn : Str} {cs : Scope} {a : Addr} {ccd : Value} {cl : List (Str × Addr)} {outer : List Env} {A₀ : Around} {base h₀ : Heap} {L : Addr} {m mg mb : Str → Option Value} {mean : ExcName → Option Value} {s : Shared} {Q E : Value → Shared → Prop} {x dx d r : Addr} {od : Obj} {t1 t2 t3 t4 tpo : Tok} {po : Int} {nf : Value} {nr : Nat} {rest srt : List (Addr × Obj)} {nA dA sA : Int → Addr} {keys : List Int} {np : Int → Int} {succ : Int → List Int} {rv : List Value} {rs : List Int}
    (B : Below A₀ base outer h₀) (F : Fr h₀ L s.heap m) (X : (Mine.hd.heap_1 w.params).In h₀) (T : TP mean mg mb h₀) (hk : cs.kind = .function) (hd : dp + 6 < recursionLimit) (hu : un + 48 < cLine)
    (N : News h₀ L s.heap ((x, instObj 151 dx) :: (dx, dictOf (sEs w (.ref d) (.ref r) (.int po tpo) nf t1 t2 t3 t4) 4) :: (d, od) :: (r, listOf rv.toArray nr) :: (rest ++ srt))) (hdm : (d == sysModules) = false)
    (D : od.IsDictOf (intKind PG w) (kvsOf keys nA)) (Nd : Nodes nA dA sA keys np succ srt) (P : Apart4 x dx d r rest srt) (hi : IntsAre rv rs) (hrs : ∀ k ∈ rs, k ∈ keys) (hlen : rs.length ≤ 900)
    (ret : ∀ h' tk' T srt' tpo' nr', Fr h₀ L h' m → News h₀ L h' ((T, ({ cls := .type "tuple", data := .seq rv.toArray } : Obj)) :: (x, instObj 151 dx) :: (dx, dictOf (sEs w (.ref d) (.ref r) (.int (po + rs.length) tpo') nf t1 t2 t3 t4) 4) :: (d, od) :: (r, listOf #[] nr') :: (rest ++ srt')) →
      Nodes nA dA sA keys (outAll np rs) succ srt' → Apart4 x dx d r rest srt' → (∀ p ∈ (x, instObj 151 dx) :: (dx, dictOf [] 0) :: (d, od) :: (r, listOf #[] nr') :: (rest ++ srt'), p.1 ≠ T) → Q (.ref T) { s with heap := h', toks := tk' }) :
    wpAny (model PG w) (ktrTop dp un gd cn cs L a ccd cl outer) (call (.ref 113) [.ref x]) Q E s := by
  refine wpAny_call ?_
  k_dflt (refine' code_defG ?k1 ?k2 ?k3 ?k4 ?k5 ?kA ?kF ?kK ?k6 ?k7 ?k8 ?k9 ?kB ?_ ?c2 ?c3 ?c4 ?c5; (case kA => exact rfl); (case kF => exact rfl); (case kK => assumption); (case k1 => k_asm); (case k2 => k_asm); (case k3 => k_asm); (case k4 => exact N); (case k5 => k_asm); (case k6 => k_is); (case k7 => k_is); (case k8 => ktr_room); (case k9 => exact BindsTo.of_eq rfl); (case c5 => decide); (case kB => exact locs rfl); (case c2 => exact rfl); (case c3 => exact rfl); (case c4 => exact rfl); k_whole; intro g' L' h' FG' F' N' B' X' T' kG'; (try dsimp only); (try k_fold))
  (repeat' (first | (k_unfold; (try dsimp only)) | (k_end; wrow_close) | ((fail_if_success (with_reducible (refine Mine.stop_here ?_ ?_; walk_at "s0"))); walk1) | (dsimp only; (fail_if_success (with_reducible (refine Mine.stop_here ?_ ?_; walk_at "s0"))); walk1) | (leave1; walk_say "STEP leave1"; try dsimp only) | walk_at "onk" | fail "no step"))
  have hlp := hi.length
  refine' kde_tupleOf (items := rv.toArray) (zs := rv) ?b1 ?b2 ?b3 ?b4 ?b5 ?_
  (case b1 => k_asm)
  (case b2 => k_asm)
  (case b3 => exact News.isList (by k_asm) (.tail _ (.tail _ (.tail _ (.head _)))))
  (case b4 => simp; lia)
  (case b5 => simp)
  intro D' h9 F9 N9 l9
  have l2 := List.forall_mem_cons.mp l9
  have l3 := List.forall_mem_cons.mp l2.2
  have l4 := List.forall_mem_cons.mp l3.2
  have l5 := List.forall_mem_cons.mp l4.2
  (repeat' (first | (k_unfold; (try dsimp only)) | (k_end; wrow_close) | ((fail_if_success (with_reducible (refine Mine.stop_here ?_ ?_; walk_at "s0"))); walk1) | (dsimp only; (fail_if_success (with_reducible (refine Mine.stop_here ?_ ?_; walk_at "s0"))); walk1) | (leave1; walk_say "STEP leave1"; try dsimp only) | walk_at "onk" | fail "no step"))
  have q1 : @LT.lt Nat _ x D' := l2.1
  have q2 : @LT.lt Nat _ dx D' := l3.1
  have q3 : @LT.lt Nat _ d D' := l4.1
  have q4 : @LT.lt Nat _ r D' := l5.1
  have q5 := P.xdx
  have q6 := P.xd
  have q7 := P.dxd
  have q8 := P.xr
  have q9 := P.dxr
  have q10 := P.dr
  refine For_turns (by k_asm) ?_
  (repeat' (first | (k_unfold; (try dsimp only)) | (k_end; wrow_close) | ((fail_if_success (with_reducible (refine Mine.stop_here ?_ ?_; walk_at "s0"))); walk1) | (dsimp only; (fail_if_success (with_reducible (refine Mine.stop_here ?_ ?_; walk_at "s0"))); walk1) | (leave1; walk_say "STEP leave1"; try dsimp only) | walk_at "onk" | fail "no step"))
  rename News g' L' _ _ => N8
  refine turns_tuple (m₀ := fun y => if y = Str.ofString "n2i" then some (Value.ref d) else if y = Str.ofString "result" then some (Value.ref D') else List.lookup y [(Str.ofString "self", Value.ref x)].reverse)
    (news₀ := (x, instObj 151 dx) :: (dx, dictOf (sEs w (.ref d) (.ref r) (.int po tpo) nf t1 t2 t3 t4) 4) :: (d, od) :: (r, listOf rv.toArray nr) :: (rest ++ srt)) (vs := rv) (nv := 0)
    (fun i m' nw => ∃ u : Option Value, (m' = fun y => if y = Str.ofString "node" then u else if y = Str.ofString "n2i" then some (Value.ref d) else if y = Str.ofString "result" then some (Value.ref D') else List.lookup y [(Str.ofString "self", Value.ref x)].reverse) ∧
      ∃ srt', nw = (x, instObj 151 dx) :: (dx, dictOf (sEs w (.ref d) (.ref r) (.int po tpo) nf t1 t2 t3 t4) 4) :: (d, od) :: (r, listOf rv.toArray nr) :: (rest ++ srt') ∧
        Nodes nA dA sA keys (outAll np (rs.take i)) succ srt' ∧ srt'.map (·.1) = srt.map (·.1)) rfl (by k_asm) N8 ?t2 ?t3 ?t4 ?t5
  case t2 => exact fun p hp => Nat.ne_of_lt (l9 p hp)
  case t3 => exact ⟨none, start1 rfl, srt, rfl, Nd, rfl⟩
  case t5 =>
    rintro m' news' h' tk ⟨u, rfl, srt', rfl, Nd1, e1⟩ F1 N1 hx
    have P1 := P.of_keys e1
    have z1 : ∀ p ∈ rest ++ srt', p.1 ≠ r := P1.tlr
    have z2 : ∀ p ∈ rest ++ srt', p.1 ≠ dx := fun p hp => (P1.tl p hp).2.1
    rw [hlp, List.take_length] at Nd1
    (repeat' (first | (k_unfold; (try dsimp only)) | (k_end; wrow_close) | ((fail_if_success (with_reducible (refine Mine.stop_here ?_ ?_; walk_at "s0"))); walk1) | (dsimp only; (fail_if_success (with_reducible (refine Mine.stop_here ?_ ?_; walk_at "s0"))); walk1) | (leave1; walk_say "STEP leave1"; try dsimp only) | walk_at "onk" | fail "no step"))
    refine' clear_any (its := rv.toArray) ?b1 ?b2 ?b3 ?b4 ?b5 ?_
    (case b1 => k_asm)
    (case b2 => k_asm)
    (case b3 => k_updF)
    (case b4 => exact .tail _ (.tail _ (.tail _ (.tail _ (.head _)))))
    (case b5 => rw [sizeLine_eq]; simp; lia)
    intro h7 nr7 F7 N7
    dsimp only
    (repeat' (first | (k_unfold; (try dsimp only)) | (k_end; wrow_close) | ((fail_if_success (with_reducible (refine Mine.stop_here ?_ ?_; walk_at "s0"))); walk1) | (dsimp only; (fail_if_success (with_reducible (refine Mine.stop_here ?_ ?_; walk_at "s0"))); walk1) | (leave1; walk_say "STEP leave1"; try dsimp only) | walk_at "onk" | fail "no step"))
    rename News g' L' _ _ => N6
    refine PyProof.Rows.len_tuple (items := rv.toArray) ⟨_, (N6 (D', _) (.head _)).1, rfl, _, rfl⟩ (by simp; lia) ?_
    (repeat' (first | (k_unfold; (try dsimp only)) | (k_end; wrow_close) | ((fail_if_success (with_reducible (refine Mine.stop_here ?_ ?_; walk_at "s0"))); walk1) | (dsimp only; (fail_if_success (with_reducible (refine Mine.stop_here ?_ ?_; walk_at "s0"))); walk1) | (leave1; walk_say "STEP leave1"; try dsimp only) | walk_at "onk" | fail "no step"))
    rename News h₀ L _ _ => NN
    have ez : (rv.toArray.size : Int) = (rs.length : Int) := by simp [hlp]
    rw [ez] at NN
    refine ret _ _ D' srt' _ nr7 (by k_asm) NN Nd1 P1 ?_
    · intro p hp
      simp only [List.mem_cons] at hp
      rcases hp with h | h | h | h | h
      · subst h; exact Nat.ne_of_lt q1
      · subst h; exact Nat.ne_of_lt q2
      · subst h; exact Nat.ne_of_lt q3
      · subst h; exact Nat.ne_of_lt q4
      · exact hx p (.tail _ (.tail _ (.tail _ (.tail _ h))))
  case t4 =>
    rintro i v m₁ news₁ h₁ tk₁ own hv ⟨u, rfl, srt', rfl, Nd1, e1⟩ dis F1 N1
    have hil : i < rs.length := by rw [← hlp]; exact (List.getElem?_eq_some_iff.mp hv).1
    obtain ⟨t0, ht0⟩ := hi.get i rs[i] (List.getElem?_eq_getElem hil)
    obtain rfl : v = .int rs[i] t0 := Option.some.inj (hv.symm.trans ht0)
    have ht : rs.take (i + 1) = rs.take i ++ [rs[i]] := by simp
    have hk0 : rs[i] ∈ keys := hrs _ (List.getElem_mem hil)
    have N2 : News g' L' h₁ (((x, instObj 151 dx) :: (dx, dictOf (sEs w (.ref d) (.ref r) (.int po tpo) nf t1 t2 t3 t4) 4) :: (d, od) :: (r, listOf rv.toArray nr) :: (own ++ rest)) ++ srt') := fun p hp => N1 p (by
      refine led_go hp ?_
      walk_at "led")
    clear N1
    have P1 := P.of_keys e1
    have fr0 : ∀ p ∈ (x, instObj 151 dx) :: (dx, dictOf (sEs w (.ref d) (.ref r) (.int po tpo) nf t1 t2 t3 t4) 4) :: (d, od) :: (r, listOf rv.toArray nr) :: (own ++ rest), ∀ q ∈ srt', p.1 ≠ q.1 := P1.front4 fun p hp q hq => dis p hp q (by simp [hq])
    (repeat' (first | (k_unfold; (try dsimp only)) | (k_end; wrow_close) | ((fail_if_success (with_reducible (refine Mine.stop_here ?_ ?_; first | walk_at "s0" | exact Mine.p7 | exact Mine.p8 | exact Mine.p9 | exact Mine.p10))); walk1) | (dsimp only; (fail_if_success (with_reducible (refine Mine.stop_here ?_ ?_; first | walk_at "s0" | exact Mine.p7 | exact Mine.p8 | exact Mine.p9 | exact Mine.p10))); walk1) | (leave1; walk_say "STEP leave1"; try dsimp only) | walk_at "onk" | fail "no step"))
    refine' kda_item (kvs := kvsOf keys nA) (k := rs[i]) (knd := intKind PG w) ?b1 ?b2 D ?b3 (kvs_some hk0) ?_
    (case b1 => k_asm)
    (case b2 => exact .tail _ (.tail _ (.head _)))
    (case b3 => simp [intKind, Value.isInt])
    (repeat' (first | (k_unfold; (try dsimp only)) | (k_end; wrow_close) | ((fail_if_success (with_reducible (refine Mine.stop_here ?_ ?_; first | walk_at "s0" | exact Mine.p7 | exact Mine.p8 | exact Mine.p9 | exact Mine.p10))); walk1) | (dsimp only; (fail_if_success (with_reducible (refine Mine.stop_here ?_ ?_; first | walk_at "s0" | exact Mine.p7 | exact Mine.p8 | exact Mine.p9 | exact Mine.p10))); walk1) | (leave1; walk_say "STEP leave1"; try dsimp only) | walk_at "onk" | fail "no step"))
    refine' np_set (fr := (x, _) :: (dx, _) :: (d, _) :: (r, _) :: (own ++ rest)) (srt := srt') ?b1 ?b2 ?b3 Nd1 hk0 fr0 ?_
    (case b1 => k_asm)
    (case b2 => k_asm)
    (case b3 => k_asm)
    intro h8 srt8 F8 N8 Nd8 e8 _
    (repeat' (first | (k_unfold; (try dsimp only)) | (k_end; wrow_close) | ((fail_if_success (with_reducible (refine Mine.stop_here ?_ ?_; first | walk_at "s0" | exact Mine.p7 | exact Mine.p8 | exact Mine.p9 | exact Mine.p10))); walk1) | (dsimp only; (fail_if_success (with_reducible (refine Mine.stop_here ?_ ?_; first | walk_at "s0" | exact Mine.p7 | exact Mine.p8 | exact Mine.p9 | exact Mine.p10))); walk1) | (leave1; walk_say "STEP leave1"; try dsimp only) | walk_at "onk" | fail "no step"))
    have eo : outAll np (rs.take (i + 1)) = upd (outAll np (rs.take i)) rs[i] (-1) := by unfold outAll; rw [ht, List.foldl_append]; rfl
    refine ⟨h8, _, _, (x, instObj 151 dx) :: (dx, dictOf (sEs w (.ref d) (.ref r) (.int po tpo) nf t1 t2 t3 t4) 4) :: (d, od) :: (r, listOf rv.toArray nr) :: (rest ++ srt8), rfl, F8, ?_, ?_, ⟨_, again1, srt8, rfl, ?_, e8.trans e1⟩⟩
    · exact fun p hp => N8 p (by
        refine led_go hp ?_
        walk_at "led")
    · intro p hp
      exact keep_dis (dis p hp) e8
    · rw [eo]; exact Nd8
end
section
set_option maxHeartbeats 8000000
local macro_rules | `(tactic| walk_at "eval Name") => `(tactic| walk_at "evL")
noncomputable def dec1 (st : (Int → Int) × List Int) (j : Int) : (Int → Int) × List Int := (upd st.1 j (st.1 j - 1), if st.1 j - 1 = 0 then st.2 ++ [j] else st.2)
noncomputable def decs (st : (Int → Int) × List Int) (js : List Int) : (Int → Int) × List Int := js.foldl dec1 st
noncomputable def doneOne (succ : Int → List Int) (st : (Int → Int) × List Int) (k : Int) : (Int → Int) × List Int := decs (upd st.1 k (-2), st.2) (succ k)
noncomputable def doneAll (succ : Int → List Int) (st : (Int → Int) × List Int) (ks : List Int) : (Int → Int) × List Int := ks.foldl (doneOne succ) st
theorem decs_len (js : List Int) : ∀ st : (Int → Int) × List Int, (decs st js).2.length ≤ st.2.length + js.length := by
  induction js with
  | nil => intro st; simp [decs]
  | cons j r ih =>
    intro st
    have h1 := ih (dec1 st j)
    have h2 : (dec1 st j).2.length ≤ st.2.length + 1 := by
      unfold dec1; split <;> simp
    show (decs (dec1 st j) r).2.length ≤ _
    simp only [List.length_cons]; lia
theorem doneAll_len {succ : Int → List Int} {b : Nat} (hb : ∀ k, (succ k).length ≤ b) (ks : List Int) : ∀ st : (Int → Int) × List Int, (doneAll succ st ks).2.length ≤ st.2.length + ks.length * b := by
  induction ks with
  | nil => intro st; simp [doneAll]
  | cons k r ih =>
    intro st
    have h1 := ih (doneOne succ st k)
    have h2 : (doneOne succ st k).2.length ≤ st.2.length + b := by
      have h3 := decs_len (succ k) (upd st.1 k (-2), st.2)
      have h4 := hb k
      unfold doneOne
      have h5 : ((upd st.1 k (-2), st.2) : (Int → Int) × List Int).2.length = st.2.length := rfl
      lia
    show (doneAll succ (doneOne succ st k) r).2.length ≤ _
    simp only [List.length_cons, Nat.add_mul, Nat.one_mul]; lia
theorem doneT {w : World} {dp un : Nat} {gd : Option (List Code)} {cn : Str} {cs : Scope} {a : Addr} {ccd : Value} {cl : List (Str × Addr)} {outer : List Env} {A₀ : Around} {base h₀ : Heap} {L : Addr} {m mg mb : Str → Option Value} {mean : ExcName → Option Value} {s : Shared} {Q E : Value → Shared → Prop} {x dx d r : Addr} {od : Obj} {t1 t2 t3 t4 tnf : Tok} {po : Value} {nf : Int} {nr : Nat} {rest srt : List (Addr × Obj)} {nA dA sA : Int → Addr} {keys : List Int} {np : Int → Int} {succ : Int → List Int} {rv pv : List Value} {rs ks : List Int}
    (B : Below A₀ base outer h₀) (F : Fr h₀ L s.heap m) (X : (Mine.hd.heap_1 w.params).In h₀) (T : TP mean mg mb h₀) (hk : cs.kind = .function) (hd : dp + 6 < recursionLimit) (hu : un + 48 < cLine)
    (N : News h₀ L s.heap ((x, instObj 151 dx) :: (dx, dictOf (sEs w (.ref d) (.ref r) po (.int nf tnf) t1 t2 t3 t4) 4) :: (d, od) :: (r, listOf rv.toArray nr) :: (rest ++ srt))) (hdm : (d == sysModules) = false)
    (D : od.IsDictOf (intKind PG w) (kvsOf keys nA)) (Nd : Nodes nA dA sA keys np succ srt) (P : Apart4 x dx d r rest srt) (hi : IntsAre rv rs) (hj : IntsAre pv ks) (hpl : pv.length ≤ 4) (hks : ∀ k ∈ ks, k ∈ keys) (hsk : ∀ k ∈ keys, ∀ j ∈ succ k, j ∈ keys)
    (hok : ∀ i (h : i < ks.length), (doneAll succ (np, rs) (ks.take i)).1 ks[i] = -1) (hsl : ∀ k, (succ k).length ≤ 100) (hrl : rs.length ≤ 100)
    (ret : ∀ h' tk' srt' tnf' nr' rv', Fr h₀ L h' m → News h₀ L h' ((x, instObj 151 dx) :: (dx, dictOf (sEs w (.ref d) (.ref r) po (.int (nf + ks.length) tnf') t1 t2 t3 t4) 4) :: (d, od) :: (r, listOf rv'.toArray nr') :: (rest ++ srt')) →
      IntsAre rv' (doneAll succ (np, rs) ks).2 → Nodes nA dA sA keys (doneAll succ (np, rs) ks).1 succ srt' → Apart4 x dx d r rest srt' → Q .none { s with heap := h', toks := tk' }) :
    wpAny (model PG w) (ktrTop dp un gd cn cs L a ccd cl outer) (call (.ref 134) (.ref x :: pv)) Q E s := by
  have hlp := hj.length
  refine wpAny_call ?_
  k_dflt (refine' kp_rest (vs := pv) (g₁ := fun D => some [(Str.ofString "self", .ref x), (Str.ofString "nodes", .ref D)]) (binds := fun D => [(Str.ofString "self", .ref x), (Str.ofString "nodes", .ref D)]) ?k1 ?k2 ?k3 ?k4 ?k5 ?kA ?kF ?kK ?k6 ?k7 ?k8 ?kV ?kP ?kG ?kB ?_ ?c2 ?c3 ?c4 ?c5; (case kA => exact rfl); (case kF => exact rfl); (case kK => first | exact rfl | assumption); (case k1 => k_asm); (case k2 => k_asm); (case k3 => k_asm); (case k4 => exact N); (case k5 => k_asm); (case k6 => k_is); (case k7 => k_is); (case k8 => k_room); (case kV => exact rfl); (case kP => rcases pv with _ | ⟨v1, _ | ⟨v2, _ | ⟨v3, _ | ⟨v4, _ | ⟨v5, r5⟩⟩⟩⟩⟩; exact rfl; exact rfl; exact rfl; exact rfl; exact rfl; exact absurd hpl (by simp)); (case kG => exact fun _ => rfl); (case kB => exact fun _ => locs rfl); (case c5 => decide); (case c2 => exact rfl); (case c3 => exact rfl); (case c4 => exact rfl); k_whole; intro D' g' L' h' l1 FG' F' N' B' X' T'; (try dsimp only); (try k_fold))
  have l2 := List.forall_mem_cons.mp l1
  have l3 := List.forall_mem_cons.mp l2.2
  have l4 := List.forall_mem_cons.mp l3.2
  have l5 := List.forall_mem_cons.mp l4.2
  have q1 : @LT.lt Nat _ x D' := l2.1
  have q2 : @LT.lt Nat _ dx D' := l3.1
  have q3 : @LT.lt Nat _ d D' := l4.1
  have q4 : @LT.lt Nat _ r D' := l5.1
  have q5 := P.xdx
  have q6 := P.xd
  have q7 := P.dxd
  have q8 := P.xr
  have q9 := P.dxr
  have q10 := P.dr
  (repeat' (first | (k_unfold; (try dsimp only)) | (k_end; wrow_close) | ((fail_if_success (with_reducible (refine Mine.stop_here ?_ ?_; walk_at "s0"))); walk1) | (dsimp only; (fail_if_success (with_reducible (refine Mine.stop_here ?_ ?_; walk_at "s0"))); walk1) | (leave1; walk_say "STEP leave1"; try dsimp only) | walk_at "onk" | fail "no step"))
  refine For_turns (by k_asm) ?_
  (repeat' (first | (k_unfold; (try dsimp only)) | (k_end; wrow_close) | ((fail_if_success (with_reducible (refine Mine.stop_here ?_ ?_; walk_at "s0"))); walk1) | (dsimp only; (fail_if_success (with_reducible (refine Mine.stop_here ?_ ?_; walk_at "s0"))); walk1) | (leave1; walk_say "STEP leave1"; try dsimp only) | walk_at "onk" | fail "no step"))
  rename News g' L' _ _ => N8
  refine turns_tuple (news₀ := (x, instObj 151 dx) :: (dx, dictOf (sEs w (.ref d) (.ref r) po (.int nf tnf) t1 t2 t3 t4) 4) :: (d, od) :: (r, listOf rv.toArray nr) :: (rest ++ srt)) (vs := pv) (nv := 0)
    (fun i m' nw => m' (Str.ofString "self") = some (.ref x) ∧ m' (Str.ofString "n2i") = some (.ref d) ∧
      (Ex4 fun srt' tnf' nr' rv' => Cj4 (nw = (x, instObj 151 dx) :: (dx, dictOf (sEs w (.ref d) (.ref r) po (.int (nf + i) tnf') t1 t2 t3 t4) 4) :: (d, od) :: (r, listOf rv'.toArray nr') :: (rest ++ srt')) (IntsAre rv' (doneAll succ (np, rs) (ks.take i)).2) (Nodes nA dA sA keys (doneAll succ (np, rs) (ks.take i)).1 succ srt') (srt'.map (·.1) = srt.map (·.1)))) rfl (by k_asm) N8 ?t2 ?t3 ?t4 ?t5
  case t2 => exact fun p hp => Nat.ne_of_lt (l1 p hp)
  case t3 => exact ⟨rfl, rfl, srt, tnf, nr, rv, by simp, hi, Nd, rfl⟩
  case t5 =>
    rintro m' news' h' tk ⟨hm1, hm2, srt', tnf', nr', rv', rfl, hi1, Nd1, e1⟩ F1 N1 hx
    rw [hlp, List.take_length] at hi1 Nd1
    rw [hlp] at N1
    (repeat' (first | (k_unfold; (try dsimp only)) | (k_end; wrow_close) | ((fail_if_success (with_reducible (refine Mine.stop_here ?_ ?_; walk_at "s0"))); walk1) | (dsimp only; (fail_if_success (with_reducible (refine Mine.stop_here ?_ ?_; walk_at "s0"))); walk1) | (leave1; walk_say "STEP leave1"; try dsimp only) | walk_at "onk" | fail "no step"))
    rename News h₀ L _ _ => NN
    exact ret _ _ srt' tnf' nr' rv' (by k_asm) (fun p hp => NN p (.tail _ hp)) hi1 Nd1 (P.of_keys e1)
  case t4 =>
    rintro i v m₁ news₁ h₁ tk₁ own hv ⟨hm1, hm2, srt', tnf', nr', rv', rfl, hi1, Nd1, e1⟩ dis F1 N1
    have hil : i < ks.length := by rw [← hlp]; exact (List.getElem?_eq_some_iff.mp hv).1
    obtain ⟨t0, ht0⟩ := hj.get i ks[i] (List.getElem?_eq_getElem hil)
    obtain rfl : v = .int ks[i] t0 := Option.some.inj (hv.symm.trans ht0)
    have ht : ks.take (i + 1) = ks.take i ++ [ks[i]] := by simp
    have hk0 : ks[i] ∈ keys := hks _ (List.getElem_mem hil)
    have N2 : News g' L' h₁ ((x, instObj 151 dx) :: (dx, dictOf (sEs w (.ref d) (.ref r) po (.int (nf + i) tnf') t1 t2 t3 t4) 4) :: (d, od) :: (r, listOf rv'.toArray nr') :: ((own ++ rest) ++ srt')) := fun p hp => N1 p (by
      refine led_go hp ?_
      walk_at "led")
    clear N1
    have P1 := P.of_keys e1
    (repeat' (first | (k_unfold; (try dsimp only)) | (k_end; wrow_close) | ((fail_if_success (with_reducible (refine Mine.stop_here ?_ ?_; walk_at "s0"))); walk1) | (dsimp only; (fail_if_success (with_reducible (refine Mine.stop_here ?_ ?_; walk_at "s0"))); walk1) | (leave1; walk_say "STEP leave1"; try dsimp only) | walk_at "onk" | fail "no step"))
    refine' kdg_get1 (kvs := kvsOf keys nA) (k := ks[i]) (knd := intKind PG w) ?n1 ?n2 D ?n3 ?n4 (some (.ref (nA ks[i]))) (kvs_some hk0) ?_
    (case n1 => k_asm)
    (case n2 => exact .tail _ (.tail _ (.head _)))
    (case n3 => exact hdm)
    (case n4 => simp [intKind, Value.isInt])
    dsimp only [Option.getD]
    (repeat' (first | (k_unfold; (try dsimp only)) | (k_end; wrow_close) | ((fail_if_success (with_reducible (refine Mine.stop_here ?_ ?_; first | walk_at "s0" | exact Mine.p7 | exact Mine.p8 | exact Mine.p9 | exact Mine.p10))); walk1) | (dsimp only; (fail_if_success (with_reducible (refine Mine.stop_here ?_ ?_; first | walk_at "s0" | exact Mine.p7 | exact Mine.p8 | exact Mine.p9 | exact Mine.p10))); walk1) | (leave1; walk_say "STEP leave1"; try dsimp only) | walk_at "onk" | fail "no step"))
    refine' np_get (fr := (x, _) :: (dx, _) :: (d, _) :: (r, _) :: (own ++ rest)) (srt := srt') ?b1 ?b2 ?b3 Nd1 hk0 ?_
    (case b1 => k_asm)
    (case b2 => k_asm)
    (case b3 => k_asm)
    intro t9
    rw [hok i hil]
    (repeat' (first | (k_unfold; (try dsimp only)) | (k_end; wrow_close) | ((fail_if_success (with_reducible (refine Mine.stop_here ?_ ?_; first | walk_at "s0" | exact Mine.p7 | exact Mine.p8 | exact Mine.p9 | exact Mine.p10))); walk1) | (dsimp only; (fail_if_success (with_reducible (refine Mine.stop_here ?_ ?_; first | walk_at "s0" | exact Mine.p7 | exact Mine.p8 | exact Mine.p9 | exact Mine.p10))); walk1) | (leave1; walk_say "STEP leave1"; try dsimp only) | walk_at "onk" | fail "no step"))
    have fr0 : ∀ p ∈ (x, instObj 151 dx) :: (dx, dictOf (sEs w (.ref d) (.ref r) po (.int (nf + i) tnf') t1 t2 t3 t4) 4) :: (d, od) :: (r, listOf rv'.toArray nr') :: (own ++ rest), ∀ q ∈ srt', p.1 ≠ q.1 := P1.front4 fun p hp q hq => dis p hp q (by simp [hq])
    refine' np_set (fr := (x, _) :: (dx, _) :: (d, _) :: (r, _) :: (own ++ rest)) (srt := srt') ?b1 ?b2 ?b3 Nd1 hk0 fr0 ?_
    (case b1 => k_asm)
    (case b2 => k_asm)
    (case b3 => k_asm)
    intro h8 srt8 F8 N8 Nd8 e8 k8
    have P8 := P1.of_keys e8
    (repeat' (first | (k_unfold; (try dsimp only)) | (k_end; wrow_close) | ((fail_if_success (with_reducible (refine Mine.stop_here ?_ ?_; first | walk_at "s0" | exact Mine.p7 | exact Mine.p8 | exact Mine.p9 | exact Mine.p10))); walk1) | (dsimp only; (fail_if_success (with_reducible (refine Mine.stop_here ?_ ?_; first | walk_at "s0" | exact Mine.p7 | exact Mine.p8 | exact Mine.p9 | exact Mine.p10))); walk1) | (leave1; walk_say "STEP leave1"; try dsimp only) | walk_at "onk" | fail "no step"))
    refine For_turns (by k_asm) ?_
    (repeat' (first | (k_unfold; (try dsimp only)) | (k_end; wrow_close) | ((fail_if_success (with_reducible (refine Mine.stop_here ?_ ?_; first | walk_at "s0" | exact Mine.p7 | exact Mine.p8 | exact Mine.p9 | exact Mine.p10))); walk1) | (dsimp only; (fail_if_success (with_reducible (refine Mine.stop_here ?_ ?_; first | walk_at "s0" | exact Mine.p7 | exact Mine.p8 | exact Mine.p9 | exact Mine.p10))); walk1) | (leave1; walk_say "STEP leave1"; try dsimp only) | walk_at "onk" | fail "no step"))
    refine' succ_get (fr := (x, _) :: (dx, _) :: (d, _) :: (r, _) :: (own ++ rest)) (srt := srt8) ?b1 ?b2 ?b3 Nd8 hk0 ?_
    (case b1 => k_asm)
    (case b2 => k_asm)
    (case b3 => k_asm)
    dsimp only
    obtain ⟨sv, nn, hsv, hms⟩ := Nd8.list ks[i] hk0
    have hls := hsv.length
    refine turns_listIn (news₀ := (x, instObj 151 dx) :: (dx, dictOf (sEs w (.ref d) (.ref r) po (.int (nf + i) tnf') t1 t2 t3 t4) 4) :: (d, od) :: (r, listOf rv'.toArray nr') :: ((own ++ rest) ++ srt8)) (vs := sv) (nv := nn)
      (fun j m' nw => m' (Str.ofString "self") = some (.ref x) ∧ m' (Str.ofString "n2i") = some (.ref d) ∧
        (Ex3 fun srt2 nr2 rv2 => Cj5 (nw = (x, instObj 151 dx) :: (dx, dictOf (sEs w (.ref d) (.ref r) po (.int (nf + i) tnf') t1 t2 t3 t4) 4) :: (d, od) :: (r, listOf rv2.toArray nr2) :: ((own ++ rest) ++ srt2)) (IntsAre rv2 (decs (upd (doneAll succ (np, rs) (ks.take i)).1 ks[i] (-2), (doneAll succ (np, rs) (ks.take i)).2) ((succ ks[i]).take j)).2) (Nodes nA dA sA keys (decs (upd (doneAll succ (np, rs) (ks.take i)).1 ks[i] (-2), (doneAll succ (np, rs) (ks.take i)).2) ((succ ks[i]).take j)).1 succ srt2) (srt2.map (·.1) = srt.map (·.1)) ((sA ks[i], listOf sv.toArray nn) ∈ srt2))) rfl (by k_asm) (by k_asm) ?s1 ?s2 ?s3 ?s4
    case s1 =>
      rintro j m' nw ⟨_, _, srt2, nr2, rv2, rfl, _, _, _, hmm⟩
      exact .tail _ (.tail _ (.tail _ (.tail _ (List.mem_append_right _ hmm))))
    case s2 => exact ⟨hm1, hm2, srt8, nr', rv', rfl, hi1, Nd8, e8.trans e1, hms⟩
    case s4 =>
      rintro m' news' h' tk ⟨hm1', hm2', srt2, nr2, rv2, rfl, hi2, Nd2, e2, hmm⟩ F2 N2'
      rw [hls, List.take_length] at hi2 Nd2
      have P2 := P.of_keys e2
      have z2 : ∀ p ∈ (own ++ rest) ++ srt2, p.1 ≠ dx := fun p hp => by
        rw [List.append_assoc] at hp
        rcases List.mem_append.mp hp with h | h
        · exact dis p h _ (.tail _ (.head _))
        · exact (P2.tl p h).2.1
      (repeat' (first | (k_unfold; (try dsimp only)) | (k_end; wrow_close) | ((fail_if_success (with_reducible (refine Mine.stop_here ?_ ?_; walk_at "s0"))); walk1) | (dsimp only; (fail_if_success (with_reducible (refine Mine.stop_here ?_ ?_; walk_at "s0"))); walk1) | (leave1; walk_say "STEP leave1"; try dsimp only) | walk_at "onk" | fail "no step"))
      rename News g' L' _ _ => N5
      rw [show nf + (i : Int) + 1 = nf + ((i + 1 : Nat) : Int) by lia] at N5
      have ed : doneAll succ (np, rs) (ks.take (i + 1)) = decs (upd (doneAll succ (np, rs) (ks.take i)).1 ks[i] (-2), (doneAll succ (np, rs) (ks.take i)).2) (succ ks[i]) := by unfold doneAll; rw [ht, List.foldl_append]; rfl
      obtain ⟨tz, Nz⟩ : ∃ tz, News g' L' _ ((x, instObj 151 dx) :: (dx, dictOf (sEs w (.ref d) (.ref r) po (.int (nf + ((i + 1 : Nat) : Int)) tz) t1 t2 t3 t4) 4) :: (d, od) :: (r, listOf rv2.toArray nr2) :: ((own ++ rest) ++ srt2)) := ⟨_, N5⟩
      refine ⟨_, _, m', (x, instObj 151 dx) :: (dx, dictOf (sEs w (.ref d) (.ref r) po (.int (nf + ((i + 1 : Nat) : Int)) tz) t1 t2 t3 t4) 4) :: (d, od) :: (r, listOf rv2.toArray nr2) :: (rest ++ srt2), rfl, by k_asm, fun p hp => Nz p ?_, fun p hp => keep_dis (dis p hp) (e2.trans e1.symm), hm1', hm2', srt2, tz, nr2, rv2, rfl, ?_, ?_, e2⟩
      · refine led_go hp ?_
        walk_at "led"
      · rw [ed]; exact hi2
      · rw [ed]; exact Nd2
    case s3 =>
      rintro j v2 m₂ news₂ h₂ tk₂ I oI hv2 ⟨hm1', hm2', srt2, nr2, rv2, rfl, hi2, Nd2, e2, hmm⟩ hq F2 N3
      have hjl : j < (succ ks[i]).length := by rw [← hls]; exact (List.getElem?_eq_some_iff.mp hv2).1
      obtain ⟨t7, ht7⟩ := hsv.get j (succ ks[i])[j] (List.getElem?_eq_getElem hjl)
      obtain rfl : v2 = .int (succ ks[i])[j] t7 := Option.some.inj (hv2.symm.trans ht7)
      have htj : (succ ks[i]).take (j + 1) = (succ ks[i]).take j ++ [(succ ks[i])[j]] := by simp
      have hj0 : (succ ks[i])[j] ∈ keys := hsk _ hk0 _ (List.getElem_mem hjl)
      generalize hst : decs (upd (doneAll succ (np, rs) (ks.take i)).1 ks[i] (-2), (doneAll succ (np, rs) (ks.take i)).2) ((succ ks[i]).take j) = st at *
      have ed : decs (upd (doneAll succ (np, rs) (ks.take i)).1 ks[i] (-2), (doneAll succ (np, rs) (ks.take i)).2) ((succ ks[i]).take (j + 1)) = dec1 st (succ ks[i])[j] := by rw [← hst]; unfold decs; rw [htj, List.foldl_append]; rfl
      have hrv : rv2.length ≤ 900 := by
        have h1 := doneAll_len hsl (ks.take i) (np, rs)
        have h2 := decs_len ((succ ks[i]).take j) (upd (doneAll succ (np, rs) (ks.take i)).1 ks[i] (-2), (doneAll succ (np, rs) (ks.take i)).2)
        have h3 := List.length_take_le i ks
        have h4 := List.length_take_le j (succ ks[i])
        have h5 := hsl ks[i]
        have h6 := hi2.length
        have h7 : (ks.take i).length ≤ 4 := by lia
        have h8 : (ks.take i).length * 100 ≤ 4 * 100 := Nat.mul_le_mul_right _ h7
        rw [hst] at h2
        dsimp only at h1 h2
        lia
      have P2 := P.of_keys e2
      have i1 : @Ne Nat I x := hq _ (.head _)
      have i2 : @Ne Nat I dx := hq _ (.tail _ (.head _))
      have i3 : @Ne Nat I d := hq _ (.tail _ (.tail _ (.head _)))
      have i4 : @Ne Nat I r := hq _ (.tail _ (.tail _ (.tail _ (.head _))))
      have N4 : News g' L' h₂ ((x, instObj 151 dx) :: (dx, dictOf (sEs w (.ref d) (.ref r) po (.int (nf + i) tnf') t1 t2 t3 t4) 4) :: (d, od) :: (r, listOf rv2.toArray nr2) :: (I, oI) :: ((own ++ rest) ++ srt2)) := fun p hp => N3 p (by
        refine led_go hp ?_
        walk_at "led")
      clear N3
      have fr2 : ∀ p ∈ (x, instObj 151 dx) :: (dx, dictOf (sEs w (.ref d) (.ref r) po (.int (nf + i) tnf') t1 t2 t3 t4) 4) :: (d, od) :: (r, listOf rv2.toArray nr2) :: (((I, oI) :: own) ++ rest), ∀ q ∈ srt2, p.1 ≠ q.1 := P2.front4 fun p hp q hq' => by
        rcases List.mem_cons.mp hp with h | h
        · subst h; exact hq q (.tail _ (.tail _ (.tail _ (.tail _ (List.mem_append_right _ hq')))))
        · exact fr_srt (fun p hp q hq => dis p hp q (by simp [hq])) (e2.trans e1.symm) p h q hq'
      (repeat' (first | (k_unfold; (try dsimp only)) | (k_end; wrow_close) | ((fail_if_success (with_reducible (refine Mine.stop_here ?_ ?_; first | walk_at "s0" | exact Mine.p7 | exact Mine.p8 | exact Mine.p9 | exact Mine.p10))); walk1) | (dsimp only; (fail_if_success (with_reducible (refine Mine.stop_here ?_ ?_; first | walk_at "s0" | exact Mine.p7 | exact Mine.p8 | exact Mine.p9 | exact Mine.p10))); walk1) | (leave1; walk_say "STEP leave1"; try dsimp only) | walk_at "onk" | fail "no step"))
      refine' kda_item (kvs := kvsOf keys nA) (k := (succ ks[i])[j]) (knd := intKind PG w) ?b1 ?b2 D ?b3 (kvs_some hj0) ?_
      (case b1 => k_asm)
      (case b2 => exact .tail _ (.tail _ (.head _)))
      (case b3 => simp [intKind, Value.isInt])
      (repeat' (first | (k_unfold; (try dsimp only)) | (k_end; wrow_close) | ((fail_if_success (with_reducible (refine Mine.stop_here ?_ ?_; first | walk_at "s0" | exact Mine.p7 | exact Mine.p8 | exact Mine.p9 | exact Mine.p10))); walk1) | (dsimp only; (fail_if_success (with_reducible (refine Mine.stop_here ?_ ?_; first | walk_at "s0" | exact Mine.p7 | exact Mine.p8 | exact Mine.p9 | exact Mine.p10))); walk1) | (leave1; walk_say "STEP leave1"; try dsimp only) | walk_at "onk" | fail "no step"))
      refine' np_get (fr := (x, _) :: (dx, _) :: (d, _) :: (r, _) :: (((I, oI) :: own) ++ rest)) (srt := srt2) ?b1 ?b2 ?b3 Nd2 hj0 ?_
      (case b1 => k_asm)
      (case b2 => k_asm)
      (case b3 => k_asm)
      intro t5
      (repeat' (first | (k_unfold; (try dsimp only)) | (k_end; wrow_close) | ((fail_if_success (with_reducible (refine Mine.stop_here ?_ ?_; first | walk_at "s0" | exact Mine.p7 | exact Mine.p8 | exact Mine.p9 | exact Mine.p10))); walk1) | (dsimp only; (fail_if_success (with_reducible (refine Mine.stop_here ?_ ?_; first | walk_at "s0" | exact Mine.p7 | exact Mine.p8 | exact Mine.p9 | exact Mine.p10))); walk1) | (leave1; walk_say "STEP leave1"; try dsimp only) | walk_at "onk" | fail "no step"))
      refine' np_set (fr := (x, _) :: (dx, _) :: (d, _) :: (r, _) :: (((I, oI) :: own) ++ rest)) (srt := srt2) ?b1 ?b2 ?b3 Nd2 hj0 fr2 ?_
      (case b1 => k_asm)
      (case b2 => k_asm)
      (case b3 => k_asm)
      intro h6 srt6 F6 N6 Nd6 e6 k6
      simp only [List.cons_append] at N6
      have P6 := P2.of_keys e6
      (repeat' (first | (k_unfold; (try dsimp only)) | (k_end; wrow_close) | ((fail_if_success (with_reducible (refine Mine.stop_here ?_ ?_; first | walk_at "s0" | exact Mine.p7 | exact Mine.p8 | exact Mine.p9 | exact Mine.p10))); walk1) | (dsimp only; (fail_if_success (with_reducible (refine Mine.stop_here ?_ ?_; first | walk_at "s0" | exact Mine.p7 | exact Mine.p8 | exact Mine.p9 | exact Mine.p10))); walk1) | (leave1; walk_say "STEP leave1"; try dsimp only) | walk_at "onk" | fail "no step"))
      refine' np_get (fr := (x, _) :: (dx, _) :: (d, _) :: (r, _) :: (((I, oI) :: own) ++ rest)) (srt := srt6) ?b1 ?b2 ?b3 Nd6 hj0 ?_
      (case b1 => k_asm)
      (case b2 => k_asm)
      (case b3 => k_asm)
      intro t6
      rw [upd_self]
      have z3 : ∀ p ∈ (own ++ rest) ++ srt6, p.1 ≠ r := fun p hp => by
        rw [List.append_assoc] at hp
        rcases List.mem_append.mp hp with h | h
        · exact dis p h _ (.tail _ (.tail _ (.tail _ (.head _))))
        · exact P6.tlr p h
      have hmm6 : (sA ks[i], listOf sv.toArray nn) ∈ srt6 := k6 _ hmm (Ne.symm (Nd2.nA_sA hj0 hk0))
      have fin : ∀ (h' : Heap) (tk' : Nat) (mm : Str → Option Value) (rv3 : List Value) (nr3 : Nat), mm (Str.ofString "self") = some (.ref x) → mm (Str.ofString "n2i") = some (.ref d) → Fr g' L' h' mm →
          News g' L' h' ((x, instObj 151 dx) :: (dx, dictOf (sEs w (.ref d) (.ref r) po (.int (nf + i) tnf') t1 t2 t3 t4) 4) :: (d, od) :: (r, listOf rv3.toArray nr3) :: (I, oI) :: ((own ++ rest) ++ srt6)) → IntsAre rv3 (dec1 st (succ ks[i])[j]).2 →
          (Ex4 fun h'' tk m' news' => Cj5 (({ s with heap := h', toks := tk' } : Shared) = { { s with heap := h₂, toks := tk₂ } with heap := h'', toks := tk }) (Fr g' L' h'' m') (News g' L' h'' ([(I, oI)] ++ news')) ((∀ p ∈ [(I, oI)], ∀ q ∈ news', p.1 ≠ q.1)) ((m' (Str.ofString "self") = some (.ref x) ∧ m' (Str.ofString "n2i") = some (.ref d) ∧
              (Ex3 fun srt2 nr2 rv2 => Cj5 (news' = (x, instObj 151 dx) :: (dx, dictOf (sEs w (.ref d) (.ref r) po (.int (nf + i) tnf') t1 t2 t3 t4) 4) :: (d, od) :: (r, listOf rv2.toArray nr2) :: ((own ++ rest) ++ srt2)) (IntsAre rv2 (decs (upd (doneAll succ (np, rs) (ks.take i)).1 ks[i] (-2), (doneAll succ (np, rs) (ks.take i)).2) ((succ ks[i]).take (j + 1))).2) (Nodes nA dA sA keys (decs (upd (doneAll succ (np, rs) (ks.take i)).1 ks[i] (-2), (doneAll succ (np, rs) (ks.take i)).2) ((succ ks[i]).take (j + 1))).1 succ srt2) (srt2.map (·.1) = srt.map (·.1)) ((sA ks[i], listOf sv.toArray nn) ∈ srt2))))) := by
        intro h' tk' mm rv3 nr3 a1 a2 F' N' hi3
        refine ⟨h', tk', mm, (x, instObj 151 dx) :: (dx, dictOf (sEs w (.ref d) (.ref r) po (.int (nf + i) tnf') t1 t2 t3 t4) 4) :: (d, od) :: (r, listOf rv3.toArray nr3) :: ((own ++ rest) ++ srt6), rfl, F', fun p hp => N' p ?_, fun p hp => ?_, a1, a2, srt6, nr3, rv3, rfl, by rw [ed]; exact hi3, by rw [ed]; exact Nd6, e6.trans e2, hmm6⟩
        · refine led_go hp ?_
          walk_at "led"
        · obtain rfl := List.mem_singleton.mp hp
          exact keep_dis hq e6
      (repeat' (first | (k_unfold; (try dsimp only)) | (k_end; wrow_close) | ((fail_if_success (with_reducible (refine Mine.stop_here ?_ ?_; walk_at "s0"))); walk1) | (dsimp only; (fail_if_success (with_reducible (refine Mine.stop_here ?_ ?_; walk_at "s0"))); walk1) | (leave1; walk_say "STEP leave1"; try dsimp only) | walk_at "onk" | fail "no step"))
      · rename st.1 (succ ks[i])[j] - 1 = 0 => hz
        rename News g' L' _ _ => N1
        (try rw [List.push_toArray] at N1)
        rename Fr g' L' _ _ => F5
        exact fin _ _ _ _ _ (by exact hm1') (by exact hm2') F5 N1 (by unfold dec1; rw [if_pos hz]; exact IntsAre.snoc hi2 _ _)
      · rename ¬ (st.1 (succ ks[i])[j] - 1 = 0) => hz
        rename News g' L' _ _ => N1
        rename Fr g' L' _ _ => F5
        exact fin _ _ _ rv2 nr2 (by exact hm1') (by exact hm2') F5 N1 (by unfold dec1; rw [if_neg hz]; exact hi2)
end
section
set_option maxHeartbeats 8000000
section
variable {prog : Program} {w : World} {A : Around} {E : Value → Shared → Prop} {s : Shared} {env : Env} {test : Expr} {body orelse : List Stmt} {Q : Flow → Shared → Prop}
noncomputable def WEnd (I : Nat → Shared → Prop) (n : Nat) (Q : Flow → Shared → Prop) (f : Flow) (s : Shared) : Prop :=
  match f with
  | .next => ∃ k, k < n ∧ I k s
  | .cont => ∃ k, k < n ∧ I k s
  | .brk => Q .next s
  | .ret v => Q (.ret v) s
theorem while_inv {pos : Pos} (I : Nat → Shared → Prop) (hE : PassesOwn (model prog w) A env E)
    (turn : ∀ n s, I n s → wpAny (model prog w) A (isTrue test env (eval test env)) (fun b s₂ => WhlIf b (wpAny (model prog w) A (execs body env) (WEnd I n Q) E s₂) (wpAny (model prog w) A (execs orelse env) Q E s₂)) E s)
    (n : Nat) (h : I n s) : wpAny (model prog w) A (exec (.While test body orelse pos) env) Q E s := by
  have rest : ∀ n s, I n s → WhlRest prog w A E env test body orelse Q 1 s := by
    intro n
    induction n using Nat.strongRecOn with
    | ind n ih =>
      intro s h
      refine whl_turn hE (wpAny_mono (turn n s h) (fun b s₂ h₂ => ?_) fun _ _ e => e)
      cases b with
      | false => exact h₂
      | true =>
        refine wpAny_mono (show wpAny _ _ _ _ _ _ from h₂) (fun f s₃ h₃ => ?_) fun _ _ e => e
        cases f with
        | next => obtain ⟨k, hk, hI⟩ := h₃; exact ih k hk _ hI
        | cont => obtain ⟨k, hk, hI⟩ := h₃; exact ih k hk _ hI
        | brk => exact h₃
        | ret v => exact h₃
  exact whl_start 1 (rest n s h)
end
section
variable {prog : Program} {w : World} {A : Around} {E : Value → Shared → Prop} {s : Shared} {h₀ : Heap} {L : Addr} {m : Str → Option Value} {news : List (Addr × Obj)}
noncomputable def isI (x : Int) : Value → Bool
  | .int a _ => a == x
  | _ => false
theorem ints_eq {vs : List Value} {ns : List Int} (h : IntsAre vs ns) (x : Int) (t : Tok) : ∀ y, y ∈ vs.toArray → PySem.MeetsSeq.EqGives y (.int x t) (isI x y) := by
  intro y hy
  have hy' : y ∈ vs := by simpa using hy
  clear hy
  induction h with
  | nil => exact absurd hy' List.not_mem_nil
  | cons n u _ ih =>
    rcases List.mem_cons.mp hy' with e | e
    · subst e; exact PySem.MeetsSeq.EqGives.int n x u t
    · exact ih e
theorem ints_at {vs : List Value} {ns : List Int} (h : IntsAre vs ns) (x : Int) {i : Nat} (hi : i < vs.length) (hi' : i < ns.length) : isI x vs[i] = (ns[i] == x) := by
  induction h generalizing i with
  | nil => exact absurd hi (Nat.not_lt_zero _)
  | cons n u _ ih =>
    cases i with
    | zero => rfl
    | succ i => exact ih (by simpa using hi) (by simpa using hi')
theorem ints_erase {vs : List Value} {ns : List Int} (h : IntsAre vs ns) : ∀ i, IntsAre (vs.eraseIdx i) (ns.eraseIdx i) := by
  induction h with
  | nil => intro i; exact .nil
  | cons n u h' ih =>
    intro i
    cases i with
    | zero => exact h'
    | succ i => exact .cons n u (ih i)
theorem remove_hit {D : Addr} {vb : List Value} {ys : List Int} {n : Nat} {x : Int} {t : Tok} {g : Obj → List (Addr × Obj)} {Q : Value → Shared → Prop} (F : Fr h₀ L s.heap m) (N : News h₀ L s.heap news) (U : UpdF D (listOf vb.toArray n) news g) (hm : (D, listOf vb.toArray n) ∈ news)
    (hi : IntsAre vb ys) (hx : x ∈ ys) (hz : ys.length ≤ 900)
    (h : ∀ h' n', Fr h₀ L h' m → News h₀ L h' (g (listOf (vb.eraseIdx (ys.idxOf x)).toArray n')) → IntsAre (vb.eraseIdx (ys.idxOf x)) (ys.erase x) → Q .none { s with heap := h' }) :
    wpAny (model prog w) A (call (.builtin "list.remove") [.ref D, .int x t]) Q E s := by
  have z := N _ hm
  have hlen := hi.length
  have hlt : ys.idxOf x < ys.length := List.idxOf_lt_length_of_mem hx
  have hlt' : ys.idxOf x < vb.length := by lia
  have k := upd_news F N U (mapSeq_list (fun xs => xs.eraseIdxIfInBounds (ys.idxOf x)) vb.toArray n) rfl
  have e1 : vb.toArray.eraseIdxIfInBounds (ys.idxOf x) = (vb.eraseIdx (ys.idxOf x)).toArray := by
    simp [Array.eraseIdxIfInBounds, hlt']
  have e2 : ys.erase x = ys.eraseIdx (ys.idxOf x) := by rw [List.erase_eq_eraseIdx_of_idxOf rfl]
  refine call_meets PySem.F.slot_list_remove ⟨_, z.1, rfl⟩ PySem.F.entry_list_remove (PySem.F.args_list_remove_2 _ _)
    (PySem.MeetsSeq.list_remove D vb.toArray n (.int x t) (isI x) (ints_eq hi x t) (ys.idxOf x) (by simpa using hlt') ?_ ?_ (by rw [sizeLine_eq]; simp; lia)) ⟨z.1, ?_⟩
  · have := ints_at hi x hlt' hlt
    simp only [List.getElem_toArray]
    rw [this]; simp
  · intro j hj hlt2
    have hj' : j < vb.length := by simpa using hj
    have := ints_at hi x hj' (by lia)
    simp only [List.getElem_toArray]
    rw [this]
    have q := List.not_of_lt_findIdx (p := (· == x)) (xs := ys) hlt2
    simpa using q
  · have k2 := k.2
    simp only [turned, e1] at k2
    exact h _ _ k.1 k2 (by rw [e2]; exact ints_erase hi _)
theorem remove_miss {D : Addr} {vb : List Value} {ys : List Int} {n : Nat} {x : Int} {t : Tok} {Q : Value → Shared → Prop} (hh : A.handled = none) (N : News h₀ L s.heap news) (hm : (D, listOf vb.toArray n) ∈ news)
    (hi : IntsAre vb ys) (hx : x ∉ ys)
    (h : ∀ h' tk e, Heap.NewExc s.heap h' e "ValueError" → E (.ref e) { s with heap := h', toks := tk }) :
    wpAny (model prog w) A (call (.builtin "list.remove") [.ref D, .int x t]) Q E s := by
  have z := N _ hm
  have hlen := hi.length
  refine call_meets PySem.F.slot_list_remove ⟨_, z.1, rfl⟩ PySem.F.entry_list_remove (PySem.F.args_list_remove_2 _ _)
    (PySem.MeetsSeq.list_remove_none D vb.toArray n (.int x t) (isI x) (ints_eq hi x t) ?_) ⟨z.1, hh, fun h' tk e he => h h' tk e he⟩
  intro j hj
  have hj' : j < vb.length := by simpa using hj
  have := ints_at hi x hj' (by lia)
  simp only [List.getElem_toArray]
  rw [this]
  have hne : ys[j]'(by lia) ≠ x := fun e => hx (by rw [← e]; exact List.getElem_mem _)
  simpa using hne
end
end
section
open PySem PySem.W PyProof.Rows PySem.Spec PySem.Calls
open LCg
section
variable {prog : Program} {w : World} {A : Around} {E : Value → Shared → Prop} {s : Shared} {env : Env} {h₀ : Heap} {L : Addr} {m : Str → Option Value} {news : List (Addr × Obj)}
theorem letGo_any {target : Expr} {I : Addr} {v : Value} {T : String} {Q : Unit → Shared → Prop} (ht : s.TypeIs (.ref I) T) (hT : (["enumerate", "zip", "dict_itemiterator", "dict_reverseitemiterator", "odict_iterator", "itertools.zip_longest", "itertools.pairwise"].contains T) = false) (hQ : Q () s) :
    wpAny (model prog w) A (letOwnedTupleGo target (.ref I) v) Q E s := by
  obtain ⟨o, ho, hc⟩ := ht
  have core : ∀ a, wpAny (model prog w) A (load I >>= fun o => match o.cls, o.data with
      | .type n, .fields vs =>
        if (["enumerate", "zip", "dict_itemiterator", "dict_reverseitemiterator", "odict_iterator", "itertools.zip_longest", "itertools.pairwise"].contains n && vs[0]? == some (rawInt a)) = true then (rule "for.unpacks-the-owned-tuple" >>= fun _ => updateField I 0 .none) else pure ()
      | _, _ => pure ()) Q E s := fun a => by
    refine wpAny_bind (wpAny_load ho ?_)
    rw [hc]
    split
    · rename_i n vs e1 e2
      cases e1
      rw [if_neg (by rw [hT]; simp)]
      exact wpAny_pure hQ
    · exact wpAny_pure hQ
  unfold letOwnedTupleGo
  split
  · split
    · rename_i a heq
      cases heq
      exact core _
    · exact wpAny_pure hQ
  · split
    · rename_i a heq
      cases heq
      exact core _
    · exact wpAny_pure hQ
  · exact wpAny_pure hQ
theorem src_list {ax : Addr} {its : Array Value} {k : Nat} {Q : Value → Shared → Prop} (hh : A.handled = none) (F : Fr h₀ L s.heap m) (N : News h₀ L s.heap news) (hm : (ax, listOf its k) ∈ news) (hsz : its.size ≤ sizeLine)
    (h : ∀ I h₂, CSrc prog w A h₀ L m (SrcAt h₀ ax its) (fun i v => its[i]? = some v) its.size news I h₂ → (∀ p ∈ news, p.1 < I) → Q (.ref I) { s with heap := h₂ }) : wpAny (model prog w) A (pyIter (.ref ax)) Q E s := by
  have hl : s.heap.IsList ax its := N.isList hm
  have hlt : ax < s.heap.objs.size := by obtain ⟨_, e, _⟩ := hl; exact Heap.lt_size e
  have up : ∀ b o, s.heap.get? b = some o → (s.heap.push { cls := .type "list_iterator", data := .fields #[.ref ax, .int 0 0] }).get? b = some o := fun b o e => Heap.get?_push_of_some _ e
  refine wpAny_pyIter_list hl (h _ _ ⟨⟨_, _, Walks.list hh s.heap.objs.size ax (Nat.ne_of_lt hlt) its, ?_, ?_, list_st, ⟨⟨_, Heap.get?_push_size _ rfl, rfl, rfl⟩, hl.push _⟩⟩, hsz, F.keeps up, N.grown up, ⟨Nat.ne_of_gt F.ns.lt, next_is_new F⟩, fun p hp => Nat.ne_of_lt (Heap.lt_size (N p hp).1)⟩ fun p hp => Heap.lt_size (N p hp).1)
  · intro target i v s Q E st q
    obtain ⟨o, ho, hc, _⟩ := st.1
    exact letGo_any ⟨o, ho, hc⟩ (by decide) q
  · intro i h st
    obtain ⟨o, e, _⟩ := st.1
    exact ⟨o, e⟩
theorem src_range {r : Addr} {a b : Int} {t u v : Tok} {n : Nat} {Q : Value → Shared → Prop} (hh : A.handled = none) (F : Fr h₀ L s.heap m) (N : News h₀ L s.heap news) (hr : IsRange s.heap r a b 1 t u v) (hsm : Builtin.Range.small a b 1 = true) (hn : Builtin.Range.rangeSize a b 1 = ((n : Nat) : Int)) (hsz : n ≤ sizeLine)
    (h : ∀ I h₂, CSrc prog w A h₀ L m (fun _ => True) (fun i v => ∃ t, v = .int (a + (i : Int)) t) n news I h₂ → (∀ p ∈ news, p.1 < I) → Q (.ref I) { s with heap := h₂ }) : wpAny (model prog w) A (pyIter (.ref r)) Q E s := by
  refine wpAny_pyIter_range hr hsm (h _ _ ⟨⟨_, _, range_walks hh a n, ?_, fun i h st => ⟨_, st⟩, range_st, ?_⟩, hsz, F.keeps fun _ _ e => Heap.get?_push_of_some _ e, N.grown fun _ _ e => Heap.get?_push_of_some _ e, ⟨Nat.ne_of_gt F.ns.lt, next_is_new F⟩, fun p hp => Nat.ne_of_lt (Heap.lt_size (N p hp).1)⟩ fun p hp => Heap.lt_size (N p hp).1)
  · intro target i v s Q E st q
    exact letGo_any ⟨_, st, rfl⟩ (by decide) q
  · show IsRangeIter _ _ _ _ _
    rw [hn]; simpa using Heap.get?_push_size _ rfl
variable {K : Type} [DecidableEq K] [BEq K] [LawfulBEq K] {knd : KeyKind prog w K} {kvs : List (K × Value)} {d : Addr} {o : Obj}
theorem src_values {V : Addr} {Q : Value → Shared → Prop} (hh : A.handled = none) (F : Fr h₀ L s.heap m) (N : News h₀ L s.heap news) (hp : (d, o) ∈ news) (hd : o.IsDictOf knd kvs) (hV : s.heap.IsValuesView V d) (hsz : kvs.length ≤ sizeLine)
    (h : ∀ I h₂, CSrc prog w A h₀ L m (fun nw => (d, o) ∈ nw) (fun i v => ∃ k, kvs[i]? = some (k, v)) kvs.length news I h₂ → (∀ p ∈ news, p.1 < I) → Q (.ref I) { s with heap := h₂ }) : wpAny (model prog w) A (pyIter (.ref V)) Q E s := by
  obtain ⟨ep, ha⟩ := KdkAt.of hd
  have hlt : d < s.heap.objs.size := Heap.lt_size (N _ hp).1
  refine wpAny_pyIter_values hV (ha.dictAt (N _ hp).1) (h _ _ ⟨⟨_, _, Walks.dictValues (knd := knd) hh s.heap.objs.size d (Nat.ne_of_lt hlt) kvs ep, ?_, ?_, ?_, ⟨⟨_, Heap.get?_push_size _ rfl, rfl, rfl⟩, ha.dictAt (Heap.get?_push_of_some _ (N _ hp).1)⟩⟩, hsz, F.keeps fun _ _ e => Heap.get?_push_of_some _ e, N.grown fun _ _ e => Heap.get?_push_of_some _ e, ⟨Nat.ne_of_gt F.ns.lt, next_is_new F⟩, fun p hp => Nat.ne_of_lt (Heap.lt_size (N p hp).1)⟩ fun p hp => Heap.lt_size (N p hp).1)
  · intro target i v s Q E st q
    obtain ⟨o, ho, hc, _⟩ := st.1
    exact letGo_any ⟨o, ho, hc⟩ (by decide) q
  · intro i h st
    obtain ⟨o, e, _⟩ := st.1
    exact ⟨o, e⟩
  · intro i h h' oo nw st e e' _ N' hS
    obtain ⟨o1, q1, r1⟩ := st.1
    rw [e] at q1; cases q1
    exact ⟨⟨oo, e', r1⟩, ha.dictAt (N' _ hS).1⟩
end
section
variable {prog : Program} {w : World} {A : Around} {E : Value → Shared → Prop} {s : Shared} {env : Env} {h₀ : Heap} {L : Addr} {m : Str → Option Value} {news : List (Addr × Obj)} {C : Addr} {oC : Obj} {m₂ : Str → Option Value} {g : Obj → List (Addr × Obj)} {scope : Scope} {cl : List (Str × Addr)} {Q : Unit → Shared → Prop}
theorem pair_own {T : Addr} {x y : Str} {px py tp : Pos} {k1} {u v : Value} (hh : A.handled = none)
    (F : Fr h₀ L s.heap m) (N : News h₀ L s.heap news) (U : UpdF C oC news g) (U2 : ∀ o₁, UpdF C o₁ (g o₁) g) (hT : IsTup s.heap T #[u, v]) (hC : NsObj oC m₂) (hx : scope.names.lookup x = some .local) (hy : scope.names.lookup y = some .local) (hkind : scope.kind = .function)
    (h : ∀ h' oC' tk, Fr h₀ L h' m → News h₀ L h' (g oC') → NsObj oC' (fun z => if z = y then some v else if z = x then some u else m₂ z) → Q () { s with heap := h', toks := tk }) :
    wpAny (model prog w) A (assign (.Tuple [.Name x px, .Name y py] k1 tp) (compEnvC scope cl C env) (.ref T)) Q E s := by
  refine unpackN_ F N hT hh (by with_unfolding_all rfl) (by with_unfolding_all rfl) fun h' F' N' => ?_
  show wpAny _ _ (assignInOrder [assign (.Name x px) (compEnvC scope cl C env), assign (.Name y py) (compEnvC scope cl C env)] [u, v]) _ _ _
  refine wpAny_assignInOrder_more ?_
  refine asg_own F' N' U hC hx hkind fun h2 oC2 F2 N2 hC2 => ?_
  refine wpAny_assignInOrder_more ?_
  refine asg_own F2 N2 (U2 oC2) hC2 hy hkind fun h3 oC3 F3 N3 hC3 => ?_
  exact wpAny_assignInOrder_none (h h3 oC3 _ F3 N3 hC3)
end
end
section
open PySem PySem.W PyProof.Rows PySem.Spec PySem.Calls
open LCg
section
variable {prog : Program} {w : World} {A : Around} {E : Value → Shared → Prop} {s : Shared} {env : Env} {h₀ : Heap} {L : Addr} {m : Str → Option Value} {news : List (Addr × Obj)} {C c : Addr} {g : Obj → List (Addr × Obj)} {scope : Scope} {cl : List (Str × Addr)} {Q : Unit → Shared → Prop}
theorem asg_cell {o : Obj} {v₀ : Option Value} {x : Str} {px : Pos} {v : Value}
    (F : Fr h₀ L s.heap m) (N : News h₀ L s.heap news) (U : UpdF c o news g) (hd : o.data = .cell v₀) (hc : cl.lookup x = some c) (hk : (compEnvC scope cl C env).scope.kind = .function) (hx : (compEnvC scope cl C env).kindOf x = some .cell)
    (h : ∀ h' o', Fr h₀ L h' m → News h₀ L h' (g o') → o'.data = .cell (some v) → Q () { s with heap := h' }) :
    wpAny (model prog w) A (assign (.Name x px) (compEnvC scope cl C env) v) Q E s := by
  obtain ⟨pre, post, rfl, hg, a, b⟩ := U.split
  have z := N (c, o) (List.mem_append_right _ (.head _))
  refine wpAny_assign_Name (wpAny_storeName_cell hk hx hc ⟨o, z.1, hd⟩ fun h₃ hn₃ hs₃ => ?_)
  obtain ⟨o', heC, hoC⟩ := hn₃
  exact h h₃ o' (F.change hs₃ z.2.1 z.2.2) (hg o' ▸ N.setIn a b hs₃ heC) hoC
end
end
section
open PySem PySem.W PyProof.Rows PySem.Spec PySem.Calls
open LCg
section
variable {prog : Program} {w : World} {A : Around} {E : Value → Shared → Prop} {s : Shared} {env : Env} {h₀ : Heap} {L : Addr} {m : Str → Option Value} {news : List (Addr × Obj)}
noncomputable def CRest2 (prog : Program) (w : World) (A : Around) (h₀ : Heap) (L : Addr) (m : Str → Option Value) (env : Env) (elt t0 t1 i1 : Expr) (ifs : List Expr) (scope : Scope) (cl : List (Str × Addr)) (S : List (Addr × Obj) → Prop) (P : Nat → Value → Prop) (n k : Nat) (news : List (Addr × Obj)) (I : Addr) (s : Shared)
    (Fin : Addr → Addr → Shared → Prop) : Prop :=
  ∀ (D C : Addr) (s₃ : Shared), (∃ h, s₃ = { s with heap := h }) → (∀ p ∈ news, p.1 < D) → D < C → (Ex1 fun (Rel : Nat → List Value → List (Addr × Obj) → Prop) => Cj4 ((∀ i ys nw, Rel i ys nw → S nw)) (Rel 0 [] (cellNews scope C ++ news)) (OTurn prog w A h₀ L m s₃ elt t0 t1 i1 ifs (compEnvC scope (cellsFrom (C + 1) scope.names cl) C env) I C D P Rel n k) (∀ h tk ys oC m' news', Fr h₀ L h m → News h₀ L h ((C, oC) :: (D, lst ys) :: news') → NsObj oC m' → Off3 I C D news' → (@Ne Nat C D) → Rel n ys news' → Fin D C { s₃ with heap := h, toks := tk }))
theorem comp_use2 {elt t0 t1 i0 i1 : Expr} {ifs : List Expr} {scope : Scope} {cl : List (Str × Addr)} {pos : Pos} {s₂ : Shared} {I : Addr} {S : List (Addr × Obj) → Prop} {P : Nat → Value → Prop} {n k : Nat} {Fin : Addr → Addr → Shared → Prop} (hnk : n * k ≤ sizeLine)
    (src : CSrc prog w A h₀ L m S P n news I s₂.heap) (rest : CRest2 prog w A h₀ L m env elt t0 t1 i1 ifs scope cl S P n k news I s₂ Fin) {D C : Addr} {h₁ : Heap} {oC : Obj} (new : CompNew s₂.heap h₁ scope cl D C oC)
    (hs : ∀ x env, foldedSetIterable i1 env x = pure x) :
    codeAny (model prog w) A (.compLoop (.ListComp elt [⟨t0, i0, [], 0⟩, ⟨t1, i1, ifs, 0⟩] scope pos) 0 (.ref I) (.ref D) (compEnvC scope (cellsFrom (C + 1) scope.names cl) C env)) (fun r s' => match r with | .ok _ => Fin D C s' | .error _ => False) { s₂ with heap := h₁ } := by
  obtain ⟨⟨fp, St, W, hgo, hIo, hSt, hst⟩, hsz, F, N, ⟨hIL, hI₀⟩, off⟩ := src
  obtain ⟨isD, isC, keep, hl, hn, hns, hcells⟩ := new
  have hDC : D < C := by rw [isD, isC]; exact Nat.lt_succ_self _
  obtain ⟨Rel, hS, hR0, turn, fin⟩ := rest D C { s₂ with heap := h₁ } ⟨h₁, rfl⟩ (fun p hp => by rw [isD]; exact Heap.lt_size (N p hp).1) hDC
  obtain ⟨oI, hoI⟩ := hIo _ _ hst
  have hIlt : I < D := by rw [isD]; exact Heap.lt_size hoI
  have fresh₀ : ∀ a, s₂.heap.objs.size ≤ a → h₀.get? a = none := fun a ha => by
    cases e : h₀.get? a with
    | none => rfl
    | some o' => exact absurd (Heap.lt_size (F.keep a o' e)) (Nat.not_lt.mpr ha)
  have hLlt : L < D := by rw [isD]; exact F.ns.lt
  have ne : (@Ne Nat I C) ∧ (@Ne Nat I D) ∧ (@Ne Nat C D) := ⟨Nat.ne_of_lt (Nat.lt_trans hIlt hDC), Nat.ne_of_lt hIlt, Nat.ne_of_gt hDC⟩
  have F1 : Fr h₀ L h₁ m := F.keeps keep
  have cz : ∀ p ∈ cellNews scope C, h₁.get? p.1 = some p.2 ∧ C < p.1 := fun p hp => by
    obtain ⟨q, hq, e⟩ := List.mem_map.mp hp
    subst e
    exact hcells q.1 q.2 hq
  have offN : Off3 I C D (cellNews scope C ++ news) := Off3.of fun p hp => by
    rcases List.mem_append.mp hp with h | h
    · have := (cz p h).2
      exact ⟨Nat.ne_of_gt (Nat.lt_trans hIlt (Nat.lt_trans hDC this)), Nat.ne_of_gt this, Nat.ne_of_gt (Nat.lt_trans hDC this)⟩
    · have : p.1 < D := by rw [isD]; exact Heap.lt_size (N p h).1
      exact ⟨off p h, Nat.ne_of_lt (Nat.lt_trans this hDC), Nat.ne_of_lt this⟩
  have hle : ∀ a, D ≤ a → a ≠ L ∧ h₀.get? a = none := fun a ha => ⟨Nat.ne_of_gt (Nat.lt_of_lt_of_le hLlt ha), fresh₀ _ (isD ▸ ha)⟩
  have N1 : News h₀ L h₁ ((I, oI) :: (C, oC) :: (D, lst []) :: (cellNews scope C ++ news)) := fun p hp => by
    rcases List.mem_cons.mp hp with rfl | hp
    · exact ⟨keep _ _ hoI, hIL, hI₀⟩
    rcases List.mem_cons.mp hp with rfl | hp
    · exact ⟨hn, hle _ (Nat.le_of_lt hDC)⟩
    rcases List.mem_cons.mp hp with rfl | hp
    · exact ⟨hl, hle _ (Nat.le_refl _)⟩
    rcases List.mem_append.mp hp with h | h
    · exact ⟨(cz p h).1, hle _ (Nat.le_of_lt (Nat.lt_trans hDC (cz p h).2))⟩
    · exact ⟨keep _ _ (N p h).1, (N p h).2⟩
  exact comp_out2 W hnk (hgo _) hIo hSt (W.frame _ _ _ hst fun b _ o e => keep b o e) F1 N1 hns offN ne hS hR0 turn (fun h tk ys oC m' nw F N hC off hR => fin h tk ys oC m' nw F N hC off ne.2.2 hR) fun x => hs x _
theorem comp_eval2 {elt t0 t1 i0 i1 : Expr} {ifs : List Expr} {scope : Scope} {cl : List (Str × Addr)} {pos : Pos} {Q : Value → Shared → Prop}
    (F₀ : Fr h₀ L s.heap m) (hclos : closureFor scope env = pure cl) (hkind : scope.kind = .function) (hnames : ∀ y ∈ scope.names, y.2 = .local → scope.names.lookup y.1 = some .local)
    (h : wpAny (model prog w) A (eval i0 env) (fun xv s₁ => wpAny (model prog w) A (pyIter xv) (fun it s₂ => (Ex6 fun I S P n k news => Cj4 (it = .ref I) (n * k ≤ sizeLine) (CSrc prog w A h₀ L m S P n news I s₂.heap) (CRest2 prog w A h₀ L m env elt t0 t1 i1 ifs scope cl S P n k news I s₂ (fun D C s' => ∃ m', s'.heap.Ns C m' ∧ ∀ h', Heap.SameBut C s'.heap h' → Q (.ref D) { s' with heap := h' })))) E s₁) E s)
    (hs : ∀ x, foldedSetIterable i0 env x = pure x := by intro _; rfl) (hs1 : ∀ x env, foldedSetIterable i1 env x = pure x := by intro _ _; rfl) :
    wpAny (model prog w) A (eval (.ListComp elt [⟨t0, i0, [], 0⟩, ⟨t1, i1, ifs, 0⟩] scope pos) env) Q E s := by
  refine comp_open hclos hkind hnames (wpAny_mono h (fun xv s₁ h₁ => wpAny_mono h₁ (fun it s₂ h₂ => ?_) fun _ _ e => e) fun _ _ e => e) hs
  obtain ⟨I, S, P, n, k, news, rfl, hnk, src, rest⟩ := h₂
  obtain ⟨⟨fp, St, W, hgo, hIo, hSt, hst⟩, _⟩ := id src
  exact ⟨I, fp, [I], n, P, St, rfl, W, hst, fun D C h₁ oC new => codeAny_mono (comp_use2 hnk src rest new hs1) fun r s' hr => by
    cases r with
    | ok f => exact hr
    | error e => exact hr⟩
theorem comp_asg2 {elt t0 t1 i0 i1 : Expr} {ifs : List Expr} {scope : Scope} {cl : List (Str × Addr)} {pos spos : Pos} {y : Str} {py : Pos} {Q : Flow → Shared → Prop}
    (hsw : swapsWith (.ListComp elt [⟨t0, i0, [], 0⟩, ⟨t1, i1, ifs, 0⟩] scope pos) (some (.Name y py)) spos.line env = pure true)
    (F₀ : Fr h₀ L s.heap m) (hclos : closureFor scope env = pure cl) (hkind : scope.kind = .function) (hnames : ∀ y ∈ scope.names, y.2 = .local → scope.names.lookup y.1 = some .local)
    (h : wpAny (model prog w) A (eval i0 env) (fun xv s₁ => wpAny (model prog w) A (pyIter xv) (fun it s₂ => (Ex6 fun I S P n k news => Cj4 (it = .ref I) (n * k ≤ sizeLine) (CSrc prog w A h₀ L m S P n news I s₂.heap) (CRest2 prog w A h₀ L m env elt t0 t1 i1 ifs scope cl S P n k news I s₂ (fun D C s' => wpAny (model prog w) A (assign (.Name y py) env (.ref D)) (fun _ s'' => ∃ m', s''.heap.Ns C m' ∧ ∀ h', Heap.SameBut C s''.heap h' → Q .next { s'' with heap := h' }) E s')))) E s₁) E s)
    (hs : ∀ x, foldedSetIterable i0 env x = pure x := by intro _; rfl) (hs1 : ∀ x env, foldedSetIterable i1 env x = pure x := by intro _ _; rfl) :
    wpAny (model prog w) A (exec (.Assign [.Name y py] (.ListComp elt [⟨t0, i0, [], 0⟩, ⟨t1, i1, ifs, 0⟩] scope pos) spos) env) Q E s := by
  rw [exec_Assign_Name_used _ _ _ _ hsw]
  refine wpAny_bind (wpAny_standAt (wpAny_bind ?_))
  show wpAny _ A (do let _ ← comprehension (.ListComp elt [⟨t0, i0, [], 0⟩, ⟨t1, i1, ifs, 0⟩] scope pos) scope env _ (newList []) false (eval i0 env) (some (assign (.Name y py) env))) _ _ s
  refine wpAny_bind (wpAny_mono (wpAny_comprehension_free (use := some (assign (.Name y py) env)) (Q := fun _ s' => Q .next s') rfl hs hclos hkind hnames
    (wpAny_mono h (fun xv s₁ h₁ => wpAny_mono h₁ (fun it s₂ h₂ => ?_) fun _ _ e => e) fun _ _ e => e)) (fun _ s' hq => wpAny_pure (wpAny_pure hq)) fun _ _ e => e)
  obtain ⟨I, S, P, n, k, news, rfl, hnk, src, rest⟩ := h₂
  obtain ⟨⟨fp, St, W, hgo, hIo, hSt, hst⟩, _⟩ := id src
  refine wpAny_newObj_type (newFunctionEnv_comp fun h₁ oC e1 e2 e3 e4 => ?_)
  have hsz : ({ s₂ with heap := s₂.heap.push { cls := .type "list", dict := none, data := .seq ([] : List Value).toArray } } : Shared).heap.objs.size = s₂.heap.objs.size + 1 := Heap.size_push ..
  rw [hsz] at e1 e4 ⊢
  have old : ∀ b o, s₂.heap.get? b = some o → h₁.get? b = some o := fun b o e => e3 b o (Heap.get?_push_of_some _ e)
  have L := comp_use2 (i0 := i0) (pos := pos) hnk src rest (D := s₂.heap.objs.size) (C := s₂.heap.objs.size + 1) (h₁ := h₁) (oC := oC) ⟨rfl, rfl, old, e3 _ _ (Heap.get?_push_size _ rfl), e1, e2, e4⟩ hs1
  have fin := codeAny_mono L (fun r s' hr => show compPost (model prog w) A E (some (assign (.Name y py) env)) (fun _ s' => Q .next s') (.ref s₂.heap.objs.size) (s₂.heap.objs.size + 1) r s' by
    cases r with
    | ok f => exact hr
    | error e => exact absurd hr (by intro q; exact q))
  exact codeAny_compStart_list fin (W.self 0 _ _ _ (W.frame _ _ _ hst fun b _ o e => old b o e) fin)
end
end
section
open PySem PySem.W PyProof.Rows PySem.Spec PySem.Calls
open LCg
section
variable {prog : Program} {w : World} {A : Around} {E : Value → Shared → Prop} {s : Shared} {env : Env} {h₀ : Heap} {L : Addr} {news : List (Addr × Obj)} {scope : Scope} {cl : List (Str × Addr)}
theorem ld_own {C : Addr} {oC : Obj} {m₂ : Str → Option Value} {x : Str} {pos : Pos} {v : Value} {Q : Value → Shared → Prop} (N : News h₀ L s.heap news) (hm : (C, oC) ∈ news) (hC : NsObj oC m₂) (hv : m₂ x = some v)
    (hx : scope.names.lookup x = some .local) (hkind : scope.kind = .function) (hd : (x == ("__debug__" : Str)) = false) (h : Q v s) : wpAny (model prog w) A (eval (.Name x pos) (compEnvC scope cl C env)) Q E s :=
  wpAny_Name (wpAny_loadName_local (by simp [compEnvC, relabel, hkind]) (lookup_relabel_local hx) (hC.ns (N _ hm).1) hv h) hd
theorem ld_free {c : Addr} {o : Obj} {C : Addr} {x : Str} {pos : Pos} {v : Value} {Q : Value → Shared → Prop} (N : News h₀ L s.heap news) (hx : (compEnvC scope cl C env).kindOf x = some .free) (hc : cl.lookup x = some c) (hm : (c, o) ∈ news) (ho : o.data = .cell (some v))
    (hk : (compEnvC scope cl C env).scope.kind = .function) (hd : (x == ("__debug__" : Str)) = false) (hn : (x == ("__classdict__" : Str)) = false) (h : Q v s) : wpAny (model prog w) A (eval (.Name x pos) (compEnvC scope cl C env)) Q E s :=
  wpAny_Name (wpAny_loadName_free hk hx hc ⟨o, (N _ hm).1, ho⟩ h hn) hd
theorem ld_cell {c : Addr} {o : Obj} {C : Addr} {x : Str} {pos : Pos} {v : Value} {Q : Value → Shared → Prop} (N : News h₀ L s.heap news) (hx : (compEnvC scope cl C env).kindOf x = some .cell) (hc : cl.lookup x = some c) (hm : (c, o) ∈ news) (ho : o.data = .cell (some v))
    (hk : (compEnvC scope cl C env).scope.kind = .function) (hd : (x == ("__debug__" : Str)) = false) (h : Q v s) : wpAny (model prog w) A (eval (.Name x pos) (compEnvC scope cl C env)) Q E s :=
  wpAny_Name (wpAny_loadName_cell hk hx hc ⟨o, (N _ hm).1, ho⟩ h) hd
end
end
section
set_option maxHeartbeats 8000000
section
variable {w : World} {A : Around} {E : Value → Shared → Prop} {s : Shared} {h₀ : Heap} {L : Addr} {m : Str → Option Value} {nA dA sA : Int → Addr} {keys : List Int} {np : Int → Int} {succ : Int → List Int} {srt : List (Addr × Obj)} {k : Int}
theorem succ_getH {expr : Bool} {Q : Value → Shared → Prop} (F : Fr h₀ L s.heap m) (X : (Mine.hd.heap_1 w.params).In h₀) (hs : ∀ p ∈ srt, s.heap.get? p.1 = some p.2) (Nd : Nodes nA dA sA keys np succ srt) (hk : k ∈ keys)
    (h : Q (.ref (sA k)) { s with toks := s.toks + 1 }) : wpAny (model PG w) A (getAttr (.ref (nA k)) (Str.ofString "successors") expr) Q E s := by
  obtain ⟨tk, tp, hm⟩ := Nd.node k hk
  have h1 := hs _ hm
  have h2 := hs _ (Nd.dict k hk)
  k_dflt (refine' get_slot ?k1 ?k2 ?k3 ?k4 ?k5 ?k6 ?k7 ?k8 ?k9 ?k10 ?k11 ?_; (case k1 => k_asm); (case k2 => k_asm); (case k3 => exact (⟨h1, rfl, rfl, h2⟩ : W.InstAt _ _ ⟨.ref 54, some (dA k), .plain, _⟩ 54 (some _))); (case k4 => k_is); (case k5 => k_is); (case k6 => k_is); (case k7 => k_is); (case k8 => k_is); (case k9 => k_is); (case k10 => exact rfl); (case k11 => k_handed); exact h)
end
end
section
set_option maxHeartbeats 8000000
section
variable {prog : Program} {w : World} {A : Around} {E : Value → Shared → Prop} {s : Shared} {h₀ : Heap} {L : Addr} {m : Str → Option Value} {news : List (Addr × Obj)} {l I b it : Addr} {items : Array Value} {i : Nat} {g : Obj → List (Addr × Obj)} {x : Value}
theorem iter_list {Q : Value → Shared → Prop} (F : Fr h₀ L s.heap m) (N : News h₀ L s.heap news) (hl : s.heap.IsList l items)
    (h : ∀ (I : Addr) h', Fr h₀ L h' m → News h₀ L h' ((I, liO l 0) :: news) → (∀ p ∈ news, p.1 < I) → Q (.ref I) { s with heap := h' }) :
    wpAny (model prog w) A (call (.builtin "iter") [.ref l]) Q E s := by
  refine call_function_entry (by decide +kernel) (by decide +kernel) kdk_entry_iter (kdk_args_iter _) ?_
  unfold Builtin.«iter»
  refine wpAny_bind (m := someArgs "iter" 1 2 _) (wpAny_of_eq (a := [Value.ref l]) (by first | rfl | kernel_rfl!) ?_)
  show wpAny _ _ (pyIter (.ref l) >>= _) _ _ _
  refine wpAny_bind (wpAny_pyIter_list hl ?_)
  exact wpAny_pure ⟨_, rfl, h _ _ (F.push _) (News.push F N _ rfl) (fun q hq => Heap.lt_size (N q hq).1)⟩
theorem next_attr {Q : Value → Shared → Prop} (F : Fr h₀ L s.heap m) (N : News h₀ L s.heap news) (hm : (I, liO l i) ∈ news)
    (h : ∀ (b : Addr) h', Fr h₀ L h' m → News h₀ L h' ((b, mwO I) :: news) → (∀ p ∈ news, p.1 < b) → Q (.ref b) { s with heap := h', toks := s.toks + 1 }) :
    wpAny (model prog w) A (getAttr (.ref I) (Str.ofString "__next__") true) Q E s :=
  getAttr_next (N _ hm).1 (h _ _ (F.push _) (News.push F N _ rfl) (fun q hq => Heap.lt_size (N q hq).1))
theorem mw_itemN {R : Result → Shared → Prop} (F : Fr h₀ L s.heap m) (N : News h₀ L s.heap news) (hb : (b, mwO it) ∈ news) (hit : (it, liO l i) ∈ news) (U : UpdF it (liO l i) news g) (hl : s.heap.IsList l items) (hx : items[i]? = some x)
    (h : ∀ h', Fr h₀ L h' m → News h₀ L h' (g (liO l (i + 1))) → R (.ok (.ret x)) { s with heap := h' }) : codeAny (model prog w) A (.call (.ref b) ⟨[], []⟩) R s := by
  refine mw_item (N _ hb).1 (N _ hit).1 hl hx ?_
  obtain ⟨F', N'⟩ := upd_news (o' := liO l (i + 1)) (f := Obj.mapFields (·.setIfInBounds 1 (rawInt (i + 1)))) F N U rfl rfl
  exact h _ F' N'
noncomputable abbrev liX : Addr → Nat → Obj := fun _ i => { cls := .type "list_iterator", data := .fields #[.none, .int i 0] }
theorem mw_endN {R : Result → Shared → Prop} (hh : A.handled = none) (F : Fr h₀ L s.heap m) (N : News h₀ L s.heap news) (hb : (b, mwO it) ∈ news) (hit : (it, liO l i) ∈ news) (U : UpdF it (liO l i) news g) (hl : s.heap.IsList l items) (hx : items[i]? = none)
    (h : ∀ h1 h' e, Heap.NewExcOf h1 h' e "StopIteration" → Fr h₀ L h1 m → News h₀ L h1 (g (liX l i)) → R (.error (.ref e)) { s with heap := h' }) : codeAny (model prog w) A (.call (.ref b) ⟨[], []⟩) R s := by
  obtain ⟨F', N'⟩ := upd_news (o' := liX l i) (f := Obj.mapFields (·.setIfInBounds 0 .none)) F N U rfl rfl
  exact mw_end hh (N _ hb).1 (N _ hit).1 hl hx fun h' e hx => h _ h' e hx F' N'
variable {K : Type} [DecidableEq K] [BEq K] [LawfulBEq K] {knd : KeyKind prog w K} {kvs : List (K × Value)} {d : Addr} {o : Obj}
theorem pyIter_keys {Q : Value → Shared → Prop} (F : Fr h₀ L s.heap m) (N : News h₀ L s.heap news) (hp : (d, o) ∈ news) (hd : o.IsDictOf knd kvs) (lo : (d == sysModules) = false)
    (h : ∀ (I : Addr) h' oI ep, Fr h₀ L h' m → News h₀ L h' ((I, oI) :: news) → (∀ p ∈ news, p.1 < I) → KdkIter oI d 0 kvs.length ep → KdkAt knd o kvs ep → Q (.ref I) { s with heap := h' }) :
    wpAny (model prog w) A (pyIter (.ref d)) Q E s := by
  obtain ⟨ep, ha⟩ := KdkAt.of hd
  refine wpAny_pyIter_dict lo (ha.dictAt (N _ hp).1) ?_
  exact h _ _ _ ep (F.push _) (News.push F N _ rfl) (fun q hq => Heap.lt_size (N q hq).1) ⟨rfl, rfl⟩ ha
end
structure Turned (w : World) (mean : ExcName → Option Value) (mg mb : Str → Option Value) (A : Around) (base : Heap) (envs : List Env) (g g2 : Heap) : Prop where
  turn : KtsTurn (envs.filterMap (·.frame)) g g2
  below : Below A base envs g2
  kin : (Mine.hd.heap_1 w.params).In g2
  top : TP mean mg mb g2
  dicts : KtsDicts (envs.filterMap (·.frame)) g2
theorem Turned.keep {w : World} {mean : ExcName → Option Value} {mg mb : Str → Option Value} {A : Around} {base : Heap} {envs : List Env} {g g2 : Heap} (x : Turned w mean mg mb A base envs g g2) {b : Addr} {o : Obj} (e : g.get? b = some o) (hb : b ∉ envs.filterMap (·.frame)) : g2.get? b = some o :=
  x.turn.other b o e hb
end
section
set_option maxHeartbeats 8000000
theorem item_last {prog : Program} {w : World} {A : Around} {E : Value → Shared → Prop} {s : Shared} {value slice : PySem.Expr} {l : Addr} {p : List Value} {y : Value} {u : Tok} {Q : Value → Shared → Prop} (hl : s.heap.IsList l (p ++ [y]).toArray) (h : Q y s)
    (hs : subscripted slice false (.ref l) (.int (-1) u) = operate [.ref l, .int (-1) u] (getItem (.ref l) (.int (-1) u)) := by with_unfolding_all rfl) (hg : ∀ r, letTemporaryGo value (.ref l) r = pure () := by intro _; with_unfolding_all rfl) :
    wpAny (model prog w) A (subscriptTail value slice (.ref l) (.int (-1) u)) Q E s := by
  refine subscriptTail_builtin hl.typeIs slot_list_getitem.lookup (wpAny_getItem_list_neg hl (by decide) ?_ (by decide) ?_ h) hs hg
  · simp; lia
  · have e : ((-1 : Int) + ((p ++ [y]).toArray.size : Nat)).toNat = p.length := by simp; lia
    rw [e]; simp
theorem callWith_mw0 {M : Model} {A : Around} {E : Value → Shared → Prop} {s : Shared} {env : Env} {pos : Pos} {b it : Addr} {Q : Value → Shared → Prop} (hb : s.heap.get? b = some (mwO it)) (h : wpAny M A (call (.ref b) []) Q E s) :
    wpAny M A (callWith pos (.ref b) [] (backTo pos (starEach [] env)) []) Q E s :=
  callWith_of (P := fun h => h.get? b = some (mwO it)) rfl (fun h x => ⟨.machine, .inr (.inl rfl), (Looks.ld (part := none) x).andThen .now⟩) (evalArgs_nil3 ⟨hb, h⟩)
structure Held (P : Prop) : Prop where
  out : P
structure Fm where
  k : Int
  b : Addr
  it : Addr
  i : Nat
noncomputable def bn (sA : Int → Addr) : List Fm → List (Addr × Obj)
  | [] => []
  | f :: fs => (f.b, mwO f.it) :: (f.it, liO (sA f.k) f.i) :: bn sA fs
noncomputable def unseen (succ : Int → List Int) (S : Int → Bool) (keys : List Int) : Nat := (keys.map fun k => if S k then 0 else (succ k).length + 2).sum
noncomputable def onStack (succ : Int → List Int) (fs : List Fm) : Nat := (fs.map fun f => (succ f.k).length - f.i + 1).sum
theorem unseen_le (succ : Int → List Int) (S S' : Int → Bool) (h : ∀ k, S k = true → S' k = true) : ∀ keys, unseen succ S' keys ≤ unseen succ S keys
  | [] => Nat.le_refl _
  | k :: ks => by
    have := unseen_le succ S S' h ks
    simp only [unseen, List.map_cons, List.sum_cons] at this ⊢
    by_cases q : S k = true
    · rw [if_pos q, if_pos (h k q)]; lia
    · rw [if_neg q]; split <;> lia
theorem unseen_add (succ : Int → List Int) (S : Int → Bool) (x : Int) (hx : S x = false) : ∀ keys, x ∈ keys → unseen succ (fun k' => S k' || decide (k' = x)) keys + (succ x).length + 2 ≤ unseen succ S keys
  | k :: ks, hm => by
    have mono := unseen_le succ S (fun k' => S k' || decide (k' = x)) (fun k q => by simp [q]) ks
    have ih := unseen_add succ S x hx ks
    simp only [unseen, List.map_cons, List.sum_cons] at ih mono ⊢
    by_cases e : k = x
    · subst e
      rw [if_pos (by simp), if_neg (by simp [hx])]; lia
    · rcases List.mem_cons.mp hm with q | q
      · exact absurd q.symm e
      · have := ih q
        by_cases z : S k = true
        · rw [if_pos z, if_pos (by simp [z])]; lia
        · rw [if_neg z, if_neg (by simp [z, e])]; lia
theorem count_add (S : Int → Bool) (x : Int) (hx : S x = false) : ∀ keys : List Int, x ∈ keys → (keys.filter fun k => !(S k || decide (k = x))).length + 1 ≤ (keys.filter fun k => !S k).length
  | k :: ks, hm => by
    have mono : (ks.filter fun k => !(S k || decide (k = x))).length ≤ (ks.filter fun k => !S k).length := by
      clear hm
      induction ks with
      | nil => exact Nat.le_refl _
      | cons y ys ih =>
        simp only [List.filter_cons]
        by_cases z : S y = true
        · simpa [z] using ih
        · by_cases e : y = x
          · subst e; simp [hx] at ih ⊢; lia
          · simp [z, e] at ih ⊢; lia
    have ih := count_add S x hx ks
    simp only [List.filter_cons]
    by_cases e : k = x
    · subst e; simp [hx] at mono ⊢; lia
    · rcases List.mem_cons.mp hm with q | q
      · exact absurd q.symm e
      · have := ih q
        by_cases z : S k = true
        · simpa [z] using this
        · simp [z, e] at this ⊢; lia
noncomputable def Rises (rk : Int → Nat) (keys : List Int) (succ : Int → List Int) : List Fm → Prop
  | [] => True
  | f :: fs => f.k ∈ keys ∧ f.i ≤ (succ f.k).length ∧ (∀ f' ∈ fs, rk f'.k < rk f.k) ∧ Rises rk keys succ fs
noncomputable def KeysAre (kvs : List (Int × Value)) (fs : List Fm) : Prop := ∀ k, (valueAt kvs k).isSome = true ↔ ∃ f ∈ fs, f.k = k
theorem KeysAre.push {kvs : List (Int × Value)} {fs : List Fm} (h : KeysAre kvs fs) (f : Fm) (v : Value) : KeysAre (stored kvs f.k v) (f :: fs) := by
  intro k
  have := h k
  rw [valueAt_isSome_eq_any] at this ⊢
  unfold stored
  have hf := h f.k
  rw [valueAt_isSome_eq_any] at hf
  split
  · rename_i q
    rw [List.any_map]
    have e : ((fun kv : Int × Value => decide (kv.1 = k)) ∘ fun kv : Int × Value => if kv.1 = f.k then (kv.1, v) else kv) = fun kv => decide (kv.1 = k) := by
      funext kv; simp only [Function.comp]; split <;> rfl
    rw [e, this]
    constructor
    · rintro ⟨f', h1, h2⟩; exact ⟨f', .tail _ h1, h2⟩
    · rintro ⟨f', h1, h2⟩
      rcases List.mem_cons.mp h1 with z | z
      · subst z; subst h2; exact hf.mp q
      · exact ⟨f', z, h2⟩
  · rw [List.any_append, Bool.or_eq_true, this]
    constructor
    · rintro (⟨f', h1, h2⟩ | q)
      · exact ⟨f', .tail _ h1, h2⟩
      · exact ⟨f, .head _, by simpa using q⟩
    · rintro ⟨f', h1, h2⟩
      rcases List.mem_cons.mp h1 with z | z
      · subst z; right; simpa using h2
      · left; exact ⟨f', z, h2⟩
theorem KeysAre.pop {kvs : List (Int × Value)} {fs : List Fm} {f : Fm} (h : KeysAre kvs (f :: fs)) (hf : ∀ f' ∈ fs, f'.k ≠ f.k) : KeysAre (without kvs f.k) fs := by
  intro k
  have := h k
  rw [valueAt_isSome_eq_any] at this ⊢
  unfold without
  rw [List.any_filter]
  by_cases e : k = f.k
  · subst e
    constructor
    · intro q
      obtain ⟨kv, _, q⟩ := List.any_eq_true.mp q
      simp at q
    · rintro ⟨f', h1, h2⟩; exact absurd h2 (hf f' h1)
  · have e1 : (kvs.any fun x => decide (x.1 ≠ f.k) && decide (x.1 = k)) = kvs.any fun kv => decide (kv.1 = k) := by
      congr 1; funext kv
      by_cases z : kv.1 = k
      · simp [z, e]
      · simp [z]
    rw [e1, this]
    constructor
    · rintro ⟨f', h1, h2⟩
      rcases List.mem_cons.mp h1 with z | z
      · subst z; exact absurd h2.symm e
      · exact ⟨f', z, h2⟩
    · rintro ⟨f', h1, h2⟩; exact ⟨f', .tail _ h1, h2⟩
end
section
set_option maxHeartbeats 8000000
local macro_rules | `(tactic| walk_at "eval Name") => `(tactic| walk_at "evL")
structure FS (w : World) (keys : List Int) (sA : Int → Addr) (succ : Int → List Int) (rk : Int → Nat) (L' d st its se ns : Addr) (od : Obj) (tl : List (Addr × Obj)) (g2 h' : Heap) (m' : Str → Option Value) (fs : List Fm) (S : Int → Bool) : Prop where
  fr : Fr g2 L' h' m'
  m1 : m' (Str.ofString "n2i") = some (.ref d)
  m2 : m' (Str.ofString "stack") = some (.ref st)
  m3 : m' (Str.ofString "itstack") = some (.ref its)
  m4 : m' (Str.ofString "seen") = some (.ref se)
  m5 : m' (Str.ofString "node2stacki") = some (.ref ns)
  rises : Rises rk keys succ fs
  seen : ∀ f ∈ fs, S f.k = true
  nodup : (ns :: se :: its :: st :: d :: (bn sA fs ++ tl).map (·.1)).Nodup
  led : (Ex7 fun vs n1 n2 no so c kvs => Cj7 (News g2 L' h' ((ns, no) :: (se, so) :: (its, listOf (fs.reverse.map fun f => Value.ref f.b).toArray n2) :: (st, listOf vs.toArray n1) :: (d, od) :: (bn sA fs ++ tl))) (IntsAre vs (fs.reverse.map (·.k))) (no.IsDictOf (intKind PG w) kvs) (KeysAre kvs fs) ((kvs.length ≤ c ∧ fs.length ≤ c)) (so.SetObjOf (intKind PG w) S c) (c + (keys.filter (fun k => !S k)).length ≤ 900))
theorem find_cycle {w : World} {dp un : Nat} {gd : Option (List Code)} {cn : Str} {cs : Scope} {a : Addr} {ccd : Value} {cl : List (Str × Addr)} {outer : List Env} {A₀ : Around} {base h₀ : Heap} {L : Addr} {m mg mb : Str → Option Value} {mean : ExcName → Option Value} {s : Shared} {Q E : Value → Shared → Prop} {x dx d : Addr} {od : Obj} {t1 t2 t3 t4 : Tok} {rd po nf : Value} {rest : List (Addr × Obj)} {srt : List (Addr × Obj)} {nA dA sA : Int → Addr} {keys : List Int} {np : Int → Int} {succ : Int → List Int} {rk : Int → Nat}
    (B : Below A₀ base outer h₀) (F : Fr h₀ L s.heap m) (X : (Mine.hd.heap_1 w.params).In h₀) (T : TP mean mg mb h₀) (hk : cs.kind = .function) (hd : dp + 6 < recursionLimit) (hu : un + 48 < cLine) (XB : (Mine.hd.heap_1 w.params).In base) (TB : TP mean mg mb base) (D : KtsDicts (outer.filterMap (·.frame)) h₀)
    (N : News h₀ L s.heap ((x, instObj 151 dx) :: (dx, dictOf (sEs w (.ref d) rd po nf t1 t2 t3 t4) 4) :: (d, od) :: (rest ++ srt))) (hdm : (d == sysModules) = false)
    (hD : od.IsDictOf (intKind PG w) (kvsOf keys nA)) (Nd : Nodes nA dA sA keys np succ srt) (P : Apart x dx d rest srt)
    (hs : ∀ k ∈ keys, ∀ j ∈ succ k, j ∈ keys ∧ rk k < rk j) (hlen : ∀ k ∈ keys, (succ k).length ≤ 900) (hkl : keys.length ≤ 900)
    (ret : ∀ h₀' h' tk', KtsTurn (outer.filterMap (·.frame)) h₀ h₀' → Fr h₀' L h' m → Below A₀ base outer h₀' → (Mine.hd.heap_1 w.params).In h₀' → TP mean mg mb h₀' → KtsDicts (outer.filterMap (·.frame)) h₀' →
      News h₀' L h' ((x, instObj 151 dx) :: (dx, dictOf (sEs w (.ref d) rd po nf t1 t2 t3 t4) 4) :: (d, od) :: (rest ++ srt)) → Q .none { s with heap := h', toks := tk' }) :
    wpAny (model PG w) (ktrTop dp un gd cn cs L a ccd cl outer) (call (.ref 141) [.ref x]) Q E s := by
  have N0 : News h₀ L s.heap [(x, instObj 151 dx), (dx, dictOf (sEs w (.ref d) rd po nf t1 t2 t3 t4) 4), (d, od)] := fun p hp => N p (by simp only [List.mem_cons, List.not_mem_nil, or_false] at hp ⊢; rcases hp with h | h | h <;> simp [h])
  refine wpAny_call ?_
  k_dflt (refine' code_defT ?k1 ?k2 ?k3 ?k4 ?k5 ?kXB ?kTB ?kD ?kA ?kF ?kK ?k6 ?k7 ?k8 ?k9 ?kB ?_ ?c2 ?c3 ?c4 ?c5; (case kA => exact rfl); (case kF => exact rfl); (case kK => assumption); (case k1 => k_asm); (case k2 => k_asm); (case k3 => k_asm); (case k4 => exact N0); (case k5 => k_asm); (case kXB => assumption); (case kTB => assumption); (case kD => assumption); (case k6 => k_is); (case k7 => k_is); (case k8 => ktr_room); (case k9 => exact BindsTo.of_eq rfl); (case c5 => decide); (case kB => exact locs rfl); (case c2 => exact rfl); (case c3 => exact rfl); (case c4 => exact rfl); k_whole; intro g' L' h' FG' F' N' B' X' T' D' kG'; (try dsimp only); (try k_fold))
  (repeat' (first | (k_unfold; (try dsimp only)) | (k_end; wrow_close) | ((fail_if_success (with_reducible (refine Mine.stop_here ?_ ?_; walk_at "s0"))); walk1) | (dsimp only; (fail_if_success (with_reducible (refine Mine.stop_here ?_ ?_; walk_at "s0"))); walk1) | (leave1; walk_say "STEP leave1"; try dsimp only) | walk_at "onk" | fail "no step"))
  walk1
  (repeat' (first | (k_unfold; (try dsimp only)) | (k_end; wrow_close) | ((fail_if_success (with_reducible (refine Mine.stop_here ?_ ?_; walk_at "s0"))); walk1) | (dsimp only; (fail_if_success (with_reducible (refine Mine.stop_here ?_ ?_; walk_at "s0"))); walk1) | (leave1; walk_say "STEP leave1"; try dsimp only) | walk_at "onk" | fail "no step"))
  rename News g' L' _ _ => N1
  rename Fr g' L' _ _ => F1
  rename_i st _ l1 _ _ its _ l2 _ _ se _ led hse _ l3 _ _ ns _ no hns _ _ hnd _ l4 _
  refine for_st ?_
  (repeat' (first | (k_unfold; (try dsimp only)) | (k_end; wrow_close) | ((fail_if_success (with_reducible (refine Mine.stop_here ?_ ?_; walk_at "s0"))); walk1) | (dsimp only; (fail_if_success (with_reducible (refine Mine.stop_here ?_ ?_; walk_at "s0"))); walk1) | (leave1; walk_say "STEP leave1"; try dsimp only) | walk_at "onk" | fail "no step"))
  refine pyIter_keys F1 N1 (.tail _ (.tail _ (.tail _ (.tail _ (.tail _ (.tail _ (.head _))))))) hD hdm ?_
  intro I h2 oI ep F2 N2 hI hoI hep
  have hId : d ≠ I := Nat.ne_of_lt (hI _ (.tail _ (.tail _ (.tail _ (.tail _ (.tail _ (.tail _ (.head _))))))))
  let TU := Turned w mean mg mb (ktrTop dp un gd cn cs L a ccd cl outer) base (envX cn cs L a ccd cl :: outer) g'
  let FSx := fun oI => FS w keys sA succ rk L' d st its se ns od [(I, oI), (x, instObj 151 dx), (dx, dictOf (sEs w (.ref d) rd po nf t1 t2 t3 t4) 4)]
  refine ⟨I, [I, d], [I], _, _, _, fun i s' => (Ex6 fun g2 h' tk' m' oI S => Cj4 (s' = { s with heap := h', toks := tk' }) (TU g2) (KdkIter oI d i (kvsOf keys nA).length ep) (FSx oI g2 h' m' [] S)), rfl, Walks.dictKeys (knd := intKind PG w) rfl I d hId (kvsOf keys nA) ep, ?_, ?_, ?_, ?_, ?_⟩
  · exact fun i v s Q E st q => letGo_keyiter st.1 q
  · rintro i s' ⟨g2, h', tk', m', oI, S, rfl, TUR, hk3, FS3⟩
    obtain ⟨vs, n1, n2, no, so, c, kvs, N3, _⟩ := FS3.led
    exact ⟨hk3.at (N3 (I, oI) (.tail _ (.tail _ (.tail _ (.tail _ (.tail _ (.head _))))))).1, hep.dictAt (N3 (d, od) (.tail _ (.tail _ (.tail _ (.tail _ (.head _)))))).1⟩
  · refine ⟨g', _, _, _, oI, fun _ => false, rfl, ⟨KtsTurn.refl, B', X', T', D'⟩, hoI, ⟨F2, ?_, ?_, ?_, ?_, ?_, trivial, fun f hf => absurd hf List.not_mem_nil, ?_, [], 0, 0, no, _, 0, [], fun p hp => N2 p ?_, .nil, hnd, ?_, ⟨Nat.le_refl _, Nat.le_refl _⟩, hse, ?_⟩⟩
    · rfl
    · rfl
    · rfl
    · rfl
    · rfl
    · have i1 := hI _ (.head _)
      have i2 := hI _ (.tail _ (.head _))
      have i3 := hI _ (.tail _ (.tail _ (.head _)))
      have i4 := hI _ (.tail _ (.tail _ (.tail _ (.head _))))
      have i5 := hI _ (.tail _ (.tail _ (.tail _ (.tail _ (.head _)))))
      have i6 := hI _ (.tail _ (.tail _ (.tail _ (.tail _ (.tail _ (.head _))))))
      have i7 := hI _ (.tail _ (.tail _ (.tail _ (.tail _ (.tail _ (.tail _ (.head _)))))))
      have p1 := P.xdx
      have p2 := P.xd
      have p3 := P.dxd
      dsimp only at i1 i2 i3 i4 i5 i6 i7
      simp only [bn, List.nil_append, List.map_cons, List.map_nil, List.nodup_cons, List.mem_cons, List.not_mem_nil, not_or, or_false, not_false_eq_true, List.nodup_nil, and_true]
      refine ⟨⟨?_, ?_, ?_, ?_, ?_, ?_, ?_⟩, ⟨?_, ?_, ?_, ?_, ?_, ?_⟩, ⟨?_, ?_, ?_, ?_, ?_⟩, ⟨?_, ?_, ?_, ?_⟩, ⟨?_, ?_, ?_⟩, ⟨?_, ?_⟩, ?_⟩ <;> (first | exact p1 | exact p2.symm | exact p3.symm | exact (Nat.ne_of_lt (by lia)) | exact (Nat.ne_of_gt (by lia)))
    · simp only [bn, List.nil_append, List.mem_cons, List.not_mem_nil, or_false] at hp ⊢
      rcases hp with h | h | h | h | h | h | h | h <;> simp [h]
    · intro k; simp [valueAt]
    · exact Nat.le_trans (Nat.le_of_eq (Nat.zero_add _)) (Nat.le_trans (List.length_filter_le _ _) hkl)
  · rintro i s' v h4 tk4 hi ⟨g2, h', tk', m', oI, S, rfl, TUR, hk3, FS3⟩ ⟨k, xv, hkx, hkv⟩ ⟨⟨oI4, hI4, hI4c⟩, _⟩ keep
    obtain ⟨t, rfl⟩ := Value.isInt_shape hkv
    have hkk : k ∈ keys := by
      rw [List.getElem?_map] at hkx
      cases q : keys[i]? with
      | none => rw [q] at hkx; cases hkx
      | some k' => rw [q] at hkx; cases hkx; exact List.mem_of_getElem? q
    obtain ⟨F3, m1, m2, m3, m4, m5, _, _, nd, vs, n1, n2, no, so, c, kvs, N3, hvs, hno, hkv3, hkc, hso, hc9⟩ := FS3
    have hn : ∀ p ∈ [(ns, no), (se, so), (its, listOf (([] : List Fm).reverse.map fun f => Value.ref f.b).toArray n2), (st, listOf vs.toArray n1), (d, od), (x, instObj 151 dx), (dx, dictOf (sEs w (.ref d) rd po nf t1 t2 t3 t4) 4)], p.1 ≠ I := by
      have nd' := nd
      simp only [bn, List.nil_append, List.map_cons, List.map_nil, List.nodup_cons, List.mem_cons, List.not_mem_nil, not_or, or_false] at nd'
      obtain ⟨⟨a1, a2, a3, a4, a5, a6, a7⟩, ⟨b2, b3, b4, b5, b6, b7⟩, ⟨c3, c4, c5, c6, c7⟩, ⟨e4, e5, e6, e7⟩, ⟨f5, f6, f7⟩, ⟨i6, i7⟩, _⟩ := nd'
      intro p hp
      simp only [List.mem_cons, List.not_mem_nil, or_false] at hp
      rcases hp with rfl | rfl | rfl | rfl | rfl | rfl | rfl <;> first | exact a5 | exact b5 | exact c5 | exact e5 | exact f5 | exact fun q => i6 q.symm | exact fun q => i7 q.symm
    have hIN := N3 (I, oI) (.tail _ (.tail _ (.tail _ (.tail _ (.tail _ (.head _))))))
    have F4 : Fr g2 L' h4 m' := ⟨F3.ns.at' fun o e => keep _ o (by simpa using fun q => hIN.2.1 q.symm) e, fun b o e => keep b o (by simp only [List.mem_singleton]; rintro rfl; have := hIN.2.2; rw [e] at this; cases this) (F3.keep b o e), F3.above⟩
    have N4 : News g2 L' h4 [(ns, no), (se, so), (its, listOf #[] n2), (st, listOf vs.toArray n1), (d, od), (I, oI4), (x, instObj 151 dx), (dx, dictOf (sEs w (.ref d) rd po nf t1 t2 t3 t4) 4)] := by
      intro p hp
      by_cases e : p = (I, oI4)
      · subst e; exact ⟨hI4, hIN.2⟩
      · have hp3 : p ∈ [(ns, no), (se, so), (its, listOf (([] : List Fm).reverse.map fun f => Value.ref f.b).toArray n2), (st, listOf vs.toArray n1), (d, od), (x, instObj 151 dx), (dx, dictOf (sEs w (.ref d) rd po nf t1 t2 t3 t4) 4)] := by
          simp only [List.mem_cons, List.not_mem_nil, or_false, e, false_or] at hp ⊢
          exact hp
        have z := N3 p (by
          simp only [bn, List.nil_append, List.mem_cons, List.not_mem_nil, or_false] at hp3 ⊢
          rcases hp3 with h | h | h | h | h | h | h <;> simp [h])
        exact ⟨keep _ _ (by simpa using hn p hp3) z.1, z.2⟩
    clear N3 F3 keep hI hIN hn
    have hR0 : ∀ p ∈ srt, g'.get? p.1 = some p.2 := fun p hp => kG' _ _ (N p (.tail _ (.tail _ (.tail _ (List.mem_append_right _ hp))))).1 (by have := P.tl p (List.mem_append_right _ hp); simp only [List.map_cons, List.map_nil, List.mem_cons, List.not_mem_nil, or_false, not_or]; exact this)
    have hfr : ∀ p ∈ srt, p.1 ∉ (envX cn cs L a ccd cl :: outer).filterMap (·.frame) := fun p hp q => by
        have z := N p (.tail _ (.tail _ (.tail _ (List.mem_append_right _ hp))))
        rcases kts_memX (L := L) rfl q with e | e
        · exact z.2.1 e
        · obtain ⟨o, ho, _⟩ := (B.frames.mem e).2
          rw [z.2.2] at ho; cases ho
    have hR : ∀ g2, TU g2 → ∀ p ∈ srt, g2.get? p.1 = some p.2 := fun g2 tu p hp => tu.keep (hR0 p hp) (hfr p hp)
    have TUR' := TUR
    obtain ⟨KT2, B2, X2, T2, D2⟩ := TUR
    have nd' := nd
    simp only [bn, List.nil_append, List.map_cons, List.map_nil, List.nodup_cons, List.mem_cons, List.not_mem_nil, not_or, or_false] at nd'
    obtain ⟨⟨a1, a2, a3, a4, a5, a6, a7⟩, ⟨b2, b3, b4, b5, b6, b7⟩, ⟨c3, c4, c5, c6, c7⟩, ⟨e4, e5, e6, e7⟩, _⟩ := nd'
    (repeat' (first | (k_unfold; (try dsimp only)) | (k_end; wrow_close) | ((fail_if_success (with_reducible (refine Mine.stop_here ?_ ?_; walk_at "s0"))); walk1) | (dsimp only; (fail_if_success (with_reducible (refine Mine.stop_here ?_ ?_; walk_at "s0"))); walk1) | (leave1; walk_say "STEP leave1"; try dsimp only) | walk_at "onk" | fail "no step"))
    · rename Fr g2 L' _ _ => F5
      refine ⟨g2, _, _, _, oI4, S, rfl, TUR', hI4c, ⟨F5, (if_neg (by decide)).trans m1, (if_neg (by decide)).trans m2, (if_neg (by decide)).trans m3, (if_neg (by decide)).trans m4, (if_neg (by decide)).trans m5, trivial, fun f hf => absurd hf List.not_mem_nil, nd, vs, n1, n2, no, so, c, kvs, by assumption, hvs, hno, hkv3, hkc, by assumption, hc9⟩⟩
    · refine while_inv (fun n s' => (Ex8 fun g2 h' tk' m' fs S k t => Cj8 (s' = { s with heap := h', toks := tk' }) (TU g2) (FSx oI4 g2 h' m' fs S) (m' (Str.ofString "node") = some (.int k t)) (k ∈ keys) ((S k = false ∨ fs ≠ [])) ((∀ f ∈ fs, rk f.k < rk k)) (unseen succ S keys + onStack succ fs ≤ n))) (by passes_own) ?_ (unseen succ S keys) ?_
      · clear nd hno hkv3 hkc hc9 KT2 B2 X2 T2 D2 TUR' hvs a1 a2 a3 a4 a5 a6 a7 b2 b3 b4 b5 b6 b7 c3 c4 c5 c6 c7 e4 e5 e6 e7
        rename Fr g2 L' _ _ => F5
        rename News g2 L' _ _ => N5
        rename Obj.SetObjOf _ so S c => hso5
        clear F5 N5 hso5 m1 m2 m3 m4 m5 hk3
        rintro n s' ⟨g2, h', tk', m', fs, S, k, t, rfl, TUR, FS6, m6, hkk, hor, hrk, hn⟩
        obtain ⟨F3, m1, m2, m3, m4, m5, ris, sn, nd, vs, n1, n2, no, so, c, kvs, N3, hvs, hno, hkv3, hkc, hso, hc9⟩ := FS6
        have TUR' := TUR
        obtain ⟨KT2, B2, X2, T2, D2⟩ := TUR
        obtain ⟨R, hRe⟩ : ∃ R, R = bn sA fs ++ [(I, oI4), (x, instObj 151 dx), (dx, dictOf (sEs w (.ref d) rd po nf t1 t2 t3 t4) 4)] := ⟨_, rfl⟩
        rw [← hRe] at N3 nd
        have nd' := nd
        simp only [List.nodup_cons, List.mem_cons, not_or] at nd'
        obtain ⟨⟨a1, a2, a3, a4, a5⟩, ⟨b2, b3, b4, b5⟩, ⟨c3, c4, c5⟩, ⟨e4, e5⟩, f5, _⟩ := nd'
        have r1 : ∀ p ∈ R, p.1 ≠ ns := fun p hp e => a5 (e ▸ List.mem_map_of_mem hp)
        have r2 : ∀ p ∈ R, p.1 ≠ se := fun p hp e => b5 (e ▸ List.mem_map_of_mem hp)
        have r3 : ∀ p ∈ R, p.1 ≠ its := fun p hp e => c5 (e ▸ List.mem_map_of_mem hp)
        have r4 : ∀ p ∈ R, p.1 ≠ st := fun p hp e => e5 (e ▸ List.mem_map_of_mem hp)
        (repeat' (first | (k_unfold; (try dsimp only)) | (k_end; wrow_close) | ((fail_if_success (with_reducible (refine Mine.stop_here ?_ ?_; first | walk_at "s0" | exact Mine.p11))); walk1) | (dsimp only; (fail_if_success (with_reducible (refine Mine.stop_here ?_ ?_; first | walk_at "s0" | exact Mine.p11))); walk1) | (leave1; walk_say "STEP leave1"; try dsimp only) | walk_at "onk" | fail "no step"))
        refine wpAny_mono (Q := fun f s' => Held (f = .next ∧ (Ex6 fun g2 h' tk' m' fs S => Cj4 (s' = { s with heap := h', toks := tk' }) (TU g2) (FSx oI4 g2 h' m' fs S) (unseen succ S keys + onStack succ fs ≤ n)))) (E := ek) ?_ ?_ (fun _ _ e => e)
        · (repeat' (first | (k_unfold; (try dsimp only)) | (k_end; wrow_close) | ((fail_if_success (with_reducible (refine Mine.stop_here ?_ ?_; walk_at "s0"))); walk1) | (dsimp only; (fail_if_success (with_reducible (refine Mine.stop_here ?_ ?_; walk_at "s0"))); walk1) | (leave1; walk_say "STEP leave1"; try dsimp only) | walk_at "onk" | fail "no step"))
          · refine' kda_in (knd := intKind PG w) (kvs := kvs) (k := k) N3 (.head _) hno hns ?b1 false ?b2 ?_
            (case b1 => simp [intKind, Value.isInt])
            (case b2 =>
              have := hkv3 k
              cases q : (valueAt kvs k).isSome with
              | false => rfl
              | true => obtain ⟨f, hf, e⟩ := this.mp q; have := hrk f hf; rw [e] at this; lia)
            (repeat' (first | (k_unfold; (try dsimp only)) | (k_end; wrow_close) | ((fail_if_success (with_reducible (refine Mine.stop_here ?_ ?_; first | walk_at "s0" | exact Mine.p12 | exact Mine.p13 | exact Mine.p14 | exact Mine.p15 | exact Mine.p16 | exact Mine.p17 | exact Mine.p18 | exact Mine.p19))); walk1) | (dsimp only; (fail_if_success (with_reducible (refine Mine.stop_here ?_ ?_; first | walk_at "s0" | exact Mine.p12 | exact Mine.p13 | exact Mine.p14 | exact Mine.p15 | exact Mine.p16 | exact Mine.p17 | exact Mine.p18 | exact Mine.p19))); walk1) | (leave1; walk_say "STEP leave1"; try dsimp only) | walk_at "onk" | fail "no step"))
            exact ⟨⟨rfl, g2, _, _, m', fs, S, rfl, TUR', ⟨F3, m1, m2, m3, m4, m5, ris, sn, hRe ▸ nd, vs, n1, n2, no, so, c, kvs, hRe ▸ N3, hvs, hno, hkv3, hkc, hso, hc9⟩, hn⟩⟩
          · --[[
            rename Fr g2 L' _ _ => F5
            rename News g2 L' _ _ => N5
            rename Obj.SetObjOf _ _ _ _ => hso5
            rename_i hSk _ h5 so5
            have hhp : ∀ p ∈ srt, h5.get? p.1 = some p.2 := fun p hp => F5.keep _ _ (hR g2 TUR' p hp)
            refine' kda_item (kvs := kvsOf keys nA) (k := k) (knd := intKind PG w) N5 (.tail _ (.tail _ (.tail _ (.tail _ (.head _))))) hD ?b3 (kvs_some hkk) ?_
            (case b3 => simp [intKind, Value.isInt])
            refine succ_getH F5 X2 hhp Nd hkk ?_
            (repeat' (first | (k_unfold; (try dsimp only)) | (k_end; wrow_close) | ((fail_if_success (with_reducible (refine Mine.stop_here ?_ ?_; first | walk_at "s0" | exact Mine.p12 | exact Mine.p13 | exact Mine.p14 | exact Mine.p15 | exact Mine.p16 | exact Mine.p17 | exact Mine.p18 | exact Mine.p19))); walk1) | (dsimp only; (fail_if_success (with_reducible (refine Mine.stop_here ?_ ?_; first | walk_at "s0" | exact Mine.p12 | exact Mine.p13 | exact Mine.p14 | exact Mine.p15 | exact Mine.p16 | exact Mine.p17 | exact Mine.p18 | exact Mine.p19))); walk1) | (leave1; walk_say "STEP leave1"; try dsimp only) | walk_at "onk" | fail "no step"))
            obtain ⟨sv, ne, hsv, hsm⟩ := Nd.list k hkk
            refine iter_list F5 N5 ⟨_, hhp _ hsm, rfl, _, rfl⟩ ?_
            intro it h6 F6 N6 l6
            refine next_attr F6 N6 (.head _) ?_
            intro b h7 F7 N7 l7
            (try dsimp only)
            have N8 : News g2 L' h7 ((ns, no) :: (se, so5) :: (its, listOf (fs.reverse.map fun f => Value.ref f.b).toArray n2) :: (st, listOf vs.toArray n1) :: (d, od) :: (b, mwO it) :: (it, liO (sA k) 0) :: R) := fun p hp => N7 p (by
              simp only [List.mem_cons] at hp ⊢
              rcases hp with h | h | h | h | h | h | h | h <;> simp [h])
            have y1 : ∀ p ∈ (b, mwO it) :: (it, liO (sA k) 0) :: R, p.1 ≠ ns := by
              intro p hp
              rcases List.mem_cons.mp hp with h | hp
              · subst h; exact Nat.ne_of_gt (l7 _ (.tail _ (.head _)))
              rcases List.mem_cons.mp hp with h | hp
              · subst h; exact Nat.ne_of_gt (l6 _ (.head _))
              · exact r1 p hp
            have y2 : ∀ p ∈ (b, mwO it) :: (it, liO (sA k) 0) :: R, p.1 ≠ se := by
              intro p hp
              rcases List.mem_cons.mp hp with h | hp
              · subst h; exact Nat.ne_of_gt (l7 _ (.tail _ (.tail _ (.head _))))
              rcases List.mem_cons.mp hp with h | hp
              · subst h; exact Nat.ne_of_gt (l6 _ (.tail _ (.head _)))
              · exact r2 p hp
            have y3 : ∀ p ∈ (b, mwO it) :: (it, liO (sA k) 0) :: R, p.1 ≠ its := by
              intro p hp
              rcases List.mem_cons.mp hp with h | hp
              · subst h; exact Nat.ne_of_gt (l7 _ (.tail _ (.tail _ (.tail _ (.head _)))))
              rcases List.mem_cons.mp hp with h | hp
              · subst h; exact Nat.ne_of_gt (l6 _ (.tail _ (.tail _ (.head _))))
              · exact r3 p hp
            have y4 : ∀ p ∈ (b, mwO it) :: (it, liO (sA k) 0) :: R, p.1 ≠ st := by
              intro p hp
              rcases List.mem_cons.mp hp with h | hp
              · subst h; exact Nat.ne_of_gt (l7 _ (.tail _ (.tail _ (.tail _ (.tail _ (.head _))))))
              rcases List.mem_cons.mp hp with h | hp
              · subst h; exact Nat.ne_of_gt (l6 _ (.tail _ (.tail _ (.tail _ (.head _)))))
              · exact r4 p hp
            have nd8 : (ns :: se :: its :: st :: d :: ((b, mwO it) :: (it, liO (sA k) 0) :: R).map (·.1)).Nodup := by
              have z1 : ∀ p ∈ R, p.1 < it := fun p hp => l6 p (.tail _ (.tail _ (.tail _ (.tail _ (.tail _ hp)))))
              have z2 : ∀ p ∈ R, p.1 < b := fun p hp => l7 p (.tail _ (.tail _ (.tail _ (.tail _ (.tail _ (.tail _ hp))))))
              have z3 : it < b := l7 _ (.head _)
              have z4 : d < it := l6 (d, od) (.tail _ (.tail _ (.tail _ (.tail _ (.head _)))))
              rename (R.map (·.1)).Nodup => ndR
              have q : ∀ (v : Addr) (r : List (Addr × Obj)), (∀ p ∈ r, p.1 ≠ v) → v ∉ r.map (·.1) := fun v r h e => by
                obtain ⟨p, hp, e⟩ := List.mem_map.mp e
                exact h p hp e
              have ndb : (((b, mwO it) :: (it, liO (sA k) 0) :: R).map (·.1)).Nodup := by
                rw [List.map_cons, List.nodup_cons, List.map_cons, List.nodup_cons]
                refine ⟨?_, q _ _ fun p hp => Nat.ne_of_lt (z1 p hp), ndR⟩
                intro e
                rcases List.mem_cons.mp e with e | e
                · exact absurd e (Nat.ne_of_gt z3)
                · exact q _ _ (fun p hp => Nat.ne_of_lt (z2 p hp)) e
              refine List.nodup_cons.mpr ⟨?_, List.nodup_cons.mpr ⟨?_, List.nodup_cons.mpr ⟨?_, List.nodup_cons.mpr ⟨?_, List.nodup_cons.mpr ⟨?_, ndb⟩⟩⟩⟩⟩
              · simp only [List.mem_cons, not_or]; exact ⟨a1, a2, a3, a4, by have := q _ _ y1; simpa [List.map_cons, List.mem_cons, not_or] using this⟩
              · simp only [List.mem_cons, not_or]; exact ⟨b2, b3, b4, by have := q _ _ y2; simpa [List.map_cons, List.mem_cons, not_or] using this⟩
              · simp only [List.mem_cons, not_or]; exact ⟨c3, c4, by have := q _ _ y3; simpa [List.map_cons, List.mem_cons, not_or] using this⟩
              · simp only [List.mem_cons, not_or]; exact ⟨e4, by have := q _ _ y4; simpa [List.map_cons, List.mem_cons, not_or] using this⟩
              · refine q _ _ fun p hp => ?_
                rcases List.mem_cons.mp hp with h | hp
                · subst h; exact Nat.ne_of_gt (Nat.lt_trans z4 z3)
                rcases List.mem_cons.mp hp with h | hp
                · subst h; exact Nat.ne_of_gt z4
                · intro e; exact f5 (e ▸ List.mem_map_of_mem hp)
            generalize hR8 : (b, mwO it) :: (it, liO (sA k) 0) :: R = R8 at N8 y1 y2 y3 y4 nd8
            clear N7 N6 F6 F5 N5 N3 F3 l6 l7
            have hfl : (fs.reverse.map fun f => Value.ref f.b).length ≤ 900 := by simp; lia
            have hvl : vs.length ≤ 900 := by have := hvs.length; simp at this; lia
            (repeat' (first | (k_unfold; (try dsimp only)) | (k_end; wrow_close) | ((fail_if_success (with_reducible (refine Mine.stop_here ?_ ?_; first | walk_at "s0" | exact Mine.p12 | exact Mine.p13 | exact Mine.p14 | exact Mine.p15 | exact Mine.p16 | exact Mine.p17 | exact Mine.p18 | exact Mine.p19))); walk1) | (dsimp only; (fail_if_success (with_reducible (refine Mine.stop_here ?_ ?_; first | walk_at "s0" | exact Mine.p12 | exact Mine.p13 | exact Mine.p14 | exact Mine.p15 | exact Mine.p16 | exact Mine.p17 | exact Mine.p18 | exact Mine.p19))); walk1) | (leave1; walk_say "STEP leave1"; try dsimp only) | walk_at "onk" | fail "no step"))
            rename Fr g2 L' _ _ => F9
            rename News g2 L' _ _ => N9
            refine kun_lenL (items := vs.toArray) (N9.isList (.tail _ (.tail _ (.tail _ (.head _))))) rfl (by simp; lia) ?_
            (repeat' (first | (k_unfold; (try dsimp only)) | (k_end; wrow_close) | ((fail_if_success (with_reducible (refine Mine.stop_here ?_ ?_; first | walk_at "s0" | exact Mine.p12 | exact Mine.p13 | exact Mine.p14 | exact Mine.p15 | exact Mine.p16 | exact Mine.p17 | exact Mine.p18 | exact Mine.p19))); walk1) | (dsimp only; (fail_if_success (with_reducible (refine Mine.stop_here ?_ ?_; first | walk_at "s0" | exact Mine.p12 | exact Mine.p13 | exact Mine.p14 | exact Mine.p15 | exact Mine.p16 | exact Mine.p17 | exact Mine.p18 | exact Mine.p19))); walk1) | (leave1; walk_say "STEP leave1"; try dsimp only) | walk_at "onk" | fail "no step"))
            refine' kda_set (knd := intKind PG w) (kvs := kvs) (k := k) F9 N9 ?b1 hno ?b2 ?b3 ?_
            (case b1 => k_updF)
            (case b2 => simp [intKind, Value.isInt])
            (case b3 => rw [sizeLine_eq]; lia)
            intro h10 no10 F10 N10 hno10
            (try dsimp only at N10)
            clear F9 N9
            (repeat' (first | (k_unfold; (try dsimp only)) | (k_end; wrow_close) | ((fail_if_success (with_reducible (refine Mine.stop_here ?_ ?_; first | walk_at "s0" | exact Mine.p12 | exact Mine.p13 | exact Mine.p14 | exact Mine.p15 | exact Mine.p16 | exact Mine.p17 | exact Mine.p18 | exact Mine.p19))); walk1) | (dsimp only; (fail_if_success (with_reducible (refine Mine.stop_here ?_ ?_; first | walk_at "s0" | exact Mine.p12 | exact Mine.p13 | exact Mine.p14 | exact Mine.p15 | exact Mine.p16 | exact Mine.p17 | exact Mine.p18 | exact Mine.p19))); walk1) | (leave1; walk_say "STEP leave1"; try dsimp only) | walk_at "onk" | fail "no step"))
            rename Fr g2 L' _ _ => F11
            rename News g2 L' _ _ => N11
            have hc10 : (if S k = true then c else c + 1) = c + 1 := if_neg (by simp [hSk])
            rw [hc10] at hso5
            have hcnt := count_add S k hSk keys hkk
            have huns := unseen_add succ S k hSk keys hkk
            refine ⟨⟨rfl, g2, _, _, m', ⟨k, b, it, 0⟩ :: fs, (fun k' => S k' || decide (k' = k)), rfl, TUR', FS.mk F11 m1 m2 m3 m4 m5 ⟨hkk, Nat.zero_le _, hrk, ris⟩ ?_ ?_ ⟨vs ++ [.int k t], n1 + 1, n2 + 1, no10, so5, c + 1, stored kvs k _, fun p hp => N11 p ?_, ?_, hno10, hkv3.push ⟨k, b, it, 0⟩ _, ⟨Nat.le_trans (stored_length_le _ _ _) (by lia), by simp; lia⟩, hso5, by lia⟩, ?_⟩⟩
            · intro f hf
              rcases List.mem_cons.mp hf with h | h
              · subst h; simp
              · simp [sn f h]
            · rw [show bn sA (⟨k, b, it, 0⟩ :: fs) ++ _ = R8 from by rw [← hR8, hRe]; rfl]; exact nd8
            · rw [show bn sA (⟨k, b, it, 0⟩ :: fs) ++ _ = R8 from by rw [← hR8, hRe]; rfl] at hp
              simpa using hp
            · simpa using hvs.append (.cons k t .nil)
            · simp only [onStack, List.map_cons, List.sum_cons] at hn ⊢
              lia
            --]]
        · rintro f s' ⟨rfl, g2, h', tk', m', fs, S, rfl, TUR, FS7, hn7⟩
          clear nd N3 hRe a1 a2 a3 a4 a5 b2 b3 b4 b5 c3 c4 c5 e4 e5 f5 r1 r2 r3 r4 hno hkv3 hkc hso hc9 hvs sn ris F3 m1 m2 m3 m4 m5 m6 TUR' KT2 B2 X2 T2 D2 hor hrk hn hkk
          (try dsimp only)
          (repeat' (first | (k_unfold; (try dsimp only)) | (k_end; wrow_close) | ((fail_if_success (with_reducible (refine Mine.stop_here ?_ ?_; first | walk_at "s0" | exact Mine.p12 | exact Mine.p13 | exact Mine.p14 | exact Mine.p15 | exact Mine.p16 | exact Mine.p17 | exact Mine.p18 | exact Mine.p19))); walk1) | (dsimp only; (fail_if_success (with_reducible (refine Mine.stop_here ?_ ?_; first | walk_at "s0" | exact Mine.p12 | exact Mine.p13 | exact Mine.p14 | exact Mine.p15 | exact Mine.p16 | exact Mine.p17 | exact Mine.p18 | exact Mine.p19))); walk1) | (leave1; walk_say "STEP leave1"; try dsimp only) | walk_at "onk" | fail "no step"))
          refine while_inv (fun m s' => (Ex6 fun g2 h' tk' m' fs S => Cj5 (s' = { s with heap := h', toks := tk' }) (TU g2) (FSx oI4 g2 h' m' fs S) (unseen succ S keys + onStack succ fs ≤ n) (fs.length = m))) (by passes_own) ?_ fs.length ⟨g2, h', tk', m', fs, S, rfl, TUR, FS7, hn7, rfl⟩
          rintro m s' ⟨g2, h', tk', m', fs, S, rfl, TUR, FS8, hn8, hm8⟩
          obtain ⟨F3, m1, m2, m3, m4, m5, ris, sn, nd, vs, n1, n2, no, so, c, kvs, N3, hvs, hno, hkv3, hkc, hso, hc9⟩ := FS8
          have TUR' := TUR
          obtain ⟨KT2, B2, X2, T2, D2⟩ := TUR
          cases fs with
          | nil =>
            (repeat' (first | (k_unfold; (try dsimp only)) | (k_end; wrow_close) | ((fail_if_success (with_reducible (refine Mine.stop_here ?_ ?_; first | walk_at "s0" | exact Mine.p12 | exact Mine.p13 | exact Mine.p14 | exact Mine.p15 | exact Mine.p16 | exact Mine.p17 | exact Mine.p18 | exact Mine.p19))); walk1) | (dsimp only; (fail_if_success (with_reducible (refine Mine.stop_here ?_ ?_; first | walk_at "s0" | exact Mine.p12 | exact Mine.p13 | exact Mine.p14 | exact Mine.p15 | exact Mine.p16 | exact Mine.p17 | exact Mine.p18 | exact Mine.p19))); walk1) | (leave1; walk_say "STEP leave1"; try dsimp only) | walk_at "onk" | fail "no step"))
            rename Fr g2 L' _ _ => F9
            rename News g2 L' _ _ => N9
            refine truthy_ints_fit (vs := vs) (N9.isList (.tail _ (.tail _ (.tail _ (.head _))))) hvs (by decide) ?_
            refine WhlIf.no rfl ?_
            (try dsimp only)
            (repeat' (first | (k_unfold; (try dsimp only)) | (k_end; wrow_close) | ((fail_if_success (with_reducible (refine Mine.stop_here ?_ ?_; first | walk_at "s0" | exact Mine.p12 | exact Mine.p13 | exact Mine.p14 | exact Mine.p15 | exact Mine.p16 | exact Mine.p17 | exact Mine.p18 | exact Mine.p19))); walk1) | (dsimp only; (fail_if_success (with_reducible (refine Mine.stop_here ?_ ?_; first | walk_at "s0" | exact Mine.p12 | exact Mine.p13 | exact Mine.p14 | exact Mine.p15 | exact Mine.p16 | exact Mine.p17 | exact Mine.p18 | exact Mine.p19))); walk1) | (leave1; walk_say "STEP leave1"; try dsimp only) | walk_at "onk" | fail "no step"))
            dsimp only [WEnd]
            (repeat' (first | (k_unfold; (try dsimp only)) | (k_end; wrow_close) | ((fail_if_success (with_reducible (refine Mine.stop_here ?_ ?_; first | walk_at "s0" | exact Mine.p12 | exact Mine.p13 | exact Mine.p14 | exact Mine.p15 | exact Mine.p16 | exact Mine.p17 | exact Mine.p18 | exact Mine.p19))); walk1) | (dsimp only; (fail_if_success (with_reducible (refine Mine.stop_here ?_ ?_; first | walk_at "s0" | exact Mine.p12 | exact Mine.p13 | exact Mine.p14 | exact Mine.p15 | exact Mine.p16 | exact Mine.p17 | exact Mine.p18 | exact Mine.p19))); walk1) | (leave1; walk_say "STEP leave1"; try dsimp only) | walk_at "onk" | fail "no step"))
            exact ⟨g2, _, _, m', oI4, S, rfl, TUR', hI4c, FS.mk F9 m1 m2 m3 m4 m5 ris sn nd ⟨vs, n1, n2, no, so, c, kvs, N9, hvs, hno, hkv3, hkc, hso, hc9⟩⟩
          | cons f fs =>
            obtain ⟨R, hRe⟩ : ∃ R, R = bn sA fs ++ [(I, oI4), (x, instObj 151 dx), (dx, dictOf (sEs w (.ref d) rd po nf t1 t2 t3 t4) 4)] := ⟨_, rfl⟩
            have hRb : bn sA (f :: fs) ++ [(I, oI4), (x, instObj 151 dx), (dx, dictOf (sEs w (.ref d) rd po nf t1 t2 t3 t4) 4)] = (f.b, mwO f.it) :: (f.it, liO (sA f.k) f.i) :: R := by rw [hRe]; rfl
            have hits : ((f :: fs).reverse.map fun f => Value.ref f.b) = (fs.reverse.map fun f => Value.ref f.b) ++ [Value.ref f.b] := by simp
            have hstk : ((f :: fs).reverse.map fun f => f.k) = (fs.reverse.map fun f => f.k) ++ [f.k] := by simp
            rw [hRb, hits] at N3
            rw [hRb] at nd
            rw [hstk] at hvs
            have nd' := nd
            simp only [List.map_cons, List.nodup_cons, List.mem_cons, not_or] at nd'
            obtain ⟨⟨a1, a2, a3, a4, a6, a7, a5⟩, ⟨b2, b3, b4, b6, b7, b5⟩, ⟨c3, c4, c6, c7, c5⟩, ⟨e4, e6, e7, e5⟩, ⟨f6, f7, f5⟩, ⟨i7, i5⟩, j5, _⟩ := nd'
            have r1 : ∀ p ∈ R, p.1 ≠ ns := fun p hp e => a5 (e ▸ List.mem_map_of_mem hp)
            have r2 : ∀ p ∈ R, p.1 ≠ se := fun p hp e => b5 (e ▸ List.mem_map_of_mem hp)
            have r3 : ∀ p ∈ R, p.1 ≠ its := fun p hp e => c5 (e ▸ List.mem_map_of_mem hp)
            have r4 : ∀ p ∈ R, p.1 ≠ st := fun p hp e => e5 (e ▸ List.mem_map_of_mem hp)
            have u1 : @Ne Nat f.b ns := fun q => a6 q.symm
            have u2 : @Ne Nat f.b se := fun q => b6 q.symm
            have u3 : @Ne Nat f.b its := fun q => c6 q.symm
            have u4 : @Ne Nat f.b st := fun q => e6 q.symm
            have v1 : @Ne Nat f.it ns := fun q => a7 q.symm
            have v2 : @Ne Nat f.it se := fun q => b7 q.symm
            have v3 : @Ne Nat f.it its := fun q => c7 q.symm
            have v4 : @Ne Nat f.it st := fun q => e7 q.symm
            have r5 : ∀ p ∈ R, p.1 ≠ f.it := fun p hp e => j5 (e ▸ List.mem_map_of_mem hp)
            have hfl : ((fs.reverse.map fun f => Value.ref f.b) ++ [Value.ref f.b]).length ≤ 900 := by simp at hkc ⊢; lia
            have hvl : vs.length ≤ 900 := by have := hvs.length; simp at this; simp at hkc; lia
            (repeat' (first | (k_unfold; (try dsimp only)) | (k_end; wrow_close) | ((fail_if_success (with_reducible (refine Mine.stop_here ?_ ?_; first | walk_at "s0" | exact Mine.p12 | exact Mine.p13 | exact Mine.p14 | exact Mine.p15 | exact Mine.p16 | exact Mine.p17 | exact Mine.p18 | exact Mine.p19))); walk1) | (dsimp only; (fail_if_success (with_reducible (refine Mine.stop_here ?_ ?_; first | walk_at "s0" | exact Mine.p12 | exact Mine.p13 | exact Mine.p14 | exact Mine.p15 | exact Mine.p16 | exact Mine.p17 | exact Mine.p18 | exact Mine.p19))); walk1) | (leave1; walk_say "STEP leave1"; try dsimp only) | walk_at "onk" | fail "no step"))
            rename Fr g2 L' _ _ => F9
            rename News g2 L' _ _ => N9
            refine truthy_ints_fit (vs := vs) (N9.isList (.tail _ (.tail _ (.tail _ (.head _))))) hvs (by simp; simp at hkc; lia) ?_
            refine WhlIf.yes (by simp) ?_
            (try dsimp only)
            (repeat' (first | (k_unfold; (try dsimp only)) | (k_end; wrow_close) | ((fail_if_success (with_reducible (refine Mine.stop_here ?_ ?_; first | walk_at "s0" | exact Mine.p12 | exact Mine.p13 | exact Mine.p14 | exact Mine.p15 | exact Mine.p16 | exact Mine.p17 | exact Mine.p18 | exact Mine.p19))); walk1) | (dsimp only; (fail_if_success (with_reducible (refine Mine.stop_here ?_ ?_; first | walk_at "s0" | exact Mine.p12 | exact Mine.p13 | exact Mine.p14 | exact Mine.p15 | exact Mine.p16 | exact Mine.p17 | exact Mine.p18 | exact Mine.p19))); walk1) | (leave1; walk_say "STEP leave1"; try dsimp only) | walk_at "onk" | fail "no step"))
            walk1
            (try dsimp only)
            (repeat' (first | (k_unfold; (try dsimp only)) | (k_end; wrow_close) | ((fail_if_success (with_reducible (refine Mine.stop_here ?_ ?_; first | walk_at "s0" | exact Mine.p12 | exact Mine.p13 | exact Mine.p14 | exact Mine.p15 | exact Mine.p16 | exact Mine.p17 | exact Mine.p18 | exact Mine.p19))); walk1) | (dsimp only; (fail_if_success (with_reducible (refine Mine.stop_here ?_ ?_; first | walk_at "s0" | exact Mine.p12 | exact Mine.p13 | exact Mine.p14 | exact Mine.p15 | exact Mine.p16 | exact Mine.p17 | exact Mine.p18 | exact Mine.p19))); walk1) | (leave1; walk_say "STEP leave1"; try dsimp only) | walk_at "onk" | fail "no step"))
            (try dsimp only)
            refine item_last (p := fs.reverse.map fun f => Value.ref f.b) (y := Value.ref f.b) ?b1 ?_ ?b2 ?b3
            (case b1 => exact N9.isList (.tail _ (.tail _ (.head _))))
            (case b2 => with_unfolding_all rfl)
            (case b3 => (intro _; with_unfolding_all rfl))
            (try dsimp only)
            refine callWith_mw0 (N9 _ (.tail _ (.tail _ (.tail _ (.tail _ (.tail _ (.head _))))))).1 ?_
            refine wpAny_call ?_
            obtain ⟨hfk, hfi, hfr2, ris'⟩ := ris
            obtain ⟨sv, ne, hsv, hsm⟩ := Nd.list f.k hfk
            have hhp : h'.get? (sA f.k) = some (listOf sv.toArray ne) := F9.keep _ _ (hR g2 TUR' _ hsm)
            by_cases hlt : f.i < (succ f.k).length
            · have hlt' : f.i < sv.length := by rw [hsv.length]; exact hlt
              obtain ⟨tj, hj⟩ : ∃ tj, sv[f.i]? = some (.int (succ f.k)[f.i] tj) := hsv.get f.i _ (List.getElem?_eq_getElem hlt)
              refine' mw_itemN (items := sv.toArray) (x := .int (succ f.k)[f.i] tj) F9 N9 (.tail _ (.tail _ (.tail _ (.tail _ (.tail _ (.head _)))))) (.tail _ (.tail _ (.tail _ (.tail _ (.tail _ (.tail _ (.head _))))))) ?b1 ⟨_, hhp, rfl, _, rfl⟩ ?b2 ?_
              (case b1 => k_updF)
              (case b2 => simpa using hj)
              intro h10 F10 N10
              (try dsimp only at N10)
              (try dsimp only)
              clear F9 N9
              (repeat' (first | (k_unfold; (try dsimp only)) | (k_end; wrow_close) | ((fail_if_success (with_reducible (refine Mine.stop_here ?_ ?_; first | walk_at "s0" | exact Mine.p12 | exact Mine.p13 | exact Mine.p14 | exact Mine.p15 | exact Mine.p16 | exact Mine.p17 | exact Mine.p18 | exact Mine.p19))); walk1) | (dsimp only; (fail_if_success (with_reducible (refine Mine.stop_here ?_ ?_; first | walk_at "s0" | exact Mine.p12 | exact Mine.p13 | exact Mine.p14 | exact Mine.p15 | exact Mine.p16 | exact Mine.p17 | exact Mine.p18 | exact Mine.p19))); walk1) | (leave1; walk_say "STEP leave1"; try dsimp only) | walk_at "onk" | fail "no step"))
              rename Fr g2 L' _ _ => F11
              rename News g2 L' _ _ => N11
              dsimp only [WEnd]
              (repeat' (first | (k_unfold; (try dsimp only)) | (k_end; wrow_close) | ((fail_if_success (with_reducible (refine Mine.stop_here ?_ ?_; first | walk_at "s0" | exact Mine.p12 | exact Mine.p13 | exact Mine.p14 | exact Mine.p15 | exact Mine.p16 | exact Mine.p17 | exact Mine.p18 | exact Mine.p19))); walk1) | (dsimp only; (fail_if_success (with_reducible (refine Mine.stop_here ?_ ?_; first | walk_at "s0" | exact Mine.p12 | exact Mine.p13 | exact Mine.p14 | exact Mine.p15 | exact Mine.p16 | exact Mine.p17 | exact Mine.p18 | exact Mine.p19))); walk1) | (leave1; walk_say "STEP leave1"; try dsimp only) | walk_at "onk" | fail "no step"))
              have hjj := hs f.k hfk _ (List.getElem_mem hlt)
              refine ⟨unseen succ S keys + onStack succ (⟨f.k, f.b, f.it, f.i + 1⟩ :: fs), ?_, g2, _, _, _, ⟨f.k, f.b, f.it, f.i + 1⟩ :: fs, S, (succ f.k)[f.i], tj, rfl, TUR', FS.mk F11 ((if_neg (by decide)).trans m1) ((if_neg (by decide)).trans m2) ((if_neg (by decide)).trans m3) ((if_neg (by decide)).trans m4) ((if_neg (by decide)).trans m5) ⟨hfk, hlt, hfr2, ris'⟩ ?_ ?_ ⟨vs, n1, n2, no, so, c, kvs, fun p hp => N11 p ?_, ?_, hno, ?_, ?_, hso, hc9⟩, if_pos rfl, hjj.1, .inr (List.cons_ne_nil _ _), ?_, Nat.le_refl _⟩
              · simp only [onStack, List.map_cons, List.sum_cons] at hn8 ⊢
                lia
              · intro f' hf'
                rcases List.mem_cons.mp hf' with h | h
                · subst h; exact sn f (.head _)
                · exact sn f' (.tail _ h)
              · have e : ((bn sA (⟨f.k, f.b, f.it, f.i + 1⟩ :: fs) ++ [(I, oI4), (x, instObj 151 dx), (dx, dictOf (sEs w (.ref d) rd po nf t1 t2 t3 t4) 4)]).map (·.1)) = ((f.b, mwO f.it) :: (f.it, liO (sA f.k) f.i) :: R).map (·.1) := by rw [hRe]; rfl
                rw [e]; exact nd
              · have e : bn sA (⟨f.k, f.b, f.it, f.i + 1⟩ :: fs) ++ [(I, oI4), (x, instObj 151 dx), (dx, dictOf (sEs w (.ref d) rd po nf t1 t2 t3 t4) 4)] = (f.b, mwO f.it) :: (f.it, liO (sA f.k) (f.i + 1)) :: R := by rw [hRe]; rfl
                rw [e] at hp
                simpa using hp
              · simpa using hvs
              · intro k
                rw [hkv3 k]
                constructor
                · rintro ⟨f', h1, h2⟩
                  rcases List.mem_cons.mp h1 with h | h
                  · subst h; exact ⟨_, .head _, h2⟩
                  · exact ⟨f', .tail _ h, h2⟩
                · rintro ⟨f', h1, h2⟩
                  rcases List.mem_cons.mp h1 with h | h
                  · subst h; exact ⟨_, .head _, h2⟩
                  · exact ⟨f', .tail _ h, h2⟩
              · simpa using hkc
              · intro f' hf'
                rcases List.mem_cons.mp hf' with h | h
                · subst h; exact hjj.2
                · exact Nat.lt_trans (hfr2 f' h) hjj.2
            · refine' mw_endN (items := sv.toArray) rfl F9 N9 (.tail _ (.tail _ (.tail _ (.tail _ (.tail _ (.head _)))))) (.tail _ (.tail _ (.tail _ (.tail _ (.tail _ (.tail _ (.head _))))))) ?b1 ⟨_, hhp, rfl, _, rfl⟩ ?b2 ?_
              (case b1 => k_updF)
              (case b2 => have := hsv.length; simp; lia)
              intro h10 h11 e11 X11 F10 N10
              (try dsimp only at N10)
              (try dsimp only)
              refine caught_here (X := "StopIteration") (T' := "StopIteration") X11 F10 N10 B2 XB TB D2 ?c1 ?c2 ?c3 ?c4 ?c5 ?c6 ?_
              (case c1 => k_is)
              (case c2 => rfl)
              (case c3 => decide)
              (case c4 => rfl)
              (case c5 => rfl)
              (case c6 => rfl)
              intro h8 g8 KT8 F8 N8 B8 X8 T8 D8
              clear F9 N9 F10 N10
              (repeat' (first | (k_unfold; (try dsimp only)) | (k_end; wrow_close) | ((fail_if_success (with_reducible (refine Mine.stop_here ?_ ?_; first | walk_at "s0" | exact Mine.p12 | exact Mine.p13 | exact Mine.p14 | exact Mine.p15 | exact Mine.p16 | exact Mine.p17 | exact Mine.p18 | exact Mine.p19))); walk1) | (dsimp only; (fail_if_success (with_reducible (refine Mine.stop_here ?_ ?_; first | walk_at "s0" | exact Mine.p12 | exact Mine.p13 | exact Mine.p14 | exact Mine.p15 | exact Mine.p16 | exact Mine.p17 | exact Mine.p18 | exact Mine.p19))); walk1) | (leave1; walk_say "STEP leave1"; try dsimp only) | walk_at "onk" | fail "no step"))
              have hvl2 := hvs.length
              simp only [List.length_append, List.length_map, List.length_reverse, List.length_cons, List.length_nil] at hvl2
              refine' kpa_pop (us := vs) F8 N8 ?b3 hvs ?b4 ?b5 ?_
              (case b3 => k_upd)
              (case b4 => lia)
              (case b5 => rw [sizeLine_eq]; lia)
              intro h12 t12 F12 N12 hi12
              have el : ((fs.reverse.map fun f => f.k) ++ [f.k]).getLastD 0 = f.k := by simp
              have ed : ((fs.reverse.map fun f => f.k) ++ [f.k]).dropLast = fs.reverse.map fun f => f.k := by simp
              rw [ed] at hi12
              rw [el]
              (try dsimp only at N12)
              (try dsimp only)
              clear F8 N8
              (repeat' (first | (k_unfold; (try dsimp only)) | (k_end; wrow_close) | ((fail_if_success (with_reducible (refine Mine.stop_here ?_ ?_; first | walk_at "s0" | exact Mine.p12 | exact Mine.p13 | exact Mine.p14 | exact Mine.p15 | exact Mine.p16 | exact Mine.p17 | exact Mine.p18 | exact Mine.p19))); walk1) | (dsimp only; (fail_if_success (with_reducible (refine Mine.stop_here ?_ ?_; first | walk_at "s0" | exact Mine.p12 | exact Mine.p13 | exact Mine.p14 | exact Mine.p15 | exact Mine.p16 | exact Mine.p17 | exact Mine.p18 | exact Mine.p19))); walk1) | (leave1; walk_say "STEP leave1"; try dsimp only) | walk_at "onk" | fail "no step"))
              refine' kob_del (knd := intKind PG w) (kvs := kvs) (k := f.k) F12 N12 ?b1 hno ?b2 ?b3 ?b4 ?_
              (case b1 => k_updF)
              (case b2 => simp [intKind, Value.isInt])
              (case b3 => exact (hkv3 f.k).mpr ⟨f, .head _, rfl⟩)
              (case b4 => rw [sizeLine_eq]; lia)
              intro h13 no13 F13 N13 hno13
              (try dsimp only at N13)
              (try dsimp only)
              clear F12 N12
              (repeat' (first | (k_unfold; (try dsimp only)) | (k_end; wrow_close) | ((fail_if_success (with_reducible (refine Mine.stop_here ?_ ?_; first | walk_at "s0" | exact Mine.p12 | exact Mine.p13 | exact Mine.p14 | exact Mine.p15 | exact Mine.p16 | exact Mine.p17 | exact Mine.p18 | exact Mine.p19))); walk1) | (dsimp only; (fail_if_success (with_reducible (refine Mine.stop_here ?_ ?_; first | walk_at "s0" | exact Mine.p12 | exact Mine.p13 | exact Mine.p14 | exact Mine.p15 | exact Mine.p16 | exact Mine.p17 | exact Mine.p18 | exact Mine.p19))); walk1) | (leave1; walk_say "STEP leave1"; try dsimp only) | walk_at "onk" | fail "no step"))
              refine' kl_pop (its := ((fs.reverse.map fun f => Value.ref f.b) ++ [Value.ref f.b]).toArray) (p := fs.reverse.map fun f => Value.ref f.b) (y := Value.ref f.b) F13 N13 ?b1 ?b2 ?b3 ?_
              (case b1 => exact kpa_last (Value.ref f.b) (fs.reverse.map fun f => Value.ref f.b))
              (case b2 => k_upd)
              (case b3 => rw [sizeLine_eq]; exact Nat.le_trans hfl (by decide))
              intro h14 F14 N14
              (try dsimp only at N14)
              (try dsimp only)
              clear F13 N13
              (repeat' (first | (k_unfold; (try dsimp only)) | (k_end; wrow_close) | ((fail_if_success (with_reducible (refine Mine.stop_here ?_ ?_; first | walk_at "s0" | exact Mine.p12 | exact Mine.p13 | exact Mine.p14 | exact Mine.p15 | exact Mine.p16 | exact Mine.p17 | exact Mine.p18 | exact Mine.p19))); walk1) | (dsimp only; (fail_if_success (with_reducible (refine Mine.stop_here ?_ ?_; first | walk_at "s0" | exact Mine.p12 | exact Mine.p13 | exact Mine.p14 | exact Mine.p15 | exact Mine.p16 | exact Mine.p17 | exact Mine.p18 | exact Mine.p19))); walk1) | (leave1; walk_say "STEP leave1"; try dsimp only) | walk_at "onk" | fail "no step"))
              refine ⟨fs.length, by simp at hm8; lia, g8, _, _, m', fs, S, rfl, ⟨KT2.trans KT8, B8, X8, T8, D8⟩, FS.mk F14 m1 m2 m3 m4 m5 ris' (fun f' hf' => sn f' (.tail _ hf')) ?_ ⟨vs.dropLast, n1 + 1, n2 + 1, no13, so, c, without kvs f.k, fun p hp => N14 p ?_, hi12, hno13, hkv3.pop fun f' hf' q => ?_, ⟨Nat.le_trans (length_without_le _ _) hkc.1, by have := hkc.2; simp at this; lia⟩, hso, hc9⟩, ?_, rfl⟩
              · rw [← hRe]
                rename (R.map (·.1)).Nodup => ndR
                refine List.nodup_cons.mpr ⟨?_, List.nodup_cons.mpr ⟨?_, List.nodup_cons.mpr ⟨?_, List.nodup_cons.mpr ⟨?_, List.nodup_cons.mpr ⟨?_, ndR⟩⟩⟩⟩⟩
                · simp only [List.mem_cons, not_or]; exact ⟨a1, a2, a3, a4, a5⟩
                · simp only [List.mem_cons, not_or]; exact ⟨b2, b3, b4, b5⟩
                · simp only [List.mem_cons, not_or]; exact ⟨c3, c4, c5⟩
                · simp only [List.mem_cons, not_or]; exact ⟨e4, e5⟩
                · exact f5
              · rw [← hRe] at hp
                refine led_go hp ?_
                walk_at "led"
              · have := hfr2 f' hf'
                rw [q] at this; lia
              · simp only [onStack, List.map_cons, List.sum_cons] at hn8 ⊢
                lia
      · rename Fr g2 L' _ _ => F5
        rename News g2 L' _ _ => N5
        rename Obj.SetObjOf _ _ S c => hso5
        refine ⟨g2, _, _, _, [], S, k, t, rfl, TUR', FS.mk F5 ((if_neg (by decide)).trans m1) ((if_neg (by decide)).trans m2) ((if_neg (by decide)).trans m3) ((if_neg (by decide)).trans m4) ((if_neg (by decide)).trans m5) trivial (fun f hf => absurd hf List.not_mem_nil) nd ⟨vs, n1, n2, no, so, c, kvs, N5, hvs, hno, hkv3, hkc, hso5, hc9⟩, if_pos rfl, hkk, .inl (by assumption), fun f hf => absurd hf List.not_mem_nil, Nat.le_refl _⟩
  · rintro s' h' tk ⟨g2, h1, tk', m', oI, S, rfl, TUR, hk3, FS3⟩ keep
    obtain ⟨F3, m1, m2, m3, m4, m5, _, _, nd, vs, n1, n2, no, so, c, kvs, N3, hvs, hno, hkv3, hkc, hso, hc9⟩ := FS3
    have nd' := nd
    simp only [bn, List.nil_append, List.map_cons, List.map_nil, List.nodup_cons, List.mem_cons, List.not_mem_nil, not_or, or_false] at nd'
    obtain ⟨⟨a1, a2, a3, a4, a5, a6, a7⟩, ⟨b2, b3, b4, b5, b6, b7⟩, ⟨c3, c4, c5, c6, c7⟩, ⟨e4, e5, e6, e7⟩, ⟨f5, f6, f7⟩, ⟨i6, i7⟩, _⟩ := nd'
    have hIN := N3 (I, oI) (.tail _ (.tail _ (.tail _ (.tail _ (.tail _ (.head _))))))
    have hxN := N3 (x, instObj 151 dx) (.tail _ (.tail _ (.tail _ (.tail _ (.tail _ (.tail _ (.head _)))))))
    have hdxN := N3 (dx, dictOf (sEs w (.ref d) rd po nf t1 t2 t3 t4) 4) (.tail _ (.tail _ (.tail _ (.tail _ (.tail _ (.tail _ (.tail _ (.head _))))))))
    have hdN := N3 (d, od) (.tail _ (.tail _ (.tail _ (.tail _ (.head _)))))
    have F4 : Fr g2 L' h' m' := ⟨F3.ns.at' fun o e => keep _ o (by simpa using fun q => hIN.2.1 q.symm) e, fun b o e => keep b o (by simp only [List.mem_singleton]; rintro rfl; have := hIN.2.2; rw [e] at this; cases this) (F3.keep b o e), F3.above⟩
    have N4 : News g2 L' h' [(x, instObj 151 dx), (dx, dictOf (sEs w (.ref d) rd po nf t1 t2 t3 t4) 4), (d, od)] := by
      intro p hp
      simp only [List.mem_cons, List.not_mem_nil, or_false] at hp
      rcases hp with rfl | rfl | rfl
      · exact ⟨keep _ _ (by simpa using fun q => i6 q.symm) hxN.1, hxN.2⟩
      · exact ⟨keep _ _ (by simpa using fun q => i7 q.symm) hdxN.1, hdxN.2⟩
      · exact ⟨keep _ _ (by simpa using f5) hdN.1, hdN.2⟩
    have hR0 : ∀ p ∈ rest ++ srt, g2.get? p.1 = some p.2 := fun p hp => TUR.keep (kG' _ _ (N p (.tail _ (.tail _ (.tail _ hp)))).1 (by have := P.tl p hp; simp only [List.map_cons, List.map_nil, List.mem_cons, List.not_mem_nil, or_false, not_or]; exact this)) fun q => by
        have z := N p (.tail _ (.tail _ (.tail _ hp)))
        rcases kts_memX (L := L) rfl q with e | e
        · exact z.2.1 e
        · obtain ⟨o, ho, _⟩ := (B.frames.mem e).2
          rw [z.2.2] at ho; cases ho
    clear F3 N3 hvs hno hkv3 hkc hso hc9 nd hIN hxN hdxN hdN
    obtain ⟨KT2, B2, X2, T2, D2⟩ := TUR
    (try dsimp only)
    (repeat' (first | (k_unfold; (try dsimp only)) | (k_end; wrow_close) | ((fail_if_success (with_reducible (refine Mine.stop_here ?_ ?_; first | walk_at "s0" | exact Mine.p12 | exact Mine.p13 | exact Mine.p14 | exact Mine.p15 | exact Mine.p16 | exact Mine.p17 | exact Mine.p18 | exact Mine.p19))); walk1) | (dsimp only; (fail_if_success (with_reducible (refine Mine.stop_here ?_ ?_; first | walk_at "s0" | exact Mine.p12 | exact Mine.p13 | exact Mine.p14 | exact Mine.p15 | exact Mine.p16 | exact Mine.p17 | exact Mine.p18 | exact Mine.p19))); walk1) | (leave1; walk_say "STEP leave1"; try dsimp only) | walk_at "onk" | fail "no step"))
    refine ⟨g2, L', _, _, KT2, F4, N4, fun h₀' KT F N' B X T D => ?_⟩
    refine ret h₀' _ _ KT F B X T D (fun p hp => ?_)
    rcases List.mem_cons.mp hp with h | hp
    · exact N' p (h ▸ .head _)
    rcases List.mem_cons.mp hp with h | hp
    · exact N' p (h ▸ .tail _ (.head _))
    rcases List.mem_cons.mp hp with h | hp
    · exact N' p (h ▸ .tail _ (.tail _ (.head _)))
    · exact ⟨F4.keep _ _ (hR0 p hp), (N p (.tail _ (.tail _ (.tail _ hp)))).2.1, KT.none_ _ (N p (.tail _ (.tail _ (.tail _ hp)))).2.2⟩
end
section
set_option maxHeartbeats 8000000
section
variable {w : World} {A : Around} {E : Value → Shared → Prop} {s : Shared} {h₀ : Heap} {L : Addr} {m : Str → Option Value} {nA dA sA : Int → Addr} {keys : List Int} {np : Int → Int} {succ : Int → List Int} {srt : List (Addr × Obj)} {k : Int}
theorem np_getH {expr : Bool} {Q : Value → Shared → Prop} (F : Fr h₀ L s.heap m) (X : (Mine.hd.heap_1 w.params).In h₀) (hs : ∀ p ∈ srt, s.heap.get? p.1 = some p.2) (Nd : Nodes nA dA sA keys np succ srt) (hk : k ∈ keys)
    (h : ∀ t, Q (.int (np k) t) { s with toks := s.toks + 1 }) : wpAny (model PG w) A (getAttr (.ref (nA k)) (Str.ofString "npredecessors") expr) Q E s := by
  obtain ⟨tk, tp, hm⟩ := Nd.node k hk
  have h1 := hs _ hm
  have h2 := hs _ (Nd.dict k hk)
  k_dflt (refine' get_slot ?k1 ?k2 ?k3 ?k4 ?k5 ?k6 ?k7 ?k8 ?k9 ?k10 ?k11 ?_; (case k1 => k_asm); (case k2 => k_asm); (case k3 => exact (⟨h1, rfl, rfl, h2⟩ : W.InstAt _ _ ⟨.ref 54, some (dA k), .plain, _⟩ 54 (some _))); (case k4 => k_is); (case k5 => k_is); (case k6 => k_is); (case k7 => k_is); (case k8 => k_is); (case k9 => k_is); (case k10 => exact rfl); (case k11 => k_handed); exact h _)
theorem node_getH {expr : Bool} {Q : Value → Shared → Prop} (F : Fr h₀ L s.heap m) (X : (Mine.hd.heap_1 w.params).In h₀) (hs : ∀ p ∈ srt, s.heap.get? p.1 = some p.2) (Nd : Nodes nA dA sA keys np succ srt) (hk : k ∈ keys)
    (h : ∀ t, Q (.int k t) { s with toks := s.toks + 1 }) : wpAny (model PG w) A (getAttr (.ref (nA k)) (Str.ofString "node") expr) Q E s := by
  obtain ⟨tk, tp, hm⟩ := Nd.node k hk
  have h1 := hs _ hm
  have h2 := hs _ (Nd.dict k hk)
  k_dflt (refine' get_slot ?k1 ?k2 ?k3 ?k4 ?k5 ?k6 ?k7 ?k8 ?k9 ?k10 ?k11 ?_; (case k1 => k_asm); (case k2 => k_asm); (case k3 => exact (⟨h1, rfl, rfl, h2⟩ : W.InstAt _ _ ⟨.ref 54, some (dA k), .plain, _⟩ 54 (some _))); (case k4 => k_is); (case k5 => k_is); (case k6 => k_is); (case k7 => k_is); (case k8 => k_is); (case k9 => k_is); (case k10 => exact rfl); (case k11 => k_handed); exact h _)
end
end
section
set_option maxHeartbeats 8000000
theorem prepareT {w : World} {dp un : Nat} {gd : Option (List Code)} {cn : Str} {cs : Scope} {a : Addr} {ccd : Value} {cl : List (Str × Addr)} {outer : List Env} {A₀ : Around} {base h₀ : Heap} {L : Addr} {m mg mb : Str → Option Value} {mean : ExcName → Option Value} {s : Shared} {Q E : Value → Shared → Prop} {x dx d : Addr} {od : Obj} {t1 t2 t3 t4 : Tok} {po nf : Value} {rest : List (Addr × Obj)} {srt : List (Addr × Obj)} {nA dA sA : Int → Addr} {keys : List Int} {np : Int → Int} {succ : Int → List Int} {rk : Int → Nat}
    (B : Below A₀ base outer h₀) (F : Fr h₀ L s.heap m) (X : (Mine.hd.heap_1 w.params).In h₀) (T : TP mean mg mb h₀) (hk : cs.kind = .function) (hd : dp + 8 < recursionLimit) (hu : un + 64 < cLine) (XB : (Mine.hd.heap_1 w.params).In base) (TB : TP mean mg mb base) (D : KtsDicts (outer.filterMap (·.frame)) h₀)
    (N : News h₀ L s.heap ((x, instObj 151 dx) :: (dx, dictOf (sEs w (.ref d) .none po nf t1 t2 t3 t4) 4) :: (d, od) :: (rest ++ srt))) (hdm : (d == sysModules) = false)
    (hD : od.IsDictOf (intKind PG w) (kvsOf keys nA)) (Nd : Nodes nA dA sA keys np succ srt) (P : Apart x dx d rest srt)
    (hs : ∀ k ∈ keys, ∀ j ∈ succ k, j ∈ keys ∧ rk k < rk j) (hlen : ∀ k ∈ keys, (succ k).length ≤ 900) (hkl : keys.length ≤ 900)
    (ret : ∀ h₀' h' tk' r rv nr, KtsTurn (outer.filterMap (·.frame)) h₀ h₀' → Fr h₀' L h' m → Below A₀ base outer h₀' → (Mine.hd.heap_1 w.params).In h₀' → TP mean mg mb h₀' → KtsDicts (outer.filterMap (·.frame)) h₀' →
      News h₀' L h' ((x, instObj 151 dx) :: (dx, dictOf (sEs w (.ref d) (.ref r) po nf t1 t2 t3 t4) 4) :: (d, od) :: (r, listOf rv.toArray nr) :: (rest ++ srt)) → IntsAre rv (keys.filter fun k => decide (np k = 0)) →
      (∀ p ∈ (x, instObj 151 dx) :: (dx, od) :: (d, od) :: (rest ++ srt), p.1 < r) → Q .none { s with heap := h', toks := tk' }) :
    wpAny (model PG w) (ktrTop dp un gd cn cs L a ccd cl outer) (call (.ref 106) [.ref x]) Q E s := by
  refine wpAny_call ?_
  k_dflt (refine' code_defT ?k1 ?k2 ?k3 ?k4 ?k5 ?kXB ?kTB ?kD ?kA ?kF ?kK ?k6 ?k7 ?k8 ?k9 ?kB ?_ ?c2 ?c3 ?c4 ?c5; (case kA => exact rfl); (case kF => exact rfl); (case kK => assumption); (case k1 => k_asm); (case k2 => k_asm); (case k3 => k_asm); (case k4 => exact N); (case k5 => k_asm); (case kXB => assumption); (case kTB => assumption); (case kD => assumption); (case k6 => k_is); (case k7 => k_is); (case k8 => ktr_room); (case k9 => exact BindsTo.of_eq rfl); (case c5 => decide); (case kB => exact locs rfl); (case c2 => exact rfl); (case c3 => exact rfl); (case c4 => exact rfl); k_whole; intro g' L' h' FG' F' N' B' X' T' D' kG'; (try dsimp only); (try k_fold))
  (repeat' (first | (k_unfold; (try dsimp only)) | (k_end; wrow_close) | ((fail_if_success (with_reducible (refine Mine.stop_here ?_ ?_; walk_at "s0"))); walk1) | (dsimp only; (fail_if_success (with_reducible (refine Mine.stop_here ?_ ?_; walk_at "s0"))); walk1) | (leave1; walk_say "STEP leave1"; try dsimp only) | walk_at "onk" | fail "no step"))
  walk1
  refine comp_eval (cl := []) (F₀ := F') (by with_unfolding_all rfl) rfl (by decide) ?_
  (repeat' (first | (k_unfold; (try dsimp only)) | (k_end; wrow_close) | ((fail_if_success (with_reducible (refine Mine.stop_here ?_ ?_; walk_at "s0"))); walk1) | (dsimp only; (fail_if_success (with_reducible (refine Mine.stop_here ?_ ?_; walk_at "s0"))); walk1) | (leave1; walk_say "STEP leave1"; try dsimp only) | walk_at "onk" | fail "no step"))
  (try dsimp only)
  rename Fr g' L' _ _ => F2
  rename News g' L' _ _ => N2
  rename_i V _ l1
  have hkv : (kvsOf keys nA).length ≤ 900 := by unfold kvsOf; simpa using hkl
  refine src_values (knd := intKind PG w) (kvs := kvsOf keys nA) rfl F2 N2 (.tail _ (.tail _ (.tail _ (.head _)))) hD ⟨_, (N2 _ (.head _)).1, rfl, rfl⟩ (by rw [sizeLine_eq]; lia) ?_
  intro I h3 src lI
  refine ⟨I, _, _, _, _, rfl, src, ?_⟩
  rintro D C s₃ ⟨h4, rfl⟩ lD hDC
  refine ⟨fun i ys nw => nw = (V, ({ cls := .type "dict_values", data := .fields [Value.ref d].toArray } : Obj)) :: (x, instObj 151 dx) :: (dx, dictOf (sEs w (.ref d) .none po nf t1 t2 t3 t4) 4) :: (d, od) :: (rest ++ srt) ∧ IntsAre ys ((keys.take i).filter fun k => decide (np k = 0)), ?_, ?_, ?_, ?_⟩
  · rintro i ys nw ⟨rfl, _⟩
    exact .tail _ (.tail _ (.tail _ (.head _)))
  · exact ⟨rfl, .nil⟩
  · rintro i v h tk oI oC m₂ ys nw hi ⟨k, hk⟩ F5 N5 hC5 off5 ⟨n1, n2, n3⟩ ⟨rfl, hys⟩
    have hik : ∃ q : i < keys.length, keys[i] = k ∧ v = .ref (nA k) := by
      unfold kvsOf at hk
      rw [List.getElem?_map] at hk
      cases q : keys[i]? with
      | none => rw [q] at hk; cases hk
      | some k' => rw [q] at hk; cases hk; obtain ⟨z, e⟩ := List.getElem?_eq_some_iff.mp q; exact ⟨z, e, rfl⟩
    obtain ⟨hi', hke, rfl⟩ := hik
    have hkk : k ∈ keys := hke ▸ List.getElem_mem hi'
    have htk : keys.take (i + 1) = keys.take i ++ [k] := by rw [List.take_succ, List.getElem?_eq_getElem hi', hke]; rfl
    have off6 := off5.mem
    have U5 : ∀ o₁, UpdF C o₁ ((I, oI) :: (C, o₁) :: (D, LCg.lst ys) :: (V, ({ cls := .type "dict_values", data := .fields [Value.ref d].toArray } : Obj)) :: (x, instObj 151 dx) :: (dx, dictOf (sEs w (.ref d) .none po nf t1 t2 t3 t4) 4) :: (d, od) :: (rest ++ srt))
        (fun o₁ => (I, oI) :: (C, o₁) :: (D, LCg.lst ys) :: (V, ({ cls := .type "dict_values", data := .fields [Value.ref d].toArray } : Obj)) :: (x, instObj 151 dx) :: (dx, dictOf (sEs w (.ref d) .none po nf t1 t2 t3 t4) 4) :: (d, od) :: (rest ++ srt)) := fun o₁ =>
      .tail n1 (.head fun p hp => by
        rcases List.mem_cons.mp hp with rfl | hp
        · exact Ne.symm n3
        · exact (off6 p hp).2.1)
    refine asg_own F5 N5 (U5 oC) hC5 rfl rfl ?_
    intro h6 oC6 F6 N6 hC6
    have hx6 : (fun y => if y = Str.ofString "i" then some (Value.ref (nA k)) else m₂ y) (Str.ofString "i") = some (Value.ref (nA k)) := if_pos rfl
    have hh6 : ∀ p ∈ srt, h6.get? p.1 = some p.2 := fun p hp => (N6 p (.tail _ (.tail _ (.tail _ (.tail _ (.tail _ (.tail _ (.tail _ (List.mem_append_right _ hp))))))))).1
    refine wpAny_tests_one ?_
    (try dsimp only)
    (repeat' (first | (k_unfold; (try dsimp only)) | (k_end; wrow_close) | ((fail_if_success (with_reducible (refine Mine.stop_here ?_ ?_; first | walk_at "s0" | exact Mine.p7 | exact Mine.p8 | exact Mine.p9 | exact Mine.p10))); walk1) | (dsimp only; (fail_if_success (with_reducible (refine Mine.stop_here ?_ ?_; first | walk_at "s0" | exact Mine.p7 | exact Mine.p8 | exact Mine.p9 | exact Mine.p10))); walk1) | (leave1; walk_say "STEP leave1"; try dsimp only) | walk_at "onk" | fail "no step"))
    refine np_getH F6 X' hh6 Nd hkk ?_
    intro t7
    (try dsimp only)
    (repeat' (first | (k_unfold; (try dsimp only)) | (k_end; wrow_close) | ((fail_if_success (with_reducible (refine Mine.stop_here ?_ ?_; first | walk_at "s0" | exact Mine.p7 | exact Mine.p8 | exact Mine.p9 | exact Mine.p10))); walk1) | (dsimp only; (fail_if_success (with_reducible (refine Mine.stop_here ?_ ?_; first | walk_at "s0" | exact Mine.p7 | exact Mine.p8 | exact Mine.p9 | exact Mine.p10))); walk1) | (leave1; walk_say "STEP leave1"; try dsimp only) | walk_at "onk" | fail "no step"))
    · rename np k = 0 => hz
      refine node_getH F6 X' hh6 Nd hkk ?_
      intro t8
      exact ⟨h6, _, oC6, _, _, rfl, F6, N6, hC6, off5, rfl, by rw [htk, List.filter_append]; simpa [hz] using hys.append (.cons k t8 .nil)⟩
    · rename np k ≠ 0 => hz
      exact ⟨h6, _, oC6, _, _, rfl, F6, N6, hC6, off5, rfl, by rw [htk, List.filter_append]; simpa [hz] using hys⟩
  · rintro h tk ys oC m₂ nw F5 N5 hC5 off5 hCD ⟨rfl, hys⟩
    have off6 := off5.mem
    refine aend F5 N5 hC5 ?_ ?_
    · intro p hp
      rcases List.mem_cons.mp hp with rfl | hp
      · exact Ne.symm hCD
      · exact (off6 p hp).2.1
    · intro h6 F6 N6
      (try dsimp only)
      have N7 : News g' L' h6 ((x, instObj 151 dx) :: (dx, dictOf (sEs w (.ref d) .none po nf t1 t2 t3 t4) 4) :: (d, od) :: (D, listOf ys.toArray ys.length) :: (rest ++ srt)) := fun p hp => N6 p (by
        refine led_go hp ?_
        walk_at "led")
      have hxD : @LT.lt Nat _ x D := lD _ (.tail _ (.head _))
      have hdxD : @LT.lt Nat _ dx D := lD _ (.tail _ (.tail _ (.head _)))
      have hdD : @LT.lt Nat _ d D := lD _ (.tail _ (.tail _ (.tail _ (.head _))))
      have hrD : ∀ p ∈ rest ++ srt, p.1 < D := fun p hp => lD _ (.tail _ (.tail _ (.tail _ (.tail _ hp))))
      have p1 := P.xdx
      have p2 := P.xd
      have p3 := P.dxd
      have hr1 : ∀ p ∈ rest ++ srt, p.1 ≠ x := fun p hp => (P.tl p hp).1
      have hr2 : ∀ p ∈ rest ++ srt, p.1 ≠ dx := fun p hp => (P.tl p hp).2.1
      clear N6 N5 F5 N2 F2 src
      (repeat' (first | (k_unfold; (try dsimp only)) | (k_end; wrow_close) | ((fail_if_success (with_reducible (refine Mine.stop_here ?_ ?_; walk_at "s0"))); walk1) | (dsimp only; (fail_if_success (with_reducible (refine Mine.stop_here ?_ ?_; walk_at "s0"))); walk1) | (leave1; walk_say "STEP leave1"; try dsimp only) | walk_at "onk" | fail "no step"))
      dsimp only [List.append_nil]
      rename News g' L' _ _ => N8
      rename Fr g' L' _ _ => F8
      have P8 : Apart x dx d ((D, listOf ys.toArray ys.length) :: rest) srt := P.cons (Nat.ne_of_gt hxD) (Nat.ne_of_gt hdxD) (Nat.ne_of_gt hdD) fun q hq => Nat.ne_of_gt (hrD q (List.mem_append_right _ hq))
      refine' find_cycle (rk := rk) (rd := .ref D) (rest := (D, listOf ys.toArray ys.length) :: rest) ?b1 ?b2 ?b3 ?b4 ?b5 ?b6 ?b7 XB TB D' ?b8 hdm hD Nd P8 hs hlen hkl ?_
      (case b1 => k_asm); (case b2 => k_asm); (case b3 => k_asm); (case b4 => k_asm); (case b5 => first | exact rfl | assumption); (case b6 => ktr_room); (case b7 => ktr_units)
      (case b8 => exact N8)
      intro g9 h9 tk9 KT9 F9 B9 X9 T9 D9 N9
      clear N8 F8
      (try dsimp only)
      (repeat' (first | (k_unfold; (try dsimp only)) | (k_end; wrow_close) | ((fail_if_success (with_reducible (refine Mine.stop_here ?_ ?_; walk_at "s0"))); walk1) | (dsimp only; (fail_if_success (with_reducible (refine Mine.stop_here ?_ ?_; walk_at "s0"))); walk1) | (leave1; walk_say "STEP leave1"; try dsimp only) | walk_at "onk" | fail "no step"))
      rename News g9 L' _ _ => N10
      rename Fr g9 L' _ _ => F10
      refine ⟨g9, L', _, _, KT9, F10, N10, fun h₀' KT F N' B X T D => ?_⟩
      refine ret h₀' _ _ _ ys ys.length KT F B X T D N' ?_ ?_
      · have e : (kvsOf keys nA).length = keys.length := by unfold kvsOf; simp
        rw [e, List.take_length] at hys
        exact hys
      · intro p hp
        rcases List.mem_cons.mp hp with rfl | hp
        · exact hxD
        rcases List.mem_cons.mp hp with rfl | hp
        · exact hdxD
        rcases List.mem_cons.mp hp with rfl | hp
        · exact hdD
        · exact hrD p hp
end
section
set_option maxHeartbeats 8000000
noncomputable def keys5 : List Int := [4, 2, 0, 3, 1]
theorem mem_keys5 {k : Int} : k ∈ keys5 ↔ 0 ≤ k ∧ k ≤ 4 := by
  unfold keys5
  simp only [List.mem_cons, List.not_mem_nil, or_false]
  lia
theorem keys5_step : ∀ i < 5, addKeys (keys5.take i) (keys5.getD i 0) [] = keys5.take (i + 1) := by decide
theorem upd_zero (k : Int) : upd (fun _ => (0 : Int)) k ((fun _ => (0 : Int)) k + (([] : List Int).length : Nat)) = fun _ => 0 := by
  funext j; unfold upd; split <;> rfl
noncomputable def npP (ps : List (Int × Int)) (k : Int) : Int := ((ps.filter fun p => decide (p.2 = k)).length : Nat)
noncomputable def succP (ps : List (Int × Int)) (k : Int) : List Int := (ps.filter fun p => decide (p.1 = k)).map (·.2)
theorem npP_snoc (ps : List (Int × Int)) (l h : Int) : npP (ps ++ [(l, h)]) = upd (npP ps) h (npP ps h + 1) := by
  funext k
  by_cases e : k = h
  · subst e; rw [upd_self]; simp [npP]
  · rw [upd_ne _ _ e]; simp [npP, Ne.symm e]
theorem succP_snoc (ps : List (Int × Int)) (l h : Int) : succP (ps ++ [(l, h)]) = upd (succP ps) l (succP ps l ++ [h]) := by
  funext k
  by_cases e : k = l
  · subst e; rw [upd_self]; simp [succP]
  · rw [upd_ne _ _ e]; simp [succP, Ne.symm e]
theorem succP_mem {ps : List (Int × Int)} {k j : Int} : j ∈ succP ps k ↔ (k, j) ∈ ps := by
  unfold succP
  rw [List.mem_map]
  constructor
  · rintro ⟨p, hp, rfl⟩
    obtain ⟨h1, h2⟩ := List.mem_filter.mp hp
    obtain ⟨a, b⟩ := p
    simp at h2; subst h2; exact h1
  · intro h; exact ⟨(k, j), List.mem_filter.mpr ⟨h, by simp⟩, rfl⟩
theorem succP_len (ps : List (Int × Int)) (k : Int) : (succP ps k).length ≤ ps.length := by
  unfold succP; rw [List.length_map]; exact List.length_filter_le _ _
theorem npP_out {ps : List (Int × Int)} (h : ∀ p ∈ ps, 0 ≤ p.1 ∧ p.1 < p.2 ∧ p.2 ≤ 4) {j : Int} (hj : j ∉ keys5) : npP ps j = 0 ∧ succP ps j = [] := by
  constructor
  · unfold npP
    rw [List.filter_eq_nil_iff.mpr (fun p hp => by
      have := h p hp
      intro e
      simp at e
      exact hj (mem_keys5.mpr (by lia)))]
    rfl
  · unfold succP
    rw [List.filter_eq_nil_iff.mpr (fun p hp => by
      have := h p hp
      intro e
      simp at e
      exact hj (mem_keys5.mpr (by lia)))]
    rfl
inductive Reach (ps : List (Int × Int)) : Int → Int → Prop
  | one {a b : Int} : (a, b) ∈ ps → Reach ps a b
  | more {a b c : Int} : Reach ps a b → (b, c) ∈ ps → Reach ps a c
structure RowSpec (ps : List (Int × Int)) (held : Int) (R : List Int) : Prop where
  nodup : R.Nodup
  all : ∀ k, k ∈ R ↔ 0 ≤ k ∧ k ≤ 4
  lin : ∀ R₁ R₂ a b, R = R₁ ++ b :: R₂ → (a, b) ∈ ps → a ∈ R₁
  held : ∀ R₁ R₂ y, R = R₁ ++ held :: R₂ → y ∈ R₂ → Reach ps held y
noncomputable def left (ps : List (Int × Int)) (R : List Int) (k : Int) : Nat := (ps.filter fun p => decide (p.2 = k ∧ p.1 ∉ R)).length
structure RowInv (ps : List (Int × Int)) (held : Int) (R W : List Int) (np : Int → Int) : Prop where
  nodup : (R ++ W).Nodup
  sub : ∀ k ∈ R ++ W, k ∈ keys5
  out : ∀ k ∈ W, np k = -1
  rest : ∀ k ∈ keys5, k ∉ R ++ W → np k = left ps R k ∧ 0 < left ps R k
  lin : ∀ R₁ R₂ a b, R = R₁ ++ b :: R₂ → (a, b) ∈ ps → a ∈ R₁
  linW : ∀ a b, b ∈ W → (a, b) ∈ ps → a ∈ R
  held : ∀ R₁ R₂ y, R = R₁ ++ held :: R₂ → y ∈ R₂ ++ W → Reach ps held y
theorem nodup_len {l : List Int} (h : l.Nodup) : ∀ {k : List Int}, (∀ x ∈ l, x ∈ k) → l.length ≤ k.length := by
  induction l with
  | nil => intro k _; exact Nat.zero_le _
  | cons x l ih =>
    intro k hs
    obtain ⟨hx, hl⟩ := List.nodup_cons.mp h
    have h1 := ih hl (k := k.erase x) (fun y hy => (List.mem_erase_of_ne (fun e => hx (by rw [← e]; exact hy))).mpr (hs y (.tail _ hy)))
    have h2 := List.length_erase_of_mem (hs x (.head _))
    have h3 : 0 < k.length := List.length_pos_of_mem (hs x (.head _))
    rw [List.length_cons]; lia
theorem RowInv.len {ps : List (Int × Int)} {held : Int} {R W : List Int} {np : Int → Int} (h : RowInv ps held R W np) : R.length + W.length ≤ 5 := by
  have := nodup_len h.nodup h.sub
  rw [List.length_append] at this
  exact this
noncomputable def pick (W : List Int) (held : Int) : Int := ((W.filter fun k => decide (k ≠ held)) ++ [held]).headD 0
theorem pick_mem {W : List Int} {held : Int} (h : W ≠ []) : pick W held ∈ W := by
  unfold pick
  cases q : W.filter fun k => decide (k ≠ held) with
  | cons a r =>
    have : a ∈ W.filter fun k => decide (k ≠ held) := by rw [q]; exact .head _
    exact (List.mem_filter.mp this).1
  | nil =>
    cases W with
    | nil => exact absurd rfl h
    | cons b r =>
      have hb : b = held := by
        by_cases e : b = held
        · exact e
        · exfalso
          rw [List.filter_cons, if_pos (by simp [e])] at q
          cases q
      subst hb; exact .head _
theorem pick_held {W : List Int} {held : Int} (h : pick W held = held) (hn : W.Nodup) : ∀ k ∈ W, k = held := by
  intro k hk
  by_cases e : k = held
  · exact e
  · exfalso
    unfold pick at h
    have : k ∈ W.filter fun k => decide (k ≠ held) := List.mem_filter.mpr ⟨hk, by simp [e]⟩
    cases q : W.filter fun k => decide (k ≠ held) with
    | nil => rw [q] at this; cases this
    | cons a r =>
      rw [q] at h
      simp at h
      have ha : a ∈ W.filter fun k => decide (k ≠ held) := by rw [q]; exact .head _
      have := (List.mem_filter.mp ha).2
      simp at this
      exact this h
theorem Apart.of_rest {x dx d : Addr} {rest rest' srt : List (Addr × Obj)} (P : Apart x dx d rest srt) (e : rest'.map (·.1) = rest.map (·.1)) : Apart x dx d rest' srt := by
  have key : ∀ p ∈ rest', ∃ q ∈ rest, q.1 = p.1 := fun p hp => by
    have : p.1 ∈ rest.map (·.1) := by rw [← e]; exact List.mem_map_of_mem hp
    obtain ⟨q, hq, e'⟩ := List.mem_map.mp this
    exact ⟨q, hq, e'⟩
  refine ⟨P.xdx, P.xd, P.dxd, fun p hp => ?_, fun p hp q hq => ?_⟩
  · rcases List.mem_append.mp hp with h | h
    · obtain ⟨q, hq, e'⟩ := key p h
      rw [← e']; exact P.tl q (List.mem_append_left _ hq)
    · exact P.tl p (List.mem_append_right _ h)
  · obtain ⟨q', hq', e'⟩ := key p hp
    rw [← e']; exact P.rs q' hq' q hq
theorem Apart4.of_rest {x dx d r : Addr} {rest rest' srt : List (Addr × Obj)} (P : Apart4 x dx d r rest srt) (e : rest'.map (·.1) = rest.map (·.1)) : Apart4 x dx d r rest' srt := by
  refine ⟨P.toApart.of_rest e, P.xr, P.dxr, P.dr, fun p hp => ?_⟩
  rcases List.mem_append.mp hp with h | h
  · have : p.1 ∈ rest.map (·.1) := by rw [← e]; exact List.mem_map_of_mem h
    obtain ⟨q, hq, e'⟩ := List.mem_map.mp this
    rw [← e']; exact P.tlr q (List.mem_append_left _ hq)
  · exact P.tlr p (List.mem_append_right _ h)
theorem allLt_mem {d : Addr} {l : List (Addr × Obj)} (h : AllLt d l) : ∀ p ∈ l, p.1 < d := by
  induction l with
  | nil => exact fun p hp => absurd hp List.not_mem_nil
  | cons a r ih => exact List.forall_mem_cons.mpr ⟨h.1, ih h.2⟩
end
section
set_option maxHeartbeats 8000000
theorem decs_fst (js : List Int) : ∀ (f : Int → Int) (r : List Int) (k : Int), (decs (f, r) js).1 k = f k - js.count k := by
  induction js with
  | nil => intro f r k; simp [decs]
  | cons j js ih =>
    intro f r k
    show (decs (dec1 (f, r) j) js).1 k = _
    unfold dec1; dsimp only
    rw [ih]
    by_cases e : k = j
    · subst e; rw [upd_self, List.count_cons_self]; lia
    · rw [upd_ne _ _ e, List.count_cons_of_ne (Ne.symm e)]
theorem decs_snd (js : List Int) : ∀ (f : Int → Int) (r : List Int) (k : Int), k ∈ (decs (f, r) js).2 ↔ k ∈ r ∨ (1 ≤ f k ∧ f k ≤ js.count k) := by
  induction js with
  | nil => intro f r k; simp [decs]; lia
  | cons j js ih =>
    intro f r k
    show k ∈ (decs (dec1 (f, r) j) js).2 ↔ _
    unfold dec1; dsimp only
    rw [ih]
    by_cases e : k = j
    · subst e
      rw [upd_self, List.count_cons_self]
      split
      · rename_i h
        simp only [List.mem_append, List.mem_singleton]
        constructor
        · rintro ((h1 | h1) | h1)
          · exact .inl h1
          · right; lia
          · right; lia
        · rintro (h1 | h1)
          · exact .inl (.inl h1)
          · exact .inl (.inr trivial)
      · rename_i h
        constructor
        · rintro (h1 | h1)
          · exact .inl h1
          · right; lia
        · rintro (h1 | h1)
          · exact .inl h1
          · right; lia
    · rw [upd_ne _ _ e, List.count_cons_of_ne (Ne.symm e)]
      split
      · simp only [List.mem_append, List.mem_singleton, e, or_false]
      · exact Iff.rfl
theorem decs_nodup (js : List Int) : ∀ (f : Int → Int) (r : List Int), r.Nodup → (∀ k ∈ r, f k ≤ 0) → (decs (f, r) js).2.Nodup := by
  induction js with
  | nil => intro f r h _; exact h
  | cons j js ih =>
    intro f r h h0
    show (decs (dec1 (f, r) j) js).2.Nodup
    unfold dec1; dsimp only
    apply ih
    · split
      · rename_i q
        refine List.nodup_append.mpr ⟨h, by simp, ?_⟩
        intro a ha b hb e
        rw [List.mem_singleton] at hb
        subst hb; subst e
        have := h0 _ ha
        lia
      · exact h
    · intro k hk
      by_cases e : k = j
      · subst e
        rw [upd_self]
        split at hk
        · lia
        · have := h0 _ hk; lia
      · rw [upd_ne _ _ e]
        split at hk
        · rcases List.mem_append.mp hk with q | q
          · exact h0 k q
          · exact absurd (List.mem_singleton.mp q) e
        · exact h0 k hk
theorem outAll_at (rs : List Int) : ∀ (f : Int → Int) (k : Int), outAll f rs k = if k ∈ rs then -1 else f k := by
  induction rs with
  | nil => intro f k; simp [outAll]
  | cons r rs ih =>
    intro f k
    show outAll (upd f r (-1)) rs k = _
    rw [ih]
    by_cases e : k = r
    · subst e; simp [upd_self]
    · simp [upd_ne _ _ e, e]
theorem count_succP (ps : List (Int × Int)) (a k : Int) : (succP ps a).count k = (ps.filter fun p => decide (p.1 = a ∧ p.2 = k)).length := by
  unfold succP
  induction ps with
  | nil => rfl
  | cons p ps ih =>
    simp only [List.filter_cons]
    by_cases e1 : p.1 = a
    · by_cases e2 : p.2 = k
      · simp [e1, e2, ih]
      · simp [e1, e2, ih]
    · simp [e1, ih]
theorem left_snoc (ps : List (Int × Int)) (R : List Int) (now k : Int) (hn : now ∉ R) : left ps (R ++ [now]) k + (succP ps now).count k = left ps R k := by
  rw [count_succP]
  unfold left
  induction ps with
  | nil => rfl
  | cons p ps ih =>
    simp only [List.filter_cons]
    by_cases e2 : p.2 = k
    · by_cases e1 : p.1 = now
      · have : p.1 ∉ R := e1 ▸ hn
        simp [e1, e2, hn] at ih ⊢; lia
      · by_cases e3 : p.1 ∈ R
        · simp [e1, e2, e3] at ih ⊢; lia
        · simp [e1, e2, e3] at ih ⊢; lia
    · simp [e2] at ih ⊢; lia
end
section
set_option maxHeartbeats 8000000
theorem snoc_split {R R₁ R₂ : List Int} {now b : Int} (h : R ++ [now] = R₁ ++ b :: R₂) : (R₂ = [] ∧ b = now ∧ R₁ = R) ∨ ∃ R₂', R₂ = R₂' ++ [now] ∧ R = R₁ ++ b :: R₂' := by
  rcases List.eq_nil_or_concat R₂ with e | ⟨R₂', x, e⟩
  · subst e
    have := List.append_inj' h rfl
    left
    exact ⟨rfl, by have := this.2; simp at this; exact this.symm, this.1.symm⟩
  · subst e
    right
    rw [List.concat_eq_append] at h ⊢
    have h' : R ++ [now] = (R₁ ++ b :: R₂') ++ [x] := by rw [h]; simp
    have := List.append_inj' h' rfl
    have hx : now = x := by have := this.2; simp at this; exact this
    subst hx
    exact ⟨R₂', rfl, this.1⟩
theorem left_zero {ps : List (Int × Int)} {R : List Int} {b : Int} (h : left ps R b = 0) {a : Int} (ha : (a, b) ∈ ps) : a ∈ R := by
  by_cases e : a ∈ R
  · exact e
  · exfalso
    unfold left at h
    have := List.length_eq_zero_iff.mp h
    have hm : (a, b) ∈ ps.filter fun p => decide (p.2 = b ∧ p.1 ∉ R) := List.mem_filter.mpr ⟨ha, by simp [e]⟩
    rw [this] at hm; cases hm
theorem left_pos {ps : List (Int × Int)} {R : List Int} {b : Int} (h : 0 < left ps R b) : ∃ a, (a, b) ∈ ps ∧ a ∉ R := by
  unfold left at h
  obtain ⟨p, hp⟩ := List.exists_mem_of_length_pos h
  obtain ⟨h1, h2⟩ := List.mem_filter.mp hp
  simp at h2
  exact ⟨p.1, by rw [← h2.1]; exact h1, h2.2⟩
theorem RowInv.step {ps : List (Int × Int)} {held : Int} {R W : List Int} {np : Int → Int} (hr : ∀ p ∈ ps, 0 ≤ p.1 ∧ p.1 < p.2 ∧ p.2 ≤ 4) (h : RowInv ps held R W np) (hW : W ≠ []) :
    RowInv ps held (R ++ [pick W held]) (W.erase (pick W held) ++ (doneAll (succP ps) (np, []) [pick W held]).2) (outAll (doneAll (succP ps) (np, []) [pick W held]).1 (doneAll (succP ps) (np, []) [pick W held]).2) := by
  have hm := pick_mem (held := held) hW
  have hph := pick_held (W := W) (held := held)
  generalize pick W held = now at hm hph ⊢
  obtain ⟨hnR, hnW, hdis⟩ := List.nodup_append.mp h.nodup
  have hnowR : now ∉ R := fun q => hdis now q now hm rfl
  have est : doneAll (succP ps) (np, []) [now] = decs (upd np now (-2), []) (succP ps now) := rfl
  rw [est]
  have h1 : ∀ k, (decs (upd np now (-2), []) (succP ps now)).1 k = upd np now (-2) k - (succP ps now).count k := fun k => decs_fst _ _ _ k
  have h2 : ∀ k, k ∈ (decs (upd np now (-2), []) (succP ps now)).2 ↔ 1 ≤ upd np now (-2) k ∧ upd np now (-2) k ≤ (succP ps now).count k := fun k => by
    have := decs_snd (succP ps now) (upd np now (-2)) [] k
    simpa using this
  have h3 : (decs (upd np now (-2), []) (succP ps now)).2.Nodup := decs_nodup _ _ _ List.nodup_nil fun k hk => absurd hk List.not_mem_nil
  generalize (decs (upd np now (-2), []) (succP ps now)).1 = np2 at h1 ⊢
  generalize (decs (upd np now (-2), []) (succP ps now)).2 = rs at h2 h3 ⊢
  have hin : ∀ k ∈ rs, (now, k) ∈ ps := fun k hk => by
    have := (h2 k).mp hk
    have hc : 0 < (succP ps now).count k := by lia
    exact succP_mem.mp (List.count_pos_iff.mp hc)
  have hrsne : ∀ k ∈ rs, k ≠ now := fun k hk e => by
    have := hr _ (hin k hk)
    dsimp only at this; lia
  have hrsR : ∀ k ∈ rs, k ∉ R := fun k hk q => by
    obtain ⟨R₁, R₂, e⟩ := List.append_of_mem q
    have := h.lin R₁ R₂ now k e (hin k hk)
    exact hnowR (by rw [e]; exact List.mem_append_left _ this)
  have hrsW : ∀ k ∈ rs, k ∉ W := fun k hk q => hnowR (h.linW now k q (hin k hk))
  have hrsk : ∀ k ∈ rs, k ∈ keys5 := fun k hk => mem_keys5.mpr (by have := hr _ (hin k hk); dsimp only at this; lia)
  have hcW : ∀ k ∈ W, (succP ps now).count k = 0 := fun k hk => List.count_eq_zero.mpr fun q => hnowR (h.linW now k hk (succP_mem.mp q))
  have hWe : ∀ k, k ∈ W.erase now ↔ k ≠ now ∧ k ∈ W := fun k => hnW.mem_erase_iff
  refine ⟨?_, ?_, ?_, ?_, ?_, ?_, ?_⟩
  · refine List.nodup_append.mpr ⟨List.nodup_append.mpr ⟨hnR, by simp, fun a ha b hb e => ?_⟩, List.nodup_append.mpr ⟨hnW.erase _, h3, fun a ha b hb e => ?_⟩, fun a ha b hb e => ?_⟩
    · rw [List.mem_singleton] at hb; subst hb; subst e; exact hnowR ha
    · subst e; exact hrsW a hb ((hWe a).mp ha).2
    · subst e
      rcases List.mem_append.mp ha with q | q <;> rcases List.mem_append.mp hb with z | z
      · exact hdis a q a ((hWe a).mp z).2 rfl
      · exact hrsR a z q
      · rw [List.mem_singleton] at q; exact ((hWe a).mp z).1 q
      · rw [List.mem_singleton] at q; exact hrsne a z q
  · intro k hk
    rcases List.mem_append.mp hk with q | q
    · rcases List.mem_append.mp q with q | q
      · exact h.sub k (List.mem_append_left _ q)
      · rw [List.mem_singleton] at q; subst q; exact h.sub _ (List.mem_append_right _ hm)
    · rcases List.mem_append.mp q with q | q
      · exact h.sub k (List.mem_append_right _ ((hWe k).mp q).2)
      · exact hrsk k q
  · intro k hk
    rw [outAll_at]
    split
    · rfl
    · rename_i q
      rcases List.mem_append.mp hk with z | z
      · have hz := (hWe k).mp z
        rw [h1, upd_ne _ _ hz.1, h.out k hz.2, hcW k hz.2]; rfl
      · exact absurd z q
  · intro k hk hn
    simp only [List.mem_append, List.mem_singleton, not_or] at hn
    obtain ⟨⟨n1, n2⟩, n3, n4⟩ := hn
    have n5 : k ∉ W := fun q => n3 ((hWe k).mpr ⟨n2, q⟩)
    obtain ⟨e1, e2⟩ := h.rest k hk (by simp only [List.mem_append, not_or]; exact ⟨n1, n5⟩)
    have e3 := left_snoc ps R now k hnowR
    rw [outAll_at, if_neg n4, h1, upd_ne _ _ n2]
    have e4 : ¬ (1 ≤ np k ∧ np k ≤ (succP ps now).count k) := fun q => n4 ((h2 k).mpr (by rw [upd_ne _ _ n2]; exact q))
    constructor <;> lia
  · intro R₁ R₂ a b e hab
    rcases snoc_split e with ⟨_, rfl, rfl⟩ | ⟨R₂', _, e'⟩
    · exact h.linW a b hm hab
    · exact h.lin R₁ R₂' a b e' hab
  · intro a b hb hab
    rcases List.mem_append.mp hb with q | q
    · exact List.mem_append_left _ (h.linW a b ((hWe b).mp q).2 hab)
    · have q1 := (h2 b).mp q
      have q2 := hrsne b q
      rw [upd_ne _ _ q2] at q1
      have e1 := (h.rest b (hrsk b q) (by simp only [List.mem_append, not_or]; exact ⟨hrsR b q, hrsW b q⟩)).1
      have e3 := left_snoc ps R now b hnowR
      exact left_zero (by lia) hab
  · intro R₁ R₂ y e hy
    rcases snoc_split e with ⟨rfl, e2, e3⟩ | ⟨R₂', rfl, e'⟩
    · subst e2
      rw [List.nil_append] at hy
      rcases List.mem_append.mp hy with q | q
      · have := (hWe y).mp q
        exact absurd (hph rfl hnW y this.2) this.1
      · exact .one (hin y q)
    · have hk : ∀ z ∈ R₂' ++ W, Reach ps held z := fun z hz => h.held R₁ R₂' z e' hz
      have hnow : Reach ps held now := hk now (List.mem_append_right _ hm)
      rcases List.mem_append.mp hy with q | q
      · rcases List.mem_append.mp q with q | q
        · exact hk y (List.mem_append_left _ q)
        · rw [List.mem_singleton] at q; subst q; exact hnow
      · rcases List.mem_append.mp q with q | q
        · exact hk y (List.mem_append_right _ ((hWe y).mp q).2)
        · exact .more hnow (hin y q)
theorem RowInv.start {ps : List (Int × Int)} (held : Int) (hr : ∀ p ∈ ps, 0 ≤ p.1 ∧ p.1 < p.2 ∧ p.2 ≤ 4) :
    RowInv ps held [] (keys5.filter fun k => decide (npP ps k = 0)) (outAll (npP ps) (keys5.filter fun k => decide (npP ps k = 0))) := by
  have hl : ∀ k, left ps [] k = (ps.filter fun p => decide (p.2 = k)).length := fun k => by unfold left; simp
  refine ⟨?_, ?_, ?_, ?_, ?_, ?_, ?_⟩
  · rw [List.nil_append]; exact List.Pairwise.filter _ (by decide : keys5.Nodup)
  · intro k hk; rw [List.nil_append] at hk; exact (List.mem_filter.mp hk).1
  · intro k hk; rw [outAll_at, if_pos hk]
  · intro k hk hn
    rw [List.nil_append] at hn
    have hz : npP ps k ≠ 0 := fun e => hn (List.mem_filter.mpr ⟨hk, by simp [e]⟩)
    rw [outAll_at, if_neg hn, hl]
    unfold npP at hz ⊢
    constructor <;> lia
  · intro R₁ R₂ a b e; exact absurd e (by simp)
  · intro a b hb hab
    exfalso
    have := (List.mem_filter.mp hb).2
    simp at this
    unfold npP at this
    have hz := List.length_eq_zero_iff.mp (Int.ofNat.inj this)
    have hm : (a, b) ∈ ps.filter fun p => decide (p.2 = b) := List.mem_filter.mpr ⟨hab, by simp⟩
    rw [hz] at hm; cases hm
  · intro R₁ R₂ y e; exact absurd e (by simp)
theorem RowInv.done {ps : List (Int × Int)} {held : Int} {R : List Int} {np : Int → Int} (hr : ∀ p ∈ ps, 0 ≤ p.1 ∧ p.1 < p.2 ∧ p.2 ≤ 4) (h : RowInv ps held R [] np) : RowSpec ps held R := by
  have hn := h.nodup
  rw [List.append_nil] at hn
  have key : ∀ n : Nat, ∀ k : Int, k.toNat = n → 0 ≤ k → k ≤ 4 → k ∈ R := by
    intro n
    induction n using Nat.strongRecOn with
    | ind n ih =>
      intro k hk h0 h4
      by_cases e : k ∈ R
      · exact e
      · exfalso
        have := (h.rest k (mem_keys5.mpr ⟨h0, h4⟩) (by rw [List.append_nil]; exact e)).2
        obtain ⟨a, ha, hna⟩ := left_pos this
        have q := hr _ ha
        dsimp only at q
        exact hna (ih a.toNat (by lia) a rfl q.1 (by lia))
  refine ⟨hn, fun k => ⟨fun q => mem_keys5.mp (h.sub k (List.mem_append_left _ q)), fun q => key _ k rfl q.1 q.2⟩, h.lin, fun R₁ R₂ y e hy => h.held R₁ R₂ y e (List.mem_append_left _ hy)⟩
end
section
set_option maxHeartbeats 8000000
section
variable {prog : Program} {w : World} {A : Around} {E : Value → Shared → Prop} {s : Shared} {env : Env} {h₀ : Heap} {m₀ : Str → Option Value} {news₀ : List (Addr × Obj)} {target : Expr} {body : List Stmt} {Q : Flow → Shared → Prop}
theorem turns_base {ax : Addr} {vs : List Value} {nv : Nat} (J : Nat → (Str → Option Value) → List (Addr × Obj) → Prop) (hh : A.handled = none) (F : Fr h₀ env.locals s.heap m₀)
    (N : News h₀ env.locals s.heap news₀) (hb : h₀.get? ax = some (listOf vs.toArray nv)) (h0 : J 0 m₀ news₀)
    (step : ∀ i v m₁ news₁ h₁ tk₁ own, vs[i]? = some v → J i m₁ news₁ → (∀ p ∈ own, ∀ q ∈ news₁, p.1 ≠ q.1) → Fr h₀ env.locals h₁ m₁ → News h₀ env.locals h₁ (own ++ news₁) →
      wpAny (model prog w) A (assign target env v) (fun _ s₃ => wpAny (model prog w) A (execs body env) (TurnEnd h₀ env.locals own (J (i + 1)) { s with heap := h₁, toks := tk₁ } Q) E s₃) E { s with heap := h₁, toks := tk₁ })
    (done : ∀ m' news' h' tk, J vs.length m' news' → Fr h₀ env.locals h' m' → News h₀ env.locals h' news' → Q .next { s with heap := h', toks := tk }) :
    wpAny (model prog w) A (pyIter (.ref ax)) (fun it s₂ => TurnsAt prog w A h₀ env target body Q E it s₂) E s := by
  have hl : s.heap.IsList ax vs.toArray := ⟨_, F.keep _ _ hb, rfl, nv, rfl⟩
  have hlt : ax < s.heap.objs.size := Heap.lt_size (F.keep _ _ hb)
  have up : ∀ b o, s.heap.get? b = some o → (s.heap.push { cls := .type "list_iterator", data := .fields #[.ref ax, .int 0 0] }).get? b = some o := fun b o e => Heap.get?_push_of_some _ e
  have hLa : env.locals ≠ ax := fun e => by
    have h1 := Heap.lt_size hb
    have h2 := F.above
    rw [e] at h2
    exact absurd h1 (Nat.not_lt.mpr h2)
  have hz : vs.toArray.size = vs.length := by simp
  refine wpAny_pyIter_list hl (turns_core (ax := ax) J (Walks.list hh s.heap.objs.size ax (Nat.ne_of_lt hlt) vs.toArray) ?_ ?_ ?_ ⟨⟨_, Heap.get?_push_size _ rfl, rfl, rfl⟩, hl.push _⟩ (F.keeps up) (N.grown up) (next_is_new F) (Nat.ne_of_lt F.ns.lt) hLa ?_ h0 ?_ ?_)
  · intro i v s Q E st q
    obtain ⟨o, ho, hc, _⟩ := st.1
    exact letGo_any ⟨o, ho, hc⟩ (by decide) q
  · intro i h st; obtain ⟨o, e, _⟩ := st.1; exact ⟨o, e⟩
  · intro i h st; obtain ⟨o, e, _⟩ := st.2; exact ⟨o, e⟩
  · exact fun p hp => ⟨Nat.ne_of_lt (Heap.lt_size (N p hp).1), fun e => by have := (N p hp).2.2; rw [e, hb] at this; cases this⟩
  · intro i v m₁ news₁ h₁ tk₁ own hi hP hJ dis F1 N1
    exact step i v m₁ news₁ h₁ tk₁ own (by simpa using hP) hJ dis F1 N1
  · intro m' news' h' tk hJ F' N' _
    rw [hz] at hJ
    exact done m' news' h' tk hJ F' N'
end
section
variable {prog : Program} {w : World} {A : Around} {E : Value → Shared → Prop} {s : Shared} {h₀ : Heap} {L : Addr} {m : Str → Option Value} {news : List (Addr × Obj)} {D b : Addr} {its its2 : Array Value} {n n2 : Nat} {g : Obj → List (Addr × Obj)} {Q : Value → Shared → Prop}
theorem ext_tuple (F : Fr h₀ L s.heap m) (N : News h₀ L s.heap news) (hb : (b, ({ cls := .type "tuple", data := .seq its2 n2 } : Obj)) ∈ news) (U : UpdF D (listOf its n) news g) (hm : (D, listOf its n) ∈ news) (hz : its.size + its2.size ≤ 10000)
    (h : ∀ h' n', Fr h₀ L h' m → News h₀ L h' (g (listOf (its ++ its2) n')) → Q .none { s with heap := h' }) : wpAny (model prog w) A (call (.builtin "list.extend") [.ref D, .ref b]) Q E s := by
  have z := N _ hm
  have k := upd_news F N U (mapSeq_list (fun xs => xs ++ its2) its n) rfl
  exact call_meets PySem.F.slot_list_extend ⟨_, z.1, rfl⟩ PySem.F.entry_list_extend (PySem.F.args_list_extend_2 _ _) (PySem.AutoSeq1.list_extend_list_tuple_0 D its n b its2 n2 (extend_door (by rw [sizeLine_eq]; lia)) (by rw [sizeLine_eq]; lia) (by rw [sizeLine_eq]; lia)) ⟨z.1, (N _ hb).1, h _ _ k.1 k.2⟩
theorem ext_list (F : Fr h₀ L s.heap m) (N : News h₀ L s.heap news) (hb : (b, listOf its2 n2) ∈ news) (U : UpdF D (listOf its n) news g) (hm : (D, listOf its n) ∈ news) (hz : its.size + its2.size ≤ 10000)
    (h : ∀ h' n', Fr h₀ L h' m → News h₀ L h' (g (listOf (its ++ its2) n')) → Q .none { s with heap := h' }) : wpAny (model prog w) A (call (.builtin "list.extend") [.ref D, .ref b]) Q E s := by
  have z := N _ hm
  have k := upd_news F N U (mapSeq_list (fun xs => xs ++ its2) its n) rfl
  exact call_meets PySem.F.slot_list_extend ⟨_, z.1, rfl⟩ PySem.F.entry_list_extend (PySem.F.args_list_extend_2 _ _) (PySem.AutoSeq1.list_extend_list_list_0 D its n b its2 n2 (extend_door (by rw [sizeLine_eq]; lia)) (by rw [sizeLine_eq]; lia) (by rw [sizeLine_eq]; lia)) ⟨z.1, (N _ hb).1, h _ _ k.1 k.2⟩
end
end
section
set_option maxHeartbeats 8000000
local macro_rules | `(tactic| walk_at "eval Name") => `(tactic| walk_at "evE")
theorem rowT {w : World} {dp un : Nat} {gd : Option (List Code)} {cn : Str} {cs : Scope} {a : Addr} {ccd : Value} {cl : List (Str × Addr)} {outer : List Env} {A₀ : Around} {base h₀ : Heap} {L : Addr} {m mg mb : Str → Option Value} {mean : ExcName → Option Value} {s : Shared} {Q E : Value → Shared → Prop} {lp : Addr} {pvs : List Value} {nl : Nat} {ps : List (Int × Int)} {rest : List (Addr × Obj)} {held : Int} {th : Tok}
    (B : Below A₀ base outer h₀) (F : Fr h₀ L s.heap m) (X : (Mine.hd.heap_1 w.params).In h₀) (T : TP mean mg mb h₀) (hk : cs.kind = .function) (hd : dp + 16 < recursionLimit) (hu : un + 128 < cLine) (XB : (Mine.hd.heap_1 w.params).In base) (TB : TP mean mg mb base) (D : KtsDicts (outer.filterMap (·.frame)) h₀)
    (N : News h₀ L s.heap rest) (hlp : (lp, listOf pvs.toArray nl) ∈ rest) (hps : PairsAt s.heap pvs ps) (hr : ∀ p ∈ ps, 0 ≤ p.1 ∧ p.1 < p.2 ∧ p.2 ≤ 4) (hlen : ps.length ≤ 5) (hh0 : 0 ≤ held) (hh4 : held ≤ 4)
    (ret : ∀ h₀' h' tk' D rv nr R, KtsTurn (outer.filterMap (·.frame)) h₀ h₀' → Fr h₀' L h' m → Below A₀ base outer h₀' → (Mine.hd.heap_1 w.params).In h₀' → TP mean mg mb h₀' → KtsDicts (outer.filterMap (·.frame)) h₀' →
      News h₀' L h' ((D, listOf rv.toArray nr) :: rest) → IntsAre rv R → RowSpec ps held R → (∀ p ∈ rest, p.1 ≠ D) → Q (.ref D) { s with heap := h', toks := tk' }) :
    wpAny (model PG w) (ktrTop dp un gd cn cs L a ccd cl outer) (call (.ref 170) [.ref lp, .int held th]) Q E s := by
  have N0 : News h₀ L s.heap [] := fun p hp => nomatch hp
  refine wpAny_call ?_
  k_dflt (refine' code_defTC ?k1 ?k2 ?k3 ?k4 ?k5 ?kXB ?kTB ?kD ?kA ?kF ?kK ?k6 ?k7 ?k8 ?k9 ?kB ?kN ?_ ?c2 ?c3 ?c4; (case kA => exact rfl); (case kF => exact rfl); (case kK => assumption); (case k1 => k_asm); (case k2 => k_asm); (case k3 => k_asm); (case k4 => exact N0); (case k5 => k_asm); (case kXB => assumption); (case kTB => assumption); (case kD => assumption); (case k6 => k_is); (case k7 => k_is); (case k8 => ktr_room); (case k9 => exact BindsTo.of_eq rfl); (case kB => exact rfl); (case kN => decide +kernel); (case c2 => exact rfl); (case c3 => exact rfl); (case c4 => exact rfl); k_whole; intro g' L' h' tk' cells' FG' F' N' Y' B' X' T' D' kG' l1'; k_cells Y'; (try simp only [List.cons_append, List.nil_append] at N'); (try dsimp only); (try k_fold))
  (repeat' (first | (k_unfold; (try dsimp only)) | (k_end; wrow_close) | ((fail_if_success (with_reducible (refine Mine.stop_here ?_ ?_; walk_at "s0"))); walk1) | (dsimp only; (fail_if_success (with_reducible (refine Mine.stop_here ?_ ?_; walk_at "s0"))); walk1) | (leave1; walk_say "STEP leave1"; try dsimp only) | walk_at "onk" | fail "no step"))
  walk1
  (repeat' (first | (k_unfold; (try dsimp only)) | (k_end; wrow_close) | ((fail_if_success (with_reducible (refine Mine.stop_here ?_ ?_; walk_at "s0"))); walk1) | (dsimp only; (fail_if_success (with_reducible (refine Mine.stop_here ?_ ?_; walk_at "s0"))); walk1) | (leave1; walk_say "STEP leave1"; try dsimp only) | walk_at "onk" | fail "no step"))
  rename_i oc hoc _ _ x dx _ lx1 lx2 gi Li _ Bi Xi Ti _ d _ od hdm _ _ hod _ lx3 _ _ _ _ _ _ _ Fi Ni _ _ _ h1 F1 N1
  clear Bi Xi Ti Fi Ni
  (try clear ek qk)
  obtain ⟨t1, t2, t3, t4, t5, t6, N2⟩ : ∃ t1 t2 t3 t4 t5 t6, News g' L' h1 ((x, instObj 151 dx) :: (dx, dictOf (sEs w (.ref d) .none (.int 0 t5) (.int 0 t6) t1 t2 t3 t4) 4) :: (d, od) :: ([(L' + 1, oc)] ++ [])) :=
    ⟨_, _, _, _, _, _, fun p hp => N1 p (by
      refine led_go hp ?_
      walk_at "led")⟩
  have P2 : Apart x dx d [(L' + 1, oc)] [] := by
    refine ⟨Nat.ne_of_gt lx2, Nat.ne_of_lt lx3.1, Nat.ne_of_lt lx3.2.1, fun p hp => ?_, fun p hp q hq => nomatch hq⟩
    simp only [List.append_nil, List.mem_singleton] at hp
    subst hp
    exact ⟨Nat.ne_of_lt (Nat.lt_trans lx1 lx2), Nat.ne_of_lt lx1, Nat.ne_of_lt lx3.2.2⟩
  clear N1
  refine For_turns (by k_asm) ?_
  (repeat' (first | (k_unfold; (try dsimp only)) | (k_end; wrow_close) | ((fail_if_success (with_reducible (refine Mine.stop_here ?_ ?_; first | walk_at "s0" | exact Mine.p20 | exact Mine.p21 | exact Mine.p22))); walk1) | (dsimp only; (fail_if_success (with_reducible (refine Mine.stop_here ?_ ?_; first | walk_at "s0" | exact Mine.p20 | exact Mine.p21 | exact Mine.p22))); walk1) | (leave1; walk_say "STEP leave1"; try dsimp only) | walk_at "onk" | fail "no step"))
  rename Fr g' L' _ _ => F2
  rename News g' L' _ _ => N3
  rename_i lv _ lx4
  refine turns_list (news₀ := (x, instObj 151 dx) :: (dx, dictOf (sEs w (.ref d) .none (.int 0 t5) (.int 0 t6) t1 t2 t3 t4) 4) :: (d, od) :: ([(L' + 1, oc)] ++ [])) (ax := lv)
    (fun i m' nw => m' (Str.ofString "sorter") = some (.ref x) ∧ m' (Str.ofString "pairs") = some (.ref lp) ∧ (Ex5 fun od nA dA sA srt => Cj4 (nw = (x, instObj 151 dx) :: (dx, dictOf (sEs w (.ref d) .none (.int 0 t5) (.int 0 t6) t1 t2 t3 t4) 4) :: (d, od) :: ([(L' + 1, oc)] ++ srt)) (od.IsDictOf (intKind PG w) (kvsOf (keys5.take i) nA)) (Nodes nA dA sA (keys5.take i) (fun _ => 0) (fun _ => []) srt) (Apart x dx d [(L' + 1, oc)] srt))) rfl F2 N3 ?t2 ?t3 ?t4 ?t5
  case t2 =>
    intro p hp
    simp only [List.cons_append, List.nil_append, List.mem_cons, List.not_mem_nil, or_false] at hp
    rcases hp with rfl | rfl | rfl | rfl
    · exact Nat.ne_of_lt lx4.1
    · exact Nat.ne_of_lt lx4.2.1
    · exact Nat.ne_of_lt lx4.2.2.1
    · exact Nat.ne_of_lt (Nat.lt_trans (Nat.lt_trans lx1 lx2) lx4.1)
  case t3 =>
    exact ⟨if_pos rfl, (if_neg (by decide)).trans rfl, od, fun _ => 0, fun _ => 0, fun _ => 0, [], rfl, hod, ⟨List.nodup_nil, fun k hk => absurd hk List.not_mem_nil, fun k hk => absurd hk List.not_mem_nil, fun k hk => absurd hk List.not_mem_nil, fun k hk => absurd hk List.not_mem_nil⟩, P2⟩
  case t4 =>
    rintro i v m₁ nw h₁ tk₁ own hv ⟨m1, m2, od, nA, dA, sA, srt, rfl, hD, Nd, P⟩ dis F4 N4
    obtain ⟨hi5, tv, rfl⟩ : i < 5 ∧ ∃ tv, v = .int (keys5.getD i 0) tv := by
      rcases i with _ | _ | _ | _ | _ | i
      · cases hv; exact ⟨by decide, _, rfl⟩
      · cases hv; exact ⟨by decide, _, rfl⟩
      · cases hv; exact ⟨by decide, _, rfl⟩
      · cases hv; exact ⟨by decide, _, rfl⟩
      · cases hv; exact ⟨by decide, _, rfl⟩
      · cases hv
    clear F2 N3
    (repeat' (first | (k_unfold; (try dsimp only)) | (k_end; wrow_close) | ((fail_if_success (with_reducible (refine Mine.stop_here ?_ ?_; walk_at "s0"))); walk1) | (dsimp only; (fail_if_success (with_reducible (refine Mine.stop_here ?_ ?_; walk_at "s0"))); walk1) | (leave1; walk_say "STEP leave1"; try dsimp only) | walk_at "onk" | fail "no step"))
    rename News g' L' _ _ => N5
    rename Fr g' L' _ _ => F5
    refine' addT (pv := []) (ps := []) (rest := own ++ [(L' + 1, oc)]) ?b1 ?b2 ?b3 ?b4 ?b5 ?b6 ?b7 ?b8 hdm hD Nd ?b9 ?c1 ?c2 ?c3 .nil ?c4 ?c5 ?_
    (case b1 => k_asm); (case b2 => k_asm); (case b3 => k_asm); (case b4 => k_asm); (case b5 => first | exact rfl | assumption); (case b6 => ktr_room); (case b7 => ktr_units)
    (case b8 => exact fun p hp => N5 p (by
      refine led_go hp ?_
      walk_at "led"))
    (case b9 => exact P.app (fun p hp => ⟨dis p hp _ (.head _), dis p hp _ (.tail _ (.head _)), dis p hp _ (.tail _ (.tail _ (.head _)))⟩) fun p hp q hq => dis p hp q (.tail _ (.tail _ (.tail _ (.tail _ hq)))))
    (case c1 => exact fun _ _ => ⟨rfl, rfl⟩)
    (case c2 => have : (keys5.take i).length ≤ 5 := by rw [List.length_take]; exact Nat.min_le_right _ _
                simp; lia)
    (case c3 => exact fun _ => by simp)
    (case c4 => exact List.not_mem_nil)
    (case c5 => exact Nat.zero_le _)
    intro h6 tk6 od6 nA6 dA6 sA6 srt6 F6 N6 hD6 Nd6 P6
    rw [keys5_step i hi5] at hD6 Nd6
    rw [upd_zero] at Nd6
    (try dsimp only)
    (repeat' (first | (k_unfold; (try dsimp only)) | (k_end; wrow_close) | ((fail_if_success (with_reducible (refine Mine.stop_here ?_ ?_; walk_at "s0"))); walk1) | (dsimp only; (fail_if_success (with_reducible (refine Mine.stop_here ?_ ?_; walk_at "s0"))); walk1) | (leave1; walk_say "STEP leave1"; try dsimp only) | walk_at "onk" | fail "no step"))
    refine ⟨h6, _, _, (x, instObj 151 dx) :: (dx, dictOf (sEs w (.ref d) .none (.int 0 t5) (.int 0 t6) t1 t2 t3 t4) 4) :: (d, od6) :: ([(L' + 1, oc)] ++ srt6), rfl, F6, ?_, ?_, (if_neg (by decide)).trans m1, (if_neg (by decide)).trans m2, od6, nA6, dA6, sA6, srt6, rfl, hD6, Nd6, P6.drop⟩
    · exact fun p hp => N6 p (by
        refine led_go hp ?_
        walk_at "led")
    · intro p hp q hq
      rcases List.mem_cons.mp hq with rfl | hq
      · exact (P6.tl p (List.mem_append_left _ (List.mem_append_left _ hp))).1
      rcases List.mem_cons.mp hq with rfl | hq
      · exact (P6.tl p (List.mem_append_left _ (List.mem_append_left _ hp))).2.1
      rcases List.mem_cons.mp hq with rfl | hq
      · exact (P6.tl p (List.mem_append_left _ (List.mem_append_left _ hp))).2.2
      rcases List.mem_append.mp hq with hq | hq
      · exact dis p hp q (.tail _ (.tail _ (.tail _ (List.mem_append_left _ hq))))
      · exact P6.rs p (List.mem_append_left _ hp) q hq
  case t5 =>
    rintro m' nw h2 tk2 ⟨m1, m2, od, nA, dA, sA, srt, rfl, hD, Nd, P⟩ F3 N3 hx3
    have N4 : News g' L' h2 ((x, instObj 151 dx) :: (dx, dictOf (sEs w (.ref d) .none (.int 0 t5) (.int 0 t6) t1 t2 t3 t4) 4) :: (d, od) :: ([(L' + 1, oc)] ++ srt)) := fun p hp => N3 p (.tail _ hp)
    clear F2 N3 hx3
    have hbl : g'.get? lp = some (listOf pvs.toArray nl) := kG' _ _ (N _ hlp).1 (by simp)
    have hbT : ∀ p ∈ rest, g'.get? p.1 = some p.2 := fun p hp => kG' _ _ (N p hp).1 (by simp)
    (try dsimp only)
    (repeat' (first | (k_unfold; (try dsimp only)) | (k_end; wrow_close) | ((fail_if_success (with_reducible (refine Mine.stop_here ?_ ?_; walk_at "s0"))); walk1) | (dsimp only; (fail_if_success (with_reducible (refine Mine.stop_here ?_ ?_; walk_at "s0"))); walk1) | (leave1; walk_say "STEP leave1"; try dsimp only) | walk_at "onk" | fail "no step"))
    refine For_turns (by k_asm) ?_
    (repeat' (first | (k_unfold; (try dsimp only)) | (k_end; wrow_close) | ((fail_if_success (with_reducible (refine Mine.stop_here ?_ ?_; first | walk_at "s0" | exact Mine.p20 | exact Mine.p21 | exact Mine.p22))); walk1) | (dsimp only; (fail_if_success (with_reducible (refine Mine.stop_here ?_ ?_; first | walk_at "s0" | exact Mine.p20 | exact Mine.p21 | exact Mine.p22))); walk1) | (leave1; walk_say "STEP leave1"; try dsimp only) | walk_at "onk" | fail "no step"))
    refine turns_base (vs := pvs) (nv := nl) (fun i m' nw => m' (Str.ofString "sorter") = some (.ref x) ∧ (Ex5 fun od nA dA sA srt => Cj4 (nw = (x, instObj 151 dx) :: (dx, dictOf (sEs w (.ref d) .none (.int 0 t5) (.int 0 t6) t1 t2 t3 t4) 4) :: (d, od) :: ([(L' + 1, oc)] ++ srt)) (od.IsDictOf (intKind PG w) (kvsOf keys5 nA)) (Nodes nA dA sA keys5 (npP (ps.take i)) (succP (ps.take i)) srt) (Apart x dx d [(L' + 1, oc)] srt))) rfl F3 N4 hbl ?t3 ?t4 ?t5
    case t3 =>
      have e1 : npP (ps.take 0) = fun _ => 0 := rfl
      have e2 : succP (ps.take 0) = fun _ => [] := rfl
      exact ⟨m1, od, nA, dA, sA, srt, rfl, hD, e1 ▸ e2 ▸ Nd, P⟩
    case t4 =>
      rintro i v m₁ nw h₁ tk₁ own hv ⟨m1, od, nA, dA, sA, srt, rfl, hD, Nd, P⟩ dis F4 N5
      have hi : i < ps.length := by rw [← hps.length]; exact (List.getElem?_eq_some_iff.mp hv).1
      obtain ⟨T, tl, tu, hT, hTm⟩ := hps.get i hi
      rw [hT] at hv
      cases hv
      have hpr := hr _ (List.getElem_mem hi)
      refine unpackN_ F4 N5 ⟨_, F4.keep _ _ (kG' _ _ hTm (by simp)), rfl, _, rfl⟩ rfl (by with_unfolding_all rfl) (by with_unfolding_all rfl) ?_
      intro h6 F6 N6
      clear F4 N5 F3 N4
      (try dsimp only)
      (repeat' (first | (k_unfold; (try dsimp only)) | (k_end; wrow_close) | ((fail_if_success (with_reducible (refine Mine.stop_here ?_ ?_; walk_at "s0"))); walk1) | (dsimp only; (fail_if_success (with_reducible (refine Mine.stop_here ?_ ?_; walk_at "s0"))); walk1) | (leave1; walk_say "STEP leave1"; try dsimp only) | walk_at "onk" | fail "no step"))
      rename News g' L' _ _ => N7
      rename Fr g' L' _ _ => F7
      have hsub : ∀ p ∈ ps.take i, 0 ≤ p.1 ∧ p.1 < p.2 ∧ p.2 ≤ 4 := fun p hp => hr p (List.mem_of_mem_take hp)
      have k1 : ps[i].1 ∈ keys5 := mem_keys5.mpr (by lia)
      have k2 : ps[i].2 ∈ keys5 := mem_keys5.mpr (by lia)
      refine' addT (pv := [.int ps[i].1 tl]) (ps := [ps[i].1]) (rest := own ++ [(L' + 1, oc)]) ?b1 ?b2 ?b3 ?b4 ?b5 ?b6 ?b7 ?b8 hdm hD Nd ?b9 ?c1 ?c2 ?c3 (.cons _ _ .nil) ?c4 ?c5 ?_
      (case b1 => k_asm); (case b2 => k_asm); (case b3 => k_asm); (case b4 => k_asm); (case b5 => first | exact rfl | assumption); (case b6 => ktr_room); (case b7 => ktr_units)
      (case b8 => exact fun p hp => N7 p (by
        refine led_go hp ?_
        walk_at "led"))
      (case b9 => exact P.app (fun p hp => ⟨dis p hp _ (.head _), dis p hp _ (.tail _ (.head _)), dis p hp _ (.tail _ (.tail _ (.head _)))⟩) fun p hp q hq => dis p hp q (.tail _ (.tail _ (.tail _ (.tail _ hq)))))
      (case c1 => exact fun j hj => npP_out hsub hj)
      (case c2 => exact (by decide : keys5.length + 1 ≤ 900))
      (case c3 => exact fun j => Nat.le_trans (succP_len _ j) (Nat.le_trans (List.length_take_le _ _) (by lia)))
      (case c4 => simp only [List.mem_singleton]; lia)
      (case c5 => exact (by decide : 1 ≤ 4))
      intro h8 tk8 od8 nA8 dA8 sA8 srt8 F8 N8 hD8 Nd8 P8
      have ek1 : addKeys keys5 ps[i].2 [ps[i].1] = keys5 := by
        show touch (touch keys5 ps[i].2) ps[i].1 = keys5
        rw [touch_of k2, touch_of k1]
      have etk : ps.take (i + 1) = ps.take i ++ [(ps[i].1, ps[i].2)] := by rw [List.take_succ, List.getElem?_eq_getElem hi]; rfl
      have en : upd (npP (ps.take i)) ps[i].2 (npP (ps.take i) ps[i].2 + (([ps[i].1] : List Int).length : Nat)) = npP (ps.take (i + 1)) := by rw [etk, npP_snoc]; rfl
      have es : addSucc (succP (ps.take i)) ps[i].2 [ps[i].1] = succP (ps.take (i + 1)) := by rw [etk, succP_snoc]; rfl
      rw [ek1] at hD8 Nd8
      rw [en, es] at Nd8
      (try dsimp only)
      (repeat' (first | (k_unfold; (try dsimp only)) | (k_end; wrow_close) | ((fail_if_success (with_reducible (refine Mine.stop_here ?_ ?_; walk_at "s0"))); walk1) | (dsimp only; (fail_if_success (with_reducible (refine Mine.stop_here ?_ ?_; walk_at "s0"))); walk1) | (leave1; walk_say "STEP leave1"; try dsimp only) | walk_at "onk" | fail "no step"))
      refine ⟨h8, _, _, (x, instObj 151 dx) :: (dx, dictOf (sEs w (.ref d) .none (.int 0 t5) (.int 0 t6) t1 t2 t3 t4) 4) :: (d, od8) :: ([(L' + 1, oc)] ++ srt8), rfl, F8, ?_, ?_, (if_neg (by decide)).trans ((if_neg (by decide)).trans m1), od8, nA8, dA8, sA8, srt8, rfl, hD8, Nd8, P8.drop⟩
      · exact fun p hp => N8 p (by
          refine led_go hp ?_
          walk_at "led")
      · intro p hp q hq
        rcases List.mem_cons.mp hq with rfl | hq
        · exact (P8.tl p (List.mem_append_left _ (List.mem_append_left _ hp))).1
        rcases List.mem_cons.mp hq with rfl | hq
        · exact (P8.tl p (List.mem_append_left _ (List.mem_append_left _ hp))).2.1
        rcases List.mem_cons.mp hq with rfl | hq
        · exact (P8.tl p (List.mem_append_left _ (List.mem_append_left _ hp))).2.2
        rcases List.mem_append.mp hq with hq | hq
        · exact dis p hp q (.tail _ (.tail _ (.tail _ (List.mem_append_left _ hq))))
        · exact P8.rs p (List.mem_append_left _ hp) q hq
    case t5 =>
      rintro m' nw h4 tk4 ⟨m1, od, nA, dA, sA, srt, rfl, hD, Nd, P⟩ F5 N5
      rw [hps.length, List.take_length] at Nd
      clear F3 N4
      (try dsimp only)
      (repeat' (first | (k_unfold; (try dsimp only)) | (k_end; wrow_close) | ((fail_if_success (with_reducible (refine Mine.stop_here ?_ ?_; walk_at "s0"))); walk1) | (dsimp only; (fail_if_success (with_reducible (refine Mine.stop_here ?_ ?_; walk_at "s0"))); walk1) | (leave1; walk_say "STEP leave1"; try dsimp only) | walk_at "onk" | fail "no step"))
      have hss : ∀ k ∈ keys5, ∀ j ∈ succP ps k, j ∈ keys5 ∧ k.toNat < j.toNat := fun k hk j hj => by
        have q1 := hr _ (succP_mem.mp hj)
        have q2 := mem_keys5.mp hk
        dsimp only at q1
        exact ⟨mem_keys5.mpr (by lia), by lia⟩
      refine' prepareT (rk := Int.toNat) (rest := [(L' + 1, oc)]) ?b1 ?b2 ?b3 ?b4 ?b5 ?b6 ?b7 XB TB D' N5 hdm hD Nd P hss ?c1 ?c2 ?_
      (case b1 => k_asm); (case b2 => k_asm); (case b3 => k_asm); (case b4 => k_asm); (case b5 => first | exact rfl | assumption); (case b6 => ktr_room); (case b7 => ktr_units)
      (case c1 => exact fun k _ => Nat.le_trans (succP_len _ k) (by lia))
      (case c2 => decide)
      intro g9 h9 tk9 r rv nr KT9 F9 B9 X9 T9 D9 N9 hrv lr
      clear F5 N5
      (try dsimp only)
      (repeat' (first | (k_unfold; (try dsimp only)) | (k_end; wrow_close) | ((fail_if_success (with_reducible (refine Mine.stop_here ?_ ?_; walk_at "s0"))); walk1) | (dsimp only; (fail_if_success (with_reducible (refine Mine.stop_here ?_ ?_; walk_at "s0"))); walk1) | (leave1; walk_say "STEP leave1"; try dsimp only) | walk_at "onk" | fail "no step"))
      (try dsimp only [List.append_nil])
      rename Fr g9 L' _ _ => F10
      rename News g9 L' _ _ => N10
      rename_i lw _ lx5 _
      have hrx : x < r := lr _ (.head _)
      have hrdx : dx < r := lr _ (.tail _ (.head _))
      have hrd : d < r := lr _ (.tail _ (.tail _ (.head _)))
      have P10 : Apart4 x dx d r [(lw, listOf #[] 0), (L' + 1, oc)] srt := by
        refine ⟨P.app (own := [(lw, listOf #[] 0)]) (fun p hp => ?_) (fun p hp q hq => ?_), Nat.ne_of_lt hrx, Nat.ne_of_lt hrdx, Nat.ne_of_lt hrd, fun p hp => ?_⟩
        · rw [List.mem_singleton.mp hp]; exact ⟨Nat.ne_of_gt lx5.1, Nat.ne_of_gt lx5.2.1, Nat.ne_of_gt lx5.2.2.1⟩
        · rw [List.mem_singleton.mp hp]
          exact Nat.ne_of_gt (allLt_mem lx5.2.2.2.2 q (List.mem_append_right _ hq))
        · simp only [List.cons_append, List.nil_append, List.mem_cons] at hp
          rcases hp with rfl | rfl | hp
          · exact Nat.ne_of_gt lx5.2.2.2.1
          · exact Nat.ne_of_lt (lr _ (.tail _ (.tail _ (.tail _ (.head _)))))
          · exact Nat.ne_of_lt (lr _ (.tail _ (.tail _ (.tail _ (List.mem_append_right _ hp)))))
      refine' get_ready (rest := [(lw, listOf #[] 0), (L' + 1, oc)]) ?b1 ?b2 ?b3 ?b4 ?b5 ?b6 ?b7 ?b8 hdm hD Nd P10 hrv ?c1 ?c2 ?_
      (case b1 => k_asm); (case b2 => k_asm); (case b3 => k_asm); (case b4 => k_asm); (case b5 => first | exact rfl | assumption); (case b6 => ktr_room); (case b7 => ktr_units)
      (case b8 => exact fun p hp => N10 p (by
        refine led_go hp ?_
        walk_at "led"))
      (case c1 => exact fun k hk => (List.mem_filter.mp hk).1)
      (case c2 => exact Nat.le_trans (List.length_filter_le _ _) (by decide))
      intro h11 tk11 T11 srt11 tpo11 nr11 F11 N11 Nd11 P11 hT11
      clear F10 N10
      (try dsimp only)
      (repeat' (first | (k_unfold; (try dsimp only)) | (k_end; wrow_close) | ((fail_if_success (with_reducible (refine Mine.stop_here ?_ ?_; walk_at "s0"))); walk1) | (dsimp only; (fail_if_success (with_reducible (refine Mine.stop_here ?_ ?_; walk_at "s0"))); walk1) | (leave1; walk_say "STEP leave1"; try dsimp only) | walk_at "onk" | fail "no step"))
      walk1
      rename_i wl cw _ _ _ lx6
      (try dsimp only)
      (repeat' (first | (k_unfold; (try dsimp only)) | (k_end; wrow_close) | ((fail_if_success (with_reducible (refine Mine.stop_here ?_ ?_; walk_at "s0"))); walk1) | (dsimp only; (fail_if_success (with_reducible (refine Mine.stop_here ?_ ?_; walk_at "s0"))); walk1) | (leave1; walk_say "STEP leave1"; try dsimp only) | walk_at "onk" | fail "no step"))
      rename Fr g9 L' _ _ => F12
      rename News g9 L' _ _ => N12
      have q1 : @LT.lt Nat _ lw wl := lx6.2.2.2.2.2.1
      have q2 : @LT.lt Nat _ (L' + 1) wl := lx6.2.2.2.2.2.2.1
      have q3 : @LT.lt Nat _ (L' + 1) lw := lx5.2.2.2.2.1
      have q4 : @LT.lt Nat _ x lw := lx5.1
      have q5 : @LT.lt Nat _ dx lw := lx5.2.1
      have q6 : @LT.lt Nat _ d lw := lx5.2.2.1
      have q7 : @LT.lt Nat _ r lw := lx5.2.2.2.1
      refine while_inv (fun n s' => (Ex16 fun h' tk' m' srt np R Wt wv rwv nw nr po nf tpo tnf nrr => Cj12 (s' = { s with heap := h', toks := tk' }) (Fr g9 L' h' m') (m' (Str.ofString "sorter") = some (.ref x)) (m' (Str.ofString "row") = some (.ref lw)) (m' (Str.ofString "waiting") = some (.ref wl)) (News g9 L' h' ((x, instObj 151 dx) :: (dx, dictOf (sEs w (.ref d) (.ref r) (.int po tpo) (.int nf tnf) t1 t2 t3 t4) 4) :: (d, od) :: (r, listOf #[] nrr) :: ([(wl, listOf wv.toArray nw), (lw, listOf rwv.toArray nr), (L' + 1, oc)] ++ srt))) (Nodes nA dA sA keys5 np (succP ps) srt) (Apart4 x dx d r [(wl, listOf wv.toArray nw), (lw, listOf rwv.toArray nr), (L' + 1, oc)] srt) (IntsAre wv Wt) (IntsAre rwv R) (RowInv ps held R Wt np) (R.length + n = 6))) (by passes_own) ?_ 6 ?_
      · rintro n s' ⟨h', tk', m', srt, np, R, Wt, wv, rwv, nw, nr, po, nf, tpo, tnf, nrr, rfl, F13, k1, k2, k3, N13, Nd13, P13, hwv, hrwv, inv, hn⟩
        clear F12 N12
        (repeat' (first | (k_unfold; (try dsimp only)) | (k_end; wrow_close) | ((fail_if_success (with_reducible (refine Mine.stop_here ?_ ?_; first | walk_at "s0" | exact Mine.p20 | exact Mine.p21 | exact Mine.p22 | exact Mine.p23 | exact Mine.p24 | exact Mine.p14))); walk1) | (dsimp only; (fail_if_success (with_reducible (refine Mine.stop_here ?_ ?_; first | walk_at "s0" | exact Mine.p20 | exact Mine.p21 | exact Mine.p22 | exact Mine.p23 | exact Mine.p24 | exact Mine.p14))); walk1) | (leave1; walk_say "STEP leave1"; try dsimp only) | walk_at "onk" | fail "no step"))
        rename Fr g9 L' _ _ => F14
        rename News g9 L' _ _ => N14
        rename_i ln _ lx7
        (try clear F13 N13)
        (try dsimp only)
        refine' ne_intsK (vs := wv) (us := []) (ns := Wt) (ms := []) (N14.isList (.tail _ (.tail _ (.tail _ (.tail _ (.tail _ (.head _))))))) hwv (N14.isList (.head _)) .nil ?b1 ?_
        (case b1 => k_units)
        (repeat' (first | (k_unfold; (try dsimp only)) | (k_end; wrow_close) | ((fail_if_success (with_reducible (refine Mine.stop_here ?_ ?_; first | walk_at "s0" | exact Mine.p20 | exact Mine.p21 | exact Mine.p22 | exact Mine.p23 | exact Mine.p24 | exact Mine.p14))); walk1) | (dsimp only; (fail_if_success (with_reducible (refine Mine.stop_here ?_ ?_; first | walk_at "s0" | exact Mine.p20 | exact Mine.p21 | exact Mine.p22 | exact Mine.p23 | exact Mine.p24 | exact Mine.p14))); walk1) | (leave1; walk_say "STEP leave1"; try dsimp only) | walk_at "onk" | fail "no step"))
        have N15 : News g9 L' _ _ := fun p hp => N14 p (.tail _ hp)
        clear N14
        by_cases hW : Wt = []
        · refine WhlIf.no (by simp [hW]) ?_
          (repeat' (first | (k_unfold; (try dsimp only)) | (k_end; wrow_close) | ((fail_if_success (with_reducible (refine Mine.stop_here ?_ ?_; first | walk_at "s0" | exact Mine.p20 | exact Mine.p21 | exact Mine.p22 | exact Mine.p23 | exact Mine.p24 | exact Mine.p14))); walk1) | (dsimp only; (fail_if_success (with_reducible (refine Mine.stop_here ?_ ?_; first | walk_at "s0" | exact Mine.p20 | exact Mine.p21 | exact Mine.p22 | exact Mine.p23 | exact Mine.p24 | exact Mine.p14))); walk1) | (leave1; walk_say "STEP leave1"; try dsimp only) | walk_at "onk" | fail "no step"))
          subst hW
          have hRR : ∀ p ∈ rest, g9.get? p.1 = some p.2 := fun p hp => KT9.other _ _ (hbT p hp) (fun q => by
            rcases kts_memX (L := L) rfl q with z | z
            · exact (N p hp).2.1 z
            · obtain ⟨o, ho, _⟩ := (B.frames.mem z).2
              rw [(N p hp).2.2] at ho; cases ho)
          refine ⟨g9, L', _, _, KT9, F14, N15, fun h₀' KT F N' B X T D => ?_⟩
          have zl := N' (lw, listOf rwv.toArray nr) (.tail _ (.tail _ (.tail _ (.tail _ (.tail _ (.head _))))))
          refine ret h₀' _ _ lw rwv nr R KT F B X T D (fun p hp => ?_) hrwv (inv.done hr) (fun p hp q => ?_)
          · rcases List.mem_cons.mp hp with rfl | hp
            · exact zl
            · exact ⟨F14.keep _ _ (hRR p hp), (N p hp).2.1, KT.none_ _ (N p hp).2.2⟩
          · have := (N15 (lw, listOf rwv.toArray nr) (.tail _ (.tail _ (.tail _ (.tail _ (.tail _ (.head _))))))).2.2
            rw [← q, hRR p hp] at this; cases this
        · refine WhlIf.yes (by simp [hW]) ?_
          (repeat' (first | (k_unfold; (try dsimp only)) | (k_end; wrow_close) | ((fail_if_success (with_reducible (refine Mine.stop_here ?_ ?_; first | walk_at "s0" | exact Mine.p20 | exact Mine.p21 | exact Mine.p22 | exact Mine.p23 | exact Mine.p24 | exact Mine.p14))); walk1) | (dsimp only; (fail_if_success (with_reducible (refine Mine.stop_here ?_ ?_; first | walk_at "s0" | exact Mine.p20 | exact Mine.p21 | exact Mine.p22 | exact Mine.p23 | exact Mine.p24 | exact Mine.p14))); walk1) | (leave1; walk_say "STEP leave1"; try dsimp only) | walk_at "onk" | fail "no step"))
          have hoc' : oc.data = .cell (some (.int held th)) := hoc
          obtain ⟨led, hled⟩ : ∃ led, led = (x, instObj 151 dx) :: (dx, dictOf (sEs w (.ref d) (.ref r) (.int po tpo) (.int nf tnf) t1 t2 t3 t4) 4) :: (d, od) :: (r, listOf #[] nrr) :: (wl, listOf wv.toArray nw) :: (lw, listOf rwv.toArray nr) :: srt := ⟨_, rfl⟩
          have N16 : News g9 L' _ ((L' + 1, oc) :: led) := fun p hp => N15 p (by
            rw [hled] at hp
            refine led_go hp ?_
            walk_at "led")
          have hwl : (wl, listOf wv.toArray nw) ∈ led := hled ▸ .tail _ (.tail _ (.tail _ (.tail _ (.head _))))
          have hwlen : wv.length ≤ 5 := by
            have q1 := hwv.length
            have q2 := inv.len
            lia
          clear N15
          refine comp_eval (cl := [(Str.ofString "held", L' + 1)]) (F₀ := F14) (by with_unfolding_all rfl) rfl (by decide) ?_
          (repeat' (first | (k_unfold; (try dsimp only)) | (k_end; wrow_close) | ((fail_if_success (with_reducible (refine Mine.stop_here ?_ ?_; first | walk_at "s0" | exact Mine.p20 | exact Mine.p21 | exact Mine.p22 | exact Mine.p23 | exact Mine.p24 | exact Mine.p14))); walk1) | (dsimp only; (fail_if_success (with_reducible (refine Mine.stop_here ?_ ?_; first | walk_at "s0" | exact Mine.p20 | exact Mine.p21 | exact Mine.p22 | exact Mine.p23 | exact Mine.p24 | exact Mine.p14))); walk1) | (leave1; walk_say "STEP leave1"; try dsimp only) | walk_at "onk" | fail "no step"))
          refine src_list (its := wv.toArray) rfl F14 N16 (.tail _ hwl) (by rw [sizeLine_eq]; simp; lia) ?_
          intro I h16 src lI
          refine ⟨I, _, _, _, _, rfl, src, ?_⟩
          rintro D C s₃ ⟨h17, rfl⟩ lD hDC
          refine ⟨fun i ys nw => nw = (L' + 1, oc) :: led ∧ IntsAre ys ((Wt.take i).filter fun k => decide (k ≠ held)), ?_, ⟨rfl, .nil⟩, ?_, ?_⟩
          · rintro i ys nw ⟨rfl, _⟩
            exact .inr ⟨_, .tail _ hwl, rfl, _, rfl⟩
          · rintro i v h tk oI oC m₂ ys nw hi hv F18 N18 hC18 off18 ⟨n1, n2, n3⟩ ⟨rfl, hys⟩
            have hiW : i < Wt.length := by have := hwv.length; simp at hi; lia
            obtain ⟨tv, rfl⟩ : ∃ tv, v = .int Wt[i] tv := by
              obtain ⟨tv, e⟩ := hwv.get i _ (List.getElem?_eq_getElem hiW)
              have hv' : wv[i]? = some v := by simpa using hv
              rw [e] at hv'; cases hv'; exact ⟨tv, rfl⟩
            have etk : Wt.take (i + 1) = Wt.take i ++ [Wt[i]] := by rw [List.take_succ, List.getElem?_eq_getElem hiW]; rfl
            have off19 := off18.mem
            have U18 : ∀ o₁, UpdF C o₁ ((I, oI) :: (C, o₁) :: (D, LCg.lst ys) :: (L' + 1, oc) :: led) (fun o₁ => (I, oI) :: (C, o₁) :: (D, LCg.lst ys) :: (L' + 1, oc) :: led) := fun o₁ =>
              .tail n1 (.head fun p hp => by
                rcases List.mem_cons.mp hp with rfl | hp
                · exact Ne.symm n3
                · exact (off19 p hp).2.1)
            refine asg_own F18 N18 (U18 oC) hC18 rfl rfl ?_
            intro h6 oC6 F6 N6 hC6
            have hx6 : (fun y => if y = Str.ofString "thing" then some (Value.int Wt[i] tv) else m₂ y) (Str.ofString "thing") = some (Value.int Wt[i] tv) := if_pos rfl
            refine wpAny_tests_one ?_
            (try dsimp only)
            (repeat' (first | (k_unfold; (try dsimp only)) | (k_end; wrow_close) | ((fail_if_success (with_reducible (refine Mine.stop_here ?_ ?_; first | walk_at "s0" | exact Mine.p20 | exact Mine.p21 | exact Mine.p22 | exact Mine.p23 | exact Mine.p24 | exact Mine.p14))); walk1) | (dsimp only; (fail_if_success (with_reducible (refine Mine.stop_here ?_ ?_; first | walk_at "s0" | exact Mine.p20 | exact Mine.p21 | exact Mine.p22 | exact Mine.p23 | exact Mine.p24 | exact Mine.p14))); walk1) | (leave1; walk_say "STEP leave1"; try dsimp only) | walk_at "onk" | fail "no step"))
            · rename Wt[i] ≠ held => hz
              exact ⟨h6, _, oC6, _, _, rfl, F6, N6, hC6, off18, rfl, by rw [etk, List.filter_append]; simpa [hz] using hys.append (.cons _ tv .nil)⟩
            · rename Wt[i] = held => hz
              exact ⟨h6, _, oC6, _, _, rfl, F6, N6, hC6, off18, rfl, by rw [etk, List.filter_append]; simpa [hz] using hys⟩
          · rintro h tk ys oC m₂ nw F18 N18 hC18 off18 hCD ⟨rfl, hys⟩
            have off19 := off18.mem
            refine aend F18 N18 hC18 ?_ ?_
            · intro p hp
              rcases List.mem_cons.mp hp with rfl | hp
              · exact Ne.symm hCD
              · exact (off19 p hp).2.1
            · intro h19 F19 N19
              have ew : wv.toArray.size = Wt.length := by simpa using hwv.length
              rw [ew, List.take_length] at hys
              (try dsimp only)
              clear src F18 N18
              (repeat' (first | (k_unfold; (try dsimp only)) | (k_end; wrow_close) | ((fail_if_success (with_reducible (refine Mine.stop_here ?_ ?_; first | walk_at "s0" | exact Mine.p20 | exact Mine.p21 | exact Mine.p22 | exact Mine.p23 | exact Mine.p24 | exact Mine.p14))); walk1) | (dsimp only; (fail_if_success (with_reducible (refine Mine.stop_here ?_ ?_; first | walk_at "s0" | exact Mine.p20 | exact Mine.p21 | exact Mine.p22 | exact Mine.p23 | exact Mine.p24 | exact Mine.p14))); walk1) | (leave1; walk_say "STEP leave1"; try dsimp only) | walk_at "onk" | fail "no step"))
              rename Fr g9 L' _ _ => F20
              rename News g9 L' _ _ => N20
              rename_i lh _ lx8
              have hyl := hys.length
              have hyf : (Wt.filter fun k => decide (k ≠ held)).length ≤ 5 := Nat.le_trans (List.length_filter_le _ _) (by have := inv.len; lia)
              refine' kmk_add_ints (vs := ys) (ws := [.int held th]) (ns := Wt.filter fun k => decide (k ≠ held)) (ms := [held]) F20 N20 (N20.isList (.tail _ (.head _))) (N20.isList (.head _)) hys (.cons _ _ .nil) ?_ ?z
              (case z => rw [sizeLine_eq]; show _ + 1 ≤ _; lia)
              intro la us h21 F21 N21 lx9 hus
              (try dsimp only)
              (repeat' (first | (k_unfold; (try dsimp only)) | (k_end; wrow_close) | ((fail_if_success (with_reducible (refine Mine.stop_here ?_ ?_; first | walk_at "s0" | exact Mine.p20 | exact Mine.p21 | exact Mine.p22 | exact Mine.p23 | exact Mine.p24 | exact Mine.p14))); walk1) | (dsimp only; (fail_if_success (with_reducible (refine Mine.stop_here ?_ ?_; first | walk_at "s0" | exact Mine.p20 | exact Mine.p21 | exact Mine.p22 | exact Mine.p23 | exact Mine.p24 | exact Mine.p14))); walk1) | (leave1; walk_say "STEP leave1"; try dsimp only) | walk_at "onk" | fail "no step"))
              (try dsimp only)
              refine' item_anyK (vs := us) (ns := (Wt.filter fun k => decide (k ≠ held)) ++ [held]) (N21.isList (.head _)) hus ?b1 ?b2 ?b3 ?_ ?b4
              (case b1 => decide)
              (case b2 => rw [List.length_append]; show (0 : Int) < ((_ + 1 : Nat) : Int); lia)
              (case b3 => decide)
              (case b4 => with_unfolding_all rfl)
              intro tn
              have epk : ((Wt.filter fun k => decide (k ≠ held)) ++ [held]).getD (0 : Int).toNat 0 = pick Wt held := by
                unfold pick
                cases (Wt.filter fun k => decide (k ≠ held)) <;> rfl
              rw [epk]
              have hpm : pick Wt held ∈ Wt := pick_mem hW
              have hpk : pick Wt held ∈ keys5 := inv.sub _ (List.mem_append_right _ hpm)
              have N22 : News g9 L' h21 ((x, instObj 151 dx) :: (dx, dictOf (sEs w (.ref d) (.ref r) (.int po tpo) (.int nf tnf) t1 t2 t3 t4) 4) :: (d, od) :: (r, listOf #[] nrr) :: ([(wl, listOf wv.toArray nw), (lw, listOf rwv.toArray nr), (L' + 1, oc)] ++ srt)) := fun p hp => N21 p (by
                rw [hled]
                refine led_go hp ?_
                walk_at "led")
              (try clear N21); (try clear lx8); (try clear lx9); (try clear lI); (try clear lD)
              (try dsimp only)
              (repeat' (first | (k_unfold; (try dsimp only)) | (k_end; wrow_close) | ((fail_if_success (with_reducible (refine Mine.stop_here ?_ ?_; first | walk_at "s0" | exact Mine.p20 | exact Mine.p21 | exact Mine.p22 | exact Mine.p23 | exact Mine.p24 | exact Mine.p14))); walk1) | (dsimp only; (fail_if_success (with_reducible (refine Mine.stop_here ?_ ?_; first | walk_at "s0" | exact Mine.p20 | exact Mine.p21 | exact Mine.p22 | exact Mine.p23 | exact Mine.p24 | exact Mine.p14))); walk1) | (leave1; walk_say "STEP leave1"; try dsimp only) | walk_at "onk" | fail "no step"))
              rename Fr g9 L' _ _ => F23
              rename News g9 L' _ _ => N23
              refine' doneT (rest := [(wl, listOf wv.toArray nw), (lw, listOf rwv.toArray nr), (L' + 1, oc)]) (rv := []) (rs := []) (pv := [.int (pick Wt held) tn]) (ks := [pick Wt held]) ?b1 ?b2 ?b3 ?b4 ?b5 ?b6 ?b7 N23 hdm hD Nd13 P13 .nil (.cons _ _ .nil) ?c1 ?c2 ?c3 ?c4 ?c5 ?c6 ?_
              (case b1 => k_asm); (case b2 => k_asm); (case b3 => k_asm); (case b4 => k_asm); (case b5 => first | exact rfl | assumption); (case b6 => ktr_room); (case b7 => ktr_units)
              (case c1 => exact (by decide : 1 ≤ 4))
              (case c2 => intro k hk; rw [List.mem_singleton.mp hk]; exact hpk)
              (case c3 => exact fun k _ j hj => mem_keys5.mpr (by have := hr _ (succP_mem.mp hj); dsimp only at this; lia))
              (case c4 =>
                intro i hi
                have e0 : i = 0 := by simp at hi; exact hi
                subst e0
                exact inv.out _ hpm)
              (case c5 => exact fun k => Nat.le_trans (succP_len _ k) (by lia))
              (case c6 => exact Nat.zero_le _)
              intro h24 tk24 srt24 tnf24 nr24 rv24 F24 N24 hrv24 Nd24 P24
              (try clear N23); (try clear F23)
              have N25 : News g9 L' h24 ((x, instObj 151 dx) :: (dx, dictOf (sEs w (.ref d) (.ref r) (.int po tpo) (.int (nf + ([pick Wt held] : List Int).length) tnf24) t1 t2 t3 t4) 4) :: (d, od) :: (r, listOf rv24.toArray nr24) :: (wl, listOf wv.toArray nw) :: (lw, listOf rwv.toArray nr) :: (L' + 1, oc) :: srt24) := N24
              clear N24
              have y1 : ∀ p ∈ srt24, p.1 ≠ lw := fun p hp => Ne.symm (P24.rs (lw, listOf rwv.toArray nr) (.tail _ (.head _)) p hp)
              have y2 : ∀ p ∈ srt24, p.1 ≠ wl := fun p hp => Ne.symm (P24.rs (wl, listOf wv.toArray nw) (.head _) p hp)
              have hrl : rwv.length ≤ 900 := by have := hrwv.length; have := inv.len; lia
              (try dsimp only)
              (repeat' (first | (k_unfold; (try dsimp only)) | (k_end; wrow_close) | ((fail_if_success (with_reducible (refine Mine.stop_here ?_ ?_; first | walk_at "s0" | exact Mine.p20 | exact Mine.p21 | exact Mine.p22 | exact Mine.p23 | exact Mine.p24 | exact Mine.p14))); walk1) | (dsimp only; (fail_if_success (with_reducible (refine Mine.stop_here ?_ ?_; first | walk_at "s0" | exact Mine.p20 | exact Mine.p21 | exact Mine.p22 | exact Mine.p23 | exact Mine.p24 | exact Mine.p14))); walk1) | (leave1; walk_say "STEP leave1"; try dsimp only) | walk_at "onk" | fail "no step"))
              rename Fr g9 L' _ _ => F26
              rename News g9 L' _ _ => N26
              refine' remove_hit (vb := wv) (ys := Wt) F26 N26 ?b3 ?b4 hwv hpm ?b5 ?_
              (case b3 => k_updF)
              (case b4 => exact .tail _ (.tail _ (.tail _ (.tail _ (.head _)))))
              (case b5 => have := inv.len; lia)
              intro h27 n27 F27 N27 hw27
              (try clear N26); (try clear F26)
              (try dsimp only at N27)
              (try dsimp only)
              (repeat' (first | (k_unfold; (try dsimp only)) | (k_end; wrow_close) | ((fail_if_success (with_reducible (refine Mine.stop_here ?_ ?_; first | walk_at "s0" | exact Mine.p20 | exact Mine.p21 | exact Mine.p22 | exact Mine.p23 | exact Mine.p24 | exact Mine.p14))); walk1) | (dsimp only; (fail_if_success (with_reducible (refine Mine.stop_here ?_ ?_; first | walk_at "s0" | exact Mine.p20 | exact Mine.p21 | exact Mine.p22 | exact Mine.p23 | exact Mine.p24 | exact Mine.p14))); walk1) | (leave1; walk_say "STEP leave1"; try dsimp only) | walk_at "onk" | fail "no step"))
              (try dsimp only [List.append_nil])
              have inv2 := inv.step hr hW
              have hsub2 : ∀ k ∈ (doneAll (succP ps) (np, []) [pick Wt held]).2, k ∈ keys5 := fun k hk => inv2.sub k (List.mem_append_right _ (List.mem_append_right _ hk))
              have hlen2 := inv2.len
              simp only [List.length_append] at hlen2
              rename Fr g9 L' _ _ => F28
              rename News g9 L' _ _ => N28
              refine' get_ready (rest := [(wl, listOf (wv.eraseIdx (Wt.idxOf (pick Wt held))).toArray n27), (lw, listOf (rwv ++ [Value.int (pick Wt held) tn]).toArray (nr + 1)), (L' + 1, oc)]) (rv := rv24) ?b1 ?b2 ?b3 ?b4 ?b5 ?b6 ?b7 ?b8 hdm hD Nd24 (P24.of_rest rfl) hrv24 hsub2 ?c2 ?_
              (case b1 => k_asm); (case b2 => k_asm); (case b3 => k_asm); (case b4 => k_asm); (case b5 => first | exact rfl | assumption); (case b6 => ktr_room); (case b7 => ktr_units)
              (case b8 => rw [show (rwv ++ [Value.int (pick Wt held) tn]).toArray = rwv.toArray.push (Value.int (pick Wt held) tn) from by simp]; exact N28)
              (case c2 => lia)
              intro h29 tk29 T29 srt29 tpo29 nr29 F29 N29 Nd29 P29 hT29
              (try clear N28); (try clear F28)
              have N30 : News g9 L' h29 ((T29, ({ cls := .type "tuple", data := .seq rv24.toArray } : Obj)) :: (x, instObj 151 dx) :: (dx, dictOf (sEs w (.ref d) (.ref r) (.int (po + (doneAll (succP ps) (np, []) [pick Wt held]).2.length) tpo29) (.int (nf + ([pick Wt held] : List Int).length) tnf24) t1 t2 t3 t4) 4) :: (d, od) :: (r, listOf #[] nr29) ::
                (wl, listOf (wv.eraseIdx (Wt.idxOf (pick Wt held))).toArray n27) :: (lw, listOf (rwv ++ [Value.int (pick Wt held) tn]).toArray (nr + 1)) :: (L' + 1, oc) :: srt29) := N29
              clear N29
              have y3 : ∀ p ∈ srt29, p.1 ≠ wl := fun p hp => Ne.symm (P29.rs (wl, listOf (wv.eraseIdx (Wt.idxOf (pick Wt held))).toArray n27) (.head _) p hp)
              have y4 : @Ne Nat T29 wl := Ne.symm (hT29 (wl, listOf (wv.eraseIdx (Wt.idxOf (pick Wt held))).toArray n27) (.tail _ (.tail _ (.tail _ (.tail _ (.head _))))))
              (try dsimp only)
              (repeat' (first | (k_unfold; (try dsimp only)) | (k_end; wrow_close) | ((fail_if_success (with_reducible (refine Mine.stop_here ?_ ?_; first | walk_at "s0" | exact Mine.p20 | exact Mine.p21 | exact Mine.p22 | exact Mine.p23 | exact Mine.p24 | exact Mine.p14))); walk1) | (dsimp only; (fail_if_success (with_reducible (refine Mine.stop_here ?_ ?_; first | walk_at "s0" | exact Mine.p20 | exact Mine.p21 | exact Mine.p22 | exact Mine.p23 | exact Mine.p24 | exact Mine.p14))); walk1) | (leave1; walk_say "STEP leave1"; try dsimp only) | walk_at "onk" | fail "no step"))
              have hw28 := hw27.length
              have hr28 := hrv24.length
              refine' ext_tuple (its := (wv.eraseIdx (Wt.idxOf (pick Wt held))).toArray) (its2 := rv24.toArray) (n2 := 0) F29 N30 (.head _) ?b1 (.tail _ (.tail _ (.tail _ (.tail _ (.tail _ (.head _)))))) ?b2 ?_
              (case b1 => k_updF)
              (case b2 => simp only [List.size_toArray]; lia)
              intro h31 n31 F31 N31
              (try dsimp only at N31)
              (try dsimp only)
              (repeat' (first | (k_unfold; (try dsimp only)) | (k_end; wrow_close) | ((fail_if_success (with_reducible (refine Mine.stop_here ?_ ?_; first | walk_at "s0" | exact Mine.p20 | exact Mine.p21 | exact Mine.p22 | exact Mine.p23 | exact Mine.p24 | exact Mine.p14))); walk1) | (dsimp only; (fail_if_success (with_reducible (refine Mine.stop_here ?_ ?_; first | walk_at "s0" | exact Mine.p20 | exact Mine.p21 | exact Mine.p22 | exact Mine.p23 | exact Mine.p24 | exact Mine.p14))); walk1) | (leave1; walk_say "STEP leave1"; try dsimp only) | walk_at "onk" | fail "no step"))
              have e31 : (wv.eraseIdx (Wt.idxOf (pick Wt held)) ++ rv24).toArray = (wv.eraseIdx (Wt.idxOf (pick Wt held))).toArray ++ rv24.toArray := by simp
              refine ⟨n - 1, by lia, h31, _, _, srt29, _, R ++ [pick Wt held], Wt.erase (pick Wt held) ++ (doneAll (succP ps) (np, []) [pick Wt held]).2, wv.eraseIdx (Wt.idxOf (pick Wt held)) ++ rv24, rwv ++ [Value.int (pick Wt held) tn], n31, nr + 1, _, _, _, _, nr29, rfl, F31, (if_neg (by decide)).trans k1, (if_neg (by decide)).trans k2, (if_neg (by decide)).trans k3, fun p hp => N31 p (List.mem_cons_of_mem _ (by rw [e31] at hp; exact hp)), Nd29, P29.of_rest rfl, hw27.append hrv24, hrwv.append (.cons _ _ .nil), inv2, ?_⟩
              simp only [List.length_append, List.length_singleton]
              simp only [List.length_append, List.length_singleton] at hlen2
              lia
      · have N13 : News g9 L' _ _ := N12
        refine ⟨_, _, _, srt11, _, [], _, rv, [], cw, 0, 0 + ((keys5.filter fun k => decide (npP ps k = 0)).length : Nat), 0, tpo11, t6, nr11, rfl, F12, (if_neg (by decide)).trans ((if_neg (by decide)).trans m1), (if_neg (by decide)).trans (if_pos rfl), if_pos rfl, fun p hp => N12 p ?_, Nd11, ?_, hrv, .nil, RowInv.start held hr, rfl⟩
        · refine led_go hp ?_
          walk_at "led"
        · have hall : ∀ p ∈ srt11, p.1 < wl := fun p hp => allLt_mem lx6.2.2.2.2.2.2.2 p hp
          refine ⟨P11.toApart.cons (Nat.ne_of_gt lx6.2.1) (Nat.ne_of_gt lx6.2.2.1) (Nat.ne_of_gt lx6.2.2.2.1) (fun q hq => Nat.ne_of_gt (hall q hq)), P11.xr, P11.dxr, P11.dr, fun p hp => ?_⟩
          rcases List.mem_cons.mp hp with rfl | hp
          · exact Nat.ne_of_gt lx6.2.2.2.2.1
          · exact P11.tlr p hp
end
section
set_option maxHeartbeats 8000000
theorem cmpT {w : World} {dp un : Nat} {gd : Option (List Code)} {cn : Str} {cs : Scope} {a : Addr} {ccd : Value} {cl : List (Str × Addr)} {outer : List Env} {A₀ : Around} {base h₀ : Heap} {L : Addr} {m mg mb : Str → Option Value} {mean : ExcName → Option Value} {s : Shared} {Q E : Value → Shared → Prop} {la lb : Addr} {va vb : List Value} {na nb : Nat} {xs ys : List Int} {rest : List (Addr × Obj)}
    (B : Below A₀ base outer h₀) (F : Fr h₀ L s.heap m) (X : (Mine.hd.heap_1 w.params).In h₀) (T : TP mean mg mb h₀) (hk : cs.kind = .function) (hd : dp + 4 < recursionLimit) (hu : un + 32 < cLine)
    (N : News h₀ L s.heap rest) (ha : (la, listOf va.toArray na) ∈ rest) (hb : (lb, listOf vb.toArray nb) ∈ rest) (hi : IntsAre va xs) (hj : IntsAre vb ys)
    (ret : ∀ h' tk' t', Fr h₀ L h' m → News h₀ L h' rest → Q (.int (b2i (lexLt ys xs) - b2i (lexLt xs ys)) t') { s with heap := h', toks := tk' }) :
    wpAny (model PG w) (ktrTop dp un gd cn cs L a ccd cl outer) (call (.ref 35) [.ref la, .ref lb]) Q E s := by
  refine wpAny_call ?_
  k_dflt (refine' code_defG ?k1 ?k2 ?k3 ?k4 ?k5 ?kA ?kF ?kK ?k6 ?k7 ?k8 ?k9 ?kB ?_ ?c2 ?c3 ?c4 ?c5; (case kA => exact rfl); (case kF => exact rfl); (case kK => assumption); (case k1 => k_asm); (case k2 => k_asm); (case k3 => k_asm); (case k4 => exact N); (case k5 => k_asm); (case k6 => k_is); (case k7 => k_is); (case k8 => ktr_room); (case k9 => exact BindsTo.of_eq rfl); (case c5 => decide); (case kB => exact locs rfl); (case c2 => exact rfl); (case c3 => exact rfl); (case c4 => exact rfl); k_whole; intro g' L' h' FG' F' N' B' X' T' kG'; (try dsimp only); (try k_fold))
  (repeat' (first | (k_unfold; (try dsimp only)) | (k_end; wrow_close) | ((fail_if_success (with_reducible (refine Mine.stop_here ?_ ?_; first | walk_at "s0" | exact Mine.p23 | exact Mine.p25))); walk1) | (dsimp only; (fail_if_success (with_reducible (refine Mine.stop_here ?_ ?_; first | walk_at "s0" | exact Mine.p23 | exact Mine.p25))); walk1) | (leave1; walk_say "STEP leave1"; try dsimp only) | walk_at "onk" | fail "no step"))
  rename News g' L' _ _ => N1
  refine gt_lists (N1 _ ha).1 (N1 _ hb).1 hi hj (by k_units) ?_
  (repeat' (first | (k_unfold; (try dsimp only)) | (k_end; wrow_close) | ((fail_if_success (with_reducible (refine Mine.stop_here ?_ ?_; first | walk_at "s0" | exact Mine.p23 | exact Mine.p25))); walk1) | (dsimp only; (fail_if_success (with_reducible (refine Mine.stop_here ?_ ?_; first | walk_at "s0" | exact Mine.p23 | exact Mine.p25))); walk1) | (leave1; walk_say "STEP leave1"; try dsimp only) | walk_at "onk" | fail "no step"))
  refine lt_lists (N1 _ ha).1 (N1 _ hb).1 hi hj (by k_units) ?_
  (repeat' (first | (k_unfold; (try dsimp only)) | (k_end; wrow_close) | ((fail_if_success (with_reducible (refine Mine.stop_here ?_ ?_; first | walk_at "s0" | exact Mine.p23 | exact Mine.p25))); walk1) | (dsimp only; (fail_if_success (with_reducible (refine Mine.stop_here ?_ ?_; first | walk_at "s0" | exact Mine.p23 | exact Mine.p25))); walk1) | (leave1; walk_say "STEP leave1"; try dsimp only) | walk_at "onk" | fail "no step"))
  walk1
  (try walk_at "onk")
  (try dsimp only)
  refine leaveK_ (by assumption) N1 fun F' N' => ret _ _ _ F' N'
end
section
set_option maxHeartbeats 8000000
local macro_rules | `(tactic| walk_at "eval Name") => `(tactic| walk_at "evE")
theorem filt_no {p : Int → Bool} {l : List Int} {x : Int} (h : p x = false) : (l ++ [x]).filter p = l.filter p := by
  rw [List.filter_append, List.filter_cons, if_neg (by rw [h]; decide)]; simp
theorem filt_yes {p : Int → Bool} {l : List Int} {x : Int} (h : p x = true) : (l ++ [x]).filter p = l.filter p ++ [x] := by
  rw [List.filter_append, List.filter_cons, if_pos h]; rfl
noncomputable def rng5 : List Int := [0, 1, 2, 3, 4]
theorem rng5_at (i : Nat) (h : i < 5) : rng5.take (i + 1) = rng5.take i ++ [(0 : Int) + (i : Nat)] := by
  rcases i with _ | _ | _ | _ | _ | i
  · rfl
  · rfl
  · rfl
  · rfl
  · rfl
  · lia
noncomputable def highs (xs : List Int) (ps : List (Int × Int)) (low : Int) : Int → Bool := fun high => xs.any (· == high) && decide ((low, high) ∈ ps)
noncomputable def freeB (xs ys : List Int) (ps : List (Int × Int)) (low : Int) : Bool := ys.any (· == low) && decide (rng5.filter (highs xs ps low) = [])
noncomputable def aboveB (xs ys : List Int) (ps : List (Int × Int)) : Bool := !decide (xs = []) && decide (rng5.filter (freeB xs ys ps) = [])
theorem aboveT {w : World} {dp un : Nat} {gd : Option (List Code)} {cn : Str} {cs : Scope} {a : Addr} {ccd : Value} {cl : List (Str × Addr)} {outer : List Env} {A₀ : Around} {base h₀ : Heap} {L : Addr} {m mg mb : Str → Option Value} {mean : ExcName → Option Value} {s : Shared} {Q E : Value → Shared → Prop} {la lb lw : Addr} {va vb vw : List Value} {na nb nw : Nat} {xs ys : List Int} {ps : List (Int × Int)} {rest : List (Addr × Obj)}
    (B : Below A₀ base outer h₀) (F : Fr h₀ L s.heap m) (X : (Mine.hd.heap_1 w.params).In h₀) (T : TP mean mg mb h₀) (hk : cs.kind = .function) (hd : dp + 12 < recursionLimit) (hu : un + 96 < cLine) (XB : (Mine.hd.heap_1 w.params).In base) (TB : TP mean mg mb base) (D : KtsDicts (outer.filterMap (·.frame)) h₀)
    (N : News h₀ L s.heap rest) (ha : s.heap.get? la = some (listOf va.toArray na)) (hb : s.heap.get? lb = some (listOf vb.toArray nb)) (hw : s.heap.get? lw = some (listOf vw.toArray nw)) (hi : IntsAre va xs) (hj : IntsAre vb ys) (hp : PairsAt s.heap vw ps)
    (ret : ∀ h₀' h' tk', KtsTurn (outer.filterMap (·.frame)) h₀ h₀' → Fr h₀' L h' m → Below A₀ base outer h₀' → (Mine.hd.heap_1 w.params).In h₀' → TP mean mg mb h₀' → KtsDicts (outer.filterMap (·.frame)) h₀' →
      News h₀' L h' rest → Q (.bool (aboveB xs ys ps)) { s with heap := h', toks := tk' }) :
    wpAny (model PG w) (ktrTop dp un gd cn cs L a ccd cl outer) (call (.ref 175) [.ref la, .ref lb, .ref lw]) Q E s := by
  have N0 : News h₀ L s.heap [] := fun p hp => nomatch hp
  refine wpAny_call ?_
  k_dflt (refine' code_defTC ?k1 ?k2 ?k3 ?k4 ?k5 ?kXB ?kTB ?kD ?kA ?kF ?kK ?k6 ?k7 ?k8 ?k9 ?kB ?kN ?_ ?c2 ?c3 ?c4; (case kA => exact rfl); (case kF => exact rfl); (case kK => assumption); (case k1 => k_asm); (case k2 => k_asm); (case k3 => k_asm); (case k4 => exact N0); (case k5 => k_asm); (case kXB => assumption); (case kTB => assumption); (case kD => assumption); (case k6 => k_is); (case k7 => k_is); (case k8 => ktr_room); (case k9 => exact BindsTo.of_eq rfl); (case kB => exact rfl); (case kN => decide +kernel); (case c2 => exact rfl); (case c3 => exact rfl); (case c4 => exact rfl); k_whole; intro g' L' h' tk' cells' FG' F' N' Y' B' X' T' D' kG' l1'; k_cells Y'; (try simp only [List.cons_append, List.nil_append] at N'); (try dsimp only); (try k_fold))
  have ha1 := kG' _ _ ha (by simp)
  have hb1 := kG' _ _ hb (by simp)
  have hw1 := kG' _ _ hw (by simp)
  have hp1 : PairsAt g' vw ps := hp.keeps fun b o e => kG' _ _ e (by simp)
  (repeat' (first | (k_unfold; (try dsimp only)) | (k_end; wrow_close) | ((fail_if_success (with_reducible (refine Mine.stop_here ?_ ?_; first | walk_at "s0" | exact Mine.p20 | exact Mine.p26 | exact Mine.p24 | exact Mine.p14))); walk1) | (dsimp only; (fail_if_success (with_reducible (refine Mine.stop_here ?_ ?_; first | walk_at "s0" | exact Mine.p20 | exact Mine.p26 | exact Mine.p24 | exact Mine.p14))); walk1) | (leave1; walk_say "STEP leave1"; try dsimp only) | walk_at "onk" | fail "no step"))
  rename_i ow ol om dw dl dm
  have dw' : ow.data = .cell (some (.ref lw)) := dw
  have dl' : ol.data = .cell (some (.ref lb)) := dl
  have dm' : om.data = .cell (some (.ref la)) := dm
  clear dw dl dm
  refine comp_asg (F₀ := F') (by with_unfolding_all rfl) (by with_unfolding_all rfl) rfl (by decide) ?_
  (repeat' (first | (k_unfold; (try dsimp only)) | (k_end; wrow_close) | ((fail_if_success (with_reducible (refine Mine.stop_here ?_ ?_; first | walk_at "s0" | exact Mine.p20 | exact Mine.p26 | exact Mine.p24 | exact Mine.p14))); walk1) | (dsimp only; (fail_if_success (with_reducible (refine Mine.stop_here ?_ ?_; first | walk_at "s0" | exact Mine.p20 | exact Mine.p26 | exact Mine.p24 | exact Mine.p14))); walk1) | (leave1; walk_say "STEP leave1"; try dsimp only) | walk_at "onk" | fail "no step"))
  walk1
  (try dsimp only)
  rename Fr g' L' _ _ => F2
  rename News g' L' _ _ => N2
  rename IsRange _ _ _ _ _ _ _ _ => hrg
  refine src_range (n := 5) rfl F2 N2 hrg (by decide) (by decide) (by decide) ?_
  intro I h3 src lI
  refine ⟨I, _, _, _, _, rfl, src, ?_⟩
  rintro D C s₃ ⟨h4, rfl⟩ lD hDC
  have hlC : L' + 1 + 1 + 1 < C := Nat.lt_trans (lD _ (.head _)) hDC
  refine ⟨fun i zs nw => (Ex2 fun oc v₀ => Cj3 (nw = [(C + 1, oc), (L' + 1 + 1 + 1, ow), (L' + 1 + 1, ol), (L' + 1, om)]) (oc.data = .cell v₀) (IntsAre zs ((rng5.take i).filter (freeB xs ys ps)))), fun _ _ _ _ => trivial, ⟨cellE, none, rfl, rfl, .nil⟩, ?_, ?_⟩
  · rintro i v h tk oI oC m₂ zs nw hi5 ⟨tv, rfl⟩ F5 N5 hC5 off5 ⟨n1, n2, n3⟩ ⟨oc, v₀, rfl, hoc, hzs⟩
    have off6 := off5.mem
    have k1 : @LT.lt Nat _ (L' + 1 + 1 + 1) C := hlC
    have k2 : @LT.lt Nat _ (L' + 1 + 1 + 1) D := lD _ (.head _)
    have k3 : @Ne Nat (C + 1) I := (off6 _ (.head _)).1
    have k4 : @Ne Nat (C + 1) D := (off6 _ (.head _)).2.2
    refine' asg_cell F5 N5 ?u hoc ?c rfl rfl ?_
    (case c => rfl)
    (case u => k_updF)
    intro h6 oc6 F6 N6 hoc6
    (try dsimp only at N6)
    refine wpAny_tests_one ?_
    (try dsimp only)
    (repeat' (first | (k_unfold; (try dsimp only)) | (k_end; wrow_close) | ((fail_if_success (with_reducible (refine Mine.stop_here ?_ ?_; first | walk_at "s0" | exact Mine.p20 | exact Mine.p26 | exact Mine.p24 | exact Mine.p14))); walk1) | (dsimp only; (fail_if_success (with_reducible (refine Mine.stop_here ?_ ?_; first | walk_at "s0" | exact Mine.p20 | exact Mine.p26 | exact Mine.p24 | exact Mine.p14))); walk1) | (leave1; walk_say "STEP leave1"; try dsimp only) | walk_at "onk" | fail "no step"))
    refine in_list_ints ⟨_, F6.keep _ _ hb1, rfl, _, rfl⟩ hj ?_
    have etk := rng5_at i hi5
    cases hq : ys.any (· == 0 + (i : Int)) with
    | false =>
      (repeat' (first | (k_unfold; (try dsimp only)) | (k_end; wrow_close) | ((fail_if_success (with_reducible (refine Mine.stop_here ?_ ?_; first | walk_at "s0" | exact Mine.p20 | exact Mine.p26 | exact Mine.p24 | exact Mine.p14))); walk1) | (dsimp only; (fail_if_success (with_reducible (refine Mine.stop_here ?_ ?_; first | walk_at "s0" | exact Mine.p20 | exact Mine.p26 | exact Mine.p24 | exact Mine.p14))); walk1) | (leave1; walk_say "STEP leave1"; try dsimp only) | walk_at "onk" | fail "no step"))
      exact ⟨h6, _, oC, _, _, rfl, F6, N6, hC5, off5, oc6, _, rfl, hoc6, by rw [etk, filt_no (show (ys.any _ && _) = false by rw [hq]; rfl)]; exact hzs⟩
    | true =>
      (repeat' (first | (k_unfold; (try dsimp only)) | (k_end; wrow_close) | ((fail_if_success (with_reducible (refine Mine.stop_here ?_ ?_; first | walk_at "s0" | exact Mine.p20 | exact Mine.p26 | exact Mine.p24 | exact Mine.p14))); walk1) | (dsimp only; (fail_if_success (with_reducible (refine Mine.stop_here ?_ ?_; first | walk_at "s0" | exact Mine.p20 | exact Mine.p26 | exact Mine.p24 | exact Mine.p14))); walk1) | (leave1; walk_say "STEP leave1"; try dsimp only) | walk_at "onk" | fail "no step"))
      refine comp_eval (F₀ := F6) (by with_unfolding_all rfl) rfl (by decide) ?_
      (repeat' (first | (k_unfold; (try dsimp only)) | (k_end; wrow_close) | ((fail_if_success (with_reducible (refine Mine.stop_here ?_ ?_; first | walk_at "s0" | exact Mine.p20 | exact Mine.p26 | exact Mine.p24 | exact Mine.p14))); walk1) | (dsimp only; (fail_if_success (with_reducible (refine Mine.stop_here ?_ ?_; first | walk_at "s0" | exact Mine.p20 | exact Mine.p26 | exact Mine.p24 | exact Mine.p14))); walk1) | (leave1; walk_say "STEP leave1"; try dsimp only) | walk_at "onk" | fail "no step"))
      walk1
      (try dsimp only)
      rename Fr g' L' _ _ => F7
      rename News g' L' _ _ => N7
      clear hrg
      rename IsRange _ _ _ _ _ _ _ _ => hrg
      refine src_range (n := 5) rfl F7 N7 hrg (by decide) (by decide) (by decide) ?_
      intro I2 h8 src2 lI2
      refine ⟨I2, _, _, _, _, rfl, src2, ?_⟩
      rintro D2 C2 s₃ ⟨h9, rfl⟩ lD2 hDC2
      refine ⟨fun j zs2 nw => nw = [(I, oI), (C, oC), (D, LCg.lst zs), (C + 1, oc6), (L' + 1 + 1 + 1, ow), (L' + 1 + 1, ol), (L' + 1, om)] ∧ IntsAre zs2 ((rng5.take j).filter (highs xs ps (0 + (i : Int)))), fun _ _ _ _ => trivial, ⟨rfl, .nil⟩, ?_, ?_⟩
      · rintro j v h tk oI2 oC2 m₃ zs2 nw hj5 ⟨tw, rfl⟩ F10 N10 hC10 off10 ⟨p1, p2, p3⟩ ⟨rfl, hzs2⟩
        have off11 := off10.mem
        have U10 : ∀ o₁, UpdF C2 o₁ [(I2, oI2), (C2, o₁), (D2, LCg.lst zs2), (I, oI), (C, oC), (D, LCg.lst zs), (C + 1, oc6), (L' + 1 + 1 + 1, ow), (L' + 1 + 1, ol), (L' + 1, om)] (fun o₁ => [(I2, oI2), (C2, o₁), (D2, LCg.lst zs2), (I, oI), (C, oC), (D, LCg.lst zs), (C + 1, oc6), (L' + 1 + 1 + 1, ow), (L' + 1 + 1, ol), (L' + 1, om)]) := fun o₁ =>
          .tail p1 (.head fun p hp => by
            rcases List.mem_cons.mp hp with rfl | hp
            · exact Ne.symm p3
            · exact (off11 p hp).2.1)
        refine asg_own F10 N10 (U10 oC2) hC10 rfl rfl ?_
        intro h11 oC11 F11 N11 hC11
        have hx11 : (fun y => if y = Str.ofString "high" then some (Value.int (0 + (j : Int)) tw) else m₃ y) (Str.ofString "high") = some (Value.int (0 + (j : Int)) tw) := if_pos rfl
        refine wpAny_tests_one ?_
        (try dsimp only)
        (repeat' (first | (k_unfold; (try dsimp only)) | (k_end; wrow_close) | ((fail_if_success (with_reducible (refine Mine.stop_here ?_ ?_; first | walk_at "s0" | exact Mine.p20 | exact Mine.p26 | exact Mine.p24 | exact Mine.p14))); walk1) | (dsimp only; (fail_if_success (with_reducible (refine Mine.stop_here ?_ ?_; first | walk_at "s0" | exact Mine.p20 | exact Mine.p26 | exact Mine.p24 | exact Mine.p14))); walk1) | (leave1; walk_say "STEP leave1"; try dsimp only) | walk_at "onk" | fail "no step"))
        refine in_list_ints ⟨_, F11.keep _ _ ha1, rfl, _, rfl⟩ hi ?_
        have etk2 := rng5_at j hj5
        cases hq2 : xs.any (· == 0 + (j : Int)) with
        | false =>
          (repeat' (first | (k_unfold; (try dsimp only)) | (k_end; wrow_close) | ((fail_if_success (with_reducible (refine Mine.stop_here ?_ ?_; first | walk_at "s0" | exact Mine.p20 | exact Mine.p26 | exact Mine.p24 | exact Mine.p14))); walk1) | (dsimp only; (fail_if_success (with_reducible (refine Mine.stop_here ?_ ?_; first | walk_at "s0" | exact Mine.p20 | exact Mine.p26 | exact Mine.p24 | exact Mine.p14))); walk1) | (leave1; walk_say "STEP leave1"; try dsimp only) | walk_at "onk" | fail "no step"))
          exact ⟨h11, _, oC11, _, _, rfl, F11, N11, hC11, off10, rfl, by rw [etk2, filt_no (show (xs.any _ && _) = false by rw [hq2]; rfl)]; exact hzs2⟩
        | true =>
          (repeat' (first | (k_unfold; (try dsimp only)) | (k_end; wrow_close) | ((fail_if_success (with_reducible (refine Mine.stop_here ?_ ?_; first | walk_at "s0" | exact Mine.p20 | exact Mine.p26 | exact Mine.p24 | exact Mine.p14))); walk1) | (dsimp only; (fail_if_success (with_reducible (refine Mine.stop_here ?_ ?_; first | walk_at "s0" | exact Mine.p20 | exact Mine.p26 | exact Mine.p24 | exact Mine.p14))); walk1) | (leave1; walk_say "STEP leave1"; try dsimp only) | walk_at "onk" | fail "no step"))
          rename Fr g' L' _ _ => F12
          rename News g' L' _ _ => N12
          (try dsimp only)
          refine' pairs_in (a := 0 + (i : Int)) (b := 0 + (j : Int)) (N12 _ (.head _)).1 (F12.keep _ _ hw1) (hp1.keeps F12.keep) ?b1 ?_
          (case b1 => k_units)
          have N13 : News g' L' _ _ := fun p hp => N12 p (.tail _ hp)
          cases hq3 : decide ((0 + (i : Int), 0 + (j : Int)) ∈ ps) with
          | false =>
            (repeat' (first | (k_unfold; (try dsimp only)) | (k_end; wrow_close) | ((fail_if_success (with_reducible (refine Mine.stop_here ?_ ?_; first | walk_at "s0" | exact Mine.p20 | exact Mine.p26 | exact Mine.p24 | exact Mine.p14))); walk1) | (dsimp only; (fail_if_success (with_reducible (refine Mine.stop_here ?_ ?_; first | walk_at "s0" | exact Mine.p20 | exact Mine.p26 | exact Mine.p24 | exact Mine.p14))); walk1) | (leave1; walk_say "STEP leave1"; try dsimp only) | walk_at "onk" | fail "no step"))
            exact ⟨_, _, oC11, _, _, rfl, F12, N13, hC11, off10, rfl, by rw [etk2, filt_no (show (xs.any _ && decide _) = false by rw [hq2, hq3]; rfl)]; exact hzs2⟩
          | true =>
            (repeat' (first | (k_unfold; (try dsimp only)) | (k_end; wrow_close) | ((fail_if_success (with_reducible (refine Mine.stop_here ?_ ?_; first | walk_at "s0" | exact Mine.p20 | exact Mine.p26 | exact Mine.p24 | exact Mine.p14))); walk1) | (dsimp only; (fail_if_success (with_reducible (refine Mine.stop_here ?_ ?_; first | walk_at "s0" | exact Mine.p20 | exact Mine.p26 | exact Mine.p24 | exact Mine.p14))); walk1) | (leave1; walk_say "STEP leave1"; try dsimp only) | walk_at "onk" | fail "no step"))
            exact ⟨_, _, oC11, _, _, rfl, F12, N13, hC11, off10, rfl, by rw [etk2, filt_yes (show (xs.any _ && decide _) = true by rw [hq2, hq3]; rfl)]; exact hzs2.append (.cons _ tw .nil)⟩
      · rintro h tk zs2 oC2 m₃ nw F10 N10 hC10 off10 hCD2 ⟨rfl, hzs2⟩
        have off11 := off10.mem
        refine aend F10 N10 hC10 ?_ ?_
        · intro p hp
          rcases List.mem_cons.mp hp with rfl | hp
          · exact Ne.symm hCD2
          · exact (off11 p hp).2.1
        · intro h12 F12 N12
          (try dsimp only)
          (repeat' (first | (k_unfold; (try dsimp only)) | (k_end; wrow_close) | ((fail_if_success (with_reducible (refine Mine.stop_here ?_ ?_; first | walk_at "s0" | exact Mine.p20 | exact Mine.p26 | exact Mine.p24 | exact Mine.p14))); walk1) | (dsimp only; (fail_if_success (with_reducible (refine Mine.stop_here ?_ ?_; first | walk_at "s0" | exact Mine.p20 | exact Mine.p26 | exact Mine.p24 | exact Mine.p14))); walk1) | (leave1; walk_say "STEP leave1"; try dsimp only) | walk_at "onk" | fail "no step"))
          rename Fr g' L' _ _ => F13
          rename News g' L' _ _ => N13
          rw [show rng5.take 5 = rng5 from rfl] at hzs2
          refine' eq_intsK (vs := zs2) (us := []) (ns := rng5.filter (highs xs ps (0 + (i : Int)))) (ms := []) (N13.isList (.tail _ (.head _))) hzs2 (N13.isList (.head _)) .nil ?b1 ?_
          (case b1 => k_units)
          have N14 : News g' L' _ [(I, oI), (C, oC), (D, LCg.lst zs), (C + 1, oc6), (L' + 1 + 1 + 1, ow), (L' + 1 + 1, ol), (L' + 1, om)] := fun p hp => N13 p (.tail _ (.tail _ hp))
          cases hq3 : decide (rng5.filter (highs xs ps (0 + (i : Int))) = []) with
          | false =>
            (repeat' (first | (k_unfold; (try dsimp only)) | (k_end; wrow_close) | ((fail_if_success (with_reducible (refine Mine.stop_here ?_ ?_; first | walk_at "s0" | exact Mine.p20 | exact Mine.p26 | exact Mine.p24 | exact Mine.p14))); walk1) | (dsimp only; (fail_if_success (with_reducible (refine Mine.stop_here ?_ ?_; first | walk_at "s0" | exact Mine.p20 | exact Mine.p26 | exact Mine.p24 | exact Mine.p14))); walk1) | (leave1; walk_say "STEP leave1"; try dsimp only) | walk_at "onk" | fail "no step"))
            exact ⟨_, _, oC, _, _, rfl, F13, N14, hC5, off5, oc6, _, rfl, hoc6, by rw [etk, filt_no (show (ys.any _ && decide _) = false by rw [hq, hq3]; rfl)]; exact hzs⟩
          | true =>
            (repeat' (first | (k_unfold; (try dsimp only)) | (k_end; wrow_close) | ((fail_if_success (with_reducible (refine Mine.stop_here ?_ ?_; first | walk_at "s0" | exact Mine.p20 | exact Mine.p26 | exact Mine.p24 | exact Mine.p14))); walk1) | (dsimp only; (fail_if_success (with_reducible (refine Mine.stop_here ?_ ?_; first | walk_at "s0" | exact Mine.p20 | exact Mine.p26 | exact Mine.p24 | exact Mine.p14))); walk1) | (leave1; walk_say "STEP leave1"; try dsimp only) | walk_at "onk" | fail "no step"))
            exact ⟨_, _, oC, _, _, rfl, F13, N14, hC5, off5, oc6, _, rfl, hoc6, by rw [etk, filt_yes (show (ys.any _ && decide _) = true by rw [hq, hq3]; rfl)]; exact hzs.append (.cons _ tv .nil)⟩
  · rintro h tk zs oC m₂ nw F5 N5 hC5 off5 hCD ⟨oc, v₀, rfl, hoc, hzs⟩
    have off6 := off5.mem
    (try dsimp only)
    refine wpAny_mono (Q := fun _ s'' => Held _) ?_ (fun _ _ x => x.out) (fun _ _ e => e)
    (repeat' (first | (k_unfold; (try dsimp only)) | (k_end; wrow_close) | ((fail_if_success (with_reducible (refine Mine.stop_here ?_ ?_; first | walk_at "s0" | exact Mine.p20 | exact Mine.p26 | exact Mine.p24 | exact Mine.p14))); walk1) | (dsimp only; (fail_if_success (with_reducible (refine Mine.stop_here ?_ ?_; first | walk_at "s0" | exact Mine.p20 | exact Mine.p26 | exact Mine.p24 | exact Mine.p14))); walk1) | (leave1; walk_say "STEP leave1"; try dsimp only) | walk_at "onk" | fail "no step"))
    rename Fr g' L' _ _ => F6
    rename News g' L' _ _ => N6
    refine ⟨aend F6 N6 hC5 ?_ ?_⟩
    · intro p hp
      rcases List.mem_cons.mp hp with rfl | hp
      · exact Ne.symm hCD
      · exact (off6 p hp).2.1
    intro h7 F7 N7
    (try dsimp only)
    (repeat' (first | (k_unfold; (try dsimp only)) | (k_end; wrow_close) | ((fail_if_success (with_reducible (refine Mine.stop_here ?_ ?_; first | walk_at "s0" | exact Mine.p20 | exact Mine.p26 | exact Mine.p24 | exact Mine.p14))); walk1) | (dsimp only; (fail_if_success (with_reducible (refine Mine.stop_here ?_ ?_; first | walk_at "s0" | exact Mine.p20 | exact Mine.p26 | exact Mine.p24 | exact Mine.p14))); walk1) | (leave1; walk_say "STEP leave1"; try dsimp only) | walk_at "onk" | fail "no step"))
    rename Fr g' L' _ _ => F8
    rename News g' L' _ _ => N8
    (try dsimp only)
    have hRR : ∀ p ∈ rest, g'.get? p.1 = some p.2 := fun p hp => kG' _ _ (N p hp).1 (by simp)
    refine' ne_intsK (vs := va) (us := []) (ns := xs) (ms := []) ⟨_, F8.keep _ _ ha1, rfl, _, rfl⟩ hi (N8.isList (.head _)) .nil ?b1 ?_
    (case b1 => k_units)
    cases hq : decide (xs = []) with
    | true =>
      (repeat' (first | (k_unfold; (try dsimp only)) | (k_end; wrow_close) | ((fail_if_success (with_reducible (refine Mine.stop_here ?_ ?_; first | walk_at "s0" | exact Mine.p20 | exact Mine.p26 | exact Mine.p24 | exact Mine.p14))); walk1) | (dsimp only; (fail_if_success (with_reducible (refine Mine.stop_here ?_ ?_; first | walk_at "s0" | exact Mine.p20 | exact Mine.p26 | exact Mine.p24 | exact Mine.p14))); walk1) | (leave1; walk_say "STEP leave1"; try dsimp only) | walk_at "onk" | fail "no step"))
      refine ⟨g', L', _, _, KtsTurn.refl, F8, N8, fun h₀' KT F N' B X T D => ?_⟩
      have e : aboveB xs ys ps = false := by unfold aboveB; rw [hq]; rfl
      have fin := fun tk => ret h₀' _ tk KT F B X T D fun p hp => ⟨F8.keep _ _ (hRR p hp), (N p hp).2.1, KT.none_ _ (N p hp).2.2⟩
      rw [e] at fin
      exact fin _
    | false =>
      (repeat' (first | (k_unfold; (try dsimp only)) | (k_end; wrow_close) | ((fail_if_success (with_reducible (refine Mine.stop_here ?_ ?_; first | walk_at "s0" | exact Mine.p20 | exact Mine.p26 | exact Mine.p24 | exact Mine.p14))); walk1) | (dsimp only; (fail_if_success (with_reducible (refine Mine.stop_here ?_ ?_; first | walk_at "s0" | exact Mine.p20 | exact Mine.p26 | exact Mine.p24 | exact Mine.p14))); walk1) | (leave1; walk_say "STEP leave1"; try dsimp only) | walk_at "onk" | fail "no step"))
      rename Fr g' L' _ _ => F9
      rename News g' L' _ _ => N9
      (try dsimp only)
      rw [show rng5.take 5 = rng5 from rfl] at hzs
      refine' eq_intsK (vs := zs) (us := []) (ns := rng5.filter (freeB xs ys ps)) (ms := []) (N9.isList (.tail _ (.tail _ (.head _)))) hzs (N9.isList (.head _)) .nil ?b1 ?_
      (case b1 => k_units)
      (repeat' (first | (k_unfold; (try dsimp only)) | (k_end; wrow_close) | ((fail_if_success (with_reducible (refine Mine.stop_here ?_ ?_; first | walk_at "s0" | exact Mine.p20 | exact Mine.p26 | exact Mine.p24 | exact Mine.p14))); walk1) | (dsimp only; (fail_if_success (with_reducible (refine Mine.stop_here ?_ ?_; first | walk_at "s0" | exact Mine.p20 | exact Mine.p26 | exact Mine.p24 | exact Mine.p14))); walk1) | (leave1; walk_say "STEP leave1"; try dsimp only) | walk_at "onk" | fail "no step"))
      refine ⟨g', L', _, _, KtsTurn.refl, F9, N9, fun h₀' KT F N' B X T D => ?_⟩
      have e : aboveB xs ys ps = decide (rng5.filter (freeB xs ys ps) = []) := by unfold aboveB; rw [hq]; rfl
      have fin := fun tk => ret h₀' _ tk KT F B X T D fun p hp => ⟨F9.keep _ _ (hRR p hp), (N p hp).2.1, KT.none_ _ (N p hp).2.2⟩
      rw [e] at fin
      exact fin _
end
section
set_option maxHeartbeats 8000000
local macro_rules | `(tactic| walk_at "eval Name") => `(tactic| walk_at "evL")
local macro_rules | `(tactic| walk_at "none") => `(tactic| skip)
noncomputable def uld : List Int → List Int → List Int × List Int
  | [], ys => ([], ys)
  | x :: xs, ys => if x ∈ ys then uld xs (ys.erase x) else let r := uld xs ys; (x :: r.1, r.2)
theorem rev_last {xs : List Int} (h : 0 < xs.length) : xs.reverse = xs.getLastD 0 :: xs.dropLast.reverse := by
  have hn : xs ≠ [] := List.ne_nil_of_length_pos h
  have e := List.dropLast_concat_getLast hn
  have e2 : xs.getLastD 0 = xs.getLast hn := by rw [List.getLastD_eq_getLast?, List.getLast?_eq_some_getLast hn]; rfl
  rw [e2]
  calc xs.reverse = (xs.dropLast ++ [xs.getLast hn]).reverse := by rw [e]
    _ = _ := by simp
theorem uldT {w : World} {dp un : Nat} {gd : Option (List Code)} {cn : Str} {cs : Scope} {a : Addr} {ccd : Value} {cl : List (Str × Addr)} {outer : List Env} {A₀ : Around} {base h₀ : Heap} {L : Addr} {m mg mb : Str → Option Value} {mean : ExcName → Option Value} {s : Shared} {Q E : Value → Shared → Prop} {la lb : Addr} {va vb : List Value} {na nb : Nat} {xs ys : List Int} {rest : List (Addr × Obj)}
    (B : Below A₀ base outer h₀) (F : Fr h₀ L s.heap m) (X : (Mine.hd.heap_1 w.params).In h₀) (T : TP mean mg mb h₀) (hk : cs.kind = .function) (hd : dp + 4 < recursionLimit) (hu : un + 32 < cLine) (XB : (Mine.hd.heap_1 w.params).In base) (TB : TP mean mg mb base) (D : KtsDicts (outer.filterMap (·.frame)) h₀)
    (N : News h₀ L s.heap ((la, listOf va.toArray na) :: (lb, listOf vb.toArray nb) :: rest)) (hab : @Ne Nat la lb) (hr : ∀ p ∈ rest, p.1 ≠ la ∧ p.1 ≠ lb) (hi : IntsAre va xs) (hj : IntsAre vb ys) (hl1 : xs.length ≤ 900) (hl2 : ys.length ≤ 900)
    (ret : ∀ h₀' h' tk' T lm vm vb' nm nb', KtsTurn (outer.filterMap (·.frame)) h₀ h₀' → Fr h₀' L h' m → Below A₀ base outer h₀' → (Mine.hd.heap_1 w.params).In h₀' → TP mean mg mb h₀' → KtsDicts (outer.filterMap (·.frame)) h₀' →
      News h₀' L h' ((T, ({ cls := .type "tuple", data := .seq #[.ref lm, .ref lb] } : Obj)) :: (lm, listOf vm.toArray nm) :: (lb, listOf vb'.toArray nb') :: rest) →
      IntsAre vm (uld xs.reverse ys).1 → IntsAre vb' (uld xs.reverse ys).2 → (∀ p ∈ rest, p.1 ≠ T ∧ p.1 ≠ lm) → Q (.ref T) { s with heap := h', toks := tk' }) :
    wpAny (model PG w) (ktrTop dp un gd cn cs L a ccd cl outer) (call (.ref 28) [.ref la, .ref lb]) Q E s := by
  have N0 : News h₀ L s.heap [(la, listOf va.toArray na), (lb, listOf vb.toArray nb)] := fun p hp => N p (by simp only [List.mem_cons, List.not_mem_nil, or_false] at hp ⊢; rcases hp with h | h <;> simp [h])
  refine wpAny_call ?_
  k_dflt (refine' code_defT ?k1 ?k2 ?k3 ?k4 ?k5 ?kXB ?kTB ?kD ?kA ?kF ?kK ?k6 ?k7 ?k8 ?k9 ?kB ?_ ?c2 ?c3 ?c4 ?c5; (case kA => exact rfl); (case kF => exact rfl); (case kK => assumption); (case k1 => k_asm); (case k2 => k_asm); (case k3 => k_asm); (case k4 => exact N0); (case k5 => k_asm); (case kXB => assumption); (case kTB => assumption); (case kD => assumption); (case k6 => k_is); (case k7 => k_is); (case k8 => ktr_room); (case k9 => exact BindsTo.of_eq rfl); (case c5 => decide); (case kB => exact locs rfl); (case c2 => exact rfl); (case c3 => exact rfl); (case c4 => exact rfl); k_whole; intro g' L' h' FG' F' N' B' X' T' D' kG'; (try dsimp only); (try k_fold))
  have hR : ∀ p ∈ rest, g'.get? p.1 = some p.2 := fun p hp => kG' _ _ (N p (.tail _ (.tail _ hp))).1 (by simpa [eq_comm] using hr p hp)
  (repeat' (first | (k_unfold; (try dsimp only)) | (k_end; wrow_close) | ((fail_if_success (with_reducible (refine Mine.stop_here ?_ ?_; walk_at "s0"))); walk1) | (dsimp only; (fail_if_success (with_reducible (refine Mine.stop_here ?_ ?_; walk_at "s0"))); walk1) | (leave1; walk_say "STEP leave1"; try dsimp only) | walk_at "onk" | fail "no step"))
  rename News g' L' _ _ => N1
  rename Fr g' L' _ _ => F1
  refine while_inv (fun n s' => (Ex12 fun g2 h' tk' m' lm vm va' vb' nm na' nb' xs' => Cj18 (s' = { s with heap := h', toks := tk' }) (KtsTurn ((envX cn cs L a ccd cl :: outer).filterMap (·.frame)) g' g2) (Below (ktrTop dp un gd cn cs L a ccd cl outer) base (envX cn cs L a ccd cl :: outer) g2) ((Mine.hd.heap_1 w.params).In g2) (TP mean mg mb g2) (KtsDicts ((envX cn cs L a ccd cl :: outer).filterMap (·.frame)) g2) (Fr g2 L' h' m') (m' (Str.ofString "expected") = some (.ref la)) (m' (Str.ofString "actual") = some (.ref lb)) (m' (Str.ofString "missing") = some (.ref lm)) (News g2 L' h' [(lm, listOf vm.toArray nm), (la, listOf va'.toArray na'), (lb, listOf vb'.toArray nb')]) ((@Ne Nat lm la ∧ @Ne Nat lm lb)) (IntsAre va' xs') (n = xs'.length) (xs'.length ≤ 900) (vm.length + xs'.length ≤ 900) (vb'.length ≤ 900) ((Ex2 fun ms ys' => Cj3 (IntsAre vm ms) (IntsAre vb' ys') ((uld xs.reverse ys) = (let r := uld xs'.reverse ys'; (ms ++ r.1, r.2))))))) (by passes_own) ?_ xs.length ?_
  · rintro n s' ⟨g2, h', tk', m', lm, vm, va', vb', nm, na', nb', xs', rfl, KT2, B2, X2, T2, D2, F2, hm1, hm2, hm3, N2, hne, hi2, rfl, hx9, hv9, hb9, ms, ys', hms, hys, hu⟩
    (repeat' (first | (k_unfold; (try dsimp only)) | (k_end; wrow_close) | ((fail_if_success (with_reducible (refine Mine.stop_here ?_ ?_; walk_at "s0"))); walk1) | (dsimp only; (fail_if_success (with_reducible (refine Mine.stop_here ?_ ?_; walk_at "s0"))); walk1) | (leave1; walk_say "STEP leave1"; try dsimp only) | walk_at "onk" | fail "no step"))
    by_cases hx0 : 0 < xs'.length
    · refine WhlIf.yes (decide_eq_true hx0) ?_
      (repeat' (first | (k_unfold; (try dsimp only)) | (k_end; wrow_close) | ((fail_if_success (with_reducible (refine Mine.stop_here ?_ ?_; walk_at "s0"))); walk1) | (dsimp only; (fail_if_success (with_reducible (refine Mine.stop_here ?_ ?_; walk_at "s0"))); walk1) | (leave1; walk_say "STEP leave1"; try dsimp only) | walk_at "onk" | fail "no step"))
      have hlv := hi2.length
      refine' kpa_pop (us := va') ?b1 ?b2 ?b3 hi2 ?b4 ?b5 ?_
      (case b1 => k_asm)
      (case b2 => k_asm)
      (case b3 => k_upd)
      (case b4 => lia)
      (case b5 => rw [sizeLine_eq]; lia)
      intro h7 t7 F7 N7 hi7
      dsimp only
      (repeat' (first | (k_unfold; (try dsimp only)) | (k_end; wrow_close) | ((fail_if_success (with_reducible (refine Mine.stop_here ?_ ?_; walk_at "s0"))); walk1) | (dsimp only; (fail_if_success (with_reducible (refine Mine.stop_here ?_ ?_; walk_at "s0"))); walk1) | (leave1; walk_say "STEP leave1"; try dsimp only) | walk_at "onk" | fail "no step"))
      walk1
      (repeat' (first | (k_unfold; (try dsimp only)) | (k_end; wrow_close) | ((fail_if_success (with_reducible (refine Mine.stop_here ?_ ?_; walk_at "s0"))); walk1) | (dsimp only; (fail_if_success (with_reducible (refine Mine.stop_here ?_ ?_; walk_at "s0"))); walk1) | (leave1; walk_say "STEP leave1"; try dsimp only) | walk_at "onk" | fail "no step"))
      have hbl := hys.length
      by_cases hin : xs'.getLastD 0 ∈ ys'
      · refine' remove_hit (vb := vb') (ys := ys') ?b1 ?b2 ?b3 ?b4 hys hin ?b5 ?_
        (case b1 => k_asm)
        (case b2 => k_asm)
        (case b3 => k_updF)
        (case b4 => exact .tail _ (.tail _ (.head _)))
        (case b5 => lia)
        intro h6 n6 F6 N6 hi6
        (repeat' (first | (k_unfold; (try dsimp only)) | (k_end; wrow_close) | ((fail_if_success (with_reducible (refine Mine.stop_here ?_ ?_; walk_at "s0"))); walk1) | (dsimp only; (fail_if_success (with_reducible (refine Mine.stop_here ?_ ?_; walk_at "s0"))); walk1) | (leave1; walk_say "STEP leave1"; try dsimp only) | walk_at "onk" | fail "no step"))
        have hdl : xs'.dropLast.length = xs'.length - 1 := List.length_dropLast
        have hel : (ys'.erase (xs'.getLastD 0)).length ≤ ys'.length := List.length_erase_le
        have hil := hi6.length
        refine ⟨xs'.dropLast.length, by lia, g2, _, _, _, lm, vm, _, _, nm, _, _, xs'.dropLast, rfl, KT2, B2, X2, T2, D2, F6, (if_neg (by decide)).trans hm1, (if_neg (by decide)).trans hm2, (if_neg (by decide)).trans hm3, N6, hne, hi7, rfl, by lia, by lia, by lia, ms, _, hms, hi6, ?_⟩
        rw [hu, rev_last hx0]
        show (ms ++ (uld (_ :: _) ys').1, (uld (_ :: _) ys').2) = _
        rw [show uld (xs'.getLastD 0 :: xs'.dropLast.reverse) ys' = uld xs'.dropLast.reverse (ys'.erase (xs'.getLastD 0)) from if_pos hin]
      · refine' remove_miss (vb := vb') (ys := ys') rfl ?b2 ?b4 hys hin ?_
        (case b2 => k_asm)
        (case b4 => exact .tail _ (.tail _ (.head _)))
        intro h6 tk6 e6 X6
        refine caught_here (X := "ValueError") (T' := "ValueError") X6.of (by assumption) (by assumption) B2 XB TB D2 ?c1 ?c2 ?c3 ?c4 ?c5 ?c6 ?_
        (case c1 => k_is)
        (case c2 => rfl)
        (case c3 => decide)
        (case c4 => rfl)
        (case c5 => rfl)
        (case c6 => rfl)
        intro h8 g8 KT8 F8 N8 B8 X8 T8 D8
        (repeat' (first | (k_unfold; (try dsimp only)) | (k_end; wrow_close) | ((fail_if_success (with_reducible (refine Mine.stop_here ?_ ?_; walk_at "s0"))); walk1) | (dsimp only; (fail_if_success (with_reducible (refine Mine.stop_here ?_ ?_; walk_at "s0"))); walk1) | (leave1; walk_say "STEP leave1"; try dsimp only) | walk_at "onk" | fail "no step"))
        rename News g8 L' _ _ => N9
        rename Fr g8 L' _ _ => F9
        have hdl : xs'.dropLast.length = xs'.length - 1 := List.length_dropLast
        have hml := hms.length
        refine ⟨xs'.dropLast.length, by lia, g8, _, _, _, lm, vm ++ [.int (xs'.getLastD 0) t7], _, _, nm + 1, _, _, xs'.dropLast, rfl, KT2.trans KT8, B8, X8, T8, D8, F9, (if_neg (by decide)).trans hm1, (if_neg (by decide)).trans hm2, (if_neg (by decide)).trans hm3, by simpa using N9, hne, hi7, rfl, by lia, by simp; lia, by lia, ms ++ [xs'.getLastD 0], ys', hms.append (.cons _ _ .nil), hys, ?_⟩
        rw [hu, rev_last hx0]
        show (ms ++ (uld (_ :: _) ys').1, (uld (_ :: _) ys').2) = _
        rw [show uld (xs'.getLastD 0 :: xs'.dropLast.reverse) ys' = (xs'.getLastD 0 :: (uld xs'.dropLast.reverse ys').1, (uld xs'.dropLast.reverse ys').2) from if_neg hin]
        simp
    · refine WhlIf.no (decide_eq_false hx0) ?_
      (repeat' (first | (k_unfold; (try dsimp only)) | (k_end; wrow_close) | ((fail_if_success (with_reducible (refine Mine.stop_here ?_ ?_; walk_at "s0"))); walk1) | (dsimp only; (fail_if_success (with_reducible (refine Mine.stop_here ?_ ?_; walk_at "s0"))); walk1) | (leave1; walk_say "STEP leave1"; try dsimp only) | walk_at "onk" | fail "no step"))
      have hx00 : xs' = [] := List.length_eq_zero_iff.mp (by lia)
      subst hx00
      rename News g2 L' _ _ => N9
      rename Fr g2 L' _ _ => F9
      have hRR : ∀ p ∈ rest, g2.get? p.1 = some p.2 := fun p hp => KT2.other _ _ (hR p hp) (fun q => by
        rcases kts_memX (L := L) rfl q with z | z
        · exact (N p (.tail _ (.tail _ hp))).2.1 z
        · obtain ⟨o, ho, _⟩ := (B.frames.mem z).2
          rw [(N p (.tail _ (.tail _ hp))).2.2] at ho; cases ho)
      refine ⟨g2, L', _, _, KT2, F9, N9, fun h₀' KT F N' B X T D => ?_⟩
      refine ret h₀' _ _ _ lm vm vb' nm nb' KT F B X T D (fun p hp => ?_) ?_ ?_ ?_
      · simp only [List.mem_cons] at hp
        rcases hp with h | h | h | h
        · exact N' p (by simp [h])
        · exact N' p (by simp [h])
        · exact N' p (by simp [h])
        · exact ⟨F9.keep _ _ (hRR p h), (N p (.tail _ (.tail _ h))).2.1, KT.none_ _ (N p (.tail _ (.tail _ h))).2.2⟩
      · rw [hu]; simpa [uld] using hms
      · rw [hu]; simpa [uld] using hys
      · intro p hp
        have z := hRR p hp
        constructor
        · intro q; have := (N9 _ (.head _)).2.2; rw [← q, z] at this; cases this
        · intro q; have := (N9 _ (.tail _ (.head _))).2.2; rw [← q, z] at this; cases this
  · have := hi.length
    have := hj.length
    exact ⟨g', _, _, _, _, [], va, vb, 0, na, nb, xs, rfl, KtsTurn.refl, B', X', T', D', F1, (if_neg (by decide)).trans rfl, (if_neg (by decide)).trans rfl, if_pos rfl, N1, ⟨by k_ne, by k_ne⟩, hi, rfl, hl1, by simpa using hl1, by lia, [], ys, .nil, hj, rfl⟩
end
section
set_option maxHeartbeats 8000000
section
open LCg
variable {prog : Program} {w : World} {A : Around} {E : Value → Shared → Prop} {s : Shared} {env : Env} {h₀ : Heap} {m₀ : Str → Option Value} {news₀ : List (Addr × Obj)} {target : Expr} {body : List Stmt} {Q : Flow → Shared → Prop}
theorem turns_range {r : Addr} {a b : Int} {t u v : Tok} {n : Nat} (J : Nat → (Str → Option Value) → List (Addr × Obj) → Prop) (hh : A.handled = none) (F : Fr h₀ env.locals s.heap m₀)
    (N : News h₀ env.locals s.heap news₀) (hr : IsRange s.heap r a b 1 t u v) (hsm : Builtin.Range.small a b 1 = true) (hn : Builtin.Range.rangeSize a b 1 = ((n : Nat) : Int)) (h0 : J 0 m₀ news₀)
    (step : ∀ i tv m₁ news₁ h₁ tk₁ I oI, i < n → J i m₁ news₁ → (∀ q ∈ news₁, I ≠ q.1) → Fr h₀ env.locals h₁ m₁ → News h₀ env.locals h₁ ((I, oI) :: news₁) →
      wpAny (model prog w) A (assign target env (.int (a + (i : Nat)) tv)) (fun _ s₃ => wpAny (model prog w) A (execs body env) (TurnEnd h₀ env.locals [(I, oI)] (J (i + 1)) { s with heap := h₁, toks := tk₁ } Q) E s₃) E { s with heap := h₁, toks := tk₁ })
    (done : ∀ m' news' h' tk, J n m' news' → Fr h₀ env.locals h' m' → News h₀ env.locals h' news' → Q .next { s with heap := h', toks := tk }) :
    wpAny (model prog w) A (pyIter (.ref r)) (fun it s₂ => TurnsAt prog w A h₀ env target body Q E it s₂) E s := by
  have hI₀ : h₀.get? s.heap.objs.size = none := next_is_new F
  have W := range_walks (prog := prog) (w := w) (I := s.heap.objs.size) hh a n
  refine wpAny_pyIter_range hr hsm ?_
  refine ⟨s.heap.objs.size, [s.heap.objs.size], [s.heap.objs.size], n, _, _, _, m₀, news₀, J, rfl, KTurns.ofWalks W (fun i v s Q E st q => letGo_any ⟨_, st, rfl⟩ (by decide) q), ?_, ?_, ?_, ?_, F.keeps fun _ _ e => Heap.get?_push_of_some _ e,
    N.grown fun _ _ e => Heap.get?_push_of_some _ e, h0, ?_, ?_⟩
  · intro h; exact absurd F.ns.lt ((List.mem_singleton.mp h) ▸ Nat.lt_irrefl _)
  · intro b hb; rw [List.mem_singleton.mp hb]; exact hI₀
  · intro p hp h; exact absurd (Heap.lt_size (N p hp).1) ((List.mem_singleton.mp h) ▸ Nat.lt_irrefl _)
  · show IsRangeIter _ _ _ _ _
    rw [hn]; simpa using Heap.get?_push_size _ rfl
  · rintro i v m₁ news₁ h₁ tk₁ own hi ⟨tv, rfl⟩ hJ₁ hw ho1 ho2 ho3 st F₁ N₁
    obtain ⟨oI, heI⟩ : ∃ oI, h₁.get? s.heap.objs.size = some oI := ⟨_, st⟩
    have hIo := ho3 _ (.head _) hI₀ oI heI
    refine wpAny_mono (step i tv m₁ news₁ h₁ tk₁ s.heap.objs.size oI hi hJ₁ (fun q hq e => hw q hq (by rw [← e]; exact List.mem_singleton.mpr rfl)) F₁ fun p hp => N₁ p (by
      rcases List.mem_cons.mp hp with h | h
      · subst h; exact List.mem_append_left _ hIo
      · exact List.mem_append_right _ h)) (fun _ s₃ h₃ => wpAny_mono h₃ (fun f s₄ h₄ => ?_) fun _ _ e => e) fun _ _ e => e
    have fin : ((Ex4 fun h' tk m' news' => Cj5 (s₄ = { { s with heap := h₁, toks := tk₁ } with heap := h', toks := tk }) (Fr h₀ env.locals h' m') (News h₀ env.locals h' ([(s.heap.objs.size, oI)] ++ news')) ((∀ p ∈ [(s.heap.objs.size, oI)], ∀ q ∈ news', p.1 ≠ q.1)) (J (i + 1) m' news'))) →
        LoopStepU h₀ env.locals [s.heap.objs.size] own (J (i + 1)) { s with heap := h₁, toks := tk₁ } .next s₄ := by
      rintro ⟨h', tk, m', news', rfl, F', N', dis', hJ'⟩
      refine ⟨rfl, h', tk, m', news', rfl, F', fun p hp => ?_, fun p hp hI => dis' _ (.head _) p hp (List.mem_singleton.mp hI).symm, hJ'⟩
      rcases List.mem_append.mp hp with h | h
      · have e2 := ho2 p h
        have e : p.1 = s.heap.objs.size := List.mem_singleton.mp (ho1 p h)
        have : p = (s.heap.objs.size, oI) := by
          obtain ⟨p1, p2⟩ := p
          have e' : p1 = s.heap.objs.size := e
          subst e'
          rw [heI] at e2; cases e2; rfl
        rw [this]; exact N' _ (.head _)
      · exact N' p (.tail _ h)
    cases f with
    | ret v => exact h₄
    | brk => exact h₄
    | next => exact fin h₄
    | cont => exact fin h₄
  · rintro h' tk m' news' F' N' _ hJ'
    exact done m' news' h' tk hJ' F' N'
end
end
section
set_option maxHeartbeats 8000000
local macro_rules | `(tactic| walk_at "eval Name") => `(tactic| first | walk_at "own" | walk_at "evE")
theorem waysT {w : World} {dp un : Nat} {gd : Option (List Code)} {cn : Str} {cs : Scope} {a : Addr} {ccd : Value} {cl : List (Str × Addr)} {outer : List Env} {A₀ : Around} {base h₀ : Heap} {L : Addr} {m mg mb : Str → Option Value} {mean : ExcName → Option Value} {s : Shared} {Q E : Value → Shared → Prop} {lp : Addr} {pvs : List Value} {nl : Nat} {ps : List (Int × Int)} {tp0 rest : List (Addr × Obj)}
    (B : Below A₀ base outer h₀) (F : Fr h₀ L s.heap m) (X : (Mine.hd.heap_1 w.params).In h₀) (T : TP mean mg mb h₀) (hk : cs.kind = .function) (hd : dp + 12 < recursionLimit) (hu : un + 96 < cLine) (XB : (Mine.hd.heap_1 w.params).In base) (TB : TP mean mg mb base) (D : KtsDicts (outer.filterMap (·.frame)) h₀)
    (N : News h₀ L s.heap (tp0 ++ rest)) (hlp : (lp, listOf pvs.toArray nl) ∈ rest) (hps : PairsN tp0 pvs ps) (hdis : ∀ p ∈ tp0, ∀ q ∈ rest, p.1 ≠ q.1) (hr : ∀ p ∈ ps, 0 ≤ p.1 ∧ p.1 < p.2 ∧ p.2 ≤ 4) (hlen : ps.length ≤ 5)
    (ret : ∀ h₀' h' tk' R n tq (M : List (Addr × (Int × Int))), KtsTurn (outer.filterMap (·.frame)) h₀ h₀' → Fr h₀' L h' m → Below A₀ base outer h₀' → (Mine.hd.heap_1 w.params).In h₀' → TP mean mg mb h₀' → KtsDicts (outer.filterMap (·.frame)) h₀' →
      News h₀' L h' ((R, listOf (M.map fun p => Value.ref p.1).toArray n) :: (tq ++ (tp0 ++ rest))) → (∀ p ∈ (tp0 ++ rest), p.1 ≠ R) → (∀ p ∈ tq, p.1 ≠ R) → (∀ p ∈ tq, ∀ q ∈ rest, p.1 ≠ q.1) → PairsN (tq ++ tp0) (M.map fun p => Value.ref p.1) (M.map (·.2)) → (M.map (·.2)).Nodup → (M.map (·.2)).Pairwise (fun p q => pairLt q p = false) → (∀ q, q ∈ M.map (·.2) ↔ q ∈ waysN ps 5) →
      Q (.ref R) { s with heap := h', toks := tk' }) :
    wpAny (model PG w) (ktrTop dp un gd cn cs L a ccd cl outer) (call (.ref 165) [.ref lp]) Q E s := by
  have N0 : News h₀ L s.heap tp0 := fun p hp => N p (List.mem_append_left _ hp)
  refine wpAny_call ?_
  k_dflt (refine' code_defTC ?k1 ?k2 ?k3 ?k4 ?k5 ?kXB ?kTB ?kD ?kA ?kF ?kK ?k6 ?k7 ?k8 ?k9 ?kB ?kN ?_ ?c2 ?c3 ?c4; (case kA => exact rfl); (case kF => exact rfl); (case kK => assumption); (case k1 => k_asm); (case k2 => k_asm); (case k3 => k_asm); (case k4 => exact N0); (case k5 => k_asm); (case kXB => assumption); (case kTB => assumption); (case kD => assumption); (case k6 => k_is); (case k7 => k_is); (case k8 => ktr_room); (case k9 => exact BindsTo.of_eq rfl); (case kB => exact rfl); (case kN => decide +kernel); (case c2 => exact rfl); (case c3 => exact rfl); (case c4 => exact rfl); k_whole; intro g' L' h' tk' cells' FG' F' N' Y' B' X' T' D' kG' l1'; k_cells Y'; (try simp only [List.cons_append, List.nil_append] at N'); (try dsimp only); (try k_fold))
  rename_i oO oM oW0 dO dM dW
  (repeat' (first | (k_unfold; (try dsimp only)) | (k_end; wrow_close) | ((fail_if_success (with_reducible (refine Mine.stop_here ?_ ?_; first | walk_at "s0" | exact Mine.p20 | exact Mine.p26 | exact Mine.p22 | exact Mine.p27))); walk1) | (dsimp only; (fail_if_success (with_reducible (refine Mine.stop_here ?_ ?_; first | walk_at "s0" | exact Mine.p20 | exact Mine.p26 | exact Mine.p22 | exact Mine.p27))); walk1) | (leave1; walk_say "STEP leave1"; try dsimp only) | walk_at "onk" | fail "no step"))
  have hlp1 := kG' _ _ (N _ (List.mem_append_right _ hlp)).1 (by intro q; obtain ⟨z, hz, e⟩ := List.mem_map.mp q; exact hdis z hz _ hlp e)
  have hpl := hps.length
  have u1 : ∀ p ∈ tp0, p.1 ≠ L' + 1 := fun p hp => Nat.ne_of_lt (Nat.lt_succ_of_lt (l1' p hp))
  have u2 : ∀ p ∈ tp0, p.1 ≠ L' + 1 + 1 := fun p hp => Nat.ne_of_lt (Nat.lt_succ_of_lt (Nat.lt_succ_of_lt (l1' p hp)))
  have u3 : ∀ p ∈ tp0, p.1 ≠ L' + 1 + 1 + 1 := fun p hp => Nat.ne_of_lt (Nat.lt_succ_of_lt (Nat.lt_succ_of_lt (Nat.lt_succ_of_lt (l1' p hp))))
  refine list_copyK F' N' ⟨_, F'.keep _ _ hlp1, rfl, _, rfl⟩ ?_ ?_
  · intro W c h1 F1 N1 lW
    (try dsimp only)
    have lW2 : @LT.lt Nat _ (L' + 1 + 1 + 1) W := lW _ (.head _)
    have u4 : ∀ p ∈ tp0, p.1 ≠ W := fun p hp => Nat.ne_of_lt (lW _ (.tail _ (.tail _ (.tail _ hp))))
    (repeat' (first | (k_unfold; (try dsimp only)) | (k_end; wrow_close) | ((fail_if_success (with_reducible (refine Mine.stop_here ?_ ?_; first | walk_at "s0" | exact Mine.p20 | exact Mine.p26 | exact Mine.p22 | exact Mine.p27))); walk1) | (dsimp only; (fail_if_success (with_reducible (refine Mine.stop_here ?_ ?_; first | walk_at "s0" | exact Mine.p20 | exact Mine.p26 | exact Mine.p22 | exact Mine.p27))); walk1) | (leave1; walk_say "STEP leave1"; try dsimp only) | walk_at "onk" | fail "no step"))
    rename_i hx oW F2 N2 hoW
    have hoW' : oW.data = .cell (some (.ref W)) := hoW
    have hoO' : oO.data = .cell none := dO
    have hoM' : oM.data = .cell none := dM
    clear hoW dO dM dW
    refine For_turns F2 ?_
    (repeat' (first | (k_unfold; (try dsimp only)) | (k_end; wrow_close) | ((fail_if_success (with_reducible (refine Mine.stop_here ?_ ?_; first | walk_at "s0" | exact Mine.p20 | exact Mine.p26 | exact Mine.p22 | exact Mine.p27))); walk1) | (dsimp only; (fail_if_success (with_reducible (refine Mine.stop_here ?_ ?_; first | walk_at "s0" | exact Mine.p20 | exact Mine.p26 | exact Mine.p22 | exact Mine.p27))); walk1) | (leave1; walk_say "STEP leave1"; try dsimp only) | walk_at "onk" | fail "no step"))
    walk1
    (try dsimp only)
    rename IsRange _ _ _ _ _ _ _ _ => hrg
    rename Fr g' L' _ _ => F3
    rename News g' L' _ _ => N3
    have N3' : News g' L' _ ((W, listOf pvs.toArray c) :: (L' + 1, oW) :: (L' + 1 + 1, oM) :: (L' + 1 + 1 + 1, oO) :: tp0) := fun p hp => N3 p (by
      refine led_go hp ?_
      walk_at "led")
    refine turns_range (n := 5) (fun i _ nw => (Ex8 fun wv n oW oM oO vM vO tps => Cj7 (nw = (W, listOf wv.toArray n) :: (L' + 1, oW) :: (L' + 1 + 1, oM) :: (L' + 1 + 1 + 1, oO) :: tps) (oW.data = .cell (some (.ref W))) (oM.data = .cell vM) (oO.data = .cell vO) ((∀ p ∈ tps, p.1 ≠ W ∧ p.1 ≠ L' + 1 ∧ p.1 ≠ L' + 1 + 1 ∧ p.1 ≠ L' + 1 + 1 + 1)) (PairsN tps wv (waysN ps i)) (∃ tq, tps = tq ++ tp0))) rfl F3 N3' hrg (by decide) (by decide) ?_ ?_ ?_
    · refine ⟨pvs, c, oW, oM, oO, _, _, tp0, rfl, hoW', hoM', hoO', (fun p hp => ?_), hps, [], rfl⟩
      have hL1 : @LT.lt Nat _ p.1 L' := l1' p hp
      have hL2 : @LT.lt Nat _ p.1 (L' + 1) := Nat.lt_succ_of_lt hL1
      have hL3 : @LT.lt Nat _ p.1 (L' + 1 + 1) := Nat.lt_succ_of_lt hL2
      have hL4 : @LT.lt Nat _ p.1 (L' + 1 + 1 + 1) := Nat.lt_succ_of_lt hL3
      exact ⟨Nat.ne_of_lt (Nat.lt_trans hL4 lW2), Nat.ne_of_lt hL2, Nat.ne_of_lt hL3, Nat.ne_of_lt hL4⟩
    · rintro i tv m₁ nw h₁ tk₁ I oI hi5 ⟨wv, n, oW, oM, oO, vM, vO, tps, rfl, dW, dM, dO, ltp, hwv, hsuf⟩ hIne F4 N4
      have F4 : Fr g' L' h₁ m₁ := F4
      have N4 : News g' L' h₁ ((I, oI) :: (W, listOf wv.toArray n) :: (L' + 1, oW) :: (L' + 1 + 1, oM) :: (L' + 1 + 1 + 1, oO) :: tps) := N4
      have t1 : ∀ p ∈ tps, p.1 ≠ L' + 1 := fun p hp => (ltp p hp).2.1
      have t2 : ∀ p ∈ tps, p.1 ≠ L' + 1 + 1 := fun p hp => (ltp p hp).2.2.1
      have t3 : ∀ p ∈ tps, p.1 ≠ L' + 1 + 1 + 1 := fun p hp => (ltp p hp).2.2.2
      have t4 : ∀ p ∈ tps, p.1 ≠ W := fun p hp => (ltp p hp).1
      have i1 : @Ne Nat I W := hIne _ (.head _)
      have i2 : @Ne Nat I (L' + 1) := hIne _ (.tail _ (.head _))
      have i3 : @Ne Nat I (L' + 1 + 1) := hIne _ (.tail _ (.tail _ (.head _)))
      have i4 : @Ne Nat I (L' + 1 + 1 + 1) := hIne _ (.tail _ (.tail _ (.tail _ (.head _))))
      have i5 : ∀ p ∈ tps, p.1 ≠ I := fun p hp => Ne.symm (hIne p (.tail _ (.tail _ (.tail _ (.tail _ hp)))))
      (try clear F2); (try clear F3); (try clear N2); (try clear N3); (try clear F'); (try clear N')
      (repeat' (first | (k_unfold; (try dsimp only)) | (k_end; wrow_close) | ((fail_if_success (with_reducible (refine Mine.stop_here ?_ ?_; first | walk_at "s0" | exact Mine.p20 | exact Mine.p26 | exact Mine.p22 | exact Mine.p27))); walk1) | (dsimp only; (fail_if_success (with_reducible (refine Mine.stop_here ?_ ?_; first | walk_at "s0" | exact Mine.p20 | exact Mine.p26 | exact Mine.p22 | exact Mine.p27))); walk1) | (leave1; walk_say "STEP leave1"; try dsimp only) | walk_at "onk" | fail "no step"))
      rename_i hS oM1 F5 N5 dM1
      have dM1' : oM1.data = .cell (some (.int (0 + (i : Nat)) tv)) := dM1
      clear dM1
      obtain ⟨ws, hws⟩ : ∃ ws, ws = waysN ps i := ⟨_, rfl⟩
      obtain ⟨mid, hmid⟩ : ∃ mid, mid = (0 : Int) + (i : Nat) := ⟨_, rfl⟩
      rw [← hws] at hwv
      rw [← hmid] at dM1'
      have hwl : ws.length ≤ 461 := by rw [hws]; exact waysN_len hr hlen i (by lia)
      have hwl2 : (ws ++ extOf ws (intoOf ws mid) (outOf ws mid)).length ≤ 461 := by rw [hws, hmid]; exact waysN_len hr hlen (i + 1) hi5
      have hvl := hwv.length
      obtain ⟨led, hled⟩ : ∃ led, led = (I, oI) :: (W, listOf wv.toArray n) :: (L' + 1, oW) :: (L' + 1 + 1, oM1) :: (L' + 1 + 1 + 1, oO) :: tps := ⟨_, rfl⟩
      have hsub : ∀ p ∈ tps, p ∈ led := fun p hp => by rw [hled]; exact .tail _ (.tail _ (.tail _ (.tail _ (.tail _ hp))))
      have hM1 : (L' + 1 + 1, oM1) ∈ led := by rw [hled]; exact .tail _ (.tail _ (.tail _ (.head _)))
      refine comp_asg (F₀ := F5) (by with_unfolding_all rfl) (by with_unfolding_all rfl) rfl (by decide) ?_
      (repeat' (first | (k_unfold; (try dsimp only)) | (k_end; wrow_close) | ((fail_if_success (with_reducible (refine Mine.stop_here ?_ ?_; first | walk_at "s0" | exact Mine.p20 | exact Mine.p26 | exact Mine.p22 | exact Mine.p27))); walk1) | (dsimp only; (fail_if_success (with_reducible (refine Mine.stop_here ?_ ?_; first | walk_at "s0" | exact Mine.p20 | exact Mine.p26 | exact Mine.p22 | exact Mine.p27))); walk1) | (leave1; walk_say "STEP leave1"; try dsimp only) | walk_at "onk" | fail "no step"))
      refine src_list (its := wv.toArray) rfl F5 N5 (.tail _ (.head _)) (by rw [sizeLine_eq]; simp; lia) ?_
      intro I1 h6 src lI1
      refine ⟨I1, _, _, _, _, rfl, src, ?_⟩
      rintro D1 C1 s₃ ⟨h7, rfl⟩ lD1 hDC1
      refine ⟨fun j ys nw => nw = led ∧ IntsAre ys (intoOf (ws.take j) mid), ?_, ⟨hled.symm, .nil⟩, ?_, ?_⟩
      · rintro j ys nw ⟨rfl, _⟩
        exact .inr ⟨listOf wv.toArray n, by rw [hled]; exact .tail _ (.head _), rfl, n, rfl⟩
      · rintro j v h tk oI1 oC m₂ ys nw hj hv F8 N8 hC8 off8 ⟨n1, n2, n3⟩ ⟨rfl, hys⟩
        have hjw : j < ws.length := by simp at hj; lia
        have hv' : wv[j]? = some v := by simpa using hv
        have hpa : PairsAt h wv ws := hwv.at (h₀ := g') (L := L') (fun p hp => N8 p (.tail _ (.tail _ (.tail _ (hsub p hp)))))
        obtain ⟨T, ta, tb, e1, e2⟩ := hpa.get j hjw
        rw [hv'] at e1
        cases e1
        have etk : ws.take (j + 1) = ws.take j ++ [ws[j]] := by rw [List.take_succ, List.getElem?_eq_getElem hjw]; rfl
        have off9 := off8.mem
        have U8 : ∀ o₁, UpdF C1 o₁ ((I1, oI1) :: (C1, o₁) :: (D1, LCg.lst ys) :: nw) (fun o₁ => (I1, oI1) :: (C1, o₁) :: (D1, LCg.lst ys) :: nw) := fun o₁ =>
          .tail n1 (.head fun p hp => by
            rcases List.mem_cons.mp hp with rfl | hp
            · exact Ne.symm n3
            · exact (off9 p hp).2.1)
        refine pair_own rfl F8 N8 (U8 oC) U8 ⟨_, e2, rfl, _, rfl⟩ hC8 rfl rfl rfl ?_
        intro h9 oC9 tk9 F9 N9 hC9
        have hx1 : (fun z => if z = Str.ofString "high" then some (Value.int ws[j].2 tb) else if z = Str.ofString "low" then some (Value.int ws[j].1 ta) else m₂ z) (Str.ofString "high") = some (Value.int ws[j].2 tb) := if_pos rfl
        have hx2 : (fun z => if z = Str.ofString "high" then some (Value.int ws[j].2 tb) else if z = Str.ofString "low" then some (Value.int ws[j].1 ta) else m₂ z) (Str.ofString "low") = some (Value.int ws[j].1 ta) := (if_neg (by decide)).trans (if_pos rfl)
        refine wpAny_tests_one ?_
        (try dsimp only)
        (repeat' (first | (k_unfold; (try dsimp only)) | (k_end; wrow_close) | ((fail_if_success (with_reducible (refine Mine.stop_here ?_ ?_; first | walk_at "s0" | exact Mine.p20 | exact Mine.p26 | exact Mine.p22 | exact Mine.p27))); walk1) | (dsimp only; (fail_if_success (with_reducible (refine Mine.stop_here ?_ ?_; first | walk_at "s0" | exact Mine.p20 | exact Mine.p26 | exact Mine.p22 | exact Mine.p27))); walk1) | (leave1; walk_say "STEP leave1"; try dsimp only) | walk_at "onk" | fail "no step"))
        · rename ws[j].2 = mid => hz
          exact ⟨h9, _, oC9, _, _, rfl, F9, N9, hC9, off8, rfl, by rw [etk, intoOf_snoc, if_pos hz]; exact hys.append (.cons _ ta .nil)⟩
        · rename ws[j].2 ≠ mid => hz
          exact ⟨h9, _, oC9, _, _, rfl, F9, N9, hC9, off8, rfl, by rw [etk, intoOf_snoc, if_neg hz, List.append_nil]; exact hys⟩
      · rintro h tk yI oC m₂ nw F8 N8 hC8 off8 hCD ⟨rfl, hyI⟩
        have off9 := off8.mem
        have ewz : wv.toArray.size = ws.length := by simpa using hvl
        rw [ewz, List.take_length] at hyI
        (try dsimp only)
        refine wpAny_mono (Q := fun _ s'' => Held _) ?_ (fun _ _ x => x.out) (fun _ _ e => e)
        (repeat' (first | (k_unfold; (try dsimp only)) | (k_end; wrow_close) | ((fail_if_success (with_reducible (refine Mine.stop_here ?_ ?_; first | walk_at "s0" | exact Mine.p20 | exact Mine.p26 | exact Mine.p22 | exact Mine.p27))); walk1) | (dsimp only; (fail_if_success (with_reducible (refine Mine.stop_here ?_ ?_; first | walk_at "s0" | exact Mine.p20 | exact Mine.p26 | exact Mine.p22 | exact Mine.p27))); walk1) | (leave1; walk_say "STEP leave1"; try dsimp only) | walk_at "onk" | fail "no step"))
        rename Fr g' L' _ _ => F9
        rename News g' L' _ _ => N9
        refine ⟨aend F9 N9 hC8 ?_ ?_⟩
        · intro p hp
          rcases List.mem_cons.mp hp with rfl | hp
          · exact Ne.symm hCD
          · exact (off9 p hp).2.1
        intro h10 F10 N10
        rw [hled] at N10
        have z1 : @LT.lt Nat _ I D1 := lD1 _ (.head _)
        have z2 : @LT.lt Nat _ W D1 := lD1 _ (.tail _ (.head _))
        have z3 : @LT.lt Nat _ (L' + 1 + 1 + 1) D1 := lD1 _ (.tail _ (.tail _ (.tail _ (.tail _ (.head _)))))
        have z4 : ∀ p ∈ tps, @LT.lt Nat _ p.1 D1 := fun p hp => lD1 _ (.tail _ (.tail _ (.tail _ (.tail _ (.tail _ hp)))))
        (try clear off8); (try clear off9); (try clear hsub); (try clear hM1); (try clear F8); (try clear N8); (try clear hC8); (try clear src); (try clear lI1); (try clear lD1); (try clear hled); (try clear N5); (try clear F5); (try clear F9); (try clear N9)
        (try dsimp only)
        (repeat' (first | (k_unfold; (try dsimp only)) | (k_end; wrow_close) | ((fail_if_success (with_reducible (refine Mine.stop_here ?_ ?_; first | walk_at "s0" | exact Mine.p20 | exact Mine.p26 | exact Mine.p22 | exact Mine.p27))); walk1) | (dsimp only; (fail_if_success (with_reducible (refine Mine.stop_here ?_ ?_; first | walk_at "s0" | exact Mine.p20 | exact Mine.p26 | exact Mine.p22 | exact Mine.p27))); walk1) | (leave1; walk_say "STEP leave1"; try dsimp only) | walk_at "onk" | fail "no step"))
        have N10 : News g' L' h10 ((D1, listOf yI.toArray yI.length) :: (I, oI) :: (W, listOf wv.toArray n) :: (L' + 1, oW) :: (L' + 1 + 1, oM1) :: (L' + 1 + 1 + 1, oO) :: tps) := N10
        obtain ⟨led, hled⟩ : ∃ led, led = (D1, listOf yI.toArray yI.length) :: (I, oI) :: (W, listOf wv.toArray n) :: (L' + 1, oW) :: (L' + 1 + 1, oM1) :: (L' + 1 + 1 + 1, oO) :: tps := ⟨_, rfl⟩
        have hsub : ∀ p ∈ tps, p ∈ led := fun p hp => by rw [hled]; exact .tail _ (.tail _ (.tail _ (.tail _ (.tail _ (.tail _ hp)))))
        have hM1 : (L' + 1 + 1, oM1) ∈ led := by rw [hled]; exact .tail _ (.tail _ (.tail _ (.tail _ (.head _))))
        refine wpAny_Assign_Name ?_ (by with_unfolding_all rfl)
        refine comp_eval (F₀ := F10) (by with_unfolding_all rfl) rfl (by decide) ?_
        (repeat' (first | (k_unfold; (try dsimp only)) | (k_end; wrow_close) | ((fail_if_success (with_reducible (refine Mine.stop_here ?_ ?_; first | walk_at "s0" | exact Mine.p20 | exact Mine.p26 | exact Mine.p22 | exact Mine.p27))); walk1) | (dsimp only; (fail_if_success (with_reducible (refine Mine.stop_here ?_ ?_; first | walk_at "s0" | exact Mine.p20 | exact Mine.p26 | exact Mine.p22 | exact Mine.p27))); walk1) | (leave1; walk_say "STEP leave1"; try dsimp only) | walk_at "onk" | fail "no step"))
        refine src_list (its := wv.toArray) rfl F10 N10 (.tail _ (.tail _ (.head _))) (by rw [sizeLine_eq]; simp; lia) ?_
        intro I2 h16 src lI2
        refine ⟨I2, _, _, _, _, rfl, src, ?_⟩
        rintro D2 C2 s₃ ⟨h17, rfl⟩ lD2 hDC2
        refine ⟨fun j ys nw => nw = led ∧ IntsAre ys (outOf (ws.take j) mid), ?_, ⟨hled.symm, .nil⟩, ?_, ?_⟩
        · rintro j ys nw ⟨rfl, _⟩
          exact .inr ⟨listOf wv.toArray n, by rw [hled]; exact .tail _ (.tail _ (.head _)), rfl, n, rfl⟩
        · rintro j v h tk oI2 oC m₂ ys nw hj hv F8 N8 hC8 off8 ⟨n1, n2, n3⟩ ⟨rfl, hys⟩
          have hjw : j < ws.length := by simp at hj; lia
          have hv' : wv[j]? = some v := by simpa using hv
          have hpa : PairsAt h wv ws := hwv.at (h₀ := g') (L := L') (fun p hp => N8 p (.tail _ (.tail _ (.tail _ (hsub p hp)))))
          obtain ⟨T, ta, tb, e1, e2⟩ := hpa.get j hjw
          rw [hv'] at e1
          cases e1
          have etk : ws.take (j + 1) = ws.take j ++ [ws[j]] := by rw [List.take_succ, List.getElem?_eq_getElem hjw]; rfl
          have off9 := off8.mem
          have U8 : ∀ o₁, UpdF C2 o₁ ((I2, oI2) :: (C2, o₁) :: (D2, LCg.lst ys) :: nw) (fun o₁ => (I2, oI2) :: (C2, o₁) :: (D2, LCg.lst ys) :: nw) := fun o₁ =>
            .tail n1 (.head fun p hp => by
              rcases List.mem_cons.mp hp with rfl | hp
              · exact Ne.symm n3
              · exact (off9 p hp).2.1)
          refine pair_own rfl F8 N8 (U8 oC) U8 ⟨_, e2, rfl, _, rfl⟩ hC8 rfl rfl rfl ?_
          intro h9 oC9 tk9 F9 N9 hC9
          have hx1 : (fun z => if z = Str.ofString "high" then some (Value.int ws[j].2 tb) else if z = Str.ofString "low" then some (Value.int ws[j].1 ta) else m₂ z) (Str.ofString "high") = some (Value.int ws[j].2 tb) := if_pos rfl
          have hx2 : (fun z => if z = Str.ofString "high" then some (Value.int ws[j].2 tb) else if z = Str.ofString "low" then some (Value.int ws[j].1 ta) else m₂ z) (Str.ofString "low") = some (Value.int ws[j].1 ta) := (if_neg (by decide)).trans (if_pos rfl)
          refine wpAny_tests_one ?_
          (try dsimp only)
          (repeat' (first | (k_unfold; (try dsimp only)) | (k_end; wrow_close) | ((fail_if_success (with_reducible (refine Mine.stop_here ?_ ?_; first | walk_at "s0" | exact Mine.p20 | exact Mine.p26 | exact Mine.p22 | exact Mine.p27))); walk1) | (dsimp only; (fail_if_success (with_reducible (refine Mine.stop_here ?_ ?_; first | walk_at "s0" | exact Mine.p20 | exact Mine.p26 | exact Mine.p22 | exact Mine.p27))); walk1) | (leave1; walk_say "STEP leave1"; try dsimp only) | walk_at "onk" | fail "no step"))
          · rename ws[j].1 = mid => hz
            exact ⟨h9, _, oC9, _, _, rfl, F9, N9, hC9, off8, rfl, by rw [etk, outOf_snoc, if_pos hz]; exact hys.append (.cons _ tb .nil)⟩
          · rename ws[j].1 ≠ mid => hz
            exact ⟨h9, _, oC9, _, _, rfl, F9, N9, hC9, off8, rfl, by rw [etk, outOf_snoc, if_neg hz, List.append_nil]; exact hys⟩
        · rintro h tk yO oC m₂ nw F8 N8 hC8 off8 hCD2 ⟨rfl, hyO⟩
          have off9 := off8.mem
          rw [ewz, List.take_length] at hyO
          rw [hled] at N8 off9
          have x1 : @LT.lt Nat _ D1 D2 := lD2 _ (.head _)
          have x2 : @LT.lt Nat _ I D2 := lD2 _ (.tail _ (.head _))
          have x3 : ∀ p ∈ tps, p.1 ≠ D2 := fun p hp => Nat.ne_of_lt (lD2 _ (.tail _ (.tail _ (.tail _ (.tail _ (.tail _ (.tail _ hp)))))))
          have x4 : ∀ p ∈ tps, p.1 ≠ C2 := fun p hp => (off9 p (.tail _ (.tail _ (.tail _ (.tail _ (.tail _ (.tail _ hp))))))).2.1
          have x5 : @LT.lt Nat _ D2 C2 := hDC2
          have N8 : News g' L' h ((C2, oC) :: (D2, listOf yO.toArray yO.length) :: (D1, listOf yI.toArray yI.length) :: (I, oI) :: (W, listOf wv.toArray n) :: (L' + 1, oW) :: (L' + 1 + 1, oM1) :: (L' + 1 + 1 + 1, oO) :: tps) := N8
          have x6 : ∀ p ∈ tps, p.1 ≠ D1 := fun p hp => Nat.ne_of_lt (z4 p hp)
          refine aend F8 N8 hC8 ?_ ?_
          · intro p hp
            simp only [List.mem_cons] at hp
            rcases hp with rfl | rfl | rfl | rfl | rfl | rfl | rfl | hp
            · exact Nat.ne_of_lt x5
            · exact Nat.ne_of_lt (Nat.lt_trans x1 x5)
            · exact Nat.ne_of_lt (Nat.lt_trans x2 x5)
            · exact Nat.ne_of_lt (Nat.lt_trans z2 (Nat.lt_trans x1 x5))
            · exact (off9 (L' + 1, oW) (.tail _ (.tail _ (.tail _ (.head _))))).2.1
            · exact (off9 (L' + 1 + 1, oM1) (.tail _ (.tail _ (.tail _ (.tail _ (.head _)))))).2.1
            · exact (off9 (L' + 1 + 1 + 1, oO) (.tail _ (.tail _ (.tail _ (.tail _ (.tail _ (.head _))))))).2.1
            · exact x4 p hp
          intro h20 F20 N20
          (try clear off8); (try clear off9); (try clear hsub); (try clear hM1); (try clear F8); (try clear N8); (try clear hC8); (try clear src); (try clear lI2); (try clear lD2); (try clear hled); (try clear N10); (try clear F10); (try clear oC); (try clear lD1)
          (try dsimp only)
          (repeat' (first | (k_unfold; (try dsimp only)) | (k_end; wrow_close) | ((fail_if_success (with_reducible (refine Mine.stop_here ?_ ?_; first | walk_at "s0" | exact Mine.p20 | exact Mine.p26 | exact Mine.p22 | exact Mine.p27))); walk1) | (dsimp only; (fail_if_success (with_reducible (refine Mine.stop_here ?_ ?_; first | walk_at "s0" | exact Mine.p20 | exact Mine.p26 | exact Mine.p22 | exact Mine.p27))); walk1) | (leave1; walk_say "STEP leave1"; try dsimp only) | walk_at "onk" | fail "no step"))
          rename_i h21 oO1 F21 N21 dO1
          have dO1' : oO1.data = .cell (some (.ref D2)) := dO1
          (try clear dO1); (try clear F20); (try clear N20); (try clear dO)
          have N21 : News g' L' h21 ((D2, listOf yO.toArray yO.length) :: (D1, listOf yI.toArray yI.length) :: (I, oI) :: (W, listOf wv.toArray n) :: (L' + 1, oW) :: (L' + 1 + 1, oM1) :: (L' + 1 + 1 + 1, oO1) :: tps) := N21
          obtain ⟨led, hled⟩ : ∃ led, led = (D2, listOf yO.toArray yO.length) :: (D1, listOf yI.toArray yI.length) :: (I, oI) :: (W, listOf wv.toArray n) :: (L' + 1, oW) :: (L' + 1 + 1, oM1) :: (L' + 1 + 1 + 1, oO1) :: tps := ⟨_, rfl⟩
          have c1 : (D2, listOf yO.toArray yO.length) ∈ led := by rw [hled]; exact .head _
          have c2 : (D1, listOf yI.toArray yI.length) ∈ led := by rw [hled]; exact .tail _ (.head _)
          have c4 : (W, listOf wv.toArray n) ∈ led := by rw [hled]; exact .tail _ (.tail _ (.tail _ (.head _)))
          have c5 : (L' + 1, oW) ∈ led := by rw [hled]; exact .tail _ (.tail _ (.tail _ (.tail _ (.head _))))
          have c7 : (L' + 1 + 1 + 1, oO1) ∈ led := by rw [hled]; exact .tail _ (.tail _ (.tail _ (.tail _ (.tail _ (.tail _ (.head _))))))
          have c8 : ∀ p ∈ tps, p ∈ led := fun p hp => by rw [hled]; exact .tail _ (.tail _ (.tail _ (.tail _ (.tail _ (.tail _ (.tail _ hp))))))
          have hIl := hyI.length
          have hOl := hyO.length
          have hIs : (intoOf ws mid).length ≤ 461 := by unfold intoOf; rw [List.length_map]; exact Nat.le_trans (List.length_filter_le _ _) hwl
          have hOs : (outOf ws mid).length ≤ 461 := by unfold outOf; rw [List.length_map]; exact Nat.le_trans (List.length_filter_le _ _) hwl
          refine comp_eval2 (F₀ := F21) (by with_unfolding_all rfl) rfl (by decide) ?_
          (repeat' (first | (k_unfold; (try dsimp only)) | (k_end; wrow_close) | ((fail_if_success (with_reducible (refine Mine.stop_here ?_ ?_; first | walk_at "s0" | exact Mine.p20 | exact Mine.p26 | exact Mine.p22 | exact Mine.p27))); walk1) | (dsimp only; (fail_if_success (with_reducible (refine Mine.stop_here ?_ ?_; first | walk_at "s0" | exact Mine.p20 | exact Mine.p26 | exact Mine.p22 | exact Mine.p27))); walk1) | (leave1; walk_say "STEP leave1"; try dsimp only) | walk_at "onk" | fail "no step"))
          refine src_list (its := yI.toArray) rfl F21 N21 (.tail _ (.head _)) (by rw [sizeLine_eq]; simp; lia) ?_
          intro I3 h22 src lI3
          refine ⟨I3, _, _, _, 461, _, rfl, ?_, src, ?_⟩
          · have : yI.toArray.size ≤ 461 := by simp; lia
            rw [sizeLine_eq]
            have := Nat.mul_le_mul_right 461 this
            lia
          rintro D3 C3 s₃ ⟨h23, rfl⟩ lD3 hDC3
          refine ⟨fun j ys nw => ∃ tq, nw = tq ++ led ∧ (∀ p ∈ tq, @LT.lt Nat _ D3 p.1) ∧ PairsN tq ys (extOf ws ((intoOf ws mid).take j) (outOf ws mid)), ?_, ⟨[], hled.symm, (fun p hp => nomatch hp), .nil⟩, ?_, ?_⟩
          · rintro j ys nw ⟨tq, rfl, _⟩
            exact .inr ⟨_, List.mem_append_right _ c2, rfl, _, rfl⟩
          · rintro j v h tk oI3 oC m₂ ys nw hj hv F8 N8 hC8 off8 ⟨n1, n2, n3⟩ ⟨tq, rfl, ltq, hys⟩
            have hjw : j < (intoOf ws mid).length := by simp at hj; lia
            obtain ⟨tl, rfl⟩ : ∃ tl, v = .int (intoOf ws mid)[j] tl := by
              obtain ⟨tv, e⟩ := hyI.get j _ (List.getElem?_eq_getElem hjw)
              have hv' : yI[j]? = some v := by simpa using hv
              rw [e] at hv'; cases hv'; exact ⟨tv, rfl⟩
            obtain ⟨low, hlow⟩ : ∃ low, low = (intoOf ws mid)[j] := ⟨_, rfl⟩
            rw [← hlow]
            have etk : (intoOf ws mid).take (j + 1) = (intoOf ws mid).take j ++ [low] := by rw [List.take_succ, List.getElem?_eq_getElem hjw, hlow]; rfl
            have off9 := off8.mem
            have U8 : ∀ o₁, UpdF C3 o₁ ((I3, oI3) :: (C3, o₁) :: (D3, LCg.lst ys) :: (tq ++ led)) (fun o₁ => (I3, oI3) :: (C3, o₁) :: (D3, LCg.lst ys) :: (tq ++ led)) := fun o₁ =>
              .tail n1 (.head fun p hp => by
                rcases List.mem_cons.mp hp with rfl | hp
                · exact Ne.symm n3
                · exact (off9 p hp).2.1)
            refine asg_own F8 N8 (U8 oC) hC8 rfl rfl ?_
            intro h9 oC9 F9 N9 hC9
            have d7 : (L' + 1 + 1 + 1, oO1) ∈ tq ++ led := List.mem_append_right _ c7
            (try dsimp only)
            (repeat' (first | (k_unfold; (try dsimp only)) | (k_end; wrow_close) | ((fail_if_success (with_reducible (refine Mine.stop_here ?_ ?_; first | walk_at "s0" | exact Mine.p20 | exact Mine.p26 | exact Mine.p22 | exact Mine.p27))); walk1) | (dsimp only; (fail_if_success (with_reducible (refine Mine.stop_here ?_ ?_; first | walk_at "s0" | exact Mine.p20 | exact Mine.p26 | exact Mine.p22 | exact Mine.p27))); walk1) | (leave1; walk_say "STEP leave1"; try dsimp only) | walk_at "onk" | fail "no step"))
            refine src_list (its := yO.toArray) (news := (C3, oC9) :: (D3, LCg.lst ys) :: (I3, oI3) :: (tq ++ led)) rfl F9 (fun p hp => N9 p ?_) (.tail _ (.tail _ (.tail _ (List.mem_append_right _ c1)))) (by rw [sizeLine_eq]; simp; lia) ?_
            · refine led_go hp ?_
              walk_at "led"
            intro I4 h24 src4 lI4
            refine ⟨I4, _, _, _, oC9, _, tq ++ led, fun j2 ys2 nw2 => ∃ tq2, nw2 = (I3, oI3) :: (tq2 ++ led) ∧ (∀ p ∈ tq2, @LT.lt Nat _ D3 p.1 ∧ p.1 ≠ I3 ∧ p.1 ≠ C3) ∧ PairsN tq2 ys2 (extOf ws ((intoOf ws mid).take j) (outOf ws mid) ++ extRow ws low ((outOf ws mid).take j2)),
              fun m' => m' (Str.ofString "low") = some (.int low tl), _, _, rfl, rfl, src4, by simp; lia, hC9, off8, ?_, if_pos rfl, ?_, ?_, ?_⟩
            · rintro j2 ys2 nw2 ⟨tq2, rfl, _⟩
              exact .inr ⟨_, .tail _ (List.mem_append_right _ c1), rfl, _, rfl⟩
            · refine ⟨tq, rfl, fun p hp => ⟨ltq p hp, (off9 p (List.mem_append_left _ hp)).1, (off9 p (List.mem_append_left _ hp)).2.1⟩, ?_⟩
              have : extRow ws low ((outOf ws mid).take 0) = [] := rfl
              rw [this, List.append_nil]; exact hys
            · rintro j2 v2 h25 tk25 oI4 oC4 m₄ ys2 nw2 hj2 hv2 F25 N25 hC25 off25 ⟨p1, p2, p3⟩ hm4 ⟨tq2, rfl, ltq2, hys2⟩
              have hjo : j2 < (outOf ws mid).length := by simp at hj2; lia
              obtain ⟨th, rfl⟩ : ∃ th, v2 = .int (outOf ws mid)[j2] th := by
                obtain ⟨tv, e⟩ := hyO.get j2 _ (List.getElem?_eq_getElem hjo)
                have hv' : yO[j2]? = some v2 := by simpa using hv2
                rw [e] at hv'; cases hv'; exact ⟨tv, rfl⟩
              obtain ⟨high, hhigh⟩ : ∃ high, high = (outOf ws mid)[j2] := ⟨_, rfl⟩
              rw [← hhigh]
              have etk2 : (outOf ws mid).take (j2 + 1) = (outOf ws mid).take j2 ++ [high] := by rw [List.take_succ, List.getElem?_eq_getElem hjo, hhigh]; rfl
              have off26 := off25.mem
              have U25 : ∀ o₁, UpdF C3 o₁ ((I4, oI4) :: (C3, o₁) :: (D3, LCg.lst ys2) :: (I3, oI3) :: (tq2 ++ led)) (fun o₁ => (I4, oI4) :: (C3, o₁) :: (D3, LCg.lst ys2) :: (I3, oI3) :: (tq2 ++ led)) := fun o₁ =>
                .tail p1 (.head fun p hp => by
                  rcases List.mem_cons.mp hp with rfl | hp
                  · exact Ne.symm p3
                  · exact (off26 p hp).2.1)
              refine asg_own F25 N25 (U25 oC4) hC25 rfl rfl ?_
              intro h27 oC27 F27 N27 hC27
              have hx1 : (fun z => if z = Str.ofString "high" then some (Value.int high th) else m₄ z) (Str.ofString "high") = some (Value.int high th) := if_pos rfl
              have hx2 : (fun z => if z = Str.ofString "high" then some (Value.int high th) else m₄ z) (Str.ofString "low") = some (Value.int low tl) := (if_neg (by decide)).trans hm4
              have d5 : (L' + 1, oW) ∈ tq2 ++ led := List.mem_append_right _ c5
              refine wpAny_tests_one ?_
              (try dsimp only)
              (repeat' (first | (k_unfold; (try dsimp only)) | (k_end; wrow_close) | ((fail_if_success (with_reducible (refine Mine.stop_here ?_ ?_; first | walk_at "s0" | exact Mine.p20 | exact Mine.p26 | exact Mine.p22 | exact Mine.p27))); walk1) | (dsimp only; (fail_if_success (with_reducible (refine Mine.stop_here ?_ ?_; first | walk_at "s0" | exact Mine.p20 | exact Mine.p26 | exact Mine.p22 | exact Mine.p27))); walk1) | (leave1; walk_say "STEP leave1"; try dsimp only) | walk_at "onk" | fail "no step"))
              rename_i T1 h28 F28 N28 l28
              have hwp : PairsAt h28 wv ws := hwv.at (h₀ := g') (L := L') (fun p hp => N28 p (.tail _ (.tail _ (.tail _ (.tail _ (.tail _ (List.mem_append_right _ (c8 p hp))))))))
              refine' pairs_notin (a := low) (b := high) (N28 _ (.head _)).1 (N28 (W, listOf wv.toArray n) (.tail _ (.tail _ (.tail _ (.tail _ (.tail _ (List.mem_append_right _ c4))))))).1 hwp ?b1 ?_
              (case b1 => k_units)
              have N29 : News g' L' h28 ((I4, oI4) :: (C3, oC27) :: (D3, LCg.lst ys2) :: (I3, oI3) :: (tq2 ++ led)) := fun p hp => N28 p (.tail _ hp)
              (try clear N28); (try clear N27); (try clear N25)
              cases hq : decide ((low, high) ∈ ws) with
              | true =>
                (repeat' (first | (k_unfold; (try dsimp only)) | (k_end; wrow_close) | ((fail_if_success (with_reducible (refine Mine.stop_here ?_ ?_; first | walk_at "s0" | exact Mine.p20 | exact Mine.p26 | exact Mine.p22 | exact Mine.p27))); walk1) | (dsimp only; (fail_if_success (with_reducible (refine Mine.stop_here ?_ ?_; first | walk_at "s0" | exact Mine.p20 | exact Mine.p26 | exact Mine.p22 | exact Mine.p27))); walk1) | (leave1; walk_say "STEP leave1"; try dsimp only) | walk_at "onk" | fail "no step"))
                exact ⟨_, _, oC27, _, _, rfl, F28, N29, hC27, off25, hx2, tq2, rfl, ltq2, by rw [etk2, extRow_snoc, if_pos (of_decide_eq_true hq), List.append_nil]; exact hys2⟩
              | false =>
                (repeat' (first | (k_unfold; (try dsimp only)) | (k_end; wrow_close) | ((fail_if_success (with_reducible (refine Mine.stop_here ?_ ?_; first | walk_at "s0" | exact Mine.p20 | exact Mine.p26 | exact Mine.p22 | exact Mine.p27))); walk1) | (dsimp only; (fail_if_success (with_reducible (refine Mine.stop_here ?_ ?_; first | walk_at "s0" | exact Mine.p20 | exact Mine.p26 | exact Mine.p22 | exact Mine.p27))); walk1) | (leave1; walk_say "STEP leave1"; try dsimp only) | walk_at "onk" | fail "no step"))
                rename_i T2 h30 F30 N30 l30
                have q1 : @LT.lt Nat _ I4 T2 := l30.1
                have q2 : @LT.lt Nat _ C3 T2 := l30.2.1
                have q3 : @LT.lt Nat _ D3 T2 := l30.2.2.1
                have q4 : @LT.lt Nat _ I3 T2 := l30.2.2.2.1
                refine ⟨_, _, oC27, _, (I3, oI3) :: ((T2, tup2 (.int low tl) (.int high th)) :: tq2 ++ led), rfl, F30, fun p hp => N30 p ?_, hC27, LCg.Off3.of (fun p hp => ?_), hx2, (T2, tup2 (.int low tl) (.int high th)) :: tq2, rfl, fun p hp => ?_, ?_⟩
                · refine led_go hp ?_
                  walk_at "led"
                · simp only [List.cons_append, List.mem_cons] at hp
                  rcases hp with rfl | rfl | hp
                  · exact off26 _ (.head _)
                  · exact ⟨Nat.ne_of_gt q1, Nat.ne_of_gt q2, Nat.ne_of_gt q3⟩
                  · exact off26 _ (.tail _ hp)
                · rcases List.mem_cons.mp hp with rfl | hp
                  · exact ⟨q3, Nat.ne_of_gt q4, Nat.ne_of_gt q2⟩
                  · exact ltq2 p hp
                · rw [etk2, extRow_snoc, if_neg (of_decide_eq_false hq), ← List.append_assoc]
                  exact (hys2.mono fun p hp => .tail _ hp).append (.cons (.head _) .nil)
            · rintro ys2 nw2 ⟨tq2, rfl, ltq2, hys2⟩
              refine ⟨tq2 ++ led, rfl, LCg.Off3.of (fun p hp => ?_), tq2, rfl, (fun p hp => (ltq2 p hp).1), ?_⟩
              · rcases List.mem_append.mp hp with h | h
                · exact ⟨(ltq2 p h).2.1, (ltq2 p h).2.2, Nat.ne_of_gt (ltq2 p h).1⟩
                · exact off9 p (List.mem_append_right _ h)
              · have ho : yO.toArray.size = (outOf ws mid).length := by simpa using hOl
                rw [ho, List.take_length] at hys2
                rw [etk, extOf_snoc]
                exact hys2
          · rintro h tk yE oC m₂ nw F8 N8 hC8 off8 hCD3 ⟨tq, rfl, ltq, hyE⟩
            have off9 := off8.mem
            have ei : yI.toArray.size = (intoOf ws mid).length := by simpa using hIl
            rw [ei, List.take_length] at hyE
            refine aend F8 N8 hC8 ?_ ?_
            · intro p hp
              rcases List.mem_cons.mp hp with rfl | hp
              · exact Ne.symm hCD3
              · exact (off9 p hp).2.1
            intro h30 F30 N30
            have w1 : @LT.lt Nat _ D2 D3 := lD3 _ (.head _)
            have y1 : @LT.lt Nat _ W D3 := lD3 _ (.tail _ (.tail _ (.tail _ (.head _))))
            have y2 : ∀ p ∈ tq, p.1 ≠ W := fun p hp => Nat.ne_of_gt (Nat.lt_trans y1 (ltq p hp))
            have y3 : @LT.lt Nat _ W D2 := Nat.lt_trans z2 x1
            have N31 : News g' L' h30 ((D3, listOf yE.toArray yE.length) :: (W, listOf wv.toArray n) :: (I, oI) :: (L' + 1, oW) :: (L' + 1 + 1, oM1) :: (L' + 1 + 1 + 1, oO1) :: (tq ++ tps)) := fun p hp => N30 p (by
              rw [hled]
              refine led_go hp ?_
              walk_at "led")
            (try clear off8); (try clear off9); (try clear F8); (try clear N8); (try clear hC8); (try clear src); (try clear lI3); (try clear lD3); (try clear N21); (try clear F21); (try clear oC); (try clear N30)
            (try dsimp only)
            (repeat' (first | (k_unfold; (try dsimp only)) | (k_end; wrow_close) | ((fail_if_success (with_reducible (refine Mine.stop_here ?_ ?_; first | walk_at "s0" | exact Mine.p20 | exact Mine.p26 | exact Mine.p22 | exact Mine.p27))); walk1) | (dsimp only; (fail_if_success (with_reducible (refine Mine.stop_here ?_ ?_; first | walk_at "s0" | exact Mine.p20 | exact Mine.p26 | exact Mine.p22 | exact Mine.p27))); walk1) | (leave1; walk_say "STEP leave1"; try dsimp only) | walk_at "onk" | fail "no step"))
            have hEl := hyE.length
            have hsum : wv.length + yE.length ≤ 461 := by
              have q := hwl2
              rw [List.length_append] at q
              lia
            refine' ext_list (its := wv.toArray) (its2 := yE.toArray) F30 N31 (.head _) ?b1 (.tail _ (.head _)) ?b2 ?_
            (case b1 =>
              refine .tail (Nat.ne_of_gt y1) (.head fun p hp => ?_)
              simp only [List.mem_cons, List.mem_append] at hp
              rcases hp with rfl | rfl | rfl | rfl | hp | hp
              · exact i1
              · exact Nat.ne_of_lt (Nat.lt_trans (by show @LT.lt Nat _ (L' + 1) (L' + 1 + 1 + 1); lia) lW2)
              · exact Nat.ne_of_lt (Nat.lt_trans (by show @LT.lt Nat _ (L' + 1 + 1) (L' + 1 + 1 + 1); lia) lW2)
              · exact Nat.ne_of_lt lW2
              · exact y2 p hp
              · exact t4 p hp)
            (case b2 => simp only [List.size_toArray]; lia)
            intro h32 n32 F32 N32
            (try dsimp only at N32)
            (try dsimp only)
            (repeat' (first | (k_unfold; (try dsimp only)) | (k_end; wrow_close) | ((fail_if_success (with_reducible (refine Mine.stop_here ?_ ?_; first | walk_at "s0" | exact Mine.p20 | exact Mine.p26 | exact Mine.p22 | exact Mine.p27))); walk1) | (dsimp only; (fail_if_success (with_reducible (refine Mine.stop_here ?_ ?_; first | walk_at "s0" | exact Mine.p20 | exact Mine.p26 | exact Mine.p22 | exact Mine.p27))); walk1) | (leave1; walk_say "STEP leave1"; try dsimp only) | walk_at "onk" | fail "no step"))
            have e32 : wv.toArray ++ yE.toArray = (wv ++ yE).toArray := by simp
            refine ⟨h32, _, _, (W, listOf (wv ++ yE).toArray n32) :: (L' + 1, oW) :: (L' + 1 + 1, oM1) :: (L' + 1 + 1 + 1, oO1) :: (tq ++ tps), rfl, F32, fun p hp => N32 p (by
              rw [e32]
              refine led_go hp ?_
              walk_at "led"), ?_, wv ++ yE, n32, oW, oM1, oO1, _, _, tq ++ tps, rfl, dW, dM1', dO1', ?_, ?_, ?_⟩
            · rintro p hp q hq
              have : p = (I, oI) := List.mem_singleton.mp hp
              subst this
              simp only [List.mem_cons, List.mem_append] at hq
              rcases hq with rfl | rfl | rfl | rfl | hq | hq
              · exact i1
              · exact i2
              · exact i3
              · exact i4
              · exact Nat.ne_of_lt (Nat.lt_trans z1 (Nat.lt_trans (Nat.lt_trans x1 (by exact w1)) (ltq q hq)))
              · exact Ne.symm (i5 q hq)
            · intro p hp
              rcases List.mem_append.mp hp with h | h
              · have l1 : @LT.lt Nat _ (L' + 1 + 1 + 1) p.1 := Nat.lt_trans lW2 (Nat.lt_trans y1 (ltq p h))
                have l2 : @LT.lt Nat _ (L' + 1 + 1) (L' + 1 + 1 + 1) := Nat.lt_succ_self _
                have l3 : @LT.lt Nat _ (L' + 1) (L' + 1 + 1 + 1) := Nat.lt_trans (Nat.lt_succ_self _) l2
                exact ⟨y2 p h, Nat.ne_of_gt (Nat.lt_trans l3 l1), Nat.ne_of_gt (Nat.lt_trans l2 l1), Nat.ne_of_gt l1⟩
              · exact ltp p h
            · have e : waysN ps (i + 1) = ws ++ extOf ws (intoOf ws mid) (outOf ws mid) := by rw [hws, hmid]; rfl
              rw [e]
              exact (hwv.mono fun p hp => List.mem_append_right _ hp).append (hyE.mono fun p hp => List.mem_append_left _ hp)
            · obtain ⟨tq0, e⟩ := hsuf
              exact ⟨tq ++ tq0, by rw [e, List.append_assoc]⟩
    · intro m' nw h2 tk2 ⟨wv, n, oW, oM, oO, vM, vO, tps, e, dW, dM, dO, ltp, hwv, hsuf⟩ F4 N4
      subst e
      have F4 : Fr g' L' h2 m' := F4
      have N4 : News g' L' h2 ((W, listOf wv.toArray n) :: (L' + 1, oW) :: (L' + 1 + 1, oM) :: (L' + 1 + 1 + 1, oO) :: tps) := N4
      (try clear F1); (try clear N1); (try clear F2); (try clear N2); (try clear F3); (try clear N3); (try clear F'); (try clear N')
      (repeat' (first | (k_unfold; (try dsimp only)) | (k_end; wrow_close) | ((fail_if_success (with_reducible (refine Mine.stop_here ?_ ?_; first | walk_at "s0" | exact Mine.p20 | exact Mine.p26 | exact Mine.p22 | exact Mine.p27))); walk1) | (dsimp only; (fail_if_success (with_reducible (refine Mine.stop_here ?_ ?_; first | walk_at "s0" | exact Mine.p20 | exact Mine.p26 | exact Mine.p22 | exact Mine.p27))); walk1) | (leave1; walk_say "STEP leave1"; try dsimp only) | walk_at "onk" | fail "no step"))
      refine' set_pairs (ps := waysN ps 5) rfl ?b1 F4 N4 ⟨_, (N4 _ (.head _)).1, rfl, _, rfl⟩ hwv (fun p hp => .tail _ (.tail _ (.tail _ (.tail _ hp)))) (fun p hp => low4_keys (Low4.all hr 5 p hp)) ?_
      (case b1 => k_units)
      intro D5 h5 tk5 oD Lm F5 N5 lD5 SP hz nd hl hm
      (repeat' (first | (k_unfold; (try dsimp only)) | (k_end; wrow_close) | ((fail_if_success (with_reducible (refine Mine.stop_here ?_ ?_; first | walk_at "s0" | exact Mine.p20 | exact Mine.p26 | exact Mine.p22 | exact Mine.p27))); walk1) | (dsimp only; (fail_if_success (with_reducible (refine Mine.stop_here ?_ ?_; first | walk_at "s0" | exact Mine.p20 | exact Mine.p26 | exact Mine.p22 | exact Mine.p27))); walk1) | (leave1; walk_say "STEP leave1"; try dsimp only) | walk_at "onk" | fail "no step"))
      refine sorted_set (oD := oD) rfl F5 N5 (.head _) SP hz (fun p hp => by obtain ⟨t, u, e⟩ := hl p hp; exact ⟨t, u, .inr (.tail _ (.tail _ (.tail _ (.tail _ (.tail _ e)))))⟩) ?_
      intro R h6 tk6 c6 M' F6 N6 lR pm pw
      (try dsimp only)
      (repeat' (first | (k_unfold; (try dsimp only)) | (k_end; wrow_close) | ((fail_if_success (with_reducible (refine Mine.stop_here ?_ ?_; first | walk_at "s0" | exact Mine.p20 | exact Mine.p26 | exact Mine.p22 | exact Mine.p27))); walk1) | (dsimp only; (fail_if_success (with_reducible (refine Mine.stop_here ?_ ?_; first | walk_at "s0" | exact Mine.p20 | exact Mine.p26 | exact Mine.p22 | exact Mine.p27))); walk1) | (leave1; walk_say "STEP leave1"; try dsimp only) | walk_at "onk" | fail "no step"))
      obtain ⟨tq, rfl⟩ := hsuf
      have hRR : ∀ p ∈ rest, g'.get? p.1 = some p.2 := fun p hp => kG' _ _ (N p (List.mem_append_right _ hp)).1 (by
        intro q; obtain ⟨z, hz, e⟩ := List.mem_map.mp q; exact hdis z hz _ hp e)
      refine ⟨g', L', _, (R, listOf (M'.map fun p => Value.ref p.1).toArray c6) :: (tq ++ tp0), KtsTurn.refl, F6, fun p hp => N6 p (by
        rcases List.mem_cons.mp hp with rfl | hp
        · exact .head _
        · exact .tail _ (.tail _ (.tail _ (.tail _ (.tail _ (.tail _ hp)))))), fun h₀' KT F N' B X T D => ?_⟩
      refine ret h₀' _ _ R c6 tq M' KT F B X T D (fun p hp => ?_) (fun p hp => ?_) (fun p hp => ?_) (fun p hp q hq e => ?_) (pairsN_mem fun p hp => hl p (pm.mem_iff.mp hp)) ((pm.map _).nodup_iff.mpr nd) pw (fun q => ((pm.map _).mem_iff).trans (hm q))
      · rcases List.mem_cons.mp hp with rfl | hp
        · exact N' _ (.head _)
        rcases List.mem_append.mp hp with hp | hp
        · exact N' p (.tail _ (List.mem_append_left _ hp))
        rcases List.mem_append.mp hp with hp | hp
        · exact N' p (.tail _ (List.mem_append_right _ hp))
        · exact ⟨F6.keep _ _ (hRR p hp), (N p (List.mem_append_right _ hp)).2.1, KT.none_ _ (N p (List.mem_append_right _ hp)).2.2⟩
      · rcases List.mem_append.mp hp with hp | hp
        · exact Nat.ne_of_lt (lR p (.tail _ (.tail _ (.tail _ (.tail _ (.tail _ (List.mem_append_right _ hp)))))))
        · intro q
          have := (N6 _ (.head _)).2.2
          rw [← q, hRR p hp] at this; cases this
      · exact Nat.ne_of_lt (lR p (.tail _ (.tail _ (.tail _ (.tail _ (.tail _ (List.mem_append_left _ hp)))))))
      · have := (N6 p (.tail _ (.tail _ (.tail _ (.tail _ (.tail _ (.tail _ (List.mem_append_left _ hp)))))))).2.2
        rw [e, hRR q hq] at this; cases this
  · rw [sizeLine_eq]; simp; lia
end
section
set_option maxHeartbeats 8000000
section
open LCg
variable {prog : Program} {w : World} {A : Around} {E : Value → Shared → Prop} {s : Shared} {env : Env} {h₀ : Heap} {m₀ : Str → Option Value} {news₀ : List (Addr × Obj)} {body : List Stmt} {Q : Flow → Shared → Prop}
theorem turns_enum {elts : List Expr} {k : Nat} {pos : Pos} {l : Addr} {vs : List Value} {nl : Nat} (J : Nat → (Str → Option Value) → List (Addr × Obj) → Prop) (hh : A.handled = none) (F : Fr h₀ env.locals s.heap m₀)
    (N : News h₀ env.locals s.heap news₀) (hJ : ∀ i m nw, J i m nw → (l, listOf vs.toArray nl) ∈ nw) (h0 : J 0 m₀ news₀)
    (step : ∀ i x T t m₁ news₁ h₁ tk₁ e oe I oI, vs[i]? = some x → J i m₁ news₁ → (∀ q ∈ news₁, e ≠ q.1 ∧ I ≠ q.1) → (@Ne Nat e I) → Fr h₀ env.locals h₁ m₁ → News h₀ env.locals h₁ ((e, oe) :: (I, oI) :: news₁) → IsTup h₁ T #[.int (i : Nat) t, x] →
      wpAny (model prog w) A (assign (.Tuple elts k pos) env (.ref T)) (fun _ s₃ => wpAny (model prog w) A (execs body env) (TurnEnd h₀ env.locals [(e, oe), (I, oI)] (J (i + 1)) { s with heap := h₁, toks := tk₁ } Q) E s₃) E { s with heap := h₁, toks := tk₁ })
    (done : ∀ m' news' h' tk, J vs.length m' news' → Fr h₀ env.locals h' m' → News h₀ env.locals h' news' → Q .next { s with heap := h', toks := tk }) :
    wpAny (model prog w) A (call (.type "enumerate") [.ref l]) (fun xv s₁ => wpAny (model prog w) A (pyIter xv) (fun it s₂ => TurnsAt prog w A h₀ env (.Tuple elts k pos) body Q E it s₂) E s₁) E s := by
  have hax := N _ (hJ _ _ _ h0)
  have hl : s.heap.IsList l vs.toArray := ⟨_, hax.1, rfl, nl, rfl⟩
  have hlt : l < s.heap.objs.size := Heap.lt_size hax.1
  have hLs : env.locals < s.heap.objs.size := F.ns.lt
  refine call_enumerate_list hl fun h' hE hI hsz hk => ?_
  refine wpAny_pyIter_enum hE ?_
  have W := KTurns.ofWalksU (elts := elts) (k := k) (pos := pos) (WalksT.enumerate (prog := prog) (w := w) hh (s.heap.objs.size + 1) s.heap.objs.size l (Nat.succ_ne_self _) (ktu_ne 1 hlt) (Nat.ne_of_lt hlt) vs.toArray).toU
  have nI : h₀.get? s.heap.objs.size = none := ktu_new F (Nat.le_refl _)
  have ne : h₀.get? (s.heap.objs.size + 1) = none := ktu_new F (Nat.le_add_right _ _)
  refine ⟨s.heap.objs.size + 1, _, _, vs.toArray.size, _, _, _, m₀, news₀, J, rfl, W, ?_, ?_, ?_, ?_, F.keeps hk, N.grown hk, h0, ?_, ?_⟩
  · intro hI'
    have hb' : env.locals = s.heap.objs.size + 1 ∨ env.locals = s.heap.objs.size ∨ env.locals = l := by simpa using hI'
    rcases hb' with e | e | e
    · exact ktu_ne 1 hLs e
    · exact Nat.ne_of_lt hLs e
    · exact hax.2.1 e.symm
  · intro b hb
    have hb' : b = s.heap.objs.size + 1 ∨ b = s.heap.objs.size := by simpa using hb
    rcases hb' with rfl | rfl
    · exact ne
    · exact nI
  · intro p hp hb
    have hp' := Heap.lt_size (N p hp).1
    have hb' : p.1 = s.heap.objs.size + 1 ∨ p.1 = s.heap.objs.size := by simpa using hb
    rcases hb' with e | e
    · exact ktu_ne 1 hp' e
    · exact Nat.ne_of_lt hp' e
  · exact ⟨⟨_, hE⟩, hI, hl.at fun o e => hk _ _ e⟩
  · rintro i v m₁ news₁ h₁ tk₁ own hi ⟨T, vals, rfl, ⟨t, x, hx, rfl⟩, hT⟩ hJ₁ hw ho1 ho2 ho3 st F₁ N₁
    obtain ⟨⟨old, he⟩, ⟨oi, hoi, hic, _⟩, _⟩ := st
    obtain ⟨oe, hoe⟩ : ∃ oe : Obj, h₁.get? (s.heap.objs.size + 1) = some oe := ⟨_, he⟩
    have m1 := ho3 (s.heap.objs.size + 1) (.head _) ne oe hoe
    have m2 := ho3 s.heap.objs.size (.tail _ (.head _)) nI oi hoi
    have eax : h₁.get? l = some (listOf vs.toArray nl) := (N₁ _ (List.mem_append_right _ (hJ _ _ _ hJ₁))).1
    have dis : ∀ q ∈ news₁, s.heap.objs.size + 1 ≠ q.1 ∧ s.heap.objs.size ≠ q.1 := fun q hq => ⟨fun e => hw q hq (by rw [← e]; exact .head _), fun e => hw q hq (by rw [← e]; exact .tail _ (.head _))⟩
    refine wpAny_mono (step i x T t m₁ news₁ h₁ tk₁ (s.heap.objs.size + 1) oe s.heap.objs.size oi (by simpa using hx) hJ₁ dis (Nat.succ_ne_self _) F₁ (fun p hp => N₁ p (by
      rcases List.mem_cons.mp hp with h | hp
      · subst h; exact List.mem_append_left _ m1
      rcases List.mem_cons.mp hp with h | hp
      · subst h; exact List.mem_append_left _ m2
      · exact List.mem_append_right _ hp)) hT) (fun _ s₃ h₃ => wpAny_mono h₃ (fun f s₄ h₄ => ?_) fun _ _ e => e) fun _ _ e => e
    have fin : ((Ex4 fun h' tk m' news' => Cj5 (s₄ = { { s with heap := h₁, toks := tk₁ } with heap := h', toks := tk }) (Fr h₀ env.locals h' m') (News h₀ env.locals h' ([(s.heap.objs.size + 1, oe), (s.heap.objs.size, oi)] ++ news')) ((∀ p ∈ [(s.heap.objs.size + 1, oe), (s.heap.objs.size, oi)], ∀ q ∈ news', p.1 ≠ q.1)) (J (i + 1) m' news'))) →
        LoopStepU h₀ env.locals [s.heap.objs.size + 1, s.heap.objs.size] own (J (i + 1)) { s with heap := h₁, toks := tk₁ } .next s₄ := by
      rintro ⟨h', tk, m', news', rfl, F', N', dis', hJ'⟩
      refine ⟨rfl, h', tk, m', news', rfl, F', fun p hp => ?_, fun p hp hI => ?_, hJ'⟩
      · rcases List.mem_append.mp hp with h | h
        · have e2 := ho2 p h
          have e := ho1 p h
          have e' : p.1 = s.heap.objs.size + 1 ∨ p.1 = s.heap.objs.size ∨ p.1 = l := by simpa using e
          obtain ⟨p1, p2⟩ := p
          dsimp only at e' e2
          rcases e' with rfl | rfl | rfl
          · rw [hoe] at e2; cases e2
            exact N' _ (.head _)
          · rw [hoi] at e2; cases e2
            exact N' _ (.tail _ (.head _))
          · rw [eax] at e2; cases e2
            exact N' _ (List.mem_append_right _ (hJ _ _ _ hJ'))
        · exact N' p (List.mem_append_right _ h)
      · have hb' : p.1 = s.heap.objs.size + 1 ∨ p.1 = s.heap.objs.size := by simpa using hI
        rcases hb' with e | e
        · exact dis' _ (.head _) p hp e.symm
        · exact dis' _ (.tail _ (.head _)) p hp e.symm
    cases f with
    | ret v => exact h₄
    | brk => exact h₄
    | next => exact fin h₄
    | cont => exact fin h₄
  · rintro h' tk m' news' F' N' _ hJ'
    exact done m' news' h' tk (by simpa using hJ') F' N'
end
end
section
set_option maxHeartbeats 8000000
local macro_rules | `(tactic| walk_at "eval Name") => `(tactic| first | walk_at "own" | walk_at "evE")
noncomputable def Small (xs : List Int) : Prop := ∀ x ∈ xs, 0 ≤ x ∧ x ≤ 4
theorem small_snoc {xs : List Int} (h : Small xs) (q : Int) : Small (xs ++ [q.fmod 5]) := by
  intro x hx
  rcases List.mem_append.mp hx with hx | hx
  · exact h x hx
  · rw [List.mem_singleton.mp hx]
    have h1 := Int.fmod_nonneg_of_pos q (b := 5) (by decide)
    have h2 := Int.fmod_lt_of_pos q (b := 5) (by decide)
    lia
theorem mm_ok (x y : Int) : (0 : Int) ≤ (if y.fmod 5 < x.fmod 5 then y.fmod 5 else x.fmod 5) ∧ (if y.fmod 5 < x.fmod 5 then y.fmod 5 else x.fmod 5) ≤ (if y.fmod 5 > x.fmod 5 then y.fmod 5 else x.fmod 5) ∧ (if y.fmod 5 > x.fmod 5 then y.fmod 5 else x.fmod 5) ≤ 4 := by
  have h1 := Int.fmod_nonneg_of_pos x (b := 5) (by decide)
  have h2 := Int.fmod_lt_of_pos x (b := 5) (by decide)
  have h3 := Int.fmod_nonneg_of_pos y (b := 5) (by decide)
  have h4 := Int.fmod_lt_of_pos y (b := 5) (by decide)
  refine ⟨?_, ?_, ?_⟩ <;> repeat' split
  all_goals lia
theorem news_rot {h₀ h : Heap} {L : Addr} {a b c d : Addr × Obj} {r : List (Addr × Obj)} (N : News h₀ L h (a :: b :: c :: d :: r)) : News h₀ L h (b :: c :: d :: a :: r) := fun p hp => N p (by
  refine led_go hp ?_
  walk_at "led")
theorem drawnT {w : World} {dp un : Nat} {gd : Option (List Code)} {cn : Str} {cs : Scope} {a : Addr} {ccd : Value} {cl : List (Str × Addr)} {outer : List Env} {A₀ : Around} {base h₀ : Heap} {L : Addr} {m mg mb : Str → Option Value} {mean : ExcName → Option Value} {s : Shared} {Q E : Value → Shared → Prop} {ls : Addr} {vs : List Value} {ns : List Int} {rest : List (Addr × Obj)}
    (B : Below A₀ base outer h₀) (F : Fr h₀ L s.heap m) (X : (Mine.hd.heap_1 w.params).In h₀) (T : TP mean mg mb h₀) (hk : cs.kind = .function) (hd : dp + 12 < recursionLimit) (hu : un + 96 < cLine)
    (N : News h₀ L s.heap rest) (hls : s.heap.IsList ls vs.toArray) (hi : IntsAre vs ns) (hlen : ns.length ≤ 63)
    (ret : ∀ h' tk' R P fA sA np n2 n3 pv xv yv xs ys tp (ps : List (Int × Int)), Fr h₀ L h' m →
      News h₀ L h' ((R, ({ cls := .type "tuple", data := .seq #[.ref P, .ref fA, .ref sA] } : Obj)) :: (P, listOf pv.toArray np) :: (fA, listOf xv.toArray n2) :: (sA, listOf yv.toArray n3) :: (tp ++ rest)) →
      (@Ne Nat P fA ∧ @Ne Nat P sA ∧ @Ne Nat fA sA) → (∀ p ∈ tp, p.1 ≠ P ∧ p.1 ≠ fA ∧ p.1 ≠ sA) → (∀ q ∈ rest, q.1 ≠ P ∧ q.1 ≠ fA ∧ q.1 ≠ sA ∧ ∀ p ∈ tp, p.1 ≠ q.1) → PairsN tp pv ps → (∀ p ∈ ps, 0 ≤ p.1 ∧ p.1 < p.2 ∧ p.2 ≤ 4) → ps.length ≤ 5 →
      IntsAre xv xs → IntsAre yv ys → Small xs → Small ys → xs.length ≤ 62 → ys.length ≤ 63 → Q (.ref R) { s with heap := h', toks := tk' }) :
    wpAny (model PG w) (ktrTop dp un gd cn cs L a ccd cl outer) (call (.ref 160) [.ref ls]) Q E s := by
  have N0 : News h₀ L s.heap [] := fun p hp => nomatch hp
  refine wpAny_call ?_
  k_dflt (refine' code_defG ?k1 ?k2 ?k3 ?k4 ?k5 ?kA ?kF ?kK ?k6 ?k7 ?k8 ?k9 ?kB ?_ ?c2 ?c3 ?c4 ?c5; (case kA => exact rfl); (case kF => exact rfl); (case kK => assumption); (case k1 => k_asm); (case k2 => k_asm); (case k3 => k_asm); (case k4 => exact N0); (case k5 => k_asm); (case k6 => k_is); (case k7 => k_is); (case k8 => ktr_room); (case k9 => exact BindsTo.of_eq rfl); (case c5 => decide); (case kB => exact locs rfl); (case c2 => exact rfl); (case c3 => exact rfl); (case c4 => exact rfl); k_whole; intro g' L' h' FG' F' N' B' X' T' kG'; (try dsimp only); (try k_fold))
  have hls1 : g'.IsList ls vs.toArray := by obtain ⟨o, e, r⟩ := hls; exact ⟨o, kG' _ _ e (by simp), r⟩
  (repeat' (first | (k_unfold; (try dsimp only)) | (k_end; wrow_close) | ((fail_if_success (with_reducible (refine Mine.stop_here ?_ ?_; first | walk_at "s0" | exact Mine.p20))); walk1) | (dsimp only; (fail_if_success (with_reducible (refine Mine.stop_here ?_ ?_; first | walk_at "s0" | exact Mine.p20))); walk1) | (leave1; walk_say "STEP leave1"; try dsimp only) | walk_at "onk" | fail "no step"))
  rename_i cA _ _ _ _ fA _ l1 _ _ sA _ l2 _ F1 N1
  refine For_turns F1 ?_
  (repeat' (first | (k_unfold; (try dsimp only)) | (k_end; wrow_close) | ((fail_if_success (with_reducible (refine Mine.stop_here ?_ ?_; first | walk_at "s0" | exact Mine.p20))); walk1) | (dsimp only; (fail_if_success (with_reducible (refine Mine.stop_here ?_ ?_; first | walk_at "s0" | exact Mine.p20))); walk1) | (leave1; walk_say "STEP leave1"; try dsimp only) | walk_at "onk" | fail "no step"))
  rename_i SL sv _ F2 N2 hsv hC60 hL60 l3
  have l5 : (List.take 60 ns).length ≤ 60 := by rw [hC60]; exact Nat.min_le_left _ _
  have lv := hsv.length
  have o1 : @LT.lt Nat _ cA fA := l1
  have o2 : @LT.lt Nat _ fA sA := l2.1
  have o3 : @LT.lt Nat _ sA SL := l3.1
  have tst := hsv
  refine turns_enum (vs := sv) (nl := 0) (fun i m₁ nw => (Ex9 fun cv xv yv n1 n2 n3 ks xs ys => Cj12 (nw = [(SL, listOf sv.toArray 0), (sA, listOf yv.toArray n3), (fA, listOf xv.toArray n2), (cA, listOf cv.toArray n1)]) (IntsAre cv ks) (ks.length = 5) (IntsAre xv xs) (IntsAre yv ys) (Small xs) (Small ys) (xs.length ≤ 2 + i) (ys.length ≤ 3 + i) (m₁ (Str.ofString "cells") = some (.ref cA)) (m₁ (Str.ofString "first") = some (.ref fA)) (m₁ (Str.ofString "second") = some (.ref sA)))) rfl F2 N2 ?_ ?_ ?_ ?_
  · rintro i m₁ nw ⟨cv, xv, yv, n1, n2, n3, cs, xs, ys, rfl, _⟩
    exact .head _
  · exact ⟨_, _, _, _, _, _, [16, 10, 23, 5, 22], [3, 1], [3, 3, 0], rfl, .cons _ _ (.cons _ _ (.cons _ _ (.cons _ _ (.cons _ _ .nil)))), rfl, .cons _ _ (.cons _ _ .nil), .cons _ _ (.cons _ _ (.cons _ _ .nil)), (fun x hx => by simp at hx; lia), (fun x hx => by simp at hx; lia), Nat.le_refl _, Nat.le_refl _, (if_neg (by decide)).trans ((if_neg (by decide)).trans (if_pos rfl)), (if_neg (by decide)).trans (if_pos rfl), if_pos rfl⟩
  · rintro i x T5 t m₁ nw h₁ tk₁ e oe I oI hx ⟨cv, xv, yv, n1, n2, n3, cs, xs, ys, rfl, hcv, hcl, hxv, hyv, sx, sy, lx, ly, m1, m2, m3⟩ hne heI F3 N3 hT
    have F3 : Fr g' L' h₁ m₁ := F3
    have N3 : News g' L' h₁ ((e, oe) :: (I, oI) :: (SL, listOf sv.toArray 0) :: (sA, listOf yv.toArray n3) :: (fA, listOf xv.toArray n2) :: (cA, listOf cv.toArray n1) :: []) := N3
    have hi60 : i < (List.take 60 ns).length := by
      obtain ⟨q, _⟩ := List.getElem?_eq_some_iff.mp hx
      lia
    obtain ⟨tx, rfl⟩ : ∃ tx, x = .int (List.take 60 ns)[i] tx := by
      obtain ⟨tv, e⟩ := hsv.get i _ (List.getElem?_eq_getElem hi60)
      rw [e] at hx; cases hx; exact ⟨tv, rfl⟩
    obtain ⟨x, hxx⟩ : ∃ x, x = (List.take 60 ns)[i] := ⟨_, rfl⟩
    rw [← hxx] at hT
    have e1 : @Ne Nat e SL := (hne _ (.head _)).1
    have e2 : @Ne Nat e sA := (hne _ (.tail _ (.head _))).1
    have e3 : @Ne Nat e fA := (hne _ (.tail _ (.tail _ (.head _)))).1
    have e4 : @Ne Nat e cA := (hne _ (.tail _ (.tail _ (.tail _ (.head _))))).1
    have i1 : @Ne Nat I SL := (hne _ (.head _)).2
    have i2 : @Ne Nat I sA := (hne _ (.tail _ (.head _))).2
    have i3 : @Ne Nat I fA := (hne _ (.tail _ (.tail _ (.head _)))).2
    have i4 : @Ne Nat I cA := (hne _ (.tail _ (.tail _ (.tail _ (.head _))))).2
    (try clear F1); (try clear N1); (try clear F2); (try clear N2)
    refine unpackN_ F3 N3 hT rfl (by with_unfolding_all rfl) (by with_unfolding_all rfl) ?_
    intro h6 F6 N6
    (try clear F3); (try clear N3)
    have mm : ∀ y v, m₁ y = some v → (y == Str.ofString "x") = false → (y == Str.ofString "k") = false → (fun y => if y = Str.ofString "x" then some (Value.int x tx) else if y = Str.ofString "k" then some (Value.int (i : Nat) t) else m₁ y) y = some v := fun y v e a b => (if_neg (by simpa using a)).trans ((if_neg (by simpa using b)).trans e)
    have mm1 := mm _ _ m1 (by decide) (by decide)
    have mm2 := mm _ _ m2 (by decide) (by decide)
    have mm3 := mm _ _ m3 (by decide) (by decide)
    clear mm
    have hcvl := hcv.length
    have hxl : xv.length ≤ 900 := by have := hxv.length; lia
    have hyl : yv.length ≤ 900 := by have := hyv.length; lia
    have dis : ∀ (yo xo co : Obj), ∀ p ∈ [(e, oe), (I, oI)], ∀ q ∈ [(SL, listOf sv.toArray 0), (sA, yo), (fA, xo), (cA, co)], p.1 ≠ q.1 := fun yo xo co p hp q hq => by
      simp only [List.mem_cons, List.not_mem_nil, or_false] at hp hq
      rcases hp with rfl | rfl <;> rcases hq with rfl | rfl | rfl | rfl <;> assumption
    refine wpAny_assignInOrder_more ?_
    (repeat' (first | (k_unfold; (try dsimp only)) | (k_end; wrow_close) | ((fail_if_success (with_reducible (refine Mine.stop_here ?_ ?_; first | walk_at "s0" | exact Mine.p20))); walk1) | (dsimp only; (fail_if_success (with_reducible (refine Mine.stop_here ?_ ?_; first | walk_at "s0" | exact Mine.p20))); walk1) | (leave1; walk_say "STEP leave1"; try dsimp only) | walk_at "onk" | fail "no step"))
    all_goals (rename Fr g' L' _ _ => F9; rename News g' L' _ _ => N9; (try simp only [List.push_toArray] at N9))
    · exact ⟨_, _, _, _, rfl, F9, fun p hp => N9 p (.tail _ (.tail _ hp)), dis _ _ _, _, _, _, _, _, _, _, _, _, rfl, by assumption, by simp only [List.length_set]; exact hcl, hxv.append (.cons _ _ .nil), hyv.append (.cons _ _ .nil), small_snoc sx _, small_snoc sy _, by rw [List.length_append]; show _ + 1 ≤ _; lia, by rw [List.length_append]; show _ + 1 ≤ _; lia, mm1, mm2, mm3⟩
    · exact ⟨_, _, _, _, rfl, F9, fun p hp => N9 p (.tail _ (.tail _ hp)), dis _ _ _, _, _, _, _, _, _, _, _, _, rfl, by assumption, by simp only [List.length_set]; exact hcl, hxv.append (.cons _ _ .nil), hyv, small_snoc sx _, sy, by rw [List.length_append]; show _ + 1 ≤ _; lia, by lia, mm1, mm2, mm3⟩
    · exact ⟨_, _, _, _, rfl, F9, fun p hp => N9 p (.tail _ (.tail _ hp)), dis _ _ _, _, _, _, _, _, _, _, _, _, rfl, by assumption, by simp only [List.length_set]; exact hcl, hxv, hyv.append (.cons _ _ .nil), sx, small_snoc sy _, by lia, by rw [List.length_append]; show _ + 1 ≤ _; lia, mm1, mm2, mm3⟩
    · exact ⟨_, _, _, _, rfl, F9, fun p hp => N9 p (.tail _ (.tail _ hp)), dis _ _ _, _, _, _, _, _, _, _, _, _, rfl, by assumption, by simp only [List.length_set]; exact hcl, hxv, hyv, sx, sy, by lia, by lia, mm1, mm2, mm3⟩
  · intro m2 nw h9 tk9 ⟨cv, xv, yv, n1, n2, n3, ks, xs, ys, e, hcv, hcl, hxv, hyv, sx, sy, lx, ly, m1, m2', m3⟩ F9 N9
    subst e
    have F9 : Fr g' L' h9 m2 := F9
    have N9 : News g' L' h9 ((SL, listOf sv.toArray 0) :: (sA, listOf yv.toArray n3) :: (fA, listOf xv.toArray n2) :: (cA, listOf cv.toArray n1) :: []) := N9
    (try clear F1); (try clear N1); (try clear F2); (try clear N2)
    (repeat' (first | (k_unfold; (try dsimp only)) | (k_end; wrow_close) | ((fail_if_success (with_reducible (refine Mine.stop_here ?_ ?_; first | walk_at "s0" | exact Mine.p20))); walk1) | (dsimp only; (fail_if_success (with_reducible (refine Mine.stop_here ?_ ?_; first | walk_at "s0" | exact Mine.p20))); walk1) | (leave1; walk_say "STEP leave1"; try dsimp only) | walk_at "onk" | fail "no step"))
    have hcvl := hcv.length
    obtain ⟨led, hled⟩ : ∃ led, led = (SL, listOf sv.toArray 0) :: (sA, listOf yv.toArray n3) :: (fA, listOf xv.toArray n2) :: (cA, listOf cv.toArray n1) :: [] := ⟨_, rfl⟩
    refine comp_asg (F₀ := F9) (by with_unfolding_all rfl) (by with_unfolding_all rfl) rfl (by decide) ?_
    (repeat' (first | (k_unfold; (try dsimp only)) | (k_end; wrow_close) | ((fail_if_success (with_reducible (refine Mine.stop_here ?_ ?_; first | walk_at "s0" | exact Mine.p20))); walk1) | (dsimp only; (fail_if_success (with_reducible (refine Mine.stop_here ?_ ?_; first | walk_at "s0" | exact Mine.p20))); walk1) | (leave1; walk_say "STEP leave1"; try dsimp only) | walk_at "onk" | fail "no step"))
    refine src_list (its := cv.toArray) rfl F9 N9 (.tail _ (.tail _ (.tail _ (.head _)))) (by rw [sizeLine_eq]; simp; lia) ?_
    intro I h10 src lI
    refine ⟨I, _, _, _, _, rfl, src, ?_⟩
    rintro D C s₃ ⟨h11, rfl⟩ lD hDC
    have c4 : (cA, listOf cv.toArray n1) ∈ led := by rw [hled]; exact .tail _ (.tail _ (.tail _ (.head _)))
    refine ⟨fun j ys nw => (Ex2 fun tq qs => Cj5 (nw = tq ++ led) ((∀ p ∈ tq, @LT.lt Nat _ D p.1)) (PairsN tq ys qs) ((∀ p ∈ qs, (0 : Int) ≤ p.1 ∧ p.1 ≤ p.2 ∧ p.2 ≤ 4)) (qs.length = j)), ?_, ⟨[], [], hled.symm, (fun p hp => nomatch hp), .nil, (fun p hp => nomatch hp), rfl⟩, ?_, ?_⟩
    · rintro j ys nw ⟨tq, qs, rfl, _⟩
      exact .inr ⟨_, List.mem_append_right _ c4, rfl, _, rfl⟩
    · rintro j v h tk oI oC m₂ zs nw hj hv F8 N8 hC8 off8 ⟨p1, p2, p3⟩ ⟨tq, qs, rfl, ltq, hzs, hq, hql⟩
      have hjk : j < ks.length := by simp at hj; lia
      obtain ⟨tv, rfl⟩ : ∃ tv, v = .int ks[j] tv := by
        obtain ⟨tv, e⟩ := hcv.get j _ (List.getElem?_eq_getElem hjk)
        have hv' : cv[j]? = some v := by simpa using hv
        rw [e] at hv'; cases hv'; exact ⟨tv, rfl⟩
      obtain ⟨z, hz⟩ : ∃ z, z = ks[j] := ⟨_, rfl⟩
      rw [← hz]
      have off9 := off8.mem
      have U8 : ∀ o₁, UpdF C o₁ ((I, oI) :: (C, o₁) :: (D, LCg.lst zs) :: (tq ++ led)) (fun o₁ => (I, oI) :: (C, o₁) :: (D, LCg.lst zs) :: (tq ++ led)) := fun o₁ =>
        .tail p1 (.head fun p hp => by
          rcases List.mem_cons.mp hp with rfl | hp
          · exact Ne.symm p3
          · exact (off9 p hp).2.1)
      refine asg_own F8 N8 (U8 oC) hC8 rfl rfl ?_
      intro h12 oC12 F12 N12 hC12
      have hx1 : (fun y => if y = Str.ofString "cell" then some (Value.int z tv) else m₂ y) (Str.ofString "cell") = some (Value.int z tv) := if_pos rfl
      refine wpAny_tests_nil ?_
      (try dsimp only)
      (repeat' (first | (k_unfold; (try dsimp only)) | (k_end; wrow_close) | ((fail_if_success (with_reducible (refine Mine.stop_here ?_ ?_; first | walk_at "s0" | exact Mine.p20))); walk1) | (dsimp only; (fail_if_success (with_reducible (refine Mine.stop_here ?_ ?_; first | walk_at "s0" | exact Mine.p20))); walk1) | (leave1; walk_say "STEP leave1"; try dsimp only) | walk_at "onk" | fail "no step"))
      rename_i T1 h13 F13 N13 l13
      refine ⟨_, _, oC12, _, _, rfl, F13, news_rot N13, hC12, LCg.Off3.of (fun p hp => ?_), (T1, _) :: tq, qs ++ [(_, _)], rfl, fun p hp => ?_, (hzs.mono fun p hp => .tail _ hp).append (.cons (.head _) .nil), fun p hp => ?_, by rw [List.length_append, hql]; rfl⟩
      · rcases List.mem_cons.mp hp with rfl | hp
        · exact ⟨Nat.ne_of_gt l13.1, Nat.ne_of_gt l13.2.1, Nat.ne_of_gt l13.2.2.1⟩
        · exact off9 p hp
      · rcases List.mem_cons.mp hp with rfl | hp
        · exact l13.2.2.1
        · exact ltq p hp
      · rcases List.mem_append.mp hp with hp | hp
        · exact hq p hp
        · rw [List.mem_singleton.mp hp]
          exact mm_ok z (z.fdiv 5)
    · rintro h tk yP oC m₂ nw F8 N8 hC8 off8 hCD ⟨tq, qs, rfl, ltq, hyP, hq, hql⟩
      have off9 := off8.mem
      have ekl : cv.toArray.size = 5 := by rw [List.size_toArray]; lia
      rw [ekl] at hql
      (try dsimp only)
      refine wpAny_mono (Q := fun _ s'' => Held _) ?_ (fun _ _ x => x.out) (fun _ _ e => e)
      (repeat' (first | (k_unfold; (try dsimp only)) | (k_end; wrow_close) | ((fail_if_success (with_reducible (refine Mine.stop_here ?_ ?_; first | walk_at "s0" | exact Mine.p20))); walk1) | (dsimp only; (fail_if_success (with_reducible (refine Mine.stop_here ?_ ?_; first | walk_at "s0" | exact Mine.p20))); walk1) | (leave1; walk_say "STEP leave1"; try dsimp only) | walk_at "onk" | fail "no step"))
      rename Fr g' L' _ _ => F9
      rename News g' L' _ _ => N9
      refine ⟨aend F9 N9 hC8 ?_ ?_⟩
      · intro p hp
        rcases List.mem_cons.mp hp with rfl | hp
        · exact Ne.symm hCD
        · exact (off9 p hp).2.1
      intro h20 F20 N20
      have dfA : @LT.lt Nat _ fA D := lD _ (.tail _ (.tail _ (.head _)))
      have dsA : @LT.lt Nat _ sA D := lD _ (.tail _ (.head _))
      have N21 : News g' L' h20 ((D, listOf yP.toArray yP.length) :: (fA, listOf xv.toArray n2) :: (sA, listOf yv.toArray n3) :: tq) := fun p hp => N20 p (by
        rw [hled]
        refine led_go hp ?_
        walk_at "led")
      (try clear off8); (try clear off9); (try clear F8); (try clear N8); (try clear hC8); (try clear src); (try clear lI); (try clear lD); (try clear F9); (try clear N9); (try clear oC); (try clear N20)
      have mm2 : (fun y => if y = Str.ofString "pairs" then some (Value.ref D) else m2 y) (Str.ofString "first") = some (.ref fA) := (if_neg (by decide)).trans m2'
      have mm3 : (fun y => if y = Str.ofString "pairs" then some (Value.ref D) else m2 y) (Str.ofString "second") = some (.ref sA) := (if_neg (by decide)).trans m3
      have mm4 : (fun y => if y = Str.ofString "pairs" then some (Value.ref D) else m2 y) (Str.ofString "pairs") = some (.ref D) := if_pos rfl
      (try dsimp only)
      (repeat' (first | (k_unfold; (try dsimp only)) | (k_end; wrow_close) | ((fail_if_success (with_reducible (refine Mine.stop_here ?_ ?_; first | walk_at "s0" | exact Mine.p20))); walk1) | (dsimp only; (fail_if_success (with_reducible (refine Mine.stop_here ?_ ?_; first | walk_at "s0" | exact Mine.p20))); walk1) | (leave1; walk_say "STEP leave1"; try dsimp only) | walk_at "onk" | fail "no step"))
      refine comp_eval (F₀ := F20) (by with_unfolding_all rfl) rfl (by decide) ?_
      (repeat' (first | (k_unfold; (try dsimp only)) | (k_end; wrow_close) | ((fail_if_success (with_reducible (refine Mine.stop_here ?_ ?_; first | walk_at "s0" | exact Mine.p20))); walk1) | (dsimp only; (fail_if_success (with_reducible (refine Mine.stop_here ?_ ?_; first | walk_at "s0" | exact Mine.p20))); walk1) | (leave1; walk_say "STEP leave1"; try dsimp only) | walk_at "onk" | fail "no step"))
      obtain ⟨led2, hled2⟩ : ∃ led2, led2 = (D, listOf yP.toArray yP.length) :: (fA, listOf xv.toArray n2) :: (sA, listOf yv.toArray n3) :: tq := ⟨_, rfl⟩
      have hPl := hyP.length
      refine src_list (its := yP.toArray) rfl F20 N21 (.head _) (by rw [sizeLine_eq]; simp; lia) ?_
      intro I2 h22 src lI2
      refine ⟨I2, _, _, _, _, rfl, src, ?_⟩
      rintro D2 C2 s₃ ⟨h23, rfl⟩ lD2 hDC2
      have c1 : (D, listOf yP.toArray yP.length) ∈ led2 := by rw [hled2]; exact .head _
      have c2 : ∀ p ∈ tq, p ∈ led2 := fun p hp => by rw [hled2]; exact .tail _ (.tail _ (.tail _ hp))
      refine ⟨fun j ys nw => ∃ tq2, nw = tq2 ++ led2 ∧ (∀ p ∈ tq2, @LT.lt Nat _ D2 p.1) ∧ PairsN tq2 ys ((qs.take j).filter fun p => decide (p.1 ≠ p.2)), ?_, ⟨[], hled2.symm, (fun p hp => nomatch hp), .nil⟩, ?_, ?_⟩
      · rintro j ys nw ⟨tq2, rfl, _⟩
        exact .inr ⟨_, List.mem_append_right _ c1, rfl, _, rfl⟩
      · rintro j v h tk oI oC m₂ zs nw hj hv F8 N8 hC8 off8 ⟨p1, p2, p3⟩ ⟨tq2, rfl, ltq2, hzs⟩
        have hjq : j < qs.length := by simp at hj; lia
        have hv' : yP[j]? = some v := by simpa using hv
        have hpa : PairsAt h yP qs := hyP.at (h₀ := g') (L := L') (fun p hp => N8 p (.tail _ (.tail _ (.tail _ (List.mem_append_right _ (c2 p hp))))))
        obtain ⟨T, ta, tb, e1, e2⟩ := hpa.get j hjq
        rw [hv'] at e1
        cases e1
        have etk : qs.take (j + 1) = qs.take j ++ [qs[j]] := by rw [List.take_succ, List.getElem?_eq_getElem hjq]; rfl
        have off9 := off8.mem
        have U8 : ∀ o₁, UpdF C2 o₁ ((I2, oI) :: (C2, o₁) :: (D2, LCg.lst zs) :: (tq2 ++ led2)) (fun o₁ => (I2, oI) :: (C2, o₁) :: (D2, LCg.lst zs) :: (tq2 ++ led2)) := fun o₁ =>
          .tail p1 (.head fun p hp => by
            rcases List.mem_cons.mp hp with rfl | hp
            · exact Ne.symm p3
            · exact (off9 p hp).2.1)
        refine pair_own rfl F8 N8 (U8 oC) U8 ⟨_, e2, rfl, _, rfl⟩ hC8 rfl rfl rfl ?_
        intro h9 oC9 tk9 F9 N9 hC9
        have hx1 : (fun z => if z = Str.ofString "high" then some (Value.int qs[j].2 tb) else if z = Str.ofString "low" then some (Value.int qs[j].1 ta) else m₂ z) (Str.ofString "high") = some (Value.int qs[j].2 tb) := if_pos rfl
        have hx2 : (fun z => if z = Str.ofString "high" then some (Value.int qs[j].2 tb) else if z = Str.ofString "low" then some (Value.int qs[j].1 ta) else m₂ z) (Str.ofString "low") = some (Value.int qs[j].1 ta) := (if_neg (by decide)).trans (if_pos rfl)
        refine wpAny_tests_one ?_
        (try dsimp only)
        (repeat' (first | (k_unfold; (try dsimp only)) | (k_end; wrow_close) | ((fail_if_success (with_reducible (refine Mine.stop_here ?_ ?_; first | walk_at "s0" | exact Mine.p20))); walk1) | (dsimp only; (fail_if_success (with_reducible (refine Mine.stop_here ?_ ?_; first | walk_at "s0" | exact Mine.p20))); walk1) | (leave1; walk_say "STEP leave1"; try dsimp only) | walk_at "onk" | fail "no step"))
        · rename qs[j].1 ≠ qs[j].2 => hz
          rename_i T2 h13 F13 N13 l13
          refine ⟨_, _, oC9, _, _, rfl, F13, news_rot N13, hC9, LCg.Off3.of (fun p hp => ?_), (T2, _) :: tq2, rfl, fun p hp => ?_, ?_⟩
          · rcases List.mem_cons.mp hp with rfl | hp
            · exact ⟨Nat.ne_of_gt l13.1, Nat.ne_of_gt l13.2.1, Nat.ne_of_gt l13.2.2.1⟩
            · exact off9 p hp
          · rcases List.mem_cons.mp hp with rfl | hp
            · exact l13.2.2.1
            · exact ltq2 p hp
          · rw [etk, List.filter_append, List.filter_cons, if_pos (decide_eq_true hz), List.filter_nil]
            exact (hzs.mono fun p hp => .tail _ hp).append (.cons (.head _) .nil)
        · rename qs[j].1 = qs[j].2 => hz
          exact ⟨h9, _, oC9, _, _, rfl, F9, N9, hC9, off8, tq2, rfl, ltq2, by rw [etk, List.filter_append, List.filter_cons, if_neg (by simpa using hz), List.filter_nil, List.append_nil]; exact hzs⟩
      · rintro h tk yF oC m₂ nw F8 N8 hC8 off8 hCD2 ⟨tq2, rfl, ltq2, hyF⟩
        have off9 := off8.mem
        have eq5 : yP.toArray.size = qs.length := by rw [List.size_toArray]; exact hPl
        rw [eq5, List.take_length] at hyF
        refine aend F8 N8 hC8 ?_ ?_
        · intro p hp
          rcases List.mem_cons.mp hp with rfl | hp
          · exact Ne.symm hCD2
          · exact (off9 p hp).2.1
        intro h30 F30 N30
        have y1 : @LT.lt Nat _ fA D2 := lD2 _ (.tail _ (.head _))
        have y2 : @LT.lt Nat _ sA D2 := lD2 _ (.tail _ (.tail _ (.head _)))
        have N31 : News g' L' h30 ((D2, listOf yF.toArray yF.length) :: (fA, listOf xv.toArray n2) :: (sA, listOf yv.toArray n3) :: tq2) := fun p hp => N30 p (by
          rw [hled2]
          refine led_go hp ?_
          walk_at "led")
        (try clear off8); (try clear off9); (try clear F8); (try clear N8); (try clear hC8); (try clear src); (try clear lI2); (try clear lD2); (try clear N21); (try clear F20); (try clear oC); (try clear N30)
        (try dsimp only)
        (repeat' (first | (k_unfold; (try dsimp only)) | (k_end; wrow_close) | ((fail_if_success (with_reducible (refine Mine.stop_here ?_ ?_; first | walk_at "s0" | exact Mine.p20))); walk1) | (dsimp only; (fail_if_success (with_reducible (refine Mine.stop_here ?_ ?_; first | walk_at "s0" | exact Mine.p20))); walk1) | (leave1; walk_say "STEP leave1"; try dsimp only) | walk_at "onk" | fail "no step"))
        rename_i T3 h33 F33 N33 l33 kF kN Tc kX
        have hRR : ∀ p ∈ rest, g'.get? p.1 = some p.2 := fun p hp => kG' _ _ (N p hp).1 (by simp)
        have apart : ∀ q ∈ rest, ∀ p : Addr × Obj, g'.get? p.1 = none → p.1 ≠ q.1 := fun q hq p hp e => by
          rw [e, hRR q hq] at hp; cases hp
        refine ret _ _ T3 D2 fA sA yF.length n2 n3 yF xv yv xs ys tq2 _ kF (fun p hp => ?_) ⟨Nat.ne_of_gt y1, Nat.ne_of_gt y2, Nat.ne_of_lt o2⟩ (fun p hp => ⟨Nat.ne_of_gt (ltq2 p hp), Nat.ne_of_gt (Nat.lt_trans y1 (ltq2 p hp)), Nat.ne_of_gt (Nat.lt_trans y2 (ltq2 p hp))⟩) (fun q hq' => ?_) hyF (fun p hp => ?_) ?_ hxv hyv sx sy (by lia) (by lia)
        · rcases List.mem_cons.mp hp with rfl | hp
          · exact kN _ (.head _)
          rcases List.mem_cons.mp hp with rfl | hp
          · exact kN _ (.tail _ (.head _))
          rcases List.mem_cons.mp hp with rfl | hp
          · exact kN _ (.tail _ (.tail _ (.head _)))
          rcases List.mem_cons.mp hp with rfl | hp
          · exact kN _ (.tail _ (.tail _ (.tail _ (.head _))))
          rcases List.mem_append.mp hp with hp | hp
          · exact kN p (.tail _ (.tail _ (.tail _ (.tail _ hp))))
          · exact ⟨F33.keep _ _ (hRR p hp), (N p hp).2⟩
        · have z1 := apart q hq' _ (N33 (D2, listOf yF.toArray yF.length) (.tail _ (.head _))).2.2
          have z2 := apart q hq' _ (N33 (fA, listOf xv.toArray n2) (.tail _ (.tail _ (.head _)))).2.2
          have z3 := apart q hq' _ (N33 (sA, listOf yv.toArray n3) (.tail _ (.tail _ (.tail _ (.head _))))).2.2
          exact ⟨Ne.symm z1, Ne.symm z2, Ne.symm z3, fun p hp => apart q hq' _ (N33 p (.tail _ (.tail _ (.tail _ (.tail _ hp))))).2.2⟩
        · obtain ⟨h1, h2⟩ := List.mem_filter.mp hp
          have := hq p h1
          have h3 : p.1 ≠ p.2 := by simpa using h2
          lia
        · have := List.length_filter_le (fun p => decide (p.1 ≠ p.2)) qs
          lia
end
section
set_option maxHeartbeats 8000000
noncomputable def Off (as : List Addr) (tl : List (Addr × Obj)) : Prop := ∀ p ∈ tl, ∀ a ∈ as, p.1 ≠ a
noncomputable def placesOf (R : List Int) : List Int := rng5.map fun t => (R.idxOf t : Int)
inductive RowsN (ps : List (Int × Int)) (tl : List (Addr × Obj)) : Int → List Value → List (List Int) → Prop
  | nil (k : Int) : RowsN ps tl k [] []
  | cons {k : Int} {D : Addr} {pv : List Value} {n : Nat} {R : List Int} {vs : List Value} {ls : List (List Int)} : (D, listOf pv.toArray n) ∈ tl → IntsAre pv (placesOf R) → RowSpec ps k R → RowsN ps tl (k + 1) vs ls → RowsN ps tl k (.ref D :: vs) (placesOf R :: ls)
theorem RowsN.mono {ps : List (Int × Int)} {tl tl' : List (Addr × Obj)} {k : Int} {vs : List Value} {ls : List (List Int)} (x : RowsN ps tl k vs ls) (h : ∀ p ∈ tl, p ∈ tl') : RowsN ps tl' k vs ls := by
  induction x with
  | nil k => exact .nil k
  | cons e i r _ ih => exact .cons (h _ e) i r ih
theorem RowsN.snoc {ps : List (Int × Int)} {tl : List (Addr × Obj)} {k : Int} {vs : List Value} {ls : List (List Int)} (x : RowsN ps tl k vs ls) : ∀ {D : Addr} {pv : List Value} {n : Nat} {R : List Int}, (D, listOf pv.toArray n) ∈ tl → IntsAre pv (placesOf R) → RowSpec ps (k + (vs.length : Nat)) R → RowsN ps tl k (vs ++ [.ref D]) (ls ++ [placesOf R]) := by
  induction x with
  | nil k =>
    intro D pv n R e i r
    have h : k + (([] : List Value).length : Nat) = k := by simp
    rw [h] at r
    exact .cons e i r (.nil _)
  | cons e i r x ih =>
    rename_i k D' pv' n' R' vs' ls'
    intro D pv n R e2 i2 r2
    refine .cons e i r (ih e2 i2 ?_)
    have h : k + 1 + (vs'.length : Nat) = k + ((Value.ref D' :: vs').length : Nat) := by simp only [List.length_cons]; lia
    rw [h]; exact r2
noncomputable def atN (l : List Int) (k : Int) : Int := l.getD k.toNat 0
noncomputable def geB (low high : Int) (l : List Int) : Bool := decide (atN l high ≤ atN l low)
noncomputable def sharedB (ls : List (List Int)) (low high : Int) : Bool := decide (ls.filter (geB low high) = [])
noncomputable def shRow (ls : List (List Int)) (low : Int) (js : List Int) : List (Int × Int) := (js.filter (sharedB ls low)).map fun h => (low, h)
noncomputable def shOf (ls : List (List Int)) (is : List Int) : List (Int × Int) := is.flatMap fun low => shRow ls low rng5
theorem shOf_snoc {ls : List (List Int)} {is : List Int} {low : Int} : shOf ls (is ++ [low]) = shOf ls is ++ shRow ls low rng5 := by simp [shOf]
theorem shRow_snoc {ls : List (List Int)} {low : Int} {js : List Int} {h : Int} : shRow ls low (js ++ [h]) = shRow ls low js ++ (if sharedB ls low h = true then [(low, h)] else []) := by
  simp only [shRow, List.filter_append, List.map_append, List.filter_cons, List.filter_nil]
  split <;> rfl
noncomputable def fallRow (l xs : List Int) : List Int := xs.map (atN l)
noncomputable def Tell (xs ys l : List Int) (t : Int) : Prop := ∃ a b : List Int, a.Perm (fallRow l xs) ∧ a.Pairwise (· ≥ ·) ∧ b.Perm (fallRow l ys) ∧ b.Pairwise (· ≥ ·) ∧ t = b2i (lexLt b a) - b2i (lexLt a b)
inductive Tells (xs ys : List Int) : List (List Int) → List Int → Prop
  | nil : Tells xs ys [] []
  | cons {l : List Int} {t : Int} {ls : List (List Int)} {ts : List Int} : Tell xs ys l t → Tells xs ys ls ts → Tells xs ys (l :: ls) (t :: ts)
theorem Tells.snoc {xs ys : List Int} {ls : List (List Int)} {ts : List Int} (x : Tells xs ys ls ts) {l : List Int} {t : Int} (y : Tell xs ys l t) : Tells xs ys (ls ++ [l]) (ts ++ [t]) := by
  induction x with
  | nil => exact .cons y .nil
  | cons e _ ih => exact .cons e ih
theorem RowsN.toL {ps : List (Int × Int)} {tl : List (Addr × Obj)} {k : Int} {vs : List Value} {ls : List (List Int)} (x : RowsN ps tl k vs ls) : RowsL tl vs ls := by
  induction x with
  | nil k => exact .nil
  | cons e i r _ ih => exact .cons e i ih
theorem RowsN.len5 {ps : List (Int × Int)} {tl : List (Addr × Obj)} {k : Int} {vs : List Value} {ls : List (List Int)} (x : RowsN ps tl k vs ls) : ∀ l ∈ ls, l.length = 5 := by
  induction x with
  | nil k => exact fun _ h => nomatch h
  | cons e i r _ ih =>
    intro l hl
    rcases List.mem_cons.mp hl with rfl | hl
    · simp [placesOf, rng5]
    · exact ih l hl
theorem filtN {α : Type} {p : α → Bool} {l : List α} {x : α} (h : p x = false) : (l ++ [x]).filter p = l.filter p := by
  rw [List.filter_append, List.filter_cons, if_neg (by rw [h]; decide)]; simp
theorem filtY {α : Type} {p : α → Bool} {l : List α} {x : α} (h : p x = true) : (l ++ [x]).filter p = l.filter p ++ [x] := by
  rw [List.filter_append, List.filter_cons, if_pos h]; rfl
theorem row_perm {ps : List (Int × Int)} {held : Int} {R : List Int} (h : RowSpec ps held R) : R.Perm rng5 :=
  (List.perm_ext_iff_of_nodup h.nodup (by decide)).mpr fun k => (h.all k).trans ⟨fun q => by
    have : k = 0 ∨ k = 1 ∨ k = 2 ∨ k = 3 ∨ k = 4 := by lia
    rcases this with rfl | rfl | rfl | rfl | rfl <;> decide, fun q => by
    simp only [rng5, List.mem_cons, List.not_mem_nil, or_false] at q
    lia⟩
theorem row_lay {ps : List (Int × Int)} {held : Int} {R : List Int} (h : RowSpec ps held R) : PyData.layable0 (.list (R.map .int)) = true :=
  layable_ints_perm (row_perm h) (by decide +kernel)
theorem fr_butL {h₀ h h' : Heap} {L I : Addr} {m : Str → Option Value} (F : Fr h₀ L h m) (keep : ∀ b o, b ∉ [I] → h.get? b = some o → h'.get? b = some o) (hL : @Ne Nat L I) (h0 : h₀.get? I = none) : Fr h₀ L h' m :=
  ⟨F.ns.at' fun o e => keep _ o (by simpa using hL) e, fun b o e => keep b o (fun q => by rw [List.mem_singleton.mp q, h0] at e; cases e) (F.keep b o e), F.above⟩
theorem news_butL {h₀ h h' : Heap} {L I : Addr} {RI RI' : Obj} {news : List (Addr × Obj)} (N : News h₀ L h ((I, RI) :: news)) (keep : ∀ b o, b ∉ [I] → h.get? b = some o → h'.get? b = some o) (hI : h'.get? I = some RI') (hne : ∀ p ∈ news, p.1 ≠ I) : News h₀ L h' ((I, RI') :: news) := fun p hp => by
  rcases List.mem_cons.mp hp with rfl | hp
  · exact ⟨hI, (N (I, RI) (.head _)).2⟩
  · exact ⟨keep _ _ (by simpa using hne p hp) (N p (.tail _ hp)).1, (N p (.tail _ hp)).2⟩
theorem news_dropL {h₀ h h' : Heap} {L I : Addr} {RI : Obj} {news : List (Addr × Obj)} (N : News h₀ L h ((I, RI) :: news)) (keep : ∀ b o, b ∉ [I] → h.get? b = some o → h'.get? b = some o) (hne : ∀ p ∈ news, p.1 ≠ I) : News h₀ L h' news := fun p hp =>
  ⟨keep _ _ (by simpa using hne p hp) (N p (.tail _ hp)).1, (N p (.tail _ hp)).2⟩
end
section
set_option maxHeartbeats 8000000
theorem idx_lt_of_mem {R₁ R₂ : List Int} {a b : Int} (hnd : (R₁ ++ b :: R₂).Nodup) (ha : a ∈ R₁) : (R₁ ++ b :: R₂).idxOf a < (R₁ ++ b :: R₂).idxOf b := by
  have hb : b ∉ R₁ := fun h => (List.nodup_append.mp hnd).2.2 b h b (.head _) rfl
  rw [List.idxOf_append, List.idxOf_append, if_pos ha, if_neg hb, List.idxOf_cons_self]
  have := List.idxOf_lt_length_iff.mpr ha
  lia
theorem Reach.trans' {ps : List (Int × Int)} {a b c : Int} (x : Reach ps a b) (y : Reach ps b c) : Reach ps a c := by
  induction y with
  | one h => exact .more x h
  | more _ h ih => exact .more ih h
theorem Reach.low {ps : List (Int × Int)} (hl : Low4 ps) {a b : Int} (x : Reach ps a b) : 0 ≤ a ∧ a < b ∧ b ≤ 4 := by
  induction x with
  | one h => exact hl _ h
  | more _ h ih => have := hl _ h; dsimp only at this; lia
theorem RowSpec.ahead {ps : List (Int × Int)} (hl : Low4 ps) {k : Int} {R : List Int} (r : RowSpec ps k R) {a b : Int} (x : Reach ps a b) : R.idxOf a < R.idxOf b := by
  have key : ∀ a b, (a, b) ∈ ps → R.idxOf a < R.idxOf b := fun a b h => by
    have h4 := hl _ h
    dsimp only at h4
    obtain ⟨R₁, R₂, e⟩ := List.append_of_mem ((r.all b).mpr ⟨by lia, by lia⟩)
    have := r.lin R₁ R₂ a b e h
    have hnd := r.nodup
    rw [e] at hnd ⊢
    exact idx_lt_of_mem hnd this
  induction x with
  | one h => exact key _ _ h
  | more _ h ih => exact Nat.lt_trans ih (key _ _ h)
theorem RowSpec.behind {ps : List (Int × Int)} {a b : Int} {R : List Int} (r : RowSpec ps a R) (ha : 0 ≤ a ∧ a ≤ 4) (hb : 0 ≤ b ∧ b ≤ 4) (h : R.idxOf a < R.idxOf b) : Reach ps a b := by
  obtain ⟨R₁, R₂, e⟩ := List.append_of_mem ((r.all a).mpr ha)
  have hb' := (r.all b).mpr hb
  have hnd := r.nodup
  refine r.held R₁ R₂ b e ?_
  rw [e] at hb' hnd h
  rcases List.mem_append.mp hb' with q | q
  · exact absurd (idx_lt_of_mem hnd q) (by lia)
  · rcases List.mem_cons.mp q with rfl | q
    · exact absurd h (Nat.lt_irrefl _)
    · exact q
inductive RowsP (ps : List (Int × Int)) : Int → List (List Int) → Prop
  | nil (k : Int) : RowsP ps k []
  | cons {k : Int} {R : List Int} {ls : List (List Int)} : RowSpec ps k R → RowsP ps (k + 1) ls → RowsP ps k (placesOf R :: ls)
theorem RowsN.toP {ps : List (Int × Int)} {tl : List (PySem.Addr × PySem.Obj)} {k : Int} {vs : List PySem.Value} {ls : List (List Int)} (x : RowsN ps tl k vs ls) : RowsP ps k ls := by
  induction x with
  | nil k => exact .nil k
  | cons _ _ r _ ih => exact .cons r ih
theorem RowsP.all {ps : List (Int × Int)} {k : Int} {ls : List (List Int)} (x : RowsP ps k ls) : ∀ l ∈ ls, ∃ R k', l = placesOf R ∧ RowSpec ps k' R := by
  induction x with
  | nil k => exact fun _ h => nomatch h
  | cons r _ ih =>
    intro l hl
    rcases List.mem_cons.mp hl with rfl | hl
    · exact ⟨_, _, rfl, r⟩
    · exact ih l hl
theorem RowsP.held {ps : List (Int × Int)} {k : Int} {ls : List (List Int)} (x : RowsP ps k ls) : ∀ a, k ≤ a → a < k + (ls.length : Nat) → ∃ R, placesOf R ∈ ls ∧ RowSpec ps a R := by
  induction x with
  | nil k => intro a h1 h2; simp at h2; lia
  | cons r _ ih =>
    rename_i k R ls _
    intro a h1 h2
    by_cases e : a = k
    · subst e; exact ⟨R, .head _, r⟩
    · obtain ⟨R', h, r'⟩ := ih a (by lia) (by simp only [List.length_cons] at h2; lia)
      exact ⟨R', .tail _ h, r'⟩
theorem atN_places (R : List Int) (a : Int) (h : 0 ≤ a ∧ a ≤ 4) : atN (placesOf R) a = (R.idxOf a : Nat) := by
  have : a = 0 ∨ a = 1 ∨ a = 2 ∨ a = 3 ∨ a = 4 := by lia
  rcases this with rfl | rfl | rfl | rfl | rfl <;> rfl
theorem ahead_iff {ps : List (Int × Int)} {ls : List (List Int)} (hl : Low4 ps) (x : RowsP ps 0 ls) (h5 : ls.length = 5) {a b : Int} (ha : 0 ≤ a ∧ a ≤ 4) (hb : 0 ≤ b ∧ b ≤ 4) : (∀ l ∈ ls, atN l a < atN l b) ↔ Reach ps a b := by
  constructor
  · intro h
    obtain ⟨R, hm, r⟩ := x.held a ha.1 (by lia)
    have := h _ hm
    rw [atN_places R a ha, atN_places R b hb] at this
    exact r.behind ha hb (by lia)
  · intro h l hm
    obtain ⟨R, k, rfl, r⟩ := x.all l hm
    have := r.ahead hl h
    rw [atN_places R a ha, atN_places R b hb]
    lia
theorem ways_trans (ps : List (Int × Int)) : ∀ (k : Nat) (a m b : Int), (a, m) ∈ waysN ps k → (m, b) ∈ waysN ps k → 0 ≤ m → m < (k : Nat) → (a, b) ∈ waysN ps k := by
  intro k
  induction k with
  | zero => intro a m b _ _ h0 h1; lia
  | succ k ih =>
    intro a m b h1 h2 h0 hk
    simp only [waysN] at h1 h2 ⊢
    rw [mem_step] at h1 h2 ⊢
    dsimp only at h1 h2 ⊢
    by_cases e : m = 0 + (k : Nat)
    · subst e
      have p1 : (a, (0 + (k : Nat) : Int)) ∈ waysN ps k := h1.elim id And.left
      have p2 : ((0 + (k : Nat) : Int), b) ∈ waysN ps k := h2.elim id And.right
      exact .inr ⟨p1, p2⟩
    · have hm : m < (k : Nat) := by lia
      rcases h1 with h1 | ⟨h1, h1'⟩ <;> rcases h2 with h2 | ⟨h2, h2'⟩
      · exact .inl (ih a m b h1 h2 h0 hm)
      · exact .inr ⟨ih a m _ h1 h2 h0 hm, h2'⟩
      · exact .inr ⟨h1, ih _ m b h1' h2 h0 hm⟩
      · exact .inr ⟨h1, h2'⟩
theorem ways_sub {ps : List (Int × Int)} {p : Int × Int} (h : p ∈ ps) : ∀ k, p ∈ waysN ps k
  | 0 => h
  | k + 1 => mem_step.mpr (.inl (ways_sub h k))
theorem ways_reach {ps : List (Int × Int)} : ∀ (k : Nat) (p : Int × Int), p ∈ waysN ps k → Reach ps p.1 p.2
  | 0, p, h => .one h
  | k + 1, p, h => by
    rcases mem_step.mp h with h | ⟨h1, h2⟩
    · exact ways_reach k p h
    · exact (ways_reach k _ h1).trans' (ways_reach k _ h2)
theorem reach_ways {ps : List (Int × Int)} (hl : Low4 ps) {a b : Int} (x : Reach ps a b) : (a, b) ∈ waysN ps 5 := by
  induction x with
  | one h => exact ways_sub h 5
  | more _ h ih =>
    have := hl _ h
    dsimp only at this
    exact ways_trans ps 5 _ _ _ ih (ways_sub h 5) (by lia) (by lia)
theorem ways_iff {ps : List (Int × Int)} (hl : Low4 ps) (p : Int × Int) : p ∈ waysN ps 5 ↔ Reach ps p.1 p.2 := ⟨ways_reach 5 p, fun h => reach_ways hl h⟩
theorem rising_ext : ∀ {xs ys : List (Int × Int)}, xs.Pairwise (fun p q => pairLt p q = true) → ys.Pairwise (fun p q => pairLt p q = true) → (∀ p, p ∈ xs ↔ p ∈ ys) → xs = ys
  | [], [], _, _, _ => rfl
  | [], y :: ys, _, _, h => absurd ((h y).mpr (.head _)) List.not_mem_nil
  | x :: xs, [], _, _, h => absurd ((h x).mp (.head _)) List.not_mem_nil
  | x :: xs, y :: ys, hx, hy, h => by
    rw [List.pairwise_cons] at hx hy
    have asym : ∀ {p q : Int × Int}, pairLt p q = true → pairLt q p = true → False := fun {p q} a b => by
      rw [pairLt_iff] at a b; lia
    have e : x = y := by
      rcases List.mem_cons.mp ((h x).mp (.head _)) with e | hm
      · exact e
      · rcases List.mem_cons.mp ((h y).mpr (.head _)) with e | hm'
        · exact e.symm
        · exact (asym (hy.1 x hm) (hx.1 y hm')).elim
    subst e
    have irr : ∀ {p : Int × Int}, pairLt p p = true → False := fun a => asym a a
    refine congrArg (x :: ·) (rising_ext hx.2 hy.2 fun p => ⟨fun hp => ?_, fun hp => ?_⟩)
    · rcases List.mem_cons.mp ((h p).mp (.tail _ hp)) with rfl | q
      · exact (irr (hx.1 _ hp)).elim
      · exact q
    · rcases List.mem_cons.mp ((h p).mpr (.tail _ hp)) with rfl | q
      · exact (irr (hy.1 _ hp)).elim
      · exact q
noncomputable def all25 : List (Int × Int) := rng5.flatMap fun a => rng5.map fun b => (a, b)
theorem shOf_all (ls : List (List Int)) : shOf ls rng5 = all25.filter fun p => sharedB ls p.1 p.2 := by
  unfold shOf all25
  rw [List.filter_flatMap]
  refine congrArg (fun f => List.flatMap f rng5) (funext fun a => ?_)
  unfold shRow
  rw [List.filter_map]
  rfl
theorem all25_rising : all25.Pairwise (fun p q => pairLt p q = true) := by decide
theorem all25_mem {p : Int × Int} : p ∈ all25 ↔ (0 ≤ p.1 ∧ p.1 ≤ 4) ∧ 0 ≤ p.2 ∧ p.2 ≤ 4 := by
  obtain ⟨a, b⟩ := p
  have key : ∀ c : Int, c ∈ rng5 ↔ 0 ≤ c ∧ c ≤ 4 := fun c => by
    simp only [rng5, List.mem_cons, List.not_mem_nil, or_false]; lia
  unfold all25
  simp only [List.mem_flatMap, List.mem_map, Prod.mk.injEq]
  constructor
  · rintro ⟨a', h1, b', h2, rfl, rfl⟩
    exact ⟨(key _).mp h1, (key _).mp h2⟩
  · rintro ⟨h1, h2⟩
    exact ⟨a, (key _).mpr h1, b, (key _).mpr h2, rfl, rfl⟩
theorem sharedB_iff (ls : List (List Int)) (a b : Int) : sharedB ls a b = true ↔ ∀ l ∈ ls, atN l a < atN l b := by
  unfold sharedB
  rw [decide_eq_true_iff, List.filter_eq_nil_iff]
  unfold geB
  constructor
  · intro h l hl; have := h l hl; simp at this; exact this
  · intro h l hl; have := h l hl; simp; exact this
theorem shared_ways {ps : List (Int × Int)} {ls : List (List Int)} {M : List (Int × Int)} (hl : Low4 ps) (x : RowsP ps 0 ls) (h5 : ls.length = 5) (hnd : M.Nodup) (hpw : M.Pairwise (fun p q => pairLt q p = false)) (hm : ∀ q, q ∈ M ↔ q ∈ waysN ps 5) : shOf ls rng5 = M := by
  rw [shOf_all]
  refine rising_ext (all25_rising.sublist List.filter_sublist) ?_ fun p => ?_
  · refine (hnd.and hpw).imp fun {p q} h => ?_
    obtain ⟨h1, h2⟩ := h
    rw [pairLt_not] at h2
    rw [pairLt_iff]
    by_cases e : p.1 = q.1
    · have : p.2 ≠ q.2 := fun g => h1 (Prod.ext e g)
      lia
    · lia
  · rw [List.mem_filter, all25_mem, sharedB_iff, hm, ways_iff hl]
    constructor
    · rintro ⟨⟨h1, h2⟩, h3⟩
      exact (ahead_iff hl x h5 h1 h2).mp h3
    · intro h
      have := h.low hl
      exact ⟨⟨⟨by lia, by lia⟩, by lia, by lia⟩, (ahead_iff hl x h5 ⟨by lia, by lia⟩ ⟨by lia, by lia⟩).mpr h⟩
end
section
set_option maxHeartbeats 8000000
theorem falling_head {v : Int} {a : List Int} (h : (v :: a).Pairwise (· ≥ ·)) : ∀ x ∈ v :: a, x ≤ v := by
  intro x hx
  rcases List.mem_cons.mp hx with rfl | hx
  · exact Int.le_refl _
  · exact (List.pairwise_cons.mp h).1 x hx
theorem lex_diff : ∀ (a b P Q K : List Int), a.Pairwise (· ≥ ·) → b.Pairwise (· ≥ ·) → a.Perm (P ++ K) → b.Perm (Q ++ K) → (∀ p ∈ P, p ∉ Q) → (lexLt b a = true ↔ P ≠ [] ∧ ∀ q ∈ Q, ∃ p ∈ P, q < p)
  | [], b, P, Q, K, ha, hb, h1, h2, hd => by
    have e := List.nil_perm.mp h1
    have hP : P = [] := (List.append_eq_nil_iff.mp e).1
    subst hP
    cases b <;> simp [lexLt]
  | v :: a, [], P, Q, K, ha, hb, h1, h2, hd => by
    have e := List.append_eq_nil_iff.mp (List.nil_perm.mp h2)
    obtain ⟨rfl, rfl⟩ := e
    simp only [lexLt, true_iff]
    refine ⟨fun q => ?_, fun q hq => nomatch hq⟩
    subst q
    have := h1.length_eq
    simp at this
  | v :: a, u :: b, P, Q, K, ha, hb, h1, h2, hd => by
    have hv : ∀ x ∈ P ++ K, x ≤ v := fun x hx => falling_head ha x (h1.mem_iff.mpr hx)
    have hu : ∀ x ∈ Q ++ K, x ≤ u := fun x hx => falling_head hb x (h2.mem_iff.mpr hx)
    have mv : v ∈ P ++ K := h1.mem_iff.mp (.head _)
    have mu : u ∈ Q ++ K := h2.mem_iff.mp (.head _)
    by_cases e : u = v
    · subst e
      have hK : u ∈ K := by
        rcases List.mem_append.mp mv with p | p
        · rcases List.mem_append.mp mu with q | q
          · exact absurd q (hd u p)
          · exact q
        · exact p
      have pK := List.perm_cons_erase hK
      have p1 : a.Perm (P ++ K.erase u) := (List.perm_cons u).mp (h1.trans ((pK.append_left P).trans List.perm_middle))
      have p2 : b.Perm (Q ++ K.erase u) := (List.perm_cons u).mp (h2.trans ((pK.append_left Q).trans List.perm_middle))
      have := lex_diff a b P Q (K.erase u) (List.pairwise_cons.mp ha).2 (List.pairwise_cons.mp hb).2 p1 p2 hd
      simp only [lexLt, if_true]
      exact this
    · simp only [lexLt, if_neg e, decide_eq_true_eq]
      by_cases g : u < v
      · simp only [g, true_iff]
        have hP : v ∈ P := by
          rcases List.mem_append.mp mv with p | p
          · exact p
          · exact absurd (hu v (List.mem_append_right _ p)) (by lia)
        exact ⟨(fun q => by subst q; exact (nomatch hP)), fun q hq => ⟨v, hP, by have := hu q (List.mem_append_left _ hq); lia⟩⟩
      · simp only [g, false_iff]
        rintro ⟨_, h⟩
        have hQ : u ∈ Q := by
          rcases List.mem_append.mp mu with p | p
          · exact p
          · exact absurd (hv u (List.mem_append_right _ p)) (by lia)
        obtain ⟨p, hp, hlt⟩ := h u hQ
        have := hv p (List.mem_append_left _ hp)
        lia
theorem lex_same {a b P Q K : List Int} (ha : a.Pairwise (· ≥ ·)) (hb : b.Pairwise (· ≥ ·)) (h1 : a.Perm (P ++ K)) (h2 : b.Perm (Q ++ K)) (hd : ∀ p ∈ P, p ∉ Q) : (lexLt b a = false ∧ lexLt a b = false) ↔ P = [] ∧ Q = [] := by
  have i1 := lex_diff a b P Q K ha hb h1 h2 hd
  have i2 := lex_diff b a Q P K hb ha h2 h1 fun q hq hp => hd q hp hq
  constructor
  · rintro ⟨x, y⟩
    have n1 : ¬ (P ≠ [] ∧ ∀ q ∈ Q, ∃ p ∈ P, q < p) := fun h => by rw [i1.mpr h] at x; cases x
    have n2 : ¬ (Q ≠ [] ∧ ∀ p ∈ P, ∃ q ∈ Q, p < q) := fun h => by rw [i2.mpr h] at y; cases y
    have hP : P = [] := by
      refine Classical.byContradiction fun hP => ?_
      have : ∃ q ∈ Q, ∀ p ∈ P, ¬ q < p := by
        refine Classical.byContradiction fun h => n1 ⟨hP, fun q hq => Classical.byContradiction fun g => h ⟨q, hq, fun p hp l => g ⟨p, hp, l⟩⟩⟩
      obtain ⟨q, hq, hall⟩ := this
      have hQ : Q ≠ [] := fun e => by subst e; exact nomatch hq
      have : ∃ p ∈ P, ∀ q ∈ Q, ¬ p < q := by
        refine Classical.byContradiction fun h => n2 ⟨hQ, fun p hp => Classical.byContradiction fun g => h ⟨p, hp, fun q hq l => g ⟨q, hq, l⟩⟩⟩
      obtain ⟨p, hp, hall2⟩ := this
      have e1 := hall p hp
      have e2 := hall2 q hq
      have : p = q := by lia
      subst this
      exact hd p hp hq
    subst hP
    refine ⟨rfl, Classical.byContradiction fun hQ => n2 ⟨hQ, fun p hp => nomatch hp⟩⟩
  · rintro ⟨rfl, rfl⟩
    constructor
    · cases e : lexLt b a with
      | false => rfl
      | true => exact absurd rfl (i1.mp e).1
    · cases e : lexLt a b with
      | false => rfl
      | true => exact absurd rfl (i2.mp e).1
end
section
set_option maxHeartbeats 8000000
theorem uld_parts : ∀ (xs ys : List Int), ∃ C : List Int, xs.Perm ((uld xs ys).1 ++ C) ∧ ys.Perm ((uld xs ys).2 ++ C) ∧ (∀ p ∈ (uld xs ys).1, p ∉ (uld xs ys).2) ∧ (∀ q ∈ (uld xs ys).2, q ∈ ys)
  | [], ys => ⟨[], by simp [uld], by simp [uld], fun p hp => by simp [uld] at hp, fun q hq => by simpa [uld] using hq⟩
  | x :: xs, ys => by
    by_cases h : x ∈ ys
    · obtain ⟨C, h1, h2, h3, h4⟩ := uld_parts xs (ys.erase x)
      have e : uld (x :: xs) ys = uld xs (ys.erase x) := by simp [uld, h]
      rw [e]
      exact ⟨x :: C, (h1.cons x).trans List.perm_middle.symm, (List.perm_cons_erase h).trans ((h2.cons x).trans List.perm_middle.symm), h3, fun q hq => List.mem_of_mem_erase (h4 q hq)⟩
    · obtain ⟨C, h1, h2, h3, h4⟩ := uld_parts xs ys
      have e : uld (x :: xs) ys = (x :: (uld xs ys).1, (uld xs ys).2) := by simp [uld, h]
      rw [e]
      refine ⟨C, h1.cons x, h2, fun p hp => ?_, h4⟩
      rcases List.mem_cons.mp hp with rfl | hp
      · exact fun q => h (h4 _ q)
      · exact h3 p hp
theorem rng5_mem {c : Int} : c ∈ rng5 ↔ 0 ≤ c ∧ c ≤ 4 := by
  simp only [rng5, List.mem_cons, List.not_mem_nil, or_false]; lia
theorem aboveB_iff {X Y : List Int} {ps ws : List (Int × Int)} (hX : ∀ x ∈ X, 0 ≤ x ∧ x ≤ 4) (hY : ∀ y ∈ Y, 0 ≤ y ∧ y ≤ 4) (hw : ∀ p, p ∈ ws ↔ Reach ps p.1 p.2) : aboveB X Y ws = true ↔ X ≠ [] ∧ ∀ y ∈ Y, ∃ x ∈ X, Reach ps y x := by
  unfold aboveB
  rw [Bool.and_eq_true, decide_eq_true_iff, Bool.not_eq_true', decide_eq_false_iff_not, List.filter_eq_nil_iff]
  refine and_congr_right fun _ => ⟨fun h y hy => ?_, fun h low _ hf => ?_⟩
  · have := h y (rng5_mem.mpr (hY y hy))
    unfold freeB at this
    rw [Bool.and_eq_true, List.any_eq_true, decide_eq_true_iff, List.filter_eq_nil_iff] at this
    refine Classical.byContradiction fun g => this ⟨⟨y, hy, by simp⟩, fun high _ hh => ?_⟩
    unfold highs at hh
    rw [Bool.and_eq_true, List.any_eq_true, decide_eq_true_iff] at hh
    obtain ⟨⟨x, hx, e⟩, hm⟩ := hh
    have e' : x = high := by simpa using e
    subst e'
    exact g ⟨x, hx, (hw _).mp hm⟩
  · unfold freeB at hf
    rw [Bool.and_eq_true, List.any_eq_true, decide_eq_true_iff, List.filter_eq_nil_iff] at hf
    obtain ⟨⟨y, hy, e⟩, hn⟩ := hf
    have e' : y = low := by simpa using e
    subst e'
    obtain ⟨x, hx, r⟩ := h y hy
    refine hn x (rng5_mem.mpr (hX x hx)) ?_
    unfold highs
    rw [Bool.and_eq_true, List.any_eq_true, decide_eq_true_iff]
    exact ⟨⟨x, hx, by simp⟩, (hw _).mpr r⟩
theorem places_inj {ps : List (Int × Int)} {k : Int} {R : List Int} (r : RowSpec ps k R) {a b : Int} (ha : 0 ≤ a ∧ a ≤ 4) (hb : 0 ≤ b ∧ b ≤ 4) (h : atN (placesOf R) a = atN (placesOf R) b) : a = b := by
  rw [atN_places R a ha, atN_places R b hb] at h
  have h' : R.idxOf a = R.idxOf b := by lia
  have la := List.idxOf_lt_length_iff.mpr ((r.all a).mpr ha)
  have lb := List.idxOf_lt_length_iff.mpr ((r.all b).mpr hb)
  have e1 := List.getElem_idxOf la
  have e2 := List.getElem_idxOf lb
  rw [← e1, ← e2]
  simp only [h']
theorem lexLt_asym : ∀ a b : List Int, lexLt a b = true → lexLt b a = true → False
  | [], [], h, _ => by simp [lexLt] at h
  | [], _ :: _, _, h => by simp [lexLt] at h
  | _ :: _, [], h, _ => by simp [lexLt] at h
  | a :: as, b :: bs, h, g => by
    by_cases e : a = b
    · subst e
      simp only [lexLt, if_true] at h g
      exact lexLt_asym as bs h g
    · simp only [lexLt, if_neg e, if_neg (Ne.symm e), decide_eq_true_eq] at h g
      lia
theorem tell_iff {ps : List (Int × Int)} {k : Int} {R xs ys X Y C : List Int} {t : Int} (r : RowSpec ps k R) (h : Tell xs ys (placesOf R) t) (h1 : xs.Perm (X ++ C)) (h2 : ys.Perm (Y ++ C)) (hd : ∀ p ∈ X, p ∉ Y) (hx : ∀ x ∈ xs, 0 ≤ x ∧ x ≤ 4) (hy : ∀ y ∈ ys, 0 ≤ y ∧ y ≤ 4) :
    (t = 1 ↔ X ≠ [] ∧ ∀ y ∈ Y, ∃ x ∈ X, atN (placesOf R) y < atN (placesOf R) x) ∧ (t = -1 ↔ Y ≠ [] ∧ ∀ x ∈ X, ∃ y ∈ Y, atN (placesOf R) x < atN (placesOf R) y) ∧ (t = 0 ↔ X = [] ∧ Y = []) := by
  obtain ⟨a, b, pa, oa, pb, ob, rfl⟩ := h
  have hX : ∀ x ∈ X, 0 ≤ x ∧ x ≤ 4 := fun x q => hx x (h1.mem_iff.mpr (List.mem_append_left _ q))
  have hY : ∀ y ∈ Y, 0 ≤ y ∧ y ≤ 4 := fun y q => hy y (h2.mem_iff.mpr (List.mem_append_left _ q))
  have qa : a.Perm (fallRow (placesOf R) X ++ fallRow (placesOf R) C) := pa.trans (by unfold fallRow; rw [← List.map_append]; exact h1.map _)
  have qb : b.Perm (fallRow (placesOf R) Y ++ fallRow (placesOf R) C) := pb.trans (by unfold fallRow; rw [← List.map_append]; exact h2.map _)
  have dis : ∀ p ∈ fallRow (placesOf R) X, p ∉ fallRow (placesOf R) Y := fun p hp hq => by
    obtain ⟨x, m1, e1⟩ := List.mem_map.mp hp
    obtain ⟨y, m2, e2⟩ := List.mem_map.mp hq
    have e := places_inj r (hX x m1) (hY y m2) (e1.trans e2.symm)
    subst e
    exact hd x m1 m2
  have i1 := lex_diff a b _ _ _ oa ob qa qb dis
  have i2 := lex_diff b a _ _ _ ob oa qb qa fun q hq hp => dis q hp hq
  have i3 := lex_same oa ob qa qb dis
  have z : ∀ l : List Int, fallRow (placesOf R) l = [] ↔ l = [] := fun l => by unfold fallRow; exact List.map_eq_nil_iff
  have ex : ∀ (U V : List Int), (∀ q ∈ fallRow (placesOf R) V, ∃ p ∈ fallRow (placesOf R) U, q < p) ↔ ∀ y ∈ V, ∃ x ∈ U, atN (placesOf R) y < atN (placesOf R) x := fun U V => by
    constructor
    · intro g y hy
      obtain ⟨p, hp, l⟩ := g _ (List.mem_map_of_mem hy)
      obtain ⟨x, hx, rfl⟩ := List.mem_map.mp hp
      exact ⟨x, hx, l⟩
    · intro g q hq
      obtain ⟨y, hy, rfl⟩ := List.mem_map.mp hq
      obtain ⟨x, hx, l⟩ := g y hy
      exact ⟨_, List.mem_map_of_mem hx, l⟩
  rw [ne_eq, z, ex] at i1 i2
  rw [z, z] at i3
  have no := lexLt_asym a b
  refine ⟨Iff.trans ?_ i1, Iff.trans ?_ i2, Iff.trans ?_ i3⟩
  · cases u : lexLt b a <;> cases v : lexLt a b <;> simp_all [b2i]
  · cases u : lexLt b a <;> cases v : lexLt a b <;> simp_all [b2i]
  · cases u : lexLt b a <;> cases v : lexLt a b <;> simp_all [b2i]
end
section
set_option maxHeartbeats 8000000
theorem Tells.fwd {xs ys : List Int} {ls : List (List Int)} {ts : List Int} (h : Tells xs ys ls ts) : ∀ l ∈ ls, ∃ t ∈ ts, Tell xs ys l t := by
  induction h with
  | nil => exact fun _ h => nomatch h
  | cons e _ ih =>
    intro l hl
    rcases List.mem_cons.mp hl with rfl | hl
    · exact ⟨_, .head _, e⟩
    · obtain ⟨t, m, q⟩ := ih l hl
      exact ⟨t, .tail _ m, q⟩
theorem Tells.bwd {xs ys : List Int} {ls : List (List Int)} {ts : List Int} (h : Tells xs ys ls ts) : ∀ t ∈ ts, ∃ l ∈ ls, Tell xs ys l t := by
  induction h with
  | nil => exact fun _ h => nomatch h
  | cons e _ ih =>
    intro l hl
    rcases List.mem_cons.mp hl with rfl | hl
    · exact ⟨_, .head _, e⟩
    · obtain ⟨t, m, q⟩ := ih l hl
      exact ⟨t, .tail _ m, q⟩
theorem Tells.length {xs ys : List Int} {ls : List (List Int)} {ts : List Int} (h : Tells xs ys ls ts) : ts.length = ls.length := by
  induction h with
  | nil => rfl
  | cons _ _ ih => simp [ih]
theorem five_same {ts : List Int} {v : Int} (h : ts.length = 5) : ts = [v, v, v, v, v] ↔ ∀ t ∈ ts, t = v := by
  constructor
  · rintro rfl t ht
    simpa using ht
  · intro g
    exact List.eq_replicate_iff.mpr ⟨h, g⟩
section
variable {ps ws : List (Int × Int)} {ls : List (List Int)} {xs ys ts X Y C : List Int}
theorem bags_above (hl : Low4 ps) (x : RowsP ps 0 ls) (h5 : ls.length = 5) (ht : Tells xs ys ls ts) (h1 : xs.Perm (X ++ C)) (h2 : ys.Perm (Y ++ C)) (hd : ∀ p ∈ X, p ∉ Y) (hx : ∀ x ∈ xs, 0 ≤ x ∧ x ≤ 4) (hy : ∀ y ∈ ys, 0 ≤ y ∧ y ≤ 4) (hw : ∀ p, p ∈ ws ↔ Reach ps p.1 p.2) :
    aboveB X Y ws = decide (ts = [1, 1, 1, 1, 1]) ∧ aboveB Y X ws = decide (ts = [-1, -1, -1, -1, -1]) ∧ decide (X ++ Y = []) = decide (ts = [0, 0, 0, 0, 0]) := by
  have hX : ∀ x ∈ X, 0 ≤ x ∧ x ≤ 4 := fun x q => hx x (h1.mem_iff.mpr (List.mem_append_left _ q))
  have hY : ∀ y ∈ Y, 0 ≤ y ∧ y ≤ 4 := fun y q => hy y (h2.mem_iff.mpr (List.mem_append_left _ q))
  have h5t : ts.length = 5 := ht.length.trans h5
  have spec : ∀ t ∈ ts, ∃ R k, RowSpec ps k R ∧ Tell xs ys (placesOf R) t := fun t m => by
    obtain ⟨l, ml, q⟩ := ht.bwd t m
    obtain ⟨R, k, rfl, r⟩ := x.all l ml
    exact ⟨R, k, r, q⟩
  have held : ∀ a, 0 ≤ a ∧ a ≤ 4 → ∃ R t, t ∈ ts ∧ RowSpec ps a R ∧ Tell xs ys (placesOf R) t := fun a ha => by
    obtain ⟨R, ml, r⟩ := x.held a ha.1 (by lia)
    obtain ⟨t, m, q⟩ := ht.fwd _ ml
    exact ⟨R, t, m, r, q⟩
  obtain ⟨R0, t0, m0, r0, q0⟩ := held 0 (by lia)
  have T : ∀ {R : List Int} {k t : Int}, RowSpec ps k R → Tell xs ys (placesOf R) t → _ := fun r q => tell_iff r q h1 h2 hd hx hy
  refine ⟨?_, ?_, ?_⟩
  · rw [Bool.eq_iff_iff, decide_eq_true_iff, aboveB_iff hX hY hw, five_same h5t]
    constructor
    · rintro ⟨n, f⟩ t m
      obtain ⟨R, k, r, q⟩ := spec t m
      refine (T r q).1.mpr ⟨n, fun y my => ?_⟩
      obtain ⟨x', mx, e⟩ := f y my
      refine ⟨x', mx, ?_⟩
      have := r.ahead hl e
      rw [atN_places R _ (hY y my), atN_places R _ (hX x' mx)]
      lia
    · intro g
      refine ⟨((T r0 q0).1.mp (g t0 m0)).1, fun y my => ?_⟩
      obtain ⟨R, t, m, r, q⟩ := held y (hY y my)
      obtain ⟨x', mx, lt⟩ := ((T r q).1.mp (g t m)).2 y my
      rw [atN_places R _ (hY y my), atN_places R _ (hX x' mx)] at lt
      exact ⟨x', mx, r.behind (hY y my) (hX x' mx) (by lia)⟩
  · rw [Bool.eq_iff_iff, decide_eq_true_iff, aboveB_iff hY hX hw, five_same h5t]
    constructor
    · rintro ⟨n, f⟩ t m
      obtain ⟨R, k, r, q⟩ := spec t m
      refine (T r q).2.1.mpr ⟨n, fun y my => ?_⟩
      obtain ⟨x', mx, e⟩ := f y my
      refine ⟨x', mx, ?_⟩
      have := r.ahead hl e
      rw [atN_places R _ (hX y my), atN_places R _ (hY x' mx)]
      lia
    · intro g
      refine ⟨((T r0 q0).2.1.mp (g t0 m0)).1, fun y my => ?_⟩
      obtain ⟨R, t, m, r, q⟩ := held y (hX y my)
      obtain ⟨x', mx, lt⟩ := ((T r q).2.1.mp (g t m)).2 y my
      rw [atN_places R _ (hX y my), atN_places R _ (hY x' mx)] at lt
      exact ⟨x', mx, r.behind (hX y my) (hY x' mx) (by lia)⟩
  · rw [Bool.eq_iff_iff, decide_eq_true_iff, decide_eq_true_iff, five_same h5t, List.append_eq_nil_iff]
    constructor
    · intro n t m
      obtain ⟨R, k, r, q⟩ := spec t m
      exact (T r q).2.2.mpr n
    · intro g
      exact (T r0 q0).2.2.mp (g t0 m0)
end
theorem law_bags {ps ws : List (Int × Int)} {ls : List (List Int)} {xs ys ts : List Int} (hl : Low4 ps) (x : RowsP ps 0 ls) (h5 : ls.length = 5) (ht : Tells xs ys ls ts) (hx : ∀ x ∈ xs, 0 ≤ x ∧ x ≤ 4) (hy : ∀ y ∈ ys, 0 ≤ y ∧ y ≤ 4) (hw : ∀ p, p ∈ ws ↔ p ∈ waysN ps 5) :
    aboveB (uld xs.reverse ys).1 (uld xs.reverse ys).2 ws = decide (ts = [1, 1, 1, 1, 1]) ∧ aboveB (uld xs.reverse ys).2 (uld xs.reverse ys).1 ws = decide (ts = [-1, -1, -1, -1, -1]) ∧ decide ((uld xs.reverse ys).1 ++ (uld xs.reverse ys).2 = []) = decide (ts = [0, 0, 0, 0, 0]) := by
  obtain ⟨C, h1, h2, h3, _⟩ := uld_parts xs.reverse ys
  exact bags_above hl x h5 ht ((List.reverse_perm xs).symm.trans h1) h2 h3 hx hy fun p => (hw p).trans (ways_iff hl p)
end
section
set_option maxHeartbeats 8000000
theorem q_names {p : Program} {l a : List Str} (h : PySem.W.Fast.tw17448422675489707002 p (PySem.W.Fast.tw821141287760084731 p l) a = true) : PySem.W.namesOk p (PySem.W.looseW p l) a = true := by
  rw [PySem.W.Fast.te17448422675489707002, PySem.W.Fast.te821141287760084731]; exact h
theorem q_imports {p : Program} (h : PySem.W.Fast.tw2458874890965802552 p = true) : PyProof.Rows.importsNone p = true := by
  rw [PySem.W.Fast.te2458874890965802552]; exact h
local macro_rules | `(tactic| k_qdec) => `(tactic| ((first | refine Mine.q_names ?_ | refine Mine.q_imports ?_); kernel_rfl))
local macro_rules | `(tactic| walk_at "eval Name") => `(tactic| first | walk_at "own" | walk_at "evE")
theorem Tells.len {xs ys : List Int} {ls : List (List Int)} {ts : List Int} (x : Tells xs ys ls ts) : ls.length = ts.length := by
  induction x with
  | nil => rfl
  | cons _ _ ih => simp [ih]
theorem oa0 (i : Nat) : (0 : Int) ≤ 0 + (i : Int) := by lia
theorem oa4 {i : Nat} (h : i < 5) : 0 + (i : Int) ≤ 4 := by lia
theorem oaB {i n : Nat} (h : i < 5) (e : n = 5) : 0 + (i : Int) < (n : Int) := by lia
theorem oaI {i : Nat} (h : i < 5) : 0 + (i : Int) < 2 ^ 63 := by lia
theorem oaD {k : Nat} {α : Type} {l : List α} {n : Nat} (h : k < l.toArray.size) (e : l.length = n) : k < n := by simp at h; lia
theorem oaE {α : Type} {l : List α} {n m : Nat} (e : l.length = n) (h : n ≤ m) (hm : m ≤ 1000) : l.toArray.size ≤ sizeLine := by rw [sizeLine_eq]; simp; lia
theorem oaK {a b n m : Nat} (e : a = b) (e2 : b = n) (h : n ≤ m) (hm : m < 64) : a < 64 := by lia
theorem oaG {k : Int} {n : Nat} (h : k ≤ 4) (e : n = 5) : k < (n : Int) := by lia
theorem oaJ {k : Int} (h : k ≤ 4) : k < 2 ^ 63 := by lia
theorem oaL {a b : Nat} (h : a ≤ 62 ∧ b ≤ 63) : a + b ≤ sizeLine := by rw [sizeLine_eq]; lia
theorem uld_len {xs ys : List Int} (hx : xs.length ≤ 62) (hy : ys.length ≤ 63) : (uld xs.reverse ys).1.length ≤ 62 ∧ (uld xs.reverse ys).2.length ≤ 63 := by
  obtain ⟨C, q1, q2, q3⟩ := uld_parts xs.reverse ys
  have z1 := q1.length_eq
  have z2 := q2.length_eq
  simp only [List.length_append, List.length_reverse] at z1 z2
  lia
open LCg in
theorem lawWalk : PySem.Challenge.rw_oc0174_01.Holds := Mine.hd (by
  k_go0
  (all_goals try k_fold)
  rename World => w
  rename Shared => s1
  rename_i w2 w1 w0 d2 d1 d0 N0 X0
  have hP' : w2.data = .cell none := d2
  have hR' : w1.data = .cell none := d1
  have hS' : w0.data = .cell none := d0
  clear d2 d1 d0 X0
  rename Below _ _ _ _ => K0
  rename Fr _ _ _ _ => F0
  rename Top _ _ _ _ _ _ => T0
  rename IntsAre _ _ => hI
  rename Heap.IsList _ _ _ => hL
  rename Frag.In _ _ => KX
  rename ¬ _ => hlen
  have hlen : _ ≤ 63 := Int.ofNat_le.mp (Int.not_lt.mp hlen)
  (repeat' (first | (k_unfold; (try dsimp only)) | (k_end; wrow_close) | ((fail_if_success (with_reducible (refine Mine.stop_here ?_ ?_; first | walk_at "s0" | exact Mine.p14 | exact Mine.p20 | exact Mine.p23 | exact Mine.p27 | exact Mine.p28 | exact Mine.p24))); walk1) | (dsimp only; (fail_if_success (with_reducible (refine Mine.stop_here ?_ ?_; first | walk_at "s0" | exact Mine.p14 | exact Mine.p20 | exact Mine.p23 | exact Mine.p27 | exact Mine.p28 | exact Mine.p24))); walk1) | (leave1; walk_say "STEP leave1"; try dsimp only) | walk_at "onk" | fail "no step"))
  refine' drawnT ?b1 ?b2 ?b3 ?b4 ?b5 ?b6 ?b7 N0 (by obtain ⟨o, e, r⟩ := hL; exact ⟨o, F0.keep _ _ e, r⟩) hI hlen ?_
  (case b1 => k_asm); (case b2 => k_asm); (case b3 => k_asm); (case b4 => k_asm); (case b5 => first | exact rfl | assumption); (case b6 => ktr_room); (case b7 => ktr_units)
  intro h1 tk1 R P fA sA np n2 n3 pv xv yv xs ys tp ps F1 N1 ⟨a1, a2, a3⟩ htp hrest hps hlow hpl hxv hyv sx sy lx ly
  (try clear F0); (try clear N0)
  (try dsimp only)
  (repeat' (first | (k_unfold; (try dsimp only)) | (k_end; wrow_close) | ((fail_if_success (with_reducible (refine Mine.stop_here ?_ ?_; first | walk_at "s0" | exact Mine.p14 | exact Mine.p20 | exact Mine.p23 | exact Mine.p27 | exact Mine.p28 | exact Mine.p24))); walk1) | (dsimp only; (fail_if_success (with_reducible (refine Mine.stop_here ?_ ?_; first | walk_at "s0" | exact Mine.p14 | exact Mine.p20 | exact Mine.p23 | exact Mine.p27 | exact Mine.p28 | exact Mine.p24))); walk1) | (leave1; walk_say "STEP leave1"; try dsimp only) | walk_at "onk" | fail "no step"))
  rename Fr _ _ _ _ => F2
  rename News _ _ _ _ => N2
  obtain ⟨rst, hrst⟩ : ∃ rst, rst = (P, listOf pv.toArray np) :: (fA, listOf xv.toArray n2) :: (sA, listOf yv.toArray n3) :: (s1.heap.objs.size + 1 + 1 + 1, w2) :: (s1.heap.objs.size + 1 + 1, w1) :: (s1.heap.objs.size + 1, w0) :: ([] : List (Addr × Obj)) := ⟨_, rfl⟩
  have hr3 := hrest _ (.head _)
  have hr2 := hrest _ (.tail _ (.head _))
  have hr1 := hrest _ (.tail _ (.tail _ (.head _)))
  clear hrest
  refine' waysT (rest := rst) (tp0 := tp) ?b1 ?b2 ?b3 ?b4 ?b5 ?b6 ?b7 KX T0 (fun b hb => nomatch hb) (fun p hp => N2 p ?c1) (by rw [hrst]; exact .head _) hps ?c2 hlow hpl ?_
  (case b1 => k_asm); (case b2 => k_asm); (case b3 => k_asm); (case b4 => k_asm); (case b5 => first | exact rfl | assumption); (case b6 => ktr_room); (case b7 => ktr_units)
  (case c1 =>
    rw [hrst] at hp
    refine led_go hp ?_
    walk_at "led")
  (case c2 =>
    intro p hp q hq
    have h0 := htp p hp
    rw [hrst] at hq
    simp only [List.mem_cons, List.not_mem_nil, or_false] at hq
    rcases hq with rfl | rfl | rfl | rfl | rfl | rfl
    · exact h0.1
    · exact h0.2.1
    · exact h0.2.2
    · exact hr3.2.2.2 p hp
    · exact hr2.2.2.2 p hp
    · exact hr1.2.2.2 p hp)
  intro g3 h3 tk3 WA nw tq M KT3 F3 B3 X3 T3 D3 N3 dW dtq dq hMps hMnd hMpw hMm
  obtain ⟨tt, htt⟩ : ∃ tt, tt = tq ++ tp := ⟨_, rfl⟩
  rw [← htt] at hMps
  have hsubtp : ∀ p ∈ tp, p ∈ tt := fun p hp => htt ▸ List.mem_append_right _ hp
  have hps := hps.mono hsubtp
  have N3 : News g3 s1.heap.objs.size h3 ((WA, listOf (M.map fun p => Value.ref p.1).toArray nw) :: (P, listOf pv.toArray np) :: (fA, listOf xv.toArray n2) :: (sA, listOf yv.toArray n3) :: (s1.heap.objs.size + 1 + 1 + 1, w2) :: (s1.heap.objs.size + 1 + 1, w1) :: (s1.heap.objs.size + 1, w0) :: tt) := fun p hp => N3 p (by
    rw [hrst]
    rw [htt] at hp
    refine led_go hp ?_
    walk_at "led")
  have b1 : @Ne Nat P WA := dW _ (List.mem_append_right _ (by rw [hrst]; exact .head _))
  have b2 : @Ne Nat fA WA := dW _ (List.mem_append_right _ (by rw [hrst]; exact .tail _ (.head _)))
  have b3 : @Ne Nat sA WA := dW _ (List.mem_append_right _ (by rw [hrst]; exact .tail _ (.tail _ (.head _))))
  have b4 : @Ne Nat (s1.heap.objs.size + 1 + 1 + 1) WA := dW _ (List.mem_append_right _ (by rw [hrst]; exact .tail _ (.tail _ (.tail _ (.head _)))))
  have b5 : @Ne Nat (s1.heap.objs.size + 1 + 1) WA := dW _ (List.mem_append_right _ (by rw [hrst]; exact .tail _ (.tail _ (.tail _ (.tail _ (.head _))))))
  have b6 : @Ne Nat (s1.heap.objs.size + 1) WA := dW _ (List.mem_append_right _ (by rw [hrst]; exact .tail _ (.tail _ (.tail _ (.tail _ (.tail _ (.head _)))))))
  have c31 : @Ne Nat (s1.heap.objs.size + 1 + 1 + 1) P := hr3.1
  have c32 : @Ne Nat (s1.heap.objs.size + 1 + 1 + 1) fA := hr3.2.1
  have c33 : @Ne Nat (s1.heap.objs.size + 1 + 1 + 1) sA := hr3.2.2.1
  have c21 : @Ne Nat (s1.heap.objs.size + 1 + 1) P := hr2.1
  have c22 : @Ne Nat (s1.heap.objs.size + 1 + 1) fA := hr2.2.1
  have c23 : @Ne Nat (s1.heap.objs.size + 1 + 1) sA := hr2.2.2.1
  have c11 : @Ne Nat (s1.heap.objs.size + 1) P := hr1.1
  have c12 : @Ne Nat (s1.heap.objs.size + 1) fA := hr1.2.1
  have c13 : @Ne Nat (s1.heap.objs.size + 1) sA := hr1.2.2.1
  have hoff : ∀ p ∈ tt, p.1 ≠ WA ∧ p.1 ≠ P ∧ p.1 ≠ fA ∧ p.1 ≠ sA ∧ p.1 ≠ s1.heap.objs.size + 1 + 1 + 1 ∧ p.1 ≠ s1.heap.objs.size + 1 + 1 ∧ p.1 ≠ s1.heap.objs.size + 1 := fun p hp => by
    rw [htt] at hp
    rcases List.mem_append.mp hp with hp | hp
    · exact ⟨dtq p hp, dq p hp _ (by rw [hrst]; exact .head _), dq p hp _ (by rw [hrst]; exact .tail _ (.head _)), dq p hp _ (by rw [hrst]; exact .tail _ (.tail _ (.head _))), dq p hp _ (by rw [hrst]; exact .tail _ (.tail _ (.tail _ (.head _)))), dq p hp _ (by rw [hrst]; exact .tail _ (.tail _ (.tail _ (.tail _ (.head _))))), dq p hp _ (by rw [hrst]; exact .tail _ (.tail _ (.tail _ (.tail _ (.tail _ (.head _))))))⟩
    · have h0 := htp p hp
      exact ⟨dW p (List.mem_append_left _ hp), h0.1, h0.2.1, h0.2.2, hr3.2.2.2 p hp, hr2.2.2.2 p hp, hr1.2.2.2 p hp⟩
  have u6 : ∀ p ∈ tt, p.1 ≠ s1.heap.objs.size + 1 := fun p hp => (hoff p hp).2.2.2.2.2.2
  (try clear dW); (try clear dtq); (try clear dq); (try clear hrst); (try clear htp); (try clear hr1); (try clear hr2); (try clear hr3); (try clear N2); (try clear F2); (try clear KT3); (try clear htt); (try clear hsubtp)
  (try dsimp only)
  (repeat' (first | (k_unfold; (try dsimp only)) | (k_end; wrow_close) | ((fail_if_success (with_reducible (refine Mine.stop_here ?_ ?_; first | walk_at "s0" | exact Mine.p14 | exact Mine.p20 | exact Mine.p23 | exact Mine.p27 | exact Mine.p28 | exact Mine.p24))); walk1) | (dsimp only; (fail_if_success (with_reducible (refine Mine.stop_here ?_ ?_; first | walk_at "s0" | exact Mine.p14 | exact Mine.p20 | exact Mine.p23 | exact Mine.p27 | exact Mine.p28 | exact Mine.p24))); walk1) | (leave1; walk_say "STEP leave1"; try dsimp only) | walk_at "onk" | fail "no step"))
  rename Fr _ _ _ _ => F5
  rename News _ _ _ _ => N5
  rename_i RW _ lRW h5 oS dS
  have hoS : oS.data = .cell (some (.ref RW)) := dS
  have r1 : @LT.lt Nat _ WA RW := lRW.1
  have r2 : @LT.lt Nat _ P RW := lRW.2.1
  have r3 : @LT.lt Nat _ fA RW := lRW.2.2.1
  have r4 : @LT.lt Nat _ sA RW := lRW.2.2.2.1
  have r5 : @LT.lt Nat _ (s1.heap.objs.size + 1 + 1 + 1) RW := lRW.2.2.2.2.1
  have r8 : ∀ p ∈ tt, @LT.lt Nat _ p.1 RW := fun p hp => allLt_mem lRW.2.2.2.2.2.2.2 p hp
  clear dS lRW
  obtain ⟨mean, mg, mb, T0, T3⟩ : (Ex3 fun mean mg mb => (TP mean mg mb s1.heap ∧ TP mean mg mb g3)) := ⟨_, _, _, T0, T3⟩
  refine for_st ?_
  (repeat' (first | (k_unfold; (try dsimp only)) | (k_end; wrow_close) | ((fail_if_success (with_reducible (refine Mine.stop_here ?_ ?_; first | walk_at "s0" | exact Mine.p14 | exact Mine.p20 | exact Mine.p23 | exact Mine.p27 | exact Mine.p28 | exact Mine.p24))); walk1) | (dsimp only; (fail_if_success (with_reducible (refine Mine.stop_here ?_ ?_; first | walk_at "s0" | exact Mine.p14 | exact Mine.p20 | exact Mine.p23 | exact Mine.p27 | exact Mine.p28 | exact Mine.p24))); walk1) | (leave1; walk_say "STEP leave1"; try dsimp only) | walk_at "onk" | fail "no step"))
  walk1
  (try dsimp only)
  rename IsRange _ _ _ _ _ _ _ _ => hrg
  rename Fr _ _ _ _ => F6
  rename News _ _ _ _ => N6
  rename_i h6 tk6 tt6 tu6 tv6 kp6
  refine wpAny_pyIter_range hrg (by decide) ?_
  have hIl : ∀ q : Addr × Obj, h6.get? q.1 = some q.2 → @LT.lt Nat _ q.1 h6.objs.size := fun q e => Heap.lt_size e
  have hI0 : g3.get? h6.objs.size = none := next_is_new F6
  have yI1 : @LT.lt Nat _ RW h6.objs.size := Heap.lt_size (N6 _ (.head _)).1
  have yI2 : @LT.lt Nat _ (s1.heap.objs.size + 1 + 1) h6.objs.size := Nat.lt_trans (Nat.lt_succ_self _) (Nat.lt_trans r5 yI1)
  have yI3 : @LT.lt Nat _ (s1.heap.objs.size + 1) h6.objs.size := Nat.lt_trans (Nat.lt_succ_self _) yI2
  have yI4 : True := trivial
  have yI5 : True := trivial
  have yI6 : True := trivial
  refine ⟨_, [_], [_], 5, _, _, fun i s' => (Ex13 fun g h' tk m1 I RI rwv nrr oR oS vR tl ls => Cj18 (s' = { s1 with heap := h', toks := tk }) (Fr g s1.heap.objs.size h' m1) (Below callerA s1.heap [] g) ((Mine.hd.heap_1 w.params).In g) (TP mean mg mb g) (News g s1.heap.objs.size h' ((I, RI) :: (RW, listOf rwv.toArray nrr) :: (WA, listOf (M.map fun p => Value.ref p.1).toArray nw) :: (P, listOf pv.toArray np) :: (fA, listOf xv.toArray n2) :: (sA, listOf yv.toArray n3) :: (s1.heap.objs.size + 1 + 1 + 1, w2) :: (s1.heap.objs.size + 1 + 1, oR) :: (s1.heap.objs.size + 1, oS) :: tl)) (I = h6.objs.size) (IsRangeIter h' I (0 + (i : Nat) * 1) (((5 : Nat) : Int) - (i : Nat)) 1) (oR.data = .cell vR) (oS.data = .cell (some (.ref RW))) (RowsN ps tl 0 rwv ls) (rwv.length = i) ((∀ p ∈ tt, p ∈ tl)) (Off [I, RW, WA, P, fA, sA, s1.heap.objs.size + 1 + 1 + 1, s1.heap.objs.size + 1 + 1, s1.heap.objs.size + 1] tl) (m1 (Str.ofString "pairs") = some (.ref P)) (m1 (Str.ofString "first") = some (.ref fA)) (m1 (Str.ofString "second") = some (.ref sA)) (m1 (Str.ofString "ways") = some (.ref WA))), rfl, range_walks rfl 0 5, ?_, ?_, ?_, ?_, ?_⟩
  · intro i v s Q E st q
    exact letGo_any ⟨_, st, rfl⟩ (by decide) q
  · rintro i s' ⟨g, h', tk, m1, I, RI, rwv, nrr, oR, oS, vR, tl, ls, rfl, F, B, X, T, N, rfl, hit, _⟩
    exact hit
  · refine ⟨g3, _, _, _, h6.objs.size, _, [], _, w1, oS, _, tt, [], rfl, F6.push _, B3, X3, T3, News.push F6 N6 _ rfl, rfl, Heap.get?_push_size _ rfl, hR', hoS, .nil _, rfl, (fun p hp => hp), ?_, ?_, ?_, ?_, if_pos rfl⟩
    · intro p hp a ha
      have h0 := hoff p hp
      simp only [List.mem_cons, List.not_mem_nil, or_false] at ha
      rcases ha with rfl | rfl | rfl | rfl | rfl | rfl | rfl | rfl | rfl
      · exact Nat.ne_of_lt (Heap.lt_size (N6 p (.tail _ (.tail _ (.tail _ (.tail _ (.tail _ (.tail _ (.tail _ (.tail _ hp))))))))).1)
      · exact Nat.ne_of_lt (r8 p hp)
      · exact h0.1
      · exact h0.2.1
      · exact h0.2.2.1
      · exact h0.2.2.2.1
      · exact h0.2.2.2.2.1
      · exact h0.2.2.2.2.2.1
      · exact h0.2.2.2.2.2.2
    · exact (if_neg (by decide)).trans ((if_neg (by decide)).trans ((if_neg (by decide)).trans (if_pos rfl)))
    · exact (if_neg (by decide)).trans ((if_neg (by decide)).trans (if_pos rfl))
    · exact (if_neg (by decide)).trans (if_pos rfl)
  · rintro i s' v h' tk' hi ⟨g, hh, tk, m1, I, RI, rwv, nrr, oR, oS, vR, tl, ls, rfl, F, B, X, T, N, hIe, hit, hoR, hoS, hrw, hrl, hsub, hoffl, mp, mf, ms, mw⟩ ⟨tv, rfl⟩ st' keep
    rw [← hIe] at st' keep yI1 yI2 yI3
    have zI := (N _ (.head _)).2
    have t1 : ∀ p ∈ tl, p.1 ≠ I := fun p hp => hoffl p hp _ (.head _)
    have t2 : ∀ p ∈ tl, p.1 ≠ RW := fun p hp => hoffl p hp _ (.tail _ (.head _))
    have t3 : ∀ p ∈ tl, p.1 ≠ s1.heap.objs.size + 1 + 1 := fun p hp => hoffl p hp _ (.tail _ (.tail _ (.tail _ (.tail _ (.tail _ (.tail _ (.tail _ (.head _))))))))
    have F1 := fr_butL F keep (Ne.symm zI.1) zI.2
    obtain ⟨RI', hRI', hmk⟩ : ∃ RI', h'.get? I = some RI' ∧ ∀ h : Heap, h.get? I = some RI' → IsRangeIter h I (0 + ((i + 1 : Nat) : Int) * 1) (((5 : Nat) : Int) - ((i + 1 : Nat) : Int)) 1 := ⟨_, st', fun h e => e⟩
    have N1 := news_butL N keep hRI' (fun p hp => by
      simp only [List.mem_cons] at hp
      rcases hp with rfl | rfl | rfl | rfl | rfl | rfl | rfl | rfl | hp
      · exact Nat.ne_of_lt yI1
      · exact Nat.ne_of_lt (Nat.lt_trans r1 yI1)
      · exact Nat.ne_of_lt (Nat.lt_trans r2 yI1)
      · exact Nat.ne_of_lt (Nat.lt_trans r3 yI1)
      · exact Nat.ne_of_lt (Nat.lt_trans r4 yI1)
      · exact Nat.ne_of_lt (Nat.lt_trans r5 yI1)
      · exact Nat.ne_of_lt yI2
      · exact Nat.ne_of_lt yI3
      · exact t1 p hp)
    have q1 : (fun y => if y = Str.ofString "held" then some (Value.int (0 + (i : Nat)) tv) else m1 y) (Str.ofString "pairs") = some (.ref P) := (if_neg (by decide)).trans mp
    have q2 : (fun y => if y = Str.ofString "held" then some (Value.int (0 + (i : Nat)) tv) else m1 y) (Str.ofString "held") = some (Value.int (0 + (i : Nat)) tv) := if_pos rfl
    (try clear F); (try clear N); (try clear F3); (try clear N3); (try clear F5); (try clear N5); (try clear F6); (try clear N6)
    (try dsimp only)
    (repeat' (first | (k_unfold; (try dsimp only)) | (k_end; wrow_close) | ((fail_if_success (with_reducible (refine Mine.stop_here ?_ ?_; first | walk_at "s0" | exact Mine.p14 | exact Mine.p20 | exact Mine.p23 | exact Mine.p27 | exact Mine.p28 | exact Mine.p24))); walk1) | (dsimp only; (fail_if_success (with_reducible (refine Mine.stop_here ?_ ?_; first | walk_at "s0" | exact Mine.p14 | exact Mine.p20 | exact Mine.p23 | exact Mine.p27 | exact Mine.p28 | exact Mine.p24))); walk1) | (leave1; walk_say "STEP leave1"; try dsimp only) | walk_at "onk" | fail "no step"))
    (try dsimp only)
    rename Fr _ _ _ _ => F1
    rename News _ _ _ _ => N1
    obtain ⟨N', hN'⟩ : ∃ n : List (Addr × Obj), n = (RW, listOf rwv.toArray nrr) :: (WA, listOf (M.map fun p => Value.ref p.1).toArray nw) :: (P, listOf pv.toArray np) :: (fA, listOf xv.toArray n2) :: (sA, listOf yv.toArray n3) :: (s1.heap.objs.size + 1 + 1 + 1, w2) :: (s1.heap.objs.size + 1 + 1, oR) :: (s1.heap.objs.size + 1, oS) :: tl := ⟨_, rfl⟩
    refine' rowT (rest := (I, RI') :: N') ?b1 ?b2 ?b3 ?b4 ?b5 ?b6 ?b7 KX T0 (fun b hb => nomatch hb) (hN' ▸ N1) (by rw [hN']; exact .tail _ (.tail _ (.tail _ (.head _)))) ((hps.mono hsub).at (fun p hp => N1 p (.tail _ (.tail _ (.tail _ (.tail _ (.tail _ (.tail _ (.tail _ (.tail _ (.tail _ hp))))))))))) hlow hpl (oa0 _) (oa4 hi) ?_
    (case b1 => k_asm); (case b2 => k_asm); (case b3 => k_asm); (case b4 => k_asm); (case b5 => first | exact rfl | assumption); (case b6 => ktr_room); (case b7 => ktr_units)
    intro g4 h4 tk4 D rv nr Rr KT4 F4 B4 X4 T4 D4 N4 hrv hspec dD
    subst hN'
    have d1 : @Ne Nat I D := dD _ (.head _)
    have d2 : @Ne Nat RW D := dD _ (.tail _ (.head _))
    have d3 : @Ne Nat WA D := dD _ (.tail _ (.tail _ (.head _)))
    have d4 : @Ne Nat P D := dD _ (.tail _ (.tail _ (.tail _ (.head _))))
    have d5 : @Ne Nat fA D := dD _ (.tail _ (.tail _ (.tail _ (.tail _ (.head _)))))
    have d6 : @Ne Nat sA D := dD _ (.tail _ (.tail _ (.tail _ (.tail _ (.tail _ (.head _))))))
    have d7 : @Ne Nat (s1.heap.objs.size + 1 + 1 + 1) D := dD _ (.tail _ (.tail _ (.tail _ (.tail _ (.tail _ (.tail _ (.head _)))))))
    have d8 : @Ne Nat (s1.heap.objs.size + 1 + 1) D := dD _ (.tail _ (.tail _ (.tail _ (.tail _ (.tail _ (.tail _ (.tail _ (.head _))))))))
    have d9 : @Ne Nat (s1.heap.objs.size + 1) D := dD _ (.tail _ (.tail _ (.tail _ (.tail _ (.tail _ (.tail _ (.tail _ (.tail _ (.head _)))))))))
    have dt : ∀ p ∈ tl, p.1 ≠ D := fun p hp => dD p (.tail _ (.tail _ (.tail _ (.tail _ (.tail _ (.tail _ (.tail _ (.tail _ (.tail _ hp)))))))))
    (try clear F1); (try clear N1); (try clear KT4); (try clear dD); (try clear keep); (try clear F); (try clear N)
    (try dsimp only)
    (repeat' (first | (k_unfold; (try dsimp only)) | (k_end; wrow_close) | ((fail_if_success (with_reducible (refine Mine.stop_here ?_ ?_; first | walk_at "s0" | exact Mine.p14 | exact Mine.p20 | exact Mine.p23 | exact Mine.p27 | exact Mine.p28 | exact Mine.p24))); walk1) | (dsimp only; (fail_if_success (with_reducible (refine Mine.stop_here ?_ ?_; first | walk_at "s0" | exact Mine.p14 | exact Mine.p20 | exact Mine.p23 | exact Mine.p27 | exact Mine.p28 | exact Mine.p24))); walk1) | (leave1; walk_say "STEP leave1"; try dsimp only) | walk_at "onk" | fail "no step"))
    rename Fr _ _ _ _ => F6
    rename News _ _ _ _ => N6
    rename_i h60 o6 do6
    have ho6 : o6.data = .cell (some (.ref D)) := do6
    clear do6
    refine comp_eval (F₀ := F6) (by with_unfolding_all rfl) rfl (by decide) ?_
    (repeat' (first | (k_unfold; (try dsimp only)) | (k_end; wrow_close) | ((fail_if_success (with_reducible (refine Mine.stop_here ?_ ?_; first | walk_at "s0" | exact Mine.p14 | exact Mine.p20 | exact Mine.p23 | exact Mine.p27 | exact Mine.p28 | exact Mine.p24))); walk1) | (dsimp only; (fail_if_success (with_reducible (refine Mine.stop_here ?_ ?_; first | walk_at "s0" | exact Mine.p14 | exact Mine.p20 | exact Mine.p23 | exact Mine.p27 | exact Mine.p28 | exact Mine.p24))); walk1) | (leave1; walk_say "STEP leave1"; try dsimp only) | walk_at "onk" | fail "no step"))
    walk1
    (try dsimp only)
    clear hrg
    rename Fr g4 _ _ _ => F7
    rename News g4 _ _ _ => N7
    rename IsRange _ _ _ _ _ _ _ _ => hrg
    refine src_range (n := 5) rfl F7 N7 hrg (by decide) (by decide) (by decide) ?_
    intro I2 h8 src2 lI2
    refine ⟨I2, _, _, _, _, rfl, src2, ?_⟩
    rintro D2 C2 s₃ ⟨h9, rfl⟩ lD2 hDC2
    (try clear N6); (try clear F6)
    refine ⟨fun j zs2 nw' => nw' = (D, listOf rv.toArray nr) :: (I, RI') :: (RW, listOf rwv.toArray nrr) :: (WA, listOf (M.map fun p => Value.ref p.1).toArray nw) :: (P, listOf pv.toArray np) :: (fA, listOf xv.toArray n2) :: (sA, listOf yv.toArray n3) :: (s1.heap.objs.size + 1 + 1 + 1, w2) :: (s1.heap.objs.size + 1 + 1, o6) :: (s1.heap.objs.size + 1, oS) :: tl ∧ IntsAre zs2 ((rng5.take j).map fun t => (Rr.idxOf t : Int)), fun _ _ _ _ => trivial, ⟨rfl, .nil⟩, ?_, ?_⟩
    · rintro j v h tk oI2 oC2 m₃ zs2 nw' hj5 ⟨tw, rfl⟩ F10 N10 hC10 off10 ⟨p1, p2, p3⟩ ⟨rfl, hzs2⟩
      have off11 := off10.mem
      refine asg_own F10 N10 (.tail p1 (.head fun p hp => by
          rcases List.mem_cons.mp hp with rfl | hp
          · exact Ne.symm p3
          · exact (off11 p hp).2.1)) hC10 rfl rfl ?_
      intro h11 oC11 F11 N11 hC11
      (try dsimp only at N11)
      have hx11 : (fun y => if y = Str.ofString "thing" then some (Value.int (0 + (j : Int)) tw) else m₃ y) (Str.ofString "thing") = some (Value.int (0 + (j : Int)) tw) := if_pos rfl
      (repeat' (first | (k_unfold; (try dsimp only)) | (k_end; wrow_close) | ((fail_if_success (with_reducible (refine Mine.stop_here ?_ ?_; first | walk_at "s0" | exact Mine.p14 | exact Mine.p20 | exact Mine.p23 | exact Mine.p27 | exact Mine.p28 | exact Mine.p24))); walk1) | (dsimp only; (fail_if_success (with_reducible (refine Mine.stop_here ?_ ?_; first | walk_at "s0" | exact Mine.p14 | exact Mine.p20 | exact Mine.p23 | exact Mine.p27 | exact Mine.p28 | exact Mine.p24))); walk1) | (leave1; walk_say "STEP leave1"; try dsimp only) | walk_at "onk" | fail "no step"))
      refine index_list_ints (N11.isList (.tail _ (.tail _ (.tail _ (.head _))))) hrv (row_lay hspec) ((hspec.all _).mpr ⟨oa0 _, oa4 hj5⟩) ?_
      dsimp only [qk]
      exact ⟨h11, _, oC11, _, _, rfl, F11, N11, hC11, off10, rfl, by rw [rng5_at j hj5, List.map_append]; exact hzs2.append (.cons _ _ .nil)⟩
    · rintro h tk zs2 oC2 m₃ nw' F10 N10 hC10 off10 hCD2 ⟨rfl, hzs2⟩
      have off11 := off10.mem
      rw [show (rng5.take 5).map (fun t => (Rr.idxOf t : Int)) = placesOf Rr from rfl] at hzs2
      refine aend F10 N10 hC10 ?_ ?_
      · intro p hp
        rcases List.mem_cons.mp hp with rfl | hp
        · exact Ne.symm hCD2
        · exact (off11 p hp).2.1
      intro h12 F12 N12
      have o1 : @Ne Nat D D2 := (off11 _ (.head _)).2.2
      have o2 : @Ne Nat I D2 := (off11 _ (.tail _ (.head _))).2.2
      have o3 : @Ne Nat RW D2 := (off11 _ (.tail _ (.tail _ (.head _)))).2.2
      (try dsimp only)
      (repeat' (first | (k_unfold; (try dsimp only)) | (k_end; wrow_close) | ((fail_if_success (with_reducible (refine Mine.stop_here ?_ ?_; first | walk_at "s0" | exact Mine.p14 | exact Mine.p20 | exact Mine.p23 | exact Mine.p27 | exact Mine.p28 | exact Mine.p24))); walk1) | (dsimp only; (fail_if_success (with_reducible (refine Mine.stop_here ?_ ?_; first | walk_at "s0" | exact Mine.p14 | exact Mine.p20 | exact Mine.p23 | exact Mine.p27 | exact Mine.p28 | exact Mine.p24))); walk1) | (leave1; walk_say "STEP leave1"; try dsimp only) | walk_at "onk" | fail "no step"))
      rename Fr _ _ _ _ => F13
      rename News _ _ _ _ => N13
      rename Heap => h13
      rw [List.push_toArray] at N13
      have hrw' : RowsN ps ((D2, LCg.lst zs2) :: tl) 0 rwv ls := hrw.mono fun p hp => .tail _ hp
      have hrw2 := hrw'.snoc (D := D2) (pv := zs2) (n := zs2.length) (.head _) hzs2 (by rw [hrl]; exact hspec)
      obtain ⟨nq, N13⟩ : ∃ nq, News g4 s1.heap.objs.size h13 ((D2, LCg.lst zs2) :: (D, listOf rv.toArray nr) :: (I, RI') :: (RW, listOf (rwv ++ [Value.ref D2]).toArray nq) :: (WA, listOf (M.map fun p => Value.ref p.1).toArray nw) :: (P, listOf pv.toArray np) :: (fA, listOf xv.toArray n2) :: (sA, listOf yv.toArray n3) :: (s1.heap.objs.size + 1 + 1 + 1, w2) :: (s1.heap.objs.size + 1 + 1, o6) :: (s1.heap.objs.size + 1, oS) :: tl) := ⟨_, N13⟩
      refine ⟨g4, _, _, _, I, RI', rwv ++ [.ref D2], nq, o6, oS, _, (D2, LCg.lst zs2) :: tl, ls ++ [placesOf Rr], rfl, F13, B4, X4, T4, fun p hp => N13 p ?_, hIe, hmk _ (N13 _ (.tail _ (.tail _ (.head _)))).1, ho6, hoS, hrw2, by rw [List.length_append, hrl]; rfl, fun p hp => .tail _ (hsub p hp), ?_, (if_neg (by decide)).trans mp, (if_neg (by decide)).trans mf, (if_neg (by decide)).trans ms, (if_neg (by decide)).trans mw⟩
      · refine led_go hp ?_
        walk_at "led"
      · intro p hp a ha
        rcases List.mem_cons.mp hp with rfl | hp
        · simp only [List.mem_cons, List.not_mem_nil, or_false] at ha
          rcases ha with rfl | rfl | rfl | rfl | rfl | rfl | rfl | rfl | rfl
          · exact Ne.symm (off11 _ (.tail _ (.head _))).2.2
          · exact Ne.symm (off11 _ (.tail _ (.tail _ (.head _)))).2.2
          · exact Ne.symm (off11 _ (.tail _ (.tail _ (.tail _ (.head _))))).2.2
          · exact Ne.symm (off11 _ (.tail _ (.tail _ (.tail _ (.tail _ (.head _)))))).2.2
          · exact Ne.symm (off11 _ (.tail _ (.tail _ (.tail _ (.tail _ (.tail _ (.head _))))))).2.2
          · exact Ne.symm (off11 _ (.tail _ (.tail _ (.tail _ (.tail _ (.tail _ (.tail _ (.head _)))))))).2.2
          · exact Ne.symm (off11 _ (.tail _ (.tail _ (.tail _ (.tail _ (.tail _ (.tail _ (.tail _ (.head _))))))))).2.2
          · exact Ne.symm (off11 _ (.tail _ (.tail _ (.tail _ (.tail _ (.tail _ (.tail _ (.tail _ (.tail _ (.head _)))))))))).2.2
          · exact Ne.symm (off11 _ (.tail _ (.tail _ (.tail _ (.tail _ (.tail _ (.tail _ (.tail _ (.tail _ (.tail _ (.head _))))))))))).2.2
        · exact hoffl p hp a ha
  · rintro s' h' tk' ⟨g, hh, tk, m1, I, RI, rwv, nrr, oR, oS, vR, tl, ls, rfl, F, B, X, T, N, hIe, hit, hoR, hoS, hrw, hrl, hsub, hoffl, mp, mf, ms, mw⟩ keep
    rw [← hIe] at keep yI1 yI2 yI3
    have zI := (N _ (.head _)).2
    have t1 : ∀ p ∈ tl, p.1 ≠ I := fun p hp => hoffl p hp _ (.head _)
    have t2 : ∀ p ∈ tl, p.1 ≠ RW := fun p hp => hoffl p hp _ (.tail _ (.head _))
    have F1 := fr_butL F keep (Ne.symm zI.1) zI.2
    have N1 := news_dropL N keep (fun p hp => by
      simp only [List.mem_cons] at hp
      rcases hp with rfl | rfl | rfl | rfl | rfl | rfl | rfl | rfl | hp
      · exact Nat.ne_of_lt yI1
      · exact Nat.ne_of_lt (Nat.lt_trans r1 yI1)
      · exact Nat.ne_of_lt (Nat.lt_trans r2 yI1)
      · exact Nat.ne_of_lt (Nat.lt_trans r3 yI1)
      · exact Nat.ne_of_lt (Nat.lt_trans r4 yI1)
      · exact Nat.ne_of_lt (Nat.lt_trans r5 yI1)
      · exact Nat.ne_of_lt yI2
      · exact Nat.ne_of_lt yI3
      · exact t1 p hp)
    have hps := hps.mono hsub
    have hMps := hMps.mono hsub
    (try clear F); (try clear N); (try clear F3); (try clear N3); (try clear F5); (try clear N5); (try clear F6); (try clear N6)
    clear hit keep zI hoff u6
    (try dsimp only)
    (repeat' (first | (k_unfold; (try dsimp only)) | (k_end; wrow_close) | ((fail_if_success (with_reducible (refine Mine.stop_here ?_ ?_; first | walk_at "s0" | exact Mine.p14 | exact Mine.p20 | exact Mine.p23 | exact Mine.p27 | exact Mine.p28 | exact Mine.p24))); walk1) | (dsimp only; (fail_if_success (with_reducible (refine Mine.stop_here ?_ ?_; first | walk_at "s0" | exact Mine.p14 | exact Mine.p20 | exact Mine.p23 | exact Mine.p27 | exact Mine.p28 | exact Mine.p24))); walk1) | (leave1; walk_say "STEP leave1"; try dsimp only) | walk_at "onk" | fail "no step"))
    refine comp_asg2 (F₀ := F1) (by with_unfolding_all rfl) (by with_unfolding_all rfl) rfl (by decide) ?_
    (repeat' (first | (k_unfold; (try dsimp only)) | (k_end; wrow_close) | ((fail_if_success (with_reducible (refine Mine.stop_here ?_ ?_; first | walk_at "s0" | exact Mine.p14 | exact Mine.p20 | exact Mine.p23 | exact Mine.p27 | exact Mine.p28 | exact Mine.p24))); walk1) | (dsimp only; (fail_if_success (with_reducible (refine Mine.stop_here ?_ ?_; first | walk_at "s0" | exact Mine.p14 | exact Mine.p20 | exact Mine.p23 | exact Mine.p27 | exact Mine.p28 | exact Mine.p24))); walk1) | (leave1; walk_say "STEP leave1"; try dsimp only) | walk_at "onk" | fail "no step"))
    walk1
    (try dsimp only)
    clear hrg
    rename Fr g _ _ _ => F7
    rename News g _ _ _ => N7
    rename IsRange _ _ _ _ _ _ _ _ => hrg
    refine src_range (n := 5) rfl F7 N7 hrg (by decide) (by decide) (by decide) ?_
    intro I3 h22 src lI3
    refine ⟨I3, _, _, _, 5, _, rfl, by decide, src, ?_⟩
    rintro D3 C3 s₃ ⟨h23, rfl⟩ lD3 hDC3
    obtain ⟨led, hled⟩ : ∃ led, led = (RW, listOf rwv.toArray nrr) :: (WA, listOf (M.map fun p => Value.ref p.1).toArray nw) :: (P, listOf pv.toArray np) :: (fA, listOf xv.toArray n2) :: (sA, listOf yv.toArray n3) :: (s1.heap.objs.size + 1 + 1 + 1, w2) :: (s1.heap.objs.size + 1 + 1, oR) :: (s1.heap.objs.size + 1, oS) :: tl := ⟨_, rfl⟩
    have c1 : (RW, listOf rwv.toArray nrr) ∈ led := by rw [hled]; exact .head _
    have c2 : (s1.heap.objs.size + 1, oS) ∈ led := by rw [hled]; exact .tail _ (.tail _ (.tail _ (.tail _ (.tail _ (.tail _ (.tail _ (.head _)))))))
    have c8 : ∀ p ∈ tl, p ∈ led := fun p hp => by rw [hled]; exact .tail _ (.tail _ (.tail _ (.tail _ (.tail _ (.tail _ (.tail _ (.tail _ hp)))))))
    rw [← hled] at src lI3 lD3
    have hrl5 := hrw.len5
    have hrL := hrw.toL
    have hrl : rwv.length = 5 := hrl
    have hls : ls.length = 5 := by rw [← hrL.length]; exact hrl
    refine ⟨fun i ys nw' => (Ex5 fun tq oa ob va vb => Cj5 (nw' = (C3 + 1 + 1, ob) :: (C3 + 1, oa) :: (tq ++ led)) (oa.data = .cell va) (ob.data = .cell vb) ((∀ p ∈ tq, @LT.lt Nat _ (C3 + 1 + 1) p.1)) (PairsN tq ys (shOf ls (rng5.take i)))), fun _ _ _ _ => trivial, ⟨[], cellE, cellE, none, none, by rw [hled]; rfl, rfl, rfl, (fun p hp => nomatch hp), .nil⟩, ?_, ?_⟩
    · rintro i v h tk oI3 oC m₂ ys nw' hi5 ⟨tv, rfl⟩ F8 N8 hC8 off8 ⟨n1, n2, n3⟩ ⟨tq, oa, ob, va, vb, rfl, hoa, hob, ltq, hys⟩
      have off9 := off8.mem
      have w0 : ∀ p ∈ led, @LT.lt Nat _ p.1 C3 := fun p hp => Nat.lt_trans (lD3 p hp) hDC3
      have w1 : ∀ p ∈ led, @LT.lt Nat _ p.1 (C3 + 1) := fun p hp => Nat.lt_trans (w0 p hp) (Nat.lt_succ_self _)
      have w2' : @LT.lt Nat _ D3 (C3 + 1) := Nat.lt_trans hDC3 (Nat.lt_succ_self _)
      have w3 : @LT.lt Nat _ (C3 + 1) (C3 + 1 + 1) := Nat.lt_succ_self _
      refine asg_cell F8 N8 (.tail (Ne.symm (off9 _ (.tail _ (.head _))).1) (.tail (Nat.ne_of_lt (Nat.lt_succ_self _)) (.tail (Nat.ne_of_lt w2') (.tail (Nat.ne_of_gt w3) (.head fun p hp => by
        rcases List.mem_append.mp hp with hp | hp
        · exact Nat.ne_of_gt (Nat.lt_trans w3 (ltq p hp))
        · exact Nat.ne_of_lt (w1 p hp)))))) hoa rfl rfl rfl ?_
      intro h9 oa9 F9 N9 hoa9
      (try dsimp only)
      (try dsimp only at N9)
      (repeat' (first | (k_unfold; (try dsimp only)) | (k_end; wrow_close) | ((fail_if_success (with_reducible (refine Mine.stop_here ?_ ?_; first | walk_at "s0" | exact Mine.p14 | exact Mine.p20 | exact Mine.p23 | exact Mine.p27 | exact Mine.p28 | exact Mine.p24))); walk1) | (dsimp only; (fail_if_success (with_reducible (refine Mine.stop_here ?_ ?_; first | walk_at "s0" | exact Mine.p14 | exact Mine.p20 | exact Mine.p23 | exact Mine.p27 | exact Mine.p28 | exact Mine.p24))); walk1) | (leave1; walk_say "STEP leave1"; try dsimp only) | walk_at "onk" | fail "no step"))
      walk1
      (try dsimp only)
      clear hrg
      rename Fr g _ _ _ => F10
      rename News g _ _ _ => N10
      rename IsRange _ _ _ _ _ _ _ _ => hrg
      refine src_range (n := 5) (news := (C3, oC) :: (D3, LCg.lst ys) :: (I3, oI3) :: ((C3 + 1 + 1, ob) :: (C3 + 1, oa9) :: (tq ++ led))) rfl F10 (fun p hp => N10 p ?_) hrg (by decide) (by decide) (by decide) ?_
      · refine led_go hp ?_
        walk_at "led"
      intro I4 h24 src4 lI4
      have etk := rng5_at i hi5
      refine ⟨I4, _, _, _, oC, _, (C3 + 1 + 1, ob) :: (C3 + 1, oa9) :: (tq ++ led), fun j2 ys2 nw2 => (Ex3 fun tq2 ob2 vb2 => Cj4 (nw2 = (I3, oI3) :: (C3 + 1 + 1, ob2) :: (C3 + 1, oa9) :: (tq2 ++ led)) (ob2.data = .cell vb2) ((∀ p ∈ tq2, @LT.lt Nat _ (C3 + 1 + 1) p.1 ∧ p.1 ≠ I3)) (PairsN tq2 ys2 (shOf ls (rng5.take i) ++ shRow ls (0 + (i : Int)) (rng5.take j2)))),
        fun _ => True, _, _, rfl, rfl, src4, Nat.le_refl _, hC8, ?_, fun _ _ _ _ => trivial, trivial, ⟨tq, ob, vb, rfl, hob, ?_, ?_⟩, ?_, ?_⟩
      · refine LCg.Off3.of fun p hp => ?_
        rcases List.mem_cons.mp hp with rfl | hp
        · exact off9 _ (.head _)
        rcases List.mem_cons.mp hp with rfl | hp
        · exact off9 (C3 + 1, oa) (.tail _ (.head _))
        · exact off9 _ (.tail _ (.tail _ hp))
      · exact fun p hp => ⟨ltq p hp, (off9 p (.tail _ (.tail _ (List.mem_append_left _ hp)))).1⟩
      · have : shRow ls (0 + (i : Int)) (rng5.take 0) = [] := rfl
        rw [this, List.append_nil]; exact hys
      · rintro j2 v2 h25 tk25 oI4 oC4 m₄ ys2 nw2 hj2 ⟨tw, rfl⟩ F25 N25 hC25 off25 ⟨p1, p2, p3⟩ hm4 ⟨tq2, ob2, vb2, rfl, hob2, ltq2, hys2⟩
        have off26 := off25.mem
        refine asg_cell F25 N25 (.tail (Ne.symm (off26 _ (.tail _ (.head _))).1) (.tail (Nat.ne_of_lt (Nat.lt_trans (Nat.lt_succ_self _) w3)) (.tail (Nat.ne_of_lt (Nat.lt_trans w2' w3)) (.tail (Ne.symm (off9 _ (.head _)).1) (.head fun p hp => by
          rcases List.mem_cons.mp hp with rfl | hp
          · exact Nat.ne_of_lt w3
          rcases List.mem_append.mp hp with hp | hp
          · exact Nat.ne_of_gt (ltq2 p hp).1
          · exact Nat.ne_of_lt (Nat.lt_trans (w1 p hp) w3)))))) hob2 rfl rfl rfl ?_
        intro h26 ob26 F26 N26 hob26
        (try dsimp only)
        (try dsimp only at N26)
        have d2 : (s1.heap.objs.size + 1, oS) ∈ tq2 ++ led := List.mem_append_right _ c2
        refine wpAny_tests_one ?_
        (try dsimp only)
        (repeat' (first | (k_unfold; (try dsimp only)) | (k_end; wrow_close) | ((fail_if_success (with_reducible (refine Mine.stop_here ?_ ?_; first | walk_at "s0" | exact Mine.p14 | exact Mine.p20 | exact Mine.p23 | exact Mine.p27 | exact Mine.p28 | exact Mine.p24))); walk1) | (dsimp only; (fail_if_success (with_reducible (refine Mine.stop_here ?_ ?_; first | walk_at "s0" | exact Mine.p14 | exact Mine.p20 | exact Mine.p23 | exact Mine.p27 | exact Mine.p28 | exact Mine.p24))); walk1) | (leave1; walk_say "STEP leave1"; try dsimp only) | walk_at "onk" | fail "no step"))
        refine comp_eval (F₀ := F26) (by with_unfolding_all rfl) rfl (by decide) ?_
        (repeat' (first | (k_unfold; (try dsimp only)) | (k_end; wrow_close) | ((fail_if_success (with_reducible (refine Mine.stop_here ?_ ?_; first | walk_at "s0" | exact Mine.p14 | exact Mine.p20 | exact Mine.p23 | exact Mine.p27 | exact Mine.p28 | exact Mine.p24))); walk1) | (dsimp only; (fail_if_success (with_reducible (refine Mine.stop_here ?_ ?_; first | walk_at "s0" | exact Mine.p14 | exact Mine.p20 | exact Mine.p23 | exact Mine.p27 | exact Mine.p28 | exact Mine.p24))); walk1) | (leave1; walk_say "STEP leave1"; try dsimp only) | walk_at "onk" | fail "no step"))
        obtain ⟨led2, hled2⟩ : ∃ led2, led2 = (I4, oI4) :: (C3, oC4) :: (D3, LCg.lst ys2) :: (I3, oI3) :: (C3 + 1 + 1, ob26) :: (C3 + 1, oa9) :: (tq2 ++ led) := ⟨_, rfl⟩
        have e1 : (RW, listOf rwv.toArray nrr) ∈ led2 := by rw [hled2]; exact .tail _ (.tail _ (.tail _ (.tail _ (.tail _ (.tail _ (List.mem_append_right _ c1))))))
        have e2 : (C3 + 1 + 1, ob26) ∈ led2 := by rw [hled2]; exact .tail _ (.tail _ (.tail _ (.tail _ (.head _))))
        have e3 : (C3 + 1, oa9) ∈ led2 := by rw [hled2]; exact .tail _ (.tail _ (.tail _ (.tail _ (.tail _ (.head _)))))
        have e8 : ∀ p ∈ tl, p ∈ led2 := fun p hp => by rw [hled2]; exact .tail _ (.tail _ (.tail _ (.tail _ (.tail _ (.tail _ (List.mem_append_right _ (c8 p hp)))))))
        rw [← hled2] at N26
        refine src_list (its := rwv.toArray) rfl F26 N26 e1 (by rw [sizeLine_eq]; simp [hrl]) ?_
        intro I5 h27 src5 lI5
        refine ⟨I5, _, _, _, _, rfl, src5, ?_⟩
        rintro D5 C5 s₃ ⟨h28, rfl⟩ lD5 hDC5
        refine ⟨fun k zs nw' => nw' = led2 ∧ RowsL tl zs ((ls.take k).filter (geB (0 + (i : Int)) (0 + (j2 : Int)))), ?_, ⟨rfl, .nil⟩, ?_, ?_⟩
        · rintro k zs nw' ⟨rfl, _⟩
          exact .inr ⟨_, e1, rfl, _, rfl⟩
        · rintro k v h tk oI5 oC5 m5 zs nw' hk hv F30 N30 hC30 off30 ⟨r1', r2', r3'⟩ ⟨rfl, hzs⟩
          have off31 := off30.mem
          have hk5 : k < ls.length := oaD hk hrL.length
          obtain ⟨Dk, pk, nk, hvk, hmk2, hik⟩ := hrL.get k hk5
          obtain rfl : v = .ref Dk := by
            have hv' : rwv[k]? = some v := by simpa using hv
            rw [hvk] at hv'; cases hv'; rfl
          have hl5 : ls[k].length = 5 := hrl5 _ (List.getElem_mem _)
          have etk3 : ls.take (k + 1) = ls.take k ++ [ls[k]] := by rw [List.take_succ, List.getElem?_eq_getElem hk5]; rfl
          refine asg_own F30 N30 (.tail r1' (.head fun p hp => by
            rcases List.mem_cons.mp hp with rfl | hp
            · exact Ne.symm r3'
            · exact (off31 p hp).2.1)) hC30 rfl rfl ?_
          intro h31 oC31 F31 N31 hC31
          (try dsimp only at N31)
          have hx31 : (fun y => if y = Str.ofString "places" then some (Value.ref Dk) else m5 y) (Str.ofString "places") = some (Value.ref Dk) := if_pos rfl
          have hDk := N31.isList (.tail _ (.tail _ (.tail _ (e8 _ hmk2))))
          refine wpAny_tests_one ?_
          (try dsimp only)
          (repeat' (first | (k_unfold; (try dsimp only)) | (k_end; wrow_close) | ((fail_if_success (with_reducible (refine Mine.stop_here ?_ ?_; first | walk_at "s0" | exact Mine.p14 | exact Mine.p20 | exact Mine.p23 | exact Mine.p27 | exact Mine.p28 | exact Mine.p24))); walk1) | (dsimp only; (fail_if_success (with_reducible (refine Mine.stop_here ?_ ?_; first | walk_at "s0" | exact Mine.p14 | exact Mine.p20 | exact Mine.p23 | exact Mine.p27 | exact Mine.p28 | exact Mine.p24))); walk1) | (leave1; walk_say "STEP leave1"; try dsimp only) | walk_at "onk" | fail "no step"))
          refine item_list_ints hDk hik (oa0 _) (oaB hi5 hl5) (oaI hi5) fun t1' => ?_
          (repeat' (first | (k_unfold; (try dsimp only)) | (k_end; wrow_close) | ((fail_if_success (with_reducible (refine Mine.stop_here ?_ ?_; first | walk_at "s0" | exact Mine.p14 | exact Mine.p20 | exact Mine.p23 | exact Mine.p27 | exact Mine.p28 | exact Mine.p24))); walk1) | (dsimp only; (fail_if_success (with_reducible (refine Mine.stop_here ?_ ?_; first | walk_at "s0" | exact Mine.p14 | exact Mine.p20 | exact Mine.p23 | exact Mine.p27 | exact Mine.p28 | exact Mine.p24))); walk1) | (leave1; walk_say "STEP leave1"; try dsimp only) | walk_at "onk" | fail "no step"))
          refine item_list_ints hDk hik (oa0 _) (oaB hj2 hl5) (oaI hj2) fun t2' => ?_
          (repeat' (first | (k_unfold; (try dsimp only)) | (k_end; wrow_close) | ((fail_if_success (with_reducible (refine Mine.stop_here ?_ ?_; first | walk_at "s0" | exact Mine.p14 | exact Mine.p20 | exact Mine.p23 | exact Mine.p27 | exact Mine.p28 | exact Mine.p24))); walk1) | (dsimp only; (fail_if_success (with_reducible (refine Mine.stop_here ?_ ?_; first | walk_at "s0" | exact Mine.p14 | exact Mine.p20 | exact Mine.p23 | exact Mine.p27 | exact Mine.p28 | exact Mine.p24))); walk1) | (leave1; walk_say "STEP leave1"; try dsimp only) | walk_at "onk" | fail "no step"))
          · rename _ ≤ _ => hge
            exact ⟨h31, _, oC31, _, _, rfl, F31, N31, hC31, off30, rfl, by rw [etk3, filtY (show geB _ _ _ = true from decide_eq_true hge)]; exact hzs.append (.cons hmk2 hik .nil)⟩
          · rename ¬ _ => hge
            exact ⟨h31, _, oC31, _, _, rfl, F31, N31, hC31, off30, rfl, by rw [etk3, filtN (show geB _ _ _ = false from decide_eq_false hge)]; exact hzs⟩
        · rintro h tk zs oC5 m5 nw' F30 N30 hC30 off30 hCD5 ⟨rfl, hzs⟩
          have off31 := off30.mem
          have etk2 := rng5_at j2 hj2
          rw [show rwv.toArray.size = ls.length by simp [hrl, hls], List.take_length] at hzs
          refine aend F30 N30 hC30 ?_ ?_
          · intro p hp
            rcases List.mem_cons.mp hp with rfl | hp
            · exact Ne.symm hCD5
            · exact (off31 p hp).2.1
          intro h32 F32 N32
          (try dsimp only)
          (repeat' (first | (k_unfold; (try dsimp only)) | (k_end; wrow_close) | ((fail_if_success (with_reducible (refine Mine.stop_here ?_ ?_; first | walk_at "s0" | exact Mine.p14 | exact Mine.p20 | exact Mine.p23 | exact Mine.p27 | exact Mine.p28 | exact Mine.p24))); walk1) | (dsimp only; (fail_if_success (with_reducible (refine Mine.stop_here ?_ ?_; first | walk_at "s0" | exact Mine.p14 | exact Mine.p20 | exact Mine.p23 | exact Mine.p27 | exact Mine.p28 | exact Mine.p24))); walk1) | (leave1; walk_say "STEP leave1"; try dsimp only) | walk_at "onk" | fail "no step"))
          rename Fr g _ _ _ => F33
          rename News g _ _ _ => N33
          refine' rows_eq_nil (vs := zs) (N33 _ (.tail _ (.head _))).1 (N33 _ (.head _)).1 (hzs.at N33 fun p hp => .tail _ (.tail _ (e8 p hp))) ?b1 ?_
          (case b1 => k_units)
          have off27 : LCg.Off3 I4 C3 D3 ((I3, oI3) :: (C3 + 1 + 1, ob26) :: (C3 + 1, oa9) :: (tq2 ++ led)) := LCg.Off3.of fun p hp => by
            rcases List.mem_cons.mp hp with rfl | hp
            · exact off26 _ (.head _)
            rcases List.mem_cons.mp hp with rfl | hp
            · exact off26 (C3 + 1 + 1, ob2) (.tail _ (.head _))
            · exact off26 p (.tail _ (.tail _ hp))
          subst hled2
          have off28 := off27.mem
          have N34 := News.tail' (News.tail' N33)
          (try clear N33); (try clear N32); (try clear N30); (try clear N26); (try clear N25); (try clear N10); (try clear N9); (try clear N8); (try clear N7); (try clear N1)
          cases hq : decide (ls.filter (geB (0 + (i : Int)) (0 + (j2 : Int))) = []) with
          | false =>
            (repeat' (first | (k_unfold; (try dsimp only)) | (k_end; wrow_close) | ((fail_if_success (with_reducible (refine Mine.stop_here ?_ ?_; first | walk_at "s0" | exact Mine.p14 | exact Mine.p20 | exact Mine.p23 | exact Mine.p27 | exact Mine.p28 | exact Mine.p24))); walk1) | (dsimp only; (fail_if_success (with_reducible (refine Mine.stop_here ?_ ?_; first | walk_at "s0" | exact Mine.p14 | exact Mine.p20 | exact Mine.p23 | exact Mine.p27 | exact Mine.p28 | exact Mine.p24))); walk1) | (leave1; walk_say "STEP leave1"; try dsimp only) | walk_at "onk" | fail "no step"))
            exact ⟨_, _, oC4, _, _, rfl, F33, N34, hC25, off27, trivial, tq2, ob26, _, rfl, hob26, ltq2, by rw [etk2, shRow_snoc, if_neg (by unfold sharedB; rw [hq]; decide), List.append_nil]; exact hys2⟩
          | true =>
            (repeat' (first | (k_unfold; (try dsimp only)) | (k_end; wrow_close) | ((fail_if_success (with_reducible (refine Mine.stop_here ?_ ?_; first | walk_at "s0" | exact Mine.p14 | exact Mine.p20 | exact Mine.p23 | exact Mine.p27 | exact Mine.p28 | exact Mine.p24))); walk1) | (dsimp only; (fail_if_success (with_reducible (refine Mine.stop_here ?_ ?_; first | walk_at "s0" | exact Mine.p14 | exact Mine.p20 | exact Mine.p23 | exact Mine.p27 | exact Mine.p28 | exact Mine.p24))); walk1) | (leave1; walk_say "STEP leave1"; try dsimp only) | walk_at "onk" | fail "no step"))
            rename_i T2 h35 F35 N35 l35
            have q1' : @LT.lt Nat _ I4 T2 := l35.1
            have q2' : @LT.lt Nat _ C3 T2 := l35.2.1
            have q3' : @LT.lt Nat _ D3 T2 := l35.2.2.1
            have q4' : @LT.lt Nat _ I3 T2 := l35.2.2.2.1
            have q5' : @LT.lt Nat _ (C3 + 1 + 1) T2 := l35.2.2.2.2.1
            refine ⟨_, _, oC4, _, (I3, oI3) :: (C3 + 1 + 1, ob26) :: (C3 + 1, oa9) :: (((T2, tup2 (.int (0 + (i : Int)) tv) (.int (0 + (j2 : Int)) tw)) :: tq2) ++ led), rfl, F35, fun p hp => N35 p ?_, hC25, LCg.Off3.of (fun p hp => ?_), trivial, (T2, tup2 (.int (0 + (i : Int)) tv) (.int (0 + (j2 : Int)) tw)) :: tq2, ob26, _, rfl, hob26, fun p hp => ?_, ?_⟩
            · refine led_go hp ?_
              walk_at "led"
            · simp only [List.cons_append, List.mem_cons] at hp
              rcases hp with rfl | rfl | rfl | rfl | hp
              · exact off28 _ (.head _)
              · exact off28 _ (.tail _ (.head _))
              · exact off28 _ (.tail _ (.tail _ (.head _)))
              · exact ⟨Nat.ne_of_gt q1', Nat.ne_of_gt q2', Nat.ne_of_gt q3'⟩
              · exact off28 _ (.tail _ (.tail _ (.tail _ hp)))
            · rcases List.mem_cons.mp hp with rfl | hp
              · exact ⟨q5', Nat.ne_of_gt q4'⟩
              · exact ltq2 p hp
            · rw [etk2, shRow_snoc, if_pos (show sharedB _ _ _ = true from hq), ← List.append_assoc]
              exact (hys2.mono fun p hp => .tail _ hp).append (.cons (.head _) .nil)
      · rintro ys2 nw2 ⟨tq2, ob2, vb2, rfl, hob2, ltq2, hys2⟩
        refine ⟨(C3 + 1 + 1, ob2) :: (C3 + 1, oa9) :: (tq2 ++ led), rfl, LCg.Off3.of (fun p hp => ?_), tq2, oa9, ob2, _, vb2, rfl, hoa9, hob2, (fun p hp => (ltq2 p hp).1), ?_⟩
        · rcases List.mem_cons.mp hp with rfl | hp
          · exact off9 (C3 + 1 + 1, ob) (.head _)
          rcases List.mem_cons.mp hp with rfl | hp
          · exact off9 (C3 + 1, oa) (.tail _ (.head _))
          rcases List.mem_append.mp hp with hp | hp
          · have := (ltq2 p hp).1
            exact ⟨(ltq2 p hp).2, Nat.ne_of_gt (Nat.lt_trans (Nat.lt_trans (Nat.lt_succ_self _) w3) this), Nat.ne_of_gt (Nat.lt_trans (Nat.lt_trans w2' w3) this)⟩
          · exact off9 p (.tail _ (.tail _ (List.mem_append_right _ hp)))
        · rw [etk, shOf_snoc]; exact hys2
    · rintro h tk ysh oC m₂ nw' F8 N8 hC8 off8 hCD3 ⟨tq, oa, ob, va, vb, rfl, hoa, hob, ltq, hys⟩
      have off9 := off8.mem
      (try dsimp only)
      refine wpAny_mono (Q := fun _ s'' => Held _) ?_ (fun _ _ x => x.out) (fun _ _ e => e)
      (repeat' (first | (k_unfold; (try dsimp only)) | (k_end; wrow_close) | ((fail_if_success (with_reducible (refine Mine.stop_here ?_ ?_; first | walk_at "s0" | exact Mine.p14 | exact Mine.p20 | exact Mine.p23 | exact Mine.p27 | exact Mine.p28 | exact Mine.p24))); walk1) | (dsimp only; (fail_if_success (with_reducible (refine Mine.stop_here ?_ ?_; first | walk_at "s0" | exact Mine.p14 | exact Mine.p20 | exact Mine.p23 | exact Mine.p27 | exact Mine.p28 | exact Mine.p24))); walk1) | (leave1; walk_say "STEP leave1"; try dsimp only) | walk_at "onk" | fail "no step"))
      rename Fr g _ _ _ => F9
      rename News g _ _ _ => N9
      refine ⟨aend F9 N9 hC8 ?_ ?_⟩
      · intro p hp
        rcases List.mem_cons.mp hp with rfl | hp
        · exact Ne.symm hCD3
        · exact (off9 p hp).2.1
      intro h10 F10 N10
      (try dsimp only)
      clear src hrg lI3 lD3 off9 off8 hoa hob ltq
      (try clear N9); (try clear N8); (try clear N7); (try clear N1); (try clear F9); (try clear F8); (try clear F7); (try clear F1)
      have hsh : shOf ls rng5 = M.map (·.2) := shared_ways hlow hrw.toP hls hMnd hMpw hMm
      rw [show rng5.take 5 = rng5 from rfl, hsh] at hys
      (repeat' (first | (k_unfold; (try dsimp only)) | (k_end; wrow_close) | ((fail_if_success (with_reducible (refine Mine.stop_here ?_ ?_; first | walk_at "s0" | exact Mine.p14 | exact Mine.p20 | exact Mine.p23 | exact Mine.p27 | exact Mine.p28 | exact Mine.p24))); walk1) | (dsimp only; (fail_if_success (with_reducible (refine Mine.stop_here ?_ ?_; first | walk_at "s0" | exact Mine.p14 | exact Mine.p20 | exact Mine.p23 | exact Mine.p27 | exact Mine.p28 | exact Mine.p24))); walk1) | (leave1; walk_say "STEP leave1"; try dsimp only) | walk_at "onk" | fail "no step"))
      rename Fr g _ _ _ => F11
      rename News g _ _ _ => N11
      have Ntq : News g s1.heap.objs.size _ tq := fun p hp => N11 p (.tail _ (.tail _ (.tail _ (List.mem_append_left _ hp))))
      have Nled : News g s1.heap.objs.size _ led := fun p hp => N11 p (.tail _ (.tail _ (.tail _ (List.mem_append_right _ hp))))
      refine' pairs_ne (N11 _ (.head _)).1 (Nled (WA, listOf (M.map fun p => Value.ref p.1).toArray nw) (by rw [hled]; exact .tail _ (.head _))).1 (hys.at Ntq) (hMps.at fun p hp => Nled p (c8 p hp)) ?b1 ?_
      (case b1 => k_units)
      rw [decide_eq_true rfl]
      clear hys Ntq hsh
      subst hled
      (try clear N11); (try clear N10)
      (repeat' (first | (k_unfold; (try dsimp only)) | (k_end; wrow_close) | ((fail_if_success (with_reducible (refine Mine.stop_here ?_ ?_; first | walk_at "s0" | exact Mine.p14 | exact Mine.p20 | exact Mine.p23 | exact Mine.p27 | exact Mine.p28 | exact Mine.p24))); walk1) | (dsimp only; (fail_if_success (with_reducible (refine Mine.stop_here ?_ ?_; first | walk_at "s0" | exact Mine.p14 | exact Mine.p20 | exact Mine.p23 | exact Mine.p27 | exact Mine.p28 | exact Mine.p24))); walk1) | (leave1; walk_say "STEP leave1"; try dsimp only) | walk_at "onk" | fail "no step"))
      rename Fr g _ _ _ => F12
      rename News g _ _ _ => N12
      rename_i TO hx15 lTO hx16
      have f1 : @LT.lt Nat _ RW TO := lTO.1
      have f2 : @LT.lt Nat _ WA TO := lTO.2.1
      have f3 : @LT.lt Nat _ P TO := lTO.2.2.1
      have f4 : @LT.lt Nat _ fA TO := lTO.2.2.2.1
      have f5 : @LT.lt Nat _ sA TO := lTO.2.2.2.2.1
      have f6 : @LT.lt Nat _ (s1.heap.objs.size + 1 + 1 + 1) TO := lTO.2.2.2.2.2.1
      have f7 : @LT.lt Nat _ (s1.heap.objs.size + 1 + 1) TO := lTO.2.2.2.2.2.2.1
      have f8 : @LT.lt Nat _ (s1.heap.objs.size + 1) TO := lTO.2.2.2.2.2.2.2.1
      have f9 : ∀ p ∈ tl, @LT.lt Nat _ p.1 TO := fun p hp => allLt_mem lTO.2.2.2.2.2.2.2.2 p hp
      refine For_turns (by k_asm) ?_
      (repeat' (first | (k_unfold; (try dsimp only)) | (k_end; wrow_close) | ((fail_if_success (with_reducible (refine Mine.stop_here ?_ ?_; first | walk_at "s0" | exact Mine.p14 | exact Mine.p20 | exact Mine.p23 | exact Mine.p27 | exact Mine.p28 | exact Mine.p24))); walk1) | (dsimp only; (fail_if_success (with_reducible (refine Mine.stop_here ?_ ?_; first | walk_at "s0" | exact Mine.p14 | exact Mine.p20 | exact Mine.p23 | exact Mine.p27 | exact Mine.p28 | exact Mine.p24))); walk1) | (leave1; walk_say "STEP leave1"; try dsimp only) | walk_at "onk" | fail "no step"))
      refine turns_listIn (ax := RW) (vs := rwv) (nv := nrr) (fun i m' nw' => (Ex5 fun nt vt oP vP ts => Cj8 (nw' = (TO, listOf vt.toArray nt) :: (RW, listOf rwv.toArray nrr) :: (WA, listOf (M.map fun p => Value.ref p.1).toArray nw) :: (P, listOf pv.toArray np) :: (fA, listOf xv.toArray n2) :: (sA, listOf yv.toArray n3) :: (s1.heap.objs.size + 1 + 1 + 1, oP) :: (s1.heap.objs.size + 1 + 1, oR) :: (s1.heap.objs.size + 1, oS) :: tl) (oP.data = .cell vP) (IntsAre vt ts) (Tells xs ys (ls.take i) ts) (m' (Str.ofString "first") = some (.ref fA)) (m' (Str.ofString "second") = some (.ref sA)) (m' (Str.ofString "ways") = some (.ref WA)) (m' (Str.ofString "told") = some (.ref TO)))) rfl F12 N12 ?t2 ?t3 ?t4 ?t5
      case t2 =>
        rintro i m' nw' ⟨nt, vt, oP, vP, ts, rfl, _⟩
        exact .tail _ (.head _)
      case t3 =>
        exact ⟨0, [], w2, none, [], rfl, hP', .nil, .nil, (if_neg (by decide)).trans ((if_neg (by decide)).trans mf), (if_neg (by decide)).trans ((if_neg (by decide)).trans ms), (if_neg (by decide)).trans ((if_neg (by decide)).trans mw), if_pos rfl⟩
      case t4 =>
        rintro i v m' nw' h17 tk17 I6 oI6 hv ⟨nt, vt, oP, vP, ts, rfl, hoP, hvt, htells, gf, gs, gw, gt⟩ dI6 F17 N17
        (try clear N12); (try clear F12)
        have hi5 : i < ls.length := by
          rw [← hrL.length]
          exact (List.getElem?_eq_some_iff.mp hv).1
        obtain ⟨Dk, pk, nk, hvk, hmk2, hik⟩ := hrL.get i hi5
        obtain rfl : v = .ref Dk := by rw [hvk] at hv; cases hv; rfl
        have hl5 : ls[i].length = 5 := hrl5 _ (List.getElem_mem _)
        have etk3 : ls.take (i + 1) = ls.take i ++ [ls[i]] := by rw [List.take_succ, List.getElem?_eq_getElem hi5]; rfl
        have k0 : @Ne Nat I6 TO := dI6 _ (.head _)
        have k6 : @Ne Nat I6 (s1.heap.objs.size + 1 + 1 + 1) := dI6 _ (.tail _ (.tail _ (.tail _ (.tail _ (.tail _ (.tail _ (.head _)))))))
        have kt : ∀ p ∈ tl, p.1 ≠ s1.heap.objs.size + 1 + 1 + 1 := fun p hp => hoffl p hp _ (.tail _ (.tail _ (.tail _ (.tail _ (.tail _ (.tail _ (.head _)))))))
        (try dsimp only)
        (repeat' (first | (k_unfold; (try dsimp only)) | (k_end; wrow_close) | ((fail_if_success (with_reducible (refine Mine.stop_here ?_ ?_; first | walk_at "s0" | exact Mine.p14 | exact Mine.p20 | exact Mine.p23 | exact Mine.p27 | exact Mine.p28 | exact Mine.p24))); walk1) | (dsimp only; (fail_if_success (with_reducible (refine Mine.stop_here ?_ ?_; first | walk_at "s0" | exact Mine.p14 | exact Mine.p20 | exact Mine.p23 | exact Mine.p27 | exact Mine.p28 | exact Mine.p24))); walk1) | (leave1; walk_say "STEP leave1"; try dsimp only) | walk_at "onk" | fail "no step"))
        rename Fr g _ _ _ => F18
        rename News g _ _ _ => N18
        rename_i h18 o18 do18
        have ho18 : o18.data = .cell (some (.ref Dk)) := do18
        clear do18
        have xhlen := hxv.length
        have yhlen := hyv.length
        obtain ⟨led3, hled3⟩ : ∃ led3, led3 = (I6, oI6) :: (TO, listOf vt.toArray nt) :: (RW, listOf rwv.toArray nrr) :: (WA, listOf (M.map fun p => Value.ref p.1).toArray nw) :: (P, listOf pv.toArray np) :: (fA, listOf xv.toArray n2) :: (sA, listOf yv.toArray n3) :: (s1.heap.objs.size + 1 + 1 + 1, o18) :: (s1.heap.objs.size + 1 + 1, oR) :: (s1.heap.objs.size + 1, oS) :: tl := ⟨_, rfl⟩
        have g1 : (fA, listOf xv.toArray n2) ∈ led3 := by rw [hled3]; exact .tail _ (.tail _ (.tail _ (.tail _ (.tail _ (.head _)))))
        have g2 : (sA, listOf yv.toArray n3) ∈ led3 := by rw [hled3]; exact .tail _ (.tail _ (.tail _ (.tail _ (.tail _ (.tail _ (.head _))))))
        have g3' : (s1.heap.objs.size + 1 + 1 + 1, o18) ∈ led3 := by rw [hled3]; exact .tail _ (.tail _ (.tail _ (.tail _ (.tail _ (.tail _ (.tail _ (.head _)))))))
        have gl : ∀ p ∈ tl, p ∈ led3 := fun p hp => by rw [hled3]; exact .tail _ (.tail _ (.tail _ (.tail _ (.tail _ (.tail _ (.tail _ (.tail _ (.tail _ (.tail _ hp)))))))))
        have N18 : News g s1.heap.objs.size _ led3 := hled3 ▸ N18
        refine comp_eval (F₀ := F18) (by with_unfolding_all rfl) rfl (by decide) ?_
        (repeat' (first | (k_unfold; (try dsimp only)) | (k_end; wrow_close) | ((fail_if_success (with_reducible (refine Mine.stop_here ?_ ?_; first | walk_at "s0" | exact Mine.p14 | exact Mine.p20 | exact Mine.p23 | exact Mine.p27 | exact Mine.p28 | exact Mine.p24))); walk1) | (dsimp only; (fail_if_success (with_reducible (refine Mine.stop_here ?_ ?_; first | walk_at "s0" | exact Mine.p14 | exact Mine.p20 | exact Mine.p23 | exact Mine.p27 | exact Mine.p28 | exact Mine.p24))); walk1) | (leave1; walk_say "STEP leave1"; try dsimp only) | walk_at "onk" | fail "no step"))
        refine src_list (its := xv.toArray) rfl F18 N18 g1 (oaE xhlen lx (by decide)) ?_
        intro I5 h27 src5 lI5
        refine ⟨I5, _, _, _, _, rfl, src5, ?_⟩
        rintro D5 C5 s₃ ⟨h28, rfl⟩ lD5 hDC5
        refine ⟨fun k zs nw' => nw' = led3 ∧ IntsAre zs (fallRow ls[i] (xs.take k)), ?_, ⟨rfl, .nil⟩, ?_, ?_⟩
        · rintro k zs nw' ⟨rfl, _⟩
          exact .inr ⟨_, g1, rfl, _, rfl⟩
        · rintro k v h tk oI5 oC5 m5 zs nw' hk hv F30 N30 hC30 off30 ⟨r1', r2', r3'⟩ ⟨rfl, hzs⟩
          have off31 := off30.mem
          have hkx : k < xs.length := oaD hk xhlen
          obtain ⟨ta, rfl⟩ : ∃ ta, v = .int xs[k] ta := by
            obtain ⟨tv, e⟩ := hxv.get k _ (List.getElem?_eq_getElem hkx)
            have hv' : xv[k]? = some v := by simpa using hv
            rw [e] at hv'; cases hv'; exact ⟨tv, rfl⟩
          have hsm := sx _ (List.getElem_mem hkx)
          refine asg_own F30 N30 (.tail r1' (.head fun p hp => by
            rcases List.mem_cons.mp hp with rfl | hp
            · exact Ne.symm r3'
            · exact (off31 p hp).2.1)) hC30 rfl rfl ?_
          intro h31 oC31 F31 N31 hC31
          (try dsimp only at N31)
          have hx31 : (fun y => if y = Str.ofString "thing" then some (Value.int xs[k] ta) else m5 y) (Str.ofString "thing") = some (Value.int xs[k] ta) := if_pos rfl
          have hDk := N31.isList (.tail _ (.tail _ (.tail _ (gl _ hmk2))))
          (repeat' (first | (k_unfold; (try dsimp only)) | (k_end; wrow_close) | ((fail_if_success (with_reducible (refine Mine.stop_here ?_ ?_; first | walk_at "s0" | exact Mine.p14 | exact Mine.p20 | exact Mine.p23 | exact Mine.p27 | exact Mine.p28 | exact Mine.p24))); walk1) | (dsimp only; (fail_if_success (with_reducible (refine Mine.stop_here ?_ ?_; first | walk_at "s0" | exact Mine.p14 | exact Mine.p20 | exact Mine.p23 | exact Mine.p27 | exact Mine.p28 | exact Mine.p24))); walk1) | (leave1; walk_say "STEP leave1"; try dsimp only) | walk_at "onk" | fail "no step"))
          refine item_list_ints hDk hik hsm.1 (oaG hsm.2 hl5) (oaJ hsm.2) fun t1' => ?_
          exact ⟨h31, _, oC31, _, _, rfl, F31, N31, hC31, off30, rfl, by rw [List.take_succ, List.getElem?_eq_getElem hkx]; unfold fallRow; rw [List.map_append]; exact hzs.append (.cons _ _ .nil)⟩
        rintro h tk zs oC5 m5 nw' F30 N30 hC30 off30 hCD5 ⟨rfl, hzs⟩
        have off31 := off30.mem
        rw [show xv.toArray.size = xs.length by simpa using xhlen, List.take_length] at hzs
        refine aend F30 N30 hC30 ?_ ?_
        · intro p hp
          rcases List.mem_cons.mp hp with rfl | hp
          · exact Ne.symm hCD5
          · exact (off31 p hp).2.1
        intro h32 F32 N32
        (try dsimp only)
        clear src5
        (repeat' (first | (k_unfold; (try dsimp only)) | (k_end; wrow_close) | ((fail_if_success (with_reducible (refine Mine.stop_here ?_ ?_; first | walk_at "s0" | exact Mine.p14 | exact Mine.p20 | exact Mine.p23 | exact Mine.p27 | exact Mine.p28 | exact Mine.p24))); walk1) | (dsimp only; (fail_if_success (with_reducible (refine Mine.stop_here ?_ ?_; first | walk_at "s0" | exact Mine.p14 | exact Mine.p20 | exact Mine.p23 | exact Mine.p27 | exact Mine.p28 | exact Mine.p24))); walk1) | (leave1; walk_say "STEP leave1"; try dsimp only) | walk_at "onk" | fail "no step"))
        have zlen := hzs.length
        have zlen2 : (fallRow ls[i] xs).length = xs.length := by simp [fallRow]
        refine sorted_N_rev F32 N32 (N32.isList (.head _)) hzs (oaK zlen zlen2 lx (by decide)) ?_
        intro h33 va' as' e33 F33 N33 hva hperm hord
        (try dsimp only)
        (try clear N32); (try clear N18); (try clear F18)
        (repeat' (first | (k_unfold; (try dsimp only)) | (k_end; wrow_close) | ((fail_if_success (with_reducible (refine Mine.stop_here ?_ ?_; first | walk_at "s0" | exact Mine.p14 | exact Mine.p20 | exact Mine.p23 | exact Mine.p27 | exact Mine.p28 | exact Mine.p24))); walk1) | (dsimp only; (fail_if_success (with_reducible (refine Mine.stop_here ?_ ?_; first | walk_at "s0" | exact Mine.p14 | exact Mine.p20 | exact Mine.p23 | exact Mine.p27 | exact Mine.p28 | exact Mine.p24))); walk1) | (leave1; walk_say "STEP leave1"; try dsimp only) | walk_at "onk" | fail "no step"))
        rename Fr g _ _ _ => F35
        rename News g _ _ _ => N35
        (try clear N33); (try clear F33)
        (try dsimp only at F35 N35)
        obtain ⟨S1, hS1⟩ : ∃ S1, S1 = h32.objs.size + 1 := ⟨_, rfl⟩
        rw [← hS1] at F35 N35
        obtain ⟨led4, hled4⟩ : ∃ led4, led4 = (S1, seqObj "list" va'.toArray e33) :: (D5, LCg.lst zs) :: nw' := ⟨_, rfl⟩
        rw [← hled4] at N35
        have g2 : (sA, listOf yv.toArray n3) ∈ led4 := by rw [hled4]; exact .tail _ (.tail _ g2)
        have g3' : (s1.heap.objs.size + 1 + 1 + 1, o18) ∈ led4 := by rw [hled4]; exact .tail _ (.tail _ g3')
        have gS : (S1, seqObj "list" va'.toArray e33) ∈ led4 := by rw [hled4]; exact .head _
        have gl : ∀ p ∈ tl, p ∈ led4 := fun p hp => by rw [hled4]; exact .tail _ (.tail _ (gl p hp))
        refine comp_eval (F₀ := F35) (by with_unfolding_all rfl) rfl (by decide) ?_
        (repeat' (first | (k_unfold; (try dsimp only)) | (k_end; wrow_close) | ((fail_if_success (with_reducible (refine Mine.stop_here ?_ ?_; first | walk_at "s0" | exact Mine.p14 | exact Mine.p20 | exact Mine.p23 | exact Mine.p27 | exact Mine.p28 | exact Mine.p24))); walk1) | (dsimp only; (fail_if_success (with_reducible (refine Mine.stop_here ?_ ?_; first | walk_at "s0" | exact Mine.p14 | exact Mine.p20 | exact Mine.p23 | exact Mine.p27 | exact Mine.p28 | exact Mine.p24))); walk1) | (leave1; walk_say "STEP leave1"; try dsimp only) | walk_at "onk" | fail "no step"))
        refine src_list (its := yv.toArray) rfl F35 N35 g2 (oaE yhlen ly (by decide)) ?_
        intro I5 h27 src5 lI5
        refine ⟨I5, _, _, _, _, rfl, src5, ?_⟩
        rintro D7 C7 s₃ ⟨h28, rfl⟩ lD7 hDC7
        refine ⟨fun k zt nw5 => nw5 = led4 ∧ IntsAre zt (fallRow ls[i] (ys.take k)), ?_, ⟨rfl, .nil⟩, ?_, ?_⟩
        · rintro k zt nw5 ⟨rfl, _⟩
          exact .inr ⟨_, g2, rfl, _, rfl⟩
        · rintro k v h tk oI5 oC7 m5 zt nw5 hk hv F30 N30 hC30 off30 ⟨r1', r2', r3'⟩ ⟨rfl, hzt⟩
          have off31 := off30.mem
          have hkx : k < ys.length := oaD hk yhlen
          obtain ⟨ta, rfl⟩ : ∃ ta, v = .int ys[k] ta := by
            obtain ⟨tv, e⟩ := hyv.get k _ (List.getElem?_eq_getElem hkx)
            have hv' : yv[k]? = some v := by simpa using hv
            rw [e] at hv'; cases hv'; exact ⟨tv, rfl⟩
          have hsm := sy _ (List.getElem_mem hkx)
          refine asg_own F30 N30 (.tail r1' (.head fun p hp => by
            rcases List.mem_cons.mp hp with rfl | hp
            · exact Ne.symm r3'
            · exact (off31 p hp).2.1)) hC30 rfl rfl ?_
          intro h31 oC31 F31 N31 hC31
          (try dsimp only at N31)
          have hx31 : (fun y => if y = Str.ofString "thing" then some (Value.int ys[k] ta) else m5 y) (Str.ofString "thing") = some (Value.int ys[k] ta) := if_pos rfl
          have hDk := N31.isList (.tail _ (.tail _ (.tail _ (gl _ hmk2))))
          (repeat' (first | (k_unfold; (try dsimp only)) | (k_end; wrow_close) | ((fail_if_success (with_reducible (refine Mine.stop_here ?_ ?_; first | walk_at "s0" | exact Mine.p14 | exact Mine.p20 | exact Mine.p23 | exact Mine.p27 | exact Mine.p28 | exact Mine.p24))); walk1) | (dsimp only; (fail_if_success (with_reducible (refine Mine.stop_here ?_ ?_; first | walk_at "s0" | exact Mine.p14 | exact Mine.p20 | exact Mine.p23 | exact Mine.p27 | exact Mine.p28 | exact Mine.p24))); walk1) | (leave1; walk_say "STEP leave1"; try dsimp only) | walk_at "onk" | fail "no step"))
          refine item_list_ints hDk hik hsm.1 (oaG hsm.2 hl5) (oaJ hsm.2) fun t1' => ?_
          exact ⟨h31, _, oC31, _, _, rfl, F31, N31, hC31, off30, rfl, by rw [List.take_succ, List.getElem?_eq_getElem hkx]; unfold fallRow; rw [List.map_append]; exact hzt.append (.cons _ _ .nil)⟩
        rintro h tk zt oC7 m5 nw5 F30 N30 hC30 off30 hCD7 ⟨rfl, hzt⟩
        have off31 := off30.mem
        rw [show yv.toArray.size = ys.length by simpa using yhlen, List.take_length] at hzt
        refine aend F30 N30 hC30 ?_ ?_
        · intro p hp
          rcases List.mem_cons.mp hp with rfl | hp
          · exact Ne.symm hCD7
          · exact (off31 p hp).2.1
        intro h42 F42 N42
        (try dsimp only)
        clear src5
        (repeat' (first | (k_unfold; (try dsimp only)) | (k_end; wrow_close) | ((fail_if_success (with_reducible (refine Mine.stop_here ?_ ?_; first | walk_at "s0" | exact Mine.p14 | exact Mine.p20 | exact Mine.p23 | exact Mine.p27 | exact Mine.p28 | exact Mine.p24))); walk1) | (dsimp only; (fail_if_success (with_reducible (refine Mine.stop_here ?_ ?_; first | walk_at "s0" | exact Mine.p14 | exact Mine.p20 | exact Mine.p23 | exact Mine.p27 | exact Mine.p28 | exact Mine.p24))); walk1) | (leave1; walk_say "STEP leave1"; try dsimp only) | walk_at "onk" | fail "no step"))
        have ylen := hzt.length
        have ylen2 : (fallRow ls[i] ys).length = ys.length := by simp [fallRow]
        refine sorted_N_rev F42 N42 (N42.isList (.head _)) hzt (oaK ylen ylen2 ly (by decide)) ?_
        intro h43 vb' bs' e43 F43 N43 hvb hperm2 hord2
        (try dsimp only)
        (try clear N42); (try clear N35); (try clear F35)
        clear off31 off30 hC30 F30 N30 F42 lI5 lD7 hCD7
        (try dsimp only at F43 N43)
        obtain ⟨S2, hS2⟩ : ∃ S2, S2 = h42.objs.size + 1 := ⟨_, rfl⟩
        rw [← hS2] at N43
        rw [← hS2]
        have N44 : News g s1.heap.objs.size h43 ((S2, seqObj "list" vb'.toArray e43) :: (S1, seqObj "list" va'.toArray e33) :: (I6, oI6) :: (TO, listOf vt.toArray nt) :: (RW, listOf rwv.toArray nrr) :: (WA, listOf (M.map fun p => Value.ref p.1).toArray nw) :: (P, listOf pv.toArray np) :: (fA, listOf xv.toArray n2) :: (sA, listOf yv.toArray n3) :: (s1.heap.objs.size + 1 + 1 + 1, o18) :: (s1.heap.objs.size + 1 + 1, oR) :: (s1.heap.objs.size + 1, oS) :: tl) := fun p hp => N43 p (by
          rw [hled4, hled3]
          refine led_go hp ?_
          walk_at "led")
        clear N43 g1 g2 g3' gl gS
        (repeat' (first | (k_unfold; (try dsimp only)) | (k_end; wrow_close) | ((fail_if_success (with_reducible (refine Mine.stop_here ?_ ?_; first | walk_at "s0" | exact Mine.p14 | exact Mine.p20 | exact Mine.p23 | exact Mine.p27 | exact Mine.p28 | exact Mine.p24))); walk1) | (dsimp only; (fail_if_success (with_reducible (refine Mine.stop_here ?_ ?_; first | walk_at "s0" | exact Mine.p14 | exact Mine.p20 | exact Mine.p23 | exact Mine.p27 | exact Mine.p28 | exact Mine.p24))); walk1) | (leave1; walk_say "STEP leave1"; try dsimp only) | walk_at "onk" | fail "no step"))
        rename Fr g _ _ _ => F45
        rename News g _ _ _ => N45
        refine' cmpT (xs := as') (ys := bs') ?b1 ?b2 ?b3 ?b4 ?b5 ?b6 ?b7 N45 (.tail _ (.head _)) (.head _) hva hvb ?_
        (case b1 => k_asm); (case b2 => k_asm); (case b3 => k_asm); (case b4 => k_asm); (case b5 => first | exact rfl | assumption); (case b6 => ktr_room); (case b7 => ktr_units)
        intro h46 tk46 t46 F46 N46
        (try dsimp only)
        replace N46 := News.tail' (News.tail' N46)
        (try clear N44); (try clear N45); (try clear F43); (try clear F45); (try clear N42); (try clear N35)
        have hts : ts.length = i := htells.len.symm.trans (List.length_take_of_le (Nat.le_of_lt hi5))
        have htv : vt.length = i := by rw [hvt.length, hts]
        (repeat' (first | (k_unfold; (try dsimp only)) | (k_end; wrow_close) | ((fail_if_success (with_reducible (refine Mine.stop_here ?_ ?_; first | walk_at "s0" | exact Mine.p14 | exact Mine.p20 | exact Mine.p23 | exact Mine.p27 | exact Mine.p28 | exact Mine.p24))); walk1) | (dsimp only; (fail_if_success (with_reducible (refine Mine.stop_here ?_ ?_; first | walk_at "s0" | exact Mine.p14 | exact Mine.p20 | exact Mine.p23 | exact Mine.p27 | exact Mine.p28 | exact Mine.p24))); walk1) | (leave1; walk_say "STEP leave1"; try dsimp only) | walk_at "onk" | fail "no step"))
        rename Fr g _ _ _ => F47
        rename News g _ _ _ => N47
        rw [List.push_toArray] at N47
        refine ⟨_, _, _, _, rfl, F47, N47, ?_, _, _, o18, _, ts ++ [_], rfl, ho18, hvt.append (.cons _ _ .nil), ?_, ?_, ?_, ?_, ?_⟩
        · intro p hp q hq
          rw [List.mem_singleton.mp hp]
          have dI7 := dI6
          simp only [List.mem_cons] at hq
          simp only [List.forall_mem_cons] at dI7
          obtain ⟨u1, u2, u3, u4, u5, u6, u7, u8, u9, u10⟩ := dI7
          rcases hq with rfl | rfl | rfl | rfl | rfl | rfl | rfl | rfl | rfl | hq
          · exact u1
          · exact u2
          · exact u3
          · exact u4
          · exact u5
          · exact u6
          · exact u7
          · exact u8
          · exact u9
          · exact u10 q hq
        · rw [etk3]
          exact htells.snoc ⟨as', bs', hperm, hord, hperm2, hord2, rfl⟩
        · exact (if_neg (by decide)).trans ((if_neg (by decide)).trans gf)
        · exact (if_neg (by decide)).trans ((if_neg (by decide)).trans gs)
        · exact (if_neg (by decide)).trans ((if_neg (by decide)).trans gw)
        · exact (if_neg (by decide)).trans ((if_neg (by decide)).trans gt)
      case t5 =>
        rintro m' nw' h17 tk17 ⟨nt, vt, oP, vP, ts, rfl, hoP, hvt, htells, gf, gs, gw, gt⟩ F17 N17
        (try clear N12); (try clear F12)
        rw [hrl, ← hls, List.take_length] at htells
        (try dsimp only)
        (repeat' (first | (k_unfold; (try dsimp only)) | (k_end; wrow_close) | ((fail_if_success (with_reducible (refine Mine.stop_here ?_ ?_; first | walk_at "s0" | exact Mine.p14 | exact Mine.p20 | exact Mine.p23 | exact Mine.p27 | exact Mine.p28 | exact Mine.p24))); walk1) | (dsimp only; (fail_if_success (with_reducible (refine Mine.stop_here ?_ ?_; first | walk_at "s0" | exact Mine.p14 | exact Mine.p20 | exact Mine.p23 | exact Mine.p27 | exact Mine.p28 | exact Mine.p24))); walk1) | (leave1; walk_say "STEP leave1"; try dsimp only) | walk_at "onk" | fail "no step"))
        have hts : ts.length = 5 := by rw [← htells.len]; exact hls
        have htv : vt.length = 5 := by rw [hvt.length, hts]
        have xhlen := hxv.length
        have yhlen := hyv.length
        refine list_copyK F17 N17 (N17.isList (.tail _ (.tail _ (.tail _ (.tail _ (.head _)))))) ?_ (oaE xhlen lx (by decide))
        intro A1 k1 h18 F18 N18 lA1
        (try dsimp only)
        (try clear F17); (try clear N17)
        (repeat' (first | (k_unfold; (try dsimp only)) | (k_end; wrow_close) | ((fail_if_success (with_reducible (refine Mine.stop_here ?_ ?_; first | walk_at "s0" | exact Mine.p14 | exact Mine.p20 | exact Mine.p23 | exact Mine.p27 | exact Mine.p28 | exact Mine.p24))); walk1) | (dsimp only; (fail_if_success (with_reducible (refine Mine.stop_here ?_ ?_; first | walk_at "s0" | exact Mine.p14 | exact Mine.p20 | exact Mine.p23 | exact Mine.p27 | exact Mine.p28 | exact Mine.p24))); walk1) | (leave1; walk_say "STEP leave1"; try dsimp only) | walk_at "onk" | fail "no step"))
        refine list_copyK F18 N18 (N18.isList (.tail _ (.tail _ (.tail _ (.tail _ (.tail _ (.tail _ (.head _)))))))) ?_ (oaE yhlen ly (by decide))
        intro A2 k2 h19 F19 N19 lA2
        (try dsimp only)
        (repeat' (first | (k_unfold; (try dsimp only)) | (k_end; wrow_close) | ((fail_if_success (with_reducible (refine Mine.stop_here ?_ ?_; first | walk_at "s0" | exact Mine.p14 | exact Mine.p20 | exact Mine.p23 | exact Mine.p27 | exact Mine.p28 | exact Mine.p24))); walk1) | (dsimp only; (fail_if_success (with_reducible (refine Mine.stop_here ?_ ?_; first | walk_at "s0" | exact Mine.p14 | exact Mine.p20 | exact Mine.p23 | exact Mine.p27 | exact Mine.p28 | exact Mine.p24))); walk1) | (leave1; walk_say "STEP leave1"; try dsimp only) | walk_at "onk" | fail "no step"))
        obtain ⟨led6, hled6⟩ : ∃ led6, led6 = (TO, listOf vt.toArray nt) :: (RW, listOf rwv.toArray nrr) :: (WA, listOf (M.map fun p => Value.ref p.1).toArray nw) :: (P, listOf pv.toArray np) :: (fA, listOf xv.toArray n2) :: (sA, listOf yv.toArray n3) :: (s1.heap.objs.size + 1 + 1 + 1, oP) :: (s1.heap.objs.size + 1 + 1, oR) :: (s1.heap.objs.size + 1, oS) :: tl := ⟨_, rfl⟩
        rw [← hled6] at lA1 lA2 N18 N19
        have a12 : @LT.lt Nat _ A1 A2 := lA2 _ (.head _)
        refine' uldT (xs := xs) (ys := ys) (rest := led6) ?b1 ?b2 ?b3 ?b4 ?b5 ?b6 ?b7 KX T0 (fun b hb => nomatch hb) (fun p hp => N19 p (by
          refine led_go hp ?_
          walk_at "led")) (Nat.ne_of_lt a12) (fun p hp => ⟨Nat.ne_of_lt (lA1 p hp), Nat.ne_of_lt (lA2 p (.tail _ hp))⟩) hxv hyv (Nat.le_trans lx (by decide)) (Nat.le_trans ly (by decide)) ?_
        (case b1 => k_asm); (case b2 => k_asm); (case b3 => k_asm); (case b4 => k_asm); (case b5 => first | exact rfl | assumption); (case b6 => ktr_room); (case b7 => ktr_units)
        intro g5 h20 tk20 TU LM vm vl nm nl KT5 F20 B5 X5 T5 D5 N20 hmis hlft dTU
        (try clear F18); (try clear N18); (try clear F19); (try clear N19); (try clear F); (try clear N); (try clear F1); (try clear N1)
        (try dsimp only)
        rw [hled6] at N20
        clear dTU lA1 lA2 hled6
        clear mp mf ms mw t1 t2 yI1 yI2 yI3 r1 r2 r3 r4 r5 r8 hoffl gf gs f1 f2 f3 f4 f5 f6 f7 f8 f9 c1 c2 c8 lTO
        (try dsimp only)
        obtain ⟨e1, e2, e3⟩ := law_bags hlow hrw.toP hls htells sx sy hMm
        have lens := uld_len lx ly (xs := xs) (ys := ys)
        generalize uld xs.reverse ys = U at *
        (repeat' (first | (k_unfold; (try dsimp only)) | (k_end; wrow_close) | ((fail_if_success (with_reducible (refine Mine.stop_here ?_ ?_; first | walk_at "s0" | exact Mine.p14 | exact Mine.p20 | exact Mine.p23 | exact Mine.p27 | exact Mine.p28 | exact Mine.p24))); walk1) | (dsimp only; (fail_if_success (with_reducible (refine Mine.stop_here ?_ ?_; first | walk_at "s0" | exact Mine.p14 | exact Mine.p20 | exact Mine.p23 | exact Mine.p27 | exact Mine.p28 | exact Mine.p24))); walk1) | (leave1; walk_say "STEP leave1"; try dsimp only) | walk_at "onk" | fail "no step"))
        rename Fr g5 _ _ _ => F21
        rename News g5 _ _ _ => N21
        (try clear F20); (try clear N20)
        refine' aboveT (ps := M.map (·.2)) ?b1 ?b2 ?b3 ?b4 ?b5 ?b6 ?b7 KX T0 (fun b hb => nomatch hb) N21 (N21 _ (.tail _ (.head _))).1 (N21 _ (.tail _ (.tail _ (.head _)))).1 (N21 _ (.tail _ (.tail _ (.tail _ (.tail _ (.tail _ (.head _))))))).1 hmis hlft (hMps.at fun p hp => N21 p (.tail _ (.tail _ (.tail _ (.tail _ (.tail _ (.tail _ (.tail _ (.tail _ (.tail _ (.tail _ (.tail _ (.tail _ hp))))))))))))) ?_
        (case b1 => k_asm); (case b2 => k_asm); (case b3 => k_asm); (case b4 => k_asm); (case b5 => first | exact rfl | assumption); (case b6 => ktr_room); (case b7 => ktr_units)
        intro g6 h22 tk22 KT6 F22 B6 X6 T6 D6 N22
        (try dsimp only)
        (try clear F21); (try clear N21); (try clear B5); (try clear X5); (try clear T5); (try clear D5); (try clear KT5); (try clear KT6)
        (repeat' (first | (k_unfold; (try dsimp only)) | (k_end; wrow_close) | ((fail_if_success (with_reducible (refine Mine.stop_here ?_ ?_; first | walk_at "s0" | exact Mine.p14 | exact Mine.p20 | exact Mine.p23 | exact Mine.p27 | exact Mine.p28 | exact Mine.p24))); walk1) | (dsimp only; (fail_if_success (with_reducible (refine Mine.stop_here ?_ ?_; first | walk_at "s0" | exact Mine.p14 | exact Mine.p20 | exact Mine.p23 | exact Mine.p27 | exact Mine.p28 | exact Mine.p24))); walk1) | (leave1; walk_say "STEP leave1"; try dsimp only) | walk_at "onk" | fail "no step"))
        rename Fr g6 _ _ _ => F23
        rename News g6 _ _ _ => N23
        (try clear F22); (try clear N22)
        refine' eq_intsK (vs := vt) (us := [_, _, _, _, _]) (ns := ts) (ms := [1, 1, 1, 1, 1]) (N23.isList (.tail _ (.tail _ (.tail _ (.tail _ (.head _)))))) hvt (N23.isList (.head _)) (.cons _ _ (.cons _ _ (.cons _ _ (.cons _ _ (.cons _ _ .nil))))) ?b1 ?_
        (case b1 => k_units)
        (try dsimp only)
        rw [e1]
        refine ne_bool ?_
        rw [bne_self_eq_false]
        (try dsimp only)
        (repeat' (first | (k_unfold; (try dsimp only)) | (k_end; wrow_close) | ((fail_if_success (with_reducible (refine Mine.stop_here ?_ ?_; first | walk_at "s0" | exact Mine.p14 | exact Mine.p20 | exact Mine.p23 | exact Mine.p27 | exact Mine.p28 | exact Mine.p24))); walk1) | (dsimp only; (fail_if_success (with_reducible (refine Mine.stop_here ?_ ?_; first | walk_at "s0" | exact Mine.p14 | exact Mine.p20 | exact Mine.p23 | exact Mine.p27 | exact Mine.p28 | exact Mine.p24))); walk1) | (leave1; walk_say "STEP leave1"; try dsimp only) | walk_at "onk" | fail "no step"))
        replace N23 := News.tail' N23
        refine' aboveT (ps := M.map (·.2)) ?b1 ?b2 ?b3 ?b4 ?b5 ?b6 ?b7 KX T0 (fun b hb => nomatch hb) N23 (N23 _ (.tail _ (.tail _ (.head _)))).1 (N23 _ (.tail _ (.head _))).1 (N23 _ (.tail _ (.tail _ (.tail _ (.tail _ (.tail _ (.head _))))))).1 hlft hmis (hMps.at fun p hp => N23 p (.tail _ (.tail _ (.tail _ (.tail _ (.tail _ (.tail _ (.tail _ (.tail _ (.tail _ (.tail _ (.tail _ (.tail _ hp))))))))))))) ?_
        (case b1 => k_asm); (case b2 => k_asm); (case b3 => k_asm); (case b4 => k_asm); (case b5 => first | exact rfl | assumption); (case b6 => ktr_room); (case b7 => ktr_units)
        intro g7 h24 tk24 KT7 F24 B7 X7 T7 D7 N24
        (try dsimp only)
        (try clear F23); (try clear N23); (try clear B6); (try clear X6); (try clear T6); (try clear D6); (try clear KT7)
        (repeat' (first | (k_unfold; (try dsimp only)) | (k_end; wrow_close) | ((fail_if_success (with_reducible (refine Mine.stop_here ?_ ?_; first | walk_at "s0" | exact Mine.p14 | exact Mine.p20 | exact Mine.p23 | exact Mine.p27 | exact Mine.p28 | exact Mine.p24))); walk1) | (dsimp only; (fail_if_success (with_reducible (refine Mine.stop_here ?_ ?_; first | walk_at "s0" | exact Mine.p14 | exact Mine.p20 | exact Mine.p23 | exact Mine.p27 | exact Mine.p28 | exact Mine.p24))); walk1) | (leave1; walk_say "STEP leave1"; try dsimp only) | walk_at "onk" | fail "no step"))
        rename Fr g7 _ _ _ => F25
        rename News g7 _ _ _ => N25
        (try clear F24); (try clear N24)
        refine' eq_intsK (vs := vt) (us := [_, _, _, _, _]) (ns := ts) (ms := [-1, -1, -1, -1, -1]) (N25.isList (.tail _ (.tail _ (.tail _ (.tail _ (.head _)))))) hvt (N25.isList (.head _)) (.cons _ _ (.cons _ _ (.cons _ _ (.cons _ _ (.cons _ _ .nil))))) ?b1 ?_
        (case b1 => k_units)
        (try dsimp only)
        rw [e2]
        refine ne_bool ?_
        rw [bne_self_eq_false]
        (try dsimp only)
        (repeat' (first | (k_unfold; (try dsimp only)) | (k_end; wrow_close) | ((fail_if_success (with_reducible (refine Mine.stop_here ?_ ?_; first | walk_at "s0" | exact Mine.p14 | exact Mine.p20 | exact Mine.p23 | exact Mine.p27 | exact Mine.p28 | exact Mine.p24))); walk1) | (dsimp only; (fail_if_success (with_reducible (refine Mine.stop_here ?_ ?_; first | walk_at "s0" | exact Mine.p14 | exact Mine.p20 | exact Mine.p23 | exact Mine.p27 | exact Mine.p28 | exact Mine.p24))); walk1) | (leave1; walk_say "STEP leave1"; try dsimp only) | walk_at "onk" | fail "no step"))
        replace N25 := News.tail' N25
        refine add_lists_ints F25 N25 (N25.isList (.tail _ (.head _))) (N25.isList (.tail _ (.tail _ (.head _)))) hmis hlft ?_ (oaL lens)
        intro h26 F26 N26 hsum
        (try dsimp only)
        (try clear F25); (try clear N25)
        (repeat' (first | (k_unfold; (try dsimp only)) | (k_end; wrow_close) | ((fail_if_success (with_reducible (refine Mine.stop_here ?_ ?_; first | walk_at "s0" | exact Mine.p14 | exact Mine.p20 | exact Mine.p23 | exact Mine.p27 | exact Mine.p28 | exact Mine.p24))); walk1) | (dsimp only; (fail_if_success (with_reducible (refine Mine.stop_here ?_ ?_; first | walk_at "s0" | exact Mine.p14 | exact Mine.p20 | exact Mine.p23 | exact Mine.p27 | exact Mine.p28 | exact Mine.p24))); walk1) | (leave1; walk_say "STEP leave1"; try dsimp only) | walk_at "onk" | fail "no step"))
        rename Fr g7 _ _ _ => F27
        rename News g7 _ _ _ => N27
        (try clear F26); (try clear N26)
        refine' eq_intsK (us := []) (ms := []) (N27.isList (.tail _ (.head _))) hsum (N27.isList (.head _)) .nil ?b1 ?_
        (case b1 => k_units)
        (try dsimp only)
        (repeat' (first | (k_unfold; (try dsimp only)) | (k_end; wrow_close) | ((fail_if_success (with_reducible (refine Mine.stop_here ?_ ?_; first | walk_at "s0" | exact Mine.p14 | exact Mine.p20 | exact Mine.p23 | exact Mine.p27 | exact Mine.p28 | exact Mine.p24))); walk1) | (dsimp only; (fail_if_success (with_reducible (refine Mine.stop_here ?_ ?_; first | walk_at "s0" | exact Mine.p14 | exact Mine.p20 | exact Mine.p23 | exact Mine.p27 | exact Mine.p28 | exact Mine.p24))); walk1) | (leave1; walk_say "STEP leave1"; try dsimp only) | walk_at "onk" | fail "no step"))
        rename Fr g7 _ _ _ => F28
        rename News g7 _ _ _ => N28
        (try clear F27); (try clear N27)
        refine' eq_intsK (vs := vt) (us := [_, _, _, _, _]) (ns := ts) (ms := [0, 0, 0, 0, 0]) (N28.isList (.tail _ (.tail _ (.tail _ (.tail _ (.tail _ (.tail _ (.head _)))))))) hvt (N28.isList (.head _)) (.cons _ _ (.cons _ _ (.cons _ _ (.cons _ _ (.cons _ _ .nil))))) ?b1 ?_
        (case b1 => k_units)
        (try dsimp only)
        rw [e3]
        refine eq_bool ?_
        rw [beq_self_eq_true]
        (try dsimp only)
        have F29 : Fr s1.heap s1.heap.objs.size _ _ := ⟨F28.ns, fun b o e => F28.keep b o (B7.stays b o e), Nat.le_refl _⟩
        clear F28 N28
        (try walk_at "onk")
        (try dsimp only [qk])
        refine goodW_bool F29 (by assumption) (raisesW_false ?_) ?_
        · wrow_none_raised
        · kc_post)
end
end Mine
set_option maxRecDepth 100000 in
set_option maxHeartbeats 8000000 in
theorem PySem.Challenge.cw_oc0174_01_holds : PySem.Challenge.rw_oc0174_01.Holds :=
  Mine.lawWalk
