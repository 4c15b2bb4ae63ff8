import PyProof.Rows.All
import Wide.All
import OpenK.AllK
import Wide.FinOn
import Lean
import PySem.Challenge.RW_oc0174_02
open PySem PySem.W PyProof.Rows PySem.Spec PySem.Calls
set_option Elab.async false
set_option maxRecDepth 100000
set_option pp.maxSteps 6000
set_option pp.deepTerms false
set_option pp.deepTerms.threshold 5
set_option linter.all false
set_option compiler.extract_closed false
set_option hygiene false
namespace Mine
section
universe u1 u2 u3 u4 u5 u6 u7 u8 u9 u10 u11 u12 u13 u14 u15 u16 u17 u18 u19 u20
inductive Ex1 {α1 : Type} (p : α1 → Prop) : Prop
  | mk (x1 : α1) (h : p x1) : Ex1 p
inductive Ex2 {α1 : Type} {α2 : Type} (p : α1 → α2 → Prop) : Prop
  | mk (x1 : α1) (x2 : α2) (h : p x1 x2) : Ex2 p
inductive Ex3 {α1 : Type} {α2 : Type} {α3 : Type} (p : α1 → α2 → α3 → Prop) : Prop
  | mk (x1 : α1) (x2 : α2) (x3 : α3) (h : p x1 x2 x3) : Ex3 p
inductive Ex4 {α1 : Type} {α2 : Type} {α3 : Type} {α4 : Type} (p : α1 → α2 → α3 → α4 → Prop) : Prop
  | mk (x1 : α1) (x2 : α2) (x3 : α3) (x4 : α4) (h : p x1 x2 x3 x4) : Ex4 p
inductive Ex5 {α1 : Type} {α2 : Type} {α3 : Type} {α4 : Type} {α5 : Type} (p : α1 → α2 → α3 → α4 → α5 → Prop) : Prop
  | mk (x1 : α1) (x2 : α2) (x3 : α3) (x4 : α4) (x5 : α5) (h : p x1 x2 x3 x4 x5) : Ex5 p
inductive Ex6 {α1 : Type} {α2 : Type} {α3 : Type} {α4 : Type} {α5 : Type} {α6 : Type} (p : α1 → α2 → α3 → α4 → α5 → α6 → Prop) : Prop
  | mk (x1 : α1) (x2 : α2) (x3 : α3) (x4 : α4) (x5 : α5) (x6 : α6) (h : p x1 x2 x3 x4 x5 x6) : Ex6 p
inductive Ex7 {α1 : Type} {α2 : Type} {α3 : Type} {α4 : Type} {α5 : Type} {α6 : Type} {α7 : Type} (p : α1 → α2 → α3 → α4 → α5 → α6 → α7 → Prop) : Prop
  | mk (x1 : α1) (x2 : α2) (x3 : α3) (x4 : α4) (x5 : α5) (x6 : α6) (x7 : α7) (h : p x1 x2 x3 x4 x5 x6 x7) : Ex7 p
inductive Ex8 {α1 : Type} {α2 : Type} {α3 : Type} {α4 : Type} {α5 : Type} {α6 : Type} {α7 : Type} {α8 : Type} (p : α1 → α2 → α3 → α4 → α5 → α6 → α7 → α8 → Prop) : Prop
  | mk (x1 : α1) (x2 : α2) (x3 : α3) (x4 : α4) (x5 : α5) (x6 : α6) (x7 : α7) (x8 : α8) (h : p x1 x2 x3 x4 x5 x6 x7 x8) : Ex8 p
inductive Ex11 {α1 : Type} {α2 : Type} {α3 : Type} {α4 : Type} {α5 : Type} {α6 : Type} {α7 : Type} {α8 : Type} {α9 : Type} {α10 : Type} {α11 : Type} (p : α1 → α2 → α3 → α4 → α5 → α6 → α7 → α8 → α9 → α10 → α11 → Prop) : Prop
  | mk (x1 : α1) (x2 : α2) (x3 : α3) (x4 : α4) (x5 : α5) (x6 : α6) (x7 : α7) (x8 : α8) (x9 : α9) (x10 : α10) (x11 : α11) (h : p x1 x2 x3 x4 x5 x6 x7 x8 x9 x10 x11) : Ex11 p
inductive Ex12 {α1 : Type} {α2 : Type} {α3 : Type} {α4 : Type} {α5 : Type} {α6 : Type} {α7 : Type} {α8 : Type} {α9 : Type} {α10 : Type} {α11 : Type} {α12 : Type} (p : α1 → α2 → α3 → α4 → α5 → α6 → α7 → α8 → α9 → α10 → α11 → α12 → Prop) : Prop
  | mk (x1 : α1) (x2 : α2) (x3 : α3) (x4 : α4) (x5 : α5) (x6 : α6) (x7 : α7) (x8 : α8) (x9 : α9) (x10 : α10) (x11 : α11) (x12 : α12) (h : p x1 x2 x3 x4 x5 x6 x7 x8 x9 x10 x11 x12) : Ex12 p
inductive Cj3 (a1 a2 a3 : Prop) : Prop
  | mk (h1 : a1) (h2 : a2) (h3 : a3) : Cj3 a1 a2 a3
inductive Cj4 (a1 a2 a3 a4 : Prop) : Prop
  | mk (h1 : a1) (h2 : a2) (h3 : a3) (h4 : a4) : Cj4 a1 a2 a3 a4
inductive Cj5 (a1 a2 a3 a4 a5 : Prop) : Prop
  | mk (h1 : a1) (h2 : a2) (h3 : a3) (h4 : a4) (h5 : a5) : Cj5 a1 a2 a3 a4 a5
inductive Cj6 (a1 a2 a3 a4 a5 a6 : Prop) : Prop
  | mk (h1 : a1) (h2 : a2) (h3 : a3) (h4 : a4) (h5 : a5) (h6 : a6) : Cj6 a1 a2 a3 a4 a5 a6
inductive Cj7 (a1 a2 a3 a4 a5 a6 a7 : Prop) : Prop
  | mk (h1 : a1) (h2 : a2) (h3 : a3) (h4 : a4) (h5 : a5) (h6 : a6) (h7 : a7) : Cj7 a1 a2 a3 a4 a5 a6 a7
inductive Cj8 (a1 a2 a3 a4 a5 a6 a7 a8 : Prop) : Prop
  | mk (h1 : a1) (h2 : a2) (h3 : a3) (h4 : a4) (h5 : a5) (h6 : a6) (h7 : a7) (h8 : a8) : Cj8 a1 a2 a3 a4 a5 a6 a7 a8
inductive Cj9 (a1 a2 a3 a4 a5 a6 a7 a8 a9 : Prop) : Prop
  | mk (h1 : a1) (h2 : a2) (h3 : a3) (h4 : a4) (h5 : a5) (h6 : a6) (h7 : a7) (h8 : a8) (h9 : a9) : Cj9 a1 a2 a3 a4 a5 a6 a7 a8 a9
inductive Cj11 (a1 a2 a3 a4 a5 a6 a7 a8 a9 a10 a11 : Prop) : Prop
  | mk (h1 : a1) (h2 : a2) (h3 : a3) (h4 : a4) (h5 : a5) (h6 : a6) (h7 : a7) (h8 : a8) (h9 : a9) (h10 : a10) (h11 : a11) : Cj11 a1 a2 a3 a4 a5 a6 a7 a8 a9 a10 a11
inductive Cj18 (a1 a2 a3 a4 a5 a6 a7 a8 a9 a10 a11 a12 a13 a14 a15 a16 a17 a18 : Prop) : Prop
  | mk (h1 : a1) (h2 : a2) (h3 : a3) (h4 : a4) (h5 : a5) (h6 : a6) (h7 : a7) (h8 : a8) (h9 : a9) (h10 : a10) (h11 : a11) (h12 : a12) (h13 : a13) (h14 : a14) (h15 : a15) (h16 : a16) (h17 : a17) (h18 : a18) : Cj18 a1 a2 a3 a4 a5 a6 a7 a8 a9 a10 a11 a12 a13 a14 a15 a16 a17 a18
end
section
theorem sub_nil {α : Type} {old : List α} : ∀ q ∈ ([] : List α), q ∈ old := fun _ h => nomatch h
theorem sub_cons {α : Type} {a : α} {l old : List α} (h : a ∈ old) (t : ∀ q ∈ l, q ∈ old) : ∀ q ∈ a :: l, q ∈ old := List.forall_mem_cons.mpr ⟨h, t⟩
theorem sub_app {α : Type} {A B old : List α} (h : ∀ q ∈ A, q ∈ old) (t : ∀ q ∈ B, q ∈ old) : ∀ q ∈ A ++ B, q ∈ old := fun q hq => (List.mem_append.mp hq).elim (h q) (t q)
theorem sub_refl {α : Type} {l : List α} : ∀ q ∈ l, q ∈ l := fun _ h => h
theorem sub_wk {α : Type} {b : α} {l as : List α} (h : ∀ q ∈ l, q ∈ as) : ∀ q ∈ l, q ∈ b :: as := fun q hq => .tail _ (h q hq)
theorem sub_inl {α : Type} {l A B : List α} (h : ∀ q ∈ l, q ∈ A) : ∀ q ∈ l, q ∈ A ++ B := fun q hq => List.mem_append_left _ (h q hq)
theorem sub_inr {α : Type} {l A B : List α} (h : ∀ q ∈ l, q ∈ B) : ∀ q ∈ l, q ∈ A ++ B := fun q hq => List.mem_append_right _ (h q hq)
theorem mem_inl {α : Type} {a : α} {A B : List α} (h : a ∈ A) : a ∈ A ++ B := List.mem_append_left _ h
theorem mem_inr {α : Type} {a : α} {A B : List α} (h : a ∈ B) : a ∈ A ++ B := List.mem_append_right _ h
theorem led_go {α : Type} {p : α} {new old : List α} (hp : p ∈ new) (h : ∀ q ∈ new, q ∈ old) : p ∈ old := h p hp
end
section
open PySem PySem.W PyProof.Rows
set_option maxHeartbeats 8000000
noncomputable def vbody : List Stmt := [0, 2, 3, 5, 6, 7, 8, 9, 11, 12, 13, 14, 15, 16, 17].filterMap fun i => (PySem.Challenge.pw_oc0174_02.main.body)[i]?
noncomputable def view : Program := { PySem.Challenge.pw_oc0174_02 with main := { PySem.Challenge.pw_oc0174_02.main with body := vbody } }
set_option hygiene false in
local macro_rules | `(tactic| o_law) => `(tactic| refine PySem.W.holds_law (by decide +kernel) fun said => ?_)
set_option hygiene false in
local macro_rules | `(tactic| o_head $H) => `(tactic| (refine PySem.W.holds_open (q := Mine.view) (loose := [Str.ofString "_NodeInfo"]) (Xt := fun s => xlAt Mine.view [] s && recOk (RowW.records (OpenRow.toRowW (OpenLaw.row PySem.Challenge.rw_oc0174_02))) s) (XP := XL Mine.view []) (Yf := Hook.obs $H) (Ya := Hook.val $H) (YP := Hook.says $H) (N := 2630) ?hl (Hook.of $H) (Hook.keeps $H) (fun s e => xl_of s (Bool.and_eq_true_iff.mp e).1) XL.keeps (by rfl) (by rfl) (by rfl) (fun s e => recFacts_of (Bool.and_eq_true_iff.mp e).2) (by rfl) (by first | assumption | decide +kernel) (by decide +kernel) ⟨rfl, rfl, rfl, rfl, rfl, by decide +kernel⟩ ?hw ?hc; (case hl => exact fun w => by kernel_rfl)))
open_top hd for PySem.Challenge.rw_oc0174_02
theorem topOff : True := by
  w_top off
  trivial
end
section
open PySem PySem.W PyProof.Rows PySem.Spec PySem.Calls
set_option maxHeartbeats 8000000
noncomputable abbrev TP (mean : ExcName → Option Value) (mg mb : Str → Option Value) (h₀ : Heap) : Prop := Top Mine.view (looseW Mine.view [Str.ofString "_NodeInfo"]) mean mg mb h₀
noncomputable abbrev PG : Program := PySem.Challenge.rw_oc0174_02.row.prog
noncomputable def Stop {α : Type} (_ : Sem α) : Prop := True
set_option autoImplicit true in
theorem p0 : Stop (call (.ref a) l) := trivial
set_option autoImplicit true in
theorem p1 : Stop (call (.type c) l) := trivial
set_option autoImplicit true in
theorem p2 : Stop (exec (.For e f x y p) v) := trivial
set_option autoImplicit true in
theorem p3 : Stop (exec (.While e x y p) v) := trivial
set_option autoImplicit true in
theorem p4 : Stop (exec (.Try x y z u p) v) := trivial
set_option autoImplicit true in
theorem p5 : Stop (eval (.ListComp e c o p) v) := trivial
set_option autoImplicit true in
theorem p6 : Stop (exec (.Assign t (.ListComp e c o p) q) v) := trivial
set_option autoImplicit true in
theorem p7 : Stop (call (.builtin "list.append") l) := trivial
set_option autoImplicit true in
theorem p8 : Stop (getMethod (.ref a) t d) := trivial
set_option autoImplicit true in
theorem p9 : Stop (getAttr (.ref a) t d) := trivial
set_option autoImplicit true in
theorem p10 : Stop (setAttr (.ref a) t x) := trivial
set_option autoImplicit true in
theorem p11 : Stop (exec (.If e x y p) v) := trivial
set_option autoImplicit true in
theorem p12 : Stop (truthy (.ref a)) := trivial
set_option autoImplicit true in
theorem p13 : Stop (callWith p (.ref a) [] l k) := trivial
set_option autoImplicit true in
theorem p14 : Stop (subscriptTail e f (.ref a) i) := trivial
set_option autoImplicit true in
theorem p15 : Stop (setItem (.ref a) i x) := trivial
set_option autoImplicit true in
theorem p16 : Stop (delItem (.ref a) i) := trivial
set_option autoImplicit true in
theorem p17 : Stop (call (.builtin "list.pop") l) := trivial
set_option autoImplicit true in
theorem p18 : Stop (call (.builtin "len") l) := trivial
set_option autoImplicit true in
theorem p19 : Stop (call (.builtin "iter") l) := trivial
set_option autoImplicit true in
theorem p20 : Stop (pyIter (.ref a)) := trivial
set_option autoImplicit true in
theorem p21 : Stop (call (.builtin "list.remove") l) := trivial
set_option autoImplicit true in
theorem p22 : Stop (call (.builtin "list.extend") l) := trivial
set_option autoImplicit true in
theorem p23 : Stop (compareOp o (.ref a) (.ref b)) := trivial
set_option autoImplicit true in
theorem p24 : Stop (binaryOp o (.ref a) (.ref b)) := trivial
set_option autoImplicit true in
theorem p25 : Stop (binaryOp o (.bool a) (.bool b)) := trivial
set_option autoImplicit true in
theorem p26 : Stop (compareOp o i (.ref a)) := trivial
set_option autoImplicit true in
theorem p27 : Stop (call (.builtin "sorted") l k) := trivial
theorem stop_here {α : Type} {M : Model} {A : Around} {t : Sem α} {Q : α → Shared → Prop} {E : Value → Shared → Prop} {s : Shared} (_ : Stop t) (k : wpAny M A t Q E s) : wpAny M A t Q E s := k
theorem ne_s1 {n : Nat} : n ≠ n.succ := Nat.ne_of_lt (Nat.lt_succ_self _)
theorem ne_s2 {n : Nat} : n.succ ≠ n := Nat.ne_of_gt (Nat.lt_succ_self _)
theorem ne_s3 {n : Nat} : n ≠ n.succ.succ := Nat.ne_of_lt (Nat.lt_succ_of_lt (Nat.lt_succ_self _))
theorem ne_s4 {n : Nat} : n.succ.succ ≠ n := Nat.ne_of_gt (Nat.lt_succ_of_lt (Nat.lt_succ_self _))
structure OnK (M : Model) (A : Around) (rest : List Stmt) (env : Env) (Q : Flow → Shared → Prop) (E : Value → Shared → Prop) (K : Flow → Shared → Prop) : Prop where
  next : ∀ {s' : Shared}, wpAny M A (execs rest env) Q E s' → K .next s'
  ret : ∀ {v : Value} {s' : Shared}, Q (.ret v) s' → K (.ret v) s'
  brk : ∀ {s' : Shared}, Q .brk s' → K .brk s'
  cont : ∀ {s' : Shared}, Q .cont s' → K .cont s'
theorem execs_consK {M : Model} {A : Around} {st : Stmt} {rest : List Stmt} {env : Env} {Q : Flow → Shared → Prop} {E : Value → Shared → Prop} {s : Shared}
    (h : ∀ K, OnK M A rest env Q E K → wpAny M A (exec st env) K E s) : wpAny M A (execs (st :: rest) env) Q E s :=
  wpAny_execs_cons (h _ ⟨fun x => x, fun x => x, fun x => x, fun x => x⟩)
noncomputable def setAt (d : Addr) (o' : Obj) : List (Addr × Obj) → List (Addr × Obj)
  | [] => []
  | p :: r => if p.1 = d then (d, o') :: r else p :: setAt d o' r
theorem setAt_keys (d : Addr) (o' : Obj) : ∀ l : List (Addr × Obj), (setAt d o' l).map (·.1) = l.map (·.1)
  | [] => rfl
  | p :: r => by
    unfold setAt
    by_cases h : p.1 = d
    · rw [if_pos h]; simp [h]
    · rw [if_neg h]; simp [setAt_keys d o' r]
theorem mem_setAt_self {d : Addr} {o o' : Obj} : ∀ {l : List (Addr × Obj)}, (d, o) ∈ l → (d, o') ∈ setAt d o' l
  | p :: r, h => by
    unfold setAt
    by_cases q : p.1 = d
    · rw [if_pos q]; exact .head _
    · rw [if_neg q]
      rcases List.mem_cons.mp h with e | h
      · subst e; exact absurd rfl q
      · exact .tail _ (mem_setAt_self h)
theorem mem_setAt_ne {d : Addr} {o' : Obj} {p : Addr × Obj} (hp : p.1 ≠ d) : ∀ {l : List (Addr × Obj)}, p ∈ l → p ∈ setAt d o' l
  | q :: r, h => by
    unfold setAt
    by_cases z : q.1 = d
    · rw [if_pos z]
      rcases List.mem_cons.mp h with e | h
      · subst e; exact absurd z hp
      · exact .tail _ h
    · rw [if_neg z]
      rcases List.mem_cons.mp h with e | h
      · subst e; exact .head _
      · exact .tail _ (mem_setAt_ne hp h)
theorem updF_setAt {d : Addr} {o : Obj} : ∀ {l : List (Addr × Obj)}, (l.map (·.1)).Nodup → (d, o) ∈ l → UpdF d o l (fun o' => setAt d o' l)
  | p :: r, nd, h => by
    rw [List.map_cons, List.nodup_cons] at nd
    by_cases z : p.1 = d
    · have hn : ∀ q ∈ r, q.1 ≠ d := fun q hq e => nd.1 (by rw [z, ← e]; exact List.mem_map_of_mem hq)
      have : p = (d, o) := by
        rcases List.mem_cons.mp h with e | h
        · exact e.symm
        · exact absurd rfl (hn _ h)
      subst this
      have e : (fun o' => setAt d o' ((d, o) :: r)) = fun o' => (d, o') :: r := by funext o'; unfold setAt; rw [if_pos rfl]
      rw [e]; exact .head hn
    · have e : (fun o' => setAt d o' (p :: r)) = fun o' => p :: setAt d o' r := by funext o'; rw [setAt, if_neg z]
      rw [e]
      refine .tail z (updF_setAt nd.2 ?_)
      rcases List.mem_cons.mp h with e | h
      · subst e; exact absurd rfl z
      · exact h
theorem updF_app {d : Addr} {o : Obj} {l : List (Addr × Obj)} {g : Obj → List (Addr × Obj)} (U : UpdF d o l g) : ∀ {fr : List (Addr × Obj)}, (∀ p ∈ fr, p.1 ≠ d) → UpdF d o (fr ++ l) (fun o' => fr ++ g o')
  | [], _ => U
  | p :: r, h => .tail (h p (.head _)) (updF_app U fun q hq => h q (.tail _ hq))
theorem upd_of_updF {d : Addr} {o : Obj} (o' : Obj) : ∀ {l : List (Addr × Obj)} {g : Obj → List (Addr × Obj)}, UpdF d o l g → Upd d o o' l (g o')
  | _, _, .head h => .head h
  | _, _, .tail h r => .tail h (upd_of_updF o' r)
theorem news_join {h₀ g h : Heap} {L L' : Addr} {m' : Str → Option Value} {ex rest : List (Addr × Obj)} (kN : News h₀ L h ex) (F' : Fr g L' h m') (hR : ∀ p ∈ rest, g.get? p.1 = some p.2) (hN : ∀ p ∈ rest, p.1 ≠ L ∧ h₀.get? p.1 = none) : News h₀ L h (ex ++ rest) := fun p hp => by
  rcases List.mem_append.mp hp with q | q
  · exact kN p q
  · exact ⟨F'.keep _ _ (hR p q), hN p q⟩
theorem rest_ne {g h : Heap} {L' : Addr} {ex rest : List (Addr × Obj)} (N' : News g L' h ex) (hR : ∀ p ∈ rest, g.get? p.1 = some p.2) {a : Addr} {o : Obj} (hm : (a, o) ∈ ex) : ∀ p ∈ rest, p.1 ≠ a := fun p hp e => by
  have h1 := hR p hp
  rw [e, (N' _ hm).2.2] at h1
  cases h1
theorem stored_new {kvs : List (Int × Value)} {k : Int} {v : Value} (h : valueAt kvs k = none) : stored kvs k v = kvs ++ [(k, v)] := by
  unfold stored
  rw [if_neg]
  intro q
  obtain ⟨p, hp, e⟩ := List.any_eq_true.mp q
  unfold valueAt at h
  rw [Option.map_eq_none_iff, List.find?_eq_none] at h
  exact h p hp e
noncomputable abbrev nodeO (dn sn : Addr) (kv pv : Value) : Obj := { cls := .ref 54, dict := some dn, data := .plain, slots := #[some kv, some pv, some (.ref sn)] }
structure Nodes (nA dA sA : Int → Addr) (keys : List Int) (np : Int → Int) (succ : Int → List Int) (srt : List (Addr × Obj)) : Prop where
  nd : (srt.map (·.1)).Nodup
  node : ∀ k ∈ keys, ∃ tk tp, (nA k, nodeO (dA k) (sA k) (.int k tk) (.int (np k) tp)) ∈ srt
  dict : ∀ k ∈ keys, (dA k, dictOf [] 0) ∈ srt
  list : ∀ k ∈ keys, ∃ sv n, IntsAre sv (succ k) ∧ (sA k, listOf sv.toArray n) ∈ srt
  inj : ∀ j ∈ keys, ∀ k ∈ keys, sA j = sA k → j = k
end
section
open PySem PySem.W PyProof.Rows PySem.Spec PySem.Calls
section
variable {O : KeyOrd} {key : Nat → O.α} {N : Nat} {cmp : Nat → Nat → (Bool → Shared → Prop) → Shared → Prop} {Inv : Shared → Prop}
noncomputable def Answers (O : KeyOrd) (key : Nat → O.α) (N : Nat) (cmp : Nat → Nat → (Bool → Shared → Prop) → Shared → Prop) (Inv : Shared → Prop) : Prop :=
  ∀ (i j : Nat) (C : Bool → Shared → Prop) (s : Shared), i < N → j < N → Inv s → (∀ s', Inv s' → C (O.blt (key i) (key j)) s') → cmp i j C s
noncomputable def PB (N : Nat) (p : Array Nat) : Prop := p.Perm (List.range N).toArray
theorem PB.size {p : Array Nat} (h : PB N p) : p.size = N := by have := h.size_eq; simpa using this
theorem PB.lt {p : Array Nat} (h : PB N p) {i : Nat} (hi : i < N) : p.getD i 0 < N := by
  have hz := h.size
  have hi' : i < p.size := by lia
  have e : p.getD i 0 = p[i] := by simp [Array.getD, hi']
  rw [e]
  have hm : p[i] ∈ (List.range N).toArray.toList := (Array.perm_iff_toList_perm.mp h).mem_iff.mp (by simp)
  simpa using hm
noncomputable def KP (O : KeyOrd) (key : Nat → O.α) (p : Array Nat) (i : Nat) : O.α := key (p.getD i 0)
noncomputable def Up (O : KeyOrd) (key : Nat → O.α) (p : Array Nat) (k : Nat) : Prop := ∀ i j, i ≤ j → j < k → O.kle (KP O key p i) (KP O key p j)
noncomputable def Down (O : KeyOrd) (key : Nat → O.α) (p : Array Nat) (k : Nat) : Prop := ∀ i j, i ≤ j → j < k → O.kle (KP O key p j) (KP O key p i)
theorem getD_q (p : Array Nat) (i : Nat) : p.getD i 0 = (p[i]?).getD 0 := by
  by_cases h : i < p.size
  · simp [Array.getD, h]
  · simp [Array.getD, h]
theorem KP_bubble {p : Array Nat} {src d : Nat} (hs : src < p.size) (hd : d ≤ src) (k : Nat) :
    KP O key (bubble p src d) k = if k = src - d then KP O key p src else if src - d < k ∧ k ≤ src then KP O key p (k - 1) else KP O key p k := by
  unfold KP
  rw [getD_q, getElem?_bubble hs d hd k, getD_q p, getD_q p, getD_q p]
  split
  · rfl
  · split <;> rfl
theorem KP_mirror {p : Array Nat} {i j : Nat} (hj : j ≤ p.size) (k : Nat) : KP O key (kas_rev p i j) k = if i ≤ k ∧ k < j then KP O key p (i + j - 1 - k) else KP O key p k := by
  unfold KP kas_rev
  rw [getD_q, getElem?_mirror_all hj k, getD_q p, getD_q p]
  split <;> rfl
theorem KP_mirror_eq {p : Array Nat} {i j : Nat} (hj : j ≤ p.size) (he : ∀ k, i ≤ k → k < j → KP O key p k = KP O key p (j - 1)) (k : Nat) : KP O key (kas_rev p i j) k = KP O key p k := by
  rw [KP_mirror hj]
  split
  · rw [he _ (by lia) (by lia), he k (by lia) (by lia)]
  · rfl
theorem PB.rev {p : Array Nat} (h : PB N p) (i j : Nat) : PB N (kas_rev p i j) := (mirror_perm p i j _).trans h
variable (H : Answers O key N cmp Inv)
include H
theorem ask_run {p : Array Nat} (hp : PB N p) {i j : Nat} (hi : i < N) (hj : j < N) {α : Type} {k : Bool → KasT α} {Q : α → Shared → Prop} {s : Shared} (hs : Inv s)
    (h : ∀ s', Inv s' → (k (O.blt (KP O key p i) (KP O key p j))).kasWp cmp Q s') : (KasT.ask (p.getD i 0) (p.getD j 0) k).kasWp cmp Q s :=
  H _ _ _ s (hp.lt hi) (hp.lt hj) hs h
theorem asc_run {p : Array Nat} (hp : PB N p) {Q : Nat → Shared → Prop} : ∀ (f n : Nat) (s : Shared), 1 ≤ n → n + f ≤ N → Up O key p n → Inv s →
    (∀ m s', n ≤ m → m ≤ n + f → Up O key p m → (m = n + f ∨ O.klt (KP O key p m) (KP O key p (m - 1))) → Inv s' → Q m s') → (kas_asc p f n).kasWp cmp Q s
  | 0, n, s, h1, h2, h3, h4, h5 => h5 n s (Nat.le_refl _) (Nat.le_refl _) h3 (.inl rfl) h4
  | f + 1, n, s, h1, h2, h3, h4, h5 => by
    unfold kas_asc
    refine ask_run H hp (by lia) (by lia) h4 fun s' hs' => ?_
    cases hc : O.blt (KP O key p n) (KP O key p (n - 1)) with
    | true =>
      rw [if_pos rfl]
      exact h5 n s' (Nat.le_refl _) (by lia) h3 (.inr hc) hs'
    | false =>
      rw [if_neg (by decide)]
      refine asc_run hp f (n + 1) s' (by lia) (by lia) (fun i j hij hj => ?_) hs' fun m s'' a b c d e => h5 m s'' (by lia) (by lia) c (d.imp (fun q => by lia) id) e
      by_cases hjn : j < n
      · exact h3 i j hij hjn
      · have hj' : j = n := by lia
        subst hj'
        by_cases hi : i = j
        · subst hi; exact KeyOrd.kle_refl _
        · exact KeyOrd.kle_trans (h3 i (j - 1) (by lia) (by lia)) hc
theorem tail_run {p : Array Nat} (hp : PB N p) {n : Nat} {s : Shared} {Q : Nat × Array Nat → Shared → Prop} (h1 : 1 ≤ n) (hn : n ≤ N) (hd : Down O key p n) (hs : Inv s)
    (h : ∀ m p' s', PB N p' → 1 ≤ m → m ≤ N → Up O key p' m → Inv s' → Q (m, p') s') : (kas_tail3 n N p).kasWp cmp Q s := by
  unfold kas_tail3
  rw [KasT.kasWp_bind]
  have hz := hp.size
  refine asc_run H (hp.rev 0 n) (N - n) n s h1 (by lia) (fun i j hij hj => ?_) hs fun m s' a b c _ e => h m _ s' (hp.rev 0 n) (by lia) (by lia) c e
  rw [KP_mirror (by lia), KP_mirror (by lia), if_pos (by lia), if_pos (by lia)]
  exact hd _ _ (by lia) (by lia)
theorem desc_run {Q : Array Nat × Nat × Nat → Shared → Prop} : ∀ (f : Nat) (p : Array Nat) (n q : Nat) (s : Shared), PB N p → 1 ≤ n → n + f ≤ N → Down O key p n → q + 1 ≤ n → (∀ i, n - (q + 1) ≤ i → i < n → KP O key p i = KP O key p (n - 1)) → Inv s →
    (∀ p' m q' s', PB N p' → n ≤ m → m ≤ N → Down O key p' m → q' + 1 ≤ m → (∀ i, m - (q' + 1) ≤ i → i < m → KP O key p' i = KP O key p' (m - 1)) → Inv s' → Q (p', m, q') s') → (kas_desc f p n q).kasWp cmp Q s
  | 0, p, n, q, s, hp, h1, h2, h3, h4, h5, h6, h => h p n q s hp (Nat.le_refl _) (by lia) h3 h4 h5 h6
  | f + 1, p, n, q, s, hp, h1, h2, h3, h4, h5, h6, h => by
    have hz := hp.size
    unfold kas_desc
    refine ask_run H hp (by lia) (by lia) h6 fun s' hs' => ?_
    have step1 : ∀ p', O.klt (KP O key p n) (KP O key p (n - 1)) → (∀ k, KP O key p' k = KP O key p k) → Down O key p' (n + 1) := fun p' hc hk i j hij hj => by
      rw [hk, hk]
      by_cases hjn : j < n
      · exact h3 i j hij hjn
      · have hj' : j = n := by lia
        subst hj'
        by_cases hi : i = j
        · subst hi; exact KeyOrd.kle_refl _
        · exact KeyOrd.kle_trans (KeyOrd.kle_of_klt hc) (h3 i (j - 1) (by lia) (by lia))
    have one : ∀ p' : Array Nat, ∀ i, n + 1 - (0 + 1) ≤ i → i < n + 1 → KP O key p' i = KP O key p' (n + 1 - 1) := fun p' i a b => by
      have : i = n + 1 - 1 := by lia
      rw [this]
    cases hc : O.blt (KP O key p n) (KP O key p (n - 1)) with
    | true =>
      rw [if_pos rfl]
      by_cases hq : q > 0
      · rw [if_pos hq]
        exact desc_run f _ (n + 1) 0 s' (hp.rev _ _) (by lia) (by lia) (step1 _ hc (KP_mirror_eq (by lia) h5)) (by lia) (one _) hs' fun p' m q' s'' a b => h p' m q' s'' a (by lia)
      · rw [if_neg hq]
        exact desc_run f p (n + 1) 0 s' hp (by lia) (by lia) (step1 _ hc fun _ => rfl) (by lia) (one _) hs' fun p' m q' s'' a b => h p' m q' s'' a (by lia)
    | false =>
      rw [if_neg (by decide)]
      refine ask_run H hp (by lia) (by lia) hs' fun s2 hs2 => ?_
      cases hd : O.blt (KP O key p (n - 1)) (KP O key p n) with
      | true =>
        rw [if_pos rfl]
        exact h p n q s2 hp (Nat.le_refl _) (by lia) h3 h4 h5 hs2
      | false =>
        rw [if_neg (by decide)]
        have he : KP O key p n = KP O key p (n - 1) := KeyOrd.kle_antisymm hd hc
        refine desc_run f p (n + 1) (q + 1) s2 hp (by lia) (by lia) (fun i j hij hj => ?_) (by lia) (fun i a b => ?_) hs2 fun p' m q' s'' a b => h p' m q' s'' a (by lia)
        · by_cases hjn : j < n
          · exact h3 i j hij hjn
          · have hj' : j = n := by lia
            subst hj'
            by_cases hi : i = j
            · subst hi; exact KeyOrd.kle_refl _
            · rw [he]; exact h3 i (j - 1) (by lia) (by lia)
        · rw [show n + 1 - 1 = n by lia]
          by_cases hi : i = n
          · subst hi; rfl
          · rw [he]; exact h5 i (by lia) (by lia)
theorem descPart_run {p : Array Nat} (hp : PB N p) {n : Nat} {s : Shared} {Q : Nat × Array Nat → Shared → Prop} (hn : n + 1 ≤ N) (hd : Down O key p (n + 1)) (hs : Inv s)
    (h : ∀ m p' s', PB N p' → 1 ≤ m → m ≤ N → Up O key p' m → Inv s' → Q (m, p') s') : (kas_descPart n N p).kasWp cmp Q s := by
  unfold kas_descPart
  rw [KasT.kasWp_bind]
  refine desc_run H (N - (n + 1)) p (n + 1) 0 s hp (by lia) (by lia) hd (by lia) (fun i a b => by rw [show i = n + 1 - 1 by lia]) hs fun p' m q' s' hp' hm1 hm2 hd' hq he hs' => ?_
  dsimp only
  have hz := hp'.size
  by_cases hq0 : q' > 0
  · rw [if_pos hq0]
    refine tail_run H (hp'.rev _ _) (by lia) hm2 (fun i j hij hj => ?_) hs' h
    rw [KP_mirror_eq (by lia) he, KP_mirror_eq (by lia) he]
    exact hd' i j hij hj
  · rw [if_neg hq0]
    exact tail_run H hp' (by lia) hm2 hd' hs' h
theorem count_run {p : Array Nat} (hp : PB N p) {s : Shared} {Q : Nat × Array Nat → Shared → Prop} (h1 : 1 ≤ N) (hs : Inv s)
    (h : ∀ m p' s', PB N p' → 1 ≤ m → m ≤ N → Up O key p' m → Inv s' → Q (m, p') s') : (kas_count N p).kasWp cmp Q s := by
  unfold kas_count
  rw [KasT.kasWp_bind]
  have hz := hp.size
  refine asc_run H hp (N - 1) 1 s (Nat.le_refl _) (by lia) (fun i j hij hj => by rw [show i = j by lia]; exact KeyOrd.kle_refl _) hs fun n s' hn1 hn2 hu hor hs' => ?_
  by_cases hnn : n = N
  · rw [if_pos (by simpa using hnn)]
    exact h n p s' hp hn1 (by lia) hu hs'
  · rw [if_neg (by simpa using hnn)]
    have hlt := hor.resolve_left (by lia)
    by_cases hg : n > 1
    · rw [if_pos hg]
      refine ask_run H hp (by lia) (by lia) hs' fun s2 hs2 => ?_
      cases hr : O.blt (KP O key p 0) (KP O key p (n - 1)) with
      | true =>
        rw [if_pos rfl]
        exact h n p s2 hp hn1 (by lia) hu hs2
      | false =>
        rw [if_neg (by decide)]
        have hall : ∀ k, 0 ≤ k → k < n → KP O key p k = KP O key p (n - 1) := fun k _ hk => by
          have a1 := hu 0 k (by lia) hk
          have a2 := hu k (n - 1) (by lia) (by lia)
          exact KeyOrd.kle_antisymm a2 (KeyOrd.kle_trans hr a1)
        refine descPart_run H (hp.rev _ _) (by lia) (fun i j hij hj => ?_) hs2 h
        rw [KP_mirror_eq (by lia) hall, KP_mirror_eq (by lia) hall]
        by_cases hjn : j < n
        · rw [hall i (by lia) (by lia), hall j (by lia) hjn]; exact KeyOrd.kle_refl _
        · have hj' : j = n := by lia
          subst hj'
          by_cases hi : i = j
          · subst hi; exact KeyOrd.kle_refl _
          · rw [hall i (by lia) (by lia)]; exact KeyOrd.kle_of_klt hlt
    · rw [if_neg hg]
      have hn' : n = 1 := by lia
      subst hn'
      refine descPart_run H hp (by lia) (fun i j hij hj => ?_) hs' h
      by_cases hi : i = j
      · subst hi; exact KeyOrd.kle_refl _
      · have hi0 : i = 0 := by lia
        have hj1 : j = 1 := by lia
        subst hi0; subst hj1
        exact KeyOrd.kle_of_klt hlt
theorem place_run {p : Array Nat} (hp : PB N p) {k : Nat} (hk : k < N) (hu : Up O key p k) {Q : Nat → Shared → Prop} : ∀ (f l r : Nat) (s : Shared), l ≤ r → r ≤ k → r - l ≤ f →
    (∀ i, i < l → O.kle (KP O key p i) (KP O key p k)) → (∀ i, r ≤ i → i < k → O.klt (KP O key p k) (KP O key p i)) → Inv s →
    (∀ l s', l ≤ k → (∀ i, i < l → O.kle (KP O key p i) (KP O key p k)) → (∀ i, l ≤ i → i < k → O.klt (KP O key p k) (KP O key p i)) → Inv s' → Q l s') → (kas_place p k f l r).kasWp cmp Q s
  | 0, l, r, s, h1, h2, h3, h4, h5, h6, h => by
    have : l = r := by lia
    subst this
    exact h l s h2 h4 h5 h6
  | f + 1, l, r, s, h1, h2, h3, h4, h5, h6, h => by
    unfold kas_place
    by_cases hge : l ≥ r
    · rw [if_pos hge]
      have : l = r := by lia
      subst this
      exact h l s h2 h4 h5 h6
    · rw [if_neg hge]
      refine ask_run H hp hk (by lia) h6 fun s' hs' => ?_
      cases hc : O.blt (KP O key p k) (KP O key p ((l + r) / 2)) with
      | true =>
        rw [if_pos rfl]
        refine place_run hp hk hu f l ((l + r) / 2) s' (by lia) (by lia) (by lia) h4 (fun i a b => ?_) hs' h
        exact KeyOrd.klt_of_klt_of_kle hc (hu _ _ a b)
      | false =>
        rw [if_neg (by decide)]
        refine place_run hp hk hu f ((l + r) / 2 + 1) r s' (by lia) (by lia) (by lia) (fun i a => ?_) h5 hs' h
        exact KeyOrd.kle_trans (hu i ((l + r) / 2) (by lia) (by lia)) (show O.kle _ _ from hc)
theorem bin_run {Q : Array Nat → Shared → Prop} : ∀ (f : Nat) (p : Array Nat) (k : Nat) (s : Shared), PB N p → 1 ≤ k → k + f = N → Up O key p k → Inv s → (∀ p' s', PB N p' → Up O key p' N → Inv s' → Q p' s') → (kas_bin f p k).kasWp cmp Q s
  | 0, p, k, s, hp, h1, h2, h3, h4, h => by
    have : k = N := by lia
    subst this
    exact h p s hp h3 h4
  | f + 1, p, k, s, hp, h1, h2, h3, h4, h => by
    unfold kas_bin
    rw [KasT.kasWp_bind]
    have hz := hp.size
    refine place_run H hp (by lia) h3 k 0 k s (by lia) (Nat.le_refl _) (by lia) (fun i a => absurd a (Nat.not_lt_zero _)) (fun i a b => by lia) h4 fun l s' hl hlo hhi hs' => ?_
    refine bin_run f _ (k + 1) s' ((bubble_perm p k (k - l)).trans hp) (by lia) (by lia) (fun i j hij hj => ?_) hs' h
    rw [KP_bubble (by lia) (by lia), KP_bubble (by lia) (by lia), show k - (k - l) = l by lia]
    repeat' split
    all_goals first
      | (exfalso; lia)
      | exact KeyOrd.kle_refl _
      | exact hlo _ (by lia)
      | exact KeyOrd.kle_of_klt (hhi _ (by lia) (by lia))
      | exact h3 _ _ (by lia) (by lia)
theorem sort_run {Q : Array Nat → Shared → Prop} {s : Shared} (h1 : 1 ≤ N) (hs : Inv s) (h : ∀ p s', PB N p → Up O key p N → Inv s' → Q p s') : (kas_sort N).kasWp cmp Q s := by
  unfold kas_sort
  rw [KasT.kasWp_bind]
  refine count_run H (Array.Perm.refl _) h1 hs fun m p s' hp hm1 hm2 hu hs' => ?_
  dsimp only
  by_cases hlt : m < N
  · rw [if_pos hlt, show max m 1 = m by lia]
    exact bin_run H (N - m) p m s' hp hm1 (by lia) hu hs' h
  · rw [if_neg hlt]
    have : m = N := by lia
    subst this
    exact h p s' hp hu hs'
end
end
section
open PySem PySem.W PyProof.Rows PySem.Spec PySem.Calls
set_option maxHeartbeats 4000000
theorem li_getattr_none : typeLookup (.type "list_iterator") "__getattr__" = pure none := by rw [typeLookup_type, builtinLookup_eq_fast]; kernel_rfl
theorem li_slot_ga : Slot "list_iterator" "__getattribute__" "object.__getattribute__" :=
  .of (owner := "object") (n := "__getattribute__") (by rw [typeLookup_type, builtinLookup_eq_fast]; kernel_rfl) (by decide +kernel) (by decide +kernel) (by decide +kernel)
    (by first | exact .inl (by decide +kernel) | exact .inr (by decide +kernel)) (by rw [isSubtype_type]; kernel_rfl)
theorem li_entry_ga : entryFor table "object.__getattribute__" = some Builtin.«object.__getattribute__» := entryFor_of_tree (by kernel_rfl)
theorem li_args_ga (a b : Value) : argsOk "object.__getattribute__" ⟨[a, b], []⟩ := by unfold argsOk; kernel_rfl
theorem li_next : typeLookup (.type "list_iterator") "__next__" = pure (some (.builtin "list_iterator.__next__")) := by rw [typeLookup_type, builtinLookup_eq_fast]; kernel_rfl
theorem li_kind : builtinKind "list_iterator.__next__" = some Manifest.AttrKind.slot := by decide +kernel
theorem wd_get : typeLookup (.type "wrapper_descriptor") "__get__" = pure (some (.builtin "wrapper_descriptor.__get__")) := by rw [typeLookup_type, builtinLookup_eq_fast]; kernel_rfl
theorem wd_set : typeLookup (.type "wrapper_descriptor") "__set__" = pure none := by rw [typeLookup_type, builtinLookup_eq_fast]; kernel_rfl
theorem wd_delete : typeLookup (.type "wrapper_descriptor") "__delete__" = pure none := by rw [typeLookup_type, builtinLookup_eq_fast]; kernel_rfl
theorem wd_slot : Slot "wrapper_descriptor" "__get__" "wrapper_descriptor.__get__" :=
  .of (owner := "wrapper_descriptor") (n := "__get__") (by rw [typeLookup_type, builtinLookup_eq_fast]; kernel_rfl) (by decide +kernel) (by decide +kernel) (by decide +kernel)
    (by first | exact .inl (by decide +kernel) | exact .inr (by decide +kernel)) (by rw [isSubtype_type]; kernel_rfl)
theorem wd_entry : entryFor table "wrapper_descriptor.__get__" = some Builtin.«wrapper_descriptor.__get__» := entryFor_of_tree (by kernel_rfl)
theorem wd_args (a b c : Value) : argsOk "wrapper_descriptor.__get__" ⟨[a, b, c], []⟩ := by unfold argsOk; kernel_rfl
theorem li_type : typeOf (.builtin "list_iterator.__next__") = pure (.type "wrapper_descriptor") := by show builtinType _ = _; rw [builtinType_eq_fast]; kernel_rfl
theorem li_sub : isSubtype (.type "list_iterator") (.type "list_iterator") = pure true := by rw [isSubtype_type]; kernel_rfl
theorem wd_call {prog : Program} {w : World} {A : Around} {R : Result → Shared → Prop} {s : Shared} {a : Addr} {vs : Array Value} (hx : s.heap.get? a = some { cls := .type "list_iterator", dict := none, data := .fields vs })
    (h : R (.ok (.ret (.ref s.heap.objs.size))) { s with heap := s.heap.push { cls := .type "method-wrapper", data := .fields #[.builtin "list_iterator.__next__", .ref a] } }) :
    codeAny (model prog w) A (.call (.builtin "wrapper_descriptor.__get__") ⟨[.builtin "list_iterator.__next__", .ref a, .type "list_iterator"], []⟩) R s := by
  obtain ⟨hp, g, d, tk, os⟩ := s
  have f1 := li_type
  have f2 := li_sub
  have hT : (⟨hp, g, d, tk, os⟩ : Shared).TypeIs (.ref a) "list_iterator" := ⟨_, hx, rfl⟩
  refine codeAny_call_builtin wd_slot.plain wd_entry (wd_slot.check _ _ _ _ _ _ _ _ li_type (wd_args _ _ _) ?_)
  unfold Builtin.«wrapper_descriptor.__get__»
  repeat (any_goals (first | assumption | wp_step))
  rw [show ".".intercalate ("list_iterator.__next__".cutAt '.').dropLast = "list_iterator" by decide +kernel]
  repeat (any_goals (first | assumption | wp_step))
theorem meets_ga_next (a : Addr) (vs : Array Value) (u : Tok) :
    Meets (Builtin.«object.__getattribute__» ⟨[.ref a, .str (Str.ofString "__next__") u], []⟩) (fun A R s => s.heap.get? a = some { cls := .type "list_iterator", dict := none, data := .fields vs } ∧
      R (.ok (.ret (.ref s.heap.objs.size))) { s with heap := s.heap.push { cls := .type "method-wrapper", data := .fields #[.builtin "list_iterator.__next__", .ref a] } }) :=
  Meets.of_wp fun prog w A R s hs => by
    obtain ⟨hp, g, d, tk, os⟩ := s
    obtain ⟨hx, hs⟩ := hs
    have hT : (⟨hp, g, d, tk, os⟩ : Shared).TypeIs (.ref a) "list_iterator" := ⟨_, hx, rfl⟩
    have f1 := li_next
    unfold Builtin.«object.__getattribute__»
    repeat (any_goals (first | assumption | wp_step))
    have f2 := wd_get
    have f3 := wd_set
    have f4 := wd_delete
    simp only [li_kind]
    repeat (any_goals (first | assumption | (simp only [li_kind]; done) | wp_step | (simp only [li_kind])))
    refine wd_call hx ?_
    repeat (any_goals (first | assumption | wp_step))
    exact ⟨_, rfl, hs⟩
theorem getAttr_next {prog : Program} {w : World} {A : Around} {E : Value → Shared → Prop} {s : Shared} {a : Addr} {vs : Array Value} {Q : Value → Shared → Prop}
    (hx : s.heap.get? a = some { cls := .type "list_iterator", dict := none, data := .fields vs })
    (h : Q (.ref s.heap.objs.size) { s with heap := s.heap.push { cls := .type "method-wrapper", data := .fields #[.builtin "list_iterator.__next__", .ref a] }, toks := s.toks + 1 }) :
    wpAny (model prog w) A (getAttr (.ref a) (Str.ofString "__next__") true) Q E s := by
  obtain ⟨hp, g, d, tk, os⟩ := s
  have hT : ∀ tk', (⟨hp, g, d, tk', os⟩ : Shared).TypeIs (.ref a) "list_iterator" := fun _ => ⟨_, hx, rfl⟩
  have f3 := li_slot_ga.lookup
  have f4 := li_slot_ga.bind (.ref a)
  have f5 := li_getattr_none
  unfold getAttr getAttrBy
  repeat (any_goals (first | assumption | exact hT _ | ((with_reducible show wpAny _ _ (call (Value.builtin "object.__getattribute__") _ _) _ _ _); refine call_meets li_slot_ga (hT _) li_entry_ga (li_args_ga _ _) (meets_ga_next a vs _) ⟨hx, ?_⟩) | wp_step))
  show wpAny _ _ (handedOut _) _ _ _
  exact handed_on rfl h
end
section
open PySem PySem.W PyProof.Rows PySem.Spec PySem.Calls
set_option maxHeartbeats 4000000
theorem mw_check (a : Addr) : checkBoundCall "list_iterator.__next__" ⟨[.ref a], []⟩ = pure () := by unfold checkBoundCall; kernel_rfl
noncomputable abbrev mwO (it : Addr) : Obj := { cls := .type "method-wrapper", data := .fields #[.builtin "list_iterator.__next__", .ref it] }
noncomputable abbrev liO (l : Addr) (i : Nat) : Obj := { cls := .type "list_iterator", data := .fields #[.ref l, .int i 0] }
section
variable {prog : Program} {w : World} {A : Around} {R : Result → Shared → Prop} {s : Shared} {b it l : Addr} {i : Nat} {items : Array Value} {x : Value}
theorem mw_open (hb : s.heap.get? b = some (mwO it)) (h : codeAny (model prog w) A (.builtin "list_iterator.__next__" ⟨[.ref it], []⟩) R s) : codeAny (model prog w) A (.call (.ref b) ⟨[], []⟩) R s := by
  refine codeAny_of_tree ?_
  show wpAny _ _ (callAny (.ref b) _) _ _ _
  unfold callAny
  refine wpAny_bind (wpAny_load hb ?_)
  show wpAny _ _ (checkBoundCall "list_iterator.__next__" ⟨[.ref it], []⟩ >>= fun _ => again _) _ _ _
  rw [mw_check]
  exact wpAny_pure ⟨plainId_quiet (by decide +kernel) _, h⟩
theorem mw_builtin (h : wpAny (model prog w) A.in1 (Builtin.«list_iterator.__next__» ⟨[.ref it], []⟩) (fun fin s' => match fin with | .done f => R (.ok f) s' | .again c' => c'.quiet = true ∧ codeAny (model prog w) A c' R s') (fun e s' => R (.error e) s') s) :
    codeAny (model prog w) A (.builtin "list_iterator.__next__" ⟨[.ref it], []⟩) R s := by
  refine codeAny_builtin entry_listiter_next ?_
  rw [Around.under_plainId (by decide +kernel)]
  exact h
theorem mw_item (hb : s.heap.get? b = some (mwO it)) (hit : s.heap.get? it = some (liO l i)) (hl : s.heap.IsList l items) (hx : items[i]? = some x)
    (h : R (.ok (.ret x)) { s with heap := s.heap.update it (Obj.mapFields (·.setIfInBounds 1 (rawInt (i + 1)))) }) : codeAny (model prog w) A (.call (.ref b) ⟨[], []⟩) R s := by
  obtain ⟨ol, hol, _, nl, hdl⟩ := hl
  refine mw_open hb (mw_builtin ?_)
  show wpAny _ _ (field (.ref it) 0 >>= _) _ _ s
  refine wpAny_bind (wpAny_field hit rfl (x := .ref l) rfl ?_)
  show wpAny _ _ (if (Value.ref l == Value.none) = true then _ else _) _ _ s
  rw [if_neg (show ¬ ((Value.ref l == Value.none) = true) from Bool.false_ne_true)]
  show wpAny _ _ (field (.ref it) 1 >>= _) _ _ s
  refine wpAny_bind (wpAny_field hit rfl (x := .int i 0) rfl ?_)
  show wpAny _ _ (seqItems? (.ref l) >>= _) _ _ s
  refine wpAny_bind (wpAny_seqItems hol hdl ?_)
  simp only [Int.toNat_natCast, hx]
  exact wpAny_bind (wpAny_setField hit rfl (by simp) (wpAny_pure h))
theorem mw_end (hh : A.handled = none) (hb : s.heap.get? b = some (mwO it)) (hit : s.heap.get? it = some (liO l i)) (hl : s.heap.IsList l items) (hx : items[i]? = none)
    (h : ∀ h' e, Heap.NewExcOf (s.heap.update it (Obj.mapFields (·.setIfInBounds 0 .none))) h' e "StopIteration" → R (.error (.ref e)) { s with heap := h' }) : codeAny (model prog w) A (.call (.ref b) ⟨[], []⟩) R s := by
  obtain ⟨ol, hol, _, nl, hdl⟩ := hl
  refine mw_open hb (mw_builtin ?_)
  show wpAny _ _ (field (.ref it) 0 >>= _) _ _ s
  refine wpAny_bind (wpAny_field hit rfl (x := .ref l) rfl ?_)
  show wpAny _ _ (if (Value.ref l == Value.none) = true then _ else _) _ _ s
  rw [if_neg (show ¬ ((Value.ref l == Value.none) = true) from Bool.false_ne_true)]
  show wpAny _ _ (field (.ref it) 1 >>= _) _ _ s
  refine wpAny_bind (wpAny_field hit rfl (x := .int i 0) rfl ?_)
  show wpAny _ _ (seqItems? (.ref l) >>= _) _ _ s
  refine wpAny_bind (wpAny_seqItems hol hdl ?_)
  simp only [Int.toNat_natCast, hx]
  refine wpAny_bind (wpAny_rule (wpAny_bind (wpAny_setField hit rfl (by simp) ?_)))
  show wpAny _ _ (newExc (.type "StopIteration") [] >>= _) _ _ _
  refine wpAny_bind ?_
  simp only [newExc, newTuple]
  refine wpAny_bind (wpAny_newObj_type ?_ (by size_fits))
  refine wpAny_bind (m := firstArgMember _ _) (wpAny_of_eq (a := Value.none) (by first | rfl | (simp only [firstArgMember]; rfl)) ?_)
  refine wpAny_newObj_type ?_ (by size_fits)
  simp only [raiseNew]
  refine wpAny_bind (wpAny_handled ?_)
  rw [show A.in1.handled = none from hh]
  refine wpAny_bind (wpAny_pure (wpAny_throw ?_))
  refine h _ _ ⟨fun c o e => Heap.get?_push_of_some _ (Heap.get?_push_of_some _ e), Heap.get?_none_of_le (by simp [Heap.size_push]), _, _, Heap.get?_push_size _ rfl, rfl, rfl, rfl⟩
end
end
local macro_rules | `(tactic| k_room) => `(tactic| ktr_room)
local macro_rules | `(tactic| k_units) => `(tactic| ktr_units)
local macro_rules | `(tactic| k_all) => `(tactic| assumption)
local macro_rules | `(tactic| walk_at "s0") => `(tactic| first | exact Mine.p0 | exact Mine.p1 | exact Mine.p2 | exact Mine.p3 | exact Mine.p4 | exact Mine.p5 | exact Mine.p6)
local macro_rules | `(tactic| walk_at "execs cons") => `(tactic| first | (k_here; k_gentoks) | (refine Mine.execs_consK ?_; intro kK kH))
local macro_rules | `(tactic| walk_at "onk") => `(tactic| ((with_reducible first | refine' Mine.OnK.next ?onk ?_ | refine' Mine.OnK.ret ?onk ?_ | refine' Mine.OnK.brk ?onk ?_ | refine' Mine.OnK.cont ?onk ?_); (case onk => assumption); (try clear kH kK); (try dsimp only)))
local macro_rules | `(tactic| k_ne) => `(tactic| (refine neN ?_; (try dsimp only); first | with_reducible assumption | exact Ne.symm (by with_reducible assumption) | exact Nat.ne_of_lt (by with_reducible assumption) | exact Nat.ne_of_gt (by with_reducible assumption) | with_reducible first | exact Mine.ne_s1 | exact Mine.ne_s2 | exact Mine.ne_s3 | exact Mine.ne_s4 | lia))
local macro_rules | `(tactic| walk_at "memA") => `(tactic| first | with_reducible exact List.mem_cons_self | exact List.mem_cons_self | (with_reducible assumption) | ((with_reducible first | refine List.mem_cons_of_mem _ ?_ | refine Mine.mem_inl ?_); walk_at "memA") | ((with_reducible refine Mine.mem_inr ?_); walk_at "memA"))
local macro_rules | `(tactic| walk_at "ledT") => `(tactic| with_reducible first | exact Mine.sub_refl | ((first | refine Mine.sub_wk ?_ | refine Mine.sub_inl ?_); walk_at "ledT") | (refine Mine.sub_inr ?_; walk_at "ledT"))
local macro_rules | `(tactic| walk_at "led") => `(tactic| first | exact Mine.sub_nil | ((with_reducible refine' Mine.sub_cons ?_ ?_); (focus walk_at "memA"); walk_at "led") | ((with_reducible refine' Mine.sub_app ?_ ?_); (focus walk_at "led"); walk_at "led") | walk_at "ledT")
local macro_rules | `(tactic| walk_at "evL") => `(tactic| (k_here; k_dflt (refine' ld ?zk1 ?zk2 ?_; (case zk1 => k_asm); (case zk2 => assumption); k_whole)))
local macro_rules | `(tactic| walk_at "evE") => `(tactic| (k_here; k_dflt (refine' ldE ?zk1 ?zk2 ?_; (case zk1 => k_asm); (case zk2 => assumption); k_whole)))
local macro_rules | `(tactic| walk_at "mem") => `(tactic| (repeat (first | exact List.Mem.head _ | assumption | refine List.Mem.tail _ ?_)))
local macro_rules | `(tactic| walk_at "own") => `(tactic| (k_here; (with_reducible show wpAny _ _ (eval (Expr.Name _ _) (compEnvC _ _ _ _)) _ _ _); k_dflt (first
  | (refine' ld_own ?zN ?zM ?zC ?zV ?za ?zb ?zd ?_; (case za | zb => exact rfl); (case zd => decide); (case zN => assumption); (case zM => walk_at "mem"); (case zC | zV => assumption))
  | (refine' ld_free ?zN ?za ?zb ?zM ?zD ?zk ?zd ?zn ?_; (case za | zb | zk => exact rfl); (case zd | zn => decide); (case zN => assumption); (case zM => walk_at "mem"); (case zD => assumption))
  | (refine' ld_cell ?zN ?za ?zb ?zM ?zD ?zk ?zd ?_; (case za | zb | zk => exact rfl); (case zd => decide); (case zN => assumption); (case zM => walk_at "mem"); (case zD => assumption)))))
section
set_option maxHeartbeats 8000000
theorem fillOne (w : World) (h₀ : Heap) : (Mine.hd.heap_1 w.params).In h₀ → PySem.Challenge.rw_oc0174_02 = PySem.Challenge.rw_oc0174_02 := by
  k_fill
  intro _
  rfl
end
section
set_option maxHeartbeats 8000000
noncomputable abbrev sEs (w : World) (n2i rd po nf : Value) (t1 t2 t3 t4 : Tok) : List DictEntry :=
  [⟨PyData.keyHash w.params (Str.ofString "_node2info"), .str (Str.ofString "_node2info") t1, n2i⟩, ⟨PyData.keyHash w.params (Str.ofString "_ready_nodes"), .str (Str.ofString "_ready_nodes") t2, rd⟩,
   ⟨PyData.keyHash w.params (Str.ofString "_npassedout"), .str (Str.ofString "_npassedout") t3, po⟩, ⟨PyData.keyHash w.params (Str.ofString "_nfinished"), .str (Str.ofString "_nfinished") t4, nf⟩]
theorem gn_old {w : World} {dp un : Nat} {gd : Option (List Code)} {cn : Str} {cs : Scope} {a : Addr} {ccd : Value} {cl : List (Str × Addr)} {outer : List Env} {A₀ : Around} {base h₀ : Heap} {L : Addr} {m mg mb : Str → Option Value} {mean : ExcName → Option Value} {s : Shared} {Q E : Value → Shared → Prop} {x dx d : Addr} {od : Obj} {t1 t2 t3 t4 : Tok} {rd po nf : Value} {rest : List (Addr × Obj)} {kvs : List (Int × Value)} {k : Int} {tk : Tok} {v : Addr}
    (B : Below A₀ base outer h₀) (F : Fr h₀ L s.heap m) (X : (Mine.hd.heap_1 w.params).In h₀) (T : TP mean mg mb h₀) (hk : cs.kind = .function) (hd : dp + 4 < recursionLimit) (hu : un + 32 < cLine)
    (N : News h₀ L s.heap ((x, instObj 151 dx) :: (dx, dictOf (sEs w (.ref d) rd po nf t1 t2 t3 t4) 4) :: (d, od) :: rest)) (hdm : (d == sysModules) = false)
    (D : od.IsDictOf (intKind PG w) kvs) (hv : valueAt kvs k = some (.ref v))
    (ret : ∀ h' tk', Fr h₀ L h' m → News h₀ L h' ((x, instObj 151 dx) :: (dx, dictOf (sEs w (.ref d) rd po nf t1 t2 t3 t4) 4) :: (d, od) :: rest) → Q (.ref v) { s with heap := h', toks := tk' }) :
    wpAny (model PG w) (ktrTop dp un gd cn cs L a ccd cl outer) (call (.ref 94) [.ref x, .int k tk]) Q E s := by
  refine wpAny_call ?_
  k_dflt ktr_enter
  (repeat' (first | (k_unfold; (try dsimp only)) | (k_end; kc_close) | walk1 | (dsimp only; walk1) | (leave1; walk_say "STEP leave1"; (try dsimp only)) | walk_at "onk" | fail "no step"))
  refine' kdg_get1 (kvs := kvs) (k := k) (knd := intKind PG w) ?n1 ?n2 D ?n3 ?n4 (some (.ref v)) hv ?_
  (case n1 => k_asm)
  (case n2 => exact .tail _ (.tail _ (.head _)))
  (case n3 => exact hdm)
  (case n4 => simp [intKind, Value.isInt])
  dsimp only [Option.getD]
  (repeat' (first | (k_unfold; (try dsimp only)) | (k_end; kc_close) | walk1 | (dsimp only; walk1) | (leave1; walk_say "STEP leave1"; (try dsimp only)) | walk_at "onk" | fail "no step"))
  exact ret _ _ (by k_asm) (by k_asm)
theorem gn_new {w : World} {dp un : Nat} {gd : Option (List Code)} {cn : Str} {cs : Scope} {a : Addr} {ccd : Value} {cl : List (Str × Addr)} {outer : List Env} {A₀ : Around} {base h₀ : Heap} {L : Addr} {m mg mb : Str → Option Value} {mean : ExcName → Option Value} {s : Shared} {Q E : Value → Shared → Prop} {x dx d : Addr} {od : Obj} {t1 t2 t3 t4 : Tok} {rd po nf : Value} {rest : List (Addr × Obj)} {kvs : List (Int × Value)} {k : Int} {tk : Tok}
    (B : Below A₀ base outer h₀) (F : Fr h₀ L s.heap m) (X : (Mine.hd.heap_1 w.params).In h₀) (T : TP mean mg mb h₀) (hk : cs.kind = .function) (hd : dp + 4 < recursionLimit) (hu : un + 32 < cLine)
    (N : News h₀ L s.heap ((x, instObj 151 dx) :: (dx, dictOf (sEs w (.ref d) rd po nf t1 t2 t3 t4) 4) :: (d, od) :: rest)) (hdm : (d == sysModules) = false)
    (D : od.IsDictOf (intKind PG w) kvs) (hv : valueAt kvs k = none) (hrest : ∀ p ∈ rest, p.1 ≠ x ∧ p.1 ≠ dx ∧ p.1 ≠ d) (h1 : x ≠ d) (h2 : dx ≠ d) (hlen : kvs.length ≤ 1000)
    (ret : ∀ h' tk' od' n dn sn tp, Fr h₀ L h' m → News h₀ L h' ([(sn, listOf #[] 0), (n, nodeO dn sn (.int k tk) (.int 0 tp)), (dn, dictOf [] 0), (x, instObj 151 dx), (dx, dictOf (sEs w (.ref d) rd po nf t1 t2 t3 t4) 4), (d, od')] ++ rest) →
      od'.IsDictOf (intKind PG w) (kvs ++ [(k, .ref n)]) → (∀ p ∈ rest, p.1 ≠ n ∧ p.1 ≠ dn ∧ p.1 ≠ sn) → (@LT.lt Nat _ x dn ∧ @LT.lt Nat _ dx dn ∧ @LT.lt Nat _ d dn ∧ @LT.lt Nat _ dn n ∧ @LT.lt Nat _ n sn) → Q (.ref n) { s with heap := h', toks := tk' }) :
    wpAny (model PG w) (ktrTop dp un gd cn cs L a ccd cl outer) (call (.ref 94) [.ref x, .int k tk]) Q E s := by
  refine wpAny_call ?_
  have N0 : News h₀ L s.heap [(x, instObj 151 dx), (dx, dictOf (sEs w (.ref d) rd po nf t1 t2 t3 t4) 4), (d, od)] := fun p hp => N p (by simp only [List.mem_cons, List.not_mem_nil, or_false] at hp ⊢; rcases hp with h | h | h <;> simp [h])
  k_dflt (refine' code_defG ?k1 ?k2 ?k3 ?k4 ?k5 ?kA ?kF ?kK ?k6 ?k7 ?k8 ?k9 ?kB ?_ ?c2 ?c3 ?c4 ?c5; (case kA => exact rfl); (case kF => exact rfl); (case kK => assumption); (case k1 => k_asm); (case k2 => k_asm); (case k3 => k_asm); (case k4 => exact N0); (case k5 => k_asm); (case k6 => k_is); (case k7 => k_is); (case k8 => ktr_room); (case k9 => exact BindsTo.of_eq rfl); (case c5 => decide); (case kB => exact locs rfl); (case c2 => exact rfl); (case c3 => exact rfl); (case c4 => exact rfl); k_whole; intro g' L' h' FG' F' N' B' X' T' kG'; (try dsimp only); (try k_fold))
  have hR : ∀ p ∈ rest, g'.get? p.1 = some p.2 := fun p hp => kG' _ _ (N p (.tail _ (.tail _ (.tail _ hp)))).1 (by simpa [eq_comm] using hrest p hp)
  (repeat' (first | (k_unfold; (try dsimp only)) | (k_end; kc_close) | walk1 | (dsimp only; walk1) | (leave1; walk_say "STEP leave1"; (try dsimp only)) | walk_at "onk" | fail "no step"))
  refine' kdg_get1 (kvs := kvs) (k := k) (knd := intKind PG w) ?n1 ?n2 D ?n3 ?n4 none hv ?_
  (case n1 => k_asm)
  (case n2 => exact .tail _ (.tail _ (.head _)))
  (case n3 => exact hdm)
  (case n4 => simp [intKind, Value.isInt])
  dsimp only [Option.getD]
  (repeat' (first | (k_unfold; (try dsimp only)) | (k_end; kc_close) | walk1 | (dsimp only; walk1) | (leave1; walk_say "STEP leave1"; (try dsimp only)) | walk_at "onk" | fail "no step"))
  refine' kda_set (kvs := kvs) (k := k) (knd := intKind PG w) ?n1 ?n2 ?n3 D ?n4 ?n5 ?_
  (case n1 => k_asm)
  (case n2 => k_asm)
  (case n3 => k_updF)
  (case n4 => simp [intKind, Value.isInt])
  (case n5 => rw [sizeLine_eq]; lia)
  intro h9 o9 F9 N9 D9
  (repeat' (first | (k_unfold; (try dsimp only)) | (k_end; kc_close) | walk1 | (dsimp only; walk1) | (leave1; walk_say "STEP leave1"; (try dsimp only)) | walk_at "onk" | fail "no step"))
  rename News h₀ L _ _ => kN
  rename Fr g' L' _ _ => F2
  rename News g' L' _ _ => N2
  refine ret _ _ o9 _ _ _ _ (by k_asm) (news_join kN F2 hR fun p hp => (N p (.tail _ (.tail _ (.tail _ hp)))).2) (stored_new hv ▸ D9) (fun p hp => ⟨rest_ne N2 hR (.tail _ (.head _)) p hp, rest_ne N2 hR (.tail _ (.tail _ (.head _))) p hp, rest_ne N2 hR (.head _) p hp⟩) ?_
  lia
end
section
set_option maxHeartbeats 8000000
noncomputable def upd {α : Type} (f : Int → α) (k : Int) (v : α) : Int → α := fun j => if j = k then v else f j
theorem upd_self {α : Type} (f : Int → α) (k : Int) (v : α) : upd f k v k = v := if_pos rfl
theorem upd_ne {α : Type} (f : Int → α) {k j : Int} (v : α) (h : j ≠ k) : upd f k v j = f j := if_neg h
theorem IntsAre.snoc {vs : List Value} {ns : List Int} (h : IntsAre vs ns) (n : Int) (t : Tok) : IntsAre (vs ++ [.int n t]) (ns ++ [n]) := by
  induction h with
  | nil => exact .cons n t .nil
  | cons a b _ ih => exact .cons a b ih
section
variable {w : World} {A : Around} {h₀ : Heap} {L : Addr} {m : Str → Option Value} {s : Shared} {E : Value → Shared → Prop} {nA dA sA : Int → Addr} {keys : List Int} {np : Int → Int} {succ : Int → List Int} {fr srt : List (Addr × Obj)} {k : Int}
theorem same_entry {l : List (Addr × Obj)} (nd : (l.map (·.1)).Nodup) {b : Addr} {o o' : Obj} (h : (b, o) ∈ l) (h' : (b, o') ∈ l) : o = o' := by
  induction l with
  | nil => exact absurd h (List.not_mem_nil)
  | cons p r ih =>
    have nd' := nd
    rw [List.map_cons, List.nodup_cons] at nd'
    have no : ∀ q : Obj, (b, q) ∈ r → p.1 ≠ b := fun q hq z => nd'.1 (by rw [z]; exact List.mem_map.mpr ⟨(b, q), hq, rfl⟩)
    rcases List.mem_cons.mp h with e | h
    · rcases List.mem_cons.mp h' with e' | h'
      · exact congrArg Prod.snd (e.trans e'.symm)
      · exact absurd (congrArg Prod.fst e).symm (no o' h')
    · rcases List.mem_cons.mp h' with e' | h'
      · exact absurd (congrArg Prod.fst e').symm (no o h)
      · exact ih nd'.2 h h'
theorem Nodes.nA_inj (Nd : Nodes nA dA sA keys np succ srt) {j : Int} (hj : j ∈ keys) (hk : k ∈ keys) (e : nA j = nA k) : j = k := by
  obtain ⟨t1, t2, h1⟩ := Nd.node j hj
  obtain ⟨t3, t4, h2⟩ := Nd.node k hk
  rw [e] at h1
  have e1 := congrArg (fun o : Obj => o.slots.toList.head?) (same_entry Nd.nd h1 h2)
  have e2 : some (some (Value.int j t1)) = some (some (Value.int k t3)) := e1
  injection e2 with e3
  injection e3 with e4
  injection e4
theorem Nodes.nA_dA (Nd : Nodes nA dA sA keys np succ srt) {j : Int} (hj : j ∈ keys) (hk : k ∈ keys) : nA j ≠ dA k := fun e => by
  obtain ⟨t1, t2, h1⟩ := Nd.node j hj
  have h2 := Nd.dict k hk
  rw [e] at h1
  have e1 := congrArg Obj.cls (same_entry Nd.nd h1 h2)
  exact nomatch e1
theorem Nodes.nA_sA (Nd : Nodes nA dA sA keys np succ srt) {j : Int} (hj : j ∈ keys) (hk : k ∈ keys) : nA j ≠ sA k := fun e => by
  obtain ⟨t1, t2, h1⟩ := Nd.node j hj
  obtain ⟨sv, n, _, h2⟩ := Nd.list k hk
  rw [e] at h1
  have e1 := congrArg Obj.cls (same_entry Nd.nd h1 h2)
  exact nomatch e1
theorem Nodes.dA_sA (Nd : Nodes nA dA sA keys np succ srt) {j : Int} (hj : j ∈ keys) (hk : k ∈ keys) : dA j ≠ sA k := fun e => by
  have h1 := Nd.dict j hj
  obtain ⟨sv, n, _, h2⟩ := Nd.list k hk
  rw [e] at h1
  have e1 := congrArg Obj.cls (same_entry Nd.nd h1 h2)
  have e2 : Value.type "dict" = Value.type "list" := e1
  exact absurd e2 (by decide)
theorem np_get {expr : Bool} {Q : Value → Shared → Prop} (F : Fr h₀ L s.heap m) (X : (Mine.hd.heap_1 w.params).In h₀) (N : News h₀ L s.heap (fr ++ srt)) (Nd : Nodes nA dA sA keys np succ srt) (hk : k ∈ keys)
    (h : ∀ t, Q (.int (np k) t) { s with toks := s.toks + 1 }) : wpAny (model PG w) A (getAttr (.ref (nA k)) (Str.ofString "npredecessors") expr) Q E s := by
  obtain ⟨tk, tp, hm⟩ := Nd.node k hk
  have hm' := List.mem_append_right fr hm
  have hd' := List.mem_append_right fr (Nd.dict k hk)
  k_dflt (refine' get_slot ?k1 ?k2 ?k3 ?k4 ?k5 ?k6 ?k7 ?k8 ?k9 ?k10 ?k11 ?_; (case k1 => k_asm); (case k2 => k_asm); (case k3 => exact InstAt.of_news N hm' hd'); (case k4 => k_is); (case k5 => k_is); (case k6 => k_is); (case k7 => k_is); (case k8 => k_is); (case k9 => k_is); (case k10 => exact rfl); (case k11 => k_handed); exact h _)
theorem succ_get {expr : Bool} {Q : Value → Shared → Prop} (F : Fr h₀ L s.heap m) (X : (Mine.hd.heap_1 w.params).In h₀) (N : News h₀ L s.heap (fr ++ srt)) (Nd : Nodes nA dA sA keys np succ srt) (hk : k ∈ keys)
    (h : Q (.ref (sA k)) { s with toks := s.toks + 1 }) : wpAny (model PG w) A (getAttr (.ref (nA k)) (Str.ofString "successors") expr) Q E s := by
  obtain ⟨tk, tp, hm⟩ := Nd.node k hk
  have hm' := List.mem_append_right fr hm
  have hd' := List.mem_append_right fr (Nd.dict k hk)
  k_dflt (refine' get_slot ?k1 ?k2 ?k3 ?k4 ?k5 ?k6 ?k7 ?k8 ?k9 ?k10 ?k11 ?_; (case k1 => k_asm); (case k2 => k_asm); (case k3 => exact InstAt.of_news N hm' hd'); (case k4 => k_is); (case k5 => k_is); (case k6 => k_is); (case k7 => k_is); (case k8 => k_is); (case k9 => k_is); (case k10 => exact rfl); (case k11 => k_handed); exact h)
theorem Nodes.setNp (Nd : Nodes nA dA sA keys np succ srt) (hk : k ∈ keys) {tk : Tok} {v : Int} {t : Tok} {tp : Tok} (hm : (nA k, nodeO (dA k) (sA k) (.int k tk) (.int (np k) tp)) ∈ srt) : Nodes nA dA sA keys (upd np k v) succ (setAt (nA k) (nodeO (dA k) (sA k) (.int k tk) (.int v t)) srt) where
  nd := by rw [setAt_keys]; exact Nd.nd
  node := fun j hj => by
    by_cases e : j = k
    · subst e; exact ⟨tk, t, by rw [upd_self]; exact mem_setAt_self hm⟩
    · obtain ⟨t1, t2, h1⟩ := Nd.node j hj
      exact ⟨t1, t2, by rw [upd_ne _ _ e]; exact mem_setAt_ne (fun q => e (Nd.nA_inj hj hk q)) h1⟩
  dict := fun j hj => mem_setAt_ne (Ne.symm (Nd.nA_dA hk hj)) (Nd.dict j hj)
  list := fun j hj => by
    obtain ⟨sv, n, hi, h1⟩ := Nd.list j hj
    exact ⟨sv, n, hi, mem_setAt_ne (Ne.symm (Nd.nA_sA hk hj)) h1⟩
  inj := Nd.inj
theorem np_set {Q : Unit → Shared → Prop} {v : Int} {t : Tok} (F : Fr h₀ L s.heap m) (X : (Mine.hd.heap_1 w.params).In h₀) (N : News h₀ L s.heap (fr ++ srt)) (Nd : Nodes nA dA sA keys np succ srt) (hk : k ∈ keys) (hfr : ∀ p ∈ fr, ∀ q ∈ srt, p.1 ≠ q.1)
    (h : ∀ h' srt', Fr h₀ L h' m → News h₀ L h' (fr ++ srt') → Nodes nA dA sA keys (upd np k v) succ srt' → srt'.map (·.1) = srt.map (·.1) → (∀ p ∈ srt, p.1 ≠ nA k → p ∈ srt') → Q () { s with heap := h', toks := s.toks + 1 }) :
    wpAny (model PG w) A (setAttr (.ref (nA k)) (Str.ofString "npredecessors") (.int v t)) Q E s := by
  obtain ⟨tk, tp, hm⟩ := Nd.node k hk
  have hm' := List.mem_append_right fr hm
  have hd' := List.mem_append_right fr (Nd.dict k hk)
  have U := updF_app (updF_setAt Nd.nd hm) (fun p hp => hfr p hp _ hm)
  k_dflt (refine' set_slot ?k1 ?k2 ?k3 ?k4 ?k5 ?k6 ?k7 ?k8 ?k9 ?k10 ?k11 ?k12 ?k13 ?_; (case k1 => k_asm); (case k2 => k_asm); (case k3 => k_asm); (case k4 => exact InstAt.of_news N hm' hd'); (case k5 => k_is); (case k6 => k_is); (case k7 => k_is); (case k8 => k_is); (case k9 => k_is); (case k10 => decide); (case k11 => exact rfl); (case k12 => exact rfl); (case k13 => exact upd_of_updF _ U))
  intro h' F' N'
  exact h h' _ F' N' (Nd.setNp hk hm) (setAt_keys _ _ _) fun p hp hne => mem_setAt_ne hne hp
theorem Nodes.pushSucc (Nd : Nodes nA dA sA keys np succ srt) (hk : k ∈ keys) {v : Int} {t : Tok} {sv : List Value} {n n' : Nat} (hi : IntsAre sv (succ k)) (hm : (sA k, listOf sv.toArray n) ∈ srt) :
    Nodes nA dA sA keys np (upd succ k (succ k ++ [v])) (setAt (sA k) (listOf (sv.toArray.push (.int v t)) n') srt) where
  nd := by rw [setAt_keys]; exact Nd.nd
  node := fun j hj => by
    obtain ⟨t1, t2, h1⟩ := Nd.node j hj
    exact ⟨t1, t2, mem_setAt_ne (Nd.nA_sA hj hk) h1⟩
  dict := fun j hj => mem_setAt_ne (Nd.dA_sA hj hk) (Nd.dict j hj)
  list := fun j hj => by
    by_cases e : j = k
    · subst e
      exact ⟨sv ++ [.int v t], n', by rw [upd_self]; exact IntsAre.snoc hi v t, by have := mem_setAt_self (o' := listOf (sv.toArray.push (.int v t)) n') hm; simpa using this⟩
    · obtain ⟨sv', n₂, hi', h1⟩ := Nd.list j hj
      exact ⟨sv', n₂, by rw [upd_ne _ _ e]; exact hi', mem_setAt_ne (fun q => e (Nd.inj j hj k hk q)) h1⟩
  inj := Nd.inj
theorem succ_push {Q : Value → Shared → Prop} {v : Int} {t : Tok} (F : Fr h₀ L s.heap m) (N : News h₀ L s.heap (fr ++ srt)) (Nd : Nodes nA dA sA keys np succ srt) (hk : k ∈ keys) (hfr : ∀ p ∈ fr, ∀ q ∈ srt, p.1 ≠ q.1) (hsz : (succ k).length ≤ 1000)
    (h : ∀ h' srt', Fr h₀ L h' m → News h₀ L h' (fr ++ srt') → Nodes nA dA sA keys np (upd succ k (succ k ++ [v])) srt' → srt'.map (·.1) = srt.map (·.1) → Q .none { s with heap := h' }) :
    wpAny (model PG w) A (call (.builtin "list.append") [.ref (sA k), .int v t]) Q E s := by
  obtain ⟨sv, n, hi, hm⟩ := Nd.list k hk
  have U := updF_app (updF_setAt Nd.nd hm) (fun p hp => hfr p hp _ hm)
  refine append_K F N (upd_of_updF _ U) (fun h' F' N' => h h' _ F' N' (Nd.pushSucc hk hi hm) (setAt_keys _ _ _)) ?_
  rw [List.size_toArray, hi.length, sizeLine_eq]; lia
theorem fr_srt {srt' : List (Addr × Obj)} (hfr : ∀ p ∈ fr, ∀ q ∈ srt, p.1 ≠ q.1) (e : srt'.map (·.1) = srt.map (·.1)) : ∀ p ∈ fr, ∀ q ∈ srt', p.1 ≠ q.1 := fun p hp q hq z => by
  have : q.1 ∈ srt.map (·.1) := by rw [← e]; exact List.mem_map_of_mem hq
  obtain ⟨q', hq', e'⟩ := List.mem_map.mp this
  exact hfr p hp q' hq' (by rw [z]; exact e'.symm)
theorem tail_srt {srt' : List (Addr × Obj)} {b : Addr} (h : ∀ q ∈ srt, q.1 ≠ b) (e : srt'.map (·.1) = srt.map (·.1)) : ∀ q ∈ srt', q.1 ≠ b := fun q hq z => by
  have : q.1 ∈ srt.map (·.1) := by rw [← e]; exact List.mem_map_of_mem hq
  obtain ⟨q', hq', e'⟩ := List.mem_map.mp this
  exact h q' hq' (by rw [e']; exact z)
end
end
section
set_option maxHeartbeats 8000000
section
variable {prog : Program} {w : World} {A : Around} {E : Value → Shared → Prop} {s : Shared} {env : Env} {h₀ : Heap} {target : Expr} {body : List Stmt} {Q : Flow → Shared → Prop} {m₀ : Str → Option Value} {news₀ : List (Addr × Obj)}
noncomputable def TurnEnd (h₀ : Heap) (L : Addr) (own : List (Addr × Obj)) (J : (Str → Option Value) → List (Addr × Obj) → Prop) (s₁ : Shared) (Q : Flow → Shared → Prop) (f : Flow) (s₂ : Shared) : Prop :=
  match f with
  | .ret v => Q (.ret v) s₂
  | .brk => Q .next s₂
  | _ => (Ex4 fun h' tk m' news' => Cj5 (s₂ = { s₁ with heap := h', toks := tk }) (Fr h₀ L h' m') (News h₀ L h' (own ++ news')) ((∀ p ∈ own, ∀ q ∈ news', p.1 ≠ q.1)) (J m' news'))
theorem turns_coreA {I ax : Addr} {axO : Obj} {n : Nat} {P : Nat → Value → Prop} {St : Nat → Heap → Prop} (J : Nat → (Str → Option Value) → List (Addr × Obj) → Prop) (W : Walks prog w A I [I, ax] [I] n P St)
    (hgo : ∀ i v (s : Shared) (Q : Unit → Shared → Prop) (E : Value → Shared → Prop), St i s.heap → Q () s → wpAny (model prog w) A (letOwnedTupleGo target (.ref I) v) Q E s)
    (hIo : ∀ i h, St i h → ∃ o, h.get? I = some o)
    (hst : St 0 s.heap) (F : Fr h₀ env.locals s.heap m₀) (N : News h₀ env.locals s.heap ((ax, axO) :: news₀)) (hI₀ : h₀.get? I = none) (hLI : env.locals ≠ I) (hLa : env.locals ≠ ax) (hIa : ax ≠ I) (off : ∀ p ∈ news₀, p.1 ≠ I ∧ p.1 ≠ ax) (h0 : J 0 m₀ news₀)
    (step : ∀ i v m₁ news₁ h₁ tk₁ own, i < n → P i v → J i m₁ news₁ → (∀ p ∈ own, ∀ q ∈ news₁, p.1 ≠ q.1) → Fr h₀ env.locals h₁ m₁ → News h₀ env.locals h₁ (own ++ news₁) →
      wpAny (model prog w) A (assign target env v) (fun _ s₃ => wpAny (model prog w) A (execs body env) (TurnEnd h₀ env.locals own (J (i + 1)) { s with heap := h₁, toks := tk₁ } Q) E s₃) E { s with heap := h₁, toks := tk₁ })
    (done : ∀ m' news' h' tk, J n m' news' → Fr h₀ env.locals h' m' → News h₀ env.locals h' ((ax, axO) :: news') → (∀ p ∈ news', p.1 ≠ ax) → Q .next { s with heap := h', toks := tk }) :
    TurnsAt prog w A h₀ env target body Q E (.ref I) s := by
  have hax₀ : h₀.get? ax = none := (N _ (.head _)).2.2
  refine ⟨I, [I, ax], [I], n, _, _, St, m₀, (ax, axO) :: news₀, fun i m nw => ∃ nw', nw = (ax, axO) :: nw' ∧ J i m nw' ∧ (∀ p ∈ nw', p.1 ≠ ax), rfl, KTurns.ofWalks W hgo, ?_, ?_, ?_, hst, F, N, ⟨news₀, rfl, h0, fun p hp => (off p hp).2⟩, ?_, ?_⟩
  · simp [hLI, hLa]
  · intro b hb; rw [List.mem_singleton.mp hb]; exact hI₀
  · intro p hp
    rcases List.mem_cons.mp hp with h | h
    · subst h; simpa using hIa
    · simpa using (off p h).1
  · rintro i v m₁ news₂ h₁ tk₁ own hi hP ⟨news₁, rfl, hJ, hax⟩ hw ho1 ho2 ho3 st F₁ N₁
    have eax : h₁.get? ax = some axO := (N₁ (ax, axO) (List.mem_append_right _ (.head _))).1
    have dis : ∀ p ∈ own, ∀ q ∈ news₁, p.1 ≠ q.1 := fun p hp q hq e => by
      have h1 := ho1 p hp
      rcases List.mem_cons.mp h1 with h1 | h1
      · exact hw q (.tail _ hq) (by rw [← e, h1]; exact List.mem_singleton.mpr rfl)
      · exact hax q hq (by rw [← e]; exact List.mem_singleton.mp h1)
    refine wpAny_mono (step i v m₁ news₁ h₁ tk₁ own hi hP hJ dis F₁ fun p hp => N₁ p (by
      rcases List.mem_append.mp hp with h | h
      · exact List.mem_append_left _ h
      · exact List.mem_append_right _ (.tail _ h))) (fun _ s₃ h₃ => wpAny_mono h₃ (fun f s₄ h₄ => ?_) fun _ _ e => e) fun _ _ e => e
    have fin : ((Ex4 fun h' tk m' news' => Cj5 (s₄ = { { s with heap := h₁, toks := tk₁ } with heap := h', toks := tk }) (Fr h₀ env.locals h' m') (News h₀ env.locals h' (own ++ news')) ((∀ p ∈ own, ∀ q ∈ news', p.1 ≠ q.1)) (J (i + 1) m' news'))) →
        LoopStepU h₀ env.locals [I] own (fun m nw => ∃ nw', nw = (ax, axO) :: nw' ∧ J (i + 1) m nw' ∧ (∀ p ∈ nw', p.1 ≠ ax)) { s with heap := h₁, toks := tk₁ } .next s₄ := by
      rintro ⟨h', tk, m', news', rfl, F', N', dis', hJ'⟩
      have hown := ho3 ax (.tail _ (.head _)) hax₀ axO eax
      refine ⟨rfl, h', tk, m', (ax, axO) :: news', rfl, F', fun p hp => ?_, fun p hp hI => ?_, news', rfl, hJ', fun p hp e => dis' _ hown p hp e.symm⟩
      · rcases List.mem_append.mp hp with h | h
        · exact N' p (List.mem_append_left _ h)
        · rcases List.mem_cons.mp h with h | h
          · subst h; exact N' _ (List.mem_append_left _ hown)
          · exact N' p (List.mem_append_right _ h)
      · rcases List.mem_cons.mp hp with h | h
        · subst h; exact hIa (List.mem_singleton.mp hI)
        · obtain ⟨oI, heI⟩ := hIo _ _ st
          exact dis' _ (ho3 I (.head _) hI₀ oI heI) p h (List.mem_singleton.mp hI).symm
    cases f with
    | ret v => exact h₄
    | brk => exact h₄
    | next => exact fin h₄
    | cont => exact fin h₄
  · rintro h' tk m' news'' F' N' _ ⟨news', rfl, hJ, hax⟩
    exact done m' news' h' tk hJ F' N' hax
theorem turns_tuple {ax : Addr} {vs : List Value} {nv : Nat} (J : Nat → (Str → Option Value) → List (Addr × Obj) → Prop) (hh : A.handled = none) (F : Fr h₀ env.locals s.heap m₀)
    (N : News h₀ env.locals s.heap ((ax, ({ cls := .type "tuple", data := .seq vs.toArray nv } : Obj)) :: news₀)) (hax : ∀ p ∈ news₀, p.1 ≠ ax) (h0 : J 0 m₀ news₀)
    (step : ∀ i v m₁ news₁ h₁ tk₁ own, vs[i]? = some v → J i m₁ news₁ → (∀ p ∈ own, ∀ q ∈ news₁, p.1 ≠ q.1) → Fr h₀ env.locals h₁ m₁ → News h₀ env.locals h₁ (own ++ news₁) →
      wpAny (model prog w) A (assign target env v) (fun _ s₃ => wpAny (model prog w) A (execs body env) (TurnEnd h₀ env.locals own (J (i + 1)) { s with heap := h₁, toks := tk₁ } Q) E s₃) E { s with heap := h₁, toks := tk₁ })
    (done : ∀ m' news' h' tk, J vs.length m' news' → Fr h₀ env.locals h' m' → News h₀ env.locals h' ((ax, ({ cls := .type "tuple", data := .seq vs.toArray nv } : Obj)) :: news') → (∀ p ∈ news', p.1 ≠ ax) → Q .next { s with heap := h', toks := tk }) :
    wpAny (model prog w) A (pyIter (.ref ax)) (fun it s₂ => TurnsAt prog w A h₀ env target body Q E it s₂) E s := by
  have ha := N _ (.head _)
  have hl : s.heap.IsTuple ax vs.toArray := ⟨_, ha.1, rfl, nv, rfl⟩
  have hlt : ax < s.heap.objs.size := Heap.lt_size ha.1
  refine wpAny_pyIter_tuple hl ?_
  refine turns_coreA J (Walks.tuple hh s.heap.objs.size ax (Nat.ne_of_lt hlt) vs.toArray) (fun i v s Q E st q => letGo_tupleiter st.1 q) (fun i h st => ?_) ⟨⟨_, Heap.get?_push_size _ rfl, rfl, rfl⟩, hl.push _⟩ (F.push _)
    (fun p hp => ⟨Heap.get?_push_of_some _ (N p hp).1, (N p hp).2⟩) (next_is_new F) (Nat.ne_of_lt F.ns.lt) (Ne.symm ha.2.1) (Nat.ne_of_lt hlt) (fun p hp => ⟨Nat.ne_of_lt (Heap.lt_size (N p (.tail _ hp)).1), hax p hp⟩) h0
    (fun i v m₁ news₁ h₁ tk₁ own hi hP => step i v m₁ news₁ h₁ tk₁ own (by have hP' : vs.toArray[i]? = some v := hP; simpa using hP')) ?_
  · obtain ⟨o, e, _⟩ := st.1; exact ⟨o, e⟩
  · intro m' news' h' tk hJ; exact done m' news' h' tk (by simpa using hJ)
theorem turns_list {ax : Addr} {vs : List Value} {nv : Nat} (J : Nat → (Str → Option Value) → List (Addr × Obj) → Prop) (hh : A.handled = none) (F : Fr h₀ env.locals s.heap m₀)
    (N : News h₀ env.locals s.heap ((ax, listOf vs.toArray nv) :: news₀)) (hax : ∀ p ∈ news₀, p.1 ≠ ax) (h0 : J 0 m₀ news₀)
    (step : ∀ i v m₁ news₁ h₁ tk₁ own, vs[i]? = some v → J i m₁ news₁ → (∀ p ∈ own, ∀ q ∈ news₁, p.1 ≠ q.1) → Fr h₀ env.locals h₁ m₁ → News h₀ env.locals h₁ (own ++ news₁) →
      wpAny (model prog w) A (assign target env v) (fun _ s₃ => wpAny (model prog w) A (execs body env) (TurnEnd h₀ env.locals own (J (i + 1)) { s with heap := h₁, toks := tk₁ } Q) E s₃) E { s with heap := h₁, toks := tk₁ })
    (done : ∀ m' news' h' tk, J vs.length m' news' → Fr h₀ env.locals h' m' → News h₀ env.locals h' ((ax, listOf vs.toArray nv) :: news') → (∀ p ∈ news', p.1 ≠ ax) → Q .next { s with heap := h', toks := tk }) :
    wpAny (model prog w) A (pyIter (.ref ax)) (fun it s₂ => TurnsAt prog w A h₀ env target body Q E it s₂) E s := by
  have ha := N _ (.head _)
  have hl : s.heap.IsList ax vs.toArray := ⟨_, ha.1, rfl, nv, rfl⟩
  have hlt : ax < s.heap.objs.size := Heap.lt_size ha.1
  refine wpAny_pyIter_list hl ?_
  refine turns_coreA J (Walks.list hh s.heap.objs.size ax (Nat.ne_of_lt hlt) vs.toArray) (fun i v s Q E st q => letGo_listiter st.1 q) (fun i h st => ?_) ⟨⟨_, Heap.get?_push_size _ rfl, rfl, rfl⟩, hl.push _⟩ (F.push _)
    (fun p hp => ⟨Heap.get?_push_of_some _ (N p hp).1, (N p hp).2⟩) (next_is_new F) (Nat.ne_of_lt F.ns.lt) (Ne.symm ha.2.1) (Nat.ne_of_lt hlt) (fun p hp => ⟨Nat.ne_of_lt (Heap.lt_size (N p (.tail _ hp)).1), hax p hp⟩) h0
    (fun i v m₁ news₁ h₁ tk₁ own hi hP => step i v m₁ news₁ h₁ tk₁ own (by have hP' : vs.toArray[i]? = some v := hP; simpa using hP')) ?_
  · obtain ⟨o, e, _⟩ := st.1; exact ⟨o, e⟩
  · intro m' news' h' tk hJ; exact done m' news' h' tk (by simpa using hJ)
theorem turns_listIn {ax : Addr} {vs : List Value} {nv : Nat} (J : Nat → (Str → Option Value) → List (Addr × Obj) → Prop) (hh : A.handled = none) (F : Fr h₀ env.locals s.heap m₀)
    (N : News h₀ env.locals s.heap news₀) (hJ : ∀ i m nw, J i m nw → (ax, listOf vs.toArray nv) ∈ nw) (h0 : J 0 m₀ news₀)
    (step : ∀ i v m₁ news₁ h₁ tk₁ I oI, vs[i]? = some v → J i m₁ news₁ → (∀ q ∈ news₁, I ≠ q.1) → Fr h₀ env.locals h₁ m₁ → News h₀ env.locals h₁ ((I, oI) :: news₁) →
      wpAny (model prog w) A (assign target env v) (fun _ s₃ => wpAny (model prog w) A (execs body env) (TurnEnd h₀ env.locals [(I, oI)] (J (i + 1)) { s with heap := h₁, toks := tk₁ } Q) E s₃) E { s with heap := h₁, toks := tk₁ })
    (done : ∀ m' news' h' tk, J vs.length m' news' → Fr h₀ env.locals h' m' → News h₀ env.locals h' news' → Q .next { s with heap := h', toks := tk }) :
    wpAny (model prog w) A (pyIter (.ref ax)) (fun it s₂ => TurnsAt prog w A h₀ env target body Q E it s₂) E s := by
  have ha := N _ (hJ _ _ _ h0)
  have hl : s.heap.IsList ax vs.toArray := ⟨_, ha.1, rfl, nv, rfl⟩
  have hlt : ax < s.heap.objs.size := Heap.lt_size ha.1
  have hIa : ax ≠ s.heap.objs.size := Nat.ne_of_lt hlt
  have hI₀ : h₀.get? s.heap.objs.size = none := next_is_new F
  refine wpAny_pyIter_list hl ?_
  have W := Walks.list (prog := prog) (w := w) hh s.heap.objs.size ax hIa vs.toArray
  refine ⟨s.heap.objs.size, [s.heap.objs.size, ax], [s.heap.objs.size], vs.toArray.size, _, _, _, m₀, news₀, J, rfl, KTurns.ofWalks W (fun i v s Q E st q => letGo_listiter st.1 q), ?_, ?_, ?_, ⟨⟨_, Heap.get?_push_size _ rfl, rfl, rfl⟩, hl.push _⟩, F.push _,
    (fun p hp => ⟨Heap.get?_push_of_some _ (N p hp).1, (N p hp).2⟩), h0, ?_, ?_⟩
  · intro h
    rcases List.mem_cons.mp h with h | h
    · exact absurd F.ns.lt (h ▸ Nat.lt_irrefl _)
    · exact ha.2.1 (List.mem_singleton.mp h).symm
  · intro b hb; rw [List.mem_singleton.mp hb]; exact hI₀
  · intro p hp h; exact absurd (Heap.lt_size (N p hp).1) ((List.mem_singleton.mp h) ▸ Nat.lt_irrefl _)
  · rintro i v m₁ news₁ h₁ tk₁ own hi hP hJ₁ hw ho1 ho2 ho3 st F₁ N₁
    obtain ⟨oI, heI, _⟩ := st.1
    have eax : h₁.get? ax = some (listOf vs.toArray nv) := (N₁ _ (List.mem_append_right _ (hJ _ _ _ hJ₁))).1
    have hIo := ho3 _ (.head _) hI₀ oI heI
    refine wpAny_mono (step i v m₁ news₁ h₁ tk₁ s.heap.objs.size oI (by have hP' : vs.toArray[i]? = some v := hP; simpa using hP') hJ₁ (fun q hq e => hw q hq (by rw [← e]; exact List.mem_singleton.mpr rfl)) F₁ fun p hp => N₁ p (by
      rcases List.mem_cons.mp hp with h | h
      · subst h; exact List.mem_append_left _ hIo
      · exact List.mem_append_right _ h)) (fun _ s₃ h₃ => wpAny_mono h₃ (fun f s₄ h₄ => ?_) fun _ _ e => e) fun _ _ e => e
    have fin : ((Ex4 fun h' tk m' news' => Cj5 (s₄ = { { s with heap := h₁, toks := tk₁ } with heap := h', toks := tk }) (Fr h₀ env.locals h' m') (News h₀ env.locals h' ([(s.heap.objs.size, oI)] ++ news')) ((∀ p ∈ [(s.heap.objs.size, oI)], ∀ q ∈ news', p.1 ≠ q.1)) (J (i + 1) m' news'))) →
        LoopStepU h₀ env.locals [s.heap.objs.size] own (J (i + 1)) { s with heap := h₁, toks := tk₁ } .next s₄ := by
      rintro ⟨h', tk, m', news', rfl, F', N', dis', hJ'⟩
      refine ⟨rfl, h', tk, m', news', rfl, F', fun p hp => ?_, fun p hp hI => dis' _ (.head _) p hp (List.mem_singleton.mp hI).symm, hJ'⟩
      rcases List.mem_append.mp hp with h | h
      · have e2 := ho2 p h
        rcases List.mem_cons.mp (ho1 p h) with e | e
        · have : p = (s.heap.objs.size, oI) := by
            obtain ⟨p1, p2⟩ := p
            have e' : p1 = s.heap.objs.size := e
            subst e'
            rw [heI] at e2; cases e2; rfl
          rw [this]; exact N' _ (.head _)
        · have : p = (ax, listOf vs.toArray nv) := by
            obtain ⟨p1, p2⟩ := p
            have e' : p1 = ax := List.mem_singleton.mp e
            subst e'
            rw [eax] at e2; cases e2; rfl
          rw [this]; exact N' _ (.tail _ (hJ _ _ _ hJ'))
      · exact N' p (.tail _ h)
    cases f with
    | ret v => exact h₄
    | brk => exact h₄
    | next => exact fin h₄
    | cont => exact fin h₄
  · rintro h' tk m' news' F' N' _ hJ'
    exact done m' news' h' tk (by simpa using hJ') F' N'
end
section
variable {prog : Program} {w : World} {A : Around} {E : Value → Shared → Prop} {s : Shared} {h₀ : Heap} {L : Addr} {m : Str → Option Value} {news : List (Addr × Obj)}
theorem upd_news {h : Heap} {d : Addr} {o o' : Obj} {g : Obj → List (Addr × Obj)} {f : Obj → Obj} (F : Fr h₀ L h m) (N : News h₀ L h news) (U : UpdF d o news g) (e : f o = o') (hf : o'.isFreed = false) : Fr h₀ L (h.update d f) m ∧ News h₀ L (h.update d f) (g o') := by
  obtain ⟨pre, post, rfl, hg, a, b⟩ := U.split
  rw [hg]
  exact news_upd F N a b e hf
noncomputable abbrev turned (f : Array Value → Array Value) (its : Array Value) (n : Nat) : Obj := listOf (f its) (if (f its).size == its.size then n else n + 1)
theorem mapSeq_list (f : Array Value → Array Value) (its : Array Value) (n : Nat) : Obj.mapSeq f (listOf its n) = turned f its n := rfl
theorem clear_any {D : Addr} {its : Array Value} {n : Nat} {g : Obj → List (Addr × Obj)} {Q : Value → Shared → Prop} (F : Fr h₀ L s.heap m) (N : News h₀ L s.heap news) (U : UpdF D (listOf its n) news g) (hm : (D, listOf its n) ∈ news) (hz : its.size ≤ sizeLine)
    (h : ∀ h' n', Fr h₀ L h' m → News h₀ L h' (g (listOf #[] n')) → Q .none { s with heap := h' }) : wpAny (model prog w) A (call (.builtin "list.clear") [.ref D]) Q E s := by
  have z := N _ hm
  have k := upd_news F N U (mapSeq_list (fun _ => #[]) its n) rfl
  exact call_meets PySem.F.slot_list_clear ⟨_, z.1, rfl⟩ PySem.F.entry_list_clear (PySem.F.args_list_clear_1 _) (PySem.AutoSeq1.list_clear_list_0 D its n hz) ⟨z.1, h _ _ k.1 k.2⟩
end
end
section
open PySem PySem.W PyProof.Rows PySem.Spec PySem.Calls
theorem kts_memX {env : Env} {L b : Addr} {outer : List Env} (hf : env.frame = some L) (hm : b ∈ (env :: outer).filterMap (·.frame)) : b = L ∨ b ∈ outer.filterMap (·.frame) := by
  obtain ⟨e, he, hb⟩ := List.mem_filterMap.mp hm
  rcases List.mem_cons.mp he with rfl | he
  · exact .inl (Option.some.inj (hb.symm.trans hf))
  · exact .inr (List.mem_filterMap.mpr ⟨e, he, hb⟩)
noncomputable def LeaveT (A₀ : Around) (base : Heap) (env : Env) (outer : List Env) (K : Frag) (p : Program) (loose : List Str) (mean : ExcName → Option Value) (mg mb : Str → Option Value) (h₀ : Heap) (L : Addr) (m : Str → Option Value) (g : Heap)
    (R : Result → Shared → Prop) (v : Value) (s' : Shared) : Prop :=
  (Ex4 fun g' L' m' news' => Cj4 (KtsTurn ((env :: outer).filterMap (·.frame)) g g') (Fr g' L' s'.heap m') (News g' L' s'.heap news') (∀ h₀', KtsTurn (outer.filterMap (·.frame)) h₀ h₀' → Fr h₀' L s'.heap m → News h₀' L s'.heap news' → Below A₀ base outer h₀' → K.In h₀' → Top p loose mean mg mb h₀' → KtsDicts (outer.filterMap (·.frame)) h₀' → R (.ok (.ret v)) s'))
section
variable {prog : Program} {w : World} {A₀ A : Around} {s : Shared} {base h₀ : Heap} {outer : List Env} {L : Addr} {m : Str → Option Value} {env : Env} {news : List (Addr × Obj)} {K : Frag} {p : Program} {loose : List Str} {mean : ExcName → Option Value} {mg mb : Str → Option Value}
  {R : Result → Shared → Prop}
theorem groundT (B : Below A₀ base outer h₀) (F : Fr h₀ L s.heap m) (N : News h₀ L s.heap news) (XB : K.In base) (TB : Top p loose mean mg mb base) (D : KtsDicts (outer.filterMap (·.frame)) h₀)
    (hA : A.frames = some (env :: outer)) (hf : env.frame = some L) (hke : env.scope.kind = .function) :
    Fr h₀ L (hideAll s.heap (news.map (·.1))) m ∧ Below A base (env :: outer) (hideAll s.heap (news.map (·.1))) ∧ h₀.StaysIn (hideAll s.heap (news.map (·.1))) ∧ KtsDicts ((env :: outer).filterMap (·.frame)) (hideAll s.heap (news.map (·.1))) ∧
      ∀ v s', LeaveT A₀ base env outer K p loose mean mg mb h₀ L m (hideAll s.heap (news.map (·.1))) R v s' → R (.ok (.ret v)) s' := by
  have nm : ∀ b o, h₀.get? b = some o → b ∉ news.map (·.1) := fun b o e q => by
    obtain ⟨p, hp, rfl⟩ := List.mem_map.mp q
    rw [(N p hp).2.2] at e; cases e
  have st : h₀.StaysIn (hideAll s.heap (news.map (·.1))) := fun b o e => hideAll_get _ (F.keep b o e) (nm b o e)
  obtain ⟨oL, es, ep, hL, hLd, hLk, hLf⟩ := F.ns
  have nL : L ∉ news.map (·.1) := fun q => by
    obtain ⟨p, hp, e⟩ := List.mem_map.mp q
    exact (N p hp).2.1 e
  have hLg := hideAll_get (news.map (·.1)) hL nL
  have B₁ := pushX B F hf hke
  have nL₀ : h₀.get? L = none := kts_self F
  refine ⟨⟨⟨oL, es, ep, hLg, hLd, hLk, hLf⟩, st, F.above⟩, ⟨hA, fun b o e => st b o (B.stays b o e), funFrames_hideAll B₁.frames fun env' he b hb hf' => ?_⟩, st, ?_, fun v s' hl => ?_⟩
  · cases he with
    | head => exact nL ((Option.some.inj (hf.symm.trans hf') : L = b) ▸ hb)
    | tail _ he =>
      obtain ⟨L₁, o₁, hf₁, ho₁⟩ := funFrames_in B.frames env' he
      rw [hf₁] at hf'
      exact nm L₁ o₁ ho₁ ((Option.some.inj hf' : L₁ = b) ▸ hb)
  · intro b hb
    rcases kts_memX hf hb with rfl | hb
    · exact ⟨oL, es, ep, hLg, hLd⟩
    · obtain ⟨o, es', n', ho', hd'⟩ := D b hb
      exact ⟨o, es', n', st b o ho', hd'⟩
  · obtain ⟨g', L', m', news', T', F', N', k⟩ := hl
    obtain ⟨sl, hs⟩ := T'.up hLg
    obtain ⟨T₁, S₁⟩ := kts_turn_at (h := s'.heap) (fs := outer.filterMap (·.frame)) (g := h₀)
      (fun b hb => by
        obtain ⟨_, o, ho', _⟩ := B.frames.mem hb
        exact ⟨o, ho'⟩)
      (fun b o e nmem => F'.keep b o (T'.other b o (st b o e) (fun q => by
        rcases kts_memX hf q with z | z
        · rw [z, nL₀] at e
          cases e
        · exact nmem z)))
      (fun b o e hm => by
        obtain ⟨sl', hs'⟩ := T'.up (st b o e)
        exact ⟨sl', F'.keep _ _ hs'⟩)
    have B₃ : Below A₀ base outer (ktsHeap s'.heap (outer.filterMap (·.frame)) h₀) := ⟨B.stack, fun b o e => T₁.other b o (B.stays b o e) (fun hm => by
      rw [(B.frames.mem hm).1] at e
      cases e), B.frames.of_keeps fun b o e _ => by
      obtain ⟨sl', hs'⟩ := T₁.up e
      exact ⟨_, hs', rfl⟩⟩
    refine k _ T₁ ⟨⟨_, es, ep, F'.keep _ _ hs, hLd, hLk, hLf⟩, S₁, by rw [T₁.size]; exact F.above⟩ (fun p hp => ⟨(N' p hp).1, fun q => ?_, ?_⟩) B₃ (XB.keeps B₃.stays) (TB.keeps B₃.stays) (D.turn T₁)
    · have := (N' p hp).2.2; rw [q, hs] at this; cases this
    · refine T₁.none_ _ ?_
      cases q : h₀.get? p.1 with
      | none => rfl
      | some o =>
        obtain ⟨sl', hs'⟩ := T'.up (st _ _ q)
        have := (N' p hp).2.2
        rw [hs'] at this
        cases this
variable {name qual : Str} {params : Arguments} {body : List Stmt} {scope : Scope} {dV kV doc pm cdv ct oc : Value} {an od : Option Addr} {osl : Array (Option Value)} {f : Addr} {args : Args} {binds : List (Str × Value)}
theorem code_defT (B : Below A₀ base outer h₀) (F : Fr h₀ L s.heap m) (X₀ : K.In h₀) (N : News h₀ L s.heap news) (T : Top p loose mean mg mb h₀) (XB : K.In base) (TB : Top p loose mean mg mb base) (D : KtsDicts (outer.filterMap (·.frame)) h₀)
    (hA : A.frames = some (env :: outer)) (hf : env.frame = some L) (hke : env.scope.kind = .function)
    (ho : K.lookup f = some ⟨oc, od, .func (fnOf name qual params body scope dV kV doc pm an cdv ct), osl⟩) (hcd : codeIn K cdv qual = true) (hroom : A.depth < recursionLimit)
    (hbind : BindsTo s (fnOf name qual params body scope dV kV doc pm an cdv ct) args binds) (hloc : ∀ y ∈ binds, scope.names.lookup y.1 = some .local)
    (h : ∀ g L' h₁, Fr h₀ L g m → Fr g L' h₁ (fun y => binds.reverse.lookup y) → News g L' h₁ news → Below A base (env :: outer) g → K.In g → Top p loose mean mg mb g → KtsDicts ((env :: outer).filterMap (·.frame)) g → GSub s.heap g (news.map (·.1)) →
      wpAny (model prog w) (A.deeper (envOf qual scope L' f cdv)) (execs body (envOf qual scope L' f cdv))
        (fun fl s' => LeaveT A₀ base env outer K p loose mean mg mb h₀ L m g R (match fl with | .ret v => v | _ => .none) s')
        (fun e s' => wpAny (model prog w) (A.deeper (envOf qual scope L' f cdv)) (leaving (envOf qual scope L' f cdv) e) (fun _ s'' => R (.error e) s'') (fun e' s'' => R (.error e') s'') s')
        { s with heap := h₁, toks := s.toks + binds.length })
    (hco : scope.isCoroutine = false) (hgen : scope.isGenerator = false) (hk : scope.kind = .function)
    (hcell : ∀ x ∈ scope.names, x.2 ≠ .cell) : codeAny (model prog w) A (.call (.ref f) args) R s := by
  have X := X₀.keeps F.keep
  obtain ⟨FG, BG, st, DG, lv⟩ := groundT (R := R) B F N XB TB D hA hf hke
  refine codeAny_call_def (fd := fnOf name qual params body scope dV kV doc pm an cdv ct) (body := body) (binds := binds) hroom (X _ _ ho) rfl (T.nolimit.keeps F.keep) (codeRec_of X hcd) rfl hbind hcell hloc (fun h₁ hns hk₁ => ?_) hco hgen hk
  exact wpAny_mono (h _ s.heap.objs.size h₁ FG ⟨hns, fun b o e => hk₁ b o (of_hideAll _ e), Nat.le_of_eq (hideAll_size _ _)⟩
    (fun p hp => ⟨hk₁ _ _ (N p hp).1, Nat.ne_of_lt (Heap.lt_size (N p hp).1), hideAll_none _ (List.mem_map_of_mem hp)⟩) BG (X₀.keeps st) (T.keeps st) DG (fun b o e nm => hideAll_get _ e nm)) (fun fl s' hl => lv _ _ hl) fun _ _ y => y
end
end
section
open PySem PySem.W PyProof.Rows PySem.Spec PySem.Calls
section
variable {prog : Program} {w : World} {A₀ : Around} {E : Value → Shared → Prop} {s' : Shared} {base g h : Heap} {outer : List Env} {L a e : Addr} {m : Str → Option Value} {name : Str} {scope : Scope} {cd : Value}
  {b₀ : Stmt} {suite : List Stmt} {pos np : Pos} {rest : List ExceptHandler} {Q : Flow → Shared → Prop} {news : List (Addr × Obj)} {KF : Frag}
  {p : Program} {loose : List Str} {mean : ExcName → Option Value} {mg mb : Str → Option Value} {x : Str} {X T' : String}
theorem caught_here (hx : Heap.NewExcOf h s'.heap e X) (F : Fr g L h m) (N : News g L h news) (K : Below A₀ base outer g) (XB : KF.In base) (TB : Top p loose mean mg mb base)
    (D : KtsDicts (outer.filterMap (·.frame)) g)
    (ex : nsIn KF mainGlobals x = some none) (hv : bootBuiltins x = some (.type T')) (hn' : x ≠ "__name__")
    (hexc : isSubtype (.type T') (.type "BaseException") = pure true) (hnt : isSubtype (.type ((Manifest.find? T').elim "type" fun y => y.metatype)) (.type "tuple") = pure false) (hsub : isSubtype (.type X) (.type T') = pure true)
    (k : ∀ h' g', KtsTurn (outer.filterMap (·.frame)) g g' → Fr g' L h' m → News g' L h' news → Below A₀ base outer g' → KF.In g' → Top p loose mean mg mb g' → KtsDicts (outer.filterMap (·.frame)) g' →
      wpAny (model prog w) ((A₀.deeper (envOf name scope L a cd)).mark (some (.ref e))) (execs (b₀ :: suite) (envOf name scope L a cd)) Q (fun _ _ => False) { s' with heap := h' })
    (hk : scope.kind = .function := by rfl) (hx' : (envOf name scope L a cd).kindOf x = some .globalImplicit := by rfl) (hd : (x == ("__debug__" : Str)) = false := by decide) :
    wpAny (model prog w) (A₀.deeper (envOf name scope L a cd)) (noteFrame (.ref e) (envOf name scope L a cd))
      (fun _ s₂ => wpAny (model prog w) (A₀.deeper (envOf name scope L a cd)) (setFlight (.ref e) none) (fun _ s₃ =>
        wpAny (model prog w) (A₀.deeper (envOf name scope L a cd)) (handleBy (.ref e) (envOf name scope L a cd) (.ExceptHandler (some (.Name x np)) none (b₀ :: suite) pos :: rest)) Q E s₃) E s₂) E s' := by
  have K' := K.push (name := name) (a := a) (cd := cd) F hk
  have hin : ∀ env ∈ (envOf name scope L a cd :: outer), ∀ b, env.frame = some b → b ∈ (envOf name scope L a cd :: outer).filterMap (·.frame) := fun env he b hb => List.mem_filterMap.mpr ⟨env, he, hb⟩
  have hBG : ∀ b o, h.get? b = some o → b ∉ (envOf name scope L a cd :: outer).filterMap (·.frame) → (hideAll h ((envOf name scope L a cd :: outer).filterMap (·.frame))).get? b = some o := fun b o q nm => hideAll_get _ q nm
  have hl : ∀ q ∈ news, (hideAll h ((envOf name scope L a cd :: outer).filterMap (·.frame))).get? q.1 = some q.2 := fun q hq => by
    refine hideAll_get _ (N q hq).1 fun hm => ?_
    rcases kts_mem hm with z | z
    · exact (N q hq).2.1 z
    · obtain ⟨o, ho, _⟩ := (K.frames.mem z).2
      rw [(N q hq).2.2] at ho; cases ho
  obtain ⟨ob, vs, he, hcls, hdf, h1⟩ := hx.there
  have hen : (hideAll h ((envOf name scope L a cd :: outer).filterMap (·.frame))).get? e = none := by
    cases q : (hideAll h ((envOf name scope L a cd :: outer).filterMap (·.frame))).get? e with
    | none => rfl
    | some o => have := of_hideAll _ q; rw [hx.new] at this; cases this
  have hsz : 1 < vs.size := (Array.getElem?_eq_some_iff.mp h1).1
  have h0 : vs[0]? = some (vs[0]'(by lia)) := Array.getElem?_eq_some_iff.mpr ⟨by lia, rfl⟩
  have hsm : h.UpToSlots s'.heap := Heap.UpToSlots.of_keeps hx.keeps
  unfold noteFrame
  simp only [show (envOf name scope L a cd).frame = some L from rfl]
  refine wpAny_bind (wpAny_field he hdf h1 ?_)
  rw [if_neg (by decide)]
  refine wpAny_entryW (base := hideAll h ((envOf name scope L a cd :: outer).filterMap (·.frame))) (Around.frames_deeper K.stack) ((funFrames_hide K'.frames hin).of_keeps fun b o hb _ => ⟨o, hx.keeps b o hb, rfl⟩) rfl he
    (fun b o hb => hx.keeps b o (of_hideAll _ hb)) hen hdf hsz h0 fun h₄ hN => ?_
  obtain ⟨k1, k2, k3, hsm₄⟩ := hN
  rw [hcls] at k3
  refine wpAny_landsW ⟨k1, hen, k2, k3⟩ fun h₅ hheld hsm₅' => ?_
  have hsm₅ : s'.heap.UpToSlots h₅ := Heap.UpToSlots.trans hsm₄ hsm₅'
  obtain ⟨g₅, T₅, F₅, K₅⟩ := kts_ground K F hBG hheld.1 (hsm.trans hsm₅)
  have X₅ : KF.In g₅ := XB.keeps K₅.stays
  have P₅ : TopRead p loose mg mb g₅ := topRead_of (TB.keeps K₅.stays)
  obtain ⟨ob', hob, hobc⟩ := hheld.there
  refine wpAny_handleBy_builtin (X := X) (T := T') (b := true) hexc hnt hsub (name_B F₅ X₅ P₅ ex hv hn' ⟨rfl, ⟨ob', hob, hobc⟩, ?_⟩ hk hx' hd)
  refine lands_againW hheld fun h₆ hfl₆ hsm₆ => ?_
  obtain ⟨g₆, T₆, F₆, K₆⟩ := kts_ground K F hBG hfl₆.1 ((hsm.trans hsm₅).trans hsm₆)
  have Nl : News g₆ L h₆ news := fun q hq => ⟨hfl₆.1 _ _ (hl q hq), (N q hq).2.1, T₆.none_ _ (N q hq).2.2⟩
  exact wpAny_noRaise (k h₆ g₆ T₆ F₆ Nl K₆ (XB.keeps K₆.stays) (TB.keeps K₆.stays) (D.turn T₆))
end
end
section
open PySem PySem.W PyProof.Rows PySem.Spec PySem.Calls
section
variable {prog : Program} {w : World} {A : Around} {E : Value → Shared → Prop} {s : Shared} {env : Env} {target : Expr} {body : List Stmt} {Q : Flow → Shared → Prop}
noncomputable def FEnd (J : Shared → Prop) (Q : Flow → Shared → Prop) (f : Flow) (s : Shared) : Prop :=
  match f with
  | .ret v => Q (.ret v) s
  | .brk => Q .next s
  | .next => J s
  | .cont => J s
theorem for_st {iter : Expr} {pos : Pos}
    (h : wpAny (model prog w) A (eval iter env) (fun xv s₁ => wpAny (model prog w) A (pyIter xv) (fun it s₂ =>
      (Ex7 fun (I : Addr) (fp wr : List Addr) (n : Nat) (P : Nat → Value → Prop) (St : Nat → Heap → Prop) (J : Nat → Shared → Prop) => Cj7 (it = .ref I) (Walks prog w A I fp wr n P St) ((∀ i v (s : Shared) (Q : Unit → Shared → Prop) (E : Value → Shared → Prop), St i s.heap → Q () s → wpAny (model prog w) A (letOwnedTupleGo target (.ref I) v) Q E s)) ((∀ i s', J i s' → St i s'.heap)) (J 0 s₂) ((∀ i s' v h' tk, i < n → J i s' → P i v → St (i + 1) h' → (∀ b o, b ∉ wr → s'.heap.get? b = some o → h'.get? b = some o) →
          wpAny (model prog w) A (assign target env v) (fun _ s₃ => wpAny (model prog w) A (execs body env) (FEnd (J (i + 1)) Q) E s₃) E { s' with heap := h', toks := tk })) (∀ s' h' tk, J n s' → (∀ b o, b ∉ wr → s'.heap.get? b = some o → h'.get? b = some o) → Q .next { s' with heap := h', toks := tk }))) E s₁) E s)
    (hs : ∀ x, foldedSetIterable iter env x = pure x := by intro _; rfl)
    (hE : PassesOwn (model prog w) A env E := by passes_own) :
    wpAny (model prog w) A (exec (.For target iter body [] pos) env) Q E s := by
  refine wpAny_For (wpAny_mono h (fun xv s₁ h₁ => wpAny_mono h₁ (fun it s₂ h₂ => ?_) fun _ _ e => e) fun _ _ e => e) hs
  obtain ⟨I, fp, wr, n, P, St, J, rfl, W, hgo, hst, j0, step, done⟩ := h₂
  refine codeAny_forLoop_any (fun k s' => ∃ i, J i s' ∧ i ≤ n ∧ k = n + 1 - i) ?_ (n + 1) ⟨0, j0, Nat.zero_le _, rfl⟩
  rintro k s' ⟨i, hJ, hi, rfl⟩
  by_cases hlt : i < n
  · refine W.item i _ _ _ hlt (hst i s' hJ) fun v h₁ tk₁ hP st₁ hk₁ => ?_
    refine hgo (i + 1) v _ _ _ st₁ ?_
    refine wpAny_mono (step i s' v h₁ tk₁ hlt hJ hP st₁ hk₁) (fun _ s₃ h₃ => wpAny_mono h₃ (fun f s₄ h₄ => ?_) fun _ _ e => hE _ _ e) fun _ _ e => hE _ _ e
    cases f with
    | ret v => exact h₄
    | brk => exact h₄
    | next => exact ⟨n + 1 - (i + 1), by lia, i + 1, h₄, hlt, rfl⟩
    | cont => exact ⟨n + 1 - (i + 1), by lia, i + 1, h₄, hlt, rfl⟩
  · have hin : i = n := by lia
    subst hin
    exact W.done _ _ _ (hst _ _ hJ) fun h₁ tk₁ hk₁ => wpAny_execs_nil (done s' h₁ tk₁ hJ hk₁)
end
end
section
open PySem PySem.W PyProof.Rows PySem.Spec PySem.Calls
section
variable {prog : Program} {w : World} {A : Around} {E : Value → Shared → Prop} {s : Shared} {env : Env}
noncomputable def CompR (Q : Value → Shared → Prop) (D C : Addr) (r : Result) (s' : Shared) : Prop :=
  match r with
  | .ok _ => ∃ m', s'.heap.Ns C m' ∧ ∀ h', Heap.SameBut C s'.heap h' → Q (.ref D) { s' with heap := h' }
  | .error _ => False
structure CompNew (h h₁ : Heap) (scope : Scope) (cl : List (Str × Addr)) (D C : Addr) (oC : Obj) : Prop where
  isD : D = h.objs.size
  isC : C = h.objs.size + 1
  keep : ∀ b o, h.get? b = some o → h₁.get? b = some o
  list : h₁.get? D = some (LCg.lst [])
  names : h₁.get? C = some oC
  ns : LCg.NsObj oC fun _ => none
  cells : ∀ n c, (n, c) ∈ cellsFrom (C + 1) scope.names [] → h₁.get? c = some { cls := .type "cell", data := .cell none } ∧ C < c
theorem pushCells_at : ∀ (names : List (Str × NameKind)) (h : Heap) (acc : List (Str × Addr)) (lo : Nat), (∀ n c, (n, c) ∈ acc → h.get? c = some { cls := .type "cell", data := .cell none } ∧ lo ≤ c) → lo ≤ h.objs.size →
    ∀ n c, (n, c) ∈ cellsFrom h.objs.size names acc → (pushCells h names).get? c = some { cls := .type "cell", data := .cell none } ∧ lo ≤ c
  | [], _, _, _, x, _ => x
  | (name, kind) :: r, h, acc, lo, x, hlo => by
    unfold pushCells cellsFrom
    split
    · have := pushCells_at r (h.push { cls := .type "cell", data := .cell none }) ((name, h.objs.size) :: acc) lo (fun n c hm => by
        rcases List.mem_cons.mp hm with e | e
        · cases e; exact ⟨Heap.get?_push_size _ rfl, hlo⟩
        · exact ⟨Heap.get?_push_of_some _ (x n c e).1, (x n c e).2⟩) (by rw [Heap.size_push]; exact Nat.le_succ_of_le hlo)
      rw [Heap.size_push] at this
      exact this
    · exact pushCells_at r h acc lo x hlo
theorem newFunctionEnv_comp {scope : Scope} {cl : List (Str × Addr)} {Q : Env → Shared → Prop}
    (hQ : ∀ h' oC, h'.get? s.heap.objs.size = some oC → LCg.NsObj oC (fun _ => none) → (∀ b o, s.heap.get? b = some o → h'.get? b = some o) →
      (∀ n c, (n, c) ∈ cellsFrom (s.heap.objs.size + 1) scope.names [] → h'.get? c = some { cls := .type "cell", data := .cell none } ∧ s.heap.objs.size < c) →
      Q (newEnv scope s.heap.objs.size env.globals (cellsFrom (s.heap.objs.size + 1) scope.names cl) env.qual none .none (some env) builtinsNs) { s with heap := h' }) :
    wpAny (model prog w) A (newFunctionEnv scope env.globals cl [] env.qual none .none (some env)) Q E s := by
  simp only [newFunctionEnv, Option.isSome_some, if_true]
  refine wpAny_bind (wpAny_alloc ?_)
  refine wpAny_bind (wpAny_layCells _ (fun name kind cells => by cases hkc : kind == NameKind.cell <;> simp [hkc]) _ _ _ _ ?_)
  rw [List.forIn_nil]
  refine wpAny_bind (wpAny_pure (wpAny_pure ?_))
  have e1 : ({ s with heap := s.heap.push { cls := .type "dict", data := .dict #[] } } : Shared).heap.objs.size = s.heap.objs.size + 1 := Heap.size_push ..
  rw [e1]
  refine hQ _ { cls := .type "dict", data := .dict #[] } (pushCells_keeps _ _ _ _ (Heap.get?_push_size _ rfl)) ?_ (fun b o e => pushCells_keeps _ _ b o (Heap.get?_push_of_some _ e)) ?_
  · refine ⟨#[], 0, rfl, ?_, fun _ => rfl⟩
    intro e he; simp at he
  · have := pushCells_at scope.names (s.heap.push { cls := .type "dict", data := .dict #[] }) [] (s.heap.objs.size + 1) (fun _ _ hm => nomatch hm) (by rw [Heap.size_push]; exact Nat.le_refl _)
    rw [Heap.size_push] at this
    exact this
theorem comp_open {elt target iter : Expr} {ifs : List Expr} {gs : List Comprehension} {scope : Scope} {cl : List (Str × Addr)} {pos : Pos} {Q : Value → Shared → Prop}
    (hclos : closureFor scope env = pure cl) (hkind : scope.kind = .function) (hnames : ∀ y ∈ scope.names, y.2 = .local → scope.names.lookup y.1 = some .local)
    (h : wpAny (model prog w) A (eval iter env) (fun xv s₁ => wpAny (model prog w) A (pyIter xv) (fun it s₂ => (Ex6 fun (I : Addr) (fp wr : List Addr) (n : Nat) (P : Nat → Value → Prop) (St : Nat → Heap → Prop) => Cj4 (it = .ref I) (Walks prog w A I fp wr n P St) (St 0 s₂.heap) (∀ D C h₁ oC, CompNew s₂.heap h₁ scope cl D C oC →
        codeAny (model prog w) A (.compLoop (.ListComp elt (⟨target, iter, ifs, 0⟩ :: gs) scope pos) 0 (.ref I) (.ref D) (compEnvC scope (cellsFrom (C + 1) scope.names cl) C env)) (CompR Q D C) { s₂ with heap := h₁ }))) E s₁) E s)
    (hs : ∀ x, foldedSetIterable iter env x = pure x := by intro _; rfl) :
    wpAny (model prog w) A (eval (.ListComp elt (⟨target, iter, ifs, 0⟩ :: gs) scope pos) env) Q E s := by
  rw [eval_ListComp]
  refine wpAny_comprehension_free (use := none) rfl hs hclos hkind hnames (wpAny_mono h (fun xv s₁ h₁ => wpAny_mono h₁ (fun it s₂ h₂ => ?_) fun _ _ e => e) fun _ _ e => e)
  obtain ⟨I, fp, wr, n, P, St, rfl, W, hst, hl⟩ := h₂
  refine wpAny_newObj_type (newFunctionEnv_comp fun h₁ oC e1 e2 e3 e4 => ?_)
  have hsz : ({ s₂ with heap := s₂.heap.push { cls := .type "list", dict := none, data := .seq ([] : List Value).toArray } } : Shared).heap.objs.size = s₂.heap.objs.size + 1 := Heap.size_push ..
  rw [hsz] at e1 e4 ⊢
  have old : ∀ b o, s₂.heap.get? b = some o → h₁.get? b = some o := fun b o e => e3 b o (Heap.get?_push_of_some _ e)
  have L := hl s₂.heap.objs.size (s₂.heap.objs.size + 1) h₁ oC ⟨rfl, rfl, old, e3 _ _ (Heap.get?_push_size _ rfl), e1, e2, e4⟩
  have fin : codeAny (model prog w) A (.compLoop (.ListComp elt (⟨target, iter, ifs, 0⟩ :: gs) scope pos) 0 (.ref I) (.ref s₂.heap.objs.size) (compEnvC scope (cellsFrom (s₂.heap.objs.size + 1 + 1) scope.names cl) (s₂.heap.objs.size + 1) env))
      (compPost (model prog w) A E none Q (.ref s₂.heap.objs.size) (s₂.heap.objs.size + 1)) { s₂ with heap := h₁ } := codeAny_mono L fun r s' hr => by
    cases r with
    | ok f => exact hr
    | error e => exact absurd hr (by intro q; exact q)
  exact codeAny_compStart_list fin (W.self 0 _ _ _ (W.frame _ _ _ hst fun b _ o e => old b o e) fin)
theorem compLoop_st {elt target iter : Expr} {ifs : List Expr} {scope : Scope} {pos : Pos} {I D : Addr} {fp wr : List Addr} {n : Nat} {P : Nat → Value → Prop} {St : Nat → Heap → Prop} {R : Result → Shared → Prop}
    (J : Nat → Shared → Prop) (W : Walks prog w A I fp wr n P St)
    (hgo : ∀ i v (s : Shared) (Q : Unit → Shared → Prop) (E : Value → Shared → Prop), St i s.heap → Q () s → wpAny (model prog w) A (letOwnedTupleGo target (.ref I) v) Q E s)
    (hSt : ∀ i s', J i s' → St i s'.heap) (j0 : J 0 s)
    (step : ∀ i s' v h' tk, i < n → J i s' → P i v → St (i + 1) h' → (∀ b o, b ∉ wr → s'.heap.get? b = some o → h'.get? b = some o) →
      wpAny (model prog w) A (assign target env v) (fun _ s₂ =>
          wpAny (model prog w) A (forIn ifs true fun c r => if r = true then do let ok ← isTrue c env (eval c env); pure (ForInStep.yield ok) else pure (ForInStep.yield r)) (fun ok s₃ =>
            if ok = true then wpAny (model prog w) A (eval elt env) (fun x s₄ =>
              wpAny (model prog w) A (call (.builtin "list.append") [.ref D, x]) (fun _ s₅ => J (i + 1) s₅) (fun _ _ => False) s₄) (fun _ _ => False) s₃
            else J (i + 1) s₃) (fun _ _ => False) s₂) (fun _ _ => False) { s' with heap := h', toks := tk })
    (done : ∀ s' h' tk, J n s' → (∀ b o, b ∉ wr → s'.heap.get? b = some o → h'.get? b = some o) → R (.ok .next) { s' with heap := h', toks := tk }) :
    codeAny (model prog w) A (.compLoop (.ListComp elt [⟨target, iter, ifs, 0⟩] scope pos) 0 (.ref I) (.ref D) env) R s := by
  refine codeAny_loop rfl (fun k s' => ∃ i, J i s' ∧ i ≤ n ∧ k = n + 1 - i) (fun k s' hI => ?_) (n + 1) ⟨0, j0, Nat.zero_le _, rfl⟩
  obtain ⟨i, hJ, hi, rfl⟩ := hI
  show wpAny _ A ((compTurn (.ListComp elt [⟨target, iter, ifs, 0⟩] scope pos) 0 (.ref I) (.ref D) env).onRaise (fun x => do noteFrame x env; theTreesLotGoes x)) _ _ _
  refine wpAny_noted ?_
  rw [compTurn_list]
  refine wpAny_bind (wpAny_standAt (wpAny_bind ?_))
  by_cases hlt : i < n
  · refine W.item i _ _ _ hlt (hSt i s' hJ) fun v h₁ tk₁ hP st₁ hk₁ => ?_
    dsimp only
    refine wpAny_bind (hgo (i + 1) v _ _ _ st₁ ?_)
    refine wpAny_bind (wpAny_mono (step i s' v h₁ tk₁ hlt hJ hP st₁ hk₁) (fun _ s₂ h₂ => wpAny_bind (wpAny_mono h₂ (fun ok s₃ h₃ => ?_) fun _ _ h' => h'.elim)) fun _ _ h' => h'.elim)
    cases ok with
    | false => exact wpAny_pure ⟨rfl, n + 1 - (i + 1), by lia, i + 1, h₃, hlt, rfl⟩
    | true =>
      exact wpAny_bind (wpAny_bind (wpAny_mono h₃ (fun x s₄ h₄ => wpAny_bind (wpAny_mono h₄ (fun _ s₅ h₅ => wpAny_pure (wpAny_pure ⟨rfl, n + 1 - (i + 1), by lia, i + 1, h₅, hlt, rfl⟩)) fun _ _ h' => h'.elim)) fun _ _ h' => h'.elim))
  · obtain rfl : i = n := Nat.le_antisymm hi (Nat.not_lt.mp hlt)
    exact W.done _ _ _ (hSt _ _ hJ) fun h₁ tk₁ hk₁ => wpAny_pure (done s' h₁ tk₁ hJ hk₁)
end
end
section
open PySem PySem.W PyProof.Rows PySem.Spec PySem.Calls PySem.SeqAt
set_option maxHeartbeats 8000000
inductive Hy where
  | node (l : List Hy)
mutual
noncomputable def eqH : Hy → Hy → Bool
  | .node as, .node bs => eqL as bs
noncomputable def eqL : List Hy → List Hy → Bool
  | [], [] => true
  | [], _ :: _ => false
  | _ :: _, [] => false
  | a :: as, b :: bs => eqH a b && eqL as bs
end
mutual
theorem eqH_iff : ∀ a b : Hy, eqH a b = true ↔ a = b
  | .node as, .node bs => by rw [eqH, eqL_iff as bs, Hy.node.injEq]
theorem eqL_iff : ∀ a b : List Hy, eqL a b = true ↔ a = b
  | [], [] => by simp [eqL]
  | [], _ :: _ => by simp [eqL]
  | _ :: _, [] => by simp [eqL]
  | a :: as, b :: bs => by rw [eqL, Bool.and_eq_true, eqH_iff a b, eqL_iff as bs, List.cons.injEq]
end
mutual
noncomputable def ltH : Hy → Hy → Bool
  | .node as, .node bs => ltL as bs
noncomputable def ltL : List Hy → List Hy → Bool
  | [], [] => false
  | [], _ :: _ => true
  | _ :: _, [] => false
  | a :: as, b :: bs => if eqH a b then ltL as bs else ltH a b
end
mutual
noncomputable def Hy.depth : Hy → Nat
  | .node l => depthL l + 1
noncomputable def depthL : List Hy → Nat
  | [] => 0
  | a :: l => max a.depth (depthL l)
end
theorem depth_mem {t : Hy} {l : List Hy} (h : t ∈ l) : t.depth ≤ depthL l := by
  induction l with
  | nil => cases h
  | cons a l ih =>
    simp only [depthL]
    rcases List.mem_cons.mp h with rfl | h
    · exact Nat.le_max_left _ _
    · exact Nat.le_trans (ih h) (Nat.le_max_right _ _)
mutual
noncomputable def Hy.py : Hy → PyData
  | .node l => .list (pyL l)
noncomputable def pyL : List Hy → List PyData
  | [] => []
  | a :: l => a.py :: pyL l
end
mutual
inductive HyG (G : Addr → Obj → Prop) : Value → Hy → Prop
  | mk {a : Addr} {vs : List Value} {n : Nat} {ts : List Hy} : G a (listOf vs.toArray n) → HysG G vs ts → HyG G (.ref a) (.node ts)
inductive HysG (G : Addr → Obj → Prop) : List Value → List Hy → Prop
  | nil : HysG G [] []
  | cons {v : Value} {vs : List Value} {t : Hy} {ts : List Hy} : HyG G v t → HysG G vs ts → HysG G (v :: vs) (t :: ts)
end
noncomputable abbrev atH (h : Heap) : Addr → Obj → Prop := fun a o => h.get? a = some o
noncomputable abbrev inL (l : List (Addr × Obj)) : Addr → Obj → Prop := fun a o => (a, o) ∈ l
noncomputable abbrev HyAt (h : Heap) : Value → Hy → Prop := HyG (atH h)
noncomputable abbrev HysAt (h : Heap) : List Value → List Hy → Prop := HysG (atH h)
noncomputable abbrev HyIn (l : List (Addr × Obj)) : Value → Hy → Prop := HyG (inL l)
noncomputable abbrev HysIn (l : List (Addr × Obj)) : List Value → List Hy → Prop := HysG (inL l)
section
variable {G G' : Addr → Obj → Prop}
mutual
theorem HyG.keeps (k : ∀ a vs n, G a (listOf vs n) → G' a (listOf vs n)) : ∀ {v : Value} {t : Hy}, HyG G v t → HyG G' v t
  | _, _, .mk e r => .mk (k _ _ _ e) (r.keeps k)
theorem HysG.keeps (k : ∀ a vs n, G a (listOf vs n) → G' a (listOf vs n)) : ∀ {vs : List Value} {ts : List Hy}, HysG G vs ts → HysG G' vs ts
  | _, _, .nil => .nil
  | _, _, .cons e r => .cons (e.keeps k) (r.keeps k)
end
theorem HysG.length : ∀ {vs : List Value} {ts : List Hy}, HysG G vs ts → vs.length = ts.length
  | _, _, .nil => rfl
  | _, _, .cons _ r => congrArg (· + 1) r.length
theorem HysG.get : ∀ {vs : List Value} {ts : List Hy}, HysG G vs ts → ∀ i (hi : i < ts.length), ∃ v, vs[i]? = some v ∧ HyG G v ts[i]
  | _, _, .nil, i, hi => absurd hi (Nat.not_lt_zero _)
  | _, _, .cons e _, 0, _ => ⟨_, rfl, e⟩
  | _, _, .cons _ r, i + 1, hi => r.get i (Nat.lt_of_succ_lt_succ hi)
theorem HysG.item {vs : List Value} {ts : List Hy} (x : HysG G vs ts) {i : Nat} {v : Value} (hi : i < ts.length) (e : vs[i]? = some v) : HyG G v ts[i] := by
  obtain ⟨u, e', r⟩ := x.get i hi
  rw [e] at e'; cases e'; exact r
theorem HysG.append : ∀ {vs us : List Value} {ts ss : List Hy}, HysG G vs ts → HysG G us ss → HysG G (vs ++ us) (ts ++ ss)
  | _, _, _, _, .nil, y => y
  | _, _, _, _, .cons e r, y => .cons e (r.append y)
theorem HysG.take : ∀ {vs : List Value} {ts : List Hy}, HysG G vs ts → ∀ k : Nat, HysG G (vs.take k) (ts.take k)
  | _, _, _, 0 => .nil
  | _, _, .nil, _ + 1 => .nil
  | _, _, .cons e r, k + 1 => .cons e (r.take k)
theorem HysG.drop : ∀ {vs : List Value} {ts : List Hy}, HysG G vs ts → ∀ k : Nat, HysG G (vs.drop k) (ts.drop k)
  | _, _, x, 0 => x
  | _, _, .nil, _ + 1 => .nil
  | _, _, .cons _ r, k + 1 => r.drop k
theorem HysG.rep {v : Value} {t : Hy} (x : HyG G v t) : ∀ k : Nat, HysG G (List.replicate k v) (List.replicate k t)
  | 0 => .nil
  | k + 1 => .cons x (HysG.rep x k)
theorem HysG.getD {vs : List Value} {ts : List Hy} (x : HysG G vs ts) {i : Nat} (hi : i < ts.length) : HyG G (vs.getD i Value.none) (ts.getD i (.node [])) := by
  obtain ⟨v, e, r⟩ := x.get i hi
  rw [List.getD_eq_getElem?_getD, List.getD_eq_getElem?_getD, e, List.getElem?_eq_getElem hi]
  exact r
theorem HysG.reverse : ∀ {vs : List Value} {ts : List Hy}, HysG G vs ts → HysG G vs.reverse ts.reverse
  | _, _, .nil => .nil
  | _, _, .cons e r => by rw [List.reverse_cons, List.reverse_cons]; exact r.reverse.append (.cons e .nil)
theorem HysG.pick {vs : List Value} {ts : List Hy} (x : HysG G vs ts) : ∀ p : List Nat, (∀ i ∈ p, i < ts.length) → HysG G (p.map fun i => vs.getD i Value.none) (p.map fun i => ts.getD i (.node []))
  | [], _ => .nil
  | i :: p, hp => .cons (x.getD (hp i (.head _))) (x.pick p fun j hj => hp j (.tail _ hj))
end
theorem HyIn.at {h₀ h : Heap} {L : Addr} {l : List (Addr × Obj)} {v : Value} {t : Hy} (x : HyIn l v t) (N : News h₀ L h l) : HyAt h v t := x.keeps fun _ _ _ e => (N _ e).1
theorem HysIn.at {h₀ h : Heap} {L : Addr} {l : List (Addr × Obj)} {vs : List Value} {ts : List Hy} (x : HysIn l vs ts) (N : News h₀ L h l) : HysAt h vs ts := x.keeps fun _ _ _ e => (N _ e).1
theorem HyIn.up {l l' : List (Addr × Obj)} {v : Value} {t : Hy} (x : HyIn l v t) (k : ∀ p ∈ l, p ∈ l') : HyIn l' v t := x.keeps fun _ _ _ e => k _ e
theorem HysIn.up {l l' : List (Addr × Obj)} {vs : List Value} {ts : List Hy} (x : HysIn l vs ts) (k : ∀ p ∈ l, p ∈ l') : HysIn l' vs ts := x.keeps fun _ _ _ e => k _ e
mutual
theorem HyG.reads {h : Heap} : ∀ {v : Value} {t : Hy}, HyG (atH h) v t → ∃ as, Reads h v t.py as
  | _, _, .mk e r => by
    obtain ⟨as, q⟩ := r.reads
    exact ⟨_, reads_list_at e rfl rfl (by simpa using q)⟩
theorem HysG.reads {h : Heap} : ∀ {vs : List Value} {ts : List Hy}, HysG (atH h) vs ts → ∃ as, ReadsAll h vs (pyL ts) as
  | _, _, .nil => ⟨_, .nil⟩
  | _, _, .cons e r => by
    obtain ⟨as, p⟩ := e.reads
    obtain ⟨bs, q⟩ := r.reads
    exact ⟨_, .cons p q⟩
end
mutual
theorem py_lay : ∀ t : Hy, t.py.canLay0 = true ∧ t.py.depth = t.depth
  | .node l => by
    obtain ⟨h1, h2⟩ := pyL_lay l
    simp only [Hy.py, PyData.canLay0, PyData.depth, Hy.depth, h1, h2, true_and]
theorem pyL_lay : ∀ l : List Hy, PyData.canLayAll0 (pyL l) = true ∧ PyData.depthAll (pyL l) = depthL l
  | [] => by simp [pyL, PyData.canLayAll0, PyData.depthAll, depthL]
  | a :: l => by
    obtain ⟨h1, h2⟩ := pyL_lay l
    obtain ⟨h3, h4⟩ := py_lay a
    simp only [pyL, PyData.canLayAll0, PyData.depthAll, depthL, h1, h2, h3, h4, Bool.and_self, true_and]
end
mutual
theorem py_eqv : ∀ a b : Hy, PyData.eqv a.py b.py = eqH a b
  | .node as, .node bs => by simp only [Hy.py, PyData.eqv, eqH]; exact pyL_eqv as bs
theorem pyL_eqv : ∀ a b : List Hy, PyData.eqvAll (pyL a) (pyL b) = eqL a b
  | [], [] => by simp [pyL, PyData.eqvAll, eqL]
  | [], _ :: _ => by simp [pyL, PyData.eqvAll, eqL]
  | _ :: _, [] => by simp [pyL, PyData.eqvAll, eqL]
  | a :: as, b :: bs => by simp only [pyL, PyData.eqvAll, eqL, py_eqv a b, pyL_eqv as bs]
end
end
section
open PySem PySem.W PyProof.Rows PySem.Spec PySem.Calls PySem.SeqAt
set_option maxHeartbeats 8000000
open PySem.AutoSeq1 (wpAny_loadPart')
open PySem.MeetsSeq PySem.MeetsSeq3
theorem HyAt.eqAt {A : Around} {s : Shared} {v w : Value} {t u : Hy} (x : HyAt s.heap v t) (y : HyAt s.heap w u) (h : A.units + t.depth < cLine) : EqAt A s v w (eqH t u) := by
  obtain ⟨as, r⟩ := x.reads
  obtain ⟨bs, q⟩ := y.reads
  rw [← py_eqv]
  refine eqAt_reads _ _ A s _ _ _ _ r q (py_lay t).1 (py_lay u).1 ?_
  have := Nat.min_le_left t.py.depth u.py.depth
  rw [(py_lay t).2] at this
  rw [(py_lay t).2]
  lia
noncomputable def LtAt (A : Around) (s : Shared) (y x : Value) (b : Bool) : Prop := ∀ (prog : Program) (w : World) (E Q : Value → Shared → Prop), Q (.bool b) s → wpAny (model prog w) A (compareOp .Lt y x) Q E s
noncomputable def GtAt (A : Around) (s : Shared) (y x : Value) (b : Bool) : Prop := ∀ (prog : Program) (w : World) (E Q : Value → Shared → Prop), Q (.bool b) s → wpAny (model prog w) A (compareOp .Gt y x) Q E s
theorem ltL_stop {ts us : List Hy} (i : Nat) (h1 : i ≤ ts.length) (h2 : i ≤ us.length) (h3 : i = ts.length ∨ i = us.length) : decide (ts.length < us.length) = ltL (ts.drop i) (us.drop i) := by
  by_cases q1 : i = ts.length
  · have : ts.drop i = [] := List.drop_eq_nil_of_le (by lia)
    rw [this]
    cases q : us.drop i with
    | nil => have := List.drop_eq_nil_iff.mp q; simp [ltL]; lia
    | cons a r =>
      have := congrArg List.length q
      simp at this
      simp [ltL]; lia
  · have q2 : i = us.length := h3.resolve_left q1
    have : us.drop i = [] := List.drop_eq_nil_of_le (by lia)
    rw [this]
    cases q : ts.drop i with
    | nil => have := List.drop_eq_nil_iff.mp q; lia
    | cons a r => simp [ltL]; lia
structure Two (l b : Addr) (vs us : List Value) (n n2 : Nat) (ts ss : List Hy) (A : Around) (s : Shared) (M : Around → Shared → Value → Value → Bool → Prop) (f : Hy → Hy → Bool) : Prop where
  one : s.heap.get? l = some (listOf vs.toArray n)
  two : s.heap.get? b = some (listOf us.toArray n2)
  hts : HysAt s.heap vs ts
  hss : HysAt s.heap us ss
  room : A.in1.units + depthL ts < cLine
  ask : ∀ i v w (h1 : i < ts.length) (h2 : i < ss.length), vs[i]? = some v → us[i]? = some w → M A.in1 s v w (f ts[i] ss[i])
theorem lt_loopH (l b : Addr) (vs us : List Value) (n n2 : Nat) (ts ss : List Hy) (k : Nat) :
    ∀ i : Nat, vs.length - i = k → Meets (Builtin.«list.__eq__.loop» ⟨[.ref l, .ref b, rawInt i, rawInt 0], []⟩)
      (fun A R s => Two l b vs us n n2 ts ss A s LtAt ltH ∧ (i ≤ vs.length ∧ i ≤ us.length) ∧ R (.ok (.ret (.bool (ltL (ts.drop i) (ss.drop i))))) s) := by
  induction k with
  | zero =>
    intro i hk prog w A R s h
    obtain ⟨hp, g, d, tk, os⟩ := s; obtain ⟨W, ⟨hle, hle2⟩, h⟩ := h
    have hl := W.one
    have hb := W.two
    have e1 := W.hts.length
    have e2 := W.hss.length
    wp_walk using wpAny_loadPart' hl, wpAny_loadPart' hb
    have hi1 : vs.toArray[((i : Nat) : Int).toNat]? = none := by simp; lia
    rw [hi1]
    wp_walk using wpAny_loadPart' hl, wpAny_loadPart' hb
    show R (.ok (.ret (.bool (decide (vs.toArray.size < us.toArray.size))))) _
    simp only [List.size_toArray, e1, e2]
    rw [ltL_stop i (by lia) (by lia) (.inl (by lia))]
    exact h
  | succ k ih =>
    intro i hk prog w A R s h
    obtain ⟨hp, g, d, tk, os⟩ := s; obtain ⟨W, ⟨hle, hle2⟩, h⟩ := h
    have hl := W.one
    have hb := W.two
    have e1 := W.hts.length
    have e2 := W.hss.length
    wp_walk using wpAny_loadPart' hl, wpAny_loadPart' hb
    have hlt : i < ts.length := by lia
    obtain ⟨v, hx, hv⟩ := W.hts.get i hlt
    have hi1 : vs.toArray[((i : Nat) : Int).toNat]? = some v := by simpa using hx
    have hd1 : ts.drop i = ts[i] :: ts.drop (i + 1) := List.drop_eq_getElem_cons hlt
    rw [hi1]
    by_cases hlt2 : i < ss.length
    · obtain ⟨u, hy, hu⟩ := W.hss.get i hlt2
      have hi2 : us.toArray[((i : Nat) : Int).toNat]? = some u := by simpa using hy
      have hd2 : ss.drop i = ss[i] :: ss.drop (i + 1) := List.drop_eq_getElem_cons hlt2
      have hc : ((i : Int) + 1) = ((i + 1 : Nat) : Int) := by push_cast; rfl
      rw [hi2]
      rw [hd1, hd2] at h
      have hdp := depth_mem (List.getElem_mem hlt)
      have hrm := W.room
      refine wpAny_bind (HyAt.eqAt hv hu (by lia) prog w _ _ ?_)
      cases he : eqH ts[i] ss[i] with
      | true =>
        rw [show ltL (ts[i] :: ts.drop (i + 1)) (ss[i] :: ss.drop (i + 1)) = ltL (ts.drop (i + 1)) (ss.drop (i + 1)) from by rw [ltL, he]; rfl] at h
        wp_walk
        rw [hc]
        exact ⟨plainId_quiet plain_eq_loop _, codeAny_builtin entry_eq_loop (by
          rw [Around.under_plainId plain_eq_loop _]
          exact ih (i + 1) (by lia) prog w A R _ ⟨W, ⟨by lia, by lia⟩, h⟩)⟩
      | false =>
        rw [show ltL (ts[i] :: ts.drop (i + 1)) (ss[i] :: ss.drop (i + 1)) = ltH ts[i] ss[i] from by rw [ltL, he]; rfl] at h
        wp_walk using wpAny_loadPart' hl, wpAny_loadPart' hb
        rw [hi1, hi2]
        show wpAny _ _ (compareOp .Lt v u >>= fun r => ret r) _ _ _
        refine wpAny_bind (W.ask i v u hlt hlt2 hx hy prog w _ _ ?_)
        exact wpAny_pure h
    · have hi2 : us.toArray[((i : Nat) : Int).toNat]? = none := by simp; lia
      rw [hi2]
      wp_walk using wpAny_loadPart' hl, wpAny_loadPart' hb
      show R (.ok (.ret (.bool (decide (vs.toArray.size < us.toArray.size))))) _
      simp only [List.size_toArray, e1, e2]
      rw [ltL_stop i (by lia) (by lia) (.inr (by lia))]
      exact h
theorem gt_loopH (l b : Addr) (vs us : List Value) (n n2 : Nat) (ts ss : List Hy) (k : Nat) :
    ∀ i : Nat, vs.length - i = k → Meets (Builtin.«list.__eq__.loop» ⟨[.ref l, .ref b, rawInt i, rawInt 4], []⟩)
      (fun A R s => Two l b vs us n n2 ts ss A s GtAt (fun a b => ltH b a) ∧ (i ≤ vs.length ∧ i ≤ us.length) ∧ R (.ok (.ret (.bool (ltL (ss.drop i) (ts.drop i))))) s) := by
  induction k with
  | zero =>
    intro i hk prog w A R s h
    obtain ⟨hp, g, d, tk, os⟩ := s; obtain ⟨W, ⟨hle, hle2⟩, h⟩ := h
    have hl := W.one
    have hb := W.two
    have e1 := W.hts.length
    have e2 := W.hss.length
    wp_walk using wpAny_loadPart' hl, wpAny_loadPart' hb
    have hi1 : vs.toArray[((i : Nat) : Int).toNat]? = none := by simp; lia
    rw [hi1]
    wp_walk using wpAny_loadPart' hl, wpAny_loadPart' hb
    show R (.ok (.ret (.bool (decide (us.toArray.size < vs.toArray.size))))) _
    simp only [List.size_toArray, e1, e2]
    rw [ltL_stop (ts := ss) (us := ts) i (by lia) (by lia) (.inr (by lia))]
    exact h
  | succ k ih =>
    intro i hk prog w A R s h
    obtain ⟨hp, g, d, tk, os⟩ := s; obtain ⟨W, ⟨hle, hle2⟩, h⟩ := h
    have hl := W.one
    have hb := W.two
    have e1 := W.hts.length
    have e2 := W.hss.length
    wp_walk using wpAny_loadPart' hl, wpAny_loadPart' hb
    have hlt : i < ts.length := by lia
    obtain ⟨v, hx, hv⟩ := W.hts.get i hlt
    have hi1 : vs.toArray[((i : Nat) : Int).toNat]? = some v := by simpa using hx
    have hd1 : ts.drop i = ts[i] :: ts.drop (i + 1) := List.drop_eq_getElem_cons hlt
    rw [hi1]
    by_cases hlt2 : i < ss.length
    · obtain ⟨u, hy, hu⟩ := W.hss.get i hlt2
      have hi2 : us.toArray[((i : Nat) : Int).toNat]? = some u := by simpa using hy
      have hd2 : ss.drop i = ss[i] :: ss.drop (i + 1) := List.drop_eq_getElem_cons hlt2
      have hc : ((i : Int) + 1) = ((i + 1 : Nat) : Int) := by push_cast; rfl
      rw [hi2]
      rw [hd1, hd2] at h
      have heq : eqH ss[i] ts[i] = eqH ts[i] ss[i] := by rw [Bool.eq_iff_iff, eqH_iff, eqH_iff]; exact ⟨Eq.symm, Eq.symm⟩
      have hdp := depth_mem (List.getElem_mem hlt)
      have hrm := W.room
      refine wpAny_bind (HyAt.eqAt hv hu (by lia) prog w _ _ ?_)
      cases he : eqH ts[i] ss[i] with
      | true =>
        rw [show ltL (ss[i] :: ss.drop (i + 1)) (ts[i] :: ts.drop (i + 1)) = ltL (ss.drop (i + 1)) (ts.drop (i + 1)) from by rw [ltL, heq, he]; rfl] at h
        wp_walk
        rw [hc]
        exact ⟨plainId_quiet plain_eq_loop _, codeAny_builtin entry_eq_loop (by
          rw [Around.under_plainId plain_eq_loop _]
          exact ih (i + 1) (by lia) prog w A R _ ⟨W, ⟨by lia, by lia⟩, h⟩)⟩
      | false =>
        rw [show ltL (ss[i] :: ss.drop (i + 1)) (ts[i] :: ts.drop (i + 1)) = ltH ss[i] ts[i] from by rw [ltL, heq, he]; rfl] at h
        wp_walk using wpAny_loadPart' hl, wpAny_loadPart' hb
        rw [hi1, hi2]
        show wpAny _ _ (compareOp .Gt v u >>= fun r => ret r) _ _ _
        refine wpAny_bind (W.ask i v u hlt hlt2 hx hy prog w _ _ ?_)
        exact wpAny_pure h
    · have hi2 : us.toArray[((i : Nat) : Int).toNat]? = none := by simp; lia
      rw [hi2]
      wp_walk using wpAny_loadPart' hl, wpAny_loadPart' hb
      show R (.ok (.ret (.bool (decide (us.toArray.size < vs.toArray.size))))) _
      simp only [List.size_toArray, e1, e2]
      rw [ltL_stop (ts := ss) (us := ts) i (by lia) (by lia) (.inl (by lia))]
      exact h
theorem list_ltH (l b : Addr) (vs us : List Value) (n n2 : Nat) (ts ss : List Hy) :
    Meets (Builtin.«list.__lt__» ⟨[.ref l, .ref b], []⟩) (fun A R s => Two l b vs us n n2 ts ss A s LtAt ltH ∧ R (.ok (.ret (.bool (ltL ts ss)))) s) := by
  intro prog w A R s h
  obtain ⟨hp, g, d, tk, os⟩ := s; obtain ⟨W, h⟩ := h
  have hl := W.one
  have hb := W.two
  have f3 := AutoSeq1.sub_list_list
  wp_walk using wpAny_loadPart' hl, wpAny_loadPart' hb
  exact ⟨plainId_quiet plain_eq_loop _, codeAny_builtin entry_eq_loop (by
    rw [Around.under_plainId plain_eq_loop _]
    exact lt_loopH l b vs us n n2 ts ss _ 0 rfl prog w A R _ ⟨W, ⟨Nat.zero_le _, Nat.zero_le _⟩, h⟩)⟩
theorem list_gtH (l b : Addr) (vs us : List Value) (n n2 : Nat) (ts ss : List Hy) :
    Meets (Builtin.«list.__gt__» ⟨[.ref l, .ref b], []⟩) (fun A R s => Two l b vs us n n2 ts ss A s GtAt (fun a b => ltH b a) ∧ R (.ok (.ret (.bool (ltL ss ts)))) s) := by
  intro prog w A R s h
  obtain ⟨hp, g, d, tk, os⟩ := s; obtain ⟨W, h⟩ := h
  have hl := W.one
  have hb := W.two
  have f3 := AutoSeq1.sub_list_list
  wp_walk using wpAny_loadPart' hl, wpAny_loadPart' hb
  exact ⟨plainId_quiet plain_eq_loop _, codeAny_builtin entry_eq_loop (by
    rw [Around.under_plainId plain_eq_loop _]
    exact gt_loopH l b vs us n n2 ts ss _ 0 rfl prog w A R _ ⟨W, ⟨Nat.zero_le _, Nat.zero_le _⟩, h⟩)⟩
theorem HyAt.ltAt (n : Nat) : ∀ {A : Around} {s : Shared} {v w : Value} {t u : Hy}, t.depth ≤ n → HyAt s.heap v t → HyAt s.heap w u → A.units + n < cLine → LtAt A s v w (ltH t u) := by
  induction n with
  | zero =>
    intro A s v w t u hd
    cases t; exact absurd hd (by simp [Hy.depth])
  | succ n ih =>
    intro A s v w t u hd x y hu prog W E Q h
    obtain ⟨h1, r1⟩ := x
    obtain ⟨h2, r2⟩ := y
    rename_i a vs m ts b us m2 ss
    have hd' : depthL ts ≤ n := by simpa [Hy.depth] using hd
    have hu2 : A.in1.units + n < cLine := by show A.units + 1 + n < cLine; lia
    exact cmp_ofLt (richCompare_meets_room (op := .Lt) ⟨_, h1, rfl⟩ ⟨_, h2, rfl⟩ PySem.F.slot_list_lt PySem.F.entry_list_lt (PySem.F.args_list_lt_2 _ _) (list_ltH a b vs us m m2 ts ss)
      ⟨⟨h1, h2, r1, r2, by lia, fun i v w k1 k2 e1 e2 => ih (Nat.le_trans (depth_mem (List.getElem_mem k1)) hd') (r1.item k1 e1) (r2.item k2 e2) hu2⟩, And.intro (fun q => by cases q) h⟩ (by lia))
theorem HyAt.gtAt (n : Nat) : ∀ {A : Around} {s : Shared} {v w : Value} {t u : Hy}, t.depth ≤ n → HyAt s.heap v t → HyAt s.heap w u → A.units + n < cLine → GtAt A s v w (ltH u t) := by
  induction n with
  | zero =>
    intro A s v w t u hd
    cases t; exact absurd hd (by simp [Hy.depth])
  | succ n ih =>
    intro A s v w t u hd x y hu prog W E Q h
    obtain ⟨h1, r1⟩ := x
    obtain ⟨h2, r2⟩ := y
    rename_i a vs m ts b us m2 ss
    have hd' : depthL ts ≤ n := by simpa [Hy.depth] using hd
    have hu2 : A.in1.units + n < cLine := by show A.units + 1 + n < cLine; lia
    exact show wpAny (model prog W) A (richCompare .Gt _ _) Q E s from richCompare_meets_room (op := .Gt) ⟨_, h1, rfl⟩ ⟨_, h2, rfl⟩ PySem.F.slot_list_gt PySem.F.entry_list_gt (PySem.F.args_list_gt_2 _ _) (list_gtH a b vs us m m2 ts ss)
      ⟨⟨h1, h2, r1, r2, by lia, fun i v w k1 k2 e1 e2 => ih (Nat.le_trans (depth_mem (List.getElem_mem k1)) hd') (r1.item k1 e1) (r2.item k2 e2) hu2⟩, And.intro (fun q => by cases q) h⟩ (by lia)
end
section
open PySem PySem.W PyProof.Rows PySem.Spec PySem.Calls PySem.SeqAt
section
variable {prog : Program} {w : World} {A : Around} {E : Value → Shared → Prop} {s : Shared} {a b : Value} {t u : Hy} {Q : Value → Shared → Prop}
theorem hy_room {n : Nat} (h : n + t.depth < cLine) : n + min t.py.depth u.py.depth < cLine := by
  have := Nat.min_le_left t.py.depth u.py.depth
  rw [(py_lay t).2] at this
  rw [(py_lay t).2]
  lia
theorem hy_eq (x : HyAt s.heap a t) (y : HyAt s.heap b u) (hu : A.units + t.depth < cLine) (h : Q (.bool (eqH t u)) s) : wpAny (model prog w) A (compareOp .Eq a b) Q E s := by
  obtain ⟨as, r⟩ := x.reads
  obtain ⟨bs, q⟩ := y.reads
  exact compareEq_reads r q (py_lay t).1 (py_lay u).1 (hy_room hu) (by rw [py_eqv]; exact h)
theorem hy_ne (x : HyAt s.heap a t) (y : HyAt s.heap b u) (hu : A.units + t.depth < cLine) (h : Q (.bool (!eqH t u)) s) : wpAny (model prog w) A (compareOp .NotEq a b) Q E s := by
  obtain ⟨as, r⟩ := x.reads
  obtain ⟨bs, q⟩ := y.reads
  exact compareNe_reads r q (py_lay t).1 (py_lay u).1 (hy_room hu) (by rw [py_eqv]; exact h)
end
theorem HyG.isRef {G : Addr → Obj → Prop} {v : Value} {t : Hy} (x : HyG G v t) : ∃ a, v = .ref a := by
  cases x; exact ⟨_, rfl⟩
theorem allLt_mem {d : Addr} {l : List (Addr × Obj)} (h : AllLt d l) : ∀ p ∈ l, p.1 < d := by
  induction l with
  | nil => exact fun p hp => absurd hp List.not_mem_nil
  | cons a r ih => exact List.forall_mem_cons.mpr ⟨h.1, ih h.2⟩
theorem leave_new {h₀ hs g' h' : Heap} {L L' : Addr} {m' : Str → Option Value} {new all rest : List (Addr × Obj)} (N : News h₀ L hs rest) (k : ∀ b o, hs.get? b = some o → g'.get? b = some o) (F : Fr g' L' h' m') (N' : News g' L' h' all) (NL : News h₀ L h' all) (sub : ∀ p ∈ new, p ∈ all) :
    Cj3 (News h₀ L h' (new ++ rest)) (∀ p ∈ new, ∀ q ∈ rest, p.1 ≠ q.1) (∀ b o, hs.get? b = some o → h'.get? b = some o) := by
  have kp : ∀ b o, hs.get? b = some o → h'.get? b = some o := fun b o e => F.keep _ _ (k _ _ e)
  refine ⟨fun p hp => ?_, fun p hp q hq e => ?_, kp⟩
  · rcases List.mem_append.mp hp with hp | hp
    · exact NL p (sub p hp)
    · exact ⟨kp _ _ (N p hp).1, (N p hp).2⟩
  · have e1 := k _ _ (N q hq).1
    rw [← e, (N' p (sub p hp)).2.2] at e1
    cases e1
end
section
open PySem PySem.W PyProof.Rows PySem.Spec PySem.Calls
open LCg
section
variable {prog : Program} {w : World} {A : Around} {E : Value → Shared → Prop} {s : Shared} {env : Env} {h₀ : Heap} {L : Addr} {m : Str → Option Value}
noncomputable abbrev cellE : Obj := { cls := .type "cell", data := .cell none }
noncomputable def CEnd (h₀ : Heap) (L : Addr) (m : Str → Option Value) (s₁ : Shared) (I : Addr) (oI : Obj) (C D : Addr) (ys : List Value) (Pr : List (Addr × Obj) → Prop) (s₃ : Shared) : Prop :=
  (Ex5 fun h' tk oC m₂ news' => Cj6 (s₃ = { s₁ with heap := h', toks := tk }) (Fr h₀ L h' m) (News h₀ L h' ((I, oI) :: (C, oC) :: (D, lst ys) :: news')) (NsObj oC m₂) (Off3 I C D news') (Pr news'))
noncomputable def CTurn (prog : Program) (w : World) (A : Around) (h₀ : Heap) (L : Addr) (m : Str → Option Value) (s : Shared) (elt target : Expr) (ifs : List Expr) (cenv : Env) (I C D : Addr) (P : Nat → Value → Prop) (Rel : Nat → List Value → List (Addr × Obj) → Prop) (n : Nat) : Prop :=
  ∀ i v h tk oI oC m₂ ys news', i < n → P i v → Fr h₀ L h m → News h₀ L h ((I, oI) :: (C, oC) :: (D, lst ys) :: news') → NsObj oC m₂ → Off3 I C D news' → ((@Ne Nat I C) ∧ (@Ne Nat I D) ∧ (@Ne Nat C D)) → Rel i ys news' →
    wpAny (model prog w) A (assign target cenv v) (fun _ s₂ =>
      wpAny (model prog w) A (forIn ifs true fun c r => if r = true then do let ok ← isTrue c cenv (eval c cenv); pure (ForInStep.yield ok) else pure (ForInStep.yield r)) (fun ok s₃ =>
        if ok = true then wpAny (model prog w) A (eval elt cenv) (fun y s₄ => CEnd h₀ L m { s with heap := h, toks := tk } I oI C D ys (Rel (i + 1) (ys ++ [y])) s₄) (fun _ _ => False) s₃
        else CEnd h₀ L m { s with heap := h, toks := tk } I oI C D ys (Rel (i + 1) ys) s₃) (fun _ _ => False) s₂) (fun _ _ => False) { s with heap := h, toks := tk }
theorem comp_core {elt target iter : Expr} {ifs : List Expr} {scope : Scope} {pos : Pos} {I C D : Addr} {fp : List Addr} {n : Nat} {P : Nat → Value → Prop} {St : Nat → Heap → Prop} {S : List (Addr × Obj) → Prop} {Rel : Nat → List Value → List (Addr × Obj) → Prop} {R : Result → Shared → Prop} {cenv : Env} {oI oC : Obj} {m₂ : Str → Option Value} {news : List (Addr × Obj)}
    (W : Walks prog w A I fp [I] n P St) (hsz : n ≤ sizeLine)
    (hgo : ∀ i v (s : Shared) (Q : Unit → Shared → Prop) (E : Value → Shared → Prop), St i s.heap → Q () s → wpAny (model prog w) A (letOwnedTupleGo target (.ref I) v) Q E s)
    (hIo : ∀ i h, St i h → ∃ o, h.get? I = some o)
    (hSt : ∀ i h h' o nw, St i h → h.get? I = some o → h'.get? I = some o → (∀ b o, h₀.get? b = some o → h'.get? b = some o) → News h₀ L h' nw → S nw → St i h')
    (hst : St 0 s.heap) (F : Fr h₀ L s.heap m) (N : News h₀ L s.heap ((I, oI) :: (C, oC) :: (D, lst []) :: news)) (hC : NsObj oC m₂) (off : Off3 I C D news) (ne : (@Ne Nat I C) ∧ (@Ne Nat I D) ∧ (@Ne Nat C D))
    (hS : ∀ i ys nw, Rel i ys nw → S nw) (hR0 : Rel 0 [] news) (turn : CTurn prog w A h₀ L m s elt target ifs cenv I C D P Rel n)
    (done : ∀ h tk ys oC m' news', Fr h₀ L h m → News h₀ L h ((C, oC) :: (D, lst ys) :: news') → NsObj oC m' → Off3 I C D news' → Rel n ys news' → R (.ok .next) { s with heap := h, toks := tk }) :
    codeAny (model prog w) A (.compLoop (.ListComp elt [⟨target, iter, ifs, 0⟩] scope pos) 0 (.ref I) (.ref D) cenv) R s := by
  have zI := N (I, oI) List.mem_cons_self
  have zC := N (C, oC) (.tail _ List.mem_cons_self)
  have zD := N (D, lst []) (.tail _ (.tail _ List.mem_cons_self))
  refine compLoop_st (fun i s' => (Ex6 fun h' tk ys oC m' news' => Cj8 (s' = { s with heap := h', toks := tk }) (ys.length ≤ i) (St i h') (Fr h₀ L h' m) (News h₀ L h' ((C, oC) :: (D, lst ys) :: news')) (NsObj oC m') (Off3 I C D news') (Rel i ys news'))) W hgo ?_ ?_ ?_ ?_
  · rintro i s' ⟨h', tk, ys, oC, m', news', rfl, _, hst, _⟩
    exact hst
  · exact ⟨s.heap, s.toks, [], oC, m₂, news, rfl, Nat.le_refl _, hst, F, fun p hp => N p (.tail _ hp), hC, off, hR0⟩
  · rintro i s' v h' tk' hi ⟨h1, tk, ys, oC, m', news', rfl, hyl, hst1, F1, N1, hC1, off1, hRel⟩ hP hst' keep
    obtain ⟨oI, heI⟩ := hIo _ _ hst'
    have F2 : Fr h₀ L h' m := fr_but F1 keep (Ne.symm zI.2.1) zI.2.2
    have off2 := off1.mem
    have N2 : News h₀ L h' ((I, oI) :: (C, oC) :: (D, lst ys) :: news') := fun p hp => by
      rcases List.mem_cons.mp hp with rfl | hp
      · exact ⟨heI, zI.2⟩
      · refine ⟨keep _ _ ?_ (N1 p hp).1, (N1 p hp).2⟩
        rcases List.mem_cons.mp hp with rfl | hp
        · simpa using Ne.symm ne.1
        rcases List.mem_cons.mp hp with rfl | hp
        · simpa using Ne.symm ne.2.1
        · simpa using (off2 p hp).1
    refine wpAny_mono (turn i v h' tk' oI oC m' ys news' hi hP F2 N2 hC1 off1 ne hRel) (fun _ s₂ h₂ => wpAny_mono h₂ (fun ok s₃ h₃ => ?_) fun _ _ e => e) fun _ _ e => e
    cases ok with
    | false =>
      obtain ⟨h3, tk3, oC3, m3, nw3, rfl, F3, N3, hC3, off3, hR3⟩ := h₃
      exact ⟨h3, tk3, ys, oC3, m3, nw3, rfl, Nat.le_succ_of_le hyl, hSt _ _ _ _ _ hst' heI (N3 _ List.mem_cons_self).1 F3.keep (fun p hp => N3 p (.tail _ (.tail _ (.tail _ hp)))) (hS _ _ _ hR3), F3, fun p hp => N3 p (.tail _ hp), hC3, off3, hR3⟩
    | true =>
      refine wpAny_mono (show wpAny _ _ _ _ _ _ from h₃) (fun y s₄ h₄ => ?_) fun _ _ e => e
      obtain ⟨h3, tk3, oC3, m3, nw3, rfl, F3, N3, hC3, off3, hR3⟩ := h₄
      have qD := N3 (D, lst ys) (.tail _ (.tail _ List.mem_cons_self))
      refine append_at (hsz := by show ys.toArray.size ≤ sizeLine; rw [List.size_toArray]; lia) qD.1 fun h₅ hs₅ hD₅ => ?_
      have hst3 : St (i + 1) h3 := hSt _ _ _ _ _ hst' heI (N3 _ List.mem_cons_self).1 F3.keep (fun p hp => N3 p (.tail _ (.tail _ (.tail _ hp)))) (hS _ _ _ hR3)
      have F5 : Fr h₀ L h₅ m := F3.change hs₅ qD.2.1 qD.2.2
      have off4 := off3.mem
      have N5 : News h₀ L h₅ ((I, oI) :: (C, oC3) :: (D, lst (ys ++ [y])) :: nw3) := fun p hp => by
        rcases List.mem_cons.mp hp with rfl | hp
        · exact ⟨hs₅.extBut _ _ ne.2.1 (N3 _ List.mem_cons_self).1, (N3 _ List.mem_cons_self).2⟩
        rcases List.mem_cons.mp hp with rfl | hp
        · exact ⟨hs₅.extBut _ _ ne.2.2 (N3 _ (.tail _ List.mem_cons_self)).1, (N3 _ (.tail _ List.mem_cons_self)).2⟩
        rcases List.mem_cons.mp hp with rfl | hp
        · exact ⟨hD₅.trans (congrArg some (lst_snoc ys y)), qD.2⟩
        · have z := N3 p (.tail _ (.tail _ (.tail _ hp)))
          exact ⟨hs₅.extBut _ _ (off4 p hp).2.2 z.1, z.2⟩
      refine ⟨h₅, tk3, ys ++ [y], oC3, m3, nw3, rfl, by simp; lia, hSt _ _ _ _ _ hst3 (N3 _ List.mem_cons_self).1 (N5 _ List.mem_cons_self).1 F5.keep (fun p hp => N5 p (.tail _ (.tail _ (.tail _ hp)))) (hS _ _ _ hR3), F5, fun p hp => N5 p (.tail _ hp), hC3, off3, hR3⟩
  · rintro s' h' tk' ⟨h1, tk, ys, oC, m', news', rfl, hyl, hst1, F1, N1, hC1, off1, hRel⟩ keep
    have off2 := off1.mem
    refine done h' tk' ys oC m' news' (fr_but F1 keep (Ne.symm zI.2.1) zI.2.2) (fun p hp => ⟨keep _ _ ?_ (N1 p hp).1, (N1 p hp).2⟩) hC1 off1 hRel
    rcases List.mem_cons.mp hp with rfl | hp
    · simpa using Ne.symm ne.1
    rcases List.mem_cons.mp hp with rfl | hp
    · simpa using Ne.symm ne.2.1
    · simpa using (off2 p hp).1
end
end
section
open PySem PySem.W PyProof.Rows PySem.Spec PySem.Calls
open LCg
section
variable {prog : Program} {w : World} {A : Around} {E : Value → Shared → Prop} {s : Shared} {env : Env} {h₀ : Heap} {L : Addr} {m : Str → Option Value} {news : List (Addr × Obj)}
noncomputable def cellNews (scope : Scope) (C : Addr) : List (Addr × Obj) := (cellsFrom (C + 1) scope.names []).map fun p => (p.2, cellE)
structure CSrc (prog : Program) (w : World) (A : Around) (h₀ : Heap) (L : Addr) (m : Str → Option Value) (S : List (Addr × Obj) → Prop) (P : Nat → Value → Prop) (n : Nat) (news : List (Addr × Obj)) (I : Addr) (h : Heap) : Prop where
  it : (Ex2 fun fp St => Cj5 (Walks prog w A I fp [I] n P St) ((∀ target i v (s : Shared) (Q : Unit → Shared → Prop) (E : Value → Shared → Prop), St i s.heap → Q () s → wpAny (model prog w) A (letOwnedTupleGo target (.ref I) v) Q E s)) ((∀ i h, St i h → ∃ o, h.get? I = some o)) ((∀ i h h' o nw, St i h → h.get? I = some o → h'.get? I = some o → (∀ b o, h₀.get? b = some o → h'.get? b = some o) → News h₀ L h' nw → S nw → St i h')) (St 0 h))
  sz : n ≤ sizeLine
  fr : Fr h₀ L h m
  nw : News h₀ L h news
  new : I ≠ L ∧ h₀.get? I = none
  off : ∀ p ∈ news, p.1 ≠ I
noncomputable def CRest (prog : Program) (w : World) (A : Around) (h₀ : Heap) (L : Addr) (m : Str → Option Value) (env : Env) (elt target : Expr) (ifs : List Expr) (scope : Scope) (cl : List (Str × Addr)) (S : List (Addr × Obj) → Prop) (P : Nat → Value → Prop) (n : Nat) (news : List (Addr × Obj)) (I : Addr) (s : Shared)
    (Fin : Addr → Addr → Shared → Prop) : Prop :=
  ∀ (D C : Addr) (s₃ : Shared), (∃ h, s₃ = { s with heap := h }) → (∀ p ∈ news, p.1 < D) → D < C → (Ex1 fun (Rel : Nat → List Value → List (Addr × Obj) → Prop) => Cj4 ((∀ i ys nw, Rel i ys nw → S nw)) (Rel 0 [] (cellNews scope C ++ news)) (CTurn prog w A h₀ L m s₃ elt target ifs (compEnvC scope (cellsFrom (C + 1) scope.names cl) C env) I C D P Rel n) (∀ h tk ys oC m' news', Fr h₀ L h m → News h₀ L h ((C, oC) :: (D, lst ys) :: news') → NsObj oC m' → Off3 I C D news' → (@Ne Nat C D) → Rel n ys news' → Fin D C { s₃ with heap := h, toks := tk }))
theorem comp_use {elt target iter : Expr} {ifs : List Expr} {scope : Scope} {cl : List (Str × Addr)} {pos : Pos} {s₂ : Shared} {I : Addr} {S : List (Addr × Obj) → Prop} {P : Nat → Value → Prop} {n : Nat} {Fin : Addr → Addr → Shared → Prop}
    (src : CSrc prog w A h₀ L m S P n news I s₂.heap) (rest : CRest prog w A h₀ L m env elt target ifs scope cl S P n news I s₂ Fin) {D C : Addr} {h₁ : Heap} {oC : Obj} (new : CompNew s₂.heap h₁ scope cl D C oC) :
    codeAny (model prog w) A (.compLoop (.ListComp elt [⟨target, iter, ifs, 0⟩] scope pos) 0 (.ref I) (.ref D) (compEnvC scope (cellsFrom (C + 1) scope.names cl) C env)) (fun r s' => match r with | .ok _ => Fin D C s' | .error _ => False) { s₂ with heap := h₁ } := by
  obtain ⟨⟨fp, St, W, hgo, hIo, hSt, hst⟩, hsz, F, N, ⟨hIL, hI₀⟩, off⟩ := src
  obtain ⟨isD, isC, keep, hl, hn, hns, hcells⟩ := new
  have hDC : D < C := by rw [isD, isC]; exact Nat.lt_succ_self _
  obtain ⟨Rel, hS, hR0, turn, fin⟩ := rest D C { s₂ with heap := h₁ } ⟨h₁, rfl⟩ (fun p hp => by rw [isD]; exact Heap.lt_size (N p hp).1) hDC
  obtain ⟨oI, hoI⟩ := hIo _ _ hst
  have hIlt : I < D := by rw [isD]; exact Heap.lt_size hoI
  have fresh₀ : ∀ a, s₂.heap.objs.size ≤ a → h₀.get? a = none := fun a ha => by
    cases e : h₀.get? a with
    | none => rfl
    | some o' => exact absurd (Heap.lt_size (F.keep a o' e)) (Nat.not_lt.mpr ha)
  have hLlt : L < D := by rw [isD]; exact F.ns.lt
  have ne : (@Ne Nat I C) ∧ (@Ne Nat I D) ∧ (@Ne Nat C D) := ⟨Nat.ne_of_lt (Nat.lt_trans hIlt hDC), Nat.ne_of_lt hIlt, Nat.ne_of_gt hDC⟩
  have F1 : Fr h₀ L h₁ m := F.keeps keep
  have cz : ∀ p ∈ cellNews scope C, h₁.get? p.1 = some p.2 ∧ C < p.1 := fun p hp => by
    obtain ⟨q, hq, e⟩ := List.mem_map.mp hp
    subst e
    exact hcells q.1 q.2 hq
  have offN : Off3 I C D (cellNews scope C ++ news) := Off3.of fun p hp => by
    rcases List.mem_append.mp hp with h | h
    · have := (cz p h).2
      exact ⟨Nat.ne_of_gt (Nat.lt_trans hIlt (Nat.lt_trans hDC this)), Nat.ne_of_gt this, Nat.ne_of_gt (Nat.lt_trans hDC this)⟩
    · have : p.1 < D := by rw [isD]; exact Heap.lt_size (N p h).1
      exact ⟨off p h, Nat.ne_of_lt (Nat.lt_trans this hDC), Nat.ne_of_lt this⟩
  have hle : ∀ a, D ≤ a → a ≠ L ∧ h₀.get? a = none := fun a ha => ⟨Nat.ne_of_gt (Nat.lt_of_lt_of_le hLlt ha), fresh₀ _ (isD ▸ ha)⟩
  have N1 : News h₀ L h₁ ((I, oI) :: (C, oC) :: (D, lst []) :: (cellNews scope C ++ news)) := fun p hp => by
    rcases List.mem_cons.mp hp with rfl | hp
    · exact ⟨keep _ _ hoI, hIL, hI₀⟩
    rcases List.mem_cons.mp hp with rfl | hp
    · exact ⟨hn, hle _ (Nat.le_of_lt hDC)⟩
    rcases List.mem_cons.mp hp with rfl | hp
    · exact ⟨hl, hle _ (Nat.le_refl _)⟩
    rcases List.mem_append.mp hp with h | h
    · exact ⟨(cz p h).1, hle _ (Nat.le_of_lt (Nat.lt_trans hDC (cz p h).2))⟩
    · exact ⟨keep _ _ (N p h).1, (N p h).2⟩
  exact comp_core W hsz (hgo _) hIo hSt (W.frame _ _ _ hst fun b _ o e => keep b o e) F1 N1 hns offN ne hS hR0 turn fun h tk ys oC m' nw F N hC off hR => fin h tk ys oC m' nw F N hC off ne.2.2 hR
theorem comp_eval {elt target iter : Expr} {ifs : List Expr} {scope : Scope} {cl : List (Str × Addr)} {pos : Pos} {Q : Value → Shared → Prop}
    (F₀ : Fr h₀ L s.heap m) (hclos : closureFor scope env = pure cl) (hkind : scope.kind = .function) (hnames : ∀ y ∈ scope.names, y.2 = .local → scope.names.lookup y.1 = some .local)
    (h : wpAny (model prog w) A (eval iter env) (fun xv s₁ => wpAny (model prog w) A (pyIter xv) (fun it s₂ => (Ex5 fun I S P n news => Cj3 (it = .ref I) (CSrc prog w A h₀ L m S P n news I s₂.heap) (CRest prog w A h₀ L m env elt target ifs scope cl S P n news I s₂ (fun D C s' => ∃ m', s'.heap.Ns C m' ∧ ∀ h', Heap.SameBut C s'.heap h' → Q (.ref D) { s' with heap := h' })))) E s₁) E s)
    (hs : ∀ x, foldedSetIterable iter env x = pure x := by intro _; rfl) :
    wpAny (model prog w) A (eval (.ListComp elt [⟨target, iter, ifs, 0⟩] scope pos) env) Q E s := by
  refine comp_open hclos hkind hnames (wpAny_mono h (fun xv s₁ h₁ => wpAny_mono h₁ (fun it s₂ h₂ => ?_) fun _ _ e => e) fun _ _ e => e) hs
  obtain ⟨I, S, P, n, news, rfl, src, rest⟩ := h₂
  obtain ⟨⟨fp, St, W, hgo, hIo, hSt, hst⟩, _⟩ := id src
  exact ⟨I, fp, [I], n, P, St, rfl, W, hst, fun D C h₁ oC new => codeAny_mono (comp_use src rest new) fun r s' hr => by
    cases r with
    | ok f => exact hr
    | error e => exact hr⟩
theorem comp_asg {elt target iter : Expr} {ifs : List Expr} {scope : Scope} {cl : List (Str × Addr)} {pos spos : Pos} {y : Str} {py : Pos} {Q : Flow → Shared → Prop}
    (hsw : swapsWith (.ListComp elt [⟨target, iter, ifs, 0⟩] scope pos) (some (.Name y py)) spos.line env = pure true)
    (F₀ : Fr h₀ L s.heap m) (hclos : closureFor scope env = pure cl) (hkind : scope.kind = .function) (hnames : ∀ y ∈ scope.names, y.2 = .local → scope.names.lookup y.1 = some .local)
    (h : wpAny (model prog w) A (eval iter env) (fun xv s₁ => wpAny (model prog w) A (pyIter xv) (fun it s₂ => (Ex5 fun I S P n news => Cj3 (it = .ref I) (CSrc prog w A h₀ L m S P n news I s₂.heap) (CRest prog w A h₀ L m env elt target ifs scope cl S P n news I s₂ (fun D C s' => wpAny (model prog w) A (assign (.Name y py) env (.ref D)) (fun _ s'' => ∃ m', s''.heap.Ns C m' ∧ ∀ h', Heap.SameBut C s''.heap h' → Q .next { s'' with heap := h' }) E s')))) E s₁) E s)
    (hs : ∀ x, foldedSetIterable iter env x = pure x := by intro _; rfl) :
    wpAny (model prog w) A (exec (.Assign [.Name y py] (.ListComp elt [⟨target, iter, ifs, 0⟩] scope pos) spos) env) Q E s := by
  rw [exec_Assign_Name_used _ _ _ _ hsw]
  refine wpAny_bind (wpAny_standAt (wpAny_bind ?_))
  show wpAny _ A (do let _ ← comprehension (.ListComp elt [⟨target, iter, ifs, 0⟩] scope pos) scope env _ (newList []) false (eval iter env) (some (assign (.Name y py) env))) _ _ s
  refine wpAny_bind (wpAny_mono (wpAny_comprehension_free (use := some (assign (.Name y py) env)) (Q := fun _ s' => Q .next s') rfl hs hclos hkind hnames
    (wpAny_mono h (fun xv s₁ h₁ => wpAny_mono h₁ (fun it s₂ h₂ => ?_) fun _ _ e => e) fun _ _ e => e)) (fun _ s' hq => wpAny_pure (wpAny_pure hq)) fun _ _ e => e)
  obtain ⟨I, S, P, n, news, rfl, src, rest⟩ := h₂
  obtain ⟨⟨fp, St, W, hgo, hIo, hSt, hst⟩, _⟩ := id src
  refine wpAny_newObj_type (newFunctionEnv_comp fun h₁ oC e1 e2 e3 e4 => ?_)
  have hsz : ({ s₂ with heap := s₂.heap.push { cls := .type "list", dict := none, data := .seq ([] : List Value).toArray } } : Shared).heap.objs.size = s₂.heap.objs.size + 1 := Heap.size_push ..
  rw [hsz] at e1 e4 ⊢
  have old : ∀ b o, s₂.heap.get? b = some o → h₁.get? b = some o := fun b o e => e3 b o (Heap.get?_push_of_some _ e)
  have L := comp_use (iter := iter) (pos := pos) src rest (D := s₂.heap.objs.size) (C := s₂.heap.objs.size + 1) (h₁ := h₁) (oC := oC) ⟨rfl, rfl, old, e3 _ _ (Heap.get?_push_size _ rfl), e1, e2, e4⟩
  have fin := codeAny_mono L (fun r s' hr => show compPost (model prog w) A E (some (assign (.Name y py) env)) (fun _ s' => Q .next s') (.ref s₂.heap.objs.size) (s₂.heap.objs.size + 1) r s' by
    cases r with
    | ok f => exact hr
    | error e => exact absurd hr (by intro q; exact q))
  exact codeAny_compStart_list fin (W.self 0 _ _ _ (W.frame _ _ _ hst fun b _ o e => old b o e) fin)
theorem aend {C : Addr} {oC : Obj} {m₂ : Str → Option Value} {G : Shared → Prop} {s : Shared} (F : Fr h₀ L s.heap m) (N : News h₀ L s.heap ((C, oC) :: news)) (hC : NsObj oC m₂) (off : ∀ p ∈ news, p.1 ≠ C)
    (k : ∀ h'', Fr h₀ L h'' m → News h₀ L h'' news → G { s with heap := h'' }) : ∃ m', s.heap.Ns C m' ∧ ∀ h', Heap.SameBut C s.heap h' → G { s with heap := h' } := by
  have z := N (C, oC) List.mem_cons_self
  exact ⟨m₂, hC.ns z.1, fun h' hs => k h' (F.change hs z.2.1 z.2.2) fun p hp => ⟨hs.extBut _ _ (off p hp) (N p (.tail _ hp)).1, (N p (.tail _ hp)).2⟩⟩
theorem asg_own {C : Addr} {oC : Obj} {m₂ : Str → Option Value} {g : Obj → List (Addr × Obj)} {scope : Scope} {cl : List (Str × Addr)} {x : Str} {px : Pos} {v : Value} {Q : Unit → Shared → Prop}
    (F : Fr h₀ L s.heap m) (N : News h₀ L s.heap news) (U : UpdF C oC news g) (hC : NsObj oC m₂) (hx : scope.names.lookup x = some .local) (hkind : scope.kind = .function)
    (h : ∀ h' oC', Fr h₀ L h' m → News h₀ L h' (g oC') → NsObj oC' (fun y => if y = x then some v else m₂ y) → Q () { s with heap := h', toks := s.toks + 1 }) :
    wpAny (model prog w) A (assign (.Name x px) (compEnvC scope cl C env) v) Q E s := by
  obtain ⟨pre, post, rfl, hg, a, b⟩ := U.split
  have z := N (C, oC) (List.mem_append_right _ (.head _))
  refine wpAny_assign_Name (wpAny_storeName_local (lookup_relabel_local hx) (hC.ns z.1) (fun h₃ hn₃ hs₃ => ?_) (by simp [compEnvC, relabel, hkind]))
  obtain ⟨oC', heC, hoC⟩ := ns_obj hn₃
  exact h h₃ oC' (F.change hs₃ z.2.1 z.2.2) (hg oC' ▸ N.setIn a b hs₃ heC) hoC
end
end
section
open PySem PySem.W PyProof.Rows PySem.Spec PySem.Calls
section
variable {prog : Program} {w : World} {A : Around} {E : Value → Shared → Prop} {s : Shared} {env : Env} {elt t0 i0 t1 i1 : Expr} {ifs : List Expr} {scope : Scope} {pos : Pos} {R : Result → Shared → Prop} {I D : Addr} {fp wr : List Addr} {n : Nat} {P : Nat → Value → Prop} {St : Nat → Heap → Prop}
end
end
section
open PySem PySem.W PyProof.Rows PySem.Spec PySem.Calls
open LCg
section
variable {prog : Program} {w : World} {A : Around} {E : Value → Shared → Prop} {s : Shared} {env : Env} {h₀ : Heap} {L : Addr} {m : Str → Option Value}
end
end
section
open PySem PySem.W PyProof.Rows PySem.Spec PySem.Calls
theorem ldE {M : Model} {A : Around} {E : Value → Shared → Prop} {s : Shared} {h₀ : Heap} {m : Str → Option Value} {env : Env} {x : Str} {pos : Pos} {v : Value} {Q : Value → Shared → Prop} (F : Fr h₀ env.locals s.heap m) (hv : m x = some v) (h : Q v s)
    (hk : env.scope.kind = .function := by rfl) (hl : env.kindOf x = some .local := by rfl) (hd : (x == ("__debug__" : Str)) = false := by decide) :
    wpAny M A (eval (.Name x pos) env) Q E s := wpAny_Name (wpAny_loadName_local hk hl F.ns hv h) hd
section
variable {prog : Program} {w : World} {A₀ A : Around} {s : Shared} {base h₀ : Heap} {outer : List Env} {L : Addr} {m : Str → Option Value} {env : Env} {news : List (Addr × Obj)} {K : Frag} {p : Program} {loose : List Str} {mean : ExcName → Option Value} {mg mb : Str → Option Value} {R : Result → Shared → Prop}
  {name qual : Str} {params : Arguments} {body : List Stmt} {scope : Scope} {dV kV doc pm cdv ct oc : Value} {an od : Option Addr} {osl : Array (Option Value)} {f : Addr} {args : Args} {binds : List (Str × Value)}
theorem code_defTC (B : Below A₀ base outer h₀) (F : Fr h₀ L s.heap m) (X₀ : K.In h₀) (N : News h₀ L s.heap news) (T : Top p loose mean mg mb h₀) (XB : K.In base) (TB : Top p loose mean mg mb base) (D : KtsDicts (outer.filterMap (·.frame)) h₀)
    (hA : A.frames = some (env :: outer)) (hf : env.frame = some L) (hke : env.scope.kind = .function)
    (ho : K.lookup f = some ⟨oc, od, .func (fnOf name qual params body scope dV kV doc pm an cdv ct), osl⟩) (hcd : codeIn K cdv qual = true) (hroom : A.depth < recursionLimit)
    (hbind : BindsTo s (fnOf name qual params body scope dV kV doc pm an cdv ct) args binds) (hkind : (binds.all fun y => scope.names.lookup y.1 == some .local || scope.names.lookup y.1 == some .cell) = true)
    (hnd : ((cellsFrom 0 scope.names []).map (·.1)).Nodup)
    (h : ∀ g L' h₁ tk cells, Fr h₀ L g m → Fr g L' h₁ (bindL (envOfC qual scope L' f cdv).kindOf binds fun _ => none) → News g L' h₁ (cells ++ news) →
      CellsAre (bindC (envOfC qual scope L' f cdv).kindOf binds fun _ => none) (cellsFrom (L' + 1) scope.names []) cells → Below A base (env :: outer) g → K.In g → Top p loose mean mg mb g → KtsDicts ((env :: outer).filterMap (·.frame)) g → GSub s.heap g (news.map (·.1)) → (∀ p ∈ news, p.1 < L') →
      wpAny (model prog w) (A.deeper (envOfC qual scope L' f cdv)) (execs body (envOfC qual scope L' f cdv))
        (fun fl s' => LeaveT A₀ base env outer K p loose mean mg mb h₀ L m g R (match fl with | .ret v => v | _ => .none) s')
        (fun e s' => wpAny (model prog w) (A.deeper (envOfC qual scope L' f cdv)) (leaving (envOfC qual scope L' f cdv) e) (fun _ s'' => R (.error e) s'') (fun e' s'' => R (.error e') s'') s')
        { s with heap := h₁, toks := tk })
    (hco : scope.isCoroutine = false) (hgen : scope.isGenerator = false) (hk : scope.kind = .function) : codeAny (model prog w) A (.call (.ref f) args) R s := by
  have X := X₀.keeps F.keep
  obtain ⟨FG, BG, st, DG, lv⟩ := groundT (R := R) B F N XB TB D hA hf hke
  refine codeAny_call_function (fd := fnOf name qual params body scope dV kV doc pm an cdv ct) hroom (X _ _ ho) rfl hco hgen rfl (codeRec_of X hcd) (hbind _ _ _ _ ?_)
  refine wpAny_newFunctionEnv_cells hk (kindsX hkind _) fun env' he s' x => ?_
  subst he
  refine ⟨(T.nolimit.keeps F.keep).keeps x.toInCall.keep, codeAny_func ?_⟩
  obtain ⟨h₁, tk, rfl, _⟩ := x.done
  have hk₁ := x.toInCall.keep
  obtain ⟨cells, NC, Y⟩ := Cl.news (h₀ := s.heap) (Nat.le_refl _) fun n c hm => ⟨x.cell n c (lookup_of_mem_nodup (cellsFrom_names scope.names 0 (s.heap.objs.size + 1) [] [] rfl ▸ hnd) hm), x.above n c hm⟩
  refine wpAny_mono (h _ s.heap.objs.size h₁ tk cells FG ⟨x.toInCall.ns, fun b o e => hk₁ b o (of_hideAll _ e), Nat.le_of_eq (hideAll_size _ _)⟩ (fun p hp => ?_) Y BG (X₀.keeps st) (T.keeps st) DG (fun b o e nm => hideAll_get _ e nm) (fun p hp => Heap.lt_size (N p hp).1)) (fun fl s' hl => lv _ _ hl) fun _ _ y => y
  rcases List.mem_append.mp hp with hp | hp
  · refine ⟨(NC p hp).1, (NC p hp).2.1, ?_⟩
    cases q : (hideAll s.heap (news.map (·.1))).get? p.1 with
    | none => rfl
    | some o => have := of_hideAll _ q; rw [(NC p hp).2.2] at this; cases this
  · exact ⟨hk₁ _ _ (N p hp).1, Nat.ne_of_lt (Heap.lt_size (N p hp).1), hideAll_none _ (List.mem_map_of_mem hp)⟩
end
end
section
open PySem PySem.W PyProof.Rows PySem.Spec PySem.Calls PySem.SeqAt
theorem eqH_refl (a : Hy) : eqH a a = true := (eqH_iff a a).mpr rfl
mutual
theorem ltH_irrefl : ∀ a : Hy, ltH a a = false
  | .node l => by rw [ltH]; exact ltL_irrefl l
theorem ltL_irrefl : ∀ l : List Hy, ltL l l = false
  | [] => by simp [ltL]
  | a :: l => by rw [ltL, eqH_refl]; exact ltL_irrefl l
end
mutual
theorem ltH_trans : ∀ a b c : Hy, ltH a b = true → ltH b c = true → ltH a c = true
  | .node as, .node bs, .node cs, h1, h2 => by rw [ltH] at *; exact ltL_trans as bs cs h1 h2
theorem ltL_trans : ∀ as bs cs : List Hy, ltL as bs = true → ltL bs cs = true → ltL as cs = true
  | [], [], _, h1, _ => by simp [ltL] at h1
  | [], _ :: _, [], _, h2 => by simp [ltL] at h2
  | [], _ :: _, _ :: _, _, _ => by simp [ltL]
  | _ :: _, [], _, h1, _ => by simp [ltL] at h1
  | _ :: _, _ :: _, [], _, h2 => by simp [ltL] at h2
  | a :: as, b :: bs, c :: cs, h1, h2 => by
    rw [ltL] at *
    by_cases e1 : a = b
    · subst e1
      rw [eqH_refl, if_pos rfl] at h1
      by_cases e2 : a = c
      · subst e2
        rw [eqH_refl, if_pos rfl] at h2
        rw [eqH_refl, if_pos rfl]
        exact ltL_trans as bs cs h1 h2
      · rw [if_neg (fun q => e2 ((eqH_iff _ _).mp q))] at h2 ⊢
        exact h2
    · rw [if_neg (fun q => e1 ((eqH_iff _ _).mp q))] at h1
      by_cases e2 : b = c
      · subst e2
        rw [if_neg (fun q => e1 ((eqH_iff _ _).mp q))]
        exact h1
      · rw [if_neg (fun q => e2 ((eqH_iff _ _).mp q))] at h2
        have h3 := ltH_trans a b c h1 h2
        rw [if_neg (fun q => by rw [(eqH_iff _ _).mp q, ltH_irrefl] at h3; cases h3)]
        exact h3
end
mutual
theorem ltH_total : ∀ a b : Hy, ltH a b = false → ltH b a = false → a = b
  | .node as, .node bs, h1, h2 => by rw [ltH] at *; rw [ltL_total as bs h1 h2]
theorem ltL_total : ∀ as bs : List Hy, ltL as bs = false → ltL bs as = false → as = bs
  | [], [], _, _ => rfl
  | [], _ :: _, h1, _ => by simp [ltL] at h1
  | _ :: _, [], _, h2 => by simp [ltL] at h2
  | a :: as, b :: bs, h1, h2 => by
    rw [ltL] at *
    by_cases e : a = b
    · subst e
      rw [eqH_refl, if_pos rfl] at h1 h2
      rw [ltL_total as bs h1 h2]
    · rw [if_neg (fun q => e ((eqH_iff _ _).mp q))] at h1
      rw [if_neg (fun q => e ((eqH_iff _ _).mp q).symm)] at h2
      exact absurd (ltH_total a b h1 h2) e
end
theorem ltH_asymm {a b : Hy} (h : ltH a b = true) : ltH b a = false := by
  cases q : ltH b a with
  | false => rfl
  | true => have := ltH_trans a b a h q; rw [ltH_irrefl] at this; cases this
theorem ltH_neg {a b c : Hy} (h1 : ltH a c = true) : ltH a b = true ∨ ltH b c = true := by
  cases q : ltH a b with
  | true => exact .inl rfl
  | false =>
    cases q2 : ltH b a with
    | true => exact .inr (ltH_trans b a c q2 h1)
    | false => rw [ltH_total a b q q2] at h1; exact .inr h1
#print KeyOrd
end
section
open PySem PySem.W PyProof.Rows PySem.Spec PySem.Calls PySem.SeqAt
set_option maxHeartbeats 3200000
noncomputable def OH : KeyOrd := { α := Hy, blt := ltH, irrefl := ltH_irrefl, trans := ltH_trans, negTrans := fun _ _ _ h => ltH_neg h, total := ltH_total }
section
variable {prog : Program} {w : World} {A : Around} {E : Value → Shared → Prop} {s : Shared} {h₀ : Heap} {L : Addr} {m : Str → Option Value} {news : List (Addr × Obj)}
theorem hy_keyLt {n : Nat} {x y : Value} {t u : Hy} {Q : Bool → Shared → Prop} (hx : HyAt s.heap x t) (hy : HyAt s.heap y u) (hd : t.depth ≤ n + 1) (hu : A.units + (n + 1) < cLine) (h : Q (ltH t u) s) :
    wpAny (model prog w) A (keyLt' oneType' x y) Q E s := by
  obtain ⟨h1, r1⟩ := hx
  obtain ⟨h2, r2⟩ := hy
  rename_i a vs m ts b us m2 ss
  have hd' : depthL ts ≤ n := by simpa [Hy.depth] using hd
  have hu2 : A.in1.units + n < cLine := by show A.units + 1 + n < cLine; lia
  rw [keyLt'_oneType, oneLt'_eq]
  simp only [if_true]
  refine wpAny_bind (wpAny_cRoomFor (by lia) ?_)
  refine wpAny_bind (wpAny_callSpecialIfBound?_slot ⟨_, h1, rfl⟩ PySem.F.slot_list_lt (call_meets PySem.F.slot_list_lt ⟨_, h1, rfl⟩ PySem.F.entry_list_lt (PySem.F.args_list_lt_2 _ _) (list_ltH a b vs us m m2 ts ss)
    ⟨⟨h1, h2, r1, r2, by lia, fun i v w k1 k2 e1 e2 => HyAt.ltAt n (Nat.le_trans (depth_mem (List.getElem_mem k1)) hd') (r1.item k1 e1) (r2.item k2 e2) hu2⟩, ?_⟩))
  exact wpAny_truthy_bool h
theorem zip_rev (vs : List Value) : (vs.toArray.zip vs.toArray).reverse = pairsOf vs.reverse := by
  apply Array.toList_inj.mp
  show (vs.toArray.zip vs.toArray).reverse.toList = (vs.reverse.toArray.zip vs.reverse.toArray).toList
  rw [Array.toList_reverse, Array.toList_zip, Array.toList_zip]
  show (vs.zip vs).reverse = vs.reverse.zip vs.reverse
  rw [List.zip_eq_zipWith, List.zip_eq_zipWith, List.reverse_zipWith rfl]
theorem range_getD {α : Type} (d : α) (l : List α) : (List.range l.length).map (fun i => l.getD i d) = l := by
  apply List.ext_getElem?
  intro i
  by_cases hi : i < l.length
  · rw [List.getElem?_map, List.getElem?_range hi, Option.map_some, List.getD_eq_getElem?_getD, List.getElem?_eq_getElem hi]; rfl
  · rw [List.getElem?_eq_none (by simpa using hi), List.getElem?_eq_none (by lia)]
noncomputable def Falls (ts : List Hy) : Prop := ts.Pairwise fun x y => ltH x y = false
noncomputable def KeptBut (a : Addr) (h h' : Heap) : Prop := ∀ b o, b ≠ a → h.get? b = some o → h'.get? b = some o
theorem KeptBut.push {a : Addr} {h h' : Heap} (k : KeptBut a h h') (o : Obj) : KeptBut a h (h'.push o) := fun b x hb e => Heap.get?_push_of_some _ (k b x hb e)
theorem KeptBut.same {a : Addr} {h h' h'' : Heap} (k : KeptBut a h h') (s : Heap.SameBut a h' h'') : KeptBut a h h'' := fun b x hb e => (s.2 b hb).trans (k b x hb e)
theorem sort_hys {G : Addr → Obj → Prop} {a : Addr} {vs : List Value} {ts : List Hy} {n d : Nat} {P : PySem.Fin → Shared → Prop} (F : Fr h₀ L s.heap m) (N : News h₀ L s.heap news) (ho : s.heap.get? a = some (seqObj "list" vs.toArray n)) (haL : a ≠ L) (ha0 : h₀.get? a = none)
    (hna : ∀ p ∈ news, p.1 ≠ a) (h64 : ts.length < 64) (hg : HysG G vs ts) (hts : ∀ h', KeptBut a s.heap h' → HysAt h' vs ts) (hd : depthL ts ≤ d + 1) (hu : A.units + (d + 1) < cLine)
    (h : ∀ h' c vs' ts', Fr h₀ L h' m → News h₀ L h' ((a, listOf vs'.toArray c) :: news) → KeptBut a s.heap h' → HysG G vs' ts' → ts'.Perm ts → Falls ts' → P (.done (.ret .none)) { s with heap := h' }) :
    wpAny (model prog w) A (Builtin.«list.sort» ⟨[.ref a], [(Str.ofString "reverse", .bool true)]⟩) P E s := by
  have kn : KeptBut a s.heap s.heap := fun _ _ _ e => e
  have hlen := (hts _ kn).length
  have ha : a < s.heap.objs.size := Heap.lt_size ho
  have s1 := Heap.SameBut.update s.heap a (Obj.mapSeq fun _ => (#[] : Array Value))
  obtain ⟨e1, ho1⟩ : ∃ e1, (s.heap.update a (Obj.mapSeq fun _ => (#[] : Array Value))).get? a = some (seqObj "list" #[] e1) := ⟨_, get?_update_seq ho fun _ => #[]⟩
  obtain ⟨H, hH⟩ : ∃ H, H = ((s.heap.update a (Obj.mapSeq fun _ => (#[] : Array Value))).push (seqObj "tuple" vs.toArray 0)).push (seqObj "list" #[] 0) := ⟨_, rfl⟩
  have kH : KeptBut a s.heap H := by rw [hH]; exact ((kn.same s1).push _).push _
  have F3 : Fr h₀ L H m := by rw [hH]; exact ((kas_fr F s1 haL ha0).push _).push _
  have N3 : News h₀ L H news := by rw [hH]; exact (kas_news N s1 hna).grown fun b x e => Heap.get?_push_of_some _ (Heap.get?_push_of_some _ e)
  have ho3 : H.get? a = some (seqObj "list" #[] e1) := by rw [hH]; exact Heap.get?_push_of_some _ (Heap.get?_push_of_some _ ho1)
  have hz : vs.toArray.size = vs.length := List.size_toArray
  rw [list_sort_rev]
  refine wpAny_bind (listItems_at ho rfl ?_)
  refine wpAny_bind (listUpdate_at ho rfl ?_ (by rw [hz, sizeLine_eq]; lia) (Nat.zero_le _))
  refine wpAny_bind (seqEpoch_at ho1 rfl ?_)
  refine wpAny_bind (wpAny_newTuple ?_ (by show vs.length ≤ _; rw [sizeLine_eq]; lia))
  refine wpAny_bind (wpAny_newList ?_ (Nat.zero_le _))
  refine wpAny_holding ?_
  show wpAny (model prog w) A _ P E { s with heap := ((s.heap.update a (Obj.mapSeq fun _ => (#[] : Array Value))).push (seqObj "tuple" vs.toArray 0)).push (seqObj "list" #[] 0) }
  rw [← hH]
  dsimp only
  rw [if_pos rfl]
  refine wpAny_bind (wpAny_rule ?_)
  have fin : ∀ (xs : Array Value) (ts' : List Hy), xs.size = vs.length → HysG G xs.toList ts' → ts'.Perm ts → Falls ts' →
      wpAny (model prog w) A (do
        let touched := (← seqEpoch a) != e1
        Builtin.List.listUpdate (.ref a) fun _ => xs
        if touched then rule "list.sort.modified"; raiseError "ValueError" "list modified during sort"
        ret .none) P E { s with heap := H } := by
    intro xs ts' hxs hys pm pw
    have s2 := Heap.SameBut.update H a (Obj.mapSeq fun _ => xs)
    obtain ⟨c2, hc2⟩ : ∃ c2, (H.update a (Obj.mapSeq fun _ => xs)).get? a = some (seqObj "list" xs c2) := ⟨_, get?_update_seq ho3 fun _ => xs⟩
    refine wpAny_bind (seqEpoch_at ho3 rfl ?_)
    refine wpAny_bind (listUpdate_at ho3 rfl ?_ (Nat.zero_le _) (by rw [hxs, sizeLine_eq]; lia))
    simp only [bne_self_eq_false, Bool.false_eq_true, if_false]
    have k2 : KeptBut a s.heap (H.update a (Obj.mapSeq fun _ => xs)) := kH.same s2
    refine wpAny_pure (h _ c2 xs.toList ts' (kas_fr F3 s2 haL ha0) (fun p hp => ?_) k2 hys pm pw)
    rcases List.mem_cons.mp hp with rfl | hp
    · exact ⟨by rw [Array.toArray_toList]; exact hc2, haL, ha0⟩
    · exact ⟨(s2.2 p.1 (hna p hp)).trans (N3 p hp).1, (N3 p hp).2⟩
  by_cases h2 : vs.toArray.size < 2
  · rw [if_pos h2, if_pos h2]
    refine wpAny_bind (wpAny_pure ?_)
    rw [StateT.run_pure]
    refine wpAny_bind (wpAny_pure ?_)
    dsimp only
    have e : ((arrOf (SortSt.mk' general' (vs.toArray.zip vs.toArray).reverse #[] 7 none)).map (·.2)).reverse = vs.toArray := by
      show ((vs.toArray.zip vs.toArray).reverse.map (·.2)).reverse = vs.toArray
      rw [← Array.map_reverse, Array.reverse_reverse]
      apply Array.toList_inj.mp
      rw [Array.toList_map, Array.toList_zip]
      exact List.map_snd_zip (Nat.le_refl _)
    simp only [if_true]
    rw [e]
    refine fin vs.toArray ts hz hg (List.Perm.refl _) ?_
    unfold Falls
    match ts, hlen with
    | [], _ => exact List.Pairwise.nil
    | [p], _ => simp
    | _ :: _ :: _, hlen => exact absurd h2 (by rw [hz, hlen]; simp)
  · rw [if_neg h2, if_neg h2]
    have hH' := hts H kH
    have hlR : vs.reverse.length = ts.length := by rw [List.length_reverse]; exact hlen
    have looks : ∀ {v : Value} {t : Hy}, HyAt H v t → Looks (model prog w) H (typeOf v) (.type "list") := fun x => by
      obtain ⟨e, _⟩ := x
      exact (Looks.ld e).andThen .now
    refine wpAny_bind (kas_kind (T := .type "list") (by lia) (fun v hv => ?_) (by decide) (by decide) ?_)
    · obtain ⟨i, hi, rfl⟩ := List.getElem_of_mem hv
      obtain ⟨u, e, r⟩ := hH'.get i (by lia)
      rw [List.getElem?_eq_getElem hi] at e
      cases e
      exact looks r
    · have est : SortSt.mk' oneType' (if true = true then (vs.toArray.zip vs.toArray).reverse else vs.toArray.zip vs.toArray) #[] 7 none = kas_st oneType' (pairsOf vs.reverse) (List.toArray (List.range ts.length)) := by
        rw [if_pos rfl, zip_rev]
        have e := kas_range (pairsOf vs.reverse)
        rw [pairsOf_size, hlR] at e
        show SortSt.mk' oneType' (pairsOf vs.reverse) #[] 7 none = SortSt.mk' oneType' ((List.toArray (List.range ts.length)).map (kas_item (pairsOf vs.reverse))) #[] 7 none
        rw [e]
      rw [est]
      have hR := hH'.reverse
      have key : ∀ i, i < ts.length → i < ts.reverse.length := fun i hi => by rw [List.length_reverse]; exact hi
      have ask : (kas_sort ts.length).kasWp (kas_ask prog w A oneType' vs.reverse) (fun p s' => (PB ts.length p ∧ Up OH (fun i => ts.reverse.getD i (.node [])) p ts.length) ∧ s' = { s with heap := H }) { s with heap := H } := by
        refine sort_run (O := OH) (key := fun i => ts.reverse.getD i (.node [])) (Inv := fun s' => s' = { s with heap := H }) ?_ (by lia) rfl fun p s' h1 h2 h3 => ⟨⟨h1, h2⟩, h3⟩
        rintro i j C s' hi hj rfl hC
        have r1 := hR.getD (key i hi)
        have hm : ts.reverse.getD i (.node []) ∈ ts := by
          rw [List.getD_eq_getElem?_getD, List.getElem?_eq_getElem (key i hi)]
          exact List.mem_reverse.mp (List.getElem_mem _)
        exact hy_keyLt r1 (hR.getD (key j hj)) (Nat.le_trans (depth_mem hm) hd) hu (hC _ rfl)
      rw [kas_ask_eq] at ask
      refine wpAny_bind (wpAny_mono (kas_runs (E := E) (Q := fun _ st' s' => ∃ p : Array Nat, arrOf st' = p.map (kas_item (pairsOf vs.reverse)) ∧ failedOf st' = none ∧ (PB ts.length p ∧ Up OH (fun i => ts.reverse.getD i (.node [])) p ts.length) ∧ s' = { s with heap := H })
        (by lia) h64 (fun p' st' s' a1 a2 a3 a4 => ⟨p', a2, a3, a4⟩) ask) ?_ fun _ _ e => e)
      rintro ⟨⟨⟩, st'⟩ s' ⟨p, har, hf, ⟨hp, hup⟩, rfl⟩
      dsimp only
      have hpl : p.toList.Perm (List.range ts.length) := by have := Array.perm_iff_toList_perm.mp hp; simpa using this
      have hlt : ∀ i ∈ p.toList, i < ts.reverse.length := fun i hi => key i (List.mem_range.mp (hpl.mem_iff.mp hi))
      have eout : ((arrOf st').map (·.2)).reverse = (p.toList.map fun i => vs.reverse.getD i Value.none).reverse.toArray := by
        apply Array.toList_inj.mp
        rw [Array.toList_reverse, har, Array.map_map, Array.toList_map]
        exact congrArg List.reverse (List.map_congr_left fun i _ => by show (kas_item (pairsOf vs.reverse) i).2 = _; rw [kas_item_eq])
      simp only [if_true]
      rw [eout, hf]
      have hps : p.size = ts.length := hp.size
      refine fin _ (p.toList.map fun i => ts.reverse.getD i (.node [])).reverse (by rw [List.size_toArray, List.length_reverse, List.length_map, Array.length_toList]; lia) ?_ ?_ ?_
      · exact (hg.reverse.pick p.toList hlt).reverse
      · refine (List.reverse_perm _).trans (((hpl.map _).trans ?_).trans (List.reverse_perm ts))
        have := range_getD (Hy.node []) ts.reverse
        rw [List.length_reverse] at this
        rw [this]
      · unfold Falls
        rw [List.pairwise_reverse, List.pairwise_iff_getElem]
        intro i j hi hj hij
        simp only [List.length_map, Array.length_toList] at hi hj
        simp only [List.getElem_map, Array.getElem_toList]
        have := hup i j (Nat.le_of_lt hij) (by lia)
        unfold KP at this
        have e1 : p.getD i 0 = p[i] := by simp [Array.getD, hi]
        have e2 : p.getD j 0 = p[j] := by simp [Array.getD, hj]
        rw [e1, e2] at this
        exact this
theorem sorted_hys {G : Addr → Obj → Prop} {l : Addr} {vs : List Value} {ts : List Hy} {d : Nat} {Q : Value → Shared → Prop} (F : Fr h₀ L s.heap m) (N : News h₀ L s.heap news) (hl : s.heap.IsList l vs.toArray) (hg : HysG G vs ts) (hv : HysAt s.heap vs ts) (h64 : ts.length < 64)
    (hd : depthL ts ≤ d + 1) (hu : A.units + 2 + (d + 1) < cLine)
    (h : ∀ D h' c vs' ts', Fr h₀ L h' m → News h₀ L h' ((D, listOf vs'.toArray c) :: news) → (∀ q ∈ news, @LT.lt Nat _ q.1 D) → (∀ b o, s.heap.get? b = some o → h'.get? b = some o) → HysG G vs' ts' → ts'.Perm ts → Falls ts' → Q (.ref D) { s with heap := h' }) :
    wpAny (model prog w) A (call (.builtin "sorted") [.ref l] [(Str.ofString "reverse", .bool true)]) Q E s := by
  have hlen := hv.length
  refine call_function_entry_kw kind_sorted plain_sorted entry_sorted (args_sorted_rev _ _) ?_
  unfold Builtin.«sorted»
  refine wpAny_bind (m := checkCount "sorted" 1 1 _) (wpAny_pure ?_)
  refine wpAny_bind (collect_list hl ?_ (by rw [sizeLine_eq]; lia))
  refine wpAny_bind (wpAny_newList ?_ (by rw [sizeLine_eq]; lia))
  obtain ⟨H1, hH1⟩ : ∃ H1, H1 = (s.heap.push (seqObj "list" #[] 0)).update s.heap.objs.size (Obj.mapSeq (· ++ vs.toArray)) := ⟨_, rfl⟩
  have keep1 : ∀ b o, s.heap.get? b = some o → H1.get? b = some o := fun b o q => by
    have hlt : @LT.lt Nat _ b s.heap.objs.size := Heap.lt_size q
    rw [hH1, Heap.get?_update_ne _ _ _ _ (Nat.ne_of_lt hlt), Heap.get?_push_ne _ _ _ (Nat.ne_of_lt hlt)]
    exact q
  have hsz : H1.objs.size = s.heap.objs.size + 1 := by rw [hH1, Heap.size_update, size_push']
  have hoL : (H1.push (seqObj "list" vs.toArray 0)).get? H1.objs.size = some (seqObj "list" vs.toArray 0) := Heap.get?_push_size _ rfl
  have keep : ∀ b o, s.heap.get? b = some o → (H1.push (seqObj "list" vs.toArray 0)).get? b = some o := fun b o q => Heap.get?_push_of_some _ (keep1 b o q)
  have hL : L < s.heap.objs.size := F.ns.lt
  show wpAny _ _ _ _ _ { s with heap := ((s.heap.push (seqObj "list" #[] 0)).update s.heap.objs.size (Obj.mapSeq (· ++ vs.toArray))).push (seqObj "list" vs.toArray 0) }
  rw [← hH1]
  refine wpAny_bind (wpAny_holding (wpAny_call_entry_kw slot_list_sort ⟨_, hoL, rfl⟩ entry_list_sort ?_ (args_list_sort_rev _ _)))
  refine sort_hys (s := { s with heap := H1.push (seqObj "list" vs.toArray 0) }) (F.keeps keep) (N.grown keep) hoL (by rw [hsz]; exact Nat.ne_of_gt (Nat.lt_succ_of_lt hL)) (by rw [hsz]; exact Heap.get?_none_of_le (Nat.le_trans F.above (Nat.le_succ_of_le (Nat.le_of_lt hL))))
    (fun p hp => by rw [hsz]; exact Nat.ne_of_lt (Nat.lt_succ_of_lt (Heap.lt_size (N p hp).1))) h64 hg (fun h' k => hv.keeps fun b vs n e => k b _ (by rw [hsz]; exact Nat.ne_of_lt (Nat.lt_succ_of_lt (Heap.lt_size e))) (keep _ _ e)) hd ?_ ?_
  · show A.units + 1 + 1 + (d + 1) < cLine
    lia
  · intro h' c vs' ts' F' N' k hv' pm pw
    refine ⟨_, rfl, wpAny_pure ⟨_, rfl, ?_⟩⟩
    exact h _ h' c vs' ts' F' N' (fun p hp => by rw [hsz]; exact Nat.lt_succ_of_lt (Heap.lt_size (N p hp).1)) (fun b o e => k b o (by rw [hsz]; exact Nat.ne_of_lt (Nat.lt_succ_of_lt (Heap.lt_size e))) (keep b o e)) hv' pm pw
end
end
section
open PySem PySem.W PyProof.Rows PySem.Spec PySem.Calls
section
variable {prog : Program} {w : World} {A₀ A : Around} {s : Shared} {base h₀ : Heap} {outer : List Env} {L : Addr} {m : Str → Option Value} {env : Env} {news : List (Addr × Obj)} {K : Frag} {p : Program} {loose : List Str} {mean : ExcName → Option Value} {mg mb : Str → Option Value} {R : Result → Shared → Prop}
  {name qual : Str} {params : Arguments} {body : List Stmt} {scope : Scope} {dV kV doc pm cdv ct oc : Value} {an od : Option Addr} {osl : Array (Option Value)} {f : Addr} {args : Args} {binds : List (Str × Value)}
theorem code_defGC (B : Below A₀ base outer h₀) (F : Fr h₀ L s.heap m) (X₀ : K.In h₀) (N : News h₀ L s.heap news) (T : Top p loose mean mg mb h₀)
    (hA : A.frames = some (env :: outer)) (hf : env.frame = some L) (hke : env.scope.kind = .function)
    (ho : K.lookup f = some ⟨oc, od, .func (fnOf name qual params body scope dV kV doc pm an cdv ct), osl⟩) (hcd : codeIn K cdv qual = true) (hroom : A.depth < recursionLimit)
    (hbind : BindsTo s (fnOf name qual params body scope dV kV doc pm an cdv ct) args binds) (hkind : (binds.all fun y => scope.names.lookup y.1 == some .local || scope.names.lookup y.1 == some .cell) = true)
    (hnd : ((cellsFrom 0 scope.names []).map (·.1)).Nodup)
    (h : ∀ g L' h₁ tk cells, Fr h₀ L g m → Fr g L' h₁ (bindL (envOfC qual scope L' f cdv).kindOf binds fun _ => none) → News g L' h₁ (cells ++ news) →
      CellsAre (bindC (envOfC qual scope L' f cdv).kindOf binds fun _ => none) (cellsFrom (L' + 1) scope.names []) cells → Below A base (env :: outer) g → K.In g → Top p loose mean mg mb g → GSub s.heap g (news.map (·.1)) → (∀ p ∈ news, p.1 < L') →
      wpAny (model prog w) (A.deeper (envOfC qual scope L' f cdv)) (execs body (envOfC qual scope L' f cdv))
        (fun fl s' => LeaveK h₀ L m g R (match fl with | .ret v => v | _ => .none) s')
        (fun e s' => wpAny (model prog w) (A.deeper (envOfC qual scope L' f cdv)) (leaving (envOfC qual scope L' f cdv) e) (fun _ s'' => R (.error e) s'') (fun e' s'' => R (.error e') s'') s')
        { s with heap := h₁, toks := tk })
    (hco : scope.isCoroutine = false) (hgen : scope.isGenerator = false) (hk : scope.kind = .function) : codeAny (model prog w) A (.call (.ref f) args) R s := by
  have X := X₀.keeps F.keep
  obtain ⟨FG, BG, st, lv⟩ := groundX (R := R) B F N hA hf hke
  refine codeAny_call_function (fd := fnOf name qual params body scope dV kV doc pm an cdv ct) hroom (X _ _ ho) rfl hco hgen rfl (codeRec_of X hcd) (hbind _ _ _ _ ?_)
  refine wpAny_newFunctionEnv_cells hk (kindsX hkind _) fun env' he s' x => ?_
  subst he
  refine ⟨(T.nolimit.keeps F.keep).keeps x.toInCall.keep, codeAny_func ?_⟩
  obtain ⟨h₁, tk, rfl, _⟩ := x.done
  have hk₁ := x.toInCall.keep
  obtain ⟨cells, NC, Y⟩ := Cl.news (h₀ := s.heap) (Nat.le_refl _) fun n c hm => ⟨x.cell n c (lookup_of_mem_nodup (cellsFrom_names scope.names 0 (s.heap.objs.size + 1) [] [] rfl ▸ hnd) hm), x.above n c hm⟩
  refine wpAny_mono (h _ s.heap.objs.size h₁ tk cells FG ⟨x.toInCall.ns, fun b o e => hk₁ b o (of_hideAll _ e), Nat.le_of_eq (hideAll_size _ _)⟩ (fun p hp => ?_) Y BG (X₀.keeps st) (T.keeps st) (fun b o e nm => hideAll_get _ e nm) (fun p hp => Heap.lt_size (N p hp).1)) (fun fl s' hl => lv _ _ hl) fun _ _ y => y
  rcases List.mem_append.mp hp with hp | hp
  · refine ⟨(NC p hp).1, (NC p hp).2.1, ?_⟩
    cases q : (hideAll s.heap (news.map (·.1))).get? p.1 with
    | none => rfl
    | some o => have := of_hideAll _ q; rw [(NC p hp).2.2] at this; cases this
  · exact ⟨hk₁ _ _ (N p hp).1, Nat.ne_of_lt (Heap.lt_size (N p hp).1), hideAll_none _ (List.mem_map_of_mem hp)⟩
end
end
section
open PySem PySem.W PyProof.Rows PySem.Spec PySem.Calls PySem.SeqAt
section
variable {prog : Program} {w : World} {A : Around} {E : Value → Shared → Prop} {s : Shared} {l k : Addr} {vs us : List Value} {n n2 : Nat} {ps qs : List (Int × Int)} {Q : Value → Shared → Prop}
end
end
section
open PySem PySem.W PyProof.Rows PySem.Spec PySem.Calls PySem.SeqAt
inductive RowsAt (h : Heap) : List Value → List (List Int) → Prop
  | nil : RowsAt h [] []
  | cons {D : Addr} {pv : List Value} {n : Nat} {l : List Int} {vs : List Value} {ls : List (List Int)} : h.get? D = some (listOf pv.toArray n) → IntsAre pv l → RowsAt h vs ls → RowsAt h (.ref D :: vs) (l :: ls)
noncomputable abbrev rd (l : List Int) : PyData := .list (l.map .int)
theorem RowsAt.reads {h : Heap} {vs : List Value} {ls : List (List Int)} (x : RowsAt h vs ls) : ∃ as, ReadsAll h vs (ls.map rd) as := by
  induction x with
  | nil => exact ⟨_, .nil⟩
  | cons e j _ ih =>
    obtain ⟨as, r⟩ := ih
    exact ⟨_, .cons (.list e rfl rfl (by simpa using IntsAre.reads h j)) r⟩
theorem canLay_ints : ∀ l : List Int, PyData.canLayAll0 (l.map .int) = true
  | [] => by simp [PyData.canLayAll0]
  | p :: ps => by
    have := canLay_ints ps
    simp [PyData.canLayAll0, PyData.canLay0] at this ⊢; exact this
theorem depth_ints : ∀ l : List Int, PyData.depthAll (l.map .int) ≤ 1
  | [] => by simp [PyData.depthAll]
  | p :: ps => by
    have := depth_ints ps
    simp [PyData.depthAll, PyData.depth] at this ⊢; lia
theorem canLay_rows : ∀ ls : List (List Int), PyData.canLayAll0 (ls.map rd) = true
  | [] => by simp [PyData.canLayAll0]
  | p :: ps => by
    have h1 := canLay_rows ps
    have h2 := canLay_ints p
    simp only [List.map_cons, PyData.canLayAll0, PyData.canLay0, Bool.and_eq_true]
    exact ⟨h2, h1⟩
theorem depth_rows : ∀ ls : List (List Int), PyData.depthAll (ls.map rd) ≤ 2
  | [] => by simp [PyData.depthAll]
  | p :: ps => by
    have h1 := depth_rows ps
    have h2 := depth_ints p
    simp only [List.map_cons, PyData.depthAll, PyData.depth] at h1 h2 ⊢; lia
inductive RowsL (tl : List (Addr × Obj)) : List Value → List (List Int) → Prop
  | nil : RowsL tl [] []
  | cons {D : Addr} {pv : List Value} {n : Nat} {l : List Int} {vs : List Value} {ls : List (List Int)} : (D, listOf pv.toArray n) ∈ tl → IntsAre pv l → RowsL tl vs ls → RowsL tl (.ref D :: vs) (l :: ls)
theorem RowsL.length {tl : List (Addr × Obj)} {vs : List Value} {ls : List (List Int)} (x : RowsL tl vs ls) : vs.length = ls.length := by
  induction x with
  | nil => rfl
  | cons _ _ _ ih => simp [ih]
theorem RowsL.append {tl : List (Addr × Obj)} {vs us : List Value} {ls ks : List (List Int)} (x : RowsL tl vs ls) (y : RowsL tl us ks) : RowsL tl (vs ++ us) (ls ++ ks) := by
  induction x with
  | nil => exact y
  | cons e j _ ih => exact .cons e j ih
theorem RowsL.mono {tl tl' : List (Addr × Obj)} {vs : List Value} {ls : List (List Int)} (x : RowsL tl vs ls) (k : ∀ p ∈ tl, p ∈ tl') : RowsL tl' vs ls := by
  induction x with
  | nil => exact .nil
  | cons e j _ ih => exact .cons (k _ e) j ih
theorem RowsL.at {tl news : List (Addr × Obj)} {vs : List Value} {ls : List (List Int)} {h₀ h : Heap} {L : Addr} (x : RowsL tl vs ls) (N : News h₀ L h news) (hsub : ∀ p ∈ tl, p ∈ news) : RowsAt h vs ls := by
  induction x with
  | nil => exact .nil
  | cons e j _ ih => exact .cons (N _ (hsub _ e)).1 j ih
section
variable {prog : Program} {w : World} {A : Around} {E : Value → Shared → Prop} {s : Shared} {l k : Addr} {vs : List Value} {n n2 : Nat} {ls : List (List Int)} {Q : Value → Shared → Prop}
end
end
section
set_option maxHeartbeats 8000000
section
variable {prog : Program} {w : World} {A : Around} {E : Value → Shared → Prop} {s : Shared} {env : Env} {test : Expr} {body orelse : List Stmt} {Q : Flow → Shared → Prop}
noncomputable def WEnd (I : Nat → Shared → Prop) (n : Nat) (Q : Flow → Shared → Prop) (f : Flow) (s : Shared) : Prop :=
  match f with
  | .next => ∃ k, k < n ∧ I k s
  | .cont => ∃ k, k < n ∧ I k s
  | .brk => Q .next s
  | .ret v => Q (.ret v) s
theorem while_inv {pos : Pos} (I : Nat → Shared → Prop) (hE : PassesOwn (model prog w) A env E)
    (turn : ∀ n s, I n s → wpAny (model prog w) A (isTrue test env (eval test env)) (fun b s₂ => WhlIf b (wpAny (model prog w) A (execs body env) (WEnd I n Q) E s₂) (wpAny (model prog w) A (execs orelse env) Q E s₂)) E s)
    (n : Nat) (h : I n s) : wpAny (model prog w) A (exec (.While test body orelse pos) env) Q E s := by
  have rest : ∀ n s, I n s → WhlRest prog w A E env test body orelse Q 1 s := by
    intro n
    induction n using Nat.strongRecOn with
    | ind n ih =>
      intro s h
      refine whl_turn hE (wpAny_mono (turn n s h) (fun b s₂ h₂ => ?_) fun _ _ e => e)
      cases b with
      | false => exact h₂
      | true =>
        refine wpAny_mono (show wpAny _ _ _ _ _ _ from h₂) (fun f s₃ h₃ => ?_) fun _ _ e => e
        cases f with
        | next => obtain ⟨k, hk, hI⟩ := h₃; exact ih k hk _ hI
        | cont => obtain ⟨k, hk, hI⟩ := h₃; exact ih k hk _ hI
        | brk => exact h₃
        | ret v => exact h₃
  exact whl_start 1 (rest n s h)
end
section
variable {prog : Program} {w : World} {A : Around} {E : Value → Shared → Prop} {s : Shared} {h₀ : Heap} {L : Addr} {m : Str → Option Value} {news : List (Addr × Obj)}
end
end
section
open PySem PySem.W PyProof.Rows PySem.Spec PySem.Calls PySem.SeqAt
set_option maxHeartbeats 8000000
open Classical
open PySem.AutoSeq1 (wpAny_loadPart')
open PySem.MeetsSeq PySem.MeetsSeq3
structure Rem (l : Addr) (vs : List Value) (n : Nat) (ts : List Hy) (x : Value) (t : Hy) (A : Around) (s : Shared) : Prop where
  one : s.heap.get? l = some (listOf vs.toArray n)
  hts : HysAt s.heap vs ts
  hx : HyAt s.heap x t
  room : A.in1.units + depthL ts < cLine
  sz : ts.length ≤ 900
theorem rem_loopH (l : Addr) (vs : List Value) (n : Nat) (ts : List Hy) (x : Value) (t : Hy) (k : Nat) :
    ∀ i : Nat, ts.length - i = k → Meets (Builtin.«list.remove.loop» ⟨[.ref l, x, rawInt i], []⟩)
      (fun A R s => Rem l vs n ts x t A s ∧ (i ≤ ts.idxOf t ∧ ts.idxOf t < ts.length) ∧ R (.ok (.ret .none)) { s with heap := s.heap.update l (Obj.mapSeq fun xs => xs.eraseIdxIfInBounds (ts.idxOf t)) }) := by
  induction k with
  | zero =>
    intro i hk prog w A R s h
    obtain ⟨W, ⟨h1, h2⟩, _⟩ := h
    lia
  | succ k ih =>
    intro i hk prog w A R s h
    obtain ⟨hp, g, d, tk, os⟩ := s; obtain ⟨W, ⟨hle, hlt⟩, h⟩ := h
    have hl := W.one
    have e1 := W.hts.length
    have hi' : i < ts.length := by lia
    obtain ⟨v, hx, hv⟩ := W.hts.get i hi'
    have hi : vs.toArray[((i : Nat) : Int).toNat]? = some v := by simpa using hx
    have hdp := depth_mem (List.getElem_mem hi')
    have hrm := W.room
    have hsz := W.sz
    wp_walk using wpAny_loadPart' hl
    rw [hi]
    refine wpAny_bind (HyAt.eqAt hv W.hx (by lia) prog w _ _ ?_)
    by_cases hij : i = ts.idxOf t
    · have hs1 : vs.toArray.size ≤ sizeLine := by rw [List.size_toArray, sizeLine_eq]; lia
      have et : ts[i] = t := by simp only [hij]; exact List.getElem_idxOf hlt
      rw [et, (eqH_iff t t).mpr rfl]
      have hz' : (vs.toArray.eraseIdxIfInBounds i).size ≤ sizeLine + 1 := Nat.le_trans (size_erased vs.toArray _) (Nat.le_succ_of_le hs1)
      wp_walk using (wpAny_updateSeq hl rfl (hz := hs1) (_hz' := hz')), wpAny_loadPart' hl
      rw [← hij] at h
      simpa using h
    · have hne : eqH ts[i] t = false := by
        rw [Bool.eq_false_iff]
        intro q
        have q2 : i < ts.idxOf t := Nat.lt_of_le_of_ne hle hij
        have q3 := List.not_of_lt_findIdx (p := (· == t)) (xs := ts) q2
        exact absurd ((eqH_iff _ _).mp q) (by simpa using q3)
      rw [hne]
      have hc : ((i : Int) + 1) = ((i + 1 : Nat) : Int) := by push_cast; rfl
      wp_walk
      rw [hc]
      exact ⟨plainId_quiet plain_remove_loop _, codeAny_builtin entry_remove_loop (by
        rw [Around.under_plainId plain_remove_loop _]
        exact ih (i + 1) (by lia) prog w A R _ ⟨W, ⟨by lia, hlt⟩, h⟩)⟩
theorem rem_hitH (l : Addr) (vs : List Value) (n : Nat) (ts : List Hy) (x : Value) (t : Hy) :
    Meets (Builtin.«list.remove» ⟨[.ref l, x], []⟩) (fun A R s => Rem l vs n ts x t A s ∧ t ∈ ts ∧ R (.ok (.ret .none)) { s with heap := s.heap.update l (Obj.mapSeq fun xs => xs.eraseIdxIfInBounds (ts.idxOf t)) }) := by
  intro prog w A R s h
  obtain ⟨hp, g, d, tk, os⟩ := s; obtain ⟨W, hm, h⟩ := h
  have hl := W.one
  wp_walk using wpAny_loadPart' hl
  exact ⟨plainId_quiet plain_remove_loop _, codeAny_builtin entry_remove_loop (by
    rw [Around.under_plainId plain_remove_loop _]
    exact rem_loopH l vs n ts x t _ 0 rfl prog w A R _ ⟨W, ⟨Nat.zero_le _, List.idxOf_lt_length_of_mem hm⟩, h⟩)⟩
theorem rem_loopN (l : Addr) (vs : List Value) (n : Nat) (ts : List Hy) (x : Value) (t : Hy) (k : Nat) :
    ∀ i : Nat, ts.length - i = k → Meets (Builtin.«list.remove.loop» ⟨[.ref l, x, rawInt i], []⟩) (fun A R s => Rem l vs n ts x t A s ∧ t ∉ ts ∧ raisesNew "ValueError" A R s) := by
  induction k with
  | zero =>
    intro i hk prog w A R s h
    obtain ⟨hp, g, d, tk, os⟩ := s; obtain ⟨W, _, h⟩ := h
    have hl := W.one
    have e1 := W.hts.length
    wp_walk using wpAny_loadPart' hl
    have hi : vs.toArray[((i : Nat) : Int).toNat]? = none := by simp; lia
    rw [hi]
    wp_walk
    exact_raiseError plainExc_ValueError h.1 h.2
  | succ k ih =>
    intro i hk prog w A R s h
    obtain ⟨hp, g, d, tk, os⟩ := s; obtain ⟨W, hm, h⟩ := h
    have hl := W.one
    have hi' : i < ts.length := by lia
    obtain ⟨v, hx, hv⟩ := W.hts.get i hi'
    have hi : vs.toArray[((i : Nat) : Int).toNat]? = some v := by simpa using hx
    have hdp := depth_mem (List.getElem_mem hi')
    have hrm := W.room
    have hne : eqH ts[i] t = false := by
      rw [Bool.eq_false_iff]
      exact fun q => hm ((eqH_iff _ _).mp q ▸ List.getElem_mem hi')
    wp_walk using wpAny_loadPart' hl
    rw [hi]
    refine wpAny_bind (HyAt.eqAt hv W.hx (by lia) prog w _ _ ?_)
    rw [hne]
    have hc : ((i : Int) + 1) = ((i + 1 : Nat) : Int) := by push_cast; rfl
    wp_walk
    rw [hc]
    exact ⟨plainId_quiet plain_remove_loop _, codeAny_builtin entry_remove_loop (by
      rw [Around.under_plainId plain_remove_loop _]
      exact ih (i + 1) (by lia) prog w A R _ ⟨W, hm, h⟩)⟩
theorem rem_missH (l : Addr) (vs : List Value) (n : Nat) (ts : List Hy) (x : Value) (t : Hy) :
    Meets (Builtin.«list.remove» ⟨[.ref l, x], []⟩) (fun A R s => Rem l vs n ts x t A s ∧ t ∉ ts ∧ raisesNew "ValueError" A R s) := by
  intro prog w A R s h
  obtain ⟨hp, g, d, tk, os⟩ := s; obtain ⟨W, hm, h⟩ := h
  have hl := W.one
  wp_walk using wpAny_loadPart' hl
  exact ⟨plainId_quiet plain_remove_loop _, codeAny_builtin entry_remove_loop (by
    rw [Around.under_plainId plain_remove_loop _]
    exact rem_loopN l vs n ts x t _ 0 rfl prog w A R _ ⟨W, hm, h⟩)⟩
theorem HysG.eraseIdx {G : Addr → Obj → Prop} : ∀ {vs : List Value} {ts : List Hy}, HysG G vs ts → ∀ i, HysG G (vs.eraseIdx i) (ts.eraseIdx i)
  | _, _, .nil, _ => .nil
  | _, _, .cons _ r, 0 => r
  | _, _, .cons e r, i + 1 => .cons e (r.eraseIdx i)
section
variable {prog : Program} {w : World} {A : Around} {E : Value → Shared → Prop} {s : Shared} {h₀ : Heap} {L : Addr} {m : Str → Option Value} {news : List (Addr × Obj)} {D : Addr} {vb : List Value} {ys : List Hy} {n : Nat} {x : Value} {t : Hy}
theorem remove_hitH {G : Addr → Obj → Prop} {g : Obj → List (Addr × Obj)} {Q : Value → Shared → Prop} (F : Fr h₀ L s.heap m) (N : News h₀ L s.heap news) (U : UpdF D (listOf vb.toArray n) news g) (hm : (D, listOf vb.toArray n) ∈ news)
    (hg : HysG G vb ys) (hi : HysAt s.heap vb ys) (hx : HyAt s.heap x t) (ht : t ∈ ys) (hz : ys.length ≤ 900) (hu : A.units + 3 + depthL ys < cLine)
    (h : ∀ h' n' vb', Fr h₀ L h' m → News h₀ L h' (g (listOf vb'.toArray n')) → HysG G vb' (ys.erase t) → Q .none { s with heap := h' }) :
    wpAny (model prog w) A (call (.builtin "list.remove") [.ref D, x]) Q E s := by
  have z := N _ hm
  have hlen := hi.length
  have hlt : ys.idxOf t < ys.length := List.idxOf_lt_length_of_mem ht
  have hlt' : ys.idxOf t < vb.length := by lia
  have k := upd_news F N U (mapSeq_list (fun xs => xs.eraseIdxIfInBounds (ys.idxOf t)) vb.toArray n) rfl
  have e1 : vb.toArray.eraseIdxIfInBounds (ys.idxOf t) = (vb.eraseIdx (ys.idxOf t)).toArray := by
    simp [Array.eraseIdxIfInBounds, hlt']
  have e2 : ys.erase t = ys.eraseIdx (ys.idxOf t) := by rw [List.erase_eq_eraseIdx_of_idxOf rfl]
  refine call_meets PySem.F.slot_list_remove ⟨_, z.1, rfl⟩ PySem.F.entry_list_remove (PySem.F.args_list_remove_2 _ _) (rem_hitH D vb n ys x t) ⟨⟨z.1, hi, hx, ?_, hz⟩, ht, ?_⟩
  · show A.units + 1 + depthL ys < cLine
    lia
  · have k2 := k.2
    simp only [turned, e1] at k2
    exact h _ _ _ k.1 k2 (by rw [e2]; exact hg.eraseIdx _)
theorem remove_missH {Q : Value → Shared → Prop} (hh : A.handled = none) (N : News h₀ L s.heap news) (hm : (D, listOf vb.toArray n) ∈ news) (hi : HysAt s.heap vb ys) (hx : HyAt s.heap x t) (ht : t ∉ ys) (hz : ys.length ≤ 900) (hu : A.units + 3 + depthL ys < cLine)
    (h : ∀ h' tk e, Heap.NewExc s.heap h' e "ValueError" → E (.ref e) { s with heap := h', toks := tk }) :
    wpAny (model prog w) A (call (.builtin "list.remove") [.ref D, x]) Q E s := by
  have z := N _ hm
  refine call_meets PySem.F.slot_list_remove ⟨_, z.1, rfl⟩ PySem.F.entry_list_remove (PySem.F.args_list_remove_2 _ _) (rem_missH D vb n ys x t) ⟨⟨z.1, hi, hx, ?_, hz⟩, ht, hh, fun h' tk e he => h h' tk e he⟩
  show A.units + 1 + depthL ys < cLine
  lia
theorem HysG.last {G : Addr → Obj → Prop} {vs : List Value} {ts : List Hy} (x : HysG G vs ts) (h : 0 < ts.length) : ∃ v, vs = vs.dropLast ++ [v] ∧ HyG G v (ts.getLastD (.node [])) ∧ HysG G vs.dropLast ts.dropLast := by
  have hl := x.length
  have hne : vs ≠ [] := List.ne_nil_of_length_pos (by lia)
  have hnt : ts ≠ [] := List.ne_nil_of_length_pos h
  refine ⟨vs.getLast hne, (List.dropLast_concat_getLast hne).symm, ?_, ?_⟩
  · obtain ⟨v, e, r⟩ := x.get (ts.length - 1) (by lia)
    rw [List.getLastD_eq_getLast?, List.getLast?_eq_getElem?, List.getElem?_eq_getElem (by lia), Option.getD_some]
    rw [List.getLast_eq_getElem]
    rw [List.getElem?_eq_getElem (by lia)] at e
    simp only [hl]
    rw [← Option.some.inj e] at r
    exact r
  · rw [List.dropLast_eq_take, List.dropLast_eq_take, hl]
    exact x.take _
end
end
section
open PySem PySem.W PyProof.Rows PySem.Spec PySem.Calls
open LCg
section
variable {prog : Program} {w : World} {A : Around} {E : Value → Shared → Prop} {s : Shared} {env : Env} {h₀ : Heap} {L : Addr} {m : Str → Option Value} {news : List (Addr × Obj)}
theorem letGo_any {target : Expr} {I : Addr} {v : Value} {T : String} {Q : Unit → Shared → Prop} (ht : s.TypeIs (.ref I) T) (hT : (["enumerate", "zip", "dict_itemiterator", "dict_reverseitemiterator", "odict_iterator", "itertools.zip_longest", "itertools.pairwise"].contains T) = false) (hQ : Q () s) :
    wpAny (model prog w) A (letOwnedTupleGo target (.ref I) v) Q E s := by
  obtain ⟨o, ho, hc⟩ := ht
  have core : ∀ a, wpAny (model prog w) A (load I >>= fun o => match o.cls, o.data with
      | .type n, .fields vs =>
        if (["enumerate", "zip", "dict_itemiterator", "dict_reverseitemiterator", "odict_iterator", "itertools.zip_longest", "itertools.pairwise"].contains n && vs[0]? == some (rawInt a)) = true then (rule "for.unpacks-the-owned-tuple" >>= fun _ => updateField I 0 .none) else pure ()
      | _, _ => pure ()) Q E s := fun a => by
    refine wpAny_bind (wpAny_load ho ?_)
    rw [hc]
    split
    · rename_i n vs e1 e2
      cases e1
      rw [if_neg (by rw [hT]; simp)]
      exact wpAny_pure hQ
    · exact wpAny_pure hQ
  unfold letOwnedTupleGo
  split
  · split
    · rename_i a heq
      cases heq
      exact core _
    · exact wpAny_pure hQ
  · split
    · rename_i a heq
      cases heq
      exact core _
    · exact wpAny_pure hQ
  · exact wpAny_pure hQ
theorem src_list {ax : Addr} {its : Array Value} {k : Nat} {Q : Value → Shared → Prop} (hh : A.handled = none) (F : Fr h₀ L s.heap m) (N : News h₀ L s.heap news) (hm : (ax, listOf its k) ∈ news) (hsz : its.size ≤ sizeLine)
    (h : ∀ I h₂, CSrc prog w A h₀ L m (SrcAt h₀ ax its) (fun i v => its[i]? = some v) its.size news I h₂ → (∀ p ∈ news, p.1 < I) → Q (.ref I) { s with heap := h₂ }) : wpAny (model prog w) A (pyIter (.ref ax)) Q E s := by
  have hl : s.heap.IsList ax its := N.isList hm
  have hlt : ax < s.heap.objs.size := by obtain ⟨_, e, _⟩ := hl; exact Heap.lt_size e
  have up : ∀ b o, s.heap.get? b = some o → (s.heap.push { cls := .type "list_iterator", data := .fields #[.ref ax, .int 0 0] }).get? b = some o := fun b o e => Heap.get?_push_of_some _ e
  refine wpAny_pyIter_list hl (h _ _ ⟨⟨_, _, Walks.list hh s.heap.objs.size ax (Nat.ne_of_lt hlt) its, ?_, ?_, list_st, ⟨⟨_, Heap.get?_push_size _ rfl, rfl, rfl⟩, hl.push _⟩⟩, hsz, F.keeps up, N.grown up, ⟨Nat.ne_of_gt F.ns.lt, next_is_new F⟩, fun p hp => Nat.ne_of_lt (Heap.lt_size (N p hp).1)⟩ fun p hp => Heap.lt_size (N p hp).1)
  · intro target i v s Q E st q
    obtain ⟨o, ho, hc, _⟩ := st.1
    exact letGo_any ⟨o, ho, hc⟩ (by decide) q
  · intro i h st
    obtain ⟨o, e, _⟩ := st.1
    exact ⟨o, e⟩
theorem src_range {r : Addr} {a b : Int} {t u v : Tok} {n : Nat} {Q : Value → Shared → Prop} (hh : A.handled = none) (F : Fr h₀ L s.heap m) (N : News h₀ L s.heap news) (hr : IsRange s.heap r a b 1 t u v) (hsm : Builtin.Range.small a b 1 = true) (hn : Builtin.Range.rangeSize a b 1 = ((n : Nat) : Int)) (hsz : n ≤ sizeLine)
    (h : ∀ I h₂, CSrc prog w A h₀ L m (fun _ => True) (fun i v => ∃ t, v = .int (a + (i : Int)) t) n news I h₂ → (∀ p ∈ news, p.1 < I) → Q (.ref I) { s with heap := h₂ }) : wpAny (model prog w) A (pyIter (.ref r)) Q E s := by
  refine wpAny_pyIter_range hr hsm (h _ _ ⟨⟨_, _, range_walks hh a n, ?_, fun i h st => ⟨_, st⟩, range_st, ?_⟩, hsz, F.keeps fun _ _ e => Heap.get?_push_of_some _ e, N.grown fun _ _ e => Heap.get?_push_of_some _ e, ⟨Nat.ne_of_gt F.ns.lt, next_is_new F⟩, fun p hp => Nat.ne_of_lt (Heap.lt_size (N p hp).1)⟩ fun p hp => Heap.lt_size (N p hp).1)
  · intro target i v s Q E st q
    exact letGo_any ⟨_, st, rfl⟩ (by decide) q
  · show IsRangeIter _ _ _ _ _
    rw [hn]; simpa using Heap.get?_push_size _ rfl
variable {K : Type} [DecidableEq K] [BEq K] [LawfulBEq K] {knd : KeyKind prog w K} {kvs : List (K × Value)} {d : Addr} {o : Obj}
theorem src_values {V : Addr} {Q : Value → Shared → Prop} (hh : A.handled = none) (F : Fr h₀ L s.heap m) (N : News h₀ L s.heap news) (hp : (d, o) ∈ news) (hd : o.IsDictOf knd kvs) (hV : s.heap.IsValuesView V d) (hsz : kvs.length ≤ sizeLine)
    (h : ∀ I h₂, CSrc prog w A h₀ L m (fun nw => (d, o) ∈ nw) (fun i v => ∃ k, kvs[i]? = some (k, v)) kvs.length news I h₂ → (∀ p ∈ news, p.1 < I) → Q (.ref I) { s with heap := h₂ }) : wpAny (model prog w) A (pyIter (.ref V)) Q E s := by
  obtain ⟨ep, ha⟩ := KdkAt.of hd
  have hlt : d < s.heap.objs.size := Heap.lt_size (N _ hp).1
  refine wpAny_pyIter_values hV (ha.dictAt (N _ hp).1) (h _ _ ⟨⟨_, _, Walks.dictValues (knd := knd) hh s.heap.objs.size d (Nat.ne_of_lt hlt) kvs ep, ?_, ?_, ?_, ⟨⟨_, Heap.get?_push_size _ rfl, rfl, rfl⟩, ha.dictAt (Heap.get?_push_of_some _ (N _ hp).1)⟩⟩, hsz, F.keeps fun _ _ e => Heap.get?_push_of_some _ e, N.grown fun _ _ e => Heap.get?_push_of_some _ e, ⟨Nat.ne_of_gt F.ns.lt, next_is_new F⟩, fun p hp => Nat.ne_of_lt (Heap.lt_size (N p hp).1)⟩ fun p hp => Heap.lt_size (N p hp).1)
  · intro target i v s Q E st q
    obtain ⟨o, ho, hc, _⟩ := st.1
    exact letGo_any ⟨o, ho, hc⟩ (by decide) q
  · intro i h st
    obtain ⟨o, e, _⟩ := st.1
    exact ⟨o, e⟩
  · intro i h h' oo nw st e e' _ N' hS
    obtain ⟨o1, q1, r1⟩ := st.1
    rw [e] at q1; cases q1
    exact ⟨⟨oo, e', r1⟩, ha.dictAt (N' _ hS).1⟩
end
section
variable {prog : Program} {w : World} {A : Around} {E : Value → Shared → Prop} {s : Shared} {env : Env} {h₀ : Heap} {L : Addr} {m : Str → Option Value} {news : List (Addr × Obj)} {C : Addr} {oC : Obj} {m₂ : Str → Option Value} {g : Obj → List (Addr × Obj)} {scope : Scope} {cl : List (Str × Addr)} {Q : Unit → Shared → Prop}
theorem pair_own {T : Addr} {x y : Str} {px py tp : Pos} {k1} {u v : Value} (hh : A.handled = none)
    (F : Fr h₀ L s.heap m) (N : News h₀ L s.heap news) (U : UpdF C oC news g) (U2 : ∀ o₁, UpdF C o₁ (g o₁) g) (hT : IsTup s.heap T #[u, v]) (hC : NsObj oC m₂) (hx : scope.names.lookup x = some .local) (hy : scope.names.lookup y = some .local) (hkind : scope.kind = .function)
    (h : ∀ h' oC' tk, Fr h₀ L h' m → News h₀ L h' (g oC') → NsObj oC' (fun z => if z = y then some v else if z = x then some u else m₂ z) → Q () { s with heap := h', toks := tk }) :
    wpAny (model prog w) A (assign (.Tuple [.Name x px, .Name y py] k1 tp) (compEnvC scope cl C env) (.ref T)) Q E s := by
  refine unpackN_ F N hT hh (by with_unfolding_all rfl) (by with_unfolding_all rfl) fun h' F' N' => ?_
  show wpAny _ _ (assignInOrder [assign (.Name x px) (compEnvC scope cl C env), assign (.Name y py) (compEnvC scope cl C env)] [u, v]) _ _ _
  refine wpAny_assignInOrder_more ?_
  refine asg_own F' N' U hC hx hkind fun h2 oC2 F2 N2 hC2 => ?_
  refine wpAny_assignInOrder_more ?_
  refine asg_own F2 N2 (U2 oC2) hC2 hy hkind fun h3 oC3 F3 N3 hC3 => ?_
  exact wpAny_assignInOrder_none (h h3 oC3 _ F3 N3 hC3)
end
end
section
open PySem PySem.W PyProof.Rows PySem.Spec PySem.Calls
open LCg
section
variable {prog : Program} {w : World} {A : Around} {E : Value → Shared → Prop} {s : Shared} {env : Env} {h₀ : Heap} {L : Addr} {m : Str → Option Value} {news : List (Addr × Obj)}
end
end
section
open PySem PySem.W PyProof.Rows PySem.Spec PySem.Calls
open LCg
section
variable {prog : Program} {w : World} {A : Around} {E : Value → Shared → Prop} {s : Shared} {env : Env} {h₀ : Heap} {L : Addr} {news : List (Addr × Obj)} {scope : Scope} {cl : List (Str × Addr)}
theorem ld_own {C : Addr} {oC : Obj} {m₂ : Str → Option Value} {x : Str} {pos : Pos} {v : Value} {Q : Value → Shared → Prop} (N : News h₀ L s.heap news) (hm : (C, oC) ∈ news) (hC : NsObj oC m₂) (hv : m₂ x = some v)
    (hx : scope.names.lookup x = some .local) (hkind : scope.kind = .function) (hd : (x == ("__debug__" : Str)) = false) (h : Q v s) : wpAny (model prog w) A (eval (.Name x pos) (compEnvC scope cl C env)) Q E s :=
  wpAny_Name (wpAny_loadName_local (by simp [compEnvC, relabel, hkind]) (lookup_relabel_local hx) (hC.ns (N _ hm).1) hv h) hd
theorem ld_free {c : Addr} {o : Obj} {C : Addr} {x : Str} {pos : Pos} {v : Value} {Q : Value → Shared → Prop} (N : News h₀ L s.heap news) (hx : (compEnvC scope cl C env).kindOf x = some .free) (hc : cl.lookup x = some c) (hm : (c, o) ∈ news) (ho : o.data = .cell (some v))
    (hk : (compEnvC scope cl C env).scope.kind = .function) (hd : (x == ("__debug__" : Str)) = false) (hn : (x == ("__classdict__" : Str)) = false) (h : Q v s) : wpAny (model prog w) A (eval (.Name x pos) (compEnvC scope cl C env)) Q E s :=
  wpAny_Name (wpAny_loadName_free hk hx hc ⟨o, (N _ hm).1, ho⟩ h hn) hd
theorem ld_cell {c : Addr} {o : Obj} {C : Addr} {x : Str} {pos : Pos} {v : Value} {Q : Value → Shared → Prop} (N : News h₀ L s.heap news) (hx : (compEnvC scope cl C env).kindOf x = some .cell) (hc : cl.lookup x = some c) (hm : (c, o) ∈ news) (ho : o.data = .cell (some v))
    (hk : (compEnvC scope cl C env).scope.kind = .function) (hd : (x == ("__debug__" : Str)) = false) (h : Q v s) : wpAny (model prog w) A (eval (.Name x pos) (compEnvC scope cl C env)) Q E s :=
  wpAny_Name (wpAny_loadName_cell hk hx hc ⟨o, (N _ hm).1, ho⟩ h) hd
end
end
section
open PySem PySem.W PyProof.Rows PySem.Spec PySem.Calls
open LCg
theorem own_of {h : Heap} : ∀ {wr : List Addr}, (∀ b ∈ wr, ∃ o, h.get? b = some o) → ∃ own : List (Addr × Obj), own.map (·.1) = wr ∧ ∀ p ∈ own, h.get? p.1 = some p.2
  | [], _ => ⟨[], rfl, fun p hp => absurd hp List.not_mem_nil⟩
  | b :: wr, H => by
    obtain ⟨own, e, k⟩ := own_of fun c hc => H c (.tail _ hc)
    obtain ⟨o, ho⟩ := H b (.head _)
    exact ⟨(b, o) :: own, by rw [List.map_cons, e], List.forall_mem_cons.mpr ⟨ho, k⟩⟩
theorem own1 {I : Addr} {own : List (Addr × Obj)} (h : own.map (·.1) = [I]) : ∃ o, own = [(I, o)] := by
  rcases own with _ | ⟨⟨a, o⟩, _ | ⟨b, r⟩⟩
  · cases h
  · cases h; exact ⟨o, rfl⟩
  · cases h
theorem own2 {e I : Addr} {own : List (Addr × Obj)} (h : own.map (·.1) = [e, I]) : ∃ o o', own = [(e, o), (I, o')] := by
  rcases own with _ | ⟨⟨a, o⟩, _ | ⟨⟨b, o'⟩, _ | ⟨c, r⟩⟩⟩
  · cases h
  · cases h
  · cases h; exact ⟨o, o', rfl⟩
  · cases h
theorem fr_wr {g h h' : Heap} {L : Addr} {wr : List Addr} {m : Str → Option Value} (F : Fr g L h m) (keep : ∀ b o, b ∉ wr → h.get? b = some o → h'.get? b = some o) (hwr : ∀ b ∈ wr, b ≠ L ∧ g.get? b = none) : Fr g L h' m :=
  ⟨F.ns.at' fun o e => keep _ o (fun q => (hwr _ q).1 rfl) e, fun b o e => keep b o (fun q => by rw [(hwr b q).2] at e; cases e) (F.keep b o e), F.above⟩
section
variable {prog : Program} {w : World} {A : Around} {E : Value → Shared → Prop} {s : Shared} {env : Env} {BP : Heap → Prop} {L : Addr} {m : Str → Option Value} {news : List (Addr × Obj)} {target : Expr} {src : List (Addr × Obj)} {P : Nat → Value → Heap → Prop} {n : Nat} {wr : List Addr} {I : Addr}
structure CSrcB (prog : Program) (w : World) (A : Around) (BP : Heap → Prop) (L : Addr) (m : Str → Option Value) (target : Expr) (src : List (Addr × Obj)) (P : Nat → Value → Heap → Prop) (n : Nat) (news : List (Addr × Obj)) (wr : List Addr) (I : Addr) (h : Heap) : Prop where
  it : Ex3 fun fp Md St => Cj5 (KTurns prog w A target I fp wr n P Md St) (∀ b ∈ fp, b ∈ wr ∨ ∃ o, (b, o) ∈ src) (∀ i h, St i h → ∀ b ∈ wr, ∃ o, h.get? b = some o) (St 0 h) (∀ (s : Shared) (Q : Value → Shared → Prop) (E : Value → Shared → Prop), St 0 s.heap → Q (.ref I) s → wpAny (model prog w) A (pyIter (.ref I)) Q E s)
  sz : n ≤ sizeLine
  base : Ex1 fun g => Cj4 (BP g) (Fr g L h m) (News g L h news) (∀ b ∈ wr, b ≠ L ∧ g.get? b = none)
  off : ∀ p ∈ news, p.1 ∉ wr
  sub : ∀ p ∈ src, p ∈ news
noncomputable def CEndB (BP : Heap → Prop) (L : Addr) (m : Str → Option Value) (s₁ : Shared) (own : List (Addr × Obj)) (C D : Addr) (ys : List Value) (Pr : List (Addr × Obj) → Prop) (s₃ : Shared) : Prop :=
  Ex6 fun g h' tk oC m₂ nw => Cj7 (s₃ = { s₁ with heap := h', toks := tk }) (BP g) (Fr g L h' m) (News g L h' (own ++ (C, oC) :: (D, lst ys) :: nw)) (NsObj oC m₂) (∀ p ∈ nw, p.1 ≠ C ∧ p.1 ≠ D ∧ p.1 ∉ own.map (·.1)) (Pr nw)
noncomputable def CTurnB (prog : Program) (w : World) (A : Around) (BP : Heap → Prop) (L : Addr) (m : Str → Option Value) (s : Shared) (elt target : Expr) (ifs : List Expr) (cenv : Env) (wr : List Addr) (C D : Addr) (P : Nat → Value → Heap → Prop) (Rel : Nat → List Value → List (Addr × Obj) → Prop) (n : Nat) : Prop :=
  ∀ i v g h tk own oC m₂ ys nw, i < n → P i v h → BP g → Fr g L h m → News g L h (own ++ (C, oC) :: (D, lst ys) :: nw) → own.map (·.1) = wr → NsObj oC m₂ → (∀ p ∈ nw, p.1 ≠ C ∧ p.1 ≠ D ∧ p.1 ∉ wr) → ((@Ne Nat C D) ∧ C ∉ wr ∧ D ∉ wr) → Rel i ys nw →
    wpAny (model prog w) A (assign target cenv v) (fun _ s₂ =>
      wpAny (model prog w) A (forIn ifs true fun c r => if r = true then do let ok ← isTrue c cenv (eval c cenv); pure (ForInStep.yield ok) else pure (ForInStep.yield r)) (fun ok s₃ =>
        if ok = true then wpAny (model prog w) A (eval elt cenv) (fun y s₄ => CEndB BP L m { s with heap := h, toks := tk } own C D ys (Rel (i + 1) (ys ++ [y])) s₄) (fun _ _ => False) s₃
        else CEndB BP L m { s with heap := h, toks := tk } own C D ys (Rel (i + 1) ys) s₃) (fun _ _ => False) s₂) (fun _ _ => False) { s with heap := h, toks := tk }
theorem compLoop_k {elt iter : Expr} {ifs : List Expr} {scope : Scope} {pos : Pos} {D : Addr} {fp : List Addr} {Md : Nat → Value → Heap → Prop} {St : Nat → Heap → Prop} {R : Result → Shared → Prop}
    (J : Nat → Shared → Prop) (W : KTurns prog w A target I fp wr n P Md St) (hSt : ∀ i s', J i s' → St i s'.heap) (j0 : J 0 s)
    (step : ∀ i s' v h' tk, i < n → J i s' → P i v h' → St (i + 1) h' → (∀ b o, b ∉ wr → s'.heap.get? b = some o → h'.get? b = some o) →
      wpAny (model prog w) A (assign target env v) (fun _ s₂ =>
          wpAny (model prog w) A (forIn ifs true fun c r => if r = true then do let ok ← isTrue c env (eval c env); pure (ForInStep.yield ok) else pure (ForInStep.yield r)) (fun ok s₃ =>
            if ok = true then wpAny (model prog w) A (eval elt env) (fun x s₄ =>
              wpAny (model prog w) A (call (.builtin "list.append") [.ref D, x]) (fun _ s₅ => J (i + 1) s₅) (fun _ _ => False) s₄) (fun _ _ => False) s₃
            else J (i + 1) s₃) (fun _ _ => False) s₂) (fun _ _ => False) { s' with heap := h', toks := tk })
    (done : ∀ s' h' tk, J n s' → (∀ b o, b ∉ wr → s'.heap.get? b = some o → h'.get? b = some o) → R (.ok .next) { s' with heap := h', toks := tk }) :
    codeAny (model prog w) A (.compLoop (.ListComp elt [⟨target, iter, ifs, 0⟩] scope pos) 0 (.ref I) (.ref D) env) R s := by
  refine codeAny_loop rfl (fun k s' => ∃ i, J i s' ∧ i ≤ n ∧ k = n + 1 - i) (fun k s' hI => ?_) (n + 1) ⟨0, j0, Nat.zero_le _, rfl⟩
  obtain ⟨i, hJ, hi, rfl⟩ := hI
  show wpAny _ A ((compTurn (.ListComp elt [⟨target, iter, ifs, 0⟩] scope pos) 0 (.ref I) (.ref D) env).onRaise (fun x => do noteFrame x env; theTreesLotGoes x)) _ _ _
  refine wpAny_noted ?_
  rw [compTurn_list]
  refine wpAny_bind (wpAny_standAt (wpAny_bind ?_))
  by_cases hlt : i < n
  · refine W.item i _ _ _ hlt (hSt i s' hJ) fun v h₁ tk₁ hM hk₁ => ?_
    dsimp only
    refine wpAny_bind (W.go i v _ _ _ hM fun h₂ hP st₂ hk₂ => ?_)
    refine wpAny_bind (wpAny_mono (step i s' v h₂ tk₁ hlt hJ hP st₂ fun b o hb e => hk₂ b o hb (hk₁ b o hb e)) (fun _ s₂ h₂ => wpAny_bind (wpAny_mono h₂ (fun ok s₃ h₃ => ?_) fun _ _ h' => h'.elim)) fun _ _ h' => h'.elim)
    cases ok with
    | false => exact wpAny_pure ⟨rfl, n + 1 - (i + 1), by lia, i + 1, h₃, hlt, rfl⟩
    | true =>
      exact wpAny_bind (wpAny_bind (wpAny_mono h₃ (fun x s₄ h₄ => wpAny_bind (wpAny_mono h₄ (fun _ s₅ h₅ => wpAny_pure (wpAny_pure ⟨rfl, n + 1 - (i + 1), by lia, i + 1, h₅, hlt, rfl⟩)) fun _ _ h' => h'.elim)) fun _ _ h' => h'.elim))
  · obtain rfl : i = n := Nat.le_antisymm hi (Nat.not_lt.mp hlt)
    exact W.done _ _ _ (hSt _ _ hJ) fun h₁ tk₁ hk₁ => wpAny_pure (done s' h₁ tk₁ hJ hk₁)
theorem st_moves {fp : List Addr} {Md : Nat → Value → Heap → Prop} {St : Nat → Heap → Prop} {own nw nw' all all' : List (Addr × Obj)} {g g' h h' : Heap} {i : Nat} (W : KTurns prog w A target I fp wr n P Md St) (hfp : ∀ b ∈ fp, b ∈ wr ∨ ∃ o, (b, o) ∈ src)
    (ho : own.map (·.1) = wr) (N : News g L h all) (N' : News g' L h' all') (s1 : ∀ p ∈ own, p ∈ all) (s2 : ∀ p ∈ own, p ∈ all') (r1 : ∀ p ∈ src, p ∈ all) (r2 : ∀ p ∈ src, p ∈ all') (st : St i h) : St i h' := by
  have one : ∀ p : Addr × Obj, p ∈ all → p ∈ all' → ∀ o, h.get? p.1 = some o → h'.get? p.1 = some o := fun p h1 h2 o e => by
    rw [(N p h1).1] at e; cases e; exact (N' p h2).1
  refine W.frame i h h' st fun b hb o e => ?_
  rcases hfp b hb with hb | ⟨q, hq⟩
  · rw [← ho] at hb
    obtain ⟨p, hp, rfl⟩ := List.mem_map.mp hb
    exact one p (s1 p hp) (s2 p hp) o e
  · exact one (b, q) (r1 _ hq) (r2 _ hq) o e
theorem compB_core {elt iter : Expr} {ifs : List Expr} {scope : Scope} {pos : Pos} {C D : Addr} {fp : List Addr} {Md : Nat → Value → Heap → Prop} {St : Nat → Heap → Prop} {Rel : Nat → List Value → List (Addr × Obj) → Prop} {R : Result → Shared → Prop} {cenv : Env} {oC : Obj} {m₂ : Str → Option Value} {g0 : Heap}
    (W : KTurns prog w A target I fp wr n P Md St) (hsz : n ≤ sizeLine) (hfp : ∀ b ∈ fp, b ∈ wr ∨ ∃ o, (b, o) ∈ src) (hwo : ∀ i h, St i h → ∀ b ∈ wr, ∃ o, h.get? b = some o)
    (hst : St 0 s.heap) (B : BP g0) (F : Fr g0 L s.heap m) (N : News g0 L s.heap ((C, oC) :: (D, lst []) :: news)) (hwr : ∀ b ∈ wr, b ≠ L ∧ g0.get? b = none) (hC : NsObj oC m₂) (off : ∀ p ∈ news, p.1 ≠ C ∧ p.1 ≠ D ∧ p.1 ∉ wr) (ne : (@Ne Nat C D) ∧ C ∉ wr ∧ D ∉ wr)
    (hS : ∀ i ys nw, Rel i ys nw → ∀ p ∈ src, p ∈ nw) (hR0 : Rel 0 [] news) (turn : CTurnB prog w A BP L m s elt target ifs cenv wr C D P Rel n)
    (done : ∀ g h tk ys oC m' nw, BP g → Fr g L h m → News g L h ((C, oC) :: (D, lst ys) :: nw) → NsObj oC m' → (∀ p ∈ nw, p.1 ≠ C ∧ p.1 ≠ D) → Rel n ys nw → R (.ok .next) { s with heap := h, toks := tk }) :
    codeAny (model prog w) A (.compLoop (.ListComp elt [⟨target, iter, ifs, 0⟩] scope pos) 0 (.ref I) (.ref D) cenv) R s := by
  refine compLoop_k (fun i s' => Ex7 fun g h' tk ys oC m' nw => Cj9 (s' = { s with heap := h', toks := tk }) (ys.length ≤ i ∧ ∀ b ∈ wr, b ≠ L ∧ g.get? b = none) (St i h') (BP g) (Fr g L h' m) (News g L h' ((C, oC) :: (D, lst ys) :: nw)) (NsObj oC m') (∀ p ∈ nw, p.1 ≠ C ∧ p.1 ≠ D ∧ p.1 ∉ wr) (Rel i ys nw)) W ?_ ?_ ?_ ?_
  · rintro i s' ⟨g, h', tk, ys, oC, m', nw, rfl, _, hst, _⟩
    exact hst
  · exact ⟨g0, s.heap, s.toks, [], oC, m₂, news, rfl, ⟨Nat.le_refl _, hwr⟩, hst, B, F, N, hC, off, hR0⟩
  · rintro i s' v h' tk' hi ⟨g, h1, tk, ys, oC, m', nw, rfl, ⟨hyl, hwr1⟩, hst1, B1, F1, N1, hC1, off1, hRel⟩ hP hst' keep
    have F2 : Fr g L h' m := fr_wr F1 keep hwr1
    obtain ⟨own, how, hog⟩ := own_of (hwo _ _ hst')
    have N2 : News g L h' (own ++ (C, oC) :: (D, lst ys) :: nw) := fun p hp => by
      rcases List.mem_append.mp hp with hp | hp
      · exact ⟨hog p hp, hwr1 p.1 (by rw [← how]; exact List.mem_map_of_mem hp)⟩
      · refine ⟨keep _ _ ?_ (N1 p hp).1, (N1 p hp).2⟩
        rcases List.mem_cons.mp hp with rfl | hp
        · exact ne.2.1
        rcases List.mem_cons.mp hp with rfl | hp
        · exact ne.2.2
        · exact (off1 p hp).2.2
    have sN : ∀ {ys : List Value} {oC : Obj} {nw : List (Addr × Obj)}, ∀ p ∈ own, p ∈ own ++ (C, oC) :: (D, lst ys) :: nw := fun p hp => List.mem_append_left _ hp
    have rN : ∀ {ys : List Value} {oC : Obj} {nw : List (Addr × Obj)}, (∀ p ∈ src, p ∈ nw) → ∀ p ∈ src, p ∈ own ++ (C, oC) :: (D, lst ys) :: nw := fun k p hp => List.mem_append_right _ (.tail _ (.tail _ (k p hp)))
    refine wpAny_mono (turn i v g h' tk' own oC m' ys nw hi hP B1 F2 N2 how hC1 off1 ne hRel) (fun _ s₂ h₂ => wpAny_mono h₂ (fun ok s₃ h₃ => ?_) fun _ _ e => e) fun _ _ e => e
    cases ok with
    | false =>
      obtain ⟨g3, h3, tk3, oC3, m3, nw3, rfl, B3, F3, N3, hC3, off3, hR3⟩ := h₃
      refine ⟨g3, h3, tk3, ys, oC3, m3, nw3, rfl, ⟨Nat.le_succ_of_le hyl, fun b hb => ?_⟩, st_moves (nw := nw) (nw' := nw3) W hfp how N2 N3 sN sN (rN (hS _ _ _ hRel)) (rN (hS _ _ _ hR3)) hst', B3, F3, fun p hp => N3 p (List.mem_append_right _ hp), hC3, how ▸ off3, hR3⟩
      rw [← how] at hb
      obtain ⟨p, hp, rfl⟩ := List.mem_map.mp hb
      exact (N3 p (sN p hp)).2
    | true =>
      refine wpAny_mono (show wpAny _ _ _ _ _ _ from h₃) (fun y s₄ h₄ => ?_) fun _ _ e => e
      obtain ⟨g3, h3, tk3, oC3, m3, nw3, rfl, B3, F3, N3, hC3, off3, hR3⟩ := h₄
      have qD := N3 (D, lst ys) (List.mem_append_right _ (.tail _ List.mem_cons_self))
      refine append_at (hsz := by show ys.toArray.size ≤ sizeLine; rw [List.size_toArray]; lia) qD.1 fun h₅ hs₅ hD₅ => ?_
      have F5 : Fr g3 L h₅ m := F3.change hs₅ qD.2.1 qD.2.2
      have N5 : News g3 L h₅ (own ++ (C, oC3) :: (D, lst (ys ++ [y])) :: nw3) := fun p hp => by
        rcases List.mem_append.mp hp with hp | hp
        · have z := N3 p (sN p hp)
          exact ⟨hs₅.extBut _ _ (fun q => ne.2.2 (by rw [← how, ← q]; exact List.mem_map_of_mem hp)) z.1, z.2⟩
        rcases List.mem_cons.mp hp with rfl | hp
        · have z := N3 (C, oC3) (List.mem_append_right _ List.mem_cons_self)
          exact ⟨hs₅.extBut _ _ ne.1 z.1, z.2⟩
        rcases List.mem_cons.mp hp with rfl | hp
        · exact ⟨hD₅.trans (congrArg some (lst_snoc ys y)), qD.2⟩
        · have z := N3 p (List.mem_append_right _ (.tail _ (.tail _ hp)))
          exact ⟨hs₅.extBut _ _ (off3 p hp).2.1 z.1, z.2⟩
      refine ⟨g3, h₅, tk3, ys ++ [y], oC3, m3, nw3, rfl, ⟨by simp; lia, fun b hb => ?_⟩, st_moves (nw := nw) (nw' := nw3) W hfp how N2 N5 sN sN (rN (hS _ _ _ hRel)) (rN (hS _ _ _ hR3)) hst', B3, F5, fun p hp => N5 p (List.mem_append_right _ hp), hC3, how ▸ off3, hR3⟩
      rw [← how] at hb
      obtain ⟨p, hp, rfl⟩ := List.mem_map.mp hb
      exact (N3 p (sN p hp)).2
  · rintro s' h' tk' ⟨g, h1, tk, ys, oC, m', nw, rfl, ⟨hyl, hwr1⟩, hst1, B1, F1, N1, hC1, off1, hRel⟩ keep
    refine done g h' tk' ys oC m' nw B1 (fr_wr F1 keep hwr1) (fun p hp => ⟨keep _ _ ?_ (N1 p hp).1, (N1 p hp).2⟩) hC1 (fun p hp => ⟨(off1 p hp).1, (off1 p hp).2.1⟩) hRel
    rcases List.mem_cons.mp hp with rfl | hp
    · exact ne.2.1
    rcases List.mem_cons.mp hp with rfl | hp
    · exact ne.2.2
    · exact (off1 p hp).2.2
noncomputable def CRestB (prog : Program) (w : World) (A : Around) (BP : Heap → Prop) (L : Addr) (m : Str → Option Value) (env : Env) (elt target : Expr) (ifs : List Expr) (scope : Scope) (cl : List (Str × Addr)) (src : List (Addr × Obj)) (P : Nat → Value → Heap → Prop) (n : Nat) (news : List (Addr × Obj)) (wr : List Addr) (s : Shared)
    (Fin : Addr → Addr → Shared → Prop) : Prop :=
  ∀ (D C : Addr) (s₃ : Shared), (∃ h, s₃ = { s with heap := h }) → (∀ p ∈ news, p.1 < D) → D < C → (Ex1 fun (Rel : Nat → List Value → List (Addr × Obj) → Prop) => Cj4 (∀ i ys nw, Rel i ys nw → ∀ p ∈ src, p ∈ nw) (Rel 0 [] (cellNews scope C ++ news)) (CTurnB prog w A BP L m s₃ elt target ifs (compEnvC scope (cellsFrom (C + 1) scope.names cl) C env) wr C D P Rel n)
    (∀ g h tk ys oC m' nw, BP g → Fr g L h m → News g L h ((C, oC) :: (D, lst ys) :: nw) → NsObj oC m' → (∀ p ∈ nw, p.1 ≠ C ∧ p.1 ≠ D) → (@Ne Nat C D) → Rel n ys nw → Fin D C { s₃ with heap := h, toks := tk }))
theorem compB_eval {elt iter : Expr} {ifs : List Expr} {scope : Scope} {cl : List (Str × Addr)} {pos : Pos} {Q : Value → Shared → Prop}
    (hclos : closureFor scope env = pure cl) (hkind : scope.kind = .function) (hnames : ∀ y ∈ scope.names, y.2 = .local → scope.names.lookup y.1 = some .local)
    (h : wpAny (model prog w) A (eval iter env) (fun xv s₁ => wpAny (model prog w) A (pyIter xv) (fun it s₂ => Ex8 fun BP L m I src P n news => Ex1 fun wr => Cj3 (it = .ref I) (CSrcB prog w A BP L m target src P n news wr I s₂.heap) (CRestB prog w A BP L m env elt target ifs scope cl src P n news wr s₂ (fun D C s' => ∃ m', s'.heap.Ns C m' ∧ ∀ h', Heap.SameBut C s'.heap h' → Q (.ref D) { s' with heap := h' }))) E s₁) E s)
    (hs : ∀ x, foldedSetIterable iter env x = pure x := by intro _; rfl) :
    wpAny (model prog w) A (eval (.ListComp elt [⟨target, iter, ifs, 0⟩] scope pos) env) Q E s := by
  rw [eval_ListComp]
  refine wpAny_comprehension_free (use := none) rfl hs hclos hkind hnames (wpAny_mono h (fun xv s₁ h₁ => wpAny_mono h₁ (fun it s₂ h₂ => ?_) fun _ _ e => e) fun _ _ e => e)
  obtain ⟨BP, L, m, I, src, P, n, news, wr, rfl, src', rest⟩ := h₂
  obtain ⟨⟨fp, Md, St, W, hfp, hwo, hst, self⟩, hsz, ⟨g0, B, F, N, hwr⟩, off, hsub⟩ := src'
  refine wpAny_newObj_type (newFunctionEnv_comp fun h₁ oC hn hns e3 hcells => ?_)
  have hsz2 : ({ s₂ with heap := s₂.heap.push { cls := .type "list", dict := none, data := .seq ([] : List Value).toArray } } : Shared).heap.objs.size = s₂.heap.objs.size + 1 := Heap.size_push ..
  rw [hsz2] at hn hcells ⊢
  have keep : ∀ b o, s₂.heap.get? b = some o → h₁.get? b = some o := fun b o e => e3 b o (Heap.get?_push_of_some _ e)
  have hl : h₁.get? s₂.heap.objs.size = some (lst []) := e3 _ _ (Heap.get?_push_size _ rfl)
  obtain ⟨D, hD⟩ : ∃ D, D = s₂.heap.objs.size := ⟨_, rfl⟩
  rw [← hD] at hn hcells hl ⊢
  have hDC : @LT.lt Nat _ D (D + 1) := Nat.lt_succ_self _
  obtain ⟨Rel, hS, hR0, turn, fin⟩ := rest D (D + 1) { s₂ with heap := h₁ } ⟨h₁, rfl⟩ (fun p hp => by rw [hD]; exact Heap.lt_size (N p hp).1) hDC
  have hwlt : ∀ b ∈ wr, @LT.lt Nat _ b D := fun b hb => by
    obtain ⟨o, ho⟩ := hwo _ _ hst b hb
    rw [hD]; exact Heap.lt_size ho
  have fresh₀ : ∀ a, @LE.le Nat _ D a → a ≠ L ∧ g0.get? a = none := fun a ha => ⟨Nat.ne_of_gt (Nat.lt_of_lt_of_le (hD ▸ F.ns.lt) ha), ktu_new F (hD ▸ ha)⟩
  have cz : ∀ p ∈ cellNews scope (D + 1), h₁.get? p.1 = some p.2 ∧ D + 1 < p.1 := fun p hp => by
    obtain ⟨q, hq, e⟩ := List.mem_map.mp hp
    subst e
    exact hcells q.1 q.2 hq
  have loop : codeAny (model prog w) A (.compLoop (.ListComp elt [⟨target, iter, ifs, 0⟩] scope pos) 0 (.ref I) (.ref D) (compEnvC scope (cellsFrom (D + 1 + 1) scope.names cl) (D + 1) env)) (compPost (model prog w) A E none Q (.ref D) (D + 1)) { s₂ with heap := h₁ } := by
    refine compB_core W hsz hfp hwo (W.frame _ _ _ hst fun b _ o e => keep b o e) B (F.keeps keep) (news := cellNews scope (D + 1) ++ news) (fun p hp => ?_) hwr hns (fun p hp => ?_) ⟨Nat.ne_of_gt hDC, fun q => absurd (hwlt _ q) (by lia), fun q => absurd (hwlt _ q) (Nat.lt_irrefl _)⟩ hS hR0 turn fun g h tk ys oC m' nw B F N hC off hR => fin g h tk ys oC m' nw B F N hC off (Nat.ne_of_gt hDC) hR
    · rcases List.mem_cons.mp hp with rfl | hp
      · exact ⟨hn, fresh₀ _ (Nat.le_of_lt hDC)⟩
      rcases List.mem_cons.mp hp with rfl | hp
      · exact ⟨hl, fresh₀ _ (Nat.le_refl _)⟩
      rcases List.mem_append.mp hp with hp | hp
      · exact ⟨(cz p hp).1, fresh₀ _ (Nat.le_of_lt (Nat.lt_trans hDC (cz p hp).2))⟩
      · exact ⟨keep _ _ (N p hp).1, (N p hp).2⟩
    · rcases List.mem_append.mp hp with hp | hp
      · have z := (cz p hp).2
        exact ⟨Nat.ne_of_gt z, Nat.ne_of_gt (Nat.lt_trans hDC z), fun q => absurd (hwlt _ q) (by have : @LT.lt Nat _ D p.1 := Nat.lt_trans hDC z; lia)⟩
      · have z : @LT.lt Nat _ p.1 D := by rw [hD]; exact Heap.lt_size (N p hp).1
        exact ⟨Nat.ne_of_lt (Nat.lt_trans z hDC), Nat.ne_of_lt z, off p hp⟩
  exact codeAny_compStart_list loop (self _ _ _ (W.frame _ _ _ hst fun b _ o e => keep b o e) loop)
theorem srcB_list {ax : Addr} {vs : List Value} {k : Nat} {g : Heap} {Q : Value → Shared → Prop} (hh : A.handled = none) (B : BP g) (F : Fr g L s.heap m) (N : News g L s.heap news) (hm : (ax, listOf vs.toArray k) ∈ news) (hsz : vs.length ≤ sizeLine)
    (h : ∀ I h₂, (∀ target, CSrcB prog w A BP L m target [(ax, listOf vs.toArray k)] (fun i v _ => vs[i]? = some v) vs.length news [I] I h₂) → (∀ p ∈ news, p.1 < I) → Q (.ref I) { s with heap := h₂ }) : wpAny (model prog w) A (pyIter (.ref ax)) Q E s := by
  have hl : s.heap.IsList ax vs.toArray := N.isList hm
  have hlt : ax < s.heap.objs.size := by obtain ⟨_, e, _⟩ := hl; exact Heap.lt_size e
  have up : ∀ b o, s.heap.get? b = some o → (s.heap.push { cls := .type "list_iterator", data := .fields #[.ref ax, .int 0 0] }).get? b = some o := fun b o e => Heap.get?_push_of_some _ e
  have W := Walks.list (prog := prog) (w := w) hh s.heap.objs.size ax (Nat.ne_of_lt hlt) vs.toArray
  rw [List.size_toArray] at W
  refine wpAny_pyIter_list hl (h _ _ (fun target => ?_) fun p hp => Heap.lt_size (N p hp).1)
  have K := KTurns.ofWalks (target := target) W fun i v s Q E st q => by
    obtain ⟨o, ho, hc, _⟩ := st.1
    exact letGo_any ⟨o, ho, hc⟩ (by decide) q
  have K2 : KTurns prog w A target s.heap.objs.size [s.heap.objs.size, ax] [s.heap.objs.size] vs.length (fun i v _ => vs[i]? = some v) (fun i v h => vs.toArray[i]? = some v ∧ (h.IsListIter s.heap.objs.size ax (i + 1) ∧ h.IsList ax vs.toArray)) (fun i h => h.IsListIter s.heap.objs.size ax i ∧ h.IsList ax vs.toArray) :=
    ⟨K.sub, K.frame, K.item, fun i v s Q E hm hQ => K.go i v s Q E hm fun h' hP st hk => hQ h' (by simpa using hP) st hk, K.done⟩
  refine ⟨⟨_, _, _, K2, ?_, ?_, ⟨⟨_, Heap.get?_push_size _ rfl, rfl, rfl⟩, hl.push _⟩, ?_⟩, hsz, ⟨g, B, F.keeps up, N.grown up, ?_⟩, ?_, ?_⟩
  · intro b hb
    rcases List.mem_cons.mp hb with rfl | hb
    · exact .inl (.head _)
    · rw [List.mem_singleton.mp hb]; exact .inr ⟨_, .head _⟩
  · intro i h st b hb
    rw [List.mem_singleton.mp hb]
    obtain ⟨o, e, _⟩ := st.1
    exact ⟨o, e⟩
  · exact fun s Q E st hq => W.self 0 s Q E st hq
  · intro b hb
    rw [List.mem_singleton.mp hb]
    exact ⟨Nat.ne_of_gt F.ns.lt, next_is_new F⟩
  · intro p hp q
    exact absurd (Heap.lt_size (N p hp).1) (by rw [List.mem_singleton.mp q]; exact Nat.lt_irrefl _)
  · intro p hp
    rw [List.mem_singleton.mp hp]; exact hm
theorem srcB_enum {ax : Addr} {vs : List Value} {nl : Nat} {g : Heap} {Q : Value → Shared → Prop} (hh : A.handled = none) (B : BP g) (F : Fr g L s.heap m) (N : News g L s.heap news) (hm : (ax, listOf vs.toArray nl) ∈ news) (hsz : vs.length ≤ sizeLine)
    (h : ∀ e I h₂, (∀ elts k pos, CSrcB prog w A BP L m (.Tuple elts k pos) [(ax, listOf vs.toArray nl)] (fun i v h => Ex3 fun T t x => Cj3 (v = .ref T) (IsTup h T #[.int (i : Nat) t, x]) (vs[i]? = some x)) vs.length news [e, I] e h₂) → (∀ p ∈ news, p.1 < I ∧ p.1 < e) → (@Ne Nat e I) → Q (.ref e) { s with heap := h₂ }) :
    wpAny (model prog w) A (call (.type "enumerate") [.ref ax]) (fun xv s₁ => wpAny (model prog w) A (pyIter xv) Q E s₁) E s := by
  have hax := N _ hm
  have hl : s.heap.IsList ax vs.toArray := N.isList hm
  have hlt : ax < s.heap.objs.size := Heap.lt_size hax.1
  have hLs : L < s.heap.objs.size := F.ns.lt
  refine call_enumerate_list hl fun h' hE hI hsz' hk => ?_
  refine wpAny_pyIter_enum hE (h _ s.heap.objs.size _ (fun elts k pos => ?_) ?_ (Nat.succ_ne_self _))
  rotate_left
  · intro p hp
    have z : @LT.lt Nat _ p.1 s.heap.objs.size := Heap.lt_size (N p hp).1
    exact ⟨z, Nat.lt_succ_of_lt z⟩
  have W := WalksT.enumerate (prog := prog) (w := w) (A := A) hh (s.heap.objs.size + 1) s.heap.objs.size ax (Nat.succ_ne_self _) (ktu_ne 1 hlt) (Nat.ne_of_lt hlt) vs.toArray
  have K := KTurns.ofWalksU (elts := elts) (k := k) (pos := pos) W.toU
  rw [List.size_toArray] at K
  refine ⟨⟨_, _, _, ⟨K.sub, K.frame, K.item, fun i v s Q E hm hQ => K.go i v s Q E hm fun h' hP st hk => hQ h' ?_ st hk, K.done⟩, ?_, ?_, ⟨⟨_, hE⟩, hI, hl.at fun o e => hk _ _ e⟩, ?_⟩, hsz, ⟨g, B, F.keeps hk, N.grown hk, ?_⟩, ?_, ?_⟩
  · obtain ⟨T, vals, rfl, ⟨t, x, hx, rfl⟩, hT⟩ := hP
    exact ⟨T, t, x, rfl, hT, by simpa using hx⟩
  · intro b hb
    rcases List.mem_cons.mp hb with rfl | hb
    · exact .inl (.head _)
    rcases List.mem_cons.mp hb with rfl | hb
    · exact .inl (.tail _ (.head _))
    · rw [List.mem_singleton.mp hb]; exact .inr ⟨_, .head _⟩
  · intro i h st b hb
    obtain ⟨⟨old, he⟩, ⟨oi, hoi, _⟩, _⟩ := st
    rcases List.mem_cons.mp hb with rfl | hb
    · exact ⟨_, he⟩
    · rw [List.mem_singleton.mp hb]; exact ⟨_, hoi⟩
  · exact fun s Q E st hq => W.self 0 s Q E st hq
  · intro b hb
    rcases List.mem_cons.mp hb with rfl | hb
    · exact ⟨Nat.ne_of_gt (Nat.lt_succ_of_lt hLs), ktu_new F (Nat.le_add_right _ _)⟩
    · rw [List.mem_singleton.mp hb]; exact ⟨Nat.ne_of_gt hLs, ktu_new F (Nat.le_refl _)⟩
  · intro p hp q
    have z : @LT.lt Nat _ p.1 s.heap.objs.size := Heap.lt_size (N p hp).1
    rcases List.mem_cons.mp q with q | q
    · lia
    · have q := List.mem_singleton.mp q
      lia
  · intro p hp
    rw [List.mem_singleton.mp hp]; exact hm
end
end
section
open PySem PySem.W PyProof.Rows PySem.Spec PySem.Calls
open LCg
section
variable {prog : Program} {w : World} {A : Around} {E : Value → Shared → Prop} {s : Shared} {env : Env} {h₀ : Heap} {L : Addr} {m : Str → Option Value} {news : List (Addr × Obj)} {C c : Addr} {g : Obj → List (Addr × Obj)} {scope : Scope} {cl : List (Str × Addr)} {Q : Unit → Shared → Prop}
theorem asg_cell {o : Obj} {v₀ : Option Value} {x : Str} {px : Pos} {v : Value}
    (F : Fr h₀ L s.heap m) (N : News h₀ L s.heap news) (U : UpdF c o news g) (hd : o.data = .cell v₀) (hc : cl.lookup x = some c) (hk : (compEnvC scope cl C env).scope.kind = .function) (hx : (compEnvC scope cl C env).kindOf x = some .cell)
    (h : ∀ h' o', Fr h₀ L h' m → News h₀ L h' (g o') → o'.data = .cell (some v) → Q () { s with heap := h' }) :
    wpAny (model prog w) A (assign (.Name x px) (compEnvC scope cl C env) v) Q E s := by
  obtain ⟨pre, post, rfl, hg, a, b⟩ := U.split
  have z := N (c, o) (List.mem_append_right _ (.head _))
  refine wpAny_assign_Name (wpAny_storeName_cell hk hx hc ⟨o, z.1, hd⟩ fun h₃ hn₃ hs₃ => ?_)
  obtain ⟨o', heC, hoC⟩ := hn₃
  exact h h₃ o' (F.change hs₃ z.2.1 z.2.2) (hg o' ▸ N.setIn a b hs₃ heC) hoC
end
end
section
open PySem PySem.W PyProof.Rows PySem.Spec PySem.Calls
section
variable {prog : Program} {w : World} {A : Around} {E : Value → Shared → Prop} {s : Shared} {h₀ : Heap} {L : Addr} {m : Str → Option Value} {news : List (Addr × Obj)}
theorem sorted_tup {T : Addr} {vs : List Value} {ns : List Int} {n : Nat} {Q : Value → Shared → Prop} (F : Fr h₀ L s.heap m) (N : News h₀ L s.heap news) (hT : (T, ({ cls := .type "tuple", data := .seq vs.toArray n } : Obj)) ∈ news) (hI : IntsAre vs ns) (h64 : vs.length < 64)
    (h : ∀ D h' vs' ns' e, Fr h₀ L h' m → News h₀ L h' ((D, listOf (List.toArray vs') e) :: news) → (∀ p ∈ news, @LT.lt Nat _ p.1 D) → IntsAre vs' ns' → ns'.Perm ns → ns'.Pairwise (· ≤ ·) → Q (.ref D) { s with heap := h' }) :
    wpAny (model prog w) A (call (.builtin "sorted") [.ref T]) Q E s := by
  refine Calls.call_function_entry kind_sorted plain_sorted entry_sorted (args_sorted1 _) ?_
  unfold Builtin.«sorted»
  refine wpAny_bind (m := checkCount "sorted" 1 1 _) (wpAny_pure ?_)
  refine wpAny_bind (wpAny_collect_seq T (.inr rfl) (N _ hT).1 rfl rfl (fun h1 hk1 => ?_) (by rw [List.size_toArray, sizeLine_eq]; lia))
  refine wpAny_bind (wpAny_newList ?_ (by rw [sizeLine_eq]; lia))
  have hlt : ∀ p ∈ news, @LT.lt Nat _ p.1 h1.objs.size := fun p hp => Heap.lt_size (hk1 _ _ (N p hp).1)
  have F1 := F.keeps hk1
  have hnew : @Ne Nat h1.objs.size L ∧ h₀.get? h1.objs.size = none := ⟨Nat.ne_of_gt F1.ns.lt, next_is_new F1⟩
  show wpAny _ _ _ _ _ { s with heap := h1.push (seqObj "list" vs.toArray 0) }
  have hoL : (h1.push (seqObj "list" vs.toArray 0)).get? h1.objs.size = some (seqObj "list" vs.toArray 0) := Heap.get?_push_size _ rfl
  have keep : ∀ out b o, s.heap.get? b = some o → (sortedHeap (h1.push (seqObj "list" vs.toArray 0)) h1.objs.size vs out).get? b = some o := fun out b o e => by
    have e1 := hk1 b o e
    have l1 : @LT.lt Nat _ b h1.objs.size := Heap.lt_size e1
    rw [sortedHeap_old (Nat.ne_of_lt l1) (by rw [size_push']; exact Nat.lt_succ_of_lt l1)]
    exact Heap.get?_push_of_some _ e1
  refine wpAny_bind (wpAny_holding (wpAny_call_entry slot_list_sort ⟨_, hoL, rfl⟩ entry_list_sort (list_sort_tree hoL hI h64 fun out ns' a1 a2 a3 => ⟨_, rfl, ?_⟩) (args_list_sort _)))
  refine wpAny_pure ⟨_, rfl, ?_⟩
  obtain ⟨e, he⟩ := sortedHeap_at (vs := vs) (out := out) hoL
  refine h _ _ out.toList ns' e (F.keeps (keep out)) (fun p hp => ?_) hlt a1 a2 a3
  rcases List.mem_cons.mp hp with rfl | hp
  · exact ⟨by rw [Array.toArray_toList]; exact he, hnew⟩
  · exact ⟨keep out _ _ (N p hp).1, (N p hp).2⟩
end
theorem turn_get {g g' : Heap} (K : KtsTurn [] g g') (b : Addr) : g'.get? b = g.get? b := by
  cases e : g.get? b with
  | none => exact K.none_ b e
  | some o => exact K.other b o e List.not_mem_nil
theorem Fr.back {g g' h : Heap} {L : Addr} {m : Str → Option Value} (K : KtsTurn [] g g') (F : Fr g' L h m) : Fr g L h m := ⟨F.ns, fun b o e => F.keep b o ((turn_get K b).trans e), by rw [← K.size]; exact F.above⟩
theorem News.back {g g' h : Heap} {L : Addr} {nw : List (Addr × Obj)} (K : KtsTurn [] g g') (N : News g' L h nw) : News g L h nw := fun p hp => ⟨(N p hp).1, (N p hp).2.1, (turn_get K p.1).symm.trans (N p hp).2.2⟩
theorem sorted_unique {as bs : List Int} (p : as.Perm bs) (ha : as.Pairwise (· ≤ ·)) (hb : bs.Pairwise (· ≤ ·)) : as = bs := p.eq_of_pairwise (fun a b _ _ h1 h2 => Int.le_antisymm h1 h2) ha hb
section
variable {prog : Program} {w : World} {M : Model} {A : Around} {E : Value → Shared → Prop} {s : Shared} {K : Frag} {env : Env} {pos apos p : Pos} {first : List Value} {Q : Value → Shared → Prop} {e o : PySem.Expr} {rest args : List PySem.Expr} {name : Str} {q g : Addr} {self : Value}
theorem MethodCall_star (h : wpAny M A (eval o env) (fun ov s₁ => wpAny M A (getAttr ov name true) (fun f s₂ => wpAny M A (callWith pos f [] (backTo pos (starEach args env)) []) Q E s₂) E s₁) E s)
    (he : eval (.Call (.Attribute o name apos) args [] pos) env = (do
      let ov ← eval o env
      standAt apos.atName
      let (f, first) ← holding [ov] (do pure (← getAttr ov name true, []))
      callWith pos f first (backTo pos (starEach args env)) []) := by rfl) :
    wpAny M A (eval (.Call (.Attribute o name apos) args [] pos) env) Q E s := by
  rw [he]
  refine wpAny_bind (wpAny_mono h (fun ov s₁ h₁ => wpAny_bind (wpAny_standAt (wpAny_bind (wpAny_holding (wpAny_bind (wpAny_mono h₁ (fun f s₂ h₂ => wpAny_pure ?_) fun _ _ x => x)))))) fun _ _ x => x)
  exact h₂
theorem callWith_MS (hf : fnIn K g = true) (h : wpAny M A (spliced (backTo pos (starEach (e :: rest) env))) (fun vs s₁ => MethP K q g self s₁.heap ∧ wpAny M A (call (.ref q) (first ++ vs)) Q E s₁) E s)
    (he : starEach (e :: rest) env = (false, eval e env) :: starEach rest env := by rfl) (hst : (backTo pos (starEach rest env)).any (·.1) = true := by rfl) :
    wpAny M A (callWith pos (.ref q) first (backTo pos (starEach (e :: rest) env)) []) Q E s := by
  rw [he] at h ⊢
  exact ks_call (by show (false || (backTo pos (starEach rest env)).any (·.1)) = true; rw [hst]; rfl) (keeps_M hf) (evalArgs_plain h)
theorem callWith_MS1 (hf : fnIn K g = true) (h : wpAny M A (eval e env) (fun v s₁ => StarOf M A E v (fun vs s₂ => MethP K q g self s₂.heap ∧ wpAny M A (call (.ref q) (first ++ vs)) Q E s₂) s₁) E s)
    (he : starEach [.Starred e p] env = [(true, eval e env)] := by rfl) :
    wpAny M A (callWith pos (.ref q) first (backTo pos (starEach [.Starred e p] env)) []) Q E s := by
  rw [he]
  exact ks_call rfl (keeps_M hf) (ks_lone h)
end
end
section
set_option maxHeartbeats 8000000
section
variable {prog : Program} {w : World} {A : Around} {E : Value → Shared → Prop} {s : Shared} {env : Env} {h₀ : Heap} {m₀ : Str → Option Value} {news₀ : List (Addr × Obj)} {target : Expr} {body : List Stmt} {Q : Flow → Shared → Prop}
end
section
variable {prog : Program} {w : World} {A : Around} {E : Value → Shared → Prop} {s : Shared} {h₀ : Heap} {L : Addr} {m : Str → Option Value} {news : List (Addr × Obj)} {D b : Addr} {its its2 : Array Value} {n n2 : Nat} {g : Obj → List (Addr × Obj)} {Q : Value → Shared → Prop}
theorem ext_list (F : Fr h₀ L s.heap m) (N : News h₀ L s.heap news) (hb : (b, listOf its2 n2) ∈ news) (U : UpdF D (listOf its n) news g) (hm : (D, listOf its n) ∈ news) (hz : its.size + its2.size ≤ 10000)
    (h : ∀ h' n', Fr h₀ L h' m → News h₀ L h' (g (listOf (its ++ its2) n')) → Q .none { s with heap := h' }) : wpAny (model prog w) A (call (.builtin "list.extend") [.ref D, .ref b]) Q E s := by
  have z := N _ hm
  have k := upd_news F N U (mapSeq_list (fun xs => xs ++ its2) its n) rfl
  exact call_meets PySem.F.slot_list_extend ⟨_, z.1, rfl⟩ PySem.F.entry_list_extend (PySem.F.args_list_extend_2 _ _) (PySem.AutoSeq1.list_extend_list_list_0 D its n b its2 n2 (extend_door (by rw [sizeLine_eq]; lia)) (by rw [sizeLine_eq]; lia) (by rw [sizeLine_eq]; lia)) ⟨z.1, (N _ hb).1, h _ _ k.1 k.2⟩
end
end
section
set_option maxHeartbeats 8000000
section
open LCg
variable {prog : Program} {w : World} {A : Around} {E : Value → Shared → Prop} {s : Shared} {env : Env} {h₀ : Heap} {m₀ : Str → Option Value} {news₀ : List (Addr × Obj)} {target : Expr} {body : List Stmt} {Q : Flow → Shared → Prop}
end
end
section
set_option maxHeartbeats 8000000
noncomputable def touch (keys : List Int) (k : Int) : List Int := if k ∈ keys then keys else keys ++ [k]
theorem touch_mem (keys : List Int) (k : Int) : k ∈ touch keys k := by
  unfold touch; split
  · assumption
  · simp
theorem touch_sub {keys : List Int} {j : Int} (k : Int) (h : j ∈ keys) : j ∈ touch keys k := by
  unfold touch; split
  · exact h
  · simp [h]
theorem touch_of {keys : List Int} {k : Int} (h : k ∈ keys) : touch keys k = keys := if_pos h
theorem touch_len (keys : List Int) (k : Int) : (touch keys k).length ≤ keys.length + 1 := by
  unfold touch; split <;> simp
noncomputable abbrev kvsOf (keys : List Int) (nA : Int → Addr) : List (Int × Value) := keys.map fun k => (k, Value.ref (nA k))
theorem kvs_some {nA : Int → Addr} {k : Int} : ∀ {keys : List Int}, k ∈ keys → valueAt (kvsOf keys nA) k = some (.ref (nA k))
  | j :: r, h => by
    unfold valueAt
    by_cases e : j = k
    · subst e; simp [kvsOf]
    · have h' : k ∈ r := by rcases List.mem_cons.mp h with q | q
                            · exact absurd q.symm e
                            · exact q
      have := kvs_some (nA := nA) h'
      unfold valueAt at this
      simp only [kvsOf, List.map_cons, List.find?_cons, decide_eq_false e] at this ⊢
      exact this
theorem kvs_none {nA : Int → Addr} {k : Int} {keys : List Int} (h : k ∉ keys) : valueAt (kvsOf keys nA) k = none := by
  unfold valueAt
  rw [Option.map_eq_none_iff, List.find?_eq_none]
  intro p hp q
  obtain ⟨j, hj, rfl⟩ := List.mem_map.mp hp
  have q' : j = k := by simpa using q
  exact h (q' ▸ hj)
theorem kvs_upd {nA : Int → Addr} {k : Int} {n : Addr} {keys : List Int} (h : k ∉ keys) : kvsOf (keys ++ [k]) (upd nA k n) = kvsOf keys nA ++ [(k, .ref n)] := by
  simp only [kvsOf, List.map_append, List.map_cons, List.map_nil, upd_self]
  congr 1
  refine List.map_congr_left fun j hj => ?_
  rw [upd_ne _ _ (fun e : j = k => h (by rw [← e]; exact hj))]
structure Apart (x dx d : Addr) (rest srt : List (Addr × Obj)) : Prop where
  xdx : @Ne Nat x dx
  xd : @Ne Nat x d
  dxd : @Ne Nat dx d
  tl : ∀ p ∈ rest ++ srt, p.1 ≠ x ∧ p.1 ≠ dx ∧ p.1 ≠ d
  rs : ∀ p ∈ rest, ∀ q ∈ srt, p.1 ≠ q.1
theorem Apart.of_keys {x dx d : Addr} {rest srt srt' : List (Addr × Obj)} (P : Apart x dx d rest srt) (e : srt'.map (·.1) = srt.map (·.1)) : Apart x dx d rest srt' := by
  refine ⟨P.xdx, P.xd, P.dxd, fun p hp => ?_, fr_srt P.rs e⟩
  rcases List.mem_append.mp hp with h | h
  · exact P.tl p (List.mem_append_left _ h)
  · have : p.1 ∈ srt.map (·.1) := by rw [← e]; exact List.mem_map_of_mem h
    obtain ⟨q, hq, e'⟩ := List.mem_map.mp this
    have := P.tl q (List.mem_append_right _ hq)
    rw [e'] at this; exact this
theorem Apart.cons {x dx d D : Addr} {o : Obj} {rest srt : List (Addr × Obj)} (P : Apart x dx d rest srt) (h1 : D ≠ x) (h2 : D ≠ dx) (h3 : D ≠ d) (h4 : ∀ q ∈ srt, D ≠ q.1) : Apart x dx d ((D, o) :: rest) srt := by
  refine ⟨P.xdx, P.xd, P.dxd, fun p hp => ?_, fun p hp q hq => ?_⟩
  · rcases List.mem_cons.mp hp with h | h
    · subst h; exact ⟨h1, h2, h3⟩
    · exact P.tl p h
  · rcases List.mem_cons.mp hp with h | h
    · subst h; exact h4 q hq
    · exact P.rs p h q hq
theorem Apart.app {x dx d : Addr} {own rest srt : List (Addr × Obj)} (P : Apart x dx d rest srt) (h1 : ∀ p ∈ own, p.1 ≠ x ∧ p.1 ≠ dx ∧ p.1 ≠ d) (h4 : ∀ p ∈ own, ∀ q ∈ srt, p.1 ≠ q.1) : Apart x dx d (own ++ rest) srt := by
  refine ⟨P.xdx, P.xd, P.dxd, fun p hp => ?_, fun p hp q hq => ?_⟩
  · rw [List.append_assoc] at hp
    rcases List.mem_append.mp hp with h | h
    · exact h1 p h
    · exact P.tl p h
  · rcases List.mem_append.mp hp with h | h
    · exact h4 p h q hq
    · exact P.rs p h q hq
theorem Apart.drop {x dx d : Addr} {own rest srt : List (Addr × Obj)} (P : Apart x dx d (own ++ rest) srt) : Apart x dx d rest srt :=
  ⟨P.xdx, P.xd, P.dxd, fun p hp => P.tl p (by rw [List.append_assoc]; exact List.mem_append_right _ hp), fun p hp q hq => P.rs p (List.mem_append_right _ hp) q hq⟩
theorem Apart.front {x dx d : Addr} {o1 o2 o3 : Obj} {rest srt : List (Addr × Obj)} (P : Apart x dx d rest srt) : ∀ p ∈ (x, o1) :: (dx, o2) :: (d, o3) :: rest, ∀ q ∈ srt, p.1 ≠ q.1 := fun p hp q hq => by
  have h1 := P.tl q (List.mem_append_right _ hq)
  simp only [List.mem_cons] at hp
  rcases hp with h | h | h | h
  · subst h; exact Ne.symm h1.1
  · subst h; exact Ne.symm h1.2.1
  · subst h; exact Ne.symm h1.2.2
  · exact P.rs p h q hq
theorem Apart.headD {x dx d D : Addr} {o o1 o2 o3 : Obj} {rest srt : List (Addr × Obj)} (P : Apart x dx d ((D, o) :: rest) srt) (hr : ∀ p ∈ rest, p.1 ≠ D) : ∀ p ∈ (x, o1) :: (dx, o2) :: (d, o3) :: (rest ++ srt), D ≠ p.1 := fun p hp => by
  have h1 := P.tl (D, o) (.head _)
  simp only [List.mem_cons, List.mem_append] at hp
  rcases hp with h | h | h | h | h
  · subst h; exact h1.1
  · subst h; exact h1.2.1
  · subst h; exact h1.2.2
  · exact Ne.symm (hr p h)
  · exact P.rs _ (.head _) p h
theorem start2 {f : Str → Option Value} {a b : Str} (ha : f a = none) (hb : f b = none) : f = fun y => if y = a then none else if y = b then none else f y := by
  funext y
  by_cases h1 : y = a
  · rw [if_pos h1, h1, ha]
  · rw [if_neg h1]
    by_cases h2 : y = b
    · rw [if_pos h2, h2, hb]
    · rw [if_neg h2]
theorem again2 {f : Str → Option Value} {a b : Str} {u v u' v' : Option Value} : (fun y => if y = a then u' else if y = b then v' else if y = a then u else if y = b then v else f y) = fun y => if y = a then u' else if y = b then v' else f y := by
  funext y
  by_cases h1 : y = a
  · simp [h1]
  · by_cases h2 : y = b
    · simp [h2]
    · simp [h1, h2]
theorem gnT {w : World} {dp un : Nat} {gd : Option (List Code)} {cn : Str} {cs : Scope} {a : Addr} {ccd : Value} {cl : List (Str × Addr)} {outer : List Env} {A₀ : Around} {base h₀ : Heap} {L : Addr} {m mg mb : Str → Option Value} {mean : ExcName → Option Value} {s : Shared} {Q E : Value → Shared → Prop} {x dx d : Addr} {od : Obj} {t1 t2 t3 t4 : Tok} {rd po nf : Value} {rest srt : List (Addr × Obj)} {nA dA sA : Int → Addr} {keys : List Int} {np : Int → Int} {succ : Int → List Int} {k : Int} {tk : Tok}
    (B : Below A₀ base outer h₀) (F : Fr h₀ L s.heap m) (X : (Mine.hd.heap_1 w.params).In h₀) (T : TP mean mg mb h₀) (hk : cs.kind = .function) (hd : dp + 4 < recursionLimit) (hu : un + 32 < cLine)
    (N : News h₀ L s.heap ((x, instObj 151 dx) :: (dx, dictOf (sEs w (.ref d) rd po nf t1 t2 t3 t4) 4) :: (d, od) :: (rest ++ srt))) (hdm : (d == sysModules) = false)
    (D : od.IsDictOf (intKind PG w) (kvsOf keys nA)) (Nd : Nodes nA dA sA keys np succ srt) (P : Apart x dx d rest srt) (h0 : k ∉ keys → np k = 0 ∧ succ k = []) (hlen : keys.length ≤ 1000)
    (ret : ∀ h' tk' od' nA' dA' sA' srt', Fr h₀ L h' m → News h₀ L h' ((x, instObj 151 dx) :: (dx, dictOf (sEs w (.ref d) rd po nf t1 t2 t3 t4) 4) :: (d, od') :: (rest ++ srt')) →
      od'.IsDictOf (intKind PG w) (kvsOf (touch keys k) nA') → Nodes nA' dA' sA' (touch keys k) np succ srt' → Apart x dx d rest srt' → Q (.ref (nA' k)) { s with heap := h', toks := tk' }) :
    wpAny (model PG w) (ktrTop dp un gd cn cs L a ccd cl outer) (call (.ref 94) [.ref x, .int k tk]) Q E s := by
  by_cases hk' : k ∈ keys
  · refine gn_old B F X T hk hd hu N hdm D (kvs_some hk') fun h' tk' F' N' => ?_
    refine ret h' tk' od nA dA sA srt F' N' ?_ ?_ P <;> rw [touch_of hk'] <;> assumption
  · refine gn_new B F X T hk hd hu N hdm D (kvs_none hk') P.tl P.xd P.dxd (by simpa using hlen) fun h' tk' od' n dn sn tp F' N' D' f' o' => ?_
    have ht : touch keys k = keys ++ [k] := if_neg hk'
    have f1 : ∀ p ∈ srt, p.1 ≠ n ∧ p.1 ≠ dn ∧ p.1 ≠ sn := fun p hp => f' p (List.mem_append_right _ hp)
    have ne1 : ∀ {a b : Addr}, (∀ p ∈ srt, p.1 ≠ a) → ∀ o : Obj, (b, o) ∈ srt → b ≠ a := fun h o hm => h (_, o) hm
    have q := ret h' tk' od' (upd nA k n) (upd dA k dn) (upd sA k sn) ((sn, listOf #[] 0) :: (n, nodeO dn sn (.int k tk) (.int 0 tp)) :: (dn, dictOf [] 0) :: srt) F'
      (fun p hp => N' p (by (simp only [List.mem_cons, List.mem_append, List.not_mem_nil, or_false, or_assoc] at hp ⊢; rcases hp with h | h | h | h | h | h | h | h <;> first | exact .inl h | exact .inr (.inl h) | exact .inr (.inr (.inl h)) | exact .inr (.inr (.inr (.inl h))) | exact .inr (.inr (.inr (.inr (.inl h)))) | exact .inr (.inr (.inr (.inr (.inr (.inl h))))) | exact .inr (.inr (.inr (.inr (.inr (.inr (.inl h)))))) | exact .inr (.inr (.inr (.inr (.inr (.inr (.inr (h)))))))))) (by rw [ht, kvs_upd hk']; exact D')
    rw [upd_self] at q
    refine q ?_ ?_
    · rw [ht]
      refine ⟨?_, fun j hj => ?_, fun j hj => ?_, fun j hj => ?_, fun i hi j hj e => ?_⟩
      · simp only [List.map_cons, List.nodup_cons, List.mem_cons, not_or, List.mem_map, not_exists, not_and]
        refine ⟨⟨Nat.ne_of_gt o'.2.2.2.2, Nat.ne_of_gt (Nat.lt_trans o'.2.2.2.1 o'.2.2.2.2), fun p hp => (f1 p hp).2.2⟩, ⟨Nat.ne_of_gt o'.2.2.2.1, fun p hp => (f1 p hp).1⟩, fun p hp => (f1 p hp).2.1, Nd.nd⟩
      · by_cases e : j = k
        · subst e; rw [upd_self, upd_self, upd_self, (h0 hk').1]; exact ⟨tk, tp, .tail _ (.head _)⟩
        · have hj' : j ∈ keys := by rcases List.mem_append.mp hj with q | q
                                    · exact q
                                    · exact absurd (List.mem_singleton.mp q) e
          obtain ⟨a1, a2, a3⟩ := Nd.node j hj'
          rw [upd_ne _ _ e, upd_ne _ _ e, upd_ne _ _ e]; exact ⟨a1, a2, .tail _ (.tail _ (.tail _ a3))⟩
      · by_cases e : j = k
        · subst e; rw [upd_self]; exact .tail _ (.tail _ (.head _))
        · have hj' : j ∈ keys := by rcases List.mem_append.mp hj with q | q
                                    · exact q
                                    · exact absurd (List.mem_singleton.mp q) e
          rw [upd_ne _ _ e]; exact .tail _ (.tail _ (.tail _ (Nd.dict j hj')))
      · by_cases e : j = k
        · subst e; rw [upd_self, (h0 hk').2]; exact ⟨[], 0, .nil, .head _⟩
        · have hj' : j ∈ keys := by rcases List.mem_append.mp hj with q | q
                                    · exact q
                                    · exact absurd (List.mem_singleton.mp q) e
          obtain ⟨a1, a2, a3, a4⟩ := Nd.list j hj'
          rw [upd_ne _ _ e]; exact ⟨a1, a2, a3, .tail _ (.tail _ (.tail _ a4))⟩
      · have inK : ∀ z, z ∈ keys ++ [k] → z ≠ k → z ∈ keys := fun z hz h => by
          rcases List.mem_append.mp hz with q | q
          · exact q
          · exact absurd (List.mem_singleton.mp q) h
        by_cases ei : i = k
        · by_cases ej : j = k
          · rw [ei, ej]
          · subst ei
            rw [upd_self, upd_ne _ _ ej] at e
            obtain ⟨a1, a2, a3, a4⟩ := Nd.list j (inK j hj ej)
            exact absurd e.symm (f1 _ a4).2.2
        · by_cases ej : j = k
          · subst ej
            rw [upd_self, upd_ne _ _ ei] at e
            obtain ⟨a1, a2, a3, a4⟩ := Nd.list i (inK i hi ei)
            exact absurd e (f1 _ a4).2.2
          · rw [upd_ne _ _ ei, upd_ne _ _ ej] at e
            exact Nd.inj i (inK i hi ei) j (inK j hj ej) e
    · refine ⟨P.xdx, P.xd, P.dxd, fun p hp => ?_, fun p hp q hq => ?_⟩
      · rcases List.mem_append.mp hp with h | h
        · exact P.tl p (List.mem_append_left _ h)
        · simp only [List.mem_cons] at h
          rcases h with h | h | h | h
          · subst h; exact ⟨Nat.ne_of_gt (by lia), Nat.ne_of_gt (by lia), Nat.ne_of_gt (by lia)⟩
          · subst h; exact ⟨Nat.ne_of_gt (by lia), Nat.ne_of_gt (by lia), Nat.ne_of_gt (by lia)⟩
          · subst h; exact ⟨Nat.ne_of_gt (by lia), Nat.ne_of_gt (by lia), Nat.ne_of_gt (by lia)⟩
          · exact P.tl p (List.mem_append_right _ h)
      · have f2 := f' p (List.mem_append_left _ hp)
        simp only [List.mem_cons] at hq
        rcases hq with h | h | h | h
        · subst h; exact f2.2.2
        · subst h; exact f2.1
        · subst h; exact f2.2.1
        · exact P.rs p hp q h
end
section
set_option maxHeartbeats 8000000
noncomputable def addKeys (keys : List Int) (k : Int) (ps : List Int) : List Int := ps.foldl touch (touch keys k)
noncomputable def addSucc (succ : Int → List Int) (k : Int) (ps : List Int) : Int → List Int := ps.foldl (fun f p => upd f p (f p ++ [k])) succ
theorem foldl_touch_sub {j : Int} : ∀ (ps keys : List Int), j ∈ keys → j ∈ ps.foldl touch keys
  | [], _, h => h
  | p :: r, keys, h => foldl_touch_sub r _ (touch_sub p h)
theorem addKeys_sub (keys : List Int) (k : Int) (ps : List Int) {j : Int} (h : j ∈ touch keys k) : j ∈ addKeys keys k ps := foldl_touch_sub ps _ h
theorem foldl_touch_mem {j : Int} : ∀ (ps keys : List Int), j ∈ ps → j ∈ ps.foldl touch keys
  | p :: r, keys, h => by
    rcases List.mem_cons.mp h with e | h
    · subst e; exact foldl_touch_sub r _ (touch_mem _ _)
    · exact foldl_touch_mem r _ h
theorem addKeys_mem (keys : List Int) (k : Int) (ps : List Int) {j : Int} (h : j ∈ ps) : j ∈ addKeys keys k ps := foldl_touch_mem ps _ h
theorem foldl_touch_len : ∀ (ps keys : List Int), (ps.foldl touch keys).length ≤ keys.length + ps.length
  | [], _ => by simp
  | p :: r, keys => by
    have h1 := foldl_touch_len r (touch keys p)
    have h2 := touch_len keys p
    simp only [List.foldl_cons, List.length_cons]; lia
theorem addKeys_len (keys : List Int) (k : Int) (ps : List Int) : (addKeys keys k ps).length ≤ keys.length + 1 + ps.length := by
  have h1 := foldl_touch_len ps (touch keys k)
  have h2 := touch_len keys k
  unfold addKeys; lia
theorem addSucc_ne {j : Int} (k : Int) : ∀ (ps : List Int) (succ : Int → List Int), j ∉ ps → addSucc succ k ps j = succ j
  | [], _, _ => rfl
  | p :: r, succ, h => by
    have h1 : j ≠ p := fun e => h (by rw [e]; exact .head _)
    have h2 := addSucc_ne k r (upd succ p (succ p ++ [k])) (fun q => h (.tail _ q))
    rw [upd_ne _ _ h1] at h2
    exact h2
theorem addSucc_len {j : Int} (k : Int) : ∀ (ps : List Int) (succ : Int → List Int), (addSucc succ k ps j).length ≤ (succ j).length + ps.length
  | [], _ => by simp [addSucc]
  | p :: r, succ => by
    have h2 := addSucc_len (j := j) k r (upd succ p (succ p ++ [k]))
    have h3 : (upd succ p (succ p ++ [k]) j).length ≤ (succ j).length + 1 := by
      by_cases e : j = p
      · subst e; rw [upd_self]; simp
      · rw [upd_ne _ _ e]; lia
    show (addSucc (upd succ p (succ p ++ [k])) k r j).length ≤ _
    simp only [List.length_cons]; lia
theorem addT {w : World} {dp un : Nat} {gd : Option (List Code)} {cn : Str} {cs : Scope} {a : Addr} {ccd : Value} {cl : List (Str × Addr)} {outer : List Env} {A₀ : Around} {base h₀ : Heap} {L : Addr} {m mg mb : Str → Option Value} {mean : ExcName → Option Value} {s : Shared} {Q E : Value → Shared → Prop} {x dx d : Addr} {od : Obj} {t1 t2 t3 t4 : Tok} {po nf : Value} {rest srt : List (Addr × Obj)} {nA dA sA : Int → Addr} {keys : List Int} {np : Int → Int} {succ : Int → List Int} {k : Int} {tq : Tok} {pv : List Value} {ps : List Int}
    (B : Below A₀ base outer h₀) (F : Fr h₀ L s.heap m) (X : (Mine.hd.heap_1 w.params).In h₀) (T : TP mean mg mb h₀) (hk : cs.kind = .function) (hd : dp + 6 < recursionLimit) (hu : un + 48 < cLine)
    (N : News h₀ L s.heap ((x, instObj 151 dx) :: (dx, dictOf (sEs w (.ref d) .none po nf t1 t2 t3 t4) 4) :: (d, od) :: (rest ++ srt))) (hdm : (d == sysModules) = false)
    (D : od.IsDictOf (intKind PG w) (kvsOf keys nA)) (Nd : Nodes nA dA sA keys np succ srt) (P : Apart x dx d rest srt) (h0 : ∀ j, j ∉ keys → np j = 0 ∧ succ j = []) (hlen : keys.length + ps.length ≤ 900) (hsl : ∀ j, (succ j).length ≤ 900) (hi : IntsAre pv ps) (hks : k ∉ ps) (hpl : pv.length ≤ 4)
    (ret : ∀ h' tk' od' nA' dA' sA' srt', Fr h₀ L h' m → News h₀ L h' ((x, instObj 151 dx) :: (dx, dictOf (sEs w (.ref d) .none po nf t1 t2 t3 t4) 4) :: (d, od') :: (rest ++ srt')) →
      od'.IsDictOf (intKind PG w) (kvsOf (addKeys keys k ps) nA') → Nodes nA' dA' sA' (addKeys keys k ps) (upd np k (np k + ps.length)) (addSucc succ k ps) srt' → Apart x dx d rest srt' → Q .none { s with heap := h', toks := tk' }) :
    codeAny (model PG w) (ktrTop dp un gd cn cs L a ccd cl outer) (.call (.ref 101) ⟨.ref x :: .int k tq :: pv, []⟩) (fun r s' => match r with | .ok (.ret v) => Q v s' | .ok _ => False | .error e => E e s') s := by
  k_dflt (refine' kp_rest (vs := pv) (g₁ := fun D => some [(Str.ofString "self", .ref x), (Str.ofString "node", .int k tq), (Str.ofString "predecessors", .ref D)]) (binds := fun D => [(Str.ofString "self", .ref x), (Str.ofString "node", .int k tq), (Str.ofString "predecessors", .ref D)]) ?k1 ?k2 ?k3 ?k4 ?k5 ?kA ?kF ?kK ?k6 ?k7 ?k8 ?kV ?kP ?kG ?kB ?_ ?c2 ?c3 ?c4 ?c5; (case kA => exact rfl); (case kF => exact rfl); (case kK => first | exact rfl | assumption); (case k1 => k_asm); (case k2 => k_asm); (case k3 => k_asm); (case k4 => exact N); (case k5 => k_asm); (case k6 => k_is); (case k7 => k_is); (case k8 => k_room); (case kV => exact rfl); (case kP => rcases pv with _ | ⟨v1, _ | ⟨v2, _ | ⟨v3, _ | ⟨v4, _ | ⟨v5, r5⟩⟩⟩⟩⟩; exact rfl; exact rfl; exact rfl; exact rfl; exact rfl; exact absurd hpl (by simp)); (case kG => exact fun _ => rfl); (case kB => exact fun _ => locs rfl); (case c5 => decide); (case c2 => exact rfl); (case c3 => exact rfl); (case c4 => exact rfl); k_whole; intro D' g' L' h' l1 FG' F' N' B' X' T'; (try dsimp only); (try k_fold))
  (repeat' (first | (k_unfold; (try dsimp only)) | (k_end; wrow_close) | ((fail_if_success (with_reducible (refine Mine.stop_here ?_ ?_; walk_at "s0"))); walk1) | (dsimp only; (fail_if_success (with_reducible (refine Mine.stop_here ?_ ?_; walk_at "s0"))); walk1) | (leave1; walk_say "STEP leave1"; try dsimp only) | walk_at "onk" | fail "no step"))
  have l2 := List.forall_mem_cons.mp l1
  have l3 := List.forall_mem_cons.mp l2.2
  have l4 := List.forall_mem_cons.mp l3.2
  have P' : Apart x dx d ((D', ({ cls := .type "tuple", data := .seq pv.toArray } : Obj)) :: rest) srt := P.cons (Nat.ne_of_gt l2.1) (Nat.ne_of_gt l3.1) (Nat.ne_of_gt l4.1) fun q hq => Nat.ne_of_gt (l4.2 q (List.mem_append_right _ hq))
  refine' gnT (rest := (D', _) :: rest) ?b1 ?b2 ?b3 ?b4 ?b5 ?b6 ?b7 ?b8 hdm D Nd P' (h0 k) (by lia) ?_
  (case b1 => k_asm); (case b2 => k_asm); (case b3 => k_asm); (case b4 => k_asm); (case b5 => first | exact rfl | assumption); (case b6 => ktr_room); (case b7 => ktr_units)
  (case b8 => exact fun p hp => N' p (by simp only [List.cons_append, List.mem_cons] at hp ⊢; rcases hp with h | h | h | h | h <;> first | exact .inl h | exact .inr (.inl h) | exact .inr (.inr (.inl h)) | exact .inr (.inr (.inr (.inl h))) | exact .inr (.inr (.inr (.inr h)))))
  intro h9 tk9 od9 nA9 dA9 sA9 srt9 F9 N9 D9 Nd9 P9
  simp only [List.cons_append] at N9
  dsimp only
  (repeat' (first | (k_unfold; (try dsimp only)) | (k_end; wrow_close) | ((fail_if_success (with_reducible (refine Mine.stop_here ?_ ?_; walk_at "s0"))); walk1) | (dsimp only; (fail_if_success (with_reducible (refine Mine.stop_here ?_ ?_; walk_at "s0"))); walk1) | (leave1; walk_say "STEP leave1"; try dsimp only) | walk_at "onk" | fail "no step"))
  refine' np_get (fr := (x, _) :: (dx, _) :: (d, _) :: (D', _) :: rest) (srt := srt9) ?b1 ?b2 ?b3 Nd9 (touch_mem _ _) ?_
  (case b1 => k_asm)
  (case b2 => k_asm)
  (case b3 => k_asm)
  intro t9
  (repeat' (first | (k_unfold; (try dsimp only)) | (k_end; wrow_close) | ((fail_if_success (with_reducible (refine Mine.stop_here ?_ ?_; walk_at "s0"))); walk1) | (dsimp only; (fail_if_success (with_reducible (refine Mine.stop_here ?_ ?_; walk_at "s0"))); walk1) | (leave1; walk_say "STEP leave1"; try dsimp only) | walk_at "onk" | fail "no step"))
  rename News g' L' _ _ => N8
  have hlp := hi.length
  refine PyProof.Rows.len_tuple (items := pv.toArray) ⟨_, (N8 (D', _) (.tail _ (.tail _ (.tail _ (.head _))))).1, rfl, _, rfl⟩ (by simp; lia) ?_
  (repeat' (first | (k_unfold; (try dsimp only)) | (k_end; wrow_close) | ((fail_if_success (with_reducible (refine Mine.stop_here ?_ ?_; walk_at "s0"))); walk1) | (dsimp only; (fail_if_success (with_reducible (refine Mine.stop_here ?_ ?_; walk_at "s0"))); walk1) | (leave1; walk_say "STEP leave1"; try dsimp only) | walk_at "onk" | fail "no step"))
  refine' np_set (fr := (x, _) :: (dx, _) :: (d, _) :: (D', _) :: rest) (srt := srt9) ?b1 ?b2 ?b3 Nd9 (touch_mem _ _) ?b4 ?_
  (case b1 => k_asm)
  (case b2 => k_asm)
  (case b3 => k_asm)
  (case b4 => exact P9.front)
  clear N8
  intro h8 srt8 F8 N8 Nd8 e8 _
  have P8 := P9.of_keys e8
  (repeat' (first | (k_unfold; (try dsimp only)) | (k_end; wrow_close) | ((fail_if_success (with_reducible (refine Mine.stop_here ?_ ?_; walk_at "s0"))); walk1) | (dsimp only; (fail_if_success (with_reducible (refine Mine.stop_here ?_ ?_; walk_at "s0"))); walk1) | (leave1; walk_say "STEP leave1"; try dsimp only) | walk_at "onk" | fail "no step"))
  refine For_turns (by k_asm) ?_
  (repeat' (first | (k_unfold; (try dsimp only)) | (k_end; wrow_close) | ((fail_if_success (with_reducible (refine Mine.stop_here ?_ ?_; walk_at "s0"))); walk1) | (dsimp only; (fail_if_success (with_reducible (refine Mine.stop_here ?_ ?_; walk_at "s0"))); walk1) | (leave1; walk_say "STEP leave1"; try dsimp only) | walk_at "onk" | fail "no step"))
  refine turns_tuple (m₀ := fun y => if y = Str.ofString "nodeinfo" then some (Value.ref (nA9 k)) else List.lookup y [(Str.ofString "self", Value.ref x), (Str.ofString "node", Value.int k tq), (Str.ofString "predecessors", Value.ref D')].reverse)
    (news₀ := (x, instObj 151 dx) :: (dx, dictOf (sEs w (.ref d) .none po nf t1 t2 t3 t4) 4) :: (d, od9) :: (rest ++ srt8)) (vs := pv) (nv := 0)
    (fun i m' nw => ∃ u v : Option Value, (m' = fun y => if y = Str.ofString "pred_info" then u else if y = Str.ofString "pred" then v else if y = Str.ofString "nodeinfo" then some (Value.ref (nA9 k)) else List.lookup y [(Str.ofString "self", Value.ref x), (Str.ofString "node", Value.int k tq), (Str.ofString "predecessors", Value.ref D')].reverse) ∧
      (Ex5 fun od' nA' dA' sA' srt' => Cj4 (nw = (x, instObj 151 dx) :: (dx, dictOf (sEs w (.ref d) .none po nf t1 t2 t3 t4) 4) :: (d, od') :: (rest ++ srt')) (od'.IsDictOf (intKind PG w) (kvsOf (addKeys keys k (ps.take i)) nA')) (Nodes nA' dA' sA' (addKeys keys k (ps.take i)) (upd np k (np k + ps.length)) (addSucc succ k (ps.take i)) srt') (Apart x dx d rest srt'))) rfl (by k_asm) ?t1 ?t2 ?t3 ?t4 ?t5
  case t1 => exact fun p hp => N8 p (by simp only [List.cons_append, List.mem_cons] at hp ⊢; rcases hp with h | h | h | h | h <;> first | exact .inl h | exact .inr (.inl h) | exact .inr (.inr (.inl h)) | exact .inr (.inr (.inr (.inl h))) | exact .inr (.inr (.inr (.inr h))))
  case t2 => exact fun p hp => Ne.symm (P8.headD (fun p hp => Nat.ne_of_lt (l4.2 p (List.mem_append_left _ hp))) p hp)
  case t3 => exact ⟨none, none, start2 rfl rfl, od9, nA9, dA9, sA9, srt8, rfl, D9, by rw [show ps.length = pv.toArray.size by simp [hlp]]; exact Nd8, P8.drop (own := [_])⟩
  case t5 =>
    rintro m' news' h' tk ⟨u, v, rfl, od', nA', dA', sA', srt', rfl, D1, Nd1, P1⟩ F1 N1 hx
    rw [hlp, List.take_length] at D1 Nd1
    (repeat' (first | (k_unfold; (try dsimp only)) | (k_end; wrow_close) | ((fail_if_success (with_reducible (refine Mine.stop_here ?_ ?_; walk_at "s0"))); walk1) | (dsimp only; (fail_if_success (with_reducible (refine Mine.stop_here ?_ ?_; walk_at "s0"))); walk1) | (leave1; walk_say "STEP leave1"; try dsimp only) | walk_at "onk" | fail "no step"))
    rename News h₀ L _ _ => NN
    exact ret _ _ od' nA' dA' sA' srt' (by k_asm) (fun p hp => NN p (.tail _ hp)) D1 Nd1 P1
  case t4 =>
    rintro i v m₁ news₁ h₁ tk₁ own hv ⟨u, v', rfl, od', nA', dA', sA', srt', rfl, D1, Nd1, P1⟩ dis F1 N1
    have hil : i < ps.length := by rw [← hlp]; exact (List.getElem?_eq_some_iff.mp hv).1
    obtain ⟨t0, ht0⟩ := hi.get i ps[i] (List.getElem?_eq_getElem hil)
    obtain rfl : v = .int ps[i] t0 := Option.some.inj (hv.symm.trans ht0)
    have ht : ps.take (i + 1) = ps.take i ++ [ps[i]] := by simp
    have N2 : News g' L' h₁ ((x, instObj 151 dx) :: (dx, dictOf (sEs w (.ref d) .none po nf t1 t2 t3 t4) 4) :: (d, od') :: ((own ++ rest) ++ srt')) := fun p hp => N1 p (by
      refine led_go hp ?_
      walk_at "led")
    clear N1
    have P2 : Apart x dx d (own ++ rest) srt' := P1.app (fun p hp => ⟨dis p hp _ (.head _), dis p hp _ (.tail _ (.head _)), dis p hp _ (.tail _ (.tail _ (.head _)))⟩) (fun p hp q hq => dis p hp q (.tail _ (.tail _ (.tail _ (List.mem_append_right _ hq)))))
    have hp0 : ps[i] ∉ addKeys keys k (ps.take i) → upd np k (np k + ps.length) ps[i] = 0 ∧ addSucc succ k (ps.take i) ps[i] = [] := fun hn => by
      have h1 : ps[i] ∉ touch keys k := fun h => hn (addKeys_sub _ _ _ h)
      have h2 : ps[i] ≠ k := fun h => hks (by rw [← h]; exact List.getElem_mem hil)
      have h3 : ps[i] ∉ ps.take i := fun h => hn (addKeys_mem _ _ _ h)
      have h4 := h0 ps[i] (fun h => h1 (touch_sub _ h))
      exact ⟨by rw [upd_ne _ _ h2]; exact h4.1, by rw [addSucc_ne _ _ _ h3]; exact h4.2⟩
    (repeat' (first | (k_unfold; (try dsimp only)) | (k_end; wrow_close) | ((fail_if_success (with_reducible (refine Mine.stop_here ?_ ?_; walk_at "s0"))); walk1) | (dsimp only; (fail_if_success (with_reducible (refine Mine.stop_here ?_ ?_; walk_at "s0"))); walk1) | (leave1; walk_say "STEP leave1"; try dsimp only) | walk_at "onk" | fail "no step"))
    refine' gnT (rest := own ++ rest) ?b1 ?b2 ?b3 ?b4 ?b5 ?b6 ?b7 ?b8 hdm D1 Nd1 P2 hp0 ?b9 ?_
    (case b1 => k_asm); (case b2 => k_asm); (case b3 => k_asm); (case b4 => k_asm); (case b5 => first | exact rfl | assumption); (case b6 => ktr_room); (case b7 => ktr_units)
    (case b8 => k_asm)
    (case b9 => have := addKeys_len keys k (ps.take i); have := List.length_take_le i ps; lia)
    intro h7 tk7 od7 nA7 dA7 sA7 srt7 F7 N7 D7 Nd7 P7
    dsimp only
    (repeat' (first | (k_unfold; (try dsimp only)) | (k_end; wrow_close) | ((fail_if_success (with_reducible (refine Mine.stop_here ?_ ?_; first | walk_at "s0" | exact Mine.p7 | exact Mine.p8 | exact Mine.p9 | exact Mine.p10))); walk1) | (dsimp only; (fail_if_success (with_reducible (refine Mine.stop_here ?_ ?_; first | walk_at "s0" | exact Mine.p7 | exact Mine.p8 | exact Mine.p9 | exact Mine.p10))); walk1) | (leave1; walk_say "STEP leave1"; try dsimp only) | walk_at "onk" | fail "no step"))
    refine' succ_get (fr := (x, _) :: (dx, _) :: (d, _) :: (own ++ rest)) (srt := srt7) ?b1 ?b2 ?b3 Nd7 (touch_mem _ _) ?_
    (case b1 => k_asm)
    (case b2 => k_asm)
    (case b3 => k_asm)
    dsimp only
    obtain ⟨sv7, n7, hi7, hm7⟩ := Nd7.list ps[i] (touch_mem _ _)
    rename News g' L' _ _ => N6
    refine getMethod_append_N N6 (.tail _ (.tail _ (.tail _ (List.mem_append_right _ hm7)))) ?_
    (repeat' (first | (k_unfold; (try dsimp only)) | (k_end; wrow_close) | ((fail_if_success (with_reducible (refine Mine.stop_here ?_ ?_; first | walk_at "s0" | exact Mine.p7 | exact Mine.p8 | exact Mine.p9 | exact Mine.p10))); walk1) | (dsimp only; (fail_if_success (with_reducible (refine Mine.stop_here ?_ ?_; first | walk_at "s0" | exact Mine.p7 | exact Mine.p8 | exact Mine.p9 | exact Mine.p10))); walk1) | (leave1; walk_say "STEP leave1"; try dsimp only) | walk_at "onk" | fail "no step"))
    refine' succ_push (fr := (x, _) :: (dx, _) :: (d, _) :: (own ++ rest)) (srt := srt7) ?b1 ?b3 Nd7 (touch_mem _ _) P7.front ?b4 ?_
    (case b1 => k_asm)
    (case b3 => k_asm)
    (case b4 => have := addSucc_len (j := ps[i]) k (ps.take i) succ; have := hsl ps[i]; have := List.length_take_le i ps; lia)
    intro h5 srt5 F5 N5 Nd5 e5
    have P5 := P7.of_keys e5
    (repeat' (first | (k_unfold; (try dsimp only)) | (k_end; wrow_close) | ((fail_if_success (with_reducible (refine Mine.stop_here ?_ ?_; first | walk_at "s0" | exact Mine.p7 | exact Mine.p8 | exact Mine.p9 | exact Mine.p10))); walk1) | (dsimp only; (fail_if_success (with_reducible (refine Mine.stop_here ?_ ?_; first | walk_at "s0" | exact Mine.p7 | exact Mine.p8 | exact Mine.p9 | exact Mine.p10))); walk1) | (leave1; walk_say "STEP leave1"; try dsimp only) | walk_at "onk" | fail "no step"))
    have ek : addKeys keys k (ps.take (i + 1)) = touch (addKeys keys k (ps.take i)) ps[i] := by unfold addKeys; rw [ht, List.foldl_append]; rfl
    have es : addSucc succ k (ps.take (i + 1)) = upd (addSucc succ k (ps.take i)) ps[i] (addSucc succ k (ps.take i) ps[i] ++ [k]) := by unfold addSucc; rw [ht, List.foldl_append]; rfl
    refine ⟨h5, _, _, (x, instObj 151 dx) :: (dx, dictOf (sEs w (.ref d) .none po nf t1 t2 t3 t4) 4) :: (d, od7) :: (rest ++ srt5), rfl, F5, ?_, ?_, ⟨_, _, again2, od7, nA7, dA7, sA7, srt5, rfl, ?_, ?_, P5.drop⟩⟩
    · exact fun p hp => N5 p (by
        refine led_go hp ?_
        walk_at "led")
    · intro p hp q hq
      have hq' := P5.tl p (List.mem_append_left _ (List.mem_append_left _ hp))
      simp only [List.mem_cons, List.mem_append] at hq
      rcases hq with h | h | h | h | h
      · subst h; exact hq'.1
      · subst h; exact hq'.2.1
      · subst h; exact hq'.2.2
      · exact dis p hp q (.tail _ (.tail _ (.tail _ (List.mem_append_left _ h))))
      · exact P5.rs p (List.mem_append_left _ hp) q h
    · rw [ek]; exact D7
    · rw [ek, es]; exact Nd5
end
section
set_option maxHeartbeats 8000000
local macro_rules | `(tactic| walk_at "eval Name") => `(tactic| first | walk_at "own" | walk_at "evE")
section
open LCg
variable {prog : Program} {w : World} {A : Around} {E : Value → Shared → Prop} {s : Shared} {env : Env} {h₀ : Heap} {L : Addr} {m : Str → Option Value} {news : List (Addr × Obj)}
theorem src_any {ax : Addr} {its : Array Value} {Q : Value → Shared → Prop} (hh : A.handled = none) (F : Fr h₀ L s.heap m) (N : News h₀ L s.heap news) (hm : SrcAt h₀ ax its news) (hsz : its.size ≤ sizeLine)
    (h : ∀ I h₂, CSrc prog w A h₀ L m (SrcAt h₀ ax its) (fun i v => its[i]? = some v) its.size news I h₂ → (∀ p ∈ news, p.1 < I) → Q (.ref I) { s with heap := h₂ }) : wpAny (model prog w) A (pyIter (.ref ax)) Q E s := by
  have hl : s.heap.IsList ax its := hm.list F.keep N
  have hlt : ax < s.heap.objs.size := by obtain ⟨_, e, _⟩ := hl; exact Heap.lt_size e
  have up : ∀ b o, s.heap.get? b = some o → (s.heap.push { cls := .type "list_iterator", data := .fields #[.ref ax, .int 0 0] }).get? b = some o := fun b o e => Heap.get?_push_of_some _ e
  refine wpAny_pyIter_list hl (h _ _ ⟨⟨_, _, Walks.list hh s.heap.objs.size ax (Nat.ne_of_lt hlt) its, ?_, ?_, list_st, ⟨⟨_, Heap.get?_push_size _ rfl, rfl, rfl⟩, hl.push _⟩⟩, hsz, F.keeps up, N.grown up, ⟨Nat.ne_of_gt F.ns.lt, next_is_new F⟩, fun p hp => Nat.ne_of_lt (Heap.lt_size (N p hp).1)⟩ fun p hp => Heap.lt_size (N p hp).1)
  · intro target i v s Q E st q
    obtain ⟨o, ho, hc, _⟩ := st.1
    exact letGo_any ⟨o, ho, hc⟩ (by decide) q
  · intro i h st
    obtain ⟨o, e, _⟩ := st.1
    exact ⟨o, e⟩
end
mutual
inductive SrtH : Hy → Hy → Prop
  | mk {ts us vs : List Hy} : SrtL ts us → vs.Perm us → Falls vs → SrtH (.node ts) (.node vs)
inductive SrtL : List Hy → List Hy → Prop
  | nil : SrtL [] []
  | cons {t u : Hy} {ts us : List Hy} : SrtH t u → SrtL ts us → SrtL (t :: ts) (u :: us)
end
theorem SrtL.snoc : ∀ {ts us : List Hy} {t u : Hy}, SrtL ts us → SrtH t u → SrtL (ts ++ [t]) (us ++ [u])
  | _, _, _, _, .nil, y => .cons y .nil
  | _, _, _, _, .cons a r, y => .cons a (r.snoc y)
theorem SrtL.len : ∀ {ts us : List Hy}, SrtL ts us → ts.length = us.length
  | _, _, .nil => rfl
  | _, _, .cons _ r => congrArg (· + 1) r.len
theorem depthL_le {l : List Hy} {n : Nat} (h : ∀ t ∈ l, t.depth ≤ n) : depthL l ≤ n := by
  induction l with
  | nil => exact Nat.zero_le _
  | cons a l ih => simp only [depthL]; exact Nat.max_le.mpr ⟨h _ (.head _), ih fun t ht => h t (.tail _ ht)⟩
mutual
theorem SrtH.depth : ∀ {t u : Hy}, SrtH t u → u.depth = t.depth
  | _, _, .mk r p _ => by
    have h := r.depth
    simp only [Hy.depth]
    rw [← h]
    refine congrArg (· + 1) (Nat.le_antisymm (depthL_le fun t ht => depth_mem (p.mem_iff.mp ht)) (depthL_le fun t ht => depth_mem (p.mem_iff.mpr ht)))
theorem SrtL.depth : ∀ {ts us : List Hy}, SrtL ts us → depthL us = depthL ts
  | _, _, .nil => rfl
  | _, _, .cons a r => by simp only [depthL]; rw [a.depth, r.depth]
end
mutual
noncomputable def Hy.slim : Hy → Prop
  | .node l => l.length < 64 ∧ slimL l
noncomputable def slimL : List Hy → Prop
  | [] => True
  | a :: l => a.slim ∧ slimL l
end
theorem slim_mem {t : Hy} {l : List Hy} (h : t ∈ l) (s : slimL l) : t.slim := by
  induction l with
  | nil => cases h
  | cons a l ih =>
    rcases List.mem_cons.mp h with rfl | h
    · exact s.1
    · exact ih h s.2
theorem sortedT (n : Nat) : ∀ {w : World} {dp un : Nat} {gd : Option (List Code)} {cn : Str} {cs : Scope} {a : Addr} {ccd : Value} {cl : List (Str × Addr)} {outer : List Env} {A₀ : Around} {base h₀ : Heap} {L : Addr} {m mg mb : Str → Option Value} {mean : ExcName → Option Value} {s : Shared} {Q E : Value → Shared → Prop} {v : Value} {t : Hy} {rest : List (Addr × Obj)}
    (B : Below A₀ base outer h₀) (F : Fr h₀ L s.heap m) (X : (Mine.hd.heap_1 w.params).In h₀) (T : TP mean mg mb h₀) (hk : cs.kind = .function) (hd : dp + (4 + 3 * n) < recursionLimit) (hu : un + (60 + 24 * n) < cLine)
    (N : News h₀ L s.heap rest) (hv : HyAt s.heap v t) (hn : t.depth ≤ n) (hs : t.slim)
    (ret : ∀ h' tk' v' t' new, Fr h₀ L h' m → News h₀ L h' (new ++ rest) → (∀ p ∈ new, ∀ q ∈ rest, p.1 ≠ q.1) → (∀ b o, s.heap.get? b = some o → h'.get? b = some o) → HyIn new v' t' → SrtH t t' → Q v' { s with heap := h', toks := tk' }),
    wpAny (model PG w) (ktrTop dp un gd cn cs L a ccd cl outer) (call (.ref 160) [v]) Q E s := by
  induction n with
  | zero =>
    intro w dp un gd cn cs a ccd cl outer A₀ base h₀ L m mg mb mean s Q E v t rest B F X T hk hd hu N hv hn
    cases t; exact absurd hn (by simp [Hy.depth])
  | succ n ih =>
    intro w dp un gd cn cs a ccd cl outer A₀ base h₀ L m mg mb mean s Q E v t rest B F X T hk hd hu N hv hn hs ret
    obtain ⟨hv1, hv2⟩ := hv
    rename_i ax vs k ts
    have N0 : News h₀ L s.heap [] := fun p hp => nomatch hp
    have hn' : depthL ts ≤ n := by simpa [Hy.depth] using hn
    have hl := hv2.length
    have hs2 : ts.length < 64 := hs.1
    have hs3 : slimL ts := hs.2
    clear hs hn
    refine wpAny_call ?_
    k_dflt (refine' code_defG ?k1 ?k2 ?k3 ?k4 ?k5 ?kA ?kF ?kK ?k6 ?k7 ?k8 ?k9 ?kB ?_ ?c2 ?c3 ?c4 ?c5; (case kA => exact rfl); (case kF => exact rfl); (case kK => assumption); (case k1 => k_asm); (case k2 => k_asm); (case k3 => k_asm); (case k4 => exact N0); (case k5 => k_asm); (case k6 => k_is); (case k7 => k_is); (case k8 => ktr_room); (case k9 => exact BindsTo.of_eq rfl); (case c5 => decide); (case kB => exact locs rfl); (case c2 => exact rfl); (case c3 => exact rfl); (case c4 => exact rfl); k_whole; intro g' L' h' FG' F' N' B' X' T' kG'; (try dsimp only); (try k_fold))
    have hv3 : g'.get? ax = some (listOf vs.toArray k) := kG' _ _ hv1 (by simp)
    have hv4 : HysAt g' vs ts := hv2.keeps fun _ _ _ e => kG' _ _ e (by simp)
    (repeat' (first | (k_unfold; (try dsimp only)) | (k_end; wrow_close) | ((fail_if_success (with_reducible (refine Mine.stop_here ?_ ?_; walk_at "s0"))); walk1) | (dsimp only; (fail_if_success (with_reducible (refine Mine.stop_here ?_ ?_; walk_at "s0"))); walk1) | (leave1; walk_say "STEP leave1"; try dsimp only) | walk_at "onk" | fail "no step"))
    refine comp_eval (cl := []) (F₀ := F') (by with_unfolding_all rfl) rfl (by decide) ?_
    (repeat' (first | (k_unfold; (try dsimp only)) | (k_end; wrow_close) | ((fail_if_success (with_reducible (refine Mine.stop_here ?_ ?_; walk_at "s0"))); walk1) | (dsimp only; (fail_if_success (with_reducible (refine Mine.stop_here ?_ ?_; walk_at "s0"))); walk1) | (leave1; walk_say "STEP leave1"; try dsimp only) | walk_at "onk" | fail "no step"))
    (try dsimp only)
    refine src_any (its := vs.toArray) rfl F' N' (.inl ⟨_, hv3, rfl, _, rfl⟩) ?_ ?_
    · rw [List.size_toArray, sizeLine_eq]; lia
    intro I h3 src lI
    refine ⟨I, _, _, _, _, rfl, src, ?_⟩
    rintro D C s₃ ⟨h4, rfl⟩ lD hDC
    refine ⟨fun i ys nw => ∃ us, HysIn nw ys us ∧ SrtL (ts.take i) us, fun _ _ _ _ => .inl ⟨_, hv3, rfl, _, rfl⟩, ⟨[], .nil, .nil⟩, ?_, ?_⟩
    · rintro i v h tk oI oC m₂ ys nw hi hiv F5 N5 hC5 off5 ⟨n1, n2, n3⟩ ⟨us, hys, hus⟩
      have off6 := off5.mem
      have hi' : i < ts.length := by rw [List.size_toArray] at hi; lia
      refine asg_own F5 N5 (g := fun o₁ => (I, oI) :: (C, o₁) :: (D, LCg.lst ys) :: nw) (.tail n1 (.head fun p hp => by
          rcases List.mem_cons.mp hp with rfl | hp
          · exact Ne.symm n3
          · exact (off6 p hp).2.1)) hC5 rfl rfl ?_
      intro h6 oC6 F6 N6 hC6
      have hx6 : (fun y => if y = Str.ofString "thing" then some v else m₂ y) (Str.ofString "thing") = some v := if_pos rfl
      refine wpAny_tests_nil ?_
      (try dsimp only)
      (repeat' (first | (k_unfold; (try dsimp only)) | (k_end; wrow_close) | ((fail_if_success (with_reducible (refine Mine.stop_here ?_ ?_; walk_at "s0"))); walk1) | (dsimp only; (fail_if_success (with_reducible (refine Mine.stop_here ?_ ?_; walk_at "s0"))); walk1) | (leave1; walk_say "STEP leave1"; try dsimp only) | walk_at "onk" | fail "no step"))
      have hti := hv4.item hi' (show vs[i]? = some v by simpa using hiv)
      have hdi := depth_mem (List.getElem_mem hi')
      refine' ih ?b1 ?b2 ?b3 ?b4 ?b5 ?b6 ?b7 N6 (hti.keeps fun _ _ _ e => F6.keep _ _ e) (Nat.le_trans hdi hn') (slim_mem (List.getElem_mem hi') hs3) ?_
      (case b1 => k_asm); (case b2 => k_asm); (case b3 => k_asm); (case b4 => k_asm); (case b5 => first | exact rfl | assumption); (case b6 => ktr_room); (case b7 => ktr_units)
      intro h7 tk7 v7 t7 new F7 N7 dis keep hv7 hs7
      dsimp only [qk]
      refine ⟨h7, tk7, oC6, _, new ++ nw, rfl, F7, fun p hp => N7 p ?_, hC6, LCg.Off3.of fun p hp => ?_, us ++ [t7], (hys.up fun p hp => List.mem_append_right _ hp).append (.cons (hv7.up fun p hp => List.mem_append_left _ hp) .nil), ?_⟩
      · refine led_go hp ?_
        walk_at "led"
      · rcases List.mem_append.mp hp with hp | hp
        · exact ⟨dis p hp _ (.head _), dis p hp _ (.tail _ (.head _)), dis p hp _ (.tail _ (.tail _ (.head _)))⟩
        · exact off6 p hp
      · rw [List.take_succ, List.getElem?_eq_getElem hi']
        exact hus.snoc hs7
    · rintro h tk ys oC m₂ nw F5 N5 hC5 off5 hCD ⟨us, hys, hus⟩
      have off6 := off5.mem
      rw [List.size_toArray, hl, List.take_length] at hus
      refine aend F5 N5 hC5 ?_ ?_
      · intro p hp
        rcases List.mem_cons.mp hp with rfl | hp
        · exact Ne.symm hCD
        · exact (off6 p hp).2.1
      intro h12 F12 N12
      (try dsimp only)
      (repeat' (first | (k_unfold; (try dsimp only)) | (k_end; wrow_close) | ((fail_if_success (with_reducible (refine Mine.stop_here ?_ ?_; first | walk_at "s0" | exact Mine.p20 | exact Mine.p26 | exact Mine.p22 | exact Mine.p27))); walk1) | (dsimp only; (fail_if_success (with_reducible (refine Mine.stop_here ?_ ?_; first | walk_at "s0" | exact Mine.p20 | exact Mine.p26 | exact Mine.p22 | exact Mine.p27))); walk1) | (leave1; walk_say "STEP leave1"; try dsimp only) | walk_at "onk" | fail "no step"))
      have N12' := N12
      refine sorted_hys F12 N12 (N12.isList (.head _)) hys ((hys.up fun p hp => .tail _ hp).at N12) (by rw [← hus.len]; exact hs2) (d := n) (by rw [hus.depth]; exact Nat.le_succ_of_le hn') ?_ ?_
      · k_units
      intro R h13 c vs' ts' F13 N13 lR keep13 hv13 pm pw
      (try walk_at "onk")
      (try dsimp only)
      refine leaveK_ F13 (news' := (R, listOf vs'.toArray c) :: nw) (fun p hp => N13 p ?_) fun F' N' => ?_
      · rcases List.mem_cons.mp hp with rfl | hp
        · exact .head _
        · exact .tail _ (.tail _ hp)
      have kp : ∀ b o, s.heap.get? b = some o → h13.get? b = some o := fun b o e => F13.keep _ _ (kG' _ _ e (by simp))
      refine ret h13 _ (.ref R) (.node ts') ((R, listOf vs'.toArray c) :: nw) F' (fun p hp => ?_) (fun p hp q hq e => ?_) kp (.mk (.head _) (HysIn.up hv13 fun p hp => .tail _ hp)) (.mk hus pm pw)
      · rcases List.mem_append.mp hp with hp | hp
        · exact N' p hp
        · exact ⟨kp _ _ (N p hp).1, (N p hp).2⟩
      · have e1 : g'.get? q.1 = some q.2 := kG' _ _ (N q hq).1 (by simp)
        have e2 : g'.get? p.1 = none := by
          rcases List.mem_cons.mp hp with rfl | hp
          · exact (N13 _ (.head _)).2.2
          · exact (N13 _ (.tail _ (.tail _ hp))).2.2
        rw [e, e1] at e2
        cases e2
end
section
set_option maxHeartbeats 8000000
local macro_rules | `(tactic| walk_at "none") => `(tactic| skip)
local macro_rules | `(tactic| walk_at "eval Name") => `(tactic| walk_at "evL")
noncomputable def cutW : List Nat → Nat → Hy → Hy
  | [], _, t => t
  | [k], _, .node l => .node (l.take k ++ l.drop (k + 1))
  | [k, j], m, .node l => .node (l.take k ++ List.replicate m (cutW [j] m (l.getD k (.node []))) ++ l.drop (k + 1))
  | k :: j :: i :: r, m, .node l => .node (l.take k ++ [cutW (j :: i :: r) m (l.getD k (.node []))] ++ l.drop (k + 1))
noncomputable def goesB : List Nat → Hy → Bool
  | [], _ => true
  | k :: r, .node l => decide (k < l.length) && goesB r (l.getD k (.node []))
theorem len_is {prog : Program} {w : World} {A : Around} {E : Value → Shared → Prop} {s : Shared} {l : Addr} {vs : List Value} {n : Nat} {Q : Value → Shared → Prop} (hl : s.heap.IsList l vs.toArray) (hn : vs.length = n) (h9 : n ≤ 900)
    (h : Q (.int (n : Int) (s.toks + 1)) { s with toks := s.toks + 1 + 1 }) : wpAny (model prog w) A (call (.builtin "len") [.ref l]) Q E s :=
  len_list hl (by rw [List.size_toArray, hn]; lia) (by rw [List.size_toArray, hn]; exact h)
theorem rep_arr (v : Value) (m : Nat) : List.foldl (fun x1 x2 => x1 ++ x2) #[] (List.replicate (if (#[v] : Array Value).isEmpty = true then 0 else (m : Int).toNat) #[v]) = (List.replicate m v).toArray := by
  have go : ∀ (k : Nat) (a : Array Value), List.foldl (fun x1 x2 => x1 ++ x2) a (List.replicate k #[v]) = a ++ (List.replicate k v).toArray := by
    intro k
    induction k with
    | zero => intro a; simp
    | succ k ih => intro a; rw [List.replicate_succ, List.foldl_cons, ih, List.replicate_succ]; apply Array.toList_inj.mp; simp
  rw [if_neg (by simp), Int.toNat_natCast, go]; simp
noncomputable abbrev orG (l : List (Addr × Obj)) (G : Addr → Obj → Prop) : Addr → Obj → Prop := fun a o => (a, o) ∈ l ∨ G a o
theorem cutT (n : Nat) : ∀ {w : World} {dp un : Nat} {gd : Option (List Code)} {cn : Str} {cs : Scope} {a : Addr} {ccd : Value} {cl : List (Str × Addr)} {outer : List Env} {A₀ : Around} {base h₀ : Heap} {L : Addr} {m mg mb : Str → Option Value} {mean : ExcName → Option Value} {s : Shared} {Q E : Value → Shared → Prop} {G0 : Addr → Obj → Prop} {v : Value} {wa : Addr} {wv : List Value} {wk : Nat} {k0 : Nat} {way : List Nat} {mt : Nat} {tt : Tok} {t : Hy} {rest : List (Addr × Obj)}
    (B : Below A₀ base outer h₀) (F : Fr h₀ L s.heap m) (X : (Mine.hd.heap_1 w.params).In h₀) (T : TP mean mg mb h₀) (hk : cs.kind = .function) (hd : dp + (4 + 3 * n) < recursionLimit) (hu : un + (60 + 24 * n) < cLine)
    (N : News h₀ L s.heap rest) (hG : ∀ a o, G0 a o → s.heap.get? a = some o) (hv : HyG G0 v t) (hw : s.heap.get? wa = some (listOf wv.toArray wk)) (hi : IntsAre wv ((k0 :: way).map Int.ofNat)) (hn : way.length < n) (hn2 : n ≤ 60) (hg : goesB (k0 :: way) t = true) (hs : t.slim) (hm2 : mt ≤ 3)
    (ret : ∀ h' tk' v' new, Fr h₀ L h' m → News h₀ L h' (new ++ rest) → (∀ p ∈ new, ∀ q ∈ rest, p.1 ≠ q.1) → (∀ b o, s.heap.get? b = some o → h'.get? b = some o) → HyG (orG new G0) v' (cutW (k0 :: way) mt t) → Q v' { s with heap := h', toks := tk' }),
    wpAny (model PG w) (ktrTop dp un gd cn cs L a ccd cl outer) (call (.ref 177) [v, .ref wa, .int (mt : Int) tt]) Q E s := by
  induction n with
  | zero =>
    intro w dp un gd cn cs a ccd cl outer A₀ base h₀ L m mg mb mean s Q E G0 v wa wv wk k0 way mt tt t rest B F X T hk hd hu N hG hv hw hi hn
    exact absurd hn (Nat.not_lt_zero _)
  | succ n ih =>
    intro w dp un gd cn cs a ccd cl outer A₀ base h₀ L m mg mb mean s Q E G0 v wa wv wk k0 way mt tt t rest B F X T hk hd hu N hG hv hw hi hn hn2 hg hs hm2 ret
    obtain ⟨hv1, hv2⟩ := hv
    rename_i ax vs c ts
    have N0 : News h₀ L s.heap [] := fun p hp => nomatch hp
    have hl := hv2.length
    have hs2 : ts.length < 64 := hs.1
    have hs3 : slimL ts := hs.2
    have hk0 : k0 < ts.length ∧ goesB way (ts.getD k0 (.node [])) = true := by
      simp only [goesB, Bool.and_eq_true, decide_eq_true_eq] at hg; exact hg
    refine wpAny_call ?_
    k_dflt (refine' code_defG ?k1 ?k2 ?k3 ?k4 ?k5 ?kA ?kF ?kK ?k6 ?k7 ?k8 ?k9 ?kB ?_ ?c2 ?c3 ?c4 ?c5; (case kA => exact rfl); (case kF => exact rfl); (case kK => assumption); (case k1 => k_asm); (case k2 => k_asm); (case k3 => k_asm); (case k4 => exact N0); (case k5 => k_asm); (case k6 => k_is); (case k7 => k_is); (case k8 => ktr_room); (case k9 => exact BindsTo.of_eq rfl); (case c5 => decide); (case kB => exact locs rfl); (case c2 => exact rfl); (case c3 => exact rfl); (case c4 => exact rfl); k_whole; intro g' L' h' FG' F' N' B' X' T' kG'; (try dsimp only); (try k_fold))
    have hG' : ∀ a o, G0 a o → g'.get? a = some o := fun a o e => kG' _ _ (hG _ _ e) (by simp)
    have hv3 : g'.get? ax = some (listOf vs.toArray c) := hG' _ _ hv1
    have hw3 : g'.get? wa = some (listOf wv.toArray wk) := kG' _ _ hw (by simp)
    obtain ⟨tk0, hw0⟩ : ∃ tk0, wv[(0 : Int).toNat]? = some (.int (k0 : Int) tk0) := by
      obtain ⟨u, e⟩ := hi.get 0 (k0 : Int) rfl
      exact ⟨u, e⟩
    obtain ⟨tv, htv, htv2⟩ := hv2.get k0 hk0.1
    have fin : ∀ hE mE nE vE tkE, Fr g' L' hE mE → News g' L' hE nE → HyG (orG nE G0) vE (cutW (k0 :: way) mt (.node ts)) → qk (.ret vE) { s with heap := hE, toks := tkE } := by
      intro hE mE nE vE tkE FE NE hyE
      dsimp only [qk]
      refine leaveK_ FE (news' := nE) NE fun FL NL => ?_
      have kp : ∀ b o, s.heap.get? b = some o → hE.get? b = some o := fun b o e => FE.keep _ _ (kG' _ _ e (by simp))
      refine ret hE tkE vE nE FL (fun p hp => ?_) (fun p hp q hq e => ?_) kp hyE
      · rcases List.mem_append.mp hp with hp | hp
        · exact NL p hp
        · exact ⟨kp _ _ (N p hp).1, (N p hp).2⟩
      · have e1 : g'.get? q.1 = some q.2 := kG' _ _ (N q hq).1 (by simp)
        have e2 := (NE p hp).2.2
        rw [e, e1] at e2
        cases e2
    (repeat' (first | (k_unfold; (try dsimp only)) | (k_end; wrow_close) | ((fail_if_success (with_reducible (refine Mine.stop_here ?_ ?_; first | walk_at "s0" | exact Mine.p20 | exact Mine.p21 | exact Mine.p22 | exact Mine.p23 | exact Mine.p24 | exact Mine.p14))); walk1) | (dsimp only; (fail_if_success (with_reducible (refine Mine.stop_here ?_ ?_; first | walk_at "s0" | exact Mine.p20 | exact Mine.p21 | exact Mine.p22 | exact Mine.p23 | exact Mine.p24 | exact Mine.p14))); walk1) | (leave1; walk_say "STEP leave1"; try dsimp only) | walk_at "onk" | fail "no step"))
    refine item_listL (l := wv) ⟨_, F'.keep _ _ hw3, rfl, _, rfl⟩ (by decide) (by decide) hw0 ?_
    (repeat' (first | (k_unfold; (try dsimp only)) | (k_end; wrow_close) | ((fail_if_success (with_reducible (refine Mine.stop_here ?_ ?_; first | walk_at "s0" | exact Mine.p20 | exact Mine.p21 | exact Mine.p22 | exact Mine.p23 | exact Mine.p24 | exact Mine.p14))); walk1) | (dsimp only; (fail_if_success (with_reducible (refine Mine.stop_here ?_ ?_; first | walk_at "s0" | exact Mine.p20 | exact Mine.p21 | exact Mine.p22 | exact Mine.p23 | exact Mine.p24 | exact Mine.p14))); walk1) | (leave1; walk_say "STEP leave1"; try dsimp only) | walk_at "onk" | fail "no step"))
    refine slice_list (s := { s with heap := h', toks := _ }) (items := vs.toArray) (lo := none) (hi := some (k0 : Int)) F' N' ⟨_, F'.keep _ _ hv3, rfl, _, rfl⟩ .none (.int _ _) ?_ ?_ ?_ ?_
    · intro h1 F1 N1
      rw [slicePick_upto'] at N1
      (try dsimp only)
      (repeat' (first | (k_unfold; (try dsimp only)) | (k_end; wrow_close) | ((fail_if_success (with_reducible (refine Mine.stop_here ?_ ?_; first | walk_at "s0" | exact Mine.p20 | exact Mine.p21 | exact Mine.p22 | exact Mine.p23 | exact Mine.p24 | exact Mine.p14))); walk1) | (dsimp only; (fail_if_success (with_reducible (refine Mine.stop_here ?_ ?_; first | walk_at "s0" | exact Mine.p20 | exact Mine.p21 | exact Mine.p22 | exact Mine.p23 | exact Mine.p24 | exact Mine.p14))); walk1) | (leave1; walk_say "STEP leave1"; try dsimp only) | walk_at "onk" | fail "no step"))
      refine item_listL (l := wv) ⟨_, F1.keep _ _ hw3, rfl, _, rfl⟩ (by decide) (by decide) hw0 ?_
      (try dsimp only)
      (repeat' (first | (k_unfold; (try dsimp only)) | (k_end; wrow_close) | ((fail_if_success (with_reducible (refine Mine.stop_here ?_ ?_; first | walk_at "s0" | exact Mine.p20 | exact Mine.p21 | exact Mine.p22 | exact Mine.p23 | exact Mine.p24 | exact Mine.p14))); walk1) | (dsimp only; (fail_if_success (with_reducible (refine Mine.stop_here ?_ ?_; first | walk_at "s0" | exact Mine.p20 | exact Mine.p21 | exact Mine.p22 | exact Mine.p23 | exact Mine.p24 | exact Mine.p14))); walk1) | (leave1; walk_say "STEP leave1"; try dsimp only) | walk_at "onk" | fail "no step"))
      refine item_listL (l := vs) ⟨_, F1.keep _ _ hv3, rfl, _, rfl⟩ (Int.natCast_nonneg _) (by have := hk0.1; lia) (by simpa using htv) ?_
      (try dsimp only)
      (repeat' (first | (k_unfold; (try dsimp only)) | (k_end; wrow_close) | ((fail_if_success (with_reducible (refine Mine.stop_here ?_ ?_; first | walk_at "s0" | exact Mine.p20 | exact Mine.p21 | exact Mine.p22 | exact Mine.p23 | exact Mine.p24 | exact Mine.p14))); walk1) | (dsimp only; (fail_if_success (with_reducible (refine Mine.stop_here ?_ ?_; first | walk_at "s0" | exact Mine.p20 | exact Mine.p21 | exact Mine.p22 | exact Mine.p23 | exact Mine.p24 | exact Mine.p14))); walk1) | (leave1; walk_say "STEP leave1"; try dsimp only) | walk_at "onk" | fail "no step"))
      refine item_listL (l := wv) ⟨_, F1.keep _ _ hw3, rfl, _, rfl⟩ (by decide) (by decide) hw0 ?_
      (try dsimp only)
      (repeat' (first | (k_unfold; (try dsimp only)) | (k_end; wrow_close) | ((fail_if_success (with_reducible (refine Mine.stop_here ?_ ?_; first | walk_at "s0" | exact Mine.p20 | exact Mine.p21 | exact Mine.p22 | exact Mine.p23 | exact Mine.p24 | exact Mine.p14))); walk1) | (dsimp only; (fail_if_success (with_reducible (refine Mine.stop_here ?_ ?_; first | walk_at "s0" | exact Mine.p20 | exact Mine.p21 | exact Mine.p22 | exact Mine.p23 | exact Mine.p24 | exact Mine.p14))); walk1) | (leave1; walk_say "STEP leave1"; try dsimp only) | walk_at "onk" | fail "no step"))
      refine slice_list (s := { s with heap := h1, toks := _ }) (items := vs.toArray) (lo := some ((k0 : Int) + 1)) (hi := none) F1 N1 ⟨_, F1.keep _ _ hv3, rfl, _, rfl⟩ (.int _ _) .none ?_ ?_ ?_ ?_
      · intro h2 F2 N2
        rw [show ((k0 : Int) + 1) = ((k0 + 1 : Nat) : Int) from rfl, slicePick_from'] at N2
        (try dsimp only)
        (repeat' (first | (k_unfold; (try dsimp only)) | (k_end; wrow_close) | ((fail_if_success (with_reducible (refine Mine.stop_here ?_ ?_; first | walk_at "s0" | exact Mine.p20 | exact Mine.p21 | exact Mine.p22 | exact Mine.p23 | exact Mine.p24 | exact Mine.p14))); walk1) | (dsimp only; (fail_if_success (with_reducible (refine Mine.stop_here ?_ ?_; first | walk_at "s0" | exact Mine.p20 | exact Mine.p21 | exact Mine.p22 | exact Mine.p23 | exact Mine.p24 | exact Mine.p14))); walk1) | (leave1; walk_say "STEP leave1"; try dsimp only) | walk_at "onk" | fail "no step"))
        rename Fr g' L' _ _ => F3
        rename News g' L' _ _ => N3
        have hwl := hi.length
        refine len_is (vs := wv) (n := way.length + 1) ⟨_, F3.keep _ _ hw3, rfl, _, rfl⟩ (by rw [hwl]; simp) (by lia) ?_
        rcases way with _ | ⟨k1, way⟩
        · (repeat' (first | (k_unfold; (try dsimp only)) | (k_end; wrow_close) | ((fail_if_success (with_reducible (refine Mine.stop_here ?_ ?_; first | walk_at "s0" | exact Mine.p20 | exact Mine.p21 | exact Mine.p22 | exact Mine.p23 | exact Mine.p24 | exact Mine.p14))); walk1) | (dsimp only; (fail_if_success (with_reducible (refine Mine.stop_here ?_ ?_; first | walk_at "s0" | exact Mine.p20 | exact Mine.p21 | exact Mine.p22 | exact Mine.p23 | exact Mine.p24 | exact Mine.p14))); walk1) | (leave1; walk_say "STEP leave1"; try dsimp only) | walk_at "onk" | fail "no step"))
          refine add_lists (vs := vs.take k0) (ws := vs.drop (k0 + 1)) F3 N3 (N3.isList (.tail _ (.tail _ (.head _)))) (N3.isList (.tail _ (.head _))) ?_ ?_
          · intro h4 F4 N4
            (try walk_at "onk")
            (try walk_at "onk")
            (try dsimp only)
            exact fin h4 _ _ _ _ F4 N4 (.mk (.inl (.head _)) (((hv2.take k0).append (hv2.drop (k0 + 1))).keeps fun _ _ _ e => .inr e))
          · rw [List.length_take, List.length_drop, sizeLine_eq]; lia
        · have hne : ¬ (((k1 :: way).length + 1 : Nat) : Int) = 1 := by rw [List.length_cons]; lia
          (repeat' (first | (k_unfold; (try dsimp only)) | (k_end; wrow_close) | ((fail_if_success (with_reducible (refine Mine.stop_here ?_ ?_; first | walk_at "s0" | exact Mine.p20 | exact Mine.p21 | exact Mine.p22 | exact Mine.p23 | exact Mine.p24 | exact Mine.p14))); walk1) | (dsimp only; (fail_if_success (with_reducible (refine Mine.stop_here ?_ ?_; first | walk_at "s0" | exact Mine.p20 | exact Mine.p21 | exact Mine.p22 | exact Mine.p23 | exact Mine.p24 | exact Mine.p14))); walk1) | (leave1; walk_say "STEP leave1"; try dsimp only) | walk_at "onk" | fail "no step"))
          · rename ((_ : Nat) : Int) = 1 => hq
            exact absurd hq hne
          rename Fr g' L' _ _ => F4
          rename News g' L' _ _ => N4
          refine len_is (vs := wv) (n := (k1 :: way).length + 1) ⟨_, F4.keep _ _ hw3, rfl, _, rfl⟩ (by rw [hwl]; simp) (by lia) ?_
          rcases way with _ | ⟨k2, way⟩
          · (repeat' (first | (k_unfold; (try dsimp only)) | (k_end; wrow_close) | ((fail_if_success (with_reducible (refine Mine.stop_here ?_ ?_; first | walk_at "s0" | exact Mine.p20 | exact Mine.p21 | exact Mine.p22 | exact Mine.p23 | exact Mine.p24 | exact Mine.p14))); walk1) | (dsimp only; (fail_if_success (with_reducible (refine Mine.stop_here ?_ ?_; first | walk_at "s0" | exact Mine.p20 | exact Mine.p21 | exact Mine.p22 | exact Mine.p23 | exact Mine.p24 | exact Mine.p14))); walk1) | (leave1; walk_say "STEP leave1"; try dsimp only) | walk_at "onk" | fail "no step"))
            rotate_left
            · rename ((_ : Nat) : Int) ≠ 2 => hq
              exact absurd rfl hq
            refine slice_list (s := { s with heap := _, toks := _ }) (items := wv.toArray) (lo := some (1 : Int)) (hi := none) F4 N4 ⟨_, F4.keep _ _ hw3, rfl, _, rfl⟩ (.int _ _) .none ?_ ?_ ?_ ?_
            · intro h5 F5 N5
              rw [show (1 : Int) = ((1 : Nat) : Int) from rfl, slicePick_from'] at N5
              (try dsimp only)
              (repeat' (first | (k_unfold; (try dsimp only)) | (k_end; wrow_close) | ((fail_if_success (with_reducible (refine Mine.stop_here ?_ ?_; first | walk_at "s0" | exact Mine.p20 | exact Mine.p21 | exact Mine.p22 | exact Mine.p23 | exact Mine.p24 | exact Mine.p14))); walk1) | (dsimp only; (fail_if_success (with_reducible (refine Mine.stop_here ?_ ?_; first | walk_at "s0" | exact Mine.p20 | exact Mine.p21 | exact Mine.p22 | exact Mine.p23 | exact Mine.p24 | exact Mine.p14))); walk1) | (leave1; walk_say "STEP leave1"; try dsimp only) | walk_at "onk" | fail "no step"))
              refine' ih (k0 := k1) (way := []) (wv := wv.drop 1) (mt := mt) ?b1 ?b2 ?b3 ?b4 ?b5 ?b6 ?b7 N5 (fun _ _ e => F5.keep _ _ (hG' _ _ e)) htv2 (N5 _ (.head _)).1 (hi.drop 1) ?c1 (by lia) ?c2 (slim_mem (List.getElem_mem hk0.1) hs3) hm2 ?_
              (case b1 => k_asm); (case b2 => k_asm); (case b3 => k_asm); (case b4 => k_asm); (case b5 => first | exact rfl | assumption); (case b6 => ktr_room); (case b7 => ktr_units)
              (case c1 => simp only [List.length_cons] at hn ⊢; lia)
              (case c2 => have := hk0.2; rwa [List.getD_eq_getElem?_getD, List.getElem?_eq_getElem hk0.1] at this)
              intro h6 tk6 v6 new F6 N6 dis6 keep6 hy6
              (try dsimp only)
              (repeat' (first | (k_unfold; (try dsimp only)) | (k_end; wrow_close) | ((fail_if_success (with_reducible (refine Mine.stop_here ?_ ?_; first | walk_at "s0" | exact Mine.p20 | exact Mine.p21 | exact Mine.p22 | exact Mine.p23 | exact Mine.p24 | exact Mine.p14))); walk1) | (dsimp only; (fail_if_success (with_reducible (refine Mine.stop_here ?_ ?_; first | walk_at "s0" | exact Mine.p20 | exact Mine.p21 | exact Mine.p22 | exact Mine.p23 | exact Mine.p24 | exact Mine.p14))); walk1) | (leave1; walk_say "STEP leave1"; try dsimp only) | walk_at "onk" | fail "no step"))
              rename Fr g' L' _ _ => F7
              rename News g' L' _ _ => N7
              rw [rep_arr] at N7
              refine add_lists (vs := vs.take k0) (ws := List.replicate mt v6) F7 N7 (N7.isList (by walk_at "memA")) (N7.isList (.head _)) ?_ ?_
              · intro h8 F8 N8
                (try dsimp only)
                (repeat' (first | (k_unfold; (try dsimp only)) | (k_end; wrow_close) | ((fail_if_success (with_reducible (refine Mine.stop_here ?_ ?_; first | walk_at "s0" | exact Mine.p20 | exact Mine.p21 | exact Mine.p22 | exact Mine.p23 | exact Mine.p24 | exact Mine.p14))); walk1) | (dsimp only; (fail_if_success (with_reducible (refine Mine.stop_here ?_ ?_; first | walk_at "s0" | exact Mine.p20 | exact Mine.p21 | exact Mine.p22 | exact Mine.p23 | exact Mine.p24 | exact Mine.p14))); walk1) | (leave1; walk_say "STEP leave1"; try dsimp only) | walk_at "onk" | fail "no step"))
                refine add_lists (vs := vs.take k0 ++ List.replicate mt v6) (ws := vs.drop (k0 + 1)) F8 N8 (N8.isList (.head _)) (N8.isList (by walk_at "memA")) ?_ ?_
                · intro h9 F9 N9
                  (try walk_at "onk")
                  (try walk_at "onk")
                  (try dsimp only)
                  refine fin h9 _ _ _ _ F9 N9 (.mk (.inl (.head _)) ((((hv2.take k0).keeps fun _ _ _ e => .inr e).append ?_).append ((hv2.drop (k0 + 1)).keeps fun _ _ _ e => .inr e)))
                  have e0 : ts.getD k0 (.node []) = ts[k0] := by rw [List.getD_eq_getElem?_getD, List.getElem?_eq_getElem hk0.1]; rfl
                  rw [e0]
                  exact HysG.rep (hy6.keeps fun _ _ _ e => e.imp (fun e => by walk_at "memA") id) mt
                · rw [List.length_append, List.length_take, List.length_replicate, List.length_drop, sizeLine_eq]; lia
              · rw [List.length_take, List.length_replicate, sizeLine_eq]; lia
            · with_unfolding_all rfl
            · intro _; with_unfolding_all rfl
            · rw [List.size_toArray, sizeLine_eq, hwl]; simp only [List.length_map, List.length_cons] at hn ⊢; lia
          · have hne2 : ¬ (((k1 :: k2 :: way).length + 1 : Nat) : Int) = 2 := by rw [List.length_cons, List.length_cons]; lia
            (repeat' (first | (k_unfold; (try dsimp only)) | (k_end; wrow_close) | ((fail_if_success (with_reducible (refine Mine.stop_here ?_ ?_; first | walk_at "s0" | exact Mine.p20 | exact Mine.p21 | exact Mine.p22 | exact Mine.p23 | exact Mine.p24 | exact Mine.p14))); walk1) | (dsimp only; (fail_if_success (with_reducible (refine Mine.stop_here ?_ ?_; first | walk_at "s0" | exact Mine.p20 | exact Mine.p21 | exact Mine.p22 | exact Mine.p23 | exact Mine.p24 | exact Mine.p14))); walk1) | (leave1; walk_say "STEP leave1"; try dsimp only) | walk_at "onk" | fail "no step"))
            · rename ((_ : Nat) : Int) = 2 => hq
              exact absurd hq hne2
            refine slice_list (s := { s with heap := _, toks := _ }) (items := wv.toArray) (lo := some (1 : Int)) (hi := none) F4 N4 ⟨_, F4.keep _ _ hw3, rfl, _, rfl⟩ (.int _ _) .none ?_ ?_ ?_ ?_
            · intro h5 F5 N5
              rw [show (1 : Int) = ((1 : Nat) : Int) from rfl, slicePick_from'] at N5
              (try dsimp only)
              (repeat' (first | (k_unfold; (try dsimp only)) | (k_end; wrow_close) | ((fail_if_success (with_reducible (refine Mine.stop_here ?_ ?_; first | walk_at "s0" | exact Mine.p20 | exact Mine.p21 | exact Mine.p22 | exact Mine.p23 | exact Mine.p24 | exact Mine.p14))); walk1) | (dsimp only; (fail_if_success (with_reducible (refine Mine.stop_here ?_ ?_; first | walk_at "s0" | exact Mine.p20 | exact Mine.p21 | exact Mine.p22 | exact Mine.p23 | exact Mine.p24 | exact Mine.p14))); walk1) | (leave1; walk_say "STEP leave1"; try dsimp only) | walk_at "onk" | fail "no step"))
              refine' ih (k0 := k1) (way := k2 :: way) (wv := wv.drop 1) (mt := mt) ?b1 ?b2 ?b3 ?b4 ?b5 ?b6 ?b7 N5 (fun _ _ e => F5.keep _ _ (hG' _ _ e)) htv2 (N5 _ (.head _)).1 (hi.drop 1) ?c1 (by lia) ?c2 (slim_mem (List.getElem_mem hk0.1) hs3) hm2 ?_
              (case b1 => k_asm); (case b2 => k_asm); (case b3 => k_asm); (case b4 => k_asm); (case b5 => first | exact rfl | assumption); (case b6 => ktr_room); (case b7 => ktr_units)
              (case c1 => simp only [List.length_cons] at hn ⊢; lia)
              (case c2 => have := hk0.2; rwa [List.getD_eq_getElem?_getD, List.getElem?_eq_getElem hk0.1] at this)
              intro h6 tk6 v6 new F6 N6 dis6 keep6 hy6
              (try dsimp only)
              (repeat' (first | (k_unfold; (try dsimp only)) | (k_end; wrow_close) | ((fail_if_success (with_reducible (refine Mine.stop_here ?_ ?_; first | walk_at "s0" | exact Mine.p20 | exact Mine.p21 | exact Mine.p22 | exact Mine.p23 | exact Mine.p24 | exact Mine.p14))); walk1) | (dsimp only; (fail_if_success (with_reducible (refine Mine.stop_here ?_ ?_; first | walk_at "s0" | exact Mine.p20 | exact Mine.p21 | exact Mine.p22 | exact Mine.p23 | exact Mine.p24 | exact Mine.p14))); walk1) | (leave1; walk_say "STEP leave1"; try dsimp only) | walk_at "onk" | fail "no step"))
              rename Fr g' L' _ _ => F7
              rename News g' L' _ _ => N7
              refine add_lists (vs := vs.take k0) (ws := [v6]) F7 N7 (N7.isList (by walk_at "memA")) (N7.isList (.head _)) ?_ ?_
              · intro h8 F8 N8
                (try dsimp only)
                (repeat' (first | (k_unfold; (try dsimp only)) | (k_end; wrow_close) | ((fail_if_success (with_reducible (refine Mine.stop_here ?_ ?_; first | walk_at "s0" | exact Mine.p20 | exact Mine.p21 | exact Mine.p22 | exact Mine.p23 | exact Mine.p24 | exact Mine.p14))); walk1) | (dsimp only; (fail_if_success (with_reducible (refine Mine.stop_here ?_ ?_; first | walk_at "s0" | exact Mine.p20 | exact Mine.p21 | exact Mine.p22 | exact Mine.p23 | exact Mine.p24 | exact Mine.p14))); walk1) | (leave1; walk_say "STEP leave1"; try dsimp only) | walk_at "onk" | fail "no step"))
                refine add_lists (vs := vs.take k0 ++ [v6]) (ws := vs.drop (k0 + 1)) F8 N8 (N8.isList (.head _)) (N8.isList (by walk_at "memA")) ?_ ?_
                · intro h9 F9 N9
                  (try walk_at "onk")
                  (try walk_at "onk")
                  (try dsimp only)
                  refine fin h9 _ _ _ _ F9 N9 (.mk (.inl (.head _)) ((((hv2.take k0).keeps fun _ _ _ e => .inr e).append (.cons ?_ .nil)).append ((hv2.drop (k0 + 1)).keeps fun _ _ _ e => .inr e)))
                  have e0 : ts.getD k0 (.node []) = ts[k0] := by rw [List.getD_eq_getElem?_getD, List.getElem?_eq_getElem hk0.1]; rfl
                  rw [e0]
                  exact hy6.keeps fun _ _ _ e => e.imp (fun e => by walk_at "memA") id
                · rw [List.length_append, List.length_take, List.length_singleton, List.length_drop, sizeLine_eq]; lia
              · rw [List.length_take, List.length_singleton, sizeLine_eq]; lia
            · with_unfolding_all rfl
            · intro _; with_unfolding_all rfl
            · rw [List.size_toArray, sizeLine_eq, hwl]; simp only [List.length_map, List.length_cons] at hn ⊢; lia
      · with_unfolding_all rfl
      · intro _; with_unfolding_all rfl
      · rw [List.size_toArray, sizeLine_eq]; lia
    · with_unfolding_all rfl
    · intro _; with_unfolding_all rfl
    · rw [List.size_toArray, sizeLine_eq]; lia
end
section
set_option maxHeartbeats 8000000
section
open LCg
variable {prog : Program} {w : World} {A : Around} {E : Value → Shared → Prop} {s : Shared} {env : Env} {h₀ : Heap} {m₀ : Str → Option Value} {news₀ : List (Addr × Obj)} {body : List Stmt} {Q : Flow → Shared → Prop}
theorem turns_enum2 {elts : List Expr} {k : Nat} {pos : Pos} {l : Addr} {vs : List Value} {nl : Nat} (J : Nat → (Str → Option Value) → List (Addr × Obj) → Prop) (hh : A.handled = none) (F : Fr h₀ env.locals s.heap m₀)
    (N : News h₀ env.locals s.heap news₀) (hJ : ∀ i m nw, J i m nw → h₀.get? l = some (listOf vs.toArray nl) ∨ (l, listOf vs.toArray nl) ∈ nw) (h0 : J 0 m₀ news₀)
    (step : ∀ i x T t m₁ news₁ h₁ tk₁ e oe I oI, vs[i]? = some x → J i m₁ news₁ → (∀ q ∈ news₁, e ≠ q.1 ∧ I ≠ q.1) → (@Ne Nat e I) → Fr h₀ env.locals h₁ m₁ → News h₀ env.locals h₁ ((e, oe) :: (I, oI) :: news₁) → IsTup h₁ T #[.int (i : Nat) t, x] →
      wpAny (model prog w) A (assign (.Tuple elts k pos) env (.ref T)) (fun _ s₃ => wpAny (model prog w) A (execs body env) (TurnEnd h₀ env.locals [(e, oe), (I, oI)] (J (i + 1)) { s with heap := h₁, toks := tk₁ } Q) E s₃) E { s with heap := h₁, toks := tk₁ })
    (done : ∀ m' news' h' tk, J vs.length m' news' → Fr h₀ env.locals h' m' → News h₀ env.locals h' news' → Q .next { s with heap := h', toks := tk }) :
    wpAny (model prog w) A (call (.type "enumerate") [.ref l]) (fun xv s₁ => wpAny (model prog w) A (pyIter xv) (fun it s₂ => TurnsAt prog w A h₀ env (.Tuple elts k pos) body Q E it s₂) E s₁) E s := by
  have hax : s.heap.get? l = some (listOf vs.toArray nl) := (hJ _ _ _ h0).elim (F.keep _ _) fun e => (N _ e).1
  have haL : l ≠ env.locals := (hJ _ _ _ h0).elim (fun e => Nat.ne_of_lt (Nat.lt_of_lt_of_le (Heap.lt_size e) F.above)) fun e => (N _ e).2.1
  have hl : s.heap.IsList l vs.toArray := ⟨_, hax, rfl, nl, rfl⟩
  have hlt : l < s.heap.objs.size := Heap.lt_size hax
  have hLs : env.locals < s.heap.objs.size := F.ns.lt
  refine call_enumerate_list hl fun h' hE hI hsz hk => ?_
  refine wpAny_pyIter_enum hE ?_
  have W := KTurns.ofWalksU (elts := elts) (k := k) (pos := pos) (WalksT.enumerate (prog := prog) (w := w) hh (s.heap.objs.size + 1) s.heap.objs.size l (Nat.succ_ne_self _) (ktu_ne 1 hlt) (Nat.ne_of_lt hlt) vs.toArray).toU
  have nI : h₀.get? s.heap.objs.size = none := ktu_new F (Nat.le_refl _)
  have ne : h₀.get? (s.heap.objs.size + 1) = none := ktu_new F (Nat.le_add_right _ _)
  refine ⟨s.heap.objs.size + 1, _, _, vs.toArray.size, _, _, _, m₀, news₀, J, rfl, W, ?_, ?_, ?_, ?_, F.keeps hk, N.grown hk, h0, ?_, ?_⟩
  · intro hI'
    have hb' : env.locals = s.heap.objs.size + 1 ∨ env.locals = s.heap.objs.size ∨ env.locals = l := by simpa using hI'
    rcases hb' with e | e | e
    · exact ktu_ne 1 hLs e
    · exact Nat.ne_of_lt hLs e
    · exact haL e.symm
  · intro b hb
    have hb' : b = s.heap.objs.size + 1 ∨ b = s.heap.objs.size := by simpa using hb
    rcases hb' with rfl | rfl
    · exact ne
    · exact nI
  · intro p hp hb
    have hp' := Heap.lt_size (N p hp).1
    have hb' : p.1 = s.heap.objs.size + 1 ∨ p.1 = s.heap.objs.size := by simpa using hb
    rcases hb' with e | e
    · exact ktu_ne 1 hp' e
    · exact Nat.ne_of_lt hp' e
  · exact ⟨⟨_, hE⟩, hI, hl.at fun o e => hk _ _ e⟩
  · rintro i v m₁ news₁ h₁ tk₁ own hi ⟨T, vals, rfl, ⟨t, x, hx, rfl⟩, hT⟩ hJ₁ hw ho1 ho2 ho3 st F₁ N₁
    obtain ⟨⟨old, he⟩, ⟨oi, hoi, hic, _⟩, _⟩ := st
    obtain ⟨oe, hoe⟩ : ∃ oe : Obj, h₁.get? (s.heap.objs.size + 1) = some oe := ⟨_, he⟩
    have m1 := ho3 (s.heap.objs.size + 1) (.head _) ne oe hoe
    have m2 := ho3 s.heap.objs.size (.tail _ (.head _)) nI oi hoi
    have eax : h₁.get? l = some (listOf vs.toArray nl) := (hJ _ _ _ hJ₁).elim (F₁.keep _ _) fun e => (N₁ _ (List.mem_append_right _ e)).1
    have dis : ∀ q ∈ news₁, s.heap.objs.size + 1 ≠ q.1 ∧ s.heap.objs.size ≠ q.1 := fun q hq => ⟨fun e => hw q hq (by rw [← e]; exact .head _), fun e => hw q hq (by rw [← e]; exact .tail _ (.head _))⟩
    refine wpAny_mono (step i x T t m₁ news₁ h₁ tk₁ (s.heap.objs.size + 1) oe s.heap.objs.size oi (by simpa using hx) hJ₁ dis (Nat.succ_ne_self _) F₁ (fun p hp => N₁ p (by
      rcases List.mem_cons.mp hp with h | hp
      · subst h; exact List.mem_append_left _ m1
      rcases List.mem_cons.mp hp with h | hp
      · subst h; exact List.mem_append_left _ m2
      · exact List.mem_append_right _ hp)) hT) (fun _ s₃ h₃ => wpAny_mono h₃ (fun f s₄ h₄ => ?_) fun _ _ e => e) fun _ _ e => e
    have fin : ((Ex4 fun h' tk m' news' => Cj5 (s₄ = { { s with heap := h₁, toks := tk₁ } with heap := h', toks := tk }) (Fr h₀ env.locals h' m') (News h₀ env.locals h' ([(s.heap.objs.size + 1, oe), (s.heap.objs.size, oi)] ++ news')) ((∀ p ∈ [(s.heap.objs.size + 1, oe), (s.heap.objs.size, oi)], ∀ q ∈ news', p.1 ≠ q.1)) (J (i + 1) m' news'))) →
        LoopStepU h₀ env.locals [s.heap.objs.size + 1, s.heap.objs.size] own (J (i + 1)) { s with heap := h₁, toks := tk₁ } .next s₄ := by
      rintro ⟨h', tk, m', news', rfl, F', N', dis', hJ'⟩
      refine ⟨rfl, h', tk, m', news', rfl, F', fun p hp => ?_, fun p hp hI => ?_, hJ'⟩
      · rcases List.mem_append.mp hp with h | h
        · have e2 := ho2 p h
          have e := ho1 p h
          have e' : p.1 = s.heap.objs.size + 1 ∨ p.1 = s.heap.objs.size ∨ p.1 = l := by simpa using e
          obtain ⟨p1, p2⟩ := p
          dsimp only at e' e2
          rcases e' with rfl | rfl | rfl
          · rw [hoe] at e2; cases e2
            exact N' _ (.head _)
          · rw [hoi] at e2; cases e2
            exact N' _ (.tail _ (.head _))
          · rw [eax] at e2; cases e2
            rcases hJ _ _ _ hJ' with e3 | e3
            · have e4 := (N₁ _ (List.mem_append_left _ h)).2.2
              rw [e3] at e4; cases e4
            · exact N' _ (List.mem_append_right _ e3)
        · exact N' p (List.mem_append_right _ h)
      · have hb' : p.1 = s.heap.objs.size + 1 ∨ p.1 = s.heap.objs.size := by simpa using hI
        rcases hb' with e | e
        · exact dis' _ (.head _) p hp e.symm
        · exact dis' _ (.tail _ (.head _)) p hp e.symm
    cases f with
    | ret v => exact h₄
    | brk => exact h₄
    | next => exact fin h₄
    | cont => exact fin h₄
  · rintro h' tk m' news' F' N' _ hJ'
    exact done m' news' h' tk (by simpa using hJ') F' N'
end
end
section
set_option maxHeartbeats 8000000
local macro_rules | `(tactic| walk_at "eval Name") => `(tactic| first | walk_at "own" | walk_at "evE")
mutual
noncomputable def headsH : Hy → List (List Nat)
  | .node l => headsL 0 l
noncomputable def headsL : Nat → List Hy → List (List Nat)
  | _, [] => []
  | k, t :: r => ((headsH t).map (k :: ·) ++ if eqH t (.node []) then [[k]] else []) ++ headsL (k + 1) r
end
theorem headsL_snoc (t : Hy) : ∀ (l : List Hy) (k : Nat), headsL k (l ++ [t]) = headsL k l ++ ((headsH t).map ((k + l.length) :: ·) ++ if eqH t (.node []) then [[k + l.length]] else [])
  | [], k => by simp [headsL]
  | a :: l, k => by
    have e : k + 1 + l.length = k + (l.length + 1) := by lia
    rw [List.cons_append, headsL, headsL, headsL_snoc t l (k + 1), List.length_cons, e]; simp only [List.append_assoc]
mutual
noncomputable def cntH : Hy → Nat
  | .node l => cntL l
noncomputable def cntL : List Hy → Nat
  | [] => 0
  | t :: r => cntH t + (if eqH t (.node []) then 1 else 0) + cntL r
end
mutual
theorem headsH_cnt : ∀ t : Hy, (headsH t).length = cntH t
  | .node l => by rw [headsH, cntH, headsL_cnt l 0]
theorem headsL_cnt : ∀ (l : List Hy) (k : Nat), (headsL k l).length = cntL l
  | [], _ => by simp [headsL, cntL]
  | t :: r, k => by
    rw [headsL, cntL, List.length_append, List.length_append, List.length_map, headsH_cnt t, headsL_cnt r (k + 1)]
    split <;> rfl
end
theorem cntL_get : ∀ (l : List Hy) (i : Nat) (hi : i < l.length), cntL (l.take i) + cntH l[i] + (if eqH l[i] (.node []) then 1 else 0) ≤ cntL l
  | [], i, hi => absurd hi (Nat.not_lt_zero _)
  | t :: r, 0, _ => by simp only [List.take_zero, cntL, List.getElem_cons_zero]; lia
  | t :: r, i + 1, hi => by
    have := cntL_get r i (Nat.lt_of_succ_lt_succ hi)
    simp only [List.take_succ_cons, cntL, List.getElem_cons_succ]; lia
mutual
theorem headsH_len : ∀ (t : Hy) (w : List Nat), w ∈ headsH t → w.length < t.depth
  | .node l, w, h => by rw [headsH] at h; rw [Hy.depth]; exact Nat.lt_succ_of_le (headsL_len l 0 w h)
theorem headsL_len : ∀ (l : List Hy) (k : Nat) (w : List Nat), w ∈ headsL k l → w.length ≤ depthL l
  | [], _, _, h => by simp [headsL] at h
  | t :: r, k, w, h => by
    rw [headsL, List.mem_append, List.mem_append] at h
    rw [depthL]
    rcases h with (h | h) | h
    · obtain ⟨u, hu, rfl⟩ := List.mem_map.mp h
      exact Nat.le_trans (headsH_len t u hu) (Nat.le_max_left _ _)
    · refine Nat.le_trans ?_ (Nat.le_max_left _ _)
      cases t
      split at h
      · rw [List.mem_singleton.mp h, Hy.depth]; exact Nat.succ_le_succ (Nat.zero_le _)
      · cases h
    · exact Nat.le_trans (headsL_len r (k + 1) w h) (Nat.le_max_right _ _)
end
inductive WaysG (G : Addr → Obj → Prop) : List Value → List (List Nat) → Prop
  | nil : WaysG G [] []
  | cons {a : Addr} {xs : List Value} {n : Nat} {w : List Nat} {vs : List Value} {ws : List (List Nat)} : G a (listOf xs.toArray n) → IntsAre xs (w.map Int.ofNat) → WaysG G vs ws → WaysG G (.ref a :: vs) (w :: ws)
theorem WaysG.keeps {G G' : Addr → Obj → Prop} (k : ∀ a vs n, G a (listOf vs n) → G' a (listOf vs n)) {vs : List Value} {ws : List (List Nat)} (x : WaysG G vs ws) : WaysG G' vs ws := by
  induction x with
  | nil => exact .nil
  | cons e i _ ih => exact .cons (k _ _ _ e) i ih
theorem WaysG.up {l l' : List (Addr × Obj)} {vs : List Value} {ws : List (List Nat)} (x : WaysG (inL l) vs ws) (k : ∀ p ∈ l, p ∈ l') : WaysG (inL l') vs ws := x.keeps fun _ _ _ e => k _ e
theorem WaysG.append {G : Addr → Obj → Prop} {vs us : List Value} {ws xs : List (List Nat)} (x : WaysG G vs ws) (y : WaysG G us xs) : WaysG G (vs ++ us) (ws ++ xs) := by
  induction x with
  | nil => exact y
  | cons e i _ ih => exact .cons e i ih
theorem WaysG.length {G : Addr → Obj → Prop} {vs : List Value} {ws : List (List Nat)} (x : WaysG G vs ws) : vs.length = ws.length := by
  induction x with
  | nil => rfl
  | cons _ _ _ ih => simp [ih]
theorem WaysG.get {G : Addr → Obj → Prop} {vs : List Value} {ws : List (List Nat)} (x : WaysG G vs ws) : ∀ i (hi : i < ws.length), ∃ a xs n, vs[i]? = some (.ref a) ∧ G a (listOf xs.toArray n) ∧ IntsAre xs (ws[i].map Int.ofNat) := by
  induction x with
  | nil => exact fun i hi => absurd hi (Nat.not_lt_zero _)
  | cons e r _ ih =>
    intro i hi
    cases i with
    | zero => exact ⟨_, _, _, rfl, e, r⟩
    | succ i => exact ih i (Nat.lt_of_succ_lt_succ hi)
theorem headsT (n : Nat) : ∀ {w : World} {dp un : Nat} {gd : Option (List Code)} {cn : Str} {cs : Scope} {a : Addr} {ccd : Value} {cl : List (Str × Addr)} {outer : List Env} {A₀ : Around} {base h₀ : Heap} {L : Addr} {m mg mb : Str → Option Value} {mean : ExcName → Option Value} {s : Shared} {Q E : Value → Shared → Prop} {v : Value} {t : Hy} {rest : List (Addr × Obj)}
    (B : Below A₀ base outer h₀) (F : Fr h₀ L s.heap m) (X : (Mine.hd.heap_1 w.params).In h₀) (T : TP mean mg mb h₀) (hk : cs.kind = .function) (hd : dp + (4 + 3 * n) < recursionLimit) (hu : un + (90 + 24 * n) < cLine)
    (N : News h₀ L s.heap rest) (hv : HyAt s.heap v t) (hn : t.depth ≤ n) (hn2 : n ≤ 60) (hs : t.slim) (hc : cntH t ≤ 900)
    (ret : ∀ h' tk' R rv nr new, Fr h₀ L h' m → News h₀ L h' (new ++ rest) → (∀ p ∈ new, ∀ q ∈ rest, p.1 ≠ q.1) → (∀ b o, s.heap.get? b = some o → h'.get? b = some o) → (R, listOf rv.toArray nr) ∈ new → WaysG (inL new) rv (headsH t) → Q (.ref R) { s with heap := h', toks := tk' }),
    wpAny (model PG w) (ktrTop dp un gd cn cs L a ccd cl outer) (call (.ref 170) [v]) Q E s := by
  induction n with
  | zero =>
    intro w dp un gd cn cs a ccd cl outer A₀ base h₀ L m mg mb mean s Q E v t rest B F X T hk hd hu N hv hn
    cases t; exact absurd hn (by simp [Hy.depth])
  | succ n ih =>
    intro w dp un gd cn cs a ccd cl outer A₀ base h₀ L m mg mb mean s Q E v t rest B F X T hk hd hu N hv hn hn2 hs hc9 ret
    obtain ⟨hv1, hv2⟩ := hv
    rename_i ax vs k ts
    have N0 : News h₀ L s.heap [] := fun p hp => nomatch hp
    have hn' : depthL ts ≤ n := by simpa [Hy.depth] using hn
    have hl := hv2.length
    have hs2 : ts.length < 64 := hs.1
    have hs3 : slimL ts := hs.2
    clear hs hn
    refine wpAny_call ?_
    k_dflt (refine' code_defGC ?k1 ?k2 ?k3 ?k4 ?k5 ?kA ?kF ?kK ?k6 ?k7 ?k8 ?k9 ?kB ?kN ?_ ?c2 ?c3 ?c4; (case kA => exact rfl); (case kF => exact rfl); (case kK => assumption); (case k1 => k_asm); (case k2 => k_asm); (case k3 => k_asm); (case k4 => exact N0); (case k5 => k_asm); (case k6 => k_is); (case k7 => k_is); (case k8 => ktr_room); (case k9 => exact BindsTo.of_eq rfl); (case kB => exact rfl); (case kN => decide +kernel); (case c2 => exact rfl); (case c3 => exact rfl); (case c4 => exact rfl); k_whole; intro g' L' h' tk' cells' FG' F' N' Y' B' X' T' kG' l1'; k_cells Y'; (try simp only [List.cons_append, List.nil_append] at N'); (try dsimp only); (try k_fold))
    have hv3 : g'.get? ax = some (listOf vs.toArray k) := kG' _ _ hv1 (by simp)
    have hv4 : HysAt g' vs ts := hv2.keeps fun _ _ _ e => kG' _ _ e (by simp)
    (repeat' (first | (k_unfold; (try dsimp only)) | (k_end; wrow_close) | ((fail_if_success (with_reducible (refine Mine.stop_here ?_ ?_; first | walk_at "s0" | exact Mine.p20 | exact Mine.p22 | exact Mine.p23 | exact Mine.p24))); walk1) | (dsimp only; (fail_if_success (with_reducible (refine Mine.stop_here ?_ ?_; first | walk_at "s0" | exact Mine.p20 | exact Mine.p22 | exact Mine.p23 | exact Mine.p24))); walk1) | (leave1; walk_say "STEP leave1"; try dsimp only) | walk_at "onk" | fail "no step"))
    rename Fr g' L' _ _ => F1
    rename News g' L' _ _ => N1
    refine For_turns F1 ?_
    (repeat' (first | (k_unfold; (try dsimp only)) | (k_end; wrow_close) | ((fail_if_success (with_reducible (refine Mine.stop_here ?_ ?_; first | walk_at "s0" | exact Mine.p20 | exact Mine.p22 | exact Mine.p23 | exact Mine.p24))); walk1) | (dsimp only; (fail_if_success (with_reducible (refine Mine.stop_here ?_ ?_; first | walk_at "s0" | exact Mine.p20 | exact Mine.p22 | exact Mine.p23 | exact Mine.p24))); walk1) | (leave1; walk_say "STEP leave1"; try dsimp only) | walk_at "onk" | fail "no step"))
    rename_i oc dc HA _ lHA _
    refine turns_enum2 (vs := vs) (nl := k) (fun i m1 nw => Ex5 fun rv nr ok ov tq => Cj5 (nw = (HA, listOf rv.toArray nr) :: (L' + 1, ok) :: tq) (ok.data = .cell ov) (WaysG (inL tq) rv (headsL 0 (ts.take i))) (∀ p ∈ tq, p.1 ≠ HA ∧ p.1 ≠ L' + 1) (m1 (Str.ofString "heads") = some (.ref HA))) rfl F1 N1 (fun _ _ _ _ => .inl hv3) ⟨[], 0, oc, _, [], rfl, dc, .nil, fun p hp => (nomatch hp), if_pos rfl⟩ ?step ?done
    case step =>
      rintro i x T t m₁ nw h₁ tk₁ e oe I oI hx ⟨rv, nr, ok, ov, tq, rfl, hok, hws, htq, hm1⟩ dis hne F3 N3 hT
      have hi : i < ts.length := by rw [← hl]; exact (List.getElem?_eq_some_iff.mp hx).1
      have hti := hv4.item hi hx
      have hdi := depth_mem (List.getElem_mem hi)
      obtain ⟨xa, rfl⟩ := hti.isRef
      refine unpackN_ F3 N3 hT rfl (by with_unfolding_all rfl) (by with_unfolding_all rfl) ?_
      intro h6 F6 N6
      have e1 : @Ne Nat e HA := (dis _ (.head _)).1
      have e2 : @Ne Nat e (L' + 1) := (dis _ (.tail _ (.head _))).1
      have e3 : @Ne Nat I HA := (dis _ (.head _)).2
      have e4 : @Ne Nat I (L' + 1) := (dis _ (.tail _ (.head _))).2
      have e5 : ∀ p ∈ tq, p.1 ≠ L' + 1 := fun p hp => (htq p hp).2
      have e6 : ∀ p ∈ tq, p.1 ≠ HA := fun p hp => (htq p hp).1
      have e7 : ∀ p ∈ tq, p.1 ≠ e := fun p hp => Ne.symm (dis _ (.tail _ (.tail _ hp))).1
      have e8 : ∀ p ∈ tq, p.1 ≠ I := fun p hp => Ne.symm (dis _ (.tail _ (.tail _ hp))).2
      clear F3 N3 F1 N1
      (try dsimp only)
      (repeat' (first | (k_unfold; (try dsimp only)) | (k_end; wrow_close) | ((fail_if_success (with_reducible (refine Mine.stop_here ?_ ?_; first | walk_at "s0" | exact Mine.p20 | exact Mine.p22 | exact Mine.p23 | exact Mine.p24))); walk1) | (dsimp only; (fail_if_success (with_reducible (refine Mine.stop_here ?_ ?_; first | walk_at "s0" | exact Mine.p20 | exact Mine.p22 | exact Mine.p23 | exact Mine.p24))); walk1) | (leave1; walk_say "STEP leave1"; try dsimp only) | walk_at "onk" | fail "no step"))
      rename Fr g' L' _ _ => F7
      rename News g' L' _ _ => N7
      (try dsimp only at N7)
      refine comp_eval (cl := [(Str.ofString "k", L' + 1)]) (F₀ := F7) (by with_unfolding_all rfl) rfl (by decide) ?_
      (repeat' (first | (k_unfold; (try dsimp only)) | (k_end; wrow_close) | ((fail_if_success (with_reducible (refine Mine.stop_here ?_ ?_; first | walk_at "s0" | exact Mine.p20 | exact Mine.p22 | exact Mine.p23 | exact Mine.p24))); walk1) | (dsimp only; (fail_if_success (with_reducible (refine Mine.stop_here ?_ ?_; first | walk_at "s0" | exact Mine.p20 | exact Mine.p22 | exact Mine.p23 | exact Mine.p24))); walk1) | (leave1; walk_say "STEP leave1"; try dsimp only) | walk_at "onk" | fail "no step"))
      have hcg := cntL_get ts i hi
      have hc9 : cntL ts ≤ 900 := hc9
      refine' ih ?b1 ?b2 ?b3 ?b4 ?b5 ?b6 ?b7 N7 (hti.keeps fun _ _ _ e => F7.keep _ _ e) (Nat.le_trans hdi hn') (by lia) (slim_mem (List.getElem_mem hi) hs3) (by lia) ?_
      (case b1 => k_asm); (case b2 => k_asm); (case b3 => k_asm); (case b4 => k_asm); (case b5 => first | exact rfl | assumption); (case b6 => ktr_room); (case b7 => ktr_units)
      intro h8 tk8 R rv2 nr2 new F8 N8 dis8 keep8 hR hws8
      clear F7 N7
      (try dsimp only)
      (repeat' (first | (k_unfold; (try dsimp only)) | (k_end; wrow_close) | ((fail_if_success (with_reducible (refine Mine.stop_here ?_ ?_; first | walk_at "s0" | exact Mine.p20 | exact Mine.p22 | exact Mine.p23 | exact Mine.p24))); walk1) | (dsimp only; (fail_if_success (with_reducible (refine Mine.stop_here ?_ ?_; first | walk_at "s0" | exact Mine.p20 | exact Mine.p22 | exact Mine.p23 | exact Mine.p24))); walk1) | (leave1; walk_say "STEP leave1"; try dsimp only) | walk_at "onk" | fail "no step"))
      obtain ⟨ok2, hok2, N8⟩ : ∃ o' : Obj, o'.data = .cell (some (.int (i : Int) t)) ∧ News g' L' h8 (new ++ ((e, oe) :: (I, oI) :: (HA, listOf rv.toArray nr) :: (L' + 1, o') :: tq)) := ⟨_, by assumption, N8⟩
      obtain ⟨led, hled⟩ : ∃ led, led = (e, oe) :: (I, oI) :: (HA, listOf rv.toArray nr) :: tq := ⟨_, rfl⟩
      have N8 : News g' L' h8 ((L' + 1, ok2) :: (new ++ led)) := fun p hp => N8 p (by
        rw [hled] at hp
        refine led_go hp ?_
        walk_at "led")
      have hnk : ∀ p ∈ new ++ led, p.1 ≠ L' + 1 := fun p hp => by
        rcases List.mem_append.mp hp with hp | hp
        · exact dis8 p hp _ (.tail _ (.tail _ (.tail _ (.head _))))
        · rw [hled] at hp
          rcases List.mem_cons.mp hp with rfl | hp
          · exact e2
          rcases List.mem_cons.mp hp with rfl | hp
          · exact e4
          rcases List.mem_cons.mp hp with rfl | hp
          · exact Nat.ne_of_gt lHA
          · exact e5 p hp
      have hlr := hws8.length
      have hlr2 := headsH_cnt ts[i]
      refine src_list (its := rv2.toArray) rfl F8 N8 (.tail _ (List.mem_append_left _ hR)) (by rw [List.size_toArray, sizeLine_eq]; lia) ?_
      intro I2 h9 src lI2
      refine ⟨I2, _, _, _, _, rfl, src, ?_⟩
      rintro D C s₃ ⟨h10, rfl⟩ lD hDC
      refine ⟨fun j ys nw => Ex1 fun q => Cj3 (nw = (L' + 1, ok2) :: (q ++ (new ++ led))) (∀ p ∈ q, p.1 ≠ L' + 1 ∧ ∀ r ∈ new ++ led, p.1 ≠ r.1) (WaysG (inL q) ys (((headsH ts[i]).take j).map (i :: ·))), ?_, ⟨[], rfl, fun p hp => (nomatch hp), .nil⟩, ?_, ?_⟩
      · rintro j ys nw ⟨q, rfl, _⟩
        exact .inr ⟨_, .tail _ (List.mem_append_right _ (List.mem_append_left _ hR)), rfl, _, rfl⟩
      · rintro j v h tk oI2 oC m₂ ys nw hj hv F10 N10 hC10 off10 ⟨n1, n2, n3⟩ ⟨q, rfl, hq, hys⟩
        have off11 := off10.mem
        have hj' : j < (headsH ts[i]).length := by rw [List.size_toArray] at hj; lia
        obtain ⟨wa, xs, wn, hwa, hwm, hwi⟩ := hws8.get j hj'
        obtain rfl : v = .ref wa := by
          have hv' : rv2[j]? = some v := by simpa using hv
          rw [hwa] at hv'; exact (Option.some.inj hv').symm
        have U10 : ∀ o₁, UpdF C o₁ ((I2, oI2) :: (C, o₁) :: (D, LCg.lst ys) :: (L' + 1, ok2) :: (q ++ (new ++ led))) (fun o₁ => (I2, oI2) :: (C, o₁) :: (D, LCg.lst ys) :: (L' + 1, ok2) :: (q ++ (new ++ led))) := fun o₁ =>
          .tail n1 (.head fun p hp => by
            rcases List.mem_cons.mp hp with rfl | hp
            · exact Ne.symm n3
            · exact (off11 p hp).2.1)
        refine asg_own F10 N10 (U10 oC) hC10 rfl rfl ?_
        intro h11 oC11 F11 N11 hC11
        have hx11 : (fun y => if y = Str.ofString "way" then some (Value.ref wa) else m₂ y) (Str.ofString "way") = some (Value.ref wa) := if_pos rfl
        refine wpAny_tests_nil ?_
        (try dsimp only)
        (repeat' (first | (k_unfold; (try dsimp only)) | (k_end; wrow_close) | ((fail_if_success (with_reducible (refine Mine.stop_here ?_ ?_; first | walk_at "s0" | exact Mine.p20 | exact Mine.p22 | exact Mine.p23 | exact Mine.p24))); walk1) | (dsimp only; (fail_if_success (with_reducible (refine Mine.stop_here ?_ ?_; first | walk_at "s0" | exact Mine.p20 | exact Mine.p22 | exact Mine.p23 | exact Mine.p24))); walk1) | (leave1; walk_say "STEP leave1"; try dsimp only) | walk_at "onk" | fail "no step"))
        rename Fr g' L' _ _ => F12
        rename News g' L' _ _ => N12
        rename_i lw _ llw
        have hll := headsH_len _ _ (List.getElem_mem hj')
        have hmw : (wa, listOf xs.toArray wn) ∈ q ++ (new ++ led) := List.mem_append_right _ (List.mem_append_left _ hwm)
        refine kmk_add_ints (vs := [.int (i : Int) t]) (ws := xs) (ns := [(i : Int)]) (ms := (headsH ts[i])[j].map Int.ofNat) F12 N12 (N12.isList (.head _)) (N12.isList (.tail _ (.tail _ (.tail _ (.tail _ (.tail _ hmw)))))) (.cons _ t .nil) hwi ?_ (by rw [List.length_map, List.length_singleton, sizeLine_eq]; lia)
        intro l2 us h13 F13 N13 ll2 hus
        dsimp only
        have z2 : ∀ p ∈ (I2, oI2) :: (C, oC11) :: (D, LCg.lst ys) :: (L' + 1, ok2) :: (q ++ (new ++ led)), l2 ≠ p.1 := fun p hp => Nat.ne_of_gt (ll2 p (.tail _ hp))
        refine ⟨h13, _, oC11, _, (L' + 1, ok2) :: (((l2, listOf us.toArray 0) :: q) ++ (new ++ led)), rfl, F13, fun p hp => N13 p ?_, hC11, LCg.Off3.of fun p hp => ?_, (l2, listOf us.toArray 0) :: q, rfl, fun p hp => ?_, ?_⟩
        · refine led_go hp ?_
          walk_at "led"
        · rcases List.mem_cons.mp hp with rfl | hp
          · exact off11 _ (.head _)
          rcases List.mem_cons.mp hp with rfl | hp
          · exact ⟨z2 _ (.head _), z2 _ (.tail _ (.head _)), z2 _ (.tail _ (.tail _ (.head _)))⟩
          · exact off11 p (.tail _ hp)
        · rcases List.mem_cons.mp hp with rfl | hp
          · exact ⟨z2 _ (.tail _ (.tail _ (.tail _ (.head _)))), fun r hr => z2 r (.tail _ (.tail _ (.tail _ (.tail _ (List.mem_append_right _ hr)))))⟩
          · exact hq p hp
        · rw [List.take_succ, List.getElem?_eq_getElem hj', List.map_append]
          exact (hys.up fun p hp => .tail _ hp).append (.cons (.head _) hus .nil)
      · rintro h tk ys oC m₂ nw F10 N10 hC10 off10 hCD ⟨q, rfl, hq, hys⟩
        have off11 := off10.mem
        rw [List.size_toArray, hlr, List.take_length] at hys
        refine aend F10 N10 hC10 ?_ ?_
        · intro p hp
          rcases List.mem_cons.mp hp with rfl | hp
          · exact Ne.symm hCD
          · exact (off11 p hp).2.1
        intro h12 F12 N12
        have zD : ∀ p ∈ (L' + 1, ok2) :: (q ++ (new ++ led)), p.1 ≠ D := fun p hp => (off11 p hp).2.2
        have N12 : News g' L' h12 ((HA, listOf rv.toArray nr) :: (D, LCg.lst ys) :: (L' + 1, ok2) :: (e, oe) :: (I, oI) :: (q ++ tq)) := fun p hp => N12 p (by
          rw [hled]
          refine led_go hp ?_
          walk_at "led")
        (try dsimp only)
        (repeat' (first | (k_unfold; (try dsimp only)) | (k_end; wrow_close) | ((fail_if_success (with_reducible (refine Mine.stop_here ?_ ?_; first | walk_at "s0" | exact Mine.p20 | exact Mine.p22 | exact Mine.p23 | exact Mine.p24))); walk1) | (dsimp only; (fail_if_success (with_reducible (refine Mine.stop_here ?_ ?_; first | walk_at "s0" | exact Mine.p20 | exact Mine.p22 | exact Mine.p23 | exact Mine.p24))); walk1) | (leave1; walk_say "STEP leave1"; try dsimp only) | walk_at "onk" | fail "no step"))
        have zHA : (HA, listOf rv.toArray nr) ∈ led := by rw [hled]; exact .tail _ (.tail _ (.head _))
        have k1 : @Ne Nat HA D := zD (HA, listOf rv.toArray nr) (.tail _ (List.mem_append_right _ (List.mem_append_right _ zHA)))
        have k2 : ∀ p ∈ (D, LCg.lst ys) :: (L' + 1, ok2) :: (e, oe) :: (I, oI) :: (q ++ tq), p.1 ≠ HA := fun p hp => by
          rcases List.mem_cons.mp hp with rfl | hp
          · exact Ne.symm k1
          rcases List.mem_cons.mp hp with rfl | hp
          · exact Nat.ne_of_lt lHA
          rcases List.mem_cons.mp hp with rfl | hp
          · exact e1
          rcases List.mem_cons.mp hp with rfl | hp
          · exact e3
          rcases List.mem_append.mp hp with hp | hp
          · exact (hq p hp).2 _ (List.mem_append_right _ zHA)
          · exact e6 p hp
        have hyl := hys.length
        rw [List.length_map] at hyl
        have hrl := hws.length
        rw [headsL_cnt] at hrl
        refine ext_list F12 N12 (.tail _ (.head _)) (.head k2) (.head _) (by rw [List.size_toArray, List.size_toArray]; lia) ?_
        intro h13 nr13 F13 N13
        have N14 : News g' L' h13 ((HA, listOf (rv ++ ys).toArray nr13) :: (L' + 1, ok2) :: (e, oe) :: (I, oI) :: (q ++ tq)) := fun p hp => by
          rw [← List.append_toArray] at hp
          exact N13 p (by
            refine led_go hp ?_
            walk_at "led")
        clear N12 N13 F12
        (try dsimp only)
        (repeat' (first | (k_unfold; (try dsimp only)) | (k_end; wrow_close) | ((fail_if_success (with_reducible (refine Mine.stop_here ?_ ?_; first | walk_at "s0" | exact Mine.p20 | exact Mine.p22 | exact Mine.p23 | exact Mine.p24))); walk1) | (dsimp only; (fail_if_success (with_reducible (refine Mine.stop_here ?_ ?_; first | walk_at "s0" | exact Mine.p20 | exact Mine.p22 | exact Mine.p23 | exact Mine.p24))); walk1) | (leave1; walk_say "STEP leave1"; try dsimp only) | walk_at "onk" | fail "no step"))
        rename Fr g' L' _ _ => F15
        rename News g' L' _ _ => N15
        rename_i ln _ lln
        refine hy_eq (hti.keeps fun _ _ _ e => F15.keep _ _ e) (u := .node []) (.mk (N15 _ (.head _)).1 .nil) ?_ ?_
        · k_units
        have N16 : News g' L' _ ((HA, listOf (rv ++ ys).toArray nr13) :: (L' + 1, ok2) :: (e, oe) :: (I, oI) :: (q ++ tq)) := fun p hp => N15 p (.tail _ hp)
        clear N15
        have m16 : (fun y => if y = Str.ofString "thing" then some (Value.ref xa) else m₁ y) (Str.ofString "heads") = some (.ref HA) := (if_neg (by decide)).trans hm1
        have etk : headsL 0 (ts.take (i + 1)) = headsL 0 (ts.take i) ++ ((headsH ts[i]).map (i :: ·) ++ if eqH ts[i] (.node []) then [[i]] else []) := by
          have := headsL_snoc ts[i] (ts.take i) 0
          rw [List.length_take, Nat.min_eq_left (Nat.le_of_lt hi), Nat.zero_add] at this
          rw [List.take_succ, List.getElem?_eq_getElem hi]
          exact this
        have hwy : WaysG (inL (q ++ tq)) (rv ++ ys) (headsL 0 (ts.take i) ++ (headsH ts[i]).map (i :: ·)) := (hws.up fun p hp => List.mem_append_right _ hp).append (hys.up fun p hp => List.mem_append_left _ hp)
        have hqq : ∀ p ∈ q ++ tq, p.1 ≠ HA ∧ p.1 ≠ L' + 1 ∧ p.1 ≠ e ∧ p.1 ≠ I := fun p hp => by
          rcases List.mem_append.mp hp with hp | hp
          · have h2 := (hq p hp).2
            exact ⟨h2 (HA, listOf rv.toArray nr) (List.mem_append_right _ zHA), (hq p hp).1, h2 (e, oe) (List.mem_append_right _ (by rw [hled]; exact .head _)), h2 (I, oI) (List.mem_append_right _ (by rw [hled]; exact .tail _ (.head _)))⟩
          · exact ⟨e6 p hp, e5 p hp, e7 p hp, e8 p hp⟩
        have dis2 : ∀ (tz : List (Addr × Obj)) (oh : Obj), (∀ p ∈ tz, p.1 ≠ e ∧ p.1 ≠ I) → ∀ p ∈ [(e, oe), (I, oI)], ∀ r ∈ (HA, oh) :: (L' + 1, ok2) :: tz, p.1 ≠ r.1 := fun tz oh hz p hp r hr => by
          rcases List.mem_cons.mp hr with rfl | hr
          · rcases List.mem_cons.mp hp with rfl | hp
            · exact e1
            · rw [List.mem_singleton.mp hp]; exact e3
          rcases List.mem_cons.mp hr with rfl | hr
          · rcases List.mem_cons.mp hp with rfl | hp
            · exact e2
            · rw [List.mem_singleton.mp hp]; exact e4
          · rcases List.mem_cons.mp hp with rfl | hp
            · exact Ne.symm (hz r hr).1
            · rw [List.mem_singleton.mp hp]; exact Ne.symm (hz r hr).2
        cases hqe : eqH ts[i] (.node []) with
        | false =>
          (try dsimp only)
          (repeat' (first | (k_unfold; (try dsimp only)) | (k_end; wrow_close) | ((fail_if_success (with_reducible (refine Mine.stop_here ?_ ?_; first | walk_at "s0" | exact Mine.p20 | exact Mine.p22 | exact Mine.p23 | exact Mine.p24))); walk1) | (dsimp only; (fail_if_success (with_reducible (refine Mine.stop_here ?_ ?_; first | walk_at "s0" | exact Mine.p20 | exact Mine.p22 | exact Mine.p23 | exact Mine.p24))); walk1) | (leave1; walk_say "STEP leave1"; try dsimp only) | walk_at "onk" | fail "no step"))
          rw [hqe] at etk
          refine ⟨_, _, _, (HA, listOf (rv ++ ys).toArray nr13) :: (L' + 1, ok2) :: (q ++ tq), rfl, F15, fun p hp => N16 p ?_, dis2 _ _ fun p hp => (hqq p hp).2.2, rv ++ ys, nr13, ok2, _, q ++ tq, rfl, hok2, by rw [etk]; simpa using hwy, fun p hp => ⟨(hqq p hp).1, (hqq p hp).2.1⟩, m16⟩
          refine led_go hp ?_
          walk_at "led"
        | true =>
          (try dsimp only)
          (repeat' (first | (k_unfold; (try dsimp only)) | (k_end; wrow_close) | ((fail_if_success (with_reducible (refine Mine.stop_here ?_ ?_; first | walk_at "s0" | exact Mine.p20 | exact Mine.p22 | exact Mine.p23 | exact Mine.p24))); walk1) | (dsimp only; (fail_if_success (with_reducible (refine Mine.stop_here ?_ ?_; first | walk_at "s0" | exact Mine.p20 | exact Mine.p22 | exact Mine.p23 | exact Mine.p24))); walk1) | (leave1; walk_say "STEP leave1"; try dsimp only) | walk_at "onk" | fail "no step"))
          rename Fr g' L' _ _ => F17
          rename News g' L' _ _ => N17
          rename_i l3 _ ll3
          rw [hqe] at etk
          have k3 : ∀ p ∈ (HA, listOf (rv ++ ys).toArray nr13) :: (L' + 1, ok2) :: (e, oe) :: (I, oI) :: (q ++ tq), @LT.lt Nat _ p.1 l3 := fun p hp => by
            rcases List.mem_cons.mp hp with rfl | hp
            · exact ll3.1
            rcases List.mem_cons.mp hp with rfl | hp
            · exact ll3.2.1
            rcases List.mem_cons.mp hp with rfl | hp
            · exact ll3.2.2.1
            rcases List.mem_cons.mp hp with rfl | hp
            · exact ll3.2.2.2.1
            · exact allLt_mem ll3.2.2.2.2 p hp
          have zt : ∀ p ∈ q ++ tq, @LT.lt Nat _ p.1 l3 := fun p hp => k3 p (.tail _ (.tail _ (.tail _ (.tail _ hp))))
          have k4 : ∀ p ∈ (L' + 1, ok2) :: (e, oe) :: (I, oI) :: (q ++ tq), p.1 ≠ HA := fun p hp => by
            rcases List.mem_cons.mp hp with rfl | hp
            · exact Nat.ne_of_lt lHA
            rcases List.mem_cons.mp hp with rfl | hp
            · exact e1
            rcases List.mem_cons.mp hp with rfl | hp
            · exact e3
            · exact (hqq p hp).1
          refine append_K F17 N17 (.tail (Nat.ne_of_gt ll3.1) (.head k4)) ?_ ?_
          · intro h18 F18 N18
            (try dsimp only)
            (repeat' (first | (k_unfold; (try dsimp only)) | (k_end; wrow_close) | ((fail_if_success (with_reducible (refine Mine.stop_here ?_ ?_; first | walk_at "s0" | exact Mine.p20 | exact Mine.p22 | exact Mine.p23 | exact Mine.p24))); walk1) | (dsimp only; (fail_if_success (with_reducible (refine Mine.stop_here ?_ ?_; first | walk_at "s0" | exact Mine.p20 | exact Mine.p22 | exact Mine.p23 | exact Mine.p24))); walk1) | (leave1; walk_say "STEP leave1"; try dsimp only) | walk_at "onk" | fail "no step"))
            refine ⟨_, _, _, (HA, listOf ((rv ++ ys) ++ [Value.ref l3]).toArray (nr13 + 1)) :: (L' + 1, ok2) :: ((l3, listOf #[Value.int (i : Int) t] 0) :: (q ++ tq)), rfl, F18, fun p hp => ?_, dis2 _ _ fun p hp => ?_, (rv ++ ys) ++ [Value.ref l3], nr13 + 1, ok2, _, (l3, listOf #[Value.int (i : Int) t] 0) :: (q ++ tq), rfl, hok2, ?_, fun p hp => ?_, m16⟩
            · rw [← List.push_toArray] at hp
              exact N18 p (by
                refine led_go hp ?_
                walk_at "led")
            · rcases List.mem_cons.mp hp with rfl | hp
              · exact ⟨Nat.ne_of_gt ll3.2.2.1, Nat.ne_of_gt ll3.2.2.2.1⟩
              · exact (hqq p hp).2.2
            · rw [etk, if_pos rfl, ← List.append_assoc]
              exact (hwy.up fun p hp => .tail _ hp).append (.cons (.head _) (.cons _ t .nil) .nil)
            · rcases List.mem_cons.mp hp with rfl | hp
              · exact ⟨Nat.ne_of_gt ll3.1, Nat.ne_of_gt ll3.2.1⟩
              · exact ⟨(hqq p hp).1, (hqq p hp).2.1⟩
          · rw [List.size_toArray, List.length_append, sizeLine_eq]; lia
    case done =>
      rintro m' nw h3 tk3 ⟨rv, nr, ok, ov, tq, rfl, hok, hws, htq, hm1⟩ F3 N3
      rw [hl, List.take_length] at hws
      have F3 : Fr g' L' h3 m' := F3
      have N3 : News g' L' h3 ((HA, listOf rv.toArray nr) :: (L' + 1, ok) :: tq) := N3
      (try dsimp only)
      (repeat' (first | (k_unfold; (try dsimp only)) | (k_end; wrow_close) | ((fail_if_success (with_reducible (refine Mine.stop_here ?_ ?_; first | walk_at "s0" | exact Mine.p20 | exact Mine.p22 | exact Mine.p23 | exact Mine.p24))); walk1) | (dsimp only; (fail_if_success (with_reducible (refine Mine.stop_here ?_ ?_; first | walk_at "s0" | exact Mine.p20 | exact Mine.p22 | exact Mine.p23 | exact Mine.p24))); walk1) | (leave1; walk_say "STEP leave1"; try dsimp only) | walk_at "onk" | fail "no step"))
      rename Fr h₀ L _ m => F'
      rename News h₀ L _ _ => N'
      obtain ⟨c1, c2, c3⟩ := leave_new (new := (HA, listOf rv.toArray nr) :: tq) N (fun b o e => kG' _ _ e (by simp)) F3 N3 N' (fun p hp => by
        rcases List.mem_cons.mp hp with rfl | hp
        · exact .head _
        · exact .tail _ (.tail _ hp))
      exact ret h3 _ HA rv nr ((HA, listOf rv.toArray nr) :: tq) F' c1 c2 c3 (.head _) (hws.up fun p hp => .tail _ hp)
end
section
open PySem PySem.W PyProof.Rows PySem.Spec PySem.Calls
mutual
noncomputable def SortedH : Hy → Prop
  | .node l => Falls l ∧ SortedL l
noncomputable def SortedL : List Hy → Prop
  | [] => True
  | a :: l => SortedH a ∧ SortedL l
end
theorem sortedL_iff {l : List Hy} : SortedL l ↔ ∀ t ∈ l, SortedH t := by
  induction l with
  | nil => simp [SortedL]
  | cons a l ih => simp only [SortedL, ih, List.mem_cons, forall_eq_or_imp]
theorem falls_unique {as bs : List Hy} (p : as.Perm bs) (ha : Falls as) (hb : Falls bs) : as = bs := by
  induction as generalizing bs with
  | nil => exact (List.perm_nil.mp p.symm).symm
  | cons a as ih =>
    cases bs with
    | nil => exact absurd p.length_eq (by simp)
    | cons b bs =>
      obtain ⟨a1, a2⟩ := List.pairwise_cons.mp ha
      obtain ⟨b1, b2⟩ := List.pairwise_cons.mp hb
      have hab : a = b := by
        have m1 : b ∈ a :: as := p.mem_iff.mpr (.head _)
        have m2 : a ∈ b :: bs := p.mem_iff.mp (.head _)
        rcases List.mem_cons.mp m1 with e | m1
        · exact e.symm
        rcases List.mem_cons.mp m2 with e | m2
        · exact e
        exact ltH_total a b (a1 b m1) (b1 a m2)
      subst hab
      rw [ih (List.perm_cons a |>.mp p) a2 b2]
mutual
theorem SrtH.sorted : ∀ {t u : Hy}, SrtH t u → SortedH u
  | _, _, .mk r p f => by
    rw [SortedH]
    exact ⟨f, sortedL_iff.mpr fun t ht => sortedL_iff.mp r.sorted t (p.mem_iff.mp ht)⟩
theorem SrtL.sorted : ∀ {ts us : List Hy}, SrtL ts us → SortedL us
  | _, _, .nil => by rw [SortedL]; trivial
  | _, _, .cons a r => by rw [SortedL]; exact ⟨a.sorted, r.sorted⟩
end
mutual
theorem SrtH.same : ∀ {t u : Hy}, SrtH t u → SortedH t → u = t
  | _, _, .mk r p f, h => by
    rw [SortedH] at h
    have e := r.same h.2
    subst e
    rw [falls_unique p f h.1]
theorem SrtL.same : ∀ {ts us : List Hy}, SrtL ts us → SortedL ts → us = ts
  | _, _, .nil, _ => rfl
  | _, _, .cons a r, h => by
    rw [SortedL] at h
    rw [a.same h.1, r.same h.2]
end
theorem SrtL.split {us : List Hy} : ∀ {as bs : List Hy}, SrtL (as ++ bs) us → ∃ cs ds, us = cs ++ ds ∧ SrtL as cs ∧ SrtL bs ds
  | [], _, h => ⟨[], us, rfl, .nil, h⟩
  | a :: as, bs, h => by
    cases h with
    | cons x r =>
      obtain ⟨cs, ds, rfl, p, q⟩ := r.split
      exact ⟨_ :: cs, ds, rfl, .cons x p, q⟩
theorem SrtL.rep {t : Hy} : ∀ {m : Nat} {us : List Hy}, SrtL (List.replicate m t) us → ∀ u ∈ us, SrtH t u
  | 0, _, h, u, hu => by cases h; cases hu
  | m + 1, _, h, u, hu => by
    rw [List.replicate_succ] at h
    cases h with
    | cons x r =>
      rcases List.mem_cons.mp hu with rfl | hu
      · exact x
      · exact r.rep u hu
theorem falls_head {a : Hy} {l : List Hy} (h : Falls (a :: l)) : ∀ b ∈ l, ltH a b = false := (List.pairwise_cons.mp h).1
theorem dm {as bs : List Hy} (ha : Falls as) (hb : Falls bs) : ∀ {X Y C : List Hy}, as.Perm (X ++ C) → bs.Perm (Y ++ C) → X ≠ [] → (∀ y ∈ Y, ∃ x ∈ X, ltH y x = true) → ltL bs as = true := by
  induction as generalizing bs with
  | nil => exact fun p _ hx _ => absurd (List.append_eq_nil_iff.mp p.symm.eq_nil).1 hx
  | cons a as ih =>
    intro X Y C pa pb hx hy
    cases bs with
    | nil => simp [ltL]
    | cons b bs =>
      have hA := falls_head ha
      have hB := falls_head hb
      have top : ∀ x ∈ X ++ C, ltH a x = false := fun x hm => by
        rcases List.mem_cons.mp (pa.mem_iff.mpr hm) with rfl | hm
        · exact ltH_irrefl _
        · exact hA x hm
      have bot : ∀ y ∈ Y ++ C, ltH b y = false := fun y hm => by
        rcases List.mem_cons.mp (pb.mem_iff.mpr hm) with rfl | hm
        · exact ltH_irrefl _
        · exact hB y hm
      by_cases hab : a = b
      · subst hab
        rw [ltL, eqH_refl, if_pos rfl]
        have nY : a ∉ Y := fun hm => by
          obtain ⟨x, hx1, hx2⟩ := hy a hm
          rw [top x (List.mem_append_left _ hx1)] at hx2; cases hx2
        have hC : a ∈ C := by
          rcases List.mem_append.mp (pb.mem_iff.mp (.head _)) with h | h
          · exact absurd h nY
          · exact h
        obtain ⟨C1, C2, rfl⟩ := List.append_of_mem hC
        have mv : ∀ Z : List Hy, (Z ++ (C1 ++ a :: C2)).Perm (a :: (Z ++ (C1 ++ C2))) := fun Z => by
          rw [← List.append_assoc, ← List.append_assoc]
          exact List.perm_middle
        exact ih (List.pairwise_cons.mp ha).2 (List.pairwise_cons.mp hb).2 (X := X) (Y := Y) (C := C1 ++ C2) ((List.perm_cons a).mp (pa.trans (mv X))) ((List.perm_cons a).mp (pb.trans (mv Y))) hx hy
      · rw [ltL, if_neg (fun q => hab ((eqH_iff _ _).mp q).symm)]
        have hba : ltH a b = false := by
          rcases List.mem_append.mp (pb.mem_iff.mp (.head _)) with h | h
          · obtain ⟨x, hx1, hx2⟩ := hy b h
            cases q : ltH a b with
            | false => rfl
            | true =>
              have := ltH_trans a b x q hx2
              rw [top x (List.mem_append_left _ hx1)] at this; cases this
          · exact top b (List.mem_append_right _ h)
        cases q : ltH b a with
        | true => rfl
        | false => exact absurd (ltH_total a b hba q) hab
theorem getD_mem {l : List Hy} {k : Nat} (hk : k < l.length) : l = l.take k ++ l.getD k (.node []) :: l.drop (k + 1) := by
  rw [List.getD_eq_getElem?_getD, List.getElem?_eq_getElem hk, Option.getD_some, ← List.drop_eq_getElem_cons hk, List.take_append_drop]
theorem getD_in {l : List Hy} {k : Nat} (hk : k < l.length) : l.getD k (.node []) ∈ l := by
  rw [List.getD_eq_getElem?_getD, List.getElem?_eq_getElem hk]; exact List.getElem_mem _
theorem cut_less : ∀ (way : List Nat) (m : Nat) (t u : Hy), way ≠ [] → SortedH t → goesB way t = true → SrtH (cutW way m t) u → ltH u t = true
  | [], _, _, _, h, _, _, _ => absurd rfl h
  | [k], m, .node l, u, _, hs, hg, h => by
    rw [SortedH] at hs
    rw [goesB, Bool.and_eq_true, decide_eq_true_eq] at hg
    rw [cutW] at h
    obtain ⟨r, p, f⟩ := h
    rename_i us vs
    have hl := getD_mem hg.1
    have sl := sortedL_iff.mp hs.2
    have hsub : ∀ t ∈ l.take k ++ l.drop (k + 1), t ∈ l := fun t ht => by
      rcases List.mem_append.mp ht with h | h
      · exact List.mem_of_mem_take h
      · exact List.mem_of_mem_drop h
    rw [r.same (sortedL_iff.mpr fun t ht => sl t (hsub t ht))] at p
    rw [ltH]
    refine dm hs.1 f (X := [l.getD k (.node [])]) (Y := []) (C := l.take k ++ l.drop (k + 1)) ?_ p (List.cons_ne_nil _ _) fun y hy => nomatch hy
    conv => lhs; rw [hl]
    exact List.perm_middle
  | [k, j], m, .node l, u, _, hs, hg, h => by
    rw [SortedH] at hs
    rw [goesB, Bool.and_eq_true, decide_eq_true_eq] at hg
    rw [cutW] at h
    obtain ⟨r, p, f⟩ := h
    rename_i us vs
    have hl := getD_mem hg.1
    have sl := sortedL_iff.mp hs.2
    have hx := getD_in hg.1
    obtain ⟨cs, ds, rfl, r1, r3⟩ := r.split
    obtain ⟨cs, es, rfl, r1, r2⟩ := r1.split
    rw [r1.same (sortedL_iff.mpr fun t ht => sl t (List.mem_of_mem_take ht)), r3.same (sortedL_iff.mpr fun t ht => sl t (List.mem_of_mem_drop ht))] at p
    rw [ltH]
    refine dm hs.1 f (X := [l.getD k (.node [])]) (Y := es) (C := l.take k ++ l.drop (k + 1)) ?_ (p.trans ?_) (List.cons_ne_nil _ _) fun y hy => ⟨_, .head _, cut_less [j] m _ y (List.cons_ne_nil _ _) (sl _ hx) hg.2 (r2.rep y hy)⟩
    · conv => lhs; rw [hl]
      exact List.perm_middle
    · rw [← List.append_assoc]
      exact (List.perm_append_comm (l₁ := l.take k) (l₂ := es)).append_right _
  | k :: j :: i :: r, m, .node l, u, _, hs, hg, h => by
    rw [SortedH] at hs
    rw [goesB, Bool.and_eq_true, decide_eq_true_eq] at hg
    rw [cutW] at h
    obtain ⟨rr, p, f⟩ := h
    rename_i us vs
    have hl := getD_mem hg.1
    have sl := sortedL_iff.mp hs.2
    have hx := getD_in hg.1
    obtain ⟨cs, ds, rfl, r1, r3⟩ := rr.split
    obtain ⟨cs, es, rfl, r1, r2⟩ := r1.split
    rw [r1.same (sortedL_iff.mpr fun t ht => sl t (List.mem_of_mem_take ht)), r3.same (sortedL_iff.mpr fun t ht => sl t (List.mem_of_mem_drop ht))] at p
    rw [ltH]
    refine dm hs.1 f (X := [l.getD k (.node [])]) (Y := es) (C := l.take k ++ l.drop (k + 1)) ?_ (p.trans ?_) (List.cons_ne_nil _ _) fun y hy => ⟨_, .head _, cut_less (j :: i :: r) m _ y (List.cons_ne_nil _ _) (sl _ hx) hg.2 (r2.rep (m := 1) y hy)⟩
    · conv => lhs; rw [hl]
      exact List.perm_middle
    · rw [← List.append_assoc]
      exact (List.perm_append_comm (l₁ := l.take k) (l₂ := es)).append_right _
end
section
open PySem PySem.W PyProof.Rows PySem.Spec PySem.Calls
open Classical
noncomputable def uldH : List Hy → List Hy → List Hy × List Hy
  | [], ys => ([], ys)
  | x :: xs, ys => if x ∈ ys then uldH xs (ys.erase x) else let r := uldH xs ys; (x :: r.1, r.2)
theorem uldH_parts : ∀ (xs ys : List Hy), ∃ C : List Hy, xs.Perm ((uldH xs ys).1 ++ C) ∧ ys.Perm ((uldH xs ys).2 ++ C) ∧ (∀ p ∈ (uldH xs ys).1, p ∉ (uldH xs ys).2) ∧ (∀ q ∈ (uldH xs ys).2, q ∈ ys)
  | [], ys => ⟨[], by simp [uldH], by simp [uldH], fun p hp => by simp [uldH] at hp, fun q hq => by simpa [uldH] using hq⟩
  | x :: xs, ys => by
    by_cases h : x ∈ ys
    · obtain ⟨C, h1, h2, h3, h4⟩ := uldH_parts xs (ys.erase x)
      have e : uldH (x :: xs) ys = uldH xs (ys.erase x) := by simp [uldH, h]
      rw [e]
      exact ⟨x :: C, (h1.cons x).trans List.perm_middle.symm, (List.perm_cons_erase h).trans ((h2.cons x).trans List.perm_middle.symm), h3, fun q hq => List.mem_of_mem_erase (h4 q hq)⟩
    · obtain ⟨C, h1, h2, h3, h4⟩ := uldH_parts xs ys
      have e : uldH (x :: xs) ys = (x :: (uldH xs ys).1, (uldH xs ys).2) := by simp [uldH, h]
      rw [e]
      refine ⟨C, h1.cons x, h2, fun p hp => ?_, h4⟩
      rcases List.mem_cons.mp hp with rfl | hp
      · exact fun q => h (h4 _ q)
      · exact h3 p hp
noncomputable def bareN (f : Hy → Hy → Bool) (more : List Hy) (t : Hy) : Bool := decide (more.filter (f t) = [])
noncomputable def lessN : Nat → Hy → Hy → Bool
  | 0, _, _ => false
  | n + 1, .node xs, .node ys => !decide ((uldH ys.reverse xs).1 = []) && decide ((uldH ys.reverse xs).2.filter (bareN (lessN n) (uldH ys.reverse xs).1) = [])
theorem ltL_asymm {as bs : List Hy} (h : ltL as bs = true) : ltL bs as = false := ltH_asymm (a := .node as) (b := .node bs) (by rw [ltH]; exact h) |> fun x => by rwa [ltH] at x
theorem lessN_lt : ∀ (n : Nat) (t u : Hy), t.depth ≤ n → u.depth ≤ n → SortedH t → SortedH u → lessN n t u = ltH t u
  | 0, t, _, h, _, _, _ => by cases t; exact absurd h (by simp [Hy.depth])
  | n + 1, .node xs, .node ys, h1, h2, h3, h4 => by
    rw [Hy.depth] at h1 h2
    rw [SortedH] at h3 h4
    obtain ⟨C, p1, p2, dis, _⟩ := uldH_parts ys.reverse xs
    have py := (List.reverse_perm ys).symm.trans p1
    rw [lessN, ltH]
    have hn : ∀ t ∈ (uldH ys.reverse xs).2, ∀ o ∈ (uldH ys.reverse xs).1, lessN n t o = ltH t o := fun t ht o ho => by
      have m1 : t ∈ xs := p2.mem_iff.mpr (List.mem_append_left _ ht)
      have m2 : o ∈ ys := py.mem_iff.mpr (List.mem_append_left _ ho)
      have d1 := depth_mem m1
      have d2 := depth_mem m2
      exact lessN_lt n t o (by lia) (by lia) (sortedL_iff.mp h3.2 t m1) (sortedL_iff.mp h4.2 o m2)
    rw [Bool.eq_iff_iff, Bool.and_eq_true, Bool.not_eq_true', decide_eq_false_iff_not, decide_eq_true_iff, List.filter_eq_nil_iff]
    constructor
    · rintro ⟨a, b⟩
      refine dm h4.1 h3.1 py p2 a fun t ht => ?_
      have := b t ht
      unfold bareN at this
      rw [decide_eq_true_iff, List.filter_eq_nil_iff] at this
      refine Classical.byContradiction fun q => this fun o ho z => q ⟨o, ho, ?_⟩
      rw [← hn t ht o ho]; exact z
    · intro hl
      have back : ∀ (hx : (uldH ys.reverse xs).2 ≠ []) (hy : ∀ y ∈ (uldH ys.reverse xs).1, ∃ x ∈ (uldH ys.reverse xs).2, ltH y x = true), False := fun hx hy => by
        have := dm h3.1 h4.1 p2 py hx hy
        rw [ltL_asymm hl] at this; cases this
      have nn : (uldH ys.reverse xs).1 ≠ [] := fun q => by
        by_cases z : (uldH ys.reverse xs).2 = []
        · rw [q, List.nil_append] at py
          rw [z, List.nil_append] at p2
          rw [falls_unique (p2.trans py.symm) h3.1 h4.1] at hl
          have := ltL_asymm hl
          rw [hl] at this; cases this
        · exact back z (by rw [q]; exact fun y hy => nomatch hy)
      refine ⟨nn, fun t ht q => ?_⟩
      unfold bareN at q
      rw [decide_eq_true_iff, List.filter_eq_nil_iff] at q
      refine back (List.ne_nil_of_mem ht) fun o ho => ⟨t, ht, ?_⟩
      have z := q o ho
      rw [hn t ht o ho] at z
      cases w : ltH o t with
      | true => rfl
      | false => exact absurd (ltH_total t o (by simpa using z) w) fun e => dis o ho (e ▸ ht)
end
section
open PySem PySem.W PyProof.Rows PySem.Spec PySem.Calls
noncomputable def kidsI (c : Nat → Nat) (i j : Nat) : List Nat := ((List.range i).filter fun k => decide (c k = j)).map (· + 1)
noncomputable def treeN (c : Nat → Nat) : Nat → Nat → Hy
  | 0, _ => .node []
  | f + 1, j => .node ((kidsI c 5 j).map (treeN c f))
noncomputable def tabL (ad : Nat → Addr) (ob : Nat → Obj) (n : Nat) : List (Addr × Obj) := (List.range n).map fun j => (ad j, ob j)
theorem tabL_mem {ad : Nat → Addr} {ob : Nat → Obj} {n j : Nat} (h : j < n) : (ad j, ob j) ∈ tabL ad ob n := List.mem_map.mpr ⟨j, List.mem_range.mpr h, rfl⟩
theorem tabL_of {ad : Nat → Addr} {ob : Nat → Obj} {n : Nat} {p : Addr × Obj} (h : p ∈ tabL ad ob n) : ∃ j, j < n ∧ p = (ad j, ob j) := by
  obtain ⟨j, hj, rfl⟩ := List.mem_map.mp h
  exact ⟨j, List.mem_range.mp hj, rfl⟩
theorem tabL_succ (ad : Nat → Addr) (ob : Nat → Obj) (n : Nat) : tabL ad ob (n + 1) = tabL ad ob n ++ [(ad n, ob n)] := by
  unfold tabL; rw [List.range_succ, List.map_append]; rfl
noncomputable def ad1 (ad : Nat → Addr) (n : Nat) (a : Addr) : Nat → Addr := fun j => if j = n then a else ad j
theorem tabL_ad1 (ad : Nat → Addr) (ob : Obj) (n : Nat) (a : Addr) : tabL (ad1 ad n a) (fun _ => ob) (n + 1) = tabL ad (fun _ => ob) n ++ [(a, ob)] := by
  rw [tabL_succ]
  congr 1
  · refine List.map_congr_left fun j hj => ?_
    have := List.mem_range.mp hj
    unfold ad1
    rw [if_neg (by lia)]
  · unfold ad1; rw [if_pos rfl]
noncomputable def refsT (ad : Nat → Addr) (l : List Nat) : List Value := l.map fun j => Value.ref (ad j)
theorem refsT_ad1 (ad : Nat → Addr) (n : Nat) (a : Addr) : refsT (ad1 ad n a) (List.range (n + 1)) = refsT ad (List.range n) ++ [.ref a] := by
  unfold refsT
  rw [List.range_succ, List.map_append]
  congr 1
  · refine List.map_congr_left fun j hj => ?_
    have := List.mem_range.mp hj
    unfold ad1
    rw [if_neg (by lia)]
  · unfold ad1; simp
theorem refsT_get (ad : Nat → Addr) {n i : Nat} (h : i < n) : (refsT ad (List.range n))[i]? = some (.ref (ad i)) := by
  unfold refsT; rw [List.getElem?_map, List.getElem?_range h]; rfl
noncomputable def setO (ob : Nat → Obj) (j : Nat) (o : Obj) : Nat → Obj := fun i => if i = j then o else ob i
theorem tabL_updF {ad : Nat → Addr} {ob : Nat → Obj} {j : Nat} : ∀ {n : Nat}, j < n → (∀ a b, a < n → b < n → ad a = ad b → a = b) → UpdF (ad j) (ob j) (tabL ad ob n) (fun o => tabL ad (setO ob j o) n)
  | 0, h, _ => absurd h (Nat.not_lt_zero _)
  | n + 1, h, inj => by
    have snoc : ∀ {l : List (Addr × Obj)} {g : Obj → List (Addr × Obj)} {d : Addr} {o : Obj} {q : Addr × Obj}, UpdF d o l g → q.1 ≠ d → UpdF d o (l ++ [q]) (fun o => g o ++ [q]) := by
      intro l g d o q U hq
      induction U with
      | head hn => exact .head fun p hp => (List.mem_append.mp hp).elim (hn p) fun h => by rw [List.mem_singleton.mp h]; exact hq
      | tail hp _ ih => exact .tail hp ih
    by_cases e : j < n
    · have U := tabL_updF (ad := ad) (ob := ob) e fun a b ha hb => inj a b (Nat.lt_succ_of_lt ha) (Nat.lt_succ_of_lt hb)
      have := snoc (q := (ad n, ob n)) U fun q => Nat.ne_of_gt e (inj n j (Nat.lt_succ_self _) h q)
      rw [← tabL_succ] at this
      have e2 : (fun o => tabL ad (setO ob j o) (n + 1)) = fun o => tabL ad (setO ob j o) n ++ [(ad n, ob n)] := by
        funext o
        rw [tabL_succ]
        congr 1
        unfold setO
        rw [if_neg (by lia)]
      rw [e2]; exact this
    · have ej : j = n := by lia
      subst ej
      rw [tabL_succ]
      have e2 : (fun o => tabL ad (setO ob j o) (j + 1)) = fun o => tabL ad ob j ++ [(ad j, o)] := by
        funext o
        rw [tabL_succ]
        congr 1
        · refine List.map_congr_left fun i hi => ?_
          have := List.mem_range.mp hi
          unfold setO
          rw [if_neg (by lia)]
        · unfold setO; rw [if_pos rfl]
      rw [e2]
      refine updF_app (.head fun p hp => absurd hp List.not_mem_nil) fun p hp => ?_
      obtain ⟨i, hi, rfl⟩ := tabL_of hp
      exact fun q => Nat.ne_of_lt hi (inj i j (Nat.lt_succ_of_lt hi) h q)
noncomputable def kidO (ad : Nat → Addr) (c : Nat → Nat) (i : Nat) (nn : Nat → Nat) : Nat → Obj := fun j => listOf (refsT ad (kidsI c i j)).toArray (nn j)
theorem kidsI_succ (c : Nat → Nat) (i j : Nat) : kidsI c (i + 1) j = if c i = j then kidsI c i j ++ [i + 1] else kidsI c i j := by
  unfold kidsI
  rw [List.range_succ, List.filter_append, List.map_append]
  split
  · rename_i h; simp [h]
  · rename_i h; simp [h]
theorem kidO_set (ad : Nat → Addr) (c : Nat → Nat) (i : Nat) (nn : Nat → Nat) : setO (kidO ad c i nn) (c i) (listOf ((refsT ad (kidsI c i (c i))).toArray.push (.ref (ad (i + 1)))) (nn (c i) + 1)) = kidO ad c (i + 1) (fun j => if j = c i then nn (c i) + 1 else nn j) := by
  funext j
  unfold setO kidO
  by_cases h : j = c i
  · subst h
    dsimp only
    rw [if_pos rfl, if_pos rfl, kidsI_succ, if_pos rfl, List.push_toArray]
    unfold refsT
    rw [List.map_append]; rfl
  · dsimp only
    rw [if_neg h, if_neg h, kidsI_succ, if_neg (Ne.symm h)]
theorem kidsI_len (c : Nat → Nat) (i j : Nat) : (kidsI c i j).length ≤ i := by
  unfold kidsI
  rw [List.length_map]
  exact Nat.le_trans (List.length_filter_le _ _) (by rw [List.length_range]; exact Nat.le_refl _)
theorem HysG.ofMap {G : Addr → Obj → Prop} {ad : Nat → Addr} {f : Nat → Hy} : ∀ {l : List Nat}, (∀ x ∈ l, HyG G (.ref (ad x)) (f x)) → HysG G (refsT ad l) (l.map f)
  | [], _ => .nil
  | x :: l, h => .cons (h x (.head _)) (HysG.ofMap fun y hy => h y (.tail _ hy))
theorem tree_in {ad : Nat → Addr} {c : Nat → Nat} {nn : Nat → Nat} (hc : ∀ k, k < 5 → c k ≤ k) : ∀ f j, j ≤ 5 → 6 ≤ f + j → HyIn (tabL ad (kidO ad c 5 nn) 6) (.ref (ad j)) (treeN c f j)
  | 0, j, h, q => by lia
  | f + 1, j, h, q => by
    rw [treeN]
    refine .mk (tabL_mem (ad := ad) (ob := kidO ad c 5 nn) (n := 6) (j := j) (by lia)) (HysG.ofMap fun x hx => ?_)
    unfold kidsI at hx
    obtain ⟨k, hk, rfl⟩ := List.mem_map.mp hx
    obtain ⟨k1, k2⟩ := List.mem_filter.mp hk
    have k1 := List.mem_range.mp k1
    have k2 := of_decide_eq_true k2
    have k3 := hc k k1
    exact tree_in hc f (k + 1) (by lia) (by lia)
noncomputable def cellT (n : Int) (k : Nat) : Nat := ([0, n.fmod 2, (n.fdiv 2).fmod 3, (n.fdiv 6).fmod 4, (n.fdiv 24).fmod 5].getD k 0).toNat
theorem fmod_in (n b : Int) (h : 0 < b) : 0 ≤ n.fmod b ∧ n.fmod b < b := ⟨Int.fmod_nonneg_of_pos n h, Int.fmod_lt_of_pos n h⟩
theorem cellT_le (n : Int) (k : Nat) (h : k < 5) : cellT n k ≤ k := by
  have h1 := fmod_in n 2 (by decide)
  have h2 := fmod_in (n.fdiv 2) 3 (by decide)
  have h3 := fmod_in (n.fdiv 6) 4 (by decide)
  have h4 := fmod_in (n.fdiv 24) 5 (by decide)
  rcases k with _ | _ | _ | _ | _ | k
  · exact Nat.le_refl _
  · show (n.fmod 2).toNat ≤ 1; lia
  · show ((n.fdiv 2).fmod 3).toNat ≤ 2; lia
  · show ((n.fdiv 6).fmod 4).toNat ≤ 3; lia
  · show ((n.fdiv 24).fmod 5).toNat ≤ 4; lia
  · lia
theorem cellT_eq (n : Int) : (List.range 5).map (fun k => (cellT n k : Int)) = [0, n.fmod 2, (n.fdiv 2).fmod 3, (n.fdiv 6).fmod 4, (n.fdiv 24).fmod 5] := by
  show [((0 : Int).toNat : Int), ((n.fmod 2).toNat : Int), (((n.fdiv 2).fmod 3).toNat : Int), (((n.fdiv 6).fmod 4).toNat : Int), (((n.fdiv 24).fmod 5).toNat : Int)] = _
  rw [Int.toNat_of_nonneg (fmod_in n 2 (by decide)).1, Int.toNat_of_nonneg (fmod_in (n.fdiv 2) 3 (by decide)).1, Int.toNat_of_nonneg (fmod_in (n.fdiv 6) 4 (by decide)).1, Int.toNat_of_nonneg (fmod_in (n.fdiv 24) 5 (by decide)).1]
  rfl
noncomputable def toldH (n : Int) : Hy := treeN (cellT n) 6 0
theorem treeN_depth (c : Nat → Nat) : ∀ f j, (treeN c f j).depth ≤ f + 1
  | 0, _ => by simp [treeN, Hy.depth, depthL]
  | f + 1, j => by
    rw [treeN, Hy.depth]
    refine Nat.succ_le_succ (depthL_le fun t ht => ?_)
    obtain ⟨x, _, rfl⟩ := List.mem_map.mp ht
    exact treeN_depth c f x
theorem slimL_of {l : List Hy} (h : ∀ t ∈ l, t.slim) : slimL l := by
  induction l with
  | nil => trivial
  | cons a l ih => exact ⟨h a (.head _), ih fun t ht => h t (.tail _ ht)⟩
theorem treeN_slim (c : Nat → Nat) : ∀ f j, (treeN c f j).slim
  | 0, _ => ⟨by simp, trivial⟩
  | f + 1, j => by
    rw [treeN]
    refine ⟨?_, slimL_of fun t ht => ?_⟩
    · rw [List.length_map]; exact Nat.lt_of_le_of_lt (kidsI_len c 5 j) (by decide)
    · obtain ⟨x, _, rfl⟩ := List.mem_map.mp ht
      exact treeN_slim c f x
mutual
noncomputable def slimB (k : Nat) : Hy → Bool
  | .node l => decide (l.length ≤ k) && slimBL k l
noncomputable def slimBL (k : Nat) : List Hy → Bool
  | [] => true
  | a :: l => slimB k a && slimBL k l
end
end
section
open PySem PySem.W PyProof.Rows PySem.Spec PySem.Calls
mutual
noncomputable def Hy.sz : Hy → Nat
  | .node l => szL l + 1
noncomputable def szL : List Hy → Nat
  | [] => 0
  | a :: l => a.sz + szL l
end
mutual
theorem cntH_sz : ∀ t : Hy, cntH t + 1 ≤ t.sz
  | .node l => by rw [cntH, Hy.sz]; have := cntL_sz l; lia
theorem cntL_sz : ∀ l : List Hy, cntL l ≤ szL l
  | [] => by simp [cntL, szL]
  | t :: r => by
    rw [cntL, szL]
    have h1 := cntH_sz t
    have h2 := cntL_sz r
    split <;> lia
end
theorem szL_app : ∀ as bs : List Hy, szL (as ++ bs) = szL as + szL bs
  | [], _ => by simp [szL]
  | a :: as, bs => by rw [List.cons_append, szL, szL, szL_app as bs]; lia
theorem szL_rep (t : Hy) : ∀ m : Nat, szL (List.replicate m t) = m * t.sz
  | 0 => by simp [szL]
  | m + 1 => by rw [List.replicate_succ, szL, szL_rep t m]; rw [Nat.add_mul]; lia
theorem szL_perm {as bs : List Hy} (p : as.Perm bs) : szL as = szL bs := by
  induction p with
  | nil => rfl
  | cons a _ ih => simp only [szL, ih]
  | swap a b l => simp only [szL]; lia
  | trans _ _ h1 h2 => exact h1.trans h2
mutual
theorem SrtH.sz : ∀ {t u : Hy}, SrtH t u → u.sz = t.sz
  | _, _, .mk r p _ => by rw [Hy.sz, Hy.sz, szL_perm p, r.sz]
theorem SrtL.sz : ∀ {ts us : List Hy}, SrtL ts us → szL us = szL ts
  | _, _, .nil => rfl
  | _, _, .cons a r => by rw [szL, szL, a.sz, r.sz]
end
mutual
noncomputable def slimK (k : Nat) : Hy → Prop
  | .node l => l.length ≤ k ∧ slimKL k l
noncomputable def slimKL (k : Nat) : List Hy → Prop
  | [] => True
  | a :: l => slimK k a ∧ slimKL k l
end
theorem slimKL_iff {k : Nat} {l : List Hy} : slimKL k l ↔ ∀ t ∈ l, slimK k t := by
  induction l with
  | nil => simp [slimKL]
  | cons a l ih => simp only [slimKL, ih, List.mem_cons, forall_eq_or_imp]
mutual
theorem slimK_slim : ∀ {k : Nat} {t : Hy}, k < 64 → slimK k t → t.slim
  | _, .node l, hk, h => by
    rw [slimK] at h
    exact ⟨Nat.lt_of_le_of_lt h.1 hk, slimKL_slim hk h.2⟩
theorem slimKL_slim : ∀ {k : Nat} {l : List Hy}, k < 64 → slimKL k l → slimL l
  | _, [], _, _ => trivial
  | _, _ :: _, hk, h => by
    rw [slimKL] at h
    exact ⟨slimK_slim hk h.1, slimKL_slim hk h.2⟩
end
mutual
theorem slimK_up : ∀ {k n : Nat} {t : Hy}, k ≤ n → slimK k t → slimK n t
  | _, _, .node l, hk, h => by
    rw [slimK] at h ⊢
    exact ⟨Nat.le_trans h.1 hk, slimKL_up hk h.2⟩
theorem slimKL_up : ∀ {k n : Nat} {l : List Hy}, k ≤ n → slimKL k l → slimKL n l
  | _, _, [], _, _ => by rw [slimKL]; trivial
  | _, _, _ :: _, hk, h => by
    rw [slimKL] at h ⊢
    exact ⟨slimK_up hk h.1, slimKL_up hk h.2⟩
end
mutual
theorem SrtH.slimK : ∀ {k : Nat} {t u : Hy}, SrtH t u → Mine.slimK k t → Mine.slimK k u
  | _, _, _, .mk r p _, h => by
    rw [Mine.slimK] at h ⊢
    have e1 := p.length_eq
    have e2 := r.len
    exact ⟨by lia, slimKL_iff.mpr fun t ht => slimKL_iff.mp (r.slimK h.2) t (p.mem_iff.mp ht)⟩
theorem SrtL.slimK : ∀ {k : Nat} {ts us : List Hy}, SrtL ts us → slimKL k ts → slimKL k us
  | _, _, _, .nil, _ => by rw [slimKL]; trivial
  | _, _, _, .cons a r, h => by
    rw [slimKL] at h ⊢
    exact ⟨a.slimK h.1, r.slimK h.2⟩
end
theorem cut_parts {l : List Hy} {k : Nat} (hk : k < l.length) : (l.take k).length + (l.drop (k + 1)).length + 1 = l.length ∧ szL (l.take k) + (l.getD k (.node [])).sz + szL (l.drop (k + 1)) = szL l := by
  have h := getD_mem hk
  constructor
  · rw [List.length_take, List.length_drop]; lia
  · conv => rhs; rw [h]
    rw [szL_app, szL]; lia
theorem cut_bounds : ∀ (way : List Nat) (m n : Nat) (t : Hy), 1 ≤ m → m ≤ 3 → goesB way t = true → slimK n t → slimK (n + 2) (cutW way m t) ∧ (cutW way m t).depth ≤ t.depth ∧ (cutW way m t).sz ≤ m * t.sz
  | [], m, n, t, h1, _, _, hs => by
    have e : cutW [] m t = t := by cases t; rfl
    rw [e]
    refine ⟨slimK_up (Nat.le_add_right _ _) hs, Nat.le_refl _, ?_⟩
    have : t.sz * 1 ≤ t.sz * m := Nat.mul_le_mul_left _ h1
    rw [Nat.mul_comm]; simpa using this
  | [k], m, n, .node l, h1, _, hg, hs => by
    rw [goesB, Bool.and_eq_true, decide_eq_true_eq] at hg
    obtain ⟨q1, q2⟩ := cut_parts hg.1
    rw [slimK] at hs
    have sl := slimKL_iff.mp hs.2
    have hsub : ∀ t ∈ l.take k ++ l.drop (k + 1), t ∈ l := fun t ht => by
      rcases List.mem_append.mp ht with h | h
      · exact List.mem_of_mem_take h
      · exact List.mem_of_mem_drop h
    rw [cutW, slimK, Hy.depth, Hy.depth, Hy.sz, Hy.sz, List.length_append, szL_app]
    refine ⟨⟨by lia, slimKL_iff.mpr fun t ht => slimK_up (Nat.le_add_right _ _) (sl t (hsub t ht))⟩, Nat.succ_le_succ (depthL_le fun t ht => depth_mem (hsub t ht)), ?_⟩
    have : 1 * (szL l + 1) ≤ m * (szL l + 1) := Nat.mul_le_mul_right _ h1
    lia
  | [k, j], m, n, .node l, h1, h3, hg, hs => by
    rw [goesB, Bool.and_eq_true, decide_eq_true_eq] at hg
    obtain ⟨q1, q2⟩ := cut_parts hg.1
    rw [slimK] at hs
    have sl := slimKL_iff.mp hs.2
    have hx := getD_in hg.1
    obtain ⟨c1, c2, _⟩ := cut_bounds [j] m n _ h1 h3 hg.2 (sl _ hx)
    obtain ⟨_, _, c3⟩ := cut_bounds [j] 1 n _ (Nat.le_refl _) (by lia) hg.2 (sl _ hx)
    have c4 : (cutW [j] 1 (l.getD k (.node []))) = cutW [j] m (l.getD k (.node [])) := by cases l.getD k (.node []); rfl
    rw [c4] at c3
    have hd := depth_mem hx
    rw [cutW, slimK, Hy.depth, Hy.depth, Hy.sz, Hy.sz, List.length_append, List.length_append, List.length_replicate, szL_app, szL_app, szL_rep]
    refine ⟨⟨by lia, slimKL_iff.mpr fun t ht => ?_⟩, Nat.succ_le_succ (depthL_le fun t ht => ?_), ?_⟩
    · rcases List.mem_append.mp ht with h | h
      · rcases List.mem_append.mp h with h | h
        · exact slimK_up (Nat.le_add_right _ _) (sl t (List.mem_of_mem_take h))
        · rw [(List.mem_replicate.mp h).2]; exact c1
      · exact slimK_up (Nat.le_add_right _ _) (sl t (List.mem_of_mem_drop h))
    · rcases List.mem_append.mp ht with h | h
      · rcases List.mem_append.mp h with h | h
        · exact depth_mem (List.mem_of_mem_take h)
        · rw [(List.mem_replicate.mp h).2]; exact Nat.le_trans c2 hd
      · exact depth_mem (List.mem_of_mem_drop h)
    · have z1 : m * (cutW [j] m (l.getD k (.node []))).sz ≤ m * (l.getD k (.node [])).sz := Nat.mul_le_mul_left _ (by lia)
      have z2 : 1 * (szL (l.take k) + szL (l.drop (k + 1)) + 1) ≤ m * (szL (l.take k) + szL (l.drop (k + 1)) + 1) := Nat.mul_le_mul_right _ h1
      have z3 : m * (szL l + 1) = m * (szL (l.take k) + szL (l.drop (k + 1)) + 1) + m * (l.getD k (.node [])).sz := by rw [← Nat.mul_add, ← q2]; congr 1; lia
      lia
  | k :: j :: i :: r, m, n, .node l, h1, h3, hg, hs => by
    rw [goesB, Bool.and_eq_true, decide_eq_true_eq] at hg
    obtain ⟨q1, q2⟩ := cut_parts hg.1
    rw [slimK] at hs
    have sl := slimKL_iff.mp hs.2
    have hx := getD_in hg.1
    obtain ⟨c1, c2, c3⟩ := cut_bounds (j :: i :: r) m n _ h1 h3 hg.2 (sl _ hx)
    have hd := depth_mem hx
    rw [cutW, slimK, Hy.depth, Hy.depth, Hy.sz, Hy.sz, List.length_append, List.length_append, List.length_singleton, szL_app, szL_app, szL, szL]
    refine ⟨⟨by lia, slimKL_iff.mpr fun t ht => ?_⟩, Nat.succ_le_succ (depthL_le fun t ht => ?_), ?_⟩
    · rcases List.mem_append.mp ht with h | h
      · rcases List.mem_append.mp h with h | h
        · exact slimK_up (Nat.le_add_right _ _) (sl t (List.mem_of_mem_take h))
        · rw [List.mem_singleton.mp h]; exact c1
      · exact slimK_up (Nat.le_add_right _ _) (sl t (List.mem_of_mem_drop h))
    · rcases List.mem_append.mp ht with h | h
      · rcases List.mem_append.mp h with h | h
        · exact depth_mem (List.mem_of_mem_take h)
        · rw [List.mem_singleton.mp h]; exact Nat.le_trans c2 hd
      · exact depth_mem (List.mem_of_mem_drop h)
    · have z2 : 1 * (szL (l.take k) + szL (l.drop (k + 1)) + 1) ≤ m * (szL (l.take k) + szL (l.drop (k + 1)) + 1) := Nat.mul_le_mul_right _ h1
      have z3 : m * (szL l + 1) = m * (szL (l.take k) + szL (l.drop (k + 1)) + 1) + m * (l.getD k (.node [])).sz := by rw [← Nat.mul_add, ← q2]; congr 1; lia
      lia
mutual
theorem headsH_goes : ∀ (t : Hy) (w : List Nat), w ∈ headsH t → w ≠ [] ∧ goesB w t = true
  | .node l, w, h => by
    rw [headsH] at h
    obtain ⟨k, r, i, rfl, rfl, h1, h2⟩ := headsL_goes l 0 w h
    rw [Nat.zero_add]
    exact ⟨List.cons_ne_nil _ _, by rw [goesB, h2, decide_eq_true h1]; rfl⟩
theorem headsL_goes : ∀ (l : List Hy) (k : Nat) (w : List Nat), w ∈ headsL k l → ∃ k' r i, w = k' :: r ∧ k' = k + i ∧ i < l.length ∧ goesB r (l.getD i (.node [])) = true
  | [], _, _, h => by simp [headsL] at h
  | t :: l, k, w, h => by
    rw [headsL, List.mem_append, List.mem_append] at h
    rcases h with (h | h) | h
    · obtain ⟨u, hu, rfl⟩ := List.mem_map.mp h
      exact ⟨k, u, 0, rfl, rfl, Nat.succ_pos _, (headsH_goes t u hu).2⟩
    · split at h
      · rw [List.mem_singleton.mp h]
        exact ⟨k, [], 0, rfl, rfl, Nat.succ_pos _, by cases t; rfl⟩
      · cases h
    · obtain ⟨k', r, i, rfl, rfl, h1, h2⟩ := headsL_goes l (k + 1) w h
      exact ⟨_, r, i + 1, rfl, by lia, Nat.succ_lt_succ h1, h2⟩
end
mutual
theorem headsH_some : ∀ t : Hy, t ≠ .node [] → headsH t ≠ []
  | .node [], h => absurd rfl h
  | .node (a :: l), _ => by
    rw [headsH, headsL]
    intro q
    have q1 := (List.append_eq_nil_iff.mp (List.append_eq_nil_iff.mp q).1)
    by_cases ha : a = .node []
    · rw [if_pos ((eqH_iff _ _).mpr ha)] at q1
      exact absurd q1.2 (List.cons_ne_nil _ _)
    · exact headsH_some a ha (List.map_eq_nil_iff.mp q1.1)
end
end
section
open PySem PySem.W PyProof.Rows PySem.Spec PySem.Calls
noncomputable def endsB : List Nat → Hy → Bool
  | [], t => eqH t (.node [])
  | k :: r, .node l => decide (k < l.length) && endsB r (l.getD k (.node []))
mutual
theorem headsH_ends : ∀ (t : Hy) (w : List Nat), w ∈ headsH t → endsB w t = true
  | .node l, w, h => by
    rw [headsH] at h
    obtain ⟨k, r, i, rfl, rfl, h1, h2⟩ := headsL_ends l 0 w h
    rw [Nat.zero_add, endsB, h2, decide_eq_true h1]; rfl
theorem headsL_ends : ∀ (l : List Hy) (k : Nat) (w : List Nat), w ∈ headsL k l → ∃ k' r i, w = k' :: r ∧ k' = k + i ∧ i < l.length ∧ endsB r (l.getD i (.node [])) = true
  | [], _, _, h => by simp [headsL] at h
  | t :: l, k, w, h => by
    rw [headsL, List.mem_append, List.mem_append] at h
    rcases h with (h | h) | h
    · obtain ⟨u, hu, rfl⟩ := List.mem_map.mp h
      exact ⟨k, u, 0, rfl, rfl, Nat.succ_pos _, headsH_ends t u hu⟩
    · split at h
      · rename_i q
        rw [List.mem_singleton.mp h]
        exact ⟨k, [], 0, rfl, rfl, Nat.succ_pos _, q⟩
      · cases h
    · obtain ⟨k', r, i, rfl, rfl, h1, h2⟩ := headsL_ends l (k + 1) w h
      exact ⟨_, r, i + 1, rfl, by lia, Nat.succ_lt_succ h1, h2⟩
end
theorem cut_sz : ∀ (way : List Nat) (m : Nat) (t : Hy), 1 ≤ m → endsB way t = true → t.sz ≤ (cutW way m t).sz + 1
  | [], m, t, _, _ => by
    have e : cutW [] m t = t := by cases t; rfl
    rw [e]; exact Nat.le_succ _
  | [k], m, .node l, _, hg => by
    rw [endsB, Bool.and_eq_true, decide_eq_true_eq] at hg
    obtain ⟨_, q2⟩ := cut_parts hg.1
    have h1 : (l.getD k (.node [])).sz = 1 := by
      have := hg.2
      rw [endsB] at this
      rw [(eqH_iff _ _).mp this]; rfl
    rw [cutW, Hy.sz, Hy.sz, szL_app]; lia
  | [k, j], m, .node l, h1, hg => by
    rw [endsB, Bool.and_eq_true, decide_eq_true_eq] at hg
    obtain ⟨_, q2⟩ := cut_parts hg.1
    have c := cut_sz [j] m _ h1 hg.2
    rw [cutW, Hy.sz, Hy.sz, szL_app, szL_app, szL_rep]
    have : 1 * (cutW [j] m (l.getD k (.node []))).sz ≤ m * (cutW [j] m (l.getD k (.node []))).sz := Nat.mul_le_mul_right _ h1
    lia
  | k :: j :: i :: r, m, .node l, h1, hg => by
    rw [endsB, Bool.and_eq_true, decide_eq_true_eq] at hg
    obtain ⟨_, q2⟩ := cut_parts hg.1
    have c := cut_sz (j :: i :: r) m _ h1 hg.2
    rw [cutW, Hy.sz, Hy.sz, szL_app, szL_app, szL, szL]; lia
theorem kidsI_congr {c d : Nat → Nat} (h : ∀ k, k < 5 → c k = d k) (j : Nat) : kidsI c 5 j = kidsI d 5 j := by
  unfold kidsI
  congr 1
  refine List.filter_congr fun k hk => ?_
  rw [h k (List.mem_range.mp hk)]
theorem treeN_congr {c d : Nat → Nat} (h : ∀ k, k < 5 → c k = d k) : ∀ f j, treeN c f j = treeN d f j
  | 0, _ => rfl
  | f + 1, j => by
    rw [treeN, treeN, kidsI_congr h]
    congr 1
    exact List.map_congr_left fun x _ => treeN_congr h f x
theorem treeN_slimK (c : Nat → Nat) : ∀ f j, slimK 5 (treeN c f j)
  | 0, _ => by rw [treeN, slimK, slimKL]; exact ⟨Nat.zero_le _, trivial⟩
  | f + 1, j => by
    rw [treeN, slimK, List.length_map]
    refine ⟨kidsI_len c 5 j, slimKL_iff.mpr fun t ht => ?_⟩
    obtain ⟨x, _, rfl⟩ := List.mem_map.mp ht
    exact treeN_slimK c f x
theorem trees_sz : ∀ c1 : Fin 2, ∀ c2 : Fin 3, ∀ c3 : Fin 4, ∀ c4 : Fin 5, (treeN (fun k => [0, c1.val, c2.val, c3.val, c4.val].getD k 0) 6 0).sz = 6 := by decide +kernel
theorem told_sz (n : Int) : (toldH n).sz = 6 := by
  have h1 := cellT_le n 1 (by decide)
  have h2 := cellT_le n 2 (by decide)
  have h3 := cellT_le n 3 (by decide)
  have h4 := cellT_le n 4 (by decide)
  have h := trees_sz ⟨cellT n 1, Nat.lt_succ_of_le h1⟩ ⟨cellT n 2, Nat.lt_succ_of_le h2⟩ ⟨cellT n 3, Nat.lt_succ_of_le h3⟩ ⟨cellT n 4, Nat.lt_succ_of_le h4⟩
  refine Eq.trans (congrArg Hy.sz (treeN_congr (fun k hk => ?_) 6 0)) h
  rcases k with _ | _ | _ | _ | _ | k
  · exact Nat.le_zero.mp (cellT_le n 0 (by decide))
  · rfl
  · rfl
  · rfl
  · rfl
  · lia
structure GoodH (k : Nat) (t : Hy) : Prop where
  sorted : SortedH t
  depth : t.depth ≤ 7
  slim : slimK (5 + 2 * k) t
  most : t.sz ≤ 6 * 3 ^ k
  least : 6 ≤ t.sz + k
theorem GoodH.told {n : Int} {t : Hy} (h : SrtH (toldH n) t) : GoodH 0 t :=
  ⟨h.sorted, by rw [h.depth]; exact treeN_depth _ _ _, h.slimK (treeN_slimK _ _ _), by rw [h.sz, told_sz]; decide, by rw [h.sz, told_sz]; decide⟩
theorem GoodH.cut {k m : Nat} {t u : Hy} {way : List Nat} (g : GoodH k t) (h1 : 1 ≤ m) (h3 : m ≤ 3) (hw : way ∈ headsH t) (h : SrtH (cutW way m t) u) : GoodH (k + 1) u ∧ ltH u t = true := by
  obtain ⟨n1, n2⟩ := headsH_goes t way hw
  obtain ⟨b1, b2, b3⟩ := cut_bounds way m _ t h1 h3 n2 g.slim
  have b4 := cut_sz way m t h1 (headsH_ends t way hw)
  refine ⟨⟨h.sorted, by rw [h.depth]; exact Nat.le_trans b2 g.depth, h.slimK b1, ?_, ?_⟩, cut_less way m t u n1 g.sorted n2 h⟩
  · rw [h.sz]
    refine Nat.le_trans b3 ?_
    rw [Nat.pow_succ, ← Nat.mul_assoc, Nat.mul_comm]
    exact Nat.mul_le_mul g.most h3
  · rw [h.sz]; have := g.least; lia
theorem GoodH.some {k : Nat} {t : Hy} (g : GoodH k t) (hk : k ≤ 4) : 0 < cntH t := by
  have hn : t ≠ .node [] := fun q => by
    have := g.least
    rw [q, show (Hy.node []).sz = 1 from rfl] at this
    lia
  rw [← headsH_cnt]
  exact List.length_pos_iff.mpr (headsH_some t hn)
theorem GoodH.cnt {k : Nat} {t : Hy} (g : GoodH k t) (hk : k ≤ 2) : cntH t ≤ 900 := by
  have h1 := cntH_sz t
  have h2 := g.most
  have h3 : 3 ^ k ≤ 3 ^ 2 := Nat.pow_le_pow_right (by decide) hk
  lia
theorem GoodH.sl {k : Nat} {t : Hy} (g : GoodH k t) (hk : k ≤ 2) : t.slim := slimK_slim (by lia) g.slim
noncomputable def Line (ts : List Hy) : Prop := ∀ i, i < ts.length → GoodH i (ts.getD i (.node [])) ∧ (i + 1 < ts.length → ltH (ts.getD (i + 1) (.node [])) (ts.getD i (.node [])) = true)
theorem Line.one {t : Hy} (g : GoodH 0 t) : Line [t] := fun i hi => by
  obtain rfl : i = 0 := Nat.lt_one_iff.mp hi
  exact ⟨g, fun h => absurd h (by simp)⟩
theorem Line.last {r : List Hy} {t : Hy} (h : Line (r ++ [t])) : GoodH r.length t := by
  have := (h r.length (by simp)).1
  simpa using this
theorem Line.snoc {r : List Hy} {t u : Hy} (h : Line (r ++ [t])) (g : GoodH (r.length + 1) u) (hl : ltH u t = true) : Line (r ++ [t] ++ [u]) := fun i hi => by
  have e1 : ∀ j, j < (r ++ [t]).length → (r ++ [t] ++ [u]).getD j (.node []) = (r ++ [t]).getD j (.node []) := fun j hj => by
    rw [List.getD_eq_getElem?_getD, List.getD_eq_getElem?_getD, List.getElem?_append_left hj]
  have e2 : (r ++ [t] ++ [u]).getD (r.length + 1) (.node []) = u := by simp
  have e3 : (r ++ [t]).getD r.length (.node []) = t := by simp
  have hl1 : (r ++ [t]).length = r.length + 1 := by simp
  have hl2 : (r ++ [t] ++ [u]).length = r.length + 2 := by simp
  by_cases q : i < (r ++ [t]).length
  · rw [e1 i q]
    refine ⟨(h i q).1, fun q2 => ?_⟩
    by_cases q3 : i + 1 < (r ++ [t]).length
    · rw [e1 _ q3]; exact (h i q).2 q3
    · have : i = r.length := by lia
      subst this
      rw [e2, e3]; exact hl
  · have : i = r.length + 1 := by lia
    subst this
    rw [e2]
    exact ⟨g, fun q2 => by lia⟩
structure Four (ts : List Hy) (a b c d : Hy) : Prop where
  eq : ts = [a, b, c, d]
  all : ∀ t ∈ ts, SortedH t ∧ t.depth ≤ 7 ∧ t.slim
  ba : ltH b a = true
  cb : ltH c b = true
theorem Line.four {ts : List Hy} {d : Hy} (h : Line ts) (hl : ts.length = 3) (g : GoodH 0 d) : Ex3 fun a b c => Four (ts ++ [d]) a b c d := by
  have ok : ∀ {k t}, GoodH k t → k ≤ 2 → SortedH t ∧ t.depth ≤ 7 ∧ t.slim := fun g hk => ⟨g.sorted, g.depth, g.sl hk⟩
  rcases ts with _ | ⟨a, _ | ⟨b, _ | ⟨c, _ | ⟨x, r⟩⟩⟩⟩
  · cases hl
  · cases hl
  · cases hl
  · refine ⟨a, b, c, rfl, fun t ht => ?_, (h 0 (by simp)).2 (by simp), (h 1 (by simp)).2 (by simp)⟩
    simp only [List.cons_append, List.nil_append, List.mem_cons, List.not_mem_nil, or_false] at ht
    rcases ht with rfl | rfl | rfl | rfl
    · exact ok (h 0 (by simp)).1 (by decide)
    · exact ok (h 1 (by simp)).1 (by decide)
    · exact ok (h 2 (by simp)).1 (by decide)
    · exact ok g (by decide)
  · simp at hl
end
section
set_option maxHeartbeats 8000000
local macro_rules | `(tactic| walk_at "none") => `(tactic| skip)
local macro_rules | `(tactic| walk_at "eval Name") => `(tactic| walk_at "evL")
theorem lst_turn {fs : List Addr} {g g2 : Heap} (K : KtsTurn fs g g2) (D : KtsDicts fs g) : ∀ a vs n, atH g a (listOf vs n) → atH g2 a (listOf vs n) := fun a vs n e => K.other _ _ e fun q => by
  obtain ⟨o, es, k, ho, hd⟩ := D a q
  rw [show g.get? a = some (listOf vs n) from e] at ho
  cases ho; cases hd
theorem rev_lastH {xs : List Hy} (h : 0 < xs.length) : xs.reverse = xs.getLastD (.node []) :: xs.dropLast.reverse := by
  have hn : xs ≠ [] := List.ne_nil_of_length_pos h
  have e := List.dropLast_concat_getLast hn
  have e2 : xs.getLastD (.node []) = xs.getLast hn := by rw [List.getLastD_eq_getLast?, List.getLast?_eq_some_getLast hn]; rfl
  rw [e2]
  calc xs.reverse = (xs.dropLast ++ [xs.getLast hn]).reverse := by rw [e]
    _ = _ := by simp
theorem depthL_sub {as bs : List Hy} (h : ∀ t ∈ as, t ∈ bs) : depthL as ≤ depthL bs := depthL_le fun t ht => depth_mem (h t ht)
open Classical in
theorem uldHT {w : World} {dp un : Nat} {gd : Option (List Code)} {cn : Str} {cs : Scope} {a : Addr} {ccd : Value} {cl : List (Str × Addr)} {outer : List Env} {A₀ : Around} {base h₀ : Heap} {L : Addr} {m mg mb : Str → Option Value} {mean : ExcName → Option Value} {s : Shared} {Q E : Value → Shared → Prop} {la lb : Addr} {va vb : List Value} {na nb : Nat} {xs ys : List Hy} {dm : Nat} {rest : List (Addr × Obj)}
    (B : Below A₀ base outer h₀) (F : Fr h₀ L s.heap m) (X : (Mine.hd.heap_1 w.params).In h₀) (T : TP mean mg mb h₀) (hk : cs.kind = .function) (hd : dp + 4 < recursionLimit) (hu : un + 32 < cLine) (XB : (Mine.hd.heap_1 w.params).In base) (TB : TP mean mg mb base) (D : KtsDicts (outer.filterMap (·.frame)) h₀)
    (N : News h₀ L s.heap ((la, listOf va.toArray na) :: (lb, listOf vb.toArray nb) :: rest)) (hab : @Ne Nat la lb) (hr : ∀ p ∈ rest, p.1 ≠ la ∧ p.1 ≠ lb) (hi : HysAt h₀ va xs) (hj : HysAt h₀ vb ys) (hdy : depthL ys ≤ dm) (hroom : un + 60 + dm < cLine) (hl1 : xs.length ≤ 900) (hl2 : ys.length ≤ 900)
    (ret : ∀ h₀' h' tk' T lm vm vb' nm nb', KtsTurn (outer.filterMap (·.frame)) h₀ h₀' → Fr h₀' L h' m → Below A₀ base outer h₀' → (Mine.hd.heap_1 w.params).In h₀' → TP mean mg mb h₀' → KtsDicts (outer.filterMap (·.frame)) h₀' →
      News h₀' L h' ((T, ({ cls := .type "tuple", data := .seq #[.ref lm, .ref lb] } : Obj)) :: (lm, listOf vm.toArray nm) :: (lb, listOf vb'.toArray nb') :: rest) →
      HysAt h₀ vm (uldH xs.reverse ys).1 → HysAt h₀ vb' (uldH xs.reverse ys).2 → (∀ p ∈ rest, p.1 ≠ T ∧ p.1 ≠ lm) → Q (.ref T) { s with heap := h', toks := tk' }) :
    wpAny (model PG w) (ktrTop dp un gd cn cs L a ccd cl outer) (call (.ref 28) [.ref la, .ref lb]) Q E s := by
  have N0 : News h₀ L s.heap [(la, listOf va.toArray na), (lb, listOf vb.toArray nb)] := fun p hp => N p (by simp only [List.mem_cons, List.not_mem_nil, or_false] at hp ⊢; rcases hp with h | h <;> simp [h])
  refine wpAny_call ?_
  k_dflt (refine' code_defT ?k1 ?k2 ?k3 ?k4 ?k5 ?kXB ?kTB ?kD ?kA ?kF ?kK ?k6 ?k7 ?k8 ?k9 ?kB ?_ ?c2 ?c3 ?c4 ?c5; (case kA => exact rfl); (case kF => exact rfl); (case kK => assumption); (case k1 => k_asm); (case k2 => k_asm); (case k3 => k_asm); (case k4 => exact N0); (case k5 => k_asm); (case kXB => assumption); (case kTB => assumption); (case kD => assumption); (case k6 => k_is); (case k7 => k_is); (case k8 => ktr_room); (case k9 => exact BindsTo.of_eq rfl); (case c5 => decide); (case kB => exact locs rfl); (case c2 => exact rfl); (case c3 => exact rfl); (case c4 => exact rfl); k_whole; intro g' L' h' FG' F' N' B' X' T' D' kG'; (try dsimp only); (try k_fold))
  have hR : ∀ p ∈ rest, g'.get? p.1 = some p.2 := fun p hp => kG' _ _ (N p (.tail _ (.tail _ hp))).1 (by simpa [eq_comm] using hr p hp)
  (repeat' (first | (k_unfold; (try dsimp only)) | (k_end; wrow_close) | ((fail_if_success (with_reducible (refine Mine.stop_here ?_ ?_; walk_at "s0"))); walk1) | (dsimp only; (fail_if_success (with_reducible (refine Mine.stop_here ?_ ?_; walk_at "s0"))); walk1) | (leave1; walk_say "STEP leave1"; try dsimp only) | walk_at "onk" | fail "no step"))
  rename News g' L' _ _ => N1
  rename Fr g' L' _ _ => F1
  have hb : ∀ a vs n, atH h₀ a (listOf vs n) → atH g' a (listOf vs n) := fun a vs n e => kG' _ _ (F.keep _ _ e) (by
    have z1 := (N _ (.head _)).2.2
    have z2 := (N _ (.tail _ (.head _))).2.2
    intro q
    simp only [List.map_cons, List.map_nil, List.mem_cons, List.not_mem_nil, or_false] at q
    rcases q with rfl | rfl
    · rw [show h₀.get? _ = some _ from e] at z1; cases z1
    · rw [show h₀.get? _ = some _ from e] at z2; cases z2)
  refine while_inv (fun n s' => (Ex12 fun g2 h' tk' m' lm vm va' vb' nm na' nb' xs' => Cj18 (s' = { s with heap := h', toks := tk' }) (KtsTurn ((envX cn cs L a ccd cl :: outer).filterMap (·.frame)) g' g2) (Below (ktrTop dp un gd cn cs L a ccd cl outer) base (envX cn cs L a ccd cl :: outer) g2) ((Mine.hd.heap_1 w.params).In g2) (TP mean mg mb g2) (KtsDicts ((envX cn cs L a ccd cl :: outer).filterMap (·.frame)) g2) (Fr g2 L' h' m') (m' (Str.ofString "expected") = some (.ref la)) (m' (Str.ofString "actual") = some (.ref lb)) (m' (Str.ofString "missing") = some (.ref lm)) (News g2 L' h' [(lm, listOf vm.toArray nm), (la, listOf va'.toArray na'), (lb, listOf vb'.toArray nb')]) ((@Ne Nat lm la ∧ @Ne Nat lm lb)) (HysAt h₀ va' xs') (n = xs'.length) (xs'.length ≤ 900) (vm.length + xs'.length ≤ 900) (vb'.length ≤ 900) ((Ex2 fun ms ys' => Cj4 (depthL ys' ≤ dm) (HysAt h₀ vm ms) (HysAt h₀ vb' ys') ((uldH xs.reverse ys) = (let r := uldH xs'.reverse ys'; (ms ++ r.1, r.2))))))) (by passes_own) ?_ xs.length ?_
  · rintro n s' ⟨g2, h', tk', m', lm, vm, va', vb', nm, na', nb', xs', rfl, KT2, B2, X2, T2, D2, F2, hm1, hm2, hm3, N2, hne, hi2, rfl, hx9, hv9, hb9, ms, ys', hdp, hms, hys, hu⟩
    (repeat' (first | (k_unfold; (try dsimp only)) | (k_end; wrow_close) | ((fail_if_success (with_reducible (refine Mine.stop_here ?_ ?_; walk_at "s0"))); walk1) | (dsimp only; (fail_if_success (with_reducible (refine Mine.stop_here ?_ ?_; walk_at "s0"))); walk1) | (leave1; walk_say "STEP leave1"; try dsimp only) | walk_at "onk" | fail "no step"))
    have hlv := hi2.length
    refine kgr_truthy N2 (.tail _ (.head _)) rfl rfl (by lia) ?_
    rw [show (!va'.isEmpty) = decide (0 < xs'.length) from by rw [← hlv]; cases va' <;> simp]
    (try dsimp only)
    by_cases hx0 : 0 < xs'.length
    · refine WhlIf.yes (decide_eq_true hx0) ?_
      (repeat' (first | (k_unfold; (try dsimp only)) | (k_end; wrow_close) | ((fail_if_success (with_reducible (refine Mine.stop_here ?_ ?_; walk_at "s0"))); walk1) | (dsimp only; (fail_if_success (with_reducible (refine Mine.stop_here ?_ ?_; walk_at "s0"))); walk1) | (leave1; walk_say "STEP leave1"; try dsimp only) | walk_at "onk" | fail "no step"))
      have hlv := hi2.length
      obtain ⟨xv, hxv, hxl, hi7⟩ := hi2.last hx0
      refine' kl_pop (p := va'.dropLast) (y := xv) ?b1 ?b2 ?b4 ?b3 ?b5 ?_
      (case b1 => k_asm)
      (case b2 => k_asm)
      (case b3 => k_upd)
      (case b4 =>
        show kl_last va' = _
        conv => lhs; rw [hxv]
        exact kpa_last _ _)
      (case b5 => show va'.length ≤ sizeLine; rw [sizeLine_eq]; lia)
      intro h7 F7 N7
      dsimp only
      (repeat' (first | (k_unfold; (try dsimp only)) | (k_end; wrow_close) | ((fail_if_success (with_reducible (refine Mine.stop_here ?_ ?_; walk_at "s0"))); walk1) | (dsimp only; (fail_if_success (with_reducible (refine Mine.stop_here ?_ ?_; walk_at "s0"))); walk1) | (leave1; walk_say "STEP leave1"; try dsimp only) | walk_at "onk" | fail "no step"))
      walk1
      (repeat' (first | (k_unfold; (try dsimp only)) | (k_end; wrow_close) | ((fail_if_success (with_reducible (refine Mine.stop_here ?_ ?_; walk_at "s0"))); walk1) | (dsimp only; (fail_if_success (with_reducible (refine Mine.stop_here ?_ ?_; walk_at "s0"))); walk1) | (leave1; walk_say "STEP leave1"; try dsimp only) | walk_at "onk" | fail "no step"))
      rename Fr g2 L' _ _ => F8
      have up8 : ∀ a vs n, atH h₀ a (listOf vs n) → atH _ a (listOf vs n) := fun a vs n e => F8.keep _ _ (lst_turn KT2 D' a vs n (hb a vs n e))
      have hxs := hxl.keeps up8
      have hyH := hys.keeps up8
      have hbl := hys.length
      by_cases hin : xs'.getLastD (.node []) ∈ ys'
      · refine' remove_hitH (vb := vb') (ys := ys') (t := xs'.getLastD (.node [])) ?b1 ?b2 ?b3 ?b4 hys hyH hxs hin ?b5 ?b8 ?_
        (case b1 => k_asm)
        (case b2 => k_asm)
        (case b3 => k_updF)
        (case b4 => exact .tail _ (.tail _ (.head _)))
        (case b5 => lia)
        (case b8 => k_units)
        intro h6 n6 vb6 F6 N6 hi6
        (repeat' (first | (k_unfold; (try dsimp only)) | (k_end; wrow_close) | ((fail_if_success (with_reducible (refine Mine.stop_here ?_ ?_; walk_at "s0"))); walk1) | (dsimp only; (fail_if_success (with_reducible (refine Mine.stop_here ?_ ?_; walk_at "s0"))); walk1) | (leave1; walk_say "STEP leave1"; try dsimp only) | walk_at "onk" | fail "no step"))
        have hdl : xs'.dropLast.length = xs'.length - 1 := List.length_dropLast
        have hel : (ys'.erase (xs'.getLastD (.node []))).length ≤ ys'.length := List.length_erase_le
        have hil := hi6.length
        refine ⟨xs'.dropLast.length, by lia, g2, _, _, _, lm, vm, _, _, nm, _, _, xs'.dropLast, rfl, KT2, B2, X2, T2, D2, F6, (if_neg (by decide)).trans hm1, (if_neg (by decide)).trans hm2, (if_neg (by decide)).trans hm3, N6, hne, hi7, rfl, by lia, by lia, by lia, ms, _, Nat.le_trans (depthL_sub fun t ht => List.mem_of_mem_erase ht) hdp, hms, hi6, ?_⟩
        rw [hu, rev_lastH hx0]
        show (ms ++ (uldH (_ :: _) ys').1, (uldH (_ :: _) ys').2) = _
        rw [show uldH (xs'.getLastD (.node []) :: xs'.dropLast.reverse) ys' = uldH xs'.dropLast.reverse (ys'.erase (xs'.getLastD (.node []))) from if_pos hin]
      · refine' remove_missH (vb := vb') (ys := ys') (t := xs'.getLastD (.node [])) rfl ?b2 ?b4 hyH hxs hin ?b5 ?b8 ?_
        (case b2 => k_asm)
        (case b4 => exact .tail _ (.tail _ (.head _)))
        (case b5 => lia)
        (case b8 => k_units)
        intro h6 tk6 e6 X6
        refine caught_here (X := "ValueError") (T' := "ValueError") X6.of (by assumption) (by assumption) B2 XB TB D2 ?c1 ?c2 ?c3 ?c4 ?c5 ?c6 ?_
        (case c1 => k_is)
        (case c2 => rfl)
        (case c3 => decide)
        (case c4 => rfl)
        (case c5 => rfl)
        (case c6 => rfl)
        intro h8 g8 KT8 F8 N8 B8 X8 T8 D8
        (repeat' (first | (k_unfold; (try dsimp only)) | (k_end; wrow_close) | ((fail_if_success (with_reducible (refine Mine.stop_here ?_ ?_; walk_at "s0"))); walk1) | (dsimp only; (fail_if_success (with_reducible (refine Mine.stop_here ?_ ?_; walk_at "s0"))); walk1) | (leave1; walk_say "STEP leave1"; try dsimp only) | walk_at "onk" | fail "no step"))
        rename News g8 L' _ _ => N9
        rename Fr g8 L' _ _ => F9
        have hdl : xs'.dropLast.length = xs'.length - 1 := List.length_dropLast
        have hml := hms.length
        refine ⟨xs'.dropLast.length, by lia, g8, _, _, _, lm, vm ++ [xv], _, _, nm + 1, _, _, xs'.dropLast, rfl, KT2.trans KT8, B8, X8, T8, D8, F9, (if_neg (by decide)).trans hm1, (if_neg (by decide)).trans hm2, (if_neg (by decide)).trans hm3, by simpa using N9, hne, hi7, rfl, by lia, by simp; lia, by lia, ms ++ [xs'.getLastD (.node [])], ys', hdp, hms.append (.cons hxl .nil), hys, ?_⟩
        rw [hu, rev_lastH hx0]
        show (ms ++ (uldH (_ :: _) ys').1, (uldH (_ :: _) ys').2) = _
        rw [show uldH (xs'.getLastD (.node []) :: xs'.dropLast.reverse) ys' = (xs'.getLastD (.node []) :: (uldH xs'.dropLast.reverse ys').1, (uldH xs'.dropLast.reverse ys').2) from if_neg hin]
        simp
    · refine WhlIf.no (decide_eq_false hx0) ?_
      (repeat' (first | (k_unfold; (try dsimp only)) | (k_end; wrow_close) | ((fail_if_success (with_reducible (refine Mine.stop_here ?_ ?_; walk_at "s0"))); walk1) | (dsimp only; (fail_if_success (with_reducible (refine Mine.stop_here ?_ ?_; walk_at "s0"))); walk1) | (leave1; walk_say "STEP leave1"; try dsimp only) | walk_at "onk" | fail "no step"))
      have hx00 : xs' = [] := List.length_eq_zero_iff.mp (by lia)
      subst hx00
      rename News g2 L' _ _ => N9
      rename Fr g2 L' _ _ => F9
      have hRR : ∀ p ∈ rest, g2.get? p.1 = some p.2 := fun p hp => KT2.other _ _ (hR p hp) (fun q => by
        rcases kts_memX (L := L) rfl q with z | z
        · exact (N p (.tail _ (.tail _ hp))).2.1 z
        · obtain ⟨o, ho, _⟩ := (B.frames.mem z).2
          rw [(N p (.tail _ (.tail _ hp))).2.2] at ho; cases ho)
      refine ⟨g2, L', _, _, KT2, F9, N9, fun h₀' KT F N' B X T D9 => ?_⟩
      refine ret h₀' _ _ _ lm vm vb' nm nb' KT F B X T D9 (fun p hp => ?_) ?_ ?_ ?_
      · simp only [List.mem_cons] at hp
        rcases hp with h | h | h | h
        · exact N' p (by simp [h])
        · exact N' p (by simp [h])
        · exact N' p (by simp [h])
        · exact ⟨F9.keep _ _ (hRR p h), (N p (.tail _ (.tail _ h))).2.1, KT.none_ _ (N p (.tail _ (.tail _ h))).2.2⟩
      · rw [hu]; simpa [uldH] using hms
      · rw [hu]; simpa [uldH] using hys
      · intro p hp
        have z := hRR p hp
        constructor
        · intro q; have := (N9 _ (.head _)).2.2; rw [← q, z] at this; cases this
        · intro q; have := (N9 _ (.tail _ (.head _))).2.2; rw [← q, z] at this; cases this
  · have := hi.length
    have := hj.length
    exact ⟨g', _, _, _, _, [], va, vb, 0, na, nb, xs, rfl, KtsTurn.refl, B', X', T', D', F1, (if_neg (by decide)).trans rfl, (if_neg (by decide)).trans rfl, if_pos rfl, N1, ⟨by k_ne, by k_ne⟩, hi, rfl, hl1, by simpa using hl1, by lia, [], ys, hdy, .nil, hj, rfl⟩
end
section
set_option maxHeartbeats 8000000
local macro_rules | `(tactic| walk_at "eval Name") => `(tactic| first | walk_at "own" | walk_at "evE")
structure Bs (fs : List Addr) (A : Around) (base : Heap) (outer : List Env) (w : World) (mean : ExcName → Option Value) (mg mb : Str → Option Value) (g0 g : Heap) : Prop where
  turn : KtsTurn fs g0 g
  below : Below A base outer g
  inn : (Mine.hd.heap_1 w.params).In g
  top : TP mean mg mb g
  dicts : KtsDicts fs g
theorem eqH_nil (l : List Hy) : eqH (.node l) (.node []) = decide (l = []) := by
  cases l <;> simp [eqH, eqL]
theorem uldH_subs (xs ys : List Hy) : (∀ o ∈ (uldH xs.reverse ys).1, o ∈ xs) ∧ (∀ t ∈ (uldH xs.reverse ys).2, t ∈ ys) ∧ (uldH xs.reverse ys).1.length ≤ xs.length ∧ (uldH xs.reverse ys).2.length ≤ ys.length := by
  obtain ⟨C, p, q, _, h⟩ := uldH_parts xs.reverse ys
  have p := (List.reverse_perm xs).symm.trans p
  have e1 := p.length_eq
  have e2 := q.length_eq
  rw [List.length_append] at e1 e2
  exact ⟨fun o ho => p.mem_iff.mpr (List.mem_append_left _ ho), h, by lia, by lia⟩
theorem lessT (n : Nat) : ∀ {w : World} {dp un : Nat} {gd : Option (List Code)} {cn : Str} {cs : Scope} {a : Addr} {ccd : Value} {cl : List (Str × Addr)} {outer : List Env} {A₀ : Around} {base h₀ : Heap} {L : Addr} {m mg mb : Str → Option Value} {mean : ExcName → Option Value} {s : Shared} {Q E : Value → Shared → Prop} {va vb : Value} {t u : Hy} {rest : List (Addr × Obj)}
    (B : Below A₀ base outer h₀) (F : Fr h₀ L s.heap m) (X : (Mine.hd.heap_1 w.params).In h₀) (T : TP mean mg mb h₀) (hk : cs.kind = .function) (hd : dp + (8 + 3 * n) < recursionLimit) (hu : un + (150 + 24 * n) < cLine)
    (XB : (Mine.hd.heap_1 w.params).In base) (TB : TP mean mg mb base) (D : KtsDicts (outer.filterMap (·.frame)) h₀)
    (N : News h₀ L s.heap rest) (hv : HyAt s.heap va t) (hw : HyAt s.heap vb u) (hn : t.depth ≤ n) (hm : u.depth ≤ n) (hs : t.slim) (hs2 : u.slim)
    (ret : ∀ h₀' h' tk', KtsTurn (outer.filterMap (·.frame)) h₀ h₀' → Fr h₀' L h' m → Below A₀ base outer h₀' → (Mine.hd.heap_1 w.params).In h₀' → TP mean mg mb h₀' → KtsDicts (outer.filterMap (·.frame)) h₀' →
      News h₀' L h' rest → Q (.bool (lessN n t u)) { s with heap := h', toks := tk' }),
    wpAny (model PG w) (ktrTop dp un gd cn cs L a ccd cl outer) (call (.ref 189) [va, vb]) Q E s := by
  induction n with
  | zero =>
    intro w dp un gd cn cs a ccd cl outer A₀ base h₀ L m mg mb mean s Q E va vb t u rest B F X T hk hd hu XB TB D N hv hw hn
    cases t; exact absurd hn (by simp [Hy.depth])
  | succ n ih =>
    intro w dp un gd cn cs a ccd cl outer A₀ base h₀ L m mg mb mean s Q E va vb t u rest B F X T hk hd hu XB TB D N hv hw hn hm hs hs2 ret
    obtain ⟨hv1, hv2⟩ := hv
    rename_i ax vs ka ts
    obtain ⟨hw1, hw2⟩ := hw
    rename_i bx us kb zs
    have N0 : News h₀ L s.heap [] := fun p hp => nomatch hp
    have hn' : depthL ts ≤ n := by simpa [Hy.depth] using hn
    have hm' : depthL zs ≤ n := by simpa [Hy.depth] using hm
    have hl := hv2.length
    have hl2 := hw2.length
    have ht2 : ts.length < 64 := hs.1
    have ht3 : slimL ts := hs.2
    have hz2 : zs.length < 64 := hs2.1
    have hz3 : slimL zs := hs2.2
    clear hs hs2 hn hm
    refine wpAny_call ?_
    k_dflt (refine' code_defTC ?k1 ?k2 ?k3 ?k4 ?k5 ?kXB ?kTB ?kD ?kA ?kF ?kK ?k6 ?k7 ?k8 ?k9 ?kB ?kN ?_ ?c2 ?c3 ?c4; (case kA => exact rfl); (case kF => exact rfl); (case kK => assumption); (case k1 => k_asm); (case k2 => k_asm); (case k3 => k_asm); (case k4 => exact N0); (case k5 => k_asm); (case kXB => assumption); (case kTB => assumption); (case kD => assumption); (case k6 => k_is); (case k7 => k_is); (case k8 => ktr_room); (case k9 => exact BindsTo.of_eq rfl); (case kB => exact rfl); (case kN => decide +kernel); (case c2 => exact rfl); (case c3 => exact rfl); (case c4 => exact rfl); k_whole; intro g' L' h' tk' cells' FG' F' N' Y' B' X' T' D' kG' l1'; k_cells Y'; (try simp only [List.cons_append, List.nil_append] at N'); (try dsimp only); (try k_fold))
    have hv3 : g'.get? ax = some (listOf vs.toArray ka) := kG' _ _ hv1 (by simp)
    have hv4 : HysAt g' vs ts := hv2.keeps fun _ _ _ e => kG' _ _ e (by simp)
    have hw3 : g'.get? bx = some (listOf us.toArray kb) := kG' _ _ hw1 (by simp)
    have hw4 : HysAt g' us zs := hw2.keeps fun _ _ _ e => kG' _ _ e (by simp)
    (repeat' (first | (k_unfold; (try dsimp only)) | (k_end; wrow_close) | ((fail_if_success (with_reducible (refine Mine.stop_here ?_ ?_; first | walk_at "s0" | exact Mine.p20 | exact Mine.p23))); walk1) | (dsimp only; (fail_if_success (with_reducible (refine Mine.stop_here ?_ ?_; first | walk_at "s0" | exact Mine.p20 | exact Mine.p23))); walk1) | (leave1; walk_say "STEP leave1"; try dsimp only) | walk_at "onk" | fail "no step"))
    rename_i om dm
    have dm0 : om.data = .cell none := dm
    clear dm
    refine list_copyK F' N' ⟨_, F'.keep _ _ hw3, rfl, _, rfl⟩ ?_ (by rw [List.size_toArray, sizeLine_eq]; lia)
    intro D2 c2 h2 F2 N2 l2
    (try dsimp only)
    (repeat' (first | (k_unfold; (try dsimp only)) | (k_end; wrow_close) | ((fail_if_success (with_reducible (refine Mine.stop_here ?_ ?_; first | walk_at "s0" | exact Mine.p20 | exact Mine.p23))); walk1) | (dsimp only; (fail_if_success (with_reducible (refine Mine.stop_here ?_ ?_; first | walk_at "s0" | exact Mine.p20 | exact Mine.p23))); walk1) | (leave1; walk_say "STEP leave1"; try dsimp only) | walk_at "onk" | fail "no step"))
    refine list_copyK F2 N2 ⟨_, F2.keep _ _ hv3, rfl, _, rfl⟩ ?_ (by rw [List.size_toArray, sizeLine_eq]; lia)
    intro D1 c1 h3 F3 N3 l3
    (try dsimp only)
    (repeat' (first | (k_unfold; (try dsimp only)) | (k_end; wrow_close) | ((fail_if_success (with_reducible (refine Mine.stop_here ?_ ?_; first | walk_at "s0" | exact Mine.p20 | exact Mine.p23))); walk1) | (dsimp only; (fail_if_success (with_reducible (refine Mine.stop_here ?_ ?_; first | walk_at "s0" | exact Mine.p20 | exact Mine.p23))); walk1) | (leave1; walk_say "STEP leave1"; try dsimp only) | walk_at "onk" | fail "no step"))
    have l21 : @LT.lt Nat _ D2 D1 := l3 _ (.head _)
    refine' uldHT (xs := zs) (ys := ts) (dm := n) (rest := [(L' + 1, om)]) ?b1 ?b2 ?b3 ?b4 ?b5 ?b6 ?b7 XB TB D' (fun p hp => N3 p (by
      refine led_go hp ?_
      walk_at "led")) (Nat.ne_of_lt l21) (fun p hp => ?b8) hw4 hv4 hn' ?b9 (by lia) (by lia) ?_
    (case b1 => k_asm); (case b2 => k_asm); (case b3 => k_asm); (case b4 => k_asm); (case b5 => first | exact rfl | assumption); (case b6 => ktr_room); (case b7 => ktr_units)
    (case b8 =>
      rw [List.mem_singleton.mp hp]
      exact ⟨Nat.ne_of_lt (l2 _ (.head _)), Nat.ne_of_lt (Nat.lt_trans (l2 _ (.head _)) l21)⟩)
    (case b9 => k_units)
    intro g4 h4 tk4 T4 lm vm vl nm nl KT4 F4 B4 X4 Tp4 Dk4 N4 hvm hvl hoff4
    (try dsimp only)
    (repeat' (first | (k_unfold; (try dsimp only)) | (k_end; wrow_close) | ((fail_if_success (with_reducible (refine Mine.stop_here ?_ ?_; first | walk_at "s0" | exact Mine.p20 | exact Mine.p23))); walk1) | (dsimp only; (fail_if_success (with_reducible (refine Mine.stop_here ?_ ?_; first | walk_at "s0" | exact Mine.p20 | exact Mine.p23))); walk1) | (leave1; walk_say "STEP leave1"; try dsimp only) | walk_at "onk" | fail "no step"))
    have hR : ∀ p ∈ rest, g'.get? p.1 = some p.2 := fun p hp => kG' _ _ (N p hp).1 (by simp)
    have hRR : ∀ g, KtsTurn ((envX cn cs L a ccd cl :: outer).filterMap (·.frame)) g' g → ∀ p ∈ rest, g.get? p.1 = some p.2 := fun g KT p hp => KT.other _ _ (hR p hp) (fun q => by
      rcases kts_memX (L := L) rfl q with z | z
      · exact (N p hp).2.1 z
      · obtain ⟨o, ho, _⟩ := (B.frames.mem z).2
        rw [(N p hp).2.2] at ho; cases ho)
    rename Fr g4 L' _ _ => F5
    rename News g4 L' _ _ => N5
    rename_i om5 dm5 _ l5 _ ll5
    obtain ⟨s1, s2, s3, s4⟩ := uldH_subs zs ts
    have eL : lessN (n + 1) (.node ts) (.node zs) = (!decide ((uldH zs.reverse ts).1 = []) && decide ((uldH zs.reverse ts).2.filter (bareN (lessN n) (uldH zs.reverse ts).1) = [])) := rfl
    rw [eL] at ret
    clear eL
    generalize (uldH zs.reverse ts).1 = M at *
    generalize (uldH zs.reverse ts).2 = Lf at *
    have dM : depthL M ≤ n := Nat.le_trans (depthL_sub s1) hm'
    have dL : depthL Lf ≤ n := Nat.le_trans (depthL_sub s2) hn'
    have upg : ∀ g h m', KtsTurn ((envX cn cs L a ccd cl :: outer).filterMap (·.frame)) g' g → Fr g L' h m' → ∀ a vs n, atH g' a (listOf vs n) → atH h a (listOf vs n) := fun g h m' KT F a vs n e => F.keep _ _ (lst_turn KT D' a vs n e)
    have lvm := hvm.length
    have lvl := hvl.length
    have fin : ∀ g h tk m' all b, KtsTurn ((envX cn cs L a ccd cl :: outer).filterMap (·.frame)) g' g → Fr g L' h m' → News g L' h all → b = (!decide (M = []) && decide (Lf.filter (bareN (lessN n) M) = [])) →
        LeaveT A₀ base (envX cn cs L a ccd cl) outer (Mine.hd.heap_1 w.params) view (looseW view [Str.ofString "_NodeInfo"]) mean mg mb h₀ L m g' (fun r s' => match r with | .ok (.ret v) => Q v s' | .ok _ => False | .error e => E e s') (.bool b) { s with heap := h, toks := tk } := by
      rintro g h tk m' all b KT Fg Ng rfl
      exact ⟨g, L', _, _, KT, Fg, Ng, fun h₀' KT' F'' N'' B'' X'' T'' D'' => ret h₀' _ tk KT' F'' B'' X'' T'' D'' fun p hp => ⟨Fg.keep _ _ (hRR g KT p hp), (N p hp).2.1, KT'.none_ _ (N p hp).2.2⟩⟩
    have hlm : (lm, listOf vm.toArray nm) ∈ ((l5, listOf #[] 0) :: ([(T4, ({ cls := .type "tuple", data := .seq #[.ref lm, .ref D1] } : Obj)), (lm, listOf vm.toArray nm), (D1, listOf vl.toArray nl)] ++ [(L' + 1, om5)])) := .tail _ (.tail _ (.head _))
    refine hy_ne (t := .node M) (u := .node []) (.mk (N5 _ hlm).1 (hvm.keeps (upg _ _ _ KT4 F5))) (.mk (N5 _ (.head _)).1 .nil) ?_ ?_
    · have : (Hy.node M).depth ≤ n + 1 := Nat.succ_le_succ dM
      k_units
    rw [eqH_nil]
    cases hq : decide (M = []) with
    | true =>
      (try dsimp only)
      (repeat' (first | (k_unfold; (try dsimp only)) | (k_end; wrow_close) | ((fail_if_success (with_reducible (refine Mine.stop_here ?_ ?_; first | walk_at "s0" | exact Mine.p20 | exact Mine.p23))); walk1) | (dsimp only; (fail_if_success (with_reducible (refine Mine.stop_here ?_ ?_; first | walk_at "s0" | exact Mine.p20 | exact Mine.p23))); walk1) | (leave1; walk_say "STEP leave1"; try dsimp only) | walk_at "onk" | fail "no step"))
      exact fin _ _ _ _ _ _ KT4 F5 N5 (by rw [hq]; rfl)
    | false =>
      (try dsimp only)
      (repeat' (first | (k_unfold; (try dsimp only)) | (k_end; wrow_close) | ((fail_if_success (with_reducible (refine Mine.stop_here ?_ ?_; first | walk_at "s0" | exact Mine.p20 | exact Mine.p23))); walk1) | (dsimp only; (fail_if_success (with_reducible (refine Mine.stop_here ?_ ?_; first | walk_at "s0" | exact Mine.p20 | exact Mine.p23))); walk1) | (leave1; walk_say "STEP leave1"; try dsimp only) | walk_at "onk" | fail "no step"))
      have ne1 : @Ne Nat lm (L' + 1) := Ne.symm (hoff4 _ (.head _)).2
      obtain ⟨led, hled⟩ : ∃ led, led = [(lm, listOf vm.toArray nm), (D1, listOf vl.toArray nl)] := ⟨_, rfl⟩
      have k1 : ∀ p ∈ led, p.1 ≠ L' + 1 := fun p hp => by
        rw [hled] at hp
        rcases List.mem_cons.mp hp with rfl | hp
        · exact ne1
        · rw [List.mem_singleton.mp hp]
          exact Nat.ne_of_gt (Nat.lt_trans (l2 _ (.head _)) l21)
      have N6 : News g4 L' _ ((L' + 1, om5) :: led) := fun p hp => N5 p (by
        rw [hled] at hp
        refine led_go hp ?_
        walk_at "led")
      have hD1 : (D1, listOf vl.toArray nl) ∈ led := by rw [hled]; exact .tail _ (.head _)
      have hLM : (lm, listOf vm.toArray nm) ∈ led := by rw [hled]; exact .head _
      have z1 := om5.data
      refine compB_eval (cl := [(Str.ofString "more", L' + 1)]) (by with_unfolding_all rfl) rfl (by decide) ?_
      (repeat' (first | (k_unfold; (try dsimp only)) | (k_end; wrow_close) | ((fail_if_success (with_reducible (refine Mine.stop_here ?_ ?_; first | walk_at "s0" | exact Mine.p20 | exact Mine.p23))); walk1) | (dsimp only; (fail_if_success (with_reducible (refine Mine.stop_here ?_ ?_; first | walk_at "s0" | exact Mine.p20 | exact Mine.p23))); walk1) | (leave1; walk_say "STEP leave1"; try dsimp only) | walk_at "onk" | fail "no step"))
      refine srcB_list (BP := Bs ((envX cn cs L a ccd cl :: outer).filterMap (·.frame)) (ktrTop dp un gd cn cs L a ccd cl outer) base (envX cn cs L a ccd cl :: outer) w mean mg mb g') rfl ⟨KT4, B4, X4, Tp4, Dk4⟩ F5 N6 (.tail _ hD1) (by rw [sizeLine_eq]; lia) ?_
      intro I h8 src lI
      refine ⟨_, _, _, I, _, _, _, _, [I], rfl, src _, ?_⟩
      rintro D C s₃ ⟨h9, rfl⟩ lD hDC
      have k2 : @LT.lt Nat _ (L' + 1) D := lD _ (.head _)
      refine ⟨fun i ws nw => Ex2 fun oc v₀ => Cj3 (nw = (C + 1, oc) :: (L' + 1, om5) :: led) (oc.data = .cell v₀) (HysAt g' ws ((Lf.take i).filter (bareN (lessN n) M))), ?_, ⟨cellE, none, rfl, rfl, .nil⟩, ?_, ?_⟩
      · rintro i ws nw ⟨oc, v₀, rfl, _⟩ p hp
        rw [List.mem_singleton.mp hp]; exact .tail _ (.tail _ hD1)
      · rintro i v g h tk own oC m₂ ws nw hi hv ⟨KT6, B6, X6, T6, D6⟩ F6 N6 how hC6 off6 ⟨n1, n2, n3⟩ ⟨oc, v₀, rfl, hoc, hws⟩
        obtain ⟨oI, rfl⟩ := own1 how
        have hi' : i < Lf.length := by lia
        have hti := hvl.item hi' hv
        obtain ⟨vx, rfl⟩ := hti.isRef
        have ti1 : Lf[i] ∈ ts := s2 _ (List.getElem_mem hi')
        have oC1 := off6 _ (.head _)
        have k3 : ∀ p ∈ (L' + 1, om5) :: led, p.1 ≠ C + 1 := fun p hp => Nat.ne_of_lt (Nat.lt_trans (Nat.lt_trans (lD p hp) hDC) (Nat.lt_succ_self _))
        have cI : @Ne Nat I (C + 1) := fun q => oC1.2.2 (q ▸ .head _)
        have cC : @Ne Nat C (C + 1) := Nat.ne_of_lt (Nat.lt_succ_self _)
        have cD : @Ne Nat D (C + 1) := Ne.symm oC1.2.1
        have U6 : UpdF (C + 1) oc ((I, oI) :: (C, oC) :: (D, LCg.lst ws) :: (C + 1, oc) :: (L' + 1, om5) :: led) (fun o => (I, oI) :: (C, oC) :: (D, LCg.lst ws) :: (C + 1, o) :: (L' + 1, om5) :: led) := .tail cI (.tail cC (.tail cD (.head k3)))
        refine asg_cell F6 N6 U6 hoc rfl rfl rfl ?_
        intro h7 oc7 F7 N7 hoc7
        refine wpAny_tests_one ?_
        (try dsimp only)
        (repeat' (first | (k_unfold; (try dsimp only)) | (k_end; wrow_close) | ((fail_if_success (with_reducible (refine Mine.stop_here ?_ ?_; first | walk_at "s0" | exact Mine.p20 | exact Mine.p23))); walk1) | (dsimp only; (fail_if_success (with_reducible (refine Mine.stop_here ?_ ?_; first | walk_at "s0" | exact Mine.p20 | exact Mine.p23))); walk1) | (leave1; walk_say "STEP leave1"; try dsimp only) | walk_at "onk" | fail "no step"))
        refine compB_eval (by with_unfolding_all rfl) rfl (by decide) ?_
        (repeat' (first | (k_unfold; (try dsimp only)) | (k_end; wrow_close) | ((fail_if_success (with_reducible (refine Mine.stop_here ?_ ?_; first | walk_at "s0" | exact Mine.p20 | exact Mine.p23))); walk1) | (dsimp only; (fail_if_success (with_reducible (refine Mine.stop_here ?_ ?_; first | walk_at "s0" | exact Mine.p20 | exact Mine.p23))); walk1) | (leave1; walk_say "STEP leave1"; try dsimp only) | walk_at "onk" | fail "no step"))
        refine srcB_list (BP := Bs ((envX cn cs L a ccd cl :: outer).filterMap (·.frame)) (ktrTop dp un gd cn cs L a ccd cl outer) base (envX cn cs L a ccd cl :: outer) w mean mg mb g') rfl ⟨KT6, B6, X6, T6, D6⟩ F7 N7 (.tail _ (.tail _ (.tail _ (.tail _ (.tail _ hLM))))) (by rw [sizeLine_eq]; lia) ?_
        intro I2 h10 src2 lI2
        refine ⟨_, _, _, I2, _, _, _, _, [I2], rfl, src2 _, ?_⟩
        rintro D3 C3 s₃ ⟨h11, rfl⟩ lD3 hDC3
        refine ⟨fun j ws2 nw2 => nw2 = (I, oI) :: (C, oC) :: (D, LCg.lst ws) :: (C + 1, oc7) :: (L' + 1, om5) :: led ∧ HysAt g' ws2 ((M.take j).filter (lessN n Lf[i])), ?_, ⟨rfl, .nil⟩, ?_, ?_⟩
        · rintro j ws2 nw2 ⟨rfl, _⟩ p hp
          rw [List.mem_singleton.mp hp]; exact .tail _ (.tail _ (.tail _ (.tail _ (.tail _ hLM))))
        · rintro j v g8 h tk own oC2 m₃ ws2 nw2 hj hv2 ⟨KT8, B8, X8, T8, D8⟩ F8 N8 how hC8 off8 ⟨p1, p2, p3⟩ ⟨rfl, hws2⟩
          obtain ⟨oI2, rfl⟩ := own1 how
          have hj' : j < M.length := by lia
          have hoj := hvm.item hj' hv2
          obtain ⟨vy, rfl⟩ := hoj.isRef
          have oj1 : M[j] ∈ zs := s1 _ (List.getElem_mem hj')
          have U8 : ∀ o₁, UpdF C3 o₁ ((I2, oI2) :: (C3, o₁) :: (D3, LCg.lst ws2) :: (I, oI) :: (C, oC) :: (D, LCg.lst ws) :: (C + 1, oc7) :: (L' + 1, om5) :: led) (fun o₁ => (I2, oI2) :: (C3, o₁) :: (D3, LCg.lst ws2) :: (I, oI) :: (C, oC) :: (D, LCg.lst ws) :: (C + 1, oc7) :: (L' + 1, om5) :: led) := fun o₁ =>
            .tail (fun q => p2 (q ▸ .head _)) (.head fun p hp => by
              rcases List.mem_cons.mp hp with rfl | hp
              · exact Ne.symm p1
              · exact (off8 p hp).1)
          refine asg_own F8 N8 (U8 oC2) hC8 rfl rfl ?_
          intro h12 oC12 F12 N12 hC12
          have hx12 : (fun y => if y = Str.ofString "other" then some (Value.ref vy) else m₃ y) (Str.ofString "other") = some (Value.ref vy) := if_pos rfl
          refine wpAny_tests_one ?_
          (try dsimp only)
          (repeat' (first | (k_unfold; (try dsimp only)) | (k_end; wrow_close) | ((fail_if_success (with_reducible (refine Mine.stop_here ?_ ?_; first | walk_at "s0" | exact Mine.p20 | exact Mine.p23))); walk1) | (dsimp only; (fail_if_success (with_reducible (refine Mine.stop_here ?_ ?_; first | walk_at "s0" | exact Mine.p20 | exact Mine.p23))); walk1) | (leave1; walk_say "STEP leave1"; try dsimp only) | walk_at "onk" | fail "no step"))
          have up12 := upg _ _ _ KT8 F12
          refine' ih (t := Lf[i]) (u := M[j]) ?b1 ?b2 ?b3 ?b4 ?b5 ?b6 ?b7 XB TB D8 N12 (hti.keeps up12) (hoj.keeps up12) (Nat.le_trans (depth_mem ti1) hn') (Nat.le_trans (depth_mem oj1) hm') (slim_mem ti1 ht3) (slim_mem oj1 hz3) ?_
          (case b1 => k_asm); (case b2 => k_asm); (case b3 => k_asm); (case b4 => k_asm); (case b5 => first | exact rfl | assumption); (case b6 => ktr_room); (case b7 => ktr_units)
          intro g13 h13 tk13 KT13 F13 B13 X13 T13 D13 N13
          (try dsimp only)
          have etk : M.take (j + 1) = M.take j ++ [M[j]] := by rw [List.take_succ, List.getElem?_eq_getElem hj']; rfl
          cases hql : lessN n Lf[i] M[j] with
          | true =>
            (repeat' (first | (k_unfold; (try dsimp only)) | (k_end; wrow_close) | ((fail_if_success (with_reducible (refine Mine.stop_here ?_ ?_; first | walk_at "s0" | exact Mine.p20 | exact Mine.p23))); walk1) | (dsimp only; (fail_if_success (with_reducible (refine Mine.stop_here ?_ ?_; first | walk_at "s0" | exact Mine.p20 | exact Mine.p23))); walk1) | (leave1; walk_say "STEP leave1"; try dsimp only) | walk_at "onk" | fail "no step"))
            (try dsimp only [qk])
            refine ⟨g13, h13, _, oC12, _, _, rfl, ⟨KT8.trans KT13, B13, X13, T13, D13⟩, F13, N13, hC12, off8, rfl, ?_⟩
            rw [etk, List.filter_append, List.filter_cons, if_pos hql]
            exact hws2.append (.cons hoj .nil)
          | false =>
            (repeat' (first | (k_unfold; (try dsimp only)) | (k_end; wrow_close) | ((fail_if_success (with_reducible (refine Mine.stop_here ?_ ?_; first | walk_at "s0" | exact Mine.p20 | exact Mine.p23))); walk1) | (dsimp only; (fail_if_success (with_reducible (refine Mine.stop_here ?_ ?_; first | walk_at "s0" | exact Mine.p20 | exact Mine.p23))); walk1) | (leave1; walk_say "STEP leave1"; try dsimp only) | walk_at "onk" | fail "no step"))
            (try dsimp only [qk])
            refine ⟨g13, h13, _, oC12, _, _, rfl, ⟨KT8.trans KT13, B13, X13, T13, D13⟩, F13, N13, hC12, off8, rfl, ?_⟩
            rw [etk, List.filter_append, List.filter_cons, if_neg (by rw [hql]; exact Bool.false_ne_true), List.filter_nil, List.append_nil]
            exact hws2
        · rintro g8 h tk ws2 oC2 m₃ nw2 ⟨KT8, B8, X8, T8, D8⟩ F8 N8 hC8 off8 hCD2 ⟨rfl, hws2⟩
          rw [lvm, List.take_length] at hws2
          refine aend F8 N8 hC8 ?_ ?_
          · intro p hp
            rcases List.mem_cons.mp hp with rfl | hp
            · exact Ne.symm hCD2
            · exact (off8 p hp).1
          intro h12 F12 N12
          (try dsimp only)
          (repeat' (first | (k_unfold; (try dsimp only)) | (k_end; wrow_close) | ((fail_if_success (with_reducible (refine Mine.stop_here ?_ ?_; first | walk_at "s0" | exact Mine.p20 | exact Mine.p23))); walk1) | (dsimp only; (fail_if_success (with_reducible (refine Mine.stop_here ?_ ?_; first | walk_at "s0" | exact Mine.p20 | exact Mine.p23))); walk1) | (leave1; walk_say "STEP leave1"; try dsimp only) | walk_at "onk" | fail "no step"))
          rename Fr g8 L' _ _ => F13
          rename News g8 L' _ _ => N13
          refine hy_eq (t := .node (M.filter (lessN n Lf[i]))) (u := .node []) (.mk (N13 _ (.tail _ (.head _))).1 (hws2.keeps (upg _ _ _ KT8 F13))) (.mk (N13 _ (.head _)).1 .nil) ?_ ?_
          · have : (Hy.node (M.filter (lessN n Lf[i]))).depth ≤ n + 1 := Nat.succ_le_succ (Nat.le_trans (depthL_sub fun t ht => (List.mem_filter.mp ht).1) dM)
            k_units
          rw [eqH_nil]
          have N14 : News g8 L' _ ((I, oI) :: (C, oC) :: (D, LCg.lst ws) :: (C + 1, oc7) :: (L' + 1, om5) :: led) := fun p hp => N13 p (.tail _ (.tail _ hp))
          have off14 : ∀ p ∈ (C + 1, oc7) :: (L' + 1, om5) :: led, p.1 ≠ C ∧ p.1 ≠ D ∧ p.1 ∉ [(I, oI)].map (·.1) := fun p hp => by
            rcases List.mem_cons.mp hp with rfl | hp
            · exact oC1
            · exact off6 p (.tail _ hp)
          have etk : Lf.take (i + 1) = Lf.take i ++ [Lf[i]] := by rw [List.take_succ, List.getElem?_eq_getElem hi']; rfl
          cases hqb : decide (M.filter (lessN n Lf[i]) = []) with
          | true =>
            (repeat' (first | (k_unfold; (try dsimp only)) | (k_end; wrow_close) | ((fail_if_success (with_reducible (refine Mine.stop_here ?_ ?_; first | walk_at "s0" | exact Mine.p20 | exact Mine.p23))); walk1) | (dsimp only; (fail_if_success (with_reducible (refine Mine.stop_here ?_ ?_; first | walk_at "s0" | exact Mine.p20 | exact Mine.p23))); walk1) | (leave1; walk_say "STEP leave1"; try dsimp only) | walk_at "onk" | fail "no step"))
            refine ⟨g8, _, _, oC, _, (C + 1, oc7) :: (L' + 1, om5) :: led, rfl, ⟨KT8, B8, X8, T8, D8⟩, F13, N14, hC6, off14, oc7, _, rfl, hoc7, ?_⟩
            rw [etk, List.filter_append, List.filter_cons, if_pos (show bareN (lessN n) M Lf[i] = true from hqb)]
            exact hws.append (.cons hti .nil)
          | false =>
            (repeat' (first | (k_unfold; (try dsimp only)) | (k_end; wrow_close) | ((fail_if_success (with_reducible (refine Mine.stop_here ?_ ?_; first | walk_at "s0" | exact Mine.p20 | exact Mine.p23))); walk1) | (dsimp only; (fail_if_success (with_reducible (refine Mine.stop_here ?_ ?_; first | walk_at "s0" | exact Mine.p20 | exact Mine.p23))); walk1) | (leave1; walk_say "STEP leave1"; try dsimp only) | walk_at "onk" | fail "no step"))
            refine ⟨g8, _, _, oC, _, (C + 1, oc7) :: (L' + 1, om5) :: led, rfl, ⟨KT8, B8, X8, T8, D8⟩, F13, N14, hC6, off14, oc7, _, rfl, hoc7, ?_⟩
            rw [etk, List.filter_append, List.filter_cons, if_neg (show ¬ bareN (lessN n) M Lf[i] = true by unfold bareN; rw [hqb]; exact Bool.false_ne_true), List.filter_nil, List.append_nil]
            exact hws
      · rintro g8 h tk ws oC m₂ nw ⟨KT8, B8, X8, T8, D8⟩ F8 N8 hC8 off8 hCD ⟨oc, v₀, rfl, hoc, hws⟩
        rw [lvl, List.take_length] at hws
        refine aend F8 N8 hC8 ?_ ?_
        · intro p hp
          rcases List.mem_cons.mp hp with rfl | hp
          · exact Ne.symm hCD
          · exact (off8 p hp).1
        intro h12 F12 N12
        (try dsimp only)
        (repeat' (first | (k_unfold; (try dsimp only)) | (k_end; wrow_close) | ((fail_if_success (with_reducible (refine Mine.stop_here ?_ ?_; first | walk_at "s0" | exact Mine.p20 | exact Mine.p23))); walk1) | (dsimp only; (fail_if_success (with_reducible (refine Mine.stop_here ?_ ?_; first | walk_at "s0" | exact Mine.p20 | exact Mine.p23))); walk1) | (leave1; walk_say "STEP leave1"; try dsimp only) | walk_at "onk" | fail "no step"))
        rename Fr g8 L' _ _ => F13
        rename News g8 L' _ _ => N13
        refine hy_eq (t := .node (Lf.filter (bareN (lessN n) M))) (u := .node []) (.mk (N13 _ (.tail _ (.head _))).1 (hws.keeps (upg _ _ _ KT8 F13))) (.mk (N13 _ (.head _)).1 .nil) ?_ ?_
        · have : (Hy.node (Lf.filter (bareN (lessN n) M))).depth ≤ n + 1 := Nat.succ_le_succ (Nat.le_trans (depthL_sub fun t ht => (List.mem_filter.mp ht).1) dL)
          k_units
        rw [eqH_nil]
        (try dsimp only)
        (repeat' (first | (k_unfold; (try dsimp only)) | (k_end; wrow_close) | ((fail_if_success (with_reducible (refine Mine.stop_here ?_ ?_; first | walk_at "s0" | exact Mine.p20 | exact Mine.p23))); walk1) | (dsimp only; (fail_if_success (with_reducible (refine Mine.stop_here ?_ ?_; first | walk_at "s0" | exact Mine.p20 | exact Mine.p23))); walk1) | (leave1; walk_say "STEP leave1"; try dsimp only) | walk_at "onk" | fail "no step"))
        exact fin _ _ _ _ _ _ KT8 F13 N13 (by rw [hq]; rfl)
end
section
set_option maxHeartbeats 8000000
noncomputable def outAll (np : Int → Int) (rs : List Int) : Int → Int := rs.foldl (fun f k => upd f k (-1)) np
structure Apart4 (x dx d r : Addr) (rest srt : List (Addr × Obj)) : Prop extends Apart x dx d rest srt where
  xr : @Ne Nat x r
  dxr : @Ne Nat dx r
  dr : @Ne Nat d r
  tlr : ∀ p ∈ rest ++ srt, p.1 ≠ r
theorem Apart4.of_keys {x dx d r : Addr} {rest srt srt' : List (Addr × Obj)} (P : Apart4 x dx d r rest srt) (e : srt'.map (·.1) = srt.map (·.1)) : Apart4 x dx d r rest srt' :=
  ⟨P.toApart.of_keys e, P.xr, P.dxr, P.dr, fun p hp => by
    rcases List.mem_append.mp hp with h | h
    · exact P.tlr p (List.mem_append_left _ h)
    · exact tail_srt (fun q hq => P.tlr q (List.mem_append_right _ hq)) e p h⟩
theorem Apart4.front4 {x dx d r : Addr} {o1 o2 o3 o4 : Obj} {own rest srt : List (Addr × Obj)} (P : Apart4 x dx d r rest srt) (h : ∀ p ∈ own, ∀ q ∈ srt, p.1 ≠ q.1) : ∀ p ∈ (x, o1) :: (dx, o2) :: (d, o3) :: (r, o4) :: (own ++ rest), ∀ q ∈ srt, p.1 ≠ q.1 := fun p hp q hq => by
  have h1 := P.tl q (List.mem_append_right _ hq)
  have h2 := P.tlr q (List.mem_append_right _ hq)
  simp only [List.mem_cons, List.mem_append] at hp
  rcases hp with e | e | e | e | e | e
  · subst e; exact Ne.symm h1.1
  · subst e; exact Ne.symm h1.2.1
  · subst e; exact Ne.symm h1.2.2
  · subst e; exact Ne.symm h2
  · exact h p e q hq
  · exact P.rs p e q hq
theorem keep_dis {b x dx d r : Addr} {o1 o2 o3 o4 o1' o2' o3' o4' : Obj} {rest srt srt' : List (Addr × Obj)} (h : ∀ q ∈ (x, o1) :: (dx, o2) :: (d, o3) :: (r, o4) :: (rest ++ srt), b ≠ q.1) (e : srt'.map (·.1) = srt.map (·.1)) :
    ∀ q ∈ (x, o1') :: (dx, o2') :: (d, o3') :: (r, o4') :: (rest ++ srt'), b ≠ q.1 := fun q hq => by
  simp only [List.mem_cons, List.mem_append] at hq h
  rcases hq with z | z | z | z | z | z
  · subst z; exact h (x, o1) (.inl rfl)
  · subst z; exact h (dx, o2) (.inr (.inl rfl))
  · subst z; exact h (d, o3) (.inr (.inr (.inl rfl)))
  · subst z; exact h (r, o4) (.inr (.inr (.inr (.inl rfl))))
  · exact h q (.inr (.inr (.inr (.inr (.inl z)))))
  · exact Ne.symm (tail_srt (fun q hq => Ne.symm (h q (.inr (.inr (.inr (.inr (.inr hq))))))) e q z)
theorem start1 {f : Str → Option Value} {a : Str} (ha : f a = none) : f = fun y => if y = a then none else f y := by
  funext y
  by_cases h1 : y = a
  · rw [if_pos h1, h1, ha]
  · rw [if_neg h1]
theorem again1 {f : Str → Option Value} {a : Str} {u u' : Option Value} : (fun y => if y = a then u' else if y = a then u else f y) = fun y => if y = a then u' else f y := by
  funext y
  by_cases h1 : y = a
  · simp [h1]
  · simp [h1]
theorem get_ready {w : World} {dp un : Nat} {gd : Option (List Code)} {cn : Str} {cs : Scope} {a : Addr} {ccd : Value} {cl : List (Str × Addr)} {outer : List Env} {A₀ : Around} {base h₀ : Heap} {L : Addr} {m mg mb : Str → Option Value} {mean : ExcName → Option Value} {s : Shared} {Q E : Value → Shared → Prop} {x dx d r : Addr} {od : Obj} {t1 t2 t3 t4 tpo : Tok} {po : Int} {nf : Value} {nr : Nat} {rest srt : List (Addr × Obj)} {nA dA sA : Int → Addr} {keys : List Int} {np : Int → Int} {succ : Int → List Int} {rv : List Value} {rs : List Int}
    (B : Below A₀ base outer h₀) (F : Fr h₀ L s.heap m) (X : (Mine.hd.heap_1 w.params).In h₀) (T : TP mean mg mb h₀) (hk : cs.kind = .function) (hd : dp + 6 < recursionLimit) (hu : un + 48 < cLine)
    (N : News h₀ L s.heap ((x, instObj 151 dx) :: (dx, dictOf (sEs w (.ref d) (.ref r) (.int po tpo) nf t1 t2 t3 t4) 4) :: (d, od) :: (r, listOf rv.toArray nr) :: (rest ++ srt))) (hdm : (d == sysModules) = false)
    (D : od.IsDictOf (intKind PG w) (kvsOf keys nA)) (Nd : Nodes nA dA sA keys np succ srt) (P : Apart4 x dx d r rest srt) (hi : IntsAre rv rs) (hrs : ∀ k ∈ rs, k ∈ keys) (hlen : rs.length ≤ 900)
    (ret : ∀ h' tk' T srt' tpo' nr', Fr h₀ L h' m → News h₀ L h' ((T, ({ cls := .type "tuple", data := .seq rv.toArray } : Obj)) :: (x, instObj 151 dx) :: (dx, dictOf (sEs w (.ref d) (.ref r) (.int (po + rs.length) tpo') nf t1 t2 t3 t4) 4) :: (d, od) :: (r, listOf #[] nr') :: (rest ++ srt')) →
      Nodes nA dA sA keys (outAll np rs) succ srt' → Apart4 x dx d r rest srt' → (∀ p ∈ (x, instObj 151 dx) :: (dx, dictOf [] 0) :: (d, od) :: (r, listOf #[] nr') :: (rest ++ srt'), p.1 ≠ T) → Q (.ref T) { s with heap := h', toks := tk' }) :
    wpAny (model PG w) (ktrTop dp un gd cn cs L a ccd cl outer) (call (.ref 113) [.ref x]) Q E s := by
  refine wpAny_call ?_
  k_dflt (refine' code_defG ?k1 ?k2 ?k3 ?k4 ?k5 ?kA ?kF ?kK ?k6 ?k7 ?k8 ?k9 ?kB ?_ ?c2 ?c3 ?c4 ?c5; (case kA => exact rfl); (case kF => exact rfl); (case kK => assumption); (case k1 => k_asm); (case k2 => k_asm); (case k3 => k_asm); (case k4 => exact N); (case k5 => k_asm); (case k6 => k_is); (case k7 => k_is); (case k8 => ktr_room); (case k9 => exact BindsTo.of_eq rfl); (case c5 => decide); (case kB => exact locs rfl); (case c2 => exact rfl); (case c3 => exact rfl); (case c4 => exact rfl); k_whole; intro g' L' h' FG' F' N' B' X' T' kG'; (try dsimp only); (try k_fold))
  (repeat' (first | (k_unfold; (try dsimp only)) | (k_end; wrow_close) | ((fail_if_success (with_reducible (refine Mine.stop_here ?_ ?_; walk_at "s0"))); walk1) | (dsimp only; (fail_if_success (with_reducible (refine Mine.stop_here ?_ ?_; walk_at "s0"))); walk1) | (leave1; walk_say "STEP leave1"; try dsimp only) | walk_at "onk" | fail "no step"))
  have hlp := hi.length
  refine' kde_tupleOf (items := rv.toArray) (zs := rv) ?b1 ?b2 ?b3 ?b4 ?b5 ?_
  (case b1 => k_asm)
  (case b2 => k_asm)
  (case b3 => exact News.isList (by k_asm) (.tail _ (.tail _ (.tail _ (.head _)))))
  (case b4 => simp; lia)
  (case b5 => simp)
  intro D' h9 F9 N9 l9
  have l2 := List.forall_mem_cons.mp l9
  have l3 := List.forall_mem_cons.mp l2.2
  have l4 := List.forall_mem_cons.mp l3.2
  have l5 := List.forall_mem_cons.mp l4.2
  (repeat' (first | (k_unfold; (try dsimp only)) | (k_end; wrow_close) | ((fail_if_success (with_reducible (refine Mine.stop_here ?_ ?_; walk_at "s0"))); walk1) | (dsimp only; (fail_if_success (with_reducible (refine Mine.stop_here ?_ ?_; walk_at "s0"))); walk1) | (leave1; walk_say "STEP leave1"; try dsimp only) | walk_at "onk" | fail "no step"))
  have q1 : @LT.lt Nat _ x D' := l2.1
  have q2 : @LT.lt Nat _ dx D' := l3.1
  have q3 : @LT.lt Nat _ d D' := l4.1
  have q4 : @LT.lt Nat _ r D' := l5.1
  have q5 := P.xdx
  have q6 := P.xd
  have q7 := P.dxd
  have q8 := P.xr
  have q9 := P.dxr
  have q10 := P.dr
  refine For_turns (by k_asm) ?_
  (repeat' (first | (k_unfold; (try dsimp only)) | (k_end; wrow_close) | ((fail_if_success (with_reducible (refine Mine.stop_here ?_ ?_; walk_at "s0"))); walk1) | (dsimp only; (fail_if_success (with_reducible (refine Mine.stop_here ?_ ?_; walk_at "s0"))); walk1) | (leave1; walk_say "STEP leave1"; try dsimp only) | walk_at "onk" | fail "no step"))
  rename News g' L' _ _ => N8
  refine turns_tuple (m₀ := fun y => if y = Str.ofString "n2i" then some (Value.ref d) else if y = Str.ofString "result" then some (Value.ref D') else List.lookup y [(Str.ofString "self", Value.ref x)].reverse)
    (news₀ := (x, instObj 151 dx) :: (dx, dictOf (sEs w (.ref d) (.ref r) (.int po tpo) nf t1 t2 t3 t4) 4) :: (d, od) :: (r, listOf rv.toArray nr) :: (rest ++ srt)) (vs := rv) (nv := 0)
    (fun i m' nw => ∃ u : Option Value, (m' = fun y => if y = Str.ofString "node" then u else if y = Str.ofString "n2i" then some (Value.ref d) else if y = Str.ofString "result" then some (Value.ref D') else List.lookup y [(Str.ofString "self", Value.ref x)].reverse) ∧
      ∃ srt', nw = (x, instObj 151 dx) :: (dx, dictOf (sEs w (.ref d) (.ref r) (.int po tpo) nf t1 t2 t3 t4) 4) :: (d, od) :: (r, listOf rv.toArray nr) :: (rest ++ srt') ∧
        Nodes nA dA sA keys (outAll np (rs.take i)) succ srt' ∧ srt'.map (·.1) = srt.map (·.1)) rfl (by k_asm) N8 ?t2 ?t3 ?t4 ?t5
  case t2 => exact fun p hp => Nat.ne_of_lt (l9 p hp)
  case t3 => exact ⟨none, start1 rfl, srt, rfl, Nd, rfl⟩
  case t5 =>
    rintro m' news' h' tk ⟨u, rfl, srt', rfl, Nd1, e1⟩ F1 N1 hx
    have P1 := P.of_keys e1
    have z1 : ∀ p ∈ rest ++ srt', p.1 ≠ r := P1.tlr
    have z2 : ∀ p ∈ rest ++ srt', p.1 ≠ dx := fun p hp => (P1.tl p hp).2.1
    rw [hlp, List.take_length] at Nd1
    (repeat' (first | (k_unfold; (try dsimp only)) | (k_end; wrow_close) | ((fail_if_success (with_reducible (refine Mine.stop_here ?_ ?_; walk_at "s0"))); walk1) | (dsimp only; (fail_if_success (with_reducible (refine Mine.stop_here ?_ ?_; walk_at "s0"))); walk1) | (leave1; walk_say "STEP leave1"; try dsimp only) | walk_at "onk" | fail "no step"))
    refine' clear_any (its := rv.toArray) ?b1 ?b2 ?b3 ?b4 ?b5 ?_
    (case b1 => k_asm)
    (case b2 => k_asm)
    (case b3 => k_updF)
    (case b4 => exact .tail _ (.tail _ (.tail _ (.tail _ (.head _)))))
    (case b5 => rw [sizeLine_eq]; simp; lia)
    intro h7 nr7 F7 N7
    dsimp only
    (repeat' (first | (k_unfold; (try dsimp only)) | (k_end; wrow_close) | ((fail_if_success (with_reducible (refine Mine.stop_here ?_ ?_; walk_at "s0"))); walk1) | (dsimp only; (fail_if_success (with_reducible (refine Mine.stop_here ?_ ?_; walk_at "s0"))); walk1) | (leave1; walk_say "STEP leave1"; try dsimp only) | walk_at "onk" | fail "no step"))
    rename News g' L' _ _ => N6
    refine PyProof.Rows.len_tuple (items := rv.toArray) ⟨_, (N6 (D', _) (.head _)).1, rfl, _, rfl⟩ (by simp; lia) ?_
    (repeat' (first | (k_unfold; (try dsimp only)) | (k_end; wrow_close) | ((fail_if_success (with_reducible (refine Mine.stop_here ?_ ?_; walk_at "s0"))); walk1) | (dsimp only; (fail_if_success (with_reducible (refine Mine.stop_here ?_ ?_; walk_at "s0"))); walk1) | (leave1; walk_say "STEP leave1"; try dsimp only) | walk_at "onk" | fail "no step"))
    rename News h₀ L _ _ => NN
    have ez : (rv.toArray.size : Int) = (rs.length : Int) := by simp [hlp]
    rw [ez] at NN
    refine ret _ _ D' srt' _ nr7 (by k_asm) NN Nd1 P1 ?_
    · intro p hp
      simp only [List.mem_cons] at hp
      rcases hp with h | h | h | h | h
      · subst h; exact Nat.ne_of_lt q1
      · subst h; exact Nat.ne_of_lt q2
      · subst h; exact Nat.ne_of_lt q3
      · subst h; exact Nat.ne_of_lt q4
      · exact hx p (.tail _ (.tail _ (.tail _ (.tail _ h))))
  case t4 =>
    rintro i v m₁ news₁ h₁ tk₁ own hv ⟨u, rfl, srt', rfl, Nd1, e1⟩ dis F1 N1
    have hil : i < rs.length := by rw [← hlp]; exact (List.getElem?_eq_some_iff.mp hv).1
    obtain ⟨t0, ht0⟩ := hi.get i rs[i] (List.getElem?_eq_getElem hil)
    obtain rfl : v = .int rs[i] t0 := Option.some.inj (hv.symm.trans ht0)
    have ht : rs.take (i + 1) = rs.take i ++ [rs[i]] := by simp
    have hk0 : rs[i] ∈ keys := hrs _ (List.getElem_mem hil)
    have N2 : News g' L' h₁ (((x, instObj 151 dx) :: (dx, dictOf (sEs w (.ref d) (.ref r) (.int po tpo) nf t1 t2 t3 t4) 4) :: (d, od) :: (r, listOf rv.toArray nr) :: (own ++ rest)) ++ srt') := fun p hp => N1 p (by
      refine led_go hp ?_
      walk_at "led")
    clear N1
    have P1 := P.of_keys e1
    have fr0 : ∀ p ∈ (x, instObj 151 dx) :: (dx, dictOf (sEs w (.ref d) (.ref r) (.int po tpo) nf t1 t2 t3 t4) 4) :: (d, od) :: (r, listOf rv.toArray nr) :: (own ++ rest), ∀ q ∈ srt', p.1 ≠ q.1 := P1.front4 fun p hp q hq => dis p hp q (by simp [hq])
    (repeat' (first | (k_unfold; (try dsimp only)) | (k_end; wrow_close) | ((fail_if_success (with_reducible (refine Mine.stop_here ?_ ?_; first | walk_at "s0" | exact Mine.p7 | exact Mine.p8 | exact Mine.p9 | exact Mine.p10))); walk1) | (dsimp only; (fail_if_success (with_reducible (refine Mine.stop_here ?_ ?_; first | walk_at "s0" | exact Mine.p7 | exact Mine.p8 | exact Mine.p9 | exact Mine.p10))); walk1) | (leave1; walk_say "STEP leave1"; try dsimp only) | walk_at "onk" | fail "no step"))
    refine' kda_item (kvs := kvsOf keys nA) (k := rs[i]) (knd := intKind PG w) ?b1 ?b2 D ?b3 (kvs_some hk0) ?_
    (case b1 => k_asm)
    (case b2 => exact .tail _ (.tail _ (.head _)))
    (case b3 => simp [intKind, Value.isInt])
    (repeat' (first | (k_unfold; (try dsimp only)) | (k_end; wrow_close) | ((fail_if_success (with_reducible (refine Mine.stop_here ?_ ?_; first | walk_at "s0" | exact Mine.p7 | exact Mine.p8 | exact Mine.p9 | exact Mine.p10))); walk1) | (dsimp only; (fail_if_success (with_reducible (refine Mine.stop_here ?_ ?_; first | walk_at "s0" | exact Mine.p7 | exact Mine.p8 | exact Mine.p9 | exact Mine.p10))); walk1) | (leave1; walk_say "STEP leave1"; try dsimp only) | walk_at "onk" | fail "no step"))
    refine' np_set (fr := (x, _) :: (dx, _) :: (d, _) :: (r, _) :: (own ++ rest)) (srt := srt') ?b1 ?b2 ?b3 Nd1 hk0 fr0 ?_
    (case b1 => k_asm)
    (case b2 => k_asm)
    (case b3 => k_asm)
    intro h8 srt8 F8 N8 Nd8 e8 _
    (repeat' (first | (k_unfold; (try dsimp only)) | (k_end; wrow_close) | ((fail_if_success (with_reducible (refine Mine.stop_here ?_ ?_; first | walk_at "s0" | exact Mine.p7 | exact Mine.p8 | exact Mine.p9 | exact Mine.p10))); walk1) | (dsimp only; (fail_if_success (with_reducible (refine Mine.stop_here ?_ ?_; first | walk_at "s0" | exact Mine.p7 | exact Mine.p8 | exact Mine.p9 | exact Mine.p10))); walk1) | (leave1; walk_say "STEP leave1"; try dsimp only) | walk_at "onk" | fail "no step"))
    have eo : outAll np (rs.take (i + 1)) = upd (outAll np (rs.take i)) rs[i] (-1) := by unfold outAll; rw [ht, List.foldl_append]; rfl
    refine ⟨h8, _, _, (x, instObj 151 dx) :: (dx, dictOf (sEs w (.ref d) (.ref r) (.int po tpo) nf t1 t2 t3 t4) 4) :: (d, od) :: (r, listOf rv.toArray nr) :: (rest ++ srt8), rfl, F8, ?_, ?_, ⟨_, again1, srt8, rfl, ?_, e8.trans e1⟩⟩
    · exact fun p hp => N8 p (by
        refine led_go hp ?_
        walk_at "led")
    · intro p hp
      exact keep_dis (dis p hp) e8
    · rw [eo]; exact Nd8
end
section
set_option maxHeartbeats 8000000
local macro_rules | `(tactic| walk_at "none") => `(tactic| skip)
local macro_rules | `(tactic| walk_at "eval Name") => `(tactic| walk_at "evL")
noncomputable def dec1 (st : (Int → Int) × List Int) (j : Int) : (Int → Int) × List Int := (upd st.1 j (st.1 j - 1), if st.1 j - 1 = 0 then st.2 ++ [j] else st.2)
noncomputable def decs (st : (Int → Int) × List Int) (js : List Int) : (Int → Int) × List Int := js.foldl dec1 st
noncomputable def doneOne (succ : Int → List Int) (st : (Int → Int) × List Int) (k : Int) : (Int → Int) × List Int := decs (upd st.1 k (-2), st.2) (succ k)
noncomputable def doneAll (succ : Int → List Int) (st : (Int → Int) × List Int) (ks : List Int) : (Int → Int) × List Int := ks.foldl (doneOne succ) st
theorem decs_len (js : List Int) : ∀ st : (Int → Int) × List Int, (decs st js).2.length ≤ st.2.length + js.length := by
  induction js with
  | nil => intro st; simp [decs]
  | cons j r ih =>
    intro st
    have h1 := ih (dec1 st j)
    have h2 : (dec1 st j).2.length ≤ st.2.length + 1 := by
      unfold dec1; split <;> simp
    show (decs (dec1 st j) r).2.length ≤ _
    simp only [List.length_cons]; lia
theorem doneAll_len {succ : Int → List Int} {b : Nat} (hb : ∀ k, (succ k).length ≤ b) (ks : List Int) : ∀ st : (Int → Int) × List Int, (doneAll succ st ks).2.length ≤ st.2.length + ks.length * b := by
  induction ks with
  | nil => intro st; simp [doneAll]
  | cons k r ih =>
    intro st
    have h1 := ih (doneOne succ st k)
    have h2 : (doneOne succ st k).2.length ≤ st.2.length + b := by
      have h3 := decs_len (succ k) (upd st.1 k (-2), st.2)
      have h4 := hb k
      unfold doneOne
      have h5 : ((upd st.1 k (-2), st.2) : (Int → Int) × List Int).2.length = st.2.length := rfl
      lia
    show (doneAll succ (doneOne succ st k) r).2.length ≤ _
    simp only [List.length_cons, Nat.add_mul, Nat.one_mul]; lia
theorem doneT {w : World} {dp un : Nat} {gd : Option (List Code)} {cn : Str} {cs : Scope} {a : Addr} {ccd : Value} {cl : List (Str × Addr)} {outer : List Env} {A₀ : Around} {base h₀ : Heap} {L : Addr} {m mg mb : Str → Option Value} {mean : ExcName → Option Value} {s : Shared} {Q E : Value → Shared → Prop} {x dx d r : Addr} {od : Obj} {t1 t2 t3 t4 tnf : Tok} {po : Value} {nf : Int} {nr : Nat} {rest srt : List (Addr × Obj)} {nA dA sA : Int → Addr} {keys : List Int} {np : Int → Int} {succ : Int → List Int} {rv pv : List Value} {rs ks : List Int}
    (B : Below A₀ base outer h₀) (F : Fr h₀ L s.heap m) (X : (Mine.hd.heap_1 w.params).In h₀) (T : TP mean mg mb h₀) (hk : cs.kind = .function) (hd : dp + 6 < recursionLimit) (hu : un + 48 < cLine)
    (N : News h₀ L s.heap ((x, instObj 151 dx) :: (dx, dictOf (sEs w (.ref d) (.ref r) po (.int nf tnf) t1 t2 t3 t4) 4) :: (d, od) :: (r, listOf rv.toArray nr) :: (rest ++ srt))) (hdm : (d == sysModules) = false)
    (D : od.IsDictOf (intKind PG w) (kvsOf keys nA)) (Nd : Nodes nA dA sA keys np succ srt) (P : Apart4 x dx d r rest srt) (hi : IntsAre rv rs) (hj : IntsAre pv ks) (hpl : pv.length ≤ 4) (hks : ∀ k ∈ ks, k ∈ keys) (hsk : ∀ k ∈ keys, ∀ j ∈ succ k, j ∈ keys)
    (hok : ∀ i (h : i < ks.length), (doneAll succ (np, rs) (ks.take i)).1 ks[i] = -1) (hsl : ∀ k, (succ k).length ≤ 100) (hrl : rs.length ≤ 100)
    (ret : ∀ h' tk' srt' tnf' nr' rv', Fr h₀ L h' m → News h₀ L h' ((x, instObj 151 dx) :: (dx, dictOf (sEs w (.ref d) (.ref r) po (.int (nf + ks.length) tnf') t1 t2 t3 t4) 4) :: (d, od) :: (r, listOf rv'.toArray nr') :: (rest ++ srt')) →
      IntsAre rv' (doneAll succ (np, rs) ks).2 → Nodes nA dA sA keys (doneAll succ (np, rs) ks).1 succ srt' → Apart4 x dx d r rest srt' → Q .none { s with heap := h', toks := tk' }) :
    codeAny (model PG w) (ktrTop dp un gd cn cs L a ccd cl outer) (.call (.ref 134) ⟨.ref x :: pv, []⟩) (fun r s' => match r with | .ok (.ret v) => Q v s' | .ok _ => False | .error e => E e s') s := by
  have hlp := hj.length
  k_dflt (refine' kp_rest (vs := pv) (g₁ := fun D => some [(Str.ofString "self", .ref x), (Str.ofString "nodes", .ref D)]) (binds := fun D => [(Str.ofString "self", .ref x), (Str.ofString "nodes", .ref D)]) ?k1 ?k2 ?k3 ?k4 ?k5 ?kA ?kF ?kK ?k6 ?k7 ?k8 ?kV ?kP ?kG ?kB ?_ ?c2 ?c3 ?c4 ?c5; (case kA => exact rfl); (case kF => exact rfl); (case kK => first | exact rfl | assumption); (case k1 => k_asm); (case k2 => k_asm); (case k3 => k_asm); (case k4 => exact N); (case k5 => k_asm); (case k6 => k_is); (case k7 => k_is); (case k8 => k_room); (case kV => exact rfl); (case kP => rcases pv with _ | ⟨v1, _ | ⟨v2, _ | ⟨v3, _ | ⟨v4, _ | ⟨v5, r5⟩⟩⟩⟩⟩; exact rfl; exact rfl; exact rfl; exact rfl; exact rfl; exact absurd hpl (by simp)); (case kG => exact fun _ => rfl); (case kB => exact fun _ => locs rfl); (case c5 => decide); (case c2 => exact rfl); (case c3 => exact rfl); (case c4 => exact rfl); k_whole; intro D' g' L' h' l1 FG' F' N' B' X' T'; (try dsimp only); (try k_fold))
  have l2 := List.forall_mem_cons.mp l1
  have l3 := List.forall_mem_cons.mp l2.2
  have l4 := List.forall_mem_cons.mp l3.2
  have l5 := List.forall_mem_cons.mp l4.2
  have q1 : @LT.lt Nat _ x D' := l2.1
  have q2 : @LT.lt Nat _ dx D' := l3.1
  have q3 : @LT.lt Nat _ d D' := l4.1
  have q4 : @LT.lt Nat _ r D' := l5.1
  have q5 := P.xdx
  have q6 := P.xd
  have q7 := P.dxd
  have q8 := P.xr
  have q9 := P.dxr
  have q10 := P.dr
  (repeat' (first | (k_unfold; (try dsimp only)) | (k_end; wrow_close) | ((fail_if_success (with_reducible (refine Mine.stop_here ?_ ?_; walk_at "s0"))); walk1) | (dsimp only; (fail_if_success (with_reducible (refine Mine.stop_here ?_ ?_; walk_at "s0"))); walk1) | (leave1; walk_say "STEP leave1"; try dsimp only) | walk_at "onk" | fail "no step"))
  refine For_turns (by k_asm) ?_
  (repeat' (first | (k_unfold; (try dsimp only)) | (k_end; wrow_close) | ((fail_if_success (with_reducible (refine Mine.stop_here ?_ ?_; walk_at "s0"))); walk1) | (dsimp only; (fail_if_success (with_reducible (refine Mine.stop_here ?_ ?_; walk_at "s0"))); walk1) | (leave1; walk_say "STEP leave1"; try dsimp only) | walk_at "onk" | fail "no step"))
  rename News g' L' _ _ => N8
  refine turns_tuple (news₀ := (x, instObj 151 dx) :: (dx, dictOf (sEs w (.ref d) (.ref r) po (.int nf tnf) t1 t2 t3 t4) 4) :: (d, od) :: (r, listOf rv.toArray nr) :: (rest ++ srt)) (vs := pv) (nv := 0)
    (fun i m' nw => m' (Str.ofString "self") = some (.ref x) ∧ m' (Str.ofString "n2i") = some (.ref d) ∧
      (Ex4 fun srt' tnf' nr' rv' => Cj4 (nw = (x, instObj 151 dx) :: (dx, dictOf (sEs w (.ref d) (.ref r) po (.int (nf + i) tnf') t1 t2 t3 t4) 4) :: (d, od) :: (r, listOf rv'.toArray nr') :: (rest ++ srt')) (IntsAre rv' (doneAll succ (np, rs) (ks.take i)).2) (Nodes nA dA sA keys (doneAll succ (np, rs) (ks.take i)).1 succ srt') (srt'.map (·.1) = srt.map (·.1)))) rfl (by k_asm) N8 ?t2 ?t3 ?t4 ?t5
  case t2 => exact fun p hp => Nat.ne_of_lt (l1 p hp)
  case t3 => exact ⟨rfl, rfl, srt, tnf, nr, rv, by simp, hi, Nd, rfl⟩
  case t5 =>
    rintro m' news' h' tk ⟨hm1, hm2, srt', tnf', nr', rv', rfl, hi1, Nd1, e1⟩ F1 N1 hx
    rw [hlp, List.take_length] at hi1 Nd1
    rw [hlp] at N1
    (repeat' (first | (k_unfold; (try dsimp only)) | (k_end; wrow_close) | ((fail_if_success (with_reducible (refine Mine.stop_here ?_ ?_; walk_at "s0"))); walk1) | (dsimp only; (fail_if_success (with_reducible (refine Mine.stop_here ?_ ?_; walk_at "s0"))); walk1) | (leave1; walk_say "STEP leave1"; try dsimp only) | walk_at "onk" | fail "no step"))
    rename News h₀ L _ _ => NN
    exact ret _ _ srt' tnf' nr' rv' (by k_asm) (fun p hp => NN p (.tail _ hp)) hi1 Nd1 (P.of_keys e1)
  case t4 =>
    rintro i v m₁ news₁ h₁ tk₁ own hv ⟨hm1, hm2, srt', tnf', nr', rv', rfl, hi1, Nd1, e1⟩ dis F1 N1
    have hil : i < ks.length := by rw [← hlp]; exact (List.getElem?_eq_some_iff.mp hv).1
    obtain ⟨t0, ht0⟩ := hj.get i ks[i] (List.getElem?_eq_getElem hil)
    obtain rfl : v = .int ks[i] t0 := Option.some.inj (hv.symm.trans ht0)
    have ht : ks.take (i + 1) = ks.take i ++ [ks[i]] := by simp
    have hk0 : ks[i] ∈ keys := hks _ (List.getElem_mem hil)
    have N2 : News g' L' h₁ ((x, instObj 151 dx) :: (dx, dictOf (sEs w (.ref d) (.ref r) po (.int (nf + i) tnf') t1 t2 t3 t4) 4) :: (d, od) :: (r, listOf rv'.toArray nr') :: ((own ++ rest) ++ srt')) := fun p hp => N1 p (by
      refine led_go hp ?_
      walk_at "led")
    clear N1
    have P1 := P.of_keys e1
    (repeat' (first | (k_unfold; (try dsimp only)) | (k_end; wrow_close) | ((fail_if_success (with_reducible (refine Mine.stop_here ?_ ?_; walk_at "s0"))); walk1) | (dsimp only; (fail_if_success (with_reducible (refine Mine.stop_here ?_ ?_; walk_at "s0"))); walk1) | (leave1; walk_say "STEP leave1"; try dsimp only) | walk_at "onk" | fail "no step"))
    refine' kdg_get1 (kvs := kvsOf keys nA) (k := ks[i]) (knd := intKind PG w) ?n1 ?n2 D ?n3 ?n4 (some (.ref (nA ks[i]))) (kvs_some hk0) ?_
    (case n1 => k_asm)
    (case n2 => exact .tail _ (.tail _ (.head _)))
    (case n3 => exact hdm)
    (case n4 => simp [intKind, Value.isInt])
    dsimp only [Option.getD]
    (repeat' (first | (k_unfold; (try dsimp only)) | (k_end; wrow_close) | ((fail_if_success (with_reducible (refine Mine.stop_here ?_ ?_; first | walk_at "s0" | exact Mine.p7 | exact Mine.p8 | exact Mine.p9 | exact Mine.p10))); walk1) | (dsimp only; (fail_if_success (with_reducible (refine Mine.stop_here ?_ ?_; first | walk_at "s0" | exact Mine.p7 | exact Mine.p8 | exact Mine.p9 | exact Mine.p10))); walk1) | (leave1; walk_say "STEP leave1"; try dsimp only) | walk_at "onk" | fail "no step"))
    refine' np_get (fr := (x, _) :: (dx, _) :: (d, _) :: (r, _) :: (own ++ rest)) (srt := srt') ?b1 ?b2 ?b3 Nd1 hk0 ?_
    (case b1 => k_asm)
    (case b2 => k_asm)
    (case b3 => k_asm)
    intro t9
    rw [hok i hil]
    (repeat' (first | (k_unfold; (try dsimp only)) | (k_end; wrow_close) | ((fail_if_success (with_reducible (refine Mine.stop_here ?_ ?_; first | walk_at "s0" | exact Mine.p7 | exact Mine.p8 | exact Mine.p9 | exact Mine.p10))); walk1) | (dsimp only; (fail_if_success (with_reducible (refine Mine.stop_here ?_ ?_; first | walk_at "s0" | exact Mine.p7 | exact Mine.p8 | exact Mine.p9 | exact Mine.p10))); walk1) | (leave1; walk_say "STEP leave1"; try dsimp only) | walk_at "onk" | fail "no step"))
    have fr0 : ∀ p ∈ (x, instObj 151 dx) :: (dx, dictOf (sEs w (.ref d) (.ref r) po (.int (nf + i) tnf') t1 t2 t3 t4) 4) :: (d, od) :: (r, listOf rv'.toArray nr') :: (own ++ rest), ∀ q ∈ srt', p.1 ≠ q.1 := P1.front4 fun p hp q hq => dis p hp q (by simp [hq])
    refine' np_set (fr := (x, _) :: (dx, _) :: (d, _) :: (r, _) :: (own ++ rest)) (srt := srt') ?b1 ?b2 ?b3 Nd1 hk0 fr0 ?_
    (case b1 => k_asm)
    (case b2 => k_asm)
    (case b3 => k_asm)
    intro h8 srt8 F8 N8 Nd8 e8 k8
    have P8 := P1.of_keys e8
    (repeat' (first | (k_unfold; (try dsimp only)) | (k_end; wrow_close) | ((fail_if_success (with_reducible (refine Mine.stop_here ?_ ?_; first | walk_at "s0" | exact Mine.p7 | exact Mine.p8 | exact Mine.p9 | exact Mine.p10))); walk1) | (dsimp only; (fail_if_success (with_reducible (refine Mine.stop_here ?_ ?_; first | walk_at "s0" | exact Mine.p7 | exact Mine.p8 | exact Mine.p9 | exact Mine.p10))); walk1) | (leave1; walk_say "STEP leave1"; try dsimp only) | walk_at "onk" | fail "no step"))
    refine For_turns (by k_asm) ?_
    (repeat' (first | (k_unfold; (try dsimp only)) | (k_end; wrow_close) | ((fail_if_success (with_reducible (refine Mine.stop_here ?_ ?_; first | walk_at "s0" | exact Mine.p7 | exact Mine.p8 | exact Mine.p9 | exact Mine.p10))); walk1) | (dsimp only; (fail_if_success (with_reducible (refine Mine.stop_here ?_ ?_; first | walk_at "s0" | exact Mine.p7 | exact Mine.p8 | exact Mine.p9 | exact Mine.p10))); walk1) | (leave1; walk_say "STEP leave1"; try dsimp only) | walk_at "onk" | fail "no step"))
    refine' succ_get (fr := (x, _) :: (dx, _) :: (d, _) :: (r, _) :: (own ++ rest)) (srt := srt8) ?b1 ?b2 ?b3 Nd8 hk0 ?_
    (case b1 => k_asm)
    (case b2 => k_asm)
    (case b3 => k_asm)
    dsimp only
    obtain ⟨sv, nn, hsv, hms⟩ := Nd8.list ks[i] hk0
    have hls := hsv.length
    refine turns_listIn (news₀ := (x, instObj 151 dx) :: (dx, dictOf (sEs w (.ref d) (.ref r) po (.int (nf + i) tnf') t1 t2 t3 t4) 4) :: (d, od) :: (r, listOf rv'.toArray nr') :: ((own ++ rest) ++ srt8)) (vs := sv) (nv := nn)
      (fun j m' nw => m' (Str.ofString "self") = some (.ref x) ∧ m' (Str.ofString "n2i") = some (.ref d) ∧
        (Ex3 fun srt2 nr2 rv2 => Cj5 (nw = (x, instObj 151 dx) :: (dx, dictOf (sEs w (.ref d) (.ref r) po (.int (nf + i) tnf') t1 t2 t3 t4) 4) :: (d, od) :: (r, listOf rv2.toArray nr2) :: ((own ++ rest) ++ srt2)) (IntsAre rv2 (decs (upd (doneAll succ (np, rs) (ks.take i)).1 ks[i] (-2), (doneAll succ (np, rs) (ks.take i)).2) ((succ ks[i]).take j)).2) (Nodes nA dA sA keys (decs (upd (doneAll succ (np, rs) (ks.take i)).1 ks[i] (-2), (doneAll succ (np, rs) (ks.take i)).2) ((succ ks[i]).take j)).1 succ srt2) (srt2.map (·.1) = srt.map (·.1)) ((sA ks[i], listOf sv.toArray nn) ∈ srt2))) rfl (by k_asm) (by k_asm) ?s1 ?s2 ?s3 ?s4
    case s1 =>
      rintro j m' nw ⟨_, _, srt2, nr2, rv2, rfl, _, _, _, hmm⟩
      exact .tail _ (.tail _ (.tail _ (.tail _ (List.mem_append_right _ hmm))))
    case s2 => exact ⟨hm1, hm2, srt8, nr', rv', rfl, hi1, Nd8, e8.trans e1, hms⟩
    case s4 =>
      rintro m' news' h' tk ⟨hm1', hm2', srt2, nr2, rv2, rfl, hi2, Nd2, e2, hmm⟩ F2 N2'
      rw [hls, List.take_length] at hi2 Nd2
      have P2 := P.of_keys e2
      have z2 : ∀ p ∈ (own ++ rest) ++ srt2, p.1 ≠ dx := fun p hp => by
        rw [List.append_assoc] at hp
        rcases List.mem_append.mp hp with h | h
        · exact dis p h _ (.tail _ (.head _))
        · exact (P2.tl p h).2.1
      (repeat' (first | (k_unfold; (try dsimp only)) | (k_end; wrow_close) | ((fail_if_success (with_reducible (refine Mine.stop_here ?_ ?_; walk_at "s0"))); walk1) | (dsimp only; (fail_if_success (with_reducible (refine Mine.stop_here ?_ ?_; walk_at "s0"))); walk1) | (leave1; walk_say "STEP leave1"; try dsimp only) | walk_at "onk" | fail "no step"))
      rename News g' L' _ _ => N5
      rw [show nf + (i : Int) + 1 = nf + ((i + 1 : Nat) : Int) by lia] at N5
      have ed : doneAll succ (np, rs) (ks.take (i + 1)) = decs (upd (doneAll succ (np, rs) (ks.take i)).1 ks[i] (-2), (doneAll succ (np, rs) (ks.take i)).2) (succ ks[i]) := by unfold doneAll; rw [ht, List.foldl_append]; rfl
      obtain ⟨tz, Nz⟩ : ∃ tz, News g' L' _ ((x, instObj 151 dx) :: (dx, dictOf (sEs w (.ref d) (.ref r) po (.int (nf + ((i + 1 : Nat) : Int)) tz) t1 t2 t3 t4) 4) :: (d, od) :: (r, listOf rv2.toArray nr2) :: ((own ++ rest) ++ srt2)) := ⟨_, N5⟩
      refine ⟨_, _, m', (x, instObj 151 dx) :: (dx, dictOf (sEs w (.ref d) (.ref r) po (.int (nf + ((i + 1 : Nat) : Int)) tz) t1 t2 t3 t4) 4) :: (d, od) :: (r, listOf rv2.toArray nr2) :: (rest ++ srt2), rfl, by k_asm, fun p hp => Nz p ?_, fun p hp => keep_dis (dis p hp) (e2.trans e1.symm), hm1', hm2', srt2, tz, nr2, rv2, rfl, ?_, ?_, e2⟩
      · refine led_go hp ?_
        walk_at "led"
      · rw [ed]; exact hi2
      · rw [ed]; exact Nd2
    case s3 =>
      rintro j v2 m₂ news₂ h₂ tk₂ I oI hv2 ⟨hm1', hm2', srt2, nr2, rv2, rfl, hi2, Nd2, e2, hmm⟩ hq F2 N3
      have hjl : j < (succ ks[i]).length := by rw [← hls]; exact (List.getElem?_eq_some_iff.mp hv2).1
      obtain ⟨t7, ht7⟩ := hsv.get j (succ ks[i])[j] (List.getElem?_eq_getElem hjl)
      obtain rfl : v2 = .int (succ ks[i])[j] t7 := Option.some.inj (hv2.symm.trans ht7)
      have htj : (succ ks[i]).take (j + 1) = (succ ks[i]).take j ++ [(succ ks[i])[j]] := by simp
      have hj0 : (succ ks[i])[j] ∈ keys := hsk _ hk0 _ (List.getElem_mem hjl)
      generalize hst : decs (upd (doneAll succ (np, rs) (ks.take i)).1 ks[i] (-2), (doneAll succ (np, rs) (ks.take i)).2) ((succ ks[i]).take j) = st at *
      have ed : decs (upd (doneAll succ (np, rs) (ks.take i)).1 ks[i] (-2), (doneAll succ (np, rs) (ks.take i)).2) ((succ ks[i]).take (j + 1)) = dec1 st (succ ks[i])[j] := by rw [← hst]; unfold decs; rw [htj, List.foldl_append]; rfl
      have hrv : rv2.length ≤ 900 := by
        have h1 := doneAll_len hsl (ks.take i) (np, rs)
        have h2 := decs_len ((succ ks[i]).take j) (upd (doneAll succ (np, rs) (ks.take i)).1 ks[i] (-2), (doneAll succ (np, rs) (ks.take i)).2)
        have h3 := List.length_take_le i ks
        have h4 := List.length_take_le j (succ ks[i])
        have h5 := hsl ks[i]
        have h6 := hi2.length
        have h7 : (ks.take i).length ≤ 4 := by lia
        have h8 : (ks.take i).length * 100 ≤ 4 * 100 := Nat.mul_le_mul_right _ h7
        rw [hst] at h2
        dsimp only at h1 h2
        lia
      have P2 := P.of_keys e2
      have i1 : @Ne Nat I x := hq _ (.head _)
      have i2 : @Ne Nat I dx := hq _ (.tail _ (.head _))
      have i3 : @Ne Nat I d := hq _ (.tail _ (.tail _ (.head _)))
      have i4 : @Ne Nat I r := hq _ (.tail _ (.tail _ (.tail _ (.head _))))
      have N4 : News g' L' h₂ ((x, instObj 151 dx) :: (dx, dictOf (sEs w (.ref d) (.ref r) po (.int (nf + i) tnf') t1 t2 t3 t4) 4) :: (d, od) :: (r, listOf rv2.toArray nr2) :: (I, oI) :: ((own ++ rest) ++ srt2)) := fun p hp => N3 p (by
        refine led_go hp ?_
        walk_at "led")
      clear N3
      have fr2 : ∀ p ∈ (x, instObj 151 dx) :: (dx, dictOf (sEs w (.ref d) (.ref r) po (.int (nf + i) tnf') t1 t2 t3 t4) 4) :: (d, od) :: (r, listOf rv2.toArray nr2) :: (((I, oI) :: own) ++ rest), ∀ q ∈ srt2, p.1 ≠ q.1 := P2.front4 fun p hp q hq' => by
        rcases List.mem_cons.mp hp with h | h
        · subst h; exact hq q (.tail _ (.tail _ (.tail _ (.tail _ (List.mem_append_right _ hq')))))
        · exact fr_srt (fun p hp q hq => dis p hp q (by simp [hq])) (e2.trans e1.symm) p h q hq'
      (repeat' (first | (k_unfold; (try dsimp only)) | (k_end; wrow_close) | ((fail_if_success (with_reducible (refine Mine.stop_here ?_ ?_; first | walk_at "s0" | exact Mine.p7 | exact Mine.p8 | exact Mine.p9 | exact Mine.p10))); walk1) | (dsimp only; (fail_if_success (with_reducible (refine Mine.stop_here ?_ ?_; first | walk_at "s0" | exact Mine.p7 | exact Mine.p8 | exact Mine.p9 | exact Mine.p10))); walk1) | (leave1; walk_say "STEP leave1"; try dsimp only) | walk_at "onk" | fail "no step"))
      refine' kda_item (kvs := kvsOf keys nA) (k := (succ ks[i])[j]) (knd := intKind PG w) ?b1 ?b2 D ?b3 (kvs_some hj0) ?_
      (case b1 => k_asm)
      (case b2 => exact .tail _ (.tail _ (.head _)))
      (case b3 => simp [intKind, Value.isInt])
      (repeat' (first | (k_unfold; (try dsimp only)) | (k_end; wrow_close) | ((fail_if_success (with_reducible (refine Mine.stop_here ?_ ?_; first | walk_at "s0" | exact Mine.p7 | exact Mine.p8 | exact Mine.p9 | exact Mine.p10))); walk1) | (dsimp only; (fail_if_success (with_reducible (refine Mine.stop_here ?_ ?_; first | walk_at "s0" | exact Mine.p7 | exact Mine.p8 | exact Mine.p9 | exact Mine.p10))); walk1) | (leave1; walk_say "STEP leave1"; try dsimp only) | walk_at "onk" | fail "no step"))
      refine' np_get (fr := (x, _) :: (dx, _) :: (d, _) :: (r, _) :: (((I, oI) :: own) ++ rest)) (srt := srt2) ?b1 ?b2 ?b3 Nd2 hj0 ?_
      (case b1 => k_asm)
      (case b2 => k_asm)
      (case b3 => k_asm)
      intro t5
      (repeat' (first | (k_unfold; (try dsimp only)) | (k_end; wrow_close) | ((fail_if_success (with_reducible (refine Mine.stop_here ?_ ?_; first | walk_at "s0" | exact Mine.p7 | exact Mine.p8 | exact Mine.p9 | exact Mine.p10))); walk1) | (dsimp only; (fail_if_success (with_reducible (refine Mine.stop_here ?_ ?_; first | walk_at "s0" | exact Mine.p7 | exact Mine.p8 | exact Mine.p9 | exact Mine.p10))); walk1) | (leave1; walk_say "STEP leave1"; try dsimp only) | walk_at "onk" | fail "no step"))
      refine' np_set (fr := (x, _) :: (dx, _) :: (d, _) :: (r, _) :: (((I, oI) :: own) ++ rest)) (srt := srt2) ?b1 ?b2 ?b3 Nd2 hj0 fr2 ?_
      (case b1 => k_asm)
      (case b2 => k_asm)
      (case b3 => k_asm)
      intro h6 srt6 F6 N6 Nd6 e6 k6
      simp only [List.cons_append] at N6
      have P6 := P2.of_keys e6
      (repeat' (first | (k_unfold; (try dsimp only)) | (k_end; wrow_close) | ((fail_if_success (with_reducible (refine Mine.stop_here ?_ ?_; first | walk_at "s0" | exact Mine.p7 | exact Mine.p8 | exact Mine.p9 | exact Mine.p10))); walk1) | (dsimp only; (fail_if_success (with_reducible (refine Mine.stop_here ?_ ?_; first | walk_at "s0" | exact Mine.p7 | exact Mine.p8 | exact Mine.p9 | exact Mine.p10))); walk1) | (leave1; walk_say "STEP leave1"; try dsimp only) | walk_at "onk" | fail "no step"))
      refine' np_get (fr := (x, _) :: (dx, _) :: (d, _) :: (r, _) :: (((I, oI) :: own) ++ rest)) (srt := srt6) ?b1 ?b2 ?b3 Nd6 hj0 ?_
      (case b1 => k_asm)
      (case b2 => k_asm)
      (case b3 => k_asm)
      intro t6
      rw [upd_self]
      have z3 : ∀ p ∈ (own ++ rest) ++ srt6, p.1 ≠ r := fun p hp => by
        rw [List.append_assoc] at hp
        rcases List.mem_append.mp hp with h | h
        · exact dis p h _ (.tail _ (.tail _ (.tail _ (.head _))))
        · exact P6.tlr p h
      have hmm6 : (sA ks[i], listOf sv.toArray nn) ∈ srt6 := k6 _ hmm (Ne.symm (Nd2.nA_sA hj0 hk0))
      have fin : ∀ (h' : Heap) (tk' : Nat) (mm : Str → Option Value) (rv3 : List Value) (nr3 : Nat), mm (Str.ofString "self") = some (.ref x) → mm (Str.ofString "n2i") = some (.ref d) → Fr g' L' h' mm →
          News g' L' h' ((x, instObj 151 dx) :: (dx, dictOf (sEs w (.ref d) (.ref r) po (.int (nf + i) tnf') t1 t2 t3 t4) 4) :: (d, od) :: (r, listOf rv3.toArray nr3) :: (I, oI) :: ((own ++ rest) ++ srt6)) → IntsAre rv3 (dec1 st (succ ks[i])[j]).2 →
          (Ex4 fun h'' tk m' news' => Cj5 (({ s with heap := h', toks := tk' } : Shared) = { { s with heap := h₂, toks := tk₂ } with heap := h'', toks := tk }) (Fr g' L' h'' m') (News g' L' h'' ([(I, oI)] ++ news')) ((∀ p ∈ [(I, oI)], ∀ q ∈ news', p.1 ≠ q.1)) ((m' (Str.ofString "self") = some (.ref x) ∧ m' (Str.ofString "n2i") = some (.ref d) ∧
              (Ex3 fun srt2 nr2 rv2 => Cj5 (news' = (x, instObj 151 dx) :: (dx, dictOf (sEs w (.ref d) (.ref r) po (.int (nf + i) tnf') t1 t2 t3 t4) 4) :: (d, od) :: (r, listOf rv2.toArray nr2) :: ((own ++ rest) ++ srt2)) (IntsAre rv2 (decs (upd (doneAll succ (np, rs) (ks.take i)).1 ks[i] (-2), (doneAll succ (np, rs) (ks.take i)).2) ((succ ks[i]).take (j + 1))).2) (Nodes nA dA sA keys (decs (upd (doneAll succ (np, rs) (ks.take i)).1 ks[i] (-2), (doneAll succ (np, rs) (ks.take i)).2) ((succ ks[i]).take (j + 1))).1 succ srt2) (srt2.map (·.1) = srt.map (·.1)) ((sA ks[i], listOf sv.toArray nn) ∈ srt2))))) := by
        intro h' tk' mm rv3 nr3 a1 a2 F' N' hi3
        refine ⟨h', tk', mm, (x, instObj 151 dx) :: (dx, dictOf (sEs w (.ref d) (.ref r) po (.int (nf + i) tnf') t1 t2 t3 t4) 4) :: (d, od) :: (r, listOf rv3.toArray nr3) :: ((own ++ rest) ++ srt6), rfl, F', fun p hp => N' p ?_, fun p hp => ?_, a1, a2, srt6, nr3, rv3, rfl, by rw [ed]; exact hi3, by rw [ed]; exact Nd6, e6.trans e2, hmm6⟩
        · refine led_go hp ?_
          walk_at "led"
        · obtain rfl := List.mem_singleton.mp hp
          exact keep_dis hq e6
      (repeat' (first | (k_unfold; (try dsimp only)) | (k_end; wrow_close) | ((fail_if_success (with_reducible (refine Mine.stop_here ?_ ?_; walk_at "s0"))); walk1) | (dsimp only; (fail_if_success (with_reducible (refine Mine.stop_here ?_ ?_; walk_at "s0"))); walk1) | (leave1; walk_say "STEP leave1"; try dsimp only) | walk_at "onk" | fail "no step"))
      · rename st.1 (succ ks[i])[j] - 1 = 0 => hz
        rename News g' L' _ _ => N1
        (try rw [List.push_toArray] at N1)
        rename Fr g' L' _ _ => F5
        exact fin _ _ _ _ _ (by exact hm1') (by exact hm2') F5 N1 (by unfold dec1; rw [if_pos hz]; exact IntsAre.snoc hi2 _ _)
      · rename ¬ (st.1 (succ ks[i])[j] - 1 = 0) => hz
        rename News g' L' _ _ => N1
        rename Fr g' L' _ _ => F5
        exact fin _ _ _ rv2 nr2 (by exact hm1') (by exact hm2') F5 N1 (by unfold dec1; rw [if_neg hz]; exact hi2)
end
section
set_option maxHeartbeats 8000000
theorem cmpHT {w : World} {dp un : Nat} {gd : Option (List Code)} {cn : Str} {cs : Scope} {a : Addr} {ccd : Value} {cl : List (Str × Addr)} {outer : List Env} {A₀ : Around} {base h₀ : Heap} {L : Addr} {m mg mb : Str → Option Value} {mean : ExcName → Option Value} {s : Shared} {Q E : Value → Shared → Prop} {va vb : Value} {t u : Hy} {rest : List (Addr × Obj)}
    (B : Below A₀ base outer h₀) (F : Fr h₀ L s.heap m) (X : (Mine.hd.heap_1 w.params).In h₀) (T : TP mean mg mb h₀) (hk : cs.kind = .function) (hd : dp + 12 < recursionLimit) (hu : un + 96 < cLine)
    (N : News h₀ L s.heap rest) (hv : HyAt s.heap va t) (hw : HyAt s.heap vb u) (hn : t.depth ≤ 40)
    (ret : ∀ h' tk' t', Fr h₀ L h' m → News h₀ L h' rest → Q (.int (b2i (ltH u t) - b2i (ltH t u)) t') { s with heap := h', toks := tk' }) :
    wpAny (model PG w) (ktrTop dp un gd cn cs L a ccd cl outer) (call (.ref 35) [va, vb]) Q E s := by
  have N0 : News h₀ L s.heap [] := fun p hp => nomatch hp
  obtain ⟨xa, rfl⟩ := hv.isRef
  obtain ⟨ya, rfl⟩ := hw.isRef
  refine wpAny_call ?_
  k_dflt (refine' code_defG ?k1 ?k2 ?k3 ?k4 ?k5 ?kA ?kF ?kK ?k6 ?k7 ?k8 ?k9 ?kB ?_ ?c2 ?c3 ?c4 ?c5; (case kA => exact rfl); (case kF => exact rfl); (case kK => assumption); (case k1 => k_asm); (case k2 => k_asm); (case k3 => k_asm); (case k4 => exact N0); (case k5 => k_asm); (case k6 => k_is); (case k7 => k_is); (case k8 => ktr_room); (case k9 => exact BindsTo.of_eq rfl); (case c5 => decide); (case kB => exact locs rfl); (case c2 => exact rfl); (case c3 => exact rfl); (case c4 => exact rfl); k_whole; intro g' L' h' FG' F' N' B' X' T' kG'; (try dsimp only); (try k_fold))
  have hv1 : HyAt g' (.ref xa) t := hv.keeps fun _ _ _ e => kG' _ _ e (by simp)
  have hw1 : HyAt g' (.ref ya) u := hw.keeps fun _ _ _ e => kG' _ _ e (by simp)
  (repeat' (first | (k_unfold; (try dsimp only)) | (k_end; wrow_close) | ((fail_if_success (with_reducible (refine Mine.stop_here ?_ ?_; first | walk_at "s0" | exact Mine.p23 | exact Mine.p25))); walk1) | (dsimp only; (fail_if_success (with_reducible (refine Mine.stop_here ?_ ?_; first | walk_at "s0" | exact Mine.p23 | exact Mine.p25))); walk1) | (leave1; walk_say "STEP leave1"; try dsimp only) | walk_at "onk" | fail "no step"))
  have hv2 : HyAt h' (.ref xa) t := hv1.keeps fun _ _ _ e => F'.keep _ _ e
  have hw2 : HyAt h' (.ref ya) u := hw1.keeps fun _ _ _ e => F'.keep _ _ e
  refine HyAt.gtAt 40 hn hv2 hw2 ?_ _ _ _ _ ?_
  · k_units
  (repeat' (first | (k_unfold; (try dsimp only)) | (k_end; wrow_close) | ((fail_if_success (with_reducible (refine Mine.stop_here ?_ ?_; first | walk_at "s0" | exact Mine.p23 | exact Mine.p25))); walk1) | (dsimp only; (fail_if_success (with_reducible (refine Mine.stop_here ?_ ?_; first | walk_at "s0" | exact Mine.p23 | exact Mine.p25))); walk1) | (leave1; walk_say "STEP leave1"; try dsimp only) | walk_at "onk" | fail "no step"))
  refine HyAt.ltAt 40 hn hv2 hw2 ?_ _ _ _ _ ?_
  · k_units
  (repeat' (first | (k_unfold; (try dsimp only)) | (k_end; wrow_close) | ((fail_if_success (with_reducible (refine Mine.stop_here ?_ ?_; first | walk_at "s0" | exact Mine.p23 | exact Mine.p25))); walk1) | (dsimp only; (fail_if_success (with_reducible (refine Mine.stop_here ?_ ?_; first | walk_at "s0" | exact Mine.p23 | exact Mine.p25))); walk1) | (leave1; walk_say "STEP leave1"; try dsimp only) | walk_at "onk" | fail "no step"))
  walk1
  (try walk_at "onk")
  (try dsimp only)
  refine leaveK_ F' (news' := []) (fun p hp => nomatch hp) fun FL NL => ?_
  obtain ⟨c1, _, _⟩ := leave_new (new := []) N (fun b o e => kG' _ _ e (by simp)) F' N' NL (fun p hp => hp)
  exact ret _ _ _ FL c1
end
section
set_option maxHeartbeats 8000000
section
variable {w : World} {A : Around} {E : Value → Shared → Prop} {s : Shared} {h₀ : Heap} {L : Addr} {m : Str → Option Value} {nA dA sA : Int → Addr} {keys : List Int} {np : Int → Int} {succ : Int → List Int} {srt : List (Addr × Obj)} {k : Int}
theorem succ_getH {expr : Bool} {Q : Value → Shared → Prop} (F : Fr h₀ L s.heap m) (X : (Mine.hd.heap_1 w.params).In h₀) (hs : ∀ p ∈ srt, s.heap.get? p.1 = some p.2) (Nd : Nodes nA dA sA keys np succ srt) (hk : k ∈ keys)
    (h : Q (.ref (sA k)) { s with toks := s.toks + 1 }) : wpAny (model PG w) A (getAttr (.ref (nA k)) (Str.ofString "successors") expr) Q E s := by
  obtain ⟨tk, tp, hm⟩ := Nd.node k hk
  have h1 := hs _ hm
  have h2 := hs _ (Nd.dict k hk)
  k_dflt (refine' get_slot ?k1 ?k2 ?k3 ?k4 ?k5 ?k6 ?k7 ?k8 ?k9 ?k10 ?k11 ?_; (case k1 => k_asm); (case k2 => k_asm); (case k3 => exact (⟨h1, rfl, rfl, h2⟩ : W.InstAt _ _ ⟨.ref 54, some (dA k), .plain, _⟩ 54 (some _))); (case k4 => k_is); (case k5 => k_is); (case k6 => k_is); (case k7 => k_is); (case k8 => k_is); (case k9 => k_is); (case k10 => exact rfl); (case k11 => k_handed); exact h)
end
end
section
set_option maxHeartbeats 8000000
section
variable {prog : Program} {w : World} {A : Around} {E : Value → Shared → Prop} {s : Shared} {h₀ : Heap} {L : Addr} {m : Str → Option Value} {news : List (Addr × Obj)} {l I b it : Addr} {items : Array Value} {i : Nat} {g : Obj → List (Addr × Obj)} {x : Value}
theorem iter_list {Q : Value → Shared → Prop} (F : Fr h₀ L s.heap m) (N : News h₀ L s.heap news) (hl : s.heap.IsList l items)
    (h : ∀ (I : Addr) h', Fr h₀ L h' m → News h₀ L h' ((I, liO l 0) :: news) → (∀ p ∈ news, p.1 < I) → Q (.ref I) { s with heap := h' }) :
    wpAny (model prog w) A (call (.builtin "iter") [.ref l]) Q E s := by
  refine call_function_entry (by decide +kernel) (by decide +kernel) kdk_entry_iter (kdk_args_iter _) ?_
  unfold Builtin.«iter»
  refine wpAny_bind (m := someArgs "iter" 1 2 _) (wpAny_of_eq (a := [Value.ref l]) (by first | rfl | kernel_rfl!) ?_)
  show wpAny _ _ (pyIter (.ref l) >>= _) _ _ _
  refine wpAny_bind (wpAny_pyIter_list hl ?_)
  exact wpAny_pure ⟨_, rfl, h _ _ (F.push _) (News.push F N _ rfl) (fun q hq => Heap.lt_size (N q hq).1)⟩
theorem next_attr {Q : Value → Shared → Prop} (F : Fr h₀ L s.heap m) (N : News h₀ L s.heap news) (hm : (I, liO l i) ∈ news)
    (h : ∀ (b : Addr) h', Fr h₀ L h' m → News h₀ L h' ((b, mwO I) :: news) → (∀ p ∈ news, p.1 < b) → Q (.ref b) { s with heap := h', toks := s.toks + 1 }) :
    wpAny (model prog w) A (getAttr (.ref I) (Str.ofString "__next__") true) Q E s :=
  getAttr_next (N _ hm).1 (h _ _ (F.push _) (News.push F N _ rfl) (fun q hq => Heap.lt_size (N q hq).1))
theorem mw_itemN {R : Result → Shared → Prop} (F : Fr h₀ L s.heap m) (N : News h₀ L s.heap news) (hb : (b, mwO it) ∈ news) (hit : (it, liO l i) ∈ news) (U : UpdF it (liO l i) news g) (hl : s.heap.IsList l items) (hx : items[i]? = some x)
    (h : ∀ h', Fr h₀ L h' m → News h₀ L h' (g (liO l (i + 1))) → R (.ok (.ret x)) { s with heap := h' }) : codeAny (model prog w) A (.call (.ref b) ⟨[], []⟩) R s := by
  refine mw_item (N _ hb).1 (N _ hit).1 hl hx ?_
  obtain ⟨F', N'⟩ := upd_news (o' := liO l (i + 1)) (f := Obj.mapFields (·.setIfInBounds 1 (rawInt (i + 1)))) F N U rfl rfl
  exact h _ F' N'
noncomputable abbrev liX : Addr → Nat → Obj := fun _ i => { cls := .type "list_iterator", data := .fields #[.none, .int i 0] }
theorem mw_endN {R : Result → Shared → Prop} (hh : A.handled = none) (F : Fr h₀ L s.heap m) (N : News h₀ L s.heap news) (hb : (b, mwO it) ∈ news) (hit : (it, liO l i) ∈ news) (U : UpdF it (liO l i) news g) (hl : s.heap.IsList l items) (hx : items[i]? = none)
    (h : ∀ h1 h' e, Heap.NewExcOf h1 h' e "StopIteration" → Fr h₀ L h1 m → News h₀ L h1 (g (liX l i)) → R (.error (.ref e)) { s with heap := h' }) : codeAny (model prog w) A (.call (.ref b) ⟨[], []⟩) R s := by
  obtain ⟨F', N'⟩ := upd_news (o' := liX l i) (f := Obj.mapFields (·.setIfInBounds 0 .none)) F N U rfl rfl
  exact mw_end hh (N _ hb).1 (N _ hit).1 hl hx fun h' e hx => h _ h' e hx F' N'
variable {K : Type} [DecidableEq K] [BEq K] [LawfulBEq K] {knd : KeyKind prog w K} {kvs : List (K × Value)} {d : Addr} {o : Obj}
theorem pyIter_keys {Q : Value → Shared → Prop} (F : Fr h₀ L s.heap m) (N : News h₀ L s.heap news) (hp : (d, o) ∈ news) (hd : o.IsDictOf knd kvs) (lo : (d == sysModules) = false)
    (h : ∀ (I : Addr) h' oI ep, Fr h₀ L h' m → News h₀ L h' ((I, oI) :: news) → (∀ p ∈ news, p.1 < I) → KdkIter oI d 0 kvs.length ep → KdkAt knd o kvs ep → Q (.ref I) { s with heap := h' }) :
    wpAny (model prog w) A (pyIter (.ref d)) Q E s := by
  obtain ⟨ep, ha⟩ := KdkAt.of hd
  refine wpAny_pyIter_dict lo (ha.dictAt (N _ hp).1) ?_
  exact h _ _ _ ep (F.push _) (News.push F N _ rfl) (fun q hq => Heap.lt_size (N q hq).1) ⟨rfl, rfl⟩ ha
end
structure Turned (w : World) (mean : ExcName → Option Value) (mg mb : Str → Option Value) (A : Around) (base : Heap) (envs : List Env) (g g2 : Heap) : Prop where
  turn : KtsTurn (envs.filterMap (·.frame)) g g2
  below : Below A base envs g2
  kin : (Mine.hd.heap_1 w.params).In g2
  top : TP mean mg mb g2
  dicts : KtsDicts (envs.filterMap (·.frame)) g2
theorem Turned.keep {w : World} {mean : ExcName → Option Value} {mg mb : Str → Option Value} {A : Around} {base : Heap} {envs : List Env} {g g2 : Heap} (x : Turned w mean mg mb A base envs g g2) {b : Addr} {o : Obj} (e : g.get? b = some o) (hb : b ∉ envs.filterMap (·.frame)) : g2.get? b = some o :=
  x.turn.other b o e hb
end
section
set_option maxHeartbeats 8000000
theorem item_last {prog : Program} {w : World} {A : Around} {E : Value → Shared → Prop} {s : Shared} {value slice : PySem.Expr} {l : Addr} {p : List Value} {y : Value} {u : Tok} {Q : Value → Shared → Prop} (hl : s.heap.IsList l (p ++ [y]).toArray) (h : Q y s)
    (hs : subscripted slice false (.ref l) (.int (-1) u) = operate [.ref l, .int (-1) u] (getItem (.ref l) (.int (-1) u)) := by with_unfolding_all rfl) (hg : ∀ r, letTemporaryGo value (.ref l) r = pure () := by intro _; with_unfolding_all rfl) :
    wpAny (model prog w) A (subscriptTail value slice (.ref l) (.int (-1) u)) Q E s := by
  refine subscriptTail_builtin hl.typeIs slot_list_getitem.lookup (wpAny_getItem_list_neg hl (by decide) ?_ (by decide) ?_ h) hs hg
  · simp; lia
  · have e : ((-1 : Int) + ((p ++ [y]).toArray.size : Nat)).toNat = p.length := by simp; lia
    rw [e]; simp
theorem callWith_mw0 {M : Model} {A : Around} {E : Value → Shared → Prop} {s : Shared} {env : Env} {pos : Pos} {b it : Addr} {Q : Value → Shared → Prop} (hb : s.heap.get? b = some (mwO it)) (h : wpAny M A (call (.ref b) []) Q E s) :
    wpAny M A (callWith pos (.ref b) [] (backTo pos (starEach [] env)) []) Q E s :=
  callWith_of (P := fun h => h.get? b = some (mwO it)) rfl (fun h x => ⟨.machine, .inr (.inl rfl), (Looks.ld (part := none) x).andThen .now⟩) (evalArgs_nil3 ⟨hb, h⟩)
structure Held (P : Prop) : Prop where
  out : P
structure Fm where
  k : Int
  b : Addr
  it : Addr
  i : Nat
noncomputable def bn (sA : Int → Addr) : List Fm → List (Addr × Obj)
  | [] => []
  | f :: fs => (f.b, mwO f.it) :: (f.it, liO (sA f.k) f.i) :: bn sA fs
noncomputable def unseen (succ : Int → List Int) (S : Int → Bool) (keys : List Int) : Nat := (keys.map fun k => if S k then 0 else (succ k).length + 2).sum
noncomputable def onStack (succ : Int → List Int) (fs : List Fm) : Nat := (fs.map fun f => (succ f.k).length - f.i + 1).sum
theorem unseen_le (succ : Int → List Int) (S S' : Int → Bool) (h : ∀ k, S k = true → S' k = true) : ∀ keys, unseen succ S' keys ≤ unseen succ S keys
  | [] => Nat.le_refl _
  | k :: ks => by
    have := unseen_le succ S S' h ks
    simp only [unseen, List.map_cons, List.sum_cons] at this ⊢
    by_cases q : S k = true
    · rw [if_pos q, if_pos (h k q)]; lia
    · rw [if_neg q]; split <;> lia
theorem unseen_add (succ : Int → List Int) (S : Int → Bool) (x : Int) (hx : S x = false) : ∀ keys, x ∈ keys → unseen succ (fun k' => S k' || decide (k' = x)) keys + (succ x).length + 2 ≤ unseen succ S keys
  | k :: ks, hm => by
    have mono := unseen_le succ S (fun k' => S k' || decide (k' = x)) (fun k q => by simp [q]) ks
    have ih := unseen_add succ S x hx ks
    simp only [unseen, List.map_cons, List.sum_cons] at ih mono ⊢
    by_cases e : k = x
    · subst e
      rw [if_pos (by simp), if_neg (by simp [hx])]; lia
    · rcases List.mem_cons.mp hm with q | q
      · exact absurd q.symm e
      · have := ih q
        by_cases z : S k = true
        · rw [if_pos z, if_pos (by simp [z])]; lia
        · rw [if_neg z, if_neg (by simp [z, e])]; lia
theorem count_add (S : Int → Bool) (x : Int) (hx : S x = false) : ∀ keys : List Int, x ∈ keys → (keys.filter fun k => !(S k || decide (k = x))).length + 1 ≤ (keys.filter fun k => !S k).length
  | k :: ks, hm => by
    have mono : (ks.filter fun k => !(S k || decide (k = x))).length ≤ (ks.filter fun k => !S k).length := by
      clear hm
      induction ks with
      | nil => exact Nat.le_refl _
      | cons y ys ih =>
        simp only [List.filter_cons]
        by_cases z : S y = true
        · simpa [z] using ih
        · by_cases e : y = x
          · subst e; simp [hx] at ih ⊢; lia
          · simp [z, e] at ih ⊢; lia
    have ih := count_add S x hx ks
    simp only [List.filter_cons]
    by_cases e : k = x
    · subst e; simp [hx] at mono ⊢; lia
    · rcases List.mem_cons.mp hm with q | q
      · exact absurd q.symm e
      · have := ih q
        by_cases z : S k = true
        · simpa [z] using this
        · simp [z, e] at this ⊢; lia
noncomputable def Rises (rk : Int → Nat) (keys : List Int) (succ : Int → List Int) : List Fm → Prop
  | [] => True
  | f :: fs => f.k ∈ keys ∧ f.i ≤ (succ f.k).length ∧ (∀ f' ∈ fs, rk f'.k < rk f.k) ∧ Rises rk keys succ fs
noncomputable def KeysAre (kvs : List (Int × Value)) (fs : List Fm) : Prop := ∀ k, (valueAt kvs k).isSome = true ↔ ∃ f ∈ fs, f.k = k
theorem KeysAre.push {kvs : List (Int × Value)} {fs : List Fm} (h : KeysAre kvs fs) (f : Fm) (v : Value) : KeysAre (stored kvs f.k v) (f :: fs) := by
  intro k
  have := h k
  rw [valueAt_isSome_eq_any] at this ⊢
  unfold stored
  have hf := h f.k
  rw [valueAt_isSome_eq_any] at hf
  split
  · rename_i q
    rw [List.any_map]
    have e : ((fun kv : Int × Value => decide (kv.1 = k)) ∘ fun kv : Int × Value => if kv.1 = f.k then (kv.1, v) else kv) = fun kv => decide (kv.1 = k) := by
      funext kv; simp only [Function.comp]; split <;> rfl
    rw [e, this]
    constructor
    · rintro ⟨f', h1, h2⟩; exact ⟨f', .tail _ h1, h2⟩
    · rintro ⟨f', h1, h2⟩
      rcases List.mem_cons.mp h1 with z | z
      · subst z; subst h2; exact hf.mp q
      · exact ⟨f', z, h2⟩
  · rw [List.any_append, Bool.or_eq_true, this]
    constructor
    · rintro (⟨f', h1, h2⟩ | q)
      · exact ⟨f', .tail _ h1, h2⟩
      · exact ⟨f, .head _, by simpa using q⟩
    · rintro ⟨f', h1, h2⟩
      rcases List.mem_cons.mp h1 with z | z
      · subst z; right; simpa using h2
      · left; exact ⟨f', z, h2⟩
theorem KeysAre.pop {kvs : List (Int × Value)} {fs : List Fm} {f : Fm} (h : KeysAre kvs (f :: fs)) (hf : ∀ f' ∈ fs, f'.k ≠ f.k) : KeysAre (without kvs f.k) fs := by
  intro k
  have := h k
  rw [valueAt_isSome_eq_any] at this ⊢
  unfold without
  rw [List.any_filter]
  by_cases e : k = f.k
  · subst e
    constructor
    · intro q
      obtain ⟨kv, _, q⟩ := List.any_eq_true.mp q
      simp at q
    · rintro ⟨f', h1, h2⟩; exact absurd h2 (hf f' h1)
  · have e1 : (kvs.any fun x => decide (x.1 ≠ f.k) && decide (x.1 = k)) = kvs.any fun kv => decide (kv.1 = k) := by
      congr 1; funext kv
      by_cases z : kv.1 = k
      · simp [z, e]
      · simp [z]
    rw [e1, this]
    constructor
    · rintro ⟨f', h1, h2⟩
      rcases List.mem_cons.mp h1 with z | z
      · subst z; exact absurd h2.symm e
      · exact ⟨f', z, h2⟩
    · rintro ⟨f', h1, h2⟩; exact ⟨f', .tail _ h1, h2⟩
end
section
set_option maxHeartbeats 8000000
local macro_rules | `(tactic| walk_at "eval Name") => `(tactic| first | walk_at "own" | walk_at "evE")
theorem toldT {w : World} {dp un : Nat} {gd : Option (List Code)} {cn : Str} {cs : Scope} {a : Addr} {ccd : Value} {cl : List (Str × Addr)} {outer : List Env} {A₀ : Around} {base h₀ : Heap} {L : Addr} {m mg mb : Str → Option Value} {mean : ExcName → Option Value} {s : Shared} {Q E : Value → Shared → Prop} {n : Int} {tn : Tok} {rest : List (Addr × Obj)}
    (B : Below A₀ base outer h₀) (F : Fr h₀ L s.heap m) (X : (Mine.hd.heap_1 w.params).In h₀) (T : TP mean mg mb h₀) (hk : cs.kind = .function) (hd : dp + 40 < recursionLimit) (hu : un + 300 < cLine)
    (N : News h₀ L s.heap rest)
    (ret : ∀ h' tk' v' t' new, Fr h₀ L h' m → News h₀ L h' (new ++ rest) → (∀ p ∈ new, ∀ q ∈ rest, p.1 ≠ q.1) → (∀ b o, s.heap.get? b = some o → h'.get? b = some o) → HyIn new v' t' → SrtH (toldH n) t' → Q v' { s with heap := h', toks := tk' }) :
    wpAny (model PG w) (ktrTop dp un gd cn cs L a ccd cl outer) (call (.ref 165) [.int n tn]) Q E s := by
  have N0 : News h₀ L s.heap [] := fun p hp => nomatch hp
  refine wpAny_call ?_
  k_dflt (refine' code_defG ?k1 ?k2 ?k3 ?k4 ?k5 ?kA ?kF ?kK ?k6 ?k7 ?k8 ?k9 ?kB ?_ ?c2 ?c3 ?c4 ?c5; (case kA => exact rfl); (case kF => exact rfl); (case kK => assumption); (case k1 => k_asm); (case k2 => k_asm); (case k3 => k_asm); (case k4 => exact N0); (case k5 => k_asm); (case k6 => k_is); (case k7 => k_is); (case k8 => ktr_room); (case k9 => exact BindsTo.of_eq rfl); (case c5 => decide); (case kB => exact locs rfl); (case c2 => exact rfl); (case c3 => exact rfl); (case c4 => exact rfl); k_whole; intro g' L' h' FG' F' N' B' X' T' kG'; (try dsimp only); (try k_fold))
  (repeat' (first | (k_unfold; (try dsimp only)) | (k_end; wrow_close) | ((fail_if_success (with_reducible (refine Mine.stop_here ?_ ?_; first | walk_at "s0" | exact Mine.p20 | exact Mine.p22 | exact Mine.p23 | exact Mine.p14 | exact Mine.p7 | exact Mine.p8 | exact Mine.p9))); walk1) | (dsimp only; (fail_if_success (with_reducible (refine Mine.stop_here ?_ ?_; first | walk_at "s0" | exact Mine.p20 | exact Mine.p22 | exact Mine.p23 | exact Mine.p14 | exact Mine.p7 | exact Mine.p8 | exact Mine.p9))); walk1) | (leave1; walk_say "STEP leave1"; try dsimp only) | walk_at "onk" | fail "no step"))
  refine comp_asg (F₀ := F') (by with_unfolding_all rfl) (by with_unfolding_all rfl) rfl (by decide) ?_
  (repeat' (first | (k_unfold; (try dsimp only)) | (k_end; wrow_close) | ((fail_if_success (with_reducible (refine Mine.stop_here ?_ ?_; first | walk_at "s0" | exact Mine.p20 | exact Mine.p22 | exact Mine.p23 | exact Mine.p14 | exact Mine.p7 | exact Mine.p8 | exact Mine.p9))); walk1) | (dsimp only; (fail_if_success (with_reducible (refine Mine.stop_here ?_ ?_; first | walk_at "s0" | exact Mine.p20 | exact Mine.p22 | exact Mine.p23 | exact Mine.p14 | exact Mine.p7 | exact Mine.p8 | exact Mine.p9))); walk1) | (leave1; walk_say "STEP leave1"; try dsimp only) | walk_at "onk" | fail "no step"))
  walk1
  (try dsimp only)
  rename Fr g' L' _ _ => F2
  rename News g' L' _ _ => N2
  rename IsRange _ _ _ _ _ _ _ _ => hrg
  refine src_range (n := 6) rfl F2 N2 hrg (by decide) (by decide) (by decide) ?_
  intro I h3 src lI
  refine ⟨I, _, _, _, _, rfl, src, ?_⟩
  rintro D C s₃ ⟨h4, rfl⟩ lD hDC
  refine ⟨fun i ys nw => Ex1 fun ad => Cj3 (nw = tabL ad (fun _ => listOf #[] 0) i) (ys = refsT ad (List.range i)) (∀ a b, a < i → b < i → ad a = ad b → a = b), fun _ _ _ _ => trivial, ⟨fun _ => 0, rfl, rfl, fun a b h => absurd h (Nat.not_lt_zero _)⟩, ?_, ?_⟩
  · rintro i v h tk oI oC m₂ ys nw hi6 ⟨tv, rfl⟩ F5 N5 hC5 off5 ⟨n1, n2, n3⟩ ⟨ad, rfl, rfl, inj⟩
    have off6 := off5.mem
    have U5 : ∀ o₁, UpdF C o₁ ((I, oI) :: (C, o₁) :: (D, LCg.lst (refsT ad (List.range i))) :: tabL ad (fun _ => listOf #[] 0) i) (fun o₁ => (I, oI) :: (C, o₁) :: (D, LCg.lst (refsT ad (List.range i))) :: tabL ad (fun _ => listOf #[] 0) i) := fun o₁ =>
      .tail n1 (.head fun p hp => by
        rcases List.mem_cons.mp hp with rfl | hp
        · exact Ne.symm n3
        · exact (off6 p hp).2.1)
    refine asg_own F5 N5 (U5 oC) hC5 rfl rfl ?_
    intro h6 oC6 F6 N6 hC6
    refine wpAny_tests_nil ?_
    (try dsimp only)
    (repeat' (first | (k_unfold; (try dsimp only)) | (k_end; wrow_close) | ((fail_if_success (with_reducible (refine Mine.stop_here ?_ ?_; first | walk_at "s0" | exact Mine.p20 | exact Mine.p22 | exact Mine.p23 | exact Mine.p14 | exact Mine.p7 | exact Mine.p8 | exact Mine.p9))); walk1) | (dsimp only; (fail_if_success (with_reducible (refine Mine.stop_here ?_ ?_; first | walk_at "s0" | exact Mine.p20 | exact Mine.p22 | exact Mine.p23 | exact Mine.p14 | exact Mine.p7 | exact Mine.p8 | exact Mine.p9))); walk1) | (leave1; walk_say "STEP leave1"; try dsimp only) | walk_at "onk" | fail "no step"))
    rename Fr g' L' _ _ => F7
    rename News g' L' _ _ => N7
    rename_i l7 _ ll7
    have k7 : ∀ p ∈ tabL ad (fun _ => listOf #[] 0) i, @LT.lt Nat _ p.1 l7 := allLt_mem ll7.2.2.2
    refine ⟨_, _, oC6, _, tabL (ad1 ad i l7) (fun _ => listOf #[] 0) (i + 1), rfl, F7, fun p hp => N7 p ?_, hC6, ?_, ad1 ad i l7, rfl, (refsT_ad1 ad i l7).symm, fun a b ha hb e => ?_⟩
    · rw [tabL_ad1] at hp
      refine led_go hp ?_
      walk_at "led"
    · rw [tabL_ad1]
      refine LCg.Off3.of fun p hp => ?_
      rcases List.mem_append.mp hp with hp | hp
      · exact off6 p hp
      · rw [List.mem_singleton.mp hp]; exact ⟨Nat.ne_of_gt ll7.1, Nat.ne_of_gt ll7.2.1, Nat.ne_of_gt ll7.2.2.1⟩
    · have far : ∀ j, j < i → ad j ≠ l7 := fun j hj => Nat.ne_of_lt (k7 _ (tabL_mem (ad := ad) (ob := fun _ => listOf #[] 0) hj))
      unfold ad1 at e
      by_cases q1 : a = i <;> by_cases q2 : b = i
      · lia
      · rw [if_pos q1, if_neg q2] at e; exact absurd e.symm (far b (by lia))
      · rw [if_neg q1, if_pos q2] at e; exact absurd e (far a (by lia))
      · rw [if_neg q1, if_neg q2] at e; exact inj a b (by lia) (by lia) e
  · rintro h tk zs oC m₂ nw F5 N5 hC5 off5 hCD ⟨ad, rfl, rfl, inj⟩
    have off6 := off5.mem
    (try dsimp only)
    refine wpAny_mono (Q := fun _ s'' => Held _) ?_ (fun _ _ x => x.out) (fun _ _ e => e)
    (repeat' (first | (k_unfold; (try dsimp only)) | (k_end; wrow_close) | ((fail_if_success (with_reducible (refine Mine.stop_here ?_ ?_; first | walk_at "s0" | exact Mine.p20 | exact Mine.p22 | exact Mine.p23 | exact Mine.p14 | exact Mine.p7 | exact Mine.p8 | exact Mine.p9))); walk1) | (dsimp only; (fail_if_success (with_reducible (refine Mine.stop_here ?_ ?_; first | walk_at "s0" | exact Mine.p20 | exact Mine.p22 | exact Mine.p23 | exact Mine.p14 | exact Mine.p7 | exact Mine.p8 | exact Mine.p9))); walk1) | (leave1; walk_say "STEP leave1"; try dsimp only) | walk_at "onk" | fail "no step"))
    rename Fr g' L' _ _ => F6
    rename News g' L' _ _ => N6
    refine ⟨aend F6 N6 hC5 ?_ ?_⟩
    · intro p hp
      rcases List.mem_cons.mp hp with rfl | hp
      · exact Ne.symm hCD
      · exact (off6 p hp).2.1
    intro h7 F7 N7
    (try dsimp only)
    (repeat' (first | (k_unfold; (try dsimp only)) | (k_end; wrow_close) | ((fail_if_success (with_reducible (refine Mine.stop_here ?_ ?_; first | walk_at "s0" | exact Mine.p20 | exact Mine.p22 | exact Mine.p23 | exact Mine.p14 | exact Mine.p7 | exact Mine.p8 | exact Mine.p9))); walk1) | (dsimp only; (fail_if_success (with_reducible (refine Mine.stop_here ?_ ?_; first | walk_at "s0" | exact Mine.p20 | exact Mine.p22 | exact Mine.p23 | exact Mine.p14 | exact Mine.p7 | exact Mine.p8 | exact Mine.p9))); walk1) | (leave1; walk_say "STEP leave1"; try dsimp only) | walk_at "onk" | fail "no step"))
    refine For_turns (by k_asm) ?_
    (repeat' (first | (k_unfold; (try dsimp only)) | (k_end; wrow_close) | ((fail_if_success (with_reducible (refine Mine.stop_here ?_ ?_; first | walk_at "s0" | exact Mine.p20 | exact Mine.p22 | exact Mine.p23 | exact Mine.p14 | exact Mine.p7 | exact Mine.p8 | exact Mine.p9))); walk1) | (dsimp only; (fail_if_success (with_reducible (refine Mine.stop_here ?_ ?_; first | walk_at "s0" | exact Mine.p20 | exact Mine.p22 | exact Mine.p23 | exact Mine.p14 | exact Mine.p7 | exact Mine.p8 | exact Mine.p9))); walk1) | (leave1; walk_say "STEP leave1"; try dsimp only) | walk_at "onk" | fail "no step"))
    rename Fr g' L' _ _ => F8
    rename News g' L' _ _ => N8
    rename_i LC _ llc
    obtain ⟨cv, hcv, N8⟩ : ∃ cv, IntsAre cv ((List.range 5).map fun k => (cellT n k : Int)) ∧ News g' L' _ ((LC, listOf cv.toArray 0) :: (D, LCg.lst (refsT ad (List.range 6))) :: tabL ad (kidO ad (cellT n) 0 (fun _ => 0)) 6) :=
      ⟨_, by rw [cellT_eq]; exact .cons _ _ (.cons _ _ (.cons _ _ (.cons _ _ (.cons _ _ .nil)))), N8⟩
    have k8 : ∀ p ∈ tabL ad (fun _ => listOf #[] 0) 6, @LT.lt Nat _ p.1 LC := allLt_mem llc.2
    have f1 : ∀ j, j < 6 → ad j ≠ LC := fun j hj => Nat.ne_of_lt (k8 _ (tabL_mem (ad := ad) (ob := fun _ => listOf #[] 0) hj))
    have f2 : ∀ j, j < 6 → ad j ≠ D := fun j hj => (off6 _ (tabL_mem (ad := ad) (ob := fun _ => listOf #[] 0) hj)).2.2
    have f3 : @LT.lt Nat _ D LC := llc.1
    have hcl := hcv.length
    rw [List.length_map, List.length_range] at hcl
    refine turns_enum2 (vs := cv) (nl := 0) (fun i m1 nw => Ex1 fun nn => (nw = (LC, listOf cv.toArray 0) :: (D, LCg.lst (refsT ad (List.range 6))) :: tabL ad (kidO ad (cellT n) i nn) 6) ∧ m1 (Str.ofString "things") = some (.ref D)) rfl F8 N8 ?_ ⟨_, rfl, if_pos rfl⟩ ?step ?done
    · rintro i m nw ⟨nn, rfl, _⟩
      exact .inr (.head _)
    case step =>
      rintro i x T t m₁ nw h₁ tk₁ e oe I oI hx ⟨nn, rfl, hm1⟩ dis hne F3 N3 hT
      have hi : i < 5 := by rw [← hcl]; exact (List.getElem?_eq_some_iff.mp hx).1
      obtain ⟨tx, rfl⟩ : ∃ tx, x = .int (cellT n i : Int) tx := by
        obtain ⟨tx, ex⟩ := hcv.get i (cellT n i : Int) (by rw [List.getElem?_map, List.getElem?_range hi]; rfl)
        rw [hx] at ex; exact ⟨tx, Option.some.inj ex⟩
      have hci := cellT_le n i hi
      have g1 : ∀ j, j < 6 → ad j ≠ e ∧ ad j ≠ I := fun j hj => ⟨Ne.symm (dis _ (.tail _ (.tail _ (tabL_mem hj)))).1, Ne.symm (dis _ (.tail _ (.tail _ (tabL_mem hj)))).2⟩
      have e1 : @Ne Nat e LC := (dis _ (.head _)).1
      have e2 : @Ne Nat e D := (dis _ (.tail _ (.head _))).1
      have e3 : @Ne Nat I LC := (dis _ (.head _)).2
      have e4 : @Ne Nat I D := (dis _ (.tail _ (.head _))).2
      refine unpackN_ F3 N3 hT rfl (by with_unfolding_all rfl) (by with_unfolding_all rfl) ?_
      intro h6 F6 N6
      clear F3 N3 F8 N8
      have N6 : News g' L' h6 ((e, oe) :: (I, oI) :: (LC, listOf cv.toArray 0) :: (D, LCg.lst (refsT ad (List.range 6))) :: tabL ad (kidO ad (cellT n) i nn) 6) := N6
      (try dsimp only)
      (repeat' (first | (k_unfold; (try dsimp only)) | (k_end; wrow_close) | ((fail_if_success (with_reducible (refine Mine.stop_here ?_ ?_; first | walk_at "s0" | exact Mine.p20 | exact Mine.p22 | exact Mine.p23 | exact Mine.p14 | exact Mine.p7 | exact Mine.p8 | exact Mine.p9))); walk1) | (dsimp only; (fail_if_success (with_reducible (refine Mine.stop_here ?_ ?_; first | walk_at "s0" | exact Mine.p20 | exact Mine.p22 | exact Mine.p23 | exact Mine.p14 | exact Mine.p7 | exact Mine.p8 | exact Mine.p9))); walk1) | (leave1; walk_say "STEP leave1"; try dsimp only) | walk_at "onk" | fail "no step"))
      rename Fr g' L' _ _ => F7
      rename News g' L' _ _ => N7
      refine item_listL (l := refsT ad (List.range 6)) (N7.isList (.tail _ (.tail _ (.tail _ (.head _))))) (Int.natCast_nonneg _) (by lia) (by rw [Int.toNat_natCast]; exact refsT_get ad (by lia)) ?_
      obtain ⟨tl, htl⟩ : ∃ tl, tl = tabL ad (kidO ad (cellT n) i nn) 6 := ⟨_, rfl⟩
      have N9 : News g' L' _ ((ad (cellT n i), listOf (refsT ad (kidsI (cellT n) i (cellT n i))).toArray (nn (cellT n i))) :: (e, oe) :: (I, oI) :: (LC, listOf cv.toArray 0) :: (D, LCg.lst (refsT ad (List.range 6))) :: tl) := fun p hp => N7 p (by
        rw [htl] at hp
        rcases List.mem_cons.mp hp with rfl | hp
        · exact .tail _ (.tail _ (.tail _ (.tail _ (tabL_mem (ob := kidO ad (cellT n) i nn) (n := 6) (j := cellT n i) (by lia)))))
        · exact hp)
      clear N7
      obtain ⟨ac, hac⟩ : ∃ ac, ac = ad (cellT n i) := ⟨_, rfl⟩
      rw [← hac] at N9 ⊢
      (try dsimp only)
      (repeat' (first | (k_unfold; (try dsimp only)) | (k_end; wrow_close) | ((fail_if_success (with_reducible (refine Mine.stop_here ?_ ?_; first | walk_at "s0" | exact Mine.p20 | exact Mine.p22 | exact Mine.p23 | exact Mine.p14 | exact Mine.p7 | exact Mine.p8 | exact Mine.p9))); walk1) | (dsimp only; (fail_if_success (with_reducible (refine Mine.stop_here ?_ ?_; first | walk_at "s0" | exact Mine.p20 | exact Mine.p22 | exact Mine.p23 | exact Mine.p14 | exact Mine.p7 | exact Mine.p8 | exact Mine.p9))); walk1) | (leave1; walk_say "STEP leave1"; try dsimp only) | walk_at "onk" | fail "no step"))
      refine PySem.Calls.getMethod_list_append (N9 _ (.head _)).1 rfl rfl ?_
      have N9 : News g' L' _ ((e, oe) :: (I, oI) :: (LC, listOf cv.toArray 0) :: (D, LCg.lst (refsT ad (List.range 6))) :: tl) := fun p hp => N9 p (.tail _ hp)
      (try dsimp only)
      (repeat' (first | (k_unfold; (try dsimp only)) | (k_end; wrow_close) | ((fail_if_success (with_reducible (refine Mine.stop_here ?_ ?_; first | walk_at "s0" | exact Mine.p20 | exact Mine.p22 | exact Mine.p23 | exact Mine.p14 | exact Mine.p7 | exact Mine.p8 | exact Mine.p9))); walk1) | (dsimp only; (fail_if_success (with_reducible (refine Mine.stop_here ?_ ?_; first | walk_at "s0" | exact Mine.p20 | exact Mine.p22 | exact Mine.p23 | exact Mine.p14 | exact Mine.p7 | exact Mine.p8 | exact Mine.p9))); walk1) | (leave1; walk_say "STEP leave1"; try dsimp only) | walk_at "onk" | fail "no step"))
      refine item_listL (l := refsT ad (List.range 6)) (N9.isList (.tail _ (.tail _ (.tail _ (.head _))))) (by lia) (by lia) (by rw [show ((i : Int) + 1).toNat = i + 1 by lia]; exact refsT_get ad (by lia)) ?_
      (try dsimp only)
      (repeat' (first | (k_unfold; (try dsimp only)) | (k_end; wrow_close) | ((fail_if_success (with_reducible (refine Mine.stop_here ?_ ?_; first | walk_at "s0" | exact Mine.p20 | exact Mine.p22 | exact Mine.p23 | exact Mine.p14 | exact Mine.p7 | exact Mine.p8 | exact Mine.p9))); walk1) | (dsimp only; (fail_if_success (with_reducible (refine Mine.stop_here ?_ ?_; first | walk_at "s0" | exact Mine.p20 | exact Mine.p22 | exact Mine.p23 | exact Mine.p14 | exact Mine.p7 | exact Mine.p8 | exact Mine.p9))); walk1) | (leave1; walk_say "STEP leave1"; try dsimp only) | walk_at "onk" | fail "no step"))
      have U := tabL_updF (ad := ad) (ob := kidO ad (cellT n) i nn) (n := 6) (j := cellT n i) (by lia) inj
      have U2 := UpdF.tail (p := (e, oe)) (Ne.symm (g1 (cellT n i) (by lia)).1) (.tail (p := (I, oI)) (Ne.symm (g1 (cellT n i) (by lia)).2) (.tail (p := (LC, listOf cv.toArray 0)) (Ne.symm (f1 (cellT n i) (by lia))) (.tail (p := (D, LCg.lst (refsT ad (List.range 6)))) (Ne.symm (f2 (cellT n i) (by lia))) U)))
      rw [hac]
      rw [htl] at N9
      have hkl := kidsI_len (cellT n) i (cellT n i)
      refine append_K F7 N9 (upd_of_updF _ U2) ?_ ?_
      · intro h18 F18 N18
        rw [kidO_set] at N18
        (try dsimp only)
        (repeat' (first | (k_unfold; (try dsimp only)) | (k_end; wrow_close) | ((fail_if_success (with_reducible (refine Mine.stop_here ?_ ?_; first | walk_at "s0" | exact Mine.p20 | exact Mine.p22 | exact Mine.p23 | exact Mine.p14 | exact Mine.p7 | exact Mine.p8 | exact Mine.p9))); walk1) | (dsimp only; (fail_if_success (with_reducible (refine Mine.stop_here ?_ ?_; first | walk_at "s0" | exact Mine.p20 | exact Mine.p22 | exact Mine.p23 | exact Mine.p14 | exact Mine.p7 | exact Mine.p8 | exact Mine.p9))); walk1) | (leave1; walk_say "STEP leave1"; try dsimp only) | walk_at "onk" | fail "no step"))
        refine ⟨_, _, _, (LC, listOf cv.toArray 0) :: (D, LCg.lst (refsT ad (List.range 6))) :: tabL ad (kidO ad (cellT n) (i + 1) fun j => if j = cellT n i then nn (cellT n i) + 1 else nn j) 6, rfl, F18, N18, fun p hp r hr => ?_, _, rfl, (if_neg (by decide)).trans ((if_neg (by decide)).trans hm1)⟩
        have dI : ∀ r ∈ (LC, listOf cv.toArray 0) :: (D, LCg.lst (refsT ad (List.range 6))) :: tabL ad (kidO ad (cellT n) (i + 1) fun j => if j = cellT n i then nn (cellT n i) + 1 else nn j) 6, e ≠ r.1 ∧ I ≠ r.1 := fun r hr => by
          rcases List.mem_cons.mp hr with rfl | hr
          · exact ⟨e1, e3⟩
          rcases List.mem_cons.mp hr with rfl | hr
          · exact ⟨e2, e4⟩
          obtain ⟨j, hj, rfl⟩ := tabL_of hr
          exact ⟨Ne.symm (g1 j hj).1, Ne.symm (g1 j hj).2⟩
        rcases List.mem_cons.mp hp with rfl | hp
        · exact (dI r hr).1
        · rw [List.mem_singleton.mp hp]; exact (dI r hr).2
      · rw [List.size_toArray]
        unfold refsT
        rw [List.length_map, sizeLine_eq]; lia
    case done =>
      rintro m' nw h3 tk3 ⟨nn, rfl, hm1⟩ F3 N3
      rw [hcl] at N3
      have F3 : Fr g' L' h3 m' := F3
      have N3 : News g' L' h3 ((LC, listOf cv.toArray 0) :: (D, LCg.lst (refsT ad (List.range 6))) :: tabL ad (kidO ad (cellT n) 5 nn) 6) := N3
      (try dsimp only)
      (repeat' (first | (k_unfold; (try dsimp only)) | (k_end; wrow_close) | ((fail_if_success (with_reducible (refine Mine.stop_here ?_ ?_; first | walk_at "s0" | exact Mine.p20 | exact Mine.p22 | exact Mine.p23 | exact Mine.p14 | exact Mine.p7 | exact Mine.p8 | exact Mine.p9))); walk1) | (dsimp only; (fail_if_success (with_reducible (refine Mine.stop_here ?_ ?_; first | walk_at "s0" | exact Mine.p20 | exact Mine.p22 | exact Mine.p23 | exact Mine.p14 | exact Mine.p7 | exact Mine.p8 | exact Mine.p9))); walk1) | (leave1; walk_say "STEP leave1"; try dsimp only) | walk_at "onk" | fail "no step"))
      refine item_listL (l := refsT ad (List.range 6)) (N3.isList (.tail _ (.head _))) (by decide) (by decide) (refsT_get ad (by decide)) ?_
      (try dsimp only)
      (repeat' (first | (k_unfold; (try dsimp only)) | (k_end; wrow_close) | ((fail_if_success (with_reducible (refine Mine.stop_here ?_ ?_; first | walk_at "s0" | exact Mine.p20 | exact Mine.p22 | exact Mine.p23 | exact Mine.p14 | exact Mine.p7 | exact Mine.p8 | exact Mine.p9))); walk1) | (dsimp only; (fail_if_success (with_reducible (refine Mine.stop_here ?_ ?_; first | walk_at "s0" | exact Mine.p20 | exact Mine.p22 | exact Mine.p23 | exact Mine.p14 | exact Mine.p7 | exact Mine.p8 | exact Mine.p9))); walk1) | (leave1; walk_say "STEP leave1"; try dsimp only) | walk_at "onk" | fail "no step"))
      have hy3 := tree_in (ad := ad) (nn := nn) (cellT_le n) 6 0 (by decide) (by decide)
      refine' sortedT 7 (t := toldH n) ?b1 ?b2 ?b3 ?b4 ?b5 ?b6 ?b7 N3 ((hy3.up fun p hp => .tail _ (.tail _ hp)).at N3) (treeN_depth _ _ _) (treeN_slim _ _ _) ?_
      (case b1 => k_asm); (case b2 => k_asm); (case b3 => k_asm); (case b4 => k_asm); (case b5 => first | exact rfl | assumption); (case b6 => ktr_room); (case b7 => ktr_units)
      intro h4 tk4 v4 t4 new F4 N4 dis4 keep4 hv4 hs4
      (try dsimp only)
      (repeat' (first | (k_unfold; (try dsimp only)) | (k_end; wrow_close) | ((fail_if_success (with_reducible (refine Mine.stop_here ?_ ?_; first | walk_at "s0" | exact Mine.p20 | exact Mine.p22 | exact Mine.p23 | exact Mine.p14 | exact Mine.p7 | exact Mine.p8 | exact Mine.p9))); walk1) | (dsimp only; (fail_if_success (with_reducible (refine Mine.stop_here ?_ ?_; first | walk_at "s0" | exact Mine.p20 | exact Mine.p22 | exact Mine.p23 | exact Mine.p14 | exact Mine.p7 | exact Mine.p8 | exact Mine.p9))); walk1) | (leave1; walk_say "STEP leave1"; try dsimp only) | walk_at "onk" | fail "no step"))
      rename Fr h₀ L _ m => FL
      rename News h₀ L _ _ => NL
      obtain ⟨c1, c2, c3⟩ := leave_new N (fun b o e => kG' _ _ e (by simp)) F4 N4 NL (fun p hp => List.mem_append_left _ hp)
      exact ret _ _ v4 t4 new FL c1 c2 c3 hv4 hs4
end
section
set_option maxHeartbeats 8000000
local macro_rules | `(tactic| walk_at "eval Name") => `(tactic| first | walk_at "own" | walk_at "evE")
theorem hydrasT {w : World} {dp un : Nat} {gd : Option (List Code)} {cn : Str} {cs : Scope} {a : Addr} {ccd : Value} {cl : List (Str × Addr)} {outer : List Env} {A₀ : Around} {base h₀ : Heap} {L : Addr} {m mg mb : Str → Option Value} {mean : ExcName → Option Value} {s : Shared} {Q E : Value → Shared → Prop} {ls : Addr} {vs : List Value} {ns : List Int} {rest : List (Addr × Obj)}
    (B : Below A₀ base outer h₀) (F : Fr h₀ L s.heap m) (X : (Mine.hd.heap_1 w.params).In h₀) (T : TP mean mg mb h₀) (hk : cs.kind = .function) (hd : dp + 60 < recursionLimit) (hu : un + 500 < cLine)
    (N : News h₀ L s.heap rest) (hls : s.heap.IsList ls vs.toArray) (hi : IntsAre vs ns) (hlen : ns.length ≤ 63)
    (ret : ∀ h' tk' R rv nr new ts a b c d, Fr h₀ L h' m → News h₀ L h' (new ++ rest) → (∀ p ∈ new, ∀ q ∈ rest, p.1 ≠ q.1) → (R, listOf rv.toArray nr) ∈ new → HysIn new rv ts → Four ts a b c d → Q (.ref R) { s with heap := h', toks := tk' }) :
    wpAny (model PG w) (ktrTop dp un gd cn cs L a ccd cl outer) (call (.ref 184) [.ref ls]) Q E s := by
  have N0 : News h₀ L s.heap [] := fun p hp => nomatch hp
  refine wpAny_call ?_
  k_dflt (refine' code_defG ?k1 ?k2 ?k3 ?k4 ?k5 ?kA ?kF ?kK ?k6 ?k7 ?k8 ?k9 ?kB ?_ ?c2 ?c3 ?c4 ?c5; (case kA => exact rfl); (case kF => exact rfl); (case kK => assumption); (case k1 => k_asm); (case k2 => k_asm); (case k3 => k_asm); (case k4 => exact N0); (case k5 => k_asm); (case k6 => k_is); (case k7 => k_is); (case k8 => ktr_room); (case k9 => exact BindsTo.of_eq rfl); (case c5 => decide); (case kB => exact locs rfl); (case c2 => exact rfl); (case c3 => exact rfl); (case c4 => exact rfl); k_whole; intro g' L' h' FG' F' N' B' X' T' kG'; (try dsimp only); (try k_fold))
  have hls1 : g'.IsList ls vs.toArray := by obtain ⟨o, e, r⟩ := hls; exact ⟨o, kG' _ _ e (by simp), r⟩
  (repeat' (first | (k_unfold; (try dsimp only)) | (k_end; wrow_close) | ((fail_if_success (with_reducible (refine Mine.stop_here ?_ ?_; first | walk_at "s0" | exact Mine.p20))); walk1) | (dsimp only; (fail_if_success (with_reducible (refine Mine.stop_here ?_ ?_; first | walk_at "s0" | exact Mine.p20))); walk1) | (leave1; walk_say "STEP leave1"; try dsimp only) | walk_at "onk" | fail "no step"))
  rename_i cA _ _ _ F1 N1
  refine For_turns F1 ?_
  (repeat' (first | (k_unfold; (try dsimp only)) | (k_end; wrow_close) | ((fail_if_success (with_reducible (refine Mine.stop_here ?_ ?_; first | walk_at "s0" | exact Mine.p20))); walk1) | (dsimp only; (fail_if_success (with_reducible (refine Mine.stop_here ?_ ?_; first | walk_at "s0" | exact Mine.p20))); walk1) | (leave1; walk_say "STEP leave1"; try dsimp only) | walk_at "onk" | fail "no step"))
  rename_i SL sv _ F2 N2 hsv hC60 hL60 l3
  have l5 : (List.take 60 ns).length ≤ 60 := by rw [hC60]; exact Nat.min_le_left _ _
  have lv := hsv.length
  have o3 : @LT.lt Nat _ cA SL := l3
  refine turns_enum2 (vs := sv) (nl := 0) (fun i m₁ nw => (Ex3 fun cv n1 ks => Cj4 (nw = [(SL, listOf sv.toArray 0), (cA, listOf cv.toArray n1)]) (IntsAre cv ks) (ks.length = 4) (m₁ (Str.ofString "cells") = some (.ref cA)))) rfl F2 N2 ?_ ?_ ?_ ?_
  · rintro i m₁ nw ⟨cv, n1, cs, rfl, _⟩
    exact .inr (.head _)
  · exact ⟨_, _, [17, 240, 120, 0], rfl, .cons _ _ (.cons _ _ (.cons _ _ (.cons _ _ .nil))), rfl, if_pos rfl⟩
  · rintro i x T5 t m₁ nw h₁ tk₁ e oe I oI hx ⟨cv, n1, cs, rfl, hcv, hcl, m1⟩ hne heI F3 N3 hT
    have F3 : Fr g' L' h₁ m₁ := F3
    have N3 : News g' L' h₁ ((e, oe) :: (I, oI) :: (SL, listOf sv.toArray 0) :: (cA, listOf cv.toArray n1) :: []) := N3
    have hi60 : i < (List.take 60 ns).length := by
      obtain ⟨q, _⟩ := List.getElem?_eq_some_iff.mp hx
      lia
    obtain ⟨tx, rfl⟩ : ∃ tx, x = .int (List.take 60 ns)[i] tx := by
      obtain ⟨tv, e⟩ := hsv.get i _ (List.getElem?_eq_getElem hi60)
      rw [e] at hx; cases hx; exact ⟨tv, rfl⟩
    obtain ⟨x, hxx⟩ : ∃ x, x = (List.take 60 ns)[i] := ⟨_, rfl⟩
    rw [← hxx] at hT
    have e1 : @Ne Nat e SL := (hne _ (.head _)).1
    have e4 : @Ne Nat e cA := (hne _ (.tail _ (.head _))).1
    have i1 : @Ne Nat I SL := (hne _ (.head _)).2
    have i4 : @Ne Nat I cA := (hne _ (.tail _ (.head _))).2
    (try clear F1); (try clear N1); (try clear F2); (try clear N2)
    refine unpackN_ F3 N3 hT rfl (by with_unfolding_all rfl) (by with_unfolding_all rfl) ?_
    intro h6 F6 N6
    (try clear F3); (try clear N3)
    have mm1 : (fun y => if y = Str.ofString "x" then some (Value.int x tx) else if y = Str.ofString "k" then some (Value.int (i : Nat) t) else m₁ y) (Str.ofString "cells") = some (.ref cA) := (if_neg (by decide)).trans ((if_neg (by decide)).trans m1)
    have hcvl := hcv.length
    have dis : ∀ (co : Obj), ∀ p ∈ [(e, oe), (I, oI)], ∀ q ∈ [(SL, listOf sv.toArray 0), (cA, co)], p.1 ≠ q.1 := fun co p hp q hq => by
      simp only [List.mem_cons, List.not_mem_nil, or_false] at hp hq
      rcases hp with rfl | rfl <;> rcases hq with rfl | rfl <;> assumption
    refine wpAny_assignInOrder_more ?_
    (repeat' (first | (k_unfold; (try dsimp only)) | (k_end; wrow_close) | ((fail_if_success (with_reducible (refine Mine.stop_here ?_ ?_; first | walk_at "s0" | exact Mine.p20))); walk1) | (dsimp only; (fail_if_success (with_reducible (refine Mine.stop_here ?_ ?_; first | walk_at "s0" | exact Mine.p20))); walk1) | (leave1; walk_say "STEP leave1"; try dsimp only) | walk_at "onk" | fail "no step"))
    rename Fr g' L' _ _ => F9
    rename News g' L' _ _ => N9
    exact ⟨_, _, _, _, rfl, F9, N9, dis _, _, _, _, rfl, by assumption, by simp only [List.length_set]; exact hcl, mm1⟩
  · intro m2 nw h9 tk9 ⟨cv, n1, ks, e, hcv, hcl, m1⟩ F9 N9
    subst e
    have F9 : Fr g' L' h9 m2 := F9
    have N9 : News g' L' h9 ((SL, listOf sv.toArray 0) :: (cA, listOf cv.toArray n1) :: []) := N9
    (try clear F1); (try clear N1); (try clear F2); (try clear N2)
    have hcvl := hcv.length
    (repeat' (first | (k_unfold; (try dsimp only)) | (k_end; wrow_close) | ((fail_if_success (with_reducible (refine Mine.stop_here ?_ ?_; first | walk_at "s0" | exact Mine.p20))); walk1) | (dsimp only; (fail_if_success (with_reducible (refine Mine.stop_here ?_ ?_; first | walk_at "s0" | exact Mine.p20))); walk1) | (leave1; walk_say "STEP leave1"; try dsimp only) | walk_at "onk" | fail "no step"))
    refine' toldT (rest := (SL, listOf sv.toArray 0) :: (cA, listOf cv.toArray n1) :: []) ?b1 ?b2 ?b3 ?b4 ?b5 ?b6 ?b7 N9 ?_
    (case b1 => k_asm); (case b2 => k_asm); (case b3 => k_asm); (case b4 => k_asm); (case b5 => first | exact rfl | assumption); (case b6 => ktr_room); (case b7 => ktr_units)
    intro h10 tk10 v0 t0 new0 F10 N10 dis0 keep0 hy0 hs0
    (try dsimp only)
    (try clear F9); (try clear N9)
    obtain ⟨a0, rfl⟩ := hy0.isRef
    have N10 : News g' L' h10 ((SL, listOf sv.toArray 0) :: (cA, listOf cv.toArray n1) :: new0) := fun p hp => N10 p (by
      refine led_go hp ?_
      walk_at "led")
    have g0 := GoodH.told hs0
    (repeat' (first | (k_unfold; (try dsimp only)) | (k_end; wrow_close) | ((fail_if_success (with_reducible (refine Mine.stop_here ?_ ?_; first | walk_at "s0" | exact Mine.p20))); walk1) | (dsimp only; (fail_if_success (with_reducible (refine Mine.stop_here ?_ ?_; first | walk_at "s0" | exact Mine.p20))); walk1) | (leave1; walk_say "STEP leave1"; try dsimp only) | walk_at "onk" | fail "no step"))
    refine For_turns (by k_asm) ?_
    (repeat' (first | (k_unfold; (try dsimp only)) | (k_end; wrow_close) | ((fail_if_success (with_reducible (refine Mine.stop_here ?_ ?_; first | walk_at "s0" | exact Mine.p20))); walk1) | (dsimp only; (fail_if_success (with_reducible (refine Mine.stop_here ?_ ?_; first | walk_at "s0" | exact Mine.p20))); walk1) | (leave1; walk_say "STEP leave1"; try dsimp only) | walk_at "onk" | fail "no step"))
    rename Fr g' L' _ _ => F11
    rename News g' L' _ _ => N11
    rename_i HL _ lHL _ SL2 sv2 _ hsv2 hC2 hL2 lSL
    have lv2 := hsv2.length
    have l2n : (List.take (min 3 ks.length - 1) (List.drop 1 ks)).length = 2 := by rw [hC2, hcl]; rfl
    have x1 : @LT.lt Nat _ SL HL := lHL.1
    have x2 : @LT.lt Nat _ cA HL := lHL.2.1
    refine turns_list (news₀ := (HL, listOf #[Value.ref a0] 0) :: (SL, listOf sv.toArray 0) :: (cA, listOf cv.toArray n1) :: new0) (ax := SL2) (fun i m' nw => Ex4 fun hv nh ts tl => Cj7 (nw = (HL, listOf hv.toArray nh) :: (SL, listOf sv.toArray 0) :: (cA, listOf cv.toArray n1) :: tl) (HysIn tl hv ts) (Line ts) (ts.length = 1 + i) (m' (Str.ofString "hydras") = some (.ref HL)) (m' (Str.ofString "cells") = some (.ref cA)) (∀ p ∈ tl, p.1 ≠ HL ∧ p.1 ≠ SL ∧ p.1 ≠ cA)) rfl F11 N11 ?t2 ?t3 ?t4 ?t5
    case t2 =>
      intro p hp
      rcases List.mem_cons.mp hp with rfl | hp
      · exact Nat.ne_of_lt lSL.1
      rcases List.mem_cons.mp hp with rfl | hp
      · exact Nat.ne_of_lt lSL.2.1
      rcases List.mem_cons.mp hp with rfl | hp
      · exact Nat.ne_of_lt lSL.2.2.1
      · exact Nat.ne_of_lt (allLt_mem lSL.2.2.2 p hp)
    case t3 =>
      exact ⟨[.ref a0], 0, [t0], new0, rfl, .cons hy0 .nil, Line.one g0, rfl, if_pos rfl, (if_neg (by decide)).trans m1, fun p hp => ⟨Nat.ne_of_lt (allLt_mem lHL.2.2 p hp), dis0 p hp _ (.head _), dis0 p hp _ (.tail _ (.head _))⟩⟩
    case t4 =>
      rintro i v m₁ nw h₁ tk₁ own hv ⟨hv1, nh, ts, tl, rfl, hys, hline, htl, q1, q2, hoff⟩ dis F4 N4
      (try clear F11); (try clear N11)
      have hi2 : i < 2 := by
        have := (List.getElem?_eq_some_iff.mp hv).1
        lia
      obtain ⟨c, tv, rfl⟩ : ∃ c tv, v = .int c tv := by
        obtain ⟨tv, e⟩ := hsv2.get i _ (List.getElem?_eq_getElem (by lia))
        rw [e] at hv; exact ⟨_, tv, (Option.some.inj hv).symm⟩
      obtain ⟨hvl, xv, rfl⟩ : ∃ p y, hv1 = p ++ [y] := by
        have hl := hys.length
        have hne : hv1 ≠ [] := List.ne_nil_of_length_pos (by lia)
        exact ⟨_, _, (List.dropLast_concat_getLast hne).symm⟩
      obtain ⟨r, t, rfl⟩ : ∃ r t, ts = r ++ [t] := by
        have hne : ts ≠ [] := List.ne_nil_of_length_pos (by lia)
        exact ⟨_, _, (List.dropLast_concat_getLast hne).symm⟩
      have hrl : r.length = i := by rw [List.length_append, List.length_singleton] at htl; lia
      have hvr : hvl.length = r.length := by have := hys.length; simpa using this
      have hyx : HyIn tl xv t := by
        have := hys.item (i := r.length) (v := xv) (by simp) (by rw [← hvr]; simp)
        simpa using this
      obtain ⟨xa, rfl⟩ := hyx.isRef
      have gt := hline.last
      rw [hrl] at gt
      have dl : ∀ p ∈ own, ∀ q ∈ tl, p.1 ≠ q.1 := fun p hp q hq => dis p hp q (.tail _ (.tail _ (.tail _ hq)))
      have dH : ∀ p ∈ own, p.1 ≠ HL ∧ p.1 ≠ SL ∧ p.1 ≠ cA := fun p hp => ⟨dis p hp _ (.head _), dis p hp _ (.tail _ (.head _)), dis p hp _ (.tail _ (.tail _ (.head _)))⟩
      have N4 : News g' L' h₁ ((HL, listOf (hvl ++ [Value.ref xa]).toArray nh) :: (SL, listOf sv.toArray 0) :: (cA, listOf cv.toArray n1) :: (own ++ tl)) := fun p hp => N4 p (by
        refine led_go hp ?_
        walk_at "led")
      have F4 : Fr g' L' h₁ m₁ := F4
      obtain ⟨tl4, htl4⟩ : ∃ l, l = own ++ tl := ⟨_, rfl⟩
      rw [← htl4] at N4
      have hys4 : HysIn tl4 (hvl ++ [Value.ref xa]) (r ++ [t]) := hys.up fun p hp => htl4 ▸ List.mem_append_right _ hp
      have hyx4 : HyIn tl4 (.ref xa) t := hyx.up fun p hp => htl4 ▸ List.mem_append_right _ hp
      have off4 : ∀ p ∈ tl4, p.1 ≠ HL ∧ p.1 ≠ SL ∧ p.1 ≠ cA := fun p hp => by
        rw [htl4] at hp
        exact (List.mem_append.mp hp).elim (dH p) (hoff p)
      (repeat' (first | (k_unfold; (try dsimp only)) | (k_end; wrow_close) | ((fail_if_success (with_reducible (refine Mine.stop_here ?_ ?_; first | walk_at "s0" | exact Mine.p20 | exact Mine.p14 | exact Mine.p18 | exact Mine.p24 | exact Mine.p7))); walk1) | (dsimp only; (fail_if_success (with_reducible (refine Mine.stop_here ?_ ?_; first | walk_at "s0" | exact Mine.p20 | exact Mine.p14 | exact Mine.p18 | exact Mine.p24 | exact Mine.p7))); walk1) | (leave1; walk_say "STEP leave1"; try dsimp only) | walk_at "onk" | fail "no step"))
      rename Fr g' L' _ _ => F5
      rename News g' L' _ _ => N5
      refine item_last (p := hvl) (y := .ref xa) (N5.isList (.head _)) ?_
      (try dsimp only)
      (repeat' (first | (k_unfold; (try dsimp only)) | (k_end; wrow_close) | ((fail_if_success (with_reducible (refine Mine.stop_here ?_ ?_; first | walk_at "s0" | exact Mine.p20 | exact Mine.p14 | exact Mine.p18 | exact Mine.p24 | exact Mine.p7))); walk1) | (dsimp only; (fail_if_success (with_reducible (refine Mine.stop_here ?_ ?_; first | walk_at "s0" | exact Mine.p20 | exact Mine.p14 | exact Mine.p18 | exact Mine.p24 | exact Mine.p7))); walk1) | (leave1; walk_say "STEP leave1"; try dsimp only) | walk_at "onk" | fail "no step"))
      refine' headsT 7 (t := t) ?b1 ?b2 ?b3 ?b4 ?b5 ?b6 ?b7 N5 ((hyx4.up fun p hp => .tail _ (.tail _ (.tail _ hp))).at N5) gt.depth (by decide) (gt.sl (by lia)) (gt.cnt (by lia)) ?_
      (case b1 => k_asm); (case b2 => k_asm); (case b3 => k_asm); (case b4 => k_asm); (case b5 => first | exact rfl | assumption); (case b6 => ktr_room); (case b7 => ktr_units)
      intro h6 tk6 RW rw6 nr6 new6 F6 N6 dis6 keep6 hRW hws
      obtain ⟨tl6, htl6⟩ : ∃ l, l = new6 ++ tl4 := ⟨_, rfl⟩
      have N6 : News g' L' h6 ((HL, listOf (hvl ++ [Value.ref xa]).toArray nh) :: (SL, listOf sv.toArray 0) :: (cA, listOf cv.toArray n1) :: tl6) := fun p hp => N6 p (by
        rw [htl6] at hp
        refine led_go hp ?_
        walk_at "led")
      have hRW6 : (RW, listOf rw6.toArray nr6) ∈ tl6 := by rw [htl6]; exact List.mem_append_left _ hRW
      have hsub : ∀ p ∈ tl4, p ∈ tl6 := fun p hp => by rw [htl6]; exact List.mem_append_right _ hp
      have off6 : ∀ p ∈ tl6, p.1 ≠ HL ∧ p.1 ≠ SL ∧ p.1 ≠ cA := fun p hp => by
        rw [htl6] at hp
        rcases List.mem_append.mp hp with hp | hp
        · exact ⟨dis6 p hp _ (.head _), dis6 p hp _ (.tail _ (.head _)), dis6 p hp _ (.tail _ (.tail _ (.head _)))⟩
        · exact off4 p hp
      have hwsl := hws.length
      have hwc := headsH_cnt t
      have hcp := gt.some (by lia)
      have hc9 := gt.cnt (by lia)
      (try clear N5); (try clear F5); (try clear N4); (try clear F4)
      (try dsimp only)
      (repeat' (first | (k_unfold; (try dsimp only)) | (k_end; wrow_close) | ((fail_if_success (with_reducible (refine Mine.stop_here ?_ ?_; first | walk_at "s0" | exact Mine.p20 | exact Mine.p14 | exact Mine.p18 | exact Mine.p24 | exact Mine.p7))); walk1) | (dsimp only; (fail_if_success (with_reducible (refine Mine.stop_here ?_ ?_; first | walk_at "s0" | exact Mine.p20 | exact Mine.p14 | exact Mine.p18 | exact Mine.p24 | exact Mine.p7))); walk1) | (leave1; walk_say "STEP leave1"; try dsimp only) | walk_at "onk" | fail "no step"))
      rename Fr g' L' _ _ => F7
      rename News g' L' _ _ => N7
      refine item_last (p := hvl) (y := .ref xa) (N7.isList (.head _)) ?_
      (try dsimp only)
      (repeat' (first | (k_unfold; (try dsimp only)) | (k_end; wrow_close) | ((fail_if_success (with_reducible (refine Mine.stop_here ?_ ?_; first | walk_at "s0" | exact Mine.p20 | exact Mine.p14 | exact Mine.p18 | exact Mine.p24 | exact Mine.p7))); walk1) | (dsimp only; (fail_if_success (with_reducible (refine Mine.stop_here ?_ ?_; first | walk_at "s0" | exact Mine.p20 | exact Mine.p14 | exact Mine.p18 | exact Mine.p24 | exact Mine.p7))); walk1) | (leave1; walk_say "STEP leave1"; try dsimp only) | walk_at "onk" | fail "no step"))
      refine len_is (vs := rw6) (n := cntH t) (N7.isList (.tail _ (.tail _ (.tail _ hRW6)))) (by lia) hc9 ?_
      have hcz : ¬ ((cntH t : Nat) : Int) = 0 := by lia
      (try dsimp only)
      (repeat' (first | (k_unfold; (try dsimp only)) | (k_end; wrow_close) | ((fail_if_success (with_reducible (refine Mine.stop_here ?_ ?_; first | walk_at "s0" | exact Mine.p20 | exact Mine.p14 | exact Mine.p18 | exact Mine.p24 | exact Mine.p7))); walk1) | (dsimp only; (fail_if_success (with_reducible (refine Mine.stop_here ?_ ?_; first | walk_at "s0" | exact Mine.p20 | exact Mine.p14 | exact Mine.p18 | exact Mine.p24 | exact Mine.p7))); walk1) | (leave1; walk_say "STEP leave1"; try dsimp only) | walk_at "onk" | fail "no step"))
      have hf := fmod_in c (cntH t : Int) (by lia)
      have hj : (c.fmod (cntH t : Int)).toNat < (headsH t).length := by lia
      obtain ⟨wa, xs, wn, hwa, hwm, hwi⟩ := hws.get _ hj
      have hwin : (headsH t)[(c.fmod (cntH t : Int)).toNat] ∈ headsH t := List.getElem_mem hj
      refine item_listL (l := rw6) (N7.isList (.tail _ (.tail _ (.tail _ hRW6)))) hf.1 (by lia) hwa ?_
      generalize (headsH t)[(c.fmod (cntH t : Int)).toNat] = way at hwi hwin
      obtain ⟨way1, hway⟩ := headsH_goes t way hwin
      have hwlen := headsH_len t way hwin
      have hwm6 : (wa, listOf xs.toArray wn) ∈ tl6 := by rw [htl6]; exact List.mem_append_left _ hwm
      obtain ⟨k0, w1, rfl⟩ : ∃ k0 w1, way = k0 :: w1 := by
        cases way with
        | nil => exact absurd rfl way1
        | cons k0 w1 => exact ⟨k0, w1, rfl⟩
      clear way1 hwa hj hf
      (try dsimp only)
      (repeat' (first | (k_unfold; (try dsimp only)) | (k_end; wrow_close) | ((fail_if_success (with_reducible (refine Mine.stop_here ?_ ?_; first | walk_at "s0" | exact Mine.p20 | exact Mine.p14 | exact Mine.p18 | exact Mine.p24 | exact Mine.p7))); walk1) | (dsimp only; (fail_if_success (with_reducible (refine Mine.stop_here ?_ ?_; first | walk_at "s0" | exact Mine.p20 | exact Mine.p14 | exact Mine.p18 | exact Mine.p24 | exact Mine.p7))); walk1) | (leave1; walk_say "STEP leave1"; try dsimp only) | walk_at "onk" | fail "no step"))
      obtain ⟨mt, hmt, m1', m3'⟩ : ∃ mt : Nat, 1 + (c.fdiv 120).fmod 3 = (mt : Int) ∧ 1 ≤ mt ∧ mt ≤ 3 := by
        have := fmod_in (c.fdiv 120) 3 (by decide)
        exact ⟨(1 + (c.fdiv 120).fmod 3).toNat, by lia, by lia, by lia⟩
      rw [hmt]
      have gd := gt.depth
      have N7 : News g' L' _ ((HL, listOf (hvl ++ [Value.ref xa]).toArray nh) :: (SL, listOf sv.toArray 0) :: (cA, listOf cv.toArray n1) :: tl6) := N7
      refine' cutT 8 (G0 := inL tl6) (k0 := k0) (way := w1) (t := t) (mt := mt) ?b1 ?b2 ?b3 ?b4 ?b5 ?b6 ?b7 N7 (fun a o e => (N7 _ (.tail _ (.tail _ (.tail _ e)))).1) (hyx4.up hsub) (N7 _ (.tail _ (.tail _ (.tail _ hwm6)))).1 hwi (by rw [List.length_cons] at hwlen; lia) (by decide) hway (gt.sl (by lia)) m3' ?_
      (case b1 => k_asm); (case b2 => k_asm); (case b3 => k_asm); (case b4 => k_asm); (case b5 => first | exact rfl | assumption); (case b6 => ktr_room); (case b7 => ktr_units)
      intro h8 tk8 v8 new8 F8 N8 dis8 keep8 hy8
      (try dsimp only)
      (repeat' (first | (k_unfold; (try dsimp only)) | (k_end; wrow_close) | ((fail_if_success (with_reducible (refine Mine.stop_here ?_ ?_; first | walk_at "s0" | exact Mine.p20 | exact Mine.p14 | exact Mine.p18 | exact Mine.p24 | exact Mine.p7))); walk1) | (dsimp only; (fail_if_success (with_reducible (refine Mine.stop_here ?_ ?_; first | walk_at "s0" | exact Mine.p20 | exact Mine.p14 | exact Mine.p18 | exact Mine.p24 | exact Mine.p7))); walk1) | (leave1; walk_say "STEP leave1"; try dsimp only) | walk_at "onk" | fail "no step"))
      obtain ⟨cb1, cb2, cb3⟩ := cut_bounds (k0 :: w1) mt _ t m1' m3' hway gt.slim
      obtain ⟨x8, rfl⟩ := hy8.isRef
      have hy8' : HyAt h8 (.ref x8) (cutW (k0 :: w1) mt t) := hy8.keeps fun a vs n e => by
        rcases e with e | e
        · exact (N8 _ (List.mem_append_left _ e)).1
        · exact (N8 _ (List.mem_append_right _ (.tail _ (.tail _ (.tail _ e))))).1
      refine' sortedT 7 (t := cutW (k0 :: w1) mt t) ?b1 ?b2 ?b3 ?b4 ?b5 ?b6 ?b7 N8 hy8' (Nat.le_trans cb2 gd) (slimK_slim (by lia) cb1) ?_
      (case b1 => k_asm); (case b2 => k_asm); (case b3 => k_asm); (case b4 => k_asm); (case b5 => first | exact rfl | assumption); (case b6 => ktr_room); (case b7 => ktr_units)
      intro h9 tk9 v9 t9 new9 F9 N9 dis9 keep9 hy9 hs9
      obtain ⟨g9, l9⟩ := gt.cut m1' m3' hwin hs9
      (try clear N8); (try clear F8); (try clear N7); (try clear F7)
      obtain ⟨x9, rfl⟩ := hy9.isRef
      have N9 : News g' L' h9 ((HL, listOf (hvl ++ [Value.ref xa]).toArray nh) :: (SL, listOf sv.toArray 0) :: (cA, listOf cv.toArray n1) :: (own ++ (new9 ++ (new8 ++ (new6 ++ tl))))) := fun p hp => N9 p (by
        rw [htl6, htl4]
        refine led_go hp ?_
        walk_at "led")
      (try dsimp only)
      (repeat' (first | (k_unfold; (try dsimp only)) | (k_end; wrow_close) | ((fail_if_success (with_reducible (refine Mine.stop_here ?_ ?_; first | walk_at "s0" | exact Mine.p20 | exact Mine.p14 | exact Mine.p18 | exact Mine.p24 | exact Mine.p7))); walk1) | (dsimp only; (fail_if_success (with_reducible (refine Mine.stop_here ?_ ?_; first | walk_at "s0" | exact Mine.p20 | exact Mine.p14 | exact Mine.p18 | exact Mine.p24 | exact Mine.p7))); walk1) | (leave1; walk_say "STEP leave1"; try dsimp only) | walk_at "onk" | fail "no step"))
      obtain ⟨tln, htln⟩ : ∃ l, l = new9 ++ (new8 ++ (new6 ++ tl)) := ⟨_, rfl⟩
      rw [← htln] at N9
      have inT6 : ∀ {q : Addr × Obj}, q ∈ tl6 → q ∈ (HL, listOf (hvl ++ [Value.ref xa]).toArray nh) :: (SL, listOf sv.toArray 0) :: (cA, listOf cv.toArray n1) :: tl6 := fun h => .tail _ (.tail _ (.tail _ h))
      have o4 : ∀ p ∈ own, p ∈ tl6 := fun p hp => hsub p (htl4 ▸ List.mem_append_left _ hp)
      have offn : ∀ p ∈ tln, p.1 ≠ HL ∧ p.1 ≠ SL ∧ p.1 ≠ cA := fun p hp => by
        rw [htln] at hp
        rcases List.mem_append.mp hp with hp | hp
        · exact ⟨dis9 p hp _ (List.mem_append_right _ (.head _)), dis9 p hp _ (List.mem_append_right _ (.tail _ (.head _))), dis9 p hp _ (List.mem_append_right _ (.tail _ (.tail _ (.head _))))⟩
        rcases List.mem_append.mp hp with hp | hp
        · exact ⟨dis8 p hp _ (.head _), dis8 p hp _ (.tail _ (.head _)), dis8 p hp _ (.tail _ (.tail _ (.head _)))⟩
        refine off6 p ?_
        rw [htl6, htl4]
        rcases List.mem_append.mp hp with hp | hp
        · exact List.mem_append_left _ hp
        · exact List.mem_append_right _ (List.mem_append_right _ hp)
      have ownN : ∀ p ∈ own, ∀ q ∈ tln, p.1 ≠ q.1 := fun p hp q hq => by
        rw [htln] at hq
        rcases List.mem_append.mp hq with hq | hq
        · exact Ne.symm (dis9 q hq p (List.mem_append_right _ (inT6 (o4 p hp))))
        rcases List.mem_append.mp hq with hq | hq
        · exact Ne.symm (dis8 q hq p (inT6 (o4 p hp)))
        rcases List.mem_append.mp hq with hq | hq
        · exact Ne.symm (dis6 q hq p (.tail _ (.tail _ (.tail _ (htl4 ▸ List.mem_append_left _ hp)))))
        · exact dl p hp q hq
      have kHL : ∀ p ∈ (SL, listOf sv.toArray 0) :: (cA, listOf cv.toArray n1) :: (own ++ tln), p.1 ≠ HL := fun p hp => by
        rcases List.mem_cons.mp hp with rfl | hp
        · exact Nat.ne_of_lt x1
        rcases List.mem_cons.mp hp with rfl | hp
        · exact Nat.ne_of_lt x2
        rcases List.mem_append.mp hp with hp | hp
        · exact (dH p hp).1
        · exact (offn p hp).1
      refine append_K F9 N9 (.head kHL) ?_ ?_
      · intro h10 F10 N10
        rw [List.push_toArray] at N10
        (try dsimp only)
        (repeat' (first | (k_unfold; (try dsimp only)) | (k_end; wrow_close) | ((fail_if_success (with_reducible (refine Mine.stop_here ?_ ?_; first | walk_at "s0" | exact Mine.p20 | exact Mine.p14 | exact Mine.p18 | exact Mine.p24 | exact Mine.p7))); walk1) | (dsimp only; (fail_if_success (with_reducible (refine Mine.stop_here ?_ ?_; first | walk_at "s0" | exact Mine.p20 | exact Mine.p14 | exact Mine.p18 | exact Mine.p24 | exact Mine.p7))); walk1) | (leave1; walk_say "STEP leave1"; try dsimp only) | walk_at "onk" | fail "no step"))
        refine ⟨_, _, _, (HL, listOf ((hvl ++ [Value.ref xa]) ++ [Value.ref x9]).toArray (nh + 1)) :: (SL, listOf sv.toArray 0) :: (cA, listOf cv.toArray n1) :: tln, rfl, F10, fun p hp => N10 p ?_, fun p hp q hq => ?_, (hvl ++ [Value.ref xa]) ++ [Value.ref x9], nh + 1, (r ++ [t]) ++ [t9], tln, rfl, ?_, hline.snoc (by rw [hrl]; exact g9) l9, ?_, (if_neg (by decide)).trans ((if_neg (by decide)).trans q1), (if_neg (by decide)).trans ((if_neg (by decide)).trans q2), offn⟩
        · refine led_go hp ?_
          walk_at "led"
        · rcases List.mem_cons.mp hq with rfl | hq
          · exact (dH p hp).1
          rcases List.mem_cons.mp hq with rfl | hq
          · exact (dH p hp).2.1
          rcases List.mem_cons.mp hq with rfl | hq
          · exact (dH p hp).2.2
          · exact ownN p hp q hq
        · rw [htln]
          exact (hys.up fun p hp => List.mem_append_right _ (List.mem_append_right _ (List.mem_append_right _ hp))).append (.cons (hy9.up fun p hp => List.mem_append_left _ hp) .nil)
        · rw [List.length_append, List.length_append, hrl]; simp only [List.length_singleton]; lia
      · rw [List.size_toArray, List.length_append, List.length_singleton, sizeLine_eq]; lia
    case t5 =>
      rintro m' nw h3 tk3 ⟨hv, nh, ts, tl, rfl, hys, hline, htl, q1, q2, hoff⟩ F3 N3 hx3
      rw [lv2, l2n] at htl
      (try clear F11); (try clear N11)
      have F3 : Fr g' L' h3 m' := F3
      have N3 : News g' L' h3 ((HL, listOf hv.toArray nh) :: (SL, listOf sv.toArray 0) :: (cA, listOf cv.toArray n1) :: tl) := fun p hp => N3 p (.tail _ hp)
      have hvl := hys.length
      (try dsimp only)
      (repeat' (first | (k_unfold; (try dsimp only)) | (k_end; wrow_close) | ((fail_if_success (with_reducible (refine Mine.stop_here ?_ ?_; first | walk_at "s0" | exact Mine.p20))); walk1) | (dsimp only; (fail_if_success (with_reducible (refine Mine.stop_here ?_ ?_; first | walk_at "s0" | exact Mine.p20))); walk1) | (leave1; walk_say "STEP leave1"; try dsimp only) | walk_at "onk" | fail "no step"))
      rename Fr g' L' _ _ => F4
      rename News g' L' _ _ => N4
      refine' toldT ?b1 ?b2 ?b3 ?b4 ?b5 ?b6 ?b7 N4 ?_
      (case b1 => k_asm); (case b2 => k_asm); (case b3 => k_asm); (case b4 => k_asm); (case b5 => first | exact rfl | assumption); (case b6 => ktr_room); (case b7 => ktr_units)
      intro h10 tk10 v5 t5 new5 F10 N10 dis5 keep5 hy5 hs5
      obtain ⟨x5, rfl⟩ := hy5.isRef
      have N10 : News g' L' h10 ((HL, listOf hv.toArray nh) :: (SL, listOf sv.toArray 0) :: (cA, listOf cv.toArray n1) :: (new5 ++ tl)) := fun p hp => N10 p (by
        refine led_go hp ?_
        walk_at "led")
      (try clear F4); (try clear N4); (try clear F3); (try clear N3)
      (try dsimp only)
      (repeat' (first | (k_unfold; (try dsimp only)) | (k_end; wrow_close) | ((fail_if_success (with_reducible (refine Mine.stop_here ?_ ?_; first | walk_at "s0" | exact Mine.p20 | exact Mine.p14 | exact Mine.p18 | exact Mine.p24 | exact Mine.p7))); walk1) | (dsimp only; (fail_if_success (with_reducible (refine Mine.stop_here ?_ ?_; first | walk_at "s0" | exact Mine.p20 | exact Mine.p14 | exact Mine.p18 | exact Mine.p24 | exact Mine.p7))); walk1) | (leave1; walk_say "STEP leave1"; try dsimp only) | walk_at "onk" | fail "no step"))
      rename Fr g' L' _ _ => F12
      rename News g' L' _ _ => N12
      refine add_lists (vs := hv) (ws := [.ref x5]) F12 N12 (N12.isList (.tail _ (.head _))) (N12.isList (.head _)) ?_ (by rw [List.length_singleton, sizeLine_eq]; lia)
      intro h13 F13 N13
      (try walk_at "onk")
      (try walk_at "onk")
      (try dsimp only)
      (try dsimp only [qk])
      obtain ⟨a, b, c, hf⟩ := hline.four (d := t5) htl (GoodH.told hs5)
      refine leaveK_ F13 (news' := _) N13 fun FL NL => ?_
      obtain ⟨c1, c2, c3⟩ := leave_new (new := (_, listOf (hv ++ [Value.ref x5]).toArray 0) :: (new5 ++ tl)) N (fun b o e => kG' _ _ e (by simp)) F13 N13 NL (fun p hp => by
        rcases List.mem_cons.mp hp with rfl | hp
        · exact .head _
        · exact .tail _ (.tail _ (.tail _ (.tail _ (.tail _ hp)))))
      exact ret _ _ _ _ 0 _ _ a b c t5 FL c1 c2 (.head _) ((hys.up fun p hp => .tail _ (List.mem_append_right _ hp)).append (.cons (hy5.up fun p hp => .tail _ (List.mem_append_left _ hp)) .nil)) hf
end
section
set_option maxHeartbeats 8000000
local macro_rules | `(tactic| walk_at "none") => `(tactic| skip)
local macro_rules | `(tactic| walk_at "eval Name") => `(tactic| walk_at "evL")
structure FS (w : World) (keys : List Int) (sA : Int → Addr) (succ : Int → List Int) (rk : Int → Nat) (L' d st its se ns : Addr) (od : Obj) (tl : List (Addr × Obj)) (g2 h' : Heap) (m' : Str → Option Value) (fs : List Fm) (S : Int → Bool) : Prop where
  fr : Fr g2 L' h' m'
  m1 : m' (Str.ofString "n2i") = some (.ref d)
  m2 : m' (Str.ofString "stack") = some (.ref st)
  m3 : m' (Str.ofString "itstack") = some (.ref its)
  m4 : m' (Str.ofString "seen") = some (.ref se)
  m5 : m' (Str.ofString "node2stacki") = some (.ref ns)
  rises : Rises rk keys succ fs
  seen : ∀ f ∈ fs, S f.k = true
  nodup : (ns :: se :: its :: st :: d :: (bn sA fs ++ tl).map (·.1)).Nodup
  led : (Ex7 fun vs n1 n2 no so c kvs => Cj7 (News g2 L' h' ((ns, no) :: (se, so) :: (its, listOf (fs.reverse.map fun f => Value.ref f.b).toArray n2) :: (st, listOf vs.toArray n1) :: (d, od) :: (bn sA fs ++ tl))) (IntsAre vs (fs.reverse.map (·.k))) (no.IsDictOf (intKind PG w) kvs) (KeysAre kvs fs) ((kvs.length ≤ c ∧ fs.length ≤ c)) (so.SetObjOf (intKind PG w) S c) (c + (keys.filter (fun k => !S k)).length ≤ 900))
theorem find_cycle {w : World} {dp un : Nat} {gd : Option (List Code)} {cn : Str} {cs : Scope} {a : Addr} {ccd : Value} {cl : List (Str × Addr)} {outer : List Env} {A₀ : Around} {base h₀ : Heap} {L : Addr} {m mg mb : Str → Option Value} {mean : ExcName → Option Value} {s : Shared} {Q E : Value → Shared → Prop} {x dx d : Addr} {od : Obj} {t1 t2 t3 t4 : Tok} {rd po nf : Value} {rest : List (Addr × Obj)} {srt : List (Addr × Obj)} {nA dA sA : Int → Addr} {keys : List Int} {np : Int → Int} {succ : Int → List Int} {rk : Int → Nat}
    (B : Below A₀ base outer h₀) (F : Fr h₀ L s.heap m) (X : (Mine.hd.heap_1 w.params).In h₀) (T : TP mean mg mb h₀) (hk : cs.kind = .function) (hd : dp + 6 < recursionLimit) (hu : un + 48 < cLine) (XB : (Mine.hd.heap_1 w.params).In base) (TB : TP mean mg mb base) (D : KtsDicts (outer.filterMap (·.frame)) h₀)
    (N : News h₀ L s.heap ((x, instObj 151 dx) :: (dx, dictOf (sEs w (.ref d) rd po nf t1 t2 t3 t4) 4) :: (d, od) :: (rest ++ srt))) (hdm : (d == sysModules) = false)
    (hD : od.IsDictOf (intKind PG w) (kvsOf keys nA)) (Nd : Nodes nA dA sA keys np succ srt) (P : Apart x dx d rest srt)
    (hs : ∀ k ∈ keys, ∀ j ∈ succ k, j ∈ keys ∧ rk k < rk j) (hlen : ∀ k ∈ keys, (succ k).length ≤ 900) (hkl : keys.length ≤ 900)
    (ret : ∀ h₀' h' tk', KtsTurn (outer.filterMap (·.frame)) h₀ h₀' → Fr h₀' L h' m → Below A₀ base outer h₀' → (Mine.hd.heap_1 w.params).In h₀' → TP mean mg mb h₀' → KtsDicts (outer.filterMap (·.frame)) h₀' →
      News h₀' L h' ((x, instObj 151 dx) :: (dx, dictOf (sEs w (.ref d) rd po nf t1 t2 t3 t4) 4) :: (d, od) :: (rest ++ srt)) → Q .none { s with heap := h', toks := tk' }) :
    wpAny (model PG w) (ktrTop dp un gd cn cs L a ccd cl outer) (call (.ref 141) [.ref x]) Q E s := by
  have N0 : News h₀ L s.heap [(x, instObj 151 dx), (dx, dictOf (sEs w (.ref d) rd po nf t1 t2 t3 t4) 4), (d, od)] := fun p hp => N p (by simp only [List.mem_cons, List.not_mem_nil, or_false] at hp ⊢; rcases hp with h | h | h <;> simp [h])
  refine wpAny_call ?_
  k_dflt (refine' code_defT ?k1 ?k2 ?k3 ?k4 ?k5 ?kXB ?kTB ?kD ?kA ?kF ?kK ?k6 ?k7 ?k8 ?k9 ?kB ?_ ?c2 ?c3 ?c4 ?c5; (case kA => exact rfl); (case kF => exact rfl); (case kK => assumption); (case k1 => k_asm); (case k2 => k_asm); (case k3 => k_asm); (case k4 => exact N0); (case k5 => k_asm); (case kXB => assumption); (case kTB => assumption); (case kD => assumption); (case k6 => k_is); (case k7 => k_is); (case k8 => ktr_room); (case k9 => exact BindsTo.of_eq rfl); (case c5 => decide); (case kB => exact locs rfl); (case c2 => exact rfl); (case c3 => exact rfl); (case c4 => exact rfl); k_whole; intro g' L' h' FG' F' N' B' X' T' D' kG'; (try dsimp only); (try k_fold))
  (repeat' (first | (k_unfold; (try dsimp only)) | (k_end; wrow_close) | ((fail_if_success (with_reducible (refine Mine.stop_here ?_ ?_; walk_at "s0"))); walk1) | (dsimp only; (fail_if_success (with_reducible (refine Mine.stop_here ?_ ?_; walk_at "s0"))); walk1) | (leave1; walk_say "STEP leave1"; try dsimp only) | walk_at "onk" | fail "no step"))
  walk1
  (repeat' (first | (k_unfold; (try dsimp only)) | (k_end; wrow_close) | ((fail_if_success (with_reducible (refine Mine.stop_here ?_ ?_; walk_at "s0"))); walk1) | (dsimp only; (fail_if_success (with_reducible (refine Mine.stop_here ?_ ?_; walk_at "s0"))); walk1) | (leave1; walk_say "STEP leave1"; try dsimp only) | walk_at "onk" | fail "no step"))
  rename News g' L' _ _ => N1
  rename Fr g' L' _ _ => F1
  rename_i st _ l1 _ _ its _ l2 _ _ se _ led hse _ l3 _ _ ns _ no hns _ _ hnd _ l4 _
  refine for_st ?_
  (repeat' (first | (k_unfold; (try dsimp only)) | (k_end; wrow_close) | ((fail_if_success (with_reducible (refine Mine.stop_here ?_ ?_; walk_at "s0"))); walk1) | (dsimp only; (fail_if_success (with_reducible (refine Mine.stop_here ?_ ?_; walk_at "s0"))); walk1) | (leave1; walk_say "STEP leave1"; try dsimp only) | walk_at "onk" | fail "no step"))
  refine pyIter_keys F1 N1 (.tail _ (.tail _ (.tail _ (.tail _ (.tail _ (.tail _ (.head _))))))) hD hdm ?_
  intro I h2 oI ep F2 N2 hI hoI hep
  have hId : d ≠ I := Nat.ne_of_lt (hI _ (.tail _ (.tail _ (.tail _ (.tail _ (.tail _ (.tail _ (.head _))))))))
  let TU := Turned w mean mg mb (ktrTop dp un gd cn cs L a ccd cl outer) base (envX cn cs L a ccd cl :: outer) g'
  let FSx := fun oI => FS w keys sA succ rk L' d st its se ns od [(I, oI), (x, instObj 151 dx), (dx, dictOf (sEs w (.ref d) rd po nf t1 t2 t3 t4) 4)]
  refine ⟨I, [I, d], [I], _, _, _, fun i s' => (Ex6 fun g2 h' tk' m' oI S => Cj4 (s' = { s with heap := h', toks := tk' }) (TU g2) (KdkIter oI d i (kvsOf keys nA).length ep) (FSx oI g2 h' m' [] S)), rfl, Walks.dictKeys (knd := intKind PG w) rfl I d hId (kvsOf keys nA) ep, ?_, ?_, ?_, ?_, ?_⟩
  · exact fun i v s Q E st q => letGo_keyiter st.1 q
  · rintro i s' ⟨g2, h', tk', m', oI, S, rfl, TUR, hk3, FS3⟩
    obtain ⟨vs, n1, n2, no, so, c, kvs, N3, _⟩ := FS3.led
    exact ⟨hk3.at (N3 (I, oI) (.tail _ (.tail _ (.tail _ (.tail _ (.tail _ (.head _))))))).1, hep.dictAt (N3 (d, od) (.tail _ (.tail _ (.tail _ (.tail _ (.head _)))))).1⟩
  · refine ⟨g', _, _, _, oI, fun _ => false, rfl, ⟨KtsTurn.refl, B', X', T', D'⟩, hoI, ⟨F2, ?_, ?_, ?_, ?_, ?_, trivial, fun f hf => absurd hf List.not_mem_nil, ?_, [], 0, 0, no, _, 0, [], fun p hp => N2 p ?_, .nil, hnd, ?_, ⟨Nat.le_refl _, Nat.le_refl _⟩, hse, ?_⟩⟩
    · rfl
    · rfl
    · rfl
    · rfl
    · rfl
    · have i1 := hI _ (.head _)
      have i2 := hI _ (.tail _ (.head _))
      have i3 := hI _ (.tail _ (.tail _ (.head _)))
      have i4 := hI _ (.tail _ (.tail _ (.tail _ (.head _))))
      have i5 := hI _ (.tail _ (.tail _ (.tail _ (.tail _ (.head _)))))
      have i6 := hI _ (.tail _ (.tail _ (.tail _ (.tail _ (.tail _ (.head _))))))
      have i7 := hI _ (.tail _ (.tail _ (.tail _ (.tail _ (.tail _ (.tail _ (.head _)))))))
      have p1 := P.xdx
      have p2 := P.xd
      have p3 := P.dxd
      dsimp only at i1 i2 i3 i4 i5 i6 i7
      simp only [bn, List.nil_append, List.map_cons, List.map_nil, List.nodup_cons, List.mem_cons, List.not_mem_nil, not_or, or_false, not_false_eq_true, List.nodup_nil, and_true]
      refine ⟨⟨?_, ?_, ?_, ?_, ?_, ?_, ?_⟩, ⟨?_, ?_, ?_, ?_, ?_, ?_⟩, ⟨?_, ?_, ?_, ?_, ?_⟩, ⟨?_, ?_, ?_, ?_⟩, ⟨?_, ?_, ?_⟩, ⟨?_, ?_⟩, ?_⟩ <;> (first | exact p1 | exact p2.symm | exact p3.symm | exact (Nat.ne_of_lt (by lia)) | exact (Nat.ne_of_gt (by lia)))
    · simp only [bn, List.nil_append, List.mem_cons, List.not_mem_nil, or_false] at hp ⊢
      rcases hp with h | h | h | h | h | h | h | h <;> simp [h]
    · intro k; simp [valueAt]
    · exact Nat.le_trans (Nat.le_of_eq (Nat.zero_add _)) (Nat.le_trans (List.length_filter_le _ _) hkl)
  · rintro i s' v h4 tk4 hi ⟨g2, h', tk', m', oI, S, rfl, TUR, hk3, FS3⟩ ⟨k, xv, hkx, hkv⟩ ⟨⟨oI4, hI4, hI4c⟩, _⟩ keep
    obtain ⟨t, rfl⟩ := Value.isInt_shape hkv
    have hkk : k ∈ keys := by
      rw [List.getElem?_map] at hkx
      cases q : keys[i]? with
      | none => rw [q] at hkx; cases hkx
      | some k' => rw [q] at hkx; cases hkx; exact List.mem_of_getElem? q
    obtain ⟨F3, m1, m2, m3, m4, m5, _, _, nd, vs, n1, n2, no, so, c, kvs, N3, hvs, hno, hkv3, hkc, hso, hc9⟩ := FS3
    have hn : ∀ p ∈ [(ns, no), (se, so), (its, listOf (([] : List Fm).reverse.map fun f => Value.ref f.b).toArray n2), (st, listOf vs.toArray n1), (d, od), (x, instObj 151 dx), (dx, dictOf (sEs w (.ref d) rd po nf t1 t2 t3 t4) 4)], p.1 ≠ I := by
      have nd' := nd
      simp only [bn, List.nil_append, List.map_cons, List.map_nil, List.nodup_cons, List.mem_cons, List.not_mem_nil, not_or, or_false] at nd'
      obtain ⟨⟨a1, a2, a3, a4, a5, a6, a7⟩, ⟨b2, b3, b4, b5, b6, b7⟩, ⟨c3, c4, c5, c6, c7⟩, ⟨e4, e5, e6, e7⟩, ⟨f5, f6, f7⟩, ⟨i6, i7⟩, _⟩ := nd'
      intro p hp
      simp only [List.mem_cons, List.not_mem_nil, or_false] at hp
      rcases hp with rfl | rfl | rfl | rfl | rfl | rfl | rfl <;> first | exact a5 | exact b5 | exact c5 | exact e5 | exact f5 | exact fun q => i6 q.symm | exact fun q => i7 q.symm
    have hIN := N3 (I, oI) (.tail _ (.tail _ (.tail _ (.tail _ (.tail _ (.head _))))))
    have F4 : Fr g2 L' h4 m' := ⟨F3.ns.at' fun o e => keep _ o (by simpa using fun q => hIN.2.1 q.symm) e, fun b o e => keep b o (by simp only [List.mem_singleton]; rintro rfl; have := hIN.2.2; rw [e] at this; cases this) (F3.keep b o e), F3.above⟩
    have N4 : News g2 L' h4 [(ns, no), (se, so), (its, listOf #[] n2), (st, listOf vs.toArray n1), (d, od), (I, oI4), (x, instObj 151 dx), (dx, dictOf (sEs w (.ref d) rd po nf t1 t2 t3 t4) 4)] := by
      intro p hp
      by_cases e : p = (I, oI4)
      · subst e; exact ⟨hI4, hIN.2⟩
      · have hp3 : p ∈ [(ns, no), (se, so), (its, listOf (([] : List Fm).reverse.map fun f => Value.ref f.b).toArray n2), (st, listOf vs.toArray n1), (d, od), (x, instObj 151 dx), (dx, dictOf (sEs w (.ref d) rd po nf t1 t2 t3 t4) 4)] := by
          simp only [List.mem_cons, List.not_mem_nil, or_false, e, false_or] at hp ⊢
          exact hp
        have z := N3 p (by
          simp only [bn, List.nil_append, List.mem_cons, List.not_mem_nil, or_false] at hp3 ⊢
          rcases hp3 with h | h | h | h | h | h | h <;> simp [h])
        exact ⟨keep _ _ (by simpa using hn p hp3) z.1, z.2⟩
    clear N3 F3 keep hI hIN hn
    have hR0 : ∀ p ∈ srt, g'.get? p.1 = some p.2 := fun p hp => kG' _ _ (N p (.tail _ (.tail _ (.tail _ (List.mem_append_right _ hp))))).1 (by have := P.tl p (List.mem_append_right _ hp); simp only [List.map_cons, List.map_nil, List.mem_cons, List.not_mem_nil, or_false, not_or]; exact this)
    have hfr : ∀ p ∈ srt, p.1 ∉ (envX cn cs L a ccd cl :: outer).filterMap (·.frame) := fun p hp q => by
        have z := N p (.tail _ (.tail _ (.tail _ (List.mem_append_right _ hp))))
        rcases kts_memX (L := L) rfl q with e | e
        · exact z.2.1 e
        · obtain ⟨o, ho, _⟩ := (B.frames.mem e).2
          rw [z.2.2] at ho; cases ho
    have hR : ∀ g2, TU g2 → ∀ p ∈ srt, g2.get? p.1 = some p.2 := fun g2 tu p hp => tu.keep (hR0 p hp) (hfr p hp)
    have TUR' := TUR
    obtain ⟨KT2, B2, X2, T2, D2⟩ := TUR
    have nd' := nd
    simp only [bn, List.nil_append, List.map_cons, List.map_nil, List.nodup_cons, List.mem_cons, List.not_mem_nil, not_or, or_false] at nd'
    obtain ⟨⟨a1, a2, a3, a4, a5, a6, a7⟩, ⟨b2, b3, b4, b5, b6, b7⟩, ⟨c3, c4, c5, c6, c7⟩, ⟨e4, e5, e6, e7⟩, _⟩ := nd'
    (repeat' (first | (k_unfold; (try dsimp only)) | (k_end; wrow_close) | ((fail_if_success (with_reducible (refine Mine.stop_here ?_ ?_; walk_at "s0"))); walk1) | (dsimp only; (fail_if_success (with_reducible (refine Mine.stop_here ?_ ?_; walk_at "s0"))); walk1) | (leave1; walk_say "STEP leave1"; try dsimp only) | walk_at "onk" | fail "no step"))
    · rename Fr g2 L' _ _ => F5
      refine ⟨g2, _, _, _, oI4, S, rfl, TUR', hI4c, ⟨F5, (if_neg (by decide)).trans m1, (if_neg (by decide)).trans m2, (if_neg (by decide)).trans m3, (if_neg (by decide)).trans m4, (if_neg (by decide)).trans m5, trivial, fun f hf => absurd hf List.not_mem_nil, nd, vs, n1, n2, no, so, c, kvs, by assumption, hvs, hno, hkv3, hkc, by assumption, hc9⟩⟩
    · refine while_inv (fun n s' => (Ex8 fun g2 h' tk' m' fs S k t => Cj8 (s' = { s with heap := h', toks := tk' }) (TU g2) (FSx oI4 g2 h' m' fs S) (m' (Str.ofString "node") = some (.int k t)) (k ∈ keys) ((S k = false ∨ fs ≠ [])) ((∀ f ∈ fs, rk f.k < rk k)) (unseen succ S keys + onStack succ fs ≤ n))) (by passes_own) ?_ (unseen succ S keys) ?_
      · clear nd hno hkv3 hkc hc9 KT2 B2 X2 T2 D2 TUR' hvs a1 a2 a3 a4 a5 a6 a7 b2 b3 b4 b5 b6 b7 c3 c4 c5 c6 c7 e4 e5 e6 e7
        rename Fr g2 L' _ _ => F5
        rename News g2 L' _ _ => N5
        rename Obj.SetObjOf _ so S c => hso5
        clear F5 N5 hso5 m1 m2 m3 m4 m5 hk3
        rintro n s' ⟨g2, h', tk', m', fs, S, k, t, rfl, TUR, FS6, m6, hkk, hor, hrk, hn⟩
        obtain ⟨F3, m1, m2, m3, m4, m5, ris, sn, nd, vs, n1, n2, no, so, c, kvs, N3, hvs, hno, hkv3, hkc, hso, hc9⟩ := FS6
        have TUR' := TUR
        obtain ⟨KT2, B2, X2, T2, D2⟩ := TUR
        obtain ⟨R, hRe⟩ : ∃ R, R = bn sA fs ++ [(I, oI4), (x, instObj 151 dx), (dx, dictOf (sEs w (.ref d) rd po nf t1 t2 t3 t4) 4)] := ⟨_, rfl⟩
        rw [← hRe] at N3 nd
        have nd' := nd
        simp only [List.nodup_cons, List.mem_cons, not_or] at nd'
        obtain ⟨⟨a1, a2, a3, a4, a5⟩, ⟨b2, b3, b4, b5⟩, ⟨c3, c4, c5⟩, ⟨e4, e5⟩, f5, _⟩ := nd'
        have r1 : ∀ p ∈ R, p.1 ≠ ns := fun p hp e => a5 (e ▸ List.mem_map_of_mem hp)
        have r2 : ∀ p ∈ R, p.1 ≠ se := fun p hp e => b5 (e ▸ List.mem_map_of_mem hp)
        have r3 : ∀ p ∈ R, p.1 ≠ its := fun p hp e => c5 (e ▸ List.mem_map_of_mem hp)
        have r4 : ∀ p ∈ R, p.1 ≠ st := fun p hp e => e5 (e ▸ List.mem_map_of_mem hp)
        (repeat' (first | (k_unfold; (try dsimp only)) | (k_end; wrow_close) | ((fail_if_success (with_reducible (refine Mine.stop_here ?_ ?_; first | walk_at "s0" | exact Mine.p11))); walk1) | (dsimp only; (fail_if_success (with_reducible (refine Mine.stop_here ?_ ?_; first | walk_at "s0" | exact Mine.p11))); walk1) | (leave1; walk_say "STEP leave1"; try dsimp only) | walk_at "onk" | fail "no step"))
        refine wpAny_mono (Q := fun f s' => Held (f = .next ∧ (Ex6 fun g2 h' tk' m' fs S => Cj4 (s' = { s with heap := h', toks := tk' }) (TU g2) (FSx oI4 g2 h' m' fs S) (unseen succ S keys + onStack succ fs ≤ n)))) (E := ek) ?_ ?_ (fun _ _ e => e)
        · (repeat' (first | (k_unfold; (try dsimp only)) | (k_end; wrow_close) | ((fail_if_success (with_reducible (refine Mine.stop_here ?_ ?_; walk_at "s0"))); walk1) | (dsimp only; (fail_if_success (with_reducible (refine Mine.stop_here ?_ ?_; walk_at "s0"))); walk1) | (leave1; walk_say "STEP leave1"; try dsimp only) | walk_at "onk" | fail "no step"))
          · refine' kda_in (knd := intKind PG w) (kvs := kvs) (k := k) N3 (.head _) hno hns ?b1 false ?b2 ?_
            (case b1 => simp [intKind, Value.isInt])
            (case b2 =>
              have := hkv3 k
              cases q : (valueAt kvs k).isSome with
              | false => rfl
              | true => obtain ⟨f, hf, e⟩ := this.mp q; have := hrk f hf; rw [e] at this; lia)
            (repeat' (first | (k_unfold; (try dsimp only)) | (k_end; wrow_close) | ((fail_if_success (with_reducible (refine Mine.stop_here ?_ ?_; first | walk_at "s0" | exact Mine.p12 | exact Mine.p13 | exact Mine.p14 | exact Mine.p15 | exact Mine.p16 | exact Mine.p17 | exact Mine.p18 | exact Mine.p19))); walk1) | (dsimp only; (fail_if_success (with_reducible (refine Mine.stop_here ?_ ?_; first | walk_at "s0" | exact Mine.p12 | exact Mine.p13 | exact Mine.p14 | exact Mine.p15 | exact Mine.p16 | exact Mine.p17 | exact Mine.p18 | exact Mine.p19))); walk1) | (leave1; walk_say "STEP leave1"; try dsimp only) | walk_at "onk" | fail "no step"))
            exact ⟨⟨rfl, g2, _, _, m', fs, S, rfl, TUR', ⟨F3, m1, m2, m3, m4, m5, ris, sn, hRe ▸ nd, vs, n1, n2, no, so, c, kvs, hRe ▸ N3, hvs, hno, hkv3, hkc, hso, hc9⟩, hn⟩⟩
          · --[[
            rename Fr g2 L' _ _ => F5
            rename News g2 L' _ _ => N5
            rename Obj.SetObjOf _ _ _ _ => hso5
            rename_i hSk _ h5 so5
            have hhp : ∀ p ∈ srt, h5.get? p.1 = some p.2 := fun p hp => F5.keep _ _ (hR g2 TUR' p hp)
            refine' kda_item (kvs := kvsOf keys nA) (k := k) (knd := intKind PG w) N5 (.tail _ (.tail _ (.tail _ (.tail _ (.head _))))) hD ?b3 (kvs_some hkk) ?_
            (case b3 => simp [intKind, Value.isInt])
            refine succ_getH F5 X2 hhp Nd hkk ?_
            (repeat' (first | (k_unfold; (try dsimp only)) | (k_end; wrow_close) | ((fail_if_success (with_reducible (refine Mine.stop_here ?_ ?_; first | walk_at "s0" | exact Mine.p12 | exact Mine.p13 | exact Mine.p14 | exact Mine.p15 | exact Mine.p16 | exact Mine.p17 | exact Mine.p18 | exact Mine.p19))); walk1) | (dsimp only; (fail_if_success (with_reducible (refine Mine.stop_here ?_ ?_; first | walk_at "s0" | exact Mine.p12 | exact Mine.p13 | exact Mine.p14 | exact Mine.p15 | exact Mine.p16 | exact Mine.p17 | exact Mine.p18 | exact Mine.p19))); walk1) | (leave1; walk_say "STEP leave1"; try dsimp only) | walk_at "onk" | fail "no step"))
            obtain ⟨sv, ne, hsv, hsm⟩ := Nd.list k hkk
            refine iter_list F5 N5 ⟨_, hhp _ hsm, rfl, _, rfl⟩ ?_
            intro it h6 F6 N6 l6
            refine next_attr F6 N6 (.head _) ?_
            intro b h7 F7 N7 l7
            (try dsimp only)
            have N8 : News g2 L' h7 ((ns, no) :: (se, so5) :: (its, listOf (fs.reverse.map fun f => Value.ref f.b).toArray n2) :: (st, listOf vs.toArray n1) :: (d, od) :: (b, mwO it) :: (it, liO (sA k) 0) :: R) := fun p hp => N7 p (by
              simp only [List.mem_cons] at hp ⊢
              rcases hp with h | h | h | h | h | h | h | h <;> simp [h])
            have y1 : ∀ p ∈ (b, mwO it) :: (it, liO (sA k) 0) :: R, p.1 ≠ ns := by
              intro p hp
              rcases List.mem_cons.mp hp with h | hp
              · subst h; exact Nat.ne_of_gt (l7 _ (.tail _ (.head _)))
              rcases List.mem_cons.mp hp with h | hp
              · subst h; exact Nat.ne_of_gt (l6 _ (.head _))
              · exact r1 p hp
            have y2 : ∀ p ∈ (b, mwO it) :: (it, liO (sA k) 0) :: R, p.1 ≠ se := by
              intro p hp
              rcases List.mem_cons.mp hp with h | hp
              · subst h; exact Nat.ne_of_gt (l7 _ (.tail _ (.tail _ (.head _))))
              rcases List.mem_cons.mp hp with h | hp
              · subst h; exact Nat.ne_of_gt (l6 _ (.tail _ (.head _)))
              · exact r2 p hp
            have y3 : ∀ p ∈ (b, mwO it) :: (it, liO (sA k) 0) :: R, p.1 ≠ its := by
              intro p hp
              rcases List.mem_cons.mp hp with h | hp
              · subst h; exact Nat.ne_of_gt (l7 _ (.tail _ (.tail _ (.tail _ (.head _)))))
              rcases List.mem_cons.mp hp with h | hp
              · subst h; exact Nat.ne_of_gt (l6 _ (.tail _ (.tail _ (.head _))))
              · exact r3 p hp
            have y4 : ∀ p ∈ (b, mwO it) :: (it, liO (sA k) 0) :: R, p.1 ≠ st := by
              intro p hp
              rcases List.mem_cons.mp hp with h | hp
              · subst h; exact Nat.ne_of_gt (l7 _ (.tail _ (.tail _ (.tail _ (.tail _ (.head _))))))
              rcases List.mem_cons.mp hp with h | hp
              · subst h; exact Nat.ne_of_gt (l6 _ (.tail _ (.tail _ (.tail _ (.head _)))))
              · exact r4 p hp
            have nd8 : (ns :: se :: its :: st :: d :: ((b, mwO it) :: (it, liO (sA k) 0) :: R).map (·.1)).Nodup := by
              have z1 : ∀ p ∈ R, p.1 < it := fun p hp => l6 p (.tail _ (.tail _ (.tail _ (.tail _ (.tail _ hp)))))
              have z2 : ∀ p ∈ R, p.1 < b := fun p hp => l7 p (.tail _ (.tail _ (.tail _ (.tail _ (.tail _ (.tail _ hp))))))
              have z3 : it < b := l7 _ (.head _)
              have z4 : d < it := l6 (d, od) (.tail _ (.tail _ (.tail _ (.tail _ (.head _)))))
              rename (R.map (·.1)).Nodup => ndR
              have q : ∀ (v : Addr) (r : List (Addr × Obj)), (∀ p ∈ r, p.1 ≠ v) → v ∉ r.map (·.1) := fun v r h e => by
                obtain ⟨p, hp, e⟩ := List.mem_map.mp e
                exact h p hp e
              have ndb : (((b, mwO it) :: (it, liO (sA k) 0) :: R).map (·.1)).Nodup := by
                rw [List.map_cons, List.nodup_cons, List.map_cons, List.nodup_cons]
                refine ⟨?_, q _ _ fun p hp => Nat.ne_of_lt (z1 p hp), ndR⟩
                intro e
                rcases List.mem_cons.mp e with e | e
                · exact absurd e (Nat.ne_of_gt z3)
                · exact q _ _ (fun p hp => Nat.ne_of_lt (z2 p hp)) e
              refine List.nodup_cons.mpr ⟨?_, List.nodup_cons.mpr ⟨?_, List.nodup_cons.mpr ⟨?_, List.nodup_cons.mpr ⟨?_, List.nodup_cons.mpr ⟨?_, ndb⟩⟩⟩⟩⟩
              · simp only [List.mem_cons, not_or]; exact ⟨a1, a2, a3, a4, by have := q _ _ y1; simpa [List.map_cons, List.mem_cons, not_or] using this⟩
              · simp only [List.mem_cons, not_or]; exact ⟨b2, b3, b4, by have := q _ _ y2; simpa [List.map_cons, List.mem_cons, not_or] using this⟩
              · simp only [List.mem_cons, not_or]; exact ⟨c3, c4, by have := q _ _ y3; simpa [List.map_cons, List.mem_cons, not_or] using this⟩
              · simp only [List.mem_cons, not_or]; exact ⟨e4, by have := q _ _ y4; simpa [List.map_cons, List.mem_cons, not_or] using this⟩
              · refine q _ _ fun p hp => ?_
                rcases List.mem_cons.mp hp with h | hp
                · subst h; exact Nat.ne_of_gt (Nat.lt_trans z4 z3)
                rcases List.mem_cons.mp hp with h | hp
                · subst h; exact Nat.ne_of_gt z4
                · intro e; exact f5 (e ▸ List.mem_map_of_mem hp)
            generalize hR8 : (b, mwO it) :: (it, liO (sA k) 0) :: R = R8 at N8 y1 y2 y3 y4 nd8
            clear N7 N6 F6 F5 N5 N3 F3 l6 l7
            have hfl : (fs.reverse.map fun f => Value.ref f.b).length ≤ 900 := by simp; lia
            have hvl : vs.length ≤ 900 := by have := hvs.length; simp at this; lia
            (repeat' (first | (k_unfold; (try dsimp only)) | (k_end; wrow_close) | ((fail_if_success (with_reducible (refine Mine.stop_here ?_ ?_; first | walk_at "s0" | exact Mine.p12 | exact Mine.p13 | exact Mine.p14 | exact Mine.p15 | exact Mine.p16 | exact Mine.p17 | exact Mine.p18 | exact Mine.p19))); walk1) | (dsimp only; (fail_if_success (with_reducible (refine Mine.stop_here ?_ ?_; first | walk_at "s0" | exact Mine.p12 | exact Mine.p13 | exact Mine.p14 | exact Mine.p15 | exact Mine.p16 | exact Mine.p17 | exact Mine.p18 | exact Mine.p19))); walk1) | (leave1; walk_say "STEP leave1"; try dsimp only) | walk_at "onk" | fail "no step"))
            rename Fr g2 L' _ _ => F9
            rename News g2 L' _ _ => N9
            refine kun_lenL (items := vs.toArray) (N9.isList (.tail _ (.tail _ (.tail _ (.head _))))) rfl (by simp; lia) ?_
            (repeat' (first | (k_unfold; (try dsimp only)) | (k_end; wrow_close) | ((fail_if_success (with_reducible (refine Mine.stop_here ?_ ?_; first | walk_at "s0" | exact Mine.p12 | exact Mine.p13 | exact Mine.p14 | exact Mine.p15 | exact Mine.p16 | exact Mine.p17 | exact Mine.p18 | exact Mine.p19))); walk1) | (dsimp only; (fail_if_success (with_reducible (refine Mine.stop_here ?_ ?_; first | walk_at "s0" | exact Mine.p12 | exact Mine.p13 | exact Mine.p14 | exact Mine.p15 | exact Mine.p16 | exact Mine.p17 | exact Mine.p18 | exact Mine.p19))); walk1) | (leave1; walk_say "STEP leave1"; try dsimp only) | walk_at "onk" | fail "no step"))
            refine' kda_set (knd := intKind PG w) (kvs := kvs) (k := k) F9 N9 ?b1 hno ?b2 ?b3 ?_
            (case b1 => k_updF)
            (case b2 => simp [intKind, Value.isInt])
            (case b3 => rw [sizeLine_eq]; lia)
            intro h10 no10 F10 N10 hno10
            (try dsimp only at N10)
            clear F9 N9
            (repeat' (first | (k_unfold; (try dsimp only)) | (k_end; wrow_close) | ((fail_if_success (with_reducible (refine Mine.stop_here ?_ ?_; first | walk_at "s0" | exact Mine.p12 | exact Mine.p13 | exact Mine.p14 | exact Mine.p15 | exact Mine.p16 | exact Mine.p17 | exact Mine.p18 | exact Mine.p19))); walk1) | (dsimp only; (fail_if_success (with_reducible (refine Mine.stop_here ?_ ?_; first | walk_at "s0" | exact Mine.p12 | exact Mine.p13 | exact Mine.p14 | exact Mine.p15 | exact Mine.p16 | exact Mine.p17 | exact Mine.p18 | exact Mine.p19))); walk1) | (leave1; walk_say "STEP leave1"; try dsimp only) | walk_at "onk" | fail "no step"))
            rename Fr g2 L' _ _ => F11
            rename News g2 L' _ _ => N11
            have hc10 : (if S k = true then c else c + 1) = c + 1 := if_neg (by simp [hSk])
            rw [hc10] at hso5
            have hcnt := count_add S k hSk keys hkk
            have huns := unseen_add succ S k hSk keys hkk
            refine ⟨⟨rfl, g2, _, _, m', ⟨k, b, it, 0⟩ :: fs, (fun k' => S k' || decide (k' = k)), rfl, TUR', FS.mk F11 m1 m2 m3 m4 m5 ⟨hkk, Nat.zero_le _, hrk, ris⟩ ?_ ?_ ⟨vs ++ [.int k t], n1 + 1, n2 + 1, no10, so5, c + 1, stored kvs k _, fun p hp => N11 p ?_, ?_, hno10, hkv3.push ⟨k, b, it, 0⟩ _, ⟨Nat.le_trans (stored_length_le _ _ _) (by lia), by simp; lia⟩, hso5, by lia⟩, ?_⟩⟩
            · intro f hf
              rcases List.mem_cons.mp hf with h | h
              · subst h; simp
              · simp [sn f h]
            · rw [show bn sA (⟨k, b, it, 0⟩ :: fs) ++ _ = R8 from by rw [← hR8, hRe]; rfl]; exact nd8
            · rw [show bn sA (⟨k, b, it, 0⟩ :: fs) ++ _ = R8 from by rw [← hR8, hRe]; rfl] at hp
              simpa using hp
            · simpa using hvs.append (.cons k t .nil)
            · simp only [onStack, List.map_cons, List.sum_cons] at hn ⊢
              lia
            --]]
        · rintro f s' ⟨rfl, g2, h', tk', m', fs, S, rfl, TUR, FS7, hn7⟩
          clear nd N3 hRe a1 a2 a3 a4 a5 b2 b3 b4 b5 c3 c4 c5 e4 e5 f5 r1 r2 r3 r4 hno hkv3 hkc hso hc9 hvs sn ris F3 m1 m2 m3 m4 m5 m6 TUR' KT2 B2 X2 T2 D2 hor hrk hn hkk
          (try dsimp only)
          (repeat' (first | (k_unfold; (try dsimp only)) | (k_end; wrow_close) | ((fail_if_success (with_reducible (refine Mine.stop_here ?_ ?_; first | walk_at "s0" | exact Mine.p12 | exact Mine.p13 | exact Mine.p14 | exact Mine.p15 | exact Mine.p16 | exact Mine.p17 | exact Mine.p18 | exact Mine.p19))); walk1) | (dsimp only; (fail_if_success (with_reducible (refine Mine.stop_here ?_ ?_; first | walk_at "s0" | exact Mine.p12 | exact Mine.p13 | exact Mine.p14 | exact Mine.p15 | exact Mine.p16 | exact Mine.p17 | exact Mine.p18 | exact Mine.p19))); walk1) | (leave1; walk_say "STEP leave1"; try dsimp only) | walk_at "onk" | fail "no step"))
          refine while_inv (fun m s' => (Ex6 fun g2 h' tk' m' fs S => Cj5 (s' = { s with heap := h', toks := tk' }) (TU g2) (FSx oI4 g2 h' m' fs S) (unseen succ S keys + onStack succ fs ≤ n) (fs.length = m))) (by passes_own) ?_ fs.length ⟨g2, h', tk', m', fs, S, rfl, TUR, FS7, hn7, rfl⟩
          rintro m s' ⟨g2, h', tk', m', fs, S, rfl, TUR, FS8, hn8, hm8⟩
          obtain ⟨F3, m1, m2, m3, m4, m5, ris, sn, nd, vs, n1, n2, no, so, c, kvs, N3, hvs, hno, hkv3, hkc, hso, hc9⟩ := FS8
          have TUR' := TUR
          obtain ⟨KT2, B2, X2, T2, D2⟩ := TUR
          cases fs with
          | nil =>
            (repeat' (first | (k_unfold; (try dsimp only)) | (k_end; wrow_close) | ((fail_if_success (with_reducible (refine Mine.stop_here ?_ ?_; first | walk_at "s0" | exact Mine.p12 | exact Mine.p13 | exact Mine.p14 | exact Mine.p15 | exact Mine.p16 | exact Mine.p17 | exact Mine.p18 | exact Mine.p19))); walk1) | (dsimp only; (fail_if_success (with_reducible (refine Mine.stop_here ?_ ?_; first | walk_at "s0" | exact Mine.p12 | exact Mine.p13 | exact Mine.p14 | exact Mine.p15 | exact Mine.p16 | exact Mine.p17 | exact Mine.p18 | exact Mine.p19))); walk1) | (leave1; walk_say "STEP leave1"; try dsimp only) | walk_at "onk" | fail "no step"))
            rename Fr g2 L' _ _ => F9
            rename News g2 L' _ _ => N9
            refine truthy_ints_fit (vs := vs) (N9.isList (.tail _ (.tail _ (.tail _ (.head _))))) hvs (by decide) ?_
            refine WhlIf.no rfl ?_
            (try dsimp only)
            (repeat' (first | (k_unfold; (try dsimp only)) | (k_end; wrow_close) | ((fail_if_success (with_reducible (refine Mine.stop_here ?_ ?_; first | walk_at "s0" | exact Mine.p12 | exact Mine.p13 | exact Mine.p14 | exact Mine.p15 | exact Mine.p16 | exact Mine.p17 | exact Mine.p18 | exact Mine.p19))); walk1) | (dsimp only; (fail_if_success (with_reducible (refine Mine.stop_here ?_ ?_; first | walk_at "s0" | exact Mine.p12 | exact Mine.p13 | exact Mine.p14 | exact Mine.p15 | exact Mine.p16 | exact Mine.p17 | exact Mine.p18 | exact Mine.p19))); walk1) | (leave1; walk_say "STEP leave1"; try dsimp only) | walk_at "onk" | fail "no step"))
            dsimp only [WEnd]
            (repeat' (first | (k_unfold; (try dsimp only)) | (k_end; wrow_close) | ((fail_if_success (with_reducible (refine Mine.stop_here ?_ ?_; first | walk_at "s0" | exact Mine.p12 | exact Mine.p13 | exact Mine.p14 | exact Mine.p15 | exact Mine.p16 | exact Mine.p17 | exact Mine.p18 | exact Mine.p19))); walk1) | (dsimp only; (fail_if_success (with_reducible (refine Mine.stop_here ?_ ?_; first | walk_at "s0" | exact Mine.p12 | exact Mine.p13 | exact Mine.p14 | exact Mine.p15 | exact Mine.p16 | exact Mine.p17 | exact Mine.p18 | exact Mine.p19))); walk1) | (leave1; walk_say "STEP leave1"; try dsimp only) | walk_at "onk" | fail "no step"))
            exact ⟨g2, _, _, m', oI4, S, rfl, TUR', hI4c, FS.mk F9 m1 m2 m3 m4 m5 ris sn nd ⟨vs, n1, n2, no, so, c, kvs, N9, hvs, hno, hkv3, hkc, hso, hc9⟩⟩
          | cons f fs =>
            obtain ⟨R, hRe⟩ : ∃ R, R = bn sA fs ++ [(I, oI4), (x, instObj 151 dx), (dx, dictOf (sEs w (.ref d) rd po nf t1 t2 t3 t4) 4)] := ⟨_, rfl⟩
            have hRb : bn sA (f :: fs) ++ [(I, oI4), (x, instObj 151 dx), (dx, dictOf (sEs w (.ref d) rd po nf t1 t2 t3 t4) 4)] = (f.b, mwO f.it) :: (f.it, liO (sA f.k) f.i) :: R := by rw [hRe]; rfl
            have hits : ((f :: fs).reverse.map fun f => Value.ref f.b) = (fs.reverse.map fun f => Value.ref f.b) ++ [Value.ref f.b] := by simp
            have hstk : ((f :: fs).reverse.map fun f => f.k) = (fs.reverse.map fun f => f.k) ++ [f.k] := by simp
            rw [hRb, hits] at N3
            rw [hRb] at nd
            rw [hstk] at hvs
            have nd' := nd
            simp only [List.map_cons, List.nodup_cons, List.mem_cons, not_or] at nd'
            obtain ⟨⟨a1, a2, a3, a4, a6, a7, a5⟩, ⟨b2, b3, b4, b6, b7, b5⟩, ⟨c3, c4, c6, c7, c5⟩, ⟨e4, e6, e7, e5⟩, ⟨f6, f7, f5⟩, ⟨i7, i5⟩, j5, _⟩ := nd'
            have r1 : ∀ p ∈ R, p.1 ≠ ns := fun p hp e => a5 (e ▸ List.mem_map_of_mem hp)
            have r2 : ∀ p ∈ R, p.1 ≠ se := fun p hp e => b5 (e ▸ List.mem_map_of_mem hp)
            have r3 : ∀ p ∈ R, p.1 ≠ its := fun p hp e => c5 (e ▸ List.mem_map_of_mem hp)
            have r4 : ∀ p ∈ R, p.1 ≠ st := fun p hp e => e5 (e ▸ List.mem_map_of_mem hp)
            have u1 : @Ne Nat f.b ns := fun q => a6 q.symm
            have u2 : @Ne Nat f.b se := fun q => b6 q.symm
            have u3 : @Ne Nat f.b its := fun q => c6 q.symm
            have u4 : @Ne Nat f.b st := fun q => e6 q.symm
            have v1 : @Ne Nat f.it ns := fun q => a7 q.symm
            have v2 : @Ne Nat f.it se := fun q => b7 q.symm
            have v3 : @Ne Nat f.it its := fun q => c7 q.symm
            have v4 : @Ne Nat f.it st := fun q => e7 q.symm
            have r5 : ∀ p ∈ R, p.1 ≠ f.it := fun p hp e => j5 (e ▸ List.mem_map_of_mem hp)
            have hfl : ((fs.reverse.map fun f => Value.ref f.b) ++ [Value.ref f.b]).length ≤ 900 := by simp at hkc ⊢; lia
            have hvl : vs.length ≤ 900 := by have := hvs.length; simp at this; simp at hkc; lia
            (repeat' (first | (k_unfold; (try dsimp only)) | (k_end; wrow_close) | ((fail_if_success (with_reducible (refine Mine.stop_here ?_ ?_; first | walk_at "s0" | exact Mine.p12 | exact Mine.p13 | exact Mine.p14 | exact Mine.p15 | exact Mine.p16 | exact Mine.p17 | exact Mine.p18 | exact Mine.p19))); walk1) | (dsimp only; (fail_if_success (with_reducible (refine Mine.stop_here ?_ ?_; first | walk_at "s0" | exact Mine.p12 | exact Mine.p13 | exact Mine.p14 | exact Mine.p15 | exact Mine.p16 | exact Mine.p17 | exact Mine.p18 | exact Mine.p19))); walk1) | (leave1; walk_say "STEP leave1"; try dsimp only) | walk_at "onk" | fail "no step"))
            rename Fr g2 L' _ _ => F9
            rename News g2 L' _ _ => N9
            refine truthy_ints_fit (vs := vs) (N9.isList (.tail _ (.tail _ (.tail _ (.head _))))) hvs (by simp; simp at hkc; lia) ?_
            refine WhlIf.yes (by simp) ?_
            (try dsimp only)
            (repeat' (first | (k_unfold; (try dsimp only)) | (k_end; wrow_close) | ((fail_if_success (with_reducible (refine Mine.stop_here ?_ ?_; first | walk_at "s0" | exact Mine.p12 | exact Mine.p13 | exact Mine.p14 | exact Mine.p15 | exact Mine.p16 | exact Mine.p17 | exact Mine.p18 | exact Mine.p19))); walk1) | (dsimp only; (fail_if_success (with_reducible (refine Mine.stop_here ?_ ?_; first | walk_at "s0" | exact Mine.p12 | exact Mine.p13 | exact Mine.p14 | exact Mine.p15 | exact Mine.p16 | exact Mine.p17 | exact Mine.p18 | exact Mine.p19))); walk1) | (leave1; walk_say "STEP leave1"; try dsimp only) | walk_at "onk" | fail "no step"))
            walk1
            (try dsimp only)
            (repeat' (first | (k_unfold; (try dsimp only)) | (k_end; wrow_close) | ((fail_if_success (with_reducible (refine Mine.stop_here ?_ ?_; first | walk_at "s0" | exact Mine.p12 | exact Mine.p13 | exact Mine.p14 | exact Mine.p15 | exact Mine.p16 | exact Mine.p17 | exact Mine.p18 | exact Mine.p19))); walk1) | (dsimp only; (fail_if_success (with_reducible (refine Mine.stop_here ?_ ?_; first | walk_at "s0" | exact Mine.p12 | exact Mine.p13 | exact Mine.p14 | exact Mine.p15 | exact Mine.p16 | exact Mine.p17 | exact Mine.p18 | exact Mine.p19))); walk1) | (leave1; walk_say "STEP leave1"; try dsimp only) | walk_at "onk" | fail "no step"))
            (try dsimp only)
            refine item_last (p := fs.reverse.map fun f => Value.ref f.b) (y := Value.ref f.b) ?b1 ?_ ?b2 ?b3
            (case b1 => exact N9.isList (.tail _ (.tail _ (.head _))))
            (case b2 => with_unfolding_all rfl)
            (case b3 => (intro _; with_unfolding_all rfl))
            (try dsimp only)
            refine callWith_mw0 (N9 _ (.tail _ (.tail _ (.tail _ (.tail _ (.tail _ (.head _))))))).1 ?_
            refine wpAny_call ?_
            obtain ⟨hfk, hfi, hfr2, ris'⟩ := ris
            obtain ⟨sv, ne, hsv, hsm⟩ := Nd.list f.k hfk
            have hhp : h'.get? (sA f.k) = some (listOf sv.toArray ne) := F9.keep _ _ (hR g2 TUR' _ hsm)
            by_cases hlt : f.i < (succ f.k).length
            · have hlt' : f.i < sv.length := by rw [hsv.length]; exact hlt
              obtain ⟨tj, hj⟩ : ∃ tj, sv[f.i]? = some (.int (succ f.k)[f.i] tj) := hsv.get f.i _ (List.getElem?_eq_getElem hlt)
              refine' mw_itemN (items := sv.toArray) (x := .int (succ f.k)[f.i] tj) F9 N9 (.tail _ (.tail _ (.tail _ (.tail _ (.tail _ (.head _)))))) (.tail _ (.tail _ (.tail _ (.tail _ (.tail _ (.tail _ (.head _))))))) ?b1 ⟨_, hhp, rfl, _, rfl⟩ ?b2 ?_
              (case b1 => k_updF)
              (case b2 => simpa using hj)
              intro h10 F10 N10
              (try dsimp only at N10)
              (try dsimp only)
              clear F9 N9
              (repeat' (first | (k_unfold; (try dsimp only)) | (k_end; wrow_close) | ((fail_if_success (with_reducible (refine Mine.stop_here ?_ ?_; first | walk_at "s0" | exact Mine.p12 | exact Mine.p13 | exact Mine.p14 | exact Mine.p15 | exact Mine.p16 | exact Mine.p17 | exact Mine.p18 | exact Mine.p19))); walk1) | (dsimp only; (fail_if_success (with_reducible (refine Mine.stop_here ?_ ?_; first | walk_at "s0" | exact Mine.p12 | exact Mine.p13 | exact Mine.p14 | exact Mine.p15 | exact Mine.p16 | exact Mine.p17 | exact Mine.p18 | exact Mine.p19))); walk1) | (leave1; walk_say "STEP leave1"; try dsimp only) | walk_at "onk" | fail "no step"))
              rename Fr g2 L' _ _ => F11
              rename News g2 L' _ _ => N11
              dsimp only [WEnd]
              (repeat' (first | (k_unfold; (try dsimp only)) | (k_end; wrow_close) | ((fail_if_success (with_reducible (refine Mine.stop_here ?_ ?_; first | walk_at "s0" | exact Mine.p12 | exact Mine.p13 | exact Mine.p14 | exact Mine.p15 | exact Mine.p16 | exact Mine.p17 | exact Mine.p18 | exact Mine.p19))); walk1) | (dsimp only; (fail_if_success (with_reducible (refine Mine.stop_here ?_ ?_; first | walk_at "s0" | exact Mine.p12 | exact Mine.p13 | exact Mine.p14 | exact Mine.p15 | exact Mine.p16 | exact Mine.p17 | exact Mine.p18 | exact Mine.p19))); walk1) | (leave1; walk_say "STEP leave1"; try dsimp only) | walk_at "onk" | fail "no step"))
              have hjj := hs f.k hfk _ (List.getElem_mem hlt)
              refine ⟨unseen succ S keys + onStack succ (⟨f.k, f.b, f.it, f.i + 1⟩ :: fs), ?_, g2, _, _, _, ⟨f.k, f.b, f.it, f.i + 1⟩ :: fs, S, (succ f.k)[f.i], tj, rfl, TUR', FS.mk F11 ((if_neg (by decide)).trans m1) ((if_neg (by decide)).trans m2) ((if_neg (by decide)).trans m3) ((if_neg (by decide)).trans m4) ((if_neg (by decide)).trans m5) ⟨hfk, hlt, hfr2, ris'⟩ ?_ ?_ ⟨vs, n1, n2, no, so, c, kvs, fun p hp => N11 p ?_, ?_, hno, ?_, ?_, hso, hc9⟩, if_pos rfl, hjj.1, .inr (List.cons_ne_nil _ _), ?_, Nat.le_refl _⟩
              · simp only [onStack, List.map_cons, List.sum_cons] at hn8 ⊢
                lia
              · intro f' hf'
                rcases List.mem_cons.mp hf' with h | h
                · subst h; exact sn f (.head _)
                · exact sn f' (.tail _ h)
              · have e : ((bn sA (⟨f.k, f.b, f.it, f.i + 1⟩ :: fs) ++ [(I, oI4), (x, instObj 151 dx), (dx, dictOf (sEs w (.ref d) rd po nf t1 t2 t3 t4) 4)]).map (·.1)) = ((f.b, mwO f.it) :: (f.it, liO (sA f.k) f.i) :: R).map (·.1) := by rw [hRe]; rfl
                rw [e]; exact nd
              · have e : bn sA (⟨f.k, f.b, f.it, f.i + 1⟩ :: fs) ++ [(I, oI4), (x, instObj 151 dx), (dx, dictOf (sEs w (.ref d) rd po nf t1 t2 t3 t4) 4)] = (f.b, mwO f.it) :: (f.it, liO (sA f.k) (f.i + 1)) :: R := by rw [hRe]; rfl
                rw [e] at hp
                simpa using hp
              · simpa using hvs
              · intro k
                rw [hkv3 k]
                constructor
                · rintro ⟨f', h1, h2⟩
                  rcases List.mem_cons.mp h1 with h | h
                  · subst h; exact ⟨_, .head _, h2⟩
                  · exact ⟨f', .tail _ h, h2⟩
                · rintro ⟨f', h1, h2⟩
                  rcases List.mem_cons.mp h1 with h | h
                  · subst h; exact ⟨_, .head _, h2⟩
                  · exact ⟨f', .tail _ h, h2⟩
              · simpa using hkc
              · intro f' hf'
                rcases List.mem_cons.mp hf' with h | h
                · subst h; exact hjj.2
                · exact Nat.lt_trans (hfr2 f' h) hjj.2
            · refine' mw_endN (items := sv.toArray) rfl F9 N9 (.tail _ (.tail _ (.tail _ (.tail _ (.tail _ (.head _)))))) (.tail _ (.tail _ (.tail _ (.tail _ (.tail _ (.tail _ (.head _))))))) ?b1 ⟨_, hhp, rfl, _, rfl⟩ ?b2 ?_
              (case b1 => k_updF)
              (case b2 => have := hsv.length; simp; lia)
              intro h10 h11 e11 X11 F10 N10
              (try dsimp only at N10)
              (try dsimp only)
              refine caught_here (X := "StopIteration") (T' := "StopIteration") X11 F10 N10 B2 XB TB D2 ?c1 ?c2 ?c3 ?c4 ?c5 ?c6 ?_
              (case c1 => k_is)
              (case c2 => rfl)
              (case c3 => decide)
              (case c4 => rfl)
              (case c5 => rfl)
              (case c6 => rfl)
              intro h8 g8 KT8 F8 N8 B8 X8 T8 D8
              clear F9 N9 F10 N10
              (repeat' (first | (k_unfold; (try dsimp only)) | (k_end; wrow_close) | ((fail_if_success (with_reducible (refine Mine.stop_here ?_ ?_; first | walk_at "s0" | exact Mine.p12 | exact Mine.p13 | exact Mine.p14 | exact Mine.p15 | exact Mine.p16 | exact Mine.p17 | exact Mine.p18 | exact Mine.p19))); walk1) | (dsimp only; (fail_if_success (with_reducible (refine Mine.stop_here ?_ ?_; first | walk_at "s0" | exact Mine.p12 | exact Mine.p13 | exact Mine.p14 | exact Mine.p15 | exact Mine.p16 | exact Mine.p17 | exact Mine.p18 | exact Mine.p19))); walk1) | (leave1; walk_say "STEP leave1"; try dsimp only) | walk_at "onk" | fail "no step"))
              have hvl2 := hvs.length
              simp only [List.length_append, List.length_map, List.length_reverse, List.length_cons, List.length_nil] at hvl2
              refine' kpa_pop (us := vs) F8 N8 ?b3 hvs ?b4 ?b5 ?_
              (case b3 => k_upd)
              (case b4 => lia)
              (case b5 => rw [sizeLine_eq]; lia)
              intro h12 t12 F12 N12 hi12
              have el : ((fs.reverse.map fun f => f.k) ++ [f.k]).getLastD 0 = f.k := by simp
              have ed : ((fs.reverse.map fun f => f.k) ++ [f.k]).dropLast = fs.reverse.map fun f => f.k := by simp
              rw [ed] at hi12
              rw [el]
              (try dsimp only at N12)
              (try dsimp only)
              clear F8 N8
              (repeat' (first | (k_unfold; (try dsimp only)) | (k_end; wrow_close) | ((fail_if_success (with_reducible (refine Mine.stop_here ?_ ?_; first | walk_at "s0" | exact Mine.p12 | exact Mine.p13 | exact Mine.p14 | exact Mine.p15 | exact Mine.p16 | exact Mine.p17 | exact Mine.p18 | exact Mine.p19))); walk1) | (dsimp only; (fail_if_success (with_reducible (refine Mine.stop_here ?_ ?_; first | walk_at "s0" | exact Mine.p12 | exact Mine.p13 | exact Mine.p14 | exact Mine.p15 | exact Mine.p16 | exact Mine.p17 | exact Mine.p18 | exact Mine.p19))); walk1) | (leave1; walk_say "STEP leave1"; try dsimp only) | walk_at "onk" | fail "no step"))
              refine' kob_del (knd := intKind PG w) (kvs := kvs) (k := f.k) F12 N12 ?b1 hno ?b2 ?b3 ?b4 ?_
              (case b1 => k_updF)
              (case b2 => simp [intKind, Value.isInt])
              (case b3 => exact (hkv3 f.k).mpr ⟨f, .head _, rfl⟩)
              (case b4 => rw [sizeLine_eq]; lia)
              intro h13 no13 F13 N13 hno13
              (try dsimp only at N13)
              (try dsimp only)
              clear F12 N12
              (repeat' (first | (k_unfold; (try dsimp only)) | (k_end; wrow_close) | ((fail_if_success (with_reducible (refine Mine.stop_here ?_ ?_; first | walk_at "s0" | exact Mine.p12 | exact Mine.p13 | exact Mine.p14 | exact Mine.p15 | exact Mine.p16 | exact Mine.p17 | exact Mine.p18 | exact Mine.p19))); walk1) | (dsimp only; (fail_if_success (with_reducible (refine Mine.stop_here ?_ ?_; first | walk_at "s0" | exact Mine.p12 | exact Mine.p13 | exact Mine.p14 | exact Mine.p15 | exact Mine.p16 | exact Mine.p17 | exact Mine.p18 | exact Mine.p19))); walk1) | (leave1; walk_say "STEP leave1"; try dsimp only) | walk_at "onk" | fail "no step"))
              refine' kl_pop (its := ((fs.reverse.map fun f => Value.ref f.b) ++ [Value.ref f.b]).toArray) (p := fs.reverse.map fun f => Value.ref f.b) (y := Value.ref f.b) F13 N13 ?b1 ?b2 ?b3 ?_
              (case b1 => exact kpa_last (Value.ref f.b) (fs.reverse.map fun f => Value.ref f.b))
              (case b2 => k_upd)
              (case b3 => rw [sizeLine_eq]; exact Nat.le_trans hfl (by decide))
              intro h14 F14 N14
              (try dsimp only at N14)
              (try dsimp only)
              clear F13 N13
              (repeat' (first | (k_unfold; (try dsimp only)) | (k_end; wrow_close) | ((fail_if_success (with_reducible (refine Mine.stop_here ?_ ?_; first | walk_at "s0" | exact Mine.p12 | exact Mine.p13 | exact Mine.p14 | exact Mine.p15 | exact Mine.p16 | exact Mine.p17 | exact Mine.p18 | exact Mine.p19))); walk1) | (dsimp only; (fail_if_success (with_reducible (refine Mine.stop_here ?_ ?_; first | walk_at "s0" | exact Mine.p12 | exact Mine.p13 | exact Mine.p14 | exact Mine.p15 | exact Mine.p16 | exact Mine.p17 | exact Mine.p18 | exact Mine.p19))); walk1) | (leave1; walk_say "STEP leave1"; try dsimp only) | walk_at "onk" | fail "no step"))
              refine ⟨fs.length, by simp at hm8; lia, g8, _, _, m', fs, S, rfl, ⟨KT2.trans KT8, B8, X8, T8, D8⟩, FS.mk F14 m1 m2 m3 m4 m5 ris' (fun f' hf' => sn f' (.tail _ hf')) ?_ ⟨vs.dropLast, n1 + 1, n2 + 1, no13, so, c, without kvs f.k, fun p hp => N14 p ?_, hi12, hno13, hkv3.pop fun f' hf' q => ?_, ⟨Nat.le_trans (length_without_le _ _) hkc.1, by have := hkc.2; simp at this; lia⟩, hso, hc9⟩, ?_, rfl⟩
              · rw [← hRe]
                rename (R.map (·.1)).Nodup => ndR
                refine List.nodup_cons.mpr ⟨?_, List.nodup_cons.mpr ⟨?_, List.nodup_cons.mpr ⟨?_, List.nodup_cons.mpr ⟨?_, List.nodup_cons.mpr ⟨?_, ndR⟩⟩⟩⟩⟩
                · simp only [List.mem_cons, not_or]; exact ⟨a1, a2, a3, a4, a5⟩
                · simp only [List.mem_cons, not_or]; exact ⟨b2, b3, b4, b5⟩
                · simp only [List.mem_cons, not_or]; exact ⟨c3, c4, c5⟩
                · simp only [List.mem_cons, not_or]; exact ⟨e4, e5⟩
                · exact f5
              · rw [← hRe] at hp
                refine led_go hp ?_
                walk_at "led"
              · have := hfr2 f' hf'
                rw [q] at this; lia
              · simp only [onStack, List.map_cons, List.sum_cons] at hn8 ⊢
                lia
      · rename Fr g2 L' _ _ => F5
        rename News g2 L' _ _ => N5
        rename Obj.SetObjOf _ _ S c => hso5
        refine ⟨g2, _, _, _, [], S, k, t, rfl, TUR', FS.mk F5 ((if_neg (by decide)).trans m1) ((if_neg (by decide)).trans m2) ((if_neg (by decide)).trans m3) ((if_neg (by decide)).trans m4) ((if_neg (by decide)).trans m5) trivial (fun f hf => absurd hf List.not_mem_nil) nd ⟨vs, n1, n2, no, so, c, kvs, N5, hvs, hno, hkv3, hkc, hso5, hc9⟩, if_pos rfl, hkk, .inl (by assumption), fun f hf => absurd hf List.not_mem_nil, Nat.le_refl _⟩
  · rintro s' h' tk ⟨g2, h1, tk', m', oI, S, rfl, TUR, hk3, FS3⟩ keep
    obtain ⟨F3, m1, m2, m3, m4, m5, _, _, nd, vs, n1, n2, no, so, c, kvs, N3, hvs, hno, hkv3, hkc, hso, hc9⟩ := FS3
    have nd' := nd
    simp only [bn, List.nil_append, List.map_cons, List.map_nil, List.nodup_cons, List.mem_cons, List.not_mem_nil, not_or, or_false] at nd'
    obtain ⟨⟨a1, a2, a3, a4, a5, a6, a7⟩, ⟨b2, b3, b4, b5, b6, b7⟩, ⟨c3, c4, c5, c6, c7⟩, ⟨e4, e5, e6, e7⟩, ⟨f5, f6, f7⟩, ⟨i6, i7⟩, _⟩ := nd'
    have hIN := N3 (I, oI) (.tail _ (.tail _ (.tail _ (.tail _ (.tail _ (.head _))))))
    have hxN := N3 (x, instObj 151 dx) (.tail _ (.tail _ (.tail _ (.tail _ (.tail _ (.tail _ (.head _)))))))
    have hdxN := N3 (dx, dictOf (sEs w (.ref d) rd po nf t1 t2 t3 t4) 4) (.tail _ (.tail _ (.tail _ (.tail _ (.tail _ (.tail _ (.tail _ (.head _))))))))
    have hdN := N3 (d, od) (.tail _ (.tail _ (.tail _ (.tail _ (.head _)))))
    have F4 : Fr g2 L' h' m' := ⟨F3.ns.at' fun o e => keep _ o (by simpa using fun q => hIN.2.1 q.symm) e, fun b o e => keep b o (by simp only [List.mem_singleton]; rintro rfl; have := hIN.2.2; rw [e] at this; cases this) (F3.keep b o e), F3.above⟩
    have N4 : News g2 L' h' [(x, instObj 151 dx), (dx, dictOf (sEs w (.ref d) rd po nf t1 t2 t3 t4) 4), (d, od)] := by
      intro p hp
      simp only [List.mem_cons, List.not_mem_nil, or_false] at hp
      rcases hp with rfl | rfl | rfl
      · exact ⟨keep _ _ (by simpa using fun q => i6 q.symm) hxN.1, hxN.2⟩
      · exact ⟨keep _ _ (by simpa using fun q => i7 q.symm) hdxN.1, hdxN.2⟩
      · exact ⟨keep _ _ (by simpa using f5) hdN.1, hdN.2⟩
    have hR0 : ∀ p ∈ rest ++ srt, g2.get? p.1 = some p.2 := fun p hp => TUR.keep (kG' _ _ (N p (.tail _ (.tail _ (.tail _ hp)))).1 (by have := P.tl p hp; simp only [List.map_cons, List.map_nil, List.mem_cons, List.not_mem_nil, or_false, not_or]; exact this)) fun q => by
        have z := N p (.tail _ (.tail _ (.tail _ hp)))
        rcases kts_memX (L := L) rfl q with e | e
        · exact z.2.1 e
        · obtain ⟨o, ho, _⟩ := (B.frames.mem e).2
          rw [z.2.2] at ho; cases ho
    clear F3 N3 hvs hno hkv3 hkc hso hc9 nd hIN hxN hdxN hdN
    obtain ⟨KT2, B2, X2, T2, D2⟩ := TUR
    (try dsimp only)
    (repeat' (first | (k_unfold; (try dsimp only)) | (k_end; wrow_close) | ((fail_if_success (with_reducible (refine Mine.stop_here ?_ ?_; first | walk_at "s0" | exact Mine.p12 | exact Mine.p13 | exact Mine.p14 | exact Mine.p15 | exact Mine.p16 | exact Mine.p17 | exact Mine.p18 | exact Mine.p19))); walk1) | (dsimp only; (fail_if_success (with_reducible (refine Mine.stop_here ?_ ?_; first | walk_at "s0" | exact Mine.p12 | exact Mine.p13 | exact Mine.p14 | exact Mine.p15 | exact Mine.p16 | exact Mine.p17 | exact Mine.p18 | exact Mine.p19))); walk1) | (leave1; walk_say "STEP leave1"; try dsimp only) | walk_at "onk" | fail "no step"))
    refine ⟨g2, L', _, _, KT2, F4, N4, fun h₀' KT F N' B X T D => ?_⟩
    refine ret h₀' _ _ KT F B X T D (fun p hp => ?_)
    rcases List.mem_cons.mp hp with h | hp
    · exact N' p (h ▸ .head _)
    rcases List.mem_cons.mp hp with h | hp
    · exact N' p (h ▸ .tail _ (.head _))
    rcases List.mem_cons.mp hp with h | hp
    · exact N' p (h ▸ .tail _ (.tail _ (.head _)))
    · exact ⟨F4.keep _ _ (hR0 p hp), (N p (.tail _ (.tail _ (.tail _ hp)))).2.1, KT.none_ _ (N p (.tail _ (.tail _ (.tail _ hp)))).2.2⟩
end
section
set_option maxHeartbeats 8000000
section
variable {w : World} {A : Around} {E : Value → Shared → Prop} {s : Shared} {h₀ : Heap} {L : Addr} {m : Str → Option Value} {nA dA sA : Int → Addr} {keys : List Int} {np : Int → Int} {succ : Int → List Int} {srt : List (Addr × Obj)} {k : Int}
theorem np_getH {expr : Bool} {Q : Value → Shared → Prop} (F : Fr h₀ L s.heap m) (X : (Mine.hd.heap_1 w.params).In h₀) (hs : ∀ p ∈ srt, s.heap.get? p.1 = some p.2) (Nd : Nodes nA dA sA keys np succ srt) (hk : k ∈ keys)
    (h : ∀ t, Q (.int (np k) t) { s with toks := s.toks + 1 }) : wpAny (model PG w) A (getAttr (.ref (nA k)) (Str.ofString "npredecessors") expr) Q E s := by
  obtain ⟨tk, tp, hm⟩ := Nd.node k hk
  have h1 := hs _ hm
  have h2 := hs _ (Nd.dict k hk)
  k_dflt (refine' get_slot ?k1 ?k2 ?k3 ?k4 ?k5 ?k6 ?k7 ?k8 ?k9 ?k10 ?k11 ?_; (case k1 => k_asm); (case k2 => k_asm); (case k3 => exact (⟨h1, rfl, rfl, h2⟩ : W.InstAt _ _ ⟨.ref 54, some (dA k), .plain, _⟩ 54 (some _))); (case k4 => k_is); (case k5 => k_is); (case k6 => k_is); (case k7 => k_is); (case k8 => k_is); (case k9 => k_is); (case k10 => exact rfl); (case k11 => k_handed); exact h _)
theorem node_getH {expr : Bool} {Q : Value → Shared → Prop} (F : Fr h₀ L s.heap m) (X : (Mine.hd.heap_1 w.params).In h₀) (hs : ∀ p ∈ srt, s.heap.get? p.1 = some p.2) (Nd : Nodes nA dA sA keys np succ srt) (hk : k ∈ keys)
    (h : ∀ t, Q (.int k t) { s with toks := s.toks + 1 }) : wpAny (model PG w) A (getAttr (.ref (nA k)) (Str.ofString "node") expr) Q E s := by
  obtain ⟨tk, tp, hm⟩ := Nd.node k hk
  have h1 := hs _ hm
  have h2 := hs _ (Nd.dict k hk)
  k_dflt (refine' get_slot ?k1 ?k2 ?k3 ?k4 ?k5 ?k6 ?k7 ?k8 ?k9 ?k10 ?k11 ?_; (case k1 => k_asm); (case k2 => k_asm); (case k3 => exact (⟨h1, rfl, rfl, h2⟩ : W.InstAt _ _ ⟨.ref 54, some (dA k), .plain, _⟩ 54 (some _))); (case k4 => k_is); (case k5 => k_is); (case k6 => k_is); (case k7 => k_is); (case k8 => k_is); (case k9 => k_is); (case k10 => exact rfl); (case k11 => k_handed); exact h _)
end
end
section
set_option maxHeartbeats 8000000
theorem prepareT {w : World} {dp un : Nat} {gd : Option (List Code)} {cn : Str} {cs : Scope} {a : Addr} {ccd : Value} {cl : List (Str × Addr)} {outer : List Env} {A₀ : Around} {base h₀ : Heap} {L : Addr} {m mg mb : Str → Option Value} {mean : ExcName → Option Value} {s : Shared} {Q E : Value → Shared → Prop} {x dx d : Addr} {od : Obj} {t1 t2 t3 t4 : Tok} {po nf : Value} {rest : List (Addr × Obj)} {srt : List (Addr × Obj)} {nA dA sA : Int → Addr} {keys : List Int} {np : Int → Int} {succ : Int → List Int} {rk : Int → Nat}
    (B : Below A₀ base outer h₀) (F : Fr h₀ L s.heap m) (X : (Mine.hd.heap_1 w.params).In h₀) (T : TP mean mg mb h₀) (hk : cs.kind = .function) (hd : dp + 8 < recursionLimit) (hu : un + 64 < cLine) (XB : (Mine.hd.heap_1 w.params).In base) (TB : TP mean mg mb base) (D : KtsDicts (outer.filterMap (·.frame)) h₀)
    (N : News h₀ L s.heap ((x, instObj 151 dx) :: (dx, dictOf (sEs w (.ref d) .none po nf t1 t2 t3 t4) 4) :: (d, od) :: (rest ++ srt))) (hdm : (d == sysModules) = false)
    (hD : od.IsDictOf (intKind PG w) (kvsOf keys nA)) (Nd : Nodes nA dA sA keys np succ srt) (P : Apart x dx d rest srt)
    (hs : ∀ k ∈ keys, ∀ j ∈ succ k, j ∈ keys ∧ rk k < rk j) (hlen : ∀ k ∈ keys, (succ k).length ≤ 900) (hkl : keys.length ≤ 900)
    (ret : ∀ h₀' h' tk' r rv nr, KtsTurn (outer.filterMap (·.frame)) h₀ h₀' → Fr h₀' L h' m → Below A₀ base outer h₀' → (Mine.hd.heap_1 w.params).In h₀' → TP mean mg mb h₀' → KtsDicts (outer.filterMap (·.frame)) h₀' →
      News h₀' L h' ((x, instObj 151 dx) :: (dx, dictOf (sEs w (.ref d) (.ref r) po nf t1 t2 t3 t4) 4) :: (d, od) :: (r, listOf rv.toArray nr) :: (rest ++ srt)) → IntsAre rv (keys.filter fun k => decide (np k = 0)) →
      (∀ p ∈ (x, instObj 151 dx) :: (dx, od) :: (d, od) :: (rest ++ srt), p.1 < r) → Q .none { s with heap := h', toks := tk' }) :
    wpAny (model PG w) (ktrTop dp un gd cn cs L a ccd cl outer) (call (.ref 106) [.ref x]) Q E s := by
  refine wpAny_call ?_
  k_dflt (refine' code_defT ?k1 ?k2 ?k3 ?k4 ?k5 ?kXB ?kTB ?kD ?kA ?kF ?kK ?k6 ?k7 ?k8 ?k9 ?kB ?_ ?c2 ?c3 ?c4 ?c5; (case kA => exact rfl); (case kF => exact rfl); (case kK => assumption); (case k1 => k_asm); (case k2 => k_asm); (case k3 => k_asm); (case k4 => exact N); (case k5 => k_asm); (case kXB => assumption); (case kTB => assumption); (case kD => assumption); (case k6 => k_is); (case k7 => k_is); (case k8 => ktr_room); (case k9 => exact BindsTo.of_eq rfl); (case c5 => decide); (case kB => exact locs rfl); (case c2 => exact rfl); (case c3 => exact rfl); (case c4 => exact rfl); k_whole; intro g' L' h' FG' F' N' B' X' T' D' kG'; (try dsimp only); (try k_fold))
  (repeat' (first | (k_unfold; (try dsimp only)) | (k_end; wrow_close) | ((fail_if_success (with_reducible (refine Mine.stop_here ?_ ?_; walk_at "s0"))); walk1) | (dsimp only; (fail_if_success (with_reducible (refine Mine.stop_here ?_ ?_; walk_at "s0"))); walk1) | (leave1; walk_say "STEP leave1"; try dsimp only) | walk_at "onk" | fail "no step"))
  walk1
  refine comp_eval (cl := []) (F₀ := F') (by with_unfolding_all rfl) rfl (by decide) ?_
  (repeat' (first | (k_unfold; (try dsimp only)) | (k_end; wrow_close) | ((fail_if_success (with_reducible (refine Mine.stop_here ?_ ?_; walk_at "s0"))); walk1) | (dsimp only; (fail_if_success (with_reducible (refine Mine.stop_here ?_ ?_; walk_at "s0"))); walk1) | (leave1; walk_say "STEP leave1"; try dsimp only) | walk_at "onk" | fail "no step"))
  (try dsimp only)
  rename Fr g' L' _ _ => F2
  rename News g' L' _ _ => N2
  rename_i V _ l1
  have hkv : (kvsOf keys nA).length ≤ 900 := by unfold kvsOf; simpa using hkl
  refine src_values (knd := intKind PG w) (kvs := kvsOf keys nA) rfl F2 N2 (.tail _ (.tail _ (.tail _ (.head _)))) hD ⟨_, (N2 _ (.head _)).1, rfl, rfl⟩ (by rw [sizeLine_eq]; lia) ?_
  intro I h3 src lI
  refine ⟨I, _, _, _, _, rfl, src, ?_⟩
  rintro D C s₃ ⟨h4, rfl⟩ lD hDC
  refine ⟨fun i ys nw => nw = (V, ({ cls := .type "dict_values", data := .fields [Value.ref d].toArray } : Obj)) :: (x, instObj 151 dx) :: (dx, dictOf (sEs w (.ref d) .none po nf t1 t2 t3 t4) 4) :: (d, od) :: (rest ++ srt) ∧ IntsAre ys ((keys.take i).filter fun k => decide (np k = 0)), ?_, ?_, ?_, ?_⟩
  · rintro i ys nw ⟨rfl, _⟩
    exact .tail _ (.tail _ (.tail _ (.head _)))
  · exact ⟨rfl, .nil⟩
  · rintro i v h tk oI oC m₂ ys nw hi ⟨k, hk⟩ F5 N5 hC5 off5 ⟨n1, n2, n3⟩ ⟨rfl, hys⟩
    have hik : ∃ q : i < keys.length, keys[i] = k ∧ v = .ref (nA k) := by
      unfold kvsOf at hk
      rw [List.getElem?_map] at hk
      cases q : keys[i]? with
      | none => rw [q] at hk; cases hk
      | some k' => rw [q] at hk; cases hk; obtain ⟨z, e⟩ := List.getElem?_eq_some_iff.mp q; exact ⟨z, e, rfl⟩
    obtain ⟨hi', hke, rfl⟩ := hik
    have hkk : k ∈ keys := hke ▸ List.getElem_mem hi'
    have htk : keys.take (i + 1) = keys.take i ++ [k] := by rw [List.take_succ, List.getElem?_eq_getElem hi', hke]; rfl
    have off6 := off5.mem
    have U5 : ∀ o₁, UpdF C o₁ ((I, oI) :: (C, o₁) :: (D, LCg.lst ys) :: (V, ({ cls := .type "dict_values", data := .fields [Value.ref d].toArray } : Obj)) :: (x, instObj 151 dx) :: (dx, dictOf (sEs w (.ref d) .none po nf t1 t2 t3 t4) 4) :: (d, od) :: (rest ++ srt))
        (fun o₁ => (I, oI) :: (C, o₁) :: (D, LCg.lst ys) :: (V, ({ cls := .type "dict_values", data := .fields [Value.ref d].toArray } : Obj)) :: (x, instObj 151 dx) :: (dx, dictOf (sEs w (.ref d) .none po nf t1 t2 t3 t4) 4) :: (d, od) :: (rest ++ srt)) := fun o₁ =>
      .tail n1 (.head fun p hp => by
        rcases List.mem_cons.mp hp with rfl | hp
        · exact Ne.symm n3
        · exact (off6 p hp).2.1)
    refine asg_own F5 N5 (U5 oC) hC5 rfl rfl ?_
    intro h6 oC6 F6 N6 hC6
    have hx6 : (fun y => if y = Str.ofString "i" then some (Value.ref (nA k)) else m₂ y) (Str.ofString "i") = some (Value.ref (nA k)) := if_pos rfl
    have hh6 : ∀ p ∈ srt, h6.get? p.1 = some p.2 := fun p hp => (N6 p (.tail _ (.tail _ (.tail _ (.tail _ (.tail _ (.tail _ (.tail _ (List.mem_append_right _ hp))))))))).1
    refine wpAny_tests_one ?_
    (try dsimp only)
    (repeat' (first | (k_unfold; (try dsimp only)) | (k_end; wrow_close) | ((fail_if_success (with_reducible (refine Mine.stop_here ?_ ?_; first | walk_at "s0" | exact Mine.p7 | exact Mine.p8 | exact Mine.p9 | exact Mine.p10))); walk1) | (dsimp only; (fail_if_success (with_reducible (refine Mine.stop_here ?_ ?_; first | walk_at "s0" | exact Mine.p7 | exact Mine.p8 | exact Mine.p9 | exact Mine.p10))); walk1) | (leave1; walk_say "STEP leave1"; try dsimp only) | walk_at "onk" | fail "no step"))
    refine np_getH F6 X' hh6 Nd hkk ?_
    intro t7
    (try dsimp only)
    (repeat' (first | (k_unfold; (try dsimp only)) | (k_end; wrow_close) | ((fail_if_success (with_reducible (refine Mine.stop_here ?_ ?_; first | walk_at "s0" | exact Mine.p7 | exact Mine.p8 | exact Mine.p9 | exact Mine.p10))); walk1) | (dsimp only; (fail_if_success (with_reducible (refine Mine.stop_here ?_ ?_; first | walk_at "s0" | exact Mine.p7 | exact Mine.p8 | exact Mine.p9 | exact Mine.p10))); walk1) | (leave1; walk_say "STEP leave1"; try dsimp only) | walk_at "onk" | fail "no step"))
    · rename np k = 0 => hz
      refine node_getH F6 X' hh6 Nd hkk ?_
      intro t8
      exact ⟨h6, _, oC6, _, _, rfl, F6, N6, hC6, off5, rfl, by rw [htk, List.filter_append]; simpa [hz] using hys.append (.cons k t8 .nil)⟩
    · rename np k ≠ 0 => hz
      exact ⟨h6, _, oC6, _, _, rfl, F6, N6, hC6, off5, rfl, by rw [htk, List.filter_append]; simpa [hz] using hys⟩
  · rintro h tk ys oC m₂ nw F5 N5 hC5 off5 hCD ⟨rfl, hys⟩
    have off6 := off5.mem
    refine aend F5 N5 hC5 ?_ ?_
    · intro p hp
      rcases List.mem_cons.mp hp with rfl | hp
      · exact Ne.symm hCD
      · exact (off6 p hp).2.1
    · intro h6 F6 N6
      (try dsimp only)
      have N7 : News g' L' h6 ((x, instObj 151 dx) :: (dx, dictOf (sEs w (.ref d) .none po nf t1 t2 t3 t4) 4) :: (d, od) :: (D, listOf ys.toArray ys.length) :: (rest ++ srt)) := fun p hp => N6 p (by
        refine led_go hp ?_
        walk_at "led")
      have hxD : @LT.lt Nat _ x D := lD _ (.tail _ (.head _))
      have hdxD : @LT.lt Nat _ dx D := lD _ (.tail _ (.tail _ (.head _)))
      have hdD : @LT.lt Nat _ d D := lD _ (.tail _ (.tail _ (.tail _ (.head _))))
      have hrD : ∀ p ∈ rest ++ srt, p.1 < D := fun p hp => lD _ (.tail _ (.tail _ (.tail _ (.tail _ hp))))
      have p1 := P.xdx
      have p2 := P.xd
      have p3 := P.dxd
      have hr1 : ∀ p ∈ rest ++ srt, p.1 ≠ x := fun p hp => (P.tl p hp).1
      have hr2 : ∀ p ∈ rest ++ srt, p.1 ≠ dx := fun p hp => (P.tl p hp).2.1
      clear N6 N5 F5 N2 F2 src
      (repeat' (first | (k_unfold; (try dsimp only)) | (k_end; wrow_close) | ((fail_if_success (with_reducible (refine Mine.stop_here ?_ ?_; walk_at "s0"))); walk1) | (dsimp only; (fail_if_success (with_reducible (refine Mine.stop_here ?_ ?_; walk_at "s0"))); walk1) | (leave1; walk_say "STEP leave1"; try dsimp only) | walk_at "onk" | fail "no step"))
      dsimp only [List.append_nil]
      rename News g' L' _ _ => N8
      rename Fr g' L' _ _ => F8
      have P8 : Apart x dx d ((D, listOf ys.toArray ys.length) :: rest) srt := P.cons (Nat.ne_of_gt hxD) (Nat.ne_of_gt hdxD) (Nat.ne_of_gt hdD) fun q hq => Nat.ne_of_gt (hrD q (List.mem_append_right _ hq))
      refine' find_cycle (rk := rk) (rd := .ref D) (rest := (D, listOf ys.toArray ys.length) :: rest) ?b1 ?b2 ?b3 ?b4 ?b5 ?b6 ?b7 XB TB D' ?b8 hdm hD Nd P8 hs hlen hkl ?_
      (case b1 => k_asm); (case b2 => k_asm); (case b3 => k_asm); (case b4 => k_asm); (case b5 => first | exact rfl | assumption); (case b6 => ktr_room); (case b7 => ktr_units)
      (case b8 => exact N8)
      intro g9 h9 tk9 KT9 F9 B9 X9 T9 D9 N9
      clear N8 F8
      (try dsimp only)
      (repeat' (first | (k_unfold; (try dsimp only)) | (k_end; wrow_close) | ((fail_if_success (with_reducible (refine Mine.stop_here ?_ ?_; walk_at "s0"))); walk1) | (dsimp only; (fail_if_success (with_reducible (refine Mine.stop_here ?_ ?_; walk_at "s0"))); walk1) | (leave1; walk_say "STEP leave1"; try dsimp only) | walk_at "onk" | fail "no step"))
      rename News g9 L' _ _ => N10
      rename Fr g9 L' _ _ => F10
      refine ⟨g9, L', _, _, KT9, F10, N10, fun h₀' KT F N' B X T D => ?_⟩
      refine ret h₀' _ _ _ ys ys.length KT F B X T D N' ?_ ?_
      · have e : (kvsOf keys nA).length = keys.length := by unfold kvsOf; simp
        rw [e, List.take_length] at hys
        exact hys
      · intro p hp
        rcases List.mem_cons.mp hp with rfl | hp
        · exact hxD
        rcases List.mem_cons.mp hp with rfl | hp
        · exact hdxD
        rcases List.mem_cons.mp hp with rfl | hp
        · exact hdD
        · exact hrD p hp
end
section
open PySem PySem.W PyProof.Rows PySem.Spec PySem.Calls
noncomputable def rkF (o : Fin 7) (i : Nat) : Nat := ((([[3, 2, 1, 0], [2, 1, 0, 0], [3, 2, 0, 1], [2, 1, 0, 1], [3, 1, 0, 2], [2, 1, 0, 2], [2, 1, 0, 3]] : List (List Nat)).getD o.val []).getD i 0)
structure Ranks (o : Fin 7) (ts : List Hy) : Prop where
  len : ts.length = 4
  lt : ∀ i j, i < 4 → j < 4 → ltH (ts.getD i (.node [])) (ts.getD j (.node [])) = decide (rkF o i < rkF o j)
  eq : ∀ i j, i < 4 → j < 4 → eqH (ts.getD i (.node [])) (ts.getD j (.node [])) = decide (rkF o i = rkF o j)
theorem eqH_lt {a b : Hy} (h : ltH a b = true) : eqH a b = false ∧ eqH b a = false ∧ ltH b a = false := by
  refine ⟨?_, ?_, ltH_asymm h⟩
  · rw [Bool.eq_false_iff]; intro q; rw [(eqH_iff _ _).mp q, ltH_irrefl] at h; cases h
  · rw [Bool.eq_false_iff]; intro q; rw [(eqH_iff _ _).mp q, ltH_irrefl] at h; cases h
theorem Four.ranks {ts : List Hy} {a b c d : Hy} (f : Four ts a b c d) : Ex1 fun o => Ranks o ts := by
  obtain ⟨rfl, _, ba, cb⟩ := f
  have ca := ltH_trans c b a cb ba
  have four : ∀ i, i < 4 → i = 0 ∨ i = 1 ∨ i = 2 ∨ i = 3 := fun i hi => by lia
  have go : ∀ o : Fin 7, ltH b a = decide (rkF o 1 < rkF o 0) → ltH c b = decide (rkF o 2 < rkF o 1) → ltH c a = decide (rkF o 2 < rkF o 0) → ltH d a = decide (rkF o 3 < rkF o 0) → ltH d b = decide (rkF o 3 < rkF o 1) → ltH d c = decide (rkF o 3 < rkF o 2) →
      ltH a d = decide (rkF o 0 < rkF o 3) → ltH b d = decide (rkF o 1 < rkF o 3) → ltH c d = decide (rkF o 2 < rkF o 3) → (∀ x y : Hy, eqH x y = (!ltH x y && !ltH y x)) → rkF o 1 < rkF o 0 → rkF o 2 < rkF o 1 → Ranks o [a, b, c, d] := by
    intro o h1 h2 h3 h4 h5 h6 h7 h8 h9 he r1 r2
    have z1 : ltH a b = decide (rkF o 0 < rkF o 1) := by rw [(eqH_lt ba).2.2]; exact (decide_eq_false (by lia)).symm
    have z2 : ltH b c = decide (rkF o 1 < rkF o 2) := by rw [(eqH_lt cb).2.2]; exact (decide_eq_false (by lia)).symm
    have z3 : ltH a c = decide (rkF o 0 < rkF o 2) := by rw [(eqH_lt ca).2.2]; exact (decide_eq_false (by lia)).symm
    have lt : ∀ i j, i < 4 → j < 4 → ltH ([a, b, c, d].getD i (.node [])) ([a, b, c, d].getD j (.node [])) = decide (rkF o i < rkF o j) := fun i j hi hj => by
      rcases four i hi with rfl | rfl | rfl | rfl <;> rcases four j hj with rfl | rfl | rfl | rfl
      · rw [ltH_irrefl]; simp
      · exact z1
      · exact z3
      · exact h7
      · exact h1
      · rw [ltH_irrefl]; simp
      · exact z2
      · exact h8
      · exact h3
      · exact h2
      · rw [ltH_irrefl]; simp
      · exact h9
      · exact h4
      · exact h5
      · exact h6
      · rw [ltH_irrefl]; simp
    refine ⟨rfl, lt, fun i j hi hj => ?_⟩
    rw [he, lt i j hi hj, lt j i hj hi]
    by_cases q1 : rkF o i < rkF o j
    · rw [decide_eq_true q1, decide_eq_false (show ¬ rkF o i = rkF o j by lia)]; rfl
    by_cases q2 : rkF o j < rkF o i
    · rw [decide_eq_true q2, decide_eq_false (show ¬ rkF o i = rkF o j by lia), decide_eq_false q1]; rfl
    · rw [decide_eq_false q1, decide_eq_false q2, decide_eq_true (show rkF o i = rkF o j by lia)]; rfl
  have he : ∀ x y : Hy, eqH x y = (!ltH x y && !ltH y x) := fun x y => by
    cases q1 : ltH x y with
    | true => rw [(eqH_lt q1).1]; rfl
    | false =>
      cases q2 : ltH y x with
      | true => rw [(eqH_lt q2).2.1]; rfl
      | false => rw [ltH_total x y q1 q2]; exact eqH_refl y
  have T : ∀ {x y : Hy} {p q : Nat}, ltH x y = true → p < q → ltH x y = decide (p < q) := fun h l => by rw [h]; exact (decide_eq_true l).symm
  have N : ∀ {x y : Hy} {p q : Nat}, ltH x y = false → ¬ p < q → ltH x y = decide (p < q) := fun h l => by rw [h]; exact (decide_eq_false l).symm
  cases q1 : ltH d c with
  | true =>
    have db := ltH_trans d c b q1 cb
    have da := ltH_trans d b a db ba
    exact ⟨0, go 0 (T ba (by decide)) (T cb (by decide)) (T ca (by decide)) (T da (by decide)) (T db (by decide)) (T q1 (by decide)) (N (ltH_asymm da) (by decide)) (N (ltH_asymm db) (by decide)) (N (ltH_asymm q1) (by decide)) he (by decide) (by decide)⟩
  | false =>
    cases q2 : ltH c d with
    | false =>
      have e := ltH_total d c q1 q2
      subst e
      exact ⟨1, go 1 (T ba (by decide)) (T cb (by decide)) (T ca (by decide)) (T ca (by decide)) (T cb (by decide)) (N q1 (by decide)) (N (ltH_asymm ca) (by decide)) (N (ltH_asymm cb) (by decide)) (N q1 (by decide)) he (by decide) (by decide)⟩
    | true =>
      cases q3 : ltH d b with
      | true =>
        have da := ltH_trans d b a q3 ba
        exact ⟨2, go 2 (T ba (by decide)) (T cb (by decide)) (T ca (by decide)) (T da (by decide)) (T q3 (by decide)) (N q1 (by decide)) (N (ltH_asymm da) (by decide)) (N (ltH_asymm q3) (by decide)) (T q2 (by decide)) he (by decide) (by decide)⟩
      | false =>
        cases q4 : ltH b d with
        | false =>
          have e := ltH_total d b q3 q4
          subst e
          exact ⟨3, go 3 (T ba (by decide)) (T cb (by decide)) (T ca (by decide)) (T ba (by decide)) (N q3 (by decide)) (N q1 (by decide)) (N (ltH_asymm ba) (by decide)) (N q3 (by decide)) (T cb (by decide)) he (by decide) (by decide)⟩
        | true =>
          cases q5 : ltH d a with
          | true =>
            exact ⟨4, go 4 (T ba (by decide)) (T cb (by decide)) (T ca (by decide)) (T q5 (by decide)) (N q3 (by decide)) (N q1 (by decide)) (N (ltH_asymm q5) (by decide)) (T q4 (by decide)) (T q2 (by decide)) he (by decide) (by decide)⟩
          | false =>
            cases q6 : ltH a d with
            | false =>
              have e := ltH_total d a q5 q6
              subst e
              exact ⟨5, go 5 (T ba (by decide)) (T cb (by decide)) (T ca (by decide)) (N q5 (by decide)) (N q3 (by decide)) (N q1 (by decide)) (N q5 (by decide)) (T ba (by decide)) (T ca (by decide)) he (by decide) (by decide)⟩
            | true =>
              exact ⟨6, go 6 (T ba (by decide)) (T cb (by decide)) (T ca (by decide)) (N q5 (by decide)) (N q3 (by decide)) (N q1 (by decide)) (T q6 (by decide)) (T q4 (by decide)) (T q2 (by decide)) he (by decide) (by decide)⟩
theorem Ranks.lt' {o : Fin 7} {ts : List Hy} (r : Ranks o ts) {i j : Nat} (hi : i < ts.length) (hj : j < ts.length) : ltH ts[i] ts[j] = decide (rkF o i < rkF o j) := by
  have := r.lt i j (by have := r.len; lia) (by have := r.len; lia)
  rwa [List.getD_eq_getElem?_getD, List.getElem?_eq_getElem hi, List.getD_eq_getElem?_getD, List.getElem?_eq_getElem hj] at this
theorem Ranks.eq' {o : Fin 7} {ts : List Hy} (r : Ranks o ts) {i j : Nat} (hi : i < ts.length) (hj : j < ts.length) : eqH ts[i] ts[j] = decide (rkF o i = rkF o j) := by
  have := r.eq i j (by have := r.len; lia) (by have := r.len; lia)
  rwa [List.getD_eq_getElem?_getD, List.getElem?_eq_getElem hi, List.getD_eq_getElem?_getD, List.getElem?_eq_getElem hj] at this
theorem Ranks.less {o : Fin 7} {ts : List Hy} (r : Ranks o ts) (all : ∀ t ∈ ts, SortedH t ∧ t.depth ≤ 7 ∧ t.slim) {i j : Nat} (hi : i < ts.length) (hj : j < ts.length) : lessN 7 ts[i] ts[j] = decide (rkF o i < rkF o j) := by
  have hi' := all _ (List.getElem_mem hi)
  have hj' := all _ (List.getElem_mem hj)
  rw [lessN_lt 7 _ _ hi'.2.1 hj'.2.1 hi'.1 hj'.1, r.lt' hi hj]
noncomputable def predsN (o : Fin 7) (k : Nat) : List Int := ((List.range 4).filter fun j => decide (rkF o j < rkF o k)).map Int.ofNat
structure Sst where
  keys : List Int
  np : Int → Int
  succ : Int → List Int
noncomputable def stS (o : Fin 7) : Nat → Sst
  | 0 => ⟨[], fun _ => 0, fun _ => []⟩
  | k + 1 => ⟨addKeys (stS o k).keys (k : Int) (predsN o k), upd (stS o k).np (k : Int) ((stS o k).np (k : Int) + ((predsN o k).length : Int)), addSucc (stS o k).succ (k : Int) (predsN o k)⟩
theorem addSucc_out {k j : Int} : ∀ (ps : List Int) (succ : Int → List Int), j ∉ ps → addSucc succ k ps j = succ j
  | [], _, _ => rfl
  | p :: r, succ, h => by
    show addSucc (upd succ p (succ p ++ [k])) k r j = _
    rw [addSucc_out r _ fun q => h (.tail _ q), upd_ne _ _ fun q => h (by rw [q]; exact .head _)]
theorem preds_len (o : Fin 7) (k : Nat) : (predsN o k).length ≤ 4 := by
  unfold predsN
  rw [List.length_map]
  exact Nat.le_trans (List.length_filter_le _ _) (Nat.le_refl _)
theorem preds_not (o : Fin 7) (k : Nat) : (k : Int) ∉ predsN o k := fun h => by
  obtain ⟨j, hj, e⟩ := List.mem_map.mp h
  have : j = k := Int.ofNat.inj e
  subst this
  have := of_decide_eq_true (List.mem_filter.mp hj).2
  exact Nat.lt_irrefl _ this
theorem stS_out (o : Fin 7) : ∀ (k : Nat) (j : Int), j ∉ (stS o k).keys → (stS o k).np j = 0 ∧ (stS o k).succ j = []
  | 0, _, _ => ⟨rfl, rfl⟩
  | k + 1, j, h => by
    have h1 : j ∉ (stS o k).keys := fun q => h (addKeys_sub _ _ _ (touch_sub _ q))
    have h2 : j ≠ (k : Int) := fun q => h (q ▸ addKeys_sub _ _ _ (touch_mem _ _))
    have h3 : j ∉ predsN o k := fun q => h (foldl_touch_mem _ _ q)
    obtain ⟨a, b⟩ := stS_out o k j h1
    exact ⟨(upd_ne _ _ h2).trans a, (addSucc_out _ _ h3).trans b⟩
theorem stS_succ (o : Fin 7) : ∀ (k : Nat) (j : Int), ((stS o k).succ j).length ≤ 4 * k
  | 0, _ => Nat.le_refl _
  | k + 1, j => by
    have h0 := addSucc_len (k := (k : Int)) (j := j) (predsN o k) (stS o k).succ
    show (addSucc (stS o k).succ (k : Int) (predsN o k) j).length ≤ _
    have h1 := stS_succ o k j
    have h2 := preds_len o k
    lia
theorem stS_keys (o : Fin 7) (k : Nat) : (stS o k).keys.length ≤ 5 * k := by
  induction k with
  | zero => exact Nat.le_refl _
  | succ k ih =>
    have tl : ∀ (l : List Int) (x : Int), (touch l x).length ≤ l.length + 1 := fun l x => by
      unfold touch
      split
      · exact Nat.le_succ _
      · rw [List.length_append]; exact Nat.le_refl _
    have fl : ∀ (ps l : List Int), (ps.foldl touch l).length ≤ l.length + ps.length := fun ps => by
      induction ps with
      | nil => exact fun l => Nat.le_refl _
      | cons p r ih => exact fun l => Nat.le_trans (ih _) (by have := tl l p; rw [List.length_cons]; lia)
    have h1 := fl (predsN o k) (touch (stS o k).keys (k : Int))
    have h2 := tl (stS o k).keys (k : Int)
    have h3 := preds_len o k
    show (addKeys _ _ _).length ≤ _
    unfold addKeys
    lia
noncomputable def roundS (o : Fin 7) : Nat → (Int → Int) × List Int
  | 0 => ((stS o 4).np, (stS o 4).keys.filter fun k => decide ((stS o 4).np k = 0))
  | i + 1 => doneAll (stS o 4).succ (outAll (roundS o i).1 (roundS o i).2, []) (roundS o i).2
noncomputable def nR (o : Fin 7) : Nat := (([4, 3, 4, 3, 4, 3, 4] : List Nat).getD o.val 0)
noncomputable def rowS (o : Fin 7) (i : Nat) : List Int := ((List.range 4).filter fun k => decide (rkF o k = i)).map Int.ofNat
theorem rowS_up (o : Fin 7) (i : Nat) : (rowS o i).Pairwise (· ≤ ·) := by
  unfold rowS
  rw [List.pairwise_map]
  exact (List.pairwise_lt_range.filter _).imp fun h => Int.ofNat_le.mpr (Nat.le_of_lt h)
theorem sorter_up : ∀ o : Fin 7, ∀ k ∈ (stS o 4).keys, ∀ j ∈ (stS o 4).succ k, j ∈ (stS o 4).keys ∧ rkF o k.toNat < rkF o j.toNat := by decide +kernel
theorem round_keys : ∀ o : Fin 7, ∀ i : Fin 5, ∀ k ∈ (roundS o i.val).2, k ∈ (stS o 4).keys := by decide +kernel
theorem round_len : ∀ o : Fin 7, ∀ i : Fin 5, (roundS o i.val).2.length ≤ 4 ∧ ((roundS o i.val).2 = [] ↔ nR o ≤ i.val) ∧ ((roundS o i.val).2).Perm (rowS o i.val) := by decide +kernel
theorem round_ok : ∀ o : Fin 7, ∀ i : Fin 5, ∀ j : Fin 4, j.val < (roundS o i.val).2.length → (doneAll (stS o 4).succ (outAll (roundS o i.val).1 (roundS o i.val).2, []) ((roundS o i.val).2.take j.val)).1 ((roundS o i.val).2.getD j.val 0) = -1 := by decide +kernel
theorem nR_le (o : Fin 7) : nR o ≤ 4 := by revert o; decide
noncomputable def unlS (o : Fin 7) (n : Nat) : List Nat := (List.range n).filter fun k => !(List.range k).any fun j => decide (rkF o j = rkF o k)
theorem unl_len : ∀ o : Fin 7, (unlS o 4).length = nR o := by decide
theorem unl_cnt : ∀ o : Fin 7, ∀ k : Fin 4, ((unlS o 4).countP fun j => decide (rkF o j < rkF o k.val)) = rkF o k.val := by decide
theorem falls3 : ∀ o : Fin 7, rkF o 2 < rkF o 1 ∧ rkF o 1 < rkF o 0 := by decide
end
section
open PySem PySem.W PyProof.Rows PySem.Spec PySem.Calls PySem.SeqAt
theorem eqv_ints : ∀ l m : List Int, PyData.eqvAll (l.map .int) (m.map .int) = decide (l = m)
  | [], [] => by simp [PyData.eqvAll]
  | [], _ :: _ => by simp [PyData.eqvAll]
  | _ :: _, [] => by simp [PyData.eqvAll]
  | a :: l, b :: m => by
    rw [List.map_cons, List.map_cons, PyData.eqvAll, eqv_ints l m, PyData.eqv]
    by_cases h : a = b <;> simp [h]
theorem eqv_rows : ∀ ls ms : List (List Int), PyData.eqvAll (ls.map rd) (ms.map rd) = decide (ls = ms)
  | [], [] => by simp [PyData.eqvAll]
  | [], _ :: _ => by simp [PyData.eqvAll]
  | _ :: _, [] => by simp [PyData.eqvAll]
  | l :: ls, m :: ms => by
    rw [List.map_cons, List.map_cons, PyData.eqvAll, eqv_rows ls ms, PyData.eqv, eqv_ints]
    by_cases h : l = m <;> simp [h]
section
variable {prog : Program} {w : World} {A : Around} {E : Value → Shared → Prop} {s : Shared} {l k : Addr} {vs us : List Value} {n n2 : Nat} {Q : Value → Shared → Prop}
theorem rows_eq {ls ms : List (List Int)} (h1 : s.heap.get? l = some (listOf vs.toArray n)) (h2 : s.heap.get? k = some (listOf us.toArray n2)) (x : RowsAt s.heap vs ls) (y : RowsAt s.heap us ms) (hu : A.units + 64 < cLine) (h : Q (.bool (decide (ls = ms))) s) :
    wpAny (model prog w) A (compareOp .Eq (.ref l) (.ref k)) Q E s := by
  obtain ⟨as, r⟩ := x.reads
  obtain ⟨bs, q⟩ := y.reads
  refine compareEq_reads (da := .list (ls.map rd)) (db := .list (ms.map rd)) (.list h1 rfl rfl (by simpa using r)) (.list h2 rfl rfl (by simpa using q)) (by simp only [PyData.canLay0]; exact canLay_rows ls) (by simp only [PyData.canLay0]; exact canLay_rows ms) ?_ ?_
  · have h3 := depth_rows ls
    have h4 := Nat.min_le_left (PyData.depth (.list (ls.map rd))) (PyData.depth (.list (ms.map rd)))
    have h5 : PyData.depth (.list (ls.map rd)) ≤ 3 := by simp only [PyData.depth]; lia
    lia
  · rw [PyData.eqv, eqv_rows]; exact h
theorem tup_ne {ns : List Int} (h1 : s.heap.get? l = some ({ cls := .type "tuple", data := .seq vs.toArray n } : Obj)) (h2 : s.heap.get? k = some ({ cls := .type "tuple", data := .seq #[] n2 } : Obj)) (x : IntsAre vs ns) (hu : A.units + 64 < cLine) (h : Q (.bool (!decide (ns = []))) s) :
    wpAny (model prog w) A (compareOp .NotEq (.ref l) (.ref k)) Q E s := by
  refine compareNe_reads (da := .tuple (ns.map .int)) (db := .tuple (([] : List Int).map .int)) (.tuple h1 rfl rfl (by simpa using IntsAre.reads s.heap x)) (.tuple h2 rfl rfl .nil) (by simp only [PyData.canLay0]; exact canLay_ints ns) (by simp [PyData.canLay0, PyData.canLayAll0]) ?_ ?_
  · have h3 := depth_ints ns
    have h4 := Nat.min_le_left (PyData.depth (.tuple (ns.map .int))) (PyData.depth (.tuple (([] : List Int).map .int)))
    have h5 : PyData.depth (.tuple (ns.map .int)) ≤ 2 := by simp only [PyData.depth]; lia
    lia
  · rw [PyData.eqv, eqv_ints]; exact h
end
theorem Apart4.same {x dx d r : Addr} {rest rest' srt : List (Addr × Obj)} (P : Apart4 x dx d r rest srt) (e : ∀ p ∈ rest', ∃ q ∈ rest, q.1 = p.1) : Apart4 x dx d r rest' srt := by
  refine ⟨⟨P.xdx, P.xd, P.dxd, fun p hp => ?_, fun p hp q hq => ?_⟩, P.xr, P.dxr, P.dr, fun p hp => ?_⟩
  · rcases List.mem_append.mp hp with hp | hp
    · obtain ⟨q, hq, eq⟩ := e p hp
      rw [← eq]; exact P.tl q (List.mem_append_left _ hq)
    · exact P.tl p (List.mem_append_right _ hp)
  · obtain ⟨r, hr, er⟩ := e p hp
    rw [← er]; exact P.rs r hr q hq
  · rcases List.mem_append.mp hp with hp | hp
    · obtain ⟨q, hq, eq⟩ := e p hp
      rw [← eq]; exact P.tlr q (List.mem_append_left _ hq)
    · exact P.tlr p (List.mem_append_right _ hp)
theorem Apart4.more {x dx d r D : Addr} {o : Obj} {rest srt : List (Addr × Obj)} (P : Apart4 x dx d r rest srt) (h1 : D ≠ x) (h2 : D ≠ dx) (h3 : D ≠ d) (h4 : D ≠ r) (h5 : ∀ q ∈ srt, D ≠ q.1) : Apart4 x dx d r ((D, o) :: rest) srt := by
  refine ⟨P.toApart.cons h1 h2 h3 h5, P.xr, P.dxr, P.dr, fun p hp => ?_⟩
  rcases List.mem_cons.mp hp with rfl | hp
  · exact h4
  · exact P.tlr p hp
end
section
open PySem PySem.W PyProof.Rows PySem.Spec PySem.Calls PySem.SeqAt
theorem arr_inj {vs us : List Value} {n m : Nat} {d : Option Addr} (e : (listOf vs.toArray n) = listOf us.toArray m) : vs = us := by
  have := congrArg Obj.data e
  have h2 : vs.toArray = us.toArray := by injection this
  simpa using h2
mutual
theorem HyG.det {h : Heap} : ∀ {v : Value} {t u : Hy}, HyG (atH h) v t → HyG (atH h) v u → t = u
  | _, _, _, .mk e r, .mk e2 r2 => by
    have e3 := Option.some.inj (Eq.trans (Eq.symm e) e2)
    have e4 := arr_inj (d := none) e3
    subst e4
    rw [r.det r2]
theorem HysG.det {h : Heap} : ∀ {vs : List Value} {ts us : List Hy}, HysG (atH h) vs ts → HysG (atH h) vs us → ts = us
  | _, _, _, .nil, .nil => rfl
  | _, _, _, .cons e r, .cons e2 r2 => by rw [e.det e2, r.det r2]
end
section
variable {prog : Program} {w : World} {A : Around} {E : Value → Shared → Prop} {s : Shared} {l : Addr} {vs : List Value} {n : Nat} {ts : List Hy} {x : Value} {t : Hy} {Q : Value → Shared → Prop}
open Classical in
theorem hys_notin (h1 : s.heap.get? l = some (listOf vs.toArray n)) (hv : HysAt s.heap vs ts) (hx : HyAt s.heap x t) (hu : A.units + 2 + depthL ts < cLine) (h : Q (.bool (!decide (t ∈ ts))) s) :
    wpAny (model prog w) A (compareOp .NotIn x (.ref l)) Q E s := by
  have e0 : ∀ i (hi : i < ts.length) v, vs[i]? = some v → decide (HyAt s.heap v t) = eqH ts[i] t := fun i hi v e => by
    have q := hv.item hi e
    rw [Bool.eq_iff_iff, decide_eq_true_iff, eqH_iff]
    exact ⟨fun z => q.det z, fun z => z ▸ q⟩
  have hl := hv.length
  refine notIn_listAt (fun v => decide (HyAt s.heap v t)) ⟨_, h1, rfl, n, rfl⟩ (fun y hy => ?_) ?_
  · have hy' : y ∈ vs := by simpa using hy
    obtain ⟨i, hi, rfl⟩ := List.getElem_of_mem hy'
    have ei : vs[i]? = some vs[i] := List.getElem?_eq_getElem hi
    rw [e0 i (by lia) _ ei]
    refine HyAt.eqAt (hv.item (by lia) ei) hx ?_
    have := depth_mem (List.getElem_mem (show i < ts.length by lia))
    show A.units + 1 + _ < cLine
    lia
  · have e1 : vs.toArray.any (fun v => decide (HyAt s.heap v t)) = decide (t ∈ ts) := by
      rw [Bool.eq_iff_iff, decide_eq_true_iff, List.any_toArray, List.any_eq_true]
      constructor
      · rintro ⟨v, hv', q⟩
        obtain ⟨i, hi, rfl⟩ := List.getElem_of_mem hv'
        have ei : vs[i]? = some vs[i] := List.getElem?_eq_getElem hi
        rw [e0 i (by lia) _ ei, eqH_iff] at q
        rw [← q]; exact List.getElem_mem _
      · intro q
        obtain ⟨i, hi, e⟩ := List.getElem_of_mem q
        have hi' : i < vs.length := by lia
        refine ⟨vs[i], List.getElem_mem hi', ?_⟩
        rw [e0 i hi _ (List.getElem?_eq_getElem hi'), eqH_iff]
        exact e
    rw [e1]; exact h
end
open Classical in
theorem Ranks.mem {o : Fin 7} {ts : List Hy} (r : Ranks o ts) {k : Nat} (hk : k < ts.length) : decide (ts[k] ∈ ts.take k) = (List.range k).any fun j => decide (rkF o j = rkF o k) := by
  rw [Bool.eq_iff_iff, decide_eq_true_iff, List.any_eq_true]
  constructor
  · intro h
    obtain ⟨j, hj, e⟩ := List.getElem_of_mem h
    have hj1 : j < k := by rw [List.length_take] at hj; lia
    have hj2 : j < ts.length := by lia
    rw [List.getElem_take] at e
    refine ⟨j, List.mem_range.mpr hj1, ?_⟩
    rw [← r.eq' hj2 hk, eqH_iff]; exact e
  · rintro ⟨j, hj, e⟩
    have hj1 := List.mem_range.mp hj
    have hj2 : j < ts.length := by lia
    rw [← r.eq' hj2 hk, eqH_iff] at e
    rw [← e]
    exact List.mem_take_iff_getElem.mpr ⟨j, by lia, rfl⟩
theorem unlS_succ (o : Fin 7) (n : Nat) : unlS o (n + 1) = unlS o n ++ if (!(List.range n).any fun j => decide (rkF o j = rkF o n)) = true then [n] else [] := by
  unfold unlS
  rw [List.range_succ, List.filter_append, List.filter_cons, List.filter_nil]
theorem unlS_lt (o : Fin 7) (n : Nat) : ∀ j ∈ unlS o n, j < n := fun j hj => List.mem_range.mp (List.mem_filter.mp hj).1
theorem cmp_count (o : Fin 7) (k : Nat) (hk : k < 4) : ((unlS o 4).map fun j => b2i (decide (rkF o k < rkF o j)) - b2i (decide (rkF o j < rkF o k))).count (-1) = rkF o k := by
  have h := unl_cnt o ⟨k, hk⟩
  dsimp only at h
  refine Eq.trans ?_ h
  rw [List.count, List.countP_map]
  refine List.countP_congr fun j _ => ?_
  simp only [Function.comp_apply, beq_iff_eq, decide_eq_true_eq]
  by_cases q1 : rkF o j < rkF o k
  · have q2 : ¬ rkF o k < rkF o j := by lia
    simp [q1, q2, b2i]
  · by_cases q2 : rkF o k < rkF o j
    · simp [q1, q2, b2i]
    · simp [q1, q2, b2i]
end
section
set_option maxHeartbeats 8000000
theorem q_names {p : Program} {l a : List Str} (h : PySem.W.Fast.tw17448422675489707002 p (PySem.W.Fast.tw821141287760084731 p l) a = true) : PySem.W.namesOk p (PySem.W.looseW p l) a = true := by
  rw [PySem.W.Fast.te17448422675489707002, PySem.W.Fast.te821141287760084731]; exact h
theorem q_imports {p : Program} (h : PySem.W.Fast.tw2458874890965802552 p = true) : PyProof.Rows.importsNone p = true := by
  rw [PySem.W.Fast.te2458874890965802552]; exact h
local macro_rules | `(tactic| k_qdec) => `(tactic| ((first | refine Mine.q_names ?_ | refine Mine.q_imports ?_); kernel_rfl))
local macro_rules | `(tactic| walk_at "eval Name") => `(tactic| first | walk_at "own" | walk_at "evE")
theorem rng_small : ∀ o : Fin 7, Builtin.Range.small 0 ((nR o : Nat) : Int) 1 = true ∧ Builtin.Range.rangeSize 0 ((nR o : Nat) : Int) 1 = ((nR o : Nat) : Int) := by decide
theorem pl_at (o : Fin 7) {j : Nat} (hj : j < 4) : ([(rkF o 0 : Int), (rkF o 1 : Int), (rkF o 2 : Int), (rkF o 3 : Int)].getD (Int.toNat (0 + (j : Int))) 0) = (rkF o j : Int) := by
  rcases j with _ | _ | _ | _ | j
  · rfl
  · rfl
  · rfl
  · rfl
  · lia
theorem one_int (j : Nat) (t : Tok) : IntsAre [.int (0 + (j : Int)) t] [Int.ofNat j] := by
  rw [Int.zero_add]; exact .cons _ _ .nil
theorem Apart.same {x dx d : Addr} {rest rest' srt : List (Addr × Obj)} (P : Apart x dx d rest srt) (e : rest'.map (·.1) = rest.map (·.1)) : Apart x dx d rest' srt := by
  have mv : ∀ p ∈ rest', ∃ q ∈ rest, q.1 = p.1 := fun p hp => by
    have : p.1 ∈ rest.map (·.1) := by rw [← e]; exact List.mem_map_of_mem hp
    exact List.mem_map.mp this
  refine ⟨P.xdx, P.xd, P.dxd, fun p hp => ?_, fun p hp q hq => ?_⟩
  · rcases List.mem_append.mp hp with hp | hp
    · obtain ⟨q, hq, eq⟩ := mv p hp
      rw [← eq]; exact P.tl q (List.mem_append_left _ hq)
    · exact P.tl p (List.mem_append_right _ hp)
  · obtain ⟨r, hr, er⟩ := mv p hp
    rw [← er]; exact P.rs r hr q hq
open LCg in
theorem lawWalk : PySem.Challenge.rw_oc0174_02.Holds := Mine.hd (by
  k_go0
  (all_goals try k_fold)
  rename World => w
  rename Shared => s1
  rename_i wP wU wO wH dP dU dO dH N0 X0
  have hcP : wP.data = .cell none := dP
  have hcU : wU.data = .cell none := dU
  have hcO : wO.data = .cell none := dO
  have hcH : wH.data = .cell none := dH
  clear dP dU dO dH X0
  rename Below _ _ _ _ => K0
  have K0 : Below callerA s1.heap [] s1.heap := K0
  rename Fr _ _ _ _ => F0
  rename Top _ _ _ _ _ _ => T0
  rename IntsAre _ _ => hI
  rename Heap.IsList _ _ _ => hL
  rename Frag.In _ _ => KX
  rename ¬ _ => hlen
  have hlen : _ ≤ 63 := Int.ofNat_le.mp (Int.not_lt.mp hlen)
  (repeat' (first | (k_unfold; (try dsimp only)) | (k_end; wrow_close) | ((fail_if_success (with_reducible (refine Mine.stop_here ?_ ?_; first | walk_at "s0" | exact Mine.p20 | exact Mine.p23 | exact Mine.p24 | exact Mine.p26 | exact Mine.p27 | exact Mine.p7))); walk1) | (dsimp only; (fail_if_success (with_reducible (refine Mine.stop_here ?_ ?_; first | walk_at "s0" | exact Mine.p20 | exact Mine.p23 | exact Mine.p24 | exact Mine.p26 | exact Mine.p27 | exact Mine.p7))); walk1) | (leave1; walk_say "STEP leave1"; try dsimp only) | walk_at "onk" | fail "no step"))
  refine' hydrasT ?b1 ?b2 ?b3 ?b4 ?b5 ?b6 ?b7 N0 (by obtain ⟨o, e, r⟩ := hL; exact ⟨o, F0.keep _ _ e, r⟩) hI hlen ?_
  (case b1 => k_asm); (case b2 => k_asm); (case b3 => k_asm); (case b4 => k_asm); (case b5 => first | exact rfl | assumption); (case b6 => ktr_room); (case b7 => ktr_units)
  intro h1 tk1 R rv nr new ts a b c d F1 N1 dis1 hR hys hfour
  have N1 : News s1.heap s1.heap.objs.size h1 ((s1.heap.objs.size + 1 + 1 + 1 + 1, wP) :: (s1.heap.objs.size + 1 + 1 + 1, wU) :: (s1.heap.objs.size + 1 + 1, wO) :: (s1.heap.objs.size + 1, wH) :: new) := fun p hp => N1 p (by
    refine led_go hp ?_
    walk_at "led")
  have u4 : ∀ p ∈ new, p.1 ≠ s1.heap.objs.size + 1 + 1 + 1 + 1 := fun p hp => dis1 p hp _ (.head _)
  have u3 : ∀ p ∈ new, p.1 ≠ s1.heap.objs.size + 1 + 1 + 1 := fun p hp => dis1 p hp _ (.tail _ (.head _))
  have u2 : ∀ p ∈ new, p.1 ≠ s1.heap.objs.size + 1 + 1 := fun p hp => dis1 p hp _ (.tail _ (.tail _ (.head _)))
  have u1 : ∀ p ∈ new, p.1 ≠ s1.heap.objs.size + 1 := fun p hp => dis1 p hp _ (.tail _ (.tail _ (.tail _ (.head _))))
  obtain ⟨o, hrk⟩ := hfour.ranks
  have hall := hfour.all
  have htl : ts.length = 4 := hrk.len
  have hrl : rv.length = 4 := by have := hys.length; lia
  (try clear N0); (try clear F0); (try clear dis1); (try clear hfour)
  (try dsimp only)
  (repeat' (first | (k_unfold; (try dsimp only)) | (k_end; wrow_close) | ((fail_if_success (with_reducible (refine Mine.stop_here ?_ ?_; first | walk_at "s0" | exact Mine.p20 | exact Mine.p23 | exact Mine.p24 | exact Mine.p26 | exact Mine.p27 | exact Mine.p7))); walk1) | (dsimp only; (fail_if_success (with_reducible (refine Mine.stop_here ?_ ?_; first | walk_at "s0" | exact Mine.p20 | exact Mine.p23 | exact Mine.p24 | exact Mine.p26 | exact Mine.p27 | exact Mine.p7))); walk1) | (leave1; walk_say "STEP leave1"; try dsimp only) | walk_at "onk" | fail "no step"))
  rename_i oH _ _ hoH
  have hoH : oH.data = .cell (some (.ref R)) := hoH
  walk1
  (repeat' (first | (k_unfold; (try dsimp only)) | (k_end; wrow_close) | ((fail_if_success (with_reducible (refine Mine.stop_here ?_ ?_; first | walk_at "s0" | exact Mine.p20 | exact Mine.p23 | exact Mine.p24 | exact Mine.p26 | exact Mine.p27 | exact Mine.p7))); walk1) | (dsimp only; (fail_if_success (with_reducible (refine Mine.stop_here ?_ ?_; first | walk_at "s0" | exact Mine.p20 | exact Mine.p23 | exact Mine.p24 | exact Mine.p26 | exact Mine.p27 | exact Mine.p7))); walk1) | (leave1; walk_say "STEP leave1"; try dsimp only) | walk_at "onk" | fail "no step"))
  rename_i x dx _ lx1 lx2 gi Li _ Bi Xi Ti lf1 lf2 lf3 _ d _ od hdm _ _ hod _ lx3 _ _ _ _ _ _ _ Fi Ni _ Gc kX h2 F2 N2
  clear Bi Xi Ti Fi Ni lf1 lf2 lf3 Gc kX
  have F2 : Fr s1.heap s1.heap.objs.size h2 _ := F2
  obtain ⟨t1, t2, t3, t4, t5, t6, N2⟩ : ∃ t1 t2 t3 t4 t5 t6, News s1.heap s1.heap.objs.size h2 ((x, instObj 151 dx) :: (dx, dictOf (sEs w (.ref d) .none (.int 0 t5) (.int 0 t6) t1 t2 t3 t4) 4) :: (d, od) :: ((s1.heap.objs.size + 1 + 1 + 1 + 1, wP) :: (s1.heap.objs.size + 1 + 1 + 1, wU) :: (s1.heap.objs.size + 1 + 1, wO) :: (s1.heap.objs.size + 1, oH) :: new)) :=
    ⟨_, _, _, _, _, _, fun p hp => N2 p (by
      refine led_go hp ?_
      walk_at "led")⟩
  obtain ⟨M2, hM2, F2⟩ : ∃ M2 : Str → Option Value, M2 (Str.ofString "sorter") = some (.ref x) ∧ Fr s1.heap s1.heap.objs.size h2 M2 := ⟨_, if_pos rfl, F2⟩
  have w1 : @LT.lt Nat _ (s1.heap.objs.size + 1) dx := lx1.2.2.2.1
  have w2 : @LT.lt Nat _ (s1.heap.objs.size + 1 + 1) dx := lx1.2.2.1
  have w3 : @LT.lt Nat _ (s1.heap.objs.size + 1 + 1 + 1) dx := lx1.2.1
  have w4 : @LT.lt Nat _ (s1.heap.objs.size + 1 + 1 + 1 + 1) dx := lx1.1
  have w5 : ∀ p ∈ new, @LT.lt Nat _ p.1 dx := fun p hp => allLt_mem lx1.2.2.2.2 p hp
  have w6 : @LT.lt Nat _ x d := lx3.1
  have w7 : @LT.lt Nat _ dx d := lx3.2.1
  have w8 : @LT.lt Nat _ dx x := lx2
  have P2 : ∀ oO, Apart x dx d ((s1.heap.objs.size + 1 + 1 + 1 + 1, wP) :: (s1.heap.objs.size + 1 + 1 + 1, wU) :: (s1.heap.objs.size + 1 + 1, oO) :: (s1.heap.objs.size + 1, oH) :: new) [] := fun oO => by
    have low : ∀ p ∈ (s1.heap.objs.size + 1 + 1 + 1 + 1, wP) :: (s1.heap.objs.size + 1 + 1 + 1, wU) :: (s1.heap.objs.size + 1 + 1, oO) :: (s1.heap.objs.size + 1, oH) :: new, @LT.lt Nat _ p.1 dx := fun p hp => by
      rcases List.mem_cons.mp hp with rfl | hp
      · exact w4
      rcases List.mem_cons.mp hp with rfl | hp
      · exact w3
      rcases List.mem_cons.mp hp with rfl | hp
      · exact w2
      rcases List.mem_cons.mp hp with rfl | hp
      · exact w1
      · exact w5 p hp
    refine ⟨Nat.ne_of_gt w8, Nat.ne_of_lt w6, Nat.ne_of_lt w7, fun p hp => ?_, fun p hp q hq => nomatch hq⟩
    rw [List.append_nil] at hp
    have z := low p hp
    exact ⟨Nat.ne_of_lt (Nat.lt_trans z w8), Nat.ne_of_lt z, Nat.ne_of_lt (Nat.lt_trans z w7)⟩
  have KD0 : KtsDicts (([] : List Env).filterMap (·.frame)) s1.heap := fun b hb => nomatch hb
  have hyq : ∀ (h : Heap) (all : List (Addr × Obj)), (∀ p ∈ new, p ∈ all) → News s1.heap s1.heap.objs.size h all → HysAt h rv ts := fun h all sub N => hys.keeps fun a vs n e => (N _ (sub _ e)).1
  refine For_turns F2 ?_
  (repeat' (first | (k_unfold; (try dsimp only)) | (k_end; wrow_close) | ((fail_if_success (with_reducible (refine Mine.stop_here ?_ ?_; first | walk_at "s0" | exact Mine.p20 | exact Mine.p23 | exact Mine.p24 | exact Mine.p26 | exact Mine.p27 | exact Mine.p7))); walk1) | (dsimp only; (fail_if_success (with_reducible (refine Mine.stop_here ?_ ?_; first | walk_at "s0" | exact Mine.p20 | exact Mine.p23 | exact Mine.p24 | exact Mine.p26 | exact Mine.p27 | exact Mine.p7))); walk1) | (leave1; walk_say "STEP leave1"; try dsimp only) | walk_at "onk" | fail "no step"))
  rename Fr _ _ _ _ => F3
  rename News _ _ _ _ => N3
  refine turns_enum2 (vs := rv) (nl := nr) (fun k m1 nw => Ex6 fun od nA dA sA srt oO => Cj6 (nw = (x, instObj 151 dx) :: (dx, dictOf (sEs w (.ref d) .none (.int 0 t5) (.int 0 t6) t1 t2 t3 t4) 4) :: (d, od) :: (((s1.heap.objs.size + 1 + 1 + 1 + 1, wP) :: (s1.heap.objs.size + 1 + 1 + 1, wU) :: (s1.heap.objs.size + 1 + 1, oO) :: (s1.heap.objs.size + 1, oH) :: new) ++ srt)) (od.IsDictOf (intKind PG w) (kvsOf (stS o k).keys nA)) (Nodes nA dA sA (stS o k).keys (stS o k).np (stS o k).succ srt) (Apart x dx d ((s1.heap.objs.size + 1 + 1 + 1 + 1, wP) :: (s1.heap.objs.size + 1 + 1 + 1, wU) :: (s1.heap.objs.size + 1 + 1, oO) :: (s1.heap.objs.size + 1, oH) :: new) srt) (m1 (Str.ofString "sorter") = some (.ref x)) (Ex1 fun vO => oO.data = .cell vO)) rfl F3 N3 ?hJ ?h0 ?step ?done
  case hJ =>
    rintro k m1 nw ⟨od, nA, dA, sA, srt, oO, rfl, _⟩
    exact .inr (.tail _ (.tail _ (.tail _ (List.mem_append_left _ (.tail _ (.tail _ (.tail _ (.tail _ hR))))))))
  case h0 =>
    refine ⟨od, fun _ => 0, fun _ => 0, fun _ => 0, [], wO, ?_, hod, ⟨List.nodup_nil, fun k hk => absurd hk List.not_mem_nil, fun k hk => absurd hk List.not_mem_nil, fun k hk => absurd hk List.not_mem_nil, fun k hk => absurd hk List.not_mem_nil⟩, P2 wO, hM2, none, hcO⟩
    rw [List.append_nil]
  case step =>
    rintro k xv Tz tz m₁ nw h₁ tk₁ e oe I oI hx ⟨od, nA, dA, sA, srt, oO, rfl, hD, Nd, P, hm1, ⟨vO, hvO⟩⟩ dis hne F4 N4 hT
    have hk4 : k < 4 := by rw [← hrl]; exact (List.getElem?_eq_some_iff.mp hx).1
    have hkt : k < ts.length := by lia
    have htk := hys.item hkt hx
    obtain ⟨kA, rfl⟩ := htk.isRef
    (try clear F2); (try clear N2); (try clear F3); (try clear N3)
    refine unpackN_ F4 N4 hT rfl (by with_unfolding_all rfl) (by with_unfolding_all rfl) ?_
    intro h6 F6 N6
    have N6 : News s1.heap s1.heap.objs.size h6 ((e, oe) :: (I, oI) :: (x, instObj 151 dx) :: (dx, dictOf (sEs w (.ref d) .none (.int 0 t5) (.int 0 t6) t1 t2 t3 t4) 4) :: (d, od) :: (s1.heap.objs.size + 1 + 1 + 1 + 1, wP) :: (s1.heap.objs.size + 1 + 1 + 1, wU) :: (s1.heap.objs.size + 1 + 1, oO) :: (s1.heap.objs.size + 1, oH) :: (new ++ srt)) := N6
    have e1 : @Ne Nat e x := (dis _ (.head _)).1
    have e2 : @Ne Nat e dx := (dis _ (.tail _ (.head _))).1
    have e3 : @Ne Nat e d := (dis _ (.tail _ (.tail _ (.head _)))).1
    have e4 : ∀ p ∈ (s1.heap.objs.size + 1 + 1 + 1 + 1, wP) :: (s1.heap.objs.size + 1 + 1 + 1, wU) :: (s1.heap.objs.size + 1 + 1, oO) :: (s1.heap.objs.size + 1, oH) :: new ++ srt, e ≠ p.1 ∧ I ≠ p.1 := fun p hp => dis p (.tail _ (.tail _ (.tail _ hp)))
    have i1 : @Ne Nat I x := (dis _ (.head _)).2
    have i2 : @Ne Nat I dx := (dis _ (.tail _ (.head _))).2
    have i3 : @Ne Nat I d := (dis _ (.tail _ (.tail _ (.head _)))).2
    have e5 : @Ne Nat e (s1.heap.objs.size + 1 + 1) := (e4 _ (.tail _ (.tail _ (.head _)))).1
    have i5 : @Ne Nat I (s1.heap.objs.size + 1 + 1) := (e4 _ (.tail _ (.tail _ (.head _)))).2
    have z1 : @LT.lt Nat _ (s1.heap.objs.size + 1 + 1) x := Nat.lt_trans w2 w8
    have z2 : @LT.lt Nat _ (s1.heap.objs.size + 1 + 1) d := Nat.lt_trans w2 w7
    have u5 : ∀ p ∈ new ++ srt, p.1 ≠ s1.heap.objs.size + 1 + 1 := fun p hp => by
      rcases List.mem_append.mp hp with hp | hp
      · exact u2 p hp
      · exact Ne.symm (P.rs (s1.heap.objs.size + 1 + 1, oO) (.tail _ (.tail _ (.head _))) p hp)
    clear F4 N4
    (try dsimp only)
    (repeat' (first | (k_unfold; (try dsimp only)) | (k_end; wrow_close) | ((fail_if_success (with_reducible (refine Mine.stop_here ?_ ?_; first | walk_at "s0" | exact Mine.p20 | exact Mine.p23 | exact Mine.p24 | exact Mine.p26 | exact Mine.p27 | exact Mine.p7))); walk1) | (dsimp only; (fail_if_success (with_reducible (refine Mine.stop_here ?_ ?_; first | walk_at "s0" | exact Mine.p20 | exact Mine.p23 | exact Mine.p24 | exact Mine.p26 | exact Mine.p27 | exact Mine.p7))); walk1) | (leave1; walk_say "STEP leave1"; try dsimp only) | walk_at "onk" | fail "no step"))
    refine MethodCall_star ?_
    (repeat' (first | (k_unfold; (try dsimp only)) | (k_end; wrow_close) | ((fail_if_success (with_reducible (refine Mine.stop_here ?_ ?_; first | walk_at "s0" | exact Mine.p20 | exact Mine.p23 | exact Mine.p24 | exact Mine.p26 | exact Mine.p27 | exact Mine.p7))); walk1) | (dsimp only; (fail_if_success (with_reducible (refine Mine.stop_here ?_ ?_; first | walk_at "s0" | exact Mine.p20 | exact Mine.p23 | exact Mine.p24 | exact Mine.p26 | exact Mine.p27 | exact Mine.p7))); walk1) | (leave1; walk_say "STEP leave1"; try dsimp only) | walk_at "onk" | fail "no step"))
    rename Fr _ _ _ _ => F8
    rename News _ _ _ _ => N8
    rename_i oO2 hoO2 q8 _ l8
    have hoO2 : oO2.data = .cell (some (.ref kA)) := hoO2
    have l8x : @LT.lt Nat _ x q8 := l8.2.2.1
    have l8dx : @LT.lt Nat _ dx q8 := l8.2.2.2.1
    have l8d : @LT.lt Nat _ d q8 := l8.2.2.2.2.1
    have l8e : @LT.lt Nat _ e q8 := l8.1
    have l8I : @LT.lt Nat _ I q8 := l8.2.1
    have l8t : ∀ p ∈ new ++ srt, @LT.lt Nat _ p.1 q8 := fun p hp => allLt_mem l8.2.2.2.2.2.2.2.2.2 p hp
    refine callWith_MS (K := Mine.hd.heap_1 w.params) (g := 101) (self := .ref x) ?kis ?_
    case kis => k_is
    (repeat' (first | (k_unfold; (try dsimp only)) | (k_end; wrow_close) | ((fail_if_success (with_reducible (refine Mine.stop_here ?_ ?_; first | walk_at "s0" | exact Mine.p20 | exact Mine.p23 | exact Mine.p24 | exact Mine.p26 | exact Mine.p27 | exact Mine.p7))); walk1) | (dsimp only; (fail_if_success (with_reducible (refine Mine.stop_here ?_ ?_; first | walk_at "s0" | exact Mine.p20 | exact Mine.p23 | exact Mine.p24 | exact Mine.p26 | exact Mine.p27 | exact Mine.p7))); walk1) | (leave1; walk_say "STEP leave1"; try dsimp only) | walk_at "onk" | fail "no step"))
    obtain ⟨led, hled⟩ : ∃ led, led = (q8, methodObj (.ref 101) (.ref x)) :: (e, oe) :: (I, oI) :: (x, instObj 151 dx) :: (dx, dictOf (sEs w (.ref d) .none (.int 0 t5) (.int 0 t6) t1 t2 t3 t4) 4) :: (d, od) :: (s1.heap.objs.size + 1 + 1 + 1 + 1, wP) :: (s1.heap.objs.size + 1 + 1 + 1, wU) :: (new ++ srt) := ⟨_, rfl⟩
    have N9 : News s1.heap s1.heap.objs.size _ ((s1.heap.objs.size + 1 + 1, oO2) :: (s1.heap.objs.size + 1, oH) :: led) := fun p hp => N8 p (by
      rw [hled] at hp
      refine led_go hp ?_
      walk_at "led")
    have nl : ∀ p ∈ new, p ∈ (s1.heap.objs.size + 1 + 1, oO2) :: (s1.heap.objs.size + 1, oH) :: led := fun p hp => by
      rw [hled]
      exact .tail _ (.tail _ (.tail _ (.tail _ (.tail _ (.tail _ (.tail _ (.tail _ (.tail _ (.tail _ (List.mem_append_left _ hp))))))))))
    have hdk := hall _ (List.getElem_mem hkt)
    refine compB_eval (cl := [(Str.ofString "one", s1.heap.objs.size + 1 + 1)]) (by with_unfolding_all rfl) rfl (by decide) ?_
    (repeat' (first | (k_unfold; (try dsimp only)) | (k_end; wrow_close) | ((fail_if_success (with_reducible (refine Mine.stop_here ?_ ?_; first | walk_at "s0" | exact Mine.p20 | exact Mine.p23 | exact Mine.p24 | exact Mine.p26 | exact Mine.p27 | exact Mine.p7))); walk1) | (dsimp only; (fail_if_success (with_reducible (refine Mine.stop_here ?_ ?_; first | walk_at "s0" | exact Mine.p20 | exact Mine.p23 | exact Mine.p24 | exact Mine.p26 | exact Mine.p27 | exact Mine.p7))); walk1) | (leave1; walk_say "STEP leave1"; try dsimp only) | walk_at "onk" | fail "no step"))
    refine srcB_enum (BP := fun g => g = s1.heap) rfl rfl F8 N9 (nl _ hR) (by rw [hrl, sizeLine_eq]; decide) ?_
    intro e9 I9 h9 src lI9 hne9
    refine ⟨_, _, _, e9, _, _, _, _, [e9, I9], rfl, src _ _ _, ?_⟩
    rintro D C s₃ ⟨h10, rfl⟩ lD hDC
    refine ⟨fun j ys nw => nw = (s1.heap.objs.size + 1 + 1, oO2) :: (s1.heap.objs.size + 1, oH) :: led ∧ IntsAre ys (((List.range j).filter fun j => decide (rkF o j < rkF o k)).map Int.ofNat), ?_, ⟨rfl, .nil⟩, ?_, ?_⟩
    · rintro j ys nw ⟨rfl, _⟩ p hp
      rw [List.mem_singleton.mp hp]; exact nl _ hR
    · rintro j v g h tk own oC m₂ ys nw hj ⟨T9, tj, vx, rfl, hT9, hvx⟩ rfl F10 N10 how hC10 off10 ⟨n1, n2, n3⟩ ⟨rfl, hys10⟩
      obtain ⟨oe9, oI9, rfl⟩ := own2 how
      have hjt : j < ts.length := by lia
      have htj := hys.item hjt hvx
      obtain ⟨jA, rfl⟩ := htj.isRef
      have hdj := hall _ (List.getElem_mem hjt)
      have N10 : News s1.heap s1.heap.objs.size h ((e9, oe9) :: (I9, oI9) :: (C, oC) :: (D, lst ys) :: (s1.heap.objs.size + 1 + 1, oO2) :: (s1.heap.objs.size + 1, oH) :: led) := N10
      have U10 : ∀ o₁, UpdF C o₁ ((e9, oe9) :: (I9, oI9) :: (C, o₁) :: (D, lst ys) :: (s1.heap.objs.size + 1 + 1, oO2) :: (s1.heap.objs.size + 1, oH) :: led) (fun o₁ => (e9, oe9) :: (I9, oI9) :: (C, o₁) :: (D, lst ys) :: (s1.heap.objs.size + 1 + 1, oO2) :: (s1.heap.objs.size + 1, oH) :: led) := fun o₁ =>
        .tail (fun q => n2 (q ▸ .head _)) (.tail (fun q => n2 (q ▸ .tail _ (.head _))) (.head fun p hp => by
          rcases List.mem_cons.mp hp with rfl | hp
          · exact Ne.symm n1
          · exact (off10 p hp).1))
      refine pair_own rfl F10 N10 (U10 oC) (fun o₁ => U10 o₁) hT9 hC10 rfl rfl rfl ?_
      intro h11 oC11 tk11 F11 N11 hC11
      have hz1 : (fun z => if z = Str.ofString "two" then some (Value.ref jA) else if z = Str.ofString "j" then some (Value.int (j : Int) tj) else m₂ z) (Str.ofString "two") = some (Value.ref jA) := if_pos rfl
      have hz2 : (fun z => if z = Str.ofString "two" then some (Value.ref jA) else if z = Str.ofString "j" then some (Value.int (j : Int) tj) else m₂ z) (Str.ofString "j") = some (Value.int (j : Int) tj) := (if_neg (by decide)).trans (if_pos rfl)
      refine wpAny_tests_one ?_
      (try dsimp only)
      (repeat' (first | (k_unfold; (try dsimp only)) | (k_end; wrow_close) | ((fail_if_success (with_reducible (refine Mine.stop_here ?_ ?_; first | walk_at "s0" | exact Mine.p20 | exact Mine.p23 | exact Mine.p24 | exact Mine.p26 | exact Mine.p27 | exact Mine.p7))); walk1) | (dsimp only; (fail_if_success (with_reducible (refine Mine.stop_here ?_ ?_; first | walk_at "s0" | exact Mine.p20 | exact Mine.p23 | exact Mine.p24 | exact Mine.p26 | exact Mine.p27 | exact Mine.p7))); walk1) | (leave1; walk_say "STEP leave1"; try dsimp only) | walk_at "onk" | fail "no step"))
      refine' lessT 7 (t := ts[j]) (u := ts[k]) ?b1 ?b2 ?b3 ?b4 ?b5 ?b6 ?b7 KX T0 KD0 N11 (htj.keeps fun a vs n e => (N11 _ (.tail _ (.tail _ (.tail _ (.tail _ (nl _ e)))))).1) (htk.keeps fun a vs n e => (N11 _ (.tail _ (.tail _ (.tail _ (.tail _ (nl _ e)))))).1) hdj.2.1 hdk.2.1 hdj.2.2 hdk.2.2 ?_
      (case b1 => k_asm); (case b2 => k_asm); (case b3 => k_asm); (case b4 => k_asm); (case b5 => first | exact rfl | assumption); (case b6 => ktr_room); (case b7 => ktr_units)
      intro g12 h12 tk12 KT12 F12 B12 X12 T12 D12 N12
      have F12 := Fr.back KT12 F12
      have N12 := News.back KT12 N12
      clear B12 X12 T12 D12 KT12
      rw [hrk.less hall hjt hkt]
      have etk : ((List.range (j + 1)).filter fun j => decide (rkF o j < rkF o k)) = ((List.range j).filter fun j => decide (rkF o j < rkF o k)) ++ if decide (rkF o j < rkF o k) = true then [j] else [] := by
        rw [List.range_succ, List.filter_append, List.filter_cons, List.filter_nil]
      (try dsimp only)
      cases hq : decide (rkF o j < rkF o k) with
      | true =>
        (repeat' (first | (k_unfold; (try dsimp only)) | (k_end; wrow_close) | ((fail_if_success (with_reducible (refine Mine.stop_here ?_ ?_; first | walk_at "s0" | exact Mine.p20 | exact Mine.p23 | exact Mine.p24 | exact Mine.p26 | exact Mine.p27 | exact Mine.p7))); walk1) | (dsimp only; (fail_if_success (with_reducible (refine Mine.stop_here ?_ ?_; first | walk_at "s0" | exact Mine.p20 | exact Mine.p23 | exact Mine.p24 | exact Mine.p26 | exact Mine.p27 | exact Mine.p7))); walk1) | (leave1; walk_say "STEP leave1"; try dsimp only) | walk_at "onk" | fail "no step"))
        (try dsimp only [qk])
        refine ⟨s1.heap, _, _, oC11, _, _, rfl, rfl, F12, N12, hC11, off10, rfl, ?_⟩
        rw [etk, if_pos hq, List.map_append]
        exact hys10.append (.cons _ tj .nil)
      | false =>
        (repeat' (first | (k_unfold; (try dsimp only)) | (k_end; wrow_close) | ((fail_if_success (with_reducible (refine Mine.stop_here ?_ ?_; first | walk_at "s0" | exact Mine.p20 | exact Mine.p23 | exact Mine.p24 | exact Mine.p26 | exact Mine.p27 | exact Mine.p7))); walk1) | (dsimp only; (fail_if_success (with_reducible (refine Mine.stop_here ?_ ?_; first | walk_at "s0" | exact Mine.p20 | exact Mine.p23 | exact Mine.p24 | exact Mine.p26 | exact Mine.p27 | exact Mine.p7))); walk1) | (leave1; walk_say "STEP leave1"; try dsimp only) | walk_at "onk" | fail "no step"))
        (try dsimp only [qk])
        refine ⟨s1.heap, _, _, oC11, _, _, rfl, rfl, F12, N12, hC11, off10, rfl, ?_⟩
        rw [etk, if_neg (by rw [hq]; exact Bool.false_ne_true), List.append_nil]
        exact hys10
    · rintro g h tk ys oC m₂ nw rfl F10 N10 hC10 off10 hCD ⟨rfl, hys10⟩
      rw [hrl] at hys10
      refine aend F10 N10 hC10 ?_ ?_
      · intro p hp
        rcases List.mem_cons.mp hp with rfl | hp
        · exact Ne.symm hCD
        · exact (off10 p hp).1
      intro h12 F12 N12
      (try dsimp only)
      have hyl := hys10.length
      have hpl := preds_len o k
      rw [List.length_map] at hyl
      have hyp : IntsAre ys (predsN o k) := hys10
      have hyl : ys.length ≤ 4 := by have := hyp.length; lia
      refine star_seq (ws := ys) F12 N12 (.head _) rfl rfl (.inl rfl) (by simp) (by rw [List.size_toArray, sizeLine_eq]; lia) ?_
      intro h13 F13 N13
      (try dsimp only)
      (repeat' (first | (k_unfold; (try dsimp only)) | (k_end; wrow_close) | ((fail_if_success (with_reducible (refine Mine.stop_here ?_ ?_; first | walk_at "s0" | exact Mine.p20 | exact Mine.p23 | exact Mine.p24 | exact Mine.p26 | exact Mine.p27 | exact Mine.p7))); walk1) | (dsimp only; (fail_if_success (with_reducible (refine Mine.stop_here ?_ ?_; first | walk_at "s0" | exact Mine.p20 | exact Mine.p23 | exact Mine.p24 | exact Mine.p26 | exact Mine.p27 | exact Mine.p7))); walk1) | (leave1; walk_say "STEP leave1"; try dsimp only) | walk_at "onk" | fail "no step"))
      · exact methP N13 (by rw [hled]; exact .tail _ (.tail _ (.tail _ (.head _)))) (KX.keeps F13.keep)
      rw [List.append_nil]
      have N14 : News s1.heap s1.heap.objs.size h13 ((x, instObj 151 dx) :: (dx, dictOf (sEs w (.ref d) .none (.int 0 t5) (.int 0 t6) t1 t2 t3 t4) 4) :: (d, od) :: (((e, oe) :: (I, oI) :: (s1.heap.objs.size + 1 + 1 + 1 + 1, wP) :: (s1.heap.objs.size + 1 + 1 + 1, wU) :: (s1.heap.objs.size + 1 + 1, oO2) :: (s1.heap.objs.size + 1, oH) :: new) ++ srt)) := fun p hp => N13 p (by
        rw [hled]
        refine led_go hp ?_
        walk_at "led")
      refine call_meth N13 (q := q8) (f := .ref 101) (self := .ref x) (by rw [hled]; exact .tail _ (.tail _ (.tail _ (.head _)))) ?_
      have P14 : Apart x dx d ((e, oe) :: (I, oI) :: (s1.heap.objs.size + 1 + 1 + 1 + 1, wP) :: (s1.heap.objs.size + 1 + 1 + 1, wU) :: (s1.heap.objs.size + 1 + 1, oO2) :: (s1.heap.objs.size + 1, oH) :: new) srt := ((P.same (rest' := (s1.heap.objs.size + 1 + 1 + 1 + 1, wP) :: (s1.heap.objs.size + 1 + 1 + 1, wU) :: (s1.heap.objs.size + 1 + 1, oO2) :: (s1.heap.objs.size + 1, oH) :: new) rfl).cons i1 i2 i3 fun q hq => (e4 q (List.mem_append_right _ hq)).2).cons e1 e2 e3 fun q hq => (e4 q (List.mem_append_right _ hq)).1
      have hkl := stS_keys o k
      refine' addT (pv := ys) (ps := predsN o k) (rest := (e, oe) :: (I, oI) :: (s1.heap.objs.size + 1 + 1 + 1 + 1, wP) :: (s1.heap.objs.size + 1 + 1 + 1, wU) :: (s1.heap.objs.size + 1 + 1, oO2) :: (s1.heap.objs.size + 1, oH) :: new) ?b1 ?b2 ?b3 ?b4 ?b5 ?b6 ?b7 N14 hdm hD Nd P14 (stS_out o k) (by lia) (fun j => Nat.le_trans (stS_succ o k j) (by lia)) hyp (preds_not o k) hyl ?_
      (case b1 => k_asm); (case b2 => k_asm); (case b3 => k_asm); (case b4 => k_asm); (case b5 => first | exact rfl | assumption); (case b6 => ktr_room); (case b7 => ktr_units)
      intro h15 tk15 od15 nA15 dA15 sA15 srt15 F15 N15 hD15 Nd15 P15
      clear src hled
      (try dsimp only)
      (repeat' (first | (k_unfold; (try dsimp only)) | (k_end; wrow_close) | ((fail_if_success (with_reducible (refine Mine.stop_here ?_ ?_; first | walk_at "s0" | exact Mine.p20 | exact Mine.p23 | exact Mine.p24 | exact Mine.p26 | exact Mine.p27 | exact Mine.p7))); walk1) | (dsimp only; (fail_if_success (with_reducible (refine Mine.stop_here ?_ ?_; first | walk_at "s0" | exact Mine.p20 | exact Mine.p23 | exact Mine.p24 | exact Mine.p26 | exact Mine.p27 | exact Mine.p7))); walk1) | (leave1; walk_say "STEP leave1"; try dsimp only) | walk_at "onk" | fail "no step"))
      refine ⟨h15, _, _, (x, instObj 151 dx) :: (dx, dictOf (sEs w (.ref d) .none (.int 0 t5) (.int 0 t6) t1 t2 t3 t4) 4) :: (d, od15) :: (((s1.heap.objs.size + 1 + 1 + 1 + 1, wP) :: (s1.heap.objs.size + 1 + 1 + 1, wU) :: (s1.heap.objs.size + 1 + 1, oO2) :: (s1.heap.objs.size + 1, oH) :: new) ++ srt15), rfl, F15, fun p hp => N15 p ?_, fun p hp q hq => ?_, od15, nA15, dA15, sA15, srt15, oO2, rfl, hD15, Nd15, P15.drop (own := [(e, oe), (I, oI)]), (if_neg (by decide)).trans hm1, _, hoO2⟩
      · refine led_go hp ?_
        walk_at "led"
      · have far : ∀ p ∈ [(e, oe), (I, oI)], (p.1 ≠ x ∧ p.1 ≠ dx ∧ p.1 ≠ d) ∧ ∀ q ∈ srt15, p.1 ≠ q.1 := fun p hp => by
          rcases List.mem_cons.mp hp with rfl | hp
          · exact ⟨⟨e1, e2, e3⟩, P15.rs _ (.head _)⟩
          · rw [List.mem_singleton.mp hp]; exact ⟨⟨i1, i2, i3⟩, P15.rs _ (.tail _ (.head _))⟩
        rcases List.mem_cons.mp hq with rfl | hq
        · exact (far p hp).1.1
        rcases List.mem_cons.mp hq with rfl | hq
        · exact (far p hp).1.2.1
        rcases List.mem_cons.mp hq with rfl | hq
        · exact (far p hp).1.2.2
        rcases List.mem_append.mp hq with hq | hq
        · have e6 : ∀ q ∈ (s1.heap.objs.size + 1 + 1 + 1 + 1, wP) :: (s1.heap.objs.size + 1 + 1 + 1, wU) :: (s1.heap.objs.size + 1 + 1, oO2) :: (s1.heap.objs.size + 1, oH) :: new, e ≠ q.1 ∧ I ≠ q.1 := fun q hq => by
            rcases List.mem_cons.mp hq with rfl | hq
            · exact e4 _ (.head _)
            rcases List.mem_cons.mp hq with rfl | hq
            · exact e4 _ (.tail _ (.head _))
            rcases List.mem_cons.mp hq with rfl | hq
            · exact e4 (s1.heap.objs.size + 1 + 1, oO) (.tail _ (.tail _ (.head _)))
            rcases List.mem_cons.mp hq with rfl | hq
            · exact e4 _ (.tail _ (.tail _ (.tail _ (.head _))))
            · exact e4 q (List.mem_append_left _ (.tail _ (.tail _ (.tail _ (.tail _ hq)))))
          rcases List.mem_cons.mp hp with rfl | hp
          · exact (e6 q hq).1
          · rw [List.mem_singleton.mp hp]; exact (e6 q hq).2
        · exact (far p hp).2 q hq
  case done =>
    rintro m5 nw h5 tk5 ⟨od, nA, dA, sA, srt, oO, rfl, hD, Nd, P, hm5, ⟨vO, hvO⟩⟩ F5 N5
    rw [hrl] at hD Nd
    (try clear F2); (try clear N2); (try clear F3); (try clear N3); (try clear P2); (try clear hM2); (try clear hod)
    have F5 : Fr s1.heap s1.heap.objs.size h5 m5 := F5
    obtain ⟨rst, hrst⟩ : ∃ l, l = (s1.heap.objs.size + 1 + 1 + 1 + 1, wP) :: (s1.heap.objs.size + 1 + 1 + 1, wU) :: (s1.heap.objs.size + 1 + 1, oO) :: (s1.heap.objs.size + 1, oH) :: new := ⟨_, rfl⟩
    rw [← hrst] at P
    have N5 : News s1.heap s1.heap.objs.size h5 ((x, instObj 151 dx) :: (dx, dictOf (sEs w (.ref d) .none (.int 0 t5) (.int 0 t6) t1 t2 t3 t4) 4) :: (d, od) :: (rst ++ srt)) := hrst ▸ N5
    (try dsimp only)
    (repeat' (first | (k_unfold; (try dsimp only)) | (k_end; wrow_close) | ((fail_if_success (with_reducible (refine Mine.stop_here ?_ ?_; first | walk_at "s0" | exact Mine.p20 | exact Mine.p23 | exact Mine.p24 | exact Mine.p26 | exact Mine.p27 | exact Mine.p7))); walk1) | (dsimp only; (fail_if_success (with_reducible (refine Mine.stop_here ?_ ?_; first | walk_at "s0" | exact Mine.p20 | exact Mine.p23 | exact Mine.p24 | exact Mine.p26 | exact Mine.p27 | exact Mine.p7))); walk1) | (leave1; walk_say "STEP leave1"; try dsimp only) | walk_at "onk" | fail "no step"))
    have hup : ∀ k ∈ (stS o 4).keys, ∀ j ∈ (stS o 4).succ k, j ∈ (stS o 4).keys ∧ rkF o k.toNat < rkF o j.toNat := sorter_up o
    have hkl := stS_keys o 4
    refine' prepareT (rk := fun k => rkF o k.toNat) (rest := rst) ?b1 ?b2 ?b3 ?b4 ?b5 ?b6 ?b7 KX T0 KD0 N5 hdm hD Nd P hup (fun k _ => Nat.le_trans (stS_succ o 4 k) (by decide)) (by lia) ?_
    (case b1 => k_asm); (case b2 => k_asm); (case b3 => k_asm); (case b4 => k_asm); (case b5 => first | exact rfl | assumption); (case b6 => ktr_room); (case b7 => ktr_units)
    intro g9 h9 tk9 r rv9 nr9 KT9 F9 B9 X9 T9 D9 N9 hrv9 lr
    have F9 := Fr.back KT9 F9
    have N9 := News.back KT9 N9
    clear B9 X9 T9 D9 KT9
    (try dsimp only)
    (repeat' (first | (k_unfold; (try dsimp only)) | (k_end; wrow_close) | ((fail_if_success (with_reducible (refine Mine.stop_here ?_ ?_; first | walk_at "s0" | exact Mine.p20 | exact Mine.p23 | exact Mine.p24 | exact Mine.p26 | exact Mine.p27 | exact Mine.p7))); walk1) | (dsimp only; (fail_if_success (with_reducible (refine Mine.stop_here ?_ ?_; first | walk_at "s0" | exact Mine.p20 | exact Mine.p23 | exact Mine.p24 | exact Mine.p26 | exact Mine.p27 | exact Mine.p7))); walk1) | (leave1; walk_say "STEP leave1"; try dsimp only) | walk_at "onk" | fail "no step"))
    rename Fr _ _ _ _ => F10
    rename News _ _ _ _ => N10
    rename_i rl _ lrl _
    have hrx : x < r := lr _ (.head _)
    have hrdx : dx < r := lr _ (.tail _ (.head _))
    have hrd : d < r := lr _ (.tail _ (.tail _ (.head _)))
    have lrt : ∀ p ∈ rst ++ srt, @LT.lt Nat _ p.1 rl := fun p hp => allLt_mem lrl.2.2.2.2 p hp
    have P10 : Apart4 x dx d r ((rl, listOf #[] 0) :: rst) srt := by
      refine ⟨P.cons (Nat.ne_of_gt lrl.1) (Nat.ne_of_gt lrl.2.1) (Nat.ne_of_gt lrl.2.2.1) fun q hq => Nat.ne_of_gt (lrt q (List.mem_append_right _ hq)), Nat.ne_of_lt hrx, Nat.ne_of_lt hrdx, Nat.ne_of_lt hrd, fun p hp => ?_⟩
      rcases List.mem_cons.mp hp with rfl | hp
      · exact Nat.ne_of_gt lrl.2.2.2.1
      · exact Nat.ne_of_lt (lr _ (.tail _ (.tail _ (.tail _ hp))))
    have rk0 := round_len o 0
    refine' get_ready (rest := (rl, listOf #[] 0) :: rst) ?b1 ?b2 ?b3 ?b4 ?b5 ?b6 ?b7 ?b8 hdm hD Nd P10 hrv9 (round_keys o 0) (Nat.le_trans rk0.1 (by decide)) ?_
    (case b1 => k_asm); (case b2 => k_asm); (case b3 => k_asm); (case b4 => k_asm); (case b5 => first | exact rfl | assumption); (case b6 => ktr_room); (case b7 => ktr_units)
    (case b8 => exact fun p hp => N10 p (by
      refine led_go hp ?_
      walk_at "led"))
    intro h11 tk11 T11 srt11 tpo11 nr11 F11 N11 Nd11 P11 hT11
    have hrlr : ∀ p ∈ rst, p.1 ≠ rl := fun p hp => Nat.ne_of_lt (lrt p (List.mem_append_left _ hp))
    clear F10 N10 Nd P10 P lrl lrt lr hrx hrdx hrd hup hkl
    (try dsimp only)
    (repeat' (first | (k_unfold; (try dsimp only)) | (k_end; wrow_close) | ((fail_if_success (with_reducible (refine Mine.stop_here ?_ ?_; first | walk_at "s0" | exact Mine.p20 | exact Mine.p23 | exact Mine.p24 | exact Mine.p26 | exact Mine.p27 | exact Mine.p7))); walk1) | (dsimp only; (fail_if_success (with_reducible (refine Mine.stop_here ?_ ?_; first | walk_at "s0" | exact Mine.p20 | exact Mine.p23 | exact Mine.p24 | exact Mine.p26 | exact Mine.p27 | exact Mine.p7))); walk1) | (leave1; walk_say "STEP leave1"; try dsimp only) | walk_at "onk" | fail "no step"))
    rename Fr _ _ _ _ => F12
    rename News _ _ _ _ => N12
    have hTr : T11 ≠ rl := Ne.symm (hT11 (rl, listOf #[] 0) (.tail _ (.tail _ (.tail _ (.tail _ (.head _))))))
    have m51 : ∀ v : Value, (fun y => if y = Str.ofString "fresh" then some v else if y = Str.ofString "rounds" then some (Value.ref rl) else m5 y) (Str.ofString "sorter") = some (.ref x) := fun v => (if_neg (by decide)).trans ((if_neg (by decide)).trans hm5)
    have m52 : ∀ v : Value, (fun y => if y = Str.ofString "fresh" then some v else if y = Str.ofString "rounds" then some (Value.ref rl) else m5 y) (Str.ofString "rounds") = some (.ref rl) := fun v => (if_neg (by decide)).trans (if_pos rfl)
    refine while_inv (fun n s' => Ex11 fun i h' tk' m' T fv srt rvs nrl rt nrr => Ex4 fun po tpo nf tnf => Cj11 (s' = { s1 with heap := h', toks := tk' }) (Fr s1.heap s1.heap.objs.size h' m') (m' (Str.ofString "sorter") = some (.ref x) ∧ m' (Str.ofString "rounds") = some (.ref rl) ∧ m' (Str.ofString "fresh") = some (.ref T))
      (News s1.heap s1.heap.objs.size h' ((T, ({ cls := .type "tuple", data := .seq (List.toArray fv) } : Obj)) :: (x, instObj 151 dx) :: (dx, dictOf (sEs w (.ref d) (.ref r) (.int po tpo) (.int nf tnf) t1 t2 t3 t4) 4) :: (d, od) :: (r, listOf #[] nrr) :: (((rl, listOf (List.toArray rvs) nrl) :: (rt ++ rst)) ++ srt)))
      (Nodes nA dA sA (stS o 4).keys (outAll (roundS o i).1 (roundS o i).2) (stS o 4).succ srt) (Apart4 x dx d r ((rl, listOf (List.toArray rvs) nrl) :: (rt ++ rst)) srt) (IntsAre fv (roundS o i).2) (RowsL rt rvs ((List.range i).map (rowS o))) (i ≤ nR o ∧ n = nR o - i) (∀ p ∈ (x, od) :: (dx, od) :: (d, od) :: (r, od) :: (((rl, od) :: (rt ++ rst)) ++ srt), p.1 ≠ T) ((∀ p ∈ rt ++ rst, p.1 ≠ rl) ∧ ∀ p ∈ rt, @LT.lt Nat _ dx p.1)) (by passes_own) ?_ (nR o) ?_
    rotate_left
    · refine ⟨0, _, _, _, T11, rv9, srt11, [], 0, [], nr11, _, _, _, _, rfl, F12, ⟨m51 _, m52 _, if_pos rfl⟩, N12, Nd11, P11, hrv9, .nil, ⟨Nat.zero_le _, rfl⟩, fun p hp => ?_, hrlr, fun p hp => nomatch hp⟩
      rcases List.mem_cons.mp hp with rfl | hp
      · exact hT11 (x, instObj 151 dx) (.head _)
      rcases List.mem_cons.mp hp with rfl | hp
      · exact hT11 (dx, dictOf [] 0) (.tail _ (.head _))
      rcases List.mem_cons.mp hp with rfl | hp
      · exact hT11 (d, od) (.tail _ (.tail _ (.head _)))
      rcases List.mem_cons.mp hp with rfl | hp
      · exact hT11 (r, listOf #[] nr11) (.tail _ (.tail _ (.tail _ (.head _))))
      rcases List.mem_cons.mp hp with rfl | hp
      · exact hT11 (rl, listOf #[] 0) (.tail _ (.tail _ (.tail _ (.tail _ (.head _)))))
      · exact hT11 p (.tail _ (.tail _ (.tail _ (.tail _ (.tail _ hp)))))
    · rintro n s' ⟨i, h', tk', m', T, fv, srt, rvs, nrl, rt, nrr, po, tpo, nf, tnf, rfl, F13, ⟨k1, k2, k3⟩, N13, Nd13, P13, hfv, hrows, ⟨hin, rfl⟩, hTo, hrl2, hrt⟩
      (try clear F12); (try clear N12); (try clear Nd11); (try clear P11); (try clear F11); (try clear N11)
      (repeat' (first | (k_unfold; (try dsimp only)) | (k_end; wrow_close) | ((fail_if_success (with_reducible (refine Mine.stop_here ?_ ?_; first | walk_at "s0" | exact Mine.p20 | exact Mine.p23 | exact Mine.p24 | exact Mine.p26 | exact Mine.p27 | exact Mine.p7))); walk1) | (dsimp only; (fail_if_success (with_reducible (refine Mine.stop_here ?_ ?_; first | walk_at "s0" | exact Mine.p20 | exact Mine.p23 | exact Mine.p24 | exact Mine.p26 | exact Mine.p27 | exact Mine.p7))); walk1) | (leave1; walk_say "STEP leave1"; try dsimp only) | walk_at "onk" | fail "no step"))
      rename Fr _ _ _ _ => F14
      rename News _ _ _ _ => N14
      rename_i E0 _ lE0
      have rki := round_len o ⟨i, by have := nR_le o; lia⟩
      have rkk := round_keys o ⟨i, by have := nR_le o; lia⟩
      have rko := round_ok o ⟨i, by have := nR_le o; lia⟩
      dsimp only at rki rkk rko
      have hfl := hfv.length
      refine tup_ne (ns := (roundS o i).2) (N14 _ (.tail _ (.head _))).1 (N14 _ (.head _)).1 hfv ?_ ?_
      · k_units
      have N14 : News s1.heap s1.heap.objs.size _ ((T, ({ cls := .type "tuple", data := .seq (List.toArray fv) } : Obj)) :: (x, instObj 151 dx) :: (dx, dictOf (sEs w (.ref d) (.ref r) (.int po tpo) (.int nf tnf) t1 t2 t3 t4) 4) :: (d, od) :: (r, listOf #[] nrr) :: (rl, listOf (List.toArray rvs) nrl) :: ((rt ++ rst) ++ srt)) := fun p hp => N14 p (.tail _ hp)
      clear lE0
      by_cases hW : (roundS o i).2 = []
      · rw [decide_eq_true hW]
        (repeat' (first | (k_unfold; (try dsimp only)) | (k_end; wrow_close) | ((fail_if_success (with_reducible (refine Mine.stop_here ?_ ?_; first | walk_at "s0" | exact Mine.p20 | exact Mine.p23 | exact Mine.p24 | exact Mine.p26 | exact Mine.p27 | exact Mine.p7))); walk1) | (dsimp only; (fail_if_success (with_reducible (refine Mine.stop_here ?_ ?_; first | walk_at "s0" | exact Mine.p20 | exact Mine.p23 | exact Mine.p24 | exact Mine.p26 | exact Mine.p27 | exact Mine.p7))); walk1) | (leave1; walk_say "STEP leave1"; try dsimp only) | walk_at "onk" | fail "no step"))
        obtain rfl : i = nR o := Nat.le_antisymm hin (rki.2.1.mp hW)
        have f1 : ∀ p ∈ rt ++ new, p.1 ≠ rl := fun p hp => by
          rcases List.mem_append.mp hp with hp | hp
          · exact hrl2 p (List.mem_append_left _ hp)
          · exact hrl2 p (List.mem_append_right _ (by rw [hrst]; exact .tail _ (.tail _ (.tail _ (.tail _ hp)))))
        have f2 : (s1.heap.objs.size + 1 + 1 + 1) ≠ rl := hrl2 (s1.heap.objs.size + 1 + 1 + 1, wU) (List.mem_append_right _ (by rw [hrst]; exact .tail _ (.head _)))
        have f3 : (s1.heap.objs.size + 1 + 1 + 1 + 1) ≠ rl := hrl2 (s1.heap.objs.size + 1 + 1 + 1 + 1, wP) (List.mem_append_right _ (by rw [hrst]; exact .head _))
        have N15 : News s1.heap s1.heap.objs.size _ ((s1.heap.objs.size + 1, oH) :: (s1.heap.objs.size + 1 + 1 + 1, wU) :: (s1.heap.objs.size + 1 + 1 + 1 + 1, wP) :: (rl, listOf (List.toArray rvs) nrl) :: (rt ++ new)) := fun p hp => N14 p (by
          rw [hrst]
          refine led_go hp ?_
          walk_at "led")
        clear hTo Nd13 P13 rki rkk rko hfv hfl hW N14
        obtain ⟨led, hled⟩ : ∃ led, led = (s1.heap.objs.size + 1, oH) :: (s1.heap.objs.size + 1 + 1 + 1, wU) :: (s1.heap.objs.size + 1 + 1 + 1 + 1, wP) :: (rl, listOf (List.toArray rvs) nrl) :: (rt ++ new) := ⟨_, rfl⟩
        rw [← hled] at N15
        have cN : ∀ p ∈ new, p ∈ led := fun p hp => by rw [hled]; exact .tail _ (.tail _ (.tail _ (.tail _ (List.mem_append_right _ hp))))
        have cH : (s1.heap.objs.size + 1, oH) ∈ led := by rw [hled]; exact .head _
        refine wpAny_Assign_Name ?_ (by with_unfolding_all rfl)
        refine compB_eval (cl := [(Str.ofString "hydras", s1.heap.objs.size + 1)]) (by with_unfolding_all rfl) rfl (by decide) ?_
        (repeat' (first | (k_unfold; (try dsimp only)) | (k_end; wrow_close) | ((fail_if_success (with_reducible (refine Mine.stop_here ?_ ?_; first | walk_at "s0" | exact Mine.p20 | exact Mine.p23 | exact Mine.p24 | exact Mine.p26 | exact Mine.p27 | exact Mine.p7))); walk1) | (dsimp only; (fail_if_success (with_reducible (refine Mine.stop_here ?_ ?_; first | walk_at "s0" | exact Mine.p20 | exact Mine.p23 | exact Mine.p24 | exact Mine.p26 | exact Mine.p27 | exact Mine.p7))); walk1) | (leave1; walk_say "STEP leave1"; try dsimp only) | walk_at "onk" | fail "no step"))
        refine srcB_enum (BP := fun g => g = s1.heap) rfl rfl F14 N15 (cN _ hR) (by rw [hrl, sizeLine_eq]; decide) ?_
        intro e1 I1 h16 src1 lI1 hne1
        refine ⟨_, _, _, e1, _, _, _, _, [e1, I1], rfl, src1 _ _ _, ?_⟩
        rintro D C s₃ ⟨h17, rfl⟩ lD hDC
        refine ⟨fun j ys nw => nw = led ∧ HysIn new ys ((unlS o j).map fun k => ts.getD k (.node [])), ?_, ⟨rfl, .nil⟩, ?_, ?_⟩
        · rintro j ys nw ⟨rfl, _⟩ p hp
          rw [List.mem_singleton.mp hp]; exact cN _ hR
        · rintro j v g h tk own oC m₂ ys nw hj ⟨T9, tj, vx, rfl, hT9, hvx⟩ rfl F10 N10 how hC10 off10 ⟨n1, n2, n3⟩ ⟨rfl, hys10⟩
          obtain ⟨oe9, oI9, rfl⟩ := own2 how
          have hjt : j < ts.length := by lia
          have htj := hys.item hjt hvx
          obtain ⟨jA, rfl⟩ := htj.isRef
          have N10 : News s1.heap s1.heap.objs.size h ((e1, oe9) :: (I1, oI9) :: (C, oC) :: (D, lst ys) :: nw) := N10
          have U10 : ∀ o₁, UpdF C o₁ ((e1, oe9) :: (I1, oI9) :: (C, o₁) :: (D, lst ys) :: nw) (fun o₁ => (e1, oe9) :: (I1, oI9) :: (C, o₁) :: (D, lst ys) :: nw) := fun o₁ =>
            .tail (fun q => n2 (q ▸ .head _)) (.tail (fun q => n2 (q ▸ .tail _ (.head _))) (.head fun p hp => by
              rcases List.mem_cons.mp hp with rfl | hp
              · exact Ne.symm n1
              · exact (off10 p hp).1))
          refine pair_own rfl F10 N10 (U10 oC) (fun o₁ => U10 o₁) hT9 hC10 rfl rfl rfl ?_
          intro h11 oC11 tk11 F11 N11 hC11
          have hz1 : (fun z => if z = Str.ofString "one" then some (Value.ref jA) else if z = Str.ofString "k" then some (Value.int (j : Int) tj) else m₂ z) (Str.ofString "one") = some (Value.ref jA) := if_pos rfl
          have hz2 : (fun z => if z = Str.ofString "one" then some (Value.ref jA) else if z = Str.ofString "k" then some (Value.int (j : Int) tj) else m₂ z) (Str.ofString "k") = some (Value.int (j : Int) tj) := (if_neg (by decide)).trans (if_pos rfl)
          refine wpAny_tests_one ?_
          (try dsimp only)
          (repeat' (first | (k_unfold; (try dsimp only)) | (k_end; wrow_close) | ((fail_if_success (with_reducible (refine Mine.stop_here ?_ ?_; first | walk_at "s0" | exact Mine.p20 | exact Mine.p23 | exact Mine.p24 | exact Mine.p26 | exact Mine.p27 | exact Mine.p7 | exact Mine.p14 | exact Mine.p18))); walk1) | (dsimp only; (fail_if_success (with_reducible (refine Mine.stop_here ?_ ?_; first | walk_at "s0" | exact Mine.p20 | exact Mine.p23 | exact Mine.p24 | exact Mine.p26 | exact Mine.p27 | exact Mine.p7 | exact Mine.p14 | exact Mine.p18))); walk1) | (leave1; walk_say "STEP leave1"; try dsimp only) | walk_at "onk" | fail "no step"))
          refine slice_list (items := rv.toArray) (lo := none) (hi := some (j : Int)) F11 N11 (N11.isList (.tail _ (.tail _ (.tail _ (.tail _ (cN _ hR)))))) .none (.int _ _) ?_ (hsz := by rw [List.size_toArray, hrl, sizeLine_eq]; decide)
          intro h12 F12 N12
          rw [slicePick_upto'] at N12
          (try dsimp only)
          (repeat' (first | (k_unfold; (try dsimp only)) | (k_end; wrow_close) | ((fail_if_success (with_reducible (refine Mine.stop_here ?_ ?_; first | walk_at "s0" | exact Mine.p20 | exact Mine.p23 | exact Mine.p24 | exact Mine.p26 | exact Mine.p27 | exact Mine.p7 | exact Mine.p14 | exact Mine.p18))); walk1) | (dsimp only; (fail_if_success (with_reducible (refine Mine.stop_here ?_ ?_; first | walk_at "s0" | exact Mine.p20 | exact Mine.p23 | exact Mine.p24 | exact Mine.p26 | exact Mine.p27 | exact Mine.p7 | exact Mine.p14 | exact Mine.p18))); walk1) | (leave1; walk_say "STEP leave1"; try dsimp only) | walk_at "onk" | fail "no step"))
          have htk : HyAt h12 (.ref jA) ts[j] := htj.keeps fun a vs n e => (N12 _ (.tail _ (.tail _ (.tail _ (.tail _ (.tail _ (cN _ e))))))).1
          have hyk : HysAt h12 (rv.take j) (ts.take j) := HysG.take (hys.keeps fun a vs n e => (N12 _ (.tail _ (.tail _ (.tail _ (.tail _ (.tail _ (cN _ e))))))).1) j
          refine hys_notin (vs := rv.take j) (n := 0) (ts := ts.take j) (t := ts[j]) (N12 _ (.head _)).1 hyk htk ?_ ?_
          · have : depthL (ts.take j) ≤ 7 := depthL_le fun t ht => (hall t (List.mem_of_mem_take ht)).2.1
            k_units
          rw [hrk.mem hjt]
          have etk := unlS_succ o j
          have N13 : News s1.heap s1.heap.objs.size h12 ((e1, oe9) :: (I1, oI9) :: (C, oC11) :: (D, lst ys) :: nw) := fun p hp => N12 p (.tail _ hp)
          (try dsimp only)
          cases hq : (List.range j).any fun i => decide (rkF o i = rkF o j) with
          | true =>
            (repeat' (first | (k_unfold; (try dsimp only)) | (k_end; wrow_close) | ((fail_if_success (with_reducible (refine Mine.stop_here ?_ ?_; first | walk_at "s0" | exact Mine.p20 | exact Mine.p23 | exact Mine.p24 | exact Mine.p26 | exact Mine.p27 | exact Mine.p7))); walk1) | (dsimp only; (fail_if_success (with_reducible (refine Mine.stop_here ?_ ?_; first | walk_at "s0" | exact Mine.p20 | exact Mine.p23 | exact Mine.p24 | exact Mine.p26 | exact Mine.p27 | exact Mine.p7))); walk1) | (leave1; walk_say "STEP leave1"; try dsimp only) | walk_at "onk" | fail "no step"))
            (try dsimp only [qk])
            refine ⟨s1.heap, _, _, oC11, _, _, rfl, rfl, F12, N13, hC11, off10, rfl, ?_⟩
            rw [etk, hq]
            simp only [Bool.not_true, Bool.false_eq_true, if_false, List.append_nil]
            exact hys10
          | false =>
            (repeat' (first | (k_unfold; (try dsimp only)) | (k_end; wrow_close) | ((fail_if_success (with_reducible (refine Mine.stop_here ?_ ?_; first | walk_at "s0" | exact Mine.p20 | exact Mine.p23 | exact Mine.p24 | exact Mine.p26 | exact Mine.p27 | exact Mine.p7))); walk1) | (dsimp only; (fail_if_success (with_reducible (refine Mine.stop_here ?_ ?_; first | walk_at "s0" | exact Mine.p20 | exact Mine.p23 | exact Mine.p24 | exact Mine.p26 | exact Mine.p27 | exact Mine.p7))); walk1) | (leave1; walk_say "STEP leave1"; try dsimp only) | walk_at "onk" | fail "no step"))
            (try dsimp only [qk])
            refine ⟨s1.heap, _, _, oC11, _, _, rfl, rfl, F12, N13, hC11, off10, rfl, ?_⟩
            rw [etk, hq]
            simp only [Bool.not_false, if_true, List.map_append, List.map_cons, List.map_nil]
            refine hys10.append (.cons ?_ .nil)
            rw [List.getD_eq_getElem?_getD, List.getElem?_eq_getElem hjt]
            exact htj
        · rintro g h tk ys oC m₂ nw rfl F10 N10 hC10 off10 hCD ⟨rfl, hys10⟩
          rw [hrl] at hys10
          refine aend F10 N10 hC10 ?_ ?_
          · intro p hp
            rcases List.mem_cons.mp hp with rfl | hp
            · exact Ne.symm hCD
            · exact (off10 p hp).1
          intro h12 F12 N12
          (try dsimp only)
          have d1 : @LT.lt Nat _ (s1.heap.objs.size + 1) D := lD _ (by rw [hled]; exact .head _)
          have d2 : @LT.lt Nat _ (s1.heap.objs.size + 1 + 1 + 1) D := lD _ (by rw [hled]; exact .tail _ (.head _))
          have d3 : @LT.lt Nat _ (s1.heap.objs.size + 1 + 1 + 1 + 1) D := lD _ (by rw [hled]; exact .tail _ (.tail _ (.head _)))
          have g3 : ∀ p ∈ rt ++ new, p.1 ≠ s1.heap.objs.size + 1 + 1 + 1 := fun p hp => by
            rcases List.mem_append.mp hp with hp | hp
            · exact Nat.ne_of_gt (Nat.lt_trans w3 (hrt p hp))
            · exact u3 p hp
          have g4 : ∀ p ∈ rt ++ new, p.1 ≠ s1.heap.objs.size + 1 + 1 + 1 + 1 := fun p hp => by
            rcases List.mem_append.mp hp with hp | hp
            · exact Nat.ne_of_gt (Nat.lt_trans w4 (hrt p hp))
            · exact u4 p hp
          rw [hled] at N12
          (repeat' (first | (k_unfold; (try dsimp only)) | (k_end; wrow_close) | ((fail_if_success (with_reducible (refine Mine.stop_here ?_ ?_; first | walk_at "s0" | exact Mine.p20 | exact Mine.p23 | exact Mine.p24 | exact Mine.p26 | exact Mine.p27 | exact Mine.p7))); walk1) | (dsimp only; (fail_if_success (with_reducible (refine Mine.stop_here ?_ ?_; first | walk_at "s0" | exact Mine.p20 | exact Mine.p23 | exact Mine.p24 | exact Mine.p26 | exact Mine.p27 | exact Mine.p7))); walk1) | (leave1; walk_say "STEP leave1"; try dsimp only) | walk_at "onk" | fail "no step"))
          rename Fr _ _ _ _ => F20
          rename News _ _ _ _ => N20
          rename_i h20 oU hoU
          have hoU : oU.data = .cell (some (.ref D)) := hoU
          clear cN cH src1 lI1 lD hled off10
          (try clear N15); (try clear F14); (try clear F12); (try clear N12)
          obtain ⟨led, hled⟩ : ∃ led, led = (D, lst ys) :: (s1.heap.objs.size + 1, oH) :: (s1.heap.objs.size + 1 + 1 + 1, oU) :: (s1.heap.objs.size + 1 + 1 + 1 + 1, wP) :: (rl, listOf (List.toArray rvs) nrl) :: (rt ++ new) := ⟨_, rfl⟩
          rw [← hled] at N20
          have cN : ∀ p ∈ new, p ∈ led := fun p hp => by rw [hled]; exact .tail _ (.tail _ (.tail _ (.tail _ (.tail _ (List.mem_append_right _ hp)))))
          have cU : (s1.heap.objs.size + 1 + 1 + 1, oU) ∈ led := by rw [hled]; exact .tail _ (.tail _ (.head _))
          have cH : (s1.heap.objs.size + 1, oH) ∈ led := by rw [hled]; exact .tail _ (.head _)
          have cD : (D, lst ys) ∈ led := by rw [hled]; exact .head _
          refine wpAny_Assign_Name ?_ (by with_unfolding_all rfl)
          refine compB_eval (cl := [(Str.ofString "unlike", s1.heap.objs.size + 1 + 1 + 1)]) (by with_unfolding_all rfl) rfl (by decide) ?_
          (repeat' (first | (k_unfold; (try dsimp only)) | (k_end; wrow_close) | ((fail_if_success (with_reducible (refine Mine.stop_here ?_ ?_; first | walk_at "s0" | exact Mine.p20 | exact Mine.p23 | exact Mine.p24 | exact Mine.p26 | exact Mine.p27 | exact Mine.p7))); walk1) | (dsimp only; (fail_if_success (with_reducible (refine Mine.stop_here ?_ ?_; first | walk_at "s0" | exact Mine.p20 | exact Mine.p23 | exact Mine.p24 | exact Mine.p26 | exact Mine.p27 | exact Mine.p7))); walk1) | (leave1; walk_say "STEP leave1"; try dsimp only) | walk_at "onk" | fail "no step"))
          refine srcB_list (BP := fun g => g = s1.heap) rfl rfl F20 N20 (cN _ hR) (by rw [hrl, sizeLine_eq]; decide) ?_
          intro I2 h21 src2 lI2
          refine ⟨_, _, _, I2, _, _, _, _, [I2], rfl, src2 _, ?_⟩
          rintro D2 C2 s₃ ⟨h22, rfl⟩ lD2 hDC2
          refine ⟨fun j zs nw2 => Ex2 fun oc v₀ => Cj3 (nw2 = (C2 + 1, oc) :: led) (oc.data = .cell v₀) (IntsAre zs ((List.range j).map fun k => (rkF o k : Int))), ?_, ⟨cellE, none, rfl, rfl, .nil⟩, ?_, ?_⟩
          · rintro j zs nw2 ⟨oc, v₀, rfl, _⟩ p hp
            rw [List.mem_singleton.mp hp]; exact .tail _ (cN _ hR)
          · rintro j v g h tk own oC m₃ zs nw2 hj hv rfl F30 N30 how hC30 off30 ⟨n1, n2, n3⟩ ⟨oc, v₀, rfl, hoc, hzs⟩
            obtain ⟨oI2, rfl⟩ := own1 how
            have hjt : j < ts.length := by lia
            have htj := hys.item hjt hv
            obtain ⟨jA, rfl⟩ := htj.isRef
            have oC1 := off30 _ (.head _)
            have k3 : ∀ p ∈ led, p.1 ≠ C2 + 1 := fun p hp => Nat.ne_of_lt (Nat.lt_trans (Nat.lt_trans (lD2 p hp) hDC2) (Nat.lt_succ_self _))
            have cI : @Ne Nat I2 (C2 + 1) := fun q => oC1.2.2 (q ▸ .head _)
            have cC : @Ne Nat C2 (C2 + 1) := Nat.ne_of_lt (Nat.lt_succ_self _)
            have cDD : @Ne Nat D2 (C2 + 1) := Ne.symm oC1.2.1
            have U6 : UpdF (C2 + 1) oc ((I2, oI2) :: (C2, oC) :: (D2, lst zs) :: (C2 + 1, oc) :: led) (fun o => (I2, oI2) :: (C2, oC) :: (D2, lst zs) :: (C2 + 1, o) :: led) := .tail cI (.tail cC (.tail cDD (.head k3)))
            refine asg_cell F30 N30 U6 hoc rfl rfl rfl ?_
            intro h31 oc31 F31 N31 hoc31
            (try dsimp only)
            (repeat' (first | (k_unfold; (try dsimp only)) | (k_end; wrow_close) | ((fail_if_success (with_reducible (refine Mine.stop_here ?_ ?_; first | walk_at "s0" | exact Mine.p20 | exact Mine.p23 | exact Mine.p24 | exact Mine.p26 | exact Mine.p27 | exact Mine.p7))); walk1) | (dsimp only; (fail_if_success (with_reducible (refine Mine.stop_here ?_ ?_; first | walk_at "s0" | exact Mine.p20 | exact Mine.p23 | exact Mine.p24 | exact Mine.p26 | exact Mine.p27 | exact Mine.p7))); walk1) | (leave1; walk_say "STEP leave1"; try dsimp only) | walk_at "onk" | fail "no step"))
            refine compB_eval (cl := [(Str.ofString "one", C2 + 1)]) (by with_unfolding_all rfl) rfl (by decide) ?_
            (repeat' (first | (k_unfold; (try dsimp only)) | (k_end; wrow_close) | ((fail_if_success (with_reducible (refine Mine.stop_here ?_ ?_; first | walk_at "s0" | exact Mine.p20 | exact Mine.p23 | exact Mine.p24 | exact Mine.p26 | exact Mine.p27 | exact Mine.p7))); walk1) | (dsimp only; (fail_if_success (with_reducible (refine Mine.stop_here ?_ ?_; first | walk_at "s0" | exact Mine.p20 | exact Mine.p23 | exact Mine.p24 | exact Mine.p26 | exact Mine.p27 | exact Mine.p7))); walk1) | (leave1; walk_say "STEP leave1"; try dsimp only) | walk_at "onk" | fail "no step"))
            obtain ⟨led3, hled3⟩ : ∃ l, l = (I2, oI2) :: (C2, oC) :: (D2, lst zs) :: (C2 + 1, oc31) :: led := ⟨_, rfl⟩
            have kN : ∀ p ∈ new, p ∈ led3 := fun p hp => by rw [hled3]; exact .tail _ (.tail _ (.tail _ (.tail _ (cN p hp))))
            have kD : (D, lst ys) ∈ led3 := by rw [hled3]; exact .tail _ (.tail _ (.tail _ (.tail _ cD)))
            have kO : (C2 + 1, oc31) ∈ led3 := by rw [hled3]; exact .tail _ (.tail _ (.tail _ (.head _)))
            rw [← hled3] at N31
            have hyl := hys10.length
            rw [List.length_map] at hyl
            have hul : (unlS o 4).length ≤ 4 := by rw [unl_len]; exact nR_le o
            refine srcB_list (BP := fun g => g = s1.heap) (vs := ys) rfl rfl F31 N31 kD (by rw [sizeLine_eq]; lia) ?_
            intro I3 h32 src3 lI3
            refine ⟨_, _, _, I3, _, _, _, _, [I3], rfl, src3 _, ?_⟩
            rintro D3 C3 s₃ ⟨h33, rfl⟩ lD3 hDC3
            refine ⟨fun i ws nw3 => nw3 = led3 ∧ IntsAre ws (((unlS o 4).take i).map fun q => b2i (decide (rkF o j < rkF o q)) - b2i (decide (rkF o q < rkF o j))), ?_, ⟨rfl, .nil⟩, ?_, ?_⟩
            · rintro i ws nw3 ⟨rfl, _⟩ p hp
              rw [List.mem_singleton.mp hp]; exact kD
            · rintro i v g h tk own oC3 m₄ ws nw3 hi hv rfl F40 N40 how hC40 off40 ⟨p1, p2, p3⟩ ⟨rfl, hws⟩
              obtain ⟨oI3, rfl⟩ := own1 how
              have hiu : i < (unlS o 4).length := by lia
              have hti := hys10.item (by rw [List.length_map]; exact hiu) hv
              rw [List.getElem_map] at hti
              have hq4 := unlS_lt o 4 _ (List.getElem_mem hiu)
              have etk : (unlS o 4).take (i + 1) = (unlS o 4).take i ++ [(unlS o 4)[i]] := by rw [List.take_succ, List.getElem?_eq_getElem hiu]; rfl
              generalize (unlS o 4)[i] = q at hti hq4 etk
              have hqt : q < ts.length := by lia
              rw [List.getD_eq_getElem?_getD, List.getElem?_eq_getElem hqt] at hti
              have hti : HyG (inL new) v ts[q] := hti
              obtain ⟨iA, rfl⟩ := hti.isRef
              have U8 : ∀ o₁, UpdF C3 o₁ ((I3, oI3) :: (C3, o₁) :: (D3, lst ws) :: nw3) (fun o₁ => (I3, oI3) :: (C3, o₁) :: (D3, lst ws) :: nw3) := fun o₁ =>
                .tail (fun q => p2 (q ▸ .head _)) (.head fun p hp => by
                  rcases List.mem_cons.mp hp with rfl | hp
                  · exact Ne.symm p1
                  · exact (off40 p hp).1)
              refine asg_own F40 N40 (U8 oC3) hC40 rfl rfl ?_
              intro h41 oC41 F41 N41 hC41
              have hx41 : (fun y => if y = Str.ofString "two" then some (Value.ref iA) else m₄ y) (Str.ofString "two") = some (Value.ref iA) := if_pos rfl
              (try dsimp only)
              (repeat' (first | (k_unfold; (try dsimp only)) | (k_end; wrow_close) | ((fail_if_success (with_reducible (refine Mine.stop_here ?_ ?_; first | walk_at "s0" | exact Mine.p20 | exact Mine.p23 | exact Mine.p24 | exact Mine.p26 | exact Mine.p27 | exact Mine.p7))); walk1) | (dsimp only; (fail_if_success (with_reducible (refine Mine.stop_here ?_ ?_; first | walk_at "s0" | exact Mine.p20 | exact Mine.p23 | exact Mine.p24 | exact Mine.p26 | exact Mine.p27 | exact Mine.p7))); walk1) | (leave1; walk_say "STEP leave1"; try dsimp only) | walk_at "onk" | fail "no step"))
              refine' cmpHT (t := ts[q]) (u := ts[j]) ?b1 ?b2 ?b3 ?b4 ?b5 ?b6 ?b7 N41 (hti.keeps fun a vs n e => (N41 _ (.tail _ (.tail _ (.tail _ (kN _ e))))).1) (htj.keeps fun a vs n e => (N41 _ (.tail _ (.tail _ (.tail _ (kN _ e))))).1) (Nat.le_trans (hall _ (List.getElem_mem hqt)).2.1 (by decide)) ?_
              (case b1 => k_asm); (case b2 => k_asm); (case b3 => k_asm); (case b4 => k_asm); (case b5 => first | exact rfl | assumption); (case b6 => ktr_room); (case b7 => ktr_units)
              intro h42 tk42 t42 F42 N42
              rw [hrk.lt' hjt hqt, hrk.lt' hqt hjt]
              (try dsimp only [qk])
              refine ⟨s1.heap, h42, _, oC41, _, _, rfl, rfl, F42, N42, hC41, off40, rfl, ?_⟩
              rw [etk, List.map_append]
              exact hws.append (.cons _ t42 .nil)
            · rintro g h tk ws oC3 m₄ nw3 rfl F40 N40 hC40 off40 hCD3 ⟨rfl, hws⟩
              rw [hyl, List.take_length] at hws
              refine aend F40 N40 hC40 ?_ ?_
              · intro p hp
                rcases List.mem_cons.mp hp with rfl | hp
                · exact Ne.symm hCD3
                · exact (off40 p hp).1
              intro h42 F42 N42
              (try dsimp only)
              (repeat' (first | (k_unfold; (try dsimp only)) | (k_end; wrow_close) | ((fail_if_success (with_reducible (refine Mine.stop_here ?_ ?_; first | walk_at "s0" | exact Mine.p20 | exact Mine.p23 | exact Mine.p24 | exact Mine.p26 | exact Mine.p27 | exact Mine.p7))); walk1) | (dsimp only; (fail_if_success (with_reducible (refine Mine.stop_here ?_ ?_; first | walk_at "s0" | exact Mine.p20 | exact Mine.p23 | exact Mine.p24 | exact Mine.p26 | exact Mine.p27 | exact Mine.p7))); walk1) | (leave1; walk_say "STEP leave1"; try dsimp only) | walk_at "onk" | fail "no step"))
              (try dsimp only [qk])
              rw [cmp_count o j (by lia), hled3] at *
              refine ⟨s1.heap, _, _, oC, _, (C2 + 1, oc31) :: led, rfl, rfl, F42, fun p hp => N42 p (.tail _ hp), hC30, fun p hp => ?_, oc31, _, rfl, hoc31, ?_⟩
              · rcases List.mem_cons.mp hp with rfl | hp
                · exact oC1
                · exact off30 p (.tail _ hp)
              · rw [List.range_succ, List.map_append]
                exact hzs.append (.cons _ _ .nil)
          · rintro g h tk zs oC m₃ nw2 rfl F30 N30 hC30 off30 hCD2 ⟨oc, v₀, rfl, hoc, hzs⟩
            rw [hrl] at hzs
            refine aend F30 N30 hC30 ?_ ?_
            · intro p hp
              rcases List.mem_cons.mp hp with rfl | hp
              · exact Ne.symm hCD2
              · exact (off30 p hp).1
            intro h32 F32 N32
            (try dsimp only)
            have N33 : News s1.heap s1.heap.objs.size h32 ((D2, lst zs) :: led) := fun p hp => N32 p (by
              rcases List.mem_cons.mp hp with rfl | hp
              · exact .head _
              · exact .tail _ (.tail _ hp))
            have d4 : @LT.lt Nat _ D D2 := lD2 _ cD
            have d5 : @LT.lt Nat _ (s1.heap.objs.size + 1 + 1 + 1 + 1) D2 := Nat.lt_trans d3 d4
            have d6 : @LT.lt Nat _ rl D2 := lD2 _ (by rw [hled]; exact .tail _ (.tail _ (.tail _ (.tail _ (.head _)))))
            rw [hled] at N33
            (try clear F30); (try clear N30); (try clear N32)
            (repeat' (first | (k_unfold; (try dsimp only)) | (k_end; wrow_close) | ((fail_if_success (with_reducible (refine Mine.stop_here ?_ ?_; first | walk_at "s0" | exact Mine.p20 | exact Mine.p23 | exact Mine.p24 | exact Mine.p26 | exact Mine.p27 | exact Mine.p7 | exact Mine.p14 | exact Mine.p18))); walk1) | (dsimp only; (fail_if_success (with_reducible (refine Mine.stop_here ?_ ?_; first | walk_at "s0" | exact Mine.p20 | exact Mine.p23 | exact Mine.p24 | exact Mine.p26 | exact Mine.p27 | exact Mine.p7 | exact Mine.p14 | exact Mine.p18))); walk1) | (leave1; walk_say "STEP leave1"; try dsimp only) | walk_at "onk" | fail "no step"))
            rename Fr _ _ _ _ => F50
            rename News _ _ _ _ => N50
            rename_i h50 oP hoP
            have hoP : oP.data = .cell (some (.ref D2)) := hoP
            obtain ⟨r1, r2⟩ := falls3 o
            have hzs : IntsAre zs [(rkF o 0 : Int), (rkF o 1 : Int), (rkF o 2 : Int), (rkF o 3 : Int)] := hzs
            have c2 : ([(rkF o 0 : Int), (rkF o 1 : Int), (rkF o 2 : Int), (rkF o 3 : Int)].getD (Int.toNat 2) 0) = (rkF o 2 : Int) := rfl
            have c1 : ([(rkF o 0 : Int), (rkF o 1 : Int), (rkF o 2 : Int), (rkF o 3 : Int)].getD (Int.toNat 1) 0) = (rkF o 1 : Int) := rfl
            have c0 : ([(rkF o 0 : Int), (rkF o 1 : Int), (rkF o 2 : Int), (rkF o 3 : Int)].getD (Int.toNat 0) 0) = (rkF o 0 : Int) := rfl
            refine item_list_ints (N50.isList (.head _)) hzs (by decide) (by simp) (by decide) fun t1' => ?_
            rw [c2]
            (repeat' (first | (k_unfold; (try dsimp only)) | (k_end; wrow_close) | ((fail_if_success (with_reducible (refine Mine.stop_here ?_ ?_; first | walk_at "s0" | exact Mine.p20 | exact Mine.p23 | exact Mine.p24 | exact Mine.p26 | exact Mine.p27 | exact Mine.p7 | exact Mine.p14 | exact Mine.p18))); walk1) | (dsimp only; (fail_if_success (with_reducible (refine Mine.stop_here ?_ ?_; first | walk_at "s0" | exact Mine.p20 | exact Mine.p23 | exact Mine.p24 | exact Mine.p26 | exact Mine.p27 | exact Mine.p7 | exact Mine.p14 | exact Mine.p18))); walk1) | (leave1; walk_say "STEP leave1"; try dsimp only) | walk_at "onk" | fail "no step"))
            refine item_list_ints (N50.isList (.head _)) hzs (by decide) (by simp) (by decide) fun t2' => ?_
            rw [c1]
            walk1
            rw [decide_eq_true (Int.ofNat_lt.mpr r1)]
            (repeat' (first | (k_unfold; (try dsimp only)) | (k_end; wrow_close) | ((fail_if_success (with_reducible (refine Mine.stop_here ?_ ?_; first | walk_at "s0" | exact Mine.p20 | exact Mine.p23 | exact Mine.p24 | exact Mine.p26 | exact Mine.p27 | exact Mine.p7 | exact Mine.p14 | exact Mine.p18))); walk1) | (dsimp only; (fail_if_success (with_reducible (refine Mine.stop_here ?_ ?_; first | walk_at "s0" | exact Mine.p20 | exact Mine.p23 | exact Mine.p24 | exact Mine.p26 | exact Mine.p27 | exact Mine.p7 | exact Mine.p14 | exact Mine.p18))); walk1) | (leave1; walk_say "STEP leave1"; try dsimp only) | walk_at "onk" | fail "no step"))
            refine item_list_ints (N50.isList (.head _)) hzs (by decide) (by simp) (by decide) fun t3' => ?_
            rw [c0]
            walk1
            rw [decide_eq_true (Int.ofNat_lt.mpr r2)]
            (repeat' (first | (k_unfold; (try dsimp only)) | (k_end; wrow_close) | ((fail_if_success (with_reducible (refine Mine.stop_here ?_ ?_; first | walk_at "s0" | exact Mine.p20 | exact Mine.p23 | exact Mine.p24 | exact Mine.p26 | exact Mine.p27 | exact Mine.p7 | exact Mine.p14 | exact Mine.p18))); walk1) | (dsimp only; (fail_if_success (with_reducible (refine Mine.stop_here ?_ ?_; first | walk_at "s0" | exact Mine.p20 | exact Mine.p23 | exact Mine.p24 | exact Mine.p26 | exact Mine.p27 | exact Mine.p7 | exact Mine.p14 | exact Mine.p18))); walk1) | (leave1; walk_say "STEP leave1"; try dsimp only) | walk_at "onk" | fail "no step"))
            have hyl := hys10.length
            rw [List.length_map, unl_len] at hyl
            refine comp_eval (F₀ := F50) (by with_unfolding_all rfl) rfl (by decide) ?_
            (repeat' (first | (k_unfold; (try dsimp only)) | (k_end; wrow_close) | ((fail_if_success (with_reducible (refine Mine.stop_here ?_ ?_; first | walk_at "s0" | exact Mine.p20 | exact Mine.p23 | exact Mine.p24 | exact Mine.p26 | exact Mine.p27 | exact Mine.p7 | exact Mine.p14 | exact Mine.p18))); walk1) | (dsimp only; (fail_if_success (with_reducible (refine Mine.stop_here ?_ ?_; first | walk_at "s0" | exact Mine.p20 | exact Mine.p23 | exact Mine.p24 | exact Mine.p26 | exact Mine.p27 | exact Mine.p7 | exact Mine.p14 | exact Mine.p18))); walk1) | (leave1; walk_say "STEP leave1"; try dsimp only) | walk_at "onk" | fail "no step"))
            refine len_is (vs := ys) (n := nR o) (N50.isList (.tail _ (.head _))) hyl (Nat.le_trans (nR_le o) (by decide)) ?_
            (try dsimp only)
            (repeat' (first | (k_unfold; (try dsimp only)) | (k_end; wrow_close) | ((fail_if_success (with_reducible (refine Mine.stop_here ?_ ?_; first | walk_at "s0" | exact Mine.p20 | exact Mine.p23 | exact Mine.p24 | exact Mine.p26 | exact Mine.p27 | exact Mine.p7))); walk1) | (dsimp only; (fail_if_success (with_reducible (refine Mine.stop_here ?_ ?_; first | walk_at "s0" | exact Mine.p20 | exact Mine.p23 | exact Mine.p24 | exact Mine.p26 | exact Mine.p27 | exact Mine.p7))); walk1) | (leave1; walk_say "STEP leave1"; try dsimp only) | walk_at "onk" | fail "no step"))
            walk1
            (try dsimp only)
            rename Fr _ _ _ _ => F60
            rename News _ _ _ _ => N60
            rename IsRange _ _ _ _ _ _ _ _ => hrg
            (try clear F50); (try clear N50)
            obtain ⟨led4, hled4⟩ : ∃ l, l = (D2, lst zs) :: (D, lst ys) :: (s1.heap.objs.size + 1, oH) :: (s1.heap.objs.size + 1 + 1 + 1, oU) :: (s1.heap.objs.size + 1 + 1 + 1 + 1, oP) :: (rl, listOf (List.toArray rvs) nrl) :: (rt ++ new) := ⟨_, rfl⟩
            rw [← hled4] at N60
            have cZ : (D2, lst zs) ∈ led4 := by rw [hled4]; exact .head _
            have cP : (s1.heap.objs.size + 1 + 1 + 1 + 1, oP) ∈ led4 := by rw [hled4]; exact .tail _ (.tail _ (.tail _ (.tail _ (.head _))))
            have cL : (rl, listOf (List.toArray rvs) nrl) ∈ led4 := by rw [hled4]; exact .tail _ (.tail _ (.tail _ (.tail _ (.tail _ (.head _)))))
            have cT : ∀ p ∈ rt, p ∈ led4 := fun p hp => by rw [hled4]; exact .tail _ (.tail _ (.tail _ (.tail _ (.tail _ (.tail _ (List.mem_append_left _ hp))))))
            refine src_range (n := nR o) rfl F60 N60 hrg (rng_small o).1 (rng_small o).2 (Nat.le_trans (nR_le o) (by rw [sizeLine_eq]; decide)) ?_
            clear hrg
            intro I3 h61 src3 lI3
            refine ⟨I3, _, _, _, _, rfl, src3, ?_⟩
            rintro D3 C3 s₃ ⟨h62, rfl⟩ lD3 hDC3
            refine ⟨fun i ws nw3 => Ex3 fun tq oa va => Cj4 (nw3 = (C3 + 1, oa) :: (tq ++ led4)) (oa.data = .cell va) (∀ p ∈ tq, @LT.lt Nat _ (C3 + 1) p.1) (RowsL tq ws ((List.range i).map (rowS o))), fun _ _ _ _ => trivial, ⟨[], cellE, none, rfl, rfl, (fun p hp => nomatch hp), .nil⟩, ?_, ?_⟩
            · rintro i v h tk oI oC m₃ ws nw3 hi ⟨tv, rfl⟩ F70 N70 hC70 off70 ⟨n1, n2, n3⟩ ⟨tq, oa, va, rfl, hoa, ltq, hws⟩
              have off71 := off70.mem
              have w0' : ∀ p ∈ led4, @LT.lt Nat _ p.1 (C3 + 1) := fun p hp => Nat.lt_trans (Nat.lt_trans (lD3 p hp) hDC3) (Nat.lt_succ_self _)
              refine asg_cell F70 N70 (.tail (Ne.symm (off71 _ (.head _)).1) (.tail (Nat.ne_of_lt (Nat.lt_succ_self _)) (.tail (Nat.ne_of_lt (Nat.lt_trans hDC3 (Nat.lt_succ_self _))) (.head fun p hp => by
                rcases List.mem_append.mp hp with hp | hp
                · exact Nat.ne_of_gt (ltq p hp)
                · exact Nat.ne_of_lt (w0' p hp))))) hoa rfl rfl rfl ?_
              intro h71 oa71 F71 N71 hoa71
              (try dsimp only)
              (try dsimp only at N71)
              (repeat' (first | (k_unfold; (try dsimp only)) | (k_end; wrow_close) | ((fail_if_success (with_reducible (refine Mine.stop_here ?_ ?_; first | walk_at "s0" | exact Mine.p20 | exact Mine.p23 | exact Mine.p24 | exact Mine.p26 | exact Mine.p27 | exact Mine.p7))); walk1) | (dsimp only; (fail_if_success (with_reducible (refine Mine.stop_here ?_ ?_; first | walk_at "s0" | exact Mine.p20 | exact Mine.p23 | exact Mine.p24 | exact Mine.p26 | exact Mine.p27 | exact Mine.p7))); walk1) | (leave1; walk_say "STEP leave1"; try dsimp only) | walk_at "onk" | fail "no step"))
              obtain ⟨led5, hled5⟩ : ∃ l, l = (I3, oI) :: (C3, oC) :: (D3, lst ws) :: (C3 + 1, oa71) :: (tq ++ led4) := ⟨_, rfl⟩
              have dP : (s1.heap.objs.size + 1 + 1 + 1 + 1, oP) ∈ led5 := by rw [hled5]; exact .tail _ (.tail _ (.tail _ (.tail _ (List.mem_append_right _ cP))))
              have dZ : (D2, lst zs) ∈ led5 := by rw [hled5]; exact .tail _ (.tail _ (.tail _ (.tail _ (List.mem_append_right _ cZ))))
              have dA : (C3 + 1, oa71) ∈ led5 := by rw [hled5]; exact .tail _ (.tail _ (.tail _ (.head _)))
              rw [← hled5] at N71
              refine comp_eval (F₀ := F71) (by with_unfolding_all rfl) rfl (by decide) ?_
              (repeat' (first | (k_unfold; (try dsimp only)) | (k_end; wrow_close) | ((fail_if_success (with_reducible (refine Mine.stop_here ?_ ?_; first | walk_at "s0" | exact Mine.p20 | exact Mine.p23 | exact Mine.p24 | exact Mine.p26 | exact Mine.p27 | exact Mine.p7))); walk1) | (dsimp only; (fail_if_success (with_reducible (refine Mine.stop_here ?_ ?_; first | walk_at "s0" | exact Mine.p20 | exact Mine.p23 | exact Mine.p24 | exact Mine.p26 | exact Mine.p27 | exact Mine.p7))); walk1) | (leave1; walk_say "STEP leave1"; try dsimp only) | walk_at "onk" | fail "no step"))
              walk1
              (try dsimp only)
              rename Fr _ _ _ _ => F72
              rename News _ _ _ _ => N72
              rename IsRange _ _ _ _ _ _ _ _ => hrg
              refine src_range (n := 4) rfl F72 N72 hrg (by decide) (by decide) (by decide) ?_
              clear hrg
              intro I5 h73 src5 lI5
              refine ⟨I5, _, _, _, _, rfl, src5, ?_⟩
              rintro D5 C5 s₃ ⟨h74, rfl⟩ lD5 hDC5
              refine ⟨fun j us nw5 => nw5 = led5 ∧ IntsAre us (((List.range j).filter fun k => decide (rkF o k = i)).map Int.ofNat), fun _ _ _ _ => trivial, ⟨rfl, .nil⟩, ?_, ?_⟩
              · rintro j v h tk oI5 oC5 m₅ us nw5 hj ⟨tw, rfl⟩ F80 N80 hC80 off80 ⟨r1', r2', r3'⟩ ⟨rfl, hus⟩
                have off81 := off80.mem
                refine asg_own F80 N80 (.tail r1' (.head fun p hp => by
                  rcases List.mem_cons.mp hp with rfl | hp
                  · exact Ne.symm r3'
                  · exact (off81 p hp).2.1)) hC80 rfl rfl ?_
                intro h81 oC81 F81 N81 hC81
                (try dsimp only at N81)
                have hx81 : (fun y => if y = Str.ofString "k" then some (Value.int (0 + (j : Int)) tw) else m₅ y) (Str.ofString "k") = some (Value.int (0 + (j : Int)) tw) := if_pos rfl
                refine wpAny_tests_one ?_
                (try dsimp only)
                (repeat' (first | (k_unfold; (try dsimp only)) | (k_end; wrow_close) | ((fail_if_success (with_reducible (refine Mine.stop_here ?_ ?_; first | walk_at "s0" | exact Mine.p20 | exact Mine.p23 | exact Mine.p24 | exact Mine.p26 | exact Mine.p27 | exact Mine.p7 | exact Mine.p14 | exact Mine.p18))); walk1) | (dsimp only; (fail_if_success (with_reducible (refine Mine.stop_here ?_ ?_; first | walk_at "s0" | exact Mine.p20 | exact Mine.p23 | exact Mine.p24 | exact Mine.p26 | exact Mine.p27 | exact Mine.p7 | exact Mine.p14 | exact Mine.p18))); walk1) | (leave1; walk_say "STEP leave1"; try dsimp only) | walk_at "onk" | fail "no step"))
                refine item_list_ints (N81.isList (.tail _ (.tail _ (.tail _ dZ)))) hzs (by lia) (by simp; lia) (by lia) fun t4' => ?_
                rw [pl_at o hj]
                walk1
                walk1
                have etk : ((List.range (j + 1)).filter fun k => decide (rkF o k = i)) = ((List.range j).filter fun k => decide (rkF o k = i)) ++ if decide (rkF o j = i) = true then [j] else [] := by
                  rw [List.range_succ, List.filter_append, List.filter_cons, List.filter_nil]
                have hqe : ((rkF o j : Int) == 0 + (i : Int)) = decide (rkF o j = i) := by
                  rw [Bool.eq_iff_iff, beq_iff_eq, decide_eq_true_iff]; lia
                rw [hqe]
                cases hq : decide (rkF o j = i) with
                | true =>
                  (repeat' (first | (k_unfold; (try dsimp only)) | (k_end; wrow_close) | ((fail_if_success (with_reducible (refine Mine.stop_here ?_ ?_; first | walk_at "s0" | exact Mine.p20 | exact Mine.p23 | exact Mine.p24 | exact Mine.p26 | exact Mine.p27 | exact Mine.p7))); walk1) | (dsimp only; (fail_if_success (with_reducible (refine Mine.stop_here ?_ ?_; first | walk_at "s0" | exact Mine.p20 | exact Mine.p23 | exact Mine.p24 | exact Mine.p26 | exact Mine.p27 | exact Mine.p7))); walk1) | (leave1; walk_say "STEP leave1"; try dsimp only) | walk_at "onk" | fail "no step"))
                  (try dsimp only [qk])
                  refine ⟨h81, _, oC81, _, _, rfl, F81, N81, hC81, off80, rfl, ?_⟩
                  rw [etk, if_pos hq, List.map_append]
                  exact hus.append (one_int j tw)
                | false =>
                  (repeat' (first | (k_unfold; (try dsimp only)) | (k_end; wrow_close) | ((fail_if_success (with_reducible (refine Mine.stop_here ?_ ?_; first | walk_at "s0" | exact Mine.p20 | exact Mine.p23 | exact Mine.p24 | exact Mine.p26 | exact Mine.p27 | exact Mine.p7))); walk1) | (dsimp only; (fail_if_success (with_reducible (refine Mine.stop_here ?_ ?_; first | walk_at "s0" | exact Mine.p20 | exact Mine.p23 | exact Mine.p24 | exact Mine.p26 | exact Mine.p27 | exact Mine.p7))); walk1) | (leave1; walk_say "STEP leave1"; try dsimp only) | walk_at "onk" | fail "no step"))
                  (try dsimp only [qk])
                  refine ⟨h81, _, oC81, _, _, rfl, F81, N81, hC81, off80, rfl, ?_⟩
                  rw [etk, if_neg (by rw [hq]; exact Bool.false_ne_true), List.append_nil]
                  exact hus
              · rintro h tk us oC5 m₅ nw5 F80 N80 hC80 off80 hCD5 ⟨rfl, hus⟩
                have off81 := off80.mem
                refine aend F80 N80 hC80 ?_ ?_
                · intro p hp
                  rcases List.mem_cons.mp hp with rfl | hp
                  · exact Ne.symm hCD5
                  · exact (off81 p hp).2.1
                intro h82 F82 N82
                (try dsimp only)
                (repeat' (first | (k_unfold; (try dsimp only)) | (k_end; wrow_close) | ((fail_if_success (with_reducible (refine Mine.stop_here ?_ ?_; first | walk_at "s0" | exact Mine.p20 | exact Mine.p23 | exact Mine.p24 | exact Mine.p26 | exact Mine.p27 | exact Mine.p7))); walk1) | (dsimp only; (fail_if_success (with_reducible (refine Mine.stop_here ?_ ?_; first | walk_at "s0" | exact Mine.p20 | exact Mine.p23 | exact Mine.p24 | exact Mine.p26 | exact Mine.p27 | exact Mine.p7))); walk1) | (leave1; walk_say "STEP leave1"; try dsimp only) | walk_at "onk" | fail "no step"))
                (try dsimp only [qk])
                have o1 := (off81 (I3, oI) (by rw [hled5]; exact .head _)).2.2
                have o2 := (off81 (C3, oC) (by rw [hled5]; exact .tail _ (.head _))).2.2
                have o3 := (off81 (D3, lst ws) (by rw [hled5]; exact .tail _ (.tail _ (.head _)))).2.2
                have o4 : @LT.lt Nat _ (C3 + 1) D5 := lD5 _ dA
                rw [hled5] at N82
                refine ⟨_, _, oC, _, (C3 + 1, oa71) :: (((D5, lst us) :: tq) ++ led4), rfl, F82, fun p hp => N82 p ?_, hC70, Off3.of fun p hp => ?_, (D5, lst us) :: tq, oa71, _, rfl, hoa71, fun p hp => ?_, ?_⟩
                · refine led_go hp ?_
                  walk_at "led"
                · rcases List.mem_cons.mp hp with rfl | hp
                  · exact off71 (C3 + 1, oa) (.head _)
                  rcases List.mem_cons.mp hp with rfl | hp
                  · exact ⟨Ne.symm o1, Ne.symm o2, Ne.symm o3⟩
                  · exact off71 p (.tail _ hp)
                · rcases List.mem_cons.mp hp with rfl | hp
                  · exact o4
                  · exact ltq p hp
                · rw [List.range_succ, List.map_append]
                  exact (hws.mono fun p hp => .tail _ hp).append (.cons (.head _) hus .nil)
            · rintro h tk ws oC m₃ nw3 F70 N70 hC70 off70 hCD3 ⟨tq, oa, va, rfl, hoa, ltq, hws⟩
              have off71 := off70.mem
              refine aend F70 N70 hC70 ?_ ?_
              · intro p hp
                rcases List.mem_cons.mp hp with rfl | hp
                · exact Ne.symm hCD3
                · exact (off71 p hp).2.1
              intro h72 F72 N72
              (try dsimp only)
              (repeat' (first | (k_unfold; (try dsimp only)) | (k_end; wrow_close) | ((fail_if_success (with_reducible (refine Mine.stop_here ?_ ?_; first | walk_at "s0" | exact Mine.p20 | exact Mine.p23 | exact Mine.p24 | exact Mine.p26 | exact Mine.p27 | exact Mine.p7))); walk1) | (dsimp only; (fail_if_success (with_reducible (refine Mine.stop_here ?_ ?_; first | walk_at "s0" | exact Mine.p20 | exact Mine.p23 | exact Mine.p24 | exact Mine.p26 | exact Mine.p27 | exact Mine.p7))); walk1) | (leave1; walk_say "STEP leave1"; try dsimp only) | walk_at "onk" | fail "no step"))
              refine rows_eq (N72 _ (.tail _ (.tail _ (List.mem_append_right _ cL)))).1 (N72 _ (.head _)).1 (hrows.at N72 fun p hp => .tail _ (.tail _ (List.mem_append_right _ (cT p hp)))) (hws.at N72 fun p hp => .tail _ (.tail _ (List.mem_append_left _ hp))) ?_ ?_
              · k_units
              rw [decide_eq_true rfl]
              (try dsimp only)
              (try walk_at "onk")
              dsimp +zetaDelta only
              refine goodW_bool F72 (by assumption) (raisesW_false ?_) ?_
              · wrow_none_raised
              · kc_post
      · rw [decide_eq_false hW]
        (repeat' (first | (k_unfold; (try dsimp only)) | (k_end; wrow_close) | ((fail_if_success (with_reducible (refine Mine.stop_here ?_ ?_; first | walk_at "s0" | exact Mine.p20 | exact Mine.p23 | exact Mine.p24 | exact Mine.p26 | exact Mine.p27 | exact Mine.p7))); walk1) | (dsimp only; (fail_if_success (with_reducible (refine Mine.stop_here ?_ ?_; first | walk_at "s0" | exact Mine.p20 | exact Mine.p23 | exact Mine.p24 | exact Mine.p26 | exact Mine.p27 | exact Mine.p7))); walk1) | (leave1; walk_say "STEP leave1"; try dsimp only) | walk_at "onk" | fail "no step"))
        have hi4 : i < nR o := Nat.lt_of_not_le fun q => hW (rki.2.1.mpr q)
        have hn4 := nR_le o
        have f1 := P13.tl (rl, listOf (List.toArray rvs) nrl) (.head _)
        have f2 : @Ne Nat rl r := P13.tlr (rl, listOf (List.toArray rvs) nrl) (.head _)
        have f3 : @Ne Nat T rl := Ne.symm (hTo (rl, od) (.tail _ (.tail _ (.tail _ (.tail _ (.head _))))))
        have f4 : ∀ p ∈ (rt ++ rst) ++ srt, p.1 ≠ rl := fun p hp => by
          rcases List.mem_append.mp hp with hp | hp
          · exact hrl2 p hp
          · exact Ne.symm (P13.rs (rl, listOf (List.toArray rvs) nrl) (.head _) p hp)
        have hrvl := hrows.length
        rw [List.length_map, List.length_range] at hrvl
        refine sorted_tup F14 N14 (.head _) hfv (by lia) ?_
        intro S h15 vs15 ns15 e15 F15 N15 lS hvs15 pm15 pw15
        rw [sorted_unique (pm15.trans rki.2.2) pw15 (rowS_up o i)] at hvs15
        clear pm15 pw15
        (try dsimp only)
        (repeat' (first | (k_unfold; (try dsimp only)) | (k_end; wrow_close) | ((fail_if_success (with_reducible (refine Mine.stop_here ?_ ?_; first | walk_at "s0" | exact Mine.p20 | exact Mine.p23 | exact Mine.p24 | exact Mine.p26 | exact Mine.p27 | exact Mine.p7))); walk1) | (dsimp only; (fail_if_success (with_reducible (refine Mine.stop_here ?_ ?_; first | walk_at "s0" | exact Mine.p20 | exact Mine.p23 | exact Mine.p24 | exact Mine.p26 | exact Mine.p27 | exact Mine.p7))); walk1) | (leave1; walk_say "STEP leave1"; try dsimp only) | walk_at "onk" | fail "no step"))
        have lSr : @Ne Nat S rl := Nat.ne_of_gt (lS _ (.tail _ (.tail _ (.tail _ (.tail _ (.tail _ (.head _)))))))
        refine append_K F15 N15 (.tail lSr (.tail f3 (.tail (Ne.symm f1.1) (.tail (Ne.symm f1.2.1) (.tail (Ne.symm f1.2.2) (.tail (Ne.symm f2) (.head f4))))))) ?_ ?_
        rotate_left
        · rw [List.size_toArray, sizeLine_eq]; lia
        intro h16 F16 N16
        rw [List.push_toArray] at N16
        have lST : @Ne Nat S T := Nat.ne_of_gt (lS _ (.head _))
        have lSx : @Ne Nat S x := Nat.ne_of_gt (lS _ (.tail _ (.head _)))
        have lSdx : @Ne Nat S dx := Nat.ne_of_gt (lS _ (.tail _ (.tail _ (.head _))))
        have lSdx' : @LT.lt Nat _ dx S := lS _ (.tail _ (.tail _ (.head _)))
        have lSd : @Ne Nat S d := Nat.ne_of_gt (lS _ (.tail _ (.tail _ (.tail _ (.head _)))))
        have lSrr : @Ne Nat S r := Nat.ne_of_gt (lS _ (.tail _ (.tail _ (.tail _ (.tail _ (.head _))))))
        have lSt : ∀ p ∈ (rt ++ rst) ++ srt, @Ne Nat S p.1 := fun p hp => Nat.ne_of_gt (lS _ (.tail _ (.tail _ (.tail _ (.tail _ (.tail _ (.tail _ hp)))))))
        clear N15 F15 N14 lS
        (try dsimp only)
        (repeat' (first | (k_unfold; (try dsimp only)) | (k_end; wrow_close) | ((fail_if_success (with_reducible (refine Mine.stop_here ?_ ?_; first | walk_at "s0" | exact Mine.p20 | exact Mine.p23 | exact Mine.p24 | exact Mine.p26 | exact Mine.p27 | exact Mine.p7))); walk1) | (dsimp only; (fail_if_success (with_reducible (refine Mine.stop_here ?_ ?_; first | walk_at "s0" | exact Mine.p20 | exact Mine.p23 | exact Mine.p24 | exact Mine.p26 | exact Mine.p27 | exact Mine.p7))); walk1) | (leave1; walk_say "STEP leave1"; try dsimp only) | walk_at "onk" | fail "no step"))
        refine MethodCall_star ?_
        (repeat' (first | (k_unfold; (try dsimp only)) | (k_end; wrow_close) | ((fail_if_success (with_reducible (refine Mine.stop_here ?_ ?_; first | walk_at "s0" | exact Mine.p20 | exact Mine.p23 | exact Mine.p24 | exact Mine.p26 | exact Mine.p27 | exact Mine.p7))); walk1) | (dsimp only; (fail_if_success (with_reducible (refine Mine.stop_here ?_ ?_; first | walk_at "s0" | exact Mine.p20 | exact Mine.p23 | exact Mine.p24 | exact Mine.p26 | exact Mine.p27 | exact Mine.p7))); walk1) | (leave1; walk_say "STEP leave1"; try dsimp only) | walk_at "onk" | fail "no step"))
        rename Fr _ _ _ _ => F17
        rename News _ _ _ _ => N17
        rename_i q17 _ l17
        have mS : (q17, methodObj (.ref 134) (.ref x)) ∈ (q17, methodObj (.ref 134) (.ref x)) :: (S, listOf (List.toArray vs15) e15) :: (T, ({ cls := .type "tuple", data := .seq (List.toArray fv) } : Obj)) :: (x, instObj 151 dx) :: (dx, dictOf (sEs w (.ref d) (.ref r) (.int po tpo) (.int nf tnf) t1 t2 t3 t4) 4) :: (d, od) :: (r, listOf #[] nrr) :: (rl, listOf (List.toArray (rvs ++ [Value.ref S])) (nrl + 1)) :: ((rt ++ rst) ++ srt) := .head _
        refine callWith_MS1 (K := Mine.hd.heap_1 w.params) (g := 134) (self := .ref x) ?kis ?_
        case kis => k_is
        (repeat' (first | (k_unfold; (try dsimp only)) | (k_end; wrow_close) | ((fail_if_success (with_reducible (refine Mine.stop_here ?_ ?_; first | walk_at "s0" | exact Mine.p20 | exact Mine.p23 | exact Mine.p24 | exact Mine.p26 | exact Mine.p27 | exact Mine.p7))); walk1) | (dsimp only; (fail_if_success (with_reducible (refine Mine.stop_here ?_ ?_; first | walk_at "s0" | exact Mine.p20 | exact Mine.p23 | exact Mine.p24 | exact Mine.p26 | exact Mine.p27 | exact Mine.p7))); walk1) | (leave1; walk_say "STEP leave1"; try dsimp only) | walk_at "onk" | fail "no step"))
        refine star_seq (ws := fv) F17 N17 (.tail _ (.tail _ (.head _))) rfl rfl (.inr rfl) (by simp) (by rw [List.size_toArray, sizeLine_eq]; lia) ?_
        intro h18 F18 N18
        (try dsimp only)
        have lq : ∀ p ∈ (rt ++ rst) ++ srt, @LT.lt Nat _ p.1 q17 := fun p hp => allLt_mem l17.2.2.2.2.2.2.2 p hp
        have l1 : @LT.lt Nat _ S q17 := l17.1
        have l2 : @LT.lt Nat _ T q17 := l17.2.1
        have l3 : @LT.lt Nat _ x q17 := l17.2.2.1
        have l4 : @LT.lt Nat _ dx q17 := l17.2.2.2.1
        have l5 : @LT.lt Nat _ d q17 := l17.2.2.2.2.1
        have l6 : @LT.lt Nat _ r q17 := l17.2.2.2.2.2.1
        refine ⟨methP N18 (.head _) (KX.keeps F18.keep), ?_⟩
        rw [List.nil_append]
        refine call_meth N18 (.head _) ?_
        have N18 : News s1.heap s1.heap.objs.size h18 ((x, instObj 151 dx) :: (dx, dictOf (sEs w (.ref d) (.ref r) (.int po tpo) (.int nf tnf) t1 t2 t3 t4) 4) :: (d, od) :: (r, listOf (List.toArray ([] : List Value)) nrr) :: (((rl, listOf (List.toArray (rvs ++ [Value.ref S])) (nrl + 1)) :: (((S, listOf (List.toArray vs15) e15) :: rt) ++ rst)) ++ srt)) := fun p hp => N18 p (by
          refine led_go hp ?_
          walk_at "led")
        have P18 : Apart4 x dx d r ((rl, listOf (List.toArray (rvs ++ [Value.ref S])) (nrl + 1)) :: (((S, listOf (List.toArray vs15) e15) :: rt) ++ rst)) srt := by
          have P17 := P13.more (D := S) (o := listOf (List.toArray vs15) e15) lSx lSdx lSd lSrr fun q hq => lSt q (List.mem_append_right _ hq)
          refine P17.same fun p hp => ?_
          rcases List.mem_cons.mp hp with rfl | hp
          · exact ⟨_, .tail _ (.head _), rfl⟩
          rcases List.mem_append.mp hp with hp | hp
          · rcases List.mem_cons.mp hp with rfl | hp
            · exact ⟨_, .head _, rfl⟩
            · exact ⟨p, .tail _ (.tail _ (List.mem_append_left _ hp)), rfl⟩
          · exact ⟨p, .tail _ (.tail _ (List.mem_append_right _ hp)), rfl⟩
        refine' doneT (pv := fv) (ks := (roundS o i).2) (rv := []) (rs := []) (rest := (rl, listOf (List.toArray (rvs ++ [Value.ref S])) (nrl + 1)) :: (((S, listOf (List.toArray vs15) e15) :: rt) ++ rst)) ?b1 ?b2 ?b3 ?b4 ?b5 ?b6 ?b7 N18 hdm hD Nd13 P18 .nil hfv (by lia) rkk (fun k hk j hj => (sorter_up o k hk j hj).1) (fun j hj => ?_) (fun k => Nat.le_trans (stS_succ o 4 k) (by decide)) (Nat.zero_le _) ?_
        (case b1 => k_asm); (case b2 => k_asm); (case b3 => k_asm); (case b4 => k_asm); (case b5 => first | exact rfl | assumption); (case b6 => ktr_room); (case b7 => ktr_units)
        · have z := rko ⟨j, by lia⟩ hj
          dsimp only at z
          rw [List.getD_eq_getElem?_getD, List.getElem?_eq_getElem hj] at z
          exact z
        intro h19 tk19 srt19 tnf19 nr19 rv19 F19 N19 hrv19 Nd19 P19
        (try clear N18); (try clear N17); (try clear F18); (try clear F17); (try clear N16); (try clear F16); (try clear F15)
        (try dsimp only)
        (repeat' (first | (k_unfold; (try dsimp only)) | (k_end; wrow_close) | ((fail_if_success (with_reducible (refine Mine.stop_here ?_ ?_; first | walk_at "s0" | exact Mine.p20 | exact Mine.p23 | exact Mine.p24 | exact Mine.p26 | exact Mine.p27 | exact Mine.p7))); walk1) | (dsimp only; (fail_if_success (with_reducible (refine Mine.stop_here ?_ ?_; first | walk_at "s0" | exact Mine.p20 | exact Mine.p23 | exact Mine.p24 | exact Mine.p26 | exact Mine.p27 | exact Mine.p7))); walk1) | (leave1; walk_say "STEP leave1"; try dsimp only) | walk_at "onk" | fail "no step"))
        have rk1 := round_len o ⟨i + 1, by lia⟩
        have rkk1 := round_keys o ⟨i + 1, by lia⟩
        dsimp only at rk1 rkk1
        refine' get_ready (rv := rv19) (rs := (roundS o (i + 1)).2) (rest := (rl, listOf (List.toArray (rvs ++ [Value.ref S])) (nrl + 1)) :: (((S, listOf (List.toArray vs15) e15) :: rt) ++ rst)) ?b1 ?b2 ?b3 ?b4 ?b5 ?b6 ?b7 ?b8 hdm hD Nd19 P19 hrv19 rkk1 (by lia) ?_
        (case b1 => k_asm); (case b2 => k_asm); (case b3 => k_asm); (case b4 => k_asm); (case b5 => first | exact rfl | assumption); (case b6 => ktr_room); (case b7 => ktr_units)
        (case b8 => assumption)
        intro h21 tk21 T21 srt21 tpo21 nr21 F21 N21 Nd21 P21 hT21
        (try clear F19); (try clear N19); (try clear Nd19); (try clear P19)
        have hT22 : T21 ≠ rl := Ne.symm (hT21 (rl, listOf (List.toArray (rvs ++ [Value.ref S])) (nrl + 1)) (.tail _ (.tail _ (.tail _ (.tail _ (.head _))))))
        (try dsimp only)
        (repeat' (first | (k_unfold; (try dsimp only)) | (k_end; wrow_close) | ((fail_if_success (with_reducible (refine Mine.stop_here ?_ ?_; first | walk_at "s0" | exact Mine.p20 | exact Mine.p23 | exact Mine.p24 | exact Mine.p26 | exact Mine.p27 | exact Mine.p7))); walk1) | (dsimp only; (fail_if_success (with_reducible (refine Mine.stop_here ?_ ?_; first | walk_at "s0" | exact Mine.p20 | exact Mine.p23 | exact Mine.p24 | exact Mine.p26 | exact Mine.p27 | exact Mine.p7))); walk1) | (leave1; walk_say "STEP leave1"; try dsimp only) | walk_at "onk" | fail "no step"))
        rename Fr _ _ _ _ => F22
        rename News _ _ _ _ => N22
        refine ⟨nR o - (i + 1), by lia, i + 1, _, _, _, T21, rv19, srt21, rvs ++ [Value.ref S], nrl + 1, (S, listOf (List.toArray vs15) e15) :: rt, nr21, _, _, _, _, rfl, F22, ⟨(if_neg (by decide)).trans k1, (if_neg (by decide)).trans k2, if_pos rfl⟩, N22, Nd21, P21, hrv19, ?_, ⟨hi4, rfl⟩, fun p hp => ?_, fun p hp => ?_, fun p hp => ?_⟩
        · rw [List.range_succ, List.map_append]
          exact (hrows.mono fun p hp => .tail _ hp).append (.cons (.head _) hvs15 .nil)
        · rcases List.mem_cons.mp hp with rfl | hp
          · exact hT21 (x, instObj 151 dx) (.head _)
          rcases List.mem_cons.mp hp with rfl | hp
          · exact hT21 (dx, dictOf [] 0) (.tail _ (.head _))
          rcases List.mem_cons.mp hp with rfl | hp
          · exact hT21 (d, od) (.tail _ (.tail _ (.head _)))
          rcases List.mem_cons.mp hp with rfl | hp
          · exact hT21 (r, listOf #[] nr21) (.tail _ (.tail _ (.tail _ (.head _))))
          rcases List.mem_cons.mp hp with rfl | hp
          · exact Ne.symm hT22
          · exact hT21 p (.tail _ (.tail _ (.tail _ (.tail _ (.tail _ hp)))))
        · rcases List.mem_cons.mp hp with rfl | hp
          · exact lSr
          · exact hrl2 p hp
        · rcases List.mem_cons.mp hp with rfl | hp
          · exact lSdx'
          · exact hrt p hp)
end
end Mine
set_option maxRecDepth 100000 in
set_option maxHeartbeats 8000000 in
theorem PySem.Challenge.cw_oc0174_02_holds : PySem.Challenge.rw_oc0174_02.Holds :=
  Mine.lawWalk
