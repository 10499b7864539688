import PyProof.Rows.All
import Wide.All
import OpenK.AllK
import Wide.FinOn
import Lean
import PySem.Challenge.RW_wr0028_01
set_option Elab.async false
set_option maxRecDepth 100000
set_option maxHeartbeats 8000000
set_option linter.unusedVariables false
set_option linter.unusedSimpArgs false
set_option genSizeOf false
set_option genInjectivity false

section
open PySem PySem.W PySem.W.X PyProof.Rows
local macro_rules | `(tactic| k_head) => `(tactic| z_head)
namespace Mine
open_top hd for PySem.Challenge.rw_wr0028_01
end Mine
end

namespace Mine
open Lean in
/-- tactics that fill arguments -/
def aRfl : Syntax := Unhygienic.run `(tacticSeq| rfl)
open Lean in
def aDec : Syntax := Unhygienic.run `(tacticSeq| decide)
open Lean in
def aUnf : Syntax := Unhygienic.run `(tacticSeq| with_unfolding_all rfl)
open Lean in
def aIntU : Syntax := Unhygienic.run `(tacticSeq| (intro _; with_unfolding_all rfl))
open Lean in
def aIntR : Syntax := Unhygienic.run `(tacticSeq| (intro _; rfl))
theorem ex2.{u0, u1} {T0 : Sort u0} {T1 : Sort u1} {P : T0 → T1 → Prop} {R : Prop} (h : ∃ a0 a1, P a0 a1) (k : ∀ a0 a1, P a0 a1 → R) : R := by
  obtain ⟨a0, a1, h⟩ := h; exact k a0 a1 h
theorem ex3.{u0, u1, u2} {T0 : Sort u0} {T1 : Sort u1} {T2 : Sort u2} {P : T0 → T1 → T2 → Prop} {R : Prop} (h : ∃ a0 a1 a2, P a0 a1 a2) (k : ∀ a0 a1 a2, P a0 a1 a2 → R) : R := by
  obtain ⟨a0, a1, a2, h⟩ := h; exact k a0 a1 a2 h
theorem ex4.{u0, u1, u2, u3} {T0 : Sort u0} {T1 : Sort u1} {T2 : Sort u2} {T3 : Sort u3} {P : T0 → T1 → T2 → T3 → Prop} {R : Prop} (h : ∃ a0 a1 a2 a3, P a0 a1 a2 a3) (k : ∀ a0 a1 a2 a3, P a0 a1 a2 a3 → R) : R := by
  obtain ⟨a0, a1, a2, a3, h⟩ := h; exact k a0 a1 a2 a3 h
theorem ex5.{u0, u1, u2, u3, u4} {T0 : Sort u0} {T1 : Sort u1} {T2 : Sort u2} {T3 : Sort u3} {T4 : Sort u4} {P : T0 → T1 → T2 → T3 → T4 → Prop} {R : Prop} (h : ∃ a0 a1 a2 a3 a4, P a0 a1 a2 a3 a4) (k : ∀ a0 a1 a2 a3 a4, P a0 a1 a2 a3 a4 → R) : R := by
  obtain ⟨a0, a1, a2, a3, a4, h⟩ := h; exact k a0 a1 a2 a3 a4 h
theorem ex6.{u0, u1, u2, u3, u4, u5} {T0 : Sort u0} {T1 : Sort u1} {T2 : Sort u2} {T3 : Sort u3} {T4 : Sort u4} {T5 : Sort u5} {P : T0 → T1 → T2 → T3 → T4 → T5 → Prop} {R : Prop} (h : ∃ a0 a1 a2 a3 a4 a5, P a0 a1 a2 a3 a4 a5) (k : ∀ a0 a1 a2 a3 a4 a5, P a0 a1 a2 a3 a4 a5 → R) : R := by
  obtain ⟨a0, a1, a2, a3, a4, a5, h⟩ := h; exact k a0 a1 a2 a3 a4 a5 h
theorem and2 {p0 p1 R : Prop} (h : p0 ∧ p1) (k : p0 → p1 → R) : R := by
  obtain ⟨h0, h1⟩ := h; exact k h0 h1
theorem and3 {p0 p1 p2 R : Prop} (h : p0 ∧ p1 ∧ p2) (k : p0 → p1 → p2 → R) : R := by
  obtain ⟨h0, h1, h2⟩ := h; exact k h0 h1 h2
theorem and4 {p0 p1 p2 p3 R : Prop} (h : p0 ∧ p1 ∧ p2 ∧ p3) (k : p0 → p1 → p2 → p3 → R) : R := by
  obtain ⟨h0, h1, h2, h3⟩ := h; exact k h0 h1 h2 h3
theorem and5 {p0 p1 p2 p3 p4 R : Prop} (h : p0 ∧ p1 ∧ p2 ∧ p3 ∧ p4) (k : p0 → p1 → p2 → p3 → p4 → R) : R := by
  obtain ⟨h0, h1, h2, h3, h4⟩ := h; exact k h0 h1 h2 h3 h4
theorem and6 {p0 p1 p2 p3 p4 p5 R : Prop} (h : p0 ∧ p1 ∧ p2 ∧ p3 ∧ p4 ∧ p5) (k : p0 → p1 → p2 → p3 → p4 → p5 → R) : R := by
  obtain ⟨h0, h1, h2, h3, h4, h5⟩ := h; exact k h0 h1 h2 h3 h4 h5
theorem and8 {p0 p1 p2 p3 p4 p5 p6 p7 R : Prop} (h : p0 ∧ p1 ∧ p2 ∧ p3 ∧ p4 ∧ p5 ∧ p6 ∧ p7) (k : p0 → p1 → p2 → p3 → p4 → p5 → p6 → p7 → R) : R := by
  obtain ⟨h0, h1, h2, h3, h4, h5, h6, h7⟩ := h; exact k h0 h1 h2 h3 h4 h5 h6 h7
theorem and9 {p0 p1 p2 p3 p4 p5 p6 p7 p8 R : Prop} (h : p0 ∧ p1 ∧ p2 ∧ p3 ∧ p4 ∧ p5 ∧ p6 ∧ p7 ∧ p8) (k : p0 → p1 → p2 → p3 → p4 → p5 → p6 → p7 → p8 → R) : R := by
  obtain ⟨h0, h1, h2, h3, h4, h5, h6, h7, h8⟩ := h; exact k h0 h1 h2 h3 h4 h5 h6 h7 h8
theorem and10 {p0 p1 p2 p3 p4 p5 p6 p7 p8 p9 R : Prop} (h : p0 ∧ p1 ∧ p2 ∧ p3 ∧ p4 ∧ p5 ∧ p6 ∧ p7 ∧ p8 ∧ p9) (k : p0 → p1 → p2 → p3 → p4 → p5 → p6 → p7 → p8 → p9 → R) : R := by
  obtain ⟨h0, h1, h2, h3, h4, h5, h6, h7, h8, h9⟩ := h; exact k h0 h1 h2 h3 h4 h5 h6 h7 h8 h9
theorem and11 {p0 p1 p2 p3 p4 p5 p6 p7 p8 p9 p10 R : Prop} (h : p0 ∧ p1 ∧ p2 ∧ p3 ∧ p4 ∧ p5 ∧ p6 ∧ p7 ∧ p8 ∧ p9 ∧ p10) (k : p0 → p1 → p2 → p3 → p4 → p5 → p6 → p7 → p8 → p9 → p10 → R) : R := by
  obtain ⟨h0, h1, h2, h3, h4, h5, h6, h7, h8, h9, h10⟩ := h; exact k h0 h1 h2 h3 h4 h5 h6 h7 h8 h9 h10
theorem and12 {p0 p1 p2 p3 p4 p5 p6 p7 p8 p9 p10 p11 R : Prop} (h : p0 ∧ p1 ∧ p2 ∧ p3 ∧ p4 ∧ p5 ∧ p6 ∧ p7 ∧ p8 ∧ p9 ∧ p10 ∧ p11) (k : p0 → p1 → p2 → p3 → p4 → p5 → p6 → p7 → p8 → p9 → p10 → p11 → R) : R := by
  obtain ⟨h0, h1, h2, h3, h4, h5, h6, h7, h8, h9, h10, h11⟩ := h; exact k h0 h1 h2 h3 h4 h5 h6 h7 h8 h9 h10 h11
end Mine
namespace Mine
theorem rmD {dp k d R : Nat} (h : dp + k < R) (hk : Nat.ble (1 + d) k = true) : dp + 1 + d < R := by
  have := Nat.le_of_ble_eq_true hk; omega
theorem rm1 {dp k R : Nat} (h : dp + k < R) (hk : Nat.ble 1 k = true) : dp + 1 < R := by
  have := Nat.le_of_ble_eq_true hk; omega
theorem cuD {un k d R : Nat} (h : un + k < R) (hk : Nat.ble (3 + d) k = true) : un + 3 + d < R := by
  have := Nat.le_of_ble_eq_true hk; omega
theorem lew {a c C : Nat} (h : a ≤ c) (hk : Nat.ble c C = true) : a ≤ C := Nat.le_trans h (Nat.le_of_ble_eq_true hk)
theorem ad1 {b A k : Nat} (e : b = A + k) : A ≤ b := e ▸ Nat.le_add_right A k
theorem ad1' {b A : Nat} (e : b = A) : A ≤ b := Nat.le_of_eq e.symm
theorem ad2 {b A k n : Nat} (e : b = A + k) (hk : Nat.blt k n = true) : b < A + n := e ▸ Nat.add_lt_add_left (Nat.le_of_ble_eq_true hk) A
theorem ad2' {b A n : Nat} (e : b = A) (hk : Nat.blt 0 n = true) : b < A + n := e ▸ Nat.lt_add_of_pos_right (Nat.le_of_ble_eq_true hk)
theorem ad3 {b A k : Nat} (e : b = A + k) (h : b < A) : False := Nat.lt_irrefl A (Nat.lt_of_le_of_lt (ad1 e) h)
theorem ad3' {b A : Nat} (e : b = A) (h : b < A) : False := Nat.lt_irrefl A (e ▸ h)
theorem ad3s {b A : Nat} (e : A = b) (h : b < A) : False := Nat.lt_irrefl A (e ▸ h)
theorem ad4 {b A k : Nat} (h : b < A) : ¬ b = A + k := Nat.ne_of_lt (Nat.lt_add_right k h)
theorem ad4s {b A k : Nat} (h : b < A) : ¬ A + k = b := Nat.ne_of_gt (Nat.lt_add_right k h)
end Mine
local macro_rules | `(tactic| walk_at "tkc") => `(tactic| first | with_reducible exact Nat.le_refl _ | with_reducible assumption | with_reducible exact Nat.le_add_left _ _ | (with_reducible refine Nat.le_add_right_of_le ?_; walk_at "tkc") | (with_reducible refine Nat.le_trans ?_ (by with_reducible assumption); walk_at "tkc"))
local macro_rules | `(tactic| walk_at "om") => `(tactic| first | with_reducible exact Mine.rmD (by with_reducible assumption) (by decide) | with_reducible exact Mine.cuD (by with_reducible assumption) (by decide) | with_reducible exact Mine.rm1 (by with_reducible assumption) (by decide) | (walk_at "tkc"; done) | with_reducible exact Mine.lew (by with_reducible assumption) (by decide) | with_reducible exact Mine.ad1 (by with_reducible assumption) | with_reducible exact Mine.ad1' (by with_reducible assumption) | with_reducible exact Mine.ad2 (by with_reducible assumption) (by decide) | with_reducible exact Mine.ad2' (by with_reducible assumption) (by decide) | with_reducible exact Mine.ad3 (by with_reducible assumption) (by with_reducible assumption) | with_reducible exact Mine.ad3' (by with_reducible assumption) (by with_reducible assumption) | with_reducible exact (Mine.ad3 (by with_reducible assumption) (by with_reducible assumption)).elim | with_reducible exact Nat.ne_of_lt (by with_reducible assumption) | with_reducible exact Nat.ne_of_gt (by with_reducible assumption) | with_reducible exact Mine.ad4 (by with_reducible assumption) | with_reducible exact Mine.ad4s (by with_reducible assumption) | with_reducible exact Mine.ad3s (by with_reducible assumption) (by with_reducible assumption) | with_reducible exact Int.natCast_nonneg _ | lia | omega)

section
open PySem PySem.Calls PySem.W PyProof.Rows
namespace Mine
noncomputable abbrev PP : Program := PySem.Challenge.rw_wr0028_01.row.prog
noncomputable abbrev VW : Program := hd.view_284

/-- what surrounds a def's call -/
noncomputable abbrev arT (dp un : Nat) (gd : Option (List Code)) (outer : List Env) : Around := { handled := none, depth := dp, frames := some outer, guards := gd, units := un }

/-- what a caller brings -/
structure Cal (w : World) (mean : ExcName → Option Value) (mg mb : Str → Option Value) (dp un : Nat) (gd : Option (List Code)) (base : Heap) (outer : List Env) (s : Shared) : Prop where
  B : Below (arT dp un gd outer) base outer s.heap
  X : (hd.heap_161 w.params).In s.heap
  T : Top VW (looseW VW []) mean mg mb s.heap
  tk : 1 ≤ s.toks
  gs : AllBare s.gens

/-- what a call leaves -/
structure Grew (s s' : Shared) : Prop where
  keep : ∀ b o, s.heap.get? b = some o → s'.heap.get? b = some o
  tk : s.toks ≤ s'.toks
  gs : AllBare s'.gens
  os : s'.os = s.os

theorem Grew.trans {s s' s'' : Shared} (a : Grew s s') (b : Grew s' s'') : Grew s s'' :=
  ⟨fun c o e => b.keep c o (a.keep c o e), Nat.le_trans a.tk b.tk, b.gs, b.os.trans a.os⟩

/-- a def's contract: called with vs it hands back a v with P -/
noncomputable abbrev Clm (w : World) (f : Addr) (vs : List Value) (d u : Nat) (s : Shared) (P : Value → Shared → Prop) : Prop :=
  ∀ (mean : ExcName → Option Value) (mg mb : Str → Option Value) (dp un : Nat) (gd : Option (List Code)) (base : Heap) (outer : List Env) (Q E : Value → Shared → Prop),
    Cal w mean mg mb dp un gd base outer s → dp + d < recursionLimit → un + u < cLine →
    (∀ (v : Value) (s' : Shared), Grew s s' → P v s' → Q v s') → wpAny (model PP w) (arT dp un gd outer) (call (.ref f) vs) Q E s

/-- a def's end -/
noncomputable def LeaveS (Q : Value → Shared → Prop) (v : Value) (s' : Shared) : Prop := Q v s'

section
variable {w : World} {mean : ExcName → Option Value} {mg mb : Str → Option Value} {dp un : Nat} {gd : Option (List Code)} {base : Heap} {outer : List Env} {s : Shared} {Q E : Value → Shared → Prop}
  {name qual : Str} {params : Arguments} {body : List Stmt} {scope : Scope} {dV kV doc pm cdv ct oc : Value} {an od : Option Addr} {osl : Array (Option Value)} {f : Addr} {args : List Value} {binds : List (Str × Value)}
theorem enterS (C : Cal w mean mg mb dp un gd base outer s)
    (ho : (hd.heap_161 w.params).lookup f = some ⟨oc, od, .func (fnOf name qual params body scope dV kV doc pm an cdv ct), osl⟩) (hcd : codeIn (hd.heap_161 w.params) cdv qual = true) (hroom : dp + 1 < recursionLimit)
    (hbind : BindsTo s (fnOf name qual params body scope dV kV doc pm an cdv ct) ⟨args, []⟩ binds) (hloc : ∀ y ∈ binds, scope.names.lookup y.1 = some .local)
    (h : ∀ h₁, Fr s.heap s.heap.objs.size h₁ (fun y => binds.reverse.lookup y) → News s.heap s.heap.objs.size h₁ [] →
      wpAny (model PP w) ((arT dp un gd outer).deeper (envOf qual scope s.heap.objs.size f cdv)) (execs body (envOf qual scope s.heap.objs.size f cdv))
        (fun fl s' => LeaveS Q (match fl with | .ret v => v | _ => .none) s')
        (fun e s' => wpAny (model PP w) ((arT dp un gd outer).deeper (envOf qual scope s.heap.objs.size f cdv)) (leaving (envOf qual scope s.heap.objs.size f cdv) e) (fun _ s'' => E e s'') (fun e' s'' => E e' s'') s')
        { s with heap := h₁, toks := s.toks + binds.length })
    (hcell : ∀ x ∈ scope.names, x.2 ≠ .cell) (hco : autoParam (scope.isCoroutine = false) aRfl) (hgen : autoParam (scope.isGenerator = false) aRfl) (hk : autoParam (scope.kind = .function) aRfl) :
    wpAny (model PP w) (arT dp un gd outer) (call (.ref f) args) Q E s := by
  refine wpAny_call (codeAny_call_def (fd := fnOf name qual params body scope dV kV doc pm an cdv ct) (body := body) (binds := binds) (Nat.lt_of_succ_lt hroom) (C.X _ _ ho) rfl C.T.nolimit (codeRec_of C.X hcd) rfl hbind hcell hloc (fun h₁ hns hk₁ => ?_) hco hgen hk)
  exact h h₁ ⟨hns, hk₁, Nat.le_refl _⟩ News.nil
end

theorem frGrew {h₀ : Heap} {L : Addr} {m : Str → Option Value} {s s' : Shared} (F : Fr h₀ L s.heap m) (G : Grew s s') : Fr h₀ L s'.heap m :=
  ⟨F.ns.keeps G.keep, fun b o e => G.keep _ _ (F.keep b o e), F.above⟩
theorem newsGrew {h₀ : Heap} {L : Addr} {news : List (Addr × Obj)} {s s' : Shared} (N : News h₀ L s.heap news) (G : Grew s s') : News h₀ L s'.heap news :=
  fun p hp => ⟨G.keep _ _ (N p hp).1, (N p hp).2⟩
/-- from within a def's frame -/
theorem Cal.inside {w : World} {mean : ExcName → Option Value} {mg mb : Str → Option Value} {dp un : Nat} {gd : Option (List Code)} {base : Heap} {outer : List Env} {s s₁ : Shared} {L a : Addr} {qual : Str} {scope : Scope} {cdv : Value} {m : Str → Option Value}
    (C : Cal w mean mg mb dp un gd base outer s) (F : Fr s.heap L s₁.heap m) (htk : 1 ≤ s₁.toks) (hgs : AllBare s₁.gens) (hk : autoParam (scope.kind = .function) aRfl) :
    Cal w mean mg mb (dp + 1) (un + 3) gd base (envOf qual scope L a cdv :: outer) s₁ :=
  ⟨let B := pushX C.B F (env := envOf qual scope L a cdv) rfl hk; ⟨rfl, B.stays, B.frames⟩, C.X.keeps F.keep, C.T.keeps F.keep, htk, hgs⟩
theorem Clm.int {w : World} {f : Addr} {vs : List Value} {d u : Nat} {s : Shared} {x : Int} (h : Clm w f vs d u s (fun v _ => ∃ t', v = .int x t')) (mean : ExcName → Option Value) (mg mb : Str → Option Value) (dp un : Nat) (gd : Option (List Code)) (base : Heap) (outer : List Env) (Q E : Value → Shared → Prop)
    (C : Cal w mean mg mb dp un gd base outer s) (hd : dp + d < recursionLimit) (hu : un + u < cLine) (k : ∀ (t' : Tok) (s' : Shared), Grew s s' → Q (.int x t') s') : wpAny (model PP w) (arT dp un gd outer) (call (.ref f) vs) Q E s :=
  h mean mg mb dp un gd base outer Q E C hd hu fun v s' G hv => by obtain ⟨t', rfl⟩ := hv; exact k t' s' G
theorem Clm.str {w : World} {f : Addr} {vs : List Value} {d u : Nat} {s : Shared} {x : Str} (h : Clm w f vs d u s (fun v _ => ∃ t', v = .str x t')) (mean : ExcName → Option Value) (mg mb : Str → Option Value) (dp un : Nat) (gd : Option (List Code)) (base : Heap) (outer : List Env) (Q E : Value → Shared → Prop)
    (C : Cal w mean mg mb dp un gd base outer s) (hd : dp + d < recursionLimit) (hu : un + u < cLine) (k : ∀ (t' : Tok) (s' : Shared), Grew s s' → Q (.str x t') s') : wpAny (model PP w) (arT dp un gd outer) (call (.ref f) vs) Q E s :=
  h mean mg mb dp un gd base outer Q E C hd hu fun v s' G hv => by obtain ⟨t', rfl⟩ := hv; exact k t' s' G
theorem Clm.val {w : World} {f : Addr} {vs : List Value} {d u : Nat} {s : Shared} {x : Value} (h : Clm w f vs d u s (fun v _ => v = x)) (mean : ExcName → Option Value) (mg mb : Str → Option Value) (dp un : Nat) (gd : Option (List Code)) (base : Heap) (outer : List Env) (Q E : Value → Shared → Prop)
    (C : Cal w mean mg mb dp un gd base outer s) (hd : dp + d < recursionLimit) (hu : un + u < cLine) (k : ∀ (s' : Shared), Grew s s' → Q x s') : wpAny (model PP w) (arT dp un gd outer) (call (.ref f) vs) Q E s :=
  h mean mg mb dp un gd base outer Q E C hd hu fun v s' G hv => by subst hv; exact k s' G
theorem plainLt {h : Heap} {D : Addr} {it : Array Value} (P : h.PlainList D it) : @LT.lt Nat _ D h.objs.size := by
  obtain ⟨n, q⟩ := P; exact Heap.lt_size q
theorem tupLt {h : Heap} {D : Addr} {it : Array Value} (P : h.IsTuple D it) : @LT.lt Nat _ D h.objs.size := by
  obtain ⟨o, q, _⟩ := P; exact Heap.lt_size q
theorem listLt {h : Heap} {D : Addr} {it : Array Value} (P : h.IsList D it) : @LT.lt Nat _ D h.objs.size := by
  obtain ⟨o, q, _⟩ := P; exact Heap.lt_size q
end Mine
end

section
open PySem PySem.Calls PySem.W PyProof.Rows
namespace Mine
/-- a text by its signs -/
noncomputable abbrev S (l : List Nat) : Str := ⟨l.toArray⟩
theorem S_list (x : Str) : S x.cps.toList = x := by cases x; simp [S]
theorem S_length (l : List Nat) : (S l).length = l.length := by simp [S, Str.length]
theorem S_append (a b : List Nat) : S a ++ S b = S (a ++ b) := by
  apply Str.ext'
  rw [Str.cps_append]
  simp [S]
theorem S_inj {a b : List Nat} (h : S a = S b) : a = b := by
  have := congrArg (fun x : Str => x.cps.toList) h
  simpa [S] using this
theorem S_beq (a b : List Nat) : (S a == S b) = (a == b) := by
  by_cases h : a = b
  · subst h; simp
  · rw [beq_eq_false_iff_ne.mpr h, beq_eq_false_iff_ne.mpr fun e => h (S_inj e)]

noncomputable def sub (c : Nat) (z : List Nat) (k : Nat) : List Nat := if k = c then z else [k]
theorem sub_free (c : Nat) (z : List Nat) : ∀ l : List Nat, c ∉ l → l.flatMap (sub c z) = l
  | [], _ => rfl
  | k :: r, h => by
    have h1 : ¬ k = c := fun e => h (e ▸ List.mem_cons_self ..)
    have h2 : c ∉ r := fun m => h (List.mem_cons_of_mem _ m)
    rw [List.flatMap_cons, sub_free c z r h2, sub, if_neg h1]; rfl
theorem sub_join (c : Nat) (z : List Nat) : ∀ parts : List Str, (∀ p ∈ parts, c ∉ p.cps.toList) → (Str.join ⟨#[c]⟩ parts).cps.toList.flatMap (sub c z) = (Str.join (S z) parts).cps.toList
  | [], _ => rfl
  | [p], h => sub_free c z _ (h p (List.mem_singleton.mpr rfl))
  | p :: q :: r, h => by
    have ih := sub_join c z (q :: r) fun a ha => h a (List.mem_cons_of_mem _ ha)
    show (p ++ ⟨#[c]⟩ ++ Str.join ⟨#[c]⟩ (q :: r)).cps.toList.flatMap (sub c z) = (p ++ S z ++ Str.join (S z) (q :: r)).cps.toList
    simp only [Str.cps_append, Array.toList_append, List.flatMap_append]
    rw [ih, sub_free c z _ (h p (List.mem_cons_self ..))]
    simp [sub, S]
theorem replace_sub (l z : List Nat) (c : Nat) : Txt.replace (S l) (S [c]) (S z) = S (l.flatMap (sub c z)) := by
  have e : (Txt.replace (S l) (S [c]) (S z)).cps.toList = l.flatMap (sub c z) := by
    rw [show S [c] = (⟨#[c]⟩ : Str) from rfl, StrLaws.replace_one, ← sub_join c z _ (StrLaws.split_free (S l) c), StrLaws.join_split]
  rw [← S_list (Txt.replace (S l) (S [c]) (S z)), e]
theorem has_one (l : List Nat) (c : Nat) : (!(Builtin.Str.occurrences (S l) (S [c]) 0 (S l).length 1).isEmpty) = l.contains c := by
  rw [show S [c] = (⟨#[c]⟩ : Str) from rfl, StrLaws.found_one]
  simp
end Mine
end

section
open PySem PySem.Calls PySem.W PyProof.Rows
namespace Mine
theorem fill (P : Params) : hd.heap_161 P = hd.heap_161 P ∧ PySem.Challenge.rw_wr0028_01 = PySem.Challenge.rw_wr0028_01 := by k_fill; exact ⟨rfl, rfl⟩
section
variable {w : World} {A : Around} {E : Value → Shared → Prop} {s : Shared} {h₀ : Heap} {L a : Addr} {m : Str → Option Value} {cn : Str} {cs : Scope} {ccd : Value} {news : List (Addr × Obj)} {Q : Flow → Shared → Prop}
/-- «if c in text: text = text.replace(c, z)» -/
theorem esc_if {T : Str} {c c' z : Str} {k k' : Nat} {p1 p2 p3 p4 p5 p7 p8 p9 p10 p11 p12 : Pos} {l lz : List Nat} {cc : Nat} {t : Tok}
    (F : Fr h₀ L s.heap m) (N : News h₀ L s.heap news) (hT : m T = some (.str (S l) t)) (htk : 1 ≤ s.toks)
    (hc : c = S [cc]) (hc' : c' = S [cc]) (hz : z = S lz) (hne : (S [cc] == S lz) = false) (hl : l.length ≤ 1048576) (hlz : lz.length ≤ 14)
    (h : ∀ h' t' tk', Fr h₀ L h' (fun y => if y = T then some (.str (S (l.flatMap (sub cc lz))) t') else m y) → News h₀ L h' news → 1 ≤ tk' → s.toks ≤ tk' → Q .next { s with heap := h', toks := tk' })
    (hk : autoParam (cs.kind = .function) aRfl) (hx : autoParam ((envOf cn cs L a ccd).kindOf T = some .local) aRfl) (hd : autoParam ((T == ("__debug__" : Str)) = false) aDec)
    {pl : Sem Bool} (he : autoParam (eval (.Call (.Attribute (.Name T p5) "replace" p7) [.Constant (.str c') k' p9, .Constant (.str z) k' p10] [] p8) (envOf cn cs L a ccd) = (do
      let ov ← eval (.Name T p5) (envOf cn cs L a ccd)
      standAt p7.atName
      let (f, first) ← holding [ov] (getMethod ov "replace" pl)
      callWith p8 f first (backTo p8 (starEach [.Constant (.str c') k' p9, .Constant (.str z) k' p10] (envOf cn cs L a ccd))) [])) aRfl) :
    wpAny (model PP w) A (exec (.If (.Compare (.Constant (.str c) k p1) [.In] [.Name T p2] p3) [.Assign [.Name T p4] (.Call (.Attribute (.Name T p5) "replace" p7) [.Constant (.str c') k' p9, .Constant (.str z) k' p10] [] p8) p11] [] p12) (envOf cn cs L a ccd)) Q E s := by
  subst hc hc' hz
  refine wpAny_If (wpAny_isTrue_Compare1 (Calls.Constant_str (ld F hT (PyProof.Rows.in_str (wpAny_truthy_bool ?_)) hk hx hd)))
  rw [has_one]
  by_cases hm : l.contains cc = true
  · rw [if_pos hm]
    refine wpAny_execs_cons (wpAny_Assign_Name (MethodCall_ (ld F hT (GM.replace (callWith_method1 (args_cons (Calls.Constant_str (args_cons (Calls.Constant_str (args_nil ?_))))))) hk hx hd) he))
    refine wpAny_with_toks (n := s.toks) (by dsimp only; walk_at "om") (SC.replaceW (by show @Ne Nat _ _; dsimp only; walk_at "om") (by show @Ne Nat _ _; dsimp only; walk_at "om") (by show @Ne Nat _ _; dsimp only; walk_at "om") hne (by rw [S_length]; exact hl) (by rw [S_length]; exact hlz) fun t' tk htk' => ?_)
    dsimp only at htk'
    rw [replace_sub]
    refine stN F N (fun h' F' N' => wpAny_execs_nil ?_) hk hx
    refine h h' t' (tk + 1) F' N' (by walk_at "om") (by walk_at "om")
  · rw [if_neg hm]
    refine wpAny_execs_nil ?_
    have e : l.flatMap (sub cc lz) = l := sub_free _ _ _ (by simpa using hm)
    have := h s.heap t (s.toks + 1) (by
      rw [e, ← hT]
      have : (fun y => if y = T then m T else m y) = m := by funext y; split <;> simp_all
      rw [this]; exact F) N (by walk_at "om") (by walk_at "om")
    exact this
end

noncomputable def amp : List Nat := [38, 97, 109, 112, 59]
noncomputable def lts : List Nat := [38, 108, 116, 59]
noncomputable def gts : List Nat := [38, 103, 116, 59]
noncomputable def quo : List Nat := [38, 113, 117, 111, 116, 59]
noncomputable def d13 : List Nat := [38, 35, 49, 51, 59]
noncomputable def d10 : List Nat := [38, 35, 49, 48, 59]
noncomputable def d09 : List Nat := [38, 35, 48, 57, 59]
noncomputable def x9s : List Nat := [38, 35, 120, 57, 59]
noncomputable def xAs : List Nat := [38, 35, 120, 65, 59]
noncomputable def xDs : List Nat := [38, 35, 120, 68, 59]

noncomputable def rep : List (Nat × List Nat) → List Nat → List Nat
  | [], l => l
  | p :: ps, l => rep ps (l.flatMap (sub p.1 p.2))
theorem rep_flat : ∀ (ps : List (Nat × List Nat)) (l : List Nat), rep ps l = l.flatMap fun d => rep ps [d]
  | [], l => by simp [rep]
  | p :: ps, l => by
    have e : ∀ d, rep (p :: ps) [d] = (sub p.1 p.2 d).flatMap fun d => rep ps [d] := fun d => by
      show rep ps ([d].flatMap (sub p.1 p.2)) = _
      rw [rep_flat ps]; simp
    rw [funext e]
    show rep ps (l.flatMap (sub p.1 p.2)) = _
    rw [rep_flat ps, List.flatMap_assoc]
theorem flat_le {g : Nat → List Nat} {b : Nat} (hg : ∀ k, (g k).length ≤ b) (l : List Nat) : (l.flatMap g).length ≤ l.length * b := by
  induction l with
  | nil => simp
  | cons k r ih => rw [List.flatMap_cons, List.length_append, List.length_cons, Nat.succ_mul]; have := hg k; walk_at "om"
theorem rep_le (ps : List (Nat × List Nat)) (h : ∀ d, (rep ps [d]).length ≤ 6) (l : List Nat) (hl : l.length ≤ 100000) : (rep ps l).length ≤ 1048576 := by
  rw [rep_flat]
  have := flat_le h l
  walk_at "om"
/-- one of the signs, or none of them -/
theorem six_of (ps : List (Nat × List Nat)) (h : ∀ d ∈ ps.map (·.1), (rep ps [d]).length ≤ 6) (d : Nat) : (rep ps [d]).length ≤ 6 := by
  by_cases hd : d ∈ ps.map (·.1)
  · exact h d hd
  · have : ∀ (ps : List (Nat × List Nat)), d ∉ ps.map (·.1) → rep ps [d] = [d] := by
      intro ps
      induction ps with
      | nil => intro _; rfl
      | cons p r ih =>
        intro h
        simp only [List.map_cons, List.mem_cons, not_or] at h
        show rep r ([d].flatMap (sub p.1 p.2)) = [d]
        rw [show [d].flatMap (sub p.1 p.2) = [d] by simp [sub, h.1]]
        exact ih h.2
    rw [this ps hd]; simp
noncomputable def pA : List (Nat × List Nat) := [(38, amp), (60, lts), (62, gts), (34, quo), (13, d13), (10, d10), (9, d09)]
noncomputable def pH : List (Nat × List Nat) := [(38, amp), (62, gts), (34, quo)]
noncomputable def pC : List (Nat × List Nat) := [(38, amp), (60, lts), (34, quo), (9, x9s), (10, xAs), (13, xDs)]
theorem low (ps : List (Nat × List Nat)) (h : (ps.all fun p => decide ((rep ps [p.1]).length ≤ 6)) = true) (l : List Nat) (hl : l.length ≤ 100000) : (rep ps l).length ≤ 1048576 :=
  rep_le ps (six_of ps fun d hd => by
    obtain ⟨p, hp, rfl⟩ := List.mem_map.mp hd
    exact of_decide_eq_true (List.all_eq_true.mp h p hp)) l hl
theorem escA {w : World} {s : Shared} (l : List Nat) (t : Tok) (hl : l.length ≤ 100000) : Clm w 77 [.str (S l) t] 1 1 s (fun v _ => ∃ t', v = .str (S (rep pA l)) t') := by
  intro mean mg mb dp un gd base outer Q E C hd hu hret
  refine enterS C (by k_is) (by k_is) hd (BindsTo.of_eq rfl) (locs rfl) (fun h₁ F N => ?_) (by decide)
  have htk := C.tk
  refine wpAny_execs_cons (wpAny_Try_except ?_)
  refine wpAny_execs_cons (esc_if (cc := 38) (lz := amp) F N (by rfl) (by dsimp only; walk_at "om") (by rfl) (by rfl) (by rfl) (by decide) (low [] (by decide) l hl) (by decide) (fun h1 t1 k1 F N a1 b1 => ?_))
  refine wpAny_execs_cons (esc_if (cc := 60) (lz := lts) F N (by rfl) a1 (by rfl) (by rfl) (by rfl) (by decide) (low (pA.take 1) (by decide) l hl) (by decide) (fun h2 t2 k2 F N a2 b2 => ?_))
  refine wpAny_execs_cons (esc_if (cc := 62) (lz := gts) F N (by rfl) a2 (by rfl) (by rfl) (by rfl) (by decide) (low (pA.take 2) (by decide) l hl) (by decide) (fun h3 t3 k3 F N a3 b3 => ?_))
  refine wpAny_execs_cons (esc_if (cc := 34) (lz := quo) F N (by rfl) a3 (by rfl) (by rfl) (by rfl) (by decide) (low (pA.take 3) (by decide) l hl) (by decide) (fun h4 t4 k4 F N a4 b4 => ?_))
  refine wpAny_execs_cons (esc_if (cc := 13) (lz := d13) F N (by rfl) a4 (by rfl) (by rfl) (by rfl) (by decide) (low (pA.take 4) (by decide) l hl) (by decide) (fun h5 t5 k5 F N a5 b5 => ?_))
  refine wpAny_execs_cons (esc_if (cc := 10) (lz := d10) F N (by rfl) a5 (by rfl) (by rfl) (by rfl) (by decide) (low (pA.take 5) (by decide) l hl) (by decide) (fun h6 t6 k6 F N a6 b6 => ?_))
  refine wpAny_execs_cons (esc_if (cc := 9) (lz := d09) F N (by rfl) a6 (by rfl) (by rfl) (by rfl) (by decide) (low (pA.take 6) (by decide) l hl) (by decide) (fun h7 t7 k7 F N a7 b7 => ?_))
  refine wpAny_execs_cons (wpAny_Return_some (ld F (by rfl) ?_))
  exact hret _ _ ⟨F.keep, by dsimp only at b1 b2 b3 b4 b5 b6 b7 ⊢; walk_at "om", C.gs, rfl⟩ ⟨t7, rfl⟩
theorem escH {w : World} {s : Shared} (l : List Nat) (t : Tok) (hl : l.length ≤ 100000) : Clm w 84 [.str (S l) t] 1 1 s (fun v _ => ∃ t', v = .str (S (rep pH l)) t') := by
  intro mean mg mb dp un gd base outer Q E C hd hu hret
  refine enterS C (by k_is) (by k_is) hd (BindsTo.of_eq rfl) (locs rfl) (fun h₁ F N => ?_) (by decide)
  have htk := C.tk
  refine wpAny_execs_cons (wpAny_Try_except ?_)
  refine wpAny_execs_cons (esc_if (cc := 38) (lz := amp) F N (by rfl) (by dsimp only; walk_at "om") (by rfl) (by rfl) (by rfl) (by decide) (low [] (by decide) l hl) (by decide) (fun h1 t1 k1 F N a1 b1 => ?_))
  refine wpAny_execs_cons (esc_if (cc := 62) (lz := gts) F N (by rfl) a1 (by rfl) (by rfl) (by rfl) (by decide) (low (pH.take 1) (by decide) l hl) (by decide) (fun h2 t2 k2 F N a2 b2 => ?_))
  refine wpAny_execs_cons (esc_if (cc := 34) (lz := quo) F N (by rfl) a2 (by rfl) (by rfl) (by rfl) (by decide) (low (pH.take 2) (by decide) l hl) (by decide) (fun h3 t3 k3 F N a3 b3 => ?_))
  refine wpAny_execs_cons (wpAny_Return_some (ld F (by rfl) ?_))
  exact hret _ _ ⟨F.keep, by dsimp only at b1 b2 b3 ⊢; walk_at "om", C.gs, rfl⟩ ⟨t3, rfl⟩
theorem escC {w : World} {s : Shared} (l : List Nat) (t : Tok) (hl : l.length ≤ 100000) : Clm w 91 [.str (S l) t] 1 1 s (fun v _ => ∃ t', v = .str (S (rep pC l)) t') := by
  intro mean mg mb dp un gd base outer Q E C hd hu hret
  refine enterS C (by k_is) (by k_is) hd (BindsTo.of_eq rfl) (locs rfl) (fun h₁ F N => ?_) (by decide)
  have htk := C.tk
  refine wpAny_execs_cons (wpAny_Try_except ?_)
  refine wpAny_execs_cons (esc_if (cc := 38) (lz := amp) F N (by rfl) (by dsimp only; walk_at "om") (by rfl) (by rfl) (by rfl) (by decide) (low [] (by decide) l hl) (by decide) (fun h1 t1 k1 F N a1 b1 => ?_))
  refine wpAny_execs_cons (esc_if (cc := 60) (lz := lts) F N (by rfl) a1 (by rfl) (by rfl) (by rfl) (by decide) (low (pC.take 1) (by decide) l hl) (by decide) (fun h2 t2 k2 F N a2 b2 => ?_))
  refine wpAny_execs_cons (esc_if (cc := 34) (lz := quo) F N (by rfl) a2 (by rfl) (by rfl) (by rfl) (by decide) (low (pC.take 2) (by decide) l hl) (by decide) (fun h3 t3 k3 F N a3 b3 => ?_))
  refine wpAny_execs_cons (esc_if (cc := 9) (lz := x9s) F N (by rfl) a3 (by rfl) (by rfl) (by rfl) (by decide) (low (pC.take 3) (by decide) l hl) (by decide) (fun h4 t4 k4 F N a4 b4 => ?_))
  refine wpAny_execs_cons (esc_if (cc := 10) (lz := xAs) F N (by rfl) a4 (by rfl) (by rfl) (by rfl) (by decide) (low (pC.take 4) (by decide) l hl) (by decide) (fun h5 t5 k5 F N a5 b5 => ?_))
  refine wpAny_execs_cons (esc_if (cc := 13) (lz := xDs) F N (by rfl) a5 (by rfl) (by rfl) (by rfl) (by decide) (low (pC.take 5) (by decide) l hl) (by decide) (fun h6 t6 k6 F N a6 b6 => ?_))
  refine wpAny_execs_cons (wpAny_Return_some (ld F (by rfl) ?_))
  exact hret _ _ ⟨F.keep, by dsimp only at b1 b2 b3 b4 b5 b6 ⊢; walk_at "om", C.gs, rfl⟩ ⟨t6, rfl⟩
end Mine
end

section
open PySem PySem.Calls PySem.W PyProof.Rows
namespace Mine
example (P : Params) : hd.heap_161 P = hd.heap_161 P ∧ PySem.Challenge.rw_wr0028_01 = PySem.Challenge.rw_wr0028_01 := by k_fill; exact ⟨rfl, rfl⟩
noncomputable def wri (i : Int) (l : List Nat) : List Nat := if i = 0 then rep pA l else if i = 1 then rep pH l else rep pC l
theorem written {w : World} {s : Shared} (i : Int) (ti : Tok) (l : List Nat) (t : Tok) (hl : l.length ≤ 100000) : Clm w 98 [.int i ti, .str (S l) t] 2 4 s (fun v _ => ∃ t', v = .str (S (wri i l)) t') := by
  intro mean mg mb dp un gd base outer Q E C hd hu hret
  refine enterS C (by k_is) (by k_is) (by walk_at "om") (BindsTo.of_eq rfl) (locs rfl) (fun h₁ F N => ?_) (by decide)
  have htk := C.tk
  refine wpAny_execs_cons (wpAny_If (wpAny_isTrue_Compare1 (ld F (by rfl) (wpAny_Constant_int (eq_int (wpAny_truthy_bool ?_))))))
  by_cases h0 : i = 0
  · rw [if_pos (by simpa using h0)]
    refine wpAny_execs_cons (wpAny_Return_some (Call_ (name_K F C.X (topRead_of C.T) (by k_is) (callWith_K C.X (by k_is) (args_cons (ld F (by rfl) (args_nil ⟨C.X.keeps F.keep, ?_⟩)))))))
    refine escA l t hl mean mg mb _ _ _ base _ _ _ (C.inside F (by dsimp only; walk_at "om") C.gs) (by walk_at "om") (by walk_at "om") fun v s' G h => ?_
    obtain ⟨t', rfl⟩ := h
    have F := frGrew F G
    exact hret _ _ ⟨F.keep, by have := G.tk; dsimp only at this; walk_at "om", G.gs, G.os⟩ ⟨t', by rw [wri, if_pos h0]⟩
  · rw [if_neg (by simpa using h0)]
    refine wpAny_execs_nil (wpAny_execs_cons (wpAny_If (wpAny_isTrue_Compare1 (ld F (by rfl) (wpAny_Constant_int (eq_int (wpAny_truthy_bool ?_)))))))
    by_cases h1 : i = 1
    · rw [if_pos (by simpa using h1)]
      refine wpAny_execs_cons (wpAny_Return_some (Call_ (name_K F C.X (topRead_of C.T) (by k_is) (callWith_K C.X (by k_is) (args_cons (ld F (by rfl) (args_nil ⟨C.X.keeps F.keep, ?_⟩)))))))
      refine escH l t hl mean mg mb _ _ _ base _ _ _ (C.inside F (by dsimp only; walk_at "om") C.gs) (by walk_at "om") (by walk_at "om") fun v s' G h => ?_
      obtain ⟨t', rfl⟩ := h
      have F := frGrew F G
      exact hret _ _ ⟨F.keep, by have := G.tk; dsimp only at this; walk_at "om", G.gs, G.os⟩ ⟨t', by rw [wri, if_neg h0, if_pos h1]⟩
    · rw [if_neg (by simpa using h1)]
      refine wpAny_execs_nil (wpAny_execs_cons (wpAny_Return_some (Call_ (name_K F C.X (topRead_of C.T) (by k_is) (callWith_K C.X (by k_is) (args_cons (ld F (by rfl) (args_nil ⟨C.X.keeps F.keep, ?_⟩))))))))
      refine escC l t hl mean mg mb _ _ _ base _ _ _ (C.inside F (by dsimp only; walk_at "om") C.gs) (by walk_at "om") (by walk_at "om") fun v s' G h => ?_
      obtain ⟨t', rfl⟩ := h
      have F := frGrew F G
      exact hret _ _ ⟨F.keep, by have := G.tk; dsimp only at this; walk_at "om", G.gs, G.os⟩ ⟨t', by rw [wri, if_neg h0, if_neg h1]⟩
end Mine
end

section
open PySem PySem.Calls PySem.W PyProof.Rows
namespace Mine
/-- an iterator, its turns, and the tokens -/
structure Wk (w : World) (A : Around) (I : Addr) (fp wr : List Addr) (n k : Nat) (P : Nat → Value → Nat → Prop) (St : Nat → Heap → Prop) : Prop where
  frame : ∀ i h h', St i h → (∀ b ∈ fp, ∀ o, h.get? b = some o → h'.get? b = some o) → St i h'
  item : ∀ i (s : Shared) (Q : Option Value → Shared → Prop) (E : Value → Shared → Prop), i < n → St i s.heap → k ≤ s.toks →
    (∀ v h' tk, P i v tk → St (i + 1) h' → (∀ b o, b ∉ wr → s.heap.get? b = some o → h'.get? b = some o) → s.toks ≤ tk → Q (some v) { s with heap := h', toks := tk }) → wpAny (model PP w) A (pyNext (.ref I)) Q E s
  done : ∀ (s : Shared) (Q : Option Value → Shared → Prop) (E : Value → Shared → Prop), St n s.heap →
    (∀ h' tk, (∀ b o, b ∉ wr → s.heap.get? b = some o → h'.get? b = some o) → s.toks ≤ tk → Q none { s with heap := h', toks := tk }) → wpAny (model PP w) A (pyNext (.ref I)) Q E s
theorem Wk.of {w : World} {A : Around} {I : Addr} {fp wr : List Addr} {n : Nat} {P : Nat → Value → Prop} {St : Nat → Heap → Prop} {k : Nat} (W : Walks PP w A I fp wr n P St) : Wk w A I fp wr n k (fun i v _ => P i v) St where
  frame := W.frame
  item := fun i s Q E hi st htk hQ => wpAny_with_toks (Nat.le_refl _) (W.item i s _ _ hi st fun v h' tk a b c d => hQ v h' tk a b c d)
  done := fun s Q E st hQ => wpAny_with_toks (Nat.le_refl _) (W.done s _ _ st fun h' tk a b => hQ h' tk a b)
/-- the signs of a text, each with a token of its own -/
noncomputable abbrev SgAt (l : List Nat) (k : Nat) (i : Nat) (v : Value) (tk : Nat) : Prop := ∃ c, ∃ u : Nat, l[i]? = some c ∧ v = .str (S [c]) u ∧ k ≤ u ∧ u < tk
theorem Wk.ascii {w : World} {A : Around} (hh : A.handled = none) (I : Addr) (l : List Nat) (t : Tok) (k : Nat) :
    Wk w A I [I] [I] l.length k (SgAt l k) (fun i h => h.IsStrIter I "str_ascii_iterator" (S l) t i) where
  frame := fun _ _ _ st hk => let ⟨o, ho, r⟩ := st; ⟨o, hk I (by simp) o ho, r⟩
  item := fun i s Q E hi st htk hQ => by
    refine wpAny_pyNext_ascii_item st (c := l[i]) (by simp [S, hi]) fun h' hit' hs' => ?_
    exact hQ _ h' (s.toks + 1) ⟨_, _, by simp [hi], rfl, htk, Nat.lt_succ_self _⟩ hit' (fun b o hb e => hs'.extBut b o (fun h => hb (by simp [h])) e) (Nat.le_succ _)
  done := fun s Q E st hQ => wpAny_pyNext_ascii_end hh st (by simp [S]) fun h' he' => hQ h' s.toks (fun b o hb e => he' b o (fun h => hb (by simp [h])) e) (Nat.le_refl _)
theorem Wk.wide {w : World} {A : Around} (hh : A.handled = none) (I : Addr) (l : List Nat) (t : Tok) (k : Nat) :
    Wk w A I [I] [I] l.length k (SgAt l k) (fun i h => h.IsStrIter I "str_iterator" (S l) t i) where
  frame := fun _ _ _ st hk => let ⟨o, ho, r⟩ := st; ⟨o, hk I (by simp) o ho, r⟩
  item := fun i s Q E hi st htk hQ => by
    refine wpAny_pyNext_wide_item st (c := l[i]) (by simp [S, hi]) fun h' hit' hs' => ?_
    exact hQ _ h' (s.toks + 1) ⟨_, _, by simp [hi], rfl, htk, Nat.lt_succ_self _⟩ hit' (fun b o hb e => hs'.extBut b o (fun h => hb (by simp [h])) e) (Nat.le_succ _)
  done := fun s Q E st hQ => wpAny_pyNext_wide_end hh st (by simp [S]) fun h' he' => hQ h' s.toks (fun b o hb e => he' b o (fun h => hb (by simp [h])) e) (Nat.le_refl _)
theorem pyIter_S {w : World} {A : Around} {E : Value → Shared → Prop} {s : Shared} {l : List Nat} {t : Tok} {Q : Value → Shared → Prop}
    (hQ : ∀ (o : Obj) (St : Nat → Heap → Prop), (∀ (A' : Around) (k : Nat), A'.handled = none → Wk w A' s.heap.objs.size [s.heap.objs.size] [s.heap.objs.size] l.length k (SgAt l k) St) → St 0 (s.heap.push o) →
      Q (.ref s.heap.objs.size) { s with heap := s.heap.push o }) : wpAny (model PP w) A (pyIter (.str (S l) t)) Q E s := by
  cases ha : (S l).cps.all (· < 128)
  · exact wpAny_pyIter_wide ha (hQ _ _ (fun A' k hA => Wk.wide hA _ l t k) ⟨_, Heap.get?_push_size _ rfl, rfl, rfl⟩)
  · exact wpAny_pyIter_ascii ha (hQ _ _ (fun A' k hA => Wk.ascii hA _ l t k) ⟨_, Heap.get?_push_size _ rfl, rfl, rfl⟩)

section
variable {w : World} {A : Around} {env : Env} {R : Result → Shared → Prop} {s : Shared} {I : Addr} {fp wr : List Addr} {n k : Nat} {P : Nat → Value → Nat → Prop} {St : Nat → Heap → Prop} {body orelse : List Stmt}
/-- a turn's end -/
noncomputable def Turned (Inv : Nat → Shared → Prop) (St : Nat → Heap → Prop) (R : Result → Shared → Prop) (i : Nat) (f : Flow) (s : Shared) : Prop := match f with
  | .next | .cont => Inv (i + 1) s ∧ St (i + 1) s.heap
  | .brk => R (.ok .next) s
  | .ret v => R (.ok (.ret v)) s
theorem forN {x : Str} {px : Pos} (W : Wk w A I fp wr n k P St) (Inv : Nat → Shared → Prop) (h0 : Inv 0 s) (st0 : St 0 s.heap) (htk : ∀ i s', Inv i s' → k ≤ s'.toks)
    (stable : ∀ i (s' : Shared) h' tk, Inv i s' → (∀ b o, b ∉ wr → s'.heap.get? b = some o → h'.get? b = some o) → s'.toks ≤ tk → Inv i { s' with heap := h', toks := tk })
    (step : ∀ i v (s' : Shared) (E' : Value → Shared → Prop), i < n → P i v s'.toks → Inv i s' → St (i + 1) s'.heap →
      wpAny (model PP w) A (storeName env x v) (fun _ s₂ => wpAny (model PP w) A (execs body env) (Turned Inv St R i) E' s₂) E' s')
    (fin : ∀ (s' : Shared) (E' : Value → Shared → Prop), Inv n s' → wpAny (model PP w) A (execs orelse env) (fun f s₃ => R (.ok f) s₃) E' s') :
    codeAny (model PP w) A (.forLoop (.Name x px) (.ref I) body orelse env) R s := by
  refine codeAny_forLoop (fun k s' => ∃ i, Inv i s' ∧ St i s'.heap ∧ i ≤ n ∧ k = n + 1 - i) ?_ (n + 1) ⟨0, h0, st0, Nat.zero_le _, rfl⟩
  rintro k s' ⟨i, hI, hst, hi, rfl⟩
  by_cases hlt : i < n
  · refine W.item i _ _ _ hlt hst (htk _ _ hI) fun v h' tk hP hst' hk htk' => ?_
    refine wpAny_assign_Name (wpAny_mono (step i v _ _ hlt hP (stable i s' h' tk hI hk htk') hst') (fun _ s₂ h₂ => wpAny_mono h₂ (fun f s₃ h₃ => ?_) fun _ _ e => e) fun _ _ e => e)
    cases f with
    | next => exact ⟨n + 1 - (i + 1), by walk_at "om", i + 1, h₃.1, h₃.2, hlt, rfl⟩
    | cont => exact ⟨n + 1 - (i + 1), by walk_at "om", i + 1, h₃.1, h₃.2, hlt, rfl⟩
    | brk => exact h₃
    | ret v => exact h₃
  · obtain rfl : i = n := by walk_at "om"
    exact W.done _ _ _ hst fun h' tk hk htk' => fin _ _ (stable _ s' h' tk hI hk htk')
end

theorem Fr.step {h₀ h h' : Heap} {L : Addr} {m : Str → Option Value} {wr : List Addr} (F : Fr h₀ L h m) (hL : L ∉ wr) (hw : ∀ b ∈ wr, h₀.get? b = none) (hk : ∀ b o, b ∉ wr → h.get? b = some o → h'.get? b = some o) : Fr h₀ L h' m :=
  ⟨F.ns.at' fun o e => hk _ o hL e, fun b o e => hk b o (fun hb => by rw [hw b hb] at e; cases e) (F.keep b o e), F.above⟩
theorem Fr.fresh {h₀ h : Heap} {L : Addr} {m : Str → Option Value} (F : Fr h₀ L h m) : L ≠ h.objs.size ∧ h₀.get? h.objs.size = none := by
  obtain ⟨oL, _, _, hL, _⟩ := F.ns
  refine ⟨Nat.ne_of_lt (Heap.lt_size hL), ?_⟩
  cases hq : h₀.get? h.objs.size with
  | none => rfl
  | some o' => exact absurd (Heap.lt_size (F.keep _ _ hq)) (Nat.lt_irrefl _)
theorem stS {M : Model} {A : Around} {E : Value → Shared → Prop} {s : Shared} {cn : Str} {cs : Scope} {L a : Addr} {cd : Value} {h₀ : Heap} {m : Str → Option Value} {x : Str} {v : Value} {Q : Unit → Shared → Prop} (F : Fr h₀ L s.heap m)
    (h : ∀ h', Fr h₀ L h' (fun y => if y = x then some v else m y) → Heap.SameBut L s.heap h' → Q () { s with heap := h', toks := s.toks + 1 })
    (hk : autoParam (cs.kind = .function) aRfl) (hl : autoParam ((envOf cn cs L a cd).kindOf x = some .local) aRfl) :
    wpAny M A (storeName (envOf cn cs L a cd) x v) Q E s :=
  wpAny_storeName_local hl F.ns (fun h' hn hs => h h' (F.set hn hs) hs)
    (by show (cs.kind == .class || (cs.kind == .module && L != mainGlobals)) = false; rw [hk]; rfl)
end Mine
end

section
open PySem PySem.Calls PySem.W PyProof.Rows
namespace Mine
example (P : Params) : hd.heap_161 P = hd.heap_161 P ∧ PySem.Challenge.rw_wr0028_01 = PySem.Challenge.rw_wr0028_01 := by k_fill; exact ⟨rfl, rfl⟩
theorem ns_none {K : Frag} {h : Heap} {a : Addr} {mg : Str → Option Value} {n : Str} (X : K.In h) (G : h.Ns a mg) (e : nsIn K a n = some none) : mg n = none := by
  obtain ⟨o, es, ep, ho, hd, _, hf⟩ := G
  unfold nsIn at e
  split at e
  · rename_i c d es' n' sl q
    have := X _ _ q
    rw [ho] at this
    cases this
    cases hd
    split at e
    · cases e
    · rename_i he
      rw [← hf]
      unfold nsFind findBy
      rw [← Array.find?_toList, he]
      rfl
  · cases e
theorem booked {w : World} {p : Program} {loose : List Str} {mean : ExcName → Option Value} {mg mb : Str → Option Value} {h : Heap} (X : (hd.heap_161 w.params).In h) (T : Top p loose mean mg mb h) : NoneBooked h := by
  obtain ⟨mc, h1, _⟩ := T.nolimit
  exact ⟨mc, h1, ns_none X h1 (by k_is)⟩
theorem is_str {w : World} {A : Around} {E : Value → Shared → Prop} {s : Shared} {x y : Str} {t u : Tok} {Q : Value → Shared → Prop} (ht : t ≠ 0) (hu : u ≠ 0) (htu : t ≠ u) (hb : NoneBooked s.heap) (hq : ∀ b, (b = true → x = y) → Q (.bool b) s) :
    wpAny (model PP w) A (compareOp .Is (.str x t) (.str y u)) Q E s := by
  show wpAny _ A (do return .bool (← isSame (.str x t) (.str y u))) Q E s
  by_cases e : x = y
  · exact wpAny_bind (wpAny_isSame_str (by simp [ht, hu]) hb fun b => wpAny_pure (hq b fun _ => e))
  · rw [isSame_str_other x y t u (by simp [ht, hu]) (by simp [htu]) (by simpa using e)]
    exact wpAny_bind (wpAny_pure (wpAny_pure (hq false fun h => nomatch h)))
theorem addI {w : World} {s : Shared} (i j : Int) (ti tj : Tok) : Clm w 49 [.int i ti, .int j tj] 1 1 s (fun v _ => ∃ t', v = .int (i + j) t') := by
  intro mean mg mb dp un gd base outer Q E C hd hu hret
  refine enterS C (by k_is) (by k_is) (by walk_at "om") (BindsTo.of_eq rfl) (locs rfl) (fun h₁ F N => ?_) (by decide)
  refine wpAny_execs_cons (wpAny_Return_some (wpAny_BinOp (ld F (by rfl) (ld F (by rfl) (add_int ?_)))))
  exact hret _ _ ⟨F.keep, by dsimp only; walk_at "om", C.gs, rfl⟩ ⟨_, rfl⟩
theorem countOf {w : World} {s : Shared} (l : List Nat) (c : Nat) (t u : Tok) (hu0 : u ≠ 0) (hus : @LT.lt Nat _ u s.toks) : Clm w 63 [.str (S l) t, .str (S [c]) u] 1 1 s (fun v _ => ∃ t', v = .int (l.count c : Nat) t') := by
  intro mean mg mb dp un gd base outer Q E C hd hu hret
  refine enterS C (by k_is) (by k_is) (by walk_at "om") (BindsTo.of_eq rfl) (locs rfl) (fun h₁ F N => ?_) (by decide)
  refine wpAny_execs_cons (wpAny_Assign_Name (wpAny_Constant_int (stN F N (fun h₂ F N => ?_))))
  refine wpAny_execs_cons (wpAny_For (ld F (by rfl) (pyIter_S fun o St hW st0 => ?_)))
  have htk := C.tk
  refine forN (hW _ s.toks rfl) (fun i s' => ∃ h tk m tc, s' = { s with heap := h, toks := tk } ∧ Fr s.heap s.heap.objs.size h m ∧ s.toks ≤ tk ∧ m "count" = some (.int ((l.take i).count c : Nat) tc) ∧ m "b" = some (.str (S [c]) u))
    ⟨_, _, _, _, rfl, F.push o, by dsimp only; walk_at "om", by simp; rfl, rfl⟩ st0 ?_ ?_ ?_ ?_
  · rintro i _ ⟨h, tk, m, tc, rfl, F, a, b, d⟩; exact a
  · rintro i _ h' tk' hINV hk hle
    refine ex4 hINV fun h tk m tc hINVa => ?_
    clear hINV
    have hSUB := hINVa.1
    have hINVb := hINVa.2
    clear hINVa
    subst hSUB
    refine and4 hINVb fun F' a b d => ?_
    clear hINVb
    exact ⟨h', tk', m, tc, rfl, Fr.step F' (by simpa using (Fr.fresh F).1) (by simpa using (Fr.fresh F).2) hk, Nat.le_trans a hle, b, d⟩
  · rintro i v _ E' hi ⟨ci, ui, hc, rfl, hk, hlt⟩ hINV hst
    refine ex4 hINV fun h tk m tc hINVa => ?_
    clear hINV
    have hSUB := hINVa.1
    have hINVb := hINVa.2
    clear hINVa
    subst hSUB
    refine and4 hINVb fun F' a hcount hb => ?_
    clear hINVb
    have hL := (Fr.fresh F).1
    have keepSt : ∀ h h', St (i + 1) h → Heap.SameBut s.heap.objs.size h h' → St (i + 1) h' := fun h h' st k => (hW { handled := none } 0 rfl).frame _ _ _ st fun b hb o e => by
      simp at hb; subst hb; rw [k.2 _ hL.symm]; exact e
    have ec : (l.take (i + 1)).count c = (l.take i).count c + if ci = c then 1 else 0 := by
      have : l.take (i + 1) = l.take i ++ [ci] := by rw [List.take_add_one, hc]; rfl
      rw [this, List.count_append, List.count_cons]; simp
    refine stS F' fun h₃ F₃ k₃ => ?_
    refine wpAny_execs_cons (wpAny_If (wpAny_mono (Q := fun b s' => b = decide (ci = c) ∧ ∃ tk₄, s.toks ≤ tk₄ ∧ s' = { s with heap := h₃, toks := tk₄ }) ?_ ?_ (fun _ _ e => e)))
    · refine isTrue_or (wpAny_isTrue_Compare1 (ld F₃ (by rfl) (ld F₃ hb (is_str (by show @Ne Nat _ _; walk_at "om") hu0 (by show @Ne Nat _ _; walk_at "om") (booked (C.X.keeps F₃.keep) (C.T.keeps F₃.keep)) fun b hbe => wpAny_truthy_bool ?_))))
      cases b with
      | true =>
        have : ci = c := by have := S_inj (hbe rfl); simpa using this
        exact ⟨by simp [this], _, by dsimp only; walk_at "om", rfl⟩
      | false =>
        refine isTrue_or (wpAny_isTrue_Compare1 (ld F₃ (by rfl) (ld F₃ hb (eq_str (wpAny_truthy_bool ?_)))))
        rw [S_beq]
        by_cases e : ci = c
        · subst e; simp only [BEq.rfl, if_true]; exact ⟨by simp, _, by walk_at "om", rfl⟩
        · rw [if_neg (by simp [e])]
          exact isTrue_or_nil ⟨by simp [e], _, by dsimp only; walk_at "om", rfl⟩
    · rintro b _ ⟨rfl, tk₄, ht₄, rfl⟩
      by_cases e : ci = c
      · rw [if_pos (by simp [e])]
        refine wpAny_execs_cons (wpAny_AugAssign_Name (ldn F₃ hcount (wpAny_Constant_int (iadd_int (stS F₃ fun h₄ F₄ k₄ => wpAny_execs_nil (wpAny_execs_nil ?_))))))
        exact ⟨⟨h₄, _, _, _, rfl, F₄, by dsimp only; walk_at "om", by rw [ec, if_pos e]; rfl, hb⟩, keepSt _ _ (keepSt _ _ hst k₃) k₄⟩
      · rw [if_neg (by simp [e])]
        refine wpAny_execs_nil (wpAny_execs_nil ?_)
        exact ⟨⟨h₃, _, _, _, rfl, F₃, ht₄, by rw [ec, if_neg e]; exact hcount, hb⟩, keepSt _ _ hst k₃⟩
  · rintro _ E' hINV
    refine ex4 hINV fun h tk m tc hINVa => ?_
    clear hINV
    have hSUB := hINVa.1
    have hINVb := hINVa.2
    clear hINVa
    subst hSUB
    refine and4 hINVb fun F' a hcount hb => ?_
    clear hINVb
    refine wpAny_execs_nil (wpAny_execs_cons (wpAny_Return_some (ld F' hcount ?_)))
    exact hret _ _ ⟨F'.keep, a, C.gs, rfl⟩ ⟨_, by rw [List.take_of_length_le (Nat.le_refl _)]⟩
end Mine
end

section
open PySem PySem.Calls PySem.W PyProof.Rows
namespace Mine
section
variable {M : Model} {A : Around} {R : GenEnd} {Y : Protocol} {n : Nat} {s₀ : Shared} {c : Code} {fs : List Frame} {s : Shared} {env : Env}
  {K : Flow → Sem Fin} {H : Value → Sem Fin} {gd : Bool → Bool} {lv : List Value → List Value}
theorem seg_If {test : Expr} {body orelse : List Stmt} {pos : Pos}
    (h : wpAny M (A.over c fs) (isTrue test env (eval test env)) (fun b s' => if b = true then Seg M A R Y n s₀ c ((execs body env).wrap K H gd lv) fs s' else Seg M A R Y n s₀ c ((execs orelse env).wrap K H gd lv) fs s')
      (fun x s' => Seg M A R Y n s₀ c (H x) fs s') s) :
    Seg M A R Y n s₀ c ((exec (.If test body orelse pos) env).wrap K H gd lv) fs s := by
  show Seg M A R Y n s₀ c (.at pos fun _ => ((isTrue test env (eval test env)) >>= fun b => if b = true then execs body env else execs orelse env).wrap K H gd lv) fs s
  refine seg_at ?_
  rw [Sem.bind_eq_wrap', Sem.wrap_wrap]
  refine seg_wrap (wpAny_mono h (fun b s' hb => ?_) fun _ _ x => x)
  cases b with
  | true => rw [if_pos rfl] at hb ⊢; exact hb
  | false => rw [if_neg Bool.false_ne_true] at hb ⊢; exact hb
theorem seg_plain {st : Stmt} (h : wpAny M (A.over c fs) (exec st env) (fun f s' => Seg M A R Y n s₀ c (K f) fs s') (fun x s' => Seg M A R Y n s₀ c (H x) fs s') s) :
    Seg M A R Y n s₀ c ((exec st env).wrap K H gd lv) fs s := seg_wrap h
theorem seg_For {target iter : Expr} {body orelse : List Stmt} {pos : Pos}
    (h : wpAny M (A.over c fs) (eval iter env) (fun x s₁ => wpAny M (A.over c fs) (pyIter x) (fun it s₂ => ∀ kf, 
        (∀ c' n s₀ s', Seg M A R Y n s₀ c (K .next) fs s' → Seg M A R Y n s₀ c' (leafOf (.ok .next)) (kf :: fs) s') → kf.guarded = gd false → splitAtGen (kf :: fs) = (splitAtGen fs).map (fun x => (kf :: x.1, x.2)) →
        (A.over (.forLoop target it body orelse env) (kf :: fs)).handled = (marksOver fs (A.handled, A.handled)).1 →
        Seg M A R Y n s₀ (.forLoop target it body orelse env) (M.den (.forLoop target it body orelse env)) (kf :: fs) s₂)
      (fun x s' => Seg M A R Y n s₀ c (H x) fs s') s₁) (fun x s' => Seg M A R Y n s₀ c (H x) fs s') s)
    (hs : autoParam (∀ x, foldedSetIterable iter env x = pure x) aIntR) :
    Seg M A R Y n s₀ c ((exec (.For target iter body orelse pos) env).wrap K H gd lv) fs s := by
  rw [exec_For]
  have e : (do standAt pos
               let x ← foldedSetIterable iter env (← eval iter env)
               standAt iter.pos
               runOwn (.forLoop target (← holding [x] (pyIter x)) body orelse env) env : Sem Flow) =
      (standAt pos >>= fun _ => eval iter env >>= fun x => foldedSetIterable iter env x >>= fun x => standAt iter.pos >>= fun _ => holding [x] (pyIter x) >>= fun it => runOwn (.forLoop target it body orelse env) env) := rfl
  rw [e]
  show Seg M A R Y n s₀ c (.at pos fun _ => (eval iter env >>= fun x => foldedSetIterable iter env x >>= fun x => standAt iter.pos >>= fun _ => holding [x] (pyIter x) >>= fun it => runOwn (.forLoop target it body orelse env) env).wrap K H gd lv) fs s
  refine seg_at ?_
  rw [Sem.bind_eq_wrap', Sem.wrap_wrap]
  refine seg_wrap (wpAny_mono h (fun x s₁ h₁ => ?_) fun _ _ x => x)
  rw [hs x]
  show Seg M A R Y n s₀ c (.at iter.pos fun _ => (holding [x] (pyIter x) >>= fun it => runOwn (.forLoop target it body orelse env) env).wrap K H gd lv) fs s₁
  refine seg_at ?_
  rw [Sem.bind_eq_wrap', Sem.wrap_wrap]
  refine seg_wrap (wpAny_holding (wpAny_mono h₁ (fun it s₂ h₂ => ?_) fun _ _ x => x))
  refine seg_call fun p => ?_
  refine h₂ _ (fun c' n s₀ s' h' => seg_leaf _ h') rfl rfl rfl
end
section
variable {w : World} {A : Around} {R : GenEnd} {Y : Protocol} {n : Nat} {s₀ : Shared} {fs : List Frame} {s : Shared} {env : Env}
theorem seg_forLoop {target : Expr} {it : Value} {body orelse : List Stmt}
    (h : wpAny (model PP w) (A.over (.forLoop target it body orelse env) fs) (pyNext it) (fun r s₁ => match r with
        | none => Seg (model PP w) A R Y n s₀ (.forLoop target it body orelse env) (.pure (.again (.block orelse env))) fs s₁
        | some v => wpAny (model PP w) (A.over (.forLoop target it body orelse env) fs) (letOwnedTupleGo target it v) (fun _ s₂ =>
            wpAny (model PP w) (A.over (.forLoop target it body orelse env) fs) (assign target env v) (fun _ s₃ =>
              ∀ (K : Flow → Sem Fin) (H : Value → Sem Fin) (gd : Bool → Bool) (lv : List Value → List Value), K .next = .pure (.again (.forLoop target it body orelse env)) → gd false = false →
              Seg (model PP w) A R Y n s₀ (.forLoop target it body orelse env) ((execs body env).wrap K H gd lv) fs s₃)
            (fun x s' => Seg (model PP w) A R Y n s₀ (.forLoop target it body orelse env) ((do noteFrame x env; theTreesLotGoes x : Sem Unit).wrap (fun _ => .raise x) .raise id id) fs s') s₂)
          (fun x s' => Seg (model PP w) A R Y n s₀ (.forLoop target it body orelse env) ((do noteFrame x env; theTreesLotGoes x : Sem Unit).wrap (fun _ => .raise x) .raise id id) fs s') s₁)
      (fun x s' => ∀ p, Seg (model PP w) A R Y n s₀ (.forLoop target it body orelse env) (.at p fun _ => (do noteFrame x env; theTreesLotGoes x : Sem Unit).wrap (fun _ => .raise x) .raise id id) fs s') s) :
    Seg (model PP w) A R Y n s₀ (.forLoop target it body orelse env) ((model PP w).den (.forLoop target it body orelse env)) fs s := by
  show Seg _ A R Y n s₀ _ ((forTurn target it body orelse env).onRaise (fun x => do noteFrame x env; theTreesLotGoes x)) fs s
  rw [Sem.onRaise_eq_wrap]
  have eN : ∀ x, (do noteFrame x env; theTreesLotGoes x : Sem Unit).bind (fun _ => (.raise x : Sem Fin)) = (do noteFrame x env; theTreesLotGoes x : Sem Unit).wrap (fun _ => .raise x) .raise id id := fun x => Sem.bind_eq_wrap _ _
  rw [funext eN]
  generalize hN : (fun x => (do noteFrame x env; theTreesLotGoes x : Sem Unit).wrap (fun _ => (.raise x : Sem Fin)) .raise id id) = N
  have hN' : ∀ x, (do noteFrame x env; theTreesLotGoes x : Sem Unit).wrap (fun _ => (.raise x : Sem Fin)) .raise id id = N x := fun x => congrFun hN x
  simp only [hN'] at h
  show Seg _ A R Y n s₀ _ (.at target.pos fun _ => ((pyNext it).onRaise (fun _ => standAt { target.pos with line := 0 }) >>= fun r => match r with
        | none => again (.block orelse env)
        | some v => letOwnedTupleGo target it v >>= fun _ => assign target env v >>= fun _ => execs body env >>= fun f => match f with
          | .next | .cont => again (.forLoop target it body orelse env)
          | .brk => pure (.done .next)
          | .ret v => pure (.done (.ret v))).wrap .pure N id id) fs s
  refine seg_at ?_
  rw [Sem.bind_eq_wrap', Sem.wrap_wrap, Sem.onRaise_eq_wrap, Sem.wrap_wrap]
  refine seg_wrap (wpAny_mono h (fun r s₁ h₁ => ?_) fun x s' hx => hx _)
  cases r with
  | none => exact h₁
  | some v =>
    show Seg _ A R Y n s₀ _ ((letOwnedTupleGo target it v >>= fun _ => assign target env v >>= fun _ => execs body env >>= fun f => match f with
          | .next | .cont => again (.forLoop target it body orelse env)
          | .brk => pure (.done .next)
          | .ret v => pure (.done (.ret v))).wrap .pure N id id) fs s₁
    rw [Sem.bind_eq_wrap', Sem.wrap_wrap]
    refine seg_wrap (wpAny_mono h₁ (fun _ s₂ h₂ => ?_) fun x s' hx => hx)
    rw [Sem.bind_eq_wrap', Sem.wrap_wrap]
    refine seg_wrap (wpAny_mono h₂ (fun _ s₃ h₃ => ?_) fun x s' hx => hx)
    rw [Sem.bind_eq_wrap', Sem.wrap_wrap]
    exact h₃ _ _ _ _ rfl rfl
end
end Mine
end

section
open PySem PySem.Calls PySem.W PyProof.Rows
namespace Mine
/-- what the generator yields: a place and a sign, or a sign behind a backslash -/
noncomputable def escs : List Nat → Nat → Bool → List (Nat × List Nat)
  | [], i, true => [(i - 1, [92])]
  | [], _, false => []
  | c :: r, i, true => (i, [92, c]) :: escs r (i + 1) false
  | c :: r, i, false => if c = 92 then escs r (i + 1) true else (i, [c]) :: escs r (i + 1) false

noncomputable def Moved (B : Nat) (s₀ s₁ : Shared) : Prop := (∀ b o, b < B → s₀.heap.get? b = some o → s₁.heap.get? b = some o) ∧ s₀.toks ≤ s₁.toks ∧ s₁.gens = s₀.gens ∧ s₁.os = s₀.os
theorem Moved.rfl' {B : Nat} {s : Shared} : Moved B s s := ⟨fun _ _ _ e => e, Nat.le_refl _, rfl, rfl⟩
theorem Moved.trans {B : Nat} {s₀ s₁ s₂ : Shared} (a : Moved B s₀ s₁) (b : Moved B s₁ s₂) : Moved B s₀ s₂ :=
  ⟨fun c o h e => b.1 c o h (a.1 c o h e), Nat.le_trans a.2.1 b.2.1, b.2.2.1.trans a.2.2.1, b.2.2.2.trans a.2.2.2⟩
noncomputable def Stable (B : Nat) (St : Heap → Prop) : Prop := ∀ h h', St h → (∀ b o, B ≤ b → h.get? b = some o → h'.get? b = some o) → St h'
noncomputable abbrev RR (B : Nat) : GenEnd := fun n s₀ r s₁ => r = .ok (.ret .none) ∧ (n = 0 ∧ Moved B s₀ s₁)
noncomputable def YY (hb : Heap) (B : Nat) (its : List (Nat × List Nat)) (a : Addr) (g : Nat) : Protocol := fun m s₀ v s₁ kap =>
  ∃ (T : Addr) (p : Nat) (c : List Nat) (t1 t2 : Tok) (St' : Heap → Prop), m < its.length ∧ its[its.length - 1 - m]? = some (p, c) ∧ v = .ref T ∧ s₁.heap.IsTuple T #[.int (p : Int) t1, .str (S c) t2] ∧ B ≤ T ∧
    Moved B s₀ s₁ ∧ Stable B St' ∧ (∀ h, St' h → h.IsGen a g) ∧ St' s₁.heap ∧ ∀ s'' : Shared, St' s''.heap → hb.StaysIn s''.heap → 1 ≤ s''.toks → kap (.send .none) s''
structure GenAt (w : World) (A : Around) (hb : Heap) (B : Nat) (its : List (Nat × List Nat)) (a : Addr) (g j : Nat) (gs : GenState) (St : Heap → Prop) : Prop where
  goes : ∀ s : Shared, St s.heap → hb.StaysIn s.heap → 1 ≤ s.toks → gs.Goes (model PP w) A (RR B) (YY hb B its a g) (its.length - j) (.send .none) s
  stable : Stable B St
  isgen : ∀ h, St h → h.IsGen a g
  bare : gs.bare = true
  le : j ≤ its.length

section
variable {w : World} {A : Around} {E : Value → Shared → Prop} {s : Shared}
theorem pyNext_gen {a : Addr} {g n : Nat} {gs : GenState} {P : Nat → Shared → Shared → Prop} {Y : Protocol} {Q : Option Value → Shared → Prop} (hh : A.handled = none)
    (hl : s.heap.NoLimit) (hroom : A.depth < recursionLimit) (hg : s.heap.IsGen a g) (hgs : s.gens[g]? = some gs)
    (hgo : gs.Goes (model PP w) A.in1 (fun n s₀ r s₁ => r = .ok (.ret .none) ∧ P n s₀ s₁) Y n (.send .none) (s.setGen g .running))
    (hY : ∀ v s₁ gs', gs'.bare = true → Y (n - 1) (s.setGen g .running) v s₁ (fun r' s'' => match n with
        | 0 => False
        | m + 1 => gs'.Goes (model PP w) A.in1 (fun n s₀ r s₁ => r = .ok (.ret .none) ∧ P n s₀ s₁) Y m r' s'') → Q (some v) (s₁.setGen g gs'))
    (hP : ∀ s₁, P n (s.setGen g .running) s₁ → ∀ h', (∀ b o, s₁.heap.get? b = some o → h'.get? b = some o) → Q none { s₁.setGen g .finished with heap := h' }) :
    wpAny (model PP w) A (pyNext (.ref a)) Q E s := by
  unfold pyNext
  refine wpAny_bind (wpAny_attempt (wpAny_callSpecial?_slot (name := Str.ofString "__next__") hg.typeIs slot_gen_next
    (wpAny_call_entry slot_gen_next hg.typeIs entry_gen_next ?_ (args_gen_next _))))
  show wpAny _ _ (Builtin.Generator.genWake (.ref a) (.send .none)) _ _ s
  unfold Builtin.Generator.genWake
  refine wpAny_bind (wpAny_holding (wpAny_genNumber hg (wpAny_bind (wpAny_genState hgs ?_))))
  cases gs with
  | running => exact hgo.elim
  | finished => exact hgo.elim
  | _ =>
    refine wpAny_bind (wpAny_roomToWake hl hroom ?_)
    show wpAny _ _ (.resume g (.send .none) [] _) _ _ s
    refine wpAny_resumeQ hgs hgo (fun x s₁ hx => ?_) (fun v s₁ gs' hbr hv => ?_)
    · obtain ⟨rfl, hp⟩ := hx
      show wpAny _ _ (newExc (.type "StopIteration") [] >>= _) _ _ _
      refine wpAny_bind ?_
      simp only [newExc, newTuple]
      refine wpAny_bind (wpAny_newObj_type ?_ (by size_fits))
      refine wpAny_bind (m := firstArgMember _ _) (wpAny_of_eq (a := Value.none) (by first | rfl | (simp only [firstArgMember]; rfl)) ?_)
      refine wpAny_newObj_type ?_ (by size_fits)
      simp only [raiseNew]
      refine wpAny_bind (wpAny_bind (wpAny_handled ?_))
      rw [show A.in1.handled = none from hh]
      refine wpAny_throw ?_
      refine wpAny_bind (wpAny_isInstance (T := "StopIteration") (b := true) ⟨_, Heap.get?_push_size _ rfl, rfl⟩ isSubtype_stop ?_)
      exact wpAny_pure (hP s₁ hp _ fun b o hb => Heap.get?_push_of_some _ (Heap.get?_push_of_some _ hb))
    · exact wpAny_pure ⟨v, rfl, wpAny_pure (hY v s₁ gs' hbr hv)⟩
theorem nextEsc {hb : Heap} {B : Nat} {its : List (Nat × List Nat)} {a : Addr} {g j : Nat} {gs : GenState} {St : Heap → Prop} {Q : Option Value → Shared → Prop}
    (G : GenAt w A.in1 hb B its a g j gs St) (hh : A.handled = none) (hroom : A.depth < recursionLimit) (hgs : s.gens[g]? = some gs) (st : St s.heap) (hbk : hb.StaysIn s.heap) (hbl : hb.objs.size ≤ B) (hlim : hb.NoLimit) (htk : 1 ≤ s.toks)
    (hitem : ∀ T p c t1 t2 (s₁ : Shared) gs' St', its[j]? = some (p, c) → s₁.heap.IsTuple T #[.int (p : Nat) t1, .str (S c) t2] → B ≤ T → (∀ b o, b < B → s.heap.get? b = some o → s₁.heap.get? b = some o) → s.toks ≤ s₁.toks → s₁.os = s.os →
      s₁.gens = s.gens.setIfInBounds g gs' → GenAt w A.in1 hb B its a g (j + 1) gs' St' → St' s₁.heap → Q (some (.ref T)) s₁)
    (hdone : ∀ s₁ : Shared, j = its.length → (∀ b o, b < B → s.heap.get? b = some o → s₁.heap.get? b = some o) → s.toks ≤ s₁.toks → s₁.os = s.os → s₁.gens = s.gens.setIfInBounds g .finished → Q none s₁) :
    wpAny (model PP w) A (pyNext (.ref a)) Q E s := by
  refine wpAny_with_toks (Nat.le_refl _) (pyNext_gen (n := its.length - j) hh (hlim.keeps hbk) hroom (G.isgen _ st) hgs (G.goes _ st hbk htk) ?_ ?_)
  · rintro v s₁ gs' hbr ⟨T, p, c, t1, t2, St', hm, hit, rfl, hT, hBT, hM, hS, hIG, hst, hk⟩ _
    have hkeep : hb.StaysIn s₁.heap := fun b o e => hM.1 b o (Nat.lt_of_lt_of_le (Heap.lt_size e) hbl) (hbk b o e)
    cases hn : its.length - j with
    | zero =>
      rw [hn] at hk
      exact (hk s₁ hst hkeep (Nat.le_trans htk hM.2.1)).elim
    | succ m =>
      rw [hn] at hk hit
      have hj : its.length - 1 - (m + 1 - 1) = j := by walk_at "om"
      rw [hj] at hit
      refine hitem T p c t1 t2 _ gs' St' hit hT hBT hM.1 hM.2.1 hM.2.2.2 ?_ ⟨fun s'' a b c => ?_, hS, hIG, hbr, by walk_at "om"⟩ hst
      · show s₁.gens.setIfInBounds g gs' = _
        rw [hM.2.2.1]; simp [Shared.setGen]
      · have := hk s'' a b c
        rw [show its.length - (j + 1) = m by walk_at "om"]; exact this
  · rintro s₁ ⟨hn, hM⟩ h' hk _
    refine hdone _ (by have := G.le; walk_at "om") (fun b o hbB e => hk _ _ (hM.1 b o hbB e)) hM.2.1 hM.2.2.2 ?_
    show s₁.gens.setIfInBounds g .finished = _
    rw [hM.2.2.1]; simp [Shared.setGen]
end
end Mine
end

section
open PySem PySem.Calls PySem.W PyProof.Rows
namespace Mine
example (P : Params) : hd.heap_161 P = hd.heap_161 P ∧ PySem.Challenge.rw_wr0028_01 = PySem.Challenge.rw_wr0028_01 := by k_fill; exact ⟨rfl, rfl⟩
noncomputable def noH : Heap := {}
theorem noH_get (b : Addr) : noH.get? b = none := by simp [noH, Heap.get?]
theorem frNo {h : Heap} {L : Addr} {m : Str → Option Value} (n : h.Ns L m) : Fr noH L h m := ⟨n, fun b o e => (by rw [noH_get] at e; cases e), Nat.zero_le _⟩
section
variable {w : World} {A : Around} {E : Value → Shared → Prop} {s : Shared}
theorem assign2 {env : Env} {x1 x2 : Str} {p1 p2 pos : Pos} {k : Nat} {T : Addr} {v1 v2 : Value} {Q : Unit → Shared → Prop} (hh : A.handled = none) (ht : s.heap.IsTuple T #[v1, v2])
    (h : ∀ h', Heap.ExtBut s.heap.objs.size s.heap h' → wpAny (model PP w) A (storeName env x1 v1) (fun _ s₁ => wpAny (model PP w) A (storeName env x2 v2) Q E s₁) E { s with heap := h' }) :
    wpAny (model PP w) A (assign (.Tuple [.Name x1 p1, .Name x2 p2] k pos) env (.ref T)) Q E s := by
  refine wpAny_assign_Tuple hh ht rfl rfl fun h' hx => ?_
  show wpAny _ A (do holding [v2] (assign (.Name x1 p1) env v1); do holding [] (assign (.Name x2 p2) env v2); pure ()) _ _ _
  refine wpAny_bind (wpAny_holding (PyProof.Rows.assign_Name (wpAny_mono (h h' hx) (fun _ s₁ h₁ => ?_) fun _ _ e => e)))
  exact wpAny_bind (wpAny_holding (PyProof.Rows.assign_Name (wpAny_mono h₁ (fun _ s₂ h₂ => wpAny_pure h₂) fun _ _ e => e)))
noncomputable abbrev PtE (l : List Nat) (i : Nat) (vals : Array Value) : Prop := ∃ t x, (∃ c u, (S l).cps[i]? = some c ∧ x = .str ⟨#[c]⟩ u) ∧ vals = #[.int i t, x]
theorem enum_S {l : List Nat} {t : Tok} {Q : Value → Shared → Prop}
    (hQ : ∀ h' (N : Addr) St Mid, N = s.heap.objs.size → (∀ A' : Around, A'.handled = none → WalksT PP w A' (N + 1) [N + 1, N] [N + 1, N] (S l).cps.size (PtE l) St Mid) → St 0 h' → h'.objs.size = N + 2 →
      (∀ b o, s.heap.get? b = some o → h'.get? b = some o) → Q (.ref (N + 1)) { s with heap := h' }) :
    wpAny (model PP w) A (call (.type "enumerate") [.str (S l) t]) Q E s := by
  refine call_enumerate_str fun h' he hit hsz hk => ?_
  by_cases ha : (S l).cps.all (· < 128) = true
  · refine hQ h' _ _ _ rfl (fun A' hA => WalksT.enumerateD (Draws.strAscii (A := A'.in1) hA s.heap.objs.size (S l) t) (s.heap.objs.size + 1) (Nat.succ_ne_self _) (by simp) (by simp)) ⟨⟨_, he⟩, (show strIterType (S l) = "str_ascii_iterator" by unfold strIterType; rw [if_pos ha]) ▸ hit⟩ hsz hk
  · refine hQ h' _ _ _ rfl (fun A' hA => WalksT.enumerateD (Draws.strWide (A := A'.in1) hA s.heap.objs.size (S l) t) (s.heap.objs.size + 1) (Nat.succ_ne_self _) (by simp) (by simp)) ⟨⟨_, he⟩, (show strIterType (S l) = "str_iterator" by unfold strIterType; rw [if_neg ha]) ▸ hit⟩ hsz hk
theorem name_G {hb : Heap} {p : Program} {loose : List Str} {mean : ExcName → Option Value} {mg mb : Str → Option Value} {K : Frag} {cn : Str} {cs : Scope} {L a : Addr} {ccd : Value} {x : Str} {pos : Pos} {v : Value} {Q : Value → Shared → Prop}
    (X : K.In hb) (T : Top p loose mean mg mb hb) (hk : hb.StaysIn s.heap) (e : nsIn K mainGlobals x = some none) (hv : bootBuiltins x = some v) (hn : x ≠ "__name__") (h : Q v s)
    (hkf : autoParam (cs.kind = .function) aRfl) (hx : autoParam ((envOf cn cs L a ccd).kindOf x = some .globalImplicit) aRfl) (hd : autoParam ((x == ("__debug__" : Str)) = false) aDec) :
    wpAny (model PP w) A (eval (.Name x pos) (envOf cn cs L a ccd)) Q E s :=
  Name_function_global hkf hx (loadGlobal_builtin (env := envOf cn cs L a ccd) (T.g.keeps hk) (mg_none_of X T.g e) (T.b.keeps hk) ((T.builtins x hn).trans hv) h) hd
end
theorem seg_ind {M : Model} {A : Around} {R : GenEnd} {Y : Protocol} {cF : Code} {fs : List Frame} (H : Nat → Nat → Shared → Shared → Prop)
    (turn : ∀ k n s₀ s, H k n s₀ s → (∀ k' n' s₀' s', k' < k → H k' n' s₀' s' → Seg M A R Y n' s₀' cF (M.den cF) fs s') → Seg M A R Y n s₀ cF (M.den cF) fs s) : ∀ k n s₀ s, H k n s₀ s → Seg M A R Y n s₀ cF (M.den cF) fs s := by
  intro k
  induction k using Nat.strongRecOn with
  | ind k ih => exact fun n s₀ s h => turn k n s₀ s h fun k' n' s₀' s' hk h' => ih k' hk n' s₀' s' h'
theorem head_at {α : Type} {l r : List α} {k : Nat} {x : α} (h : l.drop k = x :: r) : l[k]? = some x ∧ l.drop (k + 1) = r := by
  constructor
  · have := congrArg (fun z => z[0]?) h
    simpa [List.getElem?_drop] using this
  · have := congrArg (fun z => z.drop 1) h
    simpa [List.drop_drop] using this
/-- the generator asleep: i signs taken -/
noncomputable def StG (St : Nat → Heap → Prop) (B a g i : Nat) (bb : Bool) (h : Heap) : Prop :=
  St i h ∧ (∃ m tp, h.Ns B m ∧ m "escape" = some (.bool bb) ∧ m "pos" = some (.int ((i - 1 : Nat) : Int) tp)) ∧ h.IsGen a g
theorem StG.stable {St : Nat → Heap → Prop} {B a g i : Nat} {bb : Bool} (hS : ∀ h h', St i h → (∀ b o, B ≤ b → h.get? b = some o → h'.get? b = some o) → St i h') (ha : B ≤ a) : Stable B (StG St B a g i bb) := by
  rintro h h' ⟨st, ⟨m, tp, n, e1, e2⟩, ⟨o, nm, qn, ho, r⟩⟩ k
  exact ⟨hS _ _ st k, ⟨m, tp, n.at' fun o e => k _ _ (Nat.le_refl _) e, e1, e2⟩, ⟨o, nm, qn, k _ _ ha ho, r⟩⟩
/-- the generator's making -/
theorem iterCall {w : World} {s : Shared} (l : List Nat) (t : Tok) {mean : ExcName → Option Value} {mg mb : Str → Option Value} {dp un : Nat} {gd : Option (List Code)} {base : Heap} {outer : List Env} {Q E : Value → Shared → Prop} {hb : Heap}
    (C : Cal w mean mg mb dp un gd base outer s) (hdp : dp + 1 < recursionLimit) (hbk : hb.StaysIn s.heap) (Xb : (hd.heap_161 w.params).In hb) (Tb : Top VW (looseW VW []) mean mg mb hb)
    (hret : ∀ (s' : Shared) (a : Addr) gs St, (∀ b o, s.heap.get? b = some o → s'.heap.get? b = some o) → s.toks ≤ s'.toks → s'.os = s.os → s'.gens = s.gens.push gs →
      (∀ A, A.handled = none → GenAt w A hb s.heap.objs.size (escs l 0 false) a s.gens.size 0 gs St) → St s'.heap → Q (.ref a) s') :
    wpAny (model PP w) (arT dp un gd outer) (call (.ref 21) [.str (S l) t]) Q E s := by
  have hroom : (arT dp un gd outer).depth < recursionLimit := Nat.lt_of_succ_lt hdp
  refine wpAny_call (codeAny_call_generator hroom (C.X 21 _ (by k_is)) rfl rfl rfl rfl (codeRec_of C.X (by k_is)) ?_)
  refine (BindsTo.of_eq (binds := _) rfl : BindsTo s _ _ _) _ _ _ _ ?_
  refine wpAny_newFunctionEnv (by decide) (locs rfl) (fun h₁ hns hsb => ⟨C.T.nolimit.fresh _ hsb, ?_⟩) rfl
  have hz : h₁.objs.size = s.heap.objs.size + 1 := by rw [hsb.1, Heap.size_push]
  have hk₁ : ∀ b o, s.heap.get? b = some o → h₁.get? b = some o := fun b o e => hsb.extBut b o (Nat.ne_of_lt (Heap.lt_size e)) (Heap.get?_push_of_some _ e)
  refine hret _ _ _ (fun h => h.IsGen h₁.objs.size s.gens.size ∧ h.Ns s.heap.objs.size fun x => List.lookup x (List.reverse [("addr", Value.str (S l) t)])) (fun b o e => Heap.get?_push_of_some _ (hk₁ b o e)) (by dsimp only; walk_at "om") rfl rfl (fun A hA => ?_) ⟨⟨_, _, _, Heap.get?_push_size _ rfl, rfl, rfl, rfl⟩, hns.push _⟩
  refine ⟨fun s₁ st hbk₁ htk₁ => ⟨rfl, ?_⟩, fun h h' st k => ⟨?_, ?_⟩, fun h st => st.1, rfl, Nat.zero_le _⟩
  · obtain ⟨hIG, hns⟩ := st
    generalize hB : s.heap.objs.size = B at *
    generalize hg : s.gens.size = g at *
    generalize haa : h₁.objs.size = a at *
    have hBa : B < a := by walk_at "om"
    refine seg_func (seg_execs_cons (seg_plain (wpAny_Assign_Name (wpAny_Constant_int (stS (frNo hns) fun h₂ F₂ k₂ => ?_)))))
    refine seg_execs_cons (seg_plain (wpAny_Assign_Name (wpAny_Constant_bool (stS F₂ fun h₃ F₃ k₃ => ?_))))
    have keepA : ∀ {h h' : Heap}, Heap.SameBut B h h' → h.IsGen a g → h'.IsGen a g := fun k x => x.sameBut k (by show @Ne Nat _ _; walk_at "om")
    have hIG₃ := keepA k₃ (keepA k₂ hIG)
    have ltK : ∀ {b o}, hb.get? b = some o → b ≠ B := fun e => by
      have := Heap.lt_size (hbk _ _ e); rw [hB] at this; exact Nat.ne_of_lt this
    have hbk₃ : hb.StaysIn h₃ := fun b o e => (k₃.2 b (ltK e)).trans ((k₂.2 b (ltK e)).trans (hbk₁ b o e))
    refine seg_execs_cons (seg_For (Call_ (name_G Xb Tb hbk₃ (by k_is) PyProof.Rows.boot_enumerate (by decide) (PyProof.Rows.callWith_type1 (args_cons (ld F₃ (by rfl) (args_nil ?_)))))))
    refine enum_S fun h₄ N St Mid hN hW st0 hz₄ hk₄ => ?_
    dsimp only at hN hk₄
    have haN : a < N := by rw [hN]; obtain ⟨o, nm, qn, ho, _⟩ := hIG₃; exact Heap.lt_size ho
    refine WalksT.self (hW (A.over _ []) hA) 0 _ _ _ st0 ?_
    intro kf hleaf hkgd hsplit hhand
    have hsz : (S l).cps.size = l.length := by simp
    generalize hits : escs l 0 false = its at hleaf ⊢
    refine seg_ind (fun k n s₀ s => ∃ i b m tp, k = l.length - i ∧ i ≤ l.length ∧ St i s.heap ∧ s.heap.Ns B m ∧ m "escape" = some (.bool b) ∧ m "pos" = some (.int ((i - 1 : Nat) : Int) tp) ∧ s.heap.IsGen a g ∧ Moved B s₀ s ∧ hb.StaysIn s.heap ∧ 1 ≤ s.toks ∧
      n = (escs (l.drop i) i b).length ∧ n ≤ its.length ∧ its.drop (its.length - n) = escs (l.drop i) i b) ?_ l.length _ _ _
      ⟨0, false, _, _, rfl, Nat.zero_le _, st0, F₃.ns.keeps hk₄, rfl, rfl, hIG₃.keeps hk₄, ⟨fun b o hbB e => hk₄ b o ((k₃.2 b (Nat.ne_of_lt hbB)).trans ((k₂.2 b (Nat.ne_of_lt hbB)).trans e)), by dsimp only; walk_at "om", rfl, rfl⟩, fun b o e => hk₄ b o (hbk₃ b o e), by dsimp only; walk_at "om", by subst hits; simp, by subst hits; simp, by subst hits; simp⟩
    rintro k n s₀ s' hINV IH
    refine ex4 hINV fun i b m tp hINVa => ?_
    clear hINV
    have hSUB := hINVa.1
    have hINVb := hINVa.2
    clear hINVa
    subst hSUB
    refine and12 hINVb fun hi hst hns hesc hpos hIG' hM hbk' htk' hn hnle hsuf => ?_
    clear hINVb
    have W := hW _ (hhand.trans hA)
    have hBN : B < N := Nat.lt_trans hBa haN
    refine seg_forLoop ?_
    by_cases hlt : i < l.length
    · refine wpAny_with_toks (Nat.le_refl _) (W.item i _ _ _ (by rw [hsz]; exact hlt) hst fun T vals h5 tk5 hP hBT hT hMid hk5 htk5 => ?_)
      dsimp only at htk5
      obtain ⟨ti, x, ⟨c, u, hc, rfl⟩, rfl⟩ := hP
      refine W.go _ _ _ i T _ _ _ hMid fun h6 hst6 hk6 => ?_
      have hT6 : h6.IsTuple T #[.int i ti, .str ⟨#[c]⟩ u] := by
        obtain ⟨o, ho, r⟩ := hT; exact ⟨o, hk6 _ _ (W.apart _ _ _ hMid) ho, r⟩
      refine assign2 (hhand.trans hA) hT6 fun h7 hx7 => ?_
      dsimp only at hx7 hk5 hk6
      have k7 : ∀ b o, b ≠ N → b ≠ N + 1 → s'.heap.get? b = some o → h7.get? b = some o := fun b o h1 h2 e =>
        let e6 := hk6 b o (by simp [h1, h2]) (hk5 b o (by simp [h1, h2]) e)
        hx7 b o (Nat.ne_of_lt (Heap.lt_size e6)) e6
      have hB1 : B ≠ N := Nat.ne_of_lt hBN
      have hB2 : B ≠ N + 1 := Nat.ne_of_lt (Nat.lt_succ_of_lt hBN)
      have hst7 : St (i + 1) h7 := W.frame _ _ _ hst6 fun b _ o e => hx7 b o (Nat.ne_of_lt (Heap.lt_size e)) e
      refine stS (frNo (hns.at' fun o e => k7 B o hB1 hB2 e)) fun h8 F8 k8 => stS F8 fun h9 F9 k9 => ?_
      dsimp only at k8
      have k79 : ∀ b o, b ≠ B → h7.get? b = some o → h9.get? b = some o := fun b o h1 e => (k9.2 b h1).trans ((k8.2 b h1).trans e)
      have hst9 : St (i + 1) h9 := W.frame _ _ _ hst7 fun b hb o e => k79 b o (by
        simp at hb; rcases hb with rfl | rfl
        · exact hB2.symm
        · exact hB1.symm) e
      have hIG9 : h9.IsGen a g := by
        obtain ⟨o, nm, qn, ho, r⟩ := hIG'
        exact ⟨o, nm, qn, k79 _ _ (Nat.ne_of_gt hBa) (k7 _ _ (Nat.ne_of_lt haN) (Nat.ne_of_lt (Nat.lt_succ_of_lt haN)) ho), r⟩
      have hlow : ∀ b o, b < B → s'.heap.get? b = some o → h9.get? b = some o := fun b o hb e =>
        k79 b o (Nat.ne_of_lt hb) (k7 b o (Nat.ne_of_lt (Nat.lt_trans hb hBN)) (Nat.ne_of_lt (Nat.lt_succ_of_lt (Nat.lt_trans hb hBN))) e)
      have hbk9 : hb.StaysIn h9 := fun b o e => hlow b o (by have := Heap.lt_size (hbk _ _ e); rw [hB] at this; exact this) (hbk' b o e)
      have hci : l[i]? = some c := by simpa using hc
      have hSt : ∀ h h', St (i + 1) h → (∀ b o, B ≤ b → h.get? b = some o → h'.get? b = some o) → St (i + 1) h' := fun h h' st k => W.frame _ _ _ st fun b hb o e => k b o (by
        simp at hb; rcases hb with rfl | rfl
        · exact Nat.le_of_lt (Nat.lt_succ_of_lt hBN)
        · exact Nat.le_of_lt hBN) e
      have stLow : ∀ h h', St (i + 1) h → Heap.SameBut B h h' → St (i + 1) h' := fun h h' st k => W.frame _ _ _ st fun b hb o e => (k.2 b (by
        simp at hb; rcases hb with rfl | rfl
        · exact hB2.symm
        · exact hB1.symm)).trans e
      have hdrop : l.drop i = c :: l.drop (i + 1) := by
        rw [List.drop_eq_getElem_cons hlt]; rw [List.getElem?_eq_getElem hlt] at hci; cases hci; rfl
      intro K H gd lv hK hgd'
      refine seg_execs_cons (seg_If (isTrue_plain (ld F9 hesc (wpAny_truthy_bool ?_))))
      cases b with
      | true =>
        rw [if_pos rfl]
        have hn' : n = (escs (l.drop (i + 1)) (i + 1) false).length + 1 := by rw [hn, hdrop]; rfl
        rw [hdrop] at hsuf
        clear hn
        subst hn'
        have hyy := head_at hsuf
        refine seg_execs_cons (seg_Expr_Yield (by rw [hsplit]; rfl) hgd' (by simp [hkgd]) (wpAny_with_toks (Nat.le_refl _) (Tuple_ (args_cons (ld F9 (by rfl) (args_cons (wpAny_BinOp (Calls.Constant_str (ld F9 (by rfl) (PyProof.Rows.add_str ?_ (by simp [Str.length]; decide)))))))))))
        intro t' tk'
        refine args_nil (wpAny_newTuple ?_)
        intro htk9 kap hkap
        dsimp only at htk9
        have eS : (({ cps := { toList := [92] } } : Str) ++ (⟨#[c]⟩ : Str)) = S [92, c] := by
          rw [show ({ cps := { toList := [92] } } : Str) = S [92] from rfl, show (⟨#[c]⟩ : Str) = S [c] from rfl, S_append]; rfl
        rw [eS]
        refine ⟨h9.objs.size, i, [92, c], ti, t', StG St B a g (i + 1) true, hnle, by rw [show its.length - 1 - (escs (l.drop (i + 1)) (i + 1) false).length = its.length - ((escs (l.drop (i + 1)) (i + 1) false).length + 1) by walk_at "om"]; exact hyy.1, rfl, ⟨_, Heap.get?_push_size _ rfl, rfl, _, rfl⟩,
          Nat.le_of_lt F9.ns.lt, hM.trans ⟨fun b o hb e => Heap.get?_push_of_some _ (hlow b o hb e), by dsimp only; walk_at "om", rfl, rfl⟩, StG.stable hSt (Nat.le_of_lt hBa), fun h x => x.2.2,
          ⟨W.frame _ _ _ hst9 fun b _ o e => Heap.get?_push_of_some _ e, ⟨_, ti, F9.ns.push _, hesc, rfl⟩, hIG9.push _⟩, ?_⟩
        rintro s'' ⟨st, ⟨m', tp', hns', e1, e2⟩, ig⟩ hb'' tk''
        refine hkap .none s'' ?_
        refine seg_execs_cons (seg_plain (wpAny_Assign_Name (wpAny_Constant_bool (stS (frNo hns') fun ha Fa ka => ?_))))
        refine seg_execs_nil ?_
        show Seg _ _ _ _ _ _ _ (K .next) _ _
        rw [hK]
        exact seg_again rfl (IH (l.length - (i + 1)) _ _ _ (by walk_at "om") ⟨i + 1, false, _, _, rfl, hlt, stLow _ _ st ka, Fa.ns, rfl, e2, keepA ka ig, ⟨fun b o hb e => (ka.2 b (Nat.ne_of_lt hb)).trans e, by dsimp only; walk_at "om", rfl, rfl⟩,
          fun b o e => (ka.2 b (ltK e)).trans (hb'' b o e), by dsimp only; walk_at "om", rfl, by walk_at "om", by have := hyy.2; rwa [show its.length - ((escs (l.drop (i + 1)) (i + 1) false).length + 1) + 1 = its.length - (escs (l.drop (i + 1)) (i + 1) false).length by walk_at "om"] at this⟩)
      | false =>
        rw [if_neg Bool.false_ne_true]
        refine seg_execs_cons (seg_If (wpAny_isTrue_Compare1 (ld F9 (by rfl) (Calls.Constant_str (eq_str (wpAny_truthy_bool ?_))))))
        rw [show ({ cps := { toList := [92] } } : Str) = S [92] from rfl, show (⟨#[c]⟩ : Str) = S [c] from rfl, S_beq]
        by_cases hc92 : c = 92
        · rw [if_pos (by simp [hc92])]
          have hn' : n = (escs (l.drop (i + 1)) (i + 1) true).length := by rw [hn, hdrop]; simp [escs, hc92]
          have hsuf' : List.drop (its.length - n) its = escs (l.drop (i + 1)) (i + 1) true := by rw [hsuf, hdrop]; simp [escs, hc92]
          refine seg_execs_cons (seg_plain (wpAny_Assign_Name (wpAny_Constant_bool (stS F9 fun ha Fa ka => ?_))))
          refine seg_execs_nil (seg_execs_nil (seg_execs_nil ?_))
          rw [hK]
          exact seg_again rfl (IH (l.length - (i + 1)) _ _ _ (by walk_at "om") ⟨i + 1, true, _, _, rfl, hlt, stLow _ _ hst9 ka, Fa.ns, rfl, rfl, keepA ka hIG9,
            hM.trans ⟨fun b o hb e => (ka.2 b (Nat.ne_of_lt hb)).trans (hlow b o hb e), by dsimp only; walk_at "om", rfl, rfl⟩,
            fun b o e => (ka.2 b (ltK e)).trans (hbk9 b o e), by dsimp only; walk_at "om", hn', hnle, hsuf'⟩)
        · rw [if_neg (by simp [hc92])]
          have hn' : n = (escs (l.drop (i + 1)) (i + 1) false).length + 1 := by rw [hn, hdrop]; simp [escs, hc92]
          have hsuf' : List.drop (its.length - n) its = (i, [c]) :: escs (l.drop (i + 1)) (i + 1) false := by rw [hsuf, hdrop]; simp [escs, hc92]
          clear hn hsuf
          subst hn'
          have hyy := head_at hsuf'
          refine seg_execs_cons (seg_Expr_Yield (by rw [hsplit]; rfl) hgd' (by simp [hkgd]) (Tuple_ (args_cons (ld F9 (by rfl) (args_cons (ld F9 (by rfl) (args_nil (wpAny_newTuple ?_))))))))
          intro kap hkap
          refine ⟨h9.objs.size, i, [c], ti, u, StG St B a g (i + 1) false, hnle, by rw [show its.length - 1 - (escs (l.drop (i + 1)) (i + 1) false).length = its.length - ((escs (l.drop (i + 1)) (i + 1) false).length + 1) by walk_at "om"]; exact hyy.1, rfl, ⟨_, Heap.get?_push_size _ rfl, rfl, _, rfl⟩,
            Nat.le_of_lt F9.ns.lt, hM.trans ⟨fun b o hb e => Heap.get?_push_of_some _ (hlow b o hb e), by dsimp only; walk_at "om", rfl, rfl⟩, StG.stable hSt (Nat.le_of_lt hBa), fun h x => x.2.2,
            ⟨W.frame _ _ _ hst9 fun b _ o e => Heap.get?_push_of_some _ e, ⟨_, ti, F9.ns.push _, hesc, rfl⟩, hIG9.push _⟩, ?_⟩
          rintro s'' ⟨st, ⟨m', tp', hns', e1, e2⟩, ig⟩ hb'' tk''
          refine hkap .none s'' ?_
          refine seg_execs_nil (seg_execs_nil (seg_execs_nil ?_))
          rw [hK]
          exact seg_again rfl (IH (l.length - (i + 1)) _ _ _ (by walk_at "om") ⟨i + 1, false, _, _, rfl, hlt, st, hns', e1, e2, ig, Moved.rfl', hb'', tk'', rfl, by walk_at "om",
            by have := hyy.2; rwa [show its.length - ((escs (l.drop (i + 1)) (i + 1) false).length + 1) + 1 = its.length - (escs (l.drop (i + 1)) (i + 1) false).length by walk_at "om"] at this⟩)
    · have hil : i = l.length := by walk_at "om"
      subst hil
      refine wpAny_with_toks (Nat.le_refl _) (W.done _ _ _ (by rw [hsz]; exact hst) fun h5 tk5 hk5 htk5 => ?_)
      dsimp only at htk5 hk5
      refine seg_again rfl ?_
      show Seg _ _ _ _ _ _ _ (leafOf (.ok .next)) _ _
      refine hleaf _ _ _ _ ?_
      have hB1 : B ≠ N := Nat.ne_of_lt hBN
      have hB2 : B ≠ N + 1 := Nat.ne_of_lt (Nat.lt_succ_of_lt hBN)
      have F5 : Fr noH B h5 m := frNo (hns.at' fun o e => hk5 B o (by simp [hB1, hB2]) e)
      refine seg_execs_cons (seg_If (isTrue_plain (ld F5 hesc (wpAny_truthy_bool ?_))))
      have hIG5 : h5.IsGen a g := by
        obtain ⟨o, nm, qn, ho, r⟩ := hIG'
        exact ⟨o, nm, qn, hk5 _ _ (by simp; exact ⟨Nat.ne_of_lt (Nat.lt_succ_of_lt haN), Nat.ne_of_lt haN⟩) ho, r⟩
      have hlow : ∀ b o, b < B → s'.heap.get? b = some o → h5.get? b = some o := fun b o hb e => hk5 b o (by
        simp; exact ⟨Nat.ne_of_lt (Nat.lt_succ_of_lt (Nat.lt_trans hb hBN)), Nat.ne_of_lt (Nat.lt_trans hb hBN)⟩) e
      rw [List.drop_eq_nil_of_le (Nat.le_refl _)] at hn hsuf
      cases b with
      | true =>
        rw [if_pos rfl]
        have hn' : n = 0 + 1 := hn
        subst hn'
        have hyy := head_at hsuf
        refine seg_execs_cons (seg_Expr_Yield rfl rfl rfl (Tuple_ (args_cons (ld F5 hpos (args_cons (Calls.Constant_str (args_nil (wpAny_newTuple ?_))))))))
        intro kap hkap
        refine ⟨h5.objs.size, l.length - 1, [92], tp, tk5, StG (fun _ _ => True) B a g l.length true, hnle, hyy.1, rfl, ⟨_, Heap.get?_push_size _ rfl, rfl, _, rfl⟩,
          Nat.le_of_lt F5.ns.lt, hM.trans ⟨fun b o hb e => Heap.get?_push_of_some _ (hlow b o hb e), by dsimp only; walk_at "om", rfl, rfl⟩, StG.stable (fun _ _ x _ => x) (Nat.le_of_lt hBa), fun h x => x.2.2,
          ⟨trivial, ⟨_, tp, F5.ns.push _, hesc, hpos⟩, hIG5.push _⟩, ?_⟩
        rintro s'' ⟨st, ⟨m', tp', hns', e1, e2⟩, ig⟩ hb'' tk''
        refine hkap .none s'' ?_
        refine seg_execs_nil (seg_execs_nil ?_)
        exact seg_end (.ok (.ret .none)) ⟨rfl, rfl, Moved.rfl'⟩
      | false =>
        rw [if_neg Bool.false_ne_true]
        refine seg_execs_nil (seg_execs_nil ?_)
        exact seg_end (.ok (.ret .none)) ⟨rfl, hn, hM.trans ⟨hlow, htk5, rfl, rfl⟩⟩
  · obtain ⟨⟨o, nm, qn, ho, r⟩, _⟩ := st
    exact ⟨o, nm, qn, k _ _ (by walk_at "om") ho, r⟩
  · exact st.2.at' fun o e => k _ _ (Nat.le_refl _) e
end Mine
end

section
open PySem PySem.Calls PySem.W PyProof.Rows
namespace Mine
section
variable {w : World} {A : Around} {E : Value → Shared → Prop} {s : Shared}
theorem letOwned_gen {elts : List Expr} {k : Nat} {pos : Pos} {a T : Addr} {g : Nat} {Q : Unit → Shared → Prop} (hg : s.heap.IsGen a g) (hQ : Q () s) :
    wpAny (model PP w) A (letOwnedTupleGo (.Tuple elts k pos) (.ref a) (.ref T)) Q E s := by
  obtain ⟨o, nm, qn, ho, hc, hd, _⟩ := hg
  unfold letOwnedTupleGo
  refine wpAny_bind (wpAny_load ho ?_)
  rw [hc, hd]
  show wpAny _ A (if (["enumerate", "zip", "dict_itemiterator", "dict_reverseitemiterator", "odict_iterator", "itertools.zip_longest", "itertools.pairwise"].contains "generator" &&
      (#[.int g 0, nm, qn] : Array Value)[0]? == some (rawInt T)) = true then _ else _) Q E s
  rw [if_neg (by
    intro h
    rw [show (["enumerate", "zip", "dict_itemiterator", "dict_reverseitemiterator", "odict_iterator", "itertools.zip_longest", "itertools.pairwise"].contains "generator") = false from by decide, Bool.false_and] at h
    cases h)]
  exact wpAny_pure hQ
/-- the generator stands in the state, j items taken -/
noncomputable def GenIn (w : World) (A : Around) (hb : Heap) (B : Nat) (its : List (Nat × List Nat)) (a : Addr) (g j : Nat) (s : Shared) : Prop :=
  ∃ gs St, GenAt w A.in1 hb B its a g j gs St ∧ St s.heap ∧ s.gens[g]? = some gs
noncomputable def TurnedG (Inv : Nat → Shared → Prop) (R : Result → Shared → Prop) (B j : Nat) (s : Shared) (f : Flow) (s' : Shared) : Prop := match f with
  | .next | .cont => Inv (j + 1) s' ∧ (∀ b o, B ≤ b → s.heap.get? b = some o → s'.heap.get? b = some o) ∧ s'.gens = s.gens
  | .brk => R (.ok .next) s'
  | .ret v => R (.ok (.ret v)) s'
theorem forGen {env : Env} {R : Result → Shared → Prop} {x1 x2 : Str} {p1 p2 pos : Pos} {k : Nat} {body orelse : List Stmt} {hb : Heap} {B : Nat} {its : List (Nat × List Nat)} {a : Addr} {g : Nat} (hh : A.handled = none) (hroom : A.depth < recursionLimit)
    (hbl : hb.objs.size ≤ B) (hlim : hb.NoLimit) (Inv : Nat → Shared → Prop) (h0 : Inv 0 s) (G0 : GenIn w A hb B its a g 0 s)
    (hbk : ∀ j s', Inv j s' → hb.StaysIn s'.heap ∧ 1 ≤ s'.toks)
    (stable : ∀ j (s' s'' : Shared), Inv j s' → (∀ b o, b < B → s'.heap.get? b = some o → s''.heap.get? b = some o) → s'.toks ≤ s''.toks → s''.os = s'.os → (AllBare s'.gens → AllBare s''.gens) → Inv j s'')
    (step : ∀ j (p : Nat) c t1 t2 (s' : Shared) (E' : Value → Shared → Prop), its[j]? = some (p, c) → Inv j s' →
      wpAny (model PP w) A (storeName env x1 (.int (p : Nat) t1)) (fun _ s₂ => wpAny (model PP w) A (storeName env x2 (.str (S c) t2)) (fun _ s₃ => wpAny (model PP w) A (execs body env) (TurnedG Inv R B j s') E' s₃) E' s₂) E' s')
    (fin : ∀ (s' : Shared) (E' : Value → Shared → Prop), Inv its.length s' → wpAny (model PP w) A (execs orelse env) (fun f s₃ => R (.ok f) s₃) E' s') :
    codeAny (model PP w) A (.forLoop (.Tuple [.Name x1 p1, .Name x2 p2] k pos) (.ref a) body orelse env) R s := by
  refine codeAny_forLoop_any (fun n s' => ∃ j, Inv j s' ∧ GenIn w A hb B its a g j s' ∧ j ≤ its.length ∧ n = its.length + 1 - j) ?_ (its.length + 1) ⟨0, h0, G0, Nat.zero_le _, rfl⟩
  rintro n s' ⟨j, hI, ⟨gs, St, G, hst, hgs⟩, hj, rfl⟩
  have bareSet : ∀ {gs' : GenState}, gs'.bare = true → AllBare s'.gens → AllBare (s'.gens.setIfInBounds g gs') := fun hb' h y hy => by
    rcases Array.mem_or_eq_of_mem_setIfInBounds hy with h' | rfl
    · exact h y h'
    · exact hb'
  have hlt : g < s'.gens.size := (Array.getElem?_eq_some_iff.mp hgs).1
  refine nextEsc G hh hroom hgs hst (hbk _ _ hI).1 hbl hlim (hbk _ _ hI).2 (fun T p c t1 t2 s₁ gs' St' hit hT hBT hk htk hos hgens G' hst' => ?_) fun s₁ hje hk htk hos hgens => ?_
  · have hI₁ := stable j s' s₁ hI hk htk hos fun h => hgens ▸ bareSet G'.bare h
    refine letOwned_gen (G'.isgen _ hst') (assign2 hh hT fun h' hx => ?_)
    have hold : ∀ b o, s₁.heap.get? b = some o → h'.get? b = some o := fun b o e => hx b o (Nat.ne_of_lt (Heap.lt_size e)) e
    have hI₂ := stable j s₁ { s₁ with heap := h' } hI₁ (fun b o _ e => hold b o e) (Nat.le_refl _) rfl id
    refine wpAny_mono (step j p c t1 t2 _ _ hit hI₂) (fun _ s₂ h₂ => wpAny_mono h₂ (fun _ s₃ h₃ => wpAny_mono h₃ (fun f s₄ h₄ => ?_) fun _ _ e => e) fun _ _ e => e) fun _ _ e => e
    have hjl : j < its.length := (List.getElem?_eq_some_iff.mp hit).1
    have next : Inv (j + 1) s₄ ∧ (∀ b o, B ≤ b → h'.get? b = some o → s₄.heap.get? b = some o) ∧ s₄.gens = s₁.gens → ∃ m, m < its.length + 1 - j ∧ ∃ j', Inv j' s₄ ∧ GenIn w A hb B its a g j' s₄ ∧ j' ≤ its.length ∧ m = its.length + 1 - j' := fun ⟨a1, a2, a3⟩ =>
      ⟨its.length + 1 - (j + 1), by walk_at "om", j + 1, a1, ⟨gs', St', G', G'.stable _ _ hst' fun b o hb e => a2 b o hb (hold b o e), by rw [a3, hgens]; simp [hlt]⟩, hjl, rfl⟩
    cases f with
    | next => exact next h₄
    | cont => exact next h₄
    | brk => exact h₄
    | ret v => exact h₄
  · subst hje
    exact fin _ _ (stable _ s' s₁ hI hk htk hos fun h => hgens ▸ bareSet rfl h)
end
end Mine
end

section
open PySem PySem.Calls PySem.W PyProof.Rows
namespace Mine
theorem pick_range (l : List Nat) (a : Nat) : ∀ c : Nat, ((List.range c).map fun k => a + k).filterMap (fun i => l[i]?) = (l.drop a).take c
  | 0 => by simp
  | c + 1 => by
    rw [List.range_succ, List.map_append, List.filterMap_append, pick_range l a c, List.take_add_one]
    simp only [List.map_cons, List.map_nil, List.filterMap_cons, List.filterMap_nil, List.getElem?_drop]
    cases l[a + c]? <;> rfl
theorem range_one (a b : Nat) : sliceRange (a : Int) (b : Int) 1 = (List.range (b - a)).map fun k => a + k := by
  have e : (if (a : Int) < b then ((b : Int) - a + 1 - 1) / 1 else 0).toNat = b - a := by split <;> walk_at "om"
  show (List.range (if (a : Int) < b then ((b : Int) - a + 1 - 1) / 1 else 0).toNat).map (fun (k : Nat) => ((a : Int) + 1 * (k : Int)).toNat) = _
  rw [e]
  refine List.map_congr_left fun k _ => ?_
  walk_at "om"
theorem slice_at (l : List Nat) (lo hi : Option Int) (a b : Nat) (hb : b ≤ l.length) (h : Builtin.Str.strSliceIndices lo hi 1 l.length = sliceRange (a : Int) (b : Int) 1) : Txt.slice (S l) lo hi = S ((l.drop a).take (b - a)) := by
  have e : (Builtin.Str.strSliceIndices lo hi 1 (S l).length).filterMap (fun i => (S l).cps[i]?) = (l.drop a).take (b - a) := by
    rw [S_length, h, range_one, ← pick_range]; simp [S]
  unfold Txt.slice
  split
  · rename_i hc
    have hlen : (Builtin.Str.strSliceIndices lo hi 1 (S l).length).length = (S l).length := by simpa using hc
    rw [S_length, h, range_one, List.length_map, List.length_range] at hlen
    have : (l.drop a).take (b - a) = l := by
      by_cases ha : a = 0
      · subst ha; rw [List.drop_zero, List.take_of_length_le (by walk_at "om")]
      · have h0 : l.length = 0 := by walk_at "om"
        rw [List.eq_nil_of_length_eq_zero h0]; simp
    rw [this]
  · rw [e]
theorem slice_S (l : List Nat) (i j : Nat) : Txt.slice (S l) (some (i : Int)) (some (j : Int)) = S ((l.take j).drop i) := by
  rw [slice_at l _ _ (min i l.length) (min j l.length) (by walk_at "om") (by
    unfold Builtin.Str.strSliceIndices
    have e : ∀ k : Nat, max (0 : Int) (min (if (k : Int) < 0 then (k : Int) + (l.length : Int) else k) (l.length : Int)) = ((min k l.length : Nat) : Int) := fun k => by
      rw [if_neg (by walk_at "om")]; walk_at "om"
    simp only [show (1 : Int) > 0 by decide, if_true]
    rw [e, e])]
  congr 1
  by_cases h : i ≤ l.length
  · rw [Nat.min_eq_left h]
    by_cases h2 : j ≤ l.length
    · rw [Nat.min_eq_left h2, List.drop_take]
    · rw [Nat.min_eq_right (show l.length ≤ j by walk_at "om"), List.take_of_length_le (l := l) (by walk_at "om"), List.take_of_length_le (by simp)]
  · rw [Nat.min_eq_right (show l.length ≤ i by walk_at "om"), List.drop_of_length_le (Nat.le_refl _), List.drop_of_length_le (by simp; walk_at "om")]; simp
theorem slice_from (l : List Nat) (i : Nat) : Txt.slice (S l) (some (i : Int)) none = S (l.drop i) := by
  rw [slice_at l _ _ (min i l.length) l.length (by walk_at "om") (by
    unfold Builtin.Str.strSliceIndices
    have e : max (0 : Int) (min (if (i : Int) < 0 then (i : Int) + (l.length : Int) else i) (l.length : Int)) = ((min i l.length : Nat) : Int) := by
      rw [if_neg (by walk_at "om")]; walk_at "om"
    simp only [show (1 : Int) > 0 by decide, if_true]
    rw [e])]
  congr 1
  by_cases h : i ≤ l.length
  · rw [Nat.min_eq_left h, List.take_of_length_le (by simp)]
  · rw [Nat.min_eq_right (show l.length ≤ i by walk_at "om"), List.drop_of_length_le (Nat.le_refl _), List.drop_of_length_le (by walk_at "om")]; simp
theorem join_S : ∀ ls : List (List Nat), Txt.join (S []) (ls.map S) = S ls.flatten := by
  intro ls
  show Builtin.Str.glued _ _ = _
  rw [StrLaws.glued_eq_join]
  have : ∀ ls : List (List Nat), Str.join (S []) (ls.map S) = S ls.flatten := by
    intro ls
    induction ls with
    | nil => rfl
    | cons a r ih =>
      cases r with
      | nil => simp [Str.join]
      | cons b q =>
        show S a ++ S [] ++ Str.join (S []) ((b :: q).map S) = _
        rw [ih, S_append, S_append]; simp
  exact this ls
end Mine
end

section
open PySem PySem.Calls PySem.W PyProof.Rows
namespace Mine
example (P : Params) : hd.heap_161 P = hd.heap_161 P ∧ PySem.Challenge.rw_wr0028_01 = PySem.Challenge.rw_wr0028_01 := by k_fill; exact ⟨rfl, rfl⟩
theorem escs_length : ∀ (l : List Nat) (i : Nat) (b : Bool), (escs l i b).length ≤ l.length + 1
  | [], _, true => by simp [escs]
  | [], _, false => by simp [escs]
  | c :: r, i, true => by have := escs_length r (i + 1) false; simp [escs]; walk_at "om"
  | c :: r, i, false => by
    unfold escs
    split
    · have := escs_length r (i + 1) true; simp; walk_at "om"
    · have := escs_length r (i + 1) false; simp; walk_at "om"
noncomputable def strL (l : List Nat) : List (Nat × List Nat) → Nat → Option Nat → List (List Nat) → Nat × List (List Nat)
  | [], st, _, res => (st, res)
  | (p, c) :: r, st, op, res => if c = [34] then
      (match op with
        | none => strL l r st (some p) res
        | some q => strL l r (p + 1) none (if st ≠ q then res ++ [(l.take q).drop st] else res))
      else strL l r st op res
theorem strL_off (l : List Nat) (p : Nat) (c : List Nat) (r st op res) (h : c ≠ [34]) : strL l ((p, c) :: r) st op res = strL l r st op res := by
  rw [strL.eq_def]; simp only [h, if_false]
theorem strL_none (l : List Nat) (p : Nat) (r st res) : strL l ((p, [34]) :: r) st none res = strL l r st (some p) res := by
  rw [strL.eq_def]; simp
theorem strL_some (l : List Nat) (p q : Nat) (r st res) : strL l ((p, [34]) :: r) st (some q) res = strL l r (p + 1) none (if st ≠ q then res ++ [(l.take q).drop st] else res) := by
  rw [strL.eq_def]; simp
noncomputable def strip (l : List Nat) : List Nat := if l.contains 34 then
    (let x := strL l (escs l 0 false) 0 none []
     (if x.1 < l.length then x.2 ++ [l.drop x.1] else x.2).flatten) else l
/-- a slice from a text's name -/
theorem sliceSS {w : World} {A : Around} {E : Value → Shared → Prop} {s : Shared} {h₀ : Heap} {L a : Addr} {m : Str → Option Value} {cn : Str} {cs : Scope} {ccd : Value} {x y z : Str} {p1 p2 p3 p4 p5 : Pos} {l : List Nat} {i j : Nat} {t ti tj : Tok} {Q : Value → Shared → Prop}
    (F : Fr h₀ L s.heap m) (hx : m x = some (.str (S l) t)) (hy : m y = some (.int i ti)) (hz : m z = some (.int j tj)) (hl : l.length ≤ 1000000)
    (h : ∀ h' t' tk, (∀ b o, s.heap.get? b = some o → h'.get? b = some o) → s.toks ≤ tk → Q (.str (S ((l.take j).drop i)) t') { s with heap := h', toks := tk })
    (hk : autoParam (cs.kind = .function) aRfl) (kx : autoParam ((envOf cn cs L a ccd).kindOf x = some .local) aRfl) (ky : autoParam ((envOf cn cs L a ccd).kindOf y = some .local) aRfl) (kz : autoParam ((envOf cn cs L a ccd).kindOf z = some .local) aRfl)
    (dx : autoParam ((x == ("__debug__" : Str)) = false) aDec) (dy : autoParam ((y == ("__debug__" : Str)) = false) aDec) (dz : autoParam ((z == ("__debug__" : Str)) = false) aDec) :
    wpAny (model PP w) A (eval (.Subscript (.Name x p1) (.Slice (some (.Name y p2)) (some (.Name z p3)) none p4) p5) (envOf cn cs L a ccd)) Q E s := by
  refine wpAny_with_toks (Nat.le_refl _) (Subscript_ (ld F hx (wpAny_Slice (evalPart_some_step (ld F hy (evalPart_some_step (ld F hz (evalPart_none_step ?_) hk kz dz)) hk ky dy))) hk kx dx))
  refine tail_of_ItemOn (SBH.sliceItem_ss (P := fun h' => ∀ b o, s.heap.get? b = some o → h'.get? b = some o) (fun h ob k b o e => Heap.get?_push_of_some _ (k b o e)) (fun _ _ e => e) (fun h' t' tk k hle => ?_) (by rw [S_length, sizeLine_eq]; walk_at "om")) (by with_unfolding_all rfl) (by intro _; with_unfolding_all rfl)
  rw [slice_S]
  exact h h' t' tk k hle
theorem sliceSN {w : World} {A : Around} {E : Value → Shared → Prop} {s : Shared} {h₀ : Heap} {L a : Addr} {m : Str → Option Value} {cn : Str} {cs : Scope} {ccd : Value} {x y : Str} {p1 p2 p4 p5 : Pos} {l : List Nat} {i : Nat} {t ti : Tok} {Q : Value → Shared → Prop}
    (F : Fr h₀ L s.heap m) (hx : m x = some (.str (S l) t)) (hy : m y = some (.int i ti)) (hl : l.length ≤ 1000000)
    (h : ∀ h' t' tk, (∀ b o, s.heap.get? b = some o → h'.get? b = some o) → s.toks ≤ tk → Q (.str (S (l.drop i)) t') { s with heap := h', toks := tk })
    (hk : autoParam (cs.kind = .function) aRfl) (kx : autoParam ((envOf cn cs L a ccd).kindOf x = some .local) aRfl) (ky : autoParam ((envOf cn cs L a ccd).kindOf y = some .local) aRfl)
    (dx : autoParam ((x == ("__debug__" : Str)) = false) aDec) (dy : autoParam ((y == ("__debug__" : Str)) = false) aDec) :
    wpAny (model PP w) A (eval (.Subscript (.Name x p1) (.Slice (some (.Name y p2)) none none p4) p5) (envOf cn cs L a ccd)) Q E s := by
  refine wpAny_with_toks (Nat.le_refl _) (Subscript_ (ld F hx (wpAny_Slice (evalPart_some_step (ld F hy (evalPart_none_step (evalPart_none_step ?_)) hk ky dy))) hk kx dx))
  refine tail_of_ItemOn (SBH.sliceItem_sn (P := fun h' => ∀ b o, s.heap.get? b = some o → h'.get? b = some o) (fun h ob k b o e => Heap.get?_push_of_some _ (k b o e)) (fun _ _ e => e) (fun h' t' tk k hle => ?_) (by rw [S_length, sizeLine_eq]; walk_at "om")) (by with_unfolding_all rfl) (by intro _; with_unfolding_all rfl)
  rw [slice_from]
  exact h h' t' tk k hle
theorem sum_le {ls : List (List Nat)} {n : Nat} (h : ∀ x ∈ ls, x.length ≤ n) : (ls.map List.length).sum ≤ ls.length * n := by
  induction ls with
  | nil => simp
  | cons a r ih => have := h a (.head _); have := ih fun x hx => h x (.tail _ hx); simp [Nat.succ_mul]; walk_at "om"
theorem joinOk_S {ls : List (List Nat)} {n k : Nat} (h : ∀ x ∈ ls, x.length ≤ n) (hk : ls.length ≤ k) (hb : k * n ≤ 16777216) : JoinOk (S []) (ls.map S) = true := by
  have e : ∀ (ls : List (List Nat)) (a : Nat), (ls.map S).foldl (fun n x => n + x.length + (S []).length) a = a + (ls.map List.length).sum := by
    intro ls
    induction ls with
    | nil => intro a; simp
    | cons x r ih => intro a; simp only [List.map_cons, List.foldl_cons, List.sum_cons]; rw [ih, S_length, S_length]; simp; walk_at "om"
  unfold JoinOk
  have h1 := sum_le h
  have h2 : ls.length * n ≤ k * n := Nat.mul_le_mul_right _ hk
  have e2 : (ls.map S).toArray.foldl (fun n x => n + x.length + (S []).length) 0 = (ls.map List.length).sum := by rw [List.foldl_toArray, e]; simp
  rw [e2]
  unfold Builtin.Str.tooLong
  rw [decide_eq_false (by rw [sizeLine_eq]; walk_at "om")]; rfl
/-- «x.append(arg)» -/
theorem app_list {w : World} {A : Around} {E : Value → Shared → Prop} {s : Shared} {h₀ : Heap} {L a : Addr} {m : Str → Option Value} {cn : Str} {cs : Scope} {ccd : Value} {x : Str} {arg : Expr} {p1 p2 p3 p4 : Pos} {D : Addr} {items₀ : Array Value} {Q : Flow → Shared → Prop}
    (F : Fr h₀ L s.heap m) (hx : m x = some (.ref D)) (hD : s.heap.PlainList D items₀)
    (h : wpAny (model PP w) A (eval arg (envOf cn cs L a ccd)) (fun v s₁ => ∃ items, s₁.heap.PlainList D items ∧ items.size ≤ sizeLine ∧ ∀ h', h'.PlainList D (items.push v) → Heap.SameBut D s₁.heap h' → Q .next { s₁ with heap := h' }) E s)
    (hk : autoParam (cs.kind = .function) aRfl) (kx : autoParam ((envOf cn cs L a ccd).kindOf x = some .local) aRfl) (dx : autoParam ((x == ("__debug__" : Str)) = false) aDec)
    (hst : autoParam (starEach [arg] (envOf cn cs L a ccd) = (false, eval arg (envOf cn cs L a ccd)) :: starEach [] (envOf cn cs L a ccd)) aRfl)
    (hi : autoParam (interactive (envOf cn cs L a ccd) = false) aRfl) (hs : autoParam (swapsWith (.Call (.Attribute (.Name x p1) "append" p2) [arg] [] p3) none p4.line (envOf cn cs L a ccd) = pure false) aRfl)
    {pl : Sem Bool} (he : autoParam (eval (.Call (.Attribute (.Name x p1) "append" p2) [arg] [] p3) (envOf cn cs L a ccd) = (do
      let ov ← eval (.Name x p1) (envOf cn cs L a ccd)
      standAt p2.atName
      let (f, first) ← holding [ov] (getMethod ov "append" pl)
      callWith p3 f first (backTo p3 (starEach [arg] (envOf cn cs L a ccd))) [])) aRfl) :
    wpAny (model PP w) A (exec (.Expr (.Call (.Attribute (.Name x p1) "append" p2) [arg] [] p3) p4) (envOf cn cs L a ccd)) Q E s := by
  refine wpAny_Expr (MethodCall_ (ld F hx (getMethod_builtin ?_ PySem.F.plainAttrs_list PySem.F.slot_list_append PySem.F.type_list_append ?_ (callWith_method1 (args_cons (wpAny_mono h (fun v s₁ h₁ => args_nil ?_) fun _ _ e => e) hst) hst rfl)) hk kx dx) he) hi hs
  · obtain ⟨n, e⟩ := hD; exact ⟨_, e, rfl⟩
  · intro b e; cases e; obtain ⟨n, e⟩ := hD; exact ⟨_, e, rfl⟩
  · obtain ⟨items, hl, hsz, hq⟩ := h₁
    exact wpAny_list_append_plain hl hq hsz
/-- «''.join(x)» -/
theorem join_ev {w : World} {A : Around} {E : Value → Shared → Prop} {s : Shared} {h₀ : Heap} {L a : Addr} {m : Str → Option Value} {cn : Str} {cs : Scope} {ccd : Value} {x c : Str} {k : Nat} {p1 p2 p3 p4 : Pos} {D : Addr} {ps : List (Str × Tok)} {res : List (List Nat)} {n kk : Nat} {Q : Value → Shared → Prop}
    (F : Fr h₀ L s.heap m) (hx : m x = some (.ref D)) (hD : s.heap.PlainList D (strValues ps).toArray) (hr : ps.map (·.1) = res.map S) (hn : ∀ x ∈ res, x.length ≤ n) (hkk : res.length ≤ kk) (hb : kk * n ≤ 16777216)
    (h : ∀ t' tk, s.toks ≤ tk → Q (.str (S res.flatten) t') { s with toks := tk }) (hc : c = S [])
    (hk : autoParam (cs.kind = .function) aRfl) (kx : autoParam ((envOf cn cs L a ccd).kindOf x = some .local) aRfl) (dx : autoParam ((x == ("__debug__" : Str)) = false) aDec)
    {pl : Sem Bool} (he : autoParam (eval (.Call (.Attribute (.Constant (.str c) k p1) "join" p2) [.Name x p3] [] p4) (envOf cn cs L a ccd) = (do
      let ov ← eval (.Constant (.str c) k p1) (envOf cn cs L a ccd)
      standAt p2.atName
      let (f, first) ← holding [ov] (getMethod ov "join" pl)
      callWith p4 f first (backTo p4 (starEach [.Name x p3] (envOf cn cs L a ccd))) [])) aRfl) :
    wpAny (model PP w) A (eval (.Call (.Attribute (.Constant (.str c) k p1) "join" p2) [.Name x p3] [] p4) (envOf cn cs L a ccd)) Q E s := by
  subst hc
  refine wpAny_with_toks (Nat.le_refl _) (MethodCall_ (Calls.Constant_str (GM.join (callWith_method1 (args_cons (ld F hx (args_nil ?_) hk kx dx))))) he)
  refine SC.join hD.isList hr (joinOk_S hn hkk hb) fun t' tk hle => ?_
  rw [join_S]
  exact h t' tk hle
/-- the loop's word -/
noncomputable def StripInv (s : Shared) (l : List Nat) (t : Tok) (D : Addr) (its : List (Nat × List Nat)) (j : Nat) (s' : Shared) : Prop :=
  ∃ m ps start op ts to, Fr s.heap s.heap.objs.size s'.heap m ∧ s'.heap.PlainList D (strValues ps).toArray ∧ m "addr" = some (.str (S l) t) ∧ m "result" = some (.ref D) ∧ m "start" = some (.int (start : Nat) ts) ∧
    m "open_pos" = some (match op with | none => .none | some (q : Nat) => .int (q : Nat) to) ∧ s.toks ≤ s'.toks ∧ AllBare s'.gens ∧ s'.os = s.os ∧
    ∃ res : List (List Nat), ps.map (·.1) = res.map S ∧ res.length ≤ j ∧ (∀ x ∈ res, x.length ≤ l.length) ∧ strL l (its.drop j) start op res = strL l its 0 none []
theorem strip_spec {w : World} {s : Shared} (l : List Nat) (t : Tok) (hl : l.length ≤ 2000) : Clm w 28 [.str (S l) t] 2 4 s (fun v _ => ∃ t', v = .str (S (strip l)) t') := by
  intro mean mg mb dp un gd base outer Q E C hd hu hret
  refine enterS C (by k_is) (by k_is) (by walk_at "om") (BindsTo.of_eq rfl) (locs rfl) (fun h₁ F N => ?_) (by decide)
  have htk := C.tk
  refine wpAny_execs_cons (wpAny_If (wpAny_isTrue_Compare1 (Calls.Constant_str (ld F (by rfl) (PyProof.Rows.notIn_str (wpAny_truthy_bool ?_))))))
  rw [show ({ cps := { toList := [34] } } : Str) = S [34] from rfl]
  rw [has_one]
  by_cases hq : l.contains 34 = true
  · rw [if_neg (by simp only [hq]; decide)]
    refine wpAny_execs_nil (wpAny_execs_cons (wpAny_Assign_Name (wpAny_Constant_int (stS F fun h₂ F k₂ => ?_))))
    refine wpAny_execs_cons (wpAny_Assign_Name (wpAny_Constant_none (stS F fun h₃ F k₃ => ?_)))
    refine wpAny_execs_cons (wpAny_Assign_Name (List_ (args_nil (wpAny_newList ?_))))
    have hLD := (Fr.fresh F).1
    have hD00 := (Fr.fresh F).2
    have hD0 : (h₃.push { cls := .type "list", data := .seq ([] : List Value).toArray }).PlainList h₃.objs.size #[] := ⟨_, Heap.get?_push_size _ rfl⟩
    have hDlt : h₃.objs.size < (h₃.push { cls := .type "list", data := .seq ([] : List Value).toArray }).objs.size := by rw [Heap.size_push]; exact Nat.lt_succ_self _
    refine stS (Fr.push F _) fun h₄ F k₄ => ?_
    have hDB : h₃.objs.size < h₄.objs.size := by have := k₄.1; dsimp only at this; rw [this]; exact hDlt
    have hD4 : h₄.PlainList h₃.objs.size #[] := hD0.at fun o e => (k₄.2 _ hLD.symm).trans e
    refine wpAny_execs_cons (wpAny_For (Call_ (name_K F C.X (topRead_of C.T) (by k_is) (callWith_K C.X (by k_is) (args_cons (ld F (by rfl) (args_nil ⟨C.X.keeps F.keep, ?_⟩)))))))
    refine iterCall l t (C.inside F (by dsimp only; walk_at "om") C.gs) (by walk_at "om") F.keep C.X C.T fun s' a gs St hk hle hos hgens hG hst => ?_
    dsimp only at hk hle hos hgens hG
    refine wpAny_pyIter_gen ((hG ({} : Around) rfl).isgen _ hst) ?_
    refine forGen (hb := s.heap) rfl (show dp + 1 < recursionLimit by walk_at "om") (Nat.le_of_lt (Nat.lt_of_le_of_lt F.above F.ns.lt)) C.T.nolimit (StripInv s l t h₃.objs.size (escs l 0 false)) ?_ ⟨gs, St, hG _ rfl, hst, by rw [hgens]; simp⟩ ?_ ?_ ?_ ?_
    · exact ⟨_, [], 0, none, _, 0, ⟨F.ns.keeps hk, fun b o e => hk b o (F.keep b o e), F.above⟩, hD4.at fun o e => hk _ o e, rfl, rfl, rfl, rfl, by walk_at "om", hgens ▸ C.gs.push (hG {} rfl).bare, hos, [], rfl, Nat.le_refl _, (fun x hx => nomatch hx), by simp⟩
    · rintro j s1 ⟨m, ps, start, op, ts, to, F1, -, -, -, -, -, hle1, -⟩
      exact ⟨F1.keep, Nat.le_trans htk hle1⟩
    · rintro j s1 s2 hINV hk2 hle2 hos2 hb2
      refine ex6 hINV fun m ps start op ts to hINVa => ?_
      clear hINV
      refine and10 hINVa fun F1 hP1 e1 e2 e3 e4 hle1 hb1 ho1 r => ?_
      clear hINVa
      have hLB : s.heap.objs.size < h₄.objs.size := F.ns.lt
      refine ⟨m, ps, start, op, ts, to, ⟨F1.ns.at' fun o e => hk2 _ o hLB e, fun b o e => hk2 b o (Nat.lt_trans (Heap.lt_size e) hLB) (F1.keep b o e), F1.above⟩, hP1.at fun o e => hk2 _ o hDB e, e1, e2, e3, e4, Nat.le_trans hle1 hle2, hb2 hb1, hos2.trans ho1, r⟩
    · rintro j p c t1 t2 s1 E1 hit hINV
      refine ex6 hINV fun m ps start op ts to hINVa => ?_
      clear hINV
      refine and10 hINVa fun F1 hP1 e1 e2 e3 e4 hle1 hb1 ho1 hRES => ?_
      clear hINVa
      refine Exists.elim hRES fun res hRESa => ?_
      clear hRES
      refine and4 hRESa fun hr1 hr2 hr3 hr4 => ?_
      clear hRESa
      have hsuf : (escs l 0 false).drop j = (p, c) :: (escs l 0 false).drop (j + 1) := by
        have := (List.getElem?_eq_some_iff.mp hit); obtain ⟨hj, e⟩ := this
        rw [List.drop_eq_getElem_cons hj, e]
      rw [hsuf] at hr4
      refine stS F1 fun h5 F5 k5 => stS F5 fun h6 F6 k6 => ?_
      dsimp only at k6
      have k56 : Heap.SameBut s.heap.objs.size s1.heap h6 := k5.trans k6
      have hP6 : h6.PlainList h₃.objs.size (strValues ps).toArray := hP1.at fun o e => (k56.2 _ hLD.symm).trans e
      refine wpAny_execs_cons (wpAny_If (wpAny_isTrue_Compare1 (ld F6 (by rfl) (Calls.Constant_str (eq_str (wpAny_truthy_bool ?_))))))
      rw [S_beq]
      have hjle : (escs l 0 false).length ≤ l.length + 1 := escs_length l 0 false
      have hjlt : j < (escs l 0 false).length := (List.getElem?_eq_some_iff.mp hit).1
      by_cases hc : c = [34]
      · subst hc
        rw [if_pos (by decide)]
        cases op with
        | none =>
          rw [strL_none] at hr4
          dsimp only at e4
          refine wpAny_execs_cons (wpAny_If (wpAny_isTrue_Compare1 (ld F6 e4 (wpAny_Constant_none ?_))))
          refine wpAny_is_plain rfl (wpAny_truthy_bool ?_)
          rw [if_pos (by decide)]
          refine wpAny_execs_cons (wpAny_Assign_Name (ld F6 (by rfl) (stS F6 fun h7 F7 k7 => wpAny_execs_nil (wpAny_execs_nil (wpAny_execs_nil ?_)))))
          have k17 : Heap.SameBut s.heap.objs.size s1.heap h7 := k56.trans k7
          exact ⟨⟨_, ps, start, some p, ts, t1, F7, hP1.at fun o e => (k17.2 _ hLD.symm).trans e, e1, e2, e3, rfl, by dsimp only; walk_at "om", hb1, ho1, res, hr1, by walk_at "om", hr3, hr4⟩,
            fun b o hb e => (k17.2 b (Nat.ne_of_gt (Nat.lt_of_lt_of_le F.ns.lt hb))).trans e, rfl⟩
        | some q =>
          rw [strL_some] at hr4
          dsimp only at e4
          refine wpAny_execs_cons (wpAny_If (wpAny_isTrue_Compare1 (ld F6 e4 (wpAny_Constant_none ?_))))
          refine wpAny_is_plain rfl (wpAny_truthy_bool ?_)
          rw [show ((Value.int (q : Nat) to) == Value.none) = false from rfl, if_neg Bool.false_ne_true]
          refine wpAny_execs_cons (wpAny_If (wpAny_isTrue_Compare1 (ld F6 e3 (ld F6 e4 (ne_int (wpAny_truthy_bool ?_))))))
          by_cases hqs : start = q
          · rw [if_neg (by simp [hqs])]
            refine wpAny_execs_nil (wpAny_execs_cons (wpAny_Assign_Name (wpAny_BinOp (ld F6 (by rfl) (wpAny_Constant_int (add_int (stS F6 fun h7 F7 k7 => wpAny_execs_cons (wpAny_Assign_Name (wpAny_Constant_none (stS F7 fun h8 F8 k8 => wpAny_execs_nil (wpAny_execs_nil (wpAny_execs_nil ?_))))))))))))
            have k18 : Heap.SameBut s.heap.objs.size s1.heap h8 := k56.trans (k7.trans k8)
            rw [if_neg (by simp [hqs])] at hr4
            exact ⟨⟨_, ps, p + 1, none, _, to, F8, hP1.at fun o e => (k18.2 _ hLD.symm).trans e, e1, e2, rfl, rfl, by dsimp only; walk_at "om", hb1, ho1, res, hr1, by walk_at "om", hr3, hr4⟩,
              fun b o hb e => (k18.2 b (Nat.ne_of_gt (Nat.lt_of_lt_of_le F.ns.lt hb))).trans e, rfl⟩
          · rw [if_pos (by simp; walk_at "om")]
            have hpl : ps.length = res.length := by have := congrArg List.length hr1; simpa using this
            refine wpAny_execs_cons (app_list F6 e2 hP6 (sliceSS F6 e1 e3 e4 (by walk_at "om") fun h7 t7 tk7 hk7 hle7 => ⟨(strValues ps).toArray, hP6.at fun o e => hk7 _ o e, by rw [sizeLine_eq]; simp [strValues]; walk_at "om", fun h8 hP8 k8 => wpAny_execs_nil ?_⟩))
            dsimp only at hk7 hle7 k8
            have F8 := Fr.step (wr := [h₃.objs.size]) (h' := h8) ⟨F6.ns.keeps hk7, fun b o e => hk7 b o (F6.keep b o e), F6.above⟩ (by simp; exact hLD) (by simp; exact hD00) (fun b o hb e => (k8.2 b (by simpa using hb)).trans e)
            have e8 : (strValues ps).toArray.push (.str (S ((l.take q).drop start)) t7) = (strValues (ps ++ [(S ((l.take q).drop start), t7)])).toArray := by simp [strValues]
            rw [e8] at hP8
            refine wpAny_execs_cons (wpAny_Assign_Name (wpAny_BinOp (ld F8 (by rfl) (wpAny_Constant_int (add_int (stS F8 fun h9 F9 k9 => wpAny_execs_cons (wpAny_Assign_Name (wpAny_Constant_none (stS F9 fun h10 F10 k10 => wpAny_execs_nil (wpAny_execs_nil (wpAny_execs_nil ?_)))))))))))
            have k810 : Heap.SameBut s.heap.objs.size h8 h10 := k9.trans k10
            rw [if_pos (by walk_at "om")] at hr4
            exact ⟨⟨_, _, p + 1, none, _, to, F10, hP8.at fun o e => (k810.2 _ hLD.symm).trans e, e1, e2, rfl, rfl, by dsimp only; walk_at "om", hb1, ho1, _, by rw [List.map_append, List.map_append, hr1]; rfl, by simp; walk_at "om",
                (fun x hx => by
                  rcases List.mem_append.mp hx with hx | hx
                  · exact hr3 x hx
                  · rw [List.mem_singleton.mp hx]; simp; walk_at "om"), hr4⟩,
              fun b o hb e => (k810.2 b (Nat.ne_of_gt (Nat.lt_of_lt_of_le F.ns.lt hb))).trans ((k8.2 b (Nat.ne_of_gt (Nat.lt_of_lt_of_le hDB hb))).trans (hk7 b o ((k56.2 b (Nat.ne_of_gt (Nat.lt_of_lt_of_le F.ns.lt hb))).trans e))), rfl⟩
      · rw [if_neg (by simpa using hc)]
        rw [strL_off _ _ _ _ _ _ _ hc] at hr4
        refine wpAny_execs_nil (wpAny_execs_nil ?_)
        exact ⟨⟨_, ps, start, op, ts, to, F6, hP6, e1, e2, e3, e4, by dsimp only; walk_at "om", hb1, ho1, res, hr1, by walk_at "om", hr3, hr4⟩,
          fun b o hb e => (k56.2 b (Nat.ne_of_gt (Nat.lt_of_lt_of_le F.ns.lt hb))).trans e, rfl⟩
    · rintro s1 E1 hINV
      refine ex6 hINV fun m ps start op ts to hINVa => ?_
      clear hINV
      refine and10 hINVa fun F1 hP1 e1 e2 e3 e4 hle1 hb1 ho1 hRES => ?_
      clear hINVa
      refine Exists.elim hRES fun res hRESa => ?_
      clear hRES
      refine and4 hRESa fun hr1 hr2 hr3 hr4 => ?_
      clear hRESa
      rw [List.drop_eq_nil_of_le (Nat.le_refl _)] at hr4
      have hr5 : strL l (escs l 0 false) 0 none [] = (start, res) := hr4.symm.trans rfl
      have hjle : (escs l 0 false).length ≤ l.length + 1 := escs_length l 0 false
      have hpl : ps.length = res.length := by have := congrArg List.length hr1; simpa using this
      refine wpAny_execs_nil (wpAny_execs_cons (wpAny_If (wpAny_isTrue_Compare1 (ld F1 e3 (Call_ (name_B F1 C.X (topRead_of C.T) (by k_is) PySem.boot_len (by decide) (callWith_builtin1 (args_cons (ld F1 e1 (args_nil (len_str ?_ (lt_int (wpAny_truthy_bool ?_)))))))))))))
      · rw [S_length]; walk_at "om"
      · rw [S_length]
        by_cases hst : start < l.length
        · rw [if_pos (by simp; exact hst)]
          refine wpAny_execs_cons (app_list F1 e2 hP1 (sliceSN F1 e1 e3 (by walk_at "om") fun h7 t7 tk7 hk7 hle7 => ⟨(strValues ps).toArray, hP1.at fun o e => hk7 _ o e, by rw [sizeLine_eq]; simp [strValues]; walk_at "om", fun h8 hP8 k8 => wpAny_execs_nil ?_⟩))
          dsimp only at hk7 hle7 k8
          have F8 := Fr.step (wr := [h₃.objs.size]) (h' := h8) ⟨F1.ns.keeps hk7, fun b o e => hk7 b o (F1.keep b o e), F1.above⟩ (by simp; exact hLD) (by simp; exact hD00) (fun b o hb e => (k8.2 b (by simpa using hb)).trans e)
          have e8 : (strValues ps).toArray.push (.str (S (l.drop start)) t7) = (strValues (ps ++ [(S (l.drop start), t7)])).toArray := by simp [strValues]
          rw [e8] at hP8
          refine wpAny_execs_cons (wpAny_Return_some (join_ev (res := res ++ [l.drop start]) (n := l.length) (kk := 2002) F8 e2 hP8 (by rw [List.map_append, List.map_append, hr1]; rfl) (fun x hx => by
            rcases List.mem_append.mp hx with hx | hx
            · exact hr3 x hx
            · rw [List.mem_singleton.mp hx]; simp) (by simp; walk_at "om") (by walk_at "om") (fun t' tk hle => ?_) rfl))
          dsimp only at hle
          refine hret _ _ ⟨F8.keep, by dsimp only; walk_at "om", hb1, ho1⟩ ⟨t', ?_⟩
          rw [strip, if_pos hq, hr5]; simp [hst]
        · rw [if_neg (by simp; walk_at "om")]
          refine wpAny_execs_nil (wpAny_execs_cons (wpAny_Return_some (join_ev (res := res) (n := l.length) (kk := 2002) F1 e2 hP1 hr1 hr3 (by walk_at "om") (by walk_at "om") (fun t' tk hle => ?_) rfl)))
          dsimp only at hle
          refine hret _ _ ⟨F1.keep, by dsimp only; walk_at "om", hb1, ho1⟩ ⟨t', ?_⟩
          rw [strip, if_pos hq, hr5]; simp [hst]
  · rw [if_pos (by simp only [hq]; decide)]
    refine wpAny_execs_cons (wpAny_Return_some (ld F (by rfl) ?_))
    exact hret _ _ ⟨F.keep, by dsimp only; walk_at "om", C.gs, rfl⟩ ⟨t, by rw [strip, if_neg hq]⟩
end Mine
end

section
open PySem PySem.Calls PySem.W PyProof.Rows
namespace Mine
example (P : Params) : hd.heap_161 P = hd.heap_161 P ∧ PySem.Challenge.rw_wr0028_01 = PySem.Challenge.rw_wr0028_01 := by k_fill; exact ⟨rfl, rfl⟩
noncomputable def chkL : List (Nat × List Nat) → Int → Bool
  | [], o => o == 0
  | (_, c) :: r, o => if c = [40] then chkL r (o + 1) else if c = [41] then (if o - 1 < 0 then false else chkL r (o - 1)) else chkL r o
noncomputable def chk (l : List Nat) : Bool := chkL (escs (strip l) 0 false) 0
theorem chk_spec {w : World} {s : Shared} (l : List Nat) (t : Tok) (hl : l.length ≤ 2000) : Clm w 35 [.str (S l) t] 3 8 s (fun v _ => v = .bool (chk l)) := by
  intro mean mg mb dp un gd base outer Q E C hdp hu hret
  refine enterS C (by k_is) (by k_is) (by walk_at "om") (BindsTo.of_eq rfl) (locs rfl) (fun h₁ F N => ?_) (by decide)
  have htk := C.tk
  refine wpAny_execs_cons (wpAny_Assign_Name (Call_ (name_K F C.X (topRead_of C.T) (by k_is) (callWith_K C.X (by k_is) (args_cons (ld F (by rfl) (args_nil ⟨C.X.keeps F.keep, ?_⟩)))))))
  refine (strip_spec l t hl).str mean mg mb _ _ _ base _ _ _ (C.inside F (by dsimp only; walk_at "om") C.gs) (show dp + 1 + 2 < recursionLimit by walk_at "om") (show un + 3 + 4 < cLine by walk_at "om") fun t₂ s₂ G => ?_
  have hle₂ := G.tk
  have hgs₂ := G.gs
  have hos₂ := G.os
  dsimp only at hle₂ hos₂
  refine stS (frGrew F G) fun h₃ F k₃ => ?_
  refine wpAny_execs_cons (wpAny_Assign_Name (wpAny_Constant_int (stS F fun h₄ F k₄ => ?_)))
  refine wpAny_execs_cons (wpAny_For (Call_ (name_K F C.X (topRead_of C.T) (by k_is) (callWith_K C.X (by k_is) (args_cons (ld F (by rfl) (args_nil ⟨C.X.keeps F.keep, ?_⟩)))))))
  refine iterCall (strip l) t₂ (C.inside F (by dsimp only; walk_at "om") hgs₂) (show dp + 1 + 1 < recursionLimit by walk_at "om") F.keep C.X C.T fun s' a gs St hk hle hos hgens hG hst => ?_
  dsimp only at hk hle hos hgens hG
  refine wpAny_pyIter_gen ((hG ({} : Around) rfl).isgen _ hst) ?_
  refine forGen (hb := s.heap) rfl (show dp + 1 < recursionLimit by walk_at "om") (Nat.le_of_lt (Nat.lt_of_le_of_lt F.above F.ns.lt)) C.T.nolimit
    (fun j s' => ∃ m o to, Fr s.heap s.heap.objs.size s'.heap m ∧ m "opens" = some (.int o to) ∧ s.toks ≤ s'.toks ∧ AllBare s'.gens ∧ s'.os = s.os ∧ chkL ((escs (strip l) 0 false).drop j) o = chk l) ?_ ⟨gs, St, hG _ rfl, hst, by rw [hgens]; simp⟩ ?_ ?_ ?_ ?_
  · exact ⟨_, 0, _, ⟨F.ns.keeps hk, fun b o e => hk b o (F.keep b o e), F.above⟩, rfl, by walk_at "om", hgens ▸ hgs₂.push (hG {} rfl).bare, hos.trans hos₂, rfl⟩
  · rintro j s1 ⟨m, o, to, F1, -, hle1, -⟩
    exact ⟨F1.keep, Nat.le_trans htk hle1⟩
  · rintro j s1 s2 hINV hk2 hle2 hos2 hb2
    refine ex3 hINV fun m o to hINVa => ?_
    clear hINV
    refine and6 hINVa fun F1 e1 hle1 hb1 ho1 r => ?_
    clear hINVa
    have hLB : s.heap.objs.size < h₄.objs.size := F.ns.lt
    exact ⟨m, o, to, ⟨F1.ns.at' fun o e => hk2 _ o hLB e, fun b o e => hk2 b o (Nat.lt_trans (Heap.lt_size e) hLB) (F1.keep b o e), F1.above⟩, e1, Nat.le_trans hle1 hle2, hb2 hb1, hos2.trans ho1, r⟩
  · rintro j p c t1 t2 s1 E1 hit hINV
    refine ex3 hINV fun m o to hINVa => ?_
    clear hINV
    refine and6 hINVa fun F1 e1 hle1 hb1 ho1 r => ?_
    clear hINVa
    have hsuf : (escs (strip l) 0 false).drop j = (p, c) :: (escs (strip l) 0 false).drop (j + 1) := by
      have := (List.getElem?_eq_some_iff.mp hit); obtain ⟨hj, e⟩ := this
      rw [List.drop_eq_getElem_cons hj, e]
    rw [hsuf, chkL] at r
    refine stS F1 fun h5 F5 k5 => stS F5 fun h6 F6 k6 => ?_
    dsimp only at k6
    have k56 : Heap.SameBut s.heap.objs.size s1.heap h6 := k5.trans k6
    have far : ∀ {h' : Heap}, Heap.SameBut s.heap.objs.size s1.heap h' → ∀ b o, h₄.objs.size ≤ b → s1.heap.get? b = some o → h'.get? b = some o := fun k b o hb e =>
      (k.2 b (Nat.ne_of_gt (Nat.lt_of_lt_of_le F.ns.lt hb))).trans e
    refine wpAny_execs_cons (wpAny_If (wpAny_isTrue_Compare1 (ld F6 (by rfl) (Calls.Constant_str (eq_str (wpAny_truthy_bool ?_))))))
    rw [show ({ cps := { toList := [40] } } : Str) = S [40] from rfl, S_beq]
    by_cases h40 : c = [40]
    · subst h40
      rw [if_pos (by decide)]
      rw [if_pos rfl] at r
      refine wpAny_execs_cons (wpAny_AugAssign_Name (ldn F6 e1 (wpAny_Constant_int (iadd_int (stS F6 fun h7 F7 k7 => wpAny_execs_nil (wpAny_execs_nil ?_))))))
      exact ⟨⟨_, o + 1, _, F7, rfl, by dsimp only; walk_at "om", hb1, ho1, r⟩, far (k56.trans k7), rfl⟩
    · rw [if_neg (by simpa using h40)]
      rw [if_neg h40] at r
      refine wpAny_execs_cons (wpAny_If (wpAny_isTrue_Compare1 (ld F6 (by rfl) (Calls.Constant_str (eq_str (wpAny_truthy_bool ?_))))))
      rw [show ({ cps := { toList := [41] } } : Str) = S [41] from rfl, S_beq]
      by_cases h41 : c = [41]
      · subst h41
        rw [if_pos (by decide)]
        rw [if_pos rfl] at r
        refine wpAny_execs_cons (wpAny_AugAssign_Name (ldn F6 e1 (wpAny_Constant_int (isub_int (stS F6 fun h7 F7 k7 => ?_)))))
        refine wpAny_execs_cons (wpAny_If (wpAny_isTrue_Compare1 (ld F7 (by rfl) (wpAny_Constant_int (lt_int (wpAny_truthy_bool ?_))))))
        by_cases h0 : o - 1 < 0
        · rw [if_pos (by simpa using h0)]
          rw [if_pos h0] at r
          refine wpAny_execs_cons (wpAny_Return_some (wpAny_Constant_bool ?_))
          exact hret _ _ ⟨F7.keep, by dsimp only; walk_at "om", hb1, ho1⟩ (by rw [← r])
        · rw [if_neg (by simpa using h0)]
          rw [if_neg h0] at r
          refine wpAny_execs_nil (wpAny_execs_nil (wpAny_execs_nil (wpAny_execs_nil ?_)))
          exact ⟨⟨_, o - 1, _, F7, rfl, by dsimp only; walk_at "om", hb1, ho1, r⟩, far (k56.trans k7), rfl⟩
      · rw [if_neg (by simpa using h41)]
        rw [if_neg h41] at r
        refine wpAny_execs_nil (wpAny_execs_nil (wpAny_execs_nil ?_))
        exact ⟨⟨_, o, to, F6, e1, by dsimp only; walk_at "om", hb1, ho1, r⟩, far k56, rfl⟩
  · rintro s1 E1 hINV
    refine ex3 hINV fun m o to hINVa => ?_
    clear hINV
    refine and6 hINVa fun F1 e1 hle1 hb1 ho1 r => ?_
    clear hINVa
    rw [List.drop_eq_nil_of_le (Nat.le_refl _)] at r
    refine wpAny_execs_nil (wpAny_execs_cons (wpAny_Return_some (wpAny_Compare1 (ld F1 e1 (wpAny_Constant_int (eq_int ?_))))))
    exact hret _ _ ⟨F1.keep, by dsimp only; walk_at "om", hb1, ho1⟩ (by rw [← r]; rfl)
end Mine
end

section
open PySem PySem.Calls PySem.W PyProof.Rows
namespace Mine
/-- the places at which a piece begins, left to right and apart -/
noncomputable def occG (l y : List Nat) (hi lim : Nat) : Nat → Nat → Nat → Nat → List Nat
  | 0, _, _, _ => []
  | n + 1, i, k, free => if (decide (k < lim) && decide (free ≤ i) && decide (i + y.length ≤ hi) && y.isPrefixOf (l.drop i)) = true then i :: occG l y hi lim n (i + 1) (k + 1) (i + y.length) else occG l y hi lim n (i + 1) k free
theorem subAt_S (l y : List Nat) (i : Nat) : Builtin.Str.subAt (S l) (S y) i = y.isPrefixOf (l.drop i) := by
  have e : ((S l).cps.extract i (i + (S y).length) == (S y).cps) = ((l.drop i).take y.length == y) := by
    rw [S_length]
    rw [Bool.eq_iff_iff, beq_iff_eq, beq_iff_eq]
    constructor
    · intro h; have := congrArg Array.toList h; simpa [S, List.extract] using this
    · intro h; apply Array.ext'; simpa [S, List.extract] using h
  rw [show Builtin.Str.subAt (S l) (S y) i = ((S l).cps.extract i (i + (S y).length) == (S y).cps) from rfl, e, Bool.eq_iff_iff, beq_iff_eq, List.isPrefixOf_iff_prefix, List.prefix_iff_eq_take]
  exact eq_comm
theorem occ_go (l y : List Nat) (hi lim : Nat) : ∀ (n i k free : Nat) (a : Array Nat), a.size = k → (forIn (List.range' i n) (a, free) (StrLaws.occBody (S l) (S y) hi lim)).run.fst.toList = a.toList ++ occG l y hi lim n i k free
  | 0, i, k, free, a, h => by simp [occG]
  | n + 1, i, k, free, a, h => by
    rw [List.range'_succ, List.forIn_cons]
    unfold StrLaws.occBody
    rw [occG, S_length, subAt_S]
    by_cases hc : ((a.size < lim ∧ free ≤ i) ∧ i + y.length ≤ hi) ∧ y.isPrefixOf (l.drop i) = true
    · rw [if_pos hc, if_pos (by subst h; obtain ⟨⟨⟨h1, h2⟩, h3⟩, h4⟩ := hc; simp only [h1, h2, h3, h4]; rfl)]
      have := occ_go l y hi lim n (i + 1) (k + 1) (i + y.length) (a.push i) (by simp [h])
      refine this.trans ?_
      simp
    · rw [if_neg hc, if_neg (by subst h; intro h'; simp only [Bool.and_eq_true, decide_eq_true_eq] at h'; exact hc h')]
      exact occ_go l y hi lim n (i + 1) k free a h
theorem occ_S (l y : List Nat) (lo hi lim : Nat) : Builtin.Str.occurrences (S l) (S y) lo hi lim = occG l y hi lim (hi + 1 - lo) lo 0 lo := by
  rw [StrLaws.occ_eq, occ_go l y hi lim _ lo 0 lo #[] rfl]; rfl
/-- a text cut at a piece's places -/
noncomputable def partsL (l : List Nat) : List Nat → Nat → Nat → List (List Nat)
  | [], _, i => [l.drop i]
  | j :: r, w, i => (l.take j).drop i :: partsL l r w (j + w)
theorem strSub_S (l : List Nat) (i j : Nat) : Builtin.Str.strSub (S l) i j = S ((l.take j).drop i) := by
  apply Str.ext'
  apply Array.ext'
  simp [Builtin.Str.strSub, S, List.extract, List.drop_take]
theorem parts_go (l : List Nat) (w : Nat) : ∀ (cuts : List Nat) (i : Nat), ((i :: cuts.map (· + w)).zip (cuts ++ [l.length])).map (fun (i, j) => Builtin.Str.strSub (S l) i j) = (partsL l cuts w i).map S
  | [], i => by simp [partsL, strSub_S]
  | j :: r, i => by
    have := parts_go l w r (j + w)
    simp only [List.map_cons, List.cons_append, List.zip_cons_cons, partsL] at this ⊢
    rw [strSub_S, this]
theorem parts_S (l : List Nat) (cuts : List Nat) (w : Nat) : Builtin.Str.partsBetween (S l) cuts w = (partsL l cuts w 0).map S := by
  have := parts_go l w cuts 0
  unfold Builtin.Str.partsBetween
  rw [S_length]
  exact this
noncomputable def splitL (l y : List Nat) : List (List Nat) := partsL l (occG l y l.length (l.length + 1) (l.length + 1) 0 0 0) y.length 0
theorem split_S (l y : List Nat) (hk : Builtin.Str.strKind (S y) = 1) (hl : y.length ≤ l.length) : Txt.split (S l) (S y) = (splitL l y).map S := by
  unfold Txt.split
  have h1 := strKind_pos (S l)
  rw [if_neg (by rw [hk, S_length, S_length]; simp; walk_at "om"), S_length, S_length, occ_S]
  rw [parts_S]
  split
  · rename_i h
    rw [splitL]
    have : occG l y l.length (l.length + 1) (l.length + 1) 0 0 0 = [] := by simpa using h
    rw [this]
    simp [partsL]
  · rfl
open PySem.Builtin PySem.Builtin.Str PySem.Builtin.Int in
theorem gives_find4 (x y : Str) (i j : Int) (t u v v' : Tok) : PySem.Gives (Builtin.«str.find» ⟨[.str x t, .str y u, .int i v, .int j v'], []⟩) (.int (match Builtin.Str.occurrences x y (PySem.fromIndex x.length i) (min (PySem.fromIndex x.length j) x.length) 1 with | k :: _ => (k : Int) | [] => -1)) := by
  show PySem.Gives (match Builtin.Str.occurrences x y (PySem.fromIndex x.length i) (min (PySem.fromIndex x.length j) x.length) 1 with | k :: _ => retInt k | [] => (do rule "str.find.not-found"; retInt (-1))) _
  cases Builtin.Str.occurrences x y (PySem.fromIndex x.length i) (min (PySem.fromIndex x.length j) x.length) 1 with
  | nil => exact .rule (.of_eq rfl)
  | cons k _ => exact .of_eq rfl
theorem find4 {w : World} {A : Around} {E : Value → Shared → Prop} {s : Shared} {Q : Value → Shared → Prop} {l y : List Nat} {i j : Nat} {t u v v' : Tok} (hj : j ≤ l.length)
    (h : ∀ t' tk, s.toks ≤ tk → Q (.int (match occG l y j 1 (j + 1 - i) i 0 i with | k :: _ => (k : Int) | [] => -1) t') { s with toks := tk }) :
    wpAny (model PP w) A (call (.builtin "str.find") [.str (S l) t, .str (S y) u, .int i v, .int j v']) Q E s := by
  have e1 : PySem.fromIndex (S l).length (i : Int) = i := by unfold PySem.fromIndex; split <;> walk_at "om"
  have e2 : min (PySem.fromIndex (S l).length (j : Int)) (S l).length = j := by unfold PySem.fromIndex; rw [S_length]; split <;> walk_at "om"
  refine call_gives F.slot_str_find (typeIs_str _ _ _) F.entry_str_find (F.args_str_find_4 _ _ _ _) (gives_find4 (S l) (S y) i j t u v v') ?_
  rw [e1, e2, occ_S]
  exact h _ _ (Nat.le_succ _)
noncomputable def findL (l y : List Nat) (lo hi : Nat) : Option Nat := (occG l y hi 1 (hi + 1 - lo) lo 0 lo).head?
end Mine
end

section
open PySem PySem.Calls PySem.W PyProof.Rows
namespace Mine
example (P : Params) : hd.heap_161 P = hd.heap_161 P ∧ PySem.Challenge.rw_wr0028_01 = PySem.Challenge.rw_wr0028_01 := by k_fill; exact ⟨rfl, rfl⟩
noncomputable abbrev dots : List Nat := [46, 46, 46]
noncomputable def findAll (got : List Nat) : List (List Nat) → Nat → Bool
  | [], _ => true
  | x :: r, st => match occG got x got.length 1 (got.length + 1 - st) st 0 st with
    | [] => false
    | k :: _ => findAll got r (k + x.length)
noncomputable def ellB (want got : List Nat) : Bool := findAll got (splitL want dots) 0
noncomputable def ellOk (want : List Nat) : Bool := (!(occG want dots want.length 1 (want.length + 1 - 0) 0 0 0).isEmpty) && (decide (2 ≤ (splitL want dots).length) && ((splitL want dots)[0]? == some [] && ((splitL want dots)[(splitL want dots).length - 1]? == some [] && (decide (3 ≤ want.length) && decide (want.length ≤ 1000)))))
theorem occG_length (l y : List Nat) (hi lim : Nat) : ∀ n i k free, (occG l y hi lim n i k free).length ≤ n
  | 0, _, _, _ => Nat.le_refl _
  | n + 1, i, k, free => by
    rw [occG]; split
    · have := occG_length l y hi lim n (i + 1) (k + 1) (i + y.length); simp; exact this
    · have := occG_length l y hi lim n (i + 1) k free; walk_at "om"
theorem partsL_length (l : List Nat) (w : Nat) : ∀ (c : List Nat) (i : Nat), (partsL l c w i).length = c.length + 1
  | [], _ => rfl
  | j :: r, i => by simp [partsL, partsL_length l w r]
theorem partsL_le (l : List Nat) (w : Nat) : ∀ (c : List Nat) (i : Nat), ∀ x ∈ partsL l c w i, x.length ≤ l.length
  | [], i, x, h => by simp [partsL] at h; subst h; simp
  | j :: r, i, x, h => by
    simp only [partsL, List.mem_cons] at h
    rcases h with rfl | h
    · simp; walk_at "om"
    · exact partsL_le l w r _ x h
theorem strsOfPs : ∀ (ps : List (Str × Tok)), StrsAre (strValues ps) (ps.map (·.1))
  | [] => .nil
  | (x, t) :: r => .cons x t (strsOfPs r)
theorem item_last {w : World} {A : Around} {E : Value → Shared → Prop} {s : Shared} {value slice : Expr} {l : Addr} {ps : List (Str × Tok)} {x : Str} {u : Tok} {Q : Value → Shared → Prop} (hl : s.heap.IsList l (strValues ps).toArray)
    (h0 : 0 < ps.length) (hx : (ps.map (·.1))[ps.length - 1]? = some x) (h : ∀ t, Q (.str x t) s)
    (hs : autoParam (subscripted slice false (.ref l) (.int (-1) u) = operate [.ref l, .int (-1) u] (getItem (.ref l) (.int (-1) u))) aUnf) (hg : autoParam (∀ r, letTemporaryGo value (.ref l) r = pure ()) aIntU) :
    wpAny (model PP w) A (subscriptTail value slice (.ref l) (.int (-1) u)) Q E s := by
  refine item_strs_neg hl (strsOfPs ps) (by decide) (by rw [List.length_map]; walk_at "om") (by decide) (fun t => ?_) hs hg
  have e : (ps.map (·.1)).getD ((-1 : Int) + ((ps.map (·.1)).length : Nat)).toNat Str.empty = x := by
    rw [List.length_map, show ((-1 : Int) + (ps.length : Nat)).toNat = ps.length - 1 by walk_at "om"]
    simp only [List.getD, hx]; rfl
  rw [e]; exact h t
theorem Fr.more {h₀ h h' : Heap} {L : Addr} {m : Str → Option Value} (F : Fr h₀ L h m) (hk : ∀ b o, h.get? b = some o → h'.get? b = some o) : Fr h₀ L h' m :=
  ⟨F.ns.keeps hk, fun b o e => hk b o (F.keep b o e), F.above⟩
theorem Fr.neL {h₀ h : Heap} {L D : Addr} {m : Str → Option Value} {it : Array Value} (F : Fr h₀ L h m) (hD : h.IsList D it) : L ≠ D := by
  rintro rfl
  obtain ⟨o, es, ep, h1, h2, _⟩ := F.ns
  obtain ⟨o', h3, _, n, h4⟩ := hD
  rw [h1] at h3; cases h3; rw [h2] at h4; cases h4
theorem ell_spec {w : World} {s : Shared} (want got : List Nat) (t u : Tok) (hok : ellOk want = true) (hg : got.length ≤ 2000) : Clm w 42 [.str (S want) t, .str (S got) u] 1 1 s (fun v _ => v = .bool (ellB want got)) := by
  intro mean mg mb dp un gd base outer Q E C hd hu hret
  unfold ellOk at hok
  simp only [Bool.and_eq_true, decide_eq_true_eq, beq_iff_eq] at hok
  obtain ⟨ho1, hws2, hws0, hwsL, hw3, hwN⟩ := hok
  refine enterS C (by k_is) (by k_is) (by walk_at "om") (BindsTo.of_eq rfl) (locs rfl) (fun h₁ F N => ?_) (by decide)
  have htk := C.tk
  refine wpAny_execs_cons (wpAny_If (wpAny_isTrue_Compare1 (name_K F C.X (topRead_of C.T) (by k_is) (ld F (by rfl) (PyProof.Rows.notIn_str (wpAny_truthy_bool ?_))))))
  rw [show Str.ofString "..." = S dots from rfl, occ_S, S_length, if_neg (by simp only [ho1]; decide)]
  refine wpAny_execs_nil (wpAny_execs_cons (wpAny_Assign_Name (MethodCall_ (ld F (by rfl) (GM.split (callWith_method1 (args_cons (name_K F C.X (topRead_of C.T) (by k_is) (args_nil ?_)))))) (by rfl))))
  refine wpAny_with_toks (Nat.le_refl _) (SCH.split1 (P := fun h' => ∀ b o, h₁.get? b = some o → h'.get? b = some o) (fun h ob k b o e => Heap.get?_push_of_some _ (k b o e)) (fun _ _ e => e) (by decide) (fun D ps h₂ tk hps hk₂ hD hle => ?_) (by rw [S_length, sizeLine_eq]; walk_at "om") ?_)
  · dsimp only at hle
    rw [show Str.ofString "..." = S dots from rfl, split_S want dots (by simp [Builtin.Str.strKind, S]) hw3] at hps
    have hpl : ps.length = (splitL want dots).length := by have := congrArg List.length hps; simpa using this
    have hpx : ∀ (i : Nat) x, (splitL want dots)[i]? = some x → ∃ tx, (strValues ps).toArray[i]? = some (.str (S x) tx) := by
      intro i x hx
      have h2 : (ps.map (·.1))[i]? = some (S x) := by rw [hps]; simp [hx]
      rw [List.getElem?_map] at h2
      cases hp : ps[i]? with
      | none => rw [hp] at h2; cases h2
      | some q => rw [hp] at h2; cases q with | mk q1 q2 => exact ⟨q2, by
          have h3 : q1 = S x := by simpa using h2
          subst h3; simp [strValues, hp]⟩
    have F2 : Fr s.heap s.heap.objs.size h₂ _ := ⟨F.ns.keeps hk₂, fun b o e => hk₂ b o (F.keep b o e), F.above⟩
    have hDL : s.heap.objs.size ≠ D := Fr.neL F2 hD
    have hszN : (splitL want dots).length ≤ 1002 := by
      unfold splitL; rw [partsL_length]; have := occG_length want dots want.length (want.length + 1) (want.length + 1) 0 0 0; walk_at "om"
    refine stS F2 fun h₃ F3 k3 => ?_
    have hD3 : h₃.IsList D (strValues ps).toArray := hD.at fun o e => (k3.2 _ hDL.symm).trans e
    refine wpAny_execs_cons (wpAny_Assert_holds (wpAny_isTrue_Compare1 (Call_ (name_B F3 C.X (topRead_of C.T) (by k_is) PySem.boot_len (by decide) (callWith_builtin1 (args_cons (ld F3 (by rfl) (args_nil (len_list hD3 (by simp [strValues]; walk_at "om") (wpAny_Constant_int (ge_int (wpAny_truthy_bool ?_))))))))))))
    refine ⟨by simp [strValues]; walk_at "om", ?_⟩
    have hu2 : @LE.le Nat _ s.toks tk := by walk_at "om"
    refine wpAny_execs_cons (Assign_Tuple_swapped (Tuple_ (args_cons (wpAny_Constant_int (args_cons (Call_ ?_))))))
    refine name_B F3 C.X (topRead_of C.T) (by k_is) PySem.boot_len (by decide) ?_
    refine callWith_builtin1 (args_cons (ld F3 (by rfl) (args_nil ?_)))
    refine SBL.len (by rw [S_length]; walk_at "om") (args_nil (wpAny_newTuple ?_))
    refine unpackItems_tuple (items := #[_, _]) rfl ⟨_, Heap.get?_push_size _ rfl, rfl, 0, rfl⟩ fun h₄ he => ?_
    refine assignInOrder_cons (bindName_ (stS (Fr.more F3 (h' := h₄) ?_) fun h₅ F5 k5 => assignInOrder_cons (bindName_ (stS F5 fun h₆ F6 k6 => assignInOrder_nil ?_))))
    · exact fun b o e => he b o (by rw [Heap.size_push]; exact Nat.ne_of_lt (Nat.lt_succ_of_lt (Heap.lt_size e))) (Heap.get?_push_of_some _ e)
    dsimp only at k5 k6
    have hD4 : h₄.IsList D (strValues ps).toArray := hD3.at fun o e => he _ o (by rw [Heap.size_push]; exact Nat.ne_of_lt (Nat.lt_succ_of_lt (Heap.lt_size e))) (Heap.get?_push_of_some _ e)
    have hD6 : h₆.IsList D (strValues ps).toArray := hD4.at fun o e => ((k5.trans k6).2 _ hDL.symm).trans e
    refine Exists.elim (hpx 0 [] hws0) fun tx0 hx0 => ?_
    refine wpAny_execs_cons (wpAny_Assign_Name (Subscript_ (ld F6 (by rfl) (wpAny_Constant_int (item_list hD6 (by decide) (by decide) hx0 (stS F6 fun h₇ F7 k7 => ?_))))))
    refine wpAny_execs_cons (wpAny_If (isTrue_plain (ld F7 (by rfl) (SBL.truthy (by decide) ?_))))
    rw [if_neg (by decide)]
    refine wpAny_execs_nil ?_
    have hD7 : h₇.IsList D (strValues ps).toArray := hD6.at fun o e => (k7.2 _ hDL.symm).trans e
    have hxL : (ps.map (·.1))[ps.length - 1]? = some (S []) := by rw [hps, hpl]; simp [hwsL]
    refine wpAny_execs_cons (wpAny_Assign_Name (Subscript_ (ld F7 (by rfl) (UnaryOp_ (wpAny_Constant_int (P.neg_int ?_))))))
    refine item_last (x := S []) hD7 (by walk_at "om") hxL fun txL => ?_
    refine stS F7 fun h₈ F8 k8 => ?_
    refine wpAny_execs_cons (wpAny_If (isTrue_plain (ld F8 (by rfl) (SBL.truthy (by decide) ?_))))
    rw [if_neg (by decide)]
    refine wpAny_execs_nil ?_
    refine wpAny_execs_cons (wpAny_If (wpAny_isTrue_Compare1 (ld F8 (by rfl) (ld F8 (by rfl) (gt_int (wpAny_truthy_bool ?_))))))
    rw [if_neg (by rw [S_length]; simp)]
    refine wpAny_execs_nil ?_
    have hD8 : h₈.IsList D (strValues ps).toArray := hD7.at fun o e => (k8.2 _ hDL.symm).trans e
    refine wpAny_execs_cons (wpAny_For (ld F8 (by rfl) (wpAny_pyIter_list hD8 ?_)))
    have hI := (Fr.fresh F8)
    have hDlt : D < h₈.objs.size := by obtain ⟨o, e, _⟩ := hD8; exact Heap.lt_size e
    refine forN (Wk.of (k := s.toks) (Walks.list rfl h₈.objs.size D (Nat.ne_of_lt hDlt) (strValues ps).toArray)) (fun i s' => ∃ h tk m st ts te, s' = { s with heap := h, toks := tk } ∧ Fr s.heap s.heap.objs.size h m ∧ s.toks ≤ tk ∧ m "got" = some (.str (S got) u) ∧ m "endpos" = some (.int (got.length : Nat) te) ∧ m "startpos" = some (.int (st : Nat) ts) ∧ findAll got ((splitL want dots).drop i) st = ellB want got)
      ?_ ?_ ?_ ?_ ?_ ?_
    · exact ⟨_, _, _, 0, _, _, rfl, F8.push _, by dsimp only; walk_at "om", rfl, by rw [← S_length got]; rfl, rfl, rfl⟩
    · exact ⟨⟨_, Heap.get?_push_size _ rfl, rfl, rfl⟩, hD8.at fun o e => Heap.get?_push_of_some _ e⟩
    · rintro i s' ⟨h, tk, m, st, ts, te, rfl, -, a, -⟩; exact a
    · rintro i _ h' tk' hINV hk hle
      refine ex6 hINV fun h tk m st ts te hINVa => ?_
      clear hINV
      have hSUB := hINVa.1
      have hINVb := hINVa.2
      clear hINVa
      subst hSUB
      refine and3 hINVb fun F' a r => ?_
      clear hINVb
      exact ⟨h', tk', m, st, ts, te, rfl, Fr.step F' (by simpa using hI.1) (by simpa using hI.2) hk, Nat.le_trans a hle, r⟩
    · rintro i v _ E' hi hv hINV hst
      refine ex6 hINV fun h tk m st ts te hINVa => ?_
      clear hINV
      have hSUB := hINVa.1
      have hINVb := hINVa.2
      clear hINVa
      subst hSUB
      refine and6 hINVb fun F' a mg me ms r => ?_
      clear hINVb
      have hi' : i < (splitL want dots).length := by rw [← hpl]; simpa [strValues] using hi
      have hxi : (splitL want dots)[i]? = some ((splitL want dots)[i]) := List.getElem?_eq_getElem hi'
      generalize (splitL want dots)[i] = x at hxi
      have hv2 := hpx i x hxi
      rw [hv] at hv2
      have hsuf : (splitL want dots).drop i = x :: (splitL want dots).drop (i + 1) := by
        rw [List.drop_eq_getElem_cons hi']; congr 1; exact Option.some.inj ((List.getElem?_eq_getElem hi').symm.trans hxi)
      rw [hsuf] at r
      refine Exists.elim hv2 fun tx ev => ?_
      have ev' : v = .str (S x) tx := by simpa using ev
      clear ev hv2 hv; subst ev'
      refine stS F' fun h9 F9 k9 => ?_
      refine wpAny_execs_cons (wpAny_Assign_Name (MethodCall_ (ld F9 mg (GM.find (callWith_method1 (args_cons (ld F9 (by rfl) (args_cons (ld F9 ms (args_cons (ld F9 me (args_nil ?_)))))))))) (by rfl)))
      refine find4 (Nat.le_refl _) fun t1 tk1 hle1 => ?_
      have keepSt : ∀ h h' : Heap, (h.IsListIter h₈.objs.size D (i + 1) ∧ h.IsList D (strValues ps).toArray) → Heap.SameBut s.heap.objs.size h h' → (h'.IsListIter h₈.objs.size D (i + 1) ∧ h'.IsList D (strValues ps).toArray) := fun h h' st k =>
        ⟨st.1.at fun o e => (k.2 _ hI.1.symm).trans e, st.2.at fun o e => (k.2 _ hDL.symm).trans e⟩
      dsimp only at hle1 hst k9
      cases hoc : occG got x got.length 1 (got.length + 1 - st) st 0 st with
      | nil =>
        rw [findAll, hoc] at r
        refine stS F9 fun h10 F10 k10 => ?_
        refine wpAny_execs_cons (wpAny_If (wpAny_isTrue_Compare1 (ld F10 (by rfl) (wpAny_Constant_int (lt_int (wpAny_truthy_bool ?_))))))
        rw [if_pos (by decide)]
        refine wpAny_execs_cons (wpAny_Return_some (wpAny_Constant_bool ?_))
        exact hret _ _ ⟨F10.keep, by dsimp only; walk_at "om", C.gs, rfl⟩ (by rw [← r])
      | cons k kr =>
        rw [findAll, hoc] at r
        refine stS F9 fun h10 F10 k10 => ?_
        refine wpAny_execs_cons (wpAny_If (wpAny_isTrue_Compare1 (ld F10 (by rfl) (wpAny_Constant_int (lt_int (wpAny_truthy_bool ?_))))))
        rw [if_neg (by simp)]
        refine wpAny_execs_nil ?_
        refine wpAny_execs_cons (wpAny_AugAssign_Name (ldn F10 (by rfl) (Call_ ?_)))
        refine name_B F10 C.X (topRead_of C.T) (by k_is) PySem.boot_len (by decide) ?_
        refine callWith_builtin1 (args_cons (ld F10 (by rfl) (args_nil ?_)))
        refine SBL.len (by have := partsL_le want 3 _ _ x (List.mem_of_getElem? hxi); rw [S_length]; walk_at "om") ?_
        refine iadd_int (stS F10 fun h11 F11 k11 => wpAny_execs_nil ?_)
        exact ⟨⟨h11, _, _, k + x.length, _, te, rfl, F11, by dsimp only; walk_at "om", mg, me, by rw [S_length]; rfl, r⟩, keepSt _ _ (keepSt _ _ (keepSt _ _ hst k9) k10) k11⟩
    · rintro _ E' hINV
      refine ex6 hINV fun h tk m st ts te hINVa => ?_
      clear hINV
      have hSUB := hINVa.1
      have hINVb := hINVa.2
      clear hINVa
      subst hSUB
      refine and6 hINVb fun F' a mg me ms r => ?_
      clear hINVb
      refine wpAny_execs_nil (wpAny_execs_cons (wpAny_Return_some (wpAny_Constant_bool ?_)))
      refine hret _ _ ⟨F'.keep, a, C.gs, rfl⟩ ?_
      rw [← r, List.drop_eq_nil_of_le (by simp [strValues]; walk_at "om")]; rfl
  · show (Builtin.Str.partsBetween (S want) (Builtin.Str.occurrences (S want) (S dots) 0 (S want).length ((S want).length + 1)) (S dots).length).length ≤ sizeLine
    rw [occ_S, parts_S, List.length_map, partsL_length, S_length, sizeLine_eq]
    have := occG_length want dots want.length (want.length + 1) (want.length + 1 - 0) 0 0 0
    walk_at "om"
end Mine
end

section
open PySem PySem.Calls PySem.W PyProof.Rows
open PySem.Builtin
set_option maxHeartbeats 4000000
namespace Mine
section
variable {prog : Program} {w : World} {A : Around} {E : Value → Shared → Prop} {s : Shared}
theorem nextOf_tuple_item {it l : Addr} {i : Nat} {items} {x : Value} {Q : Value → Shared → Prop} (hit : s.heap.IsTupleIter it l i)
    (hl : s.heap.IsTuple l items) (hx : items[i]? = some x)
    (hQ : ∀ h', h'.IsTupleIter it l (i + 1) → Heap.SameBut it s.heap h' → Q x { s with heap := h' }) :
    wpAny (model prog w) A (Builtin.SmallTypes.nextOf (.ref it)) Q E s := by
  obtain ⟨o, ho, hc, hd⟩ := id hit
  obtain ⟨ol, hol, _, nl, hdl⟩ := hl
  unfold Builtin.SmallTypes.nextOf
  refine wpAny_bind (wpAny_callSpecial?_slot (name := Str.ofString "__next__") hit.typeIs F.slot_tuple_iterator_next
    (wpAny_call_entry F.slot_tuple_iterator_next hit.typeIs F.entry_tuple_iterator_next ?_ (F.args_tuple_iterator_next_1 _)))
  show wpAny _ _ (field (.ref it) 0 >>= _) _ _ s
  refine wpAny_bind (wpAny_field ho hd (x := .ref l) rfl ?_)
  show wpAny _ _ (if (Value.ref l == Value.none) = true then _ else _) _ _ s
  rw [if_neg (show ¬ ((Value.ref l == Value.none) = true) from Bool.false_ne_true)]
  show wpAny _ _ (field (.ref it) 1 >>= _) _ _ s
  refine wpAny_bind (wpAny_field ho hd (x := .int i 0) rfl ?_)
  show wpAny _ _ (seqItems? (.ref l) >>= _) _ _ s
  refine wpAny_bind (wpAny_seqItems hol hdl ?_)
  simp only [Int.toNat_natCast, hx]
  refine wpAny_bind (wpAny_setField ho hd (by simp) (wpAny_pure ⟨x, rfl, wpAny_pure (hQ _ ?_ (Heap.SameBut.update ..))⟩))
  exact ⟨_, Heap.get?_update_self _ ho (Obj.isFreed_of_fields (Obj.data_mapFields hd _)), (Obj.cls_mapFields ..).trans hc, by
    rw [Obj.data_mapFields hd]; simp [rawInt]⟩
theorem nextOf_tuple_end {it l : Addr} {i : Nat} {items} {Q : Value → Shared → Prop} (hh : A.handled = none)
    (hit : s.heap.IsTupleIter it l i) (hl : s.heap.IsTuple l items) (hx : items[i]? = none)
    (hE : ∀ h' e, Heap.ExtBut it s.heap h' → (∃ o, h'.get? e = some o ∧ o.cls = .type "StopIteration") → E (.ref e) { s with heap := h' }) :
    wpAny (model prog w) A (Builtin.SmallTypes.nextOf (.ref it)) Q E s := by
  obtain ⟨o, ho, hc, hd⟩ := id hit
  obtain ⟨ol, hol, _, nl, hdl⟩ := hl
  unfold Builtin.SmallTypes.nextOf
  refine wpAny_bind (wpAny_callSpecial?_slot (name := Str.ofString "__next__") hit.typeIs F.slot_tuple_iterator_next
    (wpAny_call_entry F.slot_tuple_iterator_next hit.typeIs F.entry_tuple_iterator_next ?_ (F.args_tuple_iterator_next_1 _)))
  show wpAny _ _ (field (.ref it) 0 >>= _) _ _ s
  refine wpAny_bind (wpAny_field ho hd (x := .ref l) rfl ?_)
  show wpAny _ _ (if (Value.ref l == Value.none) = true then _ else _) _ _ s
  rw [if_neg (show ¬ ((Value.ref l == Value.none) = true) from Bool.false_ne_true)]
  show wpAny _ _ (field (.ref it) 1 >>= _) _ _ s
  refine wpAny_bind (wpAny_field ho hd (x := .int i 0) rfl ?_)
  show wpAny _ _ (seqItems? (.ref l) >>= _) _ _ s
  refine wpAny_bind (wpAny_seqItems hol hdl ?_)
  simp only [Int.toNat_natCast, hx]
  refine wpAny_bind (wpAny_rule (wpAny_bind (wpAny_setField ho hd (by simp) ?_)))
  show wpAny _ _ (newExc (.type "StopIteration") [] >>= _) _ _ _
  refine wpAny_bind ?_
  simp only [newExc, newTuple]
  refine wpAny_bind (wpAny_newObj_type ?_ (by size_fits))
  refine wpAny_bind (m := firstArgMember _ _) (wpAny_of_eq (a := Value.none) (by first | rfl | (simp only [firstArgMember]; rfl)) ?_)
  refine wpAny_newObj_type ?_ (by size_fits)
  simp only [raiseNew]
  refine wpAny_bind (wpAny_handled ?_)
  first | rw [show A.in1.handled = none from hh] | rw [hh]
  refine wpAny_bind (wpAny_pure (wpAny_throw ?_))
  exact hE _ _ (((Heap.SameBut.update ..).extBut.push _).push _) ⟨_, Heap.get?_push_size _ rfl, rfl⟩
theorem drawsTuple (hh : A.handled = none) (it l : Addr) (hne : l ≠ it) (items : Array Value) :
    Draws prog w A it [it, l] items.size (fun i v => items[i]? = some v) (fun i h => h.IsTupleIter it l i ∧ h.IsTuple l items) where
  live := fun _ _ st => let ⟨o, ho, _⟩ := st.1; ⟨o, ho⟩
  frame := fun _ _ _ st hk => ⟨let ⟨o, ho, r⟩ := st.1; ⟨o, hk it (by simp) o ho, r⟩, let ⟨o, ho, r⟩ := st.2; ⟨o, hk l (by simp) o ho, r⟩⟩
  item := fun i s Q E hi st hQ => by
    refine nextOf_tuple_item st.1 st.2 (x := items[i]) (by simp [hi]) fun h' hit' hs' => ?_
    exact hQ _ h' s.toks (by simp [hi]) ⟨hit', st.2.extBut hs'.extBut hne⟩ hs'
  done := fun s Q E st hE => nextOf_tuple_end hh st.1 st.2 (by simp) hE

structure ZA (z TI TO i1 i2 : Addr) (f1 f2 : List Addr) : Prop where
  TIz : TI ≠ z
  TOz : TO ≠ z
  i1z : i1 ≠ z
  i2z : i2 ≠ z
  TITO : TI ≠ TO
  TIi1 : TI ≠ i1
  TIi2 : TI ≠ i2
  TOi1 : TO ≠ i1
  TOi2 : TO ≠ i2
  i12 : i1 ≠ i2
  z1 : z ∉ f1
  z2 : z ∉ f2
  T1 : TO ∉ f1
  T2 : TO ∉ f2
  x1 : i1 ∉ f2
  x2 : i2 ∉ f1

variable {z TI TO i1 i2 : Addr} {f1 f2 : List Addr} {n1 n2 : Nat} {P1 P2 : Nat → Value → Prop} {St1 St2 : Nat → Heap → Prop}
theorem zipNextItem {k : Nat} {a b : Value} {Q : Value → Shared → Prop} (D : ZA z TI TO i1 i2 f1 f2) (D1 : Draws prog w A i1 f1 n1 P1 St1) (D2 : Draws prog w A i2 f2 n2 P2 St2)
    (hz : IsZip s.heap z TI TO .none) (hTI : IsPair s.heap TI (.ref i1) (.ref i2)) (hTO : IsPair s.heap TO a b)
    (h1 : St1 k s.heap) (h2 : St2 k s.heap) (hk1 : k < n1) (hk2 : k < n2)
    (hQ : ∀ x y h' tk, P1 k x → P2 k y → IsZip h' z TI TO (rawInt s.heap.objs.size) → IsPair h' TO x y → St1 (k + 1) h' → St2 (k + 1) h' → IsPair h' s.heap.objs.size x y → h'.objs.size = s.heap.objs.size + 1 →
      (∀ c o, c ≠ z → c ≠ TO → c ≠ i1 → c ≠ i2 → s.heap.get? c = some o → h'.get? c = some o) → Q (.ref s.heap.objs.size) { s with heap := h', toks := tk }) :
    wpAny (model prog w) A (Builtin.«zip.__next__» ⟨[.ref z], []⟩) (fun fin s' => ∃ v, fin = .done (.ret v) ∧ Q v s') E s := by
  show wpAny _ _ (field (.ref z) 2 >>= _) _ _ _
  refine wpAny_bind (wpAny_field hz rfl (x := .bool false) rfl ?_)
  show wpAny _ _ (field (.ref z) 3 >>= _) _ _ _
  refine wpAny_bind (wpAny_field hz rfl (x := .ref TI) rfl ?_)
  refine wpAny_bind (wpAny_seqItems hTI rfl ?_)
  show wpAny _ _ (Builtin.SmallTypes.ownedTupleIsFree (.ref z) >>= _) _ _ _
  refine wpAny_bind ?_
  unfold Builtin.SmallTypes.ownedTupleIsFree
  refine wpAny_bind (wpAny_field hz rfl (x := .none) rfl (wpAny_pure ?_))
  simp only [if_true]
  refine wpAny_bind (wpAny_rule ?_)
  refine wpAny_bind (wpAny_field hz rfl (x := .ref TO) rfl ?_)
  refine wpAny_bind (wpAny_setField_rec hz (by simp) fun h₁ hz₁ hs₁ => ?_)
  replace hz₁ : IsZip h₁ z TI TO .ellipsis := hz₁
  refine wpAny_bind ?_
  simp only [List.zipIdx_cons, List.zipIdx_nil, List.forIn_cons, List.forIn_nil]
  refine wpAny_bind (wpAny_bind (wpAny_onRaise ?_))
  show wpAny _ _ (Builtin.SmallTypes.nextOf (.ref i1) >>= _) _ _ _
  refine wpAny_bind (D1.item k _ _ _ hk1 (D1.frame _ _ _ h1 fun b hb o e => hs₁.extBut b o (fun x => D.z1 (x ▸ hb)) e) fun x h₂ tk₂ hx h1₂ hs₂ => wpAny_pure ?_)
  dsimp only at hs₂
  have hTO₂ : IsPair h₂ TO a b := hs₂.extBut _ _ D.TOi1 (hs₁.extBut _ _ D.TOz hTO)
  refine wpAny_bind (wpAny_seqItems hTO₂ rfl ?_)
  refine wpAny_bind (wpAny_updateSeq_pair hTO₂ fun h₃ hTO₃ hs₃ => ?_)
  replace hTO₃ : IsPair h₃ TO x b := hTO₃
  dsimp only at hs₃
  refine wpAny_bind (wpAny_letGo (wpAny_pure ?_))
  refine wpAny_bind (wpAny_bind (wpAny_onRaise ?_))
  show wpAny _ _ (Builtin.SmallTypes.nextOf (.ref i2) >>= _) _ _ _
  refine wpAny_bind (D2.item k _ _ _ hk2 (D2.frame _ _ _ h2 fun b hb o e => hs₃.extBut b o (fun x => D.T2 (x ▸ hb)) (hs₂.extBut b o (fun x => D.x1 (x ▸ hb)) (hs₁.extBut b o (fun x => D.z2 (x ▸ hb)) e))) fun y h₄ tk₄ hy h2₄ hs₄ => wpAny_pure ?_)
  dsimp only at hs₄
  have hTO₄ : IsPair h₄ TO x b := hs₄.extBut _ _ D.TOi2 hTO₃
  refine wpAny_bind (wpAny_seqItems hTO₄ rfl ?_)
  refine wpAny_bind (wpAny_updateSeq_pair hTO₄ fun h₅ hTO₅ hs₅ => ?_)
  replace hTO₅ : IsPair h₅ TO x y := hTO₅
  dsimp only at hs₅
  refine wpAny_bind (wpAny_letGo (wpAny_pure (wpAny_pure ?_)))
  refine wpAny_bind (wpAny_seqItems hTO₅ rfl ?_)
  refine wpAny_bind (wpAny_newTuple ?_)
  have hsz : h₅.objs.size = s.heap.objs.size := by rw [hs₅.1, hs₄.1, hs₃.1, hs₂.1, hs₁.1]
  have hz₅ : IsZip h₅ z TI TO .ellipsis := hs₅.extBut _ _ D.TOz.symm (hs₄.extBut _ _ D.i2z.symm (hs₃.extBut _ _ D.TOz.symm (hs₂.extBut _ _ D.i1z.symm hz₁)))
  have hk₅ : ∀ c o, c ≠ z → c ≠ TO → c ≠ i1 → c ≠ i2 → s.heap.get? c = some o → h₅.get? c = some o := fun c o c1 c2 c3 c4 e =>
    hs₅.extBut _ _ c2 (hs₄.extBut _ _ c4 (hs₃.extBut _ _ c2 (hs₂.extBut _ _ c3 (hs₁.extBut _ _ c1 e))))
  have h1₅ : St1 (k + 1) h₅ := D1.frame _ _ _ h1₂ fun b hb o e => hs₅.extBut b o (fun x => D.T1 (x ▸ hb)) (hs₄.extBut b o (fun x => D.x2 (x ▸ hb)) (hs₃.extBut b o (fun x => D.T1 (x ▸ hb)) e))
  have h2₅ : St2 (k + 1) h₅ := D2.frame _ _ _ h2₄ fun b hb o e => hs₅.extBut b o (fun x => D.T2 (x ▸ hb)) e
  have hzlt : z < h₅.objs.size := Heap.lt_size hz₅
  have hTOlt : TO < h₅.objs.size := Heap.lt_size hTO₅
  show wpAny _ _ (Builtin.SmallTypes.ownedTupleHandOut (.ref z) (.ref h₅.objs.size) >>= _) _ _ _
  refine wpAny_bind ?_
  unfold Builtin.SmallTypes.ownedTupleHandOut
  have hz₆ : IsZip (h₅.push { cls := .type "tuple", data := .seq #[x, y] }) z TI TO .ellipsis := Heap.get?_push_of_some _ hz₅
  refine wpAny_bind (wpAny_setField_rec hz₆ (by simp) fun h₇ hz₇ hs₇ => ?_)
  replace hz₇ : IsZip h₇ z TI TO (rawInt h₅.objs.size) := hz₇
  refine wpAny_setField_rec hz₇ (by simp) fun h₈ hz₈ hs₈ => ?_
  replace hz₈ : IsZip h₈ z TI TO (rawInt h₅.objs.size) := hz₈
  have up : ∀ c o, c ≠ z → h₅.get? c = some o → h₈.get? c = some o := fun c o c1 e => hs₈.extBut _ _ c1 (hs₇.extBut _ _ c1 (Heap.get?_push_of_some _ e))
  have hT₈ : IsPair h₈ h₅.objs.size x y := hs₈.extBut _ _ (Nat.ne_of_gt hzlt) (hs₇.extBut _ _ (Nat.ne_of_gt hzlt) (Heap.get?_push_size _ rfl))
  have hz8 : h₈.objs.size = h₅.objs.size + 1 := by rw [hs₈.1, hs₇.1, Heap.size_push]
  rw [hsz] at hz₈ hT₈ hz8
  refine wpAny_pure ⟨_, rfl, ?_⟩
  show Q (.ref h₅.objs.size) _
  rw [hsz]
  exact hQ x y h₈ _ hx hy hz₈ (up _ _ D.TOz hTO₅) (D1.frame _ _ _ h1₅ fun b hb o e => up b o (fun x => D.z1 (x ▸ hb)) e) (D2.frame _ _ _ h2₅ fun b hb o e => up b o (fun x => D.z2 (x ▸ hb)) e) hT₈ hz8 fun c o c1 c2 c3 c4 e => up c o c1 (hk₅ c o c1 c2 c3 c4 e)
theorem zipNextEnd {k : Nat} {a b : Value} {Q : Fin → Shared → Prop} (D : ZA z TI TO i1 i2 f1 f2) (D1 : Draws prog w A i1 f1 n1 P1 St1) (D2 : Draws prog w A i2 f2 n2 P2 St2)
    (hz : IsZip s.heap z TI TO .none) (hTI : IsPair s.heap TI (.ref i1) (.ref i2)) (hTO : IsPair s.heap TO a b)
    (h1 : St1 k s.heap) (h2 : St2 k s.heap) (hend : k = n1 ∨ k < n1 ∧ k = n2)
    (hE : ∀ h' tk e, (∀ c o, c ≠ z → c ≠ TO → c ≠ i1 → c ≠ i2 → s.heap.get? c = some o → h'.get? c = some o) → (∃ o, h'.get? e = some o ∧ o.cls = .type "StopIteration") → E (.ref e) { s with heap := h', toks := tk }) :
    wpAny (model prog w) A (Builtin.«zip.__next__» ⟨[.ref z], []⟩) Q E s := by
  show wpAny _ _ (field (.ref z) 2 >>= _) _ _ _
  refine wpAny_bind (wpAny_field hz rfl (x := .bool false) rfl ?_)
  show wpAny _ _ (field (.ref z) 3 >>= _) _ _ _
  refine wpAny_bind (wpAny_field hz rfl (x := .ref TI) rfl ?_)
  refine wpAny_bind (wpAny_seqItems hTI rfl ?_)
  show wpAny _ _ (Builtin.SmallTypes.ownedTupleIsFree (.ref z) >>= _) _ _ _
  refine wpAny_bind ?_
  unfold Builtin.SmallTypes.ownedTupleIsFree
  refine wpAny_bind (wpAny_field hz rfl (x := .none) rfl (wpAny_pure ?_))
  simp only [if_true]
  refine wpAny_bind (wpAny_rule ?_)
  refine wpAny_bind (wpAny_field hz rfl (x := .ref TO) rfl ?_)
  refine wpAny_bind (wpAny_setField_rec hz (by simp) fun h₁ hz₁ hs₁ => ?_)
  replace hz₁ : IsZip h₁ z TI TO .ellipsis := hz₁
  refine wpAny_bind ?_
  simp only [List.zipIdx_cons, List.zipIdx_nil, List.forIn_cons, List.forIn_nil]
  refine wpAny_bind (wpAny_bind (wpAny_onRaise ?_))
  show wpAny _ _ (Builtin.SmallTypes.nextOf (.ref i1) >>= _) _ _ _
  have h1₁ : St1 k h₁ := D1.frame _ _ _ h1 fun b hb o e => hs₁.extBut b o (fun x => D.z1 (x ▸ hb)) e
  rcases hend with hk | ⟨hk1, hk⟩
  · subst hk
    refine wpAny_bind (D1.done _ _ _ h1₁ fun h₂ e hs₂ he => ?_)
    obtain ⟨oe, hoe, hce⟩ := he
    have hz₂ : IsZip h₂ z TI TO .ellipsis := hs₂ _ _ D.i1z.symm hz₁
    have hez : e ≠ z := fun x => by subst x; rw [hz₂] at hoe; cases hoe; simp at hce
    refine wpAny_setField_rec hz₂ (by simp) fun h₃ _ hs₃ => hE h₃ _ e (fun c o c1 _ c3 _ x => hs₃.extBut _ _ c1 (hs₂ _ _ c3 (hs₁.extBut _ _ c1 x))) ⟨oe, hs₃.extBut _ _ hez hoe, hce⟩
  · subst hk
    refine wpAny_bind (D1.item k _ _ _ hk1 h1₁ fun x h₂ tk₂ hx h1₂ hs₂ => wpAny_pure ?_)
    dsimp only at hs₂
    have hTO₂ : IsPair h₂ TO a b := hs₂.extBut _ _ D.TOi1 (hs₁.extBut _ _ D.TOz hTO)
    refine wpAny_bind (wpAny_seqItems hTO₂ rfl ?_)
    refine wpAny_bind (wpAny_updateSeq_pair hTO₂ fun h₃ hTO₃ hs₃ => ?_)
    dsimp only at hs₃
    refine wpAny_bind (wpAny_letGo (wpAny_pure ?_))
    refine wpAny_bind (wpAny_bind (wpAny_onRaise ?_))
    show wpAny _ _ (Builtin.SmallTypes.nextOf (.ref i2) >>= _) _ _ _
    refine wpAny_bind (D2.done _ _ _ (D2.frame _ _ _ h2 fun b hb o e => hs₃.extBut b o (fun x => D.T2 (x ▸ hb)) (hs₂.extBut b o (fun x => D.x1 (x ▸ hb)) (hs₁.extBut b o (fun x => D.z2 (x ▸ hb)) e))) fun h₄ e hs₄ he => ?_)
    obtain ⟨oe, hoe, hce⟩ := he
    have hz₄ : IsZip h₄ z TI TO .ellipsis := hs₄ _ _ D.i2z.symm (hs₃.extBut _ _ D.TOz.symm (hs₂.extBut _ _ D.i1z.symm hz₁))
    have hez : e ≠ z := fun x => by subst x; rw [hz₄] at hoe; cases hoe; simp at hce
    refine wpAny_setField_rec hz₄ (by simp) fun h₅ _ hs₅ => hE h₅ _ e (fun c o c1 c2 c3 c4 x => hs₅.extBut _ _ c1 (hs₄ _ _ c4 (hs₃.extBut _ _ c2 (hs₂.extBut _ _ c3 (hs₁.extBut _ _ c1 x))))) ⟨oe, hs₅.extBut _ _ hez hoe, hce⟩
end
end Mine
end

section
open PySem PySem.Calls PySem.W PyProof.Rows
open PySem.Builtin
set_option maxHeartbeats 4000000
namespace Mine
section
variable {w : World} {A : Around} {E : Value → Shared → Prop} {s : Shared}
variable {z TI TO i1 i2 : Addr} {f1 f2 : List Addr} {n1 n2 : Nat} {P1 P2 : Nat → Value → Prop} {St1 St2 : Nat → Heap → Prop}
noncomputable abbrev PtZ (P1 P2 : Nat → Value → Prop) (i : Nat) (vals : Array Value) : Prop := ∃ x y, P1 i x ∧ P2 i y ∧ vals = #[x, y]
noncomputable abbrev StZ (z TI TO i1 i2 : Addr) (St1 St2 : Nat → Heap → Prop) (i : Nat) (h : Heap) : Prop := IsZip h z TI TO .none ∧ IsPair h TI (.ref i1) (.ref i2) ∧ (∃ a b, IsPair h TO a b) ∧ St1 i h ∧ St2 i h
noncomputable abbrev MidZ (z TI TO i1 i2 : Addr) (St1 St2 : Nat → Heap → Prop) (i : Nat) (T : Addr) (h : Heap) : Prop := IsZip h z TI TO (rawInt T) ∧ IsPair h TI (.ref i1) (.ref i2) ∧ (∃ a b, IsPair h TO a b) ∧ St1 (i + 1) h ∧ St2 (i + 1) h ∧ T ≠ z ∧ T ≠ TO ∧ T ≠ i1 ∧ T ≠ i2
theorem walksZip (D : ZA z TI TO i1 i2 f1 f2) (D1 : Draws PP w A.in1 i1 f1 n1 P1 St1) (D2 : Draws PP w A.in1 i2 f2 n2 P2 St2) :
    WalksT PP w A z ([z, TI, TO, i1, i2] ++ f1 ++ f2) [z, TO, i1, i2] (min n1 n2) (PtZ P1 P2) (StZ z TI TO i1 i2 St1 St2) (MidZ z TI TO i1 i2 St1 St2) where
  sub := fun c hc => by simp at hc ⊢; rcases hc with rfl | rfl | rfl | rfl <;> simp
  frame := fun i h h' hst hk => by
    obtain ⟨hz, hTI, ⟨a, b, hTO⟩, h1, h2⟩ := hst
    exact ⟨hk z (by simp) _ hz, hk TI (by simp) _ hTI, ⟨a, b, hk TO (by simp) _ hTO⟩, D1.frame _ _ _ h1 fun b hb o e => hk b (by simp [hb]) o e, D2.frame _ _ _ h2 fun b hb o e => hk b (by simp [hb]) o e⟩
  item := fun i s Q E hi hst hQ => by
    obtain ⟨hz, hTI, ⟨a, b, hTO⟩, h1, h2⟩ := hst
    have hT : s.TypeIs (.ref z) "zip" := ⟨_, hz, rfl⟩
    have lt : ∀ {c o}, s.heap.get? c = some o → s.heap.objs.size ≠ c := fun e => Nat.ne_of_gt (Heap.lt_size e)
    unfold pyNext
    refine wpAny_bind (wpAny_attempt (wpAny_callSpecial?_slot (name := Str.ofString "__next__") hT F.slot_zip_next
      (wpAny_call_entry F.slot_zip_next hT F.entry_zip_next
        (zipNextItem D D1 D2 hz hTI hTO h1 h2 (Nat.lt_of_lt_of_le hi (Nat.min_le_left ..)) (Nat.lt_of_lt_of_le hi (Nat.min_le_right ..)) fun x y h' tk a0 a0' a1 a2 a3 a4 a5 a6 hk => wpAny_pure ?_) (F.args_zip_next_1 _))))
    refine hQ s.heap.objs.size #[x, y] h' tk ⟨_, _, a0, a0', rfl⟩ (Nat.le_refl _) ⟨_, a5, rfl, _, rfl⟩
      ⟨a1, hk _ _ D.TIz D.TITO D.TIi1 D.TIi2 hTI, ⟨_, _, a2⟩, a3, a4, lt hz, lt hTO, (by obtain ⟨_, e⟩ := D1.live _ _ h1; exact lt e), (by obtain ⟨_, e⟩ := D2.live _ _ h2; exact lt e)⟩
      fun c o hc e => hk c o (fun x => hc (by simp [x])) (fun x => hc (by simp [x])) (fun x => hc (by simp [x])) (fun x => hc (by simp [x])) e
  go := fun elts k pos i T s Q E hm hQ => by
    obtain ⟨hz, hTI, ⟨a, b, hTO⟩, h1, h2, _⟩ := hm
    refine wpAny_letOwnedTupleGo_zip hz fun h' hz' hs' => hQ h' ⟨hz', hs'.extBut _ _ D.TIz hTI, ⟨a, b, hs'.extBut _ _ D.TOz hTO⟩, D1.frame _ _ _ h1 fun b hb o e => hs'.extBut _ _ (fun x => D.z1 (x ▸ hb)) e,
      D2.frame _ _ _ h2 fun b hb o e => hs'.extBut _ _ (fun x => D.z2 (x ▸ hb)) e⟩ fun c o hc e => hs'.extBut _ _ (fun x => hc (by simp [x])) e
  apart := fun i T h hm hT => by
    obtain ⟨_, _, _, _, _, t1, t2, t3, t4⟩ := hm
    simp at hT
    rcases hT with rfl | rfl | rfl | rfl
    · exact t1 rfl
    · exact t2 rfl
    · exact t3 rfl
    · exact t4 rfl
  done := fun s Q E hst hQ => by
    obtain ⟨hz, hTI, ⟨a, b, hTO⟩, h1, h2⟩ := hst
    have hend : min n1 n2 = n1 ∨ min n1 n2 < n1 ∧ min n1 n2 = n2 := by walk_at "om"
    have hT : s.TypeIs (.ref z) "zip" := ⟨_, hz, rfl⟩
    have lt : ∀ {c o}, s.heap.get? c = some o → s.heap.objs.size ≠ c := fun e => Nat.ne_of_gt (Heap.lt_size e)
    unfold pyNext
    refine wpAny_bind (wpAny_attempt (wpAny_callSpecial?_slot (name := Str.ofString "__next__") hT F.slot_zip_next
      (wpAny_call_entry F.slot_zip_next hT F.entry_zip_next (zipNextEnd D D1 D2 hz hTI hTO h1 h2 hend fun h' tk e hk he => ?_) (F.args_zip_next_1 _))))
    obtain ⟨o, ho, hc⟩ := he
    refine wpAny_bind (wpAny_isInstance (T := "StopIteration") (b := true) ⟨o, ho, hc⟩ isSubtype_stop ?_)
    exact wpAny_pure (hQ _ _ fun c o hc e => hk c o (fun x => hc (by simp [x])) (fun x => hc (by simp [x])) (fun x => hc (by simp [x])) (fun x => hc (by simp [x])) e)
  self := fun i s Q E hst hQ => wpAny_pyIter_zip hst.1 hQ
/-- what a zip can be made over -/
structure Src (w : World) (h : Heap) (v : Value) (fx : List Addr) (n : Nat) (P : Nat → Value → Prop) (o : Obj) (St : Addr → Nat → Heap → Prop) : Prop where
  iter : ∀ (prog : Program) (w : World) (A : Around) (E : Value → Shared → Prop) (s : Shared) (Q : Value → Shared → Prop), (∀ b o, h.get? b = some o → s.heap.get? b = some o) → Q (.ref s.heap.objs.size) { s with heap := s.heap.push o } → wpAny (model prog w) A (pyIter v) Q E s
  draws : ∀ (A : Around) (it : Addr), A.handled = none → (∀ b ∈ fx, b ≠ it) → Draws PP w A it (it :: fx) n P (St it)
  start : ∀ (it : Addr) (h' : Heap), h'.get? it = some o → (∀ b o, h.get? b = some o → h'.get? b = some o) → St it 0 h'
  old : ∀ b ∈ fx, b < h.objs.size
  live : o.isFreed = false
theorem Src.list {h : Heap} {l : Addr} {items : Array Value} (hl : h.IsList l items) : Src w h (.ref l) [l] items.size (fun i v => items[i]? = some v) { cls := .type "list_iterator", data := .fields #[.ref l, .int 0 0] } (fun it i h => h.IsListIter it l i ∧ h.IsList l items) where
  iter := fun _ _ A E s Q hk hQ => wpAny_pyIter_list (hl.at fun o e => hk _ o e) hQ
  draws := fun A it hh hne => Draws.list hh it l (hne l (by simp)) items
  start := fun it h' e hk => ⟨⟨_, e, rfl, rfl⟩, hl.at fun o e => hk _ o e⟩
  old := fun b hb => by simp at hb; subst hb; obtain ⟨_, e, _⟩ := hl; exact Heap.lt_size e
  live := rfl
theorem Src.tuple {h : Heap} {l : Addr} {items : Array Value} (hl : h.IsTuple l items) : Src w h (.ref l) [l] items.size (fun i v => items[i]? = some v) { cls := .type "tuple_iterator", data := .fields #[.ref l, .int 0 0] } (fun it i h => h.IsTupleIter it l i ∧ h.IsTuple l items) where
  iter := fun _ _ A E s Q hk hQ => wpAny_pyIter_tuple (let ⟨o, e, r⟩ := hl; ⟨o, hk _ o e, r⟩) hQ
  draws := fun A it hh hne => drawsTuple hh it l (hne l (by simp)) items
  start := fun it h' e hk => ⟨⟨_, e, rfl, rfl⟩, let ⟨o, e, r⟩ := hl; ⟨o, hk _ o e, r⟩⟩
  old := fun b hb => by simp at hb; subst hb; obtain ⟨_, e, _⟩ := hl; exact Heap.lt_size e
  live := rfl
theorem Src.str {h : Heap} (l : List Nat) (t : Tok) : ∃ o St, Src w h (.str (S l) t) [] l.length (fun i v => ∃ c u, l[i]? = some c ∧ v = .str (S [c]) u) o St := by
  cases ha : (S l).cps.all (· < 128)
  · refine ⟨_, fun it i h => h.IsStrIter it "str_iterator" (S l) t i, { iter := fun _ _ A E s Q hk hQ => wpAny_pyIter_wide ha hQ, draws := fun A it hh hne => ?_, start := fun it h' e hk => ⟨_, e, rfl, rfl⟩, old := (fun b hb => nomatch hb), live := rfl }⟩
    have := Draws.strWide (prog := PP) (w := w) hh it (S l) t
    simpa [S] using this
  · refine ⟨_, fun it i h => h.IsStrIter it "str_ascii_iterator" (S l) t i, { iter := fun _ _ A E s Q hk hQ => wpAny_pyIter_ascii ha hQ, draws := fun A it hh hne => ?_, start := fun it h' e hk => ⟨_, e, rfl, rfl⟩, old := (fun b hb => nomatch hb), live := rfl }⟩
    have := Draws.strAscii (prog := PP) (w := w) hh it (S l) t
    simpa [S] using this
theorem zipNew {v1 v2 : Value} {o1 o2 : Obj} {f1 f2 : List Addr} {T1 T2 : Addr → Nat → Heap → Prop} {h₀ : Heap} (S1 : Src w h₀ v1 f1 n1 P1 o1 T1) (S2 : Src w h₀ v2 f2 n2 P2 o2 T2) :
    Meets (Builtin.«zip.__new__» ⟨[.type "zip", v1, v2], []⟩) (fun _ R s => s.heap = h₀ ∧
      R (.ok (.ret (.ref (s.heap.objs.size + 4)))) { s with heap := ((((s.heap.push o1).push o2).push { cls := .type "tuple", data := .seq #[.ref s.heap.objs.size, .ref (s.heap.objs.size + 1)] }).push { cls := .type "tuple", data := .seq #[.none, .none] }).push { cls := .type "zip", data := .fields #[.none, .bool false, .bool false, .ref (s.heap.objs.size + 2), .ref (s.heap.objs.size + 3)] } }) :=
  .of_wp fun prog w A R s h => by
    obtain ⟨hp, g, d, tk, os⟩ := s; obtain ⟨hh, h⟩ := h
    dsimp only at hh; subst hh
    have hsub := sub_zip
    have hI1 : ∀ {A : Around} {E : Value → Shared → Prop} {s : Shared} {Q : Value → Shared → Prop}, (∀ b o, hp.get? b = some o → s.heap.get? b = some o) → Q (.ref s.heap.objs.size) { s with heap := s.heap.push o1 } → wpAny (model prog w) A (pyIter v1) Q E s := fun hk hQ => S1.iter _ _ _ _ _ _ hk hQ
    have hI2 : ∀ {A : Around} {E : Value → Shared → Prop} {s : Shared} {Q : Value → Shared → Prop}, (∀ b o, hp.get? b = some o → s.heap.get? b = some o) → Q (.ref s.heap.objs.size) { s with heap := s.heap.push o2 } → wpAny (model prog w) A (pyIter v2) Q E s := fun hk hQ => S2.iter _ _ _ _ _ _ hk hQ
    wp_walk using hI1 (fun b o e => e), hI2 (fun b o e => Heap.get?_push_of_some _ e)
    refine ⟨_, rfl, ?_⟩
    simp only [Heap.size_push]
    exact h
theorem zipCall {v1 v2 : Value} {o1 o2 : Obj} {f1 f2 : List Addr} {T1 T2 : Addr → Nat → Heap → Prop} {Q : Value → Shared → Prop} (S1 : Src w s.heap v1 f1 n1 P1 o1 T1) (S2 : Src w s.heap v2 f2 n2 P2 o2 T2)
    (hQ : ∀ (h' : Heap) (St : Nat → Heap → Prop) (Mid : Nat → Addr → Heap → Prop), (∀ (A' : Around), A'.handled = none → WalksT PP w A' (s.heap.objs.size + 4) ([s.heap.objs.size + 4, s.heap.objs.size + 2, s.heap.objs.size + 3, s.heap.objs.size, s.heap.objs.size + 1] ++ (s.heap.objs.size :: f1) ++ ((s.heap.objs.size + 1) :: f2)) [s.heap.objs.size + 4, s.heap.objs.size + 3, s.heap.objs.size, s.heap.objs.size + 1] (min n1 n2) (PtZ P1 P2) St Mid) →
      St 0 h' → h'.objs.size = s.heap.objs.size + 5 → (∀ b o, s.heap.get? b = some o → h'.get? b = some o) → (∀ i h, St i h → s.heap.objs.size + 4 < h.objs.size) → Q (.ref (s.heap.objs.size + 4)) { s with heap := h' }) :
    wpAny (model PP w) A (call (.type "zip") [v1, v2]) Q E s := by
  refine callType_new F.called_zip (by decide) (F.typeCall_zip_2 _ _) (F.newCall_zip_2 _ _) (fun obj => F.args_object_init_3 obj _ _) F.entry_zip_new (zipNew S1 S2) ⟨rfl, ?_⟩
  have q1 := S1.live
  have q2 := S2.live
  have g0 : ∀ {h : Heap} {o : Obj} {n : Nat}, h.objs.size = n → o.isFreed = false → (h.push o).get? n = some o := fun e f => by subst e; exact Heap.get?_push_size _ f
  have k1 : ∀ c o, s.heap.get? c = some o → (s.heap.push o1).get? c = some o := fun c o e => Heap.get?_push_of_some _ e
  show _ ∧ _
  refine ⟨⟨_, g0 (by simp [Heap.size_push]) rfl, rfl⟩, ?_⟩
  refine hQ _ (StZ (s.heap.objs.size + 4) (s.heap.objs.size + 2) (s.heap.objs.size + 3) s.heap.objs.size (s.heap.objs.size + 1) (T1 s.heap.objs.size) (T2 (s.heap.objs.size + 1))) _ (fun A' hA => walksZip ?_ (S1.draws _ _ hA fun b hb => Nat.ne_of_lt (S1.old b hb)) (S2.draws _ _ hA fun b hb => Nat.ne_of_lt (Nat.lt_succ_of_lt (S2.old b hb)))) ?_ (by simp [Heap.size_push]) (fun c o x =>
    Heap.get?_push_of_some _ (Heap.get?_push_of_some _ (Heap.get?_push_of_some _ (Heap.get?_push_of_some _ (Heap.get?_push_of_some _ x))))) (fun i h st => Heap.lt_size st.1)
  · have e1 : ∀ b ∈ f1, b < s.heap.objs.size := S1.old
    have e2 : ∀ b ∈ f2, b < s.heap.objs.size := S2.old
    constructor <;> first
      | (show @Ne Nat _ _; walk_at "om")
      | (intro hb; rcases List.mem_cons.mp hb with e | e
         · exact absurd (show @Eq Nat _ _ from e) (by walk_at "om")
         · have := e1 _ e; exact absurd (show @LT.lt Nat _ _ _ from this) (by walk_at "om"))
      | (intro hb; rcases List.mem_cons.mp hb with e | e
         · exact absurd (show @Eq Nat _ _ from e) (by walk_at "om")
         · have := e2 _ e; exact absurd (show @LT.lt Nat _ _ _ from this) (by walk_at "om"))
  · refine ⟨g0 (by simp [Heap.size_push]) rfl, Heap.get?_push_of_some _ (Heap.get?_push_of_some _ (g0 (by simp [Heap.size_push]) rfl)), ⟨_, _, Heap.get?_push_of_some _ (g0 (by simp [Heap.size_push]) rfl)⟩, S1.start _ _ ?_ ?_, S2.start _ _ ?_ ?_⟩
    · exact Heap.get?_push_of_some _ (Heap.get?_push_of_some _ (Heap.get?_push_of_some _ (Heap.get?_push_of_some _ (g0 rfl q1))))
    · exact fun c o x => Heap.get?_push_of_some _ (Heap.get?_push_of_some _ (Heap.get?_push_of_some _ (Heap.get?_push_of_some _ (Heap.get?_push_of_some _ x))))
    · exact Heap.get?_push_of_some _ (Heap.get?_push_of_some _ (Heap.get?_push_of_some _ (g0 (by simp [Heap.size_push]) q2)))
    · exact fun c o x => Heap.get?_push_of_some _ (Heap.get?_push_of_some _ (Heap.get?_push_of_some _ (Heap.get?_push_of_some _ (Heap.get?_push_of_some _ x))))
end
/-- the addresses of a zip -/
theorem zwLe {n : Nat} : ∀ b ∈ ([n + 4, n + 3, n, n + 1] : List Addr), @LE.le Nat _ n b := by
  intro b hb
  simp only [List.mem_cons, List.not_mem_nil, or_false] at hb
  have hb' : @Eq Nat b (n + 4) ∨ @Eq Nat b (n + 3) ∨ @Eq Nat b n ∨ @Eq Nat b (n + 1) := hb
  walk_at "om"
theorem zwNot {n b : Nat} (h : b < n) : ¬ (b : Addr) ∈ ([n + 4, n + 3, n, n + 1] : List Addr) := fun hb => Nat.not_lt.mpr (zwLe b hb) h
theorem zf9 {n a1 a2 : Nat} : ∀ b ∈ ([n + 4, n + 2, n + 3, n, n + 1] ++ (n :: [a1]) ++ ((n + 1) :: [a2]) : List Addr), (@LE.le Nat _ n b ∧ @LT.lt Nat _ b (n + 5)) ∨ @Eq Nat b a1 ∨ @Eq Nat b a2 := by
  intro b hb
  simp only [List.cons_append, List.nil_append, List.mem_cons, List.not_mem_nil, or_false] at hb
  have hb' : @Eq Nat b (n + 4) ∨ @Eq Nat b (n + 2) ∨ @Eq Nat b (n + 3) ∨ @Eq Nat b n ∨ @Eq Nat b (n + 1) ∨ @Eq Nat b n ∨ @Eq Nat b a1 ∨ @Eq Nat b (n + 1) ∨ @Eq Nat b a2 := hb
  walk_at "om"
theorem zf8 {n a2 : Nat} : ∀ b ∈ ([n + 4, n + 2, n + 3, n, n + 1] ++ (n :: []) ++ ((n + 1) :: [a2]) : List Addr), (@LE.le Nat _ n b ∧ @LT.lt Nat _ b (n + 5)) ∨ @Eq Nat b a2 := by
  intro b hb
  simp only [List.cons_append, List.nil_append, List.mem_cons, List.not_mem_nil, or_false] at hb
  have hb' : @Eq Nat b (n + 4) ∨ @Eq Nat b (n + 2) ∨ @Eq Nat b (n + 3) ∨ @Eq Nat b n ∨ @Eq Nat b (n + 1) ∨ @Eq Nat b n ∨ @Eq Nat b (n + 1) ∨ @Eq Nat b a2 := hb
  walk_at "om"
theorem zfLt {n a1 a2 : Nat} (h1 : a1 < n) (h2 : a2 < n) : ∀ b ∈ ([n + 4, n + 2, n + 3, n, n + 1] ++ (n :: [a1]) ++ ((n + 1) :: [a2]) : List Addr), @LT.lt Nat _ b (n + 5) := by
  intro b hb
  have := zf9 b hb
  walk_at "om"
theorem zfNe {n a1 a2 L : Nat} (hL : L < n) (h1 : a1 < L) (h2 : a2 < L) : ¬ (L : Addr) ∈ ([n + 4, n + 2, n + 3, n, n + 1] ++ (n :: [a1]) ++ ((n + 1) :: [a2]) : List Addr) := by
  intro hb
  have := zf9 L hb
  walk_at "om"
theorem zwSub {n a1 a2 : Nat} : ∀ b ∈ ([n + 4, n + 3, n, n + 1] : List Addr), b ∈ ([n + 4, n + 2, n + 3, n, n + 1] ++ (n :: [a1]) ++ ((n + 1) :: [a2]) : List Addr) := by
  intro b hb
  simp only [List.mem_cons, List.not_mem_nil, or_false] at hb
  rcases hb with rfl | rfl | rfl | rfl <;> simp
end Mine
end

section
open PySem PySem.Calls PySem.W PyProof.Rows
namespace Mine
section
variable {w : World} {A : Around} {env : Env} {R : Result → Shared → Prop} {s : Shared} {I : Addr} {fp wr : List Addr} {n : Nat} {P1 P2 : Nat → Value → Prop} {St : Nat → Heap → Prop} {Mid : Nat → Addr → Heap → Prop} {body orelse : List Stmt}
theorem forZ {x1 x2 : Str} {p1 p2 tp : Pos} {k : Nat} (hA : A.handled = none) (W : WalksT PP w A I fp wr n (PtZ P1 P2) St Mid) (Inv : Nat → Shared → Prop) (h0 : Inv 0 s) (st0 : St 0 s.heap)
    (stable : ∀ i (s' : Shared) h' tk, Inv i s' → (∀ b o, b ∉ wr → s'.heap.get? b = some o → h'.get? b = some o) → s'.toks ≤ tk → Inv i { s' with heap := h', toks := tk })
    (step : ∀ i x y (s' : Shared) (E' : Value → Shared → Prop), i < n → P1 i x → P2 i y → Inv i s' → St (i + 1) s'.heap →
      wpAny (model PP w) A (storeName env x1 x) (fun _ s₁ => wpAny (model PP w) A (storeName env x2 y) (fun _ s₂ => wpAny (model PP w) A (execs body env) (Turned Inv St R i) E' s₂) E' s₁) E' s')
    (fin : ∀ (s' : Shared) (E' : Value → Shared → Prop), Inv n s' → wpAny (model PP w) A (execs orelse env) (fun f s₃ => R (.ok f) s₃) E' s') :
    codeAny (model PP w) A (.forLoop (.Tuple [.Name x1 p1, .Name x2 p2] k tp) (.ref I) body orelse env) R s := by
  refine codeAny_forLoop_any (fun k s' => ∃ i, Inv i s' ∧ St i s'.heap ∧ i ≤ n ∧ k = n + 1 - i) ?_ (n + 1) ⟨0, h0, st0, Nat.zero_le _, rfl⟩
  rintro k s' ⟨i, hI, hst, hi, rfl⟩
  by_cases hlt : i < n
  · refine wpAny_with_toks (Nat.le_refl _) (W.item i _ _ _ hlt hst fun T vals h' tk hP hBT hT hMid hk htk' => ?_)
    dsimp only at htk'
    obtain ⟨x, y, hx, hy, rfl⟩ := hP
    refine W.go _ _ _ i T _ _ _ hMid fun h6 hst6 hk6 => ?_
    have hT6 : h6.IsTuple T #[x, y] := by
      obtain ⟨o, ho, r⟩ := hT; exact ⟨o, hk6 _ _ (W.apart _ _ _ hMid) ho, r⟩
    refine assign2 hA hT6 fun h7 hx7 => ?_
    dsimp only at hx7 hk6
    have k67 : ∀ b o, h6.get? b = some o → h7.get? b = some o := fun b o e => hx7 b o (Nat.ne_of_lt (Heap.lt_size e)) e
    have hI7 := stable i s' h7 tk hI (fun b o hb e => k67 b o (hk6 b o hb (hk b o hb e))) htk'
    refine wpAny_mono (step i x y _ _ hlt hx hy hI7 (W.frame _ _ _ hst6 fun b _ o e => k67 b o e)) (fun _ s₂ h₂ => wpAny_mono h₂ (fun _ s₃ h₃ => wpAny_mono h₃ (fun f s₄ h₄ => ?_) fun _ _ e => e) fun _ _ e => e) fun _ _ e => e
    cases f with
    | next => exact ⟨n + 1 - (i + 1), by walk_at "om", i + 1, h₄.1, h₄.2, hlt, rfl⟩
    | cont => exact ⟨n + 1 - (i + 1), by walk_at "om", i + 1, h₄.1, h₄.2, hlt, rfl⟩
    | brk => exact h₄
    | ret v => exact h₄
  · obtain rfl : i = n := by walk_at "om"
    refine wpAny_with_toks (Nat.le_refl _) (W.done _ _ _ hst fun h' tk hk htk' => fin _ _ (stable _ s' h' tk hI hk htk'))
theorem letOwned_tupiter {elts : List Expr} {k : Nat} {pos : Pos} {a t T : Addr} {g : Nat} {Q : Unit → Shared → Prop} {E : Value → Shared → Prop} (hg : s.heap.IsTupleIter a t g) (hQ : Q () s) :
    wpAny (model PP w) A (letOwnedTupleGo (.Tuple elts k pos) (.ref a) (.ref T)) Q E s := by
  obtain ⟨o, ho, hc, hd⟩ := hg
  unfold letOwnedTupleGo
  refine wpAny_bind (wpAny_load ho ?_)
  rw [hc, hd]
  show wpAny _ A (if (["enumerate", "zip", "dict_itemiterator", "dict_reverseitemiterator", "odict_iterator", "itertools.zip_longest", "itertools.pairwise"].contains "tuple_iterator" &&
      (#[.ref t, .int g 0] : Array Value)[0]? == some (rawInt T)) = true then _ else _) Q E s
  rw [if_neg (by
    intro h
    rw [show (["enumerate", "zip", "dict_itemiterator", "dict_reverseitemiterator", "odict_iterator", "itertools.zip_longest", "itertools.pairwise"].contains "tuple_iterator") = false from by decide, Bool.false_and] at h
    cases h)]
  exact wpAny_pure hQ
/-- a loop over a tuple of pairs -/
theorem forPairs {x1 x2 : Str} {p1 p2 tp : Pos} {k : Nat} {t : Addr} {items : Array Value} (hA : A.handled = none) (hIt : t ≠ I) (Inv : Nat → Shared → Prop) (h0 : Inv 0 s) (st0 : s.heap.IsTupleIter I t 0) (ht : s.heap.IsTuple t items)
    (pairs : ∀ i s', Inv i s' → i < items.size → ∃ T x y, items[i]? = some (.ref T) ∧ P1 i x ∧ P2 i y ∧ s'.heap.IsTuple T #[x, y])
    (stable : ∀ i (s' : Shared) h' tk, Inv i s' → (∀ b o, b ≠ I → s'.heap.get? b = some o → h'.get? b = some o) → s'.toks ≤ tk → Inv i { s' with heap := h', toks := tk })
    (step : ∀ i x y (s' : Shared) (E' : Value → Shared → Prop), i < items.size → P1 i x → P2 i y → Inv i s' → s'.heap.IsTupleIter I t (i + 1) ∧ s'.heap.IsTuple t items →
      wpAny (model PP w) A (storeName env x1 x) (fun _ s₁ => wpAny (model PP w) A (storeName env x2 y) (fun _ s₂ => wpAny (model PP w) A (execs body env) (Turned Inv (fun i h => h.IsTupleIter I t i ∧ h.IsTuple t items) R i) E' s₂) E' s₁) E' s')
    (fin : ∀ (s' : Shared) (E' : Value → Shared → Prop), Inv items.size s' → wpAny (model PP w) A (execs orelse env) (fun f s₃ => R (.ok f) s₃) E' s') :
    codeAny (model PP w) A (.forLoop (.Tuple [.Name x1 p1, .Name x2 p2] k tp) (.ref I) body orelse env) R s := by
  refine codeAny_forLoop_any (fun k s' => ∃ i, Inv i s' ∧ (s'.heap.IsTupleIter I t i ∧ s'.heap.IsTuple t items) ∧ i ≤ items.size ∧ k = items.size + 1 - i) ?_ (items.size + 1) ⟨0, h0, ⟨st0, ht⟩, Nat.zero_le _, rfl⟩
  rintro k s' ⟨i, hI, hst, hi, rfl⟩
  by_cases hlt : i < items.size
  · obtain ⟨T, x, y, hT, hx, hy, hTT⟩ := pairs i s' hI hlt
    refine wpAny_pyNext_tuple_item hst.1 hst.2 hT fun h6 hit6 hs6 => ?_
    refine letOwned_tupiter hit6 ?_
    have hTI : T ≠ I := by
      rintro rfl
      obtain ⟨o, e1, c1, _⟩ := hTT
      obtain ⟨o', e2, c2, _⟩ := hst.1
      rw [e1] at e2; cases e2; rw [c1] at c2; simp at c2
    have hT6 : h6.IsTuple T #[x, y] := hTT.extBut hs6.extBut hTI
    refine assign2 hA hT6 fun h7 hx7 => ?_
    dsimp only at hx7
    have k67 : ∀ b o, h6.get? b = some o → h7.get? b = some o := fun b o e => hx7 b o (Nat.ne_of_lt (Heap.lt_size e)) e
    have hI7 := stable i s' h7 s'.toks hI (fun b o hb e => k67 b o ((hs6.2 b hb).trans e)) (Nat.le_refl _)
    refine wpAny_mono (step i x y _ _ hlt hx hy hI7 ⟨hit6.extBut (b := h6.objs.size) (fun b o hb e => k67 b o e) (by obtain ⟨o, e, _⟩ := hit6; exact Nat.ne_of_lt (Heap.lt_size e)), (hst.2.extBut hs6.extBut hIt).extBut (b := h6.objs.size) (fun b o hb e => k67 b o e) (by obtain ⟨o, e, _⟩ := hst.2.extBut hs6.extBut hIt; exact Nat.ne_of_lt (Heap.lt_size e))⟩)
      (fun _ s₂ h₂ => wpAny_mono h₂ (fun _ s₃ h₃ => wpAny_mono h₃ (fun f s₄ h₄ => ?_) fun _ _ e => e) fun _ _ e => e) fun _ _ e => e
    cases f with
    | next => exact ⟨items.size + 1 - (i + 1), by walk_at "om", i + 1, h₄.1, h₄.2, hlt, rfl⟩
    | cont => exact ⟨items.size + 1 - (i + 1), by walk_at "om", i + 1, h₄.1, h₄.2, hlt, rfl⟩
    | brk => exact h₄
    | ret v => exact h₄
  · obtain rfl : i = items.size := by walk_at "om"
    refine wpAny_pyNext_tuple_end hA hst.1 hst.2 (by simp) fun h' he => ?_
    exact fin _ _ (stable _ s' h' s'.toks hI (fun b o hb e => he b o hb e) (Nat.le_refl _))
end
end Mine
end

section
open PySem PySem.Calls PySem.W PyProof.Rows
open PySem.Builtin.Int (intBits)
namespace Mine
example (P : Params) : hd.heap_161 P = hd.heap_161 P ∧ PySem.Challenge.rw_wr0028_01 = PySem.Challenge.rw_wr0028_01 := by k_fill; exact ⟨rfl, rfl⟩
noncomputable def SeqAt (h : Heap) (a : Addr) (vs : Array Value) : Prop := h.IsList a vs ∨ h.IsTuple a vs
theorem SeqAt.at {h h' : Heap} {a : Addr} {vs : Array Value} (x : SeqAt h a vs) (hk : ∀ o, h.get? a = some o → h'.get? a = some o) : SeqAt h' a vs := by
  rcases x with ⟨o, e, r⟩ | ⟨o, e, r⟩
  · exact .inl ⟨o, hk o e, r⟩
  · exact .inr ⟨o, hk o e, r⟩
theorem itemSeq {w : World} {A : Around} {E : Value → Shared → Prop} {s : Shared} {value slice : Expr} {a : Addr} {vs : Array Value} {k : Nat} {u : Tok} {x : Value} {Q : Value → Shared → Prop} (hl : SeqAt s.heap a vs) (hk : k < 1000) (hx : vs[k]? = some x) (h : Q x s)
    (hs : autoParam (subscripted slice false (.ref a) (.int (k : Nat) u) = operate [.ref a, .int (k : Nat) u] (getItem (.ref a) (.int (k : Nat) u))) aUnf) (hg : autoParam (∀ r, letTemporaryGo value (.ref a) r = pure ()) aIntU) :
    wpAny (model PP w) A (subscriptTail value slice (.ref a) (.int (k : Nat) u)) Q E s := by
  rcases hl with hl | hl
  · exact item_list hl (by walk_at "om") (by walk_at "om") (by simpa using hx) h hs hg
  · refine item_tuple (j := k) hl (by walk_at "om") (by walk_at "om") ?_ hx h hs hg
    have := (Array.getElem?_eq_some_iff.mp hx).1
    unfold seqIndex?
    simp
    walk_at "om"
noncomputable def IntsV (vs : Array Value) (ns : List Int) : Prop := vs.size = ns.length ∧ ∀ (i : Nat) n, ns[i]? = some n → ∃ t, vs[i]? = some (.int n t)
theorem mulI {w : World} {s : Shared} (i j : Int) (ti tj : Tok) (hm : IntMulOk i j) : Clm w 56 [.int i ti, .int j tj] 1 1 s (fun v _ => ∃ t', v = .int (i * j) t') := by
  intro mean mg mb dp un gd base outer Q E C hd hu hret
  refine enterS C (by k_is) (by k_is) (by walk_at "om") (BindsTo.of_eq rfl) (locs rfl) (fun h₁ F N => ?_) (by decide)
  refine wpAny_execs_cons (wpAny_Return_some (wpAny_BinOp (ld F (by rfl) (ld F (by rfl) (mul_int ?_ hm)))))
  exact hret _ _ ⟨F.keep, by dsimp only; walk_at "om", C.gs, rfl⟩ ⟨_, rfl⟩
noncomputable def prodL (ps : List Nat) (z : Int) (ks : List (Int × Nat)) : Int := ks.foldl (fun z p => z * p.1 ^ (ps.getD p.2 0)) z
noncomputable def turnsL (ws : List (Int × List Nat)) (bs : List Int) (ps : List Nat) : Int := (ws.map fun x => prodL ps x.1 (bs.zip x.2)).sum
noncomputable def WaysAt (h : Heap) (a : Addr) (ws : List (Int × List Nat)) : Prop := ∃ items, h.IsTuple a items ∧ items.size = ws.length ∧
  ∀ (i : Nat) sg way, ws[i]? = some (sg, way) → ∃ T Tw t vs, items[i]? = some (.ref T) ∧ h.IsTuple T #[.int sg t, .ref Tw] ∧ h.IsTuple Tw vs ∧ IntsV vs (way.map fun k : Nat => (k : Int))
theorem tupKeeps {h h' : Heap} {a : Addr} {vs : Array Value} (x : h.IsTuple a vs) (hk : ∀ b o, h.get? b = some o → h'.get? b = some o) : h'.IsTuple a vs := let ⟨o, e, r⟩ := x; ⟨o, hk _ o e, r⟩
theorem WaysAt.keeps {h h' : Heap} {a : Addr} {ws : List (Int × List Nat)} (x : WaysAt h a ws) (hk : ∀ b o, h.get? b = some o → h'.get? b = some o) : WaysAt h' a ws := by
  obtain ⟨items, ht, hn, hi⟩ := x
  refine ⟨items, tupKeeps ht hk, hn, fun i sg way e => ?_⟩
  obtain ⟨T, Tw, t, vs, a1, a2, a3, a4⟩ := hi i sg way e
  exact ⟨T, Tw, t, vs, a1, tupKeeps a2 hk, tupKeeps a3 hk, a4⟩
theorem Fr.stepNew {h₀ h1 h h' : Heap} {L : Addr} {m1 m : Str → Option Value} {wr : List Addr} (F1 : Fr h₀ L h1 m1) (F : Fr h₀ L h m) (hw : ∀ b ∈ wr, h1.objs.size ≤ b) (hk : ∀ b o, b ∉ wr → h.get? b = some o → h'.get? b = some o) : Fr h₀ L h' m :=
  Fr.step F (fun hb => Nat.not_lt.mpr (hw _ hb) F1.ns.lt) (fun b hb => by
    cases hq : h₀.get? b with
    | none => rfl
    | some o => exact absurd (Heap.lt_size (F1.keep _ _ hq)) (Nat.not_lt.mpr (hw _ hb))) hk
theorem turns_spec {w : World} {s : Shared} (ws : List (Int × List Nat)) (bs : List Int) (ps : List Nat) {tw tb tp : Addr} {vb vp : Array Value}
    (hW : WaysAt s.heap tw ws) (hB : s.heap.IsList tb vb) (hBv : IntsV vb bs) (hP : SeqAt s.heap tp vp) (hPv : IntsV vp (ps.map fun k : Nat => (k : Int)))
    (bb : ∀ b ∈ bs, 0 ≤ b ∧ b < 4096) (bp : ∀ p ∈ ps, p ≤ 16) (bw : ∀ x ∈ ws, intBits x.1 ≤ 1 ∧ x.2.length ≤ 100 ∧ ∀ k ∈ x.2, k < ps.length) (pl : ps.length ≤ 100) :
    Clm w 117 [.ref tw, .ref tb, .ref tp] 3 8 s (fun v _ => ∃ t', v = .int (turnsL ws bs ps) t') := by
  intro mean mg mb dp un gd base outer Q E C hd hu hret
  refine enterS C (by k_is) (by k_is) (by walk_at "om") (BindsTo.of_eq rfl) (locs rfl) (fun h₁ F N => ?_) (by decide)
  have htk := C.tk
  refine wpAny_execs_cons (wpAny_Assign_Name (wpAny_Constant_int (stS F fun h₂ F2 k2 => ?_)))
  refine wpAny_execs_cons (wpAny_For (ld F2 (by rfl) ?_))
  have hI := Fr.fresh F2
  refine Exists.elim hW fun items hW2 => ?_
  have hT2 : h₂.IsTuple tw items := tupKeeps hW2.1 F2.keep
  refine wpAny_pyIter_tuple hT2 ?_
  have hTlt : tw ≠ h₂.objs.size := Nat.ne_of_lt (tupLt hT2)
  refine forPairs (P1 := fun i x => ∃ sg way t, ws[i]? = some (sg, way) ∧ x = .int sg t) (P2 := fun i y => ∃ sg way Tw vs, ws[i]? = some (sg, way) ∧ y = .ref Tw ∧ s.heap.IsTuple Tw vs ∧ IntsV vs (way.map fun k : Nat => (k : Int))) rfl hTlt
    (fun i s' => ∃ m tot tt, Fr s.heap s.heap.objs.size s'.heap m ∧ m "bases" = some (.ref tb) ∧ m "powers" = some (.ref tp) ∧ m "total" = some (.int tot tt) ∧ s.toks ≤ s'.toks ∧ AllBare s'.gens ∧ s'.os = s.os ∧ tot = turnsL (ws.take i) bs ps)
    ?_ ⟨_, Heap.get?_push_size _ rfl, rfl, rfl⟩ (Heap.IsTuple.push hT2 _) ?_ ?_ ?_ ?_
  · exact ⟨_, 0, _, F2.push _, rfl, rfl, rfl, by dsimp only; walk_at "om", C.gs, rfl, rfl⟩
  · rintro i s' ⟨m, tot, tt, F', -⟩ hi
    have hwi : ws[i]? = some ws[i] := List.getElem?_eq_getElem (by rw [← hW2.2.1]; exact hi)
    obtain ⟨T, Tw, t, vs, a1, a2, a3, a4⟩ := hW2.2.2 i ws[i].1 ws[i].2 hwi
    exact ⟨T, _, _, a1, ⟨_, _, t, hwi, rfl⟩, ⟨_, _, Tw, vs, hwi, rfl, a3, a4⟩, tupKeeps a2 F'.keep⟩
  · rintro i s' h' tk hINV hk hle
    refine ex3 hINV fun m tot tt hINVa => ?_
    clear hINV
    refine and8 hINVa fun F' e1 e2 e3 e4 e5 e6 e7 => ?_
    clear hINVa
    exact ⟨m, tot, tt, Fr.stepNew (wr := [h₂.objs.size]) F2 F' (by simp) (fun b o hb e => hk b o (by simpa using hb) e), e1, e2, e3, Nat.le_trans e4 hle, e5, e6, e7⟩
  · rintro i x y s1 E1 hi hp1 hp2 hINV hst
    refine ex3 hINV fun m tot tt hINVa => ?_
    clear hINV
    refine and8 hINVa fun F' e1 e2 e3 e4 e5 e6 e7 => ?_
    clear hINVa
    refine ex3 hp1 fun sg way tsg hp1a => ?_
    clear hp1
    refine and2 hp1a fun hwi hx => ?_
    clear hp1a
    subst hx
    refine ex4 hp2 fun sg' way' Tw vs hp2a => ?_
    clear hp2
    refine and4 hp2a fun hwi' hy hTw hvs => ?_
    clear hp2a
    subst hy
    rw [hwi] at hwi'; cases hwi'
    have hmem : (sg, way) ∈ ws := List.mem_of_getElem? hwi
    have hbw := bw _ hmem
    dsimp only at hbw
    have hLI : s.heap.objs.size ≠ h₂.objs.size := hI.1
    have hLtw : s.heap.objs.size ≠ tw := Nat.ne_of_gt (tupLt hW2.1)
    have keepO : ∀ h h' : Heap, (h.IsTupleIter h₂.objs.size tw (i + 1) ∧ h.IsTuple tw items) → (∀ b o, b ≠ s.heap.objs.size → h.get? b = some o → h'.get? b = some o) → h'.IsTupleIter h₂.objs.size tw (i + 1) ∧ h'.IsTuple tw items := by
      rintro h h' ⟨⟨o, a1, a2⟩, o', b1, b2⟩ hk
      exact ⟨⟨o, hk _ o hLI.symm a1, a2⟩, o', hk _ o' hLtw.symm b1, b2⟩
    refine stS F' fun h5 F5 k5 => stS F5 fun h6 F6 k6 => ?_
    dsimp only at k5 k6
    have hst6 := keepO _ _ (keepO _ _ hst fun b o hb e => (k5.2 b hb).trans e) fun b o hb e => (k6.2 b hb).trans e
    have hB6 : h6.IsList tb vb := hB.at fun o e => F6.keep _ o e
    refine wpAny_execs_cons (wpAny_For (Call_ (name_B F6 C.X (topRead_of C.T) (by k_is) PyProof.Rows.boot_zip (by decide) (PyProof.Rows.callWith_type1 (args_cons (ld F6 e1 (args_cons (ld F6 (by rfl) (args_nil ?_)))))))))
    refine zipCall (Src.list hB6) (Src.tuple (tupKeeps hTw F6.keep)) fun h7 St Mid hWk st0 hsz7 hk7 _ => ?_
    refine (hWk _ rfl).self 0 _ _ _ st0 ?_
    have hIlt : h₂.objs.size < h6.objs.size := by obtain ⟨⟨o, a1, a2⟩, _⟩ := hst6; exact Heap.lt_size a1
    have htwlt : tw < h6.objs.size := by obtain ⟨_, o, a1, a2⟩ := hst6; exact Heap.lt_size a1
    dsimp only at hsz7 hk7
    refine forZ rfl (hWk _ rfl) (fun j s' => ∃ m z tz, Fr s.heap s.heap.objs.size s'.heap m ∧ m "bases" = some (.ref tb) ∧ m "powers" = some (.ref tp) ∧ m "total" = some (.int tot tt) ∧ m "sign" = some (.int z tz) ∧ s.toks ≤ s'.toks ∧ AllBare s'.gens ∧ s'.os = s.os ∧
        (s'.heap.IsTupleIter h₂.objs.size tw (i + 1) ∧ s'.heap.IsTuple tw items) ∧ z = prodL ps sg ((bs.zip way).take j) ∧ intBits z ≤ 1 + 200 * j) ?_ st0 ?_ ?_ ?_
    · exact ⟨_, sg, _, Fr.more F6 hk7, e1, e2, e3, rfl, by dsimp only; walk_at "om", e5, e6, ⟨let ⟨o, a, r⟩ := hst6.1; ⟨o, hk7 _ o a, r⟩, tupKeeps hst6.2 hk7⟩, rfl, hbw.1⟩
    · rintro j s' h' tk hINV hk hle
      refine ex3 hINV fun m' z tz hINVa => ?_
      clear hINV
      refine and11 hINVa fun F1 a1 a2 a3 a4 a5 a6 a7 a8 a9 a10 => ?_
      clear hINVa
      refine ⟨m', z, tz, Fr.stepNew F6 F1 ?_ hk, a1, a2, a3, a4, Nat.le_trans a5 hle, a6, a7, ⟨let ⟨o, a, r⟩ := a8.1; ⟨o, hk _ o ?_ a, r⟩, let ⟨o, a, r⟩ := a8.2; ⟨o, hk _ o ?_ a, r⟩⟩, a9, a10⟩
      · exact zwLe
      · exact zwNot hIlt
      · exact zwNot htwlt
    · rintro j x y s' E2 hj hx hy hINV hst'
      refine ex3 hINV fun m' z tz hINVa => ?_
      clear hINV
      refine and11 hINVa fun F1 a1 a2 a3 a4 a5 a6 a7 a8 a9 a10 => ?_
      clear hINVa
      have hjb : j < bs.length := by have := hBv.1; walk_at "om"
      have hjw : j < way.length := by have := hvs.1; rw [List.length_map] at this; walk_at "om"
      obtain ⟨tx, ex⟩ := hBv.2 j bs[j] (List.getElem?_eq_getElem hjb)
      obtain ⟨ty, ey⟩ := hvs.2 j (way[j] : Nat) (by simp [hjw])
      rw [ex] at hx; cases hx
      rw [ey] at hy; cases hy
      have hk := hbw.2.2 way[j] (List.getElem_mem hjw)
      obtain ⟨tq, eq⟩ := hPv.2 way[j] (ps[way[j]] : Nat) (by simp [hk])
      have hb0 := bb bs[j] (List.getElem_mem hjb)
      have hp0 := bp ps[way[j]] (List.getElem_mem hk)
      refine stS F1 fun h8 F8 k8 => stS F8 fun h9 F9 k9 => ?_
      dsimp only at k8 k9
      have k19 : Heap.SameBut s.heap.objs.size s'.heap h9 := k8.trans k9
      refine wpAny_execs_cons (wpAny_Assign_Name (Call_ (name_K F9 C.X (topRead_of C.T) (by k_is) (callWith_K C.X (by k_is) (args_cons (ld F9 a4 (args_cons (wpAny_BinOp (ld F9 (by rfl) (Subscript_ (ld F9 a2 (ld F9 (by rfl) ?_))))))))))))
      refine itemSeq (hP.at fun o e => F9.keep _ o e) (by walk_at "om") eq ?_
      refine pow_int_small (by walk_at "om") (by walk_at "om") (by walk_at "om") ?_
      refine args_nil ⟨C.X.keeps F9.keep, ?_⟩
      have hbits : intBits (bs[j] ^ (((ps[way[j]] : Nat) : Int)).toNat) ≤ 200 := by
        have h1 : intBits bs[j] ≤ 12 := PySem.intBits_le_iff.mpr (by walk_at "om")
        have h2 := PySem.intBits_pow_le h1 (((ps[way[j]] : Nat) : Int)).toNat
        have h3 : (((ps[way[j]] : Nat) : Int)).toNat = ps[way[j]] := Int.toNat_natCast _
        rw [h3] at h2 ⊢
        walk_at "om"
      have hzb : intBits z ≤ 1 + 200 * 100 := Nat.le_trans a10 (by have := hbw.2.1; walk_at "om")
      refine (mulI _ _ _ _ (PySem.IntMulOk.of_le hzb hbits (by walk_at "om"))).int mean mg mb _ _ _ base _ _ _ (C.inside F9 (by dsimp only; walk_at "om") a6) (show dp + 1 + 1 < recursionLimit by walk_at "om") (show un + 3 + 1 < cLine by walk_at "om") fun t₂ s₂ G => ?_
      have hle₂ := G.tk
      have hgs₂ := G.gs
      have hos₂ := G.os
      dsimp only at hle₂ hos₂
      refine stS (frGrew F9 G) fun h10 F10 k10 => wpAny_execs_nil ?_
      have kS : ∀ b o, b ≠ s.heap.objs.size → s'.heap.get? b = some o → h10.get? b = some o := fun b o hb e => (k10.2 b hb).trans (G.keep b o ((k19.2 b hb).trans e))
      refine ⟨⟨_, _, _, F10, a1, a2, a3, rfl, by dsimp only; walk_at "om", hgs₂, hos₂.trans a7, keepO _ _ a8 kS, ?_, ?_⟩, (hWk ({} : Around) rfl).frame _ _ _ hst' fun b hb o e => kS b o ?_ e⟩
      · rw [a9]; unfold prodL
        have hz : (bs.zip way)[j]? = some (bs[j], way[j]) := by rw [List.getElem?_zip_eq_some]; exact ⟨List.getElem?_eq_getElem hjb, List.getElem?_eq_getElem hjw⟩
        rw [List.take_add_one, hz]
        simp [List.foldl_append, hk]
      · have := PySem.intBits_mul_le a10 hbits
        walk_at "om"
      · rintro rfl
        have hL6 : @LT.lt Nat _ s.heap.objs.size h6.objs.size := F6.ns.lt
        have hLb : @LT.lt Nat _ tb s.heap.objs.size := listLt hB
        have hLw : @LT.lt Nat _ Tw s.heap.objs.size := tupLt hTw
        exact absurd hb (zfNe hL6 hLb hLw)
    · rintro s' E2 hINV
      refine ex3 hINV fun m' z tz hINVa => ?_
      clear hINV
      refine and11 hINVa fun F1 a1 a2 a3 a4 a5 a6 a7 a8 a9 a10 => ?_
      clear hINVa
      refine wpAny_execs_nil ?_
      refine wpAny_execs_cons (wpAny_Assign_Name (Call_ (name_K F1 C.X (topRead_of C.T) (by k_is) (callWith_K C.X (by k_is) (args_cons (ld F1 a3 (args_cons (ld F1 a4 (args_nil ⟨C.X.keeps F1.keep, ?_⟩)))))))))
      refine (addI _ _ _ _).int mean mg mb _ _ _ base _ _ _ (C.inside F1 (by walk_at "om") a6) (show dp + 1 + 1 < recursionLimit by walk_at "om") (show un + 3 + 1 < cLine by walk_at "om") fun t₂ s₂ G => ?_
      have hle₂ := G.tk
      have hgs₂ := G.gs
      have hos₂ := G.os
      refine stS (frGrew F1 G) fun h10 F10 k10 => wpAny_execs_nil ?_
      have kS : ∀ b o, b ≠ s.heap.objs.size → s'.heap.get? b = some o → h10.get? b = some o := fun b o hb e => (k10.2 b hb).trans (G.keep b o e)
      refine ⟨⟨_, _, _, F10, a1, a2, rfl, by dsimp only; walk_at "om", hgs₂, hos₂.trans a7, ?_⟩, keepO _ _ a8 kS⟩
      have hmin : min vb.size vs.size = (bs.zip way).length := by rw [List.length_zip, hBv.1, hvs.1, List.length_map]
      rw [a9, hmin, List.take_length, e7]
      unfold turnsL
      rw [List.take_add_one, hwi]
      simp
  · rintro s' E2 hINV
    refine ex3 hINV fun m tot tt hINVa => ?_
    clear hINV
    refine and8 hINVa fun F' e1 e2 e3 e4 e5 e6 e7 => ?_
    clear hINVa
    refine wpAny_execs_nil (wpAny_execs_cons (wpAny_Return_some (ld F' e3 ?_)))
    refine hret _ _ ⟨F'.keep, e4, e5, e6⟩ ⟨tt, ?_⟩
    rw [e7, hW2.2.1, List.take_length]
end Mine
end

section
open PySem PySem.Calls PySem.W PyProof.Rows
namespace Mine
example (P : Params) : hd.heap_161 P = hd.heap_161 P ∧ PySem.Challenge.rw_wr0028_01 = PySem.Challenge.rw_wr0028_01 := by k_fill; exact ⟨rfl, rfl⟩
theorem fold_app (l : List Nat) : ∀ (n : Nat) (a : Array Nat), (List.replicate n l.toArray).foldl (· ++ ·) a = (a.toList ++ (List.replicate n l).flatten).toArray
  | 0, a => by simp
  | n + 1, a => by
    rw [List.replicate_succ, List.foldl_cons, fold_app l n, List.replicate_succ]; simp
theorem mul_S (l : List Nat) (n : Int) : Txt.mul (S l) n = S (List.replicate n.toNat l).flatten := by
  unfold Txt.mul
  by_cases h : n < 1
  · rw [if_pos h, show n.toNat = 0 by walk_at "om"]; rfl
  · rw [if_neg h]
    by_cases h2 : (n == 1 || (S l).length == 0) = true
    · rw [if_pos h2]
      rw [Bool.or_eq_true] at h2
      rcases h2 with h2 | h2
      · rw [show n = 1 by simpa using h2]; simp
      · rw [S_length] at h2
        have : l = [] := by simpa using h2
        subst this; simp
    · rw [if_neg h2]
      apply Str.ext'
      rw [fold_app]; simp [S]
theorem mul_one (c : Nat) (n : Int) : Txt.mul (S [c]) n = S (List.replicate n.toNat c) := by
  rw [mul_S]; congr 1
  generalize n.toNat = k
  induction k with
  | zero => rfl
  | succ k ih => rw [List.replicate_succ, List.flatten_cons, ih]; rfl
noncomputable def markL (o c x : Nat) : List Nat := (if x = o then [40] else []) ++ (if x = c then [41] else [])
noncomputable def rowL (wd : List Nat) (o c a : Nat) (b : Int) : List Nat := List.replicate a 40 ++ wd.flatMap (markL o c) ++ List.replicate (max b 0).toNat 41
theorem marks_length (o c : Nat) : ∀ l : List Nat, (l.flatMap (markL o c)).length ≤ 2 * l.length
  | [] => by simp
  | x :: r => by
    have := marks_length o c r
    have h : (markL o c x).length ≤ 2 := by unfold markL; split <;> split <;> simp
    simp only [List.flatMap_cons, List.length_append, List.length_cons]; walk_at "om"
theorem mulS {w : World} {A : Around} {E : Value → Shared → Prop} {s : Shared} {l : List Nat} {n : Int} {t u : Tok} {Q : Value → Shared → Prop} (hl : l.length ≤ 16) (h0 : -1000 ≤ n) (h1 : n ≤ 1000)
    (h : ∀ t' tk, s.toks ≤ tk → Q (.str (S (List.replicate n.toNat l).flatten) t') { s with toks := tk }) : wpAny (model PP w) A (binaryOp .Mult (.str (S l) t) (.int n u)) Q E s := by
  refine wpAny_with_toks (Nat.le_refl _) (SB.mul (mulOk_of 16 1000 (by rw [S_length]; walk_at "om") (by walk_at "om") (by walk_at "om") (by decide) (by decide)) fun t' tk hle => ?_)
  rw [mul_S]; exact h t' tk hle
theorem mulS1 {w : World} {A : Around} {E : Value → Shared → Prop} {s : Shared} {c : Nat} {n : Int} {t u : Tok} {Q : Value → Shared → Prop} (h0 : -1000 ≤ n) (h1 : n ≤ 1000)
    (h : ∀ t' tk, s.toks ≤ tk → Q (.str (S (List.replicate n.toNat c)) t') { s with toks := tk }) : wpAny (model PP w) A (binaryOp .Mult (.str (S [c]) t) (.int n u)) Q E s := by
  refine wpAny_with_toks (Nat.le_refl _) (SB.mul (mulOk_of 16 1000 (by rw [S_length]; exact (by decide : 1 ≤ 16)) (by walk_at "om") (by walk_at "om") (by decide) (by decide)) fun t' tk hle => ?_)
  rw [mul_one]; exact h t' tk hle
theorem addSS {w : World} {A : Around} {E : Value → Shared → Prop} {s : Shared} {l r : List Nat} {t u : Tok} {Q : Value → Shared → Prop} (hl : l.length + r.length ≤ 100000)
    (h : ∀ t' tk, s.toks ≤ tk → Q (.str (S (l ++ r)) t') { s with toks := tk }) : wpAny (model PP w) A (binaryOp .Add (.str (S l) t) (.str (S r) u)) Q E s := by
  refine wpAny_with_toks (Nat.le_refl _) (SB.add (fun t' tk hle => ?_) (by rw [S_length, S_length, sizeLine_eq]; walk_at "om"))
  rw [S_append]; exact h t' tk hle
theorem plainPush {h : Heap} {D : Addr} {ps : List (Str × Tok)} {x : Str} {tq : Tok} (hP : h.PlainList D ((strValues ps).toArray.push (.str x tq))) : ∃ tq, h.PlainList D (strValues (ps ++ [(x, tq)])).toArray := by
  refine ⟨tq, ?_⟩
  have e8 : (strValues ps).toArray.push (.str x tq) = (strValues (ps ++ [(x, tq)])).toArray := by simp [strValues]
  rw [← e8]; exact hP
theorem row_spec {w : World} {s : Shared} (wd : List Nat) (o c a : Nat) (b : Int) (t to tc ta tb : Tok) (hwd : wd.length ≤ 100) (ha : a ≤ 1000) (hb : b ≤ 1000) :
    Clm w 110 [.str (S wd) t, .str (S [o]) to, .str (S [c]) tc, .int a ta, .int b tb] 1 1 s (fun v _ => ∃ t', v = .str (S (rowL wd o c a b)) t') := by
  intro mean mg mb dp un gd base outer Q E C hd hu hret
  refine enterS C (by k_is) (by k_is) (by walk_at "om") (BindsTo.of_eq rfl) (locs rfl) (fun h₁ F N => ?_) (by decide)
  have htk := C.tk
  refine wpAny_execs_cons (wpAny_Assign_Name (List_ (args_nil (wpAny_newList ?_))))
  have hLD := (Fr.fresh F).1
  have hD00 := (Fr.fresh F).2
  have hD0 : (h₁.push { cls := .type "list", data := .seq ([] : List Value).toArray }).PlainList h₁.objs.size #[] := ⟨_, Heap.get?_push_size _ rfl⟩
  have hDlt : h₁.objs.size < (h₁.push { cls := .type "list", data := .seq ([] : List Value).toArray }).objs.size := by rw [Heap.size_push]; exact Nat.lt_succ_self _
  refine stS (Fr.push F _) fun h₄ F4 k₄ => ?_
  have hDB : h₁.objs.size < h₄.objs.size := by have := k₄.1; dsimp only at this; rw [this]; exact hDlt
  have hD4 : h₄.PlainList h₁.objs.size #[] := hD0.at fun o e => (k₄.2 _ hLD.symm).trans e
  refine wpAny_execs_cons (wpAny_For (ld F4 (by rfl) (pyIter_S fun ob St hW st0 => ?_)))
  have hI := Fr.fresh F4
  have hDI : h₁.objs.size ≠ h₄.objs.size := Nat.ne_of_lt hDB
  refine forN (hW _ s.toks rfl) (fun i s' => ∃ h tk m ps, s' = { s with heap := h, toks := tk } ∧ Fr s.heap s.heap.objs.size h m ∧ s.toks ≤ tk ∧ m "signs" = some (.ref h₁.objs.size) ∧ m "opens" = some (.str (S [o]) to) ∧ m "closes" = some (.str (S [c]) tc) ∧ m "ahead" = some (.int a ta) ∧ m "behind" = some (.int b tb) ∧
      h.PlainList h₁.objs.size (strValues ps).toArray ∧ ps.map (·.1) = (((wd.take i).flatMap (markL o c)).map fun x => [x]).map S) ?_ st0 ?_ ?_ ?_ ?_
  · exact ⟨_, _, _, [], rfl, F4.push _, by dsimp only; walk_at "om", rfl, rfl, rfl, rfl, rfl, hD4.at fun o e => Heap.get?_push_of_some _ e, rfl⟩
  · rintro i s' ⟨h, tk, m, ps, rfl, -, a1, -⟩; exact a1
  · rintro i _ h' tk' hINV hk hle
    refine ex4 hINV fun h tk m ps hINVa => ?_
    clear hINV
    have hSUB := hINVa.1
    have hINVb := hINVa.2
    clear hINVa
    subst hSUB
    refine and9 hINVb fun F' a1 e1 e2 e3 e4 e5 hP r => ?_
    clear hINVb
    exact ⟨h', tk', m, ps, rfl, Fr.step F' (by simpa using hI.1) (by simpa using hI.2) hk, Nat.le_trans a1 hle, e1, e2, e3, e4, e5, hP.at fun o e => hk _ o (by simpa using hDI) e, r⟩
  · rintro i v _ E' hi ⟨x, ui, hx, rfl, hku, hlt⟩ hINV hst
    refine ex4 hINV fun h tk m ps hINVa => ?_
    clear hINV
    have hSUB := hINVa.1
    have hINVb := hINVa.2
    clear hINVa
    subst hSUB
    refine and9 hINVb fun F' a1 e1 e2 e3 e4 e5 hP r => ?_
    clear hINVb
    have keepSt : ∀ h h' : Heap, St (i + 1) h → (∀ b o, b ≠ s.heap.objs.size → b ≠ h₁.objs.size → h.get? b = some o → h'.get? b = some o) → St (i + 1) h' := fun h h' st k => (hW { handled := none } 0 rfl).frame _ _ _ st fun b hb o e => by
      simp at hb; subst hb; exact k _ o hI.1.symm hDI.symm e
    have ec : (wd.take (i + 1)).flatMap (markL o c) = (wd.take i).flatMap (markL o c) ++ ((if x = o then [40] else []) ++ (if x = c then [41] else [])) := by
      have : wd.take (i + 1) = wd.take i ++ [x] := by rw [List.take_add_one, hx]; rfl
      rw [this, List.flatMap_append]; simp [markL]
    have hpsl : ps.length ≤ 200 := by
      have h1 : ps.length = ((wd.take i).flatMap (markL o c)).length := by have := congrArg List.length r; simpa using this
      have h2 := marks_length o c (wd.take i)
      rw [List.length_take] at h2; walk_at "om"
    refine stS F' fun h5 F5 k5 => ?_
    dsimp only at k5
    have hP5 : h5.PlainList h₁.objs.size (strValues ps).toArray := hP.at fun o e => (k5.2 _ hLD.symm).trans e
    have hst5 := keepSt _ _ hst fun b o hb _ e => (k5.2 b hb).trans e
    refine wpAny_execs_cons (wpAny_mono (Q := fun f s' => f = .next ∧ ∃ h' tk' ps', s' = { s with heap := h', toks := tk' } ∧ Fr s.heap s.heap.objs.size h' (fun y => if y = "sign" then some (.str (S [x]) ui) else m y) ∧ s.toks ≤ tk' ∧ h'.PlainList h₁.objs.size (strValues ps').toArray ∧ St (i + 1) h' ∧ ps'.map (·.1) = ps.map (·.1) ++ (if x = o then [S [40]] else [])) ?_ ?_ (fun _ _ e => e))
    · refine wpAny_If (wpAny_isTrue_Compare1 (ld F5 (by rfl) (ld F5 e2 (eq_str (wpAny_truthy_bool ?_)))))
      rw [S_beq]
      by_cases hxo : x = o
      · rw [if_pos (by simp [hxo])]
        refine wpAny_execs_cons (app_list F5 e1 hP5 (Calls.Constant_str ⟨(strValues ps).toArray, hP5, by rw [sizeLine_eq]; simp [strValues]; walk_at "om", fun h8 hP8 k8 => wpAny_execs_nil ?_⟩))
        dsimp only at k8
        refine Exists.elim (plainPush (x := S [40]) hP8) fun tq hP9 => ?_
        exact ⟨rfl, h8, _, ps ++ [(S [40], tq)], rfl, Fr.step (wr := [h₁.objs.size]) F5 (by simpa using hLD) (by simpa using hD00) (fun b o hb e => (k8.2 b (by simpa using hb)).trans e), by dsimp only; walk_at "om", hP9, keepSt _ _ hst5 fun b o _ hb e => (k8.2 b hb).trans e, by rw [if_pos hxo]; simp⟩
      · rw [if_neg (by simp [hxo])]
        exact wpAny_execs_nil ⟨rfl, _, _, ps, rfl, F5, by dsimp only; walk_at "om", hP5, hst5, by rw [if_neg hxo]; simp⟩
    intro fF sF hINV
    have hSUB := hINV.1
    subst hSUB
    refine ex3 hINV.2 fun h6 tk6 ps6 hINW => ?_
    have hSUB := hINW.1
    have hINX := hINW.2
    clear hINV hINW
    subst hSUB
    refine and5 hINX fun F6 a6 hP6 hst6 r6 => ?_
    clear hINX
    dsimp only
    have hps6 : ps6.length ≤ 201 := by
      have := congrArg List.length r6
      simp only [List.length_map, List.length_append] at this
      split at this <;> simp at this <;> walk_at "om"
    refine wpAny_execs_cons (wpAny_mono (Q := fun f s' => f = .next ∧ ∃ h' tk' ps', s' = { s with heap := h', toks := tk' } ∧ Fr s.heap s.heap.objs.size h' (fun y => if y = "sign" then some (.str (S [x]) ui) else m y) ∧ s.toks ≤ tk' ∧ h'.PlainList h₁.objs.size (strValues ps').toArray ∧ St (i + 1) h' ∧ ps'.map (·.1) = ps6.map (·.1) ++ (if x = c then [S [41]] else [])) ?_ ?_ (fun _ _ e => e))
    · refine wpAny_If (wpAny_isTrue_Compare1 (ld F6 (by rfl) (ld F6 e3 (eq_str (wpAny_truthy_bool ?_)))))
      rw [S_beq]
      by_cases hxo : x = c
      · rw [if_pos (by simp [hxo])]
        refine wpAny_execs_cons (app_list F6 e1 hP6 (Calls.Constant_str ⟨(strValues ps6).toArray, hP6, by rw [sizeLine_eq]; simp [strValues]; walk_at "om", fun h8 hP8 k8 => wpAny_execs_nil ?_⟩))
        dsimp only at k8
        refine Exists.elim (plainPush (x := S [41]) hP8) fun tq hP9 => ?_
        exact ⟨rfl, h8, _, ps6 ++ [(S [41], tq)], rfl, Fr.step (wr := [h₁.objs.size]) F6 (by simpa using hLD) (by simpa using hD00) (fun b o hb e => (k8.2 b (by simpa using hb)).trans e), by dsimp only; walk_at "om", hP9, keepSt _ _ hst6 fun b o _ hb e => (k8.2 b hb).trans e, by rw [if_pos hxo]; simp⟩
      · rw [if_neg (by simp [hxo])]
        exact wpAny_execs_nil ⟨rfl, _, _, ps6, rfl, F6, by walk_at "om", hP6, hst6, by rw [if_neg hxo]; simp⟩
    intro fF sF hINV
    have hSUB := hINV.1
    subst hSUB
    refine ex3 hINV.2 fun h7 tk7 ps7 hINW => ?_
    have hSUB := hINW.1
    have hINX := hINW.2
    clear hINV hINW
    subst hSUB
    refine and5 hINX fun F7 a7 hP7 hst7 r7 => ?_
    clear hINX
    refine wpAny_execs_nil ⟨⟨h7, tk7, _, ps7, rfl, F7, a7, e1, e2, e3, e4, e5, hP7, ?_⟩, hst7⟩
    rw [r7, r6, r, ec]
    have q1 : ∀ (p : Prop) [Decidable p] (k : Nat), (if p then [S [k]] else []) = ((if p then [k] else []).map fun x => [x]).map S := fun p _ k => by split <;> rfl
    rw [q1, q1]; simp only [List.map_append, List.append_assoc]
  · rintro s' E2 hINV
    refine ex4 hINV fun h tk m ps hINVa => ?_
    clear hINV
    have hSUB := hINVa.1
    have hINVb := hINVa.2
    clear hINVa
    subst hSUB
    refine and9 hINVb fun F' a1 e1 e2 e3 e4 e5 hP r => ?_
    clear hINVb
    rw [List.take_length] at r
    have hml := marks_length o c wd
    refine wpAny_execs_nil (wpAny_execs_cons (wpAny_Return_some (wpAny_BinOp (wpAny_BinOp (wpAny_BinOp (Calls.Constant_str (ld F' e4 ?_)))))))
    refine mulS1 (c := 40) (by walk_at "om") (by walk_at "om") fun t1 tk1 hle1 => ?_
    refine join_ev F' e1 hP r (n := 1) (kk := 1000) (fun x hx => by obtain ⟨y, _, e⟩ := List.mem_map.mp hx; rw [← e]; exact Nat.le_refl _) (by rw [List.length_map]; walk_at "om") (by decide) (fun t2 tk2 hle2 => ?_) rfl
    have hfl : (((wd.flatMap (markL o c)).map fun x => [x])).flatten = wd.flatMap (markL o c) := by
      generalize wd.flatMap (markL o c) = z
      induction z with
      | nil => rfl
      | cons q r ih => rw [List.map_cons, List.flatten_cons, ih]; rfl
    rw [hfl]
    refine addSS (by rw [List.length_replicate]; walk_at "om") fun t3 tk3 hle3 => ?_
    refine wpAny_BinOp (Calls.Constant_str (Call_ ?_))
    refine name_B F' C.X (topRead_of C.T) (by k_is) PyProof.Rows.boot_max (by decide) ?_
    refine PyProof.Rows.callWith_builtin1 (args_cons (ld F' e5 (args_cons (wpAny_Constant_int (args_nil ?_)))))
    refine wpAny_with_toks (Nat.le_refl _) (max_two_N rfl F' News.nil fun h8 tk8 F8 N8 hle8 => ?_)
    have hmx : (if (0 : Int) > b then 0 else b) = max b 0 := by split <;> walk_at "om"
    refine mulS1 (c := 41) (by split <;> walk_at "om") (by split <;> walk_at "om") fun t9 tk9 hle9 => ?_
    refine addSS (by rw [List.length_append, List.length_replicate, List.length_replicate]; split <;> walk_at "om") fun t10 tk10 hle10 => ?_
    dsimp only at hle1 hle2 hle3 hle8 hle9 hle10
    refine hret _ _ ⟨F8.keep, by dsimp only; walk_at "om", C.gs, rfl⟩ ⟨t10, ?_⟩
    rw [hmx]; rfl
end Mine
end

section
open PySem PySem.Calls PySem.W PyProof.Rows
namespace Mine
section
variable {M : Model} {A : Around} {E : Value → Shared → Prop} {s : Shared} {K : Frag} {h₀ : Heap} {mg mb : Str → Option Value} {p : Program} {loose : List Str} {env : Env} {x : Str} {pos : Pos} {v : Value} {Q : Value → Shared → Prop}
theorem nmK (hs : ∀ b o, h₀.get? b = some o → s.heap.get? b = some o) (X : K.In h₀) (T : TopRead p loose mg mb h₀) (e : nsIn K mainGlobals x = some (some v)) (h : Q v s)
    (hk : autoParam (env.scope.kind = .function) aRfl) (hx : autoParam (env.kindOf x = some .globalImplicit) aRfl) (hg : autoParam (env.globals = mainGlobals) aRfl) (hd : autoParam ((x == ("__debug__" : Str)) = false) aDec) :
    wpAny M A (eval (.Name x pos) env) Q E s := by
  refine Name_function_global hk hx ?_ hd
  unfold loadGlobal
  refine wpAny_bind (wpAny_nsGet (hg ▸ T.g.keeps hs) ?_)
  rw [mg_of X T.g e]; exact wpAny_pure h
theorem nmB (hs : ∀ b o, h₀.get? b = some o → s.heap.get? b = some o) (X : K.In h₀) (T : TopRead p loose mg mb h₀) (e : nsIn K mainGlobals x = some none) (hv : bootBuiltins x = some v) (hn : x ≠ "__name__") (h : Q v s)
    (hk : autoParam (env.scope.kind = .function) aRfl) (hx : autoParam (env.kindOf x = some .globalImplicit) aRfl) (hg : autoParam (env.globals = mainGlobals) aRfl) (hb : autoParam (env.builtins = builtinsNs) aRfl) (hd : autoParam ((x == ("__debug__" : Str)) = false) aDec) :
    wpAny M A (eval (.Name x pos) env) Q E s :=
  Name_function_global hk hx (loadGlobal_builtin (hg ▸ T.g.keeps hs) (mg_none_of X T.g e) (hb ▸ T.b.keeps hs) ((T.builtins x hn).trans hv) h) hd
/-- a name in a cell, read -/
theorem nmC {L c : Addr} {cs : List (Str × Addr)} {cm : Str → Option Value} (X : Cl L cs s.heap cm) (hv : cm x = some v) (h : Q v s) (hcs : cs.lookup x = some c)
    (hc : autoParam (env.cells.lookup x = some c) aRfl) (hk : autoParam (env.scope.kind = .function) aRfl) (hl : autoParam (env.kindOf x = some .cell) aRfl) (hd : autoParam ((x == ("__debug__" : Str)) = false) aDec) :
    wpAny M A (eval (.Name x pos) env) Q E s := wpAny_Name (wpAny_loadName_cell hk hl hc (hv ▸ X.cell x c hcs) h) hd
/-- a comprehension's own name -/
theorem nmL {C : Addr} {m : Str → Option Value} (hn : s.heap.Ns C m) (hv : m x = some v) (h : Q v s) (hC : autoParam (env.locals = C) aRfl) (hk : autoParam (env.scope.kind = .function) aRfl) (hl : autoParam (env.kindOf x = some .local) aRfl) (hd : autoParam ((x == ("__debug__" : Str)) = false) aDec) :
    wpAny M A (eval (.Name x pos) env) Q E s := wpAny_Name (wpAny_loadName_local hk hl (hC ▸ hn) hv h) hd
end
theorem Cl.stepNew {L : Addr} {cs : List (Str × Addr)} {h1 h h' : Heap} {cm1 cm : Str → Option Value} {wr : List Addr} (X1 : Cl L cs h1 cm1) (X : Cl L cs h cm) (hw : ∀ b ∈ wr, h1.objs.size ≤ b) (hk : ∀ b o, b ∉ wr → h.get? b = some o → h'.get? b = some o) : Cl L cs h' cm :=
  ⟨fun n c e => let ⟨o, ho, hd⟩ := X.cell n c e; ⟨o, hk c o (fun hb => Nat.not_lt.mpr (hw _ hb) (X1.cell n c e).lt) ho, hd⟩, X.apart, X.above⟩

section
variable {w : World} {mean : ExcName → Option Value} {mg mb : Str → Option Value} {dp un : Nat} {gd : Option (List Code)} {base : Heap} {outer : List Env} {s : Shared} {Q E : Value → Shared → Prop}
  {name qual : Str} {params : Arguments} {body : List Stmt} {scope : Scope} {dV kV doc pm cdv ct oc : Value} {an od : Option Addr} {osl : Array (Option Value)} {f : Addr} {args : List Value} {binds : List (Str × Value)}
/-- the names' cells of a frame at L -/
noncomputable abbrev csOf (scope : Scope) (L : Addr) : List (Str × Addr) := cellsFrom (L + 1) scope.names []
theorem enterC (C : Cal w mean mg mb dp un gd base outer s)
    (ho : (hd.heap_161 w.params).lookup f = some ⟨oc, od, .func (fnOf name qual params body scope dV kV doc pm an cdv ct), osl⟩) (hcd : codeIn (hd.heap_161 w.params) cdv qual = true) (hroom : dp + 1 < recursionLimit)
    (hbind : bindArgs (fnOf name qual params body scope dV kV doc pm an cdv ct) ⟨args, []⟩ = pure binds)
    (hkind : ∀ x ∈ binds, scope.names.lookup x.1 = some .local ∨ (scope.names.lookup x.1 = some .cell ∧ ((csOf scope s.heap.objs.size).lookup x.1).isSome = true))
    (h : ∀ h₁ tk, s.toks ≤ tk → Fr s.heap s.heap.objs.size h₁ (bindL (envOfC qual scope s.heap.objs.size f cdv).kindOf binds fun _ => none) →
      Cl s.heap.objs.size (csOf scope s.heap.objs.size) h₁ (bindC (envOfC qual scope s.heap.objs.size f cdv).kindOf binds fun _ => none) →
      wpAny (model PP w) ((arT dp un gd outer).deeper (envOfC qual scope s.heap.objs.size f cdv)) (execs body (envOfC qual scope s.heap.objs.size f cdv))
        (fun fl s' => LeaveS Q (match fl with | .ret v => v | _ => .none) s')
        (fun e s' => wpAny (model PP w) ((arT dp un gd outer).deeper (envOfC qual scope s.heap.objs.size f cdv)) (leaving (envOfC qual scope s.heap.objs.size f cdv) e) (fun _ s'' => E e s'') (fun e' s'' => E e' s'') s')
        { s with heap := h₁, toks := tk })
    (hco : autoParam (scope.isCoroutine = false) aRfl) (hgen : autoParam (scope.isGenerator = false) aRfl) (hk : autoParam (scope.kind = .function) aRfl) :
    wpAny (model PP w) (arT dp un gd outer) (call (.ref f) args) Q E s := by
  refine wpAny_call (codeAny_call_function (fd := fnOf name qual params body scope dV kV doc pm an cdv ct) (body := body) (Nat.lt_of_succ_lt hroom) (C.X _ _ ho) rfl hco hgen rfl (codeRec_of C.X hcd) ?_)
  rw [hbind]
  refine wpAny_pure (wpAny_with_toks (Nat.le_refl _) (wpAny_newFunctionEnv_cells hk hkind fun env he s' x hle => ?_))
  subst he
  refine ⟨C.T.nolimit.keeps x.toInCall.keep, codeAny_func ?_⟩
  obtain ⟨h₁, tk, rfl, _⟩ := x.done
  exact h h₁ tk hle ⟨x.toInCall.ns, x.toInCall.keep, x.toInCall.fresh⟩ ⟨x.cell, x.apart, x.above⟩
theorem Cal.insideC {s₁ : Shared} {L a : Addr} {m : Str → Option Value}
    (C : Cal w mean mg mb dp un gd base outer s) (F : Fr s.heap L s₁.heap m) (htk : 1 ≤ s₁.toks) (hgs : AllBare s₁.gens) (hk : autoParam (scope.kind = .function) aRfl) :
    Cal w mean mg mb (dp + 1) (un + 3) gd base (envOfC qual scope L a cdv :: outer) s₁ :=
  ⟨let B := pushX C.B F (env := envOfC qual scope L a cdv) rfl hk; ⟨rfl, B.stays, B.frames⟩, C.X.keeps F.keep, C.T.keeps F.keep, htk, hgs⟩
end
end Mine
end

section
open PySem PySem.Calls PySem.W PyProof.Rows
namespace Mine
section
variable {prog : Program} {w : World} {A : Around} {R : Result → Shared → Prop} {s : Shared} {E : Value → Shared → Prop}
theorem compLoopAny {elt target iter : Expr} {ifs : List Expr} {scope : Scope} {pos : Pos} {it acc : Value} {env : Env} (I : Nat → Shared → Prop)
    (turn : ∀ n s, I n s → wpAny (model prog w) A (pyNext it) (fun r s₁ => match r with
      | none => R (.ok .next) s₁
      | some v => wpAny (model prog w) A (letOwnedTupleGo target it v) (fun _ s₁' => wpAny (model prog w) A (assign target env v) (fun _ s₂ =>
          wpAny (model prog w) A (forIn ifs true fun c r => if r = true then do let ok ← isTrue c env (eval c env); pure (ForInStep.yield ok) else pure (ForInStep.yield r)) (fun ok s₃ =>
            if ok = true then wpAny (model prog w) A (eval elt env) (fun x s₄ =>
              wpAny (model prog w) A (call (.builtin "list.append") [acc, x]) (fun _ s₅ => ∃ m, m < n ∧ I m s₅) (notedBy (model prog w) A env fun e s' => R (.error e) s') s₄) (notedBy (model prog w) A env fun e s' => R (.error e) s') s₃
            else ∃ m, m < n ∧ I m s₃) (notedBy (model prog w) A env fun e s' => R (.error e) s') s₂) (notedBy (model prog w) A env fun e s' => R (.error e) s') s₁') (notedBy (model prog w) A env fun e s' => R (.error e) s') s₁) (notedBy (model prog w) A env fun e s' => R (.error e) s') s)
    (n : Nat) (h : I n s) :
    codeAny (model prog w) A (.compLoop (.ListComp elt [⟨target, iter, ifs, 0⟩] scope pos) 0 it acc env) R s := by
  refine codeAny_loop rfl I (fun n s hI => ?_) n h
  show wpAny _ A ((compTurn (.ListComp elt [⟨target, iter, ifs, 0⟩] scope pos) 0 it acc env).onRaise (fun x => do noteFrame x env; theTreesLotGoes x)) _ _ s
  refine wpAny_noted ?_
  rw [compTurn_list]
  refine wpAny_bind (wpAny_standAt (wpAny_bind (wpAny_mono (turn n s hI) (fun r s₁ h₁ => ?_) fun _ _ h' => h')))
  cases r with
  | none => exact wpAny_pure h₁
  | some v =>
    refine wpAny_bind (wpAny_mono h₁ (fun _ s₁' h₁' => ?_) fun _ _ h' => h')
    refine wpAny_bind (wpAny_mono h₁' (fun _ s₂ h₂ => wpAny_bind (wpAny_mono h₂ (fun ok s₃ h₃ => ?_) fun _ _ h' => h')) fun _ _ h' => h')
    cases ok with
    | false => exact wpAny_pure ⟨rfl, h₃⟩
    | true =>
      exact wpAny_bind (wpAny_bind (wpAny_mono h₃ (fun x s₄ h₄ => wpAny_bind (wpAny_mono h₄ (fun _ s₅ h₅ => wpAny_pure (wpAny_pure ⟨rfl, h₅⟩)) fun _ _ h' => h')) fun _ _ h' => h'))
end
/-- what drives a comprehension: a next item, laid into its names -/
structure Drv (w : World) (A : Around) (cenv : Env) (target : Expr) (I : Addr) (fp wr : List Addr) (n k : Nat) (B : Nat → (Str → Option Value) → Nat → Prop) (St : Nat → Heap → Prop) : Prop where
  frame : ∀ i h h', St i h → (∀ b ∈ fp, ∀ o, h.get? b = some o → h'.get? b = some o) → St i h'
  item : ∀ i (s : Shared) (m : Str → Option Value) (Q : Option Value → Shared → Prop) (E : Value → Shared → Prop), i < n → St i s.heap → k ≤ s.toks → s.heap.Ns cenv.locals m → cenv.locals ∉ fp →
    (∀ v s₁, (∀ (K : Shared → Prop) (E' : Value → Shared → Prop), (∀ m' h' tk, B i m' tk → St (i + 1) h' → h'.Ns cenv.locals m' → (∀ b o, b ≠ cenv.locals → b ∉ wr → s.heap.get? b = some o → h'.get? b = some o) → s.toks ≤ tk → K { s with heap := h', toks := tk }) →
      wpAny (model PP w) A (letOwnedTupleGo target (.ref I) v) (fun _ s₂ => wpAny (model PP w) A (assign target cenv v) (fun _ s₃ => K s₃) E' s₂) E' s₁) → Q (some v) s₁) →
    wpAny (model PP w) A (pyNext (.ref I)) Q E s
  done : ∀ (s : Shared) (Q : Option Value → Shared → Prop) (E : Value → Shared → Prop), St n s.heap →
    (∀ h' tk, (∀ b o, b ∉ wr → s.heap.get? b = some o → h'.get? b = some o) → s.toks ≤ tk → Q none { s with heap := h', toks := tk }) → wpAny (model PP w) A (pyNext (.ref I)) Q E s
noncomputable abbrev BindN (x : Str) (P : Nat → Value → Nat → Prop) (i : Nat) (m : Str → Option Value) (tk : Nat) : Prop := ∃ v tk', tk' ≤ tk ∧ P i v tk' ∧ m x = some v
noncomputable abbrev BindP (x1 x2 : Str) (P1 P2 : Nat → Value → Prop) (i : Nat) (m : Str → Option Value) (tk : Nat) : Prop := ∃ v1 v2, P1 i v1 ∧ P2 i v2 ∧ m x1 = some v1 ∧ m x2 = some v2
section
variable {w : World} {A : Around} {cenv : Env} {I : Addr} {fp wr : List Addr} {n k : Nat}
theorem Drv.name {x : Str} {px : Pos} {P : Nat → Value → Nat → Prop} {St : Nat → Heap → Prop} (W : Wk w A I fp wr n k P St) (hsub : ∀ b ∈ wr, b ∈ fp) (hk : cenv.scope.kind = .function) (hx : cenv.kindOf x = some .local) :
    Drv w A cenv (.Name x px) I fp wr n k (BindN x P) St where
  frame := W.frame
  item := fun i s m Q E hi hst htk hn hC hQ => by
    refine W.item i _ _ _ hi hst htk fun v h' tk hP hst' hkp hle => hQ _ _ fun K E' hQ => ?_
    show wpAny _ A (pure ()) _ _ _
    refine wpAny_pure ?_
    refine PyProof.Rows.assign_Name (wpAny_storeName_local hx (hn.at' fun o e => hkp _ o (fun hb => hC (hsub _ hb)) e) (fun h₂ hn₂ hs₂ => ?_) (by rw [hk]; rfl))
    exact hQ _ h₂ (tk + 1) ⟨v, tk, Nat.le_succ _, hP, by simp⟩ (W.frame _ _ _ hst' fun b hb o e => (hs₂.2 b (fun q => hC (q ▸ hb))).trans e) hn₂ (fun b o hb1 hb2 e => (hs₂.2 b hb1).trans (hkp b o hb2 e)) (Nat.le_succ_of_le hle)
  done := W.done
theorem Drv.pair {x1 x2 : Str} {p1 p2 tp : Pos} {kk : Nat} {P1 P2 : Nat → Value → Prop} {St : Nat → Heap → Prop} {Mid : Nat → Addr → Heap → Prop} (hA : A.handled = none) (W : WalksT PP w A I fp wr n (PtZ P1 P2) St Mid) (hk : cenv.scope.kind = .function)
    (hx1 : cenv.kindOf x1 = some .local) (hx2 : cenv.kindOf x2 = some .local) (hne : x1 ≠ x2) :
    Drv w A cenv (.Tuple [.Name x1 p1, .Name x2 p2] kk tp) I fp wr n k (BindP x1 x2 P1 P2) St where
  frame := W.frame
  item := fun i s m Q E hi hst htk hn hC hQ => by
    refine wpAny_with_toks (Nat.le_refl _) (W.item i _ _ _ hi hst fun T vals h' tk hP hBT hT hMid hkp htk' => hQ _ _ fun K E' hQ => ?_)
    dsimp only at htk'
    obtain ⟨x, y, hx, hy, rfl⟩ := hP
    refine W.go _ _ _ i T _ _ _ hMid fun h6 hst6 hk6 => ?_
    have hT6 : h6.IsTuple T #[x, y] := by
      obtain ⟨o, ho, r⟩ := hT; exact ⟨o, hk6 _ _ (W.apart _ _ _ hMid) ho, r⟩
    refine assign2 hA hT6 fun h7 hx7 => ?_
    dsimp only at hx7 hk6
    have k67 : ∀ b o, h6.get? b = some o → h7.get? b = some o := fun b o e => hx7 b o (Nat.ne_of_lt (Heap.lt_size e)) e
    have k7 : ∀ b o, b ∉ wr → s.heap.get? b = some o → h7.get? b = some o := fun b o hb e => k67 b o (hk6 b o hb (hkp b o hb e))
    refine wpAny_storeName_local hx1 (hn.at' fun o e => k7 _ o (fun hb => hC (W.sub _ hb)) e) (fun h8 hn8 hs8 => ?_) (by rw [hk]; rfl)
    refine wpAny_storeName_local hx2 hn8 (fun h9 hn9 hs9 => ?_) (by rw [hk]; rfl)
    dsimp only at hs8 hs9
    refine hQ _ h9 _ ⟨x, y, hx, hy, ?_, by simp⟩ ?_ hn9 (fun b o hb1 hb2 e => (hs9.2 b hb1).trans ((hs8.2 b hb1).trans (k7 b o hb2 e))) (by dsimp only; walk_at "om")
    · simp [hne]
    · exact W.frame _ _ _ hst6 fun b hb o e => (hs9.2 b (fun q => hC (q ▸ hb))).trans ((hs8.2 b (fun q => hC (q ▸ hb))).trans (k67 b o e))
  done := fun s Q E st hQ => wpAny_with_toks (Nat.le_refl _) (W.done s _ _ st fun h' tk hkp htk' => hQ h' tk hkp htk')
end
/-- what a comprehension's run leaves of the state at its start -/
structure RelC (wr : List Addr) (s s' : Shared) : Prop where
  keep : ∀ b o, b ∉ wr → s.heap.get? b = some o → s'.heap.get? b = some o
  tk : s.toks ≤ s'.toks
  gs : AllBare s'.gens
  os : s'.os = s.os
section
variable {w : World} {A : Around} {E : Value → Shared → Prop} {env : Env}
theorem comp_blockM {elt iter target : Expr} {ifs : List Expr} {scope : Scope} {cl : List (Str × Addr)} {pos : Pos} {s₂ : Shared} {I : Addr} {fp wr : List Addr} {n k : Nat} {B : Nat → (Str → Option Value) → Nat → Prop} {St : Nat → Heap → Prop} {Acc : Nat → List Value → Prop}
    {RR : Value → Addr → Result → Shared → Prop}
    (W : ∀ C, Drv w A (compEnvC scope cl C env) target I fp wr n k B St) (hself : ∀ (s : Shared) (Q : Value → Shared → Prop) (E : Value → Shared → Prop), St 0 s.heap → Q (.ref I) s → wpAny (model PP w) A (pyIter (.ref I)) Q E s)
    (hcell : ∀ y ∈ scope.names, y.2 ≠ .cell) (hkind : scope.kind = .function) (hst : St 0 s₂.heap) (hfp : ∀ b ∈ fp, b < s₂.heap.objs.size) (hsub : ∀ b ∈ wr, b ∈ fp) (htk : k ≤ s₂.toks) (hgs : AllBare s₂.gens) (hsz : n ≤ 1000) (acc0 : Acc 0 [])
    (step : ∀ C i ys s₃ m₃ E', s₂.heap.objs.size ≤ C → i < n → B i m₃ s₃.toks → s₃.heap.Ns C m₃ → RelC wr s₂ s₃ → Acc i ys →
      wpAny (model PP w) A (forIn ifs true fun c r => if r = true then do let ok ← isTrue c (compEnvC scope cl C env) (eval c (compEnvC scope cl C env)); pure (ForInStep.yield ok) else pure (ForInStep.yield r))
        (fun ok s₄ => Grew s₃ s₄ ∧ if ok = true then wpAny (model PP w) A (eval elt (compEnvC scope cl C env)) (fun y s₅ => Grew s₄ s₅ ∧ Acc (i + 1) (ys ++ [y])) E' s₄ else Acc (i + 1) ys) E' s₃)
    (hRR : ∀ D C s' m' ys, D ≠ C → s₂.heap.objs.size ≤ D → s₂.heap.objs.size ≤ C → s'.heap.Ns C m' → s'.heap.PlainList D ys.toArray → Acc n ys → RelC wr s₂ s' → RR (.ref D) C (.ok .next) s') :
    wpAny (model PP w) A (newList []) (fun acc s₃ => wpAny (model PP w) A (newFunctionEnv scope env.globals cl [] env.qual none .none (some env)) (fun cenv s₄ =>
      codeAny (model PP w) A (.compStart (.ListComp elt [⟨target, iter, ifs, 0⟩] scope pos) 0 (.ref I) acc { cenv with scope := relabel scope env }) (RR acc cenv.locals) s₄) E s₃) E s₂ := by
  refine wpAny_newObj_type (wpAny_newFunctionEnv hcell (by intro y hy; simp at hy) (fun h₁ hns₁ hsb₁ => ?_) hkind)
  dsimp only at hns₁ hsb₁ ⊢
  generalize hH2 : s₂.heap.push { cls := .type "list", dict := none, data := .seq ([] : List Value).toArray } = H2 at hns₁ hsb₁ ⊢
  have hC : H2.objs.size = s₂.heap.objs.size + 1 := by rw [← hH2, Heap.size_push]
  have hDC : s₂.heap.objs.size ≠ H2.objs.size := by rw [hC]; exact Nat.ne_of_lt (Nat.lt_succ_self _)
  have hCle : s₂.heap.objs.size ≤ H2.objs.size := by rw [hC]; exact Nat.le_succ _
  have below : ∀ b, b < s₂.heap.objs.size → b ≠ H2.objs.size ∧ b ≠ s₂.heap.objs.size := fun b hb => ⟨by rw [hC]; exact Nat.ne_of_lt (Nat.lt_succ_of_lt hb), Nat.ne_of_lt hb⟩
  have hDf : s₂.heap.objs.size ∉ fp := fun hm => Nat.lt_irrefl _ (hfp _ hm)
  have hCf : H2.objs.size ∉ fp := fun hm => by have := hfp _ hm; rw [hC] at this; exact Nat.lt_irrefl _ (Nat.lt_of_succ_lt this)
  have hDw : s₂.heap.objs.size ∉ wr := fun hm => hDf (hsub _ hm)
  have hCw : H2.objs.size ∉ wr := fun hm => hCf (hsub _ hm)
  have old : ∀ b o, s₂.heap.get? b = some o → h₁.get? b = some o := fun b o e => hsb₁.extBut b o (below b (Heap.lt_size e)).1 (Heap.get?_push_of_some _ (hH2 ▸ Heap.get?_push_of_some _ e))
  have hacc : h₁.PlainList s₂.heap.objs.size #[] := ⟨_, hsb₁.extBut _ _ hDC (Heap.get?_push_of_some _ (hH2 ▸ Heap.get?_push_size _ rfl))⟩
  have hst₁ : St 0 h₁ := (W H2.objs.size).frame _ _ _ hst fun b _ o e => old b o e
  have loop : ∀ s₃ : Shared, s₃ = { s₂ with heap := h₁, toks := s₂.toks + ([] : List (Str × Value)).length } →
      codeAny (model PP w) A (.compLoop (.ListComp elt [⟨target, iter, ifs, 0⟩] scope pos) 0 (.ref I) (.ref s₂.heap.objs.size) (compEnvC scope cl H2.objs.size env))
        (RR (.ref s₂.heap.objs.size) H2.objs.size) s₃ := by
    rintro s₃ rfl
    refine compLoopAny (fun j s' => ∃ i m' ys, RelC wr s₂ s' ∧ s'.heap.Ns H2.objs.size m' ∧ s'.heap.PlainList s₂.heap.objs.size (List.toArray ys) ∧ Acc i ys ∧ St i s'.heap ∧ i ≤ n ∧ ys.length ≤ i ∧ j = n + 1 - i) ?_ (n + 1)
      ⟨0, _, [], ⟨fun b o _ e => old b o e, Nat.le_add_right _ _, hgs, rfl⟩, hns₁, hacc, acc0, hst₁, Nat.zero_le _, Nat.le_refl _, rfl⟩
    rintro j s' ⟨i, m', ys, hR, hn, hP, ha, hs, hi, hl, rfl⟩
    have lt2 : ∀ {b o}, s₂.heap.get? b = some o → b < s₂.heap.objs.size := fun e => Heap.lt_size e
    by_cases hlt : i < n
    · refine (W H2.objs.size).item i s' m' _ _ hlt hs (Nat.le_trans htk hR.tk) hn hCf fun v s₁ hgo => ?_
      refine hgo _ _ fun m'' h'' tk'' hB hst'' hn'' hk'' hle'' => ?_
      have hR3 : RelC wr s₂ { s' with heap := h'', toks := tk'' } := ⟨fun b o hb e => hk'' b o (below b (lt2 e)).1 hb (hR.keep b o hb e), Nat.le_trans hR.tk hle'', hR.gs, hR.os⟩
      have hP3 : h''.PlainList s₂.heap.objs.size (List.toArray ys) := hP.at fun o e => hk'' _ o hDC hDw e
      refine wpAny_mono (step H2.objs.size i ys { s' with heap := h'', toks := tk'' } m'' _ hCle hlt hB hn'' hR3 ha) (fun ok s₄ h₄ => ?_) fun _ _ e => e
      obtain ⟨G4, h₄⟩ := h₄
      have hR4 : RelC wr s₂ s₄ := ⟨fun b o hb e => G4.keep b o (hR3.keep b o hb e), Nat.le_trans hR3.tk G4.tk, G4.gs, G4.os.trans hR3.os⟩
      have hP4 : s₄.heap.PlainList s₂.heap.objs.size (List.toArray ys) := hP3.at fun o e => G4.keep _ o e
      cases ok with
      | false =>
        exact ⟨n + 1 - (i + 1), by walk_at "om", i + 1, m'', ys, hR4, hn''.keeps G4.keep, hP4, h₄, (W H2.objs.size).frame _ _ _ hst'' fun b _ o e => G4.keep b o e, hlt, Nat.le_succ_of_le hl, rfl⟩
      | true =>
        rw [if_pos rfl] at h₄ ⊢
        refine wpAny_mono h₄ (fun y s₅ h₅ => ?_) fun _ _ e => e
        obtain ⟨G5, h₅⟩ := h₅
        refine wpAny_list_append_plain (hP4.at fun o e => G5.keep _ o e) (fun h6 hP6 hs6 => ?_) (by rw [sizeLine_eq]; simp; walk_at "om")
        have k46 : ∀ b o, b ≠ s₂.heap.objs.size → s₄.heap.get? b = some o → h6.get? b = some o := fun b o hb e => (hs6.2 b hb).trans (G5.keep b o e)
        refine ⟨n + 1 - (i + 1), by walk_at "om", i + 1, m'', ys ++ [y], ⟨fun b o hb e => k46 b o (below b (lt2 e)).2 (hR4.keep b o hb e), Nat.le_trans hR4.tk G5.tk, G5.gs, G5.os.trans hR4.os⟩, ?_, by simpa using hP6, h₅, ?_, hlt, by simp; walk_at "om", rfl⟩
        · exact (hn''.keeps G4.keep).at' fun o e => k46 _ o hDC.symm e
        · exact (W H2.objs.size).frame _ _ _ hst'' fun b hb o e => k46 b o (fun q => hDf (q ▸ hb)) (G4.keep b o e)
    · obtain rfl : i = n := by walk_at "om"
      refine (W H2.objs.size).done _ _ _ hs fun h' tk hk' hle' => ?_
      exact hRR _ _ _ m' ys hDC (Nat.le_refl _) hCle (hn.at' fun o e => hk' _ o hCw e) (hP.at fun o e => hk' _ o hDw e) ha ⟨fun b o hb e => hk' b o hb (hR.keep b o hb e), Nat.le_trans hR.tk hle', hR.gs, hR.os⟩
  exact codeAny_compStart_list (loop _ rfl) (hself _ _ _ hst₁ (loop _ rfl))
end
end Mine
end

section
open PySem PySem.Calls PySem.W PyProof.Rows
namespace Mine
/-- a comprehension, about to run at s₂ -/
structure CompAt (w : World) (A : Around) (env : Env) (scope : Scope) (cl : List (Str × Addr)) (elt target : Expr) (ifs : List Expr) (s₂ : Shared) (I : Addr) (fp wr : List Addr) (n k : Nat) (B : Nat → (Str → Option Value) → Nat → Prop) (St : Nat → Heap → Prop) (Acc : Nat → List Value → Prop) : Prop where
  drv : ∀ C, Drv w A (compEnvC scope cl C env) target I fp wr n k B St
  self : ∀ (s : Shared) (Q : Value → Shared → Prop) (E : Value → Shared → Prop), St 0 s.heap → Q (.ref I) s → wpAny (model PP w) A (pyIter (.ref I)) Q E s
  st0 : St 0 s₂.heap
  fpl : ∀ b ∈ fp, b < s₂.heap.objs.size
  sub : ∀ b ∈ wr, b ∈ fp
  tk : k ≤ s₂.toks
  gs : AllBare s₂.gens
  sz : n ≤ 1000
  acc0 : Acc 0 []
  step : ∀ C i ys s₃ m₃ E', s₂.heap.objs.size ≤ C → i < n → B i m₃ s₃.toks → s₃.heap.Ns C m₃ → RelC wr s₂ s₃ → Acc i ys →
      wpAny (model PP w) A (forIn ifs true fun c r => if r = true then do let ok ← isTrue c (compEnvC scope cl C env) (eval c (compEnvC scope cl C env)); pure (ForInStep.yield ok) else pure (ForInStep.yield r))
        (fun ok s₄ => Grew s₃ s₄ ∧ if ok = true then wpAny (model PP w) A (eval elt (compEnvC scope cl C env)) (fun y s₅ => Grew s₄ s₅ ∧ Acc (i + 1) (ys ++ [y])) E' s₄ else Acc (i + 1) ys) E' s₃
section
variable {w : World} {A : Around} {E : Value → Shared → Prop} {s : Shared} {env : Env}
theorem evalComp {elt iter target : Expr} {ifs : List Expr} {scope : Scope} {cl : List (Str × Addr)} {pos : Pos} {Q : Value → Shared → Prop}
    (hclos : closureFor scope env = pure cl) (hcell : ∀ y ∈ scope.names, y.2 ≠ .cell) (hkind : scope.kind = .function) (hnames : ∀ y ∈ scope.names, y.2 = .local → scope.names.lookup y.1 = some .local)
    (h : wpAny (model PP w) A (eval iter env) (fun xv s₁ => wpAny (model PP w) A (pyIter xv) (fun it s₂ => ∃ I fp wr n k B St Acc, it = .ref I ∧ CompAt w A env scope cl elt target ifs s₂ I fp wr n k B St Acc ∧
      (∀ D s' ys, s₂.heap.objs.size ≤ D → s'.heap.PlainList D (List.toArray ys) → Acc n ys → RelC wr s₂ s' → Q (.ref D) s')) E s₁) E s)
    (hs : autoParam (∀ x, foldedSetIterable iter env x = pure x) aIntR) :
    wpAny (model PP w) A (eval (.ListComp elt [⟨target, iter, ifs, 0⟩] scope pos) env) Q E s := by
  rw [eval_ListComp]
  refine wpAny_comprehension_free (use := none) rfl hs hclos hkind hnames (wpAny_mono h (fun xv s₁ h₁ => wpAny_mono h₁ (fun it s₂ h₂ => ?_) fun _ _ e => e) fun _ _ e => e)
  obtain ⟨I, fp, wr, n, k, B, St, Acc, rfl, CA, hQ⟩ := h₂
  refine comp_blockM (RR := fun acc C => compPost (model PP w) A E none Q acc C) CA.drv CA.self hcell hkind CA.st0 CA.fpl CA.sub CA.tk CA.gs CA.sz CA.acc0 CA.step ?_
  intro D C s' m' ys hDC hD hC hn hP ha hR
  refine ⟨m', hn, fun h'' hs'' => hQ D _ ys hD (hP.at fun o e => (hs''.2 _ hDC).trans e) ha ⟨fun b o hb e => (hs''.2 b ?_).trans (hR.keep b o hb e), hR.tk, hR.gs, hR.os⟩⟩
  exact Nat.ne_of_lt (Nat.lt_of_lt_of_le (Heap.lt_size e) hC)
theorem assignComp {elt iter target : Expr} {y : Str} {py : Pos} {ifs : List Expr} {scope : Scope} {cl : List (Str × Addr)} {pos spos : Pos} {m : Str → Option Value} {L : Addr} {Q : Flow → Shared → Prop}
    (hsw : swapsWith (.ListComp elt [⟨target, iter, ifs, 0⟩] scope pos) (some (.Name y py)) spos.line env = pure true)
    (hclos : closureFor scope env = pure cl) (hcell : ∀ y ∈ scope.names, y.2 ≠ .cell) (hkind : scope.kind = .function) (hnames : ∀ y ∈ scope.names, y.2 = .local → scope.names.lookup y.1 = some .local)
    (hy : env.kindOf y = some .local) (hp : env.scope.kind = .function) (hL : env.locals = L) (hn : s.heap.Ns L m)
    (h : wpAny (model PP w) A (eval iter env) (fun xv s₁ => wpAny (model PP w) A (pyIter xv) (fun it s₂ => ∃ I fp wr n k B St Acc, it = .ref I ∧ CompAt w A env scope cl elt target ifs s₂ I fp wr n k B St Acc ∧
      (∀ b ∈ wr, s.heap.objs.size ≤ b) ∧ (∀ b o, s.heap.get? b = some o → s₂.heap.get? b = some o) ∧ s.toks ≤ s₂.toks ∧ s₂.os = s.os ∧ s.heap.objs.size ≤ s₂.heap.objs.size ∧
      (∀ D s' ys, s.heap.objs.size ≤ D → s'.heap.Ns L (fun z => if z = y then some (.ref D) else m z) → s'.heap.PlainList D (List.toArray ys) → Acc n ys → (∀ b o, b ≠ L → s.heap.get? b = some o → s'.heap.get? b = some o) → s.toks ≤ s'.toks → AllBare s'.gens → s'.os = s.os → Q .next s')) E s₁) E s)
    (hs : autoParam (∀ x, foldedSetIterable iter env x = pure x) aIntR) :
    wpAny (model PP w) A (exec (.Assign [.Name y py] (.ListComp elt [⟨target, iter, ifs, 0⟩] scope pos) spos) env) Q E s := by
  subst hL
  rw [exec_Assign_Name_used _ _ _ _ hsw]
  refine wpAny_bind (wpAny_standAt (wpAny_bind ?_))
  show wpAny _ A (do let _ ← comprehension (.ListComp elt [⟨target, iter, ifs, 0⟩] scope pos) scope env _ (newList []) false (eval iter env) (some (assign (.Name y py) env))) _ _ s
  refine wpAny_bind (wpAny_mono (wpAny_comprehension_free (use := some (assign (.Name y py) env)) (Q := fun _ s' => Q .next s') rfl hs hclos hkind hnames
    (wpAny_mono h (fun xv s₁ h₁ => wpAny_mono h₁ (fun it s₂ h₂ => ?_) fun _ _ e => e) fun _ _ e => e)) (fun _ s' hq => wpAny_pure (wpAny_pure hq)) fun _ _ e => e)
  obtain ⟨I, fp, wr, n, k, B, St, Acc, rfl, CA, hw, hk2, htk2, hos2, hs2, hQ⟩ := h₂
  refine comp_blockM (RR := fun acc C => compPost (model PP w) A E (some (assign (.Name y py) env)) (fun _ s' => Q .next s') acc C) CA.drv CA.self hcell hkind CA.st0 CA.fpl CA.sub CA.tk CA.gs CA.sz CA.acc0 CA.step ?_
  intro D C s' m' ys hDC hD hC hnC hP ha hR
  have hLlt : env.locals < s.heap.objs.size := hn.lt
  have hLw : env.locals ∉ wr := fun hb => Nat.not_lt.mpr (hw _ hb) hLlt
  have hLC : env.locals ≠ C := Nat.ne_of_lt (Nat.lt_of_lt_of_le hLlt (Nat.le_trans hs2 hC))
  have hLD : env.locals ≠ D := Nat.ne_of_lt (Nat.lt_of_lt_of_le hLlt (Nat.le_trans hs2 hD))
  have hk : ∀ b o, s.heap.get? b = some o → s'.heap.get? b = some o := fun b o e => hR.keep b o (fun hb => Nat.not_lt.mpr (hw _ hb) (Heap.lt_size e)) (hk2 b o e)
  show wpAny _ A (assign (.Name y py) env (.ref D)) _ _ _
  refine wpAny_assign_Name (wpAny_storeName_local hy (hn.keeps hk) (fun h₂ hn₂ hs₂ => ?_) (by rw [hp]; rfl))
  refine ⟨m', hnC.sameBut hs₂ (Ne.symm hLC), fun h₃ hs₃ => ?_⟩
  dsimp only at hs₂ hs₃
  refine hQ D _ ys (Nat.le_trans hs2 hD) (hn₂.sameBut hs₃ hLC) (hP.at fun o e => (hs₃.2 _ hDC).trans ((hs₂.2 _ (Ne.symm hLD)).trans e)) ha (fun b o hb e => ?_) (Nat.le_succ_of_le (Nat.le_trans htk2 hR.tk)) hR.gs (hR.os.trans hos2)
  exact (hs₃.2 b (Nat.ne_of_lt (Nat.lt_of_lt_of_le (Heap.lt_size e) (Nat.le_trans hs2 hC)))).trans ((hs₂.2 b hb).trans (hk b o e))
end
/-- the source of a comprehension over a text -/
theorem compStr {w : World} {A : Around} {env : Env} {scope : Scope} {cl : List (Str × Addr)} {elt : Expr} {ifs : List Expr} {s₂ : Shared} {h : Heap} {x : Str} {px : Pos} {l : List Nat} {o : Obj} {St : Nat → Heap → Prop} {k : Nat} {Acc : Nat → List Value → Prop}
    (hW : ∀ (A' : Around) (k : Nat), A'.handled = none → Wk w A' h.objs.size [h.objs.size] [h.objs.size] l.length k (SgAt l k) St) (hA : A.handled = none) (hs : s₂.heap = h.push o) (st0 : St 0 (h.push o)) (htk : k ≤ s₂.toks) (hgs : AllBare s₂.gens) (hsz : l.length ≤ 1000) (acc0 : Acc 0 [])
    (hself : ∀ (s : Shared) (Q : Value → Shared → Prop) (E : Value → Shared → Prop), St 0 s.heap → Q (.ref h.objs.size) s → wpAny (model PP w) A (pyIter (.ref h.objs.size)) Q E s)
    (hk : ∀ C, (compEnvC scope cl C env).scope.kind = .function) (hx : ∀ C, (compEnvC scope cl C env).kindOf x = some .local)
    (step : ∀ C i ys s₃ m₃ E' c u, s₂.heap.objs.size ≤ C → i < l.length → l[i]? = some c → m₃ x = some (.str (S [c]) u) → @LE.le Nat _ k u → @LT.lt Nat _ u s₃.toks → s₃.heap.Ns C m₃ → RelC [h.objs.size] s₂ s₃ → Acc i ys →
      wpAny (model PP w) A (forIn ifs true fun c r => if r = true then do let ok ← isTrue c (compEnvC scope cl C env) (eval c (compEnvC scope cl C env)); pure (ForInStep.yield ok) else pure (ForInStep.yield r))
        (fun ok s₄ => Grew s₃ s₄ ∧ if ok = true then wpAny (model PP w) A (eval elt (compEnvC scope cl C env)) (fun y s₅ => Grew s₄ s₅ ∧ Acc (i + 1) (ys ++ [y])) E' s₄ else Acc (i + 1) ys) E' s₃) :
    CompAt w A env scope cl elt (.Name x px) ifs s₂ h.objs.size [h.objs.size] [h.objs.size] l.length k (BindN x (SgAt l k)) St Acc where
  drv := fun C => Drv.name (hW A k hA) (fun _ hb => hb) (hk C) (hx C)
  self := hself
  st0 := hs ▸ st0
  fpl := fun b hb => by rw [hs, Heap.size_push]; simp at hb; subst hb; exact Nat.lt_succ_self _
  sub := fun _ hb => hb
  tk := htk
  gs := hgs
  sz := hsz
  acc0 := acc0
  step := fun C i ys s₃ m₃ E' hC hi hB hn hR ha => by
    obtain ⟨v, tk', hle, ⟨c, u, hc, rfl, hu1, hu2⟩, hm⟩ := hB
    exact step C i ys s₃ m₃ E' c u hC hi hc hm hu1 (Nat.lt_of_lt_of_le hu2 hle) hn hR ha
end Mine
end

section
open PySem PySem.Calls PySem.W PyProof.Rows
namespace Mine
theorem Grew.rfl' {s : Shared} (h : AllBare s.gens) : Grew s s := ⟨fun _ _ e => e, Nat.le_refl _, h, rfl⟩
theorem pyIter_S2 {w : World} {A : Around} {E : Value → Shared → Prop} {s : Shared} {l : List Nat} {t : Tok} {Q : Value → Shared → Prop}
    (hQ : ∀ (o : Obj) (St : Nat → Heap → Prop), (∀ (A' : Around) (k : Nat), A'.handled = none → Wk w A' s.heap.objs.size [s.heap.objs.size] [s.heap.objs.size] l.length k (SgAt l k) St) → St 0 (s.heap.push o) →
      (∀ (A' : Around) (s' : Shared) (Q : Value → Shared → Prop) (E : Value → Shared → Prop), St 0 s'.heap → Q (.ref s.heap.objs.size) s' → wpAny (model PP w) A' (pyIter (.ref s.heap.objs.size)) Q E s') → (∀ i h, St i h → s.heap.objs.size < h.objs.size) →
      Q (.ref s.heap.objs.size) { s with heap := s.heap.push o }) : wpAny (model PP w) A (pyIter (.str (S l) t)) Q E s := by
  cases ha : (S l).cps.all (· < 128)
  · exact wpAny_pyIter_wide ha (hQ _ _ (fun A' k hA => Wk.wide hA _ l t k) ⟨_, Heap.get?_push_size _ rfl, rfl, rfl⟩ (fun A' s' Q E st h => wpAny_pyIter_striter_wide st h) fun i h st => by obtain ⟨o, e, _⟩ := st; exact Heap.lt_size e)
  · exact wpAny_pyIter_ascii ha (hQ _ _ (fun A' k hA => Wk.ascii hA _ l t k) ⟨_, Heap.get?_push_size _ rfl, rfl, rfl⟩ (fun A' s' Q E st h => wpAny_pyIter_striter_ascii st h) fun i h st => by obtain ⟨o, e, _⟩ := st; exact Heap.lt_size e)
/-- a text's iterator -/
structure IterS (w : World) (I : Addr) (l : List Nat) (St : Nat → Heap → Prop) : Prop where
  wk : ∀ (A' : Around) (k : Nat), A'.handled = none → Wk w A' I [I] [I] l.length k (SgAt l k) St
  self : ∀ (A' : Around) (s' : Shared) (Q : Value → Shared → Prop) (E : Value → Shared → Prop), St 0 s'.heap → Q (.ref I) s' → wpAny (model PP w) A' (pyIter (.ref I)) Q E s'
  lt : ∀ i h, St i h → I < h.objs.size
theorem pyIter_S3 {w : World} {A : Around} {E : Value → Shared → Prop} {s : Shared} {l : List Nat} {t : Tok} {Q : Value → Shared → Prop}
    (hQ : ∀ (o : Obj) (St : Nat → Heap → Prop), IterS w s.heap.objs.size l St → St 0 (s.heap.push o) → Q (.ref s.heap.objs.size) { s with heap := s.heap.push o }) : wpAny (model PP w) A (pyIter (.str (S l) t)) Q E s :=
  pyIter_S2 fun o St h1 h2 h3 h4 => hQ o St ⟨h1, h3, h4⟩ h2
/-- one sign of a text -/
theorem itemStr {w : World} {A : Around} {E : Value → Shared → Prop} {s : Shared} {value slice : Expr} {l : List Nat} {t u : Tok} {k c : Nat} {Q : Value → Shared → Prop} (hl : l.length ≤ 1000) (hx : l[k]? = some c)
    (h : ∀ t' tk, s.toks ≤ tk → Q (.str (S [c]) t') { s with toks := tk })
    (hs : autoParam (subscripted slice false (.str (S l) t) (.int (k : Nat) u) = operate [.str (S l) t, .int (k : Nat) u] (getItem (.str (S l) t) (.int (k : Nat) u))) aUnf) (hg : autoParam (∀ r, letTemporaryGo value (.str (S l) t) r = pure ()) aIntU) :
    wpAny (model PP w) A (subscriptTail value slice (.str (S l) t) (.int (k : Nat) u)) Q E s := by
  have hk : k < l.length := (List.getElem?_eq_some_iff.mp hx).1
  refine wpAny_with_toks (Nat.le_refl _) (tail_of_ItemOn (SBL.item (by rw [S_length]; walk_at "om") (by rw [S_length]; walk_at "om") (by rw [S_length]; walk_at "om") (fun _ hle => ?_)) hs hg)
  have e : Txt.item (S l) (k : Nat) = S [c] := by
    have e1 : seqIndex? ((k : Nat) : Int) (S l).length = some k := by
      unfold seqIndex?; rw [S_length]; simp; walk_at "om"
    unfold Txt.item Txt.charAt
    rw [e1]
    simp [S, hx]
  rw [e]; exact h _ _ hle
section
variable {K : Type} [DecidableEq K]
theorem valueAt_nil (k : K) : valueAt ([] : List (K × Value)) k = none := rfl
theorem valueAt_cons (p : K × Value) (r : List (K × Value)) (k : K) : valueAt (p :: r) k = if p.1 = k then some p.2 else valueAt r k := by
  unfold valueAt
  rw [List.find?_cons]
  by_cases h : p.1 = k
  · simp [h]
  · simp [h]
theorem valueAt_append (k k' : K) (v : Value) : ∀ kvs : List (K × Value), valueAt kvs k' = none ∨ True → valueAt (kvs ++ [(k, v)]) k' = (valueAt kvs k').or (if k = k' then some v else none)
  | [], _ => by rw [List.nil_append, valueAt_cons, valueAt_nil]; simp
  | p :: r, _ => by
    rw [List.cons_append, valueAt_cons, valueAt_cons, valueAt_append k k' v r (.inr trivial)]
    split <;> simp
theorem valueAt_map (k k' : K) (v : Value) : ∀ kvs : List (K × Value), valueAt (kvs.map fun kv => if kv.1 = k then (kv.1, v) else kv) k' = if k' = k then (valueAt kvs k').map (fun _ => v) else valueAt kvs k'
  | [] => by simp [valueAt_nil]
  | p :: r => by
    rw [List.map_cons, valueAt_cons, valueAt_cons, valueAt_map k k' v r]
    by_cases h : p.1 = k <;> by_cases h2 : k' = k
    · subst h2; simp [h]
    · have : ¬ p.1 = k' := fun e => h2 (e.symm.trans h)
      have h3 : ¬ k = k' := fun e => h2 e.symm
      simp [h, h2, this, h3]
    · subst h2; simp [h]
    · simp [h, h2]
theorem valueAt_any (k : K) : ∀ kvs : List (K × Value), kvs.any (fun kv => kv.1 = k) = (valueAt kvs k).isSome
  | [] => rfl
  | p :: r => by
    rw [List.any_cons, valueAt_cons, valueAt_any k r]
    by_cases h : p.1 = k <;> simp [h]
theorem valueAt_stored (kvs : List (K × Value)) (k k' : K) (v : Value) : valueAt (stored kvs k v) k' = if k' = k then some v else valueAt kvs k' := by
  unfold stored
  rw [valueAt_any]
  cases h : valueAt kvs k with
  | none =>
    rw [if_neg (by simp), valueAt_append k k' v kvs (.inr trivial)]
    by_cases h2 : k' = k
    · subst h2; simp [h]
    · have : ¬ k = k' := fun e => h2 e.symm
      simp [h2, this]
  | some x =>
    rw [if_pos (by simp), valueAt_map]
    by_cases h2 : k' = k
    · subst h2; simp [h]
    · simp [h2]
end
/-- a dict of texts -/
noncomputable def DictSt (w : World) (h : Heap) (d : Addr) (n : Nat) (f : Str → Option Value) : Prop := ∃ kvs, h.DictOf (PySem.strKind PP w) d kvs ∧ kvs.length ≤ n ∧ ∀ k v, f k = some v → valueAt kvs k = some v
theorem DictSt.at {w : World} {h h' : Heap} {d : Addr} {n : Nat} {f : Str → Option Value} (x : DictSt w h d n f) (hk : ∀ o, h.get? d = some o → h'.get? d = some o) : DictSt w h' d n f :=
  let ⟨kvs, ⟨o, es, ep, e, r⟩, b⟩ := x; ⟨kvs, ⟨o, es, ep, hk o e, r⟩, b⟩
theorem DictSt.lt {w : World} {h : Heap} {d : Addr} {n : Nat} {f : Str → Option Value} (x : DictSt w h d n f) : d < h.objs.size := by
  obtain ⟨_, ⟨o, _, _, q, _⟩, _⟩ := x; exact Heap.lt_size q
theorem DictSt.set {w : World} {A : Around} {E : Value → Shared → Prop} {s : Shared} {d : Addr} {n : Nat} {f : Str → Option Value} {x : Str} {t : Tok} {v : Value} {Q : Unit → Shared → Prop} (hd : DictSt w s.heap d n f) (hn : n ≤ 1000)
    (h : ∀ h', DictSt w h' d (n + 1) (fun y => if y = x then some v else f y) → Heap.SameBut d s.heap h' → Q () { s with heap := h', toks := s.toks + 1 }) :
    wpAny (model PP w) A (setItem (.ref d) (.str x t) v) Q E s := by
  obtain ⟨kvs, hd, hl, hv⟩ := hd
  refine wpAny_setItem_pairs (strKind_is PP w x t) hd (fun h' hd' hs' => h h' ⟨_, hd', Nat.le_trans (stored_length_le ..) (Nat.succ_le_succ hl), fun k v' e => ?_⟩ hs') (by rw [sizeLine_eq]; walk_at "om")
  rw [valueAt_stored]
  dsimp only at e
  by_cases hk : k = x
  · rw [if_pos hk] at e ⊢; exact e
  · rw [if_neg hk] at e ⊢; exact hv k v' e
theorem DictSt.get {w : World} {A : Around} {E : Value → Shared → Prop} {s : Shared} {value slice : Expr} {d : Addr} {n : Nat} {f : Str → Option Value} {x : Str} {t : Tok} {v : Value} {Q : Value → Shared → Prop} (hd : DictSt w s.heap d n f) (hv : f x = some v)
    (h : Q v { s with toks := s.toks + 1 })
    (hs : autoParam (subscripted slice false (.ref d) (.str x t) = operate [.ref d, .str x t] (getItem (.ref d) (.str x t))) aUnf) (hg : autoParam (∀ r, letTemporaryGo value (.ref d) r = pure ()) aIntU) :
    wpAny (model PP w) A (subscriptTail value slice (.ref d) (.str x t)) Q E s := by
  obtain ⟨kvs, hd, hl, hq⟩ := hd
  have hm := hd.mapOf
  exact subscriptTail_builtin hm.typeIs slot_dict_getitem.lookup (wpAny_getItem_of (strKind_is PP w x t) hm (hq x v hv) h) hs hg
theorem DictSt.new {w : World} (h : Heap) : DictSt w (h.push { cls := .type "dict", data := .dict #[] }) h.objs.size 0 (fun _ => none) := ⟨[], Heap.DictOf.new h, Nat.le_refl _, fun _ _ e => nomatch e⟩
theorem WkSt.keep {w : World} {I : Addr} {n k : Nat} {P : Nat → Value → Nat → Prop} {St : Nat → Heap → Prop} (W : Wk w ({} : Around) I [I] [I] n k P St) {i : Nat} {h h' : Heap} (st : St i h) (hk : ∀ o, h.get? I = some o → h'.get? I = some o) : St i h' :=
  W.frame _ _ _ st fun b hb o e => by simp at hb; subst hb; exact hk o e
end Mine
end

section
open PySem PySem.Calls PySem.W PyProof.Rows
namespace Mine
example (P : Params) : hd.heap_161 P = hd.heap_161 P ∧ PySem.Challenge.rw_wr0028_01 = PySem.Challenge.rw_wr0028_01 := by k_fill; exact ⟨rfl, rfl⟩
noncomputable def pieceL (wh : Int) (x : Nat) : List Nat := wri wh [x] ++ dots
noncomputable def rowW (wh : Int) (a b c : Nat) : List Nat := wri wh ([c, c] ++ [b, b] ++ [a, a])
noncomputable def fallL (wh : Int) (a b c x y : Nat) : Bool := ellB (dots ++ pieceL wh x ++ pieceL wh y) (rowW wh a b c)
noncomputable def thriceL (wh : Int) (x : Nat) : List Nat := dots ++ (List.replicate 3 (pieceL wh x)).flatten
noncomputable def okWords (wh : Int) (a b c : Nat) : Bool := [a, b, c].all fun x => ellOk (thriceL wh x) && !(ellB (thriceL wh x) (rowW wh a b c)) && decide ((wri wh [x]).length ≤ 10) && [a, b, c].all fun y => ellOk (dots ++ pieceL wh x ++ pieceL wh y)
noncomputable def wordsL (wh : Int) (a b c : Nat) (first last : Bool) : List (List Nat) :=
  [a, b, c].flatMap fun x => [a, b, c].flatMap fun y => if fallL wh a b c x y = first then ([a, b, c].filter fun z => fallL wh a b c y z == last).map fun z => [x, y, z] else []
theorem Cl.keepL {L : Addr} {cs : List (Str × Addr)} {h h' : Heap} {cm : Str → Option Value} (X : Cl L cs h cm) (hk : ∀ b o, b ≠ L → h.get? b = some o → h'.get? b = some o) : Cl L cs h' cm :=
  ⟨fun n c e => let ⟨o, ho, hd⟩ := X.cell n c e; ⟨o, hk c o (Nat.ne_of_gt (X.above n c (mem_of_lookup e))) ho, hd⟩, X.apart, X.above⟩
section
variable {M : Model} {A : Around} {E : Value → Shared → Prop} {s : Shared} {name : Str} {scope : Scope} {L a : Addr} {cd : Value} {h₀ : Heap} {m cm : Str → Option Value}
theorem stLk {x : Str} {v : Value} {Q : Unit → Shared → Prop} (F : Fr h₀ L s.heap m) (X : Cl L (csOf scope L) s.heap cm)
    (h : ∀ h', Fr h₀ L h' (fun y => if y = x then some v else m y) → Cl L (csOf scope L) h' cm → Heap.SameBut L s.heap h' → Q () { s with heap := h', toks := s.toks + 1 })
    (hk : autoParam (scope.kind = .function) aRfl) (hl : autoParam ((envOfC name scope L a cd).kindOf x = some .local) aRfl) :
    wpAny M A (storeName (envOfC name scope L a cd) x v) Q E s :=
  wpAny_storeName_local hl F.ns (fun h' hn hs => h h' (F.set hn hs) (X.sameBut hs (Nat.le_refl _)) hs)
    (by show (scope.kind == .class || (scope.kind == .module && L != mainGlobals)) = false; rw [hk]; rfl)
theorem stCk {x : Str} {c : Addr} {v : Value} {Q : Unit → Shared → Prop} (F : Fr h₀ L s.heap m) (X : Cl L (csOf scope L) s.heap cm) (hc : (csOf scope L).lookup x = some c)
    (h : ∀ h', Fr h₀ L h' m → Cl L (csOf scope L) h' (fun y => if y = x then some v else cm y) → Heap.SameBut c s.heap h' → Q () { s with heap := h' })
    (hk : autoParam (scope.kind = .function) aRfl) (hl : autoParam ((envOfC name scope L a cd).kindOf x = some .cell) aRfl) :
    wpAny M A (storeName (envOfC name scope L a cd) x v) Q E s := by
  have hLc : L < c := X.above x c (mem_of_lookup hc)
  refine wpAny_storeName_cell hk hl hc (X.cell x c hc) fun h' hv hs => h h' ⟨F.ns.sameBut hs (Nat.ne_of_lt hLc), fun b o e => (hs.2 b (Nat.ne_of_lt (Nat.lt_trans (Nat.lt_of_lt_of_le (Heap.lt_size e) F.above) hLc))).trans (F.keep b o e), F.above⟩
    ⟨fun n c' e => ?_, X.apart, X.above⟩ hs
  by_cases hn : n = x
  · subst hn; rw [hc] at e; cases e; simpa using hv
  · have hcc : c' ≠ c := fun q => hn (name_of_addr X.apart (mem_of_lookup e) (q ▸ mem_of_lookup hc))
    simpa [hn] using (X.cell n c' e).sameBut hs hcc
end
/-- what the words' def holds to through its loops -/
structure WB (w : World) (s : Shared) (cs : List (Str × Addr)) (wh : Int) (a b c : Nat) (first last : Bool) (tw tl tr : Tok) (Dp Dd : Addr) (ps : List (Str × Tok)) (R : List (Nat × Nat)) (m cm : Str → Option Value) (s' : Shared) : Prop where
  F : Fr s.heap s.heap.objs.size s'.heap m
  X : Cl s.heap.objs.size cs s'.heap cm
  e1 : m "letters" = some (.str (S [a, b, c]) tl)
  e2 : m "row" = some (.str (S (rowW wh a b c)) tr)
  e3 : m "pieces" = some (.ref Dp)
  e4 : m "first" = some (.bool first)
  c1 : cm "which" = some (.int wh tw)
  c2 : cm "last" = some (.bool last)
  c3 : cm "falls" = some (.ref Dd)
  P : s'.heap.PlainList Dp (strValues ps).toArray
  D : ∃ f, DictSt w s'.heap Dd R.length f ∧ ∀ p ∈ R, f (S [p.1, p.2]) = some (.bool (fallL wh a b c p.1 p.2))
  tk : s.toks ≤ s'.toks
  gs : AllBare s'.gens
  os : s'.os = s.os
theorem WB.step {w : World} {s : Shared} {cs : List (Str × Addr)} {wh : Int} {a b c : Nat} {first last : Bool} {tw tl tr : Tok} {Dp Dd : Addr} {ps : List (Str × Tok)} {R : List (Nat × Nat)} {m cm m1 cm1 : Str → Option Value} {s1 s' s'' : Shared} {wr : List Addr}
    (W1 : WB w s cs wh a b c first last tw tl tr Dp Dd ps R m1 cm1 s1) {R' : List (Nat × Nat)} (W : WB w s cs wh a b c first last tw tl tr Dp Dd ps R' m cm s') (hw : ∀ x ∈ wr, s1.heap.objs.size ≤ x)
    (hk : ∀ b o, b ∉ wr → s'.heap.get? b = some o → s''.heap.get? b = some o) (hle : s'.toks ≤ s''.toks) (hg : AllBare s''.gens) (ho : s''.os = s'.os) : WB w s cs wh a b c first last tw tl tr Dp Dd ps R' m cm s'' where
  F := Fr.stepNew W1.F W.F hw hk
  X := Cl.stepNew W1.X W.X hw hk
  e1 := W.e1
  e2 := W.e2
  e3 := W.e3
  e4 := W.e4
  c1 := W.c1
  c2 := W.c2
  c3 := W.c3
  P := W.P.at fun o e => hk _ o (fun hb => Nat.not_lt.mpr (hw _ hb) (plainLt W1.P)) e
  D := let ⟨f, hd, hf⟩ := W.D; ⟨f, hd.at fun o e => hk _ o (fun hb => Nat.not_lt.mpr (hw _ hb) (W1.D.elim fun _ hZ => hZ.1.lt)) e, hf⟩
  tk := Nat.le_trans W.tk hle
  gs := hg
  os := ho.trans W.os
theorem pairs_length (a b c : Nat) : ∀ l : List Nat, (l.flatMap fun x => [a, b, c].map fun y => (x, y)).length = 3 * l.length
  | [] => rfl
  | x :: r => by rw [List.flatMap_cons, List.length_append, pairs_length a b c r]; simp; walk_at "om"
theorem listNeCell {L : Addr} {cs : List (Str × Addr)} {h : Heap} {cm : Str → Option Value} {n : Str} {c' D : Addr} {it : Array Value} (X : Cl L cs h cm) (e : cs.lookup n = some c') (P : h.PlainList D it) : D ≠ c' := by
  rintro rfl
  obtain ⟨k, q⟩ := P
  obtain ⟨o', e1, e2⟩ := X.cell n _ e
  rw [q] at e1; cases e1; cases e2
theorem flatMap_le {f : Nat → List (List Nat)} {k : Nat} (h : ∀ x, (f x).length ≤ k) : ∀ l : List Nat, (l.flatMap f).length ≤ l.length * k
  | [] => by simp
  | x :: r => by have := h x; have := flatMap_le h r; rw [List.flatMap_cons, List.length_append, List.length_cons, Nat.succ_mul]; walk_at "om"
theorem orNe {b n D L : Nat} (hb : n ≤ b ∨ b = D) (h1 : L < n) (h2 : L < D) : b ≠ L := by
  rcases hb with hb | rfl
  · exact Nat.ne_of_gt (Nat.lt_of_lt_of_le h1 hb)
  · exact Nat.ne_of_gt h2
theorem words_spec {w : World} {s : Shared} (wh : Int) (a b c : Nat) (first last : Bool) (tw tl : Tok) (hok : okWords wh a b c = true) (hrow : (rowW wh a b c).length ≤ 1000) :
    Clm w 103 [.int wh tw, .str (S [a, b, c]) tl, .bool first, .bool last] 3 8 s (fun v s' => ∃ D ps, v = .ref D ∧ s'.heap.PlainList D (strValues ps).toArray ∧ ps.map (·.1) = (wordsL wh a b c first last).map S) := by
  intro mean mg mb dp un gd base outer Q E C hdp hu hret
  refine enterC (binds := [("which", .int wh tw), ("letters", .str (S [a, b, c]) tl), ("first", .bool first), ("last", .bool last)]) C (by k_is) (by k_is) (by walk_at "om") rfl ?_ (fun h₁ tk₁ htk₁ F X => ?_)
  · intro x hx
    simp only [List.mem_cons, List.not_mem_nil, or_false] at hx
    rcases hx with rfl | rfl | rfl | rfl
    · exact .inr ⟨rfl, rfl⟩
    · exact .inl rfl
    · exact .inl rfl
    · exact .inr ⟨rfl, rfl⟩
  have htk := C.tk
  have hwl : ∀ x ∈ [a, b, c], (wri wh [x]).length ≤ 10 := fun x hx => by
    have := List.all_eq_true.mp hok x hx
    simp only [Bool.and_eq_true, decide_eq_true_eq] at this
    exact this.1.2
  -- row
  refine wpAny_execs_cons (wpAny_Assign_Name (Call_ ?_))
  refine nmK F.keep C.X (topRead_of C.T) (by k_is) ?_
  refine callWith_K C.X (by k_is) (args_cons (nmC X rfl ?_ rfl))
  refine args_cons (wpAny_BinOp (wpAny_BinOp (wpAny_BinOp (Subscript_ (ldLoc F rfl (wpAny_Constant_int ?_))))))
  refine itemStr (l := [a, b, c]) (k := 2) (c := c) (by simp) rfl fun t1 k1 l1 => ?_
  refine wpAny_Constant_int (mulS1 (by decide) (by decide) fun t2 k2 l2 => ?_)
  refine wpAny_BinOp (Subscript_ (ldLoc F rfl (wpAny_Constant_int ?_)))
  refine itemStr (l := [a, b, c]) (k := 1) (c := b) (by simp) rfl fun t3 k3 l3 => ?_
  refine wpAny_Constant_int (mulS1 (by decide) (by decide) fun t4 k4 l4 => ?_)
  refine addSS (by simp) fun t5 k5 l5 => ?_
  refine wpAny_BinOp (Subscript_ (ldLoc F rfl (wpAny_Constant_int ?_)))
  refine itemStr (l := [a, b, c]) (k := 0) (c := a) (by simp) rfl fun t6 k6 l6 => ?_
  refine wpAny_Constant_int (mulS1 (by decide) (by decide) fun t7 k7 l7 => ?_)
  refine addSS (by simp) fun t8 k8 l8 => ?_
  refine args_nil ⟨C.X.keeps F.keep, ?_⟩
  dsimp only at l1 l2 l3 l4 l5 l6 l7 l8
  refine (written wh tw _ t8 (by simp)).str mean mg mb _ _ _ base _ _ _ (C.insideC F (by dsimp only; walk_at "om") C.gs) (show dp + 1 + 2 < recursionLimit by walk_at "om") (show un + 3 + 4 < cLine by walk_at "om") fun t₂ s₂ G => ?_
  have hle₂ := G.tk
  have hgs₂ := G.gs
  have hos₂ := G.os
  dsimp only at hle₂ hos₂
  refine stLoc (frGrew F G) (X.keeps G.keep) fun h₃ F3 X3 => ?_
  -- pieces
  refine wpAny_execs_cons (assignComp (cl := [("which", s.heap.objs.size + 1)]) rfl rfl (by decide) rfl (by decide) rfl rfl rfl F3.ns ?_)
  refine ldLoc F3 rfl (pyIter_S3 fun o St hIT st0 => ?_)
  refine ⟨_, _, _, _, _, _, _, fun i ys => ∃ ps : List (Str × Tok), ys = strValues ps ∧ ps.map (·.1) = ([a, b, c].take i).map fun x => S (pieceL wh x), rfl,
    compStr (k := 0) hIT.wk rfl rfl st0 (Nat.zero_le _) hgs₂ (by simp) ⟨[], rfl, rfl⟩ (hIT.self _) (fun _ => rfl) (fun _ => rfl) ?_, ?_, ?_, ?_, ?_, ?_, ?_⟩
  · rintro Cc i ys s₄ m₄ E' x u hC hi hx hm - - hn hR ⟨ps, rfl, hps⟩
    refine wpAny_tests_nil ⟨Grew.rfl' hR.gs, ?_⟩
    rw [if_pos rfl]
    have hI := Fr.fresh F3
    have F4 := Fr.step (F3.push o) (by simpa using hI.1) (by simpa using hI.2) hR.keep
    have X4 := Cl.stepNew X3 (X3.keeps fun b o' e => Heap.get?_push_of_some o e) (by simp) hR.keep
    have hle4 := hR.tk
    dsimp only at hle4
    refine wpAny_BinOp (Call_ ?_)
    refine nmK F4.keep C.X (topRead_of C.T) (by k_is) ?_
    refine callWith_K C.X (by k_is) (args_cons (nmC X4 rfl ?_ rfl))
    refine args_cons (nmL hn hm (args_nil ⟨C.X.keeps F4.keep, ?_⟩))
    refine (written wh tw [x] u (by simp)).str mean mg mb _ _ _ base _ _ _ (C.insideC F4 (by walk_at "om") hR.gs) (show dp + 1 + 2 < recursionLimit by walk_at "om") (show un + 3 + 4 < cLine by walk_at "om") fun t5 s₅ G5 => ?_
    have hxl : (wri wh [x]).length ≤ 10 := hwl x (List.mem_of_getElem? hx)
    have hle5 := G5.tk
    refine Calls.Constant_str (addSS (r := dots) (by simp; walk_at "om") fun t6 k6 l6 => ?_)
    dsimp only at l6
    refine ⟨⟨G5.keep, by dsimp only; walk_at "om", G5.gs, G5.os⟩, ps ++ [(S (pieceL wh x), t6)], by simp [strValues]; rfl, ?_⟩
    rw [List.map_append, hps, List.take_add_one, hx]; simp
  · exact fun b hb => by simp at hb; subst hb; exact Nat.le_refl _
  · exact fun b o' e => Heap.get?_push_of_some o e
  · exact Nat.le_refl _
  · rfl
  · rw [Heap.size_push]; exact Nat.le_succ _
  rintro Dp s₄ ys hDp hn4 hP4 ⟨ps, rfl, hps⟩ hk4 hle4 hgs4 hos4
  dsimp only at hle4 hos4 hk4
  have F4 : Fr s.heap s.heap.objs.size s₄.heap _ := ⟨hn4, fun b o' e => hk4 b o' (Nat.ne_of_lt (Heap.lt_size e)) (F3.keep b o' e), Nat.le_refl _⟩
  have X4 := Cl.keepL X3 hk4
  have hps3 : ps.map (·.1) = [a, b, c].map fun x => S (pieceL wh x) := hps
  clear hps
  have hLDp : s.heap.objs.size ≠ Dp := Fr.neL F4 hP4.isList
  have hcDp : ∀ n c, (csOf _ s.heap.objs.size).lookup n = some c → c < Dp := fun n c e => Nat.lt_of_lt_of_le (X3.cell n c e).lt hDp
  -- falls
  refine wpAny_execs_cons (wpAny_Assign_Name (wpAny_Dict_empty ?_))
  refine stCk (F4.push _) (X4.keeps fun b o' e => Heap.get?_push_of_some _ e) rfl fun h₅ F5 X5 k5 => ?_
  dsimp only at k5
  have hcp : ∀ c, c < Dp → Dp ≠ c := fun c h => Nat.ne_of_gt h
  have hDpl : Dp < s₄.heap.objs.size := plainLt hP4
  have hc3 := hcDp "falls" _ rfl
  have W5 : WB w s _ wh a b c first last tw tl t₂ Dp s₄.heap.objs.size ps [] _ _ { s₄ with heap := h₅ } := ⟨F5, X5, rfl, rfl, rfl, rfl, rfl, rfl, rfl, hP4.at fun o' e => (k5.2 _ (hcp _ hc3)).trans (Heap.get?_push_of_some _ e),
    ⟨_, (DictSt.new s₄.heap).at fun o' e => (k5.2 _ (Nat.ne_of_gt (Nat.lt_trans hc3 hDpl))).trans e, fun p hp => nomatch hp⟩, by dsimp only; walk_at "om", hgs4, hos4.trans hos₂⟩
  generalize hDd : s₄.heap.objs.size = Dd at W5 hDpl
  refine wpAny_execs_cons (wpAny_For ?_)
  refine Call_ (nmB W5.F.keep C.X (topRead_of C.T) (by k_is) PyProof.Rows.boot_zip (by decide) ?_)
  refine PyProof.Rows.callWith_type1 (args_cons (ldLoc W5.F W5.e1 (args_cons (ldLoc W5.F W5.e3 (args_nil ?_)))))
  refine Exists.elim (Src.str (w := w) (h := h₅) [a, b, c] tl) fun oS hS => Exists.elim hS fun TS hS => ?_
  refine zipCall hS (Src.list W5.P.isList) fun h₆ St6 Mid6 hWk6 st6 hsz6 hk6 hlv6 => ?_
  refine (hWk6 _ rfl).self 0 _ _ _ st6 ?_
  dsimp only at hsz6 hk6
  have hDdl : Dd < h₅.objs.size := W5.D.elim fun _ hZ => hZ.1.lt
  have hDpl5 : Dp < h₅.objs.size := plainLt W5.P
  have hpsl : ps.length = 3 := by have := congrArg List.length hps3; simpa using this
  have hpiece : ∀ (i : Nat) (x : Nat) (y : Value), [a, b, c][i]? = some x → (strValues ps).toArray[i]? = some y → ∃ ty, y = .str (S (pieceL wh x)) ty := by
    intro i x y hx hy
    have h2 : (ps.map (·.1))[i]? = some (S (pieceL wh x)) := by rw [hps3, List.getElem?_map, hx]; rfl
    rw [List.getElem?_map] at h2
    cases hp : ps[i]? with
    | none => rw [hp] at h2; cases h2
    | some q =>
      rw [hp] at h2
      have h3 : q.1 = S (pieceL wh x) := by simpa using h2
      refine ⟨q.2, ?_⟩
      have : (strValues ps).toArray[i]? = some (.str q.1 q.2) := by simp [strValues, hp]
      rw [this] at hy; cases hy; rw [h3]
  have W6 : WB w s _ wh a b c first last tw tl t₂ Dp Dd ps [] _ _ { s₄ with heap := h₆ } := W5.step W5 (wr := []) (by simp) (fun b o' _ e => hk6 b o' e) (Nat.le_refl _) W5.gs rfl
  have keep6 : ∀ i (h h' : Heap), St6 i h → (∀ b o, b < h₅.objs.size + 5 → (h₅.objs.size ≤ b ∨ b = Dp) → h.get? b = some o → h'.get? b = some o) → St6 i h' := fun i h h' st k => (hWk6 ({} : Around) rfl).frame _ _ _ st fun b hb o' e => k b o' ((zf8 b hb).elim (fun h => h.2) fun h => Nat.lt_of_le_of_lt (Nat.le_of_eq h) (Nat.lt_add_right 5 hDpl5)) ((zf8 b hb).imp (fun h => h.1) id) e
  have hcu := (X5.cell "u" _ rfl).lt
  have hcv := (X5.cell "v" _ rfl).lt
  have hcuD := hcDp "u" _ rfl
  have hcvD := hcDp "v" _ rfl
  have hL5 : s.heap.objs.size < h₅.objs.size := F5.ns.lt
  have hLDp' : s.heap.objs.size < Dp := Nat.lt_trans (X5.above "u" _ (mem_of_lookup rfl)) hcuD
  refine forZ rfl (hWk6 _ rfl) (fun i s' => ∃ m cm, WB w s _ wh a b c first last tw tl t₂ Dp Dd ps (([a, b, c].take i).flatMap fun x => [a, b, c].map fun y => (x, y)) m cm s') ⟨_, _, W6⟩ st6 ?_ ?_ ?_
  · rintro i s' h' tk ⟨m, cm, W⟩ hk hle
    refine ⟨m, cm, W5.step W ?_ hk hle W.gs rfl⟩
    exact zwLe
  · intro i x y s' E' hi hpx hy hinv hst
    refine ex2 hpx fun cx ux hpxa => ?_
    clear hpx
    refine and2 hpxa fun hcx hx => ?_
    clear hpxa
    subst hx
    refine ex2 hinv fun m cm W => ?_
    clear hinv
    refine Exists.elim (hpiece i cx y hcx hy) fun ty hyy => ?_
    subst hyy
    have hmem : cx ∈ [a, b, c] := List.mem_of_getElem? hcx
    have hokx := List.all_eq_true.mp hok cx hmem
    simp only [Bool.and_eq_true, decide_eq_true_eq, Bool.not_eq_true'] at hokx
    refine stCk W.F W.X rfl fun h7 F7 X7 k7 => stLk F7 X7 fun h8 F8 X8 k8 => ?_
    dsimp only at k7 k8
    have k78 : ∀ b o, b ≠ s.heap.objs.size → b ≠ s.heap.objs.size + 4 → s'.heap.get? b = some o → h8.get? b = some o := fun b o h1 h2 e => (k8.2 b h1).trans ((k7.2 b h2).trans e)
    have hDdu : Dd ≠ s.heap.objs.size + 4 := Nat.ne_of_gt (Nat.lt_trans hcuD hDpl)
    have W8 : WB w s _ wh a b c first last tw tl t₂ Dp Dd ps (([a, b, c].take i).flatMap fun x => [a, b, c].map fun y => (x, y)) _ _ { s' with heap := h8, toks := s'.toks + 1 } := ⟨F8, X8, W.e1, W.e2, W.e3, W.e4, W.c1, W.c2, W.c3,
      W.P.at fun o' e => k78 _ o' (Nat.ne_of_gt hLDp') (Nat.ne_of_gt hcuD) e, (let ⟨f, hd, hf⟩ := W.D; ⟨f, hd.at fun o' e => k78 _ o' (Nat.ne_of_gt (Nat.lt_trans hLDp' hDpl)) hDdu e, hf⟩), by have := W.tk; dsimp only; walk_at "om", W.gs, W.os⟩
    have hu8 : (fun y : Str => if y = ({ cps := { toList := [117] } } : Str) then some (Value.str (S [cx]) ux) else cm y) "u" = some (.str (S [cx]) ux) := rfl
    have ha8 : (fun y : Str => if y = ({ cps := { toList := [97, 104, 101, 97, 100] } } : Str) then some (Value.str (S (pieceL wh cx)) ty) else m y) "ahead" = some (.str (S (pieceL wh cx)) ty) := rfl
    have hst8 : St6 (i + 1) h8 := keep6 _ _ _ hst fun b o' _ hb e => k78 b o' (orNe hb hL5 hLDp') (orNe hb hcu hcuD) e
    generalize (fun y : Str => if y = ({ cps := { toList := [117] } } : Str) then some (Value.str (S [cx]) ux) else cm y) = cm8 at hu8 W8 X8
    generalize (fun y : Str => if y = ({ cps := { toList := [97, 104, 101, 97, 100] } } : Str) then some (Value.str (S (pieceL wh cx)) ty) else m y) = m8 at ha8 W8 F8
    have hpl : (pieceL wh cx).length ≤ 13 := by unfold pieceL; rw [List.length_append]; have := hokx.1.2; simp; walk_at "om"
    refine wpAny_execs_cons (wpAny_If (wpAny_isTrue_Compare1 (Call_ ?_)))
    refine nmK W8.F.keep C.X (topRead_of C.T) (by k_is) ?_
    refine callWith_K C.X (by k_is) (args_cons (wpAny_BinOp (Calls.Constant_str (wpAny_BinOp (ldLoc W8.F ha8 (wpAny_Constant_int ?_))))))
    refine mulS (l := pieceL wh cx) (by walk_at "om") (by decide) (by decide) fun t9 k9 l9 => ?_
    refine addSS (l := dots) (by simp; walk_at "om") fun t10 k10 l10 => ?_
    refine args_cons (ldLoc W8.F W8.e2 (args_nil ⟨C.X.keeps W8.F.keep, ?_⟩))
    have htk8 := W8.tk
    dsimp only at l9 l10 htk8
    refine (ell_spec (thriceL wh cx) (rowW wh a b c) t10 t₂ hokx.1.1.1 (by walk_at "om")).val mean mg mb _ _ _ base _ _ _ (C.insideC W8.F (by dsimp only; walk_at "om") W8.gs) (show dp + 1 + 1 < recursionLimit by walk_at "om") (show un + 3 + 1 < cLine by walk_at "om") fun s₉ G9 => ?_
    have hle9 := G9.tk
    have hos9 := G9.os
    dsimp only at hle9 hos9
    refine wpAny_Constant_bool (wpAny_isNot_plain rfl (wpAny_truthy_bool ?_))
    rw [if_neg (by rw [hokx.1.1.2]; decide)]
    refine wpAny_execs_nil ?_
    have W9 := W8.step W8 (wr := []) (s'' := s₉) (by simp) (fun b o' _ e => G9.keep b o' e) (by dsimp only; walk_at "om") G9.gs (hos9)
    have hst9 : St6 (i + 1) s₉.heap := keep6 _ _ _ hst8 fun b o' _ _ e => G9.keep b o' e
    have hsz9 : h₅.objs.size + 5 ≤ s₉.heap.objs.size := hlv6 _ _ hst9
    refine wpAny_execs_cons (wpAny_For ?_)
    refine Call_ (nmB W9.F.keep C.X (topRead_of C.T) (by k_is) PyProof.Rows.boot_zip (by decide) ?_)
    refine PyProof.Rows.callWith_type1 (args_cons (ldLoc W9.F W9.e1 (args_cons (ldLoc W9.F W9.e3 (args_nil ?_)))))
    refine Exists.elim (Src.str (w := w) (h := s₉.heap) [a, b, c] tl) fun oS hS => Exists.elim hS fun TS hS => ?_
    refine zipCall hS (Src.list W9.P.isList) fun h11 St11 Mid11 hWk11 st11 hsz11 hk11 hlv11 => ?_
    refine (hWk11 _ rfl).self 0 _ _ _ st11 ?_
    have W11 := W9.step W9 (wr := []) (s'' := { s₉ with heap := h11 }) (by simp) (fun b o' _ e => hk11 b o' e) (Nat.le_refl _) W9.gs rfl
    have hst11 : St6 (i + 1) h11 := keep6 _ _ _ hst9 fun b o' _ _ e => hk11 b o' e
    have hnotw : ∀ b, b < h₅.objs.size + 5 → b ∉ [s₉.heap.objs.size + 4, s₉.heap.objs.size + 3, s₉.heap.objs.size, s₉.heap.objs.size + 1] := fun b hb => zwNot (Nat.lt_of_lt_of_le hb hsz9)
    have keep11 : ∀ j (h h' : Heap), St11 j h → (∀ b o, (s₉.heap.objs.size ≤ b ∨ b = Dp) → h.get? b = some o → h'.get? b = some o) → St11 j h' := fun j h h' st k => (hWk11 ({} : Around) rfl).frame _ _ _ st fun b hb o' e => k b o' ((zf8 b hb).imp (fun h => h.1) id) e
    refine forZ rfl (hWk11 _ rfl) (fun j s' => ∃ m cm, WB w s _ wh a b c first last tw tl t₂ Dp Dd ps ((([a, b, c].take i).flatMap fun x => [a, b, c].map fun y => (x, y)) ++ ([a, b, c].take j).map fun y => (cx, y)) m cm s' ∧ cm "u" = some (.str (S [cx]) ux) ∧ m "ahead" = some (.str (S (pieceL wh cx)) ty) ∧ St6 (i + 1) s'.heap) ⟨_, _, by simpa using W11, hu8, ha8, hst11⟩ st11 ?_ ?_ ?_
    · rintro j s' h' tk hINV hk hle
      refine ex2 hINV fun m cm hINVa => ?_
      clear hINV
      refine and4 hINVa fun W q1 q2 q3 => ?_
      clear hINVa
      refine ⟨m, cm, W9.step W ?_ hk hle W.gs rfl, q1, q2, keep6 _ _ _ q3 fun b o' hb _ e => hk b o' (hnotw b hb) e⟩
      exact zwLe
    · intro j x y s' E2 hj hpx hy hinv hst
      refine ex2 hpx fun cy uy hpxa => ?_
      clear hpx
      refine and2 hpxa fun hcy hx => ?_
      clear hpxa
      subst hx
      refine ex2 hinv fun m cm hinva => ?_
      clear hinv
      refine and4 hinva fun W q1 q2 q3 => ?_
      clear hinva
      refine Exists.elim (hpiece j cy y hcy hy) fun ty' hyy => ?_
      subst hyy
      have hmemy : cy ∈ [a, b, c] := List.mem_of_getElem? hcy
      have hoky := List.all_eq_true.mp hokx.2 cy hmemy
      refine stCk W.F W.X rfl fun h12 F12 X12 k12 => stLk F12 X12 fun h13 F13 X13 k13 => ?_
      dsimp only at k13
      have k123 : ∀ b o, b ≠ s.heap.objs.size → b ≠ s.heap.objs.size + 5 → s'.heap.get? b = some o → h13.get? b = some o := fun b o h1 h2 e => (k13.2 b h1).trans ((k12.2 b h2).trans e)
      have hDdv : Dd ≠ s.heap.objs.size + 5 := Nat.ne_of_gt (Nat.lt_trans hcvD hDpl)
      have W13 : WB w s _ wh a b c first last tw tl t₂ Dp Dd ps ((([a, b, c].take i).flatMap fun x => [a, b, c].map fun y => (x, y)) ++ ([a, b, c].take j).map fun y => (cx, y)) _ _ { s' with heap := h13, toks := s'.toks + 1 } := ⟨F13, X13, W.e1, W.e2, W.e3, W.e4, W.c1, W.c2, W.c3,
        W.P.at fun o' e => k123 _ o' (Nat.ne_of_gt hLDp') (Nat.ne_of_gt hcvD) e, (let ⟨f, hd, hf⟩ := W.D; ⟨f, hd.at fun o' e => k123 _ o' (Nat.ne_of_gt (Nat.lt_trans hLDp' hDpl)) hDdv e, hf⟩), by have := W.tk; dsimp only; walk_at "om", W.gs, W.os⟩
      have hv13 : (fun y : Str => if y = ({ cps := { toList := [118] } } : Str) then some (Value.str (S [cy]) uy) else cm y) "v" = some (.str (S [cy]) uy) := rfl
      have hu13 : (fun y : Str => if y = ({ cps := { toList := [118] } } : Str) then some (Value.str (S [cy]) uy) else cm y) "u" = some (.str (S [cx]) ux) := q1
      have hb13 : (fun y : Str => if y = ({ cps := { toList := [98, 101, 104, 105, 110, 100] } } : Str) then some (Value.str (S (pieceL wh cy)) ty') else m y) "behind" = some (.str (S (pieceL wh cy)) ty') := rfl
      have ha13 : (fun y : Str => if y = ({ cps := { toList := [98, 101, 104, 105, 110, 100] } } : Str) then some (Value.str (S (pieceL wh cy)) ty') else m y) "ahead" = some (.str (S (pieceL wh cx)) ty) := q2
      have kD : ∀ b, (s₉.heap.objs.size ≤ b ∨ b = Dp) → b ≠ s.heap.objs.size ∧ b ≠ s.heap.objs.size + 5 ∧ b ≠ Dd := by
        rintro b (hb | rfl)
        · have h1 : @LT.lt Nat _ s.heap.objs.size h₅.objs.size := hL5
          have h2 : @LT.lt Nat _ (s.heap.objs.size + 5) h₅.objs.size := hcv
          have h3 : @LT.lt Nat _ Dd h₅.objs.size := hDdl
          have h4 : @LE.le Nat _ (h₅.objs.size + 5) s₉.heap.objs.size := hsz9
          have h5 : @LE.le Nat _ s₉.heap.objs.size b := hb
          refine ⟨?_, ?_, ?_⟩ <;> (show @Ne Nat _ _; walk_at "om")
        · exact ⟨Nat.ne_of_gt hLDp', Nat.ne_of_gt hcvD, Nat.ne_of_lt hDpl⟩
      have kD6 : ∀ b, b < h₅.objs.size + 5 → (h₅.objs.size ≤ b ∨ b = Dp) → b ≠ s.heap.objs.size ∧ b ≠ s.heap.objs.size + 5 ∧ b ≠ Dd := by
        rintro b hb5 (hb | rfl)
        · have h1 : @LT.lt Nat _ s.heap.objs.size h₅.objs.size := hL5
          have h2 : @LT.lt Nat _ (s.heap.objs.size + 5) h₅.objs.size := hcv
          have h3 : @LT.lt Nat _ Dd h₅.objs.size := hDdl
          have h5 : @LE.le Nat _ h₅.objs.size b := hb
          refine ⟨?_, ?_, ?_⟩ <;> (show @Ne Nat _ _; walk_at "om")
        · exact ⟨Nat.ne_of_gt hLDp', Nat.ne_of_gt hcvD, Nat.ne_of_lt hDpl⟩
      generalize (fun y : Str => if y = ({ cps := { toList := [118] } } : Str) then some (Value.str (S [cy]) uy) else cm y) = cm13 at hv13 hu13 W13 X13
      generalize (fun y : Str => if y = ({ cps := { toList := [98, 101, 104, 105, 110, 100] } } : Str) then some (Value.str (S (pieceL wh cy)) ty') else m y) = m13 at hb13 ha13 W13 F13
      have hpl2 : (pieceL wh cy).length ≤ 13 := by unfold pieceL; rw [List.length_append]; have := hwl cy hmemy; simp; walk_at "om"
      refine wpAny_execs_cons (wpAny_Assign_Subscript (Call_ ?_))
      refine nmK W13.F.keep C.X (topRead_of C.T) (by k_is) ?_
      refine callWith_K C.X (by k_is) (args_cons (wpAny_BinOp (wpAny_BinOp (Calls.Constant_str (ldLoc W13.F ha13 ?_)))))
      refine addSS (l := dots) (by simp; walk_at "om") fun t14 k14 l14 => ?_
      refine ldLoc W13.F hb13 ?_
      refine addSS (by simp; walk_at "om") fun t15 k15 l15 => ?_
      refine args_cons (ldLoc W13.F W13.e2 (args_nil ⟨C.X.keeps W13.F.keep, ?_⟩))
      have htk13 := W13.tk
      dsimp only at l14 l15 htk13
      refine (ell_spec (dots ++ pieceL wh cx ++ pieceL wh cy) (rowW wh a b c) t15 t₂ hoky (by walk_at "om")).val mean mg mb _ _ _ base _ _ _ (C.insideC W13.F (by dsimp only; walk_at "om") W13.gs) (show dp + 1 + 1 < recursionLimit by walk_at "om") (show un + 3 + 1 < cLine by walk_at "om") fun s₁₆ G16 => ?_
      have hle16 := G16.tk
      have hos16 := G16.os
      dsimp only at hle16 hos16
      have W16 := W13.step W13 (wr := []) (s'' := s₁₆) (by simp) (fun b o' _ e => G16.keep b o' e) (by dsimp only; walk_at "om") G16.gs (hos16)
      refine nmC W16.X W16.c3 ?_ rfl
      refine wpAny_BinOp (nmC W16.X hu13 (nmC W16.X hv13 ?_ rfl) rfl)
      refine addSS (by simp) fun t17 k17 l17 => ?_
      refine Exists.elim W16.D fun f hdf => ?_
      have hlen : ((([a, b, c].take i).flatMap fun x => [a, b, c].map fun y => (x, y)) ++ ([a, b, c].take j).map fun y => (cx, y)).length ≤ 100 := by
        rw [List.length_append, pairs_length]; simp; walk_at "om"
      have hR1 : ((([a, b, c].take i).flatMap fun x => [a, b, c].map fun y => (x, y)) ++ ([a, b, c].take (j + 1)).map fun y => (cx, y)) = ((([a, b, c].take i).flatMap fun x => [a, b, c].map fun y => (x, y)) ++ ([a, b, c].take j).map fun y => (cx, y)) ++ [(cx, cy)] := by
        rw [List.take_add_one, hcy]; simp
      refine DictSt.set hdf.1 (by walk_at "om") fun h18 hd18 k18 => wpAny_execs_nil ?_
      dsimp only at k18 l17
      have hD16 : Dd ≠ s.heap.objs.size := Nat.ne_of_gt (Nat.lt_trans hLDp' hDpl)
      have kall : ∀ b o, b ≠ s.heap.objs.size → b ≠ s.heap.objs.size + 5 → b ≠ Dd → s'.heap.get? b = some o → h18.get? b = some o := fun b o h1 h2 h3 e => (k18.2 b h3).trans (G16.keep b o (k123 b o h1 h2 e))
      have hDcs : ∀ n c', (csOf _ s.heap.objs.size).lookup n = some c' → c' ≠ Dd := fun n c' e => Nat.ne_of_lt (Nat.lt_trans (hcDp n c' e) hDpl)
      refine ⟨⟨m13, cm13, ⟨⟨W16.F.ns.at' fun o' e => (k18.2 _ hD16.symm).trans e, fun b o' e => (k18.2 b ?_).trans (W16.F.keep b o' e), W16.F.above⟩, ⟨fun n c' e => let ⟨o', ho, hd'⟩ := W16.X.cell n c' e; ⟨o', (k18.2 _ (hDcs n c' e)).trans ho, hd'⟩, W16.X.apart, W16.X.above⟩, W16.e1, W16.e2, W16.e3, W16.e4, W16.c1, W16.c2, W16.c3, W16.P.at fun o' e => (k18.2 _ (Nat.ne_of_lt hDpl)).trans e, ⟨fun y => if y = S ([cx] ++ [cy]) then some (.bool (fallL wh a b c cx cy)) else f y, ?_, ?_⟩, by have := W16.tk; dsimp only; walk_at "om", W16.gs, W16.os⟩, hu13, ha13, keep6 _ _ _ q3 fun b o' hb hb2 e => kall b o' (kD6 b hb hb2).1 (kD6 b hb hb2).2.1 (kD6 b hb hb2).2.2 e⟩, keep11 _ _ _ hst fun b o' hb e => kall b o' (kD b hb).1 (kD b hb).2.1 (kD b hb).2.2 e⟩
      · exact Nat.ne_of_lt (Nat.lt_trans (Heap.lt_size e) (Nat.lt_trans hLDp' hDpl))
      · rw [hR1, List.length_append]; exact hd18
      · intro p hp
        rw [hR1] at hp
        by_cases hpe : S [p.1, p.2] = S ([cx] ++ [cy])
        · have h1 := S_inj hpe
          simp only [List.cons_append, List.nil_append, List.cons.injEq, and_true] at h1
          show (if S [p.1, p.2] = S ([cx] ++ [cy]) then _ else _) = _
          rw [if_pos hpe, h1.1, h1.2]
        · show (if S [p.1, p.2] = S ([cx] ++ [cy]) then _ else _) = _
          rw [if_neg hpe]
          rcases List.mem_append.mp hp with hp | hp
          · exact hdf.2 p hp
          · rw [List.mem_singleton.mp hp] at hpe; exact absurd rfl hpe
    · rintro s' E2 hINV
      refine ex2 hINV fun m cm hINVa => ?_
      clear hINV
      refine and4 hINVa fun W q1 q2 q3 => ?_
      clear hINVa
      have hn3 : min [a, b, c].length (strValues ps).toArray.size = 3 := by simp [strValues, hpsl]
      rw [hn3] at W
      refine wpAny_execs_nil (wpAny_execs_nil ⟨⟨m, cm, ?_⟩, q3⟩)
      have e1 : (([a, b, c].take i).flatMap fun x => [a, b, c].map fun y => (x, y)) ++ ([a, b, c].take 3).map (fun y => (cx, y)) = ([a, b, c].take (i + 1)).flatMap fun x => [a, b, c].map fun y => (x, y) := by
        rw [List.take_add_one (i := i), hcx, List.flatMap_append]; simp
      rw [e1] at W
      exact W
  rintro s₇ E7 ⟨m7, cm7, W7⟩
  have hn3 : min [a, b, c].length (strValues ps).toArray.size = 3 := by simp [strValues, hpsl]
  rw [hn3] at W7
  have W7' : WB w s _ wh a b c first last tw tl t₂ Dp Dd ps ([a, b, c].flatMap fun x => [a, b, c].map fun y => (x, y)) m7 cm7 s₇ := W7
  clear W7
  have hDdl7 : Dd < s₇.heap.objs.size := W7'.D.elim fun _ hZ => hZ.1.lt
  have hDpl7 : Dp < s₇.heap.objs.size := plainLt W7'.P
  have hL7 : s.heap.objs.size < s₇.heap.objs.size := W7'.F.ns.lt
  have hcells7 : ∀ n c', (csOf _ s.heap.objs.size).lookup n = some c' → c' < s₇.heap.objs.size := fun n c' e => (W7'.X.cell n c' e).lt
  -- words
  refine wpAny_execs_nil ?_
  refine wpAny_execs_cons (wpAny_Assign_Name (List_ (args_nil (wpAny_newList ?_))))
  refine stLk (W7'.F.push _) (W7'.X.keeps fun b o' e => Heap.get?_push_of_some _ e) fun h₈ F8 X8 k8 => ?_
  dsimp only at k8
  have hW8 : h₈.PlainList s₇.heap.objs.size (strValues []).toArray := ⟨0, (k8.2 _ (Nat.ne_of_gt hL7)).trans (Heap.get?_push_size _ rfl)⟩
  have k78 : ∀ b o, b ≠ s.heap.objs.size → s₇.heap.get? b = some o → h₈.get? b = some o := fun b o hb e => (k8.2 b hb).trans (Heap.get?_push_of_some _ e)
  have W8 : WB w s _ wh a b c first last tw tl t₂ Dp Dd ps ([a, b, c].flatMap fun x => [a, b, c].map fun y => (x, y)) _ _ { s₇ with heap := h₈, toks := s₇.toks + 1 } := ⟨F8, X8, W7'.e1, W7'.e2, W7'.e3, W7'.e4, W7'.c1, W7'.c2, W7'.c3,
    W7'.P.at fun o' e => k78 _ o' (Nat.ne_of_gt hLDp') e, (let ⟨f, hd, hf⟩ := W7'.D; ⟨f, hd.at fun o' e => k78 _ o' (Nat.ne_of_gt (Nat.lt_trans hLDp' hDpl)) e, hf⟩), by have := W7'.tk; dsimp only; walk_at "om", W7'.gs, W7'.os⟩
  have hw8 : (fun y : Str => if y = ({ cps := { toList := [119, 111, 114, 100, 115] } } : Str) then some (Value.ref s₇.heap.objs.size) else m7 y) "words" = some (.ref s₇.heap.objs.size) := rfl
  generalize (fun y : Str => if y = ({ cps := { toList := [119, 111, 114, 100, 115] } } : Str) then some (Value.ref s₇.heap.objs.size) else m7 y) = m8 at hw8 W8 F8
  refine wpAny_execs_cons (wpAny_For (ldLoc W8.F W8.e1 (pyIter_S3 fun o9 St9 hI9 st9 => ?_)))
  dsimp only at hI9 st9
  have hDdl8 : Dd < h₈.objs.size := W8.D.elim fun _ hZ => hZ.1.lt
  have hDpl8 : Dp < h₈.objs.size := plainLt W8.P
  have hWl8 : s₇.heap.objs.size < h₈.objs.size := plainLt hW8
  have hL8 : s.heap.objs.size < h₈.objs.size := W8.F.ns.lt
  have hcells8 : ∀ n c', (csOf _ s.heap.objs.size).lookup n = some c' → c' < h₈.objs.size := fun n c' e => (W8.X.cell n c' e).lt
  let G2 : Nat → Nat → List (List Nat) := fun x y => if fallL wh a b c x y = first then ([a, b, c].filter fun z => fallL wh a b c y z == last).map fun z => [x, y, z] else []
  refine forN (hI9.wk _ 0 rfl) (fun i s' => ∃ m cm qs Dw, WB w s _ wh a b c first last tw tl t₂ Dp Dd ps ([a, b, c].flatMap fun x => [a, b, c].map fun y => (x, y)) m cm s' ∧ m "words" = some (.ref Dw) ∧ Dw ≠ h₈.objs.size ∧ s'.heap.PlainList Dw (strValues qs).toArray ∧ qs.map (·.1) = (([a, b, c].take i).flatMap fun x => [a, b, c].flatMap (G2 x)).map S)
    ⟨_, _, [], _, W8.step W8 (wr := []) (by simp) (fun b o' _ e => Heap.get?_push_of_some _ e) (Nat.le_refl _) W8.gs rfl, hw8, Nat.ne_of_lt hWl8, hW8.at fun o' e => Heap.get?_push_of_some _ e, rfl⟩ st9 ?_ ?_ ?_ ?_
  · exact fun i s' _ => Nat.zero_le _
  · rintro i s' h' tk hINV hk hle
    refine ex4 hINV fun m cm qs Dw hINVa => ?_
    clear hINV
    refine and5 hINVa fun W q1 q2 q3 q4 => ?_
    clear hINVa
    exact ⟨m, cm, qs, Dw, W8.step W (by simp) hk hle W.gs rfl, q1, q2, q3.at fun o' e => hk _ o' (by simpa using q2) e, q4⟩
  · intro i v s' E' hi hpx hinv hst
    refine ex2 hpx fun cx ux hpxa => ?_
    clear hpx
    have hcx := hpxa.1
    have hx := hpxa.2.1
    clear hpxa
    subst hx
    refine ex4 hinv fun m cm qs Dw hinva => ?_
    clear hinv
    refine and5 hinva fun W q1 q2 q3 q4 => ?_
    clear hinva
    have hmem : cx ∈ [a, b, c] := List.mem_of_getElem? hcx
    have hne1 : ∀ b, h₈.objs.size ≤ b → b ≠ s.heap.objs.size ∧ b ≠ s.heap.objs.size + 4 ∧ b ≠ s.heap.objs.size + 5 ∧ b ≠ Dd := fun b hb =>
      ⟨Nat.ne_of_gt (Nat.lt_of_lt_of_le hL8 hb), Nat.ne_of_gt (Nat.lt_of_lt_of_le (hcells8 "u" _ rfl) hb), Nat.ne_of_gt (Nat.lt_of_lt_of_le (hcells8 "v" _ rfl) hb), Nat.ne_of_gt (Nat.lt_of_lt_of_le hDdl8 hb)⟩
    have hDdu : Dd ≠ s.heap.objs.size + 4 := Nat.ne_of_gt (Nat.lt_trans hcuD hDpl)
    have hDdv : Dd ≠ s.heap.objs.size + 5 := Nat.ne_of_gt (Nat.lt_trans hcvD hDpl)
    have hDdL : Dd ≠ s.heap.objs.size := Nat.ne_of_gt (Nat.lt_trans hLDp' hDpl)
    refine stCk W.F W.X rfl fun hA FA XA kA => ?_
    have hDwu : Dw ≠ s.heap.objs.size + 4 := listNeCell (n := "u") W.X rfl q3
    have hDwL : Dw ≠ s.heap.objs.size := Ne.symm (Fr.neL W.F q3.isList)
    have WA : WB w s _ wh a b c first last tw tl t₂ Dp Dd ps ([a, b, c].flatMap fun x => [a, b, c].map fun y => (x, y)) _ _ { s' with heap := hA } := ⟨FA, XA, W.e1, W.e2, W.e3, W.e4, W.c1, W.c2, W.c3,
      W.P.at fun o' e => (kA.2 _ (Nat.ne_of_gt hcuD)).trans e, (let ⟨f, hd, hf⟩ := W.D; ⟨f, hd.at fun o' e => (kA.2 _ hDdu).trans e, hf⟩), W.tk, W.gs, W.os⟩
    have huA : (fun y : Str => if y = ({ cps := { toList := [117] } } : Str) then some (Value.str (S [cx]) ux) else cm y) "u" = some (.str (S [cx]) ux) := rfl
    have hPA : hA.PlainList Dw (strValues qs).toArray := q3.at fun o' e => (kA.2 _ hDwu).trans e
    have hstA : St9 (i + 1) hA := WkSt.keep (hI9.wk _ 0 rfl) hst fun o' e => (kA.2 _ (hne1 _ (Nat.le_refl _)).2.1).trans e
    generalize (fun y : Str => if y = ({ cps := { toList := [117] } } : Str) then some (Value.str (S [cx]) ux) else cm y) = cmA at huA WA XA
    refine wpAny_execs_cons (wpAny_For (ldLoc WA.F WA.e1 (pyIter_S3 fun oB StB hIB stB => ?_)))
    dsimp only at hIB stB
    have hIA : h₈.objs.size < hA.objs.size := hI9.lt _ _ hstA
    have hDwA : Dw < hA.objs.size := plainLt hPA
    refine forN (hIB.wk _ 0 rfl) (fun j s' => ∃ m cm qs Dw, WB w s _ wh a b c first last tw tl t₂ Dp Dd ps ([a, b, c].flatMap fun x => [a, b, c].map fun y => (x, y)) m cm s' ∧ m "words" = some (.ref Dw) ∧ Dw ≠ h₈.objs.size ∧ Dw ≠ hA.objs.size ∧ s'.heap.PlainList Dw (strValues qs).toArray ∧ cm "u" = some (.str (S [cx]) ux) ∧ St9 (i + 1) s'.heap ∧ qs.map (·.1) = ((([a, b, c].take i).flatMap fun x => [a, b, c].flatMap (G2 x)) ++ ([a, b, c].take j).flatMap (G2 cx)).map S)
      ⟨_, _, qs, Dw, WA.step WA (wr := []) (by simp) (fun b o' _ e => Heap.get?_push_of_some _ e) (Nat.le_refl _) WA.gs rfl, q1, q2, Nat.ne_of_lt hDwA, hPA.at fun o' e => Heap.get?_push_of_some _ e, huA, WkSt.keep (hI9.wk _ 0 rfl) hstA fun o' e => Heap.get?_push_of_some _ e, by rw [q4]; simp⟩ stB ?_ ?_ ?_ ?_
    · exact fun j s' _ => Nat.zero_le _
    · rintro j s' h' tk hINV hk hle
      refine ex4 hINV fun m cm qs Dw hINVa => ?_
      clear hINV
      refine and8 hINVa fun W r1 r2 r3 r4 r5 r6 r7 => ?_
      clear hINVa
      exact ⟨m, cm, qs, Dw, WA.step W (by simp) hk hle W.gs rfl, r1, r2, r3, r4.at fun o' e => hk _ o' (by simpa using r3) e, r5, WkSt.keep (hI9.wk _ 0 rfl) r6 fun o' e => hk _ o' (by simpa using Nat.ne_of_lt hIA) e, r7⟩
    · intro j v s' E2 hj hpx hinv hst
      refine ex2 hpx fun cy uy hpxa => ?_
      clear hpx
      have hcy := hpxa.1
      have hx := hpxa.2.1
      clear hpxa
      subst hx
      refine ex4 hinv fun m cm qs Dw hinva => ?_
      clear hinv
      refine and8 hinva fun W r1 r2 r3 r4 r5 r6 r7 => ?_
      clear hinva
      have hmemy : cy ∈ [a, b, c] := List.mem_of_getElem? hcy
      refine stCk W.F W.X rfl fun hB FB XB kB => ?_
      have hDwv : Dw ≠ s.heap.objs.size + 5 := listNeCell (n := "v") W.X rfl r4
      have hDwL' : Dw ≠ s.heap.objs.size := Ne.symm (Fr.neL W.F r4.isList)
      have hneA : ∀ b, hA.objs.size ≤ b → b ≠ s.heap.objs.size ∧ b ≠ s.heap.objs.size + 5 := fun b hb => ⟨(hne1 b (Nat.le_trans (Nat.le_of_lt hIA) hb)).1, (hne1 b (Nat.le_trans (Nat.le_of_lt hIA) hb)).2.2.1⟩
      have WB1 : WB w s _ wh a b c first last tw tl t₂ Dp Dd ps ([a, b, c].flatMap fun x => [a, b, c].map fun y => (x, y)) _ _ { s' with heap := hB } := ⟨FB, XB, W.e1, W.e2, W.e3, W.e4, W.c1, W.c2, W.c3,
        W.P.at fun o' e => (kB.2 _ (Nat.ne_of_gt hcvD)).trans e, (let ⟨f, hd, hf⟩ := W.D; ⟨f, hd.at fun o' e => (kB.2 _ hDdv).trans e, hf⟩), W.tk, W.gs, W.os⟩
      have hvB : (fun y : Str => if y = ({ cps := { toList := [118] } } : Str) then some (Value.str (S [cy]) uy) else cm y) "v" = some (.str (S [cy]) uy) := rfl
      have huB : (fun y : Str => if y = ({ cps := { toList := [118] } } : Str) then some (Value.str (S [cy]) uy) else cm y) "u" = some (.str (S [cx]) ux) := r5
      have hPB : hB.PlainList Dw (strValues qs).toArray := r4.at fun o' e => (kB.2 _ hDwv).trans e
      have hst9B : St9 (i + 1) hB := WkSt.keep (hI9.wk _ 0 rfl) r6 fun o' e => (kB.2 _ (hne1 _ (Nat.le_refl _)).2.2.1).trans e
      have hstB : StB (j + 1) hB := WkSt.keep (hIB.wk _ 0 rfl) hst fun o' e => (kB.2 _ (hneA _ (Nat.le_refl _)).2).trans e
      have hDf : ∃ f, DictSt w hB Dd ([a, b, c].flatMap fun x => [a, b, c].map fun y => (x, y)).length f ∧ ∀ x ∈ [a, b, c], ∀ y ∈ [a, b, c], f (S ([x] ++ [y])) = some (.bool (fallL wh a b c x y)) := by
        obtain ⟨f, hd, hf⟩ := WB1.D
        exact ⟨f, hd, fun x hx y hy => hf (x, y) (List.mem_flatMap.mpr ⟨x, hx, List.mem_map.mpr ⟨y, hy, rfl⟩⟩)⟩
      generalize (fun y : Str => if y = ({ cps := { toList := [118] } } : Str) then some (Value.str (S [cy]) uy) else cm y) = cmB at hvB huB WB1 XB
      refine Exists.elim hDf fun f hf => ?_
      refine wpAny_execs_cons (wpAny_If (wpAny_isTrue_Compare1 (Subscript_ ?_)))
      refine nmC WB1.X WB1.c3 ?_ rfl
      refine wpAny_BinOp (nmC WB1.X huB (nmC WB1.X hvB ?_ rfl) rfl)
      refine addSS (by simp) fun tC kC lC => ?_
      refine DictSt.get hf.1 (hf.2 cx hmem cy hmemy) ?_
      refine ldLoc WB1.F WB1.e4 (wpAny_is_plain rfl (wpAny_truthy_bool ?_))
      dsimp only at lC
      have eG : ([a, b, c].take (j + 1)).flatMap (G2 cx) = ([a, b, c].take j).flatMap (G2 cx) ++ G2 cx cy := by
        rw [List.take_add_one (i := j), hcy, List.flatMap_append]; simp
      by_cases hfb : fallL wh a b c cx cy = first
      · rw [if_pos (by rw [hfb]; simp)]
        have hG : G2 cx cy = ([a, b, c].filter fun z => fallL wh a b c cy z == last).map fun z => [cx, cy, z] := if_pos hfb
        have hI := Fr.fresh WB1.F
        have hDdB : Dd < hB.objs.size := hf.1.lt
        refine wpAny_execs_cons (wpAny_Assign_Name (wpAny_BinOp (ldLoc WB1.F r1 ?_)))
        refine evalComp (cl := _) rfl (by decide) rfl (by decide) ?_
        refine ldLoc WB1.F WB1.e1 (pyIter_S3 fun oC StC hIC stC => ?_)
        refine ⟨_, _, _, _, _, _, _, fun i ys => ∃ rs : List (Str × Tok), ys = strValues rs ∧ rs.map (·.1) = (([a, b, c].take i).filter fun z => fallL wh a b c cy z == last).map fun z => S [cx, cy, z], rfl,
          compStr (k := 0) hIC.wk rfl rfl stC (Nat.zero_le _) WB1.gs (by simp) ⟨[], rfl, rfl⟩ (hIC.self _) (fun _ => rfl) (fun _ => rfl) ?_, ?_⟩
        · rintro Cc i' ys s₄ m₄ E' z u hC hi' hz hm - - hn hR ⟨rs, rfl, hrs⟩
          have hmemz : z ∈ [a, b, c] := List.mem_of_getElem? hz
          have F4 := Fr.step (WB1.F.push oC) (by simpa using hI.1) (by simpa using hI.2) hR.keep
          have X4 := Cl.stepNew WB1.X (WB1.X.keeps fun b o' e => Heap.get?_push_of_some _ e) (by simp) hR.keep
          have hf4 : DictSt w s₄.heap Dd _ f := hf.1.at fun o' e => hR.keep _ o' (by simpa using Nat.ne_of_lt hDdB) (Heap.get?_push_of_some _ e)
          have ec : ([a, b, c].take (i' + 1)).filter (fun z => fallL wh a b c cy z == last) = ([a, b, c].take i').filter (fun z => fallL wh a b c cy z == last) ++ if fallL wh a b c cy z = last then [z] else [] := by
            rw [List.take_add_one (i := i'), hz, List.filter_append]; congr 1; by_cases q : fallL wh a b c cy z = last <;> simp [q]
          refine wpAny_tests_one (wpAny_isTrue_Compare1 (Subscript_ ?_))
          refine nmC X4 WB1.c3 ?_ rfl
          refine wpAny_BinOp (nmC X4 hvB (nmL hn hm ?_) rfl)
          refine addSS (by simp) fun tD kD lD => ?_
          refine DictSt.get hf4 (hf.2 cy hmemy z hmemz) ?_
          refine nmC X4 WB1.c2 (wpAny_is_plain rfl (wpAny_truthy_bool ?_)) rfl
          refine ⟨⟨fun _ _ e => e, by dsimp only; walk_at "om", hR.gs, rfl⟩, ?_⟩
          by_cases hfz : fallL wh a b c cy z = last
          · rw [if_pos (by rw [hfz]; simp)]
            refine wpAny_BinOp (wpAny_BinOp (nmC X4 huB (nmC X4 hvB ?_ rfl) rfl))
            refine addSS (by simp) fun tE kE lE => ?_
            refine nmL hn hm ?_
            refine addSS (by simp) fun tF kF lF => ?_
            dsimp only at lE lF
            refine ⟨⟨fun _ _ e => e, by dsimp only; walk_at "om", hR.gs, rfl⟩, rs ++ [(S [cx, cy, z], tF)], by simp [strValues], ?_⟩
            rw [ec, if_pos hfz, List.map_append, List.map_append, hrs]; rfl
          · rw [if_neg (by simpa using hfz)]
            exact ⟨rs, rfl, by rw [ec, if_neg hfz, hrs]; simp⟩
        · rintro D s₅ ys hD hP ⟨rs, rfl, hrs⟩ hR
          have hg2 : ∀ y, (G2 cx y).length ≤ 3 := fun y => by
            show (if fallL wh a b c cx y = first then _ else _ : List (List Nat)).length ≤ 3
            split
            · rw [List.length_map]; exact List.length_filter_le _ _
            · exact Nat.zero_le _
          have hg2' : ∀ x y, (G2 x y).length ≤ 3 := fun x y => by
            show (if fallL wh a b c x y = first then _ else _ : List (List Nat)).length ≤ 3
            split
            · rw [List.length_map]; exact List.length_filter_le _ _
            · exact Nat.zero_le _
          have hqs : qs.length ≤ 100 := by
            have h1 := congrArg List.length r7
            simp only [List.length_map, List.length_append] at h1
            have h2 := flatMap_le (k := 9) (f := fun x => [a, b, c].flatMap (G2 x)) (fun x => flatMap_le (hg2' x) [a, b, c]) ([a, b, c].take i)
            have h3 := flatMap_le hg2 ([a, b, c].take j)
            have h4 : ([a, b, c].take i).length ≤ 3 := by rw [List.length_take]; simp; walk_at "om"
            have h5 : ([a, b, c].take j).length ≤ 3 := by rw [List.length_take]; simp; walk_at "om"
            have h6 := Nat.mul_le_mul_right 9 h4
            have h7 := Nat.mul_le_mul_right 3 h5
            have h8 : ([a, b, c] : List Nat).length * 3 = 9 := rfl
            walk_at "om"
          have hrl : rs.length ≤ 3 := by
            have h1 := congrArg List.length hrs
            simp only [List.length_map] at h1
            rw [h1]; exact List.length_filter_le _ _
          have WD := WB1.step WB1 (wr := [hB.objs.size]) (s'' := s₅) (by simp) (fun b o' hb e => hR.keep b o' hb (Heap.get?_push_of_some _ e)) (by have h := hR.tk; dsimp only at h ⊢; walk_at "om") hR.gs hR.os
          have kWD : ∀ b o, b ≠ hB.objs.size → hB.get? b = some o → s₅.heap.get? b = some o := fun b o' hb e => hR.keep b o' (by simpa using hb) (Heap.get?_push_of_some _ e)
          have ltB : ∀ {b o}, hB.get? b = some o → b ≠ hB.objs.size := fun e => Nat.ne_of_lt (Heap.lt_size e)
          have hPw : s₅.heap.PlainList Dw (strValues qs).toArray := hPB.at fun o' e => kWD _ o' (ltB e) e
          have hst9D : St9 (i + 1) s₅.heap := WkSt.keep (hI9.wk _ 0 rfl) hst9B fun o' e => kWD _ o' (ltB e) e
          have hstD : StB (j + 1) s₅.heap := WkSt.keep (hIB.wk _ 0 rfl) hstB fun o' e => kWD _ o' (ltB e) e
          refine Exists.elim hPw fun n1 p1 => Exists.elim hP fun n2 p2 => ?_
          refine P.add_list p1 p2 ?_ (by rw [sizeLine_eq]; simp [strValues]; walk_at "om")
          refine stLk (WD.F.push _) (WD.X.keeps fun b o' e => Heap.get?_push_of_some _ e) fun hE FE XE kE => wpAny_execs_nil (wpAny_execs_nil ?_)
          have hL5' : s.heap.objs.size < s₅.heap.objs.size := WD.F.ns.lt
          have h9lt : h₈.objs.size < s₅.heap.objs.size := hI9.lt _ _ hst9D
          have hAlt : hA.objs.size < s₅.heap.objs.size := hIB.lt _ _ hstD
          have kE' : ∀ b o, b ≠ s.heap.objs.size → s₅.heap.get? b = some o → hE.get? b = some o := fun b o' hb e => (kE.2 b hb).trans (Heap.get?_push_of_some _ e)
          have e8 : (strValues qs).toArray ++ (strValues rs).toArray = (strValues (qs ++ rs)).toArray := by simp [strValues]
          have htkD := WD.tk
          refine ⟨⟨_, cmB, qs ++ rs, s₅.heap.objs.size, ⟨FE, XE, WD.e1, WD.e2, WD.e3, WD.e4, WD.c1, WD.c2, WD.c3, WD.P.at fun o' e => kE' _ o' (Nat.ne_of_gt hLDp') e, (let ⟨f, hd, hf⟩ := WD.D; ⟨f, hd.at fun o' e => kE' _ o' hDdL e, hf⟩), by dsimp only; walk_at "om", WD.gs, WD.os⟩, rfl, Nat.ne_of_gt h9lt, Nat.ne_of_gt hAlt, ?_, huB, WkSt.keep (hI9.wk _ 0 rfl) hst9D fun o' e => kE' _ o' (hne1 _ (Nat.le_refl _)).1 e, ?_⟩, WkSt.keep (hIB.wk _ 0 rfl) hstD fun o' e => kE' _ o' (hneA _ (Nat.le_refl _)).1 e⟩
          · rw [← e8]; exact ⟨0, (kE.2 _ (Nat.ne_of_gt hL5')).trans (Heap.get?_push_size _ rfl)⟩
          · rw [List.map_append, r7, hrs, eG, hG]
            simp only [List.map_append, List.append_assoc, List.map_map]
            rfl
      · rw [if_neg (by simpa using hfb)]
        refine wpAny_execs_nil (wpAny_execs_nil ?_)
        refine ⟨⟨m, cmB, qs, Dw, ⟨WB1.F, WB1.X, WB1.e1, WB1.e2, WB1.e3, WB1.e4, WB1.c1, WB1.c2, WB1.c3, WB1.P, WB1.D, by have := WB1.tk; dsimp only at this ⊢; walk_at "om", WB1.gs, WB1.os⟩, r1, r2, r3, hPB, huB, hst9B, ?_⟩, hstB⟩
        rw [r7, eG, show G2 cx cy = [] from if_neg hfb, List.append_nil]
    · rintro s' E2 hINV
      refine ex4 hINV fun m cm qs Dw hINVa => ?_
      clear hINV
      refine and8 hINVa fun W r1 r2 r3 r4 r5 r6 r7 => ?_
      clear hINVa
      refine wpAny_execs_nil (wpAny_execs_nil ⟨⟨m, cm, qs, Dw, W, r1, r2, r4, ?_⟩, r6⟩)
      rw [r7, List.take_length, List.take_add_one (i := i), hcx, List.flatMap_append]; simp
  · rintro s' E' hINV
    refine ex4 hINV fun m cm qs Dw hINVa => ?_
    clear hINV
    refine and5 hINVa fun W q1 q2 q3 q4 => ?_
    clear hINVa
    refine wpAny_execs_nil (wpAny_execs_cons (wpAny_Return_some (ldLoc W.F q1 ?_)))
    exact hret _ _ ⟨W.F.keep, W.tk, W.gs, W.os⟩ ⟨Dw, qs, rfl, q3, q4⟩
end Mine
end

section
open PySem PySem.Calls PySem.W PyProof.Rows
open PySem.Builtin
namespace Mine
section
variable {w : World} {A : Around} {E : Value → Shared → Prop} {s : Shared}
theorem sliceApplied_upto {sl : Addr} {b n : Nat} {u : Tok} {Q : Int × Int × Nat → Shared → Prop} (hs : s.heap.IsSliceOf sl .none (.int b u) .none) (hb : b ≤ n) (h : Q ((0 : Int), 1, b) s) :
    wpAny (model PP w) A (Builtin.Slice.sliceApplied (.ref sl) (pure (n : Int))) Q E s := by
  obtain ⟨os, hos, hcs, hds⟩ := id hs
  unfold Builtin.Slice.sliceApplied Builtin.Slice.sliceFields
  refine wpAny_bind (wpAny_bind (wpAny_field hos hds (x := .none) rfl (wpAny_bind (wpAny_field hos hds (x := .int b u) rfl (wpAny_bind (wpAny_field hos hds (x := .none) rfl (wpAny_pure ?_)))))))
  refine wpAny_bind (slicePart_none ?_)
  show wpAny _ _ (if ((1 : Int) == 0) = true then _ else _) _ _ s
  rw [if_neg (by decide)]
  refine wpAny_bind (slicePart_none (wpAny_bind (slicePart_int (wpAny_bind (wpAny_pure ?_)))))
  show wpAny _ _ (match Builtin.Slice.sliceAdjust none (some (b : Int)) 1 (n : Int) with | (lo, hi) => pure (lo, (1 : Int), Builtin.Slice.slicePlaces lo hi 1)) _ _ s
  have e1 : Builtin.Slice.sliceAdjust none (some (b : Int)) 1 (n : Int) = (0, (b : Int)) := by
    unfold Builtin.Slice.sliceAdjust
    have h1 : ¬ ((1 : Int) < 0) := by walk_at "om"
    have h2 : ¬ ((b : Int) < 0) := by walk_at "om"
    simp only [h1, h2, if_false]
    congr 1
    walk_at "om"
  rw [e1]
  have e2 : Builtin.Slice.slicePlaces (0 : Int) (b : Int) 1 = b := by
    unfold Builtin.Slice.slicePlaces
    have h1 : (1 : Int) > 0 := by walk_at "om"
    simp only [h1, if_true, Int.ediv_one]
    split <;> walk_at "om"
  show wpAny _ _ (pure ((0 : Int), (1 : Int), Builtin.Slice.slicePlaces (0 : Int) (b : Int) 1)) _ _ s
  rw [e2]
  exact wpAny_pure h
theorem getItem_tuple_one {t sl : Addr} {x y : Value} {u : Tok} {Q : Value → Shared → Prop} (ht : IsTup s.heap t #[x, y]) (hs : s.heap.IsSliceOf sl .none (.int (1 : Nat) u) .none)
    (h : Q (.ref s.heap.objs.size) { s with heap := s.heap.push { cls := .type "tuple", data := .seq #[x] } }) : wpAny (model PP w) A (getItem (.ref t) (.ref sl)) Q E s := by
  have hdrop : sizeOk (.seq (#[x] : Array Value)) := by
    show (#[x] : Array Value).size ≤ sizeLine
    rw [sizeLine_eq]; exact (by decide : 1 ≤ 16777216)
  obtain ⟨os, hos, hcs, hds⟩ := id hs
  have hTs : s.TypeIs (.ref sl) "slice" := ⟨os, hos, hcs⟩
  unfold getItem
  try with_reducible refine wpAny_holding ?_
  first | refine wpAny_bind (wpAny_pure ?_) | skip
  refine wpAny_bind (wpAny_sequenceKey ht.typeIs (by decide) ?_)
  refine wpAny_bind (wpAny_callSpecial?_slot (name := Str.ofString "__getitem__") ht.typeIs slot_tuple_getitem
    (wpAny_call_entry slot_tuple_getitem ht.typeIs entry_tuple_getitem ?_ (args_tuple_getitem _ _)))
  show wpAny _ _ (Builtin.Tuple.tupleItemsOf (.ref t) >>= _) _ _ s
  refine wpAny_bind (tupleItemsOf_ ht ?_)
  refine wpAny_bind (wpAny_typeOf hTs ?_)
  rw [if_pos (by decide)]
  refine wpAny_bind (sliceApplied_upto (b := 1) (n := 2) hs (by decide) ?_)
  show wpAny _ _ (if ((0 : Int) == 0 && (1 : Int) == 1 && (1 : Nat) == (#[x, y] : Array Value).size) = true then _ else _) _ _ s
  rw [if_neg (by simp)]
  have e3 : ((List.range 1).filterMap fun (k : Nat) => (#[x, y] : Array Value)[((0 : Int) + (k : Int) * 1).toNat]?).toArray = #[x] := rfl
  rw [e3]
  first
    | exact wpAny_bind (m := Builtin.Tuple.tupleExact _) (wpAny_newObj_type (wpAny_pure ⟨_, rfl, wpAny_pure h⟩) hdrop)
    | exact wpAny_bind (m := Builtin.Tuple.tupleExact _) (wpAny_newObj_type (wpAny_bind (wpAny_pure (wpAny_pure ⟨_, rfl, wpAny_pure h⟩))) hdrop)
    | exact wpAny_bind (wpAny_bind (m := Builtin.Tuple.tupleExact _) (wpAny_newObj_type (wpAny_pure (wpAny_pure ⟨_, rfl, wpAny_pure h⟩)) hdrop))
    | exact wpAny_bind (wpAny_bind (m := Builtin.Tuple.tupleExact _) (wpAny_newObj_type (wpAny_pure ⟨_, rfl, wpAny_pure h⟩) hdrop))
/-- a list's slice -/
theorem sliceList {value slice : Expr} {l : Addr} {items : Array Value} {vl vu vk : Value} {lo hi st : Option Int} {ops : List Value} {Q : Value → Shared → Prop}
    (hl : s.heap.IsList l items) (pl : IsPart vl lo) (pu : IsPart vu hi) (pk : IsPart vk st) (h0 : st ≠ some 0) (hsz : items.size ≤ 1000)
    (h : Q (.ref (s.heap.objs.size + 1)) { s with heap := (s.heap.push { cls := .type "slice", data := .fields #[vl, vu, vk] }).push { cls := .type "list", data := .seq (slicePick items lo hi st) } })
    (hs : autoParam (subscripted slice false (.ref l) (.ref s.heap.objs.size) = operate ops (getItem (.ref l) (.ref s.heap.objs.size))) aUnf)
    (ht : autoParam (∀ r, letTemporaryGo value (.ref l) r = pure ()) aIntU) :
    wpAny (model PP w) A (subscriptTail value slice (.ref l) (.ref s.heap.objs.size)) Q E { s with heap := s.heap.push { cls := .type "slice", data := .fields #[vl, vu, vk] } } := by
  refine subscriptTail_ops (Heap.IsList.typeIs (s := { s with heap := s.heap.push { cls := .type "slice", data := .fields #[vl, vu, vk] } }) (hl.push _)) list_getitem_lookup
    (wpAny_getItem_list_slice (hl.push _) (Heap.IsSliceOf.new ..) pl pu pk h0 ?_ (by rw [sizeLine_eq]; walk_at "om")) hs ht
  show Q (.ref (s.heap.push _).objs.size) _
  rw [Heap.size_push]
  exact h
/-- a pair's head, as a slice -/
theorem sliceOne {value slice : Expr} {t : Addr} {x y : Value} {u : Tok} {ops : List Value} {Q : Value → Shared → Prop} (ht : s.heap.IsTuple t #[x, y])
    (h : Q (.ref (s.heap.objs.size + 1)) { s with heap := (s.heap.push { cls := .type "slice", data := .fields #[.none, .int (1 : Nat) u, .none] }).push { cls := .type "tuple", data := .seq #[x] } })
    (hs : autoParam (subscripted slice false (.ref t) (.ref s.heap.objs.size) = operate ops (getItem (.ref t) (.ref s.heap.objs.size))) aUnf)
    (hg : autoParam (∀ r, letTemporaryGo value (.ref t) r = pure ()) aIntU) :
    wpAny (model PP w) A (subscriptTail value slice (.ref t) (.ref s.heap.objs.size)) Q E { s with heap := s.heap.push { cls := .type "slice", data := .fields #[.none, .int (1 : Nat) u, .none] } } := by
  have ht' : IsTup (s.heap.push { cls := .type "slice", data := .fields #[.none, .int (1 : Nat) u, .none] }) t #[x, y] := Heap.IsTuple.push ht _
  refine subscriptTail_ops (Heap.IsTuple.typeIs (s := { s with heap := s.heap.push { cls := .type "slice", data := .fields #[.none, .int (1 : Nat) u, .none] } }) ht') slot_tuple_getitem.lookup
    (getItem_tuple_one ht' (Heap.IsSliceOf.new ..) ?_) hs hg
  show Q (.ref (s.heap.push _).objs.size) _
  rw [Heap.size_push]
  exact h
theorem enumNew {v : Value} {o : Obj} {fx : List Addr} {n : Nat} {P : Nat → Value → Prop} {T : Addr → Nat → Heap → Prop} {h₀ : Heap} (S1 : Src w h₀ v fx n P o T) :
    Meets (Builtin.«enumerate.__new__» ⟨[.type "enumerate", v], []⟩) (fun _ R s => s.heap = h₀ ∧
      R (.ok (.ret (.ref (s.heap.objs.size + 1)))) { s with heap := (s.heap.push o).push { cls := .type "enumerate", data := .fields #[.none, .bool false, .ref s.heap.objs.size, rawInt 0, .none, .none] } }) :=
  .of_wp fun prog w A R s h => by
    obtain ⟨hp, g, d, tk, os⟩ := s; obtain ⟨hh, h⟩ := h
    dsimp only at hh; subst hh
    have hsub := sub_enumerate
    have hI1 : ∀ {A : Around} {E : Value → Shared → Prop} {s : Shared} {Q : Value → Shared → Prop}, (∀ b o, hp.get? b = some o → s.heap.get? b = some o) → Q (.ref s.heap.objs.size) { s with heap := s.heap.push o } → wpAny (model prog w) A (pyIter v) Q E s := fun hk hQ => S1.iter _ _ _ _ _ _ hk hQ
    dsimp only at h
    rw [← Heap.size_push hp o] at h
    wp_walk
    refine wpAny_stack_any fun st => wpAny_pure ?_
    split
    · rename_i c _ _ _ _ _
      cases (c == Value.type "enumerate")
      · wp_walk using hI1 (fun b o e => e)
        exact ⟨_, rfl, h⟩
      · wp_walk using hI1 (fun b o e => e)
        exact ⟨_, rfl, h⟩
    · wp_walk using hI1 (fun b o e => e)
      exact ⟨_, rfl, h⟩
theorem WalksT.weak {I : Addr} {fp wr : List Addr} {n : Nat} {P1 P2 : Nat → Array Value → Prop} {St : Nat → Heap → Prop} {Mid : Nat → Addr → Heap → Prop} (W : WalksT PP w A I fp wr n P1 St Mid) (h : ∀ i v, P1 i v → P2 i v) : WalksT PP w A I fp wr n P2 St Mid where
  sub := W.sub
  frame := W.frame
  item := fun i s Q E hi hst hQ => W.item i s Q E hi hst fun T vals h' tk hP => hQ T vals h' tk (h _ _ hP)
  go := W.go
  apart := W.apart
  done := W.done
  self := W.self
theorem enumCall {v : Value} {o : Obj} {fx : List Addr} {n : Nat} {P : Nat → Value → Prop} {T : Addr → Nat → Heap → Prop} {Q : Value → Shared → Prop} (S1 : Src w s.heap v fx n P o T)
    (hQ : ∀ (h' : Heap) (St : Nat → Heap → Prop) (Mid : Nat → Addr → Heap → Prop), (∀ (A' : Around), A'.handled = none → WalksT PP w A' (s.heap.objs.size + 1) ((s.heap.objs.size + 1) :: (s.heap.objs.size :: fx)) [s.heap.objs.size + 1, s.heap.objs.size] n (PtZ (fun i v => ∃ t, v = .int (i : Nat) t) P) St Mid) →
      St 0 h' → h'.objs.size = s.heap.objs.size + 2 → (∀ b o, s.heap.get? b = some o → h'.get? b = some o) → Q (.ref (s.heap.objs.size + 1)) { s with heap := h' }) :
    wpAny (model PP w) A (call (.type "enumerate") [v]) Q E s := by
  refine callType_new F.called_enumerate (by decide) (F.typeCall_enumerate_1 _) (F.newCall_enumerate_1 _) (fun obj => F.args_object_init_2 obj _) F.entry_enumerate_new (enumNew S1) ⟨rfl, ?_⟩
  have q1 := S1.live
  have he : IsEnum ((s.heap.push o).push { cls := .type "enumerate", data := .fields #[.none, .bool false, .ref s.heap.objs.size, rawInt 0, .none, .none] }) (s.heap.objs.size + 1) s.heap.objs.size 0 .none := by
    have := Heap.get?_push_size (s.heap.push o) (o := { cls := .type "enumerate", data := .fields #[.none, .bool false, .ref s.heap.objs.size, rawInt 0, .none, .none] }) rfl
    rw [Heap.size_push] at this; exact this
  show _ ∧ _
  refine ⟨⟨_, he, rfl⟩, ?_⟩
  refine hQ _ (fun i h => (∃ old, IsEnum h (s.heap.objs.size + 1) s.heap.objs.size i old) ∧ T s.heap.objs.size i h) _ (fun A' hA => WalksT.weak (WalksT.enumerateD (S1.draws A'.in1 s.heap.objs.size hA fun b hb => Nat.ne_of_lt (S1.old b hb)) (s.heap.objs.size + 1) (Nat.succ_ne_self _) ?_ (by simp)) ?_) ⟨⟨_, he⟩, S1.start _ _ (Heap.get?_push_of_some _ (Heap.get?_push_size _ q1)) fun b o x => Heap.get?_push_of_some _ (Heap.get?_push_of_some _ x)⟩ (by simp [Heap.size_push]) fun b o x => Heap.get?_push_of_some _ (Heap.get?_push_of_some _ x)
  · intro hm
    rcases List.mem_cons.mp hm with e | e
    · exact absurd (show @Eq Nat _ _ from e) (by walk_at "om")
    · have := S1.old _ e; exact absurd (show @LT.lt Nat _ _ _ from this) (by walk_at "om")
  · rintro i v ⟨t, x, hx, rfl⟩
    exact ⟨.int (i : Nat) t, x, ⟨t, rfl⟩, hx, rfl⟩
end
end Mine
end

section
open PySem PySem.Calls PySem.W PyProof.Rows
namespace Mine
section
variable {w : World} {A : Around} {E : Value → Shared → Prop} {s : Shared}
theorem sumL {l : Addr} {vs : List Value} {ns : List Int} {Q : Value → Shared → Prop} (hh : A.handled = none) (hl : s.heap.IsList l vs.toArray) (hi : IntsAre vs ns)
    (h : ∀ h' tk t', (∀ b o, s.heap.get? b = some o → h'.get? b = some o) → s.toks ≤ tk → Q (.int ns.sum t') { s with heap := h', toks := tk }) :
    wpAny (model PP w) A (call (.builtin "sum") [.ref l]) Q E s := by
  obtain ⟨xs, hx⟩ := hi.allInts.items
  have hn : numsOf vs.toArray.toList = ns := by rw [show vs.toArray.toList = vs from rfl, hi.numsOf]
  rw [hx] at hl hn
  rw [nums_intItems] at hn
  refine wpAny_with_toks (Nat.le_refl _) (sum_intListG hh hl fun h' tk t' hk hle => ?_)
  have := h h' tk t' hk hle
  rw [preSum_eq, List.take_of_length_le (by simp), hn]
  exact this
theorem fmodN (a b : Nat) : ((a : Nat) : Int).fmod ((b : Nat) : Int) = ((a % b : Nat) : Int) := by
  rw [Int.fmod_eq_emod_of_nonneg _ (by walk_at "om")]; rfl
theorem fdivN (a b : Nat) : ((a : Nat) : Int).fdiv ((b : Nat) : Int) = ((a / b : Nat) : Int) := by
  rw [Int.fdiv_eq_ediv_of_nonneg _ (by walk_at "om")]; rfl
theorem modN {a b : Nat} {t u : Tok} {Q : Value → Shared → Prop} (hb : 0 < b) (h : Q (.int ((a % b : Nat) : Int) s.toks) { s with toks := s.toks + 1 }) : wpAny (model PP w) A (binaryOp .Mod (.int ((a : Nat) : Int) t) (.int ((b : Nat) : Int) u)) Q E s :=
  mod_int (by walk_at "om") (by rw [fmodN]; exact h)
theorem modI {a : Int} {b : Nat} {t u : Tok} {Q : Value → Shared → Prop} (hb : 0 < b) (h : ∀ c : Nat, c < b → Q (.int (c : Int) s.toks) { s with toks := s.toks + 1 }) : wpAny (model PP w) A (binaryOp .Mod (.int a t) (.int ((b : Nat) : Int) u)) Q E s := by
  refine mod_int (by walk_at "om") ?_
  have h0 : 0 ≤ a.fmod (b : Int) := Int.fmod_nonneg_of_pos _ (by walk_at "om")
  have h1 : a.fmod (b : Int) < b := Int.fmod_lt_of_pos _ (by walk_at "om")
  have := h (a.fmod (b : Int)).toNat (by walk_at "om")
  rw [Int.toNat_of_nonneg h0] at this
  exact this
theorem addN {a b : Nat} {t u : Tok} {Q : Value → Shared → Prop} (h : Q (.int ((a + b : Nat) : Int) s.toks) { s with toks := s.toks + 1 }) : wpAny (model PP w) A (binaryOp .Add (.int ((a : Nat) : Int) t) (.int ((b : Nat) : Int) u)) Q E s :=
  add_int h
theorem divN {a : Nat} {b : Nat} {t u : Tok} {Q : Value → Shared → Prop} (hb : 0 < b) (hb2 : b < 1000000) (h : Q (.int ((a / b : Nat) : Int) s.toks) { s with toks := s.toks + 1 }) : wpAny (model PP w) A (binaryOp .FloorDiv (.int ((a : Nat) : Int) t) (.int ((b : Nat) : Int) u)) Q E s :=
  floordiv_int (by walk_at "om") (by rw [fdivN]; exact h) (.inl (PyProof.noPylong_small (by rw [Int.natAbs_natCast]; walk_at "om")))
theorem IntsAre.toV {vs : List Value} {ns : List Int} (h : IntsAre vs ns) : IntsV vs.toArray ns := by
  induction h with
  | nil => exact ⟨rfl, fun i n e => by simp at e⟩
  | @cons n t vs ns r ih =>
    refine ⟨by have := ih.1; simp at this ⊢; exact this, fun i k e => ?_⟩
    cases i with
    | zero => simp at e; subst e; exact ⟨t, by simp⟩
    | succ i => obtain ⟨t', q⟩ := ih.2 i k (by simpa using e); exact ⟨t', by simpa using q⟩
/-- «x.append(arg)», anywhere -/
theorem app_listG {env : Env} {x : Str} {arg : Expr} {p1 p2 p3 p4 : Pos} {D : Addr} {items₀ : Array Value} {Q : Flow → Shared → Prop}
    (hn : ∀ (Q : Value → Shared → Prop), Q (.ref D) s → wpAny (model PP w) A (eval (.Name x p1) env) Q E s) (hD : s.heap.PlainList D items₀)
    (h : wpAny (model PP w) A (eval arg env) (fun v s₁ => ∃ items, s₁.heap.PlainList D items ∧ items.size ≤ sizeLine ∧ ∀ h', h'.PlainList D (items.push v) → Heap.SameBut D s₁.heap h' → Q .next { s₁ with heap := h' }) E s)
    (hst : autoParam (starEach [arg] env = (false, eval arg env) :: starEach [] env) aRfl)
    (hi : autoParam (interactive env = false) aRfl) (hs : autoParam (swapsWith (.Call (.Attribute (.Name x p1) "append" p2) [arg] [] p3) none p4.line env = pure false) aRfl)
    {pl : Sem Bool} (he : autoParam (eval (.Call (.Attribute (.Name x p1) "append" p2) [arg] [] p3) env = (do
      let ov ← eval (.Name x p1) env
      standAt p2.atName
      let (f, first) ← holding [ov] (getMethod ov "append" pl)
      callWith p3 f first (backTo p3 (starEach [arg] env)) [])) aRfl) :
    wpAny (model PP w) A (exec (.Expr (.Call (.Attribute (.Name x p1) "append" p2) [arg] [] p3) p4) env) Q E s := by
  refine wpAny_Expr (MethodCall_ (hn _ (getMethod_builtin ?_ PySem.F.plainAttrs_list PySem.F.slot_list_append PySem.F.type_list_append ?_ (callWith_method1 (args_cons (wpAny_mono h (fun v s₁ h₁ => args_nil ?_) fun _ _ e => e) hst) hst rfl))) he) hi hs
  · obtain ⟨n, e⟩ := hD; exact ⟨_, e, rfl⟩
  · intro b e; cases e; obtain ⟨n, e⟩ := hD; exact ⟨_, e, rfl⟩
  · obtain ⟨items, hl, hsz, hq⟩ := h₁
    exact wpAny_list_append_plain hl hq hsz
theorem slice_upto (l : List Nat) (j : Nat) : Txt.slice (S l) none (some (j : Int)) = S (l.take j) := by
  rw [slice_at l _ _ 0 (min j l.length) (by walk_at "om") (by
    unfold Builtin.Str.strSliceIndices
    have e : max (0 : Int) (min (if (j : Int) < 0 then (j : Int) + (l.length : Int) else j) (l.length : Int)) = ((min j l.length : Nat) : Int) := by
      rw [if_neg (by walk_at "om")]; walk_at "om"
    simp [e])]
  congr 1
  rcases Nat.le_total j l.length with h | h
  · rw [Nat.min_eq_left h]; rfl
  · rw [Nat.min_eq_right h, List.take_of_length_le h]; simp
theorem subSl {lo up : Option Expr} {p : Pos} {x : Str} {t : Tok} {a : Addr} : subscripted (.Slice lo up none p) false (.str x t) (.ref a) = operate [.str x t, .ref a] (getItem (.str x t) (.ref a)) := by with_unfolding_all rfl
theorem letSub {v i : Expr} {p : Pos} {x : Str} {t : Tok} (r : Value) : letTemporaryGo (.Subscript v i p) (.str x t) r = pure () := by with_unfolding_all rfl
theorem strFrom {value slice : Expr} {l : List Nat} {t u : Tok} {i : Nat} {Q : Value → Shared → Prop} (hl : l.length ≤ 1000)
    (h : ∀ h' t' tk, (∀ b o, s.heap.get? b = some o → h'.get? b = some o) → s.toks ≤ tk → Q (.str (S (l.drop i)) t') { s with heap := h', toks := tk })
    (hs : autoParam (subscripted slice false (.str (S l) t) (.ref s.heap.objs.size) = operate [.str (S l) t, .ref s.heap.objs.size] (getItem (.str (S l) t) (.ref s.heap.objs.size))) aUnf)
    (hg : autoParam (∀ r, letTemporaryGo value (.str (S l) t) r = pure ()) aIntU) :
    wpAny (model PP w) A (subscriptTail value slice (.str (S l) t) (.ref s.heap.objs.size)) Q E { s with heap := s.heap.push { cls := .type "slice", data := .fields #[.int (i : Nat) u, .none, .none] } } := by
  refine wpAny_with_toks (n := s.toks) (Nat.le_refl _) (tail_of_ItemOn (SBH.sliceItem_sn (P := fun h' => ∀ b o, s.heap.get? b = some o → h'.get? b = some o) (fun h ob k b o e => Heap.get?_push_of_some _ (k b o e)) (fun _ _ e => e) (fun h' t' tk k hle => ?_) (by rw [S_length, sizeLine_eq]; walk_at "om")) hs hg)
  rw [slice_from]
  exact h h' t' tk k hle
theorem strUpto {value slice : Expr} {l : List Nat} {t u : Tok} {i : Nat} {x : List Nat} {Q : Value → Shared → Prop} (hx : l.take i = x) (hl : l.length ≤ 1000)
    (h : ∀ h' t' tk, (∀ b o, s.heap.get? b = some o → h'.get? b = some o) → s.toks ≤ tk → Q (.str (S x) t') { s with heap := h', toks := tk })
    (hs : autoParam (subscripted slice false (.str (S l) t) (.ref s.heap.objs.size) = operate [.str (S l) t, .ref s.heap.objs.size] (getItem (.str (S l) t) (.ref s.heap.objs.size))) aUnf)
    (hg : autoParam (∀ r, letTemporaryGo value (.str (S l) t) r = pure ()) aIntU) :
    wpAny (model PP w) A (subscriptTail value slice (.str (S l) t) (.ref s.heap.objs.size)) Q E { s with heap := s.heap.push { cls := .type "slice", data := .fields #[.none, .int (i : Nat) u, .none] } } := by
  refine wpAny_with_toks (n := s.toks) (Nat.le_refl _) (tail_of_ItemOn (SBH.sliceItem_ns (P := fun h' => ∀ b o, s.heap.get? b = some o → h'.get? b = some o) (fun h ob k b o e => Heap.get?_push_of_some _ (k b o e)) (fun _ _ e => e) (fun h' t' tk k hle => ?_) (by rw [S_length, sizeLine_eq]; walk_at "om")) hs hg)
  rw [slice_upto, hx]
  exact h h' t' tk k hle
noncomputable def gapL (j : Nat) : List Nat := [[], [92, 40], [92, 41], [92, 92], [92, 34]].getD j []
theorem seqIx {k n : Nat} (h : k < n) : seqIndex? ((k : Nat) : Int) n = some k := by unfold seqIndex?; simp; walk_at "om"
theorem gapItem {value slice : Expr} {t : Addr} {t0 t1 t2 t3 t4 u : Tok} {j : Nat} {Q : Value → Shared → Prop} (ht : s.heap.IsTuple t #[.str (S []) t0, .str (S [92, 40]) t1, .str (S [92, 41]) t2, .str (S [92, 92]) t3, .str (S [92, 34]) t4]) (hj : j < 5)
    (h : ∀ tg, Q (.str (S (gapL j)) tg) s)
    (hs : subscripted slice false (.ref t) (.int (j : Nat) u) = operate [.ref t, .int (j : Nat) u] (getItem (.ref t) (.int (j : Nat) u))) : wpAny (model PP w) A (subscriptTail value slice (.ref t) (.int (j : Nat) u)) Q E s := by
  have key : ∃ tg, ([.str (S []) t0, .str (S [92, 40]) t1, .str (S [92, 41]) t2, .str (S [92, 92]) t3, .str (S [92, 34]) t4] : List Value)[j]? = some (.str (S (gapL j)) tg) := by
    rcases j with _ | _ | _ | _ | _ | j
    · exact ⟨_, rfl⟩
    · exact ⟨_, rfl⟩
    · exact ⟨_, rfl⟩
    · exact ⟨_, rfl⟩
    · exact ⟨_, rfl⟩
    · exact absurd hj (by walk_at "om")
  obtain ⟨tg, e⟩ := key
  exact item_tupleT (j := j) ht (by walk_at "om") (by walk_at "om") (seqIx hj) e (h tg) hs
theorem intItem {value slice : Expr} {t : Addr} {t0 t1 t2 t3 u : Tok} {a b c d : Int} {j : Nat} {Q : Value → Shared → Prop} (ht : s.heap.IsTuple t #[.int a t0, .int b t1, .int c t2, .int d t3]) (hj : j < 4)
    (h : ∀ tg, Q (.int ([a, b, c, d].getD j 0) tg) s)
    (hs : subscripted slice false (.ref t) (.int (j : Nat) u) = operate [.ref t, .int (j : Nat) u] (getItem (.ref t) (.int (j : Nat) u))) : wpAny (model PP w) A (subscriptTail value slice (.ref t) (.int (j : Nat) u)) Q E s := by
  have key : ∃ tg, ([.int a t0, .int b t1, .int c t2, .int d t3] : List Value)[j]? = some (.int ([a, b, c, d].getD j 0) tg) := by
    rcases j with _ | _ | _ | _ | j
    · exact ⟨_, rfl⟩
    · exact ⟨_, rfl⟩
    · exact ⟨_, rfl⟩
    · exact ⟨_, rfl⟩
    · exact absurd hj (by walk_at "om")
  obtain ⟨tg, e⟩ := key
  exact item_tupleT (j := j) ht (by walk_at "om") (by walk_at "om") (seqIx hj) e (h tg) hs
end
end Mine
end

section
open PySem PySem.Calls PySem.W PyProof.Rows
namespace Mine
section
variable {w : World} {A : Around} {E : Value → Shared → Prop} {s : Shared}
theorem newTup {items : List Value} {Q : Value → Shared → Prop} (hn : items.length ≤ 100) (h : ∀ h' T, h'.IsTuple T items.toArray → (∀ b o, s.heap.get? b = some o → h'.get? b = some o) → s.heap.objs.size ≤ T → Q (.ref T) { s with heap := h' }) :
    wpAny (model PP w) A (newTuple items) Q E s :=
  wpAny_newTuple (h _ _ ⟨_, Heap.get?_push_size _ rfl, rfl, 0, rfl⟩ (fun b o e => Heap.get?_push_of_some _ e) (Nat.le_refl _)) (by rw [sizeLine_eq]; walk_at "om")
theorem addTup {t b : Addr} {vs ws : List Value} {Q : Value → Shared → Prop} (ht : s.heap.IsTuple t vs.toArray) (hb : s.heap.IsTuple b ws.toArray) (h1 : vs ≠ []) (h2 : ws ≠ []) (hn : vs.length + ws.length ≤ 100)
    (h : ∀ h' T, h'.IsTuple T (vs ++ ws).toArray → (∀ b o, s.heap.get? b = some o → h'.get? b = some o) → s.heap.objs.size ≤ T → Q (.ref T) { s with heap := h' }) :
    wpAny (model PP w) A (binaryOp .Add (.ref t) (.ref b)) Q E s := by
  obtain ⟨⟨cls, dd, data, sl⟩, ho, hc, n, hd⟩ := id ht
  obtain ⟨⟨cls2, dd2, data2, sl2⟩, ho2, hc2, n2, hd2⟩ := id hb
  simp only at hc hd hc2 hd2
  subst hc hd hc2 hd2
  have e : vs.toArray ++ ws.toArray = (vs ++ ws).toArray := by simp
  refine concat_meets ⟨_, ho, rfl⟩ ⟨_, ho2, rfl⟩ noFill_tuple_add seq_tuple_add PySem.F.slot_tuple_add PySem.F.entry_tuple_add (PySem.F.args_tuple_add_2 _ _) (tuple_addW2 t b vs.toArray ws.toArray n n2 dd dd2 sl sl2 (by simpa using h1) (by simpa using h2) (by rw [sizeLine_eq]; simp; walk_at "om")) ⟨ho, ho2, ?_⟩
  rw [e]
  exact h _ _ ⟨_, Heap.get?_push_size _ rfl, rfl, 0, rfl⟩ (fun b o e => Heap.get?_push_of_some _ e) (Nat.le_refl _)
theorem eqN {a b : Nat} {t u : Tok} {Q : Value → Shared → Prop} (h : Q (.bool (decide (a = b))) s) : wpAny (model PP w) A (compareOp .Eq (.int ((a : Nat) : Int) t) (.int ((b : Nat) : Int) u)) Q E s := by
  refine eq_int ?_
  have e : (((a : Nat) : Int) == ((b : Nat) : Int)) = decide (a = b) := by
    by_cases h : a = b
    · subst h; simp
    · rw [beq_eq_false_iff_ne.mpr (by walk_at "om")]; simp [h]
  rw [e]; exact h
theorem mulN {l : List Nat} {n : Nat} {t u : Tok} {Q : Value → Shared → Prop} (hl : l.length ≤ 16) (h1 : n ≤ 1000)
    (h : ∀ t' tk, s.toks ≤ tk → Q (.str (S (List.replicate n l).flatten) t') { s with toks := tk }) : wpAny (model PP w) A (binaryOp .Mult (.str (S l) t) (.int ((n : Nat) : Int) u)) Q E s :=
  mulS hl (by walk_at "om") (by walk_at "om") fun t' tk hle => by rw [Int.toNat_natCast]; exact h t' tk hle
theorem mulN1 {c : Nat} {n : Nat} {t u : Tok} {Q : Value → Shared → Prop} (h1 : n ≤ 1000)
    (h : ∀ t' tk, s.toks ≤ tk → Q (.str (S (List.replicate n c)) t') { s with toks := tk }) : wpAny (model PP w) A (binaryOp .Mult (.str (S [c]) t) (.int ((n : Nat) : Int) u)) Q E s :=
  mulS1 (by walk_at "om") (by walk_at "om") fun t' tk hle => by rw [Int.toNat_natCast]; exact h t' tk hle
theorem lenL {l : Addr} {vs : List Value} {Q : Value → Shared → Prop} (hl : s.heap.IsList l vs.toArray) (hn : vs.length ≤ 1000) (h : Q (.int ((vs.length : Nat) : Int) (s.toks + 1)) { s with toks := s.toks + 1 + 1 }) : wpAny (model PP w) A (call (.builtin "len") [.ref l]) Q E s :=
  len_list hl (by simp; walk_at "om") (by simpa using h)
/-- a way's tuple -/
theorem wayAt {h : Heap} {T Tw : Addr} {sg : Int} {tsg : Tok} {vs : List Value} {way : List Nat} (hT : h.IsTuple T #[.int sg tsg, .ref Tw]) (hw : h.IsTuple Tw vs.toArray) (hi : IntsAre vs (way.map fun k : Nat => (k : Int))) :
    ∃ T' Tw' t vs', (Value.ref T) = .ref T' ∧ h.IsTuple T' #[.int sg t, .ref Tw'] ∧ h.IsTuple Tw' vs' ∧ IntsV vs' (way.map fun k : Nat => (k : Int)) := ⟨T, Tw, tsg, vs.toArray, rfl, hT, hw, IntsAre.toV hi⟩
/-- the way's places, as a pair with its sign, made anew -/
noncomputable def WayAt (h : Heap) (T : Addr) (sg : Int) (way : List Nat) : Prop := ∃ Tw tsg vs, h.IsTuple T #[.int sg tsg, .ref Tw] ∧ h.IsTuple Tw vs ∧ IntsV vs (way.map fun k : Nat => (k : Int))
theorem WayAt.keeps {h h' : Heap} {T : Addr} {sg : Int} {way : List Nat} (x : WayAt h T sg way) (hk : ∀ b o, h.get? b = some o → h'.get? b = some o) : WayAt h' T sg way :=
  let ⟨Tw, tsg, vs, a, b, c⟩ := x; ⟨Tw, tsg, vs, tupKeeps a hk, tupKeeps b hk, c⟩
theorem evalTri {env : Env} {i j k : Nat} {n1 n2 n3 n4 : Nat} {p1 p2 p3 p4 : Pos} {Q : Value → Shared → Prop}
    (h : ∀ h' Tw vs tk, h'.IsTuple Tw vs → IntsV vs [(i : Int), (j : Int), (k : Int)] → (∀ b o, s.heap.get? b = some o → h'.get? b = some o) → s.toks ≤ tk → Q (.ref Tw) { s with heap := h', toks := tk }) :
    wpAny (model PP w) A (eval (.Tuple [.Constant (.int (i : Nat)) n1 p1, .Constant (.int (j : Nat)) n2 p2, .Constant (.int (k : Nat)) n3 p3] n4 p4) env) Q E s := by
  refine Tuple_ (args_cons (wpAny_Constant_int (args_cons (wpAny_Constant_int (args_cons (wpAny_Constant_int (args_nil (newTup (by simp) fun h' T hT hk _ => ?_))))))))
  exact h h' T _ _ hT (IntsAre.toV (.cons _ _ (.cons _ _ (.cons _ _ .nil)))) hk (by dsimp only; walk_at "om")
theorem evalPos {env : Env} {sg : Int} {i j k : Nat} {n0 n1 n2 n3 n4 n5 : Nat} {p0 p1 p2 p3 p4 p5 : Pos} {Q : Value → Shared → Prop}
    (h : ∀ h' T tk, WayAt h' T sg [i, j, k] → (∀ b o, s.heap.get? b = some o → h'.get? b = some o) → s.toks ≤ tk → Q (.ref T) { s with heap := h', toks := tk }) :
    wpAny (model PP w) A (eval (.Tuple [.Constant (.int sg) n0 p0, .Tuple [.Constant (.int (i : Nat)) n1 p1, .Constant (.int (j : Nat)) n2 p2, .Constant (.int (k : Nat)) n3 p3] n4 p4] n5 p5) env) Q E s := by
  refine Tuple_ (args_cons (wpAny_Constant_int (args_cons (evalTri fun h1 Tw vs tk1 hTw hv hk1 hle1 => args_nil (newTup (by simp) fun h2 T hT hk2 _ => ?_)))))
  dsimp only at hk1 hle1 hk2
  exact h h2 T _ ⟨Tw, _, vs, hT, tupKeeps hTw hk2, hv⟩ (fun b o e => hk2 b o (hk1 b o e)) (by dsimp only; walk_at "om")
theorem evalNeg {env : Env} {sg : Int} {i j k : Nat} {n0 n1 n2 n3 n4 n5 : Nat} {p0 p0' p1 p2 p3 p4 p5 : Pos} {Q : Value → Shared → Prop}
    (h : ∀ h' T tk, WayAt h' T (-sg) [i, j, k] → (∀ b o, s.heap.get? b = some o → h'.get? b = some o) → s.toks ≤ tk → Q (.ref T) { s with heap := h', toks := tk }) :
    wpAny (model PP w) A (eval (.Tuple [.UnaryOp .USub (.Constant (.int sg) n0 p0) p0', .Tuple [.Constant (.int (i : Nat)) n1 p1, .Constant (.int (j : Nat)) n2 p2, .Constant (.int (k : Nat)) n3 p3] n4 p4] n5 p5) env) Q E s := by
  refine Tuple_ (args_cons (UnaryOp_ (wpAny_Constant_int (P.neg_int (args_cons (evalTri fun h1 Tw vs tk1 hTw hv hk1 hle1 => args_nil (newTup (by simp) fun h2 T hT hk2 _ => ?_)))))))
  dsimp only at hk1 hle1 hk2
  exact h h2 T _ ⟨Tw, _, vs, hT, tupKeeps hTw hk2, hv⟩ (fun b o e => hk2 b o (hk1 b o e)) (by dsimp only; walk_at "om")
theorem swapTup {es : List Expr} {k : Nat} {pos : Pos} {t : Option Expr} {l : Nat} {env : Env} : swapsWith (.Tuple es k pos) t l env = pure false := rfl
theorem swapBin {a b : Expr} {o : Operator} {pos : Pos} {t : Option Expr} {l : Nat} {env : Env} : swapsWith (.BinOp a o b pos) t l env = pure false := rfl
theorem swapCall {f : Expr} {as : List Expr} {ks : List Keyword} {pos : Pos} {t : Option Expr} {l : Nat} {env : Env} : swapsWith (.Call f as ks pos) t l env = pure false := rfl
end
end Mine
end

section
open PySem PySem.Calls PySem.W PyProof.Rows
open PySem.Builtin.Int (intBits)
namespace Mine
/-- places of ways, item by item -/
noncomputable def WaysL (h : Heap) : List Value → List (Int × List Nat) → Prop
  | [], [] => True
  | .ref A :: vs, x :: ws => WayAt h A x.1 x.2 ∧ WaysL h vs ws
  | _, _ => False
theorem WaysL.len {h : Heap} : ∀ {vs : List Value} {ws : List (Int × List Nat)}, WaysL h vs ws → vs.length = ws.length
  | [], [], _ => rfl
  | .ref A :: vs, x :: ws, ⟨_, r⟩ => by simp [WaysL.len r]
theorem WaysL.at {h : Heap} : ∀ {vs : List Value} {ws : List (Int × List Nat)}, WaysL h vs ws → ∀ (i : Nat) x, ws[i]? = some x → ∃ T, vs[i]? = some (.ref T) ∧ WayAt h T x.1 x.2
  | [], [], _, i, x, e => by simp at e
  | .ref A :: vs, y :: ws, ⟨a, r⟩, 0, x, e => by simp at e; subst e; exact ⟨A, rfl, a⟩
  | .ref A :: vs, y :: ws, ⟨a, r⟩, i + 1, x, e => by
    obtain ⟨T, e1, e2⟩ := WaysL.at r i x (by simpa using e)
    exact ⟨T, by simpa using e1, e2⟩
theorem WaysAt.of {h : Heap} {T : Addr} {vs : List Value} {ws : List (Int × List Nat)} (hT : h.IsTuple T vs.toArray) (hw : WaysL h vs ws) : WaysAt h T ws := by
  refine ⟨_, hT, by simpa using hw.len, fun i sg way e => ?_⟩
  obtain ⟨T', e1, Tw, tsg, vs', a, b, c⟩ := hw.at i _ e
  exact ⟨T', Tw, tsg, vs', by simpa using e1, a, b, c⟩
noncomputable abbrev twoW : List (Int × List Nat) := [(1, [0, 1, 2]), (-1, [1, 0, 2])]
noncomputable abbrev sixW : List (Int × List Nat) := [(1, [0, 1, 2]), (-1, [1, 0, 2]), (-1, [0, 2, 1]), (1, [1, 2, 0]), (1, [2, 0, 1]), (-1, [2, 1, 0])]
noncomputable abbrev oneW : List (Int × List Nat) := [(1, [0, 1, 2])]
/-- the law's texts and numbers -/
noncomputable def cntL (a b c : Nat) (x : List Nat) : List Nat := [x.count a, x.count b, x.count c]
noncomputable def stL (p q : Nat) : List Nat := [p + q + 2, q + 1, 0]
noncomputable def powL (p q a b c : Nat) (x : List Nat) : List Nat := [p + q + 2 + x.count a, q + 1 + x.count b, x.count c]
noncomputable def seenL (p a b : Nat) (x : List Nat) : List Nat := rowL x a b p ((p : Int) + (x.count a : Nat) - (x.count b : Nat))
noncomputable def quotedL (q b c : Nat) (g x : List Nat) : List Nat := [34] ++ g ++ seenL q b c x ++ [34]
noncomputable def textL (p q a b c : Nat) (g x : List Nat) : List Nat := if q = 1 then seenL p a b x ++ quotedL q b c g x else quotedL q b c g x ++ seenL p a b x
noncomputable def bareB (p q a b c : Nat) (g x : List Nat) : Bool := chk (textL p q a b c g x)
noncomputable def markB (wh : Int) (p q a b c : Nat) (g x : List Nat) : Bool := chk (wri wh (textL p q a b c g x))
noncomputable def wholeT (bs : List Int) (a b c : Nat) (x : List Nat) : Int := turnsL oneW bs (cntL a b c x)
noncomputable def oneT (bs : List Int) (p q a b c : Nat) (g x : List Nat) : Int := if bareB p q a b c g x = true then turnsL twoW bs (powL p q a b c x) else 0
noncomputable def bothT (bs : List Int) (wh : Int) (p q a b c : Nat) (g x : List Nat) : Int := if bareB p q a b c g x = true ∧ markB wh p q a b c g x = true then turnsL sixW bs (powL p q a b c x) else 0
/-- a word is as the law wants it -/
noncomputable def okT (wh : Int) (p q a b c : Nat) (g x : List Nat) : Prop := x.length ≤ 10 ∧ (textL p q a b c g x).length ≤ 1000 ∧ (wri wh (textL p q a b c g x)).length ≤ 1000 ∧
  (bareB p q a b c g x = true → q + 1 + x.count b < p + q + 2 + x.count a ∧ (markB wh p q a b c g x = true → x.count c < q + 1 + x.count b))
theorem wri_id : True := trivial
theorem pow_bits {b : Int} {k : Nat} (hb : 0 ≤ b ∧ b < 4096) (hk : k ≤ 16) : intBits (b ^ k) ≤ 200 := by
  have h1 : intBits b ≤ 12 := PySem.intBits_le_iff.mpr (by walk_at "om")
  have h2 := PySem.intBits_pow_le h1 k
  walk_at "om"
theorem prodL_bits (ps : List Nat) (hp : ∀ p ∈ ps, p ≤ 16) : ∀ (ks : List (Int × Nat)) (z : Int) (m : Nat), (∀ k ∈ ks, 0 ≤ k.1 ∧ k.1 < 4096) → intBits z ≤ m → intBits (prodL ps z ks) ≤ m + 200 * ks.length
  | [], z, m, _, hz => by simpa [prodL] using hz
  | k :: ks, z, m, hk, hz => by
    unfold prodL
    rw [List.foldl_cons]
    have hg : ps.getD k.2 0 ≤ 16 := by
      rw [List.getD_eq_getElem?_getD]
      cases h : ps[k.2]? with
      | none => simp
      | some v => exact hp v (List.mem_of_getElem? h)
    have h1 := PySem.intBits_mul_le hz (pow_bits (hk k (List.mem_cons_self ..)) hg)
    have h2 := prodL_bits ps hp ks _ _ (fun x hx => hk x (List.mem_cons_of_mem _ hx)) h1
    unfold prodL at h2
    rw [List.length_cons]
    walk_at "om"
theorem sum_bits {m : Nat} : ∀ l : List Int, (∀ z ∈ l, intBits z ≤ m) → intBits l.sum ≤ m + l.length
  | [], _ => by simp [show intBits 0 = 0 from rfl]
  | z :: l, h => by
    have h1 := sum_bits l fun y hy => h y (List.mem_cons_of_mem _ hy)
    have h2 := PySem.intBits_add_le (h z (List.mem_cons_self ..)) h1
    rw [List.sum_cons, List.length_cons]
    walk_at "om"
theorem turns_bits {ws : List (Int × List Nat)} {bs : List Int} {ps : List Nat} (hw : ∀ x ∈ ws, intBits x.1 ≤ 1) (hb : ∀ b ∈ bs, 0 ≤ b ∧ b < 4096) (hp : ∀ p ∈ ps, p ≤ 16) : intBits (turnsL ws bs ps) ≤ 1 + 200 * bs.length + ws.length := by
  have := sum_bits (m := 1 + 200 * bs.length) (ws.map fun x => prodL ps x.1 (bs.zip x.2)) (by
    intro z hz
    obtain ⟨x, hx, rfl⟩ := List.mem_map.mp hz
    have h1 := prodL_bits ps hp (bs.zip x.2) x.1 1 (fun k hk => hb k.1 (List.of_mem_zip hk).1) (hw x hx)
    have h2 : (bs.zip x.2).length ≤ bs.length := by rw [List.length_zip]; walk_at "om"
    walk_at "om")
  unfold turnsL
  rw [List.length_map] at this
  exact this
/-- objects that no store of a name changes -/
theorem Fr.neSeq {h₀ h : Heap} {L T : Addr} {m : Str → Option Value} {o : Obj} {it : Array Value} {n : Nat} (F : Fr h₀ L h m) (hT : h.get? T = some o) (hd : o.data = .seq it n) : T ≠ L := by
  rintro rfl
  obtain ⟨o', es, ep, h1, h2, _⟩ := F.ns
  rw [hT] at h1; cases h1; rw [hd] at h2; cases h2
theorem Cl.neSeq {h : Heap} {L T c : Addr} {x : Str} {cs : List (Str × Addr)} {cm : Str → Option Value} {o : Obj} {it : Array Value} {n : Nat} (X : Cl L cs h cm) (hc : cs.lookup x = some c) (hT : h.get? T = some o) (hd : o.data = .seq it n) : T ≠ c := by
  rintro rfl
  obtain ⟨o', e1, e2⟩ := X.cell x _ hc
  rw [hT] at e1; cases e1; rw [hd] at e2; cases e2
noncomputable abbrev KS (h h' : Heap) : Prop := ∀ b o it n, h.get? b = some o → o.data = .seq it n → h'.get? b = some o
theorem KS.of {h h' : Heap} (hk : ∀ b o, h.get? b = some o → h'.get? b = some o) : KS h h' := fun b o _ _ e _ => hk b o e
theorem KS.trans {h h' h'' : Heap} (a : KS h h') (b : KS h' h'') : KS h h'' := fun c o it n e d => b c o it n (a c o it n e d) d
theorem KS.but {h₀ h h' : Heap} {L : Addr} {m : Str → Option Value} (F : Fr h₀ L h m) (hk : ∀ b o, b ≠ L → h.get? b = some o → h'.get? b = some o) : KS h h' := fun b o it n e d => hk b o (Fr.neSeq F e d) e
theorem KS.cell {h h' : Heap} {L c : Addr} {x : Str} {cs : List (Str × Addr)} {cm : Str → Option Value} (X : Cl L cs h cm) (hc : cs.lookup x = some c) (hs : Heap.SameBut c h h') : KS h h' := fun b o it n e d => (hs.2 b (Cl.neSeq X hc e d)).trans e
theorem KS.tuple {h h' : Heap} {T : Addr} {it : Array Value} (k : KS h h') (x : h.IsTuple T it) : h'.IsTuple T it := by
  obtain ⟨o, e, hc, n, hd⟩ := x; exact ⟨o, k _ _ _ _ e hd, hc, n, hd⟩
theorem KS.list {h h' : Heap} {T : Addr} {it : Array Value} (k : KS h h') (x : h.IsList T it) : h'.IsList T it := by
  obtain ⟨o, e, hc, n, hd⟩ := x; exact ⟨o, k _ _ _ _ e hd, hc, n, hd⟩
theorem KS.plain {h h' : Heap} {T : Addr} {it : Array Value} (k : KS h h') (x : h.PlainList T it) : h'.PlainList T it := by
  obtain ⟨n, e⟩ := x; exact ⟨n, k _ _ _ _ e rfl⟩
theorem KS.way {h h' : Heap} {T : Addr} {sg : Int} {way : List Nat} (k : KS h h') (x : WayAt h T sg way) : WayAt h' T sg way := by
  obtain ⟨Tw, tsg, vs, a, b, c⟩ := x; exact ⟨Tw, tsg, vs, k.tuple a, k.tuple b, c⟩
theorem KS.ways {h h' : Heap} {T : Addr} {ws : List (Int × List Nat)} (k : KS h h') (x : WaysAt h T ws) : WaysAt h' T ws := by
  obtain ⟨items, ht, hn, hi⟩ := x
  refine ⟨items, k.tuple ht, hn, fun i sg way e => ?_⟩
  obtain ⟨T, Tw, t, vs, a1, a2, a3, a4⟩ := hi i sg way e
  exact ⟨T, Tw, t, vs, a1, k.tuple a2, k.tuple a3, a4⟩
/-- what the law's loop reads -/
structure Dat where
  (Db T2 A2 B2 T6 Ts : Addr) (vb vs : List Value) (x0 x1 x2 p q n a b c : Nat) (g : List Nat) (tp tq tl tw tg : Tok)
noncomputable abbrev Dat.bs (d : Dat) : List Int := [(d.x0 : Int), (d.x1 : Int), (d.x2 : Int)]
structure Nm (m : Str → Option Value) (d : Dat) : Prop where
  bases : m "bases" = some (.ref d.Db)
  p : m "p" = some (.int (d.p : Nat) d.tp)
  q : m "q" = some (.int (d.q : Nat) d.tq)
  letters : m "letters" = some (.str (S [d.a, d.b, d.c]) d.tl)
  which : m "which" = some (.int (d.n / 4 % 3 : Nat) d.tw)
  gap : m "gap" = some (.str (S d.g) d.tg)
  two : m "two" = some (.ref d.T2)
  six : m "six" = some (.ref d.T6)
  start : m "start" = some (.ref d.Ts)
structure Hp (h : Heap) (d : Dat) : Prop where
  bases : h.PlainList d.Db d.vb.toArray
  two : h.IsTuple d.T2 #[.ref d.A2, .ref d.B2]
  twoA : WayAt h d.A2 1 [0, 1, 2]
  twoB : WayAt h d.B2 (-1) [1, 0, 2]
  six : WaysAt h d.T6 sixW
  start : h.IsTuple d.Ts d.vs.toArray
theorem Hp.keep {h h' : Heap} {d : Dat} (x : Hp h d) (k : KS h h') : Hp h' d := ⟨k.plain x.bases, k.tuple x.two, k.way x.twoA, k.way x.twoB, k.ways x.six, k.tuple x.start⟩
structure Fit (d : Dat) : Prop where
  hBi : IntsAre d.vb d.bs
  hSi : IntsAre d.vs ((stL d.p d.q).map fun k : Nat => (k : Int))
  x0 : d.x0 < 4096
  x1 : d.x1 < 4096
  x2 : d.x2 < 4096
  p : d.p ≤ 1
  q : d.q ≤ 1
  g : d.g.length ≤ 2
theorem Fit.bb {d : Dat} (f : Fit d) : ∀ b ∈ d.bs, 0 ≤ b ∧ b < 4096 := by
  have := f.x0; have := f.x1; have := f.x2
  intro b hb
  simp only [List.mem_cons, List.not_mem_nil, or_false] at hb
  rcases hb with rfl | rfl | rfl <;> walk_at "om"
theorem cnt_le {a b c : Nat} {x : List Nat} (hx : x.length ≤ 10) : ∀ k ∈ cntL a b c x, k ≤ 16 := by
  have h1 := List.count_le_length (a := a) (l := x)
  have h2 := List.count_le_length (a := b) (l := x)
  have h3 := List.count_le_length (a := c) (l := x)
  intro k hk
  simp only [cntL, List.mem_cons, List.not_mem_nil, or_false] at hk
  rcases hk with rfl | rfl | rfl <;> walk_at "om"
theorem pow_le {p q a b c : Nat} {x : List Nat} (hx : x.length ≤ 10) (hp : p ≤ 1) (hq : q ≤ 1) : ∀ k ∈ powL p q a b c x, k ≤ 16 := by
  have h1 := List.count_le_length (a := a) (l := x)
  have h2 := List.count_le_length (a := b) (l := x)
  have h3 := List.count_le_length (a := c) (l := x)
  intro k hk
  simp only [powL, List.mem_cons, List.not_mem_nil, or_false] at hk
  rcases hk with rfl | rfl | rfl <;> walk_at "om"
theorem st_le {p q : Nat} (hp : p ≤ 1) (hq : q ≤ 1) : ∀ k ∈ stL p q, k ≤ 16 := by
  intro k hk
  simp only [stL, List.mem_cons, List.not_mem_nil, or_false] at hk
  rcases hk with rfl | rfl | rfl <;> walk_at "om"
theorem oneW_ok : ∀ x ∈ oneW, intBits x.1 ≤ 1 ∧ x.2.length ≤ 100 ∧ ∀ k ∈ x.2, k < 3 := by decide +kernel
theorem twoW_ok : ∀ x ∈ twoW, intBits x.1 ≤ 1 ∧ x.2.length ≤ 100 ∧ ∀ k ∈ x.2, k < 3 := by decide +kernel
theorem sixW_ok : ∀ x ∈ sixW, intBits x.1 ≤ 1 ∧ x.2.length ≤ 100 ∧ ∀ k ∈ x.2, k < 3 := by decide +kernel
theorem row_length (x : List Nat) (o c a : Nat) (b : Int) : (rowL x o c a b).length ≤ a + 2 * x.length + (max b 0).toNat := by
  have := marks_length o c x
  unfold rowL
  simp only [List.length_append, List.length_replicate]
  walk_at "om"
theorem seen_length {p a b : Nat} {x : List Nat} (hx : x.length ≤ 10) (hp : p ≤ 1) : (seenL p a b x).length ≤ 40 := by
  have := row_length x a b p ((p : Int) + (x.count a : Nat) - (x.count b : Nat))
  have h1 := List.count_le_length (a := a) (l := x)
  unfold seenL
  walk_at "om"
/-- the body of a loop -/
noncomputable def forB : List Stmt → List Stmt
  | .For _ _ b _ _ :: _ => b
  | _ => []
end Mine
end

section
open PySem PySem.Calls PySem.W PyProof.Rows
namespace Mine
example (P : Params) : hd.heap_161 P = hd.heap_161 P ∧ PySem.Challenge.rw_wr0028_01 = PySem.Challenge.rw_wr0028_01 := by k_fill; exact ⟨rfl, rfl⟩
theorem getBody {w : World} {oc : Value} {od : Option Addr} {name qual : Str} {params : Arguments} {body : List Stmt} {scope : Scope} {dV kV doc pm cdv ct : Value} {an : Option Addr} {osl : Array (Option Value)}
    (h : (hd.heap_161 w.params).lookup 122 = some ⟨oc, od, .func (fnOf name qual params body scope dV kV doc pm an cdv ct), osl⟩) :
    (hd.heap_161 w.params).lookup 122 = some ⟨oc, od, .func (fnOf name qual params body scope dV kV doc pm an cdv ct), osl⟩ := h
theorem sameDef {K : Frag} {a : Addr} {oc oc' : Value} {od od' : Option Addr} {name name' qual qual' : Str} {params params' : Arguments} {body body' : List Stmt} {scope scope' : Scope} {dV kV doc pm cdv ct dV' kV' doc' pm' cdv' ct' : Value} {an an' : Option Addr} {osl osl' : Array (Option Value)}
    (ho : K.lookup a = some ⟨oc, od, .func (fnOf name qual params body scope dV kV doc pm an cdv ct), osl⟩) (h2 : K.lookup a = some ⟨oc', od', .func (fnOf name' qual' params' body' scope' dV' kV' doc' pm' an' cdv' ct'), osl'⟩) : qual = qual' ∧ body = body' ∧ scope = scope' ∧ cdv = cdv' := by
  have e := Option.some.inj (ho.symm.trans h2)
  injection e with i1 i2 i3 i4
  injection i3 with i3
  injection i3 with j1 j2 j3 j4 j5 j6 j7 j8 j9 j10 j11 j12 code_eq j14
  injection j4 with j4
  exact ⟨j2, j4, j5, code_eq⟩
theorem turnC {w : World} {s s' : Shared} {mean : ExcName → Option Value} {mg mb : Str → Option Value} {dp un : Nat} {gd : Option (List Code)} {base : Heap} {outer : List Env} {Q' : Flow → Shared → Prop} {E' : Value → Shared → Prop}
    {oc : Value} {od : Option Addr} {name qual : Str} {params : Arguments} {body : List Stmt} {scope : Scope} {dV kV doc pm cdv ct : Value} {an : Option Addr} {osl : Array (Option Value)} {m cm : Str → Option Value}
    {d : Dat} {x : List Nat} {Dc Dp : Addr} {vc vp : Array Value} {W O B : Int} {tt tW tO tB : Tok}
    (ho : (hd.heap_161 w.params).lookup 122 = some ⟨oc, od, .func (fnOf name qual params body scope dV kV doc pm an cdv ct), osl⟩)
    (C : Cal w mean mg mb dp un gd base outer s) (hdp : dp + 8 < recursionLimit) (hu : un + 20 < cLine)
    (F : Fr s.heap s.heap.objs.size s'.heap m) (X : Cl s.heap.objs.size (csOf scope s.heap.objs.size) s'.heap cm)
    (N : Nm m d) (H : Hp s'.heap d) (fit : Fit d)
    (e1 : m "counts" = some (.ref Dc)) (hDc : s'.heap.IsList Dc vc) (hvc : IntsV vc ((cntL d.a d.b d.c x).map fun k : Nat => (k : Int)))
    (e2 : m "powers" = some (.ref Dp)) (hDp : s'.heap.IsList Dp vp) (hvp : IntsV vp ((powL d.p d.q d.a d.b d.c x).map fun k : Nat => (k : Int)))
    (e3 : m "text" = some (.str (S (textL d.p d.q d.a d.b d.c d.g x)) tt)) (e4 : m "whole" = some (.int W tW)) (e5 : m "one" = some (.int O tO)) (e6 : m "both" = some (.int B tB))
    (htk : s.toks ≤ s'.toks) (hgs : AllBare s'.gens) (hos : s'.os = s.os) (hx : okT (d.n / 4 % 3 : Nat) d.p d.q d.a d.b d.c d.g x)
    (hret : ∀ s'' m'' t1 t2 t3, Fr s.heap s.heap.objs.size s''.heap m'' → Cl s.heap.objs.size (csOf scope s.heap.objs.size) s''.heap cm → (∀ b o, b ≠ s.heap.objs.size → s'.heap.get? b = some o → s''.heap.get? b = some o) →
      Nm m'' d → m'' "whole" = some (.int (W + wholeT d.bs d.a d.b d.c x) t1) → m'' "one" = some (.int (O + oneT d.bs d.p d.q d.a d.b d.c d.g x) t2) → m'' "both" = some (.int (B + bothT d.bs (d.n / 4 % 3 : Nat) d.p d.q d.a d.b d.c d.g x) t3) →
      s'.toks ≤ s''.toks → AllBare s''.gens → s''.os = s.os → Q' .next s'') :
    wpAny (model PP w) ((arT dp un gd outer).deeper (envOfC qual scope s.heap.objs.size 122 cdv)) (execs ((forB (body.drop 14)).drop 6) (envOfC qual scope s.heap.objs.size 122 cdv)) Q' E' s' := by
  have h2 := getBody (w := w) (by k_is)
  obtain ⟨j2, j4, j5, code_eq⟩ := sameDef ho h2
  subst j2 j4 j5 code_eq
  clear ho h2
  have htk1 := C.tk
  have hBv : IntsV d.vb.toArray d.bs := IntsAre.toV fit.hBi
  have hxl := hx.1
  -- whole
  refine wpAny_execs_cons ?_
  refine wpAny_Assign_Name ?_ ?_
  rotate_left
  · exact swapCall
  refine Call_ (nmK F.keep C.X (topRead_of C.T) (by k_is) (callWith_K C.X (by k_is) (args_cons (ldLoc F e4 (args_cons (Call_ ?_))))))
  refine nmK F.keep C.X (topRead_of C.T) (by k_is) (callWith_K C.X (by k_is) (args_cons (Subscript_ (ldLoc F N.two (wpAny_Slice (evalPart_none_step (evalPart_some_step (wpAny_Constant_int (evalPart_none_step ?_)))))))))
  refine sliceOne H.two ?_
  have hk1 : ∀ (o1 o2 : Obj) b o, s'.heap.get? b = some o → ((s'.heap.push o1).push o2).get? b = some o := fun o1 o2 b o e => Heap.get?_push_of_some _ (Heap.get?_push_of_some _ e)
  refine args_cons (ldLoc (Fr.more F (hk1 _ _)) N.bases (args_cons (ldLoc (Fr.more F (hk1 _ _)) e1 (args_nil ⟨C.X.keeps (fun b o e => hk1 _ _ b o (F.keep b o e)), ?_⟩))))
  refine turns_spec oneW d.bs (cntL d.a d.b d.c x) (WaysAt.of (vs := [.ref d.A2]) ⟨_, (show _ = some _ from by rw [← Heap.size_push]; exact Heap.get?_push_size _ rfl), rfl, 0, rfl⟩ ⟨KS.way (KS.of (hk1 _ _)) H.twoA, trivial⟩) ((KS.of (hk1 _ _)).plain H.bases).isList hBv (.inl ((KS.of (hk1 _ _)).list hDc)) hvc fit.bb (cnt_le hxl) oneW_ok (show 3 ≤ 100 by decide) mean mg mb _ _ _ base _ _ _ (C.insideC (Fr.more F (hk1 _ _)) (by dsimp only; walk_at "om") hgs) (show dp + 1 + 3 < recursionLimit by walk_at "om") (show un + 3 + 8 < cLine by walk_at "om") fun v s₂ G hv => ?_
  have hle2 := G.tk
  have hgs2 := G.gs
  have hos2 := G.os
  have hk2 := G.keep
  dsimp only at hle2 hos2 hk2
  have k2 : ∀ b o, s'.heap.get? b = some o → s₂.heap.get? b = some o := fun b o e => hk2 b o (hk1 _ _ b o e)
  clear G
  refine Exists.elim hv fun t2 hv => ?_
  subst hv
  have F2 := Fr.more F k2
  have X2 := X.keeps k2
  have H2 := H.keep (KS.of k2)
  refine args_nil ⟨C.X.keeps F2.keep, ?_⟩
  refine (addI _ _ _ _).int mean mg mb _ _ _ base _ _ _ (C.insideC F2 (by walk_at "om") hgs2) (show dp + 1 + 1 < recursionLimit by walk_at "om") (show un + 3 + 1 < cLine by walk_at "om") fun t3 s₃ G3 => ?_
  have hle3 := G3.tk
  have hgs3 := G3.gs
  have hos3 := G3.os.trans (hos2.trans hos)
  have k3 : ∀ b o, s'.heap.get? b = some o → s₃.heap.get? b = some o := fun b o e => G3.keep b o (k2 b o e)
  clear G3 hk2
  refine stLk (Fr.more F k3) (X.keeps k3) fun h₄ F4 X4 k4 => ?_
  try dsimp only at k4
  have K4 : KS s'.heap h₄ := fun b o it n e dd => (k4.2 b (Fr.neSeq F e dd)).trans (k3 b o e)
  have L4 : ∀ b o, b ≠ s.heap.objs.size → s'.heap.get? b = some o → h₄.get? b = some o := fun b o hb e => (k4.2 b hb).trans (k3 b o e)
  -- bare
  refine wpAny_execs_cons ?_
  refine wpAny_Assign_Name ?_ ?_
  rotate_left
  · exact swapCall
  refine Call_ (nmK F4.keep C.X (topRead_of C.T) (by k_is) (callWith_K C.X (by k_is) (args_cons (ldLoc F4 e3 (args_nil ⟨C.X.keeps F4.keep, ?_⟩)))))
  refine (chk_spec _ tt (Nat.le_trans hx.2.1 (by decide))).val mean mg mb _ _ _ base _ _ _ (C.insideC F4 (by dsimp only; walk_at "om") hgs3) (show dp + 1 + 3 < recursionLimit by walk_at "om") (show un + 3 + 8 < cLine by walk_at "om") fun s₅ G5 => ?_
  have hle5 := G5.tk
  have hgs5 := G5.gs
  have hos5 := G5.os.trans hos3
  have k5 := G5.keep
  dsimp only at hle5 hos5 k5
  clear G5
  refine stLk (Fr.more F4 k5) (X4.keeps k5) fun h₆ F6 X6 k6 => ?_
  try dsimp only at k6
  have K6 : KS s'.heap h₆ := fun b o it n e dd => (k6.2 b (Fr.neSeq F e dd)).trans (k5 b o (K4 b o it n e dd))
  have L6 : ∀ b o, b ≠ s.heap.objs.size → s'.heap.get? b = some o → h₆.get? b = some o := fun b o hb e => (k6.2 b hb).trans (k5 b o (L4 b o hb e))
  have H6 := H.keep K6
  have hDp6 := K6.list hDp
  -- if bare is True
  refine wpAny_execs_cons ?_
  refine wpAny_If (wpAny_isTrue_Compare1 (ldLoc F6 rfl (wpAny_Constant_bool (wpAny_is_plain rfl (wpAny_truthy_bool ?_)))))
  have hb : bareB d.p d.q d.a d.b d.c d.g x = chk (textL d.p d.q d.a d.b d.c d.g x) := rfl
  cases hbb : chk (textL d.p d.q d.a d.b d.c d.g x)
  · rw [if_neg (by decide)]
    refine wpAny_execs_cons ?_
    refine wpAny_If (wpAny_isTrue_Compare1 (ldLoc F6 (by rw [hbb]; rfl) (wpAny_Constant_bool (wpAny_isNot_plain rfl (wpAny_truthy_bool ?_)))))
    rw [if_neg (by decide)]
    refine wpAny_execs_nil (wpAny_execs_nil (wpAny_execs_nil ?_))
    refine hret { s₅ with heap := h₆, toks := s₅.toks + 1 } _ _ tO tB F6 X6 L6 ⟨N.bases, N.p, N.q, N.letters, N.which, N.gap, N.two, N.six, N.start⟩ rfl ?_ ?_ ?_ hgs5 hos5
    · have h0 : oneT d.bs d.p d.q d.a d.b d.c d.g x = 0 := by unfold oneT; rw [hb, hbb, if_neg (by decide)]
      rw [h0, Int.add_zero]; exact e5
    · have h0 : bothT d.bs (d.n / 4 % 3 : Nat) d.p d.q d.a d.b d.c d.g x = 0 := by unfold bothT; rw [hb, hbb, if_neg (fun h => absurd h.1 (by decide))]
      rw [h0, Int.add_zero]; exact e6
    · dsimp only; walk_at "om"
  · rw [if_pos (by decide)]
    have hxb := hx.2.2.2 (by rw [hb]; exact hbb)
    have hxw := hx.2.2.1
    have ho1 : oneT d.bs d.p d.q d.a d.b d.c d.g x = turnsL twoW d.bs (powL d.p d.q d.a d.b d.c x) := by unfold oneT; rw [hb, hbb, if_pos rfl]
    -- powers[0] <= powers[1]
    refine Exists.elim (hvp.2 0 _ rfl) fun tp0 g0 => Exists.elim (hvp.2 1 _ rfl) fun tp1 g1 => Exists.elim (hvp.2 2 _ rfl) fun tp2 g2 => ?_
    refine wpAny_execs_cons ?_
    refine wpAny_If (wpAny_isTrue_Compare1 (Subscript_ (ldLoc F6 e2 (wpAny_Constant_int ?_))))
    refine itemSeq (k := 0) (.inl hDp6) (by decide) g0 ?_
    refine Subscript_ (ldLoc F6 e2 (wpAny_Constant_int ?_))
    refine itemSeq (k := 1) (.inl hDp6) (by decide) g1 ?_
    refine P.le_int (wpAny_truthy_bool ?_)
    rw [if_neg (by have := hxb.1; simp only [decide_eq_true_eq]; walk_at "om")]
    refine wpAny_execs_nil ?_
    -- one
    refine wpAny_execs_cons ?_
    refine wpAny_Assign_Name ?_ ?_
    rotate_left
    · exact swapCall
    refine Call_ (nmK F6.keep C.X (topRead_of C.T) (by k_is) (callWith_K C.X (by k_is) (args_cons (ldLoc F6 e5 (args_cons (Call_ ?_))))))
    refine nmK F6.keep C.X (topRead_of C.T) (by k_is) (callWith_K C.X (by k_is) (args_cons (ldLoc F6 N.two (args_cons (ldLoc F6 N.bases (args_cons (ldLoc F6 e2 (args_nil ⟨C.X.keeps F6.keep, ?_⟩))))))))
    refine (turns_spec twoW d.bs (powL d.p d.q d.a d.b d.c x) (WaysAt.of (vs := [.ref d.A2, .ref d.B2]) H6.two ⟨H6.twoA, H6.twoB, trivial⟩) H6.bases.isList hBv (.inl hDp6) hvp fit.bb (pow_le hxl fit.p fit.q) twoW_ok (show 3 ≤ 100 by decide)).int mean mg mb _ _ _ base _ _ _ (C.insideC F6 (by dsimp only; walk_at "om") hgs5) (show dp + 1 + 3 < recursionLimit by walk_at "om") (show un + 3 + 8 < cLine by walk_at "om") fun t7 s₇ G => ?_
    have hle7 := G.tk
    have hgs7 := G.gs
    have hos7 := G.os
    have k7 := G.keep
    dsimp only at hle7 hos7 k7
    clear G
    have F7 := Fr.more F6 k7
    refine args_nil ⟨C.X.keeps F7.keep, ?_⟩
    refine (addI _ _ _ _).int mean mg mb _ _ _ base _ _ _ (C.insideC F7 (by walk_at "om") hgs7) (show dp + 1 + 1 < recursionLimit by walk_at "om") (show un + 3 + 1 < cLine by walk_at "om") fun t8 s₈ G => ?_
    have hle8 := G.tk
    have hgs8 := G.gs
    have hos8 := G.os.trans (hos7.trans hos5)
    have k8 : ∀ b o, h₆.get? b = some o → s₈.heap.get? b = some o := fun b o e => G.keep b o (k7 b o e)
    clear G
    refine stLk (Fr.more F6 k8) (X6.keeps k8) fun h₉ F9 X9 k9 => ?_
    have L9 : ∀ b o, b ≠ s.heap.objs.size → s'.heap.get? b = some o → h₉.get? b = some o := fun b o hb e => (k9.2 b hb).trans (k8 b o (L6 b o hb e))
    -- marked
    refine wpAny_execs_cons ?_
    refine wpAny_Assign_Name ?_ ?_
    rotate_left
    · exact swapCall
    refine Call_ (nmK F9.keep C.X (topRead_of C.T) (by k_is) (callWith_K C.X (by k_is) (args_cons (Call_ ?_))))
    refine nmK F9.keep C.X (topRead_of C.T) (by k_is) (callWith_K C.X (by k_is) (args_cons (ldLoc F9 N.which (args_cons (ldLoc F9 e3 (args_nil ⟨C.X.keeps F9.keep, ?_⟩))))))
    refine (written _ _ _ tt (Nat.le_trans hx.2.1 (by decide))).str mean mg mb _ _ _ base _ _ _ (C.insideC F9 (by dsimp only; walk_at "om") hgs8) (show dp + 1 + 2 < recursionLimit by walk_at "om") (show un + 3 + 4 < cLine by walk_at "om") fun t10 s₁₀ G => ?_
    have hle10 := G.tk
    have hgs10 := G.gs
    have hos10 := G.os.trans hos8
    have k10 := G.keep
    dsimp only at hle10 hos10 k10
    clear G
    have F10 := Fr.more F9 k10
    refine args_nil ⟨C.X.keeps F10.keep, ?_⟩
    refine (chk_spec _ t10 (Nat.le_trans hxw (by decide))).val mean mg mb _ _ _ base _ _ _ (C.insideC F10 (by walk_at "om") hgs10) (show dp + 1 + 3 < recursionLimit by walk_at "om") (show un + 3 + 8 < cLine by walk_at "om") fun s₁₁ G => ?_
    have hle11 := G.tk
    have hgs11 := G.gs
    have hos11 := G.os.trans hos10
    have k11 : ∀ b o, h₉.get? b = some o → s₁₁.heap.get? b = some o := fun b o e => G.keep b o (k10 b o e)
    clear G
    refine stLk (Fr.more F9 k11) (X9.keeps k11) fun h₁₂ F12 X12 k12 => ?_
    have L12 : ∀ b o, b ≠ s.heap.objs.size → s'.heap.get? b = some o → h₁₂.get? b = some o := fun b o hb e => (k12.2 b hb).trans (k11 b o (L9 b o hb e))
    have K12 : KS s'.heap h₁₂ := KS.but F L12
    have H12 := H.keep K12
    have hDp12 := K12.list hDp
    refine wpAny_execs_cons ?_
    refine wpAny_If (wpAny_isTrue_Compare1 (ldLoc F12 rfl (wpAny_Constant_bool (wpAny_is_plain rfl (wpAny_truthy_bool ?_)))))
    have hm : markB (d.n / 4 % 3 : Nat) d.p d.q d.a d.b d.c d.g x = chk (wri (d.n / 4 % 3 : Nat) (textL d.p d.q d.a d.b d.c d.g x)) := rfl
    cases hmm : chk (wri (d.n / 4 % 3 : Nat) (textL d.p d.q d.a d.b d.c d.g x))
    · rw [if_neg (by decide)]
      refine wpAny_execs_cons ?_
      refine wpAny_If (wpAny_isTrue_Compare1 (ldLoc F12 (by rw [hmm]; rfl) (wpAny_Constant_bool (wpAny_isNot_plain rfl (wpAny_truthy_bool ?_)))))
      rw [if_neg (by decide)]
      refine wpAny_execs_nil (wpAny_execs_nil (wpAny_execs_nil (wpAny_execs_nil ?_)))
      refine hret { s₁₁ with heap := h₁₂, toks := s₁₁.toks + 1 } _ _ t8 tB F12 X12 L12 ⟨N.bases, N.p, N.q, N.letters, N.which, N.gap, N.two, N.six, N.start⟩ rfl ?_ ?_ ?_ hgs11 hos11
      · rw [ho1]; rfl
      · have h0 : bothT d.bs (d.n / 4 % 3 : Nat) d.p d.q d.a d.b d.c d.g x = 0 := by unfold bothT; rw [hm, hmm, if_neg (fun h => absurd h.2 (by decide))]
        rw [h0, Int.add_zero]; exact e6
      · dsimp only; walk_at "om"
    · rw [if_pos (by decide)]
      have hxm := hxb.2 (by rw [hm]; exact hmm)
      have hb1 : bothT d.bs (d.n / 4 % 3 : Nat) d.p d.q d.a d.b d.c d.g x = turnsL sixW d.bs (powL d.p d.q d.a d.b d.c x) := by unfold bothT; rw [hm, hb, hbb, hmm, if_pos ⟨rfl, rfl⟩]
      refine wpAny_execs_cons ?_
      refine wpAny_If (wpAny_isTrue_Compare1 (Subscript_ (ldLoc F12 e2 (wpAny_Constant_int ?_))))
      refine itemSeq (k := 1) (.inl hDp12) (by decide) g1 ?_
      refine Subscript_ (ldLoc F12 e2 (wpAny_Constant_int ?_))
      refine itemSeq (k := 2) (.inl hDp12) (by decide) g2 ?_
      refine P.le_int (wpAny_truthy_bool ?_)
      rw [if_neg (by simp only [decide_eq_true_eq]; walk_at "om")]
      refine wpAny_execs_nil ?_
      -- both
      refine wpAny_execs_cons ?_
      refine wpAny_Assign_Name ?_ ?_
      rotate_left
      · exact swapCall
      refine Call_ (nmK F12.keep C.X (topRead_of C.T) (by k_is) (callWith_K C.X (by k_is) (args_cons (ldLoc F12 e6 (args_cons (Call_ ?_))))))
      refine nmK F12.keep C.X (topRead_of C.T) (by k_is) (callWith_K C.X (by k_is) (args_cons (ldLoc F12 N.six (args_cons (ldLoc F12 N.bases (args_cons (ldLoc F12 e2 (args_nil ⟨C.X.keeps F12.keep, ?_⟩))))))))
      refine (turns_spec sixW d.bs (powL d.p d.q d.a d.b d.c x) H12.six H12.bases.isList hBv (.inl hDp12) hvp fit.bb (pow_le hxl fit.p fit.q) sixW_ok (show 3 ≤ 100 by decide)).int mean mg mb _ _ _ base _ _ _ (C.insideC F12 (by dsimp only; walk_at "om") hgs11) (show dp + 1 + 3 < recursionLimit by walk_at "om") (show un + 3 + 8 < cLine by walk_at "om") fun t13 s₁₃ G => ?_
      have hle13 := G.tk
      have hgs13 := G.gs
      have hos13 := G.os
      have k13 := G.keep
      dsimp only at hle13 hos13 k13
      clear G
      have F13 := Fr.more F12 k13
      refine args_nil ⟨C.X.keeps F13.keep, ?_⟩
      refine (addI _ _ _ _).int mean mg mb _ _ _ base _ _ _ (C.insideC F13 (by walk_at "om") hgs13) (show dp + 1 + 1 < recursionLimit by walk_at "om") (show un + 3 + 1 < cLine by walk_at "om") fun t14 s₁₄ G => ?_
      have hle14 := G.tk
      have hgs14 := G.gs
      have hos14 := G.os.trans (hos13.trans hos11)
      have k14 : ∀ b o, h₁₂.get? b = some o → s₁₄.heap.get? b = some o := fun b o e => G.keep b o (k13 b o e)
      clear G
      refine stLk (Fr.more F12 k14) (X12.keeps k14) fun h₁₅ F15 X15 k15 => ?_
      have L15 : ∀ b o, b ≠ s.heap.objs.size → s'.heap.get? b = some o → h₁₅.get? b = some o := fun b o hb e => (k15.2 b hb).trans (k14 b o (L12 b o hb e))
      refine wpAny_execs_nil (wpAny_execs_nil (wpAny_execs_nil ?_))
      refine hret { s₁₄ with heap := h₁₅, toks := s₁₄.toks + 1 } _ _ t8 t14 F15 X15 L15 ⟨N.bases, N.p, N.q, N.letters, N.which, N.gap, N.two, N.six, N.start⟩ rfl ?_ ?_ ?_ hgs14 hos14
      · rw [ho1]; rfl
      · rw [hb1]; rfl
      · dsimp only; walk_at "om"
end Mine
end

section
open PySem PySem.Calls PySem.W PyProof.Rows
namespace Mine
example (P : Params) : hd.heap_161 P = hd.heap_161 P ∧ PySem.Challenge.rw_wr0028_01 = PySem.Challenge.rw_wr0028_01 := by k_fill; exact ⟨rfl, rfl⟩
theorem swapIf {a b c : Expr} {pos : Pos} {t : Option Expr} {l : Nat} {env : Env} : swapsWith (.IfExp a b c pos) t l env = pure false := rfl
theorem turnB {w : World} {s s' : Shared} {mean : ExcName → Option Value} {mg mb : Str → Option Value} {dp un : Nat} {gd : Option (List Code)} {base : Heap} {outer : List Env} {Q' : Flow → Shared → Prop} {E' : Value → Shared → Prop}
    {oc : Value} {od : Option Addr} {name qual : Str} {params : Arguments} {body : List Stmt} {scope : Scope} {dV kV doc pm cdv ct : Value} {an : Option Addr} {osl : Array (Option Value)} {m cm : Str → Option Value}
    {d : Dat} {x : List Nat} {Dc Dp : Addr} {vc vp : Array Value} {W O B : Int} {tt tW tO tB : Tok}
    (ho : (hd.heap_161 w.params).lookup 122 = some ⟨oc, od, .func (fnOf name qual params body scope dV kV doc pm an cdv ct), osl⟩)
    (C : Cal w mean mg mb dp un gd base outer s) (hdp : dp + 8 < recursionLimit) (hu : un + 20 < cLine)
    (F : Fr s.heap s.heap.objs.size s'.heap m) (X : Cl s.heap.objs.size (csOf scope s.heap.objs.size) s'.heap cm)
    (N : Nm m d) (H : Hp s'.heap d) (fit : Fit d)
    (e1 : m "counts" = some (.ref Dc)) (hDc : s'.heap.IsList Dc vc) (hvc : IntsV vc ((cntL d.a d.b d.c x).map fun k : Nat => (k : Int)))
    (e2 : m "powers" = some (.ref Dp)) (hDp : s'.heap.IsList Dp vp) (hvp : IntsV vp ((powL d.p d.q d.a d.b d.c x).map fun k : Nat => (k : Int)))
    (hcw : cm "word" = some (.str (S x) tt)) (e4 : m "whole" = some (.int W tW)) (e5 : m "one" = some (.int O tO)) (e6 : m "both" = some (.int B tB))
    (htk : s.toks ≤ s'.toks) (hgs : AllBare s'.gens) (hos : s'.os = s.os) (hx : okT (d.n / 4 % 3 : Nat) d.p d.q d.a d.b d.c d.g x)
    (hret : ∀ s'' m'' t1 t2 t3, Fr s.heap s.heap.objs.size s''.heap m'' → Cl s.heap.objs.size (csOf scope s.heap.objs.size) s''.heap cm → (∀ b o, b ≠ s.heap.objs.size → s'.heap.get? b = some o → s''.heap.get? b = some o) →
      Nm m'' d → m'' "whole" = some (.int (W + wholeT d.bs d.a d.b d.c x) t1) → m'' "one" = some (.int (O + oneT d.bs d.p d.q d.a d.b d.c d.g x) t2) → m'' "both" = some (.int (B + bothT d.bs (d.n / 4 % 3 : Nat) d.p d.q d.a d.b d.c d.g x) t3) →
      s'.toks ≤ s''.toks → AllBare s''.gens → s''.os = s.os → Q' .next s'') :
    wpAny (model PP w) ((arT dp un gd outer).deeper (envOfC qual scope s.heap.objs.size 122 cdv)) (execs ((forB (body.drop 14)).drop 2) (envOfC qual scope s.heap.objs.size 122 cdv)) Q' E' s' := by
  have h2 := getBody (w := w) (by k_is)
  obtain ⟨j2, j4, j5, code_eq⟩ := sameDef ho h2
  subst j2 j4 j5 code_eq
  clear ho
  have htk1 := C.tk
  have hxl := hx.1
  have hp1 := fit.p
  have hq1 := fit.q
  have hg1 := fit.g
  have hca := List.count_le_length (a := d.a) (l := x)
  have hcb := List.count_le_length (a := d.b) (l := x)
  have hcc := List.count_le_length (a := d.c) (l := x)
  refine Exists.elim (hvc.2 0 _ rfl) fun tc0 g0 => Exists.elim (hvc.2 1 _ rfl) fun tc1 g1 => Exists.elim (hvc.2 2 _ rfl) fun tc2 g2 => ?_
  -- seen
  refine wpAny_execs_cons ?_
  refine wpAny_Assign_Name ?_ ?_
  rotate_left
  · exact swapCall
  refine Call_ (nmK F.keep C.X (topRead_of C.T) (by k_is) (callWith_K C.X (by k_is) (args_cons (nmC X hcw (args_cons (Subscript_ (ldLoc F N.letters (wpAny_Constant_int ?_)))) rfl))))
  refine itemStr (l := [d.a, d.b, d.c]) (k := 0) (show 3 ≤ 1000 by decide) rfl (fun t1 tk1 l1 => ?_) (by with_unfolding_all rfl) (by intro _; with_unfolding_all rfl)
  dsimp only at l1
  refine args_cons (Subscript_ (ldLoc F N.letters (wpAny_Constant_int ?_)))
  refine itemStr (l := [d.a, d.b, d.c]) (k := 1) (show 3 ≤ 1000 by decide) rfl (fun t2 tk2 l2 => ?_) (by with_unfolding_all rfl) (by intro _; with_unfolding_all rfl)
  dsimp only at l2
  refine args_cons (ldLoc F N.p (args_cons (wpAny_BinOp (wpAny_BinOp (ldLoc F N.p (Subscript_ (ldLoc F e1 (wpAny_Constant_int ?_))))))))
  refine itemSeq (k := 0) (.inl hDc) (by decide) g0 ?_
  refine add_int (Subscript_ (ldLoc F e1 (wpAny_Constant_int ?_)))
  refine itemSeq (k := 1) (.inl hDc) (by decide) g1 ?_
  refine sub_int (args_nil ⟨C.X.keeps F.keep, ?_⟩)
  dsimp only
  refine (row_spec x d.a d.b d.p _ _ _ _ _ _ (by walk_at "om") (by walk_at "om") (by walk_at "om")).str mean mg mb _ _ _ base _ _ _ (C.insideC F (by dsimp only; walk_at "om") hgs) (show dp + 1 + 1 < recursionLimit by walk_at "om") (show un + 3 + 1 < cLine by walk_at "om") fun t3 s₂ G => ?_
  have hle2 := G.tk
  have hgs2 := G.gs
  have hos2 := G.os
  have k2 := G.keep
  dsimp only at hle2 hos2 k2
  clear G
  have X2 := X.keeps k2
  refine stLk (Fr.more F k2) X2 fun h₃ F3 X3 k3 => ?_
  have L3 : ∀ b o, b ≠ s.heap.objs.size → s'.heap.get? b = some o → h₃.get? b = some o := fun b o hb e => (k3.2 b hb).trans (k2 b o e)
  have hDc3 := (KS.but F L3).list hDc
  -- hidden
  refine wpAny_execs_cons ?_
  refine wpAny_Assign_Name ?_ ?_
  rotate_left
  · exact swapCall
  refine Call_ (nmK F3.keep C.X (topRead_of C.T) (by k_is) (callWith_K C.X (by k_is) (args_cons (nmC X3 hcw (args_cons (Subscript_ (ldLoc F3 N.letters (wpAny_Constant_int ?_)))) rfl))))
  refine itemStr (l := [d.a, d.b, d.c]) (k := 1) (show 3 ≤ 1000 by decide) rfl (fun t4 tk4 l4 => ?_) (by with_unfolding_all rfl) (by intro _; with_unfolding_all rfl)
  dsimp only at l4
  refine args_cons (Subscript_ (ldLoc F3 N.letters (wpAny_Constant_int ?_)))
  refine itemStr (l := [d.a, d.b, d.c]) (k := 2) (show 3 ≤ 1000 by decide) rfl (fun t5 tk5 l5 => ?_) (by with_unfolding_all rfl) (by intro _; with_unfolding_all rfl)
  dsimp only at l5
  refine args_cons (ldLoc F3 N.q (args_cons (wpAny_BinOp (wpAny_BinOp (ldLoc F3 N.q (Subscript_ (ldLoc F3 e1 (wpAny_Constant_int ?_))))))))
  refine itemSeq (k := 1) (.inl hDc3) (by decide) g1 ?_
  refine add_int (Subscript_ (ldLoc F3 e1 (wpAny_Constant_int ?_)))
  refine itemSeq (k := 2) (.inl hDc3) (by decide) g2 ?_
  refine sub_int (args_nil ⟨C.X.keeps F3.keep, ?_⟩)
  dsimp only
  refine (row_spec x d.b d.c d.q _ _ _ _ _ _ (by walk_at "om") (by walk_at "om") (by walk_at "om")).str mean mg mb _ _ _ base _ _ _ (C.insideC F3 (by dsimp only; walk_at "om") hgs2) (show dp + 1 + 1 < recursionLimit by walk_at "om") (show un + 3 + 1 < cLine by walk_at "om") fun t6 s₆ G => ?_
  have hle6 := G.tk
  have hgs6 := G.gs
  have hos6 := G.os
  have k6 := G.keep
  dsimp only at hle6 hos6 k6
  clear G
  refine stLk (Fr.more F3 k6) (X3.keeps k6) fun h₇ F7 X7 k7 => ?_
  have L7 : ∀ b o, b ≠ s.heap.objs.size → s'.heap.get? b = some o → h₇.get? b = some o := fun b o hb e => (k7.2 b hb).trans (k6 b o (L3 b o hb e))
  have hl1 : (seenL d.p d.a d.b x).length ≤ 40 := seen_length hxl hp1
  have hl2 : (seenL d.q d.b d.c x).length ≤ 40 := seen_length hxl hq1
  have b1 : ([34] : List Nat).length + d.g.length ≤ 100000 := by rw [List.length_singleton]; walk_at "om"
  have b2 : ([34] ++ d.g).length + (seenL d.q d.b d.c x).length ≤ 100000 := by rw [List.length_append, List.length_singleton]; walk_at "om"
  have b3 : ([34] ++ d.g ++ seenL d.q d.b d.c x).length + ([34] : List Nat).length ≤ 100000 := by rw [List.length_append, List.length_append, List.length_singleton]; walk_at "om"
  have b4 : (quotedL d.q d.b d.c d.g x).length ≤ 50 := by unfold quotedL; rw [List.length_append, List.length_append, List.length_append, List.length_singleton]; walk_at "om"
  have b5 : (seenL d.p d.a d.b x).length + (quotedL d.q d.b d.c d.g x).length ≤ 100000 := by walk_at "om"
  have b6 : (quotedL d.q d.b d.c d.g x).length + (seenL d.p d.a d.b x).length ≤ 100000 := by walk_at "om"
  -- quoted
  refine wpAny_execs_cons ?_
  refine wpAny_Assign_Name ?_ ?_
  rotate_left
  · exact swapBin
  refine wpAny_BinOp (wpAny_BinOp (wpAny_BinOp (Calls.Constant_str (ldLoc F7 N.gap ?_))))
  refine addSS (l := [34]) b1 fun t8 tk8 l8 => ?_
  dsimp only at l8
  refine ldLoc F7 rfl ?_
  refine addSS (r := seenL d.q d.b d.c x) b2 fun t9 tk9 l9 => ?_
  dsimp only at l9
  refine Calls.Constant_str ?_
  refine addSS (r := [34]) b3 fun t10 tk10 l10 => ?_
  dsimp only at l10
  refine stLk F7 X7 fun h₁₁ F11 X11 k11 => ?_
  have L11 : ∀ b o, b ≠ s.heap.objs.size → s'.heap.get? b = some o → h₁₁.get? b = some o := fun b o hb e => (k11.2 b hb).trans (L7 b o hb e)
  -- text
  refine wpAny_execs_cons ?_
  refine wpAny_Assign_Name ?_ ?_
  rotate_left
  · exact swapIf
  refine wpAny_mono (Q := fun v s₁ => ∃ t tk, v = .str (S (textL d.p d.q d.a d.b d.c d.g x)) t ∧ tk10 ≤ tk ∧ s₁ = { s₆ with heap := h₁₁, toks := tk }) ?_ ?_ (fun _ _ e => e)
  · refine wpAny_IfExp (wpAny_isTrue_Compare1 (ldLoc F11 N.q (wpAny_Constant_int (eqN (b := 1) (wpAny_truthy_bool ?_)))))
    by_cases hq : d.q = 1
    · rw [if_pos (by simp [hq])]
      refine wpAny_BinOp (ldLoc F11 (v := .str (S (seenL d.p d.a d.b x)) t3) rfl (ldLoc F11 (v := .str (S (quotedL d.q d.b d.c d.g x)) t10) rfl ?_))
      refine addSS b5 fun t12 tk12 l12 => ?_
      dsimp only at l12
      exact ⟨t12, tk12, by unfold textL; rw [if_pos hq], by walk_at "om", rfl⟩
    · rw [if_neg (by simp [hq])]
      refine wpAny_BinOp (ldLoc F11 (v := .str (S (quotedL d.q d.b d.c d.g x)) t10) rfl (ldLoc F11 (v := .str (S (seenL d.p d.a d.b x)) t3) rfl ?_))
      refine addSS b6 fun t12 tk12 l12 => ?_
      dsimp only at l12
      exact ⟨t12, tk12, by unfold textL; rw [if_neg hq], by walk_at "om", rfl⟩
  rintro _ _ ⟨t12, tk12, rfl, l12, rfl⟩
  refine stLk F11 X11 fun h₁₃ F13 X13 k13 => ?_
  have L13 : ∀ b o, b ≠ s.heap.objs.size → s'.heap.get? b = some o → h₁₃.get? b = some o := fun b o hb e => (k13.2 b hb).trans (L11 b o hb e)
  have K13 := KS.but F L13
  refine turnC h2 C hdp hu F13 X13 ⟨N.bases, N.p, N.q, N.letters, N.which, N.gap, N.two, N.six, N.start⟩ (H.keep K13) fit e1 (K13.list hDc) hvc e2 (K13.list hDp) hvp rfl e4 e5 e6 (by dsimp only; walk_at "om") hgs6 (hos6.trans (hos2.trans hos)) hx fun s'' m'' t1 t2 t3 F' X' L' N' q1 q2 q3 q4 q5 q6 => ?_
  exact hret s'' m'' t1 t2 t3 F' X' (fun b o hb e => L' b o hb (L13 b o hb e)) N' q1 q2 q3 (by dsimp only at q4; walk_at "om") q5 q6
end Mine
end

section
open PySem PySem.Calls PySem.W PyProof.Rows
namespace Mine
example (P : Params) : hd.heap_161 P = hd.heap_161 P ∧ PySem.Challenge.rw_wr0028_01 = PySem.Challenge.rw_wr0028_01 := by k_fill; exact ⟨rfl, rfl⟩
theorem turnA {w : World} {s s' : Shared} {mean : ExcName → Option Value} {mg mb : Str → Option Value} {dp un : Nat} {gd : Option (List Code)} {base : Heap} {outer : List Env} {Q' : Flow → Shared → Prop} {E' : Value → Shared → Prop}
    {oc : Value} {od : Option Addr} {name qual : Str} {params : Arguments} {body : List Stmt} {scope : Scope} {dV kV doc pm cdv ct : Value} {an : Option Addr} {osl : Array (Option Value)} {m cm : Str → Option Value}
    {d : Dat} {x : List Nat} {W O B : Int} {tt tW tO tB : Tok}
    (ho : (hd.heap_161 w.params).lookup 122 = some ⟨oc, od, .func (fnOf name qual params body scope dV kV doc pm an cdv ct), osl⟩)
    (C : Cal w mean mg mb dp un gd base outer s) (hdp : dp + 8 < recursionLimit) (hu : un + 20 < cLine)
    (F : Fr s.heap s.heap.objs.size s'.heap m) (X : Cl s.heap.objs.size (csOf scope s.heap.objs.size) s'.heap cm)
    (N : Nm m d) (H : Hp s'.heap d) (fit : Fit d)
    (hcw : cm "word" = some (.str (S x) tt)) (e4 : m "whole" = some (.int W tW)) (e5 : m "one" = some (.int O tO)) (e6 : m "both" = some (.int B tB))
    (htk : s.toks ≤ s'.toks) (hgs : AllBare s'.gens) (hos : s'.os = s.os) (hx : okT (d.n / 4 % 3 : Nat) d.p d.q d.a d.b d.c d.g x)
    (hret : ∀ s'' m'' t1 t2 t3, Fr s.heap s.heap.objs.size s''.heap m'' → Cl s.heap.objs.size (csOf scope s.heap.objs.size) s''.heap cm → (∀ b o, b ≠ s.heap.objs.size → s'.heap.get? b = some o → s''.heap.get? b = some o) →
      Nm m'' d → m'' "whole" = some (.int (W + wholeT d.bs d.a d.b d.c x) t1) → m'' "one" = some (.int (O + oneT d.bs d.p d.q d.a d.b d.c d.g x) t2) → m'' "both" = some (.int (B + bothT d.bs (d.n / 4 % 3 : Nat) d.p d.q d.a d.b d.c d.g x) t3) →
      s'.toks ≤ s''.toks → AllBare s''.gens → s''.os = s.os → Q' .next s'') :
    wpAny (model PP w) ((arT dp un gd outer).deeper (envOfC qual scope s.heap.objs.size 122 cdv)) (execs ((forB (body.drop 14)).drop 0) (envOfC qual scope s.heap.objs.size 122 cdv)) Q' E' s' := by
  have h2 := getBody (w := w) (by k_is)
  obtain ⟨j2, j4, j5, code_eq⟩ := sameDef ho h2
  subst j2 j4 j5 code_eq
  clear ho
  have htk1 := C.tk
  have hxl := hx.1
  -- counts
  refine wpAny_execs_cons (assignComp (cl := [("word", s.heap.objs.size + 2)]) rfl rfl (by decide) rfl (by decide) rfl rfl rfl F.ns ?_)
  refine ldLoc F N.letters (pyIter_S3 fun o St hIT st0 => ?_)
  refine ⟨_, _, _, _, _, _, _, fun i ys => IntsAre ys (((cntL d.a d.b d.c x).take i).map fun k : Nat => (k : Int)), rfl,
    compStr (k := 1) hIT.wk rfl rfl st0 (by dsimp only; walk_at "om") hgs (show 3 ≤ 1000 by decide) .nil (hIT.self _) (fun _ => rfl) (fun _ => rfl) ?_, ?_, ?_, ?_, ?_, ?_, ?_⟩
  · rintro Cc i ys s₄ m₄ E' y u hC hi hy hm hu1 hu2 hn hR hys
    refine wpAny_tests_nil ⟨Grew.rfl' hR.gs, ?_⟩
    rw [if_pos rfl]
    have hI := Fr.fresh F
    have F4 := Fr.step (F.push o) (by simpa using hI.1) (by simpa using hI.2) hR.keep
    have X4 := Cl.stepNew X (X.keeps fun b o' e => Heap.get?_push_of_some o e) (by simp) hR.keep
    have hle4 := hR.tk
    try dsimp only at hle4
    refine Call_ (nmK F4.keep C.X (topRead_of C.T) (by k_is) ?_)
    refine callWith_K C.X (by k_is) (args_cons (nmC X4 hcw (args_cons (nmL hn hm (args_nil ⟨C.X.keeps F4.keep, ?_⟩))) rfl))
    refine countOf x y _ u (Nat.ne_of_gt hu1) hu2 mean mg mb _ _ _ base _ _ _ (C.insideC F4 (by walk_at "om") hR.gs) (show dp + 1 + 1 < recursionLimit by walk_at "om") (show un + 3 + 1 < cLine by walk_at "om") fun v s₅ G5 hv => ?_
    obtain ⟨t5, rfl⟩ := hv
    refine ⟨G5, ?_⟩
    have ec : (cntL d.a d.b d.c x)[i]? = some (x.count y) := by
      rcases i with _ | _ | _ | i
      · cases Option.some.inj hy; rfl
      · cases Option.some.inj hy; rfl
      · cases Option.some.inj hy; rfl
      · exact absurd hi (by simp)
    rw [List.take_add_one, ec, List.map_append]
    exact IntsAre.append hys (.cons _ _ .nil)
  · exact fun b hb => by simp at hb; subst hb; exact Nat.le_refl _
  · exact fun b o' e => Heap.get?_push_of_some o e
  · exact Nat.le_refl _
  · rfl
  · rw [Heap.size_push]; exact Nat.le_succ _
  rintro Dc s₂ ysc hDc hn2 hP2 hyc hk2 hle2 hgs2 hos2
  have hyc' : IntsAre ysc ((cntL d.a d.b d.c x).map fun k : Nat => (k : Int)) := hyc
  clear hyc
  have F2 : Fr s.heap s.heap.objs.size s₂.heap _ := ⟨hn2, fun b o' e => hk2 b o' (Nat.ne_of_lt (Heap.lt_size e)) (F.keep b o' e), Nat.le_refl _⟩
  have X2 := Cl.keepL X hk2
  have K2 := KS.but F hk2
  have H2 := H.keep K2
  have hvc := IntsAre.toV hyc'
  have hTlt : d.Ts < s₂.heap.objs.size := tupLt H2.start
  have hDlt : Dc < s₂.heap.objs.size := plainLt hP2
  have hsv := IntsAre.toV fit.hSi
  have hn3 : min d.vs.toArray.size ysc.toArray.size = 3 := by rw [hsv.1, hvc.1, List.length_map, List.length_map]; rfl
  -- powers
  refine wpAny_execs_cons (assignComp (cl := []) rfl rfl (by decide) rfl (by decide) rfl rfl rfl F2.ns ?_)
  refine Call_ (nmB F2.keep C.X (topRead_of C.T) (by k_is) PyProof.Rows.boot_zip (by decide) ?_)
  refine PyProof.Rows.callWith_type1 (args_cons (ldLoc F2 N.start (args_cons (ldLoc F2 rfl (args_nil ?_)))))
  refine zipCall (Src.tuple H2.start) (Src.list hP2.isList) fun h₃ St Mid hWk st0 hsz hk3 hlv => ?_
  refine (hWk _ rfl).self 0 _ _ _ st0 ?_
  try dsimp only at hsz hk3
  refine ⟨_, _, _, _, 0, _, _, fun i ys => IntsAre ys (((powL d.p d.q d.a d.b d.c x).take i).map fun k : Nat => (k : Int)), rfl, ⟨fun Cc => Drv.pair rfl (hWk _ rfl) rfl rfl rfl (by decide), fun s' Q' E' st h => (hWk _ rfl).self 0 _ _ _ st h, st0, ?_, ?_, Nat.zero_le _, hgs2, by walk_at "om", .nil, ?_⟩, ?_, ?_, ?_, ?_, ?_, ?_⟩
  · intro b hb
    show @LT.lt Nat _ b h₃.objs.size
    rw [hsz]
    exact zfLt hTlt hDlt b hb
  · exact zwSub
  · rintro Cc i ys s₄ m₄ E' hC hi ⟨v1, v2, hv1, hv2, m1, m2⟩ hn hR hys
    have hi3 : i < 3 := by walk_at "om"
    obtain ⟨t1, q1⟩ := hsv.2 i ((stL d.p d.q).getD i 0 : Nat) (by
      rcases i with _ | _ | _ | i
      · rfl
      · rfl
      · rfl
      · walk_at "om")
    obtain ⟨t2, q2⟩ := hvc.2 i ((cntL d.a d.b d.c x).getD i 0 : Nat) (by
      rcases i with _ | _ | _ | i
      · rfl
      · rfl
      · rfl
      · walk_at "om")
    rw [q1] at hv1; cases hv1
    rw [q2] at hv2; cases hv2
    refine wpAny_tests_nil ⟨Grew.rfl' hR.gs, ?_⟩
    rw [if_pos rfl]
    have k4 : ∀ b o, s₂.heap.get? b = some o → s₄.heap.get? b = some o := fun b o e => hR.keep b o (zwNot (Heap.lt_size e)) (hk3 b o e)
    have F4 := Fr.more F2 k4
    have hle4 := hR.tk
    try dsimp only at hle4
    refine Call_ (nmK F4.keep C.X (topRead_of C.T) (by k_is) ?_)
    refine callWith_K C.X (by k_is) (args_cons (nmL hn m1 (args_cons (nmL hn m2 (args_nil ⟨C.X.keeps F4.keep, ?_⟩)))))
    refine addI _ _ _ _ mean mg mb _ _ _ base _ _ _ (C.insideC F4 (by walk_at "om") hR.gs) (show dp + 1 + 1 < recursionLimit by walk_at "om") (show un + 3 + 1 < cLine by walk_at "om") fun v s₅ G5 hv => ?_
    obtain ⟨t5, rfl⟩ := hv
    refine ⟨G5, ?_⟩
    have ec : (powL d.p d.q d.a d.b d.c x)[i]? = some ((stL d.p d.q).getD i 0 + (cntL d.a d.b d.c x).getD i 0) := by
      rcases i with _ | _ | _ | i
      · rfl
      · rfl
      · show some _ = some _
        congr 1
        exact (Nat.zero_add _).symm
      · walk_at "om"
    rw [List.take_add_one, ec, List.map_append]
    exact IntsAre.append hys (.cons _ _ .nil)
  · exact zwLe
  · exact fun b o e => hk3 b o e
  · exact Nat.le_refl _
  · rfl
  · show @LE.le Nat _ s₂.heap.objs.size h₃.objs.size
    walk_at "om"
  rintro Dp s₅ ysp hDp hn5 hP5 hyp hk5 hle5 hgs5 hos5
  have hyp' : IntsAre ysp ((powL d.p d.q d.a d.b d.c x).map fun k : Nat => (k : Int)) := by
    have h3 : (powL d.p d.q d.a d.b d.c x).take 3 = powL d.p d.q d.a d.b d.c x := rfl
    rw [hn3, h3] at hyp; exact hyp
  have F5 : Fr s.heap s.heap.objs.size s₅.heap _ := ⟨hn5, fun b o' e => hk5 b o' (Nat.ne_of_lt (Heap.lt_size e)) (F2.keep b o' e), Nat.le_refl _⟩
  have X5 := Cl.keepL X2 hk5
  have K5 := KS.but F2 hk5
  refine turnB h2 C hdp hu F5 X5 ⟨N.bases, N.p, N.q, N.letters, N.which, N.gap, N.two, N.six, N.start⟩ (H2.keep K5) fit rfl (K5.list hP2.isList) hvc rfl hP5.isList (IntsAre.toV hyp') hcw e4 e5 e6 (by walk_at "om") hgs5 (hos5.trans (hos2.trans hos)) hx fun s'' m'' t1 t2 t3 F' X' L' N' q1 q2 q3 q4 q5 q6 => ?_
  exact hret s'' m'' t1 t2 t3 F' X' (fun b o hb e => L' b o hb (hk5 b o hb (hk2 b o hb e))) N' q1 q2 q3 (by walk_at "om") q5 q6
end Mine
end

section
open PySem PySem.Calls PySem.W PyProof.Rows
namespace Mine
example (P : Params) : hd.heap_161 P = hd.heap_161 P ∧ PySem.Challenge.rw_wr0028_01 = PySem.Challenge.rw_wr0028_01 := by k_fill; exact ⟨rfl, rfl⟩
open PySem.Builtin.Int (intBits)
theorem iterNe {h₀ h : Heap} {L c I l : Addr} {x : Str} {m cm : Str → Option Value} {cs : List (Str × Addr)} {i : Nat} (F : Fr h₀ L h m) (X : Cl L cs h cm) (hc : cs.lookup x = some c) (hI : h.IsListIter I l i) : I ≠ L ∧ I ≠ c := by
  obtain ⟨o, e1, e2, e3⟩ := hI
  constructor
  · rintro rfl
    obtain ⟨o', es, ep, h1, h2, _⟩ := F.ns
    rw [e1] at h1; cases h1; rw [e3] at h2; cases h2
  · rintro rfl
    obtain ⟨o', h1, h2⟩ := X.cell x _ hc
    rw [e1] at h1; cases h1; rw [e3] at h2; cases h2
theorem strAt {ps : List (Str × Tok)} {ws : List (List Nat)} (hps : ps.map (·.1) = ws.map S) {i : Nat} {v : Value} (hv : (strValues ps).toArray[i]? = some v) : ∃ x t, ws[i]? = some x ∧ v = .str (S x) t := by
  have e1 : (ps.map (·.1))[i]? = (ws.map S)[i]? := by rw [hps]
  simp only [strValues, List.getElem?_toArray, List.getElem?_map] at hv e1
  cases hp : ps[i]? with
  | none => rw [hp] at hv; cases hv
  | some p =>
    rw [hp] at hv e1
    cases hw : ws[i]? with
    | none => rw [hw] at e1; cases e1
    | some x => rw [hw] at e1; cases hv; exact ⟨x, p.2, rfl, by show Value.str p.1 p.2 = _; rw [show p.1 = S x from Option.some.inj e1]⟩
noncomputable abbrev wholeS (d : Dat) (ws : List (List Nat)) : Int := (ws.map fun x => wholeT d.bs d.a d.b d.c x).sum
noncomputable abbrev oneS (d : Dat) (ws : List (List Nat)) : Int := (ws.map fun x => oneT d.bs d.p d.q d.a d.b d.c d.g x).sum
noncomputable abbrev bothS (d : Dat) (ws : List (List Nat)) : Int := (ws.map fun x => bothT d.bs (d.n / 4 % 3 : Nat) d.p d.q d.a d.b d.c d.g x).sum
theorem sum_take {f : List Nat → Int} {ws : List (List Nat)} {i : Nat} {x : List Nat} (h : ws[i]? = some x) : ((ws.take (i + 1)).map f).sum = ((ws.take i).map f).sum + f x := by
  rw [List.take_add_one, h]; simp
theorem wholeS_bits (d : Dat) (fit : Fit d) (ws : List (List Nat)) (hw : ∀ x ∈ ws, x.length ≤ 10) (hl : ws.length ≤ 10) : intBits (wholeS d ws) ≤ 1000 := by
  have h1 := sum_bits (m := 602) (ws.map fun x => wholeT d.bs d.a d.b d.c x) (by
    intro z hz
    obtain ⟨x, hx, rfl⟩ := List.mem_map.mp hz
    have := turns_bits (ws := oneW) (bs := d.bs) (ps := cntL d.a d.b d.c x) (fun y hy => (oneW_ok y hy).1) fit.bb (cnt_le (hw x hx))
    exact this)
  rw [List.length_map] at h1
  show intBits (ws.map fun x => wholeT d.bs d.a d.b d.c x).sum ≤ 1000
  walk_at "om"
theorem law4 {w : World} {s s' : Shared} {mean : ExcName → Option Value} {mg mb : Str → Option Value} {dp un : Nat} {gd : Option (List Code)} {base : Heap} {outer : List Env} {Q' : Flow → Shared → Prop} {E' : Value → Shared → Prop}
    {oc : Value} {od : Option Addr} {name qual : Str} {params : Arguments} {body : List Stmt} {scope : Scope} {dV kV doc pm cdv ct : Value} {an : Option Addr} {osl : Array (Option Value)} {m cm : Str → Option Value}
    {d : Dat} {ws : List (List Nat)} {ps : List (Str × Tok)} {Dw : Addr} {tW tO tB : Tok}
    (ho : (hd.heap_161 w.params).lookup 122 = some ⟨oc, od, .func (fnOf name qual params body scope dV kV doc pm an cdv ct), osl⟩)
    (C : Cal w mean mg mb dp un gd base outer s) (hdp : dp + 8 < recursionLimit) (hu : un + 20 < cLine)
    (F : Fr s.heap s.heap.objs.size s'.heap m) (X : Cl s.heap.objs.size (csOf scope s.heap.objs.size) s'.heap cm)
    (N : Nm m d) (H : Hp s'.heap d) (fit : Fit d)
    (e1 : m "words" = some (.ref Dw)) (hW : s'.heap.PlainList Dw (strValues ps).toArray) (hps : ps.map (·.1) = ws.map S)
    (e4 : m "whole" = some (.int 0 tW)) (e5 : m "one" = some (.int 0 tO)) (e6 : m "both" = some (.int 0 tB))
    (htk : s.toks ≤ s'.toks) (hgs : AllBare s'.gens) (hos : s'.os = s.os) (hx : ∀ x ∈ ws, okT (d.n / 4 % 3 : Nat) d.p d.q d.a d.b d.c d.g x) (hwl : ws.length ≤ 10)
    (hone : turnsL twoW d.bs (stL d.p d.q) * wholeS d ws = oneS d ws) (hboth : turnsL sixW d.bs (stL d.p d.q) * wholeS d ws = bothS d ws)
    (hret : ∀ s'', Grew s s'' → Q' (.ret (.bool true)) s'') :
    wpAny (model PP w) ((arT dp un gd outer).deeper (envOfC qual scope s.heap.objs.size 122 cdv)) (execs (body.drop 14) (envOfC qual scope s.heap.objs.size 122 cdv)) Q' E' s' := by
  have h2 := getBody (w := w) (by k_is)
  obtain ⟨j2, j4, j5, code_eq⟩ := sameDef ho h2
  subst j2 j4 j5 code_eq
  clear ho
  have htk1 := C.tk
  have hBv : IntsV d.vb.toArray d.bs := IntsAre.toV fit.hBi
  have hsv := IntsAre.toV fit.hSi
  have hpl : (strValues ps).toArray.size = ws.length := by have := congrArg List.length hps; simp [strValues] at this ⊢; exact this
  -- for word in words
  refine wpAny_execs_cons ?_
  refine wpAny_For (ldLoc F e1 ?_)
  refine wpAny_pyIter_list hW.isList ?_
  have hDlt : Dw < s'.heap.objs.size := plainLt hW
  have hI := Fr.fresh F
  refine forN (Wk.of (k := 0) (Walks.list rfl s'.heap.objs.size Dw (Nat.ne_of_lt hDlt) (strValues ps).toArray))
    (fun i s'' => ∃ m cm t1 t2 t3, Fr s.heap s.heap.objs.size s''.heap m ∧ Cl s.heap.objs.size _ s''.heap cm ∧ Nm m d ∧ KS s'.heap s''.heap ∧ m "whole" = some (.int (wholeS d (ws.take i)) t1) ∧ m "one" = some (.int (oneS d (ws.take i)) t2) ∧ m "both" = some (.int (bothS d (ws.take i)) t3) ∧
      s.toks ≤ s''.toks ∧ AllBare s''.gens ∧ s''.os = s.os)
    ⟨m, cm, tW, tO, tB, Fr.more F (fun b o e => Heap.get?_push_of_some _ e), X.keeps (fun b o e => Heap.get?_push_of_some _ e), N, KS.of (fun b o e => Heap.get?_push_of_some _ e), e4, e5, e6, htk, hgs, hos⟩
    ⟨⟨_, Heap.get?_push_size _ rfl, rfl, rfl⟩, hW.isList.push _⟩ ?_ ?_ ?_ ?_
  · exact fun i s'' _ => Nat.zero_le _
  · rintro i s'' h' tk hINV hk hle
    refine ex5 hINV fun m cm t1 t2 t3 hINVa => ?_
    clear hINV
    refine and10 hINVa fun F' X' N' H' q1 q2 q3 q4 q5 q6 => ?_
    clear hINVa
    have hw : ∀ b ∈ [s'.heap.objs.size], s'.heap.objs.size ≤ b := by simp
    exact ⟨m, cm, t1, t2, t3, Fr.stepNew F F' hw hk, Cl.stepNew X X' hw hk, N', fun b o it n e dd => hk b o (by have := Heap.lt_size e; simp only [List.mem_singleton]; exact Nat.ne_of_lt this) (H' b o it n e dd), q1, q2, q3, Nat.le_trans q4 hle, q5, q6⟩
  · rintro i v s'' E1 hi hv hINV hst
    refine ex5 hINV fun m cm t1 t2 t3 hINVa => ?_
    clear hINV
    refine and10 hINVa fun F' X' N' K' q1 q2 q3 q4 q5 q6 => ?_
    clear hINVa
    obtain ⟨x, tx, hwx, rfl⟩ := strAt hps hv
    have hxm : x ∈ ws := List.mem_of_getElem? hwx
    refine stCk F' X' rfl fun h5 F5 X5 k5 => ?_
    have K5 : KS s''.heap h5 := KS.cell (x := "word") X' rfl k5
    have hit := iterNe (x := "word") F' X' rfl hst.1
    refine turnA h2 C hdp hu F5 X5 N' (H.keep (K'.trans K5)) fit (x := x) (tt := tx) rfl q1 q2 q3 q4 q5 q6 (hx x hxm) fun s₃ m'' u1 u2 u3 F₃ X₃ L₃ N₃ r1 r2 r3 r4 r5 r6 => ?_
    have hit5 : h5.IsListIter s'.heap.objs.size Dw (i + 1) := let ⟨o, e, r⟩ := hst.1; ⟨o, (k5.2 _ hit.2).trans e, r⟩
    have K3 : KS h5 s₃.heap := KS.but F5 L₃
    refine ⟨⟨m'', _, u1, u2, u3, F₃, X₃, N₃, K'.trans (K5.trans K3), ?_, ?_, ?_, Nat.le_trans q4 r4, r5, r6⟩, ?_, K3.list (K5.list hst.2)⟩
    · rw [r1, wholeS, wholeS, sum_take hwx]
    · rw [r2, oneS, oneS, sum_take hwx]
    · rw [r3, bothS, bothS, sum_take hwx]
    · obtain ⟨o, e, r⟩ := hit5; exact ⟨o, L₃ _ o hit.1 e, r⟩
  · rintro s'' E1 hINV
    refine ex5 hINV fun m cm t1 t2 t3 hINVa => ?_
    clear hINV
    refine and10 hINVa fun F' X' N' K' q1 q2 q3 q4 q5 q6 => ?_
    clear hINVa
    rw [hpl, List.take_length] at q1 q2 q3
    have H' := H.keep K'
    have b1 := wholeS_bits d fit ws (fun x hxm => (hx x hxm).1) hwl
    have b2 : intBits (turnsL twoW d.bs (stL d.p d.q)) ≤ 1000 := Nat.le_trans (turns_bits (fun y hy => (twoW_ok y hy).1) fit.bb (st_le fit.p fit.q)) (show 1 + 200 * 3 + 2 ≤ 1000 by decide)
    have b3 : intBits (turnsL sixW d.bs (stL d.p d.q)) ≤ 1000 := Nat.le_trans (turns_bits (fun y hy => (sixW_ok y hy).1) fit.bb (st_le fit.p fit.q)) (show 1 + 200 * 3 + 6 ≤ 1000 by decide)
    refine wpAny_execs_nil ?_
    -- the rule for one fence
    refine wpAny_execs_cons ?_
    refine wpAny_If (wpAny_isTrue_Compare1 (Call_ (nmK F'.keep C.X (topRead_of C.T) (by k_is) (callWith_K C.X (by k_is) (args_cons (Call_ ?_))))))
    refine nmK F'.keep C.X (topRead_of C.T) (by k_is) (callWith_K C.X (by k_is) (args_cons (ldLoc F' N'.two (args_cons (ldLoc F' N'.bases (args_cons (ldLoc F' N'.start (args_nil ⟨C.X.keeps F'.keep, ?_⟩))))))))
    refine (turns_spec twoW d.bs (stL d.p d.q) (WaysAt.of (vs := [.ref d.A2, .ref d.B2]) H'.two ⟨H'.twoA, H'.twoB, trivial⟩) H'.bases.isList hBv (.inr H'.start) hsv fit.bb (st_le fit.p fit.q) twoW_ok (show 3 ≤ 100 by decide)).int mean mg mb _ _ _ base _ _ _ (C.insideC F' (by walk_at "om") q5) (show dp + 1 + 3 < recursionLimit by walk_at "om") (show un + 3 + 8 < cLine by walk_at "om") fun u2 s₂ G => ?_
    have hle2 := G.tk
    have hgs2 := G.gs
    have hos2 := G.os.trans q6
    have k2 := G.keep
    clear G
    have F2 := Fr.more F' k2
    refine args_cons (ldLoc F2 q1 (args_nil ⟨C.X.keeps F2.keep, ?_⟩))
    refine (mulI _ _ _ _ (PySem.IntMulOk.of_le b2 b1 (by decide))).int mean mg mb _ _ _ base _ _ _ (C.insideC F2 (by walk_at "om") hgs2) (show dp + 1 + 1 < recursionLimit by walk_at "om") (show un + 3 + 1 < cLine by walk_at "om") fun u3 s₃ G => ?_
    have hle3 := G.tk
    have hgs3 := G.gs
    have hos3 := G.os.trans hos2
    have k3 : ∀ b o, s''.heap.get? b = some o → s₃.heap.get? b = some o := fun b o e => G.keep b o (k2 b o e)
    clear G
    have F3 := Fr.more F' k3
    have H3 := H'.keep (KS.of k3)
    refine ldLoc F3 q2 (ne_int (wpAny_truthy_bool ?_))
    rw [if_neg (by rw [hone]; simp)]
    refine wpAny_execs_nil ?_
    -- the rule for both
    refine wpAny_execs_cons (wpAny_Return_some (wpAny_Compare1 (Call_ (nmK F3.keep C.X (topRead_of C.T) (by k_is) (callWith_K C.X (by k_is) (args_cons (Call_ ?_)))))))
    refine nmK F3.keep C.X (topRead_of C.T) (by k_is) (callWith_K C.X (by k_is) (args_cons (ldLoc F3 N'.six (args_cons (ldLoc F3 N'.bases (args_cons (ldLoc F3 N'.start (args_nil ⟨C.X.keeps F3.keep, ?_⟩))))))))
    refine (turns_spec sixW d.bs (stL d.p d.q) H3.six H3.bases.isList hBv (.inr H3.start) hsv fit.bb (st_le fit.p fit.q) sixW_ok (show 3 ≤ 100 by decide)).int mean mg mb _ _ _ base _ _ _ (C.insideC F3 (by walk_at "om") hgs3) (show dp + 1 + 3 < recursionLimit by walk_at "om") (show un + 3 + 8 < cLine by walk_at "om") fun u4 s₄ G => ?_
    have hle4 := G.tk
    have hgs4 := G.gs
    have hos4 := G.os.trans hos3
    have k4 := G.keep
    clear G
    have F4 := Fr.more F3 k4
    refine args_cons (ldLoc F4 q1 (args_nil ⟨C.X.keeps F4.keep, ?_⟩))
    refine (mulI _ _ _ _ (PySem.IntMulOk.of_le b3 b1 (by decide))).int mean mg mb _ _ _ base _ _ _ (C.insideC F4 (by walk_at "om") hgs4) (show dp + 1 + 1 < recursionLimit by walk_at "om") (show un + 3 + 1 < cLine by walk_at "om") fun u5 s₅ G => ?_
    have hle5 := G.tk
    have hgs5 := G.gs
    have hos5 := G.os.trans hos4
    have k5 := G.keep
    clear G
    have F5 := Fr.more F4 k5
    refine ldLoc F5 q3 (eq_int ?_)
    rw [hboth, beq_self_eq_true]
    exact hret _ ⟨F5.keep, by walk_at "om", hgs5, hos5⟩
end Mine
end

section
open PySem PySem.Calls PySem.W PyProof.Rows
namespace Mine
example (P : Params) : hd.heap_161 P = hd.heap_161 P ∧ PySem.Challenge.rw_wr0028_01 = PySem.Challenge.rw_wr0028_01 := by k_fill; exact ⟨rfl, rfl⟩
theorem assign3 {w : World} {A : Around} {E : Value → Shared → Prop} {s : Shared} {env : Env} {x y z : Str} {p1 p2 p3 pos : Pos} {k : Nat} {t : Addr} {v1 v2 v3 : Value} {Q : Unit → Shared → Prop} (hh : A.handled = none) (ht : s.heap.IsTuple t #[v1, v2, v3])
    (h : ∀ h', Heap.ExtBut s.heap.objs.size s.heap h' → wpAny (model PP w) A (storeName env x v1) (fun _ s₁ => wpAny (model PP w) A (storeName env y v2) (fun _ s₂ => wpAny (model PP w) A (storeName env z v3) Q E s₂) E s₁) E { s with heap := h' }) :
    wpAny (model PP w) A (assign (.Tuple [.Name x p1, .Name y p2, .Name z p3] k pos) env (.ref t)) Q E s := by
  refine assign_Tuple_tuple hh ht rfl rfl fun h' he => ?_
  show wpAny (model PP w) A (assignInOrder [assign (.Name x p1) env, assign (.Name y p2) env, assign (.Name z p3) env] [v1, v2, v3]) Q E _
  refine assignInOrder_cons (PyProof.Rows.assign_Name (wpAny_mono (h h' he) (fun _ s₁ h₁ => ?_) fun _ _ e => e))
  refine assignInOrder_cons (PyProof.Rows.assign_Name (wpAny_mono h₁ (fun _ s₂ h₂ => ?_) fun _ _ e => e))
  exact assignInOrder_cons (PyProof.Rows.assign_Name (wpAny_mono h₂ (fun _ s₃ h₃ => assignInOrder_nil h₃) fun _ _ e => e))
theorem law3 {w : World} {s s' : Shared} {mean : ExcName → Option Value} {mg mb : Str → Option Value} {dp un : Nat} {gd : Option (List Code)} {base : Heap} {outer : List Env} {Q' : Flow → Shared → Prop} {E' : Value → Shared → Prop}
    {oc : Value} {od : Option Addr} {name qual : Str} {params : Arguments} {body : List Stmt} {scope : Scope} {dV kV doc pm cdv ct : Value} {an : Option Addr} {osl : Array (Option Value)} {m cm : Str → Option Value}
    {ws : List (List Nat)} {ps : List (Str × Tok)} {Dw Db : Addr} {vb : List Value} {x0 x1 x2 p q n : Nat} {tp tq tl tw tg : Tok} {a b c : Nat} {g : List Nat}
    (ho : (hd.heap_161 w.params).lookup 122 = some ⟨oc, od, .func (fnOf name qual params body scope dV kV doc pm an cdv ct), osl⟩)
    (C : Cal w mean mg mb dp un gd base outer s) (hdp : dp + 8 < recursionLimit) (hu : un + 20 < cLine)
    (F : Fr s.heap s.heap.objs.size s'.heap m) (X : Cl s.heap.objs.size (csOf scope s.heap.objs.size) s'.heap cm)
    (n1 : m "bases" = some (.ref Db)) (n2 : m "p" = some (.int (p : Nat) tp)) (n3 : m "q" = some (.int (q : Nat) tq)) (n5 : m "letters" = some (.str (S [a, b, c]) tl)) (n6 : m "which" = some (.int (n / 4 % 3 : Nat) tw)) (n7 : m "gap" = some (.str (S g) tg))
    (hB : s'.heap.PlainList Db vb.toArray) (hBi : IntsAre vb [(x0 : Int), (x1 : Int), (x2 : Int)]) (hx0 : x0 < 4096) (hx1 : x1 < 4096) (hx2 : x2 < 4096) (hp : p ≤ 1) (hq : q ≤ 1) (hgap : g.length ≤ 2)
    (e1 : m "words" = some (.ref Dw)) (hW : s'.heap.PlainList Dw (strValues ps).toArray) (hps : ps.map (·.1) = ws.map S)
    (htk : s.toks ≤ s'.toks) (hgs : AllBare s'.gens) (hos : s'.os = s.os) (hx : ∀ x ∈ ws, okT (n / 4 % 3 : Nat) p q a b c g x) (hwl : ws.length ≤ 10)
    (hone : turnsL twoW [(x0 : Int), (x1 : Int), (x2 : Int)] (stL p q) * (ws.map fun x => wholeT [(x0 : Int), (x1 : Int), (x2 : Int)] a b c x).sum = (ws.map fun x => oneT [(x0 : Int), (x1 : Int), (x2 : Int)] p q a b c g x).sum)
    (hboth : turnsL sixW [(x0 : Int), (x1 : Int), (x2 : Int)] (stL p q) * (ws.map fun x => wholeT [(x0 : Int), (x1 : Int), (x2 : Int)] a b c x).sum = (ws.map fun x => bothT [(x0 : Int), (x1 : Int), (x2 : Int)] (n / 4 % 3 : Nat) p q a b c g x).sum)
    (hret : ∀ s'', Grew s s'' → Q' (.ret (.bool true)) s'') :
    wpAny (model PP w) ((arT dp un gd outer).deeper (envOfC qual scope s.heap.objs.size 122 cdv)) (execs (body.drop 10) (envOfC qual scope s.heap.objs.size 122 cdv)) Q' E' s' := by
  have h2 := getBody (w := w) (by k_is)
  obtain ⟨j2, j4, j5, code_eq⟩ := sameDef ho h2
  subst j2 j4 j5 code_eq
  clear ho
  -- two
  refine wpAny_execs_cons ?_
  refine wpAny_Assign_Name ?_ ?_
  rotate_left
  · exact swapTup
  refine Tuple_ (args_cons ?_)
  refine evalPos fun ha Ta ka wa ka' la => ?_
  refine args_cons ?_
  refine evalNeg fun hb Tb kb wb kb' lb => ?_
  refine args_nil (newTup (by simp) fun hc Tc hTc kc _ => ?_)
  dsimp only at ka' la kb' lb kc
  have kC : ∀ b o, s'.heap.get? b = some o → hc.get? b = some o := fun b o e => kc b o (kb' b o (ka' b o e))
  refine stLk (Fr.more F (h' := hc) kC) (X.keeps kC) fun h₁ F1 X1 k1 => ?_
  have FC := Fr.more F (h' := hc) kC
  have K1 : KS hc h₁ := KS.but FC fun b o hb e => (k1.2 b hb).trans e
  have wA := K1.way ((wa.keeps kb').keeps kc)
  have wB := K1.way (wb.keeps kc)
  have hT2 := K1.tuple hTc
  have K01 : KS s'.heap h₁ := (KS.of kC).trans K1
  -- six
  refine wpAny_execs_cons ?_
  refine wpAny_Assign_Name ?_ ?_
  rotate_left
  · exact swapBin
  refine wpAny_BinOp (ldLoc F1 rfl ?_)
  refine Tuple_ (args_cons ?_)
  refine evalNeg fun g1 T1 _ v1 c1 m1 => ?_
  refine args_cons ?_
  refine evalPos fun g2 T2 _ v2 c2 m2 => ?_
  refine args_cons ?_
  refine evalPos fun g3 T3 _ v3 c3 m3 => ?_
  refine args_cons ?_
  refine evalNeg fun g4 T4 _ v4 c4 m4 => ?_
  refine args_nil (newTup (by simp) fun g5 T5 hT5 c5 _ => ?_)
  dsimp only at c1 m1 c2 m2 c3 m3 c4 m4 c5
  have kD : ∀ b o, h₁.get? b = some o → g5.get? b = some o := fun b o e => c5 b o (c4 b o (c3 b o (c2 b o (c1 b o e))))
  refine addTup (vs := [.ref Ta, .ref Tb]) (ws := [.ref T1, .ref T2, .ref T3, .ref T4]) (tupKeeps hT2 kD) hT5 (by simp) (by simp) (by simp) fun g6 T6 hT6 c6 _ => ?_
  dsimp only at c6
  have kE : ∀ b o, h₁.get? b = some o → g6.get? b = some o := fun b o e => c6 b o (kD b o e)
  have w6 : WaysAt g6 T6 sixW := WaysAt.of hT6 ⟨(wA.keeps kE), (wB.keeps kE), ((((v1.keeps c2).keeps c3).keeps c4).keeps c5).keeps c6, (((v2.keeps c3).keeps c4).keeps c5).keeps c6, ((v3.keeps c4).keeps c5).keeps c6, (v4.keeps c5).keeps c6, trivial⟩
  have FE := Fr.more F1 (h' := g6) kE
  refine stLk FE (X1.keeps kE) fun h₂' F2 X2 k2 => ?_
  have K2 : KS g6 h₂' := KS.but FE fun b o hb e => (k2.2 b hb).trans e
  have K12 : KS h₁ h₂' := (KS.of kE).trans K2
  have w62 := K2.ways w6
  clear v1 v2 v3 v4 c1 c2 c3 c4 c5 c6 kD
  -- start
  refine wpAny_execs_cons ?_
  refine wpAny_Assign_Name ?_ ?_
  rotate_left
  · exact swapTup
  refine Tuple_ (args_cons (wpAny_BinOp (wpAny_BinOp (ldLoc F2 n2 (ldLoc F2 n3 (addN (wpAny_Constant_int (addN (b := 2) ?_))))))))
  refine args_cons (wpAny_BinOp (ldLoc F2 n3 (wpAny_Constant_int (addN (b := 1) ?_))))
  refine args_cons (wpAny_Constant_int (args_nil (newTup (by simp) fun h₃ Ts hTs k3 _ => ?_)))
  dsimp only at k3
  have hst : ∃ vs : List Value, h₃.IsTuple Ts vs.toArray ∧ IntsAre vs ((stL p q).map fun k : Nat => (k : Int)) := ⟨_, hTs, .cons _ _ (.cons _ _ (.cons _ _ .nil))⟩
  refine Exists.elim hst fun vs hst => ?_
  clear hTs
  have F3' := Fr.more F2 (h' := h₃) k3
  refine stLk F3' (X2.keeps k3) fun h₄ F4 X4 k4 => ?_
  have K4 : KS h₃ h₄ := KS.but F3' fun b o hb e => (k4.2 b hb).trans e
  have K24 : KS h₂' h₄ := (KS.of k3).trans K4
  have hTs4 := K4.tuple hst.1
  -- whole, one, both
  refine wpAny_execs_cons ?_
  refine Assign_Tuple (Tuple_ (args_cons (wpAny_Constant_int (args_cons (wpAny_Constant_int (args_cons (wpAny_Constant_int (args_nil (newTup (by simp) fun h₅ T5' hT5' k5 _ => ?_)))))))))
  dsimp only at k5
  have hz : ∃ t1 t2 t3 : Tok, h₅.IsTuple T5' #[.int 0 t1, .int 0 t2, .int 0 t3] := ⟨_, _, _, hT5'⟩
  refine Exists.elim hz fun tW hz => Exists.elim hz fun tO hz => Exists.elim hz fun tB hz => ?_
  clear hT5'
  refine assign3 rfl hz fun h₆ he => ?_
  dsimp only at he
  have k6 : ∀ b o, h₄.get? b = some o → h₆.get? b = some o := fun b o e => he b o (Nat.ne_of_lt (Heap.lt_size (k5 b o e))) (k5 b o e)
  refine stLk (Fr.more F4 (h' := h₆) k6) (X4.keeps k6) fun h₇ F7 X7 k7 => ?_
  refine stLk F7 X7 fun h₈ F8 X8 k8 => ?_
  refine stLk F8 X8 fun h₉ F9 X9 k9 => ?_
  have K49 : KS h₄ h₉ := KS.but F4 fun b o hb e => (k9.2 b hb).trans ((k8.2 b hb).trans ((k7.2 b hb).trans (k6 b o e)))
  have K29 := K24.trans K49
  have K19 := K12.trans K29
  have K09 := K01.trans K19
  refine law4 (Dw := Dw) (tW := tW) (tO := tO) (tB := tB) h2 C hdp hu (d := ⟨Db, Tc, Ta, Tb, T6, Ts, vb, vs, x0, x1, x2, p, q, n, a, b, c, g, tp, tq, tl, tw, tg⟩) F9 X9 ?_ ?_ ?_ ?_ ?_ hps ?_ ?_ ?_ ?_ hgs hos ?_ hwl ?_ ?_ hret
  · exact ⟨n1, n2, n3, n5, n6, n7, rfl, rfl, rfl⟩
  · exact ⟨K09.plain hB, K19.tuple hT2, K19.way wA, K19.way wB, K29.ways w62, K49.tuple hTs4⟩
  · exact ⟨hBi, hst.2, hx0, hx1, hx2, hp, hq, hgap⟩
  · exact e1
  · exact K09.plain hW
  · exact rfl
  · exact rfl
  · exact rfl
  · dsimp only
    refine Nat.le_trans (Nat.le_trans htk (Nat.le_trans la (Nat.le_trans lb (Nat.le_trans (Nat.le_of_succ_le m1) (Nat.le_trans m2 (Nat.le_trans m3 m4)))))) ?_
    repeat (first | exact Nat.le_refl _ | refine Nat.le_add_right_of_le ?_)
  · exact hx
  · exact hone
  · exact hboth
end Mine
end

section
open PySem PySem.Calls PySem.W PyProof.Rows
namespace Mine
example (P : Params) : hd.heap_161 P = hd.heap_161 P ∧ PySem.Challenge.rw_wr0028_01 = PySem.Challenge.rw_wr0028_01 := by k_fill; exact ⟨rfl, rfl⟩
theorem law2 {w : World} {s s' : Shared} {mean : ExcName → Option Value} {mg mb : Str → Option Value} {dp un : Nat} {gd : Option (List Code)} {base : Heap} {outer : List Env} {Q' : Flow → Shared → Prop} {E' : Value → Shared → Prop}
    {oc : Value} {od : Option Addr} {name qual : Str} {params : Arguments} {body : List Stmt} {scope : Scope} {dV kV doc pm cdv ct : Value} {an : Option Addr} {osl : Array (Option Value)} {m cm : Str → Option Value}
    {Db : Addr} {vb : List Value} {x0 x1 x2 p q n : Nat} {tp tq tn tl tw tg : Tok} {a b c : Nat} {g : List Nat}
    (ho : (hd.heap_161 w.params).lookup 122 = some ⟨oc, od, .func (fnOf name qual params body scope dV kV doc pm an cdv ct), osl⟩)
    (C : Cal w mean mg mb dp un gd base outer s) (hdp : dp + 8 < recursionLimit) (hu : un + 20 < cLine)
    (F : Fr s.heap s.heap.objs.size s'.heap m) (X : Cl s.heap.objs.size (csOf scope s.heap.objs.size) s'.heap cm)
    (e1 : m "bases" = some (.ref Db)) (e2 : m "p" = some (.int (p : Nat) tp)) (e3 : m "q" = some (.int (q : Nat) tq)) (e4 : m "n" = some (.int (n : Nat) tn)) (e5 : m "letters" = some (.str (S [a, b, c]) tl)) (e6 : m "which" = some (.int (n / 4 % 3 : Nat) tw)) (e7 : m "gap" = some (.str (S g) tg))
    (hB : s'.heap.PlainList Db vb.toArray) (hBi : IntsAre vb [(x0 : Int), (x1 : Int), (x2 : Int)]) (htk : s.toks ≤ s'.toks) (hgs : AllBare s'.gens) (hos : s'.os = s.os)
    (hok : okWords (n / 4 % 3 : Nat) a b c = true) (hrow : (rowW (n / 4 % 3 : Nat) a b c).length ≤ 1000)
    (hlen : ((wordsL (n / 4 % 3 : Nat) a b c (decide (n % 2 = 0)) (decide (n / 2 % 2 = 0))).length : Int) = [10, 8, 8, 1].getD (n % 4) 0)
    (hp : p ≤ 1) (hq : q ≤ 1) (hgap : g.length ≤ 2)
    (hchk : chk (List.replicate (p + 1) 40 ++ (List.replicate 2 ([34] ++ g ++ [41, 34])).flatten ++ List.replicate p 41) = false)
    (hx0 : x0 < 4096) (hx1 : x1 < 4096) (hx2 : x2 < 4096)
    (hx : ∀ x ∈ wordsL (n / 4 % 3 : Nat) a b c (decide (n % 2 = 0)) (decide (n / 2 % 2 = 0)), okT (n / 4 % 3 : Nat) p q a b c g x)
    (hone : turnsL twoW [(x0 : Int), (x1 : Int), (x2 : Int)] (stL p q) * ((wordsL (n / 4 % 3 : Nat) a b c (decide (n % 2 = 0)) (decide (n / 2 % 2 = 0))).map fun x => wholeT [(x0 : Int), (x1 : Int), (x2 : Int)] a b c x).sum = ((wordsL (n / 4 % 3 : Nat) a b c (decide (n % 2 = 0)) (decide (n / 2 % 2 = 0))).map fun x => oneT [(x0 : Int), (x1 : Int), (x2 : Int)] p q a b c g x).sum)
    (hboth : turnsL sixW [(x0 : Int), (x1 : Int), (x2 : Int)] (stL p q) * ((wordsL (n / 4 % 3 : Nat) a b c (decide (n % 2 = 0)) (decide (n / 2 % 2 = 0))).map fun x => wholeT [(x0 : Int), (x1 : Int), (x2 : Int)] a b c x).sum = ((wordsL (n / 4 % 3 : Nat) a b c (decide (n % 2 = 0)) (decide (n / 2 % 2 = 0))).map fun x => bothT [(x0 : Int), (x1 : Int), (x2 : Int)] (n / 4 % 3 : Nat) p q a b c g x).sum)
    (hret : ∀ s'', Grew s s'' → Q' (.ret (.bool true)) s'') :
    wpAny (model PP w) ((arT dp un gd outer).deeper (envOfC qual scope s.heap.objs.size 122 cdv)) (execs (body.drop 7) (envOfC qual scope s.heap.objs.size 122 cdv)) Q' E' s' := by
  have h2 := getBody (w := w) (by k_is)
  obtain ⟨j2, j4, j5, code_eq⟩ := sameDef ho h2
  subst j2 j4 j5 code_eq
  clear ho
  have htk1 := C.tk
  -- words
  refine wpAny_execs_cons (wpAny_Assign_Name (Call_ ?_))
  refine nmK F.keep C.X (topRead_of C.T) (by k_is) ?_
  refine callWith_K C.X (by k_is) (args_cons (ldLoc F e6 (args_cons (ldLoc F e5 (args_cons (wpAny_Compare1 (wpAny_BinOp (ldLoc F e4 (wpAny_Constant_int (modN (b := 2) (by decide) (wpAny_Constant_int (eqN (b := 0) ?_))))))))))))
  refine args_cons (wpAny_Compare1 (wpAny_BinOp (wpAny_BinOp (ldLoc F e4 (wpAny_Constant_int (divN (b := 2) (by decide) (by decide) (wpAny_Constant_int (modN (b := 2) (by decide) (wpAny_Constant_int (eqN (b := 0) ?_))))))))))
  refine args_nil ⟨C.X.keeps F.keep, ?_⟩
  dsimp only
  refine words_spec (n / 4 % 3 : Nat) a b c _ _ tw tl hok hrow mean mg mb _ _ _ base _ _ _ (C.insideC F (by dsimp only; walk_at "om") hgs) (show dp + 1 + 3 < recursionLimit by walk_at "om") (show un + 3 + 8 < cLine by walk_at "om") fun v s₂ G hv => ?_
  have hle2 := G.tk
  have hgs2 := G.gs
  have hos2 := G.os
  dsimp only at hle2 hos2
  refine Exists.elim hv fun Dw hv => Exists.elim hv fun ps hv => ?_
  have hv1 := hv.1
  subst hv1
  have hP2 := hv.2.1
  have hps := hv.2.2
  clear hv
  have F2 := Fr.more F G.keep
  have X2 := X.keeps G.keep
  have hDwL : s.heap.objs.size ≠ Dw := Fr.neL F2 hP2.isList
  have hB2 : s₂.heap.PlainList Db vb.toArray := hB.at fun o e => G.keep _ o e
  have hDbL : s.heap.objs.size ≠ Db := Fr.neL F2 hB2.isList
  refine stLk F2 X2 fun h₃ F3 X3 k3 => ?_
  have hP3 : h₃.PlainList Dw (strValues ps).toArray := hP2.at fun o e => (k3.2 _ hDwL.symm).trans e
  have hB3 : h₃.PlainList Db vb.toArray := hB2.at fun o e => (k3.2 _ hDbL.symm).trans e
  have hpsl : ps.length = (wordsL (n / 4 % 3 : Nat) a b c (decide (n % 2 = 0)) (decide (n / 2 % 2 = 0))).length := by have := congrArg List.length hps; simpa using this
  have hle10 : ([10, 8, 8, 1] : List Int).getD (n % 4) 0 ≤ 10 := by
    have h4 : n % 4 < 4 := Nat.mod_lt _ (by decide)
    revert h4; generalize n % 4 = k; revert k; decide
  -- len(words)
  refine wpAny_execs_cons (wpAny_If (wpAny_isTrue_Compare1 (Call_ ?_)))
  refine nmB F3.keep C.X (topRead_of C.T) (by k_is) PySem.boot_len (by decide) ?_
  refine PyProof.Rows.callWith_builtin1 (args_cons (ldLoc F3 rfl (args_nil ?_)))
  refine lenL (vs := strValues ps) hP3.isList (by simp [strValues]; walk_at "om") ?_
  refine Subscript_ (Tuple_ (args_cons (wpAny_Constant_int (args_cons (wpAny_Constant_int (args_cons (wpAny_Constant_int (args_cons (wpAny_Constant_int (args_nil (newTup (by simp) fun h₄ T4 hT4 k4 hle4 => ?_)))))))))))
  dsimp only at k4
  refine wpAny_BinOp (ldLoc (Fr.more F3 k4) e4 (wpAny_Constant_int (modN (b := 4) (by decide) ?_)))
  refine intItem hT4 (Nat.mod_lt _ (by decide)) (fun tI => ?_) rfl
  refine ne_int (wpAny_truthy_bool ?_)
  rw [if_neg (by
    have e1 : (((strValues ps).length : Nat) : Int) = ([10, 8, 8, 1] : List Int).getD (n % 4) 0 := by rw [← hlen, ← hpsl]; simp [strValues]
    rw [e1]; simp)]
  refine wpAny_execs_nil ?_
  have F4 := Fr.more F3 k4
  have X4 := X3.keeps k4
  have hP4 : h₄.PlainList Dw (strValues ps).toArray := hP3.at fun o e => k4 _ o e
  have hB4 : h₄.PlainList Db vb.toArray := hB3.at fun o e => k4 _ o e
  have hwl : (wordsL (n / 4 % 3 : Nat) a b c (decide (n % 2 = 0)) (decide (n / 2 % 2 = 0))).length ≤ 10 := by
    have h1 : ((wordsL (n / 4 % 3 : Nat) a b c (decide (n % 2 = 0)) (decide (n / 2 % 2 = 0))).length : Int) ≤ 10 := by rw [hlen]; exact hle10
    exact Int.ofNat_le.mp h1
  clear hlen hle10 hpsl hrow hle4
  -- the check that must fail
  refine wpAny_execs_cons (wpAny_If (wpAny_isTrue_Compare1 (Call_ ?_)))
  refine nmK F4.keep C.X (topRead_of C.T) (by k_is) ?_
  refine callWith_K C.X (by k_is) (args_cons (wpAny_BinOp (wpAny_BinOp (wpAny_BinOp (Calls.Constant_str (wpAny_BinOp (ldLoc F4 e2 (wpAny_Constant_int (addN (b := 1) ?_)))))))))
  refine mulN1 (c := 40) (by walk_at "om") fun t5 k5 l5 => ?_
  dsimp only at l5
  refine wpAny_BinOp (wpAny_BinOp (wpAny_BinOp (Calls.Constant_str (ldLoc F4 e7 ?_))))
  refine addSS (l := [34]) (by simp; walk_at "om") fun t6 k6 l6 => ?_
  dsimp only at l6
  refine Calls.Constant_str (addSS (r := [41, 34]) (by simp; walk_at "om") fun t7 k7 l7 => ?_)
  dsimp only at l7
  refine wpAny_Constant_int (mulN (n := 2) (by simp; walk_at "om") (by decide) fun t8 k8 l8 => ?_)
  dsimp only at l8
  refine addSS (by simp; walk_at "om") fun t9 k9 l9 => ?_
  dsimp only at l9
  refine wpAny_BinOp (Calls.Constant_str (ldLoc F4 e2 ?_))
  refine mulN1 (c := 41) (by walk_at "om") fun t10 k10 l10 => ?_
  dsimp only at l10
  refine addSS (by simp; walk_at "om") fun t11 k11 l11 => ?_
  dsimp only at l11
  refine args_nil ⟨C.X.keeps F4.keep, ?_⟩
  refine (chk_spec _ t11 (by simp; walk_at "om")).val mean mg mb _ _ _ base _ _ _ (C.insideC F4 (by dsimp only; walk_at "om") hgs2) (show dp + 1 + 3 < recursionLimit by walk_at "om") (show un + 3 + 8 < cLine by walk_at "om") fun s₅ G5 => ?_
  have hle5 := G5.tk
  have hgs5 := G5.gs
  have hos5 := G5.os
  dsimp only at hle5 hos5
  refine wpAny_Constant_bool (wpAny_isNot_plain rfl (wpAny_truthy_bool ?_))
  rw [if_neg (by rw [hchk]; decide)]
  refine wpAny_execs_nil ?_
  have F5 := Fr.more F4 G5.keep
  have X5 := X4.keeps G5.keep
  have hP5 : s₅.heap.PlainList Dw (strValues ps).toArray := hP4.at fun o e => G5.keep _ o e
  have hB5 : s₅.heap.PlainList Db vb.toArray := hB4.at fun o e => G5.keep _ o e
  have hos' : s₅.os = s.os := hos5.trans (hos2.trans hos)
  have htk' : s.toks ≤ s₅.toks := by walk_at "om"
  have T := law3 (Q' := Q') (E' := E') (Dw := Dw) h2 C hdp hu F5 X5 e1 e2 e3 e5 e6 e7 hB5 hBi hx0 hx1 hx2 hp hq hgap rfl hP5 hps htk' hgs5 hos' hx hwl hone hboth hret
  exact T
end Mine
end

section
open PySem PySem.Calls PySem.W PyProof.Rows
namespace Mine
theorem fm_congr {α β : Type} {f g : α → List β} : ∀ {l : List α}, (∀ x ∈ l, f x = g x) → l.flatMap f = l.flatMap g
  | [], _ => rfl
  | x :: l, h => by rw [List.flatMap_cons, List.flatMap_cons, h x (List.mem_cons_self ..), fm_congr fun y hy => h y (List.mem_cons_of_mem _ hy)]
/-- the words, as places -/
noncomputable def iw (f l : Bool) : List (List Nat) := [0, 1, 2].flatMap fun x => [0, 1, 2].flatMap fun y => if decide (y ≤ x) = f then ([0, 1, 2].filter fun z => decide (z ≤ y) == l).map fun z => [x, y, z] else []
noncomputable abbrev ring : List Nat := [38, 60, 62, 34, 13, 10, 9, 38, 60]
noncomputable def chkW (wh : Int) (a b c : Nat) : Bool := okWords wh a b c && decide ((rowW wh a b c).length ≤ 1000) &&
  (!fallL wh a b c a b && !fallL wh a b c a c && !fallL wh a b c b c && fallL wh a b c a a && fallL wh a b c b a && fallL wh a b c b b && fallL wh a b c c a && fallL wh a b c c b && fallL wh a b c c c)
/-- a place's letter -/
noncomputable def L3 (a b c i : Nat) : Nat := if i = 0 then a else if i = 1 then b else c
theorem words_eq {wh : Int} {a b c : Nat} (h : chkW wh a b c = true) (f l : Bool) : wordsL wh a b c f l = (iw f l).map (List.map (L3 a b c)) := by
  unfold chkW at h
  simp only [Bool.and_eq_true, Bool.not_eq_true'] at h
  obtain ⟨_, ⟨⟨⟨⟨⟨⟨⟨⟨h1, h2⟩, h3⟩, h4⟩, h5⟩, h6⟩, h7⟩, h8⟩, h9⟩⟩ := h
  have e : ∀ i j, i < 3 → j < 3 → fallL wh a b c (L3 a b c i) (L3 a b c j) = decide (j ≤ i) := by
    intro i j hi hj
    rcases i with _ | _ | _ | i <;> rcases j with _ | _ | _ | j <;> first | walk_at "om" | (simp [L3, h1, h2, h3, h4, h5, h6, h7, h8, h9])
  have e0 : [a, b, c] = [0, 1, 2].map (L3 a b c) := rfl
  have m3 : ∀ x ∈ [0, 1, 2], x < 3 := by decide
  unfold wordsL iw
  rw [e0, List.flatMap_map, List.map_flatMap]
  refine fm_congr fun x hx => ?_
  rw [List.flatMap_map, List.map_flatMap]
  refine fm_congr fun y hy => ?_
  rw [e x y (m3 x hx) (m3 y hy)]
  split
  · rw [List.filter_map, List.map_map, List.map_map]
    have : [0, 1, 2].filter ((fun z => fallL wh a b c (L3 a b c y) z == l) ∘ L3 a b c) = [0, 1, 2].filter fun z => decide (z ≤ y) == l := by
      refine List.filter_congr fun z hz => ?_
      show (fallL wh a b c (L3 a b c y) (L3 a b c z) == l) = _
      rw [e y z (m3 y hy) (m3 z hz)]
    rw [this]; rfl
  · rfl
theorem cw_0 : ((List.range 7).all fun r => chkW 0 (ring.getD r 0) (ring.getD (r + 1) 0) (ring.getD (r + 2) 0)) = true := by decide +kernel
theorem cw_1 : ((List.range 7).all fun r => chkW 1 (ring.getD r 0) (ring.getD (r + 1) 0) (ring.getD (r + 2) 0)) = true := by decide +kernel
theorem cw_2 : ((List.range 7).all fun r => chkW 2 (ring.getD r 0) (ring.getD (r + 1) 0) (ring.getD (r + 2) 0)) = true := by decide +kernel
theorem cw_all (k r : Nat) (hk : k < 3) (hr : r < 7) : chkW (k : Nat) (ring.getD r 0) (ring.getD (r + 1) 0) (ring.getD (r + 2) 0) = true := by
  have hm : r ∈ List.range 7 := List.mem_range.mpr hr
  rcases k with _ | _ | _ | k
  · exact List.all_eq_true.mp cw_0 r hm
  · exact List.all_eq_true.mp cw_1 r hm
  · exact List.all_eq_true.mp cw_2 r hm
  · exact absurd hk (by walk_at "om")
theorem distinct : ∀ r, r < 7 → ring.getD r 0 ≠ ring.getD (r + 1) 0 ∧ ring.getD r 0 ≠ ring.getD (r + 2) 0 ∧ ring.getD (r + 1) 0 ≠ ring.getD (r + 2) 0 := by decide
section
variable {a b c : Nat} (hab : a ≠ b) (hac : a ≠ c) (hbc : b ≠ c)
include hab hac hbc
theorem L3_0 {i : Nat} (hi : i < 3) : L3 a b c i = a ↔ i = 0 := by
  rcases i with _ | _ | _ | i
  · simp [L3]
  · simp [L3, hab.symm]
  · simp [L3, hac.symm]
  · walk_at "om"
theorem L3_1 {i : Nat} (hi : i < 3) : L3 a b c i = b ↔ i = 1 := by
  rcases i with _ | _ | _ | i
  · simp [L3, hab]
  · simp [L3]
  · simp [L3, hbc.symm]
  · walk_at "om"
theorem L3_2 {i : Nat} (hi : i < 3) : L3 a b c i = c ↔ i = 2 := by
  rcases i with _ | _ | _ | i
  · simp [L3, hac]
  · simp [L3, hbc]
  · simp [L3]
  · walk_at "om"
theorem cnt_0 : ∀ w : List Nat, (∀ i ∈ w, i < 3) → (w.map (L3 a b c)).count a = w.count 0
  | [], _ => rfl
  | i :: w, h => by
    have := cnt_0 w fun j hj => h j (List.mem_cons_of_mem _ hj)
    have hi := L3_0 hab hac hbc (h i (List.mem_cons_self ..))
    rw [List.map_cons, List.count_cons, List.count_cons, this]
    congr 1
    by_cases q : i = 0
    · rw [if_pos (by simpa using hi.mpr q), if_pos (by simpa using q)]
    · rw [if_neg (by simpa using fun z => q (hi.mp z)), if_neg (by simpa using q)]
theorem cnt_1 : ∀ w : List Nat, (∀ i ∈ w, i < 3) → (w.map (L3 a b c)).count b = w.count 1
  | [], _ => rfl
  | i :: w, h => by
    have := cnt_1 w fun j hj => h j (List.mem_cons_of_mem _ hj)
    have hi := L3_1 hab hac hbc (h i (List.mem_cons_self ..))
    rw [List.map_cons, List.count_cons, List.count_cons, this]
    congr 1
    by_cases q : i = 1
    · rw [if_pos (by simpa using hi.mpr q), if_pos (by simpa using q)]
    · rw [if_neg (by simpa using fun z => q (hi.mp z)), if_neg (by simpa using q)]
theorem cnt_2 : ∀ w : List Nat, (∀ i ∈ w, i < 3) → (w.map (L3 a b c)).count c = w.count 2
  | [], _ => rfl
  | i :: w, h => by
    have := cnt_2 w fun j hj => h j (List.mem_cons_of_mem _ hj)
    have hi := L3_2 hab hac hbc (h i (List.mem_cons_self ..))
    rw [List.map_cons, List.count_cons, List.count_cons, this]
    congr 1
    by_cases q : i = 2
    · rw [if_pos (by simpa using hi.mpr q), if_pos (by simpa using q)]
    · rw [if_neg (by simpa using fun z => q (hi.mp z)), if_neg (by simpa using q)]
theorem mark_01 {i : Nat} (hi : i < 3) : markL a b (L3 a b c i) = markL 0 1 i := by
  unfold markL
  simp only [L3_0 hab hac hbc hi, L3_1 hab hac hbc hi]
theorem mark_12 {i : Nat} (hi : i < 3) : markL b c (L3 a b c i) = markL 1 2 i := by
  unfold markL
  simp only [L3_1 hab hac hbc hi, L3_2 hab hac hbc hi]
theorem seen_01 (p : Nat) (w : List Nat) (h : ∀ i ∈ w, i < 3) : seenL p a b (w.map (L3 a b c)) = seenL p 0 1 w := by
  unfold seenL rowL
  rw [cnt_0 hab hac hbc w h, cnt_1 hab hac hbc w h, List.flatMap_map, fm_congr fun i hi => mark_01 hab hac hbc (h i hi)]
theorem seen_12 (p : Nat) (w : List Nat) (h : ∀ i ∈ w, i < 3) : seenL p b c (w.map (L3 a b c)) = seenL p 1 2 w := by
  unfold seenL rowL
  rw [cnt_1 hab hac hbc w h, cnt_2 hab hac hbc w h, List.flatMap_map, fm_congr fun i hi => mark_12 hab hac hbc (h i hi)]
theorem text_012 (p q : Nat) (g w : List Nat) (h : ∀ i ∈ w, i < 3) : textL p q a b c g (w.map (L3 a b c)) = textL p q 0 1 2 g w := by
  unfold textL quotedL
  rw [seen_01 hab hac hbc p w h, seen_12 hab hac hbc q w h]
theorem cnt_012 (w : List Nat) (h : ∀ i ∈ w, i < 3) : cntL a b c (w.map (L3 a b c)) = cntL 0 1 2 w := by
  unfold cntL
  rw [cnt_0 hab hac hbc w h, cnt_1 hab hac hbc w h, cnt_2 hab hac hbc w h]
theorem pow_012 (p q : Nat) (w : List Nat) (h : ∀ i ∈ w, i < 3) : powL p q a b c (w.map (L3 a b c)) = powL p q 0 1 2 w := by
  unfold powL
  rw [cnt_0 hab hac hbc w h, cnt_1 hab hac hbc w h, cnt_2 hab hac hbc w h]
end
/-- the writing of a text of brackets, quotation marks and backslashes -/
noncomputable def quoM (c : Nat) : List Nat := if c = 34 then [38, 113, 117, 111, 116, 59] else [c]
noncomputable def inSet (c : Nat) : Bool := c == 34 || c == 40 || c == 41 || c == 92
theorem wri_eq (wh : Int) (t : List Nat) (ht : t.all inSet = true) : wri wh t = t.flatMap quoM := by
  have hs : ∀ c ∈ t, c = 34 ∨ c = 40 ∨ c = 41 ∨ c = 92 := fun c hc => by
    have := List.all_eq_true.mp ht c hc
    simp only [inSet, Bool.or_eq_true, beq_iff_eq] at this
    walk_at "om"
  have e : ∀ ps, (rep ps [34] = quoM 34 ∧ rep ps [40] = quoM 40 ∧ rep ps [41] = quoM 41 ∧ rep ps [92] = quoM 92) → rep ps t = t.flatMap quoM := fun ps hp => by
    rw [rep_flat]
    refine fm_congr fun c hc => ?_
    rcases hs c hc with rfl | rfl | rfl | rfl
    · exact hp.1
    · exact hp.2.1
    · exact hp.2.2.1
    · exact hp.2.2.2
  unfold wri
  split
  · exact e pA (by decide +kernel)
  · split
    · exact e pH (by decide +kernel)
    · exact e pC (by decide +kernel)
noncomputable abbrev gapT : List (List Nat) := [[], [92, 40], [92, 41], [92, 92], [92, 34]]
noncomputable def all3 : List (List Nat) := [0, 1, 2].flatMap fun x => [0, 1, 2].flatMap fun y => [0, 1, 2].map fun z => [x, y, z]
/-- the verdicts, without a gap -/
noncomputable def bareV (p : Nat) (w : List Nat) : Bool := bareB p 0 0 1 2 [] w
noncomputable def markV (p q : Nat) (w : List Nat) : Bool := chk ((textL p q 0 1 2 [] w).flatMap quoM)
noncomputable def okV (p q : Nat) (g w : List Nat) : Bool := (textL p q 0 1 2 g w).all inSet && decide ((textL p q 0 1 2 g w).length ≤ 1000) && decide (((textL p q 0 1 2 g w).flatMap quoM).length ≤ 1000) &&
  (bareB p q 0 1 2 g w == bareV p w) && (!bareV p w || ((chk ((textL p q 0 1 2 g w).flatMap quoM) == markV p q w) && decide (q + 1 + w.count 1 < p + q + 2 + w.count 0) && (!markV p q w || decide (w.count 2 < q + 1 + w.count 1))))
theorem okV_00 : (gapT.all fun g => all3.all fun w => okV 0 0 g w) = true := by decide +kernel
theorem okV_01 : (gapT.all fun g => all3.all fun w => okV 0 1 g w) = true := by decide +kernel
theorem okV_10 : (gapT.all fun g => all3.all fun w => okV 1 0 g w) = true := by decide +kernel
theorem okV_11 : (gapT.all fun g => all3.all fun w => okV 1 1 g w) = true := by decide +kernel
theorem okV_all {p q : Nat} (hp : p ≤ 1) (hq : q ≤ 1) {g w : List Nat} (hg : g ∈ gapT) (hw : w ∈ all3) : okV p q g w = true := by
  have h : (gapT.all fun g => all3.all fun w => okV p q g w) = true := by
    rcases p with _ | _ | p
    · rcases q with _ | _ | q
      · exact okV_00
      · exact okV_01
      · exact absurd hq (by walk_at "om")
    · rcases q with _ | _ | q
      · exact okV_10
      · exact okV_11
      · exact absurd hq (by walk_at "om")
    · exact absurd hp (by walk_at "om")
  exact List.all_eq_true.mp (List.all_eq_true.mp h g hg) w hw
theorem gap_mem (j : Nat) (hj : j < 5) : gapL j ∈ gapT := (show ∀ j < 5, gapL j ∈ gapT by decide) j hj
theorem iw_all3 : ∀ f l, ∀ w ∈ iw f l, w ∈ all3 := by decide +kernel
theorem all3_lt : ∀ w ∈ all3, (∀ i ∈ w, i < 3) ∧ w.length = 3 := by decide +kernel
/-- polynomials in three letters, as monomials -/
noncomputable abbrev Mon : Type := Int × Nat × Nat × Nat
noncomputable def evM (x y z : Int) (m : Mon) : Int := m.1 * (x ^ m.2.1 * y ^ m.2.2.1 * z ^ m.2.2.2)
noncomputable def ev (x y z : Int) (p : List Mon) : Int := (p.map (evM x y z)).sum
noncomputable def mulM (m n : Mon) : Mon := (m.1 * n.1, m.2.1 + n.2.1, m.2.2.1 + n.2.2.1, m.2.2.2 + n.2.2.2)
noncomputable def pm (p q : List Mon) : List Mon := p.flatMap fun m => q.map (mulM m)
noncomputable def ngM (m : Mon) : Mon := (-m.1, m.2)
noncomputable def insM (m : Mon) : List Mon → List Mon
  | [] => [m]
  | n :: r => if m.2 = n.2 then (m.1 + n.1, n.2) :: r else n :: insM m r
noncomputable def zeroP (p : List Mon) : Bool := (p.foldr insM []).all fun m => m.1 == 0
section
variable (x y z : Int)
theorem ev_cons (m : Mon) (p : List Mon) : ev x y z (m :: p) = evM x y z m + ev x y z p := by unfold ev; rw [List.map_cons, List.sum_cons]
theorem ev_app : ∀ p q : List Mon, ev x y z (p ++ q) = ev x y z p + ev x y z q
  | [], q => by rw [List.nil_append]; exact (Int.zero_add _).symm
  | m :: p, q => by rw [List.cons_append, ev_cons, ev_cons, ev_app p q, Int.add_assoc]
theorem evM_mul (m n : Mon) : evM x y z (mulM m n) = evM x y z m * evM x y z n := by
  unfold evM mulM
  simp only [Int.pow_add]
  ac_rfl
theorem ev_mulM (m : Mon) : ∀ q : List Mon, ev x y z (q.map (mulM m)) = evM x y z m * ev x y z q
  | [] => (Int.mul_zero _).symm
  | n :: q => by rw [List.map_cons, ev_cons, ev_cons, ev_mulM m q, evM_mul, Int.mul_add]
theorem ev_pm (q : List Mon) : ∀ p : List Mon, ev x y z (pm p q) = ev x y z p * ev x y z q
  | [] => (Int.zero_mul _).symm
  | m :: p => by
    unfold pm
    rw [List.flatMap_cons, ev_app, ev_mulM, ev_cons, Int.add_mul]
    congr 1
    exact ev_pm q p
theorem ev_ng : ∀ p : List Mon, ev x y z (p.map ngM) = -ev x y z p
  | [] => rfl
  | m :: p => by
    rw [List.map_cons, ev_cons, ev_cons, ev_ng p, Int.neg_add]
    congr 1
    unfold evM ngM
    exact Int.neg_mul _ _
theorem ev_ins (m : Mon) : ∀ p : List Mon, ev x y z (insM m p) = evM x y z m + ev x y z p
  | [] => ev_cons x y z m []
  | n :: r => by
    unfold insM
    split
    · rename_i h
      rw [ev_cons, ev_cons, ← Int.add_assoc]
      congr 1
      unfold evM
      rw [h, ← Int.add_mul]
    · rw [ev_cons, ev_cons, ev_ins m r, Int.add_left_comm]
theorem ev_norm : ∀ p : List Mon, ev x y z (p.foldr insM []) = ev x y z p
  | [] => rfl
  | m :: p => by rw [List.foldr_cons, ev_ins, ev_norm p, ev_cons]
theorem ev_all0 : ∀ p : List Mon, (p.all fun m => m.1 == 0) = true → ev x y z p = 0
  | [], _ => rfl
  | m :: p, h => by
    rw [List.all_cons, Bool.and_eq_true, beq_iff_eq] at h
    rw [ev_cons, ev_all0 p h.2]
    unfold evM
    rw [h.1, Int.zero_mul]; rfl
theorem ev_zero {p : List Mon} (h : zeroP p = true) : ev x y z p = 0 := by
  rw [← ev_norm]; exact ev_all0 x y z _ h
theorem ev_flat (f : List Nat → List Mon) : ∀ ws : List (List Nat), ev x y z (ws.flatMap f) = (ws.map fun w => ev x y z (f w)).sum
  | [] => rfl
  | w :: ws => by rw [List.flatMap_cons, ev_app, ev_flat f ws, List.map_cons, List.sum_cons]
end
noncomputable def oneP (l : List Nat) : List Mon := [(1, l.getD 0 0, l.getD 1 0, l.getD 2 0)]
noncomputable def twoP (l : List Nat) : List Mon := [(1, l.getD 0 0, l.getD 1 0, l.getD 2 0), (-1, l.getD 1 0, l.getD 0 0, l.getD 2 0)]
noncomputable def sixP (l : List Nat) : List Mon := [(1, l.getD 0 0, l.getD 1 0, l.getD 2 0), (-1, l.getD 1 0, l.getD 0 0, l.getD 2 0), (-1, l.getD 0 0, l.getD 2 0, l.getD 1 0), (1, l.getD 1 0, l.getD 2 0, l.getD 0 0), (1, l.getD 2 0, l.getD 0 0, l.getD 1 0), (-1, l.getD 2 0, l.getD 1 0, l.getD 0 0)]
theorem turn_ev (x y z : Int) (l : List Nat) : ∀ ws : List (Int × List Nat), (∀ w ∈ ws, w.2.length = 3) → turnsL ws [x, y, z] l = ev x y z (ws.map fun w => (w.1, l.getD (w.2.getD 0 0) 0, l.getD (w.2.getD 1 0) 0, l.getD (w.2.getD 2 0) 0))
  | [], _ => rfl
  | (s, w) :: ws, h => by
    have ih := turn_ev x y z l ws fun v hv => h v (List.mem_cons_of_mem _ hv)
    have h3 := h (s, w) (List.mem_cons_self ..)
    rw [List.map_cons, ev_cons, ← ih]
    unfold turnsL
    rw [List.map_cons, List.sum_cons]
    congr 1
    match w, h3 with
    | [i, j, k], _ =>
      show s * x ^ _ * y ^ _ * z ^ _ = s * (x ^ _ * y ^ _ * z ^ _)
      rw [Int.mul_assoc, Int.mul_assoc, Int.mul_assoc]
      rfl
theorem one_ev (x y z : Int) (l : List Nat) : turnsL oneW [x, y, z] l = ev x y z (oneP l) := turn_ev x y z l oneW (by decide)
theorem two_ev (x y z : Int) (l : List Nat) : turnsL twoW [x, y, z] l = ev x y z (twoP l) := turn_ev x y z l twoW (by decide)
theorem six_ev (x y z : Int) (l : List Nat) : turnsL sixW [x, y, z] l = ev x y z (sixP l) := turn_ev x y z l sixW (by decide)
/-- the rule, in places -/
noncomputable def RuleAt (p q : Nat) (f l : Bool) : Prop := ∀ x y z : Int,
  turnsL twoW [x, y, z] (stL p q) * ((iw f l).map fun w => turnsL oneW [x, y, z] (cntL 0 1 2 w)).sum = ((iw f l).map fun w => if bareV p w = true then turnsL twoW [x, y, z] (powL p q 0 1 2 w) else 0).sum ∧
  turnsL sixW [x, y, z] (stL p q) * ((iw f l).map fun w => turnsL oneW [x, y, z] (cntL 0 1 2 w)).sum = ((iw f l).map fun w => if (bareV p w && markV p q w) = true then turnsL sixW [x, y, z] (powL p q 0 1 2 w) else 0).sum
noncomputable def cP (f l : Bool) : List Mon := (iw f l).flatMap fun w => oneP (cntL 0 1 2 w)
noncomputable def aP (p q : Nat) (f l : Bool) : List Mon := (iw f l).flatMap fun w => if bareV p w = true then twoP (powL p q 0 1 2 w) else []
noncomputable def bP (p q : Nat) (f l : Bool) : List Mon := (iw f l).flatMap fun w => if (bareV p w && markV p q w) = true then sixP (powL p q 0 1 2 w) else []
noncomputable def ruleB (p q : Nat) (f l : Bool) : Bool := zeroP (pm (twoP (stL p q)) (cP f l) ++ (aP p q f l).map ngM) && zeroP (pm (sixP (stL p q)) (cP f l) ++ (bP p q f l).map ngM)
theorem rule_of {p q : Nat} {f l : Bool} (h : ruleB p q f l = true) : RuleAt p q f l := by
  intro x y z
  unfold ruleB at h
  rw [Bool.and_eq_true] at h
  have h1 := ev_zero x y z h.1
  have h2 := ev_zero x y z h.2
  rw [ev_app, ev_pm, ev_ng] at h1 h2
  have eC : ((iw f l).map fun w => turnsL oneW [x, y, z] (cntL 0 1 2 w)).sum = ev x y z (cP f l) := by
    unfold cP
    rw [ev_flat]
    congr 1
    exact List.map_congr_left fun w _ => one_ev x y z _
  have eA : ((iw f l).map fun w => if bareV p w = true then turnsL twoW [x, y, z] (powL p q 0 1 2 w) else 0).sum = ev x y z (aP p q f l) := by
    unfold aP
    rw [ev_flat]
    congr 1
    refine List.map_congr_left fun w _ => ?_
    split
    · exact two_ev x y z _
    · rfl
  have eB : ((iw f l).map fun w => if (bareV p w && markV p q w) = true then turnsL sixW [x, y, z] (powL p q 0 1 2 w) else 0).sum = ev x y z (bP p q f l) := by
    unfold bP
    rw [ev_flat]
    congr 1
    refine List.map_congr_left fun w _ => ?_
    split
    · exact six_ev x y z _
    · rfl
  rw [eC, eA, eB, two_ev, six_ev]
  exact ⟨Int.eq_of_sub_eq_zero h1, Int.eq_of_sub_eq_zero h2⟩
theorem rule_0 : ([0, 1].all fun q => [true, false].all fun f => [true, false].all fun l => ruleB 0 q f l) = true := by decide +kernel
theorem rule_1 : ([0, 1].all fun q => [true, false].all fun f => [true, false].all fun l => ruleB 1 q f l) = true := by decide +kernel
theorem rule_all {p q : Nat} (hp : p ≤ 1) (hq : q ≤ 1) (f l : Bool) : RuleAt p q f l := by
  have hq' : q ∈ [0, 1] := by simp; walk_at "om"
  have hb : ∀ b : Bool, b ∈ [true, false] := by decide
  have h : ([0, 1].all fun q => [true, false].all fun f => [true, false].all fun l => ruleB p q f l) = true := by
    rcases p with _ | _ | p
    · exact rule_0
    · exact rule_1
    · exact absurd hp (by walk_at "om")
  exact rule_of (List.all_eq_true.mp (List.all_eq_true.mp (List.all_eq_true.mp h q hq') f (hb f)) l (hb l))
end Mine
end

section
open PySem PySem.Calls PySem.W PyProof.Rows
namespace Mine
noncomputable abbrev rA (r : Nat) : Nat := ring.getD r 0
noncomputable abbrev rB (r : Nat) : Nat := ring.getD (r + 1) 0
noncomputable abbrev rC (r : Nat) : Nat := ring.getD (r + 2) 0
noncomputable abbrev wsOf (n r : Nat) : List (List Nat) := wordsL (n / 4 % 3 : Nat) (rA r) (rB r) (rC r) (decide (n % 2 = 0)) (decide (n / 2 % 2 = 0))
theorem f_chkW (n : Nat) {r : Nat} (hr : r < 7) : chkW (n / 4 % 3 : Nat) (rA r) (rB r) (rC r) = true := cw_all (n / 4 % 3) r (Nat.mod_lt _ (by decide)) hr
theorem f_ok (n : Nat) {r : Nat} (hr : r < 7) : okWords (n / 4 % 3 : Nat) (rA r) (rB r) (rC r) = true := by
  have := f_chkW n hr
  unfold chkW at this
  simp only [Bool.and_eq_true] at this
  exact this.1.1
theorem f_row (n : Nat) {r : Nat} (hr : r < 7) : (rowW (n / 4 % 3 : Nat) (rA r) (rB r) (rC r)).length ≤ 1000 := by
  have := f_chkW n hr
  unfold chkW at this
  simp only [Bool.and_eq_true, decide_eq_true_eq] at this
  exact this.1.2
theorem f_ws (n : Nat) {r : Nat} (hr : r < 7) : wsOf n r = (iw (decide (n % 2 = 0)) (decide (n / 2 % 2 = 0))).map (List.map (L3 (rA r) (rB r) (rC r))) := words_eq (f_chkW n hr) _ _
theorem iw_len : ∀ k, k < 4 → ((iw (decide (k % 2 = 0)) (decide (k / 2 % 2 = 0))).length : Int) = [10, 8, 8, 1].getD k 0 := by decide +kernel
theorem f_len (n : Nat) {r : Nat} (hr : r < 7) : ((wsOf n r).length : Int) = [10, 8, 8, 1].getD (n % 4) 0 := by
  rw [f_ws n hr, List.length_map, ← iw_len (n % 4) (Nat.mod_lt _ (by decide))]
  rw [Nat.mod_mod_of_dvd n (by decide : 2 ∣ 4), show n % 4 / 2 = n / 2 % 2 from Nat.mod_mul_right_div_self n 2 2, Nat.mod_mod]
theorem chk_all : ([0, 1].all fun p => gapT.all fun g => !chk (List.replicate (p + 1) 40 ++ (List.replicate 2 ([34] ++ g ++ [41, 34])).flatten ++ List.replicate p 41)) = true := by decide +kernel
theorem f_gapM (n : Nat) : gapL (n / 12 % 5) ∈ gapT := gap_mem _ (Nat.mod_lt _ (by decide))
theorem f_gap (n : Nat) : (gapL (n / 12 % 5)).length ≤ 2 := (show ∀ g ∈ gapT, g.length ≤ 2 by decide) _ (f_gapM n)
theorem f_chk (n : Nat) {p : Nat} (hp : p ≤ 1) : chk (List.replicate (p + 1) 40 ++ (List.replicate 2 ([34] ++ gapL (n / 12 % 5) ++ [41, 34])).flatten ++ List.replicate p 41) = false := by
  have h := List.all_eq_true.mp (List.all_eq_true.mp chk_all p (by simp; walk_at "om")) _ (f_gapM n)
  simpa using h
section
variable (n : Nat) {p q r : Nat} (hp : p ≤ 1) (hq : q ≤ 1) (hr : r < 7)
include hp hq hr
theorem f_okT : ∀ x ∈ wsOf n r, okT (n / 4 % 3 : Nat) p q (rA r) (rB r) (rC r) (gapL (n / 12 % 5)) x := by
  intro x hx
  rw [f_ws n hr] at hx
  obtain ⟨w, hw, rfl⟩ := List.mem_map.mp hx
  have hw3 := iw_all3 _ _ w hw
  have hl := all3_lt w hw3
  obtain ⟨hab, hac, hbc⟩ := distinct r hr
  have hv := okV_all hp hq (f_gapM n) hw3
  unfold okV at hv
  simp only [Bool.and_eq_true, decide_eq_true_eq, beq_iff_eq] at hv
  obtain ⟨⟨⟨⟨h1, h2⟩, h3⟩, h4⟩, h5⟩ := hv
  have ht := text_012 hab hac hbc p q (gapL (n / 12 % 5)) w hl.1
  have hwr := wri_eq ((n / 4 % 3 : Nat) : Int) _ h1
  have e0 := cnt_0 hab hac hbc w hl.1
  have e1 := cnt_1 hab hac hbc w hl.1
  have e2 := cnt_2 hab hac hbc w hl.1
  refine ⟨by rw [List.length_map, hl.2]; decide, by rw [ht]; exact h2, by rw [ht, hwr]; exact h3, fun hb => ?_⟩
  have hb' : bareV p w = true := by
    rw [← h4]
    unfold bareB at hb ⊢
    rw [ht] at hb; exact hb
  rw [hb'] at h5
  simp only [Bool.not_true, Bool.false_or, Bool.and_eq_true, decide_eq_true_eq, beq_iff_eq, Bool.or_eq_true, Bool.not_eq_true'] at h5
  rw [e0, e1, e2]
  refine ⟨h5.1.2, fun hm => ?_⟩
  have hm' : markV p q w = true := by
    rw [← h5.1.1, ← hwr, ← ht]; exact hm
  rcases h5.2 with h6 | h6
  · rw [hm'] at h6; cases h6
  · exact h6
theorem f_vals {w : List Nat} (hw3 : w ∈ all3) (bs : List Int) : wholeT bs (rA r) (rB r) (rC r) (w.map (L3 (rA r) (rB r) (rC r))) = turnsL oneW bs (cntL 0 1 2 w) ∧
    oneT bs p q (rA r) (rB r) (rC r) (gapL (n / 12 % 5)) (w.map (L3 (rA r) (rB r) (rC r))) = (if bareV p w = true then turnsL twoW bs (powL p q 0 1 2 w) else 0) ∧
    bothT bs (n / 4 % 3 : Nat) p q (rA r) (rB r) (rC r) (gapL (n / 12 % 5)) (w.map (L3 (rA r) (rB r) (rC r))) = (if (bareV p w && markV p q w) = true then turnsL sixW bs (powL p q 0 1 2 w) else 0) := by
  have hl := all3_lt w hw3
  obtain ⟨hab, hac, hbc⟩ := distinct r hr
  have hv := okV_all hp hq (f_gapM n) hw3
  unfold okV at hv
  simp only [Bool.and_eq_true, decide_eq_true_eq, beq_iff_eq] at hv
  obtain ⟨⟨⟨⟨h1, h2⟩, h3⟩, h4⟩, h5⟩ := hv
  have ht := text_012 hab hac hbc p q (gapL (n / 12 % 5)) w hl.1
  have hwr := wri_eq ((n / 4 % 3 : Nat) : Int) _ h1
  have hb : bareB p q (rA r) (rB r) (rC r) (gapL (n / 12 % 5)) (w.map (L3 (rA r) (rB r) (rC r))) = bareV p w := by
    rw [← h4]; unfold bareB; rw [ht]
  refine ⟨?_, ?_, ?_⟩
  · unfold wholeT; rw [cnt_012 hab hac hbc w hl.1]
  · unfold oneT; rw [hb, pow_012 hab hac hbc p q w hl.1]
  · unfold bothT
    rw [hb, pow_012 hab hac hbc p q w hl.1]
    cases hbv : bareV p w
    · simp
    · rw [hbv] at h5
      simp only [Bool.not_true, Bool.false_or, Bool.and_eq_true, beq_iff_eq] at h5
      have hm : markB (n / 4 % 3 : Nat) p q (rA r) (rB r) (rC r) (gapL (n / 12 % 5)) (w.map (L3 (rA r) (rB r) (rC r))) = markV p q w := by
        unfold markB; rw [ht, hwr]; exact h5.1.1
      rw [hm]; simp
theorem f_rules (x y z : Int) :
    turnsL twoW [x, y, z] (stL p q) * ((wsOf n r).map fun w => wholeT [x, y, z] (rA r) (rB r) (rC r) w).sum = ((wsOf n r).map fun w => oneT [x, y, z] p q (rA r) (rB r) (rC r) (gapL (n / 12 % 5)) w).sum ∧
    turnsL sixW [x, y, z] (stL p q) * ((wsOf n r).map fun w => wholeT [x, y, z] (rA r) (rB r) (rC r) w).sum = ((wsOf n r).map fun w => bothT [x, y, z] (n / 4 % 3 : Nat) p q (rA r) (rB r) (rC r) (gapL (n / 12 % 5)) w).sum := by
  rw [f_ws n hr, List.map_map, List.map_map, List.map_map]
  have h := rule_all hp hq (decide (n % 2 = 0)) (decide (n / 2 % 2 = 0)) x y z
  have e1 : (iw (decide (n % 2 = 0)) (decide (n / 2 % 2 = 0))).map ((fun w => wholeT [x, y, z] (rA r) (rB r) (rC r) w) ∘ List.map (L3 (rA r) (rB r) (rC r))) = (iw (decide (n % 2 = 0)) (decide (n / 2 % 2 = 0))).map fun w => turnsL oneW [x, y, z] (cntL 0 1 2 w) :=
    List.map_congr_left fun w hw => (f_vals n hp hq hr (iw_all3 _ _ w hw) [x, y, z]).1
  have e2 : (iw (decide (n % 2 = 0)) (decide (n / 2 % 2 = 0))).map ((fun w => oneT [x, y, z] p q (rA r) (rB r) (rC r) (gapL (n / 12 % 5)) w) ∘ List.map (L3 (rA r) (rB r) (rC r))) = (iw (decide (n % 2 = 0)) (decide (n / 2 % 2 = 0))).map fun w => if bareV p w = true then turnsL twoW [x, y, z] (powL p q 0 1 2 w) else 0 :=
    List.map_congr_left fun w hw => (f_vals n hp hq hr (iw_all3 _ _ w hw) [x, y, z]).2.1
  have e3 : (iw (decide (n % 2 = 0)) (decide (n / 2 % 2 = 0))).map ((fun w => bothT [x, y, z] (n / 4 % 3 : Nat) p q (rA r) (rB r) (rC r) (gapL (n / 12 % 5)) w) ∘ List.map (L3 (rA r) (rB r) (rC r))) = (iw (decide (n % 2 = 0)) (decide (n / 2 % 2 = 0))).map fun w => if (bareV p w && markV p q w) = true then turnsL sixW [x, y, z] (powL p q 0 1 2 w) else 0 :=
    List.map_congr_left fun w hw => (f_vals n hp hq hr (iw_all3 _ _ w hw) [x, y, z]).2.2
  rw [e1, e2, e3]
  exact h
end
end Mine
end

section
open PySem PySem.Calls PySem.W PyProof.Rows
namespace Mine
example (P : Params) : hd.heap_161 P = hd.heap_161 P ∧ PySem.Challenge.rw_wr0028_01 = PySem.Challenge.rw_wr0028_01 := by k_fill; exact ⟨rfl, rfl⟩
/-- a small number, as a value -/
noncomputable abbrev Sm (v : Value) : Prop := ∃ (c : Nat) (t : Tok), c < 1000000 ∧ v = .int (c : Int) t
noncomputable def valN : Value → Nat
  | .int n _ => n.toNat
  | _ => 0
noncomputable def valT : Value → Tok
  | .int _ t => t
  | _ => 0
theorem valS {v : Value} (h : Sm v) : v = .int (valN v : Nat) (valT v) ∧ valN v < 1000000 := by
  obtain ⟨c, t, hc, rfl⟩ := h
  exact ⟨rfl, hc⟩
theorem five {ys : List Value} (hl : ys.length = 5) (ha : ∀ v ∈ ys, Sm v) : ∃ c t : Nat → Nat, (∀ i, c i < 1000000) ∧ ys = [.int (c 0 : Nat) (t 0), .int (c 1 : Nat) (t 1), .int (c 2 : Nat) (t 2), .int (c 3 : Nat) (t 3), .int (c 4 : Nat) (t 4)] := by
  have hg : ∀ i (h : i < ys.length), ys[i] = .int (valN (ys.getD i .none) : Nat) (valT (ys.getD i .none)) := fun i h => by
    rw [List.getD_eq_getElem?_getD, List.getElem?_eq_getElem h]; exact (valS (ha _ (List.getElem_mem h))).1
  refine ⟨fun i => valN (ys.getD i .none), fun i => valT (ys.getD i .none), fun i => ?_, ?_⟩
  · show valN (ys.getD i .none) < 1000000
    by_cases h : i < ys.length
    · rw [List.getD_eq_getElem?_getD, List.getElem?_eq_getElem h]; exact (valS (ha _ (List.getElem_mem h))).2
    · rw [List.getD_eq_getElem?_getD, List.getElem?_eq_none (Nat.le_of_not_lt h)]; decide
  · refine List.ext_getElem (by rw [hl]; rfl) fun i h1 h2 => ?_
    rw [hg i h1]
    rw [hl] at h1
    rcases i with _ | _ | _ | _ | _ | i
    · rfl
    · rfl
    · rfl
    · rfl
    · rfl
    · exact absurd h1 (by walk_at "om")
noncomputable def stepB (bs : List Int) (c : Int) : List Int := bs ++ [bs.getD (bs.length - 1) 0 + 1 + c]
noncomputable abbrev pool : List Nat := [38, 60, 62, 34, 13, 10, 9, 38, 60]
theorem poolD (r : Nat) : (pool.drop r).length ≤ 1000 := by rw [List.length_drop]; exact Nat.le_trans (Nat.sub_le _ _) (by decide)
theorem poolL : ∀ r, r < 7 → (pool.drop r).take 3 = [pool.getD r 0, pool.getD (r + 1) 0, pool.getD (r + 2) 0] := by decide
/-- what a caller brings, the tokens apart -/
structure Cal0 (w : World) (mean : ExcName → Option Value) (mg mb : Str → Option Value) (dp un : Nat) (gd : Option (List Code)) (base : Heap) (outer : List Env) (s : Shared) : Prop where
  B : Below (arT dp un gd outer) base outer s.heap
  X : (hd.heap_161 w.params).In s.heap
  T : Top VW (looseW VW []) mean mg mb s.heap
  gs : AllBare s.gens
theorem Cal0.up {w : World} {mean : ExcName → Option Value} {mg mb : Str → Option Value} {dp un : Nat} {gd : Option (List Code)} {base : Heap} {outer : List Env} {s : Shared} (C : Cal0 w mean mg mb dp un gd base outer s) : Cal w mean mg mb dp un gd base outer { s with toks := s.toks + 1 } :=
  ⟨C.B, C.X, C.T, Nat.le_add_left _ _, C.gs⟩
section
variable {w : World} {mean : ExcName → Option Value} {mg mb : Str → Option Value} {dp un : Nat} {gd : Option (List Code)} {base : Heap} {outer : List Env} {s : Shared} {Q E : Value → Shared → Prop}
  {name qual : Str} {params : Arguments} {body : List Stmt} {scope : Scope} {dV kV doc pm cdv ct oc : Value} {an od : Option Addr} {osl : Array (Option Value)} {f : Addr} {args : List Value} {binds : List (Str × Value)}
theorem enterC0 (C : Cal0 w mean mg mb dp un gd base outer s)
    (ho : (hd.heap_161 w.params).lookup f = some ⟨oc, od, .func (fnOf name qual params body scope dV kV doc pm an cdv ct), osl⟩) (hcd : codeIn (hd.heap_161 w.params) cdv qual = true) (hroom : dp + 1 < recursionLimit)
    (hbind : bindArgs (fnOf name qual params body scope dV kV doc pm an cdv ct) ⟨args, []⟩ = pure binds)
    (hkind : ∀ x ∈ binds, scope.names.lookup x.1 = some .local ∨ (scope.names.lookup x.1 = some .cell ∧ ((csOf scope s.heap.objs.size).lookup x.1).isSome = true))
    (h : ∀ h₁ tk, s.toks ≤ tk → Fr s.heap s.heap.objs.size h₁ (bindL (envOfC qual scope s.heap.objs.size f cdv).kindOf binds fun _ => none) →
      Cl s.heap.objs.size (csOf scope s.heap.objs.size) h₁ (bindC (envOfC qual scope s.heap.objs.size f cdv).kindOf binds fun _ => none) →
      wpAny (model PP w) ((arT dp un gd outer).deeper (envOfC qual scope s.heap.objs.size f cdv)) (execs body (envOfC qual scope s.heap.objs.size f cdv))
        (fun fl s' => LeaveS Q (match fl with | .ret v => v | _ => .none) s')
        (fun e s' => wpAny (model PP w) ((arT dp un gd outer).deeper (envOfC qual scope s.heap.objs.size f cdv)) (leaving (envOfC qual scope s.heap.objs.size f cdv) e) (fun _ s'' => E e s'') (fun e' s'' => E e' s'') s')
        { s with heap := h₁, toks := tk })
    (hco : autoParam (scope.isCoroutine = false) aRfl) (hgen : autoParam (scope.isGenerator = false) aRfl) (hk : autoParam (scope.kind = .function) aRfl) :
    wpAny (model PP w) (arT dp un gd outer) (call (.ref f) args) Q E s := by
  refine wpAny_call (codeAny_call_function (fd := fnOf name qual params body scope dV kV doc pm an cdv ct) (body := body) (Nat.lt_of_succ_lt hroom) (C.X _ _ ho) rfl hco hgen rfl (codeRec_of C.X hcd) ?_)
  rw [hbind]
  refine wpAny_pure (wpAny_with_toks (Nat.le_refl _) (wpAny_newFunctionEnv_cells hk hkind fun env he s' x hle => ?_))
  subst he
  refine ⟨C.T.nolimit.keeps x.toInCall.keep, codeAny_func ?_⟩
  obtain ⟨h₁, tk, rfl, _⟩ := x.done
  exact h h₁ tk hle ⟨x.toInCall.ns, x.toInCall.keep, x.toInCall.fresh⟩ ⟨x.cell, x.apart, x.above⟩
end
theorem law0 {w : World} {s : Shared} (D : Addr) (vs : List Value) (ns : List Int) (hD : s.heap.IsList D vs.toArray) (hi : IntsAre vs ns) (hn : ns.length ≤ 63)
    (mean : ExcName → Option Value) (mg mb : Str → Option Value) (dp un : Nat) (gd : Option (List Code)) (base : Heap) (outer : List Env) (Q E : Value → Shared → Prop)
    (C : Cal0 w mean mg mb dp un gd base outer s) (hdp : dp + 8 < recursionLimit) (hu : un + 20 < cLine)
    (hret : ∀ (s' : Shared), Grew s s' → Q (.bool true) s') : wpAny (model PP w) (arT dp un gd outer) (call (.ref 122) [.ref D]) Q E s := by
  refine enterC0 (binds := [("script", .ref D)]) C (by k_is) (by k_is) (by walk_at "om") rfl ?_ (fun h₁ tk₁ htk₁ F X => ?_)
  · intro x hx
    simp only [List.mem_cons, List.not_mem_nil, or_false] at hx
    rcases hx with rfl
    exact .inr ⟨rfl, rfl⟩
  have hvs : vs.length ≤ 63 := by rw [hi.length]; exact hn
  -- cells
  refine wpAny_execs_cons (assignComp (cl := [("script", s.heap.objs.size + 1)]) rfl rfl (by decide) rfl (by decide) rfl rfl rfl F.ns ?_)
  refine Call_ (nmB F.keep C.X (topRead_of C.T) (by k_is) PyProof.Rows.boot_enumerate (by decide) ?_)
  refine PyProof.Rows.callWith_type1 (args_cons (Tuple_ (args_cons (wpAny_Constant_int (args_cons (wpAny_Constant_int (args_cons (wpAny_Constant_int (args_cons (wpAny_Constant_int (args_cons (wpAny_Constant_int (args_nil (wpAny_newTuple (args_nil ?_)))))))))))))))
  dsimp only
  refine enumCall (Src.tuple ⟨_, Heap.get?_push_size _ rfl, rfl, 0, rfl⟩) fun h2 St Mid hWk st0 hsz hk => ?_
  refine (hWk _ rfl).self 0 _ _ _ st0 ?_
  dsimp only at hsz hk
  refine ⟨_, _, _, 5, 0, _, _, fun i ys => ys.length = i ∧ ∀ v ∈ ys, Sm v, rfl, ⟨fun Cc => Drv.pair rfl (hWk _ rfl) rfl rfl rfl (by decide), fun s' Q' E' st h => (hWk _ rfl).self 0 _ _ _ st h, st0, ?_, ?_, Nat.zero_le _, C.gs, by decide, ⟨rfl, fun _ h => nomatch h⟩, ?_⟩, ?_, ?_, ?_, ?_, ?_, ?_⟩
  · have h2sz : h2.objs.size = h₁.objs.size + 3 := by rw [hsz, Heap.size_push]
    intro b hb
    simp only [List.mem_cons, List.not_mem_nil, or_false] at hb
    rw [Heap.size_push] at hb
    have hb' : @Eq Nat b _ ∨ @Eq Nat b _ ∨ @Eq Nat b _ := hb
    show @LT.lt Nat _ b h2.objs.size
    walk_at "om"
  · intro b hb
    simp only [List.mem_cons, List.not_mem_nil, or_false] at hb ⊢
    rcases hb with rfl | rfl <;> simp
  · rintro Cc i ys s₃ m₃ E' hC hi' ⟨v1, v2, ⟨tk1, rfl⟩, hv2, e1, e2⟩ hn3 hR ⟨hl, ha⟩
    have hd : ∃ d : Int, ∃ t, v2 = .int d t := by
      rcases i with _ | _ | _ | _ | _ | i
      · exact ⟨_, _, (Option.some.inj hv2).symm⟩
      · exact ⟨_, _, (Option.some.inj hv2).symm⟩
      · exact ⟨_, _, (Option.some.inj hv2).symm⟩
      · exact ⟨_, _, (Option.some.inj hv2).symm⟩
      · exact ⟨_, _, (Option.some.inj hv2).symm⟩
      · walk_at "om"
    obtain ⟨d, td, rfl⟩ := hd
    have kR : ∀ b o, h₁.get? b = some o → s₃.heap.get? b = some o := fun b o e => hR.keep b o (by
      have hb : @LT.lt Nat _ b h₁.objs.size := Heap.lt_size e
      simp only [List.mem_cons, List.not_mem_nil, or_false]
      rw [Heap.size_push]
      rintro (q | q) <;> (have q' : @Eq Nat _ _ := q; walk_at "om")) (hk b o (Heap.get?_push_of_some _ e))
    have F4 := Fr.more F kR
    have X4 := X.keeps kR
    have hD4 : s₃.heap.IsList D vs.toArray := hD.at fun o e => F4.keep _ o e
    refine wpAny_tests_nil ⟨Grew.rfl' hR.gs, ?_⟩
    rw [if_pos rfl]
    refine wpAny_BinOp (wpAny_BinOp (nmL hn3 e2 (Call_ ?_)))
    refine nmB F4.keep C.X (topRead_of C.T) (by k_is) PyProof.Rows.boot_sum (by decide) ?_
    refine PyProof.Rows.callWith_builtin1 (args_cons (Subscript_ (nmC X4 rfl (wpAny_Slice (evalPart_some_step (nmL hn3 e1 (evalPart_none_step (evalPart_some_step (wpAny_Constant_int ?_)))))) rfl)))
    refine sliceList hD4 (.int _ _) .none (.int _ _) (by decide) (by simp; walk_at "om") ?_
    have hpk := IntsAre.pick hi (some (i : Int)) none (some 5)
    refine args_nil (sumL rfl (vs := (slicePick vs.toArray (some (i : Int)) none (some 5)).toList) (by rw [Array.toArray_toList]; exact ⟨_, (show _ = some _ from (by rw [← Heap.size_push]; exact Heap.get?_push_size _ rfl)), rfl, 0, rfl⟩) hpk fun h5 tk5 t5 hk5 hle5 => ?_)
    refine add_int (wpAny_Constant_int (modI (by decide) fun c hc => ?_))
    dsimp only at hk5 hle5
    refine ⟨⟨fun b o e => hk5 b o (Heap.get?_push_of_some _ (Heap.get?_push_of_some _ e)), by dsimp only; walk_at "om", hR.gs, rfl⟩, by simp [hl], fun v hv => ?_⟩
    rcases List.mem_append.mp hv with hv | hv
    · exact ha v hv
    · rw [List.mem_singleton.mp hv]; exact ⟨c, _, hc, rfl⟩
  · intro b hb
    simp only [List.mem_cons, List.not_mem_nil, or_false] at hb
    rw [Heap.size_push] at hb
    have hb' : @Eq Nat b _ ∨ @Eq Nat b _ := hb
    show @LE.le Nat _ h₁.objs.size b
    walk_at "om"
  · exact fun b o e => hk b o (Heap.get?_push_of_some _ e)
  · dsimp only; walk_at "om"
  · rfl
  · show h₁.objs.size ≤ h2.objs.size
    rw [hsz, Heap.size_push]; walk_at "om"
  rintro D1 s₂ ys hD1 hn2 hP2 ⟨hyl, hya⟩ hk2 hle2 hgs2 hos2
  refine ex2 (five hyl hya) fun c t hct => ?_
  have hc := hct.1
  have hys := hct.2
  clear hct hyl hya
  subst hys
  have F2 : Fr s.heap s.heap.objs.size s₂.heap _ := ⟨hn2, fun b o e => hk2 b o (Nat.ne_of_lt (Heap.lt_size e)) (F.keep b o e), Nat.le_refl _⟩
  have X2 := Cl.keepL X hk2
  have hL2 : s.heap.objs.size ≠ D1 := Fr.neL F2 hP2.isList
  have hcD1 : ∀ n c', (csOf _ s.heap.objs.size).lookup n = some c' → c' < D1 := fun n c' e => Nat.lt_of_lt_of_le (X.cell n c' e).lt hD1
  have hle2' : s.toks ≤ s₂.toks := Nat.le_trans htk₁ hle2
  have hos2' : s₂.os = s.os := hos2
  clear hle2 hos2
  -- bases
  refine wpAny_execs_cons (wpAny_Assign_Name (List_ (args_cons (wpAny_BinOp (wpAny_Constant_int (wpAny_BinOp (Subscript_ (ldLoc F2 rfl (wpAny_Constant_int ?_)))))))))
  refine item_list (x := .int (c 0 : Nat) (t 0)) hP2.isList (by decide) (by decide) rfl ?_
  refine wpAny_Constant_int (modN (b := 1000) (by decide) (add_int (args_nil (wpAny_newList ?_))))
  dsimp only
  refine stLk (F2.push _) (X2.keeps fun b o e => Heap.get?_push_of_some _ e) fun h₃ F3 X3 k3 => ?_
  have hL3 : s.heap.objs.size < s₂.heap.objs.size := F2.ns.lt
  have hD12 : D1 < s₂.heap.objs.size := plainLt hP2
  have hB3 : h₃.PlainList s₂.heap.objs.size (List.toArray [.int (1 + (c 0 % 1000 : Nat)) _]) := ⟨0, (k3.2 _ (Nat.ne_of_gt hL3)).trans (Heap.get?_push_size _ rfl)⟩
  have hP3 : h₃.PlainList D1 _ := hP2.at fun o e => (k3.2 _ hL2.symm).trans (Heap.get?_push_of_some _ e)
  refine wpAny_execs_cons (wpAny_For (Subscript_ (ldLoc F3 rfl (wpAny_Slice (evalPart_some_step (wpAny_Constant_int (evalPart_some_step (wpAny_Constant_int (evalPart_none_step ?_)))))))))
  refine sliceList hP3.isList (.int _ _) (.int _ _) .none (by decide) (show 5 ≤ 1000 by decide) ?_
  have esl : slicePick (List.toArray [.int (c 0 : Nat) (t 0), .int (c 1 : Nat) (t 1), .int (c 2 : Nat) (t 2), .int (c 3 : Nat) (t 3), .int (c 4 : Nat) (t 4)]) (some 1) (some 3) none = #[.int (c 1 : Nat) (t 1), .int (c 2 : Nat) (t 2)] := rfl
  dsimp only
  rw [esl]
  have hz1 : ∀ o1 o2 : Obj, ((h₃.push o1).push o2).objs.size = h₃.objs.size + 2 := fun o1 o2 => by rw [Heap.size_push, Heap.size_push]
  have k35 : ∀ (o1 o2 o3 : Obj) b o, h₃.get? b = some o → (((h₃.push o1).push o2).push o3).get? b = some o := fun o1 o2 o3 b o e => Heap.get?_push_of_some _ (Heap.get?_push_of_some _ (Heap.get?_push_of_some _ e))
  refine wpAny_pyIter_list (items := #[.int (c 1 : Nat) (t 1), .int (c 2 : Nat) (t 2)]) ⟨_, (show _ = some _ from by rw [← Heap.size_push]; exact Heap.get?_push_size _ rfl), rfl, 0, rfl⟩ ?_
  rw [hz1]
  have hD13 : D1 < h₃.objs.size := plainLt hP3
  have hDB3 : s₂.heap.objs.size < h₃.objs.size := plainLt hB3
  have hL33 : s.heap.objs.size < h₃.objs.size := F3.ns.lt
  refine forN (Wk.of (k := 0) (Walks.list rfl (h₃.objs.size + 2) (h₃.objs.size + 1) (Nat.ne_of_lt (Nat.lt_succ_self _)) #[.int (c 1 : Nat) (t 1), .int (c 2 : Nat) (t 2)]))
    (fun i s' => ∃ m cm vb bs, Fr s.heap s.heap.objs.size s'.heap m ∧ Cl s.heap.objs.size _ s'.heap cm ∧ m "cells" = some (.ref D1) ∧ m "bases" = some (.ref s₂.heap.objs.size) ∧ s'.heap.PlainList D1 (List.toArray [.int (c 0 : Nat) (t 0), .int (c 1 : Nat) (t 1), .int (c 2 : Nat) (t 2), .int (c 3 : Nat) (t 3), .int (c 4 : Nat) (t 4)]) ∧ s'.heap.PlainList s₂.heap.objs.size (List.toArray vb) ∧ IntsAre vb bs ∧
      bs.length = i + 1 ∧ bs = ([(c 1 % 1000 : Nat), (c 2 % 1000 : Nat)].take i).foldl (fun b k => stepB b (k : Nat)) [1 + (c 0 % 1000 : Nat)] ∧ s.toks ≤ s'.toks ∧ AllBare s'.gens ∧ s'.os = s.os)
    ⟨_, _, _, _, Fr.more F3 (k35 _ _ _), X3.keeps (k35 _ _ _), rfl, rfl, hP3.at fun o e => k35 _ _ _ _ o e, hB3.at fun o e => k35 _ _ _ _ o e, .cons _ _ .nil, rfl, rfl, by dsimp only; walk_at "om", hgs2, hos2'⟩
    ⟨⟨_, (show _ = some _ from by rw [← hz1]; exact Heap.get?_push_size _ rfl), rfl, rfl⟩, ⟨_, Heap.get?_push_of_some _ (show _ = some _ from by rw [← Heap.size_push]; exact Heap.get?_push_size _ rfl), rfl, 0, rfl⟩⟩ ?_ ?_ ?_ ?_
  · exact fun i s' _ => Nat.zero_le _
  · rintro i s' h' tk hINV hk hle
    refine ex4 hINV fun m cm vb bs hINVa => ?_
    clear hINV
    refine and12 hINVa fun F' X' e1 e2 e3 e4 e5 e6 e7 e8 e9 e10 => ?_
    clear hINVa
    have hw : ∀ b ∈ [h₃.objs.size + 2], h₃.objs.size ≤ b := by simp
    have hne : ∀ b, b < h₃.objs.size → b ∉ [h₃.objs.size + 2] := fun b hb hm => by
      have hm' : @Eq Nat b (h₃.objs.size + 2) := List.mem_singleton.mp hm
      have hb' : @LT.lt Nat _ b h₃.objs.size := hb
      walk_at "om"
    exact ⟨m, cm, vb, bs, Fr.stepNew F3 F' hw hk, Cl.stepNew X3 X' hw hk, e1, e2, e3.at fun o e => hk _ o (hne _ hD13) e, e4.at fun o e => hk _ o (hne _ hDB3) e, e5, e6, e7, Nat.le_trans e8 hle, e9, e10⟩
  · rintro i v s' E' hi' hv hINV hst
    refine ex4 hINV fun m cm vb bs hINVa => ?_
    clear hINV
    refine and12 hINVa fun F' X' e1 e2 e3 e4 e5 e6 e7 e8 e9 e10 => ?_
    clear hINVa
    have hcv : ∃ k : Nat, ∃ tk, v = .int (k : Nat) tk ∧ ([(c 1 % 1000 : Nat), (c 2 % 1000 : Nat)])[i]? = some (k % 1000) := by
      rcases i with _ | _ | i
      · exact ⟨c 1, _, (Option.some.inj hv).symm, rfl⟩
      · exact ⟨c 2, _, (Option.some.inj hv).symm, rfl⟩
      · exact absurd hi' (by simp)
    obtain ⟨k, tk, rfl, hk⟩ := hcv
    refine stLk F' X' fun h5 F5 X5 k5 => ?_
    have hB5 : h5.PlainList s₂.heap.objs.size (List.toArray vb) := e4.at fun o e => (k5.2 _ (Nat.ne_of_gt hL3)).trans e
    refine wpAny_execs_cons (app_listG (fun Q h => ldLoc F5 e2 h) hB5 (wpAny_BinOp (wpAny_BinOp (Subscript_ (ldLoc F5 e2 (UnaryOp_ (wpAny_Constant_int (P.neg_int ?_))))))))
    refine item_list_ints_neg hB5.isList e5 (by decide) (by rw [e6]; walk_at "om") (by decide) fun t6 => ?_
    refine wpAny_Constant_int (add_int (wpAny_BinOp (ldLoc F5 rfl (wpAny_Constant_int (modN (b := 1000) (by decide) (add_int ?_))))))
    have hvl : vb.length ≤ 10 := by have h1 : i < 2 := hi'; rw [e5.length, e6]; walk_at "om"
    refine ⟨vb.toArray, hB5, by rw [sizeLine_eq]; simp; walk_at "om", fun h7 hB7 k7 => wpAny_execs_nil ?_⟩
    have hLB : s₂.heap.objs.size ≠ s.heap.objs.size := Nat.ne_of_gt hL3
    have k57 : ∀ b o, b ≠ s.heap.objs.size → b ≠ s₂.heap.objs.size → s'.heap.get? b = some o → h7.get? b = some o := fun b o h1 h2 e => (k7.2 b h2).trans ((k5.2 b h1).trans e)
    have hIL : @Ne Nat (h₃.objs.size + 2) s.heap.objs.size := by have h1 : @LT.lt Nat _ s.heap.objs.size h₃.objs.size := hL33; walk_at "om"
    have hIB : @Ne Nat (h₃.objs.size + 2) s₂.heap.objs.size := by have h1 : @LT.lt Nat _ s₂.heap.objs.size h₃.objs.size := hDB3; walk_at "om"
    have hlL : @Ne Nat (h₃.objs.size + 1) s.heap.objs.size := by have h1 : @LT.lt Nat _ s.heap.objs.size h₃.objs.size := hL33; walk_at "om"
    have hlB : @Ne Nat (h₃.objs.size + 1) s₂.heap.objs.size := by have h1 : @LT.lt Nat _ s₂.heap.objs.size h₃.objs.size := hDB3; walk_at "om"
    refine ⟨⟨_, cm, vb ++ [_], stepB bs (k % 1000 : Nat), ⟨F5.ns.at' fun o e => (k7.2 _ hLB.symm).trans e, fun b o e => (k7.2 b (Nat.ne_of_lt (Nat.lt_trans (Heap.lt_size e) hL3))).trans (F5.keep b o e), F5.above⟩,
      ⟨fun n c' e => let ⟨o, ho, hd⟩ := X5.cell n c' e; ⟨o, (k7.2 _ (Nat.ne_of_lt (Nat.lt_trans (hcD1 n c' e) hD12))).trans ho, hd⟩, X5.apart, X5.above⟩, e1, e2, e3.at fun o e => k57 _ o hL2.symm (Nat.ne_of_lt hD12) e, by simpa using hB7, ?_, ?_, ?_, by dsimp only; walk_at "om", e9, e10⟩,
      hst.1.at fun o e => k57 _ o hIL hIB e, hst.2.at fun o e => k57 _ o hlL hlB e⟩
    · have he : bs.getD ((-1 : Int) + (bs.length : Nat)).toNat 0 = bs.getD (bs.length - 1) 0 := by rw [show ((-1 : Int) + (bs.length : Nat)).toNat = bs.length - 1 by walk_at "om"]
      unfold stepB
      rw [← he]
      exact IntsAre.append e5 (.cons _ _ .nil)
    · unfold stepB; rw [List.length_append, e6]; rfl
    · rw [List.take_add_one, hk, List.foldl_append, ← e7]; rfl
  · rintro s' E' hINV
    refine ex4 hINV fun m cm vb bs hINVa => ?_
    clear hINV
    refine and12 hINVa fun F' X' e1 e2 e3 e4 e5 e6 e7 e8 e9 e10 => ?_
    clear hINVa
    have hbs : bs = [((1 + c 0 % 1000 : Nat) : Int), ((1 + c 0 % 1000 + 1 + c 1 % 1000 : Nat) : Int), ((1 + c 0 % 1000 + 1 + c 1 % 1000 + 1 + c 2 % 1000 : Nat) : Int)] := by
      rw [e7]; simp [stepB]
    clear e7 e6
    subst hbs
    refine wpAny_execs_nil ?_
    -- p, q, n
    refine wpAny_execs_cons (Assign_Tuple_swapped (Tuple_ (args_cons (wpAny_BinOp (Subscript_ (ldLoc F' e1 (wpAny_Constant_int ?_)))))))
    refine item_list (x := .int (c 3 : Nat) (t 3)) e3.isList (by decide) (by decide) rfl ?_
    refine wpAny_Constant_int (modN (b := 2) (by decide) ?_)
    refine args_cons (wpAny_BinOp (wpAny_BinOp (Subscript_ (ldLoc F' e1 (wpAny_Constant_int ?_)))))
    refine item_list (x := .int (c 3 : Nat) (t 3)) e3.isList (by decide) (by decide) rfl ?_
    refine wpAny_Constant_int (divN (b := 2) (by decide) (by decide) (wpAny_Constant_int (modN (b := 2) (by decide) ?_)))
    refine args_cons (Subscript_ (ldLoc F' e1 (wpAny_Constant_int ?_)))
    refine item_list (x := .int (c 4 : Nat) (t 4)) e3.isList (by decide) (by decide) rfl ?_
    refine args_nil (wpAny_newTuple ?_)
    refine unpackItems_tuple (items := #[_, _, _]) rfl ⟨_, Heap.get?_push_size _ rfl, rfl, 0, rfl⟩ fun h₄ he => ?_
    dsimp only at he
    have k4 : ∀ b o, s'.heap.get? b = some o → h₄.get? b = some o := fun b o e => he b o (by rw [Heap.size_push]; exact Nat.ne_of_lt (Nat.lt_succ_of_lt (Heap.lt_size e))) (Heap.get?_push_of_some _ e)
    refine assignInOrder_cons (bindName_ (stLk (Fr.more F' (h' := h₄) k4) (X'.keeps k4) fun h₅ F5 X5 k5 => ?_))
    refine assignInOrder_cons (bindName_ (stLk F5 X5 fun h₆ F6 X6 k6 => ?_))
    refine assignInOrder_cons (bindName_ (stLk F6 X6 fun h₇ F7 X7 k7 => assignInOrder_nil ?_))
    dsimp only at k5 k6 k7
    have k37 : ∀ b o, b ≠ s.heap.objs.size → s'.heap.get? b = some o → h₇.get? b = some o := fun b o hb e => (k7.2 b hb).trans ((k6.2 b hb).trans ((k5.2 b hb).trans (k4 b o e)))
    have hB7 : h₇.PlainList s₂.heap.objs.size (List.toArray vb) := e4.at fun o e => k37 _ o (Nat.ne_of_gt hL3) e
    have hr7 : c 3 / 4 % 7 < 7 := by walk_at "om"
    -- letters
    have hP7 : h₇.PlainList D1 _ := e3.at fun o e => k37 _ o hL2.symm e
    refine wpAny_execs_cons (wpAny_Assign_Name (Subscript_ (Subscript_ (Calls.Constant_str (wpAny_Slice (evalPart_some_step (wpAny_BinOp (wpAny_BinOp (Subscript_ (ldLoc F7 e1 (wpAny_Constant_int ?_)))))))))))
    refine item_list (x := .int (c 3 : Nat) (t 3)) hP7.isList (by decide) (by decide) rfl ?_
    refine wpAny_Constant_int (divN (b := 4) (by decide) (by decide) (wpAny_Constant_int (modN (b := 7) (by decide) (evalPart_none_step (evalPart_none_step ?_)))))
    refine strFrom (l := pool) (by decide) fun h₈ t8 tk8 k8 hle8 => ?_
    refine wpAny_Slice (evalPart_none_step (evalPart_some_step (wpAny_Constant_int (evalPart_none_step ?_))))
    refine strUpto (i := 3) (l := pool.drop (c 3 / 4 % 7)) (poolL _ hr7) (poolD _) (fun h₉ t9 tk9 k9 hle9 => ?_) subSl letSub
    dsimp only at k8 k9 hle8 hle9
    have k79 : ∀ b o, h₇.get? b = some o → h₉.get? b = some o := fun b o e => k9 b o (k8 b o e)
    refine stLk (Fr.more F7 (h' := h₉) k79) (X7.keeps k79) fun h₁₀ F10 X10 k10 => ?_
    -- which
    refine wpAny_execs_cons (wpAny_Assign_Name (wpAny_BinOp (wpAny_BinOp (ldLoc F10 rfl (wpAny_Constant_int (divN (b := 4) (by decide) (by decide) (wpAny_Constant_int (modN (b := 3) (by decide) ?_))))))))
    refine stLk F10 X10 fun h₁₁ F11 X11 k11 => ?_
    -- gap
    refine wpAny_execs_cons (wpAny_Assign_Name (Subscript_ (Tuple_ (args_cons (Calls.Constant_str (args_cons (Calls.Constant_str (args_cons (Calls.Constant_str (args_cons (Calls.Constant_str (args_cons (Calls.Constant_str (args_nil (wpAny_newTuple ?_)))))))))))))))
    refine wpAny_BinOp (wpAny_BinOp (ldLoc (F11.push _) rfl (wpAny_Constant_int (divN (b := 12) (by decide) (by decide) (wpAny_Constant_int (modN (b := 5) (by decide) ?_))))))
    refine gapItem (t0 := _) (t1 := _) (t2 := _) (t3 := _) (t4 := _) ⟨_, Heap.get?_push_size _ rfl, rfl, 0, rfl⟩ (Nat.mod_lt _ (by decide)) (fun tg => ?_) rfl
    refine stLk (F11.push _) (X11.keeps fun b o e => Heap.get?_push_of_some _ e) fun h₁₂ F12 X12 k12 => ?_
    dsimp only at k10 k11 k12
    have k712 : ∀ b o, b ≠ s.heap.objs.size → h₇.get? b = some o → h₁₂.get? b = some o := fun b o hb e => (k12.2 b hb).trans (Heap.get?_push_of_some _ ((k11.2 b hb).trans ((k10.2 b hb).trans (k79 b o e))))
    have h2 := getBody (w := w) (by k_is)
    have hp1 : c 3 % 2 ≤ 1 := Nat.le_of_lt_succ (Nat.mod_lt _ (by decide))
    have hq1 : c 3 / 2 % 2 ≤ 1 := Nat.le_of_lt_succ (Nat.mod_lt _ (by decide))
    have hm0 := Nat.mod_lt (c 0) (show 0 < 1000 by decide)
    have hm1 := Nat.mod_lt (c 1) (show 0 < 1000 by decide)
    have hm2 := Nat.mod_lt (c 2) (show 0 < 1000 by decide)
    have hx0 : 1 + c 0 % 1000 < 4096 := by walk_at "om"
    have hx1 : 1 + c 0 % 1000 + 1 + c 1 % 1000 < 4096 := by walk_at "om"
    have hx2 : 1 + c 0 % 1000 + 1 + c 1 % 1000 + 1 + c 2 % 1000 < 4096 := by walk_at "om"
    have hB12 : h₁₂.PlainList s₂.heap.objs.size (List.toArray vb) := hB7.at fun o e => k712 _ o (Nat.ne_of_gt hL3) e
    have hR := f_rules (c 4) hp1 hq1 hr7 ((1 + c 0 % 1000 : Nat) : Int) ((1 + c 0 % 1000 + 1 + c 1 % 1000 : Nat) : Int) ((1 + c 0 % 1000 + 1 + c 1 % 1000 + 1 + c 2 % 1000 : Nat) : Int)
    have T := fun (tk : Nat) (htk' : s.toks + 1 ≤ tk) (Q'' : Flow → Shared → Prop) (E'' : Value → Shared → Prop) (hr' : ∀ s'', Grew { s with toks := s.toks + 1 } s'' → Q'' (.ret (.bool true)) s'') =>
      law2 (s := { s with toks := s.toks + 1 }) (s' := { s' with heap := h₁₂, toks := tk }) (Q' := Q'') (E' := E'') (p := c 3 % 2) (q := c 3 / 2 % 2) (n := c 4) (a := rA (c 3 / 4 % 7)) (b := rB (c 3 / 4 % 7)) (c := rC (c 3 / 4 % 7)) (g := gapL (c 4 / 12 % 5))
        h2 C.up hdp hu F12 X12 e2 rfl rfl rfl rfl rfl rfl hB12 e5 htk' e9 e10 (f_ok (c 4) hr7) (f_row (c 4) hr7) (f_len (c 4) hr7) hp1 hq1 (f_gap (c 4)) (f_chk (c 4) hp1) hx0 hx1 hx2 (f_okT (c 4) hp1 hq1 hr7) hR.1 hR.2 hr'
    refine T _ ?_ _ _ fun s'' G => ?_
    · dsimp only
      refine Nat.succ_le_succ (Nat.le_trans e8 (Nat.le_trans (Nat.le_trans (Nat.le_trans ?_ hle8) (Nat.le_of_succ_le hle9)) ?_))
      · repeat (first | exact Nat.le_refl _ | refine Nat.le_add_right_of_le ?_)
      · repeat (first | exact Nat.le_refl _ | refine Nat.le_add_right_of_le ?_)
    · exact hret s'' ⟨G.keep, Nat.le_of_succ_le G.tk, G.gs, G.os⟩
end Mine
end

section
open PySem PySem.W PySem.W.X PySem.W.ZRun PyProof.Rows
theorem PySem.Challenge.cw_wr0028_01_holds : PySem.Challenge.rw_wr0028_01.Holds := by
  refine Mine.hd ?_
  k_fill
  intro w s₀ s₁ mg mb G y fa o pm cd doc dV kV ho hd hcd hD hmg hg args vals as L hpre hlay hrd hwl hlo
  have KX : (Mine.hd.heap_161 w.params).In s₁.heap := InK.keeps w s₀.heap s₁.heap (z_facts (K := Mine.hd.heap_161) (by intro P; rfl) y).2.1 L.keeps
  refine Ground.open G ?_
  intro T B D TE TW
  wrow_args hpre hlay hrd hwl hlo
  x_fa T KX hmg
  rename_i ns _ _ _ _ _ _ _ l vs _ hL _ _ _ hI _ h63 _
  refine Mine.law0 l vs ns hL hI (by omega) (ExcName.means s₀.heap) mg mb (1 + claimMargin) 4 (some []) s₁.heap [] _ _ ⟨below_caller _, KX, T, AllBare.of_eq hg⟩ (by decide) (by decide) fun s' G' => ?_
  refine ⟨.inl ⟨.bool true, .bool true, [], rfl, fun cls => rfl, .bool true, ?_, unshared_nil⟩, .of_keep G'.keep, G'.os, G'.gs⟩
  wrow_post
end
