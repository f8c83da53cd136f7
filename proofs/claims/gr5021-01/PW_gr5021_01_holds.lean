import PyProof.Rows.All
import Wide.All
import OpenK.AllK
import Wide.FinOn
import PySem.Challenge.RW_gr5021_01
set_option Elab.async false
set_option linter.all false
section
open PySem PySem.W PyProof.Rows
set_option maxRecDepth 100000
set_option maxHeartbeats 0
namespace Mine
open_top hd for PySem.Challenge.rw_gr5021_01
theorem plainly : True := by
  w_top off
  trivial
end Mine
end
section
set_option maxRecDepth 100000
set_option maxHeartbeats 4000000
open PySem PySem.W PyProof.Rows
namespace Mine
theorem fill : PySem.Challenge.rw_gr5021_01.row.prog = PySem.Challenge.rw_gr5021_01.row.prog ∧ ∀ P, hd.heap_39 P = hd.heap_39 P := by
  k_fill
  exact ⟨rfl, fun _ => rfl⟩
abbrev M (w : World) : Model := model PySem.Challenge.rw_gr5021_01.row.prog w
abbrev AX : Around := {depth := 500, units := 5000}

structure Sm (k : Nat) (A : Around) : Prop where
  handled : A.handled = none
  depth : A.depth + 10 * k ≤ 500
  units : A.units + 100 * k ≤ 5000
theorem Sm.lower {k j : Nat} {A : Around} (h : Sm k A) (hj : j ≤ k) : Sm j A := ⟨h.handled, by have := h.depth; omega, by have := h.units; omega⟩
theorem Sm.deeper {k : Nat} {A : Around} {env : Env} (h : Sm (k + 1) A) : Sm k (A.deeper env) :=
  ⟨h.handled, by have := h.depth; show A.depth + 1 + 10 * k ≤ 500; omega, by have := h.units; show A.units + 3 + 100 * k ≤ 5000; omega⟩
theorem Sm.in1 {k : Nat} {A : Around} (h : Sm (k + 1) A) : Sm k A.in1 :=
  ⟨h.handled, by have := h.depth; show A.depth + 10 * k ≤ 500; omega, by have := h.units; show A.units + 1 + 100 * k ≤ 5000; omega⟩
theorem Sm.room {k : Nat} {A : Around} (h : Sm k A) : A.depth < recursionLimit := by have := h.depth; show A.depth < 1000; omega
theorem Sm.cl {k : Nat} {A : Around} (h : Sm k A) : A.units < cLine := by have := h.units; show A.units < 9900; omega

theorem wp_of_AX {α : Type} {Md : Model} {A : Around} {t : Sem α} {Q : α → Shared → Prop} {E : Value → Shared → Prop} {s : Shared} (h : wpAny Md AX t Q E s) (hA : Sm 0 A) : wpAny Md A t Q E s :=
  fun Γ p hΓ => h Γ p ⟨hΓ.1.trans hA.handled, Nat.le_trans hΓ.2.1 (by have := hA.depth; show A.depth ≤ 500; omega), fun _ e => (nomatch e), fun _ e => (nomatch e), Nat.le_trans hΓ.2.2.2.2 (by have := hA.units; show A.units ≤ 5000; omega)⟩

/-- what a call may change: it makes objects, draws tokens, leaves its generators bare -/
def Kp (s s' : Shared) : Prop := ∃ h' tk g', s' = ⟨h', g', s.drawn, tk, s.os⟩ ∧ (∀ b o, s.heap.get? b = some o → h'.get? b = some o) ∧ (AllBare s.gens → AllBare g')
theorem Kp.refl (s : Shared) : Kp s s := ⟨s.heap, s.toks, s.gens, rfl, fun _ _ e => e, id⟩
theorem Kp.trans {a b c : Shared} (x : Kp a b) (y : Kp b c) : Kp a c := by
  obtain ⟨h1, t1, g1, rfl, k1, b1⟩ := x
  obtain ⟨h2, t2, g2, rfl, k2, b2⟩ := y
  exact ⟨h2, t2, g2, rfl, fun b o e => k2 b o (k1 b o e), fun h => b2 (b1 h)⟩
theorem Kp.keep {s s' : Shared} (x : Kp s s') : ∀ b o, s.heap.get? b = some o → s'.heap.get? b = some o := by
  obtain ⟨h1, t1, g1, rfl, k1, b1⟩ := x
  exact k1
theorem Kp.heap {s : Shared} {h' : Heap} {tk : Nat} (k : ∀ b o, s.heap.get? b = some o → h'.get? b = some o) : Kp s { s with heap := h', toks := tk } := ⟨h', tk, s.gens, rfl, k, id⟩

theorem Kp.toks {a b : Shared} {t : Nat} (x : Kp a b) : Kp a { b with toks := t } := x.trans (Kp.heap fun _ _ e => e)
def Gv {α : Type} (w : World) (A : Around) (t : Sem α) (P : α → Shared → Prop) (s : Shared) : Prop := wpAny (M w) A t (fun v s' => Kp s s' ∧ P v s') (fun _ _ => False) s
theorem Gv.use {α : Type} {w : World} {A : Around} {t : Sem α} {P : α → Shared → Prop} {s : Shared} {Q : α → Shared → Prop} {E : Value → Shared → Prop} (h : Gv w A t P s) (hq : ∀ v s', Kp s s' → P v s' → Q v s') : wpAny (M w) A t Q E s :=
  wpAny_mono h (fun v s' x => hq v s' x.1 x.2) (fun _ _ x => x.elim)

/-- some frame is at hand -/
def Frm (w : World) (h : Heap) : Prop := ∃ h₀ L m, Fr h₀ L h m ∧ (hd.heap_39 w.params).In h₀
theorem Frm.keep {w : World} {h h' : Heap} (c : Frm w h) (k : ∀ b o, h.get? b = some o → h'.get? b = some o) : Frm w h' := by
  obtain ⟨h₀, L, m, F, X⟩ := c
  exact ⟨h₀, L, m, F.keeps k, X⟩
/-- the facts of the top that stand in every heap of the call -/
structure Cx (w : World) (h : Heap) : Prop where
  B : Frm w h
  X : (hd.heap_39 w.params).In h
  T : ∃ mean mg mb, Top hd.view_39 (looseW hd.view_39 [Str.ofString "PyAsn1Error", Str.ofString "Tag", Str.ofString "TagSet"]) mean mg mb h
theorem Cx.keep {w : World} {h h' : Heap} (c : Cx w h) (k : ∀ b o, h.get? b = some o → h'.get? b = some o) : Cx w h' :=
  ⟨c.B.keep k, c.X.keeps k, by obtain ⟨a, b, d, T⟩ := c.T; exact ⟨a, b, d, T.keeps k⟩⟩
theorem Cx.nolimit {w : World} {h : Heap} (c : Cx w h) : h.NoLimit := by obtain ⟨a, b, d, T⟩ := c.T; exact T.nolimit

theorem code_fn {w : World} {A : Around} {s : Shared} {f : Addr} {oc : Value} {od : Option Addr} {osl : Array (Option Value)} {name qual : Str} {params : Arguments} {body : List Stmt} {scope : Scope} {dV kV doc pm cdv ct : Value} {an : Option Addr}
    {args : List Value} {binds : List (Str × Value)} {P : Value → Shared → Prop} {k : Nat}
    (C : Cx w s.heap) (hA : Sm (k + 1) A) (ho : (hd.heap_39 w.params).lookup f = some ⟨oc, od, .func (fnOf name qual params body scope dV kV doc pm an cdv ct), osl⟩) (hcd : codeIn (hd.heap_39 w.params) cdv qual = true)
    (hbind : BindsTo s (fnOf name qual params body scope dV kV doc pm an cdv ct) ⟨args, []⟩ binds) (hloc : ∀ y ∈ binds, scope.names.lookup y.1 = some .local) (hcell : ∀ x ∈ scope.names, x.2 ≠ .cell)
    (hco : scope.isCoroutine = false) (hgen : scope.isGenerator = false) (hk : scope.kind = .function)
    (h : ∀ L s₁, Kp s s₁ → Fr s.heap L s₁.heap (fun y => binds.reverse.lookup y) → Sm k (A.deeper (envOf qual scope L f cdv)) →
      wpAny (M w) (A.deeper (envOf qual scope L f cdv)) (execs body (envOf qual scope L f cdv))
        (fun fl s' => Kp s s' ∧ P (match fl with | .ret v => v | _ => .none) s') (fun _ _ => False) s₁) :
    codeAny (M w) A (.call (.ref f) ⟨args, []⟩) (fun r s' => match r with | .ok (.ret v) => Kp s s' ∧ P v s' | _ => False) s := by
  refine codeAny_call_def (fd := fnOf name qual params body scope dV kV doc pm an cdv ct) (body := body) (binds := binds) hA.room (C.X _ _ ho) rfl C.nolimit (codeRec_of C.X hcd) rfl hbind hcell hloc (fun h₁ hns hk₁ => ?_) hco hgen hk
  exact wpAny_mono (h _ _ (Kp.heap hk₁) ⟨hns, hk₁, Nat.le_refl _⟩ hA.deeper) (fun fl s' hl => hl) fun _ _ x => x.elim
theorem call_fn {w : World} {A : Around} {s : Shared} {f : Addr} {oc : Value} {od : Option Addr} {osl : Array (Option Value)} {name qual : Str} {params : Arguments} {body : List Stmt} {scope : Scope} {dV kV doc pm cdv ct : Value} {an : Option Addr}
    {args : List Value} {binds : List (Str × Value)} {P : Value → Shared → Prop} {k : Nat}
    (C : Cx w s.heap) (hA : Sm (k + 1) A) (ho : (hd.heap_39 w.params).lookup f = some ⟨oc, od, .func (fnOf name qual params body scope dV kV doc pm an cdv ct), osl⟩) (hcd : codeIn (hd.heap_39 w.params) cdv qual = true)
    (hbind : BindsTo s (fnOf name qual params body scope dV kV doc pm an cdv ct) ⟨args, []⟩ binds) (hloc : ∀ y ∈ binds, scope.names.lookup y.1 = some .local) (hcell : ∀ x ∈ scope.names, x.2 ≠ .cell)
    (hco : scope.isCoroutine = false) (hgen : scope.isGenerator = false) (hk : scope.kind = .function)
    (h : ∀ L s₁, Kp s s₁ → Fr s.heap L s₁.heap (fun y => binds.reverse.lookup y) → Sm k (A.deeper (envOf qual scope L f cdv)) →
      wpAny (M w) (A.deeper (envOf qual scope L f cdv)) (execs body (envOf qual scope L f cdv))
        (fun fl s' => Kp s s' ∧ P (match fl with | .ret v => v | _ => .none) s') (fun _ _ => False) s₁) :
    Gv w A (call (.ref f) args) P s :=
  wpAny_call (codeAny_mono (code_fn C hA ho hcd hbind hloc hcell hco hgen hk h) (fun r s' x => by
    cases r with
    | error e => exact x.elim
    | ok f => cases f <;> first | exact x | exact x.elim))
end Mine
end
section
set_option maxRecDepth 100000
set_option maxHeartbeats 4000000
open PySem PySem.W PyProof.Rows
namespace Mine
open PySem.SeqAt

/-- the answer of an order between two rows: the first place that differs, else the lengths -/
def firstOff (e : Nat → Bool) : List Nat → Option Nat
  | [] => none
  | j :: r => if e j then firstOff e r else some j
def lexAns (op : CmpOp) (e r : Nat → Bool) (m n : Nat) (js : List Nat) : Bool := match firstOff e js with
  | some j => (match op with | .Eq => false | .NotEq => true | _ => r j)
  | none => (match op with
    | .Lt => decide (m < n) | .Gt => decide (m > n) | .LtE => decide (m ≤ n) | .Eq => m == n | .NotEq => m != n | _ => decide (m ≥ n))

def RcOp (A : Around) (s : Shared) (op : CmpOp) (y x : Value) (b : Bool) : Prop :=
  ∀ (prog : Program) (w : World) (E : Value → Shared → Prop) (Q : Value → Shared → Prop), Q (.bool b) s → wpAny (model prog w) A (richCompare op y x) Q E s

theorem firstOff_cons_same {e : Nat → Bool} {j : Nat} {js : List Nat} (h : e j = true) : firstOff e (j :: js) = firstOff e js := by simp [firstOff, h]
/-- a loop that goes on while e, its state as it was, and leaves at the first place that is not e -/
theorem first_loop {α β : Type} {Md : Model} {A : Around} {E : Value → Shared → Prop} {s : Shared} {f : α → β → Sem (ForInStep β)} {b0 : β} {e : Nat → Bool} {g : Nat → α} {Q : β → Shared → Prop} :
    ∀ js : List Nat, (∀ j ∈ js, e j = true → wpAny Md A (f (g j) b0) (fun r s' => r = .yield b0 ∧ s' = s) E s) →
      (∀ j ∈ js, e j = false → firstOff e js = some j → wpAny Md A (f (g j) b0) (fun r s' => ∃ b, r = .done b ∧ Q b s') E s) →
      (firstOff e js = none → Q b0 s) → wpAny Md A (forIn (js.map g) b0 f) Q E s
  | [], _, _, whole => by
    show wpAny Md A (forIn ([] : List α) b0 f) Q E s
    rw [List.forIn_nil]
    exact wpAny_pure (whole rfl)
  | j :: js, go, stop, whole => by
    show wpAny Md A (forIn (g j :: js.map g) b0 f) Q E s
    rw [List.forIn_cons]
    cases ej : e j with
    | false =>
      refine wpAny_bind (wpAny_mono (stop j (.head _) ej (by simp [firstOff, ej])) (fun r s' x => ?_) fun _ _ x => x)
      obtain ⟨b, rfl, hq⟩ := x
      exact wpAny_pure hq
    | true =>
      refine wpAny_bind (wpAny_mono (go j (.head _) ej) (fun r s' x => ?_) fun _ _ x => x)
      obtain ⟨rfl, rfl⟩ := x
      have hf := firstOff_cons_same (js := js) ej
      exact first_loop js (fun i m => go i (.tail _ m)) (fun i m h1 h2 => stop i (.tail _ m) h1 (hf.trans h2)) fun h => whole (hf.trans h)
/-- the same over the pairs of two rows -/
theorem rows_loop {β : Type} {Md : Model} {A : Around} {E : Value → Shared → Prop} {s : Shared} {xs ys : Array Value} {f : Value × Value → β → Sem (ForInStep β)} {b0 : β} {Q : β → Shared → Prop} (e : Nat → Bool)
    (same : ∀ j (h1 : j < xs.size) (h2 : j < ys.size), e j = true → wpAny Md A (f (xs[j], ys[j]) b0) (fun r s' => r = .yield b0 ∧ s' = s) E s)
    (diff : ∀ j (h1 : j < xs.size) (h2 : j < ys.size), e j = false → firstOff e (List.range (min xs.size ys.size)) = some j → wpAny Md A (f (xs[j], ys[j]) b0) (fun r s' => ∃ b, r = .done b ∧ Q b s') E s)
    (whole : firstOff e (List.range (min xs.size ys.size)) = none → Q b0 s) : wpAny Md A (forIn (xs.toList.zip ys.toList) b0 f) Q E s := by
  have key : xs.toList.zip ys.toList = (List.range (min xs.size ys.size)).map fun j => (xs.getD j .none, ys.getD j .none) := by
    refine List.ext_getElem (by simp) fun j a b => ?_
    have a1 : j < xs.size := by rw [List.length_zip, Array.length_toList, Array.length_toList] at a; omega
    have a2 : j < ys.size := by rw [List.length_zip, Array.length_toList, Array.length_toList] at a; omega
    simp [Array.getD, a1, a2]
  have at_ : ∀ j ∈ List.range (min xs.size ys.size), ∃ (h1 : j < xs.size) (h2 : j < ys.size), (xs.getD j .none, ys.getD j .none) = (xs[j], ys[j]) := fun j m => by
    have m := List.mem_range.mp m
    have a1 : j < xs.size := by omega
    have a2 : j < ys.size := by omega
    exact ⟨a1, a2, by simp [Array.getD, a1, a2]⟩
  rw [key]
  refine first_loop (e := e) _ (fun j m ej => ?_) (fun j m ej hf => ?_) whole
  · obtain ⟨h1, h2, q⟩ := at_ j m
    rw [q]
    exact same j h1 h2 ej
  · obtain ⟨h1, h2, q⟩ := at_ j m
    rw [q]
    exact diff j h1 h2 ej hf

theorem tuple_ltAt (l b : Addr) (items items2 : Array Value) (n n2 : Nat) (dd dd2 : Option Addr) (sl sl2 : Array (Option Value)) (e r : Nat → Bool) :
    Meets (Builtin.«tuple.__lt__» ⟨[.ref l, .ref b], []⟩)
      (fun A R s => (s.heap.get? l = some ⟨.type "tuple", dd, .seq items n, sl⟩ ∧ s.heap.get? b = some ⟨.type "tuple", dd2, .seq items2 n2, sl2⟩) ∧
        ((∀ j h1 h2, EqAt A.in1 s (items[j]'h1) (items2[j]'h2) (e j)) ∧ ∀ j h1 h2, e j = false → RcOp A.in1 s .Lt (items[j]'h1) (items2[j]'h2) (r j)) ∧
        R (.ok (.ret (.bool (lexAns .Lt e r items.size items2.size (List.range (min items.size items2.size)))))) s) := by
  refine .of_wp fun prog w A R s h => ?_
  obtain ⟨⟨hl, hb⟩, ⟨he, hr⟩, h⟩ := h
  obtain ⟨hp, g, d, tk, os⟩ := s
  have isT := AutoSeq1.sub_tuple_tuple
  wp_walk using AutoSeq1.wpAny_loadPart' hl, AutoSeq1.wpAny_loadPart' hb, rows_loop e
  case same =>
    intro j h1 h2 ej
    refine wpAny_bind (he j h1 h2 prog w _ _ ?_)
    rw [ej]
    wp_walk
    exact ⟨rfl, rfl⟩
  case diff =>
    intro j h1 h2 ej hf
    refine wpAny_bind (he j h1 h2 prog w _ _ ?_)
    rw [ej]
    refine wpAny_bind (wpAny_rule (wpAny_bind (hr j h1 h2 ej prog w _ _ ?_)))
    wp_walk
    simp only [lexAns, hf] at h
    exact ⟨_, rfl, wpAny_pure ⟨_, rfl, h⟩⟩
  case whole =>
    intro hf
    wp_walk
    simp only [lexAns, hf] at h
    exact ⟨_, rfl, h⟩
theorem tuple_leAt (l b : Addr) (items items2 : Array Value) (n n2 : Nat) (dd dd2 : Option Addr) (sl sl2 : Array (Option Value)) (e r : Nat → Bool) :
    Meets (Builtin.«tuple.__le__» ⟨[.ref l, .ref b], []⟩)
      (fun A R s => (s.heap.get? l = some ⟨.type "tuple", dd, .seq items n, sl⟩ ∧ s.heap.get? b = some ⟨.type "tuple", dd2, .seq items2 n2, sl2⟩) ∧
        ((∀ j h1 h2, EqAt A.in1 s (items[j]'h1) (items2[j]'h2) (e j)) ∧ ∀ j h1 h2, e j = false → RcOp A.in1 s .LtE (items[j]'h1) (items2[j]'h2) (r j)) ∧
        R (.ok (.ret (.bool (lexAns .LtE e r items.size items2.size (List.range (min items.size items2.size)))))) s) := by
  refine .of_wp fun prog w A R s h => ?_
  obtain ⟨⟨hl, hb⟩, ⟨he, hr⟩, h⟩ := h
  obtain ⟨hp, g, d, tk, os⟩ := s
  have isT := AutoSeq1.sub_tuple_tuple
  wp_walk using AutoSeq1.wpAny_loadPart' hl, AutoSeq1.wpAny_loadPart' hb, rows_loop e
  case same =>
    intro j h1 h2 ej
    refine wpAny_bind (he j h1 h2 prog w _ _ ?_)
    rw [ej]
    wp_walk
    exact ⟨rfl, rfl⟩
  case diff =>
    intro j h1 h2 ej hf
    refine wpAny_bind (he j h1 h2 prog w _ _ ?_)
    rw [ej]
    refine wpAny_bind (wpAny_rule (wpAny_bind (hr j h1 h2 ej prog w _ _ ?_)))
    wp_walk
    simp only [lexAns, hf] at h
    exact ⟨_, rfl, wpAny_pure ⟨_, rfl, h⟩⟩
  case whole =>
    intro hf
    wp_walk
    simp only [lexAns, hf] at h
    exact ⟨_, rfl, h⟩
theorem tuple_gtAt (l b : Addr) (items items2 : Array Value) (n n2 : Nat) (dd dd2 : Option Addr) (sl sl2 : Array (Option Value)) (e r : Nat → Bool) :
    Meets (Builtin.«tuple.__gt__» ⟨[.ref l, .ref b], []⟩)
      (fun A R s => (s.heap.get? l = some ⟨.type "tuple", dd, .seq items n, sl⟩ ∧ s.heap.get? b = some ⟨.type "tuple", dd2, .seq items2 n2, sl2⟩) ∧
        ((∀ j h1 h2, EqAt A.in1 s (items[j]'h1) (items2[j]'h2) (e j)) ∧ ∀ j h1 h2, e j = false → RcOp A.in1 s .Gt (items[j]'h1) (items2[j]'h2) (r j)) ∧
        R (.ok (.ret (.bool (lexAns .Gt e r items.size items2.size (List.range (min items.size items2.size)))))) s) := by
  refine .of_wp fun prog w A R s h => ?_
  obtain ⟨⟨hl, hb⟩, ⟨he, hr⟩, h⟩ := h
  obtain ⟨hp, g, d, tk, os⟩ := s
  have isT := AutoSeq1.sub_tuple_tuple
  wp_walk using AutoSeq1.wpAny_loadPart' hl, AutoSeq1.wpAny_loadPart' hb, rows_loop e
  case same =>
    intro j h1 h2 ej
    refine wpAny_bind (he j h1 h2 prog w _ _ ?_)
    rw [ej]
    wp_walk
    exact ⟨rfl, rfl⟩
  case diff =>
    intro j h1 h2 ej hf
    refine wpAny_bind (he j h1 h2 prog w _ _ ?_)
    rw [ej]
    refine wpAny_bind (wpAny_rule (wpAny_bind (hr j h1 h2 ej prog w _ _ ?_)))
    wp_walk
    simp only [lexAns, hf] at h
    exact ⟨_, rfl, wpAny_pure ⟨_, rfl, h⟩⟩
  case whole =>
    intro hf
    wp_walk
    simp only [lexAns, hf] at h
    exact ⟨_, rfl, h⟩
theorem tuple_geAt (l b : Addr) (items items2 : Array Value) (n n2 : Nat) (dd dd2 : Option Addr) (sl sl2 : Array (Option Value)) (e r : Nat → Bool) :
    Meets (Builtin.«tuple.__ge__» ⟨[.ref l, .ref b], []⟩)
      (fun A R s => (s.heap.get? l = some ⟨.type "tuple", dd, .seq items n, sl⟩ ∧ s.heap.get? b = some ⟨.type "tuple", dd2, .seq items2 n2, sl2⟩) ∧
        ((∀ j h1 h2, EqAt A.in1 s (items[j]'h1) (items2[j]'h2) (e j)) ∧ ∀ j h1 h2, e j = false → RcOp A.in1 s .GtE (items[j]'h1) (items2[j]'h2) (r j)) ∧
        R (.ok (.ret (.bool (lexAns .GtE e r items.size items2.size (List.range (min items.size items2.size)))))) s) := by
  refine .of_wp fun prog w A R s h => ?_
  obtain ⟨⟨hl, hb⟩, ⟨he, hr⟩, h⟩ := h
  obtain ⟨hp, g, d, tk, os⟩ := s
  have isT := AutoSeq1.sub_tuple_tuple
  wp_walk using AutoSeq1.wpAny_loadPart' hl, AutoSeq1.wpAny_loadPart' hb, rows_loop e
  case same =>
    intro j h1 h2 ej
    refine wpAny_bind (he j h1 h2 prog w _ _ ?_)
    rw [ej]
    wp_walk
    exact ⟨rfl, rfl⟩
  case diff =>
    intro j h1 h2 ej hf
    refine wpAny_bind (he j h1 h2 prog w _ _ ?_)
    rw [ej]
    refine wpAny_bind (wpAny_rule (wpAny_bind (hr j h1 h2 ej prog w _ _ ?_)))
    wp_walk
    simp only [lexAns, hf] at h
    exact ⟨_, rfl, wpAny_pure ⟨_, rfl, h⟩⟩
  case whole =>
    intro hf
    wp_walk
    simp only [lexAns, hf] at h
    exact ⟨_, rfl, h⟩
theorem tuple_eqAt (l b : Addr) (items items2 : Array Value) (n n2 : Nat) (dd dd2 : Option Addr) (sl sl2 : Array (Option Value)) (e r : Nat → Bool) :
    Meets (Builtin.«tuple.__eq__» ⟨[.ref l, .ref b], []⟩)
      (fun A R s => (s.heap.get? l = some ⟨.type "tuple", dd, .seq items n, sl⟩ ∧ s.heap.get? b = some ⟨.type "tuple", dd2, .seq items2 n2, sl2⟩) ∧
        ((∀ j h1 h2, EqAt A.in1 s (items[j]'h1) (items2[j]'h2) (e j)) ∧ ∀ j h1 h2, e j = false → RcOp A.in1 s .Eq (items[j]'h1) (items2[j]'h2) (r j)) ∧
        R (.ok (.ret (.bool (lexAns .Eq e r items.size items2.size (List.range (min items.size items2.size)))))) s) := by
  refine .of_wp fun prog w A R s h => ?_
  obtain ⟨⟨hl, hb⟩, ⟨he, hr⟩, h⟩ := h
  obtain ⟨hp, g, d, tk, os⟩ := s
  have isT := AutoSeq1.sub_tuple_tuple
  wp_walk using AutoSeq1.wpAny_loadPart' hl, AutoSeq1.wpAny_loadPart' hb, rows_loop e
  case same =>
    intro j h1 h2 ej
    refine wpAny_bind (he j h1 h2 prog w _ _ ?_)
    rw [ej]
    wp_walk
    exact ⟨rfl, rfl⟩
  case diff =>
    intro j h1 h2 ej hf
    refine wpAny_bind (he j h1 h2 prog w _ _ ?_)
    rw [ej]
    wp_walk
    simp only [lexAns, hf] at h
    exact ⟨_, rfl, wpAny_pure ⟨_, rfl, h⟩⟩
  case whole =>
    intro hf
    wp_walk
    simp only [lexAns, hf] at h
    exact ⟨_, rfl, h⟩
theorem tuple_neAt (l b : Addr) (items items2 : Array Value) (n n2 : Nat) (dd dd2 : Option Addr) (sl sl2 : Array (Option Value)) (e r : Nat → Bool) :
    Meets (Builtin.«tuple.__ne__» ⟨[.ref l, .ref b], []⟩)
      (fun A R s => (s.heap.get? l = some ⟨.type "tuple", dd, .seq items n, sl⟩ ∧ s.heap.get? b = some ⟨.type "tuple", dd2, .seq items2 n2, sl2⟩) ∧
        ((∀ j h1 h2, EqAt A.in1 s (items[j]'h1) (items2[j]'h2) (e j)) ∧ ∀ j h1 h2, e j = false → RcOp A.in1 s .NotEq (items[j]'h1) (items2[j]'h2) (r j)) ∧
        R (.ok (.ret (.bool (lexAns .NotEq e r items.size items2.size (List.range (min items.size items2.size)))))) s) := by
  refine .of_wp fun prog w A R s h => ?_
  obtain ⟨⟨hl, hb⟩, ⟨he, hr⟩, h⟩ := h
  obtain ⟨hp, g, d, tk, os⟩ := s
  have isT := AutoSeq1.sub_tuple_tuple
  wp_walk using AutoSeq1.wpAny_loadPart' hl, AutoSeq1.wpAny_loadPart' hb, rows_loop e
  case same =>
    intro j h1 h2 ej
    refine wpAny_bind (he j h1 h2 prog w _ _ ?_)
    rw [ej]
    wp_walk
    exact ⟨rfl, rfl⟩
  case diff =>
    intro j h1 h2 ej hf
    refine wpAny_bind (he j h1 h2 prog w _ _ ?_)
    rw [ej]
    wp_walk
    simp only [lexAns, hf] at h
    exact ⟨_, rfl, wpAny_pure ⟨_, rfl, h⟩⟩
  case whole =>
    intro hf
    wp_walk
    simp only [lexAns, hf] at h
    exact ⟨_, rfl, h⟩

def ord : CmpOp → Bool
  | .Eq | .NotEq | .Lt | .LtE | .Gt | .GtE => true
  | _ => false
def cmpI (op : CmpOp) (a b : Int) : Bool := match op with
  | .Eq => a == b | .NotEq => a != b | .Lt => decide (a < b) | .LtE => decide (a ≤ b) | .Gt => decide (b < a) | _ => decide (b ≤ a)
theorem cmp_ofEq_r {Md : Model} {A : Around} {E : Value → Shared → Prop} {s : Shared} {op : CmpOp} {a b : Value} {Q : Value → Shared → Prop} (h : wpAny Md A (compareOp op a b) Q E s) (e : compareOp op a b = richCompare op a b := by rfl) : wpAny Md A (richCompare op a b) Q E s := e ▸ h
theorem rc_int {A : Around} {s : Shared} {op : CmpOp} (ho : ord op = true) (a b : Int) (t u : Tok) : RcOp A s op (.int a t) (.int b u) (cmpI op a b) := by
  intro prog w E Q h
  match op, ho, h with
  | .Eq, _, h => exact cmp_ofEq_r (eq_int h)
  | .NotEq, _, h => exact cmp_ofEq_r (ne_int h)
  | .Lt, _, h => exact cmp_ofEq_r (lt_int h)
  | .LtE, _, h => exact cmp_ofEq_r (le_int h)
  | .Gt, _, h => exact cmp_ofEq_r (gt_int h)
  | .GtE, _, h => exact cmp_ofEq_r (ge_int h)
theorem rc_tuples {A : Around} {s : Shared} {op : CmpOp} (ho : ord op = true) {l b : Addr} {items items2 : Array Value} {n n2 : Nat} {dd dd2 : Option Addr} {sl sl2 : Array (Option Value)} {e r : Nat → Bool}
    (hl : s.heap.get? l = some { cls := .type "tuple", dict := dd, data := .seq items n, slots := sl }) (hb : s.heap.get? b = some { cls := .type "tuple", dict := dd2, data := .seq items2 n2, slots := sl2 }) (hu : A.units < cLine)
    (he : ∀ j (h1 : j < items.size) (h2 : j < items2.size), EqAt A.in1 s items[j] items2[j] (e j))
    (hr : ∀ j (h1 : j < items.size) (h2 : j < items2.size), e j = false → RcOp A.in1 s op items[j] items2[j] (r j)) :
    RcOp A s op (.ref l) (.ref b) (lexAns op e r items.size items2.size (List.range (min items.size items2.size))) := by
  intro prog w E Q h
  match op, ho, hr, h with
  | .Lt, _, hr, h =>
    exact richCompare_meets_room (op := .Lt) ⟨_, hl, rfl⟩ ⟨_, hb, rfl⟩ F.slot_tuple_lt F.entry_tuple_lt (F.args_tuple_lt_2 _ _) (tuple_ltAt l b items items2 n n2 dd dd2 sl sl2 e r)
        ⟨⟨hl, hb⟩, ⟨he, hr⟩, show Value.bool _ ≠ Value.notImplemented ∧ Q (.bool _) s from ⟨(fun x => nomatch x), h⟩⟩ hu
  | .LtE, _, hr, h =>
    exact richCompare_meets_room (op := .LtE) ⟨_, hl, rfl⟩ ⟨_, hb, rfl⟩ F.slot_tuple_le F.entry_tuple_le (F.args_tuple_le_2 _ _) (tuple_leAt l b items items2 n n2 dd dd2 sl sl2 e r)
        ⟨⟨hl, hb⟩, ⟨he, hr⟩, show Value.bool _ ≠ Value.notImplemented ∧ Q (.bool _) s from ⟨(fun x => nomatch x), h⟩⟩ hu
  | .Gt, _, hr, h =>
    exact richCompare_meets_room (op := .Gt) ⟨_, hl, rfl⟩ ⟨_, hb, rfl⟩ F.slot_tuple_gt F.entry_tuple_gt (F.args_tuple_gt_2 _ _) (tuple_gtAt l b items items2 n n2 dd dd2 sl sl2 e r)
        ⟨⟨hl, hb⟩, ⟨he, hr⟩, show Value.bool _ ≠ Value.notImplemented ∧ Q (.bool _) s from ⟨(fun x => nomatch x), h⟩⟩ hu
  | .GtE, _, hr, h =>
    exact richCompare_meets_room (op := .GtE) ⟨_, hl, rfl⟩ ⟨_, hb, rfl⟩ F.slot_tuple_ge F.entry_tuple_ge (F.args_tuple_ge_2 _ _) (tuple_geAt l b items items2 n n2 dd dd2 sl sl2 e r)
        ⟨⟨hl, hb⟩, ⟨he, hr⟩, show Value.bool _ ≠ Value.notImplemented ∧ Q (.bool _) s from ⟨(fun x => nomatch x), h⟩⟩ hu
  | .Eq, _, hr, h =>
    exact richCompare_meets_room (op := .Eq) ⟨_, hl, rfl⟩ ⟨_, hb, rfl⟩ F.slot_tuple_eq F.entry_tuple_eq (F.args_tuple_eq_2 _ _) (tuple_eqAt l b items items2 n n2 dd dd2 sl sl2 e r)
        ⟨⟨hl, hb⟩, ⟨he, hr⟩, show Value.bool _ ≠ Value.notImplemented ∧ Q (.bool _) s from ⟨(fun x => nomatch x), h⟩⟩ hu
  | .NotEq, _, hr, h =>
    exact richCompare_meets_room (op := .NotEq) ⟨_, hl, rfl⟩ ⟨_, hb, rfl⟩ F.slot_tuple_ne F.entry_tuple_ne (F.args_tuple_ne_2 _ _) (tuple_neAt l b items items2 n n2 dd dd2 sl sl2 e r)
        ⟨⟨hl, hb⟩, ⟨he, hr⟩, show Value.bool _ ≠ Value.notImplemented ∧ Q (.bool _) s from ⟨(fun x => nomatch x), h⟩⟩ hu
theorem lexAns_congr {op : CmpOp} {e e' r r' : Nat → Bool} {m n : Nat} : ∀ {js : List Nat}, (∀ j ∈ js, e j = e' j) → (∀ j ∈ js, e j = false → r j = r' j) → lexAns op e r m n js = lexAns op e' r' m n js
  | [], _, _ => rfl
  | j :: js, h, h' => by
    have hj := h j (.head _)
    have ih := lexAns_congr (op := op) (m := m) (n := n) (fun i hi => h i (.tail _ hi)) (fun i hi => h' i (.tail _ hi))
    unfold lexAns at ih ⊢
    simp only [firstOff, ← hj]
    cases he : e j with
    | true => simpa using ih
    | false => simp [h' j (.head _) he]
abbrev tupObj (vs : List Value) (e : Nat := 0) : Obj := { cls := .type "tuple", data := .seq vs.toArray e }
def PairAt (h : Heap) (v : Value) (x : Int × Int) : Prop := ∃ p e t u, v = .ref p ∧ h.get? p = some (tupObj [.int x.1 t, .int x.2 u] e)
def RowAt (h : Heap) (v : Value) (l : List (Int × Int)) : Prop := ∃ p e qs, v = .ref p ∧ h.get? p = some (tupObj qs e) ∧ qs.length = l.length ∧ ∀ j (h1 : j < qs.length) (h2 : j < l.length), PairAt h qs[j] l[j]
theorem PairAt.keep {h h' : Heap} {v : Value} {x : Int × Int} (H : PairAt h v x) (k : ∀ b o, h.get? b = some o → h'.get? b = some o) : PairAt h' v x := by
  obtain ⟨p, e, t, u, rfl, ho⟩ := H
  exact ⟨p, e, t, u, rfl, k _ _ ho⟩
theorem RowAt.keep {h h' : Heap} {v : Value} {x : List (Int × Int)} (H : RowAt h v x) (k : ∀ b o, h.get? b = some o → h'.get? b = some o) : RowAt h' v x := by
  obtain ⟨p, e, qs, rfl, ho, hl, hj⟩ := H
  exact ⟨p, e, qs, rfl, k _ _ ho, hl, fun j h1 h2 => (hj j h1 h2).keep k⟩
def cmpPair (op : CmpOp) (x y : Int × Int) : Bool :=
  lexAns op (fun j => match j with | 0 => x.1 == y.1 | _ => x.2 == y.2) (fun j => match j with | 0 => cmpI op x.1 y.1 | _ => cmpI op x.2 y.2) 2 2 [0, 1]
def cmpRow (op : CmpOp) (l m : List (Int × Int)) : Bool :=
  lexAns op (fun j => cmpPair .Eq (l.getD j (0, 0)) (m.getD j (0, 0))) (fun j => cmpPair op (l.getD j (0, 0)) (m.getD j (0, 0))) l.length m.length (List.range (min l.length m.length))
theorem rc_pair {A : Around} {s : Shared} {op : CmpOp} (ho : ord op = true) {v u : Value} {x y : Int × Int} (hx : PairAt s.heap v x) (hy : PairAt s.heap u y) (hu : A.units < cLine) : RcOp A s op v u (cmpPair op x y) := by
  obtain ⟨p, e, t, t', rfl, hp⟩ := hx
  obtain ⟨q, e', k, k', rfl, hq⟩ := hy
  refine rc_tuples ho hp hq hu (fun j h1 h2 => ?_) (fun j h1 h2 _ => ?_)
  · match j, h1 with
    | 0, _ => exact EqAt.int_int _ _ _ _
    | 1, _ => exact EqAt.int_int _ _ _ _
    | j + 2, h1 => exact absurd h1 (by simp)
  · match j, h1 with
    | 0, _ => exact rc_int ho _ _ _ _
    | 1, _ => exact rc_int ho _ _ _ _
    | j + 2, h1 => exact absurd h1 (by simp)
theorem cmpPair_self (x : Int × Int) : cmpPair .Eq x x = true := by simp [cmpPair, lexAns, firstOff]
theorem cmpPair_ne_self (x : Int × Int) : cmpPair .NotEq x x = false := by simp [cmpPair, lexAns, firstOff]
theorem PairAt.uniq {h : Heap} {v : Value} {x y : Int × Int} (hx : PairAt h v x) (hy : PairAt h v y) : x = y := by
  obtain ⟨p, e, t, t', rfl, hp⟩ := hx
  obtain ⟨q, e', k, k', hq', hq⟩ := hy
  cases hq'
  rw [hp] at hq
  injection hq with hq
  injection hq with _ _ hd
  injection hd with hd
  have : x.1 = y.1 ∧ x.2 = y.2 := by simp at hd; exact ⟨hd.1.1, hd.2.1⟩
  exact Prod.ext this.1 this.2
theorem eq_pair {A : Around} {s : Shared} {v u : Value} {x y : Int × Int} (hx : PairAt s.heap v x) (hy : PairAt s.heap u y) (hu : A.units < cLine) : EqAt A s v u (cmpPair .Eq x y) := by
  have hr := rc_pair (A := A) (op := .Eq) rfl hx hy hu
  by_cases huv : v = u
  · subst huv
    have := hx.uniq hy
    subst this
    rw [cmpPair_self]
    exact EqAt.same _
  · obtain ⟨p, e, t, t', rfl, hp⟩ := hx
    obtain ⟨q, e', k, k', rfl, hq⟩ := hy
    exact EqAt.of_refs (fun e => huv (by rw [e])) hr
theorem rc_row {A : Around} {s : Shared} {op : CmpOp} (ho : ord op = true) {v u : Value} {x y : List (Int × Int)} (hx : RowAt s.heap v x) (hy : RowAt s.heap u y) (hu : A.units + 1 < cLine) : RcOp A s op v u (cmpRow op x y) := by
  obtain ⟨p, e, qs, rfl, hp, hl, hj⟩ := hx
  obtain ⟨q, e', qs', rfl, hq, hl', hj'⟩ := hy
  have hg : ∀ (l : List (Int × Int)) (j : Nat) (h : j < l.length), l.getD j (0, 0) = l[j] := fun l j h => by simp [List.getD, h]
  have key := rc_tuples (A := A) (s := s) ho (items := qs.toArray) (items2 := qs'.toArray) (e := fun j => cmpPair .Eq (x.getD j (0, 0)) (y.getD j (0, 0))) (r := fun j => cmpPair op (x.getD j (0, 0)) (y.getD j (0, 0))) hp hq (by omega)
    (fun j h1 h2 => by
      have a1 : j < x.length := by simpa [hl] using h1
      have a2 : j < y.length := by simpa [hl'] using h2
      rw [hg x j a1, hg y j a2]
      exact eq_pair (hj j (by simpa using h1) a1) (hj' j (by simpa using h2) a2) (by show A.units + 1 < cLine; omega))
    (fun j h1 h2 _ => by
      have a1 : j < x.length := by simpa [hl] using h1
      have a2 : j < y.length := by simpa [hl'] using h2
      show RcOp A.in1 s op qs[j] qs'[j] (cmpPair op (x.getD j (0, 0)) (y.getD j (0, 0)))
      rw [hg x j a1, hg y j a2]
      exact rc_pair ho (hj j (by simpa using h1) a1) (hj' j (by simpa using h2) a2) (by show A.units + 1 < cLine; omega))
  simp only [List.size_toArray, hl, hl'] at key
  exact key
end Mine
end
section
set_option maxRecDepth 100000
set_option maxHeartbeats 4000000
open PySem PySem.W PyProof.Rows
namespace Mine
open PySem.SeqAt
def NotTup (b : Value) (s : Shared) : Prop := ∀ (prog : Program) (w : World) (A : Around) (Q : Bool → Shared → Prop) (E : Value → Shared → Prop), Q false s → wpAny (model prog w) A (isInstance b (.type "tuple")) Q E s
theorem tuple_lt_dec (l : Addr) (items : Array Value) (n : Nat) (dd : Option Addr) (sl : Array (Option Value)) (b : Addr) :
    Meets (Builtin.«tuple.__lt__» ⟨[.ref l, .ref b], []⟩) (fun _ R s => s.heap.get? l = some { cls := .type "tuple", dict := dd, data := .seq items n, slots := sl } ∧ NotTup (.ref b) s ∧ R (.ok (.ret .notImplemented)) s) :=
  .of_wp fun prog w A R s h => by
    obtain ⟨hp, g, d, tk, os⟩ := s; obtain ⟨hl, hn, h⟩ := h
    have hn' : ∀ {A : Around} {Q : Bool → Shared → Prop} {E : Value → Shared → Prop}, Q false ⟨hp, g, d, tk, os⟩ → wpAny (model prog w) A (isInstance (.ref b) (.type "tuple")) Q E ⟨hp, g, d, tk, os⟩ := fun {A Q E} => hn prog w A Q E
    wp_walk using AutoSeq1.wpAny_loadPart' hl, hn'
    exact ⟨_, rfl, h⟩
theorem tuple_le_dec (l : Addr) (items : Array Value) (n : Nat) (dd : Option Addr) (sl : Array (Option Value)) (b : Addr) :
    Meets (Builtin.«tuple.__le__» ⟨[.ref l, .ref b], []⟩) (fun _ R s => s.heap.get? l = some { cls := .type "tuple", dict := dd, data := .seq items n, slots := sl } ∧ NotTup (.ref b) s ∧ R (.ok (.ret .notImplemented)) s) :=
  .of_wp fun prog w A R s h => by
    obtain ⟨hp, g, d, tk, os⟩ := s; obtain ⟨hl, hn, h⟩ := h
    have hn' : ∀ {A : Around} {Q : Bool → Shared → Prop} {E : Value → Shared → Prop}, Q false ⟨hp, g, d, tk, os⟩ → wpAny (model prog w) A (isInstance (.ref b) (.type "tuple")) Q E ⟨hp, g, d, tk, os⟩ := fun {A Q E} => hn prog w A Q E
    wp_walk using AutoSeq1.wpAny_loadPart' hl, hn'
    exact ⟨_, rfl, h⟩
theorem tuple_gt_dec (l : Addr) (items : Array Value) (n : Nat) (dd : Option Addr) (sl : Array (Option Value)) (b : Addr) :
    Meets (Builtin.«tuple.__gt__» ⟨[.ref l, .ref b], []⟩) (fun _ R s => s.heap.get? l = some { cls := .type "tuple", dict := dd, data := .seq items n, slots := sl } ∧ NotTup (.ref b) s ∧ R (.ok (.ret .notImplemented)) s) :=
  .of_wp fun prog w A R s h => by
    obtain ⟨hp, g, d, tk, os⟩ := s; obtain ⟨hl, hn, h⟩ := h
    have hn' : ∀ {A : Around} {Q : Bool → Shared → Prop} {E : Value → Shared → Prop}, Q false ⟨hp, g, d, tk, os⟩ → wpAny (model prog w) A (isInstance (.ref b) (.type "tuple")) Q E ⟨hp, g, d, tk, os⟩ := fun {A Q E} => hn prog w A Q E
    wp_walk using AutoSeq1.wpAny_loadPart' hl, hn'
    exact ⟨_, rfl, h⟩
theorem tuple_ge_dec (l : Addr) (items : Array Value) (n : Nat) (dd : Option Addr) (sl : Array (Option Value)) (b : Addr) :
    Meets (Builtin.«tuple.__ge__» ⟨[.ref l, .ref b], []⟩) (fun _ R s => s.heap.get? l = some { cls := .type "tuple", dict := dd, data := .seq items n, slots := sl } ∧ NotTup (.ref b) s ∧ R (.ok (.ret .notImplemented)) s) :=
  .of_wp fun prog w A R s h => by
    obtain ⟨hp, g, d, tk, os⟩ := s; obtain ⟨hl, hn, h⟩ := h
    have hn' : ∀ {A : Around} {Q : Bool → Shared → Prop} {E : Value → Shared → Prop}, Q false ⟨hp, g, d, tk, os⟩ → wpAny (model prog w) A (isInstance (.ref b) (.type "tuple")) Q E ⟨hp, g, d, tk, os⟩ := fun {A Q E} => hn prog w A Q E
    wp_walk using AutoSeq1.wpAny_loadPart' hl, hn'
    exact ⟨_, rfl, h⟩
theorem tuple_eq_dec (l : Addr) (items : Array Value) (n : Nat) (dd : Option Addr) (sl : Array (Option Value)) (b : Addr) :
    Meets (Builtin.«tuple.__eq__» ⟨[.ref l, .ref b], []⟩) (fun _ R s => s.heap.get? l = some { cls := .type "tuple", dict := dd, data := .seq items n, slots := sl } ∧ NotTup (.ref b) s ∧ R (.ok (.ret .notImplemented)) s) :=
  .of_wp fun prog w A R s h => by
    obtain ⟨hp, g, d, tk, os⟩ := s; obtain ⟨hl, hn, h⟩ := h
    have hn' : ∀ {A : Around} {Q : Bool → Shared → Prop} {E : Value → Shared → Prop}, Q false ⟨hp, g, d, tk, os⟩ → wpAny (model prog w) A (isInstance (.ref b) (.type "tuple")) Q E ⟨hp, g, d, tk, os⟩ := fun {A Q E} => hn prog w A Q E
    wp_walk using AutoSeq1.wpAny_loadPart' hl, hn'
    exact ⟨_, rfl, h⟩
theorem tuple_ne_dec (l : Addr) (items : Array Value) (n : Nat) (dd : Option Addr) (sl : Array (Option Value)) (b : Addr) :
    Meets (Builtin.«tuple.__ne__» ⟨[.ref l, .ref b], []⟩) (fun _ R s => s.heap.get? l = some { cls := .type "tuple", dict := dd, data := .seq items n, slots := sl } ∧ NotTup (.ref b) s ∧ R (.ok (.ret .notImplemented)) s) :=
  .of_wp fun prog w A R s h => by
    obtain ⟨hp, g, d, tk, os⟩ := s; obtain ⟨hl, hn, h⟩ := h
    have hn' : ∀ {A : Around} {Q : Bool → Shared → Prop} {E : Value → Shared → Prop}, Q false ⟨hp, g, d, tk, os⟩ → wpAny (model prog w) A (isInstance (.ref b) (.type "tuple")) Q E ⟨hp, g, d, tk, os⟩ := fun {A Q E} => hn prog w A Q E
    wp_walk using AutoSeq1.wpAny_loadPart' hl, hn'
    exact ⟨_, rfl, h⟩
/-- a tuple's own comparison declines a thing that is no tuple -/
theorem tuple_declines {prog : Program} {w : World} {A : Around} {E : Value → Shared → Prop} {s : Shared} {op : CmpOp} (ho : ord op = true) {l b : Addr} {items : Array Value} {n : Nat} {dd : Option Addr} {sl : Array (Option Value)} {Q : Option Value → Shared → Prop}
    (hl : s.heap.get? l = some { cls := .type "tuple", dict := dd, data := .seq items n, slots := sl }) (hn : NotTup (.ref b) s) (h : Q none s) : wpAny (model prog w) A (tryCompare (.ref l) (cmpInfo op).2.1 (.ref b)) Q E s := by
  match op, ho with
  | .Lt, _ =>
    exact wpAny_tryCompare_declines ⟨_, hl, rfl⟩ F.slot_tuple_lt (call_meets F.slot_tuple_lt ⟨_, hl, rfl⟩ F.entry_tuple_lt (F.args_tuple_lt_2 _ _) (tuple_lt_dec l items n dd sl b) ⟨hl, hn, rfl, h⟩)
  | .LtE, _ =>
    exact wpAny_tryCompare_declines ⟨_, hl, rfl⟩ F.slot_tuple_le (call_meets F.slot_tuple_le ⟨_, hl, rfl⟩ F.entry_tuple_le (F.args_tuple_le_2 _ _) (tuple_le_dec l items n dd sl b) ⟨hl, hn, rfl, h⟩)
  | .Gt, _ =>
    exact wpAny_tryCompare_declines ⟨_, hl, rfl⟩ F.slot_tuple_gt (call_meets F.slot_tuple_gt ⟨_, hl, rfl⟩ F.entry_tuple_gt (F.args_tuple_gt_2 _ _) (tuple_gt_dec l items n dd sl b) ⟨hl, hn, rfl, h⟩)
  | .GtE, _ =>
    exact wpAny_tryCompare_declines ⟨_, hl, rfl⟩ F.slot_tuple_ge (call_meets F.slot_tuple_ge ⟨_, hl, rfl⟩ F.entry_tuple_ge (F.args_tuple_ge_2 _ _) (tuple_ge_dec l items n dd sl b) ⟨hl, hn, rfl, h⟩)
  | .Eq, _ =>
    exact wpAny_tryCompare_declines ⟨_, hl, rfl⟩ F.slot_tuple_eq (call_meets F.slot_tuple_eq ⟨_, hl, rfl⟩ F.entry_tuple_eq (F.args_tuple_eq_2 _ _) (tuple_eq_dec l items n dd sl b) ⟨hl, hn, rfl, h⟩)
  | .NotEq, _ =>
    exact wpAny_tryCompare_declines ⟨_, hl, rfl⟩ F.slot_tuple_ne (call_meets F.slot_tuple_ne ⟨_, hl, rfl⟩ F.entry_tuple_ne (F.args_tuple_ne_2 _ _) (tuple_ne_dec l items n dd sl b) ⟨hl, hn, rfl, h⟩)

def swap : CmpOp → CmpOp
  | .Lt => .Gt | .LtE => .GtE | .Gt => .Lt | .GtE => .LtE | op => op
theorem swap_info {op : CmpOp} (ho : ord op = true) : (cmpInfo op).2.2 = (cmpInfo (swap op)).2.1 := by
  match op, ho with
  | .Eq, _ => rfl
  | .NotEq, _ => rfl
  | .Lt, _ => rfl
  | .LtE, _ => rfl
  | .Gt, _ => rfl
  | .GtE, _ => rfl
theorem swap_ord {op : CmpOp} (ho : ord op = true) : ord (swap op) = true := by
  match op, ho with
  | .Eq, _ => rfl
  | .NotEq, _ => rfl
  | .Lt, _ => rfl
  | .LtE, _ => rfl
  | .Gt, _ => rfl
  | .GtE, _ => rfl
theorem int_beq_comm (a b : Int) : (a == b) = (b == a) := by
  rw [Bool.eq_iff_iff, beq_iff_eq, beq_iff_eq]; exact eq_comm
theorem int_bne_comm (a b : Int) : (a != b) = (b != a) := by
  simp only [bne, int_beq_comm a b]
theorem nat_beq_comm (a b : Nat) : (a == b) = (b == a) := by
  rw [Bool.eq_iff_iff, beq_iff_eq, beq_iff_eq]; exact eq_comm
theorem nat_bne_comm (a b : Nat) : (a != b) = (b != a) := by
  simp only [bne, nat_beq_comm a b]
theorem cmpI_swap {op : CmpOp} (ho : ord op = true) (a b : Int) : cmpI (swap op) b a = cmpI op a b := by
  match op, ho with
  | .Eq, _ => exact int_beq_comm b a
  | .NotEq, _ => exact int_bne_comm b a
  | .Lt, _ => rfl
  | .LtE, _ => rfl
  | .Gt, _ => rfl
  | .GtE, _ => rfl
theorem lexAns_swap {op : CmpOp} (ho : ord op = true) {e e' r r' : Nat → Bool} {m n : Nat} {js : List Nat} (he : ∀ j ∈ js, e j = e' j) (hr : ∀ j ∈ js, r j = r' j) : lexAns (swap op) e r n m js = lexAns op e' r' m n js := by
  rw [lexAns_congr (op := swap op) (m := n) (n := m) he (fun j hj _ => hr j hj)]
  unfold lexAns
  cases firstOff e' js with
  | some j =>
    match op, ho with
    | .Eq, _ => rfl
    | .NotEq, _ => rfl
    | .Lt, _ => rfl
    | .LtE, _ => rfl
    | .Gt, _ => rfl
    | .GtE, _ => rfl
  | none =>
    match op, ho with
    | .Eq, _ => exact nat_beq_comm n m
    | .NotEq, _ => exact nat_bne_comm n m
    | .Lt, _ => rfl
    | .LtE, _ => rfl
    | .Gt, _ => rfl
    | .GtE, _ => rfl
theorem cmpPair_swap {op : CmpOp} (ho : ord op = true) (x y : Int × Int) : cmpPair (swap op) y x = cmpPair op x y := by
  unfold cmpPair
  refine lexAns_swap ho (fun j hj => ?_) (fun j hj => ?_)
  · match j with
    | 0 => exact int_beq_comm _ _
    | j + 1 => exact int_beq_comm _ _
  · match j with
    | 0 => exact cmpI_swap ho _ _
    | j + 1 => exact cmpI_swap ho _ _
theorem cmpRow_swap {op : CmpOp} (ho : ord op = true) (x y : List (Int × Int)) : cmpRow (swap op) y x = cmpRow op x y := by
  unfold cmpRow
  rw [Nat.min_comm y.length x.length]
  exact lexAns_swap ho (fun j _ => cmpPair_swap (op := .Eq) rfl _ _) (fun j _ => cmpPair_swap ho _ _)
theorem firstOff_all {e : Nat → Bool} : ∀ {js : List Nat}, (∀ j ∈ js, e j = true) → firstOff e js = none
  | [], _ => rfl
  | j :: js, h => by
    unfold firstOff
    rw [h j (.head _), if_pos rfl]
    exact firstOff_all fun i hi => h i (.tail _ hi)
theorem cmpRow_self (x : List (Int × Int)) : cmpRow .Eq x x = true := by
  unfold cmpRow lexAns
  rw [firstOff_all fun j _ => cmpPair_self _]
  simp
theorem cmpRow_ne_self (x : List (Int × Int)) : cmpRow .NotEq x x = false := by
  unfold cmpRow lexAns
  rw [firstOff_all fun j _ => cmpPair_self _]
  simp
/-- what a thing is compared by -/
inductive CK where
  | pair (x : Int × Int)
  | row (l : List (Int × Int))
def DatAt (h : Heap) (v : Value) : CK → Prop
  | .pair x => PairAt h v x
  | .row l => RowAt h v l
theorem DatAt.keep {h h' : Heap} {v : Value} {d : CK} (H : DatAt h v d) (k : ∀ b o, h.get? b = some o → h'.get? b = some o) : DatAt h' v d := by
  cases d with
  | pair x => exact PairAt.keep H k
  | row l => exact RowAt.keep H k
theorem DatAt.tup {h : Heap} {v : Value} {d : CK} (H : DatAt h v d) : ∃ p items n, v = .ref p ∧ h.get? p = some { cls := .type "tuple", data := .seq items n } := by
  cases d with
  | pair x => obtain ⟨p, e, t, u, rfl, ho⟩ := H; exact ⟨p, _, _, rfl, ho⟩
  | row l => obtain ⟨p, e, qs, rfl, ho, _⟩ := H; exact ⟨p, _, _, rfl, ho⟩
def cmpCK (op : CmpOp) : CK → CK → Bool
  | .pair x, .pair y => cmpPair op x y
  | .row x, .row y => cmpRow op x y
  | _, _ => false
def sameK : CK → CK → Prop
  | .pair _, .pair _ => True
  | .row _, .row _ => True
  | _, _ => False
theorem sameK.symm {d e : CK} (h : sameK d e) : sameK e d := by
  cases d <;> cases e <;> exact h
theorem cmpCK_swap {op : CmpOp} (ho : ord op = true) {d e : CK} : cmpCK (swap op) e d = cmpCK op d e := by
  cases d <;> cases e
  · exact cmpPair_swap ho _ _
  · rfl
  · rfl
  · exact cmpRow_swap ho _ _
theorem cmpCK_self (d : CK) : cmpCK .Eq d d = true := by
  cases d
  · exact cmpPair_self _
  · exact cmpRow_self _
theorem cmpCK_ne_self (d : CK) : cmpCK .NotEq d d = false := by
  cases d
  · exact cmpPair_ne_self _
  · exact cmpRow_ne_self _
theorem rc_dat {A : Around} {s : Shared} {op : CmpOp} (ho : ord op = true) {v u : Value} {d e : CK} (hx : DatAt s.heap v d) (hy : DatAt s.heap u e) (hk : sameK d e) (hu : A.units + 1 < cLine) : RcOp A s op v u (cmpCK op d e) := by
  cases d <;> cases e
  · exact rc_pair ho hx hy (by omega)
  · exact hk.elim
  · exact hk.elim
  · exact rc_row ho hx hy hu
end Mine
end
section
set_option maxRecDepth 100000
set_option maxHeartbeats 4000000
open PySem PySem.W PyProof.Rows
namespace Mine
abbrev tagDict (h1 h2 h3 h4 : Int) (k1 k2 k3 k4 : Tok) (c f n : Int) (t1 t2 t3 : Tok) (p : Addr) : Obj :=
  dictOf [⟨h1, .str (Str.ofString "_Tag__tagClass") k1, .int c t1⟩, ⟨h2, .str (Str.ofString "_Tag__tagFormat") k2, .int f t2⟩,
    ⟨h3, .str (Str.ofString "_Tag__tagId") k3, .int n t3⟩, ⟨h4, .str (Str.ofString "_Tag__tagClassId") k4, .ref p⟩] 4
structure TagIs (h : Heap) (a : Addr) (c f n : Int) (t1 t2 t3 : Tok) (p : Addr) : Prop where
  ex : ∃ h1 h2 h3 h4 k1 k2 k3 k4 dx, h.get? a = some (instObj 181 dx) ∧ h.get? dx = some (tagDict h1 h2 h3 h4 k1 k2 k3 k4 c f n t1 t2 t3 p)
  tup : h.get? p = some (tupObj [.int c t1, .int n t3])
theorem TagIs.keep {h h' : Heap} {a : Addr} {c f n : Int} {t1 t2 t3 : Tok} {p : Addr} (T : TagIs h a c f n t1 t2 t3 p) (k : ∀ b o, h.get? b = some o → h'.get? b = some o) : TagIs h' a c f n t1 t2 t3 p := by
  obtain ⟨⟨h1, h2, h3, h4, k1, k2, k3, k4, dx, e1, e2⟩, e3⟩ := T
  exact ⟨⟨h1, h2, h3, h4, k1, k2, k3, k4, dx, k _ _ e1, k _ _ e2⟩, k _ _ e3⟩
section
variable {w : World} {A : Around} {s : Shared} {a p : Addr} {c f n : Int} {t1 t2 t3 : Tok} {E Q : Value → Shared → Prop}
theorem own_get {C : Addr} {ox : Obj} {name : Str} {es : List DictEntry} {m : Nat} {v : Value} (X : (hd.heap_39 w.params).In s.heap) (I : InstAt s.heap a ox C (some (dictOf es m))) (hg : plainGet (hd.heap_39 w.params) C name = true) (hh : hasDictIn (hd.heap_39 w.params) C = true)
    (ha : findIn (hd.heap_39 w.params) (.ref C) name = some none) (hl : getL name es = some (some v)) (hv : handedIn v = true) (h : Q v { s with toks := s.toks + 1 }) : wpAny (M w) A (getAttr (.ref a) name true) Q E s :=
  get_value X I (plainGet_of hg).1 (findObj_own hh ha rfl hl) hv h
theorem tagClass_own (X : (hd.heap_39 w.params).In s.heap) (T : TagIs s.heap a c f n t1 t2 t3 p) (h : Q (.int c t1) { s with toks := s.toks + 1 }) : wpAny (M w) A (getAttr (.ref a) (Str.ofString "_Tag__tagClass") true) Q E s := by
  have hg : plainGet (hd.heap_39 w.params) 181 (Str.ofString "_Tag__tagClass") = true := by k_is
  have hh : hasDictIn (hd.heap_39 w.params) 181 = true := by k_is
  have ha : findIn (hd.heap_39 w.params) (.ref 181) (Str.ofString "_Tag__tagClass") = some none := by k_is
  obtain ⟨⟨h1, h2, h3, h4, k1, k2, k3, k4, dx, e1, e2⟩, e3⟩ := T
  exact own_get X ⟨e1, rfl, rfl, e2⟩ hg hh ha rfl rfl h
theorem tagFormat_own (X : (hd.heap_39 w.params).In s.heap) (T : TagIs s.heap a c f n t1 t2 t3 p) (h : Q (.int f t2) { s with toks := s.toks + 1 }) : wpAny (M w) A (getAttr (.ref a) (Str.ofString "_Tag__tagFormat") true) Q E s := by
  have hg : plainGet (hd.heap_39 w.params) 181 (Str.ofString "_Tag__tagFormat") = true := by k_is
  have hh : hasDictIn (hd.heap_39 w.params) 181 = true := by k_is
  have ha : findIn (hd.heap_39 w.params) (.ref 181) (Str.ofString "_Tag__tagFormat") = some none := by k_is
  obtain ⟨⟨h1, h2, h3, h4, k1, k2, k3, k4, dx, e1, e2⟩, e3⟩ := T
  exact own_get X ⟨e1, rfl, rfl, e2⟩ hg hh ha rfl rfl h
theorem tagId_own (X : (hd.heap_39 w.params).In s.heap) (T : TagIs s.heap a c f n t1 t2 t3 p) (h : Q (.int n t3) { s with toks := s.toks + 1 }) : wpAny (M w) A (getAttr (.ref a) (Str.ofString "_Tag__tagId") true) Q E s := by
  have hg : plainGet (hd.heap_39 w.params) 181 (Str.ofString "_Tag__tagId") = true := by k_is
  have hh : hasDictIn (hd.heap_39 w.params) 181 = true := by k_is
  have ha : findIn (hd.heap_39 w.params) (.ref 181) (Str.ofString "_Tag__tagId") = some none := by k_is
  obtain ⟨⟨h1, h2, h3, h4, k1, k2, k3, k4, dx, e1, e2⟩, e3⟩ := T
  exact own_get X ⟨e1, rfl, rfl, e2⟩ hg hh ha rfl rfl h
theorem tagClassId_own (X : (hd.heap_39 w.params).In s.heap) (T : TagIs s.heap a c f n t1 t2 t3 p) (h : Q (.ref p) { s with toks := s.toks + 1 }) : wpAny (M w) A (getAttr (.ref a) (Str.ofString "_Tag__tagClassId") true) Q E s := by
  have hg : plainGet (hd.heap_39 w.params) 181 (Str.ofString "_Tag__tagClassId") = true := by k_is
  have hh : hasDictIn (hd.heap_39 w.params) 181 = true := by k_is
  have ha : findIn (hd.heap_39 w.params) (.ref 181) (Str.ofString "_Tag__tagClassId") = some none := by k_is
  obtain ⟨⟨h1, h2, h3, h4, k1, k2, k3, k4, dx, e1, e2⟩, e3⟩ := T
  exact own_get X ⟨e1, rfl, rfl, e2⟩ hg hh ha rfl rfl h
end
end Mine
end
section
set_option maxRecDepth 100000
set_option maxHeartbeats 4000000
open PySem PySem.W PyProof.Rows
namespace Mine
section
variable {w : World} {A : Around} {s : Shared} {a p : Addr} {c f n : Int} {t1 t2 t3 : Tok} {E Q : Value → Shared → Prop}
theorem tagClass_prop {k : Nat} (C : Cx w s.heap) (hA : Sm (k + 2) A) (T : TagIs s.heap a c f n t1 t2 t3 p) : Gv w A (getAttr (.ref a) (Str.ofString "tagClass") true) (fun v _ => v = .int c t1) s := by
  have X := C.X
  obtain ⟨_, _, _, TT⟩ := C.T
  have hg : plainGet (hd.heap_39 w.params) 181 (Str.ofString "tagClass") = true := by k_is
  have hh : hasDictIn (hd.heap_39 w.params) 181 = true := by k_is
  obtain ⟨⟨h1, h2, h3, h4, k1, k2, k3, k4, dx, e1, e2⟩, e3⟩ := id T
  refine' get_bind X ⟨e1, rfl, rfl, e2⟩ (plainGet_of hg).1 (findObj_data (by obtain ⟨cd, hc, _⟩ := any_some hh; rw [hc]; rfl) ?ha ?hn ?ht) (plainGet_of hg).2 (wpAny_call (prop_get (s := { s with toks := s.toks + 1 }) X ?hp ?hcode))
  case ha => k_is
  case hn => k_is
  case ht => k_is
  case hp => k_is
  case hcode =>
    refine' codeAny_mono (code_fn (s := { s with toks := s.toks + 1 }) (P := fun v _ => v = .int c t1) C hA.in1 ?ho ?hcd ?hb ?hl ?hc ?c1 ?c2 ?c3 ?_) ?_
    case ho => k_is
    case hcd => k_is
    case hb => exact BindsTo.of_eq rfl
    case hl => exact locs rfl
    case hc => decide
    case c1 => rfl
    case c2 => rfl
    case c3 => rfl
    · intro L s₀ k₀ F hA'
      walk1; walk1; walk1; walk1
      refine' tagClass_own ?hx ?ht ?_
      case hx => exact X.keeps F.keep
      case ht => exact T.keep F.keep
      exact ⟨k₀.toks, rfl⟩
    · intro r s' hr
      cases r with
      | error e => exact hr.elim
      | ok fl =>
        cases fl with
        | ret v =>
          obtain ⟨hk, rfl⟩ := hr
          exact handed_on rfl ⟨Kp.trans (Kp.heap fun _ _ e => e) hk, rfl⟩
        | _ => exact hr.elim
theorem tagFormat_prop {k : Nat} (C : Cx w s.heap) (hA : Sm (k + 2) A) (T : TagIs s.heap a c f n t1 t2 t3 p) : Gv w A (getAttr (.ref a) (Str.ofString "tagFormat") true) (fun v _ => v = .int f t2) s := by
  have X := C.X
  obtain ⟨_, _, _, TT⟩ := C.T
  have hg : plainGet (hd.heap_39 w.params) 181 (Str.ofString "tagFormat") = true := by k_is
  have hh : hasDictIn (hd.heap_39 w.params) 181 = true := by k_is
  obtain ⟨⟨h1, h2, h3, h4, k1, k2, k3, k4, dx, e1, e2⟩, e3⟩ := id T
  refine' get_bind X ⟨e1, rfl, rfl, e2⟩ (plainGet_of hg).1 (findObj_data (by obtain ⟨cd, hc, _⟩ := any_some hh; rw [hc]; rfl) ?ha ?hn ?ht) (plainGet_of hg).2 (wpAny_call (prop_get (s := { s with toks := s.toks + 1 }) X ?hp ?hcode))
  case ha => k_is
  case hn => k_is
  case ht => k_is
  case hp => k_is
  case hcode =>
    refine' codeAny_mono (code_fn (s := { s with toks := s.toks + 1 }) (P := fun v _ => v = .int f t2) C hA.in1 ?ho ?hcd ?hb ?hl ?hc ?c1 ?c2 ?c3 ?_) ?_
    case ho => k_is
    case hcd => k_is
    case hb => exact BindsTo.of_eq rfl
    case hl => exact locs rfl
    case hc => decide
    case c1 => rfl
    case c2 => rfl
    case c3 => rfl
    · intro L s₀ k₀ F hA'
      walk1; walk1; walk1; walk1
      refine' tagFormat_own ?hx ?ht ?_
      case hx => exact X.keeps F.keep
      case ht => exact T.keep F.keep
      exact ⟨k₀.toks, rfl⟩
    · intro r s' hr
      cases r with
      | error e => exact hr.elim
      | ok fl =>
        cases fl with
        | ret v =>
          obtain ⟨hk, rfl⟩ := hr
          exact handed_on rfl ⟨Kp.trans (Kp.heap fun _ _ e => e) hk, rfl⟩
        | _ => exact hr.elim
theorem tagId_prop {k : Nat} (C : Cx w s.heap) (hA : Sm (k + 2) A) (T : TagIs s.heap a c f n t1 t2 t3 p) : Gv w A (getAttr (.ref a) (Str.ofString "tagId") true) (fun v _ => v = .int n t3) s := by
  have X := C.X
  obtain ⟨_, _, _, TT⟩ := C.T
  have hg : plainGet (hd.heap_39 w.params) 181 (Str.ofString "tagId") = true := by k_is
  have hh : hasDictIn (hd.heap_39 w.params) 181 = true := by k_is
  obtain ⟨⟨h1, h2, h3, h4, k1, k2, k3, k4, dx, e1, e2⟩, e3⟩ := id T
  refine' get_bind X ⟨e1, rfl, rfl, e2⟩ (plainGet_of hg).1 (findObj_data (by obtain ⟨cd, hc, _⟩ := any_some hh; rw [hc]; rfl) ?ha ?hn ?ht) (plainGet_of hg).2 (wpAny_call (prop_get (s := { s with toks := s.toks + 1 }) X ?hp ?hcode))
  case ha => k_is
  case hn => k_is
  case ht => k_is
  case hp => k_is
  case hcode =>
    refine' codeAny_mono (code_fn (s := { s with toks := s.toks + 1 }) (P := fun v _ => v = .int n t3) C hA.in1 ?ho ?hcd ?hb ?hl ?hc ?c1 ?c2 ?c3 ?_) ?_
    case ho => k_is
    case hcd => k_is
    case hb => exact BindsTo.of_eq rfl
    case hl => exact locs rfl
    case hc => decide
    case c1 => rfl
    case c2 => rfl
    case c3 => rfl
    · intro L s₀ k₀ F hA'
      walk1; walk1; walk1; walk1
      refine' tagId_own ?hx ?ht ?_
      case hx => exact X.keeps F.keep
      case ht => exact T.keep F.keep
      exact ⟨k₀.toks, rfl⟩
    · intro r s' hr
      cases r with
      | error e => exact hr.elim
      | ok fl =>
        cases fl with
        | ret v =>
          obtain ⟨hk, rfl⟩ := hr
          exact handed_on rfl ⟨Kp.trans (Kp.heap fun _ _ e => e) hk, rfl⟩
        | _ => exact hr.elim
theorem tagClass_use (C : Cx w s.heap) (hA : Sm 2 A) (T : TagIs s.heap a c f n t1 t2 t3 p) (h : ∀ s', Kp s s' → Q (.int c t1) s') : wpAny (M w) A (getAttr (.ref a) (Str.ofString "tagClass") true) Q E s :=
  (tagClass_prop (k := 0) C hA T).use fun v s' hk hv => by subst hv; exact h s' hk
theorem tagFormat_use (C : Cx w s.heap) (hA : Sm 2 A) (T : TagIs s.heap a c f n t1 t2 t3 p) (h : ∀ s', Kp s s' → Q (.int f t2) s') : wpAny (M w) A (getAttr (.ref a) (Str.ofString "tagFormat") true) Q E s :=
  (tagFormat_prop (k := 0) C hA T).use fun v s' hk hv => by subst hv; exact h s' hk
theorem tagId_use (C : Cx w s.heap) (hA : Sm 2 A) (T : TagIs s.heap a c f n t1 t2 t3 p) (h : ∀ s', Kp s s' → Q (.int n t3) s') : wpAny (M w) A (getAttr (.ref a) (Str.ofString "tagId") true) Q E s :=
  (tagId_prop (k := 0) C hA T).use fun v s' hk hv => by subst hv; exact h s' hk
end
end Mine
end
section
set_option maxRecDepth 100000
set_option maxHeartbeats 4000000
open PySem PySem.W PyProof.Rows
namespace Mine
/-- a comparison's answer: the one bool -/
abbrev RcG (w : World) (A : Around) (s : Shared) (op : CmpOp) (a b : Value) (k : Bool) : Prop := Gv w A (richCompare op a b) (fun v _ => v = .bool k) s
theorem RcOp.g {w : World} {A : Around} {s : Shared} {op : CmpOp} {a b : Value} {k : Bool} (h : RcOp A s op a b k) : RcG w A s op a b k := h _ w _ _ ⟨Kp.refl s, rfl⟩
abbrev SELF : Str := Str.ofString "self"
abbrev OTHER : Str := Str.ofString "other"
section
variable {w : World} {A : Around} {s : Shared}
theorem cmp_call {cl f dx a p : Addr} {op : CmpOp} {es : List DictEntry} {n k : Nat} {b : Value} {FIELD name qual : Str} {q1 q2 q3 q4 q5 q6 q7 : Pos} {oc : Value} {od : Option Addr} {osl : Array (Option Value)} {doc pm cdv ct : Value} {an : Option Addr} {ans : Bool}
    (C : Cx w s.heap) (hA : Sm (k + 1) A) (e1 : s.heap.get? a = some (instObj cl dx)) (e2 : s.heap.get? dx = some (dictOf es n)) (hl : getL FIELD es = some (some (.ref p)))
    (hg : plainGet (hd.heap_39 w.params) cl FIELD = true) (hh : hasDictIn (hd.heap_39 w.params) cl = true) (ha : findIn (hd.heap_39 w.params) (.ref cl) FIELD = some none)
    (ho : (hd.heap_39 w.params).lookup f = some ⟨oc, od, .func (fnOf name qual { posonlyargs := [], args := [{ arg := SELF, annotation := none, pos := q1 }, { arg := OTHER, annotation := none, pos := q2 }], vararg := none, kwonlyargs := [], kw_defaults := [], kwarg := none, defaults := [] }
      [.Return (some (.Compare (.Attribute (.Name SELF q3) FIELD q4) [op] [.Name OTHER q5] q6)) q7] { kind := .function, names := [(SELF, .local), (OTHER, .local)], isGenerator := false, isCoroutine := false, more := [] } .none .none doc pm an cdv ct), osl⟩)
    (hcd : codeIn (hd.heap_39 w.params) cdv qual = true) (hbi : behindInMarks op (.Name OTHER q5) = false) (hce : ∀ a b, compareOp op a b = richCompare op a b)
    (inner : ∀ A' s', Sm k A' → Kp s s' → RcG w A' s' op (.ref p) b ans) : Gv w A (call (.ref f) [.ref a, b]) (fun v _ => v = .bool ans) s := by
  refine' call_fn C hA ho hcd ?hb ?hl ?hc rfl rfl rfl ?_
  case hb => exact BindsTo.of_eq rfl
  case hl => exact locs rfl
  case hc => decide
  intro L s₀ k₀ F hA'
  refine wpAny_execs_cons (wpAny_Return_some (wpAny_Compare1 (Attribute_name (ld F rfl ?_)) hbi))
  refine own_get (C.X.keeps F.keep) ⟨F.keep _ _ e1, rfl, rfl, F.keep _ _ e2⟩ hg hh ha hl rfl ?_
  refine ld (s := { s₀ with toks := _ }) F rfl ?_
  rw [hce]
  exact (inner _ { s₀ with toks := _ } hA' k₀.toks).use fun v s' hk hv => ⟨Kp.trans k₀.toks hk, hv⟩

structure Meth (w : World) (cl : Addr) (FIELD : Str) (op : CmpOp) (f : Addr) : Prop where
  find : findIn (hd.heap_39 w.params) (.ref cl) (cmpInfo op).2.1 = some (some (.ref f))
  isfn : isFn (hd.heap_39 w.params) (.ref f) = true
  fn : ∃ (name qual : Str) (q1 q2 q3 q4 q5 q6 q7 : Pos) (oc : Value) (od : Option Addr) (osl : Array (Option Value)) (doc pm cdv ct : Value) (an : Option Addr),
    (hd.heap_39 w.params).lookup f = some ⟨oc, od, .func (fnOf name qual { posonlyargs := [], args := [{ arg := SELF, annotation := none, pos := q1 }, { arg := OTHER, annotation := none, pos := q2 }], vararg := none, kwonlyargs := [], kw_defaults := [], kwarg := none, defaults := [] }
      [.Return (some (.Compare (.Attribute (.Name SELF q3) FIELD q4) [op] [.Name OTHER q5] q6)) q7] { kind := .function, names := [(SELF, .local), (OTHER, .local)], isGenerator := false, isCoroutine := false, more := [] } .none .none doc pm an cdv ct), osl⟩
    ∧ codeIn (hd.heap_39 w.params) cdv qual = true ∧ behindInMarks op (.Name OTHER q5) = false
structure Cls (w : World) (cl : Addr) (FIELD : Str) : Prop where
  get : plainGet (hd.heap_39 w.params) cl FIELD = true
  dict : hasDictIn (hd.heap_39 w.params) cl = true
  none_ : findIn (hd.heap_39 w.params) (.ref cl) FIELD = some none
  tup : notFirst (hd.heap_39 w.params) cl (.type "tuple") = true
  self : notFirst (hd.heap_39 w.params) cl (.ref cl) = true
  nsub : subIn (hd.heap_39 w.params) (.ref cl) (.type "tuple") = some false
  meth : ∀ op, ord op = true → ∃ f, Meth w cl FIELD op f
theorem ce_ord {op : CmpOp} (ho : ord op = true) (a b : Value) : compareOp op a b = richCompare op a b := by
  match op, ho with
  | .Eq, _ => rfl
  | .NotEq, _ => rfl
  | .Lt, _ => rfl
  | .LtE, _ => rfl
  | .Gt, _ => rfl
  | .GtE, _ => rfl
/-- an object of one of the two classes, its row p -/
def ObjAt (h : Heap) (a cl : Addr) (FIELD : Str) (p : Addr) : Prop := ∃ dx es n, h.get? a = some (instObj cl dx) ∧ h.get? dx = some (dictOf es n) ∧ getL FIELD es = some (some (.ref p))
theorem ObjAt.keep {h h' : Heap} {a cl p : Addr} {FIELD : Str} (H : ObjAt h a cl FIELD p) (k : ∀ b o, h.get? b = some o → h'.get? b = some o) : ObjAt h' a cl FIELD p := by
  obtain ⟨dx, es, n, e1, e2, e3⟩ := H
  exact ⟨dx, es, n, k _ _ e1, k _ _ e2, e3⟩
variable {cl a p : Addr} {FIELD : Str} {op : CmpOp} {k : Nat}
theorem key_call {b : Value} {ans : Bool} {f : Addr} (C : Cx w s.heap) (hA : Sm (k + 1) A) (ho : ord op = true) (HC : Cls w cl FIELD) (hf : Meth w cl FIELD op f) (H : ObjAt s.heap a cl FIELD p)
    (inner : ∀ A' s', Sm k A' → Kp s s' → RcG w A' s' op (.ref p) b ans) : Gv w A (call (.ref f) [.ref a, b]) (fun v _ => v = .bool ans) s := by
  obtain ⟨dx, es, n, e1, e2, e3⟩ := H
  obtain ⟨name, qual, q1, q2, q3, q4, q5, q6, q7, oc, od, osl, doc, pm, cdv, ct, an, hlk, hcd, hbi⟩ := hf.fn
  exact cmp_call C hA e1 e2 e3 HC.get HC.dict HC.none_ hlk hcd hbi (ce_ord ho) inner
theorem key_left {b : Value} {tb : Value} {ans : Bool} (C : Cx w s.heap) (hA : Sm (k + 1) A) (ho : ord op = true) (HC : Cls w cl FIELD) (H : ObjAt s.heap a cl FIELD p) (hb : Looks (M w) s.heap (typeOf b) tb) (hn : notFirst (hd.heap_39 w.params) cl tb = true)
    (inner : ∀ A' s', Sm k A' → Kp s s' → RcG w A' s' op (.ref p) b ans) : RcG w A s op (.ref a) b ans := by
  obtain ⟨f, hf⟩ := HC.meth op ho
  have hc := key_call C hA ho HC hf H inner
  obtain ⟨dx, es, n, e1, e2, e3⟩ := H
  obtain ⟨h₀, L, m, F, X₀⟩ := C.B
  exact cmp_K (od := some (dictOf es n)) hA.cl F X₀ ⟨e1, rfl, rfl, e2⟩ hb hn hf.find hf.isfn
    (hc.use fun v s' hk hv => by subst hv; exact ⟨hk, rfl⟩)

theorem key_right {q : Addr} {items : Array Value} {n : Nat} {ans : Bool} (C : Cx w s.heap) (hA : Sm (k + 1) A) (ho : ord op = true) (HC : Cls w cl FIELD) (H : ObjAt s.heap a cl FIELD p) (hq : s.heap.get? q = some { cls := .type "tuple", data := .seq items n })
    (inner : ∀ A' s', Sm k A' → Kp s s' → RcG w A' s' (swap op) (.ref p) (.ref q) ans) : RcG w A s op (.ref q) (.ref a) ans := by
  obtain ⟨f, hf⟩ := HC.meth (swap op) (swap_ord ho)
  have hc := key_call C hA (swap_ord ho) HC hf H inner
  obtain ⟨dx, es, n', e1, e2, e3⟩ := H
  have I : InstAt s.heap a (instObj cl dx) cl (some (dictOf es n')) := ⟨e1, rfl, rfl, e2⟩
  have X := C.X
  have hT : ∀ Md, Looks Md s.heap (typeOf (.ref q)) (.type "tuple") := fun Md => (Looks.ld hq).andThen .now
  have hI : ∀ Md, Looks Md s.heap (typeOf (.ref a)) (.ref cl) := fun Md => I.type
  have hNT : NotTup (.ref a) s := fun prog w' A' Q' E' hQ => by
    unfold isInstance
    exact wpAny_bind ((hI _).here ((looks_subIn X HC.nsub).here hQ))
  have hfind : findIn (hd.heap_39 w.params) (.ref cl) (cmpInfo op).2.2 = some (some (.ref f)) := by rw [swap_info ho]; exact hf.find
  show wpAny (M w) A (richCompare op (.ref q) (.ref a)) _ _ s
  unfold richCompare
  simp only [oneThing_ref]
  refine wpAny_holding (wpAny_bind (wpAny_cRoomFor hA.cl ?_))
  refine wpAny_bind ((hT _).here (wpAny_bind ((hI _).here ?_)))
  rw [if_pos (by rfl)]
  refine wpAny_bind ((looks_subIn X HC.nsub).here ?_)
  simp only [Bool.false_eq_true, if_false]
  refine wpAny_bind (tuple_declines ho hq hNT ?_)
  simp only [Bool.not_false, if_true]
  refine wpAny_bind ?_
  unfold tryCompare
  refine wpAny_bind (ifBound_K X I hfind hf.isfn ?_)
  refine hc.use fun v s' hk hv => ?_
  subst hv
  exact wpAny_pure (wpAny_pure ⟨hk, rfl⟩)
/-- a row, or an object that is compared by its row -/
inductive KeyAt (h : Heap) (cl : Addr) (FIELD : Str) (v : Value) (d : CK) : Prop
  | dat (H : DatAt h v d)
  | obj (a p : Addr) (e : v = .ref a) (H : ObjAt h a cl FIELD p) (D : DatAt h (.ref p) d)
theorem KeyAt.keep {h h' : Heap} {v : Value} {d : CK} (H : KeyAt h cl FIELD v d) (k : ∀ b o, h.get? b = some o → h'.get? b = some o) : KeyAt h' cl FIELD v d := by
  cases H with
  | dat H => exact .dat (H.keep k)
  | obj a p e H D => exact .obj a p e (H.keep k) (D.keep k)
theorem cmp_key {v u : Value} {d e : CK} (C : Cx w s.heap) (hA : Sm (k + 2) A) (ho : ord op = true) (HC : Cls w cl FIELD) (hx : KeyAt s.heap cl FIELD v d) (hy : KeyAt s.heap cl FIELD u e) (hk : sameK d e) : RcG w A s op v u (cmpCK op d e) := by
  have roomy : ∀ {j : Nat} {A' : Around}, Sm j A' → A'.units + 1 < cLine := fun {j A'} h => by have := h.units; show A'.units + 1 < 9900; omega
  cases hx with
  | dat hx =>
    cases hy with
    | dat hy => exact (rc_dat ho hx hy hk (roomy hA)).g
    | obj a p eu H D =>
      subst eu
      obtain ⟨q, items, n, rfl, hq⟩ := hx.tup
      refine key_right (k := k + 1) C hA ho HC H hq fun A' s' hA' hk' => ?_
      rw [← cmpCK_swap ho]
      exact (rc_dat (swap_ord ho) (D.keep hk'.keep) (hx.keep hk'.keep) hk.symm (roomy hA')).g
  | obj a p ev H D =>
    subst ev
    cases hy with
    | dat hy =>
      obtain ⟨q, items, n, rfl, hq⟩ := hy.tup
      refine key_left (k := k + 1) C hA ho HC H ((Looks.ld hq).andThen .now) HC.tup fun A' s' hA' hk' => ?_
      exact (rc_dat ho (D.keep hk'.keep) (hy.keep hk'.keep) hk (roomy hA')).g
    | obj a' p' eu H' D' =>
      subst eu
      have hI : Looks (M w) s.heap (typeOf (.ref a')) (.ref cl) := by
        obtain ⟨dx, es, n', e1, e2, e3⟩ := H'
        exact InstAt.type (od := some (dictOf es n')) ⟨e1, rfl, rfl, e2⟩
      refine key_left (k := k + 1) C hA ho HC H hI HC.self fun A' s' hA' hk' => ?_
      obtain ⟨q, items, n, hq', hq⟩ := D.tup
      cases hq'
      refine key_right (k := k) (C.keep hk'.keep) hA' ho HC (H'.keep hk'.keep) (hk'.keep _ _ hq) fun A'' s'' hA'' hk'' => ?_
      rw [← cmpCK_swap ho]
      exact (rc_dat (swap_ord ho) (D'.keep (hk'.trans hk'').keep) (D.keep (hk'.trans hk'').keep) hk.symm (roomy hA'')).g
abbrev FT : Str := Str.ofString "_Tag__tagClassId"
abbrev FS : Str := Str.ofString "_TagSet__superTagsClassId"
theorem cls_Tag (w : World) : Cls w 181 (Str.ofString "_Tag__tagClassId") := by
  refine ⟨by k_is, by k_is, by k_is, by k_is, by k_is, by k_is, fun op ho => ?_⟩
  match op, ho with
  | .Eq, _ => exact ⟨84, by k_is, by k_is, _, _, _, _, _, _, _, _, _, _, _, _, _, _, _, _, _, by k_is, by k_is, rfl⟩
  | .NotEq, _ => exact ⟨91, by k_is, by k_is, _, _, _, _, _, _, _, _, _, _, _, _, _, _, _, _, _, by k_is, by k_is, rfl⟩
  | .Lt, _ => exact ⟨98, by k_is, by k_is, _, _, _, _, _, _, _, _, _, _, _, _, _, _, _, _, _, by k_is, by k_is, rfl⟩
  | .LtE, _ => exact ⟨105, by k_is, by k_is, _, _, _, _, _, _, _, _, _, _, _, _, _, _, _, _, _, by k_is, by k_is, rfl⟩
  | .Gt, _ => exact ⟨112, by k_is, by k_is, _, _, _, _, _, _, _, _, _, _, _, _, _, _, _, _, _, by k_is, by k_is, rfl⟩
  | .GtE, _ => exact ⟨119, by k_is, by k_is, _, _, _, _, _, _, _, _, _, _, _, _, _, _, _, _, _, by k_is, by k_is, rfl⟩
theorem cls_TagSet (w : World) : Cls w 321 (Str.ofString "_TagSet__superTagsClassId") := by
  refine ⟨by k_is, by k_is, by k_is, by k_is, by k_is, by k_is, fun op ho => ?_⟩
  match op, ho with
  | .Eq, _ => exact ⟨232, by k_is, by k_is, _, _, _, _, _, _, _, _, _, _, _, _, _, _, _, _, _, by k_is, by k_is, rfl⟩
  | .NotEq, _ => exact ⟨239, by k_is, by k_is, _, _, _, _, _, _, _, _, _, _, _, _, _, _, _, _, _, by k_is, by k_is, rfl⟩
  | .Lt, _ => exact ⟨246, by k_is, by k_is, _, _, _, _, _, _, _, _, _, _, _, _, _, _, _, _, _, by k_is, by k_is, rfl⟩
  | .LtE, _ => exact ⟨253, by k_is, by k_is, _, _, _, _, _, _, _, _, _, _, _, _, _, _, _, _, _, by k_is, by k_is, rfl⟩
  | .Gt, _ => exact ⟨260, by k_is, by k_is, _, _, _, _, _, _, _, _, _, _, _, _, _, _, _, _, _, by k_is, by k_is, rfl⟩
  | .GtE, _ => exact ⟨267, by k_is, by k_is, _, _, _, _, _, _, _, _, _, _, _, _, _, _, _, _, _, by k_is, by k_is, rfl⟩
end
end Mine
end
section
set_option maxRecDepth 100000
set_option maxHeartbeats 4000000
open PySem PySem.W PyProof.Rows
namespace Mine
local macro_rules | `(tactic| ktr_rel) => `(tactic| repeat ((fail_if_success (first | with_reducible show wpAny _ _ (call _ _ _) _ _ _ | with_reducible show wpAny _ _ (compareOp _ _ _) _ _ _ | with_reducible show wpAny _ _ (getAttr (Value.ref _) _ _) _ _ _ | with_reducible show wpAny _ _ (subscriptTail _ _ _ _) _ _ _ | with_reducible show wpAny _ _ (binaryOp _ _ _) _ _ _)); walk1))
section
variable {w : World} {A : Around} {s : Shared} {cl : Addr} {FIELD : Str} {k : Nat}
theorem weigh1 {base : Heap} {L f : Addr} {m : Str → Option Value} {qual : Str} {sc : Scope} {cd v u p q : Value} {d e : CK} {op : CmpOp} {x1 x2 x3 x4 : Str} {p1 p2 p3 p4 p5 p6 p7 : Pos}
    (C : Cx w base) (F : Fr base L s.heap m) (hA : Sm (k + 2) A) (ho : ord op = true) (HC : Cls w cl FIELD) (hv : KeyAt base cl FIELD v d) (hu : KeyAt base cl FIELD u e) (hp : DatAt base p d) (hq : DatAt base q e) (hk : sameK d e)
    (m1 : m x1 = some v) (m2 : m x2 = some u) (m3 : m x3 = some p) (m4 : m x4 = some q) (hs : sc.kind = .function)
    (l1 : (envOf qual sc L f cd).kindOf x1 = some .local) (l2 : (envOf qual sc L f cd).kindOf x2 = some .local) (l3 : (envOf qual sc L f cd).kindOf x3 = some .local) (l4 : (envOf qual sc L f cd).kindOf x4 = some .local)
    (d1 : (x1 == ("__debug__" : Str)) = false) (d2 : (x2 == ("__debug__" : Str)) = false) (d3 : (x3 == ("__debug__" : Str)) = false) (d4 : (x4 == ("__debug__" : Str)) = false) (hb : behindInMarks op (.Name x2 p2) = false) (hb' : behindInMarks op (.Name x4 p4) = false) :
    Gv w A (eval (.Compare (.Compare (.Name x1 p1) [op] [.Name x2 p2] p3) [.Eq] [.Compare (.Name x3 p5) [op] [.Name x4 p4] p6] p7) (envOf qual sc L f cd)) (fun r _ => r = .bool true) s := by
  refine wpAny_Compare1 (wpAny_Compare1 (ld F m1 (ld F m2 ?_ hs l2 d2) hs l1 d1) hb) rfl
  rw [ce_ord ho]
  refine (cmp_key (C.keep F.keep) hA ho HC (hv.keep F.keep) (hu.keep F.keep) hk).use fun r s₁ k₁ hr => ?_
  subst hr
  have F₁ := F.keeps k₁.keep
  refine wpAny_Compare1 (ld F₁ m3 (ld F₁ m4 ?_ hs l4 d4) hs l3 d3) hb'
  rw [ce_ord ho]
  refine (cmp_key (C.keep F₁.keep) hA ho HC (.dat (hp.keep F₁.keep)) (.dat (hq.keep F₁.keep)) hk).use fun r s₂ k₂ hr => ?_
  subst hr
  refine eq_bool ?_
  exact ⟨k₁.trans k₂, by simp⟩
theorem weighs {v u p q : Value} {d e : CK} (C : Cx w s.heap) (hA : Sm (k + 3) A) (HC : Cls w cl FIELD) (hv : KeyAt s.heap cl FIELD v d) (hu : KeyAt s.heap cl FIELD u e) (hp : DatAt s.heap p d) (hq : DatAt s.heap q e) (hk : sameK d e) :
    Gv w A (call (.ref 353) [v, u, p, q]) (fun r _ => r = .bool true) s := by
  refine' call_fn C hA ?ho ?hcd ?hb ?hl ?hc ?c1 ?c2 ?c3 ?_
  case ho => k_is
  case hcd => k_is
  case hb => exact BindsTo.of_eq rfl
  case hl => exact locs rfl
  case hc => decide
  case c1 => rfl
  case c2 => rfl
  case c3 => rfl
  intro L s₀ k₀ F hA'
  refine wpAny_execs_cons (wpAny_Return_some ?_)
  refine BoolOp_and ?_
  refine (weigh1 C F hA' rfl HC hv hu hp hq hk rfl rfl rfl rfl rfl rfl rfl rfl rfl (by decide) (by decide) (by decide) (by decide) rfl rfl).use fun r s1 k1 hr => ?_
  subst hr
  refine wpAny_truthy_bool ?_
  simp only [if_true]
  have F1 := F.keeps k1.keep
  refine BoolOp_and ?_
  refine (weigh1 C F1 hA' rfl HC hv hu hp hq hk rfl rfl rfl rfl rfl rfl rfl rfl rfl (by decide) (by decide) (by decide) (by decide) rfl rfl).use fun r s2 k2 hr => ?_
  subst hr
  refine wpAny_truthy_bool ?_
  simp only [if_true]
  have F2 := F1.keeps k2.keep
  refine BoolOp_and ?_
  refine (weigh1 C F2 hA' rfl HC hv hu hp hq hk rfl rfl rfl rfl rfl rfl rfl rfl rfl (by decide) (by decide) (by decide) (by decide) rfl rfl).use fun r s3 k3 hr => ?_
  subst hr
  refine wpAny_truthy_bool ?_
  simp only [if_true]
  have F3 := F2.keeps k3.keep
  refine BoolOp_and ?_
  refine (weigh1 C F3 hA' rfl HC hv hu hp hq hk rfl rfl rfl rfl rfl rfl rfl rfl rfl (by decide) (by decide) (by decide) (by decide) rfl rfl).use fun r s4 k4 hr => ?_
  subst hr
  refine wpAny_truthy_bool ?_
  simp only [if_true]
  have F4 := F3.keeps k4.keep
  refine BoolOp_and ?_
  refine (weigh1 C F4 hA' rfl HC hv hu hp hq hk rfl rfl rfl rfl rfl rfl rfl rfl rfl (by decide) (by decide) (by decide) (by decide) rfl rfl).use fun r s5 k5 hr => ?_
  subst hr
  refine wpAny_truthy_bool ?_
  simp only [if_true]
  have F5 := F4.keeps k5.keep
  refine BoolOp_one ?_
  refine (weigh1 C F5 hA' rfl HC hv hu hp hq hk rfl rfl rfl rfl rfl rfl rfl rfl rfl (by decide) (by decide) (by decide) (by decide) rfl rfl).use fun r s6 k6 hr => ?_
  subst hr
  exact ⟨k₀.trans (k1.trans (k2.trans (k3.trans (k4.trans (k5.trans k6))))), rfl⟩
theorem both {v u p q : Value} {d e : CK} (C : Cx w s.heap) (hA : Sm (k + 4) A) (HC : Cls w cl FIELD) (hv : KeyAt s.heap cl FIELD v d) (hu : KeyAt s.heap cl FIELD u e) (hp : DatAt s.heap p d) (hq : DatAt s.heap q e) (hk : sameK d e) :
    Gv w A (call (.ref 360) [v, u, p, q]) (fun r _ => r = .bool true) s := by
  have X := C.X
  obtain ⟨_, _, _, TT⟩ := C.T
  refine' call_fn C hA ?ho ?hcd ?hb ?hl ?hc ?c1 ?c2 ?c3 ?_
  case ho => k_is
  case hcd => k_is
  case hb => exact BindsTo.of_eq rfl
  case hl => exact locs rfl
  case hc => decide
  case c1 => rfl
  case c2 => rfl
  case c3 => rfl
  intro L s₀ k₀ F hA'
  have F₀ := F
  refine wpAny_execs_cons (wpAny_Return_some (BoolOp_and ?_))
  ktr_rel
  refine (weighs (C.keep F.keep) hA' HC (hv.keep F.keep) (hu.keep F.keep) (hp.keep F.keep) (hq.keep F.keep) hk).use fun r s₁ k₁ hr => ?_
  subst hr
  refine wpAny_truthy_bool ?_
  simp only [if_true]
  refine BoolOp_one ?_
  have F₁ := F.keeps k₁.keep
  clear F
  ktr_rel
  refine (weighs (C.keep F₁.keep) hA' HC (hu.keep F₁.keep) (hv.keep F₁.keep) (hq.keep F₁.keep) (hp.keep F₁.keep) hk.symm).use fun r s₂ k₂ hr => ?_
  subst hr
  exact ⟨k₀.trans (k₁.trans k₂), rfl⟩
end
end Mine
end
section
set_option maxRecDepth 100000
set_option maxHeartbeats 4000000
open PySem PySem.W PyProof.Rows PySem.W.X
namespace Mine
theorem mem_keep {h h' : Heap} {news : List (Addr × Obj)} (D : Mem h h' [] news) : ∀ b o, h.get? b = some o → h'.get? b = some o :=
  fun b o e => D.keep b o e (by unfold away; simp)
theorem mem_at {h h' : Heap} {news : List (Addr × Obj)} (D : Mem h h' [] news) (i : Nat) {a : Addr} {o : Obj} (hi : news[i]? = some (a, o)) : h'.get? a = some o := D.at i a o hi
theorem tag_close {h h' : Heap} {g : Array GenState} {d : Drawn} {t t' : Nat} {os : OsState} {x dx p fr : Addr} {ofr : Obj} {c f n : Int} {t1 t2 t3 k1 k2 k3 k4 : Tok} {h1 h2 h3 h4 : Int} {s1 s2 s3 s4 : Str} {v1 v2 v3 : Value} {e m : Nat}
  (D : Mem h h' [] [(p, { cls := .type "tuple", data := .seq #[.int c t1, .int n t3] e }), (fr, ofr), (x, { cls := .ref 181, dict := some dx}), (dx, { cls := .type "dict", data := .dict #[⟨h1, .str s1 k1, v1⟩, ⟨h2, .str s2 k2, v2⟩, ⟨h3, .str s3 k3, v3⟩, ⟨h4, .str s4 k4, .ref p⟩] m })])
  (e0 : e = 0) (em : m = 4) (e1 : s1 = Str.ofString "_Tag__tagClass") (e2 : s2 = Str.ofString "_Tag__tagFormat") (e3 : s3 = Str.ofString "_Tag__tagId") (e4 : s4 = Str.ofString "_Tag__tagClassId")
  (ev1 : v1 = .int c t1) (ev2 : v2 = .int f t2) (ev3 : v3 = .int n t3) :
  Kp ⟨h, g, d, t, os⟩ ⟨h', g, d, t', os⟩ ∧ ∃ y q, Value.ref x = .ref y ∧ TagIs (⟨h', g, d, t', os⟩ : Shared).heap y c f n t1 t2 t3 q := by
  subst e0 em e1 e2 e3 e4 ev1 ev2 ev3
  exact ⟨⟨h', t', g, rfl, mem_keep D, id⟩, x, p, rfl, ⟨h1, h2, h3, h4, k1, k2, k3, k4, dx, mem_at D 2 rfl, mem_at D 3 rfl⟩, mem_at D 0 rfl⟩
local macro_rules | `(tactic| x_close) => `(tactic| (exact tag_close (by assumption) rfl rfl rfl rfl rfl rfl rfl rfl rfl))
theorem tag_newX (w : World) (h : Heap) (KX : (hd.heap_39 w.params).In h) (g : Array GenState) (d : Drawn) (t : Nat) (os : OsState) (c f n : Int) (t1 t2 t3 : Tok) (hn : 0 ≤ n) :
   wpAny (model PySem.Challenge.rw_gr5021_01.row.prog w) AX (call (.ref 181) [.int c t1, .int f t2, .int n t3])
     (fun v s' => Kp ⟨h, g, d, t, os⟩ s' ∧ ∃ y q, v = .ref y ∧ TagIs s'.heap y c f n t1 t2 t3 q) (fun _ _ => False) ⟨h, g, d, t, os⟩ := by
  x_run
theorem tag_new {w : World} {A : Around} {s : Shared} {k : Nat} (C : Cx w s.heap) (hA : Sm k A) {c f n : Int} {t1 t2 t3 : Tok} (hn : 0 ≤ n) : Gv w A (call (.ref 181) [.int c t1, .int f t2, .int n t3]) (fun v s' => ∃ y q, v = .ref y ∧ TagIs s'.heap y c f n t1 t2 t3 q) s := by
  obtain ⟨h, g, d, t, os⟩ := s
  exact wp_of_AX (tag_newX w h C.X g d t os c f n t1 t2 t3 hn) (hA.lower (Nat.zero_le _))
end Mine
end
section
set_option maxRecDepth 100000
set_option maxHeartbeats 4000000
open PySem PySem.W PyProof.Rows
namespace Mine
local macro_rules | `(tactic| ktr_rel) => `(tactic| repeat ((fail_if_success (first | with_reducible show wpAny _ _ (call _ _ _) _ _ _ | with_reducible show wpAny _ _ (eval (Expr.ListComp _ _ _ _) _) _ _ _ | with_reducible show wpAny _ _ (compareOp _ (Value.ref _) _) _ _ _ | with_reducible show wpAny _ _ (compareOp _ _ (Value.ref _)) _ _ _ | with_reducible show wpAny _ _ (getAttr (Value.ref _) _ _) _ _ _ | with_reducible show wpAny _ _ (subscriptTail _ _ _ _) _ _ _ | with_reducible show wpAny _ _ (binaryOp _ (Value.ref _) _) _ _ _)); walk1))
local macro_rules | `(tactic| tb_start) => `(tactic| first
  | (with_reducible refine' tagClass_own ?zX ?zT ?_; (case zX => k_in); (case zT => exact TagIs.keep (by assumption) (Fr.keep (by assumption))))
  | (with_reducible refine' tagFormat_own ?zX ?zT ?_; (case zX => k_in); (case zT => exact TagIs.keep (by assumption) (Fr.keep (by assumption))))
  | (with_reducible refine' tagId_own ?zX ?zT ?_; (case zX => k_in); (case zT => exact TagIs.keep (by assumption) (Fr.keep (by assumption))))
  | (with_reducible refine' tagClassId_own ?zX ?zT ?_; (case zX => k_in); (case zT => exact TagIs.keep (by assumption) (Fr.keep (by assumption))))
  | (with_reducible refine' tagClass_use ?zC ?zA ?zT ?_; (case zC => exact Cx.keep (by assumption) (Fr.keep (by assumption))); (case zA => exact Sm.lower (by assumption) (by omega)); (case zT => exact TagIs.keep (by assumption) (Fr.keep (by assumption))); intro s₁ k₁; (have F := Fr.keeps (by assumption) (Kp.keep k₁)))
  | (with_reducible refine' tagFormat_use ?zC ?zA ?zT ?_; (case zC => exact Cx.keep (by assumption) (Fr.keep (by assumption))); (case zA => exact Sm.lower (by assumption) (by omega)); (case zT => exact TagIs.keep (by assumption) (Fr.keep (by assumption))); intro s₁ k₁; (have F := Fr.keeps (by assumption) (Kp.keep k₁)))
  | (with_reducible refine' tagId_use ?zC ?zA ?zT ?_; (case zC => exact Cx.keep (by assumption) (Fr.keep (by assumption))); (case zA => exact Sm.lower (by assumption) (by omega)); (case zT => exact TagIs.keep (by assumption) (Fr.keep (by assumption))); intro s₁ k₁; (have F := Fr.keeps (by assumption) (Kp.keep k₁))))
local macro_rules | `(tactic| tb_rel) => `(tactic| first | assumption | exact Kp.refl _ | (refine Kp.trans ?_ (by assumption); tb_rel) | (refine Kp.toks ?_; tb_rel))
local macro_rules | `(tactic| ktd_rel) => `(tactic| repeat' ((first | with_reducible show wpAny _ _ _ _ _ _ | with_reducible show (if _ then _ else _)); walk1))
section
variable {w : World} {A : Around} {s : Shared}
theorem bitAnd_nonneg {x y : Int} (hx : 0 ≤ x) (hy : 0 ≤ y) : 0 ≤ Builtin.bitAnd x y := by
  unfold Builtin.bitAnd
  simp [hx, hy]
theorem bitOr_nonneg {x y : Int} (hx : 0 ≤ x) (hy : 0 ≤ y) : 0 ≤ Builtin.bitOr x y := by
  unfold Builtin.bitOr Builtin.bitAnd Builtin.bitNot
  have h1 : ¬ 0 ≤ -x - 1 := by omega
  have h2 : ¬ 0 ≤ -y - 1 := by omega
  simp only [h1, h2, decide_false]
  omega
theorem TagIs.inst {h : Heap} {a : Addr} {c f n : Int} {t1 t2 t3 : Tok} {p : Addr} (T : TagIs h a c f n t1 t2 t3 p) : ∃ dx od, W.InstAt h a (instObj 181 dx) 181 (some od) := by
  obtain ⟨⟨h1, h2, h3, h4, k1, k2, k3, k4, dx, e1, e2⟩, e3⟩ := T
  exact ⟨dx, _, e1, rfl, rfl, e2⟩
theorem tag_and {a b p q : Addr} {c f n c' f' n' : Int} {t1 t2 t3 u1 u2 u3 : Tok} (C : Cx w s.heap) (hA : Sm 5 A) (T : TagIs s.heap a c f n t1 t2 t3 p) (U : TagIs s.heap b c' f' n' u1 u2 u3 q) (hn : 0 ≤ n) (hn' : 0 ≤ n') :
    Gv w A (binaryOp .BitAnd (.ref a) (.ref b)) (fun v s' => ∃ y q t1 t2 t3, v = .ref y ∧ TagIs s'.heap y (Builtin.bitAnd c c') (Builtin.bitAnd f f') (Builtin.bitAnd n n') t1 t2 t3 q) s := by
  have key : Gv w A (call (.ref 147) [.ref a, .ref b]) (fun v s' => ∃ y q t1 t2 t3, v = .ref y ∧ TagIs s'.heap y (Builtin.bitAnd c c') (Builtin.bitAnd f f') (Builtin.bitAnd n n') t1 t2 t3 q) s := by
    have X := C.X
    obtain ⟨_, _, _, TT⟩ := C.T
    refine call_fn (binds := [(Str.ofString "self", .ref a), (Str.ofString "otherTag", .ref b)]) C hA (by k_is) (by k_is) (by exact BindsTo.of_eq rfl) (by exact locs rfl) (by decide) (by rfl) (by rfl) (by rfl) fun L s₀ k₀ F hA' => ?_
    refine wpAny_execs_cons (wpAny_Return_some ?_)
    ktr_rel; tb_start; ktr_rel; tb_start; ktr_rel; tb_start; ktr_rel; tb_start; ktr_rel; tb_start; ktr_rel; tb_start; ktr_rel
    refine (tag_new (k := 0) (C.keep (Fr.keep (by assumption))) (hA'.lower (by omega)) (bitAnd_nonneg hn hn')).use fun v s₂ k₂ hv => ?_
    obtain ⟨y, q, rfl, hT⟩ := hv
    exact ⟨by tb_rel, y, q, _, _, _, rfl, hT⟩
  obtain ⟨h₀, L, m, F, X₀⟩ := C.B
  obtain ⟨dx, od, I⟩ := T.inst
  obtain ⟨dx', od', I'⟩ := U.inst
  refine' binop_K F X₀ I I'.type ?h1 ?h2 ?h3 ?_
  case h1 => k_is
  case h2 => k_is
  case h3 => k_is
  exact key.use fun v s' hk hv => by
    obtain ⟨y, q, t1, t2, t3, rfl, hT⟩ := hv
    exact ⟨hk, y, q, t1, t2, t3, rfl, hT⟩
theorem tag_or {a b p q : Addr} {c f n c' f' n' : Int} {t1 t2 t3 u1 u2 u3 : Tok} (C : Cx w s.heap) (hA : Sm 5 A) (T : TagIs s.heap a c f n t1 t2 t3 p) (U : TagIs s.heap b c' f' n' u1 u2 u3 q) (hn : 0 ≤ n) (hn' : 0 ≤ n') :
    Gv w A (binaryOp .BitOr (.ref a) (.ref b)) (fun v s' => ∃ y q t1 t2 t3, v = .ref y ∧ TagIs s'.heap y (Builtin.bitOr c c') (Builtin.bitOr f f') (Builtin.bitOr n n') t1 t2 t3 q) s := by
  have key : Gv w A (call (.ref 154) [.ref a, .ref b]) (fun v s' => ∃ y q t1 t2 t3, v = .ref y ∧ TagIs s'.heap y (Builtin.bitOr c c') (Builtin.bitOr f f') (Builtin.bitOr n n') t1 t2 t3 q) s := by
    have X := C.X
    obtain ⟨_, _, _, TT⟩ := C.T
    refine call_fn (binds := [(Str.ofString "self", .ref a), (Str.ofString "otherTag", .ref b)]) C hA (by k_is) (by k_is) (by exact BindsTo.of_eq rfl) (by exact locs rfl) (by decide) (by rfl) (by rfl) (by rfl) fun L s₀ k₀ F hA' => ?_
    refine wpAny_execs_cons (wpAny_Return_some ?_)
    ktr_rel; tb_start; ktr_rel; tb_start; ktr_rel; tb_start; ktr_rel; tb_start; ktr_rel; tb_start; ktr_rel; tb_start; ktr_rel
    refine (tag_new (k := 0) (C.keep (Fr.keep (by assumption))) (hA'.lower (by omega)) (bitOr_nonneg hn hn')).use fun v s₂ k₂ hv => ?_
    obtain ⟨y, q, rfl, hT⟩ := hv
    exact ⟨by tb_rel, y, q, _, _, _, rfl, hT⟩
  obtain ⟨h₀, L, m, F, X₀⟩ := C.B
  obtain ⟨dx, od, I⟩ := T.inst
  obtain ⟨dx', od', I'⟩ := U.inst
  refine' binop_K F X₀ I I'.type ?h1 ?h2 ?h3 ?_
  case h1 => k_is
  case h2 => k_is
  case h3 => k_is
  exact key.use fun v s' hk hv => by
    obtain ⟨y, q, t1, t2, t3, rfl, hT⟩ := hv
    exact ⟨hk, y, q, t1, t2, t3, rfl, hT⟩
end
end Mine
end
section
set_option maxRecDepth 100000
set_option maxHeartbeats 4000000
open PySem PySem.W PyProof.Rows
namespace Mine
local macro_rules | `(tactic| ktr_rel) => `(tactic| repeat ((fail_if_success (first | with_reducible show wpAny _ _ (call _ _ _) _ _ _ | with_reducible show wpAny _ _ (eval (Expr.ListComp _ _ _ _) _) _ _ _ | with_reducible show wpAny _ _ (compareOp _ (Value.ref _) _) _ _ _ | with_reducible show wpAny _ _ (compareOp _ _ (Value.ref _)) _ _ _ | with_reducible show wpAny _ _ (getAttr (Value.ref _) _ _) _ _ _ | with_reducible show wpAny _ _ (subscriptTail _ _ _ _) _ _ _ | with_reducible show wpAny _ _ (binaryOp _ (Value.ref _) _) _ _ _)); walk1))
local macro_rules | `(tactic| tb_start) => `(tactic| first
  | (with_reducible refine' tagClass_own ?zX ?zT ?_; (case zX => k_in); (case zT => exact TagIs.keep (by assumption) (Fr.keep (by assumption))))
  | (with_reducible refine' tagFormat_own ?zX ?zT ?_; (case zX => k_in); (case zT => exact TagIs.keep (by assumption) (Fr.keep (by assumption))))
  | (with_reducible refine' tagId_own ?zX ?zT ?_; (case zX => k_in); (case zT => exact TagIs.keep (by assumption) (Fr.keep (by assumption))))
  | (with_reducible refine' tagClassId_own ?zX ?zT ?_; (case zX => k_in); (case zT => exact TagIs.keep (by assumption) (Fr.keep (by assumption))))
  | (with_reducible refine' tagClass_use ?zC ?zA ?zT ?_; (case zC => exact Cx.keep (by assumption) (Fr.keep (by assumption))); (case zA => exact Sm.lower (by assumption) (by omega)); (case zT => exact TagIs.keep (by assumption) (Fr.keep (by assumption))); intro s₁ k₁; (have F := Fr.keeps (by assumption) (Kp.keep k₁)))
  | (with_reducible refine' tagFormat_use ?zC ?zA ?zT ?_; (case zC => exact Cx.keep (by assumption) (Fr.keep (by assumption))); (case zA => exact Sm.lower (by assumption) (by omega)); (case zT => exact TagIs.keep (by assumption) (Fr.keep (by assumption))); intro s₁ k₁; (have F := Fr.keeps (by assumption) (Kp.keep k₁)))
  | (with_reducible refine' tagId_use ?zC ?zA ?zT ?_; (case zC => exact Cx.keep (by assumption) (Fr.keep (by assumption))); (case zA => exact Sm.lower (by assumption) (by omega)); (case zT => exact TagIs.keep (by assumption) (Fr.keep (by assumption))); intro s₁ k₁; (have F := Fr.keeps (by assumption) (Kp.keep k₁))))
local macro_rules | `(tactic| tb_rel) => `(tactic| first | assumption | exact Kp.refl _ | (refine Kp.trans ?_ (by assumption); tb_rel) | (refine Kp.toks ?_; tb_rel))
local macro_rules | `(tactic| ktd_rel) => `(tactic| repeat' ((first | with_reducible show wpAny _ _ _ _ _ _ | with_reducible show (if _ then _ else _)); walk1))
section
variable {w : World} {A : Around} {s : Shared}
abbrev genR : GenEnd := fun n s₀ r s₁ => r = .ok (.ret .none) ∧ (n = 0 ∧ Keeps s₀ s₁)
abbrev genY (hB : Heap) (L : Addr) (m : Str → Option Value) (vals : List Value) : Protocol := fun n s₀ v s' kap => vals.reverse[n]? = some v ∧ Keeps s₀ s' ∧ ∀ s'' : Shared, Fr hB L s''.heap m → kap (.send .none) s''
abbrev yieldBody (q1 q2 q3 q4 q5 q6 q7 q8 q9 q10 q11 q12 : Pos) : List Stmt := [
  .Expr (.Yield (some (.Attribute (.Name SELF q1) (Str.ofString "_Tag__tagClass") q2)) q3) q4,
  .Expr (.Yield (some (.Attribute (.Name SELF q5) (Str.ofString "_Tag__tagFormat") q6)) q7) q8,
  .Expr (.Yield (some (.Attribute (.Name SELF q9) (Str.ofString "_Tag__tagId") q10)) q11) q12]
theorem tag_seg {hB : Heap} {L fa a p : Addr} {m : Str → Option Value} {qual : Str} {cd : Value} {sc : Scope} {c f n : Int} {t1 t2 t3 : Tok} {q1 q2 q3 q4 q5 q6 q7 q8 q9 q10 q11 q12 : Pos} {s₀ : Shared}
    (X : (hd.heap_39 w.params).In hB) (T : TagIs hB a c f n t1 t2 t3 p) (hm : m SELF = some (.ref a)) (hk : sc.kind = .function) (hco : sc.isCoroutine = false) (hl : (envOf qual sc L fa cd).kindOf SELF = some .local) (hi : interactive (envOf qual sc L fa cd) = false)
    (h0 : Keeps s₀ s) (hs : Fr hB L s.heap m) :
    Seg (M w) A genR (genY hB L m [.int c t1, .int f t2, .int n t3]) 3 s₀ (.func (yieldBody q1 q2 q3 q4 q5 q6 q7 q8 q9 q10 q11 q12) (envOf qual sc L fa cd)) ((M w).den (.func (yieldBody q1 q2 q3 q4 q5 q6 q7 q8 q9 q10 q11 q12) (envOf qual sc L fa cd))) [] s := by
  have one : ∀ {A' : Around} {s' : Shared} {E : Value → Shared → Prop} {x : Str} {p1 p2 : Pos} {v : Value} {Q : Value → Shared → Prop}, Fr hB L s'.heap m →
      (∀ s'' : Shared, (hd.heap_39 w.params).In s''.heap → TagIs s''.heap a c f n t1 t2 t3 p → Q v { s'' with toks := s''.toks + 1 } → wpAny (M w) A' (getAttr (.ref a) x true) Q E s'') → Q v { s' with toks := s'.toks + 1 } →
      wpAny (M w) A' (eval (.Attribute (.Name SELF p1) x p2) (envOf qual sc L fa cd)) Q E s' := fun {A' s' E x p1 p2 v Q} F' hget hq => by
    exact Attribute_name (ld F' hm (hget _ (X.keeps F'.keep) (T.keep F'.keep) hq) hk hl (by decide))
  refine seg_func ?_
  refine seg_execs_cons (seg_Expr_Yield rfl rfl rfl (one hs (fun s'' X' T' hq => tagClass_own X' T' hq) ?_) hco hi)
  intro kap hkap
  refine ⟨rfl, ?_, fun s'' hs'' => hkap .none s'' ?_⟩
  · obtain ⟨h', tk, rfl, hk'⟩ := h0
    exact ⟨h', _, rfl, hk'⟩
  refine seg_execs_cons (seg_Expr_Yield rfl rfl rfl (one hs'' (fun s'' X' T' hq => tagFormat_own X' T' hq) ?_) hco hi)
  intro kap hkap
  refine ⟨rfl, ⟨_, _, rfl, fun _ _ e => e⟩, fun s'' hs'' => hkap .none s'' ?_⟩
  refine seg_execs_cons (seg_Expr_Yield rfl rfl rfl (one hs'' (fun s'' X' T' hq => tagId_own X' T' hq) ?_) hco hi)
  intro kap hkap
  refine ⟨rfl, ⟨_, _, rfl, fun _ _ e => e⟩, fun s'' hs'' => hkap .none s'' ?_⟩
  refine seg_execs_nil ?_
  exact seg_end (.ok (.ret .none)) ⟨rfl, rfl, ⟨_, _, rfl, fun _ _ e => e⟩⟩
theorem setGen_at {s : Shared} {g : Nat} {gs x : GenState} (h : s.gens[g]? = some gs) : (s.setGen g x).gens[g]? = some x := setGen_self h
/-- one step of the tag's generator -/
theorem gen_next {hB : Heap} {L : Addr} {m : Str → Option Value} {vals : List Value} {I g n : Nat} {gs : GenState} {Q : Option Value → Shared → Prop} {E : Value → Shared → Prop} (hh : A.handled = none) (hl : s.heap.NoLimit) (hroom : A.depth < recursionLimit)
    (hg : s.heap.IsGen I g) (hgs : s.gens[g]? = some gs) (hgo : gs.Goes (M w) A.in1 genR (genY hB L m vals) n (.send .none) (s.setGen g .running))
    (hY : ∀ v s₁ gs', gs'.bare = true → genY hB L m vals (n - 1) (s.setGen g .running) v s₁ (fun r' s'' => match n with | 0 => False | j + 1 => gs'.Goes (M w) A.in1 genR (genY hB L m vals) j r' s'') → Q (some v) (s₁.setGen g gs'))
    (hP : ∀ s₁, n = 0 → Keeps (s.setGen g .running) s₁ → ∀ h', (∀ b o, s₁.heap.get? b = some o → h'.get? b = some o) → Q none { s₁.setGen g .finished with heap := h' }) : wpAny (M w) A (pyNext (.ref I)) Q E s := by
  have hne : gs ≠ .running ∧ gs ≠ .finished := ⟨fun e => by subst e; exact hgo, fun e => by subst e; exact hgo⟩
  have wake : wpAny (M w) A.in1 (Builtin.Generator.genWake (.ref I) (.send .none)) (fun fin s' => ∃ v, fin = .done (.ret v) ∧ Q (some v) s')
      (fun e s' => (∃ a o, e = .ref a ∧ s'.heap.get? a = some o ∧ o.cls = .type "StopIteration") ∧ Q none s') s := by
    unfold Builtin.Generator.genWake
    refine wpAny_bind (wpAny_holding (wpAny_genNumber hg (wpAny_bind (wpAny_genState hgs ?_))))
    have fin : ∀ {β : Type} (k : GenResult → Sem Fin) (J : β → Sem Fin), (∀ v, k (.yielded v) = ret v) → (k (.returned .none) = (newExc (.type "StopIteration") [] >>= fun e => (raiseNew e : Sem β) >>= J)) → wpAny (M w) A.in1 (.resume g (.send .none) [] k) (fun fin s' => ∃ v, fin = .done (.ret v) ∧ Q (some v) s')
        (fun e s' => (∃ a o, e = .ref a ∧ s'.heap.get? a = some o ∧ o.cls = .type "StopIteration") ∧ Q none s') s := fun {β} k J hk1 hk2 => by
      refine wpAny_resumeQ hgs hgo (fun x s₁ hx => ?_) (fun v s₁ gs' hb hv => ?_)
      · obtain ⟨rfl, h0, hk⟩ := hx
        show wpAny _ _ (k (.returned .none)) _ _ _
        rw [hk2]
        refine wpAny_bind ?_
        simp only [newExc, newTuple]
        refine wpAny_bind (wpAny_newObj_type ?_ (by size_fits))
        refine wpAny_bind (m := firstArgMember _ _) (wpAny_of_eq (a := Value.none) (by first | rfl | (simp only [firstArgMember]; rfl)) ?_)
        refine wpAny_newObj_type ?_ (by size_fits)
        simp only [raiseNew]
        refine wpAny_bind (wpAny_bind (wpAny_handled ?_))
        rw [show A.in1.handled = none from hh]
        refine wpAny_throw ?_
        refine ⟨⟨_, _, rfl, Heap.get?_push_size _ rfl, rfl⟩, ?_⟩
        exact hP s₁ h0 hk _ fun b o e => Heap.get?_push_of_some _ (Heap.get?_push_of_some _ e)
      · rw [hk1]
        exact wpAny_pure ⟨v, rfl, hY v s₁ gs' hb hv⟩
    cases gs with
    | running => exact absurd rfl hne.1
    | finished => exact absurd rfl hne.2
    | _ =>
      refine wpAny_bind (wpAny_roomToWake hl hroom ?_)
      exact fin _ _ (fun v => rfl) rfl
  unfold pyNext
  refine wpAny_bind (wpAny_attempt (wpAny_callSpecial?_slot (name := Str.ofString "__next__") hg.typeIs slot_gen_next (wpAny_call_entry slot_gen_next hg.typeIs entry_gen_next (wpAny_mono wake (fun fin s' h => ?_) (fun e s' h => ?_)) (args_gen_next _))))
  · obtain ⟨v, rfl, hq⟩ := h
    exact ⟨v, rfl, wpAny_pure hq⟩
  · obtain ⟨⟨a, o, rfl, ho, hc⟩, hq⟩ := h
    refine wpAny_bind (wpAny_isInstance (T := "StopIteration") (b := true) ⟨o, ho, hc⟩ isSubtype_stop ?_)
    exact wpAny_pure hq
end
end Mine
end
section
set_option maxRecDepth 100000
set_option maxHeartbeats 4000000
open PySem PySem.W PyProof.Rows
namespace Mine
local macro_rules | `(tactic| ktr_rel) => `(tactic| repeat ((fail_if_success (first | with_reducible show wpAny _ _ (call _ _ _) _ _ _ | with_reducible show wpAny _ _ (eval (Expr.ListComp _ _ _ _) _) _ _ _ | with_reducible show wpAny _ _ (compareOp _ (Value.ref _) _) _ _ _ | with_reducible show wpAny _ _ (compareOp _ _ (Value.ref _)) _ _ _ | with_reducible show wpAny _ _ (getAttr (Value.ref _) _ _) _ _ _ | with_reducible show wpAny _ _ (subscriptTail _ _ _ _) _ _ _ | with_reducible show wpAny _ _ (binaryOp _ (Value.ref _) _) _ _ _)); walk1))
local macro_rules | `(tactic| tb_start) => `(tactic| first
  | (with_reducible refine' tagClass_own ?zX ?zT ?_; (case zX => k_in); (case zT => exact TagIs.keep (by assumption) (Fr.keep (by assumption))))
  | (with_reducible refine' tagFormat_own ?zX ?zT ?_; (case zX => k_in); (case zT => exact TagIs.keep (by assumption) (Fr.keep (by assumption))))
  | (with_reducible refine' tagId_own ?zX ?zT ?_; (case zX => k_in); (case zT => exact TagIs.keep (by assumption) (Fr.keep (by assumption))))
  | (with_reducible refine' tagClassId_own ?zX ?zT ?_; (case zX => k_in); (case zT => exact TagIs.keep (by assumption) (Fr.keep (by assumption))))
  | (with_reducible refine' tagClass_use ?zC ?zA ?zT ?_; (case zC => exact Cx.keep (by assumption) (Fr.keep (by assumption))); (case zA => exact Sm.lower (by assumption) (by omega)); (case zT => exact TagIs.keep (by assumption) (Fr.keep (by assumption))); intro s₁ k₁; (have F := Fr.keeps (by assumption) (Kp.keep k₁)))
  | (with_reducible refine' tagFormat_use ?zC ?zA ?zT ?_; (case zC => exact Cx.keep (by assumption) (Fr.keep (by assumption))); (case zA => exact Sm.lower (by assumption) (by omega)); (case zT => exact TagIs.keep (by assumption) (Fr.keep (by assumption))); intro s₁ k₁; (have F := Fr.keeps (by assumption) (Kp.keep k₁)))
  | (with_reducible refine' tagId_use ?zC ?zA ?zT ?_; (case zC => exact Cx.keep (by assumption) (Fr.keep (by assumption))); (case zA => exact Sm.lower (by assumption) (by omega)); (case zT => exact TagIs.keep (by assumption) (Fr.keep (by assumption))); intro s₁ k₁; (have F := Fr.keeps (by assumption) (Kp.keep k₁))))
local macro_rules | `(tactic| tb_rel) => `(tactic| first | assumption | exact Kp.refl _ | (refine Kp.trans ?_ (by assumption); tb_rel) | (refine Kp.toks ?_; tb_rel))
local macro_rules | `(tactic| ktd_rel) => `(tactic| repeat' ((first | with_reducible show wpAny _ _ _ _ _ _ | with_reducible show (if _ then _ else _)); walk1))
section
variable {w : World} {A : Around} {s : Shared}
def GSt (w : World) (A : Around) (I g : Nat) (hB : Heap) (L : Addr) (m : Str → Option Value) (vals : List Value) (j : Nat) (s : Shared) : Prop :=
  s.heap.IsGen I g ∧ Fr hB L s.heap m ∧ ∃ gs, s.gens[g]? = some gs ∧ ∀ s'' : Shared, Fr hB L s''.heap m → gs.Goes (M w) A.in1 genR (genY hB L m vals) (vals.length - j) (.send .none) s''
theorem tagWalk {I g : Nat} {hB : Heap} {L : Addr} {m : Str → Option Value} {vals : List Value} (hh : A.handled = none) (hroom : A.depth < recursionLimit) (hl : hB.NoLimit) :
    WalksS PySem.Challenge.rw_gr5021_01.row.prog w A I (I :: L :: List.range hB.objs.size) [] (GenOnlyQ g) vals.length (fun j v => vals[j]? = some v) (GSt w A I g hB L m vals) where
  sub := fun b hb => nomatch hb
  grefl := fun _ => .inl rfl
  gtrans := fun _ _ _ x y => x.trans y
  frame := fun j s h' tk st _ hk => by
    obtain ⟨⟨o, nm, qn, ho, r⟩, F, gs, hgs, hgo⟩ := st
    refine ⟨⟨o, nm, qn, hk I (.head _) o ho, r⟩, ⟨F.ns.at' fun o e => hk L (.tail _ (.head _)) o e, fun b o e => hk b (.tail _ (.tail _ (List.mem_range.mpr (Heap.lt_size e)))) o (F.keep b o e), F.above⟩, gs, hgs, hgo⟩
  item := fun j s Q E hj st hQ => by
    obtain ⟨hg, F, gs, hgs, hgo⟩ := st
    obtain ⟨n, hn⟩ : ∃ n, vals.length - j = n + 1 := ⟨vals.length - j - 1, by omega⟩
    rw [hn] at hgo
    refine wpAny_with_toks (Nat.le_refl s.toks) ?_
    refine gen_next hh (hl.keeps F.keep) hroom hg hgs (hgo _ F) (fun v s₁ gs' hb hv => ?_) (fun s₁ h0 => absurd h0 (Nat.succ_ne_zero n))
    obtain ⟨hv, ⟨h₁, tk₁, rfl, hk₁⟩, hkap⟩ := hv
    have hidx : vals[j]? = some v := by
      have e : n + 1 - 1 = vals.length - 1 - j := by omega
      rw [e, List.getElem?_reverse (by omega)] at hv
      rwa [show vals.length - 1 - (vals.length - 1 - j) = j by omega] at hv
    intro htk
    refine hQ v _ hidx ⟨let ⟨o, nm, qn, ho, r⟩ := hg; ⟨o, nm, qn, hk₁ I o ho, r⟩, F.keeps hk₁, gs', setGen_self (gs := .running) (setGen_self hgs), fun s'' F'' => ?_⟩
      ⟨fun b o _ e => hk₁ b o e, GenOnlyQ.of ((GenOnly.setGen s g .running).trans (GenOnly.setGen _ g gs')) (setGen_self (gs := .running) (setGen_self hgs)) hb, rfl, rfl, htk⟩
    rw [show vals.length - (j + 1) = n by omega]
    exact hkap s'' F''
  done := fun s Q E st hQ => by
    obtain ⟨hg, F, gs, hgs, hgo⟩ := st
    rw [Nat.sub_self] at hgo
    refine wpAny_with_toks (Nat.le_refl s.toks) ?_
    refine gen_next hh (hl.keeps F.keep) hroom hg hgs (hgo _ F) (fun v s₁ gs' hb hv => ?_) (fun s₁ h0 hk h' hk' => ?_)
    · obtain ⟨_, ⟨h₁, tk₁, rfl, hk₁⟩, hkap⟩ := hv
      exact (hkap ({ s with heap := h₁ } : Shared) (F.keeps hk₁)).elim
    · obtain ⟨h₁, tk₁, rfl, hk₁⟩ := hk
      intro htk
      exact hQ _ ⟨fun b o _ e => hk' b o (hk₁ b o e), GenOnlyQ.of ((GenOnly.setGen s g .running).trans (GenOnly.setGen _ g .finished)) (setGen_self (gs := .running) (setGen_self hgs)) rfl, rfl, rfl, htk⟩
  self := fun _ _ _ _ st hQ => wpAny_pyIter_gen st.1 hQ
/-- the tag's own iterator: a generator that stands at its head -/
theorem tag_iter {a p : Addr} {c f n : Int} {t1 t2 t3 : Tok} {hB : Heap} {Q : Value → Shared → Prop} {E : Value → Shared → Prop} (C : Cx w s.heap) (hA : Sm 2 A) (T : TagIs s.heap a c f n t1 t2 t3 p)
    (k : ∀ b o, hB.get? b = some o → s.heap.get? b = some o) (hsz : hB.objs.size ≤ s.heap.objs.size) (X : (hd.heap_39 w.params).In hB) (TB : TagIs hB a c f n t1 t2 t3 p)
    (h : ∀ I L m s', (∀ A', GSt w A' I s.gens.size hB L m [.int c t1, .int f t2, .int n t3] 0 s') → s.heap.objs.size ≤ I → s.heap.objs.size ≤ L → I < s'.heap.objs.size → L < s'.heap.objs.size → (∀ b o, s.heap.get? b = some o → s'.heap.get? b = some o) → s'.drawn = s.drawn → s'.os = s.os →
      (∃ y, y.bare = true ∧ s'.gens = s.gens.push y) → Q (.ref I) s') : wpAny (M w) A (pyIter (.ref a)) Q E s := by
  obtain ⟨h₀, L₀, m₀, F₀, X₀⟩ := C.B
  obtain ⟨dx, od, I⟩ := T.inst
  have hf : findIn (hd.heap_39 w.params) (.ref 181) "__iter__" = some (some (.ref 140)) := by k_is
  have hfn : isFn (hd.heap_39 w.params) (.ref 140) = true := by k_is
  refine owit_iter F₀ X₀ I hf hfn ?_
  refine wpAny_call ?_
  have hlk : ∃ (name qual : Str) (q1 q2 q3 q4 q5 q6 q7 q8 q9 q10 q11 q12 q0 : Pos) (oc : Value) (od : Option Addr) (osl : Array (Option Value)) (doc pm cdv ct : Value) (an : Option Addr),
      (hd.heap_39 w.params).lookup 140 = some ⟨oc, od, .func (fnOf name qual { posonlyargs := [], args := [{ arg := SELF, annotation := none, pos := q0 }], vararg := none, kwonlyargs := [], kw_defaults := [], kwarg := none, defaults := [] }
        (yieldBody q1 q2 q3 q4 q5 q6 q7 q8 q9 q10 q11 q12) { kind := .function, names := [(SELF, .local)], isGenerator := true, isCoroutine := false, more := [] } .none .none doc pm an cdv ct), osl⟩ ∧ codeIn (hd.heap_39 w.params) cdv qual = true :=
    ⟨_, _, _, _, _, _, _, _, _, _, _, _, _, _, _, _, _, _, _, _, _, _, _, by k_is, by k_is⟩
  obtain ⟨name, qual, q1, q2, q3, q4, q5, q6, q7, q8, q9, q10, q11, q12, q0, oc, od', osl, doc, pm, cdv, ct, an, hlk, hcd⟩ := hlk
  refine codeAny_call_generator hA.room (C.X _ _ hlk) rfl rfl rfl rfl (codeRec_of C.X hcd) ?_
  refine (BindsTo.of_eq (binds := [(SELF, .ref a)]) (s := s) rfl) _ _ _ _ ?_
  refine wpAny_newFunctionEnv (fun x hx => by have hx' : x ∈ [(SELF, NameKind.local)] := hx; rw [List.mem_singleton.mp hx']; decide) (locs rfl) (fun h₁ hns hsb => ?_) rfl
  have hk₁ : ∀ b o, s.heap.get? b = some o → h₁.get? b = some o := fun b o e => hsb.extBut b o (Nat.ne_of_lt (Heap.lt_size e)) (Heap.get?_push_of_some _ e)
  refine ⟨C.nolimit.keeps hk₁, ?_⟩
  have hsz₁ : h₁.objs.size = s.heap.objs.size + 1 := by rw [hsb.1, Heap.size_push]
  have FL : Fr hB s.heap.objs.size h₁ (fun x => List.lookup x [(SELF, .ref a)].reverse) := ⟨hns, fun b o e => hk₁ b o (k b o e), hsz⟩
  have hI := fun (o : Obj) (hf : o.isFreed = false) => Heap.get?_push_size (h := h₁) (o := o) hf
  refine wpAny_specialOf ⟨_, hI _ rfl, rfl⟩ slot_gen_next.lookup ?_
  refine h h₁.objs.size s.heap.objs.size _ _ (fun A' => ⟨⟨_, _, _, hI _ rfl, rfl, rfl, rfl⟩, FL.push _, .fresh (.func (yieldBody q1 q2 q3 q4 q5 q6 q7 q8 q9 q10 q11 q12) (envOf qual { kind := .function, names := [(SELF, .local)], isGenerator := true, isCoroutine := false, more := [] } s.heap.objs.size 140 cdv)), ?_, fun s'' F'' => ⟨rfl, ?_⟩⟩) ?_ ?_ ?_ ?_ ?_ ?_ ?_ ?_
  · exact (Array.getElem?_push_size ..)
  · exact tag_seg X TB rfl rfl rfl rfl rfl ⟨s''.heap, s''.toks, rfl, fun _ _ e => e⟩ F''
  · rw [hsz₁]; exact Nat.le_succ _
  · exact Nat.le_refl _
  · show h₁.objs.size < (h₁.push _).objs.size
    rw [Heap.size_push]; exact Nat.lt_succ_self _
  · show s.heap.objs.size < (h₁.push _).objs.size
    rw [Heap.size_push, hsz₁]; omega
  · exact fun b o e => Heap.get?_push_of_some _ (hk₁ b o e)
  · rfl
  · rfl
  · exact ⟨_, rfl, rfl⟩
theorem items_eq {vals : List Value} {acc : Array Value} (h : ItemsOf (fun j v => vals[j]? = some v) acc vals.length) : acc.toList = vals := by
  refine List.ext_getElem? fun j => ?_
  rw [Array.getElem?_toList]
  by_cases hj : j < vals.length
  · have hj' : j < acc.size := by rw [h.1]; exact hj
    rw [Array.getElem?_eq_getElem hj']
    exact (h.2 j _ (Array.getElem?_eq_getElem hj')).symm
  · rw [List.getElem?_eq_none (Nat.le_of_not_lt hj), Array.getElem?_eq_none (by rw [h.1]; exact Nat.le_of_not_lt hj)]
theorem collect_tag {a p : Addr} {c f n : Int} {t1 t2 t3 : Tok} (C : Cx w s.heap) (hA : Sm 5 A) (T : TagIs s.heap a c f n t1 t2 t3 p) : Gv w A (collect (.ref a)) (fun l _ => l = [.int c t1, .int f t2, .int n t3]) s := by
  obtain ⟨dx, od, I₀⟩ := T.inst
  have ha : a < s.heap.objs.size := Heap.lt_size I₀.at_
  have hlen : findIn (hd.heap_39 w.params) (.ref 181) "__len__" = some none := by k_is
  have hhint : findIn (hd.heap_39 w.params) (.ref 181) "__length_hint__" = some none := by k_is
  show wpAny _ _ _ _ _ _
  unfold collect
  refine wpAny_bind (wpAny_runValue (codeAny_builtin F.entry_proto_collect ?_))
  rw [Around.under_plainId F.plain_proto_collect _]
  show wpAny _ A.in1 (newList [] >>= fun l => again (.builtin "list.__iadd__" ⟨[l, .ref a], []⟩)) _ _ s
  refine wpAny_bind (wpAny_newObj_type ?_)
  refine wpAny_pure ⟨plainId_quiet F.plain_list_iadd _, codeAny_builtin F.entry_list_iadd ?_⟩
  rw [Around.under_plainId F.plain_list_iadd _]
  show wpAny _ A.in1 (Builtin.List.listExtendWith (.ref s.heap.objs.size) (.ref a) (.ref s.heap.objs.size)) _ _ _
  generalize hH : s.heap.push { cls := .type "list", data := .seq ([] : List Value).toArray } = H
  have hk : ∀ b o, s.heap.get? b = some o → H.get? b = some o := fun b o e => hH ▸ Heap.get?_push_of_some _ e
  have hS : H.get? s.heap.objs.size = some { cls := .type "list", data := .seq ([] : List Value).toArray } := hH ▸ Heap.get?_push_size _ rfl
  have hHz : H.objs.size = s.heap.objs.size + 1 := by rw [← hH, Heap.size_push]
  unfold Builtin.List.listExtendWith
  have I₁ : W.InstAt H a (instObj 181 dx) 181 (some od) := ⟨hk _ _ I₀.at_, rfl, rfl, hk _ _ I₀.dict⟩
  refine wpAny_bind (I₁.type.here ?_)
  have h1 : Builtin.List.listSameRef (.ref s.heap.objs.size) (.ref a) = false := by
    show (s.heap.objs.size == a) = false
    simp only [beq_eq_false_iff_ne]; exact Nat.ne_of_gt ha
  have h2 : (Value.ref 181 == Value.type "list") = false := by decide
  have h3 : (Value.ref 181 == Value.type "tuple") = false := by decide
  simp only [h1, h2, h3, Bool.or_false, Bool.false_eq_true, if_false]
  refine wpAny_bind (tag_iter (s := { s with heap := H }) (hB := s.heap) (C.keep hk) ((hA.lower (k := 5) (j := 3) (by omega)).in1) (T.keep hk) hk (by rw [hHz]; omega) C.X T fun I L m s' hst hI hL hI' hL' hk' hdr hos hg => ?_)
  have I₂ : W.InstAt s'.heap a (instObj 181 dx) 181 (some od) := ⟨hk' _ _ I₁.at_, rfl, rfl, hk' _ _ I₁.dict⟩
  have X₂ : (hd.heap_39 w.params).In s'.heap := (C.X.keeps hk).keeps hk'
  refine wpAny_bind (wpAny_holding ?_)
  unfold Builtin.List.listLengthHint
  refine wpAny_bind (wpAny_bind (I₂.type.here ((looks_findIn X₂ hlen).here ?_)))
  show wpAny _ A.in1 (specialOf (Value.ref a) (Str.ofString "__length_hint__") >>= _) _ _ _
  refine wpAny_bind (wpAny_bind (I₂.type.here ((looks_findIn X₂ hhint).here ?_)))
  refine wpAny_pure ?_
  show wpAny _ A.in1 (rule "list.extend.makes-room" >>= fun _ => Builtin.List.listTouch (.ref s.heap.objs.size) >>= fun _ =>
    again (.builtin "list.extend.loop" ⟨[.ref s.heap.objs.size, .ref I, .ref s.heap.objs.size], []⟩)) _ _ _
  refine wpAny_bind (wpAny_rule ?_)
  have hS₁ := hk' _ _ hS
  refine wpAny_bind ?_
  show wpAny _ A.in1 (updateSeq s.heap.objs.size (·.push .none) >>= fun _ => updateSeq s.heap.objs.size (·.pop)) _ _ _
  refine wpAny_bind (wpAny_updateSeq hS₁ rfl ?_)
  have hS₂ := Heap.get?_update_self (Obj.mapSeq (·.push Value.none)) hS₁ rfl
  refine wpAny_updateSeq hS₂ rfl ?_
  have hS₃ := Heap.get?_update_self (Obj.mapSeq (·.pop)) hS₂ rfl
  generalize hU : (s'.heap.update s.heap.objs.size (Obj.mapSeq (·.push Value.none))).update s.heap.objs.size (Obj.mapSeq (·.pop)) = U at hS₃
  have oth : ∀ b o, b ≠ s.heap.objs.size → s'.heap.get? b = some o → U.get? b = some o :=
    fun b o hb e => hU ▸ (Heap.get?_update_other _ _ (Ne.symm hb)).trans ((Heap.get?_update_other _ _ (Ne.symm hb)).trans e)
  have hSI : s.heap.objs.size ≠ I := by have : H.objs.size ≤ I := hI; omega
  have hSL : s.heap.objs.size ≠ L := by have : H.objs.size ≤ L := hL; omega
  have hSf : s.heap.objs.size ∉ I :: L :: List.range s.heap.objs.size := by
    intro hm
    rcases List.mem_cons.mp hm with h | hm
    · exact hSI h
    rcases List.mem_cons.mp hm with h | hm
    · exact hSL h
    · exact Nat.lt_irrefl _ (List.mem_range.mp hm)
  have W := tagWalk (w := w) (A := A.in1) (I := I) (g := s.gens.size) (hB := s.heap) (L := L) (m := m) (vals := [.int c t1, .int f t2, .int n t3]) hA.handled hA.room C.nolimit
  refine wpAny_pure ⟨plainId_quiet F.plain_extend_loop _, codeAny_extend_loopS W (by size_fits) _ hSf _ 3 0 _ _ _ rfl (Nat.zero_le _)
    (W.frame 0 s' U s'.toks (hst _) (Nat.le_refl _) fun b hb o e => oth b o (fun h => hSf (h ▸ hb)) e) hS₃ (ItemsOf.nil _) fun s₂ acc c' hm hS' hacc => ?_⟩
  show wpAny _ A (load s.heap.objs.size >>= _) _ _ s₂
  refine wpAny_bind (wpAny_load hS' ?_)
  refine wpAny_pure ⟨⟨s₂.heap, s₂.toks, s₂.gens, ?_, fun b o e => ?_, fun hb => ?_⟩, items_eq hacc⟩
  · obtain ⟨h2, g2, d2, t2, o2⟩ := s₂
    have e1 : d2 = s.drawn := hm.drawn.trans hdr
    have e2 : o2 = s.os := hm.os.trans hos
    subst e1 e2
    rfl
  · have hne : b ≠ s.heap.objs.size := Nat.ne_of_lt (Heap.lt_size e)
    exact hm.heap b o (by simpa using hne) (oth b o hne (hk' _ _ (hk _ _ e)))
  · obtain ⟨y, hy, hgs⟩ := hg
    have : AllBare s'.gens := by rw [hgs]; exact AllBare.push hb hy
    exact GenOnlyQ.bare hm.gens this
end
end Mine
end
section
set_option maxRecDepth 100000
set_option maxHeartbeats 4000000
open PySem PySem.W PyProof.Rows
namespace Mine
section
variable {w : World} {A : Around} {s : Shared}
/-- «tuple(tag)» -/
theorem tuple_tag {a p : Addr} {c f n : Int} {t1 t2 t3 : Tok} (C : Cx w s.heap) (hA : Sm 8 A) (T : TagIs s.heap a c f n t1 t2 t3 p) :
    Gv w A (call (.type "tuple") [.ref a]) (fun v s' => ∃ q, v = .ref q ∧ s'.heap.get? q = some (tupObj [.int c t1, .int f t2, .int n t3])) s := by
  obtain ⟨dx, od, I₀⟩ := T.inst
  refine callType_codes (Q₁ := fun obj s₁ => s₁.TypeIs obj "tuple" ∧ (Kp s s₁ ∧ ∃ q, obj = .ref q ∧ s₁.heap.get? q = some (tupObj [.int c t1, .int f t2, .int n t3]))) F.called_tuple (F.typeCall_tuple_1 _) F.entry_object_init ?_ fun obj s₁ h₁ => ?_
  · refine codeAny_of_tree ?_
    show wpAny _ A.in1.in1 (do checkBuiltinCall "tuple.__new__" ⟨[.type "tuple", .ref a], []⟩; again (.builtin "tuple.__new__" ⟨[.type "tuple", .ref a], []⟩)) _ _ s
    refine wpAny_bind (wpAny_of_eq (F.newCall_tuple_1 _) (wpAny_pure ⟨plainId_quiet F.plain_tuple_new _, codeAny_builtin F.entry_tuple_new ?_⟩))
    rw [Around.under_plainId F.plain_tuple_new _]
    have hsub := sub_tuple_self
    have hinit := init_tuple_lookup
    have hmh := madeHere_tuple
    have hty : ∀ {A' : Around} {Q : Value → Shared → Prop} {E : Value → Shared → Prop}, Q (.ref 181) s → wpAny (M w) A' (typeOf (.ref a)) Q E s := fun {A' Q E} h => I₀.type.here h
    have hco : ∀ {Q : List Value → Shared → Prop} {E : Value → Shared → Prop}, (∀ s', Kp s s' → Q [.int c t1, .int f t2, .int n t3] s') → wpAny (M w) A.in1.in1 (collect (.ref a)) Q E s := fun {Q E} h =>
      (collect_tag C (((hA.lower (k := 8) (j := 7) (by omega)).in1).in1) T).use fun l s' hk hl => by subst hl; exact h s' hk
    wp_walk using hty, hco
    intro s' hk
    show wpAny _ _ (Builtin.Tuple.tupleExact [Value.int c t1, Value.int f t2, Value.int n t3].toArray >>= fun v => ret v) _ _ _
    unfold Builtin.Tuple.tupleExact
    refine wpAny_bind (wpAny_newObj_type ?_ (by size_fits))
    refine wpAny_pure ?_
    exact ⟨⟨_, Heap.get?_push_size _ rfl, rfl⟩, hk.trans (Kp.heap fun _ _ e => Heap.get?_push_of_some _ e), _, rfl, Heap.get?_push_size _ rfl⟩
  · exact ⟨h₁.1, F.args_object_init_2 obj _, object_init_meets F.called_tuple.init.lookup F.called_tuple.made (by decide) _ w A.in1 _ s₁ ⟨h₁.1, rfl, h₁.2⟩⟩
end
end Mine
end
section
set_option maxRecDepth 100000
set_option maxHeartbeats 4000000
open PySem PySem.W PyProof.Rows
namespace Mine
local macro_rules | `(tactic| ktr_rel) => `(tactic| repeat ((fail_if_success (first | with_reducible show wpAny _ _ (call _ _ _) _ _ _ | with_reducible show wpAny _ _ (eval (Expr.ListComp _ _ _ _) _) _ _ _ | with_reducible show wpAny _ _ (compareOp _ (Value.ref _) _) _ _ _ | with_reducible show wpAny _ _ (compareOp _ _ (Value.ref _)) _ _ _ | with_reducible show wpAny _ _ (getAttr (Value.ref _) _ _) _ _ _ | with_reducible show wpAny _ _ (subscriptTail _ _ _ _) _ _ _ | with_reducible show wpAny _ _ (binaryOp _ (Value.ref _) _) _ _ _)); walk1))
local macro_rules | `(tactic| tb_start) => `(tactic| first
  | (with_reducible refine' tagClass_own ?zX ?zT ?_; (case zX => k_in); (case zT => exact TagIs.keep (by assumption) (Fr.keep (by assumption))))
  | (with_reducible refine' tagFormat_own ?zX ?zT ?_; (case zX => k_in); (case zT => exact TagIs.keep (by assumption) (Fr.keep (by assumption))))
  | (with_reducible refine' tagId_own ?zX ?zT ?_; (case zX => k_in); (case zT => exact TagIs.keep (by assumption) (Fr.keep (by assumption))))
  | (with_reducible refine' tagClassId_own ?zX ?zT ?_; (case zX => k_in); (case zT => exact TagIs.keep (by assumption) (Fr.keep (by assumption))))
  | (with_reducible refine' tagClass_use ?zC ?zA ?zT ?_; (case zC => exact Cx.keep (by assumption) (Fr.keep (by assumption))); (case zA => exact Sm.lower (by assumption) (by omega)); (case zT => exact TagIs.keep (by assumption) (Fr.keep (by assumption))); intro s₁ k₁; (have F := Fr.keeps (by assumption) (Kp.keep k₁)))
  | (with_reducible refine' tagFormat_use ?zC ?zA ?zT ?_; (case zC => exact Cx.keep (by assumption) (Fr.keep (by assumption))); (case zA => exact Sm.lower (by assumption) (by omega)); (case zT => exact TagIs.keep (by assumption) (Fr.keep (by assumption))); intro s₁ k₁; (have F := Fr.keeps (by assumption) (Kp.keep k₁)))
  | (with_reducible refine' tagId_use ?zC ?zA ?zT ?_; (case zC => exact Cx.keep (by assumption) (Fr.keep (by assumption))); (case zA => exact Sm.lower (by assumption) (by omega)); (case zT => exact TagIs.keep (by assumption) (Fr.keep (by assumption))); intro s₁ k₁; (have F := Fr.keeps (by assumption) (Kp.keep k₁))))
local macro_rules | `(tactic| tb_rel) => `(tactic| first | assumption | exact Kp.refl _ | (refine Kp.trans ?_ (by assumption); tb_rel) | (refine Kp.toks ?_; tb_rel))
local macro_rules | `(tactic| ktd_rel) => `(tactic| repeat' ((first | with_reducible show wpAny _ _ _ _ _ _ | with_reducible show (if _ then _ else _)); walk1))
section
variable {w : World} {A : Around} {s : Shared}
theorem law_at {l : Addr} {vs : List Value} {ns : List Int} {i d : Int} {t1 t2 : Tok} (C : Cx w s.heap) (hA : Sm 2 A) (hl : s.heap.IsList l vs.toArray) (hi : IntsAre vs ns) (hfit : ns.length ≤ 63) (h0 : 0 ≤ i) :
    Gv w A (call (.ref 339) [.ref l, .int i t1, .int d t2]) (fun v s' => ∃ t, v = .int (cellAt ns i d) t) s := by
  have X := C.X
  obtain ⟨_, _, _, TT⟩ := C.T
  refine call_fn (binds := [(Str.ofString "script", .ref l), (Str.ofString "k", .int i t1), (Str.ofString "other", .int d t2)]) C hA (by k_is) (by k_is) (by exact BindsTo.of_eq rfl) (by exact locs rfl) (by decide) (by rfl) (by rfl) (by rfl) fun L s₀ k₀ F hA' => ?_
  refine wpAny_execs_cons (wpAny_Return_some ?_)
  ktd_rel
  · exact ⟨by tb_rel, _, by rw [← cell_in h0 (by assumption)]⟩
  · exact ⟨by tb_rel, _, by rw [← cell_out h0 (by assumption)]⟩
theorem isList {h : Heap} {l : Addr} {items : List Value} {e : Nat} (hl : h.get? l = some { cls := .type "list", data := .seq items.toArray e }) : h.IsList l items.toArray := ⟨_, hl, rfl, _, rfl⟩
theorem sub_list {l : Addr} {items : List Value} {k : Int} {t : Tok} {e : Nat} {value slice : Expr} {Q E : Value → Shared → Prop} (hl : s.heap.get? l = some { cls := .type "list", data := .seq items.toArray e })
    (h0 : 0 ≤ k) (h1 : k < items.length) (hz : items.length ≤ 1000) (h : ∀ x ∈ items, Q x s)
    (hs : subscripted slice false (.ref l) (.int k t) = operate [.ref l, .int k t] (getItem (.ref l) (.int k t)) := by with_unfolding_all rfl) (ht : ∀ r, letTemporaryGo value (.ref l) r = pure () := by intro _; with_unfolding_all rfl) :
    wpAny (M w) A (subscriptTail value slice (.ref l) (.int k t)) Q E s := by
  have hk : k.toNat < items.length := by omega
  refine subscriptTail_builtin (isList hl).typeIs slot_list_getitem.lookup (wpAny_getItem_list (isList hl) h0 (by omega) (x := items[k.toNat]) ?_ (h _ (List.getElem_mem hk))) hs ht
  rw [List.getElem?_toArray]
  exact List.getElem?_eq_getElem hk
theorem fmod_in (d : Int) {b : Int} (hb : 0 < b) : 0 ≤ d.fmod b ∧ d.fmod b < b := ⟨Int.fmod_nonneg_of_pos _ hb, Int.fmod_lt_of_pos _ hb⟩
theorem law_tag {d n : Int} {t1 t2 : Tok} (C : Cx w s.heap) (hA : Sm 2 A) :
    Gv w A (call (.ref 346) [.int d t1, .int n t2]) (fun v s' => ∃ q c f n t1 t2 t3, v = .ref q ∧ s'.heap.get? q = some (tupObj [.int c t1, .int f t2, .int n t3]) ∧ (0 ≤ c ∧ c ≤ 192) ∧ (0 ≤ f ∧ f ≤ 32) ∧ (0 ≤ n ∧ n < 10 ^ 40)) s := by
  have X := C.X
  obtain ⟨_, _, _, TT⟩ := C.T
  refine call_fn (binds := [(Str.ofString "d", .int d t1), (Str.ofString "n", .int n t2)]) C hA (by k_is) (by k_is) (by exact BindsTo.of_eq rfl) (by exact locs rfl) (by decide) (by rfl) (by rfl) (by rfl) fun L s₀ k₀ F hA' => ?_
  refine wpAny_execs_cons (wpAny_Return_some ?_)
  ktd_rel
  refine wpAny_newList ?_
  have F1 := F.push { cls := .type "list", data := .seq [Value.int 0 s₀.toks, Value.int 64 (s₀.toks + 1), Value.int 128 (s₀.toks + 1 + 1), Value.int 192 (s₀.toks + 1 + 1 + 1)].toArray }
  ktd_rel
  refine sub_list (Heap.get?_push_size _ rfl) (fmod_in d (b := 4) (by decide)).1 (fmod_in d (b := 4) (by decide)).2 (by show 4 ≤ 1000; decide) (fun x hx => ?_)
  obtain ⟨c, tc, rfl, hc⟩ : ∃ c tc, x = .int c tc ∧ (0 ≤ c ∧ c ≤ 192) := by
    simp only [List.mem_cons, List.not_mem_nil, or_false] at hx
    rcases hx with rfl | rfl | rfl | rfl <;> exact ⟨_, _, rfl, by decide⟩
  clear hx
  ktd_rel
  refine wpAny_newList ?_
  have F2 := F1.push { cls := .type "list", data := .seq [Value.int 0 (s₀.toks + 1 + 1 + 1 + 1 + 1 + 1), Value.int 32 (s₀.toks + 1 + 1 + 1 + 1 + 1 + 1 + 1)].toArray }
  ktd_rel
  refine sub_list (Heap.get?_push_size _ rfl) (fmod_in _ (b := 2) (by decide)).1 (fmod_in _ (b := 2) (by decide)).2 (by show 2 ≤ 1000; decide) (fun x hx => ?_)
  obtain ⟨f, tf, rfl, hf⟩ : ∃ c tc, x = .int c tc ∧ (0 ≤ c ∧ c ≤ 32) := by
    simp only [List.mem_cons, List.not_mem_nil, or_false] at hx
    rcases hx with rfl | rfl <;> exact ⟨_, _, rfl, by decide⟩
  clear hx
  ktd_rel
  refine wpAny_newTuple ?_
  have hp := fmod_in n (b := 10 ^ 40) (by decide)
  exact ⟨k₀.trans (Kp.heap fun b o e => Heap.get?_push_of_some _ (Heap.get?_push_of_some _ (Heap.get?_push_of_some _ e))), _, c, f, _, tc, tf, _, rfl, Heap.get?_push_size _ rfl, hc, hf, hp⟩
end
end Mine
end
section
set_option maxRecDepth 100000
set_option maxHeartbeats 4000000
open PySem PySem.W PyProof.Rows
namespace Mine
local macro_rules | `(tactic| ktr_rel) => `(tactic| repeat ((fail_if_success (first | with_reducible show wpAny _ _ (call _ _ _) _ _ _ | with_reducible show wpAny _ _ (eval (Expr.ListComp _ _ _ _) _) _ _ _ | with_reducible show wpAny _ _ (compareOp _ (Value.ref _) _) _ _ _ | with_reducible show wpAny _ _ (compareOp _ _ (Value.ref _)) _ _ _ | with_reducible show wpAny _ _ (getAttr (Value.ref _) _ _) _ _ _ | with_reducible show wpAny _ _ (subscriptTail _ _ _ _) _ _ _ | with_reducible show wpAny _ _ (binaryOp _ (Value.ref _) _) _ _ _)); walk1))
local macro_rules | `(tactic| tb_start) => `(tactic| first
  | (with_reducible refine' tagClass_own ?zX ?zT ?_; (case zX => k_in); (case zT => exact TagIs.keep (by assumption) (Fr.keep (by assumption))))
  | (with_reducible refine' tagFormat_own ?zX ?zT ?_; (case zX => k_in); (case zT => exact TagIs.keep (by assumption) (Fr.keep (by assumption))))
  | (with_reducible refine' tagId_own ?zX ?zT ?_; (case zX => k_in); (case zT => exact TagIs.keep (by assumption) (Fr.keep (by assumption))))
  | (with_reducible refine' tagClassId_own ?zX ?zT ?_; (case zX => k_in); (case zT => exact TagIs.keep (by assumption) (Fr.keep (by assumption))))
  | (with_reducible refine' tagClass_use ?zC ?zA ?zT ?_; (case zC => exact Cx.keep (by assumption) (Fr.keep (by assumption))); (case zA => exact Sm.lower (by assumption) (by omega)); (case zT => exact TagIs.keep (by assumption) (Fr.keep (by assumption))); intro s₁ k₁; (have F := Fr.keeps (by assumption) (Kp.keep k₁)))
  | (with_reducible refine' tagFormat_use ?zC ?zA ?zT ?_; (case zC => exact Cx.keep (by assumption) (Fr.keep (by assumption))); (case zA => exact Sm.lower (by assumption) (by omega)); (case zT => exact TagIs.keep (by assumption) (Fr.keep (by assumption))); intro s₁ k₁; (have F := Fr.keeps (by assumption) (Kp.keep k₁)))
  | (with_reducible refine' tagId_use ?zC ?zA ?zT ?_; (case zC => exact Cx.keep (by assumption) (Fr.keep (by assumption))); (case zA => exact Sm.lower (by assumption) (by omega)); (case zT => exact TagIs.keep (by assumption) (Fr.keep (by assumption))); intro s₁ k₁; (have F := Fr.keeps (by assumption) (Kp.keep k₁))))
local macro_rules | `(tactic| tb_rel) => `(tactic| first | assumption | exact Kp.refl _ | (refine Kp.trans ?_ (by assumption); tb_rel) | (refine Kp.toks ?_; tb_rel))
local macro_rules | `(tactic| ktd_rel) => `(tactic| repeat' ((first | with_reducible show wpAny _ _ _ _ _ _ | with_reducible show (if _ then _ else _)); walk1))
/-- the law's own text and scope, out of the given program -/
def lawOf : Stmt → Option (List Stmt × Scope)
  | .FunctionDef n _ b _ _ _ sc _ _ _ => if n == Str.ofString "law" then some (b, sc) else none
  | _ => none
def lawText : List Stmt × Scope := (PySem.Challenge.rw_gr5021_01.prog.main.body.findSome? lawOf).getD ([], default)
abbrev lawScope : Scope := lawText.2
abbrev lawEnv (L : Addr) : Env := envOfC (Str.ofString "law") lawScope L 377 (.ref 376)
/-- a heap without the object at L -/
def off (h : Heap) (L : Addr) : Heap := h.update L fun o => { o with data := .freed }
theorem off_get {h : Heap} {L b : Addr} (hb : b ≠ L) : (off h L).get? b = h.get? b := Heap.get?_update_other _ _ (Ne.symm hb)
theorem off_self {h : Heap} {L : Addr} : (off h L).get? L = none := by
  show (match (h.objs.modify L fun o => { o with data := .freed })[L]? with | some ⟨_, _, .freed, _⟩ => none | o => o) = none
  rw [Array.getElem?_modify]
  cases h.objs[L]? <;> simp
structure LF (w : World) (S : Shared) (L : Addr) (B : Heap) (m : Str → Option Value) (s : Shared) : Prop where
  F : Fr S.heap L s.heap m
  X : (hd.heap_39 w.params).In S.heap
  T : ∃ mean mg mb, Top hd.view_39 (looseW hd.view_39 [Str.ofString "PyAsn1Error", Str.ofString "Tag", Str.ofString "TagSet"]) mean mg mb S.heap
  low : ∀ b o, S.heap.get? b = some o → B.get? b = some o
  base : ∀ b o, B.get? b = some o → s.heap.get? b = some o
  off : B.get? L = none
  bare : AllBare s.gens
  drawn : s.drawn = S.drawn
  os : s.os = S.os
section
variable {w : World} {A : Around} {S s s' : Shared} {L : Addr} {B : Heap} {m : Str → Option Value}
theorem LF.cx (l : LF w S L B m s) : Cx w s.heap := by
  obtain ⟨a, b, c, T⟩ := l.T
  exact ⟨⟨_, _, _, l.F, l.X⟩, l.X.keeps l.F.keep, a, b, c, T.keeps l.F.keep⟩
theorem LF.kp (l : LF w S L B m s) (k : Kp s s') : LF w S L B m s' := by
  obtain ⟨h', tk, g', rfl, kk, kb⟩ := k
  exact ⟨l.F.keeps kk, l.X, l.T, l.low, fun b o e => kk _ _ (l.base b o e), l.off, kb l.bare, l.drawn, l.os⟩
theorem LF.up (l : LF w S L B m s) : LF w S L (Mine.off s.heap L) m s ∧ (∀ b o, B.get? b = some o → (Mine.off s.heap L).get? b = some o) := by
  have hb : ∀ b o, B.get? b = some o → (Mine.off s.heap L).get? b = some o := fun b o e => by
    have hne : b ≠ L := fun q => by rw [q, l.off] at e; cases e
    rw [off_get hne]; exact l.base b o e
  refine ⟨⟨l.F, l.X, l.T, fun b o e => hb b o (l.low b o e), fun b o e => ?_, off_self, l.bare, l.drawn, l.os⟩, hb⟩
  by_cases hne : b = L
  · rw [hne, off_self] at e; cases e
  · rwa [off_get hne] at e
theorem LF.set {h' : Heap} {m' : Str → Option Value} {tk : Nat} (l : LF w S L B m s) (hn : h'.Ns L m') (hs : Heap.SameBut L s.heap h') : LF w S L B m' { s with heap := h', toks := tk } :=
  ⟨l.F.set hn hs, l.X, l.T, l.low, fun b o e => (hs.2 b (fun q => by rw [q, l.off] at e; cases e)).trans (l.base b o e), l.off, l.bare, l.drawn, l.os⟩
theorem LF.kp2 {t : Nat} (l : LF w S L B m s) (k : Kp ⟨s.heap, s.gens, s.drawn, t, s.os⟩ s') : LF w S L B m s' := l.kp ((Kp.heap fun _ _ e => e).trans k)
theorem LF.tk {t : Nat} (l : LF w S L B m s) : LF w S L B m ⟨s.heap, s.gens, s.drawn, t, s.os⟩ := l.kp (Kp.heap fun _ _ e => e)
theorem ne_int_same {x : Int} {t1 t2 : Tok} {E Q : Value → Shared → Prop} (h : Q (.bool false) s) : wpAny (M w) A (compareOp .NotEq (.int x t1) (.int x t2)) Q E s := ne_int (by simpa using h)
theorem lawKind : lawScope.kind = .function := by rfl
theorem law_ld {x : Str} {pos : Pos} {v : Value} {E Q : Value → Shared → Prop} {h₀ : Heap} (F : Fr h₀ L s.heap m) (hv : m x = some v) (h : Q v s) (hl : (lawEnv L).kindOf x = some .local := by rfl) (hd : (x == ("__debug__" : Str)) = false := by decide) :
    wpAny (M w) A (eval (.Name x pos) (lawEnv L)) Q E s := ldLoc F hv h rfl hl hd
theorem law_st {x : Str} {v : Value} {E : Value → Shared → Prop} {Q : Unit → Shared → Prop} {t : Nat} (l : LF w S L B m s) (h : ∀ s', LF w S L B (fun y => if y = x then some v else m y) s' → (∀ b o, b ≠ L → s.heap.get? b = some o → s'.heap.get? b = some o) → Q () s') (hl : (lawEnv L).kindOf x = some .local := by rfl) :
    wpAny (M w) A (storeName (lawEnv L) x v) Q E ⟨s.heap, s.gens, s.drawn, t, s.os⟩ :=
  wpAny_storeName_local hl l.F.ns (fun h' hn hs => h _ (l.set hn hs) fun b o hb e => (hs.2 b hb).trans e) rfl
theorem law_tup {vs : List Value} {E Q : Value → Shared → Prop} {t : Nat} (l : LF w S L B m s) (h : ∀ q s', LF w S L B m s' → (∀ b o, s.heap.get? b = some o → s'.heap.get? b = some o) → s'.heap.get? q = some (tupObj vs) → Q (.ref q) s') (hsz : vs.length ≤ sizeLine := by size_fits) :
    wpAny (M w) A (newTuple vs) Q E ⟨s.heap, s.gens, s.drawn, t, s.os⟩ :=
  wpAny_newTuple (h _ _ (l.kp (Kp.heap fun _ _ e => Heap.get?_push_of_some _ e)) (fun _ _ e => Heap.get?_push_of_some _ e) (Heap.get?_push_size _ rfl)) hsz
/-- an object that is no dict lies elsewhere than the frame -/
theorem LF.ne_dict (l : LF w S L B m s) {b : Addr} {o : Obj} (e : s.heap.get? b = some o) (hd : ∀ es n, o.data ≠ .dict es n) : b ≠ L := by
  intro q
  obtain ⟨oL, es, ep, hL, hdd, _⟩ := l.F.ns
  rw [q, hL] at e
  cases e
  exact hd _ _ hdd
/-- nor does a dict with other keys -/
theorem LF.ne_keys (l : LF w S L B m s) {b : Addr} {o : Obj} {es : Array DictEntry} {n : Nat} {x : Str} {v : Value} (hm : m x = some v) (e : s.heap.get? b = some o) (hd : o.data = .dict es n) (hx : nsFind es x = none) : b ≠ L := by
  intro q
  obtain ⟨oL, es', ep, hL, hdd, _, hf⟩ := l.F.ns
  rw [q, hL] at e
  cases e
  rw [hdd] at hd
  cases hd
  rw [hf x, hm] at hx
  cases hx
theorem LF.tag (l : LF w S L B m s) {v : Value} (hm : m (Str.ofString "first") = some v) {a p : Addr} {c f n : Int} {t1 t2 t3 : Tok} (T : TagIs s.heap a c f n t1 t2 t3 p) : TagIs (Mine.off s.heap L) a c f n t1 t2 t3 p := by
  obtain ⟨⟨h1, h2, h3, h4, k1, k2, k3, k4, dx, e1, e2⟩, e3⟩ := T
  refine ⟨⟨h1, h2, h3, h4, k1, k2, k3, k4, dx, ?_, ?_⟩, ?_⟩
  · rw [off_get (l.ne_dict e1 (by intro es n q; cases q))]; exact e1
  · rw [off_get (l.ne_keys hm e2 rfl (by rfl))]; exact e2
  · rw [off_get (l.ne_dict e3 (by intro es n q; cases q))]; exact e3
end
end Mine
end
section
set_option maxRecDepth 100000
set_option maxHeartbeats 4000000
open PySem PySem.W PyProof.Rows
namespace Mine
local macro_rules | `(tactic| ktr_rel) => `(tactic| repeat ((fail_if_success (first | with_reducible show wpAny _ _ (call _ _ _) _ _ _ | with_reducible show wpAny _ _ (eval (Expr.ListComp _ _ _ _) _) _ _ _ | with_reducible show wpAny _ _ (compareOp _ (Value.ref _) _) _ _ _ | with_reducible show wpAny _ _ (compareOp _ _ (Value.ref _)) _ _ _ | with_reducible show wpAny _ _ (getAttr (Value.ref _) _ _) _ _ _ | with_reducible show wpAny _ _ (subscriptTail _ _ _ _) _ _ _ | with_reducible show wpAny _ _ (binaryOp _ (Value.ref _) _) _ _ _)); walk1))
local macro_rules | `(tactic| tb_start) => `(tactic| first
  | (with_reducible refine' tagClass_own ?zX ?zT ?_; (case zX => k_in); (case zT => exact TagIs.keep (by assumption) (Fr.keep (by assumption))))
  | (with_reducible refine' tagFormat_own ?zX ?zT ?_; (case zX => k_in); (case zT => exact TagIs.keep (by assumption) (Fr.keep (by assumption))))
  | (with_reducible refine' tagId_own ?zX ?zT ?_; (case zX => k_in); (case zT => exact TagIs.keep (by assumption) (Fr.keep (by assumption))))
  | (with_reducible refine' tagClassId_own ?zX ?zT ?_; (case zX => k_in); (case zT => exact TagIs.keep (by assumption) (Fr.keep (by assumption))))
  | (with_reducible refine' tagClass_use ?zC ?zA ?zT ?_; (case zC => exact Cx.keep (by assumption) (Fr.keep (by assumption))); (case zA => exact Sm.lower (by assumption) (by omega)); (case zT => exact TagIs.keep (by assumption) (Fr.keep (by assumption))); intro s₁ k₁; (have F := Fr.keeps (by assumption) (Kp.keep k₁)))
  | (with_reducible refine' tagFormat_use ?zC ?zA ?zT ?_; (case zC => exact Cx.keep (by assumption) (Fr.keep (by assumption))); (case zA => exact Sm.lower (by assumption) (by omega)); (case zT => exact TagIs.keep (by assumption) (Fr.keep (by assumption))); intro s₁ k₁; (have F := Fr.keeps (by assumption) (Kp.keep k₁)))
  | (with_reducible refine' tagId_use ?zC ?zA ?zT ?_; (case zC => exact Cx.keep (by assumption) (Fr.keep (by assumption))); (case zA => exact Sm.lower (by assumption) (by omega)); (case zT => exact TagIs.keep (by assumption) (Fr.keep (by assumption))); intro s₁ k₁; (have F := Fr.keeps (by assumption) (Kp.keep k₁))))
local macro_rules | `(tactic| tb_rel) => `(tactic| first | assumption | exact Kp.refl _ | (refine Kp.trans ?_ (by assumption); tb_rel) | (refine Kp.toks ?_; tb_rel))
local macro_rules | `(tactic| ktd_rel) => `(tactic| repeat' ((first | with_reducible show wpAny _ _ _ _ _ _ | with_reducible show (if _ then _ else _)); walk1))
def lawStmt (k : Nat) : Stmt := lawText.1.getD k (.Pass default)
structure Scr (S : Shared) (L : Addr) (B : Heap) (sl : Addr) (vs : List Value) (ns : List Int) : Prop where
  cell : B.IsCell (L + 1) (some (.ref sl))
  list : S.heap.IsList sl vs.toArray
  hi : IntsAre vs ns
  hn : ns.length ≤ 63
section
variable {w : World} {A : Around} {S s s' : Shared} {L : Addr} {B : Heap} {m : Str → Option Value} {sl : Addr} {vs : List Value} {ns : List Int}
theorem law_script {pos : Pos} {E Q : Value → Shared → Prop} (k : ∀ b o, B.get? b = some o → s.heap.get? b = some o) (c : Scr S L B sl vs ns) (h : Q (.ref sl) s) :
    wpAny (M w) A (eval (.Name (Str.ofString "script") pos) (lawEnv L)) Q E s :=
  wpAny_Name (wpAny_loadName_cell rfl rfl (c := L + 1) rfl (c.cell.keeps k) h) (by decide)
local macro_rules | `(tactic| kpf_close) => `(tactic| first | assumption | exact if_pos rfl | (refine Eq.trans (if_neg (by decide)) ?_; kpf_close))
local macro_rules | `(tactic| kwd_rel) => `(tactic| repeat' (first
  | ((with_reducible show wpAny _ _ (eval (Expr.Name (Str.ofString "script") _) _) _ _ _); first | refine law_script (by assumption) (by assumption) ?_ | refine law_script (LF.base (by assumption)) (by assumption) ?_)
  | ((with_reducible show wpAny _ _ (eval (Expr.Name _ _) _) _ _ _); refine law_ld (by assumption) (by kpf_close) ?_)
  | ((with_reducible show wpAny _ _ (compareOp CmpOp.NotEq (Value.int _ _) (Value.int _ _)) _ _ _); with_reducible refine ne_int_same ?_)
  | ((with_reducible show wpAny _ _ (compareOp CmpOp.NotEq (Value.str _ _) (Value.str _ _)) _ _ _); first | with_reducible refine ne_str_same ?_ | refine ne_str_eq (by decide) ?_)
  | ((with_reducible show wpAny _ _ (subscriptTail _ _ (Value.ref _) (Value.int 0 _)) _ _ _); first | refine sub3_0 (by assumption) ?_ | refine sub2_0 (by assumption) ?_)
  | ((with_reducible show wpAny _ _ (subscriptTail _ _ (Value.ref _) (Value.int 1 _)) _ _ _); first | refine sub3_1 (by assumption) ?_ | refine sub2_1 (by assumption) ?_)
  | ((with_reducible show wpAny _ _ (subscriptTail _ _ (Value.ref _) (Value.int 2 _)) _ _ _); refine sub3_2 (by assumption) ?_)
  | ((fail_if_success (first | with_reducible show wpAny _ _ (call _ _ _) _ _ _ | with_reducible show wpAny _ _ (eval (Expr.Name (Str.ofString "script") _) _) _ _ _ | with_reducible show wpAny _ _ (eval (Expr.ListComp _ _ _ _) _) _ _ _ | with_reducible show wpAny _ _ (compareOp _ (Value.ref _) _) _ _ _ | with_reducible show wpAny _ _ (compareOp _ _ (Value.ref _)) _ _ _ | with_reducible show wpAny _ _ (getAttr (Value.ref _) _ _) _ _ _ | with_reducible show wpAny _ _ (subscriptTail _ _ _ _) _ _ _ | with_reducible show wpAny _ _ (binaryOp _ (Value.ref _) _) _ _ _)); (first | with_reducible show wpAny _ _ _ _ _ _ | with_reducible show (if _ then _ else _)); walk1)))
theorem st0 {Q : Flow → Shared → Prop} {E : Value → Shared → Prop} (l : LF w S L B m s) (c : Scr S L B sl vs ns) (hA : Sm 19 A)
    (h : ∀ s' q c f n t1 t2 t3, LF w S L B (fun y => if y = Str.ofString "first" then some (.ref q) else m y) s' → s'.heap.get? q = some (tupObj [.int c t1, .int f t2, .int n t3]) → (0 ≤ c ∧ c ≤ 192) → (0 ≤ f ∧ f ≤ 32) → (0 ≤ n ∧ n < 10 ^ 40) → Q .next s') :
    wpAny (M w) A (exec (lawStmt 0) (lawEnv L)) Q E s := by
  conv in (lawStmt 0) => whnf
  have X := l.X
  obtain ⟨_, _, _, TT⟩ := l.T
  have F := l.F
  refine wpAny_Assign_Name ?_
  kwd_rel
  refine ⟨l.cx.X, ?_⟩
  refine Gv.use (law_at (i := 0) (d := 9) l.cx (hA.lower (by omega)) (l.F.lst c.list) c.hi c.hn (by decide)) fun v s1 k1 hv => ?_
  obtain ⟨u1, rfl⟩ := hv
  have l := l.kp2 k1
  have F := l.F
  kwd_rel
  refine ⟨l.cx.X, ?_⟩
  refine Gv.use (law_at (i := 1) (d := 31) l.cx (hA.lower (by omega)) (l.F.lst c.list) c.hi c.hn (by decide)) fun v s2 k2 hv => ?_
  obtain ⟨u2, rfl⟩ := hv
  have l := l.kp2 k2
  have F := l.F
  kwd_rel
  refine ⟨l.cx.X, ?_⟩
  refine Gv.use (law_tag l.cx (hA.lower (by omega))) fun v s₃ k₃ hv => ?_
  obtain ⟨q, c, f, n, t1, t2, t3, rfl, hq, hc, hf, hn⟩ := hv
  have l := l.kp2 k₃
  refine law_st l fun s₄ l₄ kk => ?_
  exact h _ q c f n t1 t2 t3 l₄ (kk _ _ (l.ne_dict hq (by intro es n q; cases q)) hq) hc hf hn
theorem st1 {Q : Flow → Shared → Prop} {E : Value → Shared → Prop} (l : LF w S L B m s) (c : Scr S L B sl vs ns) (hA : Sm 19 A)
    (h : ∀ s' q c f n t1 t2 t3, LF w S L B (fun y => if y = Str.ofString "second" then some (.ref q) else m y) s' → s'.heap.get? q = some (tupObj [.int c t1, .int f t2, .int n t3]) → (0 ≤ c ∧ c ≤ 192) → (0 ≤ f ∧ f ≤ 32) → (0 ≤ n ∧ n < 10 ^ 40) → Q .next s') :
    wpAny (M w) A (exec (lawStmt 1) (lawEnv L)) Q E s := by
  conv in (lawStmt 1) => whnf
  have X := l.X
  obtain ⟨_, _, _, TT⟩ := l.T
  have F := l.F
  refine wpAny_Assign_Name ?_
  kwd_rel
  refine ⟨l.cx.X, ?_⟩
  refine Gv.use (law_at (i := 2) (d := 2) l.cx (hA.lower (by omega)) (l.F.lst c.list) c.hi c.hn (by decide)) fun v s1 k1 hv => ?_
  obtain ⟨u1, rfl⟩ := hv
  have l := l.kp2 k1
  have F := l.F
  kwd_rel
  refine ⟨l.cx.X, ?_⟩
  refine Gv.use (law_at (i := 3) (d := 127) l.cx (hA.lower (by omega)) (l.F.lst c.list) c.hi c.hn (by decide)) fun v s2 k2 hv => ?_
  obtain ⟨u2, rfl⟩ := hv
  have l := l.kp2 k2
  have F := l.F
  kwd_rel
  refine ⟨l.cx.X, ?_⟩
  refine Gv.use (law_tag l.cx (hA.lower (by omega))) fun v s₃ k₃ hv => ?_
  obtain ⟨q, c, f, n, t1, t2, t3, rfl, hq, hc, hf, hn⟩ := hv
  have l := l.kp2 k₃
  refine law_st l fun s₄ l₄ kk => ?_
  exact h _ q c f n t1 t2 t3 l₄ (kk _ _ (l.ne_dict hq (by intro es n q; cases q)) hq) hc hf hn
end
end Mine
end
section
set_option maxRecDepth 100000
set_option maxHeartbeats 4000000
open PySem PySem.W PyProof.Rows
namespace Mine
open PySem.SeqAt
local macro_rules | `(tactic| ktr_rel) => `(tactic| repeat ((fail_if_success (first | with_reducible show wpAny _ _ (call _ _ _) _ _ _ | with_reducible show wpAny _ _ (eval (Expr.ListComp _ _ _ _) _) _ _ _ | with_reducible show wpAny _ _ (compareOp _ (Value.ref _) _) _ _ _ | with_reducible show wpAny _ _ (compareOp _ _ (Value.ref _)) _ _ _ | with_reducible show wpAny _ _ (getAttr (Value.ref _) _ _) _ _ _ | with_reducible show wpAny _ _ (subscriptTail _ _ _ _) _ _ _ | with_reducible show wpAny _ _ (binaryOp _ (Value.ref _) _) _ _ _)); walk1))
local macro_rules | `(tactic| tb_start) => `(tactic| first
  | (with_reducible refine' tagClass_own ?zX ?zT ?_; (case zX => k_in); (case zT => exact TagIs.keep (by assumption) (Fr.keep (by assumption))))
  | (with_reducible refine' tagFormat_own ?zX ?zT ?_; (case zX => k_in); (case zT => exact TagIs.keep (by assumption) (Fr.keep (by assumption))))
  | (with_reducible refine' tagId_own ?zX ?zT ?_; (case zX => k_in); (case zT => exact TagIs.keep (by assumption) (Fr.keep (by assumption))))
  | (with_reducible refine' tagClassId_own ?zX ?zT ?_; (case zX => k_in); (case zT => exact TagIs.keep (by assumption) (Fr.keep (by assumption))))
  | (with_reducible refine' tagClass_use ?zC ?zA ?zT ?_; (case zC => exact Cx.keep (by assumption) (Fr.keep (by assumption))); (case zA => exact Sm.lower (by assumption) (by omega)); (case zT => exact TagIs.keep (by assumption) (Fr.keep (by assumption))); intro s₁ k₁; (have F := Fr.keeps (by assumption) (Kp.keep k₁)))
  | (with_reducible refine' tagFormat_use ?zC ?zA ?zT ?_; (case zC => exact Cx.keep (by assumption) (Fr.keep (by assumption))); (case zA => exact Sm.lower (by assumption) (by omega)); (case zT => exact TagIs.keep (by assumption) (Fr.keep (by assumption))); intro s₁ k₁; (have F := Fr.keeps (by assumption) (Kp.keep k₁)))
  | (with_reducible refine' tagId_use ?zC ?zA ?zT ?_; (case zC => exact Cx.keep (by assumption) (Fr.keep (by assumption))); (case zA => exact Sm.lower (by assumption) (by omega)); (case zT => exact TagIs.keep (by assumption) (Fr.keep (by assumption))); intro s₁ k₁; (have F := Fr.keeps (by assumption) (Kp.keep k₁))))
local macro_rules | `(tactic| tb_rel) => `(tactic| first | assumption | exact Kp.refl _ | (refine Kp.trans ?_ (by assumption); tb_rel) | (refine Kp.toks ?_; tb_rel))
local macro_rules | `(tactic| ktd_rel) => `(tactic| repeat' ((first | with_reducible show wpAny _ _ _ _ _ _ | with_reducible show (if _ then _ else _)); walk1))
section
variable {w : World} {A : Around} {S s s' : Shared} {L : Addr} {B : Heap} {m : Str → Option Value} {sl : Addr} {vs : List Value} {ns : List Int}
theorem isTup {h : Heap} {q : Addr} {items : List Value} {e : Nat} (hl : h.get? q = some (tupObj items e)) : IsTup h q items.toArray := ⟨_, hl, rfl, _, rfl⟩
theorem sub_tup {q : Addr} {items : List Value} {k : Int} {j : Nat} {t : Tok} {x : Value} {value slice : Expr} {Q E : Value → Shared → Prop} (hl : s.heap.get? q = some (tupObj items))
    (hlo : -(2 ^ 63) ≤ k) (hhi : k < 2 ^ 63) (hj : seqIndex? k items.toArray.size = some j) (hx : items.toArray[j]? = some x) (h : Q x s)
    (hs : subscripted slice false (.ref q) (.int k t) = operate [.ref q, .int k t] (getItem (.ref q) (.int k t)) := by with_unfolding_all rfl) (ht : ∀ r, letTemporaryGo value (.ref q) r = pure () := by intro _; with_unfolding_all rfl) :
    wpAny (M w) A (subscriptTail value slice (.ref q) (.int k t)) Q E s :=
  subscriptTail_builtin (isTup hl).typeIs slot_tuple_getitem.lookup (PyProof.Rows.getItem_tuple (isTup hl) hlo hhi hj hx h) hs ht
theorem sub3_0 {q : Addr} {t : Tok} {x y z : Value} {value slice : Expr} {Q E : Value → Shared → Prop} (hl : s.heap.get? q = some (tupObj [x, y, z])) (h : Q x s)
    (hs : subscripted slice false (.ref q) (.int 0 t) = operate [.ref q, .int 0 t] (getItem (.ref q) (.int 0 t)) := by with_unfolding_all rfl) (ht : ∀ r, letTemporaryGo value (.ref q) r = pure () := by intro _; with_unfolding_all rfl) :
    wpAny (M w) A (subscriptTail value slice (.ref q) (.int 0 t)) Q E s := sub_tup hl (by decide) (by decide) rfl rfl h hs ht
theorem sub3_1 {q : Addr} {t : Tok} {x y z : Value} {value slice : Expr} {Q E : Value → Shared → Prop} (hl : s.heap.get? q = some (tupObj [x, y, z])) (h : Q y s)
    (hs : subscripted slice false (.ref q) (.int 1 t) = operate [.ref q, .int 1 t] (getItem (.ref q) (.int 1 t)) := by with_unfolding_all rfl) (ht : ∀ r, letTemporaryGo value (.ref q) r = pure () := by intro _; with_unfolding_all rfl) :
    wpAny (M w) A (subscriptTail value slice (.ref q) (.int 1 t)) Q E s := sub_tup hl (by decide) (by decide) rfl rfl h hs ht
theorem sub3_2 {q : Addr} {t : Tok} {x y z : Value} {value slice : Expr} {Q E : Value → Shared → Prop} (hl : s.heap.get? q = some (tupObj [x, y, z])) (h : Q z s)
    (hs : subscripted slice false (.ref q) (.int 2 t) = operate [.ref q, .int 2 t] (getItem (.ref q) (.int 2 t)) := by with_unfolding_all rfl) (ht : ∀ r, letTemporaryGo value (.ref q) r = pure () := by intro _; with_unfolding_all rfl) :
    wpAny (M w) A (subscriptTail value slice (.ref q) (.int 2 t)) Q E s := sub_tup hl (by decide) (by decide) rfl rfl h hs ht
theorem law_unpack {q : Addr} {items : List Value} {n : Nat} {Q : List Value → Shared → Prop} {E : Value → Shared → Prop} {t : Nat} (l : LF w S L B m s) (hA : A.handled = none) (hq : s.heap.get? q = some (tupObj items)) (hn : n = items.length)
    (h : ∀ s', LF w S L B m s' → (∀ b o, s.heap.get? b = some o → s'.heap.get? b = some o) → Q items s') : wpAny (M w) A (unpackItems (.ref q) n none) Q E ⟨s.heap, s.gens, s.drawn, t, s.os⟩ := by
  subst hn
  refine unpackItems_tuple (s := ⟨s.heap, s.gens, s.drawn, t, s.os⟩) (items := items.toArray) hA (isTup hq) fun h' he => ?_
  have hk : ∀ b o, s.heap.get? b = some o → h'.get? b = some o := fun b o e => he b o (Nat.ne_of_lt (Heap.lt_size e)) e
  exact h _ (l.kp (Kp.heap hk)) hk
theorem law_list {vs : List Value} {E Q : Value → Shared → Prop} {t : Nat} (l : LF w S L B m s) (h : ∀ q s', LF w S L B m s' → (∀ b o, s.heap.get? b = some o → s'.heap.get? b = some o) → s'.heap.get? q = some { cls := .type "list", data := .seq vs.toArray } → Q (.ref q) s') (hsz : vs.length ≤ sizeLine := by size_fits) :
    wpAny (M w) A (newList vs) Q E ⟨s.heap, s.gens, s.drawn, t, s.os⟩ :=
  wpAny_newList (h _ _ (l.kp (Kp.heap fun _ _ e => Heap.get?_push_of_some _ e)) (fun _ _ e => Heap.get?_push_of_some _ e) (Heap.get?_push_size _ rfl)) hsz
theorem sub_item {l : Addr} {items : List Value} {k : Int} {t : Tok} {e : Nat} {x : Value} {value slice : Expr} {Q E : Value → Shared → Prop} (hl : s.heap.get? l = some { cls := .type "list", data := .seq items.toArray e })
    (h0 : 0 ≤ k) (h1 : k < 1000) (hx : items[k.toNat]? = some x) (h : Q x s)
    (hs : subscripted slice false (.ref l) (.int k t) = operate [.ref l, .int k t] (getItem (.ref l) (.int k t)) := by with_unfolding_all rfl) (ht : ∀ r, letTemporaryGo value (.ref l) r = pure () := by intro _; with_unfolding_all rfl) :
    wpAny (M w) A (subscriptTail value slice (.ref l) (.int k t)) Q E s :=
  subscriptTail_builtin (isList hl).typeIs slot_list_getitem.lookup (wpAny_getItem_list (isList hl) h0 (by omega) (x := x) (by rw [List.getElem?_toArray]; exact hx) h) hs ht
theorem sub2_0 {l : Addr} {x y : Value} {t : Tok} {value slice : Expr} {Q E : Value → Shared → Prop} (hl : s.heap.get? l = some { cls := .type "list", data := .seq [x, y].toArray }) (h : Q x s)
    (hs : subscripted slice false (.ref l) (.int 0 t) = operate [.ref l, .int 0 t] (getItem (.ref l) (.int 0 t)) := by with_unfolding_all rfl) (ht : ∀ r, letTemporaryGo value (.ref l) r = pure () := by intro _; with_unfolding_all rfl) :
    wpAny (M w) A (subscriptTail value slice (.ref l) (.int 0 t)) Q E s := sub_item hl (by decide) (by decide) rfl h hs ht
theorem sub2_1 {l : Addr} {x y : Value} {t : Tok} {value slice : Expr} {Q E : Value → Shared → Prop} (hl : s.heap.get? l = some { cls := .type "list", data := .seq [x, y].toArray }) (h : Q y s)
    (hs : subscripted slice false (.ref l) (.int 1 t) = operate [.ref l, .int 1 t] (getItem (.ref l) (.int 1 t)) := by with_unfolding_all rfl) (ht : ∀ r, letTemporaryGo value (.ref l) r = pure () := by intro _; with_unfolding_all rfl) :
    wpAny (M w) A (subscriptTail value slice (.ref l) (.int 1 t)) Q E s := sub_item hl (by decide) (by decide) rfl h hs ht
theorem LF.pair (l : LF w S L B m s) {v : Value} {x : Int × Int} (H : PairAt s.heap v x) : PairAt (Mine.off s.heap L) v x := by
  obtain ⟨p, e, t, u, rfl, hp⟩ := H
  exact ⟨p, e, t, u, rfl, by rw [off_get (l.ne_dict hp (by intro es n q; cases q))]; exact hp⟩
theorem LF.obj (l : LF w S L B m s) {b : Addr} {o : Obj} (e : s.heap.get? b = some o) (hd : ∀ es n, o.data ≠ .dict es n) : (Mine.off s.heap L).get? b = some o := by
  rw [off_get (l.ne_dict e hd)]; exact e
theorem tagKey {h : Heap} {a p : Addr} {c f n : Int} {t1 t2 t3 : Tok} (T : TagIs h a c f n t1 t2 t3 p) : KeyAt h 181 (Str.ofString "_Tag__tagClassId") (.ref a) (.pair (c, n)) := by
  obtain ⟨⟨h1, h2, h3, h4, k1, k2, k3, k4, dx, e1, e2⟩, e3⟩ := T
  exact .obj a p rfl ⟨dx, _, _, e1, e2, rfl⟩ ⟨p, 0, t1, t3, rfl, e3⟩
theorem isi_tag {a p : Addr} {c f n : Int} {t1 t2 t3 : Tok} {E Q : Value → Shared → Prop} (X : (hd.heap_39 w.params).In s.heap) (T : TagIs s.heap a c f n t1 t2 t3 p) (h : Q (.bool true) s) :
    wpAny (M w) A (call (.builtin "isinstance") [.ref a, .ref 181]) Q E s := by
  have e : isIn (hd.heap_39 w.params) (.ref 181) 181 = true := by k_is
  obtain ⟨dx, od, I⟩ := T.inst
  exact isi_call X (fun M => I.type) e (by intro h; cases h) h
theorem rc_same3 {A : Around} {s : Shared} {op : CmpOp} (ho : ord op = true) {q r : Addr} {x y z : Int} {t1 t2 t3 u1 u2 u3 : Tok} (hq : s.heap.get? q = some (tupObj [.int x t1, .int y t2, .int z t3])) (hr : s.heap.get? r = some (tupObj [.int x u1, .int y u2, .int z u3])) (hu : A.units < cLine) :
    RcOp A s op (.ref q) (.ref r) (lexAns op (fun _ => true) (fun _ => false) 3 3 [0, 1, 2]) := by
  refine rc_tuples ho hq hr hu (fun j h1 h2 => ?_) (fun j h1 h2 h => by cases h)
  match j, h1 with
  | 0, _ => have := EqAt.int_int (A := A.in1) (s := s) x t1 x u1; simpa using this
  | 1, _ => have := EqAt.int_int (A := A.in1) (s := s) y t2 y u2; simpa using this
  | 2, _ => have := EqAt.int_int (A := A.in1) (s := s) z t3 z u3; simpa using this
  | j + 3, h1 => exact absurd h1 (by simp)
theorem ne_same3 {A : Around} {s : Shared} {q r : Addr} {x y z : Int} {t1 t2 t3 u1 u2 u3 : Tok} {E Q : Value → Shared → Prop} (hq : s.heap.get? q = some (tupObj [.int x t1, .int y t2, .int z t3])) (hr : s.heap.get? r = some (tupObj [.int x u1, .int y u2, .int z u3])) (hA : Sm 1 A) (h : Q (.bool false) s) :
    wpAny (M w) A (compareOp .NotEq (.ref q) (.ref r)) Q E s := by
  rw [ce_ord rfl]
  exact rc_same3 rfl hq hr hA.cl _ _ _ _ h
local macro_rules | `(tactic| kpf_close) => `(tactic| first | assumption | exact if_pos rfl | (refine Eq.trans (if_neg (by decide)) ?_; kpf_close))
local macro_rules | `(tactic| kwd_rel) => `(tactic| repeat' (first
  | ((with_reducible show wpAny _ _ (eval (Expr.Name (Str.ofString "script") _) _) _ _ _); first | refine law_script (by assumption) (by assumption) ?_ | refine law_script (LF.base (by assumption)) (by assumption) ?_)
  | ((with_reducible show wpAny _ _ (eval (Expr.Name _ _) _) _ _ _); refine law_ld (by assumption) (by kpf_close) ?_)
  | ((with_reducible show wpAny _ _ (compareOp CmpOp.NotEq (Value.int _ _) (Value.int _ _)) _ _ _); with_reducible refine ne_int_same ?_)
  | ((with_reducible show wpAny _ _ (compareOp CmpOp.NotEq (Value.str _ _) (Value.str _ _)) _ _ _); first | with_reducible refine ne_str_same ?_ | refine ne_str_eq (by decide) ?_)
  | ((with_reducible show wpAny _ _ (subscriptTail _ _ (Value.ref _) (Value.int 0 _)) _ _ _); first | refine sub3_0 (by assumption) ?_ | refine sub2_0 (by assumption) ?_)
  | ((with_reducible show wpAny _ _ (subscriptTail _ _ (Value.ref _) (Value.int 1 _)) _ _ _); first | refine sub3_1 (by assumption) ?_ | refine sub2_1 (by assumption) ?_)
  | ((with_reducible show wpAny _ _ (subscriptTail _ _ (Value.ref _) (Value.int 2 _)) _ _ _); refine sub3_2 (by assumption) ?_)
  | ((fail_if_success (first | with_reducible show wpAny _ _ (call _ _ _) _ _ _ | with_reducible show wpAny _ _ (eval (Expr.Name (Str.ofString "script") _) _) _ _ _ | with_reducible show wpAny _ _ (eval (Expr.ListComp _ _ _ _) _) _ _ _ | with_reducible show wpAny _ _ (compareOp _ (Value.ref _) _) _ _ _ | with_reducible show wpAny _ _ (compareOp _ _ (Value.ref _)) _ _ _ | with_reducible show wpAny _ _ (getAttr (Value.ref _) _ _) _ _ _ | with_reducible show wpAny _ _ (subscriptTail _ _ _ _) _ _ _ | with_reducible show wpAny _ _ (binaryOp _ (Value.ref _) _) _ _ _)); (first | with_reducible show wpAny _ _ _ _ _ _ | with_reducible show (if _ then _ else _)); walk1)))
theorem st2 {Q : Flow → Shared → Prop} {E : Value → Shared → Prop} {q1 q2 : Addr} {c1 f1 n1 c2 f2 n2 : Int} {t1 t2 t3 u1 u2 u3 : Tok} (l : LF w S L B m s) (hA : Sm 19 A) (hm1 : m (Str.ofString "first") = some (.ref q1)) (hm2 : m (Str.ofString "second") = some (.ref q2))
    (hq1 : B.get? q1 = some (tupObj [.int c1 t1, .int f1 t2, .int n1 t3])) (hq2 : B.get? q2 = some (tupObj [.int c2 u1, .int f2 u2, .int n2 u3])) (h1 : 0 ≤ n1) (h2 : 0 ≤ n2)
    (h : ∀ B' m' s' a b p q, LF w S L B' m' s' → (∀ b o, B.get? b = some o → B'.get? b = some o) → TagIs B' a c1 f1 n1 t1 t2 t3 p → TagIs B' b c2 f2 n2 u1 u2 u3 q → m' (Str.ofString "one") = some (.ref a) → m' (Str.ofString "other") = some (.ref b) → (∀ x, x ≠ Str.ofString "one" → x ≠ Str.ofString "other" → m' x = m x) → Q .next s') :
    wpAny (M w) A (exec (lawStmt 2) (lawEnv L)) Q E s := by
  conv in (lawStmt 2) => whnf
  have X := l.X
  obtain ⟨_, _, _, TT⟩ := l.T
  have F := l.F
  have e1 := l.base _ _ hq1
  have e2 := l.base _ _ hq2
  refine Assign_Tuple_swapped (names := [Str.ofString "one", Str.ofString "other"]) ?_
  kwd_rel
  refine ⟨l.cx.X, ?_⟩
  refine Gv.use (tag_new (k := 5) (by exact l.cx) (hA.lower (by omega)) h1) fun v s₁ k₁ hv => ?_
  obtain ⟨a, p, rfl, T1⟩ := hv
  have l := l.kp2 k₁
  have F := l.F
  have e2 := k₁.keep _ _ e2
  kwd_rel
  refine ⟨l.cx.X, ?_⟩
  refine Gv.use (tag_new (k := 5) (by exact l.cx) (hA.lower (by omega)) h2) fun v s₂ k₂ hv => ?_
  obtain ⟨b, q, rfl, T2⟩ := hv
  have l := l.kp2 k₂
  have F := l.F
  have T1 := T1.keep k₂.keep
  kwd_rel
  refine law_tup l fun r s₃ l kk hr => ?_
  refine law_unpack l hA.handled hr rfl fun s₄ l kk' => ?_
  have T1 := l.tag hm1 ((T1.keep kk).keep kk')
  have T2 := l.tag hm1 ((T2.keep kk).keep kk')
  have hb := l.up.2
  have l := l.up.1
  refine wpAny_assignInOrder_more (wpAny_bindName (law_st l fun s₅ l _ => ?_))
  refine wpAny_assignInOrder_more (wpAny_bindName (law_st l fun s₆ l _ => ?_))
  refine wpAny_assignInOrder_none ?_
  exact h _ _ _ a b p q l hb T1 T2 (if_pos rfl) (by kpf_close) fun x hx hy => by simp [hx, hy]
end
end Mine
end
section
set_option maxRecDepth 100000
set_option maxHeartbeats 4000000
open PySem PySem.W PyProof.Rows
namespace Mine
local macro_rules | `(tactic| ktr_rel) => `(tactic| repeat ((fail_if_success (first | with_reducible show wpAny _ _ (call _ _ _) _ _ _ | with_reducible show wpAny _ _ (eval (Expr.ListComp _ _ _ _) _) _ _ _ | with_reducible show wpAny _ _ (compareOp _ (Value.ref _) _) _ _ _ | with_reducible show wpAny _ _ (compareOp _ _ (Value.ref _)) _ _ _ | with_reducible show wpAny _ _ (getAttr (Value.ref _) _ _) _ _ _ | with_reducible show wpAny _ _ (subscriptTail _ _ _ _) _ _ _ | with_reducible show wpAny _ _ (binaryOp _ (Value.ref _) _) _ _ _)); walk1))
local macro_rules | `(tactic| tb_start) => `(tactic| first
  | (with_reducible refine' tagClass_own ?zX ?zT ?_; (case zX => k_in); (case zT => exact TagIs.keep (by assumption) (Fr.keep (by assumption))))
  | (with_reducible refine' tagFormat_own ?zX ?zT ?_; (case zX => k_in); (case zT => exact TagIs.keep (by assumption) (Fr.keep (by assumption))))
  | (with_reducible refine' tagId_own ?zX ?zT ?_; (case zX => k_in); (case zT => exact TagIs.keep (by assumption) (Fr.keep (by assumption))))
  | (with_reducible refine' tagClassId_own ?zX ?zT ?_; (case zX => k_in); (case zT => exact TagIs.keep (by assumption) (Fr.keep (by assumption))))
  | (with_reducible refine' tagClass_use ?zC ?zA ?zT ?_; (case zC => exact Cx.keep (by assumption) (Fr.keep (by assumption))); (case zA => exact Sm.lower (by assumption) (by omega)); (case zT => exact TagIs.keep (by assumption) (Fr.keep (by assumption))); intro s₁ k₁; (have F := Fr.keeps (by assumption) (Kp.keep k₁)))
  | (with_reducible refine' tagFormat_use ?zC ?zA ?zT ?_; (case zC => exact Cx.keep (by assumption) (Fr.keep (by assumption))); (case zA => exact Sm.lower (by assumption) (by omega)); (case zT => exact TagIs.keep (by assumption) (Fr.keep (by assumption))); intro s₁ k₁; (have F := Fr.keeps (by assumption) (Kp.keep k₁)))
  | (with_reducible refine' tagId_use ?zC ?zA ?zT ?_; (case zC => exact Cx.keep (by assumption) (Fr.keep (by assumption))); (case zA => exact Sm.lower (by assumption) (by omega)); (case zT => exact TagIs.keep (by assumption) (Fr.keep (by assumption))); intro s₁ k₁; (have F := Fr.keeps (by assumption) (Kp.keep k₁))))
local macro_rules | `(tactic| tb_rel) => `(tactic| first | assumption | exact Kp.refl _ | (refine Kp.trans ?_ (by assumption); tb_rel) | (refine Kp.toks ?_; tb_rel))
local macro_rules | `(tactic| ktd_rel) => `(tactic| repeat' ((first | with_reducible show wpAny _ _ _ _ _ _ | with_reducible show (if _ then _ else _)); walk1))
section
variable {w : World} {A : Around} {S s s' : Shared} {L : Addr} {B : Heap} {m : Str → Option Value} {sl : Addr} {vs : List Value} {ns : List Int}
local macro_rules | `(tactic| kpf_close) => `(tactic| first | assumption | exact if_pos rfl | (refine Eq.trans (if_neg (by decide)) ?_; kpf_close))
local macro_rules | `(tactic| kwd_rel) => `(tactic| repeat' (first
  | ((with_reducible show wpAny _ _ (eval (Expr.Name (Str.ofString "script") _) _) _ _ _); first | refine law_script (by assumption) (by assumption) ?_ | refine law_script (LF.base (by assumption)) (by assumption) ?_)
  | ((with_reducible show wpAny _ _ (eval (Expr.Name _ _) _) _ _ _); refine law_ld (by assumption) (by kpf_close) ?_)
  | ((with_reducible show wpAny _ _ (compareOp CmpOp.NotEq (Value.int _ _) (Value.int _ _)) _ _ _); with_reducible refine ne_int_same ?_)
  | ((with_reducible show wpAny _ _ (compareOp CmpOp.NotEq (Value.str _ _) (Value.str _ _)) _ _ _); first | with_reducible refine ne_str_same ?_ | refine ne_str_eq (by decide) ?_)
  | ((with_reducible show wpAny _ _ (subscriptTail _ _ (Value.ref _) (Value.int 0 _)) _ _ _); first | refine sub3_0 (by assumption) ?_ | refine sub2_0 (by assumption) ?_)
  | ((with_reducible show wpAny _ _ (subscriptTail _ _ (Value.ref _) (Value.int 1 _)) _ _ _); first | refine sub3_1 (by assumption) ?_ | refine sub2_1 (by assumption) ?_)
  | ((with_reducible show wpAny _ _ (subscriptTail _ _ (Value.ref _) (Value.int 2 _)) _ _ _); refine sub3_2 (by assumption) ?_)
  | ((fail_if_success (first | with_reducible show wpAny _ _ (call _ _ _) _ _ _ | with_reducible show wpAny _ _ (eval (Expr.Name (Str.ofString "script") _) _) _ _ _ | with_reducible show wpAny _ _ (eval (Expr.ListComp _ _ _ _) _) _ _ _ | with_reducible show wpAny _ _ (compareOp _ (Value.ref _) _) _ _ _ | with_reducible show wpAny _ _ (compareOp _ _ (Value.ref _)) _ _ _ | with_reducible show wpAny _ _ (getAttr (Value.ref _) _ _) _ _ _ | with_reducible show wpAny _ _ (subscriptTail _ _ _ _) _ _ _ | with_reducible show wpAny _ _ (binaryOp _ (Value.ref _) _) _ _ _)); (first | with_reducible show wpAny _ _ _ _ _ _ | with_reducible show (if _ then _ else _)); walk1)))
theorem st4 {Q : Flow → Shared → Prop} {E : Value → Shared → Prop} {a b p q : Addr} {c1 f1 n1 c2 f2 n2 : Int} {t1 t2 t3 u1 u2 u3 : Tok} {fv : Value} (l : LF w S L B m s) (hA : Sm 19 A) (hm0 : m (Str.ofString "first") = some fv)
    (hm1 : m (Str.ofString "one") = some (.ref a)) (hm2 : m (Str.ofString "other") = some (.ref b))
    (T1 : TagIs B a c1 f1 n1 t1 t2 t3 p) (T2 : TagIs B b c2 f2 n2 u1 u2 u3 q) (h1 : 0 ≤ n1) (h2 : 0 ≤ n2)
    (h : ∀ B' s' d r v1 v2 v3, LF w S L B' (fun y => if y = Str.ofString "low" then some (.ref d) else m y) s' → (∀ b o, B.get? b = some o → B'.get? b = some o) → TagIs B' d (Builtin.bitAnd c1 c2) (Builtin.bitAnd f1 f2) (Builtin.bitAnd n1 n2) v1 v2 v3 r → Q .next s') :
    wpAny (M w) A (exec (lawStmt 4) (lawEnv L)) Q E s := by
  conv in (lawStmt 4) => whnf
  have X := l.X
  obtain ⟨_, _, _, TT⟩ := l.T
  have F := l.F
  refine wpAny_Assign_Name ?_
  kwd_rel
  refine Gv.use (tag_and (by exact l.cx) (hA.lower (by omega)) (T1.keep l.base) (T2.keep l.base) h1 h2) fun v s₁ k₁ hv => ?_
  obtain ⟨d, r, v1, v2, v3, rfl, T3⟩ := hv
  have l := l.kp2 k₁
  have T3 := l.tag hm0 T3
  have hb := l.up.2
  have l := l.up.1
  refine law_st l fun s₅ l _ => ?_
  exact h _ _ d r _ _ _ l hb T3
theorem st5 {Q : Flow → Shared → Prop} {E : Value → Shared → Prop} {a b p q : Addr} {c1 f1 n1 c2 f2 n2 : Int} {t1 t2 t3 u1 u2 u3 : Tok} {fv : Value} (l : LF w S L B m s) (hA : Sm 19 A) (hm0 : m (Str.ofString "first") = some fv)
    (hm1 : m (Str.ofString "one") = some (.ref a)) (hm2 : m (Str.ofString "other") = some (.ref b))
    (T1 : TagIs B a c1 f1 n1 t1 t2 t3 p) (T2 : TagIs B b c2 f2 n2 u1 u2 u3 q) (h1 : 0 ≤ n1) (h2 : 0 ≤ n2)
    (h : ∀ B' s' d r v1 v2 v3, LF w S L B' (fun y => if y = Str.ofString "high" then some (.ref d) else m y) s' → (∀ b o, B.get? b = some o → B'.get? b = some o) → TagIs B' d (Builtin.bitOr c1 c2) (Builtin.bitOr f1 f2) (Builtin.bitOr n1 n2) v1 v2 v3 r → Q .next s') :
    wpAny (M w) A (exec (lawStmt 5) (lawEnv L)) Q E s := by
  conv in (lawStmt 5) => whnf
  have X := l.X
  obtain ⟨_, _, _, TT⟩ := l.T
  have F := l.F
  refine wpAny_Assign_Name ?_
  kwd_rel
  refine Gv.use (tag_or (by exact l.cx) (hA.lower (by omega)) (T1.keep l.base) (T2.keep l.base) h1 h2) fun v s₁ k₁ hv => ?_
  obtain ⟨d, r, v1, v2, v3, rfl, T3⟩ := hv
  have l := l.kp2 k₁
  have T3 := l.tag hm0 T3
  have hb := l.up.2
  have l := l.up.1
  refine law_st l fun s₅ l _ => ?_
  exact h _ _ d r _ _ _ l hb T3
theorem st6 {Q : Flow → Shared → Prop} {E : Value → Shared → Prop} {a b p q : Addr} {c1 f1 n1 c2 f2 n2 : Int} {t1 t2 t3 u1 u2 u3 : Tok} (l : LF w S L B m s) (hA : Sm 19 A)
    (hm1 : m (Str.ofString "low") = some (.ref a)) (hm2 : m (Str.ofString "high") = some (.ref b))
    (T1 : TagIs B a c1 f1 n1 t1 t2 t3 p) (T2 : TagIs B b c2 f2 n2 u1 u2 u3 q)
    (h : ∀ s', LF w S L B m s' → Q .next s') :
    wpAny (M w) A (exec (lawStmt 6) (lawEnv L)) Q E s := by
  conv in (lawStmt 6) => whnf
  have X := l.X
  obtain ⟨_, _, _, TT⟩ := l.T
  have F := l.F
  kwd_rel
  refine isi_tag (l.cx.X) (T1.keep l.base) ?_
  kwd_rel
  refine isi_tag (l.cx.X) (T2.keep l.base) ?_
  kwd_rel
  exact h _ l
theorem st7 {Q : Flow → Shared → Prop} {E : Value → Shared → Prop} {a p q1 q2 : Addr} {c1 f1 n1 c2 f2 n2 : Int} {t1 t2 t3 u1 u2 u3 v1 v2 v3 : Tok} (l : LF w S L B m s) (hA : Sm 19 A)
    (hm0 : m (Str.ofString "low") = some (.ref a)) (hm1 : m (Str.ofString "first") = some (.ref q1)) (hm2 : m (Str.ofString "second") = some (.ref q2))
    (hq1 : B.get? q1 = some (tupObj [.int c1 t1, .int f1 t2, .int n1 t3])) (hq2 : B.get? q2 = some (tupObj [.int c2 u1, .int f2 u2, .int n2 u3]))
    (T : TagIs B a (Builtin.bitAnd c1 c2) (Builtin.bitAnd f1 f2) (Builtin.bitAnd n1 n2) v1 v2 v3 p)
    (h : ∀ s', LF w S L B m s' → Q .next s') :
    wpAny (M w) A (exec (lawStmt 7) (lawEnv L)) Q E s := by
  conv in (lawStmt 7) => whnf
  have X := l.X
  obtain ⟨_, _, _, TT⟩ := l.T
  have F := l.F
  kwd_rel
  refine Gv.use (tuple_tag (by exact l.cx) (hA.lower (by omega)) (T.keep l.base)) fun v s₁ k₁ hv => ?_
  obtain ⟨r, rfl, hr⟩ := hv
  have l := l.kp2 k₁
  have F := l.F
  have e1 := l.base _ _ hq1
  have e2 := l.base _ _ hq2
  kwd_rel
  refine law_tup l fun r' s₂ l kk hr' => ?_
  refine ne_same3 (kk _ _ hr) hr' (hA.lower (by omega)) ?_
  kwd_rel
  exact h _ l
theorem st8 {Q : Flow → Shared → Prop} {E : Value → Shared → Prop} {a p q1 q2 : Addr} {c1 f1 n1 c2 f2 n2 : Int} {t1 t2 t3 u1 u2 u3 v1 v2 v3 : Tok} (l : LF w S L B m s) (hA : Sm 19 A)
    (hm0 : m (Str.ofString "high") = some (.ref a)) (hm1 : m (Str.ofString "first") = some (.ref q1)) (hm2 : m (Str.ofString "second") = some (.ref q2))
    (hq1 : B.get? q1 = some (tupObj [.int c1 t1, .int f1 t2, .int n1 t3])) (hq2 : B.get? q2 = some (tupObj [.int c2 u1, .int f2 u2, .int n2 u3]))
    (T : TagIs B a (Builtin.bitOr c1 c2) (Builtin.bitOr f1 f2) (Builtin.bitOr n1 n2) v1 v2 v3 p)
    (h : ∀ s', LF w S L B m s' → Q .next s') :
    wpAny (M w) A (exec (lawStmt 8) (lawEnv L)) Q E s := by
  conv in (lawStmt 8) => whnf
  have X := l.X
  obtain ⟨_, _, _, TT⟩ := l.T
  have F := l.F
  kwd_rel
  refine Gv.use (tuple_tag (by exact l.cx) (hA.lower (by omega)) (T.keep l.base)) fun v s₁ k₁ hv => ?_
  obtain ⟨r, rfl, hr⟩ := hv
  have l := l.kp2 k₁
  have F := l.F
  have e1 := l.base _ _ hq1
  have e2 := l.base _ _ hq2
  kwd_rel
  refine law_tup l fun r' s₂ l kk hr' => ?_
  refine ne_same3 (kk _ _ hr) hr' (hA.lower (by omega)) ?_
  kwd_rel
  exact h _ l
theorem st9 {Q : Flow → Shared → Prop} {E : Value → Shared → Prop} {q1 q2 : Addr} {c1 f1 n1 c2 f2 n2 : Int} {t1 t2 t3 u1 u2 u3 : Tok} (l : LF w S L B m s)
    (hm1 : m (Str.ofString "first") = some (.ref q1)) (hm2 : m (Str.ofString "second") = some (.ref q2))
    (hq1 : B.get? q1 = some (tupObj [.int c1 t1, .int f1 t2, .int n1 t3])) (hq2 : B.get? q2 = some (tupObj [.int c2 u1, .int f2 u2, .int n2 u3]))
    (h : ∀ B' s' pl p1 p2, LF w S L B' (fun y => if y = Str.ofString "pairs" then some (.ref pl) else m y) s' → (∀ b o, B.get? b = some o → B'.get? b = some o) → B'.get? pl = some { cls := .type "list", data := .seq [.ref p1, .ref p2].toArray } →
      PairAt B' (.ref p1) (c1, n1) → PairAt B' (.ref p2) (c2, n2) → Q .next s') :
    wpAny (M w) A (exec (lawStmt 9) (lawEnv L)) Q E s := by
  conv in (lawStmt 9) => whnf
  have X := l.X
  obtain ⟨_, _, _, TT⟩ := l.T
  have F := l.F
  have e1 := l.base _ _ hq1
  have e2 := l.base _ _ hq2
  refine wpAny_Assign_Name ?_
  kwd_rel
  refine law_tup l fun p1 s₁ l k₁ hp1 => ?_
  have F := l.F
  have e1 := l.base _ _ hq1
  have e2 := l.base _ _ hq2
  kwd_rel
  refine law_tup l fun p2 s₂ l k₂ hp2 => ?_
  have F := l.F
  kwd_rel
  refine law_list l fun pl s₃ l k₃ hpl => ?_
  have P1 := l.pair (x := (c1, n1)) ⟨p1, 0, _, _, rfl, k₃ _ _ (k₂ _ _ hp1)⟩
  have P2 := l.pair (x := (c2, n2)) ⟨p2, 0, _, _, rfl, k₃ _ _ hp2⟩
  have hpl := l.obj hpl (by intro es n q; cases q)
  have hb := l.up.2
  have l := l.up.1
  refine law_st l fun s₅ l _ => ?_
  exact h _ _ pl p1 p2 l hb hpl P1 P2
theorem st10 {Q : Flow → Shared → Prop} {E : Value → Shared → Prop} {a b p q pl p1 p2 : Addr} {c1 f1 n1 c2 f2 n2 : Int} {t1 t2 t3 u1 u2 u3 : Tok} (l : LF w S L B m s) (hA : Sm 19 A)
    (hm1 : m (Str.ofString "one") = some (.ref a)) (hm2 : m (Str.ofString "other") = some (.ref b)) (hm3 : m (Str.ofString "pairs") = some (.ref pl))
    (T1 : TagIs B a c1 f1 n1 t1 t2 t3 p) (T2 : TagIs B b c2 f2 n2 u1 u2 u3 q) (hpl : B.get? pl = some { cls := .type "list", data := .seq [.ref p1, .ref p2].toArray }) (P1 : PairAt B (.ref p1) (c1, n1)) (P2 : PairAt B (.ref p2) (c2, n2))
    (h : ∀ s', LF w S L B m s' → Q .next s') :
    wpAny (M w) A (exec (lawStmt 10) (lawEnv L)) Q E s := by
  conv in (lawStmt 10) => whnf
  have X := l.X
  obtain ⟨_, _, _, TT⟩ := l.T
  have F := l.F
  have e1 := l.base _ _ hpl
  kwd_rel
  refine ⟨l.cx.X, ?_⟩
  refine Gv.use (both (k := 5) (d := .pair (c1, n1)) (e := .pair (c2, n2)) (by exact l.cx) (hA.lower (by omega)) (cls_Tag w) ((tagKey T1).keep l.base) ((tagKey T2).keep l.base) (P1.keep l.base) (P2.keep l.base) trivial) fun v s₁ k₁ hv => ?_
  subst hv
  have l := l.kp2 k₁
  have F := l.F
  have e1 := l.base _ _ hpl
  kwd_rel
  refine ⟨l.cx.X, ?_⟩
  refine Gv.use (both (k := 5) (d := .pair (c1, n1)) (e := .pair (c2, n2)) (by exact l.cx) (hA.lower (by omega)) (cls_Tag w) ((tagKey T1).keep l.base) (.dat (P2.keep l.base)) (P1.keep l.base) (P2.keep l.base) trivial) fun v s₂ k₂ hv => ?_
  subst hv
  have l := l.kp2 k₂
  have F := l.F
  have e1 := l.base _ _ hpl
  kwd_rel
  refine ⟨l.cx.X, ?_⟩
  refine Gv.use (both (k := 5) (d := .pair (c1, n1)) (e := .pair (c1, n1)) (by exact l.cx) (hA.lower (by omega)) (cls_Tag w) ((tagKey T1).keep l.base) (.dat (P1.keep l.base)) (P1.keep l.base) (P1.keep l.base) trivial) fun v s₂ k₂ hv => ?_
  subst hv
  have l := l.kp2 k₂
  have F := l.F
  kwd_rel
  exact h _ l
theorem st11 {Q : Flow → Shared → Prop} {E : Value → Shared → Prop} {a p q1 : Addr} {c1 f1 n1 : Int} {t1 t2 t3 v1 v2 v3 : Tok} (l : LF w S L B m s) (hA : Sm 19 A)
    (hm1 : m (Str.ofString "first") = some (.ref q1)) (hm2 : m (Str.ofString "one") = some (.ref a)) (hq1 : B.get? q1 = some (tupObj [.int c1 t1, .int f1 t2, .int n1 t3])) (T1 : TagIs B a c1 f1 n1 v1 v2 v3 p) (h1 : 0 ≤ n1)
    (h : ∀ s', LF w S L B m s' → Q .next s') :
    wpAny (M w) A (exec (lawStmt 11) (lawEnv L)) Q E s := by
  conv in (lawStmt 11) => whnf
  have X := l.X
  obtain ⟨_, _, _, TT⟩ := l.T
  have F := l.F
  have e1 := l.base _ _ hq1
  kwd_rel
  refine ⟨l.cx.X, ?_⟩
  refine Gv.use (tag_new (k := 5) (by exact l.cx) (hA.lower (by omega)) h1) fun v s₁ k₁ hv => ?_
  obtain ⟨d, r, rfl, T2⟩ := hv
  have l := l.kp2 k₁
  have F := l.F
  kwd_rel
  rw [ce_ord rfl]
  refine Gv.use (cmp_key (k := 5) (d := .pair (c1, n1)) (e := .pair (c1, n1)) (by exact l.cx) (hA.lower (by omega)) rfl (cls_Tag w) (tagKey T2) ((tagKey T1).keep l.base) trivial) fun v s₂ k₂ hv => ?_
  subst hv
  have l := l.kp2 k₂
  have F := l.F
  rw [cmpCK_ne_self]
  kwd_rel
  exact h _ l
theorem st12 {Q : Flow → Shared → Prop} {E : Value → Shared → Prop} {a p q1 pl p1 p2 : Addr} {c1 f1 n1 c2 n2 : Int} {t1 t2 t3 v1 v2 v3 : Tok} (l : LF w S L B m s) (hA : Sm 19 A)
    (hm1 : m (Str.ofString "first") = some (.ref q1)) (hm2 : m (Str.ofString "one") = some (.ref a)) (hm3 : m (Str.ofString "pairs") = some (.ref pl)) (hq1 : B.get? q1 = some (tupObj [.int c1 t1, .int f1 t2, .int n1 t3])) (T1 : TagIs B a c1 f1 n1 v1 v2 v3 p)
    (hpl : B.get? pl = some { cls := .type "list", data := .seq [.ref p1, .ref p2].toArray }) (P1 : PairAt B (.ref p1) (c1, n1))
    (h : ∀ s', LF w S L B m s' → Q .next s') :
    wpAny (M w) A (exec (lawStmt 12) (lawEnv L)) Q E s := by
  conv in (lawStmt 12) => whnf
  have X := l.X
  obtain ⟨_, _, _, TT⟩ := l.T
  have F := l.F
  have e1 := l.base _ _ hq1
  kwd_rel
  refine law_tup l fun r1 s₁ l k₁ hr1 => ?_
  have F := l.F
  have e1 := l.base _ _ hq1
  have e2 := l.base _ _ hpl
  kwd_rel
  refine law_tup l fun r2 s₂ l k₂ hr2 => ?_
  kwd_rel
  refine ⟨l.cx.X, ?_⟩
  have R1 : PairAt s₂.heap (.ref r1) (c1, n1 + 1) := ⟨r1, 0, _, _, rfl, k₂ _ _ hr1⟩
  have R2 : PairAt s₂.heap (.ref r2) (c1, n1 + 1) := ⟨r2, 0, _, _, rfl, hr2⟩
  refine Gv.use (both (k := 5) (d := .pair (c1, n1)) (e := .pair (c1, n1 + 1)) (by exact l.cx) (hA.lower (by omega)) (cls_Tag w) ((tagKey T1).keep l.base) (.dat R1) (P1.keep l.base) R2 trivial) fun v s₂ k₂ hv => ?_
  subst hv
  have l := l.kp2 k₂
  have F := l.F
  kwd_rel
  exact h _ l
end
end Mine
end
section
set_option maxRecDepth 100000
set_option maxHeartbeats 4000000
open PySem PySem.W PyProof.Rows
namespace Mine
open PyProof.Rows.LCg (lst lst_snoc)
/-- names that a frame at hand holds, and that no tag and no tag set does -/
def frameKeys : List Str := [Str.ofString "first", Str.ofString "row", Str.ofString "k", Str.ofString "x", Str.ofString "one", Str.ofString "superTag"]
/-- an object that none of the facts speaks of: a list, an iterator, a frame -/
def Junk (o : Obj) : Prop := (o.cls = .type "list" ∧ ∃ a n, o.data = .seq a n) ∨ (∃ vs, o.data = .fields vs) ∨ (∃ es n k v, k ∈ frameKeys ∧ o.data = .dict es n ∧ nsFind es k = some v)
structure Stay (R : Heap → Prop) : Prop where
  mono : ∀ h h', (∀ b o, h.get? b = some o → h'.get? b = some o) → R h → R h'
  offs : ∀ h b o, h.get? b = some o → Junk o → R h → R (off h b)
theorem off_keep {h h' : Heap} {L : Addr} (k : ∀ b o, b ≠ L → h.get? b = some o → h'.get? b = some o) : ∀ b o, (off h L).get? b = some o → h'.get? b = some o := fun b o e => by
  by_cases hb : b = L
  · rw [hb, off_self] at e; cases e
  · rw [off_get hb] at e; exact k b o hb e
theorem off_none {h : Heap} {L b : Addr} (e : h.get? b = none) : (off h L).get? b = none := by
  by_cases hb : b = L
  · rw [hb, off_self]
  · rw [off_get hb, e]
section
variable {w : World} {A : Around} {E : Value → Shared → Prop} {s s₁ s₂ : Shared} {env : Env}
/-- the iterators whose tuples a loop may let go -/
abbrev owners : List String := ["enumerate", "zip", "dict_itemiterator", "dict_reverseitemiterator", "odict_iterator", "itertools.zip_longest", "itertools.pairwise"]
def IterAt (h : Heap) (I : Addr) : Prop := ∃ o vs T, h.get? I = some o ∧ o.data = .fields vs ∧ o.cls = .type T ∧ owners.contains T = false
def SrcIt (w : World) (A : Around) (xv : Value) (s₁ : Shared) (n : Nat) (P : Nat → Value → Prop) : Prop :=
  ∀ (Q : Value → Shared → Prop) (E : Value → Shared → Prop), (∀ I fp St s₂, Walks PySem.Challenge.rw_gr5021_01.row.prog w A I fp [I] n P St → St 0 s₂.heap → (∀ b ∈ fp, ∃ o, s₂.heap.get? b = some o ∧ ∀ es n, o.data ≠ .dict es n) → (∀ i h, St i h → IterAt h I) →
    s₁.heap.objs.size ≤ I → Kp s₁ s₂ → Q (.ref I) s₂) → wpAny (M w) A (pyIter xv) Q E s₁
theorem src_list {l : Addr} {items : Array Value} (hh : A.handled = none) (hl : s₁.heap.IsList l items) : SrcIt w A (.ref l) s₁ items.size (fun i v => items[i]? = some v) := by
  intro Q E h
  have hlt : l < s₁.heap.objs.size := by obtain ⟨o, e, _⟩ := hl; exact Heap.lt_size e
  refine wpAny_pyIter_list hl ?_
  refine h _ _ _ _ (Walks.list hh s₁.heap.objs.size l (Nat.ne_of_lt hlt) items) ⟨⟨_, Heap.get?_push_size _ rfl, rfl, rfl⟩, hl.push _⟩ (fun b hb => ?_) (fun i h st => by obtain ⟨o, e, c, d⟩ := st.1; exact ⟨o, _, _, e, d, c, by decide⟩) (Nat.le_refl _) (Kp.heap fun _ _ e => Heap.get?_push_of_some _ e)
  rcases List.mem_cons.mp hb with rfl | hb
  · exact ⟨_, Heap.get?_push_size _ rfl, by intro es n q; cases q⟩
  · rw [List.mem_singleton.mp hb]
    obtain ⟨o, e, _, n, hdt⟩ := hl
    exact ⟨o, Heap.get?_push_of_some _ e, by intro es n' q; rw [hdt] at q; cases q⟩
theorem src_tup {l : Addr} {items : Array Value} (hh : A.handled = none) (hl : s₁.heap.IsTuple l items) : SrcIt w A (.ref l) s₁ items.size (fun i v => items[i]? = some v) := by
  intro Q E h
  have hlt : l < s₁.heap.objs.size := by obtain ⟨o, e, _⟩ := hl; exact Heap.lt_size e
  refine wpAny_pyIter_tuple hl ?_
  refine h _ _ _ _ (Walks.tuple hh s₁.heap.objs.size l (Nat.ne_of_lt hlt) items) ⟨⟨_, Heap.get?_push_size _ rfl, rfl, rfl⟩, ?_⟩ (fun b hb => ?_) (fun i h st => by obtain ⟨o, e, c, d⟩ := st.1; exact ⟨o, _, _, e, d, c, by decide⟩) (Nat.le_refl _) (Kp.heap fun _ _ e => Heap.get?_push_of_some _ e)
  · obtain ⟨o, e, r⟩ := hl; exact ⟨o, Heap.get?_push_of_some _ e, r⟩
  rcases List.mem_cons.mp hb with rfl | hb
  · exact ⟨_, Heap.get?_push_size _ rfl, by intro es n q; cases q⟩
  · rw [List.mem_singleton.mp hb]
    obtain ⟨o, e, _, n, hdt⟩ := hl
    exact ⟨o, Heap.get?_push_of_some _ e, by intro es n' q; rw [hdt] at q; cases q⟩
theorem src_range {r : Addr} {a b : Int} {n : Nat} {t u v : Tok} (hh : A.handled = none) (hr : IsRange s₁.heap r a b 1 t u v) (hsm : Builtin.Range.small a b 1 = true) (hn : Builtin.Range.rangeSize a b 1 = ((n : Nat) : Int)) :
    SrcIt w A (.ref r) s₁ n (fun i v => ∃ t, v = .int (a + (i : Int)) t) := by
  intro Q E h
  refine wpAny_pyIter_range hr hsm ?_
  refine h _ _ _ _ (PyProof.Rows.LCg.range_walks hh a n) (by show IsRangeIter _ _ _ _ _; rw [hn]; simpa using Heap.get?_push_size _ rfl) (fun b hb => ?_) (fun i h st => ⟨_, _, _, st, rfl, rfl, by decide⟩) (Nat.le_refl _) (Kp.heap fun _ _ e => Heap.get?_push_of_some _ e)
  rw [List.mem_singleton.mp hb]
  exact ⟨_, Heap.get?_push_size _ rfl, by intro es n q; cases q⟩
/-- what stands when a comprehension's loop is through: the list D, its items' facts in a heap B without D and without the loop's own names C -/
structure CompOut (s₁ : Shared) (n : Nat) (R : Nat → Value → Heap → Prop) (D C : Addr) (s' : Shared) : Prop where
  kp : Kp s₁ s'
  ns : ∃ m, s'.heap.Ns C m
  newC : s₁.heap.objs.size ≤ C
  newD : s₁.heap.objs.size ≤ D
  ne : C ≠ D
  out : ∃ ys B, s'.heap.get? D = some (lst ys) ∧ ys.length = n ∧ (∀ b o, B.get? b = some o → s'.heap.get? b = some o) ∧ B.get? C = none ∧ B.get? D = none ∧ ∀ j (h : j < ys.length), R j ys[j] B
theorem comp_block {elt iter : Expr} {x : Str} {px : Pos} {scope : Scope} {cl : List (Str × Addr)} {pos : Pos} {I : Addr} {fp : List Addr} {n : Nat} {P : Nat → Value → Prop} {St : Nat → Heap → Prop} {R : Nat → Value → Heap → Prop}
    {RR : Value → Addr → Result → Shared → Prop} (W : Walks PySem.Challenge.rw_gr5021_01.row.prog w A I fp [I] n P St) (hst : St 0 s₂.heap) (hfp : ∀ b ∈ fp, b < s₂.heap.objs.size) (hIo : ∀ i h, St i h → IterAt h I)
    (hI : s₁.heap.objs.size ≤ I) (hkp : Kp s₁ s₂) (hsz : n ≤ sizeLine) (hkey : x ∈ frameKeys) (HR : ∀ j y, Stay (R j y))
    (hcell : ∀ y ∈ scope.names, y.2 ≠ .cell) (hkind : scope.kind = .function) (hx : scope.names.lookup x = some .local)
    (step : ∀ j v C m s₃, j < n → P j v → Kp s₁ s₃ → s₁.heap.objs.size ≤ C → s₃.heap.Ns C m → m x = some v → Gv w A (eval elt (compEnvC scope cl C env)) (fun y s₄ => R j y s₄.heap) s₃)
    (hRR : ∀ D C s', CompOut s₁ n R D C s' → RR (.ref D) C (.ok .next) s') :
    wpAny (M w) A (newList []) (fun acc s₃ => wpAny (M w) A (newFunctionEnv scope env.globals cl [] env.qual none .none (some env)) (fun cenv s₄ =>
      codeAny (M w) A (.compStart (.ListComp elt [⟨.Name x px, iter, [], 0⟩] scope pos) 0 (.ref I) acc { cenv with scope := relabel scope env }) (RR acc cenv.locals) s₄) E s₃) E s₂ := by
  refine wpAny_newObj_type (wpAny_newFunctionEnv hcell (by intro y hy; simp at hy) (fun h₁ hns₁ hsb₁ => ?_) hkind)
  dsimp only at hns₁ hsb₁ ⊢
  generalize hH2 : s₂.heap.push { cls := .type "list", dict := none, data := .seq ([] : List Value).toArray } = H2 at hns₁ hsb₁ ⊢
  have hC : H2.objs.size = s₂.heap.objs.size + 1 := by rw [← hH2, Heap.size_push]
  have hDC : s₂.heap.objs.size ≠ H2.objs.size := by rw [hC]; exact Nat.ne_of_lt (Nat.lt_succ_self _)
  have below : ∀ b, b < s₂.heap.objs.size → b ≠ H2.objs.size ∧ b ≠ s₂.heap.objs.size := fun b hb => ⟨by rw [hC]; exact Nat.ne_of_lt (Nat.lt_succ_of_lt hb), Nat.ne_of_lt hb⟩
  have hDf : s₂.heap.objs.size ∉ fp := fun hm => Nat.lt_irrefl _ (hfp _ hm)
  have hCf : H2.objs.size ∉ fp := fun hm => by have := hfp _ hm; rw [hC] at this; exact Nat.lt_irrefl _ (Nat.lt_of_succ_lt this)
  have hIf : I ∈ fp := W.sub I (List.mem_singleton.mpr rfl)
  have hIlt : I < s₂.heap.objs.size := hfp I hIf
  have hIC : I ≠ H2.objs.size := (below I hIlt).1
  have hID : I ≠ s₂.heap.objs.size := (below I hIlt).2
  have old : ∀ b o, s₂.heap.get? b = some o → h₁.get? b = some o := fun b o e => hsb₁.extBut b o (below b (Heap.lt_size e)).1 (Heap.get?_push_of_some _ (hH2 ▸ Heap.get?_push_of_some _ e))
  have hacc : h₁.get? s₂.heap.objs.size = some (lst []) := hsb₁.extBut _ _ hDC (Heap.get?_push_of_some _ (hH2 ▸ Heap.get?_push_size _ rfl))
  have hst₁ : St 0 h₁ := W.frame _ _ _ hst fun b _ o e => old b o e
  have hle : s₁.heap.objs.size ≤ s₂.heap.objs.size := Nat.le_of_lt (Nat.lt_of_le_of_lt hI hIlt)
  have low : ∀ b o, s₁.heap.get? b = some o → b ≠ I ∧ b ≠ H2.objs.size ∧ b ≠ s₂.heap.objs.size := fun b o e => by
    have hb := Heap.lt_size e
    have hb₂ : b < s₂.heap.objs.size := Nat.lt_of_lt_of_le hb hle
    exact ⟨Nat.ne_of_lt (Nat.lt_of_lt_of_le hb hI), (below b hb₂).1, (below b hb₂).2⟩
  have loop : ∀ s₃ : Shared, s₃ = { s₂ with heap := h₁, toks := s₂.toks + ([] : List (Str × Value)).length } →
      codeAny (M w) A (.compLoop (.ListComp elt [⟨.Name x px, iter, [], 0⟩] scope pos) 0 (.ref I) (.ref s₂.heap.objs.size) (compEnvC scope cl H2.objs.size env))
        (RR (.ref s₂.heap.objs.size) H2.objs.size) s₃ := by
    rintro s₃ rfl
    refine codeAny_compLoop_tests
      (fun k s' => ∃ i ys m' B, i ≤ n ∧ k = n + 1 - i ∧ ys.length = i ∧ St i s'.heap ∧ Kp s₁ s' ∧ s'.heap.Ns H2.objs.size m' ∧ s'.heap.get? s₂.heap.objs.size = some (lst ys) ∧ (∀ b o, B.get? b = some o → s'.heap.get? b = some o) ∧
        B.get? H2.objs.size = none ∧ B.get? s₂.heap.objs.size = none ∧ B.get? I = none ∧ ∀ j (h : j < ys.length), R j ys[j] B) ?_ (n + 1)
      ⟨0, [], _, (⟨#[], {}⟩ : Heap), Nat.zero_le _, rfl, rfl, hst₁, hkp.trans (Kp.heap old), hns₁, hacc, fun b o e => ?_, rfl, rfl, rfl, fun j h => nomatch h⟩
    · rintro k s' ⟨i, ys, m', B, hi, rfl, hyl, hst', hk', hn', hD', hB, hBC, hBD, hBI, hR⟩
      by_cases hlt : i < n
      · refine W.item i _ _ _ hlt hst' fun v h₂ tk₂ hPv hst₂ hk₂ => ?_
        have hk₂' : ∀ b o, b ≠ I → s'.heap.get? b = some o → h₂.get? b = some o := fun b o hb e => hk₂ b o (by simpa using hb) e
        have hn₂ : h₂.Ns H2.objs.size m' := hn'.at' fun o e => hk₂' _ o (Ne.symm hIC) e
        refine wpAny_assign_Name (wpAny_storeName_local (lookup_relabel_local hx) hn₂ (fun h₃ hn₃ hs₃ => ?_) (by simp [compEnvC, relabel, hkind]))
        refine wpAny_tests_nil ?_
        simp only [if_true]
        have hst₃ : St (i + 1) h₃ := W.frame _ _ _ hst₂ fun b hb o e => hs₃.extBut b o (fun q => hCf (by have q' : b = H2.objs.size := q; rw [← q']; exact hb)) e
        have k13 : ∀ b o, b ≠ I → b ≠ H2.objs.size → s'.heap.get? b = some o → h₃.get? b = some o := fun b o hb hc e => hs₃.extBut b o hc (hk₂' b o hb e)
        have hk₃ : Kp s₁ ⟨h₃, s'.gens, s'.drawn, tk₂ + 1, s'.os⟩ := by
          obtain ⟨hh, tt, gg, e, kk, bb⟩ := hk'
          subst e
          exact ⟨h₃, _, gg, rfl, fun b o e => k13 b o (low b o e).1 (low b o e).2.1 (kk b o e), bb⟩
        refine Gv.use (step i v H2.objs.size _ ⟨h₃, s'.gens, s'.drawn, tk₂ + 1, s'.os⟩ hlt hPv hk₃ (Nat.le_trans hle (by rw [hC]; exact Nat.le_succ _)) hn₃ (if_pos rfl)) fun y s₄ hk₄ hy => ?_
        have hD₄ : s₄.heap.get? s₂.heap.objs.size = some (lst ys) := hk₄.keep _ _ (k13 _ _ (Ne.symm hID) hDC hD')
        have hst₄ : St (i + 1) s₄.heap := W.frame _ _ _ hst₃ fun b _ o e => hk₄.keep b o e
        have hn₄ := hn₃.at' fun o e => hk₄.keep _ o e
        refine append_at (hsz := by show ys.toArray.size ≤ sizeLine; rw [List.size_toArray, hyl]; exact Nat.le_trans hi hsz) hD₄ fun h₅ hs₅ hD₅ => ?_
        obtain ⟨oI, vI, _, eI, dI, _, _⟩ := hIo _ _ hst₄
        obtain ⟨oC, esC, epC, eC, dC, _, fC⟩ := id hn₄
        have k35 : ∀ b o, b ≠ s₂.heap.objs.size → s₄.heap.get? b = some o → h₅.get? b = some o := fun b o hb e => hs₅.extBut b o hb e
        have hB' : ∀ b o, B.get? b = some o → (off (off (off s₄.heap s₂.heap.objs.size) I) H2.objs.size).get? b = some o := fun b o e => by
          have b1 : b ≠ H2.objs.size := fun q => by rw [q, hBC] at e; cases e
          have b2 : b ≠ I := fun q => by rw [q, hBI] at e; cases e
          have b3 : b ≠ s₂.heap.objs.size := fun q => by rw [q, hBD] at e; cases e
          rw [off_get b1, off_get b2, off_get b3]
          exact hk₄.keep b o (k13 b o b2 b1 (hB b o e))
        refine ⟨n + 1 - (i + 1), by omega, i + 1, ys ++ [y], _, off (off (off s₄.heap s₂.heap.objs.size) I) H2.objs.size, hlt, rfl, by rw [List.length_append, List.length_singleton, hyl], W.frame _ _ _ hst₄ fun b hb o e => k35 b o (fun q => hDf (q ▸ hb)) e, ?_,
          Heap.Ns.sameBut hn₄ hs₅ (Ne.symm hDC), hD₅.trans (congrArg some (lst_snoc ys y)), ?_, off_self, off_none (off_none off_self), off_none off_self, ?_⟩
        · obtain ⟨hh, tt, gg, e, kk, bb⟩ := hk₃.trans hk₄
          subst e
          exact ⟨h₅, _, gg, rfl, fun b o e => k35 b o (low b o e).2.2 (kk b o e), bb⟩
        · exact off_keep fun b o _ e => off_keep (fun b o _ e => off_keep (fun b o hb e => k35 b o hb e) b o e) b o e
        · intro j hj
          by_cases hjl : j < ys.length
          · rw [List.getElem_append_left hjl]
            exact (HR j _).mono _ _ hB' (hR j hjl)
          · have hje : j = i := by rw [List.length_append, List.length_singleton] at hj; omega
            subst hje
            have hyy : (ys ++ [y])[j] = y := by rw [List.getElem_append_right (by omega)]; simp [hyl]
            rw [hyy]
            refine (HR j y).offs _ _ oC (by rw [off_get (Ne.symm hIC), off_get (Ne.symm hDC)]; exact eC) (.inr (.inr ⟨esC, epC, x, v, hkey, dC, by rw [fC]; exact if_pos rfl⟩)) ?_
            refine (HR j y).offs _ _ oI (by rw [off_get hID]; exact eI) (.inr (.inl ⟨_, dI⟩)) ?_
            exact (HR j y).offs _ _ _ hD₄ (.inl ⟨rfl, _, _, rfl⟩) hy
      · obtain rfl : i = n := Nat.le_antisymm hi (Nat.not_lt.mp hlt)
        refine W.done _ _ _ hst' fun h₂ tk₂ hk₂ => ?_
        have hk₂' : ∀ b o, b ≠ I → s'.heap.get? b = some o → h₂.get? b = some o := fun b o hb e => hk₂ b o (by simpa using hb) e
        refine hRR _ _ _ ⟨?_, ⟨m', hn'.at' fun o e => hk₂' _ o (Ne.symm hIC) e⟩, Nat.le_trans hle (by rw [hC]; exact Nat.le_succ _), hle, Ne.symm hDC, ys, B, hk₂' _ _ (Ne.symm hID) hD', hyl, fun b o e => hk₂' b o (fun q => by rw [q, hBI] at e; cases e) (hB b o e), hBC, hBD, hR⟩
        obtain ⟨hh, tt, gg, e, kk, bb⟩ := hk'
        subst e
        exact ⟨h₂, _, gg, rfl, fun b o e => hk₂' b o (low b o e).1 (kk b o e), bb⟩
    · cases b <;> cases e
  exact codeAny_compStart_list (loop _ rfl) (W.self 0 _ _ _ hst₁ (loop _ rfl))
end
end Mine
end
section
set_option maxRecDepth 100000
set_option maxHeartbeats 4000000
open PySem PySem.W PyProof.Rows
namespace Mine
open PyProof.Rows.LCg (lst lst_snoc)
section
variable {w : World} {A : Around} {E : Value → Shared → Prop} {s s₁ s₂ : Shared} {env : Env}
/-- what a comprehension asks of its source and of one turn -/
structure CompIn (w : World) (A : Around) (env : Env) (elt : Expr) (x : Str) (scope : Scope) (cl : List (Str × Addr)) (xv : Value) (s₁ : Shared) (n : Nat) (P : Nat → Value → Prop) (R : Nat → Value → Heap → Prop) : Prop where
  src : SrcIt w A xv s₁ n P
  sz : n ≤ sizeLine
  stay : ∀ j y, Stay (R j y)
  step : ∀ j v C m s₃, j < n → P j v → Kp s₁ s₃ → s₁.heap.objs.size ≤ C → s₃.heap.Ns C m → m x = some v → Gv w A (eval elt (compEnvC scope cl C env)) (fun y s₄ => R j y s₄.heap) s₃
theorem comp_eval {elt iter : Expr} {x : Str} {px : Pos} {scope : Scope} {cl : List (Str × Addr)} {pos : Pos} {Q : Value → Shared → Prop} (hkey : x ∈ frameKeys)
    (hclos : closureFor scope env = pure cl) (hcell : ∀ y ∈ scope.names, y.2 ≠ .cell) (hkind : scope.kind = .function)
    (hnames : ∀ y ∈ scope.names, y.2 = .local → scope.names.lookup y.1 = some .local) (hx : scope.names.lookup x = some .local)
    (h : wpAny (M w) A (eval iter env) (fun xv s₁ => ∃ n P R, CompIn w A env elt x scope cl xv s₁ n P R ∧
      ∀ D ys s', Kp s₁ s' → s'.heap.get? D = some (lst ys) → ys.length = n → (∀ j (h : j < ys.length), R j ys[j] s'.heap) → Q (.ref D) s') E s)
    (hs : ∀ x, foldedSetIterable iter env x = pure x := by intro _; rfl) :
    wpAny (M w) A (eval (.ListComp elt [⟨.Name x px, iter, [], 0⟩] scope pos) env) Q E s := by
  rw [eval_ListComp]
  refine wpAny_comprehension_free (use := none) rfl hs hclos hkind hnames (wpAny_mono h (fun xv s₁ h₁ => ?_) fun _ _ e => e)
  obtain ⟨n, P, R, H, fin⟩ := h₁
  refine H.src _ _ fun I fp St s₂ W hst hfp hIo hI hkp => ?_
  refine comp_block W hst (fun b hb => let ⟨_, e, _⟩ := hfp b hb; Heap.lt_size e) hIo hI hkp H.sz hkey H.stay hcell hkind hx H.step fun D C s' out => ?_
  obtain ⟨kp, ⟨m', hn⟩, newC, newD, hne, ys, B, hD, hl, hB, hBC, hBD, hR⟩ := out
  refine ⟨m', hn, fun h'' hs'' => ?_⟩
  have k' : ∀ b o, b ≠ C → s'.heap.get? b = some o → h''.get? b = some o := fun b o hb e => hs''.extBut b o hb e
  refine fin D ys _ ?_ (k' _ _ (Ne.symm hne) hD) hl fun j hj => (H.stay j _).mono _ _ (fun b o e => k' b o (fun q => by rw [q, hBC] at e; cases e) (hB b o e)) (hR j hj)
  obtain ⟨hh, tt, gg, e, kk, bb⟩ := kp
  subst e
  exact ⟨h'', _, gg, rfl, fun b o e => k' b o (Nat.ne_of_lt (Nat.lt_of_lt_of_le (Heap.lt_size e) newC)) (kk b o e), bb⟩
theorem law_comp {S : Shared} {L : Addr} {m : Str → Option Value} {elt iter : Expr} {x y : Str} {px py : Pos} {scope : Scope} {cl : List (Str × Addr)} {pos spos : Pos} {fv : Value} {Q : Flow → Shared → Prop} (hkey : x ∈ frameKeys) (hm0 : m (Str.ofString "first") = some fv)
    (hsw : swapsWith (.ListComp elt [⟨.Name x px, iter, [], 0⟩] scope pos) (some (.Name y py)) spos.line (lawEnv L) = pure true)
    (hclos : closureFor scope (lawEnv L) = pure cl) (hcell : ∀ y ∈ scope.names, y.2 ≠ .cell) (hkind : scope.kind = .function)
    (hnames : ∀ y ∈ scope.names, y.2 = .local → scope.names.lookup y.1 = some .local) (hx : scope.names.lookup x = some .local) (hy : (lawEnv L).kindOf y = some .local)
    (h : wpAny (M w) A (eval iter (lawEnv L)) (fun xv s₁ => ∃ B₁ n P R, LF w S L B₁ m s₁ ∧ CompIn w A (lawEnv L) elt x scope cl xv s₁ n P R ∧
      ∀ B' D ys s', LF w S L B' (fun z => if z = y then some (.ref D) else m z) s' → (∀ b o, B₁.get? b = some o → B'.get? b = some o) → B'.get? D = some (lst ys) → ys.length = n → (∀ j (h : j < ys.length), R j ys[j] B') → Q .next s') E s)
    (hs : ∀ x, foldedSetIterable iter (lawEnv L) x = pure x := by intro _; rfl) :
    wpAny (M w) A (exec (.Assign [.Name y py] (.ListComp elt [⟨.Name x px, iter, [], 0⟩] scope pos) spos) (lawEnv L)) Q E s := by
  rw [exec_Assign_Name_used _ _ _ _ hsw]
  refine wpAny_bind (wpAny_standAt (wpAny_bind ?_))
  show wpAny _ A (do let _ ← comprehension (.ListComp elt [⟨.Name x px, iter, [], 0⟩] scope pos) scope (lawEnv L) _ (newList []) false (eval iter (lawEnv L)) (some (assign (.Name y py) (lawEnv L)))) _ _ s
  refine wpAny_bind (wpAny_mono (wpAny_comprehension_free (use := some (assign (.Name y py) (lawEnv L))) (Q := fun _ s' => Q .next s') rfl hs hclos hkind hnames
    (wpAny_mono h (fun xv s₁ h₁ => ?_) fun _ _ e => e)) (fun _ s' hq => wpAny_pure (wpAny_pure hq)) fun _ _ e => e)
  obtain ⟨B₁, n, P, R, l, H, fin⟩ := h₁
  refine H.src _ _ fun I fp St s₂ W hst hfp hIo hI hkp => ?_
  refine comp_block W hst (fun b hb => let ⟨_, e, _⟩ := hfp b hb; Heap.lt_size e) hIo hI hkp H.sz hkey H.stay hcell hkind hx H.step fun D C s' out => ?_
  obtain ⟨kp, ⟨m', hn⟩, newC, newD, hne, ys, B, hD, hl, hB, hBC, hBD, hR⟩ := out
  have l' := l.kp kp
  show wpAny _ A (assign (.Name y py) (lawEnv L) (.ref D)) _ _ _
  have hnL := l'.F.ns
  refine wpAny_assign_Name (wpAny_storeName_local hy hnL (fun h₂ hn₂ hs₂ => ?_) rfl)
  have hLlt : L < s₁.heap.objs.size := l.F.ns.lt
  have hCL : C ≠ L := fun q => by rw [q] at newC; exact Nat.lt_irrefl _ (Nat.lt_of_lt_of_le hLlt newC)
  have hDL : D ≠ L := fun q => by rw [q] at newD; exact Nat.lt_irrefl _ (Nat.lt_of_lt_of_le hLlt newD)
  refine ⟨m', hn.sameBut hs₂ hCL, fun h'' hs'' => ?_⟩
  have k' : ∀ b o, b ≠ L → b ≠ C → s'.heap.get? b = some o → h''.get? b = some o := fun b o hb hc e => hs''.extBut b o hc (hs₂.extBut b o hb e)
  have below : ∀ b o, s₁.heap.get? b = some o → b ≠ C := fun b o e => Nat.ne_of_lt (Nat.lt_of_lt_of_le (Heap.lt_size e) newC)
  have hB₁ : ∀ b o, B₁.get? b = some o → (off (off s'.heap L) C).get? b = some o := fun b o e => by
    have hb : b ≠ L := fun q => by rw [q, l.off] at e; cases e
    rw [off_get (below b o (l.base b o e)), off_get hb]
    exact kp.keep b o (l.base b o e)
  refine fin (off (off s'.heap L) C) D ys _ ⟨(l'.set (tk := s'.toks + 1) hn₂ hs₂).F.change hs'' hCL ?_, l.X, l.T, fun b o e => hB₁ b o (l.low b o e), ?_, off_none off_self, l'.bare, l'.drawn, l'.os⟩ hB₁ ?_ hl fun j hj => ?_
  · cases e : S.heap.get? C with
    | none => rfl
    | some o => exact absurd rfl (below C o (l.F.keep _ _ e))
  · intro b o e
    have hc : b ≠ C := fun q => by rw [q, off_self] at e; cases e
    rw [off_get hc] at e
    have hb : b ≠ L := fun q => by rw [q, off_self] at e; cases e
    rw [off_get hb] at e
    exact k' b o hb hc e
  · rw [off_get (Ne.symm hne), off_get hDL]; exact hD
  · refine (H.stay j _).mono (off B L) _ (fun b o e => ?_) ?_
    · by_cases hb : b = L
      · rw [hb, off_self] at e; cases e
      · rw [off_get hb] at e
        rw [off_get (fun q => by rw [q, hBC] at e; cases e), off_get hb]
        exact hB b o e
    · cases e : B.get? L with
      | none => exact (H.stay j _).mono _ _ (fun b o e' => by rw [off_get (fun q => by rw [q, e] at e'; cases e')]; exact e') (hR j hj)
      | some o =>
        refine (H.stay j _).offs _ _ o e ?_ (hR j hj)
        obtain ⟨oL, es, ep, eL, dL, _, fL⟩ := hnL
        have := hB _ _ e
        rw [eL] at this
        cases this
        exact .inr (.inr ⟨es, ep, Str.ofString "first", fv, by decide, dL, by rw [fL, hm0]⟩)
theorem cm_G {x : Str} {pos : Pos} {v : Value} {Q : Value → Shared → Prop} (C : Cx w s.heap) (e : nsIn (hd.heap_39 w.params) mainGlobals x = some (some v)) (hg : env.globals = mainGlobals) (h : Q v s) (hk : env.scope.kind = .function := by rfl) (hx : env.kindOf x = some .globalImplicit := by rfl)
    (hd : (x == ("__debug__" : Str)) = false := by decide) : wpAny (M w) A (eval (.Name x pos) env) Q E s := by
  obtain ⟨mean, mg, mb, T⟩ := C.T
  exact PySem.Calls.Name_function_global hk hx (PySem.Calls.loadGlobal_global (mg := mg) (by rw [hg]; exact T.g) (mg_of C.X T.g e) h) hd
theorem cm_L {x : Str} {pos : Pos} {v : Value} {C : Addr} {m : Str → Option Value} {Q : Value → Shared → Prop} (hn : s.heap.Ns C m) (hv : m x = some v) (hl : env.locals = C) (h : Q v s) (hk : env.scope.kind = .function := by rfl) (hx : env.kindOf x = some .local := by rfl)
    (hd : (x == ("__debug__" : Str)) = false := by decide) : wpAny (M w) A (eval (.Name x pos) env) Q E s := by
  subst hl
  exact wpAny_Name (wpAny_loadName_local hk hx hn hv h) hd
theorem cm_C {x : Str} {pos : Pos} {v : Value} {c : Addr} {Q : Value → Shared → Prop} (hc : s.heap.IsCell c (some v)) (hl : env.cells.lookup x = some c) (hx : env.kindOf x = some .cell) (h : Q v s) (hk : env.scope.kind = .function := by rfl)
    (hd : (x == ("__debug__" : Str)) = false := by decide) : wpAny (M w) A (eval (.Name x pos) env) Q E s :=
  wpAny_Name (wpAny_loadName_cell hk hx hl hc h) hd
theorem go_any {target : Expr} {I : Addr} {v : Value} {Q : Unit → Shared → Prop} (hI : IterAt s.heap I) (h : Q () s) : wpAny (M w) A (letOwnedTupleGo target (.ref I) v) Q E s := by
  obtain ⟨o, vs, T, e, d, c, hT⟩ := hI
  have key : ∀ a : Addr, wpAny (M w) A (do
      let o ← load I
      match o.cls, o.data with
      | .type n, .fields vs => if owners.contains n && vs[0]? == some (rawInt a) then do rule "for.unpacks-the-owned-tuple"; updateField I 0 .none
      | _, _ => pure ()) Q E s := fun a => by
    refine wpAny_bind (wpAny_load e ?_)
    rw [c, d]
    show wpAny _ A (if (owners.contains T && vs[0]? == some (rawInt a)) = true then _ else _) Q E s
    rw [if_neg (by rw [hT, Bool.false_and]; exact Bool.false_ne_true)]
    exact wpAny_pure h
  unfold letOwnedTupleGo
  cases target with
  | Tuple _ _ _ => cases v with
    | ref a => exact key a
    | _ => exact wpAny_pure h
  | List _ _ => cases v with
    | ref a => exact key a
    | _ => exact wpAny_pure h
  | _ => exact wpAny_pure h
theorem LF.back {S : Shared} {L : Addr} {B B' : Heap} {m : Str → Option Value} (l : LF w S L B' m s) (hb : ∀ b o, B.get? b = some o → B'.get? b = some o) (hlow : ∀ b o, S.heap.get? b = some o → B.get? b = some o) : LF w S L B m s := by
  refine ⟨l.F, l.X, l.T, hlow, fun b o e => l.base b o (hb b o e), ?_, l.bare, l.drawn, l.os⟩
  cases e : B.get? L with
  | none => rfl
  | some o => have := hb _ _ e; rw [l.off] at this; cases this
theorem LF.item {S : Shared} {L I : Addr} {B h' : Heap} {m : Str → Option Value} {tk : Nat} (l : LF w S L B m s) (hI : B.get? I = none) (hL : I ≠ L) (k : ∀ b o, b ≠ I → s.heap.get? b = some o → h'.get? b = some o) : LF w S L B m ⟨h', s.gens, s.drawn, tk, s.os⟩ := by
  have ne : ∀ b o, B.get? b = some o → b ≠ I := fun b o e q => by rw [q, hI] at e; cases e
  exact ⟨⟨l.F.ns.at' fun o e => k L o (Ne.symm hL) e, fun b o e => k b o (ne b o (l.low b o e)) (l.F.keep b o e), l.F.above⟩, l.X, l.T, l.low, fun b o e => k b o (ne b o e) (l.base b o e), l.off, l.bare, l.drawn, l.os⟩
/-- a loop in the law -/
theorem law_for {S : Shared} {L : Addr} {m : Str → Option Value} {target iter : Expr} {body : List Stmt} {pos : Pos} {Q : Flow → Shared → Prop} (J : (Str → Option Value) → Prop)
    (h : wpAny (M w) A (eval iter (lawEnv L)) (fun xv s₁ => ∃ B n P, LF w S L B m s₁ ∧ SrcIt w A xv s₁ n P ∧ J m ∧
      (∀ i v B₂ m₂ s₂ E', i < n → P i v → LF w S L B₂ m₂ s₂ → (∀ b o, B.get? b = some o → B₂.get? b = some o) → J m₂ →
        wpAny (M w) A (assign target (lawEnv L) v) (fun _ s₃ => wpAny (M w) A (execs body (lawEnv L)) (fun f s₄ => f = .next ∧ ∃ B₃ m₃, LF w S L B₃ m₃ s₄ ∧ (∀ b o, B₂.get? b = some o → B₃.get? b = some o) ∧ J m₃) E' s₃) E' s₂) ∧
      ∀ m' s', LF w S L B m' s' → J m' → Q .next s') E s)
    (hs : ∀ x, foldedSetIterable iter (lawEnv L) x = pure x := by intro _; rfl) :
    wpAny (M w) A (exec (.For target iter body [] pos) (lawEnv L)) Q E s := by
  refine wpAny_For (wpAny_mono h (fun xv s₁ h₁ => ?_) fun _ _ e => e) hs
  obtain ⟨B, n, P, l, H, hJ, step, fin⟩ := h₁
  refine H _ _ fun I fp St s₂ W hst hfp hIo hI hkp => ?_
  have hBI : B.get? I = none := by
    cases e : B.get? I with
    | none => rfl
    | some o => exact absurd (Heap.lt_size (l.base _ _ e)) (Nat.not_lt.mpr hI)
  have l := l.kp hkp
  have hLf : ∀ b ∈ fp, b ≠ L := fun b hb => by obtain ⟨o, e, hd⟩ := hfp b hb; exact l.ne_dict e hd
  have hLI : I ≠ L := hLf I (W.sub I (List.mem_singleton.mpr rfl))
  refine codeAny_forLoop_any (fun k s' => ∃ i m', i ≤ n ∧ k = n + 1 - i ∧ St i s'.heap ∧ LF w S L B m' s' ∧ J m') ?_ (n + 1) ⟨0, m, Nat.zero_le _, rfl, hst, l, hJ⟩
  rintro k s' ⟨i, m', hi, rfl, hst', l', hJ'⟩
  by_cases hlt : i < n
  · refine W.item i _ _ _ hlt hst' fun v h₂ tk₂ hPv hst₂ hk₂ => ?_
    have hk₂' : ∀ b o, b ≠ I → s'.heap.get? b = some o → h₂.get? b = some o := fun b o hb e => hk₂ b o (by simpa using hb) e
    have l₂ : LF w S L B m' ⟨h₂, s'.gens, s'.drawn, tk₂, s'.os⟩ := l'.item hBI hLI hk₂'
    refine go_any (hIo _ _ hst₂) ?_
    have hb := l₂.up.2
    have l₃ := l₂.up.1
    refine wpAny_mono (step i v _ m' _ _ hlt hPv l₃ hb hJ') (fun _ s₃ h₃ => wpAny_mono h₃ (fun f s₄ h₄ => ?_) fun _ _ e => e) fun _ _ e => e
    obtain ⟨rfl, B₃, m₃, l₄, hb₃, hJ₃⟩ := h₄
    refine ⟨n + 1 - (i + 1), by omega, i + 1, m₃, hlt, rfl, ?_, l₄.back (fun b o e => hb₃ _ _ (hb _ _ e)) l.low, hJ₃⟩
    refine W.frame _ _ _ hst₂ fun b hbf o e => l₄.base _ _ (hb₃ _ _ ?_)
    rw [off_get (hLf b hbf)]
    exact e
  · obtain rfl : i = n := Nat.le_antisymm hi (Nat.not_lt.mp hlt)
    refine W.done _ _ _ hst' fun h₂ tk₂ hk₂ => ?_
    have l₂ : LF w S L B m' ⟨h₂, s'.gens, s'.drawn, tk₂, s'.os⟩ := l'.item hBI hLI fun b o hb e => hk₂ b o (by simpa using hb) e
    exact wpAny_execs_nil (fin _ _ l₂ hJ')
end
end Mine
end
section
set_option maxRecDepth 100000
set_option maxHeartbeats 4000000
open PySem PySem.W PyProof.Rows
namespace Mine
open PyProof.Rows.LCg (lst lst_snoc)
local macro_rules | `(tactic| ktr_rel) => `(tactic| repeat ((fail_if_success (first | with_reducible show wpAny _ _ (call _ _ _) _ _ _ | with_reducible show wpAny _ _ (eval (Expr.ListComp _ _ _ _) _) _ _ _ | with_reducible show wpAny _ _ (compareOp _ (Value.ref _) _) _ _ _ | with_reducible show wpAny _ _ (compareOp _ _ (Value.ref _)) _ _ _ | with_reducible show wpAny _ _ (getAttr (Value.ref _) _ _) _ _ _ | with_reducible show wpAny _ _ (subscriptTail _ _ _ _) _ _ _ | with_reducible show wpAny _ _ (binaryOp _ (Value.ref _) _) _ _ _)); walk1))
local macro_rules | `(tactic| tb_start) => `(tactic| first
  | (with_reducible refine' tagClass_own ?zX ?zT ?_; (case zX => k_in); (case zT => exact TagIs.keep (by assumption) (Fr.keep (by assumption))))
  | (with_reducible refine' tagFormat_own ?zX ?zT ?_; (case zX => k_in); (case zT => exact TagIs.keep (by assumption) (Fr.keep (by assumption))))
  | (with_reducible refine' tagId_own ?zX ?zT ?_; (case zX => k_in); (case zT => exact TagIs.keep (by assumption) (Fr.keep (by assumption))))
  | (with_reducible refine' tagClassId_own ?zX ?zT ?_; (case zX => k_in); (case zT => exact TagIs.keep (by assumption) (Fr.keep (by assumption))))
  | (with_reducible refine' tagClass_use ?zC ?zA ?zT ?_; (case zC => exact Cx.keep (by assumption) (Fr.keep (by assumption))); (case zA => exact Sm.lower (by assumption) (by omega)); (case zT => exact TagIs.keep (by assumption) (Fr.keep (by assumption))); intro s₁ k₁; (have F := Fr.keeps (by assumption) (Kp.keep k₁)))
  | (with_reducible refine' tagFormat_use ?zC ?zA ?zT ?_; (case zC => exact Cx.keep (by assumption) (Fr.keep (by assumption))); (case zA => exact Sm.lower (by assumption) (by omega)); (case zT => exact TagIs.keep (by assumption) (Fr.keep (by assumption))); intro s₁ k₁; (have F := Fr.keeps (by assumption) (Kp.keep k₁)))
  | (with_reducible refine' tagId_use ?zC ?zA ?zT ?_; (case zC => exact Cx.keep (by assumption) (Fr.keep (by assumption))); (case zA => exact Sm.lower (by assumption) (by omega)); (case zT => exact TagIs.keep (by assumption) (Fr.keep (by assumption))); intro s₁ k₁; (have F := Fr.keeps (by assumption) (Kp.keep k₁))))
local macro_rules | `(tactic| tb_rel) => `(tactic| first | assumption | exact Kp.refl _ | (refine Kp.trans ?_ (by assumption); tb_rel) | (refine Kp.toks ?_; tb_rel))
local macro_rules | `(tactic| ktd_rel) => `(tactic| repeat' ((first | with_reducible show wpAny _ _ _ _ _ _ | with_reducible show (if _ then _ else _)); walk1))
section
variable {w : World} {A : Around} {S s s' : Shared} {L : Addr} {B : Heap} {m : Str → Option Value} {sl : Addr} {vs : List Value} {ns : List Int}
local macro_rules | `(tactic| kpf_close) => `(tactic| first | assumption | exact if_pos rfl | (refine Eq.trans (if_neg (by decide)) ?_; kpf_close))
local macro_rules | `(tactic| kwd_rel) => `(tactic| repeat' (first
  | ((with_reducible show wpAny _ _ (eval (Expr.Name (Str.ofString "script") _) _) _ _ _); first | refine law_script (by assumption) (by assumption) ?_ | refine law_script (LF.base (by assumption)) (by assumption) ?_)
  | ((with_reducible show wpAny _ _ (eval (Expr.Name _ _) _) _ _ _); refine law_ld (by assumption) (by kpf_close) ?_)
  | ((with_reducible show wpAny _ _ (compareOp CmpOp.NotEq (Value.int _ _) (Value.int _ _)) _ _ _); with_reducible refine ne_int_same ?_)
  | ((with_reducible show wpAny _ _ (compareOp CmpOp.NotEq (Value.str _ _) (Value.str _ _)) _ _ _); first | with_reducible refine ne_str_same ?_ | refine ne_str_eq (by decide) ?_)
  | ((with_reducible show wpAny _ _ (subscriptTail _ _ (Value.ref _) (Value.int 0 _)) _ _ _); first | refine sub3_0 (by assumption) ?_ | refine sub2_0 (by assumption) ?_)
  | ((with_reducible show wpAny _ _ (subscriptTail _ _ (Value.ref _) (Value.int 1 _)) _ _ _); first | refine sub3_1 (by assumption) ?_ | refine sub2_1 (by assumption) ?_)
  | ((with_reducible show wpAny _ _ (subscriptTail _ _ (Value.ref _) (Value.int 2 _)) _ _ _); refine sub3_2 (by assumption) ?_)
  | ((fail_if_success (first | with_reducible show wpAny _ _ (call _ _ _) _ _ _ | with_reducible show wpAny _ _ (eval (Expr.Name (Str.ofString "script") _) _) _ _ _ | with_reducible show wpAny _ _ (eval (Expr.ListComp _ _ _ _) _) _ _ _ | with_reducible show wpAny _ _ (compareOp _ (Value.ref _) _) _ _ _ | with_reducible show wpAny _ _ (compareOp _ _ (Value.ref _)) _ _ _ | with_reducible show wpAny _ _ (getAttr (Value.ref _) _ _) _ _ _ | with_reducible show wpAny _ _ (subscriptTail _ _ _ _) _ _ _ | with_reducible show wpAny _ _ (binaryOp _ (Value.ref _) _) _ _ _)); (first | with_reducible show wpAny _ _ _ _ _ _ | with_reducible show (if _ then _ else _)); walk1)))
local macro_rules | `(tactic| kln_le) => `(tactic| repeat' (first
  | ((with_reducible show wpAny _ _ (eval (Expr.Name _ _) _) _ _ _); refine cm_L (by assumption) (by assumption) rfl ?_)
  | ((with_reducible show wpAny _ _ (eval (Expr.Name (Str.ofString "script") _) _) _ _ _); refine cm_C (by assumption) rfl rfl ?_)
  | ((with_reducible show wpAny _ _ (eval (Expr.Name _ _) _) _ _ _); refine cm_G (by assumption) (by k_is) rfl ?_)
  | ((with_reducible show wpAny _ _ (eval (Expr.Name _ _) _) _ _ _); fail "a name")
  | ((with_reducible show wpAny _ _ (subscriptTail _ _ (Value.ref _) (Value.int 0 _)) _ _ _); refine sub3_0 (by assumption) ?_)
  | ((with_reducible show wpAny _ _ (subscriptTail _ _ (Value.ref _) (Value.int 1 _)) _ _ _); refine sub3_1 (by assumption) ?_)
  | ((with_reducible show wpAny _ _ (subscriptTail _ _ (Value.ref _) (Value.int 2 _)) _ _ _); refine sub3_2 (by assumption) ?_)
  | ((fail_if_success (first | with_reducible show wpAny _ _ (call _ _ _) _ _ _ | with_reducible show wpAny _ _ (eval (Expr.ListComp _ _ _ _) _) _ _ _ | with_reducible show wpAny _ _ (eval (Expr.Name _ _) _) _ _ _ | with_reducible show wpAny _ _ (compareOp _ (Value.ref _) _) _ _ _ | with_reducible show wpAny _ _ (compareOp _ _ (Value.ref _)) _ _ _ | with_reducible show wpAny _ _ (getAttr (Value.ref _) _ _) _ _ _ | with_reducible show wpAny _ _ (subscriptTail _ _ _ _) _ _ _ | with_reducible show wpAny _ _ (binaryOp _ (Value.ref _) _) _ _ _)); (first | with_reducible show wpAny _ _ _ _ _ _ | with_reducible show (if _ then _ else _)); walk1)))
theorem range1 {n : Int} {t : Tok} {E Q : Value → Shared → Prop} (h : ∀ r u v s', Kp s s' → IsRange s'.heap r 0 n 1 u t v → Q (.ref r) s') : wpAny (M w) A (call (.type "range") [.int n t]) Q E s :=
  call_range_1 (h _ _ _ _ (Kp.heap fun _ _ e => Heap.get?_push_of_some _ e) (IsRange.new ..))
theorem stay_val {p : Prop} : Stay (fun _ => p) := ⟨fun _ _ _ h => h, fun _ _ _ _ _ h => h⟩
theorem Stay.and {R R' : Heap → Prop} (a : Stay R) (b : Stay R') : Stay (fun h => R h ∧ R' h) := ⟨fun _ _ k h => ⟨a.mono _ _ k h.1, b.mono _ _ k h.2⟩, fun _ _ _ e j h => ⟨a.offs _ _ _ e j h.1, b.offs _ _ _ e j h.2⟩⟩
theorem Stay.ex {α : Type} {R : α → Heap → Prop} (a : ∀ x, Stay (R x)) : Stay (fun h => ∃ x, R x h) := ⟨fun _ _ k ⟨x, h⟩ => ⟨x, (a x).mono _ _ k h⟩, fun _ _ _ e j ⟨x, h⟩ => ⟨x, (a x).offs _ _ _ e j h⟩⟩
theorem stay_tup {q : Addr} {vs : List Value} {e : Nat} : Stay (fun h => h.get? q = some (tupObj vs e)) := by
  refine ⟨fun _ _ k h => k _ _ h, fun h b o he hj hq => ?_⟩
  rw [off_get ?_]
  · exact hq
  · intro hb
    subst hb
    rw [he] at hq
    cases hq
    rcases hj with ⟨hc, _⟩ | ⟨vs, hd⟩ | ⟨es, n, k, v, _, hd, _⟩
    · injection hc with hc; exact absurd hc (by decide)
    · cases hd
    · cases hd
theorem stay_tag {a p : Addr} {c f n : Int} {t1 t2 t3 : Tok} : Stay (fun h => TagIs h a c f n t1 t2 t3 p) := by
  refine ⟨fun _ _ k h => h.keep k, fun h b o he hj T => ?_⟩
  obtain ⟨⟨h1, h2, h3, h4, k1, k2, k3, k4, dx, e1, e2⟩, e3⟩ := T
  refine ⟨⟨h1, h2, h3, h4, k1, k2, k3, k4, dx, ?_, ?_⟩, stay_tup.offs h b o he hj e3⟩
  · rw [off_get ?_]
    · exact e1
    · rintro rfl
      rw [he] at e1
      cases e1
      rcases hj with ⟨hc, _⟩ | ⟨vs, hd⟩ | ⟨es, n, k, v, _, hd, _⟩
      · cases hc
      · cases hd
      · cases hd
  · rw [off_get ?_]
    · exact e2
    · rintro rfl
      rw [he] at e2
      cases e2
      rcases hj with ⟨hc, _⟩ | ⟨vs, hd⟩ | ⟨es, n, k, v, hk, hd, hf⟩
      · injection hc with hc; exact absurd hc (by decide)
      · cases hd
      · cases hd
        simp only [frameKeys, List.mem_cons, List.not_mem_nil, or_false] at hk
        rcases hk with rfl | rfl | rfl | rfl | rfl | rfl <;> exact absurd hf (by intro q; cases q)
/-- a triple of ints, and the tokens they stand under -/
structure Trip where
  c : Int
  f : Int
  n : Int
  t1 : Tok
  t2 : Tok
  t3 : Tok
abbrev Trip.items (d : Trip) : List Value := [.int d.c d.t1, .int d.f d.t2, .int d.n d.t3]
def Trip.ok (d : Trip) : Prop := (0 ≤ d.c ∧ d.c ≤ 192) ∧ (0 ≤ d.f ∧ d.f ≤ 32) ∧ (0 ≤ d.n ∧ d.n < 10 ^ 40)
def RowIs (h : Heap) (v : Value) (d : Trip) : Prop := ∃ q, v = .ref q ∧ h.get? q = some (tupObj d.items)
def TagV (h : Heap) (v : Value) (d : Trip) : Prop := ∃ a p, v = .ref a ∧ TagIs h a d.c d.f d.n d.t1 d.t2 d.t3 p
def RowOk (h : Heap) (v : Value) : Prop := ∃ d : Trip, RowIs h v d ∧ d.ok
theorem stay_rowIs {v : Value} {d : Trip} : Stay (fun h => RowIs h v d) := Stay.ex fun _ => stay_val.and stay_tup
theorem stay_row {v : Value} : Stay (fun h => RowOk h v) := Stay.ex fun _ => stay_rowIs.and stay_val
theorem stay_tagV {v : Value} {d : Trip} : Stay (fun h => TagV h v d) := Stay.ex fun _ => Stay.ex fun _ => stay_val.and stay_tag
/-- values and what each of them is -/
def All2 (R : Value → Trip → Prop) (ys : List Value) (ds : List Trip) : Prop := ys.length = ds.length ∧ ∀ j (h1 : j < ys.length) (h2 : j < ds.length), R ys[j] ds[j]
theorem rows_of {h : Heap} : ∀ {ys : List Value}, (∀ v ∈ ys, RowOk h v) → ∃ ds : List Trip, All2 (RowIs h) ys ds ∧ ∀ d ∈ ds, d.ok
  | [], _ => ⟨[], ⟨rfl, fun j h => nomatch h⟩, fun _ h => nomatch h⟩
  | y :: ys, H => by
    obtain ⟨d, hd, ho⟩ := H y (.head _)
    obtain ⟨ds, ⟨hl, hr⟩, hok⟩ := rows_of (ys := ys) fun v hv => H v (.tail _ hv)
    refine ⟨d :: ds, ⟨by simp [hl], fun j h1 h2 => ?_⟩, fun e he => ?_⟩
    · cases j with
      | zero => exact hd
      | succ j => exact hr j (by simpa using h1) (by simpa using h2)
    · rcases List.mem_cons.mp he with rfl | he
      · exact ho
      · exact hok e he
theorem All2.mono {R R' : Value → Trip → Prop} {ys : List Value} {ds : List Trip} (H : All2 R ys ds) (k : ∀ v d, R v d → R' v d) : All2 R' ys ds := ⟨H.1, fun j h1 h2 => k _ _ (H.2 j h1 h2)⟩
theorem st14 {Q : Flow → Shared → Prop} {E : Value → Shared → Prop} {fv : Value} (l : LF w S L B m s) (c : Scr S L B sl vs ns) (hA : Sm 19 A) (hm0 : m (Str.ofString "first") = some fv)
    (h : ∀ B' D ys s', LF w S L B' (fun z => if z = Str.ofString "rows" then some (.ref D) else m z) s' → (∀ b o, B.get? b = some o → B'.get? b = some o) → B'.get? D = some (lst ys) → ys.length ≤ 4 → (∀ v ∈ ys, RowOk B' v) → Q .next s') :
    wpAny (M w) A (exec (lawStmt 14) (lawEnv L)) Q E s := by
  conv in (lawStmt 14) => whnf
  have X := l.X
  obtain ⟨_, _, _, TT⟩ := l.T
  have F := l.F
  refine law_comp (S := S) (cl := [(Str.ofString "script", L + 1)]) (by decide) hm0 ?h1 ?h2 ?h3 ?h4 ?h5 ?h6 ?h7 ?_
  case h1 => rfl
  case h2 => rfl
  case h3 => decide
  case h4 => rfl
  case h5 => decide
  case h6 => rfl
  case h7 => rfl
  kwd_rel
  refine ⟨l.cx.X, ?_⟩
  refine Gv.use (law_at (i := 12) (d := 3) (by exact l.cx) (hA.lower (by omega)) (l.F.lst c.list) c.hi c.hn (by decide)) fun v s₁ k₁ hv => ?_
  obtain ⟨u, rfl⟩ := hv
  have l := l.kp2 k₁
  have F := l.F
  kwd_rel
  have hn := fmod_in (cellAt ns 12 3) (b := 5) (by decide)
  generalize (cellAt ns 12 3).fmod 5 = K at hn
  obtain ⟨j, rfl⟩ := Int.eq_ofNat_of_zero_le hn.1
  have hj : j ≤ 4 := by omega
  refine range1 fun r ur vr s₂ k₂ hr => ?_
  have l := l.kp2 k₂
  refine ⟨B, j, _, fun _ y h => RowOk h y, l, ⟨src_range hA.handled hr (small_one (by decide) (by decide) (by omega) (by omega)) (by rw [rangeSize_one]; split <;> omega), by rw [sizeLine_eq]; omega, fun _ _ => stay_row, ?_⟩, ?_⟩
  · intro i v C m₃ s₃ hi hv hk hC hN hm
    obtain ⟨tv, rfl⟩ := hv
    have l := l.kp hk
    have HC := l.cx
    have HS := c.cell.keeps l.base
    show wpAny _ _ _ _ _ _
    kln_le
    refine ⟨HC.X, ?_⟩
    refine Gv.use (law_at (i := 4 + 2 * (0 + (i : Int))) (d := 0 + (i : Int) + 1) (by exact HC) (hA.lower (by omega)) (l.F.lst c.list) c.hi c.hn (by omega)) fun v s₄ k₄ hv => ?_
    obtain ⟨u4, rfl⟩ := hv
    have l := l.kp2 k₄
    have HC := l.cx
    have HS := c.cell.keeps l.base
    have hN := hN.at' fun o e => k₄.keep _ o e
    kln_le
    refine ⟨HC.X, ?_⟩
    refine Gv.use (law_at (i := 5 + 2 * (0 + (i : Int))) (d := 2 * (0 + (i : Int))) (by exact HC) (hA.lower (by omega)) (l.F.lst c.list) c.hi c.hn (by omega)) fun v s₅ k₅ hv => ?_
    obtain ⟨u5, rfl⟩ := hv
    have l := l.kp2 k₅
    have HC := l.cx
    kln_le
    refine ⟨HC.X, ?_⟩
    refine Gv.use (law_tag (by exact HC) (hA.lower (by omega))) fun v s₆ k₆ hv => ?_
    obtain ⟨q, c', f, n, t1, t2, t3, rfl, hq, hc, hf, hn⟩ := hv
    exact ⟨((Kp.heap fun _ _ e => e).trans k₄).trans (((Kp.heap fun _ _ e => e).trans k₅).trans k₆), ⟨c', f, n, t1, t2, t3⟩, ⟨q, rfl, hq⟩, hc, hf, hn⟩
  · intro B' D ys s' l' hb hD hl hR
    exact h B' D ys s' l' hb hD (by omega) fun v hv => by
      obtain ⟨j, hj, rfl⟩ := List.mem_iff_getElem.mp hv
      exact hR j hj
end
end Mine
end
section
set_option maxRecDepth 100000
set_option maxHeartbeats 4000000
open PySem PySem.W PyProof.Rows
namespace Mine
open PyProof.Rows.LCg (lst lst_snoc)
local macro_rules | `(tactic| ktr_rel) => `(tactic| repeat ((fail_if_success (first | with_reducible show wpAny _ _ (call _ _ _) _ _ _ | with_reducible show wpAny _ _ (eval (Expr.ListComp _ _ _ _) _) _ _ _ | with_reducible show wpAny _ _ (compareOp _ (Value.ref _) _) _ _ _ | with_reducible show wpAny _ _ (compareOp _ _ (Value.ref _)) _ _ _ | with_reducible show wpAny _ _ (getAttr (Value.ref _) _ _) _ _ _ | with_reducible show wpAny _ _ (subscriptTail _ _ _ _) _ _ _ | with_reducible show wpAny _ _ (binaryOp _ (Value.ref _) _) _ _ _)); walk1))
local macro_rules | `(tactic| tb_start) => `(tactic| first
  | (with_reducible refine' tagClass_own ?zX ?zT ?_; (case zX => k_in); (case zT => exact TagIs.keep (by assumption) (Fr.keep (by assumption))))
  | (with_reducible refine' tagFormat_own ?zX ?zT ?_; (case zX => k_in); (case zT => exact TagIs.keep (by assumption) (Fr.keep (by assumption))))
  | (with_reducible refine' tagId_own ?zX ?zT ?_; (case zX => k_in); (case zT => exact TagIs.keep (by assumption) (Fr.keep (by assumption))))
  | (with_reducible refine' tagClassId_own ?zX ?zT ?_; (case zX => k_in); (case zT => exact TagIs.keep (by assumption) (Fr.keep (by assumption))))
  | (with_reducible refine' tagClass_use ?zC ?zA ?zT ?_; (case zC => exact Cx.keep (by assumption) (Fr.keep (by assumption))); (case zA => exact Sm.lower (by assumption) (by omega)); (case zT => exact TagIs.keep (by assumption) (Fr.keep (by assumption))); intro s₁ k₁; (have F := Fr.keeps (by assumption) (Kp.keep k₁)))
  | (with_reducible refine' tagFormat_use ?zC ?zA ?zT ?_; (case zC => exact Cx.keep (by assumption) (Fr.keep (by assumption))); (case zA => exact Sm.lower (by assumption) (by omega)); (case zT => exact TagIs.keep (by assumption) (Fr.keep (by assumption))); intro s₁ k₁; (have F := Fr.keeps (by assumption) (Kp.keep k₁)))
  | (with_reducible refine' tagId_use ?zC ?zA ?zT ?_; (case zC => exact Cx.keep (by assumption) (Fr.keep (by assumption))); (case zA => exact Sm.lower (by assumption) (by omega)); (case zT => exact TagIs.keep (by assumption) (Fr.keep (by assumption))); intro s₁ k₁; (have F := Fr.keeps (by assumption) (Kp.keep k₁))))
local macro_rules | `(tactic| tb_rel) => `(tactic| first | assumption | exact Kp.refl _ | (refine Kp.trans ?_ (by assumption); tb_rel) | (refine Kp.toks ?_; tb_rel))
local macro_rules | `(tactic| ktd_rel) => `(tactic| repeat' ((first | with_reducible show wpAny _ _ _ _ _ _ | with_reducible show (if _ then _ else _)); walk1))
section
variable {w : World} {A : Around} {S s s' : Shared} {L : Addr} {B : Heap} {m : Str → Option Value} {sl : Addr} {vs : List Value} {ns : List Int}
local macro_rules | `(tactic| kpf_close) => `(tactic| first | assumption | exact if_pos rfl | (refine Eq.trans (if_neg (by decide)) ?_; kpf_close))
local macro_rules | `(tactic| kwd_rel) => `(tactic| repeat' (first
  | ((with_reducible show wpAny _ _ (eval (Expr.Name (Str.ofString "script") _) _) _ _ _); first | refine law_script (by assumption) (by assumption) ?_ | refine law_script (LF.base (by assumption)) (by assumption) ?_)
  | ((with_reducible show wpAny _ _ (eval (Expr.Name _ _) _) _ _ _); refine law_ld (by assumption) (by kpf_close) ?_)
  | ((with_reducible show wpAny _ _ (compareOp CmpOp.NotEq (Value.int _ _) (Value.int _ _)) _ _ _); with_reducible refine ne_int_same ?_)
  | ((with_reducible show wpAny _ _ (compareOp CmpOp.NotEq (Value.str _ _) (Value.str _ _)) _ _ _); first | with_reducible refine ne_str_same ?_ | refine ne_str_eq (by decide) ?_)
  | ((with_reducible show wpAny _ _ (subscriptTail _ _ (Value.ref _) (Value.int 0 _)) _ _ _); first | refine sub3_0 (by assumption) ?_ | refine sub2_0 (by assumption) ?_)
  | ((with_reducible show wpAny _ _ (subscriptTail _ _ (Value.ref _) (Value.int 1 _)) _ _ _); first | refine sub3_1 (by assumption) ?_ | refine sub2_1 (by assumption) ?_)
  | ((with_reducible show wpAny _ _ (subscriptTail _ _ (Value.ref _) (Value.int 2 _)) _ _ _); refine sub3_2 (by assumption) ?_)
  | ((fail_if_success (first | with_reducible show wpAny _ _ (call _ _ _) _ _ _ | with_reducible show wpAny _ _ (eval (Expr.Name (Str.ofString "script") _) _) _ _ _ | with_reducible show wpAny _ _ (eval (Expr.ListComp _ _ _ _) _) _ _ _ | with_reducible show wpAny _ _ (compareOp _ (Value.ref _) _) _ _ _ | with_reducible show wpAny _ _ (compareOp _ _ (Value.ref _)) _ _ _ | with_reducible show wpAny _ _ (getAttr (Value.ref _) _ _) _ _ _ | with_reducible show wpAny _ _ (subscriptTail _ _ _ _) _ _ _ | with_reducible show wpAny _ _ (binaryOp _ (Value.ref _) _) _ _ _)); (first | with_reducible show wpAny _ _ _ _ _ _ | with_reducible show (if _ then _ else _)); walk1)))
local macro_rules | `(tactic| kln_le) => `(tactic| repeat' (first
  | ((with_reducible show wpAny _ _ (eval (Expr.Name _ _) _) _ _ _); refine cm_L (by assumption) (by assumption) rfl ?_)
  | ((with_reducible show wpAny _ _ (eval (Expr.Name (Str.ofString "script") _) _) _ _ _); refine cm_C (by assumption) rfl rfl ?_)
  | ((with_reducible show wpAny _ _ (eval (Expr.Name _ _) _) _ _ _); refine cm_G (by assumption) (by k_is) rfl ?_)
  | ((with_reducible show wpAny _ _ (eval (Expr.Name _ _) _) _ _ _); fail "a name")
  | ((with_reducible show wpAny _ _ (subscriptTail _ _ (Value.ref _) (Value.int 0 _)) _ _ _); refine sub3_0 (by assumption) ?_)
  | ((with_reducible show wpAny _ _ (subscriptTail _ _ (Value.ref _) (Value.int 1 _)) _ _ _); refine sub3_1 (by assumption) ?_)
  | ((with_reducible show wpAny _ _ (subscriptTail _ _ (Value.ref _) (Value.int 2 _)) _ _ _); refine sub3_2 (by assumption) ?_)
  | ((fail_if_success (first | with_reducible show wpAny _ _ (call _ _ _) _ _ _ | with_reducible show wpAny _ _ (eval (Expr.ListComp _ _ _ _) _) _ _ _ | with_reducible show wpAny _ _ (eval (Expr.Name _ _) _) _ _ _ | with_reducible show wpAny _ _ (compareOp _ (Value.ref _) _) _ _ _ | with_reducible show wpAny _ _ (compareOp _ _ (Value.ref _)) _ _ _ | with_reducible show wpAny _ _ (getAttr (Value.ref _) _ _) _ _ _ | with_reducible show wpAny _ _ (subscriptTail _ _ _ _) _ _ _ | with_reducible show wpAny _ _ (binaryOp _ (Value.ref _) _) _ _ _)); (first | with_reducible show wpAny _ _ _ _ _ _ | with_reducible show (if _ then _ else _)); walk1)))
theorem RowIs.keep {h h' : Heap} {v : Value} {d : Trip} (H : RowIs h v d) (k : ∀ b o, h.get? b = some o → h'.get? b = some o) : RowIs h' v d := stay_rowIs.mono _ _ k H
theorem TagV.keep {h h' : Heap} {v : Value} {d : Trip} (H : TagV h v d) (k : ∀ b o, h.get? b = some o → h'.get? b = some o) : TagV h' v d := stay_tagV.mono _ _ k H
theorem lst_isList {h : Heap} {l : Addr} {ys : List Value} (e : h.get? l = some (lst ys)) : h.IsList l ys.toArray := ⟨_, e, rfl, _, rfl⟩
theorem st15 {Q : Flow → Shared → Prop} {E : Value → Shared → Prop} {fv : Value} {rl : Addr} {ys : List Value} {ds : List Trip} (l : LF w S L B m s) (hA : Sm 19 A) (hm0 : m (Str.ofString "first") = some fv) (hm1 : m (Str.ofString "rows") = some (.ref rl))
    (hr : B.get? rl = some (lst ys)) (hR : All2 (RowIs B) ys ds) (hok : ∀ d ∈ ds, d.ok) (hlen : ys.length ≤ 4)
    (h : ∀ B' D zs s', LF w S L B' (fun z => if z = Str.ofString "tags" then some (.ref D) else m z) s' → (∀ b o, B.get? b = some o → B'.get? b = some o) → B'.get? D = some (lst zs) → All2 (TagV B') zs ds → Q .next s') :
    wpAny (M w) A (exec (lawStmt 15) (lawEnv L)) Q E s := by
  conv in (lawStmt 15) => whnf
  have X := l.X
  obtain ⟨_, _, _, TT⟩ := l.T
  have F := l.F
  refine law_comp (S := S) (cl := []) (by decide) hm0 ?h1 ?h2 ?h3 ?h4 ?h5 ?h6 ?h7 ?_
  case h1 => rfl
  case h2 => rfl
  case h3 => decide
  case h4 => rfl
  case h5 => decide
  case h6 => rfl
  case h7 => rfl
  kwd_rel
  refine ⟨B, _, _, fun j y h => ∃ d, ds[j]? = some d ∧ TagV h y d, l, ⟨src_list hA.handled (lst_isList (l.base _ _ hr)), by rw [List.size_toArray, sizeLine_eq]; omega, fun _ _ => Stay.ex fun _ => stay_val.and stay_tagV, ?_⟩, ?_⟩
  · intro i v C m₃ s₃ hi hv hk hC hN hm
    have l := l.kp hk
    have HC := l.cx
    have hi' : i < ys.length := by simpa using hi
    have hid : i < ds.length := hR.1 ▸ hi'
    have hv' : ys[i] = v := by
      have e : ys.toArray[i]? = some v := hv
      rw [List.getElem?_toArray, List.getElem?_eq_getElem hi'] at e
      exact Option.some.inj e
    obtain ⟨q, hq, eq⟩ := hR.2 i hi' hid
    rw [hv'] at hq
    subst hq
    have eq := l.base _ _ eq
    have h0 := (hok _ (List.getElem_mem hid)).2.2.1
    show wpAny _ _ _ _ _ _
    kln_le
    refine ⟨HC.X, ?_⟩
    refine Gv.use (tag_new (k := 5) (by exact HC) (hA.lower (by omega)) h0) fun v s₄ k₄ hv => ?_
    obtain ⟨a, p, rfl, T⟩ := hv
    exact ⟨(Kp.heap fun _ _ e => e).trans k₄, ds[i], List.getElem?_eq_getElem hid, a, p, rfl, T⟩
  · intro B' D zs s' l' hb hD hl hT
    refine h B' D zs s' l' hb hD ⟨by rw [hl, List.size_toArray, hR.1], fun j h1 h2 => ?_⟩
    obtain ⟨d, hd, hT⟩ := hT j h1
    rw [List.getElem?_eq_getElem h2] at hd
    cases hd
    exact hT
end
end Mine
end
section
set_option maxRecDepth 100000
set_option maxHeartbeats 4000000
open PySem PySem.W PyProof.Rows
namespace Mine
section
variable {w : World} {A : Around} {s : Shared}
theorem wp_peek1 {α : Type} {K : Frag} {Md : Model} {E : Value → Shared → Prop} {Q : α → Shared → Prop} {o : Obj} {r : Addr → α} (X : K.In s.heap) (q : Q (r s.heap.objs.size) { s with heap := s.heap.push o }) :
    ∀ (t : Sem α) (g : Addr → Option α), peek1 K ⟨Md.prog, Md.w.params⟩ t = some (o, g) → (∀ D, g D = some (r D)) → wpAny Md A t Q E s := by
  intro t
  induction t with
  | rule _ k ih => exact fun g e hg Γ p hΓ => ih () g e hg Γ p hΓ
  | point _ k ih => exact fun g e hg Γ p hΓ => ih () g e hg Γ p hΓ
  | ask k ih => exact fun g e hg Γ p hΓ => ih _ g e hg Γ p hΓ
  | load a _ k ih =>
    intro g e hg Γ p hΓ
    simp only [peek1] at e
    split at e
    · rename_i ob ho; exact ⟨ob, X _ _ ho, ih ob g e hg Γ p hΓ⟩
    · cases e
  | alloc ob k _ =>
    intro g e hg
    have e : some (ob, fun D => peek K ⟨Md.prog, Md.w.params⟩ (k D)) = some (o, g) := e
    obtain ⟨e1, e2⟩ := Prod.mk.inj (Option.some.inj e)
    subst e1 e2
    show wpAny Md A (alloc ob >>= k) Q E s
    refine wpAny_bind (wpAny_alloc ?_)
    exact (Looks.of_peek (M := Md) (h := s.heap.push ob) (X.keeps fun b x hb => Heap.get?_push_of_some _ hb) (hg s.heap.objs.size)).here (s := { s with heap := s.heap.push ob }) q
  | _ => intro g e; cases e
/-- a call of a def with *args -/
theorem code_fnV {f : Addr} {oc : Value} {od : Option Addr} {osl : Array (Option Value)} {name qual : Str} {params : Arguments} {body : List Stmt} {scope : Scope} {dV kV doc pm cdv ct : Value} {an : Option Addr}
    {args vs : List Value} {binds : Addr → List (Str × Value)} {P : Value → Shared → Prop} {k : Nat}
    (C : Cx w s.heap) (hA : Sm (k + 1) A) (ho : (hd.heap_39 w.params).lookup f = some ⟨oc, od, .func (fnOf name qual params body scope dV kV doc pm an cdv ct), osl⟩) (hcd : codeIn (hd.heap_39 w.params) cdv qual = true)
    (hb : ∃ g₁, peek1 (hd.heap_39 w.params) ⟨PySem.Challenge.rw_gr5021_01.row.prog, w.params⟩ (bindArgs (fnOf name qual params body scope dV kV doc pm an cdv ct) ⟨args, []⟩) = some (({ cls := .type "tuple", data := .seq vs.toArray } : Obj), g₁) ∧ ∀ D, g₁ D = some (binds D)) (hloc : ∀ D, ∀ y ∈ binds D, scope.names.lookup y.1 = some .local) (hcell : ∀ x ∈ scope.names, x.2 ≠ .cell)
    (hco : scope.isCoroutine = false) (hgen : scope.isGenerator = false) (hk : scope.kind = .function)
    (h : ∀ D L s₁, Kp s s₁ → s₁.heap.get? D = some (tupObj vs) → s.heap.objs.size ≤ D → Fr s.heap L s₁.heap (fun y => (binds D).reverse.lookup y) → Sm k (A.deeper (envOf qual scope L f cdv)) →
      wpAny (M w) (A.deeper (envOf qual scope L f cdv)) (execs body (envOf qual scope L f cdv))
        (fun fl s' => P (match fl with | .ret v => v | _ => .none) s') (fun _ _ => False) s₁) :
    codeAny (M w) A (.call (.ref f) ⟨args, []⟩) (fun r s' => match r with | .ok (.ret v) => P v s' | _ => False) s := by
  have X := C.X
  obtain ⟨g₁, hp, hg⟩ := hb
  refine codeAny_call_function (fd := fnOf name qual params body scope dV kV doc pm an cdv ct) (body := body) hA.room (X _ _ ho) rfl hco hgen rfl (codeRec_of X hcd) ?_
  refine wp_peek1 (o := ({ cls := .type "tuple", data := .seq vs.toArray } : Obj)) (r := binds) X ?_ _ g₁ hp hg
  refine wpAny_newFunctionEnv hcell (hloc _) (fun h₁ hns hsb => ⟨?_, codeAny_func ?_⟩) hk
  · exact (C.nolimit.keeps fun b o e => Heap.get?_push_of_some _ e).fresh _ hsb
  · have hk₁ : ∀ b o, s.heap.get? b = some o → h₁.get? b = some o := fun b o e => hsb.extBut b o (Nat.ne_of_lt (by rw [Heap.size_push]; exact Nat.lt_succ_of_lt (Heap.lt_size e))) (Heap.get?_push_of_some _ (Heap.get?_push_of_some _ e))
    have hD : h₁.get? s.heap.objs.size = some (tupObj vs) := hsb.extBut _ _ (Nat.ne_of_lt (by rw [Heap.size_push]; exact Nat.lt_succ_self _)) (Heap.get?_push_of_some _ (Heap.get?_push_size _ rfl))
    refine wpAny_mono (h s.heap.objs.size _ _ (Kp.heap hk₁) hD (Nat.le_refl _) ⟨hns, hk₁, by rw [Heap.size_push]; exact Nat.le_succ _⟩ hA.deeper) (fun fl s' hl => hl) fun _ _ x => x.elim
/-- a store into the own dict of an object -/
theorem set_own_dict {x cl dx L : Addr} {h₀ : Heap} {m : Str → Option Value} {es es' : List DictEntry} {n n' : Nat} {name : Str} {v : Value} {E : Value → Shared → Prop} {Q : Unit → Shared → Prop} (F : Fr h₀ L s.heap m) (X₀ : (hd.heap_39 w.params).In h₀) (hx : s.heap.get? x = some (instObj cl dx)) (hdx : s.heap.get? dx = some (dictOf es n)) (hnew : h₀.get? dx = none) (hL : dx ≠ L)
    (hs : findIn (hd.heap_39 w.params) (.ref cl) "__setattr__" = some (some (.builtin "object.__setattr__"))) (hp : plainOver (hd.heap_39 w.params) cl = true) (ht : takerIn (hd.heap_39 w.params) cl name = some none) (hh : hasDictIn (hd.heap_39 w.params) cl = true) (hl : (getL name es).isSome = true)
    (e : (putL name (PyData.keyHash w.params name) (.str name (s.toks + 1)) v es, putN name es n) = (es', n')) (hz : es'.length ≤ 1000)
    (h : ∀ h', Fr h₀ L h' m → h'.get? dx = some (dictOf es' n') → (∀ b o, b ≠ dx → b ≠ L → s.heap.get? b = some o → h'.get? b = some o) → Q () { s with heap := h', toks := s.toks + 2 }) :
    wpAny (M w) A (setAttr (.ref x) name v) Q E s := by
  let rest : List (Addr × Obj) := (List.range s.heap.objs.size).filterMap fun b => if b ≠ L ∧ b ≠ dx ∧ h₀.get? b = none then (s.heap.get? b).map (b, ·) else none
  have hrest : ∀ p : Addr × Obj, p ∈ rest ↔ (p.1 ≠ L ∧ p.1 ≠ dx ∧ h₀.get? p.1 = none ∧ s.heap.get? p.1 = some p.2) := fun p => by
    constructor
    · intro hm
      obtain ⟨b, _, hb⟩ := List.mem_filterMap.mp hm
      split at hb
      · rename_i hc
        cases hg : s.heap.get? b with
        | none => rw [hg] at hb; cases hb
        | some o => rw [hg] at hb; cases hb; exact ⟨hc.1, hc.2.1, hc.2.2, hg⟩
      · cases hb
    · intro ⟨h1, h2, h3, h4⟩
      refine List.mem_filterMap.mpr ⟨p.1, List.mem_range.mpr (Heap.lt_size h4), ?_⟩
      rw [if_pos ⟨h1, h2, h3⟩, h4]
      rfl
  have N : News h₀ L s.heap ((dx, dictOf es n) :: rest) := fun p hp => by
    rcases List.mem_cons.mp hp with rfl | hp
    · exact ⟨hdx, hL, hnew⟩
    · obtain ⟨h1, h2, h3, h4⟩ := (hrest p).mp hp
      exact ⟨h4, h1, h3⟩
  refine set_dict F X₀ N ⟨hx, rfl, rfl, hdx⟩ rfl hs hp ht hh hl e (.head fun p hp => ((hrest p).mp hp).2.1) hz fun h' F' N' => ?_
  refine h h' F' (N' _ (.head _)).1 fun b o hb hbL eb => ?_
  cases hg : h₀.get? b with
  | some o' =>
    have := F.keep _ _ hg
    rw [eb] at this
    cases this
    exact F'.keep _ _ hg
  | none => exact (N' (b, o) (.tail _ ((hrest (b, o)).mpr ⟨hbL, hb, hg, eb⟩))).1
theorem Fr.low {h₀ h₁ h : Heap} {L : Addr} {m : Str → Option Value} (F : Fr h₁ L h m) (k : ∀ b o, h₀.get? b = some o → h₁.get? b = some o) (hz : h₀.objs.size ≤ h₁.objs.size) : Fr h₀ L h m := ⟨F.ns, fun b o e => F.keep b o (k b o e), Nat.le_trans hz F.above⟩
/-- an object of a class with its own __init__ -/
theorem new_cls {cl fI : Addr} {args : List Value} {P : Value → Shared → Prop} {E : Value → Shared → Prop} (X : (hd.heap_39 w.params).In s.heap) (hm : makesIn (hd.heap_39 w.params) cl = true) (hi : findIn (hd.heap_39 w.params) (.ref cl) "__init__" = some (some (.ref fI))) (hf : isFn (hd.heap_39 w.params) (.ref fI) = true)
    (h : ∀ x dx h', h'.get? x = some (instObj cl dx) → h'.get? dx = some (dictOf [] 0) → s.heap.objs.size ≤ dx → s.heap.objs.size ≤ x → dx ≠ x → (∀ b o, s.heap.get? b = some o → h'.get? b = some o) → s.heap.objs.size ≤ h'.objs.size → dx < h'.objs.size → x < h'.objs.size →
      codeAny (M w) (A.under (.builtin "type.__call__" ⟨.ref cl :: args, []⟩)) (.call (.ref fI) ⟨.ref x :: args, []⟩) (fun r s' => match r with | .ok (.ret v) => v = .none ∧ P (.ref x) s' | .ok _ => False | .error e => E e s') { s with heap := h' }) :
    wpAny (M w) A (call (.ref cl) args) P E s := by
  obtain ⟨hh, g, d, t, os⟩ := s
  refine wpAny_call (make_core (makes_of X hm) (looks_findIn X hi) (fun self => bind_fn X self (beq_iff_eq.mp hf)) (.inl rfl) ?_)
  have e2 : ((hh.push emptyDict).push (instObj cl hh.objs.size)).objs.size = hh.objs.size + 2 := by rw [Heap.size_push, Heap.size_push]
  refine codeAny_mono (h (hh.objs.size + 1) hh.objs.size ((hh.push emptyDict).push (instObj cl hh.objs.size)) (by have := Heap.get?_push_size (hh.push emptyDict) (o := instObj cl hh.objs.size) rfl; rwa [Heap.size_push] at this)
    (Heap.get?_push_of_some _ (Heap.get?_push_size _ rfl)) (Nat.le_refl _) (Nat.le_succ _) (Nat.ne_of_lt (Nat.lt_succ_self _)) (fun b o e => Heap.get?_push_of_some _ (Heap.get?_push_of_some _ e)) (by rw [e2]; exact Nat.le_add_right _ _) (by rw [e2]; exact Nat.lt_succ_of_lt (Nat.lt_succ_self _)) (by rw [e2]; exact Nat.lt_succ_self _)) fun r s' z => ?_
  rcases r with e | (v | _ | _ | _)
  · exact z
  · exact z.elim
  · exact z.elim
  · exact z.elim
  · exact z
end
end Mine
end
section
set_option maxRecDepth 100000
set_option maxHeartbeats 4000000
open PySem PySem.W PyProof.Rows
namespace Mine
open PyProof.Rows.LCg (lst lst_snoc)
local macro_rules | `(tactic| ktr_rel) => `(tactic| repeat ((fail_if_success (first | with_reducible show wpAny _ _ (call _ _ _) _ _ _ | with_reducible show wpAny _ _ (eval (Expr.ListComp _ _ _ _) _) _ _ _ | with_reducible show wpAny _ _ (compareOp _ (Value.ref _) _) _ _ _ | with_reducible show wpAny _ _ (compareOp _ _ (Value.ref _)) _ _ _ | with_reducible show wpAny _ _ (getAttr (Value.ref _) _ _) _ _ _ | with_reducible show wpAny _ _ (subscriptTail _ _ _ _) _ _ _ | with_reducible show wpAny _ _ (binaryOp _ (Value.ref _) _) _ _ _)); walk1))
local macro_rules | `(tactic| tb_start) => `(tactic| first
  | (with_reducible refine' tagClass_own ?zX ?zT ?_; (case zX => k_in); (case zT => exact TagIs.keep (by assumption) (Fr.keep (by assumption))))
  | (with_reducible refine' tagFormat_own ?zX ?zT ?_; (case zX => k_in); (case zT => exact TagIs.keep (by assumption) (Fr.keep (by assumption))))
  | (with_reducible refine' tagId_own ?zX ?zT ?_; (case zX => k_in); (case zT => exact TagIs.keep (by assumption) (Fr.keep (by assumption))))
  | (with_reducible refine' tagClassId_own ?zX ?zT ?_; (case zX => k_in); (case zT => exact TagIs.keep (by assumption) (Fr.keep (by assumption))))
  | (with_reducible refine' tagClass_use ?zC ?zA ?zT ?_; (case zC => exact Cx.keep (by assumption) (Fr.keep (by assumption))); (case zA => exact Sm.lower (by assumption) (by omega)); (case zT => exact TagIs.keep (by assumption) (Fr.keep (by assumption))); intro s₁ k₁; (have F := Fr.keeps (by assumption) (Kp.keep k₁)))
  | (with_reducible refine' tagFormat_use ?zC ?zA ?zT ?_; (case zC => exact Cx.keep (by assumption) (Fr.keep (by assumption))); (case zA => exact Sm.lower (by assumption) (by omega)); (case zT => exact TagIs.keep (by assumption) (Fr.keep (by assumption))); intro s₁ k₁; (have F := Fr.keeps (by assumption) (Kp.keep k₁)))
  | (with_reducible refine' tagId_use ?zC ?zA ?zT ?_; (case zC => exact Cx.keep (by assumption) (Fr.keep (by assumption))); (case zA => exact Sm.lower (by assumption) (by omega)); (case zT => exact TagIs.keep (by assumption) (Fr.keep (by assumption))); intro s₁ k₁; (have F := Fr.keeps (by assumption) (Kp.keep k₁))))
local macro_rules | `(tactic| tb_rel) => `(tactic| first | assumption | exact Kp.refl _ | (refine Kp.trans ?_ (by assumption); tb_rel) | (refine Kp.toks ?_; tb_rel))
local macro_rules | `(tactic| ktd_rel) => `(tactic| repeat' ((first | with_reducible show wpAny _ _ _ _ _ _ | with_reducible show (if _ then _ else _)); walk1))
abbrev setDict (h1 h2 h3 h4 : Int) (k1 k2 k3 k4 : Tok) (base : Value) (st sc : Addr) (n : Int) (tn : Tok) : Obj :=
  dictOf [⟨h1, .str (Str.ofString "_TagSet__baseTag") k1, base⟩, ⟨h2, .str (Str.ofString "_TagSet__superTags") k2, .ref st⟩,
    ⟨h3, .str (Str.ofString "_TagSet__superTagsClassId") k3, .ref sc⟩, ⟨h4, .str (Str.ofString "_TagSet__lenOfSuperTags") k4, .int n tn⟩] 4
abbrev pairsOf (ds : List Trip) : List (Int × Int) := ds.map fun d => (d.c, d.n)
structure SetIs (h : Heap) (a : Addr) (base : Value) (zs : List Value) (ds : List Trip) : Prop where
  ex : ∃ h1 h2 h3 h4 k1 k2 k3 k4 st sc tn dx, h.get? a = some (instObj 321 dx) ∧ h.get? dx = some (setDict h1 h2 h3 h4 k1 k2 k3 k4 base st sc zs.length tn) ∧ h.get? st = some (tupObj zs) ∧ RowAt h (.ref sc) (pairsOf ds)
  tags : All2 (TagV h) zs ds
section
variable {w : World} {A : Around} {s : Shared}
theorem Kp.upd {s s₁ : Shared} {dx L : Addr} {h' : Heap} {tk : Nat} (K : Kp s s₁) (hdx : s.heap.objs.size ≤ dx) (hL : s.heap.objs.size ≤ L) (k : ∀ b o, b ≠ dx → b ≠ L → s₁.heap.get? b = some o → h'.get? b = some o) : Kp s ⟨h', s₁.gens, s₁.drawn, tk, s₁.os⟩ := by
  obtain ⟨h1, t1, g1, rfl, kk, kb⟩ := K
  exact ⟨h', tk, g1, rfl, fun b o e => k b o (Nat.ne_of_lt (Nat.lt_of_lt_of_le (Heap.lt_size e) hdx)) (Nat.ne_of_lt (Nat.lt_of_lt_of_le (Heap.lt_size e) hL)) (kk b o e), kb⟩
local macro_rules | `(tactic| kln_le) => `(tactic| repeat' (first
  | ((with_reducible show wpAny _ _ (eval (Expr.Name _ _) _) _ _ _); refine cm_L (by assumption) (by assumption) rfl ?_)
  | ((with_reducible show wpAny _ _ (eval (Expr.Name (Str.ofString "script") _) _) _ _ _); refine cm_C (by assumption) rfl rfl ?_)
  | ((with_reducible show wpAny _ _ (eval (Expr.Name _ _) _) _ _ _); refine cm_G (by assumption) (by k_is) rfl ?_)
  | ((with_reducible show wpAny _ _ (eval (Expr.Name _ _) _) _ _ _); fail "a name")
  | ((with_reducible show wpAny _ _ (subscriptTail _ _ (Value.ref _) (Value.int 0 _)) _ _ _); refine sub3_0 (by assumption) ?_)
  | ((with_reducible show wpAny _ _ (subscriptTail _ _ (Value.ref _) (Value.int 1 _)) _ _ _); refine sub3_1 (by assumption) ?_)
  | ((with_reducible show wpAny _ _ (subscriptTail _ _ (Value.ref _) (Value.int 2 _)) _ _ _); refine sub3_2 (by assumption) ?_)
  | ((fail_if_success (first | with_reducible show wpAny _ _ (call _ _ _) _ _ _ | with_reducible show wpAny _ _ (eval (Expr.ListComp _ _ _ _) _) _ _ _ | with_reducible show wpAny _ _ (eval (Expr.Name _ _) _) _ _ _ | with_reducible show wpAny _ _ (compareOp _ (Value.ref _) _) _ _ _ | with_reducible show wpAny _ _ (compareOp _ _ (Value.ref _)) _ _ _ | with_reducible show wpAny _ _ (getAttr (Value.ref _) _ _) _ _ _ | with_reducible show wpAny _ _ (subscriptTail _ _ _ _) _ _ _ | with_reducible show wpAny _ _ (binaryOp _ (Value.ref _) _) _ _ _)); (first | with_reducible show wpAny _ _ _ _ _ _ | with_reducible show (if _ then _ else _)); walk1)))
theorem stay_pair {v : Value} {x : Int × Int} : Stay (fun h => PairAt h v x) :=
  Stay.ex fun _ => Stay.ex fun _ => Stay.ex fun _ => Stay.ex fun _ => stay_val.and stay_tup
theorem RowAt.noDict {h h' : Heap} {v : Value} {l : List (Int × Int)} (H : RowAt h v l) (k : ∀ b o, (∀ es n, o.data ≠ .dict es n) → h.get? b = some o → h'.get? b = some o) : RowAt h' v l := by
  obtain ⟨p, e, qs, rfl, ho, hl, hj⟩ := H
  refine ⟨p, e, qs, rfl, k _ _ (by intro es n q; cases q) ho, hl, fun j h1 h2 => ?_⟩
  obtain ⟨q, e', t, u, hq, ho'⟩ := hj j h1 h2
  exact ⟨q, e', t, u, hq, k _ _ (by intro es n q; cases q) ho'⟩
theorem Fr.ne_dict {h₀ h : Heap} {L b : Addr} {m : Str → Option Value} {o : Obj} (F : Fr h₀ L h m) (e : h.get? b = some o) (hd : ∀ es n, o.data ≠ .dict es n) : b ≠ L := by
  intro q
  obtain ⟨oL, es, ep, hL, hdd, _⟩ := F.ns
  rw [q, hL] at e
  cases e
  exact hd _ _ hdd
theorem set_init {x dx : Addr} {base : Value} {zs : List Value} {ds : List Trip} {s₀ : Shared} (C : Cx w s.heap) (hA : Sm 5 A) (hT : All2 (TagV s₀.heap) zs ds) (hlen : zs.length ≤ 5) (K : Kp s₀ s) (hx : s.heap.get? x = some (instObj 321 dx)) (hdx : s.heap.get? dx = some (dictOf [] 0))
    (nx : s₀.heap.objs.size ≤ x) (nd : s₀.heap.objs.size ≤ dx) (hne : dx ≠ x) (C₀ : Cx w s₀.heap) (hz : s₀.heap.objs.size ≤ s.heap.objs.size) (zx : x < s.heap.objs.size) (zd : dx < s.heap.objs.size) :
    codeAny (M w) A (.call (.ref 199) ⟨.ref x :: base :: zs, []⟩) (fun r s' => match r with | .ok (.ret v) => v = .none ∧ Kp s₀ s' ∧ ∃ a, Value.ref x = .ref a ∧ SetIs s'.heap a base zs ds | _ => False) s := by
  refine code_fnV (vs := zs) (binds := fun D => [(Str.ofString "self", .ref x), (Str.ofString "baseTag", base), (Str.ofString "superTags", .ref D)]) (P := fun v s' => v = .none ∧ Kp s₀ s' ∧ ∃ a, Value.ref x = .ref a ∧ SetIs s'.heap a base zs ds) C hA (by k_is) (by k_is) ?hb ?hloc (by decide) (by rfl) (by rfl) (by rfl) ?_
  case hb =>
    match zs, hlen with
    | [], _ => exact ⟨_, rfl, fun _ => rfl⟩
    | [_], _ => exact ⟨_, rfl, fun _ => rfl⟩
    | [_, _], _ => exact ⟨_, rfl, fun _ => rfl⟩
    | [_, _, _], _ => exact ⟨_, rfl, fun _ => rfl⟩
    | [_, _, _, _], _ => exact ⟨_, rfl, fun _ => rfl⟩
    | [_, _, _, _, _], _ => exact ⟨_, rfl, fun _ => rfl⟩
    | _ :: _ :: _ :: _ :: _ :: _ :: _, h => exact absurd h (by simp)
  case hloc => exact fun D => locs rfl
  intro D L s₁ K₁ hD nD F hA'
  have hLs : s.heap.objs.size ≤ L := F.above
  have hdL : dx ≠ L := Nat.ne_of_lt (Nat.lt_of_lt_of_le zd hLs)
  have hxL : x ≠ L := Nat.ne_of_lt (Nat.lt_of_lt_of_le zx hLs)
  have hL₀ : s₀.heap.objs.size ≤ L := Nat.le_trans hz hLs
  have hd₀ : s₀.heap.get? dx = none := Heap.get?_none_of_le nd
  have hDdx : D ≠ dx := Nat.ne_of_gt (Nat.lt_of_lt_of_le zd nD)
  have F := Fr.low F K.keep hz
  have X := C₀.X
  obtain ⟨_, _, _, TT⟩ := C₀.T
  have K := K.trans K₁
  have hx := K₁.keep _ _ hx
  have hdx := K₁.keep _ _ hdx
  clear K₁
  have f1 : findIn (hd.heap_39 w.params) (.ref 321) "__setattr__" = some (some (.builtin "object.__setattr__")) := by k_is
  have f2 : plainOver (hd.heap_39 w.params) 321 = true := by k_is
  have f3 : hasDictIn (hd.heap_39 w.params) 321 = true := by k_is
  have g1 : takerIn (hd.heap_39 w.params) 321 (Str.ofString "_TagSet__baseTag") = some none := by k_is
  have g2 : takerIn (hd.heap_39 w.params) 321 (Str.ofString "_TagSet__superTags") = some none := by k_is
  have g3 : takerIn (hd.heap_39 w.params) 321 (Str.ofString "_TagSet__superTagsClassId") = some none := by k_is
  have g4 : takerIn (hd.heap_39 w.params) 321 (Str.ofString "_TagSet__lenOfSuperTags") = some none := by k_is
  -- self.__baseTag = baseTag
  refine wpAny_execs_cons (plainObj_wpAny_Assign_Attribute ?_)
  ktr_rel
  refine set_own_dict F X hx hdx hd₀ hdL f1 f2 g1 f3 (by rfl) (es' := [⟨_, .str (Str.ofString "_TagSet__baseTag") _, base⟩]) (n' := 1) rfl (by show 1 ≤ 1000; decide) fun h₂ F' hdx kk => ?_
  have K := Kp.upd (tk := s₁.toks + 2) K nd hL₀ kk
  have hx := kk _ _ (Ne.symm hne) hxL hx
  have hD := kk _ _ hDdx (Fr.ne_dict F hD (by intro es n q; cases q)) hD
  clear F kk
  rename Fr s₀.heap L h₂ _ => F
  -- self.__superTags = superTags
  refine wpAny_execs_cons (plainObj_wpAny_Assign_Attribute ?_)
  ktr_rel
  refine set_own_dict F X hx hdx hd₀ hdL f1 f2 g2 f3 (by rfl) (es' := [⟨_, .str (Str.ofString "_TagSet__baseTag") _, base⟩, ⟨_, .str (Str.ofString "_TagSet__superTags") _, .ref D⟩]) (n' := 2) rfl (by show 2 ≤ 1000; decide) fun h₃ F' hdx kk => ?_
  have K := Kp.upd (tk := s₁.toks + 2 + 2) K nd hL₀ kk
  have hx := kk _ _ (Ne.symm hne) hxL hx
  have hD := kk _ _ hDdx (Fr.ne_dict F hD (by intro es n q; cases q)) hD
  clear F kk
  rename Fr s₀.heap L h₃ _ => F
  -- self.__superTagsClassId = tuple([...])
  refine wpAny_execs_cons (plainObj_wpAny_Assign_Attribute ?_)
  ktr_rel
  refine comp_eval (cl := []) (by decide) ?c1 ?c2 ?c3 ?c4 ?c5 ?_
  case c1 => rfl
  case c2 => decide
  case c3 => rfl
  case c4 => decide
  case c5 => rfl
  refine ld F rfl ?_
  refine ⟨_, _, fun j y h => ∃ d, ds[j]? = some d ∧ PairAt h y (d.c, d.n), ⟨src_tup hA'.handled ⟨_, hD, rfl, _, rfl⟩, by rw [List.size_toArray, sizeLine_eq]; omega, fun _ _ => Stay.ex fun _ => stay_val.and stay_pair, ?_⟩, ?_⟩
  · intro i v C' m₃ s₃ hi hv hk hC hN hm
    have hi' : i < zs.length := by simpa using hi
    have hid : i < ds.length := hT.1 ▸ hi'
    have hv' : zs[i] = v := by
      have e : zs.toArray[i]? = some v := hv
      rw [List.getElem?_toArray, List.getElem?_eq_getElem hi'] at e
      exact Option.some.inj e
    obtain ⟨a, p, ha, T⟩ := hT.2 i hi' hid
    rw [hv'] at ha
    subst ha
    have K := K.trans hk
    have T := T.keep K.keep
    have HC := C₀.keep K.keep
    show wpAny _ _ _ _ _ _
    kln_le
    refine tagClass_use HC (hA'.lower (by omega)) T fun s₄ k₄ => ?_
    have T := T.keep k₄.keep
    have HC := HC.keep k₄.keep
    have hN := hN.at' fun o e => k₄.keep _ o e
    kln_le
    refine tagId_use HC (hA'.lower (by omega)) T fun s₅ k₅ => ?_
    kln_le
    refine wpAny_newTuple ?_
    exact ⟨k₄.trans (k₅.trans (Kp.heap fun _ _ e => Heap.get?_push_of_some _ e)), ds[i], List.getElem?_eq_getElem hid, _, 0, _, _, rfl, Heap.get?_push_size _ rfl⟩
  intro D₄ ys s₄ k₄ hD₄ hl₄ hR₄
  have F := F.keeps k₄.keep
  have K := K.trans k₄
  have hx := k₄.keep _ _ hx
  have hdx := k₄.keep _ _ hdx
  have hD := k₄.keep _ _ hD
  have hlz : ys.length = zs.length := by simpa using hl₄
  ktr_rel
  refine call_tuple_list (lst_isList hD₄) (fun h₅ k₅ => ?_) (by rw [List.size_toArray, sizeLine_eq]; omega)
  have k₆ : ∀ b o, s₄.heap.get? b = some o → (h₅.push { cls := .type "tuple", data := .seq ys.toArray }).get? b = some o := fun b o e => Heap.get?_push_of_some _ (k₅ b o e)
  have hsc : (h₅.push { cls := .type "tuple", data := .seq ys.toArray }).get? h₅.objs.size = some (tupObj ys) := Heap.get?_push_size _ rfl
  have hR : RowAt (h₅.push { cls := .type "tuple", data := .seq ys.toArray }) (.ref h₅.objs.size) (pairsOf ds) := by
    refine ⟨_, 0, ys, rfl, hsc, by rw [hlz, hT.1, List.length_map], fun j j1 j2 => ?_⟩
    obtain ⟨d, hd, P⟩ := hR₄ j j1
    have j3 : j < ds.length := by simpa using j2
    rw [List.getElem?_eq_getElem j3] at hd
    cases hd
    have e : (pairsOf ds)[j] = (ds[j].c, ds[j].n) := by simp [pairsOf]
    rw [e]
    exact P.keep k₆
  generalize h₅.objs.size = sc at hsc hR
  generalize h₅.push { cls := .type "tuple", data := .seq ys.toArray } = H₆ at k₆ hsc hR
  have F := F.keeps k₆
  have K := K.trans (Kp.heap (tk := s₄.toks) k₆)
  have hx := k₆ _ _ hx
  have hdx := k₆ _ _ hdx
  have hD := k₆ _ _ hD
  ktr_rel
  have kd : ∀ {h h' : Heap} {es : List DictEntry} {n : Nat} {m : Str → Option Value}, Fr s₀.heap L h m → h.get? dx = some (dictOf es n) → (∀ b o, b ≠ dx → b ≠ L → h.get? b = some o → h'.get? b = some o) → ∀ b o, (∀ es n, o.data ≠ .dict es n) → h.get? b = some o → h'.get? b = some o :=
    fun {h h' es n m} F hdx kk b o hn e => kk b o (fun q => by rw [q, hdx] at e; cases e; exact hn _ _ rfl) (Fr.ne_dict F e hn) e
  refine set_own_dict F X hx hdx hd₀ hdL f1 f2 g3 f3 (by rfl) (es' := [⟨_, .str (Str.ofString "_TagSet__baseTag") _, base⟩, ⟨_, .str (Str.ofString "_TagSet__superTags") _, .ref D⟩, ⟨_, .str (Str.ofString "_TagSet__superTagsClassId") _, .ref sc⟩]) (n' := 3) rfl (by show 3 ≤ 1000; decide) fun h₇ F' hdx' kk => ?_
  have K := Kp.upd (tk := s₄.toks + 2) K nd hL₀ kk
  have hx := kk _ _ (Ne.symm hne) hxL hx
  have hD := kk _ _ hDdx (Fr.ne_dict F hD (by intro es n q; cases q)) hD
  have hR := hR.noDict (kd F hdx kk)
  clear F kk hdx
  rename Fr s₀.heap L h₇ _ => F
  rename h₇.get? dx = _ => hdx
  -- self.__lenOfSuperTags = len(superTags)
  refine wpAny_execs_cons (plainObj_wpAny_Assign_Attribute ?_)
  ktr_rel
  refine PyProof.Rows.len_tuple (isTup hD) (by rw [List.size_toArray]; omega) ?_
  rw [List.size_toArray]
  ktr_rel
  refine set_own_dict F X hx hdx hd₀ hdL f1 f2 g4 f3 (by rfl) (es' := [⟨_, .str (Str.ofString "_TagSet__baseTag") _, base⟩, ⟨_, .str (Str.ofString "_TagSet__superTags") _, .ref D⟩, ⟨_, .str (Str.ofString "_TagSet__superTagsClassId") _, .ref sc⟩, ⟨_, .str (Str.ofString "_TagSet__lenOfSuperTags") _, .int zs.length _⟩]) (n' := 4) rfl (by show 4 ≤ 1000; decide) fun h₈ F' hdx' kk => ?_
  have K := Kp.upd (tk := s₄.toks + 2 + 1 + 1 + 2) K nd hL₀ kk
  have hx := kk _ _ (Ne.symm hne) hxL hx
  have hD := kk _ _ hDdx (Fr.ne_dict F hD (by intro es n q; cases q)) hD
  have hR := hR.noDict (kd F hdx kk)
  refine wpAny_execs_nil ⟨rfl, K, x, rfl, ⟨_, _, _, _, _, _, _, _, D, sc, _, dx, hx, hdx', hD, hR⟩, hT.mono fun v d h => h.keep K.keep⟩
theorem set_new {base : Value} {zs : List Value} {ds : List Trip} (C : Cx w s.heap) (hA : Sm 8 A) (hT : All2 (TagV s.heap) zs ds) (hlen : zs.length ≤ 5) :
    Gv w A (call (.ref 321) (base :: zs)) (fun v s' => ∃ a, v = .ref a ∧ SetIs s'.heap a base zs ds) s := by
  refine new_cls C.X (by k_is) (by k_is) (by k_is) fun x dx h' hx hdx nd nx hne k hz zd zx => ?_
  refine codeAny_mono (set_init (s := { s with heap := h' }) (C.keep k) ?_ hT hlen (Kp.heap k) hx hdx nx nd hne C hz zx zd) fun r s' z => ?_
  · exact ⟨hA.handled, by have := hA.depth; show A.depth + 1 + 10 * 5 ≤ 500; omega, by have := hA.units; show A.units + 1 + 100 * 5 ≤ 5000; omega⟩
  · rcases r with e | (v | _ | _ | _) <;> first | exact z | exact z.elim
end
end Mine
end
section
set_option maxRecDepth 100000
set_option maxHeartbeats 4000000
open PySem PySem.W PyProof.Rows
namespace Mine
open PyProof.Rows.LCg (lst lst_snoc)
local macro_rules | `(tactic| ktr_rel) => `(tactic| repeat ((fail_if_success (first | with_reducible show wpAny _ _ (call _ _ _) _ _ _ | with_reducible show wpAny _ _ (eval (Expr.ListComp _ _ _ _) _) _ _ _ | with_reducible show wpAny _ _ (compareOp _ (Value.ref _) _) _ _ _ | with_reducible show wpAny _ _ (compareOp _ _ (Value.ref _)) _ _ _ | with_reducible show wpAny _ _ (getAttr (Value.ref _) _ _) _ _ _ | with_reducible show wpAny _ _ (subscriptTail _ _ _ _) _ _ _ | with_reducible show wpAny _ _ (binaryOp _ (Value.ref _) _) _ _ _)); walk1))
local macro_rules | `(tactic| tb_start) => `(tactic| first
  | (with_reducible refine' tagClass_own ?zX ?zT ?_; (case zX => k_in); (case zT => exact TagIs.keep (by assumption) (Fr.keep (by assumption))))
  | (with_reducible refine' tagFormat_own ?zX ?zT ?_; (case zX => k_in); (case zT => exact TagIs.keep (by assumption) (Fr.keep (by assumption))))
  | (with_reducible refine' tagId_own ?zX ?zT ?_; (case zX => k_in); (case zT => exact TagIs.keep (by assumption) (Fr.keep (by assumption))))
  | (with_reducible refine' tagClassId_own ?zX ?zT ?_; (case zX => k_in); (case zT => exact TagIs.keep (by assumption) (Fr.keep (by assumption))))
  | (with_reducible refine' tagClass_use ?zC ?zA ?zT ?_; (case zC => exact Cx.keep (by assumption) (Fr.keep (by assumption))); (case zA => exact Sm.lower (by assumption) (by omega)); (case zT => exact TagIs.keep (by assumption) (Fr.keep (by assumption))); intro s₁ k₁; (have F := Fr.keeps (by assumption) (Kp.keep k₁)))
  | (with_reducible refine' tagFormat_use ?zC ?zA ?zT ?_; (case zC => exact Cx.keep (by assumption) (Fr.keep (by assumption))); (case zA => exact Sm.lower (by assumption) (by omega)); (case zT => exact TagIs.keep (by assumption) (Fr.keep (by assumption))); intro s₁ k₁; (have F := Fr.keeps (by assumption) (Kp.keep k₁)))
  | (with_reducible refine' tagId_use ?zC ?zA ?zT ?_; (case zC => exact Cx.keep (by assumption) (Fr.keep (by assumption))); (case zA => exact Sm.lower (by assumption) (by omega)); (case zT => exact TagIs.keep (by assumption) (Fr.keep (by assumption))); intro s₁ k₁; (have F := Fr.keeps (by assumption) (Kp.keep k₁))))
local macro_rules | `(tactic| tb_rel) => `(tactic| first | assumption | exact Kp.refl _ | (refine Kp.trans ?_ (by assumption); tb_rel) | (refine Kp.toks ?_; tb_rel))
local macro_rules | `(tactic| ktd_rel) => `(tactic| repeat' ((first | with_reducible show wpAny _ _ _ _ _ _ | with_reducible show (if _ then _ else _)); walk1))
section
variable {w : World} {A : Around} {S s s' : Shared} {L : Addr} {B : Heap} {m : Str → Option Value} {sl : Addr} {vs : List Value} {ns : List Int}
local macro_rules | `(tactic| kpf_close) => `(tactic| first | assumption | exact if_pos rfl | (refine Eq.trans (if_neg (by decide)) ?_; kpf_close))
local macro_rules | `(tactic| kwd_rel) => `(tactic| repeat' (first
  | ((with_reducible show wpAny _ _ (eval (Expr.Name (Str.ofString "script") _) _) _ _ _); first | refine law_script (by assumption) (by assumption) ?_ | refine law_script (LF.base (by assumption)) (by assumption) ?_)
  | ((with_reducible show wpAny _ _ (eval (Expr.Name _ _) _) _ _ _); refine law_ld (by assumption) (by kpf_close) ?_)
  | ((with_reducible show wpAny _ _ (compareOp CmpOp.NotEq (Value.int _ _) (Value.int _ _)) _ _ _); with_reducible refine ne_int_same ?_)
  | ((with_reducible show wpAny _ _ (compareOp CmpOp.NotEq (Value.str _ _) (Value.str _ _)) _ _ _); first | with_reducible refine ne_str_same ?_ | refine ne_str_eq (by decide) ?_)
  | ((with_reducible show wpAny _ _ (subscriptTail _ _ (Value.ref _) (Value.int 0 _)) _ _ _); first | refine sub3_0 (by assumption) ?_ | refine sub2_0 (by assumption) ?_)
  | ((with_reducible show wpAny _ _ (subscriptTail _ _ (Value.ref _) (Value.int 1 _)) _ _ _); first | refine sub3_1 (by assumption) ?_ | refine sub2_1 (by assumption) ?_)
  | ((with_reducible show wpAny _ _ (subscriptTail _ _ (Value.ref _) (Value.int 2 _)) _ _ _); refine sub3_2 (by assumption) ?_)
  | ((fail_if_success (first | with_reducible show wpAny _ _ (call _ _ _) _ _ _ | with_reducible show wpAny _ _ (eval (Expr.Name (Str.ofString "script") _) _) _ _ _ | with_reducible show wpAny _ _ (eval (Expr.ListComp _ _ _ _) _) _ _ _ | with_reducible show wpAny _ _ (compareOp _ (Value.ref _) _) _ _ _ | with_reducible show wpAny _ _ (compareOp _ _ (Value.ref _)) _ _ _ | with_reducible show wpAny _ _ (getAttr (Value.ref _) _ _) _ _ _ | with_reducible show wpAny _ _ (subscriptTail _ _ _ _) _ _ _ | with_reducible show wpAny _ _ (binaryOp _ (Value.ref _) _) _ _ _)); (first | with_reducible show wpAny _ _ _ _ _ _ | with_reducible show (if _ then _ else _)); walk1)))
local macro_rules | `(tactic| kln_le) => `(tactic| repeat' (first
  | ((with_reducible show wpAny _ _ (eval (Expr.Name _ _) _) _ _ _); refine cm_L (by assumption) (by assumption) rfl ?_)
  | ((with_reducible show wpAny _ _ (eval (Expr.Name (Str.ofString "script") _) _) _ _ _); refine cm_C (by assumption) rfl rfl ?_)
  | ((with_reducible show wpAny _ _ (eval (Expr.Name _ _) _) _ _ _); refine cm_G (by assumption) (by k_is) rfl ?_)
  | ((with_reducible show wpAny _ _ (eval (Expr.Name _ _) _) _ _ _); fail "a name")
  | ((with_reducible show wpAny _ _ (subscriptTail _ _ (Value.ref _) (Value.int 0 _)) _ _ _); refine sub3_0 (by assumption) ?_)
  | ((with_reducible show wpAny _ _ (subscriptTail _ _ (Value.ref _) (Value.int 1 _)) _ _ _); refine sub3_1 (by assumption) ?_)
  | ((with_reducible show wpAny _ _ (subscriptTail _ _ (Value.ref _) (Value.int 2 _)) _ _ _); refine sub3_2 (by assumption) ?_)
  | ((fail_if_success (first | with_reducible show wpAny _ _ (call _ _ _) _ _ _ | with_reducible show wpAny _ _ (eval (Expr.ListComp _ _ _ _) _) _ _ _ | with_reducible show wpAny _ _ (eval (Expr.Name _ _) _) _ _ _ | with_reducible show wpAny _ _ (compareOp _ (Value.ref _) _) _ _ _ | with_reducible show wpAny _ _ (compareOp _ _ (Value.ref _)) _ _ _ | with_reducible show wpAny _ _ (getAttr (Value.ref _) _ _) _ _ _ | with_reducible show wpAny _ _ (subscriptTail _ _ _ _) _ _ _ | with_reducible show wpAny _ _ (binaryOp _ (Value.ref _) _) _ _ _)); (first | with_reducible show wpAny _ _ _ _ _ _ | with_reducible show (if _ then _ else _)); walk1)))
theorem stay_plain {a : Addr} {o : Obj} (hc : o.cls ≠ .type "list") (hf : ∀ vs, o.data ≠ .fields vs) (hk : ∀ es n k v, k ∈ frameKeys → o.data = .dict es n → nsFind es k ≠ some v) : Stay (fun h => h.get? a = some o) := by
  refine ⟨fun _ _ k h => k _ _ h, fun h b o' he hj hq => ?_⟩
  rw [off_get ?_]
  · exact hq
  · rintro rfl
    rw [he] at hq
    cases hq
    rcases hj with ⟨hc', _⟩ | ⟨vs, hd⟩ | ⟨es, n, k, v, hk', hd, hf'⟩
    · exact hc hc'
    · exact hf _ hd
    · exact hk _ _ _ _ hk' hd hf'
theorem stay_rowAt {v : Value} {l : List (Int × Int)} : Stay (fun h => RowAt h v l) := by
  refine ⟨fun _ _ k h => h.keep k, fun h b o he hj ⟨p, e, qs, hv, ho, hl, hr⟩ => ⟨p, e, qs, hv, stay_tup.offs h b o he hj ho, hl, fun j h1 h2 => stay_pair.offs h b o he hj (hr j h1 h2)⟩⟩
theorem stay_all2 {R : Heap → Value → Trip → Prop} (H : ∀ v d, Stay (fun h => R h v d)) {ys : List Value} {ds : List Trip} : Stay (fun h => All2 (R h) ys ds) :=
  ⟨fun _ _ k h => h.mono fun v d => (H v d).mono _ _ k, fun _ _ _ he hj h => h.mono fun v d => (H v d).offs _ _ _ he hj⟩
theorem stay_set {a : Addr} {base : Value} {zs : List Value} {ds : List Trip} : Stay (fun h => SetIs h a base zs ds) := by
  have key : Stay (fun h => (∃ h1 h2 h3 h4 k1 k2 k3 k4 st sc tn dx, h.get? a = some (instObj 321 dx) ∧ h.get? dx = some (setDict h1 h2 h3 h4 k1 k2 k3 k4 base st sc zs.length tn) ∧ h.get? st = some (tupObj zs) ∧ RowAt h (.ref sc) (pairsOf ds)) ∧ All2 (TagV h) zs ds) := by
    refine Stay.and (Stay.ex fun _ => Stay.ex fun _ => Stay.ex fun _ => Stay.ex fun _ => Stay.ex fun _ => Stay.ex fun _ => Stay.ex fun _ => Stay.ex fun _ => Stay.ex fun _ => Stay.ex fun _ => Stay.ex fun _ => Stay.ex fun _ => Stay.and ?_ (Stay.and ?_ (stay_tup.and stay_rowAt))) (stay_all2 fun v d => stay_tagV)
    · exact stay_plain (by intro h; cases h) (by intro vs h; cases h) (by intro es n k v _ h; cases h)
    · refine stay_plain (by intro h; injection h with h; exact absurd h (by decide)) (by intro vs h; cases h) (fun es n k v hk h hf => ?_)
      cases h
      simp only [frameKeys, List.mem_cons, List.not_mem_nil, or_false] at hk
      rcases hk with rfl | rfl | rfl | rfl | rfl | rfl <;> exact absurd hf (by intro q; cases q)
  exact ⟨fun h h' k H => let r := key.mono h h' k ⟨H.ex, H.tags⟩; ⟨r.1, r.2⟩, fun h b o he hj H => let r := key.offs h b o he hj ⟨H.ex, H.tags⟩; ⟨r.1, r.2⟩⟩
theorem SetIs.keep {h h' : Heap} {a : Addr} {base : Value} {zs : List Value} {ds : List Trip} (H : SetIs h a base zs ds) (k : ∀ b o, h.get? b = some o → h'.get? b = some o) : SetIs h' a base zs ds := stay_set.mono _ _ k H
theorem LF.stay (l : LF w S L B m s) {fv : Value} (hm0 : m (Str.ofString "first") = some fv) {R : Heap → Prop} (H : Stay R) (h : R s.heap) : R (Mine.off s.heap L) := by
  obtain ⟨oL, es, ep, eL, dL, _, fL⟩ := l.F.ns
  exact H.offs _ _ _ eL (.inr (.inr ⟨es, ep, Str.ofString "first", fv, by decide, dL, by rw [fL, hm0]⟩)) h
theorem LF.row (l : LF w S L B m s) {v : Value} {x : List (Int × Int)} (H : RowAt s.heap v x) : RowAt (Mine.off s.heap L) v x := by
  obtain ⟨p, e, qs, rfl, ho, hl, hj⟩ := H
  exact ⟨p, e, qs, rfl, l.obj ho (by intro es n q; cases q), hl, fun j h1 h2 => l.pair (hj j h1 h2)⟩
theorem star_seq' {a : Addr} {o : Obj} {T : String} {its : Array Value} {n : Nat} {E : Value → Shared → Prop} {Q : List Value → Shared → Prop} (D : s.heap.get? a = some o) (hc : o.cls = .type T) (hd : o.data = .seq its n) (hT : T = "list" ∨ T = "tuple")
    (hz : its.size ≤ sizeLine) (h : ∀ h', (∀ b o, s.heap.get? b = some o → h'.get? b = some o) → Q its.toList { s with heap := h' }) : StarOf (M w) A E (.ref a) Q s := by
  have hT' : s.TypeIs (.ref a) T := ⟨o, D, hc⟩
  have z : wpAny (M w) A (collect (.ref a)) Q E s := wpAny_collect_seq a hT D hc hd (fun h' hk => h h' hk) hz
  unfold StarOf notIterableAtAll
  rcases hT with rfl | rfl
  · exact wpAny_bind (wpAny_specialOf hT' PySem.F.slot_list_iter.lookup (wpAny_pure ⟨rfl, z⟩))
  · exact wpAny_bind (wpAny_specialOf hT' PySem.F.slot_tuple_iter.lookup (wpAny_pure ⟨rfl, z⟩))
theorem slice_list' {l : Addr} {items : List Value} {e : Nat} {vl vu : Value} {lo hi : Option Int} {value slice : Expr} {E Q : Value → Shared → Prop} (hl : s.heap.get? l = some { cls := .type "list", data := .seq items.toArray e }) (pl : IsPart vl lo) (pu : IsPart vu hi) (hz : items.length ≤ 1000)
    (h : ∀ q s', Kp s s' → s'.heap.get? q = some { cls := .type "list", data := .seq (kms_pick items lo hi).toArray } → Q (.ref q) s')
    (hs : subscripted slice false (.ref l) (.ref s.heap.objs.size) = operate [.ref s.heap.objs.size, .ref l] (getItem (.ref l) (.ref s.heap.objs.size)) := by with_unfolding_all rfl) (ht : ∀ r, letTemporaryGo value (.ref l) r = pure () := by intro _; with_unfolding_all rfl) :
    wpAny (M w) A (subscriptTail value slice (.ref l) (.ref s.heap.objs.size)) Q E { s with heap := s.heap.push { cls := .type "slice", data := .fields #[vl, vu, .none] } } := by
  refine PyProof.Rows.slice_listK (isList hl) pl pu ?_ hs ht (by rw [List.size_toArray, sizeLine_eq]; omega)
  rw [kms_pick_eq]
  refine h _ _ (Kp.heap fun _ _ e => Heap.get?_push_of_some _ (Heap.get?_push_of_some _ e)) ?_
  have := Heap.get?_push_size (s.heap.push { cls := .type "slice", data := .fields #[vl, vu, .none] }) (o := { cls := .type "list", data := .seq (kms_pick items lo hi).toArray }) rfl
  rwa [Heap.size_push] at this
theorem All2.take {R : Value → Trip → Prop} {ys : List Value} {ds : List Trip} (H : All2 R ys ds) : All2 R (ys.take (ys.length - 1)) (ds.take (ds.length - 1)) := by
  refine ⟨by rw [List.length_take, List.length_take, H.1], fun j h1 h2 => ?_⟩
  rw [List.getElem_take, List.getElem_take]
  exact H.2 j _ _
theorem st16 {Q : Flow → Shared → Prop} {E : Value → Shared → Prop} {a tl : Addr} {zs : List Value} {ds : List Trip} (l : LF w S L B m s) (hA : Sm 19 A) (hm1 : m (Str.ofString "one") = some (.ref a)) (hm2 : m (Str.ofString "tags") = some (.ref tl))
    (ht : B.get? tl = some (lst zs)) (hT : All2 (TagV B) zs ds) (hlen : zs.length ≤ 4) {fv : Value} (hm0 : m (Str.ofString "first") = some fv)
    (h : ∀ B' s' d, LF w S L B' (fun y => if y = Str.ofString "made" then some (.ref d) else m y) s' → (∀ b o, B.get? b = some o → B'.get? b = some o) → SetIs B' d (.ref a) zs ds → Q .next s') :
    wpAny (M w) A (exec (lawStmt 16) (lawEnv L)) Q E s := by
  conv in (lawStmt 16) => whnf
  have X := l.X
  obtain ⟨_, _, _, TT⟩ := l.T
  have F := l.F
  refine wpAny_Assign_Name ?_
  kwd_rel
  refine star_seq' (l.base _ _ ht) rfl rfl (.inl rfl) (by rw [List.size_toArray, sizeLine_eq]; omega) fun h' k => ?_
  have l := l.kp (Kp.heap (tk := s.toks) k)
  have F := l.F
  kwd_rel
  refine ⟨l.cx.X, ?_⟩
  rw [List.append_nil]
  show wpAny _ _ (call (.ref 321) (.ref a :: zs)) _ _ _
  refine Gv.use (set_new (by exact l.cx) (hA.lower (by omega)) (hT.mono fun v d h => h.keep l.base) (by omega)) fun v s₂ k₂ hv => ?_
  obtain ⟨d, rfl, H⟩ := hv
  have l := l.kp2 k₂
  have H := l.stay hm0 stay_set H
  have hb := l.up.2
  have l := l.up.1
  refine law_st l fun s₅ l _ => ?_
  exact h _ _ d l hb H
theorem st17 {Q : Flow → Shared → Prop} {E : Value → Shared → Prop} {a tl : Addr} {zs : List Value} {ds : List Trip} (l : LF w S L B m s) (hA : Sm 19 A) (hm1 : m (Str.ofString "other") = some (.ref a)) (hm2 : m (Str.ofString "tags") = some (.ref tl))
    (ht : B.get? tl = some (lst zs)) (hT : All2 (TagV B) zs ds) (hlen : zs.length ≤ 4) {fv : Value} (hm0 : m (Str.ofString "first") = some fv)
    (h : ∀ B' s' d, LF w S L B' (fun y => if y = Str.ofString "twin" then some (.ref d) else m y) s' → (∀ b o, B.get? b = some o → B'.get? b = some o) → SetIs B' d (.ref a) (zs.take (zs.length - 1)) (ds.take (ds.length - 1)) → Q .next s') :
    wpAny (M w) A (exec (lawStmt 17) (lawEnv L)) Q E s := by
  conv in (lawStmt 17) => whnf
  have X := l.X
  obtain ⟨_, _, _, TT⟩ := l.T
  have F := l.F
  refine wpAny_Assign_Name ?_
  kwd_rel
  refine slice_list' (l.base _ _ ht) .none (.int _ _) (by omega) fun q s₁ k₁ hq => ?_
  have l := l.kp2 k₁
  have hk : kms_pick zs none (some (-1)) = zs.take (zs.length - 1) := by
    show (zs.drop 0).take _ = _
    rw [List.drop_zero]
    congr 1
  rw [hk] at hq
  have hlt : (zs.take (zs.length - 1)).length ≤ 4 := by rw [List.length_take]; omega
  refine star_seq' hq rfl rfl (.inl rfl) (by rw [List.size_toArray, sizeLine_eq]; omega) fun h' k => ?_
  have l := l.kp (Kp.heap (tk := s₁.toks) k)
  have F := l.F
  kwd_rel
  refine ⟨l.cx.X, ?_⟩
  rw [List.append_nil]
  show wpAny _ _ (call (.ref 321) (.ref a :: zs.take (zs.length - 1))) _ _ _
  refine Gv.use (set_new (ds := ds.take (ds.length - 1)) (by exact l.cx) (hA.lower (by omega)) (All2.take (hT.mono fun v d h => h.keep l.base)) (by omega)) fun v s₂ k₂ hv => ?_
  obtain ⟨d, rfl, H⟩ := hv
  have l := l.kp2 k₂
  have H := l.stay hm0 stay_set H
  have hb := l.up.2
  have l := l.up.1
  refine law_st l fun s₅ l _ => ?_
  exact h _ _ d l hb H
end
end Mine
end
section
set_option maxRecDepth 100000
set_option maxHeartbeats 4000000
open PySem PySem.W PyProof.Rows
namespace Mine
open PyProof.Rows.LCg (lst lst_snoc)
local macro_rules | `(tactic| ktr_rel) => `(tactic| repeat ((fail_if_success (first | with_reducible show wpAny _ _ (call _ _ _) _ _ _ | with_reducible show wpAny _ _ (eval (Expr.ListComp _ _ _ _) _) _ _ _ | with_reducible show wpAny _ _ (compareOp _ (Value.ref _) _) _ _ _ | with_reducible show wpAny _ _ (compareOp _ _ (Value.ref _)) _ _ _ | with_reducible show wpAny _ _ (getAttr (Value.ref _) _ _) _ _ _ | with_reducible show wpAny _ _ (subscriptTail _ _ _ _) _ _ _ | with_reducible show wpAny _ _ (binaryOp _ (Value.ref _) _) _ _ _)); walk1))
local macro_rules | `(tactic| tb_start) => `(tactic| first
  | (with_reducible refine' tagClass_own ?zX ?zT ?_; (case zX => k_in); (case zT => exact TagIs.keep (by assumption) (Fr.keep (by assumption))))
  | (with_reducible refine' tagFormat_own ?zX ?zT ?_; (case zX => k_in); (case zT => exact TagIs.keep (by assumption) (Fr.keep (by assumption))))
  | (with_reducible refine' tagId_own ?zX ?zT ?_; (case zX => k_in); (case zT => exact TagIs.keep (by assumption) (Fr.keep (by assumption))))
  | (with_reducible refine' tagClassId_own ?zX ?zT ?_; (case zX => k_in); (case zT => exact TagIs.keep (by assumption) (Fr.keep (by assumption))))
  | (with_reducible refine' tagClass_use ?zC ?zA ?zT ?_; (case zC => exact Cx.keep (by assumption) (Fr.keep (by assumption))); (case zA => exact Sm.lower (by assumption) (by omega)); (case zT => exact TagIs.keep (by assumption) (Fr.keep (by assumption))); intro s₁ k₁; (have F := Fr.keeps (by assumption) (Kp.keep k₁)))
  | (with_reducible refine' tagFormat_use ?zC ?zA ?zT ?_; (case zC => exact Cx.keep (by assumption) (Fr.keep (by assumption))); (case zA => exact Sm.lower (by assumption) (by omega)); (case zT => exact TagIs.keep (by assumption) (Fr.keep (by assumption))); intro s₁ k₁; (have F := Fr.keeps (by assumption) (Kp.keep k₁)))
  | (with_reducible refine' tagId_use ?zC ?zA ?zT ?_; (case zC => exact Cx.keep (by assumption) (Fr.keep (by assumption))); (case zA => exact Sm.lower (by assumption) (by omega)); (case zT => exact TagIs.keep (by assumption) (Fr.keep (by assumption))); intro s₁ k₁; (have F := Fr.keeps (by assumption) (Kp.keep k₁))))
local macro_rules | `(tactic| tb_rel) => `(tactic| first | assumption | exact Kp.refl _ | (refine Kp.trans ?_ (by assumption); tb_rel) | (refine Kp.toks ?_; tb_rel))
local macro_rules | `(tactic| ktd_rel) => `(tactic| repeat' ((first | with_reducible show wpAny _ _ _ _ _ _ | with_reducible show (if _ then _ else _)); walk1))
section
variable {w : World} {A : Around} {S s s' : Shared} {L : Addr} {B : Heap} {m : Str → Option Value} {sl : Addr} {vs : List Value} {ns : List Int}
local macro_rules | `(tactic| kpf_close) => `(tactic| first | assumption | exact if_pos rfl | (refine Eq.trans (if_neg (by decide)) ?_; kpf_close))
local macro_rules | `(tactic| kwd_rel) => `(tactic| repeat' (first
  | ((with_reducible show wpAny _ _ (eval (Expr.Name (Str.ofString "script") _) _) _ _ _); first | refine law_script (by assumption) (by assumption) ?_ | refine law_script (LF.base (by assumption)) (by assumption) ?_)
  | ((with_reducible show wpAny _ _ (eval (Expr.Name _ _) _) _ _ _); refine law_ld (by assumption) (by kpf_close) ?_)
  | ((with_reducible show wpAny _ _ (compareOp CmpOp.NotEq (Value.int _ _) (Value.int _ _)) _ _ _); with_reducible refine ne_int_same ?_)
  | ((with_reducible show wpAny _ _ (compareOp CmpOp.NotEq (Value.str _ _) (Value.str _ _)) _ _ _); first | with_reducible refine ne_str_same ?_ | refine ne_str_eq (by decide) ?_)
  | ((with_reducible show wpAny _ _ (subscriptTail _ _ (Value.ref _) (Value.int 0 _)) _ _ _); first | refine sub3_0 (by assumption) ?_ | refine sub2_0 (by assumption) ?_)
  | ((with_reducible show wpAny _ _ (subscriptTail _ _ (Value.ref _) (Value.int 1 _)) _ _ _); first | refine sub3_1 (by assumption) ?_ | refine sub2_1 (by assumption) ?_)
  | ((with_reducible show wpAny _ _ (subscriptTail _ _ (Value.ref _) (Value.int 2 _)) _ _ _); refine sub3_2 (by assumption) ?_)
  | ((fail_if_success (first | with_reducible show wpAny _ _ (call _ _ _) _ _ _ | with_reducible show wpAny _ _ (eval (Expr.Name (Str.ofString "script") _) _) _ _ _ | with_reducible show wpAny _ _ (eval (Expr.ListComp _ _ _ _) _) _ _ _ | with_reducible show wpAny _ _ (compareOp _ (Value.ref _) _) _ _ _ | with_reducible show wpAny _ _ (compareOp _ _ (Value.ref _)) _ _ _ | with_reducible show wpAny _ _ (getAttr (Value.ref _) _ _) _ _ _ | with_reducible show wpAny _ _ (subscriptTail _ _ _ _) _ _ _ | with_reducible show wpAny _ _ (binaryOp _ (Value.ref _) _) _ _ _)); (first | with_reducible show wpAny _ _ _ _ _ _ | with_reducible show (if _ then _ else _)); walk1)))
local macro_rules | `(tactic| kln_le) => `(tactic| repeat' (first
  | ((with_reducible show wpAny _ _ (eval (Expr.Name _ _) _) _ _ _); refine cm_L (by assumption) (by assumption) rfl ?_)
  | ((with_reducible show wpAny _ _ (eval (Expr.Name (Str.ofString "script") _) _) _ _ _); refine cm_C (by assumption) rfl rfl ?_)
  | ((with_reducible show wpAny _ _ (eval (Expr.Name _ _) _) _ _ _); refine cm_G (by assumption) (by k_is) rfl ?_)
  | ((with_reducible show wpAny _ _ (eval (Expr.Name _ _) _) _ _ _); fail "a name")
  | ((with_reducible show wpAny _ _ (subscriptTail _ _ (Value.ref _) (Value.int 0 _)) _ _ _); refine sub3_0 (by assumption) ?_)
  | ((with_reducible show wpAny _ _ (subscriptTail _ _ (Value.ref _) (Value.int 1 _)) _ _ _); refine sub3_1 (by assumption) ?_)
  | ((with_reducible show wpAny _ _ (subscriptTail _ _ (Value.ref _) (Value.int 2 _)) _ _ _); refine sub3_2 (by assumption) ?_)
  | ((fail_if_success (first | with_reducible show wpAny _ _ (call _ _ _) _ _ _ | with_reducible show wpAny _ _ (eval (Expr.ListComp _ _ _ _) _) _ _ _ | with_reducible show wpAny _ _ (eval (Expr.Name _ _) _) _ _ _ | with_reducible show wpAny _ _ (compareOp _ (Value.ref _) _) _ _ _ | with_reducible show wpAny _ _ (compareOp _ _ (Value.ref _)) _ _ _ | with_reducible show wpAny _ _ (getAttr (Value.ref _) _ _) _ _ _ | with_reducible show wpAny _ _ (subscriptTail _ _ _ _) _ _ _ | with_reducible show wpAny _ _ (binaryOp _ (Value.ref _) _) _ _ _)); (first | with_reducible show wpAny _ _ _ _ _ _ | with_reducible show (if _ then _ else _)); walk1)))
/-- a tuple made of a list -/
theorem tup_of_list {l : Addr} {items : List Value} {e : Nat} {E Q : Value → Shared → Prop} (hl : s.heap.get? l = some { cls := .type "list", data := .seq items.toArray e }) (hz : items.length ≤ 1000) (h : ∀ q s', Kp s s' → s'.heap.get? q = some (tupObj items) → Q (.ref q) s') :
    wpAny (M w) A (call (.type "tuple") [.ref l]) Q E s := by
  refine call_tuple_list (isList hl) (fun h' k => ?_) (by rw [List.size_toArray, sizeLine_eq]; omega)
  exact h _ _ (Kp.heap fun b o e => Heap.get?_push_of_some _ (k b o e)) (Heap.get?_push_size _ rfl)
theorem row_of {h h' : Heap} {q : Addr} {ys : List Value} {ds : List Trip} (k : ∀ b o, h.get? b = some o → h'.get? b = some o) (hq : h'.get? q = some (tupObj ys)) (hl : ys.length = ds.length) (hR : ∀ j (hj : j < ys.length), ∃ d, ds[j]? = some d ∧ PairAt h ys[j] (d.c, d.n)) : RowAt h' (.ref q) (pairsOf ds) := by
  refine ⟨_, 0, ys, rfl, hq, by rw [hl, List.length_map], fun j j1 j2 => ?_⟩
  obtain ⟨d, hd, P⟩ := hR j j1
  have j3 : j < ds.length := by simpa using j2
  rw [List.getElem?_eq_getElem j3] at hd
  cases hd
  have e : (pairsOf ds)[j] = (ds[j].c, ds[j].n) := by simp [pairsOf]
  rw [e]
  exact P.keep k
theorem law_row {rl : Addr} {ys : List Value} {ds : List Trip} {e : Nat} (C : Cx w s.heap) (hA : Sm 4 A) (hr : s.heap.get? rl = some { cls := .type "list", data := .seq ys.toArray e }) (hR : All2 (RowIs s.heap) ys ds) (hz : ys.length ≤ 5) :
    Gv w A (call (.ref 372) [.ref rl]) (fun v s' => RowAt s'.heap v (pairsOf ds)) s := by
  have X := C.X
  obtain ⟨_, _, _, TT⟩ := C.T
  refine call_fn (binds := [(Str.ofString "rows", .ref rl)]) C hA (by k_is) (by k_is) (by exact BindsTo.of_eq rfl) (by exact locs rfl) (by decide) (by rfl) (by rfl) (by rfl) fun L s₀ k₀ F hA' => ?_
  refine wpAny_execs_cons (wpAny_Return_some ?_)
  ktr_rel
  refine comp_eval (cl := []) (by decide) ?c1 ?c2 ?c3 ?c4 ?c5 ?_
  case c1 => rfl
  case c2 => decide
  case c3 => rfl
  case c4 => decide
  case c5 => rfl
  refine ld F rfl ?_
  refine ⟨_, _, fun j y h => ∃ d, ds[j]? = some d ∧ PairAt h y (d.c, d.n), ⟨src_list hA'.handled (isList (k₀.keep _ _ hr)), by rw [List.size_toArray, sizeLine_eq]; omega, fun _ _ => Stay.ex fun _ => stay_val.and stay_pair, ?_⟩, ?_⟩
  · intro i v C' m₃ s₃ hi hv hk hC hN hm
    have hi' : i < ys.length := by simpa using hi
    have hid : i < ds.length := hR.1 ▸ hi'
    have hv' : ys[i] = v := by
      have e : ys.toArray[i]? = some v := hv
      rw [List.getElem?_toArray, List.getElem?_eq_getElem hi'] at e
      exact Option.some.inj e
    obtain ⟨q, hq, eq⟩ := hR.2 i hi' hid
    rw [hv'] at hq
    subst hq
    have K := k₀.trans hk
    have eq := K.keep _ _ eq
    have HC := C.keep K.keep
    show wpAny _ _ _ _ _ _
    kln_le
    refine wpAny_newTuple ?_
    exact ⟨Kp.heap fun _ _ e => Heap.get?_push_of_some _ e, ds[i], List.getElem?_eq_getElem hid, _, 0, _, _, rfl, Heap.get?_push_size _ rfl⟩
  intro D₄ zs s₄ k₄ hD₄ hl₄ hR₄
  have hlz : zs.length = ys.length := by simpa using hl₄
  have F := F.keeps k₄.keep
  ktr_rel
  refine tup_of_list hD₄ (by omega) fun q s₅ k₅ hq => ?_
  exact ⟨k₀.trans (k₄.trans k₅), row_of k₅.keep hq (hlz.trans hR.1) hR₄⟩
theorem st18 {Q : Flow → Shared → Prop} {E : Value → Shared → Prop} {rl : Addr} {ys : List Value} {ds : List Trip} (l : LF w S L B m s) (hA : Sm 19 A) (hm1 : m (Str.ofString "rows") = some (.ref rl)) (hr : B.get? rl = some (lst ys)) (hR : All2 (RowIs B) ys ds) (hlen : ys.length ≤ 4)
    (h : ∀ B' s' p, LF w S L B' (fun y => if y = Str.ofString "plain" then some p else m y) s' → (∀ b o, B.get? b = some o → B'.get? b = some o) → RowAt B' p (pairsOf ds) → Q .next s') :
    wpAny (M w) A (exec (lawStmt 18) (lawEnv L)) Q E s := by
  conv in (lawStmt 18) => whnf
  have X := l.X
  obtain ⟨_, _, _, TT⟩ := l.T
  have F := l.F
  refine wpAny_Assign_Name ?_
  kwd_rel
  refine ⟨l.cx.X, ?_⟩
  refine Gv.use (law_row (by exact l.cx) (hA.lower (by omega)) (l.base _ _ hr) (hR.mono fun v d h => h.keep l.base) (by omega)) fun v s₂ k₂ hv => ?_
  have l := l.kp2 k₂
  have H := l.row hv
  have hb := l.up.2
  have l := l.up.1
  refine law_st l fun s₅ l _ => ?_
  exact h _ _ _ l hb H
end
end Mine
end
section
set_option maxRecDepth 100000
set_option maxHeartbeats 4000000
open PySem PySem.W PyProof.Rows
namespace Mine
local macro_rules | `(tactic| ktr_rel) => `(tactic| repeat ((fail_if_success (first | with_reducible show wpAny _ _ (call _ _ _) _ _ _ | with_reducible show wpAny _ _ (eval (Expr.ListComp _ _ _ _) _) _ _ _ | with_reducible show wpAny _ _ (compareOp _ (Value.ref _) _) _ _ _ | with_reducible show wpAny _ _ (compareOp _ _ (Value.ref _)) _ _ _ | with_reducible show wpAny _ _ (getAttr (Value.ref _) _ _) _ _ _ | with_reducible show wpAny _ _ (subscriptTail _ _ _ _) _ _ _ | with_reducible show wpAny _ _ (binaryOp _ (Value.ref _) _) _ _ _)); walk1))
local macro_rules | `(tactic| tb_start) => `(tactic| first
  | (with_reducible refine' tagClass_own ?zX ?zT ?_; (case zX => k_in); (case zT => exact TagIs.keep (by assumption) (Fr.keep (by assumption))))
  | (with_reducible refine' tagFormat_own ?zX ?zT ?_; (case zX => k_in); (case zT => exact TagIs.keep (by assumption) (Fr.keep (by assumption))))
  | (with_reducible refine' tagId_own ?zX ?zT ?_; (case zX => k_in); (case zT => exact TagIs.keep (by assumption) (Fr.keep (by assumption))))
  | (with_reducible refine' tagClassId_own ?zX ?zT ?_; (case zX => k_in); (case zT => exact TagIs.keep (by assumption) (Fr.keep (by assumption))))
  | (with_reducible refine' tagClass_use ?zC ?zA ?zT ?_; (case zC => exact Cx.keep (by assumption) (Fr.keep (by assumption))); (case zA => exact Sm.lower (by assumption) (by omega)); (case zT => exact TagIs.keep (by assumption) (Fr.keep (by assumption))); intro s₁ k₁; (have F := Fr.keeps (by assumption) (Kp.keep k₁)))
  | (with_reducible refine' tagFormat_use ?zC ?zA ?zT ?_; (case zC => exact Cx.keep (by assumption) (Fr.keep (by assumption))); (case zA => exact Sm.lower (by assumption) (by omega)); (case zT => exact TagIs.keep (by assumption) (Fr.keep (by assumption))); intro s₁ k₁; (have F := Fr.keeps (by assumption) (Kp.keep k₁)))
  | (with_reducible refine' tagId_use ?zC ?zA ?zT ?_; (case zC => exact Cx.keep (by assumption) (Fr.keep (by assumption))); (case zA => exact Sm.lower (by assumption) (by omega)); (case zT => exact TagIs.keep (by assumption) (Fr.keep (by assumption))); intro s₁ k₁; (have F := Fr.keeps (by assumption) (Kp.keep k₁))))
local macro_rules | `(tactic| tb_rel) => `(tactic| first | assumption | exact Kp.refl _ | (refine Kp.trans ?_ (by assumption); tb_rel) | (refine Kp.toks ?_; tb_rel))
local macro_rules | `(tactic| ktd_rel) => `(tactic| repeat' ((first | with_reducible show wpAny _ _ _ _ _ _ | with_reducible show (if _ then _ else _)); walk1))
section
variable {w : World} {A : Around} {s : Shared} {a : Addr} {base : Value} {zs : List Value} {ds : List Trip} {E Q : Value → Shared → Prop}
theorem SetIs.inst {h : Heap} (T : SetIs h a base zs ds) : ∃ dx od, W.InstAt h a (instObj 321 dx) 321 (some od) := by
  obtain ⟨⟨h1, h2, h3, h4, k1, k2, k3, k4, st, sc, tn, dx, e1, e2, e3, e4⟩, e5⟩ := T
  exact ⟨dx, _, e1, rfl, rfl, e2⟩
theorem baseTag_own (X : (hd.heap_39 w.params).In s.heap) (T : SetIs s.heap a base zs ds) (hv : handedIn base = true) (h : Q base { s with toks := s.toks + 1 }) : wpAny (M w) A (getAttr (.ref a) (Str.ofString "_TagSet__baseTag") true) Q E s := by
  have hg : plainGet (hd.heap_39 w.params) 321 (Str.ofString "_TagSet__baseTag") = true := by k_is
  have hh : hasDictIn (hd.heap_39 w.params) 321 = true := by k_is
  have ha : findIn (hd.heap_39 w.params) (.ref 321) (Str.ofString "_TagSet__baseTag") = some none := by k_is
  obtain ⟨⟨h1, h2, h3, h4, k1, k2, k3, k4, st, sc, tn, dx, e1, e2, e3, e4⟩, e5⟩ := T
  exact own_get X ⟨e1, rfl, rfl, e2⟩ hg hh ha rfl hv h
theorem superTags_own (X : (hd.heap_39 w.params).In s.heap) (T : SetIs s.heap a base zs ds)  (h : ∀ st, s.heap.get? st = some (tupObj zs) → Q (.ref st) { s with toks := s.toks + 1 }) : wpAny (M w) A (getAttr (.ref a) (Str.ofString "_TagSet__superTags") true) Q E s := by
  have hg : plainGet (hd.heap_39 w.params) 321 (Str.ofString "_TagSet__superTags") = true := by k_is
  have hh : hasDictIn (hd.heap_39 w.params) 321 = true := by k_is
  have ha : findIn (hd.heap_39 w.params) (.ref 321) (Str.ofString "_TagSet__superTags") = some none := by k_is
  obtain ⟨⟨h1, h2, h3, h4, k1, k2, k3, k4, st, sc, tn, dx, e1, e2, e3, e4⟩, e5⟩ := T
  exact own_get X ⟨e1, rfl, rfl, e2⟩ hg hh ha rfl rfl (h _ e3)
theorem lenOfSuperTags_own (X : (hd.heap_39 w.params).In s.heap) (T : SetIs s.heap a base zs ds)  (h : ∀ t, Q (.int zs.length t) { s with toks := s.toks + 1 }) : wpAny (M w) A (getAttr (.ref a) (Str.ofString "_TagSet__lenOfSuperTags") true) Q E s := by
  have hg : plainGet (hd.heap_39 w.params) 321 (Str.ofString "_TagSet__lenOfSuperTags") = true := by k_is
  have hh : hasDictIn (hd.heap_39 w.params) 321 = true := by k_is
  have ha : findIn (hd.heap_39 w.params) (.ref 321) (Str.ofString "_TagSet__lenOfSuperTags") = some none := by k_is
  obtain ⟨⟨h1, h2, h3, h4, k1, k2, k3, k4, st, sc, tn, dx, e1, e2, e3, e4⟩, e5⟩ := T
  exact own_get X ⟨e1, rfl, rfl, e2⟩ hg hh ha rfl rfl (h _)
theorem baseTag_get {k : Nat} (C : Cx w s.heap) (hA : Sm (k + 2) A) (T : SetIs s.heap a base zs ds) (hv : handedIn base = true) : Gv w A (getAttr (.ref a) (Str.ofString "baseTag") true) (fun v s' => v = base) s := by
  have X := C.X
  obtain ⟨_, _, _, TT⟩ := C.T
  have hg : plainGet (hd.heap_39 w.params) 321 (Str.ofString "baseTag") = true := by k_is
  have hh : hasDictIn (hd.heap_39 w.params) 321 = true := by k_is
  obtain ⟨⟨h1, h2, h3, h4, k1, k2, k3, k4, st, sc, tn, dx, e1, e2, e3, e4⟩, e5⟩ := id T
  refine' get_bind X ⟨e1, rfl, rfl, e2⟩ (plainGet_of hg).1 (findObj_data (by obtain ⟨cd, hc, _⟩ := any_some hh; rw [hc]; rfl) ?ha ?hn ?ht) (plainGet_of hg).2 (wpAny_call (prop_get (s := { s with toks := s.toks + 1 }) X ?hp ?hcode))
  case ha => k_is
  case hn => k_is
  case ht => k_is
  case hp => k_is
  case hcode =>
    refine' codeAny_mono (code_fn (s := { s with toks := s.toks + 1 }) (P := fun v s' => (v = base) ∧ handedIn v = true) C hA.in1 ?ho ?hcd ?hb ?hl ?hc ?c1 ?c2 ?c3 ?_) ?_
    case ho => k_is
    case hcd => k_is
    case hb => exact BindsTo.of_eq rfl
    case hl => exact locs rfl
    case hc => decide
    case c1 => rfl
    case c2 => rfl
    case c3 => rfl
    · intro L s₀ k₀ F hA'
      walk1; walk1; walk1; walk1
      refine' baseTag_own ?hx ?ht hv ?_
      case hx => exact X.keeps F.keep
      case ht => exact T.keep F.keep
      exact ⟨k₀.toks, rfl, hv⟩
    · intro r s' hr
      cases r with
      | error e => exact hr.elim
      | ok fl =>
        cases fl with
        | ret v =>
          obtain ⟨hk, hp, hv⟩ := hr
          exact handed_on hv ⟨Kp.trans (Kp.heap fun _ _ e => e) hk, hp⟩
        | _ => exact hr.elim
theorem superTags_get {k : Nat} (C : Cx w s.heap) (hA : Sm (k + 2) A) (T : SetIs s.heap a base zs ds)  : Gv w A (getAttr (.ref a) (Str.ofString "superTags") true) (fun v s' => ∃ st, v = .ref st ∧ s'.heap.get? st = some (tupObj zs)) s := by
  have X := C.X
  obtain ⟨_, _, _, TT⟩ := C.T
  have hg : plainGet (hd.heap_39 w.params) 321 (Str.ofString "superTags") = true := by k_is
  have hh : hasDictIn (hd.heap_39 w.params) 321 = true := by k_is
  obtain ⟨⟨h1, h2, h3, h4, k1, k2, k3, k4, st, sc, tn, dx, e1, e2, e3, e4⟩, e5⟩ := id T
  refine' get_bind X ⟨e1, rfl, rfl, e2⟩ (plainGet_of hg).1 (findObj_data (by obtain ⟨cd, hc, _⟩ := any_some hh; rw [hc]; rfl) ?ha ?hn ?ht) (plainGet_of hg).2 (wpAny_call (prop_get (s := { s with toks := s.toks + 1 }) X ?hp ?hcode))
  case ha => k_is
  case hn => k_is
  case ht => k_is
  case hp => k_is
  case hcode =>
    refine' codeAny_mono (code_fn (s := { s with toks := s.toks + 1 }) (P := fun v s' => (∃ st, v = .ref st ∧ s'.heap.get? st = some (tupObj zs)) ∧ handedIn v = true) C hA.in1 ?ho ?hcd ?hb ?hl ?hc ?c1 ?c2 ?c3 ?_) ?_
    case ho => k_is
    case hcd => k_is
    case hb => exact BindsTo.of_eq rfl
    case hl => exact locs rfl
    case hc => decide
    case c1 => rfl
    case c2 => rfl
    case c3 => rfl
    · intro L s₀ k₀ F hA'
      walk1; walk1; walk1; walk1
      refine' superTags_own ?hx ?ht  ?_
      case hx => exact X.keeps F.keep
      case ht => exact T.keep F.keep
      exact fun st hst => ⟨k₀.toks, ⟨st, rfl, hst⟩, rfl⟩
    · intro r s' hr
      cases r with
      | error e => exact hr.elim
      | ok fl =>
        cases fl with
        | ret v =>
          obtain ⟨hk, hp, hv⟩ := hr
          exact handed_on hv ⟨Kp.trans (Kp.heap fun _ _ e => e) hk, hp⟩
        | _ => exact hr.elim
/-- len(tag set) -/
theorem set_len (C : Cx w s.heap) (hA : Sm 5 A) (T : SetIs s.heap a base zs ds) (hz : zs.length ≤ 5) : Gv w A (call (.builtin "len") [.ref a]) (fun v _ => ∃ t, v = .int zs.length t) s := by
  have key : Gv w A.in1 (call (.ref 281) [.ref a]) (fun v _ => ∃ t, v = .int zs.length t) s := by
    have X := C.X
    obtain ⟨_, _, _, TT⟩ := C.T
    refine call_fn (binds := [(Str.ofString "self", .ref a)]) C hA.in1 (by k_is) (by k_is) (by exact BindsTo.of_eq rfl) (by exact locs rfl) (by decide) (by rfl) (by rfl) (by rfl) fun L s₀ k₀ F hA' => ?_
    refine wpAny_execs_cons (wpAny_Return_some ?_)
    ktr_rel
    exact lenOfSuperTags_own (X.keeps F.keep) (T.keep F.keep) fun t => ⟨k₀.toks, t, rfl⟩
  obtain ⟨h₀, L, m, F, X₀⟩ := C.B
  obtain ⟨dx, od, I⟩ := T.inst
  have h1 : findIn (hd.heap_39 w.params) (.ref 321) "__len__" = some (some (.ref 281)) := by k_is
  have h2 : isFn (hd.heap_39 w.params) (.ref 281) = true := by k_is
  refine W.len_K F X₀ I h1 h2 (key.use fun v s' hk hv => ?_)
  obtain ⟨t, rfl⟩ := hv
  refine ⟨⟨by omega, by omega⟩, ?_⟩
  exact ⟨hk.toks, _, rfl⟩
theorem len_body {x f : Addr} {ox : Obj} {od : Option Obj} {Q : Fin → Shared → Prop} {h₀ : Heap} {L : Addr} {m : Str → Option Value} (F : Fr h₀ L s.heap m) (X₀ : (hd.heap_39 w.params).In h₀) (I : InstAt s.heap x ox 321 od) (hs : findIn (hd.heap_39 w.params) (.ref 321) "__len__" = some (some (.ref f))) (hf : isFn (hd.heap_39 w.params) (.ref f) = true)
    (h : wpAny (M w) A (call (.ref f) [.ref x]) (W.LenBack fun v s' => Q (.done (.ret v)) s') E s) : wpAny (M w) A (Builtin.«len» ⟨[.ref x], []⟩) Q E s := by
  unfold Builtin.«len»
  refine wpAny_bind (wpAny_pure ?_)
  refine wpAny_bind (m := callSpecial? (.ref x) (Str.ofString "__len__")) (special_fn (X₀.keeps F.keep) I hs (beq_iff_eq.mp hf) (wpAny_mono h (fun r s' hr => ?_) fun _ _ y => y))
  cases r <;> first | exact hr.elim | skip
  rename_i n u
  obtain ⟨⟨h0, h1⟩, hq⟩ := hr
  refine wpAny_bind (wpAny_holding (wpAny_pure ?_))
  refine wpAny_bind (wpAny_letGo ?_)
  show wpAny _ _ (if n < 0 then _ else _) _ _ _
  rw [if_neg (by omega)]
  show wpAny _ _ (if n ≥ 2 ^ 63 then _ else _) _ _ _
  rw [if_neg (by omega)]
  exact wpAny_bind (wpAny_mkInt (wpAny_pure hq))
theorem set_truthy (C : Cx w s.heap) (hA : Sm 5 A) (T : SetIs s.heap a base zs ds) (hz : zs.length ≤ 5) : Gv w A (truthy (.ref a)) (fun b _ => b = decide (0 < zs.length)) s := by
  obtain ⟨h₀, L, m, F, X₀⟩ := C.B
  obtain ⟨dx, od, I⟩ := T.inst
  have X := C.X
  have h0 : findIn (hd.heap_39 w.params) (.ref 321) "__bool__" = some none := by k_is
  have h1 : findIn (hd.heap_39 w.params) (.ref 321) "__len__" = some (some (.ref 281)) := by k_is
  have h2 : isFn (hd.heap_39 w.params) (.ref 281) = true := by k_is
  have key : Gv w A.in1 (call (.ref 281) [.ref a]) (fun v _ => ∃ t, v = .int zs.length t) s := by
    have X := C.X
    obtain ⟨_, _, _, TT⟩ := C.T
    refine call_fn (binds := [(Str.ofString "self", .ref a)]) C hA.in1 (by k_is) (by k_is) (by exact BindsTo.of_eq rfl) (by exact locs rfl) (by decide) (by rfl) (by rfl) (by rfl) fun L s₀ k₀ F hA' => ?_
    refine wpAny_execs_cons (wpAny_Return_some ?_)
    ktr_rel
    exact lenOfSuperTags_own (X.keeps F.keep) (T.keep F.keep) fun t => ⟨k₀.toks, t, rfl⟩
  show wpAny _ _ _ _ _ _
  unfold truthy
  refine wpAny_bind (m := callSpecial? (.ref a) (Str.ofString "__bool__")) (wpAny_bind (wpAny_bind (I.type.here ((looks_findIn X h0).here (wpAny_pure ?_)))))
  refine wpAny_bind (wpAny_bind (I.type.here ((looks_findIn X h1).here ?_)))
  refine wpAny_bind (wpAny_runValue (codeAny_builtin entry_len ?_))
  rw [Around.under_plainId plain_len _]
  refine len_body F X₀ I h1 h2 (key.use fun v s' hk hv => ?_)
  obtain ⟨t, rfl⟩ := hv
  refine ⟨⟨by omega, by omega⟩, ?_⟩
  show wpAny _ _ _ _ _ _
  refine wpAny_pure ⟨hk.toks, ?_⟩
  by_cases hn : zs.length = 0
  · simp [hn]
  · have : 0 < zs.length := by omega
    simp [hn, this]
/-- bool(tag set) -/
theorem set_bool (C : Cx w s.heap) (hA : Sm 8 A) (T : SetIs s.heap a base zs ds) (hz : zs.length ≤ 5) : Gv w A (call (.type "bool") [.ref a]) (fun v _ => v = .bool (decide (0 < zs.length))) s := by
  refine callType_codes (Q₁ := fun obj s₁ => s₁.TypeIs obj "bool" ∧ (Kp s s₁ ∧ obj = .bool (decide (0 < zs.length)))) F.called_bool (F.typeCall_bool_1 _) F.entry_object_init ?_ fun obj s₁ h₁ => ?_
  · refine codeAny_of_tree ?_
    show wpAny _ A.in1.in1 (do checkBuiltinCall "bool.__new__" ⟨[.type "bool", .ref a], []⟩; again (.builtin "bool.__new__" ⟨[.type "bool", .ref a], []⟩)) _ _ s
    refine wpAny_bind (wpAny_of_eq (F.newCall_bool_1 _) (wpAny_pure ⟨plainId_quiet (by decide +kernel) _, codeAny_builtin F.entry_bool_new ?_⟩))
    rw [Around.under_plainId (by decide +kernel) _]
    have f1 := F.conv_sub_bool
    have ht : ∀ {Q : Bool → Shared → Prop} {E : Value → Shared → Prop}, (∀ s', Kp s s' → Q (decide (0 < zs.length)) s') → wpAny (M w) A.in1.in1 (truthy (.ref a)) Q E s := fun {Q E} h =>
      (set_truthy C ((hA.lower (k := 8) (j := 7) (by omega)).in1.in1) T hz).use fun b s' hk hb => by subst hb; exact h s' hk
    wp_walk using ht
    intro s' hk
    exact wpAny_pure ⟨rfl, hk, rfl⟩
  · exact ⟨h₁.1, F.args_object_init_2 obj _, object_init_meets F.called_bool.init.lookup F.called_bool.made (by decide) _ w A.in1 _ s₁ ⟨h₁.1, rfl, h₁.2⟩⟩
end
end Mine
end
section
set_option maxRecDepth 100000
set_option maxHeartbeats 4000000
open PySem PySem.W PyProof.Rows
namespace Mine
open PySem.SeqAt
open PyProof.Rows.LCg (lst lst_snoc)
local macro_rules | `(tactic| ktr_rel) => `(tactic| repeat ((fail_if_success (first | with_reducible show wpAny _ _ (call _ _ _) _ _ _ | with_reducible show wpAny _ _ (eval (Expr.ListComp _ _ _ _) _) _ _ _ | with_reducible show wpAny _ _ (compareOp _ (Value.ref _) _) _ _ _ | with_reducible show wpAny _ _ (compareOp _ _ (Value.ref _)) _ _ _ | with_reducible show wpAny _ _ (getAttr (Value.ref _) _ _) _ _ _ | with_reducible show wpAny _ _ (subscriptTail _ _ _ _) _ _ _ | with_reducible show wpAny _ _ (binaryOp _ (Value.ref _) _) _ _ _)); walk1))
local macro_rules | `(tactic| tb_start) => `(tactic| first
  | (with_reducible refine' tagClass_own ?zX ?zT ?_; (case zX => k_in); (case zT => exact TagIs.keep (by assumption) (Fr.keep (by assumption))))
  | (with_reducible refine' tagFormat_own ?zX ?zT ?_; (case zX => k_in); (case zT => exact TagIs.keep (by assumption) (Fr.keep (by assumption))))
  | (with_reducible refine' tagId_own ?zX ?zT ?_; (case zX => k_in); (case zT => exact TagIs.keep (by assumption) (Fr.keep (by assumption))))
  | (with_reducible refine' tagClassId_own ?zX ?zT ?_; (case zX => k_in); (case zT => exact TagIs.keep (by assumption) (Fr.keep (by assumption))))
  | (with_reducible refine' tagClass_use ?zC ?zA ?zT ?_; (case zC => exact Cx.keep (by assumption) (Fr.keep (by assumption))); (case zA => exact Sm.lower (by assumption) (by omega)); (case zT => exact TagIs.keep (by assumption) (Fr.keep (by assumption))); intro s₁ k₁; (have F := Fr.keeps (by assumption) (Kp.keep k₁)))
  | (with_reducible refine' tagFormat_use ?zC ?zA ?zT ?_; (case zC => exact Cx.keep (by assumption) (Fr.keep (by assumption))); (case zA => exact Sm.lower (by assumption) (by omega)); (case zT => exact TagIs.keep (by assumption) (Fr.keep (by assumption))); intro s₁ k₁; (have F := Fr.keeps (by assumption) (Kp.keep k₁)))
  | (with_reducible refine' tagId_use ?zC ?zA ?zT ?_; (case zC => exact Cx.keep (by assumption) (Fr.keep (by assumption))); (case zA => exact Sm.lower (by assumption) (by omega)); (case zT => exact TagIs.keep (by assumption) (Fr.keep (by assumption))); intro s₁ k₁; (have F := Fr.keeps (by assumption) (Kp.keep k₁))))
local macro_rules | `(tactic| tb_rel) => `(tactic| first | assumption | exact Kp.refl _ | (refine Kp.trans ?_ (by assumption); tb_rel) | (refine Kp.toks ?_; tb_rel))
local macro_rules | `(tactic| ktd_rel) => `(tactic| repeat' ((first | with_reducible show wpAny _ _ _ _ _ _ | with_reducible show (if _ then _ else _)); walk1))
section
variable {w : World} {A : Around} {S s s' : Shared} {L : Addr} {B : Heap} {m : Str → Option Value} {sl : Addr} {vs : List Value} {ns : List Int}
local macro_rules | `(tactic| kpf_close) => `(tactic| first | assumption | exact if_pos rfl | (refine Eq.trans (if_neg (by decide)) ?_; kpf_close))
local macro_rules | `(tactic| kwd_rel) => `(tactic| repeat' (first
  | ((with_reducible show wpAny _ _ (eval (Expr.Name (Str.ofString "script") _) _) _ _ _); first | refine law_script (by assumption) (by assumption) ?_ | refine law_script (LF.base (by assumption)) (by assumption) ?_)
  | ((with_reducible show wpAny _ _ (eval (Expr.Name _ _) _) _ _ _); refine law_ld (by assumption) (by kpf_close) ?_)
  | ((with_reducible show wpAny _ _ (compareOp CmpOp.NotEq (Value.int _ _) (Value.int _ _)) _ _ _); with_reducible refine ne_int_same ?_)
  | ((with_reducible show wpAny _ _ (compareOp CmpOp.NotEq (Value.str _ _) (Value.str _ _)) _ _ _); first | with_reducible refine ne_str_same ?_ | refine ne_str_eq (by decide) ?_)
  | ((with_reducible show wpAny _ _ (subscriptTail _ _ (Value.ref _) (Value.int 0 _)) _ _ _); first | refine sub3_0 (by assumption) ?_ | refine sub2_0 (by assumption) ?_)
  | ((with_reducible show wpAny _ _ (subscriptTail _ _ (Value.ref _) (Value.int 1 _)) _ _ _); first | refine sub3_1 (by assumption) ?_ | refine sub2_1 (by assumption) ?_)
  | ((with_reducible show wpAny _ _ (subscriptTail _ _ (Value.ref _) (Value.int 2 _)) _ _ _); refine sub3_2 (by assumption) ?_)
  | ((fail_if_success (first | with_reducible show wpAny _ _ (call _ _ _) _ _ _ | with_reducible show wpAny _ _ (eval (Expr.Name (Str.ofString "script") _) _) _ _ _ | with_reducible show wpAny _ _ (eval (Expr.ListComp _ _ _ _) _) _ _ _ | with_reducible show wpAny _ _ (compareOp _ (Value.ref _) _) _ _ _ | with_reducible show wpAny _ _ (compareOp _ _ (Value.ref _)) _ _ _ | with_reducible show wpAny _ _ (getAttr (Value.ref _) _ _) _ _ _ | with_reducible show wpAny _ _ (subscriptTail _ _ _ _) _ _ _ | with_reducible show wpAny _ _ (binaryOp _ (Value.ref _) _) _ _ _)); (first | with_reducible show wpAny _ _ _ _ _ _ | with_reducible show (if _ then _ else _)); walk1)))
local macro_rules | `(tactic| kln_le) => `(tactic| repeat' (first
  | ((with_reducible show wpAny _ _ (eval (Expr.Name _ _) _) _ _ _); refine cm_L (by assumption) (by assumption) rfl ?_)
  | ((with_reducible show wpAny _ _ (eval (Expr.Name (Str.ofString "script") _) _) _ _ _); refine cm_C (by assumption) rfl rfl ?_)
  | ((with_reducible show wpAny _ _ (eval (Expr.Name _ _) _) _ _ _); refine cm_G (by assumption) (by k_is) rfl ?_)
  | ((with_reducible show wpAny _ _ (eval (Expr.Name _ _) _) _ _ _); fail "a name")
  | ((with_reducible show wpAny _ _ (subscriptTail _ _ (Value.ref _) (Value.int 0 _)) _ _ _); refine sub3_0 (by assumption) ?_)
  | ((with_reducible show wpAny _ _ (subscriptTail _ _ (Value.ref _) (Value.int 1 _)) _ _ _); refine sub3_1 (by assumption) ?_)
  | ((with_reducible show wpAny _ _ (subscriptTail _ _ (Value.ref _) (Value.int 2 _)) _ _ _); refine sub3_2 (by assumption) ?_)
  | ((fail_if_success (first | with_reducible show wpAny _ _ (call _ _ _) _ _ _ | with_reducible show wpAny _ _ (eval (Expr.ListComp _ _ _ _) _) _ _ _ | with_reducible show wpAny _ _ (eval (Expr.Name _ _) _) _ _ _ | with_reducible show wpAny _ _ (compareOp _ (Value.ref _) _) _ _ _ | with_reducible show wpAny _ _ (compareOp _ _ (Value.ref _)) _ _ _ | with_reducible show wpAny _ _ (getAttr (Value.ref _) _ _) _ _ _ | with_reducible show wpAny _ _ (subscriptTail _ _ _ _) _ _ _ | with_reducible show wpAny _ _ (binaryOp _ (Value.ref _) _) _ _ _)); (first | with_reducible show wpAny _ _ _ _ _ _ | with_reducible show (if _ then _ else _)); walk1)))
/-- two tuples of the same items -/
theorem rc_same {A : Around} {s : Shared} {op : CmpOp} (ho : ord op = true) {q r : Addr} {zs : List Value} (hq : s.heap.get? q = some (tupObj zs)) (hr : s.heap.get? r = some (tupObj zs)) (hu : A.units < cLine) :
    RcOp A s op (.ref q) (.ref r) (lexAns op (fun _ => true) (fun _ => false) zs.length zs.length (List.range (min zs.length zs.length))) := by
  have := rc_tuples (A := A) (s := s) ho (items := zs.toArray) (items2 := zs.toArray) (e := fun _ => true) (r := fun _ => false) hq hr hu (fun j h1 h2 => EqAt.same _) (fun j h1 h2 h => by cases h)
  simpa using this
theorem firstOff_true : ∀ js : List Nat, firstOff (fun _ => true) js = none
  | [] => rfl
  | j :: r => by simp [firstOff, firstOff_true r]
theorem ne_same {A : Around} {s : Shared} {q r : Addr} {zs : List Value} {E Q : Value → Shared → Prop} (hq : s.heap.get? q = some (tupObj zs)) (hr : s.heap.get? r = some (tupObj zs)) (hA : Sm 1 A) (h : Q (.bool false) s) :
    wpAny (M w) A (compareOp .NotEq (.ref q) (.ref r)) Q E s := by
  rw [ce_ord rfl]
  refine rc_same rfl hq hr hA.cl _ _ _ _ ?_
  simp only [lexAns, firstOff_true]
  simpa using h
theorem st19 {Q : Flow → Shared → Prop} {E : Value → Shared → Prop} {a p d tl rl q1 : Addr} {c1 f1 n1 : Int} {t1 t2 t3 v1 v2 v3 : Tok} {zs ys : List Value} {ds : List Trip} (l : LF w S L B m s) (hA : Sm 19 A)
    (hm1 : m (Str.ofString "made") = some (.ref d)) (hm2 : m (Str.ofString "one") = some (.ref a)) (hm3 : m (Str.ofString "first") = some (.ref q1)) (hm4 : m (Str.ofString "tags") = some (.ref tl)) (hm5 : m (Str.ofString "rows") = some (.ref rl))
    (H : SetIs B d (.ref a) zs ds) (T1 : TagIs B a c1 f1 n1 t1 t2 t3 p) (hq1 : B.get? q1 = some (tupObj [.int c1 v1, .int f1 v2, .int n1 v3])) (ht : B.get? tl = some (lst zs)) (hr : B.get? rl = some (lst ys)) (hl : ys.length = zs.length) (hlen : zs.length ≤ 4)
    (h : ∀ s', LF w S L B m s' → Q .next s') :
    wpAny (M w) A (exec (lawStmt 19) (lawEnv L)) Q E s := by
  conv in (lawStmt 19) => whnf
  have X := l.X
  obtain ⟨_, _, _, TT⟩ := l.T
  have F := l.F
  kwd_rel
  refine Gv.use (baseTag_get (k := 5) (by exact l.cx) (hA.lower (by omega)) (H.keep l.base) rfl) fun v s₁ k₁ hv => ?_
  subst hv
  have l := l.kp2 k₁
  have F := l.F
  kwd_rel
  rw [ce_ord rfl]
  refine Gv.use (cmp_key (k := 5) (d := .pair (c1, n1)) (e := .pair (c1, n1)) (by exact l.cx) (hA.lower (by omega)) rfl (cls_Tag w) ((tagKey T1).keep l.base) ((tagKey T1).keep l.base) trivial) fun v s₂ k₂ hv => ?_
  subst hv
  have l := l.kp2 k₂
  have F := l.F
  rw [cmpCK_ne_self]
  kwd_rel
  refine Gv.use (baseTag_get (k := 5) (by exact l.cx) (hA.lower (by omega)) (H.keep l.base) rfl) fun v s₁ k₁ hv => ?_
  subst hv
  have l := l.kp2 k₁
  have F := l.F
  kwd_rel
  refine tagFormat_use (by exact l.cx) (hA.lower (by omega)) (T1.keep l.base) fun s₂ k₂ => ?_
  have l := l.kp2 k₂
  have F := l.F
  have e1 := l.base _ _ hq1
  kwd_rel
  refine Gv.use (superTags_get (k := 5) (by exact l.cx) (hA.lower (by omega)) (H.keep l.base)) fun v s₁ k₁ hv => ?_
  obtain ⟨st, rfl, hst⟩ := hv
  have l := l.kp2 k₁
  have F := l.F
  kwd_rel
  refine tup_of_list (l.base _ _ ht) (by omega) fun q s₂ k₂ hq => ?_
  have hst := k₂.keep _ _ hst
  have l := l.kp2 k₂
  have F := l.F
  refine ne_same hst hq (hA.lower (by omega)) ?_
  kwd_rel
  refine Gv.use (set_len (by exact l.cx) (hA.lower (by omega)) (H.keep l.base) (by omega)) fun v s₁ k₁ hv => ?_
  obtain ⟨t4, rfl⟩ := hv
  have l := l.kp2 k₁
  have F := l.F
  kwd_rel
  refine Calls.call_len_list (lst_isList (l.base _ _ hr)) (by rw [List.size_toArray]; omega) ?_
  rw [List.size_toArray, hl]
  kwd_rel
  refine Gv.use (set_bool (by exact l.cx) (hA.lower (by omega)) (H.keep l.base) (by omega)) fun v s₁ k₁ hv => ?_
  subst hv
  have l := l.kp2 k₁
  have F := l.F
  kwd_rel
  refine Calls.call_len_list (lst_isList (l.base _ _ hr)) (by rw [List.size_toArray]; omega) ?_
  rw [List.size_toArray, hl]
  kwd_rel
  · exfalso
    rename_i hb
    simp at hb
  · exact h _ l.tk
end
end Mine
end
section
set_option maxRecDepth 100000
set_option maxHeartbeats 4000000
open PySem PySem.W PyProof.Rows
namespace Mine
open PyProof.Rows.LCg (lst lst_snoc)
local macro_rules | `(tactic| ktr_rel) => `(tactic| repeat ((fail_if_success (first | with_reducible show wpAny _ _ (call _ _ _) _ _ _ | with_reducible show wpAny _ _ (eval (Expr.ListComp _ _ _ _) _) _ _ _ | with_reducible show wpAny _ _ (compareOp _ (Value.ref _) _) _ _ _ | with_reducible show wpAny _ _ (compareOp _ _ (Value.ref _)) _ _ _ | with_reducible show wpAny _ _ (getAttr (Value.ref _) _ _) _ _ _ | with_reducible show wpAny _ _ (subscriptTail _ _ _ _) _ _ _ | with_reducible show wpAny _ _ (binaryOp _ (Value.ref _) _) _ _ _)); walk1))
local macro_rules | `(tactic| tb_start) => `(tactic| first
  | (with_reducible refine' tagClass_own ?zX ?zT ?_; (case zX => k_in); (case zT => exact TagIs.keep (by assumption) (Fr.keep (by assumption))))
  | (with_reducible refine' tagFormat_own ?zX ?zT ?_; (case zX => k_in); (case zT => exact TagIs.keep (by assumption) (Fr.keep (by assumption))))
  | (with_reducible refine' tagId_own ?zX ?zT ?_; (case zX => k_in); (case zT => exact TagIs.keep (by assumption) (Fr.keep (by assumption))))
  | (with_reducible refine' tagClassId_own ?zX ?zT ?_; (case zX => k_in); (case zT => exact TagIs.keep (by assumption) (Fr.keep (by assumption))))
  | (with_reducible refine' tagClass_use ?zC ?zA ?zT ?_; (case zC => exact Cx.keep (by assumption) (Fr.keep (by assumption))); (case zA => exact Sm.lower (by assumption) (by omega)); (case zT => exact TagIs.keep (by assumption) (Fr.keep (by assumption))); intro s₁ k₁; (have F := Fr.keeps (by assumption) (Kp.keep k₁)))
  | (with_reducible refine' tagFormat_use ?zC ?zA ?zT ?_; (case zC => exact Cx.keep (by assumption) (Fr.keep (by assumption))); (case zA => exact Sm.lower (by assumption) (by omega)); (case zT => exact TagIs.keep (by assumption) (Fr.keep (by assumption))); intro s₁ k₁; (have F := Fr.keeps (by assumption) (Kp.keep k₁)))
  | (with_reducible refine' tagId_use ?zC ?zA ?zT ?_; (case zC => exact Cx.keep (by assumption) (Fr.keep (by assumption))); (case zA => exact Sm.lower (by assumption) (by omega)); (case zT => exact TagIs.keep (by assumption) (Fr.keep (by assumption))); intro s₁ k₁; (have F := Fr.keeps (by assumption) (Kp.keep k₁))))
local macro_rules | `(tactic| tb_rel) => `(tactic| first | assumption | exact Kp.refl _ | (refine Kp.trans ?_ (by assumption); tb_rel) | (refine Kp.toks ?_; tb_rel))
local macro_rules | `(tactic| ktd_rel) => `(tactic| repeat' ((first | with_reducible show wpAny _ _ _ _ _ _ | with_reducible show (if _ then _ else _)); walk1))
section
variable {w : World} {A : Around} {s : Shared}
theorem adjust_kms (lo hi : Option Int) (n : Nat) : Builtin.Slice.sliceAdjust lo hi 1 (n : Int) = (((kms_lo lo n : Nat) : Int), ((kms_hi hi n : Nat) : Int)) := by
  unfold Builtin.Slice.sliceAdjust
  have h1 : ¬ ((1 : Int) < 0) := by omega
  simp only [h1, if_false]
  refine Prod.ext ?_ ?_
  · cases lo with
    | none => simp [kms_lo]
    | some x =>
      by_cases h : x < 0
      · simp only [kms_lo, if_pos h]; omega
      · simp only [kms_lo, if_neg h]; omega
  · cases hi with
    | none => simp [kms_hi]
    | some x =>
      by_cases h : x < 0
      · simp only [kms_hi, if_pos h]; omega
      · simp only [kms_hi, if_neg h]; omega
theorem places_nat (a b : Nat) : Builtin.Slice.slicePlaces (a : Int) (b : Int) 1 = b - a := by
  unfold Builtin.Slice.slicePlaces
  have h1 : (1 : Int) > 0 := by omega
  simp only [h1, if_true, Int.ediv_one]
  split <;> omega
theorem part_is {v : Value} {p : Option Int} {E : Value → Shared → Prop} {Q : Option Int → Shared → Prop} (hp : IsPart v p) (h : Q p s) : wpAny (M w) A (Builtin.Slice.slicePartIndex v) Q E s := by
  cases hp with
  | none => exact slicePart_none h
  | int i t => exact slicePart_int h
theorem applied {sl : Addr} {vl vu : Value} {lo hi : Option Int} {n : Nat} {E : Value → Shared → Prop} {Q : Int × Int × Nat → Shared → Prop} (hs : s.heap.IsSliceOf sl vl vu .none) (pl : IsPart vl lo) (pu : IsPart vu hi) (h : Q ((kms_lo lo n : Nat), 1, kms_hi hi n - kms_lo lo n) s) :
    wpAny (M w) A (Builtin.Slice.sliceApplied (.ref sl) (pure (n : Int))) Q E s := by
  obtain ⟨os, hos, hcs, hds⟩ := id hs
  unfold Builtin.Slice.sliceApplied Builtin.Slice.sliceFields
  refine wpAny_bind (wpAny_bind (wpAny_field hos hds (x := vl) rfl (wpAny_bind (wpAny_field hos hds (x := vu) rfl (wpAny_bind (wpAny_field hos hds (x := .none) rfl (wpAny_pure ?_)))))))
  refine wpAny_bind (slicePart_none ?_)
  show wpAny _ _ (if ((1 : Int) == 0) = true then _ else _) _ _ s
  rw [if_neg (by decide)]
  refine wpAny_bind (part_is pl (wpAny_bind (part_is pu (wpAny_bind (wpAny_pure ?_)))))
  show wpAny _ _ (match Builtin.Slice.sliceAdjust lo hi 1 (n : Int) with | (lo, hi) => pure (lo, (1 : Int), Builtin.Slice.slicePlaces lo hi 1)) _ _ s
  rw [adjust_kms]
  show wpAny _ _ (pure (((kms_lo lo n : Nat) : Int), (1 : Int), Builtin.Slice.slicePlaces ((kms_lo lo n : Nat) : Int) ((kms_hi hi n : Nat) : Int) 1)) _ _ s
  rw [places_nat]
  exact wpAny_pure h
theorem pick_nat (xs : Array Value) (a n : Nat) : ((List.range n).filterMap fun (k : Nat) => xs[((a : Int) + (k : Int) * 1).toNat]?).toArray = ((xs.toList.drop a).take n).toArray := by
  have e : (fun (k : Nat) => xs[((a : Int) + (k : Int) * 1).toNat]?) = fun k => xs[a + k]? := by
    funext k
    have : ((a : Int) + (k : Int) * 1).toNat = a + k := by omega
    rw [this]
  rw [e]
  have := pick_run xs a n
  rw [List.filterMap_map] at this
  have e2 : ((fun x => xs[x]?) ∘ fun x => a + x) = fun k => xs[a + k]? := rfl
  rw [e2] at this
  rw [this]
theorem kms_whole {lo hi : Option Int} {l : List Value} (h1 : kms_lo lo l.length = 0) (h2 : kms_hi hi l.length - kms_lo lo l.length = l.length) : kms_pick l lo hi = l := by
  unfold kms_pick
  rw [h2, h1, List.drop_zero, List.take_length]
/-- a cut of a tuple -/
theorem cut_tuple' {t sl : Addr} {items : List Value} {e : Nat} {vl vu : Value} {lo hi : Option Int} {E Q : Value → Shared → Prop} (ht : s.heap.get? t = some (tupObj items e)) (hs : s.heap.IsSliceOf sl vl vu .none) (pl : IsPart vl lo) (pu : IsPart vu hi) (hz : items.length ≤ 1000)
    (h : ∀ q s' e', (e' = e ∨ e' = 0) → Kp s s' → s'.heap.get? q = some (tupObj (kms_pick items lo hi) e') → Q (.ref q) s') : wpAny (M w) A (getItem (.ref t) (.ref sl)) Q E s := by
  obtain ⟨os, hos, hcs, hds⟩ := id hs
  have hTs : s.TypeIs (.ref sl) "slice" := ⟨os, hos, hcs⟩
  have hT := isTup ht
  unfold getItem
  try with_reducible refine wpAny_holding ?_
  first | refine wpAny_bind (wpAny_pure ?_) | skip
  refine wpAny_bind (wpAny_sequenceKey hT.typeIs (by decide) ?_)
  refine wpAny_bind (wpAny_callSpecial?_slot (name := Str.ofString "__getitem__") hT.typeIs slot_tuple_getitem
    (wpAny_call_entry slot_tuple_getitem hT.typeIs entry_tuple_getitem ?_ (args_tuple_getitem _ _)))
  show wpAny _ _ (Builtin.Tuple.tupleItemsOf (.ref t) >>= _) _ _ s
  refine wpAny_bind (tupleItemsOf_ hT ?_)
  refine wpAny_bind (wpAny_typeOf hTs ?_)
  rw [if_pos (by decide)]
  refine wpAny_bind (applied hs pl pu ?_)
  have hsize : items.toArray.size = items.length := List.size_toArray
  show wpAny _ _ (if (((kms_lo lo items.toArray.size : Nat) : Int) == 0 && (1 : Int) == 1 && (kms_hi hi items.toArray.size - kms_lo lo items.toArray.size) == items.toArray.size) = true then _ else _) _ _ s
  rw [hsize]
  by_cases hw : (((kms_lo lo items.length : Nat) : Int) == 0 && (1 : Int) == 1 && (kms_hi hi items.length - kms_lo lo items.length) == items.length) = true
  · rw [if_pos hw]
    simp only [Bool.and_eq_true, beq_iff_eq] at hw
    have hp : kms_pick items lo hi = items := kms_whole (by omega) hw.2
    have := h t s e (.inl rfl) (Kp.refl s) (by rw [hp]; exact ht)
    unfold Builtin.Tuple.tupleIsExact
    refine wpAny_bind (wpAny_bind (wpAny_typeOf hT.typeIs (wpAny_pure ?_)))
    rw [if_pos (by decide)]
    exact wpAny_bind (wpAny_rule (wpAny_pure ⟨_, rfl, wpAny_pure this⟩))
  · rw [if_neg hw, pick_nat]
    have hlen : (kms_pick items lo hi).length ≤ 1000 := by
      unfold kms_pick
      rw [List.length_take, List.length_drop]
      omega
    have hdrop : sizeOk (.seq (kms_pick items lo hi).toArray) := by
      show (kms_pick items lo hi).toArray.size ≤ sizeLine
      rw [List.size_toArray, sizeLine_eq]
      omega
    exact wpAny_bind (m := Builtin.Tuple.tupleExact (kms_pick items lo hi).toArray) (wpAny_newObj_type (wpAny_pure ⟨_, rfl, wpAny_pure (h _ _ 0 (.inr rfl) (Kp.heap fun _ _ e => Heap.get?_push_of_some _ e) (Heap.get?_push_size _ rfl))⟩) hdrop)
theorem cut_tuple {t sl : Addr} {items : List Value} {vl vu : Value} {lo hi : Option Int} {E Q : Value → Shared → Prop} (ht : s.heap.get? t = some (tupObj items)) (hs : s.heap.IsSliceOf sl vl vu .none) (pl : IsPart vl lo) (pu : IsPart vu hi) (hz : items.length ≤ 1000)
    (h : ∀ q s', Kp s s' → s'.heap.get? q = some (tupObj (kms_pick items lo hi)) → Q (.ref q) s') : wpAny (M w) A (getItem (.ref t) (.ref sl)) Q E s :=
  cut_tuple' ht hs pl pu hz fun q s' e' he hk hq => by
    have : e' = 0 := by rcases he with h | h <;> exact h
    subst this
    exact h q s' hk hq
end
end Mine
end
section
set_option maxRecDepth 100000
set_option maxHeartbeats 4000000
open PySem PySem.W PyProof.Rows
namespace Mine
open PyProof.Rows.LCg (lst lst_snoc)
local macro_rules | `(tactic| ktr_rel) => `(tactic| repeat ((fail_if_success (first | with_reducible show wpAny _ _ (call _ _ _) _ _ _ | with_reducible show wpAny _ _ (eval (Expr.ListComp _ _ _ _) _) _ _ _ | with_reducible show wpAny _ _ (compareOp _ (Value.ref _) _) _ _ _ | with_reducible show wpAny _ _ (compareOp _ _ (Value.ref _)) _ _ _ | with_reducible show wpAny _ _ (getAttr (Value.ref _) _ _) _ _ _ | with_reducible show wpAny _ _ (subscriptTail _ _ _ _) _ _ _ | with_reducible show wpAny _ _ (binaryOp _ (Value.ref _) _) _ _ _)); walk1))
local macro_rules | `(tactic| tb_start) => `(tactic| first
  | (with_reducible refine' tagClass_own ?zX ?zT ?_; (case zX => k_in); (case zT => exact TagIs.keep (by assumption) (Fr.keep (by assumption))))
  | (with_reducible refine' tagFormat_own ?zX ?zT ?_; (case zX => k_in); (case zT => exact TagIs.keep (by assumption) (Fr.keep (by assumption))))
  | (with_reducible refine' tagId_own ?zX ?zT ?_; (case zX => k_in); (case zT => exact TagIs.keep (by assumption) (Fr.keep (by assumption))))
  | (with_reducible refine' tagClassId_own ?zX ?zT ?_; (case zX => k_in); (case zT => exact TagIs.keep (by assumption) (Fr.keep (by assumption))))
  | (with_reducible refine' tagClass_use ?zC ?zA ?zT ?_; (case zC => exact Cx.keep (by assumption) (Fr.keep (by assumption))); (case zA => exact Sm.lower (by assumption) (by omega)); (case zT => exact TagIs.keep (by assumption) (Fr.keep (by assumption))); intro s₁ k₁; (have F := Fr.keeps (by assumption) (Kp.keep k₁)))
  | (with_reducible refine' tagFormat_use ?zC ?zA ?zT ?_; (case zC => exact Cx.keep (by assumption) (Fr.keep (by assumption))); (case zA => exact Sm.lower (by assumption) (by omega)); (case zT => exact TagIs.keep (by assumption) (Fr.keep (by assumption))); intro s₁ k₁; (have F := Fr.keeps (by assumption) (Kp.keep k₁)))
  | (with_reducible refine' tagId_use ?zC ?zA ?zT ?_; (case zC => exact Cx.keep (by assumption) (Fr.keep (by assumption))); (case zA => exact Sm.lower (by assumption) (by omega)); (case zT => exact TagIs.keep (by assumption) (Fr.keep (by assumption))); intro s₁ k₁; (have F := Fr.keeps (by assumption) (Kp.keep k₁))))
local macro_rules | `(tactic| tb_rel) => `(tactic| first | assumption | exact Kp.refl _ | (refine Kp.trans ?_ (by assumption); tb_rel) | (refine Kp.toks ?_; tb_rel))
local macro_rules | `(tactic| ktd_rel) => `(tactic| repeat' ((first | with_reducible show wpAny _ _ _ _ _ _ | with_reducible show (if _ then _ else _)); walk1))
section
variable {w : World} {A : Around} {s : Shared} {a : Addr} {base : Value} {zs : List Value} {ds : List Trip}
theorem isi_int_slice {k : Int} {t : Tok} {E Q : Value → Shared → Prop} (h : ∀ t, Q (.bool false) ⟨s.heap, s.gens, s.drawn, t, s.os⟩) : wpAny (M w) A (call (.builtin "isinstance") [.int k t, .type "slice"]) Q E s :=
  PySem.call_isinstance (PySem.isinstance_false_int (by decide) (by kernel_rfl) (by rw [isSubtype_type]; kernel_rfl)) (h _)
theorem isi_slice {sl : Addr} {E Q : Value → Shared → Prop} (hs : s.TypeIs (.ref sl) "slice") (h : Q (.bool true) s) : wpAny (M w) A (call (.builtin "isinstance") [.ref sl, .type "slice"]) Q E s :=
  call_isinstance_yes hs (by kernel_rfl) (by rw [isSubtype_type]; kernel_rfl) h
theorem set_item {k : Int} {t : Tok} {j : Nat} (C : Cx w s.heap) (hA : Sm 5 A) (T : SetIs s.heap a base zs ds) (hlo : -(2 ^ 63) ≤ k) (hhi : k < 2 ^ 63) (hj : seqIndex? k zs.length = some j) :
    Gv w A (call (.ref 225) [.ref a, .int k t]) (fun v _ => zs[j]? = some v) s := by
  have X := C.X
  obtain ⟨_, _, _, TT⟩ := C.T
  refine call_fn (binds := [(Str.ofString "self", .ref a), (Str.ofString "i", .int k t)]) C hA (by k_is) (by k_is) (by exact BindsTo.of_eq rfl) (by exact locs rfl) (by decide) (by rfl) (by rfl) (by rfl) fun L s₀ k₀ F hA' => ?_
  refine wpAny_execs_cons ?_
  ktr_rel
  refine isi_int_slice fun tt => ?_
  ktr_rel
  refine superTags_own (X.keeps k₀.keep) (T.keep k₀.keep) fun st hst => ?_
  ktr_rel
  refine kba_turn (value' := Expr.Name (Str.ofString "_") ⟨0, 0, 0, 0⟩) (fun _ => rfl) ?_
  have hjl : j < zs.length := by
    have key : ∀ x : Int, (if 0 ≤ x && x < (zs.length : Int) then some x.toNat else none) = some j → j < zs.length := by
      intro x h
      split at h
      · rename_i hc
        simp only [Bool.and_eq_true, decide_eq_true_eq] at hc
        cases h
        omega
      · cases h
    exact key _ hj
  refine sub_tup hst hlo hhi (by rw [List.size_toArray]; exact hj) (x := zs[j]) (by rw [List.getElem?_toArray, List.getElem?_eq_getElem hjl]) ?_
  exact ⟨k₀.toks, List.getElem?_eq_getElem hjl⟩
theorem All2.cut {R : Value → Trip → Prop} {ys : List Value} {ds : List Trip} {lo hi : Option Int} (H : All2 R ys ds) : All2 R (kms_pick ys lo hi) ((ds.drop (kms_lo lo ys.length)).take (kms_hi hi ys.length - kms_lo lo ys.length)) := by
  unfold kms_pick
  refine ⟨by simp only [List.length_take, List.length_drop, H.1], fun j h1 h2 => ?_⟩
  simp only [List.getElem_take, List.getElem_drop]
  exact H.2 _ _ _
theorem set_cut {sl : Addr} {vl vu : Value} {lo hi : Option Int} (C : Cx w s.heap) (hA : Sm 10 A) (T : SetIs s.heap a base zs ds) (hs : s.heap.IsSliceOf sl vl vu .none) (pl : IsPart vl lo) (pu : IsPart vu hi) (hv : handedIn base = true) (hz : zs.length ≤ 5) :
    Gv w A (call (.ref 225) [.ref a, .ref sl]) (fun v s' => ∃ b, v = .ref b ∧ SetIs s'.heap b base (kms_pick zs lo hi) ((ds.drop (kms_lo lo zs.length)).take (kms_hi hi zs.length - kms_lo lo zs.length))) s := by
  have X := C.X
  obtain ⟨_, _, _, TT⟩ := C.T
  refine call_fn (binds := [(Str.ofString "self", .ref a), (Str.ofString "i", .ref sl)]) C hA (by k_is) (by k_is) (by exact BindsTo.of_eq rfl) (by exact locs rfl) (by decide) (by rfl) (by rfl) (by rfl) fun L s₀ k₀ F hA' => ?_
  refine wpAny_execs_cons ?_
  ktr_rel
  obtain ⟨o, ho, hc, hdd⟩ := id hs
  refine isi_slice ⟨o, k₀.keep _ _ ho, hc⟩ ?_
  ktr_rel
  refine baseTag_own (X.keeps k₀.keep) (T.keep k₀.keep) hv ?_
  ktr_rel
  refine superTags_own (X.keeps k₀.keep) (T.keep k₀.keep) fun st hst => ?_
  ktr_rel
  refine kba_turn (value' := Expr.Name (Str.ofString "_") ⟨0, 0, 0, 0⟩) (fun _ => rfl) ?_
  refine subscriptTail_builtin (isTup hst).typeIs slot_tuple_getitem.lookup (cut_tuple hst ⟨o, k₀.keep _ _ ho, hc, hdd⟩ pl pu (by omega) fun q s₁ k₁ hq => ?_) (by with_unfolding_all rfl) (by intro _; with_unfolding_all rfl)
  have hkl : (kms_pick zs lo hi).length ≤ 5 := by
    unfold kms_pick
    rw [List.length_take, List.length_drop]
    omega
  refine star_seq' hq rfl rfl (.inr rfl) (by rw [List.size_toArray, sizeLine_eq]; omega) fun h' kk => ?_
  ktr_rel
  · exact X.keeps fun b o e => kk _ _ (k₁.keep _ _ (k₀.keep _ _ e))
  · rw [List.append_nil]
    have K : Kp s ⟨h', s₁.gens, s₁.drawn, s₁.toks, s₁.os⟩ := (k₀.trans ((Kp.heap fun _ _ e => e).trans k₁)).trans (Kp.heap kk)
    refine (set_new (s := ⟨h', s₁.gens, s₁.drawn, s₁.toks, s₁.os⟩) (ds := (ds.drop (kms_lo lo zs.length)).take (kms_hi hi zs.length - kms_lo lo zs.length)) (C.keep K.keep) (hA'.lower (by omega)) (All2.cut (T.tags.mono fun v d h => h.keep K.keep)) hkl).use fun v s₂ k₂ hv => ?_
    exact ⟨K.trans k₂, hv⟩
end
end Mine
end
section
set_option maxRecDepth 100000
set_option maxHeartbeats 4000000
open PySem PySem.W PyProof.Rows
namespace Mine
open PyProof.Rows.LCg (lst lst_snoc)
local macro_rules | `(tactic| ktr_rel) => `(tactic| repeat ((fail_if_success (first | with_reducible show wpAny _ _ (call _ _ _) _ _ _ | with_reducible show wpAny _ _ (eval (Expr.ListComp _ _ _ _) _) _ _ _ | with_reducible show wpAny _ _ (compareOp _ (Value.ref _) _) _ _ _ | with_reducible show wpAny _ _ (compareOp _ _ (Value.ref _)) _ _ _ | with_reducible show wpAny _ _ (getAttr (Value.ref _) _ _) _ _ _ | with_reducible show wpAny _ _ (subscriptTail _ _ _ _) _ _ _ | with_reducible show wpAny _ _ (binaryOp _ (Value.ref _) _) _ _ _)); walk1))
local macro_rules | `(tactic| tb_start) => `(tactic| first
  | (with_reducible refine' tagClass_own ?zX ?zT ?_; (case zX => k_in); (case zT => exact TagIs.keep (by assumption) (Fr.keep (by assumption))))
  | (with_reducible refine' tagFormat_own ?zX ?zT ?_; (case zX => k_in); (case zT => exact TagIs.keep (by assumption) (Fr.keep (by assumption))))
  | (with_reducible refine' tagId_own ?zX ?zT ?_; (case zX => k_in); (case zT => exact TagIs.keep (by assumption) (Fr.keep (by assumption))))
  | (with_reducible refine' tagClassId_own ?zX ?zT ?_; (case zX => k_in); (case zT => exact TagIs.keep (by assumption) (Fr.keep (by assumption))))
  | (with_reducible refine' tagClass_use ?zC ?zA ?zT ?_; (case zC => exact Cx.keep (by assumption) (Fr.keep (by assumption))); (case zA => exact Sm.lower (by assumption) (by omega)); (case zT => exact TagIs.keep (by assumption) (Fr.keep (by assumption))); intro s₁ k₁; (have F := Fr.keeps (by assumption) (Kp.keep k₁)))
  | (with_reducible refine' tagFormat_use ?zC ?zA ?zT ?_; (case zC => exact Cx.keep (by assumption) (Fr.keep (by assumption))); (case zA => exact Sm.lower (by assumption) (by omega)); (case zT => exact TagIs.keep (by assumption) (Fr.keep (by assumption))); intro s₁ k₁; (have F := Fr.keeps (by assumption) (Kp.keep k₁)))
  | (with_reducible refine' tagId_use ?zC ?zA ?zT ?_; (case zC => exact Cx.keep (by assumption) (Fr.keep (by assumption))); (case zA => exact Sm.lower (by assumption) (by omega)); (case zT => exact TagIs.keep (by assumption) (Fr.keep (by assumption))); intro s₁ k₁; (have F := Fr.keeps (by assumption) (Kp.keep k₁))))
local macro_rules | `(tactic| tb_rel) => `(tactic| first | assumption | exact Kp.refl _ | (refine Kp.trans ?_ (by assumption); tb_rel) | (refine Kp.toks ?_; tb_rel))
local macro_rules | `(tactic| ktd_rel) => `(tactic| repeat' ((first | with_reducible show wpAny _ _ _ _ _ _ | with_reducible show (if _ then _ else _)); walk1))
section
variable {w : World} {A : Around} {S s s' : Shared} {L : Addr} {B : Heap} {m : Str → Option Value} {sl : Addr} {vs : List Value} {ns : List Int}
local macro_rules | `(tactic| kpf_close) => `(tactic| first | assumption | exact if_pos rfl | (refine Eq.trans (if_neg (by decide)) ?_; kpf_close))
local macro_rules | `(tactic| kwd_rel) => `(tactic| repeat' (first
  | ((with_reducible show wpAny _ _ (eval (Expr.Name (Str.ofString "script") _) _) _ _ _); first | refine law_script (by assumption) (by assumption) ?_ | refine law_script (LF.base (by assumption)) (by assumption) ?_)
  | ((with_reducible show wpAny _ _ (eval (Expr.Name _ _) _) _ _ _); refine law_ld (by assumption) (by kpf_close) ?_)
  | ((with_reducible show wpAny _ _ (compareOp CmpOp.NotEq (Value.int _ _) (Value.int _ _)) _ _ _); with_reducible refine ne_int_same ?_)
  | ((with_reducible show wpAny _ _ (compareOp CmpOp.NotEq (Value.str _ _) (Value.str _ _)) _ _ _); first | with_reducible refine ne_str_same ?_ | refine ne_str_eq (by decide) ?_)
  | ((with_reducible show wpAny _ _ (subscriptTail _ _ (Value.ref _) (Value.int 0 _)) _ _ _); first | refine sub3_0 (by assumption) ?_ | refine sub2_0 (by assumption) ?_)
  | ((with_reducible show wpAny _ _ (subscriptTail _ _ (Value.ref _) (Value.int 1 _)) _ _ _); first | refine sub3_1 (by assumption) ?_ | refine sub2_1 (by assumption) ?_)
  | ((with_reducible show wpAny _ _ (subscriptTail _ _ (Value.ref _) (Value.int 2 _)) _ _ _); refine sub3_2 (by assumption) ?_)
  | ((fail_if_success (first | with_reducible show wpAny _ _ (call _ _ _) _ _ _ | with_reducible show wpAny _ _ (eval (Expr.Name (Str.ofString "script") _) _) _ _ _ | with_reducible show wpAny _ _ (eval (Expr.ListComp _ _ _ _) _) _ _ _ | with_reducible show wpAny _ _ (compareOp _ (Value.ref _) _) _ _ _ | with_reducible show wpAny _ _ (compareOp _ _ (Value.ref _)) _ _ _ | with_reducible show wpAny _ _ (getAttr (Value.ref _) _ _) _ _ _ | with_reducible show wpAny _ _ (subscriptTail _ _ _ _) _ _ _ | with_reducible show wpAny _ _ (binaryOp _ (Value.ref _) _) _ _ _)); (first | with_reducible show wpAny _ _ _ _ _ _ | with_reducible show (if _ then _ else _)); walk1)))
local macro_rules | `(tactic| kln_le) => `(tactic| repeat' (first
  | ((with_reducible show wpAny _ _ (eval (Expr.Name _ _) _) _ _ _); refine cm_L (by assumption) (by assumption) rfl ?_)
  | ((with_reducible show wpAny _ _ (eval (Expr.Name (Str.ofString "script") _) _) _ _ _); refine cm_C (by assumption) rfl rfl ?_)
  | ((with_reducible show wpAny _ _ (eval (Expr.Name _ _) _) _ _ _); refine cm_G (by assumption) (by k_is) rfl ?_)
  | ((with_reducible show wpAny _ _ (eval (Expr.Name _ _) _) _ _ _); fail "a name")
  | ((with_reducible show wpAny _ _ (subscriptTail _ _ (Value.ref _) (Value.int 0 _)) _ _ _); refine sub3_0 (by assumption) ?_)
  | ((with_reducible show wpAny _ _ (subscriptTail _ _ (Value.ref _) (Value.int 1 _)) _ _ _); refine sub3_1 (by assumption) ?_)
  | ((with_reducible show wpAny _ _ (subscriptTail _ _ (Value.ref _) (Value.int 2 _)) _ _ _); refine sub3_2 (by assumption) ?_)
  | ((fail_if_success (first | with_reducible show wpAny _ _ (call _ _ _) _ _ _ | with_reducible show wpAny _ _ (eval (Expr.ListComp _ _ _ _) _) _ _ _ | with_reducible show wpAny _ _ (eval (Expr.Name _ _) _) _ _ _ | with_reducible show wpAny _ _ (compareOp _ (Value.ref _) _) _ _ _ | with_reducible show wpAny _ _ (compareOp _ _ (Value.ref _)) _ _ _ | with_reducible show wpAny _ _ (getAttr (Value.ref _) _ _) _ _ _ | with_reducible show wpAny _ _ (subscriptTail _ _ _ _) _ _ _ | with_reducible show wpAny _ _ (binaryOp _ (Value.ref _) _) _ _ _)); (first | with_reducible show wpAny _ _ _ _ _ _ | with_reducible show (if _ then _ else _)); walk1)))
theorem seq_ix {x : Int} {n i : Nat} (h : (if x < 0 then x + (n : Int) else x) = (i : Int)) (hi : i < n) : seqIndex? x n = some i := by
  show (if (decide (0 ≤ (if x < 0 then x + (n : Int) else x)) && decide ((if x < 0 then x + (n : Int) else x) < (n : Int))) = true then some (if x < 0 then x + (n : Int) else x).toNat else none) = some i
  rw [h, if_pos (by simp; omega)]
  simp
/-- made[k] in the law -/
theorem set_at {a : Addr} {base : Value} {zs : List Value} {ds : List Trip} {k : Int} {t : Tok} {j : Nat} {value slice : Expr} {E Q : Value → Shared → Prop} (C : Cx w s.heap) (hA : Sm 8 A) (T : SetIs s.heap a base zs ds) (hlo : -(2 ^ 63) ≤ k) (hhi : k < 2 ^ 63) (hj : seqIndex? k zs.length = some j)
    (h : ∀ v s', Kp s s' → zs[j]? = some v → Q v s')
    (hsl : subscripted slice true (.ref a) (.int k t) = runValue (.builtin "lifetime.subscript" ⟨[.ref a, .int k t], []⟩) := by with_unfolding_all rfl) :
    wpAny (M w) A (subscriptTail value slice (.ref a) (.int k t)) Q E s := by
  obtain ⟨h₀, L, m, F, X₀⟩ := C.B
  obtain ⟨dx, od, I⟩ := T.inst
  have h1 : findIn (hd.heap_39 w.params) (.ref 321) "__getitem__" = some (some (.ref 225)) := by k_is
  have h2 : fnIn (hd.heap_39 w.params) 225 = true := by k_is
  have h3 : isFn (hd.heap_39 w.params) (.ref 225) = true := by k_is
  exact sub_K F X₀ I h1 h2 h3 ((set_item C ((hA.lower (k := 8) (j := 6) (by omega)).in1) T hlo hhi hj).use h) hsl
theorem st20 {Q : Flow → Shared → Prop} {E : Value → Shared → Prop} {d rl : Addr} {base : Value} {zs ys : List Value} {ds : List Trip} (l : LF w S L B m s) (hA : Sm 19 A)
    (hm1 : m (Str.ofString "made") = some (.ref d)) (hm5 : m (Str.ofString "rows") = some (.ref rl)) (H : SetIs B d base zs ds) (hr : B.get? rl = some (lst ys)) (hR : All2 (RowIs B) ys ds) (hlen : zs.length ≤ 4)
    (h : ∀ m' s', LF w S L B m' s' → (∀ x, x ≠ Str.ofString "k" → m' x = m x) → Q .next s') :
    wpAny (M w) A (exec (lawStmt 20) (lawEnv L)) Q E s := by
  conv in (lawStmt 20) => whnf
  have X := l.X
  obtain ⟨_, _, _, TT⟩ := l.T
  have F := l.F
  refine law_for (S := S) (m := m) (fun m' => ∀ x, x ≠ Str.ofString "k" → m' x = m x) ?_
  kwd_rel
  have hly : ys.length = zs.length := by rw [hR.1, H.tags.1]
  refine Calls.call_len_list (lst_isList (l.base _ _ hr)) (by rw [List.size_toArray]; omega) ?_
  rw [List.size_toArray, hly]
  kwd_rel
  refine range1 fun r ur vr s₂ k₂ hrg => ?_
  have l := l.kp2 k₂
  refine ⟨B, zs.length, _, l, src_range hA.handled hrg (small_one (by decide) (by decide) (by omega) (by omega)) (by rw [rangeSize_one]; split <;> omega), by intro _ _; first | trivial | rfl, ?_, h⟩
  intro i v B₂ m₂ s₃ E' hi hv l hb hJ
  obtain ⟨tv, rfl⟩ := hv
  refine wpAny_assign_Name (law_st l fun s₄ l _ => ?_)
  have hm1 : m₂ (Str.ofString "made") = some (.ref d) := (hJ _ (by decide)).trans hm1
  have hm5 : m₂ (Str.ofString "rows") = some (.ref rl) := (hJ _ (by decide)).trans hm5
  have H : SetIs B₂ d base zs ds := H.keep hb
  have F := l.F
  have hid : i < ds.length := H.tags.1 ▸ hi
  obtain ⟨ta, tp, hza, T⟩ := H.tags.2 i hi hid
  obtain ⟨q, hyq, hq⟩ := hR.2 i (by omega) hid
  refine wpAny_execs_cons ?_
  have e0 : seqIndex? (0 + (i : Int)) zs.length = some i := seq_ix (by rw [if_neg (by omega)]; omega) hi
  have e1 : seqIndex? (0 + (i : Int) - (zs.length : Int)) zs.length = some i := seq_ix (by rw [if_pos (by omega)]; omega) hi
  have hzi : zs[i]? = some (.ref ta) := by rw [List.getElem?_eq_getElem hi, hza]
  have hyi : ys[(0 + (i : Int)).toNat]? = some (.ref q) := by
    have : (0 + (i : Int)).toNat = i := by omega
    rw [this, List.getElem?_eq_getElem (by omega), hyq]
  kwd_rel
  refine set_at (by exact l.cx) (hA.lower (by omega)) (H.keep l.base) (by omega) (by omega) e0 fun v s₅ k₅ hv => ?_
  rw [hzi] at hv
  cases hv
  have l := l.kp2 k₅
  have F := l.F
  kwd_rel
  refine Gv.use (tuple_tag (by exact l.cx) (hA.lower (by omega)) (T.keep l.base)) fun v s₆ k₆ hv => ?_
  obtain ⟨p1, rfl, hp1⟩ := hv
  have l := l.kp2 k₆
  have F := l.F
  kwd_rel
  refine sub_item (l.base _ _ (hb _ _ hr)) (by omega) (by omega) hyi ?_
  refine ne_same3 hp1 (l.base _ _ (hb _ _ hq)) (hA.lower (by omega)) ?_
  kwd_rel
  refine Calls.call_len_list (lst_isList (l.base _ _ (hb _ _ hr))) (by rw [List.size_toArray]; omega) ?_
  rw [List.size_toArray, hly]
  kwd_rel
  refine set_at (by exact l.cx) (hA.lower (by omega)) (H.keep l.base) (by omega) (by omega) e1 fun v s₅ k₅ hv => ?_
  rw [hzi] at hv
  cases hv
  have l := l.kp2 k₅
  have F := l.F
  kwd_rel
  refine Gv.use (tuple_tag (by exact l.cx) (hA.lower (by omega)) (T.keep l.base)) fun v s₆ k₆ hv => ?_
  obtain ⟨p1, rfl, hp1⟩ := hv
  have l := l.kp2 k₆
  have F := l.F
  kwd_rel
  refine sub_item (l.base _ _ (hb _ _ hr)) (by omega) (by omega) hyi ?_
  refine ne_same3 hp1 (l.base _ _ (hb _ _ hq)) (hA.lower (by omega)) ?_
  kwd_rel
  exact ⟨rfl, _, _, l, fun _ _ e => e, fun x hx => (if_neg hx).trans (hJ x hx)⟩
end
end Mine
end
section
set_option maxRecDepth 100000
set_option maxHeartbeats 4000000
open PySem PySem.W PyProof.Rows
namespace Mine
open PyProof.Rows.LCg (lst lst_snoc)
local macro_rules | `(tactic| ktr_rel) => `(tactic| repeat ((fail_if_success (first | with_reducible show wpAny _ _ (call _ _ _) _ _ _ | with_reducible show wpAny _ _ (eval (Expr.ListComp _ _ _ _) _) _ _ _ | with_reducible show wpAny _ _ (compareOp _ (Value.ref _) _) _ _ _ | with_reducible show wpAny _ _ (compareOp _ _ (Value.ref _)) _ _ _ | with_reducible show wpAny _ _ (getAttr (Value.ref _) _ _) _ _ _ | with_reducible show wpAny _ _ (subscriptTail _ _ _ _) _ _ _ | with_reducible show wpAny _ _ (binaryOp _ (Value.ref _) _) _ _ _)); walk1))
local macro_rules | `(tactic| tb_start) => `(tactic| first
  | (with_reducible refine' tagClass_own ?zX ?zT ?_; (case zX => k_in); (case zT => exact TagIs.keep (by assumption) (Fr.keep (by assumption))))
  | (with_reducible refine' tagFormat_own ?zX ?zT ?_; (case zX => k_in); (case zT => exact TagIs.keep (by assumption) (Fr.keep (by assumption))))
  | (with_reducible refine' tagId_own ?zX ?zT ?_; (case zX => k_in); (case zT => exact TagIs.keep (by assumption) (Fr.keep (by assumption))))
  | (with_reducible refine' tagClassId_own ?zX ?zT ?_; (case zX => k_in); (case zT => exact TagIs.keep (by assumption) (Fr.keep (by assumption))))
  | (with_reducible refine' tagClass_use ?zC ?zA ?zT ?_; (case zC => exact Cx.keep (by assumption) (Fr.keep (by assumption))); (case zA => exact Sm.lower (by assumption) (by omega)); (case zT => exact TagIs.keep (by assumption) (Fr.keep (by assumption))); intro s₁ k₁; (have F := Fr.keeps (by assumption) (Kp.keep k₁)))
  | (with_reducible refine' tagFormat_use ?zC ?zA ?zT ?_; (case zC => exact Cx.keep (by assumption) (Fr.keep (by assumption))); (case zA => exact Sm.lower (by assumption) (by omega)); (case zT => exact TagIs.keep (by assumption) (Fr.keep (by assumption))); intro s₁ k₁; (have F := Fr.keeps (by assumption) (Kp.keep k₁)))
  | (with_reducible refine' tagId_use ?zC ?zA ?zT ?_; (case zC => exact Cx.keep (by assumption) (Fr.keep (by assumption))); (case zA => exact Sm.lower (by assumption) (by omega)); (case zT => exact TagIs.keep (by assumption) (Fr.keep (by assumption))); intro s₁ k₁; (have F := Fr.keeps (by assumption) (Kp.keep k₁))))
local macro_rules | `(tactic| tb_rel) => `(tactic| first | assumption | exact Kp.refl _ | (refine Kp.trans ?_ (by assumption); tb_rel) | (refine Kp.toks ?_; tb_rel))
local macro_rules | `(tactic| ktd_rel) => `(tactic| repeat' ((first | with_reducible show wpAny _ _ _ _ _ _ | with_reducible show (if _ then _ else _)); walk1))
section
variable {w : World} {A : Around} {S s s' : Shared} {L : Addr} {B : Heap} {m : Str → Option Value} {sl : Addr} {vs : List Value} {ns : List Int}
local macro_rules | `(tactic| kpf_close) => `(tactic| first | assumption | exact if_pos rfl | (refine Eq.trans (if_neg (by decide)) ?_; kpf_close))
local macro_rules | `(tactic| kwd_rel) => `(tactic| repeat' (first
  | ((with_reducible show wpAny _ _ (eval (Expr.Name (Str.ofString "script") _) _) _ _ _); first | refine law_script (by assumption) (by assumption) ?_ | refine law_script (LF.base (by assumption)) (by assumption) ?_)
  | ((with_reducible show wpAny _ _ (eval (Expr.Name _ _) _) _ _ _); refine law_ld (by assumption) (by kpf_close) ?_)
  | ((with_reducible show wpAny _ _ (compareOp CmpOp.NotEq (Value.int _ _) (Value.int _ _)) _ _ _); with_reducible refine ne_int_same ?_)
  | ((with_reducible show wpAny _ _ (compareOp CmpOp.NotEq (Value.str _ _) (Value.str _ _)) _ _ _); first | with_reducible refine ne_str_same ?_ | refine ne_str_eq (by decide) ?_)
  | ((with_reducible show wpAny _ _ (subscriptTail _ _ (Value.ref _) (Value.int 0 _)) _ _ _); first | refine sub3_0 (by assumption) ?_ | refine sub2_0 (by assumption) ?_)
  | ((with_reducible show wpAny _ _ (subscriptTail _ _ (Value.ref _) (Value.int 1 _)) _ _ _); first | refine sub3_1 (by assumption) ?_ | refine sub2_1 (by assumption) ?_)
  | ((with_reducible show wpAny _ _ (subscriptTail _ _ (Value.ref _) (Value.int 2 _)) _ _ _); refine sub3_2 (by assumption) ?_)
  | ((fail_if_success (first | with_reducible show wpAny _ _ (call _ _ _) _ _ _ | with_reducible show wpAny _ _ (eval (Expr.Name (Str.ofString "script") _) _) _ _ _ | with_reducible show wpAny _ _ (eval (Expr.ListComp _ _ _ _) _) _ _ _ | with_reducible show wpAny _ _ (compareOp _ (Value.ref _) _) _ _ _ | with_reducible show wpAny _ _ (compareOp _ _ (Value.ref _)) _ _ _ | with_reducible show wpAny _ _ (getAttr (Value.ref _) _ _) _ _ _ | with_reducible show wpAny _ _ (subscriptTail _ _ _ _) _ _ _ | with_reducible show wpAny _ _ (binaryOp _ (Value.ref _) _) _ _ _)); (first | with_reducible show wpAny _ _ _ _ _ _ | with_reducible show (if _ then _ else _)); walk1)))
local macro_rules | `(tactic| kln_le) => `(tactic| repeat' (first
  | ((with_reducible show wpAny _ _ (eval (Expr.Name _ _) _) _ _ _); refine cm_L (by assumption) (by assumption) rfl ?_)
  | ((with_reducible show wpAny _ _ (eval (Expr.Name (Str.ofString "script") _) _) _ _ _); refine cm_C (by assumption) rfl rfl ?_)
  | ((with_reducible show wpAny _ _ (eval (Expr.Name _ _) _) _ _ _); refine cm_G (by assumption) (by k_is) rfl ?_)
  | ((with_reducible show wpAny _ _ (eval (Expr.Name _ _) _) _ _ _); fail "a name")
  | ((with_reducible show wpAny _ _ (subscriptTail _ _ (Value.ref _) (Value.int 0 _)) _ _ _); refine sub3_0 (by assumption) ?_)
  | ((with_reducible show wpAny _ _ (subscriptTail _ _ (Value.ref _) (Value.int 1 _)) _ _ _); refine sub3_1 (by assumption) ?_)
  | ((with_reducible show wpAny _ _ (subscriptTail _ _ (Value.ref _) (Value.int 2 _)) _ _ _); refine sub3_2 (by assumption) ?_)
  | ((fail_if_success (first | with_reducible show wpAny _ _ (call _ _ _) _ _ _ | with_reducible show wpAny _ _ (eval (Expr.ListComp _ _ _ _) _) _ _ _ | with_reducible show wpAny _ _ (eval (Expr.Name _ _) _) _ _ _ | with_reducible show wpAny _ _ (compareOp _ (Value.ref _) _) _ _ _ | with_reducible show wpAny _ _ (compareOp _ _ (Value.ref _)) _ _ _ | with_reducible show wpAny _ _ (getAttr (Value.ref _) _ _) _ _ _ | with_reducible show wpAny _ _ (subscriptTail _ _ _ _) _ _ _ | with_reducible show wpAny _ _ (binaryOp _ (Value.ref _) _) _ _ _)); (first | with_reducible show wpAny _ _ _ _ _ _ | with_reducible show (if _ then _ else _)); walk1)))
theorem via {α : Type} {t : Sem α} {Q : α → Shared → Prop} {E : Value → Shared → Prop} (Mid : α → Shared → Prop) (h1 : ∀ Q' : α → Shared → Prop, (∀ v s', Mid v s' → Q' v s') → wpAny (M w) A t Q' E s) (h2 : ∀ v s', Mid v s' → Q v s') : wpAny (M w) A t Q E s := h1 Q h2
theorem law_pair {x y : Str} {px py pos : Pos} {k : Nat} {q : Addr} {a b : Value} {E : Value → Shared → Prop} {Q : Unit → Shared → Prop} (l : LF w S L B m s) (hA : A.handled = none) (hq : s.heap.get? q = some (tupObj [a, b])) (hx : (lawEnv L).kindOf x = some .local) (hy : (lawEnv L).kindOf y = some .local)
    (h : ∀ s', LF w S L B (fun z => if z = y then some b else if z = x then some a else m z) s' → Q () s') : wpAny (M w) A (assign (.Tuple [.Name x px, .Name y py] k pos) (lawEnv L) (.ref q)) Q E s := by
  refine assign_Tuple_tuple (items := #[a, b]) hA (isTup hq) rfl rfl fun h' he => ?_
  have l := l.kp (Kp.heap (tk := s.toks) fun b o e => he b o (Nat.ne_of_lt (Heap.lt_size e)) e)
  refine assignInOrder_cons (wpAny_assign_Name (law_st l (fun s₁ l _ => ?_) hx))
  refine assignInOrder_cons (wpAny_assign_Name (law_st l (fun s₂ l _ => ?_) hy))
  exact assignInOrder_nil (h _ l)
theorem isi_set {a : Addr} {base : Value} {zs : List Value} {ds : List Trip} {E Q : Value → Shared → Prop} (X : (hd.heap_39 w.params).In s.heap) (T : SetIs s.heap a base zs ds) (h : Q (.bool true) s) :
    wpAny (M w) A (call (.builtin "isinstance") [.ref a, .ref 321]) Q E s := by
  have e : isIn (hd.heap_39 w.params) (.ref 321) 321 = true := by k_is
  obtain ⟨dx, od, I⟩ := T.inst
  exact isi_call X (fun M => I.type) e (by intro h; cases h) h
/-- made[low:high] in the law -/
theorem set_sub {a : Addr} {base vl vu : Value} {lo hi : Option Int} {zs : List Value} {ds : List Trip} {value : Expr} {e1 e2 : Option Expr} {sp : Pos} {E Q : Value → Shared → Prop} (C : Cx w s.heap) (hA : Sm 12 A) (T : SetIs s.heap a base zs ds) (pl : IsPart vl lo) (pu : IsPart vu hi) (hv : handedIn base = true) (hz : zs.length ≤ 5)
    (h : ∀ b s', Kp s s' → SetIs s'.heap b base (kms_pick zs lo hi) ((ds.drop (kms_lo lo zs.length)).take (kms_hi hi zs.length - kms_lo lo zs.length)) → Q (.ref b) s') :
    wpAny (M w) A (subscriptTail value (.Slice e1 e2 none sp) (.ref a) (.ref s.heap.objs.size)) Q E { s with heap := s.heap.push { cls := .type "slice", data := .fields #[vl, vu, .none] } } := by
  have k : ∀ b o, s.heap.get? b = some o → (s.heap.push { cls := .type "slice", data := .fields #[vl, vu, .none] }).get? b = some o := fun b o e => Heap.get?_push_of_some _ e
  have C := C.keep k
  have T := T.keep k
  obtain ⟨h₀, L, m, F, X₀⟩ := C.B
  obtain ⟨dx, od, I⟩ := T.inst
  have X := C.X
  have h1 : findIn (hd.heap_39 w.params) (.ref 321) "__getitem__" = some (some (.ref 225)) := by k_is
  have h2 : fnIn (hd.heap_39 w.params) 225 = true := by k_is
  have h3 : isFn (hd.heap_39 w.params) (.ref 225) = true := by k_is
  have h4 : noSeq (hd.heap_39 w.params) 321 = true := by k_is
  have key := set_cut (s := { s with heap := s.heap.push { cls := .type "slice", data := .fields #[vl, vu, .none] } }) C (hA.lower (k := 12) (j := 10) (by omega)) T (Heap.IsSliceOf.new ..) pl pu hv hz
  unfold fnIn at h2
  split at h2
  · rename_i e
    unfold subscriptTail getitemInPython
    refine wpAny_bind (wpAny_bind (wpAny_bind (I.type.here ((looks_findIn X h1).here ?_))))
    dsimp only
    refine wpAny_bind (wpAny_load (X _ _ e) (wpAny_pure ?_))
    dsimp only
    refine wpAny_bind ?_
    show wpAny _ _ (operate _ (getItem _ _)) _ _ _
    refine wpAny_operateT (getItem_K F X₀ I h4 h1 h3 (key.use fun v s' hk hv => ?_))
    obtain ⟨b, rfl, H⟩ := hv
    refine wpAny_bind (wpAny_letTemporaryGo (wpAny_pure ?_))
    exact h b s' ((Kp.heap k).trans hk) H
  · cases h2
theorem cm_B {env : Env} {x : Str} {pos : Pos} {v : Value} {E Q : Value → Shared → Prop} (C : Cx w s.heap) (e : nsIn (hd.heap_39 w.params) mainGlobals x = some none) (hv : bootBuiltins x = some v) (hn : x ≠ "__name__") (hg : env.globals = mainGlobals) (hb : env.builtins = builtinsNs) (h : Q v s) (hk : env.scope.kind = .function := by rfl) (hx : env.kindOf x = some .globalImplicit := by rfl)
    (hd : (x == ("__debug__" : Str)) = false := by decide) : wpAny (M w) A (eval (.Name x pos) env) Q E s := by
  obtain ⟨mean, mg, mb, T⟩ := C.T
  exact PySem.Calls.Name_function_global hk hx (PySem.Calls.loadGlobal_builtin (mg := mg) (mb := mb) (by rw [hg]; exact T.g) (mg_none_of C.X T.g e) (by rw [hb]; exact T.b) ((T.builtins x hn).trans hv) h) hd
/-- [tuple(x) for x in NAME.superTags] in the law -/
theorem rows_comp {ca : Addr} {base : Value} {zs : List Value} {ds : List Trip} {nm : Str} {p1 p2 p3 px np ap pos : Pos} {scope : Scope} {E Q : Value → Shared → Prop} (l : LF w S L B m s) (hA : Sm 12 A) (hm : m nm = some (.ref ca)) (H : SetIs s.heap ca base zs ds) (hz : zs.length ≤ 5)
    (c1 : closureFor scope (lawEnv L) = pure []) (c2 : ∀ y ∈ scope.names, y.2 ≠ .cell) (c3 : scope.kind = .function) (c4 : ∀ y ∈ scope.names, y.2 = .local → scope.names.lookup y.1 = some .local) (c5 : scope.names.lookup (Str.ofString "x") = some .local)
    (c6 : ∀ C, (compEnvC scope [] C (lawEnv L)).kindOf (Str.ofString "x") = some .local) (c7 : ∀ C, (compEnvC scope [] C (lawEnv L)).kindOf (Str.ofString "tuple") = some .globalImplicit) (c8 : (lawEnv L).kindOf nm = some .local) (c9 : (nm == ("__debug__" : Str)) = false)
    (h : ∀ D ys s', Kp s s' → s'.heap.get? D = some (lst ys) → ys.length ≤ 5 → All2 (RowIs s'.heap) ys ds → Q (.ref D) s') :
    wpAny (M w) A (eval (.ListComp (.Call (.Name (Str.ofString "tuple") p1) [.Name (Str.ofString "x") p2] [] p3) [⟨.Name (Str.ofString "x") px, .Attribute (.Name nm np) (Str.ofString "superTags") ap, [], 0⟩] scope pos) (lawEnv L)) Q E s := by
  refine comp_eval (cl := []) (by decide) c1 c2 c3 c4 c5 ?_
  refine Attribute_name (law_ld l.F hm ?_ c8 c9)
  refine Gv.use (superTags_get (k := 5) (by exact l.cx) (hA.lower (by omega)) H) fun v s₁ k₁ hv => ?_
  obtain ⟨st, rfl, hst⟩ := hv
  have l := l.kp k₁
  have H := H.keep k₁.keep
  refine ⟨_, _, fun j y h => ∃ d, ds[j]? = some d ∧ RowIs h y d, ⟨src_tup hA.handled ⟨_, hst, rfl, _, rfl⟩, by rw [List.size_toArray, sizeLine_eq]; omega, fun _ _ => Stay.ex fun _ => stay_val.and stay_rowIs, ?_⟩, ?_⟩
  · intro i v C' m₃ s₃ hi hv hk hC hN hm
    have hi' : i < zs.length := by simpa using hi
    have hid : i < ds.length := H.tags.1 ▸ hi'
    have hv' : zs[i] = v := by
      have e : zs.toArray[i]? = some v := hv
      rw [List.getElem?_toArray, List.getElem?_eq_getElem hi'] at e
      exact Option.some.inj e
    obtain ⟨a, p, ha, T⟩ := H.tags.2 i hi' hid
    rw [hv'] at ha
    subst ha
    have T := T.keep hk.keep
    have l := l.kp hk
    have HC := l.cx
    show wpAny _ _ _ _ _ _
    walk1
    refine cm_B HC (by k_is) PyProof.Rows.boot_tuple (by decide) rfl rfl ?_ c3 (c7 _)
    walk1
    walk1
    refine cm_L hN hm rfl ?_ c3 (c6 _)
    walk1
    refine Gv.use (tuple_tag (by exact HC) (hA.lower (by omega)) T) fun v s₄ k₄ hv => ?_
    obtain ⟨q, rfl, hq⟩ := hv
    exact ⟨k₄, ds[i], List.getElem?_eq_getElem hid, q, rfl, hq⟩
  · intro D ys s' hk hD hl hR
    have hl' : ys.length = zs.length := by simpa using hl
    refine h D ys s' (k₁.trans hk) hD (by omega) ⟨by rw [hl', H.tags.1], fun j h1 h2 => ?_⟩
    obtain ⟨d, hd, hT⟩ := hR j h1
    rw [List.getElem?_eq_getElem h2] at hd
    cases hd
    exact hT
end
end Mine
end
section
set_option maxRecDepth 100000
set_option maxHeartbeats 4000000
open PySem PySem.W PyProof.Rows
namespace Mine
open PyProof.Rows.LCg (lst lst_snoc)
local macro_rules | `(tactic| ktr_rel) => `(tactic| repeat ((fail_if_success (first | with_reducible show wpAny _ _ (call _ _ _) _ _ _ | with_reducible show wpAny _ _ (eval (Expr.ListComp _ _ _ _) _) _ _ _ | with_reducible show wpAny _ _ (compareOp _ (Value.ref _) _) _ _ _ | with_reducible show wpAny _ _ (compareOp _ _ (Value.ref _)) _ _ _ | with_reducible show wpAny _ _ (getAttr (Value.ref _) _ _) _ _ _ | with_reducible show wpAny _ _ (subscriptTail _ _ _ _) _ _ _ | with_reducible show wpAny _ _ (binaryOp _ (Value.ref _) _) _ _ _)); walk1))
local macro_rules | `(tactic| tb_start) => `(tactic| first
  | (with_reducible refine' tagClass_own ?zX ?zT ?_; (case zX => k_in); (case zT => exact TagIs.keep (by assumption) (Fr.keep (by assumption))))
  | (with_reducible refine' tagFormat_own ?zX ?zT ?_; (case zX => k_in); (case zT => exact TagIs.keep (by assumption) (Fr.keep (by assumption))))
  | (with_reducible refine' tagId_own ?zX ?zT ?_; (case zX => k_in); (case zT => exact TagIs.keep (by assumption) (Fr.keep (by assumption))))
  | (with_reducible refine' tagClassId_own ?zX ?zT ?_; (case zX => k_in); (case zT => exact TagIs.keep (by assumption) (Fr.keep (by assumption))))
  | (with_reducible refine' tagClass_use ?zC ?zA ?zT ?_; (case zC => exact Cx.keep (by assumption) (Fr.keep (by assumption))); (case zA => exact Sm.lower (by assumption) (by omega)); (case zT => exact TagIs.keep (by assumption) (Fr.keep (by assumption))); intro s₁ k₁; (have F := Fr.keeps (by assumption) (Kp.keep k₁)))
  | (with_reducible refine' tagFormat_use ?zC ?zA ?zT ?_; (case zC => exact Cx.keep (by assumption) (Fr.keep (by assumption))); (case zA => exact Sm.lower (by assumption) (by omega)); (case zT => exact TagIs.keep (by assumption) (Fr.keep (by assumption))); intro s₁ k₁; (have F := Fr.keeps (by assumption) (Kp.keep k₁)))
  | (with_reducible refine' tagId_use ?zC ?zA ?zT ?_; (case zC => exact Cx.keep (by assumption) (Fr.keep (by assumption))); (case zA => exact Sm.lower (by assumption) (by omega)); (case zT => exact TagIs.keep (by assumption) (Fr.keep (by assumption))); intro s₁ k₁; (have F := Fr.keeps (by assumption) (Kp.keep k₁))))
local macro_rules | `(tactic| tb_rel) => `(tactic| first | assumption | exact Kp.refl _ | (refine Kp.trans ?_ (by assumption); tb_rel) | (refine Kp.toks ?_; tb_rel))
local macro_rules | `(tactic| ktd_rel) => `(tactic| repeat' ((first | with_reducible show wpAny _ _ _ _ _ _ | with_reducible show (if _ then _ else _)); walk1))
section
variable {w : World} {A : Around} {S s s' : Shared} {L : Addr} {B : Heap} {m : Str → Option Value} {sl : Addr} {vs : List Value} {ns : List Int}
local macro_rules | `(tactic| kpf_close) => `(tactic| first | assumption | exact if_pos rfl | (refine Eq.trans (if_neg (by decide)) ?_; kpf_close))
local macro_rules | `(tactic| kwd_rel) => `(tactic| repeat' (first
  | ((with_reducible show wpAny _ _ (eval (Expr.Name (Str.ofString "script") _) _) _ _ _); first | refine law_script (by assumption) (by assumption) ?_ | refine law_script (LF.base (by assumption)) (by assumption) ?_)
  | ((with_reducible show wpAny _ _ (eval (Expr.Name _ _) _) _ _ _); refine law_ld (by assumption) (by kpf_close) ?_)
  | ((with_reducible show wpAny _ _ (compareOp CmpOp.NotEq (Value.int _ _) (Value.int _ _)) _ _ _); with_reducible refine ne_int_same ?_)
  | ((with_reducible show wpAny _ _ (compareOp CmpOp.NotEq (Value.str _ _) (Value.str _ _)) _ _ _); first | with_reducible refine ne_str_same ?_ | refine ne_str_eq (by decide) ?_)
  | ((with_reducible show wpAny _ _ (subscriptTail _ _ (Value.ref _) (Value.int 0 _)) _ _ _); first | refine sub3_0 (by assumption) ?_ | refine sub2_0 (by assumption) ?_)
  | ((with_reducible show wpAny _ _ (subscriptTail _ _ (Value.ref _) (Value.int 1 _)) _ _ _); first | refine sub3_1 (by assumption) ?_ | refine sub2_1 (by assumption) ?_)
  | ((with_reducible show wpAny _ _ (subscriptTail _ _ (Value.ref _) (Value.int 2 _)) _ _ _); refine sub3_2 (by assumption) ?_)
  | ((fail_if_success (first | with_reducible show wpAny _ _ (call _ _ _) _ _ _ | with_reducible show wpAny _ _ (eval (Expr.Name (Str.ofString "script") _) _) _ _ _ | with_reducible show wpAny _ _ (eval (Expr.ListComp _ _ _ _) _) _ _ _ | with_reducible show wpAny _ _ (compareOp _ (Value.ref _) _) _ _ _ | with_reducible show wpAny _ _ (compareOp _ _ (Value.ref _)) _ _ _ | with_reducible show wpAny _ _ (getAttr (Value.ref _) _ _) _ _ _ | with_reducible show wpAny _ _ (subscriptTail _ _ _ _) _ _ _ | with_reducible show wpAny _ _ (binaryOp _ (Value.ref _) _) _ _ _)); (first | with_reducible show wpAny _ _ _ _ _ _ | with_reducible show (if _ then _ else _)); walk1)))
local macro_rules | `(tactic| kln_le) => `(tactic| repeat' (first
  | ((with_reducible show wpAny _ _ (eval (Expr.Name _ _) _) _ _ _); refine cm_L (by assumption) (by assumption) rfl ?_)
  | ((with_reducible show wpAny _ _ (eval (Expr.Name (Str.ofString "script") _) _) _ _ _); refine cm_C (by assumption) rfl rfl ?_)
  | ((with_reducible show wpAny _ _ (eval (Expr.Name _ _) _) _ _ _); refine cm_G (by assumption) (by k_is) rfl ?_)
  | ((with_reducible show wpAny _ _ (eval (Expr.Name _ _) _) _ _ _); fail "a name")
  | ((with_reducible show wpAny _ _ (subscriptTail _ _ (Value.ref _) (Value.int 0 _)) _ _ _); refine sub3_0 (by assumption) ?_)
  | ((with_reducible show wpAny _ _ (subscriptTail _ _ (Value.ref _) (Value.int 1 _)) _ _ _); refine sub3_1 (by assumption) ?_)
  | ((with_reducible show wpAny _ _ (subscriptTail _ _ (Value.ref _) (Value.int 2 _)) _ _ _); refine sub3_2 (by assumption) ?_)
  | ((fail_if_success (first | with_reducible show wpAny _ _ (call _ _ _) _ _ _ | with_reducible show wpAny _ _ (eval (Expr.ListComp _ _ _ _) _) _ _ _ | with_reducible show wpAny _ _ (eval (Expr.Name _ _) _) _ _ _ | with_reducible show wpAny _ _ (compareOp _ (Value.ref _) _) _ _ _ | with_reducible show wpAny _ _ (compareOp _ _ (Value.ref _)) _ _ _ | with_reducible show wpAny _ _ (getAttr (Value.ref _) _ _) _ _ _ | with_reducible show wpAny _ _ (subscriptTail _ _ _ _) _ _ _ | with_reducible show wpAny _ _ (binaryOp _ (Value.ref _) _) _ _ _)); (first | with_reducible show wpAny _ _ _ _ _ _ | with_reducible show (if _ then _ else _)); walk1)))
/-- statement k of the law; kept shut, for an elaborator that looks into it runs the statement -/
@[irreducible] def Law (w : World) (A : Around) (k : Nat) (L : Addr) (Q : Flow → Shared → Prop) (E : Value → Shared → Prop) (s : Shared) : Prop := wpAny (M w) A (exec (lawStmt k) (lawEnv L)) Q E s
theorem Law.out {k : Nat} {Q : Flow → Shared → Prop} {E : Value → Shared → Prop} (h : wpAny (M w) A (exec (lawStmt k) (lawEnv L)) Q E s) : Law w A k L Q E s := by
  unfold Law
  exact h
theorem Law.cons {k : Nat} {rest : List Stmt} {Q : Flow → Shared → Prop} {E : Value → Shared → Prop} (h : Law w A k L (fun f s' => match f with | .next => wpAny (M w) A (execs rest (lawEnv L)) Q E s' | f => Q f s') E s) :
    wpAny (M w) A (execs (lawStmt k :: rest) (lawEnv L)) Q E s := by
  unfold Law at h
  exact wpAny_execs_cons h
theorem st21 {Q : Flow → Shared → Prop} {E : Value → Shared → Prop} {a p d rl : Addr} {c1 f1 n1 : Int} {t1 t2 t3 : Tok} {zs ys : List Value} {ds : List Trip} (l : LF w S L B m s) (c : Scr S L B sl vs ns) (hA : Sm 19 A) {fv : Value} (hm0 : m (Str.ofString "first") = some fv)
    (hm1 : m (Str.ofString "made") = some (.ref d)) (hm2 : m (Str.ofString "one") = some (.ref a)) (hm5 : m (Str.ofString "rows") = some (.ref rl)) (T1 : TagIs B a c1 f1 n1 t1 t2 t3 p) (H : SetIs B d (.ref a) zs ds) (hr : B.get? rl = some (lst ys)) (hR : All2 (RowIs B) ys ds) (hlen : zs.length ≤ 4)
    (h : ∀ m' s', LF w S L B m' s' → (∀ x, x ≠ Str.ofString "low" → x ≠ Str.ofString "high" → x ≠ Str.ofString "cut" → m' x = m x) → Q .next s') :
    Law w A 21 L Q E s := by
  refine Law.out ?_
  conv in (lawStmt 21) => whnf
  have X := l.X
  obtain ⟨_, _, _, TT⟩ := l.T
  have F := l.F
  refine law_for (S := S) (m := m) (fun m' => ∀ x, x ≠ Str.ofString "low" → x ≠ Str.ofString "high" → x ≠ Str.ofString "cut" → m' x = m x) (via (fun v s' => ∃ qq q0 q1 q2 q3 t1 t2 x y tx ty, v = .ref qq ∧ LF w S L B m s' ∧ s'.heap.get? q0 = some (tupObj [.none, .none]) ∧ s'.heap.get? q1 = some (tupObj [.int 1 t1, .none]) ∧ s'.heap.get? q2 = some (tupObj [.none, .int (-1) t2]) ∧
    s'.heap.get? q3 = some (tupObj [.int x tx, .int y ty]) ∧ s'.heap.get? qq = some (tupObj [.ref q0, .ref q1, .ref q2, .ref q3])) (fun Q' hQ' => ?_) (fun v s₁ hv => ?_))
  clear h
  kwd_rel
  refine law_tup l fun q0 s₁ l k1 h0 => ?_
  have F := l.F
  kwd_rel
  refine law_tup l fun q1 s₂ l k2 h1 => ?_
  have F := l.F
  kwd_rel
  refine law_tup l fun q2 s₃ l k3 h2 => ?_
  have F := l.F
  have K := l.base
  kwd_rel
  refine ⟨l.cx.X, ?_⟩
  refine Gv.use (law_at (i := 13) (d := 1) (by exact l.cx) (hA.lower (by omega)) (l.F.lst c.list) c.hi c.hn (by decide)) fun v s₄ k4 hv => ?_
  obtain ⟨u1, rfl⟩ := hv
  have l := l.kp2 k4
  have F := l.F
  have K := l.base
  kwd_rel
  refine ⟨l.cx.X, ?_⟩
  refine Gv.use (law_at (i := 14) (d := 3) (by exact l.cx) (hA.lower (by omega)) (l.F.lst c.list) c.hi c.hn (by decide)) fun v s₅ k5 hv => ?_
  obtain ⟨u2, rfl⟩ := hv
  have l := l.kp2 k5
  have F := l.F
  kwd_rel
  refine law_tup l fun q3 s₆ l k6 h3 => ?_
  have F := l.F
  kwd_rel
  refine law_tup l fun qq s₇ l k7 hq => ?_
  have h2 := k7 _ _ (k6 _ _ (k5.keep _ _ (k4.keep _ _ h2)))
  have h1 := k7 _ _ (k6 _ _ (k5.keep _ _ (k4.keep _ _ (k3 _ _ h1))))
  have h0 := k7 _ _ (k6 _ _ (k5.keep _ _ (k4.keep _ _ (k3 _ _ (k2 _ _ h0)))))
  have h3 := k7 _ _ h3
  exact hQ' _ _ ⟨qq, q0, q1, q2, q3, _, _, _, _, _, _, rfl, l, h0, h1, h2, h3, hq⟩
  obtain ⟨qq, q0, q1, q2, q3, u1, u2, x, y, tx, ty, rfl, l, h0, h1, h2, h3, hq⟩ := hv
  have hlow := l.low
  have b0 := l.stay hm0 stay_tup h0
  have b1 := l.stay hm0 stay_tup h1
  have b2 := l.stay hm0 stay_tup h2
  have b3 := l.stay hm0 stay_tup h3
  have hb0 := l.up.2
  have l := l.up.1
  generalize off s₁.heap L = B₁ at b0 b1 b2 b3 hb0 l
  refine ⟨B₁, 4, _, l, src_tup (items := #[.ref q0, .ref q1, .ref q2, .ref q3]) hA.handled ⟨_, hq, rfl, _, rfl⟩, by intro _ _ _ _; first | trivial | rfl, ?_, fun m' s' l hJ => h m' s' (l.back hb0 hlow) hJ⟩
  intro i v B₂ m₂ s₃ E' hi hv l hb hJ
  obtain ⟨q, vl, vu, lo, hi', rfl, hqv, pl, pu⟩ : ∃ q vl vu lo hi, v = .ref q ∧ B₁.get? q = some (tupObj [vl, vu]) ∧ IsPart vl lo ∧ IsPart vu hi := by
    match i, hi, hv with
    | 0, _, hv => cases hv; exact ⟨_, _, _, _, _, rfl, b0, .none, .none⟩
    | 1, _, hv => cases hv; exact ⟨_, _, _, _, _, rfl, b1, .int _ _, .none⟩
    | 2, _, hv => cases hv; exact ⟨_, _, _, _, _, rfl, b2, .none, .int _ _⟩
    | 3, _, hv => cases hv; exact ⟨_, _, _, _, _, rfl, b3, .int _ _, .int _ _⟩
  have hm1 : m₂ (Str.ofString "made") = some (.ref d) := (hJ _ (by decide) (by decide) (by decide)).trans hm1
  have hm2 : m₂ (Str.ofString "one") = some (.ref a) := (hJ _ (by decide) (by decide) (by decide)).trans hm2
  have hm5 : m₂ (Str.ofString "rows") = some (.ref rl) := (hJ _ (by decide) (by decide) (by decide)).trans hm5
  have hm0 : m₂ (Str.ofString "first") = some fv := (hJ _ (by decide) (by decide) (by decide)).trans hm0
  refine law_pair l hA.handled (l.base _ _ (hb _ _ hqv)) rfl rfl fun s₄ l => ?_
  have H : SetIs B₂ d (.ref a) zs ds := H.keep fun b o e => hb _ _ (hb0 _ _ e)
  have T1 := T1.keep fun b o e => hb _ _ (hb0 _ _ e)
  have hr := hb _ _ (hb0 _ _ hr)
  have hR : All2 (RowIs B₂) ys ds := hR.mono fun v d h => h.keep fun b o e => hb _ _ (hb0 _ _ e)
  have F := l.F
  refine wpAny_execs_cons (wpAny_Assign_Name ?_)
  kwd_rel
  refine set_sub (by exact l.cx) (hA.lower (by omega)) (H.keep l.base) pl pu rfl (by omega) fun ca s₅ k₅ HC => ?_
  have l := l.kp2 k₅
  have HC := l.stay (by kpf_close) stay_set HC
  have hb5 := l.up.2
  have l := l.up.1
  refine law_st l fun s₆ l _ => ?_
  have F := l.F
  have T1 := T1.keep hb5
  have hr := hb5 _ _ hr
  have hR := hR.mono fun v d h => RowIs.keep h hb5
  have hzl : (kms_pick zs lo hi').length ≤ 4 := by
    unfold kms_pick
    rw [List.length_take, List.length_drop]
    omega
  refine wpAny_execs_cons ?_
  kwd_rel
  refine isi_set l.cx.X (HC.keep l.base) ?_
  kwd_rel
  refine Gv.use (baseTag_get (k := 5) (by exact l.cx) (hA.lower (by omega)) (HC.keep l.base) rfl) fun v s₁ k₁ hv => ?_
  subst hv
  have l := l.kp2 k₁
  have F := l.F
  kwd_rel
  rw [ce_ord rfl]
  refine Gv.use (cmp_key (k := 5) (d := .pair (c1, n1)) (e := .pair (c1, n1)) (by exact l.cx) (hA.lower (by omega)) rfl (cls_Tag w) ((tagKey T1).keep l.base) ((tagKey T1).keep l.base) trivial) fun v s₂ k₂ hv => ?_
  subst hv
  have l := l.kp2 k₂
  have F := l.F
  rw [cmpCK_ne_self]
  kwd_rel
  refine rows_comp l (hA.lower (by omega)) (by kpf_close) (HC.keep l.base) (by omega) rfl (by decide) rfl (by decide) rfl (fun _ => rfl) (fun _ => rfl) rfl (by decide) fun D rs s₇ k₇ hD hlr hRr => ?_
  have l := l.kp2 k₇
  have F := l.F
  kwd_rel
  refine ⟨l.cx.X, ?_⟩
  refine Gv.use (law_row (by exact l.cx) (hA.lower (by omega)) hD hRr (by omega)) fun v s₈ k₈ R1 => ?_
  have l := l.kp2 k₈
  have F := l.F
  kwd_rel
  have hly : ys.length = zs.length := by rw [hR.1, H.tags.1]
  refine slice_list' (l.base _ _ hr) pl pu (by omega) fun q5 s₉ k₉ hq5 => ?_
  have R1 := R1.keep k₉.keep
  have l := l.kp2 k₉
  have F := l.F
  kwd_rel
  refine ⟨l.cx.X, ?_⟩
  refine Gv.use (law_row (by exact l.cx) (hA.lower (by omega)) hq5 (All2.cut (hR.mono fun v d h => RowIs.keep h l.base)) (by unfold kms_pick; rw [List.length_take, List.length_drop]; omega)) fun v2 s₁₀ k₁₀ R2 => ?_
  have R1 := R1.keep k₁₀.keep
  have l := l.kp2 k₁₀
  have F := l.F
  rw [hly] at R2
  kwd_rel
  rw [ce_ord rfl]
  refine rc_row (op := .NotEq) rfl R1 R2 (by have := hA.units; show A.units + 1 < 9900; omega) _ _ _ _ ?_
  rw [cmpRow_ne_self]
  kwd_rel
  refine ⟨rfl, _, _, l, hb5, fun x h1 h2 h3 => ?_⟩
  rw [if_neg h3, if_neg h2, if_neg h1]
  exact hJ x h1 h2 h3
end
end Mine
end
section
set_option maxRecDepth 100000
set_option maxHeartbeats 4000000
open PySem PySem.W PyProof.Rows
namespace Mine
open PyProof.Rows.LCg (lst lst_snoc)
local macro_rules | `(tactic| ktr_rel) => `(tactic| repeat ((fail_if_success (first | with_reducible show wpAny _ _ (call _ _ _) _ _ _ | with_reducible show wpAny _ _ (eval (Expr.ListComp _ _ _ _) _) _ _ _ | with_reducible show wpAny _ _ (compareOp _ (Value.ref _) _) _ _ _ | with_reducible show wpAny _ _ (compareOp _ _ (Value.ref _)) _ _ _ | with_reducible show wpAny _ _ (getAttr (Value.ref _) _ _) _ _ _ | with_reducible show wpAny _ _ (subscriptTail _ _ _ _) _ _ _ | with_reducible show wpAny _ _ (binaryOp _ (Value.ref _) _) _ _ _)); walk1))
local macro_rules | `(tactic| tb_start) => `(tactic| first
  | (with_reducible refine' tagClass_own ?zX ?zT ?_; (case zX => k_in); (case zT => exact TagIs.keep (by assumption) (Fr.keep (by assumption))))
  | (with_reducible refine' tagFormat_own ?zX ?zT ?_; (case zX => k_in); (case zT => exact TagIs.keep (by assumption) (Fr.keep (by assumption))))
  | (with_reducible refine' tagId_own ?zX ?zT ?_; (case zX => k_in); (case zT => exact TagIs.keep (by assumption) (Fr.keep (by assumption))))
  | (with_reducible refine' tagClassId_own ?zX ?zT ?_; (case zX => k_in); (case zT => exact TagIs.keep (by assumption) (Fr.keep (by assumption))))
  | (with_reducible refine' tagClass_use ?zC ?zA ?zT ?_; (case zC => exact Cx.keep (by assumption) (Fr.keep (by assumption))); (case zA => exact Sm.lower (by assumption) (by omega)); (case zT => exact TagIs.keep (by assumption) (Fr.keep (by assumption))); intro s₁ k₁; (have F := Fr.keeps (by assumption) (Kp.keep k₁)))
  | (with_reducible refine' tagFormat_use ?zC ?zA ?zT ?_; (case zC => exact Cx.keep (by assumption) (Fr.keep (by assumption))); (case zA => exact Sm.lower (by assumption) (by omega)); (case zT => exact TagIs.keep (by assumption) (Fr.keep (by assumption))); intro s₁ k₁; (have F := Fr.keeps (by assumption) (Kp.keep k₁)))
  | (with_reducible refine' tagId_use ?zC ?zA ?zT ?_; (case zC => exact Cx.keep (by assumption) (Fr.keep (by assumption))); (case zA => exact Sm.lower (by assumption) (by omega)); (case zT => exact TagIs.keep (by assumption) (Fr.keep (by assumption))); intro s₁ k₁; (have F := Fr.keeps (by assumption) (Kp.keep k₁))))
local macro_rules | `(tactic| tb_rel) => `(tactic| first | assumption | exact Kp.refl _ | (refine Kp.trans ?_ (by assumption); tb_rel) | (refine Kp.toks ?_; tb_rel))
local macro_rules | `(tactic| ktd_rel) => `(tactic| repeat' ((first | with_reducible show wpAny _ _ _ _ _ _ | with_reducible show (if _ then _ else _)); walk1))
section
variable {w : World} {A : Around} {s : Shared}
theorem fills_not {M : Model} {h : Heap} {nm : String} (X : (hd.heap_39 w.params).In h) (h1 : findIn (hd.heap_39 w.params) (.ref 181) (PySem.dunder nm) = some none) (h2 : findIn (hd.heap_39 w.params) (.ref 181) (dunderR nm) = some none) (h3 : findIn (hd.heap_39 w.params) (.type "object") (PySem.dunder nm) = some none) (h4 : findIn (hd.heap_39 w.params) (.type "object") (dunderR nm) = some none) :
    Looks M h (fillsNumberSlot (.ref 181) nm) false := by
  obtain ⟨cd, hc, hm⟩ : ∃ cd, clsIn (hd.heap_39 w.params) 181 = some cd ∧ cd.mro = [.ref 181, .type "object"] := by
    have e : (clsIn (hd.heap_39 w.params) 181).map (·.mro) = some [.ref 181, .type "object"] := by rfl
    cases q : clsIn (hd.heap_39 w.params) 181 with
    | none => rw [q] at e; cases e
    | some cd => rw [q] at e; exact ⟨cd, rfl, Option.some.inj e⟩
  intro A Q E s k q
  obtain ⟨hh, g, d, tt, os⟩ := s
  have X' : (hd.heap_39 w.params).In hh := X.keeps k
  have L0 : Looks M hh (mroOf (.ref 181)) [.ref 181, .type "object"] := hm ▸ (looks_clsIn X' hc).andThen .now
  have L1 : Looks M hh (typeLookup (.ref 181) (PySem.dunder nm)) none := looks_findIn X' h1
  have L2 : Looks M hh (typeLookup (.ref 181) (dunderR nm)) none := looks_findIn X' h2
  have L3 : Looks M hh (typeLookup (.type "object") (PySem.dunder nm)) none := looks_findIn X' h3
  have L4 : Looks M hh (typeLookup (.type "object") (dunderR nm)) none := looks_findIn X' h4
  unfold fillsNumberSlot
  repeat (first | simp only [List.anyM_cons, List.anyM_nil] | lk)
  exact q
theorem fills_yes {M : Model} {h : Heap} (X : (hd.heap_39 w.params).In h) : Looks M h (fillsNumberSlot (.ref 321) "add") true := by
  obtain ⟨cd, hc, hm⟩ : ∃ cd, clsIn (hd.heap_39 w.params) 321 = some cd ∧ cd.mro = [.ref 321, .type "object"] := by
    have e : (clsIn (hd.heap_39 w.params) 321).map (·.mro) = some [.ref 321, .type "object"] := by rfl
    cases q : clsIn (hd.heap_39 w.params) 321 with
    | none => rw [q] at e; cases e
    | some cd => rw [q] at e; exact ⟨cd, rfl, Option.some.inj e⟩
  have h1 : findIn (hd.heap_39 w.params) (.ref 321) "__add__" = some (some (.ref 211)) := by k_is
  exact fills_K X hc hm h1
/-- a tag set + a tag -/
theorem bin_left {x b : Addr} {ox ob : Obj} {od od' : Option Obj} {E Q : Value → Shared → Prop} (X : (hd.heap_39 w.params).In s.heap) (I : InstAt s.heap x ox 321 od) (I' : InstAt s.heap b ob 181 od')
    (h : wpAny (M w) A (call (.ref 211) [.ref x, .ref b]) (W.CmpBack Q) E s) : wpAny (M w) A (binaryOp .Add (.ref x) (.ref b)) Q E s := by
  have h1 : findIn (hd.heap_39 w.params) (.ref 321) "__add__" = some (some (.ref 211)) := by k_is
  have h2 : isFn (hd.heap_39 w.params) (.ref 211) = true := by k_is
  have n1 : findIn (hd.heap_39 w.params) (.ref 181) "__add__" = some none := by k_is
  have n2 : findIn (hd.heap_39 w.params) (.ref 181) "__radd__" = some none := by k_is
  have n3 : findIn (hd.heap_39 w.params) (.type "object") "__add__" = some none := by k_is
  have n4 : findIn (hd.heap_39 w.params) (.type "object") "__radd__" = some none := by k_is
  have one := ksp_try X I h1 h2 h
  have L3 := fills_yes (M := M w) X
  have L4 := fills_not (M := M w) (nm := "add") X n1 n2 n3 n4
  obtain ⟨hh, g, d, tt, os⟩ := s
  have L1 : Looks (M w) hh (typeOf (.ref x)) (.ref 321) := I.type
  have L2 : Looks (M w) hh (typeOf (.ref b)) (.ref 181) := I'.type
  have hne : (Value.ref 321 == Value.ref 181) = false := by decide
  show wpAny _ _ (holding _ _) _ _ _
  simp only [Operator.info]
  refine wpAny_holding (wpAny_bind ?_)
  unfold binaryOp1
  refine wpAny_bind (L1.at (wpAny_bind (L2.at (wpAny_bind (L3.at ?_)))))
  simp only [hne, Bool.false_eq_true, if_false]
  ksp_lk
  refine wpAny_mono one (fun r s' hr' => ?_) fun _ _ e => e
  obtain ⟨v, rfl, hq⟩ := hr'
  ksp_lk
  exact hq
/-- a tag + a tag set -/
theorem bin_right {x b : Addr} {ox ob : Obj} {od od' : Option Obj} {E Q : Value → Shared → Prop} (X : (hd.heap_39 w.params).In s.heap) (I : InstAt s.heap x ox 321 od) (I' : InstAt s.heap b ob 181 od')
    (h : wpAny (M w) A (call (.ref 218) [.ref x, .ref b]) (W.CmpBack Q) E s) : wpAny (M w) A (binaryOp .Add (.ref b) (.ref x)) Q E s := by
  have h1 : findIn (hd.heap_39 w.params) (.ref 321) "__radd__" = some (some (.ref 218)) := by k_is
  have h2 : isFn (hd.heap_39 w.params) (.ref 218) = true := by k_is
  have n1 : findIn (hd.heap_39 w.params) (.ref 181) "__add__" = some none := by k_is
  have n2 : findIn (hd.heap_39 w.params) (.ref 181) "__radd__" = some none := by k_is
  have n3 : findIn (hd.heap_39 w.params) (.type "object") "__add__" = some none := by k_is
  have n4 : findIn (hd.heap_39 w.params) (.type "object") "__radd__" = some none := by k_is
  have one := ksp_try X I h1 h2 h
  have L3 := fills_yes (M := M w) X
  have L4 := fills_not (M := M w) (nm := "add") X n1 n2 n3 n4
  obtain ⟨hh, g, d, tt, os⟩ := s
  have L1 : Looks (M w) hh (typeOf (.ref x)) (.ref 321) := I.type
  have L2 : Looks (M w) hh (typeOf (.ref b)) (.ref 181) := I'.type
  have hne : (Value.ref 181 == Value.ref 321) = false := by decide
  show wpAny _ _ (holding _ _) _ _ _
  simp only [Operator.info]
  refine wpAny_holding (wpAny_bind ?_)
  unfold binaryOp1
  refine wpAny_bind (L2.at (wpAny_bind (L1.at (wpAny_bind (L4.at ?_)))))
  simp only [hne, Bool.false_eq_true, if_false]
  ksp_lk
  refine wpAny_mono one (fun r s' hr' => ?_) fun _ _ e => e
  obtain ⟨v, rfl, hq⟩ := hr'
  ksp_lk
  exact hq
end
end Mine
end
section
set_option maxRecDepth 100000
set_option maxHeartbeats 4000000
open PySem PySem.W PyProof.Rows
namespace Mine
open PyProof.Rows.LCg (lst lst_snoc)
local macro_rules | `(tactic| ktr_rel) => `(tactic| repeat ((fail_if_success (first | with_reducible show wpAny _ _ (call _ _ _) _ _ _ | with_reducible show wpAny _ _ (eval (Expr.ListComp _ _ _ _) _) _ _ _ | with_reducible show wpAny _ _ (compareOp _ (Value.ref _) _) _ _ _ | with_reducible show wpAny _ _ (compareOp _ _ (Value.ref _)) _ _ _ | with_reducible show wpAny _ _ (getAttr (Value.ref _) _ _) _ _ _ | with_reducible show wpAny _ _ (subscriptTail _ _ _ _) _ _ _ | with_reducible show wpAny _ _ (binaryOp _ (Value.ref _) _) _ _ _)); walk1))
local macro_rules | `(tactic| tb_start) => `(tactic| first
  | (with_reducible refine' tagClass_own ?zX ?zT ?_; (case zX => k_in); (case zT => exact TagIs.keep (by assumption) (Fr.keep (by assumption))))
  | (with_reducible refine' tagFormat_own ?zX ?zT ?_; (case zX => k_in); (case zT => exact TagIs.keep (by assumption) (Fr.keep (by assumption))))
  | (with_reducible refine' tagId_own ?zX ?zT ?_; (case zX => k_in); (case zT => exact TagIs.keep (by assumption) (Fr.keep (by assumption))))
  | (with_reducible refine' tagClassId_own ?zX ?zT ?_; (case zX => k_in); (case zT => exact TagIs.keep (by assumption) (Fr.keep (by assumption))))
  | (with_reducible refine' tagClass_use ?zC ?zA ?zT ?_; (case zC => exact Cx.keep (by assumption) (Fr.keep (by assumption))); (case zA => exact Sm.lower (by assumption) (by omega)); (case zT => exact TagIs.keep (by assumption) (Fr.keep (by assumption))); intro s₁ k₁; (have F := Fr.keeps (by assumption) (Kp.keep k₁)))
  | (with_reducible refine' tagFormat_use ?zC ?zA ?zT ?_; (case zC => exact Cx.keep (by assumption) (Fr.keep (by assumption))); (case zA => exact Sm.lower (by assumption) (by omega)); (case zT => exact TagIs.keep (by assumption) (Fr.keep (by assumption))); intro s₁ k₁; (have F := Fr.keeps (by assumption) (Kp.keep k₁)))
  | (with_reducible refine' tagId_use ?zC ?zA ?zT ?_; (case zC => exact Cx.keep (by assumption) (Fr.keep (by assumption))); (case zA => exact Sm.lower (by assumption) (by omega)); (case zT => exact TagIs.keep (by assumption) (Fr.keep (by assumption))); intro s₁ k₁; (have F := Fr.keeps (by assumption) (Kp.keep k₁))))
local macro_rules | `(tactic| tb_rel) => `(tactic| first | assumption | exact Kp.refl _ | (refine Kp.trans ?_ (by assumption); tb_rel) | (refine Kp.toks ?_; tb_rel))
local macro_rules | `(tactic| ktd_rel) => `(tactic| repeat' ((first | with_reducible show wpAny _ _ _ _ _ _ | with_reducible show (if _ then _ else _)); walk1))
section
variable {w : World} {A : Around} {S s s' : Shared} {L : Addr} {B : Heap} {m : Str → Option Value} {a b p : Addr} {base : Value} {zs : List Value} {ds : List Trip}
theorem cat_tuple {t u : Addr} {xs ys : List Value} {E Q : Value → Shared → Prop} (ht : s.heap.get? t = some (tupObj xs)) (hu : s.heap.get? u = some (tupObj ys)) (hz : xs.length + ys.length ≤ 1000)
    (h : ∀ q s', Kp s s' → s'.heap.get? q = some (tupObj (xs ++ ys)) → Q (.ref q) s') : wpAny (M w) A (binaryOp .Add (.ref t) (.ref u)) Q E s := by
  have hT : s.TypeIs (.ref t) "tuple" := ⟨_, ht, rfl⟩
  have hU : s.TypeIs (.ref u) "tuple" := ⟨_, hu, rfl⟩
  by_cases h1 : xs.toArray.isEmpty = true
  · have e1 : xs = [] := by simpa using h1
    subst e1
    exact concat_meets hT hU noFill_tuple_add seq_tuple_add F.slot_tuple_add F.entry_tuple_add (F.args_tuple_add_2 _ _) (PySem.AutoSeq1.tuple___add___tuple_tuple_0 t _ 0 u _ 0 h1) ⟨ht, hu, h u s (Kp.refl s) hu⟩
  · by_cases h2 : ys.toArray.isEmpty = true
    · have e2 : ys = [] := by simpa using h2
      subst e2
      exact concat_meets hT hU noFill_tuple_add seq_tuple_add F.slot_tuple_add F.entry_tuple_add (F.args_tuple_add_2 _ _) (PySem.AutoSeq1.tuple___add___tuple_tuple_1 t _ 0 u _ 0 h1 h2) ⟨ht, hu, h t s (Kp.refl s) (by rw [List.append_nil]; exact ht)⟩
    · have hh := h s.heap.objs.size { s with heap := s.heap.push (tupObj (xs ++ ys)) } (Kp.heap fun _ _ e => Heap.get?_push_of_some _ e) (Heap.get?_push_size _ rfl)
      rw [tupObj, ← List.append_toArray] at hh
      exact concat_meets hT hU noFill_tuple_add seq_tuple_add F.slot_tuple_add F.entry_tuple_add (F.args_tuple_add_2 _ _) (PySem.AutoSeq1.tuple___add___tuple_tuple_2 t _ 0 u _ 0 h1 h2 (by rw [List.size_toArray, List.size_toArray, sizeLine_eq]; omega)) ⟨ht, hu, hh⟩
theorem All2.cons {R : Value → Trip → Prop} {ys : List Value} {ds : List Trip} {v : Value} {d : Trip} (H : All2 R ys ds) (h : R v d) : All2 R (v :: ys) (d :: ds) := by
  refine ⟨by simp [H.1], fun j h1 h2 => ?_⟩
  cases j with
  | zero => exact h
  | succ j => exact H.2 j (by simpa using h1) (by simpa using h2)
theorem All2.snoc {R : Value → Trip → Prop} {ys : List Value} {ds : List Trip} {v : Value} {d : Trip} (H : All2 R ys ds) (h : R v d) : All2 R (ys ++ [v]) (ds ++ [d]) := by
  refine ⟨by simp [H.1], fun j h1 h2 => ?_⟩
  by_cases hj : j < ys.length
  · rw [List.getElem_append_left hj, List.getElem_append_left (H.1 ▸ hj)]
    exact H.2 j _ _
  · have e1 : j = ys.length := by rw [List.length_append, List.length_singleton] at h1; omega
    have e2 : j = ds.length := by rw [← H.1]; exact e1
    rw [List.getElem_append_right (by omega), List.getElem_append_right (by omega)]
    simpa [e1, H.1] using h
theorem set_add (C : Cx w s.heap) (hA : Sm 10 A) (T : SetIs s.heap a base zs ds) (hv : handedIn base = true) {d : Trip} (hb : TagV s.heap (.ref b) d) (hz : zs.length ≤ 4) :
    Gv w A (call (.ref 211) [.ref a, .ref b]) (fun v s' => ∃ c, v = .ref c ∧ SetIs s'.heap c base (zs ++ [.ref b]) (ds ++ [d])) s := by
  have X := C.X
  obtain ⟨_, _, _, TT⟩ := C.T
  refine call_fn (binds := [(Str.ofString "self", .ref a), (Str.ofString "superTag", .ref b)]) C hA (by k_is) (by k_is) (by exact BindsTo.of_eq rfl) (by exact locs rfl) (by decide) (by rfl) (by rfl) (by rfl) fun L s₀ k₀ F hA' => ?_
  refine wpAny_execs_cons (wpAny_Return_some ?_)
  ktr_rel
  refine baseTag_own (X.keeps k₀.keep) (T.keep k₀.keep) hv ?_
  ktr_rel
  refine superTags_own (X.keeps k₀.keep) (T.keep k₀.keep) fun st hst => ?_
  ktr_rel
  refine wpAny_newTuple ?_
  refine cat_tuple (Heap.get?_push_of_some _ hst) (Heap.get?_push_size _ rfl) (by show zs.length + 1 ≤ 1000; omega) fun q s₁ k₁ hq => ?_
  have K : Kp s s₁ := k₀.trans ((Kp.heap fun _ _ e => Heap.get?_push_of_some _ e).trans k₁)
  refine star_seq' hq rfl rfl (.inr rfl) (by rw [List.size_toArray, sizeLine_eq, List.length_append]; show zs.length + 1 ≤ _; omega) fun h' kk => ?_
  have K := K.trans (Kp.heap (tk := s₁.toks) kk)
  ktr_rel
  · exact X.keeps K.keep
  · rw [List.append_nil]
    refine (set_new (s := ⟨h', s₁.gens, s₁.drawn, s₁.toks, s₁.os⟩) (zs := zs ++ [.ref b]) (ds := ds ++ [d]) (C.keep K.keep) (hA'.lower (by omega)) (All2.snoc (T.tags.mono fun v d h => h.keep K.keep) (hb.keep K.keep)) (by rw [List.length_append]; show zs.length + 1 ≤ 5; omega)).use fun v s₂ k₂ hv => ?_
    exact ⟨K.trans k₂, hv⟩
theorem set_radd (C : Cx w s.heap) (hA : Sm 10 A) (T : SetIs s.heap a base zs ds) (hv : handedIn base = true) {d : Trip} (hb : TagV s.heap (.ref b) d) (hz : zs.length ≤ 4) :
    Gv w A (call (.ref 218) [.ref a, .ref b]) (fun v s' => ∃ c, v = .ref c ∧ SetIs s'.heap c base (.ref b :: zs) (d :: ds)) s := by
  have X := C.X
  obtain ⟨_, _, _, TT⟩ := C.T
  refine call_fn (binds := [(Str.ofString "self", .ref a), (Str.ofString "superTag", .ref b)]) C hA (by k_is) (by k_is) (by exact BindsTo.of_eq rfl) (by exact locs rfl) (by decide) (by rfl) (by rfl) (by rfl) fun L s₀ k₀ F hA' => ?_
  refine wpAny_execs_cons (wpAny_Return_some ?_)
  ktr_rel
  refine baseTag_own (X.keeps k₀.keep) (T.keep k₀.keep) hv ?_
  ktr_rel
  refine wpAny_newTuple ?_
  have F := F.push { cls := .type "tuple", data := .seq [Value.ref b].toArray }
  ktr_rel
  refine' superTags_own ?zx ?zt ?zh
  case zx => exact X.keeps fun b o e => Heap.get?_push_of_some _ (k₀.keep b o e)
  case zt => exact T.keep fun b o e => Heap.get?_push_of_some _ (k₀.keep b o e)
  intro st hst
  ktr_rel
  refine cat_tuple (Heap.get?_push_size _ rfl) hst (by show 1 + zs.length ≤ 1000; omega) fun q s₁ k₁ hq => ?_
  have K : Kp s s₁ := k₀.trans ((Kp.heap fun _ _ e => Heap.get?_push_of_some _ e).trans ((Kp.heap fun _ _ e => e).trans k₁))
  refine star_seq' hq rfl rfl (.inr rfl) (by rw [List.size_toArray, sizeLine_eq]; show zs.length + 1 ≤ _; omega) fun h' kk => ?_
  have K := K.trans (Kp.heap (tk := s₁.toks) kk)
  ktr_rel
  · exact X.keeps K.keep
  · rw [List.append_nil]
    refine (set_new (s := ⟨h', s₁.gens, s₁.drawn, s₁.toks, s₁.os⟩) (zs := .ref b :: zs) (ds := d :: ds) (C.keep K.keep) (hA'.lower (by omega)) (All2.cons (T.tags.mono fun v d h => h.keep K.keep) (hb.keep K.keep)) (by show zs.length + 1 ≤ 5; omega)).use fun v s₂ k₂ hv => ?_
    exact ⟨K.trans k₂, hv⟩
end
end Mine
end
section
set_option maxRecDepth 100000
set_option maxHeartbeats 4000000
open PySem PySem.W PyProof.Rows
namespace Mine
open PyProof.Rows.LCg (lst lst_snoc)
local macro_rules | `(tactic| ktr_rel) => `(tactic| repeat ((fail_if_success (first | with_reducible show wpAny _ _ (call _ _ _) _ _ _ | with_reducible show wpAny _ _ (eval (Expr.ListComp _ _ _ _) _) _ _ _ | with_reducible show wpAny _ _ (compareOp _ (Value.ref _) _) _ _ _ | with_reducible show wpAny _ _ (compareOp _ _ (Value.ref _)) _ _ _ | with_reducible show wpAny _ _ (getAttr (Value.ref _) _ _) _ _ _ | with_reducible show wpAny _ _ (subscriptTail _ _ _ _) _ _ _ | with_reducible show wpAny _ _ (binaryOp _ (Value.ref _) _) _ _ _)); walk1))
local macro_rules | `(tactic| tb_start) => `(tactic| first
  | (with_reducible refine' tagClass_own ?zX ?zT ?_; (case zX => k_in); (case zT => exact TagIs.keep (by assumption) (Fr.keep (by assumption))))
  | (with_reducible refine' tagFormat_own ?zX ?zT ?_; (case zX => k_in); (case zT => exact TagIs.keep (by assumption) (Fr.keep (by assumption))))
  | (with_reducible refine' tagId_own ?zX ?zT ?_; (case zX => k_in); (case zT => exact TagIs.keep (by assumption) (Fr.keep (by assumption))))
  | (with_reducible refine' tagClassId_own ?zX ?zT ?_; (case zX => k_in); (case zT => exact TagIs.keep (by assumption) (Fr.keep (by assumption))))
  | (with_reducible refine' tagClass_use ?zC ?zA ?zT ?_; (case zC => exact Cx.keep (by assumption) (Fr.keep (by assumption))); (case zA => exact Sm.lower (by assumption) (by omega)); (case zT => exact TagIs.keep (by assumption) (Fr.keep (by assumption))); intro s₁ k₁; (have F := Fr.keeps (by assumption) (Kp.keep k₁)))
  | (with_reducible refine' tagFormat_use ?zC ?zA ?zT ?_; (case zC => exact Cx.keep (by assumption) (Fr.keep (by assumption))); (case zA => exact Sm.lower (by assumption) (by omega)); (case zT => exact TagIs.keep (by assumption) (Fr.keep (by assumption))); intro s₁ k₁; (have F := Fr.keeps (by assumption) (Kp.keep k₁)))
  | (with_reducible refine' tagId_use ?zC ?zA ?zT ?_; (case zC => exact Cx.keep (by assumption) (Fr.keep (by assumption))); (case zA => exact Sm.lower (by assumption) (by omega)); (case zT => exact TagIs.keep (by assumption) (Fr.keep (by assumption))); intro s₁ k₁; (have F := Fr.keeps (by assumption) (Kp.keep k₁))))
local macro_rules | `(tactic| tb_rel) => `(tactic| first | assumption | exact Kp.refl _ | (refine Kp.trans ?_ (by assumption); tb_rel) | (refine Kp.toks ?_; tb_rel))
local macro_rules | `(tactic| ktd_rel) => `(tactic| repeat' ((first | with_reducible show wpAny _ _ _ _ _ _ | with_reducible show (if _ then _ else _)); walk1))
section
variable {w : World} {A : Around} {S s s' : Shared} {L : Addr} {B : Heap} {m : Str → Option Value} {sl : Addr} {vs : List Value} {ns : List Int}
local macro_rules | `(tactic| kpf_close) => `(tactic| first | assumption | exact if_pos rfl | (refine Eq.trans (if_neg (by decide)) ?_; kpf_close))
local macro_rules | `(tactic| kwd_rel) => `(tactic| repeat' (first
  | ((with_reducible show wpAny _ _ (eval (Expr.Name (Str.ofString "script") _) _) _ _ _); first | refine law_script (by assumption) (by assumption) ?_ | refine law_script (LF.base (by assumption)) (by assumption) ?_)
  | ((with_reducible show wpAny _ _ (eval (Expr.Name _ _) _) _ _ _); refine law_ld (by assumption) (by kpf_close) ?_)
  | ((with_reducible show wpAny _ _ (compareOp CmpOp.NotEq (Value.int _ _) (Value.int _ _)) _ _ _); with_reducible refine ne_int_same ?_)
  | ((with_reducible show wpAny _ _ (compareOp CmpOp.NotEq (Value.str _ _) (Value.str _ _)) _ _ _); first | with_reducible refine ne_str_same ?_ | refine ne_str_eq (by decide) ?_)
  | ((with_reducible show wpAny _ _ (subscriptTail _ _ (Value.ref _) (Value.int 0 _)) _ _ _); first | refine sub3_0 (by assumption) ?_ | refine sub2_0 (by assumption) ?_)
  | ((with_reducible show wpAny _ _ (subscriptTail _ _ (Value.ref _) (Value.int 1 _)) _ _ _); first | refine sub3_1 (by assumption) ?_ | refine sub2_1 (by assumption) ?_)
  | ((with_reducible show wpAny _ _ (subscriptTail _ _ (Value.ref _) (Value.int 2 _)) _ _ _); refine sub3_2 (by assumption) ?_)
  | ((fail_if_success (first | with_reducible show wpAny _ _ (call _ _ _) _ _ _ | with_reducible show wpAny _ _ (eval (Expr.Name (Str.ofString "script") _) _) _ _ _ | with_reducible show wpAny _ _ (eval (Expr.ListComp _ _ _ _) _) _ _ _ | with_reducible show wpAny _ _ (compareOp _ (Value.ref _) _) _ _ _ | with_reducible show wpAny _ _ (compareOp _ _ (Value.ref _)) _ _ _ | with_reducible show wpAny _ _ (getAttr (Value.ref _) _ _) _ _ _ | with_reducible show wpAny _ _ (subscriptTail _ _ _ _) _ _ _ | with_reducible show wpAny _ _ (binaryOp _ (Value.ref _) _) _ _ _)); (first | with_reducible show wpAny _ _ _ _ _ _ | with_reducible show (if _ then _ else _)); walk1)))
local macro_rules | `(tactic| kln_le) => `(tactic| repeat' (first
  | ((with_reducible show wpAny _ _ (eval (Expr.Name _ _) _) _ _ _); refine cm_L (by assumption) (by assumption) rfl ?_)
  | ((with_reducible show wpAny _ _ (eval (Expr.Name (Str.ofString "script") _) _) _ _ _); refine cm_C (by assumption) rfl rfl ?_)
  | ((with_reducible show wpAny _ _ (eval (Expr.Name _ _) _) _ _ _); refine cm_G (by assumption) (by k_is) rfl ?_)
  | ((with_reducible show wpAny _ _ (eval (Expr.Name _ _) _) _ _ _); fail "a name")
  | ((with_reducible show wpAny _ _ (subscriptTail _ _ (Value.ref _) (Value.int 0 _)) _ _ _); refine sub3_0 (by assumption) ?_)
  | ((with_reducible show wpAny _ _ (subscriptTail _ _ (Value.ref _) (Value.int 1 _)) _ _ _); refine sub3_1 (by assumption) ?_)
  | ((with_reducible show wpAny _ _ (subscriptTail _ _ (Value.ref _) (Value.int 2 _)) _ _ _); refine sub3_2 (by assumption) ?_)
  | ((fail_if_success (first | with_reducible show wpAny _ _ (call _ _ _) _ _ _ | with_reducible show wpAny _ _ (eval (Expr.ListComp _ _ _ _) _) _ _ _ | with_reducible show wpAny _ _ (eval (Expr.Name _ _) _) _ _ _ | with_reducible show wpAny _ _ (compareOp _ (Value.ref _) _) _ _ _ | with_reducible show wpAny _ _ (compareOp _ _ (Value.ref _)) _ _ _ | with_reducible show wpAny _ _ (getAttr (Value.ref _) _ _) _ _ _ | with_reducible show wpAny _ _ (subscriptTail _ _ _ _) _ _ _ | with_reducible show wpAny _ _ (binaryOp _ (Value.ref _) _) _ _ _)); (first | with_reducible show wpAny _ _ _ _ _ _ | with_reducible show (if _ then _ else _)); walk1)))
theorem st22 {Q : Flow → Shared → Prop} {E : Value → Shared → Prop} {a b d q : Addr} {c2 f2 n2 : Int} {u1 u2 u3 : Tok} {zs : List Value} {ds : List Trip} (l : LF w S L B m s) (hA : Sm 19 A) {fv : Value} (hm0 : m (Str.ofString "first") = some fv)
    (hm1 : m (Str.ofString "made") = some (.ref d)) (hm2 : m (Str.ofString "other") = some (.ref b)) (T2 : TagIs B b c2 f2 n2 u1 u2 u3 q) (H : SetIs B d (.ref a) zs ds) (hlen : zs.length ≤ 4)
    (h : ∀ B' s' c, LF w S L B' (fun y => if y = Str.ofString "behind" then some (.ref c) else m y) s' → (∀ b o, B.get? b = some o → B'.get? b = some o) → SetIs B' c (.ref a) (zs ++ [.ref b]) (ds ++ [⟨c2, f2, n2, u1, u2, u3⟩]) → Q .next s') :
    wpAny (M w) A (exec (lawStmt 22) (lawEnv L)) Q E s := by
  conv in (lawStmt 22) => whnf
  have X := l.X
  obtain ⟨_, _, _, TT⟩ := l.T
  have F := l.F
  refine wpAny_Assign_Name ?_
  kwd_rel
  obtain ⟨dx, od, I⟩ := (H.keep l.base).inst
  obtain ⟨dx', od', I'⟩ := (T2.keep l.base).inst
  refine bin_left l.cx.X I I' (Gv.use (set_add (d := ⟨c2, f2, n2, u1, u2, u3⟩) (by exact l.cx) (hA.lower (by omega)) (H.keep l.base) rfl ⟨b, q, rfl, T2.keep l.base⟩ hlen) fun v s₁ k₁ hv => ?_)
  obtain ⟨c, rfl, HC⟩ := hv
  have l := l.kp2 k₁
  have HC := l.stay hm0 stay_set HC
  have hb := l.up.2
  have l := l.up.1
  refine law_st l fun s₅ l _ => ?_
  exact h _ _ c l hb HC
theorem st23 {Q : Flow → Shared → Prop} {E : Value → Shared → Prop} {a b d q : Addr} {c2 f2 n2 : Int} {u1 u2 u3 : Tok} {zs : List Value} {ds : List Trip} (l : LF w S L B m s) (hA : Sm 19 A) {fv : Value} (hm0 : m (Str.ofString "first") = some fv)
    (hm1 : m (Str.ofString "made") = some (.ref d)) (hm2 : m (Str.ofString "other") = some (.ref b)) (T2 : TagIs B b c2 f2 n2 u1 u2 u3 q) (H : SetIs B d (.ref a) zs ds) (hlen : zs.length ≤ 4)
    (h : ∀ B' s' c, LF w S L B' (fun y => if y = Str.ofString "before" then some (.ref c) else m y) s' → (∀ b o, B.get? b = some o → B'.get? b = some o) → SetIs B' c (.ref a) (.ref b :: zs) (⟨c2, f2, n2, u1, u2, u3⟩ :: ds) → Q .next s') :
    wpAny (M w) A (exec (lawStmt 23) (lawEnv L)) Q E s := by
  conv in (lawStmt 23) => whnf
  have X := l.X
  obtain ⟨_, _, _, TT⟩ := l.T
  have F := l.F
  refine wpAny_Assign_Name ?_
  kwd_rel
  obtain ⟨dx, od, I⟩ := (H.keep l.base).inst
  obtain ⟨dx', od', I'⟩ := (T2.keep l.base).inst
  refine bin_right l.cx.X I I' (Gv.use (set_radd (d := ⟨c2, f2, n2, u1, u2, u3⟩) (by exact l.cx) (hA.lower (by omega)) (H.keep l.base) rfl ⟨b, q, rfl, T2.keep l.base⟩ hlen) fun v s₁ k₁ hv => ?_)
  obtain ⟨c, rfl, HC⟩ := hv
  have l := l.kp2 k₁
  have HC := l.stay hm0 stay_set HC
  have hb := l.up.2
  have l := l.up.1
  refine law_st l fun s₅ l _ => ?_
  exact h _ _ c l hb HC
end
end Mine
end
section
set_option maxRecDepth 100000
set_option maxHeartbeats 4000000
open PySem PySem.W PyProof.Rows
namespace Mine
open PyProof.Rows.LCg (lst lst_snoc)
local macro_rules | `(tactic| ktr_rel) => `(tactic| repeat ((fail_if_success (first | with_reducible show wpAny _ _ (call _ _ _) _ _ _ | with_reducible show wpAny _ _ (eval (Expr.ListComp _ _ _ _) _) _ _ _ | with_reducible show wpAny _ _ (compareOp _ (Value.ref _) _) _ _ _ | with_reducible show wpAny _ _ (compareOp _ _ (Value.ref _)) _ _ _ | with_reducible show wpAny _ _ (getAttr (Value.ref _) _ _) _ _ _ | with_reducible show wpAny _ _ (subscriptTail _ _ _ _) _ _ _ | with_reducible show wpAny _ _ (binaryOp _ (Value.ref _) _) _ _ _)); walk1))
local macro_rules | `(tactic| tb_start) => `(tactic| first
  | (with_reducible refine' tagClass_own ?zX ?zT ?_; (case zX => k_in); (case zT => exact TagIs.keep (by assumption) (Fr.keep (by assumption))))
  | (with_reducible refine' tagFormat_own ?zX ?zT ?_; (case zX => k_in); (case zT => exact TagIs.keep (by assumption) (Fr.keep (by assumption))))
  | (with_reducible refine' tagId_own ?zX ?zT ?_; (case zX => k_in); (case zT => exact TagIs.keep (by assumption) (Fr.keep (by assumption))))
  | (with_reducible refine' tagClassId_own ?zX ?zT ?_; (case zX => k_in); (case zT => exact TagIs.keep (by assumption) (Fr.keep (by assumption))))
  | (with_reducible refine' tagClass_use ?zC ?zA ?zT ?_; (case zC => exact Cx.keep (by assumption) (Fr.keep (by assumption))); (case zA => exact Sm.lower (by assumption) (by omega)); (case zT => exact TagIs.keep (by assumption) (Fr.keep (by assumption))); intro s₁ k₁; (have F := Fr.keeps (by assumption) (Kp.keep k₁)))
  | (with_reducible refine' tagFormat_use ?zC ?zA ?zT ?_; (case zC => exact Cx.keep (by assumption) (Fr.keep (by assumption))); (case zA => exact Sm.lower (by assumption) (by omega)); (case zT => exact TagIs.keep (by assumption) (Fr.keep (by assumption))); intro s₁ k₁; (have F := Fr.keeps (by assumption) (Kp.keep k₁)))
  | (with_reducible refine' tagId_use ?zC ?zA ?zT ?_; (case zC => exact Cx.keep (by assumption) (Fr.keep (by assumption))); (case zA => exact Sm.lower (by assumption) (by omega)); (case zT => exact TagIs.keep (by assumption) (Fr.keep (by assumption))); intro s₁ k₁; (have F := Fr.keeps (by assumption) (Kp.keep k₁))))
local macro_rules | `(tactic| tb_rel) => `(tactic| first | assumption | exact Kp.refl _ | (refine Kp.trans ?_ (by assumption); tb_rel) | (refine Kp.toks ?_; tb_rel))
local macro_rules | `(tactic| ktd_rel) => `(tactic| repeat' ((first | with_reducible show wpAny _ _ _ _ _ _ | with_reducible show (if _ then _ else _)); walk1))
section
variable {w : World} {A : Around} {S s s' : Shared} {L : Addr} {B : Heap} {m : Str → Option Value} {sl : Addr} {vs : List Value} {ns : List Int}
local macro_rules | `(tactic| kpf_close) => `(tactic| first | assumption | exact if_pos rfl | (refine Eq.trans (if_neg (by decide)) ?_; kpf_close))
local macro_rules | `(tactic| kwd_rel) => `(tactic| repeat' (first
  | ((with_reducible show wpAny _ _ (eval (Expr.Name (Str.ofString "script") _) _) _ _ _); first | refine law_script (by assumption) (by assumption) ?_ | refine law_script (LF.base (by assumption)) (by assumption) ?_)
  | ((with_reducible show wpAny _ _ (eval (Expr.Name _ _) _) _ _ _); refine law_ld (by assumption) (by kpf_close) ?_)
  | ((with_reducible show wpAny _ _ (compareOp CmpOp.NotEq (Value.int _ _) (Value.int _ _)) _ _ _); with_reducible refine ne_int_same ?_)
  | ((with_reducible show wpAny _ _ (compareOp CmpOp.NotEq (Value.str _ _) (Value.str _ _)) _ _ _); first | with_reducible refine ne_str_same ?_ | refine ne_str_eq (by decide) ?_)
  | ((with_reducible show wpAny _ _ (subscriptTail _ _ (Value.ref _) (Value.int 0 _)) _ _ _); first | refine sub3_0 (by assumption) ?_ | refine sub2_0 (by assumption) ?_)
  | ((with_reducible show wpAny _ _ (subscriptTail _ _ (Value.ref _) (Value.int 1 _)) _ _ _); first | refine sub3_1 (by assumption) ?_ | refine sub2_1 (by assumption) ?_)
  | ((with_reducible show wpAny _ _ (subscriptTail _ _ (Value.ref _) (Value.int 2 _)) _ _ _); refine sub3_2 (by assumption) ?_)
  | ((fail_if_success (first | with_reducible show wpAny _ _ (call _ _ _) _ _ _ | with_reducible show wpAny _ _ (eval (Expr.Name (Str.ofString "script") _) _) _ _ _ | with_reducible show wpAny _ _ (eval (Expr.ListComp _ _ _ _) _) _ _ _ | with_reducible show wpAny _ _ (compareOp _ (Value.ref _) _) _ _ _ | with_reducible show wpAny _ _ (compareOp _ _ (Value.ref _)) _ _ _ | with_reducible show wpAny _ _ (getAttr (Value.ref _) _ _) _ _ _ | with_reducible show wpAny _ _ (subscriptTail _ _ _ _) _ _ _ | with_reducible show wpAny _ _ (binaryOp _ (Value.ref _) _) _ _ _)); (first | with_reducible show wpAny _ _ _ _ _ _ | with_reducible show (if _ then _ else _)); walk1)))
local macro_rules | `(tactic| kln_le) => `(tactic| repeat' (first
  | ((with_reducible show wpAny _ _ (eval (Expr.Name _ _) _) _ _ _); refine cm_L (by assumption) (by assumption) rfl ?_)
  | ((with_reducible show wpAny _ _ (eval (Expr.Name (Str.ofString "script") _) _) _ _ _); refine cm_C (by assumption) rfl rfl ?_)
  | ((with_reducible show wpAny _ _ (eval (Expr.Name _ _) _) _ _ _); refine cm_G (by assumption) (by k_is) rfl ?_)
  | ((with_reducible show wpAny _ _ (eval (Expr.Name _ _) _) _ _ _); fail "a name")
  | ((with_reducible show wpAny _ _ (subscriptTail _ _ (Value.ref _) (Value.int 0 _)) _ _ _); refine sub3_0 (by assumption) ?_)
  | ((with_reducible show wpAny _ _ (subscriptTail _ _ (Value.ref _) (Value.int 1 _)) _ _ _); refine sub3_1 (by assumption) ?_)
  | ((with_reducible show wpAny _ _ (subscriptTail _ _ (Value.ref _) (Value.int 2 _)) _ _ _); refine sub3_2 (by assumption) ?_)
  | ((fail_if_success (first | with_reducible show wpAny _ _ (call _ _ _) _ _ _ | with_reducible show wpAny _ _ (eval (Expr.ListComp _ _ _ _) _) _ _ _ | with_reducible show wpAny _ _ (eval (Expr.Name _ _) _) _ _ _ | with_reducible show wpAny _ _ (compareOp _ (Value.ref _) _) _ _ _ | with_reducible show wpAny _ _ (compareOp _ _ (Value.ref _)) _ _ _ | with_reducible show wpAny _ _ (getAttr (Value.ref _) _ _) _ _ _ | with_reducible show wpAny _ _ (subscriptTail _ _ _ _) _ _ _ | with_reducible show wpAny _ _ (binaryOp _ (Value.ref _) _) _ _ _)); (first | with_reducible show wpAny _ _ _ _ _ _ | with_reducible show (if _ then _ else _)); walk1)))
theorem st24 {Q : Flow → Shared → Prop} {E : Value → Shared → Prop} {a b d c1 c2 rl : Addr} {zs z1 z2 ys : List Value} {ds d1 d2 : List Trip} (l : LF w S L B m s) (hA : Sm 19 A)
    (hm1 : m (Str.ofString "made") = some (.ref d)) (hm2 : m (Str.ofString "behind") = some (.ref c1)) (hm3 : m (Str.ofString "before") = some (.ref c2)) (hm5 : m (Str.ofString "rows") = some (.ref rl))
    (H : SetIs B d (.ref a) zs ds) (H1 : SetIs B c1 (.ref a) z1 d1) (H2 : SetIs B c2 (.ref a) z2 d2) (hr : B.get? rl = some (lst ys)) (hl : ys.length = zs.length) (hlen : zs.length ≤ 4)
    (h : ∀ s', LF w S L B m s' → Q .next s') :
    wpAny (M w) A (exec (lawStmt 24) (lawEnv L)) Q E s := by
  conv in (lawStmt 24) => whnf
  have X := l.X
  obtain ⟨_, _, _, TT⟩ := l.T
  have F := l.F
  kwd_rel
  refine isi_set l.cx.X (H1.keep l.base) ?_
  kwd_rel
  refine isi_set l.cx.X (H2.keep l.base) ?_
  kwd_rel
  refine Gv.use (set_len (by exact l.cx) (hA.lower (by omega)) (H.keep l.base) (by omega)) fun v s₁ k₁ hv => ?_
  obtain ⟨t4, rfl⟩ := hv
  have l := l.kp2 k₁
  have F := l.F
  kwd_rel
  refine Calls.call_len_list (lst_isList (l.base _ _ hr)) (by rw [List.size_toArray]; omega) ?_
  rw [List.size_toArray, hl]
  kwd_rel
  exact h _ l.tk
theorem rowAt_snoc {h : Heap} {p q : Addr} {xs : List Value} {ls : List (Int × Int)} {v : Value} {x : Int × Int} (hp : h.get? q = some (tupObj (xs ++ [v]))) (hl : xs.length = ls.length) (hx : ∀ j (h1 : j < xs.length) (h2 : j < ls.length), PairAt h xs[j] ls[j]) (hv : PairAt h v x) : RowAt h (.ref q) (ls ++ [x]) := by
  refine ⟨q, 0, _, rfl, hp, by simp [hl], fun j h1 h2 => ?_⟩
  by_cases hj : j < xs.length
  · rw [List.getElem_append_left hj, List.getElem_append_left (hl ▸ hj)]
    exact hx j _ _
  · have e1 : j = xs.length := by rw [List.length_append, List.length_singleton] at h1; omega
    rw [List.getElem_append_right (by omega), List.getElem_append_right (by omega)]
    simpa [e1, hl] using hv
theorem rowAt_cons {h : Heap} {q : Addr} {xs : List Value} {ls : List (Int × Int)} {v : Value} {x : Int × Int} (hp : h.get? q = some (tupObj (v :: xs))) (hl : xs.length = ls.length) (hx : ∀ j (h1 : j < xs.length) (h2 : j < ls.length), PairAt h xs[j] ls[j]) (hv : PairAt h v x) : RowAt h (.ref q) (x :: ls) := by
  refine ⟨q, 0, _, rfl, hp, by simp [hl], fun j h1 h2 => ?_⟩
  cases j with
  | zero => exact hv
  | succ j => exact hx j (by simpa using h1) (by simpa using h2)
theorem cat_tuple' {t u : Addr} {xs ys : List Value} {e1 e2 : Nat} {E Q : Value → Shared → Prop} (ht : s.heap.get? t = some (tupObj xs e1)) (hu : s.heap.get? u = some (tupObj ys e2)) (hz : xs.length + ys.length ≤ 1000)
    (h : ∀ q s' e, Kp s s' → s'.heap.get? q = some (tupObj (xs ++ ys) e) → Q (.ref q) s') : wpAny (M w) A (binaryOp .Add (.ref t) (.ref u)) Q E s := by
  have hT : s.TypeIs (.ref t) "tuple" := ⟨_, ht, rfl⟩
  have hU : s.TypeIs (.ref u) "tuple" := ⟨_, hu, rfl⟩
  by_cases h1 : xs.toArray.isEmpty = true
  · have e1 : xs = [] := by simpa using h1
    subst e1
    exact concat_meets hT hU noFill_tuple_add seq_tuple_add F.slot_tuple_add F.entry_tuple_add (F.args_tuple_add_2 _ _) (PySem.AutoSeq1.tuple___add___tuple_tuple_0 t _ _ u _ _ h1) ⟨ht, hu, h u s _ (Kp.refl s) hu⟩
  · by_cases h2 : ys.toArray.isEmpty = true
    · have e2 : ys = [] := by simpa using h2
      subst e2
      exact concat_meets hT hU noFill_tuple_add seq_tuple_add F.slot_tuple_add F.entry_tuple_add (F.args_tuple_add_2 _ _) (PySem.AutoSeq1.tuple___add___tuple_tuple_1 t _ _ u _ _ h1 h2) ⟨ht, hu, h t s _ (Kp.refl s) (by rw [List.append_nil]; exact ht)⟩
    · have hh := h s.heap.objs.size { s with heap := s.heap.push (tupObj (xs ++ ys)) } 0 (Kp.heap fun _ _ e => Heap.get?_push_of_some _ e) (Heap.get?_push_size _ rfl)
      rw [tupObj, ← List.append_toArray] at hh
      exact concat_meets hT hU noFill_tuple_add seq_tuple_add F.slot_tuple_add F.entry_tuple_add (F.args_tuple_add_2 _ _) (PySem.AutoSeq1.tuple___add___tuple_tuple_2 t _ _ u _ _ h1 h2 (by rw [List.size_toArray, List.size_toArray, sizeLine_eq]; omega)) ⟨ht, hu, hh⟩
theorem rowAt_cat {h : Heap} {q : Addr} {xs ys : List Value} {ls ms : List (Int × Int)} {e : Nat} (hp : h.get? q = some (tupObj (xs ++ ys) e)) (hl : xs.length = ls.length) (hx : ∀ j (h1 : j < xs.length) (h2 : j < ls.length), PairAt h xs[j] ls[j]) (hl' : ys.length = ms.length) (hy : ∀ j (h1 : j < ys.length) (h2 : j < ms.length), PairAt h ys[j] ms[j]) : RowAt h (.ref q) (ls ++ ms) := by
  refine ⟨q, e, _, rfl, hp, by simp [hl, hl'], fun j h1 h2 => ?_⟩
  by_cases hj : j < xs.length
  · rw [List.getElem_append_left hj, List.getElem_append_left (hl ▸ hj)]
    exact hx j _ _
  · rw [List.getElem_append_right (by omega), List.getElem_append_right (by omega)]
    simp only [hl]
    exact hy _ _ _
theorem st25 {Q : Flow → Shared → Prop} {E : Value → Shared → Prop} {a p c q2 : Addr} {pv : Value} {c1 f1 n1 c2 f2 n2 : Int} {t1 t2 t3 u1 u2 u3 v1 v2 v3 : Tok} {zs : List Value} {ds : List Trip} (l : LF w S L B m s) (hA : Sm 19 A)
    (hm1 : m (Str.ofString "behind") = some (.ref c)) (hm2 : m (Str.ofString "one") = some (.ref a)) (hm3 : m (Str.ofString "second") = some (.ref q2)) (hm4 : m (Str.ofString "plain") = some pv)
    (H : SetIs B c (.ref a) zs (ds ++ [⟨c2, f2, n2, u1, u2, u3⟩])) (T1 : TagIs B a c1 f1 n1 t1 t2 t3 p) (hq2 : B.get? q2 = some (tupObj [.int c2 v1, .int f2 v2, .int n2 v3])) (hp : RowAt B pv (pairsOf ds)) (hlen : zs.length ≤ 5) (hds : ds.length ≤ 4)
    (h : ∀ s', LF w S L B m s' → Q .next s') :
    wpAny (M w) A (exec (lawStmt 25) (lawEnv L)) Q E s := by
  conv in (lawStmt 25) => whnf
  have X := l.X
  obtain ⟨_, _, _, TT⟩ := l.T
  have F := l.F
  kwd_rel
  refine rows_comp l (hA.lower (by omega)) hm1 (H.keep l.base) (by omega) rfl (by decide) rfl (by decide) rfl (fun _ => rfl) (fun _ => rfl) rfl (by decide) fun D rs s₇ k₇ hD hlr hRr => ?_
  have l := l.kp2 k₇
  have F := l.F
  kwd_rel
  refine ⟨l.cx.X, ?_⟩
  refine Gv.use (law_row (by exact l.cx) (hA.lower (by omega)) hD hRr (by omega)) fun v s₈ k₈ R1 => ?_
  have l := l.kp2 k₈
  have F := l.F
  have e2 := l.base _ _ hq2
  kwd_rel
  refine law_tup l fun r1 s₁ l k₁ hr1 => ?_
  have F := l.F
  kwd_rel
  refine law_tup l fun r2 s₂ l k₂ hr2 => ?_
  have F := l.F
  obtain ⟨pp, pe, qs, rfl, hpp, hql, hqr⟩ := hp
  have hpp := l.base _ _ hpp
  have R1 : RowAt s₂.heap v (pairsOf (ds ++ [⟨c2, f2, n2, u1, u2, u3⟩])) := (R1.keep k₁).keep k₂
  have P2 : PairAt s₂.heap (.ref r1) (c2, n2) := ⟨r1, 0, _, _, rfl, k₂ _ _ hr1⟩
  have hq' : qs.length = ds.length := by rw [hql, List.length_map]
  refine cat_tuple' hpp hr2 (by show qs.length + 1 ≤ 1000; omega) fun q3 s₃ e3 k₃ hq3 => ?_
  have R1 := R1.keep k₃.keep
  have R2 : RowAt s₃.heap (.ref q3) (pairsOf ds ++ [(c2, n2)]) := rowAt_cat hq3 hql (fun j h1 h2 => ((hqr j h1 h2).keep l.base).keep k₃.keep) rfl fun j h1 h2 => by
    match j, h1 with
    | 0, _ => exact P2.keep k₃.keep
  have l := l.kp2 k₃
  have F := l.F
  have e : pairsOf (ds ++ [⟨c2, f2, n2, u1, u2, u3⟩]) = pairsOf ds ++ [(c2, n2)] := by simp [pairsOf]
  rw [e] at R1
  rw [ce_ord rfl]
  refine rc_row (op := .NotEq) rfl R1 R2 (by have := hA.units; show A.units + 1 < 9900; omega) _ _ _ _ ?_
  rw [cmpRow_ne_self]
  kwd_rel
  refine Gv.use (baseTag_get (k := 5) (by exact l.cx) (hA.lower (by omega)) (H.keep l.base) rfl) fun v s₁ k₁ hv => ?_
  subst hv
  have l := l.kp2 k₁
  have F := l.F
  kwd_rel
  rw [ce_ord rfl]
  refine Gv.use (cmp_key (k := 5) (d := .pair (c1, n1)) (e := .pair (c1, n1)) (by exact l.cx) (hA.lower (by omega)) rfl (cls_Tag w) ((tagKey T1).keep l.base) ((tagKey T1).keep l.base) trivial) fun v s₂ k₂ hv => ?_
  subst hv
  have l := l.kp2 k₂
  have F := l.F
  rw [cmpCK_ne_self]
  kwd_rel
  exact h _ l
theorem st26 {Q : Flow → Shared → Prop} {E : Value → Shared → Prop} {a p c q2 : Addr} {pv : Value} {c1 f1 n1 c2 f2 n2 : Int} {t1 t2 t3 u1 u2 u3 v1 v2 v3 : Tok} {zs : List Value} {ds : List Trip} (l : LF w S L B m s) (hA : Sm 19 A)
    (hm1 : m (Str.ofString "before") = some (.ref c)) (hm2 : m (Str.ofString "one") = some (.ref a)) (hm3 : m (Str.ofString "second") = some (.ref q2)) (hm4 : m (Str.ofString "plain") = some pv)
    (H : SetIs B c (.ref a) zs (⟨c2, f2, n2, u1, u2, u3⟩ :: ds)) (T1 : TagIs B a c1 f1 n1 t1 t2 t3 p) (hq2 : B.get? q2 = some (tupObj [.int c2 v1, .int f2 v2, .int n2 v3])) (hp : RowAt B pv (pairsOf ds)) (hlen : zs.length ≤ 5) (hds : ds.length ≤ 4)
    (h : ∀ s', LF w S L B m s' → Q .next s') :
    wpAny (M w) A (exec (lawStmt 26) (lawEnv L)) Q E s := by
  conv in (lawStmt 26) => whnf
  have X := l.X
  obtain ⟨_, _, _, TT⟩ := l.T
  have F := l.F
  kwd_rel
  refine rows_comp l (hA.lower (by omega)) hm1 (H.keep l.base) (by omega) rfl (by decide) rfl (by decide) rfl (fun _ => rfl) (fun _ => rfl) rfl (by decide) fun D rs s₇ k₇ hD hlr hRr => ?_
  have l := l.kp2 k₇
  have F := l.F
  kwd_rel
  refine ⟨l.cx.X, ?_⟩
  refine Gv.use (law_row (by exact l.cx) (hA.lower (by omega)) hD hRr (by omega)) fun v s₈ k₈ R1 => ?_
  have l := l.kp2 k₈
  have F := l.F
  have e2 := l.base _ _ hq2
  kwd_rel
  refine law_tup l fun r1 s₁ l k₁ hr1 => ?_
  have F := l.F
  kwd_rel
  refine law_tup l fun r2 s₂ l k₂ hr2 => ?_
  have F := l.F
  obtain ⟨pp, pe, qs, rfl, hpp, hql, hqr⟩ := hp
  have hpp := l.base _ _ hpp
  have R1 : RowAt s₂.heap v (pairsOf (⟨c2, f2, n2, u1, u2, u3⟩ :: ds)) := (R1.keep k₁).keep k₂
  have P2 : PairAt s₂.heap (.ref r1) (c2, n2) := ⟨r1, 0, _, _, rfl, k₂ _ _ hr1⟩
  have hq' : qs.length = ds.length := by rw [hql, List.length_map]
  kwd_rel
  refine cat_tuple' hr2 hpp (by show 1 + qs.length ≤ 1000; omega) fun q3 s₃ e3 k₃ hq3 => ?_
  have R1 := R1.keep k₃.keep
  have R2 : RowAt s₃.heap (.ref q3) ([(c2, n2)] ++ pairsOf ds) := rowAt_cat hq3 rfl (fun j h1 h2 => by
    match j, h1 with
    | 0, _ => exact P2.keep k₃.keep) hql fun j h1 h2 => ((hqr j h1 h2).keep l.base).keep k₃.keep
  have l := l.kp2 k₃
  have F := l.F
  have e : pairsOf (⟨c2, f2, n2, u1, u2, u3⟩ :: ds) = [(c2, n2)] ++ pairsOf ds := by simp [pairsOf]
  rw [e] at R1
  rw [ce_ord rfl]
  refine rc_row (op := .NotEq) rfl R1 R2 (by have := hA.units; show A.units + 1 < 9900; omega) _ _ _ _ ?_
  rw [cmpRow_ne_self]
  kwd_rel
  refine Gv.use (baseTag_get (k := 5) (by exact l.cx) (hA.lower (by omega)) (H.keep l.base) rfl) fun v s₁ k₁ hv => ?_
  subst hv
  have l := l.kp2 k₁
  have F := l.F
  kwd_rel
  rw [ce_ord rfl]
  refine Gv.use (cmp_key (k := 5) (d := .pair (c1, n1)) (e := .pair (c1, n1)) (by exact l.cx) (hA.lower (by omega)) rfl (cls_Tag w) ((tagKey T1).keep l.base) ((tagKey T1).keep l.base) trivial) fun v s₂ k₂ hv => ?_
  subst hv
  have l := l.kp2 k₂
  have F := l.F
  rw [cmpCK_ne_self]
  kwd_rel
  exact h _ l
end
end Mine
end
section
set_option maxRecDepth 100000
set_option maxHeartbeats 4000000
open PySem PySem.W PyProof.Rows
namespace Mine
open PyProof.Rows.LCg (lst lst_snoc)
local macro_rules | `(tactic| ktr_rel) => `(tactic| repeat ((fail_if_success (first | with_reducible show wpAny _ _ (call _ _ _) _ _ _ | with_reducible show wpAny _ _ (eval (Expr.ListComp _ _ _ _) _) _ _ _ | with_reducible show wpAny _ _ (compareOp _ (Value.ref _) _) _ _ _ | with_reducible show wpAny _ _ (compareOp _ _ (Value.ref _)) _ _ _ | with_reducible show wpAny _ _ (getAttr (Value.ref _) _ _) _ _ _ | with_reducible show wpAny _ _ (subscriptTail _ _ _ _) _ _ _ | with_reducible show wpAny _ _ (binaryOp _ (Value.ref _) _) _ _ _)); walk1))
local macro_rules | `(tactic| tb_start) => `(tactic| first
  | (with_reducible refine' tagClass_own ?zX ?zT ?_; (case zX => k_in); (case zT => exact TagIs.keep (by assumption) (Fr.keep (by assumption))))
  | (with_reducible refine' tagFormat_own ?zX ?zT ?_; (case zX => k_in); (case zT => exact TagIs.keep (by assumption) (Fr.keep (by assumption))))
  | (with_reducible refine' tagId_own ?zX ?zT ?_; (case zX => k_in); (case zT => exact TagIs.keep (by assumption) (Fr.keep (by assumption))))
  | (with_reducible refine' tagClassId_own ?zX ?zT ?_; (case zX => k_in); (case zT => exact TagIs.keep (by assumption) (Fr.keep (by assumption))))
  | (with_reducible refine' tagClass_use ?zC ?zA ?zT ?_; (case zC => exact Cx.keep (by assumption) (Fr.keep (by assumption))); (case zA => exact Sm.lower (by assumption) (by omega)); (case zT => exact TagIs.keep (by assumption) (Fr.keep (by assumption))); intro s₁ k₁; (have F := Fr.keeps (by assumption) (Kp.keep k₁)))
  | (with_reducible refine' tagFormat_use ?zC ?zA ?zT ?_; (case zC => exact Cx.keep (by assumption) (Fr.keep (by assumption))); (case zA => exact Sm.lower (by assumption) (by omega)); (case zT => exact TagIs.keep (by assumption) (Fr.keep (by assumption))); intro s₁ k₁; (have F := Fr.keeps (by assumption) (Kp.keep k₁)))
  | (with_reducible refine' tagId_use ?zC ?zA ?zT ?_; (case zC => exact Cx.keep (by assumption) (Fr.keep (by assumption))); (case zA => exact Sm.lower (by assumption) (by omega)); (case zT => exact TagIs.keep (by assumption) (Fr.keep (by assumption))); intro s₁ k₁; (have F := Fr.keeps (by assumption) (Kp.keep k₁))))
local macro_rules | `(tactic| tb_rel) => `(tactic| first | assumption | exact Kp.refl _ | (refine Kp.trans ?_ (by assumption); tb_rel) | (refine Kp.toks ?_; tb_rel))
local macro_rules | `(tactic| ktd_rel) => `(tactic| repeat' ((first | with_reducible show wpAny _ _ _ _ _ _ | with_reducible show (if _ then _ else _)); walk1))
section
variable {w : World} {A : Around} {S s s' : Shared} {L : Addr} {B : Heap} {m : Str → Option Value} {sl : Addr} {vs : List Value} {ns : List Int}
local macro_rules | `(tactic| kpf_close) => `(tactic| first | assumption | exact if_pos rfl | (refine Eq.trans (if_neg (by decide)) ?_; kpf_close))
local macro_rules | `(tactic| kwd_rel) => `(tactic| repeat' (first
  | ((with_reducible show wpAny _ _ (eval (Expr.Name (Str.ofString "script") _) _) _ _ _); first | refine law_script (by assumption) (by assumption) ?_ | refine law_script (LF.base (by assumption)) (by assumption) ?_)
  | ((with_reducible show wpAny _ _ (eval (Expr.Name _ _) _) _ _ _); refine law_ld (by assumption) (by kpf_close) ?_)
  | ((with_reducible show wpAny _ _ (compareOp CmpOp.NotEq (Value.int _ _) (Value.int _ _)) _ _ _); with_reducible refine ne_int_same ?_)
  | ((with_reducible show wpAny _ _ (compareOp CmpOp.NotEq (Value.str _ _) (Value.str _ _)) _ _ _); first | with_reducible refine ne_str_same ?_ | refine ne_str_eq (by decide) ?_)
  | ((with_reducible show wpAny _ _ (subscriptTail _ _ (Value.ref _) (Value.int 0 _)) _ _ _); first | refine sub3_0 (by assumption) ?_ | refine sub2_0 (by assumption) ?_)
  | ((with_reducible show wpAny _ _ (subscriptTail _ _ (Value.ref _) (Value.int 1 _)) _ _ _); first | refine sub3_1 (by assumption) ?_ | refine sub2_1 (by assumption) ?_)
  | ((with_reducible show wpAny _ _ (subscriptTail _ _ (Value.ref _) (Value.int 2 _)) _ _ _); refine sub3_2 (by assumption) ?_)
  | ((fail_if_success (first | with_reducible show wpAny _ _ (call _ _ _) _ _ _ | with_reducible show wpAny _ _ (eval (Expr.Name (Str.ofString "script") _) _) _ _ _ | with_reducible show wpAny _ _ (eval (Expr.ListComp _ _ _ _) _) _ _ _ | with_reducible show wpAny _ _ (compareOp _ (Value.ref _) _) _ _ _ | with_reducible show wpAny _ _ (compareOp _ _ (Value.ref _)) _ _ _ | with_reducible show wpAny _ _ (getAttr (Value.ref _) _ _) _ _ _ | with_reducible show wpAny _ _ (subscriptTail _ _ _ _) _ _ _ | with_reducible show wpAny _ _ (binaryOp _ (Value.ref _) _) _ _ _)); (first | with_reducible show wpAny _ _ _ _ _ _ | with_reducible show (if _ then _ else _)); walk1)))
local macro_rules | `(tactic| kln_le) => `(tactic| repeat' (first
  | ((with_reducible show wpAny _ _ (eval (Expr.Name _ _) _) _ _ _); refine cm_L (by assumption) (by assumption) rfl ?_)
  | ((with_reducible show wpAny _ _ (eval (Expr.Name (Str.ofString "script") _) _) _ _ _); refine cm_C (by assumption) rfl rfl ?_)
  | ((with_reducible show wpAny _ _ (eval (Expr.Name _ _) _) _ _ _); refine cm_G (by assumption) (by k_is) rfl ?_)
  | ((with_reducible show wpAny _ _ (eval (Expr.Name _ _) _) _ _ _); fail "a name")
  | ((with_reducible show wpAny _ _ (subscriptTail _ _ (Value.ref _) (Value.int 0 _)) _ _ _); refine sub3_0 (by assumption) ?_)
  | ((with_reducible show wpAny _ _ (subscriptTail _ _ (Value.ref _) (Value.int 1 _)) _ _ _); refine sub3_1 (by assumption) ?_)
  | ((with_reducible show wpAny _ _ (subscriptTail _ _ (Value.ref _) (Value.int 2 _)) _ _ _); refine sub3_2 (by assumption) ?_)
  | ((fail_if_success (first | with_reducible show wpAny _ _ (call _ _ _) _ _ _ | with_reducible show wpAny _ _ (eval (Expr.ListComp _ _ _ _) _) _ _ _ | with_reducible show wpAny _ _ (eval (Expr.Name _ _) _) _ _ _ | with_reducible show wpAny _ _ (compareOp _ (Value.ref _) _) _ _ _ | with_reducible show wpAny _ _ (compareOp _ _ (Value.ref _)) _ _ _ | with_reducible show wpAny _ _ (getAttr (Value.ref _) _ _) _ _ _ | with_reducible show wpAny _ _ (subscriptTail _ _ _ _) _ _ _ | with_reducible show wpAny _ _ (binaryOp _ (Value.ref _) _) _ _ _)); (first | with_reducible show wpAny _ _ _ _ _ _ | with_reducible show (if _ then _ else _)); walk1)))
theorem setKey {h : Heap} {a : Addr} {base : Value} {zs : List Value} {ds : List Trip} (T : SetIs h a base zs ds) : KeyAt h 321 (Str.ofString "_TagSet__superTagsClassId") (.ref a) (.row (pairsOf ds)) := by
  obtain ⟨⟨h1, h2, h3, h4, k1, k2, k3, k4, st, sc, tn, dx, e1, e2, e3, e4⟩, e5⟩ := T
  exact .obj a sc rfl ⟨dx, _, _, e1, e2, rfl⟩ e4
theorem slice_tup' {t : Addr} {items : List Value} {e : Nat} {vl vu : Value} {lo hi : Option Int} {value slice : Expr} {E Q : Value → Shared → Prop} (ht : s.heap.get? t = some (tupObj items e)) (pl : IsPart vl lo) (pu : IsPart vu hi) (hz : items.length ≤ 1000)
    (h : ∀ q s' e', Kp s s' → s'.heap.get? q = some (tupObj (kms_pick items lo hi) e') → Q (.ref q) s')
    (hs : subscripted slice false (.ref t) (.ref s.heap.objs.size) = operate [.ref s.heap.objs.size, .ref t] (getItem (.ref t) (.ref s.heap.objs.size)) := by with_unfolding_all rfl) (hg : ∀ r, letTemporaryGo value (.ref t) r = pure () := by intro _; with_unfolding_all rfl) :
    wpAny (M w) A (subscriptTail value slice (.ref t) (.ref s.heap.objs.size)) Q E { s with heap := s.heap.push { cls := .type "slice", data := .fields #[vl, vu, .none] } } := by
  have k : ∀ b o, s.heap.get? b = some o → (s.heap.push { cls := .type "slice", data := .fields #[vl, vu, .none] }).get? b = some o := fun b o e => Heap.get?_push_of_some _ e
  refine subscriptTail_ops (s := { s with heap := s.heap.push { cls := .type "slice", data := .fields #[vl, vu, .none] } }) (isTup (k _ _ ht)).typeIs slot_tuple_getitem.lookup
    (cut_tuple' (s := { s with heap := s.heap.push { cls := .type "slice", data := .fields #[vl, vu, .none] } }) (k _ _ ht) (Heap.IsSliceOf.new ..) pl pu hz fun q s' e' _ hk hq => h q s' e' ((Kp.heap k).trans hk) hq) hs hg
theorem st27 {Q : Flow → Shared → Prop} {E : Value → Shared → Prop} {d t : Addr} {pv b1 b2 : Value} {zs z2 : List Value} {ds : List Trip} (l : LF w S L B m s) (hA : Sm 19 A)
    (hm1 : m (Str.ofString "made") = some (.ref d)) (hm2 : m (Str.ofString "twin") = some (.ref t)) (hm3 : m (Str.ofString "plain") = some pv)
    (H : SetIs B d b1 zs ds) (H2 : SetIs B t b2 z2 (ds.take (ds.length - 1))) (hp : RowAt B pv (pairsOf ds)) (hds : ds.length ≤ 4)
    (h : ∀ s', LF w S L B m s' → Q .next s') :
    wpAny (M w) A (exec (lawStmt 27) (lawEnv L)) Q E s := by
  conv in (lawStmt 27) => whnf
  have X := l.X
  obtain ⟨_, _, _, TT⟩ := l.T
  have F := l.F
  obtain ⟨pp, pe, qs, rfl, hpp, hql, hqr⟩ := id hp
  have hq' : qs.length = ds.length := by rw [hql, List.length_map]
  kwd_rel
  refine slice_tup' (l.base _ _ hpp) .none (.int _ _) (by omega) fun q3 s₁ e3 k₁ hq3 => ?_
  have l := l.kp2 k₁
  have F := l.F
  have hk : kms_pick qs none (some (-1)) = qs.take (qs.length - 1) := by
    show (qs.drop 0).take _ = _
    rw [List.drop_zero]
    congr 1
  rw [hk] at hq3
  have R2 : RowAt s₁.heap (.ref q3) (pairsOf (ds.take (ds.length - 1))) := by
    refine ⟨q3, e3, _, rfl, hq3, by simp [pairsOf, hq'], fun j h1 h2 => ?_⟩
    have h3 : j < qs.length := by rw [List.length_take] at h1; omega
    have h4 : j < (pairsOf ds).length := by rw [← hql]; exact h3
    have e : (pairsOf (ds.take (ds.length - 1)))[j] = (pairsOf ds)[j] := by simp [pairsOf, List.getElem_take]
    rw [List.getElem_take, e]
    exact (hqr j h3 h4).keep l.base
  kwd_rel
  refine ⟨l.cx.X, ?_⟩
  refine Gv.use (both (k := 5) (d := .row (pairsOf ds)) (e := .row (pairsOf (ds.take (ds.length - 1)))) (by exact l.cx) (hA.lower (by omega)) (cls_TagSet w) ((setKey H).keep l.base) ((setKey H2).keep l.base) (hp.keep l.base) R2 trivial) fun v s₂ k₂ hv => ?_
  subst hv
  have l := l.kp2 k₂
  have F := l.F
  kwd_rel
  refine ⟨l.cx.X, ?_⟩
  refine Gv.use (both (k := 5) (d := .row (pairsOf ds)) (e := .row (pairsOf ds)) (by exact l.cx) (hA.lower (by omega)) (cls_TagSet w) ((setKey H).keep l.base) (.dat (hp.keep l.base)) (hp.keep l.base) (hp.keep l.base) trivial) fun v s₂ k₂ hv => ?_
  subst hv
  have l := l.kp2 k₂
  have F := l.F
  kwd_rel
  exact h _ l
theorem st28 {Q : Flow → Shared → Prop} {E : Value → Shared → Prop} {d : Addr} {pv b1 : Value} {zs : List Value} {ds : List Trip} (l : LF w S L B m s) (hA : Sm 19 A)
    (hm1 : m (Str.ofString "made") = some (.ref d)) (hm3 : m (Str.ofString "plain") = some pv)
    (H : SetIs B d b1 zs ds) (hp : RowAt B pv (pairsOf ds)) (hds : ds.length ≤ 4)
    (h : ∀ s', LF w S L B m s' → Q .next s') :
    wpAny (M w) A (exec (lawStmt 28) (lawEnv L)) Q E s := by
  conv in (lawStmt 28) => whnf
  have X := l.X
  obtain ⟨_, _, _, TT⟩ := l.T
  have F := l.F
  obtain ⟨pp, pe, qs, rfl, hpp, hql, hqr⟩ := id hp
  have hq' : qs.length = ds.length := by rw [hql, List.length_map]
  kwd_rel
  refine law_tup l fun r1 s₁ l k₁ hr1 => ?_
  have F := l.F
  kwd_rel
  refine law_tup l fun r2 s₂ l k₂ hr2 => ?_
  have P1 : PairAt s₂.heap (.ref r1) (0, 0) := ⟨r1, 0, _, _, rfl, k₂ _ _ hr1⟩
  refine cat_tuple' (l.base _ _ hpp) hr2 (by show qs.length + 1 ≤ 1000; omega) fun q3 s₃ e3 k₃ hq3 => ?_
  have R1 : RowAt s₃.heap (.ref q3) (pairsOf ds ++ [(0, 0)]) := rowAt_cat hq3 hql (fun j h1 h2 => ((hqr j h1 h2).keep l.base).keep k₃.keep) rfl fun j h1 h2 => by
    match j, h1 with
    | 0, _ => exact P1.keep k₃.keep
  have l := l.kp2 k₃
  have F := l.F
  kwd_rel
  refine law_tup l fun r1 s₁ l k₁ hr1 => ?_
  have F := l.F
  kwd_rel
  refine law_tup l fun r2 s₂ l k₂ hr2 => ?_
  have P1 : PairAt s₂.heap (.ref r1) (0, 0) := ⟨r1, 0, _, _, rfl, k₂ _ _ hr1⟩
  refine cat_tuple' (l.base _ _ hpp) hr2 (by show qs.length + 1 ≤ 1000; omega) fun q4 s₄ e4 k₄ hq4 => ?_
  have R2 : RowAt s₄.heap (.ref q4) (pairsOf ds ++ [(0, 0)]) := rowAt_cat hq4 hql (fun j h1 h2 => ((hqr j h1 h2).keep l.base).keep k₄.keep) rfl fun j h1 h2 => by
    match j, h1 with
    | 0, _ => exact P1.keep k₄.keep
  have R1 := ((R1.keep k₁).keep k₂).keep k₄.keep
  have l := l.kp2 k₄
  have F := l.F
  kwd_rel
  refine ⟨l.cx.X, ?_⟩
  refine Gv.use (both (k := 5) (d := .row (pairsOf ds)) (e := .row (pairsOf ds ++ [(0, 0)])) (by exact l.cx) (hA.lower (by omega)) (cls_TagSet w) ((setKey H).keep l.base) (.dat R1) (hp.keep l.base) R2 trivial) fun v s₂ k₂ hv => ?_
  subst hv
  have l := l.kp2 k₂
  have F := l.F
  kwd_rel
  exact h _ l
end
end Mine
end
section
set_option maxRecDepth 100000
set_option maxHeartbeats 4000000
open PySem PySem.W PyProof.Rows
namespace Mine
open PyProof.Rows.LCg (lst lst_snoc)
local macro_rules | `(tactic| ktr_rel) => `(tactic| repeat ((fail_if_success (first | with_reducible show wpAny _ _ (call _ _ _) _ _ _ | with_reducible show wpAny _ _ (eval (Expr.ListComp _ _ _ _) _) _ _ _ | with_reducible show wpAny _ _ (compareOp _ (Value.ref _) _) _ _ _ | with_reducible show wpAny _ _ (compareOp _ _ (Value.ref _)) _ _ _ | with_reducible show wpAny _ _ (getAttr (Value.ref _) _ _) _ _ _ | with_reducible show wpAny _ _ (subscriptTail _ _ _ _) _ _ _ | with_reducible show wpAny _ _ (binaryOp _ (Value.ref _) _) _ _ _)); walk1))
local macro_rules | `(tactic| tb_start) => `(tactic| first
  | (with_reducible refine' tagClass_own ?zX ?zT ?_; (case zX => k_in); (case zT => exact TagIs.keep (by assumption) (Fr.keep (by assumption))))
  | (with_reducible refine' tagFormat_own ?zX ?zT ?_; (case zX => k_in); (case zT => exact TagIs.keep (by assumption) (Fr.keep (by assumption))))
  | (with_reducible refine' tagId_own ?zX ?zT ?_; (case zX => k_in); (case zT => exact TagIs.keep (by assumption) (Fr.keep (by assumption))))
  | (with_reducible refine' tagClassId_own ?zX ?zT ?_; (case zX => k_in); (case zT => exact TagIs.keep (by assumption) (Fr.keep (by assumption))))
  | (with_reducible refine' tagClass_use ?zC ?zA ?zT ?_; (case zC => exact Cx.keep (by assumption) (Fr.keep (by assumption))); (case zA => exact Sm.lower (by assumption) (by omega)); (case zT => exact TagIs.keep (by assumption) (Fr.keep (by assumption))); intro s₁ k₁; (have F := Fr.keeps (by assumption) (Kp.keep k₁)))
  | (with_reducible refine' tagFormat_use ?zC ?zA ?zT ?_; (case zC => exact Cx.keep (by assumption) (Fr.keep (by assumption))); (case zA => exact Sm.lower (by assumption) (by omega)); (case zT => exact TagIs.keep (by assumption) (Fr.keep (by assumption))); intro s₁ k₁; (have F := Fr.keeps (by assumption) (Kp.keep k₁)))
  | (with_reducible refine' tagId_use ?zC ?zA ?zT ?_; (case zC => exact Cx.keep (by assumption) (Fr.keep (by assumption))); (case zA => exact Sm.lower (by assumption) (by omega)); (case zT => exact TagIs.keep (by assumption) (Fr.keep (by assumption))); intro s₁ k₁; (have F := Fr.keeps (by assumption) (Kp.keep k₁))))
local macro_rules | `(tactic| tb_rel) => `(tactic| first | assumption | exact Kp.refl _ | (refine Kp.trans ?_ (by assumption); tb_rel) | (refine Kp.toks ?_; tb_rel))
local macro_rules | `(tactic| ktd_rel) => `(tactic| repeat' ((first | with_reducible show wpAny _ _ _ _ _ _ | with_reducible show (if _ then _ else _)); walk1))
section
variable {w : World} {A : Around} {S s s' : Shared} {L : Addr} {B : Heap} {m : Str → Option Value} {sl : Addr} {vs : List Value} {ns : List Int}
local macro_rules | `(tactic| kpf_close) => `(tactic| first | assumption | exact if_pos rfl | (refine Eq.trans (if_neg (by decide)) ?_; kpf_close))
local macro_rules | `(tactic| kwd_rel) => `(tactic| repeat' (first
  | ((with_reducible show wpAny _ _ (eval (Expr.Name (Str.ofString "script") _) _) _ _ _); first | refine law_script (by assumption) (by assumption) ?_ | refine law_script (LF.base (by assumption)) (by assumption) ?_)
  | ((with_reducible show wpAny _ _ (eval (Expr.Name _ _) _) _ _ _); refine law_ld (by assumption) (by kpf_close) ?_)
  | ((with_reducible show wpAny _ _ (compareOp CmpOp.NotEq (Value.int _ _) (Value.int _ _)) _ _ _); with_reducible refine ne_int_same ?_)
  | ((with_reducible show wpAny _ _ (compareOp CmpOp.NotEq (Value.str _ _) (Value.str _ _)) _ _ _); first | with_reducible refine ne_str_same ?_ | refine ne_str_eq (by decide) ?_)
  | ((with_reducible show wpAny _ _ (subscriptTail _ _ (Value.ref _) (Value.int 0 _)) _ _ _); first | refine sub3_0 (by assumption) ?_ | refine sub2_0 (by assumption) ?_)
  | ((with_reducible show wpAny _ _ (subscriptTail _ _ (Value.ref _) (Value.int 1 _)) _ _ _); first | refine sub3_1 (by assumption) ?_ | refine sub2_1 (by assumption) ?_)
  | ((with_reducible show wpAny _ _ (subscriptTail _ _ (Value.ref _) (Value.int 2 _)) _ _ _); refine sub3_2 (by assumption) ?_)
  | ((fail_if_success (first | with_reducible show wpAny _ _ (call _ _ _) _ _ _ | with_reducible show wpAny _ _ (eval (Expr.Name (Str.ofString "script") _) _) _ _ _ | with_reducible show wpAny _ _ (eval (Expr.ListComp _ _ _ _) _) _ _ _ | with_reducible show wpAny _ _ (compareOp _ (Value.ref _) _) _ _ _ | with_reducible show wpAny _ _ (compareOp _ _ (Value.ref _)) _ _ _ | with_reducible show wpAny _ _ (getAttr (Value.ref _) _ _) _ _ _ | with_reducible show wpAny _ _ (subscriptTail _ _ _ _) _ _ _ | with_reducible show wpAny _ _ (binaryOp _ (Value.ref _) _) _ _ _)); (first | with_reducible show wpAny _ _ _ _ _ _ | with_reducible show (if _ then _ else _)); walk1)))
local macro_rules | `(tactic| kln_le) => `(tactic| repeat' (first
  | ((with_reducible show wpAny _ _ (eval (Expr.Name _ _) _) _ _ _); refine cm_L (by assumption) (by assumption) rfl ?_)
  | ((with_reducible show wpAny _ _ (eval (Expr.Name (Str.ofString "script") _) _) _ _ _); refine cm_C (by assumption) rfl rfl ?_)
  | ((with_reducible show wpAny _ _ (eval (Expr.Name _ _) _) _ _ _); refine cm_G (by assumption) (by k_is) rfl ?_)
  | ((with_reducible show wpAny _ _ (eval (Expr.Name _ _) _) _ _ _); fail "a name")
  | ((with_reducible show wpAny _ _ (subscriptTail _ _ (Value.ref _) (Value.int 0 _)) _ _ _); refine sub3_0 (by assumption) ?_)
  | ((with_reducible show wpAny _ _ (subscriptTail _ _ (Value.ref _) (Value.int 1 _)) _ _ _); refine sub3_1 (by assumption) ?_)
  | ((with_reducible show wpAny _ _ (subscriptTail _ _ (Value.ref _) (Value.int 2 _)) _ _ _); refine sub3_2 (by assumption) ?_)
  | ((fail_if_success (first | with_reducible show wpAny _ _ (call _ _ _) _ _ _ | with_reducible show wpAny _ _ (eval (Expr.ListComp _ _ _ _) _) _ _ _ | with_reducible show wpAny _ _ (eval (Expr.Name _ _) _) _ _ _ | with_reducible show wpAny _ _ (compareOp _ (Value.ref _) _) _ _ _ | with_reducible show wpAny _ _ (compareOp _ _ (Value.ref _)) _ _ _ | with_reducible show wpAny _ _ (getAttr (Value.ref _) _ _) _ _ _ | with_reducible show wpAny _ _ (subscriptTail _ _ _ _) _ _ _ | with_reducible show wpAny _ _ (binaryOp _ (Value.ref _) _) _ _ _)); (first | with_reducible show wpAny _ _ _ _ _ _ | with_reducible show (if _ then _ else _)); walk1)))
theorem init_set {a : Addr} {d : Trip} (C : Cx w s.heap) (hA : Sm 10 A) (T : TagV s.heap (.ref a) d) :
    Gv w A (call (.ref 332) [.ref a]) (fun v s' => ∃ c, v = .ref c ∧ SetIs s'.heap c (.ref a) [.ref a] [d]) s := by
  have X := C.X
  obtain ⟨_, _, _, TT⟩ := C.T
  refine call_fn (binds := [(Str.ofString "tag", .ref a)]) C hA (by k_is) (by k_is) (by exact BindsTo.of_eq rfl) (by exact locs rfl) (by decide) (by rfl) (by rfl) (by rfl) fun L s₀ k₀ F hA' => ?_
  refine wpAny_execs_cons (wpAny_Return_some ?_)
  ktr_rel
  refine (set_new (zs := [.ref a]) (ds := [d]) (C.keep k₀.keep) (hA'.lower (by omega)) ⟨rfl, fun j h1 h2 => ?_⟩ (by show 1 ≤ 5; decide)).use fun v s₂ k₂ hv => ⟨k₀.trans k₂, hv⟩
  match j, h1 with
  | 0, _ => exact T.keep k₀.keep
theorem st32 {Q : Flow → Shared → Prop} {E : Value → Shared → Prop} {a p : Addr} {c1 f1 n1 : Int} {t1 t2 t3 : Tok} (l : LF w S L B m s) (hA : Sm 19 A) {fv : Value} (hm0 : m (Str.ofString "first") = some fv)
    (hm1 : m (Str.ofString "one") = some (.ref a)) (T1 : TagIs B a c1 f1 n1 t1 t2 t3 p)
    (h : ∀ B' s' c, LF w S L B' (fun y => if y = Str.ofString "only" then some (.ref c) else m y) s' → (∀ b o, B.get? b = some o → B'.get? b = some o) → SetIs B' c (.ref a) [.ref a] [⟨c1, f1, n1, t1, t2, t3⟩] → Q .next s') :
    wpAny (M w) A (exec (lawStmt 32) (lawEnv L)) Q E s := by
  conv in (lawStmt 32) => whnf
  have X := l.X
  obtain ⟨_, _, _, TT⟩ := l.T
  have F := l.F
  refine wpAny_Assign_Name ?_
  kwd_rel
  refine ⟨l.cx.X, ?_⟩
  refine Gv.use (init_set (d := ⟨c1, f1, n1, t1, t2, t3⟩) (by exact l.cx) (hA.lower (by omega)) ⟨a, p, rfl, T1.keep l.base⟩) fun v s₁ k₁ hv => ?_
  obtain ⟨c, rfl, HC⟩ := hv
  have l := l.kp2 k₁
  have HC := l.stay hm0 stay_set HC
  have hb := l.up.2
  have l := l.up.1
  refine law_st l fun s₅ l _ => ?_
  exact h _ _ c l hb HC
theorem eq_same {A : Around} {s : Shared} {q r : Addr} {zs : List Value} {E Q : Value → Shared → Prop} (hq : s.heap.get? q = some (tupObj zs)) (hr : s.heap.get? r = some (tupObj zs)) (hA : Sm 1 A) (h : Q (.bool true) s) :
    wpAny (M w) A (compareOp .Eq (.ref q) (.ref r)) Q E s := by
  rw [ce_ord rfl]
  refine rc_same rfl hq hr hA.cl _ _ _ _ ?_
  simp only [lexAns, firstOff_true]
  simpa using h
theorem st33 {Q : Flow → Shared → Prop} {E : Value → Shared → Prop} {a p c pl p1 p2 : Addr} {c1 f1 n1 : Int} {t1 t2 t3 : Tok} (l : LF w S L B m s) (hA : Sm 19 A)
    (hm1 : m (Str.ofString "only") = some (.ref c)) (hm2 : m (Str.ofString "one") = some (.ref a)) (hm3 : m (Str.ofString "pairs") = some (.ref pl)) (T1 : TagIs B a c1 f1 n1 t1 t2 t3 p) (H : SetIs B c (.ref a) [.ref a] [⟨c1, f1, n1, t1, t2, t3⟩])
    (hpl : B.get? pl = some { cls := .type "list", data := .seq [.ref p1, .ref p2].toArray }) (P1 : PairAt B (.ref p1) (c1, n1))
    (h : ∀ s', LF w S L B m s' → Q (.ret (.bool true)) s') :
    wpAny (M w) A (exec (lawStmt 33) (lawEnv L)) Q E s := by
  conv in (lawStmt 33) => whnf
  have X := l.X
  obtain ⟨_, _, _, TT⟩ := l.T
  have F := l.F
  refine wpAny_Return_some ?_
  refine BoolOp_and ?_
  kwd_rel
  refine Gv.use (baseTag_get (k := 5) (by exact l.cx) (hA.lower (by omega)) (H.keep l.base) rfl) fun v s₁ k₁ hv => ?_
  subst hv
  have l := l.kp2 k₁
  have F := l.F
  kwd_rel
  rw [ce_ord rfl]
  refine Gv.use (cmp_key (k := 5) (d := .pair (c1, n1)) (e := .pair (c1, n1)) (by exact l.cx) (hA.lower (by omega)) rfl (cls_Tag w) ((tagKey T1).keep l.base) ((tagKey T1).keep l.base) trivial) fun v s₂ k₂ hv => ?_
  subst hv
  have l := l.kp2 k₂
  have F := l.F
  rw [cmpCK_self]
  refine wpAny_truthy_bool ?_
  simp only [if_true]
  refine BoolOp_and ?_
  kwd_rel
  refine Gv.use (superTags_get (k := 5) (by exact l.cx) (hA.lower (by omega)) (H.keep l.base)) fun v s₁ k₁ hv => ?_
  obtain ⟨st, rfl, hst⟩ := hv
  have l := l.kp2 k₁
  have F := l.F
  kwd_rel
  refine law_tup l fun r1 s₂ l k₂ hr1 => ?_
  have F := l.F
  refine eq_same (k₂ _ _ hst) hr1 (hA.lower (by omega)) ?_
  refine wpAny_truthy_bool ?_
  simp only [if_true]
  refine BoolOp_and ?_
  have e1 := l.base _ _ hpl
  kwd_rel
  refine law_tup l fun r2 s₃ l k₃ hr2 => ?_
  have F := l.F
  have R2 : RowAt s₃.heap (.ref r2) [(c1, n1)] := ⟨r2, 0, _, rfl, hr2, rfl, fun j h1 h2 => by
    match j, h1 with
    | 0, _ => exact P1.keep l.base⟩
  rw [ce_ord rfl]
  refine Gv.use (cmp_key (k := 5) (d := .row [(c1, n1)]) (e := .row [(c1, n1)]) (by exact l.cx) (hA.lower (by omega)) rfl (cls_TagSet w) ((setKey H).keep l.base) (.dat R2) trivial) fun v s₂ k₂ hv => ?_
  subst hv
  have l := l.kp2 k₂
  have F := l.F
  rw [cmpCK_self]
  refine wpAny_truthy_bool ?_
  simp only [if_true]
  refine BoolOp_one ?_
  kwd_rel
  refine law_tup l fun r3 s₄ l k₄ hr3 => ?_
  have F := l.F
  have R3 : RowAt s₄.heap (.ref r3) [] := ⟨r3, 0, _, rfl, hr3, rfl, fun j h1 h2 => by cases h1⟩
  rw [ce_ord rfl]
  refine Gv.use (cmp_key (k := 5) (d := .row [(c1, n1)]) (e := .row []) (by exact l.cx) (hA.lower (by omega)) rfl (cls_TagSet w) ((setKey H).keep l.base) (.dat R3) trivial) fun v s₂ k₂ hv => ?_
  subst hv
  have l := l.kp2 k₂
  exact h _ l
end
end Mine
end
section
set_option maxRecDepth 100000
set_option maxHeartbeats 4000000
open PySem PySem.W PyProof.Rows
namespace Mine
open PyProof.Rows.LCg (lst lst_snoc)
local macro_rules | `(tactic| ktr_rel) => `(tactic| repeat ((fail_if_success (first | with_reducible show wpAny _ _ (call _ _ _) _ _ _ | with_reducible show wpAny _ _ (eval (Expr.ListComp _ _ _ _) _) _ _ _ | with_reducible show wpAny _ _ (compareOp _ (Value.ref _) _) _ _ _ | with_reducible show wpAny _ _ (compareOp _ _ (Value.ref _)) _ _ _ | with_reducible show wpAny _ _ (getAttr (Value.ref _) _ _) _ _ _ | with_reducible show wpAny _ _ (subscriptTail _ _ _ _) _ _ _ | with_reducible show wpAny _ _ (binaryOp _ (Value.ref _) _) _ _ _)); walk1))
local macro_rules | `(tactic| tb_start) => `(tactic| first
  | (with_reducible refine' tagClass_own ?zX ?zT ?_; (case zX => k_in); (case zT => exact TagIs.keep (by assumption) (Fr.keep (by assumption))))
  | (with_reducible refine' tagFormat_own ?zX ?zT ?_; (case zX => k_in); (case zT => exact TagIs.keep (by assumption) (Fr.keep (by assumption))))
  | (with_reducible refine' tagId_own ?zX ?zT ?_; (case zX => k_in); (case zT => exact TagIs.keep (by assumption) (Fr.keep (by assumption))))
  | (with_reducible refine' tagClassId_own ?zX ?zT ?_; (case zX => k_in); (case zT => exact TagIs.keep (by assumption) (Fr.keep (by assumption))))
  | (with_reducible refine' tagClass_use ?zC ?zA ?zT ?_; (case zC => exact Cx.keep (by assumption) (Fr.keep (by assumption))); (case zA => exact Sm.lower (by assumption) (by omega)); (case zT => exact TagIs.keep (by assumption) (Fr.keep (by assumption))); intro s₁ k₁; (have F := Fr.keeps (by assumption) (Kp.keep k₁)))
  | (with_reducible refine' tagFormat_use ?zC ?zA ?zT ?_; (case zC => exact Cx.keep (by assumption) (Fr.keep (by assumption))); (case zA => exact Sm.lower (by assumption) (by omega)); (case zT => exact TagIs.keep (by assumption) (Fr.keep (by assumption))); intro s₁ k₁; (have F := Fr.keeps (by assumption) (Kp.keep k₁)))
  | (with_reducible refine' tagId_use ?zC ?zA ?zT ?_; (case zC => exact Cx.keep (by assumption) (Fr.keep (by assumption))); (case zA => exact Sm.lower (by assumption) (by omega)); (case zT => exact TagIs.keep (by assumption) (Fr.keep (by assumption))); intro s₁ k₁; (have F := Fr.keeps (by assumption) (Kp.keep k₁))))
local macro_rules | `(tactic| tb_rel) => `(tactic| first | assumption | exact Kp.refl _ | (refine Kp.trans ?_ (by assumption); tb_rel) | (refine Kp.toks ?_; tb_rel))
local macro_rules | `(tactic| ktd_rel) => `(tactic| repeat' ((first | with_reducible show wpAny _ _ _ _ _ _ | with_reducible show (if _ then _ else _)); walk1))
section
variable {w : World} {A : Around} {s : Shared}
local macro_rules | `(tactic| kln_le) => `(tactic| repeat' (first
  | ((with_reducible show wpAny _ _ (eval (Expr.Name _ _) _) _ _ _); refine cm_L (by assumption) (by assumption) rfl ?_)
  | ((with_reducible show wpAny _ _ (eval (Expr.Name (Str.ofString "script") _) _) _ _ _); refine cm_C (by assumption) rfl rfl ?_)
  | ((with_reducible show wpAny _ _ (eval (Expr.Name _ _) _) _ _ _); refine cm_G (by assumption) (by k_is) rfl ?_)
  | ((with_reducible show wpAny _ _ (eval (Expr.Name _ _) _) _ _ _); fail "a name")
  | ((with_reducible show wpAny _ _ (subscriptTail _ _ (Value.ref _) (Value.int 0 _)) _ _ _); refine sub3_0 (by assumption) ?_)
  | ((with_reducible show wpAny _ _ (subscriptTail _ _ (Value.ref _) (Value.int 1 _)) _ _ _); refine sub3_1 (by assumption) ?_)
  | ((with_reducible show wpAny _ _ (subscriptTail _ _ (Value.ref _) (Value.int 2 _)) _ _ _); refine sub3_2 (by assumption) ?_)
  | ((fail_if_success (first | with_reducible show wpAny _ _ (call _ _ _) _ _ _ | with_reducible show wpAny _ _ (eval (Expr.ListComp _ _ _ _) _) _ _ _ | with_reducible show wpAny _ _ (eval (Expr.Name _ _) _) _ _ _ | with_reducible show wpAny _ _ (compareOp _ (Value.ref _) _) _ _ _ | with_reducible show wpAny _ _ (compareOp _ _ (Value.ref _)) _ _ _ | with_reducible show wpAny _ _ (getAttr (Value.ref _) _ _) _ _ _ | with_reducible show wpAny _ _ (subscriptTail _ _ _ _) _ _ _ | with_reducible show wpAny _ _ (binaryOp _ (Value.ref _) _) _ _ _)); (first | with_reducible show wpAny _ _ _ _ _ _ | with_reducible show (if _ then _ else _)); walk1)))
theorem set_init0 {x dx : Addr} {s₀ : Shared} (C : Cx w s.heap) (hA : Sm 5 A) (K : Kp s₀ s) (hx : s.heap.get? x = some (instObj 321 dx)) (hdx : s.heap.get? dx = some (dictOf [] 0))
    (nx : s₀.heap.objs.size ≤ x) (nd : s₀.heap.objs.size ≤ dx) (hne : dx ≠ x) (C₀ : Cx w s₀.heap) (hz : s₀.heap.objs.size ≤ s.heap.objs.size) (zx : x < s.heap.objs.size) (zd : dx < s.heap.objs.size) :
    codeAny (M w) A (.call (.ref 199) ⟨[.ref x], []⟩) (fun r s' => match r with | .ok (.ret v) => v = .none ∧ Kp s₀ s' ∧ ∃ a, Value.ref x = .ref a ∧ SetIs s'.heap a (.ref 193) ([] : List Value) ([] : List Trip) | _ => False) s := by
  refine code_fnV (vs := ([] : List Value)) (binds := fun D => [(Str.ofString "self", .ref x), (Str.ofString "baseTag", (.ref 193)), (Str.ofString "superTags", .ref D)]) (P := fun v s' => v = .none ∧ Kp s₀ s' ∧ ∃ a, Value.ref x = .ref a ∧ SetIs s'.heap a (.ref 193) ([] : List Value) ([] : List Trip)) C hA (by k_is) (by k_is) ?hb ?hloc (by decide) (by rfl) (by rfl) (by rfl) ?_
  case hb => exact ⟨_, rfl, fun _ => rfl⟩
  case hloc => exact fun D => locs rfl
  intro D L s₁ K₁ hD nD F hA'
  have hT : All2 (TagV s₀.heap) ([] : List Value) ([] : List Trip) := ⟨rfl, fun j h1 h2 => by cases h1⟩
  have hlen : ([] : List Value).length ≤ 5 := by decide
  have hLs : s.heap.objs.size ≤ L := F.above
  have hdL : dx ≠ L := Nat.ne_of_lt (Nat.lt_of_lt_of_le zd hLs)
  have hxL : x ≠ L := Nat.ne_of_lt (Nat.lt_of_lt_of_le zx hLs)
  have hL₀ : s₀.heap.objs.size ≤ L := Nat.le_trans hz hLs
  have hd₀ : s₀.heap.get? dx = none := Heap.get?_none_of_le nd
  have hDdx : D ≠ dx := Nat.ne_of_gt (Nat.lt_of_lt_of_le zd nD)
  have F := Fr.low F K.keep hz
  have X := C₀.X
  obtain ⟨_, _, _, TT⟩ := C₀.T
  have K := K.trans K₁
  have hx := K₁.keep _ _ hx
  have hdx := K₁.keep _ _ hdx
  clear K₁
  have f1 : findIn (hd.heap_39 w.params) (.ref 321) "__setattr__" = some (some (.builtin "object.__setattr__")) := by k_is
  have f2 : plainOver (hd.heap_39 w.params) 321 = true := by k_is
  have f3 : hasDictIn (hd.heap_39 w.params) 321 = true := by k_is
  have g1 : takerIn (hd.heap_39 w.params) 321 (Str.ofString "_TagSet__baseTag") = some none := by k_is
  have g2 : takerIn (hd.heap_39 w.params) 321 (Str.ofString "_TagSet__superTags") = some none := by k_is
  have g3 : takerIn (hd.heap_39 w.params) 321 (Str.ofString "_TagSet__superTagsClassId") = some none := by k_is
  have g4 : takerIn (hd.heap_39 w.params) 321 (Str.ofString "_TagSet__lenOfSuperTags") = some none := by k_is
  -- self.__baseTag = baseTag
  refine wpAny_execs_cons (plainObj_wpAny_Assign_Attribute ?_)
  ktr_rel
  refine set_own_dict F X hx hdx hd₀ hdL f1 f2 g1 f3 (by rfl) (es' := [⟨_, .str (Str.ofString "_TagSet__baseTag") _, (.ref 193)⟩]) (n' := 1) rfl (by show 1 ≤ 1000; decide) fun h₂ F' hdx kk => ?_
  have K := Kp.upd (tk := s₁.toks + 2) K nd hL₀ kk
  have hx := kk _ _ (Ne.symm hne) hxL hx
  have hD := kk _ _ hDdx (Fr.ne_dict F hD (by intro es n q; cases q)) hD
  clear F kk
  rename Fr s₀.heap L h₂ _ => F
  -- self.__superTags = superTags
  refine wpAny_execs_cons (plainObj_wpAny_Assign_Attribute ?_)
  ktr_rel
  refine set_own_dict F X hx hdx hd₀ hdL f1 f2 g2 f3 (by rfl) (es' := [⟨_, .str (Str.ofString "_TagSet__baseTag") _, (.ref 193)⟩, ⟨_, .str (Str.ofString "_TagSet__superTags") _, .ref D⟩]) (n' := 2) rfl (by show 2 ≤ 1000; decide) fun h₃ F' hdx kk => ?_
  have K := Kp.upd (tk := s₁.toks + 2 + 2) K nd hL₀ kk
  have hx := kk _ _ (Ne.symm hne) hxL hx
  have hD := kk _ _ hDdx (Fr.ne_dict F hD (by intro es n q; cases q)) hD
  clear F kk
  rename Fr s₀.heap L h₃ _ => F
  -- self.__superTagsClassId = tuple([...])
  refine wpAny_execs_cons (plainObj_wpAny_Assign_Attribute ?_)
  ktr_rel
  refine comp_eval (cl := []) (by decide) ?c1 ?c2 ?c3 ?c4 ?c5 ?_
  case c1 => rfl
  case c2 => decide
  case c3 => rfl
  case c4 => decide
  case c5 => rfl
  refine ld F rfl ?_
  refine ⟨_, _, fun j y h => ∃ d, ([] : List Trip)[j]? = some d ∧ PairAt h y (d.c, d.n), ⟨src_tup hA'.handled ⟨_, hD, rfl, _, rfl⟩, by rw [List.size_toArray, sizeLine_eq]; omega, fun _ _ => Stay.ex fun _ => stay_val.and stay_pair, ?_⟩, ?_⟩
  · intro i v C' m₃ s₃ hi hv hk hC hN hm
    have hi' : i < ([] : List Value).length := by simpa using hi
    have hid : i < ([] : List Trip).length := hT.1 ▸ hi'
    have hv' : ([] : List Value)[i] = v := by
      have e : ([] : List Value).toArray[i]? = some v := hv
      rw [List.getElem?_toArray, List.getElem?_eq_getElem hi'] at e
      exact Option.some.inj e
    obtain ⟨a, p, ha, T⟩ := hT.2 i hi' hid
    rw [hv'] at ha
    subst ha
    have K := K.trans hk
    have T := T.keep K.keep
    have HC := C₀.keep K.keep
    show wpAny _ _ _ _ _ _
    kln_le
    refine tagClass_use HC (hA'.lower (by omega)) T fun s₄ k₄ => ?_
    have T := T.keep k₄.keep
    have HC := HC.keep k₄.keep
    have hN := hN.at' fun o e => k₄.keep _ o e
    kln_le
    refine tagId_use HC (hA'.lower (by omega)) T fun s₅ k₅ => ?_
    kln_le
    refine wpAny_newTuple ?_
    exact ⟨k₄.trans (k₅.trans (Kp.heap fun _ _ e => Heap.get?_push_of_some _ e)), ([] : List Trip)[i], List.getElem?_eq_getElem hid, _, 0, _, _, rfl, Heap.get?_push_size _ rfl⟩
  intro D₄ ys s₄ k₄ hD₄ hl₄ hR₄
  have F := F.keeps k₄.keep
  have K := K.trans k₄
  have hx := k₄.keep _ _ hx
  have hdx := k₄.keep _ _ hdx
  have hD := k₄.keep _ _ hD
  have hlz : ys.length = ([] : List Value).length := by simpa using hl₄
  ktr_rel
  refine call_tuple_list (lst_isList hD₄) (fun h₅ k₅ => ?_) (by rw [List.size_toArray, sizeLine_eq]; omega)
  have k₆ : ∀ b o, s₄.heap.get? b = some o → (h₅.push { cls := .type "tuple", data := .seq ys.toArray }).get? b = some o := fun b o e => Heap.get?_push_of_some _ (k₅ b o e)
  have hsc : (h₅.push { cls := .type "tuple", data := .seq ys.toArray }).get? h₅.objs.size = some (tupObj ys) := Heap.get?_push_size _ rfl
  have hR : RowAt (h₅.push { cls := .type "tuple", data := .seq ys.toArray }) (.ref h₅.objs.size) (pairsOf ([] : List Trip)) := by
    refine ⟨_, 0, ys, rfl, hsc, by rw [hlz, hT.1, List.length_map], fun j j1 j2 => ?_⟩
    obtain ⟨d, hd, P⟩ := hR₄ j j1
    have j3 : j < ([] : List Trip).length := by simpa using j2
    exact absurd j3 (by simp)
  generalize h₅.objs.size = sc at hsc hR
  generalize h₅.push { cls := .type "tuple", data := .seq ys.toArray } = H₆ at k₆ hsc hR
  have F := F.keeps k₆
  have K := K.trans (Kp.heap (tk := s₄.toks) k₆)
  have hx := k₆ _ _ hx
  have hdx := k₆ _ _ hdx
  have hD := k₆ _ _ hD
  ktr_rel
  have kd : ∀ {h h' : Heap} {es : List DictEntry} {n : Nat} {m : Str → Option Value}, Fr s₀.heap L h m → h.get? dx = some (dictOf es n) → (∀ b o, b ≠ dx → b ≠ L → h.get? b = some o → h'.get? b = some o) → ∀ b o, (∀ es n, o.data ≠ .dict es n) → h.get? b = some o → h'.get? b = some o :=
    fun {h h' es n m} F hdx kk b o hn e => kk b o (fun q => by rw [q, hdx] at e; cases e; exact hn _ _ rfl) (Fr.ne_dict F e hn) e
  refine set_own_dict F X hx hdx hd₀ hdL f1 f2 g3 f3 (by rfl) (es' := [⟨_, .str (Str.ofString "_TagSet__baseTag") _, (.ref 193)⟩, ⟨_, .str (Str.ofString "_TagSet__superTags") _, .ref D⟩, ⟨_, .str (Str.ofString "_TagSet__superTagsClassId") _, .ref sc⟩]) (n' := 3) rfl (by show 3 ≤ 1000; decide) fun h₇ F' hdx' kk => ?_
  have K := Kp.upd (tk := s₄.toks + 2) K nd hL₀ kk
  have hx := kk _ _ (Ne.symm hne) hxL hx
  have hD := kk _ _ hDdx (Fr.ne_dict F hD (by intro es n q; cases q)) hD
  have hR := hR.noDict (kd F hdx kk)
  clear F kk hdx
  rename Fr s₀.heap L h₇ _ => F
  rename h₇.get? dx = _ => hdx
  -- self.__lenOfSuperTags = len(superTags)
  refine wpAny_execs_cons (plainObj_wpAny_Assign_Attribute ?_)
  ktr_rel
  refine PyProof.Rows.len_tuple (isTup hD) (by rw [List.size_toArray]; omega) ?_
  rw [List.size_toArray]
  ktr_rel
  refine set_own_dict F X hx hdx hd₀ hdL f1 f2 g4 f3 (by rfl) (es' := [⟨_, .str (Str.ofString "_TagSet__baseTag") _, (.ref 193)⟩, ⟨_, .str (Str.ofString "_TagSet__superTags") _, .ref D⟩, ⟨_, .str (Str.ofString "_TagSet__superTagsClassId") _, .ref sc⟩, ⟨_, .str (Str.ofString "_TagSet__lenOfSuperTags") _, .int ([] : List Value).length _⟩]) (n' := 4) rfl (by show 4 ≤ 1000; decide) fun h₈ F' hdx' kk => ?_
  have K := Kp.upd (tk := s₄.toks + 2 + 1 + 1 + 2) K nd hL₀ kk
  have hx := kk _ _ (Ne.symm hne) hxL hx
  have hD := kk _ _ hDdx (Fr.ne_dict F hD (by intro es n q; cases q)) hD
  have hR := hR.noDict (kd F hdx kk)
  refine wpAny_execs_nil ⟨rfl, K, x, rfl, ⟨_, _, _, _, _, _, _, _, D, sc, _, dx, hx, hdx', hD, hR⟩, hT.mono fun v d h => h.keep K.keep⟩
theorem set_new0 (C : Cx w s.heap) (hA : Sm 8 A) :
    Gv w A (call (.ref 321) []) (fun v s' => ∃ a, v = .ref a ∧ SetIs s'.heap a (.ref 193) [] []) s := by
  refine new_cls C.X (by k_is) (by k_is) (by k_is) fun x dx h' hx hdx nd nx hne k hz zd zx => ?_
  refine codeAny_mono (set_init0 (s := { s with heap := h' }) (C.keep k) ?_ (Kp.heap k) hx hdx nx nd hne C hz zx zd) fun r s' z => ?_
  · exact ⟨hA.handled, by have := hA.depth; show A.depth + 1 + 10 * 5 ≤ 500; omega, by have := hA.units; show A.units + 1 + 100 * 5 ≤ 5000; omega⟩
  · rcases r with e | (v | _ | _ | _) <;> first | exact z | exact z.elim
end
end Mine
end
section
set_option maxRecDepth 100000
set_option maxHeartbeats 4000000
open PySem PySem.W PyProof.Rows
namespace Mine
local macro_rules | `(tactic| ktr_rel) => `(tactic| repeat ((fail_if_success (first | with_reducible show wpAny _ _ (call _ _ _) _ _ _ | with_reducible show wpAny _ _ (eval (Expr.ListComp _ _ _ _) _) _ _ _ | with_reducible show wpAny _ _ (compareOp _ (Value.ref _) _) _ _ _ | with_reducible show wpAny _ _ (compareOp _ _ (Value.ref _)) _ _ _ | with_reducible show wpAny _ _ (getAttr (Value.ref _) _ _) _ _ _ | with_reducible show wpAny _ _ (subscriptTail _ _ _ _) _ _ _ | with_reducible show wpAny _ _ (binaryOp _ (Value.ref _) _) _ _ _)); walk1))
local macro_rules | `(tactic| tb_start) => `(tactic| first
  | (with_reducible refine' tagClass_own ?zX ?zT ?_; (case zX => k_in); (case zT => exact TagIs.keep (by assumption) (Fr.keep (by assumption))))
  | (with_reducible refine' tagFormat_own ?zX ?zT ?_; (case zX => k_in); (case zT => exact TagIs.keep (by assumption) (Fr.keep (by assumption))))
  | (with_reducible refine' tagId_own ?zX ?zT ?_; (case zX => k_in); (case zT => exact TagIs.keep (by assumption) (Fr.keep (by assumption))))
  | (with_reducible refine' tagClassId_own ?zX ?zT ?_; (case zX => k_in); (case zT => exact TagIs.keep (by assumption) (Fr.keep (by assumption))))
  | (with_reducible refine' tagClass_use ?zC ?zA ?zT ?_; (case zC => exact Cx.keep (by assumption) (Fr.keep (by assumption))); (case zA => exact Sm.lower (by assumption) (by omega)); (case zT => exact TagIs.keep (by assumption) (Fr.keep (by assumption))); intro s₁ k₁; (have F := Fr.keeps (by assumption) (Kp.keep k₁)))
  | (with_reducible refine' tagFormat_use ?zC ?zA ?zT ?_; (case zC => exact Cx.keep (by assumption) (Fr.keep (by assumption))); (case zA => exact Sm.lower (by assumption) (by omega)); (case zT => exact TagIs.keep (by assumption) (Fr.keep (by assumption))); intro s₁ k₁; (have F := Fr.keeps (by assumption) (Kp.keep k₁)))
  | (with_reducible refine' tagId_use ?zC ?zA ?zT ?_; (case zC => exact Cx.keep (by assumption) (Fr.keep (by assumption))); (case zA => exact Sm.lower (by assumption) (by omega)); (case zT => exact TagIs.keep (by assumption) (Fr.keep (by assumption))); intro s₁ k₁; (have F := Fr.keeps (by assumption) (Kp.keep k₁))))
local macro_rules | `(tactic| tb_rel) => `(tactic| first | assumption | exact Kp.refl _ | (refine Kp.trans ?_ (by assumption); tb_rel) | (refine Kp.toks ?_; tb_rel))
local macro_rules | `(tactic| ktd_rel) => `(tactic| repeat' ((first | with_reducible show wpAny _ _ _ _ _ _ | with_reducible show (if _ then _ else _)); walk1))
section
variable {w : World} {A : Around} {s : Shared}
theorem log2_small {n : Int} (h0 : 0 ≤ n) (h1 : n < 10 ^ 40) : n.natAbs.log2 < 1920 := by
  by_cases hz : n.natAbs = 0
  · rw [hz]; decide
  · refine (Nat.log2_lt hz).mpr ?_
    have h2 : n.natAbs < 10 ^ 40 := by omega
    exact Nat.lt_trans h2 (by decide +kernel)
theorem id_str {n : Int} {t : Tok} (C : Cx w s.heap) (hA : Sm 3 A) (h0 : 0 ≤ n) (h1 : n < 10 ^ 40) :
    Gv w A (call (.ref 56) [.int n t]) (fun v s' => ∃ t, v = .str (toString n : String) t) s := by
  have X := C.X
  obtain ⟨_, _, _, TT⟩ := C.T
  refine call_fn (binds := [(Str.ofString "tagId", .int n t)]) C hA (by k_is) (by k_is) (by exact BindsTo.of_eq rfl) (by exact locs rfl) (by decide) (by rfl) (by rfl) (by rfl) fun L s₀ k₀ F hA' => ?_
  refine wpAny_execs_cons (wpAny_Try_except ?_)
  refine wpAny_execs_cons (wpAny_Return_some ?_)
  ktr_rel
  exact PySem.P.str_of_int (log2_small h0 h1) ⟨k₀.toks, _, rfl⟩
end
end Mine
end
section
set_option maxRecDepth 100000
set_option maxHeartbeats 4000000
open PySem PySem.W PyProof.Rows
namespace Mine
open PySem.Builtin PySem.Builtin.ObjectAttr PySem.Builtin.Getset_descriptor PySem.Calls
section
variable {prog : Program} {w : World} {A : Around} {E : Value → Shared → Prop} {s : Shared} {K : Frag} {R : Result → Shared → Prop} {h₀ : Heap} {L C : Addr} {m : Str → Option Value} {v : Value}
theorem dga_ref (d tp : Value) (C : Addr) : descrGetArgs ⟨[d, .ref C, tp], []⟩ = pure (d, some (.ref C), given tp) := by kernel_rfl
theorem nm_get {tp : Value} {o : Obj} (X : K.In s.heap) (ht : typeIn K (.ref C) = some (.type "type")) (ho : s.heap.get? C = some o) (hs : o.slots[2]?.join = some v) (h : R (.ok (.ret v)) s) :
    codeAny (model prog w) A (.call (.builtin "getset_descriptor.__get__") ⟨[.builtin "type.__name__", .ref C, tp], []⟩) R s := by
  obtain ⟨hh, g, dr, t, os⟩ := s
  have L0 : Looks (model prog w) hh (typeOf (.ref C)) (.type "type") := looks_typeIn X ht
  have L1 : Looks (model prog w) hh (isSubtype (.type "type") (.type "type")) true := Looks.of_pure (by rw [isSubtype_type]; kernel_rfl)
  refine codeAny_call_builtin KF.slot_gs.plain KF.entry_gs (KF.slot_gs.check _ _ _ _ _ _ _ _ ktyn_type (KF.args_gs _ _ _) ?_)
  unfold Builtin.«getset_descriptor.__get__» descrGet
  rw [dga_ref]
  refine wpAny_bind (wpAny_pure ?_)
  unfold descrGetter descrCheckInstance descrNameAndClass isInstance
  simp only [ktyn_owner]
  repeat lk
  refine ⟨Code.quiet_builtin _ (by decide +kernel), codeAny_builtin ktyn_entry ?_⟩
  unfold Builtin.«type.__name__» keptObject slotAt
  dsimp only
  refine wpAny_bind (wpAny_bind (wpAny_loadPart ho ?_))
  refine wpAny_pure ?_
  rw [hs]
  exact wpAny_pure h
theorem nm_own {expr : Bool} {Q : Value → Shared → Prop} {o : Obj} (X : K.In s.heap) (hr : readsIn K C (.type "type") = true)
    (e : findCls K (.ref C) (.type "type") "__name__" = some (.get (.builtin "getset_descriptor.__get__") (.builtin "type.__name__") (.ref C) (.type "type")))
    (ht : typeIn K (.ref C) = some (.type "type")) (ho : K.lookup C = some o) (hs : o.slots[2]?.join = some v) (hv : handedIn v = true) (h : Q v { s with toks := s.toks + 1 }) :
    wpAny (model prog w) A (getAttr (.ref C) "__name__" expr) Q E s :=
  cls_bind X hr e (wpAny_call (nm_get (s := { s with toks := s.toks + 1 }) X ht (X _ _ ho) hs (handed_on hv h)))
end
end Mine
end
section
set_option maxRecDepth 100000
set_option maxHeartbeats 4000000
open PySem PySem.W PyProof.Rows
namespace Mine
local macro_rules | `(tactic| ktr_rel) => `(tactic| repeat ((fail_if_success (first | with_reducible show wpAny _ _ (call _ _ _) _ _ _ | with_reducible show wpAny _ _ (eval (Expr.ListComp _ _ _ _) _) _ _ _ | with_reducible show wpAny _ _ (compareOp _ (Value.ref _) _) _ _ _ | with_reducible show wpAny _ _ (compareOp _ _ (Value.ref _)) _ _ _ | with_reducible show wpAny _ _ (getAttr (Value.ref _) _ _) _ _ _ | with_reducible show wpAny _ _ (subscriptTail _ _ _ _) _ _ _ | with_reducible show wpAny _ _ (binaryOp _ (Value.ref _) _) _ _ _)); walk1))
local macro_rules | `(tactic| tb_start) => `(tactic| first
  | (with_reducible refine' tagClass_own ?zX ?zT ?_; (case zX => k_in); (case zT => exact TagIs.keep (by assumption) (Fr.keep (by assumption))))
  | (with_reducible refine' tagFormat_own ?zX ?zT ?_; (case zX => k_in); (case zT => exact TagIs.keep (by assumption) (Fr.keep (by assumption))))
  | (with_reducible refine' tagId_own ?zX ?zT ?_; (case zX => k_in); (case zT => exact TagIs.keep (by assumption) (Fr.keep (by assumption))))
  | (with_reducible refine' tagClassId_own ?zX ?zT ?_; (case zX => k_in); (case zT => exact TagIs.keep (by assumption) (Fr.keep (by assumption))))
  | (with_reducible refine' tagClass_use ?zC ?zA ?zT ?_; (case zC => exact Cx.keep (by assumption) (Fr.keep (by assumption))); (case zA => exact Sm.lower (by assumption) (by omega)); (case zT => exact TagIs.keep (by assumption) (Fr.keep (by assumption))); intro s₁ k₁; (have F := Fr.keeps (by assumption) (Kp.keep k₁)))
  | (with_reducible refine' tagFormat_use ?zC ?zA ?zT ?_; (case zC => exact Cx.keep (by assumption) (Fr.keep (by assumption))); (case zA => exact Sm.lower (by assumption) (by omega)); (case zT => exact TagIs.keep (by assumption) (Fr.keep (by assumption))); intro s₁ k₁; (have F := Fr.keeps (by assumption) (Kp.keep k₁)))
  | (with_reducible refine' tagId_use ?zC ?zA ?zT ?_; (case zC => exact Cx.keep (by assumption) (Fr.keep (by assumption))); (case zA => exact Sm.lower (by assumption) (by omega)); (case zT => exact TagIs.keep (by assumption) (Fr.keep (by assumption))); intro s₁ k₁; (have F := Fr.keeps (by assumption) (Kp.keep k₁))))
local macro_rules | `(tactic| tb_rel) => `(tactic| first | assumption | exact Kp.refl _ | (refine Kp.trans ?_ (by assumption); tb_rel) | (refine Kp.toks ?_; tb_rel))
local macro_rules | `(tactic| ktd_rel) => `(tactic| repeat' ((first | with_reducible show wpAny _ _ _ _ _ _ | with_reducible show (if _ then _ else _)); walk1))
section
variable {w : World} {A : Around} {s : Shared}
theorem dec_len {n : Int} (h0 : 0 ≤ n) (h1 : n < 10 ^ 40) : (Str.ofString (toString n)).length ≤ 40 := toString_length_le h0 (by decide) h1
theorem dec_le {n : Int} (h0 : 0 ≤ n) (h1 : n < 10 ^ 40) : (Str.ofString (toString n)).length ≤ sizeLine := by
  rw [sizeLine_eq]; exact Nat.le_trans (dec_len h0 h1) (by decide)
theorem Kp.into {s s₁ : Shared} {h : Heap} {tk : Nat} (x : Kp s s₁) (k : ∀ b o, s.heap.get? b = some o → h.get? b = some o) : Kp s { s₁ with heap := h, toks := tk } := by
  obtain ⟨h1, t1, g1, rfl, _, b1⟩ := x
  exact ⟨h, tk, g1, rfl, k, b1⟩
def tagText (c f n : Int) : Str := Str.ofString "<" ++ Str.ofString "Tag" ++ Str.ofString " object, tag " ++ (Str.ofString "[" ++ Str.ofString (toString c) ++ Str.ofString ":" ++ Str.ofString (toString f) ++ Str.ofString ":" ++ Str.ofString (toString n) ++ Str.ofString "]") ++ Str.ofString ">"
theorem tag_repr {a p : Addr} {c f n : Int} {t1 t2 t3 : Tok} (C : Cx w s.heap) (hA : Sm 5 A) (T : TagIs s.heap a c f n t1 t2 t3 p) (hn : 0 ≤ n) (hn' : n < 10 ^ 40) (hc : 0 ≤ c) (hc' : c < 10 ^ 40) (hf : 0 ≤ f) (hf' : f < 10 ^ 40) :
    Gv w A (call (.ref 77) [.ref a]) (fun v s' => ∃ t, v = .str (tagText c f n) t) s := by
  have X := C.X
  obtain ⟨_, _, _, TT⟩ := C.T
  refine call_fn (binds := [(Str.ofString "self", .ref a)]) C hA (by k_is) (by k_is) (by exact BindsTo.of_eq rfl) (by exact locs rfl) (by decide) (by rfl) (by rfl) (by rfl) fun L s₀ k₀ F hA' => ?_
  refine wpAny_execs_cons ?_
  ktr_rel; tb_start; ktr_rel; tb_start; ktr_rel
  tb_start
  ktr_rel
  refine Gv.use (id_str (by exact C.keep (Fr.keep (by assumption))) (by exact hA'.lower (by omega)) hn hn') fun v s₁ k₁ hv => ?_
  obtain ⟨t, rfl⟩ := hv
  have F := Fr.keeps (by assumption) k₁.keep
  ktr_rel
  rename Fr _ L _ _ => F
  obtain ⟨dx, od, I⟩ := (T.keep F.keep).inst
  refine' get_class F X I ?g1 ?g2 ?g3 ?g4 ?g5 ?g6 ?_
  case g1 => k_is
  case g2 => k_is
  case g3 => k_is
  case g4 => k_is
  case g5 => k_is
  case g6 => k_is
  refine' nm_own (v := .str (Str.ofString "Tag") 244) (X.keeps F.keep) ?r1 ?r2 ?r3 ?r4 ?r5 (by rfl) ?_
  case r1 => k_is
  case r2 => k_is
  case r3 => k_is
  case r4 => k_is
  case r5 => rfl
  ktr_rel
  all_goals first
    | exact ⟨_, rfl⟩
    | tb_rel
    | exact Kp.into (Kp.trans (Kp.toks k₀) k₁) F.keep
    | (refine Kp.into (tk := ?tk) (s₁ := s₁) (h := ?hh) ?_ ?_; exact Kp.trans (Kp.toks k₀) k₁; exact Fr.keep F)
end
end Mine
end
section
set_option maxRecDepth 100000
set_option maxHeartbeats 4000000
open PySem PySem.W PyProof.Rows
namespace Mine
local macro_rules | `(tactic| ktr_rel) => `(tactic| repeat ((fail_if_success (first | with_reducible show wpAny _ _ (call _ _ _) _ _ _ | with_reducible show wpAny _ _ (eval (Expr.ListComp _ _ _ _) _) _ _ _ | with_reducible show wpAny _ _ (compareOp _ (Value.ref _) _) _ _ _ | with_reducible show wpAny _ _ (compareOp _ _ (Value.ref _)) _ _ _ | with_reducible show wpAny _ _ (getAttr (Value.ref _) _ _) _ _ _ | with_reducible show wpAny _ _ (subscriptTail _ _ _ _) _ _ _ | with_reducible show wpAny _ _ (binaryOp _ (Value.ref _) _) _ _ _)); walk1))
local macro_rules | `(tactic| tb_start) => `(tactic| first
  | (with_reducible refine' tagClass_own ?zX ?zT ?_; (case zX => k_in); (case zT => exact TagIs.keep (by assumption) (Fr.keep (by assumption))))
  | (with_reducible refine' tagFormat_own ?zX ?zT ?_; (case zX => k_in); (case zT => exact TagIs.keep (by assumption) (Fr.keep (by assumption))))
  | (with_reducible refine' tagId_own ?zX ?zT ?_; (case zX => k_in); (case zT => exact TagIs.keep (by assumption) (Fr.keep (by assumption))))
  | (with_reducible refine' tagClassId_own ?zX ?zT ?_; (case zX => k_in); (case zT => exact TagIs.keep (by assumption) (Fr.keep (by assumption))))
  | (with_reducible refine' tagClass_use ?zC ?zA ?zT ?_; (case zC => exact Cx.keep (by assumption) (Fr.keep (by assumption))); (case zA => exact Sm.lower (by assumption) (by omega)); (case zT => exact TagIs.keep (by assumption) (Fr.keep (by assumption))); intro s₁ k₁; (have F := Fr.keeps (by assumption) (Kp.keep k₁)))
  | (with_reducible refine' tagFormat_use ?zC ?zA ?zT ?_; (case zC => exact Cx.keep (by assumption) (Fr.keep (by assumption))); (case zA => exact Sm.lower (by assumption) (by omega)); (case zT => exact TagIs.keep (by assumption) (Fr.keep (by assumption))); intro s₁ k₁; (have F := Fr.keeps (by assumption) (Kp.keep k₁)))
  | (with_reducible refine' tagId_use ?zC ?zA ?zT ?_; (case zC => exact Cx.keep (by assumption) (Fr.keep (by assumption))); (case zA => exact Sm.lower (by assumption) (by omega)); (case zT => exact TagIs.keep (by assumption) (Fr.keep (by assumption))); intro s₁ k₁; (have F := Fr.keeps (by assumption) (Kp.keep k₁))))
local macro_rules | `(tactic| tb_rel) => `(tactic| first | assumption | exact Kp.refl _ | (refine Kp.trans ?_ (by assumption); tb_rel) | (refine Kp.toks ?_; tb_rel))
local macro_rules | `(tactic| ktd_rel) => `(tactic| repeat' ((first | with_reducible show wpAny _ _ _ _ _ _ | with_reducible show (if _ then _ else _)); walk1))
section
variable {w : World} {A : Around} {s : Shared}
def saidText (c f n : Int) : Str := Str.ofString (toString c) ++ Str.ofString ":" ++ Str.ofString (toString f) ++ Str.ofString ":" ++ Str.ofString (toString n)
theorem law_said {v : Value} {r : Trip} (C : Cx w s.heap) (hA : Sm 5 A) (R : RowIs s.heap v r) (ok : r.ok) :
    Gv w A (call (.ref 367) [v]) (fun v s' => ∃ t, v = .str (saidText r.c r.f r.n) t) s := by
  obtain ⟨q, rfl, hq⟩ := R
  obtain ⟨⟨c0, c1⟩, ⟨f0, f1⟩, n0, n1⟩ := ok
  have c1 : r.c < 10 ^ 40 := Int.lt_of_le_of_lt c1 (by decide)
  have f1 : r.f < 10 ^ 40 := Int.lt_of_le_of_lt f1 (by decide)
  have l1 := dec_le c0 c1
  have X := C.X
  obtain ⟨_, _, _, TT⟩ := C.T
  refine call_fn (binds := [(Str.ofString "triple", .ref q)]) C hA (by k_is) (by k_is) (by exact BindsTo.of_eq rfl) (by exact locs rfl) (by decide) (by rfl) (by rfl) (by rfl) fun L s₀ k₀ F hA' => ?_
  refine wpAny_execs_cons (wpAny_Return_some ?_)
  ktr_rel
  refine sub3_0 (Fr.keep (by assumption) _ _ hq) ?_
  ktr_rel
  refine P.str_of_int (log2_small c0 c1) ?_
  ktr_rel
  refine sub3_1 (Fr.keep (by assumption) _ _ hq) ?_
  ktr_rel
  refine P.str_of_int (log2_small f0 f1) ?_
  ktr_rel
  refine sub3_2 (Fr.keep (by assumption) _ _ hq) ?_
  ktr_rel
  refine P.str_of_int (log2_small n0 n1) ?_
  ktr_rel
  all_goals first
    | exact ⟨_, rfl⟩
    | tb_rel
    | (refine Kp.into (tk := ?tk) (s₁ := s₀) (h := ?hh) ?_ ?_; exact k₀; exact Fr.keep (by assumption))
end
end Mine
end
section
set_option maxRecDepth 100000
set_option maxHeartbeats 4000000
open PySem PySem.W PyProof.Rows
namespace Mine
open PyProof.Rows.LCg (lst lst_snoc)
local macro_rules | `(tactic| ktr_rel) => `(tactic| repeat ((fail_if_success (first | with_reducible show wpAny _ _ (call _ _ _) _ _ _ | with_reducible show wpAny _ _ (eval (Expr.ListComp _ _ _ _) _) _ _ _ | with_reducible show wpAny _ _ (compareOp _ (Value.ref _) _) _ _ _ | with_reducible show wpAny _ _ (compareOp _ _ (Value.ref _)) _ _ _ | with_reducible show wpAny _ _ (getAttr (Value.ref _) _ _) _ _ _ | with_reducible show wpAny _ _ (subscriptTail _ _ _ _) _ _ _ | with_reducible show wpAny _ _ (binaryOp _ (Value.ref _) _) _ _ _)); walk1))
local macro_rules | `(tactic| tb_start) => `(tactic| first
  | (with_reducible refine' tagClass_own ?zX ?zT ?_; (case zX => k_in); (case zT => exact TagIs.keep (by assumption) (Fr.keep (by assumption))))
  | (with_reducible refine' tagFormat_own ?zX ?zT ?_; (case zX => k_in); (case zT => exact TagIs.keep (by assumption) (Fr.keep (by assumption))))
  | (with_reducible refine' tagId_own ?zX ?zT ?_; (case zX => k_in); (case zT => exact TagIs.keep (by assumption) (Fr.keep (by assumption))))
  | (with_reducible refine' tagClassId_own ?zX ?zT ?_; (case zX => k_in); (case zT => exact TagIs.keep (by assumption) (Fr.keep (by assumption))))
  | (with_reducible refine' tagClass_use ?zC ?zA ?zT ?_; (case zC => exact Cx.keep (by assumption) (Fr.keep (by assumption))); (case zA => exact Sm.lower (by assumption) (by omega)); (case zT => exact TagIs.keep (by assumption) (Fr.keep (by assumption))); intro s₁ k₁; (have F := Fr.keeps (by assumption) (Kp.keep k₁)))
  | (with_reducible refine' tagFormat_use ?zC ?zA ?zT ?_; (case zC => exact Cx.keep (by assumption) (Fr.keep (by assumption))); (case zA => exact Sm.lower (by assumption) (by omega)); (case zT => exact TagIs.keep (by assumption) (Fr.keep (by assumption))); intro s₁ k₁; (have F := Fr.keeps (by assumption) (Kp.keep k₁)))
  | (with_reducible refine' tagId_use ?zC ?zA ?zT ?_; (case zC => exact Cx.keep (by assumption) (Fr.keep (by assumption))); (case zA => exact Sm.lower (by assumption) (by omega)); (case zT => exact TagIs.keep (by assumption) (Fr.keep (by assumption))); intro s₁ k₁; (have F := Fr.keeps (by assumption) (Kp.keep k₁))))
local macro_rules | `(tactic| tb_rel) => `(tactic| first | assumption | exact Kp.refl _ | (refine Kp.trans ?_ (by assumption); tb_rel) | (refine Kp.toks ?_; tb_rel))
local macro_rules | `(tactic| ktd_rel) => `(tactic| repeat' ((first | with_reducible show wpAny _ _ _ _ _ _ | with_reducible show (if _ then _ else _)); walk1))
section
variable {w : World} {A : Around} {s : Shared}
local macro_rules | `(tactic| kln_le) => `(tactic| repeat' (first
  | ((with_reducible show wpAny _ _ (eval (Expr.Name _ _) _) _ _ _); refine cm_L (by assumption) (by assumption) rfl ?_)
  | ((with_reducible show wpAny _ _ (eval (Expr.Name (Str.ofString "script") _) _) _ _ _); refine cm_C (by assumption) rfl rfl ?_)
  | ((with_reducible show wpAny _ _ (eval (Expr.Name _ _) _) _ _ _); refine cm_G (by assumption) (by k_is) rfl ?_)
  | ((with_reducible show wpAny _ _ (eval (Expr.Name _ _) _) _ _ _); fail "a name")
  | ((with_reducible show wpAny _ _ (subscriptTail _ _ (Value.ref _) (Value.int 0 _)) _ _ _); refine sub3_0 (by assumption) ?_)
  | ((with_reducible show wpAny _ _ (subscriptTail _ _ (Value.ref _) (Value.int 1 _)) _ _ _); refine sub3_1 (by assumption) ?_)
  | ((with_reducible show wpAny _ _ (subscriptTail _ _ (Value.ref _) (Value.int 2 _)) _ _ _); refine sub3_2 (by assumption) ?_)
  | ((fail_if_success (first | with_reducible show wpAny _ _ (call _ _ _) _ _ _ | with_reducible show wpAny _ _ (eval (Expr.ListComp _ _ _ _) _) _ _ _ | with_reducible show wpAny _ _ (eval (Expr.Name _ _) _) _ _ _ | with_reducible show wpAny _ _ (compareOp _ (Value.ref _) _) _ _ _ | with_reducible show wpAny _ _ (compareOp _ _ (Value.ref _)) _ _ _ | with_reducible show wpAny _ _ (getAttr (Value.ref _) _ _) _ _ _ | with_reducible show wpAny _ _ (subscriptTail _ _ _ _) _ _ _ | with_reducible show wpAny _ _ (binaryOp _ (Value.ref _) _) _ _ _)); (first | with_reducible show wpAny _ _ _ _ _ _ | with_reducible show (if _ then _ else _)); walk1)))
def saidTexts (ds : List Trip) : List Str := ds.map fun d => saidText d.c d.f d.n
def SaidOf (ds : List Trip) (j : Nat) (y : Value) : Prop := ∃ d, ds[j]? = some d ∧ ∃ t, y = .str (saidText d.c d.f d.n) t
theorem stay_said {ds : List Trip} {j : Nat} {y : Value} : Stay (fun _ => SaidOf ds j y) := stay_val
theorem strs_of : ∀ {ys : List Value} {ds : List Trip}, ys.length = ds.length → (∀ j (h : j < ys.length), SaidOf ds j ys[j]) → StrsAre ys (saidTexts ds)
  | [], [], _, _ => .nil
  | [], _ :: _, hl, _ => by cases hl
  | _ :: _, [], hl, _ => by cases hl
  | y :: ys, d :: ds, hl, H => by
    obtain ⟨d', hd, t, hy⟩ := H 0 (by simp)
    have hd : d = d' := Option.some.inj hd
    have hy : y = .str (saidText d'.c d'.f d'.n) t := hy
    subst hd hy
    refine .cons _ _ (strs_of (by simpa using hl) fun j h => ?_)
    obtain ⟨d', hd, t, hy⟩ := H (j + 1) (by simpa using h)
    exact ⟨d', by simpa using hd, t, by simpa using hy⟩
theorem said_len {d : Trip} (ok : d.ok) : (saidText d.c d.f d.n).length ≤ 122 := by
  obtain ⟨⟨c0, c1⟩, ⟨f0, f1⟩, n0, n1⟩ := ok
  have a := dec_len c0 (Int.lt_of_le_of_lt c1 (by decide))
  have b := dec_len f0 (Int.lt_of_le_of_lt f1 (by decide))
  have c := dec_len n0 n1
  have e : (Str.ofString ":").length = 1 := by decide
  unfold saidText
  simp only [Str.length_append, e]
  omega
theorem said_sum : ∀ {ds : List Trip}, (∀ d ∈ ds, d.ok) → ((saidTexts ds).map (·.length)).sum ≤ 122 * ds.length
  | [], _ => by simp [saidTexts]
  | d :: ds, H => by
    have h1 := said_len (H d (.head _))
    have h2 := said_sum (ds := ds) fun e he => H e (.tail _ he)
    simp only [saidTexts, List.map_cons, List.sum_cons, List.length_cons] at h2 ⊢
    omega
theorem join_len {ds : List Trip} (ok : ∀ d ∈ ds, d.ok) (hz : ds.length ≤ 5) : (Txt.join (Str.ofString "-") (saidTexts ds)).length ≤ 700 := by
  have h1 : (Txt.join (Str.ofString "-") (saidTexts ds)).length ≤ ((saidTexts ds).map (·.length)).sum + (saidTexts ds).length * (Str.ofString "-").length := by
    show (Builtin.Str.glued _ _).length ≤ _
    rw [StrLaws.glued_eq_join]
    exact StrLaws.join_length_le _ _
  have h2 := said_sum ok
  have e : (Str.ofString "-").length = 1 := by decide
  have e2 : (saidTexts ds).length = ds.length := by simp [saidTexts]
  rw [e, e2] at h1
  omega
theorem join_nil : (((Txt.join (Str.ofString "-") (saidTexts [])).length : Int) != 0) = false := by decide
theorem join_some {ds : List Trip} (h : ds ≠ []) : (((Txt.join (Str.ofString "-") (saidTexts ds)).length : Int) != 0) = true := by
  have h1 := len_join_ge_sum (Str.ofString "-") (saidTexts ds)
  have h2 : 1 ≤ ((saidTexts ds).map (·.length)).sum := by
    cases ds with
    | nil => exact absurd rfl h
    | cons d r =>
      have e : (Str.ofString ":").length = 1 := by decide
      simp only [saidTexts, List.map_cons, List.sum_cons, saidText, Str.length_append, e]
      omega
  simp only [bne_iff_ne, ne_eq]
  omega
def bodyText (ds : List Trip) : Str := if ds.isEmpty then Str.ofString "untagged" else Str.ofString "tags " ++ Txt.join (Str.ofString "-") (saidTexts ds)
def setText (ds : List Trip) : Str := Str.ofString "<" ++ Str.ofString "TagSet" ++ Str.ofString " object, " ++ bodyText ds ++ Str.ofString ">"
theorem set_repr {a : Addr} {base : Value} {zs : List Value} {ds : List Trip} (C : Cx w s.heap) (hA : Sm 8 A) (T : SetIs s.heap a base zs ds) (ok : ∀ d ∈ ds, d.ok) (hz : zs.length ≤ 5) :
    Gv w A (call (.ref 204) [.ref a]) (fun v s' => ∃ t, v = .str (setText ds) t) s := by
  have X := C.X
  obtain ⟨_, _, _, TT⟩ := C.T
  refine call_fn (binds := [(Str.ofString "self", .ref a)]) C hA (by k_is) (by k_is) (by exact BindsTo.of_eq rfl) (by exact locs rfl) (by decide) (by rfl) (by rfl) (by rfl) fun L s₀ k₀ F hA' => ?_
  refine wpAny_execs_cons ?_
  refine wpAny_Assign_Name ?_
  ktr_rel
  refine comp_eval (cl := []) (by decide) ?c1 ?c2 ?c3 ?c4 ?c5 ?_
  case c1 => rfl
  case c2 => decide
  case c3 => rfl
  case c4 => decide
  case c5 => rfl
  refine Attribute_name (ld F rfl ?_)
  refine superTags_own (X.keeps F.keep) (T.keep F.keep) fun st hst => ?_
  refine ⟨_, _, fun j y _ => SaidOf ds j y, ⟨src_tup hA'.handled ⟨_, hst, rfl, _, rfl⟩, by rw [List.size_toArray, sizeLine_eq]; omega, fun _ _ => stay_said, ?_⟩, ?_⟩
  · intro i v C' m₃ s₃ hi hv hk hC hN hm
    have hi' : i < zs.length := by simpa using hi
    have hid : i < ds.length := T.tags.1 ▸ hi'
    have hv' : zs[i] = v := by
      have e : zs.toArray[i]? = some v := hv
      rw [List.getElem?_toArray, List.getElem?_eq_getElem hi'] at e
      exact Option.some.inj e
    obtain ⟨a, p, ha, T⟩ := T.tags.2 i hi' hid
    rw [hv'] at ha
    subst ha
    obtain ⟨⟨c0, c1⟩, ⟨f0, f1⟩, n0, n1⟩ := ok _ (List.getElem_mem hid)
    have c1 : ds[i].c < 10 ^ 40 := Int.lt_of_le_of_lt c1 (by decide)
    have f1 : ds[i].f < 10 ^ 40 := Int.lt_of_le_of_lt f1 (by decide)
    have K := k₀.trans ((Kp.heap (tk := s₀.toks + 1) fun _ _ e => e).trans hk)
    have T := T.keep K.keep
    have HC := C.keep K.keep
    show wpAny _ _ _ _ _ _
    kln_le
    refine tagClass_use HC (hA'.lower (by omega)) T fun s₄ k₄ => ?_
    have T := T.keep k₄.keep
    have HC := HC.keep k₄.keep
    have hN := hN.at' fun o e => k₄.keep _ o e
    kln_le
    walk1
    kln_le
    walk1
    kln_le
    refine tagFormat_use HC (hA'.lower (by omega)) T fun s₅ k₅ => ?_
    have T := T.keep k₅.keep
    have HC := HC.keep k₅.keep
    have hN := hN.at' fun o e => k₅.keep _ o e
    kln_le
    walk1
    kln_le
    walk1
    kln_le
    refine tagId_use HC (hA'.lower (by omega)) T fun s₆ k₆ => ?_
    have T := T.keep k₆.keep
    have HC := HC.keep k₆.keep
    have hN := hN.at' fun o e => k₆.keep _ o e
    kln_le
    refine ⟨HC.X, ?_⟩
    refine Gv.use (id_str (by exact HC) (by exact hA'.lower (by omega)) n0 n1) fun v s₇ k₇ hv => ?_
    obtain ⟨t, rfl⟩ := hv
    kln_le
    walk1
    kln_le
    refine ⟨by tb_rel, ds[i], List.getElem?_eq_getElem hid, _, congrArg (fun x => Value.str x _) ?_⟩
    simp only [saidText, KPc.empty_app]
  intro D₄ ys s₄ k₄ hD₄ hl₄ hR₄
  have F := F.keeps k₄.keep
  have K : Kp s s₄ := k₀.trans ((Kp.heap (tk := s₀.toks + 1) fun _ _ e => e).trans k₄)
  have hlz : ys.length = zs.length := by simpa using hl₄
  have hS := strs_of (hlz.trans T.tags.1) hR₄
  have hsum := said_sum ok
  have hlen : ds.length ≤ 5 := by have := T.tags.1; omega
  ktr_rel
  refine join_list (lst_isList hD₄) hS ?_ fun t' tk => ?_
  · have e : (Str.ofString "-").length = 1 := by decide
    have e2 : (saidTexts ds).length = ds.length := by simp [saidTexts]
    rw [e, e2]; omega
  ktr_rel
  have hjl := join_len ok hlen
  have hjs : (Txt.join (Str.ofString "-") (saidTexts ds)).length ≤ sizeLine := by rw [sizeLine_eq]; omega
  refine P.truthy_str (by omega) ?_
  have nm : ∀ {A : Around} {s : Shared} {h₀ : Heap} {m : Str → Option Value} {E Q : Value → Shared → Prop}, Fr h₀ L s.heap m → (hd.heap_39 w.params).In h₀ → SetIs s.heap a base zs ds → (Q (.str (Str.ofString "TagSet") 396) { s with toks := s.toks + 1 + 1 }) →
      wpAny (M w) A (getAttr (.ref a) (Str.ofString "__class__") true) (fun o s₁ => wpAny (M w) A (getAttr o (Str.ofString "__name__") true) Q E s₁) E s := fun {A s h₀ m E Q} F X T h => by
    obtain ⟨dx, od, I⟩ := T.inst
    refine' get_class F X I ?g1 ?g2 ?g3 ?g4 ?g5 ?g6 ?_
    case g1 => k_is
    case g2 => k_is
    case g3 => k_is
    case g4 => k_is
    case g5 => k_is
    case g6 => k_is
    refine' nm_own (v := .str (Str.ofString "TagSet") 396) (X.keeps F.keep) ?r1 ?r2 ?r3 ?r4 ?r5 (by rfl) ?_
    case r1 => k_is
    case r2 => k_is
    case r3 => k_is
    case r4 => k_is
    case r5 => rfl
    exact h
  by_cases hd : ds = []
  · subst hd
    rw [join_nil]
    ktr_rel
    rename Fr _ L _ _ => F
    refine nm F X (T.keep F.keep) ?_
    ktr_rel
    · exact Kp.into (s₁ := s₄) K F.keep
    · exact ⟨_, rfl⟩
  · rw [join_some hd]
    ktr_rel
    have hjs2 : (Str.ofString "tags " ++ Txt.join (Str.ofString "-") (saidTexts ds)).length ≤ 705 := by
      have e5 : (Str.ofString "tags ").length = 5 := by decide
      rw [Str.length_append, e5]; omega
    ktr_rel
    rename Fr _ L _ _ => F
    refine nm F X (T.keep F.keep) ?_
    ktr_rel
    · exact Kp.into (s₁ := s₄) K F.keep
    · refine ⟨_, congrArg (fun x => Value.str x _) ?_⟩
      have hb : bodyText ds = Str.ofString "tags " ++ Txt.join (Str.ofString "-") (saidTexts ds) := if_neg (by simpa using hd)
      unfold setText
      rw [hb]
      rfl
end
end Mine
end
section
set_option maxRecDepth 100000
set_option maxHeartbeats 4000000
open PySem PySem.W PyProof.Rows
namespace Mine
open PyProof.Rows.LCg (lst lst_snoc)
local macro_rules | `(tactic| ktr_rel) => `(tactic| repeat ((fail_if_success (first | with_reducible show wpAny _ _ (call _ _ _) _ _ _ | with_reducible show wpAny _ _ (eval (Expr.ListComp _ _ _ _) _) _ _ _ | with_reducible show wpAny _ _ (compareOp _ (Value.ref _) _) _ _ _ | with_reducible show wpAny _ _ (compareOp _ _ (Value.ref _)) _ _ _ | with_reducible show wpAny _ _ (getAttr (Value.ref _) _ _) _ _ _ | with_reducible show wpAny _ _ (subscriptTail _ _ _ _) _ _ _ | with_reducible show wpAny _ _ (binaryOp _ (Value.ref _) _) _ _ _)); walk1))
local macro_rules | `(tactic| tb_start) => `(tactic| first
  | (with_reducible refine' tagClass_own ?zX ?zT ?_; (case zX => k_in); (case zT => exact TagIs.keep (by assumption) (Fr.keep (by assumption))))
  | (with_reducible refine' tagFormat_own ?zX ?zT ?_; (case zX => k_in); (case zT => exact TagIs.keep (by assumption) (Fr.keep (by assumption))))
  | (with_reducible refine' tagId_own ?zX ?zT ?_; (case zX => k_in); (case zT => exact TagIs.keep (by assumption) (Fr.keep (by assumption))))
  | (with_reducible refine' tagClassId_own ?zX ?zT ?_; (case zX => k_in); (case zT => exact TagIs.keep (by assumption) (Fr.keep (by assumption))))
  | (with_reducible refine' tagClass_use ?zC ?zA ?zT ?_; (case zC => exact Cx.keep (by assumption) (Fr.keep (by assumption))); (case zA => exact Sm.lower (by assumption) (by omega)); (case zT => exact TagIs.keep (by assumption) (Fr.keep (by assumption))); intro s₁ k₁; (have F := Fr.keeps (by assumption) (Kp.keep k₁)))
  | (with_reducible refine' tagFormat_use ?zC ?zA ?zT ?_; (case zC => exact Cx.keep (by assumption) (Fr.keep (by assumption))); (case zA => exact Sm.lower (by assumption) (by omega)); (case zT => exact TagIs.keep (by assumption) (Fr.keep (by assumption))); intro s₁ k₁; (have F := Fr.keeps (by assumption) (Kp.keep k₁)))
  | (with_reducible refine' tagId_use ?zC ?zA ?zT ?_; (case zC => exact Cx.keep (by assumption) (Fr.keep (by assumption))); (case zA => exact Sm.lower (by assumption) (by omega)); (case zT => exact TagIs.keep (by assumption) (Fr.keep (by assumption))); intro s₁ k₁; (have F := Fr.keeps (by assumption) (Kp.keep k₁))))
local macro_rules | `(tactic| tb_rel) => `(tactic| first | assumption | exact Kp.refl _ | (refine Kp.trans ?_ (by assumption); tb_rel) | (refine Kp.toks ?_; tb_rel))
local macro_rules | `(tactic| ktd_rel) => `(tactic| repeat' ((first | with_reducible show wpAny _ _ _ _ _ _ | with_reducible show (if _ then _ else _)); walk1))
section
variable {w : World} {A : Around} {s : Shared}
theorem ne_str_same {x : Str} {t u : Tok} {E Q : Value → Shared → Prop} (h : Q (.bool false) s) : wpAny (M w) A (compareOp .NotEq (.str x t) (.str x u)) Q E s :=
  PyProof.Rows.ne_str (by simpa using h)
theorem ne_str_eq {x y : Str} {t u : Tok} {E Q : Value → Shared → Prop} (e : x = y) (h : Q (.bool false) s) : wpAny (M w) A (compareOp .NotEq (.str x t) (.str y u)) Q E s := by
  subst e
  exact ne_str_same h
theorem setText_nil : setText [] = Str.ofString "<TagSet object, untagged>" := by decide
theorem setText_some {ds : List Trip} (h : ds ≠ []) : setText ds = Str.ofString "<TagSet object, " ++ (Str.ofString "tags " ++ Txt.join (Str.ofString "-") (saidTexts ds)) ++ Str.ofString ">" := by
  have hb : bodyText ds = Str.ofString "tags " ++ Txt.join (Str.ofString "-") (saidTexts ds) := if_neg (by simpa using h)
  have e : Str.ofString "<" ++ Str.ofString "TagSet" ++ Str.ofString " object, " = Str.ofString "<TagSet object, " := by decide
  unfold setText
  rw [hb, e]
theorem repr_tag {a p : Addr} {c f n : Int} {t1 t2 t3 : Tok} (C : Cx w s.heap) (hA : Sm 7 A) (T : TagIs s.heap a c f n t1 t2 t3 p) (hn : 0 ≤ n) (hn' : n < 10 ^ 40) (hc : 0 ≤ c) (hc' : c < 10 ^ 40) (hf : 0 ≤ f) (hf' : f < 10 ^ 40) :
    Gv w A (call (.builtin "repr") [.ref a]) (fun v s' => ∃ t, v = .str (tagText c f n) t) s := by
  obtain ⟨h₀, L, m, F, X₀⟩ := C.B
  obtain ⟨dx, od, I⟩ := T.inst
  have h1 : findIn (hd.heap_39 w.params) (.ref 181) "__repr__" = some (some (.ref 77)) := by k_is
  have h2 : isFn (hd.heap_39 w.params) (.ref 77) = true := by k_is
  refine repr_K (by have := hA.units; show A.units + 1 < 9900; omega) F X₀ I h1 h2 ((tag_repr C (hA.in1.lower (k := 6) (by omega)) T hn hn' hc hc' hf hf').use fun v s' hk hv => ?_)
  obtain ⟨t, rfl⟩ := hv
  exact ⟨hk, t, rfl⟩
theorem repr_set {a : Addr} {base : Value} {zs : List Value} {ds : List Trip} (C : Cx w s.heap) (hA : Sm 10 A) (T : SetIs s.heap a base zs ds) (ok : ∀ d ∈ ds, d.ok) (hz : zs.length ≤ 5) :
    Gv w A (call (.builtin "repr") [.ref a]) (fun v s' => ∃ t, v = .str (setText ds) t) s := by
  obtain ⟨h₀, L, m, F, X₀⟩ := C.B
  obtain ⟨dx, od, I⟩ := T.inst
  have h1 : findIn (hd.heap_39 w.params) (.ref 321) "__repr__" = some (some (.ref 204)) := by k_is
  have h2 : isFn (hd.heap_39 w.params) (.ref 204) = true := by k_is
  refine repr_K (by have := hA.units; show A.units + 1 < 9900; omega) F X₀ I h1 h2 ((set_repr C (hA.in1.lower (k := 9) (by omega)) T ok hz).use fun v s' hk hv => ?_)
  obtain ⟨t, rfl⟩ := hv
  exact ⟨hk, t, rfl⟩
end
section
variable {w : World} {A : Around} {S s s' : Shared} {L : Addr} {B : Heap} {m : Str → Option Value} {sl : Addr} {vs : List Value} {ns : List Int}
local macro_rules | `(tactic| kpf_close) => `(tactic| first | assumption | exact if_pos rfl | (refine Eq.trans (if_neg (by decide)) ?_; kpf_close))
local macro_rules | `(tactic| kwd_rel) => `(tactic| repeat' (first
  | ((with_reducible show wpAny _ _ (eval (Expr.Name (Str.ofString "script") _) _) _ _ _); first | refine law_script (by assumption) (by assumption) ?_ | refine law_script (LF.base (by assumption)) (by assumption) ?_)
  | ((with_reducible show wpAny _ _ (eval (Expr.Name _ _) _) _ _ _); refine law_ld (by assumption) (by kpf_close) ?_)
  | ((with_reducible show wpAny _ _ (compareOp CmpOp.NotEq (Value.int _ _) (Value.int _ _)) _ _ _); with_reducible refine ne_int_same ?_)
  | ((with_reducible show wpAny _ _ (compareOp CmpOp.NotEq (Value.str _ _) (Value.str _ _)) _ _ _); first | with_reducible refine ne_str_same ?_ | refine ne_str_eq (by decide) ?_)
  | ((with_reducible show wpAny _ _ (subscriptTail _ _ (Value.ref _) (Value.int 0 _)) _ _ _); first | refine sub3_0 (by assumption) ?_ | refine sub2_0 (by assumption) ?_)
  | ((with_reducible show wpAny _ _ (subscriptTail _ _ (Value.ref _) (Value.int 1 _)) _ _ _); first | refine sub3_1 (by assumption) ?_ | refine sub2_1 (by assumption) ?_)
  | ((with_reducible show wpAny _ _ (subscriptTail _ _ (Value.ref _) (Value.int 2 _)) _ _ _); refine sub3_2 (by assumption) ?_)
  | ((fail_if_success (first | with_reducible show wpAny _ _ (call _ _ _) _ _ _ | with_reducible show wpAny _ _ (eval (Expr.Name (Str.ofString "script") _) _) _ _ _ | with_reducible show wpAny _ _ (eval (Expr.ListComp _ _ _ _) _) _ _ _ | with_reducible show wpAny _ _ (compareOp _ (Value.ref _) _) _ _ _ | with_reducible show wpAny _ _ (compareOp _ _ (Value.ref _)) _ _ _ | with_reducible show wpAny _ _ (getAttr (Value.ref _) _ _) _ _ _ | with_reducible show wpAny _ _ (subscriptTail _ _ _ _) _ _ _ | with_reducible show wpAny _ _ (binaryOp _ (Value.ref _) _) _ _ _)); (first | with_reducible show wpAny _ _ _ _ _ _ | with_reducible show (if _ then _ else _)); walk1)))
local macro_rules | `(tactic| kln_le) => `(tactic| repeat' (first
  | ((with_reducible show wpAny _ _ (eval (Expr.Name _ _) _) _ _ _); refine cm_L (by assumption) (by assumption) rfl ?_)
  | ((with_reducible show wpAny _ _ (eval (Expr.Name (Str.ofString "script") _) _) _ _ _); refine cm_C (by assumption) rfl rfl ?_)
  | ((with_reducible show wpAny _ _ (eval (Expr.Name _ _) _) _ _ _); refine cm_G (by assumption) (by k_is) rfl ?_)
  | ((with_reducible show wpAny _ _ (eval (Expr.Name _ _) _) _ _ _); fail "a name")
  | ((with_reducible show wpAny _ _ (subscriptTail _ _ (Value.ref _) (Value.int 0 _)) _ _ _); refine sub3_0 (by assumption) ?_)
  | ((with_reducible show wpAny _ _ (subscriptTail _ _ (Value.ref _) (Value.int 1 _)) _ _ _); refine sub3_1 (by assumption) ?_)
  | ((with_reducible show wpAny _ _ (subscriptTail _ _ (Value.ref _) (Value.int 2 _)) _ _ _); refine sub3_2 (by assumption) ?_)
  | ((fail_if_success (first | with_reducible show wpAny _ _ (call _ _ _) _ _ _ | with_reducible show wpAny _ _ (eval (Expr.ListComp _ _ _ _) _) _ _ _ | with_reducible show wpAny _ _ (eval (Expr.Name _ _) _) _ _ _ | with_reducible show wpAny _ _ (compareOp _ (Value.ref _) _) _ _ _ | with_reducible show wpAny _ _ (compareOp _ _ (Value.ref _)) _ _ _ | with_reducible show wpAny _ _ (getAttr (Value.ref _) _ _) _ _ _ | with_reducible show wpAny _ _ (subscriptTail _ _ _ _) _ _ _ | with_reducible show wpAny _ _ (binaryOp _ (Value.ref _) _) _ _ _)); (first | with_reducible show wpAny _ _ _ _ _ _ | with_reducible show (if _ then _ else _)); walk1)))
theorem st29 {Q : Flow → Shared → Prop} {E : Value → Shared → Prop} {rl : Addr} {ys : List Value} {ds : List Trip} (l : LF w S L B m s) (hA : Sm 19 A) (hm1 : m (Str.ofString "rows") = some (.ref rl)) (hr : B.get? rl = some (lst ys)) (hR : All2 (RowIs B) ys ds) (hok : ∀ d ∈ ds, d.ok) (hlen : ys.length ≤ 4)
    (h : ∀ s' t, LF w S L B (fun z => if z = Str.ofString "said" then some (.str (Txt.join (Str.ofString "-") (saidTexts ds)) t) else m z) s' → Q .next s') :
    Law w A 29 L Q E s := by
  refine Law.out ?_
  conv in (lawStmt 29) => whnf
  have X := l.X
  obtain ⟨_, _, _, TT⟩ := l.T
  have F := l.F
  refine wpAny_Assign_Name ?_
  kwd_rel
  refine comp_eval (cl := []) (by decide) ?c1 ?c2 ?c3 ?c4 ?c5 ?_
  case c1 => rfl
  case c2 => decide
  case c3 => rfl
  case c4 => decide
  case c5 => rfl
  refine law_ld l.F hm1 ?_
  refine ⟨_, _, fun j y _ => SaidOf ds j y, ⟨src_list hA.handled (lst_isList (l.base _ _ hr)), by rw [List.size_toArray, sizeLine_eq]; omega, fun _ _ => stay_said, ?_⟩, ?_⟩
  · intro i v C' m₃ s₃ hi hv hk hC hN hm
    have hi' : i < ys.length := by simpa using hi
    have hid : i < ds.length := hR.1 ▸ hi'
    have hv' : ys[i] = v := by
      have e : ys.toArray[i]? = some v := hv
      rw [List.getElem?_toArray, List.getElem?_eq_getElem hi'] at e
      exact Option.some.inj e
    have hq := hR.2 i hi' hid
    rw [hv'] at hq
    have l := l.kp hk
    have HC := l.cx
    have hq := hq.keep l.base
    show wpAny _ _ _ _ _ _
    kln_le
    refine ⟨HC.X, ?_⟩
    refine Gv.use (law_said (by exact HC) (hA.lower (by omega)) hq (hok _ (List.getElem_mem hid))) fun v s₄ k₄ hv => ?_
    obtain ⟨t, rfl⟩ := hv
    exact ⟨(Kp.heap fun _ _ e => e).trans k₄, ds[i], List.getElem?_eq_getElem hid, t, rfl⟩
  intro D zs s₄ k₄ hD hl hR₄
  have hlz : zs.length = ys.length := by simpa using hl
  have l := l.kp2 k₄
  have F := l.F
  have hS := strs_of (hlz.trans hR.1) hR₄
  have hsum := said_sum hok
  have hlen2 : ds.length ≤ 5 := by have := hR.1; omega
  kwd_rel
  refine join_list (lst_isList hD) hS ?_ fun t' tk => ?_
  · have e : (Str.ofString "-").length = 1 := by decide
    have e2 : (saidTexts ds).length = ds.length := by simp [saidTexts]
    rw [e, e2]; omega
  exact law_st l fun s' l _ => h _ _ l
theorem st30 {Q : Flow → Shared → Prop} {E : Value → Shared → Prop} {rl d : Addr} {b1 : Value} {ys zs : List Value} {ds : List Trip} {ts : Tok} (l : LF w S L B m s) (hA : Sm 19 A) (hm1 : m (Str.ofString "rows") = some (.ref rl)) (hm2 : m (Str.ofString "made") = some (.ref d))
    (hm3 : m (Str.ofString "said") = some (.str (Txt.join (Str.ofString "-") (saidTexts ds)) ts)) (H : SetIs B d b1 zs ds) (hr : B.get? rl = some (lst ys)) (hl : ys.length = ds.length) (hok : ∀ d ∈ ds, d.ok) (hlen : ys.length ≤ 4)
    (h : ∀ s', LF w S L B m s' → Q .next s') :
    wpAny (M w) A (exec (lawStmt 30) (lawEnv L)) Q E s := by
  conv in (lawStmt 30) => whnf
  have X := l.X
  obtain ⟨_, _, _, TT⟩ := l.T
  have F := l.F
  kwd_rel
  refine Gv.use (repr_set (by exact l.cx) (hA.lower (by omega)) (H.keep l.base) hok (by have := H.tags.1; omega)) fun v s₁ k₁ hv => ?_
  obtain ⟨t, rfl⟩ := hv
  have l := l.kp2 k₁
  have F := l.F
  kwd_rel
  have hjl := join_len hok (by omega)
  have hjs : (Txt.join (Str.ofString "-") (saidTexts ds)).length ≤ sizeLine := by rw [sizeLine_eq]; omega
  refine wpAny_truthy_list (lst_isList (l.base _ _ hr)) ?_ ?_
  · rw [List.size_toArray]; omega
  by_cases hd : ds = []
  · have hy : ys = [] := by rw [hd] at hl; simpa using hl
    subst hd hy
    have hy : (!([] : List Value).toArray.isEmpty) = false := rfl
    rw [hy, setText_nil]
    kwd_rel
    exact h _ l.tk
  · have hy : (!ys.toArray.isEmpty) = true := by
      have : ys ≠ [] := fun e => hd (by rw [e] at hl; simpa using hl.symm)
      simpa using this
    rw [hy, setText_some hd]
    kwd_rel
    exact h _ l.tk
theorem st31 {Q : Flow → Shared → Prop} {E : Value → Shared → Prop} (l : LF w S L B m s) (hA : Sm 19 A)
    (h : ∀ s', LF w S L B m s' → Q .next s') :
    wpAny (M w) A (exec (lawStmt 31) (lawEnv L)) Q E s := by
  conv in (lawStmt 31) => whnf
  have X := l.X
  obtain ⟨_, _, _, TT⟩ := l.T
  have F := l.F
  kwd_rel
  refine Gv.use (set_new0 (by exact l.cx) (hA.lower (by omega))) fun v s₁ k₁ hv => ?_
  obtain ⟨c, rfl, HC⟩ := hv
  have l := l.kp k₁
  have F := l.F
  kwd_rel
  refine Gv.use (repr_set (by exact l.cx) (hA.lower (by omega)) HC (fun _ h => nomatch h) (Nat.zero_le _)) fun v s₂ k₂ hv => ?_
  obtain ⟨t, rfl⟩ := hv
  rw [setText_nil]
  have l := l.kp2 k₂
  have F := l.F
  kwd_rel
  refine Gv.use (set_new0 (by exact l.cx) (hA.lower (by omega))) fun v s₃ k₃ hv => ?_
  obtain ⟨c₂, rfl, HC₂⟩ := hv
  have l := l.kp k₃
  have F := l.F
  kwd_rel
  refine Gv.use (set_len (by exact l.cx) (hA.lower (by omega)) HC₂ (Nat.zero_le _)) fun v s₄ k₄ hv => ?_
  obtain ⟨t₂, rfl⟩ := hv
  have e0 : (([] : List Value).length : Int) = 0 := rfl
  rw [e0]
  have l := l.kp2 k₄
  have F := l.F
  kwd_rel
  refine Gv.use (set_new0 (by exact l.cx) (hA.lower (by omega))) fun v s₃ k₃ hv => ?_
  obtain ⟨c₃, rfl, HC₃⟩ := hv
  have l := l.kp k₃
  have F := l.F
  kwd_rel
  refine Gv.use (baseTag_get (k := 5) (by exact l.cx) (hA.lower (by omega)) HC₃ rfl) fun v s₁ k₁ hv => ?_
  subst hv
  have l := l.kp2 k₁
  have F := l.F
  kwd_rel
  refine law_tup l fun r1 s₇ l k₇ hr1 => ?_
  have e193 : s₇.heap.get? 193 = some (tupObj []) := l.cx.X 193 _ rfl
  refine ne_same e193 hr1 (hA.lower (by omega)) ?_
  have F := l.F
  kwd_rel
  exact h _ l
end
end Mine
end
section
set_option maxRecDepth 100000
set_option maxHeartbeats 4000000
open PySem PySem.W PyProof.Rows
namespace Mine
local macro_rules | `(tactic| ktr_rel) => `(tactic| repeat ((fail_if_success (first | with_reducible show wpAny _ _ (call _ _ _) _ _ _ | with_reducible show wpAny _ _ (eval (Expr.ListComp _ _ _ _) _) _ _ _ | with_reducible show wpAny _ _ (compareOp _ (Value.ref _) _) _ _ _ | with_reducible show wpAny _ _ (compareOp _ _ (Value.ref _)) _ _ _ | with_reducible show wpAny _ _ (getAttr (Value.ref _) _ _) _ _ _ | with_reducible show wpAny _ _ (subscriptTail _ _ _ _) _ _ _ | with_reducible show wpAny _ _ (binaryOp _ (Value.ref _) _) _ _ _)); walk1))
local macro_rules | `(tactic| tb_start) => `(tactic| first
  | (with_reducible refine' tagClass_own ?zX ?zT ?_; (case zX => k_in); (case zT => exact TagIs.keep (by assumption) (Fr.keep (by assumption))))
  | (with_reducible refine' tagFormat_own ?zX ?zT ?_; (case zX => k_in); (case zT => exact TagIs.keep (by assumption) (Fr.keep (by assumption))))
  | (with_reducible refine' tagId_own ?zX ?zT ?_; (case zX => k_in); (case zT => exact TagIs.keep (by assumption) (Fr.keep (by assumption))))
  | (with_reducible refine' tagClassId_own ?zX ?zT ?_; (case zX => k_in); (case zT => exact TagIs.keep (by assumption) (Fr.keep (by assumption))))
  | (with_reducible refine' tagClass_use ?zC ?zA ?zT ?_; (case zC => exact Cx.keep (by assumption) (Fr.keep (by assumption))); (case zA => exact Sm.lower (by assumption) (by omega)); (case zT => exact TagIs.keep (by assumption) (Fr.keep (by assumption))); intro s₁ k₁; (have F := Fr.keeps (by assumption) (Kp.keep k₁)))
  | (with_reducible refine' tagFormat_use ?zC ?zA ?zT ?_; (case zC => exact Cx.keep (by assumption) (Fr.keep (by assumption))); (case zA => exact Sm.lower (by assumption) (by omega)); (case zT => exact TagIs.keep (by assumption) (Fr.keep (by assumption))); intro s₁ k₁; (have F := Fr.keeps (by assumption) (Kp.keep k₁)))
  | (with_reducible refine' tagId_use ?zC ?zA ?zT ?_; (case zC => exact Cx.keep (by assumption) (Fr.keep (by assumption))); (case zA => exact Sm.lower (by assumption) (by omega)); (case zT => exact TagIs.keep (by assumption) (Fr.keep (by assumption))); intro s₁ k₁; (have F := Fr.keeps (by assumption) (Kp.keep k₁))))
local macro_rules | `(tactic| tb_rel) => `(tactic| first | assumption | exact Kp.refl _ | (refine Kp.trans ?_ (by assumption); tb_rel) | (refine Kp.toks ?_; tb_rel))
local macro_rules | `(tactic| ktd_rel) => `(tactic| repeat' ((first | with_reducible show wpAny _ _ _ _ _ _ | with_reducible show (if _ then _ else _)); walk1))
section
variable {w : World} {A : Around} {s : Shared}
theorem tag_item {a p : Addr} {c f n k : Int} {t1 t2 t3 t : Tok} {x : Value} (C : Cx w s.heap) (hA : Sm 3 A) (T : TagIs s.heap a c f n t1 t2 t3 p) (hx : (k = 0 ∧ x = .int c t1) ∨ (k = 1 ∧ x = .int f t2) ∨ (k = 2 ∧ x = .int n t3)) :
    Gv w A (call (.ref 133) [.ref a, .int k t]) (fun v _ => v = x) s := by
  have X := C.X
  obtain ⟨_, _, _, TT⟩ := C.T
  refine call_fn (binds := [(Str.ofString "self", .ref a), (Str.ofString "idx", .int k t)]) C hA (by k_is) (by k_is) (by exact BindsTo.of_eq rfl) (by exact locs rfl) (by decide) (by rfl) (by rfl) (by rfl) fun L s₀ k₀ F hA' => ?_
  refine wpAny_execs_cons ?_
  rcases hx with ⟨rfl, rfl⟩ | ⟨rfl, rfl⟩ | ⟨rfl, rfl⟩
  · ktr_rel
    tb_start
    exact ⟨k₀.toks, rfl⟩
  · ktr_rel
    tb_start
    exact ⟨k₀.toks, rfl⟩
  · ktr_rel
    tb_start
    exact ⟨k₀.toks, rfl⟩
/-- made[k] in the law -/
theorem tag_at {a p : Addr} {c f n k : Int} {t1 t2 t3 t : Tok} {x : Value} {value slice : Expr} {E Q : Value → Shared → Prop} (C : Cx w s.heap) (hA : Sm 6 A) (T : TagIs s.heap a c f n t1 t2 t3 p) (hx : (k = 0 ∧ x = .int c t1) ∨ (k = 1 ∧ x = .int f t2) ∨ (k = 2 ∧ x = .int n t3))
    (h : ∀ s', Kp s s' → Q x s')
    (hsl : subscripted slice true (.ref a) (.int k t) = runValue (.builtin "lifetime.subscript" ⟨[.ref a, .int k t], []⟩) := by with_unfolding_all rfl) :
    wpAny (M w) A (subscriptTail value slice (.ref a) (.int k t)) Q E s := by
  obtain ⟨h₀, L, m, F, X₀⟩ := C.B
  obtain ⟨dx, od, I⟩ := T.inst
  have h1 : findIn (hd.heap_39 w.params) (.ref 181) "__getitem__" = some (some (.ref 133)) := by k_is
  have h2 : fnIn (hd.heap_39 w.params) 133 = true := by k_is
  have h3 : isFn (hd.heap_39 w.params) (.ref 133) = true := by k_is
  exact sub_K F X₀ I h1 h2 h3 ((tag_item C ((hA.lower (k := 6) (j := 4) (by omega)).in1) T hx).use fun v s' hk hv => by subst hv; exact h s' hk) hsl
theorem draw_walks {I : Addr} {fp wr : List Addr} {G : Array GenState → Array GenState → Prop} {n : Nat} {P : Nat → Value → Prop} {St : Nat → Shared → Prop} (W : WalksS PySem.Challenge.rw_gr5021_01.row.prog w A I fp wr G n P St) :
    ∀ (k i : Nat) (s : Shared) (Q : List Value → Shared → Prop) (E : Value → Shared → Prop), i + k ≤ n → St i s → (∀ vs s', vs.length = k → (∀ j v, vs[j]? = some v → P (i + j) v) → St (i + k) s' → Moved wr G s s' → Q vs s') → wpAny (M w) A (draw (.ref I) k) Q E s
  | 0, i, s, Q, E, _, st, h => wpAny_pure (h [] s rfl (by simp) st (Moved.refl W.grefl))
  | k + 1, i, s, Q, E, hle, st, h => by
    show wpAny _ _ (pyNext (.ref I) >>= _) Q E s
    refine wpAny_bind (W.item i s _ _ (by omega) st fun v s1 hv st1 m1 => ?_)
    refine wpAny_bind (wpAny_holding (draw_walks W k (i + 1) s1 _ _ (by omega) st1 fun vs s2 hl hp st2 m2 => wpAny_pure (h (v :: vs) s2 (by simp [hl]) (fun j x hx => ?_) (by rw [show i + (k + 1) = i + 1 + k by omega]; exact st2) (m1.trans W.gtrans m2))))
    cases j with
    | zero => cases hx; exact hv
    | succ j => have := hp j x (by simpa using hx); rwa [show i + 1 + j = i + (j + 1) by omega] at this
theorem unpack_tag {a p : Addr} {c f n : Int} {t1 t2 t3 : Tok} (C : Cx w s.heap) (hA : Sm 5 A) (T : TagIs s.heap a c f n t1 t2 t3 p) : Gv w A (unpackItems (.ref a) 3 none) (fun l _ => l = [.int c t1, .int f t2, .int n t3]) s := by
  obtain ⟨dx, od, I₀⟩ := T.inst
  have hf : findIn (hd.heap_39 w.params) (.ref 181) "__iter__" = some (some (.ref 140)) := by k_is
  show wpAny _ _ _ _ _ _
  unfold unpackItems notIterableAtAll
  refine wpAny_bind (wpAny_bind (wpAny_bind (I₀.type.here ((looks_findIn C.X hf).here ?_))))
  refine wpAny_pure ?_
  simp only [Bool.false_eq_true, if_false]
  refine wpAny_bind (wpAny_holding ?_)
  refine tag_iter (hB := s.heap) C (hA.lower (by omega)) T (fun _ _ e => e) (Nat.le_refl _) C.X T fun I L m s' hst hI hL hI' hL' hk' hdr hos hg => ?_
  have W := tagWalk (w := w) (A := A) (I := I) (g := s.gens.size) (hB := s.heap) (L := L) (m := m) (vals := [.int c t1, .int f t2, .int n t3]) hA.handled hA.room C.nolimit
  refine wpAny_bind (wpAny_holding (draw_walks W 3 0 s' _ _ (Nat.le_refl _) (hst _) fun vs s2 hl hp st2 m2 => ?_))
  have hvs : vs = [.int c t1, .int f t2, .int n t3] := by
    refine List.ext_getElem? fun j => ?_
    by_cases hj : j < vs.length
    · have h1 := hp j _ (List.getElem?_eq_getElem hj)
      rw [Nat.zero_add] at h1
      rw [List.getElem?_eq_getElem hj, h1]
    · rw [List.getElem?_eq_none (Nat.le_of_not_lt hj), List.getElem?_eq_none (by show 3 ≤ j; omega)]
  rw [if_neg (show ¬ (vs.length < 3) by omega)]
  subst hvs
  refine wpAny_bind (wpAny_holding (W.done s2 _ _ st2 fun s3 m3 => ?_))
  simp only [Option.isSome_none, Bool.false_eq_true, if_false]
  have hm := m2.trans W.gtrans m3
  refine wpAny_pure ⟨⟨s3.heap, s3.toks, s3.gens, ?_, fun b o e => ?_, fun hb => ?_⟩, rfl⟩
  · obtain ⟨h2, g2, d2, t2, o2⟩ := s3
    have e1 : d2 = s.drawn := hm.drawn.trans hdr
    have e2 : o2 = s.os := hm.os.trans hos
    subst e1 e2
    rfl
  · exact hm.heap b o (by simp) (hk' _ _ e)
  · obtain ⟨y, hy, hgs⟩ := hg
    have : AllBare s'.gens := by rw [hgs]; exact AllBare.push hb hy
    exact GenOnlyQ.bare hm.gens this
end
end Mine
end
section
set_option maxRecDepth 100000
set_option maxHeartbeats 4000000
open PySem PySem.W PyProof.Rows
namespace Mine
local macro_rules | `(tactic| ktr_rel) => `(tactic| repeat ((fail_if_success (first | with_reducible show wpAny _ _ (call _ _ _) _ _ _ | with_reducible show wpAny _ _ (eval (Expr.ListComp _ _ _ _) _) _ _ _ | with_reducible show wpAny _ _ (compareOp _ (Value.ref _) _) _ _ _ | with_reducible show wpAny _ _ (compareOp _ _ (Value.ref _)) _ _ _ | with_reducible show wpAny _ _ (getAttr (Value.ref _) _ _) _ _ _ | with_reducible show wpAny _ _ (subscriptTail _ _ _ _) _ _ _ | with_reducible show wpAny _ _ (binaryOp _ (Value.ref _) _) _ _ _)); walk1))
local macro_rules | `(tactic| tb_start) => `(tactic| first
  | (with_reducible refine' tagClass_own ?zX ?zT ?_; (case zX => k_in); (case zT => exact TagIs.keep (by assumption) (Fr.keep (by assumption))))
  | (with_reducible refine' tagFormat_own ?zX ?zT ?_; (case zX => k_in); (case zT => exact TagIs.keep (by assumption) (Fr.keep (by assumption))))
  | (with_reducible refine' tagId_own ?zX ?zT ?_; (case zX => k_in); (case zT => exact TagIs.keep (by assumption) (Fr.keep (by assumption))))
  | (with_reducible refine' tagClassId_own ?zX ?zT ?_; (case zX => k_in); (case zT => exact TagIs.keep (by assumption) (Fr.keep (by assumption))))
  | (with_reducible refine' tagClass_use ?zC ?zA ?zT ?_; (case zC => exact Cx.keep (by assumption) (Fr.keep (by assumption))); (case zA => exact Sm.lower (by assumption) (by omega)); (case zT => exact TagIs.keep (by assumption) (Fr.keep (by assumption))); intro s₁ k₁; (have F := Fr.keeps (by assumption) (Kp.keep k₁)))
  | (with_reducible refine' tagFormat_use ?zC ?zA ?zT ?_; (case zC => exact Cx.keep (by assumption) (Fr.keep (by assumption))); (case zA => exact Sm.lower (by assumption) (by omega)); (case zT => exact TagIs.keep (by assumption) (Fr.keep (by assumption))); intro s₁ k₁; (have F := Fr.keeps (by assumption) (Kp.keep k₁)))
  | (with_reducible refine' tagId_use ?zC ?zA ?zT ?_; (case zC => exact Cx.keep (by assumption) (Fr.keep (by assumption))); (case zA => exact Sm.lower (by assumption) (by omega)); (case zT => exact TagIs.keep (by assumption) (Fr.keep (by assumption))); intro s₁ k₁; (have F := Fr.keeps (by assumption) (Kp.keep k₁))))
local macro_rules | `(tactic| tb_rel) => `(tactic| first | assumption | exact Kp.refl _ | (refine Kp.trans ?_ (by assumption); tb_rel) | (refine Kp.toks ?_; tb_rel))
local macro_rules | `(tactic| ktd_rel) => `(tactic| repeat' ((first | with_reducible show wpAny _ _ _ _ _ _ | with_reducible show (if _ then _ else _)); walk1))
/-- an exception that stands in a heap, new since s -/
def Born (s : Shared) (cls : Value) (e : Value) (h' : Heap) : Prop :=
  ∃ a oe vs a0, e = .ref a ∧ s.heap.get? a = none ∧ h'.get? a = some oe ∧ oe.cls = cls ∧ oe.data = .fields vs ∧ vs[0]? = some a0 ∧ vs[1]? = some .none
/-- an exception that flies over the law's frame -/
structure Flies (L : Addr) (B : Heap) (cls : Value) (s : Shared) (e : Value) (s' : Shared) : Prop where
  ex : ∃ a a0, e = .ref a ∧ Heap.FlyingW B [lawEnv L] a cls a0 s'.heap
  up : s.heap.UpToSlots s'.heap
  rest : ∃ h' tk g', s' = ⟨h', g', s.drawn, tk, s.os⟩ ∧ (AllBare s.gens → AllBare g')
section
variable {w : World} {A : Around} {s : Shared} {L : Addr} {B : Heap} {cls : Value} {mL : Str → Option Value}
theorem leave_raise {f L' : Addr} {qual : Str} {scope : Scope} {cdv e : Value} {m : Str → Option Value} {s' : Shared} {R : Result → Shared → Prop} (hfr : A.frames = some [lawEnv L]) (hk : scope.kind = .function)
    (hB : ∀ b o, B.get? b = some o → s.heap.get? b = some o) (hBL : B.get? L = none) (hn : s.heap.Ns L mL) (F : Fr s.heap L' s'.heap m) (K : Kp s s') (hb : Born s cls e s'.heap)
    (h : ∀ s'', Flies L B cls s e s'' → R (.error e) s'') :
    wpAny (M w) (A.deeper (envOf qual scope L' f cdv)) (leaving (envOf qual scope L' f cdv) e) (fun _ s'' => R (.error e) s'') (fun e' s'' => R (.error e') s'') s' := by
  obtain ⟨a, oe, vs, a0, rfl, hnew, hoe, rfl, hd, h0, h1⟩ := hb
  have hen : B.get? a = none := by
    cases q : B.get? a with
    | none => rfl
    | some o => have := hB _ _ q; rw [hnew] at this; cases this
  have hBL' : B.get? L' = none := by
    cases q : B.get? L' with
    | none => rfl
    | some o => exact absurd (Heap.lt_size (hB _ _ q)) (Nat.not_lt.mpr F.above)
  have hl : s'.heap.FunFrames B [envOf qual scope L' f cdv, lawEnv L] :=
    .cons (by show scope.kind ≠ .module; rw [hk]; decide) rfl F.ns hBL' (.cons (by show lawScope.kind ≠ .module; rw [lawKind]; decide) rfl (hn.at' fun o e => K.keep _ o e) hBL trivial)
  refine wpAny_leaving_firstW (a0 := a0) (Around.frames_deeper hfr) hl rfl hoe (fun b o q => K.keep _ _ (hB _ _ q)) hen hd h1 h0 fun h' hL => ?_
  obtain ⟨k1, ⟨_, _, k2⟩, k3, k4⟩ := hL
  refine h _ ⟨⟨a, a0, rfl, k1, hen, k2, k3⟩, (Heap.UpToSlots.of_keeps K.keep).trans k4, ?_⟩
  obtain ⟨h2, tk, g', rfl, _, kb⟩ := K
  exact ⟨h', tk, g', rfl, kb⟩
theorem code_raise {f : Addr} {oc : Value} {od : Option Addr} {osl : Array (Option Value)} {name qual : Str} {params : Arguments} {body : List Stmt} {scope : Scope} {dV kV doc pm cdv ct : Value} {an : Option Addr}
    {args : List Value} {binds : List (Str × Value)} {k : Nat}
    (C : Cx w s.heap) (hA : Sm (k + 1) A) (ho : (hd.heap_39 w.params).lookup f = some ⟨oc, od, .func (fnOf name qual params body scope dV kV doc pm an cdv ct), osl⟩) (hcd : codeIn (hd.heap_39 w.params) cdv qual = true)
    (hbind : BindsTo s (fnOf name qual params body scope dV kV doc pm an cdv ct) ⟨args, []⟩ binds) (hloc : ∀ y ∈ binds, scope.names.lookup y.1 = some .local) (hcell : ∀ x ∈ scope.names, x.2 ≠ .cell)
    (hco : scope.isCoroutine = false) (hgen : scope.isGenerator = false) (hk : scope.kind = .function)
    (hfr : A.frames = some [lawEnv L]) (hB : ∀ b o, B.get? b = some o → s.heap.get? b = some o) (hBL : B.get? L = none) (hn : s.heap.Ns L mL)
    (h : ∀ L' s₁, Kp s s₁ → Fr s.heap L' s₁.heap (fun y => binds.reverse.lookup y) → Sm k (A.deeper (envOf qual scope L' f cdv)) →
      wpAny (M w) (A.deeper (envOf qual scope L' f cdv)) (execs body (envOf qual scope L' f cdv))
        (fun _ _ => False) (fun e s' => Kp s s' ∧ (∃ m, Fr s.heap L' s'.heap m) ∧ Born s cls e s'.heap) s₁) :
    codeAny (M w) A (.call (.ref f) ⟨args, []⟩) (fun r s' => match r with | .error e => Flies L B cls s e s' | _ => False) s := by
  refine codeAny_call_def (fd := fnOf name qual params body scope dV kV doc pm an cdv ct) (body := body) (binds := binds) hA.room (C.X _ _ ho) rfl C.nolimit (codeRec_of C.X hcd) rfl hbind hcell hloc (fun h₁ hns hk₁ => ?_) hco hgen hk
  exact wpAny_mono (h _ _ (Kp.heap hk₁) ⟨hns, hk₁, Nat.le_refl _⟩ hA.deeper) (fun fl s' hl => hl.elim) fun e s' x => by
    obtain ⟨K, ⟨m, F⟩, hb⟩ := x
    exact leave_raise (R := fun r s' => match r with | .error e => Flies L B cls s e s' | _ => False) hfr hk hB hBL hn F K hb fun s'' hf => hf
theorem call_raise {f : Addr} {oc : Value} {od : Option Addr} {osl : Array (Option Value)} {name qual : Str} {params : Arguments} {body : List Stmt} {scope : Scope} {dV kV doc pm cdv ct : Value} {an : Option Addr}
    {args : List Value} {binds : List (Str × Value)} {k : Nat} {Q : Value → Shared → Prop} {E : Value → Shared → Prop}
    (C : Cx w s.heap) (hA : Sm (k + 1) A) (ho : (hd.heap_39 w.params).lookup f = some ⟨oc, od, .func (fnOf name qual params body scope dV kV doc pm an cdv ct), osl⟩) (hcd : codeIn (hd.heap_39 w.params) cdv qual = true)
    (hbind : BindsTo s (fnOf name qual params body scope dV kV doc pm an cdv ct) ⟨args, []⟩ binds) (hloc : ∀ y ∈ binds, scope.names.lookup y.1 = some .local) (hcell : ∀ x ∈ scope.names, x.2 ≠ .cell)
    (hco : scope.isCoroutine = false) (hgen : scope.isGenerator = false) (hk : scope.kind = .function)
    (hfr : A.frames = some [lawEnv L]) (hB : ∀ b o, B.get? b = some o → s.heap.get? b = some o) (hBL : B.get? L = none) (hn : s.heap.Ns L mL)
    (hE : ∀ e s', Flies L B cls s e s' → E e s')
    (h : ∀ L' s₁, Kp s s₁ → Fr s.heap L' s₁.heap (fun y => binds.reverse.lookup y) → Sm k (A.deeper (envOf qual scope L' f cdv)) →
      wpAny (M w) (A.deeper (envOf qual scope L' f cdv)) (execs body (envOf qual scope L' f cdv))
        (fun _ _ => False) (fun e s' => Kp s s' ∧ (∃ m, Fr s.heap L' s'.heap m) ∧ Born s cls e s'.heap) s₁) :
    wpAny (M w) A (call (.ref f) args) Q E s :=
  wpAny_call (codeAny_mono (code_raise (L := L) (B := B) (cls := cls) (mL := mL) C hA ho hcd hbind hloc hcell hco hgen hk hfr hB hBL hn h) (fun r s' x => by
    cases r with
    | error e => exact hE _ _ x
    | ok f => exact x.elim))
end
section
variable {w : World} {A : Around} {S s s' : Shared} {L : Addr} {B : Heap} {m : Str → Option Value}
theorem LF.flown {h : Heap} (l : LF w S L B m s) (k : B.StaysIn h) (u : s.heap.UpToSlots h) {g' : Array GenState} {tk : Nat} (hb : AllBare g') : LF w S L B m ⟨h, g', s.drawn, tk, s.os⟩ :=
  ⟨⟨u.ns l.F.ns, fun b o e => k _ _ (l.low b o e), l.F.above⟩, l.X, l.T, l.low, k, l.off, hb, l.drawn, l.os⟩
/-- except, the class a built-in one -/
theorem law_catch {e : Value} {x : Str} {np pos : Pos} {cls c : Value} {b₀ : Stmt} {suite : List Stmt} {rest : List ExceptHandler} {Q : Flow → Shared → Prop} {E : Value → Shared → Prop} (hfr : A.frames = some [lawEnv L]) (l : LF w S L B m s) (fl : Flies L B cls s e s')
    (hx : exmOne (hd.heap_39 w.params) cls c = some true)
    (hname : ∀ {A : Around} {s : Shared} {Q E : Value → Shared → Prop}, Cx w s.heap → Q c s → wpAny (M w) A (eval (.Name x np) (lawEnv L)) Q E s)
    (k : ∀ a s'', e = .ref a → LF w S L B m s'' → wpAny (M w) (A.mark (some e)) (execs (b₀ :: suite) (lawEnv L)) Q (fun _ _ => False) s'') :
    wpAny (M w) A (noteFrame e (lawEnv L)) (fun _ s₂ => wpAny (M w) A (setFlight e none) (fun _ s₃ => wpAny (M w) A (handleBy e (lawEnv L) (.ExceptHandler (some (.Name x np)) none (b₀ :: suite) pos :: rest)) Q E s₃) E s₂) E s' := by
  obtain ⟨⟨a, a0, rfl, hfl⟩, up, ⟨h', tk, g', rfl, hb⟩⟩ := fl
  have hb := hb l.bare
  refine wpAny_looks_onW hfr rfl hfl fun h₄ hheld₄ hsm₄ => ?_
  refine wpAny_landsW hheld₄ fun h₅ hheld hsm₅ => ?_
  obtain ⟨ob, hob, hobc⟩ := hheld.there
  have l₅ : LF w S L B m ⟨h₅, g', s.drawn, tk, s.os⟩ := l.flown hheld.1 ((up.trans hsm₄).trans hsm₅) hb
  refine wpAny_handleBy_cons (codeAny_handlers_test (hname l₅.cx ?_)) (by intro q; cases q)
  have LT : Looks (M w) h₅ (typeOf (.ref a)) cls := by
    subst hobc
    exact (Looks.ld (part := none) hob).andThen .now
  refine (exm_one l₅.cx.X LT hx).here ?_
  refine codeAny_handlers_suite ?_
  refine lands_againW hheld fun h₆ hfl₆ hsm₆ => ?_
  exact wpAny_mono (k a ⟨h₆, g', s.drawn, tk, s.os⟩ rfl (l.flown hfl₆.1 (((up.trans hsm₄).trans hsm₅).trans hsm₆) hb)) (fun _ _ x => x) fun _ _ x => x.elim
theorem exm_Index : exmOne (hd.heap_39 w.params) (.type "IndexError") (.type "IndexError") = some true := by rfl
theorem exm_Asn : exmOne (hd.heap_39 w.params) (.ref 46) (.ref 46) = some true := by rfl
end
end Mine
end
section
set_option maxRecDepth 100000
set_option maxHeartbeats 4000000
open PySem PySem.W PyProof.Rows
namespace Mine
local macro_rules | `(tactic| ktr_rel) => `(tactic| repeat ((fail_if_success (first | with_reducible show wpAny _ _ (call _ _ _) _ _ _ | with_reducible show wpAny _ _ (eval (Expr.ListComp _ _ _ _) _) _ _ _ | with_reducible show wpAny _ _ (compareOp _ (Value.ref _) _) _ _ _ | with_reducible show wpAny _ _ (compareOp _ _ (Value.ref _)) _ _ _ | with_reducible show wpAny _ _ (getAttr (Value.ref _) _ _) _ _ _ | with_reducible show wpAny _ _ (subscriptTail _ _ _ _) _ _ _ | with_reducible show wpAny _ _ (binaryOp _ (Value.ref _) _) _ _ _)); walk1))
local macro_rules | `(tactic| tb_start) => `(tactic| first
  | (with_reducible refine' tagClass_own ?zX ?zT ?_; (case zX => k_in); (case zT => exact TagIs.keep (by assumption) (Fr.keep (by assumption))))
  | (with_reducible refine' tagFormat_own ?zX ?zT ?_; (case zX => k_in); (case zT => exact TagIs.keep (by assumption) (Fr.keep (by assumption))))
  | (with_reducible refine' tagId_own ?zX ?zT ?_; (case zX => k_in); (case zT => exact TagIs.keep (by assumption) (Fr.keep (by assumption))))
  | (with_reducible refine' tagClassId_own ?zX ?zT ?_; (case zX => k_in); (case zT => exact TagIs.keep (by assumption) (Fr.keep (by assumption))))
  | (with_reducible refine' tagClass_use ?zC ?zA ?zT ?_; (case zC => exact Cx.keep (by assumption) (Fr.keep (by assumption))); (case zA => exact Sm.lower (by assumption) (by omega)); (case zT => exact TagIs.keep (by assumption) (Fr.keep (by assumption))); intro s₁ k₁; (have F := Fr.keeps (by assumption) (Kp.keep k₁)))
  | (with_reducible refine' tagFormat_use ?zC ?zA ?zT ?_; (case zC => exact Cx.keep (by assumption) (Fr.keep (by assumption))); (case zA => exact Sm.lower (by assumption) (by omega)); (case zT => exact TagIs.keep (by assumption) (Fr.keep (by assumption))); intro s₁ k₁; (have F := Fr.keeps (by assumption) (Kp.keep k₁)))
  | (with_reducible refine' tagId_use ?zC ?zA ?zT ?_; (case zC => exact Cx.keep (by assumption) (Fr.keep (by assumption))); (case zA => exact Sm.lower (by assumption) (by omega)); (case zT => exact TagIs.keep (by assumption) (Fr.keep (by assumption))); intro s₁ k₁; (have F := Fr.keeps (by assumption) (Kp.keep k₁))))
local macro_rules | `(tactic| tb_rel) => `(tactic| first | assumption | exact Kp.refl _ | (refine Kp.trans ?_ (by assumption); tb_rel) | (refine Kp.toks ?_; tb_rel))
local macro_rules | `(tactic| ktd_rel) => `(tactic| repeat' ((first | with_reducible show wpAny _ _ _ _ _ _ | with_reducible show (if _ then _ else _)); walk1))
section
variable {w : World} {A : Around} {s : Shared} {L : Addr} {B : Heap} {mL : Str → Option Value}
theorem born_new {s₁ : Shared} {h' : Heap} {e : Addr} {X : String} (K : Kp s s₁) (x : Heap.NewExc s₁.heap h' e X) : Born s (.type X) (.ref e) h' := by
  obtain ⟨ob, t, he, hc, hd⟩ := x.there
  refine ⟨e, ob, _, t, rfl, ?_, he, hc, hd, rfl, rfl⟩
  cases q : s.heap.get? e with
  | none => rfl
  | some o => have := K.keep _ _ q; rw [x.new] at this; cases this
/-- made[3] in the law -/
theorem tag_off {a p : Addr} {c f n : Int} {t1 t2 t3 t : Tok} {value slice : Expr} {Q E : Value → Shared → Prop} (C : Cx w s.heap) (hA : Sm 6 A) (T : TagIs s.heap a c f n t1 t2 t3 p)
    (hfr : A.frames = some [lawEnv L]) (hB : ∀ b o, B.get? b = some o → s.heap.get? b = some o) (hBL : B.get? L = none) (hn : s.heap.Ns L mL)
    (hE : ∀ e s', Flies L B (.type "IndexError") s e s' → E e s')
    (hsl : subscripted slice true (.ref a) (.int 3 t) = runValue (.builtin "lifetime.subscript" ⟨[.ref a, .int 3 t], []⟩) := by with_unfolding_all rfl) :
    wpAny (M w) A (subscriptTail value slice (.ref a) (.int 3 t)) Q E s := by
  have X := C.X
  obtain ⟨_, _, _, TT⟩ := C.T
  obtain ⟨h₀, L₀, m, F, X₀⟩ := C.B
  obtain ⟨dx, od, I⟩ := T.inst
  have h1 : findIn (hd.heap_39 w.params) (.ref 181) "__getitem__" = some (some (.ref 133)) := by k_is
  have h2 : fnIn (hd.heap_39 w.params) 133 = true := by k_is
  have h3 : isFn (hd.heap_39 w.params) (.ref 133) = true := by k_is
  refine sub_K F X₀ I h1 h2 h3 ?_ hsl
  refine call_raise (L := L) (B := B) (cls := .type "IndexError") (mL := mL) (k := 4) (binds := [(Str.ofString "self", .ref a), (Str.ofString "idx", .int 3 t)]) C ((hA.lower (k := 6) (j := 6) (by omega)).in1) (by k_is) (by k_is) (by exact BindsTo.of_eq rfl) (by exact locs rfl) (by decide) (by rfl) (by rfl) (by rfl) hfr hB hBL hn hE fun L' s₁ k₁ F hA' => ?_
  refine wpAny_execs_cons ?_
  ktr_rel
  refine Raise_classB hA'.handled excClass_IndexError (by rw [isSubtype_type]; kernel_rfl) ?_ fun h' e x => ?_
  · exact cm_B (C.keep k₁.keep) (by k_is) PyProof.Rows.Boot.«IndexError» (by decide) rfl rfl ⟨rfl, rfl⟩
  · exact ⟨Kp.into (s₁ := s₁) k₁ fun b o q => x.keeps _ _ (k₁.keep _ _ q), ⟨_, F.keeps x.keeps⟩, born_new k₁ x⟩
end
section
variable {w : World} {A : Around} {S s s' : Shared} {L : Addr} {B : Heap} {m : Str → Option Value} {sl : Addr} {vs : List Value} {ns : List Int}
local macro_rules | `(tactic| kpf_close) => `(tactic| first | assumption | exact if_pos rfl | (refine Eq.trans (if_neg (by decide)) ?_; kpf_close))
local macro_rules | `(tactic| kwd_rel) => `(tactic| repeat' (first
  | ((with_reducible show wpAny _ _ (eval (Expr.Name (Str.ofString "script") _) _) _ _ _); first | refine law_script (by assumption) (by assumption) ?_ | refine law_script (LF.base (by assumption)) (by assumption) ?_)
  | ((with_reducible show wpAny _ _ (eval (Expr.Name _ _) _) _ _ _); refine law_ld (by assumption) (by kpf_close) ?_)
  | ((with_reducible show wpAny _ _ (compareOp CmpOp.NotEq (Value.int _ _) (Value.int _ _)) _ _ _); with_reducible refine ne_int_same ?_)
  | ((with_reducible show wpAny _ _ (compareOp CmpOp.NotEq (Value.str _ _) (Value.str _ _)) _ _ _); first | with_reducible refine ne_str_same ?_ | refine ne_str_eq (by decide) ?_)
  | ((with_reducible show wpAny _ _ (subscriptTail _ _ (Value.ref _) (Value.int 0 _)) _ _ _); first | refine sub3_0 (by assumption) ?_ | refine sub2_0 (by assumption) ?_)
  | ((with_reducible show wpAny _ _ (subscriptTail _ _ (Value.ref _) (Value.int 1 _)) _ _ _); first | refine sub3_1 (by assumption) ?_ | refine sub2_1 (by assumption) ?_)
  | ((with_reducible show wpAny _ _ (subscriptTail _ _ (Value.ref _) (Value.int 2 _)) _ _ _); refine sub3_2 (by assumption) ?_)
  | ((fail_if_success (first | with_reducible show wpAny _ _ (call _ _ _) _ _ _ | with_reducible show wpAny _ _ (eval (Expr.Name (Str.ofString "script") _) _) _ _ _ | with_reducible show wpAny _ _ (eval (Expr.ListComp _ _ _ _) _) _ _ _ | with_reducible show wpAny _ _ (compareOp _ (Value.ref _) _) _ _ _ | with_reducible show wpAny _ _ (compareOp _ _ (Value.ref _)) _ _ _ | with_reducible show wpAny _ _ (getAttr (Value.ref _) _ _) _ _ _ | with_reducible show wpAny _ _ (subscriptTail _ _ _ _) _ _ _ | with_reducible show wpAny _ _ (binaryOp _ (Value.ref _) _) _ _ _)); (first | with_reducible show wpAny _ _ _ _ _ _ | with_reducible show (if _ then _ else _)); walk1)))
local macro_rules | `(tactic| kln_le) => `(tactic| repeat' (first
  | ((with_reducible show wpAny _ _ (eval (Expr.Name _ _) _) _ _ _); refine cm_L (by assumption) (by assumption) rfl ?_)
  | ((with_reducible show wpAny _ _ (eval (Expr.Name (Str.ofString "script") _) _) _ _ _); refine cm_C (by assumption) rfl rfl ?_)
  | ((with_reducible show wpAny _ _ (eval (Expr.Name _ _) _) _ _ _); refine cm_G (by assumption) (by k_is) rfl ?_)
  | ((with_reducible show wpAny _ _ (eval (Expr.Name _ _) _) _ _ _); fail "a name")
  | ((with_reducible show wpAny _ _ (subscriptTail _ _ (Value.ref _) (Value.int 0 _)) _ _ _); refine sub3_0 (by assumption) ?_)
  | ((with_reducible show wpAny _ _ (subscriptTail _ _ (Value.ref _) (Value.int 1 _)) _ _ _); refine sub3_1 (by assumption) ?_)
  | ((with_reducible show wpAny _ _ (subscriptTail _ _ (Value.ref _) (Value.int 2 _)) _ _ _); refine sub3_2 (by assumption) ?_)
  | ((fail_if_success (first | with_reducible show wpAny _ _ (call _ _ _) _ _ _ | with_reducible show wpAny _ _ (eval (Expr.ListComp _ _ _ _) _) _ _ _ | with_reducible show wpAny _ _ (eval (Expr.Name _ _) _) _ _ _ | with_reducible show wpAny _ _ (compareOp _ (Value.ref _) _) _ _ _ | with_reducible show wpAny _ _ (compareOp _ _ (Value.ref _)) _ _ _ | with_reducible show wpAny _ _ (getAttr (Value.ref _) _ _) _ _ _ | with_reducible show wpAny _ _ (subscriptTail _ _ _ _) _ _ _ | with_reducible show wpAny _ _ (binaryOp _ (Value.ref _) _) _ _ _)); (first | with_reducible show wpAny _ _ _ _ _ _ | with_reducible show (if _ then _ else _)); walk1)))
theorem tagText_said (c f n : Int) : tagText c f n = Str.ofString "<Tag object, tag [" ++ saidText c f n ++ Str.ofString "]>" := by
  have e1 : Str.ofString "<Tag object, tag [" = Str.ofString "<" ++ Str.ofString "Tag" ++ Str.ofString " object, tag " ++ Str.ofString "[" := by decide
  have e2 : Str.ofString "]>" = Str.ofString "]" ++ Str.ofString ">" := by decide
  rw [e1, e2]
  unfold tagText saidText
  simp only [Str.append_assoc]
theorem tag3 {x y z : Str} {px py pz pos : Pos} {k : Nat} {a p : Addr} {c f n : Int} {t1 t2 t3 : Tok} {E : Value → Shared → Prop} {Q : Unit → Shared → Prop} (l : LF w S L B m s) (hA : Sm 5 A) (T : TagIs s.heap a c f n t1 t2 t3 p)
    (hx : (lawEnv L).kindOf x = some .local) (hy : (lawEnv L).kindOf y = some .local) (hz : (lawEnv L).kindOf z = some .local)
    (h : ∀ s', LF w S L B (fun u => if u = z then some (.int n t3) else if u = y then some (.int f t2) else if u = x then some (.int c t1) else m u) s' → Q () s') :
    wpAny (M w) A (assign (.Tuple [.Name x px, .Name y py, .Name z pz] k pos) (lawEnv L) (.ref a)) Q E s := by
  rw [assign_Tuple]
  refine wpAny_bind (wpAny_standAt ?_)
  unfold unpack
  refine wpAny_bind (wpAny_holding ?_)
  refine Gv.use (unpack_tag l.cx hA T) fun vs s₁ k₁ hv => ?_
  subst hv
  have l := l.kp k₁
  refine assignInOrder_cons (wpAny_assign_Name (law_st l (fun s₁ l _ => ?_) hx))
  refine assignInOrder_cons (wpAny_assign_Name (law_st l (fun s₂ l _ => ?_) hy))
  refine assignInOrder_cons (wpAny_assign_Name (law_st l (fun s₃ l _ => ?_) hz))
  exact assignInOrder_nil (h _ l)
theorem try3 {p1 p2 p3 p4 p6 p7 p8 p9 p10 : Pos} {rt : Expr} {a p : Addr} {c f n : Int} {t1 t2 t3 : Tok} {E : Value → Shared → Prop} {Q : Flow → Shared → Prop} {S : Shared} (l : LF w S L B m s) (hA : Sm 19 A) (hfr : A.frames = some [lawEnv L]) (hm : m (Str.ofString "made") = some (.ref a)) (T : TagIs B a c f n t1 t2 t3 p)
    (h : ∀ s', LF w S L B m s' → Q .next s') :
    wpAny (M w) A (exec (.Try [.Expr (.Subscript (.Name (Str.ofString "made") p1) (.Constant (.int 3) 0 p2) p3) p4, .Return (some rt) p6] [.ExceptHandler (some (.Name (Str.ofString "IndexError") p7)) none [.Pass p8] p9] [] [] p10) (lawEnv L)) Q E s := by
  have X := l.X
  obtain ⟨_, _, _, TT⟩ := l.T
  have F := l.F
  refine wpAny_Try_except ?_
  refine wpAny_execs_cons ?_
  kwd_rel
  refine tag_off (L := L) (B := B) (mL := m) (by exact l.cx) (hA.lower (by omega)) (T.keep l.base) hfr l.base l.off l.F.ns fun e s' fl => ?_
  refine law_catch hfr l.tk fl exm_Index (fun C h => cm_B C (by k_is) PyProof.Rows.Boot.«IndexError» (by decide) rfl rfl h) fun a s'' _ l => ?_
  exact wpAny_execs_cons (wpAny_Pass (wpAny_execs_nil (h _ l)))
end
end Mine
end
section
set_option maxRecDepth 100000
set_option maxHeartbeats 4000000
open PySem PySem.W PyProof.Rows
namespace Mine
local macro_rules | `(tactic| ktr_rel) => `(tactic| repeat ((fail_if_success (first | with_reducible show wpAny _ _ (call _ _ _) _ _ _ | with_reducible show wpAny _ _ (eval (Expr.ListComp _ _ _ _) _) _ _ _ | with_reducible show wpAny _ _ (compareOp _ (Value.ref _) _) _ _ _ | with_reducible show wpAny _ _ (compareOp _ _ (Value.ref _)) _ _ _ | with_reducible show wpAny _ _ (getAttr (Value.ref _) _ _) _ _ _ | with_reducible show wpAny _ _ (subscriptTail _ _ _ _) _ _ _ | with_reducible show wpAny _ _ (binaryOp _ (Value.ref _) _) _ _ _)); walk1))
local macro_rules | `(tactic| tb_start) => `(tactic| first
  | (with_reducible refine' tagClass_own ?zX ?zT ?_; (case zX => k_in); (case zT => exact TagIs.keep (by assumption) (Fr.keep (by assumption))))
  | (with_reducible refine' tagFormat_own ?zX ?zT ?_; (case zX => k_in); (case zT => exact TagIs.keep (by assumption) (Fr.keep (by assumption))))
  | (with_reducible refine' tagId_own ?zX ?zT ?_; (case zX => k_in); (case zT => exact TagIs.keep (by assumption) (Fr.keep (by assumption))))
  | (with_reducible refine' tagClassId_own ?zX ?zT ?_; (case zX => k_in); (case zT => exact TagIs.keep (by assumption) (Fr.keep (by assumption))))
  | (with_reducible refine' tagClass_use ?zC ?zA ?zT ?_; (case zC => exact Cx.keep (by assumption) (Fr.keep (by assumption))); (case zA => exact Sm.lower (by assumption) (by omega)); (case zT => exact TagIs.keep (by assumption) (Fr.keep (by assumption))); intro s₁ k₁; (have F := Fr.keeps (by assumption) (Kp.keep k₁)))
  | (with_reducible refine' tagFormat_use ?zC ?zA ?zT ?_; (case zC => exact Cx.keep (by assumption) (Fr.keep (by assumption))); (case zA => exact Sm.lower (by assumption) (by omega)); (case zT => exact TagIs.keep (by assumption) (Fr.keep (by assumption))); intro s₁ k₁; (have F := Fr.keeps (by assumption) (Kp.keep k₁)))
  | (with_reducible refine' tagId_use ?zC ?zA ?zT ?_; (case zC => exact Cx.keep (by assumption) (Fr.keep (by assumption))); (case zA => exact Sm.lower (by assumption) (by omega)); (case zT => exact TagIs.keep (by assumption) (Fr.keep (by assumption))); intro s₁ k₁; (have F := Fr.keeps (by assumption) (Kp.keep k₁))))
local macro_rules | `(tactic| tb_rel) => `(tactic| first | assumption | exact Kp.refl _ | (refine Kp.trans ?_ (by assumption); tb_rel) | (refine Kp.toks ?_; tb_rel))
local macro_rules | `(tactic| ktd_rel) => `(tactic| repeat' ((first | with_reducible show wpAny _ _ _ _ _ _ | with_reducible show (if _ then _ else _)); walk1))
section
variable {w : World} {A : Around} {S s s' : Shared} {L : Addr} {B : Heap} {m : Str → Option Value} {sl : Addr} {vs : List Value} {ns : List Int}
local macro_rules | `(tactic| kpf_close) => `(tactic| first | assumption | exact if_pos rfl | (refine Eq.trans (if_neg (by decide)) ?_; kpf_close))
local macro_rules | `(tactic| kwd_rel) => `(tactic| repeat' (first
  | ((with_reducible show wpAny _ _ (eval (Expr.Name (Str.ofString "script") _) _) _ _ _); first | refine law_script (by assumption) (by assumption) ?_ | refine law_script (LF.base (by assumption)) (by assumption) ?_)
  | ((with_reducible show wpAny _ _ (eval (Expr.Name _ _) _) _ _ _); refine law_ld (by assumption) (by kpf_close) ?_)
  | ((with_reducible show wpAny _ _ (compareOp CmpOp.NotEq (Value.int _ _) (Value.int _ _)) _ _ _); with_reducible refine ne_int_same ?_)
  | ((with_reducible show wpAny _ _ (compareOp CmpOp.NotEq (Value.str _ _) (Value.str _ _)) _ _ _); first | with_reducible refine ne_str_same ?_ | refine ne_str_eq (by decide) ?_)
  | ((with_reducible show wpAny _ _ (subscriptTail _ _ (Value.ref _) (Value.int 0 _)) _ _ _); first | refine sub3_0 (by assumption) ?_ | refine sub2_0 (by assumption) ?_)
  | ((with_reducible show wpAny _ _ (subscriptTail _ _ (Value.ref _) (Value.int 1 _)) _ _ _); first | refine sub3_1 (by assumption) ?_ | refine sub2_1 (by assumption) ?_)
  | ((with_reducible show wpAny _ _ (subscriptTail _ _ (Value.ref _) (Value.int 2 _)) _ _ _); refine sub3_2 (by assumption) ?_)
  | ((fail_if_success (first | with_reducible show wpAny _ _ (call _ _ _) _ _ _ | with_reducible show wpAny _ _ (eval (Expr.Name (Str.ofString "script") _) _) _ _ _ | with_reducible show wpAny _ _ (eval (Expr.ListComp _ _ _ _) _) _ _ _ | with_reducible show wpAny _ _ (compareOp _ (Value.ref _) _) _ _ _ | with_reducible show wpAny _ _ (compareOp _ _ (Value.ref _)) _ _ _ | with_reducible show wpAny _ _ (getAttr (Value.ref _) _ _) _ _ _ | with_reducible show wpAny _ _ (subscriptTail _ _ _ _) _ _ _ | with_reducible show wpAny _ _ (binaryOp _ (Value.ref _) _) _ _ _)); (first | with_reducible show wpAny _ _ _ _ _ _ | with_reducible show (if _ then _ else _)); walk1)))
local macro_rules | `(tactic| kln_le) => `(tactic| repeat' (first
  | ((with_reducible show wpAny _ _ (eval (Expr.Name _ _) _) _ _ _); refine cm_L (by assumption) (by assumption) rfl ?_)
  | ((with_reducible show wpAny _ _ (eval (Expr.Name (Str.ofString "script") _) _) _ _ _); refine cm_C (by assumption) rfl rfl ?_)
  | ((with_reducible show wpAny _ _ (eval (Expr.Name _ _) _) _ _ _); refine cm_G (by assumption) (by k_is) rfl ?_)
  | ((with_reducible show wpAny _ _ (eval (Expr.Name _ _) _) _ _ _); fail "a name")
  | ((with_reducible show wpAny _ _ (subscriptTail _ _ (Value.ref _) (Value.int 0 _)) _ _ _); refine sub3_0 (by assumption) ?_)
  | ((with_reducible show wpAny _ _ (subscriptTail _ _ (Value.ref _) (Value.int 1 _)) _ _ _); refine sub3_1 (by assumption) ?_)
  | ((with_reducible show wpAny _ _ (subscriptTail _ _ (Value.ref _) (Value.int 2 _)) _ _ _); refine sub3_2 (by assumption) ?_)
  | ((fail_if_success (first | with_reducible show wpAny _ _ (call _ _ _) _ _ _ | with_reducible show wpAny _ _ (eval (Expr.ListComp _ _ _ _) _) _ _ _ | with_reducible show wpAny _ _ (eval (Expr.Name _ _) _) _ _ _ | with_reducible show wpAny _ _ (compareOp _ (Value.ref _) _) _ _ _ | with_reducible show wpAny _ _ (compareOp _ _ (Value.ref _)) _ _ _ | with_reducible show wpAny _ _ (getAttr (Value.ref _) _ _) _ _ _ | with_reducible show wpAny _ _ (subscriptTail _ _ _ _) _ _ _ | with_reducible show wpAny _ _ (binaryOp _ (Value.ref _) _) _ _ _)); (first | with_reducible show wpAny _ _ _ _ _ _ | with_reducible show (if _ then _ else _)); walk1)))
theorem st3 {Q : Flow → Shared → Prop} {E : Value → Shared → Prop} {a b p q q1 q2 : Addr} {d1 d2 : Trip} {u1 u2 u3 w1 w2 w3 : Tok} (l : LF w S L B m s) (hA : Sm 19 A) (hfr : A.frames = some [lawEnv L])
    (hm0 : m (Str.ofString "first") = some (.ref q1)) (hm1 : m (Str.ofString "one") = some (.ref a)) (hm2 : m (Str.ofString "other") = some (.ref b)) (hm3 : m (Str.ofString "second") = some (.ref q2))
    (T1 : TagIs B a d1.c d1.f d1.n u1 u2 u3 p) (T2 : TagIs B b d2.c d2.f d2.n w1 w2 w3 q) (hq1 : B.get? q1 = some (tupObj d1.items)) (hq2 : B.get? q2 = some (tupObj d2.items)) (ok1 : d1.ok) (ok2 : d2.ok)
    (h : ∀ m' s', LF w S L B m' s' → (∀ x, x ≠ Str.ofString "made" → x ≠ Str.ofString "plain" → x ≠ Str.ofString "a" → x ≠ Str.ofString "b" → x ≠ Str.ofString "c" → m' x = m x) → Q .next s') :
    wpAny (M w) A (exec (lawStmt 3) (lawEnv L)) Q E s := by
  conv in (lawStmt 3) => whnf
  have X := l.X
  obtain ⟨_, _, _, TT⟩ := l.T
  have F := l.F
  refine law_for (S := S) (m := m) (fun m' => ∀ x, x ≠ Str.ofString "made" → x ≠ Str.ofString "plain" → x ≠ Str.ofString "a" → x ≠ Str.ofString "b" → x ≠ Str.ofString "c" → m' x = m x) (via (fun v s' => ∃ qq r1 r2, v = .ref qq ∧ LF w S L B m s' ∧ s'.heap.get? r1 = some (tupObj [.ref a, .ref q1]) ∧ s'.heap.get? r2 = some (tupObj [.ref b, .ref q2]) ∧
    s'.heap.get? qq = some (tupObj [.ref r1, .ref r2])) (fun Q' hQ' => ?_) (fun v s₁ hv => ?_))
  · clear h
    kwd_rel
    refine law_tup l fun r1 s₁ l k1 h0 => ?_
    have F := l.F
    kwd_rel
    refine law_tup l fun r2 s₂ l k2 h1 => ?_
    have F := l.F
    kwd_rel
    refine law_tup l fun qq s₇ l k7 hq => ?_
    exact hQ' _ _ ⟨qq, r1, r2, rfl, l, k7 _ _ (k2 _ _ h0), k7 _ _ h1, hq⟩
  obtain ⟨qq, r1, r2, rfl, l, h0, h1, hq⟩ := hv
  have hlow := l.low
  have b0 := l.stay hm0 stay_tup h0
  have b1 := l.stay hm0 stay_tup h1
  have hb0 := l.up.2
  have l := l.up.1
  generalize off s₁.heap L = B₁ at b0 b1 hb0 l
  refine ⟨B₁, 2, _, l, src_tup (items := #[.ref r1, .ref r2]) hA.handled ⟨_, hq, rfl, _, rfl⟩, by intro _ _ _ _ _ _; first | trivial | rfl, ?_, fun m' s' l hJ => h m' s' (l.back hb0 hlow) hJ⟩
  intro i v B₂ m₂ s₃ E' hi hv l hb hJ
  obtain ⟨q, ta, tq, tp, d, v1, v2, v3, rfl, hqv, T, hdq, ok⟩ : ∃ q ta tq tp, ∃ d : Trip, ∃ v1 v2 v3, v = .ref q ∧ B₁.get? q = some (tupObj [.ref ta, .ref tq]) ∧ TagIs B₁ ta d.c d.f d.n v1 v2 v3 tp ∧ B₁.get? tq = some (tupObj d.items) ∧ d.ok := by
    match i, hi, hv with
    | 0, _, hv => cases hv; exact ⟨_, _, _, _, _, _, _, _, rfl, b0, T1.keep hb0, hb0 _ _ hq1, ok1⟩
    | 1, _, hv => cases hv; exact ⟨_, _, _, _, _, _, _, _, rfl, b1, T2.keep hb0, hb0 _ _ hq2, ok2⟩
  refine law_pair l hA.handled (l.base _ _ (hb _ _ hqv)) rfl rfl fun s₄ l => ?_
  have T := T.keep hb
  have hdq := hb _ _ hdq
  have F := l.F
  refine wpAny_execs_cons ?_
  kwd_rel
  refine tagClass_use (by exact l.cx) (hA.lower (by omega)) (T.keep l.base) fun s₅ k₅ => ?_
  have l := l.kp2 k₅
  have F := l.F
  kwd_rel
  refine tagFormat_use (by exact l.cx) (hA.lower (by omega)) (T.keep l.base) fun s₅ k₅ => ?_
  have l := l.kp2 k₅
  have F := l.F
  kwd_rel
  refine tagId_use (by exact l.cx) (hA.lower (by omega)) (T.keep l.base) fun s₅ k₅ => ?_
  have l := l.kp2 k₅
  have F := l.F
  kwd_rel
  refine law_tup l fun r3 s₆ l k6 h6 => ?_
  have F := l.F
  kwd_rel
  refine ne_same3 h6 (l.base _ _ hdq) (hA.lower (by omega)) ?_
  kwd_rel
  refine tag_at (by exact l.cx) (hA.lower (by omega)) (T.keep l.base) (.inl ⟨rfl, rfl⟩) fun s₅ k₅ => ?_
  have l := l.kp2 k₅
  have F := l.F
  kwd_rel
  refine tag_at (by exact l.cx) (hA.lower (by omega)) (T.keep l.base) (.inr (.inl ⟨rfl, rfl⟩)) fun s₅ k₅ => ?_
  have l := l.kp2 k₅
  have F := l.F
  kwd_rel
  refine tag_at (by exact l.cx) (hA.lower (by omega)) (T.keep l.base) (.inr (.inr ⟨rfl, rfl⟩)) fun s₅ k₅ => ?_
  have l := l.kp2 k₅
  have F := l.F
  kwd_rel
  refine law_tup l fun r4 s₇ l k7 h7 => ?_
  have F := l.F
  kwd_rel
  refine ne_same3 h7 (l.base _ _ hdq) (hA.lower (by omega)) ?_
  kwd_rel
  refine Gv.use (tuple_tag (by exact l.cx) (hA.lower (by omega)) (T.keep l.base)) fun v s₈ k₈ hv => ?_
  obtain ⟨r5, rfl, h8⟩ := hv
  have l := l.kp2 k₈
  have F := l.F
  kwd_rel
  refine ne_same3 h8 (l.base _ _ hdq) (hA.lower (by omega)) ?_
  kwd_rel
  refine tag3 l (hA.lower (by omega)) (T.keep l.base) rfl rfl rfl fun s₉ l => ?_
  have F := l.F
  refine wpAny_execs_cons ?_
  obtain ⟨⟨c0, c1⟩, ⟨f0, f1⟩, n0, n1⟩ := id ok
  have c1 : d.c < 10 ^ 40 := Int.lt_of_le_of_lt c1 (by decide)
  have f1 : d.f < 10 ^ 40 := Int.lt_of_le_of_lt f1 (by decide)
  kwd_rel
  refine law_tup l fun r6 s₆ l k6 h6 => ?_
  have F := l.F
  kwd_rel
  refine ne_same3 h6 (l.base _ _ hdq) (hA.lower (by omega)) ?_
  kwd_rel
  refine Gv.use (repr_tag (by exact l.cx) (hA.lower (by omega)) (T.keep l.base) n0 n1 c0 c1 f0 f1) fun v s₇ k₇ hv => ?_
  obtain ⟨t7, rfl⟩ := hv
  have l := l.kp2 k₇
  have F := l.F
  kwd_rel
  refine ⟨l.cx.X, ?_⟩
  refine Gv.use (law_said (by exact l.cx) (hA.lower (by omega)) (r := d) ⟨tq, rfl, l.base _ _ hdq⟩ ok) fun v s₈ k₈ hv => ?_
  obtain ⟨t8, rfl⟩ := hv
  have l := l.kp2 k₈
  have F := l.F
  have hsl := said_len ok
  have hsz : (saidText d.c d.f d.n).length ≤ sizeLine := by rw [sizeLine_eq]; omega
  rw [tagText_said]
  generalize saidText d.c d.f d.n = X at hsl hsz
  have hd5 := l.base _ _ hdq
  kwd_rel
  refine ⟨l.cx.X, ?_⟩
  refine Gv.use (id_str (by exact l.cx) (hA.lower (by omega)) n0 n1) fun v s₇ k₇ hv => ?_
  obtain ⟨t9, rfl⟩ := hv
  have l := l.kp2 k₇
  have F := l.F
  have hd5 := l.base _ _ hdq
  kwd_rel
  refine PySem.P.str_of_int (log2_small n0 n1) ?_
  kwd_rel
  refine try3 l.tk hA hfr (by kpf_close) T fun s₉ l => ?_
  refine wpAny_execs_nil ⟨rfl, _, _, l, fun _ _ e => e, fun x h1 h2 h3 h4 h5 => ?_⟩
  rw [if_neg h5, if_neg h4, if_neg h3, if_neg h2, if_neg h1]
  exact hJ x h1 h2 h3 h4 h5
end
end Mine
end
section
set_option maxRecDepth 100000
set_option maxHeartbeats 4000000
open PySem PySem.W PyProof.Rows PySem.W.X
namespace Mine
theorem asn_close {h h' : Heap} {g : Array GenState} {d : Drawn} {t t' : Nat} {os : OsState} {a0 a1 a2 a3 a4 : Addr} {o0 o1 o2 o3 o5 : Obj} {v5 : Value} {a5 : Addr}
    (D : Mem h h' [] [(a0, o0), (a1, o1), (a2, o2), (a3, o3), (a4, { cls := .ref 46, dict := some a0, data := .fields #[v5, .none, .none, .none, .bool false, .none] }), (a5, o5)]) :
    Kp ⟨h, g, d, t, os⟩ ⟨h', g, d, t', os⟩ ∧ Born ⟨h, g, d, t, os⟩ (.ref 46) (.ref a4) (⟨h', g, d, t', os⟩ : Shared).heap :=
  ⟨⟨h', t', g, rfl, mem_keep D, id⟩, a4, _, _, v5, rfl, (D.nw _ (.tail _ (.tail _ (.tail _ (.tail _ (.head _)))))).2, mem_at D 4 rfl, rfl, rfl, rfl, rfl⟩
local macro_rules | `(tactic| x_close) => `(tactic| (exact asn_close (by assumption)))
theorem asn_newX (w : World) (h : Heap) (KX : (hd.heap_39 w.params).In h) (g : Array GenState) (d : Drawn) (t : Nat) (os : OsState) (x : Str) (tx : Tok) :
   wpAny (model PySem.Challenge.rw_gr5021_01.row.prog w) AX (call (.ref 46) [.str x tx])
     (fun v s' => Kp ⟨h, g, d, t, os⟩ s' ∧ Born ⟨h, g, d, t, os⟩ (.ref 46) v s'.heap) (fun _ _ => False) ⟨h, g, d, t, os⟩ := by
  x_run
theorem asn_new {w : World} {A : Around} {s : Shared} {k : Nat} (C : Cx w s.heap) (hA : Sm k A) {x : Str} {tx : Tok} : Gv w A (call (.ref 46) [.str x tx]) (fun v s' => Born s (.ref 46) v s'.heap) s := by
  obtain ⟨h, g, d, t, os⟩ := s
  exact wp_of_AX (asn_newX w h C.X g d t os x tx) (hA.lower (Nat.zero_le _))
end Mine
end
section
set_option maxRecDepth 100000
set_option maxHeartbeats 4000000
open PySem PySem.W PyProof.Rows
namespace Mine
local macro_rules | `(tactic| ktr_rel) => `(tactic| repeat ((fail_if_success (first | with_reducible show wpAny _ _ (call _ _ _) _ _ _ | with_reducible show wpAny _ _ (eval (Expr.ListComp _ _ _ _) _) _ _ _ | with_reducible show wpAny _ _ (compareOp _ (Value.ref _) _) _ _ _ | with_reducible show wpAny _ _ (compareOp _ _ (Value.ref _)) _ _ _ | with_reducible show wpAny _ _ (getAttr (Value.ref _) _ _) _ _ _ | with_reducible show wpAny _ _ (subscriptTail _ _ _ _) _ _ _ | with_reducible show wpAny _ _ (binaryOp _ (Value.ref _) _) _ _ _)); walk1))
local macro_rules | `(tactic| tb_start) => `(tactic| first
  | (with_reducible refine' tagClass_own ?zX ?zT ?_; (case zX => k_in); (case zT => exact TagIs.keep (by assumption) (Fr.keep (by assumption))))
  | (with_reducible refine' tagFormat_own ?zX ?zT ?_; (case zX => k_in); (case zT => exact TagIs.keep (by assumption) (Fr.keep (by assumption))))
  | (with_reducible refine' tagId_own ?zX ?zT ?_; (case zX => k_in); (case zT => exact TagIs.keep (by assumption) (Fr.keep (by assumption))))
  | (with_reducible refine' tagClassId_own ?zX ?zT ?_; (case zX => k_in); (case zT => exact TagIs.keep (by assumption) (Fr.keep (by assumption))))
  | (with_reducible refine' tagClass_use ?zC ?zA ?zT ?_; (case zC => exact Cx.keep (by assumption) (Fr.keep (by assumption))); (case zA => exact Sm.lower (by assumption) (by omega)); (case zT => exact TagIs.keep (by assumption) (Fr.keep (by assumption))); intro s₁ k₁; (have F := Fr.keeps (by assumption) (Kp.keep k₁)))
  | (with_reducible refine' tagFormat_use ?zC ?zA ?zT ?_; (case zC => exact Cx.keep (by assumption) (Fr.keep (by assumption))); (case zA => exact Sm.lower (by assumption) (by omega)); (case zT => exact TagIs.keep (by assumption) (Fr.keep (by assumption))); intro s₁ k₁; (have F := Fr.keeps (by assumption) (Kp.keep k₁)))
  | (with_reducible refine' tagId_use ?zC ?zA ?zT ?_; (case zC => exact Cx.keep (by assumption) (Fr.keep (by assumption))); (case zA => exact Sm.lower (by assumption) (by omega)); (case zT => exact TagIs.keep (by assumption) (Fr.keep (by assumption))); intro s₁ k₁; (have F := Fr.keeps (by assumption) (Kp.keep k₁))))
local macro_rules | `(tactic| tb_rel) => `(tactic| first | assumption | exact Kp.refl _ | (refine Kp.trans ?_ (by assumption); tb_rel) | (refine Kp.toks ?_; tb_rel))
local macro_rules | `(tactic| ktd_rel) => `(tactic| repeat' ((first | with_reducible show wpAny _ _ _ _ _ _ | with_reducible show (if _ then _ else _)); walk1))
section
variable {w : World} {A : Around} {s : Shared} {L : Addr} {B : Heap} {mL : Str → Option Value}
def AsnAt (v : Value) (h : Heap) : Prop := ∃ e oe vs, v = .ref e ∧ h.get? e = some oe ∧ oe.cls = .ref 46 ∧ oe.data = .fields vs ∧ vs[1]? = some .none
theorem raise_made {env : Env} {x : Sem Value} {E : Value → Shared → Prop} {Q : Flow → Shared → Prop} (hh : A.handled = none)
    (h : wpAny (M w) A x (fun v s₁ => (hd.heap_39 w.params).In s₁.heap ∧ AsnAt v s₁.heap ∧ E v s₁) E s) : wpAny (M w) A (raiseStmt env (some x) none) Q E s := by
  have e1 : subIn (hd.heap_39 w.params) (.ref 46) (.type "BaseException") = some true := by rfl
  have e2 : typeIn (hd.heap_39 w.params) (.ref 46) = some (.type "type") := by rfl
  unfold raiseStmt
  refine wpAny_bind (wpAny_mono h (fun v s₁ h₁ => ?_) fun _ _ x => x)
  obtain ⟨X, ⟨e, oe, vs, rfl, he, hc, hd, h1⟩, hE⟩ := h₁
  obtain ⟨cls, dict, data, slots⟩ := oe
  dsimp only at hc hd
  subst hc hd
  obtain ⟨hp, g, d, tk, os⟩ := s₁
  have L0 : Looks (M w) hp (typeOf (.ref e)) (.ref 46) := (Looks.ld (part := none) he).andThen .now
  have L1 : Looks (M w) hp (isSubtype (.ref 46) (.type "BaseException")) true := looks_subIn X e1
  have L2 : Looks (M w) hp (typeOf (.ref 46)) (.type "type") := looks_typeIn X e2
  unfold excFromValue isExcClass isType isInstance raisedInstance
  refine wpAny_bind (wpAny_pure ?_)
  refine wpAny_bind (wpAny_holding ?_)
  repeat (first | with_reducible refine wpAny_loadPart_at he ?_ | (with_reducible refine L0.at ?_) | (with_reducible refine L1.at ?_) | (with_reducible refine L2.at ?_) | wp_step)
  rw [h1]
  refine wpAny_pure ?_
  rw [if_neg (by decide)]
  refine wpAny_pure ?_
  exact wpAny_raiseNew_none hh hE
end
end Mine
end
section
set_option maxRecDepth 100000
set_option maxHeartbeats 4000000
open PySem PySem.W PyProof.Rows
namespace Mine
local macro_rules | `(tactic| ktr_rel) => `(tactic| repeat ((fail_if_success (first | with_reducible show wpAny _ _ (call _ _ _) _ _ _ | with_reducible show wpAny _ _ (eval (Expr.ListComp _ _ _ _) _) _ _ _ | with_reducible show wpAny _ _ (compareOp _ (Value.ref _) _) _ _ _ | with_reducible show wpAny _ _ (compareOp _ _ (Value.ref _)) _ _ _ | with_reducible show wpAny _ _ (getAttr (Value.ref _) _ _) _ _ _ | with_reducible show wpAny _ _ (subscriptTail _ _ _ _) _ _ _ | with_reducible show wpAny _ _ (binaryOp _ (Value.ref _) _) _ _ _)); walk1))
local macro_rules | `(tactic| tb_start) => `(tactic| first
  | (with_reducible refine' tagClass_own ?zX ?zT ?_; (case zX => k_in); (case zT => exact TagIs.keep (by assumption) (Fr.keep (by assumption))))
  | (with_reducible refine' tagFormat_own ?zX ?zT ?_; (case zX => k_in); (case zT => exact TagIs.keep (by assumption) (Fr.keep (by assumption))))
  | (with_reducible refine' tagId_own ?zX ?zT ?_; (case zX => k_in); (case zT => exact TagIs.keep (by assumption) (Fr.keep (by assumption))))
  | (with_reducible refine' tagClassId_own ?zX ?zT ?_; (case zX => k_in); (case zT => exact TagIs.keep (by assumption) (Fr.keep (by assumption))))
  | (with_reducible refine' tagClass_use ?zC ?zA ?zT ?_; (case zC => exact Cx.keep (by assumption) (Fr.keep (by assumption))); (case zA => exact Sm.lower (by assumption) (by omega)); (case zT => exact TagIs.keep (by assumption) (Fr.keep (by assumption))); intro s₁ k₁; (have F := Fr.keeps (by assumption) (Kp.keep k₁)))
  | (with_reducible refine' tagFormat_use ?zC ?zA ?zT ?_; (case zC => exact Cx.keep (by assumption) (Fr.keep (by assumption))); (case zA => exact Sm.lower (by assumption) (by omega)); (case zT => exact TagIs.keep (by assumption) (Fr.keep (by assumption))); intro s₁ k₁; (have F := Fr.keeps (by assumption) (Kp.keep k₁)))
  | (with_reducible refine' tagId_use ?zC ?zA ?zT ?_; (case zC => exact Cx.keep (by assumption) (Fr.keep (by assumption))); (case zA => exact Sm.lower (by assumption) (by omega)); (case zT => exact TagIs.keep (by assumption) (Fr.keep (by assumption))); intro s₁ k₁; (have F := Fr.keeps (by assumption) (Kp.keep k₁))))
local macro_rules | `(tactic| tb_rel) => `(tactic| first | assumption | exact Kp.refl _ | (refine Kp.trans ?_ (by assumption); tb_rel) | (refine Kp.toks ?_; tb_rel))
local macro_rules | `(tactic| ktd_rel) => `(tactic| repeat' ((first | with_reducible show wpAny _ _ _ _ _ _ | with_reducible show (if _ then _ else _)); walk1))
section
variable {w : World} {A : Around} {s : Shared} {L : Addr} {B : Heap} {mL : Str → Option Value}
theorem exec_raise {env : Env} {x : Expr} {pos : Pos} {E : Value → Shared → Prop} {Q : Flow → Shared → Prop} (hh : A.handled = none)
    (h : wpAny (M w) A (eval x env) (fun v s₁ => (hd.heap_39 w.params).In s₁.heap ∧ AsnAt v s₁.heap ∧ E v s₁) E s) : wpAny (M w) A (exec (.Raise (some x) none pos) env) Q E s := by
  show wpAny (M w) A (do standAt pos; raiseStmt env (some (do let v ← eval x env; standAt pos; pure v)) none) Q E s
  refine wpAny_bind (wpAny_standAt ?_)
  exact raise_made hh (wpAny_bind (wpAny_mono h (fun v s₁ h₁ => wpAny_bind (wpAny_standAt (wpAny_pure h₁))) fun _ _ e => e))
theorem dec_neg {n : Int} (h : -(10 ^ 40) ≤ n) (hn : n < 0) : (Str.ofString (toString n)).length ≤ 50 := by
  obtain ⟨m, rfl⟩ : ∃ m : Nat, n = Int.negSucc m := Int.eq_negSucc_of_lt_zero hn
  have e41 : (10 : Int) ^ 41 = 10 * 10 ^ 40 := by decide
  have h1 : (Str.ofString (toString ((m + 1 : Nat) : Int))).length ≤ 41 := toString_length_le (by omega) (by decide) (by rw [e41]; omega)
  have e : toString (Int.negSucc m) = "-" ++ toString ((m + 1 : Nat) : Int) := rfl
  rw [e, PyProof.Rows.ofString_length, String.toList_append, List.length_append]
  rw [PyProof.Rows.ofString_length] at h1
  have e2 : ("-" : String).toList.length = 1 := by decide
  omega
theorem log2_neg {n : Int} (h : -(10 ^ 40) ≤ n) (hn : n < 0) : n.natAbs.log2 < 1920 := by
  refine (Nat.log2_lt (by omega)).mpr ?_
  have h2 : n.natAbs ≤ 10 ^ 40 := by omega
  exact Nat.lt_of_le_of_lt h2 (by decide +kernel)
theorem id_strN {n : Int} {t : Tok} (C : Cx w s.heap) (hA : Sm 3 A) (hl : n.natAbs.log2 < 1920) :
    Gv w A (call (.ref 56) [.int n t]) (fun v s' => ∃ t, v = .str (Str.ofString (toString n)) t) s := by
  have X := C.X
  obtain ⟨_, _, _, TT⟩ := C.T
  refine call_fn (binds := [(Str.ofString "tagId", .int n t)]) C hA (by k_is) (by k_is) (by exact BindsTo.of_eq rfl) (by exact locs rfl) (by decide) (by rfl) (by rfl) (by rfl) fun L s₀ k₀ F hA' => ?_
  refine wpAny_execs_cons (wpAny_Try_except ?_)
  refine wpAny_execs_cons (wpAny_Return_some ?_)
  ktr_rel
  exact PySem.P.str_of_int hl ⟨k₀.toks, _, rfl⟩
theorem under_frames {c : Value} {args : Args} : (A.under (.builtin "type.__call__" args)).frames = A.frames := by
  rfl
theorem tag_bad {c f n : Int} {t1 t2 t3 : Tok} {E Q : Value → Shared → Prop} (C : Cx w s.heap) (hA : Sm 12 A) (hlo : -(10 ^ 40) ≤ n) (hn : n < 0)
    (hfr : A.frames = some [lawEnv L]) (hB : ∀ b o, B.get? b = some o → s.heap.get? b = some o) (hBL : B.get? L = none) (hnL : s.heap.Ns L mL)
    (hE : ∀ e s', Flies L B (.ref 46) s e s' → E e s') : wpAny (M w) A (call (.ref 181) [.int c t1, .int f t2, .int n t3]) Q E s := by
  have h1 : findIn (hd.heap_39 w.params) (.ref 181) "__init__" = some (some (.ref 70)) := by k_is
  refine new_cls C.X (by k_is) h1 (by k_is) fun x dx h' hx hdx nd nx hne k hz zd zx => ?_
  have X := (C.keep (h' := h') k).X
  obtain ⟨_, _, _, TT⟩ := (C.keep (h' := h') k).T
  refine codeAny_mono (code_raise (s := { s with heap := h' }) (L := L) (B := B) (cls := .ref 46) (mL := mL) (k := 9) (binds := [(Str.ofString "self", .ref x), (Str.ofString "tagClass", .int c t1), (Str.ofString "tagFormat", .int f t2), (Str.ofString "tagId", .int n t3)])
    (C.keep k) ?_ (by k_is) (by k_is) (by exact BindsTo.of_eq rfl) (by exact locs rfl) (by decide) (by rfl) (by rfl) (by rfl) hfr (fun b o e => k _ _ (hB _ _ e)) hBL (hnL.at' fun o e => k _ _ e) fun L' s₁ k₁ F hA' => ?_) fun r s' z => ?_
  · exact ⟨hA.handled, by have := hA.depth; show A.depth + 1 + 10 * 10 ≤ 500; omega, by have := hA.units; show A.units + 1 + 100 * 10 ≤ 5000; omega⟩
  · refine wpAny_execs_cons ?_
    ktr_rel
    refine exec_raise hA'.handled ?_
    ktr_rel
    refine Gv.use (id_strN (by exact C.keep (fun b o e => Fr.keep (by assumption) _ _ (k _ _ e))) (by exact hA'.lower (by omega)) (log2_neg hlo hn)) fun v s₂ k₂ hv => ?_
    obtain ⟨t, rfl⟩ := hv
    have F := Fr.keeps (by assumption) k₂.keep
    have hln := dec_neg hlo hn
    generalize Str.ofString (toString n) = y at hln
    have hln2 : y.length ≤ 1000000 := by omega
    ktr_rel
    have HC : Cx w s₂.heap := C.keep fun b o e => k₂.keep _ _ (k₁.keep _ _ (k _ _ e))
    refine Gv.use (asn_new (k := 0) (by exact HC) (hA'.lower (by omega))) fun v s₃ k₃ hb => ?_
    have K : Kp { s with heap := h' } s₃ := by tb_rel
    obtain ⟨a, oe, vs, a0, rfl, hnew, hoe, hc, hd, h0, h1⟩ := hb
    refine ⟨(HC.keep k₃.keep).X, ⟨a, oe, vs, rfl, hoe, hc, hd, h1⟩, K, ⟨_, F.keeps k₃.keep⟩, a, oe, vs, a0, rfl, ?_, hoe, hc, hd, h0, h1⟩
    cases q : h'.get? a with
    | none => rfl
    | some o =>
      have e1 : s₂.heap.get? a = some o := k₂.keep _ _ (k₁.keep _ _ q)
      have e2 : s₂.heap.get? a = none := hnew
      rw [e2] at e1; cases e1
  · cases r with
    | error e => 
      refine hE e s' ⟨z.ex, (Heap.UpToSlots.of_keeps k).trans z.up, z.rest⟩
    | ok f => exact z.elim
end
end Mine
end
section
set_option maxRecDepth 100000
set_option maxHeartbeats 4000000
open PySem PySem.W PyProof.Rows
namespace Mine
local macro_rules | `(tactic| ktr_rel) => `(tactic| repeat ((fail_if_success (first | with_reducible show wpAny _ _ (call _ _ _) _ _ _ | with_reducible show wpAny _ _ (eval (Expr.ListComp _ _ _ _) _) _ _ _ | with_reducible show wpAny _ _ (compareOp _ (Value.ref _) _) _ _ _ | with_reducible show wpAny _ _ (compareOp _ _ (Value.ref _)) _ _ _ | with_reducible show wpAny _ _ (getAttr (Value.ref _) _ _) _ _ _ | with_reducible show wpAny _ _ (subscriptTail _ _ _ _) _ _ _ | with_reducible show wpAny _ _ (binaryOp _ (Value.ref _) _) _ _ _)); walk1))
local macro_rules | `(tactic| tb_start) => `(tactic| first
  | (with_reducible refine' tagClass_own ?zX ?zT ?_; (case zX => k_in); (case zT => exact TagIs.keep (by assumption) (Fr.keep (by assumption))))
  | (with_reducible refine' tagFormat_own ?zX ?zT ?_; (case zX => k_in); (case zT => exact TagIs.keep (by assumption) (Fr.keep (by assumption))))
  | (with_reducible refine' tagId_own ?zX ?zT ?_; (case zX => k_in); (case zT => exact TagIs.keep (by assumption) (Fr.keep (by assumption))))
  | (with_reducible refine' tagClassId_own ?zX ?zT ?_; (case zX => k_in); (case zT => exact TagIs.keep (by assumption) (Fr.keep (by assumption))))
  | (with_reducible refine' tagClass_use ?zC ?zA ?zT ?_; (case zC => exact Cx.keep (by assumption) (Fr.keep (by assumption))); (case zA => exact Sm.lower (by assumption) (by omega)); (case zT => exact TagIs.keep (by assumption) (Fr.keep (by assumption))); intro s₁ k₁; (have F := Fr.keeps (by assumption) (Kp.keep k₁)))
  | (with_reducible refine' tagFormat_use ?zC ?zA ?zT ?_; (case zC => exact Cx.keep (by assumption) (Fr.keep (by assumption))); (case zA => exact Sm.lower (by assumption) (by omega)); (case zT => exact TagIs.keep (by assumption) (Fr.keep (by assumption))); intro s₁ k₁; (have F := Fr.keeps (by assumption) (Kp.keep k₁)))
  | (with_reducible refine' tagId_use ?zC ?zA ?zT ?_; (case zC => exact Cx.keep (by assumption) (Fr.keep (by assumption))); (case zA => exact Sm.lower (by assumption) (by omega)); (case zT => exact TagIs.keep (by assumption) (Fr.keep (by assumption))); intro s₁ k₁; (have F := Fr.keeps (by assumption) (Kp.keep k₁))))
local macro_rules | `(tactic| tb_rel) => `(tactic| first | assumption | exact Kp.refl _ | (refine Kp.trans ?_ (by assumption); tb_rel) | (refine Kp.toks ?_; tb_rel))
local macro_rules | `(tactic| ktd_rel) => `(tactic| repeat' ((first | with_reducible show wpAny _ _ _ _ _ _ | with_reducible show (if _ then _ else _)); walk1))
section
variable {w : World} {A : Around} {S s s' : Shared} {L : Addr} {B : Heap} {m : Str → Option Value} {sl : Addr} {vs : List Value} {ns : List Int}
local macro_rules | `(tactic| kpf_close) => `(tactic| first | assumption | exact if_pos rfl | (refine Eq.trans (if_neg (by decide)) ?_; kpf_close))
local macro_rules | `(tactic| kwd_rel) => `(tactic| repeat' (first
  | ((with_reducible show wpAny _ _ (eval (Expr.Name (Str.ofString "script") _) _) _ _ _); first | refine law_script (by assumption) (by assumption) ?_ | refine law_script (LF.base (by assumption)) (by assumption) ?_)
  | ((with_reducible show wpAny _ _ (eval (Expr.Name _ _) _) _ _ _); refine law_ld (by assumption) (by kpf_close) ?_)
  | ((with_reducible show wpAny _ _ (compareOp CmpOp.NotEq (Value.int _ _) (Value.int _ _)) _ _ _); with_reducible refine ne_int_same ?_)
  | ((with_reducible show wpAny _ _ (compareOp CmpOp.NotEq (Value.str _ _) (Value.str _ _)) _ _ _); first | with_reducible refine ne_str_same ?_ | refine ne_str_eq (by decide) ?_)
  | ((with_reducible show wpAny _ _ (subscriptTail _ _ (Value.ref _) (Value.int 0 _)) _ _ _); first | refine sub3_0 (by assumption) ?_ | refine sub2_0 (by assumption) ?_)
  | ((with_reducible show wpAny _ _ (subscriptTail _ _ (Value.ref _) (Value.int 1 _)) _ _ _); first | refine sub3_1 (by assumption) ?_ | refine sub2_1 (by assumption) ?_)
  | ((with_reducible show wpAny _ _ (subscriptTail _ _ (Value.ref _) (Value.int 2 _)) _ _ _); refine sub3_2 (by assumption) ?_)
  | ((fail_if_success (first | with_reducible show wpAny _ _ (call _ _ _) _ _ _ | with_reducible show wpAny _ _ (eval (Expr.Name (Str.ofString "script") _) _) _ _ _ | with_reducible show wpAny _ _ (eval (Expr.ListComp _ _ _ _) _) _ _ _ | with_reducible show wpAny _ _ (compareOp _ (Value.ref _) _) _ _ _ | with_reducible show wpAny _ _ (compareOp _ _ (Value.ref _)) _ _ _ | with_reducible show wpAny _ _ (getAttr (Value.ref _) _ _) _ _ _ | with_reducible show wpAny _ _ (subscriptTail _ _ _ _) _ _ _ | with_reducible show wpAny _ _ (binaryOp _ (Value.ref _) _) _ _ _)); (first | with_reducible show wpAny _ _ _ _ _ _ | with_reducible show (if _ then _ else _)); walk1)))
local macro_rules | `(tactic| kln_le) => `(tactic| repeat' (first
  | ((with_reducible show wpAny _ _ (eval (Expr.Name _ _) _) _ _ _); refine cm_L (by assumption) (by assumption) rfl ?_)
  | ((with_reducible show wpAny _ _ (eval (Expr.Name (Str.ofString "script") _) _) _ _ _); refine cm_C (by assumption) rfl rfl ?_)
  | ((with_reducible show wpAny _ _ (eval (Expr.Name _ _) _) _ _ _); refine cm_G (by assumption) (by k_is) rfl ?_)
  | ((with_reducible show wpAny _ _ (eval (Expr.Name _ _) _) _ _ _); fail "a name")
  | ((with_reducible show wpAny _ _ (subscriptTail _ _ (Value.ref _) (Value.int 0 _)) _ _ _); refine sub3_0 (by assumption) ?_)
  | ((with_reducible show wpAny _ _ (subscriptTail _ _ (Value.ref _) (Value.int 1 _)) _ _ _); refine sub3_1 (by assumption) ?_)
  | ((with_reducible show wpAny _ _ (subscriptTail _ _ (Value.ref _) (Value.int 2 _)) _ _ _); refine sub3_2 (by assumption) ?_)
  | ((fail_if_success (first | with_reducible show wpAny _ _ (call _ _ _) _ _ _ | with_reducible show wpAny _ _ (eval (Expr.ListComp _ _ _ _) _) _ _ _ | with_reducible show wpAny _ _ (eval (Expr.Name _ _) _) _ _ _ | with_reducible show wpAny _ _ (compareOp _ (Value.ref _) _) _ _ _ | with_reducible show wpAny _ _ (compareOp _ _ (Value.ref _)) _ _ _ | with_reducible show wpAny _ _ (getAttr (Value.ref _) _ _) _ _ _ | with_reducible show wpAny _ _ (subscriptTail _ _ _ _) _ _ _ | with_reducible show wpAny _ _ (binaryOp _ (Value.ref _) _) _ _ _)); (first | with_reducible show wpAny _ _ _ _ _ _ | with_reducible show (if _ then _ else _)); walk1)))
theorem st13 {Q : Flow → Shared → Prop} {E : Value → Shared → Prop} {q1 : Addr} {d1 : Trip} (l : LF w S L B m s) (hA : Sm 19 A) (hfr : A.frames = some [lawEnv L])
    (hm0 : m (Str.ofString "first") = some (.ref q1)) (hq1 : B.get? q1 = some (tupObj d1.items)) (ok1 : d1.ok)
    (h : ∀ m' s', LF w S L B m' s' → (∀ x, x ≠ Str.ofString "bad" → m' x = m x) → Q .next s') :
    wpAny (M w) A (exec (lawStmt 13) (lawEnv L)) Q E s := by
  conv in (lawStmt 13) => whnf
  have X := l.X
  obtain ⟨_, _, _, TT⟩ := l.T
  have F := l.F
  obtain ⟨⟨c0, c1⟩, ⟨f0, f1⟩, n0, n1⟩ := id ok1
  refine law_for (S := S) (m := m) (fun m' => ∀ x, x ≠ Str.ofString "bad" → m' x = m x) (via (fun v s' => ∃ qq r1 r2, v = .ref qq ∧ LF w S L B m s' ∧ s'.heap.get? qq = some (tupObj [.int (-1) r1, .int (-d1.n - 1) r2])) (fun Q' hQ' => ?_) (fun v s₁ hv => ?_))
  · clear h
    have e1 := l.base _ _ hq1
    kwd_rel
    exact law_tup l fun qq s₁ l k h => hQ' _ _ ⟨qq, _, _, rfl, l, h⟩
  obtain ⟨qq, r1, r2, rfl, l, hq⟩ := hv
  refine ⟨B, 2, _, l, src_tup (items := #[.int (-1) r1, .int (-d1.n - 1) r2]) hA.handled ⟨_, hq, rfl, _, rfl⟩, by intro _ _; first | trivial | rfl, ?_, h⟩
  intro i v B₂ m₂ s₃ E' hi hv l hb hJ
  obtain ⟨k, tk, rfl, k1, k2⟩ : ∃ k tk, v = .int k tk ∧ -(10 ^ 40) ≤ k ∧ k < 0 := by
    match i, hi, hv with
    | 0, _, hv => cases hv; exact ⟨_, _, rfl, by decide, by decide⟩
    | 1, _, hv => cases hv; exact ⟨_, _, rfl, by omega, by omega⟩
  refine wpAny_assign_Name (law_st l fun s₄ l _ => ?_)
  have hm0 : m₂ (Str.ofString "first") = some (.ref q1) := (hJ _ (by decide)).trans hm0
  have hq1 := hb _ _ hq1
  refine wpAny_execs_cons ?_
  refine wpAny_Try_except ?_
  refine wpAny_execs_cons ?_
  have e1 := l.base _ _ hq1
  have F := l.F
  kwd_rel
  refine ⟨l.cx.X, ?_⟩
  refine tag_bad (L := L) (B := B₂) (by exact l.cx) (hA.lower (by omega)) k1 k2 hfr l.base l.off l.F.ns fun e s' fl => ?_
  refine law_catch hfr l.tk fl exm_Asn (fun C h => cm_G C (by k_is) rfl h) fun a s'' _ l => ?_
  refine wpAny_execs_cons (wpAny_Pass (wpAny_execs_nil ?_))
  refine wpAny_execs_nil ⟨rfl, _, _, l, fun _ _ e => e, fun x h1 => ?_⟩
  rw [if_neg h1]
  exact hJ x h1
end
end Mine
end
section
set_option maxRecDepth 100000
set_option maxHeartbeats 4000000
open PySem PySem.W PyProof.Rows
namespace Mine
open PyProof.Rows.LCg (lst lst_snoc)
theorem lawBody : lawText.1 = [lawStmt 0, lawStmt 1, lawStmt 2, lawStmt 3, lawStmt 4, lawStmt 5, lawStmt 6, lawStmt 7, lawStmt 8, lawStmt 9, lawStmt 10, lawStmt 11, lawStmt 12, lawStmt 13, lawStmt 14, lawStmt 15, lawStmt 16, lawStmt 17, lawStmt 18, lawStmt 19, lawStmt 20, lawStmt 21, lawStmt 22, lawStmt 23, lawStmt 24, lawStmt 25, lawStmt 26, lawStmt 27, lawStmt 28, lawStmt 29, lawStmt 30, lawStmt 31, lawStmt 32, lawStmt 33] := by rfl
theorem Scr.keep {S : Shared} {L : Addr} {B B' : Heap} {sl : Addr} {vs : List Value} {ns : List Int} (c : Scr S L B sl vs ns) (hb : ∀ b o, B.get? b = some o → B'.get? b = some o) : Scr S L B' sl vs ns := ⟨c.cell.keeps hb, c.list, c.hi, c.hn⟩
theorem upd {w : World} {S s : Shared} {L : Addr} {B : Heap} {m : Str → Option Value} {x : Str} {v : Value} (l : LF w S L B (fun y => if y = x then some v else m y) s) : ∃ m', LF w S L B m' s ∧ m' x = some v ∧ ∀ y, y ≠ x → m' y = m y :=
  ⟨_, l, if_pos rfl, fun _ h => if_neg h⟩
@[irreducible] def Laws (w : World) (A : Around) (ks : List Stmt) (L : Addr) (Q : Flow → Shared → Prop) (E : Value → Shared → Prop) (s : Shared) : Prop := wpAny (M w) A (execs ks (lawEnv L)) Q E s
section
variable {w : World} {A : Around} {s : Shared} {L : Addr} {k : Nat} {rest : List Stmt} {Q : Flow → Shared → Prop} {E : Value → Shared → Prop}
theorem Laws.out {ks : List Stmt} (h : Laws w A ks L Q E s) : wpAny (M w) A (execs ks (lawEnv L)) Q E s := by
  unfold Laws at h
  exact h
theorem Laws.step (h : wpAny (M w) A (exec (lawStmt k) (lawEnv L)) (fun f s' => match f with | .next => Laws w A rest L Q E s' | f => Q f s') E s) : Laws w A (lawStmt k :: rest) L Q E s := by
  unfold Laws at h
  unfold Laws
  exact wpAny_execs_cons h
theorem Laws.shut (h : Law w A k L (fun f s' => match f with | .next => Laws w A rest L Q E s' | f => Q f s') E s) : Laws w A (lawStmt k :: rest) L Q E s := by
  unfold Law at h
  exact Laws.step h
end
theorem law_walk {w : World} {A : Around} {S s : Shared} {L : Addr} {B : Heap} {m : Str → Option Value} {sl : Addr} {vs : List Value} {ns : List Int} {Q : Flow → Shared → Prop} {E : Value → Shared → Prop} (l : LF w S L B m s) (c : Scr S L B sl vs ns) (hA : Sm 19 A) (hfr : A.frames = some [lawEnv L])
    (h : ∀ B' m' s', LF w S L B' m' s' → Q (.ret (.bool true)) s') : wpAny (M w) A (execs lawText.1 (lawEnv L)) Q E s := by
  rw [lawBody]
  refine Laws.out ?_
  refine Laws.step (st0 l c hA fun s q1 c1 f1 n1 t11 t12 t13 l hq1 okc1 okf1 okn1 => ?_)
  have hb := l.up.2
  have hq1 := l.obj hq1 (by intro es n q; cases q)
  replace l := l.up.1
  have c := Scr.keep c hb
  clear hb
  obtain ⟨m, l, n_first, hm⟩ := upd l
  clear hm
  refine Laws.step (st1 l c hA fun s q2 c2 f2 n2 t21 t22 t23 l hq2 okc2 okf2 okn2 => ?_)
  have hb := l.up.2
  have hq2 := l.obj hq2 (by intro es n q; cases q)
  replace l := l.up.1
  have hq1 := hb _ _ hq1
  have c := Scr.keep c hb
  clear hb
  obtain ⟨m, l, n_second, hm⟩ := upd l
  have n_first := (hm (Str.ofString "first") (by decide)).trans n_first
  clear hm
  have ok1 : Trip.ok ⟨c1, f1, n1, t11, t12, t13⟩ := ⟨okc1, okf1, okn1⟩
  have ok2 : Trip.ok ⟨c2, f2, n2, t21, t22, t23⟩ := ⟨okc2, okf2, okn2⟩
  refine Laws.step (st2 l hA n_first n_second hq1 hq2 okn1.1 okn2.1 fun B m s a b p q l hb T1 T2 n_one n_other hm => ?_)
  have hq1 := hb _ _ hq1
  have hq2 := hb _ _ hq2
  have c := Scr.keep c hb
  have n_first := (hm (Str.ofString "first") (by decide) (by decide)).trans n_first
  have n_second := (hm (Str.ofString "second") (by decide) (by decide)).trans n_second
  clear hm hb
  refine Laws.step (st3 (d1 := ⟨c1, f1, n1, t11, t12, t13⟩) (d2 := ⟨c2, f2, n2, t21, t22, t23⟩) l hA hfr n_first n_one n_other n_second T1 T2 hq1 hq2 ok1 ok2 fun m s l hm => ?_)
  have n_first := (hm (Str.ofString "first") (by decide) (by decide) (by decide) (by decide) (by decide)).trans n_first
  have n_second := (hm (Str.ofString "second") (by decide) (by decide) (by decide) (by decide) (by decide)).trans n_second
  have n_one := (hm (Str.ofString "one") (by decide) (by decide) (by decide) (by decide) (by decide)).trans n_one
  have n_other := (hm (Str.ofString "other") (by decide) (by decide) (by decide) (by decide) (by decide)).trans n_other
  clear hm
  refine Laws.step (st4 l hA n_first n_one n_other T1 T2 okn1.1 okn2.1 fun B s dl r0 x01 x02 x03 l hb TL => ?_)
  have hq1 := hb _ _ hq1
  have hq2 := hb _ _ hq2
  have c := Scr.keep c hb
  have T1 := T1.keep hb
  have T2 := T2.keep hb
  clear hb
  obtain ⟨m, l, n_low, hm⟩ := upd l
  have n_first := (hm (Str.ofString "first") (by decide)).trans n_first
  have n_second := (hm (Str.ofString "second") (by decide)).trans n_second
  have n_one := (hm (Str.ofString "one") (by decide)).trans n_one
  have n_other := (hm (Str.ofString "other") (by decide)).trans n_other
  clear hm
  refine Laws.step (st5 l hA n_first n_one n_other T1 T2 okn1.1 okn2.1 fun B s dh r1 x11 x12 x13 l hb TH => ?_)
  have hq1 := hb _ _ hq1
  have hq2 := hb _ _ hq2
  have c := Scr.keep c hb
  have T1 := T1.keep hb
  have T2 := T2.keep hb
  have TL := TL.keep hb
  clear hb
  obtain ⟨m, l, n_high, hm⟩ := upd l
  have n_first := (hm (Str.ofString "first") (by decide)).trans n_first
  have n_second := (hm (Str.ofString "second") (by decide)).trans n_second
  have n_one := (hm (Str.ofString "one") (by decide)).trans n_one
  have n_other := (hm (Str.ofString "other") (by decide)).trans n_other
  have n_low := (hm (Str.ofString "low") (by decide)).trans n_low
  clear hm
  refine Laws.step (st6 l hA n_low n_high TL TH fun s l => ?_)
  refine Laws.step (st7 l hA n_low n_first n_second hq1 hq2 TL fun s l => ?_)
  refine Laws.step (st8 l hA n_high n_first n_second hq1 hq2 TH fun s l => ?_)
  refine Laws.step (st9 l n_first n_second hq1 hq2 fun B s pl p1 p2 l hb hpl P1 P2 => ?_)
  have hq1 := hb _ _ hq1
  have hq2 := hb _ _ hq2
  have c := Scr.keep c hb
  have T1 := T1.keep hb
  have T2 := T2.keep hb
  have TL := TL.keep hb
  have TH := TH.keep hb
  clear hb
  obtain ⟨m, l, n_pairs, hm⟩ := upd l
  have n_first := (hm (Str.ofString "first") (by decide)).trans n_first
  have n_second := (hm (Str.ofString "second") (by decide)).trans n_second
  have n_one := (hm (Str.ofString "one") (by decide)).trans n_one
  have n_other := (hm (Str.ofString "other") (by decide)).trans n_other
  have n_low := (hm (Str.ofString "low") (by decide)).trans n_low
  have n_high := (hm (Str.ofString "high") (by decide)).trans n_high
  clear hm
  refine Laws.step (st10 l hA n_one n_other n_pairs T1 T2 hpl P1 P2 fun s l => ?_)
  refine Laws.step (st11 l hA n_first n_one hq1 T1 okn1.1 fun s l => ?_)
  refine Laws.step (st12 (c2 := 0) (n2 := 0) l hA n_first n_one n_pairs hq1 T1 hpl P1 fun s l => ?_)
  refine Laws.step (st13 (d1 := ⟨c1, f1, n1, t11, t12, t13⟩) l hA hfr n_first hq1 ok1 fun m s l hm => ?_)
  have n_first := (hm (Str.ofString "first") (by decide)).trans n_first
  have n_second := (hm (Str.ofString "second") (by decide)).trans n_second
  have n_one := (hm (Str.ofString "one") (by decide)).trans n_one
  have n_other := (hm (Str.ofString "other") (by decide)).trans n_other
  have n_low := (hm (Str.ofString "low") (by decide)).trans n_low
  have n_high := (hm (Str.ofString "high") (by decide)).trans n_high
  have n_pairs := (hm (Str.ofString "pairs") (by decide)).trans n_pairs
  clear hm
  refine Laws.step (st14 l c hA n_first fun B rl ys s l hb hr hlen hrows => ?_)
  have hq1 := hb _ _ hq1
  have hq2 := hb _ _ hq2
  have c := Scr.keep c hb
  have T1 := T1.keep hb
  have T2 := T2.keep hb
  have TL := TL.keep hb
  have TH := TH.keep hb
  have hpl := hb _ _ hpl
  have P1 := P1.keep hb
  have P2 := P2.keep hb
  clear hb
  obtain ⟨m, l, n_rows, hm⟩ := upd l
  have n_first := (hm (Str.ofString "first") (by decide)).trans n_first
  have n_second := (hm (Str.ofString "second") (by decide)).trans n_second
  have n_one := (hm (Str.ofString "one") (by decide)).trans n_one
  have n_other := (hm (Str.ofString "other") (by decide)).trans n_other
  have n_low := (hm (Str.ofString "low") (by decide)).trans n_low
  have n_high := (hm (Str.ofString "high") (by decide)).trans n_high
  have n_pairs := (hm (Str.ofString "pairs") (by decide)).trans n_pairs
  clear hm
  obtain ⟨ds, hR, hok⟩ := rows_of hrows
  clear hrows
  refine Laws.step (st15 l hA n_first n_rows hr hR hok hlen fun B tl zs s l hb ht hT => ?_)
  have hq1 := hb _ _ hq1
  have hq2 := hb _ _ hq2
  have c := Scr.keep c hb
  have T1 := T1.keep hb
  have T2 := T2.keep hb
  have TL := TL.keep hb
  have TH := TH.keep hb
  have hpl := hb _ _ hpl
  have P1 := P1.keep hb
  have P2 := P2.keep hb
  have hr := hb _ _ hr
  have hR := hR.mono fun v d h => RowIs.keep h hb
  clear hb
  obtain ⟨m, l, n_tags, hm⟩ := upd l
  have n_first := (hm (Str.ofString "first") (by decide)).trans n_first
  have n_second := (hm (Str.ofString "second") (by decide)).trans n_second
  have n_one := (hm (Str.ofString "one") (by decide)).trans n_one
  have n_other := (hm (Str.ofString "other") (by decide)).trans n_other
  have n_low := (hm (Str.ofString "low") (by decide)).trans n_low
  have n_high := (hm (Str.ofString "high") (by decide)).trans n_high
  have n_pairs := (hm (Str.ofString "pairs") (by decide)).trans n_pairs
  have n_rows := (hm (Str.ofString "rows") (by decide)).trans n_rows
  clear hm
  have hlz : zs.length ≤ 4 := by have e1 := hR.1; have e2 := hT.1; omega
  have hlyz : ys.length = zs.length := by rw [hR.1, hT.1]
  have hld : ds.length ≤ 4 := by have e1 := hR.1; omega
  refine Laws.step (st16 l hA n_one n_tags ht hT hlz n_first fun B s d l hb H => ?_)
  have hq1 := hb _ _ hq1
  have hq2 := hb _ _ hq2
  have c := Scr.keep c hb
  have T1 := T1.keep hb
  have T2 := T2.keep hb
  have TL := TL.keep hb
  have TH := TH.keep hb
  have hpl := hb _ _ hpl
  have P1 := P1.keep hb
  have P2 := P2.keep hb
  have hr := hb _ _ hr
  have hR := hR.mono fun v d h => RowIs.keep h hb
  have ht := hb _ _ ht
  have hT := hT.mono fun v d h => TagV.keep h hb
  clear hb
  obtain ⟨m, l, n_made, hm⟩ := upd l
  have n_first := (hm (Str.ofString "first") (by decide)).trans n_first
  have n_second := (hm (Str.ofString "second") (by decide)).trans n_second
  have n_one := (hm (Str.ofString "one") (by decide)).trans n_one
  have n_other := (hm (Str.ofString "other") (by decide)).trans n_other
  have n_low := (hm (Str.ofString "low") (by decide)).trans n_low
  have n_high := (hm (Str.ofString "high") (by decide)).trans n_high
  have n_pairs := (hm (Str.ofString "pairs") (by decide)).trans n_pairs
  have n_rows := (hm (Str.ofString "rows") (by decide)).trans n_rows
  have n_tags := (hm (Str.ofString "tags") (by decide)).trans n_tags
  clear hm
  refine Laws.step (st17 l hA n_other n_tags ht hT hlz n_first fun B s dt l hb H2 => ?_)
  have hq1 := hb _ _ hq1
  have hq2 := hb _ _ hq2
  have c := Scr.keep c hb
  have T1 := T1.keep hb
  have T2 := T2.keep hb
  have TL := TL.keep hb
  have TH := TH.keep hb
  have hpl := hb _ _ hpl
  have P1 := P1.keep hb
  have P2 := P2.keep hb
  have hr := hb _ _ hr
  have hR := hR.mono fun v d h => RowIs.keep h hb
  have ht := hb _ _ ht
  have hT := hT.mono fun v d h => TagV.keep h hb
  have H := H.keep hb
  clear hb
  obtain ⟨m, l, n_twin, hm⟩ := upd l
  have n_first := (hm (Str.ofString "first") (by decide)).trans n_first
  have n_second := (hm (Str.ofString "second") (by decide)).trans n_second
  have n_one := (hm (Str.ofString "one") (by decide)).trans n_one
  have n_other := (hm (Str.ofString "other") (by decide)).trans n_other
  have n_low := (hm (Str.ofString "low") (by decide)).trans n_low
  have n_high := (hm (Str.ofString "high") (by decide)).trans n_high
  have n_pairs := (hm (Str.ofString "pairs") (by decide)).trans n_pairs
  have n_rows := (hm (Str.ofString "rows") (by decide)).trans n_rows
  have n_tags := (hm (Str.ofString "tags") (by decide)).trans n_tags
  have n_made := (hm (Str.ofString "made") (by decide)).trans n_made
  clear hm
  refine Laws.step (st18 l hA n_rows hr hR hlen fun B s pv l hb hp => ?_)
  have hq1 := hb _ _ hq1
  have hq2 := hb _ _ hq2
  have c := Scr.keep c hb
  have T1 := T1.keep hb
  have T2 := T2.keep hb
  have TL := TL.keep hb
  have TH := TH.keep hb
  have hpl := hb _ _ hpl
  have P1 := P1.keep hb
  have P2 := P2.keep hb
  have hr := hb _ _ hr
  have hR := hR.mono fun v d h => RowIs.keep h hb
  have ht := hb _ _ ht
  have hT := hT.mono fun v d h => TagV.keep h hb
  have H := H.keep hb
  have H2 := H2.keep hb
  clear hb
  obtain ⟨m, l, n_plain, hm⟩ := upd l
  have n_first := (hm (Str.ofString "first") (by decide)).trans n_first
  have n_second := (hm (Str.ofString "second") (by decide)).trans n_second
  have n_one := (hm (Str.ofString "one") (by decide)).trans n_one
  have n_other := (hm (Str.ofString "other") (by decide)).trans n_other
  have n_low := (hm (Str.ofString "low") (by decide)).trans n_low
  have n_high := (hm (Str.ofString "high") (by decide)).trans n_high
  have n_pairs := (hm (Str.ofString "pairs") (by decide)).trans n_pairs
  have n_rows := (hm (Str.ofString "rows") (by decide)).trans n_rows
  have n_tags := (hm (Str.ofString "tags") (by decide)).trans n_tags
  have n_made := (hm (Str.ofString "made") (by decide)).trans n_made
  have n_twin := (hm (Str.ofString "twin") (by decide)).trans n_twin
  clear hm
  refine Laws.step (st19 l hA n_made n_one n_first n_tags n_rows H T1 hq1 ht hr hlyz hlz fun s l => ?_)
  refine Laws.step (st20 l hA n_made n_rows H hr hR hlz fun m s l hm => ?_)
  have n_first := (hm (Str.ofString "first") (by decide)).trans n_first
  have n_second := (hm (Str.ofString "second") (by decide)).trans n_second
  have n_one := (hm (Str.ofString "one") (by decide)).trans n_one
  have n_other := (hm (Str.ofString "other") (by decide)).trans n_other
  have n_low := (hm (Str.ofString "low") (by decide)).trans n_low
  have n_high := (hm (Str.ofString "high") (by decide)).trans n_high
  have n_pairs := (hm (Str.ofString "pairs") (by decide)).trans n_pairs
  have n_rows := (hm (Str.ofString "rows") (by decide)).trans n_rows
  have n_tags := (hm (Str.ofString "tags") (by decide)).trans n_tags
  have n_made := (hm (Str.ofString "made") (by decide)).trans n_made
  have n_twin := (hm (Str.ofString "twin") (by decide)).trans n_twin
  have n_plain := (hm (Str.ofString "plain") (by decide)).trans n_plain
  clear hm
  refine Laws.shut (st21 l c hA n_first n_made n_one n_rows T1 H hr hR hlz fun m s l hm => ?_)
  have n_first := (hm (Str.ofString "first") (by decide) (by decide) (by decide)).trans n_first
  have n_second := (hm (Str.ofString "second") (by decide) (by decide) (by decide)).trans n_second
  have n_one := (hm (Str.ofString "one") (by decide) (by decide) (by decide)).trans n_one
  have n_other := (hm (Str.ofString "other") (by decide) (by decide) (by decide)).trans n_other
  have n_pairs := (hm (Str.ofString "pairs") (by decide) (by decide) (by decide)).trans n_pairs
  have n_rows := (hm (Str.ofString "rows") (by decide) (by decide) (by decide)).trans n_rows
  have n_tags := (hm (Str.ofString "tags") (by decide) (by decide) (by decide)).trans n_tags
  have n_made := (hm (Str.ofString "made") (by decide) (by decide) (by decide)).trans n_made
  have n_twin := (hm (Str.ofString "twin") (by decide) (by decide) (by decide)).trans n_twin
  have n_plain := (hm (Str.ofString "plain") (by decide) (by decide) (by decide)).trans n_plain
  clear hm
  refine Laws.step (st22 l hA n_first n_made n_other T2 H hlz fun B s cb l hb HB => ?_)
  have hq1 := hb _ _ hq1
  have hq2 := hb _ _ hq2
  have c := Scr.keep c hb
  have T1 := T1.keep hb
  have T2 := T2.keep hb
  have TL := TL.keep hb
  have TH := TH.keep hb
  have hpl := hb _ _ hpl
  have P1 := P1.keep hb
  have P2 := P2.keep hb
  have hr := hb _ _ hr
  have hR := hR.mono fun v d h => RowIs.keep h hb
  have ht := hb _ _ ht
  have hT := hT.mono fun v d h => TagV.keep h hb
  have H := H.keep hb
  have H2 := H2.keep hb
  have hp := hp.keep hb
  clear hb
  obtain ⟨m, l, n_behind, hm⟩ := upd l
  have n_first := (hm (Str.ofString "first") (by decide)).trans n_first
  have n_second := (hm (Str.ofString "second") (by decide)).trans n_second
  have n_one := (hm (Str.ofString "one") (by decide)).trans n_one
  have n_other := (hm (Str.ofString "other") (by decide)).trans n_other
  have n_pairs := (hm (Str.ofString "pairs") (by decide)).trans n_pairs
  have n_rows := (hm (Str.ofString "rows") (by decide)).trans n_rows
  have n_tags := (hm (Str.ofString "tags") (by decide)).trans n_tags
  have n_made := (hm (Str.ofString "made") (by decide)).trans n_made
  have n_twin := (hm (Str.ofString "twin") (by decide)).trans n_twin
  have n_plain := (hm (Str.ofString "plain") (by decide)).trans n_plain
  clear hm
  refine Laws.step (st23 l hA n_first n_made n_other T2 H hlz fun B s cf l hb HF => ?_)
  have hq1 := hb _ _ hq1
  have hq2 := hb _ _ hq2
  have c := Scr.keep c hb
  have T1 := T1.keep hb
  have T2 := T2.keep hb
  have TL := TL.keep hb
  have TH := TH.keep hb
  have hpl := hb _ _ hpl
  have P1 := P1.keep hb
  have P2 := P2.keep hb
  have hr := hb _ _ hr
  have hR := hR.mono fun v d h => RowIs.keep h hb
  have ht := hb _ _ ht
  have hT := hT.mono fun v d h => TagV.keep h hb
  have H := H.keep hb
  have H2 := H2.keep hb
  have hp := hp.keep hb
  have HB := HB.keep hb
  clear hb
  obtain ⟨m, l, n_before, hm⟩ := upd l
  have n_first := (hm (Str.ofString "first") (by decide)).trans n_first
  have n_second := (hm (Str.ofString "second") (by decide)).trans n_second
  have n_one := (hm (Str.ofString "one") (by decide)).trans n_one
  have n_other := (hm (Str.ofString "other") (by decide)).trans n_other
  have n_pairs := (hm (Str.ofString "pairs") (by decide)).trans n_pairs
  have n_rows := (hm (Str.ofString "rows") (by decide)).trans n_rows
  have n_tags := (hm (Str.ofString "tags") (by decide)).trans n_tags
  have n_made := (hm (Str.ofString "made") (by decide)).trans n_made
  have n_twin := (hm (Str.ofString "twin") (by decide)).trans n_twin
  have n_plain := (hm (Str.ofString "plain") (by decide)).trans n_plain
  have n_behind := (hm (Str.ofString "behind") (by decide)).trans n_behind
  clear hm
  refine Laws.step (st24 (b := b) l hA n_made n_behind n_before n_rows H HB HF hr hlyz hlz fun s l => ?_)
  refine Laws.step (st25 l hA n_behind n_one n_second n_plain HB T1 hq2 hp (by rw [List.length_append]; show zs.length + 1 ≤ 5; omega) hld fun s l => ?_)
  refine Laws.step (st26 l hA n_before n_one n_second n_plain HF T1 hq2 hp (by show zs.length + 1 ≤ 5; omega) hld fun s l => ?_)
  refine Laws.step (st27 l hA n_made n_twin n_plain H H2 hp hld fun s l => ?_)
  refine Laws.step (st28 l hA n_made n_plain H hp hld fun s l => ?_)
  refine Laws.shut (st29 l hA n_rows hr hR hok hlen fun s ts l => ?_)
  obtain ⟨m, l, n_said, hm⟩ := upd l
  have n_first := (hm (Str.ofString "first") (by decide)).trans n_first
  have n_second := (hm (Str.ofString "second") (by decide)).trans n_second
  have n_one := (hm (Str.ofString "one") (by decide)).trans n_one
  have n_other := (hm (Str.ofString "other") (by decide)).trans n_other
  have n_pairs := (hm (Str.ofString "pairs") (by decide)).trans n_pairs
  have n_rows := (hm (Str.ofString "rows") (by decide)).trans n_rows
  have n_tags := (hm (Str.ofString "tags") (by decide)).trans n_tags
  have n_made := (hm (Str.ofString "made") (by decide)).trans n_made
  have n_twin := (hm (Str.ofString "twin") (by decide)).trans n_twin
  have n_plain := (hm (Str.ofString "plain") (by decide)).trans n_plain
  have n_behind := (hm (Str.ofString "behind") (by decide)).trans n_behind
  have n_before := (hm (Str.ofString "before") (by decide)).trans n_before
  clear hm
  refine Laws.step (st30 l hA n_rows n_made n_said H hr hR.1 hok hlen fun s l => ?_)
  refine Laws.step (st31 l hA fun s l => ?_)
  refine Laws.step (st32 l hA n_first n_one T1 fun B s co l hb HO => ?_)
  have hq1 := hb _ _ hq1
  have hq2 := hb _ _ hq2
  have c := Scr.keep c hb
  have T1 := T1.keep hb
  have T2 := T2.keep hb
  have TL := TL.keep hb
  have TH := TH.keep hb
  have hpl := hb _ _ hpl
  have P1 := P1.keep hb
  have P2 := P2.keep hb
  have hr := hb _ _ hr
  have hR := hR.mono fun v d h => RowIs.keep h hb
  have ht := hb _ _ ht
  have hT := hT.mono fun v d h => TagV.keep h hb
  have H := H.keep hb
  have H2 := H2.keep hb
  have hp := hp.keep hb
  have HB := HB.keep hb
  have HF := HF.keep hb
  clear hb
  obtain ⟨m, l, n_only, hm⟩ := upd l
  have n_first := (hm (Str.ofString "first") (by decide)).trans n_first
  have n_second := (hm (Str.ofString "second") (by decide)).trans n_second
  have n_one := (hm (Str.ofString "one") (by decide)).trans n_one
  have n_other := (hm (Str.ofString "other") (by decide)).trans n_other
  have n_pairs := (hm (Str.ofString "pairs") (by decide)).trans n_pairs
  have n_rows := (hm (Str.ofString "rows") (by decide)).trans n_rows
  have n_tags := (hm (Str.ofString "tags") (by decide)).trans n_tags
  have n_made := (hm (Str.ofString "made") (by decide)).trans n_made
  have n_twin := (hm (Str.ofString "twin") (by decide)).trans n_twin
  have n_plain := (hm (Str.ofString "plain") (by decide)).trans n_plain
  have n_behind := (hm (Str.ofString "behind") (by decide)).trans n_behind
  have n_before := (hm (Str.ofString "before") (by decide)).trans n_before
  have n_said := (hm (Str.ofString "said") (by decide)).trans n_said
  clear hm
  refine Laws.step (st33 l hA n_only n_one n_pairs T1 HO hpl P1 fun s l => ?_)
  exact h _ _ _ l
end Mine
end
section
set_option maxRecDepth 100000
set_option maxHeartbeats 4000000
open PySem PySem.W PyProof.Rows
namespace Mine
theorem law_holds : PySem.Challenge.rw_gr5021_01.Holds := hd (by
  k_fill
  intro w s₀ s₁ mg mb G Y fa o pm cd doc dV kV ho hdd hcd hD hmg hg args vals as hpre hlay hrd hwl hlo
  have KX := kIn_of Y
  have X := (Ground.X G).1
  have V := (Ground.X G).2
  have e1 : nsIn (hd.heap_39 w.params) mainGlobals (Str.ofString "law") = some (some (.ref 377)) := by k_is
  refine Ground.open G ?_
  intro T B D TE TW
  have hfa : fa = 377 := by
    have := mg_of KX T.g e1
    have q : mg (Str.ofString "law") = some (.ref fa) := hmg
    rw [q] at this
    exact Value.ref.inj (Option.some.inj this)
  subst hfa
  clear hmg
  wrow_args hpre hlay hrd hwl hlo
  rename_i ns _ _ _ _ _ _ _ sl vs _ hL _ _ _ hI _ hfit _
  refine enter_call ?_
  have he := Dflts.none hD rfl
  subst he
  have he := Dflts.noKw hD
  subst he
  have hK := KX 377 _ rfl
  have hcd' : cd = .ref 376 := by
    rw [ho] at hK
    cases hK
    injection hdd with hdd
    exact (congrArg FuncData.code hdd).symm
  subst hcd'
  refine call_cellsN (by decide) ho (fd_plain hdd) (Top.nolimit T) hcd rfl (kinds_of (by kinds_ok)) (by decide) fun h₁ tk₁ cells F N0 X0 => ?_
  cells_open X0
  rename_i wc hwc
  have l : LF w s₁ s₁.heap.objs.size s₁.heap _ ⟨h₁, s₁.gens, s₁.drawn, tk₁, s₁.os⟩ := ⟨F, KX, ⟨_, _, _, T⟩, fun _ _ e => e, F.keep, Heap.get?_none_of_le (Nat.le_refl _), by rw [hg]; exact (fun _ h => by simp at h), rfl, rfl⟩
  have l := l.up.1
  have c : Scr s₁ s₁.heap.objs.size (off h₁ s₁.heap.objs.size) sl vs ns := ⟨⟨wc, by rw [off_get (Nat.succ_ne_self _)]; exact (N0 _ (.head _)).1, hwc⟩, hL, hI, by omega⟩
  refine law_walk l c ⟨rfl, by show 302 + 10 * 19 ≤ 500; decide, by show 7 + 100 * 19 ≤ 5000; decide⟩ rfl fun B' m' s' l => ?_
  refine ⟨.inl ⟨.bool true, _, [], rfl, raisesW_false (by wrow_none_raised), readsW_of_reads (.bool true), postW_of (by wrow_shape) (by wtm_val) ?_, unshared_nil⟩, .of_keep l.F.keep, l.os, l.bare⟩
  rfl)
end Mine
end
theorem PySem.Challenge.cw_gr5021_01_holds : PySem.Challenge.rw_gr5021_01.Holds :=
  Mine.law_holds
