import PyProof.Rows.All
import Wide.All
import OpenK.AllK
import Wide.FinOn
import PySem.Challenge.RW_mr0288_01
open PySem PySem.W PyProof.Rows PySem.Calls PySem.Spec
set_option Elab.async false
namespace Mine
set_option maxRecDepth 100000
set_option maxHeartbeats 8000000
open_top hd for PySem.Challenge.rw_mr0288_01
end Mine
namespace Mine
set_option maxHeartbeats 2000000
set_option maxHeartbeats 2000000
set_option maxRecDepth 100000
set_option linter.unusedVariables false
set_option linter.unusedSimpArgs false
/-- the proof that a rule looks for by itself where none is given: one for all rules -/
def kr : Lean.Syntax := .node .none `Lean.Parser.Tactic.tacticSeq #[.node .none `Lean.Parser.Tactic.tacticSeq1Indented #[.node .none `null #[.node .none `tacticKernel_rfl #[Lean.mkAtom "kernel_rfl"]]]]
def kq : Lean.Syntax := .node .none `Lean.Parser.Tactic.tacticSeq #[.node .none `Lean.Parser.Tactic.tacticSeq1Indented #[.node .none `null #[.node .none `Lean.Parser.Tactic.tacticRfl #[Lean.mkAtom "rfl"]]]]
/-- a statement's end, its rest out of sight -/
structure Then (M : Model) (A : Around) (rest : List Stmt) (env : Env) (Q : Flow → Shared → Prop) (E : Value → Shared → Prop) (Q' : Flow → Shared → Prop) : Prop where
  nx : ∀ s, wpAny M A (execs rest env) Q E s → Q' .next s
  ret : ∀ v s, Q (.ret v) s → Q' (.ret v) s
  brk : ∀ s, Q .brk s → Q' .brk s
  cont : ∀ s, Q .cont s → Q' .cont s
theorem W_cons {M : Model} {A : Around} {st : Stmt} {rest : List Stmt} {env : Env} {Q : Flow → Shared → Prop} {E : Value → Shared → Prop} {s : Shared}
    (h : ∀ Q', Then M A rest env Q E Q' → wpAny M A (exec st env) Q' E s) : wpAny M A (execs (st :: rest) env) Q E s :=
  wpAny_execs_cons (h _ ⟨fun _ z => z, fun _ _ z => z, fun _ z => z, fun _ z => z⟩)
/-- a turn's end, the invariant out of sight -/
structure Turn (P : Shared → Prop) (RR : Result → Shared → Prop) (Q' : Flow → Shared → Prop) : Prop where
  nx : ∀ s, P s → Q' .next s
  cont : ∀ s, P s → Q' .cont s
  brk : ∀ s, RR (.ok .next) s → Q' .brk s
  ret : ∀ v s, RR (.ok (.ret v)) s → Q' (.ret v) s

/-- the goal out of sight, while a fact is taken apart -/
theorem hide {A : Prop} (h : ∀ G : Prop, (A → G) → G) : A := h A id
theorem ifT {c : Prop} [Decidable c] {a b : Prop} (h : c) (x : a) : if c then a else b := by rw [if_pos h]; exact x
theorem ifF {c : Prop} [Decidable c] {a b : Prop} (h : ¬c) (x : b) : if c then a else b := by rw [if_neg h]; exact x
/- small sums, told once -/
theorem rmL {a b k j : Nat} (hr : a + 1 = b) (hrm : k < b) (h : j < k) : j < a := by subst hr; exact Nat.lt_of_lt_of_le h (Nat.le_of_lt_succ hrm)
theorem rm0 {b k j : Nat} (hrm : k < b) (h : j ≤ k) : j < b := Nat.lt_of_le_of_lt h hrm
theorem le1 {a b d : Nat} (h : a ≤ b) (hc : b ≤ d) : a ≤ d := Nat.le_trans h hc
theorem le2 {a b c d : Nat} (e : a = b) (h : b ≤ c) (hc : c ≤ d) : a ≤ d := e ▸ Nat.le_trans h hc
theorem le4 {a b c d : Nat} (h : a ≤ b) (g : b ≤ c) (hc : c ≤ d) : a ≤ d := Nat.le_trans h (Nat.le_trans g hc)
theorem le6 {a b c d e : Nat} (q : a = b) (h : b ≤ c) (g : c < e) (hc : e ≤ d) : a ≤ d := q ▸ Nat.le_trans h (Nat.le_trans (Nat.le_of_lt g) hc)
theorem le7 {a b c : Nat} (h : a = b) (g : b ≤ c) : a ≤ c := h ▸ g
theorem lt1 {k a b : Nat} (e : a = b) (h : k < a) : k < b := e ▸ h
theorem lt2 {k a b : Nat} (e : a = b) (h : k < b) : k < a := e ▸ h
theorem in1 {k n : Nat} {N : Int} (h : k < n) (hn : n ≤ 1000000) (hN : (1000000 : Int) ≤ N) : (k : Int) < N := Int.lt_of_lt_of_le (Int.ofNat_lt.mpr (Nat.lt_of_lt_of_le h hn)) hN
theorem in2 {k l n : Nat} {N : Int} (h : k < l) (hl : l ≤ n) (hn : n ≤ 1000000) (hN : (1000000 : Int) ≤ N) : (k : Int) < N := in1 (Nat.lt_of_lt_of_le h hl) hn hN
theorem in3 {k n : Nat} {N : Int} (h : k ≤ n) (hn : n ≤ 1000000) (hN : (1000000 : Int) < N) : (k : Int) < N := Int.lt_of_le_of_lt (Int.ofNat_le.mpr (Nat.le_trans h hn)) hN
theorem in4 {k l n : Nat} {N : Int} (e : k = l) (h : l ≤ n) (hn : n ≤ 1000000) (hN : (1000000 : Int) < N) : (k : Int) < N := in3 (Nat.le_trans (Nat.le_of_eq e) h) hn hN
theorem mn1 {k a n N : Nat} (h : a ≤ n) (hn : n ≤ N) : min k a ≤ N := Nat.le_trans (Nat.min_le_right _ _) (Nat.le_trans h hn)
theorem mn2 {x k a n N : Nat} (g : x ≤ min k a) (h : a ≤ n) (hn : n ≤ N) : x ≤ N := Nat.le_trans g (mn1 h hn)
theorem sm1 {a b n N : Nat} (h : a ≤ n) (g : b ≤ n) (hn : n + n ≤ N) : a + b ≤ N := Nat.le_trans (Nat.add_le_add h g) hn
theorem of5 {i : Nat} (h : i < 5) : i = 0 ∨ i = 1 ∨ i = 2 ∨ i = 3 ∨ i = 4 := (by decide : ∀ i, i < 5 → (i = 0 ∨ i = 1 ∨ i = 2 ∨ i = 3 ∨ i = 4)) i h
theorem sub2 {x u r n N : Nat} (h : 0 < r) (a : x ≤ u + n) (b : u + n * r ≤ N) : x + n * (r - 1) ≤ N := by
  cases r with
  | zero => cases h
  | succ r => exact Nat.le_trans (Nat.add_le_add_right a _) (by rw [Nat.add_assoc, Nat.add_comm n]; exact b)
theorem mid1 {a w : Nat} (h : a < w) : a + (w - (a + 1)) + 1 = w := (Nat.add_right_comm _ _ _).trans (Nat.add_sub_of_le h)

noncomputable abbrev PR : Program := PySem.Challenge.rw_mr0288_01.row.prog
noncomputable abbrev Kw (w : World) : Frag := hd.heap_39 w.params
noncomputable abbrev ik (w : World) : PySem.KeyKind PR w Int := intKind PR w
abbrev Loc := Str → Option Value

/-- what is known of an object -/
inductive D where
  | lst (vs : List Value)
  | tup (vs : List Value)
  | dct (kvs : List (Int × Value)) (ep : Nat)
  | st (S : Int → Bool) (n : Nat)
  | ns (m : Loc) (n : Nat)
  | cell (v : Option Value)
  | ob (o : Obj)

noncomputable def D.tg : D → Nat
  | .lst _ => 0
  | .tup _ => 1
  | .dct .. => 2
  | .st .. => 3
  | .ns .. => 4
  | .cell _ => 5
  | .ob _ => 6
noncomputable def D.holds (w : World) : D → Obj → Prop
  | .lst vs, o => ∃ n, o = ({ cls := .type "list", data := .seq vs.toArray n } : Obj)
  | .tup vs, o => ∃ n, o = ({ cls := .type "tuple", data := .seq vs.toArray n } : Obj)
  | .dct kvs ep, o => ∃ es, o.ExactDict ∧ o.data = .dict es ep ∧ KeysOf (ik w) es ∧ Pairs (ik w) es.toList kvs ∧ (kvs.map (·.1)).Nodup
  | .st S n, o => ∃ es ep t, o.ExactSet ∧ o.data = .set es ep t ∧ ElemsOf (ik w) es.toList ∧ (∀ k, S k = true ↔ ∃ e ∈ es.toList, (ik w).is k e.2 = true)
      ∧ es.size < scanBound ∧ t.fits es.size = true ∧ es.size = n
  | .ns m n, o => ∃ es ep, o.data = .dict es ep ∧ StrKeys es ∧ (∀ name, nsFind es name = m name) ∧ es.size ≤ n
  | .cell v, o => o.data = .cell v
  | .ob o', o => o = o'

abbrev Hp := Addr → Option D
abbrev Rp := Addr → Option Obj
noncomputable def up {α : Type} (H : Addr → Option α) (a : Addr) (o : α) : Addr → Option α := fun b => if b = a then some o else H b
theorem up_same {α : Type} {H : Addr → Option α} {a : Addr} {o : α} : up H a o a = some o := by simp [up]
theorem up_other {α : Type} {H : Addr → Option α} {a b : Addr} {o : α} (h : b ≠ a) : up H a o b = H b := by simp [up, h]
theorem up_ne {α : Type} {H : Addr → Option α} {a b : Addr} {o : α} {r : Option α} (h : b ≠ a) (e : H b = r) : up H a o b = r := (up_other h).trans e
noncomputable def put (m : Loc) (x : Str) (v : Value) : Loc := fun y => if y = x then some v else m y

set_option genInjectivity false in
set_option genSizeOf false in
structure Zs where
  w : World
  G : Heap
  mg : Loc
  mb : Loc
  gens : Array GenState
  drawn : Drawn
  os : OsState
set_option genInjectivity false in
set_option genSizeOf false in
structure Cx where
  A : Around
  env : Env
  frs : List (Addr × Loc)
  fst : List Env
  rm : Nat

noncomputable abbrev Zs.M (Z : Zs) : Model := model PR Z.w

structure Zs.Ok (Z : Zs) : Prop where
  X : (Kw Z.w).In Z.G
  g : Z.G.Ns mainGlobals Z.mg
  b : Z.G.Ns builtinsNs Z.mb
  nolimit : Z.G.NoLimit
  bt : ∀ x : Str, x ≠ "__name__" → Z.mb x = bootBuiltins x

structure Cx.Ok (C : Cx) : Prop where
  frames : C.A.frames = some C.fst
  depth : C.A.depth + 2 * C.rm ≤ 500
  units : C.A.units + 20 * C.rm ≤ 5000
  kind : C.env.scope.kind = .function
  glob : C.env.globals = mainGlobals
  bns : C.env.builtins = builtinsNs
  fr : ∀ p ∈ C.frs, p.1 ≠ C.env.locals
  st : ∀ e ∈ C.fst, e.scope.kind ≠ .module ∧ ∃ L, e.frame = some L ∧ (L = C.env.locals ∨ ∃ m, (L, m) ∈ C.frs)

structure Sat (Z : Zs) (C : Cx) (R : Rp) (m : Loc) (H : Hp) (s : Shared) : Prop where
  z : Z.Ok
  c : C.Ok
  ns : s.heap.Ns C.env.locals m
  outs : ∀ p ∈ C.frs, s.heap.Ns p.1 p.2
  rg : ∀ b o, Z.G.get? b = some o → R b = some o
  rl : R C.env.locals = none
  rf : ∀ p ∈ C.frs, R p.1 = none
  keep : ∀ b o, R b = some o → s.heap.get? b = some o
  own : ∀ a d, H a = some d → ∃ o, s.heap.get? a = some o ∧ d.holds Z.w o
  dR : ∀ a d, H a = some d → R a = none
  dL : ∀ a d, H a = some d → a ≠ C.env.locals
  dF : ∀ a d, H a = some d → ∀ p ∈ C.frs, p.1 ≠ a
  gens : s.gens = Z.gens
  drawn : s.drawn = Z.drawn
  os : s.os = Z.os

section
variable {Z : Zs} {C : Cx} {R : Rp} {m m' : Loc} {H : Hp} {s : Shared}

theorem Sat.G (S : Sat Z C R m H s) : ∀ b o, Z.G.get? b = some o → s.heap.get? b = some o := fun b o e => S.keep b o (S.rg b o e)
theorem Sat.K (S : Sat Z C R m H s) : (Kw Z.w).In s.heap := S.z.X.keeps S.G

/-- the heap has grown -/
theorem Sat.grow {h' : Heap} {t : Nat} (S : Sat Z C R m H s) (k : ∀ b o, s.heap.get? b = some o → h'.get? b = some o) : Sat Z C R m H { s with heap := h', toks := t } :=
  { S with ns := S.ns.keeps k, outs := fun p hp => (S.outs p hp).keeps k, keep := fun b o e => k _ _ (S.keep b o e), own := fun b o e => let ⟨x, hx, y⟩ := S.own b o e; ⟨x, k _ _ hx, y⟩ }
theorem Sat.tok {t : Nat} (S : Sat Z C R m H s) : Sat Z C R m H { s with toks := t } := { S with }

/-- a name is stored -/
theorem Sat.store {h' : Heap} {t : Nat} (S : Sat Z C R m H s) (hn : h'.Ns C.env.locals m') (hs : Heap.ExtBut C.env.locals s.heap h') : Sat Z C R m' H { s with heap := h', toks := t } :=
  { S with
    ns := hn
    outs := fun p hp => (S.outs p hp).extBut hs (S.c.fr p hp)
    keep := fun b o e => hs b o (fun q => by rw [q, S.rl] at e; cases e) (S.keep b o e)
    own := fun b o e => let ⟨x, hx, y⟩ := S.own b o e; ⟨x, hs b x (S.dL b o e) hx, y⟩ }

/-- an own object is changed -/
theorem Sat.updE {h' : Heap} {t : Nat} {a : Addr} {d d' : D} (S : Sat Z C R m H s) (ha : H a = some d) (hn : h'.Ns C.env.locals m) (k : ∀ b o, b ≠ a → b ≠ C.env.locals → s.heap.get? b = some o → h'.get? b = some o)
    (ho : ∃ o', h'.get? a = some o' ∧ d'.holds Z.w o') : Sat Z C R m (up H a d') { s with heap := h', toks := t } :=
  { S with
    ns := hn
    outs := fun p hp => let ⟨o, es, ep, e, r⟩ := S.outs p hp; ⟨o, es, ep, k _ _ (S.dF a d ha p hp) (S.c.fr p hp) e, r⟩
    keep := fun b ob e => k _ _ (fun q => by rw [q, S.dR a d ha] at e; cases e) (fun q => by rw [q, S.rl] at e; cases e) (S.keep b ob e)
    own := fun b ob e => by
      by_cases q : b = a
      · subst q; rw [up_same] at e; cases e; exact ho
      · rw [up_other q] at e
        obtain ⟨x, hx, y⟩ := S.own b ob e
        exact ⟨x, k _ _ q (S.dL b ob e) hx, y⟩
    dR := fun b ob e => by
      by_cases q : b = a
      · subst q; exact S.dR b d ha
      · rw [up_other q] at e; exact S.dR b ob e
    dL := fun b ob e => by
      by_cases q : b = a
      · subst q; exact S.dL b d ha
      · rw [up_other q] at e; exact S.dL b ob e
    dF := fun b ob e => by
      by_cases q : b = a
      · subst q; exact S.dF b d ha
      · rw [up_other q] at e; exact S.dF b ob e }
theorem Sat.upd {h' : Heap} {t : Nat} {a : Addr} {d d' : D} (S : Sat Z C R m H s) (ha : H a = some d) (hs : Heap.SameBut a s.heap h') (ho : ∃ o', h'.get? a = some o' ∧ d'.holds Z.w o') : Sat Z C R m (up H a d') { s with heap := h', toks := t } :=
  S.updE ha (S.ns.sameBut hs (Ne.symm (S.dL a d ha))) (fun b o hb _ e => (hs.2 b hb).trans e) ho

theorem Sat.freshAt {l : Addr} (S : Sat Z C R m H s) (hl : s.heap.get? l = none) : H l = none ∧ R l = none := by
  constructor
  · cases q : H l with
    | none => rfl
    | some ob => obtain ⟨x, hx, _⟩ := S.own _ _ q; rw [hl] at hx; cases hx
  · cases q : R l with
    | none => rfl
    | some ob => have := S.keep _ _ q; rw [hl] at this; cases this
theorem get_size (h : Heap) : h.get? h.objs.size = none := by
  cases q : h.get? h.objs.size with
  | none => rfl
  | some o => exact absurd (Heap.lt_size q) (Nat.lt_irrefl _)
theorem Sat.fresh (S : Sat Z C R m H s) : H s.heap.objs.size = none ∧ R s.heap.objs.size = none := S.freshAt (get_size _)

/-- a new object -/
theorem Sat.newE {h' : Heap} {t : Nat} {d : D} {l : Addr} (S : Sat Z C R m H s) (hn : h'.Ns C.env.locals m) (k : ∀ b o, b ≠ C.env.locals → s.heap.get? b = some o → h'.get? b = some o) (hl : s.heap.get? l = none) (ho : ∃ o, h'.get? l = some o ∧ d.holds Z.w o) :
    Sat Z C R m (up H l d) { s with heap := h', toks := t } := by
  obtain ⟨nH, nR⟩ := S.freshAt hl
  have n0 : ∀ b ob, s.heap.get? b = some ob → b ≠ l := fun b ob e q => by rw [q, hl] at e; cases e
  have nL : l ≠ C.env.locals := by obtain ⟨o, _, _, e, _⟩ := S.ns; exact Ne.symm (n0 _ _ e)
  refine { S with ns := hn, outs := ?_, keep := ?_, own := ?_, dR := ?_, dL := ?_, dF := ?_ }
  · intro p hp; obtain ⟨o, es, ep, e, r⟩ := S.outs p hp; exact ⟨o, es, ep, k _ _ (S.c.fr p hp) e, r⟩
  · intro b ob e; exact k _ _ (fun q => by rw [q, S.rl] at e; cases e) (S.keep b ob e)
  · intro b ob e
    by_cases q : b = l
    · subst q; rw [up_same] at e; cases e; exact ho
    · rw [up_other q] at e
      obtain ⟨x, hx, y⟩ := S.own b ob e
      exact ⟨x, k _ _ (S.dL b ob e) hx, y⟩
  · intro b ob e
    by_cases q : b = l
    · subst q; exact nR
    · rw [up_other q] at e; exact S.dR b ob e
  · intro b ob e
    by_cases q : b = l
    · subst q; exact nL
    · rw [up_other q] at e; exact S.dL b ob e
  · intro b ob e p hp
    by_cases q : b = l
    · subst q; obtain ⟨o, _, _, e, _⟩ := S.outs p hp; exact n0 _ _ e
    · rw [up_other q] at e; exact S.dF b ob e p hp
theorem Sat.new {h' : Heap} {t : Nat} {d : D} (S : Sat Z C R m H s) (k : ∀ b o, s.heap.get? b = some o → h'.get? b = some o) (ho : ∃ o, h'.get? s.heap.objs.size = some o ∧ d.holds Z.w o) :
    Sat Z C R m (up H s.heap.objs.size d) { s with heap := h', toks := t } := S.newE (S.ns.keeps k) (fun b o _ e => k b o e) (get_size _) ho

/-- a new object that is only read from now on -/
theorem Sat.newR {h' : Heap} {t : Nat} {o : Obj} (S : Sat Z C R m H s) (k : ∀ b o, s.heap.get? b = some o → h'.get? b = some o) (ho : h'.get? s.heap.objs.size = some o) :
    Sat Z C (up R s.heap.objs.size o) m H { s with heap := h', toks := t } := by
  obtain ⟨nH, nR⟩ := S.fresh
  have n0 : ∀ b ob, s.heap.get? b = some ob → b ≠ s.heap.objs.size := fun b ob e => Nat.ne_of_lt (Heap.lt_size e)
  refine { S.grow (t := t) k with rg := ?_, rl := ?_, rf := ?_, keep := ?_, dR := ?_ }
  · intro b ob e; exact up_ne (n0 _ _ (S.G _ _ e)) (S.rg _ _ e)
  · exact up_ne (Nat.ne_of_lt S.ns.lt) S.rl
  · intro p hp; exact up_ne (Nat.ne_of_lt (S.outs p hp).lt) (S.rf p hp)
  · intro b ob e
    by_cases q : b = s.heap.objs.size
    · subst q; rw [up_same] at e; cases e; exact ho
    · rw [up_other q] at e; exact k _ _ (S.keep b ob e)
  · intro b ob e
    obtain ⟨x, hx, _⟩ := S.own _ _ e
    exact up_ne (n0 _ _ hx) (S.dR _ _ e)

/-- a read-only object is turned (an iterator of a loop's own) -/
theorem Sat.updR {h' : Heap} {t : Nat} {a : Addr} {o o' : Obj} (S : Sat Z C R m H s) (ha : R a = some o) (hG : Z.G.get? a = none) (hs : Heap.SameBut a s.heap h') (ho : h'.get? a = some o') : Sat Z C (up R a o') m H { s with heap := h', toks := t } := by
  have nL : C.env.locals ≠ a := fun q => by have := S.rl; rw [q, ha] at this; cases this
  have nF : ∀ p ∈ C.frs, p.1 ≠ a := fun p hp q => by have := S.rf p hp; rw [q, ha] at this; cases this
  have nH : ∀ b ob, H b = some ob → b ≠ a := fun b ob e q => by have := S.dR b ob e; rw [q, ha] at this; cases this
  exact { S with
    ns := S.ns.sameBut hs nL
    outs := fun p hp => (S.outs p hp).sameBut hs (nF p hp)
    rg := fun b ob e => up_ne (fun q => by rw [q, hG] at e; cases e) (S.rg b ob e)
    rl := up_ne nL S.rl
    rf := fun p hp => up_ne (nF p hp) (S.rf p hp)
    keep := fun b ob e => by
      by_cases q : b = a
      · subst q; rw [up_same] at e; cases e; exact ho
      · rw [up_other q] at e; exact (hs.2 b q).trans (S.keep b ob e)
    own := fun b ob e => by
      obtain ⟨x, hx, y⟩ := S.own b ob e
      exact ⟨x, (hs.2 b (nH b ob e)).trans hx, y⟩
    dR := fun b ob e => up_ne (nH b ob e) (S.dR b ob e)}

noncomputable def RLe (R R' : Rp) : Prop := ∀ b o, R b = some o → R' b = some o
theorem RLe.refl {R : Rp} : RLe R R := fun _ _ e => e
theorem RLe.none {R R' : Rp} (a : RLe R R') {b : Addr} (e : R' b = none) : R b = none := by
  cases q : R b with
  | none => rfl
  | some o => have := a b o q; rw [e] at this; cases this
theorem RLe.up {R R' : Rp} (a : RLe R R') {b : Addr} {o : Obj} (e : R b = .none) : RLe R (up R' b o) := fun x ox ex => by
  by_cases q : x = b
  · subst q; rw [e] at ex; cases ex
  · exact up_ne q (a x ox ex)
theorem Sat.weak {R' : Rp} (S : Sat Z C R' m H s) (hR : RLe R R') (hG : ∀ b o, Z.G.get? b = some o → R b = some o) : Sat Z C R m H s :=
  { S with rg := hG, rl := hR.none S.rl, rf := fun p hp => hR.none (S.rf p hp), keep := fun b o e => S.keep b o (hR b o e), dR := fun a o e => hR.none (S.dR a o e) }
/-- less is known -/
theorem Sat.less {H' : Hp} (S : Sat Z C R m H s) (h : ∀ a d, H' a = some d → H a = some d) : Sat Z C R m H' s :=
  { S with own := fun a d e => S.own a d (h a d e), dR := fun a d e => S.dR a d (h a d e), dL := fun a d e => S.dL a d (h a d e), dF := fun a d e => S.dF a d (h a d e) }

/-- the whole heap as a ledger: the library's rules over News serve -/
noncomputable def noHeap : Heap := {}
theorem noHeap_get (b : Addr) : noHeap.get? b = none := by simp [noHeap, Heap.get?]
noncomputable def allNews (h : Heap) (L : Addr) : List (Addr × Obj) := (List.range h.objs.size).filterMap fun b => if b = L then none else (h.get? b).map fun o => (b, o)
theorem mem_allNews {h : Heap} {L : Addr} {p : Addr × Obj} : p ∈ allNews h L ↔ p.1 ≠ L ∧ h.get? p.1 = some p.2 := by
  unfold allNews
  rw [List.mem_filterMap]
  constructor
  · rintro ⟨b, hb, e⟩
    split at e
    · cases e
    · rename_i hn
      obtain ⟨o, ho, rfl⟩ := Option.map_eq_some_iff.mp e
      exact ⟨hn, ho⟩
  · rintro ⟨hn, ho⟩
    exact ⟨p.1, List.mem_range.mpr (Heap.lt_size ho), by rw [if_neg hn, ho]; rfl⟩
theorem Sat.fr0 (S : Sat Z C R m H s) : Fr noHeap C.env.locals s.heap m := ⟨S.ns, fun b o e => (by rw [noHeap_get] at e; cases e), Nat.zero_le _⟩
theorem Sat.news0 (_S : Sat Z C R m H s) : News noHeap C.env.locals s.heap (allNews s.heap C.env.locals) := fun p hp => ⟨(mem_allNews.mp hp).2, (mem_allNews.mp hp).1, noHeap_get _⟩
theorem Sat.new0 {h' : Heap} {t : Nat} {l : Addr} {o : Obj} {d : D} (S : Sat Z C R m H s) (F : Fr noHeap C.env.locals h' m) (N : News noHeap C.env.locals h' ((l, o) :: allNews s.heap C.env.locals)) (hl : s.heap.get? l = none) (hd : d.holds Z.w o) : Sat Z C R m (up H l d) { s with heap := h', toks := t } :=
  S.newE F.ns (fun b o hb e => (N (b, o) (.tail _ (mem_allNews.mpr ⟨hb, e⟩))).1) hl ⟨o, (N _ (.head _)).1, hd⟩
theorem upd_exists {a : Addr} {o o' : Obj} : ∀ {l : List (Addr × Obj)}, (l.map (·.1)).Nodup → (a, o) ∈ l → ∃ l', Upd a o o' l l' ∧ (a, o') ∈ l' ∧ ∀ p ∈ l, p.1 ≠ a → p ∈ l'
  | p :: r, hn, hm => by
    rw [List.map_cons, List.nodup_cons] at hn
    rcases List.mem_cons.mp hm with rfl | hm
    · exact ⟨(a, o') :: r, .head (fun q hq e => hn.1 (by rw [← e]; exact List.mem_map_of_mem (f := (·.1)) hq)), .head _, fun q hq hne => by
        rcases List.mem_cons.mp hq with rfl | hq
        · exact absurd rfl hne
        · exact .tail _ hq⟩
    · obtain ⟨l', U, h1, h2⟩ := upd_exists (o' := o') hn.2 hm
      refine ⟨p :: l', .tail (fun e => hn.1 (by rw [e]; exact List.mem_map_of_mem (f := (·.1)) hm)) U, .tail _ h1, fun q hq hne => ?_⟩
      rcases List.mem_cons.mp hq with rfl | hq
      · exact .head _
      · exact .tail _ (h2 q hq hne)
theorem allNews_nodup (h : Heap) (L : Addr) : ((allNews h L).map (·.1)).Nodup := by
  have e : (allNews h L).map (·.1) = (List.range h.objs.size).filter fun b => b ≠ L ∧ (h.get? b).isSome := by
    unfold allNews
    induction List.range h.objs.size with
    | nil => rfl
    | cons b r ih =>
      rw [List.filterMap_cons, List.filter_cons]
      by_cases hb : b = L
      · simp [hb, ih]
      · cases q : h.get? b with
        | none => simp [hb, q, ih]
        | some o => simp [hb, q, ih]
  rw [e]; exact List.nodup_range.filter _
theorem Sat.upd0 {a : Addr} {o o' : Obj} {d d' : D} (S : Sat Z C R m H s) (ha : H a = some d) (hg : s.heap.get? a = some o) (hd : d'.holds Z.w o') :
    ∃ l', Upd a o o' (allNews s.heap C.env.locals) l' ∧ ∀ h' t, Fr noHeap C.env.locals h' m → News noHeap C.env.locals h' l' → Sat Z C R m (up H a d') { s with heap := h', toks := t } := by
  obtain ⟨l', U, h1, h2⟩ := upd_exists (o' := o') (allNews_nodup s.heap C.env.locals) (mem_allNews.mpr ⟨S.dL a d ha, hg⟩)
  exact ⟨l', U, fun h' t F N => S.updE ha F.ns (fun b ob hb hL e => (N (b, ob) (h2 (b, ob) (mem_allNews.mpr ⟨hL, e⟩) hb)).1) ⟨o', (N (a, o') h1).1, hd⟩⟩
end

section
variable {Z : Zs} {C : Cx} {R : Rp} {m m' : Loc} {H : Hp} {s : Shared} {E : Value → Shared → Prop} {x : Str} {pos : Pos} {v : Value} {sc : Scope}

theorem W_loc {Q : Value → Shared → Prop} (S : Sat Z C R m H s) (hsc : C.env.scope = sc) (hv : m x = some v) (h : Q v s)
    (hk : autoParam (sc.names.lookup x = some .local) kr) (hd : autoParam ((x == ("__debug__" : Str)) = false) kr) : wpAny Z.M C.A (eval (.Name x pos) C.env) Q E s :=
  wpAny_Name (wpAny_loadName_local S.c.kind (by show C.env.scope.names.lookup x = _; rw [hsc]; exact hk) S.ns hv h) hd
theorem W_glob {Q : Value → Shared → Prop} (S : Sat Z C R m H s) (hsc : C.env.scope = sc) (e : nsIn (Kw Z.w) mainGlobals x = some (some v)) (h : Q v s)
    (hk : autoParam (sc.names.lookup x = some .globalImplicit) kr) (hd : autoParam ((x == ("__debug__" : Str)) = false) kr) : wpAny Z.M C.A (eval (.Name x pos) C.env) Q E s :=
  Name_function_global S.c.kind (by show C.env.scope.names.lookup x = _; rw [hsc]; exact hk)
    (loadGlobal_global (env := C.env) (by rw [S.c.glob]; exact S.z.g.keeps S.G) (mg_of S.z.X S.z.g e) h) hd
theorem W_blt {Q : Value → Shared → Prop} (S : Sat Z C R m H s) (hsc : C.env.scope = sc) (hv : bootBuiltins x = some v) (h : Q v s) (e : autoParam (nsIn (Kw Z.w) mainGlobals x = some none) kr)
    (hn : x ≠ "__name__" := by decide) (hk : autoParam (sc.names.lookup x = some .globalImplicit) kr) (hd : autoParam ((x == ("__debug__" : Str)) = false) kr) : wpAny Z.M C.A (eval (.Name x pos) C.env) Q E s :=
  Name_function_global S.c.kind (by show C.env.scope.names.lookup x = _; rw [hsc]; exact hk)
    (loadGlobal_builtin (env := C.env) (by rw [S.c.glob]; exact S.z.g.keeps S.G) (mg_none_of S.z.X S.z.g e) (by rw [S.c.bns]; exact S.z.b.keeps S.G) ((S.z.bt x hn).trans hv) h) hd
theorem W_store {Q : Unit → Shared → Prop} (S : Sat Z C R m H s) (hsc : C.env.scope = sc) (h : ∀ s', Sat Z C R (put m x v) H s' → Q () s')
    (hk : autoParam (sc.names.lookup x = some .local) kr) : wpAny Z.M C.A (storeName C.env x v) Q E s :=
  wpAny_storeName_local (by show C.env.scope.names.lookup x = _; rw [hsc]; exact hk) S.ns (fun h' hn hs => h _ (S.store hn hs.extBut)) (by rw [S.c.kind]; rfl)

theorem Sat.cell {c : Addr} {v : Option Value} (S : Sat Z C R m H s) (h : H c = some (.cell v)) : s.heap.IsCell c v := let ⟨o, ho, hd⟩ := S.own _ _ h; ⟨o, ho, hd⟩
theorem W_cell {Q : Value → Shared → Prop} {c : Addr} (S : Sat Z C R m H s) (hsc : C.env.scope = sc) (hc : C.env.cells.lookup x = some c) (hv : H c = some (.cell (some v))) (h : Q v s)
    (hk : autoParam (sc.names.lookup x = some .cell) kr) (hd : autoParam ((x == ("__debug__" : Str)) = false) kr) : wpAny Z.M C.A (eval (.Name x pos) C.env) Q E s :=
  wpAny_Name (wpAny_loadName_cell S.c.kind (by show C.env.scope.names.lookup x = _; rw [hsc]; exact hk) hc (S.cell hv) h) hd
theorem W_free {Q : Value → Shared → Prop} {c : Addr} (S : Sat Z C R m H s) (hsc : C.env.scope = sc) (hc : C.env.cells.lookup x = some c) (hv : H c = some (.cell (some v))) (h : Q v s)
    (hk : autoParam (sc.names.lookup x = some .free) kr) (hd : autoParam ((x == ("__debug__" : Str)) = false) kr) (hn : autoParam ((x == ("__classdict__" : Str)) = false) kr) : wpAny Z.M C.A (eval (.Name x pos) C.env) Q E s :=
  wpAny_Name (wpAny_loadName_free S.c.kind (by show C.env.scope.names.lookup x = _; rw [hsc]; exact hk) hc (S.cell hv) h hn) hd
theorem W_storeC {Q : Unit → Shared → Prop} {c : Addr} {v₀ : Option Value} (S : Sat Z C R m H s) (hsc : C.env.scope = sc) (hc : C.env.cells.lookup x = some c) (hv : H c = some (.cell v₀)) (h : ∀ s', Sat Z C R m (up H c (.cell (some v))) s' → Q () s')
    (hk : autoParam (sc.names.lookup x = some .cell) kr) : wpAny Z.M C.A (storeName C.env x v) Q E s :=
  wpAny_storeName_cell S.c.kind (by show C.env.scope.names.lookup x = _; rw [hsc]; exact hk) hc (S.cell hv) fun h' hv' hs => h _ (S.upd (t := s.toks) hv hs (let ⟨o, ho, hd⟩ := hv'; ⟨o, ho, hd⟩))
end

noncomputable def retv : Flow → Value
  | .ret v => v
  | _ => .none

section
variable {Z : Zs} {C : Cx} {R : Rp} {m m' : Loc} {H : Hp} {s : Shared} {E : Value → Shared → Prop}

theorem Sat.exit {C' : Cx} {m'' : Loc} {H'' : Hp} {s'' : Shared} (S : Sat Z C R m H s) (hf : C'.frs = (C.env.locals, m) :: C.frs) (S' : Sat Z C' R m'' H'' s'') : Sat Z C R m H'' s'' where
  z := S.z
  c := S.c
  ns := S'.outs (C.env.locals, m) (by rw [hf]; exact .head _)
  outs := fun p hp => S'.outs p (by rw [hf]; exact .tail _ hp)
  rg := S.rg
  rl := S.rl
  rf := S.rf
  keep := S'.keep
  own := S'.own
  dR := S'.dR
  dL := fun a d e => Ne.symm (S'.dF a d e (C.env.locals, m) (by rw [hf]; exact .head _))
  dF := fun a d e p hp => S'.dF a d e p (by rw [hf]; exact .tail _ hp)
  gens := S'.gens
  drawn := S'.drawn
  os := S'.os

theorem Sat.sub {L : Addr} {env : Env} {h' : Heap} {t : Nat} {mb : Loc} (S : Sat Z C R m H s) (A' : Around) (hrm : 0 < C.rm) (hL : L = s.heap.objs.size) (hloc : env.locals = L) (hfr : env.frame = some L) (hk : env.scope.kind = .function) (hg : env.globals = mainGlobals) (hb : env.builtins = builtinsNs)
    (hA : A'.frames = some (env :: C.fst)) (hAd : A'.depth ≤ C.A.depth + 2) (hAu : A'.units ≤ C.A.units + 20)
    (hns : h'.Ns L mb) (k : ∀ b o, s.heap.get? b = some o → h'.get? b = some o) :
    Sat Z { A := A', env := env, frs := (C.env.locals, m) :: C.frs, fst := env :: C.fst, rm := C.rm - 1 } R mb H { s with heap := h', toks := t } := by
  have n0 : ∀ b ob, s.heap.get? b = some ob → b ≠ L := fun b ob e => by rw [hL]; exact Nat.ne_of_lt (Heap.lt_size e)
  have S1 := S.grow (t := t) k
  have cd := S.c.depth
  have cu := S.c.units
  have hfrs : ∀ p ∈ (C.env.locals, m) :: C.frs, s.heap.Ns p.1 p.2 := fun p hp => by
    rcases List.mem_cons.mp hp with rfl | hp
    · exact S.ns
    · exact S.outs p hp
  refine { z := S.z, c := ?_, ns := by rw [hloc]; exact hns, outs := fun p hp => (hfrs p hp).keeps k, rg := S.rg, rl := ?_, rf := ?_, keep := S1.keep, own := S1.own, dR := S.dR, dL := ?_, dF := ?_, gens := S.gens, drawn := S.drawn, os := S.os }
  · refine { frames := hA, depth := ?_, units := ?_, kind := hk, glob := hg, bns := hb, fr := ?_, st := ?_ }
    · exact sub2 hrm hAd cd
    · exact sub2 hrm hAu cu
    · intro p hp
      show p.1 ≠ env.locals
      rw [hloc, hL]; exact Nat.ne_of_lt (hfrs p hp).lt
    · intro e he
      rcases List.mem_cons.mp he with rfl | he
      · exact ⟨by rw [hk]; decide, L, hfr, .inl hloc.symm⟩
      · obtain ⟨a, L', b, c⟩ := S.c.st e he
        refine ⟨a, L', b, .inr ?_⟩
        rcases c with rfl | ⟨mm, hm⟩
        · exact ⟨m, .head _⟩
        · exact ⟨mm, .tail _ hm⟩
  · show R env.locals = none
    rw [hloc, hL]; exact S.fresh.2
  · intro p hp
    rcases List.mem_cons.mp hp with rfl | hp
    · exact S.rl
    · exact S.rf p hp
  · intro a d e
    show a ≠ env.locals
    rw [hloc]
    obtain ⟨x, hx, _⟩ := S.own a d e
    exact n0 _ _ hx
  · intro a d e p hp
    rcases List.mem_cons.mp hp with rfl | hp
    · exact Ne.symm (S.dL a d e)
    · exact S.dF a d e p hp

/-- a def without cells is entered -/
theorem W_enterE {Q : Value → Shared → Prop} {f : Addr} {fd : FuncData} {body : List Stmt} {pos : List Value} {kw : List (Str × Value)} {binds : List (Str × Value)} {oc : Value} {od : Option Addr} {osl : Array (Option Value)}
    (S : Sat Z C R m H s) (ho : (Kw Z.w).lookup f = some ⟨oc, od, .func fd, osl⟩) (hrm : 0 < C.rm) (hb : fd.body = .stmts body) (hbind : BindsTo s fd ⟨pos, kw⟩ binds)
    (h : ∀ C' s', C'.env.scope = fd.scope → C'.env.cells = fd.closure → C'.rm + 1 = C.rm → C'.A.handled = C.A.handled → C'.fst = C'.env :: C.fst → C'.env.frame = some C'.env.locals → C'.env.qual = fd.qualname ++ ".<locals>." → C'.env.code = fd.code →
      (∀ m'' H'' s'', Sat Z C' R m'' H'' s'' → Sat Z C R m H'' s'') → C'.frs = (C.env.locals, m) :: C.frs → Sat Z C' R (fun y => binds.reverse.lookup y) H s' →
      wpAny Z.M C'.A (execs body C'.env) (fun fl s'' => Q (retv fl) s'') (fun e s'' => wpAny Z.M C'.A (leaving C'.env e) (fun _ s3 => E e s3) (fun e' s3 => E e' s3) s'') s')
    (hcd : autoParam (codeIn (Kw Z.w) fd.code fd.qualname = true) kr) (hg : autoParam (fd.globals = mainGlobals) kr) (hbn : autoParam (fd.builtins = builtinsNs) kr)
    (hcell : autoParam ((fd.scope.names.all fun x => x.2 != .cell) = true) kr) (hloc : autoParam ((binds.all fun x => decide (fd.scope.names.lookup x.1 = some .local)) = true) kr)
    (hco : autoParam (fd.scope.isCoroutine = false) kr) (hgen : autoParam (fd.scope.isGenerator = false) kr) (hk : autoParam (fd.scope.kind = .function) kr) :
    wpAny Z.M C.A (call (.ref f) pos kw) Q E s := by
  have cd := S.c.depth
  refine wpAny_call (codeAny_call_def (fd := fd) (body := body) (binds := binds) (by have : recursionLimit = 1000 := rfl; lia) (S.K _ _ ho) rfl (S.z.nolimit.keeps S.G) (codeRec_of S.K hcd) hb hbind
    (fun x hx => by have := List.all_eq_true.mp hcell x hx; simpa using this) (locs hloc) (fun h₁ hns hk₁ => ?_) hco hgen hk)
  have S' := S.sub (t := s.toks + binds.length) (env := callEnv fd s.heap.objs.size f) (C.A.deeper (callEnv fd s.heap.objs.size f)) hrm rfl rfl rfl hk hg hbn (by show C.A.frames.map _ = _; rw [S.c.frames]; rfl) (by show C.A.depth + 1 ≤ _; lia) (by show C.A.units + 3 ≤ _; lia) hns hk₁
  refine wpAny_mono (h { A := C.A.deeper (callEnv fd s.heap.objs.size f), env := callEnv fd s.heap.objs.size f, frs := (C.env.locals, m) :: C.frs, fst := callEnv fd s.heap.objs.size f :: C.fst, rm := C.rm - 1 } _ rfl rfl (by show C.rm - 1 + 1 = C.rm; exact Nat.sub_add_cancel (by assumption)) rfl rfl rfl rfl rfl (fun m'' H'' s'' S'' => S.exit rfl S'') rfl S') (fun fl s'' hl => ?_) (fun e s'' he => he)
  cases fl <;> exact hl

theorem W_enter {Q : Value → Shared → Prop} {f : Addr} {fd : FuncData} {body : List Stmt} {pos : List Value} {kw : List (Str × Value)} {binds : List (Str × Value)} {oc : Value} {od : Option Addr} {osl : Array (Option Value)}
    (S : Sat Z C R m H s) (ho : (Kw Z.w).lookup f = some ⟨oc, od, .func fd, osl⟩) (hrm : 0 < C.rm) (hb : fd.body = .stmts body) (hbind : BindsTo s fd ⟨pos, kw⟩ binds)
    (h : ∀ C' s', C'.env.scope = fd.scope → C'.env.cells = fd.closure → C'.rm + 1 = C.rm → C'.A.handled = C.A.handled →
      (∀ m'' H'' s'', Sat Z C' R m'' H'' s'' → Sat Z C R m H'' s'') → Sat Z C' R (fun y => binds.reverse.lookup y) H s' →
      wpAny Z.M C'.A (execs body C'.env) (fun fl s'' => Q (retv fl) s'') (fun _ _ => False) s')
    (hcd : autoParam (codeIn (Kw Z.w) fd.code fd.qualname = true) kr) (hg : autoParam (fd.globals = mainGlobals) kr) (hbn : autoParam (fd.builtins = builtinsNs) kr)
    (hcell : autoParam ((fd.scope.names.all fun x => x.2 != .cell) = true) kr) (hloc : autoParam ((binds.all fun x => decide (fd.scope.names.lookup x.1 = some .local)) = true) kr)
    (hco : autoParam (fd.scope.isCoroutine = false) kr) (hgen : autoParam (fd.scope.isGenerator = false) kr) (hk : autoParam (fd.scope.kind = .function) kr) :
    wpAny Z.M C.A (call (.ref f) pos kw) Q E s :=
  W_enterE S ho hrm hb hbind (fun C' s' a1 a2 a3 a4 _ _ _ _ a5 _ S' => wpAny_mono (h C' s' a1 a2 a3 a4 a5 S') (fun _ _ z => z) fun _ _ z => z.elim) hcd hg hbn hcell hloc hco hgen hk
end

/-- a node's record -/
noncomputable def nodeO (dx : Addr) (a b c : Value) : Obj := { cls := .ref 47, dict := some dx, data := .plain, slots := #[some a, some b, some c] }

section
variable {Z : Zs} {C : Cx} {R : Rp} {m m' : Loc} {H : Hp} {s : Shared} {E : Value → Shared → Prop} {x dx : Addr} {name : Str} {v : Value} {mN : Loc} {n : Nat}

theorem lookIn_ns {w : World} {o : Obj} (h : (D.ns mN n).holds w o) (name : Str) : lookIn name o = some (mN name) := by
  obtain ⟨es, ep, hd, hk, hf, _⟩ := h
  unfold lookIn
  rw [hd]
  have q := hf name
  unfold nsFind findBy at q
  rw [← Array.find?_toList] at q
  dsimp only
  cases hq : es.toList.find? (·.key.isStr name) with
  | some e => rw [hq] at q; rw [← q]; rfl
  | none =>
    rw [hq] at q
    have hr : es.toList.any (·.refKey) = false := by
      rw [List.any_eq_false]
      intro e he
      obtain ⟨n, t, h⟩ := hk e (Array.mem_toList_iff.mp he)
      simp [DictEntry.refKey, h]
    dsimp only
    rw [hr, ← q]; rfl

theorem Sat.inst {Cl : Addr} (S : Sat Z C R m H s) (hx : H x = some (.ob (instObj Cl dx))) (hd : H dx = some (.ns mN n)) : ∃ od, (D.ns mN n).holds Z.w od ∧ s.heap.get? dx = some od ∧ InstAt s.heap x (instObj Cl dx) Cl (some od) := by
  obtain ⟨o, ho, rfl⟩ := S.own _ _ hx
  obtain ⟨od, hod, hn⟩ := S.own _ _ hd
  exact ⟨od, hn, hod, ⟨ho, rfl, rfl, hod⟩⟩

theorem W_attr {Q : Value → Shared → Prop} {Cl : Addr} {ex : Bool} (S : Sat Z C R m H s) (hx : H x = some (.ob (instObj Cl dx))) (hd : H dx = some (.ns mN n)) (hv : mN name = some v) (h : ∀ s', Sat Z C R m H s' → Q v s')
    (hh : autoParam (handedIn v = true) kq) (hg : autoParam (plainGet (Kw Z.w) Cl name = true) kr) (hdi : autoParam (hasDictIn (Kw Z.w) Cl = true) kr) (hf : autoParam (findIn (Kw Z.w) (.ref Cl) name = some none) kr) :
    wpAny Z.M C.A (getAttr (.ref x) name ex) Q E s := by
  refine hide fun G hG => ?_
  obtain ⟨od, hn, _, I⟩ := S.inst hx hd
  refine hG ?_
  clear hG
  have hl := lookIn_ns hn name
  refine get_value S.K I (plainGet_of hg).1 ?_ hh (h _ S.tok)
  refine hide fun G hG => ?_
  obtain ⟨cd, hc, hcd⟩ := any_some hdi
  refine hG ?_
  clear hG
  unfold findObj
  rw [hc, hf, Option.bind_some, Option.bind_some]
  dsimp only
  rw [Option.bind_some, Option.bind_some]
  dsimp only
  unfold W.ownOf
  rw [hcd, if_pos rfl]
  dsimp only
  rw [hl, hv]
  rfl

theorem Sat.node {a b c : Value} (S : Sat Z C R m H s) (hx : H x = some (.ob (nodeO dx a b c))) (hd : H dx = some (.ns mN n)) : ∃ od, InstAt s.heap x (nodeO dx a b c) 47 (some od) := by
  obtain ⟨o, ho, rfl⟩ := S.own _ _ hx
  obtain ⟨od, hod, hn⟩ := S.own _ _ hd
  exact ⟨od, ⟨ho, rfl, rfl, hod⟩⟩

theorem get_slotI {prog : Program} {w : World} {A : Around} {K : Frag} {Cl p : Addr} {ox od : Obj} {i : Nat} {expr : Bool} {Q : Value → Shared → Prop} (X : K.In s.heap) (I : InstAt s.heap x ox Cl (some od)) (hg : plainGet K Cl name = true) (hc : isClsIn K Cl = true)
    (ha : findIn K (.ref Cl) name = some (some (.ref p))) (hn : specialIn K (.ref p) "__get__" = some (some (.builtin "member_descriptor.__get__"))) (ht : takesIn K (.ref p) = some true) (hp : slotIn K p Cl = some i)
    (hv : (ox.slots[i]?).join = some v) (hh : handedIn v = true) (h : Q v { s with toks := s.toks + 1 }) : wpAny (model prog w) A (getAttr (.ref x) name expr) Q E s :=
  get_bind X I (plainGet_of hg).1 (findObj_data hc ha hn ht) (plainGet_of hg).2 (wpAny_call (slot_get (s := { s with toks := s.toks + 1 }) X I hp hv (handed_on hh h)))

theorem W_slot {Q : Value → Shared → Prop} {a b c : Value} {ex : Bool} {p : Addr} {i : Nat} (S : Sat Z C R m H s) (hx : H x = some (.ob (nodeO dx a b c))) (hd : H dx = some (.ns mN n)) (hv : ((nodeO dx a b c).slots[i]?).join = some v) (h : ∀ s', Sat Z C R m H s' → Q v s')
    (hp : autoParam (slotIn (Kw Z.w) p 47 = some i) kr) (hf : autoParam (findIn (Kw Z.w) (.ref 47) name = some (some (.ref p))) kr)
    (hn : autoParam (specialIn (Kw Z.w) (.ref p) "__get__" = some (some (.builtin "member_descriptor.__get__"))) kr) (ht : autoParam (takesIn (Kw Z.w) (.ref p) = some true) kr)
    (hh : autoParam (handedIn v = true) kq) (hg : autoParam (plainGet (Kw Z.w) 47 name = true) kr) (hc : autoParam (isClsIn (Kw Z.w) 47 = true) kr) :
    wpAny Z.M C.A (getAttr (.ref x) name ex) Q E s := by
  refine hide fun G hG => ?_
  obtain ⟨od, I⟩ := S.node hx hd
  refine hG ?_
  clear hG
  exact get_slotI S.K I hg hc hf hn ht hp hv hh (h _ S.tok)

theorem W_node_node {Q : Value → Shared → Prop} {a b c : Value} {ex : Bool} (S : Sat Z C R m H s) (hx : H x = some (.ob (nodeO dx a b c))) (hd : H dx = some (.ns mN n)) (h : ∀ s', Sat Z C R m H s' → Q a s') (hh : autoParam (handedIn a = true) kq) :
    wpAny Z.M C.A (getAttr (.ref x) (Str.ofString "node") ex) Q E s := W_slot (p := 48) (i := 0) S hx hd rfl h (hh := hh)
theorem W_node_npre {Q : Value → Shared → Prop} {a b c : Value} {ex : Bool} (S : Sat Z C R m H s) (hx : H x = some (.ob (nodeO dx a b c))) (hd : H dx = some (.ns mN n)) (h : ∀ s', Sat Z C R m H s' → Q b s') (hh : autoParam (handedIn b = true) kq) :
    wpAny Z.M C.A (getAttr (.ref x) (Str.ofString "npredecessors") ex) Q E s := W_slot (p := 49) (i := 1) S hx hd rfl h (hh := hh)
theorem W_node_succ {Q : Value → Shared → Prop} {a b c : Value} {ex : Bool} (S : Sat Z C R m H s) (hx : H x = some (.ob (nodeO dx a b c))) (hd : H dx = some (.ns mN n)) (h : ∀ s', Sat Z C R m H s' → Q c s') (hh : autoParam (handedIn c = true) kq) :
    wpAny Z.M C.A (getAttr (.ref x) (Str.ofString "successors") ex) Q E s := W_slot (p := 50) (i := 2) S hx hd rfl h (hh := hh)

/-- a slot's store, the heap's one change told -/
theorem slot_set_at {prog : Program} {w : World} {A : Around} {K : Frag} {Cl p : Addr} {ox : Obj} {od : Option Obj} {i : Nat} {RR : Result → Shared → Prop} (X : K.In s.heap) (I : InstAt s.heap x ox Cl od)
    (hp : slotIn K p Cl = some i) (hi : i < 1000)
    (h : RR (.ok (.ret .none)) { s with heap := s.heap.update x fun o => { o with slots := (o.slots ++ Array.replicate (i + 1 - o.slots.size) none).setIfInBounds i (some v) } }) :
    codeAny (model prog w) A (.call (.builtin "member_descriptor.__set__") ⟨[.ref p, .ref x, v], []⟩) RR s := by
  refine hide fun G hG => ?_
  obtain ⟨n, tn, owner, behind, tb, d, sl, cd, ho, hc, hm, hb, rfl⟩ := slot_of X hp
  obtain ⟨hh, g, dr, t, os⟩ := s
  refine hG ?_
  clear hG
  have L0 := I.type (M := model prog w)
  have L1 := looks_mroIn (M := model prog w) X hm
  have L2 : Looks (model prog w) hh (Builtin.Slots.slotNamesOf (.ref Cl)) cd.slotNames := (looks_clsIn X hc).andThen .now
  have hx := I.at_
  dsimp only at ho hx L0 L1
  have f0 := looks_field (M := model prog w) ho 0 (v := .str n tn) rfl
  have f1 := looks_field (M := model prog w) ho 1 (v := owner) rfl
  have f3 := looks_field (M := model prog w) ho 3 (v := .builtin "proto.slot#set") rfl
  have f4 := looks_field (M := model prog w) ho 4 (v := .int behind tb) rfl
  refine codeAny_call_builtin KF.slot_mset.plain KF.entry_mset (KF.slot_mset.check _ _ _ _ _ _ _ _ ⟨_, ho, rfl⟩ (KF.args_mset _ _ _) ?_)
  unfold Builtin.«member_descriptor.__set__» Builtin.Getset_descriptor.descrSet Builtin.Getset_descriptor.descrStoreThrough Builtin.Getset_descriptor.descrCheckInstance Builtin.Getset_descriptor.descrNameAndClass isInstance
  have f5 : Looks (model prog w) hh (Builtin.Getset_descriptor.descrItself (.ref p)) [.ref p] := ((Looks.ld (part := none) ho).andThen .now).andThen (Looks.of_pure (by kernel_rfl))
  repeat lk
  refine ⟨Code.quiet_builtin _ (by decide +kernel), codeAny_builtin KF.entry_slotset ?_⟩
  unfold Builtin.«proto.slot#set» Builtin.Slots.target
  repeat lk
  rw [if_neg hb]
  refine wpAny_pure (wpAny_bind ?_)
  unfold setSlotAt
  dsimp only
  rw [if_neg (by rw [sizeLine_eq]; lia)]
  exact wpAny_updatePart hx (wpAny_pure h)

theorem W_setslot {Q : Unit → Shared → Prop} {ox od : Obj} {p : Addr} {i : Nat} {d' : D} {dO : D} (S : Sat Z C R m H s) (I : InstAt s.heap x ox 47 (some od)) (hH : H x = some dO)
    (hd' : d'.holds Z.w { ox with slots := (ox.slots ++ Array.replicate (i + 1 - ox.slots.size) none).setIfInBounds i (some v) }) (hp : slotIn (Kw Z.w) p 47 = some i) (hi : i < 1000)
    (ht : takerIn (Kw Z.w) 47 name = some (some (.ref p))) (h : ∀ s', Sat Z C R m (up H x d') s' → Q () s')
    (hT : typeIn (Kw Z.w) (.ref p) = some (.type "member_descriptor")) (hsa : autoParam (findIn (Kw Z.w) (.ref 47) "__setattr__" = some (some (.builtin "object.__setattr__"))) kr) (hpo : autoParam (plainOver (Kw Z.w) 47 = true) kr) (hfr : autoParam (ox.isFreed = false) kq) :
    wpAny Z.M C.A (setAttr (.ref x) name v) Q E s := by
  refine set_plain S.K I hsa (osa_descr (s := { s with toks := s.toks + 1 }) KF.slot_mset S.K I hpo ht hT (slot_set_at (s := { s with toks := s.toks + 1 }) S.K I hp hi ?_))
  refine h _ (S.upd (t := s.toks + 1) hH (Heap.SameBut.update ..) ⟨_, Heap.get?_update_self _ I.at_ ?_, hd'⟩)
  refine hide fun G hG => ?_
  obtain ⟨a, b, c, d⟩ := ox
  refine hG ?_
  clear hG
  cases c <;> first | rfl | cases hfr

theorem W_node_setnpre {Q : Unit → Shared → Prop} {a b c : Value} (S : Sat Z C R m H s) (hx : H x = some (.ob (nodeO dx a b c))) (hd : H dx = some (.ns mN n)) (h : ∀ s', Sat Z C R m (up H x (.ob (nodeO dx a v c))) s' → Q () s') :
    wpAny Z.M C.A (setAttr (.ref x) (Str.ofString "npredecessors") v) Q E s := by
  refine hide fun G hG => ?_
  obtain ⟨od, I⟩ := S.node hx hd
  refine hG ?_
  clear hG
  exact W_setslot (p := 49) (i := 1) S I hx (d' := .ob (nodeO dx a v c)) rfl (by kernel_rfl) (by decide) (by kernel_rfl) h (by kernel_rfl)

theorem holds_put {w : World} {o : Obj} {hs : Int} {tk : Tok} (h : (D.ns mN n).holds w o) :
    (D.ns (put mN name v) (if (mN name).isSome then n else n + 1)).holds w (Obj.putName name hs (.str name tk) v o) := by
  refine hide fun G hG => ?_
  obtain ⟨es, ep, hd, hk, hf, hz⟩ := h
  obtain ⟨c, d, dt, sl⟩ := o
  refine hG ?_
  clear hG
  subst hd
  have e : mN name = findBy (fun n v => v.isStr n) es name := (hf name).symm
  cases hi : es.findIdx? (·.key.isStr name) with
  | some i =>
    refine ⟨_, ep, by simp only [Obj.putName_eq, Obj.putNameByArray, hi]; rfl, hk.modify _ _, fun y => ?_, ?_⟩
    · show _ = if y = name then some v else mN y
      rw [← hf]; exact findBy_modify (fun n v => v.isStr n) Value.isStr_inj es name y v i hi
    · rw [Array.size_modify]; split <;> (first | assumption | exact Nat.le_succ_of_le (by assumption))
  | none =>
    refine ⟨_, ep + 1, by simp only [Obj.putName_eq, Obj.putNameByArray, hi]; rfl, hk.push _ _ _ _, fun y => ?_, ?_⟩
    · show _ = if y = name then some v else mN y
      rw [← hf]
      exact findBy_push (fun n v => v.isStr n) es name y _ _ v (fun z => by
        show (name == z) = decide (z = name)
        by_cases h : z = name
        · subst h; simp
        · have : ¬ name = z := fun e => h e.symm
          simp [h, this]) hi
    · have : mN name = none := by
        rw [e]; unfold findBy
        rw [Array.findIdx?_eq_none_iff] at hi
        rw [Option.map_eq_none_iff, Array.find?_eq_none]
        intro x hx; have := hi x hx; simpa using this
      rw [this]; simp; assumption

/-- an attribute of an object is stored -/
theorem W_setattr {Q : Unit → Shared → Prop} {Cl : Addr} (S : Sat Z C R m H s) (hx : H x = some (.ob (instObj Cl dx))) (hd : H dx = some (.ns mN n)) (hn : n ≤ 500)
    (h : ∀ s', Sat Z C R m (up H dx (.ns (put mN name v) (if (mN name).isSome then n else n + 1))) s' → Q () s')
    (ht : autoParam (takerIn (Kw Z.w) Cl name = some none) kr) (hsa : autoParam (findIn (Kw Z.w) (.ref Cl) "__setattr__" = some (some (.builtin "object.__setattr__"))) kr) (hpo : autoParam (plainOver (Kw Z.w) Cl = true) kr) (hdi : autoParam (hasDictIn (Kw Z.w) Cl = true) kr) :
    wpAny Z.M C.A (setAttr (.ref x) name v) Q E s := by
  refine hide fun G hG => ?_
  obtain ⟨od, hns, hod, I⟩ := S.inst hx hd
  refine hG ?_
  clear hG
  have hl := lookIn_ns hns name
  refine set_plain S.K I hsa (osa_open (s := { s with toks := s.toks + 1 }) S.K I hpo ht fun b => ?_)
  refine hide fun G hG => ?_
  obtain ⟨cd, hc, hd'⟩ := any_some hdi
  refine hG ?_
  clear hG
  have hx' := I.at_
  have hp := holds_put (name := name) (v := v) (hs := PyData.keyHash Z.w.params name) (tk := s.toks + 1) hns
  refine hide fun G hG => ?_
  obtain ⟨es', ep', q1, q2, q3, q4⟩ := hp
  refine hG ?_
  clear hG
  have hz : es'.size ≤ sizeLine + 1 := by rw [sizeLine_eq]; split at q4 <;> (first | exact le4 (by assumption) (by assumption) (Nat.le_of_ble_eq_true rfl) | lia)
  have D' := Heap.get?_update_self (f := Obj.putName name (PyData.keyHash Z.w.params name) (.str name (s.toks + 1)) v) hod (Obj.isFreed_of_dict q1)
  refine wpAny_bind (wpAny_pure (wpAny_bind (wpAny_bind (wpAny_loadPart hx' (wpAny_bind ((looks_clsIn (S.tok (t := s.toks + 1)).K hc).here ?_))))))
  rw [hd']
  refine wpAny_pure (a := some dx) (wpAny_bind (wpAny_pure (wpAny_bind ?_)))
  unfold nsSet
  refine wpAny_bind (wpAny_bind (wpAny_askSetting (wpAny_pure (wpAny_bind (wpAny_mkText (wpAny_bind (wpAny_loadPart hod ?_)))))))
  refine hide fun G hG => ?_
  obtain ⟨es₀, n₀, q, hk, -, -⟩ := hns
  refine hG ?_
  clear hG
  rw [q]
  dsimp only
  have c : (!es₀.any (·.key.isStr name) && es₀.any (·.refKey)) = false := by
    have : es₀.any (·.refKey) = false := by
      rw [Array.any_eq_false']; intro e he; obtain ⟨n, t, h⟩ := hk e he; simp [DictEntry.refKey, h]
    rw [this, Bool.and_false]
  rw [aRefKeyMayBeTheName_at, c]
  refine wpAny_updatePart hod ?_
  refine wpAny_bind (wpAny_lookBehind D' (by rw [q1]; exact pastItsLine_dict hz) ?_)
  exact wpAny_pure (h _ (S.upd (t := s.toks + 1 + 1) hd (Heap.SameBut.update ..) ⟨_, D', es', ep', q1, q2, q3, q4⟩))

/-- a method of an object, called -/
theorem W_meth {Q : Value × List Value → Shared → Prop} {Cl f : Addr} {pl : Sem Bool} (S : Sat Z C R m H s) (hx : H x = some (.ob (instObj Cl dx))) (hd : H dx = some (.ns mN n)) (hv : mN name = none) (h : Q (.ref f, [.ref x]) s)
    (ha : autoParam (findIn (Kw Z.w) (.ref Cl) name = some (some (.ref f))) kr) (hf : autoParam (isFn (Kw Z.w) (.ref f) = true) kr) (hg : autoParam (plainGet (Kw Z.w) Cl name = true) kr) :
    wpAny Z.M C.A (getMethod (.ref x) name pl) Q E s := by
  refine hide fun G hG => ?_
  obtain ⟨od, hn, _, I⟩ := S.inst hx hd
  refine hG ?_
  clear hG
  exact method_fn S.K I (plainGet_of hg).1 (plainGet_of hg).2 ha (beq_iff_eq.mp hf) (by show (lookIn name od).map _ = _; rw [lookIn_ns hn name, hv]; rfl) h
end

section
variable {Z : Zs} {C : Cx} {R : Rp} {m m' : Loc} {H : Hp} {s : Shared} {E : Value → Shared → Prop} {l : Addr} {vs ws : List Value} {v x : Value}

theorem Sat.L (S : Sat Z C R m H s) (h : H l = some (.lst vs)) : ∃ n, s.heap.get? l = some { cls := .type "list", data := .seq vs.toArray n } := let ⟨o, ho, n, e⟩ := S.own _ _ h; ⟨n, e ▸ ho⟩
theorem Sat.T (S : Sat Z C R m H s) (h : H l = some (.tup vs)) : ∃ n, s.heap.get? l = some { cls := .type "tuple", data := .seq vs.toArray n } := let ⟨o, ho, n, e⟩ := S.own _ _ h; ⟨n, e ▸ ho⟩
/-- a list that may be read -/
noncomputable def LIn (R : Rp) (H : Hp) (l : Addr) (vs : List Value) : Prop := H l = some (.lst vs) ∨ ∃ o, R l = some o ∧ o.cls = .type "list" ∧ ∃ n, o.data = .seq vs.toArray n
noncomputable def TIn (R : Rp) (H : Hp) (l : Addr) (vs : List Value) : Prop := H l = some (.tup vs) ∨ ∃ o, R l = some o ∧ o.cls = .type "tuple" ∧ ∃ n, o.data = .seq vs.toArray n
theorem LIn.of (h : H l = some (.lst vs)) : LIn R H l vs := .inl h
theorem TIn.of (h : H l = some (.tup vs)) : TIn R H l vs := .inl h
theorem Sat.isList (S : Sat Z C R m H s) (h : LIn R H l vs) : s.heap.IsList l vs.toArray := by
  rcases h with h | ⟨o, e, a, b⟩
  · obtain ⟨n, e⟩ := S.L h; exact ⟨_, e, rfl, n, rfl⟩
  · exact ⟨o, S.keep _ _ e, a, b⟩
theorem Sat.isTup (S : Sat Z C R m H s) (h : TIn R H l vs) : s.heap.IsTuple l vs.toArray := by
  rcases h with h | ⟨o, e, a, b⟩
  · obtain ⟨n, e⟩ := S.T h; exact ⟨_, e, rfl, n, rfl⟩
  · exact ⟨o, S.keep _ _ e, a, b⟩

theorem W_newList {Q : Value → Shared → Prop} (S : Sat Z C R m H s) (h : ∀ l s', H l = none → R l = none → Sat Z C R m (up H l (.lst vs)) s' → Q (.ref l) s') (hz : vs.length ≤ 1000000) : wpAny Z.M C.A (newList vs) Q E s :=
  wpAny_newList (h _ _ S.fresh.1 S.fresh.2 (S.new (fun b o e => Heap.get?_push_of_some _ e) ⟨_, Heap.get?_push_size _ rfl, 0, rfl⟩)) (by rw [sizeLine_eq]; exact le1 (by assumption) (Nat.le_of_ble_eq_true rfl))
theorem W_newTuple {Q : Value → Shared → Prop} (S : Sat Z C R m H s) (h : ∀ l s', H l = none → R l = none → Sat Z C R m (up H l (.tup vs)) s' → Q (.ref l) s') (hz : vs.length ≤ 1000000) : wpAny Z.M C.A (newTuple vs) Q E s :=
  wpAny_newTuple (h _ _ S.fresh.1 S.fresh.2 (S.new (fun b o e => Heap.get?_push_of_some _ e) ⟨_, Heap.get?_push_size _ rfl, 0, rfl⟩)) (by rw [sizeLine_eq]; exact le1 (by assumption) (Nat.le_of_ble_eq_true rfl))

theorem Sat.lupd {t : Nat} (S : Sat Z C R m H s) (ha : H l = some (.lst vs)) (f : Array Value → Array Value) (he : f vs.toArray = ws.toArray) : Sat Z C R m (up H l (.lst ws)) { s with heap := s.heap.update l (Obj.mapSeq f), toks := t } := by
  obtain ⟨n, e⟩ := S.L ha
  have q := PySem.IsL.update e f
  rw [he] at q
  exact S.upd ha (Heap.SameBut.update ..) ⟨_, q, _, rfl⟩

theorem W_lmeth {Q : Value × List Value → Shared → Prop} {name : Str} {id : String} {pl : Sem Bool} (S : Sat Z C R m H s) (ha : H l = some (.lst vs)) (slot : Slot "list" name id) (hty : typeOf (.builtin id) = pure (.type "method_descriptor")) (h : Q (.builtin id, [.ref l]) s) :
    wpAny Z.M C.A (getMethod (.ref l) name pl) Q E s := by
  obtain ⟨n, e⟩ := S.L ha
  exact getMethod_builtin ⟨_, e, rfl⟩ PySem.F.plainAttrs_list slot hty (fun a q => by cases q; exact ⟨_, e, rfl⟩) h

theorem W_append {Q : Value → Shared → Prop} (S : Sat Z C R m H s) (ha : H l = some (.lst vs)) (h : ∀ s', Sat Z C R m (up H l (.lst (vs ++ [x]))) s' → Q .none s') (hz : vs.length ≤ 1000000) :
    wpAny Z.M C.A (call (.builtin "list.append") [.ref l, x]) Q E s := by
  obtain ⟨n, e⟩ := S.L ha
  obtain ⟨l', U, k⟩ := S.upd0 (d' := .lst (vs ++ [x])) (o' := W.listOf (vs.toArray.push x) (n + 1)) ha e ⟨n + 1, by rw [List.push_toArray]⟩
  exact append_K S.fr0 S.news0 U (fun h' F' N' => h _ (k h' _ F' N')) (by rw [List.size_toArray, sizeLine_eq]; exact le1 (by assumption) (Nat.le_of_ble_eq_true rfl))
theorem W_pop {Q : Value → Shared → Prop} (S : Sat Z C R m H s) (ha : H l = some (.lst (vs ++ [x]))) (h : ∀ s', Sat Z C R m (up H l (.lst vs)) s' → Q x s') (hz : vs.length ≤ 1000000) :
    wpAny Z.M C.A (call (.builtin "list.pop") [.ref l]) Q E s := by
  obtain ⟨n, e⟩ := S.L ha
  obtain ⟨l', U, k⟩ := S.upd0 (d' := .lst vs) (o' := W.listOf vs.toArray (n + 1)) ha e ⟨n + 1, rfl⟩
  exact kl_pop (p := vs) S.fr0 S.news0 (kpa_last x vs) U (by rw [sizeLine_eq, List.length_append, List.length_singleton]; lia) fun h' F' N' => h _ (k h' _ F' N')
theorem kl_cut_of (x : Value) : ∀ p q : List Value, kl_cut (p ++ x :: q) p.length = some (p, x, q)
  | [], _ => rfl
  | a :: p, q => by rw [List.cons_append, List.length_cons, kl_cut, kl_cut_of x p q]
theorem W_popAt {Q : Value → Shared → Prop} {i : Int} {u : Tok} (S : Sat Z C R m H s) (ha : H l = some (.lst (vs ++ x :: ws))) (hi : i = vs.length) (h : ∀ s', Sat Z C R m (up H l (.lst (vs ++ ws))) s' → Q x s') (hz : vs.length + ws.length ≤ 1000000) :
    wpAny Z.M C.A (call (.builtin "list.pop") [.ref l, .int i u]) Q E s := by
  obtain ⟨n, e⟩ := S.L ha
  obtain ⟨l', U, k⟩ := S.upd0 (d' := .lst (vs ++ ws)) (o' := W.listOf (vs ++ ws).toArray (n + 1)) ha e ⟨n + 1, rfl⟩
  have hl : (vs ++ x :: ws).length = vs.length + ws.length + 1 := by rw [List.length_append, List.length_cons]; lia
  refine kl_popAt (k := vs.length) S.fr0 S.news0 ?_ ?_ (kl_cut_of x vs ws) U (by rw [sizeLine_eq, hl]; lia) fun h' F' N' => h _ (k h' _ F' N')
  · subst hi; unfold Builtin.List.listFitsIndex; simp <;> (first | lia | omega)
  · subst hi; rw [List.size_toArray, hl]; exact seqIndex_at (Int.natCast_nonneg _) (Int.ofNat_lt.mpr (Nat.lt_succ_of_le (Nat.le_add_right _ _)))
theorem W_clear {Q : Value → Shared → Prop} (S : Sat Z C R m H s) (ha : H l = some (.lst vs)) (h : ∀ s', Sat Z C R m (up H l (.lst [])) s' → Q .none s') (hz : vs.length ≤ 1000000) :
    wpAny Z.M C.A (call (.builtin "list.clear") [.ref l]) Q E s := by
  obtain ⟨n, e⟩ := S.L ha
  exact call_meets PySem.F.slot_list_clear ⟨_, e, rfl⟩ PySem.F.entry_list_clear (PySem.F.args_list_clear_1 _) (PySem.AutoSeq1.list_clear_list_0 l _ n (by rw [List.size_toArray, sizeLine_eq]; exact le1 (by assumption) (Nat.le_of_ble_eq_true rfl))) ⟨e, h _ (S.lupd (t := s.toks) ha (fun _ => #[]) rfl)⟩
theorem W_extendL {Q : Value → Shared → Prop} {b : Addr} (S : Sat Z C R m H s) (ha : H l = some (.lst vs)) (hb : H b = some (.lst ws)) (h : ∀ s', Sat Z C R m (up H l (.lst (vs ++ ws))) s' → Q .none s') (hz : vs.length + ws.length ≤ 1000000) :
    wpAny Z.M C.A (call (.builtin "list.extend") [.ref l, .ref b]) Q E s := by
  obtain ⟨n, e⟩ := S.L ha
  obtain ⟨n2, e2⟩ := S.L hb
  refine call_meets PySem.F.slot_list_extend ⟨_, e, rfl⟩ PySem.F.entry_list_extend (PySem.F.args_list_extend_2 _ _) (PySem.AutoSeq1.list_extend_list_list_0 l _ n b _ n2 ?_ (by rw [List.size_toArray, sizeLine_eq]; lia) (by rw [List.size_toArray, List.size_toArray, sizeLine_eq]; exact le1 (by assumption) (Nat.le_of_ble_eq_true rfl))) ⟨e, e2, h _ (S.lupd (t := s.toks) ha (fun y => y ++ ws.toArray) (by simp))⟩
  unfold Builtin.List.listTooLong; simp [sizeLine_eq]; intros; exact le1 (by assumption) (Nat.le_of_ble_eq_true rfl)
theorem W_extendT {Q : Value → Shared → Prop} {b : Addr} (S : Sat Z C R m H s) (ha : H l = some (.lst vs)) (hb : H b = some (.tup ws)) (h : ∀ s', Sat Z C R m (up H l (.lst (vs ++ ws))) s' → Q .none s') (hz : vs.length + ws.length ≤ 1000000) :
    wpAny Z.M C.A (call (.builtin "list.extend") [.ref l, .ref b]) Q E s := by
  obtain ⟨n, e⟩ := S.L ha
  obtain ⟨n2, e2⟩ := S.T hb
  refine call_meets PySem.F.slot_list_extend ⟨_, e, rfl⟩ PySem.F.entry_list_extend (PySem.F.args_list_extend_2 _ _) (PySem.AutoSeq1.list_extend_list_tuple_0 l _ n b _ n2 ?_ (by rw [List.size_toArray, sizeLine_eq]; lia) (by rw [List.size_toArray, List.size_toArray, sizeLine_eq]; exact le1 (by assumption) (Nat.le_of_ble_eq_true rfl))) ⟨e, e2, h _ (S.lupd (t := s.toks) ha (fun y => y ++ ws.toArray) (by simp))⟩
  unfold Builtin.List.listTooLong; simp [sizeLine_eq]; intros; exact le1 (by assumption) (Nat.le_of_ble_eq_true rfl)

theorem W_getL {Q : Value → Shared → Prop} {k : Int} {u : Tok} (S : Sat Z C R m H s) (hl : LIn R H l vs) (h0 : 0 ≤ k) (hx : vs[k.toNat]? = some x) (h : Q x s) (hhi : k < 2 ^ 63) : wpAny Z.M C.A (getItem (.ref l) (.int k u)) Q E s :=
  wpAny_getItem_list (S.isList hl) h0 hhi (by simpa using hx) h
theorem W_getLast {Q : Value → Shared → Prop} {u : Tok} (S : Sat Z C R m H s) (hl : LIn R H l (vs ++ [x])) (h : Q x s) : wpAny Z.M C.A (getItem (.ref l) (.int (-1) u)) Q E s :=
  wpAny_getItem_list_neg (S.isList hl) (by decide) (by simp; lia) (by decide) (by
    have : (-1 + (((vs ++ [x]).toArray.size : Nat) : Int)).toNat = vs.length := by rw [List.size_toArray, List.length_append, List.length_singleton]; lia
    rw [this]; simp) h
theorem W_getT {Q : Value → Shared → Prop} {k : Int} {u : Tok} (S : Sat Z C R m H s) (hl : TIn R H l vs) (h0 : 0 ≤ k) (hx : vs[k.toNat]? = some x) (h : Q x s) (hhi : k < 2 ^ 63) : wpAny Z.M C.A (getItem (.ref l) (.int k u)) Q E s := by
  refine getItem_tuple (j := k.toNat) (S.isTup hl) (by lia) hhi ?_ (by simpa using hx) h
  have := (List.getElem?_eq_some_iff.mp hx).1
  rw [List.size_toArray]; exact seqIndex_at h0 ((Int.toNat_lt h0).mp this)
theorem W_setL {Q : Unit → Shared → Prop} {k : Int} {u : Tok} (S : Sat Z C R m H s) (ha : H l = some (.lst vs)) (h0 : 0 ≤ k) (hk : k.toNat < vs.length) (h : ∀ s', Sat Z C R m (up H l (.lst (vs.set k.toNat x))) s' → Q () s') (hhi : k < 2 ^ 63) :
    wpAny Z.M C.A (setItem (.ref l) (.int k u) x) Q E s := by
  obtain ⟨n, e⟩ := S.L ha
  exact ki_setAt e h0 hhi (by rw [List.size_toArray]; exact (Int.toNat_lt h0).mp hk) (h _ (S.lupd (t := s.toks) ha (fun y => y.setIfInBounds k.toNat x) (by simp)))
theorem W_len {Q : Value → Shared → Prop} (S : Sat Z C R m H s) (hl : LIn R H l vs) (h : ∀ t s', Sat Z C R m H s' → Q (.int vs.length t) s') (hz : vs.length ≤ 1000000) : wpAny Z.M C.A (call (.builtin "len") [.ref l]) Q E s := by
  have := PyProof.Rows.len_list (prog := PR) (w := Z.w) (A := C.A) (E := E) (Q := Q) (S.isList hl) (by rw [List.size_toArray]; exact in3 (by assumption) (Nat.le_of_ble_eq_true rfl) (by decide)) (by rw [List.size_toArray]; exact h _ _ S.tok)
  exact this
theorem W_lenT {Q : Value → Shared → Prop} (S : Sat Z C R m H s) (hl : TIn R H l vs) (h : ∀ t s', Sat Z C R m H s' → Q (.int vs.length t) s') (hz : vs.length ≤ 1000000) : wpAny Z.M C.A (call (.builtin "len") [.ref l]) Q E s := by
  have := len_tuple (prog := PR) (w := Z.w) (A := C.A) (E := E) (Q := Q) (S.isTup hl) (by rw [List.size_toArray]; exact in3 (by assumption) (Nat.le_of_ble_eq_true rfl) (by decide)) (by rw [List.size_toArray]; exact h _ _ S.tok)
  exact this
theorem W_truthyL {Q : Bool → Shared → Prop} (S : Sat Z C R m H s) (hl : LIn R H l vs) (h : ∀ s', Sat Z C R m H s' → Q (!vs.isEmpty) s') (hz : vs.length ≤ 1000000) : wpAny Z.M C.A (truthy (.ref l)) Q E s :=
  wpAny_truthy_list (S.isList hl) (by rw [List.size_toArray]; exact in3 (by assumption) (Nat.le_of_ble_eq_true rfl) (by decide)) (by
    have : vs.toArray.isEmpty = vs.isEmpty := by simp
    rw [this]; exact h _ S.tok)
end

section
variable {Z : Zs} {C : Cx} {R : Rp} {m m' : Loc} {H : Hp} {s : Shared} {E : Value → Shared → Prop} {Q : Value → Shared → Prop} {a b : Int} {t u : Tok}
/- ints -/
theorem W_int {i : Int} {k : Nat} {pos : Pos} {env : Env} (S : Sat Z C R m H s) (h : ∀ t s', Sat Z C R m H s' → Q (.int i t) s') : wpAny Z.M C.A (eval (.Constant (.int i) k pos) env) Q E s := wpAny_Constant_int (h _ _ S.tok)
theorem W_add (S : Sat Z C R m H s) (h : ∀ t s', Sat Z C R m H s' → Q (.int (a + b) t) s') : wpAny Z.M C.A (binaryOp .Add (.int a t) (.int b u)) Q E s := add_int (h _ _ S.tok)
theorem W_sub (S : Sat Z C R m H s) (h : ∀ t s', Sat Z C R m H s' → Q (.int (a - b) t) s') : wpAny Z.M C.A (binaryOp .Sub (.int a t) (.int b u)) Q E s := sub_int (h _ _ S.tok)
theorem W_iadd (S : Sat Z C R m H s) (h : ∀ t s', Sat Z C R m H s' → Q (.int (a + b) t) s') : wpAny Z.M C.A (inplaceOp .Add (.int a t) (.int b u)) Q E s := wpAny_iadd_int (h _ _ S.tok)
theorem W_isub (S : Sat Z C R m H s) (h : ∀ t s', Sat Z C R m H s' → Q (.int (a - b) t) s') : wpAny Z.M C.A (inplaceOp .Sub (.int a t) (.int b u)) Q E s := PyProof.Rows.isub_int (h _ _ S.tok)
theorem W_mod (S : Sat Z C R m H s) (hb : b ≠ 0) (h : ∀ t s', Sat Z C R m H s' → Q (.int (Int.fmod a b) t) s') : wpAny Z.M C.A (binaryOp .Mod (.int a t) (.int b u)) Q E s := mod_int' hb (h _ _ S.tok)
theorem small_div (hb : b.natAbs < 2 ^ 63) : Builtin.divisionGoesByPylong a b = false := by
  unfold Builtin.divisionGoesByPylong
  simp only [Bool.and_eq_false_iff, decide_eq_false_iff_not]
  left
  split
  · lia
  · have : b.natAbs.log2 ≤ 62 := by
      by_cases h0 : b.natAbs = 0
      · rw [h0]; decide
      · exact Nat.le_of_lt_succ ((Nat.log2_lt h0).mpr hb)
    lia
theorem W_div (S : Sat Z C R m H s) (hb : b ≠ 0) (hs : b.natAbs < 2 ^ 63) (h : ∀ t s', Sat Z C R m H s' → Q (.int (Int.fdiv a b) t) s') : wpAny Z.M C.A (binaryOp .FloorDiv (.int a t) (.int b u)) Q E s := floordiv_int hb (h _ _ S.tok) (.inl (small_div hs))
theorem W_eqI (h : Q (.bool (a == b)) s) : wpAny Z.M C.A (compareOp .Eq (.int a t) (.int b u)) Q E s := PyProof.Rows.eq_int h
theorem W_neI (h : Q (.bool (a != b)) s) : wpAny Z.M C.A (compareOp .NotEq (.int a t) (.int b u)) Q E s := PyProof.Rows.ne_int h
theorem W_ltI (h : Q (.bool (decide (a < b))) s) : wpAny Z.M C.A (compareOp .Lt (.int a t) (.int b u)) Q E s := PyProof.Rows.lt_int h
theorem W_geI (h : Q (.bool (decide (b ≤ a))) s) : wpAny Z.M C.A (compareOp .GtE (.int a t) (.int b u)) Q E s := PyProof.Rows.ge_int h

/- calls -/
theorem W_callB {id : String} {e : Expr} {rest : List Expr} {first : List Value} {pos : Pos} {M : Model} {A : Around} {env : Env} (h : wpAny M A (spliced (backTo pos (starEach (e :: rest) env))) (fun vs s₁ => wpAny M A (call (.builtin id) (first ++ vs)) Q E s₁) E s)
    (he : autoParam (starEach (e :: rest) env = (false, eval e env) :: starEach rest env) kq) (hplain : autoParam ((backTo pos (starEach rest env)).any (·.1) = false) kq) :
    wpAny M A (callWith pos (.builtin id) first (backTo pos (starEach (e :: rest) env)) []) Q E s := by
  rw [he] at h ⊢
  refine callWith_of (P := fun _ => True) (by show ((false || (backTo pos (starEach rest env)).any (·.1)) || false) = false; rw [hplain]; rfl) (fun h _ => ⟨.machine, .inr (.inl rfl), Looks.of_pure rfl⟩) (evalArgs_plain (wpAny_mono h (fun vs s₁ z => ⟨trivial, z⟩) fun _ _ z => z))
theorem W_callT {id : String} {e : Expr} {rest : List Expr} {first : List Value} {pos : Pos} {M : Model} {A : Around} {env : Env} (h : wpAny M A (spliced (backTo pos (starEach (e :: rest) env))) (fun vs s₁ => wpAny M A (call (.type id) (first ++ vs)) Q E s₁) E s)
    (he : autoParam (starEach (e :: rest) env = (false, eval e env) :: starEach rest env) kq) (hplain : autoParam ((backTo pos (starEach rest env)).any (·.1) = false) kq) :
    wpAny M A (callWith pos (.type id) first (backTo pos (starEach (e :: rest) env)) []) Q E s := by
  rw [he] at h ⊢
  refine callWith_of (P := fun _ => True) (by show ((false || (backTo pos (starEach rest env)).any (·.1)) || false) = false; rw [hplain]; rfl) (fun h _ => ⟨.machine, .inr (.inl rfl), Looks.of_pure rfl⟩) (evalArgs_plain (wpAny_mono h (fun vs s₁ z => ⟨trivial, z⟩) fun _ _ z => z))
theorem W_callB0 {id : String} {first : List Value} {pos : Pos} {M : Model} {A : Around} {env : Env} (h : wpAny M A (call (.builtin id) (first ++ [])) Q E s) : wpAny M A (callWith pos (.builtin id) first (backTo pos (starEach [] env)) []) Q E s :=
  callWith_of (P := fun _ => True) rfl (fun h _ => ⟨.machine, .inr (.inl rfl), Looks.of_pure rfl⟩) (evalArgs_nil3 ⟨trivial, h⟩)
theorem W_callT0 {id : String} {first : List Value} {pos : Pos} {M : Model} {A : Around} {env : Env} (h : wpAny M A (call (.type id) (first ++ [])) Q E s) : wpAny M A (callWith pos (.type id) first (backTo pos (starEach [] env)) []) Q E s :=
  callWith_of (P := fun _ => True) rfl (fun h _ => ⟨.machine, .inr (.inl rfl), Looks.of_pure rfl⟩) (evalArgs_nil3 ⟨trivial, h⟩)
/-- a def or a class of the text, with arguments: what is read of the written part is asked at the call -/
theorem W_callF {f : Addr} {e : Expr} {rest : List Expr} {first : List Value} {pos : Pos} {env : Env} (h : wpAny Z.M C.A (spliced (backTo pos (starEach (e :: rest) env))) (fun vs s₁ => (Kw Z.w).In s₁.heap ∧ wpAny Z.M C.A (call (.ref f) (first ++ vs)) Q E s₁) E s)
    (hk : autoParam (keepIn (Kw Z.w) (.ref f) = true) kr) (he : autoParam (starEach (e :: rest) env = (false, eval e env) :: starEach rest env) kq) (hplain : autoParam ((backTo pos (starEach rest env)).any (·.1) = false) kq) :
    wpAny Z.M C.A (callWith pos (.ref f) first (backTo pos (starEach (e :: rest) env)) []) Q E s := by
  rw [he] at h ⊢
  exact callWith_of (by show ((false || (backTo pos (starEach rest env)).any (·.1)) || false) = false; rw [hplain]; rfl) (keeps_K hk) (evalArgs_plain h)
theorem W_callF0 {f : Addr} {first : List Value} {pos : Pos} {env : Env} (S : Sat Z C R m H s) (h : wpAny Z.M C.A (call (.ref f) (first ++ [])) Q E s) (hk : autoParam (keepIn (Kw Z.w) (.ref f) = true) kr) :
    wpAny Z.M C.A (callWith pos (.ref f) first (backTo pos (starEach [] env)) []) Q E s :=
  callWith_of rfl (keeps_K hk) (evalArgs_nil3 ⟨S.K, h⟩)
end

/-- an iterator: what it hands out, what it leans on, how its object looks behind k items -/
structure Itr (Z : Zs) (R : Rp) (n : Nat) (Item : Nat → Value → Prop) (Src : Hp → Prop) (J : Addr → Nat → Obj → Prop) : Prop where
  item : ∀ {C : Cx} {R' : Rp} {m : Loc} {H : Hp} {s : Shared} {Q : Option Value → Shared → Prop} {E : Value → Shared → Prop} {it : Addr} {o : Obj} {k : Nat}, k < n → Sat Z C R' m H s → RLe R R' → Src H → R' it = some o → J it k o → R it = none → Z.G.get? it = none →
    (∀ v R'' s' o', Item k v → RLe R R'' → R'' it = some o' → J it (k + 1) o' → Sat Z C R'' m H s' → Q (some v) s') → wpAny Z.M C.A (pyNext (.ref it)) Q E s
  stop : ∀ {C : Cx} {R' : Rp} {m : Loc} {H : Hp} {s : Shared} {Q : Option Value → Shared → Prop} {E : Value → Shared → Prop} {it : Addr} {o : Obj}, C.A.handled = none → Sat Z C R' m H s → RLe R R' → Src H → R' it = some o → J it n o → R it = none → (∀ b o, Z.G.get? b = some o → R b = some o) →
    (∀ s', Sat Z C R m H s' → Q none s') → wpAny Z.M C.A (pyNext (.ref it)) Q E s
  cls : ∀ {it k o}, J it k o → ∃ nm, o.cls = .type nm ∧ (["enumerate", "zip", "dict_itemiterator", "dict_reverseitemiterator", "odict_iterator", "itertools.zip_longest", "itertools.pairwise"].contains nm) = false
  again : ∀ {C : Cx} {R' : Rp} {m : Loc} {H : Hp} {s : Shared} {Q : Value → Shared → Prop} {E : Value → Shared → Prop} {it : Addr} {o : Obj}, Sat Z C R' m H s → Src H → R' it = some o → J it 0 o → Q (.ref it) s → wpAny Z.M C.A (pyIter (.ref it)) Q E s

theorem own_tuple {Z : Zs} {C : Cx} {R : Rp} {m : Loc} {H : Hp} {s : Shared} {E : Value → Shared → Prop} {Q : Unit → Shared → Prop} {it : Addr} {o : Obj} {v : Value} {target : Expr} {nm : String} (S : Sat Z C R m H s) (hr : R it = some o) (hc : o.cls = .type nm)
    (hn : (["enumerate", "zip", "dict_itemiterator", "dict_reverseitemiterator", "odict_iterator", "itertools.zip_longest", "itertools.pairwise"].contains nm) = false) (h : Q () s) : wpAny Z.M C.A (letOwnedTupleGo target (.ref it) v) Q E s := by
  have go : wpAny Z.M C.A (do
      let (.ref r, .ref a) := (Value.ref it, v) | return
      let o ← load r
      match o.cls, o.data with
      | .type n, .fields vs =>
        if ["enumerate", "zip", "dict_itemiterator", "dict_reverseitemiterator", "odict_iterator", "itertools.zip_longest", "itertools.pairwise"].contains n && vs[0]? == some (rawInt a) then
          rule "for.unpacks-the-owned-tuple"
          updateField r 0 .none
      | _, _ => pure ()) Q E s := by
    cases v with
    | ref a =>
      refine wpAny_bind (wpAny_load (S.keep _ _ hr) ?_)
      rw [hc]
      cases o.data <;> first | exact wpAny_pure h | skip
      dsimp only
      rw [hn, Bool.false_and]
      exact wpAny_pure h
    | _ => exact wpAny_pure h
  cases target <;> first | exact go | exact wpAny_pure h

section
variable {Z : Zs} {C : Cx} {R : Rp} {m m' : Loc} {H : Hp} {s : Shared} {E : Value → Shared → Prop}

/-- what a turn leaves behind -/
inductive Nxt (Z : Zs) (C : Cx) (R : Rp) (I : Loc → Hp → Prop) (s : Shared) : Prop
  | mk (m : Loc) (H : Hp) (S : Sat Z C R m H s) (i : I m H) : Nxt Z C R I s
/-- where a loop stands -/
inductive LpI (Z : Zs) (C : Cx) (R : Rp) (n : Nat) (J : Addr → Nat → Obj → Prop) (I : Nat → Loc → Hp → Prop) (it : Addr) (j : Nat) (s : Shared) : Prop
  | mk (k : Nat) (R' : Rp) (m : Loc) (H : Hp) (o : Obj) (e : j = n - k) (hk : k ≤ n) (hR : RLe R R') (hit : R' it = some o) (hJ : J it k o) (S : Sat Z C R' m H s) (hI : I k m H) : LpI Z C R n J I it j s
theorem W_forE {E₀ : Value → Shared → Prop} {n : Nat} {Item : Nat → Value → Prop} {Src : Hp → Prop} {J : Addr → Nat → Obj → Prop} (T : Itr Z R n Item Src J) {target : Expr} {body : List Stmt} {RR : Result → Shared → Prop} {it : Addr} {R₀ : Rp} {o : Obj}
    (S : Sat Z C R₀ m H s) (hh : C.A.handled = none) (hR : RLe R R₀) (hit : R₀ it = some o) (hJ : J it 0 o) (hn : R it = none) (hG : ∀ b o, Z.G.get? b = some o → R b = some o)
    (I : Nat → Loc → Hp → Prop) (hsrc : ∀ k m H, I k m H → Src H) (h0 : I 0 m H)
    (step : ∀ k v R' m H s, k < n → Item k v → RLe R R' → I k m H → Sat Z C R' m H s → ∀ P, Turn (Nxt Z C R' (I (k + 1))) RR P →
      wpAny Z.M C.A (assign target C.env v) (fun _ s₂ => wpAny Z.M C.A (execs body C.env) P E₀ s₂) E₀ s)
    (hE : ∀ e s, E₀ e s → notedBy Z.M C.A C.env (fun e s' => RR (.error e) s') e s)
    (done : ∀ m H s, Sat Z C R m H s → I n m H → RR (.ok .next) s) :
    codeAny Z.M C.A (.forLoop target (.ref it) body [] C.env) RR s := by
  have hGi : Z.G.get? it = none := by
    cases q : Z.G.get? it with
    | none => rfl
    | some ob => have := hG _ _ q; rw [hn] at this; cases this
  refine codeAny_forLoop_any (LpI Z C R n J I it) (fun j s hI => ?_) n ⟨0, R₀, m, H, o, rfl, Nat.zero_le _, hR, hit, hJ, S, h0⟩
  refine hide fun G hG => ?_
  obtain ⟨k, R', m, H, o, rfl, hk, hR', hit', hJ', S', hI'⟩ := hI
  refine hG ?_
  clear hG
  by_cases hlt : k < n
  · refine T.item hlt S' hR' (hsrc _ _ _ hI') hit' hJ' hn hGi fun v R'' s' o' hv hR'' hit'' hJ'' S'' => ?_
    refine hide fun G hG => ?_
    obtain ⟨nm, c1, c2⟩ := T.cls hJ''
    refine hG ?_
    clear hG
    have fin : ∀ s, Nxt Z C R'' (I (k + 1)) s → ∃ j', j' < n - k ∧ LpI Z C R n J I it j' s :=
      fun s ⟨m', H', S3, I3⟩ => ⟨n - (k + 1), Nat.sub_succ_lt_self _ _ hlt, k + 1, R'', m', H', o', rfl, hlt, hR'', hit'', hJ'', S3, I3⟩
    exact own_tuple S'' hit'' c1 c2 (wpAny_mono (step k v R'' m H s' hlt hv hR'' hI' S'' _ ⟨fin, fin, fun _ z => z, fun _ _ z => z⟩) (fun _ s₂ h₂ => wpAny_mono h₂ (fun _ _ z => z) hE) hE)
  · have : k = n := Nat.le_antisymm hk (Nat.not_lt.mp hlt)
    subst this
    exact T.stop hh S' hR' (hsrc _ _ _ hI') hit' hJ' hn hG fun s' S'' => wpAny_execs_nil (done _ _ _ S'' hI')
/-- a for over an iterator, by an invariant -/
theorem W_for {n : Nat} {Item : Nat → Value → Prop} {Src : Hp → Prop} {J : Addr → Nat → Obj → Prop} (T : Itr Z R n Item Src J) {target : Expr} {body : List Stmt} {RR : Result → Shared → Prop} {it : Addr} {R₀ : Rp} {o : Obj}
    (S : Sat Z C R₀ m H s) (hh : C.A.handled = none) (hR : RLe R R₀) (hit : R₀ it = some o) (hJ : J it 0 o) (hn : R it = none) (hG : ∀ b o, Z.G.get? b = some o → R b = some o)
    (I : Nat → Loc → Hp → Prop) (hsrc : ∀ k m H, I k m H → Src H) (h0 : I 0 m H)
    (step : ∀ k v R' m H s E', k < n → Item k v → RLe R R' → I k m H → Sat Z C R' m H s → ∀ P, Turn (Nxt Z C R' (I (k + 1))) RR P →
      wpAny Z.M C.A (assign target C.env v) (fun _ s₂ => wpAny Z.M C.A (execs body C.env) P E' s₂) E' s)
    (done : ∀ m H s, Sat Z C R m H s → I n m H → RR (.ok .next) s) :
    codeAny Z.M C.A (.forLoop target (.ref it) body [] C.env) RR s :=
  W_forE T S hh hR hit hJ hn hG I hsrc h0 (fun k v R' m H s a b c d e P hP => step k v R' m H s _ a b c d e P hP) (fun _ _ z => z) done



theorem Sat.dropIt {R' : Rp} {it : Addr} {o : Obj} {h' : Heap} {t : Nat} (S : Sat Z C R' m H s) (hR : RLe R R') (hit : R' it = some o) (hn : R it = none) (hG : ∀ b o, Z.G.get? b = some o → R b = some o) (k : Heap.ExtBut it s.heap h') : Sat Z C R m H { s with heap := h', toks := t } := by
  have nL : C.env.locals ≠ it := fun q => by have := S.rl; rw [q, hit] at this; cases this
  have nF : ∀ p ∈ C.frs, p.1 ≠ it := fun p hp q => by have := S.rf p hp; rw [q, hit] at this; cases this
  have nH : ∀ b ob, H b = some ob → b ≠ it := fun b ob e q => by have := S.dR b ob e; rw [q, hit] at this; cases this
  exact { S with
    ns := S.ns.extBut k nL
    outs := fun p hp => (S.outs p hp).extBut k (nF p hp)
    rg := hG
    rl := hR.none S.rl
    rf := fun p hp => hR.none (S.rf p hp)
    keep := fun b ob e => k _ _ (fun q => by rw [q, hn] at e; cases e) (S.keep _ _ (hR _ _ e))
    own := fun b ob e => let ⟨x, hx, y⟩ := S.own b ob e; ⟨x, k _ _ (nH b ob e) hx, y⟩
    dR := fun b ob e => hR.none (S.dR b ob e) }

/- lists -/
noncomputable def lstJ (l : Addr) : Addr → Nat → Obj → Prop := fun it k o => o.cls = .type "list_iterator" ∧ o.data = .fields #[.ref l, .int k 0]
theorem itrL (l : Addr) (vs : List Value) : Itr Z R vs.length (fun k v => vs[k]? = some v) (fun H => LIn R H l vs) (lstJ l) where
  item := by
    intro C R' m H s Q E it o k hk S hR hS hit hJ hn hG h
    have hl : LIn R' H l vs := hS.imp id fun ⟨o, a, b⟩ => ⟨o, hR _ _ a, b⟩
    obtain ⟨v, hv⟩ : ∃ v, vs[k]? = some v := ⟨vs[k], List.getElem?_eq_getElem hk⟩
    refine wpAny_pyNext_list_item ⟨o, S.keep _ _ hit, hJ⟩ (S.isList hl) (by simpa using hv) fun h' hi hs => ?_
    obtain ⟨o', ho', hc, hd⟩ := hi
    exact h v _ _ o' hv (hR.up hn) up_same ⟨hc, hd⟩ (S.updR (t := s.toks) hit hG hs ho')
  stop := by
    intro C R' m H s Q E it o hh S hR hS hit hJ hn hG h
    have hl : LIn R' H l vs := hS.imp id fun ⟨o, a, b⟩ => ⟨o, hR _ _ a, b⟩
    exact wpAny_pyNext_list_end hh ⟨o, S.keep _ _ hit, hJ⟩ (S.isList hl) (by simp) fun h' hs => h _ (S.dropIt (t := s.toks) hR hit hn hG hs)
  cls := fun hJ => ⟨_, hJ.1, by decide⟩
  again := by
    intro C R' m H s Q E it o S hS hit hJ h
    exact wpAny_pyIter_listiter ⟨o, S.keep _ _ hit, hJ⟩ h
theorem W_iterL {Q : Value → Shared → Prop} {l : Addr} {vs : List Value} (S : Sat Z C R m H s) (hl : LIn R H l vs) (h : ∀ it o R₀ s', RLe R R₀ → R₀ it = some o → lstJ l it 0 o → R it = none → Sat Z C R₀ m H s' → Q (.ref it) s') : wpAny Z.M C.A (pyIter (.ref l)) Q E s :=
  wpAny_pyIter_list (S.isList hl) (h _ _ _ _ (RLe.refl.up S.fresh.2) up_same ⟨rfl, rfl⟩ S.fresh.2 (S.newR (t := s.toks) (fun b o e => Heap.get?_push_of_some _ e) (Heap.get?_push_size _ rfl)))

/- tuples -/
noncomputable def tupJ (l : Addr) : Addr → Nat → Obj → Prop := fun it k o => o.cls = .type "tuple_iterator" ∧ o.data = .fields #[.ref l, .int k 0]
theorem itrT (l : Addr) (vs : List Value) : Itr Z R vs.length (fun k v => vs[k]? = some v) (fun H => TIn R H l vs) (tupJ l) where
  item := by
    intro C R' m H s Q E it o k hk S hR hS hit hJ hn hG h
    have hl : TIn R' H l vs := hS.imp id fun ⟨o, a, b⟩ => ⟨o, hR _ _ a, b⟩
    obtain ⟨v, hv⟩ : ∃ v, vs[k]? = some v := ⟨vs[k], List.getElem?_eq_getElem hk⟩
    refine wpAny_pyNext_tuple_item ⟨o, S.keep _ _ hit, hJ⟩ (S.isTup hl) (by simpa using hv) fun h' hi hs => ?_
    obtain ⟨o', ho', hc, hd⟩ := hi
    exact h v _ _ o' hv (hR.up hn) up_same ⟨hc, hd⟩ (S.updR (t := s.toks) hit hG hs ho')
  stop := by
    intro C R' m H s Q E it o hh S hR hS hit hJ hn hG h
    have hl : TIn R' H l vs := hS.imp id fun ⟨o, a, b⟩ => ⟨o, hR _ _ a, b⟩
    exact wpAny_pyNext_tuple_end hh ⟨o, S.keep _ _ hit, hJ⟩ (S.isTup hl) (by simp) fun h' hs => h _ (S.dropIt (t := s.toks) hR hit hn hG hs)
  cls := fun hJ => ⟨_, hJ.1, by decide⟩
  again := by
    intro C R' m H s Q E it o S hS hit hJ h
    exact wpAny_pyIter_tupleiter ⟨o, S.keep _ _ hit, hJ⟩ h
theorem W_iterT {Q : Value → Shared → Prop} {l : Addr} {vs : List Value} (S : Sat Z C R m H s) (hl : TIn R H l vs) (h : ∀ it o R₀ s', RLe R R₀ → R₀ it = some o → tupJ l it 0 o → R it = none → Sat Z C R₀ m H s' → Q (.ref it) s') : wpAny Z.M C.A (pyIter (.ref l)) Q E s :=
  wpAny_pyIter_tuple (S.isTup hl) (h _ _ _ _ (RLe.refl.up S.fresh.2) up_same ⟨rfl, rfl⟩ S.fresh.2 (S.newR (t := s.toks) (fun b o e => Heap.get?_push_of_some _ e) (Heap.get?_push_size _ rfl)))

/- ranges, by ones -/
noncomputable def rangeO (a b : Int) (t u v : Tok) : Obj := { cls := .type "range", data := .fields #[.int a t, .int b u, .int 1 v] }
noncomputable def rngJ (a : Int) (n : Nat) : Addr → Nat → Obj → Prop := fun it k o => o = { cls := .type "range_iterator", data := .fields #[rawInt (a + k), rawInt ((n : Int) - k), rawInt 1] }
theorem itrR (a : Int) (n : Nat) : Itr Z R n (fun k v => ∃ t, v = .int (a + k) t) (fun _ => True) (rngJ a n) where
  item := by
    intro C R' m H s Q E it o k hk S hR hS hit hJ hn hG h
    have ho := S.keep _ _ hit
    rw [hJ] at ho
    refine wpAny_pyNext_range_item (x := a + k) (left := (n : Int) - k) (step := 1) ho (by lia) fun h' hi hs => ?_
    refine h _ _ _ _ ⟨_, rfl⟩ (hR.up hn) up_same ?_ (S.updR (t := s.toks + 1) hit hG hs hi)
    show _ = _
    rw [show ((k + 1 : Nat) : Int) = (k : Int) + 1 from by lia, show a + (k : Int) + 1 = a + ((k : Int) + 1) from by lia, show (n : Int) - (k : Int) - 1 = (n : Int) - ((k : Int) + 1) from by lia]
  stop := by
    intro C R' m H s Q E it o hh S hR hS hit hJ hn hG h
    have ho := S.keep _ _ hit
    rw [hJ] at ho
    exact wpAny_pyNext_range_end (x := a + n) (left := (n : Int) - n) (step := 1) hh ho (by lia) fun h' hs => h _ (S.dropIt (t := s.toks) hR hit hn hG hs)
  cls := fun hJ => ⟨"range_iterator", by rw [hJ], by decide⟩
  again := by
    intro C R' m H s Q E it o S hS hit hJ h
    have ho := S.keep _ _ hit
    rw [hJ] at ho
    exact wpAny_pyIter_rangeiter ho h
theorem W_iterR {Q : Value → Shared → Prop} {r : Addr} {a b : Int} {t u v : Tok} {n : Nat} (S : Sat Z C R m H s) (hr : H r = some (.ob (rangeO a b t u v))) (hn : (n : Int) = if a < b then b - a else 0) (ha : -(2 ^ 62) ≤ a) (ha' : a < 2 ^ 62) (hb : -(2 ^ 62) ≤ b) (hb' : b < 2 ^ 62)
    (h : ∀ it o R₀ s', RLe R R₀ → R₀ it = some o → rngJ a n it 0 o → R it = none → Sat Z C R₀ m H s' → Q (.ref it) s') : wpAny Z.M C.A (pyIter (.ref r)) Q E s := by
  refine hide fun G hG => ?_
  obtain ⟨o, ho, rfl⟩ := S.own _ _ hr
  refine hG ?_
  clear hG
  refine wpAny_pyIter_range ho (small_one ha ha' hb hb') (h _ _ _ _ (RLe.refl.up S.fresh.2) up_same ?_ S.fresh.2 (S.newR (t := s.toks) (fun b o e => Heap.get?_push_of_some _ e) (Heap.get?_push_size _ rfl)))
  show _ = _
  rw [rangeSize_one, ← hn]
  simp
theorem W_range1 {Q : Value → Shared → Prop} {n : Int} {t : Tok} (S : Sat Z C R m H s) (h : ∀ r t u v s', H r = none → R r = none → Sat Z C R m (up H r (.ob (rangeO 0 n t u v))) s' → Q (.ref r) s') : wpAny Z.M C.A (call (.type "range") [.int n t]) Q E s :=
  call_range_1 (h _ _ _ _ _ S.fresh.1 S.fresh.2 (S.new (t := s.toks + 1 + 1) (fun b o e => Heap.get?_push_of_some _ e) ⟨_, Heap.get?_push_size _ rfl, rfl⟩))
theorem W_range2 {Q : Value → Shared → Prop} {a b : Int} {t u : Tok} (S : Sat Z C R m H s) (h : ∀ r t u v s', H r = none → R r = none → Sat Z C R m (up H r (.ob (rangeO a b t u v))) s' → Q (.ref r) s') : wpAny Z.M C.A (call (.type "range") [.int a t, .int b u]) Q E s :=
  call_range_2 (h _ _ _ _ _ S.fresh.1 S.fresh.2 (S.new (t := s.toks + 1) (fun b o e => Heap.get?_push_of_some _ e) ⟨_, Heap.get?_push_size _ rfl, rfl⟩))

/- dicts with ints as keys -/
theorem Sat.dct {d : Addr} {kvs : List (Int × Value)} {ep : Nat} (S : Sat Z C R m H s) (h : H d = some (.dct kvs ep)) : s.heap.DictAt (ik Z.w) d kvs ep := let ⟨o, ho, es, r⟩ := S.own _ _ h; ⟨o, es, ho, r⟩
noncomputable def keyJ (d : Addr) (n ep : Nat) : Addr → Nat → Obj → Prop := fun it k o => o.cls = .type "dict_keyiterator" ∧ o.data = .fields #[.ref d, .int k 0, .int n 0, .int ep 0]
theorem itrD (d : Addr) (kvs : List (Int × Value)) (ep : Nat) : Itr Z R kvs.length (fun k v => ∃ i x t, kvs[k]? = some (i, x) ∧ v = .int i t) (fun H => H d = some (.dct kvs ep)) (keyJ d kvs.length ep) where
  item := by
    intro C R' m H s Q E it o k hk S hR hS hit hJ hn hG h
    obtain ⟨⟨i, x⟩, hv⟩ : ∃ p, kvs[k]? = some p := ⟨kvs[k], List.getElem?_eq_getElem hk⟩
    refine wpAny_pyNext_dict_item (knd := ik Z.w) ⟨o, S.keep _ _ hit, hJ⟩ (S.dct hS) hv fun key h' hkey hi hs => ?_
    obtain ⟨o', ho', hc, hd⟩ := hi
    obtain ⟨t, rfl⟩ := Value.isInt_shape hkey
    exact h _ _ _ o' ⟨i, x, t, hv, rfl⟩ (hR.up hn) up_same ⟨hc, hd⟩ (S.updR (t := s.toks) hit hG hs ho')
  stop := by
    intro C R' m H s Q E it o hh S hR hS hit hJ hn hG h
    exact wpAny_pyNext_dict_end (knd := ik Z.w) hh ⟨o, S.keep _ _ hit, hJ⟩ (S.dct hS) (by simp) fun h' hs => h _ (S.dropIt (t := s.toks) hR hit hn hG hs)
  cls := fun hJ => ⟨_, hJ.1, by decide⟩
  again := by
    intro C R' m H s Q E it o S hS hit hJ h
    exact wpAny_pyIter_keyiter ⟨o, S.keep _ _ hit, hJ⟩ h
theorem W_iterD {Q : Value → Shared → Prop} {d : Addr} {kvs : List (Int × Value)} {ep : Nat} (S : Sat Z C R m H s) (hd : H d = some (.dct kvs ep)) (hne : (d == sysModules) = false) (h : ∀ it o R₀ s', RLe R R₀ → R₀ it = some o → keyJ d kvs.length ep it 0 o → R it = none → Sat Z C R₀ m H s' → Q (.ref it) s') : wpAny Z.M C.A (pyIter (.ref d)) Q E s :=
  wpAny_pyIter_dict (knd := ik Z.w) hne (S.dct hd) (h _ _ _ _ (RLe.refl.up S.fresh.2) up_same ⟨rfl, rfl⟩ S.fresh.2 (S.newR (t := s.toks) (fun b o e => Heap.get?_push_of_some _ e) (Heap.get?_push_size _ rfl)))
noncomputable def valJ (d : Addr) (n ep : Nat) : Addr → Nat → Obj → Prop := fun it k o => o.cls = .type "dict_valueiterator" ∧ o.data = .fields #[.ref d, .int k 0, .int n 0, .int ep 0]
theorem itrV (d : Addr) (kvs : List (Int × Value)) (ep : Nat) : Itr Z R kvs.length (fun k v => ∃ i, kvs[k]? = some (i, v)) (fun H => H d = some (.dct kvs ep)) (valJ d kvs.length ep) where
  item := by
    intro C R' m H s Q E it o k hk S hR hS hit hJ hn hG h
    obtain ⟨⟨i, x⟩, hv⟩ : ∃ p, kvs[k]? = some p := ⟨kvs[k], List.getElem?_eq_getElem hk⟩
    refine wpAny_pyNext_values_item (knd := ik Z.w) ⟨o, S.keep _ _ hit, hJ⟩ (S.dct hS) hv fun h' hi hs => ?_
    obtain ⟨o', ho', hc, hd⟩ := hi
    exact h _ _ _ o' ⟨i, hv⟩ (hR.up hn) up_same ⟨hc, hd⟩ (S.updR (t := s.toks) hit hG hs ho')
  stop := by
    intro C R' m H s Q E it o hh S hR hS hit hJ hn hG h
    exact wpAny_pyNext_values_end (knd := ik Z.w) hh ⟨o, S.keep _ _ hit, hJ⟩ (S.dct hS) (by simp) fun h' hs => h _ (S.dropIt (t := s.toks) hR hit hn hG hs)
  cls := fun hJ => ⟨_, hJ.1, by decide⟩
  again := by
    intro C R' m H s Q E it o S hS hit hJ h
    exact wpAny_pyIter_valiter ⟨o, S.keep _ _ hit, hJ⟩ h
end

section
variable {Z : Zs} {C : Cx} {R : Rp} {m m' : Loc} {H : Hp} {s : Shared} {E : Value → Shared → Prop} {Q : Value → Shared → Prop} {d : Addr} {kvs : List (Int × Value)} {ep : Nat} {i : Int} {t : Tok} {v : Value}

theorem Sat.dof (S : Sat Z C R m H s) (h : H d = some (.dct kvs ep)) : s.heap.DictOf (ik Z.w) d kvs := (S.dct h).dictOf
theorem Sat.dupd {h' : Heap} {t : Nat} {kvs' : List (Int × Value)} (S : Sat Z C R m H s) (h : H d = some (.dct kvs ep)) (hd : h'.DictOf (ik Z.w) d kvs') (hs : Heap.SameBut d s.heap h') : ∃ ep', Sat Z C R m (up H d (.dct kvs' ep')) { s with heap := h', toks := t } := by
  obtain ⟨o, es, ep', ho, r⟩ := hd
  exact ⟨ep', S.upd h hs ⟨o, ho, es, r⟩⟩

theorem W_newDict {pos : Pos} {env : Env} (S : Sat Z C R m H s) (h : ∀ d s', H d = none → R d = none → (d == sysModules) = false → Sat Z C R m (up H d (.dct [] 0)) s' → Q (.ref d) s') : wpAny Z.M C.A (eval (.Dict [] [] pos) env) Q E s := by
  refine wpAny_Dict_empty (h _ _ S.fresh.1 S.fresh.2 ?_ (S.new (t := s.toks) (fun b o e => Heap.get?_push_of_some _ e) ⟨_, Heap.get?_push_size _ rfl, #[], ⟨rfl, rfl, rfl⟩, rfl, fun e he => by simp at he, .nil, .nil⟩))
  obtain ⟨mc, hmc, -⟩ := S.z.nolimit.keeps S.G
  have := hmc.lt
  have q1 : sysModules = 1 := rfl
  have q2 : cStatics = 2 := rfl
  rw [beq_eq_false_iff_ne]; exact fun e => by rw [e] at this; exact absurd this (by decide)
theorem W_dgetItem (S : Sat Z C R m H s) (h : H d = some (.dct kvs ep)) (hv : valueAt kvs i = some v) (k : ∀ s', Sat Z C R m H s' → Q v s') : wpAny Z.M C.A (getItem (.ref d) (.int i t)) Q E s :=
  wpAny_getItem_of (intKind_is PR Z.w i t) (S.dof h).mapOf hv (k _ S.tok)
theorem W_din (S : Sat Z C R m H s) (hne : (d == sysModules) = false) (h : H d = some (.dct kvs ep)) (k : ∀ s', Sat Z C R m H s' → Q (.bool (valueAt kvs i).isSome) s') : wpAny Z.M C.A (compareOp .In (.int i t) (.ref d)) Q E s :=
  wpAny_in_of (intKind_is PR Z.w i t) hne (S.dof h).mapOf (k _ S.tok)
theorem W_dset {Q : Unit → Shared → Prop} (S : Sat Z C R m H s) (h : H d = some (.dct kvs ep)) (hz : kvs.length ≤ 1000) (k : ∀ ep' s', Sat Z C R m (up H d (.dct (stored kvs i v) ep')) s' → Q () s') : wpAny Z.M C.A (setItem (.ref d) (.int i t) v) Q E s :=
  wpAny_setItem_pairs (intKind_is PR Z.w i t) (S.dof h) (fun h' hd hs => let ⟨ep', S'⟩ := S.dupd (t := s.toks + 1) h hd hs; k _ _ S') (by rw [sizeLine_eq]; exact le1 (by assumption) (Nat.le_of_ble_eq_true rfl))
theorem W_ddel {Q : Unit → Shared → Prop} (S : Sat Z C R m H s) (h : H d = some (.dct kvs ep)) (hv : valueAt kvs i = some v) (hz : kvs.length ≤ 1000) (k : ∀ ep' s', Sat Z C R m (up H d (.dct (without kvs i) ep')) s' → Q () s') : wpAny Z.M C.A (delItem (.ref d) (.int i t)) Q E s := by
  obtain ⟨o, es, ho, hex, hr⟩ := S.dct h
  have hT : s.TypeIs (.ref d) "dict" := ⟨o, ho, hex.1⟩
  refine wpAny_delItem_slot hT (by decide) PySem.F.slot_dict_delitem (wpAny_call_entry PySem.F.slot_dict_delitem hT PySem.F.entry_dict_delitem ?_ (PySem.F.args_dict_delitem_2 _ _))
  unfold Builtin.«dict.__delitem__» Builtin.Dict.dictSlotArgs
  refine wpAny_bind (wpAny_bind (wpAny_notOrdered_dict hT ?_))
  refine wpAny_bind (wpAny_pure (wpAny_pure ?_))
  refine wpAny_bind (wpAny_pure ?_)
  refine wpAny_bind (wpAny_takeOut_pairs (knd := ik Z.w) (intKind_is PR Z.w i t) (S.dof h) (fun q => by rw [hv] at q; cases q) (fun e he hval h' hd hs => ?_) (by rw [sizeLine_eq]; exact le1 (by assumption) (Nat.le_of_ble_eq_true rfl)))
  obtain ⟨ep', S'⟩ := S.dupd (t := s.toks + 1) h hd hs
  refine wpAny_bind (wpAny_letGo ?_)
  exact wpAny_pure ⟨_, rfl, k _ _ S'⟩
theorem W_dmeth {Q : Value × List Value → Shared → Prop} {name : Str} {id : String} {pl : Sem Bool} (S : Sat Z C R m H s) (h : H d = some (.dct kvs ep)) (slot : Slot "dict" name id) (hty : typeOf (.builtin id) = pure (.type "method_descriptor")) (k : Q (.builtin id, [.ref d]) s) :
    wpAny Z.M C.A (getMethod (.ref d) name pl) Q E s := by
  obtain ⟨o, es, ho, hex, hr⟩ := S.dct h
  exact getMethod_builtin ⟨_, ho, hex.1⟩ PySem.F.plainAttrs_dict slot hty (fun a q => by cases q; exact ⟨_, ho, hex.2.1⟩) k
inductive Dgt (Z : Zs) (C : Cx) (d : Addr) (Q : Value → Shared → Prop) (key : Value) (s₁ : Shared) : Prop
  | mk (i : Int) (t : Tok) (R' : Rp) (m' : Loc) (H' : Hp) (kvs : List (Int × Value)) (ep' : Nat) (e : key = .int i t) (S : Sat Z C R' m' H' s₁) (h : H' d = some (.dct kvs ep')) (k : ∀ s', Sat Z C R' m' H' s' → Q ((valueAt kvs i).getD .none) s') : Dgt Z C d Q key s₁
theorem W_dget {e : Expr} {pos : Pos} (hne : (d == sysModules) = false)
    (h : wpAny Z.M C.A (eval e C.env) (Dgt Z C d Q) E s)
    (he : autoParam (starEach [e] C.env = [(false, eval e C.env)]) kq) : wpAny Z.M C.A (callWith pos (.builtin "dict.get") [.ref d] (backTo pos (starEach [e] C.env)) []) Q E s := by
  have : backTo pos (starEach [e] C.env) = [(false, eval e C.env)] := by rw [he]; rfl
  rw [this]
  refine wpAny_dict_get1 (knd := ik Z.w) hne (wpAny_mono h (fun key s₁ z => ?_) fun _ _ z => z)
  obtain ⟨i, t, R', m', H', kvs, ep', rfl, S', hd, k⟩ := z
  exact ⟨i, _, intKind_is PR Z.w i t, (S'.dof hd).mapOf, k _ S'.tok⟩

/- sets of ints -/
theorem Sat.stt {S₀ : Int → Bool} {n : Nat} (S : Sat Z C R m H s) (h : H d = some (.st S₀ n)) : s.heap.SetOf (ik Z.w) d S₀ n := let ⟨o, ho, es, ep, t, r⟩ := S.own _ _ h; ⟨o, es, ep, t, ho, r⟩
theorem W_newSet (S : Sat Z C R m H s) (h : ∀ d s', H d = none → R d = none → Sat Z C R m (up H d (.st (fun _ => false) 0)) s' → Q (.ref d) s') : wpAny Z.M C.A (call (.type "set") []) Q E s := by
  refine newSet_N S.fr0 S.news0 fun h' led F N => h _ _ S.fresh.1 S.fresh.2 (S.new0 (t := s.toks) F N (get_size _) ?_)
  exact ⟨#[], 0, SetTable.fresh 0 0 led, ⟨rfl, rfl, rfl⟩, rfl, fun e he => by simp at he, fun k => by simp, by decide, rfl, rfl⟩
theorem W_sadd {S₀ : Int → Bool} {n : Nat} (S : Sat Z C R m H s) (h : H d = some (.st S₀ n)) (hn : n + 1 < scanBound) (k : ∀ s', Sat Z C R m (up H d (.st (fun j => S₀ j || decide (j = i)) (if S₀ i then n else n + 1))) s' → Q .none s') : wpAny Z.M C.A (call (.builtin "set.add") [.ref d, .int i t]) Q E s :=
  call_set_add (knd := ik Z.w) (intKind_is PR Z.w i t) rfl (S.stt h) hn fun h' hs hS => k _ (S.upd (t := s.toks + 1) h hs (let ⟨o, es, ep, t, ho, r⟩ := hS; ⟨o, ho, es, ep, t, r⟩))
theorem W_smeth {Q : Value × List Value → Shared → Prop} {pl : Sem Bool} {S₀ : Int → Bool} {n : Nat} (S : Sat Z C R m H s) (h : H d = some (.st S₀ n)) (k : Q (.builtin "set.add", [.ref d]) s) : wpAny Z.M C.A (getMethod (.ref d) "add" pl) Q E s := getMethod_set_add (knd := ik Z.w) (S.stt h) k
theorem W_sin {S₀ : Int → Bool} {n : Nat} (S : Sat Z C R m H s) (h : H d = some (.st S₀ n)) (k : ∀ s', Sat Z C R m H s' → Q (.bool (S₀ i)) s') : wpAny Z.M C.A (compareOp .In (.int i t) (.ref d)) Q E s :=
  wpAny_inSet_of (knd := ik Z.w) (intKind_is PR Z.w i t) rfl (S.stt h) (k _ S.tok)
end

section
variable {Z : Zs} {C : Cx} {R : Rp} {m m' : Loc} {H : Hp} {s : Shared} {E : Value → Shared → Prop}

/-- a def without cells, entered under any marks -/
theorem W_enterA {RR : Result → Shared → Prop} {f : Addr} {fd : FuncData} {body : List Stmt} {args : Args} {binds : List (Str × Value)} {oc : Value} {od : Option Addr} {osl : Array (Option Value)} (A' : Around)
    (S : Sat Z C R m H s) (hAf : A'.frames = C.A.frames) (hAd : A'.depth ≤ C.A.depth + 1) (hAu : A'.units ≤ C.A.units + 10) (hAh : A'.handled = C.A.handled)
    (ho : (Kw Z.w).lookup f = some ⟨oc, od, .func fd, osl⟩) (hrm : 0 < C.rm) (hb : fd.body = .stmts body) (hbind : BindsTo s fd args binds)
    (h : ∀ C' s', C'.env.scope = fd.scope → C'.env.cells = fd.closure → C'.rm + 1 = C.rm → C'.A.handled = C.A.handled → C'.fst = C'.env :: C.fst → C'.env.frame = some C'.env.locals → C'.env.qual = fd.qualname ++ ".<locals>." → C'.env.code = fd.code →
      (∀ m'' H'' s'', Sat Z C' R m'' H'' s'' → Sat Z C R m H'' s'') → C'.frs = (C.env.locals, m) :: C.frs → Sat Z C' R (fun y => binds.reverse.lookup y) H s' →
      wpAny Z.M C'.A (execs body C'.env) (fun fl s'' => RR (.ok (.ret (retv fl))) s'') (fun e s'' => wpAny Z.M C'.A (leaving C'.env e) (fun _ s3 => RR (.error e) s3) (fun e' s3 => RR (.error e') s3) s'') s')
    (hcd : autoParam (codeIn (Kw Z.w) fd.code fd.qualname = true) kr) (hg : autoParam (fd.globals = mainGlobals) kr) (hbn : autoParam (fd.builtins = builtinsNs) kr)
    (hcell : autoParam ((fd.scope.names.all fun x => x.2 != .cell) = true) kr) (hloc : autoParam ((binds.all fun x => decide (fd.scope.names.lookup x.1 = some .local)) = true) kr)
    (hco : autoParam (fd.scope.isCoroutine = false) kr) (hgen : autoParam (fd.scope.isGenerator = false) kr) (hk : autoParam (fd.scope.kind = .function) kr) :
    codeAny Z.M A' (.call (.ref f) args) RR s := by
  have cd := S.c.depth
  refine codeAny_call_def (fd := fd) (body := body) (binds := binds) (by have : recursionLimit = 1000 := rfl; lia) (S.K _ _ ho) rfl (S.z.nolimit.keeps S.G) (codeRec_of S.K hcd) hb hbind
    (fun x hx => by have := List.all_eq_true.mp hcell x hx; simpa using this) (locs hloc) (fun h₁ hns hk₁ => ?_) hco hgen hk
  have S' := S.sub (t := s.toks + binds.length) (env := callEnv fd s.heap.objs.size f) (A'.deeper (callEnv fd s.heap.objs.size f)) hrm rfl rfl rfl hk hg hbn (by show A'.frames.map _ = _; rw [hAf, S.c.frames]; rfl) (by show A'.depth + 1 ≤ _; exact Nat.add_le_add_right (by assumption) _) (by show A'.units + 3 ≤ _; lia) hns hk₁
  refine wpAny_mono (h { A := A'.deeper (callEnv fd s.heap.objs.size f), env := callEnv fd s.heap.objs.size f, frs := (C.env.locals, m) :: C.frs, fst := callEnv fd s.heap.objs.size f :: C.fst, rm := C.rm - 1 } _ rfl rfl (by show C.rm - 1 + 1 = C.rm; exact Nat.sub_add_cancel (by assumption)) hAh rfl rfl rfl rfl (fun m'' H'' s'' S'' => S.exit rfl S'') rfl S') (fun fl s'' hl => ?_) (fun e s'' he => he)
  cases fl <;> exact hl

/-- a def with a starred parameter and no cells, entered -/
theorem W_enterV {RR : Result → Shared → Prop} {f : Addr} {fd : FuncData} {body : List Stmt} {args : Args} {ps : List Value} {binds : Value → List (Str × Value)} {oc : Value} {od : Option Addr} {osl : Array (Option Value)} (A' : Around)
    (S : Sat Z C R m H s) (hAf : A'.frames = C.A.frames) (hAd : A'.depth ≤ C.A.depth + 1) (hAu : A'.units ≤ C.A.units + 10) (hAh : A'.handled = C.A.handled)
    (ho : (Kw Z.w).lookup f = some ⟨oc, od, .func fd, osl⟩) (hrm : 0 < C.rm) (hb : fd.body = .stmts body) (hbind : bindArgs fd args = newTuple ps >>= fun t => pure (binds t)) (hz : ps.length ≤ 1000)
    (h : ∀ C' t s', C'.env.scope = fd.scope → C'.env.cells = fd.closure → C'.rm + 1 = C.rm → C'.A.handled = C.A.handled → C'.fst = C'.env :: C.fst → C'.env.frame = some C'.env.locals → C'.env.qual = fd.qualname ++ ".<locals>." → C'.env.code = fd.code → H t = none → R t = none →
      (∀ m'' H'' s'', Sat Z C' R m'' H'' s'' → Sat Z C R m H'' s'') → C'.frs = (C.env.locals, m) :: C.frs → Sat Z C' R (fun y => (binds (.ref t)).reverse.lookup y) (up H t (.tup ps)) s' →
      wpAny Z.M C'.A (execs body C'.env) (fun fl s'' => RR (.ok (.ret (retv fl))) s'') (fun e s'' => wpAny Z.M C'.A (leaving C'.env e) (fun _ s3 => RR (.error e) s3) (fun e' s3 => RR (.error e') s3) s'') s')
    (hcd : autoParam (codeIn (Kw Z.w) fd.code fd.qualname = true) kr) (hg : autoParam (fd.globals = mainGlobals) kr) (hbn : autoParam (fd.builtins = builtinsNs) kr)
    (hcell : autoParam ((fd.scope.names.all fun x => x.2 != .cell) = true) kr) (hloc : ∀ t, ((binds t).all fun x => decide (fd.scope.names.lookup x.1 = some .local)) = true := by intro t; kernel_rfl)
    (hco : autoParam (fd.scope.isCoroutine = false) kr) (hgen : autoParam (fd.scope.isGenerator = false) kr) (hk : autoParam (fd.scope.kind = .function) kr) :
    codeAny Z.M A' (.call (.ref f) args) RR s := by
  have cd := S.c.depth
  refine codeAny_call_function (fd := fd) (body := body) (by have : recursionLimit = 1000 := rfl; lia) (S.K _ _ ho) rfl hco hgen hb (codeRec_of S.K hcd) ?_
  rw [hbind]
  refine wpAny_bind (wpAny_newTuple (wpAny_pure ?_) (by rw [sizeLine_eq]; exact le1 (by assumption) (Nat.le_of_ble_eq_true rfl)))
  have S1 := S.new (t := s.toks) (d := .tup ps) (h' := s.heap.push { cls := .type "tuple", data := .seq ps.toArray }) (fun b o e => Heap.get?_push_of_some _ e) ⟨_, Heap.get?_push_size _ rfl, 0, rfl⟩
  have fz := S.fresh
  refine wpAny_newFunctionEnv (fun x hx => by have := List.all_eq_true.mp hcell x hx; simpa using this) (locs (hloc _)) (fun h₁ hns hsb => ⟨(S1.z.nolimit.keeps S1.G).fresh _ hsb, codeAny_func ?_⟩) hk
  have k1 : ∀ b o, (s.heap.push { cls := .type "tuple", data := .seq ps.toArray }).get? b = some o → h₁.get? b = some o := fun b o e => hsb.extBut b o (Nat.ne_of_lt (Heap.lt_size e)) (Heap.get?_push_of_some _ e)
  have S' := S1.sub (t := s.toks + (binds (.ref s.heap.objs.size)).length) (env := callEnv fd (s.heap.push { cls := .type "tuple", data := .seq ps.toArray }).objs.size f) (A'.deeper (callEnv fd (s.heap.push { cls := .type "tuple", data := .seq ps.toArray }).objs.size f)) hrm rfl rfl rfl hk hg hbn (by show A'.frames.map _ = _; rw [hAf, S.c.frames]; rfl) (by show A'.depth + 1 ≤ _; exact Nat.add_le_add_right (by assumption) _) (by show A'.units + 3 ≤ _; lia) hns k1
  refine wpAny_mono (h { A := A'.deeper (callEnv fd (s.heap.push { cls := .type "tuple", data := .seq ps.toArray }).objs.size f), env := callEnv fd (s.heap.push { cls := .type "tuple", data := .seq ps.toArray }).objs.size f, frs := (C.env.locals, m) :: C.frs, fst := callEnv fd (s.heap.push { cls := .type "tuple", data := .seq ps.toArray }).objs.size f :: C.fst, rm := C.rm - 1 } _ _ rfl rfl (by show C.rm - 1 + 1 = C.rm; exact Nat.sub_add_cancel (by assumption)) hAh rfl rfl rfl rfl fz.1 fz.2 (fun m'' H'' s'' S'' => S.exit rfl S'') rfl S') (fun fl s'' hl => ?_) (fun e s'' he => he)
  cases fl <;> exact hl

theorem W_make {Q : Value → Shared → Prop} {Cl f : Addr} {pos : List Value} (S : Sat Z C R m H s)
    (h : ∀ x dx s' A', H x = none → H dx = none → R x = none → R dx = none → x ≠ dx → A'.frames = C.A.frames → A'.depth ≤ C.A.depth + 1 → A'.units ≤ C.A.units + 10 → A'.handled = C.A.handled →
      Sat Z C R m (up (up H dx (.ns (fun _ => none) 0)) x (.ob (instObj Cl dx))) s' → codeAny Z.M A' (.call (.ref f) ⟨.ref x :: pos, []⟩) (InitBack x fun r s' => match r with | .ok (.ret v) => Q v s' | .ok _ => False | .error e => E e s') s')
    (hm : autoParam (makesIn (Kw Z.w) Cl = true) kr) (hi : autoParam (findIn (Kw Z.w) (.ref Cl) "__init__" = some (some (.ref f))) kr) (hf : autoParam (typeIn (Kw Z.w) (.ref f) = some (.type "function")) kr) :
    wpAny Z.M C.A (call (.ref Cl) pos []) Q E s := by
  refine wpAny_call ?_
  obtain ⟨hh, g, d, t, os⟩ := s
  refine make_core (makes_of S.K hm) (looks_findIn S.K hi) (fun self => bind_fn S.K self hf) (.inl rfl) ?_
  have S1 := S.new (t := t) (d := .ns (fun _ => none) 0) (h' := hh.push emptyDict) (fun b o e => Heap.get?_push_of_some _ e) ⟨_, Heap.get?_push_size _ rfl, #[], 0, rfl, fun e he => by simp at he, fun name => rfl, by simp⟩
  have S2 := S1.new (t := t) (d := .ob (instObj Cl hh.objs.size)) (h' := (hh.push emptyDict).push (instObj Cl hh.objs.size)) (fun b o e => Heap.get?_push_of_some _ e) ⟨_, Heap.get?_push_size _ rfl, rfl⟩
  have f1 := S.fresh
  have f2 := S1.fresh
  dsimp only at f1 f2 S2
  rw [Heap.size_push] at S2 f2
  have ne : hh.objs.size + 1 ≠ hh.objs.size := by lia
  rw [up_other ne] at f2
  exact h _ _ _ _ f2.1 f1.1 f2.2 f1.2 ne rfl (by simp only [depth_under_make]; lia) (by simp only [units_under_make]; lia) rfl S2
end

section
variable {Z : Zs} {C : Cx} {R : Rp} {m m' : Loc} {H : Hp} {s : Shared} {E : Value → Shared → Prop}

noncomputable def nodeP (dx : Addr) (sl : Array (Option Value)) : Obj := { cls := .ref 47, dict := some dx, data := .plain, slots := sl }
theorem W_initslot {Q : Unit → Shared → Prop} {x dx p : Addr} {i n : Nat} {mN : Loc} {name : Str} {v : Value} {sl sl' : Array (Option Value)} (S : Sat Z C R m H s) (hx : H x = some (.ob (nodeP dx sl))) (hd : H dx = some (.ns mN n))
    (hp : slotIn (Kw Z.w) p 47 = some i) (hi : i < 1000) (ht : takerIn (Kw Z.w) 47 name = some (some (.ref p))) (hT : typeIn (Kw Z.w) (.ref p) = some (.type "member_descriptor")) (e : (sl ++ Array.replicate (i + 1 - sl.size) none).setIfInBounds i (some v) = sl')
    (h : ∀ s', Sat Z C R m (up H x (.ob (nodeP dx sl'))) s' → Q () s') : wpAny Z.M C.A (setAttr (.ref x) name v) Q E s := by
  refine hide fun G hG => ?_
  obtain ⟨o, ho, rfl⟩ := S.own _ _ hx
  obtain ⟨od, hod, hn⟩ := S.own _ _ hd
  refine hG ?_
  clear hG
  have I : InstAt s.heap x (nodeP dx sl) 47 (some od) := ⟨ho, rfl, rfl, hod⟩
  exact W_setslot (p := p) (i := i) S I hx (d' := .ob (nodeP dx sl')) (by show _ = _; rw [← e]; rfl) hp hi ht h hT

theorem spec_NodeInfo {Q : Value → Shared → Prop} {i : Int} {t : Tok} (S : Sat Z C R m H s) (hrm : 0 < C.rm)
    (h : ∀ x dx l u s' H', H x = none → H dx = none → H l = none → x ≠ dx → x ≠ l → dx ≠ l → H' x = some (.ob (nodeO dx (.int i t) (.int 0 u) (.ref l))) → H' dx = some (.ns (fun _ => none) 0) → H' l = some (.lst []) →
      (∀ b, b ≠ x → b ≠ dx → b ≠ l → H' b = H b) → Sat Z C R m H' s' → Q (.ref x) s') :
    wpAny Z.M C.A (call (.ref 47) [.int i t] []) Q E s := by
  refine W_make (f := 43) S fun x dx s' A' x1 x2 x3 x4 x5 a1 a2 a3 a4 S' => ?_
  refine W_enterA A' S' a1 a2 a3 a4 (by rfl) hrm (by rfl) (BindsTo.of_eq (binds := [("self", .ref x), ("node", .int i t)]) (by rfl)) fun C' s'' hsc hcl hr hh hfst hfr hq hcd ex hfrs S'' => ?_
  clear S hfst hfr hq hcd hfrs hcl S'
  (with_reducible refine W_cons ?_; intro _ _)
  with_reducible refine plainObj_wpAny_Assign_Attribute ?_ (by kernel_rfl)
  refine W_loc S'' hsc (by rfl) ?_
  refine W_loc S'' hsc (by rfl) ?_
  refine W_initslot (mN := fun _ => none) (n := 0) (p := 48) (i := 0) (sl := #[]) (sl' := #[some (.int i t)]) (dx := dx) S'' up_same (by simp [up, Ne.symm x5]) (by kernel_rfl) (by decide) (by kernel_rfl) (by kernel_rfl) rfl fun s S => ?_
  clear S''
  (with_reducible refine Then.nx (by assumption) _ ?_; with_reducible refine W_cons ?_; intro _ _)
  with_reducible refine plainObj_wpAny_Assign_Attribute ?_ (by kernel_rfl)
  refine W_int S fun u s S => ?_
  refine W_loc S hsc (by rfl) ?_
  refine W_initslot (mN := fun _ => none) (n := 0) (p := 49) (i := 1) (sl' := #[some (.int i t), some (.int 0 u)]) (dx := dx) S up_same (by simp [up, Ne.symm x5]) (by kernel_rfl) (by decide) (by kernel_rfl) (by kernel_rfl) rfl fun s S => ?_
  (with_reducible refine Then.nx (by assumption) _ ?_; with_reducible refine W_cons ?_; intro _ _)
  with_reducible refine plainObj_wpAny_Assign_Attribute ?_ (by kernel_rfl)
  with_reducible refine List_ ?_
  with_reducible refine spliced_none ?_
  refine W_newList S (fun l s l1 l2 S => ?_) (by decide)
  have l3 : l ≠ x := fun q => by rw [q, up_same] at l1; cases l1
  have l4 : l ≠ dx := fun q => by rw [q] at l1; simp [up, Ne.symm x5] at l1
  have l5 : H l = none := by simpa [up, l3, l4] using l1
  refine W_loc S hsc (by rfl) ?_
  refine W_initslot (mN := fun _ => none) (n := 0) (p := 50) (i := 2) (sl := #[some (.int i t), some (.int 0 u)]) (sl' := #[some (.int i t), some (.int 0 u), some (.ref l)]) (dx := dx) S (by simp [up, Ne.symm l3]) (by simp [up, Ne.symm l4, Ne.symm x5]) (by kernel_rfl) (by decide) (by kernel_rfl) (by kernel_rfl) rfl fun s S => ?_
  (with_reducible refine Then.nx (by assumption) _ ?_; with_reducible refine wpAny_execs_nil ?_)
  refine ⟨rfl, h x dx l u _ _ x1 x2 l5 x5 (Ne.symm l3) (Ne.symm l4) up_same ?_ ?_ ?_ (ex _ _ _ S)⟩
  · simp [up, Ne.symm l4, Ne.symm x5]
  · simp [up, l3]
  · intro b b1 b2 b3; simp [up, b1, b2, b3]
end

noncomputable def atts (d : Addr) (rv np nf : Value) : Loc := put (put (put (put (fun _ => none) (Str.ofString "_node2info") (.ref d)) (Str.ofString "_ready_nodes") rv) (Str.ofString "_npassedout") np) (Str.ofString "_nfinished") nf
theorem atts_ready (d : Addr) (rv np nf v : Value) : put (atts d rv np nf) (Str.ofString "_ready_nodes") v = atts d v np nf := by
  funext y; unfold atts put
  by_cases h1 : y = Str.ofString "_nfinished"
  · subst h1; simp (decide := true)
  · by_cases h2 : y = Str.ofString "_npassedout"
    · subst h2; simp (decide := true)
    · by_cases h3 : y = Str.ofString "_ready_nodes"
      · subst h3; simp (decide := true)
      · simp [h1, h2, h3]
theorem atts_np (d : Addr) (rv np nf v : Value) : put (atts d rv np nf) (Str.ofString "_npassedout") v = atts d rv v nf := by
  funext y; unfold atts put
  by_cases h1 : y = Str.ofString "_nfinished"
  · subst h1; simp (decide := true)
  · by_cases h2 : y = Str.ofString "_npassedout"
    · subst h2; simp (decide := true)
    · simp [h1, h2]
theorem atts_nf (d : Addr) (rv np nf v : Value) : put (atts d rv np nf) (Str.ofString "_nfinished") v = atts d rv np v := by
  funext y; unfold atts put
  by_cases h1 : y = Str.ofString "_nfinished"
  · subst h1; simp
  · simp [h1]

set_option genInjectivity false in
set_option genSizeOf false in
structure Srt where
  x : Addr
  dx : Addr
  d : Addr
  ni : Nat → Addr
  nd : Nat → Addr
  ls : Nat → Addr

/-- the table of nodes -/
structure Core (H : Hp) (σ : Srt) (keys : List Nat) (deg : Nat → Int) (suc : Nat → List Int) : Prop where
  hd : ∃ ep, H σ.d = some (.dct (keys.map fun (i : Nat) => ((i : Int), Value.ref (σ.ni i))) ep)
  hs : (σ.d == sysModules) = false
  hn : ∀ i ∈ keys, ∃ t t', H (σ.ni i) = some (.ob (nodeO (σ.nd i) (.int i t) (.int (deg i) t') (.ref (σ.ls i))))
  hx : ∀ i ∈ keys, H (σ.nd i) = some (.ns (fun _ => none) 0)
  hl : ∀ i ∈ keys, ∃ vs, H (σ.ls i) = some (.lst vs) ∧ IntsAre vs (suc i)
  inj : ∀ i ∈ keys, ∀ j ∈ keys, σ.ls i = σ.ls j → i = j
/-- the sorter itself -/
inductive Att (H : Hp) (σ : Srt) (rv : Value) (np nf : Int) : Prop
  | mk (ax : H σ.x = some (.ob (instObj 144 σ.dx))) (t t' : Tok) (n : Nat) (hn : n ≤ 400) (adx : H σ.dx = some (.ns (atts σ.d rv (.int np t) (.int nf t')) n)) : Att H σ rv np nf
noncomputable def Foot (σ : Srt) (keys : List Nat) (a : Addr) : Prop := a = σ.x ∨ a = σ.dx ∨ a = σ.d ∨ ∃ i ∈ keys, a = σ.ni i ∨ a = σ.nd i ∨ a = σ.ls i
/-- all that was known off F is known as before -/
noncomputable def Kp (F : Addr → Prop) (H H' : Hp) : Prop := ∀ b d, ¬ F b → H b = some d → H' b = some d
theorem Kp.trans {F : Addr → Prop} {H H' H'' : Hp} (a : Kp F H H') (b : Kp F H' H'') : Kp F H H'' := fun x d n e => b x d n (a x d n e)
theorem Kp.up {F : Addr → Prop} {H : Hp} {a : Addr} {d : D} (h : F a) : Kp F H (Mine.up H a d) := fun x dx n e => by
  exact up_ne (fun q : x = a => n (by rw [q]; exact h)) e
/-- nothing is lost -/
noncomputable def Ke (H H' : Hp) : Prop := ∀ b d, H b = some d → H' b = some d
theorem Ke.refl {H : Hp} : Ke H H := fun _ _ e => e
theorem Ke.trans {H H' H'' : Hp} (a : Ke H H') (b : Ke H' H'') : Ke H H'' := fun x d e => b x d (a x d e)
theorem Ke.new {H : Hp} {a : Addr} {d : D} (h : H a = none) : Ke H (Mine.up H a d) := fun x dx e => by
  exact up_ne (fun q => by rw [q, h] at e; cases e) e
theorem Ke.kp {F : Addr → Prop} {H H' : Hp} (a : Ke H H') : Kp F H H' := fun x d _ e => a x d e
theorem Ke.none {H H' : Hp} (a : Ke H H') {b : Addr} (e : H' b = .none) : H b = .none := by
  cases q : H b with
  | none => rfl
  | some d => have := a b d q; rw [e] at this; cases this

section
variable {H H' : Hp} {σ : Srt} {keys : List Nat} {deg : Nat → Int} {suc : Nat → List Int} {rv : Value} {np nf : Int}
theorem Core.ke (h : Core H σ keys deg suc) (e : Ke H H') : Core H' σ keys deg suc where
  hd := let ⟨ep, q⟩ := h.hd; ⟨ep, e _ _ q⟩
  hs := h.hs
  hn := fun i hi => let ⟨t, t', q⟩ := h.hn i hi; ⟨t, t', e _ _ q⟩
  hx := fun i hi => e _ _ (h.hx i hi)
  hl := fun i hi => let ⟨vs, q, r⟩ := h.hl i hi; ⟨vs, e _ _ q, r⟩
  inj := h.inj
theorem Core.kp {F : Addr → Prop} (h : Core H σ keys deg suc) (e : Kp F H H') (nF : ∀ b, Foot σ keys b → ¬ F b) : Core H' σ keys deg suc where
  hd := let ⟨ep, q⟩ := h.hd; ⟨ep, e _ _ (nF _ (.inr (.inr (.inl rfl)))) q⟩
  hs := h.hs
  hn := fun i hi => let ⟨t, t', q⟩ := h.hn i hi; ⟨t, t', e _ _ (nF _ (.inr (.inr (.inr ⟨i, hi, .inl rfl⟩)))) q⟩
  hx := fun i hi => e _ _ (nF _ (.inr (.inr (.inr ⟨i, hi, .inr (.inl rfl)⟩)))) (h.hx i hi)
  hl := fun i hi => let ⟨vs, q, r⟩ := h.hl i hi; ⟨vs, e _ _ (nF _ (.inr (.inr (.inr ⟨i, hi, .inr (.inr rfl)⟩)))) q, r⟩
  inj := h.inj
theorem Att.ke (h : Att H σ rv np nf) (e : Ke H H') : Att H' σ rv np nf := let ⟨a, t, t', n, z, b⟩ := h; ⟨e _ _ a, t, t', n, z, e _ _ b⟩
theorem Att.kp {F : Addr → Prop} (h : Att H σ rv np nf) (e : Kp F H H') (nF : ∀ b, Foot σ keys b → ¬ F b) : Att H' σ rv np nf :=
  let ⟨a, t, t', n, z, b⟩ := h; ⟨e _ _ (nF _ (.inl rfl)) a, t, t', n, z, e _ _ (nF _ (.inr (.inl rfl))) b⟩
theorem Core.ni_ne (h : Core H σ keys deg suc) {i j : Nat} (hi : i ∈ keys) (hj : j ∈ keys) (ne : i ≠ j) : σ.ni i ≠ σ.ni j := fun q => by
  obtain ⟨t, t', a⟩ := h.hn i hi
  obtain ⟨u, u', b⟩ := h.hn j hj
  rw [q, b] at a
  injection a with a; injection a with a
  unfold nodeO at a
  injection a with _ _ _ a
  simp at a
  lia
theorem Core.ne_d (h : Core H σ keys deg suc) {a : Addr} {o : D} (e : H a = some o) (ne : ∀ kvs ep, o ≠ .dct kvs ep) : a ≠ σ.d := fun q => by
  obtain ⟨ep, b⟩ := h.hd
  rw [q, b] at e; cases e; exact ne _ _ rfl
theorem Core.setDeg (h : Core H σ keys deg suc) {i : Nat} {v : Int} {t u : Tok} (hi : i ∈ keys) :
    Core (up H (σ.ni i) (.ob (nodeO (σ.nd i) (.int i t) (.int v u) (.ref (σ.ls i))))) σ keys (fun j => if j = i then v else deg j) suc := by
  obtain ⟨t0, t0', e⟩ := h.hn i hi
  refine ⟨?_, h.hs, fun j hj => ?_, fun j hj => ?_, fun j hj => ?_, h.inj⟩
  · obtain ⟨ep, b⟩ := h.hd
    exact ⟨ep, up_ne (Ne.symm (h.ne_d e fun _ _ q => by cases q)) b⟩
  · by_cases q : j = i
    · subst q; exact ⟨t, u, by rw [up_same, if_pos rfl]⟩
    · obtain ⟨a, b, c⟩ := h.hn j hj
      exact ⟨a, b, by rw [up_other (h.ni_ne hj hi q), if_neg q]; exact c⟩
  · exact up_ne (fun q => by have := h.hx j hj; rw [q, e] at this; cases this) (h.hx j hj)
  · obtain ⟨vs, a, b⟩ := h.hl j hj
    exact ⟨vs, up_ne (fun q => by rw [q, e] at a; cases a) a, b⟩
theorem Core.addSuc (h : Core H σ keys deg suc) {i : Nat} {v : Int} {u : Tok} {vs : List Value} (hi : i ∈ keys) (hv : H (σ.ls i) = some (.lst vs)) (hvs : IntsAre vs (suc i)) :
    Core (up H (σ.ls i) (.lst (vs ++ [.int v u]))) σ keys deg (fun j => if j = i then suc i ++ [v] else suc j) := by
  refine ⟨?_, h.hs, fun j hj => ?_, fun j hj => ?_, fun j hj => ?_, h.inj⟩
  · obtain ⟨ep, b⟩ := h.hd
    exact ⟨ep, up_ne (Ne.symm (h.ne_d hv fun _ _ q => by cases q)) b⟩
  · obtain ⟨a, b, c⟩ := h.hn j hj
    exact ⟨a, b, up_ne (fun q => by rw [q, hv] at c; cases c) c⟩
  · exact up_ne (fun q => by have := h.hx j hj; rw [q, hv] at this; cases this) (h.hx j hj)
  · by_cases q : j = i
    · subst q
      refine ⟨_, up_same, ?_⟩
      rw [if_pos rfl]
      exact hvs.append (.cons _ _ .nil)
    · obtain ⟨ws, a, b⟩ := h.hl j hj
      exact ⟨ws, up_ne (fun z => q (h.inj j hj i hi z)) a, by rw [if_neg q]; exact b⟩
theorem Att.set (h : Att H σ rv np nf) {n : Nat} {rv' : Value} {np' nf' : Int} {t t' : Tok} (hn : n ≤ 400) : Att (up H σ.dx (.ns (atts σ.d rv' (.int np' t) (.int nf' t')) n)) σ rv' np' nf' := by
  obtain ⟨a, _, _, _, _, b⟩ := h
  exact ⟨up_ne (fun q => by rw [q, b] at a; cases a) a, t, t', n, hn, up_same⟩
theorem Att.dx_ne_nd (h : Att H σ rv np nf) (c : Core H σ keys deg suc) {i : Nat} (hi : i ∈ keys) : σ.nd i ≠ σ.dx := fun q => by
  obtain ⟨_, _, _, _, _, b⟩ := h
  have := c.hx i hi
  rw [q, b] at this
  injection this with this; injection this with this _
  have e := congrFun this (Str.ofString "_nfinished")
  simp [atts, put] at e
end

section
variable {Z : Zs} {C : Cx} {R : Rp} {m m' : Loc} {H : Hp} {s : Shared} {E : Value → Shared → Prop} {x dx : Addr} {name : Str} {v : Value} {mN : Loc} {n : Nat}
theorem W_setattrN {Q : Unit → Shared → Prop} {Cl : Addr} (S : Sat Z C R m H s) (hx : H x = some (.ob (instObj Cl dx))) (hd : H dx = some (.ns mN n)) (hn : n ≤ 500) (hm : mN name = none)
    (h : ∀ s', Sat Z C R m (up H dx (.ns (put mN name v) (n + 1))) s' → Q () s')
    (ht : autoParam (takerIn (Kw Z.w) Cl name = some none) kr) (hsa : autoParam (findIn (Kw Z.w) (.ref Cl) "__setattr__" = some (some (.builtin "object.__setattr__"))) kr) (hpo : autoParam (plainOver (Kw Z.w) Cl = true) kr) (hdi : autoParam (hasDictIn (Kw Z.w) Cl = true) kr) :
    wpAny Z.M C.A (setAttr (.ref x) name v) Q E s := W_setattr S hx hd hn (by rw [hm]; exact h) ht hsa hpo hdi
theorem W_setattrO {Q : Unit → Shared → Prop} {Cl : Addr} (S : Sat Z C R m H s) (hx : H x = some (.ob (instObj Cl dx))) (hd : H dx = some (.ns mN n)) (hn : n ≤ 500) (hm : (mN name).isSome = true)
    (h : ∀ s', Sat Z C R m (up H dx (.ns (put mN name v) n)) s' → Q () s')
    (ht : autoParam (takerIn (Kw Z.w) Cl name = some none) kr) (hsa : autoParam (findIn (Kw Z.w) (.ref Cl) "__setattr__" = some (some (.builtin "object.__setattr__"))) kr) (hpo : autoParam (plainOver (Kw Z.w) Cl = true) kr) (hdi : autoParam (hasDictIn (Kw Z.w) Cl = true) kr) :
    wpAny Z.M C.A (setAttr (.ref x) name v) Q E s := W_setattr S hx hd hn (by rw [hm]; exact h) ht hsa hpo hdi

theorem spec_TS {Q : Value → Shared → Prop} {ni nd ls : Nat → Addr} {deg : Nat → Int} {suc : Nat → List Int} (S : Sat Z C R m H s) (hrm : 0 < C.rm)
    (h : ∀ x dx d s' H', Ke H H' → H x = none → H dx = none → H d = none → Core H' ⟨x, dx, d, ni, nd, ls⟩ [] deg suc → Att H' ⟨x, dx, d, ni, nd, ls⟩ .none 0 0 → Sat Z C R m H' s' → Q (.ref x) s') :
    wpAny Z.M C.A (call (.ref 144) [] []) Q E s := by
  refine W_make (f := 80) S fun x dx s' A' x1 x2 x3 x4 x5 a1 a2 a3 a4 S' => ?_
  refine W_enterA A' S' a1 a2 a3 a4 (by rfl) hrm (by rfl) (BindsTo.of_defaults (binds := [("self", .ref x), ("graph", .none)]) (T := 73) (items := #[.none]) (n := 0) (by rfl) (S'.K 73 _ (by rfl)) (by rfl) (by rfl) (by rfl)) fun C' s'' hsc hcl hr hh hfst hfr hq hcd ex hfrs S'' => ?_
  clear S hfst hfr hq hcd hfrs hcl S'
  (with_reducible refine W_cons ?_; intro _ _)
  with_reducible refine plainObj_wpAny_Assign_Attribute ?_ (by kernel_rfl)
  refine W_newDict S'' fun d s d1 d2 d3 S => ?_
  clear S''
  have dx' : d ≠ x := fun q => by rw [q, up_same] at d1; cases d1
  have ddx : d ≠ dx := fun q => by rw [q] at d1; simp [up, Ne.symm x5] at d1
  have d0 : H d = none := by simpa [up, dx', ddx] using d1
  refine W_loc S hsc (by rfl) ?_
  refine W_setattrN (mN := fun _ => none) (n := 0) (Cl := 144) (dx := dx) S (by simp [up, Ne.symm dx']) (by simp [up, Ne.symm ddx, Ne.symm x5]) (by decide) rfl fun s S => ?_
  (with_reducible refine Then.nx (by assumption) _ ?_; with_reducible refine W_cons ?_; intro _ _)
  with_reducible refine plainObj_wpAny_Assign_Attribute ?_ (by kernel_rfl)
  with_reducible refine wpAny_Constant_none ?_
  refine W_loc S hsc (by rfl) ?_
  refine W_setattrN (n := 1) (Cl := 144) (dx := dx) S (by simp [up, Ne.symm dx', x5]) up_same (by decide) (by rfl) fun s S => ?_
  (with_reducible refine Then.nx (by assumption) _ ?_; with_reducible refine W_cons ?_; intro _ _)
  with_reducible refine plainObj_wpAny_Assign_Attribute ?_ (by kernel_rfl)
  refine W_int S fun t s S => ?_
  refine W_loc S hsc (by rfl) ?_
  refine W_setattrN (n := 2) (Cl := 144) (dx := dx) S (by simp [up, Ne.symm dx', x5]) up_same (by decide) (by rfl) fun s S => ?_
  (with_reducible refine Then.nx (by assumption) _ ?_; with_reducible refine W_cons ?_; intro _ _)
  with_reducible refine plainObj_wpAny_Assign_Attribute ?_ (by kernel_rfl)
  refine W_int S fun u s S => ?_
  refine W_loc S hsc (by rfl) ?_
  refine W_setattrN (n := 3) (Cl := 144) (dx := dx) S (by simp [up, Ne.symm dx', x5]) up_same (by decide) (by rfl) fun s S => ?_
  (with_reducible refine Then.nx (by assumption) _ ?_; with_reducible refine W_cons ?_; intro _ _)
  with_reducible refine wpAny_If ?_
  with_reducible refine wpAny_isTrue_Compare1 ?_ (by kernel_rfl)
  refine W_loc S hsc (by rfl) ?_
  with_reducible refine wpAny_Constant_none ?_
  refine wpAny_isNot_plain (by rfl) ?_
  with_reducible refine wpAny_truthy_bool ?_
  refine ifF (by decide) ?_
  (with_reducible refine wpAny_execs_nil ?_; with_reducible refine Then.nx (by assumption) _ ?_)
  with_reducible refine wpAny_execs_nil ?_
  refine ⟨rfl, h x dx d _ _ ?_ x1 x2 d0 ⟨⟨0, ?_⟩, d3, by simp, by simp, by simp, by simp⟩ ⟨?_, t, u, 4, by decide, up_same⟩ (ex _ _ _ S)⟩
  · intro b db e
    have b1 : b ≠ x := fun q => by rw [q, x1] at e; cases e
    have b2 : b ≠ dx := fun q => by rw [q, x2] at e; cases e
    have b3 : b ≠ d := fun q => by rw [q, d0] at e; cases e
    simp [up, b1, b2, b3, e]
  · simp [up, ddx]
  · simp [up, x5, Ne.symm dx']
end

theorem valueAt_keys (ni : Nat → Addr) : ∀ (keys : List Nat) (i : Nat), valueAt (keys.map fun (j : Nat) => ((j : Int), Value.ref (ni j))) (i : Int) = if i ∈ keys then some (.ref (ni i)) else none
  | [], i => by simp [valueAt]
  | j :: r, i => by
    have ih := valueAt_keys ni r i
    unfold valueAt at ih ⊢
    rw [List.map_cons, List.find?_cons]
    by_cases q : j = i
    · subst q; simp
    · have : ¬ ((j : Int) = (i : Int)) := by lia
      simp only [this, decide_false]
      rw [ih]
      simp [List.mem_cons, Ne.symm q]
theorem assign_sub {M : Model} {A : Around} {E : Value → Shared → Prop} {s : Shared} {env : Env} {o i : Expr} {pos : Pos} {v : Value} {Q : Unit → Shared → Prop}
    (h : wpAny M A (eval o env) (fun ov s₂ => wpAny M A (eval i env) (fun iv s₃ => wpAny M A (setItem ov iv v) Q E s₃) E s₂) E s) : wpAny M A (assign (.Subscript o i pos) env v) Q E s := by
  show wpAny M A (holding [v] (eval o env) >>= fun ov => holding [v, ov] (eval i env) >>= fun iv => standAt pos >>= fun _ => holding [v, ov, iv] (setItem ov iv v) >>= fun _ => release _ []) Q E s
  refine wpAny_bind (wpAny_holding (wpAny_mono h (fun ov s₂ h₂ => wpAny_bind (wpAny_holding (wpAny_mono h₂ (fun iv s₃ h₃ => wpAny_bind (wpAny_standAt (wpAny_bind (wpAny_holding (wpAny_mono h₃ (fun _ s₄ h₄ => wpAny_release h₄) fun _ _ z => z))))) fun _ _ z => z))) fun _ _ z => z))
section
variable {Z : Zs} {C : Cx} {R : Rp} {m m' : Loc} {H : Hp} {s : Shared} {E : Value → Shared → Prop} {σ : Srt} {keys : List Nat} {deg : Nat → Int} {suc : Nat → List Int} {rv : Value} {np nf : Int} {i : Nat} {t : Tok}

theorem spec_getOld {Q : Value → Shared → Prop} (S : Sat Z C R m H s) (hrm : 0 < C.rm) (c : Core H σ keys deg suc) (a : Att H σ rv np nf) (hi : i ∈ keys) (h : ∀ s', Sat Z C R m H s' → Q (.ref (σ.ni i)) s') :
    wpAny Z.M C.A (call (.ref 87) [.ref σ.x, .int i t] []) Q E s := by
  refine W_enter S (by rfl) hrm (by rfl) (BindsTo.of_eq (binds := [("self", .ref σ.x), ("node", .int i t)]) (by rfl)) fun C' s' hsc hcl hr hh ex S' => ?_
  clear S
  refine hide fun G hG => ?_
  obtain ⟨ax, t1, t2, n, hn, adx⟩ := a
  refine hG ?_
  clear hG
  refine hide fun G hG => ?_
  obtain ⟨ep, cd⟩ := c.hd
  refine hG ?_
  clear hG
  (with_reducible refine W_cons ?_; intro _ _)
  with_reducible refine wpAny_If ?_
  with_reducible refine wpAny_isTrue_Compare1 ?_ (by kernel_rfl)
  with_reducible refine wpAny_NamedExpr ?_
  with_reducible refine methodCall_KW ?_ (by with_unfolding_all rfl)
  with_reducible refine Attribute_any_ ?_ (by kernel_rfl)
  refine W_loc S' hsc (by rfl) ?_
  refine W_attr (Cl := 144) S' ax adx (by rfl) (fun s S => ?_)
  clear S'
  refine W_dmeth S cd PySem.F.slot_dict_get PySem.F.type_dict_get ?_
  refine W_dget c.hs ?_
  refine W_loc S hsc (by rfl) ⟨i, t, _, _, H, _, ep, rfl, S, cd, fun s S => ?_⟩
  rw [valueAt_keys, if_pos hi]
  with_reducible refine wpAny_assign_Name ?_
  refine W_store S hsc fun s S => ?_
  with_reducible refine wpAny_Constant_none ?_
  refine wpAny_is_plain (by rfl) ?_
  with_reducible refine wpAny_truthy_bool ?_
  refine ifF (by simp) ?_
  (with_reducible refine wpAny_execs_nil ?_; with_reducible refine Then.nx (by assumption) _ ?_)
  (with_reducible refine W_cons ?_; intro _ _)
  with_reducible refine wpAny_Return_some ?_
  refine W_loc S hsc (by rfl) ?_
  with_reducible refine Then.ret (by assumption) _ _ ?_
  exact h _ (ex _ _ _ S)

theorem spec_getNew {Q : Value → Shared → Prop} (S : Sat Z C R m H s) (hrm : 1 < C.rm) (c : Core H σ keys deg suc) (a : Att H σ rv np nf) (hi : i ∉ keys) (hz : keys.length ≤ 100)
    (h : ∀ x dx l s' H', H x = none → H dx = none → H l = none → Kp (fun b => b = σ.d) H H' →
      Core H' { σ with ni := fun j => if j = i then x else σ.ni j, nd := fun j => if j = i then dx else σ.nd j, ls := fun j => if j = i then l else σ.ls j } (keys ++ [i]) (fun j => if j = i then 0 else deg j) (fun j => if j = i then [] else suc j) →
      Att H' σ rv np nf → Sat Z C R m H' s' → Q (.ref x) s') :
    wpAny Z.M C.A (call (.ref 87) [.ref σ.x, .int i t] []) Q E s := by
  refine W_enter S (by rfl) (by exact rm0 (by assumption) (Nat.le_of_ble_eq_true rfl)) (by rfl) (BindsTo.of_eq (binds := [("self", .ref σ.x), ("node", .int i t)]) (by rfl)) fun C' s' hsc hcl hr hh ex S' => ?_
  clear S
  have a0 := a
  refine hide fun G hG => ?_
  obtain ⟨ax, t1, t2, n, hn, adx⟩ := a
  refine hG ?_
  clear hG
  refine hide fun G hG => ?_
  obtain ⟨ep, cd⟩ := c.hd
  refine hG ?_
  clear hG
  (with_reducible refine W_cons ?_; intro _ _)
  with_reducible refine wpAny_If ?_
  with_reducible refine wpAny_isTrue_Compare1 ?_ (by kernel_rfl)
  with_reducible refine wpAny_NamedExpr ?_
  with_reducible refine methodCall_KW ?_ (by with_unfolding_all rfl)
  with_reducible refine Attribute_any_ ?_ (by kernel_rfl)
  refine W_loc S' hsc (by rfl) ?_
  refine W_attr (Cl := 144) S' ax adx (by rfl) (fun s S => ?_)
  clear S'
  refine W_dmeth S cd PySem.F.slot_dict_get PySem.F.type_dict_get ?_
  refine W_dget c.hs ?_
  refine W_loc S hsc (by rfl) ⟨i, t, _, _, H, _, ep, rfl, S, cd, fun s S => ?_⟩
  rw [valueAt_keys, if_neg hi]
  with_reducible refine wpAny_assign_Name ?_
  refine W_store S hsc fun s S => ?_
  with_reducible refine wpAny_Constant_none ?_
  refine wpAny_is_plain (by rfl) ?_
  with_reducible refine wpAny_truthy_bool ?_
  refine ifT (by simp) ?_
  (with_reducible refine W_cons ?_; intro _ _)
  refine wpAny_Assign_two ?_ (by kernel_rfl) (by kernel_rfl)
  with_reducible refine wpAny_Call_NameR ?_
  refine W_glob (v := .ref 47) S hsc (by kernel_rfl) ?_
  refine W_callF ?_
  with_reducible refine spliced_more ?_ (by kernel_rfl)
  refine W_loc S hsc (by rfl) ?_
  with_reducible refine spliced_none ?_
  refine ⟨S.K, ?_⟩
  refine spec_NodeInfo S (by exact rmL (by assumption) (by assumption) (Nat.le_of_ble_eq_true rfl)) fun x dx l u s H' x1 dx1 l1 ne1 ne2 ne3 hx hdx hl kp S => ?_
  have ne_d : x ≠ σ.d ∧ dx ≠ σ.d ∧ l ≠ σ.d := ⟨fun q => (by rw [q, cd] at x1; cases x1), fun q => (by rw [q, cd] at dx1; cases dx1), fun q => (by rw [q, cd] at l1; cases l1)⟩
  have old : ∀ b db, H b = some db → H' b = some db := fun b db e => by
    rw [kp b (fun q => by rw [q, x1] at e; cases e) (fun q => by rw [q, dx1] at e; cases e) (fun q => by rw [q, l1] at e; cases e)]; exact e
  refine assign_sub ?_
  with_reducible refine Attribute_any_ ?_ (by kernel_rfl)
  refine W_loc S hsc (by rfl) ?_
  refine W_attr (Cl := 144) S (old _ _ ax) (old _ _ adx) (by rfl) (fun s S => ?_)
  refine W_loc S hsc (by rfl) ?_
  refine W_dset S (old _ _ cd) (by rw [List.length_map]; exact le1 (by assumption) (Nat.le_of_ble_eq_true rfl)) fun ep' s S => ?_
  with_reducible refine wpAny_assign_Name ?_
  refine W_store S hsc fun s S => ?_
  (with_reducible refine Then.nx (by assumption) _ ?_; with_reducible refine wpAny_execs_nil ?_; with_reducible refine Then.nx (by assumption) _ ?_)
  (with_reducible refine W_cons ?_; intro _ _)
  with_reducible refine wpAny_Return_some ?_
  refine W_loc S hsc (by rfl) ?_
  have up_d : ∀ {b : Addr} {db o : D}, H' b = some db → b ≠ σ.d → Mine.up H' σ.d o b = some db := fun e q => up_ne q e
  with_reducible refine Then.ret (by assumption) _ _ ?_
  refine h x dx l _ _ x1 dx1 l1 ?_ ?_ ?_ (ex _ _ _ S)
  · intro b db nb e
    exact up_d (old _ _ e) nb
  · have hne : ∀ j ∈ keys, j ≠ i := fun j hj q => hi (q ▸ hj)
    refine ⟨⟨ep', ?_⟩, c.hs, fun j hj => ?_, fun j hj => ?_, fun j hj => ?_, fun j hj k hk e => ?_⟩
    · show Mine.up H' σ.d _ σ.d = _
      rw [up_same]
      have e1 : ((keys.map fun (j : Nat) => ((j : Int), Value.ref (σ.ni j))).any fun kv => decide (kv.1 = (i : Int))) = false := by
        rw [List.any_eq_false]
        intro kv hkv
        obtain ⟨j, hj, rfl⟩ := List.mem_map.mp hkv
        have := hne j hj
        simp; lia
      unfold stored
      rw [e1]
      simp only [Bool.false_eq_true, if_false, List.map_append, List.map_cons, List.map_nil, if_true]
      congr 2
      congr 1
      apply List.map_congr_left
      intro j hj
      rw [if_neg (hne j hj)]
    · rcases List.mem_append.mp hj with hj | hj
      · obtain ⟨a1, a2, a3⟩ := c.hn j hj
        refine ⟨a1, a2, ?_⟩
        show Mine.up H' σ.d _ (if j = i then x else σ.ni j) = _
        simp only [if_neg (hne j hj)]
        exact up_d (old _ _ a3) (c.ne_d a3 fun _ _ q => by cases q)
      · obtain rfl := List.mem_singleton.mp hj
        refine ⟨t, u, ?_⟩
        show Mine.up H' σ.d _ (if j = j then x else σ.ni j) = _
        simp only [if_true]
        exact up_d hx ne_d.1
    · rcases List.mem_append.mp hj with hj | hj
      · show Mine.up H' σ.d _ (if j = i then dx else σ.nd j) = _
        rw [if_neg (hne j hj)]
        exact up_d (old _ _ (c.hx j hj)) (c.ne_d (c.hx j hj) fun _ _ q => by cases q)
      · obtain rfl := List.mem_singleton.mp hj
        show Mine.up H' σ.d _ (if j = j then dx else σ.nd j) = _
        rw [if_pos rfl]
        exact up_d hdx ne_d.2.1
    · rcases List.mem_append.mp hj with hj | hj
      · obtain ⟨vs, b1, b2⟩ := c.hl j hj
        refine ⟨vs, ?_, ?_⟩
        · show Mine.up H' σ.d _ (if j = i then l else σ.ls j) = _
          rw [if_neg (hne j hj)]
          exact up_d (old _ _ b1) (c.ne_d b1 fun _ _ q => by cases q)
        · simp only [if_neg (hne j hj)]; exact b2
      · obtain rfl := List.mem_singleton.mp hj
        refine ⟨[], ?_, ?_⟩
        · show Mine.up H' σ.d _ (if j = j then l else σ.ls j) = _
          rw [if_pos rfl]
          exact up_d hl ne_d.2.2
        · simp only [if_true]; exact .nil
    · have ln : ∀ j ∈ keys, σ.ls j ≠ l := fun j hj q => by
        obtain ⟨vs, b1, b2⟩ := c.hl j hj
        rw [q, l1] at b1; cases b1
      rcases List.mem_append.mp hj with hj' | hj' <;> rcases List.mem_append.mp hk with hk' | hk'
      · simp only [if_neg (hne j hj'), if_neg (hne k hk')] at e
        exact c.inj j hj' k hk' e
      · obtain rfl := List.mem_singleton.mp hk'
        simp only [if_neg (hne j hj'), if_true] at e
        exact absurd e (ln j hj')
      · obtain rfl := List.mem_singleton.mp hj'
        simp only [if_neg (hne k hk'), if_true] at e
        exact absurd e.symm (ln k hk')
      · rw [List.mem_singleton.mp hj', List.mem_singleton.mp hk']
  · exact ⟨up_d (old _ _ ax) (c.ne_d ax fun _ _ q => by cases q), t1, t2, n, hn, up_d (old _ _ adx) (c.ne_d adx fun _ _ q => by cases q)⟩
end

section
variable {Z : Zs} {C : Cx} {R : Rp} {m m' : Loc} {H : Hp} {s : Shared} {E : Value → Shared → Prop} {σ : Srt} {keys : List Nat} {deg : Nat → Int} {suc : Nat → List Int} {np nf : Int} {i j : Nat} {t u : Tok}

theorem W_expr {e : Expr} {pos : Pos} {Q : Flow → Shared → Prop} (S : Sat Z C R m H s) (h : wpAny Z.M C.A (eval e C.env) (fun _ => Q .next) E s) (hs : autoParam (swapsWith e none pos.line C.env = pure false) kr) : wpAny Z.M C.A (exec (.Expr e pos) C.env) Q E s :=
  wpAny_Expr_any h (by unfold interactive; rw [S.c.kind]; rfl) hs
inductive IvN (σ : Srt) (i j : Nat) (t u : Tok) (tp : Addr) (keys : List Nat) (deg : Nat → Int) (suc : Nat → List Int) (np nf : Int) (H : Hp) (m : Loc) (H' : Hp) : Prop
  | mk (m1 : m "self" = some (.ref σ.x)) (m2 : m "node" = some (.int i t)) (h1 : H' tp = some (.tup [.int j u])) (kp : Kp (Foot σ keys) H H') (c : Core H' σ keys deg suc) (a : Att H' σ .none np nf) : IvN σ i j t u tp keys deg suc np nf H m H'
theorem spec_add1 {Q : Value → Shared → Prop} (S : Sat Z C R m H s) (hrm : 2 < C.rm) (hh0 : C.A.handled = none) (c : Core H σ keys deg suc) (a : Att H σ .none np nf) (hi : i ∈ keys) (hj : j ∈ keys) (hz : (suc j).length ≤ 1000)
    (h : ∀ s' H', Kp (Foot σ keys) H H' → Core H' σ keys (fun k => if k = i then deg i + 1 else deg k) (fun k => if k = j then suc j ++ [(i : Int)] else suc k) → Att H' σ .none np nf → Sat Z C R m H' s' → Q .none s') :
    wpAny Z.M C.A (call (.ref 94) [.ref σ.x, .int i t, .int j u] []) Q E s := by
  refine wpAny_call (W_enterV C.A S rfl (by lia) (by lia) rfl (by rfl) (by exact rm0 (by assumption) (Nat.le_of_ble_eq_true rfl)) (by rfl) (ps := [.int j u]) (binds := fun tv => [("self", .ref σ.x), ("node", .int i t), ("predecessors", tv)]) (by rfl) (by simp) fun C' tp s' hsc hcl hr hh hfst hfr hq hcd ht1 ht2 ex hfrs S' => ?_)
  clear S hfst hfr hq hcd hfrs hcl
  have K1 : Ke H (up H tp (.tup [.int j u])) := Ke.new ht1
  have c1 := c.ke K1
  have a1 := a.ke K1
  refine hide fun G hG => ?_
  obtain ⟨ax, t1, t2, n, hn, adx⟩ := a1
  refine hG ?_
  clear hG
  (with_reducible refine W_cons ?_; intro _ _; dsimp only)
  with_reducible refine wpAny_If ?_
  with_reducible refine wpAny_isTrue_Compare1 ?_ (by kernel_rfl)
  with_reducible refine Attribute_any_ ?_ (by kernel_rfl)
  refine W_loc S' hsc (by rfl) ?_
  refine W_attr (Cl := 144) S' ax adx (by rfl) (fun s S => ?_)
  clear S'
  with_reducible refine wpAny_Constant_none ?_
  refine wpAny_isNot_plain (by rfl) ?_
  with_reducible refine wpAny_truthy_bool ?_
  refine ifF (by decide) ?_
  (with_reducible refine wpAny_execs_nil ?_; with_reducible refine Then.nx (by assumption) _ ?_)
  (with_reducible refine W_cons ?_; intro _ _; dsimp only)
  with_reducible refine wpAny_Assign_Name ?_ (by kernel_rfl)
  with_reducible refine methodCall_KW ?_ (by with_unfolding_all rfl)
  refine W_loc S hsc (by rfl) ?_
  refine W_meth (Cl := 144) (f := 87) S ax adx (by rfl) ?_
  refine W_callF ?_
  (with_reducible refine spliced_more ?_ (by kernel_rfl); dsimp only)
  refine W_loc S hsc (by rfl) ?_
  with_reducible refine spliced_none ?_
  refine ⟨S.K, ?_⟩
  refine spec_getOld S (by exact rmL (by assumption) (by assumption) (Nat.le_of_ble_eq_true rfl)) c1 (a.ke K1) hi fun s S => ?_
  refine W_store S hsc fun s S => ?_
  (with_reducible refine Then.nx (by assumption) _ ?_; with_reducible refine W_cons ?_; intro _ _; dsimp only)
  with_reducible refine wpAny_AugAssign_AttributeAny ?_
  refine W_loc S hsc (by rfl) ?_
  refine hide fun G hG => ?_
  obtain ⟨u1, u2, hni⟩ := c1.hn i hi
  refine hG ?_
  clear hG
  refine W_node_npre S hni (c1.hx i hi) fun s S => ?_
  with_reducible refine wpAny_Call_NameR ?_
  refine W_blt (v := .builtin "len") S hsc (by kernel_rfl) ?_
  refine W_callB ?_
  with_reducible refine spliced_more ?_ (by kernel_rfl)
  refine W_loc S hsc (by rfl) ?_
  with_reducible refine spliced_none ?_
  refine W_lenT S (TIn.of up_same) (fun u3 s S => ?_) (by simp)
  refine W_iadd S fun u4 s S => ?_
  refine W_node_setnpre S hni (c1.hx i hi) fun s S => ?_
  have c2 := c1.setDeg (v := deg i + 1) (t := u1) (u := u4) hi
  have htp : tp ≠ σ.ni i := fun q => by rw [← q, up_same] at hni; cases hni
  (with_reducible refine Then.nx (by assumption) _ ?_; with_reducible refine W_cons ?_; intro _ _; dsimp only)
  (with_reducible refine wpAny_For ?_ (by intros; kernel_rfl))
  refine W_loc S hsc (by rfl) ?_
  refine W_iterT (vs := [.int j u]) S (TIn.of (up_ne htp up_same)) fun it o R₀ s e1 e2 e3 e4 S' => ?_
  refine W_for (itrT tp [.int j u]) S' (hh.trans hh0) e1 e2 e3 e4 S.rg (fun k => IvN σ i j t u tp keys (fun k => if k = i then deg i + 1 else deg k) (if k = 0 then suc else fun k => if k = j then suc j ++ [(i : Int)] else suc k) np nf H)
    (fun k m H' (.mk _ _ h ..) => .inl h) ⟨rfl, rfl, up_ne htp up_same, ?_, c2, ?_⟩ ?_ ?_
  · exact K1.kp.trans (Kp.up (.inr (.inr (.inr ⟨i, hi, .inl rfl⟩))))
  · exact ⟨up_ne (fun q => by rw [q, hni] at ax; cases ax) ax, t1, t2, n, hn, up_ne (fun q => by rw [q, hni] at adx; cases adx) adx⟩
  · intro k v R' m H' s E' hk hv hR hPat10 S _ _
    refine hide fun G hG => ?_
    obtain ⟨m1, m2, htp', kp, c3, a3⟩ := hPat10
    refine hG ?_
    clear hG
    refine hide fun G hG => ?_
    obtain rfl : k = 0 := by simp at hk; assumption
    refine hG ?_
    clear hG
    refine hide fun G hG => ?_
    obtain rfl : v = .int j u := by simpa using hv.symm
    refine hG ?_
    clear hG
    refine hide fun G hG => ?_
    obtain ⟨ax, t1, t2, n, hn, adx⟩ := a3
    refine hG ?_
    clear hG
    with_reducible refine wpAny_assign_Name ?_
    refine W_store S hsc fun s S => ?_
    (with_reducible refine W_cons ?_; intro _ _)
    with_reducible refine wpAny_Assign_Name ?_ (by kernel_rfl)
    with_reducible refine methodCall_KW ?_ (by with_unfolding_all rfl)
    refine W_loc S hsc (by assumption) ?_
    refine W_meth (Cl := 144) (f := 87) S ax adx (by rfl) ?_
    refine W_callF ?_
    (with_reducible refine spliced_more ?_ (by kernel_rfl); dsimp only)
    refine W_loc S hsc (by rfl) ?_
    with_reducible refine spliced_none ?_
    refine ⟨S.K, ?_⟩
    refine spec_getOld S (by exact rmL (by assumption) (by assumption) (Nat.le_of_ble_eq_true rfl)) c3 ⟨ax, t1, t2, n, hn, adx⟩ hj fun s S => ?_
    refine W_store S hsc fun s S => ?_
    (with_reducible refine Then.nx (by assumption) _ ?_; with_reducible refine W_cons ?_; intro _ _)
    refine W_expr S ?_
    with_reducible refine methodCall_KW ?_ (by with_unfolding_all rfl)
    with_reducible refine Attribute_any_ ?_ (by kernel_rfl)
    refine W_loc S hsc (by rfl) ?_
    refine hide fun G hG => ?_
    obtain ⟨w1, w2, hnj⟩ := c3.hn j hj
    refine hG ?_
    clear hG
    refine W_node_succ S hnj (c3.hx j hj) fun s S => ?_
    refine hide fun G hG => ?_
    obtain ⟨vs, hls, hvs⟩ := c3.hl j hj
    refine hG ?_
    clear hG
    refine W_lmeth S hls PySem.F.slot_list_append PySem.F.type_list_append ?_
    refine W_callB ?_
    (with_reducible refine spliced_more ?_ (by kernel_rfl); dsimp only)
    refine W_loc S hsc (by assumption) ?_
    with_reducible refine spliced_none ?_
    refine W_append S hls (fun s S => ?_) (by have := hvs.length; simp at this; exact le2 (by assumption) (by assumption) (Nat.le_of_ble_eq_true rfl))
    (with_reducible refine Then.nx (by assumption) _ ?_; with_reducible refine wpAny_execs_nil ?_; with_reducible refine Turn.nx (by assumption) _ ?_)
    have c4 := c3.addSuc (v := (i : Int)) (u := t) hj hls hvs
    refine ⟨_, _, S, by assumption, by assumption, ?_, ?_, ?_, ?_⟩
    · exact up_ne (fun q => by rw [← q, htp'] at hls; cases hls) htp'
    · exact kp.trans (Kp.up (.inr (.inr (.inr ⟨j, hj, .inr (.inr rfl)⟩))))
    · simpa using c4
    · exact ⟨up_ne (fun q => by rw [q, hls] at ax; cases ax) ax, t1, t2, n, hn, up_ne (fun q => by rw [q, hls] at adx; cases adx) adx⟩
  · rintro m H' s S ⟨m1, m2, htp', kp, c3, a3⟩
    dsimp only
    (with_reducible refine Then.nx (by assumption) _ ?_; with_reducible refine wpAny_execs_nil ?_; dsimp only)
    exact h _ _ kp c3 a3 (ex _ _ _ S)

theorem Core.congr {deg' : Nat → Int} {suc' : Nat → List Int} (c : Core H σ keys deg suc) (h1 : ∀ i ∈ keys, deg i = deg' i) (h2 : ∀ i ∈ keys, suc i = suc' i) : Core H σ keys deg' suc' where
  hd := c.hd
  hs := c.hs
  hn := fun i hi => by rw [← h1 i hi]; exact c.hn i hi
  hx := c.hx
  hl := fun i hi => by rw [← h2 i hi]; exact c.hl i hi
  inj := c.inj
theorem spec_add0 {Q : Value → Shared → Prop} (S : Sat Z C R m H s) (hrm : 2 < C.rm) (hh0 : C.A.handled = none) (c : Core H σ keys deg suc) (a : Att H σ .none np nf) (hi : i ∉ keys) (hz : keys.length ≤ 100)
    (h : ∀ x dx l s' H', H x = none → H dx = none → H l = none → Kp (fun b => b = σ.d) H H' →
      Core H' { σ with ni := fun j => if j = i then x else σ.ni j, nd := fun j => if j = i then dx else σ.nd j, ls := fun j => if j = i then l else σ.ls j } (keys ++ [i]) (fun j => if j = i then 0 else deg j) (fun j => if j = i then [] else suc j) →
      Att H' σ .none np nf → Sat Z C R m H' s' → Q .none s') :
    wpAny Z.M C.A (call (.ref 94) [.ref σ.x, .int i t] []) Q E s := by
  refine wpAny_call (W_enterV C.A S rfl (by lia) (by lia) rfl (by rfl) (by exact rm0 (by assumption) (Nat.le_of_ble_eq_true rfl)) (by rfl) (ps := []) (binds := fun tv => [("self", .ref σ.x), ("node", .int i t), ("predecessors", tv)]) (by rfl) (by simp) fun C' tp s' hsc hcl hr hh hfst hfr hq hcd ht1 ht2 ex hfrs S' => ?_)
  clear S hfst hfr hq hcd hfrs hcl
  have K1 : Ke H (up H tp (.tup [])) := Ke.new ht1
  have c1 := c.ke K1
  have a1 := a.ke K1
  refine hide fun G hG => ?_
  obtain ⟨ax, t1, t2, n, hn, adx⟩ := a1
  refine hG ?_
  clear hG
  (with_reducible refine W_cons ?_; intro _ _; dsimp only)
  with_reducible refine wpAny_If ?_
  with_reducible refine wpAny_isTrue_Compare1 ?_ (by kernel_rfl)
  with_reducible refine Attribute_any_ ?_ (by kernel_rfl)
  refine W_loc S' hsc (by rfl) ?_
  refine W_attr (Cl := 144) S' ax adx (by rfl) (fun s S => ?_)
  clear S'
  with_reducible refine wpAny_Constant_none ?_
  refine wpAny_isNot_plain (by rfl) ?_
  with_reducible refine wpAny_truthy_bool ?_
  refine ifF (by decide) ?_
  (with_reducible refine wpAny_execs_nil ?_; with_reducible refine Then.nx (by assumption) _ ?_)
  (with_reducible refine W_cons ?_; intro _ _; dsimp only)
  with_reducible refine wpAny_Assign_Name ?_ (by kernel_rfl)
  with_reducible refine methodCall_KW ?_ (by with_unfolding_all rfl)
  refine W_loc S hsc (by rfl) ?_
  refine W_meth (Cl := 144) (f := 87) S ax adx (by rfl) ?_
  refine W_callF ?_
  (with_reducible refine spliced_more ?_ (by kernel_rfl); dsimp only)
  refine W_loc S hsc (by rfl) ?_
  with_reducible refine spliced_none ?_
  refine ⟨S.K, ?_⟩
  refine spec_getNew S (by exact rmL (by assumption) (by assumption) (Nat.le_of_ble_eq_true rfl)) c1 (a.ke K1) hi hz fun x dx l s H' x1 dx1 l1 kp c2 a2 S => ?_
  have htp : H' tp = some (.tup []) := kp _ _ (fun q => by obtain ⟨ep, z⟩ := c1.hd; rw [← q, up_same] at z; cases z) up_same
  refine W_store S hsc fun s S => ?_
  (with_reducible refine Then.nx (by assumption) _ ?_; with_reducible refine W_cons ?_; intro _ _; dsimp only)
  with_reducible refine wpAny_AugAssign_AttributeAny ?_
  refine W_loc S hsc (by rfl) ?_
  have hi' : i ∈ keys ++ [i] := by simp
  refine hide fun G hG => ?_
  obtain ⟨u1, u2, hni⟩ := c2.hn i hi'
  refine hG ?_
  clear hG
  have hnd := c2.hx i hi'
  dsimp only at hni hnd
  rw [if_pos rfl] at hni hnd
  simp only [if_true] at hni
  refine W_node_npre S hni hnd fun s S => ?_
  with_reducible refine wpAny_Call_NameR ?_
  refine W_blt (v := .builtin "len") S hsc (by kernel_rfl) ?_
  refine W_callB ?_
  with_reducible refine spliced_more ?_ (by kernel_rfl)
  refine W_loc S hsc (by rfl) ?_
  with_reducible refine spliced_none ?_
  refine W_lenT S (TIn.of htp) (fun u3 s S => ?_) (by simp)
  refine W_iadd S fun u4 s S => ?_
  refine W_node_setnpre S hni hnd fun s S => ?_
  have c3 := c2.setDeg (v := 0 + (([] : List Value).length : Int)) (t := u1) (u := u4) hi'
  simp only [if_true] at c3
  have htp2 : tp ≠ x := fun q => by rw [← q, htp] at hni; cases hni
  (with_reducible refine Then.nx (by assumption) _ ?_; with_reducible refine W_cons ?_; intro _ _; dsimp only)
  (with_reducible refine wpAny_For ?_ (by intros; kernel_rfl))
  refine W_loc S hsc (by rfl) ?_
  refine W_iterT (vs := []) S (TIn.of (up_ne htp2 htp)) fun it o R₀ s e1 e2 e3 e4 S' => ?_
  refine W_for (itrT tp []) S' (hh.trans hh0) e1 e2 e3 e4 S.rg (fun k m H'' => H'' = up H' x _) (fun k m H' hI => .inl (by rw [hI, up_other htp2]; exact htp)) rfl ?_ ?_
  · intro k v R' m H' s E' hk; simp at hk
  · rintro m H'' s S rfl
    dsimp only
    (with_reducible refine Then.nx (by assumption) _ ?_; with_reducible refine wpAny_execs_nil ?_; dsimp only)
    refine h x dx l _ _ (K1.none x1) (K1.none dx1) (K1.none l1) ?_ ?_ ?_ (ex _ _ _ S)
    · intro b db nb e
      have := K1.none x1
      rw [up_other (fun q => by rw [q, this] at e; cases e)]
      exact (K1.kp.trans kp) b db nb e
    · refine c3.congr (fun j hj => ?_) (fun j hj => rfl)
      by_cases q : j = i <;> simp [q]
    · obtain ⟨bx, v1, v2, n', hn', bdx⟩ := a2
      exact ⟨up_ne (fun q => by rw [q, hni] at bx; cases bx) bx, v1, v2, n', hn', up_ne (fun q => by rw [q, hni] at bdx; cases bdx) bdx⟩
end

/-- a list's numbers, from naturals -/
noncomputable def zs (l : List Nat) : List Int := l.map fun (i : Nat) => (i : Int)
theorem zs_append (a b : List Nat) : zs (a ++ b) = zs a ++ zs b := List.map_append
theorem zs_length (a : List Nat) : (zs a).length = a.length := List.length_map _
noncomputable def K5 : List Nat := [4, 3, 2, 1, 0]
structure Sorter (H : Hp) (σ : Srt) (r : Addr) (deg : Nat → Int) (suc : Nat → List Int) (rl : List Nat) (np nf : Int) : Prop where
  c : Core H σ K5 deg suc
  a : Att H σ (.ref r) np nf
  rd : ∃ vs, H r = some (.lst vs) ∧ IntsAre vs (zs rl)
  nr : ∀ i ∈ K5, r ≠ σ.ls i
noncomputable def FootS (σ : Srt) (r : Addr) (b : Addr) : Prop := Foot σ K5 b ∨ b = r

section
variable {Z : Zs} {C : Cx} {R : Rp} {m m' : Loc} {H : Hp} {s : Shared} {E : Value → Shared → Prop} {σ : Srt} {r l : Addr} {vs : List Value} {deg : Nat → Int} {suc : Nat → List Int} {rl : List Nat} {np nf : Int}

theorem W_tupleOf {Q : Value → Shared → Prop} (S : Sat Z C R m H s) (hl : LIn R H l vs) (h : ∀ t s', H t = none → R t = none → Sat Z C R m (up H t (.tup vs)) s' → Q (.ref t) s') (hz : vs.length ≤ 1000000) : wpAny Z.M C.A (call (.type "tuple") [.ref l]) Q E s := by
  refine call_tuple_list (S.isList hl) (fun h' hk => ?_) (by rw [List.size_toArray, sizeLine_eq]; exact le1 (by assumption) (Nat.le_of_ble_eq_true rfl))
  have S1 := S.grow (t := s.toks) hk
  have hn : s.heap.get? h'.objs.size = none := by
    cases q : s.heap.get? h'.objs.size with
    | none => rfl
    | some o => exact absurd (Heap.lt_size (hk _ _ q)) (Nat.lt_irrefl _)
  exact h _ _ (S.freshAt hn).1 (S.freshAt hn).2 (S1.new (t := s.toks) (fun b o e => Heap.get?_push_of_some _ e) ⟨_, Heap.get?_push_size _ rfl, 0, rfl⟩)
theorem W_listOf {Q : Value → Shared → Prop} (S : Sat Z C R m H s) (hl : TIn R H l vs) (h : ∀ t s', H t = none → R t = none → Sat Z C R m (up H t (.lst vs)) s' → Q (.ref t) s') (hz : vs.length ≤ 1000000) : wpAny Z.M C.A (call (.type "list") [.ref l]) Q E s := by
  obtain ⟨o, ho, hc, n, hd⟩ := S.isTup hl
  exact call_list_seq l (.inr rfl) ho hc hd (fun h' c' hk hD => h _ _ S.fresh.1 S.fresh.2 (S.new (t := s.toks) hk ⟨_, hD, c', rfl⟩)) (by rw [List.size_toArray, sizeLine_eq]; exact le1 (by assumption) (Nat.le_of_ble_eq_true rfl))

theorem W_subD {Q : Value → Shared → Prop} {value slice : Expr} {d : Addr} {kvs : List (Int × Value)} {ep : Nat} {i : Int} {t : Tok} {v : Value} (S : Sat Z C R m H s) (h : H d = some (.dct kvs ep)) (hv : valueAt kvs i = some v) (k : ∀ s', Sat Z C R m H s' → Q v s')
    (hs : subscripted slice false (.ref d) (.int i t) = operate [.ref d, .int i t] (getItem (.ref d) (.int i t)) := by with_unfolding_all rfl) : wpAny Z.M C.A (subscriptTail value slice (.ref d) (.int i t)) Q E s := by
  refine hide fun G hG => ?_
  obtain ⟨o, es, ho, hex, hr⟩ := S.dct h
  refine hG ?_
  clear hG
  exact tail_any ⟨o, ho, hex.1⟩ slot_dict_getitem.lookup (W_dgetItem S h hv k) hs
theorem W_subL {Q : Value → Shared → Prop} {value slice : Expr} {k : Int} {u : Tok} {v : Value} (S : Sat Z C R m H s) (hl : LIn R H l vs) (h0 : 0 ≤ k) (hx : vs[k.toNat]? = some v) (h : Q v s) (hhi : k < 2 ^ 63)
    (hs : subscripted slice false (.ref l) (.int k u) = operate [.ref l, .int k u] (getItem (.ref l) (.int k u)) := by with_unfolding_all rfl) : wpAny Z.M C.A (subscriptTail value slice (.ref l) (.int k u)) Q E s :=
  tail_any (S.isList hl).typeIs slot_list_getitem.lookup (W_getL S hl h0 hx h hhi) hs

theorem Core.upC {keys : List Nat} {a : Addr} {o : D} (c : Core H σ keys deg suc) (h : ∀ i ∈ keys, a ≠ σ.ni i ∧ a ≠ σ.nd i ∧ a ≠ σ.ls i) (hd : a ≠ σ.d) : Core (up H a o) σ keys deg suc where
  hd := let ⟨ep, q⟩ := c.hd; ⟨ep, up_ne (Ne.symm hd) q⟩
  hs := c.hs
  hn := fun i hi => let ⟨t, t', q⟩ := c.hn i hi; ⟨t, t', up_ne (Ne.symm (h i hi).1) q⟩
  hx := fun i hi => up_ne (Ne.symm (h i hi).2.1) (c.hx i hi)
  hl := fun i hi => let ⟨vs, q, z⟩ := c.hl i hi; ⟨vs, up_ne (Ne.symm (h i hi).2.2) q, z⟩
  inj := c.inj
theorem Core.upDx {keys : List Nat} {o : D} {rv : Value} (c : Core H σ keys deg suc) (a : Att H σ rv np nf) : Core (up H σ.dx o) σ keys deg suc := by
  have a' := a
  obtain ⟨ax, t1, t2, n, hn, adx⟩ := a
  refine c.upC (fun i hi => ⟨fun q => ?_, fun q => (a'.dx_ne_nd c hi) q.symm, fun q => ?_⟩) (c.ne_d adx fun _ _ q => by cases q)
  · obtain ⟨_, _, z⟩ := c.hn i hi; rw [← q, adx] at z; cases z
  · obtain ⟨_, z, _⟩ := c.hl i hi; rw [← q, adx] at z; cases z
theorem Sorter.nF (g : Sorter H σ r deg suc rl np nf) : ¬ Foot σ K5 r := by
  obtain ⟨vs, e, _⟩ := g.rd
  obtain ⟨ax, _, _, _, _, adx⟩ := g.a
  rintro (q | q | q | ⟨i, hi, q | q | q⟩)
  · rw [← q, e] at ax; cases ax
  · rw [← q, e] at adx; cases adx
  · obtain ⟨ep, cd⟩ := g.c.hd; rw [← q, e] at cd; cases cd
  · obtain ⟨_, _, z⟩ := g.c.hn i hi; rw [← q, e] at z; cases z
  · have z := g.c.hx i hi; rw [← q, e] at z; cases z
  · exact g.nr i hi q
theorem Sorter.ke {H' : Hp} (g : Sorter H σ r deg suc rl np nf) (e : Ke H H') : Sorter H' σ r deg suc rl np nf := ⟨g.c.ke e, g.a.ke e, let ⟨vs, a, b⟩ := g.rd; ⟨vs, e _ _ a, b⟩, g.nr⟩
theorem Sorter.kp {H' : Hp} {F : Addr → Prop} (g : Sorter H σ r deg suc rl np nf) (e : Kp F H H') (nF : ∀ b, FootS σ r b → ¬ F b) : Sorter H' σ r deg suc rl np nf :=
  ⟨g.c.kp e fun b hb => nF b (.inl hb), g.a.kp (keys := K5) e fun b hb => nF b (.inl hb), let ⟨vs, a, b⟩ := g.rd; ⟨vs, e _ _ (nF _ (.inr rfl)) a, b⟩, g.nr⟩
theorem Att.upo {a : Addr} {o o' : D} {rv : Value} (h : Att H σ rv np nf) (e : H a = some o) (n1 : o ≠ .ob (instObj 144 σ.dx)) (n2 : ∀ m n, o ≠ .ns m n) : Att (up H a o') σ rv np nf := by
  obtain ⟨ax, t1, t2, n, hn, adx⟩ := h
  exact ⟨up_ne (fun q => by rw [q, e] at ax; cases ax; exact n1 rfl) ax, t1, t2, n, hn, up_ne (fun q => by rw [q, e] at adx; cases adx; exact n2 _ _ rfl) adx⟩
theorem mem_take_succ {l : List Nat} {k i j : Nat} (h : l[k]? = some i) : j ∈ l.take (k + 1) ↔ j ∈ l.take k ∨ j = i := by
  rw [List.take_succ, h]; simp

inductive IvO (σ : Srt) (r tp : Addr) (vs : List Value) (deg : Nat → Int) (suc : Nat → List Int) (rl : List Nat) (np nf : Int) (H : Hp) (m : Loc) (H' : Hp) : Prop
  | mk (m1 : m "self" = some (.ref σ.x)) (m2 : m "n2i" = some (.ref σ.d)) (m3 : m "result" = some (.ref tp)) (h1 : H' tp = some (.tup vs)) (kp : Kp (FootS σ r) H H') (g : Sorter H' σ r deg suc rl np nf) : IvO σ r tp vs deg suc rl np nf H m H'
theorem spec_getReady {Q : Value → Shared → Prop} (S : Sat Z C R m H s) (hrm : 0 < C.rm) (hh0 : C.A.handled = none) (g : Sorter H σ r deg suc rl np nf) (hrl : ∀ i ∈ rl, i ∈ K5) (hz : rl.length ≤ 100)
    (h : ∀ tp vs s' H', H tp = none → Kp (FootS σ r) H H' → H' tp = some (.tup vs) → IntsAre vs (zs rl) → Sorter H' σ r (fun k => if k ∈ rl then -1 else deg k) suc [] (np + rl.length) nf → Sat Z C R m H' s' → Q (.ref tp) s') :
    wpAny Z.M C.A (call (.ref 106) [.ref σ.x] []) Q E s := by
  refine W_enter S (by rfl) hrm (by rfl) (BindsTo.of_eq (binds := [("self", .ref σ.x)]) (by rfl)) fun C' s' hsc hcl hr hh ex S' => ?_
  clear S
  refine hide fun G hG => ?_
  obtain ⟨ax, t1, t2, n, hn, adx⟩ := g.a
  refine hG ?_
  clear hG
  refine hide fun G hG => ?_
  obtain ⟨vs, hrv, hvs⟩ := g.rd
  refine hG ?_
  clear hG
  have hvl : vs.length = rl.length := hvs.length.trans (zs_length rl)
  (with_reducible refine W_cons ?_; intro _ _)
  with_reducible refine wpAny_If ?_
  with_reducible refine wpAny_isTrue_Compare1 ?_ (by kernel_rfl)
  with_reducible refine Attribute_any_ ?_ (by kernel_rfl)
  refine W_loc S' hsc (by rfl) ?_
  refine W_attr (Cl := 144) S' ax adx (by rfl) (fun s S => ?_)
  clear S'
  with_reducible refine wpAny_Constant_none ?_
  refine wpAny_is_plain (by rfl) ?_
  with_reducible refine wpAny_truthy_bool ?_
  refine ifF (by simp) ?_
  (with_reducible refine wpAny_execs_nil ?_; with_reducible refine Then.nx (by assumption) _ ?_)
  (with_reducible refine W_cons ?_; intro _ _)
  with_reducible refine wpAny_Assign_Name ?_ (by kernel_rfl)
  with_reducible refine wpAny_Call_NameR ?_
  refine W_blt (v := .type "tuple") S hsc (by kernel_rfl) ?_
  refine W_callT ?_
  with_reducible refine spliced_more ?_ (by kernel_rfl)
  with_reducible refine Attribute_any_ ?_ (by kernel_rfl)
  refine W_loc S hsc (by rfl) ?_
  refine W_attr (Cl := 144) S ax adx (by rfl) (fun s S => ?_)
  with_reducible refine spliced_none ?_
  refine W_tupleOf S (LIn.of hrv) (fun tp s ht1 ht2 S => ?_) (by exact le2 (by assumption) (by assumption) (Nat.le_of_ble_eq_true rfl))
  refine W_store S hsc fun s S => ?_
  have K1 : Ke H (up H tp (.tup vs)) := Ke.new ht1
  have g1 := g.ke K1
  have ax1 := K1 _ _ ax
  have adx1 := K1 _ _ adx
  (with_reducible refine Then.nx (by assumption) _ ?_; with_reducible refine W_cons ?_; intro _ _)
  with_reducible refine wpAny_Assign_Name ?_ (by kernel_rfl)
  with_reducible refine Attribute_any_ ?_ (by kernel_rfl)
  refine W_loc S hsc (by rfl) ?_
  refine W_attr (Cl := 144) S ax1 adx1 (by rfl) (fun s S => ?_)
  refine W_store S hsc fun s S => ?_
  (with_reducible refine Then.nx (by assumption) _ ?_; with_reducible refine W_cons ?_; intro _ _)
  (with_reducible refine wpAny_For ?_ (by intros; kernel_rfl))
  refine W_loc S hsc (by rfl) ?_
  refine W_iterT (vs := vs) S (TIn.of up_same) fun it o R₀ s e1 e2 e3 e4 S' => ?_
  refine W_for (itrT tp vs) S' (hh.trans hh0) e1 e2 e3 e4 S.rg (fun k => IvO σ r tp vs (fun j => if j ∈ rl.take k then -1 else deg j) suc rl np nf H)
    (fun k m H' (.mk _ _ _ h ..) => .inl h) ⟨rfl, rfl, rfl, up_same, K1.kp, by simpa using g1⟩ ?_ ?_
  · intro k v R' m H' s E' hk hv hR hPat10 S _ _
    refine hide fun G hG => ?_
    obtain ⟨m1, m2, m3, htp', kp, g2⟩ := hPat10
    refine hG ?_
    clear hG
    refine hide fun G hG => ?_
    obtain ⟨i, hi1⟩ : ∃ i, rl[k]? = some i := ⟨rl[k]'(by exact lt1 (by assumption) (by assumption)), List.getElem?_eq_getElem _⟩
    refine hG ?_
    clear hG
    have hi : i ∈ K5 := hrl i (List.mem_of_getElem? hi1)
    refine hide fun G hG => ?_
    obtain ⟨z, tz, rfl, hz1⟩ := hvs.at k v hv
    refine hG ?_
    clear hG
    obtain rfl : z = (i : Int) := by
      unfold zs at hz1; rw [List.getElem?_map, hi1] at hz1; simpa using hz1.symm
    with_reducible refine wpAny_assign_Name ?_
    refine W_store S hsc fun s S => ?_
    (with_reducible refine W_cons ?_; intro _ _)
    with_reducible refine plainObj_wpAny_Assign_Attribute ?_ (by kernel_rfl)
    refine W_glob (v := .int (-1) 210) S hsc (by kernel_rfl) ?_
    with_reducible refine Subscript_ ?_
    refine W_loc S hsc (by assumption) ?_
    refine W_loc S hsc (by rfl) ?_
    refine hide fun G hG => ?_
    obtain ⟨ep, cd⟩ := g2.c.hd
    refine hG ?_
    clear hG
    refine W_subD S cd (by rw [valueAt_keys, if_pos hi]) fun s S => ?_
    refine hide fun G hG => ?_
    obtain ⟨u1, u2, hni⟩ := g2.c.hn i hi
    refine hG ?_
    clear hG
    refine W_node_setnpre S hni (g2.c.hx i hi) fun s S => ?_
    (with_reducible refine Then.nx (by assumption) _ ?_; with_reducible refine wpAny_execs_nil ?_; with_reducible refine Turn.nx (by assumption) _ ?_)
    have c3 := g2.c.setDeg (v := -1) (t := u1) (u := 210) hi
    have fi : Foot σ K5 (σ.ni i) := .inr (.inr (.inr ⟨i, hi, .inl rfl⟩))
    refine ⟨_, _, S, by assumption, by assumption, by assumption, ?_, kp.trans (Kp.up (.inl fi)), ?_, ?_, ?_, g2.nr⟩
    · exact up_ne (fun q => by rw [← q, htp'] at hni; cases hni) htp'
    · refine c3.congr (fun j hj => ?_) (fun _ _ => rfl)
      simp only [mem_take_succ hi1]
      by_cases q : j = i <;> simp [q]
    · exact g2.a.upo hni (by simp [nodeO]) (by simp)
    · obtain ⟨ws, q1, q2⟩ := g2.rd
      exact ⟨ws, up_ne (fun q => by rw [q, hni] at q1; cases q1) q1, q2⟩
  · rintro m H' s S ⟨m1, m2, m3, htp', kp, g2⟩
    dsimp only
    rw [List.take_of_length_le (by lia)] at g2
    refine hide fun G hG => ?_
    obtain ⟨ax, t1, t2, n, hn, adx⟩ := g2.a
    refine hG ?_
    clear hG
    refine hide fun G hG => ?_
    obtain ⟨ws, hrv, hws⟩ := g2.rd
    refine hG ?_
    clear hG
    have hwl : ws.length = rl.length := hws.length.trans (zs_length rl)
    (with_reducible refine Then.nx (by assumption) _ ?_; with_reducible refine W_cons ?_; intro _ _)
    refine W_expr S ?_
    with_reducible refine methodCall_KW ?_ (by with_unfolding_all rfl)
    with_reducible refine Attribute_any_ ?_ (by kernel_rfl)
    refine W_loc S hsc (by assumption) ?_
    refine W_attr (Cl := 144) S ax adx (by rfl) (fun s S => ?_)
    refine W_lmeth S hrv PySem.F.slot_list_clear PySem.F.type_list_clear ?_
    refine W_callB0 ?_
    refine W_clear S hrv (fun s S => ?_) (by exact le2 (by assumption) (by assumption) (Nat.le_of_ble_eq_true rfl))
    have ax1 : up H' r (.lst []) σ.x = _ := (up_other (fun q => by rw [q, hrv] at ax; cases ax)).trans ax
    have adx1 : up H' r (.lst []) σ.dx = _ := (up_other (fun q => by rw [q, hrv] at adx; cases adx)).trans adx
    (with_reducible refine Then.nx (by assumption) _ ?_; with_reducible refine W_cons ?_; intro _ _)
    with_reducible refine wpAny_AugAssign_AttributeAny ?_
    refine W_loc S hsc (by assumption) ?_
    refine W_attr (Cl := 144) S ax1 adx1 (by rfl) (fun s S => ?_)
    with_reducible refine wpAny_Call_NameR ?_
    refine W_blt (v := .builtin "len") S hsc (by kernel_rfl) ?_
    refine W_callB ?_
    with_reducible refine spliced_more ?_ (by kernel_rfl)
    refine W_loc S hsc (by assumption) ?_
    with_reducible refine spliced_none ?_
    have htr : tp ≠ r := fun q => by rw [← q, htp'] at hrv; cases hrv
    refine W_lenT S (TIn.of (up_ne htr htp')) (fun u3 s S => ?_) (by exact le2 (by assumption) (by assumption) (Nat.le_of_ble_eq_true rfl))
    refine W_iadd S fun u4 s S => ?_
    refine W_setattrO (Cl := 144) S ax1 adx1 (by exact le1 (by assumption) (Nat.le_of_ble_eq_true rfl)) (by rfl) fun s S => ?_
    rw [atts_np] at S
    (with_reducible refine Then.nx (by assumption) _ ?_; with_reducible refine W_cons ?_; intro _ _)
    with_reducible refine wpAny_Return_some ?_
    refine W_loc S hsc (by assumption) ?_
    have hrdx : r ≠ σ.dx := fun q => by rw [← q, hrv] at adx; cases adx
    have k3 : Kp (FootS σ r) H' (up (up H' r (.lst [])) σ.dx (.ns (atts σ.d (.ref r) (.int (np + vs.length) u4) (.int nf t2)) n)) := (Kp.up (.inr rfl)).trans (Kp.up (.inl (.inr (.inl rfl))))
    with_reducible refine Then.ret (by assumption) _ _ ?_
    refine h tp vs _ _ ht1 (kp.trans k3) ?_ hvs ⟨?_, ?_, ?_, g2.nr⟩ (ex _ _ _ S)
    · exact up_ne (fun q => by rw [← q, htp'] at adx; cases adx) (up_ne htr htp')
    · exact (g2.c.upC (fun i hi => ⟨fun q => g2.nF (.inr (.inr (.inr ⟨i, hi, .inl q⟩))), fun q => g2.nF (.inr (.inr (.inr ⟨i, hi, .inr (.inl q)⟩))), g2.nr i hi⟩) fun q => g2.nF (.inr (.inr (.inl q)))).upDx (rv := .ref r) (np := np) (nf := nf) ⟨ax1, t1, t2, n, hn, adx1⟩
    · rw [hvl]
      exact Att.set ⟨ax1, t1, t2, n, hn, adx1⟩ hn
    · exact ⟨[], up_ne hrdx up_same, .nil⟩
end

theorem meets_bool_list (l : Addr) (items : Array Value) (hfit : (items.size : Int) < 2 ^ 63) :
    Meets (Builtin.«bool.__new__» ⟨[.type "bool", .ref l], []⟩) (fun _ R s => s.heap.IsList l items ∧ R (.ok (.ret (.bool (!items.isEmpty)))) { s with toks := s.toks + 1 + 1 }) :=
  Meets.of_wp fun prog w A R s hs => by
    obtain ⟨hp, g, d, tk, os⟩ := s
    have f1 := F.conv_sub_bool
    obtain ⟨hl, hr⟩ := hs
    repeat (any_goals (first | assumption | (with_reducible refine wpAny_truthy_list hl hfit ?_) | wp_step))
    all_goals first | exact ⟨_, rfl, hr⟩ | exact hr | skip
/-- what a done does to one successor -/
noncomputable def doneStep (p : (Nat → Int) × List Nat) (j : Nat) : (Nat → Int) × List Nat :=
  (fun k => if k = j then p.1 j - 1 else p.1 k, if p.1 j - 1 = 0 then p.2 ++ [j] else p.2)
theorem take_snoc {α : Type} {l : List α} {k : Nat} {x : α} (h : l[k]? = some x) : l.take (k + 1) = l.take k ++ [x] := by rw [List.take_succ, h]; rfl
theorem doneFold_len (l : List Nat) : ∀ p : (Nat → Int) × List Nat, (l.foldl doneStep p).2.length ≤ p.2.length + l.length := by
  induction l with
  | nil => intro p; simp
  | cons j l ih =>
    intro p
    rw [List.foldl_cons]
    refine Nat.le_trans (ih _) ?_
    unfold doneStep
    split <;> simp <;> lia
section
variable {Z : Zs} {C : Cx} {R : Rp} {m m' : Loc} {H : Hp} {s : Shared} {E : Value → Shared → Prop} {σ : Srt} {r l : Addr} {vs : List Value} {deg : Nat → Int} {suc : Nat → List Int} {rl : List Nat} {np nf : Int} {i : Nat} {t : Tok}

theorem W_boolL {Q : Value → Shared → Prop} (S : Sat Z C R m H s) (hl : LIn R H l vs) (h : ∀ s', Sat Z C R m H s' → Q (.bool (!vs.isEmpty)) s') (hz : vs.length ≤ 1000000) : wpAny Z.M C.A (call (.type "bool") [.ref l]) Q E s :=
  call_bool_1 (meets_bool_list l vs.toArray (by rw [List.size_toArray]; exact in3 (by assumption) (Nat.le_of_ble_eq_true rfl) (by decide))) ⟨S.isList hl, rfl, by rw [show vs.toArray.isEmpty = vs.isEmpty from by simp]; exact h _ S.tok⟩

theorem spec_isActive {Q : Value → Shared → Prop} (S : Sat Z C R m H s) (hrm : 0 < C.rm) (g : Sorter H σ r deg suc rl np nf) (hz : rl.length ≤ 100)
    (h : ∀ s', Sat Z C R m H s' → Q (.bool (decide (nf < np) || !rl.isEmpty)) s') :
    wpAny Z.M C.A (call (.ref 113) [.ref σ.x] []) Q E s := by
  refine W_enter S (by rfl) hrm (by rfl) (BindsTo.of_eq (binds := [("self", .ref σ.x)]) (by rfl)) fun C' s' hsc hcl hr hh ex S' => ?_
  clear S
  refine hide fun G hG => ?_
  obtain ⟨ax, t1, t2, n, hn, adx⟩ := g.a
  refine hG ?_
  clear hG
  refine hide fun G hG => ?_
  obtain ⟨vs, hrv, hvs⟩ := g.rd
  refine hG ?_
  clear hG
  have hvl : vs.length = rl.length := hvs.length.trans (zs_length rl)
  (with_reducible refine W_cons ?_; intro _ _)
  with_reducible refine wpAny_If ?_
  with_reducible refine wpAny_isTrue_Compare1 ?_ (by kernel_rfl)
  with_reducible refine Attribute_any_ ?_ (by kernel_rfl)
  refine W_loc S' hsc (by rfl) ?_
  refine W_attr (Cl := 144) S' ax adx (by rfl) (fun s S => ?_)
  clear S'
  with_reducible refine wpAny_Constant_none ?_
  refine wpAny_is_plain (by rfl) ?_
  with_reducible refine wpAny_truthy_bool ?_
  refine ifF (by simp) ?_
  (with_reducible refine wpAny_execs_nil ?_; with_reducible refine Then.nx (by assumption) _ ?_)
  (with_reducible refine W_cons ?_; intro _ _)
  with_reducible refine wpAny_Return_some ?_
  refine wpAny_Or2 ?_
  with_reducible refine wpAny_Compare1 ?_ (by kernel_rfl)
  with_reducible refine Attribute_any_ ?_ (by kernel_rfl)
  refine W_loc S hsc (by rfl) ?_
  refine W_attr (Cl := 144) S ax adx (by rfl) (fun s S => ?_)
  with_reducible refine Attribute_any_ ?_ (by kernel_rfl)
  refine W_loc S hsc (by rfl) ?_
  refine W_attr (Cl := 144) S ax adx (by rfl) (fun s S => ?_)
  refine W_ltI ?_
  with_reducible refine wpAny_truthy_bool ?_
  by_cases hlt : nf < np
  · refine ifT (by simpa using hlt) ?_
    have := h _ (ex _ _ _ S)
    simp only [hlt, decide_true, Bool.true_or] at this
    simp only [hlt, decide_true]
    with_reducible refine Then.ret (by assumption) _ _ ?_
    exact this
  · refine ifF (by simpa using hlt) ?_
    with_reducible refine wpAny_Call_NameR ?_
    refine W_blt (v := .type "bool") S hsc (by kernel_rfl) ?_
    refine W_callT ?_
    with_reducible refine spliced_more ?_ (by kernel_rfl)
    with_reducible refine Attribute_any_ ?_ (by kernel_rfl)
    refine W_loc S hsc (by rfl) ?_
    refine W_attr (Cl := 144) S ax adx (by rfl) (fun s S => ?_)
    with_reducible refine spliced_none ?_
    refine W_boolL S (LIn.of hrv) (fun s S => ?_) (by exact le2 (by assumption) (by assumption) (Nat.le_of_ble_eq_true rfl))
    have := h _ (ex _ _ _ S)
    have e : vs.isEmpty = rl.isEmpty := by
      cases vs <;> cases rl <;> first | rfl | simp at hvl
    rw [e]
    simp only [hlt, decide_false, Bool.false_or] at this
    with_reducible refine Then.ret (by assumption) _ _ ?_
    exact this

inductive IvP (σ : Srt) (r tp : Addr) (vs : List Value) (X : Hp → Prop) (H : Hp) (m : Loc) (H' : Hp) : Prop
  | mk (m1 : m "self" = some (.ref σ.x)) (m2 : m "n2i" = some (.ref σ.d)) (h1 : H' tp = some (.tup vs)) (kp : Kp (FootS σ r) H H') (g : X H') : IvP σ r tp vs X H m H'
inductive IvQ (σ : Srt) (i : Nat) (r tp : Addr) (vs ws : List Value) (p : (Nat → Int) × List Nat) (sn : Nat → List Nat) (np nf : Int) (H : Hp) (m : Loc) (H' : Hp) : Prop
  | mk (m1 : m "self" = some (.ref σ.x)) (m2 : m "n2i" = some (.ref σ.d)) (h1 : H' tp = some (.tup vs)) (kp : Kp (FootS σ r) H H') (h2 : H' (σ.ls i) = some (.lst ws)) (g : Sorter H' σ r p.1 (fun k => zs (sn k)) p.2 np nf) : IvQ σ i r tp vs ws p sn np nf H m H'
theorem spec_done {Q : Value → Shared → Prop} {sn : Nat → List Nat} (S : Sat Z C R m H s) (hrm : 0 < C.rm) (hh0 : C.A.handled = none) (g : Sorter H σ r deg (fun k => zs (sn k)) rl np nf) (hi : i ∈ K5) (hd : deg i = -1)
    (hsn : ∀ k ∈ K5, ∀ j ∈ sn k, j ∈ K5) (hz : rl.length + (sn i).length ≤ 1000)
    (h : ∀ s' H', Kp (FootS σ r) H H' → Sorter H' σ r ((sn i).foldl doneStep (fun k => if k = i then -2 else deg k, rl)).1 (fun k => zs (sn k)) ((sn i).foldl doneStep (fun k => if k = i then -2 else deg k, rl)).2 np (nf + 1) → Sat Z C R m H' s' → Q .none s') :
    wpAny Z.M C.A (call (.ref 127) [.ref σ.x, .int i t] []) Q E s := by
  refine wpAny_call (W_enterV C.A S rfl (by lia) (by lia) rfl (by rfl) hrm (by rfl) (ps := [.int i t]) (binds := fun tv => [("self", .ref σ.x), ("nodes", tv)]) (by rfl) (by simp) fun C' tp s' hsc hcl hr hh hfst hfr hq hcd ht1 ht2 ex hfrs S' => ?_)
  clear S hfst hfr hq hcd hfrs hcl
  have K1 : Ke H (up H tp (.tup [.int i t])) := Ke.new ht1
  have g1 := g.ke K1
  refine hide fun G hG => ?_
  obtain ⟨ax, t1, t2, n, hn, adx⟩ := g1.a
  refine hG ?_
  clear hG
  (with_reducible refine W_cons ?_; intro _ _; dsimp only)
  with_reducible refine wpAny_If ?_
  with_reducible refine wpAny_isTrue_Compare1 ?_ (by kernel_rfl)
  with_reducible refine Attribute_any_ ?_ (by kernel_rfl)
  refine W_loc S' hsc (by rfl) ?_
  refine W_attr (Cl := 144) S' ax adx (by rfl) (fun s S => ?_)
  clear S'
  with_reducible refine wpAny_Constant_none ?_
  refine wpAny_is_plain (by rfl) ?_
  with_reducible refine wpAny_truthy_bool ?_
  refine ifF (by simp) ?_
  (with_reducible refine wpAny_execs_nil ?_; with_reducible refine Then.nx (by assumption) _ ?_)
  (with_reducible refine W_cons ?_; intro _ _; dsimp only)
  with_reducible refine wpAny_Assign_Name ?_ (by kernel_rfl)
  with_reducible refine Attribute_any_ ?_ (by kernel_rfl)
  refine W_loc S hsc (by rfl) ?_
  refine W_attr (Cl := 144) S ax adx (by rfl) (fun s S => ?_)
  refine W_store S hsc fun s S => ?_
  (with_reducible refine Then.nx (by assumption) _ ?_; with_reducible refine W_cons ?_; intro _ _; dsimp only)
  (with_reducible refine wpAny_For ?_ (by intros; kernel_rfl))
  refine W_loc S hsc (by rfl) ?_
  refine W_iterT (vs := [.int i t]) S (TIn.of up_same) fun it o R₀ s e1 e2 e3 e4 S' => ?_
  refine W_for (itrT tp [.int i t]) S' (hh.trans hh0) e1 e2 e3 e4 S.rg (fun k => IvP σ r tp [.int i t] (fun H' => (if k = 0 then Sorter H' σ r deg (fun k => zs (sn k)) rl np nf else Sorter H' σ r ((sn i).foldl doneStep (fun k => if k = i then -2 else deg k, rl)).1 (fun k => zs (sn k)) ((sn i).foldl doneStep (fun k => if k = i then -2 else deg k, rl)).2 np (nf + 1))) H)
    (fun k m H' (.mk _ _ h ..) => .inl h) ⟨rfl, rfl, up_same, K1.kp, by simpa using g1⟩ ?_ ?_
  · intro k v R' m H' s E' hk hv hR hPat10 S _ _
    refine hide fun G hG => ?_
    obtain ⟨m1, m2, htp', kp, g2⟩ := hPat10
    refine hG ?_
    clear hG
    refine hide fun G hG => ?_
    obtain rfl : k = 0 := by simp at hk; assumption
    refine hG ?_
    clear hG
    refine hide fun G hG => ?_
    obtain rfl : v = .int i t := by simpa using hv.symm
    refine hG ?_
    clear hG
    rw [if_pos rfl] at g2
    with_reducible refine wpAny_assign_Name ?_
    refine W_store S hsc fun s S => ?_
    (with_reducible refine W_cons ?_; intro _ _)
    with_reducible refine wpAny_If ?_
    with_reducible refine wpAny_isTrue_Compare1 ?_ (by kernel_rfl)
    with_reducible refine wpAny_NamedExpr ?_
    with_reducible refine methodCall_KW ?_ (by with_unfolding_all rfl)
    refine W_loc S hsc (by assumption) ?_
    refine hide fun G hG => ?_
    obtain ⟨ep, cd⟩ := g2.c.hd
    refine hG ?_
    clear hG
    refine W_dmeth S cd PySem.F.slot_dict_get PySem.F.type_dict_get ?_
    refine W_dget g2.c.hs ?_
    refine W_loc S hsc (by rfl) ⟨i, t, _, _, H', _, ep, rfl, S, cd, fun s S => ?_⟩
    rw [valueAt_keys, if_pos hi]
    with_reducible refine wpAny_assign_Name ?_
    refine W_store S hsc fun s S => ?_
    with_reducible refine wpAny_Constant_none ?_
    refine wpAny_is_plain (by rfl) ?_
    with_reducible refine wpAny_truthy_bool ?_
    refine ifF (by simp) ?_
    (with_reducible refine wpAny_execs_nil ?_; with_reducible refine Then.nx (by assumption) _ ?_)
    (with_reducible refine W_cons ?_; intro _ _)
    with_reducible refine wpAny_Assign_Name ?_ (by kernel_rfl)
    with_reducible refine Attribute_any_ ?_ (by kernel_rfl)
    refine W_loc S hsc (by rfl) ?_
    refine hide fun G hG => ?_
    obtain ⟨u1, u2, hni⟩ := g2.c.hn i hi
    refine hG ?_
    clear hG
    refine W_node_npre S hni (g2.c.hx i hi) fun s S => ?_
    refine W_store S hsc fun s S => ?_
    (with_reducible refine Then.nx (by assumption) _ ?_; with_reducible refine W_cons ?_; intro _ _)
    with_reducible refine wpAny_If ?_
    with_reducible refine wpAny_isTrue_Compare1 ?_ (by kernel_rfl)
    refine W_loc S hsc (by rfl) ?_
    refine W_glob (v := .int (-1) 210) S hsc (by kernel_rfl) ?_
    refine W_neI ?_
    with_reducible refine wpAny_truthy_bool ?_
    refine ifF (by rw [hd]; simp) ?_
    (with_reducible refine wpAny_execs_nil ?_; with_reducible refine Then.nx (by assumption) _ ?_)
    (with_reducible refine W_cons ?_; intro _ _)
    with_reducible refine plainObj_wpAny_Assign_Attribute ?_ (by kernel_rfl)
    refine W_glob (v := .int (-2) 213) S hsc (by kernel_rfl) ?_
    refine W_loc S hsc (by rfl) ?_
    refine W_node_setnpre S hni (g2.c.hx i hi) fun s S => ?_
    (with_reducible refine Then.nx (by assumption) _ ?_; with_reducible refine W_cons ?_; intro _ _)
    (with_reducible refine wpAny_For ?_ (by intros; kernel_rfl))
    with_reducible refine Attribute_any_ ?_ (by kernel_rfl)
    refine W_loc S hsc (by rfl) ?_
    have fi : Foot σ K5 (σ.ni i) := .inr (.inr (.inr ⟨i, hi, .inl rfl⟩))
    have c3 := g2.c.setDeg (v := -2) (t := u1) (u := 213) hi
    have g3 : Sorter (up H' (σ.ni i) (.ob (nodeO (σ.nd i) (.int i u1) (.int (-2) 213) (.ref (σ.ls i))))) σ r (fun k => if k = i then -2 else deg k) (fun k => zs (sn k)) rl np nf := by
      refine ⟨c3, g2.a.upo hni (by simp [nodeO]) (by simp), ?_, g2.nr⟩
      obtain ⟨ws, q1, q2⟩ := g2.rd
      exact ⟨ws, up_ne (fun q => by rw [q, hni] at q1; cases q1) q1, q2⟩
    have htp3 : (up H' (σ.ni i) (.ob (nodeO (σ.nd i) (.int i u1) (.int (-2) 213) (.ref (σ.ls i))))) tp = some (.tup [.int i t]) := by
      exact up_ne (fun q => by rw [← q, htp'] at hni; cases hni) htp'
    have kp3 := kp.trans (Kp.up (F := FootS σ r) (d := .ob (nodeO (σ.nd i) (.int i u1) (.int (-2) 213) (.ref (σ.ls i)))) (.inl fi))
    clear cd c3 hni
    generalize up H' (σ.ni i) (.ob (nodeO (σ.nd i) (.int i u1) (.int (-2) 213) (.ref (σ.ls i)))) = H3 at S g3 htp3 kp3
    refine hide fun G hG => ?_
    obtain ⟨u1', u2', hni⟩ := g3.c.hn i hi
    refine hG ?_
    clear hG
    refine W_node_succ S hni (g3.c.hx i hi) fun s S => ?_
    refine hide fun G hG => ?_
    obtain ⟨ws, hws, hwi⟩ := g3.c.hl i hi
    refine hG ?_
    clear hG
    have hwl : ws.length = (sn i).length := hwi.length.trans (zs_length _)
    refine W_iterL (vs := ws) S (LIn.of hws) fun it2 o2 R2 s f1 f2 f3 f4 S2 => ?_
    refine W_for (itrL (σ.ls i) ws) S2 (hh.trans hh0) f1 f2 f3 f4 S.rg (fun k => IvQ σ i r tp [.int i t] ws (((sn i).take k).foldl doneStep (fun k => if k = i then -2 else deg k, rl)) sn np nf H)
      (fun k m H' (.mk _ _ _ _ h ..) => .inl h) ⟨by assumption, by assumption, htp3, kp3, hws, g3⟩ ?_ ?_
    · clear S S2 hni hws u1' u2' g3 htp3 kp3 g2 htp' kp m1 m2
      intro k v R4 m H' s E4 hk hv hR4 hPat10 S P hP
      refine hide fun G hG => ?_
      obtain ⟨m1, m2, htp', kp, hws, g2⟩ := hPat10
      refine hG ?_
      clear hG
      refine hide fun G hG => ?_
      obtain ⟨j, hj1⟩ : ∃ j, (sn i)[k]? = some j := ⟨(sn i)[k]'(by exact lt1 (by assumption) (by assumption)), List.getElem?_eq_getElem _⟩
      refine hG ?_
      clear hG
      have hj : j ∈ K5 := hsn i hi j (List.mem_of_getElem? hj1)
      refine hide fun G hG => ?_
      obtain ⟨z, tz, rfl, hz1⟩ := hwi.at k v hv
      refine hG ?_
      clear hG
      obtain rfl : z = (j : Int) := by
        unfold zs at hz1; rw [List.getElem?_map, hj1] at hz1; simpa using hz1.symm
      have hlen := doneFold_len ((sn i).take k) (fun k => if k = i then -2 else deg k, rl)
      rw [List.length_take] at hlen
      dsimp only at hlen
      have hstep : ((sn i).take (k + 1)).foldl doneStep (fun k => if k = i then -2 else deg k, rl) = doneStep (((sn i).take k).foldl doneStep (fun k => if k = i then -2 else deg k, rl)) j := by
        rw [take_snoc hj1, List.foldl_append]; rfl
      try dsimp only at hP
      rw [hstep] at hP
      generalize ((sn i).take k).foldl doneStep (fun k => if k = i then -2 else deg k, rl) = p at g2 hlen hP
      with_reducible refine wpAny_assign_Name ?_
      refine W_store S hsc fun s S => ?_
      (with_reducible refine W_cons ?_; intro _ _)
      with_reducible refine wpAny_Assign_Name ?_ (by kernel_rfl)
      with_reducible refine Subscript_ ?_
      refine W_loc S hsc (by assumption) ?_
      refine W_loc S hsc (by rfl) ?_
      refine hide fun G hG => ?_
      obtain ⟨ep, cd⟩ := g2.c.hd
      refine hG ?_
      clear hG
      refine W_subD S cd (by rw [valueAt_keys, if_pos hj]) fun s S => ?_
      refine W_store S hsc fun s S => ?_
      (with_reducible refine Then.nx (by assumption) _ ?_; with_reducible refine W_cons ?_; intro _ _)
      with_reducible refine wpAny_AugAssign_AttributeAny ?_
      refine W_loc S hsc (by rfl) ?_
      refine hide fun G hG => ?_
      obtain ⟨u1, u2, hnj⟩ := g2.c.hn j hj
      refine hG ?_
      clear hG
      refine W_node_npre S hnj (g2.c.hx j hj) fun s S => ?_
      refine W_int S fun u3 s S => ?_
      refine W_isub S fun u4 s S => ?_
      refine W_node_setnpre S hnj (g2.c.hx j hj) fun s S => ?_
      have fj : Foot σ K5 (σ.ni j) := .inr (.inr (.inr ⟨j, hj, .inl rfl⟩))
      have c3 := g2.c.setDeg (v := p.1 j - 1) (t := u1) (u := u4) hj
      have hnj' := up_same (H := H') (a := σ.ni j) (o := D.ob (nodeO (σ.nd j) (.int j u1) (.int (p.1 j - 1) u4) (.ref (σ.ls j))))
      have g3 : Sorter (up H' (σ.ni j) (.ob (nodeO (σ.nd j) (.int j u1) (.int (p.1 j - 1) u4) (.ref (σ.ls j))))) σ r (doneStep p j).1 (fun k => zs (sn k)) p.2 np nf := by
        refine ⟨c3, g2.a.upo hnj (by simp [nodeO]) (by simp), ?_, g2.nr⟩
        obtain ⟨ws, q1, q2⟩ := g2.rd
        exact ⟨ws, up_ne (fun q => by rw [q, hnj] at q1; cases q1) q1, q2⟩
      have htp3 : (up H' (σ.ni j) (.ob (nodeO (σ.nd j) (.int j u1) (.int (p.1 j - 1) u4) (.ref (σ.ls j))))) tp = some (.tup [.int i t]) := by
        exact up_ne (fun q => by rw [← q, htp'] at hnj; cases hnj) htp'
      have hws3 : (up H' (σ.ni j) (.ob (nodeO (σ.nd j) (.int j u1) (.int (p.1 j - 1) u4) (.ref (σ.ls j))))) (σ.ls i) = some (.lst ws) := by
        exact up_ne (fun q => by rw [← q, hws] at hnj; cases hnj) hws
      have kp3 := kp.trans (Kp.up (F := FootS σ r) (d := .ob (nodeO (σ.nd j) (.int j u1) (.int (p.1 j - 1) u4) (.ref (σ.ls j)))) (.inl fj))
      clear cd c3 hnj hws htp' kp g2
      generalize up H' (σ.ni j) (.ob (nodeO (σ.nd j) (.int j u1) (.int (p.1 j - 1) u4) (.ref (σ.ls j)))) = H3 at S g3 htp3 kp3 hws3 hnj'
      (with_reducible refine Then.nx (by assumption) _ ?_; with_reducible refine W_cons ?_; intro _ _)
      with_reducible refine wpAny_If ?_
      with_reducible refine wpAny_isTrue_Compare1 ?_ (by kernel_rfl)
      with_reducible refine Attribute_any_ ?_ (by kernel_rfl)
      refine W_loc S hsc (by rfl) ?_
      refine W_node_npre S hnj' (g3.c.hx j hj) fun s S => ?_
      refine W_int S fun u5 s S => ?_
      refine W_eqI ?_
      with_reducible refine wpAny_truthy_bool ?_
      by_cases h0 : p.1 j - 1 = 0
      · refine ifT (by simpa using h0) ?_
        (with_reducible refine W_cons ?_; intro _ _)
        refine W_expr S ?_
        with_reducible refine methodCall_KW ?_ (by with_unfolding_all rfl)
        with_reducible refine Attribute_any_ ?_ (by kernel_rfl)
        refine W_loc S hsc (by assumption) ?_
        refine hide fun G hG => ?_
        obtain ⟨ax, t1, t2, n, hn, adx⟩ := g3.a
        refine hG ?_
        clear hG
        refine W_attr (Cl := 144) S ax adx (by rfl) (fun s S => ?_)
        refine hide fun G hG => ?_
        obtain ⟨rs, hrs, hri⟩ := g3.rd
        refine hG ?_
        clear hG
        have hrl : rs.length = p.2.length := hri.length.trans (zs_length _)
        refine W_lmeth S hrs PySem.F.slot_list_append PySem.F.type_list_append ?_
        refine W_callB ?_
        (with_reducible refine spliced_more ?_ (by kernel_rfl); dsimp only)
        refine W_loc S hsc (by rfl) ?_
        with_reducible refine spliced_none ?_
        refine W_append S hrs (fun s S => ?_) (Nat.le_trans (Nat.le_of_eq hrl) (Nat.le_trans hlen (Nat.le_trans (Nat.add_le_add_left (Nat.min_le_right _ _) _) (Nat.le_trans (by assumption : rl.length + (sn i).length ≤ 1000) (by decide)))))
        (with_reducible refine Then.nx (by assumption) _ ?_; with_reducible refine wpAny_execs_nil ?_; with_reducible refine Then.nx (by assumption) _ ?_)
        (with_reducible refine wpAny_execs_nil ?_; with_reducible refine Turn.nx (by assumption) _ ?_)
        refine ⟨_, _, S, by assumption, by assumption, ?_, kp3.trans (Kp.up (.inr rfl)), ?_, ?_⟩
        · exact up_ne (fun q => by rw [← q, htp3] at hrs; cases hrs) htp3
        · exact up_ne (fun q => g3.nr i hi q.symm) hws3
        · refine ⟨?_, Att.upo ⟨ax, t1, t2, n, hn, adx⟩ hrs (by simp) (by simp), ⟨_, up_same, ?_⟩, g3.nr⟩
          · exact g3.c.upC (fun i hi => ⟨fun q => g3.nF (.inr (.inr (.inr ⟨i, hi, .inl q⟩))), fun q => g3.nF (.inr (.inr (.inr ⟨i, hi, .inr (.inl q)⟩))), g3.nr i hi⟩) fun q => g3.nF (.inr (.inr (.inl q)))
          · have : (doneStep p j).2 = p.2 ++ [j] := by unfold doneStep; rw [if_pos h0]
            rw [this, zs_append]
            exact hri.append (.cons _ _ .nil)
      · refine ifF (by simpa using h0) ?_
        (with_reducible refine wpAny_execs_nil ?_; with_reducible refine Then.nx (by assumption) _ ?_)
        (with_reducible refine wpAny_execs_nil ?_; with_reducible refine Turn.nx (by assumption) _ ?_)
        refine ⟨_, _, S, by assumption, by assumption, htp3, kp3, hws3, ?_⟩
        have : (doneStep p j).2 = p.2 := by unfold doneStep; rw [if_neg h0]
        rw [this]
        exact g3
    · clear S S2 hni hws u1' u2' g3 htp3 kp3 g2 htp' kp m1 m2
      rintro m H' s S ⟨m1, m2, htp', kp, hws, g2⟩
      rw [List.take_of_length_le (by lia)] at g2
      dsimp only
      refine hide fun G hG => ?_
      obtain ⟨ax, t1, t2, n, hn, adx⟩ := g2.a
      refine hG ?_
      clear hG
      (with_reducible refine Then.nx (by assumption) _ ?_; with_reducible refine W_cons ?_; intro _ _)
      with_reducible refine wpAny_AugAssign_AttributeAny ?_
      refine W_loc S hsc (by assumption) ?_
      refine W_attr (Cl := 144) S ax adx (by rfl) (fun s S => ?_)
      refine W_int S fun u5 s S => ?_
      refine W_iadd S fun u6 s S => ?_
      refine W_setattrO (Cl := 144) S ax adx (by exact le1 (by assumption) (Nat.le_of_ble_eq_true rfl)) (by rfl) fun s S => ?_
      rw [atts_nf] at S
      (with_reducible refine Then.nx (by assumption) _ ?_; with_reducible refine wpAny_execs_nil ?_; with_reducible refine Turn.nx (by assumption) _ ?_)
      refine hide fun G hG => ?_
      obtain ⟨rs, hrs, hri⟩ := g2.rd
      refine hG ?_
      clear hG
      refine ⟨_, _, S, by assumption, by assumption, ?_, kp.trans (Kp.up (.inl (.inr (.inl rfl)))), ?_⟩
      · exact up_ne (fun q => by rw [← q, htp'] at adx; cases adx) htp'
      · refine ifF (by decide) ?_
        refine ⟨g2.c.upDx g2.a, Att.set g2.a hn, ⟨rs, ?_, hri⟩, g2.nr⟩
        exact up_ne (fun q => by rw [← q, hrs] at adx; cases adx) hrs
  · rintro m H' s S ⟨m1, m2, htp', kp, g2⟩
    dsimp only
    (with_reducible refine Then.nx (by assumption) _ ?_; with_reducible refine wpAny_execs_nil ?_; dsimp only)
    exact h _ _ kp (by simpa using g2) (ex _ _ _ S)
end

section
variable {Z : Zs} {C : Cx} {R : Rp} {m m' : Loc} {H : Hp} {s : Shared} {E : Value → Shared → Prop}

theorem Sat.mark {x : Option Value} (S : Sat Z C R m H s) : Sat Z { C with A := C.A.mark x } R m H s := { S with c := { S.c with } }
theorem Sat.unmark {x : Option Value} (S : Sat Z { C with A := C.A.mark x } R m H s) : Sat Z C R m H s := { S with c := { S.c with } }

noncomputable def Cx.hid (C : Cx) (h : Heap) : Heap := hideAll h (C.fst.filterMap (·.frame))
theorem Sat.frR (S : Sat Z C R m H s) {b : Addr} (h : b ∈ C.fst.filterMap (·.frame)) : R b = none ∧ (∀ d, H b = some d → False) ∧ ∃ mm, s.heap.Ns b mm := by
  obtain ⟨env, he, hf⟩ := List.mem_filterMap.mp h
  obtain ⟨_, L, hL, hc⟩ := S.c.st env he
  rw [hL] at hf
  obtain rfl : L = b := Option.some.inj hf
  rcases hc with rfl | ⟨mm, hm⟩
  · exact ⟨S.rl, fun d e => S.dL _ d e rfl, m, S.ns⟩
  · exact ⟨S.rf _ hm, fun d e => S.dF _ d e _ hm rfl, mm, S.outs _ hm⟩
theorem Sat.hidR (S : Sat Z C R m H s) : ∀ b o, R b = some o → (C.hid s.heap).get? b = some o := fun b o e =>
  hideAll_get _ (S.keep b o e) fun q => by have := (S.frR q).1; rw [e] at this; cases this
theorem Sat.hidH (S : Sat Z C R m H s) : ∀ a d, H a = some d → ∃ o, (C.hid s.heap).get? a = some o ∧ d.holds Z.w o := fun a d e =>
  let ⟨o, ho, hd⟩ := S.own a d e; ⟨o, hideAll_get _ ho fun q => (S.frR q).2.1 d e, hd⟩
theorem Sat.funs (S : Sat Z C R m H s) : s.heap.FunFrames (C.hid s.heap) C.fst := by
  have : ∀ l : List Env, (∀ e ∈ l, e ∈ C.fst) → s.heap.FunFrames (C.hid s.heap) l := by
    intro l
    induction l with
    | nil => intro _; trivial
    | cons env l ih =>
      intro hl
      obtain ⟨hk, L, hL, hc⟩ := S.c.st env (hl env (.head _))
      have hm : L ∈ C.fst.filterMap (·.frame) := List.mem_filterMap.mpr ⟨env, hl env (.head _), hL⟩
      obtain ⟨_, _, mm, o, es, ep, ho, hd, _⟩ := S.frR hm
      exact ⟨hk, ⟨L, o, hL, hideAll_none _ hm, ho, fun vs q => by rw [hd] at q; cases q⟩, ih fun e he => hl e (.tail _ he)⟩
  exact this _ fun _ h => h
/-- frames' slots are changed, all else is kept -/
theorem Sat.flow {B h' : Heap} (S : Sat Z C R m H s) (hR : ∀ b o, R b = some o → B.get? b = some o) (hH : ∀ a d, H a = some d → ∃ o, B.get? a = some o ∧ d.holds Z.w o) (k : B.StaysIn h') (u : s.heap.UpToSlots h') : Sat Z C R m H { s with heap := h' } :=
  { S with
    ns := u.ns S.ns
    outs := fun p hp => u.ns (S.outs p hp)
    keep := fun b o e => k b o (hR b o e)
    own := fun a d e => let ⟨o, ho, hd⟩ := hH a d e; ⟨o, k _ _ ho, hd⟩ }

/-- an exception is on its way -/
structure Fly (Z : Zs) (C : Cx) (R : Rp) (m : Loc) (H : Hp) (e : Addr) (cls : Value) (s : Shared) : Prop where
  S : Sat Z C R m H s
  fl : ∃ B a0, Heap.FlyingW B C.fst e cls a0 s.heap ∧ (∀ b o, R b = some o → B.get? b = some o) ∧ (∀ a d, H a = some d → ∃ o, B.get? a = some o ∧ d.holds Z.w o)

theorem none_hid {h : Heap} {b : Addr} (hb : h.get? b = none) : (C.hid h).get? b = none := by
  cases q : (C.hid h).get? b with
  | none => rfl
  | some o => have := of_hideAll _ q; rw [hb] at this; cases this

/-- a new exception leaves its frame -/
theorem W_leave {Q : Unit → Shared → Prop} {C' : Cx} {m' : Loc} {H' : Hp} {s' : Shared} {h1 : Heap} {e : Addr} {cls : Value} {args : List Value} (S' : Sat Z C' R m' H' s') (ex : ∀ m'' H'' s'', Sat Z C' R m'' H'' s'' → Sat Z C R m H'' s'')
    (hfst : C'.fst = C'.env :: C.fst) (hfr : C'.env.frame = some C'.env.locals) (hx : Heap.MadeExcOf s'.heap h1 e cls args) (hQ : ∀ s3, Fly Z C R m H' e cls s3 → Q () s3) :
    wpAny Z.M C'.A (leaving C'.env (.ref e)) Q E { s' with heap := h1 } := by
  have fs := S'.funs
  rw [hfst] at fs
  refine wpAny_leaves_madeW (s := { s' with heap := h1 }) (base := C'.hid s'.heap) (h := s'.heap) (outer := C.fst) (L := C'.env.locals) (S'.c.frames.trans (by rw [hfst])) hfr (fun b o q => of_hideAll _ q) fs hx fun h' t x1 x2 x3 x4 => ?_
  have S1 : Sat Z C' R m' H' { s' with heap := h1 } := S'.grow (t := s'.toks) hx.keeps
  exact hQ _ ⟨ex _ _ _ (S1.flow S'.hidR S'.hidH x1.1 x4), _, _, x1, S'.hidR, S'.hidH⟩

/-- a new exception is met in its own frame -/
theorem W_note {Q : Unit → Shared → Prop} {h1 : Heap} {e : Addr} {cls : String} {out : List Env} (S : Sat Z C R m H s) (hfst : C.fst = C.env :: out) (hfr : C.env.frame = some C.env.locals) (hx : Heap.NewExc s.heap h1 e cls)
    (hQ : ∀ s3, Fly Z C R m H e (.type cls) s3 → Q () s3) : wpAny Z.M C.A (noteFrame (.ref e) C.env) (fun _ s₂ => wpAny Z.M C.A (setFlight (.ref e) none) Q E s₂) E { s with heap := h1 } := by
  refine hide fun G hG => ?_
  obtain ⟨ob, tp, he, hcls, hd⟩ := hx.there
  refine hG ?_
  clear hG
  have S1 : Sat Z C R m H { s with heap := h1 } := S.grow (t := s.toks) hx.keeps
  have fs := S.funs
  rw [hfst] at fs
  unfold noteFrame
  rw [hfr]
  dsimp only
  refine wpAny_bind (wpAny_field (s := { s with heap := h1 }) he hd (x := .none) rfl ?_)
  rw [if_neg (by decide)]
  refine wpAny_entryW (s := { s with heap := h1 }) (a0 := tp) (base := C.hid s.heap) (outer := out) (L := C.env.locals) (S.c.frames.trans (by rw [hfst])) (fs.of_keeps fun b o hb _ => ⟨o, hx.keeps b o hb, rfl⟩) hfr he (fun b o hb => hx.keeps b o (of_hideAll _ hb)) (none_hid hx.new) hd (by show 1 < 6; decide) rfl fun h' hN => ?_
  refine hide fun G hG => ?_
  obtain ⟨k1, k2, k3, k4⟩ := hN
  refine hG ?_
  clear hG
  rw [hcls] at k3
  have S2 := S1.flow S.hidR S.hidH k1 k4
  refine wpAny_landsW (s := { s with heap := h' }) (base := C.hid s.heap) (l := C.env :: out) (L := C.env.locals) ⟨k1, none_hid hx.new, k2, k3⟩ fun h₂ x1 x2 => ?_
  rw [← hfst] at x1
  exact hQ _ ⟨S2.flow S.hidR S.hidH x1.1 x2, _, _, x1, S.hidR, S.hidH⟩

theorem W_fly {Q : Unit → Shared → Prop} {e : Addr} {cls : Value} {out : List Env} (F : Fly Z C R m H e cls s) (hfst : C.fst = C.env :: out) (hfr : C.env.frame = some C.env.locals)
    (hQ : ∀ s3, Fly Z C R m H e cls s3 → Q () s3) : wpAny Z.M C.A (noteFrame (.ref e) C.env) (fun _ s₂ => wpAny Z.M C.A (setFlight (.ref e) none) Q E s₂) E s := by
  refine hide fun G hG => ?_
  obtain ⟨S, B, a0, fl, hR, hH⟩ := F
  refine hG ?_
  clear hG
  rw [hfst] at fl
  refine wpAny_looks_onW (S.c.frames.trans (by rw [hfst])) hfr fl fun h' x1 x2 => ?_
  have S1 := S.flow hR hH x1.1 x2
  refine wpAny_landsW x1 fun h₂ y1 y2 => ?_
  rw [← hfst] at y1
  exact hQ _ ⟨S1.flow hR hH y1.1 y2, _, _, y1, hR, hH⟩

/-- except, a builtin class -/
theorem W_handle {Q : Flow → Shared → Prop} {e : Addr} {X T : String} {x : Str} {np pos : Pos} {b₀ : Stmt} {suite : List Stmt} {rest : List ExceptHandler} {sc : Scope} (F : Fly Z C R m H e (.type X) s) (hsc : C.env.scope = sc) (hv : bootBuiltins x = some (.type T))
    (hexc : isSubtype (.type T) (.type "BaseException") = pure true) (hnt : isSubtype (.type ((Manifest.find? T).elim "type" fun y => y.metatype)) (.type "tuple") = pure false) (hsub : isSubtype (.type X) (.type T) = pure true)
    (k : ∀ s', Sat Z { C with A := C.A.mark (some (.ref e)) } R m H s' → wpAny Z.M (C.A.mark (some (.ref e))) (execs (b₀ :: suite) C.env) Q (fun _ _ => False) s')
    (he : autoParam (nsIn (Kw Z.w) mainGlobals x = some none) kr) (hn : x ≠ "__name__" := by decide) (hk : autoParam (sc.names.lookup x = some .globalImplicit) kr) (hd : autoParam ((x == ("__debug__" : Str)) = false) kr) :
    wpAny Z.M C.A (handleBy (.ref e) C.env (.ExceptHandler (some (.Name x np)) none (b₀ :: suite) pos :: rest)) Q (fun _ _ => False) s := by
  refine hide fun G hG => ?_
  obtain ⟨S, B, a0, fl, hR, hH⟩ := F
  obtain ⟨ob, hob, hobc⟩ := fl.there
  refine hG ?_
  clear hG
  refine wpAny_handleBy_builtin (X := X) (T := T) (b := true) hexc hnt hsub ?_
  refine W_blt (C := { C with A := C.A.mark (some (.ref e)) }) S.mark hsc hv ⟨rfl, ⟨ob, hob, hobc⟩, ?_⟩ he hn hk hd
  refine lands_againW fl fun h₂ y1 y2 => ?_
  exact wpAny_passesOwnAt .never (k _ (S.flow hR hH y1.1 y2).mark)

/-- a def without cells is entered; the frame is named -/
theorem W_enterF {Q : Value → Shared → Prop} {f : Addr} {fd : FuncData} {body : List Stmt} {pos : List Value} {kw : List (Str × Value)} {binds : List (Str × Value)} {oc : Value} {od : Option Addr} {osl : Array (Option Value)}
    (S : Sat Z C R m H s) (ho : (Kw Z.w).lookup f = some ⟨oc, od, .func fd, osl⟩) (hrm : 0 < C.rm) (hb : fd.body = .stmts body) (hbind : BindsTo s fd ⟨pos, kw⟩ binds)
    (h : ∀ C' s', C'.env.scope = fd.scope → C'.env.cells = fd.closure → C'.rm + 1 = C.rm → C'.A.handled = C.A.handled → C'.fst = C'.env :: C.fst → C'.env.frame = some C'.env.locals →
      (∀ m'' H'' s'', Sat Z C' R m'' H'' s'' → Sat Z C R m H'' s'') → Sat Z C' R (fun y => binds.reverse.lookup y) H s' →
      wpAny Z.M C'.A (execs body C'.env) (fun fl s'' => Q (retv fl) s'') (fun _ _ => False) s')
    (hcd : autoParam (codeIn (Kw Z.w) fd.code fd.qualname = true) kr) (hg : autoParam (fd.globals = mainGlobals) kr) (hbn : autoParam (fd.builtins = builtinsNs) kr)
    (hcell : autoParam ((fd.scope.names.all fun x => x.2 != .cell) = true) kr) (hloc : autoParam ((binds.all fun x => decide (fd.scope.names.lookup x.1 = some .local)) = true) kr)
    (hco : autoParam (fd.scope.isCoroutine = false) kr) (hgen : autoParam (fd.scope.isGenerator = false) kr) (hk : autoParam (fd.scope.kind = .function) kr) :
    wpAny Z.M C.A (call (.ref f) pos kw) Q E s :=
  W_enterE S ho hrm hb hbind (fun C' s' a1 a2 a3 a4 a6 a7 _ _ a5 _ S' => wpAny_mono (h C' s' a1 a2 a3 a4 a6 a7 a5 S') (fun _ _ z => z) fun _ _ z => z.elim) hcd hg hbn hcell hloc hco hgen hk

/-- except, a class of the text -/
theorem W_handleO {Q : Flow → Shared → Prop} {e : Addr} {K : Addr} {x : Str} {np pos : Pos} {b₀ : Stmt} {suite : List Stmt} {rest : List ExceptHandler} {sc : Scope} {nm q : Str} {N : Addr} {bs bm : List Value} {hdct : Bool} {sn : List Str} {sub : List Value} {ab : Bool} {col : Option Bool} {dd : Option Addr} {k0 k1 k2 k3 k5 : Option Value} {newId : String}
    (F : Fly Z C R m H e (.ref K) s) (hsc : C.env.scope = sc) (hv : nsIn (Kw Z.w) mainGlobals x = some (some (.ref K)))
    (hK : (Kw Z.w).lookup K = some (excClassObj nm q K N bs bm hdct sn sub ab col dd k0 k1 k2 k3 k5 newId)) (hbase : bm.contains (.type "BaseException") = true)
    (k : ∀ s', Sat Z { C with A := C.A.mark (some (.ref e)) } R m H s' → wpAny Z.M (C.A.mark (some (.ref e))) (execs (b₀ :: suite) C.env) Q (fun _ _ => False) s')
    (hk : autoParam (sc.names.lookup x = some .globalImplicit) kr) (hd : autoParam ((x == ("__debug__" : Str)) = false) kr) :
    wpAny Z.M C.A (handleBy (.ref e) C.env (.ExceptHandler (some (.Name x np)) none (b₀ :: suite) pos :: rest)) Q (fun _ _ => False) s := by
  refine hide fun G hG => ?_
  obtain ⟨S, B, a0, fl, hR, hH⟩ := F
  obtain ⟨ob, hob, hobc⟩ := fl.there
  refine hG ?_
  clear hG
  refine wpAny_handleBy_cons (codeAny_handlers_test ?_) (by intro q; cases q)
  refine W_glob (C := { C with A := C.A.mark (some (.ref e)) }) S.mark hsc hv ?_ hk hd
  refine hide fun G hG => ?_
  obtain ⟨hp, g, d, t, os⟩ := s
  refine hG ?_
  clear hG
  refine wpAny_excMatches_sub_self (S.K _ _ hK) hob hobc hbase (codeAny_handlers_suite ?_)
  refine lands_againW fl fun h₂ y1 y2 => ?_
  exact wpAny_passesOwnAt .never (k _ (S.flow hR hH y1.1 y2).mark)
end

section
variable {Z : Zs} {C : Cx} {R : Rp} {m m' : Loc} {H : Hp} {s : Shared} {E : Value → Shared → Prop}
/-- the words of a refusal: only that they come into being counts -/
theorem W_words {i : Nat} {t : Tok} {Q : Value → Shared → Prop} {x : Str} {np : Pos} {vp p1 p2 : Pos} {k1 k2 : Nat} {w1 w2 : Str} {pos : Pos} {sc : Scope} (S : Sat Z C R m H s) (hsc : C.env.scope = sc) (hv : m x = some (.int i t)) (hi : i < 5)
    (h : ∀ v s', Sat Z C R m H s' → Q v s') (h1 : w1.length ≤ 1000 := by decide) (h2 : w2.length ≤ 1000 := by decide)
    (hk : autoParam (sc.names.lookup x = some .local) kr) (hd : autoParam ((x == ("__debug__" : Str)) = false) kr) :
    wpAny Z.M C.A (eval (.JoinedStr [.Constant (.str w1) k1 p1, .FormattedValue (.Name x np) 114 none vp, .Constant (.str w2) k2 p2] pos) C.env) Q E s := by
  have hlen : (Str.ofString (toString (i : Int))).length ≤ 10 := by
    have : i = 0 ∨ i = 1 ∨ i = 2 ∨ i = 3 ∨ i = 4 := by exact of5 (by assumption)
    rcases this with rfl | rfl | rfl | rfl | rfl <;> decide
  have hlog : (i : Int).natAbs.log2 < 1920 := by
    have : i = 0 ∨ i = 1 ∨ i = 2 ∨ i = 3 ∨ i = 4 := by exact of5 (by assumption)
    rcases this with rfl | rfl | rfl | rfl | rfl <;> decide
  have e0 : ∀ y : Str, (Str.empty ++ y).length = y.length := fun y => by rw [strLen_append]; simp [Str.empty, Str.length]
  refine JoinedStr_many (joinParts_cons (Constant_str ⟨?_, joinParts_cons (wpAny_FormattedValue_repr (W_loc S.tok hsc hv (pyReprObj_int hlog (formatField_str (fun t' tk => ⟨?_, joinParts_cons (Constant_str ⟨?_, joinParts_nil (h _ _ S.tok) ?_⟩)⟩) ?_)) hk hd))⟩))
  · rw [e0, sizeLine_eq]; exact le1 (by assumption) (Nat.le_of_ble_eq_true rfl)
  · rw [strLen_append, e0, sizeLine_eq]; lia
  · rw [strLen_append, strLen_append, e0, sizeLine_eq]; lia
  · rw [strLen_append, strLen_append, e0, sizeLine_eq]; lia
  · rw [sizeLine_eq]; exact le1 (by assumption) (Nat.le_of_ble_eq_true rfl)
end
section
variable {Z : Zs} {C : Cx} {R : Rp} {m m' : Loc} {H : Hp} {s : Shared} {E : Value → Shared → Prop} {σ : Srt} {r l : Addr} {vs : List Value} {deg : Nat → Int} {suc : Nat → List Int} {rl : List Nat} {np nf : Int} {i : Nat} {t : Tok}

theorem spec_doneBad {Q : Value → Shared → Prop} (S : Sat Z C R m H s) (hrm : 0 < C.rm) (hh0 : C.A.handled = none) (g : Sorter H σ r deg suc rl np nf) (hi : i ∈ K5) (hi5 : i < 5) (hd : 0 ≤ deg i)
    (h : ∀ e s', Fly Z C R m H e (.type "ValueError") s' → E (.ref e) s') :
    wpAny Z.M C.A (call (.ref 127) [.ref σ.x, .int i t] []) Q E s := by
  refine wpAny_call (W_enterV C.A S rfl (by lia) (by lia) rfl (by rfl) hrm (by rfl) (ps := [.int i t]) (binds := fun tv => [("self", .ref σ.x), ("nodes", tv)]) (by rfl) (by simp) fun C' tp s' hsc hcl hr hh hfst hfr hq hcd ht1 ht2 ex hfrs S' => ?_)
  clear hq hcd hfrs hcl
  have hG := S.rg
  clear S
  have K1 : Ke H (up H tp (.tup [.int i t])) := Ke.new ht1
  have g1 := g.ke K1
  refine hide fun G hG => ?_
  obtain ⟨ax, t1, t2, n, hn, adx⟩ := g1.a
  refine hG ?_
  clear hG
  (with_reducible refine W_cons ?_; intro _ _; dsimp only)
  with_reducible refine wpAny_If ?_
  with_reducible refine wpAny_isTrue_Compare1 ?_ (by kernel_rfl)
  with_reducible refine Attribute_any_ ?_ (by kernel_rfl)
  refine W_loc S' hsc (by rfl) ?_
  refine W_attr (Cl := 144) S' ax adx (by rfl) (fun s S => ?_)
  clear S'
  with_reducible refine wpAny_Constant_none ?_
  refine wpAny_is_plain (by rfl) ?_
  with_reducible refine wpAny_truthy_bool ?_
  refine ifF (by simp) ?_
  (with_reducible refine wpAny_execs_nil ?_; with_reducible refine Then.nx (by assumption) _ ?_)
  (with_reducible refine W_cons ?_; intro _ _; dsimp only)
  with_reducible refine wpAny_Assign_Name ?_ (by kernel_rfl)
  with_reducible refine Attribute_any_ ?_ (by kernel_rfl)
  refine W_loc S hsc (by rfl) ?_
  refine W_attr (Cl := 144) S ax adx (by rfl) (fun s S => ?_)
  refine W_store S hsc fun s S => ?_
  (with_reducible refine Then.nx (by assumption) _ ?_; with_reducible refine W_cons ?_; intro _ _; dsimp only)
  (with_reducible refine wpAny_For ?_ (by intros; kernel_rfl))
  refine W_loc S hsc (by rfl) ?_
  refine W_iterT (vs := [.int i t]) S (TIn.of up_same) fun it o R₀ s e1 e2 e3 e4 S' => ?_
  refine W_forE (itrT tp [.int i t]) S' (hh.trans hh0) e1 e2 e3 e4 S.rg (fun k m H' => k = 0 ∧ m "self" = some (.ref σ.x) ∧ m "n2i" = some (.ref σ.d) ∧ H' = up H tp (.tup [.int i t]))
    (fun k m H' hI => .inl (by rw [hI.2.2.2]; exact up_same)) ⟨rfl, rfl, rfl, rfl⟩ ?_ PassesOwn.leaving ?_
  · rintro k v R' m H' s hk hv hR ⟨rfl, m1, m2, rfl⟩ S _ _
    refine hide fun G hG => ?_
    obtain rfl : v = .int i t := by simpa using hv.symm
    refine hG ?_
    clear hG
    with_reducible refine wpAny_assign_Name ?_
    refine W_store S hsc fun s S => ?_
    (with_reducible refine W_cons ?_; intro _ _)
    with_reducible refine wpAny_If ?_
    with_reducible refine wpAny_isTrue_Compare1 ?_ (by kernel_rfl)
    with_reducible refine wpAny_NamedExpr ?_
    with_reducible refine methodCall_KW ?_ (by with_unfolding_all rfl)
    refine W_loc S hsc (by assumption) ?_
    refine hide fun G hG => ?_
    obtain ⟨ep, cd⟩ := g1.c.hd
    refine hG ?_
    clear hG
    refine W_dmeth S cd PySem.F.slot_dict_get PySem.F.type_dict_get ?_
    refine W_dget g1.c.hs ?_
    refine W_loc S hsc (by rfl) ⟨i, t, _, _, _, _, ep, rfl, S, cd, fun s S => ?_⟩
    rw [valueAt_keys, if_pos hi]
    with_reducible refine wpAny_assign_Name ?_
    refine W_store S hsc fun s S => ?_
    with_reducible refine wpAny_Constant_none ?_
    refine wpAny_is_plain (by rfl) ?_
    with_reducible refine wpAny_truthy_bool ?_
    refine ifF (by simp) ?_
    (with_reducible refine wpAny_execs_nil ?_; with_reducible refine Then.nx (by assumption) _ ?_)
    (with_reducible refine W_cons ?_; intro _ _)
    with_reducible refine wpAny_Assign_Name ?_ (by kernel_rfl)
    with_reducible refine Attribute_any_ ?_ (by kernel_rfl)
    refine W_loc S hsc (by rfl) ?_
    refine hide fun G hG => ?_
    obtain ⟨u1, u2, hni⟩ := g1.c.hn i hi
    refine hG ?_
    clear hG
    refine W_node_npre S hni (g1.c.hx i hi) fun s S => ?_
    refine W_store S hsc fun s S => ?_
    (with_reducible refine Then.nx (by assumption) _ ?_; with_reducible refine W_cons ?_; intro _ _)
    with_reducible refine wpAny_If ?_
    with_reducible refine wpAny_isTrue_Compare1 ?_ (by kernel_rfl)
    refine W_loc S hsc (by rfl) ?_
    refine W_glob (v := .int (-1) 210) S hsc (by kernel_rfl) ?_
    refine W_neI ?_
    with_reducible refine wpAny_truthy_bool ?_
    refine ifT (by simp; lia) ?_
    (with_reducible refine W_cons ?_; intro _ _)
    with_reducible refine wpAny_If ?_
    with_reducible refine wpAny_isTrue_Compare1 ?_ (by kernel_rfl)
    refine W_loc S hsc (by rfl) ?_
    refine W_int S fun u3 s S => ?_
    refine W_geI ?_
    with_reducible refine wpAny_truthy_bool ?_
    refine ifT (by simpa using hd) ?_
    (with_reducible refine W_cons ?_; intro _ _)
    refine wpAny_Raise_call PySem.F.excCall_ValueError PySem.F.excRaise_ValueError (hh.trans hh0) (by rfl) ?_
    refine W_blt (v := .type "ValueError") S hsc (by kernel_rfl) ⟨rfl, ?_⟩
    refine evalArgs_plain (spliced_cons ?_)
    refine W_words (pos := ⟨0, 0, 0, 0⟩) S hsc (by rfl) hi5 fun v s S => ?_
    refine wpAny_pure ⟨rfl, by simp [sizeLine_eq], fun h' e hx => ?_⟩
    refine W_leave (S.weak hR hG) ex hfst hfr ⟨hx.keeps, hx.new, hx.there⟩ fun s3 F => h _ _ ⟨F.S.less K1, ?_⟩
    refine hide fun G hG => ?_
    obtain ⟨B, a0, b1, b2, b3⟩ := F.fl
    refine hG ?_
    clear hG
    exact ⟨B, a0, b1, b2, fun a d e => b3 a d (K1 a d e)⟩
  · rintro m H' s S ⟨hk, _⟩
    simp at hk
end

noncomputable def relS (scope sc : Scope) : Scope :=
  { scope with names := scope.names.map fun (n, k) => if (k == .free && sc.kind == .function && sc.names.lookup n == some .cell) then (n, .cell) else (n, k) }
theorem relabel_eq (scope : Scope) (env : Env) : relabel scope env = relS scope env.scope := rfl
theorem Ke.up {H H' : Hp} {a : Addr} {d : D} (k : Ke H H') (h : H a = .none) : Ke H (Mine.up H' a d) := fun x dx e => by
  exact up_ne (fun q => by rw [q, h] at e; cases e) (k x dx e)

noncomputable def Cx.comp (C : Cx) (m : Loc) (scope : Scope) (cl : List (Str × Addr)) (L : Addr) : Cx :=
  { A := C.A, env := compEnvC scope cl L C.env, frs := (C.env.locals, m) :: C.frs, fst := C.fst, rm := C.rm }

section
variable {Z : Zs} {C : Cx} {R : Rp} {m m' : Loc} {H : Hp} {s : Shared} {E : Value → Shared → Prop}

/-- a place that nobody speaks of is changed -/
theorem Sat.hush {a : Addr} {h' : Heap} {t : Nat} (S : Sat Z C R m H s) (hs : Heap.SameBut a s.heap h') (hR : R a = none) (hH : H a = none) (hL : C.env.locals ≠ a) (hF : ∀ p ∈ C.frs, p.1 ≠ a) : Sat Z C R m H { s with heap := h', toks := t } :=
  { S with
    ns := S.ns.sameBut hs hL
    outs := fun p hp => (S.outs p hp).sameBut hs (hF p hp)
    keep := fun b o e => (hs.2 b (fun q => by rw [q, hR] at e; cases e)).trans (S.keep b o e)
    own := fun b d e => let ⟨o, ho, hd⟩ := S.own b d e; ⟨o, (hs.2 b (fun q => by rw [q, hH] at e; cases e)).trans ho, hd⟩ }

theorem Sat.noneL (S : Sat Z C R m H s) : H C.env.locals = none := by
  cases q : H C.env.locals with
  | none => rfl
  | some d => exact absurd rfl (S.dL _ d q)

theorem Sat.subC {scope : Scope} {cl : List (Str × Addr)} {L : Addr} {h' : Heap} {t : Nat} {mb : Loc} (S : Sat Z C R m H s) (hL : L = s.heap.objs.size) (hk : scope.kind = .function)
    (hns : h'.Ns L mb) (k : ∀ b o, s.heap.get? b = some o → h'.get? b = some o) :
    Sat Z (C.comp m scope cl L) R mb H { s with heap := h', toks := t } := by
  have n0 : ∀ b ob, s.heap.get? b = some ob → b ≠ L := fun b ob e => by rw [hL]; exact Nat.ne_of_lt (Heap.lt_size e)
  have S1 := S.grow (t := t) k
  have hfrs : ∀ p ∈ (C.env.locals, m) :: C.frs, s.heap.Ns p.1 p.2 := fun p hp => by
    rcases List.mem_cons.mp hp with rfl | hp
    · exact S.ns
    · exact S.outs p hp
  refine { z := S.z, c := ?_, ns := hns, outs := fun p hp => (hfrs p hp).keeps k, rg := S.rg, rl := ?_, rf := ?_, keep := S1.keep, own := S1.own, dR := S.dR, dL := ?_, dF := ?_, gens := S.gens, drawn := S.drawn, os := S.os }
  · refine { frames := S.c.frames, depth := S.c.depth, units := S.c.units, kind := hk, glob := S.c.glob, bns := S.c.bns, fr := ?_, st := ?_ }
    · intro p hp
      show p.1 ≠ L
      rw [hL]; exact Nat.ne_of_lt (hfrs p hp).lt
    · intro e he
      obtain ⟨a, L', b, c⟩ := S.c.st e he
      refine ⟨a, L', b, .inr ?_⟩
      rcases c with rfl | ⟨mm, hm⟩
      · exact ⟨m, .head _⟩
      · exact ⟨mm, .tail _ hm⟩
  · show R L = none
    rw [hL]; exact S.fresh.2
  · intro p hp
    rcases List.mem_cons.mp hp with rfl | hp
    · exact S.rl
    · exact S.rf p hp
  · intro a d e
    obtain ⟨x, hx, _⟩ := S.own a d e
    exact n0 _ _ hx
  · intro a d e p hp
    rcases List.mem_cons.mp hp with rfl | hp
    · exact Ne.symm (S.dL a d e)
    · exact S.dF a d e p hp

inductive Lcp (Z : Zs) (C : Cx) (scope : Scope) (cl : List (Str × Addr)) (e : Expr) (Q : Value → Shared → Prop) (itv : Value) (s₂ : Shared) : Prop
  | mk (it : Addr) (R R₀ : Rp) (m : Loc) (H : Hp) (e1 : itv = .ref it) (hR : RLe R R₀) (hG : ∀ b o, Z.G.get? b = some o → R b = some o) (S : Sat Z C R₀ m H s₂)
    (k : ∀ L D s₃, H D = none → R₀ D = none → (∀ m'' H'' s'', Sat Z (C.comp m scope cl L) R m'' H'' s'' → Sat Z C R m H'' s'') → Sat Z (C.comp m scope cl L) R₀ (fun _ => none) (up H D (.lst [])) s₃ →
      ∀ RR : Result → Shared → Prop, (∀ m' H' s', Sat Z (C.comp m scope cl L) R m' H' s' → (∀ s'', Sat Z C R m H' s'' → Q (.ref D) s'') → ∀ f, RR (.ok f) s') → codeAny Z.M C.A (.compStart e 0 (.ref it) (.ref D) (C.comp m scope cl L).env) RR s₃) :
    Lcp Z C scope cl e Q itv s₂
/-- a list display by a comprehension -/
theorem W_lcomp {Q : Value → Shared → Prop} {elt target iter : Expr} {ifs : List Expr} {rest : List Comprehension} {scope : Scope} {cl : List (Str × Addr)} {pos : Pos} (hclos : closureFor scope C.env = pure cl)
    (h : wpAny Z.M C.A (eval iter C.env) (fun x s₁ => wpAny Z.M C.A (pyIter x) (Lcp Z C scope cl (.ListComp elt (⟨target, iter, ifs, 0⟩ :: rest) scope pos) Q) E s₁) E s)
    (hcell : autoParam ((scope.names.all fun x => x.2 != .cell) = true) kr) (hkind : autoParam (scope.kind = .function) kr)
    (hnames : autoParam ((scope.names.all fun x => x.2 != .local || decide (scope.names.lookup x.1 = some .local)) = true) kr)
    (hs : ∀ x, foldedSetIterable iter C.env x = pure x := by intro _; rfl) :
    wpAny Z.M C.A (eval (.ListComp elt (⟨target, iter, ifs, 0⟩ :: rest) scope pos) C.env) Q E s := by
  rw [eval_ListComp]
  refine wpAny_comprehension_free (use := none) (cl := cl) (gs := rest) (g := ⟨target, iter, ifs, 0⟩) rfl hs hclos hkind (fun x hx hl => by have := List.all_eq_true.mp hnames x hx; simpa [hl] using this) (wpAny_mono h (fun x s₁ h₁ => wpAny_mono h₁ (fun itv s₂ h₂ => ?_) fun _ _ z => z) fun _ _ z => z)
  refine hide fun G hG => ?_
  obtain ⟨it, R, R₀, m, H, rfl, hR, hG, S, k⟩ := h₂
  refine hG ?_
  clear hG
  refine wpAny_newObj_type (wpAny_newFunctionEnv (fun x hx => by have := List.all_eq_true.mp hcell x hx; simpa using this) (by intro y hy; simp at hy) (fun h₁ hns₁ hsb₁ => ?_) hkind) (by size_fits)
  dsimp only at hns₁ hsb₁ ⊢
  have S1 := S.new (t := s₂.toks) (d := .lst []) (h' := s₂.heap.push { cls := .type "list", dict := none, data := .seq ([] : List Value).toArray }) (fun b o e => Heap.get?_push_of_some _ e) ⟨_, Heap.get?_push_size _ rfl, 0, rfl⟩
  have S2 := S1.subC (scope := scope) (cl := cl) (L := _) (t := s₂.toks + ([] : List (Str × Value)).length) rfl hkind hns₁ (fun b o e => hsb₁.extBut b o (Nat.ne_of_lt (Heap.lt_size e)) (Heap.get?_push_of_some _ e))
  have Sw := S.weak hR hG
  refine codeAny_mono (k _ _ _ S.fresh.1 S.fresh.2 (fun m'' H'' s'' S'' => Sw.exit rfl S'') S2 (fun r s' => match r with | .ok _ => ∃ m' H', Sat Z (C.comp m scope cl _) R m' H' s' ∧ ∀ s'', Sat Z C R m H' s'' → Q (.ref _) s'' | .error _ => False) fun m' H' s' a b _ => ⟨m', H', a, b⟩) fun r s' hr => ?_
  cases r with
  | error e => exact hr.elim
  | ok f =>
    refine hide fun G hG => ?_
    obtain ⟨m', H', S', hq⟩ := hr
    refine hG ?_
    clear hG
    refine ⟨m', S'.ns, fun h' hs' => hq _ ?_⟩
    have S3 := Sw.exit (C' := C.comp m scope cl _) rfl S'
    refine S3.hush (t := s'.toks) hs' S'.rl ?_ (S'.c.fr _ (.head _)) fun p hp => S'.c.fr p (.tail _ hp)
    exact S'.noneL

/-- a clause is begun -/
theorem W_cstart {RR : Result → Shared → Prop} {n : Nat} {Item : Nat → Value → Prop} {Src : Hp → Prop} {J : Addr → Nat → Obj → Prop} (T : Itr Z R n Item Src J) {elt : Expr} {gs : List Comprehension} {scope : Scope} {pos : Pos} {d : Nat} {g : Comprehension} {acc : Value} {it : Addr} {o : Obj} {R₀ : Rp}
    (S : Sat Z C R₀ m H s) (hS : Src H) (hit : R₀ it = some o) (hJ : J it 0 o) (hg : gs[d]? = some g) (ha : g.is_async = 0)
    (h : codeAny Z.M C.A (.compLoop (.ListComp elt gs scope pos) d (.ref it) acc C.env) RR s) : codeAny Z.M C.A (.compStart (.ListComp elt gs scope pos) d (.ref it) acc C.env) RR s := by
  have hc : (clausesOf (.ListComp elt gs scope pos))[d]? = some g := hg
  refine codeAny_of_tree ?_
  show wpAny _ _ ((compStart (.ListComp elt gs scope pos) d (.ref it) acc C.env).onRaise (fun x => do noteFrame x C.env; standAt theWindowsPlace)) _ _ s
  refine wpAny_notedAt ?_
  unfold compStart
  rw [hc]
  simp only [Option.elim, ha]
  rw [if_neg (by decide)]
  show wpAny _ _ (ask >>= _) _ _ s
  refine wpAny_bind (wpAny_askSetting (wpAny_ite ?_))
  split
  · first
      | exact wpAny_bind (wpAny_pure (wpAny_pure (And.intro rfl h)))
      | exact wpAny_pure (And.intro rfl h)
  · refine wpAny_bind (wpAny_rule ?_)
    show wpAny _ _ (standAt g.iter.pos >>= _) _ _ s
    exact wpAny_bind (wpAny_standAt (wpAny_bind (T.again S hS hit hJ (wpAny_pure (And.intro rfl h)))))

/-- a clause's turns, by an invariant; the turn's tree as it is -/
theorem W_cl0 {RR : Result → Shared → Prop} {n : Nat} {Item : Nat → Value → Prop} {Src : Hp → Prop} {J : Addr → Nat → Obj → Prop} (T : Itr Z R n Item Src J) {elt : Expr} {gs : List Comprehension} {scope : Scope} {pos : Pos} {d : Nat} {target : Expr} {B : Sem Fin} {p : Pos} {acc : Value} {it : Addr} {R₀ : Rp} {o : Obj}
    (S : Sat Z C R₀ m H s) (hh : C.A.handled = none) (hR : RLe R R₀) (hit : R₀ it = some o) (hJ : J it 0 o) (hn : R it = none) (hG : ∀ b o, Z.G.get? b = some o → R b = some o)
    (I : Nat → Loc → Hp → Prop) (hsrc : ∀ k m H, I k m H → Src H) (h0 : I 0 m H)
    (step : ∀ k v R' m H s E', k < n → Item k v → RLe R R' → I k m H → Sat Z C R' m H s → ∀ F : Fin → Shared → Prop, (∀ s, Nxt Z C R' (I (k + 1)) s → F (.again (.compLoop (.ListComp elt gs scope pos) d (.ref it) acc C.env)) s) →
      wpAny Z.M C.A (assign target C.env v) (fun _ s₂ => wpAny Z.M C.A B F E' s₂) E' s)
    (done : ∀ m H s, Sat Z C R m H s → I n m H → RR (.ok .next) s)
    (ht : compTurn (.ListComp elt gs scope pos) d (.ref it) acc C.env = (standAt p >>= fun _ => pyNext (.ref it) >>= fun r => match r with
      | none => pure (.done .next)
      | some v => letOwnedTupleGo target (.ref it) v >>= fun _ => assign target C.env v >>= fun _ => B)) :
    codeAny Z.M C.A (.compLoop (.ListComp elt gs scope pos) d (.ref it) acc C.env) RR s := by
  have hGi : Z.G.get? it = none := by
    cases q : Z.G.get? it with
    | none => rfl
    | some ob => have := hG _ _ q; rw [hn] at this; cases this
  refine codeAny_loop rfl (LpI Z C R n J I it) (fun j s hI => ?_) n ⟨0, R₀, m, H, o, rfl, Nat.zero_le _, hR, hit, hJ, S, h0⟩
  refine hide fun G hG => ?_
  obtain ⟨k, R', m, H, o, rfl, hk, hR', hit', hJ', S', hI'⟩ := hI
  refine hG ?_
  clear hG
  show wpAny _ C.A ((compTurn (.ListComp elt gs scope pos) d (.ref it) acc C.env).onRaise (fun x => do noteFrame x C.env; theTreesLotGoes x)) _ _ s
  refine wpAny_noted ?_
  rw [ht]
  refine wpAny_bind (wpAny_standAt (wpAny_bind ?_))
  by_cases hlt : k < n
  · refine T.item hlt S' hR' (hsrc _ _ _ hI') hit' hJ' hn hGi fun v R'' s' o' hv hR'' hit'' hJ'' S'' => ?_
    refine hide fun G hG => ?_
    obtain ⟨nm, c1, c2⟩ := T.cls hJ''
    refine hG ?_
    clear hG
    exact wpAny_bind (own_tuple S'' hit'' c1 c2 (wpAny_bind (step k v R'' m H s' _ hlt hv hR'' hI' S'' _ fun s₄ ⟨m', H', S3, I3⟩ => ⟨rfl, n - (k + 1), Nat.sub_succ_lt_self _ _ hlt, k + 1, R'', m', H', o', rfl, hlt, hR'', hit'', hJ'', S3, I3⟩)))
  · have : k = n := Nat.le_antisymm hk (Nat.not_lt.mp hlt)
    subst this
    exact T.stop hh S' hR' (hsrc _ _ _ hI') hit' hJ' hn hG fun s' S'' => wpAny_pure (done _ _ _ S'' hI')
/-- a clause's turns, by an invariant -/
theorem W_cloop {RR : Result → Shared → Prop} {n : Nat} {Item : Nat → Value → Prop} {Src : Hp → Prop} {J : Addr → Nat → Obj → Prop} (T : Itr Z R n Item Src J) {elt : Expr} {gs : List Comprehension} {scope : Scope} {pos : Pos} {d : Nat} {target : Expr} {tests : Sem Bool} {emit : Sem Unit} {p : Pos} {acc : Value} {it : Addr} {R₀ : Rp} {o : Obj}
    (S : Sat Z C R₀ m H s) (hh : C.A.handled = none) (hR : RLe R R₀) (hit : R₀ it = some o) (hJ : J it 0 o) (hn : R it = none) (hG : ∀ b o, Z.G.get? b = some o → R b = some o)
    (I : Nat → Loc → Hp → Prop) (hsrc : ∀ k m H, I k m H → Src H) (h0 : I 0 m H)
    (step : ∀ k v R' m H s E', k < n → Item k v → RLe R R' → I k m H → Sat Z C R' m H s → ∀ P : Shared → Prop, (∀ s, Nxt Z C R' (I (k + 1)) s → P s) →
      wpAny Z.M C.A (assign target C.env v) (fun _ s₂ => wpAny Z.M C.A tests (fun ok s₃ => if ok = true then wpAny Z.M C.A emit (fun _ s₄ => P s₄) E' s₃ else P s₃) E' s₂) E' s)
    (done : ∀ m H s, Sat Z C R m H s → I n m H → RR (.ok .next) s)
    (ht : autoParam (compTurn (.ListComp elt gs scope pos) d (.ref it) acc C.env = (standAt p >>= fun _ => pyNext (.ref it) >>= fun r => match r with
      | none => pure (.done .next)
      | some v => letOwnedTupleGo target (.ref it) v >>= fun _ => assign target C.env v >>= fun _ => tests >>= fun ok =>
        if ok = true then emit >>= fun _ => again (.compLoop (.ListComp elt gs scope pos) d (.ref it) acc C.env) else again (.compLoop (.ListComp elt gs scope pos) d (.ref it) acc C.env))) kq) :
    codeAny Z.M C.A (.compLoop (.ListComp elt gs scope pos) d (.ref it) acc C.env) RR s :=
  W_cl0 T S hh hR hit hJ hn hG I hsrc h0 (fun k v R' m H s E' a b c d e F hF => wpAny_mono (step k v R' m H s E' a b c d e _ hF) (fun _ _ h₂ => wpAny_bind (wpAny_mono h₂ (fun ok _ h₃ => by
    cases ok with
    | false => exact wpAny_pure h₃
    | true => exact wpAny_bind (wpAny_mono h₃ (fun _ _ h₄ => wpAny_pure h₄) fun _ _ z => z)) fun _ _ z => z)) fun _ _ z => z) done ht
end

theorem li_slot_ga : Slot "list_iterator" "__getattribute__" "object.__getattribute__" :=
  .of (owner := "object") (n := "__getattribute__") (by rw [typeLookup_type, builtinLookup_eq_fast]; kernel_rfl) (by decide +kernel) (by decide +kernel) (by decide +kernel)
    (by first | exact .inl (by decide +kernel) | exact .inr (by decide +kernel)) (by rw [isSubtype_type]; kernel_rfl)
theorem li_entry_ga : entryFor table "object.__getattribute__" = some Builtin.«object.__getattribute__» := entryFor_of_tree (by kernel_rfl)
theorem li_args_ga (a b : Value) : argsOk "object.__getattribute__" ⟨[a, b], []⟩ := by unfold argsOk; kernel_rfl
theorem li_lk_next : typeLookup (.type "list_iterator") "__next__" = pure (some (.builtin "list_iterator.__next__")) := by rw [typeLookup_type, builtinLookup_eq_fast]; kernel_rfl
theorem li_ty_next : typeOf (.builtin "list_iterator.__next__") = pure (.type "wrapper_descriptor") := by kernel_rfl
theorem wd_slot_get : Slot "wrapper_descriptor" "__get__" "wrapper_descriptor.__get__" :=
  .of (owner := "wrapper_descriptor") (n := "__get__") (by rw [typeLookup_type, builtinLookup_eq_fast]; kernel_rfl) (by decide +kernel) (by decide +kernel) (by decide +kernel)
    (by first | exact .inl (by decide +kernel) | exact .inr (by decide +kernel)) (by rw [isSubtype_type]; kernel_rfl)
theorem wd_no_set : typeLookup (.type "wrapper_descriptor") "__set__" = pure none := by rw [typeLookup_type, builtinLookup_eq_fast]; kernel_rfl
theorem wd_no_del : typeLookup (.type "wrapper_descriptor") "__delete__" = pure none := by rw [typeLookup_type, builtinLookup_eq_fast]; kernel_rfl
theorem wd_entry_get : entryFor table "wrapper_descriptor.__get__" = some Builtin.«wrapper_descriptor.__get__» := entryFor_of_tree (by kernel_rfl)
theorem wd_args_get (a b c : Value) : argsOk "wrapper_descriptor.__get__" ⟨[a, b, c], []⟩ := by unfold argsOk; kernel_rfl
theorem li_owner : (".".intercalate ("list_iterator.__next__".cutAt '.').dropLast) = "list_iterator" := by
  have e0 : "list_iterator.__next__".cutAt '.' = ["list_iterator", "__next__"] := by first | rfl | decide +kernel
  rw [e0]; decide +kernel
theorem li_sub_owner : isSubtype (.type "list_iterator") (.type (".".intercalate ("list_iterator.__next__".cutAt '.').dropLast)) = pure true := by
  rw [li_owner, isSubtype_type]; kernel_rfl
noncomputable def litO (l : Addr) (k : Nat) : Obj := { cls := .type "list_iterator", data := .fields #[.ref l, .int k 0] }
noncomputable def wrapO (it : Addr) : Obj := { cls := .type "method-wrapper", data := .fields #[.builtin "list_iterator.__next__", .ref it] }
section
variable {prog : Program} {w : World} {A : Around} {E : Value → Shared → Prop} {h : Heap} {g : Array GenState} {d : Drawn} {t : Nat} {os : OsState} {a : Addr} {o : Obj}

theorem li_get {R : Result → Shared → Prop} (hx : h.get? a = some o) (hc : o.cls = .type "list_iterator") (hq : R (.ok (.ret (.ref h.objs.size))) ⟨h.push (wrapO a), g, d, t, os⟩) :
    codeAny (model prog w) A (.call (.builtin "wrapper_descriptor.__get__") ⟨[.builtin "list_iterator.__next__", .ref a, .type "list_iterator"], []⟩) R ⟨h, g, d, t, os⟩ := by
  have hT : (⟨h, g, d, t, os⟩ : Shared).TypeIs (.ref a) "list_iterator" := ⟨_, hx, hc⟩
  have hT5 : (⟨h, g, d, t, os⟩ : Shared).TypeIs (.builtin "list_iterator.__next__") "wrapper_descriptor" := li_ty_next
  have f8 := li_sub_owner
  refine codeAny_call_builtin wd_slot_get.plain wd_entry_get (wd_slot_get.check _ _ _ _ _ _ _ _ hT5 (wd_args_get _ _ _) ?_)
  repeat (any_goals (first | assumption | wp_step))

theorem li_entry {tk : Tok} {l : Addr} {k : Nat} {Q : Fin → Shared → Prop} (hx : h.get? a = some (litO l k)) (hq : Q (.done (.ret (.ref h.objs.size))) ⟨h.push (wrapO a), g, d, t, os⟩) :
    wpAny (model prog w) A (Builtin.«object.__getattribute__» ⟨[.ref a, .str "__next__" tk], []⟩) Q E ⟨h, g, d, t, os⟩ := by
  have hT : (⟨h, g, d, t, os⟩ : Shared).TypeIs (.ref a) "list_iterator" := ⟨_, hx, rfl⟩
  have hT5 : (⟨h, g, d, t, os⟩ : Shared).TypeIs (.builtin "list_iterator.__next__") "wrapper_descriptor" := li_ty_next
  have f4 := li_lk_next
  have f5 := li_ty_next
  have f6 := wd_slot_get.lookup
  have f7 := wd_no_set
  have f9 := wd_no_del
  unfold litO at hx
  repeat (any_goals (first | assumption | wp_step))
  refine li_get hx rfl ?_
  repeat (any_goals (first | assumption | wp_step))
theorem li_call {tk : Tok} {l : Addr} {k : Nat} {R : Result → Shared → Prop} (hx : h.get? a = some (litO l k)) (hq : R (.ok (.ret (.ref h.objs.size))) ⟨h.push (wrapO a), g, d, t, os⟩) :
    codeAny (model prog w) A (.call (.builtin "object.__getattribute__") ⟨[.ref a, .str "__next__" tk], []⟩) R ⟨h, g, d, t, os⟩ :=
  codeAny_call_builtin li_slot_ga.plain li_entry_ga (li_slot_ga.check _ _ _ _ _ _ _ _ (show (⟨h, g, d, t, os⟩ : Shared).TypeIs (.ref a) "list_iterator" from ⟨_, hx, rfl⟩) (li_args_ga _ _) (li_entry hx hq))
theorem li_by {tk : Tok} {l : Addr} {k : Nat} {Q : Value → Shared → Prop} (hx : h.get? a = some (litO l k)) (hq : Q (.ref h.objs.size) ⟨h.push (wrapO a), g, d, t, os⟩) : wpAny (model prog w) A (getAttrBy (.ref a) (.str "__next__" tk) true true) Q E ⟨h, g, d, t, os⟩ := by
  have hT : (⟨h, g, d, t, os⟩ : Shared).TypeIs (.ref a) "list_iterator" := ⟨_, hx, rfl⟩
  have f2 := li_slot_ga.lookup
  have f3 := li_slot_ga.bind (.ref a)
  repeat (any_goals (first | assumption | wp_step))
  refine li_call hx ?_
  repeat (any_goals (first | assumption | wp_step))
end
section
variable {Z : Zs} {C : Cx} {R : Rp} {m m' : Loc} {H : Hp} {s : Shared} {E : Value → Shared → Prop}
theorem W_next {Q : Value → Shared → Prop} {it l : Addr} {k : Nat} (S : Sat Z C R m H s) (h : H it = some (.ob (litO l k))) (hq : ∀ q s', H q = none → R q = none → Sat Z C R m (up H q (.ob (wrapO it))) s' → Q (.ref q) s') : wpAny Z.M C.A (getAttr (.ref it) "__next__" true) Q E s := by
  obtain ⟨o, ho, rfl⟩ := S.own _ _ h
  have fr := S.fresh
  have S1 := S.new (t := s.toks + 1) (d := .ob (wrapO it)) (h' := s.heap.push (wrapO it)) (fun b o e => Heap.get?_push_of_some _ e) ⟨_, Heap.get?_push_size _ rfl, rfl⟩
  obtain ⟨hp, g, d, t, os⟩ := s
  unfold getAttr
  repeat (any_goals (first | assumption | with_reducible apply li_by ho | wp_step))
  exact hq _ _ fr.1 fr.2 S1
end

theorem li_check (it : Addr) : checkBoundCall "list_iterator.__next__" ⟨[.ref it], []⟩ = pure () := by first | kernel_rfl | rfl
noncomputable def endO (k : Nat) : Obj := { cls := .type "list_iterator", data := .fields #[.none, .int k 0] }
section
variable {Z : Zs} {C : Cx} {R : Rp} {m m' : Loc} {H : Hp} {s : Shared} {E : Value → Shared → Prop}
theorem W_iterO {Q : Value → Shared → Prop} {l : Addr} {vs : List Value} (S : Sat Z C R m H s) (hl : LIn R H l vs) (h : ∀ it s', H it = none → R it = none → Sat Z C R m (up H it (.ob (litO l 0))) s' → Q (.ref it) s') : wpAny Z.M C.A (call (.builtin "iter") [.ref l]) Q E s := by
  refine call_function_entry (by decide +kernel) (by decide +kernel) kdk_entry_iter (kdk_args_iter _) ?_
  unfold Builtin.«iter»
  refine wpAny_bind (m := someArgs "iter" 1 2 _) (wpAny_of_eq (a := [Value.ref l]) (by first | rfl | kernel_rfl!) ?_)
  dsimp only
  exact wpAny_bind (wpAny_pyIter_list (S.isList hl) (wpAny_pure ⟨_, rfl, h _ _ S.fresh.1 S.fresh.2 (S.new (t := s.toks) (fun b o e => Heap.get?_push_of_some _ e) ⟨_, Heap.get?_push_size _ rfl, rfl⟩)⟩))

theorem callWith_wrap {pos : Pos} {u it : Addr} {env : Env} {M : Model} {A : Around} {Q : Value → Shared → Prop} (ho : s.heap.get? u = some (wrapO it)) (h : wpAny M A (call (.ref u) []) Q E s) : wpAny M A (callWith pos (.ref u) [] (backTo pos (starEach [] env)) []) Q E s := by
  show wpAny M A (callWith pos (.ref u) [] [] []) Q E s
  unfold callWith
  refine wpAny_bind (wpAny_holding (evalArgs_nil3 (wpAny_bind (wpAny_standAt ?_))))
  refine wpAny_bind (m := keeperOf (.ref u)) ?_
  unfold keeperOf
  refine wpAny_bind (wpAny_load ho ?_)
  dsimp only [wrapO]
  refine wpAny_pure ?_
  exact wpAny_bind (wpAny_mono h (fun r s₂ hr => wpAny_bind (wpAny_holding (wpAny_point (wpAny_pure hr)))) fun _ _ x => x)

theorem call_wrap {u it : Addr} {prog : Program} {w : World} {A : Around} {Q : Value → Shared → Prop} (ho : s.heap.get? u = some (wrapO it))
    (h : wpAny (model prog w) A.in1 (Builtin.«list_iterator.__next__» ⟨[.ref it], []⟩) (fun f s' => ∃ v, f = .done (.ret v) ∧ Q v s') E s) : wpAny (model prog w) A (call (.ref u) []) Q E s := by
  refine wpAny_call (codeAny_of_tree ?_)
  show wpAny _ A.in1 (callAny (.ref u) ⟨[], []⟩) _ _ s
  unfold callAny
  refine wpAny_bind (wpAny_load ho ?_)
  dsimp only [wrapO]
  rw [if_pos (show (Value.type "method-wrapper" == Value.type "method" || Value.type "method-wrapper" == Value.type "builtin_function_or_method" || Value.type "method-wrapper" == Value.type "method-wrapper") = true by decide)]
  refine KFB.if_so (by decide) ?_
  refine wpAny_bind (wpAny_of_eq (a := ()) (li_check it) ?_)
  refine wpAny_bind (wpAny_pure (wpAny_pure ?_))
  refine ⟨Code.quiet_builtin _ (by decide +kernel), codeAny_builtin entry_listiter_next (wpAny_mono h (fun f s' hf => ?_) fun _ _ z => z)⟩
  refine hide fun G hG => ?_
  obtain ⟨v, rfl, hq⟩ := hf
  refine hG ?_
  clear hG
  exact hq

theorem W_callW {pos : Pos} {Q : Value → Shared → Prop} {u it l : Addr} {k : Nat} {vs : List Value} {v : Value} (S : Sat Z C R m H s) (hu : H u = some (.ob (wrapO it))) (hi : H it = some (.ob (litO l k))) (hl : LIn R H l vs) (hv : vs[k]? = some v)
    (h : ∀ s', Sat Z C R m (up H it (.ob (litO l (k + 1)))) s' → Q v s') : wpAny Z.M C.A (callWith pos (.ref u) [] (backTo pos (starEach [] C.env)) []) Q E s := by
  refine hide fun G hG => ?_
  obtain ⟨o, ho, rfl⟩ := S.own _ _ hu
  obtain ⟨oi, hoi, rfl⟩ := S.own _ _ hi
  obtain ⟨ol, hol, _, nl, hdl⟩ := S.isList hl
  refine hG ?_
  clear hG
  refine callWith_wrap ho (call_wrap ho ?_)
  show wpAny _ _ (field (.ref it) 0 >>= _) _ _ s
  refine wpAny_bind (wpAny_field hoi (vs := #[.ref l, .int k 0]) rfl (x := .ref l) rfl ?_)
  show wpAny _ _ (if (Value.ref l == Value.none) = true then _ else _) _ _ s
  rw [if_neg (show ¬ ((Value.ref l == Value.none) = true) from Bool.false_ne_true)]
  show wpAny _ _ (field (.ref it) 1 >>= _) _ _ s
  refine wpAny_bind (wpAny_field hoi (vs := #[.ref l, .int k 0]) rfl (x := .int k 0) rfl ?_)
  show wpAny _ _ (seqItems? (.ref l) >>= _) _ _ s
  refine wpAny_bind (wpAny_seqItems hol hdl ?_)
  have hx : vs.toArray[k]? = some v := by simpa using hv
  dsimp only
  rw [Int.toNat_natCast, hx]
  dsimp only
  refine wpAny_bind (wpAny_setField hoi (vs := #[.ref l, .int k 0]) rfl (by simp) (wpAny_pure ⟨v, rfl, h _ ?_⟩))
  refine S.upd (t := s.toks) hi (Heap.SameBut.update ..) ⟨_, Heap.get?_update_self _ hoi (Obj.isFreed_of_fields (vs := #[.ref l, .int (k + 1) 0]) ?_), ?_⟩
  · simp [litO, Obj.mapFields, rawInt]
  · show _ = litO l (k + 1)
    simp [litO, Obj.mapFields, rawInt]

theorem W_callStop {pos : Pos} {Q : Value → Shared → Prop} {u it l : Addr} {k : Nat} {vs : List Value} (S : Sat Z C R m H s) (hh : C.A.handled = none) (hu : H u = some (.ob (wrapO it))) (hi : H it = some (.ob (litO l k))) (hl : LIn R H l vs) (hv : vs[k]? = none)
    (h : ∀ s₀ h' e, Sat Z C R m (up H it (.ob (endO k))) s₀ → Heap.NewExc s₀.heap h' e "StopIteration" → E (.ref e) { s₀ with heap := h' }) : wpAny Z.M C.A (callWith pos (.ref u) [] (backTo pos (starEach [] C.env)) []) Q E s := by
  refine hide fun G hG => ?_
  obtain ⟨o, ho, rfl⟩ := S.own _ _ hu
  obtain ⟨oi, hoi, rfl⟩ := S.own _ _ hi
  obtain ⟨ol, hol, _, nl, hdl⟩ := S.isList hl
  refine hG ?_
  clear hG
  refine callWith_wrap ho (call_wrap ho ?_)
  show wpAny _ _ (field (.ref it) 0 >>= _) _ _ s
  refine wpAny_bind (wpAny_field hoi (vs := #[.ref l, .int k 0]) rfl (x := .ref l) rfl ?_)
  show wpAny _ _ (if (Value.ref l == Value.none) = true then _ else _) _ _ s
  rw [if_neg (show ¬ ((Value.ref l == Value.none) = true) from Bool.false_ne_true)]
  show wpAny _ _ (field (.ref it) 1 >>= _) _ _ s
  refine wpAny_bind (wpAny_field hoi (vs := #[.ref l, .int k 0]) rfl (x := .int k 0) rfl ?_)
  show wpAny _ _ (seqItems? (.ref l) >>= _) _ _ s
  refine wpAny_bind (wpAny_seqItems hol hdl ?_)
  have hx : vs.toArray[k]? = none := by simpa using hv
  dsimp only
  rw [Int.toNat_natCast, hx]
  dsimp only
  refine wpAny_bind (wpAny_rule (wpAny_bind (wpAny_setField hoi (vs := #[.ref l, .int k 0]) rfl (by simp) ?_)))
  have S1 : Sat Z C R m (up H it (.ob (endO k))) { s with heap := s.heap.update it (Obj.mapFields (·.setIfInBounds 0 Value.none)) } := by
    refine S.upd (t := s.toks) hi (Heap.SameBut.update ..) ⟨_, Heap.get?_update_self _ hoi (Obj.isFreed_of_fields (vs := #[.none, .int k 0]) ?_), ?_⟩
    · simp [litO, Obj.mapFields]
    · show _ = endO k
      simp [litO, endO, Obj.mapFields]
  show wpAny _ _ (newExc (.type "StopIteration") [] >>= _) _ _ _
  refine wpAny_bind ?_
  unfold newExc newTuple
  refine wpAny_bind (wpAny_newObj_type ?_ (by size_fits))
  refine wpAny_bind (m := firstArgMember _ _) (wpAny_of_eq (a := Value.none) (by first | rfl | (simp only [firstArgMember]; rfl)) ?_)
  refine wpAny_newObj_type ?_ (by size_fits)
  unfold raiseNew
  refine wpAny_bind (wpAny_handled ?_)
  rw [show C.A.in1.handled = none from hh]
  refine wpAny_bind (wpAny_pure (wpAny_throw ?_))
  refine h { s with heap := s.heap.update it (Obj.mapFields (·.setIfInBounds 0 Value.none)) } _ _ S1 ⟨fun b o e => Heap.get?_push_of_some _ (Heap.get?_push_of_some _ e), ?_, ?_⟩
  · cases q : (s.heap.update it (Obj.mapFields (·.setIfInBounds 0 Value.none))).get? ((s.heap.update it (Obj.mapFields (·.setIfInBounds 0 Value.none))).push { cls := .type "tuple", data := .seq ([] : List Value).toArray }).objs.size with
    | none => rfl
    | some o => have := Heap.lt_size q; rw [Heap.size_push] at this; exact absurd this (Nat.not_lt_of_le (Nat.le_succ _))
  · exact ⟨_, _, Heap.get?_push_size _ rfl, rfl, rfl⟩
end

/- the search, in plain words -/
noncomputable def PostOrd (sn : Nat → List Nat) (F : List Nat) : Prop := ∀ A x B, F = A ++ x :: B → ∀ j ∈ sn x, j ∈ A
noncomputable def Cyc (sn : Nat → List Nat) : Prop := ∃ X : List Nat, X ≠ [] ∧ (∀ x ∈ X, x ∈ K5) ∧ ∀ x ∈ X, ∃ y ∈ X, x ∈ sn y
noncomputable def Path (sn : Nat → List Nat) (ps : Nat → Nat) (l : List Nat) : Prop := ∀ k x y, l[k]? = some x → l[k + 1]? = some y → 1 ≤ ps x ∧ (sn x)[ps x - 1]? = some y
structure Dfs (sn : Nat → List Nat) (st F : List Nat) (ps : Nat → Nat) : Prop where
  nd : (st ++ F).Nodup
  sub : ∀ x ∈ st ++ F, x ∈ K5
  po : PostOrd sn F
  dn : ∀ x ∈ st, ∀ q j, (sn x)[q]? = some j → q + 1 < ps x → j ∈ F
structure DfsA (sn : Nat → List Nat) (st F : List Nat) (ps : Nat → Nat) (node : Nat) : Prop where
  d : Dfs sn st F ps
  p : Path sn ps (st ++ [node])
  k : node ∈ K5
structure DfsB (sn : Nat → List Nat) (st F : List Nat) (ps : Nat → Nat) : Prop where
  d : Dfs sn st F ps
  p : Path sn ps st
  l : ∀ pre x, st = pre ++ [x] → ∀ q j, (sn x)[q]? = some j → q < ps x → j ∈ F
noncomputable def upn (ps : Nat → Nat) (x v : Nat) : Nat → Nat := fun y => if y = x then v else ps y
theorem upn_same {ps : Nat → Nat} {x v : Nat} : upn ps x v x = v := by simp [upn]
theorem upn_other {ps : Nat → Nat} {x y v : Nat} (h : y ≠ x) : upn ps x v y = ps y := by simp [upn, h]

section
variable {sn : Nat → List Nat} {st F : List Nat} {ps : Nat → Nat} {node x y : Nat} {pre : List Nat}
theorem PostOrd.snoc (h : PostOrd sn F) (hx : ∀ j ∈ sn x, j ∈ F) : PostOrd sn (F ++ [x]) := by
  intro A z B e j hj
  rcases List.eq_nil_or_concat B with rfl | ⟨B', b, rfl⟩
  · obtain ⟨rfl, e2⟩ := List.append_inj' e rfl
    obtain rfl : x = z := by simpa using e2
    exact hx j hj
  · rw [List.concat_eq_append, ← List.cons_append, ← List.append_assoc] at e
    obtain ⟨e1, _⟩ := List.append_inj' e rfl
    exact h A z B' e1 j hj

theorem DfsA.cyc (h : DfsA sn st F ps node) (hn : node ∈ st) : Cyc sn := by
  obtain ⟨k, hk, e⟩ := List.getElem_of_mem hn
  refine ⟨st.drop k, by simp; assumption, fun x hx => h.d.sub x (List.mem_append_left _ (List.mem_of_mem_drop hx)), fun x hx => ?_⟩
  obtain ⟨i, hi, ei⟩ := List.getElem_of_mem hx
  rw [List.length_drop] at hi
  rw [List.getElem_drop] at ei
  have mem : ∀ j, k ≤ j → ∀ y, st[j]? = some y → y ∈ st.drop k := fun j hj y ey => List.mem_of_getElem? (i := j - k) (by rw [List.getElem?_drop]; rw [show k + (j - k) = j from Nat.add_sub_of_le hj]; exact ey)
  cases i with
  | zero =>
    have exn : x = node := by rw [← ei, ← e]; simp
    obtain ⟨z, hz⟩ : ∃ z, st[st.length - 1]? = some z := ⟨st[st.length - 1]'(Nat.sub_one_lt_of_lt hk), List.getElem?_eq_getElem _⟩
    have := h.p (st.length - 1) z node (by rw [List.getElem?_append_left (Nat.sub_one_lt_of_lt hk)]; exact hz) (by rw [show st.length - 1 + 1 = st.length from Nat.sub_add_cancel (Nat.one_le_of_lt hk)]; simp)
    exact ⟨z, mem _ (Nat.le_sub_one_of_lt hk) z hz, by rw [exn]; exact List.mem_of_getElem? this.2⟩
  | succ i =>
    have hki : k + i + 1 < st.length := (Nat.add_lt_of_lt_sub' hi : k + (i + 1) < st.length)
    have hki' : k + i < st.length := Nat.lt_of_succ_lt hki
    obtain ⟨z, hz⟩ : ∃ z, st[k + i]? = some z := ⟨st[k + i]'hki', List.getElem?_eq_getElem _⟩
    have := h.p (k + i) z x (by rw [List.getElem?_append_left hki']; exact hz) (by rw [List.getElem?_append_left hki, List.getElem?_eq_getElem hki]; rw [← ei]; rfl)
    exact ⟨z, mem _ (Nat.le_add_right _ _) z hz, List.mem_of_getElem? this.2⟩

theorem DfsA.old (h : DfsA sn st F ps node) (hn : node ∈ F) : DfsB sn st F ps := by
  refine ⟨h.d, fun k x y hx hy => ?_, fun pre x e q j hj hq => ?_⟩
  · have l1 := (List.getElem?_eq_some_iff.mp hx).1
    have l2 := (List.getElem?_eq_some_iff.mp hy).1
    exact h.p k x y (by rw [List.getElem?_append_left l1]; exact hx) (by rw [List.getElem?_append_left l2]; exact hy)
  · subst e
    have := h.p pre.length x node (by simp) (by simp)
    by_cases hq1 : q + 1 < ps x
    · exact h.d.dn x (by simp) q j hj hq1
    · have e : q = ps x - 1 := by rw [Nat.le_antisymm (Nat.not_lt.mp hq1) hq]; rfl
      rw [e, this.2] at hj
      cases hj; exact hn

theorem DfsA.push (h : DfsA sn st F ps node) (h1 : node ∉ st) (h2 : node ∉ F) : DfsB sn (st ++ [node]) F (upn ps node 0) := by
  refine ⟨⟨?_, ?_, h.d.po, ?_⟩, ?_, ?_⟩
  · have := h.d.nd
    rw [List.append_assoc, List.nodup_append] at *
    refine ⟨this.1, ?_, ?_⟩
    · simp only [List.singleton_append, List.nodup_cons]; exact ⟨h2, this.2.1⟩
    · intro a ha b hb
      rcases List.mem_cons.mp hb with rfl | hb
      · exact fun e => h1 (e ▸ ha)
      · exact this.2.2 a ha b hb
  · intro x hx
    rw [List.append_assoc] at hx
    rcases List.mem_append.mp hx with hx | hx
    · exact h.d.sub x (List.mem_append_left _ hx)
    · rcases List.mem_cons.mp hx with rfl | hx
      · exact h.k
      · exact h.d.sub x (List.mem_append_right _ hx)
  · intro x hx q j hj hq
    rcases List.mem_append.mp hx with hx | hx
    · rw [upn_other (show x ≠ node from fun e => h1 (e ▸ hx))] at hq
      exact h.d.dn x hx q j hj hq
    · obtain rfl : x = node := by simpa using hx
      rw [upn_same] at hq; lia
  · intro k x y hx hy
    have l2 := (List.getElem?_eq_some_iff.mp hy).1
    rw [List.length_append, List.length_singleton] at l2
    have hm : x ∈ st := by rw [List.getElem?_append_left (by exact Nat.le_of_lt_succ (by assumption))] at hx; exact List.mem_of_getElem? hx
    rw [upn_other (show x ≠ node from fun e => h1 (e ▸ hm))]
    exact h.p k x y hx hy
  · intro pre x e q j hj hq
    obtain ⟨_, e2⟩ := List.append_inj' e rfl
    obtain rfl : node = x := by simpa using e2
    rw [upn_same] at hq; lia

theorem DfsB.step (h : DfsB sn (pre ++ [x]) F ps) (hy : (sn x)[ps x]? = some y) (hk : y ∈ K5) : DfsA sn (pre ++ [x]) F (upn ps x (ps x + 1)) y := by
  have nx : ∀ k z, (pre ++ [x])[k]? = some z → k < pre.length → z ≠ x := by
    rintro k z hz hk rfl
    have := h.d.nd
    rw [List.append_assoc, List.nodup_append] at this
    rw [List.getElem?_append_left hk] at hz
    exact this.2.2 z (List.mem_of_getElem? hz) z (by simp) rfl
  refine ⟨⟨h.d.nd, h.d.sub, h.d.po, ?_⟩, ?_, hk⟩
  · intro z hz q j hj hq
    by_cases e : z = x
    · subst e
      rw [upn_same] at hq
      exact h.l pre z rfl q j hj (by exact Nat.le_of_lt_succ (by assumption))
    · rw [upn_other e] at hq
      exact h.d.dn z hz q j hj hq
  · intro k z z' hz hz'
    have l2 := (List.getElem?_eq_some_iff.mp hz').1
    simp only [List.length_append, List.length_singleton] at l2
    by_cases hlt : k < pre.length
    · rw [List.getElem?_append_left (by simp; exact Nat.le_of_lt_succ (by assumption))] at hz
      rw [List.getElem?_append_left (by simp; assumption)] at hz'
      rw [upn_other (nx k z hz hlt)]
      exact h.p k z z' hz hz'
    · obtain rfl : k = pre.length := by lia
      have e1 : z = x := by rw [List.getElem?_append_left (by simp)] at hz; simpa using hz.symm
      have e2 : z' = y := by
        rw [List.getElem?_append_right (by simp)] at hz'
        simpa using hz'.symm
      subst e1 e2
      rw [upn_same]
      exact ⟨by lia, hy⟩

theorem DfsB.pop (h : DfsB sn (pre ++ [x]) F ps) (hy : (sn x)[ps x]? = none) : DfsB sn pre (F ++ [x]) ps := by
  have all : ∀ j ∈ sn x, j ∈ F := fun j hj => by
    obtain ⟨q, hq, e⟩ := List.getElem_of_mem hj
    have : (sn x).length ≤ ps x := by simpa using hy
    exact h.l pre x rfl q j (by rw [← e]; exact List.getElem?_eq_getElem hq) (by exact Nat.lt_of_lt_of_le (by assumption) (by assumption))
  have hnd := h.d.nd
  rw [List.append_assoc, List.nodup_append] at hnd
  refine ⟨⟨?_, ?_, h.d.po.snoc all, ?_⟩, ?_, ?_⟩
  · rw [List.nodup_append]
    refine ⟨hnd.1, ?_, ?_⟩
    · rw [List.nodup_append]
      have := hnd.2.1
      simp only [List.singleton_append, List.nodup_cons] at this
      exact ⟨this.2, by simp, fun a ha b hb e => this.1 (by obtain rfl : b = x := by simpa using hb
                                                            rw [← e]; exact ha)⟩
    · intro a ha b hb
      rcases List.mem_append.mp hb with hb | hb
      · exact hnd.2.2 a ha b (by simp [hb])
      · exact hnd.2.2 a ha b (by simp at hb; simp [hb])
  · intro z hz
    exact h.d.sub z (by simp at hz ⊢; rcases hz with h | h | h <;> simp [h])
  · intro z hz q j hj hq
    exact List.mem_append_left _ (h.d.dn z (List.mem_append_left _ hz) q j hj hq)
  · intro k z z' hz hz'
    have l1 := (List.getElem?_eq_some_iff.mp hz).1
    have l2 := (List.getElem?_eq_some_iff.mp hz').1
    exact h.p k z z' (by rw [List.getElem?_append_left l1]; exact hz) (by rw [List.getElem?_append_left l2]; exact hz')
  · rintro pre' z rfl q j hj hq
    have := h.p pre'.length z x (by simp) (by simp)
    by_cases hq1 : q + 1 < ps z
    · exact List.mem_append_left _ (h.d.dn z (by simp) q j hj hq1)
    · have e : q = ps z - 1 := by rw [Nat.le_antisymm (Nat.not_lt.mp hq1) hq]; rfl
      rw [e, this.2] at hj
      cases hj; simp

/- how much is left -/
noncomputable def wt (sn : Nat → List Nat) (st F : List Nat) (ps : Nat → Nat) (x : Nat) : Nat := if x ∈ F then 0 else if x ∈ st then ((sn x).length - ps x) + 1 else (sn x).length + 2
noncomputable def mu (sn : Nat → List Nat) (st F : List Nat) (ps : Nat → Nat) : Nat := (K5.map (wt sn st F ps)).sum
theorem sum_lt {f g : Nat → Nat} : ∀ {l : List Nat}, (∀ x ∈ l, f x ≤ g x) → (∃ x ∈ l, f x < g x) → (l.map f).sum < (l.map g).sum
  | [], _, h => by obtain ⟨x, hx, _⟩ := h; cases hx
  | a :: l, h1, h2 => by
    have le : ∀ l : List Nat, (∀ x ∈ l, f x ≤ g x) → (l.map f).sum ≤ (l.map g).sum := fun l hl => by
      induction l with
      | nil => simp
      | cons b l ih => simp only [List.map_cons, List.sum_cons]; exact Nat.add_le_add (hl b (by simp)) (ih (fun x hx => hl x (by simp [hx])))
    simp only [List.map_cons, List.sum_cons]
    obtain ⟨x, hx, hlt⟩ := h2
    rcases List.mem_cons.mp hx with rfl | hx
    · exact Nat.add_lt_add_of_lt_of_le hlt (le l (fun x hx => h1 x (by simp [hx])))
    · have := sum_lt (l := l) (fun x hx => h1 x (by simp [hx])) ⟨x, hx, hlt⟩
      exact Nat.add_lt_add_of_le_of_lt (h1 a (by simp)) this
theorem mu_push (hk : node ∈ K5) (h1 : node ∉ st) (h2 : node ∉ F) : mu sn (st ++ [node]) F (upn ps node 0) < mu sn st F ps := by
  refine sum_lt (fun x _ => ?_) ⟨node, hk, ?_⟩
  · unfold wt
    by_cases e : x = node
    · subst e; simp [h1, h2, upn_same]
    · simp [e, upn_other e]
  · unfold wt; simp [h1, h2, upn_same]
theorem mu_step (h : DfsB sn (pre ++ [x]) F ps) (hy : (sn x)[ps x]? = some y) : mu sn (pre ++ [x]) F (upn ps x (ps x + 1)) < mu sn (pre ++ [x]) F ps := by
  have l := (List.getElem?_eq_some_iff.mp hy).1
  have hF : x ∉ F := fun hx => by
    have := h.d.nd
    rw [List.nodup_append] at this
    exact this.2.2 x (by simp) x hx rfl
  refine sum_lt (fun z _ => ?_) ⟨x, h.d.sub x (by simp), ?_⟩
  · unfold wt
    by_cases e : z = x
    · subst e
      simp only [hF, if_false, List.mem_append, List.mem_singleton, or_true, if_true, upn_same]
      exact Nat.succ_le_succ (Nat.sub_le_sub_left (Nat.le_succ _) _)
    · simp [upn_other e]
  · unfold wt
    simp only [hF, if_false, List.mem_append, List.mem_singleton, or_true, if_true, upn_same]
    exact Nat.succ_lt_succ (Nat.sub_succ_lt_self _ _ l)
theorem mu_pop (h : DfsB sn (pre ++ [x]) F ps) : mu sn pre (F ++ [x]) ps < mu sn (pre ++ [x]) F ps := by
  have hF : x ∉ F := fun hx => by
    have := h.d.nd
    rw [List.nodup_append] at this
    exact this.2.2 x (by simp) x hx rfl
  refine sum_lt (fun z _ => ?_) ⟨x, h.d.sub x (by simp), ?_⟩
  · unfold wt
    by_cases e : z = x
    · subst e; simp
    · simp [e]
  · unfold wt; simp [hF]
end

section
variable {Z : Zs} {C : Cx} {R : Rp} {m m' : Loc} {H : Hp} {s : Shared} {E : Value → Shared → Prop}
noncomputable def sliced (vs : List Value) (lo hi : Option Int) : List Value := (slicePick vs.toArray lo hi none).toList
theorem sliced_len (vs : List Value) (lo hi : Option Int) : (sliced vs lo hi).length ≤ vs.length := by
  have := slicePick_size_le vs.toArray lo hi none
  simpa [sliced] using this
inductive Slc (Z : Zs) (C : Cx) (o vl vu : Value) (Q : Value → Shared → Prop) (s₃ : Shared) : Prop
  | mk (l : Addr) (vs : List Value) (lo hi : Option Int) (R : Rp) (m : Loc) (H : Hp) (e : o = .ref l) (S : Sat Z C R m H s₃) (hl : LIn R H l vs) (hz : vs.length ≤ 1000000) (pl : IsPart vl lo) (pu : IsPart vu hi)
    (k : ∀ D s', H D = none → R D = none → Sat Z C R m (up H D (.lst (sliced vs lo hi))) s' → Q (.ref D) s') : Slc Z C o vl vu Q s₃
theorem W_slice {Q : Value → Shared → Prop} {value : Expr} {lower upper : Option Expr} {p pos : Pos}
    (h : wpAny Z.M C.A (eval value C.env) (fun o s₁ => wpAny Z.M C.A (evalPart lower C.env) (fun vl s₂ => wpAny Z.M C.A (evalPart upper C.env) (fun vu s₃ => Slc Z C o vl vu Q s₃) E s₂) E s₁) E s)
    (ht : ∀ o r, letTemporaryGo value o r = pure () := by intro _ _; rfl) :
    wpAny Z.M C.A (eval (.Subscript value (.Slice lower upper none p) pos) C.env) Q E s := by
  refine wpAny_Subscript_list_slice (wpAny_mono h (fun o s₁ h₁ => wpAny_mono h₁ (fun vl s₂ h₂ => wpAny_mono h₂ (fun vu s₃ h₃ => ?_) fun _ _ e => e) fun _ _ e => e) fun _ _ e => e) ht
  obtain ⟨l, vs, lo, hi, R, m, H, rfl, S, hl, hz, pl, pu, k⟩ := h₃
  refine ⟨l, vs.toArray, lo, hi, rfl, S.isList hl, by rw [List.size_toArray, sizeLine_eq]; exact le1 (by assumption) (Nat.le_of_ble_eq_true rfl), pl, pu, ?_⟩
  have S1 := S.grow (t := s₃.toks) (h' := s₃.heap.push { cls := .type "slice", data := .fields #[vl, vu, .none] }) (fun b o e => Heap.get?_push_of_some _ e)
  have S2 := S1.new (t := s₃.toks) (d := .lst (sliced vs lo hi)) (h' := (s₃.heap.push { cls := .type "slice", data := .fields #[vl, vu, .none] }).push { cls := .type "list", data := .seq (slicePick vs.toArray lo hi none) }) (fun b o e => Heap.get?_push_of_some _ e) ⟨_, Heap.get?_push_size _ rfl, 0, by simp [sliced]⟩
  have f := S1.fresh
  dsimp only at f S2
  rw [Heap.size_push] at f S2
  exact k _ _ f.1 f.2 S2
theorem W_addL {Q : Value → Shared → Prop} {l b : Addr} {vs ws : List Value} (S : Sat Z C R m H s) (hl : LIn R H l vs) (hb : LIn R H b ws) (h : ∀ D s', H D = none → R D = none → Sat Z C R m (up H D (.lst (vs ++ ws))) s' → Q (.ref D) s') (hz : vs.length + ws.length ≤ 1000000) :
    wpAny Z.M C.A (binaryOp .Add (.ref l) (.ref b)) Q E s :=
  add_lists S.fr0 S.news0 (S.isList hl) (S.isList hb) (fun h' F N => h _ _ S.fresh.1 S.fresh.2 (S.new0 (t := s.toks) F N (get_size _) ⟨0, rfl⟩)) (by rw [sizeLine_eq]; exact le1 (by assumption) (Nat.le_of_ble_eq_true rfl))
theorem sliced_from {vs : List Value} {ns : List Int} {x : Int} (h : IntsAre vs ns) (h0 : 0 ≤ x) : IntsAre (sliced vs (some x) none) (ns.drop x.toNat) := slice_ints_fromW h h0
theorem sliced_upto {vs : List Value} {ns : List Int} {x : Int} (h : IntsAre vs ns) (h0 : 0 ≤ x) : IntsAre (sliced vs none (some x)) (ns.take x.toNat) := slice_ints_uptoW h h0
theorem clipAt_nat (n : Nat) (x : Int) (h0 : 0 ≤ x) : clipAt n x = min x.toNat n := by
  obtain ⟨k, rfl⟩ := Int.eq_ofNat_of_zero_le h0
  unfold clipAt
  rw [if_neg (Int.not_lt.mpr h0), Int.toNat_natCast]
  rcases Nat.le_total k n with h | h
  · rw [Int.min_eq_left (Int.ofNat_le.mpr h), Int.max_eq_right h0, Int.toNat_natCast, Nat.min_eq_left h]
  · rw [Int.min_eq_right (Int.ofNat_le.mpr h), Int.max_eq_right (Int.natCast_nonneg _), Int.toNat_natCast, Nat.min_eq_right h]
theorem sliced_mid {vs : List Value} {ns : List Int} {x y : Int} (h : IntsAre vs ns) (h0 : 0 ≤ x) (h1 : 0 ≤ y) : IntsAre (sliced vs (some x) (some y)) ((ns.take y.toNat).drop x.toNat) := by
  have := slice_ints_plain h x y
  rw [clipAt_nat _ _ h0, clipAt_nat _ _ h1] at this
  have e : (ns.drop (min x.toNat ns.length)).take (min y.toNat ns.length - min x.toNat ns.length) = (ns.take y.toNat).drop x.toNat := by
    rw [List.drop_take]
    by_cases hx : x.toNat ≤ ns.length
    · rw [Nat.min_eq_left hx]
      by_cases hy : y.toNat ≤ ns.length
      · rw [Nat.min_eq_left hy]
      · have hy' := Nat.le_of_lt (Nat.not_le.mp hy)
        rw [Nat.min_eq_right hy', List.take_of_length_le (by rw [List.length_drop]; exact Nat.le_refl _), List.take_of_length_le (by rw [List.length_drop]; exact Nat.sub_le_sub_right hy' _)]
    · have hx' := Nat.le_of_lt (Nat.not_le.mp hx)
      rw [Nat.min_eq_right hx', List.drop_of_length_le (Nat.le_refl _), List.drop_of_length_le hx']
      simp
  rw [e] at this
  exact this
theorem W_values {Q : Value → Shared → Prop} {d : Addr} {kvs : List (Int × Value)} {ep : Nat} (S : Sat Z C R m H s) (hd : H d = some (.dct kvs ep)) (hne : (d == sysModules) = false)
    (h : ∀ v s', H v = none → R v = none → Sat Z C R m (up H v (.ob { cls := .type "dict_values", data := .fields #[.ref d] })) s' → Q (.ref v) s') : wpAny Z.M C.A (call (.builtin "dict.values") [.ref d]) Q E s :=
  call_meetsIn PySem.F.slot_dict_values (S.dof hd).typeIs PySem.F.entry_dict_values (PySem.F.args_dict_values_1 _) (meets_dict_values (ik Z.w) d hne) ⟨⟨kvs, S.dof hd⟩, h _ _ S.fresh.1 S.fresh.2 (S.new (t := s.toks) (fun b o e => Heap.get?_push_of_some _ e) ⟨_, Heap.get?_push_size _ rfl, rfl⟩)⟩
theorem W_iterV {Q : Value → Shared → Prop} {v d : Addr} {kvs : List (Int × Value)} {ep : Nat} (S : Sat Z C R m H s) (hv : H v = some (.ob { cls := .type "dict_values", data := .fields #[.ref d] })) (hd : H d = some (.dct kvs ep))
    (h : ∀ it o R₀ s', RLe R R₀ → R₀ it = some o → valJ d kvs.length ep it 0 o → R it = none → Sat Z C R₀ m H s' → Q (.ref it) s') : wpAny Z.M C.A (pyIter (.ref v)) Q E s := by
  obtain ⟨o, ho, rfl⟩ := S.own _ _ hv
  exact wpAny_pyIter_values (knd := ik Z.w) ⟨_, ho, rfl, rfl⟩ (S.dct hd) (h _ _ _ _ (RLe.refl.up S.fresh.2) up_same ⟨rfl, rfl⟩ S.fresh.2 (S.newR (t := s.toks) (fun b o e => Heap.get?_push_of_some _ e) (Heap.get?_push_size _ rfl)))
end

/-- places by number, in a dict -/
noncomputable def Lab (kvs : List (Int × Value)) (st : List Nat) : Prop := kvs.length = st.length ∧ ∀ k x : Nat, st[k]? = some x → ∃ t, kvs[k]? = some ((x : Int), Value.int k t)
section
variable {kvs : List (Int × Value)} {st pre : List Nat} {x k : Nat} {t : Tok}
theorem Lab.keys (h : Lab kvs st) : kvs.map (·.1) = zs st := by
  apply List.ext_getElem?
  intro k
  unfold zs
  rw [List.getElem?_map, List.getElem?_map]
  cases q : st[k]? with
  | none =>
    have : kvs[k]? = none := by rw [List.getElem?_eq_none_iff] at q ⊢; rw [h.1]; exact q
    rw [this]; rfl
  | some x => obtain ⟨t, e⟩ := h.2 k x q; rw [e]; rfl
theorem mem_zs {l : List Nat} : ((x : Int) ∈ zs l) ↔ x ∈ l := by
  unfold zs; rw [List.mem_map]
  constructor
  · rintro ⟨y, hy, e⟩; obtain rfl : y = x := by lia
    exact hy
  · exact fun h => ⟨x, h, rfl⟩
theorem Lab.none (h : Lab kvs st) (hx : x ∉ st) : valueAt kvs (x : Int) = Option.none := by
  unfold valueAt
  rw [Option.map_eq_none_iff, List.find?_eq_none]
  intro p hp e
  exact hx (mem_zs.mp (by rw [← h.keys, List.mem_map]; exact ⟨p, hp, by simpa using e⟩))
theorem Lab.at (h : Lab kvs st) (hn : st.Nodup) (hx : x ∈ st) : ∃ (k : Nat) (t : Tok), st[k]? = some x ∧ valueAt kvs (x : Int) = some (.int k t) := by
  unfold valueAt
  cases q : kvs.find? fun kv => decide (kv.1 = (x : Int)) with
  | none =>
    rw [List.find?_eq_none] at q
    have : (x : Int) ∈ kvs.map (·.1) := by rw [h.keys]; exact mem_zs.mpr hx
    obtain ⟨p, hp, e⟩ := List.mem_map.mp this
    exact absurd (by simpa using e) (q p hp)
  | some p =>
    have e := List.find?_some q
    obtain ⟨k, hk, ek⟩ := List.getElem_of_mem (List.mem_of_find?_eq_some q)
    have hk' : k < st.length := by rw [← h.1]; exact hk
    obtain ⟨t, et⟩ := h.2 k st[k] (List.getElem?_eq_getElem hk')
    rw [List.getElem?_eq_getElem hk] at et
    have e2 := Option.some.inj et
    rw [ek] at e2
    subst e2
    have e3 : st[k] = x := by simp at e; lia
    exact ⟨k, t, by rw [List.getElem?_eq_getElem hk', e3], rfl⟩
theorem Lab.push (h : Lab kvs st) (hx : x ∉ st) : Lab (stored kvs (x : Int) (.int (st.length : Nat) t)) (st ++ [x]) := by
  have : (kvs.any fun kv => decide (kv.1 = (x : Int))) = false := by
    rw [List.any_eq_false]
    intro p hp e
    exact hx (mem_zs.mp (by rw [← h.keys, List.mem_map]; exact ⟨p, hp, by simpa using e⟩))
  unfold stored
  rw [if_neg (by rw [this]; simp)]
  refine ⟨by simp [h.1], fun k y hy => ?_⟩
  by_cases hk : k < st.length
  · rw [List.getElem?_append_left hk] at hy
    rw [List.getElem?_append_left (by rw [h.1]; exact hk)]
    exact h.2 k y hy
  · have l := (List.getElem?_eq_some_iff.mp hy).1
    simp at l
    obtain rfl : k = st.length := by lia
    obtain rfl : x = y := by simpa using hy
    exact ⟨t, by rw [← h.1]; simp⟩
theorem Lab.pop (h : Lab kvs (pre ++ [x])) (hn : (pre ++ [x]).Nodup) : Lab (without kvs (x : Int)) pre := by
  obtain ⟨t, et⟩ := h.2 pre.length x (by simp)
  have hl : kvs.length = pre.length + 1 := by rw [h.1]; simp
  have e : kvs = kvs.take pre.length ++ [((x : Int), .int (pre.length : Nat) t)] := by
    rw [← take_snoc et, List.take_of_length_le (by lia)]
  have hx : x ∉ pre := by
    rw [List.nodup_append] at hn
    exact fun q => hn.2.2 x q x (by simp) rfl
  have L : Lab (kvs.take pre.length) pre := by
    refine ⟨by rw [List.length_take]; lia, fun k y hy => ?_⟩
    have l := (List.getElem?_eq_some_iff.mp hy).1
    rw [List.getElem?_take_of_lt l]
    exact h.2 k y (by rw [List.getElem?_append_left l]; exact hy)
  have e2 : without kvs (x : Int) = kvs.take pre.length := by
    rw [e]
    unfold without
    rw [List.filter_append, List.filter_eq_self.mpr, List.take_append_of_le_length (by rw [List.length_take]; lia)]
    · simp [List.take_take]
    · intro p hp
      simp only [ne_eq, decide_not, Bool.not_eq_true', decide_eq_false_iff_not]
      exact fun q => hx (mem_zs.mp (by rw [← L.keys, List.mem_map]; exact ⟨p, hp, q⟩))
  rw [e2]; exact L
end

set_option genInjectivity false in
set_option genSizeOf false in
structure Sea where
  sk : Addr
  tk : Addr
  se : Addr
  n2 : Addr
structure Fc (H₀ H : Hp) (ls : Nat → Addr) (a : Sea) (mw itr : Nat → Addr) (st F : List Nat) (ps : Nat → Nat) : Prop where
  ke : Ke H₀ H
  n1 : H₀ a.sk = none
  n2 : H₀ a.tk = none
  n3 : H₀ a.se = none
  n4 : H₀ a.n2 = none
  hst : ∃ vs, H a.sk = some (.lst vs) ∧ IntsAre vs (zs st)
  htk : H a.tk = some (.lst (st.map fun x => Value.ref (mw x)))
  hne : a.sk ≠ a.tk
  hse : ∃ S n, H a.se = some (.st S n) ∧ n ≤ (st ++ F).length ∧ ∀ j : Nat, S (j : Int) = true ↔ j ∈ st ++ F
  hn2 : ∃ kvs ep, H a.n2 = some (.dct kvs ep) ∧ Lab kvs st
  hs : (a.n2 == sysModules) = false
  hw : ∀ x ∈ st, H₀ (mw x) = none ∧ H₀ (itr x) = none ∧ H (mw x) = some (.ob (wrapO (itr x))) ∧ H (itr x) = some (.ob (litO (ls x) (ps x)))
theorem ne_of_d {H : Hp} {a b : Addr} {d e : D} (ha : H a = some d) (hb : H b = some e) (h : d ≠ e) : a ≠ b := fun q => by rw [q, hb] at ha; cases ha; exact h rfl
theorem ne_of_t {H : Hp} {a b : Addr} {d e : D} (ha : H a = some d) (hb : H b = some e) (h : Nat.beq d.tg e.tg = false) : a ≠ b := ne_of_d ha hb (fun q => by rw [q, Nat.beq_refl] at h; cases h)
theorem ne_of_n {H : Hp} {a b : Addr} {d : D} (ha : H a = some d) (hb : H b = none) : a ≠ b := fun q => by rw [q, hb] at ha; cases ha
theorem nodup_len : ∀ {l k : List Nat}, l.Nodup → (∀ x ∈ l, x ∈ k) → l.length ≤ k.length
  | [], _, _, _ => Nat.zero_le _
  | a :: l, k, h, hs => by
    rw [List.nodup_cons] at h
    have h1 := nodup_len (k := k.erase a) h.2 (fun x hx => (List.mem_erase_of_ne (show x ≠ a from fun e => h.1 (e ▸ hx))).mpr (hs x (by simp [hx])))
    have hk := hs a (by simp)
    rw [List.length_erase_of_mem hk] at h1
    exact Nat.le_trans (Nat.succ_le_succ h1) (Nat.le_of_eq (Nat.sub_add_cancel (List.length_pos_of_mem hk)))
theorem K5_len {l : List Nat} (h : l.Nodup) (hs : ∀ x ∈ l, x ∈ K5) : l.length ≤ 5 := nodup_len h hs

noncomputable def upa (f : Nat → Addr) (x : Nat) (v : Addr) : Nat → Addr := fun y => if y = x then v else f y
theorem upa_same {f : Nat → Addr} {x : Nat} {v : Addr} : upa f x v x = v := by simp [upa]
theorem upa_other {f : Nat → Addr} {x y : Nat} {v : Addr} (h : y ≠ x) : upa f x v y = f y := by simp [upa, h]
section
variable {H₀ H : Hp} {ls : Nat → Addr} {a : Sea} {mw itr : Nat → Addr} {st F pre : List Nat} {ps : Nat → Nat} {x node : Nat}

theorem Fc.push {it q : Addr} {S₀ : Int → Bool} {n ep' : Nat} {kvs : List (Int × Value)} {ep : Nat} {vs : List Value} {t u : Tok} (h : Fc H₀ H ls a mw itr st F ps) (h1 : node ∉ st)
    (hS : ∀ j : Nat, S₀ (j : Int) = true ↔ j ∈ (st ++ [node]) ++ F) (hn : n ≤ ((st ++ [node]) ++ F).length) (hkv : H a.n2 = some (.dct kvs ep)) (hL : Lab kvs st) (hvs : H a.sk = some (.lst vs)) (hvi : IntsAre vs (zs st)) (e1 : H it = none) (e2 : H q = none) (e3 : q ≠ it) :
    Fc H₀ (up (up (up (up (up (up H a.se (.st S₀ n)) it (.ob (litO (ls node) 0))) q (.ob (wrapO it))) a.tk (.lst ((st.map fun x => Value.ref (mw x)) ++ [.ref q]))) a.n2 (.dct (stored kvs (node : Int) (.int (st.length : Nat) t)) ep')) a.sk (.lst (vs ++ [.int (node : Nat) u]))) ls a (upa mw node q) (upa itr node it) (st ++ [node]) F (upn ps node 0) := by
  refine hide fun G hG => ?_
  obtain ⟨S, n₀, hse, _⟩ := h.hse
  refine hG ?_
  clear hG
  have htk := h.htk
  have k1 : a.sk ≠ it := ne_of_n hvs e1
  have k2 : a.sk ≠ q := ne_of_n hvs e2
  have k3 : a.tk ≠ it := ne_of_n htk e1
  have k4 : a.tk ≠ q := ne_of_n htk e2
  have k5 : a.n2 ≠ it := ne_of_n hkv e1
  have k6 : a.n2 ≠ q := ne_of_n hkv e2
  have k7 : a.se ≠ it := ne_of_n hse e1
  have k8 : a.se ≠ q := ne_of_n hse e2
  have k9 : a.sk ≠ a.n2 := ne_of_t hvs hkv rfl
  have k10 : a.sk ≠ a.se := ne_of_t hvs hse rfl
  have k11 : a.tk ≠ a.n2 := ne_of_t htk hkv rfl
  have k12 : a.tk ≠ a.se := ne_of_t htk hse rfl
  have k13 : a.n2 ≠ a.se := ne_of_t hkv hse rfl
  have n5 : H₀ it = none := h.ke.none e1
  have n6 : H₀ q = none := h.ke.none e2
  refine ⟨(((((h.ke.up h.n3).up n5).up n6).up h.n2).up h.n4).up h.n1, h.n1, h.n2, h.n3, h.n4, ⟨_, up_same, ?_⟩, ?_, h.hne, ⟨S₀, n, ?_, hn, hS⟩, ⟨_, ep', ?_, hL.push (t := t) h1⟩, h.hs, fun y hy => ?_⟩
  · rw [zs_append]; exact hvi.append (.cons _ _ .nil)
  · rw [up_other (Ne.symm h.hne), up_other k11, up_same]
    congr 2
    rw [List.map_append]
    congr 1
    · apply List.map_congr_left
      intro y hy
      rw [upa_other (show y ≠ node from fun e => h1 (e ▸ hy))]
    · simp [upa_same]
  · exact up_ne (Ne.symm k10) (up_ne (Ne.symm k13) (up_ne (Ne.symm k12) (up_ne k8 (up_ne k7 up_same))))
  · exact up_ne (Ne.symm k9) up_same
  · by_cases e : y = node
    · subst e
      rw [upa_same, upa_same, upn_same]
      refine ⟨n6, n5, ?_, ?_⟩
      · exact up_ne (Ne.symm k2) (up_ne (Ne.symm k6) (up_ne (Ne.symm k4) up_same))
      · exact up_ne (Ne.symm k1) (up_ne (Ne.symm k5) (up_ne (Ne.symm k3) (up_ne (Ne.symm e3) up_same)))
    · have hy' : y ∈ st := by
        rcases List.mem_append.mp hy with hy | hy
        · exact hy
        · exact absurd (by simpa using hy) e
      obtain ⟨m1, m2, m3, m4⟩ := h.hw y hy'
      rw [upa_other e, upa_other e, upn_other e]
      refine ⟨m1, m2, ?_, ?_⟩
      · exact up_ne (ne_of_t m3 hvs rfl) (up_ne (ne_of_t m3 hkv rfl) (up_ne (ne_of_t m3 htk rfl) (up_ne (ne_of_n m3 e2) (up_ne (ne_of_n m3 e1) (up_ne (ne_of_t m3 hse rfl) m3)))))
      · exact up_ne (ne_of_t m4 hvs rfl) (up_ne (ne_of_t m4 hkv rfl) (up_ne (ne_of_t m4 htk rfl) (up_ne (ne_of_n m4 e2) (up_ne (ne_of_n m4 e1) (up_ne (ne_of_t m4 hse rfl) m4)))))

theorem Fc.step (h : Fc H₀ H ls a mw itr st F ps) (hx : x ∈ st) (inj : ∀ i ∈ st, ∀ j ∈ st, ls i = ls j → i = j) : Fc H₀ (up H (itr x) (.ob (litO (ls x) (ps x + 1)))) ls a mw itr st F (upn ps x (ps x + 1)) := by
  refine hide fun G hG => ?_
  obtain ⟨x1, x2, x3, x4⟩ := h.hw x hx
  obtain ⟨vs, hvs, hvi⟩ := h.hst
  obtain ⟨S, n₀, hse, hS⟩ := h.hse
  obtain ⟨kvs, ep, hkv, hL⟩ := h.hn2
  refine hG ?_
  clear hG
  have htk := h.htk
  refine ⟨h.ke.up x2, h.n1, h.n2, h.n3, h.n4, ⟨vs, ?_, hvi⟩, ?_, h.hne, ⟨S, n₀, ?_, hS⟩, ⟨kvs, ep, ?_, hL⟩, h.hs, fun y hy => ?_⟩
  · exact up_ne (ne_of_t hvs x4 rfl) hvs
  · exact up_ne (ne_of_t htk x4 rfl) htk
  · exact up_ne (ne_of_t hse x4 rfl) hse
  · exact up_ne (ne_of_t hkv x4 rfl) hkv
  · obtain ⟨m1, m2, m3, m4⟩ := h.hw y hy
    refine ⟨m1, m2, ?_, ?_⟩
    · exact up_ne (ne_of_d m3 x4 (by simp [wrapO, litO])) m3
    · by_cases e : y = x
      · subst e; rw [up_same, upn_same]
      · rw [upn_other e, up_other (fun q => ?_)]; exact m4
        rw [q, x4] at m4
        simp [litO] at m4
        exact e (inj x hx y hy m4.1).symm

theorem mem_rot {j x : Nat} {pre F : List Nat} : j ∈ (pre ++ [x]) ++ F ↔ j ∈ pre ++ (F ++ [x]) := by
  rw [List.append_assoc]
  exact ⟨fun h => (List.mem_append.mp h).elim (List.mem_append_left _) fun h => List.mem_append_right _ (List.mem_append.mpr (List.mem_append.mp h).symm),
    fun h => (List.mem_append.mp h).elim (List.mem_append_left _) fun h => List.mem_append_right _ (List.mem_append.mpr (List.mem_append.mp h).symm)⟩
theorem Fc.pop {vs : List Value} {kvs : List (Int × Value)} {k ep ep' : Nat} (h : Fc H₀ H ls a mw itr (pre ++ [x]) F ps) (hn : ((pre ++ [x]) ++ F).Nodup) (hvs : H a.sk = some (.lst (vs ++ [.int (x : Nat) k]))) (hvi : IntsAre vs (zs pre)) (hkv : H a.n2 = some (.dct kvs ep)) (hL : Lab kvs (pre ++ [x]))
    (inj : ∀ i ∈ pre ++ [x], ∀ j ∈ pre ++ [x], ls i = ls j → i = j) :
    Fc H₀ (up (up (up (up H (itr x) (.ob (endO (ps x)))) a.sk (.lst vs)) a.n2 (.dct (without kvs (x : Int)) ep')) a.tk (.lst (pre.map fun x => Value.ref (mw x)))) ls a mw itr pre (F ++ [x]) ps := by
  refine hide fun G hG => ?_
  obtain ⟨x1, x2, x3, x4⟩ := h.hw x (by simp)
  obtain ⟨S, n₀, hse, hS1, hS2⟩ := h.hse
  refine hG ?_
  clear hG
  have htk := h.htk
  have k9 : a.sk ≠ a.n2 := ne_of_t hvs hkv rfl
  have k10 : a.sk ≠ a.se := ne_of_t hvs hse rfl
  have k11 : a.tk ≠ a.n2 := ne_of_t htk hkv rfl
  have k12 : a.tk ≠ a.se := ne_of_t htk hse rfl
  have k13 : a.n2 ≠ a.se := ne_of_t hkv hse rfl
  refine ⟨(((h.ke.up x2).up h.n1).up h.n4).up h.n2, h.n1, h.n2, h.n3, h.n4, ⟨vs, ?_, hvi⟩, up_same, h.hne, ⟨S, n₀, ?_, ?_, fun j => ?_⟩, ⟨_, ep', ?_, hL.pop ?_⟩, h.hs, fun y hy => ?_⟩
  · exact up_ne h.hne (up_ne k9 up_same)
  · exact up_ne (Ne.symm k12) (up_ne (Ne.symm k13) (up_ne (Ne.symm k10) (up_ne (ne_of_t hse x4 rfl) hse)))
  · simp only [List.length_append, List.length_singleton] at hS1 ⊢; lia
  · exact (hS2 j).trans mem_rot
  · exact up_ne (Ne.symm k11) up_same
  · rw [List.nodup_append] at hn; exact hn.1
  · obtain ⟨m1, m2, m3, m4⟩ := h.hw y (List.mem_append_left _ hy)
    have e : y ≠ x := fun e => by
      rw [List.nodup_append] at hn
      have := hn.1
      rw [List.nodup_append] at this
      exact this.2.2 y hy x (by simp) e
    refine ⟨m1, m2, ?_, ?_⟩
    · exact up_ne (ne_of_t m3 htk rfl) (up_ne (ne_of_t m3 hkv rfl) (up_ne (ne_of_t m3 hvs rfl) (up_ne (ne_of_d m3 x4 (by simp [wrapO, litO])) m3)))
    · refine up_ne (ne_of_t m4 htk rfl) (up_ne (ne_of_t m4 hkv rfl) (up_ne (ne_of_t m4 hvs rfl) (up_ne (fun q => ?_) m4)))
      rw [q, x4] at m4
      simp [litO] at m4
      exact e (inj y (by simp [hy]) x (by simp) m4.1.symm)
end
section
variable {Z : Zs} {C : Cx} {E : Value → Shared → Prop} {s : Shared}
theorem W_while {RR : Result → Shared → Prop} {test : Expr} {body orelse : List Stmt} (I : Nat → Shared → Prop)
    (turn : ∀ n s, I n s → ∀ P, Turn (fun s => ∃ m, m < n ∧ I m s) RR P → wpAny Z.M C.A (isTrue test C.env (eval test C.env)) (fun b s₂ =>
        if b then wpAny Z.M C.A (execs body C.env) P (fun _ _ => False) s₂
        else wpAny Z.M C.A (execs orelse C.env) (fun f s₃ => RR (.ok f) s₃) (fun _ _ => False) s₂) (fun _ _ => False) s)
    (n : Nat) (h : I n s) : codeAny Z.M C.A (.whileLoop test body orelse C.env) RR s := by
  refine codeAny_whileLoop I (fun n s hI => wpAny_mono (turn n s hI (fun f s => match f with | .next => ∃ m, m < n ∧ I m s | .cont => ∃ m, m < n ∧ I m s | .brk => RR (.ok .next) s | .ret v => RR (.ok (.ret v)) s) ⟨fun _ z => z, fun _ z => z, fun _ z => z, fun _ _ z => z⟩) (fun b s₂ h₂ => ?_) fun _ _ z => z.elim) n h
  cases b with
  | true => exact wpAny_mono h₂ (fun f s₃ h₃ => by cases f <;> exact h₃) fun _ _ z => z.elim
  | false => exact wpAny_mono h₂ (fun f s₃ h₃ => h₃) fun _ _ z => z.elim
end

section
variable {Z : Zs} {C : Cx} {R : Rp} {m m' : Loc} {H : Hp} {s : Shared} {E : Value → Shared → Prop} {σ : Srt} {r l : Addr} {vs : List Value} {deg : Nat → Int} {sn : Nat → List Nat} {rv : Value} {np nf : Int} {i : Nat} {t : Tok}
structure Nm (σ : Srt) (a : Sea) (m : Loc) : Prop where
  n1 : m "n2i" = some (.ref σ.d)
  n2 : m "stack" = some (.ref a.sk)
  n3 : m "itstack" = some (.ref a.tk)
  n4 : m "seen" = some (.ref a.se)
  n5 : m "node2stacki" = some (.ref a.n2)
theorem ints_last {vs : List Value} {pre : List Nat} {x : Nat} (h : IntsAre vs (zs (pre ++ [x]))) : ∃ tx, vs = vs.dropLast ++ [.int (x : Int) tx] ∧ IntsAre vs.dropLast (zs pre) := by
  have hl : vs.length = pre.length + 1 := by have := h.length; rw [zs_length] at this; simpa using this
  obtain ⟨v, hv⟩ : ∃ v, vs[pre.length]? = some v := ⟨vs[pre.length]'(by lia), List.getElem?_eq_getElem _⟩
  obtain ⟨z, tz, rfl, hz⟩ := h.at _ v hv
  obtain rfl : z = (x : Int) := by
    unfold zs at hz; rw [List.getElem?_map] at hz; simpa using hz.symm
  have e1 : vs.take pre.length = vs.dropLast := by rw [List.dropLast_eq_take]; congr 1; rw [hl]; rfl
  refine ⟨tz, ?_, ?_⟩
  · rw [← e1, ← take_snoc hv, List.take_of_length_le (by lia)]
  · rw [← e1]
    have := h.take pre.length
    unfold zs at this ⊢
    rw [← List.map_take] at this
    simpa using this
theorem Nm.node {a : Sea} {m : Loc} {v : Value} (h : Nm σ a m) : Nm σ a (put m "node" v) := by
  obtain ⟨h1, h2, h3, h4, h5⟩ := h
  refine ⟨?_, ?_, ?_, ?_, ?_⟩ <;> (simp (decide := true) only [put, if_false]; assumption)

inductive IvR (σ : Srt) (a : Sea) (H : Hp) (sn : Nat → List Nat) (k : Nat) (m : Loc) (H' : Hp) : Prop
  | mk (nm : Nm σ a m) (F : List Nat) (mw itr : Nat → Addr) (ps : Nat → Nat) (fc : Fc H H' σ.ls a mw itr [] F ps) (df : Dfs sn [] F ps) (h2 : ∀ x ∈ K5.take k, x ∈ F) : IvR σ a H sn k m H'
inductive IvS (Z : Zs) (C : Cx) (R : Rp) (σ : Srt) (a : Sea) (H : Hp) (sn : Nat → List Nat) (k x0 : Nat) (n : Nat) (s : Shared) : Prop
  | mk (m : Loc) (H' : Hp) (st F : List Nat) (mw itr : Nat → Addr) (ps : Nat → Nat) (node : Nat) (t : Tok) (S : Sat Z C R m H' s) (nm : Nm σ a m) (mn : m "node" = some (.int (node : Int) t)) (fc : Fc H H' σ.ls a mw itr st F ps) (da : DfsA sn st F ps node) (h2 : ∀ x ∈ K5.take k, x ∈ F) (h3 : x0 ∈ st ++ F ∨ (st = [] ∧ node = x0)) (h4 : mu sn st F ps = n) : IvS Z C R σ a H sn k x0 n s
inductive IvT (Z : Zs) (C : Cx) (R : Rp) (σ : Srt) (a : Sea) (H : Hp) (sn : Nat → List Nat) (k x0 : Nat) (n : Nat) (n' : Nat) (s : Shared) : Prop
  | mk (m : Loc) (H' : Hp) (st F : List Nat) (mw itr : Nat → Addr) (ps : Nat → Nat) (S : Sat Z C R m H' s) (nm : Nm σ a m) (fc : Fc H H' σ.ls a mw itr st F ps) (db : DfsB sn st F ps) (h2 : ∀ x ∈ K5.take k, x ∈ F) (h3 : x0 ∈ st ++ F) (h4 : mu sn st F ps = n') (h5 : n' ≤ n) : IvT Z C R σ a H sn k x0 n n' s
inductive IvU (Z : Zs) (C : Cx) (R : Rp) (σ : Srt) (a : Sea) (H : Hp) (sn : Nat → List Nat) (k x0 : Nat) (n : Nat) (s : Shared) : Prop
  | mk (m : Loc) (H' : Hp) (st F : List Nat) (mw itr : Nat → Addr) (ps : Nat → Nat) (S : Sat Z C R m H' s) (nm : Nm σ a m) (fc : Fc H H' σ.ls a mw itr st F ps) (db : DfsB sn st F ps) (h2 : ∀ x ∈ K5.take k, x ∈ F) (h3 : x0 ∈ st ++ F) (h4 : mu sn st F ps ≤ n) : IvU Z C R σ a H sn k x0 n s
theorem spec_findCycle {Q : Value → Shared → Prop} (S : Sat Z C R m H s) (hrm : 0 < C.rm) (hh0 : C.A.handled = none) (c : Core H σ K5 deg (fun k => zs (sn k))) (at' : Att H σ rv np nf) (hsn : ∀ k ∈ K5, ∀ j ∈ sn k, j ∈ K5) (hsl : ∀ k ∈ K5, (sn k).length ≤ 1000)
    (h1 : ∀ s' H' F, Ke H H' → (PostOrd sn F ∧ F.Nodup) → (∀ i ∈ K5, i ∈ F) → (∀ i ∈ F, i ∈ K5) → Sat Z C R m H' s' → Q .none s')
    (h2 : ∀ l vs s' H', Ke H H' → H' l = some (.lst vs) → vs ≠ [] → vs.length ≤ 100 → Cyc sn → Sat Z C R m H' s' → Q (.ref l) s') :
    wpAny Z.M C.A (call (.ref 134) [.ref σ.x] []) Q E s := by
  refine W_enterF S (by rfl) hrm (by rfl) (BindsTo.of_eq (binds := [("self", .ref σ.x)]) (by rfl)) fun C' s' hsc hcl hr hh hfst hfr ex S' => ?_
  have hG := S.rg
  clear S
  refine hide fun G hG => ?_
  obtain ⟨ax, t1, t2, n, hn, adx⟩ := at'
  refine hG ?_
  clear hG
  (with_reducible refine W_cons ?_; intro _ _)
  with_reducible refine wpAny_Assign_Name ?_ (by kernel_rfl)
  with_reducible refine Attribute_any_ ?_ (by kernel_rfl)
  refine W_loc S' hsc (by rfl) ?_
  refine W_attr (Cl := 144) S' ax adx (by rfl) (fun s S => ?_)
  clear S'
  refine W_store S hsc fun s S => ?_
  (with_reducible refine Then.nx (by assumption) _ ?_; with_reducible refine W_cons ?_; intro _ _)
  with_reducible refine wpAny_Assign_Name ?_ (by kernel_rfl)
  with_reducible refine List_ ?_
  with_reducible refine spliced_none ?_
  refine W_newList S (fun sk s e1 _ S => ?_) (by simp)
  refine W_store S hsc fun s S => ?_
  (with_reducible refine Then.nx (by assumption) _ ?_; with_reducible refine W_cons ?_; intro _ _)
  with_reducible refine wpAny_Assign_Name ?_ (by kernel_rfl)
  with_reducible refine List_ ?_
  with_reducible refine spliced_none ?_
  refine W_newList S (fun tk s e2 _ S => ?_) (by simp)
  refine W_store S hsc fun s S => ?_
  (with_reducible refine Then.nx (by assumption) _ ?_; with_reducible refine W_cons ?_; intro _ _)
  with_reducible refine wpAny_Assign_Name ?_ (by kernel_rfl)
  with_reducible refine wpAny_Call_NameR ?_
  refine W_blt (v := .type "set") S hsc (by kernel_rfl) ?_
  refine W_callT0 ?_
  refine W_newSet S fun se s e3 _ S => ?_
  refine W_store S hsc fun s S => ?_
  (with_reducible refine Then.nx (by assumption) _ ?_; with_reducible refine W_cons ?_; intro _ _)
  with_reducible refine wpAny_Assign_Name ?_ (by kernel_rfl)
  refine W_newDict S fun n2 s e4 _ e5 S => ?_
  refine W_store S hsc fun s S => ?_
  have fc0 : Fc H (up (up (up (up H sk (.lst [])) tk (.lst [])) se (.st (fun _ => false) 0)) n2 (.dct [] 0)) σ.ls ⟨sk, tk, se, n2⟩ (fun _ => 0) (fun _ => 0) [] [] (fun _ => 0) := by
    have k1 : sk ≠ tk := ne_of_n up_same e2
    have k2 : sk ≠ se := ne_of_n (H := up (up H sk (.lst [])) tk (.lst [])) (d := .lst []) (up_ne k1 up_same) e3
    have k3 : tk ≠ se := ne_of_n up_same e3
    have k4 : sk ≠ n2 := ne_of_n (H := up (up (up H sk (.lst [])) tk (.lst [])) se (.st (fun _ => false) 0)) (d := .lst []) (up_ne k2 (up_ne k1 up_same)) e4
    have k5 : tk ≠ n2 := ne_of_n (H := up (up (up H sk (.lst [])) tk (.lst [])) se (.st (fun _ => false) 0)) (d := .lst []) (up_ne k3 up_same) e4
    have k6 : se ≠ n2 := ne_of_n up_same e4
    have f2 : H tk = none := by rw [up_other (Ne.symm k1)] at e2; exact e2
    have f3 : H se = none := by rw [up_other (Ne.symm k3), up_other (Ne.symm k2)] at e3; exact e3
    have f4 : H n2 = none := by rw [up_other (Ne.symm k6), up_other (Ne.symm k5), up_other (Ne.symm k4)] at e4; exact e4
    refine ⟨(((Ke.refl.up e1).up f2).up f3).up f4, e1, f2, f3, f4, ⟨[], ?_, .nil⟩, ?_, k1, ⟨fun _ => false, 0, ?_, by simp, by simp⟩, ⟨[], 0, up_same, rfl, by simp⟩, e5, by simp⟩
    · exact up_ne k4 (up_ne k2 (up_ne k1 up_same))
    · rw [up_other k5, up_other k3, up_same]; rfl
    · exact up_ne k6 up_same
  generalize up (up (up (up H sk (.lst [])) tk (.lst [])) se (.st (fun _ => false) 0)) n2 (.dct [] 0) = H1 at S fc0
  generalize ha : (⟨sk, tk, se, n2⟩ : Sea) = a at fc0
  refine hide fun G hG => ?_
  obtain ⟨ep, cd⟩ := c.hd
  refine hG ?_
  clear hG
  have hkl : (K5.map fun (i : Nat) => ((i : Int), Value.ref (σ.ni i))).length = 5 := rfl
  (with_reducible refine Then.nx (by assumption) _ ?_; with_reducible refine W_cons ?_; intro _ _)
  (with_reducible refine wpAny_For ?_ (by intros; kernel_rfl))
  refine W_loc S hsc (by rfl) ?_
  refine W_iterD S (fc0.ke _ _ cd) c.hs fun it o R₀ s f1 f2 f3 f4 S' => ?_
  refine W_for (itrD σ.d (K5.map fun (i : Nat) => ((i : Int), Value.ref (σ.ni i))) ep) S' (hh.trans hh0) f1 f2 f3 f4 S.rg (IvR σ a H sn)
    (fun k m H' (.mk _ _ _ _ _ fc ..) => fc.ke _ _ cd) ⟨by subst ha; exact ⟨by rfl, by rfl, by rfl, by rfl, by rfl⟩, [], _, _, _, fc0, ⟨by simp, by simp, by intro A x B e; simp at e, by simp⟩, by simp⟩ ?_ ?_
  · clear S S' fc0 ha e1 e2 e3 e4 e5
    intro k v R' m H' s E' hk hv hR hPat10 S _ _
    refine hide fun G hG => ?_
    obtain ⟨nm, F, mw, itr, ps, fc, df, hall⟩ := hPat10
    refine hG ?_
    clear hG
    refine hide fun G hG => ?_
    obtain ⟨i, x, t, hk5, rfl⟩ := hv
    refine hG ?_
    clear hG
    refine hide fun G hG => ?_
    obtain ⟨x0, hx0⟩ : ∃ x0, K5[k]? = some x0 := ⟨K5[k]'hk, List.getElem?_eq_getElem _⟩
    refine hG ?_
    clear hG
    refine hide fun G hG => ?_
    obtain rfl : i = (x0 : Int) := by rw [List.getElem?_map, hx0] at hk5; simp at hk5; exact hk5.1.symm
    refine hG ?_
    clear hG
    have hxk : x0 ∈ K5 := List.mem_of_getElem? hx0
    with_reducible refine wpAny_assign_Name ?_
    refine W_store S hsc fun s S => ?_
    refine wpAny_noRaise ?_
    have nm := Nm.node (v := .int (x0 : Int) t) nm
    (with_reducible refine W_cons ?_; intro _ _)
    with_reducible refine wpAny_If ?_
    with_reducible refine wpAny_isTrue_Compare1 ?_ (by kernel_rfl)
    refine W_loc S hsc (by rfl) ?_
    refine W_loc S hsc nm.n4 ?_
    refine hide fun G hG => ?_
    obtain ⟨S₀, n₀, hse, hS1, hS2⟩ := fc.hse
    refine hG ?_
    clear hG
    refine W_sin S hse fun s S => ?_
    with_reducible refine wpAny_truthy_bool ?_
    by_cases hse0 : S₀ (x0 : Int) = true
    · refine ifT hse0 ?_
      (with_reducible refine W_cons ?_; intro _ _)
      (with_reducible refine wpAny_Continue ?_; with_reducible refine Then.cont (by assumption) _ ?_; with_reducible refine Then.cont (by assumption) _ ?_; with_reducible refine Turn.cont (by assumption) _ ?_)
      refine ⟨_, _, S, nm, F, mw, itr, ps, fc, df, fun y hy => ?_⟩
      rcases (mem_take_succ hx0).mp hy with hy | rfl
      · exact hall y hy
      · simpa using (hS2 y).mp hse0
    · refine ifF hse0 ?_
      (with_reducible refine wpAny_execs_nil ?_; with_reducible refine Then.nx (by assumption) _ ?_)
      (with_reducible refine W_cons ?_; intro _ _)
      with_reducible refine wpAny_While ?_
      have hx0F : x0 ∉ F := fun q => hse0 ((hS2 x0).mpr (by simpa using q))
      refine W_while (IvS Z C' R' σ a H sn k x0) ?_ _
        ⟨_, H', [], F, mw, itr, ps, x0, t, S, nm, by rfl, fc, ⟨df, fun k x y h1 h2 => by simp at h2, hxk⟩, hall, .inr ⟨rfl, rfl⟩, rfl⟩
      clear S nm fc df hall hse hS1 hS2 hse0 hx0F
      intro n s hPat2 _ _
      refine hide fun G hG => ?_
      obtain ⟨m, H', st, F, mw, itr, ps, node, t, S, nm, mn, fc, da, hall, hx0', hmu⟩ := hPat2
      refine hG ?_
      clear hG
      refine wpAny_isTrue_value ?_
      (with_reducible refine wpAny_Constant_bool ?_; dsimp only)
      with_reducible refine wpAny_truthy_bool ?_
      refine ifT rfl ?_
      have hlen := K5_len da.d.nd da.d.sub
      have hst5 : st.length ≤ 5 := by rw [List.length_append] at hlen; lia
      (with_reducible refine W_cons ?_; intro _ _)
      refine wpAny_mono (Q := fun f s => (f = .next ∧ IvU Z C' R' σ a H sn k x0 n s) ∨ ∃ v, f = .ret v ∧ Q v s) (E := fun _ _ => False) ?_ ?_ (fun _ _ z => z)
      rotate_left
      · clear S nm mn fc da hall hx0' hmu hlen hst5
        rintro f s (⟨rfl, m, H', st, F, mw, itr, ps, S, nm, fc, db, hall, hx0', hmu⟩ | ⟨v, rfl, hq⟩)
        · (with_reducible refine Then.nx (by assumption) _ ?_; with_reducible refine W_cons ?_; intro _ _)
          with_reducible refine wpAny_While ?_
          refine W_while (IvT Z C' R' σ a H sn k x0 n) ?_ _ ⟨m, H', st, F, mw, itr, ps, S, nm, fc, db, hall, hx0', rfl, hmu⟩
          clear S nm fc db hall hx0' hmu
          intro n' s hPat2 _ _
          refine hide fun G hG => ?_
          obtain ⟨m, H', st, F, mw, itr, ps, S, nm, fc, db, hall, hx0', hmu, hle⟩ := hPat2
          refine hG ?_
          clear hG
          have hlen := K5_len db.d.nd db.d.sub
          have hst5 : st.length ≤ 5 := by rw [List.length_append] at hlen; lia
          refine hide fun G hG => ?_
          obtain ⟨vs, hvs, hvi⟩ := fc.hst
          refine hG ?_
          clear hG
          have hvl : vs.length = st.length := hvi.length.trans (zs_length _)
          refine wpAny_isTrue_value ?_
          refine W_loc S hsc nm.n2 ?_
          refine W_truthyL S (LIn.of hvs) (fun s S => ?_) (by exact le2 (by assumption) (by assumption) (Nat.le_of_ble_eq_true rfl))
          rcases List.eq_nil_or_concat st with rfl | ⟨pre, x, e⟩
          · obtain rfl : vs = [] := List.length_eq_zero_iff.mp (by simpa using hvl)
            refine ifF (by simp) ?_
            (with_reducible refine W_cons ?_; intro _ _)
            (with_reducible refine wpAny_Break ?_; with_reducible refine Then.brk (by assumption) _ ?_; with_reducible refine Then.brk (by assumption) _ ?_; with_reducible refine Turn.brk (by assumption) _ ?_; dsimp only; with_reducible refine Then.nx (by assumption) _ ?_)
            (with_reducible refine wpAny_execs_nil ?_; with_reducible refine Turn.nx (by assumption) _ ?_)
            refine ⟨m, H', S, nm, F, mw, itr, ps, fc, db.d, fun y hy => ?_⟩
            rcases (mem_take_succ hx0).mp hy with hy | rfl
            · exact hall y hy
            · simpa using hx0'
          · rw [List.concat_eq_append] at e
            subst e
            have hb : (!vs.isEmpty) = true := by cases vs with
              | nil => simp at hvl
              | cons _ _ => rfl
            refine ifT hb ?_
            (with_reducible refine W_cons ?_; intro _ _)
            refine wpAny_Try_except ?_
            have hxs : x ∈ pre ++ [x] := by simp
            have hx5 : x ∈ K5 := db.d.sub x (by simp)
            have hinj : ∀ i ∈ pre ++ [x], ∀ j ∈ pre ++ [x], σ.ls i = σ.ls j → i = j := fun i hi j hj => c.inj i (db.d.sub i (List.mem_append_left _ hi)) j (db.d.sub j (List.mem_append_left _ hj))
            refine hide fun G hG => ?_
            obtain ⟨w1, w2, w3, w4⟩ := fc.hw x hxs
            refine hG ?_
            clear hG
            refine hide fun G hG => ?_
            obtain ⟨ws, hws, hwi⟩ := c.hl x hx5
            refine hG ?_
            clear hG
            have hwl : ws.length = (sn x).length := hwi.length.trans (zs_length _)
            have htk := fc.htk
            rw [List.map_append] at htk
            (with_reducible refine W_cons ?_; intro _ _)
            with_reducible refine wpAny_Assign_Name ?_ (by kernel_rfl)
            refine Call_ ?_
            with_reducible refine Subscript_ ?_
            refine W_loc S hsc nm.n3 ?_
            refine UnaryOp_ ?_
            refine W_int S fun t4 s S => ?_
            refine PyProof.Rows.neg_int ?_
            replace S := S.tok (t := s.toks + 1)
            refine tail_any (S.isList (LIn.of htk)).typeIs slot_list_getitem.lookup (W_getLast (vs := pre.map fun x => Value.ref (mw x)) S (LIn.of htk) ?_) (by with_unfolding_all rfl)
            cases hy : (sn x)[ps x]? with
            | some y =>
              refine hide fun G hG => ?_
              obtain ⟨v, hv⟩ : ∃ v, ws[ps x]? = some v := ⟨ws[ps x]'(by have := (List.getElem?_eq_some_iff.mp hy).1; exact lt2 (by assumption) (by assumption)), List.getElem?_eq_getElem _⟩
              refine hG ?_
              clear hG
              refine hide fun G hG => ?_
              obtain ⟨z, tz, rfl, hz1⟩ := hwi.at (ps x) v hv
              refine hG ?_
              clear hG
              obtain rfl : z = (y : Int) := by
                unfold zs at hz1; rw [List.getElem?_map, hy] at hz1; simpa using hz1.symm
              refine W_callW S w3 w4 (LIn.of (fc.ke _ _ hws)) hv fun s S => ?_
              refine W_store S hsc fun s S => ?_
              (with_reducible refine Then.nx (by assumption) _ ?_; with_reducible refine W_cons ?_; intro _ _)
              (with_reducible refine wpAny_Break ?_; with_reducible refine Then.brk (by assumption) _ ?_; with_reducible refine Then.brk (by assumption) _ ?_; with_reducible refine Turn.brk (by assumption) _ ?_; dsimp only; with_reducible refine Then.nx (by assumption) _ ?_)
              (with_reducible refine wpAny_execs_nil ?_; with_reducible refine Turn.nx (by assumption) _ ?_)
              have := mu_step db hy
              exact ⟨_, Nat.lt_of_lt_of_le (Nat.lt_of_lt_of_eq this hmu) hle, _, _, _, F, mw, itr, _, y, tz, S, nm.node, by rfl, fc.step hxs hinj, db.step hy (hsn x hx5 y (List.mem_of_getElem? hy)), hall, .inl hx0', rfl⟩
            | none =>
              have hv : ws[ps x]? = none := by rw [List.getElem?_eq_none_iff] at hy ⊢; exact le7 (by assumption) (by assumption)
              refine W_callStop S (hh.trans hh0) w3 w4 (LIn.of (fc.ke _ _ hws)) hv fun s₀ h' e S hx => ?_
              refine W_note S hfst hfr hx fun s Fl => ?_
              refine W_handle (T := "StopIteration") Fl hsc (by kernel_rfl) (by rw [isSubtype_type]; kernel_rfl) (by rw [isSubtype_type]; kernel_rfl) (by rw [isSubtype_type]; kernel_rfl) fun s S => ?_
              obtain ⟨v0, tx, hv0⟩ : ∃ v0 tx, vs = v0 ++ [.int (x : Int) tx] ∧ IntsAre v0 (zs pre) := by
                obtain ⟨tx, e1, e2⟩ := ints_last hvi
                exact ⟨_, tx, e1, e2⟩
              refine hide fun G hG => ?_
              obtain ⟨hvs0, hvi0⟩ := hv0
              refine hG ?_
              clear hG
              subst hvs0
              refine hide fun G hG => ?_
              obtain ⟨kvs, ep2, hkv, hL⟩ := fc.hn2
              refine hG ?_
              clear hG
              have hpn : (pre ++ [x]).Nodup := by have := db.d.nd; rw [List.nodup_append] at this; exact this.1
              refine hide fun G hG => ?_
              obtain ⟨k0, t0, hk0, hval⟩ := hL.at hpn hxs
              refine hG ?_
              clear hG
              have hpl : pre.length ≤ 5 := by simp at hst5; exact le1 (by assumption) (Nat.le_of_ble_eq_true rfl)
              (with_reducible refine W_cons ?_; intro _ _)
              refine wpAny_Delete ?_
              refine wpAny_deleteEach_cons ?_
              refine wpAny_delete_Subscript ?_
              refine W_loc S hsc nm.n5 ?_
              with_reducible refine methodCall_KW ?_ (by with_unfolding_all rfl)
              refine W_loc S hsc nm.n2 ?_
              have hvs1 : (up H' (itr x) (.ob (endO (ps x)))) a.sk = some (.lst (v0 ++ [.int (x : Int) tx])) := up_ne (ne_of_t hvs w4 rfl) hvs
              refine W_lmeth S hvs1 PySem.F.slot_list_pop PySem.F.type_list_pop ?_
              refine W_callB0 ?_
              refine W_pop S hvs1 (fun s S => ?_) (by have := hvi0.length; rw [zs_length] at this; exact le2 (by assumption) (by assumption) (Nat.le_of_ble_eq_true rfl))
              refine W_ddel (kvs := kvs) (ep := ep2) S (up_ne (ne_of_t hkv hvs rfl) (up_ne (ne_of_t hkv w4 rfl) hkv)) hval (by rw [hL.1]; exact le1 (by assumption) (Nat.le_of_ble_eq_true rfl)) fun ep3 s S => ?_
              refine wpAny_deleteEach_nil ?_
              (with_reducible refine Then.nx (by assumption) _ ?_; with_reducible refine W_cons ?_; intro _ _)
              refine W_expr S ?_
              (with_reducible refine methodCall_KW ?_ (by with_unfolding_all rfl); dsimp only)
              refine W_loc S hsc nm.n3 ?_
              have htk2 : ∀ d1 d2, (up (up (up H' (itr x) (.ob (endO (ps x)))) a.sk d1) a.n2 d2) a.tk = some (.lst ((pre.map fun x => Value.ref (mw x)) ++ [.ref (mw x)])) := fun d1 d2 => by
                exact up_ne (ne_of_t htk hkv rfl) (up_ne (Ne.symm fc.hne) (up_ne (ne_of_t htk w4 rfl) htk))
              refine W_lmeth S (htk2 _ _) PySem.F.slot_list_pop PySem.F.type_list_pop ?_
              refine W_callB0 ?_
              refine W_pop S (htk2 _ _) (fun s S => ?_) (by rw [List.length_map]; exact le1 (by assumption) (Nat.le_of_ble_eq_true rfl))
              (with_reducible refine Then.nx (by assumption) _ ?_; with_reducible refine wpAny_execs_nil ?_; with_reducible refine Then.nx (by assumption) _ ?_)
              (with_reducible refine wpAny_execs_nil ?_; with_reducible refine Turn.nx (by assumption) _ ?_)
              have := mu_pop db
              refine ⟨_, ?_, m, _, pre, F ++ [x], mw, itr, ps, S.unmark, nm, fc.pop db.d.nd hvs hvi0 hkv hL hinj, db.pop hy, fun y hy => List.mem_append_left _ (hall y hy), ?_, rfl, ?_⟩
              · exact Nat.lt_of_lt_of_eq this hmu
              · simp only [List.mem_append] at hx0' ⊢
                rcases hx0' with (q | q) | q
                · exact .inl q
                · exact .inr (.inr q)
                · exact .inr (.inl q)
              · exact Nat.le_trans (Nat.le_of_lt (Nat.lt_of_lt_of_eq this hmu)) hle
        · (with_reducible refine Then.ret (by assumption) _ _ ?_; with_reducible refine Turn.ret (by assumption) _ _ ?_; dsimp only; with_reducible refine Then.ret (by assumption) _ _ ?_; with_reducible refine Turn.ret (by assumption) _ _ ?_; dsimp only; with_reducible refine Then.ret (by assumption) _ _ ?_)
          exact hq
      with_reducible refine wpAny_If ?_
      with_reducible refine wpAny_isTrue_Compare1 ?_ (by kernel_rfl)
      refine W_loc S hsc mn ?_
      refine W_loc S hsc nm.n4 ?_
      refine hide fun G hG => ?_
      obtain ⟨S₀, n₀, hse, hS1, hS2⟩ := fc.hse
      refine hG ?_
      clear hG
      refine W_sin S hse fun s S => ?_
      with_reducible refine wpAny_truthy_bool ?_
      by_cases hse0 : S₀ (node : Int) = true
      · refine ifT hse0 ?_
        (with_reducible refine W_cons ?_; intro _ _)
        with_reducible refine wpAny_If ?_
        with_reducible refine wpAny_isTrue_Compare1 ?_ (by kernel_rfl)
        refine W_loc S hsc mn ?_
        refine W_loc S hsc nm.n5 ?_
        refine hide fun G hG => ?_
        obtain ⟨kvs, ep2, hkv, hL⟩ := fc.hn2
        refine hG ?_
        clear hG
        refine W_din S fc.hs hkv fun s S => ?_
        with_reducible refine wpAny_truthy_bool ?_
        by_cases hin : node ∈ st
        · obtain ⟨k0, t0, hk0, hv0⟩ := hL.at (by have := da.d.nd; rw [List.nodup_append] at this; exact this.1) hin
          refine ifT (by rw [hv0]; simp) ?_
          (with_reducible refine W_cons ?_; intro _ _)
          with_reducible refine wpAny_Return_some ?_
          with_reducible refine wpAny_BinOp ?_
          refine hide fun G hG => ?_
          obtain ⟨vs, hvs, hvi⟩ := fc.hst
          refine hG ?_
          clear hG
          have hvl : vs.length = st.length := hvi.length.trans (zs_length _)
          refine W_slice ?_
          refine W_loc S hsc nm.n2 ?_
          refine wpAny_evalPart_some ?_
          with_reducible refine Subscript_ ?_
          refine W_loc S hsc nm.n5 ?_
          refine W_loc S hsc mn ?_
          refine W_subD S hkv hv0 fun s S => ?_
          refine wpAny_evalPart_none ?_
          refine ⟨a.sk, vs, some (k0 : Int), none, _, _, _, rfl, S, LIn.of hvs, by exact le2 (by assumption) (by assumption) (Nat.le_of_ble_eq_true rfl), .int _ _, .none, fun D s e1 e2 S => ?_⟩
          with_reducible refine List_ ?_
          with_reducible refine spliced_more ?_ (by kernel_rfl)
          refine W_loc S hsc mn ?_
          with_reducible refine spliced_none ?_
          refine W_newList S (fun D2 s e3 e4 S => ?_) (by simp)
          have hsl := sliced_len vs (some (k0 : Int)) none
          have e5 : D ≠ D2 := ne_of_n up_same e3
          refine W_addL (vs := sliced vs (some (k0 : Int)) none) (ws := [.int (node : Int) t]) S (LIn.of (up_ne e5 up_same)) (LIn.of up_same) (fun D3 s e6 e7 S => ?_) (by simp; lia)
          (with_reducible refine Then.ret (by assumption) _ _ ?_; with_reducible refine Then.ret (by assumption) _ _ ?_)
          refine .inr ⟨_, rfl, h2 _ _ _ _ (((fc.ke.trans (Ke.new e1)).trans (Ke.new e3)).trans (Ke.new e6)) up_same (by simp) (by simp; lia) (da.cyc hin) (ex _ _ _ (S.weak hR hG))⟩
        · refine ifF (by rw [hL.none hin]; simp) ?_
          (with_reducible refine wpAny_execs_nil ?_; with_reducible refine Then.nx (by assumption) _ ?_)
          with_reducible refine wpAny_execs_nil ?_
          have hF : node ∈ F := by have := (hS2 node).mp hse0; rcases List.mem_append.mp this with q | q
                                   · exact absurd q hin
                                   · exact q
          refine .inl ⟨rfl, m, H', st, F, mw, itr, ps, S, nm, fc, da.old hF, hall, ?_, by lia⟩
          rcases hx0' with q | ⟨rfl, rfl⟩
          · exact q
          · simpa using hF
      · refine ifF hse0 ?_
        have hno : node ∉ st ++ F := fun q => hse0 ((hS2 node).mpr q)
        have hn1 : node ∉ st := fun q => hno (List.mem_append_left _ q)
        have hn2 : node ∉ F := fun q => hno (List.mem_append_right _ q)
        (with_reducible refine W_cons ?_; intro _ _)
        refine W_expr S ?_
        with_reducible refine methodCall_KW ?_ (by with_unfolding_all rfl)
        refine W_loc S hsc nm.n4 ?_
        refine W_smeth S hse ?_
        refine W_callB ?_
        (with_reducible refine spliced_more ?_ (by kernel_rfl); dsimp only)
        refine W_loc S hsc mn ?_
        with_reducible refine spliced_none ?_
        refine W_sadd S hse (by have : scanBound = 4096 := rfl; lia) fun s S => ?_
        rw [if_neg hse0] at S
        (with_reducible refine Then.nx (by assumption) _ ?_; with_reducible refine W_cons ?_; intro _ _)
        refine W_expr S ?_
        with_reducible refine methodCall_KW ?_ (by with_unfolding_all rfl)
        refine W_loc S hsc nm.n3 ?_
        have htk1 : (up H' a.se (.st (fun j => S₀ j || decide (j = (node : Int))) (n₀ + 1))) a.tk = some (.lst (st.map fun x => Value.ref (mw x))) := up_ne (ne_of_t fc.htk hse rfl) fc.htk
        have ke1 : Ke H (up H' a.se (.st (fun j => S₀ j || decide (j = (node : Int))) (n₀ + 1))) := fc.ke.up fc.n3
        refine W_lmeth S htk1 PySem.F.slot_list_append PySem.F.type_list_append ?_
        refine W_callB ?_
        (with_reducible refine spliced_more ?_ (by kernel_rfl); dsimp only)
        with_reducible refine Attribute_any_ ?_ (by kernel_rfl)
        with_reducible refine wpAny_Call_NameR ?_
        refine W_blt (v := .builtin "iter") S hsc (by kernel_rfl) ?_
        refine W_callB ?_
        with_reducible refine spliced_more ?_ (by kernel_rfl)
        with_reducible refine Attribute_any_ ?_ (by kernel_rfl)
        with_reducible refine Subscript_ ?_
        refine W_loc S hsc nm.n1 ?_
        refine W_loc S hsc mn ?_
        refine W_subD S (ke1 _ _ cd) (by rw [valueAt_keys, if_pos da.k]) fun s S => ?_
        refine hide fun G hG => ?_
        obtain ⟨u1, u2, hni⟩ := c.hn node da.k
        refine hG ?_
        clear hG
        refine W_node_succ S (ke1 _ _ hni) (ke1 _ _ (c.hx node da.k)) fun s S => ?_
        with_reducible refine spliced_none ?_
        refine hide fun G hG => ?_
        obtain ⟨ws, hws, hwi⟩ := c.hl node da.k
        refine hG ?_
        clear hG
        refine W_iterO S (LIn.of (ke1 _ _ hws)) fun it s i1 i2 S => ?_
        refine W_next S up_same fun q s i3 i4 S => ?_
        with_reducible refine spliced_none ?_
        have f1 : H' it = none := by
          rw [up_other (fun e => by rw [e, up_same] at i1; cases i1)] at i1; exact i1
        have f2 : q ≠ it := fun e => by rw [e, up_same] at i3; cases i3
        have f3 : H' q = none := by
          rw [up_other f2] at i3
          rw [up_other (fun e => by rw [e, up_same] at i3; cases i3)] at i3; exact i3
        refine W_append S (vs := st.map fun x => Value.ref (mw x)) (up_ne (ne_of_n htk1 (by rw [up_other f2] at i3; exact i3)) (up_ne (ne_of_n htk1 i1) htk1)) (fun s S => ?_) (by simp; exact le1 (by assumption) (Nat.le_of_ble_eq_true rfl))
        refine hide fun G hG => ?_
        obtain ⟨kvs, ep2, hkv, hL⟩ := fc.hn2
        refine hG ?_
        clear hG
        refine hide fun G hG => ?_
        obtain ⟨vs, hvs, hvi⟩ := fc.hst
        refine hG ?_
        clear hG
        have hvl : vs.length = st.length := hvi.length.trans (zs_length _)
        (with_reducible refine Then.nx (by assumption) _ ?_; with_reducible refine W_cons ?_; intro _ _)
        with_reducible refine wpAny_Assign_Subscript ?_ (by kernel_rfl)
        with_reducible refine wpAny_Call_NameR ?_
        refine W_blt (v := .builtin "len") S hsc (by kernel_rfl) ?_
        refine W_callB ?_
        with_reducible refine spliced_more ?_ (by kernel_rfl)
        refine W_loc S hsc nm.n2 ?_
        with_reducible refine spliced_none ?_
        refine W_len (vs := vs) S (LIn.of (up_ne fc.hne (up_ne (ne_of_n hvs f3) (up_ne (ne_of_n hvs f1) (up_ne (ne_of_t hvs hse rfl) hvs))))) (fun t5 s S => ?_) (by exact le2 (by assumption) (by assumption) (Nat.le_of_ble_eq_true rfl))
        refine W_loc S hsc nm.n5 ?_
        refine W_loc S hsc mn ?_
        refine W_dset (kvs := kvs) (ep := ep2) S (up_ne (ne_of_t hkv fc.htk rfl) (up_ne (ne_of_n hkv f3) (up_ne (ne_of_n hkv f1) (up_ne (ne_of_t hkv hse rfl) hkv)))) (by rw [hL.1]; exact le1 (by assumption) (Nat.le_of_ble_eq_true rfl)) fun ep3 s S => ?_
        (with_reducible refine Then.nx (by assumption) _ ?_; with_reducible refine W_cons ?_; intro _ _)
        refine W_expr S ?_
        with_reducible refine methodCall_KW ?_ (by with_unfolding_all rfl)
        refine W_loc S hsc nm.n2 ?_
        have hvs2 : ∀ d3, (up (up (up (up (up H' a.se (.st (fun j => S₀ j || decide (j = (node : Int))) (n₀ + 1))) it (.ob (litO (σ.ls node) 0))) q (.ob (wrapO it))) a.tk (.lst ((st.map fun x => Value.ref (mw x)) ++ [.ref q]))) a.n2 d3) a.sk = some (.lst vs) := fun d3 => by
          exact up_ne (ne_of_t hvs hkv rfl) (up_ne fc.hne (up_ne (ne_of_n hvs f3) (up_ne (ne_of_n hvs f1) (up_ne (ne_of_t hvs hse rfl) hvs))))
        refine W_lmeth S (hvs2 _) PySem.F.slot_list_append PySem.F.type_list_append ?_
        refine W_callB ?_
        (with_reducible refine spliced_more ?_ (by kernel_rfl); dsimp only)
        refine W_loc S hsc mn ?_
        with_reducible refine spliced_none ?_
        refine W_append S (hvs2 _) (fun s S => ?_) (by exact le2 (by assumption) (by assumption) (Nat.le_of_ble_eq_true rfl))
        (with_reducible refine Then.nx (by assumption) _ ?_; with_reducible refine wpAny_execs_nil ?_)
        rw [hvl] at S
        refine .inl ⟨rfl, m, _, st ++ [node], F, _, _, _, S, nm, fc.push hn1 ?_ ?_ hkv hL hvs hvi f1 f3 f2, da.push hn1 hn2, hall, ?_, ?_⟩
        · intro j
          rw [Bool.or_eq_true, hS2 j]
          simp only [List.mem_append, List.mem_singleton, decide_eq_true_eq]
          constructor
          · rintro ((h | h) | h)
            · exact .inl (.inl h)
            · exact .inr h
            · exact .inl (.inr (by lia))
          · rintro ((h | h) | h)
            · exact .inl (.inl h)
            · exact .inr (by lia)
            · exact .inl (.inr h)
        · simp only [List.length_append, List.length_singleton] at hS1 ⊢; lia
        · rcases hx0' with q | ⟨rfl, rfl⟩
          · simp only [List.mem_append] at q ⊢
            rcases q with q | q
            · exact .inl (.inl q)
            · exact .inr q
          · simp
        · exact Nat.le_of_lt (Nat.lt_of_lt_of_eq (mu_push (sn := sn) (ps := ps) da.k hn1 hn2) hmu)
  · rintro m H' s S ⟨nm, F, mw, itr, ps, fc, df, hall⟩
    dsimp only
    (with_reducible refine Then.nx (by assumption) _ ?_; with_reducible refine W_cons ?_; intro _ _)
    with_reducible refine wpAny_Return_some ?_
    (with_reducible refine wpAny_Constant_none ?_; with_reducible refine Then.ret (by assumption) _ _ ?_)
    exact h1 _ _ F fc.ke ⟨df.po, by simpa using df.nd⟩ hall (fun i hi => df.sub i (by simpa using hi)) (ex _ _ _ S)
end

section
variable {Z : Zs} {C : Cx} {R : Rp} {m m' : Loc} {H : Hp} {s : Shared} {E : Value → Shared → Prop} {σ : Srt} {r l : Addr} {vs : List Value} {deg : Nat → Int} {sn : Nat → List Nat} {rv : Value} {np nf : Int} {i : Nat} {t : Tok}
theorem W_emit {M : Model} {A : Around} {elt : Expr} {env : Env} {acc : Value} {Q : Unit → Shared → Prop} (h : wpAny M A (eval elt env) (fun x s₁ => wpAny M A (call (.builtin "list.append") [acc, x]) (fun _ s₂ => Q () s₂) E s₁) E s) :
    wpAny M A (eval elt env >>= fun x => call (.builtin "list.append") [acc, x] >>= fun _ => pure ()) Q E s :=
  wpAny_bind (wpAny_mono h (fun _ _ h₁ => wpAny_bind (wpAny_mono h₁ (fun _ _ h₂ => wpAny_pure h₂) fun _ _ z => z)) fun _ _ z => z)
theorem comp_scope {C : Cx} {scope sc : Scope} {cl : List (Str × Addr)} {L : Addr} {m : Loc} (h : C.env.scope = sc) : (C.comp m scope cl L).env.scope = relS scope sc := by rw [← h]; rfl
theorem cyc_cls (w : World) : (Kw w).lookup 62 = some (excClassObj "CycleError" "CycleError" 62 61 [.type "ValueError"] [.type "ValueError", .type "Exception", .type "BaseException", .type "object"] true [] [] false none none (some (.ref 53)) none (some (.str "CycleError" 252)) (some (.str "CycleError" 260)) (some (.bool true)) "ValueError.__new__") := by rfl
theorem cyc_ns (w : World) : ∃ mN : Loc, mN "__init__" = none ∧ ∀ h, (Kw w).In h → h.Ns 61 mN := by
  obtain ⟨o, ho⟩ : ∃ o, (Kw w).lookup 61 = some o := ⟨_, rfl⟩
  have ho' : (Kw w).lookup 61 = some o := ho
  with_unfolding_all (conv at ho' => lhs; whnf)
  injection ho' with ho'
  subst ho'
  refine ⟨_, ?_, fun h X => ⟨_, _, _, X _ _ ho, rfl, ?_, fun _ => rfl⟩⟩
  · rfl
  · intro e he
    simp only [List.mem_toArray, List.mem_cons, List.not_mem_nil, or_false] at he
    rcases he with rfl | rfl | rfl | rfl | rfl <;> exact ⟨_, _, rfl⟩
/-- the nodes that wait for nothing, in the table's order -/
noncomputable def ready0 (deg : Nat → Int) : List Nat := K5.filter fun i => deg i == 0

theorem spec_prepare {Q : Value → Shared → Prop} (S : Sat Z C R m H s) (hrm : 1 < C.rm) (hh0 : C.A.handled = none) (c : Core H σ K5 deg (fun k => zs (sn k))) (at' : Att H σ .none np nf) (hsn : ∀ k ∈ K5, ∀ j ∈ sn k, j ∈ K5) (hsl : ∀ k ∈ K5, (sn k).length ≤ 1000)
    (h1 : ∀ s' H' F r, Kp (Foot σ K5) H H' → H r = none → (PostOrd sn F ∧ F.Nodup) → (∀ i ∈ K5, i ∈ F) → (∀ i ∈ F, i ∈ K5) → Sorter H' σ r deg (fun k => zs (sn k)) (ready0 deg) np nf → Sat Z C R m H' s' → Q .none s')
    (h2 : ∀ e s' H' r, Kp (Foot σ K5) H H' → H r = none → Cyc sn → Sorter H' σ r deg (fun k => zs (sn k)) (ready0 deg) np nf → Fly Z C R m H' e (.ref 62) s' → E (.ref e) s') :
    wpAny Z.M C.A (call (.ref 99) [.ref σ.x] []) Q E s := by
  refine W_enterE S (by rfl) (by exact rm0 (by assumption) (Nat.le_of_ble_eq_true rfl)) (by rfl) (BindsTo.of_eq (binds := [("self", .ref σ.x)]) (by rfl)) fun C' s' hsc hcl hr hh hfst hfr _ _ ex _ S' => ?_
  have hG := S.rg
  clear S
  refine hide fun G hG => ?_
  obtain ⟨ax, t1, t2, n, hn, adx⟩ := at'
  refine hG ?_
  clear hG
  (with_reducible refine W_cons ?_; intro _ _)
  with_reducible refine wpAny_If ?_
  with_reducible refine wpAny_isTrue_Compare1 ?_ (by kernel_rfl)
  with_reducible refine Attribute_any_ ?_ (by kernel_rfl)
  refine W_loc S' hsc (by rfl) ?_
  refine W_attr (Cl := 144) S' ax adx (by rfl) (fun s S => ?_)
  clear S'
  with_reducible refine wpAny_Constant_none ?_
  refine wpAny_isNot_plain (by rfl) ?_
  with_reducible refine wpAny_truthy_bool ?_
  refine ifF (by decide) ?_
  (with_reducible refine wpAny_execs_nil ?_; with_reducible refine Then.nx (by assumption) _ ?_)
  (with_reducible refine W_cons ?_; intro _ _)
  with_reducible refine plainObj_wpAny_Assign_Attribute ?_ (by kernel_rfl)
  refine hide fun G hG => ?_
  obtain ⟨ep, cd⟩ := c.hd
  refine hG ?_
  clear hG
  refine W_lcomp (cl := []) (closureFor_none (by decide)) ?_
  with_reducible refine methodCall_KW ?_ (by with_unfolding_all rfl)
  with_reducible refine Attribute_any_ ?_ (by kernel_rfl)
  refine W_loc S hsc (by rfl) ?_
  refine W_attr (Cl := 144) S ax adx (by rfl) (fun s S => ?_)
  refine W_dmeth S cd PySem.F.slot_dict_values PySem.F.type_dict_values ?_
  refine W_callB0 ?_
  refine W_values S cd c.hs fun vw s v1 v2 S => ?_
  have k1 : Ke H (up H vw (.ob { cls := .type "dict_values", data := .fields #[.ref σ.d] })) := Ke.new v1
  refine W_iterV S up_same (k1 _ _ cd) fun it o R₀ s f1 f2 f3 f4 S' => ?_
  refine ⟨it, R, R₀, _, _, rfl, f1, hG, S', fun L D s d1 d2 exC S2 RR hRR => ?_⟩
  have k2 := Ke.new (d := .lst []) d1
  refine W_cstart (R := R) (itrV σ.d (K5.map fun (i : Nat) => ((i : Int), Value.ref (σ.ni i))) ep) S2 (k2 _ _ (k1 _ _ cd)) f2 f3 (by rfl) (by rfl) ?_
  refine W_cloop (itrV σ.d (K5.map fun (i : Nat) => ((i : Int), Value.ref (σ.ni i))) ep) S2 (hh.trans hh0) f1 f2 f3 f4 hG (fun k m H' => Ke H H' ∧ ∃ vs, H' D = some (.lst vs) ∧ IntsAre vs (zs ((K5.take k).filter fun i => deg i == 0)))
    (fun k m H' hI => hI.1 _ _ cd) ⟨k1.trans k2, [], up_same, .nil⟩ ?_ ?_
  · intro k v R' m H' s E' hk hPat8 hR hPat10 S P hP
    refine hide fun G hG => ?_
    obtain ⟨i, hv⟩ := hPat8
    obtain ⟨ke, vs, hD, hvi⟩ := hPat10
    refine hG ?_
    clear hG
    refine hide fun G hG => ?_
    obtain ⟨x0, hx0⟩ : ∃ x0, K5[k]? = some x0 := ⟨K5[k]'hk, List.getElem?_eq_getElem _⟩
    refine hG ?_
    clear hG
    have hx5 : x0 ∈ K5 := List.mem_of_getElem? hx0
    obtain ⟨rfl, rfl⟩ : i = (x0 : Int) ∧ v = .ref (σ.ni x0) := by
      rw [List.getElem?_map, hx0] at hv; simp at hv; exact ⟨hv.1.symm, hv.2.symm⟩
    refine hide fun G hG => ?_
    obtain ⟨u1, u2, hni⟩ := c.hn x0 hx5
    refine hG ?_
    clear hG
    have htake : (K5.take (k + 1)).filter (fun i => deg i == 0) = (K5.take k).filter (fun i => deg i == 0) ++ (if deg x0 == 0 then [x0] else []) := by
      rw [take_snoc hx0, List.filter_append]
      cases h0 : deg x0 == 0 <;> simp [h0]
    have hvl : vs.length ≤ 5 := by
      rw [hvi.length, zs_length]
      refine Nat.le_trans (List.length_filter_le _ _) ?_
      rw [List.length_take]; exact Nat.min_le_right _ _
    (with_reducible refine wpAny_assign_Name ?_; dsimp only)
    refine W_store S (comp_scope hsc) fun s S => ?_
    refine wpAny_tests_one ?_
    with_reducible refine wpAny_isTrue_Compare1 ?_ (by kernel_rfl)
    with_reducible refine Attribute_any_ ?_ (by kernel_rfl)
    refine W_loc S (comp_scope hsc) (by rfl) ?_
    refine W_node_npre S (ke _ _ hni) (ke _ _ (c.hx x0 hx5)) fun s S => ?_
    refine W_int S fun u3 s S => ?_
    refine W_eqI ?_
    with_reducible refine wpAny_truthy_bool ?_
    by_cases h0 : (deg x0 == 0) = true
    · refine ifT h0 ?_
      refine W_emit ?_
      with_reducible refine Attribute_any_ ?_ (by kernel_rfl)
      refine W_loc S (comp_scope hsc) (by rfl) ?_
      refine W_node_node S (ke _ _ hni) (ke _ _ (c.hx x0 hx5)) fun s S => ?_
      refine W_append S hD (fun s S => ?_) (by exact le1 (by assumption) (Nat.le_of_ble_eq_true rfl))
      refine hP _ ⟨_, _, S, ke.up (k1.none d1), _, up_same, ?_⟩
      rw [htake, if_pos h0, zs_append]
      exact hvi.append (.cons _ _ .nil)
    · refine ifF h0 ?_
      refine hP _ ⟨_, _, S, ke, vs, hD, ?_⟩
      rw [htake, if_neg h0, List.append_nil]
      exact hvi
  · rintro m H' s S3 ⟨ke, vs, hD, hvi⟩
    refine hRR _ _ _ S3 (fun s S => ?_) _
    clear S3 S2 S' f1 f2 f3 f4
    have nD : H D = none := k1.none d1
    rw [show (K5.take (K5.map fun (i : Nat) => ((i : Int), Value.ref (σ.ni i))).length) = K5 from rfl] at hvi
    refine W_loc S hsc (by rfl) ?_
    refine W_setattrO (Cl := 144) S (ke _ _ ax) (ke _ _ adx) (by exact le1 (by assumption) (Nat.le_of_ble_eq_true rfl)) (by rfl) fun s S => ?_
    rw [atts_ready] at S
    have c1 : Core H' σ K5 deg (fun k => zs (sn k)) := c.ke ke
    have a1 : Att H' σ .none np nf := Att.ke ⟨ax, t1, t2, n, hn, adx⟩ ke
    have g2 : Sorter (up H' σ.dx (.ns (atts σ.d (.ref D) (.int np t1) (.int nf t2)) n)) σ D deg (fun k => zs (sn k)) (ready0 deg) np nf := by
      refine ⟨c1.upDx a1, a1.set hn, ⟨vs, ?_, hvi⟩, fun i hi q => ?_⟩
      · exact up_ne (ne_of_t hD (ke _ _ adx) rfl) hD
      · obtain ⟨ws, hws, _⟩ := c.hl i hi
        rw [← q, nD] at hws; cases hws
    have kp2 : Kp (Foot σ K5) H (up H' σ.dx (.ns (atts σ.d (.ref D) (.int np t1) (.int nf t2)) n)) := ke.kp.trans (Kp.up (.inr (.inl rfl)))
    clear c1 a1 hD hvi ke
    generalize up H' σ.dx (.ns (atts σ.d (.ref D) (.int np t1) (.int nf t2)) n) = H2 at S g2 kp2
    refine hide fun G hG => ?_
    obtain ⟨ax2, t3, t4, n2, hn2, adx2⟩ := g2.a
    refine hG ?_
    clear hG
    (with_reducible refine Then.nx (by assumption) _ ?_; with_reducible refine W_cons ?_; intro _ _)
    with_reducible refine wpAny_Assign_Name ?_ (by kernel_rfl)
    with_reducible refine methodCall_KW ?_ (by with_unfolding_all rfl)
    refine W_loc S hsc (by rfl) ?_
    refine W_meth (Cl := 144) (f := 134) S ax2 adx2 (by rfl) ?_
    refine W_callF0 S ?_
    refine spec_findCycle (σ := σ) S (by exact rmL (by assumption) (by assumption) (Nat.le_of_ble_eq_true rfl)) (hh.trans hh0) g2.c g2.a hsn hsl ?_ ?_
    · intro s H3 F k3 hF1 hF2 hF3 S
      refine W_store S hsc fun s S => ?_
      (with_reducible refine Then.nx (by assumption) _ ?_; with_reducible refine W_cons ?_; intro _ _)
      with_reducible refine wpAny_If ?_
      refine wpAny_isTrue_value ?_
      refine W_loc S hsc (by rfl) ?_
      refine truthy_none ?_
      refine ifF (by simp) ?_
      (with_reducible refine wpAny_execs_nil ?_; with_reducible refine Then.nx (by assumption) _ ?_)
      with_reducible refine wpAny_execs_nil ?_
      exact h1 _ _ F D (kp2.trans k3.kp) nD hF1 hF2 hF3 (g2.ke k3) (ex _ _ _ S)
    · intro cl cvs s H3 k3 hcl2 hcn hcz hcyc S
      refine W_store S hsc fun s S => ?_
      (with_reducible refine Then.nx (by assumption) _ ?_; with_reducible refine W_cons ?_; intro _ _)
      with_reducible refine wpAny_If ?_
      refine wpAny_isTrue_value ?_
      refine W_loc S hsc (by rfl) ?_
      refine W_truthyL S (LIn.of hcl2) (fun s S => ?_) (by exact le1 (by assumption) (Nat.le_of_ble_eq_true rfl))
      rw [if_pos (by cases cvs with
        | nil => exact absurd rfl hcn
        | cons _ _ => rfl)]
      (with_reducible refine W_cons ?_; intro _ _)
      refine hide fun G hG => ?_
      obtain ⟨mN, hni, hmN⟩ := cyc_ns Z.w
      refine hG ?_
      clear hG
      refine wpAny_Raise_call_sub (C := 62) (N := 61) (nm := "CycleError") (q := "CycleError") (bs := [.type "ValueError"]) (hdct := true) (sn := []) (sub := []) (ab := false) (col := none) (dd := none) (k0 := some (.ref 53)) (k1 := none) (k2 := some (.str "CycleError" 252)) (k3 := some (.str "CycleError" 260)) (k5 := some (.bool true)) PySem.F.excBase_ValueError (hh.trans hh0) (by rfl) hni ?_
      refine W_glob (v := .ref 62) S hsc (by kernel_rfl) ⟨rfl, ?_⟩
      refine evalArgs_plain ?_
      refine spliced_cons ?_
      refine JoinedStr_one (pos := ⟨0, 0, 0, 0⟩) ?_
      refine Constant_str ?_
      replace S := S.tok (t := s.toks + 1)
      refine spliced_cons ?_
      refine W_loc S hsc (by rfl) ?_
      refine spliced_nil ⟨rfl, by simp [sizeLine_eq], S.K _ _ (cyc_cls Z.w), hmN _ S.K, fun h' e hx => ?_⟩
      exact W_leave S ex hfst hfr hx fun s3 F => h2 _ _ _ D (kp2.trans k3.kp) nD hcyc (g2.ke k3) F
end

section
variable {Z : Zs} {C : Cx} {R : Rp} {m m' : Loc} {H : Hp} {s : Shared} {E : Value → Shared → Prop}
theorem Sat.ext {h' : Heap} {t : Nat} (S : Sat Z C R m H s) (k : Heap.ExtBut s.heap.objs.size s.heap h') : Sat Z C R m H { s with heap := h', toks := t } :=
  S.grow fun b o e => k b o (Nat.ne_of_lt (Heap.lt_size e)) e
theorem W_pair {Q : Unit → Shared → Prop} {e1 e2 : Expr} {k : Nat} {pos : Pos} {t : Addr} {a b : Value} (S : Sat Z C R m H s) (hh : C.A.handled = none) (ht : TIn R H t [a, b])
    (h : ∀ s', Sat Z C R m H s' → wpAny Z.M C.A (assign e1 C.env a) (fun _ s₁ => wpAny Z.M C.A (assign e2 C.env b) Q E s₁) E s')
    (he : autoParam (assignEach [e1, e2] C.env = [(false, assign e1 C.env), (false, assign e2 C.env)]) kq) : wpAny Z.M C.A (assign (.Tuple [e1, e2] k pos) C.env (.ref t)) Q E s := by
  refine wpAny_assign_Tuple hh (S.isTup ht) (by rw [he]; rfl) (by rw [he]; rfl) fun h' k' => ?_
  rw [he]
  refine assignInOrder_cons (wpAny_mono (h _ (S.ext (t := s.toks) k')) (fun _ s₁ h₁ => ?_) fun _ _ z => z)
  refine assignInOrder_cons (wpAny_mono h₁ (fun _ s₂ h₂ => ?_) fun _ _ z => z)
  exact assignInOrder_nil h₂
theorem W_swap {Q : List Value → Shared → Prop} {t : Addr} {a b : Value} (S : Sat Z C R m H s) (hh : C.A.handled = none) (ht : TIn R H t [a, b]) (h : ∀ s', Sat Z C R m H s' → Q [a, b] s') : wpAny Z.M C.A (unpackItems (.ref t) 2 none) Q E s := by
  have e : (2 : Nat) = ([a, b] : List Value).toArray.size := rfl
  rw [e]
  exact wpAny_unpackItems_tuple hh (S.isTup ht) fun h' k' => h _ (S.ext (t := s.toks) k')
end
/-- a list of pairs of numbers -/
inductive PairsAt (H : Hp) : List Value → List (Nat × Nat) → Prop
  | nil : PairsAt H [] []
  | cons {t : Addr} {a b : Nat} {u v : Tok} {vs : List Value} {l : List (Nat × Nat)} : H t = some (.tup [.int a u, .int b v]) → PairsAt H vs l → PairsAt H (.ref t :: vs) ((a, b) :: l)
section
variable {H H' : Hp} {vs ws : List Value} {l k : List (Nat × Nat)}
theorem PairsAt.mono (h : PairsAt H vs l) (f : ∀ t u a v b, H t = some (.tup [.int a u, .int b v]) → H' t = some (.tup [.int a u, .int b v])) : PairsAt H' vs l := by
  induction h with
  | nil => exact .nil
  | cons h _ ih => exact .cons (f _ _ _ _ _ h) ih
theorem PairsAt.ke (h : PairsAt H vs l) (f : Ke H H') : PairsAt H' vs l := h.mono fun _ _ _ _ _ e => f _ _ e
theorem PairsAt.append (h : PairsAt H vs l) (g : PairsAt H ws k) : PairsAt H (vs ++ ws) (l ++ k) := by
  induction h with
  | nil => exact g
  | cons h _ ih => exact .cons h ih
theorem PairsAt.length (h : PairsAt H vs l) : vs.length = l.length := by
  induction h with
  | nil => rfl
  | cons h _ ih => rw [List.length_cons, List.length_cons, ih]
theorem PairsAt.at (h : PairsAt H vs l) : ∀ (i : Nat) (v : Value), vs[i]? = some v → ∃ (t : Addr) (a b : Nat) (u w : Tok), v = .ref t ∧ l[i]? = some (a, b) ∧ H t = some (.tup [.int a u, .int b w]) := by
  induction h with
  | nil => intro i v e; simp at e
  | cons h _ ih =>
    intro i v e
    cases i with
    | zero => simp at e; subst e; exact ⟨_, _, _, _, _, rfl, rfl, h⟩
    | succ i => exact ih i v (by simpa using e)
end

/-- the graph of the steps -/
noncomputable def degOf (st : List (Nat × Nat)) (i : Nat) : Int := (st.filter fun p => p.2 == i).length
noncomputable def sucOf (st : List (Nat × Nat)) (j : Nat) : List Nat := (st.filter fun p => p.1 == j).map (·.2)
theorem degOf_snoc (st : List (Nat × Nat)) (a b i : Nat) : degOf (st ++ [(a, b)]) i = if i = b then degOf st b + 1 else degOf st i := by
  unfold degOf
  rw [List.filter_append]
  by_cases e : i = b
  · subst e; simp
  · have : ¬ b = i := fun q => e q.symm
    simp [e, this]
theorem sucOf_snoc (st : List (Nat × Nat)) (a b j : Nat) : sucOf (st ++ [(a, b)]) j = if j = a then sucOf st a ++ [b] else sucOf st j := by
  unfold sucOf
  rw [List.filter_append, List.map_append]
  by_cases e : j = a
  · subst e; simp
  · have : ¬ a = j := fun q => e q.symm
    simp [e, this]
theorem sucOf_len (st : List (Nat × Nat)) (j : Nat) : (sucOf st j).length ≤ st.length := by
  unfold sucOf; rw [List.length_map]; exact List.length_filter_le _ _
section
variable {Z : Zs} {C : Cx} {R : Rp} {m m' : Loc} {H : Hp} {s : Shared} {E : Value → Shared → Prop} {r l : Addr} {vs : List Value} {st : List (Nat × Nat)}

inductive IvA (l x dx d D : Addr) (w : List Value) (H : Hp) (k : Nat) (m : Loc) (H' : Hp) : Prop
  | mk (m1 : m "steps" = some (.ref l)) (m2 : m "sorter" = some (.ref x)) (hD : H' D = some (.lst w)) (ke : Ke H H') (ni nd ls : Nat → Addr) (c : Core H' ⟨x, dx, d, ni, nd, ls⟩ (K5.take k) (fun _ => 0) (fun _ => [])) (a : Att H' ⟨x, dx, d, ni, nd, ls⟩ .none 0 0) (hf : ∀ a, Foot ⟨x, dx, d, ni, nd, ls⟩ (K5.take k) a → H a = none) : IvA l x dx d D w H k m H'
theorem spec_sorter {Q : Value → Shared → Prop} (S : Sat Z C R m H s) (hrm : 5 < C.rm) (hh0 : C.A.handled = none) (hl : H l = some (.lst vs)) (hp : PairsAt H vs st) (h5 : ∀ p ∈ st, p.1 ∈ K5 ∧ p.2 ∈ K5) (hz : st.length ≤ 100)
    (h : ∀ tp σ r s' H' b, Ke H H' → H tp = none → H' tp = some (.tup [.ref σ.x, .bool b]) → (∀ a, FootS σ r a → H a = none) → tp ≠ σ.x →
      (b = true → Cyc (sucOf st)) → (b = false → ∃ F, (PostOrd (sucOf st) F ∧ F.Nodup) ∧ (∀ i ∈ K5, i ∈ F) ∧ ∀ i ∈ F, i ∈ K5) →
      Sorter H' σ r (degOf st) (fun k => zs (sucOf st k)) (ready0 (degOf st)) 0 0 → Sat Z C R m H' s' → Q (.ref tp) s') :
    wpAny Z.M C.A (call (.ref 167) [.ref l] []) Q E s := by
  refine W_enterF S (by rfl) (by exact rm0 (by assumption) (Nat.le_of_ble_eq_true rfl)) (by rfl) (BindsTo.of_eq (binds := [("steps", .ref l)]) (by rfl)) fun C' s' hsc hcl hr hh hfst hfr ex S' => ?_
  clear S
  (with_reducible refine W_cons ?_; intro _ _)
  with_reducible refine wpAny_Assign_Name ?_ (by kernel_rfl)
  with_reducible refine wpAny_Call_NameR ?_
  refine W_glob (v := .ref 144) S' hsc (by kernel_rfl) ?_
  refine W_callF0 S' ?_
  refine spec_TS (ni := fun _ => 0) (nd := fun _ => 0) (ls := fun _ => 0) (deg := fun _ => 0) (suc := fun _ => []) S' (by exact rmL (by assumption) (by assumption) (Nat.le_of_ble_eq_true rfl)) fun x dx d s H1 k1 e1 e2 e3 c a S => ?_
  clear S'
  refine W_store S hsc fun s S => ?_
  (with_reducible refine Then.nx (by assumption) _ ?_; with_reducible refine W_cons ?_; intro _ _)
  (with_reducible refine wpAny_For ?_ (by intros; kernel_rfl))
  with_reducible refine List_ ?_
  with_reducible refine spliced_more ?_ (by kernel_rfl)
  refine W_int S fun v4 s S => ?_
  with_reducible refine spliced_more ?_ (by kernel_rfl)
  refine W_int S fun v3 s S => ?_
  with_reducible refine spliced_more ?_ (by kernel_rfl)
  refine W_int S fun v2 s S => ?_
  with_reducible refine spliced_more ?_ (by kernel_rfl)
  refine W_int S fun v1 s S => ?_
  with_reducible refine spliced_more ?_ (by kernel_rfl)
  refine W_int S fun v0 s S => ?_
  with_reducible refine spliced_none ?_
  refine W_newList S (fun D s d1 d2 S => ?_) (by simp)
  have hG := S.rg
  have k2 := k1.trans (Ke.new (d := .lst [.int 4 v4, .int 3 v3, .int 2 v2, .int 1 v1, .int 0 v0]) d1)
  have hD := up_same (H := H1) (a := D) (o := Mine.D.lst [.int 4 v4, .int 3 v3, .int 2 v2, .int 1 v1, .int 0 v0])
  have c2 := c.ke (Ke.new (d := .lst [.int 4 v4, .int 3 v3, .int 2 v2, .int 1 v1, .int 0 v0]) d1)
  have a2 := a.ke (Ke.new (d := .lst [.int 4 v4, .int 3 v3, .int 2 v2, .int 1 v1, .int 0 v0]) d1)
  generalize up H1 D (.lst [.int 4 v4, .int 3 v3, .int 2 v2, .int 1 v1, .int 0 v0]) = H2 at S k2 hD c2 a2
  clear c a d1 d2
  refine W_iterL S (LIn.of hD) fun it o R₀ s f1 f2 f3 f4 S' => ?_
  refine W_for (itrL D _) S' (hh.trans hh0) f1 f2 f3 f4 S.rg (IvA l x dx d D [.int 4 v4, .int 3 v3, .int 2 v2, .int 1 v1, .int 0 v0] H)
    (fun k m H' (.mk _ _ h ..) => .inl h) ⟨by rfl, by rfl, hD, k2, _, _, _, c2, a2, ?_⟩ ?_ ?_
  · rintro a (rfl | rfl | rfl | ⟨i, hi, _⟩)
    · exact e1
    · exact e2
    · exact e3
    · simp at hi
  · clear S S' c2 a2 hD k2
    intro k v R' m H' s E' hk hv hR hPat10 S _ _
    refine hide fun G hG => ?_
    obtain ⟨m1, m2, hD, ke, ni, nd, ls, c, a, hft⟩ := hPat10
    refine hG ?_
    clear hG
    refine hide fun G hG => ?_
    obtain ⟨x0, hx0⟩ : ∃ x0, K5[k]? = some x0 := ⟨K5[k]'hk, List.getElem?_eq_getElem _⟩
    refine hG ?_
    clear hG
    obtain ⟨tv, rfl⟩ : ∃ tv, v = .int (x0 : Nat) tv := by
      have : IntsAre [.int 4 v4, .int 3 v3, .int 2 v2, .int 1 v1, .int 0 v0] (zs K5) := .cons _ _ (.cons _ _ (.cons _ _ (.cons _ _ (.cons _ _ .nil))))
      obtain ⟨z, tz, e, hz⟩ := this.at k v hv
      unfold zs at hz
      rw [List.getElem?_map, hx0] at hz
      exact ⟨tz, by rw [e]; simp at hz; rw [hz]⟩
    have hnk : x0 ∉ K5.take k := by
      have hk5 : k < 5 := hk
      have : k = 0 ∨ k = 1 ∨ k = 2 ∨ k = 3 ∨ k = 4 := by exact of5 (by assumption)
      rcases this with rfl | rfl | rfl | rfl | rfl <;> (simp [K5] at hx0; subst hx0; decide)
    with_reducible refine wpAny_assign_Name ?_
    refine W_store S hsc fun s S => ?_
    (with_reducible refine W_cons ?_; intro _ _)
    refine W_expr S ?_
    with_reducible refine methodCall_KW ?_ (by with_unfolding_all rfl)
    refine W_loc S hsc (by assumption) ?_
    refine hide fun G hG => ?_
    obtain ⟨ax, t1, t2, n, hn, adx⟩ := a
    refine hG ?_
    clear hG
    refine W_meth (Cl := 144) (f := 94) S ax adx (by rfl) ?_
    refine W_callF ?_
    (with_reducible refine spliced_more ?_ (by kernel_rfl); dsimp only)
    refine W_loc S hsc (by rfl) ?_
    with_reducible refine spliced_none ?_
    refine ⟨S.K, ?_⟩
    refine spec_add0 (σ := ⟨x, dx, d, ni, nd, ls⟩) S (by exact rmL (by assumption) (by assumption) (Nat.le_of_ble_eq_true rfl)) (hh.trans hh0) c ⟨ax, t1, t2, n, hn, adx⟩ hnk (by rw [List.length_take]; exact Nat.le_trans (Nat.min_le_right _ _) (by decide)) fun x' dx' l' s H'' g1 g2 g3 kp c' a' S => ?_
    (with_reducible refine Then.nx (by assumption) _ ?_; with_reducible refine wpAny_execs_nil ?_; with_reducible refine Turn.nx (by assumption) _ ?_)
    have hd : H d = none := hft d (.inr (.inr (.inl rfl)))
    refine ⟨_, _, S, by assumption, by assumption, kp _ _ ?_ hD, ?_, fun j => if j = x0 then x' else ni j, fun j => if j = x0 then dx' else nd j, fun j => if j = x0 then l' else ls j, ?_, (let ⟨a1, a2, a3, a4, a5, a6⟩ := a'; ⟨a1, a2, a3, a4, a5, a6⟩), ?_⟩
    · obtain ⟨ep, cd⟩ := c.hd
      exact ne_of_t hD cd rfl
    · intro b dd e
      exact kp b dd (fun q => by rw [q, hd] at e; cases e) (ke b dd e)
    · rw [take_snoc hx0]
      exact c'.congr (fun i _ => by simp) (fun i _ => by simp)
    · rintro a (rfl | rfl | rfl | ⟨i, hi, hq⟩)
      · exact e1
      · exact e2
      · exact e3
      · by_cases e : i = x0
        · subst e
          simp only [if_pos] at hq
          rcases hq with rfl | rfl | rfl
          · exact ke.none g1
          · exact ke.none g2
          · exact ke.none g3
        · simp only [if_neg e] at hq
          refine hft a (.inr (.inr (.inr ⟨i, ?_, hq⟩)))
          rcases (mem_take_succ hx0).mp hi with q | q
          · exact q
          · exact absurd q e
  · clear S S' c2 a2 hD k2
    rintro m H' s S ⟨m1, m2, hD, ke, ni, nd, ls, c, a, hft⟩
    dsimp only
    rw [show K5.take (([.int 4 v4, .int 3 v3, .int 2 v2, .int 1 v1, .int 0 v0] : List Value).length) = K5 from rfl] at c hft
    clear hD
    generalize hσ : (⟨x, dx, d, ni, nd, ls⟩ : Srt) = σ at c a hft
    have hσx : σ.x = x := by rw [← hσ]
    (with_reducible refine Then.nx (by assumption) _ ?_; with_reducible refine W_cons ?_; intro _ _)
    (with_reducible refine wpAny_For ?_ (by intros; kernel_rfl))
    refine W_loc S hsc m1 ?_
    refine W_iterL S (LIn.of (ke _ _ hl)) fun it o R₀ s f1 f2 f3 f4 S' => ?_
    refine W_for (itrL l _) S' (hh.trans hh0) f1 f2 f3 f4 S.rg (fun k m H' => m "sorter" = some (.ref x) ∧ Ke H H' ∧ Core H' σ K5 (degOf (st.take k)) (fun j => zs (sucOf (st.take k) j)) ∧ Att H' σ .none 0 0)
      (fun k m H' hI => .inl (hI.2.1 _ _ hl)) ⟨by assumption, ke, c, a⟩ ?_ ?_
    · clear S S' c a ke m1 m2
      intro k v R' m H' s E' hk hv hR hPat10 S _ _
      refine hide fun G hG => ?_
      obtain ⟨m2, ke, c, a⟩ := hPat10
      refine hG ?_
      clear hG
      refine hide fun G hG => ?_
      obtain ⟨tp, p1, p2, u1, u2, rfl, hst, htp⟩ := hp.at k v hv
      refine hG ?_
      clear hG
      refine hide fun G hG => ?_
      obtain ⟨h51, h52⟩ := h5 _ (List.mem_of_getElem? hst)
      refine hG ?_
      clear hG
      refine W_pair S (hh.trans hh0) (TIn.of (ke _ _ htp)) fun s S => ?_
      with_reducible refine wpAny_assign_Name ?_
      refine W_store S hsc fun s S => ?_
      with_reducible refine wpAny_assign_Name ?_
      refine W_store S hsc fun s S => ?_
      (with_reducible refine W_cons ?_; intro _ _)
      refine W_expr S ?_
      with_reducible refine methodCall_KW ?_ (by with_unfolding_all rfl)
      refine W_loc S hsc (by assumption) ?_
      refine hide fun G hG => ?_
      obtain ⟨ax, t1, t2, n, hn, adx⟩ := a
      refine hG ?_
      clear hG
      rw [← hσx]
      refine W_meth (Cl := 144) (f := 94) S ax adx (by rfl) ?_
      refine W_callF ?_
      (with_reducible refine spliced_more ?_ (by kernel_rfl); dsimp only)
      refine W_loc S hsc (by rfl) ?_
      with_reducible refine spliced_more ?_ (by kernel_rfl)
      refine W_loc S hsc (by rfl) ?_
      with_reducible refine spliced_none ?_
      refine ⟨S.K, ?_⟩
      have hsl := sucOf_len (st.take k) p1
      rw [List.length_take] at hsl
      refine spec_add1 (σ := σ) S (by exact rmL (by assumption) (by assumption) (Nat.le_of_ble_eq_true rfl)) (hh.trans hh0) c ⟨ax, t1, t2, n, hn, adx⟩ h52 h51 (by rw [zs_length]; exact mn2 (by assumption) (by assumption) (Nat.le_of_ble_eq_true rfl)) fun s H'' kp c' a' S => ?_
      (with_reducible refine Then.nx (by assumption) _ ?_; with_reducible refine wpAny_execs_nil ?_; with_reducible refine Turn.nx (by assumption) _ ?_)
      refine ⟨_, _, S, ?_, fun b dd e => kp b dd (fun q => by rw [hft b q] at e; cases e) (ke b dd e), ?_, a'⟩
      · assumption
      · refine c'.congr (fun i _ => ?_) (fun i _ => ?_)
        · rw [take_snoc hst, degOf_snoc]
        · rw [take_snoc hst, sucOf_snoc]
          split
          · rw [zs_append]; rfl
          · rfl
    · clear S S' c a ke m1 m2
      rintro m H' s S ⟨m2, ke, c, a⟩
      dsimp only
      rw [show st.take vs.length = st from List.take_of_length_le (by rw [hp.length]; lia)] at c
      (with_reducible refine Then.nx (by assumption) _ ?_; with_reducible refine W_cons ?_; intro _ _)
      refine wpAny_Try_except ?_
      (with_reducible refine W_cons ?_; intro _ _)
      refine W_expr S ?_
      with_reducible refine methodCall_KW ?_ (by with_unfolding_all rfl)
      refine W_loc S hsc m2 ?_
      refine hide fun G hG => ?_
      obtain ⟨ax, t1, t2, n, hn, adx⟩ := a
      refine hG ?_
      clear hG
      rw [← hσx]
      refine W_meth (Cl := 144) (f := 99) S ax adx (by rfl) ?_
      refine W_callF0 S ?_
      have hsn : ∀ k ∈ K5, ∀ j ∈ sucOf st k, j ∈ K5 := fun k _ j hj => by
        unfold sucOf at hj
        obtain ⟨p, hp1, rfl⟩ := List.mem_map.mp hj
        exact (h5 p (List.mem_filter.mp hp1).1).2
      refine spec_prepare (σ := σ) (sn := sucOf st) S (by exact rmL (by assumption) (by assumption) (Nat.le_of_ble_eq_true rfl)) (hh.trans hh0) c ⟨ax, t1, t2, n, hn, adx⟩ hsn (fun k _ => Nat.le_trans (sucOf_len st k) (by exact le1 (by assumption) (Nat.le_of_ble_eq_true rfl))) ?_ ?_
      · intro s H3 F r kp hr0 hF1 hF2 hF3 g S
        have ke3 : Ke H H3 := fun b dd e => kp b dd (fun q => by rw [hft b q] at e; cases e) (ke b dd e)
        (with_reducible refine Then.nx (by assumption) _ ?_; with_reducible refine wpAny_execs_nil ?_; dsimp only)
        (with_reducible refine wpAny_execs_nil ?_; with_reducible refine Then.nx (by assumption) _ ?_)
        (with_reducible refine W_cons ?_; intro _ _)
        with_reducible refine wpAny_Return_some ?_
        with_reducible refine Tuple_ ?_
        with_reducible refine spliced_more ?_ (by kernel_rfl)
        refine W_loc S hsc m2 ?_
        with_reducible refine spliced_more ?_ (by kernel_rfl)
        with_reducible refine wpAny_Constant_bool ?_
        with_reducible refine spliced_none ?_
        refine W_newTuple S (fun tp s t1 t2 S => ?_) (by simp)
        with_reducible refine Then.ret (by assumption) _ _ ?_
        refine h tp σ r s _ false (ke3.trans (Ke.new t1)) (ke3.none t1) (by rw [hσx]; exact up_same) (fun a ha => ?_) ?_ (by simp) (fun _ => ⟨F, hF1, hF2, hF3⟩) (g.ke (Ke.new t1)) (ex _ _ _ S)
        · rcases ha with ha | rfl
          · exact hft a ha
          · exact ke.none hr0
        · exact Ne.symm (ne_of_n g.a.1 t1)
      · intro e s H3 r kp hr0 hcyc g Fl
        have ke3 : Ke H H3 := fun b dd e => kp b dd (fun q => by rw [hft b q] at e; cases e) (ke b dd e)
        refine W_fly Fl hfst hfr fun s Fl => ?_
        refine W_handleO Fl hsc (by kernel_rfl) (cyc_cls Z.w) (by decide) fun s S => ?_
        (with_reducible refine W_cons ?_; intro _ _)
        with_reducible refine wpAny_Return_some ?_
        with_reducible refine Tuple_ ?_
        with_reducible refine spliced_more ?_ (by kernel_rfl)
        refine W_loc S hsc m2 ?_
        with_reducible refine spliced_more ?_ (by kernel_rfl)
        with_reducible refine wpAny_Constant_bool ?_
        with_reducible refine spliced_none ?_
        refine W_newTuple S (fun tp s t1 t2 S => ?_) (by simp)
        replace S := S.unmark
        (with_reducible refine Then.ret (by assumption) _ _ ?_; with_reducible refine Then.ret (by assumption) _ _ ?_)
        refine h tp σ r s _ true (ke3.trans (Ke.new t1)) (ke3.none t1) (by rw [hσx]; exact up_same) (fun a ha => ?_) ?_ (fun _ => hcyc) (by simp) (g.ke (Ke.new t1)) (ex _ _ _ S)
        · rcases ha with ha | rfl
          · exact hft a ha
          · exact ke.none hr0
        · exact Ne.symm (ne_of_n g.a.1 t1)
end

/- the sorter's own bookkeeping, in plain words -/
theorem doneFold_deg (L : List Nat) : ∀ (p : (Nat → Int) × List Nat) (j : Nat), (L.foldl doneStep p).1 j = p.1 j - (L.count j : Nat) := by
  induction L with
  | nil => intro p j; simp
  | cons a L ih =>
    intro p j
    rw [List.foldl_cons, ih]
    unfold doneStep
    rw [List.count_cons]
    by_cases e : j = a
    · subst e; simp; lia
    · have : (a == j) = false := by simpa using fun q : a = j => e q.symm
      simp [e, this]
theorem doneFold_mem (L : List Nat) : ∀ (p : (Nat → Int) × List Nat), (∀ j ∈ L, (L.count j : Int) ≤ p.1 j) → ∀ j, j ∈ (L.foldl doneStep p).2 ↔ j ∈ p.2 ∨ (j ∈ L ∧ p.1 j = (L.count j : Nat)) := by
  induction L with
  | nil => intro p _ j; simp
  | cons a L ih =>
    intro p h j
    have ha := h a (by simp)
    rw [List.count_cons_self] at ha
    rw [List.foldl_cons, ih]
    · unfold doneStep
      dsimp only
      by_cases e : j = a
      · subst e
        rw [List.count_cons_self]
        by_cases h0 : p.1 j - 1 = 0
        · simp only [h0, if_true]
          have hc : L.count j = 0 := by lia
          have hn : j ∉ L := List.count_eq_zero.mp hc
          simp [hn, hc]; lia
        · simp only [h0, if_false, if_true]
          constructor
          · rintro (q | ⟨q1, q2⟩)
            · exact .inl q
            · exact .inr ⟨by simp, by lia⟩
          · rintro (q | ⟨_, q2⟩)
            · exact .inl q
            · refine .inr ⟨?_, by lia⟩
              refine List.count_pos_iff.mp ?_
              lia
      · have hb : (a == j) = false := by simpa using fun q : a = j => e q.symm
        rw [List.count_cons, hb]
        simp only [e, if_false, Bool.false_eq_true, Nat.add_zero, List.mem_cons, false_or]
        by_cases h0 : p.1 a - 1 = 0
        · simp [h0, e]
        · simp [h0]
    · intro k hk
      have hk' := h k (by simp [hk])
      unfold doneStep
      dsimp only
      rw [List.count_cons] at hk'
      by_cases e : k = a
      · subst e; simp at hk' ⊢; lia
      · have hb : (a == k) = false := by simpa using fun q : a = k => e q.symm
        rw [hb] at hk'
        simp [e] at hk' ⊢; exact hk'
theorem doneFold_nodup (L : List Nat) : ∀ (p : (Nat → Int) × List Nat), (∀ j ∈ L, (L.count j : Int) ≤ p.1 j) → p.2.Nodup → (∀ j ∈ L, j ∉ p.2) → (L.foldl doneStep p).2.Nodup := by
  induction L with
  | nil => intro p _ h _; exact h
  | cons a L ih =>
    intro p h hn hd
    have ha := h a (by simp)
    rw [List.count_cons_self] at ha
    rw [List.foldl_cons]
    refine ih _ ?_ ?_ ?_
    · intro k hk
      have hk' := h k (by simp [hk])
      unfold doneStep
      dsimp only
      rw [List.count_cons] at hk'
      by_cases e : k = a
      · subst e; simp at hk' ⊢; lia
      · have hb : (a == k) = false := by simpa using fun q : a = k => e q.symm
        rw [hb] at hk'
        simp [e] at hk' ⊢; exact hk'
    · unfold doneStep
      dsimp only
      split
      · rw [List.nodup_append]
        exact ⟨hn, by simp, fun x hx y hy q => hd a (by simp) (by simp at hy; rw [← hy, ← q]; exact hx)⟩
      · exact hn
    · intro j hj
      unfold doneStep
      dsimp only
      split
      · rename_i h0
        intro q
        rcases List.mem_append.mp q with q | q
        · exact hd j (by simp [hj]) q
        · obtain rfl : j = a := by simpa using q
          have : 0 < L.count j := List.count_pos_iff.mpr hj
          lia
      · exact hd j (by simp [hj])

/-- how many steps into i start off A -/
noncomputable def cnt (st : List (Nat × Nat)) (A : List Nat) (i : Nat) : Nat := (st.filter fun p => p.2 == i && !(A.contains p.1)).length
theorem cnt_nil (st : List (Nat × Nat)) (i : Nat) : ((cnt st [] i : Nat) : Int) = degOf st i := by
  unfold cnt degOf; simp
theorem cnt_cons (p : Nat × Nat) (st : List (Nat × Nat)) (A : List Nat) (i : Nat) : cnt (p :: st) A i = (if p.2 = i ∧ p.1 ∉ A then 1 else 0) + cnt st A i := by
  unfold cnt
  rw [List.filter_cons]
  by_cases h1 : p.2 = i
  · by_cases h2 : p.1 ∈ A
    · simp [h1, h2]
    · simp [h1, h2]; lia
  · simp [h1]
theorem suc_cons (p : Nat × Nat) (st : List (Nat × Nat)) (i j : Nat) : (sucOf (p :: st) i).count j = (if p.1 = i ∧ p.2 = j then 1 else 0) + (sucOf st i).count j := by
  unfold sucOf
  rw [List.filter_cons]
  by_cases h1 : p.1 = i
  · by_cases h2 : p.2 = j
    · simp [h1, h2]; lia
    · simp [h1, h2]
  · simp [h1]
theorem cnt_snoc (st : List (Nat × Nat)) (A : List Nat) (i j : Nat) (hi : i ∉ A) : cnt st A j = cnt st (A ++ [i]) j + (sucOf st i).count j := by
  induction st with
  | nil => rfl
  | cons p st ih =>
    rw [cnt_cons, cnt_cons, suc_cons, ih]
    by_cases e2 : p.2 = j
    · by_cases e1 : p.1 = i
      · have h1 : p.1 ∉ A := by rw [e1]; exact hi
        have h2 : ¬ (p.1 ∉ A ++ [i]) := by simp [e1]
        rw [if_pos ⟨e2, h1⟩, if_neg (fun q => h2 q.2), if_pos ⟨e1, e2⟩]; lia
      · by_cases hA : p.1 ∈ A
        · rw [if_neg (fun q => q.2 hA), if_neg (fun q => q.2 (by simp [hA])), if_neg (fun q => e1 q.1)]; lia
        · rw [if_pos ⟨e2, hA⟩, if_pos ⟨e2, by simp [hA, e1]⟩, if_neg (fun q => e1 q.1)]; lia
    · rw [if_neg (fun q => e2 q.1), if_neg (fun q => e2 q.1), if_neg (fun q => e2 q.2)]; lia
theorem cnt_zero {st : List (Nat × Nat)} {A : List Nat} {i : Nat} : cnt st A i = 0 ↔ ∀ p ∈ st, p.2 = i → p.1 ∈ A := by
  unfold cnt
  rw [List.length_eq_zero_iff, List.filter_eq_nil_iff]
  constructor
  · intro h p hp e
    have := h p hp
    simpa [e] using this
  · intro h p hp
    have := h p hp
    simp only [Bool.and_eq_true, beq_iff_eq, Bool.not_eq_true', List.contains_eq_mem, decide_eq_false_iff_not]
    exact fun q => q.2 (this q.1)
theorem count_le_cnt (st : List (Nat × Nat)) (A : List Nat) (i j : Nat) (hi : i ∉ A) : (sucOf st i).count j ≤ cnt st A j := by
  rw [cnt_snoc st A i j hi]; lia

/-- an order in which every node comes behind those it waits for -/
noncomputable def Valid (st : List (Nat × Nat)) (A : List Nat) : Prop := ∀ B x D, A = B ++ x :: D → ∀ p ∈ st, p.2 = x → p.1 ∈ B
theorem Valid.snoc {st : List (Nat × Nat)} {A : List Nat} {x : Nat} (h : Valid st A) (hx : ∀ p ∈ st, p.2 = x → p.1 ∈ A) : Valid st (A ++ [x]) := by
  intro B z D e p hp hz
  rcases List.eq_nil_or_concat D with rfl | ⟨D', b, rfl⟩
  · obtain ⟨rfl, e2⟩ := List.append_inj' e rfl
    obtain rfl : x = z := by simpa using e2
    exact hx p hp hz
  · rw [List.concat_eq_append, ← List.cons_append, ← List.append_assoc] at e
    obtain ⟨e1, _⟩ := List.append_inj' e rfl
    exact h B z D' e1 p hp hz

structure InvM (st : List (Nat × Nat)) (A W : List Nat) (deg : Nat → Int) (rl : List Nat) (np nf : Int) : Prop where
  nd : (A ++ W ++ rl).Nodup
  sub : ∀ x ∈ A ++ W ++ rl, x ∈ K5
  dA : ∀ i ∈ A, deg i = -2
  dW : ∀ i ∈ W, deg i = -1
  dO : ∀ i ∈ K5, i ∉ A → i ∉ W → deg i = (cnt st A i : Nat)
  rdy : ∀ i ∈ K5, i ∈ rl ↔ (i ∉ A ∧ i ∉ W ∧ cnt st A i = 0)
  v : Valid st A
  cl : ∀ i ∈ W, ∀ p ∈ st, p.2 = i → p.1 ∈ A
  hp : np = (A.length + W.length : Nat)
  hf : nf = (A.length : Nat)

section
variable {st : List (Nat × Nat)} {A W pre post : List Nat} {deg : Nat → Int} {rl : List Nat} {np nf : Int} {x : Nat}
theorem InvM.start (st : List (Nat × Nat)) : InvM st [] [] (degOf st) (ready0 (degOf st)) 0 0 := by
  have hk : K5.Nodup := by decide
  refine ⟨?_, ?_, by simp, by simp, fun i _ _ _ => (cnt_nil st i).symm, fun i hi => ?_, ?_, by simp, by simp, by simp⟩
  · simp only [List.nil_append]; exact hk.filter _
  · intro x hx; simp only [List.nil_append] at hx; exact (List.mem_filter.mp hx).1
  · unfold ready0
    rw [List.mem_filter]
    have := cnt_nil st i
    simp [hi]; lia
  · intro B x D e; simp at e
theorem InvM.get (h : InvM st A W deg rl np nf) : InvM st A (W ++ rl) (fun k => if k ∈ rl then -1 else deg k) [] (np + rl.length) nf := by
  have hnd := h.nd
  rw [List.append_assoc, List.nodup_append] at hnd
  refine ⟨?_, ?_, fun i hi => ?_, fun i hi => ?_, fun i hi h1 h2 => ?_, fun i hi => ?_, h.v, fun i hi p hp e => ?_, ?_, h.hf⟩
  · rw [List.append_nil, ← List.append_assoc]; exact h.nd
  · rw [List.append_nil, ← List.append_assoc]; exact h.sub
  · rw [if_neg (fun q => hnd.2.2 i hi i (by simp [q]) rfl)]; exact h.dA i hi
  · by_cases q : i ∈ rl
    · rw [if_pos q]
    · rw [if_neg q]
      exact h.dW i ((List.mem_append.mp hi).resolve_right q)
  · rw [if_neg (fun q => h2 (by simp [q]))]
    exact h.dO i hi h1 fun q => h2 (by simp [q])
  · simp only [List.not_mem_nil, false_iff, not_and, List.mem_append, not_or]
    intro h1 h2 h3
    exact h2.2 ((h.rdy i hi).mpr ⟨h1, h2.1, h3⟩)
  · rcases List.mem_append.mp hi with q | q
    · exact h.cl i q p hp e
    · have hk : i ∈ K5 := h.sub i (by simp [q])
      exact cnt_zero.mp ((h.rdy i hk).mp q).2.2 p hp e
  · rw [h.hp, List.length_append]; lia
theorem mem_ins {i x : Nat} {pre post : List Nat} (h : i ∈ pre ++ post) : i ∈ pre ++ x :: post := (List.mem_append.mp h).elim (List.mem_append_left _) fun h => List.mem_append_right _ (.tail _ h)
theorem InvM.fin (h : InvM st A (pre ++ x :: post) deg [] np nf) (hsub : ∀ p ∈ st, p.2 ∈ K5) :
    InvM st (A ++ [x]) (pre ++ post) ((sucOf st x).foldl doneStep (fun k => if k = x then -2 else deg k, [])).1 ((sucOf st x).foldl doneStep (fun k => if k = x then -2 else deg k, [])).2 np (nf + 1) := by
  have hnd := h.nd
  rw [List.append_nil, List.nodup_append] at hnd
  have hW := hnd.2.1
  rw [List.nodup_append, List.nodup_cons] at hW
  have hxA : x ∉ A := fun q => hnd.2.2 x q x (by simp) rfl
  have hxpre : x ∉ pre := fun q => hW.2.2 x q x (by simp) rfl
  have hxpost : x ∉ post := hW.2.1.1
  have hxk : x ∈ K5 := h.sub x (by simp)
  -- who waits for x is neither done nor out
  have hsA : ∀ j ∈ sucOf st x, j ∉ A ∧ j ∉ pre ++ x :: post := by
    intro j hj
    unfold sucOf at hj
    obtain ⟨p, hp1, rfl⟩ := List.mem_map.mp hj
    obtain ⟨hps, hpx⟩ := List.mem_filter.mp hp1
    have hpx' : p.1 = x := by simpa using hpx
    constructor
    · intro q
      obtain ⟨B, D, e⟩ := List.append_of_mem q
      have := h.v B p.2 D e p hps rfl
      rw [hpx'] at this
      exact hxA (by rw [e]; simp [this])
    · intro q
      have := h.cl p.2 q p hps rfl
      rw [hpx'] at this
      exact hxA this
  have hjk : ∀ j ∈ sucOf st x, j ∈ K5 := fun j hj => by
    unfold sucOf at hj
    obtain ⟨p, hp1, rfl⟩ := List.mem_map.mp hj
    exact hsub p (List.mem_filter.mp hp1).1
  have hd0 : ∀ j ∈ sucOf st x, (if j = x then (-2 : Int) else deg j) = (cnt st A j : Nat) := fun j hj => by
    have := hsA j hj
    rw [if_neg (fun q => this.2 (by rw [q]; simp))]
    exact h.dO j (hjk j hj) this.1 this.2
  have hle : ∀ j ∈ sucOf st x, ((sucOf st x).count j : Int) ≤ (fun k => if k = x then (-2 : Int) else deg k) j := fun j hj => by
    have := count_le_cnt st A x j hxA
    show _ ≤ (if j = x then (-2 : Int) else deg j)
    rw [hd0 j hj]; lia
  have hmem := doneFold_mem (sucOf st x) (fun k => if k = x then (-2 : Int) else deg k, []) hle
  have hdeg := doneFold_deg (sucOf st x) (fun k => if k = x then (-2 : Int) else deg k, [])
  have hdup := doneFold_nodup (sucOf st x) (fun k => if k = x then (-2 : Int) else deg k, []) hle (by simp) (by simp)
  generalize hP : (sucOf st x).foldl doneStep (fun k => if k = x then (-2 : Int) else deg k, []) = P at hmem hdeg hdup
  dsimp only at hmem hdeg
  have hc0 : ∀ j, j ∉ sucOf st x → (sucOf st x).count j = 0 := fun j hj => List.count_eq_zero.mpr hj
  have hcs : ∀ j, cnt st A j = cnt st (A ++ [x]) j + (sucOf st x).count j := fun j => cnt_snoc st A x j hxA
  have hin : ∀ j, j ∈ P.2 → j ∈ sucOf st x := fun j hj => by
    have := (hmem j).mp hj
    simp at this; exact this.1
  refine ⟨?_, ?_, fun i hi => ?_, fun i hi => ?_, fun i hi h1 h2 => ?_, fun i hi => ?_, h.v.snoc (h.cl x (by simp)), fun i hi p hp e => ?_, ?_, ?_⟩
  · have e : A ++ [x] ++ (pre ++ post) ++ P.2 = (A ++ [x] ++ (pre ++ post)) ++ P.2 := rfl
    rw [List.nodup_append]
    refine ⟨?_, hdup, fun a ha b hb q => ?_⟩
    · rw [List.append_assoc, List.nodup_append]
      refine ⟨hnd.1, ?_, fun a ha b hb q => hnd.2.2 a ha b ((List.mem_cons.mp (show b ∈ x :: (pre ++ post) from hb)).elim (fun e => by rw [e]; exact List.mem_append_right _ (.head _)) (fun h => mem_ins h)) q⟩
      simp only [List.singleton_append, List.nodup_cons, List.mem_append, not_or]
      refine ⟨⟨hxpre, hxpost⟩, ?_⟩
      rw [List.nodup_append]
      exact ⟨hW.1, hW.2.1.2, fun a ha b hb => hW.2.2 a ha b (by simp [hb])⟩
    · have := hsA b (hin b hb)
      subst q
      simp only [List.mem_append, List.mem_cons, not_or, List.not_mem_nil, or_false] at ha this
      rcases ha with (q | q) | q | q
      · exact this.1 q
      · exact this.2.2.1 q
      · exact this.2.1 q
      · exact this.2.2.2 q
  · intro y hy
    simp only [List.mem_append, List.mem_singleton] at hy
    rcases hy with ((q | rfl) | q | q) | q
    · exact h.sub y (by simp [q])
    · exact hxk
    · exact h.sub y (by simp [q])
    · exact h.sub y (by simp [q])
    · exact hjk y (hin y q)
  · rw [hdeg]
    rcases List.mem_append.mp hi with q | q
    · have hns : i ∉ sucOf st x := fun z => (hsA i z).1 q
      rw [if_neg (fun z => hxA (by rw [← z]; exact q)), hc0 i hns, h.dA i q]; rfl
    · obtain rfl : i = x := by simpa using q
      have hns : i ∉ sucOf st i := fun z => (hsA i z).2 (by simp)
      rw [if_pos rfl, hc0 i hns]; rfl
  · rw [hdeg]
    have q : i ∈ pre ++ x :: post := mem_ins hi
    have hns : i ∉ sucOf st x := fun z => (hsA i z).2 q
    have hix : i ≠ x := fun z => by
      rcases List.mem_append.mp hi with w | w
      · exact hxpre (z ▸ w)
      · exact hxpost (z ▸ w)
    rw [if_neg hix, hc0 i hns, h.dW i q]; rfl
  · rw [hdeg]
    simp only [List.mem_append, List.mem_singleton, not_or] at h1 h2
    rw [if_neg h1.2, h.dO i hi h1.1 (by simp [h2, h1.2])]
    have := hcs i
    lia
  · rw [hmem]
    simp only [List.not_mem_nil, false_or, List.mem_append, List.mem_singleton, not_or]
    have hc := hcs i
    constructor
    · rintro ⟨q1, q2⟩
      have hs := hsA i q1
      simp only [List.mem_append, List.mem_cons, not_or] at hs
      refine ⟨⟨hs.1, hs.2.2.1⟩, ⟨hs.2.1, hs.2.2.2⟩, ?_⟩
      rw [hd0 i q1] at q2
      lia
    · rintro ⟨⟨q1, q2⟩, ⟨q3, q4⟩, q5⟩
      have hW' : i ∉ pre ++ x :: post := by simp [q3, q4, q2]
      have hpos : i ∈ sucOf st x := by
        by_cases z : i ∈ sucOf st x
        · exact z
        · rw [hc0 i z] at hc
          have := (h.rdy i hi).mpr ⟨q1, hW', by lia⟩
          simp at this
      refine ⟨hpos, ?_⟩
      rw [hd0 i hpos]; lia
  · have : i ∈ pre ++ x :: post := mem_ins hi
    exact List.mem_append_left _ (h.cl i this p hp e)
  · rw [h.hp]; simp; lia
  · rw [h.hf]; simp
end

section
variable {Z : Zs} {C : Cx} {R : Rp} {m m' : Loc} {H : Hp} {s : Shared} {E : Value → Shared → Prop} {Q : Value → Shared → Prop} {a b l : Addr} {vs us : List Value} {ns ms : List Int} {i : Int} {t : Tok}
theorem Sat.room (S : Sat Z C R m H s) : C.A.units + 64 < cLine := Nat.lt_of_le_of_lt (Nat.add_le_add_right (Nat.le_trans (Nat.le_add_right _ _) S.c.units) 64) (by decide)
theorem W_eqL (S : Sat Z C R m H s) (hl : LIn R H a vs) (hi : IntsAre vs ns) (hl' : LIn R H b us) (hi' : IntsAre us ms) (h : Q (.bool (decide (ns = ms))) s) : wpAny Z.M C.A (compareOp .Eq (.ref a) (.ref b)) Q E s :=
  eq_intsK (S.isList hl) hi (S.isList hl') hi' S.room h
theorem W_neL (S : Sat Z C R m H s) (hl : LIn R H a vs) (hi : IntsAre vs ns) (hl' : LIn R H b us) (hi' : IntsAre us ms) (h : Q (.bool (!decide (ns = ms))) s) : wpAny Z.M C.A (compareOp .NotEq (.ref a) (.ref b)) Q E s :=
  ne_intsK (S.isList hl) hi (S.isList hl') hi' S.room h
theorem W_inL (S : Sat Z C R m H s) (hl : LIn R H a vs) (hi : IntsAre vs ns) (h : Q (.bool (ns.any (· == i))) s) : wpAny Z.M C.A (compareOp .In (.int i t) (.ref a)) Q E s := in_list_ints (S.isList hl) hi h
theorem W_ninL (S : Sat Z C R m H s) (hl : LIn R H a vs) (hi : IntsAre vs ns) (h : Q (.bool (!(ns.any (· == i)))) s) : wpAny Z.M C.A (compareOp .NotIn (.int i t) (.ref a)) Q E s := notin_list_ints (S.isList hl) hi h
theorem W_sum (S : Sat Z C R m H s) (hh : C.A.handled = none) (hl : LIn R H a vs) (hi : IntsAre vs ns) (h : ∀ z t s', Sat Z C R m H s' → Q (.int z t) s') : wpAny Z.M C.A (call (.builtin "sum") [.ref a]) Q E s := by
  obtain ⟨xs, e⟩ := hi.allInts.items
  refine sum_intListG (xs := xs) hh (by rw [← e]; exact S.isList hl) fun h' tk t' hk => h _ _ _ (S.grow hk)
theorem rep_list {α : Type} (l : List α) : ∀ (n : Nat) (z : Array α), List.foldl (fun x1 x2 => x1 ++ x2) z (List.replicate n l.toArray) = z ++ ((List.replicate n l).flatten).toArray
  | 0, z => by simp
  | n + 1, z => by rw [List.replicate_succ, List.foldl_cons, rep_list l n, List.replicate_succ, List.flatten_cons]; simp [Array.append_assoc]
theorem W_mulL (S : Sat Z C R m H s) (hl : H l = some (.lst vs)) (h0 : 0 ≤ i) (h1 : i ≤ 10) (hz : vs.length ≤ 1000) (h : ∀ D s', H D = none → R D = none → Sat Z C R m (up H D (.lst (List.replicate i.toNat vs).flatten)) s' → Q (.ref D) s') : wpAny Z.M C.A (binaryOp .Mult (.ref l) (.int i t)) Q E s := by
  obtain ⟨n, e⟩ := S.L hl
  refine mul_list S.fr0 S.news0 e (by lia) (by lia) ?_ fun h' F N => h _ _ S.fresh.1 S.fresh.2 (S.new0 (t := s.toks) F N (get_size _) ⟨0, ?_⟩)
  · rw [List.size_toArray]
    have : vs.length * i.toNat ≤ 1000 * 10 := Nat.mul_le_mul hz (by lia)
    exact le1 (by assumption) (Nat.le_of_ble_eq_true rfl)
  · congr 2
    by_cases hv : vs.toArray.isEmpty = true
    · rw [if_pos hv]
      have : vs = [] := by simpa using hv
      subst this
      simp
    · rw [if_neg hv, rep_list]; simp
theorem W_pow (S : Sat Z C R m H s) (h0 : 0 ≤ i) (h1 : i ≤ 10) {u : Tok} (h : ∀ t s', Sat Z C R m H s' → Q (.int (2 ^ i.toNat) t) s') : wpAny Z.M C.A (binaryOp .Pow (.int 2 u) (.int i t)) Q E s :=
  pow_int h0 (by have : Builtin.Int.intBits 2 = 2 := by decide
                 rw [this]; lia) (h _ _ S.tok)
end

structure Full (st : List (Nat × Nat)) (row : List Nat) : Prop where
  nd : row.Nodup
  sub : ∀ x ∈ row, x ∈ K5
  v : Valid st row
  mx : ∀ i ∈ K5, i ∉ row → ∃ p ∈ st, p.2 = i ∧ p.1 ∉ row
theorem cnt_pos {st : List (Nat × Nat)} {A : List Nat} {i : Nat} (h : cnt st A i ≠ 0) : ∃ p ∈ st, p.2 = i ∧ p.1 ∉ A := by
  unfold cnt at h
  obtain ⟨p, hp⟩ := List.exists_mem_of_length_pos (Nat.pos_of_ne_zero h)
  obtain ⟨h1, h2⟩ := List.mem_filter.mp hp
  simp at h2
  exact ⟨p, h1, h2⟩
theorem InvM.full {st : List (Nat × Nat)} {A : List Nat} {deg : Nat → Int} {np nf : Int} (h : InvM st A [] deg [] np nf) : Full st A := by
  refine ⟨by simpa using h.nd, fun x hx => h.sub x (by simp [hx]), h.v, fun i hi hn => cnt_pos fun e => ?_⟩
  have := (h.rdy i hi).mpr ⟨hn, by simp, e⟩
  simp at this
theorem Full.short {st : List (Nat × Nat)} {row : List Nat} (h : Full st row) (c : Cyc (sucOf st)) : row.length < 5 := by
  obtain ⟨X, hX, hk, hc⟩ := c
  have no : ∀ n, ∀ B x D, row = B ++ x :: D → B.length = n → x ∉ X := by
    intro n
    induction n using Nat.strongRecOn with
    | ind n ih =>
      intro B x D e hl hx
      obtain ⟨y, hy, hxy⟩ := hc x hx
      unfold sucOf at hxy
      obtain ⟨p, hp1, hp2⟩ := List.mem_map.mp hxy
      obtain ⟨hps, hpy⟩ := List.mem_filter.mp hp1
      have hpy' : p.1 = y := by simpa using hpy
      have := h.v B x D e p hps hp2
      rw [hpy'] at this
      obtain ⟨B1, D1, e1⟩ := List.append_of_mem this
      refine ih B1.length ?_ B1 y (D1 ++ x :: D) (by rw [e, e1]; simp) rfl hy
      rw [← hl, e1]; simp
  obtain ⟨x, hx⟩ := List.exists_mem_of_ne_nil X hX
  have hnx : x ∉ row := fun q => by
    obtain ⟨B, D, e⟩ := List.append_of_mem q
    exact no _ B x D e rfl hx
  have hl : (x :: row).length ≤ 5 := K5_len (List.nodup_cons.mpr ⟨hnx, h.nd⟩) (fun y hy => by
    rcases List.mem_cons.mp hy with rfl | hy
    · exact hk y hx
    · exact h.sub y hy)
  simp at hl; lia
theorem split_unique {α : Type} {x : α} : ∀ {A A2 B B2 : List α}, (A ++ x :: B).Nodup → A ++ x :: B = A2 ++ x :: B2 → A = A2 ∧ B = B2
  | [], [], _, _, _, e => by simpa using e
  | [], a :: A2, B, B2, h, e => by
    simp at e h
    exact absurd (by rw [e.2]; simp) h.1
  | a :: A, [], B, B2, h, e => by
    simp at e h
    exact absurd e.1 h.1.2.1
  | a :: A, b :: A2, B, B2, h, e => by
    rw [List.cons_append, List.cons_append] at e
    injection e with e1 e2
    rw [List.cons_append, List.nodup_cons] at h
    obtain ⟨q1, q2⟩ := split_unique h.2 e2
    exact ⟨by rw [e1, q1], q2⟩
theorem Full.long {st : List (Nat × Nat)} {row F : List Nat} (h : Full st row) (hF : PostOrd (sucOf st) F) (hn : F.Nodup) (h1 : ∀ i ∈ K5, i ∈ F) (h2 : ∀ p ∈ st, p.1 ∈ K5) : ∀ i ∈ K5, i ∈ row := by
  have all : ∀ n, ∀ A x B, F = A ++ x :: B → B.length = n → x ∈ K5 → x ∈ row := by
    intro n
    induction n using Nat.strongRecOn with
    | ind n ih =>
      intro A x B e hl hx
      by_cases q : x ∈ row
      · exact q
      · obtain ⟨p, hp, hp2, hp1⟩ := h.mx x hx q
        have hpk := h2 p hp
        obtain ⟨A1, B1, e1⟩ := List.append_of_mem (h1 p.1 hpk)
        have hxs : x ∈ sucOf st p.1 := by
          unfold sucOf
          exact List.mem_map.mpr ⟨p, List.mem_filter.mpr ⟨hp, by simp⟩, hp2⟩
        obtain ⟨A2, D2, e2⟩ := List.append_of_mem (hF A1 p.1 B1 e1 x hxs)
        have e3 : A ++ x :: B = A2 ++ x :: (D2 ++ p.1 :: B1) := by rw [← e, e1, e2]; simp
        obtain ⟨_, e4⟩ := split_unique (by rw [← e]; exact hn) e3
        exact absurd (ih B1.length (by rw [← hl, e4]; simp; lia) A1 p.1 B1 e1 rfl hpk) hp1
  intro i hi
  obtain ⟨A, B, e⟩ := List.append_of_mem (h1 i hi)
  exact all _ A i B e rfl hi
theorem Full.refuse {st : List (Nat × Nat)} {row : List Nat} {b : Bool} (h : Full st row) (h2 : ∀ p ∈ st, p.1 ∈ K5) (hb1 : b = true → Cyc (sucOf st)) (hb2 : b = false → ∃ F, (PostOrd (sucOf st) F ∧ F.Nodup) ∧ (∀ i ∈ K5, i ∈ F) ∧ ∀ i ∈ F, i ∈ K5) : b = decide (row.length < 5) := by
  cases b with
  | true => simp [h.short (hb1 rfl)]
  | false =>
    obtain ⟨F, ⟨f1, f2⟩, f3, _⟩ := hb2 rfl
    have := h.long f1 f2 f3 h2
    have hl : K5.length ≤ row.length := nodup_len (by decide) this
    have : K5.length = 5 := rfl
    simp; assumption

section
variable {Z : Zs} {C : Cx} {R : Rp} {m m' : Loc} {H : Hp} {s : Shared} {E : Value → Shared → Prop} {r l nl : Addr} {vs nvs : List Value} {st : List (Nat × Nat)} {ns : List Int}
theorem split_at {α : Type} {l : List α} {k : Nat} {x : α} (h : l[k]? = some x) : l = l.take k ++ x :: l.drop (k + 1) := by
  obtain ⟨hk, e⟩ := List.getElem?_eq_some_iff.mp h
  have q := List.take_append_drop k l
  rw [List.drop_eq_getElem_cons hk, e] at q
  exact q.symm
theorem Kp.one {H : Hp} {a : Addr} {d : D} : Kp (fun b => b = a) H (Mine.up H a d) := Kp.up rfl
theorem Sorter.fresh {H : Hp} {σ : Srt} {r a : Addr} {deg : Nat → Int} {suc : Nat → List Int} {rl : List Nat} {np nf : Int} (g : Sorter H σ r deg suc rl np nf) (e1 : H a = none) : ∀ b, FootS σ r b → b ≠ a := fun b hb q => by
  subst q
  rcases hb with hb | rfl
  · rcases hb with rfl | rfl | rfl | ⟨i, hi, rfl | rfl | rfl⟩
    · rw [g.a.1] at e1; cases e1
    · obtain ⟨_, _, _, _, _, adx⟩ := g.a; rw [adx] at e1; cases e1
    · obtain ⟨_, cd⟩ := g.c.hd; rw [cd] at e1; cases e1
    · obtain ⟨_, _, z⟩ := g.c.hn i hi; rw [z] at e1; cases e1
    · have z := g.c.hx i hi; rw [z] at e1; cases e1
    · obtain ⟨_, z, _⟩ := g.c.hl i hi; rw [z] at e1; cases e1
  · obtain ⟨_, z, _⟩ := g.rd; rw [z] at e1; cases e1
theorem Sorter.off {H : Hp} {σ : Srt} {r a : Addr} {deg : Nat → Int} {suc : Nat → List Int} {rl : List Nat} {np nf : Int} {d : D} (g : Sorter H σ r deg suc rl np nf) (h : ∀ b, FootS σ r b → b ≠ a) : Sorter (up H a d) σ r deg suc rl np nf := g.kp Kp.one h

inductive IvB (σ : Srt) (ra wa r : Addr) (b : Bool) (st : List (Nat × Nat)) (H : Hp) (k : Nat) (m : Loc) (H' : Hp) : Prop
  | mk (m1 : m "sorter" = some (.ref σ.x)) (m2 : m "row" = some (.ref ra)) (m3 : m "waiting" = some (.ref wa)) (m4 : m "refused" = some (.bool b)) (ke : Ke H H') (A W : List Nat) (deg : Nat → Int) (np nf : Int) (rvs wvs : List Value) (g : Sorter H' σ r deg (fun k => zs (sucOf st k)) [] np nf) (iv : InvM st A W deg [] np nf) (h1 : H' ra = some (.lst rvs)) (h2 : IntsAre rvs (zs A)) (h3 : H' wa = some (.lst wvs)) (h4 : IntsAre wvs (zs W)) (h5 : k ≤ A.length ∨ W = []) : IvB σ ra wa r b st H k m H'
theorem spec_row {Q : Value → Shared → Prop} (S : Sat Z C R m H s) (hrm : 6 < C.rm) (hh0 : C.A.handled = none) (hl : H l = some (.lst vs)) (hp : PairsAt H vs st) (h5 : ∀ p ∈ st, p.1 ∈ K5 ∧ p.2 ∈ K5) (hz : st.length ≤ 100)
    (hnl : H nl = some (.lst nvs)) (hni : IntsAre nvs ns) (hn5 : ns.length = 5)
    (h : ∀ tp ra row rvs b s' H', Ke H H' → H tp = none → H' tp = some (.tup [.ref ra, .bool b]) → H ra = none → H' ra = some (.lst rvs) → IntsAre rvs (zs row) → Full st row → b = decide (row.length < 5) → Sat Z C R m H' s' → Q (.ref tp) s') :
    wpAny Z.M C.A (call (.ref 174) [.ref l, .ref nl] []) Q E s := by
  refine W_enter S (by rfl) (by exact rm0 (by assumption) (Nat.le_of_ble_eq_true rfl)) (by rfl) (BindsTo.of_eq (binds := [("steps", .ref l), ("numbers", .ref nl)]) (by rfl)) fun C' s' hsc hcl hr hh ex S' => ?_
  clear S
  (with_reducible refine W_cons ?_; intro _ _)
  refine Assign_Tuple ?_
  with_reducible refine wpAny_Call_NameR ?_
  refine W_glob (v := .ref 167) S' hsc (by kernel_rfl) ?_
  refine W_callF ?_
  with_reducible refine spliced_more ?_ (by kernel_rfl)
  refine W_loc S' hsc (by rfl) ?_
  with_reducible refine spliced_none ?_
  refine ⟨S'.K, ?_⟩
  refine spec_sorter S' (by exact rmL (by assumption) (by assumption) (Nat.le_of_ble_eq_true rfl)) (hh.trans hh0) hl hp h5 hz fun tp0 σ r s H1 b k1 t1 t2 hft t3 hb1 hb2 g S => ?_
  clear S'
  refine W_pair S (hh.trans hh0) (TIn.of t2) fun s S => ?_
  with_reducible refine wpAny_assign_Name ?_
  refine W_store S hsc fun s S => ?_
  with_reducible refine wpAny_assign_Name ?_
  refine W_store S hsc fun s S => ?_
  (with_reducible refine Then.nx (by assumption) _ ?_; with_reducible refine W_cons ?_; intro _ _)
  with_reducible refine wpAny_Assign_Name ?_ (by kernel_rfl)
  with_reducible refine List_ ?_
  with_reducible refine spliced_none ?_
  refine W_newList S (fun ra s e1 _ S => ?_) (by simp)
  refine W_store S hsc fun s S => ?_
  have k2 := k1.trans (Ke.new (d := .lst []) e1)
  have g2 := g.ke (Ke.new (d := .lst []) e1)
  have hra := up_same (H := H1) (a := ra) (o := Mine.D.lst [])
  have fra : ∀ b, FootS σ r b → b ≠ ra := g.fresh e1
  have nra : H ra = none := k1.none e1
  clear g e1 t2
  generalize up H1 ra (.lst []) = H2 at S k2 g2 hra
  have iv0 := InvM.start st
  have iv := iv0.get
  have hr0 : ∀ i ∈ ready0 (degOf st), i ∈ K5 := fun i hi => (List.mem_filter.mp hi).1
  have hr5 : (ready0 (degOf st)).length ≤ 5 := List.length_filter_le _ _
  (with_reducible refine Then.nx (by assumption) _ ?_; with_reducible refine W_cons ?_; intro _ _)
  with_reducible refine wpAny_Assign_Name ?_ (by kernel_rfl)
  with_reducible refine wpAny_Call_NameR ?_
  refine W_blt (v := .type "list") S hsc (by kernel_rfl) ?_
  refine W_callT ?_
  with_reducible refine spliced_more ?_ (by kernel_rfl)
  with_reducible refine methodCall_KW ?_ (by with_unfolding_all rfl)
  refine W_loc S hsc (by rfl) ?_
  refine hide fun G hG => ?_
  obtain ⟨ax, t1', t2', n, hn, adx⟩ := g2.a
  refine hG ?_
  clear hG
  refine W_meth (Cl := 144) (f := 106) S ax adx (by rfl) ?_
  refine W_callF0 S ?_
  refine spec_getReady S (by exact rmL (by assumption) (by assumption) (Nat.le_of_ble_eq_true rfl)) (hh.trans hh0) g2 hr0 (by exact le1 (by assumption) (Nat.le_of_ble_eq_true rfl)) fun tp1 ws s H3 u1 kp3 u2 hwi g3 S => ?_
  have k3 : Ke H H3 := fun b d e => kp3 b d (fun q => by rw [hft b q] at e; cases e) (k2 b d e)
  have hra3 : H3 ra = some (.lst []) := kp3 _ _ (fun q => fra ra q rfl) hra
  clear ax adx hra g2 kp3
  with_reducible refine spliced_none ?_
  have hwl : ws.length = (ready0 (degOf st)).length := hwi.length.trans (zs_length _)
  refine W_listOf (vs := ws) S (TIn.of u2) (fun wa s w1 _ S => ?_) (by exact le2 (by assumption) (by assumption) (Nat.le_of_ble_eq_true rfl))
  refine W_store S hsc fun s S => ?_
  have k4 := k3.trans (Ke.new (d := .lst ws) w1)
  have g4 := g3.ke (Ke.new (d := .lst ws) w1)
  have hra4 := (Ke.new (d := .lst ws) w1) _ _ hra3
  have hwa := up_same (H := H3) (a := wa) (o := Mine.D.lst ws)
  have fwa : ∀ b, FootS σ r b → b ≠ wa := g3.fresh w1
  have hrw : ra ≠ wa := ne_of_n hra3 w1
  have nwa : H wa = none := k3.none w1
  clear g3 w1 u2 hra3 k3
  generalize up H3 wa (.lst ws) = H4 at S k4 g4 hra4 hwa
  have hnvl : nvs.length = 5 := hni.length.trans hn5
  (with_reducible refine Then.nx (by assumption) _ ?_; with_reducible refine W_cons ?_; intro _ _)
  (with_reducible refine wpAny_For ?_ (by intros; kernel_rfl))
  refine W_loc S hsc (by rfl) ?_
  refine W_iterL S (LIn.of (k4 _ _ hnl)) fun it o R₀ s f1 f2 f3 f4 S' => ?_
  refine W_for (itrL nl nvs) S' (hh.trans hh0) f1 f2 f3 f4 S.rg (IvB σ ra wa r b st H)
    (fun k m H' (.mk _ _ _ _ h ..) => .inl (h _ _ hnl)) ⟨by rfl, by rfl, by rfl, by rfl, k4, [], _, _, _, _, [], ws, g4, iv, hra4, .nil, hwa, by simpa using hwi, .inl (Nat.zero_le _)⟩ ?_ ?_
  · clear S S' iv iv0 g4 hra4 hwa k4 hwi hwl
    intro k v R' m H' s E' hk hv hR hPat10 S _ _
    refine hide fun G hG => ?_
    obtain ⟨m1, m2, m3, m4, ke, A, W, deg, np, nf, rvs, wvs, g, iv, hra, hri, hwa, hwi, hkW⟩ := hPat10
    refine hG ?_
    clear hG
    refine hide fun G hG => ?_
    obtain ⟨z, tz, rfl, hz1⟩ := hni.at k v hv
    refine hG ?_
    clear hG
    have hwl : wvs.length = W.length := hwi.length.trans (zs_length _)
    have hrl : rvs.length = A.length := hri.length.trans (zs_length _)
    have hAW : (A ++ W).length ≤ 5 := K5_len (by simpa using iv.nd) (fun x hx => iv.sub x (by simpa using hx))
    rw [List.length_append] at hAW
    with_reducible refine wpAny_assign_Name ?_
    refine W_store S hsc fun s S => ?_
    (with_reducible refine W_cons ?_; intro _ _)
    with_reducible refine wpAny_If ?_
    with_reducible refine wpAny_isTrue_Compare1 ?_ (by kernel_rfl)
    refine W_loc S hsc (by assumption) ?_
    with_reducible refine List_ ?_
    with_reducible refine spliced_none ?_
    refine W_newList S (fun em s e1 _ S => ?_) (by simp)
    refine W_neL (vs := wvs) (us := []) S (LIn.of (up_ne (ne_of_n hwa e1) hwa)) hwi (LIn.of up_same) .nil ?_
    with_reducible refine wpAny_truthy_bool ?_
    have ke1 : Ke H (up H' em (.lst [])) := ke.trans (Ke.new e1)
    have g1 := g.ke (Ke.new (d := .lst []) e1)
    have hra1 := (Ke.new (d := .lst []) e1) _ _ hra
    have hwa1 := (Ke.new (d := .lst []) e1) _ _ hwa
    clear hra hwa g ke e1
    generalize up H' em (.lst []) = H1' at S ke1 g1 hra1 hwa1
    by_cases hW : W = []
    · subst hW
      refine ifF (by simp [zs]) ?_
      (with_reducible refine wpAny_execs_nil ?_; with_reducible refine Then.nx (by assumption) _ ?_)
      (with_reducible refine wpAny_execs_nil ?_; with_reducible refine Turn.nx (by assumption) _ ?_)
      exact ⟨_, _, S, by assumption, by assumption, by assumption, by assumption, ke1, A, [], deg, np, nf, rvs, wvs, g1, iv, hra1, hri, hwa1, hwi, .inr rfl⟩
    · refine ifT (by simp [zs, hW]) ?_
      have hkA : k ≤ A.length := hkW.resolve_right hW
      have hWpos : 0 < W.length := List.length_pos_iff.mpr hW
      (with_reducible refine W_cons ?_; intro _ _)
      refine W_expr S ?_
      with_reducible refine methodCall_KW ?_ (by with_unfolding_all rfl)
      refine W_loc S hsc (by assumption) ?_
      refine W_lmeth S hra1 PySem.F.slot_list_append PySem.F.type_list_append ?_
      refine W_callB ?_
      (with_reducible refine spliced_more ?_ (by kernel_rfl); dsimp only)
      with_reducible refine methodCall_KW ?_ (by with_unfolding_all rfl)
      refine W_loc S hsc (by assumption) ?_
      refine W_lmeth S hwa1 PySem.F.slot_list_pop PySem.F.type_list_pop ?_
      refine W_callB ?_
      (with_reducible refine spliced_more ?_ (by kernel_rfl); dsimp only)
      with_reducible refine wpAny_BinOp ?_
      with_reducible refine wpAny_BinOp ?_
      refine W_loc S hsc (by rfl) ?_
      refine W_int S fun t4 s S => ?_
      refine W_div S (by decide) (by decide) fun t5 s S => ?_
      with_reducible refine wpAny_Call_NameR ?_
      refine W_blt (v := .builtin "len") S hsc (by kernel_rfl) ?_
      refine W_callB ?_
      with_reducible refine spliced_more ?_ (by kernel_rfl)
      refine W_loc S hsc (by assumption) ?_
      with_reducible refine spliced_none ?_
      refine W_len S (LIn.of hwa1) (fun t6 s S => ?_) (by lia)
      refine W_mod S (by lia) fun t7 s S => ?_
      with_reducible refine spliced_none ?_
      have hj0 : 0 ≤ Int.fmod (Int.fdiv z 4) (wvs.length : Nat) := Int.fmod_nonneg_of_pos _ (by lia)
      have hj1 : Int.fmod (Int.fdiv z 4) (wvs.length : Nat) < wvs.length := Int.fmod_lt_of_pos _ (by lia)
      generalize Int.fmod (Int.fdiv z 4) (wvs.length : Nat) = j at hj0 hj1 S
      have hjv : j.toNat < wvs.length := (Int.toNat_lt hj0).mpr hj1
      have hjW : j.toNat < W.length := hwl ▸ hjv
      refine hide fun G hG => ?_
      obtain ⟨x, hx⟩ : ∃ x, W[j.toNat]? = some x := ⟨W[j.toNat]'hjW, List.getElem?_eq_getElem _⟩
      refine hG ?_
      clear hG
      refine hide fun G hG => ?_
      obtain ⟨xv, hxv⟩ : ∃ v, wvs[j.toNat]? = some v := ⟨wvs[j.toNat]'hjv, List.getElem?_eq_getElem _⟩
      refine hG ?_
      clear hG
      refine hide fun G hG => ?_
      obtain ⟨x', tx, rfl, hx'⟩ := hwi.at _ _ hxv
      refine hG ?_
      clear hG
      refine hide fun G hG => ?_
      obtain rfl : x' = (x : Int) := by unfold zs at hx'; rw [List.getElem?_map, hx] at hx'; simpa using hx'.symm
      refine hG ?_
      clear hG
      have eW := split_at hx
      have ev := split_at hxv
      have hti : IntsAre (wvs.take j.toNat) (zs (W.take j.toNat)) := by unfold zs; rw [List.map_take]; exact hwi.take _
      have hdi : IntsAre (wvs.drop (j.toNat + 1)) (zs (W.drop (j.toNat + 1))) := by unfold zs; rw [List.map_drop]; exact hwi.drop _
      rw [eW] at iv
      rw [ev] at hwa1
      have hWl : (W.take j.toNat).length + (W.drop (j.toNat + 1)).length + 1 = W.length := by rw [List.length_take, List.length_drop, Nat.min_eq_left (Nat.le_of_lt hjW)]; exact mid1 hjW
      have hvl : (wvs.take j.toNat).length = j.toNat := by rw [List.length_take]; exact Nat.min_eq_left (Nat.le_of_lt hjv)
      have hvl2 : (wvs.drop (j.toNat + 1)).length + j.toNat + 1 = wvs.length := by rw [List.length_drop]; exact Nat.sub_add_cancel hjv
      generalize wvs.take j.toNat = wa1 at hti hwa1 hvl
      generalize wvs.drop (j.toNat + 1) = wa2 at hdi hwa1 hvl2
      generalize W.take j.toNat = W1 at hti iv hWl
      generalize W.drop (j.toNat + 1) = W2 at hdi iv hWl
      refine W_popAt (vs := wa1) (ws := wa2) S hwa1 (by lia) (fun s S => ?_) (by lia)
      with_reducible refine spliced_none ?_
      have hra2 : (up H1' wa (.lst (wa1 ++ wa2))) ra = some (.lst rvs) := up_ne hrw hra1
      refine W_append S hra2 (fun s S => ?_) (by lia)
      have ke2 := (ke1.up (d := .lst (wa1 ++ wa2)) nwa).up (d := .lst (rvs ++ [.int (x : Int) tx])) nra
      have g2 := (g1.off (d := .lst (wa1 ++ wa2)) fwa).off (d := .lst (rvs ++ [.int (x : Int) tx])) fra
      have hra3 := up_same (H := up H1' wa (.lst (wa1 ++ wa2))) (a := ra) (o := Mine.D.lst (rvs ++ [.int (x : Int) tx]))
      have hwa3 : (up (up H1' wa (.lst (wa1 ++ wa2))) ra (.lst (rvs ++ [.int (x : Int) tx]))) wa = some (.lst (wa1 ++ wa2)) := up_ne (Ne.symm hrw) up_same
      clear ke1 g1 hra1 hwa1 hra2
      generalize up (up H1' wa (.lst (wa1 ++ wa2))) ra (.lst (rvs ++ [.int (x : Int) tx])) = H2' at S ke2 g2 hra3 hwa3
      have hxK : x ∈ K5 := iv.sub x (by simp)
      have hdx : deg x = -1 := iv.dW x (by simp)
      (with_reducible refine Then.nx (by assumption) _ ?_; with_reducible refine W_cons ?_; intro _ _)
      refine W_expr S ?_
      with_reducible refine methodCall_KW ?_ (by with_unfolding_all rfl)
      refine W_loc S hsc (by assumption) ?_
      refine hide fun G hG => ?_
      obtain ⟨ax, t1', t2', n, hn, adx⟩ := g2.a
      refine hG ?_
      clear hG
      refine W_meth (Cl := 144) (f := 127) S ax adx (by rfl) ?_
      refine W_callF ?_
      (with_reducible refine spliced_more ?_ (by kernel_rfl); dsimp only)
      with_reducible refine Subscript_ ?_
      refine W_loc S hsc (by assumption) ?_
      refine UnaryOp_ ?_
      refine W_int S fun t8 s S => ?_
      refine PyProof.Rows.neg_int ?_
      replace S := S.tok (t := s.toks + 1)
      refine tail_any (S.isList (LIn.of hra3)).typeIs slot_list_getitem.lookup (W_getLast (vs := rvs) S (LIn.of hra3) ?_) (by with_unfolding_all rfl)
      (with_reducible refine spliced_none ?_; dsimp only)
      refine ⟨S.K, ?_⟩
      have hsn : ∀ k ∈ K5, ∀ j ∈ sucOf st k, j ∈ K5 := fun k _ j hj => by
        unfold sucOf at hj
        obtain ⟨p, hp1, rfl⟩ := List.mem_map.mp hj
        exact (h5 p (List.mem_filter.mp hp1).1).2
      have hsl := sucOf_len st x
      refine spec_done (sn := sucOf st) S (by exact rmL (by assumption) (by assumption) (Nat.le_of_ble_eq_true rfl)) (hh.trans hh0) g2 hxK hdx hsn (by simp; exact le4 (by assumption) (by assumption) (Nat.le_of_ble_eq_true rfl)) fun s H3' kp3 g3 S => ?_
      have iv3 := iv.fin (fun p hp => (h5 p hp).2)
      have ke3 : Ke H H3' := fun b d e => kp3 b d (fun q => by rw [hft b q] at e; cases e) (ke2 b d e)
      have hra4 := kp3 _ _ (fun q => fra ra q rfl) hra3
      have hwa4 := kp3 _ _ (fun q => fwa wa q rfl) hwa3
      clear ke2 g2 hra3 hwa3 kp3 ax adx iv
      generalize (sucOf st x).foldl doneStep (fun k => if k = x then -2 else deg k, []) = P at g3 iv3
      have hrl3 : ∀ i ∈ P.2, i ∈ K5 := fun i hi => iv3.sub i (by simp [hi])
      have hP5 : P.2.length ≤ 5 := K5_len (by have := iv3.nd; rw [List.nodup_append] at this; exact this.2.1) hrl3
      (with_reducible refine Then.nx (by assumption) _ ?_; with_reducible refine W_cons ?_; intro _ _)
      refine W_expr S ?_
      with_reducible refine methodCall_KW ?_ (by with_unfolding_all rfl)
      refine W_loc S hsc (by assumption) ?_
      refine W_lmeth S hwa4 PySem.F.slot_list_extend PySem.F.type_list_extend ?_
      refine W_callB ?_
      (with_reducible refine spliced_more ?_ (by kernel_rfl); dsimp only)
      with_reducible refine methodCall_KW ?_ (by with_unfolding_all rfl)
      refine W_loc S hsc (by assumption) ?_
      refine hide fun G hG => ?_
      obtain ⟨ax, t1'', t2'', n', hn', adx⟩ := g3.a
      refine hG ?_
      clear hG
      refine W_meth (Cl := 144) (f := 106) S ax adx (by rfl) ?_
      refine W_callF0 S ?_
      refine spec_getReady S (by exact rmL (by assumption) (by assumption) (Nat.le_of_ble_eq_true rfl)) (hh.trans hh0) g3 hrl3 (by exact le1 (by assumption) (Nat.le_of_ble_eq_true rfl)) fun tp1 ws s H4' u1 kp4 u2 hwi4 g4 S => ?_
      have ke4 : Ke H H4' := fun b d e => kp4 b d (fun q => by rw [hft b q] at e; cases e) (ke3 b d e)
      have hra5 := kp4 _ _ (fun q => fra ra q rfl) hra4
      have hwa5 := kp4 _ _ (fun q => fwa wa q rfl) hwa4
      have iv4 := iv3.get
      have hwsl : ws.length = P.2.length := hwi4.length.trans (zs_length _)
      with_reducible refine spliced_none ?_
      refine W_extendT S hwa5 u2 (fun s S => ?_) (by simp; lia)
      (with_reducible refine Then.nx (by assumption) _ ?_; with_reducible refine wpAny_execs_nil ?_; with_reducible refine Then.nx (by assumption) _ ?_)
      (with_reducible refine wpAny_execs_nil ?_; with_reducible refine Turn.nx (by assumption) _ ?_)
      refine ⟨_, _, S, by assumption, by assumption, by assumption, by assumption, ke4.up nwa, A ++ [x], W1 ++ W2 ++ P.2, _, _, _, _, _, g4.off fwa, iv4, up_ne hrw hra5, ?_, up_same, ?_, .inl (by simp; assumption)⟩
      · rw [zs_append]; exact hri.append (.cons _ _ .nil)
      · rw [zs_append, zs_append]; exact (hti.append hdi).append hwi4
  · clear S S' iv iv0 g4 hra4 hwa k4 hwi hwl
    rintro m H' s S ⟨m1, m2, m3, m4, ke, A, W, deg, np, nf, rvs, wvs, g, iv, hra, hri, hwa, hwi, hkW⟩
    obtain rfl : W = [] := by
      rcases hkW with q | q
      · have := K5_len (l := A ++ W) (by simpa using iv.nd) (fun x hx => iv.sub x (by simpa using hx))
        rw [List.length_append] at this
        exact List.length_eq_zero_iff.mp (by lia)
      · exact q
    dsimp only
    (with_reducible refine Then.nx (by assumption) _ ?_; with_reducible refine W_cons ?_; intro _ _)
    with_reducible refine wpAny_Return_some ?_
    with_reducible refine Tuple_ ?_
    with_reducible refine spliced_more ?_ (by kernel_rfl)
    refine W_loc S hsc m2 ?_
    with_reducible refine spliced_more ?_ (by kernel_rfl)
    refine W_loc S hsc m4 ?_
    with_reducible refine spliced_none ?_
    refine W_newTuple S (fun tp s q1 q2 S => ?_) (by simp)
    with_reducible refine Then.ret (by assumption) _ _ ?_
    exact h tp ra A rvs b _ _ (ke.trans (Ke.new q1)) (ke.none q1) up_same nra ((Ke.new q1) _ _ hra) hri iv.full (iv.full.refuse (fun p hp => (h5 p hp).1) hb1 hb2) (ex _ _ _ S)
end

section
variable {Z : Zs} {C : Cx} {R : Rp} {m m' : Loc} {H : Hp} {s : Shared} {E : Value → Shared → Prop} {r l ra : Addr} {vs rvs : List Value} {st : List (Nat × Nat)} {row : List Nat}
inductive IvC (σ : Srt) (r : Addr) (st : List (Nat × Nat)) (row : List Nat) (H : Hp) (k : Nat) (m : Loc) (H' : Hp) : Prop
  | mk (m1 : m "sorter" = some (.ref σ.x)) (ke : Ke H H') (W : List Nat) (deg : Nat → Int) (rl : List Nat) (np nf : Int) (g : Sorter H' σ r deg (fun k => zs (sucOf st k)) rl np nf) (iv : InvM st (row.take k) W deg rl np nf) : IvC σ r st row H k m H'
theorem spec_goes {Q : Value → Shared → Prop} (S : Sat Z C R m H s) (hrm : 6 < C.rm) (hh0 : C.A.handled = none) (hl : H l = some (.lst vs)) (hp : PairsAt H vs st) (h5 : ∀ p ∈ st, p.1 ∈ K5 ∧ p.2 ∈ K5) (hz : st.length ≤ 100)
    (hra : H ra = some (.lst rvs)) (hri : IntsAre rvs (zs row)) (hnd : row.Nodup) (hsub : ∀ x ∈ row, x ∈ K5) (hmx : ∀ i ∈ K5, i ∉ row → ∃ p ∈ st, p.2 = i ∧ p.1 ∉ row)
    (h : ∀ b s' H', Ke H H' → (b = true ↔ Valid st row) → Sat Z C R m H' s' → Q (.bool b) s') :
    wpAny Z.M C.A (call (.ref 181) [.ref l, .ref ra] []) Q E s := by
  refine W_enterF S (by rfl) (by exact rm0 (by assumption) (Nat.le_of_ble_eq_true rfl)) (by rfl) (BindsTo.of_eq (binds := [("steps", .ref l), ("row", .ref ra)]) (by rfl)) fun C' s' hsc hcl hr hh hfst hfr ex S' => ?_
  have hG := S.rg
  clear S
  (with_reducible refine W_cons ?_; intro _ _)
  refine Assign_Tuple ?_
  with_reducible refine wpAny_Call_NameR ?_
  refine W_glob (v := .ref 167) S' hsc (by kernel_rfl) ?_
  refine W_callF ?_
  with_reducible refine spliced_more ?_ (by kernel_rfl)
  refine W_loc S' hsc (by rfl) ?_
  with_reducible refine spliced_none ?_
  refine ⟨S'.K, ?_⟩
  refine spec_sorter S' (by exact rmL (by assumption) (by assumption) (Nat.le_of_ble_eq_true rfl)) (hh.trans hh0) hl hp h5 hz fun tp0 σ r s H1 b k1 t1 t2 hft t3 hb1 hb2 g S => ?_
  clear S' hb1 hb2
  refine W_pair S (hh.trans hh0) (TIn.of t2) fun s S => ?_
  with_reducible refine wpAny_assign_Name ?_
  refine W_store S hsc fun s S => ?_
  with_reducible refine wpAny_assign_Name ?_
  refine W_store S hsc fun s S => ?_
  have hrl : rvs.length = row.length := hri.length.trans (zs_length _)
  have hr5 : row.length ≤ 5 := K5_len hnd hsub
  (with_reducible refine Then.nx (by assumption) _ ?_; with_reducible refine W_cons ?_; intro _ _)
  (with_reducible refine wpAny_For ?_ (by intros; kernel_rfl))
  refine W_loc S hsc (by rfl) ?_
  refine W_iterL S (LIn.of (k1 _ _ hra)) fun it o R₀ s f1 f2 f3 f4 S' => ?_
  refine W_for (itrL ra rvs) S' (hh.trans hh0) f1 f2 f3 f4 S.rg (IvC σ r st row H)
    (fun k m H' (.mk _ h ..) => .inl (h _ _ hra)) ⟨by rfl, k1, [], _, _, _, _, g, InvM.start st⟩ ?_ ?_
  · clear S S' g
    intro k v R' m H' s E' hk hv hR hPat10 S _ _
    refine hide fun G hG => ?_
    obtain ⟨m1, ke, W, deg, rl, np, nf, g, iv⟩ := hPat10
    refine hG ?_
    clear hG
    refine hide fun G hG => ?_
    obtain ⟨x, hx⟩ : ∃ x, row[k]? = some x := ⟨row[k]'(by exact lt1 (by assumption) (by assumption)), List.getElem?_eq_getElem _⟩
    refine hG ?_
    clear hG
    refine hide fun G hG => ?_
    obtain ⟨x', tx, rfl, hx'⟩ := hri.at k v hv
    refine hG ?_
    clear hG
    refine hide fun G hG => ?_
    obtain rfl : x' = (x : Int) := by unfold zs at hx'; rw [List.getElem?_map, hx] at hx'; simpa using hx'.symm
    refine hG ?_
    clear hG
    have hxK : x ∈ K5 := hsub x (List.mem_of_getElem? hx)
    have hx5 : x < 5 := by unfold K5 at hxK; simp at hxK; lia
    have hrs := split_at hx
    have hxA : x ∉ row.take k := fun q => by
      rw [hrs, List.nodup_append] at hnd
      exact hnd.2.2 x q x (by simp) rfl
    have hrl3 : ∀ i ∈ rl, i ∈ K5 := fun i hi => iv.sub i (by simp [hi])
    have hP5 : rl.length ≤ 5 := K5_len (by have := iv.nd; rw [List.nodup_append] at this; exact this.2.1) hrl3
    with_reducible refine wpAny_assign_Name ?_
    refine W_store S hsc fun s S => ?_
    refine wpAny_noRaise ?_
    (with_reducible refine W_cons ?_; intro _ _)
    refine W_expr S ?_
    with_reducible refine methodCall_KW ?_ (by with_unfolding_all rfl)
    refine W_loc S hsc (by assumption) ?_
    refine hide fun G hG => ?_
    obtain ⟨ax, t1', t2', n, hn, adx⟩ := g.a
    refine hG ?_
    clear hG
    refine W_meth (Cl := 144) (f := 106) S ax adx (by rfl) ?_
    refine W_callF0 S ?_
    refine spec_getReady S (by exact rmL (by assumption) (by assumption) (Nat.le_of_ble_eq_true rfl)) (hh.trans hh0) g hrl3 (by exact le1 (by assumption) (Nat.le_of_ble_eq_true rfl)) fun tp1 ws s H2 u1 kp2 u2 hwi g2 S => ?_
    have ke2 : Ke H H2 := fun b d e => kp2 b d (fun q => by rw [hft b q] at e; cases e) (ke b d e)
    have iv2 := iv.get
    clear iv g ax adx ke kp2
    generalize W ++ rl = W' at iv2
    generalize (fun k => if k ∈ rl then -1 else deg k) = deg2 at iv2 g2
    (with_reducible refine Then.nx (by assumption) _ ?_; with_reducible refine W_cons ?_; intro _ _)
    refine wpAny_Try_except ?_
    (with_reducible refine W_cons ?_; intro _ _)
    refine W_expr S ?_
    with_reducible refine methodCall_KW ?_ (by with_unfolding_all rfl)
    refine W_loc S hsc (by assumption) ?_
    refine hide fun G hG => ?_
    obtain ⟨ax, t1', t2', n, hn, adx⟩ := g2.a
    refine hG ?_
    clear hG
    refine W_meth (Cl := 144) (f := 127) S ax adx (by rfl) ?_
    refine W_callF ?_
    (with_reducible refine spliced_more ?_ (by kernel_rfl); dsimp only)
    refine W_loc S hsc (by rfl) ?_
    with_reducible refine spliced_none ?_
    refine ⟨S.K, ?_⟩
    by_cases hok : ∀ p ∈ st, p.2 = x → p.1 ∈ row.take k
    · have hxW : x ∈ W' := by
        by_cases q : x ∈ W'
        · exact q
        · have := (iv2.rdy x hxK).mpr ⟨hxA, q, cnt_zero.mpr hok⟩
          simp at this
      have hsn : ∀ k ∈ K5, ∀ j ∈ sucOf st k, j ∈ K5 := fun k _ j hj => by
        unfold sucOf at hj
        obtain ⟨p, hp1, rfl⟩ := List.mem_map.mp hj
        exact (h5 p (List.mem_filter.mp hp1).1).2
      have hsl := sucOf_len st x
      obtain ⟨W1, W2, rfl⟩ := List.append_of_mem hxW
      refine spec_done (sn := sucOf st) S (by exact rmL (by assumption) (by assumption) (Nat.le_of_ble_eq_true rfl)) (hh.trans hh0) g2 hxK (iv2.dW x (by simp)) hsn (by simp; exact le4 (by assumption) (by assumption) (Nat.le_of_ble_eq_true rfl)) fun s H3 kp3 g3 S => ?_
      have iv3 := iv2.fin (fun p hp => (h5 p hp).2)
      (with_reducible refine Then.nx (by assumption) _ ?_; with_reducible refine wpAny_execs_nil ?_; dsimp only)
      (with_reducible refine wpAny_execs_nil ?_; with_reducible refine Then.nx (by assumption) _ ?_)
      (with_reducible refine wpAny_execs_nil ?_; with_reducible refine Turn.nx (by assumption) _ ?_)
      refine ⟨_, _, S, by assumption, fun b d e => kp3 b d (fun q => by rw [hft b q] at e; cases e) (ke2 b d e), W1 ++ W2, _, _, _, _, g3, ?_⟩
      rw [take_snoc hx]
      exact iv3
    · have hxW : x ∉ W' := fun q => hok (iv2.cl x q)
      have hdeg := iv2.dO x hxK hxA hxW
      refine spec_doneBad S (by exact rmL (by assumption) (by assumption) (Nat.le_of_ble_eq_true rfl)) (hh.trans hh0) g2 hxK hx5 (by lia) fun e s Fl => ?_
      refine W_fly Fl hfst hfr fun s Fl => ?_
      refine W_handle (T := "ValueError") Fl hsc (by kernel_rfl) (by rw [isSubtype_type]; kernel_rfl) (by rw [isSubtype_type]; kernel_rfl) (by rw [isSubtype_type]; kernel_rfl) fun s S => ?_
      (with_reducible refine W_cons ?_; intro _ _)
      with_reducible refine wpAny_Return_some ?_
      (with_reducible refine wpAny_Constant_bool ?_; with_reducible refine Then.ret (by assumption) _ _ ?_; with_reducible refine Then.ret (by assumption) _ _ ?_; with_reducible refine Turn.ret (by assumption) _ _ ?_; dsimp only; with_reducible refine Then.ret (by assumption) _ _ ?_)
      refine h false _ _ ke2 ?_ (ex _ _ _ (S.unmark.weak hR hG))
      simp only [Bool.false_eq_true, false_iff]
      exact fun hv => hok (hv _ _ _ hrs)
  · clear S S' g
    rintro m H' s S ⟨m1, ke, W, deg, rl, np, nf, g, iv⟩
    rw [List.take_of_length_le (by lia)] at iv
    have hW : W = [] := by
      cases W with
      | nil => rfl
      | cons i W =>
        have hiK : i ∈ K5 := iv.sub i (by simp)
        have hir : i ∉ row := fun q => by
          have := iv.nd
          rw [List.append_assoc, List.nodup_append] at this
          exact this.2.2 i q i (by simp) rfl
        obtain ⟨p, hp1, hp2, hp3⟩ := hmx i hiK hir
        exact absurd (iv.cl i (by simp) p hp1 hp2) hp3
    have hrl0 : rl = [] := by
      cases rl with
      | nil => rfl
      | cons i rl =>
        have hiK : i ∈ K5 := iv.sub i (by simp)
        have := (iv.rdy i hiK).mp (by simp)
        obtain ⟨p, hp1, hp2, hp3⟩ := hmx i hiK this.1
        exact absurd (cnt_zero.mp this.2.2 p hp1 hp2) hp3
    subst hW hrl0
    have hpf := iv.hp
    have hff := iv.hf
    dsimp only
    (with_reducible refine Then.nx (by assumption) _ ?_; with_reducible refine W_cons ?_; intro _ _)
    with_reducible refine wpAny_Return_some ?_
    refine UnaryOp_ ?_
    with_reducible refine methodCall_KW ?_ (by with_unfolding_all rfl)
    refine W_loc S hsc m1 ?_
    refine hide fun G hG => ?_
    obtain ⟨ax, t1', t2', n, hn, adx⟩ := g.a
    refine hG ?_
    clear hG
    refine W_meth (Cl := 144) (f := 113) S ax adx (by rfl) ?_
    refine W_callF0 S ?_
    refine spec_isActive S (by exact rmL (by assumption) (by assumption) (Nat.le_of_ble_eq_true rfl)) g (by simp) fun s S => ?_
    have e : (decide (nf < np) || !([] : List Nat).isEmpty) = false := by simp; simp at hpf; lia
    rw [e]
    refine not_of ?_
    (with_reducible refine wpAny_truthy_bool ?_; with_reducible refine Then.ret (by assumption) _ _ ?_)
    exact h true _ _ ke (by simp [iv.v]) (ex _ _ _ S)
end

/-- what the making of a lambda reads -/
structure Zs.Ok2 (Z : Zs) : Prop where
  code : CodeHd Z.G 187 183
  bm : ∃ bm ob, Z.mg "__builtins__" = some (.ref bm) ∧ bm ≠ builtinsNs ∧ Z.G.get? bm = some ob ∧ ob.cls = .type "module" ∧ ob.dict = some builtinsNs ∧ ob.data = .plain
noncomputable def cellsH (cs : List (Str × Addr)) (cm : Loc) (H : Hp) : Hp := cs.foldr (fun p H => up H p.2 (.cell (cm p.1))) H
section
variable {Z : Zs} {C : Cx} {R : Rp} {m m' : Loc} {H : Hp} {s : Shared} {E : Value → Shared → Prop}

/-- an object is named that was there -/
theorem Sat.learn {a : Addr} {o : Obj} {d : D} (S : Sat Z C R m H s) (ho : s.heap.get? a = some o) (hd : d.holds Z.w o) (hR : R a = none) (hL : a ≠ C.env.locals) (hF : ∀ p ∈ C.frs, p.1 ≠ a) : Sat Z C R m (up H a d) s :=
  { S with
    own := fun b db e => by
      by_cases q : b = a
      · subst q; rw [up_same] at e; cases e; exact ⟨o, ho, hd⟩
      · rw [up_other q] at e; exact S.own b db e
    dR := fun b db e => by
      by_cases q : b = a
      · subst q; exact hR
      · rw [up_other q] at e; exact S.dR b db e
    dL := fun b db e => by
      by_cases q : b = a
      · subst q; exact hL
      · rw [up_other q] at e; exact S.dL b db e
    dF := fun b db e => by
      by_cases q : b = a
      · subst q; exact hF
      · rw [up_other q] at e; exact S.dF b db e }
theorem Sat.learnCells {cm : Loc} : ∀ (cs : List (Str × Addr)), Sat Z C R m H s → (∀ p ∈ cs, s.heap.IsCell p.2 (cm p.1)) → (∀ p ∈ cs, R p.2 = none ∧ p.2 ≠ C.env.locals ∧ ∀ q ∈ C.frs, q.1 ≠ p.2) → Sat Z C R m (cellsH cs cm H) s
  | [], S, _, _ => S
  | p :: cs, S, h1, h2 => by
    have S1 := Sat.learnCells cs S (fun q hq => h1 q (.tail _ hq)) (fun q hq => h2 q (.tail _ hq))
    obtain ⟨o, ho, hd⟩ := h1 p (.head _)
    obtain ⟨a, b, c⟩ := h2 p (.head _)
    exact S1.learn ho hd a b c

/-- a def with cells is entered -/
theorem W_enterC {Q : Value → Shared → Prop} {f : Addr} {fd : FuncData} {body : List Stmt} {pos : List Value} {binds : List (Str × Value)} {oc : Value} {od : Option Addr} {osl : Array (Option Value)}
    (S : Sat Z C R m H s) (ho : (Kw Z.w).lookup f = some ⟨oc, od, .func fd, osl⟩) (hrm : 0 < C.rm) (hb : fd.body = .stmts body) (hbind : bindArgs fd ⟨pos, []⟩ = pure binds) (hclo : fd.closure = [])
    (hkind : ∀ n, ∀ x ∈ binds, fd.scope.names.lookup x.1 = some .local ∨ (fd.scope.names.lookup x.1 = some .cell ∧ ((cellsFrom n fd.scope.names []).lookup x.1).isSome = true))
    (hcs : ∀ n, ∀ p ∈ cellsFrom n fd.scope.names [], (cellsFrom n fd.scope.names []).lookup p.1 = some p.2)
    (h : ∀ C' n s', C'.env.scope = fd.scope → C'.env.cells = cellsFrom n fd.scope.names [] → C'.rm + 1 = C.rm → C'.A.handled = C.A.handled → C'.env.qual = fd.qualname ++ ".<locals>." → C'.env.code = fd.code → (∀ p ∈ cellsFrom n fd.scope.names [], H p.2 = none ∧ R p.2 = none) →
      (∀ m'' H'' s'', Sat Z C' R m'' H'' s'' → Sat Z C R m H'' s'') → Sat Z C' R (bindL (fun y => fd.scope.names.lookup y) binds fun _ => none) (cellsH (cellsFrom n fd.scope.names []) (bindC (fun y => fd.scope.names.lookup y) binds fun _ => none) H) s' →
      wpAny Z.M C'.A (execs body C'.env) (fun fl s'' => Q (retv fl) s'') (fun _ _ => False) s')
    (hcd : autoParam (codeIn (Kw Z.w) fd.code fd.qualname = true) kr) (hg : autoParam (fd.globals = mainGlobals) kr) (hbn : autoParam (fd.builtins = builtinsNs) kr)
    (hco : autoParam (fd.scope.isCoroutine = false) kr) (hgen : autoParam (fd.scope.isGenerator = false) kr) (hk : autoParam (fd.scope.kind = .function) kr) :
    wpAny Z.M C.A (call (.ref f) pos []) Q E s := by
  have cd := S.c.depth
  refine wpAny_call (codeAny_call_cells (fd := fd) (body := body) (binds := binds) (by have : recursionLimit = 1000 := rfl; lia) (S.K _ _ ho) rfl (S.z.nolimit.keeps S.G) (codeRec_of S.K hcd) hb hbind hclo (hkind _) (fun s₁ x => ?_) hco hgen hk)
  refine hide fun G hG => ?_
  obtain ⟨h₁, tk, rfl⟩ := x.toInCall.same
  refine hG ?_
  clear hG
  have S' := S.sub (t := tk) (env := callEnvC fd s.heap.objs.size f) (C.A.deeper (callEnvC fd s.heap.objs.size f)) hrm rfl rfl rfl hk hg hbn (by show C.A.frames.map _ = _; rw [S.c.frames]; rfl) (by show C.A.depth + 1 ≤ _; lia) (by show C.A.units + 3 ≤ _; lia) x.toInCall.ns x.toInCall.keep
  have fresh : ∀ p ∈ cellsFrom (s.heap.objs.size + 1) fd.scope.names [], s.heap.get? p.2 = none := fun p hp => by
    cases q : s.heap.get? p.2 with
    | none => rfl
    | some o => exact absurd (Heap.lt_size q) (Nat.not_lt_of_le (Nat.le_of_lt (x.above p.1 p.2 hp)))
  have S'' := Sat.learnCells (cm := bindC (fun y => fd.scope.names.lookup y) binds fun _ => none) (cellsFrom (s.heap.objs.size + 1) fd.scope.names []) S' (fun p hp => x.cell p.1 p.2 (hcs _ p hp)) (fun p hp => ⟨(S.freshAt (fresh p hp)).2, Nat.ne_of_gt (x.above p.1 p.2 hp), fun q hq => by
    have hl : q.1 < s.heap.objs.size := by
      rcases List.mem_cons.mp hq with rfl | hq
      · exact S.ns.lt
      · exact (S.outs q hq).lt
    exact Nat.ne_of_lt (Nat.lt_trans hl (x.above p.1 p.2 hp))⟩)
  refine wpAny_mono (h { A := C.A.deeper (callEnvC fd s.heap.objs.size f), env := callEnvC fd s.heap.objs.size f, frs := (C.env.locals, m) :: C.frs, fst := callEnvC fd s.heap.objs.size f :: C.fst, rm := C.rm - 1 } _ _ rfl rfl (by show C.rm - 1 + 1 = C.rm; exact Nat.sub_add_cancel (by assumption)) rfl rfl rfl (fun p hp => S.freshAt (fresh p hp)) (fun m'' H'' s'' S'' => S.exit rfl S'') S'') (fun fl s'' hl => ?_) (fun e s'' he => he.elim)
  cases fl <;> exact hl

/-- the table of the lambda's code -/
noncomputable def Tab (pos : Pos) (q : Str) (H : Hp) : Prop := ∃ ps, H 183 = some (.ob (tabObj ps)) ∧ (ps = #[] ∨ ∃ c' oc vs t, ps = #[rawInt pos.line, rawInt pos.col, .ref c'] ∧ H c' = some (.ob oc) ∧ oc.data = .fields vs ∧ vs[1]? = some (.str q t))
theorem Tab.ke {pos : Pos} {q : Str} {H H' : Hp} (h : Tab pos q H) (k : Ke H H') : Tab pos q H' := by
  obtain ⟨ps, h1, h2⟩ := h
  refine ⟨ps, k _ _ h1, ?_⟩
  rcases h2 with rfl | ⟨c', oc, vs, t, rfl, h3, h4, h5⟩
  · exact .inl rfl
  · exact .inr ⟨c', oc, vs, t, rfl, k _ _ h3, h4, h5⟩
/-- a lambda's object -/
inductive Lam (H : Hp) (f : Addr) (q : Str) (params : Arguments) (body : Expr) (scope : Scope) (cl : List (Str × Addr)) : Prop
  | mk (pm : Value) (c' : Addr) (ctv : Value) (oc : Obj) (vs : Array Value) (t : Tok) (h1 : H f = some (.ob (kla_obj "<lambda>" q params body scope cl pm c' ctv))) (h2 : H c' = some (.ob oc)) (h3 : oc.data = .fields vs) (h4 : vs[1]? = some (.str q t)) : Lam H f q params body scope cl
theorem Lam.ke {f : Addr} {q : Str} {params : Arguments} {body : Expr} {scope : Scope} {cl : List (Str × Addr)} {H H' : Hp} (h : Lam H f q params body scope cl) (k : Ke H H') : Lam H' f q params body scope cl := by
  obtain ⟨pm, c', ctv, oc, vs, t, h1, h2, h3, h4⟩ := h
  exact ⟨pm, c', ctv, oc, vs, t, k _ _ h1, k _ _ h2, h3, h4⟩

theorem W_lambda {Q : Value → Shared → Prop} {params : Arguments} {body : Expr} {scope : Scope} {cl : List (Str × Addr)} {pos : Pos} {q : Str} (S : Sat Z C R m H s) (o2 : Z.Ok2) (T : Tab pos q H) (hq : C.env.qual ++ "<lambda>" = q) (hcode : C.env.code = .ref 187) (hcl : closureFor scope C.env = pure cl)
    (h : ∀ f s' H', H f = none → Kp (fun b => b = 183) H H' → Tab pos q H' → Lam H' f q params body scope cl → Sat Z C R m H' s' → Q (.ref f) s')
    (hdef : autoParam (defaultsOf params C.env = ([], [])) kq) : wpAny Z.M C.A (eval (.Lambda params body scope pos) C.env) Q E s := by
  refine kla_eval hdef ?_
  rw [hq]
  refine hide fun G hG => ?_
  obtain ⟨ps, hP, hps⟩ := T
  obtain ⟨oP, hoP, rfl⟩ := S.own _ _ hP
  refine hG ?_
  clear hG
  have nG : Z.G.get? 183 = none := by
    cases z : Z.G.get? 183 with
    | none => rfl
    | some o => have := S.rg _ _ z; rw [S.dR _ _ hP] at this; cases this
  have hgs := S.z.g.keeps S.G
  refine hide fun G hG => ?_
  obtain ⟨bm, ob, b1, b2, b3, b4, b5, b6⟩ := o2.bm
  refine hG ?_
  clear hG
  have hgP : mainGlobals ≠ 183 := by decide
  have hbP : bm ≠ 183 := fun z => by rw [z, nG] at b3; cases b3
  have hbG : bm ≠ mainGlobals := fun z => by
    obtain ⟨o, es, ep, e, hd, _⟩ := S.z.g
    rw [z, e] at b3; cases b3; rw [hd] at b6; cases b6
  have BA : s.heap.BuiltinsAt Z.mg 183 := ⟨bm, ob, b1, b2, hbG, hbP, S.G _ _ b3, b4, b5, b6⟩
  rcases hps with rfl | ⟨c', oc, vs, t, rfl, hc, hd, hv⟩
  · refine kla_makeFunction (mg := Z.mg) hcl S.c.glob hgs hcode (o2.code.keeps S.G) hoP trivial rfl hgP BA fun c' ctv h' tk hx hge hlt hrec htb => ?_
    refine hide fun G hG => ?_
    obtain ⟨c₂, oc, vs, t, e2, hoc, hd, hv⟩ := hrec
    refine hG ?_
    clear hG
    cases e2
    have hc0 : s.heap.get? c' = none := by
      cases z : s.heap.get? c' with
      | none => rfl
      | some o => exact absurd (Heap.lt_size z) (Nat.not_lt_of_le hge)
    have S1 := S.updE (t := tk) (d' := .ob (tabObj (#[] ++ #[rawInt pos.line, rawInt pos.col, .ref c']))) hP (S.ns.extBut hx (Ne.symm (S.dL _ _ hP))) (fun b o hb _ e => hx b o hb e) ⟨_, htb, rfl⟩
    have fc := S.freshAt hc0
    have hcL : c' ≠ C.env.locals := fun z => by have := S.ns.lt; rw [← z] at this; exact absurd this (Nat.not_lt_of_le hge)
    have hcF : ∀ p ∈ C.frs, p.1 ≠ c' := fun p hp z => by have := (S.outs p hp).lt; rw [z] at this; exact absurd this (Nat.not_lt_of_le hge)
    have S2 := S1.learn (d := .ob oc) hoc rfl fc.2 hcL hcF
    have S3 := S2.new (t := tk) (d := .ob (kla_obj "<lambda>" q params body scope cl ((Z.mg "__name__").getD .none) c' ctv)) (h' := h'.push (kla_obj "<lambda>" q params body scope cl ((Z.mg "__name__").getD .none) c' ctv)) (fun b o e => Heap.get?_push_of_some _ e) ⟨_, Heap.get?_push_size _ rfl, rfl⟩
    have ff := S2.fresh
    dsimp only at ff S3
    have n1 : h'.objs.size ≠ c' := Nat.ne_of_gt hlt
    have n2 : c' ≠ 183 := fun z => by rw [z, hP] at fc; cases fc.1
    have n3 : h'.objs.size ≠ 183 := fun z => by rw [z, up_other (Ne.symm n2), up_same] at ff; cases ff.1
    have nf : H h'.objs.size = none := by have := ff.1; rw [up_other n1, up_other n3] at this; exact this
    refine h _ _ _ nf (fun b d n e => ?_) ⟨_, ?_, .inr ⟨c', oc, vs, t, rfl, ?_, hd, hv⟩⟩ ⟨_, c', ctv, oc, vs, t, up_same, ?_, hd, hv⟩ S3
    · exact up_ne (ne_of_n e nf) (up_ne (ne_of_n e fc.1) (up_ne n e))
    · rw [up_other (Ne.symm n3), up_other (Ne.symm n2), up_same]; rfl
    · exact up_ne (Ne.symm n1) up_same
    · exact up_ne (Ne.symm n1) up_same
  · refine kla_makeFunctionHit (mg := Z.mg) (cv := .ref c') hcl S.c.glob hgs hcode (o2.code.keeps S.G) hoP trivial ?_ BA fun ctv h' tk hk hsz => ?_
    · simp [codeAmong, rawInt]
    have S1 := S.grow (t := tk) hk
    have S3 := S1.new (t := tk) (d := .ob (kla_obj "<lambda>" q params body scope cl ((Z.mg "__name__").getD .none) c' ctv)) (h' := h'.push (kla_obj "<lambda>" q params body scope cl ((Z.mg "__name__").getD .none) c' ctv)) (fun b o e => Heap.get?_push_of_some _ e) ⟨_, Heap.get?_push_size _ rfl, rfl⟩
    have ff := S1.fresh
    dsimp only at ff S3
    have k := Ke.new (d := .ob (kla_obj "<lambda>" q params body scope cl ((Z.mg "__name__").getD .none) c' ctv)) ff.1
    exact h _ _ _ ff.1 k.kp ⟨_, k _ _ hP, .inr ⟨c', oc, vs, t, rfl, k _ _ hc, hd, hv⟩⟩ ⟨_, c', ctv, oc, vs, t, up_same, k _ _ hc, hd, hv⟩ S3

/-- a lambda is called -/
theorem W_enterL {Q : Value → Shared → Prop} {f : Addr} {q : Str} {params : Arguments} {body : Expr} {scope : Scope} {cl : List (Str × Addr)} {pos : List Value} {binds : List (Str × Value)} (S : Sat Z C R m H s) (hf : Lam H f q params body scope cl) (hrm : 0 < C.rm)
    (hbind : ∀ pm c' ctv, bindArgs (kla_fn "<lambda>" q params body scope cl pm (.ref c') ctv) ⟨pos, []⟩ = pure binds)
    (h : ∀ C' s', C'.env.scope = scope → C'.env.cells = cl → C'.rm + 1 = C.rm → C'.A.handled = C.A.handled → (∀ m'' H'' s'', Sat Z C' R m'' H'' s'' → Sat Z C R m H'' s'') → Sat Z C' R (fun y => binds.reverse.lookup y) H s' →
      wpAny Z.M C'.A (eval body C'.env) Q (fun _ _ => False) s')
    (hcell : autoParam ((scope.names.all fun x => x.2 != .cell) = true) kr) (hloc : autoParam ((binds.all fun x => decide (scope.names.lookup x.1 = some .local)) = true) kr)
    (hco : autoParam (scope.isCoroutine = false) kr) (hgen : autoParam (scope.isGenerator = false) kr) (hk : autoParam (scope.kind = .function) kr) :
    wpAny Z.M C.A (call (.ref f) pos []) Q E s := by
  refine hide fun G hG => ?_
  obtain ⟨pm, c', ctv, oc, vs, t, h1, h2, h3, h4⟩ := hf
  obtain ⟨o1, ho1, rfl⟩ := S.own _ _ h1
  obtain ⟨o2, ho2, rfl⟩ := S.own _ _ h2
  refine hG ?_
  clear hG
  have cd := S.c.depth
  refine wpAny_call (kla_callFunE (by have : recursionLimit = 1000 := rfl; lia) ho1 rfl hco hgen rfl ⟨c', _, vs, t, rfl, ho2, h3, h4⟩ ?_)
  rw [hbind]
  refine wpAny_pure (wpAny_newFunctionEnv (fun x hx => by have := List.all_eq_true.mp hcell x hx; simpa using this) (locs hloc) (fun h₁ hns hsb => ⟨(S.z.nolimit.keeps S.G).fresh _ hsb, kla_codeExpr ?_⟩) hk)
  have k1 : ∀ b o, s.heap.get? b = some o → h₁.get? b = some o := fun b o e => hsb.extBut b o (Nat.ne_of_lt (Heap.lt_size e)) (Heap.get?_push_of_some _ e)
  have S' := S.sub (t := s.toks + binds.length) (env := newEnv scope s.heap.objs.size mainGlobals cl (q ++ ".<locals>.") (some f) (.ref c') none builtinsNs) (C.A.deeper (newEnv scope s.heap.objs.size mainGlobals cl (q ++ ".<locals>.") (some f) (.ref c') none builtinsNs)) hrm rfl rfl rfl hk rfl rfl (by show C.A.frames.map _ = _; rw [S.c.frames]; rfl) (by show C.A.depth + 1 ≤ _; lia) (by show C.A.units + 3 ≤ _; lia) hns k1
  exact wpAny_mono (h { A := C.A.deeper (newEnv scope s.heap.objs.size mainGlobals cl (q ++ ".<locals>.") (some f) (.ref c') none builtinsNs), env := newEnv scope s.heap.objs.size mainGlobals cl (q ++ ".<locals>.") (some f) (.ref c') none builtinsNs, frs := (C.env.locals, m) :: C.frs, fst := newEnv scope s.heap.objs.size mainGlobals cl (q ++ ".<locals>.") (some f) (.ref c') none builtinsNs :: C.fst, rm := C.rm - 1 } _ rfl rfl (by show C.rm - 1 + 1 = C.rm; exact Nat.sub_add_cancel (by assumption)) rfl (fun m'' H'' s'' S'' => S.exit rfl S'') S') (fun v s'' hl => hl) (fun e s'' he => he.elim)
end

noncomputable def splitBy (p : Nat → Bool) (row : List Nat) : List Nat := row.filter p ++ row.filter fun x => !p x
/-- a callable that answers by p -/
noncomputable def Pred (Z : Zs) (H₀ : Hp) (rm : Nat) (f : Addr) (p : Nat → Bool) : Prop :=
  ∀ {C : Cx} {R : Rp} {m : Loc} {H : Hp} {s : Shared} {Q : Value → Shared → Prop} {E : Value → Shared → Prop} {i : Nat} {t : Tok}, Sat Z C R m H s → rm < C.rm → Ke H₀ H → (∀ s', Sat Z C R m H s' → Q (.bool (p i)) s') →
    FnAt f s.heap ∧ wpAny Z.M C.A (call (.ref f) [.int (i : Int) t] []) Q E s
section
variable {Z : Zs} {C : Cx} {R : Rp} {m m' : Loc} {H : Hp} {s : Shared} {E : Value → Shared → Prop} {f ra ca : Addr} {rvs cvs : List Value} {row ch : List Nat} {p : Nat → Bool}
inductive IvD (f ya na : Addr) (row : List Nat) (p : Nat → Bool) (H : Hp) (k : Nat) (m : Loc) (H' : Hp) : Prop
  | mk (m1 : m "predicate" = some (.ref f)) (m2 : m "yes" = some (.ref ya)) (m3 : m "no" = some (.ref na)) (ke : Ke H H') (yv nv : List Value) (h1 : H' ya = some (.lst yv)) (h2 : H' na = some (.lst nv)) (h3 : IntsAre yv (zs ((row.take k).filter p))) (h4 : IntsAre nv (zs ((row.take k).filter fun x => !p x))) : IvD f ya na row p H k m H'
theorem spec_splitList {Q : Value → Shared → Prop} {rm : Nat} (S : Sat Z C R m H s) (hrm : rm + 1 < C.rm) (hh0 : C.A.handled = none) (hra : H ra = some (.lst rvs)) (hri : IntsAre rvs (zs row)) (hz : row.length ≤ 100) (P : Pred Z H rm f p)
    (h : ∀ tp ya na yv nv s' H', Ke H H' → H' tp = some (.tup [.ref ya, .ref na]) → H' ya = some (.lst yv) → H' na = some (.lst nv) → IntsAre yv (zs (row.filter p)) → IntsAre nv (zs (row.filter fun x => !p x)) → Sat Z C R m H' s' → Q (.ref tp) s') :
    wpAny Z.M C.A (call (.ref 28) [.ref ra, .ref f] []) Q E s := by
  refine W_enter S (by rfl) (by exact rm0 (by assumption) (Nat.le_of_ble_eq_true rfl)) (by rfl) (BindsTo.of_eq (binds := [("s", .ref ra), ("predicate", .ref f)]) (by rfl)) fun C' s' hsc hcl hr hh ex S' => ?_
  clear S
  have hrl : rvs.length = row.length := hri.length.trans (zs_length _)
  (with_reducible refine W_cons ?_; intro _ _)
  with_reducible refine wpAny_Assign_Name ?_ (by kernel_rfl)
  with_reducible refine List_ ?_
  with_reducible refine spliced_none ?_
  refine W_newList S' (fun ya s e1 _ S => ?_) (by simp)
  clear S'
  refine W_store S hsc fun s S => ?_
  (with_reducible refine Then.nx (by assumption) _ ?_; with_reducible refine W_cons ?_; intro _ _)
  with_reducible refine wpAny_Assign_Name ?_ (by kernel_rfl)
  with_reducible refine List_ ?_
  with_reducible refine spliced_none ?_
  refine W_newList S (fun na s e2 _ S => ?_) (by simp)
  refine W_store S hsc fun s S => ?_
  have e3 : ya ≠ na := ne_of_n up_same e2
  have k1 : Ke H (up (up H ya (.lst [])) na (.lst [])) := (Ke.new e1).trans (Ke.new e2)
  have n2 : H na = none := (Ke.new e1).none e2
  (with_reducible refine Then.nx (by assumption) _ ?_; with_reducible refine W_cons ?_; intro _ _)
  (with_reducible refine wpAny_For ?_ (by intros; kernel_rfl))
  refine W_loc S hsc (by rfl) ?_
  refine W_iterL S (LIn.of (k1 _ _ hra)) fun it o R₀ s f1 f2 f3 f4 S' => ?_
  refine W_for (itrL ra rvs) S' (hh.trans hh0) f1 f2 f3 f4 S.rg (IvD f ya na row p H)
    (fun k m H' (.mk _ _ _ h ..) => .inl (h _ _ hra)) ⟨by rfl, by rfl, by rfl, k1, [], [], up_ne e3 up_same, up_same, .nil, .nil⟩ ?_ ?_
  · clear S S' k1
    intro k v R' m H' s E' hk hv hR hPat10 S _ _
    refine hide fun G hG => ?_
    obtain ⟨m1, m2, m3, ke, yv, nv, hy, hn, hyi, hni⟩ := hPat10
    refine hG ?_
    clear hG
    refine hide fun G hG => ?_
    obtain ⟨x, hx⟩ : ∃ x, row[k]? = some x := ⟨row[k]'(by exact lt1 (by assumption) (by assumption)), List.getElem?_eq_getElem _⟩
    refine hG ?_
    clear hG
    refine hide fun G hG => ?_
    obtain ⟨x', tx, rfl, hx'⟩ := hri.at k v hv
    refine hG ?_
    clear hG
    refine hide fun G hG => ?_
    obtain rfl : x' = (x : Int) := by unfold zs at hx'; rw [List.getElem?_map, hx] at hx'; simpa using hx'.symm
    refine hG ?_
    clear hG
    have hyl : yv.length ≤ 100 := by rw [hyi.length, zs_length]; exact Nat.le_trans (List.length_filter_le _ _) (by rw [List.length_take]; exact mn1 (by assumption) (Nat.le_of_ble_eq_true rfl))
    have hnl : nv.length ≤ 100 := by rw [hni.length, zs_length]; exact Nat.le_trans (List.length_filter_le _ _) (by rw [List.length_take]; exact mn1 (by assumption) (Nat.le_of_ble_eq_true rfl))
    with_reducible refine wpAny_assign_Name ?_
    refine W_store S hsc fun s S => ?_
    (with_reducible refine W_cons ?_; intro _ _)
    with_reducible refine wpAny_If ?_
    refine wpAny_isTrue_value ?_
    with_reducible refine wpAny_Call_NameR ?_
    refine W_loc S hsc (by assumption) ?_
    refine callWith_F (P (i := 0) (t := 0) (Q := fun _ _ => True) (E := fun _ _ => True) S (by lia) ke fun _ _ => trivial).1 ?_
    with_reducible refine spliced_more ?_ (by kernel_rfl)
    refine W_loc S hsc (by rfl) ?_
    with_reducible refine spliced_none ?_
    refine P S (by lia) ke fun s S => ?_
    with_reducible refine wpAny_truthy_bool ?_
    by_cases hpx : p x = true
    · refine ifT hpx ?_
      (with_reducible refine W_cons ?_; intro _ _)
      refine W_expr S ?_
      with_reducible refine methodCall_KW ?_ (by with_unfolding_all rfl)
      refine W_loc S hsc (by assumption) ?_
      refine W_lmeth S hy PySem.F.slot_list_append PySem.F.type_list_append ?_
      refine W_callB ?_
      (with_reducible refine spliced_more ?_ (by kernel_rfl); dsimp only)
      refine W_loc S hsc (by rfl) ?_
      with_reducible refine spliced_none ?_
      refine W_append S hy (fun s S => ?_) (by exact le1 (by assumption) (Nat.le_of_ble_eq_true rfl))
      (with_reducible refine Then.nx (by assumption) _ ?_; with_reducible refine wpAny_execs_nil ?_; with_reducible refine Then.nx (by assumption) _ ?_)
      (with_reducible refine wpAny_execs_nil ?_; with_reducible refine Turn.nx (by assumption) _ ?_)
      refine ⟨_, _, S, by assumption, by assumption, by assumption, ke.up e1, _, nv, up_same, up_ne (Ne.symm e3) hn, ?_, ?_⟩
      · rw [take_snoc hx, List.filter_append]
        simp only [List.filter_cons, hpx, if_true, List.filter_nil]
        rw [zs_append]; exact hyi.append (.cons _ _ .nil)
      · rw [take_snoc hx, List.filter_append]
        simp only [List.filter_cons, hpx, Bool.not_true, Bool.false_eq_true, if_false, List.filter_nil, List.append_nil]; exact hni
    · refine ifF hpx ?_
      have hpf : p x = false := by simpa using hpx
      (with_reducible refine W_cons ?_; intro _ _)
      refine W_expr S ?_
      with_reducible refine methodCall_KW ?_ (by with_unfolding_all rfl)
      refine W_loc S hsc (by assumption) ?_
      refine W_lmeth S hn PySem.F.slot_list_append PySem.F.type_list_append ?_
      refine W_callB ?_
      (with_reducible refine spliced_more ?_ (by kernel_rfl); dsimp only)
      refine W_loc S hsc (by rfl) ?_
      with_reducible refine spliced_none ?_
      refine W_append S hn (fun s S => ?_) (by exact le1 (by assumption) (Nat.le_of_ble_eq_true rfl))
      (with_reducible refine Then.nx (by assumption) _ ?_; with_reducible refine wpAny_execs_nil ?_; with_reducible refine Then.nx (by assumption) _ ?_)
      (with_reducible refine wpAny_execs_nil ?_; with_reducible refine Turn.nx (by assumption) _ ?_)
      refine ⟨_, _, S, by assumption, by assumption, by assumption, ke.up n2, yv, _, up_ne e3 hy, up_same, ?_, ?_⟩
      · rw [take_snoc hx, List.filter_append]
        simp only [List.filter_cons, hpf, Bool.false_eq_true, if_false, List.filter_nil, List.append_nil]; exact hyi
      · rw [take_snoc hx, List.filter_append]
        simp only [List.filter_cons, hpf, Bool.not_false, if_true, List.filter_nil]
        rw [zs_append]; exact hni.append (.cons _ _ .nil)
  · clear S S' k1
    rintro m H' s S ⟨m1, m2, m3, ke, yv, nv, hy, hn, hyi, hni⟩
    rw [List.take_of_length_le (by lia)] at hyi hni
    dsimp only
    (with_reducible refine Then.nx (by assumption) _ ?_; with_reducible refine W_cons ?_; intro _ _)
    with_reducible refine wpAny_Return_some ?_
    with_reducible refine Tuple_ ?_
    with_reducible refine spliced_more ?_ (by kernel_rfl)
    refine W_loc S hsc m2 ?_
    with_reducible refine spliced_more ?_ (by kernel_rfl)
    refine W_loc S hsc m3 ?_
    with_reducible refine spliced_none ?_
    refine W_newTuple S (fun tp s q1 q2 S => ?_) (by simp)
    with_reducible refine Then.ret (by assumption) _ _ ?_
    exact h tp ya na yv nv _ _ (ke.trans (Ke.new q1)) up_same ((Ke.new q1) _ _ hy) ((Ke.new q1) _ _ hn) hyi hni (ex _ _ _ S)

noncomputable def lamPos : Pos := ⟨178, 31, 178, 58⟩
theorem any_zs (ch : List Nat) (i : Nat) : ((zs ch).any fun x => x == (i : Int)) = ch.contains i := by
  rw [Bool.eq_iff_iff]
  unfold zs
  simp only [List.any_map, List.any_eq_true, Function.comp, beq_iff_eq, List.contains_eq_mem, decide_eq_true_eq]
  constructor
  · rintro ⟨x, hx, e⟩; obtain rfl : x = i := by lia
    exact hx
  · exact fun h => ⟨i, h, rfl⟩
theorem spec_split {Q : Value → Shared → Prop} (S : Sat Z C R m H s) (o2 : Z.Ok2) (hrm : 4 < C.rm) (hh0 : C.A.handled = none) (T : Tab lamPos "_law_split.<locals>.<lambda>" H) (hra : H ra = some (.lst rvs)) (hri : IntsAre rvs (zs row)) (hz : row.length ≤ 100) (hca : H ca = some (.lst cvs)) (hci : IntsAre cvs (zs ch))
    (h : ∀ D dv s' H', Kp (fun b => b = 183) H H' → Tab lamPos "_law_split.<locals>.<lambda>" H' → H D = none → H' D = some (.lst dv) → IntsAre dv (zs (splitBy (fun x => ch.contains x) row)) → Sat Z C R m H' s' → Q (.ref D) s') :
    wpAny Z.M C.A (call (.ref 188) [.ref ra, .ref ca] []) Q E s := by
  refine W_enterC S (by rfl) (by exact rm0 (by assumption) (Nat.le_of_ble_eq_true rfl)) (by rfl) (binds := [("row", .ref ra), ("chosen", .ref ca)]) (by rfl) (by rfl) ?_ ?_ fun C' n s' hsc hcl hr hh hq hcd hnew ex S' => ?_
  · intro n x hx
    simp only [List.mem_cons, List.not_mem_nil, or_false] at hx
    rcases hx with rfl | rfl
    · exact .inl (by kernel_rfl)
    · exact .inr ⟨by kernel_rfl, by rfl⟩
  · intro n p hp
    have hc : ∀ p ∈ [(Str.ofString "chosen", n)], List.lookup p.1 [(Str.ofString "chosen", n)] = some p.2 := by simp
    exact hc p hp
  replace hcl : C'.env.cells = [(Str.ofString "chosen", n)] := hcl
  replace hnew : H n = none := (hnew (Str.ofString "chosen", n) (.head _)).1
  replace S' : Sat Z C' R (put (fun _ => none) "row" (.ref ra)) (up H n (.cell (some (.ref ca)))) s' := S'
  clear S
  have k1 : Ke H (up H n (.cell (some (.ref ca)))) := Ke.new hnew
  (with_reducible refine W_cons ?_; intro _ _)
  refine Assign_Tuple ?_
  with_reducible refine wpAny_Call_NameR ?_
  refine W_glob (v := .ref 28) S' hsc (by kernel_rfl) ?_
  refine W_callF ?_
  with_reducible refine spliced_more ?_ (by kernel_rfl)
  refine W_loc S' hsc (by rfl) ?_
  with_reducible refine spliced_more ?_ (by kernel_rfl)
  refine W_lambda (q := "_law_split.<locals>.<lambda>") (cl := [(Str.ofString "chosen", n)]) S' o2 (T.ke k1) (by rw [hq]; rfl) (by rw [hcd]) ?_ fun f s H2 hf0 kp2 T2 L2 S => ?_
  · simp only [closureFor, List.forIn_cons, List.forIn_nil]
    unfold cellOf
    rw [hcl]
    rfl
  clear S'
  have hn2 : H2 n = some (.cell (some (.ref ca))) := kp2 _ _ (fun z => by
    obtain ⟨ps, hP, _⟩ := T
    rw [← z, hnew] at hP; cases hP) up_same
  have kp0 : Kp (fun b => b = 183) H H2 := k1.kp.trans kp2
  have hd : ∀ {b : Addr} {d : Mine.D}, H b = some d → (∀ o, d ≠ .ob o) → H2 b = some d := fun {b d} e ne => kp0 b d (fun z => by
    obtain ⟨ps, hP, _⟩ := T
    rw [z, hP] at e; cases e; exact ne _ rfl) e
  have hra2 := hd hra (by simp)
  have hca2 := hd hca (by simp)
  with_reducible refine spliced_none ?_
  refine ⟨S.K, ?_⟩
  refine spec_splitList (p := fun x => ch.contains x) (rm := 0) S (by exact rmL (by assumption) (by assumption) (Nat.le_of_ble_eq_true rfl)) (hh.trans hh0) hra2 hri hz ?_ fun tp ya na yv nv s H3 k3 htp hy hn hyi hni S => ?_
  · intro C R m H s Q E i t S hrm ke k
    constructor
    · obtain ⟨pm, c', ctv, oc, vs, t, h1, _⟩ := L2
      refine hide fun G hG => ?_
      obtain ⟨o, ho, rfl⟩ := S.own _ _ (ke _ _ h1)
      refine hG ?_
      clear hG
      exact ⟨_, _, _, _, ho⟩
    · refine W_enterL S (L2.ke ke) hrm (binds := [("name", .int (i : Int) t)]) (fun pm c' ctv => by rfl) fun C' s' hsc hcl hr hh ex S' => ?_
      with_reducible refine wpAny_Compare1 ?_ (by kernel_rfl)
      refine W_loc S' hsc (by rfl) ?_
      refine W_free (c := n) S' hsc (by rw [hcl]; rfl) (ke _ _ hn2) ?_
      refine W_inL S' (LIn.of (ke _ _ hca2)) hci ?_
      rw [any_zs]
      exact k _ (ex _ _ _ S')
  · refine W_pair S (hh.trans hh0) (TIn.of htp) fun s S => ?_
    with_reducible refine wpAny_assign_Name ?_
    refine W_store S hsc fun s S => ?_
    with_reducible refine wpAny_assign_Name ?_
    refine W_store S hsc fun s S => ?_
    (with_reducible refine Then.nx (by assumption) _ ?_; with_reducible refine W_cons ?_; intro _ _)
    with_reducible refine wpAny_Return_some ?_
    with_reducible refine wpAny_BinOp ?_
    refine W_loc S hsc (by rfl) ?_
    refine W_loc S hsc (by rfl) ?_
    have hyl : yv.length ≤ 100 := by rw [hyi.length, zs_length]; exact Nat.le_trans (List.length_filter_le _ _) hz
    have hnl : nv.length ≤ 100 := by rw [hni.length, zs_length]; exact Nat.le_trans (List.length_filter_le _ _) hz
    refine W_addL S (LIn.of hy) (LIn.of hn) (fun D s d1 d2 S => ?_) (by exact sm1 (by assumption) (by assumption) (Nat.le_of_ble_eq_true rfl))
    with_reducible refine Then.ret (by assumption) _ _ ?_
    refine h D _ _ _ ((kp0.trans k3.kp).trans (Ke.new d1).kp) ((T2.ke k3).ke (Ke.new d1)) ?_ up_same ?_ (ex _ _ _ S)
    · cases z : H D with
      | none => rfl
      | some d =>
        by_cases e : D = 183
        · obtain ⟨ps, hP, _⟩ := T2
          have := k3 _ _ hP
          rw [← e, d1] at this; cases this
        · have := k3 _ _ (kp0 _ _ e z)
          rw [d1] at this; cases this
    · unfold splitBy
      rw [zs_append]
      exact hyi.append hni
end

noncomputable def pstep (row goal : List Nat) (S : Nat → Bool) (p : List Nat × Nat) (size : Nat) : List Nat × Nat :=
  if (S size || size == 5) = true then (p.1 ++ row.filter (fun x => ((goal.take size).drop p.2).contains x), size) else p
noncomputable def pfold (row goal : List Nat) (S : Nat → Bool) (k : Nat) : List Nat × Nat := ((List.range k).map (· + 1)).foldl (pstep row goal S) ([], 0)
theorem pfold_succ (row goal : List Nat) (S : Nat → Bool) (k : Nat) : pfold row goal S (k + 1) = pstep row goal S (pfold row goal S k) (k + 1) := by
  unfold pfold
  rw [List.range_succ, List.map_append, List.foldl_append]; rfl
theorem pfold_len (row goal : List Nat) (S : Nat → Bool) (k : Nat) : (pfold row goal S k).1.length ≤ k * row.length ∧ (pfold row goal S k).2 ≤ k := by
  induction k with
  | zero => simp [pfold]
  | succ k ih =>
    rw [pfold_succ]
    unfold pstep
    split
    · refine ⟨?_, Nat.le_refl _⟩
      simp only [List.length_append]
      have := List.length_filter_le (fun x => (((goal.take (k + 1)).drop (pfold row goal S k).2).contains x)) row
      rw [Nat.add_mul, Nat.one_mul]; exact Nat.add_le_add ih.1 this
    · exact ⟨Nat.le_trans ih.1 (Nat.mul_le_mul_right _ (Nat.le_succ _)), Nat.le_succ_of_le ih.2⟩
section
variable {Z : Zs} {C : Cx} {R : Rp} {m m' : Loc} {H : Hp} {s : Shared} {E : Value → Shared → Prop} {ra ga sa : Addr} {rvs gvs svs : List Value} {row goal szs : List Nat}
inductive IvE (ra sa da n ga : Addr) (p : List Nat × Nat) (H : Hp) (m : Loc) (H' : Hp) : Prop
  | mk (m1 : m "row" = some (.ref ra)) (m2 : m "sizes" = some (.ref sa)) (m3 : m "due" = some (.ref da)) (ke : Ke H H') (d2 : H' n = some (.cell (some (.ref ga)))) (d3 : ∃ v, H' (n + 1 + 1) = some (.cell v)) (d4 : ∃ t, H' (n + 1) = some (.cell (some (.int (p.2 : Nat) t)))) (dv : List Value) (d1 : H' da = some (.lst dv)) (hdi : IntsAre dv (zs p.1)) : IvE ra sa da n ga p H m H'
theorem spec_pieces {Q : Value → Shared → Prop} (S : Sat Z C R m H s) (hrm : 4 < C.rm) (hh0 : C.A.handled = none) (hra : H ra = some (.lst rvs)) (hri : IntsAre rvs (zs row)) (hz : row.length ≤ 100) (hga : H ga = some (.lst gvs)) (hgi : IntsAre gvs (zs goal)) (hgz : goal.length ≤ 100) (hsa : H sa = some (.lst svs)) (hsi : IntsAre svs (zs szs))
    (h : ∀ D dv s' H', Ke H H' → H D = none → H' D = some (.lst dv) → IntsAre dv (zs (pfold row goal (fun n => szs.contains n) 5).1) → Sat Z C R m H' s' → Q (.ref D) s') :
    wpAny Z.M C.A (call (.ref 193) [.ref ra, .ref ga, .ref sa] []) Q E s := by
  refine W_enterC S (by rfl) (by exact rm0 (by assumption) (Nat.le_of_ble_eq_true rfl)) (by rfl) (binds := [("row", .ref ra), ("goal", .ref ga), ("sizes", .ref sa)]) (by rfl) (by rfl) ?_ ?_ fun C' n s' hsc hcl hr hh hq hcd hnew ex S' => ?_
  · intro n x hx
    simp only [List.mem_cons, List.not_mem_nil, or_false] at hx
    rcases hx with rfl | rfl | rfl
    · exact .inl (by kernel_rfl)
    · exact .inr ⟨by kernel_rfl, by rfl⟩
    · exact .inl (by kernel_rfl)
  · intro n p hp
    have hc : ∀ p ∈ [(Str.ofString "size", n + 1 + 1), (Str.ofString "start", n + 1), (Str.ofString "goal", n)], List.lookup p.1 [(Str.ofString "size", n + 1 + 1), (Str.ofString "start", n + 1), (Str.ofString "goal", n)] = some p.2 := by
      intro p hp
      simp only [List.mem_cons, List.not_mem_nil, or_false] at hp
      rcases hp with rfl | rfl | rfl <;> rfl
    exact hc p hp
  replace hcl : C'.env.cells = [(Str.ofString "size", n + 1 + 1), (Str.ofString "start", n + 1), (Str.ofString "goal", n)] := hcl
  have n1 : H (n + 1 + 1) = none := (hnew (Str.ofString "size", n + 1 + 1) (.head _)).1
  have n2 : H (n + 1) = none := (hnew (Str.ofString "start", n + 1) (.tail _ (.head _))).1
  have n3 : H n = none := (hnew (Str.ofString "goal", n) (.tail _ (.tail _ (.head _)))).1
  replace S' : Sat Z C' R (put (put (fun _ => none) "row" (.ref ra)) "sizes" (.ref sa)) (up (up (up H n (.cell (some (.ref ga)))) (n + 1) (.cell none)) (n + 1 + 1) (.cell none)) s' := S'
  clear S hnew
  have w1 : n ≠ n + 1 := Ne.symm (Nat.succ_ne_self n)
  have w2 : n + 1 ≠ n + 1 + 1 := Ne.symm (Nat.succ_ne_self _)
  have w3 : n ≠ n + 1 + 1 := Nat.ne_of_lt (Nat.lt_of_lt_of_le (Nat.lt_succ_self n) (Nat.le_succ _))
  have k1 : Ke H (up (up (up H n (.cell (some (.ref ga)))) (n + 1) (.cell none)) (n + 1 + 1) (.cell none)) := ((Ke.refl.up n3).up n2).up n1
  have c1 : (up (up (up H n (.cell (some (.ref ga)))) (n + 1) (.cell none)) (n + 1 + 1) (.cell none)) n = some (.cell (some (.ref ga))) := up_ne w3 (up_ne w1 up_same)
  have c2 : (up (up (up H n (.cell (some (.ref ga)))) (n + 1) (.cell none)) (n + 1 + 1) (.cell none)) (n + 1) = some (.cell none) := up_ne w2 up_same
  have c3 : (up (up (up H n (.cell (some (.ref ga)))) (n + 1) (.cell none)) (n + 1 + 1) (.cell none)) (n + 1 + 1) = some (.cell none) := up_same
  generalize up (up (up H n (.cell (some (.ref ga)))) (n + 1) (.cell none)) (n + 1 + 1) (.cell none) = H1 at S' k1 c1 c2 c3
  have hrl : rvs.length = row.length := hri.length.trans (zs_length _)
  have hgl : gvs.length = goal.length := hgi.length.trans (zs_length _)
  (with_reducible refine W_cons ?_; intro _ _)
  with_reducible refine wpAny_Assign_Name ?_ (by kernel_rfl)
  with_reducible refine List_ ?_
  with_reducible refine spliced_none ?_
  refine W_newList S' (fun da s e1 _ S => ?_) (by simp)
  clear S'
  refine W_store S hsc fun s S => ?_
  (with_reducible refine Then.nx (by assumption) _ ?_; with_reducible refine W_cons ?_; intro _ _)
  with_reducible refine wpAny_Assign_Name ?_ (by kernel_rfl)
  refine W_int S fun t0 s S => ?_
  have nda : H da = none := k1.none e1
  refine W_storeC (c := n + 1) S hsc (by rw [hcl]; rfl) ((Ke.new e1) _ _ c2) fun s S => ?_
  have q1 : da ≠ n + 1 := Ne.symm (ne_of_n c2 e1)
  have q2 : da ≠ n := Ne.symm (ne_of_n c1 e1)
  have q3 : da ≠ n + 1 + 1 := Ne.symm (ne_of_n c3 e1)
  have I0 : Ke H (up (up H1 da (.lst [])) (n + 1) (.cell (some (.int 0 t0)))) := (k1.trans (Ke.new e1)).up n2
  have d1 : (up (up H1 da (.lst [])) (n + 1) (.cell (some (.int 0 t0)))) da = some (.lst []) := up_ne q1 up_same
  have d2 : (up (up H1 da (.lst [])) (n + 1) (.cell (some (.int 0 t0)))) n = some (.cell (some (.ref ga))) := up_ne w1 (up_ne (Ne.symm q2) c1)
  have d3 : (up (up H1 da (.lst [])) (n + 1) (.cell (some (.int 0 t0)))) (n + 1 + 1) = some (.cell none) := up_ne (Ne.symm w2) (up_ne (Ne.symm q3) c3)
  have d4 := up_same (H := up H1 da (.lst [])) (a := n + 1) (o := D.cell (some (.int 0 t0)))
  clear k1 c1 c2 c3 e1
  generalize up (up H1 da (.lst [])) (n + 1) (.cell (some (.int 0 t0))) = H2 at S I0 d1 d2 d3 d4
  (with_reducible refine Then.nx (by assumption) _ ?_; with_reducible refine W_cons ?_; intro _ _)
  (with_reducible refine wpAny_For ?_ (by intros; kernel_rfl))
  with_reducible refine wpAny_Call_NameR ?_
  refine W_blt (v := .type "range") S hsc (by kernel_rfl) ?_
  refine W_callT ?_
  with_reducible refine spliced_more ?_ (by kernel_rfl)
  refine W_int S fun t1 s S => ?_
  with_reducible refine spliced_more ?_ (by kernel_rfl)
  refine W_int S fun t2 s S => ?_
  with_reducible refine spliced_none ?_
  refine W_range2 S fun rg u1 u2 u3 s r1 _ S => ?_
  have I1 := I0.trans (Ke.new (d := .ob (rangeO 1 6 u1 u2 u3)) r1)
  have kk := Ke.new (d := .ob (rangeO 1 6 u1 u2 u3)) r1
  refine W_iterR (n := 5) S up_same (by decide) (by decide) (by decide) (by decide) (by decide) fun it o R₀ s f1 f2 f3 f4 S' => ?_
  refine W_for (itrR 1 5) S' (hh.trans hh0) f1 f2 f3 f4 S.rg (fun k => IvE ra sa da n ga (pfold row goal (fun n => szs.contains n) k) H)
    (fun k m H' hI => trivial) ⟨by rfl, by rfl, by rfl, I1, kk _ _ d2, ⟨_, kk _ _ d3⟩, ⟨_, kk _ _ d4⟩, [], kk _ _ d1, .nil⟩ ?_ ?_
  · clear S S' I0 I1 kk d1 d2 d3 d4
    intro k v R' m H' s E' hk hPat8 hR hPat10 S Pq hQ
    refine hide fun G hG => ?_
    obtain ⟨tv, rfl⟩ := hPat8
    obtain ⟨m1, m2, m3, ke, d2, ⟨v3, d3⟩, ⟨t4, d4⟩, dv, d1, hdi⟩ := hPat10
    refine hG ?_
    clear hG
    have hpl := pfold_len row goal (fun n => szs.contains n) k
    have hdl : dv.length ≤ 500 := by
      rw [hdi.length, zs_length]
      refine Nat.le_trans hpl.1 ?_
      have : k * row.length ≤ 5 * 100 := Nat.mul_le_mul (by exact Nat.le_of_lt (by assumption)) hz
      assumption
    rw [pfold_succ] at hQ
    generalize pfold row goal (fun n => szs.contains n) k = P at d4 hdi hpl hQ
    have ek : (1 : Int) + (k : Nat) = ((k + 1 : Nat) : Int) := by lia
    rw [ek]
    with_reducible refine wpAny_assign_Name ?_
    refine W_storeC (c := n + 1 + 1) S hsc (by rw [hcl]; rfl) d3 fun s S => ?_
    have e0 : Ke H (up H' (n + 1 + 1) (.cell (some (.int ((k + 1 : Nat) : Int) tv)))) := ke.up n1
    have e1 : (up H' (n + 1 + 1) (.cell (some (.int ((k + 1 : Nat) : Int) tv)))) da = some (.lst dv) := up_ne q3 d1
    have e2 : (up H' (n + 1 + 1) (.cell (some (.int ((k + 1 : Nat) : Int) tv)))) n = some (.cell (some (.ref ga))) := up_ne w3 d2
    have e3 := up_same (H := H') (a := n + 1 + 1) (o := D.cell (some (.int ((k + 1 : Nat) : Int) tv)))
    have e4 : (up H' (n + 1 + 1) (.cell (some (.int ((k + 1 : Nat) : Int) tv)))) (n + 1) = some (.cell (some (.int (P.2 : Nat) t4))) := up_ne w2 d4
    clear d1 d2 d3 d4 ke
    generalize up H' (n + 1 + 1) (.cell (some (.int ((k + 1 : Nat) : Int) tv))) = H3 at S e0 e1 e2 e3 e4
    (with_reducible refine W_cons ?_; intro _ _)
    with_reducible refine wpAny_If ?_
    refine wpAny_isTrue_BoolOp ?_
    refine wpAny_mono (Q := fun b s => b = (szs.contains (k + 1) || (k + 1) == 5) ∧ Sat Z C' R' m H3 s) (E := E') ?_ ?_ (fun _ _ z => z)
    · refine wpAny_allTrue_Or_cons ?_
      with_reducible refine wpAny_isTrue_Compare1 ?_ (by kernel_rfl)
      refine W_cell (c := n + 1 + 1) S hsc (by rw [hcl]; rfl) e3 ?_
      refine W_loc S hsc m2 ?_
      refine W_inL S (LIn.of (e0 _ _ hsa)) hsi ?_
      rw [any_zs]
      with_reducible refine wpAny_truthy_bool ?_
      cases hb : szs.contains (k + 1) with
      | true => exact ifT rfl ⟨rfl, S⟩
      | false =>
        refine ifF (by simp) ?_
        refine wpAny_allTrue_Or_cons ?_
        with_reducible refine wpAny_isTrue_Compare1 ?_ (by kernel_rfl)
        refine W_cell (c := n + 1 + 1) S hsc (by rw [hcl]; rfl) e3 ?_
        refine W_int S fun t5 s S => ?_
        refine W_eqI ?_
        with_reducible refine wpAny_truthy_bool ?_
        have e5 : (((k + 1 : Nat) : Int) == 5) = ((k + 1) == 5) := by
          rw [Bool.eq_iff_iff]; simp; lia
        rw [e5]
        cases hb2 : (k + 1) == 5 with
        | true => exact ifT rfl ⟨rfl, S⟩
        | false => exact ifF (by simp) (wpAny_allTrue_Or_nil ⟨rfl, S⟩)
    · clear S
      rintro b s ⟨rfl, S⟩
      unfold pstep at hQ
      by_cases hb : (szs.contains (k + 1) || (k + 1) == 5) = true
      · refine ifT hb ?_
        rw [if_pos hb] at hQ
        (with_reducible refine W_cons ?_; intro _ _)
        refine W_expr S ?_
        with_reducible refine methodCall_KW ?_ (by with_unfolding_all rfl)
        refine W_loc S hsc m3 ?_
        refine W_lmeth S e1 PySem.F.slot_list_extend PySem.F.type_list_extend ?_
        refine W_callB ?_
        (with_reducible refine spliced_more ?_ (by kernel_rfl); dsimp only)
        refine W_lcomp (cl := [(Str.ofString "start", n + 1), (Str.ofString "size", n + 1 + 1), (Str.ofString "goal", n)]) ?_ ?_
        · simp only [closureFor, List.forIn_cons, List.forIn_nil]
          unfold cellOf
          rw [hcl]
          rfl
        refine W_loc S hsc m1 ?_
        refine W_iterL S (LIn.of (e0 _ _ hra)) fun it2 o2 R2 s g1 g2 g3 g4 S2 => ?_
        refine ⟨it2, R', R2, m, H3, rfl, g1, S.rg, S2, fun L D s x1 x2 exC S3 RR hRR => ?_⟩
        have kD := Ke.new (d := .lst []) x1
        refine W_cstart (R := R') (itrL ra rvs) S3 (.inl (kD _ _ (e0 _ _ hra))) g2 g3 (by rfl) (by rfl) ?_
        refine W_cloop (itrL ra rvs) S3 (hh.trans hh0) g1 g2 g3 g4 S.rg (fun j m H' => Ke H3 H' ∧ ∃ vs, H' D = some (.lst vs) ∧ IntsAre vs (zs ((row.take j).filter fun x => ((goal.take (k + 1)).drop P.2).contains x)))
          (fun j m H' hI => .inl (hI.1 _ _ (e0 _ _ hra))) ⟨kD, [], up_same, .nil⟩ ?_ ?_
        · clear S S2 S3
          intro j v R3 m' H4 s E3 hj hv hR3 hPat10 S PP hP
          refine hide fun G hG => ?_
          obtain ⟨ke4, vs, hD, hvi⟩ := hPat10
          refine hG ?_
          clear hG
          refine hide fun G hG => ?_
          obtain ⟨x, hx⟩ : ∃ x, row[j]? = some x := ⟨row[j]'(by exact lt1 (by assumption) (by assumption)), List.getElem?_eq_getElem _⟩
          refine hG ?_
          clear hG
          refine hide fun G hG => ?_
          obtain ⟨x', tx, rfl, hx'⟩ := hri.at j v hv
          refine hG ?_
          clear hG
          refine hide fun G hG => ?_
          obtain rfl : x' = (x : Int) := by unfold zs at hx'; rw [List.getElem?_map, hx] at hx'; simpa using hx'.symm
          refine hG ?_
          clear hG
          have hvl : vs.length ≤ 100 := by rw [hvi.length, zs_length]; exact Nat.le_trans (List.length_filter_le _ _) (by rw [List.length_take]; exact mn1 (by assumption) (Nat.le_of_ble_eq_true rfl))
          (with_reducible refine wpAny_assign_Name ?_; dsimp only)
          refine W_store S (comp_scope hsc) fun s S => ?_
          refine wpAny_tests_one ?_
          with_reducible refine wpAny_isTrue_Compare1 ?_ (by kernel_rfl)
          refine W_loc S (comp_scope hsc) (by rfl) ?_
          refine W_slice (C := C'.comp m _ [(Str.ofString "start", n + 1), (Str.ofString "size", n + 1 + 1), (Str.ofString "goal", n)] L) ?_
          refine W_cell (c := n) S (comp_scope hsc) (by rfl) (ke4 _ _ e2) ?_
          refine wpAny_evalPart_some ?_
          refine W_cell (c := n + 1) S (comp_scope hsc) (by rfl) (ke4 _ _ e4) ?_
          refine wpAny_evalPart_some ?_
          refine W_cell (c := n + 1 + 1) S (comp_scope hsc) (by rfl) (ke4 _ _ e3) ?_
          refine ⟨ga, gvs, some ((P.2 : Nat) : Int), some ((k + 1 : Nat) : Int), _, _, _, rfl, S, LIn.of (ke4 _ _ (e0 _ _ hga)), by exact le2 (by assumption) (by assumption) (Nat.le_of_ble_eq_true rfl), .int _ _, .int _ _, fun D2 s y1 y2 S => ?_⟩
          have hsl := sliced_mid hgi (x := ((P.2 : Nat) : Int)) (y := ((k + 1 : Nat) : Int)) (by exact Int.natCast_nonneg _) (by exact Int.natCast_nonneg _)
          have ez : ((zs goal).take ((k + 1 : Nat) : Int).toNat).drop ((P.2 : Nat) : Int).toNat = zs ((goal.take (k + 1)).drop P.2) := by
            unfold zs; rw [Int.toNat_natCast, Int.toNat_natCast, List.map_drop, List.map_take]
          rw [ez] at hsl
          refine W_inL S (LIn.of up_same) hsl ?_
          rw [any_zs]
          with_reducible refine wpAny_truthy_bool ?_
          have ke5 := ke4.trans (Ke.new (d := .lst (sliced gvs (some ((P.2 : Nat) : Int)) (some ((k + 1 : Nat) : Int)))) y1)
          have hD5 := (Ke.new (d := .lst (sliced gvs (some ((P.2 : Nat) : Int)) (some ((k + 1 : Nat) : Int)))) y1) _ _ hD
          by_cases hq : ((goal.take (k + 1)).drop P.2).contains x = true
          · refine ifT hq ?_
            refine W_emit ?_
            refine W_loc S (comp_scope hsc) (by rfl) ?_
            refine W_append S hD5 (fun s S => ?_) (by exact le1 (by assumption) (Nat.le_of_ble_eq_true rfl))
            refine hP _ ⟨_, _, S, ke5.up x1, _, up_same, ?_⟩
            rw [take_snoc hx, List.filter_append, zs_append]
            simp only [List.filter_cons, hq, if_true, List.filter_nil]
            exact hvi.append (.cons _ _ .nil)
          · refine ifF hq ?_
            refine hP _ ⟨_, _, S, ke5, vs, hD5, ?_⟩
            rw [take_snoc hx, List.filter_append]
            have hq' : ((goal.take (k + 1)).drop P.2).contains x = false := by simpa using hq
            simp only [List.filter_cons, hq', Bool.false_eq_true, if_false, List.filter_nil, List.append_nil]
            exact hvi
        · rintro m' H4 s S4 ⟨ke4, vs, hD, hvi⟩
          refine hRR _ _ _ S4 (fun s S => ?_) _
          clear S2 S3 S4
          rw [show row.take rvs.length = row from List.take_of_length_le (by lia)] at hvi
          have hvl : vs.length ≤ 100 := by rw [hvi.length, zs_length]; exact Nat.le_trans (List.length_filter_le _ _) hz
          with_reducible refine spliced_none ?_
          refine W_extendL S (ke4 _ _ e1) hD (fun s S => ?_) (by lia)
          (with_reducible refine Then.nx (by assumption) _ ?_; with_reducible refine W_cons ?_; intro _ _)
          with_reducible refine wpAny_Assign_Name ?_ (by kernel_rfl)
          have z3 : (up H4 da (.lst (dv ++ vs))) (n + 1 + 1) = some (.cell (some (.int ((k + 1 : Nat) : Int) tv))) := up_ne (Ne.symm q3) (ke4 _ _ e3)
          have z4 : (up H4 da (.lst (dv ++ vs))) (n + 1) = some (.cell (some (.int (P.2 : Nat) t4))) := up_ne (Ne.symm q1) (ke4 _ _ e4)
          refine W_cell (c := n + 1 + 1) S hsc (by rw [hcl]; rfl) z3 ?_
          refine W_storeC (c := n + 1) S hsc (by rw [hcl]; rfl) z4 fun s S => ?_
          (with_reducible refine Then.nx (by assumption) _ ?_; with_reducible refine wpAny_execs_nil ?_; with_reducible refine Then.nx (by assumption) _ ?_)
          (with_reducible refine wpAny_execs_nil ?_; with_reducible refine Turn.nx (by assumption) _ ?_)
          refine ⟨m, _, S, m1, m2, m3, ((e0.trans ke4).up nda).up n2, ?_, ⟨some (.int ((k + 1 : Nat) : Int) tv), ?_⟩, ⟨tv, up_same⟩, dv ++ vs, ?_, ?_⟩
          · exact up_ne w1 (up_ne (Ne.symm q2) (ke4 _ _ e2))
          · exact up_ne (Ne.symm w2) z3
          · exact up_ne q1 up_same
          · rw [zs_append]; exact hdi.append hvi
      · refine ifF hb ?_
        rw [if_neg hb] at hQ
        (with_reducible refine wpAny_execs_nil ?_; with_reducible refine Then.nx (by assumption) _ ?_)
        (with_reducible refine wpAny_execs_nil ?_; with_reducible refine Turn.nx (by assumption) _ ?_)
        exact ⟨m, H3, S, m1, m2, m3, e0, e2, ⟨_, e3⟩, ⟨_, e4⟩, dv, e1, hdi⟩
  · clear S S' I0 I1 kk d1 d2 d3 d4
    rintro m H' s S ⟨m1, m2, m3, ke, d2, ⟨v3, d3⟩, ⟨t4, d4⟩, dv, d1, hdi⟩
    dsimp only
    (with_reducible refine Then.nx (by assumption) _ ?_; with_reducible refine W_cons ?_; intro _ _)
    with_reducible refine wpAny_Return_some ?_
    refine W_loc S hsc m3 ?_
    with_reducible refine Then.ret (by assumption) _ _ ?_
    exact h da dv _ _ ke nda d1 hdi (ex _ _ _ S)
end

/- prefixes and pieces, in plain words -/
section
variable {row goal : List Nat} {f : Nat → Nat} {S : Nat → Bool}
theorem mem_mid (hn : goal.Nodup) {x a b : Nat} (hx : x ∈ goal) : ((goal.take b).drop a).contains x = (decide (a ≤ goal.idxOf x) && decide (goal.idxOf x < b)) := by
  have hi : goal.idxOf x < goal.length := List.idxOf_lt_length_of_mem hx
  have he : goal[goal.idxOf x] = x := List.getElem_idxOf hi
  rw [Bool.eq_iff_iff]
  simp only [List.contains_eq_mem, decide_eq_true_eq, Bool.and_eq_true]
  constructor
  · intro h
    obtain ⟨i, hi2, e⟩ := List.getElem_of_mem h
    rw [List.getElem_drop, List.getElem_take] at e
    rw [List.length_drop, List.length_take] at hi2
    have hai : a + i < goal.length := Nat.lt_of_lt_of_le (Nat.add_lt_of_lt_sub' hi2) (Nat.min_le_right _ _)
    have : goal[a + i]? = goal[goal.idxOf x]? := by rw [List.getElem?_eq_getElem hai, List.getElem?_eq_getElem hi, e, he]
    have := (List.getElem?_inj hai hn).mp this
    exact ⟨this ▸ Nat.le_add_right _ _, this ▸ Nat.lt_of_lt_of_le (Nat.add_lt_of_lt_sub' hi2) (Nat.min_le_left _ _)⟩
  · rintro ⟨h1, h2⟩
    refine List.mem_of_getElem? (i := goal.idxOf x - a) ?_
    have hax : a + (goal.idxOf x - a) = goal.idxOf x := Nat.add_sub_of_le h1
    rw [List.getElem?_drop, hax, List.getElem?_take_of_lt h2, List.getElem?_eq_getElem hi, he]

noncomputable def iv (row : List Nat) (f : Nat → Nat) (a b : Nat) : List Nat := row.filter fun x => decide (a ≤ f x) && decide (f x < b)
noncomputable def lo (f : Nat → Nat) (s : Nat) (l : List Nat) : List Nat := l.filter fun x => decide (f x < s)
noncomputable def hi (f : Nat → Nat) (s : Nat) (l : List Nat) : List Nat := l.filter fun x => !decide (f x < s)
noncomputable def go (row : List Nat) (f : Nat → Nat) (S : Nat → Bool) : Nat → List Nat → List Nat
  | _, [] => []
  | a, c :: L => if (S c || c == 5) = true then iv row f a c ++ go row f S c L else go row f S a L
theorem lo_append (s : Nat) (a b : List Nat) : lo f s (a ++ b) = lo f s a ++ lo f s b := List.filter_append ..
theorem hi_append (s : Nat) (a b : List Nat) : hi f s (a ++ b) = hi f s a ++ hi f s b := List.filter_append ..
theorem lo_iv {a b s : Nat} : lo f s (iv row f a b) = iv row f a (min b s) := by
  unfold lo iv
  rw [List.filter_filter]
  apply List.filter_congr
  intro x _
  rw [Bool.eq_iff_iff]
  simp only [Bool.and_eq_true, decide_eq_true_eq, Nat.lt_min]
  exact ⟨fun ⟨h1, h2, h3⟩ => ⟨h2, h3, h1⟩, fun ⟨h2, h3, h1⟩ => ⟨h1, h2, h3⟩⟩
theorem hi_iv {a b s : Nat} : hi f s (iv row f a b) = iv row f (max a s) b := by
  unfold hi iv
  rw [List.filter_filter]
  apply List.filter_congr
  intro x _
  rw [Bool.eq_iff_iff]
  simp only [Bool.and_eq_true, decide_eq_true_eq, Bool.not_eq_true', decide_eq_false_iff_not, Nat.max_le, Nat.not_lt]
  exact ⟨fun ⟨h1, h2, h3⟩ => ⟨⟨h2, h1⟩, h3⟩, fun ⟨⟨h2, h1⟩, h3⟩ => ⟨h1, h2, h3⟩⟩
theorem iv_nil {a b : Nat} (h : b ≤ a) : iv row f a b = [] := by
  unfold iv
  rw [List.filter_eq_nil_iff]
  intro x _
  simp only [Bool.and_eq_true, decide_eq_true_eq]
  lia
theorem go_ge : ∀ {L : List Nat} {a : Nat}, (a :: L).Pairwise (· < ·) → ∀ x ∈ go row f S a L, a ≤ f x
  | [], _, _, x, hx => by simp [go] at hx
  | c :: L, a, hp, x, hx => by
    rw [List.pairwise_cons] at hp
    have hac := hp.1 c (by simp)
    unfold go at hx
    split at hx
    · rcases List.mem_append.mp hx with hx | hx
      · unfold iv at hx
        have := (List.mem_filter.mp hx).2
        simp only [Bool.and_eq_true, decide_eq_true_eq] at this
        exact this.1
      · have := go_ge hp.2 x hx
        lia
    · exact go_ge (List.pairwise_cons.mpr ⟨fun d hd => hp.1 d (by simp [hd]), (List.pairwise_cons.mp hp.2).2⟩) x hx
theorem lo_none {s : Nat} {l : List Nat} (h : ∀ x ∈ l, s ≤ f x) : lo f s l = [] := by
  unfold lo
  rw [List.filter_eq_nil_iff]
  intro x hx
  have := h x hx
  simp only [decide_eq_true_eq]; lia
theorem hi_all {s : Nat} {l : List Nat} (h : ∀ x ∈ l, s ≤ f x) : hi f s l = l := by
  unfold hi
  rw [List.filter_eq_self]
  intro x hx
  have := h x hx
  simp only [Bool.not_eq_true', decide_eq_false_iff_not]; lia
theorem go_congr {T : Nat → Bool} : ∀ {L : List Nat} {a : Nat}, (∀ c ∈ L, S c = T c) → go row f S a L = go row f T a L
  | [], _, _ => rfl
  | c :: L, a, h => by
    unfold go
    rw [h c (by simp), go_congr (a := c) (fun d hd => h d (by simp [hd])), go_congr (a := a) (fun d hd => h d (by simp [hd]))]
/-- a cut inside a piece -/
theorem go_cut {s : Nat} : ∀ {L : List Nat} {a : Nat}, a < s → (s :: L).Pairwise (· < ·) → 5 ∈ L → lo f s (go row f S a L) = iv row f a s ∧ hi f s (go row f S a L) = go row f S s L
  | [], _, _, _, h5 => by simp at h5
  | c :: L, a, has, hp, h5 => by
    rw [List.pairwise_cons] at hp
    have hsc := hp.1 c (by simp)
    by_cases hb : (S c || c == 5) = true
    · have e1 : go row f S a (c :: L) = iv row f a c ++ go row f S c L := by rw [go, if_pos hb]
      have e2 : go row f S s (c :: L) = iv row f s c ++ go row f S c L := by rw [go, if_pos hb]
      have hge : ∀ x ∈ go row f S c L, s ≤ f x := fun x hx => by have := go_ge hp.2 x hx; lia
      rw [e1, e2, lo_append, hi_append, lo_iv, hi_iv, lo_none hge, hi_all hge, Nat.min_eq_right (by exact Nat.le_of_lt (by assumption)), Nat.max_eq_right (by exact Nat.le_of_lt (by assumption))]
      exact ⟨by simp, rfl⟩
    · have e1 : go row f S a (c :: L) = go row f S a L := by rw [go, if_neg hb]
      have e2 : go row f S s (c :: L) = go row f S s L := by rw [go, if_neg hb]
      rw [e1, e2]
      have hc5 : c ≠ 5 := fun q => hb (by simp [q])
      exact go_cut has (List.pairwise_cons.mpr ⟨fun d hd => hp.1 d (by simp [hd]), (List.pairwise_cons.mp hp.2).2⟩) ((List.mem_cons.mp h5).resolve_left (Ne.symm hc5))
theorem go_split {s : Nat} (hs5 : s ≤ 5) : ∀ {L : List Nat} {a : Nat}, a < s → s ∈ L → (a :: L).Pairwise (· < ·) → 5 ∈ L → go row f (fun c => S c || c == s) a L = lo f s (go row f S a L) ++ hi f s (go row f S a L)
  | [], _, _, hs, _, _ => by simp at hs
  | c :: L, a, has, hs, hp, h5 => by
    rw [List.pairwise_cons] at hp
    have hac := hp.1 c (by simp)
    have hpL := List.pairwise_cons.mp hp.2
    rcases Nat.lt_trichotomy c s with hcs | hcs | hcs
    · have hsL : s ∈ L := (List.mem_cons.mp hs).resolve_left (by lia)
      have h5L : 5 ∈ L := (List.mem_cons.mp h5).resolve_left (by lia)
      have hTc : ((S c || c == s) || c == 5) = (S c || c == 5) := by
        have : (c == s) = false := by simpa using (show c ≠ s by lia)
        rw [this, Bool.or_false]
      by_cases hb : (S c || c == 5) = true
      · have e1 : go row f S a (c :: L) = iv row f a c ++ go row f S c L := by rw [go, if_pos hb]
        have e2 : go row f (fun c => S c || c == s) a (c :: L) = iv row f a c ++ go row f (fun c => S c || c == s) c L := by rw [go, if_pos (by rw [hTc]; exact hb)]
        rw [e1, e2, lo_append, hi_append, lo_iv, hi_iv, Nat.min_eq_left (by exact Nat.le_of_lt (by assumption)), iv_nil (show c ≤ max a s by lia), List.nil_append, List.append_assoc, go_split hs5 hcs hsL hp.2 h5L]
      · have e1 : go row f S a (c :: L) = go row f S a L := by rw [go, if_neg hb]
        have e2 : go row f (fun c => S c || c == s) a (c :: L) = go row f (fun c => S c || c == s) a L := by rw [go, if_neg (by rw [hTc]; exact hb)]
        rw [e1, e2]
        exact go_split hs5 has hsL (List.pairwise_cons.mpr ⟨fun d hd => hp.1 d (by simp [hd]), hpL.2⟩) h5L
    · subst hcs
      have hno : ∀ d ∈ L, S d = (S d || d == c) := fun d hd => by
        have := hpL.1 d hd
        have : (d == c) = false := by simpa using (show d ≠ c by lia)
        rw [this, Bool.or_false]
      have e2 : go row f (fun d => S d || d == c) a (c :: L) = iv row f a c ++ go row f S c L := by
        rw [go, if_pos (by simp), go_congr (T := S) (fun d hd => (hno d hd).symm)]
      rw [e2]
      by_cases hb : (S c || c == 5) = true
      · have e1 : go row f S a (c :: L) = iv row f a c ++ go row f S c L := by rw [go, if_pos hb]
        have hge : ∀ x ∈ go row f S c L, c ≤ f x := fun x hx => go_ge hp.2 x hx
        rw [e1, lo_append, hi_append, lo_iv, hi_iv, lo_none hge, hi_all hge, Nat.min_eq_left (Nat.le_refl _), iv_nil (show c ≤ max a c by lia)]
        simp
      · have e1 : go row f S a (c :: L) = go row f S a L := by rw [go, if_neg hb]
        have hc5 : c ≠ 5 := fun q => hb (by simp [q])
        obtain ⟨g1, g2⟩ := go_cut (row := row) (f := f) (S := S) has hp.2 ((List.mem_cons.mp h5).resolve_left (Ne.symm hc5))
        rw [e1, g1, g2]
    · have hsL : s ∈ L := (List.mem_cons.mp hs).resolve_left (by lia)
      have := hpL.1 s hsL
      lia

theorem pfold_go (row goal : List Nat) (S : Nat → Bool) (hn : goal.Nodup) (hs : ∀ x ∈ row, x ∈ goal) : (pfold row goal S 5).1 = go row (fun x => goal.idxOf x) S 0 [1, 2, 3, 4, 5] := by
  have gen : ∀ (L : List Nat) (acc : List Nat) (a : Nat), (L.foldl (pstep row goal S) (acc, a)).1 = acc ++ go row (fun x => goal.idxOf x) S a L := by
    intro L
    induction L with
    | nil => intro acc a; simp [go]
    | cons c L ih =>
      intro acc a
      rw [List.foldl_cons]
      by_cases hb : (S c || c == 5) = true
      · have e1 : pstep row goal S (acc, a) c = (acc ++ iv row (fun x => goal.idxOf x) a c, c) := by
          unfold pstep
          rw [if_pos hb]
          congr 2
          unfold iv
          apply List.filter_congr
          intro x hx
          exact mem_mid hn (hs x hx)
        rw [e1, ih, go, if_pos hb, List.append_assoc]
      · have e1 : pstep row goal S (acc, a) c = (acc, a) := by unfold pstep; rw [if_neg hb]
        rw [e1, ih, go, if_neg hb]
  have := gen [1, 2, 3, 4, 5] [] 0
  rw [List.nil_append] at this
  exact this
noncomputable def nowK (row goal szs : List Nat) (k : Nat) : List Nat := (szs.take k).foldl (fun r s => splitBy (fun x => (goal.take s).contains x) r) row
theorem nowK_succ {row goal szs : List Nat} {k s : Nat} (h : szs[k]? = some s) : nowK row goal szs (k + 1) = splitBy (fun x => (goal.take s).contains x) (nowK row goal szs k) := by
  unfold nowK
  rw [take_snoc h, List.foldl_append]; rfl
theorem splitBy_mem {p : Nat → Bool} {l : List Nat} {x : Nat} : x ∈ splitBy p l ↔ x ∈ l := by
  unfold splitBy
  simp only [List.mem_append, List.mem_filter, Bool.not_eq_true']
  constructor
  · rintro (h | h) <;> exact h.1
  · intro h
    cases q : p x
    · exact .inr ⟨h, rfl⟩
    · exact .inl ⟨h, rfl⟩
theorem splitBy_nodup {p : Nat → Bool} {l : List Nat} (h : l.Nodup) : (splitBy p l).Nodup := by
  unfold splitBy
  rw [List.nodup_append]
  refine ⟨h.filter _, h.filter _, fun a ha b hb e => ?_⟩
  have h1 := (List.mem_filter.mp ha).2
  have h2 := (List.mem_filter.mp hb).2
  subst e
  simp [h1] at h2
theorem nowK_pieces {szs : List Nat} (hn : goal.Nodup) (hs : ∀ x ∈ row, x ∈ goal) (hg : goal.length ≤ 5) (hz : ∀ s ∈ szs, s ≤ 5) : ∀ k, k ≤ szs.length → nowK row goal szs k = (pfold row goal (fun n => (szs.take k).contains n) 5).1
  | 0, _ => by
    rw [pfold_go row goal _ hn hs]
    have hall : ∀ x ∈ row, goal.idxOf x < 5 := fun x hx => by have := List.idxOf_lt_length_of_mem (hs x hx); exact le4 (by assumption) (by assumption) (Nat.le_of_ble_eq_true rfl)
    have e : go row (fun x => goal.idxOf x) (fun n => (szs.take 0).contains n) 0 [1, 2, 3, 4, 5] = iv row (fun x => goal.idxOf x) 0 5 := by simp [go]
    rw [e]
    unfold nowK iv
    simp only [List.take_zero, List.foldl_nil]
    symm
    rw [List.filter_eq_self]
    intro x hx
    simp [hall x hx]
  | k + 1, hk => by
    obtain ⟨s, hsk⟩ : ∃ s, szs[k]? = some s := ⟨szs[k]'(by assumption), List.getElem?_eq_getElem _⟩
    have hs5 := hz s (List.mem_of_getElem? hsk)
    rw [nowK_succ hsk, nowK_pieces hn hs hg hz k (by exact Nat.le_of_lt (by assumption)), pfold_go row goal _ hn hs, pfold_go row goal _ hn hs]
    have hall : ∀ x ∈ go row (fun x => goal.idxOf x) (fun n => (szs.take k).contains n) 0 [1, 2, 3, 4, 5], x ∈ goal := fun x hx => by
      rw [← pfold_go row goal _ hn hs, ← nowK_pieces hn hs hg hz k (by exact Nat.le_of_lt (by assumption))] at hx
      have gen : ∀ (l : List Nat) (r : List Nat), x ∈ l.foldl (fun r s => splitBy (fun x => (goal.take s).contains x) r) r → x ∈ r := by
        intro l
        induction l with
        | nil => intro r h; exact h
        | cons s l ih => intro r h; exact splitBy_mem.mp (ih _ h)
      exact hs x (gen _ _ hx)
    have eT : go row (fun x => goal.idxOf x) (fun n => (szs.take (k + 1)).contains n) 0 [1, 2, 3, 4, 5] = go row (fun x => goal.idxOf x) (fun c => (szs.take k).contains c || c == s) 0 [1, 2, 3, 4, 5] := by
      apply go_congr
      intro c _
      rw [take_snoc hsk]
      simp only [List.contains_eq_mem, List.mem_append, List.mem_singleton]
      rw [Bool.eq_iff_iff]
      simp
    rw [eT]
    generalize hG : go row (fun x => goal.idxOf x) (fun n => (szs.take k).contains n) 0 [1, 2, 3, 4, 5] = G at hall
    have eS : splitBy (fun x => (goal.take s).contains x) G = lo (fun x => goal.idxOf x) s G ++ hi (fun x => goal.idxOf x) s G := by
      have hc : ∀ x ∈ G, (goal.take s).contains x = decide (goal.idxOf x < s) := fun x hx => by
        have := mem_mid hn (a := 0) (b := s) (hall x hx)
        simpa using this
      unfold splitBy lo hi
      congr 1
      · exact List.filter_congr hc
      · exact List.filter_congr fun x hx => by have := hc x hx; dsimp only; rw [this]
    rw [eS, ← hG]
    by_cases h0 : s = 0
    · subst h0
      have e0 : go row (fun x => goal.idxOf x) (fun c => (szs.take k).contains c || c == 0) 0 [1, 2, 3, 4, 5] = go row (fun x => goal.idxOf x) (fun c => (szs.take k).contains c) 0 [1, 2, 3, 4, 5] := go_congr fun c hc => by
        have : (c == 0) = false := by simp at hc; simpa using (show c ≠ 0 by lia)
        rw [this, Bool.or_false]
      rw [e0, lo_none (fun x _ => Nat.zero_le _), hi_all (fun x _ => Nat.zero_le _)]
      rfl
    · symm
      exact go_split hs5 (by lia) (by simp; lia) (by decide) (by simp)
end

section
variable {st : List (Nat × Nat)} {row goal l : List Nat} {q : Nat → Bool}
theorem filter_split {α : Type} {q : α → Bool} {x : α} : ∀ {l B D : List α}, l.filter q = B ++ x :: D → ∃ L1 L2, l = L1 ++ x :: L2 ∧ L1.filter q = B ∧ q x = true
  | [], B, D, h => by simp at h
  | a :: l, B, D, h => by
    by_cases ha : q a = true
    · rw [List.filter_cons, if_pos ha] at h
      cases B with
      | nil =>
        rw [List.nil_append] at h
        injection h with h1 h2
        subst h1
        exact ⟨[], l, rfl, rfl, ha⟩
      | cons b B =>
        rw [List.cons_append] at h
        injection h with h1 h2
        subst h1
        obtain ⟨L1, L2, e1, e2, e3⟩ := filter_split h2
        exact ⟨a :: L1, L2, by rw [e1]; rfl, by rw [List.filter_cons, if_pos ha, e2], e3⟩
    · rw [List.filter_cons, if_neg ha] at h
      obtain ⟨L1, L2, e1, e2, e3⟩ := filter_split h
      exact ⟨a :: L1, L2, by rw [e1]; rfl, by rw [List.filter_cons, if_neg ha, e2], e3⟩
theorem Valid.split (h : Valid st l) (hq : ∀ p ∈ st, p.2 ∈ l → q p.2 = true → q p.1 = true) : Valid st (splitBy q l) := by
  intro B x D e p hp hx
  unfold splitBy at e
  have late : ∀ a', l.filter (fun x => !q x) = a' ++ x :: D → B = l.filter q ++ a' → p.1 ∈ B := by
    intro a' e1 e2
    obtain ⟨L1, L2, f1, f2, f3⟩ := filter_split e1
    have hm := h L1 x L2 f1 p hp hx
    rw [e2, List.mem_append]
    cases z : q p.1 with
    | true => exact .inl (List.mem_filter.mpr ⟨by rw [f1]; simp [hm], z⟩)
    | false => exact .inr (by rw [← f2]; exact List.mem_filter.mpr ⟨hm, by simp [z]⟩)
  rcases List.append_eq_append_iff.mp e with ⟨a', e1, e2⟩ | ⟨c', e1, e2⟩
  · exact late a' e2 e1
  · cases c' with
    | nil =>
      refine late [] (by simpa using e2.symm) (by simpa using e1.symm)
    | cons c c' =>
      rw [List.cons_append] at e2
      injection e2 with e3 e4
      subst e3
      obtain ⟨L1, L2, f1, f2, f3⟩ := filter_split e1
      have hm := h L1 x L2 f1 p hp hx
      rw [← f2]
      exact List.mem_filter.mpr ⟨hm, hq p hp (by rw [f1, hx]; simp) (by rw [hx]; exact f3)⟩
theorem Valid.torn (h : Valid st (splitBy q l)) : ∀ p ∈ st, p.2 ∈ l → q p.2 = true → q p.1 = true := by
  intro p hp h2 hq
  obtain ⟨B, D, e⟩ := List.append_of_mem (List.mem_filter.mpr ⟨h2, hq⟩)
  have := h B p.2 (D ++ l.filter fun x => !q x) (by unfold splitBy; rw [e]; simp) p hp rfl
  have hm : p.1 ∈ l.filter q := by rw [e]; simp [this]
  exact (List.mem_filter.mp hm).2
theorem Full.split (h : Full st l) (hq : ∀ p ∈ st, p.2 ∈ l → q p.2 = true → q p.1 = true) : Full st (splitBy q l) :=
  ⟨splitBy_nodup h.nd, fun x hx => h.sub x (splitBy_mem.mp hx), h.v.split hq, fun i hi hn => let ⟨p, a, b, c⟩ := h.mx i hi (fun z => hn (splitBy_mem.mpr z)); ⟨p, a, b, fun z => c (splitBy_mem.mp z)⟩⟩
theorem Full.same (h : Full st row) (g : Full st goal) : ∀ x ∈ row, x ∈ goal := by
  have gen : ∀ n, ∀ B x D, row = B ++ x :: D → B.length = n → x ∈ goal := by
    intro n
    induction n using Nat.strongRecOn with
    | ind n ih =>
      intro B x D e hl
      by_cases hx : x ∈ goal
      · exact hx
      · obtain ⟨p, hp, h2, h1⟩ := g.mx x (h.sub x (by rw [e]; simp)) hx
        have hb := h.v B x D e p hp h2
        obtain ⟨B1, D1, e1⟩ := List.append_of_mem hb
        exact absurd (ih B1.length (by rw [← hl, e1]; simp) B1 p.1 (D1 ++ x :: D) (by rw [e, e1]; simp) rfl) h1
  intro x hx
  obtain ⟨B, D, e⟩ := List.append_of_mem hx
  exact gen _ B x D e rfl
/-- a goal's head is closed -/
theorem Valid.head (h : Valid st goal) (hn : goal.Nodup) (s : Nat) : ∀ p ∈ st, (goal.take s).contains p.2 = true → (goal.take s).contains p.1 = true := by
  intro p hp h2
  simp only [List.contains_eq_mem, decide_eq_true_eq] at h2 ⊢
  obtain ⟨B, D, e⟩ := List.append_of_mem h2
  have := h B p.2 (D ++ goal.drop s) (by
    have q := List.take_append_drop s goal
    rw [e, List.append_assoc, List.cons_append] at q
    exact q.symm) p hp rfl
  rw [e]; simp [this]
theorem nowK_full {szs : List Nat} (h : Full st row) (g : Full st goal) : ∀ k, Full st (nowK row goal szs k)
  | 0 => h
  | k + 1 => by
    cases hk : szs[k]? with
    | none =>
      have : nowK row goal szs (k + 1) = nowK row goal szs k := by
        unfold nowK
        rw [List.getElem?_eq_none_iff] at hk
        rw [List.take_of_length_le (by exact Nat.le_succ_of_le (by assumption)), List.take_of_length_le hk]
      rw [this]; exact nowK_full h g k
    | some s =>
      rw [nowK_succ hk]
      exact (nowK_full h g k).split fun p hp _ => g.v.head g.nd s p hp
theorem filter_one {y : Nat} : ∀ {l : List Nat}, l.Nodup → y ∈ l → l.filter (fun x => x == y) = [y]
  | [], _, h => by simp at h
  | a :: l, hn, h => by
    rw [List.nodup_cons] at hn
    by_cases e : a = y
    · subst e
      rw [List.filter_cons, if_pos (by simp)]
      have : l.filter (fun x => x == a) = [] := by
        rw [List.filter_eq_nil_iff]
        intro x hx z
        simp at z
        subst z
        exact hn.1 hx
      rw [this]
    · rw [List.filter_cons, if_neg (by simpa using e)]
      exact filter_one hn.2 ((List.mem_cons.mp h).resolve_left (Ne.symm e))
theorem iv_one (hn : row.Nodup) (hg : goal.Nodup) (hs : ∀ x ∈ row, x ∈ goal) (hs' : ∀ x ∈ goal, x ∈ row) (i : Nat) : iv row (fun x => goal.idxOf x) i (i + 1) = goal[i]?.toList := by
  unfold iv
  cases hi : goal[i]? with
  | none =>
    rw [Option.toList_none, List.filter_eq_nil_iff]
    intro x hx
    have := List.idxOf_lt_length_of_mem (hs x hx)
    rw [List.getElem?_eq_none_iff] at hi
    simp only [Bool.and_eq_true, decide_eq_true_eq]; lia
  | some y =>
    obtain ⟨hlt, ey⟩ := List.getElem?_eq_some_iff.mp hi
    have hy : y ∈ goal := List.mem_of_getElem? hi
    have : ∀ x ∈ row, (decide (i ≤ goal.idxOf x) && decide (goal.idxOf x < i + 1)) = (x == y) := by
      intro x hx
      have hxl := List.idxOf_lt_length_of_mem (hs x hx)
      have hxe : goal[goal.idxOf x] = x := List.getElem_idxOf hxl
      rw [Bool.eq_iff_iff]
      simp only [Bool.and_eq_true, decide_eq_true_eq, beq_iff_eq]
      constructor
      · rintro ⟨a, b⟩
        have e : goal.idxOf x = i := by lia
        have : goal[goal.idxOf x]? = some y := by rw [e]; exact hi
        rw [List.getElem?_eq_getElem hxl, hxe] at this
        exact Option.some.inj this
      · rintro rfl
        have hxx : goal[i]? = goal[goal.idxOf x]? := by rw [hi, List.getElem?_eq_getElem hxl, hxe]
        have := (List.getElem?_inj hlt hg).mp hxx
        lia
    rw [List.filter_congr this, filter_one hn (hs' y hy)]
    rfl
theorem five (l : List Nat) (h : l.length ≤ 5) : l[0]?.toList ++ (l[1]?.toList ++ (l[2]?.toList ++ (l[3]?.toList ++ l[4]?.toList))) = l := by
  rcases l with _ | ⟨a, _ | ⟨b, _ | ⟨c, _ | ⟨d, _ | ⟨e, _ | ⟨f, l⟩⟩⟩⟩⟩⟩
  iterate 6 (first | rfl | skip)
  all_goals first | rfl | (simp at h)
theorem nowK_last {szs : List Nat} (h : Full st row) (g : Full st goal) (hz : ∀ s ∈ szs, s ≤ 5) (h1 : 1 ∈ szs) (h2 : 2 ∈ szs) (h3 : 3 ∈ szs) (h4 : 4 ∈ szs) : nowK row goal szs szs.length = goal := by
  have hs := h.same g
  have hg5 : goal.length ≤ 5 := K5_len g.nd g.sub
  rw [nowK_pieces g.nd hs hg5 hz _ (Nat.le_refl _), pfold_go row goal _ g.nd hs]
  rw [List.take_of_length_le (Nat.le_refl _)]
  have e : go row (fun x => goal.idxOf x) (fun n => szs.contains n) 0 [1, 2, 3, 4, 5] = iv row (fun x => goal.idxOf x) 0 1 ++ (iv row (fun x => goal.idxOf x) 1 2 ++ (iv row (fun x => goal.idxOf x) 2 3 ++ (iv row (fun x => goal.idxOf x) 3 4 ++ iv row (fun x => goal.idxOf x) 4 5))) := by
    simp [go, h1, h2, h3, h4]
  have one := iv_one h.nd g.nd hs (g.same h)
  rw [e, one 0, one 1, one 2, one 3, one 4]
  exact five goal hg5
end

theorem zs_take (l : List Nat) (n : Nat) : (zs l).take n = zs (l.take n) := by unfold zs; rw [List.map_take]
/-- all but the table is kept -/
noncomputable def Kt (H H' : Hp) : Prop := Kp (fun b => b = 183) H H'
theorem Kt.get {pos : Pos} {q : Str} {H H' : Hp} (k : Kt H H') (T : Tab pos q H) {b : Addr} {d : D} (e : H b = some d) (ne : ∀ o, d ≠ .ob o) : H' b = some d := k b d (fun z => by
  obtain ⟨ps, hP, _⟩ := T
  rw [z, hP] at e; cases e; exact ne _ rfl) e
theorem Kt.pairs {pos : Pos} {q : Str} {H H' : Hp} (k : Kt H H') (T : Tab pos q H) {vs : List Value} {st : List (Nat × Nat)} (h : PairsAt H vs st) : PairsAt H' vs st := h.mono fun _ _ _ _ _ e => k.get T e (by simp)
section
variable {Z : Zs} {C : Cx} {R : Rp} {m m' : Loc} {H : Hp} {s : Shared} {E : Value → Shared → Prop} {l ra ga sa : Addr} {vs rvs gvs svs : List Value} {st : List (Nat × Nat)} {row goal szs : List Nat} {z : Int} {t : Tok}
theorem W_isNot {M : Model} {A : Around} {env : Env} {x : Expr} {p : Pos} {whole : Sem Value} {Q : Bool → Shared → Prop} (h : wpAny M A (isTrue x env (eval x env)) (fun b s => Q (!b) s) E s) : wpAny M A (isTrue (.UnaryOp .Not x p) env whole) Q E s := by
  rw [arm_isTrue_UnaryOp]
  exact wpAny_bind (wpAny_mono h (fun _ _ h₁ => wpAny_pure h₁) fun _ _ e => e)
abbrev lamQ : Str := "_law_split.<locals>.<lambda>"

inductive IvF (l ra ga sa : Addr) (z : Int) (t : Tok) (row goal szs : List Nat) (H : Hp) (k : Nat) (m : Loc) (H' : Hp) : Prop
  | mk (m1 : m "steps" = some (.ref l)) (m2 : m "row" = some (.ref ra)) (m3 : m "goal" = some (.ref ga)) (m4 : m "sizes" = some (.ref sa)) (m5 : m "stop" = some (.int z t)) (kt : Kt H H') (T : Tab lamPos lamQ H') (na : Addr) (nv : List Value) (m6 : m "now" = some (.ref na)) (h1 : H' na = some (.lst nv)) (h2 : IntsAre nv (zs (nowK row goal szs k))) : IvF l ra ga sa z t row goal szs H k m H'
theorem spec_byHeads {Q : Value → Shared → Prop} (S : Sat Z C R m H s) (o2 : Z.Ok2) (hrm : 10 < C.rm) (hh0 : C.A.handled = none) (T : Tab lamPos lamQ H) (hl : H l = some (.lst vs)) (hp : PairsAt H vs st) (h5 : ∀ p ∈ st, p.1 ∈ K5 ∧ p.2 ∈ K5) (hz : st.length ≤ 100)
    (hra : H ra = some (.lst rvs)) (hri : IntsAre rvs (zs row)) (hga : H ga = some (.lst gvs)) (hgi : IntsAre gvs (zs goal)) (hsa : H sa = some (.lst svs)) (hsi : IntsAre svs (zs szs)) (fr : Full st row) (fg : Full st goal)
    (hs5 : ∀ s ∈ szs, s ≤ 5) (hsz : szs.length ≤ 100) (g1 : 1 ∈ szs) (g2 : 2 ∈ szs) (g3 : 3 ∈ szs) (g4 : 4 ∈ szs)
    (h : ∀ s' H', Kt H H' → Tab lamPos lamQ H' → Sat Z C R m H' s' → Q (.bool true) s') :
    wpAny Z.M C.A (call (.ref 200) [.ref l, .ref ra, .ref ga, .ref sa, .int z t] []) Q E s := by
  refine W_enter S (by rfl) (by exact rm0 (by assumption) (Nat.le_of_ble_eq_true rfl)) (by rfl) (BindsTo.of_eq (binds := [("steps", .ref l), ("row", .ref ra), ("goal", .ref ga), ("sizes", .ref sa), ("stop", .int z t)]) (by rfl)) fun C' s' hsc hcl hr hh ex S' => ?_
  clear S
  have hrl : rvs.length = row.length := hri.length.trans (zs_length _)
  have hgl : gvs.length = goal.length := hgi.length.trans (zs_length _)
  have hsl : svs.length = szs.length := hsi.length.trans (zs_length _)
  have hr5 : row.length ≤ 5 := K5_len fr.nd fr.sub
  have hg5 : goal.length ≤ 5 := K5_len fg.nd fg.sub
  have hsame := fr.same fg
  (with_reducible refine W_cons ?_; intro _ _)
  with_reducible refine wpAny_Assign_Name ?_ (by kernel_rfl)
  refine W_loc S' hsc (by rfl) ?_
  refine W_store S' hsc fun s S => ?_
  clear S'
  (with_reducible refine Then.nx (by assumption) _ ?_; with_reducible refine W_cons ?_; intro _ _)
  (with_reducible refine wpAny_For ?_ (by intros; kernel_rfl))
  with_reducible refine wpAny_Call_NameR ?_
  refine W_blt (v := .type "range") S hsc (by kernel_rfl) ?_
  refine W_callT ?_
  with_reducible refine spliced_more ?_ (by kernel_rfl)
  with_reducible refine wpAny_Call_NameR ?_
  refine W_blt (v := .builtin "len") S hsc (by kernel_rfl) ?_
  refine W_callB ?_
  with_reducible refine spliced_more ?_ (by kernel_rfl)
  refine W_loc S hsc (by rfl) ?_
  with_reducible refine spliced_none ?_
  refine W_len S (LIn.of hsa) (fun t1 s S => ?_) (by exact le2 (by assumption) (by assumption) (Nat.le_of_ble_eq_true rfl))
  with_reducible refine spliced_none ?_
  refine W_range1 S fun rg u1 u2 u3 s r1 _ S => ?_
  have k0 := Ke.new (d := .ob (rangeO 0 (svs.length : Nat) u1 u2 u3)) r1
  refine W_iterR (n := szs.length) S up_same (by rw [hsl]; split <;> lia) (by decide) (by decide) (by exact Int.natCast_nonneg _) (by exact in4 (by assumption) (by assumption) (Nat.le_of_ble_eq_true rfl) (by decide)) fun it o R₀ s f1 f2 f3 f4 S' => ?_
  refine W_for (itrR 0 szs.length) S' (hh.trans hh0) f1 f2 f3 f4 S.rg (IvF l ra ga sa z t row goal szs H)
    (fun k m H' hI => trivial) ⟨by rfl, by rfl, by rfl, by rfl, by rfl, k0.kp, T.ke k0, ra, rvs, by rfl, k0 _ _ hra, hri⟩ ?_ ?_
  · clear S S' k0
    intro k v R' m H' s E' hk hPat8 hR hPat10 S _ _
    refine hide fun G hG => ?_
    obtain ⟨tv, rfl⟩ := hPat8
    obtain ⟨m1, m2, m3, m4, m5, kt, T', na, nv, m6, hna, hni⟩ := hPat10
    refine hG ?_
    clear hG
    refine hide fun G hG => ?_
    obtain ⟨sz, hsz1⟩ : ∃ sz, szs[k]? = some sz := ⟨szs[k]'hk, List.getElem?_eq_getElem _⟩
    refine hG ?_
    clear hG
    refine hide fun G hG => ?_
    obtain ⟨sv, hsv⟩ : ∃ v, svs[k]? = some v := ⟨svs[k]'(by exact lt2 (by assumption) (by assumption)), List.getElem?_eq_getElem _⟩
    refine hG ?_
    clear hG
    refine hide fun G hG => ?_
    obtain ⟨sz', tsz, rfl, hsz2⟩ := hsi.at k _ hsv
    refine hG ?_
    clear hG
    refine hide fun G hG => ?_
    obtain rfl : sz' = (sz : Int) := by unfold zs at hsz2; rw [List.getElem?_map, hsz1] at hsz2; simpa using hsz2.symm
    refine hG ?_
    clear hG
    have fk := nowK_full (szs := szs) fr fg k
    have fk1 := nowK_full (szs := szs) fr fg (k + 1)
    have hnk5 : (nowK row goal szs k).length ≤ 5 := K5_len fk.nd fk.sub
    have ek : (0 : Int) + (k : Nat) = ((k : Nat) : Int) := by lia
    rw [ek]
    have hga' := kt.get T hga (by simp)
    have hsa' := kt.get T hsa (by simp)
    have hra' := kt.get T hra (by simp)
    have hl' := kt.get T hl (by simp)
    with_reducible refine wpAny_assign_Name ?_
    refine W_store S hsc fun s S => ?_
    refine wpAny_noRaise ?_
    (with_reducible refine W_cons ?_; intro _ _)
    with_reducible refine wpAny_Assign_Name ?_ (by kernel_rfl)
    with_reducible refine wpAny_Call_NameR ?_
    refine W_glob (v := .ref 188) S hsc (by kernel_rfl) ?_
    refine W_callF ?_
    with_reducible refine spliced_more ?_ (by kernel_rfl)
    refine W_loc S hsc (by assumption) ?_
    with_reducible refine spliced_more ?_ (by kernel_rfl)
    refine W_slice ?_
    refine W_loc S hsc (by assumption) ?_
    refine wpAny_evalPart_none ?_
    refine wpAny_evalPart_some ?_
    with_reducible refine Subscript_ ?_
    refine W_loc S hsc (by assumption) ?_
    refine W_loc S hsc (by rfl) ?_
    refine W_subL S (LIn.of hsa') (by exact Int.natCast_nonneg _) (by rw [Int.toNat_natCast]; exact hsv) ?_ (by exact in2 (by assumption) (by assumption) (Nat.le_of_ble_eq_true rfl) (by decide))
    refine ⟨ga, gvs, none, some (sz : Int), _, _, _, rfl, S, LIn.of hga', by exact le2 (by assumption) (by assumption) (Nat.le_of_ble_eq_true rfl), .none, .int _ _, fun D s y1 y2 S => ?_⟩
    with_reducible refine spliced_none ?_
    refine ⟨S.K, ?_⟩
    have hsu := sliced_upto hgi (x := (sz : Int)) (by exact Int.natCast_nonneg _)
    rw [Int.toNat_natCast, zs_take] at hsu
    have k1 := Ke.new (d := .lst (sliced gvs none (some (sz : Int)))) y1
    refine spec_split S o2 (by exact rmL (by assumption) (by assumption) (Nat.le_of_ble_eq_true rfl)) (hh.trans hh0) (T'.ke k1) (k1 _ _ hna) hni (by exact le1 (by assumption) (Nat.le_of_ble_eq_true rfl)) up_same hsu fun D2 dv s H2 kt2 T2 x1 x2 x3 S => ?_
    rw [← nowK_succ hsz1] at x3
    have kt3 : Kt H H2 := (kt.trans k1.kp).trans kt2
    clear hga' hsa' hra' hl' y1 y2 k1 hna hni T' kt kt2
    refine W_store S hsc fun s S => ?_
    have hga' := kt3.get T hga (by simp)
    have hsa' := kt3.get T hsa (by simp)
    have hra' := kt3.get T hra (by simp)
    have hl' := kt3.get T hl (by simp)
    (with_reducible refine Then.nx (by assumption) _ ?_; with_reducible refine W_cons ?_; intro _ _)
    with_reducible refine wpAny_If ?_
    with_reducible refine wpAny_isTrue_Compare1 ?_ (by kernel_rfl)
    refine W_loc S hsc (by rfl) ?_
    with_reducible refine wpAny_Call_NameR ?_
    refine W_glob (v := .ref 193) S hsc (by kernel_rfl) ?_
    refine W_callF ?_
    with_reducible refine spliced_more ?_ (by kernel_rfl)
    refine W_loc S hsc (by assumption) ?_
    with_reducible refine spliced_more ?_ (by kernel_rfl)
    refine W_loc S hsc (by assumption) ?_
    with_reducible refine spliced_more ?_ (by kernel_rfl)
    refine W_slice ?_
    refine W_loc S hsc (by assumption) ?_
    refine wpAny_evalPart_none ?_
    refine wpAny_evalPart_some ?_
    with_reducible refine wpAny_BinOp ?_
    refine W_loc S hsc (by rfl) ?_
    refine W_int S fun t5 s S => ?_
    refine W_add S fun t6 s S => ?_
    refine ⟨sa, svs, none, some ((k : Nat) + 1 : Int), _, _, _, rfl, S, LIn.of hsa', by exact le2 (by assumption) (by assumption) (Nat.le_of_ble_eq_true rfl), .none, .int _ _, fun D3 s y1 y2 S => ?_⟩
    with_reducible refine spliced_none ?_
    refine ⟨S.K, ?_⟩
    have hsu2 := sliced_upto hsi (x := ((k : Nat) + 1 : Int)) (by exact Int.natCast_nonneg _)
    rw [show ((k : Nat) + 1 : Int).toNat = k + 1 from by lia, zs_take] at hsu2
    have k3 := Ke.new (d := .lst (sliced svs none (some ((k : Nat) + 1 : Int)))) y1
    refine spec_pieces S (by exact rmL (by assumption) (by assumption) (Nat.le_of_ble_eq_true rfl)) (hh.trans hh0) (k3 _ _ hra') hri (by exact le1 (by assumption) (Nat.le_of_ble_eq_true rfl)) (k3 _ _ hga') hgi (by exact le1 (by assumption) (Nat.le_of_ble_eq_true rfl)) up_same hsu2 fun D4 pv s H3 ke4 p1 p2 p3 S => ?_
    rw [← nowK_pieces fg.nd hsame hg5 hs5 (k + 1) (by assumption)] at p3
    have ke5 : Ke H2 H3 := k3.trans ke4
    refine W_neL S (LIn.of (ke5 _ _ x2)) x3 (LIn.of p2) p3 ?_
    with_reducible refine wpAny_truthy_bool ?_
    refine ifF (by simp) ?_
    (with_reducible refine wpAny_execs_nil ?_; with_reducible refine Then.nx (by assumption) _ ?_)
    (with_reducible refine W_cons ?_; intro _ _)
    with_reducible refine wpAny_If ?_
    have T3 := T2.ke ke5
    have kt4 : Kt H H3 := kt3.trans ke5.kp
    refine wpAny_isTrue_BoolOp ?_
    refine wpAny_allTrue_And_cons ?_
    with_reducible refine wpAny_isTrue_Compare1 ?_ (by kernel_rfl)
    refine W_loc S hsc (by rfl) ?_
    refine W_loc S hsc (by assumption) ?_
    refine W_eqI ?_
    with_reducible refine wpAny_truthy_bool ?_
    by_cases hst : ((k : Int) == z) = true
    · refine ifT hst ?_
      refine wpAny_allTrue_And_cons ?_
      refine W_isNot ?_
      refine wpAny_isTrue_value ?_
      with_reducible refine wpAny_Call_NameR ?_
      refine W_glob (v := .ref 181) S hsc (by kernel_rfl) ?_
      refine W_callF ?_
      with_reducible refine spliced_more ?_ (by kernel_rfl)
      refine W_loc S hsc (by assumption) ?_
      with_reducible refine spliced_more ?_ (by kernel_rfl)
      refine W_loc S hsc (by rfl) ?_
      with_reducible refine spliced_none ?_
      refine ⟨S.K, ?_⟩
      refine spec_goes S (by exact rmL (by assumption) (by assumption) (Nat.le_of_ble_eq_true rfl)) (hh.trans hh0) (ke5 _ _ hl') ((kt4.pairs T hp)) h5 hz (ke5 _ _ x2) x3 fk1.nd fk1.sub fk1.mx fun b s H4 ke6 hb S => ?_
      refine hide fun G hG => ?_
      obtain rfl : b = true := hb.mpr fk1.v
      refine hG ?_
      clear hG
      with_reducible refine wpAny_truthy_bool ?_
      refine ifF (by simp) (ifF (by simp) ?_)
      (with_reducible refine wpAny_execs_nil ?_; with_reducible refine Then.nx (by assumption) _ ?_)
      (with_reducible refine wpAny_execs_nil ?_; with_reducible refine Turn.nx (by assumption) _ ?_)
      exact ⟨_, _, S, by assumption, by assumption, by assumption, by assumption, by assumption, kt4.trans ke6.kp, T3.ke ke6, D2, dv, by rfl, ke6 _ _ (ke5 _ _ x2), x3⟩
    · refine ifF hst (ifF (by simp) ?_)
      (with_reducible refine wpAny_execs_nil ?_; with_reducible refine Then.nx (by assumption) _ ?_)
      (with_reducible refine wpAny_execs_nil ?_; with_reducible refine Turn.nx (by assumption) _ ?_)
      exact ⟨_, _, S, by assumption, by assumption, by assumption, by assumption, by assumption, kt4, T3, D2, dv, by rfl, ke5 _ _ x2, x3⟩
  · clear S S' k0
    rintro m H' s S ⟨m1, m2, m3, m4, m5, kt, T', na, nv, m6, hna, hni⟩
    rw [nowK_last fr fg hs5 g1 g2 g3 g4] at hni
    dsimp only
    (with_reducible refine Then.nx (by assumption) _ ?_; with_reducible refine W_cons ?_; intro _ _)
    with_reducible refine wpAny_Return_some ?_
    with_reducible refine wpAny_Compare1 ?_ (by kernel_rfl)
    refine W_loc S hsc m6 ?_
    refine W_loc S hsc m3 ?_
    refine W_eqL S (LIn.of hna) hni (LIn.of (kt.get T hga (by simp))) hgi ?_
    rw [decide_eq_true rfl]
    with_reducible refine Then.ret (by assumption) _ _ ?_
    exact h _ _ kt T' (ex _ _ _ S)
end

theorem ints_set {vs : List Value} {ns : List Int} (h : IntsAre vs ns) (k : Nat) (z : Int) (t : Tok) : IntsAre (vs.set k (.int z t)) (ns.set k z) := by
  induction h generalizing k with
  | nil => exact .nil
  | cons n u _ ih =>
    cases k with
    | zero => exact .cons _ _ (by assumption)
    | succ k => exact .cons _ _ (ih k)
section
variable {Z : Zs} {C : Cx} {R : Rp} {m m' : Loc} {H : Hp} {s : Shared} {E : Value → Shared → Prop} {sa na : Addr} {svs nvs : List Value} {ss ns : List Int}
inductive IvG (sa D : Addr) (H : Hp) (k : Nat) (m : Loc) (H' : Hp) : Prop
  | mk (m1 : m "script" = some (.ref sa)) (m2 : m "numbers" = some (.ref D)) (ke : Ke H H') (dv : List Value) (ds : List Int) (h1 : H' D = some (.lst dv)) (h2 : IntsAre dv ds) (h3 : ds.length = 10) : IvG sa D H k m H'
theorem spec_numbers {Q : Value → Shared → Prop} (S : Sat Z C R m H s) (hrm : 1 < C.rm) (hh0 : C.A.handled = none) (hsa : LIn R H sa svs) (hss : IntsAre svs ss) (hz : svs.length ≤ 1000000)
    (h : ∀ D dv ds s' H', Ke H H' → H D = none → H' D = some (.lst dv) → IntsAre dv ds → ds.length = 10 → Sat Z C R m H' s' → Q (.ref D) s') :
    wpAny Z.M C.A (call (.ref 155) [.ref sa] []) Q E s := by
  refine W_enter S (by rfl) (by exact rm0 (by assumption) (Nat.le_of_ble_eq_true rfl)) (by rfl) (BindsTo.of_eq (binds := [("script", .ref sa)]) (by rfl)) fun C' s' hsc hcl hr hh ex S' => ?_
  clear S
  (with_reducible refine W_cons ?_; intro _ _)
  with_reducible refine wpAny_Assign_Name ?_ (by kernel_rfl)
  with_reducible refine List_ ?_
  with_reducible refine spliced_more ?_ (by kernel_rfl)
  refine W_int S' fun t0 s S => ?_
  clear S'
  with_reducible refine spliced_more ?_ (by kernel_rfl)
  refine W_int S fun t1 s S => ?_
  with_reducible refine spliced_more ?_ (by kernel_rfl)
  refine W_int S fun t2 s S => ?_
  with_reducible refine spliced_more ?_ (by kernel_rfl)
  refine W_int S fun t3 s S => ?_
  with_reducible refine spliced_more ?_ (by kernel_rfl)
  refine W_int S fun t4 s S => ?_
  with_reducible refine spliced_more ?_ (by kernel_rfl)
  refine W_int S fun t5 s S => ?_
  with_reducible refine spliced_more ?_ (by kernel_rfl)
  refine W_int S fun t6 s S => ?_
  with_reducible refine spliced_more ?_ (by kernel_rfl)
  refine W_int S fun t7 s S => ?_
  with_reducible refine spliced_more ?_ (by kernel_rfl)
  refine W_int S fun t8 s S => ?_
  with_reducible refine spliced_more ?_ (by kernel_rfl)
  refine W_int S fun t9 s S => ?_
  with_reducible refine spliced_none ?_
  refine W_newList S (fun D s e1 _ S => ?_) (by simp)
  refine W_store S hsc fun s S => ?_
  (with_reducible refine Then.nx (by assumption) _ ?_; with_reducible refine W_cons ?_; intro _ _)
  (with_reducible refine wpAny_For ?_ (by intros; kernel_rfl))
  with_reducible refine wpAny_Call_NameR ?_
  refine W_blt (v := .type "range") S hsc (by kernel_rfl) ?_
  refine W_callT ?_
  with_reducible refine spliced_more ?_ (by kernel_rfl)
  with_reducible refine wpAny_Call_NameR ?_
  refine W_blt (v := .builtin "len") S hsc (by kernel_rfl) ?_
  refine W_callB ?_
  with_reducible refine spliced_more ?_ (by kernel_rfl)
  refine W_loc S hsc (by rfl) ?_
  with_reducible refine spliced_none ?_
  have kl : ∀ {H' : Hp}, Ke H H' → LIn R H' sa svs := fun {H'} k => hsa.imp (fun q => k _ _ q) id
  refine W_len S (kl (Ke.new e1)) (fun t10 s S => ?_) (by assumption)
  with_reducible refine spliced_none ?_
  refine W_range1 S fun rg u1 u2 u3 s r1 _ S => ?_
  have k0 := Ke.new (d := .ob (rangeO 0 (svs.length : Nat) u1 u2 u3)) r1
  refine W_iterR (n := svs.length) S up_same (by split <;> lia) (by decide) (by decide) (by exact Int.natCast_nonneg _) (by exact in3 (by assumption) (Nat.le_of_ble_eq_true rfl) (by decide)) fun it o R₀ s f1 f2 f3 f4 S' => ?_
  refine W_for (itrR 0 svs.length) S' (hh.trans hh0) f1 f2 f3 f4 S.rg (IvG sa D H)
    (fun k m H' hI => trivial) ⟨by rfl, by rfl, (Ke.new e1).trans k0, _, _, k0 _ _ up_same, .cons _ _ (.cons _ _ (.cons _ _ (.cons _ _ (.cons _ _ (.cons _ _ (.cons _ _ (.cons _ _ (.cons _ _ (.cons _ _ .nil))))))))), rfl⟩ ?_ ?_
  · clear S S' k0
    intro k v R' m H' s E' hk hPat8 hR hPat10 S _ _
    refine hide fun G hG => ?_
    obtain ⟨tv, rfl⟩ := hPat8
    obtain ⟨m1, m2, ke, dv, ds, hD, hdi, hdl⟩ := hPat10
    refine hG ?_
    clear hG
    have hdvl : dv.length = 10 := hdi.length.trans hdl
    refine hide fun G hG => ?_
    obtain ⟨sv, hsv⟩ : ∃ v, svs[k]? = some v := ⟨svs[k]'hk, List.getElem?_eq_getElem _⟩
    refine hG ?_
    clear hG
    refine hide fun G hG => ?_
    obtain ⟨sz, tsz, rfl, _⟩ := hss.at k _ hsv
    refine hG ?_
    clear hG
    have ek : (0 : Int) + (k : Nat) = ((k : Nat) : Int) := by lia
    rw [ek]
    have hm : Int.fmod ((k : Nat) : Int) 10 = ((k % 10 : Nat) : Int) := by rw [Int.fmod_eq_emod_of_nonneg _ (by exact Int.natCast_nonneg _)]; lia
    refine hide fun G hG => ?_
    obtain ⟨xv, hxv⟩ : ∃ v, dv[k % 10]? = some v := ⟨dv[k % 10]'(by lia), List.getElem?_eq_getElem _⟩
    refine hG ?_
    clear hG
    refine hide fun G hG => ?_
    obtain ⟨xz, txz, rfl, hxz⟩ := hdi.at _ _ hxv
    refine hG ?_
    clear hG
    with_reducible refine wpAny_assign_Name ?_
    refine W_store S hsc fun s S => ?_
    (with_reducible refine W_cons ?_; intro _ _)
    (with_reducible refine wpAny_AugAssign_SubscriptAny ?_ (by intros; kernel_rfl))
    refine W_loc S hsc (by assumption) ?_
    with_reducible refine wpAny_BinOp ?_
    refine W_loc S hsc (by rfl) ?_
    refine W_int S fun v1 s S => ?_
    refine W_mod S (by decide) fun v2 s S => ?_
    rw [hm]
    refine W_getL S (LIn.of hD) (by (first | lia | omega)) (by rw [Int.toNat_natCast]; exact hxv) ?_ (by (first | lia | omega))
    with_reducible refine Subscript_ ?_
    refine W_loc S hsc (by assumption) ?_
    refine W_loc S hsc (by rfl) ?_
    have hsa' : LIn R' H' sa svs := (kl ke).imp id fun ⟨o, a, b⟩ => ⟨o, hR _ _ a, b⟩
    refine W_subL S hsa' (by exact Int.natCast_nonneg _) (by rw [Int.toNat_natCast]; exact hsv) ?_ (by exact in2 (by assumption) (by assumption) (Nat.le_of_ble_eq_true rfl) (by decide))
    refine W_iadd S fun v3 s S => ?_
    refine W_setL S hD (by (first | lia | omega)) (by rw [Int.toNat_natCast]; (first | lia | omega)) (fun s S => ?_) (by (first | lia | omega))
    (with_reducible refine Then.nx (by assumption) _ ?_; with_reducible refine wpAny_execs_nil ?_; with_reducible refine Turn.nx (by assumption) _ ?_)
    refine ⟨_, _, S, by assumption, by assumption, ke.up e1, _, ds.set (k % 10) (xz + sz), up_same, ?_, by rw [List.length_set]; exact hdl⟩
    rw [Int.toNat_natCast]
    exact ints_set hdi _ _ _
  · clear S S' k0
    rintro m H' s S ⟨m1, m2, ke, dv, ds, hD, hdi, hdl⟩
    dsimp only
    (with_reducible refine Then.nx (by assumption) _ ?_; with_reducible refine W_cons ?_; intro _ _)
    with_reducible refine wpAny_Return_some ?_
    refine W_loc S hsc m2 ?_
    with_reducible refine Then.ret (by assumption) _ _ ?_
    exact h D dv ds _ _ ke e1 hD hdi hdl (ex _ _ _ S)
end

section
variable {Z : Zs} {C : Cx} {R : Rp} {m m' : Loc} {H : Hp} {s : Shared} {E : Value → Shared → Prop}
inductive Acp (Z : Zs) (C : Cx) (x : Str) (scope : Scope) (cl : List (Str × Addr)) (e : Expr) (Q : Flow → Shared → Prop) (itv : Value) (s₂ : Shared) : Prop
  | mk (it : Addr) (R R₀ : Rp) (m : Loc) (H : Hp) (e1 : itv = .ref it) (hR : RLe R R₀) (hG : ∀ b o, Z.G.get? b = some o → R b = some o) (S : Sat Z C R₀ m H s₂)
    (k : ∀ L D s₃, H D = none → R₀ D = none → (∀ m'' H'' s'', Sat Z (C.comp m scope cl L) R m'' H'' s'' → Sat Z C R m H'' s'') → Sat Z (C.comp m scope cl L) R₀ (fun _ => none) (up H D (.lst [])) s₃ →
      ∀ RR : Result → Shared → Prop, (∀ m' H' s', Sat Z (C.comp m scope cl L) R m' H' s' → (∀ s'', Sat Z C R (put m x (.ref D)) H' s'' → Q .next s'') → ∀ f, RR (.ok f) s') → codeAny Z.M C.A (.compStart e 0 (.ref it) (.ref D) (C.comp m scope cl L).env) RR s₃) :
    Acp Z C x scope cl e Q itv s₂
/-- a comprehension whose list is stored before its names go -/
theorem W_acomp {Q : Flow → Shared → Prop} {x : Str} {pos' pos pos2 : Pos} {elt target iter : Expr} {ifs : List Expr} {rest : List Comprehension} {scope sc : Scope} {cl : List (Str × Addr)} (hsc : C.env.scope = sc) (hclos : closureFor scope C.env = pure cl)
    (hsw : swapsWith (.ListComp elt (⟨target, iter, ifs, 0⟩ :: rest) scope pos2) (some (.Name x pos')) pos.line C.env = pure true)
    (h : wpAny Z.M C.A (eval iter C.env) (fun x' s₁ => wpAny Z.M C.A (pyIter x') (Acp Z C x scope cl (.ListComp elt (⟨target, iter, ifs, 0⟩ :: rest) scope pos2) Q) E s₁) E s)
    (hk : autoParam (sc.names.lookup x = some .local) kr)
    (hcell : autoParam ((scope.names.all fun x => x.2 != .cell) = true) kr) (hkind : autoParam (scope.kind = .function) kr)
    (hnames : autoParam ((scope.names.all fun x => x.2 != .local || decide (scope.names.lookup x.1 = some .local)) = true) kr)
    (hs : ∀ x, foldedSetIterable iter C.env x = pure x := by intro _; rfl) :
    wpAny Z.M C.A (exec (.Assign [.Name x pos'] (.ListComp elt (⟨target, iter, ifs, 0⟩ :: rest) scope pos2) pos) C.env) Q E s := by
  rw [exec_Assign_Name_used _ _ _ _ hsw]
  refine wpAny_bind (wpAny_standAt (wpAny_bind ?_))
  show wpAny _ _ (comprehension (.ListComp elt (⟨target, iter, ifs, 0⟩ :: rest) scope pos2) scope C.env _ (newList []) false (eval iter C.env) (some (assign (.Name x pos') C.env)) >>= fun _ => pure ()) _ _ _
  refine wpAny_bind (wpAny_comprehension_free (use := some (assign (.Name x pos') C.env)) (cl := cl) (gs := rest) (g := ⟨target, iter, ifs, 0⟩) rfl hs hclos hkind (fun x hx hl => by have := List.all_eq_true.mp hnames x hx; simpa [hl] using this) (wpAny_mono h (fun xv s₁ h₁ => wpAny_mono h₁ (fun itv s₂ h₂ => ?_) fun _ _ z => z) fun _ _ z => z))
  refine hide fun G hG => ?_
  obtain ⟨it, R, R₀, m, H, rfl, hR, hG, S, k⟩ := h₂
  refine hG ?_
  clear hG
  refine wpAny_newObj_type (wpAny_newFunctionEnv (fun x hx => by have := List.all_eq_true.mp hcell x hx; simpa using this) (by intro y hy; simp at hy) (fun h₁ hns₁ hsb₁ => ?_) hkind) (by size_fits)
  dsimp only at hns₁ hsb₁ ⊢
  have S1 := S.new (t := s₂.toks) (d := .lst []) (h' := s₂.heap.push { cls := .type "list", dict := none, data := .seq ([] : List Value).toArray }) (fun b o e => Heap.get?_push_of_some _ e) ⟨_, Heap.get?_push_size _ rfl, 0, rfl⟩
  have S2 := S1.subC (scope := scope) (cl := cl) (L := _) (t := s₂.toks + ([] : List (Str × Value)).length) rfl hkind hns₁ (fun b o e => hsb₁.extBut b o (Nat.ne_of_lt (Heap.lt_size e)) (Heap.get?_push_of_some _ e))
  have Sw := S.weak hR hG
  refine codeAny_mono (k _ _ _ S.fresh.1 S.fresh.2 (fun m'' H'' s'' S'' => Sw.exit rfl S'') S2 (fun r s' => match r with | .ok _ => ∃ m' H', Sat Z (C.comp m scope cl _) R m' H' s' ∧ ∀ s'', Sat Z C R (put m x (.ref _)) H' s'' → Q .next s'' | .error _ => False) fun m' H' s' a b _ => ⟨m', H', a, b⟩) fun r s' hr => ?_
  cases r with
  | error e => exact hr.elim
  | ok f =>
    refine hide fun G hG => ?_
    obtain ⟨m', H', S', hq⟩ := hr
    refine hG ?_
    clear hG
    have S3 := Sw.exit (C' := C.comp m scope cl _) rfl S'
    refine hide fun G hG => ?_
    obtain ⟨o, es, ep, ho, hd, hk1, hf⟩ := S'.ns
    refine hG ?_
    clear hG
    have hL0 := S'.noneL
    have nL : (s₂.heap.push { cls := .type "list", dict := none, data := .seq ([] : List Value).toArray }).objs.size ≠ C.env.locals := Ne.symm (S'.c.fr _ (.head _))
    have nF : ∀ p ∈ C.frs, p.1 ≠ (s₂.heap.push { cls := .type "list", dict := none, data := .seq ([] : List Value).toArray }).objs.size := fun p hp => S'.c.fr p (.tail _ hp)
    have S4 := S3.learn (d := .ns m' es.size) ho ⟨es, ep, hd, hk1, hf, Nat.le_refl _⟩ S'.rl nL nF
    show wpAny _ _ (assign (.Name x pos') C.env _) _ _ _
    refine wpAny_assign_Name (W_store S4 hsc (fun s5 S5 => ?_) hk)
    refine hide fun G hG => ?_
    obtain ⟨o5, ho5, es5, ep5, e1, e2, e3, e4⟩ := S5.own _ _ up_same
    refine hG ?_
    clear hG
    refine ⟨m', ⟨o5, es5, ep5, ho5, e1, e2, e3⟩, fun h' hs' => wpAny_pure (wpAny_pure (hq _ ?_))⟩
    have S6 := S5.less (H' := H') fun a d e => up_ne (fun q => by rw [q] at e; have := hL0; rw [show (C.comp m scope cl _).env.locals = _ from rfl] at this; rw [this] at e; cases e) e
    exact S6.hush (t := s5.toks) hs' S'.rl hL0 (Ne.symm nL) nF
end

noncomputable def tri : Nat → Nat
  | 0 => 0
  | n + 1 => tri n + n
theorem ifTw {α : Type} {M : Model} {A : Around} {c : Prop} [Decidable c] {a b : Sem α} {Q : α → Shared → Prop} {E : Value → Shared → Prop} {s : Shared} (h : c) (x : wpAny M A a Q E s) : wpAny M A (if c then a else b) Q E s := by rw [if_pos h]; exact x
/-- a clause's turns where a further clause stands inside -/
theorem W_cloopN {Z : Zs} {C : Cx} {R : Rp} {m : Loc} {H : Hp} {s : Shared} {RR : Result → Shared → Prop} {n : Nat} {Item : Nat → Value → Prop} {Src : Hp → Prop} {J : Addr → Nat → Obj → Prop} (T : Itr Z R n Item Src J) {elt : Expr} {gs : List Comprehension} {scope : Scope} {pos : Pos} {d : Nat} {target iter : Expr} {p p2 : Pos} {acc : Value} {it : Addr} {R₀ : Rp} {o : Obj}
    (S : Sat Z C R₀ m H s) (hh : C.A.handled = none) (hR : RLe R R₀) (hit : R₀ it = some o) (hJ : J it 0 o) (hn : R it = none) (hG : ∀ b o, Z.G.get? b = some o → R b = some o)
    (I : Nat → Loc → Hp → Prop) (hsrc : ∀ k m H, I k m H → Src H) (h0 : I 0 m H)
    (step : ∀ k v R' m H s E', k < n → Item k v → RLe R R' → I k m H → Sat Z C R' m H s → ∀ P : Shared → Prop, (∀ s, Nxt Z C R' (I (k + 1)) s → P s) →
      wpAny Z.M C.A (assign target C.env v) (fun _ s₂ => wpAny Z.M C.A (eval iter C.env) (fun x s₃ => wpAny Z.M C.A (pyIter x) (fun it2 s₄ =>
        codeAny Z.M C.A (.compStart (.ListComp elt gs scope pos) (d + 1) it2 acc C.env) (fun r s₅ => match r with | .ok _ => P s₅ | .error _ => False) s₄) E' s₃) E' s₂) E' s)
    (done : ∀ m H s, Sat Z C R m H s → I n m H → RR (.ok .next) s)
    (ht : autoParam (compTurn (.ListComp elt gs scope pos) d (.ref it) acc C.env = (standAt p >>= fun _ => pyNext (.ref it) >>= fun r => match r with
      | none => pure (.done .next)
      | some v => letOwnedTupleGo target (.ref it) v >>= fun _ => assign target C.env v >>= fun _ => (pure true : Sem Bool) >>= fun ok =>
        if ok = true then (eval iter C.env >>= fun x => standAt p2 >>= fun _ => foldedSetIterable iter C.env x >>= fun x => holding [x] (pyIter x) >>= fun i2 => runOwn (.compStart (.ListComp elt gs scope pos) (d + 1) i2 acc C.env) C.env >>= fun _ => again (.compLoop (.ListComp elt gs scope pos) d (.ref it) acc C.env)) else again (.compLoop (.ListComp elt gs scope pos) d (.ref it) acc C.env))) kq)
    (hs : ∀ x, foldedSetIterable iter C.env x = pure x := by intro _; rfl) :
    codeAny Z.M C.A (.compLoop (.ListComp elt gs scope pos) d (.ref it) acc C.env) RR s := by
  refine W_cl0 T S hh hR hit hJ hn hG I hsrc h0 (fun k v R' m H s E' a b c d e F hF => wpAny_mono (step k v R' m H s E' a b c d e _ hF) (fun _ s₂ h₂ => wpAny_bind (wpAny_pure ?_)) fun _ _ z => z) done ht
  refine ifTw rfl ?_
  refine wpAny_bind (wpAny_mono h₂ (fun x s₃ h₃ => wpAny_bind (wpAny_standAt (wpAny_bind (wpAny_of_eq (hs x) (wpAny_bind (wpAny_holding (wpAny_mono h₃ (fun i2 s₄ h₄ => ?_) fun _ _ z => z))))))) fun _ _ z => z)
  refine wpAny_bind (wpAny_runOwn (codeAny_mono h₄ fun r s₅ h₅ => ?_))
  cases r with
  | error e => exact h₅.elim
  | ok f => exact wpAny_pure h₅
section
variable {Z : Zs} {C : Cx} {R : Rp} {m m' : Loc} {H : Hp} {s : Shared} {E : Value → Shared → Prop} {na : Addr} {nvs : List Value} {ns : List Int}
theorem PairsAt.off {H : Hp} {a : Addr} {d : D} {vs : List Value} {st : List (Nat × Nat)} (h : PairsAt H vs st) (ha : ∀ us, H a ≠ some (.tup us)) : PairsAt (up H a d) vs st := h.mono fun t u x v y e => by
  exact up_ne (fun q => ha _ (q ▸ e)) e

theorem PairsAt.rep {H : Hp} {tq : Addr} {a b : Nat} {ua ub : Tok} (h : H tq = some (.tup [.int a ua, .int b ub])) : ∀ c, PairsAt H (List.replicate c [Value.ref tq]).flatten (List.replicate c (a, b))
  | 0 => .nil
  | c + 1 => .cons h (PairsAt.rep h c)
inductive IvH (D : Addr) (H : Hp) (k : Nat) (m : Loc) (H' : Hp) : Prop
  | mk (ke : Ke H H') (vs : List Value) (pl : List (Nat × Nat)) (h1 : H' D = some (.lst vs)) (h2 : PairsAt H' vs pl) (h3 : pl.length = tri k) (h4 : ∀ p ∈ pl, p.1 ∈ K5 ∧ p.2 ∈ K5) : IvH D H k m H'
inductive IvI (D : Addr) (H : Hp) (n : Nat) (j : Nat) (m : Loc) (H' : Hp) : Prop
  | mk (ke : Ke H H') (m1 : ∃ tv, m "two" = some (.int (n : Int) tv)) (vs : List Value) (pl : List (Nat × Nat)) (h1 : H' D = some (.lst vs)) (h2 : PairsAt H' vs pl) (h3 : pl.length = tri n + j) (h4 : ∀ p ∈ pl, p.1 ∈ K5 ∧ p.2 ∈ K5) : IvI D H n j m H'
inductive IvJ (na D sa : Addr) (pvs : List Value) (pl : List (Nat × Nat)) (H : Hp) (k : Nat) (m : Loc) (H' : Hp) : Prop
  | mk (m1 : m "numbers" = some (.ref na)) (m2 : m "pairs" = some (.ref D)) (m3 : m "steps" = some (.ref sa)) (ke : Ke H H') (hD : H' D = some (.lst pvs)) (hpl : PairsAt H' pvs pl) (sv : List Value) (st : List (Nat × Nat)) (h1 : H' sa = some (.lst sv)) (h2 : PairsAt H' sv st) (h3 : st.length ≤ 2 * k) (h4 : ∀ p ∈ st, p.1 ∈ K5 ∧ p.2 ∈ K5) : IvJ na D sa pvs pl H k m H'
theorem spec_steps {Q : Value → Shared → Prop} (S : Sat Z C R m H s) (hrm : 1 < C.rm) (hh0 : C.A.handled = none) (hna : H na = some (.lst nvs)) (hni : IntsAre nvs ns) (hn : ns.length = 10)
    (h : ∀ D dv st s' H', Ke H H' → H D = none → H' D = some (.lst dv) → PairsAt H' dv st → (∀ p ∈ st, p.1 ∈ K5 ∧ p.2 ∈ K5) → st.length ≤ 100 → Sat Z C R m H' s' → Q (.ref D) s') :
    wpAny Z.M C.A (call (.ref 160) [.ref na] []) Q E s := by
  refine W_enter S (by rfl) (by exact rm0 (by assumption) (Nat.le_of_ble_eq_true rfl)) (by rfl) (BindsTo.of_eq (binds := [("numbers", .ref na)]) (by rfl)) fun C' s' hsc hcl hr hh ex S' => ?_
  have hG := S.rg
  clear S
  (with_reducible refine W_cons ?_; intro _ _)
  refine W_acomp (cl := []) hsc (closureFor_none (by decide)) (by unfold swapsWith Env.blockKind Env.kindOf; rw [hsc]; rfl) ?_
  with_reducible refine wpAny_Call_NameR ?_
  refine W_blt (v := .type "range") S' hsc (by kernel_rfl) ?_
  refine W_callT ?_
  with_reducible refine spliced_more ?_ (by kernel_rfl)
  refine W_int S' fun t1 s S => ?_
  clear S'
  with_reducible refine spliced_none ?_
  refine W_range1 S fun rg u1 u2 u3 s r1 _ S => ?_
  refine W_iterR (n := 5) S up_same (by decide) (by decide) (by decide) (by decide) (by decide) fun it o R₀ s f1 f2 f3 f4 S' => ?_
  refine ⟨it, R, R₀, _, _, rfl, f1, hG, S', fun L D s d1 d2 exC S2 RR hRR => ?_⟩
  have k1 : Ke H (up H rg (.ob (rangeO 0 5 u1 u2 u3))) := Ke.new r1
  have k2 := Ke.new (d := .lst []) d1
  have nD : H D = none := k1.none d1
  refine W_cstart (R := R) (itrR 0 5) S2 trivial f2 f3 (by rfl) (by rfl) ?_
  refine W_cloopN (itrR 0 5) S2 (hh.trans hh0) f1 f2 f3 f4 hG (IvH D H)
    (fun k m H' hI => trivial) ⟨k1.trans k2, [], [], up_same, .nil, rfl, by simp⟩ ?_ ?_
  · clear S S' S2
    intro k v R' m H' s E' hk hPat8 hR hPat10 S P hP
    refine hide fun G hG => ?_
    obtain ⟨tv, rfl⟩ := hPat8
    obtain ⟨ke, vs, pl, hD, hpl, hlen, hpK⟩ := hPat10
    refine hG ?_
    clear hG
    have ek : (0 : Int) + (k : Nat) = ((k : Nat) : Int) := by lia
    rw [ek]
    (with_reducible refine wpAny_assign_Name ?_; dsimp only)
    refine W_store S (comp_scope hsc) fun s S => ?_
    with_reducible refine wpAny_Call_NameR ?_
    refine W_blt (v := .type "range") S (comp_scope hsc) (by kernel_rfl) ?_
    refine W_callT ?_
    with_reducible refine spliced_more ?_ (by kernel_rfl)
    refine W_loc S (comp_scope hsc) (by rfl) ?_
    with_reducible refine spliced_none ?_
    refine W_range1 (C := C'.comp _ _ [] L) S fun rg2 v1 v2 v3 s r2 _ S => ?_
    refine W_iterR (C := C'.comp _ _ [] L) (n := k) S up_same (by split <;> lia) (by decide) (by decide) (by exact Int.natCast_nonneg _) (by exact in1 (by assumption) (Nat.le_of_ble_eq_true rfl) (by decide)) fun it2 o2 R2 s h1 h2 h3 h4 S2 => ?_
    have k3 := Ke.new (d := .ob (rangeO 0 ((k : Nat) : Int) v1 v2 v3)) r2
    refine W_cstart (C := C'.comp _ _ [] L) (R := R') (itrR 0 k) S2 trivial h2 h3 (by rfl) (by rfl) ?_
    refine W_cloop (C := C'.comp _ _ [] L) (itrR 0 k) S2 (hh.trans hh0) h1 h2 h3 h4 S.rg (IvI D H k)
      (fun k m H' hI => trivial) ⟨ke.trans k3, ⟨tv, by rfl⟩, vs, pl, k3 _ _ hD, hpl.ke k3, by assumption, hpK⟩ ?_ ?_
    · clear S S2 hD hpl hlen hpK ke k3
      intro j v R3 m H3 s E3 hj hPat8 hR3 hPat10 S P2 hP2
      refine hide fun G hG => ?_
      obtain ⟨tw, rfl⟩ := hPat8
      obtain ⟨ke, ⟨tv, m1⟩, vs, pl, hD, hpl, hlen, hpK⟩ := hPat10
      refine hG ?_
      clear hG
      have ej : (0 : Int) + (j : Nat) = ((j : Nat) : Int) := by lia
      rw [ej]
      have hvl := hpl.length
      have htk : tri k ≤ 10 := by
        have : k = 0 ∨ k = 1 ∨ k = 2 ∨ k = 3 ∨ k = 4 := by exact of5 (by assumption)
        rcases this with rfl | rfl | rfl | rfl | rfl <;> decide
      (with_reducible refine wpAny_assign_Name ?_; dsimp only)
      refine W_store S (comp_scope hsc) fun s S => ?_
      refine wpAny_tests_nil ?_
      refine ifT rfl ?_
      refine W_emit ?_
      with_reducible refine Tuple_ ?_
      with_reducible refine spliced_more ?_ (by kernel_rfl)
      refine W_loc S (comp_scope hsc) (by rfl) ?_
      with_reducible refine spliced_more ?_ (by kernel_rfl)
      refine W_loc S (comp_scope hsc) (by assumption) ?_
      with_reducible refine spliced_none ?_
      refine W_newTuple (C := C'.comp _ _ [] L) S (fun tp s q1 q2 S => ?_) (by simp)
      have k4 := Ke.new (d := .tup [.int ((j : Nat) : Int) tw, .int ((k : Nat) : Int) tv]) q1
      refine W_append S (k4 _ _ hD) (fun s S => ?_) (by lia)
      have hDD : ∀ us, (up H3 tp (.tup [.int ((j : Nat) : Int) tw, .int ((k : Nat) : Int) tv])) D ≠ some (.tup us) := fun us => by rw [k4 _ _ hD]; simp
      refine hP2 _ ⟨_, _, S, (ke.trans k4).up nD, ⟨tv, by assumption⟩, _, pl ++ [(j, k)], up_same, ?_, by simp; lia, ?_⟩
      · refine PairsAt.append ((hpl.ke k4).off hDD) (.cons (u := tw) (v := tv) ?_ .nil)
        exact up_ne (fun q => hDD _ (by rw [← q]; exact up_same)) up_same
      · intro p hp
        rcases List.mem_append.mp hp with hp | hp
        · exact hpK p hp
        · obtain rfl : p = (j, k) := by simpa using hp
          have : ∀ i, i < 5 → i ∈ K5 := by decide
          exact ⟨this j (by lia), this k hk⟩
    · clear S S2 hD hpl hlen hpK ke k3
      rintro m H3 s S ⟨ke, _, vs, pl, hD, hpl, hlen, hpK⟩
      exact hP _ ⟨m, H3, S, ke, vs, pl, hD, hpl, by rw [hlen]; rfl, hpK⟩
  · clear S S' S2
    rintro m H' s S ⟨ke, pvs, pl, hD, hpl, hlen, hpK⟩
    refine hRR _ _ _ S (fun s S => ?_) _
    have hpvl : pvs.length = 10 := by rw [hpl.length, hlen]; rfl
    have hnvl : nvs.length = 10 := hni.length.trans hn
    (with_reducible refine Then.nx (by assumption) _ ?_; with_reducible refine W_cons ?_; intro _ _)
    with_reducible refine wpAny_Assign_Name ?_ (by kernel_rfl)
    with_reducible refine List_ ?_
    with_reducible refine spliced_none ?_
    refine W_newList S (fun sa s s1 _ S => ?_) (by simp)
    refine W_store S hsc fun s S => ?_
    have k3 := Ke.new (d := .lst []) s1
    have nsa : H sa = none := ke.none s1
    have hDsa : D ≠ sa := ne_of_n hD s1
    (with_reducible refine Then.nx (by assumption) _ ?_; with_reducible refine W_cons ?_; intro _ _)
    (with_reducible refine wpAny_For ?_ (by intros; kernel_rfl))
    with_reducible refine wpAny_Call_NameR ?_
    refine W_blt (v := .type "range") S hsc (by kernel_rfl) ?_
    refine W_callT ?_
    with_reducible refine spliced_more ?_ (by kernel_rfl)
    refine W_int S fun t2 s S => ?_
    with_reducible refine spliced_none ?_
    refine W_range1 S fun rg2 v1 v2 v3 s r2 _ S => ?_
    have k4 := k3.trans (Ke.new (d := .ob (rangeO 0 10 v1 v2 v3)) r2)
    have hsa0 := (Ke.new (d := .ob (rangeO 0 10 v1 v2 v3)) r2) sa (.lst []) up_same
    refine W_iterR (n := 10) S up_same (by decide) (by decide) (by decide) (by decide) (by decide) fun it o R₀ s f1 f2 f3 f4 S' => ?_
    refine W_for (itrR 0 10) S' (hh.trans hh0) f1 f2 f3 f4 S.rg (IvJ na D sa pvs pl H)
      (fun k m H' hI => trivial) ⟨by rfl, by rfl, by rfl, ke.trans k4, k4 _ _ hD, hpl.ke k4, [], [], hsa0, .nil, by simp, by simp⟩ ?_ ?_
    · clear S S' hD k3 k4 hsa0
      have hpl' := hpl
      clear hpl ke
      intro k v R' m H3 s E' hk hPat8 hR hPat10 S _ _
      refine hide fun G hG => ?_
      obtain ⟨tv, rfl⟩ := hPat8
      obtain ⟨m1, m2, m3, ke, hD, hpl, sv, st, hsv, hst, hsl, hsK⟩ := hPat10
      refine hG ?_
      clear hG
      have ek : (0 : Int) + (k : Nat) = ((k : Nat) : Int) := by lia
      rw [ek]
      refine hide fun G hG => ?_
      obtain ⟨pv, hpv⟩ : ∃ v, pvs[k]? = some v := ⟨pvs[k]'(by exact lt2 (by assumption) (by assumption)), List.getElem?_eq_getElem _⟩
      refine hG ?_
      clear hG
      refine hide fun G hG => ?_
      obtain ⟨tp, p1, p2, w1, w2, rfl, hplk, htp⟩ := hpl.at k pv hpv
      refine hG ?_
      clear hG
      refine hide fun G hG => ?_
      obtain ⟨hK1, hK2⟩ := hpK _ (List.mem_of_getElem? hplk)
      refine hG ?_
      clear hG
      refine hide fun G hG => ?_
      obtain ⟨nv, hnv⟩ : ∃ v, nvs[k]? = some v := ⟨nvs[k]'(by exact lt2 (by assumption) (by assumption)), List.getElem?_eq_getElem _⟩
      refine hG ?_
      clear hG
      refine hide fun G hG => ?_
      obtain ⟨nz, tnz, rfl, _⟩ := hni.at k _ hnv
      refine hG ?_
      clear hG
      have hsvl := hst.length
      with_reducible refine wpAny_assign_Name ?_
      refine W_store S hsc fun s S => ?_
      (with_reducible refine W_cons ?_; intro _ _)
      refine Assign_Tuple ?_
      with_reducible refine Subscript_ ?_
      refine W_loc S hsc (by assumption) ?_
      refine W_loc S hsc (by rfl) ?_
      refine W_subL S (LIn.of hD) (by exact Int.natCast_nonneg _) (by rw [Int.toNat_natCast]; exact hpv) ?_ (by exact in1 (by assumption) (Nat.le_of_ble_eq_true rfl) (by decide))
      refine W_pair S (hh.trans hh0) (TIn.of htp) fun s S => ?_
      with_reducible refine wpAny_assign_Name ?_
      refine W_store S hsc fun s S => ?_
      with_reducible refine wpAny_assign_Name ?_
      refine W_store S hsc fun s S => ?_
      (with_reducible refine Then.nx (by assumption) _ ?_; with_reducible refine W_cons ?_; intro _ _)
      refine wpAny_mono (Q := fun f s => f = .next ∧ ∃ m' H4 a b ua ub, Sat Z C' R' m' H4 s ∧ Ke H3 H4 ∧ m' "one" = some (.int ((a : Nat) : Int) ua) ∧ m' "two" = some (.int ((b : Nat) : Int) ub) ∧ a ∈ K5 ∧ b ∈ K5 ∧ m' "numbers" = some (.ref na) ∧ m' "pairs" = some (.ref D) ∧ m' "steps" = some (.ref sa) ∧ m' "k" = some (.int ((k : Nat) : Int) tv)) (E := E') ?_ ?_ (fun _ _ z => z)
      · with_reducible refine wpAny_If ?_
        with_reducible refine wpAny_isTrue_Compare1 ?_ (by kernel_rfl)
        with_reducible refine wpAny_BinOp ?_
        with_reducible refine wpAny_BinOp ?_
        with_reducible refine Subscript_ ?_
        refine W_loc S hsc (by assumption) ?_
        refine W_loc S hsc (by rfl) ?_
        refine W_subL S (LIn.of (ke _ _ hna)) (by exact Int.natCast_nonneg _) (by rw [Int.toNat_natCast]; exact hnv) ?_ (by exact in1 (by assumption) (Nat.le_of_ble_eq_true rfl) (by decide))
        refine W_int S fun y1 s S => ?_
        refine W_div S (by decide) (by decide) fun y2 s S => ?_
        refine W_int S fun y3 s S => ?_
        refine W_mod S (by decide) fun y4 s S => ?_
        refine W_int S fun y5 s S => ?_
        refine W_eqI ?_
        with_reducible refine wpAny_truthy_bool ?_
        by_cases hc : (Int.fmod (Int.fdiv nz 20) 8 == 7) = true
        · refine ifT hc ?_
          (with_reducible refine W_cons ?_; intro _ _)
          refine Assign_Tuple_swapped (names := ["one", "two"]) ?_ (by rfl) (by unfold swappedStores Env.blockKind Env.kindOf; rw [hsc]; rfl)
          with_reducible refine Tuple_ ?_
          with_reducible refine spliced_more ?_ (by kernel_rfl)
          refine W_loc S hsc (by rfl) ?_
          with_reducible refine spliced_more ?_ (by kernel_rfl)
          refine W_loc S hsc (by rfl) ?_
          with_reducible refine spliced_none ?_
          refine W_newTuple S (fun tp2 s q1 q2 S => ?_) (by simp)
          refine W_swap S (hh.trans hh0) (TIn.of up_same) fun s S => ?_
          refine assignInOrder_cons (bindName_ ?_)
          refine W_store S hsc fun s S => ?_
          refine assignInOrder_cons (bindName_ ?_)
          refine W_store S hsc fun s S => ?_
          refine assignInOrder_nil ?_
          (with_reducible refine Then.nx (by assumption) _ ?_; with_reducible refine wpAny_execs_nil ?_)
          exact ⟨rfl, _, _, p2, p1, _, _, S, Ke.new q1, by rfl, by rfl, hK2, hK1, by assumption, by assumption, by assumption, by rfl⟩
        · refine ifF hc ?_
          with_reducible refine wpAny_execs_nil ?_
          exact ⟨rfl, _, _, p1, p2, _, _, S, Ke.refl, by rfl, by rfl, hK1, hK2, by assumption, by assumption, by assumption, by rfl⟩
      · clear S m1 m2 m3
        rintro f s ⟨rfl, m, H4, a, b, ua, ub, S, k4, m4, m5, hKa, hKb, m1, m2, m3, m6⟩
        have hsv4 := k4 _ _ hsv
        (with_reducible refine Then.nx (by assumption) _ ?_; with_reducible refine W_cons ?_; intro _ _)
        refine W_expr S ?_
        with_reducible refine methodCall_KW ?_ (by with_unfolding_all rfl)
        refine W_loc S hsc m3 ?_
        refine W_lmeth S hsv4 PySem.F.slot_list_extend PySem.F.type_list_extend ?_
        refine W_callB ?_
        (with_reducible refine spliced_more ?_ (by kernel_rfl); dsimp only)
        with_reducible refine wpAny_BinOp ?_
        with_reducible refine List_ ?_
        with_reducible refine spliced_more ?_ (by kernel_rfl)
        with_reducible refine Tuple_ ?_
        with_reducible refine spliced_more ?_ (by kernel_rfl)
        refine W_loc S hsc m4 ?_
        with_reducible refine spliced_more ?_ (by kernel_rfl)
        refine W_loc S hsc m5 ?_
        with_reducible refine spliced_none ?_
        refine W_newTuple S (fun tq s q1 _ S => ?_) (by simp)
        with_reducible refine spliced_none ?_
        refine W_newList S (fun tl s q3 _ S => ?_) (by simp)
        with_reducible refine Subscript_ ?_
        with_reducible refine List_ ?_
        with_reducible refine spliced_more ?_ (by kernel_rfl)
        refine W_int S fun z1 s S => ?_
        with_reducible refine spliced_more ?_ (by kernel_rfl)
        refine W_int S fun z2 s S => ?_
        with_reducible refine spliced_more ?_ (by kernel_rfl)
        refine W_int S fun z3 s S => ?_
        with_reducible refine spliced_more ?_ (by kernel_rfl)
        refine W_int S fun z4 s S => ?_
        with_reducible refine spliced_none ?_
        refine W_newList S (fun tm s q4 _ S => ?_) (by simp)
        with_reducible refine wpAny_BinOp ?_
        with_reducible refine Subscript_ ?_
        refine W_loc S hsc m1 ?_
        refine W_loc S hsc m6 ?_
        have k5 := (Ke.new (d := .tup [.int ((a : Nat) : Int) ua, .int ((b : Nat) : Int) ub]) q1).trans (Ke.new (d := .lst [.ref tq]) q3)
        have htq := (Ke.new (d := .lst [.ref tq]) q3) tq (.tup [.int ((a : Nat) : Int) ua, .int ((b : Nat) : Int) ub]) up_same
        have k6 := Ke.new (d := .lst [.int 0 z1, .int 0 z2, .int 1 z3, .int 2 z4]) q4
        have k7 : Ke H3 _ := k4.trans (k5.trans k6)
        refine W_subL S (LIn.of (k7 _ _ (ke _ _ hna))) (by exact Int.natCast_nonneg _) (by rw [Int.toNat_natCast]; exact hnv) ?_ (by exact in1 (by assumption) (Nat.le_of_ble_eq_true rfl) (by decide))
        refine W_int S fun y1 s S => ?_
        refine W_mod S (by decide) fun y2 s S => ?_
        have hj0 : 0 ≤ Int.fmod nz 4 := Int.fmod_nonneg_of_pos _ (by exact Int.natCast_nonneg _)
        have hj1 : Int.fmod nz 4 < 4 := Int.fmod_lt_of_pos _ (by exact Int.natCast_nonneg _)
        generalize Int.fmod nz 4 = j at hj0 hj1 S
        obtain ⟨c, tc, hc0, hc2⟩ : ∃ c tc, ([.int 0 z1, .int 0 z2, .int 1 z3, .int 2 z4] : List Value)[j.toNat]? = some (.int ((c : Nat) : Int) tc) ∧ c ≤ 2 := by
          have : j = 0 ∨ j = 1 ∨ j = 2 ∨ j = 3 := by lia
          rcases this with rfl | rfl | rfl | rfl
          · exact ⟨0, z1, rfl, by lia⟩
          · exact ⟨0, z2, rfl, by lia⟩
          · exact ⟨1, z3, rfl, by lia⟩
          · exact ⟨2, z4, rfl, by lia⟩
        refine W_subL S (LIn.of up_same) hj0 hc0 ?_ (by lia)
        refine W_mulL S (k6 _ _ up_same) (by exact Int.natCast_nonneg _) (by lia) (by simp) fun tn s q5 _ S => ?_
        rw [Int.toNat_natCast] at S
        have k8 := Ke.new (d := .lst (List.replicate c [.ref tq]).flatten) q5
        with_reducible refine spliced_none ?_
        refine W_extendL S ((k7.trans k8) _ _ hsv) up_same (fun s S => ?_) (by simp; lia)
        (with_reducible refine Then.nx (by assumption) _ ?_; with_reducible refine wpAny_execs_nil ?_; with_reducible refine Turn.nx (by assumption) _ ?_)
        have k9 := k7.trans k8
        have hno : ∀ us, (up (up (up (up H4 tq (.tup [.int ((a : Nat) : Int) ua, .int ((b : Nat) : Int) ub])) tl (.lst [.ref tq])) tm (.lst [.int 0 z1, .int 0 z2, .int 1 z3, .int 2 z4])) tn (.lst (List.replicate c [.ref tq]).flatten)) sa ≠ some (.tup us) := fun us => by rw [k9 _ _ hsv]; simp
        have hrep := PairsAt.rep (k8 _ _ (k6 _ _ htq)) c
        refine ⟨_, _, S, m1, m2, m3, (ke.trans k9).up nsa, ?_, (hpl.ke k9).off hno, _, st ++ List.replicate c (a, b), up_same, ((hst.ke k9).append hrep).off hno, by simp; lia, ?_⟩
        · exact up_ne hDsa (k9 _ _ hD)
        · intro p hp
          rcases List.mem_append.mp hp with hp | hp
          · exact hsK p hp
          · obtain ⟨_, rfl⟩ := List.mem_replicate.mp hp
            exact ⟨hKa, hKb⟩
    · clear S S' hD k3 k4 hsa0
      rintro m H3 s S ⟨m1, m2, m3, ke, hD, hpl, sv, st, hsv, hst, hsl, hsK⟩
      dsimp only
      (with_reducible refine Then.nx (by assumption) _ ?_; with_reducible refine W_cons ?_; intro _ _)
      with_reducible refine wpAny_Return_some ?_
      refine W_loc S hsc m3 ?_
      with_reducible refine Then.ret (by assumption) _ _ ?_
      exact h sa sv st _ _ ke nsa hsv hst hsK (by exact le1 (by assumption) (Nat.le_of_ble_eq_true rfl)) (ex _ _ _ S)
end

section
variable {Z : Zs} {C : Cx} {R : Rp} {m m' : Loc} {H : Hp} {s : Shared} {E : Value → Shared → Prop} {a b : Addr}
theorem W_neB {Q : Value → Shared → Prop} {b1 b2 c1 c2 : Bool} (S : Sat Z C R m H s) (hl : LIn R H a [.bool b1, .bool b2]) (hl' : LIn R H b [.bool c1, .bool c2]) (h : Q (.bool (!(b1 == c1 && b2 == c2))) s) : wpAny Z.M C.A (compareOp .NotEq (.ref a) (.ref b)) Q E s := by
  have rd : ∀ {a : Addr} {x y : Bool}, s.heap.IsList a ([.bool x, .bool y] : List Value).toArray → Reads s.heap (.ref a) (.list [.bool x, .bool y]) [a] := by
    rintro a x y ⟨o, ho, hc, n, hd⟩
    exact Reads.list ho hc hd (by simpa using ReadsAll.cons (Reads.bool x) (ReadsAll.cons (Reads.bool y) .nil))
  refine ne_dataH_same (rd (S.isList hl)) (rd (S.isList hl')) (by generalize b1 = g0; generalize b2 = g1; revert g0 g1; decide) (by generalize c1 = g0; generalize c2 = g1; revert g0 g1; decide) S.room (by generalize b1 = g0; generalize b2 = g1; generalize c1 = g2; generalize c2 = g3; revert g0 g1 g2 g3; decide) ?_
  have e : PySem.Spec.same (.list [.bool b1, .bool b2]) (.list [.bool c1, .bool c2]) = (b1 == c1 && b2 == c2) := by generalize b1 = g0; generalize b2 = g1; generalize c1 = g2; generalize c2 = g3; revert g0 g1 g2 g3; decide
  rw [e]; exact h
end
theorem W_neBool {Z : Zs} {C : Cx} {R : Rp} {m : Loc} {H : Hp} {s : Shared} {E : Value → Shared → Prop} {Q : Value → Shared → Prop} {x y : Bool} (S : Sat Z C R m H s) (h : Q (.bool (!(x == y))) s) : wpAny Z.M C.A (compareOp .NotEq (.bool x) (.bool y)) Q E s := by
  refine ne_dataH_same (Reads.bool x) (Reads.bool y) (by generalize x = g0; revert g0; decide) (by generalize y = g0; revert g0; decide) S.room (by generalize x = g0; generalize y = g1; revert g0 g1; decide) ?_
  have e : PySem.Spec.same (.bool x) (.bool y) = (x == y) := by generalize x = g0; generalize y = g1; revert g0 g1; decide
  rw [e]; exact h
/-- lists and tuples are kept -/
noncomputable def Kz (X Y : Hp) : Prop := (∀ b vs, X b = some (.lst vs) → Y b = some (.lst vs)) ∧ ∀ b vs, X b = some (.tup vs) → Y b = some (.tup vs)
theorem Ke.kz {X Y : Hp} (k : Ke X Y) : Kz X Y := ⟨fun _ _ e => k _ _ e, fun _ _ e => k _ _ e⟩
theorem Kz.trans {X Y W : Hp} (k : Kz X Y) (j : Kz Y W) : Kz X W := ⟨fun b vs e => j.1 b vs (k.1 b vs e), fun b vs e => j.2 b vs (k.2 b vs e)⟩
theorem Kz.cell {X : Hp} {c : Addr} {v w : Option Value} (h : X c = some (.cell v)) : Kz X (up X c (.cell w)) := ⟨fun b vs e => up_ne (ne_of_t e h rfl) e, fun b vs e => up_ne (ne_of_t e h rfl) e⟩
theorem Kt.kz {pos : Pos} {q : Str} {X Y : Hp} (k : Kt X Y) (T : Tab pos q X) : Kz X Y := ⟨fun b vs e => k.get T e (by simp), fun b vs e => k.get T e (by simp)⟩
theorem Kz.pairs {X Y : Hp} (k : Kz X Y) {vs : List Value} {st : List (Nat × Nat)} (h : PairsAt X vs st) : PairsAt Y vs st := h.mono fun _ _ _ _ _ e => k.2 _ _ e
theorem Kz.lin {X Y : Hp} (k : Kz X Y) {R : Rp} {a : Addr} {vs : List Value} (h : LIn R X a vs) : LIn R Y a vs := h.imp (fun e => k.1 _ _ e) id
theorem Tab.cell {pos : Pos} {q : Str} {X : Hp} {c : Addr} {v w : Option Value} (T : Tab pos q X) (h : X c = some (.cell v)) : Tab pos q (up X c (.cell w)) := by
  refine hide fun G hG => ?_
  obtain ⟨ps, h1, h2⟩ := T
  refine hG ?_
  clear hG
  refine ⟨ps, up_ne (ne_of_t h1 h rfl) h1, ?_⟩
  rcases h2 with rfl | ⟨c', oc, vs, t, rfl, h3, h4, h5⟩
  · exact .inl rfl
  · exact .inr ⟨c', oc, vs, t, rfl, up_ne (ne_of_t h3 h rfl) h3, h4, h5⟩
theorem Kt.cell {pos : Pos} {q : Str} {X Y : Hp} (k : Kt X Y) (T : Tab pos q X) {c : Addr} {v : Option Value} (h : X c = some (.cell v)) : Y c = some (.cell v) := k.get T h (by simp)
inductive IvK (D : Addr) (H : Hp) (k : Nat) (m : Loc) (H' : Hp) : Prop
  | mk (ke : Ke H H') (vs : List Value) (ch : List Nat) (h1 : H' D = some (.lst vs)) (h2 : IntsAre vs (zs ch)) (h3 : ch.length ≤ k) : IvK D H k m H'
inductive IvL (sa l ga D2 fl : Addr) (us : List Value) (H : Hp) (m : Loc) (H' : Hp) : Prop
  | mk (m1 : m "script" = some (.ref sa)) (m2 : m "steps" = some (.ref l)) (m3 : m "goal" = some (.ref ga)) (m4 : m "torn" = some (.ref D2)) (h1 : H' fl = some (.lst us)) (T : Tab lamPos lamQ H') (kt : Kt H H') : IvL sa l ga D2 fl us H m H'
inductive IvM (D : Addr) (H : Hp) (k : Nat) (m : Loc) (H' : Hp) : Prop
  | mk (ke : Ke H H') (vs : List Value) (sz : List Nat) (h1 : H' D = some (.lst vs)) (h2 : IntsAre vs (zs sz)) (h3 : ∀ x ∈ sz, x ≤ 5) (h4 : sz.length = k) : IvM D H k m H'
set_option maxHeartbeats 1000000 in
theorem law_body {Z : Zs} {C : Cx} {R : Rp} {m : Loc} {H : Hp} {s : Shared} {Q : Value → Shared → Prop} {fd : FuncData} {body : List Stmt} {oc : Value} {od : Option Addr} {osl : Array (Option Value)} {n sa : Addr} {svs : List Value} {ss : List Int} {v1 v2 v3 : Option Value}
    (ho : (Kw Z.w).lookup 205 = some ⟨oc, od, .func fd, osl⟩) (hb : fd.body = .stmts body) (hsc : C.env.scope = fd.scope) (hcl : C.env.cells = [(Str.ofString "chosen", n + 1 + 1), (Str.ofString "total", n + 1), (Str.ofString "row", n)]) (hh : C.A.handled = none)
    (S : Sat Z C R m H s) (o2 : Z.Ok2) (hrm : 20 < C.rm) (T : Tab lamPos lamQ H) (hsm : m "script" = some (.ref sa)) (hsa : LIn R H sa svs) (hss : IntsAre svs ss) (hz : svs.length ≤ 1000)
    (c1 : H n = some (.cell v1)) (c2 : H (n + 1) = some (.cell v2)) (c3 : H (n + 1 + 1) = some (.cell v3))
    (h : ∀ m' H' s', Tab lamPos lamQ H' → Sat Z C R m' H' s' → Q (.bool true) s') :
    wpAny Z.M C.A (execs body C.env) (fun fl s' => Q (retv fl) s') (fun _ _ => False) s := by
  have ho' := (show (Kw Z.w).lookup 205 = _ from rfl).symm.trans ho
  cases ho'
  cases hb
  have w1 : n ≠ n + 1 := Ne.symm (Nat.succ_ne_self n)
  have w2 : n + 1 ≠ n + 1 + 1 := Ne.symm (Nat.succ_ne_self _)
  have w3 : n ≠ n + 1 + 1 := Nat.ne_of_lt (Nat.lt_of_lt_of_le (Nat.lt_succ_self n) (Nat.le_succ _))
  have kl : ∀ {H' : Hp}, Ke H H' → LIn R H' sa svs := fun {H'} k => hsa.imp (fun q => k _ _ q) id
  (with_reducible refine W_cons ?_; intro _ _)
  with_reducible refine wpAny_Assign_Name ?_ (by kernel_rfl)
  with_reducible refine wpAny_Call_NameR ?_
  refine W_glob (v := .ref 155) S hsc (by kernel_rfl) ?_
  refine W_callF ?_
  with_reducible refine spliced_more ?_ (by kernel_rfl)
  refine W_loc S hsc hsm ?_
  with_reducible refine spliced_none ?_
  refine ⟨S.K, ?_⟩
  refine spec_numbers S (by exact rm0 (by assumption) (Nat.le_of_ble_eq_true rfl)) hh hsa hss (by exact le1 (by assumption) (Nat.le_of_ble_eq_true rfl)) fun na nv ns s H1 k1 e1 hna hni hn10 S => ?_
  refine W_store S hsc fun s S => ?_
  (with_reducible refine Then.nx (by assumption) _ ?_; with_reducible refine W_cons ?_; intro _ _)
  with_reducible refine wpAny_Assign_Name ?_ (by kernel_rfl)
  with_reducible refine wpAny_Call_NameR ?_
  refine W_glob (v := .ref 160) S hsc (by kernel_rfl) ?_
  refine W_callF ?_
  with_reducible refine spliced_more ?_ (by kernel_rfl)
  refine W_loc S hsc (by rfl) ?_
  with_reducible refine spliced_none ?_
  refine ⟨S.K, ?_⟩
  refine spec_steps S (by exact rm0 (by assumption) (Nat.le_of_ble_eq_true rfl)) hh hna hni hn10 fun l lv st s H2 k2 e2 hl hp h5 hstz S => ?_
  refine W_store S hsc fun s S => ?_
  have hna2 := k2 _ _ hna
  have hnl : nv.length = 10 := hni.length.trans hn10
  (with_reducible refine Then.nx (by assumption) _ ?_; with_reducible refine W_cons ?_; intro _ _)
  refine Assign_Tuple ?_
  with_reducible refine wpAny_Call_NameR ?_
  refine W_glob (v := .ref 174) S hsc (by kernel_rfl) ?_
  refine W_callF ?_
  with_reducible refine spliced_more ?_ (by kernel_rfl)
  refine W_loc S hsc (by rfl) ?_
  with_reducible refine spliced_more ?_ (by kernel_rfl)
  refine W_slice ?_
  refine W_loc S hsc (by rfl) ?_
  refine wpAny_evalPart_none ?_
  refine wpAny_evalPart_some ?_
  refine W_int S fun t1 s S => ?_
  refine ⟨na, nv, none, some 5, _, _, _, rfl, S, LIn.of hna2, by lia, .none, .int _ _, fun D1 s x1 x2 S => ?_⟩
  with_reducible refine spliced_none ?_
  refine ⟨S.K, ?_⟩
  have k3 := Ke.new (d := .lst (sliced nv none (some 5))) x1
  refine spec_row S (by exact rm0 (by assumption) (Nat.le_of_ble_eq_true rfl)) hh (k3 _ _ hl) (hp.ke k3) h5 hstz up_same (sliced_upto hni (by decide)) (by simp; lia) fun tp ra row rvs b s H3 k4 e4 htp e5 hra hri fr hb1 S => ?_
  have K3 : Ke H2 H3 := k3.trans k4
  refine W_pair S hh (TIn.of htp) fun s S => ?_
  with_reducible refine wpAny_assign_Name ?_
  have K03 : Ke H H3 := (k1.trans k2).trans K3
  have c13 := K03 _ _ c1
  refine W_storeC (c := n) S hsc (by rw [hcl]; rfl) c13 fun s S => ?_
  with_reducible refine wpAny_assign_Name ?_
  refine W_store S hsc fun s S => ?_
  have z4 := Kz.cell (w := some (.ref ra)) c13
  have T4 := (T.ke K03).cell (w := some (.ref ra)) c13
  have na4 := z4.1 _ _ (K3 _ _ hna2)
  have l4 := z4.1 _ _ (K3 _ _ hl)
  have p4 := z4.pairs (hp.ke K3)
  have ra4 := z4.1 _ _ hra
  have sa4 := z4.lin (kl K03)
  have c14 := up_same (H := H3) (a := n) (o := D.cell (some (.ref ra)))
  have c24 : (up H3 n (.cell (some (.ref ra)))) (n + 1) = some (.cell v2) := up_ne (Ne.symm w1) (K03 _ _ c2)
  have c34 : (up H3 n (.cell (some (.ref ra)))) (n + 1 + 1) = some (.cell v3) := up_ne (Ne.symm w3) (K03 _ _ c3)
  clear z4 K03 K3 k3 k4 hna2 hl hp hra x1 x2 htp c13 kl c1 c2 c3 T k1 k2 hna
  generalize up H3 n (.cell (some (.ref ra))) = H4 at S T4 na4 l4 p4 ra4 sa4 c14 c24 c34
  (with_reducible refine Then.nx (by assumption) _ ?_; with_reducible refine W_cons ?_; intro _ _)
  refine Assign_Tuple ?_
  with_reducible refine wpAny_Call_NameR ?_
  refine W_glob (v := .ref 174) S hsc (by kernel_rfl) ?_
  refine W_callF ?_
  with_reducible refine spliced_more ?_ (by kernel_rfl)
  refine W_loc S hsc (by rfl) ?_
  with_reducible refine spliced_more ?_ (by kernel_rfl)
  refine W_slice ?_
  refine W_loc S hsc (by rfl) ?_
  refine wpAny_evalPart_some ?_
  refine W_int S fun t2 s S => ?_
  refine wpAny_evalPart_none ?_
  refine ⟨na, nv, some 5, none, _, _, _, rfl, S, LIn.of na4, by lia, .int _ _, .none, fun D2 s x1 x2 S => ?_⟩
  with_reducible refine spliced_none ?_
  refine ⟨S.K, ?_⟩
  have k5 := Ke.new (d := .lst (sliced nv (some 5) none)) x1
  refine spec_row S (by exact rm0 (by assumption) (Nat.le_of_ble_eq_true rfl)) hh (k5 _ _ l4) (p4.ke k5) h5 hstz up_same (sliced_from hni (by decide)) (by simp; lia) fun tp2 ga goal gvs b2 s H5 k6 e6 htp2 e7 hga hgi fg hb2 S => ?_
  have K5' : Ke H4 H5 := k5.trans k6
  refine W_pair S hh (TIn.of htp2) fun s S => ?_
  with_reducible refine wpAny_assign_Name ?_
  refine W_store S hsc fun s S => ?_
  with_reducible refine wpAny_assign_Name ?_
  refine W_store S hsc fun s S => ?_
  have T5 := T4.ke K5'
  have na5 := K5' _ _ na4
  have l5 := K5' _ _ l4
  have p5 := p4.ke K5'
  have ra5 := K5' _ _ ra4
  have sa5 := K5'.kz.lin sa4
  have c15 := K5' _ _ c14
  have c25 := K5' _ _ c24
  have c35 := K5' _ _ c34
  clear T4 na4 l4 p4 ra4 sa4 c14 c24 c34 k5 k6 x1 x2 htp2 K5'
  have hrl : rvs.length = row.length := hri.length.trans (zs_length _)
  have hr5 : row.length ≤ 5 := K5_len fr.nd fr.sub
  have hg5 : goal.length ≤ 5 := K5_len fg.nd fg.sub
  have hlen : row.length = goal.length := Nat.le_antisymm (nodup_len fr.nd (fr.same fg)) (nodup_len fg.nd (fg.same fr))
  (with_reducible refine Then.nx (by assumption) _ ?_; with_reducible refine W_cons ?_; intro _ _)
  with_reducible refine wpAny_If ?_
  with_reducible refine wpAny_isTrue_Compare1 ?_ (by kernel_rfl)
  with_reducible refine List_ ?_
  with_reducible refine spliced_more ?_ (by kernel_rfl)
  refine W_loc S hsc (by rfl) ?_
  with_reducible refine spliced_more ?_ (by kernel_rfl)
  refine W_loc S hsc (by rfl) ?_
  with_reducible refine spliced_none ?_
  refine W_newList S (fun q1 s y1 _ S => ?_) (by simp)
  have z1 := Ke.new (d := .lst [.bool b, .bool b2]) y1
  with_reducible refine List_ ?_
  with_reducible refine spliced_more ?_ (by kernel_rfl)
  with_reducible refine wpAny_Compare1 ?_ (by kernel_rfl)
  with_reducible refine wpAny_Call_NameR ?_
  refine W_blt (v := .builtin "len") S hsc (by kernel_rfl) ?_
  refine W_callB ?_
  with_reducible refine spliced_more ?_ (by kernel_rfl)
  refine W_cell (c := n) S hsc (by rw [hcl]; rfl) (z1 _ _ c15) ?_
  with_reducible refine spliced_none ?_
  refine W_len S (LIn.of (z1 _ _ ra5)) (fun u1 s S => ?_) (by exact le2 (by assumption) (by assumption) (Nat.le_of_ble_eq_true rfl))
  refine W_int S fun u2 s S => ?_
  refine W_ltI ?_
  with_reducible refine spliced_more ?_ (by kernel_rfl)
  with_reducible refine wpAny_Compare1 ?_ (by kernel_rfl)
  with_reducible refine wpAny_Call_NameR ?_
  refine W_blt (v := .builtin "len") S hsc (by kernel_rfl) ?_
  refine W_callB ?_
  with_reducible refine spliced_more ?_ (by kernel_rfl)
  refine W_cell (c := n) S hsc (by rw [hcl]; rfl) (z1 _ _ c15) ?_
  with_reducible refine spliced_none ?_
  refine W_len S (LIn.of (z1 _ _ ra5)) (fun u3 s S => ?_) (by exact le2 (by assumption) (by assumption) (Nat.le_of_ble_eq_true rfl))
  refine W_int S fun u4 s S => ?_
  refine W_ltI ?_
  with_reducible refine spliced_none ?_
  refine W_newList S (fun q2 s y2 _ S => ?_) (by simp)
  have z2 := z1.trans (Ke.new (d := .lst [.bool (decide ((rvs.length : Int) < 5)), .bool (decide ((rvs.length : Int) < 5))]) y2)
  refine W_neB S (LIn.of (up_ne (ne_of_n up_same y2) up_same)) (LIn.of up_same) ?_
  with_reducible refine wpAny_truthy_bool ?_
  have eb : (!(b == decide ((rvs.length : Int) < 5) && b2 == decide ((rvs.length : Int) < 5))) = false := by
    have e1 : decide ((rvs.length : Int) < 5) = decide (row.length < 5) := decide_eq_decide.mpr (by rw [hrl]; exact Int.ofNat_lt)
    have e2 : b2 = decide (row.length < 5) := by rw [hlen]; exact hb2
    rw [e1, ← hb1, e2, ← hb1]; simp
  refine ifF (by rw [eb]; simp) ?_
  (with_reducible refine wpAny_execs_nil ?_; with_reducible refine Then.nx (by assumption) _ ?_)
  have T6 := T5.ke z2
  have na6 := z2 _ _ na5
  have l6 := z2 _ _ l5
  have p6 := p5.ke z2
  have ra6 := z2 _ _ ra5
  have ga6 := z2 _ _ hga
  have sa6 := z2.kz.lin sa5
  have c16 := z2 _ _ c15
  have c26 := z2 _ _ c25
  have c36 := z2 _ _ c35
  clear T5 na5 l5 p5 ra5 sa5 c15 c25 c35 hga z1
  generalize up (up H5 q1 (.lst [.bool b, .bool b2])) q2 (.lst [.bool (decide ((rvs.length : Int) < 5)), .bool (decide ((rvs.length : Int) < 5))]) = H6 at S T6 na6 l6 p6 ra6 ga6 sa6 c16 c26 c36 z2
  clear z2 y1 y2 eb
  (with_reducible refine W_cons ?_; intro _ _)
  with_reducible refine wpAny_Assign_Name ?_ (by kernel_rfl)
  with_reducible refine wpAny_Call_NameR ?_
  refine W_blt (v := .builtin "sum") S hsc (by kernel_rfl) ?_
  refine W_callB ?_
  with_reducible refine spliced_more ?_ (by kernel_rfl)
  refine W_loc S hsc (by rfl) ?_
  with_reducible refine spliced_none ?_
  refine W_sum S hh (LIn.of na6) hni fun tot ttot s S => ?_
  refine W_storeC (c := n + 1) S hsc (by rw [hcl]; rfl) c26 fun s S => ?_
  have z7 := Kz.cell (w := some (.int tot ttot)) c26
  have T7 := T6.cell (w := some (.int tot ttot)) c26
  have l7 := z7.1 _ _ l6
  have p7 := z7.pairs p6
  have ra7 := z7.1 _ _ ra6
  have ga7 := z7.1 _ _ ga6
  have sa7 := z7.lin sa6
  have c17 : (up H6 (n + 1) (.cell (some (.int tot ttot)))) n = some (.cell (some (.ref ra))) := up_ne w1 c16
  have c27 := up_same (H := H6) (a := n + 1) (o := D.cell (some (.int tot ttot)))
  have c37 : (up H6 (n + 1) (.cell (some (.int tot ttot)))) (n + 1 + 1) = some (.cell v3) := up_ne (Ne.symm w2) c36
  clear T6 na6 l6 p6 ra6 ga6 sa6 c16 c26 c36 z7
  generalize up H6 (n + 1) (.cell (some (.int tot ttot))) = H7 at S T7 l7 p7 ra7 ga7 sa7 c17 c27 c37
  (with_reducible refine Then.nx (by assumption) _ ?_; with_reducible refine W_cons ?_; intro _ _)
  refine wpAny_Assign_Name ?_ (by unfold swapsWith Env.blockKind Env.kindOf; rw [hsc]; rfl)
  refine W_lcomp (cl := [(Str.ofString "total", n + 1)]) ?_ ?_
  · simp only [closureFor, List.forIn_cons, List.forIn_nil]
    unfold cellOf
    rw [hcl]
    rfl
  with_reducible refine wpAny_Call_NameR ?_
  refine W_blt (v := .type "range") S hsc (by kernel_rfl) ?_
  refine W_callT ?_
  with_reducible refine spliced_more ?_ (by kernel_rfl)
  refine W_int S fun t1 s S => ?_
  with_reducible refine spliced_none ?_
  refine W_range1 S fun rg u1 u2 u3 s r1 _ S => ?_
  have k8 := Ke.new (d := .ob (rangeO 0 5 u1 u2 u3)) r1
  refine W_iterR (n := 5) S up_same (by decide) (by decide) (by decide) (by decide) (by decide) fun it o R₀ s f1 f2 f3 f4 S' => ?_
  refine ⟨it, R, R₀, _, _, rfl, f1, S.rg, S', fun L D s d1 d2 exC S2 RR hRR => ?_⟩
  have k9 := k8.trans (Ke.new (d := .lst []) d1)
  refine W_cstart (R := R) (itrR 0 5) S2 trivial f2 f3 (by rfl) (by rfl) ?_
  refine W_cloop (itrR 0 5) S2 hh f1 f2 f3 f4 S.rg (IvK D H7)
    (fun k m H' hI => trivial) ⟨k9, [], [], up_same, .nil, by simp⟩ ?_ ?_
  · clear S S' S2
    intro k v R' m' H' s E' hk hPat8 hR hPat10 S P hP
    refine hide fun G hG => ?_
    obtain ⟨tv, rfl⟩ := hPat8
    obtain ⟨ke, vs, ch, hD, hvi, hcl2⟩ := hPat10
    refine hG ?_
    clear hG
    have ek : (0 : Int) + (k : Nat) = ((k : Nat) : Int) := by lia
    rw [ek]
    have hvl : vs.length = ch.length := hvi.length.trans (zs_length _)
    (with_reducible refine wpAny_assign_Name ?_; dsimp only)
    refine W_store S (comp_scope hsc) fun s S => ?_
    refine wpAny_tests_one ?_
    with_reducible refine wpAny_isTrue_Compare1 ?_ (by kernel_rfl)
    with_reducible refine wpAny_BinOp ?_
    with_reducible refine wpAny_BinOp ?_
    refine W_cell (c := n + 1) S (comp_scope hsc) (by rfl) (ke _ _ c27) ?_
    with_reducible refine wpAny_BinOp ?_
    refine W_int S fun a1 s S => ?_
    refine W_loc S (comp_scope hsc) (by rfl) ?_
    refine W_pow (C := C.comp _ _ [(Str.ofString "total", n + 1)] L) S (by exact Int.natCast_nonneg _) (by lia) fun a2 s S => ?_
    have hpw : (2 : Int) ^ ((k : Nat) : Int).toNat ≠ 0 ∧ ((2 : Int) ^ ((k : Nat) : Int).toNat).natAbs < 2 ^ 63 := by
      have : k = 0 ∨ k = 1 ∨ k = 2 ∨ k = 3 ∨ k = 4 := by exact of5 (by assumption)
      rcases this with rfl | rfl | rfl | rfl | rfl <;> decide
    refine W_div S hpw.1 hpw.2 fun a3 s S => ?_
    refine W_int S fun a4 s S => ?_
    refine W_mod S (by decide) fun a5 s S => ?_
    refine W_int S fun a6 s S => ?_
    refine W_eqI ?_
    with_reducible refine wpAny_truthy_bool ?_
    by_cases hc : (Int.fmod (Int.fdiv tot (2 ^ ((k : Nat) : Int).toNat)) 2 == 1) = true
    · refine ifT hc ?_
      refine W_emit ?_
      refine W_loc S (comp_scope hsc) (by rfl) ?_
      refine W_append S hD (fun s S => ?_) (by exact le6 (by assumption) (by assumption) (by assumption) (Nat.le_of_ble_eq_true rfl))
      refine hP _ ⟨_, _, S, ke.up (k8.none d1), _, ch ++ [k], up_same, ?_, by simp; assumption⟩
      rw [zs_append]; exact hvi.append (.cons _ _ .nil)
    · refine ifF hc ?_
      exact hP _ ⟨_, _, S, ke, vs, ch, hD, hvi, by exact Nat.le_succ_of_le (by assumption)⟩
  · rintro m' H8 s S8 ⟨ke, cvs, ch, hca, hci, hchl⟩
    refine hRR _ _ _ S8 (fun s S => ?_) _
    clear S2 S' S8 f1 f2 f3 f4
    refine W_storeC (c := n + 1 + 1) S hsc (by rw [hcl]; rfl) (ke _ _ c37) fun s S => ?_
    have c38 := ke _ _ c37
    have z9 := ke.kz.trans (Kz.cell (w := some (.ref D)) c38)
    have T9 := (T7.ke ke).cell (w := some (.ref D)) c38
    have l9 := z9.1 _ _ l7
    have p9 := z9.pairs p7
    have ra9 := z9.1 _ _ ra7
    have ga9 := z9.1 _ _ ga7
    have sa9 := z9.lin sa7
    have ca9 := (Kz.cell (w := some (.ref D)) c38).1 _ _ hca
    have c19 : (up H8 (n + 1 + 1) (.cell (some (.ref D)))) n = some (.cell (some (.ref ra))) := up_ne w3 (ke _ _ c17)
    have c29 : (up H8 (n + 1 + 1) (.cell (some (.ref D)))) (n + 1) = some (.cell (some (.int tot ttot))) := up_ne w2 (ke _ _ c27)
    have c39 := up_same (H := H8) (a := n + 1 + 1) (o := Mine.D.cell (some (.ref D)))
    clear T7 l7 p7 ra7 ga7 sa7 c17 c27 c37 c38 z9 ke hca k8 k9 d1 d2 r1 exC
    generalize up H8 (n + 1 + 1) (.cell (some (.ref D))) = H9 at S T9 l9 p9 ra9 ga9 sa9 ca9 c19 c29 c39
    (with_reducible refine Then.nx (by assumption) _ ?_; with_reducible refine W_cons ?_; intro _ _)
    refine W_acomp (cl := [(Str.ofString "row", n), (Str.ofString "chosen", n + 1 + 1)]) hsc ?_ (by unfold swapsWith Env.blockKind Env.kindOf; rw [hsc]; rfl) ?_
    · simp only [closureFor, List.forIn_cons, List.forIn_nil]
      unfold cellOf
      rw [hcl]
      rfl
    refine W_loc S hsc (by rfl) ?_
    have hlvl := p9.length
    refine W_iterL S (LIn.of l9) fun it o R₀ s f1 f2 f3 f4 S' => ?_
    refine ⟨it, R, R₀, _, _, rfl, f1, S.rg, S', fun L D2 s d1 d2 exC S2 RR hRR => ?_⟩
    have k9 := Ke.new (d := .lst []) d1
    refine W_cstart (R := R) (itrL l lv) S2 (.inl (k9 _ _ l9)) f2 f3 (by rfl) (by rfl) ?_
    refine W_cloop (itrL l lv) S2 hh f1 f2 f3 f4 S.rg (fun k m H' => Ke H9 H' ∧ ∃ vs, H' D2 = some (.lst vs) ∧ IntsAre vs (zs (((st.take k).filter fun p => (row.contains p.2 && ch.contains p.2) && !ch.contains p.1).map (·.2))))
      (fun k m H' hI => .inl (hI.1 _ _ l9)) ⟨k9, [], up_same, .nil⟩ ?_ ?_
    · clear S S' S2
      intro k v R' m' H' s E' hk hv hR hPat10 S P hP
      refine hide fun G hG => ?_
      obtain ⟨ke, vs, hD, hvi⟩ := hPat10
      refine hG ?_
      clear hG
      refine hide fun G hG => ?_
      obtain ⟨tp, p1, p2, w1', w2', rfl, hst, htp⟩ := p9.at k v hv
      refine hG ?_
      clear hG
      have hvl : vs.length ≤ 100 := by rw [hvi.length, zs_length, List.length_map]; exact Nat.le_trans (List.length_filter_le _ _) (by rw [List.length_take]; exact mn1 (by assumption) (Nat.le_of_ble_eq_true rfl))
      refine W_pair (C := C.comp _ _ [(Str.ofString "row", n), (Str.ofString "chosen", n + 1 + 1)] L) S hh (TIn.of (ke _ _ htp)) fun s S => ?_
      (with_reducible refine wpAny_assign_Name ?_; dsimp only)
      refine W_store S (comp_scope hsc) fun s S => ?_
      with_reducible refine wpAny_assign_Name ?_
      refine W_store S (comp_scope hsc) fun s S => ?_
      refine wpAny_tests_one ?_
      refine wpAny_isTrue_BoolOp ?_
      have no : ((row.contains p2 && ch.contains p2) && !ch.contains p1) = false → IntsAre vs (zs (((st.take (k + 1)).filter fun p => (row.contains p.2 && ch.contains p.2) && !ch.contains p.1).map (·.2))) := fun hf => by
        rw [take_snoc hst, List.filter_append, List.map_append]
        simp only [List.filter_cons, hf, Bool.false_eq_true, if_false, List.filter_nil, List.map_nil, List.append_nil]; exact hvi
      refine wpAny_allTrue_And_cons ?_
      with_reducible refine wpAny_isTrue_Compare1 ?_ (by kernel_rfl)
      refine W_loc S (comp_scope hsc) (by rfl) ?_
      refine W_cell (c := n) S (comp_scope hsc) (by rfl) (ke _ _ c19) ?_
      refine W_inL S (LIn.of (ke _ _ ra9)) hri ?_
      rw [any_zs]
      with_reducible refine wpAny_truthy_bool ?_
      cases hb1' : row.contains p2 with
      | false =>
        refine ifF (by simp) ?_
        refine ifF (by simp) ?_
        exact hP _ ⟨_, _, S, ke, vs, hD, no (by simp only [hb1', Bool.false_and])⟩
      | true =>
        refine ifT rfl ?_
        refine wpAny_allTrue_And_cons ?_
        with_reducible refine wpAny_isTrue_Compare1 ?_ (by kernel_rfl)
        refine W_loc S (comp_scope hsc) (by rfl) ?_
        refine W_cell (c := n + 1 + 1) S (comp_scope hsc) (by rfl) (ke _ _ c39) ?_
        refine W_inL S (LIn.of (ke _ _ ca9)) hci ?_
        rw [any_zs]
        with_reducible refine wpAny_truthy_bool ?_
        cases hb2' : ch.contains p2 with
        | false =>
          refine ifF (by simp) ?_
          refine ifF (by simp) ?_
          exact hP _ ⟨_, _, S, ke, vs, hD, no (by simp only [hb2', Bool.and_false, Bool.false_and])⟩
        | true =>
          refine ifT rfl ?_
          refine wpAny_allTrue_And_cons ?_
          with_reducible refine wpAny_isTrue_Compare1 ?_ (by kernel_rfl)
          refine W_loc S (comp_scope hsc) (by rfl) ?_
          refine W_cell (c := n + 1 + 1) S (comp_scope hsc) (by rfl) (ke _ _ c39) ?_
          refine W_ninL S (LIn.of (ke _ _ ca9)) hci ?_
          rw [any_zs]
          with_reducible refine wpAny_truthy_bool ?_
          cases hb3' : ch.contains p1 with
          | true =>
            refine ifF (by simp) ?_
            refine ifF (by simp) ?_
            exact hP _ ⟨_, _, S, ke, vs, hD, no (by simp only [hb3', Bool.not_true, Bool.and_false])⟩
          | false =>
            refine ifT (by simp) ?_
            refine wpAny_allTrue_And_nil ?_
            refine ifT rfl ?_
            refine W_emit ?_
            refine W_loc S (comp_scope hsc) (by rfl) ?_
            refine W_append S hD (fun s S => ?_) (by exact le1 (by assumption) (Nat.le_of_ble_eq_true rfl))
            refine hP _ ⟨_, _, S, ke.up d1, _, up_same, ?_⟩
            rw [take_snoc hst, List.filter_append, List.map_append, zs_append]
            simp only [List.filter_cons, hb1', hb2', hb3', Bool.not_false, Bool.and_true, if_true, List.filter_nil, List.map_cons, List.map_nil]
            exact hvi.append (.cons _ _ .nil)
    · rintro m' H10 s S10 ⟨ke, tvs, hta, hti⟩
      refine hRR _ _ _ S10 (fun s S => ?_) _
      clear S2 S' S10 f1 f2 f3 f4
      rw [show st.take lv.length = st from List.take_of_length_le (by lia)] at hti
      have T10 := T9.ke ke
      have l10 := ke _ _ l9
      have p10 := p9.ke ke
      have ra10 := ke _ _ ra9
      have ga10 := ke _ _ ga9
      have sa10 := ke.kz.lin sa9
      have ca10 := ke _ _ ca9
      have c1a := ke _ _ c19
      have c2a := ke _ _ c29
      have c3a := ke _ _ c39
      clear T9 l9 p9 ra9 ga9 sa9 ca9 c19 c29 c39 ke k9 d1 d2 exC
      have htorn : decide (zs ((st.filter fun p => (row.contains p.2 && ch.contains p.2) && !ch.contains p.1).map (·.2)) = []) = true ↔ ∀ p ∈ st, p.2 ∈ row → ch.contains p.2 = true → ch.contains p.1 = true := by
        rw [decide_eq_true_eq]
        unfold zs
        rw [List.map_eq_nil_iff, List.map_eq_nil_iff, List.filter_eq_nil_iff]
        constructor
        · intro hx p hp h1 h2
          have := hx p hp
          have hr : row.contains p.2 = true := by simpa using h1
          rw [hr, h2] at this
          cases z : ch.contains p.1 with
          | true => rfl
          | false => rw [z] at this; simp at this
        · intro hx p hp z
          simp only [Bool.and_eq_true, Bool.not_eq_true'] at z
          have := hx p hp (by simpa using z.1.1) z.1.2
          rw [this] at z; simp at z
      (with_reducible refine Then.nx (by assumption) _ ?_; with_reducible refine W_cons ?_; intro _ _)
      (with_reducible refine wpAny_For ?_ (by intros; kernel_rfl))
      with_reducible refine List_ ?_
      with_reducible refine spliced_more ?_ (by kernel_rfl)
      refine W_cell (c := n) S hsc (by rw [hcl]; rfl) c1a ?_
      with_reducible refine spliced_more ?_ (by kernel_rfl)
      refine W_loc S hsc (by rfl) ?_
      with_reducible refine spliced_none ?_
      refine W_newList S (fun fl s x1 _ S => ?_) (by simp)
      have kf := Ke.new (d := .lst [.ref ra, .ref ga]) x1
      refine W_iterL S (LIn.of up_same) fun it o R₀ s f1 f2 f3 f4 S' => ?_
      refine W_for (itrL fl [.ref ra, .ref ga]) S' hh f1 f2 f3 f4 S.rg (fun _ => IvL sa l ga D2 fl [.ref ra, .ref ga] H10)
        (fun k m H' (.mk _ _ _ _ h ..) => .inl h) ⟨by assumption, by rfl, by rfl, by rfl, up_same, T10.ke kf, kf.kp⟩ ?_ ?_
      · clear S S'
        intro k v R' m' H' s E' hk hv hR hPat10 S _ _
        refine hide fun G hG => ?_
        obtain ⟨m1, m2, m3, m4, hfl, T', kt⟩ := hPat10
        refine hG ?_
        clear hG
        obtain ⟨xa, xl, xvs, rfl, hxa, hxi, fx, hxs⟩ : ∃ xa xl xvs, v = .ref xa ∧ H10 xa = some (.lst xvs) ∧ IntsAre xvs (zs xl) ∧ Full st xl ∧ ∀ x, x ∈ xl ↔ x ∈ row := by
          have : k = 0 ∨ k = 1 := by simp at hk; lia
          rcases this with rfl | rfl
          · exact ⟨ra, row, rvs, by simpa using hv.symm, ra10, hri, fr, fun x => Iff.rfl⟩
          · exact ⟨ga, goal, gvs, by simpa using hv.symm, ga10, hgi, fg, fun x => ⟨fg.same fr x, fr.same fg x⟩⟩
        have hxl5 : xl.length ≤ 5 := K5_len fx.nd fx.sub
        with_reducible refine wpAny_assign_Name ?_
        refine W_store S hsc fun s S => ?_
        refine wpAny_noRaise ?_
        (with_reducible refine W_cons ?_; intro _ _)
        with_reducible refine wpAny_If ?_
        with_reducible refine wpAny_isTrue_Compare1 ?_ (by kernel_rfl)
        with_reducible refine wpAny_Call_NameR ?_
        refine W_glob (v := .ref 181) S hsc (by kernel_rfl) ?_
        refine W_callF ?_
        with_reducible refine spliced_more ?_ (by kernel_rfl)
        refine W_loc S hsc (by assumption) ?_
        with_reducible refine spliced_more ?_ (by kernel_rfl)
        with_reducible refine wpAny_Call_NameR ?_
        refine W_glob (v := .ref 188) S hsc (by kernel_rfl) ?_
        refine W_callF ?_
        with_reducible refine spliced_more ?_ (by kernel_rfl)
        refine W_loc S hsc (by rfl) ?_
        with_reducible refine spliced_more ?_ (by kernel_rfl)
        refine W_cell (c := n + 1 + 1) S hsc (by rw [hcl]; rfl) (kt.cell T10 c3a) ?_
        with_reducible refine spliced_none ?_
        refine ⟨S.K, ?_⟩
        refine spec_split S o2 (by exact rm0 (by assumption) (Nat.le_of_ble_eq_true rfl)) hh T' (kt.get T10 hxa (by simp)) hxi (by exact le1 (by assumption) (Nat.le_of_ble_eq_true rfl)) (kt.get T10 ca10 (by simp)) hci fun sp spv s H11 kt2 T11 x3 hsp hspi S => ?_
        have kt3 : Kt H10 H11 := kt.trans kt2
        with_reducible refine spliced_none ?_
        refine ⟨S.K, ?_⟩
        refine spec_goes S (by exact rm0 (by assumption) (Nat.le_of_ble_eq_true rfl)) hh (kt3.get T10 l10 (by simp)) (kt3.pairs T10 p10) h5 hstz hsp hspi (splitBy_nodup fx.nd) (fun x hx => fx.sub x (splitBy_mem.mp hx)) (fun i hi hn => let ⟨p, a, b, c⟩ := fx.mx i hi (fun z => hn (splitBy_mem.mpr z)); ⟨p, a, b, fun z => c (splitBy_mem.mp z)⟩) fun bb s H12 ke12 hbb S => ?_
        have kt4 : Kt H10 H12 := kt3.trans ke12.kp
        with_reducible refine wpAny_Compare1 ?_ (by kernel_rfl)
        refine W_loc S hsc (by assumption) ?_
        with_reducible refine List_ ?_
        with_reducible refine spliced_none ?_
        refine W_newList S (fun em s x5 _ S => ?_) (by simp)
        have k13 := Ke.new (d := .lst []) x5
        refine W_eqL S (LIn.of (k13 _ _ (kt4.get T10 hta (by simp)))) hti (LIn.of up_same) .nil ?_
        refine W_neBool S ?_
        with_reducible refine wpAny_truthy_bool ?_
        have hbb2 : bb = decide (zs ((st.filter fun p => (row.contains p.2 && ch.contains p.2) && !ch.contains p.1).map (·.2)) = []) := by
          rw [Bool.eq_iff_iff, hbb, htorn]
          constructor
          · intro hv p hp h1 h2
            exact hv.torn p hp ((hxs _).mpr h1) h2
          · intro ht
            exact fx.v.split fun p hp h1 h2 => ht p hp ((hxs _).mp h1) h2
        refine ifF (by rw [hbb2]; simp) ?_
        (with_reducible refine wpAny_execs_nil ?_; with_reducible refine Then.nx (by assumption) _ ?_)
        (with_reducible refine wpAny_execs_nil ?_; with_reducible refine Turn.nx (by assumption) _ ?_)
        refine ⟨_, _, S, by assumption, by assumption, by assumption, by assumption, ?_, (T11.ke ke12).ke k13, kt4.trans k13.kp⟩
        exact k13 _ _ (ke12 _ _ (Kt.get kt2 T' hfl (by simp)))
      · clear S S'
        rintro m' H' s S ⟨m1, m2, m3, m4, hfl, T', kt⟩
        have l11 := kt.get T10 l10 (by simp)
        have p11 := kt.pairs T10 p10
        have ra11 := kt.get T10 ra10 (by simp)
        have ga11 := kt.get T10 ga10 (by simp)
        have sa11 := (kt.kz T10).lin sa10
        have c1b := kt.cell T10 c1a
        have c2b := kt.cell T10 c2a
        clear T10 l10 p10 ra10 ga10 sa10 ca10 c1a c2a c3a hfl kf x1 kt
        dsimp only
        (with_reducible refine Then.nx (by assumption) _ ?_; with_reducible refine W_cons ?_; intro _ _)
        with_reducible refine wpAny_Assign_Name ?_ (by kernel_rfl)
        with_reducible refine wpAny_BinOp ?_
        refine W_lcomp (cl := []) (closureFor_none (by decide)) ?_
        refine W_slice ?_
        refine W_loc S hsc m1 ?_
        refine wpAny_evalPart_none ?_
        refine wpAny_evalPart_some ?_
        refine W_int S fun t3 s S => ?_
        refine ⟨sa, svs, none, some 3, _, _, _, rfl, S, sa11, by exact le1 (by assumption) (Nat.le_of_ble_eq_true rfl), .none, .int _ _, fun D4 s x1 x2 S => ?_⟩
        have k14 := Ke.new (d := .lst (sliced svs none (some 3))) x1
        have hsi3 := sliced_upto hss (x := 3) (by decide)
        have hsl3 : (sliced svs none (some 3)).length ≤ 3 := by rw [hsi3.length, List.length_take]; exact Nat.min_le_left _ _
        generalize sliced svs none (some 3) = s3 at S k14 hsi3 hsl3
        refine W_iterL S (LIn.of up_same) fun it o R₀ s f1 f2 f3 f4 S' => ?_
        refine ⟨it, R, R₀, _, _, rfl, f1, S.rg, S', fun L D5 s d1 d2 exC S2 RR hRR => ?_⟩
        have k15 := Ke.new (d := .lst []) d1
        refine W_cstart (R := R) (itrL D4 s3) S2 (.inl (k15 _ _ up_same)) f2 f3 (by rfl) (by rfl) ?_
        refine W_cloop (itrL D4 s3) S2 hh f1 f2 f3 f4 S.rg (IvM D5 (up H' D4 (.lst s3)))
          (fun k m H' (.mk h ..) => .inl (h _ _ up_same)) ⟨k15, [], [], up_same, .nil, by simp, rfl⟩ ?_ ?_
        · clear S S' S2
          intro k v R' m'' H'' s E' hk hv hR hPat10 S P hP
          refine hide fun G hG => ?_
          obtain ⟨ke, vs, sz, hD, hvi, hs5, hszl⟩ := hPat10
          refine hG ?_
          clear hG
          refine hide fun G hG => ?_
          obtain ⟨z, tz, rfl, _⟩ := hsi3.at k v hv
          refine hG ?_
          clear hG
          have hvl : vs.length = sz.length := hvi.length.trans (zs_length _)
          (with_reducible refine wpAny_assign_Name ?_; dsimp only)
          refine W_store S (comp_scope hsc) fun s S => ?_
          refine wpAny_tests_nil ?_
          refine ifT rfl ?_
          refine W_emit ?_
          with_reducible refine wpAny_BinOp ?_
          refine W_loc S (comp_scope hsc) (by rfl) ?_
          refine W_int S fun t4 s S => ?_
          refine W_mod S (by decide) fun t5 s S => ?_
          have hj0 : 0 ≤ Int.fmod z 6 := Int.fmod_nonneg_of_pos _ (by exact Int.natCast_nonneg _)
          have hj1 : Int.fmod z 6 < 6 := Int.fmod_lt_of_pos _ (by exact Int.natCast_nonneg _)
          refine hide fun G hG => ?_
          obtain ⟨j, hj⟩ : ∃ j : Nat, Int.fmod z 6 = (j : Int) := ⟨(Int.fmod z 6).toNat, (Int.toNat_of_nonneg hj0).symm⟩
          refine hG ?_
          clear hG
          rw [hj] at hj0 hj1 ⊢
          refine W_append S hD (fun s S => ?_) (by lia)
          refine hP _ ⟨_, _, S, ke.up d1, _, sz ++ [j], up_same, ?_, ?_, by simp; assumption⟩
          · rw [zs_append]; exact hvi.append (.cons _ _ .nil)
          · intro x hx
            rcases List.mem_append.mp hx with hx | hx
            · exact hs5 x hx
            · obtain rfl : x = j := by simpa using hx
              lia
        · rintro m'' H13 s S13 ⟨ke, zv, sz, hD5, hzi, hs5, hszl⟩
          refine hRR _ _ _ S13 (fun s S => ?_) _
          clear S2 S' S13 f1 f2 f3 f4
          have ke2 := k14.trans ke
          have hzl : zv.length = sz.length := hzi.length.trans (zs_length _)
          with_reducible refine List_ ?_
          with_reducible refine spliced_more ?_ (by kernel_rfl)
          refine W_int S fun g1 s S => ?_
          with_reducible refine spliced_more ?_ (by kernel_rfl)
          refine W_int S fun g2 s S => ?_
          with_reducible refine spliced_more ?_ (by kernel_rfl)
          refine W_int S fun g3 s S => ?_
          with_reducible refine spliced_more ?_ (by kernel_rfl)
          refine W_int S fun g4 s S => ?_
          with_reducible refine spliced_none ?_
          refine W_newList S (fun D6 s y1 _ S => ?_) (by simp)
          have k16 := Ke.new (d := .lst [.int 3 g1, .int 1 g2, .int 4 g3, .int 2 g4]) y1
          refine W_addL S (LIn.of (k16 _ _ hD5)) (LIn.of up_same) (fun D7 s y3 _ S => ?_) (by simp; lia)
          have k17 := Ke.new (d := .lst (zv ++ [.int 3 g1, .int 1 g2, .int 4 g3, .int 2 g4])) y3
          refine W_store S hsc fun s S => ?_
          have KK := (ke2.trans k16).trans k17
          have hszs : IntsAre (zv ++ [.int 3 g1, .int 1 g2, .int 4 g3, .int 2 g4]) (zs (sz ++ [3, 1, 4, 2])) := by
            rw [zs_append]; exact hzi.append (.cons _ _ (.cons _ _ (.cons _ _ (.cons _ _ .nil))))
          (with_reducible refine Then.nx (by assumption) _ ?_; with_reducible refine W_cons ?_; intro _ _)
          with_reducible refine wpAny_Return_some ?_
          with_reducible refine wpAny_Call_NameR ?_
          refine W_glob (v := .ref 200) S hsc (by kernel_rfl) ?_
          refine W_callF ?_
          with_reducible refine spliced_more ?_ (by kernel_rfl)
          refine W_loc S hsc (by assumption) ?_
          with_reducible refine spliced_more ?_ (by kernel_rfl)
          refine W_cell (c := n) S hsc (by rw [hcl]; rfl) (KK _ _ c1b) ?_
          with_reducible refine spliced_more ?_ (by kernel_rfl)
          refine W_loc S hsc (by assumption) ?_
          with_reducible refine spliced_more ?_ (by kernel_rfl)
          refine W_loc S hsc (by rfl) ?_
          with_reducible refine spliced_more ?_ (by kernel_rfl)
          with_reducible refine wpAny_BinOp ?_
          with_reducible refine wpAny_BinOp ?_
          refine W_cell (c := n + 1) S hsc (by rw [hcl]; rfl) (KK _ _ c2b) ?_
          refine W_int S fun g5 s S => ?_
          refine W_div S (by decide) (by decide) fun g6 s S => ?_
          with_reducible refine wpAny_Call_NameR ?_
          refine W_blt (v := .builtin "len") S hsc (by kernel_rfl) ?_
          refine W_callB ?_
          with_reducible refine spliced_more ?_ (by kernel_rfl)
          refine W_loc S hsc (by rfl) ?_
          with_reducible refine spliced_none ?_
          refine W_len S (LIn.of up_same) (fun g7 s S => ?_) (by simp; lia)
          refine W_mod S (by simp; lia) fun g8 s S => ?_
          with_reducible refine spliced_none ?_
          refine ⟨S.K, ?_⟩
          refine spec_byHeads (szs := sz ++ [3, 1, 4, 2]) S o2 (by exact rm0 (by assumption) (Nat.le_of_ble_eq_true rfl)) hh (T'.ke KK) (KK _ _ l11) (p11.ke KK) h5 hstz (KK _ _ ra11) hri (KK _ _ ga11) hgi up_same hszs fr fg (fun x hx => ?_) (by simp; exact le2 (by assumption) (by assumption) (Nat.le_of_ble_eq_true rfl)) (by simp) (by simp) (by simp) (by simp) fun s H14 kt14 T14 S => ?_
          · rcases List.mem_append.mp hx with hx | hx
            · exact hs5 x hx
            · simp at hx; lia
          · with_reducible refine Then.ret (by assumption) _ _ ?_
            exact h _ _ _ T14 S

theorem ne_tab {h : Heap} {a : Addr} {o : Obj} {x : Option Value} (e : h.get? 183 = some (tabObj #[])) (e3 : h.get? a = some o) (d : o.data = .cell x) : (183 : Addr) ≠ a := fun q => by
  rw [q, e3] at e
  cases e
  cases d
theorem law_final {w : World} {s₁ : Shared} {h₁ : Heap} {tk : Nat} {mg mb : Loc} {p : Program} {loose : List Str} {mean : ExcName → Option Value} {fa sa : Addr} {cd : Value} {name : Str} {fd : FuncData} {body : List Stmt} {oc : Value} {od : Option Addr} {osl : Array (Option Value)} {svs : List Value} {ss : List Int} {o1 o2 o3 : Obj} {x1 x2 x3 : Option Value} {mF : Loc} {P : Flow → Shared → Prop} {Ee : Value → Shared → Prop}
    (X : (hd.heap_39 w.params).In (ghostOf s₁.heap [(187, 183)])) (T : Top p loose mean mg mb (ghostOf s₁.heap [(187, 183)])) (F : Fr (ghostOf s₁.heap [(187, 183)]) s₁.heap.objs.size h₁ mF)
    (N : News (ghostOf s₁.heap [(187, 183)]) s₁.heap.objs.size h₁ [(s₁.heap.objs.size + 1 + 1 + 1, o3), (s₁.heap.objs.size + 1 + 1, o2), (s₁.heap.objs.size + 1, o1), (183, tabObj #[])])
    (d1 : o1.data = .cell x1) (d2 : o2.data = .cell x2) (d3 : o3.data = .cell x3) (hl : (ghostOf s₁.heap [(187, 183)]).IsList sa svs.toArray) (hc : CodeHd (ghostOf s₁.heap [(187, 183)]) 187 183) (hI : IntsAre svs ss) (hz : ss.length ≤ 1000) (hm : mF "script" = some (.ref sa))
    (ho : (Kw w).lookup 205 = some ⟨oc, od, .func fd, osl⟩) (hb : fd.body = .stmts body)
    (hcl : cellsFrom (s₁.heap.objs.size + 1) fd.scope.names [] = [(Str.ofString "chosen", s₁.heap.objs.size + 1 + 1 + 1), (Str.ofString "total", s₁.heap.objs.size + 1 + 1), (Str.ofString "row", s₁.heap.objs.size + 1)])
    (hk : fd.scope.kind = .function)
    (h : ∀ m' s', Fr (ghostOf s₁.heap [(187, 183)]) s₁.heap.objs.size s'.heap m' → (∃ ps, s'.heap.get? 183 = some (tabObj ps)) → s'.gens = s₁.gens → s'.os = s₁.os → P (.ret (.bool true)) s') :
    wpAny (model PR w) (callerA.deeper (envOfC name fd.scope s₁.heap.objs.size fa cd)) (execs body (envOfC name fd.scope s₁.heap.objs.size fa cd)) P Ee { s₁ with heap := h₁, toks := tk } := by
  let Z : Zs := { w := w, G := ghostOf s₁.heap [(187, 183)], mg := mg, mb := mb, gens := s₁.gens, drawn := s₁.drawn, os := s₁.os }
  let C : Cx := { A := callerA.deeper (envOfC name fd.scope s₁.heap.objs.size fa cd), env := envOfC name fd.scope s₁.heap.objs.size fa cd, frs := [], fst := [envOfC name fd.scope s₁.heap.objs.size fa cd], rm := 90 }
  have zok : Z.Ok := ⟨X, T.g, T.b, T.nolimit, T.builtins⟩
  have cok : C.Ok := {
    frames := rfl
    depth := by show 1 + claimMargin + 1 + 2 * 90 ≤ 500; decide
    units := by show 4 + 3 + 20 * 90 ≤ 5000; decide
    kind := hk
    glob := rfl
    bns := rfl
    fr := fun p hp => by cases hp
    st := fun e he => by
      obtain rfl : e = _ := List.mem_singleton.mp he
      exact ⟨by show fd.scope.kind ≠ .module; rw [hk]; decide, _, rfl, .inl rfl⟩ }
  have S0 : Sat Z C (fun b => (ghostOf s₁.heap [(187, 183)]).get? b) mF (fun _ => none) { s₁ with heap := h₁, toks := tk } := {
    z := zok
    c := cok
    ns := F.ns
    outs := fun p hp => by cases hp
    rg := fun b o e => e
    rl := Heap.get?_none_of_le F.above
    rf := fun p hp => by cases hp
    keep := fun b o e => F.keep b o e
    own := fun a d e => by cases e
    dR := fun a d e => by cases e
    dL := fun a d e => by cases e
    dF := fun a d e => by cases e
    gens := rfl
    drawn := rfl
    os := rfl }
  have n1 := N _ (.head _)
  have n2 := N _ (.tail _ (.head _))
  have n3 := N _ (.tail _ (.tail _ (.head _)))
  have n4 := N _ (.tail _ (.tail _ (.tail _ (.head _))))
  have S1 := S0.learn (d := .ob (tabObj #[])) n4.1 rfl n4.2.2 n4.2.1 (fun p hp => by cases hp)
  have S2 := S1.learn (d := .cell x1) n3.1 d1 n3.2.2 n3.2.1 (fun p hp => by cases hp)
  have S3 := S2.learn (d := .cell x2) n2.1 d2 n2.2.2 n2.2.1 (fun p hp => by cases hp)
  have S4 := S3.learn (d := .cell x3) n1.1 d3 n1.2.2 n1.2.1 (fun p hp => by cases hp)
  dsimp only at S4
  have w1 : s₁.heap.objs.size + 1 ≠ s₁.heap.objs.size + 1 + 1 := Ne.symm (Nat.succ_ne_self _)
  have w2 : s₁.heap.objs.size + 1 + 1 ≠ s₁.heap.objs.size + 1 + 1 + 1 := Ne.symm (Nat.succ_ne_self _)
  have w3 : s₁.heap.objs.size + 1 ≠ s₁.heap.objs.size + 1 + 1 + 1 := Nat.ne_of_lt (Nat.lt_of_lt_of_le (Nat.lt_succ_self _) (Nat.le_succ _))
  have t1 : (183 : Addr) ≠ s₁.heap.objs.size + 1 := ne_tab n4.1 n3.1 d1
  have t2 : (183 : Addr) ≠ s₁.heap.objs.size + 1 + 1 := ne_tab n4.1 n2.1 d2
  have t3 : (183 : Addr) ≠ s₁.heap.objs.size + 1 + 1 + 1 := ne_tab n4.1 n1.1 d3
  refine hide fun G hG => ?_
  obtain ⟨ol, hol, hcl1, nn, hdl⟩ := hl
  refine hG ?_
  clear hG
  refine wpAny_mono (law_body (Q := fun v s' => v = .bool true ∧ P (.ret (.bool true)) s') (Z := Z) (C := C) (n := s₁.heap.objs.size + 1) (sa := sa) (svs := svs) ho hb rfl hcl rfl S4 ⟨hc, T.bmain⟩ (by show 20 < 90; decide) ⟨#[], ?_, .inl rfl⟩ hm (.inr ⟨ol, hol, hcl1, nn, hdl⟩) hI (by rw [hI.length]; exact hz) (v1 := x1) (v2 := x2) (v3 := x3) ?_ ?_ up_same fun m' H' s' T' S' => ⟨rfl, ?_⟩) (fun f s' hq => ?_) (fun _ _ z => z.elim)
  · exact up_ne t3 (up_ne t2 (up_ne t1 up_same))
  · exact up_ne w3 (up_ne w1 up_same)
  · exact up_ne w2 up_same
  · obtain ⟨ps, hP, _⟩ := T'
    refine hide fun G hG => ?_
    obtain ⟨o, hoP, rfl⟩ := S'.own _ _ hP
    refine hG ?_
    clear hG
    exact h m' s' ⟨S'.ns, S'.G, F.above⟩ ⟨ps, hoP⟩ S'.gens S'.os
  · cases f with
    | ret v => obtain ⟨e, hq⟩ := hq; obtain rfl : v = .bool true := e; exact hq
    | next => exact absurd hq.1 (by simp [retv])
    | brk => exact absurd hq.1 (by simp [retv])
    | cont => exact absurd hq.1 (by simp [retv])

end Mine
set_option maxRecDepth 100000 in
set_option maxHeartbeats 8000000 in
theorem PySem.Challenge.cw_mr0288_01_holds : PySem.Challenge.rw_mr0288_01.Holds := by
  exact Mine.hd (by
    w_strict k_go0
    refine Mine.law_final (by assumption) (by assumption) (by assumption) (by assumption) (by assumption) (by assumption) (by assumption) (by assumption) (by assumption) (by assumption) ?z (by rfl) (by rfl) (by rfl) (by rfl) (by rfl) ?h
    case z => omega
    case h =>
      intro m' s' F hps hg hos
      refine ⟨goodW_bool F (hg.trans (by assumption)) (fun cls => by rfl) ?post hos, hps, trivial⟩
      wrow_post)
