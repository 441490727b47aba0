import PyProof.Rows.All
import Wide.All
import OpenK.AllK
import Wide.FinOn
import Lean
import PySem.Challenge.RW_oy0044_01
open PySem PySem.W PyProof.Rows
set_option Elab.async false
set_option maxRecDepth 100000
set_option maxHeartbeats 8000000
set_option linter.unusedVariables false
set_option compiler.extract_closed false
open_top hd for PySem.Challenge.rw_oy0044_01
namespace Mine
section
open PySem.SeqAt
open AutoSeq1 (wpAny_loadPart')
open MeetsSeq MeetsSeq2 MeetsSeq3 SeqRoads2

theorem wpAny_level {α : Type} {M : Model} {A A' : Around} {t : Sem α} {Q : α → Shared → Prop} {E : Value → Shared → Prop} {s : Shared}
    (h1 : A'.handled = A.handled) (h2 : A.depth ≤ A'.depth) (h3 : A'.frames = A.frames) (h4 : A'.guards = none) (h5 : A.units ≤ A'.units)
    (h : wpAny M A' t Q E s) : wpAny M A t Q E s := by
  intro Γ p hΓ
  refine h Γ p ?_
  obtain ⟨a, b, c, d, e⟩ := hΓ
  refine ⟨a.trans h1.symm, Nat.le_trans b h2, ?_, ?_, Nat.le_trans e h5⟩
  · intro l hl; exact c l (h3 ▸ hl)
  · intro g hg; rw [h4] at hg; cases hg

abbrev lev (d u : Nat) (env : Env) (outer : List Env) : Around := { handled := none, depth := d, frames := some (env :: outer), guards := none, units := u }
abbrev tupOf (vs : List Value) (n : Nat) : Obj := { cls := .type "tuple", data := .seq vs.toArray n }

/-! tuples: less than, by the first place that differs -/
def LtAt (A : Around) (s : Shared) (y x : Value) (b : Bool) : Prop :=
  ∀ (prog : Program) (w : World) (E : Value → Shared → Prop) (Q : Value → Shared → Prop), Q (.bool b) s → wpAny (model prog w) A (richCompare .Lt y x) Q E s
theorem tuple_ltAt (l b : Addr) (items items2 : Array Value) (n n2 : Nat) (dd dd2 : Option Addr) (sl sl2 : Array (Option Value)) (j : Nat) (h1 : j < items.size) (h2 : j < items2.size) (r : Bool) :
    Meets (Builtin.«tuple.__lt__» ⟨[.ref l, .ref b], []⟩)
      (fun A R s => s.heap.get? l = some { cls := .type "tuple", dict := dd, data := .seq items n, slots := sl } ∧ s.heap.get? b = some { cls := .type "tuple", dict := dd2, data := .seq items2 n2, slots := sl2 } ∧
        (∀ i (g1 : i < items.size) (g2 : i < items2.size), i < j → EqAt A.in1 s items[i] items2[i] true) ∧ EqAt A.in1 s items[j] items2[j] false ∧ LtAt A.in1 s items[j] items2[j] r ∧
        R (.ok (.ret (.bool r))) s) :=
  .of_wp fun prog w A R s h => by
    obtain ⟨hp, g, d, tk, os⟩ := s; obtain ⟨hl, hb, he, hf, hr, h⟩ := h
    have f2 := AutoSeq1.sub_tuple_tuple
    have hZ : (items.toList.zip items2.toList).length = min items.size items2.size := by simp
    wp_walk using wpAny_loadPart' hl, wpAny_loadPart' hb, wpAny_forIn_list _ (fun rest b s' => b.1 = none ∧ s' = ⟨hp, g, d, tk, os⟩ ∧ ∃ i, rest = (items.toList.zip items2.toList).drop i ∧ i ≤ j) _
    case turn =>
      rintro ⟨y, x⟩ rest b s' ⟨hb', rfl, i, hz, hij⟩
      have hlt : i < (items.toList.zip items2.toList).length := by rw [hZ]; omega
      have g1 : i < items.size := by omega
      have g2 : i < items2.size := by omega
      rw [List.drop_eq_getElem_cons hlt] at hz
      injection hz with hyx hrest
      have hy : y = items[i] := by have := congrArg Prod.fst hyx; simpa using this
      have hx : x = items2[i] := by have := congrArg Prod.snd hyx; simpa using this
      subst hy hx
      by_cases hij' : i < j
      · refine wpAny_bind (he i g1 g2 hij' prog w _ _ ?_)
        wp_walk
        exact ⟨rfl, rfl, i + 1, hrest, hij'⟩
      · have e : i = j := by omega
        subst e
        refine wpAny_bind (hf prog w _ _ ?_)
        have hr' : ∀ {E' : Value → Shared → Prop} {Q' : Value → Shared → Prop}, Q' (.bool r) ⟨hp, g, d, tk, os⟩ → wpAny (model prog w) A.in1 (richCompare .Lt items[i] items2[i]) Q' E' ⟨hp, g, d, tk, os⟩ := fun h => hr prog w _ _ h
        wp_walk using hr'
        exact ⟨_, rfl, h⟩
    case fin =>
      rintro ⟨b1, b2⟩ s' ⟨hb', rfl, i, hz, hij⟩
      exfalso
      have hlt : i < (items.toList.zip items2.toList).length := by rw [hZ]; omega
      rw [List.drop_eq_getElem_cons hlt] at hz; cases hz
    case h =>
      exact ⟨rfl, rfl, 0, rfl, Nat.zero_le _⟩
theorem LtAt.int_int {A : Around} {s : Shared} (a : Int) (t : Tok) (b : Int) (u : Tok) : LtAt A s (.int a t) (.int b u) (decide (a < b)) := fun prog w E _ h =>
  PyProof.Rows.lt_int (prog := prog) (w := w) (A := A) (E := E) (t := t) (u := u) h
theorem LtAt.tuples {A : Around} {s : Shared} {l b : Addr} {items items2 : Array Value} (hl : s.heap.IsTuple l items) (hb : s.heap.IsTuple b items2) (hu : A.units < cLine)
    (j : Nat) (h1 : j < items.size) (h2 : j < items2.size) (r : Bool) (he : ∀ i (g1 : i < items.size) (g2 : i < items2.size), i < j → EqAt A.in1 s items[i] items2[i] true)
    (hf : EqAt A.in1 s items[j] items2[j] false) (hr : LtAt A.in1 s items[j] items2[j] r) : LtAt A s (.ref l) (.ref b) r := fun prog w E Q h => by
  obtain ⟨⟨cls, dd, data, sl⟩, ho, hc, n, hd⟩ := id hl
  obtain ⟨⟨cls2, dd2, data2, sl2⟩, ho2, hc2, n2, hd2⟩ := id hb
  simp only at hc hd hc2 hd2
  subst hc hd hc2 hd2
  exact richCompare_meets_room (op := .Lt) ⟨_, ho, rfl⟩ ⟨_, ho2, rfl⟩ F.slot_tuple_lt F.entry_tuple_lt (F.args_tuple_lt_2 _ _) (tuple_ltAt l b items items2 n n2 dd dd2 sl sl2 j h1 h2 r)
    ⟨ho, ho2, he, hf, hr, show Value.bool r ≠ Value.notImplemented ∧ Q (.bool r) s from ⟨(fun x => nomatch x), h⟩⟩ hu

theorem sub_nil {α : Type} {l : List α} : ∀ q ∈ ([] : List α), q ∈ l := fun _ h => nomatch h
theorem sub_self {α : Type} {l : List α} : ∀ q ∈ l, q ∈ l := fun _ h => h
theorem sub_cons {α : Type} {p : α} {r l : List α} (h : p ∈ l) (hr : ∀ q ∈ r, q ∈ l) : ∀ q ∈ p :: r, q ∈ l := List.forall_mem_cons.mpr ⟨h, hr⟩
theorem sub_more {α : Type} {p : α} {r l : List α} (hr : ∀ q ∈ r, q ∈ l) : ∀ q ∈ r, q ∈ p :: l := fun q h => .tail _ (hr q h)
theorem sub_app {α : Type} {a b l : List α} (h1 : ∀ q ∈ a, q ∈ l) (h2 : ∀ q ∈ b, q ∈ l) : ∀ q ∈ a ++ b, q ∈ l := fun q h => (List.mem_append.mp h).elim (h1 q) (h2 q)
theorem sub_left {α : Type} {a b : List α} : ∀ q ∈ a, q ∈ a ++ b := fun _ h => List.mem_append.mpr (.inl h)
theorem sub_right {α : Type} {a b r : List α} (hr : ∀ q ∈ r, q ∈ b) : ∀ q ∈ r, q ∈ a ++ b := fun q h => List.mem_append.mpr (.inr (hr q h))
/-! the shadow: items -/
structure It where
  price : Int
  p : Int
  q : Int
  a : Int
  b : Int
  c : Int
  d : Int
  label : List Nat
deriving DecidableEq
abbrev lab (l : List Nat) : Str := ⟨l.toArray⟩
/-- by price, number above, number below; none if these three meet -/
def ltK (x y : It) : Option Bool :=
  if x.price = y.price then (if x.p = y.p then (if x.q = y.q then none else some (decide (x.q < y.q))) else some (decide (x.p < y.p))) else some (decide (x.price < y.price))

/-- the ledger bears the ends' tuple, the item's tuple -/
def EndsAt (rest : List (Addr × Obj)) (ea : Addr) (a b c d : Int) : Prop :=
  ∃ ta tb tc td n, (ea, tupOf [Value.int a ta, Value.int b tb, Value.int c tc, Value.int d td] n) ∈ rest
def ItemAt (rest : List (Addr × Obj)) (x : Addr) (i : It) : Prop :=
  ∃ ea t1 t2 t3 t4 n, (x, tupOf [Value.int i.price t1, Value.int i.p t2, Value.int i.q t3, Value.ref ea, Value.str (lab i.label) t4] n) ∈ rest ∧ EndsAt rest ea i.a i.b i.c i.d
theorem EndsAt.mono {r r' : List (Addr × Obj)} (h : ∀ p ∈ r, p ∈ r') {x : Addr} {a b c d : Int} (i : EndsAt r x a b c d) : EndsAt r' x a b c d := by
  obtain ⟨ta, tb, tc, td, n, hm⟩ := i
  exact ⟨ta, tb, tc, td, n, h _ hm⟩
theorem ItemAt.mono {r r' : List (Addr × Obj)} (h : ∀ p ∈ r, p ∈ r') {x : Addr} {i : It} (hi : ItemAt r x i) : ItemAt r' x i := by
  obtain ⟨ea, t1, t2, t3, t4, n, hm, he⟩ := hi
  exact ⟨ea, t1, t2, t3, t4, n, h _ hm, he.mono h⟩

theorem item_lt {h₀ : Heap} {L : Addr} {s : Shared} {led rest : List (Addr × Obj)} {A : Around} {x y : Addr × It} {r : Bool} (N : News h₀ L s.heap led) (hs : ∀ p ∈ rest, p ∈ led) (hx : ItemAt rest x.1 x.2) (hy : ItemAt rest y.1 y.2)
    (hk : ltK x.2 y.2 = some r) (hu : A.units < cLine) : LtAt A s (.ref x.1) (.ref y.1) r := by
  obtain ⟨ea, t1, t2, t3, t4, n, hm, -⟩ := hx
  obtain ⟨ea', t1', t2', t3', t4', n', hm', -⟩ := hy
  have hl : s.heap.IsTuple x.1 [Value.int x.2.price t1, Value.int x.2.p t2, Value.int x.2.q t3, Value.ref ea, Value.str (lab x.2.label) t4].toArray := ⟨_, (N _ (hs _ hm)).1, rfl, n, rfl⟩
  have hb : s.heap.IsTuple y.1 [Value.int y.2.price t1', Value.int y.2.p t2', Value.int y.2.q t3', Value.ref ea', Value.str (lab y.2.label) t4'].toArray := ⟨_, (N _ (hs _ hm')).1, rfl, n', rfl⟩
  unfold ltK at hk
  split at hk
  · rename_i e1
    split at hk
    · rename_i e2
      split at hk
      · cases hk
      · rename_i e3
        injection hk with hk
        refine LtAt.tuples hl hb hu 2 (by simp) (by simp) r ?_ ?_ ?_
        · intro i g1 g2 hi
          have hi' : i = 0 ∨ i = 1 := by omega
          rcases hi' with rfl | rfl
          · have := EqAt.int_int (A := A.in1) (s := s) x.2.price t1 y.2.price t1'
            rw [e1] at this ⊢
            simpa using this
          · have := EqAt.int_int (A := A.in1) (s := s) x.2.p t2 y.2.p t2'
            rw [e2] at this ⊢
            simpa using this
        · have := EqAt.int_int (A := A.in1) (s := s) x.2.q t3 y.2.q t3'
          have hf : (x.2.q == y.2.q) = false := by simpa using e3
          rw [hf] at this
          exact this
        · rw [← hk]; exact LtAt.int_int _ _ _ _
    · rename_i e2
      injection hk with hk
      refine LtAt.tuples hl hb hu 1 (by simp) (by simp) r ?_ ?_ ?_
      · intro i g1 g2 hi
        have hi' : i = 0 := by omega
        subst hi'
        have := EqAt.int_int (A := A.in1) (s := s) x.2.price t1 y.2.price t1'
        rw [e1] at this ⊢
        simpa using this
      · have := EqAt.int_int (A := A.in1) (s := s) x.2.p t2 y.2.p t2'
        have hf : (x.2.p == y.2.p) = false := by simpa using e2
        rw [hf] at this
        exact this
      · rw [← hk]; exact LtAt.int_int _ _ _ _
  · rename_i e1
    injection hk with hk
    refine LtAt.tuples hl hb hu 0 (by simp) (by simp) r ?_ ?_ ?_
    · intro i g1 g2 hi; omega
    · have := EqAt.int_int (A := A.in1) (s := s) x.2.price t1 y.2.price t1'
      have hf : (x.2.price == y.2.price) = false := by simpa using e1
      rw [hf] at this
      exact this
    · rw [← hk]; exact LtAt.int_int _ _ _ _

theorem item_ltW {prog : Program} {w : World} {E : Value → Shared → Prop} {Q : Value → Shared → Prop} {h₀ : Heap} {L : Addr} {s : Shared} {q : Addr × Obj} {rest : List (Addr × Obj)} {A : Around} {x y : Addr × It} {r : Bool} (N : News h₀ L s.heap (q :: rest)) (hx : ItemAt rest x.1 x.2) (hy : ItemAt rest y.1 y.2)
    (hk : ltK x.2 y.2 = some r) (hu : A.units < cLine) (h : Q (.bool r) s) : wpAny (model prog w) A (compareOp .Lt (.ref x.1) (.ref y.1)) Q E s :=
  item_lt N (fun _ h => .tail _ h) hx hy hk hu prog w E Q h

/-- the walk halts here -/
def Halt (P : Prop) : Prop := P
theorem Halt.go {P : Prop} (h : Halt P) : P := h
theorem bind_self {m : Str → Option Value} (x : Str) {v : Option Value} (h : m x = v) : m = fun y => if y = x then v else m y := by
  funext y
  by_cases e : y = x
  · subst e; rw [if_pos rfl]; exact h
  · rw [if_neg e]
theorem Fr.as {h₀ h : Heap} {L : Addr} {m m' : Str → Option Value} (F : Fr h₀ L h m) (e : m = m') : Fr h₀ L h m' := e ▸ F
theorem Fr.ex1 {h₀ h : Heap} {L : Addr} (f : Tok → Str → Option Value) {a1 : Tok} (F : Fr h₀ L h (f a1)) : ∃ a1, Fr h₀ L h (f a1) := ⟨a1, F⟩
theorem Fr.ex2 {h₀ h : Heap} {L : Addr} (f : Tok → Tok → Str → Option Value) {a1 a2 : Tok} (F : Fr h₀ L h (f a1 a2)) : ∃ a1 a2, Fr h₀ L h (f a1 a2) := ⟨a1, a2, F⟩
theorem Fr.ex3 {h₀ h : Heap} {L : Addr} (f : Tok → Tok → Tok → Str → Option Value) {a1 a2 a3 : Tok} (F : Fr h₀ L h (f a1 a2 a3)) : ∃ a1 a2 a3, Fr h₀ L h (f a1 a2 a3) := ⟨a1, a2, a3, F⟩
theorem Fr.ex4 {h₀ h : Heap} {L : Addr} (f : Tok → Tok → Tok → Tok → Str → Option Value) {a1 a2 a3 a4 : Tok} (F : Fr h₀ L h (f a1 a2 a3 a4)) : ∃ a1 a2 a3 a4, Fr h₀ L h (f a1 a2 a3 a4) := ⟨a1, a2, a3, a4, F⟩
theorem Fr.ex5 {h₀ h : Heap} {L : Addr} (f : Tok → Tok → Tok → Tok → Tok → Str → Option Value) {a1 a2 a3 a4 a5 : Tok} (F : Fr h₀ L h (f a1 a2 a3 a4 a5)) : ∃ a1 a2 a3 a4 a5, Fr h₀ L h (f a1 a2 a3 a4 a5) := ⟨a1, a2, a3, a4, a5, F⟩
theorem Fr.ex6 {h₀ h : Heap} {L : Addr} (f : Tok → Tok → Tok → Tok → Tok → Tok → Str → Option Value) {a1 a2 a3 a4 a5 a6 : Tok} (F : Fr h₀ L h (f a1 a2 a3 a4 a5 a6)) : ∃ a1 a2 a3 a4 a5 a6, Fr h₀ L h (f a1 a2 a3 a4 a5 a6) := ⟨a1, a2, a3, a4, a5, a6, F⟩
theorem Fr.ex7 {h₀ h : Heap} {L : Addr} (f : Tok → Tok → Tok → Tok → Tok → Tok → Tok → Str → Option Value) {a1 a2 a3 a4 a5 a6 a7 : Tok} (F : Fr h₀ L h (f a1 a2 a3 a4 a5 a6 a7)) : ∃ a1 a2 a3 a4 a5 a6 a7, Fr h₀ L h (f a1 a2 a3 a4 a5 a6 a7) := ⟨a1, a2, a3, a4, a5, a6, a7, F⟩
theorem Fr.ex8 {h₀ h : Heap} {L : Addr} (f : Tok → Tok → Tok → Tok → Tok → Tok → Tok → Tok → Str → Option Value) {a1 a2 a3 a4 a5 a6 a7 a8 : Tok} (F : Fr h₀ L h (f a1 a2 a3 a4 a5 a6 a7 a8)) : ∃ a1 a2 a3 a4 a5 a6 a7 a8, Fr h₀ L h (f a1 a2 a3 a4 a5 a6 a7 a8) := ⟨a1, a2, a3, a4, a5, a6, a7, a8, F⟩
theorem map1 {m m0 : Str → Option Value} (x1 : Str) (hm : ∀ y, y ≠ x1 → m y = m0 y) : m = fun y => if y = x1 then m x1 else m0 y := by
  funext y
  by_cases e1 : y = x1
  · subst e1; simp only [if_true]
  simp only [if_neg e1]
  exact hm y e1
theorem map2 {m m0 : Str → Option Value} (x1 x2 : Str) (hm : ∀ y, y ≠ x1 → y ≠ x2 → m y = m0 y) : m = fun y => if y = x1 then m x1 else if y = x2 then m x2 else m0 y := by
  funext y
  by_cases e1 : y = x1
  · subst e1; simp only [if_true]
  by_cases e2 : y = x2
  · subst e2; simp only [if_true, if_neg e1]
  simp only [if_neg e1, if_neg e2]
  exact hm y e1 e2
theorem map3 {m m0 : Str → Option Value} (x1 x2 x3 : Str) (hm : ∀ y, y ≠ x1 → y ≠ x2 → y ≠ x3 → m y = m0 y) : m = fun y => if y = x1 then m x1 else if y = x2 then m x2 else if y = x3 then m x3 else m0 y := by
  funext y
  by_cases e1 : y = x1
  · subst e1; simp only [if_true]
  by_cases e2 : y = x2
  · subst e2; simp only [if_true, if_neg e1]
  by_cases e3 : y = x3
  · subst e3; simp only [if_true, if_neg e1, if_neg e2]
  simp only [if_neg e1, if_neg e2, if_neg e3]
  exact hm y e1 e2 e3
theorem map11 {m m0 : Str → Option Value} (x1 x2 x3 x4 x5 x6 x7 x8 x9 x10 x11 : Str) (hm : ∀ y, y ≠ x1 → y ≠ x2 → y ≠ x3 → y ≠ x4 → y ≠ x5 → y ≠ x6 → y ≠ x7 → y ≠ x8 → y ≠ x9 → y ≠ x10 → y ≠ x11 → m y = m0 y) : m = fun y => if y = x1 then m x1 else if y = x2 then m x2 else if y = x3 then m x3 else if y = x4 then m x4 else if y = x5 then m x5 else if y = x6 then m x6 else if y = x7 then m x7 else if y = x8 then m x8 else if y = x9 then m x9 else if y = x10 then m x10 else if y = x11 then m x11 else m0 y := by
  funext y
  by_cases e1 : y = x1
  · subst e1; simp only [if_true]
  by_cases e2 : y = x2
  · subst e2; simp only [if_true, if_neg e1]
  by_cases e3 : y = x3
  · subst e3; simp only [if_true, if_neg e1, if_neg e2]
  by_cases e4 : y = x4
  · subst e4; simp only [if_true, if_neg e1, if_neg e2, if_neg e3]
  by_cases e5 : y = x5
  · subst e5; simp only [if_true, if_neg e1, if_neg e2, if_neg e3, if_neg e4]
  by_cases e6 : y = x6
  · subst e6; simp only [if_true, if_neg e1, if_neg e2, if_neg e3, if_neg e4, if_neg e5]
  by_cases e7 : y = x7
  · subst e7; simp only [if_true, if_neg e1, if_neg e2, if_neg e3, if_neg e4, if_neg e5, if_neg e6]
  by_cases e8 : y = x8
  · subst e8; simp only [if_true, if_neg e1, if_neg e2, if_neg e3, if_neg e4, if_neg e5, if_neg e6, if_neg e7]
  by_cases e9 : y = x9
  · subst e9; simp only [if_true, if_neg e1, if_neg e2, if_neg e3, if_neg e4, if_neg e5, if_neg e6, if_neg e7, if_neg e8]
  by_cases e10 : y = x10
  · subst e10; simp only [if_true, if_neg e1, if_neg e2, if_neg e3, if_neg e4, if_neg e5, if_neg e6, if_neg e7, if_neg e8, if_neg e9]
  by_cases e11 : y = x11
  · subst e11; simp only [if_true, if_neg e1, if_neg e2, if_neg e3, if_neg e4, if_neg e5, if_neg e6, if_neg e7, if_neg e8, if_neg e9, if_neg e10]
  simp only [if_neg e1, if_neg e2, if_neg e3, if_neg e4, if_neg e5, if_neg e6, if_neg e7, if_neg e8, if_neg e9, if_neg e10, if_neg e11]
  exact hm y e1 e2 e3 e4 e5 e6 e7 e8 e9 e10 e11
/-! the list of items: read, store -/
abbrev refsOf {α : Type} (xs : List (Addr × α)) : List Value := xs.map fun x => Value.ref x.1
section
variable {α : Type} {prog : Program} {w : World} {A : Around} {E : Value → Shared → Prop} {s : Shared} {h₀ : Heap} {L : Addr} {m : Str → Option Value} {news : List (Addr × Obj)} {value slice : PySem.Expr} {a : Addr} {xs : List (Addr × α)} {n : Nat} {k : Int} {u : Tok} {x : Addr × α}
theorem item_read {Q : Value → Shared → Prop} (N : News h₀ L s.heap news) (hm : (a, listOf (refsOf xs).toArray n) ∈ news) (hl : xs.length < 1000) (h0 : 0 ≤ k) (hx : xs[k.toNat]? = some x) (h : Q (.ref x.1) s)
    (hs : subscripted slice false (.ref a) (.int k u) = operate [.ref a, .int k u] (getItem (.ref a) (.int k u)) := by with_unfolding_all rfl) (hg : ∀ r, letTemporaryGo value (.ref a) r = pure () := by intro _; with_unfolding_all rfl) :
    wpAny (model prog w) A (subscriptTail value slice (.ref a) (.int k u)) Q E s := by
  have hk : k.toNat < xs.length := by
    rcases Nat.lt_or_ge k.toNat xs.length with h' | h'
    · exact h'
    · rw [List.getElem?_eq_none h'] at hx; cases hx
  refine kim_list (l := refsOf xs) N hm rfl rfl h0 (by omega) ?_ h hs hg
  rw [List.getElem?_map, hx]; rfl
theorem item_store {Q : Unit → Shared → Prop} {rest : List (Addr × Obj)} (F : Fr h₀ L s.heap m) (N : News h₀ L s.heap ((a, listOf (refsOf xs).toArray n) :: rest)) (hne : ∀ p ∈ rest, p.1 ≠ a) (hl : xs.length < 1000) (h0 : 0 ≤ k) (hk : k.toNat < xs.length)
    (h : ∀ h', Fr h₀ L h' m → News h₀ L h' ((a, listOf (refsOf (xs.set k.toNat x)).toArray n) :: rest) → Q () { s with heap := h' }) :
    wpAny (model prog w) A (setItem (.ref a) (.int k u) (.ref x.1)) Q E s := by
  have z := N (a, listOf (refsOf xs).toArray n) (.head _)
  have hsz : (refsOf xs).toArray.size = xs.length := by simp
  refine ki_setAt z.1 h0 (by omega) (by rw [hsz]; omega) (h _ (F.change (Heap.SameBut.update ..) z.2.1 z.2.2) ?_)
  refine ki_turn (pre := []) (post := rest) _ N (fun _ h => nomatch h) hne ?_ ?_
  · show (refsOf xs).toArray.setIfInBounds k.toNat (.ref x.1) = (refsOf (xs.set k.toNat x)).toArray
    apply Array.toList_inj.mp
    simp [List.map_set]
  · simp
theorem items_len {Q : Value → Shared → Prop} (N : News h₀ L s.heap news) (hm : (a, listOf (refsOf xs).toArray n) ∈ news) (hl : xs.length < 1000) (h : Q (.int (xs.length : Int) (s.toks + 1)) { s with toks := s.toks + 1 + 1 }) :
    wpAny (model prog w) A (call (Value.builtin "len") [Value.ref a]) Q E s := by
  have hsz : (refsOf xs).toArray.size = xs.length := by simp
  refine PyProof.Rows.len_list (items := (refsOf xs).toArray) ⟨_, (N _ hm).1, rfl, n, rfl⟩ (by rw [hsz]; omega) ?_
  rw [hsz]; exact h
theorem items_append {Q : Value → Shared → Prop} {rest : List (Addr × Obj)} (F : Fr h₀ L s.heap m) (N : News h₀ L s.heap ((a, listOf (refsOf xs).toArray n) :: rest)) (hne : ∀ p ∈ rest, p.1 ≠ a) (hl : xs.length < 999)
    (h : ∀ h', Fr h₀ L h' m → News h₀ L h' ((a, listOf (refsOf (xs ++ [x])).toArray (n + 1)) :: rest) → Q .none { s with heap := h' }) :
    wpAny (model prog w) A (call (.builtin "list.append") [.ref a, .ref x.1]) Q E s := by
  refine append_K F N (Upd.head hne) (fun h' F' N' => h h' F' ?_) ?_
  · have e : (refsOf xs).toArray.push (Value.ref x.1) = (refsOf (xs ++ [x])).toArray := by simp
    rw [← e]; exact N'
  · show (refsOf xs).toArray.size ≤ sizeLine
    have hsz : (refsOf xs).toArray.size = xs.length := by simp
    rw [hsz, sizeLine_eq]; omega
theorem lab_add {Q : Value → Shared → Prop} {l k : List Nat} {y : Str} {t' : Tok} (hy : y = lab k) (hl : l.length < 1000) (hk : k.length < 1000) (h : ∀ t' tk, Q (.str (lab (l ++ k)) t') { s with toks := tk }) :
    wpAny (model prog w) A (binaryOp .Add (.str (lab l) t') (.str y u)) Q E s := by
  subst hy
  refine PyProof.Rows.add_str (fun t' tk => ?_) ?_
  · have e : lab l ++ lab k = lab (l ++ k) := by
      apply Str.ext'
      rw [Str.cps_append]
      simp
    rw [e]; exact h t' tk
  · have e1 : (lab l).length = l.length := by show (l.toArray).size = _; simp
    have e2 : (lab k).length = k.length := by show (k.toArray).size = _; simp
    rw [e1, e2, sizeLine_eq]; omega
theorem lit_o : Str.ofString "o" = lab [111] := by decide +kernel
theorem lit_do : Str.ofString ".o" = lab [46, 111] := by decide +kernel
theorem lit_doo : Str.ofString ".oo" = lab [46, 111, 111] := by decide +kernel
theorem lit_e : Str.ofString "" = lab [] := by decide +kernel
theorem lit_dot : Str.ofString "." = lab [46] := by decide +kernel
theorem same_ne {Q : Value → Shared → Prop} {vs : List Value} (N : News h₀ L s.heap news) (hm : (a, tupOf vs n) ∈ news) (hu : A.units < cLine) (h : Q (.bool false) s) :
    wpAny (model prog w) A (compareOp .NotEq (.ref a) (.ref a)) Q E s := by
  have hl : s.heap.IsTuple a vs.toArray := ⟨_, (N _ hm).1, rfl, n, rfl⟩
  have := PySem.SeqAt.RcNeAt.tuples (A := A) (e := fun _ => true) hl hl hu (fun j h1 h2 => EqAt.same _) prog w E Q
  refine this ?_
  have e : (List.range (min vs.toArray.size vs.toArray.size)).all (fun _ => true) = true := List.all_eq_true.mpr fun _ _ => rfl
  rw [e]
  simpa using h
theorem News.sub {l l' : List (Addr × Obj)} {h : Heap} (N : News h₀ L h l) (hs : ∀ p ∈ l', p ∈ l) : News h₀ L h l' := fun p hp => N p (hs p hp)
theorem News.swap {p q : Addr × Obj} {l : List (Addr × Obj)} {h : Heap} (N : News h₀ L h (p :: q :: l)) : News h₀ L h (q :: p :: l) := fun z hz => N z (by
  rcases List.mem_cons.mp hz with h | h
  · rw [h]; exact .tail _ (.head _)
  · rcases List.mem_cons.mp h with h | h
    · rw [h]; exact .head _
    · exact .tail _ (.tail _ h))
theorem News.named {D : Addr} {o : Obj} {l : List (Addr × Obj)} {h : Heap} (N : News h₀ L h ((D, o) :: l)) : ∃ o', o' = o ∧ News h₀ L h ((D, o') :: l) := ⟨o, rfl, N⟩
end
end
local macro_rules | `(tactic| k_mem) => `(tactic| first | exact List.mem_cons_self | (with_reducible assumption) | (refine List.mem_cons_of_mem _ ?_; k_mem))
local macro_rules | `(tactic| walk_at $s:str) => `(tactic| k_extra $s)
section
section
def sdLoop : Nat → List It → It → Nat → Option (List It)
  | 0, _, _, _ => none
  | f + 1, ds, x, pos =>
    if pos = 0 then some (ds.set pos x)
    else match ds[(pos - 1) / 2]? with
      | none => none
      | some y => match ltK x y with
        | none => none
        | some true => sdLoop f (ds.set pos y) x ((pos - 1) / 2)
        | some false => some (ds.set pos x)
def sdRun (ds : List It) (pos : Nat) : Option (List It) := match ds[pos]? with
  | some x => sdLoop (pos + 1) ds x pos
  | none => none

theorem siftdown_c {w : World} {p : Program} {loose : List Str} {mean : ExcName → Option Value} {mg mb : Str → Option Value} {env : Env} {outer : List Env} {A₀ : Around} {base h₀ : Heap} {L : Addr} {m : Str → Option Value} {s : Shared} {Q E : Value → Shared → Prop}
   {rest : List (Addr × Obj)} {la : Addr} {xs : List (Addr × It)} {n pos : Nat} {t0 t1 : Tok} {ds' : List It} {kk : Int}
   (B : Below A₀ base outer h₀) (F : Fr h₀ L s.heap m) (X : (hd.heap_39 w.params).In h₀) (N : News h₀ L s.heap ((la, listOf (refsOf xs).toArray n) :: rest)) (T : Top p loose mean mg mb h₀)
   (hf : env.frame = some L) (hke : env.scope.kind = .function)
   (hne : ∀ p ∈ rest, p.1 ≠ la) (hi : ∀ x ∈ xs, ItemAt rest x.1 x.2) (hlen : xs.length < 1000) (hrun : sdRun (xs.map (·.2)) pos = some ds') (hk : kk = (pos : Int))
   (ret : ∀ h' tk' xs', Fr h₀ L h' m → News h₀ L h' ((la, listOf (refsOf xs').toArray n) :: rest) → xs'.map (·.2) = ds' → (∀ z ∈ xs', z ∈ xs) → xs'.length = xs.length → Q .none { s with heap := h', toks := tk' }) :
   wpAny (model PySem.Challenge.rw_oy0044_01.row.prog w) (lev 390 900 env outer) (call (.ref 42) [.ref la, .int 0 t0, .int kk t1]) Q E s := by
  subst hk
  w_top off
  k_with_none
  (k_with "subscriptTail" => (k_here; (with_reducible show wpAny _ _ (subscriptTail _ _ (Value.ref _) (Value.int _ _)) _ _ _); (with_unfolding_all refine' kim_list ?k1 ?k2 ?k3 ?k4 ?k5 ?k6 ?k7 ?_ ?k8 ?k9; (case k1 => k_asm); (case k2 => k_mem); (case k3 => exact rfl); (case k4 => exact rfl); (case k5 => decide); (case k6 => decide); (case k7 => exact rfl); (case k8 => with_unfolding_all rfl); (case k9 => intro _; with_unfolding_all rfl); k_whole)))
  (k_with "subscriptTail" => (k_here; (with_reducible show wpAny _ _ (subscriptTail _ _ (Value.ref _) (Value.int _ _)) _ _ _); (with_unfolding_all refine' item_read ?k1 ?k2 ?k3 ?k4 ?k5 ?_ ?k8 ?k9; (case k1 => k_asm); (case k2 => k_mem); (case k3 => with_reducible assumption); (case k4 => with_reducible assumption); (case k5 => with_reducible assumption); (case k8 => with_unfolding_all rfl); (case k9 => intro _; with_unfolding_all rfl); k_whole)))
  (k_with "setItem ref int ref" => (k_here; (with_reducible show wpAny _ _ (setItem (Value.ref _) (Value.int _ _) (Value.ref _)) _ _ _); (refine' item_store ?k1 ?k2 ?k3 ?k4 ?k5 ?k6 ?_; (case k1 => k_asm); (case k2 => k_asm); (case k3 => with_reducible assumption); (case k4 => with_reducible assumption); (case k5 => first | with_reducible assumption | omega); (case k6 => first | with_reducible assumption | omega); k_whole); intro _ _ _; (try k_sweep)))
  (k_with "compareOp Lt ref ref" => (k_here; (with_reducible show wpAny _ _ (compareOp CmpOp.Lt (Value.ref _) (Value.ref _)) _ _ _); (refine' item_ltW ?k1 ?k2 ?k3 ?k4 ?k5 ?_; (case k1 => k_asm); (case k2 => with_reducible assumption); (case k3 => with_reducible assumption); (case k4 => with_reducible assumption); (case k5 => k_units); k_whole)))
  (k_with "call builtin:len" => (k_here; (with_reducible show wpAny _ _ (call (Value.builtin "len") [Value.ref _]) _ _ _); (with_unfolding_all refine' items_len ?k1 ?k2 ?k3 ?_; (case k1 => k_asm); (case k2 => k_mem); (case k3 => with_reducible assumption); k_whole)))
  (k_with "call builtin:list.append" => (k_here; (with_reducible show wpAny _ _ (call (Value.builtin _) [Value.ref _, Value.ref _]) _ _ _); (with_unfolding_all refine' items_append ?k1 ?k2 ?k3 ?k4 ?_; (case k1 => k_asm); (case k2 => k_asm); (case k3 => with_reducible assumption); (case k4 => with_reducible assumption); k_whole); intro _ _ _; (try k_sweep)))
  (k_with "binaryOp Add str str" => (k_here; (with_reducible show wpAny _ _ (binaryOp _ (Value.str (Str.mk (List.toArray _)) _) (Value.str (Str.ofString _) _)) _ _ _); (refine' lab_add ?k1 ?k2 ?k3 ?_; (case k1 => first | with_reducible exact lit_do | with_reducible exact lit_doo | with_reducible exact lit_dot); (case k2 => first | with_reducible assumption | omega); (case k3 => decide); k_whole); intro _ _))
  (k_with "compareOp NotEq ref ref" => (k_here; (with_reducible show wpAny _ _ (compareOp CmpOp.NotEq (Value.ref _) (Value.ref _)) _ _ _); (with_unfolding_all refine' same_ne ?k1 ?k2 ?k3 ?_; (case k1 => k_asm); (case k2 => k_mem); (case k3 => k_units); k_whole)))
  (k_with "exec While Compare cons nil" => refine Halt.go ?_)
  revert X; k_fill; intro X
  obtain ⟨x, hx, hloop⟩ : ∃ x, xs[pos]? = some x ∧ sdLoop (pos + 1) (xs.map (·.2)) x.2 pos = some ds' := by
    unfold sdRun at hrun
    rw [List.getElem?_map] at hrun
    cases hx : xs[pos]? with
    | none => rw [hx] at hrun; cases hrun
    | some x => rw [hx] at hrun; exact ⟨x, rfl, hrun⟩
  have hp0 : (0 : Int) ≤ (pos : Int) := by omega
  have hx' : xs[((pos : Int)).toNat]? = some x := hx
  refine wpAny_call ?_
  k_dflt ((refine' code_def ?k1 ?k2 ?k3 ?k4 ?k5 ?kA ?kF ?kK ?k6 ?k7 ?k8 ?k9 ?kB ?_ ?c2 ?c3 ?c4 ?c5; (case kA => exact rfl); (case kF => assumption); (case kK => assumption); (case k1 => k_asm); (case k2 => k_asm); (case k3 => k_asm); (case k4 => k_asm); (case k5 => k_asm); (case k6 => k_is); (case k7 => k_is); (case k8 => k_room); (case k9 => exact BindsTo.of_eq rfl); (case c5 => decide); (case kB => exact locs rfl); (case c2 => exact rfl); (case c3 => exact rfl); (case c4 => exact rfl); k_whole; intro _ _ _ _ _ _ _ _ _; (try dsimp only); (try k_fold)))
  k_steps
  unfold Halt
  rename Fr _ _ _ _ => F1
  rename News _ _ _ _ => N1
  have F2 := Fr.as F1 (m' := fun y => if y = Str.ofString "newitem" then some (Value.ref x.1) else List.lookup y [(Str.ofString "pos", Value.int (pos : Int) t1), (Str.ofString "startpos", Value.int 0 t0), (Str.ofString "heap", Value.ref la)]) (by with_unfolding_all rfl)
  clear F1
  refine While_inv2 (fun f m₁ news₁ => ∃ (ps : Nat) (ys : List (Addr × It)),
      (∃ tp, m₁ (Str.ofString "pos") = some (Value.int (ps : Int) tp)) ∧ (∀ y, y ≠ Str.ofString "pos" → y ≠ Str.ofString "parent" → y ≠ Str.ofString "parentpos" → m₁ y =
        if y = Str.ofString "newitem" then some (Value.ref x.1) else List.lookup y [(Str.ofString "pos", Value.int (pos : Int) t1), (Str.ofString "startpos", Value.int 0 t0), (Str.ofString "heap", Value.ref la)])
      ∧ news₁ = (la, listOf (refsOf ys).toArray n) :: rest ∧ (∀ z ∈ ys, z ∈ xs) ∧ ys.length = xs.length ∧ ps < ys.length ∧ sdLoop f (ys.map (·.2)) x.2 ps = some ds') F2 N1 (n₀ := pos + 1) ?_ ?_
  · refine ⟨pos, xs, ⟨t1, rfl⟩, fun y _ _ _ => rfl, rfl, fun _ h => h, rfl, ?_, hloop⟩
    rcases Nat.lt_or_ge pos xs.length with h' | h'
    · exact h'
    · rw [List.getElem?_eq_none h'] at hx; cases hx
  · clear F2 N1
    rintro f m₁ news₁ h₁ tk₁ F₁ N₁ ⟨ps, ys, ⟨tp, hpos⟩, hm, rfl, hiy, hly, hps, hl⟩
    have F₁ := Fr.as F₁ (map3 _ _ _ hm)
    rw [hpos] at F₁
    generalize m₁ (Str.ofString "parent") = u1 at F₁
    generalize m₁ (Str.ofString "parentpos") = u2 at F₁
    have hxm : x ∈ xs := List.mem_of_getElem? hx
    have hxi : ItemAt rest x.1 x.2 := hi x hxm
    have hlen' : ys.length < 1000 := by omega
    clear hx hx' hloop hp0 hrun hm hpos
    cases f with
    | zero => unfold sdLoop at hl; cases hl
    | succ f =>
      unfold sdLoop at hl
      by_cases h0 : ps = 0
      · rw [if_pos h0] at hl
        k_steps
        refine ret _ _ _ (by assumption) (by assumption) ?_ ?_ ?_
        · injection hl with hl
          rw [← hl]
          simp [List.map_set]
        · intro z hz
          rcases List.mem_or_eq_of_mem_set hz with hz | hz
          · exact hiy z hz
          · rw [hz]; exact hxm
        · rw [List.length_set]; exact hly
      · rw [if_neg h0] at hl
        rw [List.getElem?_map] at hl
        cases hy : ys[(ps - 1) / 2]? with
        | none => rw [hy] at hl; cases hl
        | some y =>
          rw [hy] at hl
          simp only [Option.map_some] at hl
          have hym : y ∈ xs := hiy y (List.mem_of_getElem? hy)
          have hyi : ItemAt rest y.1 y.2 := hi y hym
          have hq0 : (0 : Int) ≤ ((ps : Int) - 1).fdiv (2 ^ (1 : Int).toNat) := by
            rw [Int.fdiv_eq_ediv_of_nonneg _ (by decide)]; show (0 : Int) ≤ ((ps : Int) - 1) / 2; omega
          have hqe : ((ps : Int) - 1).fdiv (2 ^ (1 : Int).toNat) = (((ps - 1) / 2 : Nat) : Int) := by
            rw [Int.fdiv_eq_ediv_of_nonneg _ (by decide)]; show ((ps : Int) - 1) / 2 = _; omega
          have hqx : ys[(((ps : Int) - 1).fdiv (2 ^ (1 : Int).toNat)).toNat]? = some y := by rw [hqe]; exact hy
          cases hk : ltK x.2 y.2 with
          | none => rw [hk] at hl; cases hl
          | some r =>
            rw [hk] at hl
            cases r with
            | true =>
              simp only at hl
              k_steps
              refine ⟨_, _, _, _, f, rfl, by assumption, by assumption, Nat.lt_succ_self _, ?_⟩
              refine ⟨(ps - 1) / 2, ys.set ps y, ⟨_, by rw [← hqe]; rfl⟩, fun z e1 e2 e3 => ?_, rfl, ?_, ?_, ?_, ?_⟩
              · simp only [if_neg e1, if_neg e2, if_neg e3]
              · intro z hz
                rcases List.mem_or_eq_of_mem_set hz with hz | hz
                · exact hiy z hz
                · rw [hz]; exact hym
              · rw [List.length_set]; exact hly
              · rw [List.length_set]; omega
              · rw [List.map_set]; exact hl
            | false =>
              simp only at hl
              k_steps
              dsimp only [WhileStep2]
              k_steps
              refine ret _ _ _ (by assumption) (by assumption) ?_ ?_ ?_
              · injection hl with hl
                rw [← hl]
                simp [List.map_set]
              · intro z hz
                rcases List.mem_or_eq_of_mem_set hz with hz | hz
                · exact hiy z hz
                · rw [hz]; exact hxm
              · rw [List.length_set]; exact hly
end
end
section
section

def suLoop : Nat → List It → It → Nat → Option (List It)
  | 0, _, _, _ => none
  | f + 1, ds, x, pos =>
    if ds.length ≤ 2 * pos + 1 then sdRun (ds.set pos x) pos
    else if 2 * pos + 2 < ds.length then
      match ds[2 * pos + 1]?, ds[2 * pos + 2]? with
      | some u, some v => match ltK u v with
        | none => none
        | some true => suLoop f (ds.set pos u) x (2 * pos + 1)
        | some false => suLoop f (ds.set pos v) x (2 * pos + 2)
      | _, _ => none
    else match ds[2 * pos + 1]? with
      | some u => suLoop f (ds.set pos u) x (2 * pos + 1)
      | none => none
def suRun (ds : List It) : Option (List It) := match ds[0]? with
  | some x => suLoop (ds.length + 1) ds x 0
  | none => none

theorem siftup_c {w : World} {p : Program} {loose : List Str} {mean : ExcName → Option Value} {mg mb : Str → Option Value} {env : Env} {outer : List Env} {A₀ : Around} {base h₀ : Heap} {L : Addr} {m : Str → Option Value} {s : Shared} {Q E : Value → Shared → Prop}
   {rest : List (Addr × Obj)} {la : Addr} {xs : List (Addr × It)} {n : Nat} {t1 : Tok} {ds' : List It}
   (B : Below A₀ base outer h₀) (F : Fr h₀ L s.heap m) (X : (hd.heap_39 w.params).In h₀) (N : News h₀ L s.heap ((la, listOf (refsOf xs).toArray n) :: rest)) (T : Top p loose mean mg mb h₀)
   (hf : env.frame = some L) (hke : env.scope.kind = .function)
   (hne : ∀ p ∈ rest, p.1 ≠ la) (hi : ∀ x ∈ xs, ItemAt rest x.1 x.2) (hlen : xs.length < 1000) (hrun : suRun (xs.map (·.2)) = some ds')
   (ret : ∀ h' tk' xs', Fr h₀ L h' m → News h₀ L h' ((la, listOf (refsOf xs').toArray n) :: rest) → xs'.map (·.2) = ds' → (∀ z ∈ xs', z ∈ xs) → xs'.length = xs.length → Q .none { s with heap := h', toks := tk' }) :
   wpAny (model PySem.Challenge.rw_oy0044_01.row.prog w) (lev 380 800 env outer) (call (.ref 49) [.ref la, .int 0 t1]) Q E s := by
  w_top off
  k_with_none
  (k_with "subscriptTail" => (k_here; (with_reducible show wpAny _ _ (subscriptTail _ _ (Value.ref _) (Value.int _ _)) _ _ _); (with_unfolding_all refine' kim_list ?k1 ?k2 ?k3 ?k4 ?k5 ?k6 ?k7 ?_ ?k8 ?k9; (case k1 => k_asm); (case k2 => k_mem); (case k3 => exact rfl); (case k4 => exact rfl); (case k5 => decide); (case k6 => decide); (case k7 => exact rfl); (case k8 => with_unfolding_all rfl); (case k9 => intro _; with_unfolding_all rfl); k_whole)))
  (k_with "subscriptTail" => (k_here; (with_reducible show wpAny _ _ (subscriptTail _ _ (Value.ref _) (Value.int _ _)) _ _ _); (with_unfolding_all refine' item_read ?k1 ?k2 ?k3 ?k4 ?k5 ?_ ?k8 ?k9; (case k1 => k_asm); (case k2 => k_mem); (case k3 => with_reducible assumption); (case k4 => with_reducible assumption); (case k5 => with_reducible assumption); (case k8 => with_unfolding_all rfl); (case k9 => intro _; with_unfolding_all rfl); k_whole)))
  (k_with "setItem ref int ref" => (k_here; (with_reducible show wpAny _ _ (setItem (Value.ref _) (Value.int _ _) (Value.ref _)) _ _ _); (refine' item_store ?k1 ?k2 ?k3 ?k4 ?k5 ?k6 ?_; (case k1 => k_asm); (case k2 => k_asm); (case k3 => with_reducible assumption); (case k4 => with_reducible assumption); (case k5 => first | with_reducible assumption | omega); (case k6 => first | with_reducible assumption | omega); k_whole); intro _ _ _; (try k_sweep)))
  (k_with "compareOp Lt ref ref" => (k_here; (with_reducible show wpAny _ _ (compareOp CmpOp.Lt (Value.ref _) (Value.ref _)) _ _ _); (refine' item_ltW ?k1 ?k2 ?k3 ?k4 ?k5 ?_; (case k1 => k_asm); (case k2 => with_reducible assumption); (case k3 => with_reducible assumption); (case k4 => with_reducible assumption); (case k5 => k_units); k_whole)))
  (k_with "call builtin:len" => (k_here; (with_reducible show wpAny _ _ (call (Value.builtin "len") [Value.ref _]) _ _ _); (with_unfolding_all refine' items_len ?k1 ?k2 ?k3 ?_; (case k1 => k_asm); (case k2 => k_mem); (case k3 => with_reducible assumption); k_whole)))
  (k_with "call builtin:list.append" => (k_here; (with_reducible show wpAny _ _ (call (Value.builtin _) [Value.ref _, Value.ref _]) _ _ _); (with_unfolding_all refine' items_append ?k1 ?k2 ?k3 ?k4 ?_; (case k1 => k_asm); (case k2 => k_asm); (case k3 => with_reducible assumption); (case k4 => with_reducible assumption); k_whole); intro _ _ _; (try k_sweep)))
  (k_with "binaryOp Add str str" => (k_here; (with_reducible show wpAny _ _ (binaryOp _ (Value.str (Str.mk (List.toArray _)) _) (Value.str (Str.ofString _) _)) _ _ _); (refine' lab_add ?k1 ?k2 ?k3 ?_; (case k1 => first | with_reducible exact lit_do | with_reducible exact lit_doo | with_reducible exact lit_dot); (case k2 => first | with_reducible assumption | omega); (case k3 => decide); k_whole); intro _ _))
  (k_with "compareOp NotEq ref ref" => (k_here; (with_reducible show wpAny _ _ (compareOp CmpOp.NotEq (Value.ref _) (Value.ref _)) _ _ _); (with_unfolding_all refine' same_ne ?k1 ?k2 ?k3 ?_; (case k1 => k_asm); (case k2 => k_mem); (case k3 => k_units); k_whole)))
  (k_with "exec While Compare cons nil" => refine Halt.go ?_)
  (k_with "call ref" => (k_here; (with_reducible show wpAny _ _ (call (Value.ref 42) [Value.ref _, Value.int _ _, Value.int _ _]) _ _ _); k_dflt (refine' wpAny_level ?l1 ?l2 ?l3 ?l4 ?l5 (siftdown_c ?k1 ?k2 ?k3 ?k4 ?k5 ?k6 ?k7 ?k8 ?k9 ?kA ?kB ?kC ?_); (case l3 => exact rfl); (case l1 => exact rfl); (case l4 => exact rfl); (case l2 => exact Nat.le_of_ble_eq_true rfl); (case l5 => exact Nat.le_of_ble_eq_true rfl); (case k1 => k_asm); (case k2 => k_asm); (case k3 => k_asm); (case k4 => k_asm); (case k5 => k_asm); (case k6 => exact rfl); (case k7 => exact rfl); (case k8 => with_reducible assumption); (case k9 => with_reducible assumption); (case kA => with_reducible assumption); (case kB => with_reducible assumption); (case kC => first | with_reducible exact rfl | with_reducible assumption | omega); k_whole; intro _ _ _ _ _ _ _ _; (try dsimp only); (try k_sweep))))
  revert X; k_fill; intro X
  obtain ⟨x, hx, hloop⟩ : ∃ x, xs[0]? = some x ∧ suLoop (xs.length + 1) (xs.map (·.2)) x.2 0 = some ds' := by
    unfold suRun at hrun
    rw [List.getElem?_map] at hrun
    cases hx : xs[0]? with
    | none => rw [hx] at hrun; cases hrun
    | some x => rw [hx, List.length_map] at hrun; exact ⟨x, rfl, hrun⟩
  have hp0 : (0 : Int) ≤ (0 : Int) := by omega
  have hx' : xs[((0 : Int)).toNat]? = some x := hx
  refine wpAny_call ?_
  k_dflt ((refine' code_def ?k1 ?k2 ?k3 ?k4 ?k5 ?kA ?kF ?kK ?k6 ?k7 ?k8 ?k9 ?kB ?_ ?c2 ?c3 ?c4 ?c5; (case kA => exact rfl); (case kF => assumption); (case kK => assumption); (case k1 => k_asm); (case k2 => k_asm); (case k3 => k_asm); (case k4 => k_asm); (case k5 => k_asm); (case k6 => k_is); (case k7 => k_is); (case k8 => k_room); (case k9 => exact BindsTo.of_eq rfl); (case c5 => decide); (case kB => exact locs rfl); (case c2 => exact rfl); (case c3 => exact rfl); (case c4 => exact rfl); k_whole; intro _ _ _ _ _ _ _ _ _; (try dsimp only); (try k_fold)))
  k_steps
  unfold Halt
  rename Fr _ _ _ _ => F1
  rename News _ _ _ _ => N1
  with_unfolding_all (have F2 := Fr.ex2 (fun tc te y => if y = Str.ofString "childpos" then some (Value.int (2 * 0 + 1) tc) else if y = Str.ofString "newitem" then some (Value.ref x.1) else if y = Str.ofString "startpos" then some (Value.int 0 t1) else if y = Str.ofString "endpos" then some (Value.int (xs.length : Int) te) else List.lookup y [(Str.ofString "pos", Value.int 0 t1), (Str.ofString "heap", Value.ref la)]) F1)
  clear F1
  obtain ⟨tc, te, F2⟩ := F2
  refine While_inv2 (fun f m₁ news₁ => ∃ (ps : Nat) (ys : List (Addr × It)),
      (∃ tp, m₁ (Str.ofString "pos") = some (Value.int (ps : Int) tp)) ∧ (∃ tp, m₁ (Str.ofString "childpos") = some (Value.int (2 * (ps : Int) + 1) tp)) ∧ (∀ y, y ≠ Str.ofString "pos" → y ≠ Str.ofString "childpos" → y ≠ Str.ofString "rightpos" → m₁ y =
        if y = Str.ofString "newitem" then some (Value.ref x.1) else if y = Str.ofString "startpos" then some (Value.int 0 t1) else if y = Str.ofString "endpos" then some (Value.int (xs.length : Int) te) else List.lookup y [(Str.ofString "pos", Value.int 0 t1), (Str.ofString "heap", Value.ref la)])
      ∧ news₁ = (la, listOf (refsOf ys).toArray n) :: rest ∧ (∀ z ∈ ys, z ∈ xs) ∧ ys.length = xs.length ∧ ps < ys.length ∧ suLoop f (ys.map (·.2)) x.2 ps = some ds') F2 N1 (n₀ := xs.length + 1) ?_ ?_
  · refine ⟨0, xs, ⟨t1, rfl⟩, ⟨tc, rfl⟩, fun y _ e _ => if_neg e, rfl, fun _ h => h, rfl, ?_, hloop⟩
    rcases Nat.lt_or_ge 0 xs.length with h' | h'
    · exact h'
    · rw [List.getElem?_eq_none h'] at hx; cases hx
  · clear F2 N1
    rintro f m₁ news₁ h₁ tk₁ F₁ N₁ ⟨ps, ys, ⟨tp, hpos⟩, ⟨tq, hcp⟩, hm, rfl, hiy, hly, hps, hl⟩
    have F₁ := Fr.as F₁ (map3 _ _ _ hm)
    rw [hpos, hcp] at F₁
    generalize m₁ (Str.ofString "rightpos") = u2 at F₁
    have hxm : x ∈ xs := List.mem_of_getElem? hx
    have hxi : ItemAt rest x.1 x.2 := hi x hxm
    have hlen' : ys.length < 1000 := by omega
    clear hx hx' hloop hp0 hrun hm hpos hcp
    cases f with
    | zero => unfold suLoop at hl; cases hl
    | succ f =>
      unfold suLoop at hl
      rw [List.length_map] at hl
      have hc0 : (0 : Int) ≤ 2 * (ps : Int) + 1 := by omega
      have hc1 : (0 : Int) ≤ 2 * (ps : Int) + 1 + 1 := by omega
      have hce : (2 * (ps : Int) + 1).toNat = 2 * ps + 1 := by omega
      have hce1 : (2 * (ps : Int) + 1 + 1).toNat = 2 * ps + 2 := by omega
      by_cases h0 : ys.length ≤ 2 * ps + 1
      · rw [if_pos h0] at hl
        have hs1 : ((ps : Int)).toNat = ps := by omega
        have hs2 : sdRun ((ys.set ((ps : Int)).toNat x).map (·.2)) ps = some ds' := by rw [List.map_set, hs1]; exact hl
        have hs3 : ∀ z ∈ ys.set ((ps : Int)).toNat x, ItemAt rest z.1 z.2 := by
          intro z hz
          rcases List.mem_or_eq_of_mem_set hz with hz | hz
          · exact hi z (hiy z hz)
          · rw [hz]; exact hxi
        have hs4 : (ys.set ((ps : Int)).toNat x).length < 1000 := by rw [List.length_set]; exact hlen'
        k_steps
        rename ∀ z ∈ _, z ∈ ys.set _ _ => hmem
        refine ret _ _ _ (by assumption) (by assumption) (by assumption) ?_ ?_
        · intro z hz
          rcases List.mem_or_eq_of_mem_set (hmem z hz) with hz | hz
          · exact hiy z hz
          · rw [hz]; exact hxm
        rename _ = _ => hln
        rw [hln, List.length_set]; exact hly
      · rw [if_neg h0] at hl
        simp only [List.getElem?_map] at hl
        have hu : ∃ u, ys[2 * ps + 1]? = some u := ⟨_, List.getElem?_eq_getElem (by omega)⟩
        obtain ⟨u, hu⟩ := hu
        have hum : u ∈ xs := hiy u (List.mem_of_getElem? hu)
        have hui : ItemAt rest u.1 u.2 := hi u hum
        have hux : ys[(2 * (ps : Int) + 1).toNat]? = some u := by rw [hce]; exact hu
        rw [hu] at hl
        by_cases h1 : 2 * ps + 2 < ys.length
        · rw [if_pos h1] at hl
          have hv : ∃ v, ys[2 * ps + 2]? = some v := ⟨_, List.getElem?_eq_getElem (by omega)⟩
          obtain ⟨v, hv⟩ := hv
          have hvm : v ∈ xs := hiy v (List.mem_of_getElem? hv)
          have hvi : ItemAt rest v.1 v.2 := hi v hvm
          have hvx : ys[(2 * (ps : Int) + 1 + 1).toNat]? = some v := by rw [hce1]; exact hv
          rw [hv] at hl
          simp only [Option.map_some] at hl
          cases hk : ltK u.2 v.2 with
          | none => rw [hk] at hl; cases hl
          | some r =>
            rw [hk] at hl
            cases r with
            | true =>
              simp only at hl
              k_steps
              refine ⟨_, _, _, _, f, rfl, by assumption, by assumption, Nat.lt_succ_self _, ?_⟩
              refine ⟨2 * ps + 1, ys.set ps u, ⟨_, congrArg some (congrArg (fun z => Value.int z _) (show 2 * (ps : Int) + 1 = ((2 * ps + 1 : Nat) : Int) by omega))⟩, ⟨_, congrArg some (congrArg (fun z => Value.int z _) (show 2 * (2 * (ps : Int) + 1) + 1 = 2 * ((2 * ps + 1 : Nat) : Int) + 1 by omega))⟩, fun z e1 e2 e3 => ?_, rfl, ?_, ?_, ?_, ?_⟩
              · simp only [if_neg e1, if_neg e2, if_neg e3]
              · intro z hz
                rcases List.mem_or_eq_of_mem_set hz with hz | hz
                · exact hiy z hz
                · rw [hz]; assumption
              · rw [List.length_set]; exact hly
              · rw [List.length_set]; omega
              · rw [List.map_set]; exact hl
            | false =>
              simp only at hl
              k_steps
              refine ⟨_, _, _, _, f, rfl, by assumption, by assumption, Nat.lt_succ_self _, ?_⟩
              refine ⟨2 * ps + 2, ys.set ps v, ⟨_, congrArg some (congrArg (fun z => Value.int z _) (show 2 * (ps : Int) + 1 + 1 = ((2 * ps + 2 : Nat) : Int) by omega))⟩, ⟨_, congrArg some (congrArg (fun z => Value.int z _) (show 2 * (2 * (ps : Int) + 1 + 1) + 1 = 2 * ((2 * ps + 2 : Nat) : Int) + 1 by omega))⟩, fun z e1 e2 e3 => ?_, rfl, ?_, ?_, ?_, ?_⟩
              · simp only [if_neg e1, if_neg e2, if_neg e3]
              · intro z hz
                rcases List.mem_or_eq_of_mem_set hz with hz | hz
                · exact hiy z hz
                · rw [hz]; assumption
              · rw [List.length_set]; exact hly
              · rw [List.length_set]; omega
              · rw [List.map_set]; exact hl
        · rw [if_neg h1] at hl
          simp only [Option.map_some] at hl
          k_steps
          refine ⟨_, _, _, _, f, rfl, by assumption, by assumption, Nat.lt_succ_self _, ?_⟩
          refine ⟨2 * ps + 1, ys.set ps u, ⟨_, congrArg some (congrArg (fun z => Value.int z _) (show 2 * (ps : Int) + 1 = ((2 * ps + 1 : Nat) : Int) by omega))⟩, ⟨_, congrArg some (congrArg (fun z => Value.int z _) (show 2 * (2 * (ps : Int) + 1) + 1 = 2 * ((2 * ps + 1 : Nat) : Int) + 1 by omega))⟩, fun z e1 e2 e3 => ?_, rfl, ?_, ?_, ?_, ?_⟩
          · simp only [if_neg e1, if_neg e2, if_neg e3]
          · intro z hz
            rcases List.mem_or_eq_of_mem_set hz with hz | hz
            · exact hiy z hz
            · rw [hz]; assumption
          · rw [List.length_set]; exact hly
          · rw [List.length_set]; omega
          · rw [List.map_set]; exact hl

end
end
section
section

def pushRun (ds : List It) (y : It) : Option (List It) := sdRun (ds ++ [y]) ds.length
def replRun (ds : List It) (y : It) : Option (List It) := suRun (ds.set 0 y)

theorem push_c {w : World} {p : Program} {loose : List Str} {mean : ExcName → Option Value} {mg mb : Str → Option Value} {env : Env} {outer : List Env} {A₀ : Around} {base h₀ : Heap} {L : Addr} {m : Str → Option Value} {s : Shared} {Q E : Value → Shared → Prop}
   {rest : List (Addr × Obj)} {la : Addr} {xs : List (Addr × It)} {n : Nat} {ds' : List It} {y : Addr × It}
   (B : Below A₀ base outer h₀) (F : Fr h₀ L s.heap m) (X : (hd.heap_39 w.params).In h₀) (N : News h₀ L s.heap ((la, listOf (refsOf xs).toArray n) :: rest)) (T : Top p loose mean mg mb h₀)
   (hf : env.frame = some L) (hke : env.scope.kind = .function)
   (hne : ∀ p ∈ rest, p.1 ≠ la) (hi : ∀ x ∈ xs, ItemAt rest x.1 x.2) (hlen : xs.length < 999) (hy : ItemAt rest y.1 y.2) (hrun : pushRun (xs.map (·.2)) y.2 = some ds')
   (ret : ∀ h' tk' xs', Fr h₀ L h' m → News h₀ L h' ((la, listOf (refsOf xs').toArray (n + 1)) :: rest) → xs'.map (·.2) = ds' → (∀ z ∈ xs', z ∈ xs ∨ z = y) → xs'.length = xs.length + 1 → Q .none { s with heap := h', toks := tk' }) :
   wpAny (model PySem.Challenge.rw_oy0044_01.row.prog w) (lev 370 700 env outer) (call (.ref 28) [.ref la, .ref y.1]) Q E s := by
  w_top off
  k_with_none
  (k_with "subscriptTail" => (k_here; (with_reducible show wpAny _ _ (subscriptTail _ _ (Value.ref _) (Value.int _ _)) _ _ _); (with_unfolding_all refine' kim_list ?k1 ?k2 ?k3 ?k4 ?k5 ?k6 ?k7 ?_ ?k8 ?k9; (case k1 => k_asm); (case k2 => k_mem); (case k3 => exact rfl); (case k4 => exact rfl); (case k5 => decide); (case k6 => decide); (case k7 => exact rfl); (case k8 => with_unfolding_all rfl); (case k9 => intro _; with_unfolding_all rfl); k_whole)))
  (k_with "subscriptTail" => (k_here; (with_reducible show wpAny _ _ (subscriptTail _ _ (Value.ref _) (Value.int _ _)) _ _ _); (with_unfolding_all refine' item_read ?k1 ?k2 ?k3 ?k4 ?k5 ?_ ?k8 ?k9; (case k1 => k_asm); (case k2 => k_mem); (case k3 => with_reducible assumption); (case k4 => with_reducible assumption); (case k5 => with_reducible assumption); (case k8 => with_unfolding_all rfl); (case k9 => intro _; with_unfolding_all rfl); k_whole)))
  (k_with "setItem ref int ref" => (k_here; (with_reducible show wpAny _ _ (setItem (Value.ref _) (Value.int _ _) (Value.ref _)) _ _ _); (refine' item_store ?k1 ?k2 ?k3 ?k4 ?k5 ?k6 ?_; (case k1 => k_asm); (case k2 => k_asm); (case k3 => with_reducible assumption); (case k4 => with_reducible assumption); (case k5 => first | with_reducible assumption | omega); (case k6 => first | with_reducible assumption | omega); k_whole); intro _ _ _; (try k_sweep)))
  (k_with "compareOp Lt ref ref" => (k_here; (with_reducible show wpAny _ _ (compareOp CmpOp.Lt (Value.ref _) (Value.ref _)) _ _ _); (refine' item_ltW ?k1 ?k2 ?k3 ?k4 ?k5 ?_; (case k1 => k_asm); (case k2 => with_reducible assumption); (case k3 => with_reducible assumption); (case k4 => with_reducible assumption); (case k5 => k_units); k_whole)))
  (k_with "call builtin:len" => (k_here; (with_reducible show wpAny _ _ (call (Value.builtin "len") [Value.ref _]) _ _ _); (with_unfolding_all refine' items_len ?k1 ?k2 ?k3 ?_; (case k1 => k_asm); (case k2 => k_mem); (case k3 => with_reducible assumption); k_whole)))
  (k_with "call builtin:list.append" => (k_here; (with_reducible show wpAny _ _ (call (Value.builtin _) [Value.ref _, Value.ref _]) _ _ _); (with_unfolding_all refine' items_append ?k1 ?k2 ?k3 ?k4 ?_; (case k1 => k_asm); (case k2 => k_asm); (case k3 => with_reducible assumption); (case k4 => with_reducible assumption); k_whole); intro _ _ _; (try k_sweep)))
  (k_with "binaryOp Add str str" => (k_here; (with_reducible show wpAny _ _ (binaryOp _ (Value.str (Str.mk (List.toArray _)) _) (Value.str (Str.ofString _) _)) _ _ _); (refine' lab_add ?k1 ?k2 ?k3 ?_; (case k1 => first | with_reducible exact lit_do | with_reducible exact lit_doo | with_reducible exact lit_dot); (case k2 => first | with_reducible assumption | omega); (case k3 => decide); k_whole); intro _ _))
  (k_with "compareOp NotEq ref ref" => (k_here; (with_reducible show wpAny _ _ (compareOp CmpOp.NotEq (Value.ref _) (Value.ref _)) _ _ _); (with_unfolding_all refine' same_ne ?k1 ?k2 ?k3 ?_; (case k1 => k_asm); (case k2 => k_mem); (case k3 => k_units); k_whole)))
  (k_with "call ref" => (k_here; (with_reducible show wpAny _ _ (call (Value.ref 42) [Value.ref _, Value.int _ _, Value.int _ _]) _ _ _); k_dflt (refine' wpAny_level ?l1 ?l2 ?l3 ?l4 ?l5 (siftdown_c ?k1 ?k2 ?k3 ?k4 ?k5 ?k6 ?k7 ?k8 ?k9 ?kA ?kB ?kC ?_); (case l3 => exact rfl); (case l1 => exact rfl); (case l4 => exact rfl); (case l2 => exact Nat.le_of_ble_eq_true rfl); (case l5 => exact Nat.le_of_ble_eq_true rfl); (case k1 => k_asm); (case k2 => k_asm); (case k3 => k_asm); (case k4 => k_asm); (case k5 => k_asm); (case k6 => exact rfl); (case k7 => exact rfl); (case k8 => with_reducible assumption); (case k9 => with_reducible assumption); (case kA => with_reducible assumption); (case kB => with_reducible assumption); (case kC => first | with_reducible exact rfl | with_reducible assumption | omega); k_whole; intro _ _ _ _ _ _ _ _; (try dsimp only); (try k_sweep))))
  (k_with "call ref" => (k_here; (with_reducible show wpAny _ _ (call (Value.ref 49) [Value.ref _, Value.int _ _]) _ _ _); k_dflt (refine' wpAny_level ?l1 ?l2 ?l3 ?l4 ?l5 (siftup_c ?k1 ?k2 ?k3 ?k4 ?k5 ?k6 ?k7 ?k8 ?k9 ?kA ?kB ?_); (case l3 => exact rfl); (case l1 => exact rfl); (case l4 => exact rfl); (case l2 => exact Nat.le_of_ble_eq_true rfl); (case l5 => exact Nat.le_of_ble_eq_true rfl); (case k1 => k_asm); (case k2 => k_asm); (case k3 => k_asm); (case k4 => k_asm); (case k5 => k_asm); (case k6 => exact rfl); (case k7 => exact rfl); (case k8 => with_reducible assumption); (case k9 => with_reducible assumption); (case kA => with_reducible assumption); (case kB => with_reducible assumption); k_whole; intro _ _ _ _ _ _ _ _; (try dsimp only); (try k_sweep))))
  revert X; k_fill; intro X
  have hr : sdRun ((xs ++ [y]).map (·.2)) xs.length = some ds' := by
    unfold pushRun at hrun
    rw [List.length_map] at hrun
    rw [List.map_append]; exact hrun
  have hi' : ∀ x ∈ xs ++ [y], ItemAt rest x.1 x.2 := by
    intro z hz
    rcases List.mem_append.mp hz with hz | hz
    · exact hi z hz
    · rw [List.mem_singleton.mp hz]; exact hy
  have hl' : (xs ++ [y]).length < 1000 := by rw [List.length_append, List.length_singleton]; omega
  have hk' : (((xs ++ [y]).length : Nat) : Int) - 1 = (xs.length : Int) := by rw [List.length_append, List.length_singleton]; omega
  refine wpAny_call ?_
  k_dflt ((refine' code_def ?k1 ?k2 ?k3 ?k4 ?k5 ?kA ?kF ?kK ?k6 ?k7 ?k8 ?k9 ?kB ?_ ?c2 ?c3 ?c4 ?c5; (case kA => exact rfl); (case kF => assumption); (case kK => assumption); (case k1 => k_asm); (case k2 => k_asm); (case k3 => k_asm); (case k4 => k_asm); (case k5 => k_asm); (case k6 => k_is); (case k7 => k_is); (case k8 => k_room); (case k9 => exact BindsTo.of_eq rfl); (case c5 => decide); (case kB => exact locs rfl); (case c2 => exact rfl); (case c3 => exact rfl); (case c4 => exact rfl); k_whole; intro _ _ _ _ _ _ _ _ _; (try dsimp only); (try k_fold)))
  k_steps
  rename ∀ z ∈ _, z ∈ xs ++ [y] => hmem
  refine ret _ _ _ (by assumption) (by assumption) (by assumption) ?_ ?_
  · intro z hz
    rcases List.mem_append.mp (hmem z hz) with h | h
    · exact .inl h
    · exact .inr (List.mem_singleton.mp h)
  rename _ = List.length _ => hln
  rw [hln, List.length_append, List.length_singleton]

theorem repl_c {w : World} {p : Program} {loose : List Str} {mean : ExcName → Option Value} {mg mb : Str → Option Value} {env : Env} {outer : List Env} {A₀ : Around} {base h₀ : Heap} {L : Addr} {m : Str → Option Value} {s : Shared} {Q E : Value → Shared → Prop}
   {rest : List (Addr × Obj)} {la : Addr} {xs : List (Addr × It)} {n : Nat} {ds' : List It} {x y : Addr × It}
   (B : Below A₀ base outer h₀) (F : Fr h₀ L s.heap m) (X : (hd.heap_39 w.params).In h₀) (N : News h₀ L s.heap ((la, listOf (refsOf xs).toArray n) :: rest)) (T : Top p loose mean mg mb h₀)
   (hf : env.frame = some L) (hke : env.scope.kind = .function)
   (hne : ∀ p ∈ rest, p.1 ≠ la) (hi : ∀ x ∈ xs, ItemAt rest x.1 x.2) (hlen : xs.length < 1000) (hy : ItemAt rest y.1 y.2) (hrun : replRun (xs.map (·.2)) y.2 = some ds') (hx : xs[0]? = some x)
   (ret : ∀ h' tk' xs', Fr h₀ L h' m → News h₀ L h' ((la, listOf (refsOf xs').toArray n) :: rest) → xs'.map (·.2) = ds' → (∀ z ∈ xs', z ∈ xs ∨ z = y) → xs'.length = xs.length → Q (.ref x.1) { s with heap := h', toks := tk' }) :
   wpAny (model PySem.Challenge.rw_oy0044_01.row.prog w) (lev 370 700 env outer) (call (.ref 35) [.ref la, .ref y.1]) Q E s := by
  w_top off
  k_with_none
  (k_with "subscriptTail" => (k_here; (with_reducible show wpAny _ _ (subscriptTail _ _ (Value.ref _) (Value.int _ _)) _ _ _); (with_unfolding_all refine' kim_list ?k1 ?k2 ?k3 ?k4 ?k5 ?k6 ?k7 ?_ ?k8 ?k9; (case k1 => k_asm); (case k2 => k_mem); (case k3 => exact rfl); (case k4 => exact rfl); (case k5 => decide); (case k6 => decide); (case k7 => exact rfl); (case k8 => with_unfolding_all rfl); (case k9 => intro _; with_unfolding_all rfl); k_whole)))
  (k_with "subscriptTail" => (k_here; (with_reducible show wpAny _ _ (subscriptTail _ _ (Value.ref _) (Value.int _ _)) _ _ _); (with_unfolding_all refine' item_read ?k1 ?k2 ?k3 ?k4 ?k5 ?_ ?k8 ?k9; (case k1 => k_asm); (case k2 => k_mem); (case k3 => with_reducible assumption); (case k4 => with_reducible assumption); (case k5 => with_reducible assumption); (case k8 => with_unfolding_all rfl); (case k9 => intro _; with_unfolding_all rfl); k_whole)))
  (k_with "setItem ref int ref" => (k_here; (with_reducible show wpAny _ _ (setItem (Value.ref _) (Value.int _ _) (Value.ref _)) _ _ _); (refine' item_store ?k1 ?k2 ?k3 ?k4 ?k5 ?k6 ?_; (case k1 => k_asm); (case k2 => k_asm); (case k3 => with_reducible assumption); (case k4 => with_reducible assumption); (case k5 => first | with_reducible assumption | omega); (case k6 => first | with_reducible assumption | omega); k_whole); intro _ _ _; (try k_sweep)))
  (k_with "compareOp Lt ref ref" => (k_here; (with_reducible show wpAny _ _ (compareOp CmpOp.Lt (Value.ref _) (Value.ref _)) _ _ _); (refine' item_ltW ?k1 ?k2 ?k3 ?k4 ?k5 ?_; (case k1 => k_asm); (case k2 => with_reducible assumption); (case k3 => with_reducible assumption); (case k4 => with_reducible assumption); (case k5 => k_units); k_whole)))
  (k_with "call builtin:len" => (k_here; (with_reducible show wpAny _ _ (call (Value.builtin "len") [Value.ref _]) _ _ _); (with_unfolding_all refine' items_len ?k1 ?k2 ?k3 ?_; (case k1 => k_asm); (case k2 => k_mem); (case k3 => with_reducible assumption); k_whole)))
  (k_with "call builtin:list.append" => (k_here; (with_reducible show wpAny _ _ (call (Value.builtin _) [Value.ref _, Value.ref _]) _ _ _); (with_unfolding_all refine' items_append ?k1 ?k2 ?k3 ?k4 ?_; (case k1 => k_asm); (case k2 => k_asm); (case k3 => with_reducible assumption); (case k4 => with_reducible assumption); k_whole); intro _ _ _; (try k_sweep)))
  (k_with "binaryOp Add str str" => (k_here; (with_reducible show wpAny _ _ (binaryOp _ (Value.str (Str.mk (List.toArray _)) _) (Value.str (Str.ofString _) _)) _ _ _); (refine' lab_add ?k1 ?k2 ?k3 ?_; (case k1 => first | with_reducible exact lit_do | with_reducible exact lit_doo | with_reducible exact lit_dot); (case k2 => first | with_reducible assumption | omega); (case k3 => decide); k_whole); intro _ _))
  (k_with "compareOp NotEq ref ref" => (k_here; (with_reducible show wpAny _ _ (compareOp CmpOp.NotEq (Value.ref _) (Value.ref _)) _ _ _); (with_unfolding_all refine' same_ne ?k1 ?k2 ?k3 ?_; (case k1 => k_asm); (case k2 => k_mem); (case k3 => k_units); k_whole)))
  (k_with "call ref" => (k_here; (with_reducible show wpAny _ _ (call (Value.ref 42) [Value.ref _, Value.int _ _, Value.int _ _]) _ _ _); k_dflt (refine' wpAny_level ?l1 ?l2 ?l3 ?l4 ?l5 (siftdown_c ?k1 ?k2 ?k3 ?k4 ?k5 ?k6 ?k7 ?k8 ?k9 ?kA ?kB ?kC ?_); (case l3 => exact rfl); (case l1 => exact rfl); (case l4 => exact rfl); (case l2 => exact Nat.le_of_ble_eq_true rfl); (case l5 => exact Nat.le_of_ble_eq_true rfl); (case k1 => k_asm); (case k2 => k_asm); (case k3 => k_asm); (case k4 => k_asm); (case k5 => k_asm); (case k6 => exact rfl); (case k7 => exact rfl); (case k8 => with_reducible assumption); (case k9 => with_reducible assumption); (case kA => with_reducible assumption); (case kB => with_reducible assumption); (case kC => first | with_reducible exact rfl | with_reducible assumption | omega); k_whole; intro _ _ _ _ _ _ _ _; (try dsimp only); (try k_sweep))))
  (k_with "call ref" => (k_here; (with_reducible show wpAny _ _ (call (Value.ref 49) [Value.ref _, Value.int _ _]) _ _ _); k_dflt (refine' wpAny_level ?l1 ?l2 ?l3 ?l4 ?l5 (siftup_c ?k1 ?k2 ?k3 ?k4 ?k5 ?k6 ?k7 ?k8 ?k9 ?kA ?kB ?_); (case l3 => exact rfl); (case l1 => exact rfl); (case l4 => exact rfl); (case l2 => exact Nat.le_of_ble_eq_true rfl); (case l5 => exact Nat.le_of_ble_eq_true rfl); (case k1 => k_asm); (case k2 => k_asm); (case k3 => k_asm); (case k4 => k_asm); (case k5 => k_asm); (case k6 => exact rfl); (case k7 => exact rfl); (case k8 => with_reducible assumption); (case k9 => with_reducible assumption); (case kA => with_reducible assumption); (case kB => with_reducible assumption); k_whole; intro _ _ _ _ _ _ _ _; (try dsimp only); (try k_sweep))))
  revert X; k_fill; intro X
  have h00 : (0 : Int) ≤ 0 := by omega
  have hx' : xs[(0 : Int).toNat]? = some x := hx
  have hz : 0 < xs.length := by
    rcases Nat.lt_or_ge 0 xs.length with h' | h'
    · exact h'
    · rw [List.getElem?_eq_none h'] at hx; cases hx
  have hz' : (0 : Int).toNat < xs.length := hz
  have hr : suRun ((xs.set (0 : Int).toNat y).map (·.2)) = some ds' := by
    unfold replRun at hrun
    rw [List.map_set]; exact hrun
  have hi' : ∀ x ∈ xs.set (0 : Int).toNat y, ItemAt rest x.1 x.2 := by
    intro z hz
    rcases List.mem_or_eq_of_mem_set hz with hz | hz
    · exact hi z hz
    · rw [hz]; exact hy
  have hl' : (xs.set (0 : Int).toNat y).length < 1000 := by rw [List.length_set]; exact hlen
  refine wpAny_call ?_
  k_dflt ((refine' code_def ?k1 ?k2 ?k3 ?k4 ?k5 ?kA ?kF ?kK ?k6 ?k7 ?k8 ?k9 ?kB ?_ ?c2 ?c3 ?c4 ?c5; (case kA => exact rfl); (case kF => assumption); (case kK => assumption); (case k1 => k_asm); (case k2 => k_asm); (case k3 => k_asm); (case k4 => k_asm); (case k5 => k_asm); (case k6 => k_is); (case k7 => k_is); (case k8 => k_room); (case k9 => exact BindsTo.of_eq rfl); (case c5 => decide); (case kB => exact locs rfl); (case c2 => exact rfl); (case c3 => exact rfl); (case c4 => exact rfl); k_whole; intro _ _ _ _ _ _ _ _ _; (try dsimp only); (try k_fold)))
  k_steps
  rename ∀ z ∈ _, z ∈ xs.set _ y => hmem
  refine ret _ _ _ (by assumption) (by assumption) (by assumption) ?_ ?_
  · intro z hz
    exact List.mem_or_eq_of_mem_set (hmem z hz)
  rename _ = List.length _ => hln
  rw [hln, List.length_set]

end
end
section
section

def mid (p0 p1 a b c d : Int) (l : List Nat) : It := ⟨p0 * (a + c) + p1 * (b + d), a + c, b + d, a, b, c, d, l⟩
theorem middle_c {w : World} {p : Program} {loose : List Str} {mean : ExcName → Option Value} {mg mb : Str → Option Value} {env : Env} {outer : List Env} {A₀ : Around} {base h₀ : Heap} {L : Addr} {m : Str → Option Value} {s : Shared} {Q E : Value → Shared → Prop}
   {news : List (Addr × Obj)} {pa ea : Addr} {p0 p1 a b c d : Int} {t0 t1 ta tb tc td tl : Tok} {pn en : Nat} {label : Str} {l : List Nat}
   (B : Below A₀ base outer h₀) (F : Fr h₀ L s.heap m) (X : (hd.heap_39 w.params).In h₀) (N : News h₀ L s.heap news) (T : Top p loose mean mg mb h₀)
   (hf : env.frame = some L) (hke : env.scope.kind = .function)
   (hp : (pa, listOf [Value.int p0 t0, Value.int p1 t1].toArray pn) ∈ news)
   (he : (ea, tupOf [Value.int a ta, Value.int b tb, Value.int c tc, Value.int d td] en) ∈ news)
   (h1 : 0 ≤ p0 ∧ p0 ≤ 3 ∧ 0 ≤ p1 ∧ p1 ≤ 3) (h2 : (0 ≤ a ∧ a ≤ 100000) ∧ (0 ≤ b ∧ b ≤ 100000) ∧ (0 ≤ c ∧ c ≤ 100000) ∧ (0 ≤ d ∧ d ≤ 100000)) (hl : label = lab l)
   (ret : ∀ x o h' tk', Fr h₀ L h' m → (∀ p ∈ news, p.1 < x) → News h₀ L h' ((x, o) :: news) → (∃ u1 u2 u3 u4, o = tupOf [Value.int (p0 * (a + c) + p1 * (b + d)) u1, Value.int (a + c) u2, Value.int (b + d) u3, Value.ref ea, Value.str (lab l) u4] 0) → Q (.ref x) { s with heap := h', toks := tk' }) :
   wpAny (model PySem.Challenge.rw_oy0044_01.row.prog w) (lev 370 700 env outer) (call (.ref 118) [.ref pa, .ref ea, .str label tl]) Q E s := by
  w_top off
  k_with_none
  (k_with "subscriptTail" => (k_here; (with_reducible show wpAny _ _ (subscriptTail _ _ (Value.ref _) (Value.int _ _)) _ _ _); (with_unfolding_all refine' kim_list ?k1 ?k2 ?k3 ?k4 ?k5 ?k6 ?k7 ?_ ?k8 ?k9; (case k1 => k_asm); (case k2 => k_mem); (case k3 => exact rfl); (case k4 => exact rfl); (case k5 => decide); (case k6 => decide); (case k7 => exact rfl); (case k8 => with_unfolding_all rfl); (case k9 => intro _; with_unfolding_all rfl); k_whole)))
  (k_with "subscriptTail" => (k_here; (with_reducible show wpAny _ _ (subscriptTail _ _ (Value.ref _) (Value.int _ _)) _ _ _); (with_unfolding_all refine' item_read ?k1 ?k2 ?k3 ?k4 ?k5 ?_ ?k8 ?k9; (case k1 => k_asm); (case k2 => k_mem); (case k3 => with_reducible assumption); (case k4 => with_reducible assumption); (case k5 => with_reducible assumption); (case k8 => with_unfolding_all rfl); (case k9 => intro _; with_unfolding_all rfl); k_whole)))
  (k_with "setItem ref int ref" => (k_here; (with_reducible show wpAny _ _ (setItem (Value.ref _) (Value.int _ _) (Value.ref _)) _ _ _); (refine' item_store ?k1 ?k2 ?k3 ?k4 ?k5 ?k6 ?_; (case k1 => k_asm); (case k2 => k_asm); (case k3 => with_reducible assumption); (case k4 => with_reducible assumption); (case k5 => first | with_reducible assumption | omega); (case k6 => first | with_reducible assumption | omega); k_whole); intro _ _ _; (try k_sweep)))
  (k_with "compareOp Lt ref ref" => (k_here; (with_reducible show wpAny _ _ (compareOp CmpOp.Lt (Value.ref _) (Value.ref _)) _ _ _); (refine' item_ltW ?k1 ?k2 ?k3 ?k4 ?k5 ?_; (case k1 => k_asm); (case k2 => with_reducible assumption); (case k3 => with_reducible assumption); (case k4 => with_reducible assumption); (case k5 => k_units); k_whole)))
  (k_with "call builtin:len" => (k_here; (with_reducible show wpAny _ _ (call (Value.builtin "len") [Value.ref _]) _ _ _); (with_unfolding_all refine' items_len ?k1 ?k2 ?k3 ?_; (case k1 => k_asm); (case k2 => k_mem); (case k3 => with_reducible assumption); k_whole)))
  (k_with "call builtin:list.append" => (k_here; (with_reducible show wpAny _ _ (call (Value.builtin _) [Value.ref _, Value.ref _]) _ _ _); (with_unfolding_all refine' items_append ?k1 ?k2 ?k3 ?k4 ?_; (case k1 => k_asm); (case k2 => k_asm); (case k3 => with_reducible assumption); (case k4 => with_reducible assumption); k_whole); intro _ _ _; (try k_sweep)))
  (k_with "binaryOp Add str str" => (k_here; (with_reducible show wpAny _ _ (binaryOp _ (Value.str (Str.mk (List.toArray _)) _) (Value.str (Str.ofString _) _)) _ _ _); (refine' lab_add ?k1 ?k2 ?k3 ?_; (case k1 => first | with_reducible exact lit_do | with_reducible exact lit_doo | with_reducible exact lit_dot); (case k2 => first | with_reducible assumption | omega); (case k3 => decide); k_whole); intro _ _))
  (k_with "compareOp NotEq ref ref" => (k_here; (with_reducible show wpAny _ _ (compareOp CmpOp.NotEq (Value.ref _) (Value.ref _)) _ _ _); (with_unfolding_all refine' same_ne ?k1 ?k2 ?k3 ?_; (case k1 => k_asm); (case k2 => k_mem); (case k3 => k_units); k_whole)))
  revert X; k_fill; intro X
  obtain ⟨g1, g2, g3, g4⟩ := h1
  obtain ⟨⟨h1, h2⟩, ⟨h3, h4⟩, ⟨h5, h6⟩, h7, h8⟩ := h2
  refine wpAny_call ?_
  k_dflt ((refine' code_def ?k1 ?k2 ?k3 ?k4 ?k5 ?kA ?kF ?kK ?k6 ?k7 ?k8 ?k9 ?kB ?_ ?c2 ?c3 ?c4 ?c5; (case kA => exact rfl); (case kF => assumption); (case kK => assumption); (case k1 => k_asm); (case k2 => k_asm); (case k3 => k_asm); (case k4 => k_asm); (case k5 => k_asm); (case k6 => k_is); (case k7 => k_is); (case k8 => k_room); (case k9 => exact BindsTo.of_eq rfl); (case c5 => decide); (case kB => exact locs rfl); (case c2 => exact rfl); (case c3 => exact rfl); (case c4 => exact rfl); k_whole; intro _ _ _ _ _ _ _ _ _; (try dsimp only); (try k_fold)))
  k_steps
  subst hl
  exact ret _ _ _ _ (by assumption) (by assumption) (by assumption) ⟨_, _, _, _, rfl⟩

end
end
section
section

def okB (v : Int) : Bool := decide (0 ≤ v) && decide (v ≤ 100000)
theorem okB_is {v : Int} (h : okB v = true) : 0 ≤ v ∧ v ≤ 100000 := by
  unfold okB at h
  simpa using h
def okSt (x : It) (ds : List It) : Bool := okB x.a && okB x.b && okB x.c && okB x.d && okB x.p && okB x.q && decide (x.label.length < 900) && decide (ds.length < 900)
def toldStep (p0 p1 : Int) (st : List It × List It) : Option (List It × List It) :=
  match st.1[0]? with
  | none => none
  | some x =>
    if okSt x st.1 = true then
      match replRun st.1 (mid p0 p1 x.a x.b x.p x.q (x.label ++ [46, 111])) with
      | none => none
      | some ds1 => match pushRun ds1 (mid p0 p1 x.p x.q x.c x.d (x.label ++ [46, 111, 111])) with
        | none => none
        | some ds2 => some (ds2, st.2 ++ [x])
    else none
def toldIter (p0 p1 : Int) : Nat → List It × List It → Option (List It)
  | 0, st => some st.2
  | n + 1, st => match toldStep p0 p1 st with
    | none => none
    | some st' => toldIter p0 p1 n st'
def toldRun (p0 p1 a b c d : Int) : Option (List It) :=
  if (okB a && okB b && okB c && okB d) = true then toldIter p0 p1 9 ([mid p0 p1 a b c d [111]], []) else none

theorem told_c {w : World} {p : Program} {loose : List Str} {mean : ExcName → Option Value} {mg mb : Str → Option Value} {env : Env} {outer : List Env} {A₀ : Around} {base h₀ : Heap} {L : Addr} {m : Str → Option Value} {s : Shared} {Q E : Value → Shared → Prop}
   {news : List (Addr × Obj)} {pa ea : Addr} {p0 p1 a b c d : Int} {t0 t1 ta tb tc td : Tok} {pn en : Nat} {res : List It}
   (B : Below A₀ base outer h₀) (F : Fr h₀ L s.heap m) (X : (hd.heap_39 w.params).In h₀) (N : News h₀ L s.heap news) (T : Top p loose mean mg mb h₀)
   (hf : env.frame = some L) (hke : env.scope.kind = .function)
   (hp : (pa, listOf [Value.int p0 t0, Value.int p1 t1].toArray pn) ∈ news)
   (he : (ea, tupOf [Value.int a ta, Value.int b tb, Value.int c tc, Value.int d td] en) ∈ news)
   (h1 : 0 ≤ p0 ∧ p0 ≤ 3 ∧ 0 ≤ p1 ∧ p1 ≤ 3) (hrun : toldRun p0 p1 a b c d = some res)
   (ret : ∀ tl h' tk' ts adds k, Fr h₀ L h' m → News h₀ L h' (adds ++ news) → (∀ p ∈ adds, ∀ q ∈ news, p.1 ≠ q.1) → (tl, listOf (refsOf ts).toArray k) ∈ adds → (∀ x ∈ ts, ItemAt (adds ++ news) x.1 x.2) → ts.map (·.2) = res → Q (.ref tl) { s with heap := h', toks := tk' }) :
   wpAny (model PySem.Challenge.rw_oy0044_01.row.prog w) (lev 350 500 env outer) (call (.ref 125) [.ref pa, .ref ea]) Q E s := by
  w_top off
  k_with_none
  (k_with "subscriptTail" => (k_here; (with_reducible show wpAny _ _ (subscriptTail _ _ (Value.ref _) (Value.int _ _)) _ _ _); (with_unfolding_all refine' kim_list ?k1 ?k2 ?k3 ?k4 ?k5 ?k6 ?k7 ?_ ?k8 ?k9; (case k1 => k_asm); (case k2 => k_mem); (case k3 => exact rfl); (case k4 => exact rfl); (case k5 => decide); (case k6 => decide); (case k7 => exact rfl); (case k8 => with_unfolding_all rfl); (case k9 => intro _; with_unfolding_all rfl); k_whole)))
  (k_with "subscriptTail" => (k_here; (with_reducible show wpAny _ _ (subscriptTail _ _ (Value.ref _) (Value.int _ _)) _ _ _); (with_unfolding_all refine' item_read ?k1 ?k2 ?k3 ?k4 ?k5 ?_ ?k8 ?k9; (case k1 => k_asm); (case k2 => k_mem); (case k3 => with_reducible assumption); (case k4 => with_reducible assumption); (case k5 => with_reducible assumption); (case k8 => with_unfolding_all rfl); (case k9 => intro _; with_unfolding_all rfl); k_whole)))
  (k_with "setItem ref int ref" => (k_here; (with_reducible show wpAny _ _ (setItem (Value.ref _) (Value.int _ _) (Value.ref _)) _ _ _); (refine' item_store ?k1 ?k2 ?k3 ?k4 ?k5 ?k6 ?_; (case k1 => k_asm); (case k2 => k_asm); (case k3 => with_reducible assumption); (case k4 => with_reducible assumption); (case k5 => first | with_reducible assumption | omega); (case k6 => first | with_reducible assumption | omega); k_whole); intro _ _ _; (try k_sweep)))
  (k_with "compareOp Lt ref ref" => (k_here; (with_reducible show wpAny _ _ (compareOp CmpOp.Lt (Value.ref _) (Value.ref _)) _ _ _); (refine' item_ltW ?k1 ?k2 ?k3 ?k4 ?k5 ?_; (case k1 => k_asm); (case k2 => with_reducible assumption); (case k3 => with_reducible assumption); (case k4 => with_reducible assumption); (case k5 => k_units); k_whole)))
  (k_with "call builtin:len" => (k_here; (with_reducible show wpAny _ _ (call (Value.builtin "len") [Value.ref _]) _ _ _); (with_unfolding_all refine' items_len ?k1 ?k2 ?k3 ?_; (case k1 => k_asm); (case k2 => k_mem); (case k3 => with_reducible assumption); k_whole)))
  (k_with "call builtin:list.append" => (k_here; (with_reducible show wpAny _ _ (call (Value.builtin _) [Value.ref _, Value.ref _]) _ _ _); (with_unfolding_all refine' items_append ?k1 ?k2 ?k3 ?k4 ?_; (case k1 => k_asm); (case k2 => k_asm); (case k3 => with_reducible assumption); (case k4 => with_reducible assumption); k_whole); intro _ _ _; (try k_sweep)))
  (k_with "binaryOp Add str str" => (k_here; (with_reducible show wpAny _ _ (binaryOp _ (Value.str (Str.mk (List.toArray _)) _) (Value.str (Str.ofString _) _)) _ _ _); (refine' lab_add ?k1 ?k2 ?k3 ?_; (case k1 => first | with_reducible exact lit_do | with_reducible exact lit_doo | with_reducible exact lit_dot); (case k2 => first | with_reducible assumption | omega); (case k3 => decide); k_whole); intro _ _))
  (k_with "compareOp NotEq ref ref" => (k_here; (with_reducible show wpAny _ _ (compareOp CmpOp.NotEq (Value.ref _) (Value.ref _)) _ _ _); (with_unfolding_all refine' same_ne ?k1 ?k2 ?k3 ?_; (case k1 => k_asm); (case k2 => k_mem); (case k3 => k_units); k_whole)))
  (k_with "call builtin:list.append" => refine Halt.go ?_)
  (k_with "call ref" => ((with_reducible show wpAny _ _ (call (Value.ref _) _) _ _ _); refine Halt.go ?_))
  (k_with "exec For Name Call cons nil" => refine Halt.go ?_)
  (k_with "pyIter ref" => ((with_reducible show wpAny _ _ (pyIter (Value.ref _)) _ _ _); refine Halt.go ?_))
  revert X; k_fill; intro X
  unfold toldRun at hrun
  split at hrun
  case isFalse => cases hrun
  rename_i hok
  simp only [Bool.and_eq_true] at hok
  obtain ⟨⟨⟨ha, hb⟩, hc⟩, hd'⟩ := hok
  refine wpAny_call ?_
  k_dflt ((refine' code_def ?k1 ?k2 ?k3 ?k4 ?k5 ?kA ?kF ?kK ?k6 ?k7 ?k8 ?k9 ?kB ?_ ?c2 ?c3 ?c4 ?c5; (case kA => exact rfl); (case kF => assumption); (case kK => assumption); (case k1 => k_asm); (case k2 => k_asm); (case k3 => k_asm); (case k4 => k_asm); (case k5 => k_asm); (case k6 => k_is); (case k7 => k_is); (case k8 => k_room); (case k9 => exact BindsTo.of_eq rfl); (case c5 => decide); (case kB => exact locs rfl); (case c2 => exact rfl); (case c3 => exact rfl); (case c4 => exact rfl); k_whole; intro _ _ _ _ _ _ _ _ _; (try dsimp only); (try k_fold)))
  k_steps
  unfold Halt
  k_dflt (refine' wpAny_level ?l1 ?l2 ?l3 ?l4 ?l5 (middle_c ?k1 ?k2 ?k3 ?k4 ?k5 ?k6 ?k7 ?f0 ?f1 ?f2 ?f3 ?f4 ?_))
  case l3 => exact rfl
  case l1 => exact rfl
  case l4 => exact rfl
  case l2 => exact Nat.le_of_ble_eq_true rfl
  case l5 => exact Nat.le_of_ble_eq_true rfl
  case k1 => k_asm
  case k2 => k_asm
  case k3 => k_asm
  case k4 => k_asm
  case k5 => k_asm
  case k6 => exact rfl
  case k7 => exact rfl
  case f0 => exact hp
  case f1 => exact he
  case f2 => exact h1
  case f3 => exact ⟨okB_is ha, okB_is hb, okB_is hc, okB_is hd'⟩
  case f4 => exact lit_o
  intro x0 o0 h2 tk2 F2 hlt2 N2 ho0
  dsimp only
  k_steps
  rename_i wa hh1 lw hh2 tkk tl hh3 lt hh4 F3 N3
  unfold Halt
  with_unfolding_all refine' For_invVF F3 ?k1 ?k2 ?_
  case k1 => exact rfl
  case k2 => exact rfl
  k_steps
  unfold Halt
  rename IsRange _ _ _ _ _ _ _ _ => hR4
  rename Fr _ _ _ _ => F4
  rename News _ _ _ _ => N4
  have F5 := Fr.as F4 (m' := fun y => if y = Str.ofString "told" then some (Value.ref tl) else if y = Str.ofString "waiting" then some (Value.ref wa) else List.lookup y [(Str.ofString "ends", Value.ref ea), (Str.ofString "prices", Value.ref pa)]) (by with_unfolding_all rfl)
  have lw1 : ∀ q ∈ news, q.1 < wa := ktn_ltOf lw.2
  have lt1 : ∀ q ∈ news, q.1 < tl := ktn_ltOf lt.2.2
  obtain ⟨lw0, -⟩ := lw
  obtain ⟨lt0, lt2, -⟩ := lt
  refine tbr_invG (fun i m₁ nx => ∃ (xs ts : List (Addr × It)) (adds : List (Addr × Obj)) (n k : Nat), (∀ y, y ≠ Str.ofString "k" → y ≠ Str.ofString "top" → y ≠ Str.ofString "price" → y ≠ Str.ofString "p" → y ≠ Str.ofString "q" → y ≠ Str.ofString "sides" → y ≠ Str.ofString "label" → y ≠ Str.ofString "a" → y ≠ Str.ofString "b" → y ≠ Str.ofString "c" → y ≠ Str.ofString "d" → m₁ y = if y = Str.ofString "told" then some (Value.ref tl) else if y = Str.ofString "waiting" then some (Value.ref wa) else List.lookup y [(Str.ofString "ends", Value.ref ea), (Str.ofString "prices", Value.ref pa)])
      ∧ nx = (wa, listOf (refsOf xs).toArray n) :: (tl, listOf (refsOf ts).toArray k) :: (adds ++ news)
      ∧ (∀ q ∈ adds, q.1 ≠ wa ∧ q.1 ≠ tl ∧ ∀ r ∈ news, r.1 < q.1) ∧ (∀ z ∈ xs, ItemAt (adds ++ news) z.1 z.2) ∧ (∀ z ∈ ts, ItemAt (adds ++ news) z.1 z.2)
      ∧ ts.length = i ∧ toldIter p0 p1 (9 - i) (xs.map (·.2), ts.map (·.2)) = some res) rfl hR4 (by decide) (n := 9) (by decide) F5
      (News.sub (l' := (wa, listOf (refsOf [(x0, mid p0 p1 a b c d [111])]).toArray 0) :: (tl, listOf (refsOf ([] : List (Addr × It))).toArray 0) :: ([(x0, o0)] ++ news)) N4
        (by intro q hq; simp only [List.mem_cons, List.cons_append, List.nil_append] at hq ⊢; rcases hq with h | h | h | h <;> simp [h])) ?_ ?_ ?_
  · refine ⟨_, _, _, _, _, fun y _ _ _ _ _ _ _ _ _ _ _ => rfl, rfl, ?_, ?_, ?_, rfl, hrun⟩
    · intro q hq
      rw [List.mem_singleton.mp hq]
      exact ⟨Nat.ne_of_lt lw0, Nat.ne_of_lt lt2, hlt2⟩
    · intro z hz
      rw [List.mem_singleton.mp hz]
      obtain ⟨u1, u2, u3, u4, rfl⟩ := ho0
      exact ⟨_, _, _, _, _, _, .head _, _, _, _, _, _, .tail _ he⟩
    · intro z hz; cases hz
  · clear F5 F4 N4 hR4
    rintro i k t m₁ nx h tk5 own hik hoff ⟨xs, ts, adds, n, kk, hm, rfl, hadds, hxs, hts, hlt, hit⟩ F₁ N₁
    have hi9 : i < 9 := by
      rcases Nat.lt_or_ge i 9 with h' | h'
      · exact h'
      · rw [List.getElem?_eq_none (by simpa [rangeKs] using h')] at hik; cases hik
    obtain ⟨u, hu⟩ : ∃ u : Str → Option Value, u = (fun y => if y = Str.ofString "k" then some (Value.int k t) else m₁ y) := ⟨_, rfl⟩
    rw [← hu] at F₁
    have hm' : ∀ y, y ≠ Str.ofString "k" → y ≠ Str.ofString "top" → y ≠ Str.ofString "price" → y ≠ Str.ofString "p" → y ≠ Str.ofString "q" → y ≠ Str.ofString "sides" → y ≠ Str.ofString "label" → y ≠ Str.ofString "a" → y ≠ Str.ofString "b" → y ≠ Str.ofString "c" → y ≠ Str.ofString "d" → u y = if y = Str.ofString "told" then some (Value.ref tl) else if y = Str.ofString "waiting" then some (Value.ref wa) else List.lookup y [(Str.ofString "ends", Value.ref ea), (Str.ofString "prices", Value.ref pa)] := by
      intro y e1 e2 e3 e4 e5 e6 e7 e8 e9 e10 e11
      rw [hu]
      simp only [if_neg e1]
      exact hm y e1 e2 e3 e4 e5 e6 e7 e8 e9 e10 e11
    have F₁ := Fr.as F₁ (map11 _ _ _ _ _ _ _ _ _ _ _ hm')
    clear hm hm' hu
    obtain ⟨R, hR⟩ : ∃ R, R = (adds ++ news) ++ own := ⟨_, rfl⟩
    have N₁ := News.sub (l' := (wa, listOf (refsOf xs).toArray n) :: (tl, listOf (refsOf ts).toArray kk) :: R) N₁ (by rw [hR]; exact fun q hq => hq)
    have hRs : ∀ q ∈ adds ++ news, q ∈ R := fun q hq => by rw [hR]; exact List.mem_append.mpr (.inl hq)
    have hRo : ∀ q ∈ own, q ∈ R := fun q hq => by rw [hR]; exact List.mem_append.mpr (.inr hq)
    have hRw : ∀ q ∈ R, q.1 ≠ wa ∧ q.1 ≠ tl := by
      intro q hq
      rw [hR] at hq
      rcases List.mem_append.mp hq with hq | hq
      · rcases List.mem_append.mp hq with hq | hq
        · exact ⟨(hadds q hq).1, (hadds q hq).2.1⟩
        · exact ⟨Nat.ne_of_lt (lw1 q hq), Nat.ne_of_lt (lt1 q hq)⟩
      · exact ⟨hoff q hq _ (.head _), hoff q hq _ (.tail _ (.head _))⟩
    have hpR : (pa, listOf [Value.int p0 t0, Value.int p1 t1].toArray pn) ∈ R := hRs _ (List.mem_append.mpr (.inr hp))
    have hxsR : ∀ z ∈ xs, ItemAt R z.1 z.2 := fun z hz => (hxs z hz).mono hRs
    have htsR : ∀ z ∈ ts, ItemAt R z.1 z.2 := fun z hz => (hts z hz).mono hRs
    have h9 : 9 - i = (9 - (i + 1)) + 1 := by omega
    rw [h9] at hit
    unfold toldIter at hit
    split at hit
    · cases hit
    rename_i st' hstep
    unfold toldStep at hstep
    simp only [List.getElem?_map] at hstep
    cases hx : xs[0]? with
    | none => rw [hx] at hstep; cases hstep
    | some x =>
    rw [hx] at hstep
    simp only [Option.map_some] at hstep
    split at hstep
    case isFalse => cases hstep
    rename_i hok
    unfold okSt at hok
    simp only [Bool.and_eq_true, decide_eq_true_eq, List.length_map] at hok
    obtain ⟨⟨⟨⟨⟨⟨⟨ka, kb⟩, kc⟩, kd⟩, kp⟩, kq⟩, klab⟩, klen⟩ := hok
    split at hstep
    · cases hstep
    rename_i ds1 hds1
    split at hstep
    · cases hstep
    rename_i ds2 hds2
    injection hstep with hstep
    obtain ⟨es, q1, q2, q3, q4, qn, hmx, r1, r2, r3, r4, rn, hme⟩ := hxsR x (List.mem_of_getElem? hx)
    have h00 : (0 : Int) ≤ 0 := by omega
    have hx' : xs[(0 : Int).toNat]? = some x := hx
    have hl1000 : xs.length < 1000 := by omega
    have klab' : x.2.label.length < 1000 := by omega
    k_steps
    rename_i e1 he1 Fe1 Ne1 le1 te1 tke1
    unfold Halt
    k_dflt (refine' wpAny_level ?l1 ?l2 ?l3 ?l4 ?l5 (middle_c ?k1 ?k2 ?k3 ?k4 ?k5 ?k6 ?k7 ?f0 ?f1 ?f2 ?f3 ?f4 ?_))
    case l3 => exact rfl
    case l1 => exact rfl
    case l4 => exact rfl
    case l2 => exact Nat.le_of_ble_eq_true rfl
    case l5 => exact Nat.le_of_ble_eq_true rfl
    case k1 => k_asm
    case k2 => k_asm
    case k3 => k_asm
    case k4 => k_asm
    case k5 => k_asm
    case k6 => exact rfl
    case k7 => exact rfl
    case f0 => exact .tail _ (.tail _ (.tail _ hpR))
    case f1 => exact List.mem_cons_self
    case f2 => exact h1
    case f3 => exact ⟨okB_is ka, okB_is kb, okB_is kp, okB_is kq⟩
    case f4 => exact rfl
    intro x1 o1 h3 tk3 F3 hlt3 N3 ho1
    have le1R : ∀ q ∈ R, q.1 < e1 := ktn_ltOf le1.2.2
    obtain ⟨le1w, le1t, -⟩ := le1
    have lx1e : e1 < x1 := hlt3 _ (.head _)
    have lx1w : wa < x1 := hlt3 _ (.tail _ (.head _))
    have lx1t : tl < x1 := hlt3 _ (.tail _ (.tail _ (.head _)))
    have lx1R : ∀ q ∈ R, q.1 < x1 := fun q hq => hlt3 _ (.tail _ (.tail _ (.tail _ hq)))
    dsimp only
    k_steps
    unfold Halt
    rename News _ _ _ _ => N4
    have hy1 : ItemAt ((x1, o1) :: (e1, tupOf [Value.int x.2.a r1, Value.int x.2.b r2, Value.int x.2.p q2, Value.int x.2.q q3] 0) :: (tl, listOf (refsOf ts).toArray kk) :: R) x1 (mid p0 p1 x.2.a x.2.b x.2.p x.2.q (x.2.label ++ [46, 111])) := by
      obtain ⟨u1, u2, u3, u4, rfl⟩ := ho1
      exact ⟨_, _, _, _, _, _, .head _, _, _, _, _, _, .tail _ (.head _)⟩
    have N4 := News.sub (l' := (wa, listOf (refsOf xs).toArray n) :: ((x1, o1) :: (e1, tupOf [Value.int x.2.a r1, Value.int x.2.b r2, Value.int x.2.p q2, Value.int x.2.q q3] 0) :: (tl, listOf (refsOf ts).toArray kk) :: R)) N4 (by repeat' first | (with_reducible exact sub_nil) | (with_reducible exact sub_self) | (with_reducible assumption) | (with_reducible refine sub_cons ?_ ?_) | (with_reducible refine sub_app ?_ ?_) | (with_reducible refine sub_more ?_) | (with_reducible exact sub_left) | (with_reducible refine sub_right ?_) | (with_reducible exact List.mem_cons_self) | (with_reducible refine List.mem_cons_of_mem _ ?_) | (with_reducible refine List.mem_append_right _ ?_))
    have hne1 : ∀ q ∈ ((x1, o1) :: (e1, tupOf [Value.int x.2.a r1, Value.int x.2.b r2, Value.int x.2.p q2, Value.int x.2.q q3] 0) :: (tl, listOf (refsOf ts).toArray kk) :: R), q.1 ≠ wa := by
      intro q hq
      simp only [List.mem_cons] at hq
      rcases hq with h | h | h | h
      · rw [h]; exact Nat.ne_of_gt lx1w
      · rw [h]; exact Nat.ne_of_gt le1w
      · rw [h]; exact Nat.ne_of_gt lt0
      · exact (hRw q h).1
    k_dflt (refine' wpAny_level ?l1 ?l2 ?l3 ?l4 ?l5 (repl_c (x := x) (y := (x1, mid p0 p1 x.2.a x.2.b x.2.p x.2.q (x.2.label ++ [46, 111]))) ?k1 ?k2 ?k3 ?k4 ?k5 ?k6 ?k7 ?f0 ?f1 ?f2 ?f3 ?f4 ?f5 ?_))
    case l3 => exact rfl
    case l1 => exact rfl
    case l4 => exact rfl
    case l2 => exact Nat.le_of_ble_eq_true rfl
    case l5 => exact Nat.le_of_ble_eq_true rfl
    case k1 => k_asm
    case k2 => k_asm
    case k3 => k_asm
    case k4 => k_asm
    case k5 => k_asm
    case k6 => exact rfl
    case k7 => exact rfl
    case f0 => exact hne1
    case f1 => exact fun z hz => (hxsR z hz).mono fun q hq => .tail _ (.tail _ (.tail _ hq))
    case f2 => exact hl1000
    case f3 => exact hy1
    case f4 => exact hds1
    case f5 => exact hx
    intro h4 tk4 xs1 F4 N4 hxs1 hit1 hln1
    dsimp only
    k_steps
    rename_i e2 he2 Fe2 Ne2 le2 te2 tke2
    unfold Halt
    k_dflt (refine' wpAny_level ?l1 ?l2 ?l3 ?l4 ?l5 (middle_c ?k1 ?k2 ?k3 ?k4 ?k5 ?k6 ?k7 ?f0 ?f1 ?f2 ?f3 ?f4 ?_))
    case l3 => exact rfl
    case l1 => exact rfl
    case l4 => exact rfl
    case l2 => exact Nat.le_of_ble_eq_true rfl
    case l5 => exact Nat.le_of_ble_eq_true rfl
    case k1 => k_asm
    case k2 => k_asm
    case k3 => k_asm
    case k4 => k_asm
    case k5 => k_asm
    case k6 => exact rfl
    case k7 => exact rfl
    case f0 => exact .tail _ (.tail _ (.tail _ (.tail _ (.tail _ hpR))))
    case f1 => exact List.mem_cons_self
    case f2 => exact h1
    case f3 => exact ⟨okB_is kp, okB_is kq, okB_is kc, okB_is kd⟩
    case f4 => exact rfl
    intro x2 o2 h5 tk5' F5 hlt5 N5 ho2
    have le2R : ∀ q ∈ R, q.1 < e2 := ktn_ltOf le2.2.2.2.2
    obtain ⟨le2w, le2x, le2e, le2t, -⟩ := le2
    have lx2e : e2 < x2 := hlt5 _ (.head _)
    have lx2w : wa < x2 := hlt5 _ (.tail _ (.head _))
    have lx2x : x1 < x2 := hlt5 _ (.tail _ (.tail _ (.head _)))
    have lx2e1 : e1 < x2 := hlt5 _ (.tail _ (.tail _ (.tail _ (.head _))))
    have lx2t : tl < x2 := hlt5 _ (.tail _ (.tail _ (.tail _ (.tail _ (.head _)))))
    have lx2R : ∀ q ∈ R, q.1 < x2 := fun q hq => hlt5 _ (.tail _ (.tail _ (.tail _ (.tail _ (.tail _ hq)))))
    dsimp only
    k_steps
    unfold Halt
    rename News _ _ _ _ => N6
    have hy2 : ItemAt ((x2, o2) :: (e2, tupOf [Value.int x.2.p q2, Value.int x.2.q q3, Value.int x.2.c r3, Value.int x.2.d r4] 0) :: (x1, o1) :: (e1, tupOf [Value.int x.2.a r1, Value.int x.2.b r2, Value.int x.2.p q2, Value.int x.2.q q3] 0) :: (tl, listOf (refsOf ts).toArray kk) :: R) x2 (mid p0 p1 x.2.p x.2.q x.2.c x.2.d (x.2.label ++ [46, 111, 111])) := by
      obtain ⟨u1, u2, u3, u4, rfl⟩ := ho2
      exact ⟨_, _, _, _, _, _, .head _, _, _, _, _, _, .tail _ (.head _)⟩
    have N6 := News.sub (l' := (wa, listOf (refsOf xs1).toArray n) :: ((x2, o2) :: (e2, tupOf [Value.int x.2.p q2, Value.int x.2.q q3, Value.int x.2.c r3, Value.int x.2.d r4] 0) :: (x1, o1) :: (e1, tupOf [Value.int x.2.a r1, Value.int x.2.b r2, Value.int x.2.p q2, Value.int x.2.q q3] 0) :: (tl, listOf (refsOf ts).toArray kk) :: R)) N6 (by repeat' first | (with_reducible exact sub_nil) | (with_reducible exact sub_self) | (with_reducible assumption) | (with_reducible refine sub_cons ?_ ?_) | (with_reducible refine sub_app ?_ ?_) | (with_reducible refine sub_more ?_) | (with_reducible exact sub_left) | (with_reducible refine sub_right ?_) | (with_reducible exact List.mem_cons_self) | (with_reducible refine List.mem_cons_of_mem _ ?_) | (with_reducible refine List.mem_append_right _ ?_))
    have hit1R : ∀ z ∈ xs1, ItemAt ((x2, o2) :: (e2, tupOf [Value.int x.2.p q2, Value.int x.2.q q3, Value.int x.2.c r3, Value.int x.2.d r4] 0) :: (x1, o1) :: (e1, tupOf [Value.int x.2.a r1, Value.int x.2.b r2, Value.int x.2.p q2, Value.int x.2.q q3] 0) :: (tl, listOf (refsOf ts).toArray kk) :: R) z.1 z.2 := by
      intro z hz
      rcases hit1 z hz with h | h
      · exact (hxsR z h).mono fun q hq => .tail _ (.tail _ (.tail _ (.tail _ (.tail _ hq))))
      · rw [h]; exact hy1.mono fun q hq => .tail _ (.tail _ hq)
    have hne2 : ∀ q ∈ ((x2, o2) :: (e2, tupOf [Value.int x.2.p q2, Value.int x.2.q q3, Value.int x.2.c r3, Value.int x.2.d r4] 0) :: (x1, o1) :: (e1, tupOf [Value.int x.2.a r1, Value.int x.2.b r2, Value.int x.2.p q2, Value.int x.2.q q3] 0) :: (tl, listOf (refsOf ts).toArray kk) :: R), q.1 ≠ wa := by
      intro q hq
      simp only [List.mem_cons] at hq
      rcases hq with h | h | h | h | h | h
      · rw [h]; exact Nat.ne_of_gt lx2w
      · rw [h]; exact Nat.ne_of_gt le2w
      · rw [h]; exact Nat.ne_of_gt lx1w
      · rw [h]; exact Nat.ne_of_gt le1w
      · rw [h]; exact Nat.ne_of_gt lt0
      · exact (hRw q h).1
    k_dflt (refine' wpAny_level ?l1 ?l2 ?l3 ?l4 ?l5 (push_c (y := (x2, mid p0 p1 x.2.p x.2.q x.2.c x.2.d (x.2.label ++ [46, 111, 111]))) ?k1 ?k2 ?k3 ?k4 ?k5 ?k6 ?k7 ?f0 ?f1 ?f2 ?f3 ?f4 ?_))
    case l3 => exact rfl
    case l1 => exact rfl
    case l4 => exact rfl
    case l2 => exact Nat.le_of_ble_eq_true rfl
    case l5 => exact Nat.le_of_ble_eq_true rfl
    case k1 => k_asm
    case k2 => k_asm
    case k3 => k_asm
    case k4 => k_asm
    case k5 => k_asm
    case k6 => exact rfl
    case k7 => exact rfl
    case f0 => exact hne2
    case f1 => exact hit1R
    case f2 => (rw [hln1]; omega)
    case f3 => exact hy2
    case f4 => (rw [hxs1]; exact hds2)
    intro h6 tk6 xs2 F6 N6 hxs2 hit2 hln2
    dsimp only
    k_steps
    unfold Halt
    rename News _ _ _ _ => N7
    have N7 := News.sub (l' := (tl, listOf (refsOf ts).toArray kk) :: ((wa, listOf (refsOf xs2).toArray (n + 1)) :: (x2, o2) :: (e2, tupOf [Value.int x.2.p q2, Value.int x.2.q q3, Value.int x.2.c r3, Value.int x.2.d r4] 0) :: (x1, o1) :: (e1, tupOf [Value.int x.2.a r1, Value.int x.2.b r2, Value.int x.2.p q2, Value.int x.2.q q3] 0) :: R)) N7 (by repeat' first | (with_reducible exact sub_nil) | (with_reducible exact sub_self) | (with_reducible assumption) | (with_reducible refine sub_cons ?_ ?_) | (with_reducible refine sub_app ?_ ?_) | (with_reducible refine sub_more ?_) | (with_reducible exact sub_left) | (with_reducible refine sub_right ?_) | (with_reducible exact List.mem_cons_self) | (with_reducible refine List.mem_cons_of_mem _ ?_) | (with_reducible refine List.mem_append_right _ ?_))
    have hne3 : ∀ q ∈ ((wa, listOf (refsOf xs2).toArray (n + 1)) :: (x2, o2) :: (e2, tupOf [Value.int x.2.p q2, Value.int x.2.q q3, Value.int x.2.c r3, Value.int x.2.d r4] 0) :: (x1, o1) :: (e1, tupOf [Value.int x.2.a r1, Value.int x.2.b r2, Value.int x.2.p q2, Value.int x.2.q q3] 0) :: R), q.1 ≠ tl := by
      intro q hq
      simp only [List.mem_cons] at hq
      rcases hq with h | h | h | h | h | h
      · rw [h]; exact Nat.ne_of_lt lt0
      · rw [h]; exact Nat.ne_of_gt lx2t
      · rw [h]; exact Nat.ne_of_gt le2t
      · rw [h]; exact Nat.ne_of_gt lx1t
      · rw [h]; exact Nat.ne_of_gt le1t
      · exact (hRw q h).2
    with_unfolding_all refine' items_append (xs := ts) (x := x) ?F ?N hne3 (by omega) ?_
    case F => k_asm
    case N => exact N7
    intro h7 F7 N7'
    dsimp only
    k_steps
    have hsubN : ∀ q ∈ ((x2, o2) :: (e2, tupOf [Value.int x.2.p q2, Value.int x.2.q q3, Value.int x.2.c r3, Value.int x.2.d r4] 0) :: (x1, o1) :: (e1, tupOf [Value.int x.2.a r1, Value.int x.2.b r2, Value.int x.2.p q2, Value.int x.2.q q3] 0) :: adds) ++ news, q ∈ (x2, o2) :: (e2, tupOf [Value.int x.2.p q2, Value.int x.2.q q3, Value.int x.2.c r3, Value.int x.2.d r4] 0) :: (x1, o1) :: (e1, tupOf [Value.int x.2.a r1, Value.int x.2.b r2, Value.int x.2.p q2, Value.int x.2.q q3] 0) :: R := by
      exact sub_cons (.head _) (sub_cons (.tail _ (.head _)) (sub_cons (.tail _ (.tail _ (.head _))) (sub_cons (.tail _ (.tail _ (.tail _ (.head _)))) fun q h => .tail _ (.tail _ (.tail _ (.tail _ (hRs q h)))))))
    have hupR : ∀ q ∈ R, q ∈ adds ++ news ∨ q ∈ own := fun q hq => by rw [hR] at hq; exact List.mem_append.mp hq
    refine ⟨_, _, _, _, (wa, listOf (refsOf xs2).toArray (n + 1)) :: (tl, listOf (refsOf (ts ++ [x])).toArray (kk + 1)) :: (((x2, o2) :: (e2, tupOf [Value.int x.2.p q2, Value.int x.2.q q3, Value.int x.2.c r3, Value.int x.2.d r4] 0) :: (x1, o1) :: (e1, tupOf [Value.int x.2.a r1, Value.int x.2.b r2, Value.int x.2.p q2, Value.int x.2.q q3] 0) :: adds) ++ news), rfl, by assumption, N7', ?_, ?_, ?_, ?_⟩
    · intro q hq
      rcases List.mem_cons.mp hq with h | hq
      · rw [h]; exact .tail _ (.head _)
      · rcases List.mem_cons.mp hq with h | hq
        · rw [h]; exact .head _
        · exact .tail _ (.tail _ (hsubN q hq))
    · intro q hq
      exact .tail _ (.tail _ (.tail _ (.tail _ (.tail _ (.tail _ (hRo q hq))))))
    · intro q hq r hr
      have hqR := hRo q hq
      simp only [List.cons_append, List.mem_cons] at hr
      rcases hr with h | h | h | h | h | h | h
      · rw [h]; exact (hRw q hqR).1
      · rw [h]; exact (hRw q hqR).2
      · rw [h]; exact Nat.ne_of_lt (lx2R q hqR)
      · rw [h]; exact Nat.ne_of_lt (le2R q hqR)
      · rw [h]; exact Nat.ne_of_lt (lx1R q hqR)
      · rw [h]; exact Nat.ne_of_lt (le1R q hqR)
      · exact hoff q hq r (.tail _ (.tail _ h))
    · have hnR : ∀ q ∈ news, q ∈ R := fun q hq => hRs q (List.mem_append.mpr (.inr hq))
      have ky2 : ItemAt (((x2, o2) :: (e2, tupOf [Value.int x.2.p q2, Value.int x.2.q q3, Value.int x.2.c r3, Value.int x.2.d r4] 0) :: (x1, o1) :: (e1, tupOf [Value.int x.2.a r1, Value.int x.2.b r2, Value.int x.2.p q2, Value.int x.2.q q3] 0) :: adds) ++ news) x2 (mid p0 p1 x.2.p x.2.q x.2.c x.2.d (x.2.label ++ [46, 111, 111])) := by
        obtain ⟨u1, u2, u3, u4, rfl⟩ := ho2
        exact ⟨_, _, _, _, _, _, .head _, _, _, _, _, _, .tail _ (.head _)⟩
      have ky1 : ItemAt (((x2, o2) :: (e2, tupOf [Value.int x.2.p q2, Value.int x.2.q q3, Value.int x.2.c r3, Value.int x.2.d r4] 0) :: (x1, o1) :: (e1, tupOf [Value.int x.2.a r1, Value.int x.2.b r2, Value.int x.2.p q2, Value.int x.2.q q3] 0) :: adds) ++ news) x1 (mid p0 p1 x.2.a x.2.b x.2.p x.2.q (x.2.label ++ [46, 111])) := by
        obtain ⟨u1, u2, u3, u4, rfl⟩ := ho1
        exact ⟨_, _, _, _, _, _, .tail _ (.tail _ (.head _)), _, _, _, _, _, .tail _ (.tail _ (.tail _ (.head _)))⟩
      have kold : ∀ z ∈ xs, ItemAt (((x2, o2) :: (e2, tupOf [Value.int x.2.p q2, Value.int x.2.q q3, Value.int x.2.c r3, Value.int x.2.d r4] 0) :: (x1, o1) :: (e1, tupOf [Value.int x.2.a r1, Value.int x.2.b r2, Value.int x.2.p q2, Value.int x.2.q q3] 0) :: adds) ++ news) z.1 z.2 := fun z hz => (hxs z hz).mono fun q hq => by
        simp only [List.cons_append]
        exact .tail _ (.tail _ (.tail _ (.tail _ hq)))
      refine ⟨xs2, ts ++ [x], (x2, o2) :: (e2, tupOf [Value.int x.2.p q2, Value.int x.2.q q3, Value.int x.2.c r3, Value.int x.2.d r4] 0) :: (x1, o1) :: (e1, tupOf [Value.int x.2.a r1, Value.int x.2.b r2, Value.int x.2.p q2, Value.int x.2.q q3] 0) :: adds, n + 1, kk + 1, ?_, rfl, ?_, ?_, ?_, ?_, ?_⟩
      · intro y g1 g2 g3 g4 g5 g6 g7 g8 g9 g10 g11
        simp only [if_neg g1, if_neg g2, if_neg g3, if_neg g4, if_neg g5, if_neg g6, if_neg g7, if_neg g8, if_neg g9, if_neg g10, if_neg g11]
      · intro q hq
        simp only [List.mem_cons] at hq
        rcases hq with h | h | h | h | h
        · rw [h]; exact ⟨Nat.ne_of_gt lx2w, Nat.ne_of_gt lx2t, fun r hr => lx2R r (hnR r hr)⟩
        · rw [h]; exact ⟨Nat.ne_of_gt le2w, Nat.ne_of_gt le2t, fun r hr => le2R r (hnR r hr)⟩
        · rw [h]; exact ⟨Nat.ne_of_gt lx1w, Nat.ne_of_gt lx1t, fun r hr => lx1R r (hnR r hr)⟩
        · rw [h]; exact ⟨Nat.ne_of_gt le1w, Nat.ne_of_gt le1t, fun r hr => le1R r (hnR r hr)⟩
        · exact hadds q h
      · intro z hz
        rcases hit2 z hz with h | h
        · rcases hit1 z h with h | h
          · exact kold z h
          · rw [h]; exact ky1
        · rw [h]; exact ky2
      · intro z hz
        rcases List.mem_append.mp hz with hz | hz
        · exact (hts z hz).mono fun q hq => by
            simp only [List.cons_append]
            exact .tail _ (.tail _ (.tail _ (.tail _ hq)))
        · rw [List.mem_singleton.mp hz]
          exact (hxs x (List.mem_of_getElem? hx)).mono fun q hq => by
            simp only [List.cons_append]
            exact .tail _ (.tail _ (.tail _ (.tail _ hq)))
      · rw [List.length_append, List.length_singleton, hlt]
      · rw [hxs2, List.map_append]
        rw [← hstep] at hit
        exact hit
  · rintro m₁ nx h tk5 ⟨xs, ts, adds, n, kk, hm, rfl, hadds, hxs, hts, hlt, hit⟩ F₁ N₁
    have F₁ := Fr.as F₁ (map11 _ _ _ _ _ _ _ _ _ _ _ hm)
    clear F5 F4 N4 hR4 hm
    k_steps
    refine ret tl _ _ ts ((wa, listOf (refsOf xs).toArray n) :: (tl, listOf (refsOf ts).toArray kk) :: adds) kk (by assumption) (by assumption) ?_ (.tail _ (.head _)) ?_ ?_
    · intro q hq r hr
      rcases List.mem_cons.mp hq with h | hq
      · rw [h]; exact Nat.ne_of_gt (lw1 r hr)
      · rcases List.mem_cons.mp hq with h | hq
        · rw [h]; exact Nat.ne_of_gt (lt1 r hr)
        · exact Nat.ne_of_gt ((hadds q hq).2.2 r hr)
    · exact fun z hz => (hts z hz).mono fun q hq => .tail _ (.tail _ hq)
    · have e : (9 - 9 : Nat) = 0 := rfl
      rw [e] at hit
      unfold toldIter at hit
      exact Option.some.inj hit

end
end
section
section

def turnsLoop : Nat → Int → Int → List Nat → Option (List Nat)
  | 0, _, _, _ => none
  | f + 1, x, y, l => if l.length < 900 then (if x = y then some (if x = 1 then l else []) else if x < y then turnsLoop f x (y - x) (l ++ [46, 111]) else turnsLoop f (x - y) y (l ++ [46, 111, 111])) else none
def turnsRun (x y : Int) : Option (List Nat) := turnsLoop 120 x y [111]

theorem turns_c {w : World} {p : Program} {loose : List Str} {mean : ExcName → Option Value} {mg mb : Str → Option Value} {env : Env} {outer : List Env} {A₀ : Around} {base h₀ : Heap} {L : Addr} {m : Str → Option Value} {s : Shared} {Q E : Value → Shared → Prop}
   {news : List (Addr × Obj)} {x y : Int} {t0 t1 : Tok} {res : List Nat}
   (B : Below A₀ base outer h₀) (F : Fr h₀ L s.heap m) (X : (hd.heap_39 w.params).In h₀) (N : News h₀ L s.heap news) (T : Top p loose mean mg mb h₀)
   (hf : env.frame = some L) (hke : env.scope.kind = .function)
   (hrun : turnsRun x y = some res)
   (ret : ∀ t h' tk' rs, Fr h₀ L h' m → News h₀ L h' news → rs = lab res → Q (.str rs t) { s with heap := h', toks := tk' }) :
   wpAny (model PySem.Challenge.rw_oy0044_01.row.prog w) (lev 370 700 env outer) (call (.ref 132) [.int x t0, .int y t1]) Q E s := by
  w_top off
  k_with_none
  (k_with "subscriptTail" => (k_here; (with_reducible show wpAny _ _ (subscriptTail _ _ (Value.ref _) (Value.int _ _)) _ _ _); (with_unfolding_all refine' kim_list ?k1 ?k2 ?k3 ?k4 ?k5 ?k6 ?k7 ?_ ?k8 ?k9; (case k1 => k_asm); (case k2 => k_mem); (case k3 => exact rfl); (case k4 => exact rfl); (case k5 => decide); (case k6 => decide); (case k7 => exact rfl); (case k8 => with_unfolding_all rfl); (case k9 => intro _; with_unfolding_all rfl); k_whole)))
  (k_with "subscriptTail" => (k_here; (with_reducible show wpAny _ _ (subscriptTail _ _ (Value.ref _) (Value.int _ _)) _ _ _); (with_unfolding_all refine' item_read ?k1 ?k2 ?k3 ?k4 ?k5 ?_ ?k8 ?k9; (case k1 => k_asm); (case k2 => k_mem); (case k3 => with_reducible assumption); (case k4 => with_reducible assumption); (case k5 => with_reducible assumption); (case k8 => with_unfolding_all rfl); (case k9 => intro _; with_unfolding_all rfl); k_whole)))
  (k_with "setItem ref int ref" => (k_here; (with_reducible show wpAny _ _ (setItem (Value.ref _) (Value.int _ _) (Value.ref _)) _ _ _); (refine' item_store ?k1 ?k2 ?k3 ?k4 ?k5 ?k6 ?_; (case k1 => k_asm); (case k2 => k_asm); (case k3 => with_reducible assumption); (case k4 => with_reducible assumption); (case k5 => first | with_reducible assumption | omega); (case k6 => first | with_reducible assumption | omega); k_whole); intro _ _ _; (try k_sweep)))
  (k_with "compareOp Lt ref ref" => (k_here; (with_reducible show wpAny _ _ (compareOp CmpOp.Lt (Value.ref _) (Value.ref _)) _ _ _); (refine' item_ltW ?k1 ?k2 ?k3 ?k4 ?k5 ?_; (case k1 => k_asm); (case k2 => with_reducible assumption); (case k3 => with_reducible assumption); (case k4 => with_reducible assumption); (case k5 => k_units); k_whole)))
  (k_with "call builtin:len" => (k_here; (with_reducible show wpAny _ _ (call (Value.builtin "len") [Value.ref _]) _ _ _); (with_unfolding_all refine' items_len ?k1 ?k2 ?k3 ?_; (case k1 => k_asm); (case k2 => k_mem); (case k3 => with_reducible assumption); k_whole)))
  (k_with "call builtin:list.append" => (k_here; (with_reducible show wpAny _ _ (call (Value.builtin _) [Value.ref _, Value.ref _]) _ _ _); (with_unfolding_all refine' items_append ?k1 ?k2 ?k3 ?k4 ?_; (case k1 => k_asm); (case k2 => k_asm); (case k3 => with_reducible assumption); (case k4 => with_reducible assumption); k_whole); intro _ _ _; (try k_sweep)))
  (k_with "binaryOp Add str str" => (k_here; (with_reducible show wpAny _ _ (binaryOp _ (Value.str (Str.mk (List.toArray _)) _) (Value.str (Str.ofString _) _)) _ _ _); (refine' lab_add ?k1 ?k2 ?k3 ?_; (case k1 => first | with_reducible exact lit_do | with_reducible exact lit_doo | with_reducible exact lit_dot); (case k2 => first | with_reducible assumption | omega); (case k3 => decide); k_whole); intro _ _))
  (k_with "compareOp NotEq ref ref" => (k_here; (with_reducible show wpAny _ _ (compareOp CmpOp.NotEq (Value.ref _) (Value.ref _)) _ _ _); (with_unfolding_all refine' same_ne ?k1 ?k2 ?k3 ?_; (case k1 => k_asm); (case k2 => k_mem); (case k3 => k_units); k_whole)))
  (k_with "exec While Compare cons nil" => refine Halt.go ?_)
  revert X; k_fill; intro X
  refine wpAny_call ?_
  k_dflt ((refine' code_def ?k1 ?k2 ?k3 ?k4 ?k5 ?kA ?kF ?kK ?k6 ?k7 ?k8 ?k9 ?kB ?_ ?c2 ?c3 ?c4 ?c5; (case kA => exact rfl); (case kF => assumption); (case kK => assumption); (case k1 => k_asm); (case k2 => k_asm); (case k3 => k_asm); (case k4 => k_asm); (case k5 => k_asm); (case k6 => k_is); (case k7 => k_is); (case k8 => k_room); (case k9 => exact BindsTo.of_eq rfl); (case c5 => decide); (case kB => exact locs rfl); (case c2 => exact rfl); (case c3 => exact rfl); (case c4 => exact rfl); k_whole; intro _ _ _ _ _ _ _ _ _; (try dsimp only); (try k_fold)))
  k_steps
  unfold Halt
  rename Fr _ _ _ _ => F1
  rename News _ _ _ _ => N1
  with_unfolding_all (have F2 := Fr.ex1 (fun tl y' => if y' = Str.ofString "label" then some (Value.str (Str.ofString "o") tl) else List.lookup y' [(Str.ofString "y", Value.int y t1), (Str.ofString "x", Value.int x t0)]) F1)
  clear F1
  obtain ⟨tl, F2⟩ := F2
  refine While_inv2 (fun f m₁ news₁ => ∃ (x' y' : Int) (l : List Nat) (lb : Str),
      (∃ t, m₁ (Str.ofString "x") = some (Value.int x' t)) ∧ (∃ t, m₁ (Str.ofString "y") = some (Value.int y' t)) ∧ (∃ t, m₁ (Str.ofString "label") = some (Value.str lb t)) ∧ lb = lab l ∧ (∀ z, z ≠ Str.ofString "x" → z ≠ Str.ofString "y" → z ≠ Str.ofString "label" → m₁ z = none)
      ∧ news₁ = news ∧ turnsLoop f x' y' l = some res) F2 N1 (n₀ := 120) ?_ ?_
  · refine ⟨x, y, [111], _, ⟨_, rfl⟩, ⟨_, rfl⟩, ⟨_, rfl⟩, lit_o, ?_, rfl, hrun⟩
    intro z e1 e2 e3
    simp only [if_neg e3, List.lookup]
    rw [show (z == Str.ofString "y") = false from beq_false_of_ne e2, show (z == Str.ofString "x") = false from beq_false_of_ne e1]
  · clear F2 N1
    rintro f m₁ news₁ h₁ tk₁ F₁ N₁ ⟨x', y', l, lb, ⟨ux, hx⟩, ⟨uy, hy⟩, ⟨ul, hl⟩, rfl, hm, rfl, hlp⟩
    have F₁ := Fr.as F₁ (map3 _ _ _ hm)
    rw [hx, hy, hl] at F₁
    clear hm hx hy hl hrun
    cases f with
    | zero => unfold turnsLoop at hlp; cases hlp
    | succ f =>
      unfold turnsLoop at hlp
      split at hlp
      case isFalse => cases hlp
      rename_i hlen
      have hlen' : l.length < 1000 := by omega
      split at hlp
      · rename_i hxy
        injection hlp with hlp
        by_cases h1 : x' = 1
        · rw [if_pos h1] at hlp
          k_steps
          all_goals first
            | (exfalso; omega)
            | exact ret _ _ _ _ (by assumption) (by assumption) (by rw [hlp])
        · rw [if_neg h1] at hlp
          k_steps
          all_goals first
            | (exfalso; omega)
            | exact ret _ _ _ _ (by assumption) (by assumption) (by rw [← hlp]; exact lit_e)
      · rename_i hxy
        split at hlp
        · rename_i hlt
          k_steps
          all_goals first
            | (exfalso; omega)
            | (rename News _ _ _ _ => N3; refine ⟨_, _, _, _, f, rfl, by assumption, News.sub (l' := news₁) N3 (fun q h => .tail _ h), Nat.lt_succ_self _, x', y' - x', l ++ [46, 111], _, ⟨_, rfl⟩, ⟨_, rfl⟩, ⟨_, rfl⟩, rfl, ?_, rfl, hlp⟩; intro z e1 e2 e3; simp only [if_neg e1, if_neg e2, if_neg e3])
        · rename_i hlt
          k_steps
          all_goals first
            | (exfalso; omega)
            | (rename News _ _ _ _ => N3; refine ⟨_, _, _, _, f, rfl, by assumption, News.sub (l' := news₁) N3 (fun q h => .tail _ h), Nat.lt_succ_self _, x' - y', y', l ++ [46, 111, 111], _, ⟨_, rfl⟩, ⟨_, rfl⟩, ⟨_, rfl⟩, rfl, ?_, rfl, hlp⟩; intro z e1 e2 e3; simp only [if_neg e1, if_neg e2, if_neg e3])

end
end
section
open PySem.SeqAt
structure Du where
  price : Int
  p : Int
  q : Int
  label : List Nat
deriving DecidableEq
def ltD (x y : Du) : Option Bool :=
  if x.price = y.price then (if x.p = y.p then (if x.q = y.q then none else some (decide (x.q < y.q))) else some (decide (x.p < y.p))) else some (decide (x.price < y.price))
def DueAt (rest : List (Addr × Obj)) (x : Addr) (d : Du) : Prop :=
  ∃ t1 t2 t3 t4 n, (x, tupOf [Value.int d.price t1, Value.int d.p t2, Value.int d.q t3, Value.str (lab d.label) t4] n) ∈ rest
theorem DueAt.mono {r r' : List (Addr × Obj)} (h : ∀ p ∈ r, p ∈ r') {x : Addr} {i : Du} (hi : DueAt r x i) : DueAt r' x i := by
  obtain ⟨t1, t2, t3, t4, n, hm⟩ := hi
  exact ⟨t1, t2, t3, t4, n, h _ hm⟩

def askRun {α : Type} (lt : Nat → Nat → Option Bool) : KasT α → Option α
  | .ret a => some a
  | .ask i j k => match lt i j with
    | none => none
    | some b => askRun lt (k b)
theorem askRun_wp {α : Type} {lt : Nat → Nat → Option Bool} {cmp : Nat → Nat → (Bool → Shared → Prop) → Shared → Prop} {s : Shared} {Q : α → Shared → Prop} {r : α}
    (hc : ∀ i j b (C : Bool → Shared → Prop), lt i j = some b → C b s → cmp i j C s) (hQ : Q r s) : ∀ t : KasT α, askRun lt t = some r → t.kasWp cmp Q s
  | .ret a, h => by
    unfold askRun at h
    injection h with h
    subst h
    exact hQ
  | .ask i j k, h => by
    unfold askRun at h
    split at h
    · cases h
    · rename_i b hb
      exact hc i j b _ hb (askRun_wp hc hQ (k b) h)

def lookLt (ds : List Du) (i j : Nat) : Option Bool := match ds[i]?, ds[j]? with
  | some x, some y => ltD x y
  | _, _ => none
def sortRun (ds : List Du) : Option (List Du) :=
  if 2 ≤ ds.length ∧ ds.length < 64 then
    match askRun (lookLt ds) (kas_sort ds.length) with
    | some p => if (p.toList.all fun i => decide (i < ds.length)) = true then some (p.toList.filterMap fun i => ds[i]?) else none
    | none => none
  else none

section
variable {prog : Program} {w : World} {A : Around} {E : Value → Shared → Prop} {s : Shared} {h₀ : Heap} {L : Addr} {m : Str → Option Value} {news : List (Addr × Obj)}
theorem due_lt {Q : Bool → Shared → Prop} {x y : Addr × Du} {r : Bool} (N : News h₀ L s.heap news) (hx : DueAt news x.1 x.2) (hy : DueAt news y.1 y.2) (hk : ltD x.2 y.2 = some r) (h : Q r s) :
    wpAny (model prog w) A (keyLt' (tuples' true) (.ref x.1) (.ref y.1)) Q E s := by
  obtain ⟨t1, t2, t3, t4, n, hm⟩ := hx
  obtain ⟨u1, u2, u3, u4, n', hm'⟩ := hy
  refine kat_lt (N _ hm).1 rfl (N _ hm').1 rfl ?_
  show KatLex prog w A true _ Q [(Value.int x.2.price t1, Value.int y.2.price u1), (Value.int x.2.p t2, Value.int y.2.p u2), (Value.int x.2.q t3, Value.int y.2.q u3), (Value.str (lab x.2.label) t4, Value.str (lab y.2.label) u4)] 0 s
  unfold ltD at hk
  refine kat_cons (wpAny_eqBool_int ?_)
  split at hk
  · rename_i e1
    rw [show (x.2.price == y.2.price) = true by simpa using e1]
    refine kat_yes (kat_cons (wpAny_eqBool_int ?_))
    split at hk
    · rename_i e2
      rw [show (x.2.p == y.2.p) = true by simpa using e2]
      refine kat_yes (kat_cons (wpAny_eqBool_int ?_))
      split at hk
      · cases hk
      · rename_i e3
        injection hk with hk
        rw [show (x.2.q == y.2.q) = false by simpa using e3]
        refine kat_no (kat_one _ _ (PyProof.Rows.lt_int ?_))
        show Q _ s
        rw [hk]; exact h
    · rename_i e2
      injection hk with hk
      rw [show (x.2.p == y.2.p) = false by simpa using e2]
      refine kat_no (kat_one _ _ (PyProof.Rows.lt_int ?_))
      show Q _ s
      rw [hk]; exact h
  · rename_i e1
    injection hk with hk
    rw [show (x.2.price == y.2.price) = false by simpa using e1]
    refine kat_no (oneLt_int ?_)
    rw [hk]; exact h

theorem due_tups : ∀ {xs : List (Addr × Du)}, News h₀ L s.heap news → (∀ x ∈ xs, DueAt news x.1 x.2) → ∃ fs : List Value, KatTups s.heap (refsOf xs) fs ∧ fs.length = xs.length ∧ ∀ v ∈ fs, ∃ i t, v = Value.int i t
  | [], _, _ => ⟨[], trivial, rfl, fun _ h => nomatch h⟩
  | x :: xs, N, hi => by
    obtain ⟨fs, h1, h2, h3⟩ := due_tups (xs := xs) N fun z hz => hi z (.tail _ hz)
    obtain ⟨t1, t2, t3, t4, n, hm⟩ := hi x (.head _)
    refine ⟨Value.int x.2.price t1 :: fs, KatTups.cons (N _ hm).1 rfl rfl rfl h1, by simp [h2], ?_⟩
    intro v hv
    rcases List.mem_cons.mp hv with h | h
    · exact ⟨_, _, h⟩
    · exact h3 v h

theorem sorted_c {Q : Value → Shared → Prop} {la : Addr} {n : Nat} {xs : List (Addr × Du)} {ds' : List Du} (F : Fr h₀ L s.heap m) (N : News h₀ L s.heap news) (hm : (la, listOf (refsOf xs).toArray n) ∈ news)
    (hi : ∀ x ∈ xs, DueAt news x.1 x.2) (hrun : sortRun (xs.map (·.2)) = some ds')
    (ret : ∀ D c h' xs', Fr h₀ L h' m → News h₀ L h' ((D, listOf (refsOf xs').toArray c) :: news) → (∀ q ∈ news, q.1 < D) → xs'.map (·.2) = ds' → (∀ z ∈ xs', z ∈ xs) → Q (.ref D) { s with heap := h' }) :
    wpAny (model prog w) A (call (.builtin "sorted") [.ref la]) Q E s := by
  unfold sortRun at hrun
  rw [List.length_map] at hrun
  split at hrun
  case isFalse => cases hrun
  rename_i hlen
  split at hrun
  case h_2 => cases hrun
  rename_i pp hpp
  split at hrun
  case isFalse => cases hrun
  rename_i hall
  injection hrun with hrun
  have hvl : (refsOf xs).length = xs.length := by simp
  refine kat_sorted (vs := refsOf xs) F N ⟨_, (N _ hm).1, rfl, n, rfl⟩ (by rw [hvl]; exact hlen.1) (by rw [hvl]; exact hlen.2) ?_
  intro D e1 h' F' N' hlt
  obtain ⟨fs, hk1, hk2, hk3⟩ := due_tups (s := { s with heap := h' }) (xs := xs) N' fun z hz => (hi z hz).mono fun q hq => .tail _ hq
  refine kat_kind (T := .type "int") hk1 (by rw [hk2]; omega) ?_ rfl ?_
  · intro v hv
    obtain ⟨i, t, rfl⟩ := hk3 v hv
    exact Looks.of_pure rfl
  rw [hvl]
  have e : ((Value.type "int") != Value.type "tuple") = true := by decide
  rw [e]
  refine askRun_wp (lt := lookLt (xs.map (·.2))) (r := pp) ?_ ?_ _ hpp
  · intro i j b C hb hC
    unfold lookLt at hb
    split at hb
    case h_2 => cases hb
    rename_i x y hx hy
    rw [List.getElem?_map] at hx hy
    obtain ⟨x', hx', rfl⟩ := Option.map_eq_some_iff.mp hx
    obtain ⟨y', hy', rfl⟩ := Option.map_eq_some_iff.mp hy
    have ex : (refsOf xs).getD i Value.none = .ref x'.1 := by
      rw [List.getD_eq_getElem?_getD, List.getElem?_map, hx']; rfl
    have ey : (refsOf xs).getD j Value.none = .ref y'.1 := by
      rw [List.getD_eq_getElem?_getD, List.getElem?_map, hy']; rfl
    unfold kas_ask
    rw [ex, ey]
    exact due_lt N' ((hi x' (List.mem_of_getElem? hx')).mono fun q hq => .tail _ hq) ((hi y' (List.mem_of_getElem? hy')).mono fun q hq => .tail _ hq) hb hC
  · have hin : ∀ i ∈ pp.toList, i < xs.length := fun i h => by
      have := of_decide_eq_true (List.all_eq_true.mp hall i h)
      simpa using this
    have hout : ∀ l : List Nat, (∀ i ∈ l, i < xs.length) → (l.map fun i => (refsOf xs).getD i Value.none) = refsOf (l.filterMap fun i => xs[i]?) ∧ (l.filterMap fun i => xs[i]?).map (·.2) = l.filterMap fun i => (xs.map (·.2))[i]? := by
      intro l
      induction l with
      | nil => intro _; exact ⟨rfl, rfl⟩
      | cons i l ih =>
        intro hl
        obtain ⟨i1, i2⟩ := ih fun j hj => hl j (.tail _ hj)
        have hi' := hl i (.head _)
        have e1 : xs[i]? = some xs[i] := List.getElem?_eq_getElem hi'
        constructor
        · rw [List.map_cons, i1, List.filterMap_cons, e1]
          show _ = Value.ref xs[i].1 :: _
          rw [List.getD_eq_getElem?_getD, List.getElem?_map, e1]; rfl
        · rw [List.filterMap_cons, e1, List.filterMap_cons, List.getElem?_map, e1]
          simp only [Option.map_some, List.map_cons]
          rw [i2]
    obtain ⟨o1, o2⟩ := hout pp.toList hin
    refine KasFin.intro (g := fun o => (D, o) :: news) F' N' (UpdF.head fun q hq => Nat.ne_of_lt (hlt q hq)) ?_
    intro h2 c F2 N2
    rw [o1] at N2
    refine ret D c h2 _ F2 N2 hlt ?_ ?_
    · rw [o2]; exact hrun
    · intro z hz
      obtain ⟨i, _, hz⟩ := List.mem_filterMap.mp hz
      exact List.mem_of_getElem? hz
end
end
section
section

def dueY (one other a b c d x : Int) : Nat → Int → List Du → Option (List Du)
  | 0, _, acc => some acc
  | n + 1, y, acc => if acc.length < 900 then (match turnsRun x y with
    | none => none
    | some [] => dueY one other a b c d x n (y + 1) acc
    | some (k :: l) => dueY one other a b c d x n (y + 1) (acc ++ [⟨one * x + other * y, a * y + c * x, b * y + d * x, k :: l⟩])) else none
def dueX (one other a b c d last : Int) : Nat → Int → List Du → Option (List Du)
  | 0, _, acc => some acc
  | n + 1, x, acc => match dueY one other a b c d x ((last - one * x).fdiv other).toNat 1 acc with
    | none => none
    | some acc' => dueX one other a b c d last n (x + 1) acc'
def okD (v : Int) : Bool := decide (0 ≤ v) && decide (v ≤ 1000)
theorem okD_is {v : Int} (h : okD v = true) : 0 ≤ v ∧ v ≤ 1000 := by
  unfold okD at h
  simpa using h
def dueRun (p0 p1 a b c d last : Int) : Option (List Du) :=
  if (okD p0 && okD p1 && okD a && okD b && okD c && okD d && okD last && decide (0 < p0 * c + p1 * d) && decide (0 < p0 * a + p1 * b)) = true then
    match dueX (p0 * c + p1 * d) (p0 * a + p1 * b) a b c d last (last.fdiv (p0 * c + p1 * d)).toNat 1 [] with
    | none => none
    | some acc => sortRun acc
  else none

theorem range_small {b : Int} (h : -(2 ^ 62) ≤ b) (h' : b < 2 ^ 62) : Builtin.Range.small 1 b 1 = true := by
  unfold Builtin.Range.small
  have e : Builtin.Range.rangeSize 1 b 1 = (((b - 1).toNat : Nat) : Int) := by
    unfold Builtin.Range.rangeSize
    simp
    split <;> omega
  rw [e]
  simp only [Builtin.Range.rangeFitsLong, Bool.and_eq_true, Bool.or_eq_true, decide_eq_true_eq, beq_iff_eq, show ((1 : Int) > 0) by decide, if_true]
  omega
theorem range_n (q : Int) : Builtin.Range.rangeSize 1 (q + 1) 1 = ((q.toNat : Nat) : Int) := by
  unfold Builtin.Range.rangeSize
  simp
  split <;> omega
theorem fdiv_le {a b c : Int} (hb : 0 < b) (hc : 0 ≤ c) (ha : a ≤ c) : (a.fdiv b).toNat ≤ c.toNat := by
  rw [Int.fdiv_eq_ediv_of_nonneg _ (by omega)]
  by_cases h : 0 ≤ a
  · have := Int.ediv_le_self b h
    omega
  · have : a / b < 0 := Int.ediv_neg_of_neg_of_pos (by omega) hb
    omega
theorem fdiv_small {a b : Int} (hb : 0 < b) (h1 : -(2 ^ 60) ≤ a) (h2 : a ≤ 2 ^ 60) : -(2 ^ 61) ≤ a.fdiv b ∧ a.fdiv b ≤ 2 ^ 61 := by
  rw [Int.fdiv_eq_ediv_of_nonneg _ (by omega)]
  constructor
  · have : -(2 ^ 60) ≤ a / b := by
      rw [Int.le_ediv_iff_mul_le hb]
      have i1 : (1 : Int) ≤ b := hb
      have := Int.mul_le_mul_of_nonneg_left i1 (by decide : (0 : Int) ≤ 2 ^ 60)
      rw [Int.neg_mul]
      omega
    omega
  · by_cases h : 0 ≤ a
    · have := Int.ediv_le_self b h
      omega
    · have : a / b < 0 := Int.ediv_neg_of_neg_of_pos (by omega) hb
      omega

theorem due_c {w : World} {p : Program} {loose : List Str} {mean : ExcName → Option Value} {mg mb : Str → Option Value} {env : Env} {outer : List Env} {A₀ : Around} {base h₀ : Heap} {L : Addr} {m : Str → Option Value} {s : Shared} {Q E : Value → Shared → Prop}
   {news : List (Addr × Obj)} {pa ea : Addr} {p0 p1 a b c d last : Int} {t0 t1 ta tb tc td tl : Tok} {pn en : Nat} {res : List Du}
   (B : Below A₀ base outer h₀) (F : Fr h₀ L s.heap m) (X : (hd.heap_39 w.params).In h₀) (N : News h₀ L s.heap news) (T : Top p loose mean mg mb h₀)
   (hf : env.frame = some L) (hke : env.scope.kind = .function)
   (hp : (pa, listOf [Value.int p0 t0, Value.int p1 t1].toArray pn) ∈ news)
   (he : (ea, tupOf [Value.int a ta, Value.int b tb, Value.int c tc, Value.int d td] en) ∈ news)
   (hrun : dueRun p0 p1 a b c d last = some res)
   (ret : ∀ dl h' tk' ts adds k, Fr h₀ L h' m → News h₀ L h' (adds ++ news) → (∀ p ∈ adds, ∀ q ∈ news, p.1 ≠ q.1) → (dl, listOf (refsOf ts).toArray k) ∈ adds → (∀ x ∈ ts, DueAt (adds ++ news) x.1 x.2) → ts.map (·.2) = res → Q (.ref dl) { s with heap := h', toks := tk' }) :
   wpAny (model PySem.Challenge.rw_oy0044_01.row.prog w) (lev 350 500 env outer) (call (.ref 139) [.ref pa, .ref ea, .int last tl]) Q E s := by
  w_top off
  k_with_none
  (k_with "subscriptTail" => (k_here; (with_reducible show wpAny _ _ (subscriptTail _ _ (Value.ref _) (Value.int _ _)) _ _ _); (with_unfolding_all refine' kim_list ?k1 ?k2 ?k3 ?k4 ?k5 ?k6 ?k7 ?_ ?k8 ?k9; (case k1 => k_asm); (case k2 => k_mem); (case k3 => exact rfl); (case k4 => exact rfl); (case k5 => decide); (case k6 => decide); (case k7 => exact rfl); (case k8 => with_unfolding_all rfl); (case k9 => intro _; with_unfolding_all rfl); k_whole)))
  (k_with "subscriptTail" => (k_here; (with_reducible show wpAny _ _ (subscriptTail _ _ (Value.ref _) (Value.int _ _)) _ _ _); (with_unfolding_all refine' item_read ?k1 ?k2 ?k3 ?k4 ?k5 ?_ ?k8 ?k9; (case k1 => k_asm); (case k2 => k_mem); (case k3 => with_reducible assumption); (case k4 => with_reducible assumption); (case k5 => with_reducible assumption); (case k8 => with_unfolding_all rfl); (case k9 => intro _; with_unfolding_all rfl); k_whole)))
  (k_with "setItem ref int ref" => (k_here; (with_reducible show wpAny _ _ (setItem (Value.ref _) (Value.int _ _) (Value.ref _)) _ _ _); (refine' item_store ?k1 ?k2 ?k3 ?k4 ?k5 ?k6 ?_; (case k1 => k_asm); (case k2 => k_asm); (case k3 => with_reducible assumption); (case k4 => with_reducible assumption); (case k5 => first | with_reducible assumption | omega); (case k6 => first | with_reducible assumption | omega); k_whole); intro _ _ _; (try k_sweep)))
  (k_with "compareOp Lt ref ref" => (k_here; (with_reducible show wpAny _ _ (compareOp CmpOp.Lt (Value.ref _) (Value.ref _)) _ _ _); (refine' item_ltW ?k1 ?k2 ?k3 ?k4 ?k5 ?_; (case k1 => k_asm); (case k2 => with_reducible assumption); (case k3 => with_reducible assumption); (case k4 => with_reducible assumption); (case k5 => k_units); k_whole)))
  (k_with "call builtin:len" => (k_here; (with_reducible show wpAny _ _ (call (Value.builtin "len") [Value.ref _]) _ _ _); (with_unfolding_all refine' items_len ?k1 ?k2 ?k3 ?_; (case k1 => k_asm); (case k2 => k_mem); (case k3 => with_reducible assumption); k_whole)))
  (k_with "call builtin:list.append" => (k_here; (with_reducible show wpAny _ _ (call (Value.builtin _) [Value.ref _, Value.ref _]) _ _ _); (with_unfolding_all refine' items_append ?k1 ?k2 ?k3 ?k4 ?_; (case k1 => k_asm); (case k2 => k_asm); (case k3 => with_reducible assumption); (case k4 => with_reducible assumption); k_whole); intro _ _ _; (try k_sweep)))
  (k_with "binaryOp Add str str" => (k_here; (with_reducible show wpAny _ _ (binaryOp _ (Value.str (Str.mk (List.toArray _)) _) (Value.str (Str.ofString _) _)) _ _ _); (refine' lab_add ?k1 ?k2 ?k3 ?_; (case k1 => first | with_reducible exact lit_do | with_reducible exact lit_doo | with_reducible exact lit_dot); (case k2 => first | with_reducible assumption | omega); (case k3 => decide); k_whole); intro _ _))
  (k_with "compareOp NotEq ref ref" => (k_here; (with_reducible show wpAny _ _ (compareOp CmpOp.NotEq (Value.ref _) (Value.ref _)) _ _ _); (with_unfolding_all refine' same_ne ?k1 ?k2 ?k3 ?_; (case k1 => k_asm); (case k2 => k_mem); (case k3 => k_units); k_whole)))
  (k_with "call builtin:list.append" => refine Halt.go ?_)
  (k_with "call ref" => ((with_reducible show wpAny _ _ (call (Value.ref _) _) _ _ _); refine Halt.go ?_))
  (k_with "exec For Name Call cons nil" => refine Halt.go ?_)
  (k_with "pyIter ref" => ((with_reducible show wpAny _ _ (pyIter (Value.ref _)) _ _ _); refine Halt.go ?_))
  (k_with "call builtin:sorted" => refine Halt.go ?_)
  revert X; k_fill; intro X
  unfold dueRun at hrun
  split at hrun
  case isFalse => cases hrun
  rename_i hok
  simp only [Bool.and_eq_true, decide_eq_true_eq] at hok
  obtain ⟨⟨⟨⟨⟨⟨⟨⟨hp0, hp1⟩, ha⟩, hb⟩, hc⟩, hdd⟩, hlast⟩, hone⟩, hother⟩ := hok
  obtain ⟨p0l, p0u⟩ := okD_is hp0
  obtain ⟨p1l, p1u⟩ := okD_is hp1
  obtain ⟨al, au⟩ := okD_is ha
  obtain ⟨bl, bu⟩ := okD_is hb
  obtain ⟨cl, cu⟩ := okD_is hc
  obtain ⟨dl, du⟩ := okD_is hdd
  obtain ⟨ll, lu⟩ := okD_is hlast
  split at hrun
  · cases hrun
  rename_i acc hacc
  refine wpAny_call ?_
  k_dflt ((refine' code_def ?k1 ?k2 ?k3 ?k4 ?k5 ?kA ?kF ?kK ?k6 ?k7 ?k8 ?k9 ?kB ?_ ?c2 ?c3 ?c4 ?c5; (case kA => exact rfl); (case kF => assumption); (case kK => assumption); (case k1 => k_asm); (case k2 => k_asm); (case k3 => k_asm); (case k4 => k_asm); (case k5 => k_asm); (case k6 => k_is); (case k7 => k_is); (case k8 => k_room); (case k9 => exact BindsTo.of_eq rfl); (case c5 => decide); (case kB => exact locs rfl); (case c2 => exact rfl); (case c3 => exact rfl); (case c4 => exact rfl); k_whole; intro _ _ _ _ _ _ _ _ _; (try dsimp only); (try k_fold)))
  k_steps
  rename_i tkq dla hh1 lq hh2 F3 N3
  have lq1 : ∀ q ∈ news, q.1 < dla := ktn_ltOf lq.2
  have oneu : p0 * c + p1 * d ≤ 2000000 := by
    have i1 := Int.mul_le_mul p0u cu cl (by decide : (0 : Int) ≤ 1000)
    have i2 := Int.mul_le_mul p1u du dl (by decide : (0 : Int) ≤ 1000)
    omega
  have otheru : p0 * a + p1 * b ≤ 2000000 := by
    have i1 := Int.mul_le_mul p0u au al (by decide : (0 : Int) ≤ 1000)
    have i2 := Int.mul_le_mul p1u bu bl (by decide : (0 : Int) ≤ 1000)
    omega
  generalize p0 * c + p1 * d = one at *
  generalize p0 * a + p1 * b = other at *
  with_unfolding_all (have F4 := Fr.ex2 (fun to1 to2 y => if y = Str.ofString "due" then some (Value.ref dla) else if y = Str.ofString "one" then some (Value.int one to1) else if y = Str.ofString "other" then some (Value.int other to2) else if y = Str.ofString "d" then some (Value.int d td) else if y = Str.ofString "c" then some (Value.int c tc) else if y = Str.ofString "b" then some (Value.int b tb) else if y = Str.ofString "a" then some (Value.int a ta) else List.lookup y [(Str.ofString "last", Value.int last tl), (Str.ofString "ends", Value.ref ea), (Str.ofString "prices", Value.ref pa)]) F3)
  obtain ⟨to1, to2, F4⟩ := F4
  have N4 := News.sub (l' := (dla, listOf (refsOf ([] : List (Addr × Du))).toArray 0) :: news) N3 (by intro q hq; simp only [List.mem_cons] at hq ⊢; rcases hq with h | h <;> simp [h])
  clear F3 N3 lq
  unfold Halt
  with_unfolding_all refine' For_invVF F4 ?k1 ?k2 ?_
  case k1 => exact rfl
  case k2 => exact rfl
  k_steps
  unfold Halt
  rename IsRange _ _ _ _ _ _ _ _ => hR5
  rename Fr _ _ _ _ => F5
  rename News _ _ _ _ => N5
  have hfs := fdiv_small (a := last) hone (by omega) (by omega)
  refine tbr_invG (fun i m₁ nx => ∃ (xs : List (Addr × Du)) (adds : List (Addr × Obj)) (n : Nat), (∀ y, y ≠ Str.ofString "x" → y ≠ Str.ofString "y" → y ≠ Str.ofString "label" → m₁ y = if y = Str.ofString "due" then some (Value.ref dla) else if y = Str.ofString "one" then some (Value.int one to1) else if y = Str.ofString "other" then some (Value.int other to2) else if y = Str.ofString "d" then some (Value.int d td) else if y = Str.ofString "c" then some (Value.int c tc) else if y = Str.ofString "b" then some (Value.int b tb) else if y = Str.ofString "a" then some (Value.int a ta) else List.lookup y [(Str.ofString "last", Value.int last tl), (Str.ofString "ends", Value.ref ea), (Str.ofString "prices", Value.ref pa)])
      ∧ nx = (dla, listOf (refsOf xs).toArray n) :: (adds ++ news) ∧ (∀ q ∈ adds, q.1 ≠ dla ∧ ∀ r ∈ news, r.1 < q.1) ∧ (∀ z ∈ xs, DueAt (adds ++ news) z.1 z.2)
      ∧ dueX one other a b c d last ((last.fdiv one).toNat - i) (1 + (i : Int)) (xs.map (·.2)) = some acc) rfl hR5 (range_small (by omega) (by omega)) (n := (last.fdiv one).toNat) (range_n _) F5 N5 ?_ ?_ ?_
  · exact ⟨[], [], 0, fun y _ _ _ => rfl, rfl, (fun _ h => (nomatch h)), (fun _ h => (nomatch h)), hacc⟩
  · clear F5 N5 hR5
    rintro i k t m₁ nx h tk5 own hik hoff ⟨xs, adds, n, hm, rfl, hadds, hxs, hdx⟩ F₁ N₁
    have hin : i < (last.fdiv one).toNat := by
      rcases Nat.lt_or_ge i (last.fdiv one).toNat with h' | h'
      · exact h'
      · rw [List.getElem?_eq_none (by rw [rangeKs_length]; exact h')] at hik; cases hik
    have hk : k = 1 + (i : Int) := by
      have : (rangeKs 1 (last.fdiv one).toNat)[i]? = some (1 + (i : Int)) := by simp [rangeKs, hin]
      rw [this] at hik
      exact (Option.some.inj hik).symm
    have hle := fdiv_le hone ll (Int.le_refl last)
    have kl : 1 ≤ k := by omega
    have ku : k ≤ 1000 := by omega
    rw [← hk] at hdx
    obtain ⟨u, hu⟩ : ∃ u : Str → Option Value, u = (fun y => if y = Str.ofString "x" then some (Value.int k t) else m₁ y) := ⟨_, rfl⟩
    rw [← hu] at F₁
    have hux : u (Str.ofString "x") = some (Value.int k t) := by rw [hu]; rfl
    have hm' : ∀ y, y ≠ Str.ofString "x" → y ≠ Str.ofString "y" → y ≠ Str.ofString "label" → u y = if y = Str.ofString "due" then some (Value.ref dla) else if y = Str.ofString "one" then some (Value.int one to1) else if y = Str.ofString "other" then some (Value.int other to2) else if y = Str.ofString "d" then some (Value.int d td) else if y = Str.ofString "c" then some (Value.int c tc) else if y = Str.ofString "b" then some (Value.int b tb) else if y = Str.ofString "a" then some (Value.int a ta) else List.lookup y [(Str.ofString "last", Value.int last tl), (Str.ofString "ends", Value.ref ea), (Str.ofString "prices", Value.ref pa)] := by
      intro y e1 e2 e3
      rw [hu]
      simp only [if_neg e1]
      exact hm y e1 e2 e3
    have F₁ := Fr.as F₁ (map3 _ _ _ hm')
    rw [hux] at F₁
    clear hm hm' hu hux
    obtain ⟨R, hR⟩ : ∃ R, R = (adds ++ news) ++ own := ⟨_, rfl⟩
    have N₁ := News.sub (l' := (dla, listOf (refsOf xs).toArray n) :: R) N₁ (by rw [hR]; exact fun q hq => hq)
    have hRs : ∀ q ∈ adds ++ news, q ∈ R := fun q hq => by rw [hR]; exact List.mem_append.mpr (.inl hq)
    have hRo : ∀ q ∈ own, q ∈ R := fun q hq => by rw [hR]; exact List.mem_append.mpr (.inr hq)
    have hRd : ∀ q ∈ R, q.1 ≠ dla := by
      intro q hq
      rw [hR] at hq
      rcases List.mem_append.mp hq with hq | hq
      · rcases List.mem_append.mp hq with hq | hq
        · exact (hadds q hq).1
        · exact Nat.ne_of_lt (lq1 q hq)
      · exact hoff q hq _ (.head _)
    have h9 : (last.fdiv one).toNat - i = ((last.fdiv one).toNat - (i + 1)) + 1 := by omega
    rw [h9] at hdx
    unfold dueX at hdx
    split at hdx
    · cases hdx
    rename_i acc1 hacc1
    have hprod : one * k ≤ 2000000 * 1000 := Int.mul_le_mul oneu ku (by omega) (by decide)
    have hprod0 : 0 ≤ one * k := Int.mul_nonneg (by omega) (by omega)
    k_steps
    unfold Halt
    rename Fr _ _ _ _ => F6
    with_unfolding_all refine' For_invVF F6 ?k1 ?k2 ?_
    case k1 => exact rfl
    case k2 => exact rfl
    k_steps
    unfold Halt
    rename IsRange _ _ _ _ _ _ _ _ => hR7
    rename Fr _ _ _ _ => F7
    rename News _ _ _ _ => N7
    have hfs2 := fdiv_small (a := last - one * k) hother (by omega) (by omega)
    refine tbr_invG (fun j m₂ nx => ∃ (ys : List (Addr × Du)) (adds2 : List (Addr × Obj)) (n2 : Nat), (∀ y, y ≠ Str.ofString "y" → y ≠ Str.ofString "label" → m₂ y = if y = Str.ofString "x" then some (Value.int k t) else if y = Str.ofString "due" then some (Value.ref dla) else if y = Str.ofString "one" then some (Value.int one to1) else if y = Str.ofString "other" then some (Value.int other to2) else if y = Str.ofString "d" then some (Value.int d td) else if y = Str.ofString "c" then some (Value.int c tc) else if y = Str.ofString "b" then some (Value.int b tb) else if y = Str.ofString "a" then some (Value.int a ta) else List.lookup y [(Str.ofString "last", Value.int last tl), (Str.ofString "ends", Value.ref ea), (Str.ofString "prices", Value.ref pa)])
        ∧ nx = (dla, listOf (refsOf ys).toArray n2) :: (adds2 ++ R) ∧ (∀ q ∈ adds2, q.1 ≠ dla ∧ ∀ r ∈ R, r.1 < q.1) ∧ (∀ z ∈ ys, DueAt (adds2 ++ (adds ++ news)) z.1 z.2)
        ∧ dueY one other a b c d k (((last - one * k).fdiv other).toNat - j) (1 + (j : Int)) (ys.map (·.2)) = some acc1) rfl hR7 (range_small (by omega) (by omega)) (n := ((last - one * k).fdiv other).toNat) (range_n _) F7 N7 ?_ ?_ ?_
    · refine ⟨xs, [], n, ?_, rfl, (fun _ h => (nomatch h)), hxs, hacc1⟩
      intro y e2 e3
      simp only [if_neg e2, if_neg e3]
    · clear F7 N7 hR7
      rintro j ky ty m₂ nx h6 tk6 own2 hjk hoff2 ⟨ys, adds2, n2, hm2, rfl, hadds2, hys, hdy⟩ F₂ N₂
      have hjn : j < ((last - one * k).fdiv other).toNat := by
        rcases Nat.lt_or_ge j ((last - one * k).fdiv other).toNat with h' | h'
        · exact h'
        · rw [List.getElem?_eq_none (by rw [rangeKs_length]; exact h')] at hjk; cases hjk
      have hky : ky = 1 + (j : Int) := by
        have : (rangeKs 1 ((last - one * k).fdiv other).toNat)[j]? = some (1 + (j : Int)) := by simp [rangeKs, hjn]
        rw [this] at hjk
        exact (Option.some.inj hjk).symm
      have hle2 := fdiv_le hother ll (show last - one * k ≤ last by omega)
      have kyl : 1 ≤ ky := by omega
      have kyu : ky ≤ 1000 := by omega
      rw [← hky] at hdy
      obtain ⟨u, hu⟩ : ∃ u : Str → Option Value, u = (fun y => if y = Str.ofString "y" then some (Value.int ky ty) else m₂ y) := ⟨_, rfl⟩
      rw [← hu] at F₂
      have huy : u (Str.ofString "y") = some (Value.int ky ty) := by rw [hu]; rfl
      have hm' : ∀ y, y ≠ Str.ofString "y" → y ≠ Str.ofString "label" → u y = if y = Str.ofString "x" then some (Value.int k t) else if y = Str.ofString "due" then some (Value.ref dla) else if y = Str.ofString "one" then some (Value.int one to1) else if y = Str.ofString "other" then some (Value.int other to2) else if y = Str.ofString "d" then some (Value.int d td) else if y = Str.ofString "c" then some (Value.int c tc) else if y = Str.ofString "b" then some (Value.int b tb) else if y = Str.ofString "a" then some (Value.int a ta) else List.lookup y [(Str.ofString "last", Value.int last tl), (Str.ofString "ends", Value.ref ea), (Str.ofString "prices", Value.ref pa)] := by
        intro y e1 e2
        rw [hu]
        simp only [if_neg e1]
        exact hm2 y e1 e2
      have F₂ := Fr.as F₂ (map2 _ _ hm')
      rw [huy] at F₂
      clear hm2 hm' hu huy
      obtain ⟨R2, hR2⟩ : ∃ R2, R2 = (adds2 ++ R) ++ own2 := ⟨_, rfl⟩
      have N₂ := News.sub (l' := (dla, listOf (refsOf ys).toArray n2) :: R2) N₂ (by rw [hR2]; exact fun q hq => hq)
      have hR2s : ∀ q ∈ adds2 ++ R, q ∈ R2 := fun q hq => by rw [hR2]; exact List.mem_append.mpr (.inl hq)
      have hR2o : ∀ q ∈ own2, q ∈ R2 := fun q hq => by rw [hR2]; exact List.mem_append.mpr (.inr hq)
      have hR2d : ∀ q ∈ R2, q.1 ≠ dla := by
        intro q hq
        rw [hR2] at hq
        rcases List.mem_append.mp hq with hq | hq
        · rcases List.mem_append.mp hq with hq | hq
          · exact (hadds2 q hq).1
          · exact hRd q hq
        · exact hoff2 q hq _ (.head _)
      have h9b : ((last - one * k).fdiv other).toNat - j = (((last - one * k).fdiv other).toNat - (j + 1)) + 1 := by omega
      rw [h9b] at hdy
      unfold dueY at hdy
      split at hdy
      case isFalse => cases hdy
      rename_i hlen9
      rw [List.length_map] at hlen9
      have hlen10 : ys.length < 999 := by omega
      k_steps
      unfold Halt
      split at hdy
      · cases hdy
      · rename_i htr
        k_dflt (refine' wpAny_level ?l1 ?l2 ?l3 ?l4 ?l5 (turns_c ?k1 ?k2 ?k3 ?k4 ?k5 ?k6 ?k7 ?f0 ?_))
        case l3 => exact rfl
        case l1 => exact rfl
        case l4 => exact rfl
        case l2 => exact Nat.le_of_ble_eq_true rfl
        case l5 => exact Nat.le_of_ble_eq_true rfl
        case k1 => k_asm
        case k2 => k_asm
        case k3 => k_asm
        case k4 => k_asm
        case k5 => k_asm
        case k6 => exact rfl
        case k7 => exact rfl
        case f0 => exact htr
        intro t8 h8 tk8 rs F8 N8 hrs
        have hq : (rs != Str.ofString "") = false := by rw [hrs, lit_e]; exact bne_self_eq_false _
        dsimp only
        k_steps
        all_goals first
          | (rename (rs != _) = true => hbq; rw [hq] at hbq; exact absurd hbq (by decide))
          | skip
        refine ⟨_, _, _, _, (dla, listOf (refsOf ys).toArray n2) :: (adds2 ++ R), rfl, by assumption, by assumption, ?_, ?_, ?_, ?_⟩
        · intro q hq
          rcases List.mem_cons.mp hq with h | h
          · rw [h]; exact .head _
          · exact .tail _ (hR2s q h)
        · exact fun q hq => .tail _ (hR2o q hq)
        · exact hoff2
        · refine ⟨ys, adds2, n2, ?_, rfl, hadds2, hys, ?_⟩
          · intro y e1 e2
            simp only [if_neg e1, if_neg e2]
          · rw [show (1 : Int) + ((j + 1 : Nat) : Int) = ky + 1 by omega]; exact hdy
      · rename_i k0 l0 htr
        k_dflt (refine' wpAny_level ?l1 ?l2 ?l3 ?l4 ?l5 (turns_c ?k1 ?k2 ?k3 ?k4 ?k5 ?k6 ?k7 ?f0 ?_))
        case l3 => exact rfl
        case l1 => exact rfl
        case l4 => exact rfl
        case l2 => exact Nat.le_of_ble_eq_true rfl
        case l5 => exact Nat.le_of_ble_eq_true rfl
        case k1 => k_asm
        case k2 => k_asm
        case k3 => k_asm
        case k4 => k_asm
        case k5 => k_asm
        case k6 => exact rfl
        case k7 => exact rfl
        case f0 => exact htr
        intro t8 h8 tk8 rs F8 N8 hrs
        have hq : (rs != Str.ofString "") = true := by
          rw [hrs, lit_e]
          rw [bne_iff_ne]
          intro e
          have e2 := congrArg (fun z : Str => z.cps.toList) e
          simp at e2
        dsimp only
        k_steps
        all_goals first
          | (rename (rs != _) = false => hbq; rw [hq] at hbq; exact absurd hbq (by decide))
          | skip
        rename_i D9 h9 F9 N9 l9
        unfold Halt
        subst hrs
        obtain ⟨o9, ho9, N9⟩ := News.named N9
        have l9R : ∀ q ∈ R2, q.1 < D9 := ktn_ltOf l9.2
        have l9d := l9.1
        with_unfolding_all refine' items_append (xs := ys) (x := (D9, (⟨one * k + other * ky, a * ky + c * k, b * ky + d * k, k0 :: l0⟩ : Du))) ?F (News.swap N9) (rest := (D9, o9) :: R2) ?ne hlen10 ?_
        case F => k_asm
        case ne =>
          intro q hq
          rcases List.mem_cons.mp hq with h | h
          · rw [h]; exact Nat.ne_of_gt l9d
          · exact hR2d q h
        intro h10 F10 N10
        dsimp only
        k_steps
        have hd9 : ∀ l, DueAt ((D9, o9) :: l) D9 (⟨one * k + other * ky, a * ky + c * k, b * ky + d * k, k0 :: l0⟩ : Du) := fun l => ⟨_, _, _, _, _, by rw [ho9]; exact .head _⟩
        refine ⟨_, _, _, _, (dla, listOf (refsOf (ys ++ [(D9, (⟨one * k + other * ky, a * ky + c * k, b * ky + d * k, k0 :: l0⟩ : Du))])).toArray (n2 + 1)) :: (((D9, o9) :: adds2) ++ R), rfl, by assumption, N10, ?_, ?_, ?_, ?_⟩
        · intro q hq
          rcases List.mem_cons.mp hq with h | h
          · rw [h]; exact .head _
          · rcases List.mem_cons.mp h with h | h
            · rw [h]; exact .tail _ (.head _)
            · exact .tail _ (.tail _ (hR2s q h))
        · exact fun q hq => .tail _ (.tail _ (hR2o q hq))
        · intro q hq r hr
          rcases List.mem_cons.mp hr with h | h
          · rw [h]; exact hR2d q (hR2o q hq)
          · rcases List.mem_cons.mp h with h | h
            · rw [h]; exact Nat.ne_of_lt (l9R q (hR2o q hq))
            · exact hoff2 q hq r (.tail _ h)
        · refine ⟨ys ++ [(D9, (⟨one * k + other * ky, a * ky + c * k, b * ky + d * k, k0 :: l0⟩ : Du))], (D9, o9) :: adds2, n2 + 1, ?_, rfl, ?_, ?_, ?_⟩
          · intro y e1 e2
            simp only [if_neg e1, if_neg e2]
          · intro q hq
            rcases List.mem_cons.mp hq with h | h
            · rw [h]; exact ⟨Nat.ne_of_gt l9d, fun r hr => l9R r (hR2s r (List.mem_append.mpr (.inr hr)))⟩
            · exact hadds2 q h
          · intro z hz
            rcases List.mem_append.mp hz with hz | hz
            · exact (hys z hz).mono fun q hq => .tail _ hq
            · rw [List.mem_singleton.mp hz]; exact hd9 _
          · rw [show (1 : Int) + ((j + 1 : Nat) : Int) = ky + 1 by omega, List.map_append]; exact hdy
    · rintro m₂ nx h6 tk6 ⟨ys, adds2, n2, hm2, rfl, hadds2, hys, hdy⟩ F₂ N₂
      rw [Nat.sub_self] at hdy
      unfold dueY at hdy
      injection hdy with hdy
      k_steps
      refine ⟨_, _, _, _, (dla, listOf (refsOf ys).toArray n2) :: ((adds2 ++ adds) ++ news), rfl, F₂, N₂, ?_, ?_, ?_, ?_⟩
      · intro q hq
        rcases List.mem_cons.mp hq with h | h
        · rw [h]; exact .head _
        · rcases List.mem_append.mp h with h | h
          · rcases List.mem_append.mp h with h | h
            · exact .tail _ (List.mem_append.mpr (.inl h))
            · exact .tail _ (List.mem_append.mpr (.inr (hRs q (List.mem_append.mpr (.inl h)))))
          · exact .tail _ (List.mem_append.mpr (.inr (hRs q (List.mem_append.mpr (.inr h)))))
      · exact fun q hq => .tail _ (List.mem_append.mpr (.inr (hRo q hq)))
      · intro q hq r hr
        rcases List.mem_cons.mp hr with h | h
        · rw [h]; exact hRd q (hRo q hq)
        · rcases List.mem_append.mp h with h | h
          · rcases List.mem_append.mp h with h | h
            · exact Nat.ne_of_lt ((hadds2 r h).2 q (hRo q hq))
            · exact hoff q hq r (.tail _ (List.mem_append.mpr (.inl h)))
          · exact hoff q hq r (.tail _ (List.mem_append.mpr (.inr h)))
      · refine ⟨ys, adds2 ++ adds, n2, ?_, rfl, ?_, ?_, ?_⟩
        · intro y e1 e2 e3
          rw [hm2 y e2 e3, if_neg e1]
        · intro q hq
          rcases List.mem_append.mp hq with h | h
          · exact ⟨(hadds2 q h).1, fun r hr => (hadds2 q h).2 r (hRs r (List.mem_append.mpr (.inr hr)))⟩
          · exact hadds q h
        · intro z hz
          rw [List.append_assoc]; exact hys z hz
        · rw [show (1 : Int) + ((i + 1 : Nat) : Int) = k + 1 by omega, hdy]; exact hdx
  · rintro m₁ nx h tk5 ⟨xs, adds, n, hm, rfl, hadds, hxs, hdx⟩ F₁ N₁
    rw [Nat.sub_self] at hdx
    unfold dueX at hdx
    injection hdx with hdx
    have F₁ := Fr.as F₁ (map3 _ _ _ hm)
    clear hm
    k_steps
    unfold Halt
    with_unfolding_all refine' sorted_c (xs := xs) (ds' := res) ?F ?N (.head _) ?hi ?hr ?_
    case F => k_asm
    case N => k_asm
    case hi => exact fun z hz => (hxs z hz).mono fun q hq => .tail _ hq
    case hr => rw [hdx]; exact hrun
    intro D cc h7 xs' F7 N7 hlt7 hds7 hmem7
    dsimp only
    k_steps
    refine ret D _ _ xs' ((D, listOf (refsOf xs').toArray cc) :: (dla, listOf (refsOf xs).toArray n) :: adds) cc (by assumption) (by assumption) ?_ (.head _) ?_ hds7
    · intro q hq r hr
      rcases List.mem_cons.mp hq with h | hq
      · rw [h]; exact Nat.ne_of_gt (hlt7 r (.tail _ (List.mem_append.mpr (.inr hr))))
      · rcases List.mem_cons.mp hq with h | hq
        · rw [h]; exact Nat.ne_of_gt (lq1 r hr)
        · exact Nat.ne_of_gt ((hadds q hq).2 r hr)
    · exact fun z hz => (hxs z (hmem7 z hz)).mono fun q hq => .tail _ (.tail _ hq)

end
end
section
open PySem.SeqAt
abbrev tab1 (j : Nat) (led : Bool) : SetTable := { mask := 7, place := #[j], dummies := #[], finger := 0, led := led, moves := 0, plain := false }
theorem fresh_free (led : Bool) (h : Int) : ∃ j, (SetTable.fresh 0 0 led).freeSlot h = some (j, false) := by
  unfold SetTable.freeSlot
  unfold SetTable.probe
  show ∃ j, (match SetTable.probe.go (SetTable.fresh 0 0 led) (fun _ => h + 1) h (10 * SetTable.turns 7) ((SetTable.fresh 0 0 led).probeStart h) with | some (.empty j dummy) => some (dummy.getD j, dummy.isSome) | _ => none) = some (j, false)
  have e : (10 * SetTable.turns 7) = 219 + 1 := rfl
  rw [e]
  unfold SetTable.probe.go
  have hs : (SetTable.fresh 0 0 led).slot ((SetTable.fresh 0 0 led).probeStart h).j = .empty := rfl
  rw [hs]
  exact ⟨_, rfl⟩
section
variable {prog : Program} {w : World} {A : Around} {E : Value → Shared → Prop} {s : Shared}
theorem set_add1 {S : Addr} {x : Str} {t : Tok} {led : Bool} {Q : Bool → Shared → Prop}
    (ho : s.heap.get? S = some ⟨.type "set", none, .set #[] 0 (.fresh 0 0 led), #[]⟩)
    (h : ∀ j tk, Q true { s with heap := s.heap.update S (Obj.putSet #[((strKind prog w).hash x, .str x t)] (tab1 j led)), toks := tk }) :
    wpAny (model prog w) A (setAdd S (.str x t)) Q E s := by
  unfold setAdd
  refine wpAny_holding ?_
  refine wpAny_bind ((strKind prog w).pyHash (k := x) (strKind_is _ _ _ _) ?_)
  unfold setAddHashed
  refine wpAny_holding ?_
  unfold setAddHashedIn
  have hf : (SetTable.fresh 0 0 led).fits (#[] : Array (Int × Value)).size = true := rfl
  refine wpAny_bind (wpAny_setState_of ho rfl hf ?_)
  dsimp only
  rw [show byScan (.str x t) #[] = true from byScan_of (knd := strKind prog w) rfl (by decide) (fun e he => by cases he)]
  simp only [if_true]
  unfold setAddByScan
  refine wpAny_bind (wpAny_bind (wpAny_rule ?_))
  refine wpAny_bind (wpAny_setScan_of (knd := strKind prog w) (strKind_is _ _ _ _) ho rfl hf (fun e he => by cases he) ?_)
  obtain ⟨j, hj⟩ := fresh_free led ((strKind prog w).hash x)
  have hlay : layNew (SetTable.fresh 0 0 led) #[] ((strKind prog w).hash x) (.str x t) = (#[((strKind prog w).hash x, .str x t)], { mask := 7, place := #[j], dummies := #[], finger := 0, led := led, moves := 0, plain := true }, false, false) := by
    unfold layNew
    rw [hj]
    rfl
  dsimp only
  rw [show List.findIdx? (fun e : Int × Value => (strKind prog w).is x e.2) (#[] : Array (Int × Value)).toList = none from rfl]
  dsimp only
  rw [hlay]
  dsimp only
  refine wpAny_bind (wpAny_pure ?_)
  simp only [if_true]
  refine wpAny_bind ?_
  rw [hashByValue_scannable 8 (show Value.scannable (.str x t) = true from rfl)]
  refine wpAny_pure ?_
  simp only [plainKind, Bool.false_eq_true, if_false]
  refine wpAny_bind (wpAny_storeSet_of ho rfl ?_ (by rw [sizeLine_eq]; show 1 ≤ 16777216; decide))
  rw [show (!false && SetTable.tooFull { mask := 7, place := #[j], dummies := #[], finger := 0, led := led, moves := 0, plain := false }) = false from rfl]
  simp only [Bool.false_eq_true, if_false]
  exact wpAny_pure (wpAny_pure (h j _))
end
end
section
open PySem.SeqAt
theorem slot_setiter_next : Slot "set_iterator" "__next__" "set_iterator.__next__" :=
  .of (owner := "set_iterator") (n := "__next__") (by rw [typeLookup_type, builtinLookup_eq_fast]; kernel_rfl) (by decide +kernel) (by decide +kernel) (by decide +kernel)
    (by first | exact .inl (by decide +kernel) | exact .inr (by decide +kernel)) (by rw [isSubtype_type]; kernel_rfl)
theorem slot_setiter_iter : Slot "set_iterator" "__iter__" "set_iterator.__iter__" :=
  .of (owner := "set_iterator") (n := "__iter__") (by rw [typeLookup_type, builtinLookup_eq_fast]; kernel_rfl) (by decide +kernel) (by decide +kernel) (by decide +kernel)
    (by first | exact .inl (by decide +kernel) | exact .inr (by decide +kernel)) (by rw [isSubtype_type]; kernel_rfl)
theorem entry_setiter_next : entryFor table "set_iterator.__next__" = some Builtin.«set_iterator.__next__» := entryFor_of_fast (by kernel_rfl)
theorem entry_setiter_iter : entryFor table "set_iterator.__iter__" = some Builtin.«dict_keyiterator.__iter__» :=
  entryFor_alias (id' := "dict_keyiterator.__iter__") (by kernel_rfl) rfl (by decide +kernel) (by kernel_rfl)
theorem entry_set_iter : entryFor table "set.__iter__" = some Builtin.«frozenset.__iter__» :=
  entryFor_alias (id' := "frozenset.__iter__") (by kernel_rfl) rfl (by decide +kernel) (by kernel_rfl)
theorem args_setiter_next (a : Value) : argsOk "set_iterator.__next__" ⟨[a], []⟩ := by unfold argsOk; kernel_rfl
theorem args_setiter_iter (a : Value) : argsOk "set_iterator.__iter__" ⟨[a], []⟩ := by unfold argsOk; kernel_rfl
end
section
open PySem.SeqAt
abbrev set1 (h : Int) (x : Str) (t : Tok) (ep j : Nat) (led : Bool) : Obj := ⟨.type "set", none, .set #[(h, .str x t)] ep (tab1 j led), #[]⟩
abbrev setIt (S : Addr) (a b : Nat) (ep : Nat) : Obj := ⟨.type "set_iterator", none, .fields #[rawInt a, rawInt b, .ref S, rawInt 1, rawInt ep], #[]⟩
abbrev byText (w : World) : Bool := w.params.followText "set-order"
section
variable {prog : Program} {w : World} {A : Around} {E : Value → Shared → Prop} {s : Shared} {S I : Addr} {h : Int} {x : Str} {t : Tok} {ep j : Nat} {led : Bool}
theorem tab1_fits (j : Nat) (led : Bool) : (tab1 j led).fits (#[(h, Value.str x t)] : Array (Int × Value)).size = true := rfl
theorem set_state {Q : (Array (Int × Value) × Nat × SetTable) → Shared → Prop} (ho : s.heap.get? S = some (set1 h x t ep j led)) (hq : Q (#[(h, .str x t)], ep, tab1 j led) s) : wpAny (model prog w) A (setState S) Q E s :=
  wpAny_setState_of ho rfl rfl hq
theorem sets_text {Q : Bool → Shared → Prop} (hq : Q (byText w) s) : wpAny (model prog w) A setsByText Q E s := by
  unfold setsByText
  exact wpAny_bind (wpAny_askSetting (wpAny_pure hq))
theorem set_pyIter {Q : Value → Shared → Prop} (ho : s.heap.get? S = some (set1 h x t ep j led)) (hQ : Q (.ref s.heap.objs.size) { s with heap := s.heap.push (setIt S 0 0 ep) }) :
    wpAny (model prog w) A (pyIter (.ref S)) Q E s := by
  have hT : s.TypeIs (.ref S) "set" := ⟨_, ho, rfl⟩
  refine wpAny_pyIter_slot hT F.slot_set_iter (wpAny_call_entry F.slot_set_iter hT entry_set_iter ?_ (F.args_set_iter_1 _))
  unfold Builtin.«frozenset.__iter__» Builtin.Frozenset.slot0 slotArgs
  refine wpAny_bind (wpAny_pure ?_)
  dsimp only
  refine wpAny_bind ?_
  unfold Builtin.Frozenset.sizeOf setEntries
  refine wpAny_bind (wpAny_bind (set_state ho (wpAny_pure (wpAny_pure ?_))))
  dsimp only
  unfold setDrawn
  refine wpAny_bind (wpAny_bind (set_state ho (wpAny_bind (sets_text (wpAny_pure ?_)))))
  have hno : ∀ b : Bool, ¬ ((b && false) = true) := by intro b; cases b <;> decide
  refine wpAny_ite_split (fun hc => absurd hc (hno (!byText w))) (fun _ => ?_)
  refine wpAny_bind (wpAny_pure ?_)
  unfold setEpoch
  refine wpAny_bind (wpAny_bind (set_state ho (wpAny_pure ?_)))
  dsimp only
  exact wpAny_bind (wpAny_newObj_type (wpAny_pure ⟨_, rfl, "set_iterator", _, ⟨_, Heap.get?_push_size _ rfl, rfl⟩, slot_setiter_next.lookup, hQ⟩))

theorem below_0 (j : Nat) : SetTable.below #[j] 0 = 0 := by
  unfold SetTable.below
  show SetTable.below.go #[j] 0 1 0 1 = 0
  unfold SetTable.below.go
  simp [SetTable.below.go]
theorem below_1 (j : Nat) : SetTable.below #[j] (j + 1) = 1 := by
  unfold SetTable.below
  show SetTable.below.go #[j] (j + 1) 1 0 1 = 1
  unfold SetTable.below.go
  simp [SetTable.below.go]
theorem pick_1 {α : Type} (f : Nat → Nat) (e : α) : pickOrder f #[e] = #[e] := by
  unfold pickOrder
  show pickOrder.go f 1 0 [e] #[] = #[e]
  unfold pickOrder.go
  simp [Nat.mod_one, pickOrder.go]

theorem set_setNext {Q : Option (Value × Nat) → Shared → Prop} {slot given : Nat} {r : Option (Value × Nat)} (ho : s.heap.get? S = some (set1 h x t ep j (!byText w)))
    (hr : (if byText w = true then (if given = 0 then some (.str x t, slot) else none) else (match (#[(h, Value.str x t)] : Array (Int × Value))[SetTable.below #[j] slot]?, (#[j] : Array Nat)[SetTable.below #[j] slot]? with
      | some (_, x), some j => some (x, j + 1)
      | _, _ => none)) = r) (hq : Q r s) : wpAny (model prog w) A (setNext S slot given ep) Q E s := by
  subst hr
  unfold setNext
  refine wpAny_bind (set_state ho ?_)
  dsimp only
  refine wpAny_bind (sets_text ?_)
  cases hb : byText w with
  | true =>
    rw [hb] at hq
    simp only [if_true] at hq ⊢
    refine wpAny_ite_split (fun hc => absurd hc (by simp)) (fun _ => ?_)
    refine wpAny_bind ?_
    unfold setWalk
    refine wpAny_bind (set_state ho ?_)
    dsimp only
    refine wpAny_bind (sets_text ?_)
    rw [hb]
    simp only [if_true]
    refine wpAny_bind (wpAny_askSetting (wpAny_pure ?_))
    rw [pick_1]
    refine wpAny_pure ?_
    cases given with
    | zero => exact hq
    | succ g =>
      have : (#[(h, Value.str x t)] : Array (Int × Value))[g + 1]? = none := by simp
      rw [this]
      exact hq
  | false =>
    rw [hb] at hq
    simp only [Bool.false_eq_true, if_false] at hq ⊢
    refine wpAny_ite_split (fun hc => absurd hc (show ¬ (false = true) by decide)) (fun _ => ?_)
    refine wpAny_bind ?_
    show wpAny _ _ (if (!(!false) && !(#[(h, Value.str x t)] : Array (Int × Value)).isEmpty) = true then unsupported "set:maker-not-led" else pure ()) _ _ _
    refine wpAny_ite_split (fun hc => absurd hc (show ¬ (false = true) by decide)) (fun _ => ?_)
    refine wpAny_pure (wpAny_pure ?_)
    exact hq

theorem setIt_set {h' : Heap} {a b a' : Nat} (hI : h'.get? I = some (setIt S a b ep)) : (h'.update I (Obj.mapFields (·.setIfInBounds 0 (rawInt a')))).get? I = some (setIt S a' b ep) :=
  Heap.get?_update_self _ hI rfl
theorem set_next0 {Q : Option Value → Shared → Prop} (ho : s.heap.get? S = some (set1 h x t ep j (!byText w))) (hI : s.heap.get? I = some (setIt S 0 0 ep))
    (hQ : ∀ h', h'.get? I = some (setIt S (if byText w = true then 0 else j + 1) 1 ep) → Heap.SameBut I s.heap h' → Q (some (.str x t)) { s with heap := h' }) :
    wpAny (model prog w) A (pyNext (.ref I)) Q E s := by
  have hT : s.TypeIs (.ref I) "set_iterator" := ⟨_, hI, rfl⟩
  unfold pyNext
  refine wpAny_bind (wpAny_attempt (wpAny_callSpecial?_slot (name := Str.ofString "__next__") hT slot_setiter_next
    (wpAny_call_entry slot_setiter_next hT entry_setiter_next ?_ (args_setiter_next _))))
  unfold Builtin.«set_iterator.__next__» slotArgs
  refine wpAny_bind (wpAny_pure ?_)
  dsimp only
  refine wpAny_bind (wpAny_fieldsOf hI rfl ?_)
  dsimp only [rawInt]
  unfold setEntries
  refine wpAny_bind (wpAny_bind (set_state ho (wpAny_pure ?_)))
  refine wpAny_ite_split (fun hc => absurd hc (show ¬ (false = true) by decide)) (fun _ => ?_)
  refine wpAny_bind ?_
  show wpAny _ _ (setNext S 0 0 ep) _ _ _
  refine set_setNext (r := some (Value.str x t, if byText w = true then 0 else j + 1)) ho ?_ ?_
  · rw [below_0]
    cases byText w <;> rfl
  dsimp only
  refine wpAny_bind (wpAny_setField hI rfl (by simp) ?_)
  have hI1 : (s.heap.update I (Obj.mapFields (·.setIfInBounds 0 (rawInt ((if byText w = true then 0 else j + 1 : Nat) : Int))))).get? I = some (setIt S (if byText w = true then 0 else j + 1) 0 ep) := Heap.get?_update_self _ hI rfl
  refine wpAny_bind (wpAny_setField (s := { s with heap := s.heap.update I (Obj.mapFields (·.setIfInBounds 0 (rawInt ((if byText w = true then 0 else j + 1 : Nat) : Int)))) }) hI1 rfl (by simp) ?_)
  refine wpAny_pure ⟨_, rfl, wpAny_pure (hQ _ (Heap.get?_update_self _ hI1 rfl) ?_)⟩
  exact (Heap.SameBut.update ..).trans (Heap.SameBut.update ..)

theorem set_next1 {Q : Option Value → Shared → Prop} (hh : A.handled = none) (ho : s.heap.get? S = some (set1 h x t ep j (!byText w))) (hI : s.heap.get? I = some (setIt S (if byText w = true then 0 else j + 1) 1 ep))
    (hQ : ∀ h', Heap.ExtBut I s.heap h' → Q none { s with heap := h' }) :
    wpAny (model prog w) A (pyNext (.ref I)) Q E s := by
  have hT : s.TypeIs (.ref I) "set_iterator" := ⟨_, hI, rfl⟩
  unfold pyNext
  refine wpAny_bind (wpAny_attempt (wpAny_callSpecial?_slot (name := Str.ofString "__next__") hT slot_setiter_next
    (wpAny_call_entry slot_setiter_next hT entry_setiter_next ?_ (args_setiter_next _))))
  unfold Builtin.«set_iterator.__next__» slotArgs
  refine wpAny_bind (wpAny_pure ?_)
  dsimp only
  refine wpAny_bind (wpAny_fieldsOf hI rfl ?_)
  dsimp only [rawInt]
  unfold setEntries
  refine wpAny_bind (wpAny_bind (set_state ho (wpAny_pure ?_)))
  refine wpAny_ite_split (fun hc => absurd hc (show ¬ (false = true) by decide)) (fun _ => ?_)
  refine wpAny_bind ?_
  show wpAny _ _ (setNext S (if byText w = true then 0 else j + 1) 1 ep) _ _ _
  refine set_setNext (r := none) ho ?_ ?_
  · cases byText w with
    | true => rfl
    | false =>
      simp only [Bool.false_eq_true, if_false]
      rw [below_1]
      rfl
  dsimp only
  refine wpAny_bind (wpAny_setField hI rfl (by simp) ?_)
  refine wpAny_bind ?_
  simp only [newExc, newTuple]
  refine wpAny_bind (wpAny_newObj_type ?_ (by size_fits))
  refine wpAny_bind (m := firstArgMember _ _) (wpAny_of_eq (a := Value.none) (by first | rfl | (simp only [firstArgMember]; rfl)) ?_)
  refine wpAny_newObj_type ?_ (by size_fits)
  simp only [raiseNew]
  refine wpAny_bind (wpAny_handled ?_)
  rw [show A.in1.handled = none from hh]
  refine wpAny_bind (wpAny_pure (wpAny_throw ?_))
  refine wpAny_bind (wpAny_isInstance (T := "StopIteration") (b := true) ⟨_, Heap.get?_push_size _ rfl, rfl⟩ isSubtype_stop ?_)
  exact wpAny_pure (hQ _ (((Heap.SameBut.update ..).extBut.push _).push _))
end
end
section
open PySem.SeqAt
section
variable {prog : Program} {w : World} {A : Around} {E : Value → Shared → Prop} {s : Shared} {S I : Addr} {h : Int} {x : Str} {t : Tok} {ep j : Nat}
theorem walks_set1 (hh : A.handled = none) (I S : Addr) (hne : S ≠ I) (h : Int) (x : Str) (t : Tok) (ep j : Nat) :
    Walks prog w A I [I, S] [I] 1 (fun _ v => v = .str x t) (fun i hp => hp.get? I = some (setIt S (if i = 0 then 0 else if byText w = true then 0 else j + 1) i ep) ∧ hp.get? S = some (set1 h x t ep j (!byText w))) where
  sub := fun b hb => by simp at hb; simp [hb]
  frame := fun _ _ _ st hk => ⟨hk I (by simp) _ st.1, hk S (by simp) _ st.2⟩
  item := fun i s Q E hi st hQ => by
    obtain rfl : i = 0 := by omega
    refine set_next0 st.2 st.1 fun h' hI' hs' => ?_
    exact hQ _ h' s.toks rfl ⟨hI', (hs'.2 S hne).trans st.2⟩ fun b o hb e => (hs'.2 b (fun h => hb (by simp [h]))).trans e
  done := fun s Q E st hQ => set_next1 hh st.2 st.1 fun h' he' => hQ h' s.toks fun b o hb e => he' b o (fun h => hb (by simp [h])) e
  self := fun i s Q E st hQ => by
    have hT : s.TypeIs (.ref I) "set_iterator" := ⟨_, st.1, rfl⟩
    refine wpAny_pyIter_slot hT slot_setiter_iter (wpAny_call_entry slot_setiter_iter hT entry_setiter_iter ?_ (args_setiter_iter _))
    show wpAny _ _ (ret (.ref I)) _ _ s
    exact wpAny_pure ⟨_, rfl, "set_iterator", _, hT, slot_setiter_next.lookup, hQ⟩

/-- a turn's end -/
def SetPost (h₀ : Heap) (L : Addr) (own news : List (Addr × Obj)) (K : (Str → Option Value) → Prop) (s : Shared) (Q : Flow → Shared → Prop) (f : Flow) (s₂ : Shared) : Prop :=
  match f with
  | .ret v => Q (.ret v) s₂
  | .brk => Q .next s₂
  | _ => ∃ h' tk' m', s₂ = { s with heap := h', toks := tk' } ∧ Fr h₀ L h' m' ∧ News h₀ L h' (own ++ news) ∧ K m'
variable {env : Env} {h₀ : Heap} {y : Str} {body : List Stmt} {Q : Flow → Shared → Prop}
theorem iter_set1 {m₀ : Str → Option Value} {news : List (Addr × Obj)} (K : (Str → Option Value) → Prop) (hh : A.handled = none) (hm : (S, set1 h x t ep j (!byText w)) ∈ news)
    (F : Fr h₀ env.locals s.heap m₀) (N : News h₀ env.locals s.heap news)
    (turn : ∀ hp tk own, Fr h₀ env.locals hp (fun z => if z = y then some (.str x t) else m₀ z) → News h₀ env.locals hp (own ++ news) → (∀ q ∈ own, ∀ r ∈ news, r.1 = S ∨ q.1 ≠ r.1) →
      wpAny (model prog w) A (execs body env) (SetPost h₀ env.locals own news K s Q) E { s with heap := hp, toks := tk })
    (done : ∀ m₁ hp tk, K m₁ → Fr h₀ env.locals hp m₁ → News h₀ env.locals hp news → Q .next { s with heap := hp, toks := tk }) :
    wpAny (model prog w) A (pyIter (.ref S)) (fun it s₂ => LoopAtV prog w A h₀ env y body Q E it s₂) E s := by
  have ho := (N _ hm).1
  have hne : S ≠ s.heap.objs.size := Nat.ne_of_lt (Heap.lt_size ho)
  refine set_pyIter ho ?_
  have W := walks_set1 (prog := prog) (w := w) hh s.heap.objs.size S hne h x t ep j
  refine ⟨_, _, _, 1, _, _, m₀, news, fun i m₁ news₁ => news₁ = news ∧ (if i = 0 then m₁ = m₀ else K m₁), rfl, W, ?_, ?_, ?_, ⟨Heap.get?_push_size _ rfl, Heap.get?_push_of_some _ ho⟩, F.push _, (fun p hp => ⟨Heap.get?_push_of_some _ (N p hp).1, (N p hp).2⟩), ⟨rfl, rfl⟩, ?_, ?_⟩
  · intro hm'
    rcases List.mem_cons.mp hm' with e | hm'
    · exact absurd F.ns.lt (e ▸ Nat.lt_irrefl _)
    · exact absurd (List.mem_singleton.mp hm').symm (N _ hm).2.1
  · intro b hb
    rw [List.mem_singleton.mp hb]
    exact next_is_new F
  · intro p hp hI
    exact absurd (Heap.lt_size (N p hp).1) ((List.mem_singleton.mp hI) ▸ Nat.lt_irrefl _)
  · rintro i v m₁ news₁ s₁ own ⟨hp, tk', rfl⟩ hin rfl ⟨rfl, hJ⟩ hoff hown _ _ _ F₁ N₁
    obtain rfl : i = 0 := by omega
    simp only [if_true] at hJ
    subst hJ
    refine wpAny_mono (turn hp tk' own F₁ N₁ ?_) (fun f s₂ p => ?_) fun _ _ e => e
    · intro q hq r hr
      rcases List.mem_cons.mp (hown q hq) with e | e
      · exact .inr fun e2 => hoff r hr (by rw [← e2, e]; exact .head _)
      · by_cases e3 : r.1 = S
        · exact .inl e3
        · exact .inr fun e2 => e3 (e2.symm.trans (List.mem_singleton.mp e))
    have fin : (∃ h' tk' m', s₂ = { s with heap := h', toks := tk' } ∧ Fr h₀ env.locals h' m' ∧ News h₀ env.locals h' (own ++ news₁) ∧ K m') →
        LoopStepU h₀ env.locals [s.heap.objs.size] own (fun m₂ news₂ => news₂ = news₁ ∧ (if 0 + 1 = 0 then m₂ = m₁ else K m₂)) { s with heap := hp, toks := tk' } .next s₂ := by
      rintro ⟨h', tk2, m', e, F', N', hK⟩
      exact ⟨rfl, h', tk2, m', news₁, e, F', N', hoff, rfl, hK⟩
    cases f with
    | ret v => exact .ret p
    | brk => exact .brk p
    | next => exact .next (fin p)
    | cont => exact .cont (fin p)
  · rintro h' tk m' news' F' N' _ ⟨rfl, hJ⟩
    exact done m' h' tk hJ F' N'
end
end
section
open PySem.SeqAt
section
variable {prog : Program} {w : World} {A : Around} {E : Value → Shared → Prop} {s : Shared}
theorem new_set_led (a : Value) {Q₁ : Value → Shared → Prop}
    (h : Q₁ (.ref s.heap.objs.size) { s with heap := s.heap.push { cls := .type "set", dict := none, data := .set #[] 0 (.fresh 0 0 (!byText w)) } }) :
    codeAny (model prog w) A (.call (.builtin "set.__new__") ⟨[.type "set", a], []⟩) (wants Q₁ E) s := by
  refine codeAny_of_tree ?_
  show wpAny _ A.in1 (do checkBuiltinCall "set.__new__" ⟨[.type "set", a], []⟩; again (.builtin "set.__new__" ⟨[.type "set", a], []⟩)) _ _ s
  refine wpAny_bind (wpAny_of_eq (F.newCall_set_1 a) (wpAny_pure ⟨plainId_quiet F.plain_set_new _, codeAny_builtin F.entry_set_new ?_⟩))
  rw [Around.under_plainId F.plain_set_new _]
  unfold Builtin.«set.__new__» Builtin.Frozenset.newClass
  have hsub := sub_set_self
  obtain ⟨hp, g, d, tk, os⟩ := s
  dsimp only
  wp_walk
  refine wpAny_askSetting (wpAny_pure ?_)
  dsimp only
  simp only [newObj]
  refine wpAny_bind (wpAny_alloc (wpAny_pure ?_))
  exact wpAny_pure h

theorem set_loop1 {R : Result → Shared → Prop} {S I l : Addr} {x : Str} {t : Tok} {led : Bool} (hh : A.handled = none) (hSI : S ≠ I) (hlI : l ≠ I) (hlS : l ≠ S)
    (hit : s.heap.IsListIter I l 0) (hl : s.heap.IsList l #[.str x t]) (ho : s.heap.get? S = some ⟨.type "set", none, .set #[] 0 (.fresh 0 0 led), #[]⟩)
    (hR : ∀ h' tk j, h'.get? S = some (set1 ((strKind prog w).hash x) x t 1 j led) → (∀ b o, b ≠ S → b ≠ I → s.heap.get? b = some o → h'.get? b = some o) → R (.ok (.ret .none)) { s with heap := h', toks := tk }) :
    codeAny (model prog w) A (.builtin "set.update.loop" ⟨[.ref S, .ref I], []⟩) R s := by
  refine codeAny_builtin PyProof.Rows.F.entry_set_update_loop ?_
  rw [Around.under_plainId PyProof.Rows.F.plain_set_update_loop _]
  show wpAny _ A.in1 (pyNext (.ref I) >>= _) _ _ s
  refine wpAny_bind (wpAny_pyNext_list_item hit hl (x := .str x t) rfl fun h1 hit1 hs1 => ?_)
  show wpAny _ A.in1 (holding [Value.str x t] (setAdd S (.str x t)) >>= _) _ _ _
  have ho1 : h1.get? S = some ⟨.type "set", none, .set #[] 0 (.fresh 0 0 led), #[]⟩ := (hs1.2 S hSI).trans ho
  refine wpAny_bind (wpAny_holding (set_add1 (s := { s with heap := h1 }) ho1 fun j tk => ?_))
  have hs2 := Heap.SameBut.update h1 S (Obj.putSet #[((strKind prog w).hash x, .str x t)] (tab1 j led))
  have ho2 : (h1.update S (Obj.putSet #[((strKind prog w).hash x, .str x t)] (tab1 j led))).get? S = some (set1 ((strKind prog w).hash x) x t 1 j led) := Heap.get?_update_self _ ho1 rfl
  generalize h1.update S (Obj.putSet #[((strKind prog w).hash x, .str x t)] (tab1 j led)) = h2 at hs2 ho2
  refine wpAny_pure ⟨plainId_quiet PyProof.Rows.F.plain_set_update_loop _, codeAny_builtin PyProof.Rows.F.entry_set_update_loop ?_⟩
  rw [Around.under_plainId PyProof.Rows.F.plain_set_update_loop _]
  show wpAny _ A.in1 (pyNext (.ref I) >>= _) _ _ _
  have hl1 : h1.IsList l #[.str x t] := hl.extBut hs1.extBut hlI
  have hl2 : h2.IsList l #[.str x t] := hl1.extBut hs2.extBut hlS
  have hit2 : h2.IsListIter I l (0 + 1) := by
    obtain ⟨o, e1, e2⟩ := hit1
    exact ⟨o, (hs2.2 I (Ne.symm hSI)).trans e1, e2⟩
  refine wpAny_bind (wpAny_pyNext_list_end (s := { s with heap := h2, toks := tk }) hh hit2 hl2 rfl fun h3 he3 => ?_)
  refine wpAny_pure ?_
  refine hR h3 tk j (he3 S _ hSI ho2) fun b o hb1 hb2 e => he3 b o hb2 ((hs2.2 b hb1).trans ((hs1.2 b hb2).trans e))

set_option maxHeartbeats 16000000 in
theorem call_set_one {l : Addr} {x : Str} {t : Tok} {Q : Value → Shared → Prop} (hh : A.handled = none) (hl : s.heap.IsList l #[.str x t])
    (h : ∀ h' tk j, h'.get? s.heap.objs.size = some (set1 ((strKind prog w).hash x) x t 1 j (!byText w)) → (∀ b o, b < s.heap.objs.size → s.heap.get? b = some o → h'.get? b = some o) → Q (.ref s.heap.objs.size) { s with heap := h', toks := tk }) :
    wpAny (model prog w) A (call (.type "set") [.ref l]) Q E s := by
  obtain ⟨c, tl, hmro⟩ := F.called_set.mro
  have hmade := F.called_set.made
  have hsub := F.called_set.sub
  refine wpAny_call (codeAny_of_tree ?_)
  show wpAny _ _ (callAny (.type "set") _) _ _ _
  refine wpAny_pure ⟨Code.quiet_builtin _ (by decide +kernel), codeAny_builtin F.entry_type_call ?_⟩
  rw [Around.under_plain (weight_type_call_type "set" [.ref l] []) rfl]
  have h1 := F.called_set.notType
  have h2 := F.called_set.canCreate
  have hct := F.typeCall_set_1 (.ref l)
  repeat (any_goals (first | assumption | wp_step))
  refine codeAny_mono (new_set_led (.ref l) (E := E) (Q₁ := fun obj s₁ => obj = .ref s.heap.objs.size ∧ s₁ = { s with heap := s.heap.push { cls := .type "set", dict := none, data := .set #[] 0 (.fresh 0 0 (!byText w)) } }) ⟨rfl, rfl⟩) fun r s₁ hr => ?_
  cases r with
  | error e => exact hr
  | ok fl =>
    cases fl with
    | ret obj =>
      obtain ⟨rfl, rfl⟩ := hr
      have hS : (s.heap.push { cls := .type "set", dict := none, data := .set #[] 0 (.fresh 0 0 (!byText w)) }).get? s.heap.objs.size = some { cls := .type "set", dict := none, data := .set #[] 0 (.fresh 0 0 (!byText w)) } := Heap.get?_push_size _ rfl
      have hT : Shared.TypeIs { s with heap := s.heap.push { cls := .type "set", dict := none, data := .set #[] 0 (.fresh 0 0 (!byText w)) } } (.ref s.heap.objs.size) "set" := ⟨_, hS, rfl⟩
      have hli := F.called_set.init.lookup
      have hbi := F.called_set.init.bind (.ref s.heap.objs.size)
      repeat (any_goals (first | assumption | wp_step))
      refine codeAny_mono (codeAny_call_builtin (R := wants (fun r s₂ => r = .none ∧ ∃ h' tk j, s₂ = { s with heap := h', toks := tk } ∧
          h'.get? s.heap.objs.size = some (set1 ((strKind prog w).hash x) x t 1 j (!byText w)) ∧
          (∀ b o, b < s.heap.objs.size → s.heap.get? b = some o → h'.get? b = some o)) E) F.called_set.init.plain F.entry_set_init (check_set_init_1 hT ?_)) fun r₂ s₂ hr₂ => ?_
      · obtain ⟨ol, hol, hcl, nl, hdl⟩ := hl
        obtain ⟨ocls, odict, odata, oslots⟩ := ol
        simp only at hcl hdl
        subst hcl; subst hdl
        have hol' : (s.heap.push { cls := .type "set", dict := none, data := .set #[] 0 (.fresh 0 0 (!byText w)) }).get? l = some { cls := .type "list", dict := odict, data := .seq #[.str x t] nl, slots := oslots } := Heap.get?_push_of_some _ hol
        have hsls := F.sub_list_set
        have hslf := F.sub_list_frozenset
        have hne : (Value.type "list" == Value.type "dict") = false := by decide
        have hl1 : (s.heap.push { cls := .type "set", dict := none, data := .set #[] 0 (.fresh 0 0 (!byText w)) }).IsList l #[.str x t] := ⟨_, hol', rfl, nl, rfl⟩
        unfold Builtin.«set.__init__» noKeywords Builtin.Frozenset.updateFrom
        generalize hPI : pyIter = PI
        wp_walk
        subst hPI
        refine wpAny_pyIter_list hl1 ?_
        refine wpAny_bind (wpAny_runValue ?_)
        have hlS : l < s.heap.objs.size := Heap.lt_size hol
        have hh3 : A.in1.in1.in1.handled = none := by simp [hh]
        have hsz : (s.heap.push { cls := .type "set", dict := none, data := .set #[] 0 (.fresh 0 0 (!byText w)) }).objs.size = s.heap.objs.size + 1 := Heap.size_push ..
        refine set_loop1 (S := s.heap.objs.size) (I := (s.heap.push { cls := .type "set", dict := none, data := .set #[] 0 (.fresh 0 0 (!byText w)) }).objs.size) (l := l) (x := x) (t := t) (led := !byText w) ?_ ?_ ?_ ?_ ?_ ?_ ?_ ?_
        · simp [hh]
        · rw [hsz]; exact Nat.ne_of_lt (Nat.lt_succ_self _)
        · rw [hsz]; exact Nat.ne_of_lt (Nat.lt_succ_of_lt hlS)
        · exact Nat.ne_of_lt hlS
        · exact ⟨_, Heap.get?_push_size _ rfl, rfl, rfl⟩
        · exact hl1.push _
        · exact Heap.get?_push_of_some _ hS
        · intro h' tk j hj hk
          show wpAny _ _ _ _ _ _
          refine wpAny_pure ?_
          show wpAny _ _ (ret Value.none) _ _ _
          refine wpAny_pure ⟨rfl, h', tk, j, rfl, hj, fun b o hb e => ?_⟩
          refine hk b o (Nat.ne_of_lt hb) ?_ (Heap.get?_push_of_some _ (Heap.get?_push_of_some _ e))
          rw [hsz]; exact Nat.ne_of_lt (Nat.lt_succ_of_lt hb)
      · cases r₂ with
        | error e => exact hr₂
        | ok fl₂ =>
          cases fl₂ with
          | ret r =>
            obtain ⟨rfl, h', tk, j, rfl, hS', hk'⟩ := hr₂
            repeat (any_goals (first | assumption | wp_step))
            exact h _ _ _ hS' hk'
          | _ => exact hr₂.elim
    | _ => exact hr.elim

theorem newSet_one {h₀ : Heap} {L : Addr} {m : Str → Option Value} {news : List (Addr × Obj)} {l : Addr} {ln : Nat} {x : Str} {t : Tok} {Q : Value → Shared → Prop} (F : Fr h₀ L s.heap m) (N : News h₀ L s.heap news)
    (hh : A.handled = none) (hm : (l, listOf [Value.str x t].toArray ln) ∈ news)
    (h : ∀ S h' tk o, Fr h₀ L h' m → News h₀ L h' ((S, o) :: news) → (∀ q ∈ news, q.1 < S) → (∃ j, o = set1 ((strKind prog w).hash x) x t 1 j (!byText w)) → Q (.ref S) { s with heap := h', toks := tk }) :
    wpAny (model prog w) A (call (.type "set") [.ref l]) Q E s := by
  refine call_set_one hh ⟨_, (N _ hm).1, rfl, ln, rfl⟩ fun h' tk j hS hk => ?_
  obtain ⟨oL, _, _, hL, _⟩ := F.ns
  have hLlt : L < s.heap.objs.size := Heap.lt_size hL
  refine h _ h' tk _ ⟨F.ns.at' fun o' e => hk L o' hLlt e, fun b o' e => hk b o' (Heap.lt_size (F.keep b o' e)) (F.keep b o' e), F.above⟩ (fun p hp => ?_) (fun q hq => Heap.lt_size (N q hq).1) ⟨j, rfl⟩
  rcases List.mem_cons.mp hp with rfl | hp
  · refine ⟨hS, Nat.ne_of_gt hLlt, ?_⟩
    cases hq : h₀.get? s.heap.objs.size with
    | none => rfl
    | some o' => exact absurd (Heap.lt_size (F.keep _ _ hq)) (Nat.lt_irrefl _)
  · exact ⟨hk _ _ (Heap.lt_size (N p hp).1) (N p hp).1, (N p hp).2.1, (N p hp).2.2⟩
end
end
section
section
local macro_rules | `(tactic| walk_at "truthy ref") => `(tactic| (k_here; (with_reducible show wpAny _ _ (truthy (Value.ref _)) _ _ _); (with_unfolding_all refine' kgr_truthy ?k1 ?k2 ?k3 ?k4 ?k5 ?_; (case k1 => k_asm); (case k2 => k_mem); (case k3 => exact rfl); (case k4 => exact rfl); (case k5 => exact Nat.le_of_ble_eq_true rfl); k_whole)))
local macro_rules | `(tactic| walk_at "call type:set cons nil") => `(tactic| (k_here; (with_reducible show wpAny _ _ (call (Value.type "set") [Value.ref _]) _ _ _); (with_unfolding_all refine' newSet_one ?k1 ?k2 ?k3 ?k4 ?_; (case k1 => k_asm); (case k2 => k_asm); (case k3 => exact rfl); (case k4 => k_mem); k_whole); intro S' h' tk' o' F' N' l1 ho'; (try k_lt l1); (try k_sweep)))
local macro_rules | `(tactic| k_enter) => `(tactic| (refine' code_def ?k1 ?k2 ?k3 ?k4 ?k5 ?kA ?kF ?kK ?k6 ?k7 ?k8 ?k9 ?kB ?_ ?c2 ?c3 ?c4 ?c5; (case kA => exact rfl); (case kF => first | exact rfl | assumption); (case kK => first | exact rfl | assumption); (case k1 => k_asm); (case k2 => k_asm); (case k3 => k_asm); (case k4 => k_asm); (case k5 => k_asm); (case k6 => k_is); (case k7 => k_is); (case k8 => k_room); (case k9 => first | exact BindsTo.of_eq rfl | exact binds_K (by k_in) rfl (by k_is) rfl rfl rfl | fail "k_enter: no rule for these arguments"); (case c5 => decide); (case kB => exact locs rfl); (case c2 => exact rfl); (case c3 => exact rfl); (case c4 => exact rfl); k_whole; intro g' L' h' FG' F' N' B' X' T'; (try dsimp only); (try k_lift B'); (try k_fold)))

/-- what the reader's making leaves, beside the table of answers -/
def ReaderIn (w : World) (prog : Program) (l : List (Addr × Obj)) (rd D : Addr) (x : Str) : Prop :=
  ∃ dx S dl k1 k2 k3 tx j, (rd, instObj 107 dx) ∈ l ∧
    (dx, dictOf [⟨PyData.keyHash w.params (Str.ofString "_mods"), Value.str (Str.ofString "_mods") k1, Value.ref S⟩, ⟨PyData.keyHash w.params (Str.ofString "_dirs"), Value.str (Str.ofString "_dirs") k2, Value.ref dl⟩, ⟨PyData.keyHash w.params (Str.ofString "_ignore"), Value.str (Str.ofString "_ignore") k3, Value.ref D⟩] 3) ∈ l ∧
    (S, set1 ((strKind prog w).hash x) x tx 1 j (!byText w)) ∈ l ∧ (dl, listOf #[] 0) ∈ l
theorem ReaderIn.mono {w : World} {prog : Program} {l l' : List (Addr × Obj)} (hs : ∀ p ∈ l, p ∈ l') {rd D : Addr} {x : Str} (h : ReaderIn w prog l rd D x) : ReaderIn w prog l' rd D x := by
  obtain ⟨dx, S, dl, k1, k2, k3, tx, j, h1, h2, h3, h4⟩ := h
  exact ⟨dx, S, dl, k1, k2, k3, tx, j, hs _ h1, hs _ h2, hs _ h3, hs _ h4⟩

theorem reader_c {w : World} {p : Program} {loose : List Str} {mean : ExcName → Option Value} {mg mb : Str → Option Value} {env : Env} {outer : List Env} {A₀ : Around} {base h₀ : Heap} {L : Addr} {m : Str → Option Value} {s : Shared} {Q E : Value → Shared → Prop}
   {news : List (Addr × Obj)} {la : Addr} {l : List Nat} {tl : Tok} {ln : Nat}
   (B : Below A₀ base outer h₀) (F : Fr h₀ L s.heap m) (X : (hd.heap_39 w.params).In h₀) (N : News h₀ L s.heap news) (T : Top p loose mean mg mb h₀)
   (hf : env.frame = some L) (hke : env.scope.kind = .function)
   (hl : (la, listOf [Value.str (lab l) tl].toArray ln) ∈ news)
   (ret : ∀ rd D od adds h' tk' t, Fr h₀ L h' m → News h₀ L h' ((D, od) :: (adds ++ news)) → (∀ p ∈ adds, ∀ q ∈ news, p.1 ≠ q.1) → (∀ q ∈ adds ++ news, q.1 ≠ D) → ReaderIn w PySem.Challenge.rw_oy0044_01.row.prog adds rd D (lab l) →
      od.IsDictOf (strKind PySem.Challenge.rw_oy0044_01.row.prog w) [(Str.ofString "<string>", Value.int 1 t)] → (D == sysModules) = false → Q (.ref rd) { s with heap := h', toks := tk' }) :
   wpAny (model PySem.Challenge.rw_oy0044_01.row.prog w) (lev 350 500 env outer) (call (.ref 107) [.ref la]) Q E s := by
  w_top off
  k_with_none
  (k_with "subscriptTail" => (k_here; (with_reducible show wpAny _ _ (subscriptTail _ _ (Value.ref _) (Value.int _ _)) _ _ _); (with_unfolding_all refine' kim_list ?k1 ?k2 ?k3 ?k4 ?k5 ?k6 ?k7 ?_ ?k8 ?k9; (case k1 => k_asm); (case k2 => k_mem); (case k3 => exact rfl); (case k4 => exact rfl); (case k5 => decide); (case k6 => decide); (case k7 => exact rfl); (case k8 => with_unfolding_all rfl); (case k9 => intro _; with_unfolding_all rfl); k_whole)))
  (k_with "subscriptTail" => (k_here; (with_reducible show wpAny _ _ (subscriptTail _ _ (Value.ref _) (Value.int _ _)) _ _ _); (with_unfolding_all refine' item_read ?k1 ?k2 ?k3 ?k4 ?k5 ?_ ?k8 ?k9; (case k1 => k_asm); (case k2 => k_mem); (case k3 => with_reducible assumption); (case k4 => with_reducible assumption); (case k5 => with_reducible assumption); (case k8 => with_unfolding_all rfl); (case k9 => intro _; with_unfolding_all rfl); k_whole)))
  (k_with "setItem ref int ref" => (k_here; (with_reducible show wpAny _ _ (setItem (Value.ref _) (Value.int _ _) (Value.ref _)) _ _ _); (refine' item_store ?k1 ?k2 ?k3 ?k4 ?k5 ?k6 ?_; (case k1 => k_asm); (case k2 => k_asm); (case k3 => with_reducible assumption); (case k4 => with_reducible assumption); (case k5 => first | with_reducible assumption | omega); (case k6 => first | with_reducible assumption | omega); k_whole); intro _ _ _; (try k_sweep)))
  (k_with "compareOp Lt ref ref" => (k_here; (with_reducible show wpAny _ _ (compareOp CmpOp.Lt (Value.ref _) (Value.ref _)) _ _ _); (refine' item_ltW ?k1 ?k2 ?k3 ?k4 ?k5 ?_; (case k1 => k_asm); (case k2 => with_reducible assumption); (case k3 => with_reducible assumption); (case k4 => with_reducible assumption); (case k5 => k_units); k_whole)))
  (k_with "call builtin:len" => (k_here; (with_reducible show wpAny _ _ (call (Value.builtin "len") [Value.ref _]) _ _ _); (with_unfolding_all refine' items_len ?k1 ?k2 ?k3 ?_; (case k1 => k_asm); (case k2 => k_mem); (case k3 => with_reducible assumption); k_whole)))
  (k_with "call builtin:list.append" => (k_here; (with_reducible show wpAny _ _ (call (Value.builtin _) [Value.ref _, Value.ref _]) _ _ _); (with_unfolding_all refine' items_append ?k1 ?k2 ?k3 ?k4 ?_; (case k1 => k_asm); (case k2 => k_asm); (case k3 => with_reducible assumption); (case k4 => with_reducible assumption); k_whole); intro _ _ _; (try k_sweep)))
  (k_with "binaryOp Add str str" => (k_here; (with_reducible show wpAny _ _ (binaryOp _ (Value.str (Str.mk (List.toArray _)) _) (Value.str (Str.ofString _) _)) _ _ _); (refine' lab_add ?k1 ?k2 ?k3 ?_; (case k1 => first | with_reducible exact lit_do | with_reducible exact lit_doo | with_reducible exact lit_dot); (case k2 => first | with_reducible assumption | omega); (case k3 => decide); k_whole); intro _ _))
  (k_with "compareOp NotEq ref ref" => (k_here; (with_reducible show wpAny _ _ (compareOp CmpOp.NotEq (Value.ref _) (Value.ref _)) _ _ _); (with_unfolding_all refine' same_ne ?k1 ?k2 ?k3 ?_; (case k1 => k_asm); (case k2 => k_mem); (case k3 => k_units); k_whole)))
  revert X; k_fill; intro X
  k_steps
  · rename List.isEmpty _ = true => hbad
    cases hbad
  rename ∃ j, _ = set1 _ _ _ _ _ _ => hS
  rename Obj.IsDictOf _ _ _ => hD
  rename (_ == sysModules) = false => hlo
  rename _ < _ ∧ _ < _ ∧ _ < _ ∧ _ < _ ∧ AllLt _ _ => q4
  rename _ < _ ∧ _ < _ ∧ _ < _ ∧ AllLt _ _ => q3
  rename _ < _ ∧ _ < _ ∧ AllLt _ _ => q2
  rename ∀ q ∈ news, q.1 < _ => q1
  rename _ < _ => q0
  rename News _ _ _ _ => N9
  rename Fr _ _ _ _ => F9
  obtain ⟨j, rfl⟩ := hS
  have r4 := ktn_ltOf q4.2.2.2.2
  have r3 := ktn_ltOf q3.2.2.2
  have r2 := ktn_ltOf q2.2.2
  refine ret _ _ _ [_, _, _, _] _ _ _ F9 N9 ?_ ?_ ?_ hD hlo
  · intro q hq r hr
    simp only [List.mem_cons, List.not_mem_nil, or_false] at hq
    rcases hq with h | h | h | h
    · rw [h]; exact Nat.ne_of_gt (r3 r hr)
    · rw [h]; exact Nat.ne_of_gt (r2 r hr)
    · rw [h]; exact Nat.ne_of_gt (Nat.lt_trans (q1 r hr) q0)
    · rw [h]; exact Nat.ne_of_gt (q1 r hr)
  · intro q hq
    simp only [List.mem_append, List.mem_cons, List.not_mem_nil, or_false] at hq
    rcases hq with (h | h | h | h) | h
    · rw [h]; exact Nat.ne_of_lt q4.1
    · rw [h]; exact Nat.ne_of_lt q4.2.1
    · rw [h]; exact Nat.ne_of_lt q4.2.2.1
    · rw [h]; exact Nat.ne_of_lt q4.2.2.2.1
    · exact Nat.ne_of_lt (r4 q h)
  · exact ⟨_, _, _, _, _, _, _, _, .tail _ (.tail _ (.head _)), .tail _ (.tail _ (.tail _ (.head _))), .tail _ (.head _), .head _⟩

end
end
section
section

def namesR (l o : List Nat) : Bool := decide (o = l) || (l ++ [46]).isPrefixOf o
def namesV (l o : List Nat) : Int := if namesR l o = true then 1 else 0

theorem starts_lab (o p : List Nat) : Txt.startswith (lab o) (lab p) = p.isPrefixOf o := by
  have e1 : (lab o).length = o.length := by show (o.toArray).size = _; simp
  have e2 : (lab p).length = p.length := by show (p.toArray).size = _; simp
  unfold Txt.startswith
  rw [StrLaws.subAt_eq, e1, e2]
  show (decide (0 + p.length ≤ o.length) && ((o.toArray.toList.drop 0).take p.length == p.toArray.toList)) = p.isPrefixOf o
  rw [List.drop_zero]
  simp only [Nat.zero_add]
  rw [Bool.eq_iff_iff, Bool.and_eq_true, decide_eq_true_eq, beq_iff_eq, List.isPrefixOf_iff_prefix]
  constructor
  · rintro ⟨_, h⟩
    exact List.prefix_iff_eq_take.mpr h.symm
  · intro h
    exact ⟨h.length_le, (List.prefix_iff_eq_take.mp h).symm⟩
theorem lab_inj {a b : List Nat} (h : lab a = lab b) : a = b := by
  have := congrArg (fun z : Str => z.cps.toList) h
  simpa using this
theorem set1_setOf {prog : Program} {w : World} {hp : Heap} {S : Addr} {x : Str} {t : Tok} {ep j : Nat} {led : Bool} (h : hp.get? S = some (set1 ((strKind prog w).hash x) x t ep j led)) :
    hp.SetOf (strKind prog w) S (fun k => decide (k = x)) 1 := by
  refine ⟨_, _, _, _, h, ⟨rfl, rfl, rfl⟩, rfl, ?_, ?_, (by show 1 < 4096; decide), rfl, rfl⟩
  · intro e he
    rw [List.mem_singleton.mp he]
    exact ⟨⟨x, strKind_is _ _ _ _, rfl⟩, rfl⟩
  · intro k
    rw [decide_eq_true_eq]
    constructor
    · rintro rfl
      exact ⟨_, .head _, strKind_is _ _ _ _⟩
    · rintro ⟨e, he, hk⟩
      rw [List.mem_singleton.mp he] at hk
      exact (strKind prog w).inj _ _ _ hk (strKind_is _ _ x t)

theorem iter_nil {prog : Program} {w : World} {A : Around} {E : Value → Shared → Prop} {s : Shared} {env : Env} {h₀ : Heap} {y : Str} {body : List Stmt} {Q : Flow → Shared → Prop} {m₀ : Str → Option Value} {news : List (Addr × Obj)} {dl : Addr} {n : Nat}
    (hh : A.handled = none) (hm : (dl, listOf #[] n) ∈ news) (F : Fr h₀ env.locals s.heap m₀) (N : News h₀ env.locals s.heap news)
    (done : ∀ hp tk, Fr h₀ env.locals hp m₀ → News h₀ env.locals hp news → Q .next { s with heap := hp, toks := tk }) :
    wpAny (model prog w) A (pyIter (.ref dl)) (fun it s₂ => LoopAtV prog w A h₀ env y body Q E it s₂) E s := by
  have hl : s.heap.IsList dl #[] := ⟨_, (N _ hm).1, rfl, n, rfl⟩
  have hne : dl ≠ s.heap.objs.size := Nat.ne_of_lt (Heap.lt_size (N _ hm).1)
  refine wpAny_pyIter_list hl ?_
  have W := Walks.list (prog := prog) (w := w) hh s.heap.objs.size dl hne #[]
  refine ⟨_, _, _, 0, _, _, m₀, news, fun _ m₁ news₁ => news₁ = news ∧ m₁ = m₀, rfl, W, ?_, ?_, ?_, ⟨⟨_, Heap.get?_push_size _ rfl, rfl, rfl⟩, hl.at fun o e => Heap.get?_push_of_some _ e⟩, F.push _, (fun p hp => ⟨Heap.get?_push_of_some _ (N p hp).1, (N p hp).2⟩), ⟨rfl, rfl⟩, ?_, ?_⟩
  · intro hm'
    rcases List.mem_cons.mp hm' with e | hm'
    · exact absurd F.ns.lt (e ▸ Nat.lt_irrefl _)
    · exact absurd (List.mem_singleton.mp hm').symm (N _ hm).2.1
  · intro b hb
    rw [List.mem_singleton.mp hb]
    exact next_is_new F
  · intro p hp hI
    exact absurd (Heap.lt_size (N p hp).1) ((List.mem_singleton.mp hI) ▸ Nat.lt_irrefl _)
  · intro i v m₁ news₁ s₁ own _ hin
    exact absurd hin (Nat.not_lt_zero _)
  · rintro h' tk m' news' F' N' _ ⟨rfl, rfl⟩
    exact done h' tk F' N'

theorem names_c {w : World} {p : Program} {loose : List Str} {mean : ExcName → Option Value} {mg mb : Str → Option Value} {env : Env} {outer : List Env} {A₀ : Around} {base h₀ : Heap} {L : Addr} {m : Str → Option Value} {s : Shared} {Q E : Value → Shared → Prop}
   {rest : List (Addr × Obj)} {rd D : Addr} {od : Obj} {l o : List Nat} {tf to : Tok} {kvs : List (Str × Value)}
   (B : Below A₀ base outer h₀) (F : Fr h₀ L s.heap m) (X : (hd.heap_39 w.params).In h₀) (N : News h₀ L s.heap ((D, od) :: rest)) (T : Top p loose mean mg mb h₀)
   (hf : env.frame = some L) (hke : env.scope.kind = .function)
   (hR : ReaderIn w PySem.Challenge.rw_oy0044_01.row.prog rest rd D (lab l)) (hD : od.IsDictOf (strKind PySem.Challenge.rw_oy0044_01.row.prog w) kvs) (hlo : (D == sysModules) = false) (hne : ∀ q ∈ rest, q.1 ≠ D)
   (hin : valueAt kvs (lab o) = none) (hl : l.length < 900) (ho : o.length < 900) (hk : kvs.length < 1000)
   (ret : ∀ h' tk' od' t1 t2, Fr h₀ L h' m → News h₀ L h' ((D, od') :: rest) → od'.IsDictOf (strKind PySem.Challenge.rw_oy0044_01.row.prog w) (stored kvs (lab o) (.int (namesV l o) t1)) → Q (.int (namesV l o) t2) { s with heap := h', toks := tk' }) :
   wpAny (model PySem.Challenge.rw_oy0044_01.row.prog w) (lev 370 700 env outer) (call (.ref 104) [.ref rd, .str (Str.ofString "") tf, .str (lab o) to]) Q E s := by
  w_top off
  k_with_none
  (k_with "subscriptTail" => (k_here; (with_reducible show wpAny _ _ (subscriptTail _ _ (Value.ref _) (Value.int _ _)) _ _ _); (with_unfolding_all refine' kim_list ?k1 ?k2 ?k3 ?k4 ?k5 ?k6 ?k7 ?_ ?k8 ?k9; (case k1 => k_asm); (case k2 => k_mem); (case k3 => exact rfl); (case k4 => exact rfl); (case k5 => decide); (case k6 => decide); (case k7 => exact rfl); (case k8 => with_unfolding_all rfl); (case k9 => intro _; with_unfolding_all rfl); k_whole)))
  (k_with "subscriptTail" => (k_here; (with_reducible show wpAny _ _ (subscriptTail _ _ (Value.ref _) (Value.int _ _)) _ _ _); (with_unfolding_all refine' item_read ?k1 ?k2 ?k3 ?k4 ?k5 ?_ ?k8 ?k9; (case k1 => k_asm); (case k2 => k_mem); (case k3 => with_reducible assumption); (case k4 => with_reducible assumption); (case k5 => with_reducible assumption); (case k8 => with_unfolding_all rfl); (case k9 => intro _; with_unfolding_all rfl); k_whole)))
  (k_with "setItem ref int ref" => (k_here; (with_reducible show wpAny _ _ (setItem (Value.ref _) (Value.int _ _) (Value.ref _)) _ _ _); (refine' item_store ?k1 ?k2 ?k3 ?k4 ?k5 ?k6 ?_; (case k1 => k_asm); (case k2 => k_asm); (case k3 => with_reducible assumption); (case k4 => with_reducible assumption); (case k5 => first | with_reducible assumption | omega); (case k6 => first | with_reducible assumption | omega); k_whole); intro _ _ _; (try k_sweep)))
  (k_with "compareOp Lt ref ref" => (k_here; (with_reducible show wpAny _ _ (compareOp CmpOp.Lt (Value.ref _) (Value.ref _)) _ _ _); (refine' item_ltW ?k1 ?k2 ?k3 ?k4 ?k5 ?_; (case k1 => k_asm); (case k2 => with_reducible assumption); (case k3 => with_reducible assumption); (case k4 => with_reducible assumption); (case k5 => k_units); k_whole)))
  (k_with "call builtin:len" => (k_here; (with_reducible show wpAny _ _ (call (Value.builtin "len") [Value.ref _]) _ _ _); (with_unfolding_all refine' items_len ?k1 ?k2 ?k3 ?_; (case k1 => k_asm); (case k2 => k_mem); (case k3 => with_reducible assumption); k_whole)))
  (k_with "call builtin:list.append" => (k_here; (with_reducible show wpAny _ _ (call (Value.builtin _) [Value.ref _, Value.ref _]) _ _ _); (with_unfolding_all refine' items_append ?k1 ?k2 ?k3 ?k4 ?_; (case k1 => k_asm); (case k2 => k_asm); (case k3 => with_reducible assumption); (case k4 => with_reducible assumption); k_whole); intro _ _ _; (try k_sweep)))
  (k_with "binaryOp Add str str" => (k_here; (with_reducible show wpAny _ _ (binaryOp _ (Value.str (Str.mk (List.toArray _)) _) (Value.str (Str.ofString _) _)) _ _ _); (refine' lab_add ?k1 ?k2 ?k3 ?_; (case k1 => first | with_reducible exact lit_do | with_reducible exact lit_doo | with_reducible exact lit_dot); (case k2 => first | with_reducible assumption | omega); (case k3 => decide); k_whole); intro _ _))
  (k_with "compareOp NotEq ref ref" => (k_here; (with_reducible show wpAny _ _ (compareOp CmpOp.NotEq (Value.ref _) (Value.ref _)) _ _ _); (with_unfolding_all refine' same_ne ?k1 ?k2 ?k3 ?_; (case k1 => k_asm); (case k2 => k_mem); (case k3 => k_units); k_whole)))
  (k_with "compareOp In str ref" => refine Halt.go ?_)
  (k_with "exec For Name Attribute cons nil" => refine Halt.go ?_)
  (k_with "pyIter ref" => ((with_reducible show wpAny _ _ (pyIter (Value.ref _)) _ _ _); refine Halt.go ?_))
  (k_with "setItem ref str" => refine Halt.go ?_)
  revert X; k_fill; intro X
  obtain ⟨dx, S, dl, k1, k2, k3, tx, j, hm1, hm2, hm3, hm4⟩ := hR
  refine wpAny_call ?_
  k_dflt ((refine' code_def ?k1 ?k2 ?k3 ?k4 ?k5 ?kA ?kF ?kK ?k6 ?k7 ?k8 ?k9 ?kB ?_ ?c2 ?c3 ?c4 ?c5; (case kA => exact rfl); (case kF => assumption); (case kK => assumption); (case k1 => k_asm); (case k2 => k_asm); (case k3 => k_asm); (case k4 => k_asm); (case k5 => k_asm); (case k6 => k_is); (case k7 => k_is); (case k8 => k_room); (case k9 => exact BindsTo.of_eq rfl); (case c5 => decide); (case kB => exact locs rfl); (case c2 => exact rfl); (case c3 => exact rfl); (case c4 => exact rfl); k_whole; intro _ _ _ _ _ _ _ _ _; (try dsimp only); (try k_fold)))
  k_steps
  unfold Halt
  refine kda_in (knd := strKind _ _) (b := false) (by k_asm) (.head _) hD hlo (strKind_is _ _ _ _) (by rw [hin]; rfl) ?_
  dsimp only
  k_steps
  unfold Halt
  rename News _ _ _ _ => N2
  refine wpAny_inSet_of (knd := strKind _ _) (strKind_is _ _ _ _) rfl (set1_setOf (N2 _ (.tail _ hm3)).1) ?_
  by_cases hol : o = l
  · rw [show decide (lab o = lab l) = true by rw [hol]; exact decide_eq_true rfl]
    have hv : namesV l o = 1 := by unfold namesV namesR; rw [decide_eq_true hol]; rfl
    rw [hv] at ret
    k_steps
    unfold Halt
    refine kda_set (knd := strKind _ _) (g := fun o' => (D, o') :: rest) (k := lab o) (by k_asm) (by k_asm) (UpdF.head hne) hD (strKind_is _ _ _ _) (by rw [sizeLine_eq]; omega) ?_
    intro h9 od9 F9 N9 hD9
    dsimp only
    k_steps
    exact ret _ _ _ _ _ (by assumption) (by assumption) hD9
  · rw [show decide (lab o = lab l) = false from decide_eq_false fun e => hol (lab_inj e)]
    k_steps
    unfold Halt
    rename Fr _ _ _ _ => F3
    with_unfolding_all refine' For_invVF F3 ?k1 ?k2 ?_
    case k1 => exact rfl
    case k2 => exact rfl
    k_steps
    unfold Halt
    rename Fr _ _ _ _ => F4
    rename News _ _ _ _ => N4
    have F5 := Fr.as F4 (m' := fun y => List.lookup y [(Str.ofString "modulename", Value.str (lab o) to), (Str.ofString "filename", Value.str (Str.ofString "") tf), (Str.ofString "self", Value.ref rd)]) (by with_unfolding_all rfl)
    refine iter_set1 (fun m' => (l ++ [46]).isPrefixOf o = false ∧ ∀ y, y ≠ Str.ofString "mod" → m' y = List.lookup y [(Str.ofString "modulename", Value.str (lab o) to), (Str.ofString "filename", Value.str (Str.ofString "") tf), (Str.ofString "self", Value.ref rd)]) rfl (.tail _ hm3) F5 N4 ?_ ?_
    · clear F5 F4 N4
      intro hp tk own F6 N6 hoff6
      have hl' : l.length < 1000 := by omega
      by_cases hpre : (l ++ [46]).isPrefixOf o = true
      · have hst : Txt.startswith (lab o) (lab (l ++ [46])) = true := by rw [starts_lab]; exact hpre
        have hv : namesV l o = 1 := by unfold namesV namesR; rw [hpre, Bool.or_true]; rfl
        rw [hv] at ret
        have N6 := News.sub (l' := (D, od) :: rest) N6 fun q hq => List.mem_append.mpr (.inr hq)
        k_steps
        all_goals first
          | (rename Txt.startswith _ _ = false => hbq; rw [hst] at hbq; exact absurd hbq (by decide))
          | skip
        unfold Halt
        refine kda_set (knd := strKind _ _) (g := fun o' => (D, o') :: rest) (k := lab o) (by k_asm) (by k_asm) (UpdF.head hne) hD (strKind_is _ _ _ _) (by rw [sizeLine_eq]; omega) ?_
        intro h9 od9 F9 N9 hD9
        dsimp only
        k_steps
        dsimp only [SetPost]
        k_steps
        exact ret _ _ _ _ _ (by assumption) (by assumption) hD9
      · have hst : Txt.startswith (lab o) (lab (l ++ [46])) = false := by rw [starts_lab]; exact Bool.eq_false_iff.mpr hpre
        have hv : namesV l o = 0 := by unfold namesV namesR; rw [decide_eq_false hol, Bool.eq_false_iff.mpr hpre]; rfl
        k_steps
        all_goals first
          | (rename Txt.startswith _ _ = true => hbq; rw [hst] at hbq; exact absurd hbq (by decide))
          | skip
        refine ⟨_, _, _, rfl, by assumption, by assumption, Bool.eq_false_iff.mpr hpre, fun y e => ?_⟩
        simp only [if_neg e]
    · clear F5 F4 N4
      rintro m₁ hp tk ⟨hpre, hK⟩ F6 N6
      have F6 := Fr.as F6 (map1 _ hK)
      clear hK
      have hv : namesV l o = 0 := by unfold namesV namesR; rw [decide_eq_false hol, hpre]; rfl
      rw [hv] at ret
      k_steps
      unfold Halt
      rename Fr _ _ _ _ => F7
      with_unfolding_all refine' For_invVF F7 ?k1 ?k2 ?_
      case k1 => exact rfl
      case k2 => exact rfl
      k_steps
      unfold Halt
      rename Fr _ _ _ _ => F8
      rename News _ _ _ _ => N8
      refine iter_nil rfl (.tail _ hm4) F8 N8 ?_
      intro hp9 tk9 F10 N10
      k_steps
      unfold Halt
      refine kda_set (knd := strKind _ _) (g := fun o' => (D, o') :: rest) (k := lab o) (by k_asm) (by k_asm) (UpdF.head hne) hD (strKind_is _ _ _ _) (by rw [sizeLine_eq]; omega) ?_
      intro h9 od9 F9 N9 hD9
      dsimp only
      k_steps
      exact ret _ _ _ _ _ (by assumption) (by assumption) hD9

end
end
section
def lawDef : Stmt := (PySem.Challenge.pw_oy0044_01.main.body.getLast?).getD (Stmt.Pass default)
def bodyOf : Stmt → List Stmt
  | .FunctionDef _ _ b _ _ _ _ _ _ _ => b
  | .For _ _ b _ _ => b
  | _ => []
def scopeOf : Stmt → Scope
  | .FunctionDef _ _ _ _ _ _ s _ _ _ => s
  | _ => default
def lawBody : List Stmt := bodyOf lawDef
def lawScope : Scope := scopeOf lawDef
def turnBody : List Stmt := bodyOf (lawBody[7]?.getD lawDef)
abbrev lawEnv (L fa : Addr) (cd : Value) : Env := envOfC (Str.ofString "law") lawScope L fa cd
end
section
section
variable {prog : Program} {w : World} {A : Around} {E : Value → Shared → Prop} {s : Shared} {cenv : Env}
theorem assign_names (hp : (cenv.scope.kind == .class || (cenv.scope.kind == .module && cenv.locals != cenv.globals)) = false) :
    ∀ (xs : List (Str × Pos)) (vs : List Value) (m : Str → Option Value) (h : Heap) (tk : Nat) (Q : Unit → Shared → Prop), xs.length = vs.length → (∀ x ∈ xs, cenv.kindOf x.1 = some .local) → (xs.map (·.1)).Nodup → h.Ns cenv.locals m →
      (∀ h₃ tk₃ m₃, h₃.Ns cenv.locals m₃ → Heap.SameBut cenv.locals h h₃ → (∀ p ∈ (xs.map (·.1)).zip vs, m₃ p.1 = some p.2) → (∀ y, y ∉ xs.map (·.1) → m₃ y = m y) → Q () { s with heap := h₃, toks := tk₃ }) →
      wpAny (model prog w) A (assignInOrder ((assignEach (xs.map fun x => PySem.Expr.Name x.1 x.2) cenv).map (·.2)) vs) Q E { s with heap := h, toks := tk }
  | [], [], m, h, tk, Q, _, _, _, hn, k => by
    exact assignInOrder_nil (k h tk m hn (Heap.SameBut.refl _ _) (fun _ hp => nomatch hp) fun _ _ => rfl)
  | [], _ :: _, _, _, _, _, e, _, _, _, _ => by cases e
  | _ :: _, [], _, _, _, _, e, _, _, _, _ => by cases e
  | x :: xs, v :: vs, m, h, tk, Q, e, hl, hd, hn, k => by
    refine assignInOrder_cons (wpAny_assign_Name (wpAny_storeName_local (hl x (.head _)) hn (fun h₆ hn₆ hs₆ => ?_) hp))
    have hd' := List.nodup_cons.mp hd
    refine assign_names hp xs vs _ h₆ _ Q (by simpa using e) (fun y hy => hl y (.tail _ hy)) hd'.2 hn₆ fun h₃ tk₃ m₃ hn₃ hs₃ hz ho => ?_
    refine k h₃ tk₃ m₃ hn₃ (hs₆.trans hs₃) ?_ ?_
    · intro p hp
      rcases List.mem_cons.mp hp with rfl | hp
      · rw [ho x.1 hd'.1]; exact if_pos rfl
      · exact hz p hp
    · intro y hy
      rw [List.map_cons, List.mem_cons, not_or] at hy
      rw [ho y hy.2]; exact if_neg hy.1
end
end
section
open PySem.Spec PySem.Calls PyProof.Rows.LCg PyProof.Rows.LCp
section
variable {prog : Program} {w : World} {A : Around} {E : Value → Shared → Prop} {s : Shared} {h₀ : Heap} {L : Addr} {m : Str → Option Value} {env : Env}

/-- the end of a comprehension's turn: its element's value, the ledger behind it -/
def CEnd (h₀ : Heap) (L : Addr) (m : Str → Option Value) (s : Shared) (I : Addr) (oI : Obj) (C : Addr) (oC : Obj) (D : Addr) (oD : Obj) (J : Value → List (Addr × Obj) → Prop) (y : Value) (s₂ : Shared) : Prop :=
  ∃ h' tk news', s₂ = { s with heap := h', toks := tk } ∧ Fr h₀ L h' m ∧ News h₀ L h' ((I, oI) :: (C, oC) :: (D, oD) :: news') ∧ Off3 I C D news' ∧ J y news'

theorem each_len (env : Env) : ∀ xs : List (Str × Pos), (assignEach (xs.map fun x => PySem.Expr.Name x.1 x.2) env).length = xs.length
  | [] => rfl
  | x :: xs => congrArg (· + 1) (each_len env xs)
theorem each_star (env : Env) : ∀ xs : List (Str × Pos), (assignEach (xs.map fun x => PySem.Expr.Name x.1 x.2) env).findIdx? (·.1) = none
  | [] => rfl
  | x :: xs => by
    show List.findIdx? (·.1) ((false, assign (PySem.Expr.Name x.1 x.2) env) :: assignEach (xs.map fun x => PySem.Expr.Name x.1 x.2) env) = none
    rw [List.findIdx?_cons, each_star env xs]
    rfl
theorem compN_block {elt iter : PySem.Expr} {xs : List (Str × Pos)} {tp : Pos} {x1} {scope : Scope} {cl : List (Str × Addr)} {pos : Pos} {s₂ : Shared} {I ax : Addr} {its : Array Value} {news : List (Addr × Obj)}
    {RR : Value → Addr → Result → Shared → Prop} (J : Nat → List Value → List (Addr × Obj) → Prop)
    (hax : ax ≠ I) (hsz : its.size ≤ sizeLine) (hcell : ∀ y ∈ scope.names, y.2 ≠ .cell) (hkind : scope.kind = .function) (hx : ∀ x ∈ xs, scope.names.lookup x.1 = some .local) (hnd : (xs.map (·.1)).Nodup) (hh : A.handled = none)
    (hst : s₂.heap.IsListIter I ax 0) (hIlt : I < s₂.heap.objs.size)
    (F : Fr h₀ L s₂.heap m) (N : News h₀ L s₂.heap news) (hIL : L ≠ I) (hI₀ : h₀.get? I = none) (off : ∀ p ∈ news, p.1 ≠ I) (hJ0 : J 0 [] news)
    (src : ∀ i ys nw, J i ys nw → ∃ k, (ax, listOf its k) ∈ nw)
    (turn : ∀ i v ys nw, its[i]? = some v → J i ys nw → ∃ (t : Addr) (vs : List Value) (nt : Nat), v = .ref t ∧ (t, tupOf vs nt) ∈ nw ∧ xs.length = vs.length ∧
      ∀ I oI C oC D m₂ h tk (E' : Value → Shared → Prop), NsObj oC m₂ → (∀ p ∈ (xs.map (·.1)).zip vs, m₂ p.1 = some p.2) → Fr h₀ L h m → News h₀ L h ((I, oI) :: (C, oC) :: (D, lst ys) :: nw) → Off3 I C D nw →
      wpAny (model prog w) A (eval elt (compEnvC scope cl C env)) (CEnd h₀ L m { s₂ with heap := h, toks := tk } I oI C oC D (lst ys) (fun y nw' => J (i + 1) (ys ++ [y]) nw')) E' { s₂ with heap := h, toks := tk })
    (hRR : ∀ D C h tk m' ys nw, Fr h₀ L h m → News h₀ L h ((D, lst ys) :: nw) → (∀ p ∈ nw, p.1 ≠ D) → h.Ns C m' → h₀.get? C = none → h₀.get? D = none → C ≠ L → D ≠ L → C ≠ D → (∀ p ∈ nw, p.1 ≠ C) → J its.size ys nw → RR (.ref D) C (.ok .next) { s₂ with heap := h, toks := tk }) :
    wpAny (model prog w) A (newList []) (fun acc s₃ => wpAny (model prog w) A (newFunctionEnv scope env.globals cl [] env.qual none .none (some env)) (fun cenv s₄ =>
      codeAny (model prog w) A (.compStart (.ListComp elt [⟨.Tuple (xs.map fun x => PySem.Expr.Name x.1 x.2) x1 tp, iter, [], 0⟩] scope pos) 0 (.ref I) acc { cenv with scope := relabel scope env }) (RR acc cenv.locals) s₄) E s₃) E s₂ := by
  refine wpAny_newObj_type (wpAny_newFunctionEnv hcell (by intro y hy; simp at hy) (fun h₁ hns₁ hsb₁ => ?_) hkind)
  dsimp only at hns₁ hsb₁ ⊢
  generalize hH2 : s₂.heap.push { cls := .type "list", dict := none, data := .seq ([] : List Value).toArray } = H2 at hns₁ hsb₁ ⊢
  have hC : H2.objs.size = s₂.heap.objs.size + 1 := by rw [← hH2, Heap.size_push]
  generalize hD : s₂.heap.objs.size = D at *
  generalize hCC : H2.objs.size = C at *
  have hDC : D ≠ C := by rw [hC]; exact Nat.ne_of_lt (Nat.lt_succ_self _)
  have below : ∀ b, b < D → b ≠ C ∧ b ≠ D := fun b hb => ⟨by rw [hC]; exact Nat.ne_of_lt (Nat.lt_succ_of_lt hb), Nat.ne_of_lt hb⟩
  have lts : ∀ {b o}, s₂.heap.get? b = some o → b < D := fun e => hD ▸ Heap.lt_size e
  have old : ∀ b o, s₂.heap.get? b = some o → h₁.get? b = some o := fun b o e => hsb₁.extBut b o (below b (lts e)).1 (Heap.get?_push_of_some _ (hH2 ▸ Heap.get?_push_of_some _ e))
  have hacc : h₁.get? D = some (lst []) := hsb₁.extBut _ _ hDC (Heap.get?_push_of_some _ (hH2 ▸ hD ▸ Heap.get?_push_size _ rfl))
  have fresh₀ : ∀ a, D ≤ a → h₀.get? a = none := fun a ha => by
    cases e : h₀.get? a with
    | none => rfl
    | some o' => exact absurd (lts (F.keep a o' e)) (Nat.not_lt.mpr ha)
  have hD₀ : h₀.get? D = none := fresh₀ _ (Nat.le_refl _)
  have hC₀ : h₀.get? C = none := fresh₀ _ (by rw [hC]; exact Nat.le_succ _)
  have hLlt : L < D := hD ▸ F.ns.lt
  have hDL : D ≠ L := Ne.symm (below L hLlt).2
  have hCL : C ≠ L := Ne.symm (below L hLlt).1
  have hCI : I ≠ C := (below I hIlt).1
  have hDI : I ≠ D := (below I hIlt).2
  have off₀ : Off3 I C D news := Off3.of fun p hp => ⟨off p hp, (below _ (lts (N p hp).1)).1, (below _ (lts (N p hp).1)).2⟩
  have loop : ∀ s₃ : Shared, s₃ = { s₂ with heap := h₁, toks := s₂.toks + ([] : List (Str × Value)).length } →
      codeAny (model prog w) A (.compLoop (.ListComp elt [⟨.Tuple (xs.map fun x => PySem.Expr.Name x.1 x.2) x1 tp, iter, [], 0⟩] scope pos) 0 (.ref I) (.ref D) (compEnvC scope cl C env)) (RR (.ref D) C) s₃ := by
    rintro s₃ rfl
    refine codeAny_compLoop_pair
      (fun k s' => ∃ h' tk i ys m' nw, s' = { s₂ with heap := h', toks := tk } ∧ i ≤ its.size ∧ k = its.size + 1 - i ∧ ys.length = i ∧ h'.IsListIter I ax i ∧ Fr h₀ L h' m ∧ h'.Ns C m' ∧ News h₀ L h' ((D, lst ys) :: nw) ∧ Off3 I C D nw ∧ J i ys nw) ?_ (its.size + 1)
      ⟨h₁, _, 0, [], _, news, rfl, Nat.zero_le _, rfl, rfl, hst.at fun o e => old I o e, F.keeps old, hns₁, fun p hp => ?_, off₀, hJ0⟩
    · rintro k s' ⟨h', tk, i, ys, m', nw, rfl, hi, rfl, hyl, hit, F', hn', N', off', hJ⟩
      obtain ⟨kx, hsrc⟩ := src i ys nw hJ
      have hl : h'.IsList ax its := ⟨_, (N' _ (.tail _ hsrc)).1, rfl, kx, rfl⟩
      have off3 := off'.mem
      by_cases hlt : i < its.size
      · have hv : its[i]? = some its[i] := by simp [hlt]
        refine wpAny_pyNext_list_item hit hl hv fun h₂ hit₂ hs₂ => ?_
        obtain ⟨t, vs, nt, ev, hmt, hxl, R''⟩ := turn i _ ys nw hv hJ
        rw [ev]
        have hk₂ : ∀ b o, b ∉ [I] → h'.get? b = some o → h₂.get? b = some o := fun b o hb e => hs₂.extBut b o (fun q => hb (by rw [q]; exact .head _)) e
        have N₂ : News h₀ L h₂ ((D, lst ys) :: nw) := news_but N' hk₂ fun p hp => by
          rcases List.mem_cons.mp hp with rfl | hp
          · exact Ne.symm hDI
          · exact (off3 p hp).1
        have ht : IsTup h₂ t vs.toArray := ⟨_, (N₂ _ (.tail _ hmt)).1, rfl, nt, rfl⟩
        refine wpAny_letOwnedTupleGo_listiter hit₂ ?_
        refine assign_Tuple_tuple hh ht ?_ ?_ fun h₅ he => ?_
        · rw [each_len, hxl, List.size_toArray]
        · exact each_star _ _
        have he' : ∀ b o, h₂.get? b = some o → h₅.get? b = some o := fun b o e => he b o (Nat.ne_of_lt (Heap.lt_size e)) e
        have hn₅ : h₅.Ns (compEnvC scope cl C env).locals m' := (hn'.at' fun o e => hk₂ _ o (by simpa using Ne.symm hCI) e).at' fun o e => he' _ o e
        refine assign_names (s := { s₂ with heap := h₅, toks := tk }) (cenv := compEnvC scope cl C env) (by simp [compEnvC, relabel, hkind]) xs vs m' h₅ tk _ hxl (fun x hx' => lookup_relabel_local (hx x hx')) hnd hn₅ fun h₃ tk₃ m₃ hn₃ hs₃ hz _ => ?_
        have hs₃ : Heap.SameBut C h₅ h₃ := hs₃
        have hn₃ : h₃.Ns C m₃ := hn₃
        have old3 : ∀ b o, b ≠ C → h₂.get? b = some o → h₃.get? b = some o := fun b o hb e => hs₃.extBut b o hb (he' b o e)
        have hit₃ : h₃.IsListIter I ax (i + 1) := hit₂.at fun o e => old3 I o hCI e
        obtain ⟨oI, heI, hcI, hdI⟩ := id hit₃
        obtain ⟨oC, heC, hoC⟩ := ns_obj hn₃
        have F₃ : Fr h₀ L h₃ m := ((fr_but F' hk₂ hIL hI₀).keeps he').change hs₃ hCL hC₀
        have N₃ : News h₀ L h₃ ((I, oI) :: (C, oC) :: (D, lst ys) :: nw) := fun p hp => by
          rcases List.mem_cons.mp hp with rfl | hp
          · exact ⟨heI, Ne.symm hIL, hI₀⟩
          · rcases List.mem_cons.mp hp with rfl | hp
            · exact ⟨heC, hCL, hC₀⟩
            · have z := N₂ p hp
              refine ⟨old3 _ _ ?_ z.1, z.2⟩
              rcases List.mem_cons.mp hp with rfl | hp
              · exact hDC
              · exact (off3 p hp).2.1
        refine wpAny_mono (R'' I oI C oC D m₃ h₃ tk₃ _ hoC hz F₃ N₃ off') (fun y s₄ h₄ => ?_) fun _ _ e => e
        obtain ⟨h₄, tk₄, nw₄, rfl, F₄, N₄, off₄, hJ₄⟩ := h₄
        have zI := (N₄ (I, oI) List.mem_cons_self).1
        have zC := (N₄ (C, oC) (List.mem_cons_of_mem _ List.mem_cons_self)).1
        have zD := (N₄ (D, lst ys) (List.mem_cons_of_mem _ (List.mem_cons_of_mem _ List.mem_cons_self))).1
        have N₄' : News h₀ L h₄ nw₄ := fun p hp => N₄ p (List.mem_cons_of_mem _ (List.mem_cons_of_mem _ (List.mem_cons_of_mem _ hp)))
        refine append_at (hsz := by show ys.toArray.size ≤ sizeLine; rw [List.size_toArray, hyl]; exact Nat.le_trans hi hsz) zD fun h₆ hs₆ hD₆ => ?_
        have off4 := off₄.mem
        refine ⟨its.size + 1 - (i + 1), by omega, h₆, tk₄, i + 1, ys ++ [y], _, nw₄, rfl, hlt, rfl, by rw [List.length_append, List.length_singleton, hyl], ⟨oI, hs₆.extBut _ _ hDI zI, hcI, hdI⟩, F₄.change hs₆ hDL hD₀,
          (hoC.ns zC).sameBut hs₆ (Ne.symm hDC), fun p hp => ?_, off₄, hJ₄⟩
        rcases List.mem_cons.mp hp with rfl | hp
        · exact ⟨hD₆.trans (congrArg some (lst_snoc ys y)), hDL, hD₀⟩
        · exact ⟨hs₆.extBut _ _ (off4 p hp).2.2 (N₄' p hp).1, (N₄' p hp).2⟩
      · obtain rfl : i = its.size := Nat.le_antisymm hi (Nat.not_lt.mp hlt)
        refine wpAny_pyNext_list_end hh hit hl (by simp) fun h₂ he₂ => ?_
        have hk₂ : ∀ b o, b ∉ [I] → h'.get? b = some o → h₂.get? b = some o := fun b o hb e => he₂ b o (fun q => hb (by rw [q]; exact .head _)) e
        exact hRR _ _ h₂ tk _ ys nw (fr_but F' hk₂ hIL hI₀) (news_but N' hk₂ fun p hp => by
          rcases List.mem_cons.mp hp with rfl | hp
          · exact Ne.symm hDI
          · exact (off3 p hp).1) (fun p hp => (off3 p hp).2.2) (hn'.at' fun o e => hk₂ _ o (by simpa using Ne.symm hCI) e) hC₀ hD₀ hCL hDL (Ne.symm hDC) (fun p hp => (off3 p hp).2.1) hJ
    · rcases List.mem_cons.mp hp with rfl | hp
      · exact ⟨hacc, hDL, hD₀⟩
      · exact ⟨old _ _ (N p hp).1, (N p hp).2⟩
  exact codeAny_compStart_list (loop _ rfl) (wpAny_pyIter_listiter (hst.at fun o e => old I o e) (loop _ rfl))
end
end
section
open PySem.Spec PySem.Calls PyProof.Rows.LCg PyProof.Rows.LCp
section
variable {prog : Program} {w : World} {A : Around} {E : Value → Shared → Prop} {s : Shared} {h₀ : Heap} {L : Addr} {m : Str → Option Value} {env : Env}
/-- what is wanted of a comprehension's source, at a list of the ledger -/
def CSrc (prog : Program) (w : World) (A : Around) (h₀ : Heap) (L : Addr) (m : Str → Option Value) (env : Env) (elt : PySem.Expr) (xs : List (Str × Pos)) (scope : Scope) (cl : List (Str × Addr)) (Fin : Shared → Addr → List Value → List (Addr × Obj) → Prop) (xv : Value) (s₁ : Shared) : Prop :=
  ∃ ax its news, xv = .ref ax ∧ A.handled = none ∧ Fr h₀ L s₁.heap m ∧ News h₀ L s₁.heap news ∧ its.size ≤ sizeLine ∧
    ∃ J : Nat → List Value → List (Addr × Obj) → Prop, J 0 [] news ∧ (∀ i ys nw, J i ys nw → ∃ k, (ax, listOf its k) ∈ nw) ∧
    (∀ s₂ : Shared, (∃ h, s₂ = { s₁ with heap := h }) → ∀ i v ys nw, its[i]? = some v → J i ys nw → ∃ (t : Addr) (vs : List Value) (nt : Nat), v = .ref t ∧ (t, tupOf vs nt) ∈ nw ∧ xs.length = vs.length ∧
      ∀ I oI C oC D m₂ h tk (E' : Value → Shared → Prop), NsObj oC m₂ → (∀ p ∈ (xs.map (·.1)).zip vs, m₂ p.1 = some p.2) → Fr h₀ L h m → News h₀ L h ((I, oI) :: (C, oC) :: (D, lst ys) :: nw) → Off3 I C D nw →
      wpAny (model prog w) A (eval elt (compEnvC scope cl C env)) (CEnd h₀ L m { s₂ with heap := h, toks := tk } I oI C oC D (lst ys) (fun y nw' => J (i + 1) (ys ++ [y]) nw')) E' { s₂ with heap := h, toks := tk }) ∧
    ∀ s₂ : Shared, (∃ h, s₂ = { s₁ with heap := h }) → ∀ D ys nw, J its.size ys nw → Fin s₂ D ys nw

theorem compN_eval {elt iter : PySem.Expr} {xs : List (Str × Pos)} {tp : Pos} {x1} {scope : Scope} {cl : List (Str × Addr)} {pos : Pos} {Q : Value → Shared → Prop} (F₀ : Fr h₀ L s.heap m)
    (hclos : closureFor scope env = pure cl) (hcell : ∀ y ∈ scope.names, y.2 ≠ .cell) (hkind : scope.kind = .function)
    (hnames : ∀ y ∈ scope.names, y.2 = .local → scope.names.lookup y.1 = some .local) (hx : ∀ x ∈ xs, scope.names.lookup x.1 = some .local) (hnd : (xs.map (·.1)).Nodup)
    (h : wpAny (model prog w) A (eval iter env) (CSrc prog w A h₀ L m env elt xs scope cl (fun s₂ D ys nw => ∀ h' tk, Fr h₀ L h' m → News h₀ L h' ((D, lst ys) :: nw) → (∀ p ∈ nw, p.1 ≠ D) → Q (.ref D) { s₂ with heap := h', toks := tk })) E s)
    (hs : ∀ x, foldedSetIterable iter env x = pure x := by intro _; rfl) :
    wpAny (model prog w) A (eval (.ListComp elt [⟨.Tuple (xs.map fun x => PySem.Expr.Name x.1 x.2) x1 tp, iter, [], 0⟩] scope pos) env) Q E s := by
  rw [eval_ListComp]
  refine wpAny_comprehension_free (use := none) rfl hs hclos hkind hnames (wpAny_mono h (fun xv s₁ h₁ => ?_) fun _ _ e => e)
  obtain ⟨ax, its, news, rfl, hh, F, N, hsz, J, hJ0, src, turn, fin⟩ := h₁
  obtain ⟨kx, hmx⟩ := src 0 [] news hJ0
  have hl : s₁.heap.IsList ax its := ⟨_, (N _ hmx).1, rfl, kx, rfl⟩
  have hlt : ax < s₁.heap.objs.size := Heap.lt_size (N _ hmx).1
  refine wpAny_pyIter_list hl ?_
  have up : ∀ b o, s₁.heap.get? b = some o → (s₁.heap.push { cls := .type "list_iterator", data := .fields #[.ref ax, .int 0 0] }).get? b = some o := fun b o e => Heap.get?_push_of_some _ e
  refine compN_block (I := s₁.heap.objs.size) (ax := ax) (its := its) J (Nat.ne_of_lt hlt) hsz hcell hkind hx hnd hh ⟨_, Heap.get?_push_size _ rfl, rfl, rfl⟩ (by show s₁.heap.objs.size < (s₁.heap.push _).objs.size; rw [Heap.size_push]; exact Nat.lt_succ_self _)
    (F.keeps up) (N.grown up) (Nat.ne_of_lt F.ns.lt) (next_is_new F) (fun p hp => Nat.ne_of_lt (Heap.lt_size (N p hp).1)) hJ0 src (turn _ ⟨_, rfl⟩) ?_
  intro D C h tk m' ys nw F' N' o1 hn hC₀ hD₀ hCL hDL hCD offC hJ
  refine ⟨m', hn, fun h'' hs'' => fin { s₁ with heap := s₁.heap } ⟨s₁.heap, rfl⟩ D ys nw hJ h'' tk (F'.change hs'' hCL hC₀) (fun p hp => ?_) o1⟩
  refine ⟨hs''.extBut _ _ ?_ (N' p hp).1, (N' p hp).2⟩
  rcases List.mem_cons.mp hp with rfl | hp
  · exact Ne.symm hCD
  · exact offC p hp
end
end
section
open PySem.Spec PySem.Calls PyProof.Rows.LCg PyProof.Rows.LCp
section
variable {prog : Program} {w : World} {A : Around} {E : Value → Shared → Prop} {s : Shared} {h₀ : Heap} {L : Addr} {m : Str → Option Value} {env : Env}
theorem assign_comp {elt iter tgt : PySem.Expr} {y : Str} {py : Pos} {scope : Scope} {pos spos : Pos} {Q : Flow → Shared → Prop}
    (hsw : swapsWith (.ListComp elt [⟨tgt, iter, [], 0⟩] scope pos) (some (.Name y py)) spos.line env = pure true)
    (h : wpAny (model prog w) A (comprehension (.ListComp elt [⟨tgt, iter, [], 0⟩] scope pos) scope env (firstIterPos [⟨tgt, iter, [], 0⟩] pos) (newList []) false (eval iter env) (some (assign (.Name y py) env))) (fun _ s' => Q .next s') E s) :
    wpAny (model prog w) A (exec (.Assign [.Name y py] (.ListComp elt [⟨tgt, iter, [], 0⟩] scope pos) spos) env) Q E s := by
  rw [exec_Assign_Name_used _ _ _ _ hsw]
  refine wpAny_bind (wpAny_standAt (wpAny_bind ?_))
  show wpAny _ A (do let _ ← comprehension (.ListComp elt [⟨tgt, iter, [], 0⟩] scope pos) scope env (firstIterPos [⟨tgt, iter, [], 0⟩] pos) (newList []) false (eval iter env) (some (assign (.Name y py) env))) _ _ s
  refine wpAny_bind (wpAny_mono h (fun _ s' hq => wpAny_pure (wpAny_pure hq)) fun _ _ e => e)
theorem compN_assign {elt iter : PySem.Expr} {xs : List (Str × Pos)} {y : Str} {tp py : Pos} {x1} {scope : Scope} {cl : List (Str × Addr)} {pos spos : Pos} {Q : Flow → Shared → Prop} (F₀ : Fr h₀ L s.heap m) (hLe : env.locals = L)
    (hsw : swapsWith (.ListComp elt [⟨.Tuple (xs.map fun x => PySem.Expr.Name x.1 x.2) x1 tp, iter, [], 0⟩] scope pos) (some (.Name y py)) spos.line env = pure true)
    (hclos : closureFor scope env = pure cl) (hcell : ∀ z ∈ scope.names, z.2 ≠ .cell) (hkind : scope.kind = .function)
    (hnames : ∀ z ∈ scope.names, z.2 = .local → scope.names.lookup z.1 = some .local) (hx : ∀ x ∈ xs, scope.names.lookup x.1 = some .local) (hnd : (xs.map (·.1)).Nodup)
    (hy : env.kindOf y = some .local) (hp : (env.scope.kind == .class || (env.scope.kind == .module && env.locals != env.globals)) = false)
    (h : wpAny (model prog w) A (eval iter env) (CSrc prog w A h₀ L m env elt xs scope cl (fun s₂ D ys nw => ∀ h' tk, Fr h₀ L h' (fun z => if z = y then some (.ref D) else m z) → News h₀ L h' ((D, lst ys) :: nw) → (∀ p ∈ nw, p.1 ≠ D) → Q .next { s₂ with heap := h', toks := tk })) E s)
    (hs : ∀ x, foldedSetIterable iter env x = pure x := by intro _; rfl) :
    wpAny (model prog w) A (exec (.Assign [.Name y py] (.ListComp elt [⟨.Tuple (xs.map fun x => PySem.Expr.Name x.1 x.2) x1 tp, iter, [], 0⟩] scope pos) spos) env) Q E s := by
  subst hLe
  refine assign_comp hsw (wpAny_comprehension_free (use := some (assign (.Name y py) env)) (Q := fun _ s' => Q .next s') rfl hs hclos hkind hnames
    (wpAny_mono h (fun xv s₁ h₁ => ?_) fun _ _ e => e))
  obtain ⟨ax, its, news, rfl, hh, F, N, hsz, J, hJ0, src, turn, fin⟩ := h₁
  obtain ⟨kx, hmx⟩ := src 0 [] news hJ0
  have hl : s₁.heap.IsList ax its := ⟨_, (N _ hmx).1, rfl, kx, rfl⟩
  have hlt : ax < s₁.heap.objs.size := Heap.lt_size (N _ hmx).1
  refine wpAny_pyIter_list hl ?_
  have up : ∀ b o, s₁.heap.get? b = some o → (s₁.heap.push { cls := .type "list_iterator", data := .fields #[.ref ax, .int 0 0] }).get? b = some o := fun b o e => Heap.get?_push_of_some _ e
  refine compN_block (I := s₁.heap.objs.size) (ax := ax) (its := its) J (Nat.ne_of_lt hlt) hsz hcell hkind hx hnd hh ⟨_, Heap.get?_push_size _ rfl, rfl, rfl⟩ (by show s₁.heap.objs.size < (s₁.heap.push _).objs.size; rw [Heap.size_push]; exact Nat.lt_succ_self _)
    (F.keeps up) (N.grown up) (Nat.ne_of_lt F.ns.lt) (next_is_new F) (fun p hp => Nat.ne_of_lt (Heap.lt_size (N p hp).1)) hJ0 src (turn _ ⟨_, rfl⟩) ?_
  intro D C h' tk m' ys nw F' N' o1 hn hC₀ hD₀ hCL hDL hCD offC hJ
  show wpAny _ A (assign (.Name y py) env (.ref D)) _ _ _
  refine wpAny_assign_Name (wpAny_storeName_local hy F'.ns (fun h₂ hn₂ hs₂ => ?_) hp)
  have hL₀ : h₀.get? env.locals = none := Heap.get?_none_of_le F'.above
  have F₂ : Fr h₀ env.locals h₂ (fun z => if z = y then some (.ref D) else m z) := ⟨hn₂, fun b o e => hs₂.extBut b o (fun q => by rw [q, hL₀] at e; cases e) (F'.keep b o e), F'.above⟩
  refine ⟨m', hn.sameBut hs₂ hCL, fun h'' hs'' => fin { s₁ with heap := s₁.heap } ⟨s₁.heap, rfl⟩ D ys nw hJ h'' _ (F₂.change hs'' hCL hC₀) (fun p hp => ?_) o1⟩
  have z : h₂.get? p.1 = some p.2 := hs₂.extBut _ _ (N' p hp).2.1 (N' p hp).1
  refine ⟨hs''.extBut _ _ ?_ z, (N' p hp).2⟩
  rcases List.mem_cons.mp hp with rfl | hp
  · exact Ne.symm hCD
  · exact offC p hp
end
end
section
open PySem.SeqAt PyProof.Rows.LCg
section
variable {prog : Program} {w : World} {A : Around} {E : Value → Shared → Prop} {s : Shared} {h₀ : Heap} {L : Addr} {m : Str → Option Value} {env : Env} {news : List (Addr × Obj)}
theorem lists_alike_ne {Q : Value → Shared → Prop} {a b : Addr} {xs ys : List Value} {n k : Nat} (N : News h₀ L s.heap news) (hma : (a, listOf xs.toArray n) ∈ news) (hmb : (b, listOf ys.toArray k) ∈ news) (hlen : xs.length = ys.length)
    (hu : A.units < cLine) (he : ∀ (j : Nat) (x y : Value), xs[j]? = some x → ys[j]? = some y → EqAt A.in1 s x y true) (h : Q (.bool false) s) :
    wpAny (model prog w) A (compareOp .NotEq (.ref a) (.ref b)) Q E s := by
  have hl : s.heap.IsList a xs.toArray := ⟨_, (N _ hma).1, rfl, n, rfl⟩
  have hb : s.heap.IsList b ys.toArray := ⟨_, (N _ hmb).1, rfl, k, rfl⟩
  have := RcNeAt.lists (A := A) (e := fun _ => true) hl hb (by simpa using hlen) hu (fun j h1 h2 => he j _ _ (by simp at h1; simp [h1]) (by simp at h2; simp [h2])) prog w E Q
  refine this ?_
  have e : (List.range xs.toArray.size).all (fun _ => true) = true := List.all_eq_true.mpr fun _ _ => rfl
  rw [e]
  exact h
theorem lists_other_eq {Q : Value → Shared → Prop} {a b : Addr} {xs ys : List Value} {n k : Nat} (N : News h₀ L s.heap news) (hma : (a, listOf xs.toArray n) ∈ news) (hmb : (b, listOf ys.toArray k) ∈ news) (hlen : xs.length ≠ ys.length)
    (hu : A.units < cLine) (h : Q (.bool false) s) : wpAny (model prog w) A (compareOp .Eq (.ref a) (.ref b)) Q E s := by
  have hl : s.heap.IsList a xs.toArray := ⟨_, (N _ hma).1, rfl, n, rfl⟩
  have hb : s.heap.IsList b ys.toArray := ⟨_, (N _ hmb).1, rfl, k, rfl⟩
  exact RcAt.lists_lengths (A := A) hl hb (by simpa using hlen) hu prog w E Q h

theorem comp_build {elt : PySem.Expr} {x : Str} {scope : Scope} {cl : List (Str × Addr)} {S : List (Addr × Obj) → Prop} {P : Nat → Value → Prop} {Fin : List Value → List (Addr × Obj) → Prop} {n : Nat} (I : Nat → List Value → Prop)
    (step : ∀ i ys, i < n → I i ys → ∀ v J oJ C oC D m₂ h tk (E' : Value → Shared → Prop), P i v → NsObj oC m₂ → m₂ x = some v → Fr h₀ L h m → News h₀ L h ((J, oJ) :: (C, oC) :: (D, lst ys) :: news) → Off3 J C D news →
      wpAny (model prog w) A (eval elt (compEnvC scope cl C env)) (CompEnd h₀ L m { s with heap := h, toks := tk } J oJ C oC D (lst ys) S (fun y news' => news' = news ∧ I (i + 1) (ys ++ [y]))) E' { s with heap := h, toks := tk })
    (fin : ∀ ys, I n ys → Fin ys news) : ∀ k i ys, i + k = n → I i ys → CompRest prog w A h₀ L m env elt x scope cl s S P Fin k i ys news
  | 0, i, ys, e, hI => CompRest.zero (fin ys (by rw [← e]; exact hI))
  | k + 1, i, ys, e, hI => CompRest.succ fun v J oJ C oC D m₂ h tk E' hP hoC hx F N off _ => by
    refine wpAny_mono (step i ys (by omega) hI v J oJ C oC D m₂ h tk E' hP hoC hx F N off) (fun y s₂ h₂ => ?_) fun _ _ z => z
    obtain ⟨h', tk', news', rfl, F', N', off', hS, hnw, hI'⟩ := h₂
    rw [hnw] at N' off' hS
    exact ⟨h', tk', news, rfl, F', N', off', hS, comp_build I step fin k (i + 1) (ys ++ [y]) (by omega) hI'⟩
end
end
section
section

theorem valueAt_of_notin {kvs : List (Str × Value)} {k : Str} (h : k ∉ kvs.map (·.1)) : valueAt kvs k = none := by
  unfold valueAt
  rw [List.find?_eq_none.mpr, Option.map_none]
  intro x hx hk
  exact h (List.mem_map.mpr ⟨x, hx, by simpa using hk⟩)
def betw (it o : It) : Bool := decide (it.a * o.q < o.p * it.b) && decide (o.p * it.d < it.c * o.q)
def ansV (l o : List Nat) : Str := if namesR l o = true then Str.ofString "1" else Str.ofString "0"
def AnsOK (l : List Nat) (ts : List (Addr × It)) (i : Nat) (ys : List Value) : Prop := ys.length = i ∧ ∀ (j : Nat) (y : Value), ys[j]? = some y → ∃ x t, ts[j]? = some x ∧ y = .str (ansV l x.2.label) t
def insV (b : Bool) : Str := if b = true then Str.ofString "1" else Str.ofString "0"
def BetOK (it : It) (ts : List (Addr × It)) (i : Nat) (ys : List Value) : Prop := ys.length = i ∧ ∀ (j : Nat) (y : Value), ys[j]? = some y → ∃ x t, ts[j]? = some x ∧ y = .str (insV (betw it x.2)) t
theorem turn_c {w : World} {p : Program} {loose : List Str} {mean : ExcName → Option Value} {mg mb : Str → Option Value} {base h₀ : Heap} {L fa : Addr} {cd : Value} {m : Str → Option Value} {s : Shared} {Q : Flow → Shared → Prop} {E : Value → Shared → Prop}
   {R : List (Addr × Obj)} {oe or : Obj} {ve : Option Value} {tl ea : Addr} {ts : List (Addr × It)} {k : Nat} {it : It} {tlab : Tok}
   (B : Below callerA base [] h₀) (F : Fr h₀ L s.heap (fun y => if y = Str.ofString "label" then some (Value.str (lab it.label) tlab) else if y = Str.ofString "told" then some (Value.ref tl) else m y)) (X : (hd.heap_39 w.params).In h₀) (T : Top p loose mean mg mb h₀)
   (N : News h₀ L s.heap ((L + 1, oe) :: (L + 1 + 1, or) :: R)) (hoe : oe.data = .cell (some (.ref ea))) (hor : or.data = .cell ve)
   (hea : EndsAt R ea it.a it.b it.c it.d) (htl : (tl, listOf (refsOf ts).toArray k) ∈ R) (hts : ∀ x ∈ ts, ItemAt R x.1 x.2)
   (hne : ∀ q ∈ R, q.1 ≠ L + 1 + 1) (hlt : ts.length < 900) (hlabs : ∀ x ∈ ts, x.2.label.length < 900 ∧ lab x.2.label ≠ Str.ofString "<string>") (hnd : (ts.map (·.2.label)).Nodup)
   (hbi : (0 ≤ it.a ∧ it.a ≤ 1000) ∧ (0 ≤ it.b ∧ it.b ≤ 1000) ∧ (0 ≤ it.c ∧ it.c ≤ 1000) ∧ 0 ≤ it.d ∧ it.d ≤ 1000) (hbt : ∀ x ∈ ts, (0 ≤ x.2.p ∧ x.2.p ≤ 1000) ∧ 0 ≤ x.2.q ∧ x.2.q ≤ 1000) (hcond : ∀ x ∈ ts, namesR it.label x.2.label = betw it x.2)
   (ret : ∀ h' tk' m' or', Fr h₀ L h' m' → (∀ y, y ≠ Str.ofString "between" → y ≠ Str.ofString "answers" → m' y = (fun y => if y = Str.ofString "label" then some (Value.str (lab it.label) tlab) else if y = Str.ofString "told" then some (Value.ref tl) else m y) y) → News h₀ L h' ((L + 1, oe) :: (L + 1 + 1, or') :: R) → (∃ v, or'.data = .cell v) → Q .next { s with heap := h', toks := tk' }) (hll : it.label.length < 900) :
   wpAny (model PySem.Challenge.rw_oy0044_01.row.prog w) (callerA.deeper (lawEnv L fa cd)) (execs turnBody (lawEnv L fa cd)) Q E s := by
  w_top off
  k_with_none
  (k_with "subscriptTail" => (k_here; (with_reducible show wpAny _ _ (subscriptTail _ _ (Value.ref _) (Value.int _ _)) _ _ _); (with_unfolding_all refine' kim_list ?k1 ?k2 ?k3 ?k4 ?k5 ?k6 ?k7 ?_ ?k8 ?k9; (case k1 => k_asm); (case k2 => k_mem); (case k3 => exact rfl); (case k4 => exact rfl); (case k5 => decide); (case k6 => decide); (case k7 => exact rfl); (case k8 => with_unfolding_all rfl); (case k9 => intro _; with_unfolding_all rfl); k_whole)))
  (k_with "subscriptTail" => (k_here; (with_reducible show wpAny _ _ (subscriptTail _ _ (Value.ref _) (Value.int _ _)) _ _ _); (with_unfolding_all refine' item_read ?k1 ?k2 ?k3 ?k4 ?k5 ?_ ?k8 ?k9; (case k1 => k_asm); (case k2 => k_mem); (case k3 => with_reducible assumption); (case k4 => with_reducible assumption); (case k5 => with_reducible assumption); (case k8 => with_unfolding_all rfl); (case k9 => intro _; with_unfolding_all rfl); k_whole)))
  (k_with "setItem ref int ref" => (k_here; (with_reducible show wpAny _ _ (setItem (Value.ref _) (Value.int _ _) (Value.ref _)) _ _ _); (refine' item_store ?k1 ?k2 ?k3 ?k4 ?k5 ?k6 ?_; (case k1 => k_asm); (case k2 => k_asm); (case k3 => with_reducible assumption); (case k4 => with_reducible assumption); (case k5 => first | with_reducible assumption | omega); (case k6 => first | with_reducible assumption | omega); k_whole); intro _ _ _; (try k_sweep)))
  (k_with "compareOp Lt ref ref" => (k_here; (with_reducible show wpAny _ _ (compareOp CmpOp.Lt (Value.ref _) (Value.ref _)) _ _ _); (refine' item_ltW ?k1 ?k2 ?k3 ?k4 ?k5 ?_; (case k1 => k_asm); (case k2 => with_reducible assumption); (case k3 => with_reducible assumption); (case k4 => with_reducible assumption); (case k5 => k_units); k_whole)))
  (k_with "call builtin:len" => (k_here; (with_reducible show wpAny _ _ (call (Value.builtin "len") [Value.ref _]) _ _ _); (with_unfolding_all refine' items_len ?k1 ?k2 ?k3 ?_; (case k1 => k_asm); (case k2 => k_mem); (case k3 => with_reducible assumption); k_whole)))
  (k_with "call builtin:list.append" => (k_here; (with_reducible show wpAny _ _ (call (Value.builtin _) [Value.ref _, Value.ref _]) _ _ _); (with_unfolding_all refine' items_append ?k1 ?k2 ?k3 ?k4 ?_; (case k1 => k_asm); (case k2 => k_asm); (case k3 => with_reducible assumption); (case k4 => with_reducible assumption); k_whole); intro _ _ _; (try k_sweep)))
  (k_with "binaryOp Add str str" => (k_here; (with_reducible show wpAny _ _ (binaryOp _ (Value.str (Str.mk (List.toArray _)) _) (Value.str (Str.ofString _) _)) _ _ _); (refine' lab_add ?k1 ?k2 ?k3 ?_; (case k1 => first | with_reducible exact lit_do | with_reducible exact lit_doo | with_reducible exact lit_dot); (case k2 => first | with_reducible assumption | omega); (case k3 => decide); k_whole); intro _ _))
  (k_with "compareOp NotEq ref ref" => (k_here; (with_reducible show wpAny _ _ (compareOp CmpOp.NotEq (Value.ref _) (Value.ref _)) _ _ _); (with_unfolding_all refine' same_ne ?k1 ?k2 ?k3 ?_; (case k1 => k_asm); (case k2 => k_mem); (case k3 => k_units); k_whole)))
  (k_with "call ref" => ((with_reducible show wpAny _ _ (call (Value.ref _) _) _ _ _); refine Halt.go ?_))
  (k_with "exec Assign cons ListComp" => refine Halt.go ?_)
  (k_with "eval ListComp" => refine Halt.go ?_)
  (k_with "pyIter ref" => refine Halt.go ?_)
  (k_with "CompSrc" => refine Halt.go ?_)
  (k_with "compareOp NotEq ref ref" => refine Halt.go ?_)
  (k_with "storeName" => refine Halt.go ?_)
  revert X; k_fill; intro X
  have hsc : lawScope = lawScope := rfl
  conv at hsc => rhs; whnf
  have hb : turnBody = turnBody := rfl
  conv at hb => rhs; whnf
  dsimp only [lawEnv]
  rw [hsc, hb]
  clear hsc hb
  k_steps
  rename_i la hp1 F1 N1 lt1
  unfold Halt
  k_dflt (refine' wpAny_level ?l1 ?l2 ?l3 ?l4 ?l5 (reader_c ?k1 ?k2 ?k3 ?k4 ?k5 ?k6 ?k7 ?f0 ?_))
  case l3 => exact rfl
  case l1 => exact rfl
  case l4 => exact rfl
  case l2 => exact Nat.le_of_ble_eq_true rfl
  case l5 => exact Nat.le_of_ble_eq_true rfl
  case k1 => k_asm
  case k2 => k_asm
  case k3 => k_asm
  case k4 => k_asm
  case k5 => k_asm
  case k6 => exact rfl
  case k7 => exact rfl
  case f0 => exact .head _

  intro rd D od adds h2 tk2 t2 F2 N2 hdis hneD hRI hOD hsys
  clear F1 N1
  obtain ⟨lt1a, lt1b, lt1c⟩ := lt1
  have lt1c := ktn_ltOf lt1c
  dsimp only
  k_steps
  unfold Halt
  obtain ⟨R1, hR1⟩ : ∃ R1, R1 = adds ++ R := ⟨_, rfl⟩
  have hRR1 : ∀ q ∈ R, q ∈ R1 := fun q hq => by rw [hR1]; exact List.mem_append.mpr (.inr hq)
  have hneR1 : ∀ q ∈ R1, q.1 ≠ L + 1 + 1 := by
    intro q hq
    rw [hR1] at hq
    rcases List.mem_append.mp hq with hq | hq
    · exact hdis q hq (L + 1 + 1, or) (.tail _ (.tail _ (.head _)))
    · exact hne q hq
  have hneDR : ∀ q ∈ R1, q.1 ≠ D := by
    intro q hq
    rw [hR1] at hq
    rcases List.mem_append.mp hq with hq | hq
    · exact hneD q (List.mem_append.mpr (.inl hq))
    · exact hneD q (List.mem_append.mpr (.inr (.tail _ (.tail _ (.tail _ hq)))))
  have hneDe : L + 1 ≠ D := hneD (L + 1, oe) (List.mem_append.mpr (.inr (.tail _ (.head _))))
  have hneDr : L + 1 + 1 ≠ D := hneD (L + 1 + 1, or) (List.mem_append.mpr (.inr (.tail _ (.tail _ (.head _)))))
  have hRI := hRI.mono (l' := R1) fun q hq => by rw [hR1]; exact List.mem_append.mpr (.inl hq)
  have N3 := News.sub (l' := (L + 1 + 1, or) :: (D, od) :: (L + 1, oe) :: R1) N2 (by rw [hR1]; repeat' first | (with_reducible exact sub_nil) | (with_reducible exact sub_self) | (with_reducible assumption) | (with_reducible refine sub_cons ?_ ?_) | (with_reducible refine sub_app ?_ ?_) | (with_reducible refine sub_more ?_) | (with_reducible exact sub_left) | (with_reducible refine sub_right ?_) | (with_reducible exact List.mem_cons_self) | (with_reducible refine List.mem_cons_of_mem _ ?_) | (with_reducible refine List.mem_append_right _ ?_))
  clear N2 hR1 hdis hneD
  refine storeX_C (c := L + 1 + 1) F2 N3 rfl (UpdF.head ?_) hor ?_
  · intro q hq
    simp only [List.mem_cons] at hq
    rcases hq with h | h | h
    · rw [h]; exact Ne.symm hneDr
    · rw [h]; exact Nat.ne_of_lt (Nat.lt_succ_self _)
    · exact hneR1 q h
  clear F2 N3 hor
  intro h3 or3 F3 N3 hor3
  have N3 := News.sub (l' := (D, od) :: (L + 1, oe) :: (L + 1 + 1, or3) :: R1) N3 (by repeat' first | (with_reducible exact sub_nil) | (with_reducible exact sub_self) | (with_reducible assumption) | (with_reducible refine sub_cons ?_ ?_) | (with_reducible refine sub_app ?_ ?_) | (with_reducible refine sub_more ?_) | (with_reducible exact sub_left) | (with_reducible refine sub_right ?_) | (with_reducible exact List.mem_cons_self) | (with_reducible refine List.mem_cons_of_mem _ ?_) | (with_reducible refine List.mem_append_right _ ?_))
  k_steps
  unfold Halt
  k_dflt (refine compN_assign (xs := [(Str.ofString "cost", _), (Str.ofString "r", _), (Str.ofString "s", _), (Str.ofString "sides", _), (Str.ofString "other", _)]) (cl := [(Str.ofString "reader", L + 1 + 1)]) (F₀ := F3) rfl (by with_unfolding_all rfl) (by with_unfolding_all rfl) (by decide) rfl (by decide) (by decide) (by decide) rfl rfl ?_)
  k_steps
  refine ⟨tl, (refsOf ts).toArray, (D, od) :: (L + 1, oe) :: (L + 1 + 1, or3) :: R1, rfl, rfl, by k_asm, by k_asm, ?_, fun i ys nw => ∃ od' kvs, nw = (D, od') :: (L + 1, oe) :: (L + 1 + 1, or3) :: R1 ∧ od'.IsDictOf (strKind PySem.Challenge.rw_oy0044_01.row.prog w) kvs ∧ kvs.map (·.1) = Str.ofString "<string>" :: (ts.take i).map (fun x => lab x.2.label) ∧ AnsOK it.label ts i ys, ?_, ?_, ?_, ?_⟩
  · rw [List.size_toArray, List.length_map, sizeLine_eq]; omega
  · exact ⟨od, _, rfl, hOD, rfl, rfl, fun j y hj => by simp at hj⟩
  · rintro i ys nw ⟨od', kvs, rfl, -⟩
    exact ⟨k, .tail _ (.tail _ (.tail _ (hRR1 _ htl)))⟩
  · rintro s₂ ⟨hh, rfl⟩ i v ys nw hv ⟨od', kvs, rfl, hOD', hkk, hys1, hys2⟩
    have hv' : (refsOf ts)[i]? = some v := by simpa using hv
    rw [List.getElem?_map] at hv'
    cases hx : ts[i]? with
    | none => rw [hx] at hv'; cases hv'
    | some x =>
    rw [hx] at hv'
    injection hv' with hv'
    subst hv'
    obtain ⟨es, q1, q2, q3, q4, qn, hmx, -⟩ := hts x (List.mem_of_getElem? hx)
    refine ⟨x.1, _, qn, rfl, .tail _ (.tail _ (.tail _ (hRR1 _ hmx))), rfl, ?_⟩
    intro I oI C oC D' m₂ h tk E' hoC hm₂ F4 N4 hoff
    have hother : m₂ (Str.ofString "other") = some (Value.str (lab x.2.label) q4) := hm₂ _ (.tail _ (.tail _ (.tail _ (.tail _ (.head _)))))
    clear hm₂ hv
    have N4 := News.sub (l' := (D, od') :: (I, oI) :: (C, oC) :: (D', LCg.lst ys) :: (L + 1, oe) :: (L + 1 + 1, or3) :: R1) N4 (by repeat' first | (with_reducible exact sub_nil) | (with_reducible exact sub_self) | (with_reducible assumption) | (with_reducible refine sub_cons ?_ ?_) | (with_reducible refine sub_app ?_ ?_) | (with_reducible refine sub_more ?_) | (with_reducible exact sub_left) | (with_reducible refine sub_right ?_) | (with_reducible exact List.mem_cons_self) | (with_reducible refine List.mem_cons_of_mem _ ?_) | (with_reducible refine List.mem_append_right _ ?_))
    obtain ⟨dx, S, dl, j1, j2, j3, tx, jj, hm1, hm2, hm3, hm4⟩ := id hRI
    k_steps
    unfold Halt
    have hnot : lab x.2.label ∉ kvs.map (·.1) := by
      rw [hkk]
      intro hmem
      rcases List.mem_cons.mp hmem with h | h
      · exact (hlabs x (List.mem_of_getElem? hx)).2 h
      · obtain ⟨y, hy, he⟩ := List.mem_map.mp h
        obtain ⟨j, hj, hjy⟩ := List.mem_iff_getElem.mp hy
        rw [List.getElem_take] at hjy
        rw [List.length_take] at hj
        have hi : i < ts.length := (List.getElem?_eq_some_iff.mp hx).1
        have hxi : ts[i] = x := (List.getElem?_eq_some_iff.mp hx).2
        have := (List.pairwise_iff_getElem.mp hnd) j i (by rw [List.length_map]; omega) (by rw [List.length_map]; omega) (by omega)
        rw [List.getElem_map, List.getElem_map, hjy, hxi] at this
        exact this (lab_inj he)
    have hkl : kvs.length ≤ i + 1 := by
      have := congrArg List.length hkk
      rw [List.length_map, List.length_cons, List.length_map, List.length_take] at this
      omega
    have hi9 : i < 900 := by
      have := (List.getElem?_eq_some_iff.mp hx).1
      omega
    have hneDRest : ∀ q ∈ (I, oI) :: (C, oC) :: (D', LCg.lst ys) :: (L + 1, oe) :: (L + 1 + 1, or3) :: R1, q.1 ≠ D := by
      intro q hq
      simp only [List.mem_cons] at hq
      rcases hq with h | h | h | h | h | h
      · rw [h]; exact Ne.symm hoff.1.1
      · rw [h]; exact Ne.symm hoff.1.2.1
      · rw [h]; exact Ne.symm hoff.1.2.2
      · rw [h]; exact hneDe
      · rw [h]; exact hneDr
      · exact hneDR q h
    k_dflt (refine' wpAny_level ?l1 ?l2 ?l3 ?l4 ?l5 (names_c (l := it.label) (o := x.2.label) ?k1 ?k2 ?k3 ?k4 ?k5 ?k6 ?k7 ?f0 ?f1 ?f2 ?f3 ?f4 ?f5 ?f6 ?f7 ?_))
    case l3 => exact rfl
    case l1 => exact rfl
    case l4 => exact rfl
    case l2 => exact Nat.le_of_ble_eq_true rfl
    case l5 => exact Nat.le_of_ble_eq_true rfl
    case k1 => k_asm
    case k2 => k_asm
    case k3 => k_asm
    case k4 => k_asm
    case k5 => k_asm
    case k6 => exact rfl
    case k7 => exact rfl
    case f0 => exact hRI.mono fun q hq => .tail _ (.tail _ (.tail _ (.tail _ (.tail _ hq))))
    case f1 => exact hOD'
    case f2 => exact hsys
    case f3 => exact hneDRest
    case f4 => exact valueAt_of_notin hnot
    case f5 => exact hll
    case f6 => exact (hlabs x (List.mem_of_getElem? hx)).1
    case f7 => omega

    intro h5 tk5 od5 u1 u2 F5 N5 hOD5
    dsimp only
    have hfin : ∀ (t9 : Tok) (sx : Shared) (tkx : Nat), sx = { { s with heap := h3, toks := tk2 } with heap := h5, toks := tkx } → CEnd h₀ L (fun y => if y = Str.ofString "label" then some (Value.str (lab it.label) tlab) else if y = Str.ofString "told" then some (Value.ref tl) else m y) { s with heap := h, toks := tk } I oI C oC D' (LCg.lst ys)
        (fun y nw' => (fun i ys nw => ∃ od' kvs, nw = (D, od') :: (L + 1, oe) :: (L + 1 + 1, or3) :: R1 ∧ od'.IsDictOf (strKind PySem.Challenge.rw_oy0044_01.row.prog w) kvs ∧ kvs.map (·.1) = Str.ofString "<string>" :: (ts.take i).map (fun x => lab x.2.label) ∧ AnsOK it.label ts i ys) (i + 1) (ys ++ [y]) nw') (.str (ansV it.label x.2.label) t9) sx := by
      rintro t9 sx tkx rfl
      refine ⟨h5, tkx, (D, od5) :: (L + 1, oe) :: (L + 1 + 1, or3) :: R1, rfl, F5, News.sub N5 ?_, ?_, od5, _, rfl, hOD5, ?_, ?_, ?_⟩
      · repeat' first | (with_reducible exact sub_nil) | (with_reducible exact sub_self) | (with_reducible assumption) | (with_reducible refine sub_cons ?_ ?_) | (with_reducible refine sub_app ?_ ?_) | (with_reducible refine sub_more ?_) | (with_reducible exact sub_left) | (with_reducible refine sub_right ?_) | (with_reducible exact List.mem_cons_self) | (with_reducible refine List.mem_cons_of_mem _ ?_) | (with_reducible refine List.mem_append_right _ ?_)
      · exact ⟨hoff.1, hoff.2⟩
      · rw [stored_absent (valueAt_of_notin hnot), List.map_append, hkk, List.take_add_one, hx]
        simp
      · rw [List.length_append, hys1]; rfl
      · intro j y hj
        rw [List.getElem?_append] at hj
        split at hj
        · exact hys2 j y hj
        · rename_i hji
          have hj0 : j = i := by
            have := (List.getElem?_eq_some_iff.mp hj).1
            simp at this
            omega
          subst hj0
          rw [hys1, Nat.sub_self] at hj
          injection hj with hj
          exact ⟨x, t9, hx, hj.symm⟩
    by_cases hn : namesR it.label x.2.label = true
    · have e1 : namesV it.label x.2.label = 1 := by unfold namesV; rw [if_pos hn]
      have e2 : ansV it.label x.2.label = Str.ofString "1" := by unfold ansV; rw [if_pos hn]
      rw [e1]
      rw [e2] at hfin
      k_steps
      exact hfin _ _ _ rfl
    · have e1 : namesV it.label x.2.label = 0 := by unfold namesV; rw [if_neg hn]
      have e2 : ansV it.label x.2.label = Str.ofString "0" := by unfold ansV; rw [if_neg hn]
      rw [e1]
      rw [e2] at hfin
      k_steps
      exact hfin _ _ _ rfl
  rintro s₂ ⟨hh, rfl⟩ DA ya nw ⟨odA, kvsA, rfl, -, -, hya⟩
  rw [List.size_toArray, List.length_map] at hya
  intro h4 tk4 F4 N4 hneA
  dsimp only
  clear F3 N3 hOD
  k_steps
  unfold Halt
  k_dflt (refine compN_assign (xs := [(Str.ofString "cost", _), (Str.ofString "r", _), (Str.ofString "s", _), (Str.ofString "sides", _), (Str.ofString "other", _)]) (cl := [(Str.ofString "ends", L + 1)]) (F₀ := F4) rfl (by with_unfolding_all rfl) (by with_unfolding_all rfl) (by decide) rfl (by decide) (by decide) (by decide) rfl rfl ?_)
  k_steps
  have N4 := News.sub (l' := (L + 1, oe) :: (DA, LCg.lst ya) :: (L + 1 + 1, or3) :: R) N4 (by repeat' first | (with_reducible exact sub_nil) | (with_reducible exact sub_self) | (with_reducible assumption) | (with_reducible refine sub_cons ?_ ?_) | (with_reducible refine sub_app ?_ ?_) | (with_reducible refine sub_more ?_) | (with_reducible exact sub_left) | (with_reducible refine sub_right ?_) | (with_reducible exact List.mem_cons_self) | (with_reducible refine List.mem_cons_of_mem _ ?_) | (with_reducible refine List.mem_append_right _ ?_))
  obtain ⟨e1, e2, e3, e4, en, hme⟩ := hea
  refine ⟨tl, (refsOf ts).toArray, (L + 1, oe) :: (DA, LCg.lst ya) :: (L + 1 + 1, or3) :: R, rfl, rfl, by k_asm, by k_asm, ?_, fun i ys nw => nw = (L + 1, oe) :: (DA, LCg.lst ya) :: (L + 1 + 1, or3) :: R ∧ ys = (ts.take i).map (fun x => Value.bool (betw it x.2)), ?_, ?_, ?_, ?_⟩
  · rw [List.size_toArray, List.length_map, sizeLine_eq]; omega
  · exact ⟨rfl, rfl⟩
  · rintro i ys nw ⟨rfl, -⟩
    exact ⟨k, .tail _ (.tail _ (.tail _ htl))⟩
  · rintro s₂ ⟨hh, rfl⟩ i v ys nw hv ⟨rfl, hys⟩
    have hv' : (refsOf ts)[i]? = some v := by simpa using hv
    rw [List.getElem?_map] at hv'
    cases hx : ts[i]? with
    | none => rw [hx] at hv'; cases hv'
    | some x =>
    rw [hx] at hv'
    injection hv' with hv'
    subst hv'
    obtain ⟨es, q1, q2, q3, q4, qn, hmx, -⟩ := hts x (List.mem_of_getElem? hx)
    refine ⟨x.1, _, qn, rfl, .tail _ (.tail _ (.tail _ hmx)), rfl, ?_⟩
    intro I oI C oC D' m₂ h tk E' hoC hm₂ F5 N5 hoff
    have hr : m₂ (Str.ofString "r") = some (Value.int x.2.p q2) := hm₂ _ (.tail _ (.head _))
    have hs : m₂ (Str.ofString "s") = some (Value.int x.2.q q3) := hm₂ _ (.tail _ (.tail _ (.head _)))
    clear hm₂ hv
    have hfin : ∀ (b : Bool) (h5 : Heap) (sx : Shared) (tkx : Nat), b = betw it x.2 → Fr h₀ L h5 (fun z => if z = Str.ofString "answers" then some (Value.ref DA) else if z = Str.ofString "label" then some (Value.str (lab it.label) tlab) else if z = Str.ofString "told" then some (Value.ref tl) else m z) → News h₀ L h5 ((I, oI) :: (C, oC) :: (D', LCg.lst ys) :: (L + 1, oe) :: (DA, LCg.lst ya) :: (L + 1 + 1, or3) :: R) → sx = { s with heap := h5, toks := tkx } →
        CEnd h₀ L (fun z => if z = Str.ofString "answers" then some (Value.ref DA) else if z = Str.ofString "label" then some (Value.str (lab it.label) tlab) else if z = Str.ofString "told" then some (Value.ref tl) else m z) { s with heap := h, toks := tk } I oI C oC D' (LCg.lst ys)
        (fun y nw' => (fun i ys nw => nw = (L + 1, oe) :: (DA, LCg.lst ya) :: (L + 1 + 1, or3) :: R ∧ ys = (ts.take i).map (fun x => Value.bool (betw it x.2))) (i + 1) (ys ++ [y]) nw') (.bool b) sx := by
      rintro b h5 sx tkx rfl F6 N6 rfl
      refine ⟨h5, tkx, _, rfl, F6, N6, hoff, rfl, ?_⟩
      rw [hys, List.take_add_one, hx, List.map_append]
      rfl
    obtain ⟨⟨b1, b2⟩, ⟨b3, b4⟩, ⟨b5, b6⟩, b7, b8⟩ := hbi
    obtain ⟨⟨b9, b10⟩, b11, b12⟩ := hbt x (List.mem_of_getElem? hx)
    k_steps
    all_goals (refine hfin _ _ _ _ ?_ (by k_asm) (by k_asm) rfl; unfold betw)
    · rename it.a * x.2.q < x.2.p * it.b => hc
      rw [decide_eq_true hc, Bool.true_and]
    · rename ¬(it.a * x.2.q < x.2.p * it.b) => hc
      rw [decide_eq_false hc, Bool.false_and]
  rintro s₂ ⟨hh, rfl⟩ DB yb nw ⟨rfl, hyb⟩
  rw [List.size_toArray, List.length_map, List.take_length] at hyb
  subst hyb
  intro h5 tk5 F5 N5 hneB
  dsimp only
  k_steps
  unfold Halt
  k_dflt (refine LCg.ListComp_U (cl := []) (F₀ := F5) (by with_unfolding_all rfl) (by decide) rfl (by decide) rfl ?_)
  k_steps
  unfold Halt
  have N5 := News.sub (l' := (DB, LCg.lst (ts.map (fun x => Value.bool (betw it x.2)))) :: (DA, LCg.lst ya) :: (L + 1, oe) :: (L + 1 + 1, or3) :: R) N5 (by repeat' first | (with_reducible exact sub_nil) | (with_reducible exact sub_self) | (with_reducible assumption) | (with_reducible refine sub_cons ?_ ?_) | (with_reducible refine sub_app ?_ ?_) | (with_reducible refine sub_more ?_) | (with_reducible exact sub_left) | (with_reducible refine sub_right ?_) | (with_reducible exact List.mem_cons_self) | (with_reducible refine List.mem_cons_of_mem _ ?_) | (with_reducible refine List.mem_append_right _ ?_))
  refine LCg.CompSrc.ledger rfl F5 N5 (.head _) (by rw [List.size_toArray, List.length_map, sizeLine_eq]; omega) fun g => ?_
  refine comp_build (n := ts.length) (fun i ys => BetOK it ts i ys) ?_ ?_ _ 0 [] (by simp) ⟨rfl, fun j y hj => by simp at hj⟩
  · rintro i ys hi ⟨hy1, hy2⟩ v I oI C oC D' m₂ h tk E' hv hoC hin F6 N6 hoff
    obtain ⟨x, hx⟩ : ∃ x, ts[i]? = some x := ⟨ts[i], by simp [hi]⟩
    have hv' : v = Value.bool (betw it x.2) := by
      have : (ts.map (fun x => Value.bool (betw it x.2)))[i]? = some v := by simpa using hv
      rw [List.getElem?_map, hx] at this
      injection this with this
      exact this.symm
    subst hv'
    clear hv
    have hfin : ∀ (t9 : Tok) (h6 : Heap) (sx : Shared) (tkx : Nat), Fr h₀ L h6 (fun z => if z = Str.ofString "between" then some (Value.ref DB) else if z = Str.ofString "answers" then some (Value.ref DA) else if z = Str.ofString "label" then some (Value.str (lab it.label) tlab) else if z = Str.ofString "told" then some (Value.ref tl) else m z) → News h₀ L h6 ((I, oI) :: (C, oC) :: (D', LCg.lst ys) :: (DB, LCg.lst (ts.map (fun x => Value.bool (betw it x.2)))) :: (DA, LCg.lst ya) :: (L + 1, oe) :: (L + 1 + 1, or3) :: R) → sx = { s with heap := h6, toks := tkx } →
        LCg.CompEnd h₀ L (fun z => if z = Str.ofString "between" then some (Value.ref DB) else if z = Str.ofString "answers" then some (Value.ref DA) else if z = Str.ofString "label" then some (Value.str (lab it.label) tlab) else if z = Str.ofString "told" then some (Value.ref tl) else m z) { s with heap := h, toks := tk } I oI C oC D' (LCg.lst ys) (LCg.SrcAt h₀ DB (ts.map (fun x => Value.bool (betw it x.2))).toArray)
        (fun y nw' => nw' = (DB, LCg.lst (ts.map (fun x => Value.bool (betw it x.2)))) :: (DA, LCg.lst ya) :: (L + 1, oe) :: (L + 1 + 1, or3) :: R ∧ BetOK it ts (i + 1) (ys ++ [y])) (.str (insV (betw it x.2)) t9) sx := by
      rintro t9 h6 sx tkx F7 N7 rfl
      refine ⟨h6, tkx, _, rfl, F7, N7, hoff, .inr ⟨_, .head _, rfl, _, rfl⟩, rfl, ?_, ?_⟩
      · rw [List.length_append, hy1]; rfl
      · intro j y hj
        rw [List.getElem?_append] at hj
        split at hj
        · exact hy2 j y hj
        · rename_i hji
          have hj0 : j = i := by
            have := (List.getElem?_eq_some_iff.mp hj).1
            simp at this
            omega
          subst hj0
          rw [hy1, Nat.sub_self] at hj
          injection hj with hj
          exact ⟨x, t9, hx, hj.symm⟩
    cases hbx : betw it x.2 with
    | true =>
      rw [hbx] at hin hfin
      k_steps
      exact hfin _ _ _ _ (by k_asm) (by k_asm) rfl
    | false =>
      rw [hbx] at hin hfin
      k_steps
      exact hfin _ _ _ _ (by k_asm) (by k_asm) rfl
  rintro yc ⟨hy1, hy2⟩
  intro DC h6 tk6 F6 N6 hoffC
  obtain ⟨hya1, hya2⟩ := hya
  k_dflt (refine lists_alike_ne (xs := ya) (ys := yc) N6 (.tail _ (.tail _ (.head _))) (.head _) (by rw [hya1, hy1]) (by k_units) ?_ ?_)
  · intro j x y hjx hjy
    obtain ⟨z, t, hz, rfl⟩ := hya2 j x hjx
    obtain ⟨z', t', hz', rfl⟩ := hy2 j y hjy
    rw [hz] at hz'
    injection hz' with hz'
    subst hz'
    have hc := hcond z (List.mem_of_getElem? hz)
    have e : ansV it.label z.2.label = insV (betw it z.2) := by unfold ansV insV; rw [hc]
    rw [e]
    have := PySem.SeqAt.EqAt.str_str (A := (callerA.deeper (lawEnv L fa cd)).in1) (s := { s with heap := h6, toks := tk6 }) (insV (betw it z.2)) t (insV (betw it z.2)) t'
    rw [beq_self_eq_true] at this
    exact this
  k_steps
  exact ret _ _ _ _ F6 (fun y y1 y2 => by simp only [if_neg y1, if_neg y2]) (News.sub N6 (by repeat' first | (with_reducible exact sub_nil) | (with_reducible exact sub_self) | (with_reducible assumption) | (with_reducible refine sub_cons ?_ ?_) | (with_reducible refine sub_app ?_ ?_) | (with_reducible refine sub_more ?_) | (with_reducible exact sub_left) | (with_reducible refine sub_right ?_) | (with_reducible exact List.mem_cons_self) | (with_reducible refine List.mem_cons_of_mem _ ?_) | (with_reducible refine List.mem_append_right _ ?_))) ⟨_, hor3⟩

end
end
section
section

open PySem.SeqAt
theorem due_alike {A : Around} {s : Shared} {h₀ : Heap} {L : Addr} {news : List (Addr × Obj)} {x y : Addr × Du} (N : News h₀ L s.heap news) (hx : DueAt news x.1 x.2) (hy : DueAt news y.1 y.2) (he : x.2 = y.2) (hu : A.units < cLine) :
    EqAt A s (.ref x.1) (.ref y.1) true := by
  by_cases hxy : x.1 = y.1
  · rw [hxy]; exact EqAt.same _
  · refine EqAt.of_refs hxy ?_
    obtain ⟨t1, t2, t3, t4, n, hm⟩ := hx
    obtain ⟨u1, u2, u3, u4, k, hm'⟩ := hy
    rw [← he] at hm'
    have hl : s.heap.IsTuple x.1 [Value.int x.2.price t1, Value.int x.2.p t2, Value.int x.2.q t3, Value.str (lab x.2.label) t4].toArray := ⟨_, (N _ hm).1, rfl, n, rfl⟩
    have hb : s.heap.IsTuple y.1 [Value.int x.2.price u1, Value.int x.2.p u2, Value.int x.2.q u3, Value.str (lab x.2.label) u4].toArray := ⟨_, (N _ hm').1, rfl, k, rfl⟩
    have := RcAt.tuples (A := A) (e := fun _ => true) hl hb hu (fun j h1 h2 => by
      have hj : j = 0 ∨ j = 1 ∨ j = 2 ∨ j = 3 := by simp at h1; omega
      rcases hj with rfl | rfl | rfl | rfl
      · have := EqAt.int_int (A := A.in1) (s := s) x.2.price t1 x.2.price u1
        rw [beq_self_eq_true] at this; exact this
      · have := EqAt.int_int (A := A.in1) (s := s) x.2.p t2 x.2.p u2
        rw [beq_self_eq_true] at this; exact this
      · have := EqAt.int_int (A := A.in1) (s := s) x.2.q t3 x.2.q u3
        rw [beq_self_eq_true] at this; exact this
      · have := EqAt.str_str (A := A.in1) (s := s) (lab x.2.label) t4 (lab x.2.label) u4
        rw [beq_self_eq_true] at this; exact this)
    exact this
theorem pick9 {α : Type} (ds : List (Addr × α)) : kms_pick (refsOf ds).toArray.toList none (some 9) = refsOf (ds.take 9) := by
  show ((refsOf ds).drop 0).take (min 9 (refsOf ds).length - 0) = List.map _ (ds.take 9)
  rw [List.drop_zero, Nat.sub_zero, List.map_take, List.take_eq_take_iff]
  show min (min 9 (refsOf ds).length) (refsOf ds).length = min 9 (refsOf ds).length
  omega
def duOf (x : It) : Du := ⟨x.price, x.p, x.q, x.label⟩
theorem tail_c {w : World} {p : Program} {loose : List Str} {mean : ExcName → Option Value} {mg mb : Str → Option Value} {base h₀ : Heap} {L fa : Addr} {cd : Value} {m : Str → Option Value} {s : Shared} {Q : Flow → Shared → Prop} {E : Value → Shared → Prop}
   {R : List (Addr × Obj)} {oe or : Obj} {ve vr : Option Value} {tl dl : Addr} {ts : List (Addr × It)} {ds : List (Addr × Du)} {k n : Nat}
   (B : Below callerA base [] h₀) (F : Fr h₀ L s.heap (fun y => if y = Str.ofString "due" then some (Value.ref dl) else if y = Str.ofString "told" then some (Value.ref tl) else m y)) (X : (hd.heap_39 w.params).In h₀) (T : Top p loose mean mg mb h₀)
   (N : News h₀ L s.heap ((L + 1, oe) :: (L + 1 + 1, or) :: R)) (hoe : oe.data = .cell ve) (hor : or.data = .cell vr)
   (htl : (tl, listOf (refsOf ts).toArray k) ∈ R) (hts : ∀ x ∈ ts, ItemAt R x.1 x.2)
   (hdl : (dl, listOf (refsOf ds).toArray n) ∈ R) (hds : ∀ x ∈ ds, DueAt R x.1 x.2)
   (hne : ∀ q ∈ R, q.1 ≠ L + 1 ∧ q.1 ≠ L + 1 + 1) (hlt : ts.length < 900) (hcmp : ts.map (fun x => duOf x.2) = (ds.take 9).map (·.2)) (hlabs : ∀ x ∈ ts, x.2.label.length < 900 ∧ lab x.2.label ≠ Str.ofString "<string>") (hnd : (ts.map (·.2.label)).Nodup)
   (hbi : ∀ x ∈ ts, (0 ≤ x.2.a ∧ x.2.a ≤ 1000) ∧ (0 ≤ x.2.b ∧ x.2.b ≤ 1000) ∧ (0 ≤ x.2.c ∧ x.2.c ≤ 1000) ∧ 0 ≤ x.2.d ∧ x.2.d ≤ 1000) (hbt : ∀ x ∈ ts, (0 ≤ x.2.p ∧ x.2.p ≤ 1000) ∧ 0 ≤ x.2.q ∧ x.2.q ≤ 1000) (hcond : ∀ y ∈ ts, ∀ x ∈ ts, namesR y.2.label x.2.label = betw y.2 x.2) (hld : ds.length < 900)
   (hE : PassesOwn (model PySem.Challenge.rw_oy0044_01.row.prog w) (callerA.deeper (lawEnv L fa cd)) (lawEnv L fa cd) E)
   (ret : ∀ h' tk' m', Fr h₀ L h' m' → Q (.ret (.bool true)) { s with heap := h', toks := tk' }) :
   wpAny (model PySem.Challenge.rw_oy0044_01.row.prog w) (callerA.deeper (lawEnv L fa cd)) (execs (lawBody.drop 6) (lawEnv L fa cd)) Q E s := by
  w_top off
  k_with_none
  (k_with "subscriptTail" => (k_here; (with_reducible show wpAny _ _ (subscriptTail _ _ (Value.ref _) (Value.int _ _)) _ _ _); (with_unfolding_all refine' kim_list ?k1 ?k2 ?k3 ?k4 ?k5 ?k6 ?k7 ?_ ?k8 ?k9; (case k1 => k_asm); (case k2 => k_mem); (case k3 => exact rfl); (case k4 => exact rfl); (case k5 => decide); (case k6 => decide); (case k7 => exact rfl); (case k8 => with_unfolding_all rfl); (case k9 => intro _; with_unfolding_all rfl); k_whole)))
  (k_with "subscriptTail" => (k_here; (with_reducible show wpAny _ _ (subscriptTail _ _ (Value.ref _) (Value.int _ _)) _ _ _); (with_unfolding_all refine' item_read ?k1 ?k2 ?k3 ?k4 ?k5 ?_ ?k8 ?k9; (case k1 => k_asm); (case k2 => k_mem); (case k3 => with_reducible assumption); (case k4 => with_reducible assumption); (case k5 => with_reducible assumption); (case k8 => with_unfolding_all rfl); (case k9 => intro _; with_unfolding_all rfl); k_whole)))
  (k_with "setItem ref int ref" => (k_here; (with_reducible show wpAny _ _ (setItem (Value.ref _) (Value.int _ _) (Value.ref _)) _ _ _); (refine' item_store ?k1 ?k2 ?k3 ?k4 ?k5 ?k6 ?_; (case k1 => k_asm); (case k2 => k_asm); (case k3 => with_reducible assumption); (case k4 => with_reducible assumption); (case k5 => first | with_reducible assumption | omega); (case k6 => first | with_reducible assumption | omega); k_whole); intro _ _ _; (try k_sweep)))
  (k_with "compareOp Lt ref ref" => (k_here; (with_reducible show wpAny _ _ (compareOp CmpOp.Lt (Value.ref _) (Value.ref _)) _ _ _); (refine' item_ltW ?k1 ?k2 ?k3 ?k4 ?k5 ?_; (case k1 => k_asm); (case k2 => with_reducible assumption); (case k3 => with_reducible assumption); (case k4 => with_reducible assumption); (case k5 => k_units); k_whole)))
  (k_with "call builtin:len" => (k_here; (with_reducible show wpAny _ _ (call (Value.builtin "len") [Value.ref _]) _ _ _); (with_unfolding_all refine' items_len ?k1 ?k2 ?k3 ?_; (case k1 => k_asm); (case k2 => k_mem); (case k3 => with_reducible assumption); k_whole)))
  (k_with "call builtin:list.append" => (k_here; (with_reducible show wpAny _ _ (call (Value.builtin _) [Value.ref _, Value.ref _]) _ _ _); (with_unfolding_all refine' items_append ?k1 ?k2 ?k3 ?k4 ?_; (case k1 => k_asm); (case k2 => k_asm); (case k3 => with_reducible assumption); (case k4 => with_reducible assumption); k_whole); intro _ _ _; (try k_sweep)))
  (k_with "binaryOp Add str str" => (k_here; (with_reducible show wpAny _ _ (binaryOp _ (Value.str (Str.mk (List.toArray _)) _) (Value.str (Str.ofString _) _)) _ _ _); (refine' lab_add ?k1 ?k2 ?k3 ?_; (case k1 => first | with_reducible exact lit_do | with_reducible exact lit_doo | with_reducible exact lit_dot); (case k2 => first | with_reducible assumption | omega); (case k3 => decide); k_whole); intro _ _))
  (k_with "compareOp NotEq ref ref" => (k_here; (with_reducible show wpAny _ _ (compareOp CmpOp.NotEq (Value.ref _) (Value.ref _)) _ _ _); (with_unfolding_all refine' same_ne ?k1 ?k2 ?k3 ?_; (case k1 => k_asm); (case k2 => k_mem); (case k3 => k_units); k_whole)))
  (k_with "call ref" => ((with_reducible show wpAny _ _ (call (Value.ref _) _) _ _ _); refine Halt.go ?_))
  (k_with "exec Assign cons ListComp" => refine Halt.go ?_)
  (k_with "eval ListComp" => refine Halt.go ?_)
  (k_with "subscriptTail Name Slice ref ref" => refine Halt.go ?_)
  (k_with "storeName" => refine Halt.go ?_)
  (k_with "pyIter ref" => refine Halt.go ?_)
  (k_with "exec For" => refine Halt.go ?_)
  (k_with "compareOp NotEq ref ref" => refine Halt.go ?_)
  revert X; k_fill; intro X
  have hsc : lawScope = lawScope := rfl
  conv at hsc => rhs; whnf
  have hb : lawBody.drop 6 = lawBody.drop 6 := rfl
  conv at hb => rhs; whnf
  dsimp only [lawEnv]
  rw [hsc, hb]
  clear hsc hb
  k_steps
  unfold Halt
  k_dflt (refine compN_eval (xs := [(Str.ofString "price", _), (Str.ofString "p", _), (Str.ofString "q", _), (Str.ofString "ends", _), (Str.ofString "label", _)]) (cl := []) (F₀ := F) (by with_unfolding_all rfl) (by decide) rfl (by decide) (by decide) (by decide) ?_)
  k_steps
  refine ⟨tl, (refsOf ts).toArray, (L + 1, oe) :: (L + 1 + 1, or) :: R, rfl, rfl, by k_asm, by k_asm, ?_, fun i ys nw => (∀ q ∈ (L + 1, oe) :: (L + 1 + 1, or) :: R, q ∈ nw) ∧ ∃ zs : List (Addr × Du), ys = refsOf zs ∧ (∀ z ∈ zs, DueAt nw z.1 z.2) ∧ zs.map (·.2) = (ts.take i).map fun x => duOf x.2, ?_, ?_, ?_, ?_⟩
  · rw [List.size_toArray, List.length_map, sizeLine_eq]; omega
  · exact ⟨fun q h => h, [], rfl, (by intro z hz; simp at hz), rfl⟩
  · rintro i ys nw ⟨hnw, -⟩
    exact ⟨k, hnw _ (.tail _ (.tail _ htl))⟩
  · rintro s₂ ⟨hh, rfl⟩ i v ys nw hv ⟨hnw, zs, hys, hzs, hzm⟩
    have hv' : (refsOf ts)[i]? = some v := by simpa using hv
    rw [List.getElem?_map] at hv'
    cases hx : ts[i]? with
    | none => rw [hx] at hv'; cases hv'
    | some x =>
    rw [hx] at hv'
    injection hv' with hv'
    subst hv'
    obtain ⟨es, q1, q2, q3, q4, qn, hmx, -⟩ := hts x (List.mem_of_getElem? hx)
    refine ⟨x.1, _, qn, rfl, hnw _ (.tail _ (.tail _ hmx)), rfl, ?_⟩
    intro I oI C oC D' m₂ h tk E' hoC hm₂ F4 N4 hoff
    have h1 : m₂ (Str.ofString "price") = some (Value.int x.2.price q1) := hm₂ _ (.head _)
    have h2 : m₂ (Str.ofString "p") = some (Value.int x.2.p q2) := hm₂ _ (.tail _ (.head _))
    have h3 : m₂ (Str.ofString "q") = some (Value.int x.2.q q3) := hm₂ _ (.tail _ (.tail _ (.head _)))
    have h4 : m₂ (Str.ofString "label") = some (Value.str (lab x.2.label) q4) := hm₂ _ (.tail _ (.tail _ (.tail _ (.tail _ (.head _)))))
    clear hm₂ hv
    k_steps
    rename_i Dt ht Ft Nt lt
    obtain ⟨lt1, lt2, lt3, -⟩ := lt
    refine ⟨ht, _, (Dt, tupOf [Value.int x.2.price q1, Value.int x.2.p q2, Value.int x.2.q q3, Value.str (lab x.2.label) q4] 0) :: nw, rfl, Ft, News.sub Nt ?_, ⟨⟨Nat.ne_of_gt lt1, Nat.ne_of_gt lt2, Nat.ne_of_gt lt3⟩, hoff⟩, fun q hq => .tail _ (hnw q hq), zs ++ [(Dt, duOf x.2)], ?_, ?_, ?_⟩
    · repeat' first | (with_reducible exact sub_nil) | (with_reducible exact sub_self) | (with_reducible assumption) | (with_reducible refine sub_cons ?_ ?_) | (with_reducible refine sub_app ?_ ?_) | (with_reducible refine sub_more ?_) | (with_reducible exact sub_left) | (with_reducible refine sub_right ?_) | (with_reducible exact List.mem_cons_self) | (with_reducible refine List.mem_cons_of_mem _ ?_) | (with_reducible refine List.mem_append_right _ ?_)
    · rw [hys]; show _ = List.map _ (zs ++ _); rw [List.map_append]; rfl
    · intro z hz
      rcases List.mem_append.mp hz with hz | hz
      · exact (hzs z hz).mono fun q hq => .tail _ hq
      · rw [List.mem_singleton.mp hz]
        exact ⟨_, _, _, _, _, .head _⟩
    · rw [List.map_append, hzm, List.take_add_one, hx, List.map_append]; rfl
  rintro s₂ ⟨hh, rfl⟩ DA ya nw ⟨hnw, zs, rfl, hzs, hzm⟩
  rw [List.size_toArray, List.length_map, List.take_length] at hzm
  intro h4 tk4 F4 N4 hneA
  dsimp only
  clear F N
  k_steps
  unfold Halt
  have hmd : (dl, listOf (refsOf ds).toArray n) ∈ (DA, LCg.lst (refsOf zs)) :: nw := .tail _ (hnw _ (.tail _ (.tail _ hdl)))
  with_unfolding_all refine kms_slice_lit (its := (refsOf ds).toArray) F4 N4 ⟨_, (N4 _ hmd).1, rfl, n, rfl⟩ IsPart.none (IsPart.int _ _) (pick9 ds) ?_ ?_ ?_ ?_
  rotate_left
  · with_unfolding_all rfl
  · intro _; with_unfolding_all rfl
  · rw [List.size_toArray, List.length_map, sizeLine_eq]; omega
  intro DB h5 F5 N5 ltB
  dsimp only
  have hlen : zs.length = (ds.take 9).length := by
    have := congrArg List.length (hzm.trans hcmp)
    rw [List.length_map, List.length_map] at this
    exact this
  refine lists_alike_ne (xs := refsOf zs) (ys := refsOf (ds.take 9)) N5 (.tail _ (.head _)) (.head _) (by rw [List.length_map, List.length_map, hlen]) (by k_units) ?_ ?_
  · intro j x y hjx hjy
    rw [List.getElem?_map] at hjx hjy
    cases hz : zs[j]? with
    | none => rw [hz] at hjx; cases hjx
    | some z =>
    cases hd : (ds.take 9)[j]? with
    | none => rw [hd] at hjy; cases hjy
    | some d =>
    rw [hz] at hjx
    rw [hd] at hjy
    injection hjx with hjx
    injection hjy with hjy
    subst hjx hjy
    refine due_alike N5 ((hzs z (List.mem_of_getElem? hz)).mono fun q hq => .tail _ (.tail _ hq)) ((hds d (List.mem_of_mem_take (List.mem_of_getElem? hd))).mono fun q hq => .tail _ (.tail _ (hnw q (.tail _ (.tail _ hq))))) ?_ (by k_units)
    have := congrArg (fun l => l[j]?) (hzm.trans hcmp)
    simp only [List.getElem?_map, hz, hd, Option.map_some] at this
    injection this
  k_steps
  unfold Halt
  have N6 := News.sub (l' := (L + 1, oe) :: (L + 1 + 1, or) :: R) N5 (fun q hq => .tail _ (.tail _ (hnw q hq)))
  clear N5 N4 F4
  k_dflt (refine For_turns F5 ?_ (hE := hE))
  k_steps
  unfold Halt
  have hmt : (tl, listOf (refsOf ts).toArray k) ∈ (L + 1, oe) :: (L + 1 + 1, or) :: R := .tail _ (.tail _ htl)
  refine wpAny_pyIter_list (items := (refsOf ts).toArray) ⟨_, (N6 _ hmt).1, rfl, k, rfl⟩ ?_
  have hmr : (L + 1 + 1, or) ∈ (L + 1, oe) :: (L + 1 + 1, or) :: R := .tail _ (.head _)
  have hme : (L + 1, oe) ∈ (L + 1, oe) :: (L + 1 + 1, or) :: R := .head _
  have hsz : ∀ q ∈ (L + 1, oe) :: (L + 1 + 1, or) :: R, q.1 < h5.objs.size := fun q hq => Heap.lt_size (N6 q hq).1
  have hIe : h5.objs.size ≠ L + 1 := Nat.ne_of_gt (hsz _ hme)
  have hIr : h5.objs.size ≠ L + 1 + 1 := Nat.ne_of_gt (hsz _ hmr)
  have hvals : ∀ j : Nat, ∃ vs : List Value, ∀ x, ts[j]? = some x → ∃ ea t1 t2 t3 t4 n, vs = [Value.int x.2.price t1, Value.int x.2.p t2, Value.int x.2.q t3, Value.ref ea, Value.str (lab x.2.label) t4] ∧ (x.1, tupOf vs n) ∈ R ∧ EndsAt R ea x.2.a x.2.b x.2.c x.2.d := by
    intro j
    cases hx : ts[j]? with
    | none => exact ⟨[], fun x h => by cases h⟩
    | some x =>
      obtain ⟨ea, t1, t2, t3, t4, n, hm, he⟩ := hts x (List.mem_of_getElem? hx)
      refine ⟨[Value.int x.2.price t1, Value.int x.2.p t2, Value.int x.2.q t3, Value.ref ea, Value.str (lab x.2.label) t4], fun y hy => ?_⟩
      injection hy with hy
      subst hy
      exact ⟨ea, t1, t2, t3, t4, n, rfl, hm, he⟩
  obtain ⟨vals, hvals⟩ := Classical.axiomOfChoice hvals
  obtain ⟨Ts, hTs⟩ : ∃ Ts : Nat → Addr, ∀ j x, ts[j]? = some x → Ts j = x.1 := ⟨fun j => match ts[j]? with | some x => x.1 | none => 0, fun j x h => by simp only [h]⟩
  have hTR : ∀ j, j < ts.length → ∃ o, (Ts j, o) ∈ R := by
    intro j hj
    have hx : ts[j]? = some ts[j] := by simp [hj]
    obtain ⟨ea, t1, t2, t3, t4, n, hv, hm, he⟩ := hvals j _ hx
    rw [hTs j _ hx]
    exact ⟨_, hm⟩
  have hRI : ∀ q ∈ R, q.1 ≠ h5.objs.size := fun q hq => Nat.ne_of_lt (hsz q (.tail _ (.tail _ hq)))
  have hfp : ∀ b ∈ h5.objs.size :: tl :: (List.range (refsOf ts).toArray.size).map Ts, b ≠ L + 1 ∧ b ≠ L + 1 + 1 ∧ b ≠ L := by
    intro b hb
    rcases List.mem_cons.mp hb with h | hb
    · rw [h]; exact ⟨hIe, hIr, Nat.ne_of_gt F5.ns.lt⟩
    · rcases List.mem_cons.mp hb with h | hb
      · rw [h]; exact ⟨(hne _ htl).1, (hne _ htl).2, (N6 _ hmt).2.1⟩
      · obtain ⟨j, hj, rfl⟩ := List.mem_map.mp hb
        rw [List.mem_range, List.size_toArray, List.length_map] at hj
        obtain ⟨o, ho⟩ := hTR j hj
        exact ⟨(hne _ ho).1, (hne _ ho).2, (N6 _ (.tail _ (.tail _ ho))).2.1⟩
  refine ⟨h5.objs.size, _, [h5.objs.size], (refsOf ts).toArray.size, _, _, _, _, (L + 1, oe) :: (L + 1 + 1, or) :: R,
    fun i m₁ nw => (∀ y, y ≠ Str.ofString "price" → y ≠ Str.ofString "p" → y ≠ Str.ofString "q" → y ≠ Str.ofString "label" → y ≠ Str.ofString "answers" → y ≠ Str.ofString "between" → m₁ y = (fun y => if y = Str.ofString "due" then some (Value.ref dl) else if y = Str.ofString "told" then some (Value.ref tl) else m y) y) ∧ ∃ oe' or' ve' vr', nw = (L + 1, oe') :: (L + 1 + 1, or') :: R ∧ oe'.data = .cell ve' ∧ or'.data = .cell vr',
    rfl, KTurns.ofWalksU (WalksU.listOfTuples rfl h5.objs.size tl (hRI _ htl) (refsOf ts).toArray Ts (fun j => (vals j).toArray) ?_ ?_), fun h => (hfp _ h).2.2 rfl, ?_, ?_, ⟨⟨_, Heap.get?_push_size _ rfl, rfl, rfl⟩, ?_, ?_⟩, F5.push _, (fun p hp => ⟨Heap.get?_push_of_some _ (N6 p hp).1, (N6 p hp).2⟩), ⟨fun y _ _ _ _ _ _ => rfl, oe, or, ve, vr, rfl, hoe, hor⟩, ?_, ?_⟩
  · intro j hj
    have hj' : j < ts.length := by rw [List.size_toArray, List.length_map] at hj; exact hj
    rw [hTs j ts[j] (by simp [hj'])]
    simp [hj']
  · intro j hj
    rw [List.size_toArray, List.length_map] at hj
    obtain ⟨o, ho⟩ := hTR j hj
    exact hRI _ ho
  · intro b hb
    rw [List.mem_singleton.mp hb]
    exact next_is_new F5
  · intro q hq hI
    exact absurd (hsz q hq) ((List.mem_singleton.mp hI) ▸ Nat.lt_irrefl _)
  · exact Heap.IsList.push ⟨_, (N6 _ hmt).1, rfl, k, rfl⟩ _
  · intro j hj
    rw [List.size_toArray, List.length_map] at hj
    have hx : ts[j]? = some ts[j] := by simp [hj]
    obtain ⟨ea, t1, t2, t3, t4, n, hv, hm, he⟩ := hvals j _ hx
    rw [hTs j _ hx]
    exact ⟨_, Heap.get?_push_of_some _ (N6 _ (.tail _ (.tail _ hm))).1, rfl, n, rfl⟩
  · rintro i v m₁ news₁ h₁ tk₁ own hi hP ⟨hm₁, oe', or', ve', vr', rfl, hoe', hor'⟩ hnwr hown hownh hownI hst F₁ N₁
    rw [List.size_toArray, List.length_map] at hi
    obtain ⟨T1, vs, rfl, rfl, hT1⟩ := hP
    have hx : ts[i]? = some ts[i] := by simp [hi]
    obtain ⟨x, hxe⟩ : ∃ x, x = ts[i] := ⟨_, rfl⟩
    rw [← hxe] at hx
    obtain ⟨ea, t1, t2, t3, t4, nt, hv, hmx, hea⟩ := hvals i x hx
    rw [hv] at hT1
    have N₁ := News.sub (l' := (L + 1, oe') :: (L + 1 + 1, or') :: (own ++ R)) N₁ (by repeat' first | (with_reducible exact sub_nil) | (with_reducible exact sub_self) | (with_reducible assumption) | (with_reducible refine sub_cons ?_ ?_) | (with_reducible refine sub_app ?_ ?_) | (with_reducible refine sub_more ?_) | (with_reducible exact sub_left) | (with_reducible refine sub_right ?_) | (with_reducible exact List.mem_cons_self) | (with_reducible refine List.mem_cons_of_mem _ ?_) | (with_reducible refine List.mem_append_right _ ?_))
    have hno : ∀ q ∈ own ++ R, q.1 ≠ L + 1 ∧ q.1 ≠ L + 1 + 1 := by
      intro q hq
      rcases List.mem_append.mp hq with hq | hq
      · have := hfp _ (hown q hq)
        exact ⟨this.1, this.2.1⟩
      · exact hne q hq
    obtain ⟨R9, hR9⟩ : ∃ R9, R9 = own ++ R := ⟨_, rfl⟩
    rw [← hR9] at N₁ hno
    have hRR9 : ∀ q ∈ R, q ∈ R9 := fun q hq => by rw [hR9]; exact List.mem_append.mpr (.inr hq)
    obtain ⟨u, hu⟩ : ∃ u : Str → Option Value, u = m₁ := ⟨_, rfl⟩
    rw [← hu] at F₁ hm₁
    clear hu
    clear N6 F5
    refine assign_Tuple_tuple rfl hT1 (by with_unfolding_all rfl) (by with_unfolding_all rfl) fun h₂ hex => ?_
    have hk : ∀ b o, h₁.get? b = some o → h₂.get? b = some o := fun b o e => hex b o (Nat.ne_of_lt (Heap.lt_size e)) e
    have F2 := F₁.keeps hk
    have N2 := N₁.grown hk
    clear F₁ N₁
    k_steps
    unfold Halt
    refine storeX_L F2 N2 ?_
    clear F2 N2
    intro h3 F3 N3
    k_steps
    unfold Halt
    refine storeX_L F3 N3 ?_
    clear F3 N3
    intro h4 F4 N4
    k_steps
    unfold Halt
    refine storeX_L F4 N4 ?_
    clear F4 N4
    intro h5 F5 N5
    k_steps
    unfold Halt
    refine storeX_C (c := L + 1) F5 N5 rfl (UpdF.head ?_) hoe' ?_
    · intro q hq
      rcases List.mem_cons.mp hq with h | h
      · rw [h]; exact Nat.ne_of_gt (Nat.lt_succ_self _)
      · exact (hno q h).1
    clear F5 N5
    intro h6 oe6 F6 N6 hoe6
    k_steps
    unfold Halt
    refine storeX_L F6 N6 ?_
    clear F6 N6
    intro h7 F7 N7
    refine assignInOrder_nil ?_
    dsimp only
    have hxm : x ∈ ts := List.mem_of_getElem? hx
    have htold : u (Str.ofString "told") = some (Value.ref tl) := by
      rw [hm₁ _ (by decide) (by decide) (by decide) (by decide) (by decide) (by decide)]
      rfl
    have F8 := Fr.as F7 (m' := fun y => if y = Str.ofString "label" then some (Value.str (lab x.2.label) t4) else if y = Str.ofString "told" then some (Value.ref tl) else (fun y => if y = Str.ofString "label" then some (Value.str (lab x.2.label) t4) else if y = Str.ofString "q" then some (Value.int x.2.q t3) else if y = Str.ofString "p" then some (Value.int x.2.p t2) else if y = Str.ofString "price" then some (Value.int x.2.price t1) else u y) y) (by
      funext y
      by_cases y1 : y = Str.ofString "label"
      · simp only [if_pos y1]
      · by_cases y2 : y = Str.ofString "told"
        · subst y2
          simp only [if_neg y1, if_true]
          rw [if_neg (by decide), if_neg (by decide), if_neg (by decide), htold]
        · simp only [if_neg y1, if_neg y2])
    clear F7
    refine turn_c (it := x.2) (ts := ts) (k := k) B F8 X T N7 hoe6 hor' (hea.mono hRR9) (hRR9 _ htl) (fun z hz => (hts z hz).mono hRR9) (fun q hq => (hno q hq).2) hlt hlabs hnd (hbi x hxm) hbt (fun z hz => hcond x hxm z hz) ?_ (hlabs x hxm).1
    rintro h9 tk9 m9 or9 F9 hm9 N9 ⟨vr9, hor9⟩
    refine ⟨rfl, h9, tk9, m9, (L + 1, oe6) :: (L + 1 + 1, or9) :: R, rfl, F9, News.sub N9 ?_, ?_, ?_, oe6, or9, _, vr9, rfl, hoe6, hor9⟩
    · rw [hR9]; repeat' first | (with_reducible exact sub_nil) | (with_reducible exact sub_self) | (with_reducible assumption) | (with_reducible refine sub_cons ?_ ?_) | (with_reducible refine sub_app ?_ ?_) | (with_reducible refine sub_more ?_) | (with_reducible exact sub_left) | (with_reducible refine sub_right ?_) | (with_reducible exact List.mem_cons_self) | (with_reducible refine List.mem_cons_of_mem _ ?_) | (with_reducible refine List.mem_append_right _ ?_)
    · intro q hq hI
      rw [List.mem_singleton] at hI
      rcases List.mem_cons.mp hq with h | h
      · rw [h] at hI; exact hIe hI.symm
      · rcases List.mem_cons.mp h with h | h
        · rw [h] at hI; exact hIr hI.symm
        · exact hRI q h hI
    · intro y y1 y2 y3 y4 y5 y6
      rw [hm9 y y6 y5]
      simp only [if_neg y4, if_neg y3, if_neg y2, if_neg y1]
      rw [hm₁ y y1 y2 y3 y4 y5 y6]
      by_cases y7 : y = Str.ofString "told"
      · subst y7
        simp only [if_true]
        rfl
      · simp only [if_neg y7]
  · rintro h' tk' m' news' F' N' hnw' -
    k_steps
    exact ret _ _ _ (by k_asm)

end
end
section
section

theorem seq_last {n : Nat} (h : 0 < n) : seqIndex? (-1) n = some (n - 1) := by
  unfold seqIndex?
  simp only [show ((-1 : Int) < 0) by decide, if_true]
  rw [if_pos (by simp; omega)]
  congr 1
  omega
theorem ItemAt.tups {l l' : List (Addr × Obj)} {x : Addr} {i : It} (h : ItemAt l x i) (hs : ∀ y vs n, (y, tupOf vs n) ∈ l → (y, tupOf vs n) ∈ l') : ItemAt l' x i := by
  obtain ⟨ea, t1, t2, t3, t4, n, hm, ta, tb, tc, td, n', hm'⟩ := h
  exact ⟨ea, t1, t2, t3, t4, n, hs _ _ _ hm, ta, tb, tc, td, n', hs _ _ _ hm'⟩
theorem DueAt.tups {l l' : List (Addr × Obj)} {x : Addr} {i : Du} (h : DueAt l x i) (hs : ∀ y vs n, (y, tupOf vs n) ∈ l → (y, tupOf vs n) ∈ l') : DueAt l' x i := by
  obtain ⟨t1, t2, t3, t4, n, hm⟩ := h
  exact ⟨t1, t2, t3, t4, n, hs _ _ _ hm⟩
theorem no_cells {ap : List (Addr × Obj)} {q : Addr × Obj} {e1 e2 : Addr} {oe or : Obj} {ve vr : Option Value} {R : List (Addr × Obj)} (hoe : oe.data = .cell ve) (hor : or.data = .cell vr) {y : Addr} {vs : List Value} {n : Nat}
    (h : (y, tupOf vs n) ∈ ap ++ q :: (e1, oe) :: (e2, or) :: R) : (y, tupOf vs n) ∈ ap ++ q :: R := by
  rcases List.mem_append.mp h with h | h
  · exact List.mem_append.mpr (.inl h)
  · rcases List.mem_cons.mp h with h | h
    · exact List.mem_append.mpr (.inr (h ▸ .head _))
    · rcases List.mem_cons.mp h with h | h
      · injection h with _ h
        rw [← h] at hoe
        cases hoe
      · rcases List.mem_cons.mp h with h | h
        · injection h with _ h
          rw [← h] at hor
          cases hor
        · exact List.mem_append.mpr (.inr (.tail _ h))
theorem mid_c {w : World} {p : Program} {loose : List Str} {mean : ExcName → Option Value} {mg mb : Str → Option Value} {base h₀ : Heap} {L fa : Addr} {cd : Value} {m : Str → Option Value} {s : Shared} {Q : Flow → Shared → Prop} {E : Value → Shared → Prop}
   {R : List (Addr × Obj)} {oe or : Obj} {ve vr : Option Value} {pa : Addr} {pn : Nat} {p0 p1 a b c d : Int} {t0 t1 ta tb tc td : Tok} {ts : List It} {ds : List Du} {t9 : It}
   (B : Below callerA base [] h₀) (F : Fr h₀ L s.heap (fun y => if y = Str.ofString "d" then some (Value.int d td) else if y = Str.ofString "c" then some (Value.int c tc) else if y = Str.ofString "b" then some (Value.int b tb) else if y = Str.ofString "a" then some (Value.int a ta) else if y = Str.ofString "prices" then some (Value.ref pa) else m y)) (X : (hd.heap_39 w.params).In h₀) (T : Top p loose mean mg mb h₀)
   (N : News h₀ L s.heap ((L + 1, oe) :: (L + 1 + 1, or) :: R)) (hoe : oe.data = .cell ve) (hor : or.data = .cell vr)
   (hpa : (pa, listOf [Value.int p0 t0, Value.int p1 t1].toArray pn) ∈ R)
   (hne : ∀ q ∈ R, q.1 ≠ L + 1 ∧ q.1 ≠ L + 1 + 1) (h1 : 0 ≤ p0 ∧ p0 ≤ 3 ∧ 0 ≤ p1 ∧ p1 ≤ 3)
   (hrun : toldRun p0 p1 a b c d = some ts) (hlast : ts.getLast? = some t9) (hdue : dueRun p0 p1 a b c d t9.price = some ds)
   (hlt : ts.length < 900) (hld : ds.length < 900) (hcmp : ts.map duOf = ds.take 9) (hlabs : ∀ x ∈ ts, x.label.length < 900 ∧ lab x.label ≠ Str.ofString "<string>") (hnd : (ts.map (·.label)).Nodup)
   (hbi : ∀ x ∈ ts, (0 ≤ x.a ∧ x.a ≤ 1000) ∧ (0 ≤ x.b ∧ x.b ≤ 1000) ∧ (0 ≤ x.c ∧ x.c ≤ 1000) ∧ 0 ≤ x.d ∧ x.d ≤ 1000) (hbt : ∀ x ∈ ts, (0 ≤ x.p ∧ x.p ≤ 1000) ∧ 0 ≤ x.q ∧ x.q ≤ 1000) (hcond : ∀ y ∈ ts, ∀ x ∈ ts, namesR y.label x.label = betw y x)
   (hE : PassesOwn (model PySem.Challenge.rw_oy0044_01.row.prog w) (callerA.deeper (lawEnv L fa cd)) (lawEnv L fa cd) E)
   (ret : ∀ h' tk' m', Fr h₀ L h' m' → Q (.ret (.bool true)) { s with heap := h', toks := tk' }) :
   wpAny (model PySem.Challenge.rw_oy0044_01.row.prog w) (callerA.deeper (lawEnv L fa cd)) (execs (lawBody.drop 3) (lawEnv L fa cd)) Q E s := by
  w_top off
  k_with_none
  (k_with "subscriptTail" => (k_here; (with_reducible show wpAny _ _ (subscriptTail _ _ (Value.ref _) (Value.int _ _)) _ _ _); (with_unfolding_all refine' kim_list ?k1 ?k2 ?k3 ?k4 ?k5 ?k6 ?k7 ?_ ?k8 ?k9; (case k1 => k_asm); (case k2 => k_mem); (case k3 => exact rfl); (case k4 => exact rfl); (case k5 => decide); (case k6 => decide); (case k7 => exact rfl); (case k8 => with_unfolding_all rfl); (case k9 => intro _; with_unfolding_all rfl); k_whole)))
  (k_with "subscriptTail" => (k_here; (with_reducible show wpAny _ _ (subscriptTail _ _ (Value.ref _) (Value.int _ _)) _ _ _); (with_unfolding_all refine' item_read ?k1 ?k2 ?k3 ?k4 ?k5 ?_ ?k8 ?k9; (case k1 => k_asm); (case k2 => k_mem); (case k3 => with_reducible assumption); (case k4 => with_reducible assumption); (case k5 => with_reducible assumption); (case k8 => with_unfolding_all rfl); (case k9 => intro _; with_unfolding_all rfl); k_whole)))
  (k_with "setItem ref int ref" => (k_here; (with_reducible show wpAny _ _ (setItem (Value.ref _) (Value.int _ _) (Value.ref _)) _ _ _); (refine' item_store ?k1 ?k2 ?k3 ?k4 ?k5 ?k6 ?_; (case k1 => k_asm); (case k2 => k_asm); (case k3 => with_reducible assumption); (case k4 => with_reducible assumption); (case k5 => first | with_reducible assumption | omega); (case k6 => first | with_reducible assumption | omega); k_whole); intro _ _ _; (try k_sweep)))
  (k_with "compareOp Lt ref ref" => (k_here; (with_reducible show wpAny _ _ (compareOp CmpOp.Lt (Value.ref _) (Value.ref _)) _ _ _); (refine' item_ltW ?k1 ?k2 ?k3 ?k4 ?k5 ?_; (case k1 => k_asm); (case k2 => with_reducible assumption); (case k3 => with_reducible assumption); (case k4 => with_reducible assumption); (case k5 => k_units); k_whole)))
  (k_with "call builtin:len" => (k_here; (with_reducible show wpAny _ _ (call (Value.builtin "len") [Value.ref _]) _ _ _); (with_unfolding_all refine' items_len ?k1 ?k2 ?k3 ?_; (case k1 => k_asm); (case k2 => k_mem); (case k3 => with_reducible assumption); k_whole)))
  (k_with "call builtin:list.append" => (k_here; (with_reducible show wpAny _ _ (call (Value.builtin _) [Value.ref _, Value.ref _]) _ _ _); (with_unfolding_all refine' items_append ?k1 ?k2 ?k3 ?k4 ?_; (case k1 => k_asm); (case k2 => k_asm); (case k3 => with_reducible assumption); (case k4 => with_reducible assumption); k_whole); intro _ _ _; (try k_sweep)))
  (k_with "binaryOp Add str str" => (k_here; (with_reducible show wpAny _ _ (binaryOp _ (Value.str (Str.mk (List.toArray _)) _) (Value.str (Str.ofString _) _)) _ _ _); (refine' lab_add ?k1 ?k2 ?k3 ?_; (case k1 => first | with_reducible exact lit_do | with_reducible exact lit_doo | with_reducible exact lit_dot); (case k2 => first | with_reducible assumption | omega); (case k3 => decide); k_whole); intro _ _))
  (k_with "compareOp NotEq ref ref" => (k_here; (with_reducible show wpAny _ _ (compareOp CmpOp.NotEq (Value.ref _) (Value.ref _)) _ _ _); (with_unfolding_all refine' same_ne ?k1 ?k2 ?k3 ?_; (case k1 => k_asm); (case k2 => k_mem); (case k3 => k_units); k_whole)))
  (k_with "call ref" => ((with_reducible show wpAny _ _ (call (Value.ref _) _) _ _ _); refine Halt.go ?_))
  (k_with "eval ListComp" => refine Halt.go ?_)
  (k_with "pyIter ref" => refine Halt.go ?_)
  (k_with "exec For" => refine Halt.go ?_)
  (k_with "subscriptTail" => ((with_reducible show wpAny _ _ (subscriptTail _ (PySem.Expr.UnaryOp _ _ _) _ _) _ _ _); refine Halt.go ?_))
  (k_with "compareOp Eq ref ref" => refine Halt.go ?_)
  revert X; k_fill; intro X
  have hsc : lawScope = lawScope := rfl
  conv at hsc => rhs; whnf
  have hb : lawBody.drop 3 = lawBody.drop 3 := rfl
  conv at hb => rhs; whnf
  dsimp only [lawEnv]
  rw [hsc, hb]
  clear hsc hb
  k_steps
  unfold Halt
  rename_i ea1 hh1 F1 N1 lt1
  obtain ⟨lt1a, lt1b, lt1c⟩ := lt1
  have lt1c := ktn_ltOf lt1c
  have hhead : (ea1, tupOf [Value.int a ta, Value.int b tb, Value.int c tc, Value.int d td] 0) ∈ (ea1, tupOf [Value.int a ta, Value.int b tb, Value.int c tc, Value.int d td] 0) :: (L + 1, oe) :: (L + 1 + 1, or) :: R := .head _
  k_dflt (refine' wpAny_level ?l1 ?l2 ?l3 ?l4 ?l5 (told_c (res := ts) ?k1 ?k2 ?k3 ?k4 ?k5 ?k6 ?k7 ?f0 ?f1 ?f2 ?f3 ?_))
  case l3 => exact rfl
  case l1 => exact rfl
  case l4 => exact rfl
  case l2 => exact Nat.le_of_ble_eq_true rfl
  case l5 => exact Nat.le_of_ble_eq_true rfl
  case k1 => k_asm
  case k2 => k_asm
  case k3 => k_asm
  case k4 => k_asm
  case k5 => k_asm
  case k6 => exact rfl
  case k7 => exact rfl
  case f0 => exact .tail _ (.tail _ (.tail _ hpa))
  case f1 => exact hhead
  case f2 => exact h1
  case f3 => exact hrun

  intro tl h2 tk2 tsA adds k F2 N2 hdis htl hits hmap
  clear F1 N1
  dsimp only
  obtain ⟨R1, hR1⟩ : ∃ R1, R1 = adds ++ (ea1, tupOf [Value.int a ta, Value.int b tb, Value.int c tc, Value.int d td] 0) :: R := ⟨_, rfl⟩
  have hne1 : ∀ q ∈ R1, q.1 ≠ L + 1 ∧ q.1 ≠ L + 1 + 1 := by
    intro q hq
    rw [hR1] at hq
    rcases List.mem_append.mp hq with hq | hq
    · exact ⟨hdis q hq (L + 1, oe) (.tail _ (.head _)), hdis q hq (L + 1 + 1, or) (.tail _ (.tail _ (.head _)))⟩
    · rcases List.mem_cons.mp hq with h | h
      · rw [h]; exact ⟨Nat.ne_of_gt lt1a, Nat.ne_of_gt lt1b⟩
      · exact hne q h
  have N3 := News.sub (l' := (L + 1, oe) :: (L + 1 + 1, or) :: R1) N2 (by rw [hR1]; repeat' first | (with_reducible exact sub_nil) | (with_reducible exact sub_self) | (with_reducible assumption) | (with_reducible refine sub_cons ?_ ?_) | (with_reducible refine sub_app ?_ ?_) | (with_reducible refine sub_more ?_) | (with_reducible exact sub_left) | (with_reducible refine sub_right ?_) | (with_reducible exact List.mem_cons_self) | (with_reducible refine List.mem_cons_of_mem _ ?_) | (with_reducible refine List.mem_append_right _ ?_))
  have hits1 : ∀ x ∈ tsA, ItemAt R1 x.1 x.2 := by
    intro x hx
    refine (hits x hx).tups fun y vs z hz => ?_
    rw [hR1]
    exact no_cells hoe hor hz
  clear N2
  have hts0 : tsA ≠ [] := by
    rintro rfl
    rw [List.map_nil] at hmap
    rw [← hmap] at hlast
    cases hlast
  k_steps
  unfold Halt
  rename_i tk3 na hh3 F4 N4 lt4
  clear lt4
  refine lists_other_eq (xs := refsOf tsA) (ys := []) N4 (.tail _ (.tail _ (.tail _ (by rw [hR1]; exact List.mem_append.mpr (.inl htl))))) (.head _) (by rw [List.length_map]; exact fun h => hts0 (List.eq_nil_of_length_eq_zero h)) (by k_units) ?_
  have N4 := News.sub (l' := (L + 1, oe) :: (L + 1 + 1, or) :: R1) N4 fun q hq => .tail _ hq
  obtain ⟨x9, hx9, hx9t⟩ : ∃ x9, tsA[tsA.length - 1]? = some x9 ∧ x9.2 = t9 := by
    rw [← hmap, List.getLast?_map, List.getLast?_eq_getElem?] at hlast
    cases hx : tsA[tsA.length - 1]? with
    | none => rw [hx] at hlast; cases hlast
    | some x9 =>
      rw [hx] at hlast
      injection hlast with hlast
      exact ⟨x9, rfl, hlast⟩
  have hlen0 : 0 < tsA.length := List.length_pos_iff.mpr hts0
  have hlenA : tsA.length < 900 := by rw [← hmap, List.length_map] at hlt; exact hlt
  obtain ⟨ea9, v1, v2, v3, v4, n9, hm9, -⟩ := hits1 x9 (List.mem_of_getElem? hx9)
  k_steps
  unfold Halt
  rename_i hp5 hh5 eb5 hh6 F5 N5 lt5
  have hml : (tl, listOf (refsOf tsA).toArray k) ∈ R1 := by rw [hR1]; exact List.mem_append.mpr (.inl htl)
  with_unfolding_all refine kde_neg (vs := refsOf tsA) (j := tsA.length - 1) (v := .ref x9.1) ⟨_, (N5 _ (.tail _ (.tail _ (.tail _ hml)))).1, rfl, k, rfl⟩ (by decide) (by decide) ?_ ?_ ?_ (by with_unfolding_all rfl)
  · rw [List.length_map]; exact seq_last hlen0
  · rw [List.getElem?_map, hx9]; rfl
  k_steps
  unfold Halt

  obtain ⟨lt5a, lt5b, lt5c⟩ := lt5
  have lt5c := ktn_ltOf lt5c
  have hpa1 : (pa, listOf [Value.int p0 t0, Value.int p1 t1].toArray pn) ∈ R1 := by rw [hR1]; exact List.mem_append.mpr (.inr (.tail _ hpa))
  have hhead2 : (eb5, tupOf [Value.int a ta, Value.int b tb, Value.int c tc, Value.int d td] 0) ∈ (eb5, tupOf [Value.int a ta, Value.int b tb, Value.int c tc, Value.int d td] 0) :: (L + 1, oe) :: (L + 1 + 1, or) :: R1 := .head _
  rw [← hx9t] at hdue
  k_dflt (refine' wpAny_level ?l1 ?l2 ?l3 ?l4 ?l5 (due_c (res := ds) ?k1 ?k2 ?k3 ?k4 ?k5 ?k6 ?k7 ?f0 ?f1 ?f2 ?_))
  case l3 => exact rfl
  case l1 => exact rfl
  case l4 => exact rfl
  case l2 => exact Nat.le_of_ble_eq_true rfl
  case l5 => exact Nat.le_of_ble_eq_true rfl
  case k1 => k_asm
  case k2 => k_asm
  case k3 => k_asm
  case k4 => k_asm
  case k5 => k_asm
  case k6 => exact rfl
  case k7 => exact rfl
  case f0 => exact .tail _ (.tail _ (.tail _ hpa1))
  case f1 => exact hhead2
  case f2 => exact hdue

  intro dl h7 tk7 dsA adds2 k2 F7 N7 hdis2 hdl hdsA hmapd
  dsimp only
  clear F5 N5
  refine storeX_L F7 N7 ?_
  intro h8 F8 N8
  dsimp only
  clear F7 N7
  obtain ⟨R2, hR2⟩ : ∃ R2, R2 = adds2 ++ (eb5, tupOf [Value.int a ta, Value.int b tb, Value.int c tc, Value.int d td] 0) :: R1 := ⟨_, rfl⟩
  have hne2 : ∀ q ∈ R2, q.1 ≠ L + 1 ∧ q.1 ≠ L + 1 + 1 := by
    intro q hq
    rw [hR2] at hq
    rcases List.mem_append.mp hq with hq | hq
    · exact ⟨hdis2 q hq (L + 1, oe) (.tail _ (.head _)), hdis2 q hq (L + 1 + 1, or) (.tail _ (.tail _ (.head _)))⟩
    · rcases List.mem_cons.mp hq with h | h
      · rw [h]; exact ⟨Nat.ne_of_gt lt5a, Nat.ne_of_gt lt5b⟩
      · exact hne1 q h
  have N9 := News.sub (l' := (L + 1, oe) :: (L + 1 + 1, or) :: R2) N8 (by rw [hR2]; repeat' first | (with_reducible exact sub_nil) | (with_reducible exact sub_self) | (with_reducible assumption) | (with_reducible refine sub_cons ?_ ?_) | (with_reducible refine sub_app ?_ ?_) | (with_reducible refine sub_more ?_) | (with_reducible exact sub_left) | (with_reducible refine sub_right ?_) | (with_reducible exact List.mem_cons_self) | (with_reducible refine List.mem_cons_of_mem _ ?_) | (with_reducible refine List.mem_append_right _ ?_))
  have hR12 : ∀ q ∈ R1, q ∈ R2 := fun q hq => by rw [hR2]; exact List.mem_append.mpr (.inr (.tail _ hq))
  have hin : ∀ x ∈ tsA, x.2 ∈ ts := fun x hx => by rw [← hmap]; exact List.mem_map_of_mem hx
  refine tail_c (ts := tsA) (ds := dsA) (R := R2) (tl := tl) (dl := dl) (k := k) (n := k2) B F8 X T N9 hoe hor (hR12 _ hml) (fun x hx => (hits1 x hx).mono hR12) (by rw [hR2]; exact List.mem_append.mpr (.inl hdl)) ?_ hne2 hlenA ?_ ?_ ?_ ?_ ?_ ?_ ?_ hE ?_
  · intro x hx
    refine (hdsA x hx).tups fun y vs z hz => ?_
    rw [hR2]
    exact no_cells hoe hor hz
  · rw [← hmap, ← hmapd, List.map_map] at hcmp
    rw [List.map_take]
    exact hcmp
  · exact fun x hx => hlabs x.2 (hin x hx)
  · rw [← hmap, List.map_map] at hnd; exact hnd
  · exact fun x hx => hbi x.2 (hin x hx)
  · exact fun x hx => hbt x.2 (hin x hx)
  · exact fun y hy x hx => hcond y.2 (hin y hy) x.2 (hin x hx)
  · rw [← hmapd, List.length_map] at hld; exact hld
  · exact fun h' tk' m' F' => ret h' tk' m' F'

end
end
section
section
theorem iter_ledger {prog : Program} {w : World} {A : Around} {E : Value → Shared → Prop} {s : Shared} {env : Env} {h₀ : Heap} {x : Str} {body : List Stmt} {Q : Flow → Shared → Prop} {m₀ : Str → Option Value} {news : List (Addr × Obj)} {dl : Addr} {n : Nat} {vs : List Value}
    (J : Nat → (Str → Option Value) → Prop) (hh : A.handled = none) (hm : (dl, listOf vs.toArray n) ∈ news) (F : Fr h₀ env.locals s.heap m₀) (N : News h₀ env.locals s.heap news) (hJ : J 0 m₀)
    (turn : ∀ i v m₁ hp tk own (Q' : Flow → Shared → Prop), vs[i]? = some v → J i m₁ → Fr h₀ env.locals hp (fun y => if y = x then some v else m₁ y) → News h₀ env.locals hp (own ++ news) →
      (∀ hp' tk' m', Fr h₀ env.locals hp' m' → News h₀ env.locals hp' (own ++ news) → J (i + 1) m' → Q' .next { s with heap := hp', toks := tk' }) → wpAny (model prog w) A (execs body env) Q' E { s with heap := hp, toks := tk })
    (done : ∀ hp tk m', Fr h₀ env.locals hp m' → News h₀ env.locals hp news → J vs.length m' → Q .next { s with heap := hp, toks := tk }) :
    wpAny (model prog w) A (pyIter (.ref dl)) (fun it s₂ => LoopAtV prog w A h₀ env x body Q E it s₂) E s := by
  have hl : s.heap.IsList dl vs.toArray := ⟨_, (N _ hm).1, rfl, n, rfl⟩
  have hne : dl ≠ s.heap.objs.size := Nat.ne_of_lt (Heap.lt_size (N _ hm).1)
  refine wpAny_pyIter_list hl ?_
  have W := Walks.list (prog := prog) (w := w) hh s.heap.objs.size dl hne vs.toArray
  refine ⟨_, _, _, _, _, _, m₀, news, fun i m₁ news₁ => news₁ = news ∧ J i m₁, rfl, W, ?_, ?_, ?_, ⟨⟨_, Heap.get?_push_size _ rfl, rfl, rfl⟩, hl.at fun o e => Heap.get?_push_of_some _ e⟩, F.push _, (fun p hp => ⟨Heap.get?_push_of_some _ (N p hp).1, (N p hp).2⟩), ⟨rfl, hJ⟩, ?_, ?_⟩
  · intro hm'
    rcases List.mem_cons.mp hm' with e | hm'
    · exact absurd F.ns.lt (e ▸ Nat.lt_irrefl _)
    · exact absurd (List.mem_singleton.mp hm').symm (N _ hm).2.1
  · intro b hb
    rw [List.mem_singleton.mp hb]
    exact next_is_new F
  · intro p hp hI
    exact absurd (Heap.lt_size (N p hp).1) ((List.mem_singleton.mp hI) ▸ Nat.lt_irrefl _)
  · rintro i v m₁ news₁ s₁ own ⟨hp, tk, rfl⟩ hin hP ⟨rfl, hJi⟩ hnw _ _ _ _ F₁ N₁
    refine turn i v m₁ hp tk own _ (by simpa using hP) hJi F₁ N₁ ?_
    intro hp' tk' m' F' N' hJ'
    exact ⟨rfl, hp', tk', m', _, rfl, F', N', hnw, rfl, hJ'⟩
  · rintro h' tk m' news' F' N' _ ⟨rfl, hJ'⟩
    exact done h' tk m' F' N' (by rw [List.size_toArray] at hJ'; exact hJ')
theorem ints_at {vs : List Value} {ns : List Int} (h : IntsAre vs ns) {i : Nat} {v : Value} (hv : vs[i]? = some v) : ∃ x t, ns[i]? = some x ∧ v = .int x t := by
  induction h generalizing i with
  | nil => cases hv
  | cons n t h ih =>
    cases i with
    | zero =>
      injection hv with hv
      exact ⟨_, _, rfl, hv.symm⟩
    | succ i => exact ih hv
end
end
section
/-! the plain law: the shadow's answers are right in every case -/
def strCodes : List Nat := [60, 115, 116, 114, 105, 110, 103, 62]
theorem lit_string : Str.ofString "<string>" = lab strCodes := by decide +kernel
def itOK (x : It) : Bool := decide (x.label.length < 900) && decide (x.label ≠ strCodes) && okD x.a && okD x.b && okD x.c && okD x.d && okD x.p && okD x.q
def tellOK (ts : List It) (ds : List Du) : Bool :=
  decide (ts.length < 900) && decide (ds.length < 900) && decide (ts.map duOf = ds.take 9) && ts.all itOK && decide (ts.map (·.label)).Nodup && ts.all (fun y => ts.all fun x => namesR y.label x.label == betw y x)
def caseOK (p0 p1 a b c d : Int) : Bool :=
  match toldRun p0 p1 a b c d with
  | none => false
  | some ts => match ts.getLast? with
    | none => false
    | some t => match dueRun p0 p1 a b c d t.price with
      | none => false
      | some ds => tellOK ts ds
theorem caseOK_is {p0 p1 a b c d : Int} (h : caseOK p0 p1 a b c d = true) : ∃ ts t9 ds, toldRun p0 p1 a b c d = some ts ∧ ts.getLast? = some t9 ∧ dueRun p0 p1 a b c d t9.price = some ds ∧
    ts.length < 900 ∧ ds.length < 900 ∧ ts.map duOf = ds.take 9 ∧ (∀ x ∈ ts, x.label.length < 900 ∧ lab x.label ≠ Str.ofString "<string>") ∧ (ts.map (·.label)).Nodup ∧
    (∀ x ∈ ts, (0 ≤ x.a ∧ x.a ≤ 1000) ∧ (0 ≤ x.b ∧ x.b ≤ 1000) ∧ (0 ≤ x.c ∧ x.c ≤ 1000) ∧ 0 ≤ x.d ∧ x.d ≤ 1000) ∧ (∀ x ∈ ts, (0 ≤ x.p ∧ x.p ≤ 1000) ∧ 0 ≤ x.q ∧ x.q ≤ 1000) ∧ (∀ y ∈ ts, ∀ x ∈ ts, namesR y.label x.label = betw y x) := by
  unfold caseOK at h
  split at h
  · cases h
  rename_i ts hts
  split at h
  · cases h
  rename_i t9 ht9
  split at h
  · cases h
  rename_i ds hds
  unfold tellOK at h
  simp only [Bool.and_eq_true, decide_eq_true_eq, List.all_eq_true, beq_iff_eq] at h
  obtain ⟨⟨⟨⟨⟨h1, h2⟩, h3⟩, h4⟩, h5⟩, h6⟩ := h
  have h4' : ∀ x ∈ ts, (x.label.length < 900 ∧ x.label ≠ strCodes) ∧ ((0 ≤ x.a ∧ x.a ≤ 1000) ∧ (0 ≤ x.b ∧ x.b ≤ 1000) ∧ (0 ≤ x.c ∧ x.c ≤ 1000) ∧ 0 ≤ x.d ∧ x.d ≤ 1000) ∧ (0 ≤ x.p ∧ x.p ≤ 1000) ∧ 0 ≤ x.q ∧ x.q ≤ 1000 := by
    intro x hx
    have := h4 x hx
    unfold itOK at this
    simp only [Bool.and_eq_true, decide_eq_true_eq] at this
    obtain ⟨⟨⟨⟨⟨⟨⟨i1, i2⟩, i3⟩, i4⟩, i5⟩, i6⟩, i7⟩, i8⟩ := this
    exact ⟨⟨i1, i2⟩, ⟨okD_is i3, okD_is i4, okD_is i5, okD_is i6⟩, okD_is i7, okD_is i8⟩
  refine ⟨ts, t9, ds, hts, ht9, hds, h1, h2, h3, fun x hx => ⟨(h4' x hx).1.1, fun e => (h4' x hx).1.2 (lab_inj (e.trans lit_string))⟩, h5, fun x hx => (h4' x hx).2.1, fun x hx => (h4' x hx).2.2, h6⟩
def step (s : Int × Int × Int × Int) (o : Bool) : Int × Int × Int × Int := if o = true then (s.1 + s.2.2.1, s.2.1 + s.2.2.2, s.2.2.1, s.2.2.2) else (s.1, s.2.1, s.1 + s.2.2.1, s.2.1 + s.2.2.2)
def stAt (l : List Bool) : Int × Int × Int × Int := l.foldl step (0, 1, 1, 0)
def okAll (p0 p1 : Int) (l : List Bool) : Bool := caseOK p0 p1 (stAt l).1 (stAt l).2.1 (stAt l).2.2.1 (stAt l).2.2.2
def bits : Nat → List (List Bool)
  | 0 => [[]]
  | n + 1 => [] :: ((bits n).map (true :: ·) ++ (bits n).map (false :: ·))
theorem mem_bits : ∀ (n : Nat) (l : List Bool), l.length ≤ n → l ∈ bits n
  | 0, [], _ => .head _
  | 0, _ :: _, h => absurd h (by simp)
  | _ + 1, [], _ => .head _
  | n + 1, true :: l, h => .tail _ (List.mem_append.mpr (.inl (List.mem_map_of_mem (mem_bits n l (by simpa using h)))))
  | n + 1, false :: l, h => .tail _ (List.mem_append.mpr (.inr (List.mem_map_of_mem (mem_bits n l (by simpa using h)))))
theorem ok11 : (bits 4).all (okAll 1 1) = true := by decide +kernel
theorem ok12 : (bits 4).all (okAll 1 2) = true := by decide +kernel
theorem ok13 : (bits 4).all (okAll 1 3) = true := by decide +kernel
theorem ok21 : (bits 4).all (okAll 2 1) = true := by decide +kernel
theorem ok22 : (bits 4).all (okAll 2 2) = true := by decide +kernel
theorem ok23 : (bits 4).all (okAll 2 3) = true := by decide +kernel
theorem ok31 : (bits 4).all (okAll 3 1) = true := by decide +kernel
theorem ok32 : (bits 4).all (okAll 3 2) = true := by decide +kernel
theorem ok33 : (bits 4).all (okAll 3 3) = true := by decide +kernel
theorem all_ok (x0 x1 : Int) (l : List Bool) (h : l.length ≤ 4) : okAll (1 + x0.fmod 3) (1 + x1.fmod 3) l = true := by
  have hm := mem_bits 4 l h
  have a0 : x0.fmod 3 = 0 ∨ x0.fmod 3 = 1 ∨ x0.fmod 3 = 2 := by
    have := Int.fmod_nonneg_of_pos x0 (by decide : (0 : Int) < 3)
    have := Int.fmod_lt_of_pos x0 (by decide : (0 : Int) < 3)
    omega
  have a1 : x1.fmod 3 = 0 ∨ x1.fmod 3 = 1 ∨ x1.fmod 3 = 2 := by
    have := Int.fmod_nonneg_of_pos x1 (by decide : (0 : Int) < 3)
    have := Int.fmod_lt_of_pos x1 (by decide : (0 : Int) < 3)
    omega
  rcases a0 with e | e | e <;> rcases a1 with e' | e' | e' <;> rw [e, e']
  · exact List.all_eq_true.mp ok11 l hm
  · exact List.all_eq_true.mp ok12 l hm
  · exact List.all_eq_true.mp ok13 l hm
  · exact List.all_eq_true.mp ok21 l hm
  · exact List.all_eq_true.mp ok22 l hm
  · exact List.all_eq_true.mp ok23 l hm
  · exact List.all_eq_true.mp ok31 l hm
  · exact List.all_eq_true.mp ok32 l hm
  · exact List.all_eq_true.mp ok33 l hm
end
section
section

theorem pick_rest (u v : Value) (k : Nat) (hk : k ≤ 2) : kms_pick #[u, v].toList (some (k : Int)) none = [u, v].drop k := by
  have : k = 0 ∨ k = 1 ∨ k = 2 := by omega
  rcases this with rfl | rfl | rfl <;> rfl
theorem two_of (ns : List Int) : List.take 2 ns ++ List.drop (List.take 2 ns).length [0, 1] = [ns.getD 0 0, ns.getD 1 1] := by
  match ns with
  | [] => rfl
  | [x] => rfl
  | x :: y :: r => simp
theorem ints_two {vs : List Value} {a b : Int} (h : IntsAre vs [a, b]) : ∃ t u, vs = [Value.int a t, Value.int b u] := by
  obtain ⟨t, vs', e1, h'⟩ := h.cons_inv
  obtain ⟨u, vs'', e2, h''⟩ := h'.cons_inv
  cases h''
  exact ⟨t, u, by rw [e1, e2]⟩
def PriceOK (xs : List Int) (i : Nat) (ys : List Value) : Prop := ys.length = i ∧ ∀ (j : Nat) (y : Value), ys[j]? = some y → ∃ x t, xs[j]? = some x ∧ y = .int (1 + x.fmod 3) t
theorem PriceOK.two {a b : Int} {ys : List Value} (h : PriceOK [a, b] 2 ys) : ∃ t u, ys = [Value.int (1 + a.fmod 3) t, Value.int (1 + b.fmod 3) u] := by
  obtain ⟨h1, h2⟩ := h
  match ys, h1 with
  | [y, z], _ =>
    obtain ⟨x, t, hx, rfl⟩ := h2 0 y rfl
    obtain ⟨x', t', hx', rfl⟩ := h2 1 z rfl
    injection hx with hx
    injection hx' with hx'
    subst hx hx'
    exact ⟨t, t', rfl⟩
def odd (x : Int) : Bool := decide (x.fmod 2 = 1)
def stOf (xs : List Int) (i : Nat) : Int × Int × Int × Int := stAt ((xs.take i).map odd)
def LoopJ (M : Str → Option Value) (xs : List Int) (i : Nat) (m₁ : Str → Option Value) : Prop :=
  ∃ ta tb tc td, (∀ y, y ≠ Str.ofString "x" → y ≠ Str.ofString "a" → y ≠ Str.ofString "b" → y ≠ Str.ofString "c" → y ≠ Str.ofString "d" → m₁ y = M y) ∧
    m₁ (Str.ofString "a") = some (.int (stOf xs i).1 ta) ∧ m₁ (Str.ofString "b") = some (.int (stOf xs i).2.1 tb) ∧ m₁ (Str.ofString "c") = some (.int (stOf xs i).2.2.1 tc) ∧ m₁ (Str.ofString "d") = some (.int (stOf xs i).2.2.2 td)
theorem stOf_succ {xs : List Int} {i : Nat} {x : Int} (h : xs[i]? = some x) : stOf xs (i + 1) = step (stOf xs i) (odd x) := by
  unfold stOf stAt
  rw [List.take_add_one, h, List.map_append, List.foldl_append]
  rfl
theorem LoopJ.of {M m₁ : Str → Option Value} {xs : List Int} {i : Nat} {st : Int × Int × Int × Int} {ta tb tc td : Tok} (hs : stOf xs i = st)
    (hm : ∀ y, y ≠ Str.ofString "x" → y ≠ Str.ofString "a" → y ≠ Str.ofString "b" → y ≠ Str.ofString "c" → y ≠ Str.ofString "d" → m₁ y = M y)
    (ha : m₁ (Str.ofString "a") = some (.int st.1 ta)) (hb : m₁ (Str.ofString "b") = some (.int st.2.1 tb)) (hc : m₁ (Str.ofString "c") = some (.int st.2.2.1 tc)) (hd : m₁ (Str.ofString "d") = some (.int st.2.2.2 td)) : LoopJ M xs i m₁ :=
  ⟨ta, tb, tc, td, hm, by rw [hs]; exact ha, by rw [hs]; exact hb, by rw [hs]; exact hc, by rw [hs]; exact hd⟩
theorem head_c {w : World} {p : Program} {loose : List Str} {mean : ExcName → Option Value} {mg mb : Str → Option Value} {base h₀ : Heap} {L fa : Addr} {cd : Value} {m : Str → Option Value} {s : Shared} {Q : Flow → Shared → Prop} {E : Value → Shared → Prop}
   {oe or : Obj} {ve vr : Option Value} {src : Addr} {vs : List Value} {ns : List Int}
   (B : Below callerA base [] h₀) (F : Fr h₀ L s.heap (fun y => if y = Str.ofString "script" then some (Value.ref src) else m y)) (X : (hd.heap_39 w.params).In h₀) (T : Top p loose mean mg mb h₀)
   (N : News h₀ L s.heap [(L + 1, oe), (L + 1 + 1, or)]) (hoe : oe.data = .cell ve) (hor : or.data = .cell vr)
   (hsrc : h₀.IsList src vs.toArray) (hI : IntsAre vs ns) (hlen : ns.length ≤ 63)
   (hE : PassesOwn (model PySem.Challenge.rw_oy0044_01.row.prog w) (callerA.deeper (lawEnv L fa cd)) (lawEnv L fa cd) E)
   (ret : ∀ h' tk' m', Fr h₀ L h' m' → Q (.ret (.bool true)) { s with heap := h', toks := tk' }) :
   wpAny (model PySem.Challenge.rw_oy0044_01.row.prog w) (callerA.deeper (lawEnv L fa cd)) (execs lawBody (lawEnv L fa cd)) Q E s := by
  w_top off
  k_with_none
  (k_with "subscriptTail" => (k_here; (with_reducible show wpAny _ _ (subscriptTail _ _ (Value.ref _) (Value.int _ _)) _ _ _); (with_unfolding_all refine' kim_list ?k1 ?k2 ?k3 ?k4 ?k5 ?k6 ?k7 ?_ ?k8 ?k9; (case k1 => k_asm); (case k2 => k_mem); (case k3 => exact rfl); (case k4 => exact rfl); (case k5 => decide); (case k6 => decide); (case k7 => exact rfl); (case k8 => with_unfolding_all rfl); (case k9 => intro _; with_unfolding_all rfl); k_whole)))
  (k_with "subscriptTail" => (k_here; (with_reducible show wpAny _ _ (subscriptTail _ _ (Value.ref _) (Value.int _ _)) _ _ _); (with_unfolding_all refine' item_read ?k1 ?k2 ?k3 ?k4 ?k5 ?_ ?k8 ?k9; (case k1 => k_asm); (case k2 => k_mem); (case k3 => with_reducible assumption); (case k4 => with_reducible assumption); (case k5 => with_reducible assumption); (case k8 => with_unfolding_all rfl); (case k9 => intro _; with_unfolding_all rfl); k_whole)))
  (k_with "setItem ref int ref" => (k_here; (with_reducible show wpAny _ _ (setItem (Value.ref _) (Value.int _ _) (Value.ref _)) _ _ _); (refine' item_store ?k1 ?k2 ?k3 ?k4 ?k5 ?k6 ?_; (case k1 => k_asm); (case k2 => k_asm); (case k3 => with_reducible assumption); (case k4 => with_reducible assumption); (case k5 => first | with_reducible assumption | omega); (case k6 => first | with_reducible assumption | omega); k_whole); intro _ _ _; (try k_sweep)))
  (k_with "compareOp Lt ref ref" => (k_here; (with_reducible show wpAny _ _ (compareOp CmpOp.Lt (Value.ref _) (Value.ref _)) _ _ _); (refine' item_ltW ?k1 ?k2 ?k3 ?k4 ?k5 ?_; (case k1 => k_asm); (case k2 => with_reducible assumption); (case k3 => with_reducible assumption); (case k4 => with_reducible assumption); (case k5 => k_units); k_whole)))
  (k_with "call builtin:len" => (k_here; (with_reducible show wpAny _ _ (call (Value.builtin "len") [Value.ref _]) _ _ _); (with_unfolding_all refine' items_len ?k1 ?k2 ?k3 ?_; (case k1 => k_asm); (case k2 => k_mem); (case k3 => with_reducible assumption); k_whole)))
  (k_with "call builtin:list.append" => (k_here; (with_reducible show wpAny _ _ (call (Value.builtin _) [Value.ref _, Value.ref _]) _ _ _); (with_unfolding_all refine' items_append ?k1 ?k2 ?k3 ?k4 ?_; (case k1 => k_asm); (case k2 => k_asm); (case k3 => with_reducible assumption); (case k4 => with_reducible assumption); k_whole); intro _ _ _; (try k_sweep)))
  (k_with "binaryOp Add str str" => (k_here; (with_reducible show wpAny _ _ (binaryOp _ (Value.str (Str.mk (List.toArray _)) _) (Value.str (Str.ofString _) _)) _ _ _); (refine' lab_add ?k1 ?k2 ?k3 ?_; (case k1 => first | with_reducible exact lit_do | with_reducible exact lit_doo | with_reducible exact lit_dot); (case k2 => first | with_reducible assumption | omega); (case k3 => decide); k_whole); intro _ _))
  (k_with "compareOp NotEq ref ref" => (k_here; (with_reducible show wpAny _ _ (compareOp CmpOp.NotEq (Value.ref _) (Value.ref _)) _ _ _); (with_unfolding_all refine' same_ne ?k1 ?k2 ?k3 ?_; (case k1 => k_asm); (case k2 => k_mem); (case k3 => k_units); k_whole)))
  (k_with "call ref" => ((with_reducible show wpAny _ _ (call (Value.ref _) _) _ _ _); refine Halt.go ?_))
  (k_with "exec Assign cons ListComp" => refine Halt.go ?_)
  (k_with "eval ListComp" => refine Halt.go ?_)
  (k_with "pyIter ref" => refine Halt.go ?_)
  (k_with "exec For" => refine Halt.go ?_)
  (k_with "exec For Name Subscript cons nil" => refine Halt.go ?_)
  (k_with "last subscriptTail" => refine Halt.go ?_)
  (k_with "CompSrc" => refine Halt.go ?_)
  revert X; k_fill; intro X
  have hsc : lawScope = lawScope := rfl
  conv at hsc => rhs; whnf
  have hb : lawBody = lawBody := rfl
  conv at hb => rhs; whnf
  dsimp only [lawEnv]
  rw [hsc, hb]
  clear hsc hb
  k_steps
  unfold Halt
  k_dflt (refine LCg.Assign_ListComp_U (cl := []) (F₀ := F) rfl (by with_unfolding_all rfl) (by with_unfolding_all rfl) (by decide) rfl (by decide) rfl rfl rfl ?_)
  k_steps
  unfold Halt
  rename_i A1 wA hq1 hiA hcA hlA ltA la hq2 ltla A2 wB hq3 F2 N2 hiB hcB hlB ltB
  have hk2 : (List.take 2 ns).length ≤ 2 := by rw [hcA]; omega
  refine kba_turn (value' := PySem.Expr.Name (PySem.Str.ofString "_") ⟨0, 0, 0, 0⟩) (fun _ => rfl) ?_
  with_unfolding_all refine kms_slice_lit F2 N2 ⟨_, (N2 _ (.tail _ (.head _))).1, rfl, 0, rfl⟩ (IsPart.int _ _) IsPart.none (pick_rest _ _ (List.take 2 ns).length hk2) ?_ ?_ ?_ ?_
  rotate_left
  · with_unfolding_all rfl
  · intro _; with_unfolding_all rfl
  · exact Nat.le_of_ble_eq_true rfl
  intro A3 h3 F3 N3 lt3
  dsimp only
  have hi3 := IntsAre.drop (IntsAre.cons 0 (s.toks + 1) (IntsAre.cons 1 (s.toks + 1 + 1) IntsAre.nil)) (List.take 2 ns).length
  generalize List.drop (List.take 2 ns).length [Value.int 0 (s.toks + 1), Value.int 1 (s.toks + 1 + 1)] = wC at N3 hi3
  clear F2 N2 hiB hcB hlB ltB
  k_steps
  unfold Halt
  rename_i A4 w4 h4 F4 N4 hi4 lt4
  rw [two_of] at hi4
  obtain ⟨x0, hx0⟩ : ∃ x0, x0 = ns.getD 0 0 := ⟨_, rfl⟩
  obtain ⟨x1, hx1⟩ : ∃ x1, x1 = ns.getD 1 1 := ⟨_, rfl⟩
  rw [← hx0, ← hx1] at hi4
  obtain ⟨u0, u1, rfl⟩ := ints_two hi4
  obtain ⟨-, -, -, -, lt4a, lt4b⟩ := lt4
  have N4 := News.sub (l' := [(A4, listOf [Value.int x0 u0, Value.int x1 u1].toArray 0), (L + 1, oe), (L + 1 + 1, or)]) N4 (by repeat' first | (with_reducible exact sub_nil) | (with_reducible exact sub_self) | (with_reducible assumption) | (with_reducible refine sub_cons ?_ ?_) | (with_reducible refine sub_app ?_ ?_) | (with_reducible refine sub_more ?_) | (with_reducible exact sub_left) | (with_reducible refine sub_right ?_) | (with_reducible exact List.mem_cons_self) | (with_reducible refine List.mem_cons_of_mem _ ?_) | (with_reducible refine List.mem_append_right _ ?_))
  clear lt3 hi3 ltA ltla hiA hcA hlA hk2
  refine LCg.CompSrc.ledger rfl F4 N4 (.head _) (Nat.le_of_ble_eq_true rfl) fun g => ?_
  refine comp_build (n := 2) (fun i ys => PriceOK [x0, x1] i ys) ?_ ?_ _ 0 [] rfl ⟨rfl, fun j y hj => by simp at hj⟩
  · rintro i ys hi ⟨hy1, hy2⟩ v I oI C oC D' m₂ h tk E' hv hoC hin F6 N6 hoff
    obtain ⟨x, tx, hx, hv'⟩ := ints_at (.cons x0 u0 (.cons x1 u1 .nil)) (show [Value.int x0 u0, Value.int x1 u1][i]? = some v by simpa using hv)
    subst hv'
    clear hv
    have hfin : ∀ (t9 : Tok) (h6 : Heap) (sx : Shared) (tkx : Nat), Fr h₀ L h6 (fun y => if y = Str.ofString "script" then some (Value.ref src) else m y) → News h₀ L h6 ((I, oI) :: (C, oC) :: (D', LCg.lst ys) :: [(A4, listOf [Value.int x0 u0, Value.int x1 u1].toArray 0), (L + 1, oe), (L + 1 + 1, or)]) → sx = { s with heap := h6, toks := tkx } →
        LCg.CompEnd h₀ L (fun y => if y = Str.ofString "script" then some (Value.ref src) else m y) { s with heap := h, toks := tk } I oI C oC D' (LCg.lst ys) (LCg.SrcAt h₀ A4 [Value.int x0 u0, Value.int x1 u1].toArray)
        (fun y nw' => nw' = [(A4, listOf [Value.int x0 u0, Value.int x1 u1].toArray 0), (L + 1, oe), (L + 1 + 1, or)] ∧ PriceOK [x0, x1] (i + 1) (ys ++ [y])) (.int (1 + x.fmod 3) t9) sx := by
      rintro t9 h6 sx tkx F7 N7 rfl
      refine ⟨h6, tkx, _, rfl, F7, N7, hoff, .inr ⟨_, .head _, rfl, _, rfl⟩, rfl, ?_, ?_⟩
      · rw [List.length_append, hy1]; rfl
      · intro j y hj
        rw [List.getElem?_append] at hj
        split at hj
        · exact hy2 j y hj
        · rename_i hji
          have hj0 : j = i := by
            have := (List.getElem?_eq_some_iff.mp hj).1
            simp at this
            omega
          subst hj0
          rw [hy1, Nat.sub_self] at hj
          injection hj with hj
          exact ⟨x, t9, hx, hj.symm⟩
    k_steps
    exact hfin _ _ _ _ (by k_asm) (by k_asm) rfl
  intro ys hys
  obtain ⟨pt0, pt1, rfl⟩ := hys.two
  intro pa h5 tk5 F5 N5 hoff5
  dsimp only
  clear F4 N4
  k_steps
  unfold Halt
  rename Fr _ _ _ _ => F6
  rename News _ _ _ _ => N6
  with_unfolding_all refine' For_invVF F6 ?k1 ?k2 ?_ (hE := hE)
  case k1 => exact rfl
  case k2 => exact rfl
  k_steps
  unfold Halt
  rename_i tk9 ax wx h9 F9 N9 hix hcx hlx ltx
  have hxl : wx.length ≤ 4 := by rw [hix.length, hcx]; omega
  obtain ⟨xs, hxs⟩ : ∃ xs, xs = List.take (min 6 ns.length - 2) (List.drop 2 ns) := ⟨_, rfl⟩
  rw [← hxs] at hix
  have N9 := News.sub (l' := [(ax, listOf wx.toArray 0), (L + 1, oe), (L + 1 + 1, or), (pa, listOf [Value.int (1 + x0.fmod 3) pt0, Value.int (1 + x1.fmod 3) pt1].toArray 2)]) N9 (by intro q hq; simp only [List.mem_cons] at hq ⊢; rcases hq with h | h | h | h | h <;> simp [h])
  obtain ⟨M, hM⟩ : ∃ M : Str → Option Value, M = (fun y => if y = Str.ofString "prices" then some (Value.ref pa) else if y = Str.ofString "script" then some (Value.ref src) else m y) := ⟨_, rfl⟩
  refine iter_ledger (vs := wx) (fun i m₁ => LoopJ M xs i m₁) rfl (.head _) F9 N9 ?_ ?_ ?_
  · exact ⟨_, _, _, _, fun y y1 y2 y3 y4 y5 => by rw [hM]; simp only [if_neg y2, if_neg y3, if_neg y4, if_neg y5], rfl, rfl, rfl, rfl⟩
  · rintro i v m₁ hp tk own Q' hv ⟨ta, tb, tc, td, hm, ha, hb, hc, hd'⟩ F10 N10 hend
    obtain ⟨x, tx, hx, rfl⟩ := ints_at hix hv
    have F11 := Fr.as F10 (m' := fun y => if y = Str.ofString "x" then some (Value.int x tx) else if y = Str.ofString "a" then some (Value.int (stOf xs i).1 ta) else if y = Str.ofString "b" then some (Value.int (stOf xs i).2.1 tb) else if y = Str.ofString "c" then some (Value.int (stOf xs i).2.2.1 tc) else if y = Str.ofString "d" then some (Value.int (stOf xs i).2.2.2 td) else M y) (by
      funext y
      by_cases y1 : y = Str.ofString "x"
      · simp only [if_pos y1]
      · by_cases y2 : y = Str.ofString "a"
        · subst y2; simp only [if_neg y1, if_true]; exact ha
        · by_cases y3 : y = Str.ofString "b"
          · subst y3; simp only [if_neg y1, if_neg y2, if_true]; exact hb
          · by_cases y4 : y = Str.ofString "c"
            · subst y4; simp only [if_neg y1, if_neg y2, if_neg y3, if_true]; exact hc
            · by_cases y5 : y = Str.ofString "d"
              · subst y5; simp only [if_neg y1, if_neg y2, if_neg y3, if_neg y4, if_true]; exact hd'
              · simp only [if_neg y1, if_neg y2, if_neg y3, if_neg y4, if_neg y5]
                exact hm y y1 y2 y3 y4 y5)
    clear F9 F10 hm ha hb hc hd' N9
    have hnext := stOf_succ hx
    k_steps
    · rename Fr _ _ _ _ => Fz
      rename News _ _ _ _ => Nz
      rename Int.fmod x 2 = 1 => hodd
      rw [show odd x = true from decide_eq_true hodd] at hnext
      exact hend _ _ _ Fz (News.sub Nz fun q hq => .tail _ hq) (LoopJ.of hnext (fun y y1 y2 y3 y4 y5 => by simp only [if_neg y1, if_neg y2, if_neg y3, if_neg y4, if_neg y5]) rfl rfl rfl rfl)
    · rename Fr _ _ _ _ => Fz
      rename News _ _ _ _ => Nz
      rename ¬(Int.fmod x 2 = 1) => hodd
      rw [show odd x = false from decide_eq_false hodd] at hnext
      exact hend _ _ _ Fz (News.sub Nz fun q hq => .tail _ hq) (LoopJ.of hnext (fun y y1 y2 y3 y4 y5 => by simp only [if_neg y1, if_neg y2, if_neg y3, if_neg y4, if_neg y5]) rfl rfl rfl rfl)
  rintro h10 tk10 m10 F10 N10 ⟨ta, tb, tc, td, hm, ha, hb, hc, hd'⟩
  dsimp only
  clear N9 F9
  have hst : stOf xs wx.length = stAt (xs.map odd) := by unfold stOf; rw [hix.length, List.take_length]
  rw [hst] at ha hb hc hd'
  have hpr : m10 (Str.ofString "prices") = some (Value.ref pa) := by
    rw [hm _ (by decide) (by decide) (by decide) (by decide) (by decide), hM]; rfl
  have F12 := Fr.as F10 (m' := fun y => if y = Str.ofString "d" then some (Value.int (stAt (xs.map odd)).2.2.2 td) else if y = Str.ofString "c" then some (Value.int (stAt (xs.map odd)).2.2.1 tc) else if y = Str.ofString "b" then some (Value.int (stAt (xs.map odd)).2.1 tb) else if y = Str.ofString "a" then some (Value.int (stAt (xs.map odd)).1 ta) else if y = Str.ofString "prices" then some (Value.ref pa) else m10 y) (by
    funext y
    by_cases y1 : y = Str.ofString "d"
    · subst y1; simp only [if_true]; exact hd'
    · by_cases y2 : y = Str.ofString "c"
      · subst y2; simp only [if_neg y1, if_true]; exact hc
      · by_cases y3 : y = Str.ofString "b"
        · subst y3; simp only [if_neg y1, if_neg y2, if_true]; exact hb
        · by_cases y4 : y = Str.ofString "a"
          · subst y4; simp only [if_neg y1, if_neg y2, if_neg y3, if_true]; exact ha
          · by_cases y5 : y = Str.ofString "prices"
            · subst y5; simp only [if_neg y1, if_neg y2, if_neg y3, if_neg y4, if_true]; exact hpr
            · simp only [if_neg y1, if_neg y2, if_neg y3, if_neg y4, if_neg y5])
  clear F10 ha hb hc hd'
  have hxl4 : (xs.map odd).length ≤ 4 := by rw [List.length_map, ← hix.length]; exact hxl
  obtain ⟨ts, t9, ds, k1, k2, k3, k4, k5, k6, k7, k8, k9, k10, k11⟩ := caseOK_is (all_ok x0 x1 (xs.map odd) hxl4)
  have hf : ∀ x : Int, 0 ≤ 1 + x.fmod 3 ∧ 1 + x.fmod 3 ≤ 3 := by
    intro x
    have := Int.fmod_nonneg_of_pos x (by decide : (0 : Int) < 3)
    have := Int.fmod_lt_of_pos x (by decide : (0 : Int) < 3)
    omega
  refine mid_c (R := [(pa, listOf [Value.int (1 + x0.fmod 3) pt0, Value.int (1 + x1.fmod 3) pt1].toArray 2)]) B F12 X T (News.sub N10 fun q hq => .tail _ hq) hoe hor (.head _) ?_ ⟨(hf x0).1, (hf x0).2, (hf x1).1, (hf x1).2⟩ k1 k2 k3 k4 k5 k6 k7 k8 k9 k10 k11 hE ?_
  · intro q hq
    rw [List.mem_singleton.mp hq]
    exact ⟨Ne.symm hoff5.2.1, Ne.symm hoff5.2.2.1⟩
  · exact fun h' tk' m' F' => ret h' tk' m' F'

end
end
section
section

theorem law_holds : PySem.Challenge.rw_oy0044_01.Holds := by
  w_top off
  k_with_none
  (k_with "subscriptTail" => (k_here; (with_reducible show wpAny _ _ (subscriptTail _ _ (Value.ref _) (Value.int _ _)) _ _ _); (with_unfolding_all refine' kim_list ?k1 ?k2 ?k3 ?k4 ?k5 ?k6 ?k7 ?_ ?k8 ?k9; (case k1 => k_asm); (case k2 => k_mem); (case k3 => exact rfl); (case k4 => exact rfl); (case k5 => decide); (case k6 => decide); (case k7 => exact rfl); (case k8 => with_unfolding_all rfl); (case k9 => intro _; with_unfolding_all rfl); k_whole)))
  (k_with "subscriptTail" => (k_here; (with_reducible show wpAny _ _ (subscriptTail _ _ (Value.ref _) (Value.int _ _)) _ _ _); (with_unfolding_all refine' item_read ?k1 ?k2 ?k3 ?k4 ?k5 ?_ ?k8 ?k9; (case k1 => k_asm); (case k2 => k_mem); (case k3 => with_reducible assumption); (case k4 => with_reducible assumption); (case k5 => with_reducible assumption); (case k8 => with_unfolding_all rfl); (case k9 => intro _; with_unfolding_all rfl); k_whole)))
  (k_with "setItem ref int ref" => (k_here; (with_reducible show wpAny _ _ (setItem (Value.ref _) (Value.int _ _) (Value.ref _)) _ _ _); (refine' item_store ?k1 ?k2 ?k3 ?k4 ?k5 ?k6 ?_; (case k1 => k_asm); (case k2 => k_asm); (case k3 => with_reducible assumption); (case k4 => with_reducible assumption); (case k5 => first | with_reducible assumption | omega); (case k6 => first | with_reducible assumption | omega); k_whole); intro _ _ _; (try k_sweep)))
  (k_with "compareOp Lt ref ref" => (k_here; (with_reducible show wpAny _ _ (compareOp CmpOp.Lt (Value.ref _) (Value.ref _)) _ _ _); (refine' item_ltW ?k1 ?k2 ?k3 ?k4 ?k5 ?_; (case k1 => k_asm); (case k2 => with_reducible assumption); (case k3 => with_reducible assumption); (case k4 => with_reducible assumption); (case k5 => k_units); k_whole)))
  (k_with "call builtin:len" => (k_here; (with_reducible show wpAny _ _ (call (Value.builtin "len") [Value.ref _]) _ _ _); (with_unfolding_all refine' items_len ?k1 ?k2 ?k3 ?_; (case k1 => k_asm); (case k2 => k_mem); (case k3 => with_reducible assumption); k_whole)))
  (k_with "call builtin:list.append" => (k_here; (with_reducible show wpAny _ _ (call (Value.builtin _) [Value.ref _, Value.ref _]) _ _ _); (with_unfolding_all refine' items_append ?k1 ?k2 ?k3 ?k4 ?_; (case k1 => k_asm); (case k2 => k_asm); (case k3 => with_reducible assumption); (case k4 => with_reducible assumption); k_whole); intro _ _ _; (try k_sweep)))
  (k_with "binaryOp Add str str" => (k_here; (with_reducible show wpAny _ _ (binaryOp _ (Value.str (Str.mk (List.toArray _)) _) (Value.str (Str.ofString _) _)) _ _ _); (refine' lab_add ?k1 ?k2 ?k3 ?_; (case k1 => first | with_reducible exact lit_do | with_reducible exact lit_doo | with_reducible exact lit_dot); (case k2 => first | with_reducible assumption | omega); (case k3 => decide); k_whole); intro _ _))
  (k_with "compareOp NotEq ref ref" => (k_here; (with_reducible show wpAny _ _ (compareOp CmpOp.NotEq (Value.ref _) (Value.ref _)) _ _ _); (with_unfolding_all refine' same_ne ?k1 ?k2 ?k3 ?_; (case k1 => k_asm); (case k2 => k_mem); (case k3 => k_units); k_whole)))
  (k_with "execs cons" => refine Halt.go ?_)
  refine hd ?_
  k_go0
  k_fold
  k_steps
  unfold Halt
  rename Fr _ _ _ _ => F1
  rename News _ _ _ _ => N1
  rename Heap.IsList _ _ _ => hl1
  rename IntsAre _ _ => hi1
  rename ¬((63 : Nat) : Int) < _ => hlen1
  rename Frag.In _ _ => X1
  rename Top _ _ _ _ _ _ => T1
  have F2 := Fr.as F1 (m' := fun y => if y = Str.ofString "script" then some (Value.ref _) else (fun _ => none) y) (by with_unfolding_all rfl)
  refine head_c (below_caller _) F2 X1 T1 (News.swap N1) (by assumption) (by assumption) hl1 hi1 (by omega) ?_ ?_
  · passes_own
  · intro h9 tk9 m9 F9
    k_steps

end
end
end Mine
theorem PySem.Challenge.cw_oy0044_01_holds : PySem.Challenge.rw_oy0044_01.Holds := by
  exact Mine.law_holds
