import PyProof.Rows.All
import Wide.All
import OpenK.AllK
import Wide.FinOn
import KE.KRevSl
import KE.KNestM
import PySem.Challenge.RW_rx0065_01
open PySem PySem.Spec PySem.Calls PyProof.Rows PySem.W
set_option Elab.async false
set_option maxRecDepth 100000
set_option linter.unusedVariables false
set_option compiler.extract_closed false
set_option hygiene false
set_option linter.all false
namespace Mine
section -- R0
theorem au1 (h : True := by intros; rfl) : True := trivial
theorem au2 (h : True := by intros; with_unfolding_all rfl) : True := trivial

inductive V where
  | none | bool (b : Bool) | int (i : Int) | str (x : Str) | bytes (b : Array UInt8) | ref (a : Addr) | glob (v : Value)
noncomputable def V.R : V → Value → Prop
  | .none, v => v = .none
  | .bool b, v => v = .bool b
  | .int i, v => ∃ t, v = .int i t
  | .str x, v => ∃ t, v = .str x t
  | .bytes x, v => ∃ t, v = .bytes x t
  | .ref a, v => v = .ref a
  | .glob g, v => v = g

inductive A2 {α β : Type} (R : α → β → Prop) : List α → List β → Prop where
  | nil : A2 R [] []
  | cons {a b l l'} : R a b → A2 R l l' → A2 R (a :: l) (b :: l')
namespace A2
variable {α β : Type} {R : α → β → Prop}
theorem length {l : List α} {l' : List β} (h : A2 R l l') : l.length = l'.length := by
  induction h with
  | nil => rfl
  | cons _ _ ih => simp [ih]
theorem append {l₁ l₂ : List α} {r₁ r₂ : List β} (h : A2 R l₁ r₁) (h' : A2 R l₂ r₂) : A2 R (l₁ ++ l₂) (r₁ ++ r₂) := by
  induction h with
  | nil => exact h'
  | cons x _ ih => exact .cons x ih
theorem get {l : List α} {l' : List β} (h : A2 R l l') : ∀ {i : Nat} {a : α}, l[i]? = some a → ∃ b, l'[i]? = some b ∧ R a b := by
  induction h with
  | nil => intro i a e; simp at e
  | cons x _ ih =>
    intro i a e
    cases i with
    | zero => simp at e; subst e; exact ⟨_, rfl, x⟩
    | succ i => simpa using ih (by simpa using e)
theorem get' {l : List α} {l' : List β} (h : A2 R l l') : ∀ {i : Nat} {b : β}, l'[i]? = some b → ∃ a, l[i]? = some a ∧ R a b := by
  induction h with
  | nil => intro i a e; simp at e
  | cons x _ ih =>
    intro i a e
    cases i with
    | zero => simp at e; subst e; exact ⟨_, rfl, x⟩
    | succ i => simpa using ih (by simpa using e)
theorem take {l : List α} {l' : List β} (h : A2 R l l') : ∀ n, A2 R (l.take n) (l'.take n) := by
  induction h with
  | nil => intro n; simp; exact .nil
  | cons x _ ih => intro n; cases n with
    | zero => simp; exact .nil
    | succ n => simpa using .cons x (ih n)
theorem drop {l : List α} {l' : List β} (h : A2 R l l') : ∀ n, A2 R (l.drop n) (l'.drop n) := by
  induction h with
  | nil => intro n; simp; exact .nil
  | cons x h ih => intro n; cases n with
    | zero => simpa using .cons x h
    | succ n => simpa using ih n
theorem reverse {l : List α} {l' : List β} (h : A2 R l l') : A2 R l.reverse l'.reverse := by
  induction h with
  | nil => simpa using .nil
  | cons x _ ih => simpa using ih.append (.cons x .nil)
theorem one {a : α} {b : β} (x : R a b) : A2 R [a] [b] := .cons x .nil
theorem two {a : α} {b : β} {a' : α} {b' : β} (x : R a b) (y : R a' b') : A2 R [a, a'] [b, b'] := .cons x (.cons y .nil)
theorem set {l : List α} {l' : List β} (h : A2 R l l') {a : α} {b : β} (x : R a b) : ∀ i, A2 R (l.set i a) (l'.set i b) := by
  induction h with
  | nil => intro i; simp; exact .nil
  | cons y h ih => intro i; cases i with
    | zero => simpa using .cons x h
    | succ i => simpa using .cons y (ih i)
theorem eraseIdx {l : List α} {l' : List β} (h : A2 R l l') : ∀ i, A2 R (l.eraseIdx i) (l'.eraseIdx i) := by
  induction h with
  | nil => intro i; simp; exact .nil
  | cons y h ih => intro i; cases i with
    | zero => simpa using h
    | succ i => simpa using .cons y (ih i)
end A2

inductive O where
  | list (l : List V)
  | tup (l : List V)
  | dict (l : List (Int × V)) (ep : Nat)
  | set (S : Int → Bool) (n : Nat)
  | slots (C : Addr) (d : Addr) (l : List (Option V))
  | inst (C : Addr) (d : Addr)
  | attrs (l : List (Str × V))
  | iter (l : Addr) (i : Nat)
  | raw (o : Obj)

noncomputable abbrev AH := Addr → Option O
noncomputable def AH.set (H : AH) (a : Addr) (o : O) : AH := fun b => if b = a then some o else H b
@[simp] theorem AH.set_self (H : AH) (a : Addr) (o : O) : H.set a o a = some o := by simp [AH.set]
theorem AH.set_ne (H : AH) {a b : Addr} (o : O) (h : b ≠ a) : H.set a o b = H b := by simp [AH.set, h]

theorem ar_tn {x : Int} {n : Nat} (h0 : 0 ≤ x) (h1 : x < 5) (hn : n = 5) : x.toNat < n := by omega
theorem ar_dec {i a : Nat} (h : i < a) : a - (i + 1) < a - i := by omega
theorem ar_min {i a b : Nat} (h : b ≤ a) : min i b ≤ a := by omega
theorem ar_rm {a b k n N : Nat} (h : a + k * (n + 1) ≤ N) (hb : b ≤ k) : a + b + k * n ≤ N := by rw [Nat.mul_add] at h; omega
theorem ar_mono {a k n m N : Nat} (h : a + k * n ≤ N) (hm : m ≤ n) : a + k * m ≤ N := Nat.le_trans (Nat.add_le_add_left (Nat.mul_le_mul_left _ hm) _) h
theorem ar_room {a b N M : Nat} (h : a + b ≤ N) (hM : N < M) : a < M := Nat.lt_of_le_of_lt (Nat.le_trans (Nat.le_add_right _ _) h) hM
theorem ar_in {i n K : Nat} (h : i < n) (hn : n ≤ K) (hK : K ≤ 1000) : (i : Int) < 1000 := Int.ofNat_lt.mpr (Nat.lt_of_lt_of_le h (Nat.le_trans hn hK))
theorem ar_i5 {x : Int} (h : x < 5) : x < 1000 := Int.lt_trans h (by decide)
theorem ar_cut {j n K : Nat} (hn : n ≤ K) (hj : j < n) : min j n + 1 + (n - (j + 1)) = n := by omega
theorem row_at {rows : List (List Int)} {i : Nat} (h : i < rows.length) : rows[i]? = some (rows.getD i []) := by rw [List.getD_eq_getElem?_getD, List.getElem?_eq_getElem h]; rfl
theorem row_le {rows : List (List Int)} {K : Nat} (hz : ∀ r ∈ rows, r.length ≤ K) (i : Nat) : (rows.getD i []).length ≤ K := by
  rw [List.getD_eq_getElem?_getD]
  cases e : rows[i]? with
  | none => exact Nat.zero_le _
  | some r => exact hz r (List.mem_of_getElem? e)
theorem ar_zip {α β : Type} {l : List α} {l' : List β} {n : Nat} (h : l.length ≤ n) : (l.zip l').length ≤ n := by rw [List.length_zip]; exact Nat.le_trans (Nat.min_le_left _ _) h
theorem ar_end {i n : Nat} (h : i ≤ n) (h' : ¬ i < n) : i = n := Nat.le_antisymm h (Nat.le_of_not_lt h')
theorem ar_step {A B C n : Nat} (h1 : A ≤ B + n) (h2 : B ≤ C + 1) : A ≤ C + (n + 1) := by
  rw [Nat.add_comm n 1, ← Nat.add_assoc]; exact Nat.le_trans h1 (Nat.add_le_add_right h2 _)
theorem ar_stepd {A B C d n : Nat} (h1 : A ≤ B + n) (h2 : B ≤ C + d) : A ≤ C + (d + n) := by
  rw [← Nat.add_assoc]; exact Nat.le_trans h1 (Nat.add_le_add_right h2 _)
theorem le_tt {a K N M : Nat} (h : a ≤ K) (hz : K ≤ N) (hN : N ≤ M) : a ≤ M := Nat.le_trans h (Nat.le_trans hz hN)
theorem le_a2 {a b K N M : Nat} (h : a + b ≤ K) (hz : K ≤ N) (hN : N ≤ M) : a ≤ M := le_tt (Nat.le_trans (Nat.le_add_right _ _) h) hz hN
theorem le_b2 {a b K N M : Nat} (h : a + b ≤ K) (hz : K ≤ N) (hN : N ≤ M) : b ≤ M := le_tt (Nat.le_trans (Nat.le_add_left _ _) h) hz hN
theorem le_a3 {a b c K N M : Nat} (h : a + b + c ≤ K) (hz : K ≤ N) (hN : N ≤ M) : a ≤ M := le_a2 (Nat.le_trans (Nat.le_add_right _ _) h) hz hN
theorem le_b3 {a b c K N M : Nat} (h : a + b + c ≤ K) (hz : K ≤ N) (hN : N ≤ M) : b ≤ M := le_b2 (Nat.le_trans (Nat.le_add_right _ _) h) hz hN
theorem le_c3 {a b c K N M : Nat} (h : a + b + c ≤ K) (hz : K ≤ N) (hN : N ≤ M) : c ≤ M := le_b2 h hz hN
theorem ar_take {α : Type} {l : List α} {i n : Nat} (h : l.length ≤ n) : (l.take i).length ≤ n := Nat.le_trans (List.length_take_le' ..) h
theorem ar_map {α β : Type} {f : α → β} {l : List α} {n m : Nat} (h : l.length ≤ n) (hm : n ≤ m) : (l.map f).length ≤ m := by rw [List.length_map]; exact Nat.le_trans h hm
theorem five {p : Int} (h0 : 0 ≤ p) (h5 : p < 5) : p = 0 ∨ p = 1 ∨ p = 2 ∨ p = 3 ∨ p = 4 := by
  obtain ⟨n, rfl⟩ := Int.eq_ofNat_of_zero_le h0
  exact (by decide : ∀ n : Nat, n < 5 → ((n : Int) = 0 ∨ (n : Int) = 1 ∨ (n : Int) = 2 ∨ (n : Int) = 3 ∨ (n : Int) = 4)) n (Int.ofNat_lt.mp h5)
theorem m5 {p : Int} (h0 : 0 ≤ p) (h5 : p < 5) : p ∈ ([0, 1, 2, 3, 4] : List Int) := by
  rcases five h0 h5 with rfl | rfl | rfl | rfl | rfl <;> decide
theorem all1 {α : Type} {P : α → Prop} {a : α} (h : P a) : ∀ q ∈ [a], P q := fun q hq => List.mem_singleton.mp hq ▸ h
theorem all2 {α : Type} {P : α → Prop} {a b : α} (h : P a) (h' : P b) : ∀ q ∈ [a, b], P q := fun q hq => (List.mem_cons.mp hq).elim (fun e => e ▸ h) (all1 h' q)
end
section -- R1
noncomputable def DR : Int × V → Int × Value → Prop := fun p e => p.1 = e.1 ∧ p.2.R e.2
noncomputable def ER : Str × V → DictEntry → Prop := fun p e => (∃ t, e.key = .str p.1 t) ∧ p.2.R e.val

noncomputable def SR : Option V → Option Value → Prop
  | none, r => r = none
  | some v, r => ∃ rv, r = some rv ∧ V.R v rv

noncomputable def OR (prog : Program) (w : World) : O → Obj → Prop
  | .list l, o => ∃ vs n, o = { cls := .type "list", data := .seq vs n } ∧ A2 V.R l vs.toList
  | .tup l, o => ∃ vs n, o = { cls := .type "tuple", data := .seq vs n } ∧ A2 V.R l vs.toList
  | .dict l ep, o => ∃ kvs es, A2 DR l kvs ∧ o.ExactDict ∧ o.data = .dict es ep ∧ KeysOf (intKind prog w) es ∧ Pairs (intKind prog w) es.toList kvs ∧ (kvs.map (·.1)).Nodup
  | .set S n, o => o.SetObjOf (intKind prog w) S n
  | .slots C d l, o => ∃ sl, o = { cls := .ref C, dict := some d, data := .plain, slots := sl } ∧ A2 SR l sl.toList
  | .inst C d, o => o = { cls := .ref C, dict := some d, data := .plain }
  | .attrs l, o => ∃ es n sl, o = { cls := .type "dict", data := .dict es n, slots := sl } ∧ A2 ER l es.toList
  | .iter l i, o => o.cls = .type "list_iterator" ∧ o.data = .fields #[.ref l, .int i 0]
  | .raw o', o => o = o'

structure Cx where
  prog : Program
  w : World
  K : Frag
  os : OsState
  n0 : Nat

noncomputable def Same (C : Cx) (b : Addr) (o : Obj) (h : Heap) : Prop := h.get? b = some o ∨ (C.n0 ≤ b ∧ (∃ es n, o.data = .dict es n) ∧ ∃ sl, h.get? b = some { o with slots := sl })
theorem Same.keep {C : Cx} {b : Addr} {o : Obj} {h h' : Heap} (x : Same C b o h) (k : ∀ o', h.get? b = some o' → h'.get? b = some o') : Same C b o h' := by
  rcases x with x | ⟨a, b, sl, x⟩
  · exact .inl (k _ x)
  · exact .inr ⟨a, b, sl, k _ x⟩
theorem Same.there {C : Cx} {b : Addr} {o : Obj} {h : Heap} (x : Same C b o h) : ∃ o', h.get? b = some o' ∧ o'.data = o.data := by
  rcases x with x | ⟨_, _, sl, x⟩
  · exact ⟨_, x, rfl⟩
  · exact ⟨_, x, rfl⟩
theorem Same.trans {C : Cx} {b : Addr} {o : Obj} {h h' : Heap} (x : Same C b o h) (k : ∀ o', h.get? b = some o' → Same C b o' h') : Same C b o h' := by
  rcases x with x | ⟨a, d, sl, x⟩
  · exact k _ x
  · rcases k _ x with y | ⟨_, _, sl', y⟩
    · exact .inr ⟨a, d, sl, y⟩
    · exact .inr ⟨a, d, sl', y⟩
theorem Same.exact {C : Cx} {b : Addr} {o : Obj} {h : Heap} (x : Same C b o h) (nd : ∀ es n, o.data ≠ .dict es n) : h.get? b = some o := by
  rcases x with x | ⟨_, ⟨es, n, d⟩, _⟩
  · exact x
  · exact absurd d (nd es n)
theorem Same.none {C : Cx} {b : Addr} {o : Obj} {h : Heap} (x : Same C b o h) (q : h.get? b = none) : False := by
  obtain ⟨o', e, _⟩ := x.there
  rw [q] at e; cases e

structure Sf (C : Cx) (B : Heap) (W : Addr → Prop) (env : Env) (F : List (Str × V)) (H : AH) (s : Shared) : Prop where
  k : C.K.In s.heap
  lim : s.heap.NoLimit
  gens : s.gens = #[]
  os : s.os = C.os
  rel : ∀ a o, H a = some o → ∃ ob, s.heap.get? a = some ob ∧ OR C.prog C.w o ob
  kept : ∀ b o, B.get? b = some o → ¬ W b → Same C b o s.heap
  own : ∀ a, H a ≠ none → W a ∨ B.get? a = none
  apart : ∀ a, H a ≠ none → C.K.lookup a = none
  stat : C.K.lookup cStatics ≠ none
  kind : env.scope.kind = .function
  glob : env.globals = mainGlobals
  blt : env.builtins = builtinsNs
  ns : ∃ m, s.heap.Ns env.locals m ∧ ∀ x v, F.lookup x = some v → env.kindOf x = some .local → ∃ rv, m x = some rv ∧ V.R v rv
  cl : ∀ x v, F.lookup x = some v → env.kindOf x = some .local ∨ ((env.kindOf x = some .cell ∨ (env.kindOf x = some .free ∧ (x == ("__classdict__" : Str)) = false)) ∧ ∃ c rv, env.cells.lookup x = some c ∧ s.heap.IsCell c (some rv) ∧ V.R v rv)
  cs : ∀ x c, env.cells.lookup x = some c → env.locals < c → (∃ v0, s.heap.IsCell c v0) ∧ C.K.lookup c = none ∧ (W c ∨ B.get? c = none) ∧ ∀ y c', env.cells.lookup y = some c' → y ≠ x → c' ≠ c
  na : H env.locals = none ∧ C.K.lookup env.locals = none ∧ (W env.locals ∨ B.get? env.locals = none)
  nc : ∀ x c, env.cells.lookup x = some c → H c = none ∧ c ≠ env.locals ∧ s.heap.get? c ≠ none
  sysm : ∀ a, H a ≠ none → (a == sysModules) = false
  big : C.n0 ≤ env.locals

variable {C : Cx} {B : Heap} {W : Addr → Prop} {env : Env} {F : List (Str × V)} {H : AH} {s : Shared}

theorem Sf.there (S : Sf C B W env F H s) {a : Addr} (h : H a ≠ none) : s.heap.get? a ≠ none := by
  cases e : H a with
  | none => exact absurd e h
  | some o => obtain ⟨ob, h1, _⟩ := S.rel a o e; rw [h1]; simp

theorem Sf.keep (S : Sf C B W env F H s) {s' : Shared} (hk : ∀ b o, s.heap.get? b = some o → s'.heap.get? b = some o) (hg : s'.gens = s.gens) (ho : s'.os = s.os) : Sf C B W env F H s' where
  k := S.k.keeps hk
  lim := S.lim.keeps hk
  gens := hg.trans S.gens
  os := ho.trans S.os
  rel := fun a o e => let ⟨ob, h1, h2⟩ := S.rel a o e; ⟨ob, hk _ _ h1, h2⟩
  kept := fun b o e n => (S.kept b o e n).keep (hk b)
  own := S.own
  apart := S.apart
  stat := S.stat
  kind := S.kind
  glob := S.glob
  blt := S.blt
  ns := let ⟨m, h1, h2⟩ := S.ns; ⟨m, h1.keeps hk, h2⟩
  cl := fun x v e => (S.cl x v e).imp id fun ⟨h1, c, rv, h2, h3, h4⟩ => ⟨h1, c, rv, h2, h3.keeps hk, h4⟩
  cs := fun x c e l => let ⟨⟨v0, h2⟩, h3⟩ := S.cs x c e l; ⟨⟨v0, h2.keeps hk⟩, h3⟩
  na := S.na
  nc := fun x c e => let ⟨h1, h2, h3⟩ := S.nc x c e; ⟨h1, h2, fun q => by
    cases e' : s.heap.get? c with
    | none => exact h3 e'
    | some o => rw [hk c o e'] at q; cases q⟩
  sysm := S.sysm
  big := S.big

theorem Sf.tok (S : Sf C B W env F H s) (t : Nat) : Sf C B W env F H { s with toks := t } := S.keep (fun _ _ e => e) rfl rfl

theorem Sf.K_ne (S : Sf C B W env F H s) {a : Addr} {o : Obj} (h : C.K.lookup a = some o) : H a = none := by
  cases e : H a with
  | none => rfl
  | some o' => have := S.apart a (by rw [e]; simp); rw [h] at this; cases this

theorem Sf.put (S : Sf C B W env F H s) {a : Addr} {o : O} {ob : Obj} {s' : Shared} (ha : H a ≠ none) (hb : ∀ b x, b ≠ a → s.heap.get? b = some x → s'.heap.get? b = some x)
    (ho : s'.heap.get? a = some ob) (hr : OR C.prog C.w o ob) (hg : s'.gens = s.gens) (hos : s'.os = s.os) : Sf C B W env F (H.set a o) s' := by
  have hKa := S.apart a ha
  have hL : env.locals ≠ a := fun e => ha (e ▸ S.na.1)
  have hC : ∀ x c, env.cells.lookup x = some c → c ≠ a := fun x c e q => ha (q ▸ (S.nc x c e).1)
  refine ⟨fun b x e => hb b x (fun q => by rw [q, hKa] at e; cases e) (S.k b x e), ?_, hg.trans S.gens, hos.trans S.os, ?_, ?_, ?_, ?_, S.stat, S.kind, S.glob, S.blt, ?_, ?_, ?_, ?_, ?_, ?_, S.big⟩
  · obtain ⟨mc, h1, h2⟩ := S.lim
    exact ⟨mc, h1.extBut (b := a) hb (fun q => S.stat (q ▸ hKa)), h2⟩
  · intro b x e
    by_cases q : b = a
    · subst q; rw [AH.set_self] at e; cases e; exact ⟨ob, ho, hr⟩
    · rw [AH.set_ne _ _ q] at e
      obtain ⟨ob', h1, h2⟩ := S.rel b x e
      exact ⟨ob', hb b _ q h1, h2⟩
  · intro b x e n
    by_cases q : b = a
    · subst q
      rcases S.own b ha with h | h
      · exact absurd h n
      · rw [h] at e; cases e
    · exact (S.kept b x e n).keep fun o' e' => hb b o' q e'
  · intro b e
    by_cases q : b = a
    · exact q ▸ S.own a ha
    · exact S.own b (by rwa [AH.set_ne _ _ q] at e)
  · intro b e
    by_cases q : b = a
    · exact q ▸ hKa
    · exact S.apart b (by rwa [AH.set_ne _ _ q] at e)
  · obtain ⟨m, h1, h2⟩ := S.ns
    exact ⟨m, h1.extBut (b := a) hb hL, h2⟩
  · intro x v e
    refine (S.cl x v e).imp id fun ⟨h1, c, rv, h2, h3, h4⟩ => ⟨h1, c, rv, h2, ?_, h4⟩
    obtain ⟨o, h5, h6⟩ := h3
    exact ⟨o, hb c o (hC x c h2) h5, h6⟩
  · intro x c e l
    obtain ⟨⟨v0, o, h5, h6⟩, h3⟩ := S.cs x c e l
    exact ⟨⟨v0, o, hb c o (hC x c e) h5, h6⟩, h3⟩
  · exact ⟨by rw [AH.set_ne _ _ hL]; exact S.na.1, S.na.2⟩
  · intro x c e
    refine ⟨by rw [AH.set_ne _ _ (hC x c e)]; exact (S.nc x c e).1, (S.nc x c e).2.1, fun q => ?_⟩
    cases e' : s.heap.get? c with
    | none => exact (S.nc x c e).2.2 e'
    | some o => rw [hb c o (hC x c e) e'] at q; cases q
  · intro b e
    by_cases q : b = a
    · exact q ▸ S.sysm a ha
    · exact S.sysm b (by rwa [AH.set_ne _ _ q] at e)

theorem Sf.new (S : Sf C B W env F H s) {a : Addr} {o : O} {ob : Obj} {s' : Shared} (hk : ∀ b o, s.heap.get? b = some o → s'.heap.get? b = some o) (hsz : s.heap.objs.size ≤ a)
    (ho : s'.heap.get? a = some ob) (hr : OR C.prog C.w o ob) (hg : s'.gens = s.gens) (hos : s'.os = s.os) : H a = none ∧ Sf C B W env F (H.set a o) s' := by
  have S' := S.keep hk hg hos
  have hn : s.heap.get? a = none := Heap.get?_none_of_le hsz
  have hHa : H a = none := by
    cases e : H a with
    | none => rfl
    | some o' => exact absurd hn (S.there (by rw [e]; simp))
  have hKa : C.K.lookup a = none := by
    cases e : C.K.lookup a with
    | none => rfl
    | some x => rw [S.k a x e] at hn; cases hn
  have hBa : W a ∨ B.get? a = none := by
    by_cases hW : W a
    · exact .inl hW
    · right
      cases e : B.get? a with
      | none => rfl
      | some x => exact ((S.kept a x e hW).none hn).elim
  have hL : env.locals ≠ a := fun e => by
    obtain ⟨m, ⟨o, es, ep, h1, _⟩, _⟩ := S.ns
    rw [e, hn] at h1; cases h1
  refine ⟨hHa, S'.k, S'.lim, S'.gens, S'.os, ?_, S'.kept, ?_, ?_, S.stat, S.kind, S.glob, S.blt, S'.ns, S'.cl, S'.cs, ?_, ?_, ?_, S.big⟩
  · intro b x e
    by_cases q : b = a
    · subst q; rw [AH.set_self] at e; cases e; exact ⟨ob, ho, hr⟩
    · rw [AH.set_ne _ _ q] at e; exact S'.rel b x e
  · intro b e
    by_cases q : b = a
    · exact q ▸ hBa
    · exact S.own b (by rwa [AH.set_ne _ _ q] at e)
  · intro b e
    by_cases q : b = a
    · exact q ▸ hKa
    · exact S.apart b (by rwa [AH.set_ne _ _ q] at e)
  · exact ⟨by rw [AH.set_ne _ _ hL]; exact S.na.1, S.na.2⟩
  · intro x c e
    have hc : c ≠ a := fun q => (S.nc x c e).2.2 (q ▸ hn)
    exact ⟨by rw [AH.set_ne _ _ hc]; exact (S.nc x c e).1, (S'.nc x c e).2⟩
  · intro b e
    by_cases q : b = a
    · obtain ⟨_, hm, _⟩ := S.lim
      have : sysModules < a := Nat.lt_of_lt_of_le (Nat.lt_trans (by decide) hm.lt) hsz
      subst q
      have h : b ≠ sysModules := Nat.ne_of_gt this
      simpa using h
    · exact S.sysm b (by rwa [AH.set_ne _ _ q] at e)
end
section -- R2
variable {C : Cx} {B : Heap} {W : Addr → Prop} {env : Env} {F : List (Str × V)} {H : AH} {s : Shared}
variable {M : Model} {A : Around} {E : Value → Shared → Prop}
structure Ev (sc : Scope) (env : Env) : Prop where
  kin : ∀ x k, sc.names.lookup x = some k → k ≠ .free → env.kindOf x = some k
  fr : ∀ x, sc.names.lookup x = some .free → env.kindOf x = some .free ∨ env.kindOf x = some .cell
  own : ∀ x, sc.names.lookup x = some .cell → ∃ c, env.cells.lookup x = some c ∧ env.locals < c
  has : ∀ x, sc.names.lookup x = some .free → ∃ c, env.cells.lookup x = some c

theorem r_loadName (S : Sf C B W env F H s) {x : Str} {v : V} {Q : Value → Shared → Prop} (hv : F.lookup x = some v) (k : ∀ rv, V.R v rv → Q rv s) : wpAny M A (loadName env x) Q E s := by
  rcases S.cl x v hv with h | ⟨h, c, rv, h2, h3, h4⟩
  · obtain ⟨m, h1, h2⟩ := S.ns
    obtain ⟨rv, h3, h4⟩ := h2 x v hv h
    exact wpAny_loadName_local S.kind h h1 h3 (k rv h4)
  · rcases h with h | ⟨h, hn⟩
    · exact wpAny_loadName_cell S.kind h h2 h3 (k rv h4)
    · exact wpAny_loadName_free S.kind h h2 h3 (k rv h4) hn
theorem r_name (S : Sf C B W env F H s) {x : Str} {pos : Pos} {v : V} {Q : Value → Shared → Prop} (hv : F.lookup x = some v) (k : ∀ rv, V.R v rv → Q rv s)
    (hd : autoParam ((x == ("__debug__" : Str)) = false) au1._auto_1) : wpAny M A (eval (.Name x pos) env) Q E s := wpAny_Name (r_loadName S hv k) hd

theorem r_loadGlobal (S : Sf C B W env F H s) {x : Str} {rv : Value} {Q : Value → Shared → Prop}
    (hv : nsIn C.K mainGlobals x = some (some rv) ∨ (nsIn C.K mainGlobals x = some none ∧ nsIn C.K builtinsNs x = some (some rv))) (k : Q rv s) : wpAny M A (loadGlobal env x) Q E s := by
  unfold loadGlobal
  rw [S.glob, S.blt]
  rcases hv with h | ⟨h, h'⟩
  · exact wpAny_bind ((looks_nsIn (M := M) S.k h).here (wpAny_pure k))
  · exact wpAny_bind ((looks_nsIn (M := M) S.k h).here (wpAny_bind ((looks_nsIn (M := M) S.k h').here (wpAny_pure k))))
theorem r_glob (S : Sf C B W env F H s) {x : Str} {pos : Pos} {rv : Value} {Q : Value → Shared → Prop} (hl : env.kindOf x = some .globalImplicit)
    (hv : nsIn C.K mainGlobals x = some (some rv) ∨ (nsIn C.K mainGlobals x = some none ∧ nsIn C.K builtinsNs x = some (some rv))) (k : Q rv s)
    (hd : autoParam ((x == ("__debug__" : Str)) = false) au1._auto_1) : wpAny M A (eval (.Name x pos) env) Q E s := by
  refine wpAny_Name ?_ hd
  unfold loadName
  simp only [Env.blockKind, S.kind, hl, ScopeKind.isAnnotationScope, Bool.false_and, Bool.false_eq_true, if_false]
  exact r_loadGlobal S hv k

theorem lookup_cons_eq {α : Type} {x y : Str} {v : α} {l : List (Str × α)} : ((x, v) :: l).lookup y = if y = x then some v else l.lookup y := by
  rw [List.lookup_cons]
  by_cases h : y = x
  · subst h; simp
  · have : (y == x) = false := by simpa using h
    rw [this, if_neg h]

theorem Sf.stL (S : Sf C B W env F H s) {x : Str} {v : V} {rv : Value} (hl : env.kindOf x = some .local) (hv : V.R v rv) {m : Str → Option Value} {h' : Heap} {t : Nat}
    (hm : ∃ m0, s.heap.Ns env.locals m0 ∧ (∀ x v, F.lookup x = some v → env.kindOf x = some .local → ∃ rv, m0 x = some rv ∧ V.R v rv) ∧ m = fun y => if y = x then some rv else m0 y)
    (hn : h'.Ns env.locals m) (hs : Heap.SameBut env.locals s.heap h') : Sf C B W env ((x, v) :: F) H { s with heap := h', toks := t } := by
  obtain ⟨m0, hm0, hF, rfl⟩ := hm
  have hb : ∀ b o, b ≠ env.locals → s.heap.get? b = some o → h'.get? b = some o := hs.extBut
  refine ⟨fun b o e => hb b o (fun q => ?_) (S.k b o e), ?_, S.gens, S.os, ?_, ?_, S.own, S.apart, S.stat, S.kind, S.glob, S.blt, ?_, ?_, ?_, S.na, ?_, S.sysm, S.big⟩
  · rw [q, S.na.2.1] at e; cases e
  · obtain ⟨mc, h1, h2⟩ := S.lim
    exact ⟨mc, h1.extBut (b := env.locals) hb (fun q => S.stat (q ▸ S.na.2.1)), h2⟩
  · intro a o e
    obtain ⟨ob, h1, h2⟩ := S.rel a o e
    exact ⟨ob, hb a ob (fun q => by rw [q, S.na.1] at e; cases e) h1, h2⟩
  · intro b o e n
    exact (S.kept b o e n).keep fun o' e' => hb b o' (fun q => by
      rcases S.na.2.2 with z | z
      · exact n (q ▸ z)
      · rw [q, z] at e; cases e) e'
  · refine ⟨_, hn, fun y u e hk => ?_⟩
    rw [lookup_cons_eq] at e
    by_cases q : y = x
    · rw [if_pos q] at e; cases e; exact ⟨rv, by simp [q], hv⟩
    · rw [if_neg q] at e
      obtain ⟨r, h1, h2⟩ := hF y u e hk
      exact ⟨r, by simp [q, h1], h2⟩
  · intro y u e
    rw [lookup_cons_eq] at e
    by_cases q : y = x
    · exact .inl (q ▸ hl)
    · rw [if_neg q] at e
      refine (S.cl y u e).imp id fun ⟨h1, c, r, h2, ⟨o, h5, h6⟩, h4⟩ => ⟨h1, c, r, h2, ⟨o, hb c o (S.nc y c h2).2.1 h5, h6⟩, h4⟩
  · intro y c e l
    obtain ⟨⟨v0, o, h5, h6⟩, h3⟩ := S.cs y c e l
    exact ⟨⟨v0, o, hb c o (S.nc y c e).2.1 h5, h6⟩, h3⟩
  · intro y c e
    refine ⟨(S.nc y c e).1, (S.nc y c e).2.1, fun q => ?_⟩
    cases e' : s.heap.get? c with
    | none => exact (S.nc y c e).2.2 e'
    | some o => rw [hb c o (S.nc y c e).2.1 e'] at q; cases q
theorem r_storeL (S : Sf C B W env F H s) {x : Str} {v : V} {rv : Value} {Q : Unit → Shared → Prop} (hl : env.kindOf x = some .local) (hv : V.R v rv)
    (k : ∀ s', Sf C B W env ((x, v) :: F) H s' → Q () s') : wpAny M A (storeName env x rv) Q E s := by
  obtain ⟨m, h1, h2⟩ := S.ns
  refine wpAny_storeName_local hl h1 (fun h' hn hs => k _ (S.stL hl hv ⟨m, h1, h2, rfl⟩ hn hs)) ?_
  rw [S.kind]; rfl
theorem r_storeC (S : Sf C B W env F H s) {x : Str} {v : V} {rv : Value} {Q : Unit → Shared → Prop} (hl : env.kindOf x = some .cell) (how : ∃ c, env.cells.lookup x = some c ∧ env.locals < c) (hv : V.R v rv)
    (k : ∀ s', Sf C B W env ((x, v) :: F) H s' → Q () s') : wpAny M A (storeName env x rv) Q E s := by
  obtain ⟨c, hc, hlt⟩ := how
  obtain ⟨⟨v0, hcv⟩, hKc, hBc, hap⟩ := S.cs x c hc hlt
  have hHc := (S.nc x c hc).1
  have hcL := (S.nc x c hc).2.1
  refine wpAny_storeName_cell S.kind hl hc hcv fun h' hc' hs => k _ ?_
  have hb : ∀ b o, b ≠ c → s.heap.get? b = some o → h'.get? b = some o := hs.extBut
  refine ⟨fun b o e => hb b o (fun q => by rw [q, hKc] at e; cases e) (S.k b o e), ?_, S.gens, S.os, ?_, ?_, S.own, S.apart, S.stat, S.kind, S.glob, S.blt, ?_, ?_, ?_, S.na, ?_, S.sysm, S.big⟩
  · obtain ⟨mc, h1, h2⟩ := S.lim
    exact ⟨mc, h1.extBut (b := c) hb (fun q => S.stat (q ▸ hKc)), h2⟩
  · intro a o e
    obtain ⟨ob, h1, h2⟩ := S.rel a o e
    exact ⟨ob, hb a ob (fun q => by rw [q, hHc] at e; cases e) h1, h2⟩
  · intro b o e n
    exact (S.kept b o e n).keep fun o' e' => hb b o' (fun q => by
      rcases hBc with z | z
      · exact n (q ▸ z)
      · rw [q, z] at e; cases e) e'
  · obtain ⟨m, h1, h2⟩ := S.ns
    refine ⟨m, h1.extBut (b := c) hb (Ne.symm hcL), fun y u e hk => ?_⟩
    rw [lookup_cons_eq] at e
    by_cases q : y = x
    · subst q; rw [hl] at hk; cases hk
    · rw [if_neg q] at e; exact h2 y u e hk
  · intro y u e
    rw [lookup_cons_eq] at e
    by_cases q : y = x
    · subst q; rw [if_pos rfl] at e; cases e
      exact .inr ⟨.inl hl, c, rv, hc, hc', hv⟩
    · rw [if_neg q] at e
      refine (S.cl y u e).imp id fun ⟨h1, c', r, h2, ⟨o, h5, h6⟩, h4⟩ => ⟨h1, c', r, h2, ⟨o, hb c' o (hap y c' h2 q) h5, h6⟩, h4⟩
  · intro y c1 e l
    by_cases q : y = x
    · subst q
      rw [hc] at e; cases e
      refine ⟨⟨some rv, hc'⟩, hKc, hBc, hap⟩
    · obtain ⟨⟨v1, o, h5, h6⟩, h3⟩ := S.cs y c1 e l
      exact ⟨⟨v1, o, hb c1 o (hap y c1 e q) h5, h6⟩, h3⟩
  · intro y c' e
    refine ⟨(S.nc y c' e).1, (S.nc y c' e).2.1, fun q => ?_⟩
    by_cases q' : c' = c
    · obtain ⟨o, ho, _⟩ := hc'
      subst q'
      have q2 : h'.get? c' = none := q
      rw [ho] at q2; cases q2
    · cases e' : s.heap.get? c' with
      | none => exact (S.nc y c' e).2.2 e'
      | some o =>
        have q2 : h'.get? c' = none := q
        rw [hb c' o q' e'] at q2; cases q2
theorem r_store {sc : Scope} (G : Ev sc env) (S : Sf C B W env F H s) {x : Str} {v : V} {rv : Value} {Q : Unit → Shared → Prop} (hl : (match sc.names.lookup x with | some .local => true | some .cell => true | _ => false) = true) (hv : V.R v rv)
    (k : ∀ s', Sf C B W env ((x, v) :: F) H s' → Q () s') : wpAny M A (storeName env x rv) Q E s := by
  split at hl
  · exact r_storeL S (G.kin _ _ (by assumption) (by decide)) hv k
  · exact r_storeC S (G.kin _ _ (by assumption) (by decide)) (G.own _ (by assumption)) hv k
  · cases hl
theorem Sf.less (S : Sf C B W env F H s) {F' : List (Str × V)} (h : ∀ x v, F'.lookup x = some v → F.lookup x = some v) : Sf C B W env F' H s :=
  { S with ns := let ⟨m, h1, h2⟩ := S.ns; ⟨m, h1, fun x v e => h2 x v (h x v e)⟩, cl := fun x v e => S.cl x v (h x v e) }

theorem r_int (S : Sf C B W env F H s) {i : Int} {kd : Nat} {pos : Pos} {Q : Value → Shared → Prop} (k : ∀ rv s', Sf C B W env F H s' → V.R (.int i) rv → Q rv s') : wpAny M A (eval (.Constant (.int i) kd pos) env) Q E s :=
  wpAny_Constant_int (k _ _ (S.tok _) ⟨_, rfl⟩)
theorem r_str (S : Sf C B W env F H s) {x : Str} {kd : Nat} {pos : Pos} {Q : Value → Shared → Prop} (k : ∀ rv s', Sf C B W env F H s' → V.R (.str x) rv → Q rv s') : wpAny M A (eval (.Constant (.str x) kd pos) env) Q E s := by
  refine Calls.Constant_str ?_
  exact k _ _ (S.tok _) ⟨_, rfl⟩
theorem r_none {kd : Nat} {pos : Pos} {Q : Value → Shared → Prop} (k : Q .none s) : wpAny M A (eval (.Constant .none kd pos) env) Q E s := wpAny_Constant_none k
theorem r_bool {b : Bool} {kd : Nat} {pos : Pos} {Q : Value → Shared → Prop} (k : Q (.bool b) s) : wpAny M A (eval (.Constant (.bool b) kd pos) env) Q E s := wpAny_Constant_bool k
end
section -- R3
variable {C : Cx} {B : Heap} {W : Addr → Prop} {env : Env} {F : List (Str × V)} {H : AH} {s : Shared}
structure FnAt (K : Frag) (fa : Addr) (p : Arguments) (b : List Stmt) (sc : Scope) (dv : Value) (fd : FuncData) : Prop where
  at_ : K.lookup fa = some { cls := .type "function", data := .func fd }
  params : fd.params = p
  body : fd.body = .stmts b
  scope : fd.scope = sc
  globals : fd.globals = mainGlobals
  closure : fd.closure = []
  builtins : fd.builtins = builtinsNs
  defaults : fd.defaults = dv
  kwd : fd.kwdefaults = .none
  code : ∃ c o vs t, fd.code = .ref c ∧ K.lookup c = some o ∧ o.data = .fields vs ∧ vs[1]? = some (.str fd.qualname t)

noncomputable abbrev BR : Str × V → Str × Value → Prop := fun p q => p.1 = q.1 ∧ V.R p.2 q.2

theorem cellsFrom_has : ∀ (names : List (Str × NameKind)) (n : Nat) (acc : List (Str × Addr)) (x : Str), (acc.lookup x).isSome = true ∨ names.lookup x = some .cell → ((cellsFrom n names acc).lookup x).isSome = true
  | [], n, acc, x, h => by
    rcases h with h | h
    · exact h
    · cases h
  | (nm, kd) :: r, n, acc, x, h => by
    unfold cellsFrom
    have key : (acc.lookup x).isSome = true ∨ (x = nm ∧ kd = .cell) ∨ r.lookup x = some .cell := by
      rcases h with h | h
      · exact .inl h
      · rw [lookup_cons_eq] at h
        by_cases q : x = nm
        · rw [if_pos q] at h; cases h; exact .inr (.inl ⟨q, rfl⟩)
        · rw [if_neg q] at h; exact .inr (.inr h)
    split
    · rename_i hk
      refine cellsFrom_has r _ _ x ?_
      rw [lookup_cons_eq]
      rcases key with h | ⟨h, _⟩ | h
      · by_cases q : x = nm
        · left; rw [if_pos q]; rfl
        · left; rw [if_neg q]; exact h
      · left; rw [if_pos h]; rfl
      · exact .inr h
    · rename_i hk
      refine cellsFrom_has r _ _ x ?_
      rcases key with h | ⟨_, h⟩ | h
      · exact .inl h
      · subst h; exact absurd rfl hk
      · exact .inr h

theorem cellsFrom_ge : ∀ (names : List (Str × NameKind)) (n : Nat) (acc : List (Str × Addr)) (x : Str) (c : Addr), (cellsFrom n names acc).lookup x = some c → acc.lookup x = some c ∨ n ≤ c
  | [], n, acc, x, c, h => .inl h
  | (nm, kd) :: r, n, acc, x, c, h => by
    unfold cellsFrom at h
    split at h
    · rcases cellsFrom_ge r _ _ x c h with h | h
      · rw [lookup_cons_eq] at h
        by_cases q : x = nm
        · rw [if_pos q] at h; cases h; exact .inr (Nat.le_refl _)
        · rw [if_neg q] at h; exact .inl h
      · exact .inr (Nat.le_of_succ_le h)
    · exact cellsFrom_ge r _ _ x c h

theorem bindL_at {kindOf : Str → Option NameKind} : ∀ {F : List (Str × V)} {binds : List (Str × Value)}, A2 BR F binds → ∀ {m : Str → Option Value} {x : Str} {v : V}, (F.map (·.1)).Nodup → F.lookup x = some v → kindOf x = some .local →
    ∃ rv, bindL kindOf binds m x = some rv ∧ V.R v rv := by
  have other : ∀ {F : List (Str × V)} {binds : List (Str × Value)}, A2 BR F binds → ∀ {m : Str → Option Value} {x : Str}, x ∉ F.map (·.1) → bindL kindOf binds m x = m x := by
    intro F binds h
    induction h with
    | nil => intro m x _; rfl
    | @cons a b l l' hab _ ih =>
      intro m x hx
      obtain ⟨n, rv⟩ := b
      rw [List.map_cons, List.mem_cons, not_or] at hx
      unfold bindL
      rw [ih hx.2]
      split
      · have : x ≠ n := fun q => hx.1 (q.trans hab.1.symm)
        simp [this]
      · rfl
  intro F binds h
  induction h with
  | nil => intro m x v _ e; cases e
  | @cons a b l l' hab hl ih =>
    intro m x v hn e hk
    obtain ⟨n, rv⟩ := b
    obtain ⟨n', u⟩ := a
    obtain ⟨h1, h2⟩ := hab
    dsimp only at h1 h2
    subst h1
    rw [List.map_cons, List.nodup_cons] at hn
    rw [lookup_cons_eq] at e
    unfold bindL
    by_cases q : x = n'
    · rw [if_pos q] at e; cases e
      subst q
      rw [other hl hn.1, if_pos hk]
      exact ⟨rv, by simp, h2⟩
    · rw [if_neg q] at e
      exact ih hn.2 e hk
theorem bindC_at {kindOf : Str → Option NameKind} : ∀ {F : List (Str × V)} {binds : List (Str × Value)}, A2 BR F binds → ∀ {m : Str → Option Value} {x : Str} {v : V}, (F.map (·.1)).Nodup → F.lookup x = some v → kindOf x ≠ some .local →
    ∃ rv, bindC kindOf binds m x = some rv ∧ V.R v rv := by
  have other : ∀ {F : List (Str × V)} {binds : List (Str × Value)}, A2 BR F binds → ∀ {m : Str → Option Value} {x : Str}, x ∉ F.map (·.1) → bindC kindOf binds m x = m x := by
    intro F binds h
    induction h with
    | nil => intro m x _; rfl
    | @cons a b l l' hab _ ih =>
      intro m x hx
      obtain ⟨n, rv⟩ := b
      rw [List.map_cons, List.mem_cons, not_or] at hx
      unfold bindC
      rw [ih hx.2]
      split
      · rfl
      · have : x ≠ n := fun q => hx.1 (q.trans hab.1.symm)
        simp [this]
  intro F binds h
  induction h with
  | nil => intro m x v _ e; cases e
  | @cons a b l l' hab hl ih =>
    intro m x v hn e hk
    obtain ⟨n, rv⟩ := b
    obtain ⟨n', u⟩ := a
    obtain ⟨h1, h2⟩ := hab
    dsimp only at h1 h2
    subst h1
    rw [List.map_cons, List.nodup_cons] at hn
    rw [lookup_cons_eq] at e
    unfold bindC
    by_cases q : x = n'
    · rw [if_pos q] at e; cases e
      subst q
      rw [other hl hn.1, if_neg hk]
      exact ⟨rv, by simp, h2⟩
    · rw [if_neg q] at e
      exact ih hn.2 e hk

noncomputable def parOk (sc : Scope) (F : List (Str × V)) : Bool := F.all fun p => match sc.names.lookup p.1 with
  | some .local => true
  | some .cell => true
  | _ => false

noncomputable abbrev dom (H : AH) : Addr → Prop := fun a => H a ≠ none

theorem Sf.enter (S : Sf C B W env F H s) {fa : Addr} {p : Arguments} {b : List Stmt} {sc : Scope} {dv : Value} {fd : FuncData} (Fn : FnAt C.K fa p b sc dv fd) {binds : List (Str × Value)} {F' : List (Str × V)}
    (hb : A2 BR F' binds) (hn : (F'.map (·.1)).Nodup) (hp : parOk sc F' = true) (hk : sc.kind = .function) {s₁ : Shared}
    (x : InCallC s (callEnvC fd s.heap.objs.size fa).locals (bindL (callEnvC fd s.heap.objs.size fa).kindOf binds fun _ => none) (callEnvC fd s.heap.objs.size fa).cells
        (bindC (callEnvC fd s.heap.objs.size fa).kindOf binds fun _ => none) s₁) : Sf C s.heap (dom H) (callEnvC fd s.heap.objs.size fa) F' H s₁ := by
  obtain ⟨h1, tk, rfl⟩ := x.toInCall.same
  have S' : Sf C B W env F H { s with heap := h1, toks := tk } := S.keep x.toInCall.keep rfl rfl
  have hsc : (callEnvC fd s.heap.objs.size fa).scope = sc := Fn.scope
  have hko : ∀ y, (callEnvC fd s.heap.objs.size fa).kindOf y = sc.names.lookup y := fun y => by unfold Env.kindOf; rw [hsc]
  have hcells : (callEnvC fd s.heap.objs.size fa).cells = cellsFrom (s.heap.objs.size + 1) sc.names [] := by rw [← Fn.scope]; rfl
  have big : ∀ {a : Addr}, s.heap.objs.size ≤ a → s.heap.get? a = none := fun h => by
    rename_i a
    cases e : s.heap.get? a with
    | none => rfl
    | some o => exact absurd (Heap.lt_size e) (Nat.not_lt.mpr h)
  have free : ∀ {a : Addr}, s.heap.objs.size ≤ a → H a = none ∧ C.K.lookup a = none := fun h => by
    rename_i a
    constructor
    · cases e : H a with
      | none => rfl
      | some o => exact absurd (big h) (S.there (by rw [e]; simp))
    · cases e : C.K.lookup a with
      | none => rfl
      | some o => have := S.k a o e; rw [big h] at this; cases this
  have hi : ∀ y c, (callEnvC fd s.heap.objs.size fa).cells.lookup y = some c → s.heap.objs.size < c := fun y c e => x.above y c (mem_of_lookup e)
  refine ⟨S'.k, S'.lim, S'.gens, S'.os, S'.rel, fun b o e _ => .inl (x.toInCall.keep b o e), fun a h => .inl h, S.apart, S.stat, ?_, Fn.globals, Fn.builtins, ?_, ?_, ?_, ?_, ?_, S.sysm, ?_⟩
  · rw [hsc]; exact hk
  · exact ⟨_, x.toInCall.ns, fun y v e k => bindL_at hb hn e k⟩
  · intro y v e
    by_cases hl : (callEnvC fd s.heap.objs.size fa).kindOf y = some .local
    · exact .inl hl
    · right
      have hm := List.all_eq_true.mp hp (y, v) (mem_of_lookup e)
      have hc : (callEnvC fd s.heap.objs.size fa).kindOf y = some .cell := by
        rw [hko] at hl ⊢
        dsimp only at hm
        split at hm
        · rename_i q; exact absurd q hl
        · assumption
        · cases hm
      have hso := cellsFrom_has sc.names (s.heap.objs.size + 1) [] y (.inr (by rw [← hko]; exact hc))
      rw [← hcells] at hso
      obtain ⟨c, hcc⟩ := Option.isSome_iff_exists.mp hso
      obtain ⟨rv, h2, h3⟩ := bindC_at hb hn (m := fun _ => none) e hl
      exact ⟨.inl hc, c, rv, hcc, h2 ▸ x.cell y c hcc, h3⟩
  · intro y c hcc hlt0
    have hlt := hi y c hcc
    refine ⟨⟨_, x.cell y c hcc⟩, (free (Nat.le_of_lt hlt)).2, .inr (big (Nat.le_of_lt hlt)), fun z c' e' hz q => ?_⟩
    subst q
    exact hz (name_of_addr x.apart (mem_of_lookup e') (mem_of_lookup hcc))
  · exact ⟨(free (Nat.le_refl _)).1, (free (Nat.le_refl _)).2, .inr (big (Nat.le_refl _))⟩
  · intro y c e
    have hlt := hi y c e
    obtain ⟨o, ho, _⟩ := x.cell y c e
    exact ⟨(free (Nat.le_of_lt hlt)).1, Nat.ne_of_gt hlt, by rw [ho]; simp⟩
  · obtain ⟨m, ⟨o, es, ep, h1, _⟩, _⟩ := S.ns
    exact Nat.le_trans S.big (Nat.le_of_lt (Heap.lt_size h1))

theorem FnAt.ev {K : Frag} {fa : Addr} {p : Arguments} {b : List Stmt} {sc : Scope} {dv : Value} {fd : FuncData} (Fn : FnAt K fa p b sc dv fd) (hf : sc.names.all (fun q => q.2 != .free) = true) (L : Addr) : Ev sc (callEnvC fd L fa) := by
  have hko : ∀ y, (callEnvC fd L fa).kindOf y = sc.names.lookup y := fun y => by
    show fd.scope.names.lookup y = _
    rw [Fn.scope]
  have nf : ∀ x, sc.names.lookup x ≠ some .free := fun x q => by
    have := List.all_eq_true.mp hf _ (mem_of_lookup q)
    simp at this
  refine ⟨fun x k e _ => (hko x).trans e, fun x e => absurd e (nf x), fun x e => ?_, fun x e => absurd e (nf x)⟩
  have hso := cellsFrom_has sc.names (L + 1) [] x (.inr e)
  obtain ⟨c, hcc⟩ := Option.isSome_iff_exists.mp hso
  refine ⟨c, ?_, ?_⟩
  · show (cellsFrom (L + 1) fd.scope.names []).lookup x = _
    rw [Fn.scope]; exact hcc
  · show L < c
    have ok := cellsFrom_ge sc.names (L + 1) [] x c hcc
    rcases ok with h | h
    · cases h
    · exact h

theorem Sf.back (S : Sf C B W env F H s) {env' : Env} {F' : List (Str × V)} {H' : AH} {s' : Shared} (S' : Sf C s.heap (dom H) env' F' H' s') : Sf C B W env F H' s' := by
  have hk : ∀ b o, s.heap.get? b = some o → H b = none → Same C b o s'.heap := fun b o e h => S'.kept b o e (fun q => q h)
  have hL : env.locals ≠ 0 ∨ True := .inr trivial
  have hnn : ∀ {c : Addr}, H c = none → s.heap.get? c ≠ none → H' c = none := fun {c} h1 h2 => by
    cases e : H' c with
    | none => rfl
    | some o =>
      rcases S'.own c (by rw [e]; simp) with q | q
      · exact absurd h1 q
      · exact absurd q h2
  refine ⟨S'.k, S'.lim, S'.gens, S'.os, S'.rel, ?_, ?_, S'.apart, S.stat, S.kind, S.glob, S.blt, ?_, ?_, ?_, ?_, ?_, S'.sysm, S.big⟩
  · intro b o e n
    refine (S.kept b o e n).trans fun o' e1 => hk b o' e1 ?_
    cases q : H b with
    | none => rfl
    | some _ =>
      rcases S.own b (by rw [q]; simp) with z | z
      · exact absurd z n
      · rw [z] at e; cases e
  · intro a h
    rcases S'.own a h with q | q
    · exact S.own a q
    · by_cases hW : W a
      · exact .inl hW
      · right
        cases e : B.get? a with
        | none => rfl
        | some o => exact ((S.kept a o e hW).none q).elim
  · obtain ⟨m, ⟨o, es, ep, h1, h2, h2'⟩, h3⟩ := S.ns
    obtain ⟨o', e1, e2⟩ := (hk _ _ h1 S.na.1).there
    exact ⟨m, ⟨o', es, ep, e1, e2.trans h2, h2'⟩, h3⟩
  · intro x v e
    refine (S.cl x v e).imp id fun ⟨h1, c, rv, h2, ⟨o, h3, h3'⟩, h4⟩ => ⟨h1, c, rv, h2, let ⟨o', e1, e2⟩ := (hk _ _ h3 (S.nc x c h2).1).there; ⟨o', e1, e2.trans h3'⟩, h4⟩
  · intro x c e l
    obtain ⟨⟨v0, o, h3, h3'⟩, h4⟩ := S.cs x c e l
    exact ⟨⟨v0, let ⟨o', e1, e2⟩ := (hk _ _ h3 (S.nc x c e).1).there; ⟨o', e1, e2.trans h3'⟩⟩, h4⟩
  · obtain ⟨m, ⟨o, es, ep, h1, h2⟩, h3⟩ := S.ns
    exact ⟨hnn S.na.1 (by rw [h1]; simp), S.na.2⟩
  · intro x c e
    obtain ⟨h1, h2, h3⟩ := S.nc x c e
    refine ⟨hnn h1 h3, h2, ?_⟩
    cases q : s.heap.get? c with
    | none => exact absurd q h3
    | some o =>
      obtain ⟨o', e1, _⟩ := (hk c o q h1).there
      rw [e1]; simp

noncomputable def Wn (H : AH) (env : Env) : Addr → Prop := fun a => H a ≠ none ∨ a = env.locals ∨ ∃ x, env.cells.lookup x = some a ∧ env.locals < a
theorem Sf.snap (S : Sf C B W env F H s) : Sf C s.heap (Wn H env) env F H s :=
  { S with
    kept := fun _ _ e _ => .inl e
    own := fun a h => .inl (.inl h)
    cs := fun x c e l => let ⟨h1, h2, _, h4⟩ := S.cs x c e l; ⟨h1, h2, .inl (.inr (.inr ⟨x, e, l⟩)), h4⟩
    na := ⟨S.na.1, S.na.2.1, .inl (.inr (.inl rfl))⟩ }
theorem Sf.unsnap (S : Sf C B W env F H s) {H0 : AH} (hH : ∀ a, H0 a ≠ none → H a ≠ none ∨ (W a ∨ B.get? a = none)) {s0 : Heap} (hs : ∀ b o, B.get? b = some o → ¬ W b → Same C b o s0) {F' : List (Str × V)} {H' : AH} {s' : Shared} (S' : Sf C s0 (Wn H0 env) env F' H' s') : Sf C B W env F' H' s' := by
  have nw : ∀ b o, B.get? b = some o → ¬ W b → ¬ Wn H0 env b := fun b o e n h => by
    rcases h with h | h | ⟨x, h, h'⟩
    · rcases hH b h with h | h | h
      · rcases S.own b h with z | z
        · exact n z
        · rw [z] at e; cases e
      · exact n h
      · rw [h] at e; cases e
    · rcases S.na.2.2 with z | z
      · exact n (h ▸ z)
      · rw [h, z] at e; cases e
    · rcases (S.cs x b h h').2.2.1 with z | z
      · exact n z
      · rw [z] at e; cases e
  refine { S' with kept := fun b o e n => (hs b o e n).trans fun o' e' => S'.kept b o' e' (nw b o e n), own := fun a h => ?_, cs := fun x c e l => ?_, na := ⟨S'.na.1, S'.na.2.1, S.na.2.2⟩ }
  · by_cases hW : W a
    · exact .inl hW
    · right
      cases e : B.get? a with
      | none => rfl
      | some o =>
        rcases S'.own a h with z | z
        · exact absurd z (nw a o e hW)
        · exact ((hs a o e hW).none z).elim
  · exact ⟨(S'.cs x c e l).1, (S'.cs x c e l).2.1, (S.cs x c e l).2.2.1, (S'.cs x c e l).2.2.2⟩
theorem Sf.aside (S : Sf C B W env F H s) {I : Addr} {s' : Shared} (hb : ∀ b x, b ≠ I → s.heap.get? b = some x → s'.heap.get? b = some x) (hI : H I = none) (hK : C.K.lookup I = none) (hB : W I ∨ B.get? I = none) (hL : I ≠ env.locals)
    (hC : ∀ x c, env.cells.lookup x = some c → c ≠ I) (hg : s'.gens = s.gens) (hos : s'.os = s.os) : Sf C B W env F H s' := by
  refine ⟨fun b o e => hb b o (fun q => by rw [q, hK] at e; cases e) (S.k b o e), ?_, hg.trans S.gens, hos.trans S.os, ?_, ?_, S.own, S.apart, S.stat, S.kind, S.glob, S.blt, ?_, ?_, ?_, S.na, ?_, S.sysm, S.big⟩
  · obtain ⟨mc, h1, h2⟩ := S.lim
    exact ⟨mc, h1.extBut (b := I) hb (fun q => S.stat (q ▸ hK)), h2⟩
  · intro a o e
    obtain ⟨ob, h1, h2⟩ := S.rel a o e
    exact ⟨ob, hb a ob (fun q => by rw [q, hI] at e; cases e) h1, h2⟩
  · intro b o e n
    exact (S.kept b o e n).keep fun o' e' => hb b o' (fun q => by
      rcases hB with z | z
      · exact n (q ▸ z)
      · rw [q, z] at e; cases e) e'
  · obtain ⟨m, h1, h2⟩ := S.ns
    exact ⟨m, h1.extBut (b := I) hb (Ne.symm hL), h2⟩
  · intro y u e
    refine (S.cl y u e).imp id fun ⟨h1, c', r, h2, ⟨o, h5, h6⟩, h4⟩ => ⟨h1, c', r, h2, ⟨o, hb c' o (hC y c' h2) h5, h6⟩, h4⟩
  · intro y c1 e l
    obtain ⟨⟨v1, o, h5, h6⟩, h3⟩ := S.cs y c1 e l
    exact ⟨⟨v1, o, hb c1 o (hC y c1 e) h5, h6⟩, h3⟩
  · intro y c' e
    refine ⟨(S.nc y c' e).1, (S.nc y c' e).2.1, fun q => ?_⟩
    cases e' : s.heap.get? c' with
    | none => exact (S.nc y c' e).2.2 e'
    | some o => rw [hb c' o (hC y c' e) e'] at q; cases q
end
section -- R4
variable {C : Cx} {B : Heap} {W : Addr → Prop} {env : Env} {F : List (Str × V)} {H : AH} {s : Shared} {A : Around} {E : Value → Shared → Prop}
structure Rm (n : Nat) (A : Around) : Prop where
  handled : A.handled = none
  depth : A.depth + 2 * n ≤ 600
  units : A.units + 8 * n ≤ 9000
  frames : ∃ l, A.frames = some l
  guards : A.guards = some []
theorem Rm.deeper {n : Nat} {A : Around} (h : Rm (n + 1) A) (env : Env) : Rm n (A.deeper env) := by
  obtain ⟨h1, h2, h3, ⟨l, h4⟩, h5⟩ := h
  refine ⟨h1, ?_, ?_, ⟨env :: l, ?_⟩, h5⟩
  · exact ar_rm h2 (by decide)
  · exact ar_rm h3 (by decide)
  · show A.frames.map _ = _; rw [h4]; rfl
theorem Rm.in1 {n : Nat} {A : Around} (h : Rm (n + 1) A) : Rm n A.in1 := by
  obtain ⟨h1, h2, h3, h4, h5⟩ := h
  exact ⟨h1, ar_rm (b := 0) h2 (by decide), ar_rm h3 (by decide), h4, h5⟩
theorem Rm.mono {n m : Nat} {A : Around} (h : Rm n A) (hm : m ≤ n) : Rm m A := ⟨h.1, ar_mono h.2 hm, ar_mono h.3 hm, h.4, h.5⟩
theorem Rm.room {n : Nat} {A : Around} (h : Rm n A) : A.depth < recursionLimit := ar_room (M := 1000) h.2 (by decide)
theorem Rm.line {n : Nat} {A : Around} (h : Rm n A) : A.units < cLine := ar_room (M := 9900) h.3 (by decide)

noncomputable def retOf : Flow → Value
  | .ret v => v
  | _ => .none

theorem FnAt.codeRec {K : Frag} {fa : Addr} {p : Arguments} {b : List Stmt} {sc : Scope} {dv : Value} {fd : FuncData} (Fn : FnAt K fa p b sc dv fd) {h : Heap} (k : K.In h) : h.CodeRec fd.code fd.qualname := by
  obtain ⟨c, o, vs, t, h1, h2, h3, h4⟩ := Fn.code
  exact ⟨c, o, vs, t, h1, k _ _ h2, h3, h4⟩

noncomputable def fnOk (sc : Scope) : Bool := sc.kind == .function && (!sc.isCoroutine && (!sc.isGenerator && sc.names.all fun q => q.2 != .free))
theorem fnOk.all {sc : Scope} (h : fnOk sc = true) : sc.kind = .function ∧ sc.isCoroutine = false ∧ sc.isGenerator = false ∧ sc.names.all (fun q => q.2 != .free) = true := by
  unfold fnOk at h
  simp only [Bool.and_eq_true, Bool.not_eq_true', beq_iff_eq] at h
  exact h

inductive CallN (C : Cx) (B : Heap) (W : Addr → Prop) (env : Env) (F : List (Str × V)) (B' : Heap) (W' : Addr → Prop) (env' : Env) (s : Shared) (P : Prop) : Prop
  | mk (F' : List (Str × V)) (H' : AH) (S : Sf C B' W' env' F' H' s) (k : Sf C B W env F H' s → P)
theorem r_callC (S : Sf C B W env F H s) {n : Nat} (R : Rm n A) {fa : Addr} {p : Arguments} {b : List Stmt} {sc : Scope} {dv : Value} {fd : FuncData} (Fn : FnAt C.K fa p b sc dv fd) {vals : List Value} {binds : List (Str × Value)} {F' : List (Str × V)} {RR : Result → Shared → Prop}
    (hbind : bindArgs fd ⟨vals, []⟩ = pure binds) (hb : A2 BR F' binds) (hn : (F'.map (·.1)).Nodup) (hp : parOk sc F' = true) (ho : fnOk sc = true)
    (h : ∀ env' s₁, Ev sc env' → Sf C s.heap (dom H) env' F' H s₁ →
      wpAny (model C.prog C.w) (A.deeper env') (execs b env') (fun f s' => CallN C B W env F s.heap (dom H) env' s' (RR (.ok (.ret (retOf f))) s')) (fun _ _ => False) s₁) :
    codeAny (model C.prog C.w) A (.call (.ref fa) ⟨vals, []⟩) RR s := by
  obtain ⟨hk, hco, hgen, hf⟩ := fnOk.all ho
  refine codeAny_call_cells R.room (S.k _ _ Fn.at_) rfl S.lim (Fn.codeRec S.k) Fn.body hbind Fn.closure ?_ (fun s₁ x => ?_) (by rw [Fn.scope]; exact hco) (by rw [Fn.scope]; exact hgen) (by rw [Fn.scope]; exact hk)
  · intro x hx
    rw [Fn.scope]
    obtain ⟨i, hi⟩ := List.getElem?_of_mem hx
    obtain ⟨q, h1, h2⟩ := hb.get' hi
    have hm := List.all_eq_true.mp hp q (List.mem_of_getElem? h1)
    rw [h2.1] at hm
    split at hm
    · exact .inl (by assumption)
    · rename_i e; exact .inr ⟨e, cellsFrom_has _ _ _ _ (.inr e)⟩
    · cases hm
  · refine wpAny_mono (h _ s₁ (Fn.ev hf _) (S.enter Fn hb hn hp hk x)) (fun f s' h' => ?_) fun _ _ e => e.elim
    obtain ⟨F'', H', S', q⟩ := h'
    have := q (S.back S')
    cases f <;> exact this
theorem r_call (S : Sf C B W env F H s) {n : Nat} (R : Rm n A) {fa : Addr} {p : Arguments} {b : List Stmt} {sc : Scope} {dv : Value} {fd : FuncData} (Fn : FnAt C.K fa p b sc dv fd) {vals : List Value} {binds : List (Str × Value)} {F' : List (Str × V)} {Q : Value → Shared → Prop}
    (hbind : bindArgs fd ⟨vals, []⟩ = pure binds) (hb : A2 BR F' binds) (hn : (F'.map (·.1)).Nodup) (hp : parOk sc F' = true) (ho : fnOk sc = true)
    (h : ∀ env' s₁, Ev sc env' → Sf C s.heap (dom H) env' F' H s₁ →
      wpAny (model C.prog C.w) (A.deeper env') (execs b env') (fun f s' => CallN C B W env F s.heap (dom H) env' s' (Q (retOf f) s')) (fun _ _ => False) s₁) :
    wpAny (model C.prog C.w) A (call (.ref fa) vals) Q E s :=
  wpAny_call (r_callC S R Fn hbind hb hn hp ho h)

theorem r_callName {x : Str} {np pos : Pos} {args : List Expr} {fa : Addr} {fd : FuncData} {o : Obj} {Q : Value → Shared → Prop}
    (hf : ∀ Q', Q' (.ref fa) s → wpAny (model C.prog C.w) A (eval (.Name x np) env) Q' E s)
    (h : wpAny (model C.prog C.w) A (evalArgs (.ref fa) true (backTo pos (starEach args env)) []) (fun a s₁ => (s₁.heap.get? fa = some o ∧ o.data = .func fd) ∧ wpAny (model C.prog C.w) A (call (.ref fa) a.pos a.kw) Q E s₁) E s) :
    wpAny (model C.prog C.w) A (eval (.Call (.Name x np) args [] pos) env) Q E s :=
  wpAny_Call_ofName (hf _ (callWith_function (first := []) h))
end
section -- R5
variable {C : Cx} {B : Heap} {W : Addr → Prop} {env : Env} {F : List (Str × V)} {H : AH} {s : Shared} {A : Around} {E : Value → Shared → Prop} {r1 r2 : Value}
/-! statements -/
noncomputable def seqQ (M : Model) (A : Around) (rest : List Stmt) (env : Env) (E : Value → Shared → Prop) (Q : Flow → Shared → Prop) : Flow → Shared → Prop
  | .next, s => wpAny M A (execs rest env) Q E s
  | f, s => Q f s
section
variable {M : Model} {Q : Flow → Shared → Prop} {rest : List Stmt}
theorem q_cons {st : Stmt} (h : wpAny M A (exec st env) (seqQ M A rest env E Q) E s) : wpAny M A (execs (st :: rest) env) Q E s :=
  wpAny_execs_cons (wpAny_mono h (fun f s' h' => by cases f <;> exact h') fun _ _ e => e)
theorem q_nil (h : Q .next s) : wpAny M A (execs [] env) Q E s := wpAny_execs_nil h
theorem q_next (h : wpAny M A (execs rest env) Q E s) : seqQ M A rest env E Q .next s := h
theorem q_ret {v : Value} (h : Q (.ret v) s) : seqQ M A rest env E Q (.ret v) s := h
theorem q_brk (h : Q .brk s) : seqQ M A rest env E Q .brk s := h
theorem q_cont (h : Q .cont s) : seqQ M A rest env E Q .cont s := h
end
noncomputable def ifQ (b : Bool) (P P' : Prop) : Prop := (b = true → P) ∧ (b = false → P')
theorem ifQ_t {P P' : Prop} (h : P) : ifQ true P P' := ⟨fun _ => h, fun q => (nomatch q)⟩
theorem ifQ_f {P P' : Prop} (h : P') : ifQ false P P' := ⟨fun q => (nomatch q), fun _ => h⟩
theorem ifQ_tt {b : Bool} {P P' : Prop} (e : b = true) (h : P) : ifQ b P P' := e ▸ ifQ_t h
theorem ifQ_ff {b : Bool} {P P' : Prop} (e : b = false) (h : P') : ifQ b P P' := e ▸ ifQ_f h
theorem ifQ_ite {b : Bool} {P P' : Prop} (h : ifQ b P P') : if b = true then P else P' := by cases b <;> simp_all [ifQ]
section
variable {M : Model}
theorem q_if {test : Expr} {body orelse : List Stmt} {pos : Pos} {Q : Flow → Shared → Prop}
    (h : wpAny M A (isTrue test env (eval test env)) (fun b s' => ifQ b (wpAny M A (execs body env) Q E s') (wpAny M A (execs orelse env) Q E s')) E s) : wpAny M A (exec (.If test body orelse pos) env) Q E s :=
  wpAny_If (wpAny_mono h (fun _ _ h' => ifQ_ite h') fun _ _ e => e)
theorem q_ifexp {test body orelse : Expr} {pos : Pos} {Q : Value → Shared → Prop}
    (h : wpAny M A (isTrue test env (eval test env)) (fun b s' => ifQ b (wpAny M A (eval body env) Q E s') (wpAny M A (eval orelse env) Q E s')) E s) : wpAny M A (eval (.IfExp test body orelse pos) env) Q E s :=
  wpAny_IfExp (wpAny_mono h (fun _ _ h' => ifQ_ite h') fun _ _ e => e)
theorem q_and {x : Expr} {rest : List Expr} {Q : Bool → Shared → Prop}
    (h : wpAny M A (isTrue x env (eval x env)) (fun b s₁ => ifQ b (wpAny M A (allTrue .And rest env) Q E s₁) (Q false s₁)) E s) : wpAny M A (allTrue .And (x :: rest) env) Q E s :=
  wpAny_allTrue_And_cons (wpAny_mono h (fun _ _ h' => ifQ_ite h') fun _ _ e => e)
theorem q_or {x : Expr} {rest : List Expr} {Q : Bool → Shared → Prop}
    (h : wpAny M A (isTrue x env (eval x env)) (fun b s₁ => ifQ b (Q true s₁) (wpAny M A (allTrue .Or rest env) Q E s₁)) E s) : wpAny M A (allTrue .Or (x :: rest) env) Q E s :=
  wpAny_allTrue_Or_cons (wpAny_mono h (fun _ _ h' => ifQ_ite h') fun _ _ e => e)
theorem q_and_nil {Q : Bool → Shared → Prop} (h : Q true s) : wpAny M A (allTrue .And [] env) Q E s := wpAny_pure h
theorem q_or_nil {Q : Bool → Shared → Prop} (h : Q false s) : wpAny M A (allTrue .Or [] env) Q E s := wpAny_pure h
end

/-! ints -/
section
variable {Q : Value → Shared → Prop} {a b : Int}
noncomputable abbrev Go (C : Cx) (B : Heap) (W : Addr → Prop) (env : Env) (F : List (Str × V)) (H : AH) (v : V) (Q : Value → Shared → Prop) : Prop := ∀ rv s', Sf C B W env F H s' → V.R v rv → Q rv s'
theorem b_add (S : Sf C B W env F H s) (h1 : V.R (.int a) r1) (h2 : V.R (.int b) r2) (k : Go C B W env F H (.int (a + b)) Q) : wpAny (model C.prog C.w) A (binaryOp .Add r1 r2) Q E s := by
  obtain ⟨t, rfl⟩ := h1; obtain ⟨u, rfl⟩ := h2
  exact PyProof.Rows.add_int (k _ _ (S.tok _) ⟨_, rfl⟩)
theorem b_sub (S : Sf C B W env F H s) (h1 : V.R (.int a) r1) (h2 : V.R (.int b) r2) (k : Go C B W env F H (.int (a - b)) Q) : wpAny (model C.prog C.w) A (binaryOp .Sub r1 r2) Q E s := by
  obtain ⟨t, rfl⟩ := h1; obtain ⟨u, rfl⟩ := h2
  exact PyProof.Rows.sub_int (k _ _ (S.tok _) ⟨_, rfl⟩)
theorem b_mul (S : Sf C B W env F H s) (h1 : V.R (.int a) r1) (h2 : V.R (.int b) r2) (k : Go C B W env F H (.int (a * b)) Q) (hm : IntMulOk a b) : wpAny (model C.prog C.w) A (binaryOp .Mult r1 r2) Q E s := by
  obtain ⟨t, rfl⟩ := h1; obtain ⟨u, rfl⟩ := h2
  exact PyProof.Rows.mul_int (k _ _ (S.tok _) ⟨_, rfl⟩) hm
theorem b_mod (S : Sf C B W env F H s) (h1 : V.R (.int a) r1) (h2 : V.R (.int b) r2) (hb : b ≠ 0) (k : Go C B W env F H (.int (a.fmod b)) Q) : wpAny (model C.prog C.w) A (binaryOp .Mod r1 r2) Q E s := by
  obtain ⟨t, rfl⟩ := h1; obtain ⟨u, rfl⟩ := h2
  exact PyProof.Rows.mod_int' hb (k _ _ (S.tok _) ⟨_, rfl⟩)
theorem b_fdiv (S : Sf C B W env F H s) (h1 : V.R (.int a) r1) (h2 : V.R (.int b) r2) (hb : b ≠ 0) (hs : b.natAbs < 1073741824) (k : Go C B W env F H (.int (a.fdiv b)) Q) : wpAny (model C.prog C.w) A (binaryOp .FloorDiv r1 r2) Q E s := by
  obtain ⟨t, rfl⟩ := h1; obtain ⟨u, rfl⟩ := h2
  exact PyProof.Rows.floordiv_int hb (k _ _ (S.tok _) ⟨_, rfl⟩) (.inl (PyProof.noPylong_small hs))
theorem b_ifdiv (S : Sf C B W env F H s) (h1 : V.R (.int a) r1) (h2 : V.R (.int b) r2) (hb : b ≠ 0) (hs : b.natAbs < 1073741824) (k : Go C B W env F H (.int (a.fdiv b)) Q) : wpAny (model C.prog C.w) A (inplaceOp .FloorDiv r1 r2) Q E s := by
  obtain ⟨t, rfl⟩ := h1; obtain ⟨u, rfl⟩ := h2
  exact PyProof.Rows.ifloordiv_int hb (k _ _ (S.tok _) ⟨_, rfl⟩) (.inl (PyProof.noPylong_small hs))
theorem b_iadd (S : Sf C B W env F H s) (h1 : V.R (.int a) r1) (h2 : V.R (.int b) r2) (k : Go C B W env F H (.int (a + b)) Q) : wpAny (model C.prog C.w) A (inplaceOp .Add r1 r2) Q E s := by
  obtain ⟨t, rfl⟩ := h1; obtain ⟨u, rfl⟩ := h2
  exact PyProof.Rows.iadd_int (k _ _ (S.tok _) ⟨_, rfl⟩)
theorem b_isub (S : Sf C B W env F H s) (h1 : V.R (.int a) r1) (h2 : V.R (.int b) r2) (k : Go C B W env F H (.int (a - b)) Q) : wpAny (model C.prog C.w) A (inplaceOp .Sub r1 r2) Q E s := by
  obtain ⟨t, rfl⟩ := h1; obtain ⟨u, rfl⟩ := h2
  exact PyProof.Rows.isub_int (k _ _ (S.tok _) ⟨_, rfl⟩)
theorem b_pow (S : Sf C B W env F H s) (h1 : V.R (.int a) r1) (h2 : V.R (.int b) r2) (h0 : 0 ≤ b) (hb : b ≤ 1000000) (ha : a.natAbs < 2 ^ 64) (k : Go C B W env F H (.int (a ^ b.toNat)) Q) : wpAny (model C.prog C.w) A (binaryOp .Pow r1 r2) Q E s := by
  obtain ⟨t, rfl⟩ := h1; obtain ⟨u, rfl⟩ := h2
  exact PyProof.Rows.pow_int_small h0 hb ha (k _ _ (S.tok _) ⟨_, rfl⟩)
theorem c_lt (h1 : V.R (.int a) r1) (h2 : V.R (.int b) r2) (k : Q (.bool (decide (a < b))) s) : wpAny (model C.prog C.w) A (compareOp .Lt r1 r2) Q E s := by
  obtain ⟨t, rfl⟩ := h1; obtain ⟨u, rfl⟩ := h2; exact PyProof.Rows.lt_int k
theorem c_gt (h1 : V.R (.int a) r1) (h2 : V.R (.int b) r2) (k : Q (.bool (decide (b < a))) s) : wpAny (model C.prog C.w) A (compareOp .Gt r1 r2) Q E s := by
  obtain ⟨t, rfl⟩ := h1; obtain ⟨u, rfl⟩ := h2; exact PyProof.Rows.gt_int k
theorem c_le (h1 : V.R (.int a) r1) (h2 : V.R (.int b) r2) (k : Q (.bool (decide (a ≤ b))) s) : wpAny (model C.prog C.w) A (compareOp .LtE r1 r2) Q E s := by
  obtain ⟨t, rfl⟩ := h1; obtain ⟨u, rfl⟩ := h2; exact PyProof.Rows.le_int k
theorem c_ge (h1 : V.R (.int a) r1) (h2 : V.R (.int b) r2) (k : Q (.bool (decide (b ≤ a))) s) : wpAny (model C.prog C.w) A (compareOp .GtE r1 r2) Q E s := by
  obtain ⟨t, rfl⟩ := h1; obtain ⟨u, rfl⟩ := h2; exact PyProof.Rows.ge_int k
theorem c_eq (h1 : V.R (.int a) r1) (h2 : V.R (.int b) r2) (k : Q (.bool (decide (a = b))) s) : wpAny (model C.prog C.w) A (compareOp .Eq r1 r2) Q E s := by
  obtain ⟨t, rfl⟩ := h1; obtain ⟨u, rfl⟩ := h2; exact PyProof.Rows.eq_int k
theorem c_ne (h1 : V.R (.int a) r1) (h2 : V.R (.int b) r2) (k : Q (.bool (!decide (a = b))) s) : wpAny (model C.prog C.w) A (compareOp .NotEq r1 r2) Q E s := by
  obtain ⟨t, rfl⟩ := h1; obtain ⟨u, rfl⟩ := h2; exact PyProof.Rows.ne_int k
theorem c_eqS {x y : Str} (h1 : V.R (.str x) r1) (h2 : V.R (.str y) r2) (k : Q (.bool (decide (x = y))) s) : wpAny (model C.prog C.w) A (compareOp .Eq r1 r2) Q E s := by
  obtain ⟨t, rfl⟩ := h1; obtain ⟨u, rfl⟩ := h2; exact PyProof.Rows.eq_str k
theorem c_neS {x y : Str} (h1 : V.R (.str x) r1) (h2 : V.R (.str y) r2) (k : Q (.bool (!decide (x = y))) s) : wpAny (model C.prog C.w) A (compareOp .NotEq r1 r2) Q E s := by
  obtain ⟨t, rfl⟩ := h1; obtain ⟨u, rfl⟩ := h2; exact PyProof.Rows.ne_str k
theorem c_neB {x y : Bool} (h1 : V.R (.bool x) r1) (h2 : V.R (.bool y) r2) (k : Q (.bool (x != y)) s) : wpAny (model C.prog C.w) A (compareOp .NotEq r1 r2) Q E s := by
  obtain rfl := h1; obtain rfl := h2; exact PyProof.Rows.ne_bool k
noncomputable def V.isNone : V → Bool
  | .none => true
  | _ => false
theorem c_isNone {v : V} (h1 : V.R v r1) (hg : ∀ g, v ≠ .glob g) (k : Q (.bool v.isNone) s) : wpAny (model C.prog C.w) A (compareOp .Is r1 .none) Q E s := by
  cases v with
  | none => obtain rfl := h1; exact wpAny_is_plain rfl k
  | bool b => obtain rfl := h1; exact wpAny_is_plain rfl k
  | int i => obtain ⟨t, rfl⟩ := h1; exact wpAny_is_plain rfl k
  | str i => obtain ⟨t, rfl⟩ := h1; exact wpAny_is_plain rfl k
  | bytes i => obtain ⟨t, rfl⟩ := h1; exact wpAny_is_plain rfl k
  | ref a => obtain rfl := h1; exact wpAny_is_plain rfl k
  | glob g => exact absurd rfl (hg g)
theorem c_isNotNone {v : V} (h1 : V.R v r1) (hg : ∀ g, v ≠ .glob g) (k : Q (.bool (!v.isNone)) s) : wpAny (model C.prog C.w) A (compareOp .IsNot r1 .none) Q E s := by
  cases v with
  | none => obtain rfl := h1; exact wpAny_isNot_plain rfl k
  | bool b => obtain rfl := h1; exact wpAny_isNot_plain rfl k
  | int i => obtain ⟨t, rfl⟩ := h1; exact wpAny_isNot_plain rfl k
  | str i => obtain ⟨t, rfl⟩ := h1; exact wpAny_isNot_plain rfl k
  | bytes i => obtain ⟨t, rfl⟩ := h1; exact wpAny_isNot_plain rfl k
  | ref a => obtain rfl := h1; exact wpAny_isNot_plain rfl k
  | glob g => exact absurd rfl (hg g)
end
theorem t_bool {Q : Bool → Shared → Prop} {b : Bool} (h1 : V.R (.bool b) r1) (k : Q b s) : wpAny (model C.prog C.w) A (truthy r1) Q E s := by
  obtain rfl := h1; exact wpAny_truthy_bool k
theorem t_none {Q : Bool → Shared → Prop} (h1 : V.R .none r1) (k : Q false s) : wpAny (model C.prog C.w) A (truthy r1) Q E s := by
  obtain rfl := h1; exact fun _ _ _ => k
theorem u_neg (S : Sf C B W env F H s) {a : Int} {Q : Value → Shared → Prop} (h1 : V.R (.int a) r1) (k : Go C B W env F H (.int (-a)) Q) : wpAny (model C.prog C.w) A (unaryOp .USub r1) Q E s := by
  obtain ⟨t, rfl⟩ := h1
  exact PyProof.Rows.neg_int (k _ _ (S.tok _) ⟨_, rfl⟩)
section
variable {α : Type} {M : Model} {A : Around} {T : Sem α} {E : Value → Shared → Prop} {s : Shared} {Q : α → Shared → Prop}
theorem gq (h : ∀ QQ : α → Shared → Prop, (∀ v s', Q v s' → QQ v s') → wpAny M A T QQ E s) : wpAny M A T Q E s := h Q fun _ _ k => k
theorem gE (h : ∀ EE : Value → Shared → Prop, (∀ v s', E v s' → EE v s') → wpAny M A T Q EE s) : wpAny M A T Q E s := h E fun _ _ k => k
theorem lf {Q QQ : α → Shared → Prop} (h : ∀ v s', Q v s' → QQ v s') {v : α} {s' : Shared} (k : Q v s') : QQ v s' := h _ _ k
end
theorem letS {C : Cx} {B : Heap} {W : Addr → Prop} {env : Env} {F : List (Str × V)} {H : AH} {s : Shared} {G : Prop} (S : Sf C B W env F H s) (k : let FF := F; Sf C B W env FF H s → G) : G := k S
theorem joinV {C : Cx} {B : Heap} {W : Addr → Prop} {env : Env} {F : List (Str × V)} {H : AH} {s : Shared} {G : Prop} (S : Sf C B W env F H s) (v : V) {Q : Value → Shared → Prop} (h : ∀ rv s', V.R v rv → Sf C B W env F H s' → Q rv s') (k : (∀ rv s', V.R v rv → Sf C B W env F H s' → Q rv s') → G) : G := k h
theorem hide {G : Prop} (h : ∀ G' : Prop, (G → G') → G') : G := h G id
end
section -- R6
variable {C : Cx} {B : Heap} {W : Addr → Prop} {env : Env} {F : List (Str × V)} {H : AH} {s : Shared} {A : Around} {E : Value → Shared → Prop} {r1 r2 : Value}
noncomputable abbrev iL (l : List Int) : List V := l.map V.int
theorem iL_app (l l' : List Int) : iL l ++ iL l' = iL (l ++ l') := List.map_append.symm
theorem iL_snoc (l : List Int) (p : Int) : iL l ++ [V.int p] = iL (l ++ [p]) := iL_app l [p]
theorem iL_are : ∀ {l : List Int} {vs : List Value}, A2 V.R (iL l) vs → IntsAre vs l
  | [], _, h => by cases h; exact .nil
  | a :: l, _, h => by
    cases h with
    | cons h1 h2 => obtain ⟨t, rfl⟩ := h1; exact .cons a t (iL_are h2)
theorem are_iL : ∀ {l : List Int} {vs : List Value}, IntsAre vs l → A2 V.R (iL l) vs
  | _, _, .nil => .nil
  | _, _, .cons n t h => .cons ⟨t, rfl⟩ (are_iL h)

theorem Sf.isL (S : Sf C B W env F H s) {a : Addr} {l : List V} (h : H a = some (.list l)) : ∃ vs n, IsL s.heap a vs n ∧ A2 V.R l vs.toList := by
  obtain ⟨ob, h1, vs, n, rfl, h2⟩ := S.rel a _ h
  exact ⟨vs, n, h1, h2⟩
theorem A2.size {l : List V} {vs : Array Value} (h : A2 V.R l vs.toList) : vs.size = l.length := by rw [h.length]; simp
theorem A2.arr {l : List V} {vs : Array Value} (h : A2 V.R l vs.toList) : vs = vs.toList.toArray := by simp

theorem Sf.newList (S : Sf C B W env F H s) {l : List V} {vs : Array Value} (h : A2 V.R l vs.toList) (t : Nat) :
    H s.heap.objs.size = none ∧ Sf C B W env F (H.set s.heap.objs.size (.list l)) { s with heap := s.heap.push { cls := .type "list", data := .seq vs }, toks := t } :=
  S.new (fun b o e => Heap.get?_push_of_some _ e) (Nat.le_refl _) (Heap.get?_push_size _ rfl) ⟨vs, 0, rfl, h⟩ rfl rfl
theorem Sf.newTup (S : Sf C B W env F H s) {l : List V} {vs : Array Value} (h : A2 V.R l vs.toList) (t : Nat) :
    H s.heap.objs.size = none ∧ Sf C B W env F (H.set s.heap.objs.size (.tup l)) { s with heap := s.heap.push { cls := .type "tuple", data := .seq vs }, toks := t } :=
  S.new (fun b o e => Heap.get?_push_of_some _ e) (Nat.le_refl _) (Heap.get?_push_size _ rfl) ⟨vs, 0, rfl, h⟩ rfl rfl
theorem Sf.mapList (S : Sf C B W env F H s) {a : Addr} {l l' : List V} {vs : Array Value} {n : Nat} {f : Array Value → Array Value} (h : H a = some (.list l)) (hl : IsL s.heap a vs n) (h' : A2 V.R l' (f vs).toList) (t : Nat) :
    Sf C B W env F (H.set a (.list l')) { s with heap := s.heap.update a (Obj.mapSeq f), toks := t } :=
  S.put (by rw [h]; simp) (fun b x q e => by rw [← e]; exact Heap.get?_update_other _ _ (Ne.symm q)) (hl.update f) ⟨_, _, rfl, h'⟩ rfl rfl

theorem noFill_list_iadd : fillsInplaceSlot (.type "list") "add" (Operator.Add == .Add) = pure false := by
  unfold fillsInplaceSlot
  show (typeLookup (.type "list") (dunderI "add") >>= fun fi => pure (fi.isSome && !isSeqSlot fi)) = pure false
  rw [PySem.F.slot_list_iadd.lookup]; rfl
theorem seq_list_iadd : seqSlot? (.type "list") (dunderI "add") = pure (some (.builtin "list.__iadd__")) := PySem.seqSlot_of PySem.F.slot_list_iadd.lookup (by decide +kernel)

section
variable {Q : Value → Shared → Prop}
noncomputable abbrev GoN (C : Cx) (B : Heap) (W : Addr → Prop) (env : Env) (F : List (Str × V)) (H : AH) (o : O) (Q : Value → Shared → Prop) : Prop := ∀ a s', H a = none → Sf C B W env F (H.set a o) s' → Q (.ref a) s'

theorem b_addL (S : Sf C B W env F H s) {a b : Addr} {l1 l2 : List V} (h1 : V.R (.ref a) r1) (h2 : V.R (.ref b) r2) (ha : H a = some (.list l1)) (hb : H b = some (.list l2)) (hz : l1.length + l2.length ≤ 1000)
    (k : GoN C B W env F H (.list (l1 ++ l2)) Q) : wpAny (model C.prog C.w) A (binaryOp .Add r1 r2) Q E s := by
  obtain rfl := h1; obtain rfl := h2
  obtain ⟨vs, n, x1, y1⟩ := S.isL ha
  obtain ⟨us, m, x2, y2⟩ := S.isL hb
  have z := S.newList (l := l1 ++ l2) (vs := vs ++ us) (by simpa using y1.append y2) s.toks
  exact PySem.P.add_list x1 x2 (k _ _ z.1 z.2) (by rw [y1.size, y2.size, sizeLine_eq]; omega)
theorem b_iaddL (S : Sf C B W env F H s) {a b : Addr} {l1 l2 : List V} (h1 : V.R (.ref a) r1) (h2 : V.R (.ref b) r2) (ha : H a = some (.list l1)) (hb : H b = some (.list l2)) (hz : l1.length + l2.length ≤ 1000)
    (k : ∀ s', Sf C B W env F (H.set a (.list (l1 ++ l2))) s' → Q (.ref a) s') : wpAny (model C.prog C.w) A (inplaceOp .Add r1 r2) Q E s := by
  obtain rfl := h1; obtain rfl := h2
  obtain ⟨vs, n, x1, y1⟩ := S.isL ha
  obtain ⟨us, m, x2, y2⟩ := S.isL hb
  have T1 : s.TypeIs (.ref a) "list" := ⟨_, x1, rfl⟩
  have T2 : s.TypeIs (.ref b) "list" := ⟨_, x2, rfl⟩
  unfold inplaceOp
  refine wpAny_holding (wpAny_bind (wpAny_typeOf T1 (wpAny_bind (wpAny_of_eq noFill_list_iadd ?_))))
  refine wpAny_bind (wpAny_binaryOp1_none (nm := "add") T1 T2 noFill_list_add ?_)
  refine wpAny_bind (wpAny_of_eq seq_list_iadd ?_)
  refine wpAny_bind (wpAny_rule ?_)
  refine call_meets PySem.F.slot_list_iadd T1 PySem.F.entry_list_iadd (PySem.F.args_list_iadd_2 _ _) (AutoSeq1.list___iadd___list_list_0 a vs n b us m ?_ ?_ ?_) ⟨x1, x2, ?_⟩
  · rw [y1.size, y2.size]; unfold Builtin.List.listTooLong; simp only [Bool.and_eq_true, not_and]; intro _; simp only [decide_eq_true_eq, sizeLine_eq]; omega
  · rw [y1.size, sizeLine_eq]; omega
  · rw [y1.size, y2.size, sizeLine_eq]; omega
  · exact k _ (S.mapList ha x1 (by simpa using y1.append y2) _)
inductive ItN (C : Cx) (B : Heap) (W : Addr → Prop) (env : Env) (f : List V → O) (Q : Value → Shared → Prop) (vs : List Value) (s : Shared) : Prop
  | mk (F : List (Str × V)) (H : AH) (l : List V) (S : Sf C B W env F H s) (h1 : A2 V.R l vs) (h2 : l.length ≤ 1000) (k : GoN C B W env F H (f l) Q)
theorem q_list {elts : List Expr} {pos : Pos} (h : wpAny (model C.prog C.w) A (spliced (backTo pos (starEach elts env)))
      (fun vs s₁ => ItN C B W env O.list Q vs s₁) E s) : wpAny (model C.prog C.w) A (eval (.List elts pos) env) Q E s := by
  refine wpAny_List (wpAny_mono h (fun vs s₁ h' => ?_) fun _ _ e => e)
  obtain ⟨F₁, H₁, l, S, h1, h2, k⟩ := h'
  have z := S.newList (l := l) (vs := vs.toArray) (by simpa using h1) s₁.toks
  exact ⟨by rw [← h1.length, sizeLine_eq]; omega, k _ _ z.1 z.2⟩
theorem q_tuple {elts : List Expr} {kd : Nat} {pos : Pos} (h : wpAny (model C.prog C.w) A (spliced (backTo pos (starEach elts env)))
      (fun vs s₁ => ItN C B W env O.tup Q vs s₁) E s) : wpAny (model C.prog C.w) A (eval (.Tuple elts kd pos) env) Q E s := by
  refine wpAny_Tuple (wpAny_mono h (fun vs s₁ h' => ?_) fun _ _ e => e)
  obtain ⟨F₁, H₁, l, S, h1, h2, k⟩ := h'
  have z := S.newTup (l := l) (vs := vs.toArray) (by simpa using h1) s₁.toks
  exact ⟨by rw [← h1.length, sizeLine_eq]; omega, k _ _ z.1 z.2⟩
theorem q_sp {M : Model} {pos : Pos} {e : Expr} {rest : List Expr} {Q : List Value → Shared → Prop}
    (h : wpAny M A (eval e env) (fun v s₁ => wpAny M A (spliced (backTo pos (starEach rest env))) (fun vs s₂ => Q (v :: vs) s₂) E s₁) E s)
    (he : autoParam (starEach (e :: rest) env = (false, eval e env) :: starEach rest env) au1._auto_1) : wpAny M A (spliced (backTo pos (starEach (e :: rest) env))) Q E s := wpAny_items_cons h he
theorem q_sp0 {M : Model} {pos : Pos} {Q : List Value → Shared → Prop} (h : Q [] s) : wpAny M A (spliced (backTo pos (starEach [] env))) Q E s := wpAny_pure h

theorem g_item (S : Sf C B W env F H s) {a : Addr} {l : List V} {i : Int} {v : V} (h1 : V.R (.ref a) r1) (h2 : V.R (.int i) r2) (ha : H a = some (.list l)) (h0 : 0 ≤ i) (hi : l[i.toNat]? = some v) (hf : i < 1000)
    (k : ∀ rv, V.R v rv → Q rv s) : wpAny (model C.prog C.w) A (getItem r1 r2) Q E s := by
  obtain rfl := h1; obtain ⟨t, rfl⟩ := h2
  obtain ⟨vs, n, x1, y1⟩ := S.isL ha
  obtain ⟨rv, e, hr⟩ := y1.get hi
  exact wpAny_getItem_list x1.isList h0 (by omega) (by simpa using e) (k rv hr)
theorem g_itemNeg (S : Sf C B W env F H s) {a : Addr} {l : List V} {i : Int} {v : V} (h1 : V.R (.ref a) r1) (h2 : V.R (.int i) r2) (ha : H a = some (.list l)) (h0 : i < 0) (hl : 0 ≤ i + l.length) (hi : l[(i + l.length).toNat]? = some v) (hf : -1000 < i)
    (k : ∀ rv, V.R v rv → Q rv s) : wpAny (model C.prog C.w) A (getItem r1 r2) Q E s := by
  obtain rfl := h1; obtain ⟨t, rfl⟩ := h2
  obtain ⟨vs, n, x1, y1⟩ := S.isL ha
  obtain ⟨rv, e, hr⟩ := y1.get hi
  refine wpAny_getItem_list_neg x1.isList h0 ?_ ?_ ?_ (k rv hr)
  all_goals (first | (rw [y1.size]; omega) | omega | (rw [y1.size]; simpa using e))
theorem s_item (S : Sf C B W env F H s) {a : Addr} {l : List V} {i : Int} {v : V} {rv : Value} {Q : Unit → Shared → Prop} (h1 : V.R (.ref a) r1) (h2 : V.R (.int i) r2) (ha : H a = some (.list l)) (h0 : 0 ≤ i) (hi : i < l.length) (hf : i < 1000) (hv : V.R v rv)
    (k : ∀ s', Sf C B W env F (H.set a (.list (l.set i.toNat v))) s' → Q () s') : wpAny (model C.prog C.w) A (setItem r1 r2 rv) Q E s := by
  obtain rfl := h1; obtain ⟨t, rfl⟩ := h2
  obtain ⟨vs, n, x1, y1⟩ := S.isL ha
  refine ki_setAt (n := n) x1 h0 (by omega) (by rw [y1.size]; exact hi) (k _ (S.mapList ha x1 ?_ _))
  simpa using y1.set hv i.toNat
theorem gm_list (S : Sf C B W env F H s) {a : Addr} {l : List V} {name : Str} {id : String} {pl : Sem Bool} {Q : Value × List Value → Shared → Prop} (h1 : V.R (.ref a) r1) (ha : H a = some (.list l))
    (slot : Slot "list" name id) (hty : typeOf (.builtin id) = pure (.type "method_descriptor")) (k : Q (.builtin id, [.ref a]) s) : wpAny (model C.prog C.w) A (getMethod r1 name pl) Q E s := by
  obtain rfl := h1
  obtain ⟨vs, n, x1, y1⟩ := S.isL ha
  exact getMethod_builtin ⟨_, x1, rfl⟩ PySem.F.plainAttrs_list slot hty (fun b e => by cases e; exact ⟨_, x1, rfl⟩) k
theorem m_append (S : Sf C B W env F H s) {a : Addr} {l : List V} {v : V} {rv : Value} (ha : H a = some (.list l)) (hz : l.length ≤ 1000) (hv : V.R v rv)
    (k : ∀ s', Sf C B W env F (H.set a (.list (l ++ [v]))) s' → Q .none s') : wpAny (model C.prog C.w) A (call (.builtin "list.append") [.ref a, rv]) Q E s := by
  obtain ⟨vs, n, x1, y1⟩ := S.isL ha
  refine call_meets PySem.F.slot_list_append ⟨_, x1, rfl⟩ PySem.F.entry_list_append (PySem.F.args_list_append_2 _ _) (list_append a vs n rv (by rw [y1.size, sizeLine_eq]; omega)) ⟨x1, ?_⟩
  exact k _ (S.mapList ha x1 (by simpa using y1.append (.one hv)) _)
theorem m_clear (S : Sf C B W env F H s) {a : Addr} {l : List V} (ha : H a = some (.list l)) (hz : l.length ≤ 1000)
    (k : ∀ s', Sf C B W env F (H.set a (.list [])) s' → Q .none s') : wpAny (model C.prog C.w) A (call (.builtin "list.clear") [.ref a]) Q E s := by
  obtain ⟨vs, n, x1, y1⟩ := S.isL ha
  refine call_meets PySem.F.slot_list_clear ⟨_, x1, rfl⟩ PySem.F.entry_list_clear (PySem.F.args_list_clear_1 _) (AutoSeq1.list_clear_list_0 a vs n (by rw [y1.size, sizeLine_eq]; omega)) ⟨x1, ?_⟩
  exact k _ (S.mapList ha x1 .nil _)
theorem m_pop (S : Sf C B W env F H s) {a : Addr} {l : List V} {v : V} (ha : H a = some (.list (l ++ [v]))) (hz : l.length ≤ 1000)
    (k : ∀ rv s', Sf C B W env F (H.set a (.list l)) s' → V.R v rv → Q rv s') : wpAny (model C.prog C.w) A (call (.builtin "list.pop") [.ref a]) Q E s := by
  obtain ⟨vs, n, x1, y1⟩ := S.isL ha
  have hs : vs.size = l.length + 1 := by rw [y1.size]; simp
  obtain ⟨rv, e, hr⟩ := y1.get (i := l.length) (a := v) (by simp)
  refine call_meets PySem.F.slot_list_pop ⟨_, x1, rfl⟩ PySem.F.entry_list_pop (PySem.F.args_list_pop_1 _) (PySem.MeetsSeq.list_pop_last a vs n rv (by rw [hs]; simpa using e) (by rw [hs, sizeLine_eq]; omega)) ⟨x1, ?_⟩
  refine k _ _ (S.mapList ha x1 ?_ _) hr
  have z := y1.eraseIdx (vs.size - 1)
  rw [hs, Nat.add_sub_cancel] at z ⊢
  rw [List.eraseIdx_append_of_length_le (by simp)] at z
  simp only [Nat.sub_self, List.eraseIdx_cons_zero, List.append_nil] at z
  unfold Array.eraseIdxIfInBounds
  rw [dif_pos (by omega)]
  simpa using z
theorem m_popAt (S : Sf C B W env F H s) {a : Addr} {l : List V} {i : Int} {v : V} (ha : H a = some (.list l)) (hz : l.length ≤ 1000) (h2 : V.R (.int i) r2) (h0 : 0 ≤ i) (hi : l[i.toNat]? = some v)
    (k : ∀ rv s', Sf C B W env F (H.set a (.list (l.eraseIdx i.toNat))) s' → V.R v rv → Q rv s') : wpAny (model C.prog C.w) A (call (.builtin "list.pop") [.ref a, r2]) Q E s := by
  obtain ⟨t, rfl⟩ := h2
  obtain ⟨vs, n, x1, y1⟩ := S.isL ha
  obtain ⟨rv, e, hr⟩ := y1.get hi
  have hlt : i.toNat < l.length := by
    rw [List.getElem?_eq_some_iff] at hi; exact hi.1
  have hs := y1.size
  refine call_meets PySem.F.slot_list_pop ⟨_, x1, rfl⟩ PySem.F.entry_list_pop (PySem.F.args_list_pop_2 _ _) (PySem.MeetsSeq.list_pop_at a vs n i t i.toNat rv (fitsIndex_of h0 (by omega)) (seqIndex_of h0 (by omega)) (by simpa using e) (by rw [hs, sizeLine_eq]; omega)) ⟨x1, ?_⟩
  refine k _ _ (S.mapList ha x1 ?_ _) hr
  have z := y1.eraseIdx i.toNat
  unfold Array.eraseIdxIfInBounds
  rw [dif_pos (by omega)]
  simpa using z
theorem m_len (S : Sf C B W env F H s) {a : Addr} {l : List V} (ha : H a = some (.list l)) (hz : l.length ≤ 1000) (k : Go C B W env F H (.int l.length) Q) : wpAny (model C.prog C.w) A (call (.builtin "len") [.ref a]) Q E s := by
  obtain ⟨vs, n, x1, y1⟩ := S.isL ha
  refine call_len_list x1.isList (by rw [y1.size]; omega) (k _ _ (S.tok _) ⟨s.toks + 1, ?_⟩)
  rw [y1.size]
theorem t_list {Q : Bool → Shared → Prop} (S : Sf C B W env F H s) {a : Addr} {l : List V} (h1 : V.R (.ref a) r1) (ha : H a = some (.list l)) (hz : l.length ≤ 1000) (k : ∀ s', Sf C B W env F H s' → Q (!l.isEmpty) s') : wpAny (model C.prog C.w) A (truthy r1) Q E s := by
  obtain rfl := h1
  obtain ⟨vs, n, x1, y1⟩ := S.isL ha
  refine wpAny_truthy_list x1.isList (by rw [y1.size]; omega) ?_
  have e : vs.isEmpty = l.isEmpty := by
    have := y1.size
    cases l <;> simp_all [Array.isEmpty]
  rw [e]
  exact k _ (S.tok _)
theorem c_in (S : Sf C B W env F H s) {a : Addr} {l : List Int} {i : Int} (h1 : V.R (.int i) r1) (h2 : V.R (.ref a) r2) (ha : H a = some (.list (iL l))) (k : Q (.bool (decide (i ∈ l))) s) : wpAny (model C.prog C.w) A (compareOp .In r1 r2) Q E s := by
  obtain ⟨t, rfl⟩ := h1; obtain rfl := h2
  obtain ⟨vs, n, x1, y1⟩ := S.isL ha
  refine in_list_ints (vs := vs.toList) (by simpa using x1.isList) (iL_are y1) ?_
  have e : l.any (· == i) = decide (i ∈ l) := by
    rw [Bool.eq_iff_iff]; simp
  rw [e]; exact k
theorem c_notin (S : Sf C B W env F H s) {a : Addr} {l : List Int} {i : Int} (h1 : V.R (.int i) r1) (h2 : V.R (.ref a) r2) (ha : H a = some (.list (iL l))) (k : Q (.bool (!decide (i ∈ l))) s) : wpAny (model C.prog C.w) A (compareOp .NotIn r1 r2) Q E s := by
  obtain ⟨t, rfl⟩ := h1; obtain rfl := h2
  obtain ⟨vs, n, x1, y1⟩ := S.isL ha
  refine notin_list_ints (vs := vs.toList) (by simpa using x1.isList) (iL_are y1) ?_
  have e : l.any (· == i) = decide (i ∈ l) := by
    rw [Bool.eq_iff_iff]; simp
  rw [e]; exact k
theorem c_neL {n : Nat} (R : Rm n A) (S : Sf C B W env F H s) {a b : Addr} {l1 l2 : List Int} (h1 : V.R (.ref a) r1) (h2 : V.R (.ref b) r2) (ha : H a = some (.list (iL l1))) (hb : H b = some (.list (iL l2)))
    (k : Q (.bool (!decide (l1 = l2))) s) : wpAny (model C.prog C.w) A (compareOp .NotEq r1 r2) Q E s := by
  obtain rfl := h1; obtain rfl := h2
  obtain ⟨vs, n1, x1, y1⟩ := S.isL ha
  obtain ⟨us, n2, x2, y2⟩ := S.isL hb
  exact ke_ne_ints (xs := vs.toList) (ys := us.toList) (by simpa using x1.isList) (by simpa using x2.isList) (iL_are y1) (iL_are y2) (by have := R.3; show A.units + 64 < 9900; omega) k
theorem m_listOf (S : Sf C B W env F H s) {a : Addr} {l : List V} (ha : H a = some (.list l) ∨ H a = some (.tup l)) (hz : l.length ≤ 1000) (k : GoN C B W env F H (.list l) Q) : wpAny (model C.prog C.w) A (call (.type "list") [.ref a]) Q E s := by
  have key : ∃ T vs n, (T = "list" ∨ T = "tuple") ∧ s.heap.get? a = some { cls := .type T, data := .seq vs n } ∧ A2 V.R l vs.toList := by
    rcases ha with ha | ha
    · obtain ⟨ob, h1, vs, n, rfl, h2⟩ := S.rel a _ ha; exact ⟨_, vs, n, .inl rfl, h1, h2⟩
    · obtain ⟨ob, h1, vs, n, rfl, h2⟩ := S.rel a _ ha; exact ⟨_, vs, n, .inr rfl, h1, h2⟩
  obtain ⟨T, vs, n, hT, h1, h2⟩ := key
  refine call_list_seq a hT h1 rfl rfl (fun h' c' hk hn => ?_) (by rw [h2.size, sizeLine_eq]; omega)
  have z := S.new (s' := { s with heap := h' }) hk (Nat.le_refl _) hn (o := .list l) ⟨vs, c', rfl, h2⟩ rfl rfl
  exact k _ _ z.1 z.2
theorem m_tupleOf (S : Sf C B W env F H s) {a : Addr} {l : List V} (ha : H a = some (.list l)) (hz : l.length ≤ 1000) (k : GoN C B W env F H (.tup l) Q) : wpAny (model C.prog C.w) A (call (.type "tuple") [.ref a]) Q E s := by
  obtain ⟨vs, n, x1, y1⟩ := S.isL ha
  refine call_tuple_list x1.isList (fun h' hk => ?_) (by rw [y1.size, sizeLine_eq]; omega)
  have S' : Sf C B W env F H { s with heap := h' } := S.keep hk rfl rfl
  have z := S'.newTup y1 s.toks
  exact k _ _ z.1 z.2
end
end
section -- R7
variable {C : Cx} {B : Heap} {W : Addr → Prop} {env : Env} {F : List (Str × V)} {H : AH} {s : Shared} {A : Around} {E : Value → Shared → Prop} {r1 r2 : Value}
noncomputable def dget (l : List (Int × V)) (k : Int) : Option V := (l.find? fun p => p.1 = k).map (·.2)
noncomputable def dput (l : List (Int × V)) (k : Int) (v : V) : List (Int × V) := if l.any (fun p => p.1 = k) then l.map (fun p => if p.1 = k then (p.1, v) else p) else l ++ [(k, v)]
noncomputable def ddel (l : List (Int × V)) (k : Int) : List (Int × V) := l.filter fun p => decide (p.1 ≠ k)

theorem dr_get {l : List (Int × V)} {kvs : List (Int × Value)} (h : A2 DR l kvs) (k : Int) : (dget l k = none ∧ valueAt kvs k = none) ∨ ∃ v rv, dget l k = some v ∧ valueAt kvs k = some rv ∧ V.R v rv := by
  induction h with
  | nil => exact .inl ⟨rfl, rfl⟩
  | @cons a b l l' x _ ih =>
    unfold dget valueAt at ih ⊢
    obtain ⟨x1, x2⟩ := x
    by_cases e : a.1 = k
    · right
      have e' : b.1 = k := x1 ▸ e
      exact ⟨a.2, b.2, by simp [e], by simp [e'], x2⟩
    · have e' : b.1 ≠ k := x1 ▸ e
      simpa [List.find?_cons, e, e'] using ih
theorem dr_any {l : List (Int × V)} {kvs : List (Int × Value)} (h : A2 DR l kvs) (k : Int) : l.any (fun p => p.1 = k) = kvs.any (fun p => p.1 = k) := by
  induction h with
  | nil => rfl
  | @cons a b l l' x _ ih => rw [List.any_cons, List.any_cons, ih, x.1]
theorem dr_map {l : List (Int × V)} {kvs : List (Int × Value)} (h : A2 DR l kvs) (k : Int) {v : V} {rv : Value} (hv : V.R v rv) : A2 DR (l.map (fun p => if p.1 = k then (p.1, v) else p)) (kvs.map (fun p => if p.1 = k then (p.1, rv) else p)) := by
  induction h with
  | nil => exact .nil
  | @cons a b l l' x _ ih =>
    rw [List.map_cons, List.map_cons]
    refine .cons ?_ ih
    rw [x.1]
    by_cases e : b.1 = k
    · rw [if_pos e, if_pos e]; exact ⟨rfl, hv⟩
    · rw [if_neg e, if_neg e]; exact x
theorem dr_put {l : List (Int × V)} {kvs : List (Int × Value)} (h : A2 DR l kvs) (k : Int) {v : V} {rv : Value} (hv : V.R v rv) : A2 DR (dput l k v) (stored kvs k rv) := by
  unfold dput stored
  rw [dr_any h k]
  split
  · exact dr_map h k hv
  · exact h.append (.one ⟨rfl, hv⟩)
theorem dr_del {l : List (Int × V)} {kvs : List (Int × Value)} (h : A2 DR l kvs) (k : Int) : A2 DR (ddel l k) (without kvs k) := by
  unfold ddel without
  induction h with
  | nil => exact .nil
  | @cons a b l l' x _ ih =>
    rw [List.filter_cons, List.filter_cons, x.1]
    split
    · exact .cons x ih
    · exact ih
theorem Sf.isD (S : Sf C B W env F H s) {a : Addr} {l : List (Int × V)} {ep : Nat} (h : H a = some (.dict l ep)) : ∃ kvs, A2 DR l kvs ∧ s.heap.DictOf (intKind C.prog C.w) a kvs ∧ s.heap.DictAt (intKind C.prog C.w) a kvs ep := by
  obtain ⟨ob, h1, kvs, es, h2, h3, h4, h5⟩ := S.rel a _ h
  exact ⟨kvs, h2, ⟨ob, es, ep, h1, h3, h4, h5⟩, ⟨ob, es, h1, h3, h4, h5⟩⟩
theorem Sf.putD (S : Sf C B W env F H s) {a : Addr} {l l' : List (Int × V)} {ep : Nat} (h : H a = some (.dict l ep)) {kvs : List (Int × Value)} {h' : Heap} (h2 : A2 DR l' kvs) (hd : h'.DictOf (intKind C.prog C.w) a kvs) (hs : Heap.SameBut a s.heap h') (t : Nat) :
    ∃ ep', Sf C B W env F (H.set a (.dict l' ep')) { s with heap := h', toks := t } := by
  obtain ⟨o, es, ep', ho, h3, h4, h5⟩ := hd
  exact ⟨ep', S.put (by rw [h]; simp) hs.extBut ho ⟨kvs, es, h2, h3, h4, h5⟩ rfl rfl⟩
theorem Sf.isSet (S : Sf C B W env F H s) {a : Addr} {f : Int → Bool} {n : Nat} (h : H a = some (.set f n)) (hn : n < scanBound) : s.heap.SetOf (intKind C.prog C.w) a f n := by
  obtain ⟨ob, h1, h2⟩ := S.rel a _ h
  exact h2.setOf h1 hn
theorem Sf.noSys (S : Sf C B W env F H s) {a : Addr} (h : H a ≠ none) : (a == sysModules) = false := S.sysm a h

section
variable {Q : Value → Shared → Prop} {a : Addr} {l : List (Int × V)} {ep : Nat} {i : Int} {v : V}
theorem d_new {kd : Nat} {pos : Pos} (S : Sf C B W env F H s) (k : ∀ ep, GoN C B W env F H (.dict [] ep) Q) : wpAny (model C.prog C.w) A (eval (.Dict [] [] pos) env) Q E s := by
  refine wpAny_Dict_empty ?_
  obtain ⟨o, es, ep, ho, h3, h4, h5⟩ := Heap.DictOf.new (knd := intKind C.prog C.w) s.heap
  have z := S.new (s' := { s with heap := s.heap.push { cls := .type "dict", data := .dict #[] } }) (fun b o e => Heap.get?_push_of_some _ e) (Nat.le_refl _) ho (o := .dict [] ep) ⟨[], es, .nil, h3, h4, h5⟩ rfl rfl
  exact k _ _ _ z.1 z.2
theorem d_get (S : Sf C B W env F H s) (h1 : V.R (.ref a) r1) (h2 : V.R (.int i) r2) (ha : H a = some (.dict l ep)) (hv : dget l i = some v) (k : Go C B W env F H v Q) : wpAny (model C.prog C.w) A (getItem r1 r2) Q E s := by
  obtain rfl := h1; obtain ⟨t, rfl⟩ := h2
  obtain ⟨kvs, x, y, _⟩ := S.isD ha
  rcases dr_get x i with ⟨e, _⟩ | ⟨v', rv, e1, e2, e3⟩
  · rw [hv] at e; cases e
  · rw [hv] at e1; cases e1
    exact wpAny_getItem_of (intKind_is _ _ _ _) y.mapOf e2 (k _ _ (S.tok _) e3)
theorem d_put {Q : Unit → Shared → Prop} {rv : Value} (S : Sf C B W env F H s) (h1 : V.R (.ref a) r1) (h2 : V.R (.int i) r2) (ha : H a = some (.dict l ep)) (hz : l.length ≤ 1000) (hv : V.R v rv) (k : ∀ ep' s', Sf C B W env F (H.set a (.dict (dput l i v) ep')) s' → Q () s') :
    wpAny (model C.prog C.w) A (setItem r1 r2 rv) Q E s := by
  obtain rfl := h1; obtain ⟨t, rfl⟩ := h2
  obtain ⟨kvs, x, y, _⟩ := S.isD ha
  exact wpAny_setItem_pairs (intKind_is _ _ _ _) y (fun h' hd hs => let ⟨_, z⟩ := S.putD ha (dr_put x i hv) hd hs _; k _ _ z) (by rw [← x.length, sizeLine_eq]; omega)
theorem d_del {Q : Unit → Shared → Prop} (S : Sf C B W env F H s) (h1 : V.R (.ref a) r1) (h2 : V.R (.int i) r2) (ha : H a = some (.dict l ep)) (hz : l.length ≤ 1000) (hv : (dget l i).isSome = true) (k : ∀ ep' s', Sf C B W env F (H.set a (.dict (ddel l i) ep')) s' → Q () s') :
    wpAny (model C.prog C.w) A (delItem r1 r2) Q E s := by
  obtain rfl := h1; obtain ⟨t, rfl⟩ := h2
  obtain ⟨kvs, x, y, _⟩ := S.isD ha
  refine wpAny_delItem_slot y.mapOf.typeIs (by decide) PySem.F.slot_dict_delitem (call_meetsIn PySem.F.slot_dict_delitem y.mapOf.typeIs PySem.F.entry_dict_delitem (PySem.F.args_dict_delitem_2 _ _) (meets_dict_delitem_pairs (intKind C.prog C.w) a (k := i) (intKind_is _ _ _ _)) ⟨kvs, y, ?_, ?_, fun h' hd hs => ?_⟩)
  · rw [← x.length, sizeLine_eq]; omega
  · rcases dr_get x i with ⟨e, _⟩ | ⟨v', rv, e1, e2, e3⟩
    · rw [e] at hv; cases hv
    · rw [e2]; rfl
  · obtain ⟨_, z⟩ := S.putD ha (dr_del x i) hd hs (s.toks + 1)
    exact k _ _ z
theorem d_in (S : Sf C B W env F H s) (h1 : V.R (.int i) r1) (h2 : V.R (.ref a) r2) (ha : H a = some (.dict l ep)) (k : ∀ s', Sf C B W env F H s' → Q (.bool (dget l i).isSome) s') : wpAny (model C.prog C.w) A (compareOp .In r1 r2) Q E s := by
  obtain ⟨t, rfl⟩ := h1; obtain rfl := h2
  obtain ⟨kvs, x, y, _⟩ := S.isD ha
  refine wpAny_in_of (intKind_is _ _ _ _) (S.noSys (by rw [ha]; simp)) y.mapOf ?_
  rcases dr_get x i with ⟨e, e'⟩ | ⟨v', rv, e1, e2, e3⟩
  · rw [e'] ; rw [e] at k; exact k _ (S.tok _)
  · rw [e2]; rw [e1] at k; exact k _ (S.tok _)
theorem gm_dict (S : Sf C B W env F H s) {name : Str} {id : String} {pl : Sem Bool} {Q : Value × List Value → Shared → Prop} (h1 : V.R (.ref a) r1) (ha : H a = some (.dict l ep))
    (slot : Slot "dict" name id) (hty : typeOf (.builtin id) = pure (.type "method_descriptor")) (k : Q (.builtin id, [.ref a]) s) : wpAny (model C.prog C.w) A (getMethod r1 name pl) Q E s := by
  obtain rfl := h1
  obtain ⟨kvs, x, y, _⟩ := S.isD ha
  exact getMethod_builtin y.mapOf.typeIs PySem.F.plainAttrs_dict slot hty y.mapOf.noDict k
theorem m_dget (S : Sf C B W env F H s) (h2 : V.R (.int i) r2) (ha : H a = some (.dict l ep)) (k : Go C B W env F H ((dget l i).getD .none) Q) : wpAny (model C.prog C.w) A (call (.builtin "dict.get") [.ref a, r2]) Q E s := by
  obtain ⟨t, rfl⟩ := h2
  obtain ⟨kvs, x, y, _⟩ := S.isD ha
  refine call_meetsIn PySem.F.slot_dict_get y.mapOf.typeIs PySem.F.entry_dict_get (PySem.F.args_dict_get_2 _ _) (meets_dict_get (intKind C.prog C.w) a (k := i) (intKind_is _ _ _ _) (S.noSys (by rw [ha]; simp))) ⟨_, y.mapOf, ?_⟩
  rcases dr_get x i with ⟨e, e'⟩ | ⟨v', rv, e1, e2, e3⟩
  · rw [e'] ; rw [e] at k; exact k _ _ (S.tok _) rfl
  · rw [e2]; rw [e1] at k; exact k _ _ (S.tok _) e3
theorem m_set (S : Sf C B W env F H s) (k : GoN C B W env F H (.set (fun _ => false) 0) Q) : wpAny (model C.prog C.w) A (call (.type "set") []) Q E s := by
  refine call_set_0 fun led => ?_
  have z := S.new (s' := { s with heap := s.heap.push { cls := .type "set", dict := none, data := .set #[] 0 (.fresh 0 0 led) } }) (fun b o e => Heap.get?_push_of_some _ e) (Nat.le_refl _) (Heap.get?_push_size _ rfl) (o := .set (fun _ => false) 0) (setObjOf_fresh led) rfl rfl
  exact k _ _ z.1 z.2
theorem c_inS (S : Sf C B W env F H s) {f : Int → Bool} {n : Nat} (h1 : V.R (.int i) r1) (h2 : V.R (.ref a) r2) (ha : H a = some (.set f n)) (hn : n < 1000) (k : ∀ s', Sf C B W env F H s' → Q (.bool (f i)) s') : wpAny (model C.prog C.w) A (compareOp .In r1 r2) Q E s := by
  obtain ⟨t, rfl⟩ := h1; obtain rfl := h2
  exact wpAny_inSet_of (intKind_is _ _ _ _) rfl (S.isSet ha (by unfold scanBound; omega)) (k _ (S.tok _))
theorem gm_set (S : Sf C B W env F H s) {f : Int → Bool} {n : Nat} {pl : Sem Bool} {Q : Value × List Value → Shared → Prop} (h1 : V.R (.ref a) r1) (ha : H a = some (.set f n)) (hn : n < 1000) (k : Q (.builtin "set.add", [.ref a]) s) : wpAny (model C.prog C.w) A (getMethod r1 "add" pl) Q E s := by
  obtain rfl := h1
  exact getMethod_set_add (S.isSet ha (by unfold scanBound; omega)) k
theorem m_sadd (S : Sf C B W env F H s) {f : Int → Bool} {n : Nat} (h2 : V.R (.int i) r2) (ha : H a = some (.set f n)) (hn : n < 1000) (k : ∀ s', Sf C B W env F (H.set a (.set (fun j => f j || decide (j = i)) (if f i then n else n + 1))) s' → Q .none s') : wpAny (model C.prog C.w) A (call (.builtin "set.add") [.ref a, r2]) Q E s := by
  obtain ⟨t, rfl⟩ := h2
  refine call_set_add (intKind_is _ _ _ _) rfl (S.isSet ha (by unfold scanBound; omega)) (by unfold scanBound; omega) fun h' hs hS => k _ ?_
  obtain ⟨o, ho, hd⟩ := hS.objOf
  exact S.put (by rw [ha]; simp) hs.extBut ho hd rfl rfl
end
end
section -- R8
variable {C : Cx} {B : Heap} {W : Addr → Prop} {env : Env} {F : List (Str × V)} {H : AH} {s : Shared} {A : Around} {E : Value → Shared → Prop} {r1 r2 : Value}
theorem Sf.putG (S : Sf C B W env F H s) {a : Addr} {o : O} {ob : Obj} {s' : Shared} (ha : H a ≠ none) (hb : ∀ b x, b ≠ a → b ≠ env.locals → s.heap.get? b = some x → s'.heap.get? b = some x)
    (hns : ∃ m, s'.heap.Ns env.locals m ∧ ∀ x v, F.lookup x = some v → env.kindOf x = some .local → ∃ rv, m x = some rv ∧ V.R v rv)
    (ho : s'.heap.get? a = some ob) (hr : OR C.prog C.w o ob) (hg : s'.gens = s.gens) (hos : s'.os = s.os) : Sf C B W env F (H.set a o) s' := by
  have hKa := S.apart a ha
  have hL : env.locals ≠ a := fun e => ha (e ▸ S.na.1)
  have hC : ∀ x c, env.cells.lookup x = some c → c ≠ a := fun x c e q => ha (q ▸ (S.nc x c e).1)
  refine ⟨fun b x e => hb b x (fun q => by rw [q, hKa] at e; cases e) (fun q => by rw [q, S.na.2.1] at e; cases e) (S.k b x e), ?_, hg.trans S.gens, hos.trans S.os, ?_, ?_, ?_, ?_, S.stat, S.kind, S.glob, S.blt, hns, ?_, ?_, ?_, ?_, ?_, S.big⟩
  · obtain ⟨mc, ⟨o, es, ep, h1, h3⟩, h2⟩ := S.lim
    exact ⟨mc, ⟨o, es, ep, hb _ _ (fun q => S.stat (q ▸ hKa)) (fun q => S.stat (q ▸ S.na.2.1)) h1, h3⟩, h2⟩
  · intro b x e
    by_cases q : b = a
    · subst q; rw [AH.set_self] at e; cases e; exact ⟨ob, ho, hr⟩
    · rw [AH.set_ne _ _ q] at e
      obtain ⟨ob', h1, h2⟩ := S.rel b x e
      exact ⟨ob', hb b _ q (fun z => by rw [z, S.na.1] at e; cases e) h1, h2⟩
  · intro b x e n
    refine (S.kept b x e n).keep fun x' e1 => hb b x' (fun q => ?_) (fun q => ?_) e1
    · subst q
      rcases S.own b ha with h | h
      · exact absurd h n
      · rw [h] at e; cases e
    · subst q
      rcases S.na.2.2 with h | h
      · exact absurd h n
      · rw [h] at e; cases e
  · intro b e
    by_cases q : b = a
    · exact q ▸ S.own a ha
    · exact S.own b (by rwa [AH.set_ne _ _ q] at e)
  · intro b e
    by_cases q : b = a
    · exact q ▸ hKa
    · exact S.apart b (by rwa [AH.set_ne _ _ q] at e)
  · intro x v e
    refine (S.cl x v e).imp id fun ⟨h1, c, rv, h2, h3, h4⟩ => ⟨h1, c, rv, h2, ?_, h4⟩
    obtain ⟨o, h5, h6⟩ := h3
    exact ⟨o, hb c o (hC x c h2) (S.nc x c h2).2.1 h5, h6⟩
  · intro x c e l
    obtain ⟨⟨v0, o, h5, h6⟩, h3⟩ := S.cs x c e l
    exact ⟨⟨v0, o, hb c o (hC x c e) (S.nc x c e).2.1 h5, h6⟩, h3⟩
  · exact ⟨by rw [AH.set_ne _ _ hL]; exact S.na.1, S.na.2⟩
  · intro x c e
    refine ⟨by rw [AH.set_ne _ _ (hC x c e)]; exact (S.nc x c e).1, (S.nc x c e).2.1, fun q => ?_⟩
    cases e' : s.heap.get? c with
    | none => exact (S.nc x c e).2.2 e'
    | some o => rw [hb c o (hC x c e) (S.nc x c e).2.1 e'] at q; cases q
  · intro b e
    by_cases q : b = a
    · exact q ▸ S.sysm a ha
    · exact S.sysm b (by rwa [AH.set_ne _ _ q] at e)

/-! the library's rules speak of lists of objects: here all but two -/
noncomputable def others (h : Heap) (L x : Addr) : List (Addr × Obj) := (List.range h.objs.size).filterMap fun b => if b = L ∨ b = x then none else (h.get? b).map fun o => (b, o)
theorem mem_others {h : Heap} {L x b : Addr} {o : Obj} (e : h.get? b = some o) (n : b ≠ L) (n' : b ≠ x) : (b, o) ∈ others h L x := by
  refine List.mem_filterMap.mpr ⟨b, List.mem_range.mpr (Heap.lt_size e), ?_⟩
  rw [if_neg (by rintro (q | q) <;> contradiction), e]; rfl
theorem others_of {h : Heap} {L x b : Addr} {o : Obj} (e : (b, o) ∈ others h L x) : h.get? b = some o ∧ b ≠ L ∧ b ≠ x := by
  obtain ⟨c, _, h2⟩ := List.mem_filterMap.mp e
  split at h2
  · cases h2
  · rename_i q
    obtain ⟨o', h3, h4⟩ := Option.map_eq_some_iff.mp h2
    cases h4
    exact ⟨h3, fun z => q (.inl z), fun z => q (.inr z)⟩
noncomputable def nil0 : Heap := ⟨#[], {}⟩
theorem nil0_get (a : Addr) : nil0.get? a = none := rfl
theorem news_all {h : Heap} {L x : Addr} {ox : Obj} (e : h.get? x = some ox) (n : x ≠ L) : News nil0 L h ([] ++ (x, ox) :: others h L x) := by
  intro p hp
  rcases List.mem_cons.mp hp with rfl | hp
  · exact ⟨e, n, nil0_get _⟩
  · obtain ⟨h1, h2, _⟩ := others_of hp
    exact ⟨h1, h2, nil0_get _⟩
theorem fr_all {h : Heap} {L : Addr} {m : Str → Option Value} (n : h.Ns L m) : Fr nil0 L h m := ⟨n, fun b o e => (by rw [nil0_get] at e; cases e), Nat.zero_le _⟩
theorem Sf.putN (S : Sf C B W env F H s) {a : Addr} {o : O} {ob : Obj} {h' : Heap} {t : Nat} {m : Str → Option Value} (ha : H a ≠ none) (hm : ∀ x v, F.lookup x = some v → env.kindOf x = some .local → ∃ rv, m x = some rv ∧ V.R v rv)
    (f : Fr nil0 env.locals h' m) (n : News nil0 env.locals h' ([] ++ (a, ob) :: others s.heap env.locals a)) (hr : OR C.prog C.w o ob) : Sf C B W env F (H.set a o) { s with heap := h', toks := t } :=
  S.putG ha (fun b x n1 n2 e => (n _ (List.mem_cons_of_mem _ (mem_others e n2 n1))).1) ⟨m, f.ns, hm⟩ (n _ (List.mem_cons_self ..)).1 hr rfl rfl

theorem Value.R_handed {v : V} {rv : Value} (h : V.R v rv) (hg : ∀ g, v ≠ .glob g) : handedIn rv = true := by
  cases v with
  | none => obtain rfl := h; rfl
  | bool b => obtain rfl := h; rfl
  | int i => obtain ⟨t, rfl⟩ := h; rfl
  | str i => obtain ⟨t, rfl⟩ := h; rfl
  | bytes i => obtain ⟨t, rfl⟩ := h; rfl
  | ref a => obtain rfl := h; rfl
  | glob g => exact absurd rfl (hg g)

/-! instances with a dict -/
theorem er_find {l : List (Str × V)} {es : List DictEntry} (h : A2 ER l es) (name : Str) : (l.lookup name = none ∧ es.find? (·.key.isStr name) = none) ∨ ∃ v e, l.lookup name = some v ∧ es.find? (·.key.isStr name) = some e ∧ V.R v e.val := by
  induction h with
  | nil => exact .inl ⟨rfl, rfl⟩
  | @cons a b l l' x _ ih =>
    obtain ⟨⟨t, x1⟩, x2⟩ := x
    rw [lookup_cons_eq (x := a.1), List.find?_cons]
    have e : b.key.isStr name = (a.1 == name) := by rw [x1]; rfl
    rw [e]
    by_cases q : name = a.1
    · right
      subst q
      exact ⟨a.2, b, by simp, by simp, x2⟩
    · rw [if_neg q]
      have q' : (a.1 == name) = false := by simpa using fun z => q z.symm
      rw [q']; exact ih
theorem er_noref {l : List (Str × V)} {es : List DictEntry} (h : A2 ER l es) : es.any (·.refKey) = false := by
  induction h with
  | nil => rfl
  | @cons a b l l' x _ ih =>
    obtain ⟨⟨t, x1⟩, x2⟩ := x
    rw [List.any_cons, ih]
    simp [DictEntry.refKey, x1]
theorem Sf.isA (S : Sf C B W env F H s) {d : Addr} {l : List (Str × V)} (h : H d = some (.attrs l)) : ∃ ob es n sl, ob = { cls := .type "dict", data := .dict es n, slots := sl } ∧ s.heap.get? d = some ob ∧ A2 ER l es.toList := by
  obtain ⟨ob, h1, es, n, sl, h2, h3⟩ := S.rel d _ h
  exact ⟨ob, es, n, sl, h2, h1, h3⟩
theorem look_at {l : List (Str × V)} {es : Array DictEntry} {n : Nat} {sl : Array (Option Value)} (h : A2 ER l es.toList) {name : Str} {v : V} (e : l.lookup name = some v) : ∃ rv, lookIn name { cls := .type "dict", data := .dict es n, slots := sl } = some (some rv) ∧ V.R v rv := by
  rcases er_find h name with ⟨e1, _⟩ | ⟨v', en, e1, e2, e3⟩
  · rw [e] at e1; cases e1
  · rw [e] at e1; cases e1
    refine ⟨en.val, ?_, e3⟩
    unfold lookIn; dsimp only; rw [e2]
theorem look_not {l : List (Str × V)} {es : Array DictEntry} {n : Nat} {sl : Array (Option Value)} (h : A2 ER l es.toList) {name : Str} (e : l.lookup name = none) : lookIn name { cls := .type "dict", data := .dict es n, slots := sl } = some none := by
  rcases er_find h name with ⟨e1, e2⟩ | ⟨v', en, e1, e2, e3⟩
  · unfold lookIn; dsimp only; rw [e2]; dsimp only; rw [er_noref h]; rfl
  · rw [e] at e1; cases e1
theorem look_some {l : List (Str × V)} {es : Array DictEntry} {n : Nat} {sl : Array (Option Value)} (h : A2 ER l es.toList) (name : Str) : (lookIn name { cls := .type "dict", data := .dict es n, slots := sl }).isSome = true := by
  cases e : l.lookup name with
  | none => rw [look_not h e]; rfl
  | some v => obtain ⟨rv, e1, _⟩ := look_at (n := n) (sl := sl) h e; rw [e1]; rfl
noncomputable def aput (l : List (Str × V)) (name : Str) (v : V) : List (Str × V) := match l.findIdx? (·.1 == name) with
  | some i => l.modify i fun p => (p.1, v)
  | none => l ++ [(name, v)]
theorem er_idx {l : List (Str × V)} {es : List DictEntry} (h : A2 ER l es) (name : Str) : es.findIdx? (·.key.isStr name) = l.findIdx? (·.1 == name) := by
  induction h with
  | nil => rfl
  | @cons a b l l' x _ ih =>
    obtain ⟨⟨t, x1⟩, x2⟩ := x
    rw [List.findIdx?_cons, List.findIdx?_cons, ih]
    have e : b.key.isStr name = (a.1 == name) := by rw [x1]; rfl
    rw [e]
theorem er_mod {l : List (Str × V)} {es : List DictEntry} (h : A2 ER l es) {v : V} {rv : Value} (hv : V.R v rv) : ∀ i, A2 ER (l.modify i fun p => (p.1, v)) (es.modify i fun e => { e with val := rv }) := by
  induction h with
  | nil => intro i; cases i <;> exact .nil
  | @cons a b l l' x y ih =>
    intro i
    cases i with
    | zero => simpa using .cons (⟨x.1, hv⟩ : ER (a.1, v) { b with val := rv }) y
    | succ i => simpa using .cons x (ih i)
theorem er_put {l : List (Str × V)} {es : Array DictEntry} {n : Nat} {sl : Array (Option Value)} (h : A2 ER l es.toList) (name : Str) (hs : Int) (tk : Tok) {v : V} {rv : Value} (hv : V.R v rv) :
    ∃ es' n', Obj.putName name hs (.str name tk) rv { cls := .type "dict", data := .dict es n, slots := sl } = { cls := .type "dict", data := .dict es' n', slots := sl } ∧ A2 ER (aput l name v) es'.toList := by
  rw [Obj.putName_eq]
  unfold Obj.putNameByArray aput
  dsimp only
  have e := er_idx h name
  have e' : es.findIdx? (·.key.isStr name) = l.findIdx? (·.1 == name) := by rw [← e]; cases es; simp
  rw [e']
  cases l.findIdx? (·.1 == name) with
  | some i => exact ⟨_, _, rfl, by simpa using er_mod h hv i⟩
  | none => exact ⟨_, _, rfl, by simpa using h.append (.one ⟨⟨tk, rfl⟩, hv⟩)⟩

structure ClsOk (K : Frag) (c : Addr) (cd : ClassData) : Prop where
  cls : clsIn K c = some cd
  ga : findIn K (.ref c) "__getattribute__" = some (some (.builtin "object.__getattribute__"))
  gt : findIn K (.ref c) "__getattr__" = some none
  sa : findIn K (.ref c) "__setattr__" = some (some (.builtin "object.__setattr__"))
  over : plainOver K c = true
theorem Sf.instAt (S : Sf C B W env F H s) {x c d : Addr} {l : List (Str × V)} (hx : H x = some (.inst c d)) (hd : H d = some (.attrs l)) :
    ∃ es n sl, s.heap.get? d = some { cls := .type "dict", data := .dict es n, slots := sl } ∧ A2 ER l es.toList ∧ InstAt s.heap x { cls := .ref c, dict := some d, data := .plain } c (some { cls := .type "dict", data := .dict es n, slots := sl }) := by
  obtain ⟨ob, es, n, sl, rfl, h2, h3⟩ := S.isA hd
  obtain ⟨ox, h4, h5⟩ := S.rel x _ hx
  obtain rfl : ox = _ := h5
  exact ⟨es, n, sl, h2, h3, h4, rfl, rfl, h2⟩
section
variable {x c d : Addr} {l : List (Str × V)} {name : Str} {cd : ClassData}
theorem a_get {expr : Bool} {v : V} {Q : Value → Shared → Prop} (S : Sf C B W env F H s) (c0 : ClsOk C.K c cd) (h1 : V.R (.ref x) r1) (hx : H x = some (.inst c d)) (hd : H d = some (.attrs l)) (hv : l.lookup name = some v) (hg : ∀ g, v ≠ .glob g)
    (hh : cd.hasDict = true) (hn : findIn C.K (.ref c) name = some none) (k : Go C B W env F H v Q) : wpAny (model C.prog C.w) A (getAttr r1 name expr) Q E s := by
  obtain rfl := h1
  obtain ⟨es, n, sl, h1, h2, I⟩ := S.instAt hx hd
  obtain ⟨rv, e1, e2⟩ := look_at (n := n) (sl := sl) h2 hv
  refine get_value S.k I c0.ga ?_ (Value.R_handed e2 hg) (k _ _ (S.tok _) e2)
  unfold findObj
  rw [c0.cls, Option.bind_some, hn, Option.bind_some]
  dsimp only [Option.bind]
  unfold PySem.W.ownOf
  rw [hh, if_pos rfl]
  dsimp only
  rw [e1]
theorem a_set {v : V} {rv : Value} {Q : Unit → Shared → Prop} (S : Sf C B W env F H s) (c0 : ClsOk C.K c cd) (h1 : V.R (.ref x) r1) (hx : H x = some (.inst c d)) (hd : H d = some (.attrs l)) (hv : V.R v rv) (hz : l.length ≤ 900)
    (hh : cd.hasDict = true) (hn : findIn C.K (.ref c) name = some none) (k : ∀ s', Sf C B W env F (H.set d (.attrs (aput l name v))) s' → Q () s') : wpAny (model C.prog C.w) A (setAttr r1 name rv) Q E s := by
  obtain rfl := h1
  obtain ⟨es, n, sl, h1, h2, I⟩ := S.instAt hx hd
  refine set_plain S.k I c0.sa ?_
  obtain ⟨m, hm, hF⟩ := S.ns
  have S1 := S.tok (s.toks + 1)
  obtain ⟨es', n', e1, e2⟩ := er_put (n := n) (sl := sl) h2 name (PyData.keyHash C.w.params name) (s.toks + 1) hv
  have hdl : d ≠ env.locals := fun q => by rw [q, S.na.1] at hd; cases hd
  have hlen : es'.toList.length ≤ 1000 := by
    rw [← e2.length]
    unfold aput
    split
    · rw [List.length_modify]; omega
    · rw [List.length_append]; simp; omega
  refine osa_dict (s := { s with toks := s.toks + 1 }) (pre := []) (post := others s.heap env.locals d) (od' := { cls := .type "dict", data := .dict es' n', slots := sl }) (es := es'.toList) (n := n') (fr_all hm) (news_all h1 hdl) S1.k I rfl c0.over ?_ ?_ (look_some h2 name)
    (fun p hp => by cases hp) (fun p hp => (others_of (h := s.heap) (b := p.1) (o := p.2) hp).2.2) e1 (by simp) hlen fun h' f' n' => ?_
  · unfold takerIn; rw [hn]; rfl
  · rw [c0.cls]; exact hh
  · exact k _ (S.putN (by rw [hd]; simp) hF f' n' ⟨es', _, sl, rfl, e2⟩)
theorem a_meth {f : Addr} {pl : Sem Bool} {Q : Value × List Value → Shared → Prop} (S : Sf C B W env F H s) (c0 : ClsOk C.K c cd) (h1 : V.R (.ref x) r1) (hx : H x = some (.inst c d)) (hd : H d = some (.attrs l)) (hv : l.lookup name = none)
    (hf : findIn C.K (.ref c) name = some (some (.ref f))) (ht : typeIn C.K (.ref f) = some (.type "function")) (k : Q (.ref f, [.ref x]) s) : wpAny (model C.prog C.w) A (getMethod r1 name pl) Q E s := by
  obtain rfl := h1
  obtain ⟨es, n, sl, h1, h2, I⟩ := S.instAt hx hd
  exact method_fn S.k I c0.ga c0.gt hf ht (by unfold shadowIn; dsimp only; rw [look_not h2 hv]; rfl) k
end
end
section -- R9
variable {C : Cx} {B : Heap} {W : Addr → Prop} {env : Env} {F : List (Str × V)} {H : AH} {s : Shared} {A : Around} {E : Value → Shared → Prop} {r1 r2 : Value}
noncomputable def sput (l : List (Option V)) (i : Nat) (v : V) : List (Option V) := (l ++ List.replicate (i + 1 - l.length) none).set i (some v)
theorem sr_put {l : List (Option V)} {sl : Array (Option Value)} (h : A2 SR l sl.toList) (i : Nat) {v : V} {rv : Value} (hv : V.R v rv) :
    A2 SR (sput l i v) ((sl ++ Array.replicate (i + 1 - sl.size) none).setIfInBounds i (some rv)).toList := by
  have hs : sl.size = l.length := by rw [h.length]; simp
  have hr : ∀ n, A2 SR (List.replicate n none) (List.replicate n none) := fun n => by
    induction n with
    | zero => exact .nil
    | succ n ih => exact .cons rfl ih
  unfold sput
  rw [hs]
  have z : SR (some v) (some rv) := ⟨rv, rfl, hv⟩
  simpa using (h.append (hr _)).set z i
theorem sr_get {l : List (Option V)} {sl : Array (Option Value)} (h : A2 SR l sl.toList) {i : Nat} {v : V} (e : l[i]? = some (some v)) : ∃ rv, (sl[i]?).join = some rv ∧ V.R v rv := by
  obtain ⟨b, h1, h2⟩ := h.get e
  obtain ⟨rv, rfl, h3⟩ := h2
  exact ⟨rv, by rw [← Array.getElem?_toList, h1]; rfl, h3⟩

theorem Sf.slotAt (S : Sf C B W env F H s) {x c d : Addr} {l : List (Option V)} {l' : List (Str × V)} (hx : H x = some (.slots c d l)) (hd : H d = some (.attrs l')) :
    ∃ sl od, A2 SR l sl.toList ∧ s.heap.get? x = some { cls := .ref c, dict := some d, data := .plain, slots := sl } ∧ InstAt s.heap x { cls := .ref c, dict := some d, data := .plain, slots := sl } c (some od) := by
  obtain ⟨ob, es, n, sl, rfl, h2, h3⟩ := S.isA hd
  obtain ⟨ox, h4, sl', rfl, h5⟩ := S.rel x _ hx
  exact ⟨sl', _, h5, h4, h4, rfl, rfl, h2⟩
structure SlotOk (K : Frag) (c : Addr) (name : Str) (p : Addr) (i : Nat) : Prop where
  fi : findIn K (.ref c) name = some (some (.ref p))
  gt : specialIn K (.ref p) "__get__" = some (some (.builtin "member_descriptor.__get__"))
  tk : takesIn K (.ref p) = some true
  ty : typeIn K (.ref p) = some (.type "member_descriptor")
  sl : slotIn K p c = some i
section
variable {x c d p : Addr} {l : List (Option V)} {l' : List (Str × V)} {name : Str} {cd : ClassData} {i : Nat} {v : V}
theorem sl_get {expr : Bool} {Q : Value → Shared → Prop} (S : Sf C B W env F H s) (c0 : ClsOk C.K c cd) (c1 : SlotOk C.K c name p i) (h1 : V.R (.ref x) r1) (hx : H x = some (.slots c d l)) (hd : H d = some (.attrs l')) (hv : l[i]? = some (some v)) (hg : ∀ g, v ≠ .glob g)
    (k : Go C B W env F H v Q) : wpAny (model C.prog C.w) A (getAttr r1 name expr) Q E s := by
  obtain rfl := h1
  obtain ⟨sl, od, h1, h2, I⟩ := S.slotAt hx hd
  obtain ⟨rv, e1, e2⟩ := sr_get h1 hv
  have S1 := S.tok (s.toks + 1)
  exact get_bind S.k I c0.ga (findObj_data (by rw [c0.cls]; rfl) c1.fi c1.gt c1.tk) c0.gt (wpAny_call (slot_get (s := { s with toks := s.toks + 1 }) S1.k I c1.sl e1 (handed_on (Value.R_handed e2 hg) (k _ _ S1 e2))))
theorem sl_set {rv : Value} {Q : Unit → Shared → Prop} (S : Sf C B W env F H s) (c0 : ClsOk C.K c cd) (c1 : SlotOk C.K c name p i) (h1 : V.R (.ref x) r1) (hx : H x = some (.slots c d l)) (hd : H d = some (.attrs l')) (hv : V.R v rv) (hi : i < 1000)
    (k : ∀ s', Sf C B W env F (H.set x (.slots c d (sput l i v))) s' → Q () s') : wpAny (model C.prog C.w) A (setAttr r1 name rv) Q E s := by
  obtain rfl := h1
  obtain ⟨sl, od, h1, h2, I⟩ := S.slotAt hx hd
  obtain ⟨m, hm, hF⟩ := S.ns
  have S1 := S.tok (s.toks + 1)
  have hxl : x ≠ env.locals := fun q => by rw [q, S.na.1] at hx; cases hx
  refine set_plain S.k I c0.sa (osa_descr (s := { s with toks := s.toks + 1 }) KF.slot_mset S1.k I c0.over ?_ c1.ty (slot_set (s := { s with toks := s.toks + 1 }) (pre := []) (post := others s.heap env.locals x) (fr_all hm) (news_all h2 hxl) S1.k I c1.sl hi
    (fun p hp => by cases hp) (fun p hp => (others_of (h := s.heap) (b := p.1) (o := p.2) hp).2.2) rfl rfl fun h' f' n' => ?_))
  · unfold takerIn; rw [c1.fi, Option.bind_some]; dsimp only; rw [c1.tk]; rfl
  · exact k _ (S.putN (by rw [hx]; simp) hF f' n' ⟨_, rfl, sr_put h1 i hv⟩)
end
noncomputable abbrev callTy (A : Around) (c : Addr) (vals : List Value) : Around := A.under (.builtin "type.__call__" ⟨.ref c :: vals, []⟩)
theorem Rm.ty {n : Nat} {A : Around} (h : Rm (n + 1) A) (c : Addr) (vals : List Value) : Rm n (callTy A c vals) := by
  obtain ⟨h1, h2, h3, h4, h5⟩ := h
  refine ⟨h1, ?_, ?_, h4, h5⟩
  · show A.depth + 1 + 2 * n ≤ 600; omega
  · have u : (Code.builtin "type.__call__" ⟨.ref c :: vals, []⟩).cUnits = 1 ∨ (Code.builtin "type.__call__" ⟨.ref c :: vals, []⟩).cUnits = 4 := by
      first | (left; kernel_rfl) | (right; kernel_rfl)
    have e : (callTy A c vals).units ≤ A.units + 4 := by
      show A.units + (Code.builtin "type.__call__" ⟨.ref c :: vals, []⟩).cUnits ≤ _
      omega
    omega
theorem r_make {n : Nat} (S : Sf C B W env F H s) (R : Rm (n + 1) A) {c fI : Addr} {vals : List Value} {Q : Value → Shared → Prop} (o : Addr → O) (ho : ∀ d, OR C.prog C.w (o d) { cls := .ref c, dict := some d, data := .plain })
    (hm : makesIn C.K c = true) (hi : findIn C.K (.ref c) "__init__" = some (some (.ref fI))) (hf : typeIn C.K (.ref fI) = some (.type "function"))
    (h : ∀ d x s', H d = none → H x = none → x ≠ d → Sf C B W env F ((H.set d (.attrs [])).set x (o d)) s' →
      codeAny (model C.prog C.w) (callTy A c vals) (.call (.ref fI) ⟨.ref x :: vals, []⟩) (fun r s'' => r = .ok (.ret .none) ∧ Q (.ref x) s'') s') : wpAny (model C.prog C.w) A (call (.ref c) vals) Q E s := by
  obtain ⟨hh, g, dr, t, os⟩ := s
  refine wpAny_call (make_core (makes_of S.k hm) (looks_findIn S.k hi) (fun self => bind_fn S.k self hf) (.inl rfl) ?_)
  have z := S.new (s' := ⟨hh.push emptyDict, g, dr, t, os⟩) (fun b o e => Heap.get?_push_of_some _ e) (Nat.le_refl _) (Heap.get?_push_size _ rfl) (o := .attrs []) ⟨#[], 0, #[], rfl, .nil⟩ rfl rfl
  have z2 := z.2.new (s' := ⟨(hh.push emptyDict).push (instObj c hh.objs.size), g, dr, t, os⟩) (fun b o e => Heap.get?_push_of_some _ e) (Nat.le_refl _) (Heap.get?_push_size _ rfl) (o := o hh.objs.size) (ho _) rfl rfl
  have e : (hh.push emptyDict).objs.size = hh.objs.size + 1 := Heap.size_push ..
  simp only [e] at z2
  have hx : H (hh.objs.size + 1) = none := by
    have := z2.1
    rw [AH.set_ne] at this
    · exact this
    · exact Nat.succ_ne_self _
  refine codeAny_mono (h _ _ _ z.1 hx (Nat.succ_ne_self _) z2.2) fun r s' hr => ?_
  obtain ⟨rfl, hq⟩ := hr
  exact ⟨rfl, hq⟩
end
section -- R10
variable {C : Cx} {B : Heap} {W : Addr → Prop} {env : Env} {F : List (Str × V)} {H : AH} {s : Shared} {A : Around} {E : Value → Shared → Prop} {r1 r2 : Value}
structure Itr (C : Cx) (A : Around) (I : Addr) (L : List V) (ob : Nat → Obj → Prop) (src : AH → Prop) : Prop where
  item : ∀ {B W env F H s} {Q : Option Value → Shared → Prop} {E : Value → Shared → Prop} {i v o}, Sf C B W env F H s → src H → s.heap.get? I = some o → ob i o → L[i]? = some v →
    (∀ rv h' o' tk, V.R v rv → h'.get? I = some o' → ob (i + 1) o' → (∀ b x, b ≠ I → s.heap.get? b = some x → h'.get? b = some x) → Q (some rv) { s with heap := h', toks := tk }) → wpAny (model C.prog C.w) A (pyNext (.ref I)) Q E s
  done : ∀ {B W env F H s} {Q : Option Value → Shared → Prop} {E : Value → Shared → Prop} {o}, Sf C B W env F H s → src H → s.heap.get? I = some o → ob L.length o →
    (∀ h' tk, (∀ b x, b ≠ I → s.heap.get? b = some x → h'.get? b = some x) → Q none { s with heap := h', toks := tk }) → wpAny (model C.prog C.w) A (pyNext (.ref I)) Q E s
  self : ∀ {s} {Q : Value → Shared → Prop} {E : Value → Shared → Prop} {i o}, s.heap.get? I = some o → ob i o → Q (.ref I) s → wpAny (model C.prog C.w) A (pyIter (.ref I)) Q E s
  plain : ∀ {i o}, ob i o → o.isFreed = false
  nd : ∀ {i o}, ob i o → ∀ es n, o.data ≠ .dict es n
  go : ∀ {s} {Q : Unit → Shared → Prop} {E : Value → Shared → Prop} {i o elts kd pos T}, s.heap.get? I = some o → ob i o → Q () s → wpAny (model C.prog C.w) A (letOwnedTupleGo (.Tuple elts kd pos) (.ref I) (.ref T)) Q E s

noncomputable abbrev obL (cls : String) (f : Nat → Array Value) (i : Nat) (o : Obj) : Prop := o.cls = .type cls ∧ o.data = .fields (f i)
theorem ob_plain {cls : String} {f : Nat → Array Value} {i : Nat} {o : Obj} (h : obL cls f i o) : o.isFreed = false := Obj.isFreed_of_fields h.2
theorem ob_nd {cls : String} {f : Nat → Array Value} {i : Nat} {o : Obj} (h : obL cls f i o) : ∀ es n, o.data ≠ .dict es n := fun es n q => by rw [h.2] at q; cases q
theorem ob_go {cls : String} {f : Nat → Array Value} (hc : (["enumerate", "zip", "dict_itemiterator", "dict_reverseitemiterator", "odict_iterator", "itertools.zip_longest", "itertools.pairwise"].contains cls) = false) {s : Shared} {Q : Unit → Shared → Prop} {i o elts kd pos} {I T : Addr} (h : s.heap.get? I = some o) (h' : obL cls f i o) (k : Q () s) :
    wpAny (model C.prog C.w) A (letOwnedTupleGo (.Tuple elts kd pos) (.ref I) (.ref T)) Q E s := by
  unfold letOwnedTupleGo
  refine wpAny_bind (wpAny_load h ?_)
  obtain ⟨oc, od, odt, osl⟩ := o
  obtain ⟨h1, h2⟩ := h'
  dsimp only at h1 h2
  subst h1 h2
  dsimp only
  rw [hc]
  exact wpAny_pure k

theorem itr_list (hh : A.handled = none) {I a : Addr} {L : List V} : Itr C A I L (obL "list_iterator" fun i => #[.ref a, .int i 0]) (fun H => H a = some (.list L)) where
  item := fun {B W env F H s Q E i v o} S ha ho h hv k => by
    obtain ⟨vs, n, x1, y1⟩ := S.isL ha
    obtain ⟨rv, e, hr⟩ := y1.get hv
    exact wpAny_pyNext_list_item (l := a) ⟨o, ho, h⟩ x1.isList (by simpa using e) fun h' ⟨o', h1, h2⟩ hs => k _ h' o' s.toks hr h1 h2 hs.extBut
  done := fun {B W env F H s Q E o} S ha ho h k => by
    obtain ⟨vs, n, x1, y1⟩ := S.isL ha
    exact wpAny_pyNext_list_end (l := a) hh ⟨o, ho, h⟩ x1.isList (by rw [Array.getElem?_eq_none]; rw [y1.size]; exact Nat.le_refl _) fun h' hs => k h' s.toks hs
  self := fun ho h k => wpAny_pyIter_listiter (l := a) ⟨_, ho, h⟩ k
  plain := ob_plain
  nd := ob_nd
  go := ob_go (by decide)
theorem Sf.isTup (S : Sf C B W env F H s) {a : Addr} {l : List V} (h : H a = some (.tup l)) : ∃ vs n, s.heap.get? a = some { cls := .type "tuple", data := .seq vs n } ∧ A2 V.R l vs.toList := by
  obtain ⟨ob, h1, vs, n, rfl, h2⟩ := S.rel a _ h
  exact ⟨vs, n, h1, h2⟩
theorem itr_tup (hh : A.handled = none) {I a : Addr} {L : List V} : Itr C A I L (obL "tuple_iterator" fun i => #[.ref a, .int i 0]) (fun H => H a = some (.tup L)) where
  item := fun {B W env F H s Q E i v o} S ha ho h hv k => by
    obtain ⟨vs, n, x1, y1⟩ := S.isTup ha
    obtain ⟨rv, e, hr⟩ := y1.get hv
    exact wpAny_pyNext_tuple_item (t := a) ⟨o, ho, h⟩ ⟨_, x1, rfl, _, rfl⟩ (by simpa using e) fun h' ⟨o', h1, h2⟩ hs => k _ h' o' s.toks hr h1 h2 hs.extBut
  done := fun {B W env F H s Q E o} S ha ho h k => by
    obtain ⟨vs, n, x1, y1⟩ := S.isTup ha
    exact wpAny_pyNext_tuple_end (t := a) hh ⟨o, ho, h⟩ ⟨_, x1, rfl, _, rfl⟩ (by rw [Array.getElem?_eq_none]; rw [A2.size y1]; exact Nat.le_refl _) fun h' hs => k h' s.toks hs
  self := fun ho h k => wpAny_pyIter_tupleiter (t := a) ⟨_, ho, h⟩ k
  plain := ob_plain
  nd := ob_nd
  go := ob_go (by decide)
noncomputable abbrev rangeL (n : Nat) : List V := (List.range n).map fun i : Nat => V.int (i : Int)
noncomputable abbrev obR (n : Nat) (i : Nat) (o : Obj) : Prop := o = { cls := .type "range_iterator", dict := none, data := .fields #[rawInt (0 + (i : Nat) * 1), rawInt ((n : Int) - (i : Nat)), rawInt 1], slots := #[] }
theorem itr_range (hh : A.handled = none) {I : Addr} {n : Nat} : Itr C A I (rangeL n) (obR n) (fun _ => True) where
  item := fun {B W env F H s Q E i v o} S _ ho h hv k => by
    have hi : i < n := by
      have := (List.getElem?_eq_some_iff.mp hv).1
      simpa using this
    have e : v = .int i := by
      rw [List.getElem?_map, List.getElem?_range hi] at hv
      simpa using hv.symm
    subst e h
    refine (Walks.range hh I 0 1 n).item i s Q E hi ho fun rv h' tk ⟨t, ht⟩ hst hk => ?_
    refine k rv h' _ tk ⟨t, by rw [ht]; simp⟩ hst rfl fun b x hb e => hk b x (by simpa using hb) e
  done := fun {B W env F H s Q E o} S _ ho h k => by
    subst h
    refine (Walks.range hh I 0 1 n).done s Q E (by simpa using ho) fun h' tk hk => k h' tk fun b x hb e => hk b x (by simpa using hb) e
  self := fun {s Q E i o} ho h k => by
    subst h
    exact (Walks.range hh I 0 1 n).self i s Q E ho k
  plain := fun h => by subst h; rfl
  nd := fun h es n q => by subst h; cases q
  go := fun ho h k => by
    subst h
    exact ob_go (cls := "range_iterator") (f := fun i => #[rawInt (0 + (i : Nat) * 1), rawInt ((n : Int) - (i : Nat)), rawInt 1]) (by decide) ho ⟨rfl, rfl⟩ k
theorem itr_keys (hh : A.handled = none) {I d : Addr} {l : List (Int × V)} {ep : Nat} : Itr C A I (l.map fun p => V.int p.1) (obL "dict_keyiterator" fun i => #[.ref d, .int i 0, .int l.length 0, .int ep 0]) (fun H => H d = some (.dict l ep)) where
  item := fun {B W env F H s Q E i v o} S ha ho h hv k => by
    obtain ⟨kvs, x1, y1, y2⟩ := S.isD ha
    rw [List.getElem?_map] at hv
    obtain ⟨p, hp, rfl⟩ := Option.map_eq_some_iff.mp hv
    obtain ⟨q, e, hr⟩ := x1.get hp
    rw [x1.length] at h
    refine wpAny_pyNext_dict_item (d := d) (ep := ep) ⟨o, ho, h⟩ y2 e fun key h' hkey ⟨o', h1, h2⟩ hs => k _ h' o' s.toks ?_ h1 (by rw [← x1.length] at h2; exact h2) hs.extBut
    obtain ⟨t, ht⟩ := Value.isInt_shape hkey
    exact ⟨t, by rw [ht, hr.1]⟩
  done := fun {B W env F H s Q E o} S ha ho h k => by
    obtain ⟨kvs, x1, y1, y2⟩ := S.isD ha
    rw [List.length_map, x1.length] at h
    exact wpAny_pyNext_dict_end (d := d) (ep := ep) hh ⟨o, ho, h⟩ y2 (by simp) fun h' hs => k h' s.toks hs
  self := fun ho h k => wpAny_pyIter_keyiter (d := d) (ep := ep) ⟨_, ho, h⟩ k
  plain := ob_plain
  nd := ob_nd
  go := ob_go (by decide)
theorem itr_vals (hh : A.handled = none) {I d : Addr} {l : List (Int × V)} {ep : Nat} : Itr C A I (l.map (·.2)) (obL "dict_valueiterator" fun i => #[.ref d, .int i 0, .int l.length 0, .int ep 0]) (fun H => H d = some (.dict l ep)) where
  item := fun {B W env F H s Q E i v o} S ha ho h hv k => by
    obtain ⟨kvs, x1, y1, y2⟩ := S.isD ha
    rw [List.getElem?_map] at hv
    obtain ⟨p, hp, rfl⟩ := Option.map_eq_some_iff.mp hv
    obtain ⟨q, e, hr⟩ := x1.get hp
    rw [x1.length] at h
    exact wpAny_pyNext_values_item (d := d) (ep := ep) ⟨o, ho, h⟩ y2 e fun h' ⟨o', h1, h2⟩ hs => k _ h' o' s.toks hr.2 h1 (by rw [← x1.length] at h2; exact h2) hs.extBut
  done := fun {B W env F H s Q E o} S ha ho h k => by
    obtain ⟨kvs, x1, y1, y2⟩ := S.isD ha
    rw [List.length_map, x1.length] at h
    exact wpAny_pyNext_values_end (d := d) (ep := ep) hh ⟨o, ho, h⟩ y2 (by simp) fun h' hs => k h' s.toks hs
  self := fun ho h k => wpAny_pyIter_valiter (d := d) (ep := ep) ⟨_, ho, h⟩ k
  plain := ob_plain
  nd := ob_nd
  go := ob_go (by decide)

noncomputable def Iters (C : Cx) (A : Around) (s : Shared) (v : Value) (L : List V) (src : AH → Prop) : Prop := ∀ (Q : Value → Shared → Prop) (E : Value → Shared → Prop),
  (∀ I ob o s', Itr C A I L ob src → s.heap.get? I = none → (∀ b x, s.heap.get? b = some x → s'.heap.get? b = some x) → s'.heap.get? I = some o → ob 0 o → s'.gens = s.gens → s'.os = s.os → Q (.ref I) s') → wpAny (model C.prog C.w) A (pyIter v) Q E s
theorem its_list (S : Sf C B W env F H s) (hh : A.handled = none) {a : Addr} {L : List V} (h1 : V.R (.ref a) r1) (ha : H a = some (.list L)) : Iters C A s r1 L (fun H => H a = some (.list L)) := fun Q E k => by
  obtain rfl := h1
  obtain ⟨vs, n, x1, y1⟩ := S.isL ha
  exact wpAny_pyIter_list x1.isList (k _ _ _ _ (itr_list hh) (Heap.get?_none_of_le (Nat.le_refl _)) (fun b x e => Heap.get?_push_of_some _ e) (Heap.get?_push_size _ rfl) ⟨rfl, rfl⟩ rfl rfl)
theorem its_tup (S : Sf C B W env F H s) (hh : A.handled = none) {a : Addr} {L : List V} (h1 : V.R (.ref a) r1) (ha : H a = some (.tup L)) : Iters C A s r1 L (fun H => H a = some (.tup L)) := fun Q E k => by
  obtain rfl := h1
  obtain ⟨vs, n, x1, y1⟩ := S.isTup ha
  exact wpAny_pyIter_tuple ⟨_, x1, rfl, _, rfl⟩ (k _ _ _ _ (itr_tup hh) (Heap.get?_none_of_le (Nat.le_refl _)) (fun b x e => Heap.get?_push_of_some _ e) (Heap.get?_push_size _ rfl) ⟨rfl, rfl⟩ rfl rfl)
theorem its_dict (S : Sf C B W env F H s) (hh : A.handled = none) {d : Addr} {l : List (Int × V)} {ep : Nat} (h1 : V.R (.ref d) r1) (ha : H d = some (.dict l ep)) : Iters C A s r1 (l.map fun p => V.int p.1) (fun H => H d = some (.dict l ep)) := fun Q E k => by
  obtain rfl := h1
  obtain ⟨kvs, x1, y1, y2⟩ := S.isD ha
  exact wpAny_pyIter_dict (S.noSys (by rw [ha]; simp)) y2 (k _ _ _ _ (itr_keys hh) (Heap.get?_none_of_le (Nat.le_refl _)) (fun b x e => Heap.get?_push_of_some _ e) (Heap.get?_push_size _ rfl) ⟨rfl, by rw [x1.length]; rfl⟩ rfl rfl)
theorem m_values {Q : Value → Shared → Prop} (S : Sf C B W env F H s) (hh : A.handled = none) {d : Addr} {l : List (Int × V)} {ep : Nat} (ha : H d = some (.dict l ep))
    (k : ∀ rv s', Sf C B W env F H s' → Iters C A s' rv (l.map (·.2)) (fun H => H d = some (.dict l ep)) → Q rv s') : wpAny (model C.prog C.w) A (call (.builtin "dict.values") [.ref d]) Q E s := by
  obtain ⟨kvs, x1, y1, y2⟩ := S.isD ha
  refine call_meetsIn PySem.F.slot_dict_values y1.mapOf.typeIs PySem.F.entry_dict_values (PySem.F.args_dict_values_1 _) (meets_dict_values (intKind C.prog C.w) d (S.noSys (by rw [ha]; simp))) ⟨⟨kvs, y1⟩, ?_⟩
  have S' : Sf C B W env F H { s with heap := s.heap.push { cls := .type "dict_values", data := .fields #[.ref d] } } := S.keep (fun b o e => Heap.get?_push_of_some _ e) rfl rfl
  refine k _ _ S' fun Q E k => ?_
  obtain ⟨kvs', x2, y3, y4⟩ := S'.isD ha
  exact wpAny_pyIter_values (d := d) ⟨_, Heap.get?_push_size _ rfl, rfl, rfl⟩ y4 (k _ _ _ _ (itr_vals hh) (Heap.get?_none_of_le (Nat.le_refl _)) (fun b x e => Heap.get?_push_of_some _ e) (Heap.get?_push_size _ rfl) ⟨rfl, by rw [x2.length]; rfl⟩ rfl rfl)
theorem m_range {Q : Value → Shared → Prop} (S : Sf C B W env F H s) (hh : A.handled = none) {n : Nat} (hn : n < 1000) (h2 : V.R (.int n) r2)
    (k : ∀ rv s', Sf C B W env F H s' → Iters C A s' rv (rangeL n) (fun _ => True) → Q rv s') : wpAny (model C.prog C.w) A (call (.type "range") [r2]) Q E s := by
  obtain ⟨t, rfl⟩ := h2
  refine call_range_1 ?_
  have S' : Sf C B W env F H { s with heap := s.heap.push { cls := .type "range", data := .fields #[.int 0 s.toks, .int n t, .int 1 (s.toks + 1)] }, toks := s.toks + 1 + 1 } := S.keep (fun b o e => Heap.get?_push_of_some _ e) rfl rfl
  refine k _ _ S' fun Q E k => ?_
  refine wpAny_pyIter_range (IsRange.new _ _ _ _ _ _ _) (small_one (by omega) (by omega) (by omega) (by omega)) ?_
  refine k _ _ _ _ (itr_range hh) (Heap.get?_none_of_le (Nat.le_refl _)) (fun b x e => Heap.get?_push_of_some _ e) (Heap.get?_push_size _ rfl) ?_ rfl rfl
  rw [rangeSize_one]
  show _ = _
  have e : (if (0 : Int) < (n : Int) then (n : Int) - 0 else 0) = (n : Int) - ((0 : Nat) : Int) := by split <;> omega
  rw [e]; simp
end
section -- R11
variable {C : Cx} {B : Heap} {W : Addr → Prop} {env : Env} {F : List (Str × V)} {H : AH} {s : Shared} {A : Around} {E : Value → Shared → Prop} {r1 r2 : Value}
theorem Sf.fresh (S : Sf C B W env F H s) {I : Addr} (h : s.heap.get? I = none) : H I = none ∧ C.K.lookup I = none ∧ (W I ∨ B.get? I = none) ∧ I ≠ env.locals ∧ ∀ x c, env.cells.lookup x = some c → c ≠ I := by
  refine ⟨?_, ?_, ?_, ?_, fun x c e q => (S.nc x c e).2.2 (q ▸ h)⟩
  · cases e : H I with
    | none => rfl
    | some o' => exact absurd h (S.there (by rw [e]; simp))
  · cases e : C.K.lookup I with
    | none => rfl
    | some x => rw [S.k I x e] at h; cases h
  · by_cases hW : W I
    · exact .inl hW
    · right
      cases e : B.get? I with
      | none => rfl
      | some x => exact ((S.kept I x e hW).none h).elim
  · intro e
    obtain ⟨m, ⟨o, es, ep, h1, _⟩, _⟩ := S.ns
    rw [← e, h] at h1; cases h1
structure Aside (C : Cx) (B : Heap) (W : Addr → Prop) (env : Env) (H : AH) (I : Addr) : Prop where
  no : H I = none
  k : C.K.lookup I = none
  w : W I ∨ B.get? I = none
  l : I ≠ env.locals
  c : ∀ x c, env.cells.lookup x = some c → c ≠ I
theorem Sf.asideOf (S : Sf C B W env F H s) {I : Addr} (h : s.heap.get? I = none) : Aside C B W env H I := let ⟨a, b, c, d, e⟩ := S.fresh h; ⟨a, b, c, d, e⟩
theorem Aside.notWn {I : Addr} (x : Aside C B W env H I) : ¬ Wn H env I := by
  rintro (h | h | ⟨y, h, _⟩)
  · exact h x.no
  · exact x.l h
  · exact x.c y I h rfl
theorem Aside.over {I : Addr} (x : Aside C B W env H I) {s0 : Heap} {o : Obj} (ho : s0.get? I = some o) (nd : ∀ es n, o.data ≠ .dict es n) {F' : List (Str × V)} {H' : AH} {s' : Shared} (S' : Sf C s0 (Wn H env) env F' H' s') : Aside C B W env H' I ∧ s'.heap.get? I = some o := by
  refine ⟨⟨?_, x.k, x.w, x.l, x.c⟩, (S'.kept I o ho x.notWn).exact nd⟩
  cases e : H' I with
  | none => rfl
  | some _ =>
    rcases S'.own I (by rw [e]; simp) with h | h
    · exact absurd h x.notWn
    · rw [h] at ho; cases ho
theorem Sf.by (S : Sf C B W env F H s) {I : Addr} (x : Aside C B W env H I) {s' : Shared} (hb : ∀ b o, b ≠ I → s.heap.get? b = some o → s'.heap.get? b = some o) (hg : s'.gens = s.gens) (hos : s'.os = s.os) : Sf C B W env F H s' :=
  S.aside hb x.no x.k x.w x.l x.c hg hos
inductive NxN (C : Cx) (B : Heap) (W : Addr → Prop) (env : Env) (P : List (Str × V) → AH → Prop) (s : Shared) : Prop
  | mk (F : List (Str × V)) (H : AH) (S : Sf C B W env F H s) (h : P F H)
inductive OutN (C : Cx) (B : Heap) (W : Addr → Prop) (env : Env) (B' : Heap) (W' : Addr → Prop) (Q : Shared → Prop) (s : Shared) : Prop
  | mk (F : List (Str × V)) (H : AH) (S : Sf C B' W' env F H s) (h : ∀ s', Sf C B W env F H s' → Q s')
inductive WhN (C : Cx) (B : Heap) (W : Addr → Prop) (env : Env) (J : Nat → List (Str × V) → AH → Prop) (n : Nat) (s : Shared) : Prop
  | mk (m : Nat) (F : List (Str × V)) (H : AH) (lt : m < n) (S : Sf C B W env F H s) (h : J m F H)
noncomputable def ForQ (C : Cx) (B : Heap) (W : Addr → Prop) (B' : Heap) (W' : Addr → Prop) (env : Env) (P : List (Str × V) → AH → Prop) (Q : Flow → Shared → Prop) (f : Flow) (s : Shared) : Prop := match f with
  | .next => NxN C B' W' env P s
  | .cont => NxN C B' W' env P s
  | .brk => OutN C B W env B' W' (Q .next) s
  | .ret v => OutN C B W env B' W' (Q (.ret v)) s

theorem r_while {test : Expr} {body orelse : List Stmt} {pos : Pos} {Q : Flow → Shared → Prop} (J : Nat → List (Str × V) → AH → Prop) {n : Nat} (S : Sf C B W env F H s) (hJ : J n F H)
    (turn : ∀ n F' H' s' E', J n F' H' → Sf C B W env F' H' s' → wpAny (model C.prog C.w) A (isTrue test env (eval test env)) (fun b s₂ => ifQ b
      (wpAny (model C.prog C.w) A (execs body env) (fun f s₃ => match f with
        | .next => WhN C B W env J n s₃
        | .cont => WhN C B W env J n s₃
        | .brk => Q .next s₃
        | .ret v => Q (.ret v) s₃) E' s₂)
      (wpAny (model C.prog C.w) A (execs orelse env) Q E' s₂)) E' s') : wpAny (model C.prog C.w) A (exec (.While test body orelse pos) env) Q E s := by
  refine wpAny_While (codeAny_whileLoop (fun n s' => ∃ F' H', J n F' H' ∧ Sf C B W env F' H' s') (fun n s' ⟨F', H', hJ', S'⟩ => ?_) n ⟨F, H, hJ, S⟩)
  refine wpAny_mono (turn n F' H' s' _ hJ' S') (fun b s2 h2 => ?_) fun _ _ e => e
  cases b with
  | true =>
    refine wpAny_mono (h2.1 rfl) (fun f s3 h3 => ?_) fun _ _ e => e
    cases f with
    | next => obtain ⟨m, F3, H3, a, b, c⟩ := h3; exact ⟨m, a, F3, H3, c, b⟩
    | cont => obtain ⟨m, F3, H3, a, b, c⟩ := h3; exact ⟨m, a, F3, H3, c, b⟩
    | brk => exact h3
    | ret v => exact h3
  | false => exact wpAny_mono (h2.2 rfl) (fun f s3 h3 => h3) fun _ _ e => e
end
section -- R12
variable {C : Cx} {B : Heap} {W : Addr → Prop} {env : Env} {F : List (Str × V)} {H : AH} {s : Shared} {A : Around} {E : Value → Shared → Prop} {r1 r2 : Value}
noncomputable def turnOf (g : Comprehension) (inner : Sem Unit) (e : Expr) (d : Nat) (it acc : Value) (env : Env) : Sem Fin := do
  standAt g.iter.pos
  match ← pyNext it with
  | none => pure (.done .next)
  | some v =>
    letOwnedTupleGo g.target it v
    assign g.target env v
    let mut ok := true
    for c in g.ifs do
      if ok then ok ← isTrue c env (eval c env)
    if ok then inner
    again (.compLoop e d it acc env)
noncomputable def emitL (acc : Value) (elt : Expr) (env : Env) : Sem Unit := do let _ ← call (.builtin "list.append") [acc, ← eval elt env]
theorem ct1 (elt target iter ifs scope pos it acc env) : compTurn (.ListComp elt [⟨target, iter, ifs, 0⟩] scope pos) 0 it acc env = turnOf ⟨target, iter, ifs, 0⟩ (emitL acc elt env) (.ListComp elt [⟨target, iter, ifs, 0⟩] scope pos) 0 it acc env := by rfl
noncomputable def nestL (e : Expr) (iter : Expr) (acc : Value) (env : Env) : Sem Unit := do
  let x ← eval iter env
  standAt iter.pos
  let x ← foldedSetIterable iter env x
  let _ ← runOwn (.compStart e 1 (← holding [x] (pyIter x)) acc env) env
theorem ct20 (elt t1 i1 f1 t2 i2 f2 scope pos it acc env) : compTurn (.ListComp elt [⟨t1, i1, f1, 0⟩, ⟨t2, i2, f2, 0⟩] scope pos) 0 it acc env = turnOf ⟨t1, i1, f1, 0⟩ (nestL (.ListComp elt [⟨t1, i1, f1, 0⟩, ⟨t2, i2, f2, 0⟩] scope pos) i2 acc env) (.ListComp elt [⟨t1, i1, f1, 0⟩, ⟨t2, i2, f2, 0⟩] scope pos) 0 it acc env := by
  unfold turnOf nestL
  simp only [bind_assoc, pure_bind]
  rfl
theorem ct21 (elt t1 i1 f1 t2 i2 f2 scope pos it acc env) : compTurn (.ListComp elt [⟨t1, i1, f1, 0⟩, ⟨t2, i2, f2, 0⟩] scope pos) 1 it acc env = turnOf ⟨t2, i2, f2, 0⟩ (emitL acc elt env) (.ListComp elt [⟨t1, i1, f1, 0⟩, ⟨t2, i2, f2, 0⟩] scope pos) 1 it acc env := by rfl

noncomputable abbrev testsOf (ifs : List Expr) (env : Env) : Sem Bool := forIn ifs true fun c r => if r = true then do let ok ← isTrue c env (eval c env); pure (ForInStep.yield ok) else pure (ForInStep.yield r)

section
variable {prog : Program} {w : World} {R : Result → Shared → Prop}
theorem comp_loop {elt : Expr} {gens : List Comprehension} {scope : Scope} {pos : Pos} {g : Comprehension} {inner : Sem Unit} {d : Nat} {it acc : Value} (ht : compTurn (.ListComp elt gens scope pos) d it acc env = turnOf g inner (.ListComp elt gens scope pos) d it acc env) (I : Nat → Shared → Prop)
    (turn : ∀ n s, I n s → ∀ E', wpAny (model prog w) A (pyNext it) (fun r s₁ => match r with
      | none => R (.ok .next) s₁
      | some v => wpAny (model prog w) A (letOwnedTupleGo g.target it v) (fun _ s₁' => wpAny (model prog w) A (assign g.target env v) (fun _ s₂ =>
          wpAny (model prog w) A (testsOf g.ifs env) (fun ok s₃ => ifQ ok (wpAny (model prog w) A inner (fun _ s₅ => ∃ m, m < n ∧ I m s₅) E' s₃) (∃ m, m < n ∧ I m s₃)) E' s₂) E' s₁') E' s₁) E' s)
    (n : Nat) (h : I n s) : codeAny (model prog w) A (.compLoop (.ListComp elt gens scope pos) d it acc env) R s := by
  refine codeAny_loop rfl I (fun n s hI => ?_) n h
  show wpAny _ A ((compTurn (.ListComp elt gens scope pos) d it acc env).onRaise (fun x => do noteFrame x env; theTreesLotGoes x)) _ _ s
  refine wpAny_noted ?_
  rw [ht]
  refine wpAny_bind (wpAny_standAt (wpAny_bind (wpAny_mono (turn n s hI _) (fun r s₁ h₁ => ?_) fun _ _ h' => h')))
  cases r with
  | none => exact wpAny_pure h₁
  | some v =>
    refine wpAny_bind (wpAny_mono h₁ (fun _ s₂ h₂ => wpAny_bind (wpAny_mono h₂ (fun _ s₂' h₂' => wpAny_bind (wpAny_mono h₂' (fun ok s₃ h₃ => ?_) fun _ _ h' => h')) fun _ _ h' => h')) fun _ _ h' => h')
    cases ok with
    | false => exact wpAny_pure ⟨rfl, h₃.2 rfl⟩
    | true => exact wpAny_bind (wpAny_mono (h₃.1 rfl) (fun _ s₅ h₅ => wpAny_pure ⟨rfl, h₅⟩) fun _ _ h' => h')
theorem comp_start {elt : Expr} {gens : List Comprehension} {scope : Scope} {pos : Pos} {g : Comprehension} {d : Nat} {it acc : Value} (hg : gens[d]? = some g) (ha : g.is_async = 0)
    (h0 : codeAny (model prog w) A (.compLoop (.ListComp elt gens scope pos) d it acc env) R s)
    (h : ∀ E', wpAny (model prog w) A (pyIter it) (fun it' s' => codeAny (model prog w) A (.compLoop (.ListComp elt gens scope pos) d it' acc env) R s') E' s) :
    codeAny (model prog w) A (.compStart (.ListComp elt gens scope pos) d it acc env) R s := by
  refine codeAny_of_tree ?_
  show wpAny _ _ ((compStart (.ListComp elt gens scope pos) d it acc env).onRaise (fun x => do noteFrame x env; standAt theWindowsPlace)) _ _ s
  refine wpAny_notedAt ?_
  unfold compStart
  have e : (clausesOf (.ListComp elt gens scope pos))[d]? = some g := hg
  rw [e]
  have e2 : (some g).elim false (fun x => x.is_async != 0) = false := by show (g.is_async != 0) = false; rw [ha]; rfl
  rw [e2]
  simp only [Bool.false_eq_true, if_false]
  refine wpAny_bind (wpAny_askSetting (wpAny_ite ?_))
  split
  · first
      | exact wpAny_bind (wpAny_pure (wpAny_pure (And.intro rfl h0)))
      | exact wpAny_pure (And.intro rfl h0)
  · first
      | exact wpAny_bind (wpAny_rule (wpAny_bind (wpAny_standAt (wpAny_bind (wpAny_mono (h _) (fun it' s' h' => wpAny_pure (And.intro rfl h')) fun _ _ x => x)))))
end

noncomputable def Asg (C : Cx) (A : Around) (tgt : Expr) (env : Env) (v : V) (bnd : List (Str × V)) (H : AH) : Prop := ∀ {B : Heap} {W : Addr → Prop} {F : List (Str × V)} {s : Shared} {rv : Value} {Q : Unit → Shared → Prop} {E : Value → Shared → Prop}, V.R v rv → Sf C B W env F H s →
  (∀ s', Sf C B W env (bnd ++ F) H s' → Q () s') → wpAny (model C.prog C.w) A (assign tgt env rv) Q E s
noncomputable def stOk (sc : Scope) (x : Str) : Bool := match sc.names.lookup x with | some .local => true | some .cell => true | _ => false
theorem asg_name {sc : Scope} (G : Ev sc env) {x : Str} {px : Pos} {v : V} (hl : stOk sc x = true) : Asg C A (.Name x px) env v [(x, v)] H := fun hr S k =>
  wpAny_assign_Name (r_store G S hl hr fun s' S' => k s' S')
theorem asg_pair {sc : Scope} (G : Ev sc env) (hh : A.handled = none) {x y : Str} {px py pos : Pos} {kd} {T : Addr} {a b : V} (hl : stOk sc x = true) (hl2 : stOk sc y = true) (hT : H T = some (.tup [a, b])) :
    Asg C A (.Tuple [.Name x px, .Name y py] kd pos) env (.ref T) [(y, b), (x, a)] H := fun {B W F s rv Q E} hr S k => by
  obtain rfl := hr
  obtain ⟨vs, n, x1, y1⟩ := S.isTup hT
  have e2 : vs.size = 2 := by rw [A2.size y1]; rfl
  refine wpAny_assign_Tuple hh ⟨_, x1, rfl, _, rfl⟩ (by rw [e2]; rfl) rfl fun h' he => ?_
  have S' : Sf C B W env F H { s with heap := h' } := S.keep (fun b o e => he b o (Nat.ne_of_lt (Heap.lt_size e)) e) rfl rfl
  revert y1
  generalize vs.toList = l
  intro y1
  cases y1 with
  | cons z1 y1 =>
    cases y1 with
    | cons z2 y1 =>
      cases y1
      refine assignInOrder_cons (wpAny_assign_Name (r_store G S' hl z1 fun s2 S2 => ?_))
      exact assignInOrder_cons (wpAny_assign_Name (r_store G S2 hl2 z2 fun s3 S3 => assignInOrder_nil (k _ S3)))
noncomputable def GoOk (tgt : Expr) (v : V) : Prop := (∃ x p, tgt = .Name x p) ∨ ∃ elts kd p T, tgt = .Tuple elts kd p ∧ v = .ref T

inductive CwN (C : Cx) (B : Heap) (W : Addr → Prop) (env : Env) (F : List (Str × V)) (D : Addr) (J : List V → AH → Prop) (s : Shared) : Prop
  | mk (acc : List V) (H : AH) (S : Sf C B W env F H s) (hd : H D = some (.list acc)) (h : J acc H)
inductive CwK (C : Cx) (B : Heap) (W : Addr → Prop) (env : Env) (F : List (Str × V)) (D : Addr) (acc : List V) (J : List V → AH → Prop) (s : Shared) : Prop
  | mk (H : AH) (S : Sf C B W env F H s) (hd : H D = some (.list acc)) (h : J acc H)
inductive CwE (C : Cx) (B : Heap) (W : Addr → Prop) (env : Env) (F : List (Str × V)) (D : Addr) (acc : List V) (J : List V → AH → Prop) (rv : Value) (s : Shared) : Prop
  | mk (u : V) (H : AH) (S : Sf C B W env F H s) (hr : V.R u rv) (hd : H D = some (.list acc)) (hz : acc.length ≤ 1000) (h : J (acc ++ [u]) (H.set D (.list (acc ++ [u]))))
inductive CwT (C : Cx) (B : Heap) (W : Addr → Prop) (env : Env) (F : List (Str × V)) (A : Around) (D : Addr) (tgt : Expr) (ifs : List Expr) (inner : Sem Unit) (J : Nat → List V → AH → Prop) (i : Nat) (v : V) (acc : List V) (H' : AH) (B' : Heap) (W' : Addr → Prop) (E' : Value → Shared → Prop) : Prop
  | mk (h1 : GoOk tgt v) (bnd : List (Str × V)) (h2 : ∀ q ∈ bnd, F.lookup q.1 = none) (h3 : Asg C A tgt env v bnd H') (h4 : ∀ s', Sf C B' W' env (bnd ++ F) H' s' →
      wpAny (model C.prog C.w) A (testsOf ifs env) (fun ok s₃ => ifQ ok (wpAny (model C.prog C.w) A inner (fun _ s₄ => CwN C B' W' env (bnd ++ F) D (J (i + 1)) s₄) E' s₃) (CwK C B' W' env (bnd ++ F) D acc (J (i + 1)) s₃)) E' s')
inductive CwI (C : Cx) (B : Heap) (W : Addr → Prop) (env : Env) (F : List (Str × V)) (D I : Addr) (n : Nat) (J : Nat → List V → AH → Prop) (ob : Nat → Obj → Prop) (k : Nat) (s : Shared) : Prop
  | mk (i : Nat) (acc : List V) (H : AH) (o : Obj) (hk : k = n - i) (hi : i ≤ n) (hJ : J i acc H) (hd : H D = some (.list acc)) (S : Sf C B W env F H s) (hI : Aside C B W env H I) (ho : s.heap.get? I = some o) (hob : ob i o)
theorem comp_walk {elt : Expr} {gens : List Comprehension} {scope : Scope} {pos : Pos} {g : Comprehension} {inner : Sem Unit} {d : Nat} {I D : Addr} {R : Result → Shared → Prop} {L : List V} {ob : Nat → Obj → Prop} {src : AH → Prop}
    (ht : compTurn (.ListComp elt gens scope pos) d (.ref I) (.ref D) env = turnOf g inner (.ListComp elt gens scope pos) d (.ref I) (.ref D) env)
    (It : Itr C A I L ob src) (J : Nat → List V → AH → Prop) {acc0 : List V} {o : Obj} (S : Sf C B W env F H s) (hI : Aside C B W env H I) (ho : s.heap.get? I = some o) (hob : ob 0 o) (hD : H D = some (.list acc0)) (hJ : J 0 acc0 H)
    (hsrc : ∀ i acc H, J i acc H → src H)
    (turn : ∀ i v acc H' B' W' E', L[i]? = some v → J i acc H' → H' D = some (.list acc) → CwT C B W env F A D g.target g.ifs inner J i v acc H' B' W' E')
    (done : ∀ acc H' s', J L.length acc H' → H' D = some (.list acc) → Sf C B W env F H' s' → R (.ok .next) s') :
    codeAny (model C.prog C.w) A (.compLoop (.ListComp elt gens scope pos) d (.ref I) (.ref D) env) R s := by
  refine comp_loop ht (fun k s' => CwI C B W env F D I L.length J ob k s') ?_ (L.length - 0) ⟨0, acc0, H, o, rfl, Nat.zero_le _, hJ, hD, S, hI, ho, hob⟩
  rintro k s' ⟨i, acc, H', o', rfl, hi, hJ, hD', S', A', hI', hob'⟩ E'
  by_cases hlt : i < L.length
  · refine It.item S' (hsrc _ _ _ hJ) hI' hob' (List.getElem?_eq_getElem hlt) fun rv h' o'' tk hr hI2 hob2 hk2 => ?_
    have S3 := S'.by A' (s' := { s' with heap := h', toks := tk }) hk2 rfl rfl
    dsimp only
    obtain ⟨hgo, bnd, hbn, asg, hb⟩ := turn i _ acc H' h' (Wn H' env) E' (List.getElem?_eq_getElem hlt) hJ hD'
    have less : ∀ {H5 s5}, Sf C h' (Wn H' env) env (bnd ++ F) H5 s5 → Sf C h' (Wn H' env) env F H5 s5 := fun S5 => S5.less fun x v e => by
      rw [List.lookup_append]
      have : bnd.lookup x = none := by
        cases q : bnd.lookup x with
        | none => rfl
        | some u =>
          have := hbn _ (mem_of_lookup q)
          rw [e] at this; cases this
      rw [this]; exact e
    have fin : ∀ {acc5 H5 s5}, Sf C h' (Wn H' env) env (bnd ++ F) H5 s5 → H5 D = some (.list acc5) → J (i + 1) acc5 H5 → ∃ m, m < L.length - i ∧ CwI C B W env F D I L.length J ob m s5 := fun S5 h5 j5 => by
      obtain ⟨a5, b5⟩ := A'.over hI2 (It.nd hob2) (less S5)
      exact ⟨L.length - (i + 1), by omega, i + 1, _, _, o'', rfl, hlt, j5, h5, S3.unsnap (fun a h => .inl h) S3.kept (less S5), a5, b5, hob2⟩
    have main : wpAny (model C.prog C.w) A (assign g.target env rv) (fun _ s₂ => wpAny (model C.prog C.w) A (testsOf g.ifs env) (fun ok s₃ => ifQ ok (wpAny (model C.prog C.w) A inner (fun _ s₅ => ∃ m, m < L.length - i ∧ CwI C B W env F D I L.length J ob m s₅) E' s₃)
        (∃ m, m < L.length - i ∧ CwI C B W env F D I L.length J ob m s₃)) E' s₂) E' { s' with heap := h', toks := tk } := by
      refine asg hr S3.snap fun s4 S4 => wpAny_mono (hb s4 S4) (fun ok s5 h5 => ⟨fun q => ?_, fun q => ?_⟩) fun _ _ e => e
      · exact wpAny_mono (h5.1 q) (fun _ s6 ⟨acc6, H6, S6, d6, j6⟩ => fin S6 d6 j6) fun _ _ e => e
      · obtain ⟨H6, S6, d6, j6⟩ := h5.2 q
        exact fin S6 d6 j6
    rcases hgo with ⟨x, p, e⟩ | ⟨elts, kd, p, T, e, e'⟩
    · rw [e]; rw [e] at main
      exact wpAny_of_eq (by rfl : letOwnedTupleGo (.Name x p) (.ref I) rv = pure ()) main
    · rw [e]; rw [e] at main
      rw [e'] at hr
      obtain rfl := hr
      exact It.go hI2 hob2 main
  · have he : i = L.length := by omega
    subst he
    refine It.done S' (hsrc _ _ _ hJ) hI' hob' fun h' tk hk2 => ?_
    have S3 := S'.by A' (s' := { s' with heap := h', toks := tk }) hk2 rfl rfl
    exact done _ _ _ hJ hD' S3
inductive EmN (C : Cx) (B : Heap) (W : Addr → Prop) (env : Env) (D : Addr) (Q : Unit → Shared → Prop) (rv : Value) (s : Shared) : Prop
  | mk (u : V) (F : List (Str × V)) (H : AH) (acc : List V) (S : Sf C B W env F H s) (hr : V.R u rv) (hd : H D = some (.list acc)) (hz : acc.length ≤ 1000) (k : ∀ s'', Sf C B W env F (H.set D (.list (acc ++ [u]))) s'' → Q () s'')
theorem emit_list {elt : Expr} {D : Addr} {Q : Unit → Shared → Prop} (h : wpAny (model C.prog C.w) A (eval elt env) (fun rv s' => EmN C B W env D Q rv s') E s) :
    wpAny (model C.prog C.w) A (emitL (.ref D) elt env) Q E s := by
  refine wpAny_bind (wpAny_mono h (fun rv s' ⟨u, F', H', acc, S', hr, hD, hz, k⟩ => ?_) fun _ _ e => e)
  exact wpAny_bind (m_append S' hD hz hr fun s'' S'' => wpAny_pure (k _ S''))
end
section -- R13
variable {C : Cx} {B : Heap} {W : Addr → Prop} {env : Env} {F : List (Str × V)} {H : AH} {s : Shared} {A : Around} {E : Value → Shared → Prop} {r1 r2 : Value}
theorem cellsFrom_app : ∀ (names : List (Str × NameKind)) (n : Nat) (acc : List (Str × Addr)), cellsFrom n names acc = cellsFrom n names [] ++ acc
  | [], n, acc => rfl
  | (nm, kd) :: r, n, acc => by
    unfold cellsFrom
    split
    · rw [cellsFrom_app r (n + 1) ((nm, n) :: acc), cellsFrom_app r (n + 1) [(nm, n)]]; simp
    · exact cellsFrom_app r n acc
theorem cellsFrom_mem : ∀ (names : List (Str × NameKind)) (n : Nat) (acc : List (Str × Addr)) (x : Str) (c : Addr), (x, c) ∈ cellsFrom n names acc → (x, c) ∈ acc ∨ (x, NameKind.cell) ∈ names
  | [], n, acc, x, c, h => .inl h
  | (nm, kd) :: r, n, acc, x, c, h => by
    unfold cellsFrom at h
    split at h
    · rename_i q
      rcases cellsFrom_mem r _ _ x c h with h | h
      · rcases List.mem_cons.mp h with h | h
        · cases h
          right
          have : kd = .cell := by simpa using q
          rw [this]; exact List.mem_cons_self
        · exact .inl h
      · exact .inr (List.mem_cons_of_mem _ h)
    · rcases cellsFrom_mem r _ _ x c h with h | h
      · exact .inl h
      · exact .inr (List.mem_cons_of_mem _ h)
noncomputable def frOk (outer inner : Scope) : Bool := inner.kind == .function && inner.names.all fun q => (match q.2 with
  | .free => (match outer.names.lookup q.1 with | some .cell => true | some .free => true | _ => false)
  | .cell => inner.names.lookup q.1 == some .cell
  | .local => inner.names.lookup q.1 == some .local
  | _ => true)
theorem closure_ok {sc : Scope} (G : Ev sc env) {inner : Scope} (h : ∀ q ∈ inner.names, q.2 = .free → (sc.names.lookup q.1 = some .cell ∨ sc.names.lookup q.1 = some .free)) :
    ∃ cl, closureFor inner env = pure cl ∧ (∀ x c, cl.lookup x = some c → env.cells.lookup x = some c) ∧ ∀ x, inner.names.lookup x = some .free → cl.lookup x = env.cells.lookup x := by
  have key : ∀ (names : List (Str × NameKind)) (acc : List (Str × Addr)), (∀ q ∈ names, q.2 = .free → (sc.names.lookup q.1 = some .cell ∨ sc.names.lookup q.1 = some .free)) → (∀ x c, acc.lookup x = some c → env.cells.lookup x = some c) →
      ∃ cl, (forIn names acc fun (x : Str × NameKind) (r : List (Str × Addr)) => (match x with
        | (name, kind) => if (kind == NameKind.free) = true then do let y ← cellOf env name; pure (ForInStep.yield ((name, y) :: r)) else pure (ForInStep.yield r) : Sem _)) = pure cl ∧ (∀ x c, cl.lookup x = some c → env.cells.lookup x = some c) ∧
        (∀ x, (acc.lookup x).isSome = true ∨ names.lookup x = some .free → cl.lookup x = env.cells.lookup x) := by
    intro names
    induction names with
    | nil =>
      intro acc _ ha
      refine ⟨acc, by rw [List.forIn_nil], ha, fun x hx => ?_⟩
      rcases hx with hx | hx
      · obtain ⟨c, hc⟩ := Option.isSome_iff_exists.mp hx
        rw [hc, ha x c hc]
      · cases hx
    | cons q r ih =>
      intro acc hq ha
      obtain ⟨nm, kd⟩ := q
      rw [List.forIn_cons]
      by_cases hk : kd = .free
      · subst hk
        have hc : ∃ c, env.cells.lookup nm = some c := by
          rcases hq _ List.mem_cons_self rfl with z | z
          · obtain ⟨c, hc, _⟩ := G.own nm z; exact ⟨c, hc⟩
          · exact G.has nm z
        obtain ⟨c, hc⟩ := hc
        have ha' : ∀ x c', ((nm, c) :: acc).lookup x = some c' → env.cells.lookup x = some c' := fun x c' e => by
          rw [lookup_cons_eq] at e
          by_cases z : x = nm
          · rw [if_pos z] at e; cases e; rw [z]; exact hc
          · rw [if_neg z] at e; exact ha x c' e
        obtain ⟨cl, h1, h2, h3⟩ := ih ((nm, c) :: acc) (fun q hm => hq q (List.mem_cons_of_mem _ hm)) ha'
        refine ⟨cl, ?_, h2, fun x hx => h3 x ?_⟩
        · unfold cellOf
          simp only [hc, beq_self_eq_true, if_true, pure_bind]
          exact h1
        · rw [lookup_cons_eq] at hx
          rw [lookup_cons_eq]
          by_cases z : x = nm
          · left; rw [if_pos z]; rfl
          · rw [if_neg z] at hx ⊢; exact hx
      · obtain ⟨cl, h1, h2, h3⟩ := ih acc (fun q hm => hq q (List.mem_cons_of_mem _ hm)) ha
        refine ⟨cl, ?_, h2, fun x hx => h3 x ?_⟩
        · have : (kd == NameKind.free) = false := by simpa using hk
          simp only [this, Bool.false_eq_true, if_false, pure_bind]
          exact h1
        · rw [lookup_cons_eq] at hx
          by_cases z : x = nm
          · rw [if_pos z] at hx
            rcases hx with hx | hx
            · exact .inl hx
            · cases hx; exact absurd rfl hk
          · rw [if_neg z] at hx; exact hx
  obtain ⟨cl, h1, h2, h3⟩ := key inner.names [] h (fun x c e => by cases e)
  refine ⟨cl, ?_, h2, fun x hx => h3 x (.inr hx)⟩
  unfold closureFor
  exact (congrArg (fun m => m >>= fun s => (pure s : Sem (List (Str × Addr)))) h1).trans (by simp only [pure_bind])

theorem relabel_names (scope : Scope) (env : Env) (x : Str) : (relabel scope env).names.lookup x = (scope.names.lookup x).map fun k => if (k == NameKind.free && env.scope.kind == .function && env.kindOf x == some .cell) then NameKind.cell else k := by
  unfold relabel
  dsimp only
  generalize scope.names = l
  induction l with
  | nil => rfl
  | cons q r ih =>
    obtain ⟨n, k⟩ := q
    rw [List.map_cons]
    by_cases z : x = n
    · subst z
      by_cases h : (k == NameKind.free && env.scope.kind == .function && env.kindOf x == some .cell) = true
      · dsimp only
        rw [if_pos h, lookup_cons_eq, lookup_cons_eq, if_pos rfl, if_pos rfl, Option.map_some, if_pos h]
      · dsimp only
        rw [if_neg h, lookup_cons_eq, lookup_cons_eq, if_pos rfl, if_pos rfl, Option.map_some, if_neg h]
    · dsimp only
      by_cases h : (k == NameKind.free && env.scope.kind == .function && env.kindOf n == some .cell) = true
      · rw [if_pos h, lookup_cons_eq, lookup_cons_eq, if_neg z, if_neg z]; exact ih
      · rw [if_neg h, lookup_cons_eq, lookup_cons_eq, if_neg z, if_neg z]; exact ih

noncomputable def inF (inner : Scope) (F : List (Str × V)) : List (Str × V) := F.filter fun p => inner.names.lookup p.1 == some .free
theorem inF_lookup {inner : Scope} : ∀ {F : List (Str × V)} {x : Str} {v : V}, (inF inner F).lookup x = some v → F.lookup x = some v ∧ inner.names.lookup x = some .free
  | [], x, v, h => by cases h
  | (n, u) :: r, x, v, h => by
    unfold inF at h
    rw [List.filter_cons] at h
    rw [lookup_cons_eq]
    by_cases z : x = n
    · subst z
      rw [if_pos rfl]
      split at h
      · rename_i q
        rw [lookup_cons_eq, if_pos rfl] at h
        exact ⟨h, by simpa using q⟩
      · rename_i q
        have := (inF_lookup (F := r) h).2
        exact absurd (by simpa using this) q
    · rw [if_neg z]
      split at h
      · rw [lookup_cons_eq, if_neg z] at h
        exact inF_lookup (F := r) h
      · exact inF_lookup (F := r) h

theorem frOk.all {outer inner : Scope} (h : frOk outer inner = true) : inner.kind = .function ∧ ∀ q ∈ inner.names, (q.2 = .free → (outer.names.lookup q.1 = some .cell ∨ outer.names.lookup q.1 = some .free)) ∧ (q.2 = .cell → inner.names.lookup q.1 = some .cell) ∧ (q.2 = .local → inner.names.lookup q.1 = some .local) := by
  unfold frOk at h
  rw [Bool.and_eq_true] at h
  refine ⟨by simpa using h.1, fun q hq => ?_⟩
  have := List.all_eq_true.mp h.2 q hq
  obtain ⟨n, k⟩ := q
  dsimp only at this ⊢
  refine ⟨fun e => ?_, fun e => ?_, fun e => ?_⟩
  · subst e
    dsimp only at this
    split at this
    · exact .inl (by assumption)
    · exact .inr (by assumption)
    · cases this
  · subst e; simpa using this
  · subst e; simpa using this

theorem Sf.enterComp {sc : Scope} (G : Ev sc env) (S : Sf C B W env F H s) {inner : Scope} (hfr : frOk sc inner = true) {H3 : AH} {s3 : Shared} (S3 : Sf C B W env F H3 s3) (hk : ∀ b o, s.heap.get? b = some o → s3.heap.get? b = some o) (hown : ∀ a, H3 a ≠ none → H a ≠ none ∨ s.heap.get? a = none)
    {cl : List (Str × Addr)} (hcl1 : ∀ x c, cl.lookup x = some c → env.cells.lookup x = some c) (hcl2 : ∀ x, inner.names.lookup x = some .free → cl.lookup x = env.cells.lookup x) (cenv : Env)
    (e1 : cenv.scope = relabel inner env) (e2 : cenv.locals = s3.heap.objs.size) (e3 : cenv.globals = env.globals) (e4 : cenv.cells = cellsFrom (s3.heap.objs.size + 1) inner.names cl) (e5 : cenv.builtins = env.builtins) (t : Nat) :
    Ev inner cenv ∧ Sf C s.heap (dom H) cenv (inF inner F) H3 { s3 with heap := pushCells (s3.heap.push { cls := .type "dict", data := .dict #[] }) inner.names, toks := t } := by
  obtain ⟨hkind, hall⟩ := frOk.all hfr
  have hko : ∀ y, cenv.kindOf y = (inner.names.lookup y).map fun k => if (k == NameKind.free && env.scope.kind == .function && env.kindOf y == some .cell) then NameKind.cell else k := fun y => by
    unfold Env.kindOf; rw [e1]; exact relabel_names inner env y
  have kk : ∀ b o, s3.heap.get? b = some o → (pushCells (s3.heap.push { cls := .type "dict", data := .dict #[] }) inner.names).get? b = some o := fun b o e => pushCells_keeps _ _ b o (Heap.get?_push_of_some _ e)
  have S4 : Sf C B W env F H3 { s3 with heap := pushCells (s3.heap.push { cls := .type "dict", data := .dict #[] }) inner.names, toks := t } := S3.keep kk rfl rfl
  have big : ∀ {a : Addr}, s3.heap.objs.size ≤ a → s3.heap.get? a = none := fun {a} h => by
    cases e : s3.heap.get? a with
    | none => rfl
    | some o => exact absurd (Heap.lt_size e) (Nat.not_lt.mpr h)
  have free : ∀ {a : Addr}, s3.heap.objs.size ≤ a → H3 a = none ∧ C.K.lookup a = none ∧ s.heap.get? a = none := fun {a} h => by
    obtain ⟨f1, f2, _⟩ := S3.fresh (big h)
    refine ⟨f1, f2, ?_⟩
    cases e : s.heap.get? a with
    | none => rfl
    | some o => have := hk a o e; rw [big h] at this; cases this
  have ok := cellsFrom_ok inner.names (s3.heap.push { cls := .type "dict", data := .dict #[] }) (s3.heap.objs.size + 1) [] ⟨fun _ _ hm => (nomatch hm), List.Pairwise.nil⟩ (by rw [Heap.size_push]; exact Nat.le_refl _)
  rw [Heap.size_push] at ok
  have e4' : cenv.cells = cellsFrom (s3.heap.objs.size + 1) inner.names [] ++ cl := e4.trans (cellsFrom_app _ _ _)
  have lk : ∀ x c, cenv.cells.lookup x = some c → ((cellsFrom (s3.heap.objs.size + 1) inner.names []).lookup x = some c ∧ s3.heap.objs.size < c) ∨ (env.cells.lookup x = some c ∧ c < s3.heap.objs.size) := fun x c e => by
    rw [e4', List.lookup_append] at e
    cases q : (cellsFrom (s3.heap.objs.size + 1) inner.names []).lookup x with
    | some c' =>
      rw [q] at e; cases e
      left
      refine ⟨rfl, ?_⟩
      rcases cellsFrom_ge _ _ _ _ _ q with z | z
      · cases z
      · exact z
    | none =>
      rw [q] at e
      have z : env.cells.lookup x = some c := hcl1 x c e
      refine .inr ⟨z, ?_⟩
      have := (S3.nc x c z).2.2
      cases q2 : s3.heap.get? c with
      | none => exact absurd q2 this
      | some o => exact Heap.lt_size q2
  have nocell : ∀ x, inner.names.lookup x = some .free → (cellsFrom (s3.heap.objs.size + 1) inner.names []).lookup x = none := fun x hx => by
    cases q : (cellsFrom (s3.heap.objs.size + 1) inner.names []).lookup x with
    | none => rfl
    | some c =>
      rcases cellsFrom_mem _ _ _ _ _ (mem_of_lookup q) with z | z
      · cases z
      · have := (hall _ z).2.1 rfl
        rw [hx] at this; cases this
  have frc : ∀ x, inner.names.lookup x = some .free → cenv.cells.lookup x = env.cells.lookup x := fun x hx => by
    rw [e4', List.lookup_append, nocell x hx]
    exact hcl2 x hx
  refine ⟨⟨fun x k e hne => ?_, fun x e => ?_, fun x e => ?_, fun x e => ?_⟩, S4.k, S4.lim, S4.gens, S4.os, S4.rel, fun b o e _ => .inl (kk b o (hk b o e)), hown, S3.apart, S.stat, ?_, ?_, ?_, ?_, ?_, ?_, ?_, ?_, S3.sysm, ?_⟩
  · rw [hko, e, Option.map_some]
    have : (k == NameKind.free) = false := by simpa using hne
    simp [this]
  · rw [hko, e, Option.map_some]
    split
    · exact .inr rfl
    · exact .inl rfl
  · have hso := cellsFrom_has inner.names (s3.heap.objs.size + 1) [] x (.inr e)
    obtain ⟨c, hcc⟩ := Option.isSome_iff_exists.mp hso
    refine ⟨c, by rw [e4', List.lookup_append, hcc]; rfl, ?_⟩
    rw [e2]
    rcases cellsFrom_ge _ _ _ _ _ hcc with z | z
    · cases z
    · exact z
  · rw [frc x e]
    rcases (hall _ (mem_of_lookup e)).1 rfl with z | z
    · obtain ⟨c, hc, _⟩ := G.own x z; exact ⟨c, hc⟩
    · exact G.has x z
  · rw [e1]; exact hkind
  · rw [e3]; exact S.glob
  · rw [e5]; exact S.blt
  · refine ⟨fun _ => none, ?_, fun x v e hloc => ?_⟩
    · rw [e2]; exact (Heap.Ns.new s3.heap (.type "dict")).keeps (pushCells_keeps _ _)
    · have := (inF_lookup e).2
      rw [hko, this, Option.map_some] at hloc
      split at hloc
      · cases hloc
      · cases hloc
  · intro x v e
    obtain ⟨eF, eN⟩ := inF_lookup e
    right
    have hcf := (hall _ (mem_of_lookup eN)).1 rfl
    rcases S4.cl x v eF with z | ⟨z, c, rv, h1, h2, h3⟩
    · rcases hcf with q | q
      · rw [G.kin x _ q (by decide)] at z; cases z
      · rcases G.fr x q with y | y <;> (rw [y] at z; cases z)
    · refine ⟨?_, c, rv, by rw [frc x eN]; exact h1, h2, h3⟩
      rw [hko, eN, Option.map_some]
      rcases z with z | ⟨z, z'⟩
      · left; rw [S.kind, z]; rfl
      · right
        refine ⟨?_, z'⟩
        rw [z]; simp
  · intro x c e l
    rw [e2] at l
    rcases lk x c e with ⟨z, _⟩ | ⟨_, z⟩
    · refine ⟨⟨none, (ok.empty x c (mem_of_lookup z)).1⟩, (free (Nat.le_of_lt l)).2.1, .inr (free (Nat.le_of_lt l)).2.2, fun y c' e' hy q => ?_⟩
      subst q
      rcases lk y c' e' with ⟨z', _⟩ | ⟨_, z'⟩
      · exact hy (name_of_addr ok.apart (mem_of_lookup z') (mem_of_lookup z))
      · exact absurd l (Nat.lt_asymm z')
    · exact absurd l (Nat.lt_asymm z)
  · rw [e2]
    have := free (Nat.le_refl s3.heap.objs.size)
    exact ⟨this.1, this.2.1, .inr this.2.2⟩
  · intro x c e
    rw [e2]
    rcases lk x c e with ⟨z, l⟩ | ⟨z, l⟩
    · refine ⟨(free (Nat.le_of_lt l)).1, Nat.ne_of_gt l, ?_⟩
      obtain ⟨o, ho, _⟩ := (ok.empty x c (mem_of_lookup z)).1
      show (pushCells (s3.heap.push { cls := .type "dict", data := .dict #[] }) inner.names).get? c ≠ none
      rw [ho]; simp
    · refine ⟨(S3.nc x c z).1, Nat.ne_of_lt l, ?_⟩
      cases q : s3.heap.get? c with
      | none => exact absurd q (S3.nc x c z).2.2
      | some o =>
        show (pushCells (s3.heap.push { cls := .type "dict", data := .dict #[] }) inner.names).get? c ≠ none
        rw [kk c o q]; simp
  · rw [e2]
    obtain ⟨m, ⟨o, es, ep, h1, _⟩, _⟩ := S3.ns
    exact Nat.le_trans S3.big (Nat.le_of_lt (Heap.lt_size h1))
end
section -- R14
variable {C : Cx} {B : Heap} {W : Addr → Prop} {env : Env} {F : List (Str × V)} {H : AH} {s : Shared} {A : Around} {E : Value → Shared → Prop} {r1 r2 : Value}
theorem nfe_comp {M : Model} {scope : Scope} {cl : List (Str × Addr)} {Q : Env → Shared → Prop}
    (h : Q (newEnv scope s.heap.objs.size env.globals (cellsFrom (s.heap.objs.size + 1) scope.names cl) env.qual none .none (some env) builtinsNs) { s with heap := pushCells (s.heap.push { cls := .type "dict", data := .dict #[] }) scope.names }) :
    wpAny M A (newFunctionEnv scope env.globals cl [] env.qual none .none (some env)) Q E s := by
  simp only [newFunctionEnv, Option.isSome_some, if_true]
  refine wpAny_bind (wpAny_alloc ?_)
  refine wpAny_bind (wpAny_layCells _ (fun name kind cells => by cases hkc : kind == NameKind.cell <;> simp [hkc]) _ _ _ _ ?_)
  rw [show ({ s with heap := s.heap.push { cls := .type "dict", data := .dict #[] } } : Shared).heap.objs.size = s.heap.objs.size + 1 from Heap.size_push ..]
  refine wpAny_bind ?_
  rw [List.forIn_nil]
  exact wpAny_pure (wpAny_pure h)

theorem comp_core {sc : Scope} (G : Ev sc env) {elt : Expr} {scope : Scope} {pos : Pos} {g : Comprehension} {gs : List Comprehension} {v : Value} (hfr : frOk sc scope = true) (ha : g.is_async = 0)
    {cl : List (Str × Addr)} (hcl1 : ∀ x c, cl.lookup x = some c → env.cells.lookup x = some c) (hcl2 : ∀ x, scope.names.lookup x = some .free → cl.lookup x = env.cells.lookup x)
    {L : List V} {src : AH → Prop} (S : Sf C B W env F H s) (it : Iters C A s v L src) {P : Addr → AH → Prop}
    (loop : ∀ I ob o D cenv s4 R, Itr C A I L ob src → H D = none → Ev scope cenv → Sf C s.heap (dom H) cenv (inF scope F) (H.set D (.list [])) s4 → Aside C s.heap (dom H) cenv (H.set D (.list [])) I → s4.heap.get? I = some o → ob 0 o →
      (∀ F5 H5 s5, Sf C s.heap (dom H) cenv F5 H5 s5 → P D H5 → R (.ok .next) s5) → codeAny (model C.prog C.w) A (.compLoop (.ListComp elt (g :: gs) scope pos) 0 (.ref I) (.ref D) cenv) R s4)
    {RR : Value → Addr → Result → Shared → Prop} (fin : ∀ D L' m H5 s5, H D = none → P D H5 → Sf C B W env F H5 s5 → s5.heap.Ns L' m → Aside C B W env H5 L' → RR (.ref D) L' (.ok .next) s5) :
    wpAny (model C.prog C.w) A (pyIter v) (fun it s₂ => wpAny (model C.prog C.w) A (newList []) (fun acc s₃ => wpAny (model C.prog C.w) A (newFunctionEnv scope env.globals cl [] env.qual none .none (some env)) (fun cenv s₄ =>
      codeAny (model C.prog C.w) A (.compStart (.ListComp elt (g :: gs) scope pos) 0 it acc { cenv with scope := relabel scope env }) (RR acc cenv.locals) s₄) E s₃) E s₂) E s := by
  refine it _ _ fun I ob o s2 It hn hk hI hob hg hos => ?_
  have S2 := S.keep hk hg hos
  refine wpAny_newObj_type ?_
  have hDn : s.heap.get? s2.heap.objs.size = none := by
    cases e : s.heap.get? s2.heap.objs.size with
    | none => rfl
    | some x => exact absurd (Heap.lt_size (hk _ _ e)) (Nat.lt_irrefl _)
  have z := S2.newList (l := []) (vs := ([] : List Value).toArray) .nil s2.toks
  generalize hs3 : ({ s2 with heap := s2.heap.push { cls := .type "list", dict := none, data := .seq ([] : List Value).toArray } } : Shared) = s3
  have S3 : Sf C B W env F (H.set s2.heap.objs.size (.list [])) s3 := hs3 ▸ z.2
  have k3 : ∀ b o, s2.heap.get? b = some o → s3.heap.get? b = some o := fun b o e => hs3 ▸ Heap.get?_push_of_some _ e
  refine nfe_comp ?_
  have hI3 := k3 _ _ hI
  have hID : I ≠ s2.heap.objs.size := Nat.ne_of_lt (Heap.lt_size hI)
  obtain ⟨Ec, S4⟩ := S.enterComp G hfr S3 (fun b o e => k3 _ _ (hk _ _ e)) (fun a h => by
    by_cases q : a = s2.heap.objs.size
    · right; rw [q]; exact hDn
    · left; rwa [AH.set_ne _ _ q] at h) hcl1 hcl2 (compEnvC scope (cellsFrom (s3.heap.objs.size + 1) scope.names cl) s3.heap.objs.size env) rfl rfl rfl rfl rfl s3.toks
  have hLn : s.heap.get? s3.heap.objs.size = none := by
    cases e : s.heap.get? s3.heap.objs.size with
    | none => rfl
    | some x => exact absurd (Heap.lt_size (k3 _ _ (hk _ _ e))) (Nat.lt_irrefl _)
  have aI := S.asideOf hn
  have aL := S.asideOf hLn
  have kI : (pushCells (s3.heap.push { cls := .type "dict", data := .dict #[] }) scope.names).get? I = some o := pushCells_keeps _ _ _ _ (Heap.get?_push_of_some _ hI3)
  have lt3 : I < s3.heap.objs.size := Heap.lt_size hI3
  have key : ∀ s4, Sf C s.heap (dom H) (compEnvC scope (cellsFrom (s3.heap.objs.size + 1) scope.names cl) s3.heap.objs.size env) (inF scope F) (H.set s2.heap.objs.size (.list [])) s4 → s4.heap.get? I = some o →
      codeAny (model C.prog C.w) A (.compLoop (.ListComp elt (g :: gs) scope pos) 0 (.ref I) (.ref s2.heap.objs.size) (compEnvC scope (cellsFrom (s3.heap.objs.size + 1) scope.names cl) s3.heap.objs.size env)) (RR (.ref s2.heap.objs.size) s3.heap.objs.size) s4 := fun s4 S4 hI4 => by
    refine loop I ob o _ _ s4 _ It z.1 Ec S4 ⟨?_, aI.k, .inr hn, ?_, ?_⟩ hI4 hob fun F5 H5 s5 S5 hp => ?_
    · rw [AH.set_ne _ _ hID]; exact aI.no
    · exact Nat.ne_of_lt lt3
    · intro x c e q
      subst q
      rw [show (compEnvC scope (cellsFrom (s3.heap.objs.size + 1) scope.names cl) s3.heap.objs.size env).cells = cellsFrom (s3.heap.objs.size + 1) scope.names cl from rfl] at e
      rcases cellsFrom_ge _ _ _ _ _ e with z' | z'
      · exact aI.c x _ (hcl1 _ _ z') rfl
      · exact absurd lt3 (Nat.not_lt.mpr (Nat.le_of_succ_le z'))
    · have Sb := S.back S5
      obtain ⟨m, hm, _⟩ := S5.ns
      exact fin _ _ m H5 s5 z.1 hp Sb hm ⟨S5.na.1, aL.k, aL.w, aL.l, aL.c⟩
  refine comp_start (g := g) rfl ha (key _ S4 kI) fun E' => It.self kI hob (key _ S4 kI)
end
section -- R15
variable {C : Cx} {B : Heap} {W : Addr → Prop} {env : Env} {F : List (Str × V)} {H : AH} {s : Shared} {A : Around} {E : Value → Shared → Prop} {r1 r2 : Value}
structure ClOk (inner : Scope) (env : Env) (cl : List (Str × Addr)) : Prop where
  eq : closureFor inner env = pure cl
  h1 : ∀ x c, cl.lookup x = some c → env.cells.lookup x = some c
  h2 : ∀ x, inner.names.lookup x = some .free → cl.lookup x = env.cells.lookup x
theorem clOk {sc : Scope} (G : Ev sc env) {inner : Scope} (hfr : frOk sc inner = true) : ∃ cl, ClOk inner env cl := by
  obtain ⟨_, h⟩ := frOk.all hfr
  obtain ⟨cl, a, b, c⟩ := closure_ok G fun q hq => (h q hq).1
  exact ⟨cl, a, b, c⟩
noncomputable def CompGo (C : Cx) (A : Around) (E : Value → Shared → Prop) (env : Env) (cl : List (Str × Addr)) (elt : Expr) (gens : List Comprehension) (scope : Scope) (pos : Pos) (RR : Value → Addr → Result → Shared → Prop) (v : Value) (s : Shared) : Prop :=
  wpAny (model C.prog C.w) A (pyIter v) (fun it s₂ => wpAny (model C.prog C.w) A (newList []) (fun acc s₃ => wpAny (model C.prog C.w) A (newFunctionEnv scope env.globals cl [] env.qual none .none (some env)) (fun cenv s₄ =>
      codeAny (model C.prog C.w) A (.compStart (.ListComp elt gens scope pos) 0 it acc { cenv with scope := relabel scope env }) (RR acc cenv.locals) s₄) E s₃) E s₂) E s
noncomputable def EndK (C : Cx) (B : Heap) (W : Addr → Prop) (env : Env) (F : List (Str × V)) (RR : Value → Addr → Result → Shared → Prop) (K : Addr → AH → Prop) : Prop :=
  ∀ D L' m H5 s5, K D H5 → Sf C B W env F H5 s5 → s5.heap.Ns L' m → Aside C B W env H5 L' → RR (.ref D) L' (.ok .next) s5
theorem endK_none {Q : Value → Shared → Prop} : EndK C B W env F (compPost (model C.prog C.w) A E none Q) (fun D H5 => ∀ s6, Sf C B W env F H5 s6 → Q (.ref D) s6) := fun D L' m H5 s5 k S hn hL =>
  ⟨m, hn, fun h' hs => k _ (S.by hL hs.extBut rfl rfl)⟩
theorem endK_use {sc : Scope} (G : Ev sc env) {y : Str} {py : Pos} {Q : Value → Shared → Prop} (hl : stOk sc y = true) : EndK C B W env F (compPost (model C.prog C.w) A E (some (assign (.Name y py) env)) Q) (fun D H5 => ∀ s6, Sf C B W env ((y, .ref D) :: F) H5 s6 → Q .none s6) := fun D L' m H5 s5 k S hn hL => by
  show wpAny _ A (assign (.Name y py) env (.ref D)) _ _ _
  refine wpAny_assign_Name (r_store (v := .ref D) G S.snap hl rfl fun s6 S6 => ?_)
  obtain ⟨o, es, ep, ho, h2⟩ := hn
  obtain ⟨o6, ho6, hd6⟩ := (S6.kept L' o ho hL.notWn).there
  have S7 := S.unsnap (fun a h => .inl h) S.kept S6
  exact ⟨m, ⟨o6, es, ep, ho6, hd6.trans h2.1, h2.2⟩, fun h' hs => k _ (S7.by hL hs.extBut rfl rfl)⟩
inductive CompH (C : Cx) (B : Heap) (W : Addr → Prop) (env : Env) (A : Around) (E : Value → Shared → Prop) (cl : List (Str × Addr)) (elt : Expr) (gens : List Comprehension) (scope : Scope) (pos : Pos) (Z : List (Str × V) → Addr → AH → Prop) (v : Value) (s1 : Shared) : Prop
  | mk (F1 : List (Str × V)) (H1 : AH) (S : Sf C B W env F1 H1 s1) (k : ∀ RR K, EndK C B W env F1 RR K → (∀ D H5, Z F1 D H5 → K D H5) → CompGo C A E env cl elt gens scope pos RR v s1)
theorem r_eval_comp {sc : Scope} (G : Ev sc env) (S0 : Sf C B W env F H s) {elt tgt iter : Expr} {ifs : List Expr} {gs : List Comprehension} {scope : Scope} {pos : Pos} {Q : Value → Shared → Prop} (hfr : frOk sc scope = true)
    (h : ∀ cl, ClOk scope env cl → wpAny (model C.prog C.w) A (eval iter env) (fun v s1 => CompH C B W env A E cl elt (⟨tgt, iter, ifs, 0⟩ :: gs) scope pos (fun F1 D H5 => ∀ s6, Sf C B W env F1 H5 s6 → Q (.ref D) s6) v s1) E s)
    (hs : autoParam (∀ x, foldedSetIterable iter env x = pure x) au1._auto_1) : wpAny (model C.prog C.w) A (eval (.ListComp elt (⟨tgt, iter, ifs, 0⟩ :: gs) scope pos) env) Q E s := by
  obtain ⟨cl, hcl⟩ := clOk G hfr
  obtain ⟨hk, hall⟩ := frOk.all hfr
  rw [eval_ListComp]
  exact wpAny_comprehension_free (use := none) rfl hs hcl.eq hk (fun x hx e => (hall x hx).2.2 e) (wpAny_mono (h cl hcl) (fun v s1 ⟨F1, H1, S1, k⟩ => k _ _ endK_none fun _ _ z => z) fun _ _ e => e)
theorem r_assign_comp {sc : Scope} (G : Ev sc env) {elt tgt iter : Expr} {ifs : List Expr} {gs : List Comprehension} {scope : Scope} {pos py spos : Pos} {y : Str} {Q : Flow → Shared → Prop} (hfr : frOk sc scope = true) (S0 : Sf C B W env F H s)
    (hl : sc.names.lookup y = some .local) (hsw : (py.line == pos.line && !(scope.names.any fun q => q.1 == y && (q.2 == .local || q.2 == .cell))) = true)
    (h : ∀ cl, ClOk scope env cl → wpAny (model C.prog C.w) A (eval iter env) (fun v s1 => CompH C B W env A E cl elt (⟨tgt, iter, ifs, 0⟩ :: gs) scope pos (fun F1 D H5 => ∀ s6, Sf C B W env ((y, .ref D) :: F1) H5 s6 → Q .next s6) v s1) E s)
    (hs : autoParam (∀ x, foldedSetIterable iter env x = pure x) au1._auto_1) : wpAny (model C.prog C.w) A (exec (.Assign [.Name y py] (.ListComp elt (⟨tgt, iter, ifs, 0⟩ :: gs) scope pos) spos) env) Q E s := by
  obtain ⟨cl, hcl⟩ := clOk G hfr
  obtain ⟨hk, hall⟩ := frOk.all hfr
  have sw : swapsWith (.ListComp elt (⟨tgt, iter, ifs, 0⟩ :: gs) scope pos) (some (.Name y py)) spos.line env = pure true := by
    have e1 : env.kindOf y = some .local := G.kin _ _ hl (by decide)
    have e2 : env.blockKind = .function := by unfold Env.blockKind; rw [S0.kind]; rfl
    rw [Bool.and_eq_true] at hsw
    have e3 := hsw.2
    simp only [Bool.not_eq_true'] at e3
    unfold swapsWith
    dsimp only
    rw [e1, e2]
    have : (py.line == (Expr.ListComp elt (⟨tgt, iter, ifs, 0⟩ :: gs) scope pos).pos.line) = true := hsw.1
    rw [this]
    have e4 : (scope.names.any fun x => match x with | (n, k) => n == y && (k == NameKind.local || k == NameKind.cell)) = false := e3
    rw [e4]
    rfl
  rw [exec_Assign_Name_used _ _ _ _ sw]
  refine wpAny_bind (wpAny_standAt (wpAny_bind ?_))
  show wpAny _ A (do let _ ← comprehension (.ListComp elt (⟨tgt, iter, ifs, 0⟩ :: gs) scope pos) scope env _ (newList []) false (eval iter env) (some (assign (.Name y py) env))) _ _ s
  refine wpAny_bind (wpAny_mono (wpAny_comprehension_free (use := some (assign (.Name y py) env)) (Q := fun _ s' => Q .next s') rfl hs hcl.eq hk (fun x hx e => (hall x hx).2.2 e)
    (wpAny_mono (h cl hcl) (fun v s1 ⟨F1, H1, S1, k⟩ => k _ _ (endK_use (py := py) (Q := fun _ s' => Q .next s') G (by unfold stOk; rw [hl])) fun _ _ z => z) fun _ _ e => e)) (fun _ s' hq => wpAny_pure (wpAny_pure hq)) fun _ _ e => e)

theorem tests_nil {Q : Bool → Shared → Prop} (h : Q true s) : wpAny (model C.prog C.w) A (testsOf [] env) Q E s := wpAny_tests_nil h
theorem tests_one {c : Expr} {Q : Bool → Shared → Prop} (h : wpAny (model C.prog C.w) A (isTrue c env (eval c env)) Q E s) : wpAny (model C.prog C.w) A (testsOf [c] env) Q E s := wpAny_tests_one h

noncomputable def Ext (H H' : AH) : Prop := ∀ a o, H a = some o → H' a = some o
theorem Ext.refl (H : AH) : Ext H H := fun _ _ e => e
theorem Ext.trans {H H' H'' : AH} (h : Ext H H') (h' : Ext H' H'') : Ext H H'' := fun a o e => h' a o (h a o e)
theorem Ext.set {H H' : AH} (h : Ext H H') {D : Addr} (hD : H D = none) (o : O) : Ext H (H'.set D o) := fun a x e => by
  have : a ≠ D := fun q => by rw [q, hD] at e; cases e
  rw [AH.set_ne _ _ this]; exact h a x e

inductive C1T (C : Cx) (B : Heap) (W : Addr → Prop) (env : Env) (F : List (Str × V)) (A : Around) (D : Addr) (tgt : Expr) (ifs : List Expr) (elt : Expr) (J : Nat → List V → AH → Prop) (i : Nat) (v : V) (acc : List V) (H' : AH) (B' : Heap) (W' : Addr → Prop) (E' : Value → Shared → Prop) : Prop
  | mk (h1 : GoOk tgt v) (bnd : List (Str × V)) (h2 : ∀ q ∈ bnd, F.lookup q.1 = none) (h3 : Asg C A tgt env v bnd H') (h4 : ∀ s', Sf C B' W' env (bnd ++ F) H' s' →
      wpAny (model C.prog C.w) A (testsOf ifs env) (fun ok s₃ => ifQ ok (wpAny (model C.prog C.w) A (eval elt env) (fun rv s₄ => CwE C B' W' env (bnd ++ F) D acc (J (i + 1)) rv s₄) E' s₃) (CwK C B' W' env (bnd ++ F) D acc (J (i + 1)) s₃)) E' s')
theorem comp1 {sc : Scope} (G : Ev sc env) {elt tgt iter : Expr} {ifs : List Expr} {scope : Scope} {pos : Pos} (hfr : frOk sc scope = true) {cl : List (Str × Addr)} (hcl : ClOk scope env cl) {L : List V} {src : AH → Prop} {v : Value} (S : Sf C B W env F H s) (it : Iters C A s v L src)
    {RR : Value → Addr → Result → Shared → Prop} {K : Addr → AH → Prop} (hK : EndK C B W env F RR K) (J : Addr → Nat → List V → AH → Prop) (hJ : ∀ D, H D = none → J D 0 [] (H.set D (.list []))) (hsrc : ∀ D i acc H', J D i acc H' → src H')
    (turn : ∀ D cenv, H D = none → Ev scope cenv → ∀ i v acc H' B' W' E', L[i]? = some v → J D i acc H' → H' D = some (.list acc) → C1T C B W cenv (inF scope F) A D tgt ifs elt (J D) i v acc H' B' W' E')
    (done : ∀ D acc H', H D = none → J D L.length acc H' → H' D = some (.list acc) → K D H') : CompGo C A E env cl elt [⟨tgt, iter, ifs, 0⟩] scope pos RR v s := by
  refine comp_core G hfr rfl hcl.h1 hcl.h2 S it (P := fun D H' => ∃ acc, J D L.length acc H' ∧ H' D = some (.list acc)) (fun I ob o D cenv s4 R It hD Ec S4 aI hI hob k => ?_) (fun D L' m H5 s5 hD ⟨acc, hj, hd⟩ S5 hm hL => hK D L' m H5 s5 (done D acc H5 hD hj hd) S5 hm hL)
  refine comp_walk (ct1 ..) It (J D) S4 aI hI hob (AH.set_self ..) (hJ D hD) (hsrc D) (fun i v acc H' B' W' E' hv hj hd => ?_) (fun acc H' s' hj hd S' => k _ _ _ S' ⟨acc, hj, hd⟩)
  obtain ⟨g1, bnd, g2, g3, g4⟩ := turn D cenv hD Ec i v acc H' B' W' E' hv hj hd
  refine ⟨g1, bnd, g2, g3, fun s' S' => wpAny_mono (g4 s' S') (fun ok s3 h3 => ⟨fun q => ?_, fun q => h3.2 q⟩) fun _ _ e => e⟩
  refine emit_list (B := B') (W := W') (wpAny_mono (h3.1 q) (fun rv s4 ⟨u, H'', S'', hr, hd', hz, hj'⟩ => ?_) fun _ _ e => e)
  exact ⟨u, _, H'', acc, S'', hr, hd', hz, fun s5 S5 => ⟨_, _, S5, AH.set_self .., hj'⟩⟩

inductive TestN (C : Cx) (B : Heap) (W : Addr → Prop) (env : Env) (F : List (Str × V)) (H : AH) (ok b : Bool) (s : Shared) : Prop
  | mk (e : ok = b) (H' : AH) (S : Sf C B W env F H' s) (x : Ext H H')
inductive BodyN (C : Cx) (B : Heap) (W : Addr → Prop) (env : Env) (F : List (Str × V)) (H : AH) (u : V) (rv : Value) (s : Shared) : Prop
  | mk (H' : AH) (S : Sf C B W env F H' s) (x : Ext H H') (hr : V.R u rv)
theorem asg1 {scope : Scope} {cenv : Env} (G : Ev scope cenv) {x : Str} {px : Pos} {v : V} {H' : AH} {F0 : List (Str × V)} (hn : F0.lookup x = none) (hl : stOk scope x = true) : GoOk (.Name x px) v ∧ (∀ q ∈ [(x, v)], F0.lookup q.1 = none) ∧ Asg C A (.Name x px) cenv v [(x, v)] H' :=
  ⟨.inl ⟨_, _, rfl⟩, all1 hn, asg_name G hl⟩
theorem asgP {scope : Scope} {cenv : Env} (G : Ev scope cenv) (hh : A.handled = none) {x y : Str} {px py pos : Pos} {kd} {T : Addr} {a b : V} {v : V} {H' : AH} (ev : v = .ref T) (hT : H' T = some (.tup [a, b])) (h1 : (inF scope F).lookup y = none) (h2 : (inF scope F).lookup x = none) (hl : stOk scope x = true) (hl2 : stOk scope y = true) :
    GoOk (.Tuple [.Name x px, .Name y py] kd pos) v ∧ (∀ q ∈ [(y, b), (x, a)], (inF scope F).lookup q.1 = none) ∧ Asg C A (.Tuple [.Name x px, .Name y py] kd pos) cenv v [(y, b), (x, a)] H' := by
  subst ev
  exact ⟨.inr ⟨_, _, _, T, rfl, rfl⟩, all2 h1 h2, asg_pair G hh hl hl2 hT⟩
theorem compP {α : Type} (xs : List α) (enc : α → V) (bnd : α → List (Str × V)) (p : α → Bool) (f : α → V) {sc : Scope} (G : Ev sc env) {elt tgt iter : Expr} {ifs : List Expr} {scope : Scope} {pos : Pos} (hfr : frOk sc scope = true) {cl : List (Str × Addr)} (hcl : ClOk scope env cl) {src : AH → Prop} {v : Value}
    (S : Sf C B W env F H s) (it : Iters C A s v (xs.map enc) src) {RR : Value → Addr → Result → Shared → Prop} {K : Addr → AH → Prop} (hK : EndK C B W env F RR K) (hz : xs.length ≤ 1000) (hsrc : ∀ H', Ext H H' → src H')
    (asg : ∀ cenv x H', Ev scope cenv → x ∈ xs → Ext H H' → GoOk tgt (enc x) ∧ (∀ q ∈ bnd x, (inF scope F).lookup q.1 = none) ∧ Asg C A tgt cenv (enc x) (bnd x) H')
    (tests : ∀ cenv x H' B' W' s' E', Ev scope cenv → x ∈ xs → Ext H H' → Sf C B' W' cenv (bnd x ++ inF scope F) H' s' → wpAny (model C.prog C.w) A (testsOf ifs cenv) (fun ok s₃ => TestN C B' W' cenv (bnd x ++ inF scope F) H' ok (p x) s₃) E' s')
    (body : ∀ cenv x H' B' W' s' E', Ev scope cenv → x ∈ xs → p x = true → Ext H H' → Sf C B' W' cenv (bnd x ++ inF scope F) H' s' → wpAny (model C.prog C.w) A (eval elt cenv) (fun rv s₃ => BodyN C B' W' cenv (bnd x ++ inF scope F) H' (f x) rv s₃) E' s')
    (done : ∀ D H', H D = none → Ext H H' → H' D = some (.list ((xs.filter p).map f)) → K D H') : CompGo C A E env cl elt [⟨tgt, iter, ifs, 0⟩] scope pos RR v s := by
  have step : ∀ {i : Nat} {x : α}, xs[i]? = some x → (xs.take (i + 1)).filter p = (xs.take i).filter p ++ (if p x then [x] else []) := fun {i x} h => take_succ_filter p xs i x h
  refine comp1 G hfr hcl S it hK (fun D i acc H' => Ext H H' ∧ acc = ((xs.take i).filter p).map f) (fun D hD => ⟨(Ext.refl H).set hD _, rfl⟩) (fun D i acc H' h => hsrc H' h.1) (fun D cenv hD Ec i v acc H' B' W' E' hv hj hd => ?_) (fun D acc H' hD hj hd => ?_)
  · rw [List.getElem?_map] at hv
    obtain ⟨x, hx, rfl⟩ := Option.map_eq_some_iff.mp hv
    have hm := List.mem_of_getElem? hx
    obtain ⟨g1, g2, g3⟩ := asg cenv x H' Ec hm hj.1
    refine ⟨g1, bnd x, g2, g3, fun s' S' => wpAny_mono (tests cenv x H' B' W' s' E' Ec hm hj.1 S') (fun ok s3 ⟨hok, H3, S3, e3⟩ => ⟨fun q => ?_, fun q => ?_⟩) fun _ _ e => e⟩
    · refine wpAny_mono (body cenv x H3 B' W' s3 E' Ec hm (hok ▸ q) (hj.1.trans e3) S3) (fun rv s4 ⟨H4, S4, e4, hr⟩ => ?_) fun _ _ e => e
      refine ⟨f x, H4, S4, hr, e4 _ _ (e3 _ _ hd), ?_, ((hj.1.trans e3).trans e4).set hD _, ?_⟩
      · rw [hj.2, List.length_map]
        exact Nat.le_trans (List.length_filter_le _ _) (by rw [List.length_take]; omega)
      · rw [hj.2, step hx, ← hok, if_pos q]; simp
    · refine ⟨H3, S3, e3 _ _ hd, hj.1.trans e3, ?_⟩
      rw [hj.2, step hx, ← hok, q]; simp
  · refine done D H' hD hj.1 ?_
    rw [hd, hj.2, List.length_map, List.take_length]
end
section -- R16
variable {C : Cx} {B : Heap} {W : Addr → Prop} {env : Env} {F : List (Str × V)} {H : AH} {s : Shared} {A : Around} {E : Value → Shared → Prop} {r1 r2 : Value}
inductive NestH (C : Cx) (B : Heap) (W : Addr → Prop) (env : Env) (A : Around) (D : Addr) (t2 : Expr) (f2 : List Expr) (elt : Expr) (Q : Unit → Shared → Prop) (v : Value) (s1 : Shared) : Prop
  | mk (F1 : List (Str × V)) (H1 : AH) (L : List V) (src : AH → Prop) (acc0 : List V) (J : Nat → List V → AH → Prop) (S : Sf C B W env F1 H1 s1) (it : Iters C A s1 v L src) (hd : H1 D = some (.list acc0)) (h0 : J 0 acc0 H1) (hs : ∀ i acc H', J i acc H' → src H')
    (turn : ∀ i v acc H' B' W' E', L[i]? = some v → J i acc H' → H' D = some (.list acc) → C1T C B W env F1 A D t2 f2 elt J i v acc H' B' W' E')
    (done : ∀ acc H' s', J L.length acc H' → H' D = some (.list acc) → Sf C B W env F1 H' s' → Q () s')
theorem nest_list {elt t1 i1 t2 i2 : Expr} {f1 f2 : List Expr} {scope : Scope} {pos : Pos} {D : Addr} {Q : Unit → Shared → Prop}
    (h : wpAny (model C.prog C.w) A (eval i2 env) (fun v s1 => NestH C B W env A D t2 f2 elt Q v s1) E s)
    (hs : autoParam (∀ x, foldedSetIterable i2 env x = pure x) au1._auto_1) :
    wpAny (model C.prog C.w) A (nestL (.ListComp elt [⟨t1, i1, f1, 0⟩, ⟨t2, i2, f2, 0⟩] scope pos) i2 (.ref D) env) Q E s := by
  unfold nestL
  refine wpAny_bind (wpAny_mono h (fun v s1 ⟨F1, H1, L, src, acc0, J, S1, it, hD, hJ, hsrc, turn, done⟩ => ?_) fun _ _ e => e)
  refine wpAny_bind (wpAny_standAt (wpAny_bind (wpAny_of_eq (hs v) (wpAny_bind (wpAny_holding (it _ _ fun I ob o s2 It hn hk hI hob hg hos => wpAny_bind (wpAny_runOwn ?_)))))))
  have S2 := S1.keep hk hg hos
  have aI := S1.asideOf hn
  have key : ∀ s3, s3 = s2 → codeAny (model C.prog C.w) A (.compLoop (.ListComp elt [⟨t1, i1, f1, 0⟩, ⟨t2, i2, f2, 0⟩] scope pos) 1 (.ref I) (.ref D) env)
      (fun r s' => match r with | .ok f => wpAny (model C.prog C.w) A (pure () : Sem Unit) Q E s' | .error e => cameBackBy (model C.prog C.w) A env E e s') s3 := by
    rintro s3 rfl
    refine comp_walk (ct21 ..) It J S2 aI hI hob hD hJ hsrc (fun i v acc H' B' W' E' hv hj hd => ?_) (fun acc H' s' hj hd S' => wpAny_pure (done acc H' s' hj hd S'))
    obtain ⟨g1, bnd, g2, g3, g4⟩ := turn i v acc H' B' W' E' hv hj hd
    refine ⟨g1, bnd, g2, g3, fun s' S' => wpAny_mono (g4 s' S') (fun ok s3 h3 => ⟨fun q => ?_, fun q => h3.2 q⟩) fun _ _ e => e⟩
    refine emit_list (B := B') (W := W') (wpAny_mono (h3.1 q) (fun rv s4 ⟨u, H'', S'', hr, hd', hz, hj'⟩ => ?_) fun _ _ e => e)
    exact ⟨u, _, H'', acc, S'', hr, hd', hz, fun s5 S5 => ⟨_, _, S5, AH.set_self .., hj'⟩⟩
  exact comp_start (d := 1) rfl rfl (key _ rfl) fun E' => It.self hI hob (key _ rfl)

noncomputable def PairAt (H : AH) (pr : Int × Int) (v : V) : Prop := ∃ T, v = .ref T ∧ H T = some (.tup [.int pr.1, .int pr.2])
theorem PairAt.ext {H H' : AH} {pr : Int × Int} {v : V} (h : PairAt H pr v) (e : Ext H H') : PairAt H' pr v := let ⟨T, a, b⟩ := h; ⟨T, a, e _ _ b⟩
theorem PairAt.set {H : AH} {pr : Int × Int} {v : V} (h : PairAt H pr v) {D : Addr} {l l' : List V} (hD : H D = some (.list l)) : PairAt (H.set D (.list l')) pr v := by
  obtain ⟨T, a, b⟩ := h
  refine ⟨T, a, ?_⟩
  rw [AH.set_ne]
  · exact b
  · intro q; rw [q, hD] at b; cases b
theorem A2.mono {α β : Type} {R R' : α → β → Prop} {l : List α} {l' : List β} (h : A2 R l l') (k : ∀ a b, R a b → R' a b) : A2 R' l l' := by
  induction h with
  | nil => exact .nil
  | cons x _ ih => exact .cons (k _ _ x) ih

inductive BodyP (C : Cx) (B : Heap) (W : Addr → Prop) (env : Env) (F : List (Str × V)) (H : AH) (pr : Int × Int) (rv : Value) (s : Shared) : Prop
  | mk (H' : AH) (u : V) (S : Sf C B W env F H' s) (x : Ext H H') (hr : V.R u rv) (hp : PairAt H' pr u)
inductive IterN (C : Cx) (B : Heap) (W : Addr → Prop) (env : Env) (F : List (Str × V)) (A : Around) (H : AH) (v : Value) (L : List V) (src : AH → Prop) (s : Shared) : Prop
  | mk (H' : AH) (S : Sf C B W env F H' s) (x : Ext H H') (it : Iters C A s v L src)
theorem compP2 {α β : Type} (xs : List α) (enc1 : α → V) (bnd1 : α → List (Str × V)) (ys : List β) (enc2 : β → V) (bnd2 : β → List (Str × V)) (p : α → β → Bool) (f : α → β → Int × Int) {sc : Scope} (G : Ev sc env) {elt t1 i1 t2 i2 : Expr} {f2 : List Expr} {scope : Scope} {pos : Pos} (hfr : frOk sc scope = true)
    {cl : List (Str × Addr)} (hcl : ClOk scope env cl) {src src2 : AH → Prop} {v : Value} (S : Sf C B W env F H s) (it : Iters C A s v (xs.map enc1) src) {RR : Value → Addr → Result → Shared → Prop} {K : Addr → AH → Prop} (hK : EndK C B W env F RR K) (hz : xs.length * ys.length ≤ 1000)
    (hsrc : ∀ H', Ext H H' → src H') (hsrc2 : ∀ H', Ext H H' → src2 H')
    (asg1 : ∀ cenv x H', Ev scope cenv → x ∈ xs → Ext H H' → GoOk t1 (enc1 x) ∧ (∀ q ∈ bnd1 x, (inF scope F).lookup q.1 = none) ∧ Asg C A t1 cenv (enc1 x) (bnd1 x) H')
    (iter2 : ∀ cenv x H' B' W' s' E', Ev scope cenv → x ∈ xs → Ext H H' → Sf C B' W' cenv (bnd1 x ++ inF scope F) H' s' → wpAny (model C.prog C.w) A (eval i2 cenv) (fun v s1 => IterN C B' W' cenv (bnd1 x ++ inF scope F) A H' v (ys.map enc2) src2 s1) E' s')
    (asg2 : ∀ cenv x y H', Ev scope cenv → x ∈ xs → y ∈ ys → Ext H H' → GoOk t2 (enc2 y) ∧ (∀ q ∈ bnd2 y, (bnd1 x ++ inF scope F).lookup q.1 = none) ∧ Asg C A t2 cenv (enc2 y) (bnd2 y) H')
    (tests : ∀ cenv x y H' B' W' s' E', Ev scope cenv → x ∈ xs → y ∈ ys → Ext H H' → Sf C B' W' cenv (bnd2 y ++ (bnd1 x ++ inF scope F)) H' s' → wpAny (model C.prog C.w) A (testsOf f2 cenv) (fun ok s₃ => TestN C B' W' cenv (bnd2 y ++ (bnd1 x ++ inF scope F)) H' ok (p x y) s₃) E' s')
    (body : ∀ cenv x y H' B' W' s' E', Ev scope cenv → x ∈ xs → y ∈ ys → Ext H H' → Sf C B' W' cenv (bnd2 y ++ (bnd1 x ++ inF scope F)) H' s' → wpAny (model C.prog C.w) A (eval elt cenv) (fun rv s₃ => BodyP C B' W' cenv (bnd2 y ++ (bnd1 x ++ inF scope F)) H' (f x y) rv s₃) E' s')
    (done : ∀ D H' acc, H D = none → Ext H H' → H' D = some (.list acc) → A2 (PairAt H') (xs.flatMap fun x => (ys.filter (p x)).map (f x)) acc → K D H') (hs2 : autoParam (∀ (env' : Env) x, foldedSetIterable i2 env' x = pure x) au1._auto_1) : CompGo C A E env cl elt [⟨t1, i1, [], 0⟩, ⟨t2, i2, f2, 0⟩] scope pos RR v s := by
  have step : ∀ {α : Type} (h : α → List (Int × Int)) (xs : List α) {i : Nat} {x : α}, xs[i]? = some x → (xs.take (i + 1)).flatMap h = (xs.take i).flatMap h ++ h x := fun h xs i x e => by rw [List.take_add_one, e]; simp
  have step2 : ∀ {x : α} {i : Nat} {y : β}, ys[i]? = some y → ((ys.take (i + 1)).filter (p x)).map (f x) = ((ys.take i).filter (p x)).map (f x) ++ (if p x y then [f x y] else []) := fun {x i y} h => by
    rw [take_succ_filter (p x) ys i y h, List.map_append]; split <;> rfl
  have hlen : ∀ i, ((xs.take i).flatMap fun x => (ys.filter (p x)).map (f x)).length ≤ (xs.take i).length * ys.length := fun i => by
    rw [List.length_flatMap]
    generalize xs.take i = l
    induction l with
    | nil => simp
    | cons a l ih =>
      rw [List.map_cons, List.sum_cons, List.length_cons, Nat.succ_mul, Nat.add_comm]
      exact Nat.add_le_add ih (by rw [List.length_map]; exact List.length_filter_le _ _)
  refine comp_core G hfr rfl hcl.h1 hcl.h2 S it (P := fun D H' => ∃ acc, Ext H H' ∧ A2 (PairAt H') (xs.flatMap fun x => (ys.filter (p x)).map (f x)) acc ∧ H' D = some (.list acc)) (fun I ob o D cenv s4 R It hD Ec S4 aI hI hob k => ?_) (fun D L' m H5 s5 hD ⟨acc, he, ha, hd⟩ S5 hm hL => hK D L' m H5 s5 (done D H5 acc hD he hd ha) S5 hm hL)
  refine comp_walk (ct20 ..) It (fun i acc H' => Ext H H' ∧ A2 (PairAt H') ((xs.take i).flatMap fun x => (ys.filter (p x)).map (f x)) acc) S4 aI hI hob (AH.set_self ..) ⟨(Ext.refl H).set hD _, .nil⟩ (fun i acc H' h => hsrc H' h.1) (fun i v acc H' B' W' E' hv hj hd => ?_) (fun acc H' s' hj hd S' => k _ _ _ S' ⟨acc, hj.1, by have := hj.2; rwa [List.length_map, List.take_length] at this, hd⟩)
  rw [List.getElem?_map] at hv
  obtain ⟨x, hx, rfl⟩ := Option.map_eq_some_iff.mp hv
  have hm := List.mem_of_getElem? hx
  have hix : i < xs.length := (List.getElem?_eq_some_iff.mp hx).1
  obtain ⟨g1, g2, g3⟩ := asg1 cenv x H' Ec hm hj.1
  refine ⟨g1, bnd1 x, g2, g3, fun s' S' => tests_nil (ifQ_t ?_)⟩
  refine nest_list (hs := hs2 cenv) (B := B') (W := W') (wpAny_mono (iter2 cenv x H' B' W' s' E' Ec hm hj.1 S') (fun v2 s1 ⟨H1, S1, e1, it2⟩ => ?_) fun _ _ e => e)
  refine ⟨_, H1, _, src2, acc, fun j a H' => Ext H H' ∧ A2 (PairAt H') (((xs.take i).flatMap fun x => (ys.filter (p x)).map (f x)) ++ ((ys.take j).filter (p x)).map (f x)) a, S1, it2, e1 _ _ hd, ⟨hj.1.trans e1, by simpa using hj.2.mono fun a b z => z.ext e1⟩, fun j a H' h => hsrc2 H' h.1, fun j v a H2 B2 W2 E2 hv hj2 hd2 => ?_, fun a H2 s2 hj2 hd2 S2 => ?_⟩
  · rw [List.getElem?_map] at hv
    obtain ⟨y, hy, rfl⟩ := Option.map_eq_some_iff.mp hv
    have hmy := List.mem_of_getElem? hy
    obtain ⟨g4, g5, g6⟩ := asg2 cenv x y H2 Ec hm hmy hj2.1
    refine ⟨g4, bnd2 y, g5, g6, fun s3 S3 => wpAny_mono (tests cenv x y H2 B2 W2 s3 E2 Ec hm hmy hj2.1 S3) (fun ok s4 ⟨hok, H4, S4, e4⟩ => ⟨fun q => ?_, fun q => ?_⟩) fun _ _ e => e⟩
    · refine wpAny_mono (body cenv x y H4 B2 W2 s4 E2 Ec hm hmy (hj2.1.trans e4) S4) (fun rv s5 ⟨H5, u, S5, e5, hr, hp⟩ => ?_) fun _ _ e => e
      refine ⟨u, H5, S5, hr, e5 _ _ (e4 _ _ hd2), ?_, ((hj2.1.trans e4).trans e5).set hD _, ?_⟩
      · have e6 := hj2.2.length
        rw [List.length_append, List.length_map] at e6
        have e7 := hlen i
        rw [List.length_take] at e7
        have e8 : ((ys.take j).filter (p x)).length ≤ ys.length := Nat.le_trans (List.length_filter_le _ _) (by rw [List.length_take]; omega)
        have e9 : (min i xs.length) * ys.length + ys.length ≤ xs.length * ys.length := by
          rw [← Nat.succ_mul]; exact Nat.mul_le_mul_right _ (by omega)
        omega
      · rw [step2 hy, ← hok, if_pos q, ← List.append_assoc]
        exact (hj2.2.mono fun a b z => (z.ext (e4.trans e5)).set (e5 _ _ (e4 _ _ hd2))).append (.one (hp.set (e5 _ _ (e4 _ _ hd2))))
    · refine ⟨H4, S4, e4 _ _ hd2, hj2.1.trans e4, ?_⟩
      rw [step2 hy, ← hok, q]
      simpa using hj2.2.mono fun a b z => z.ext e4
  · refine ⟨a, H2, S2, hd2, hj2.1, ?_⟩
    have := hj2.2
    rw [List.length_map, List.take_length] at this
    rw [step _ _ hx]
    exact this
end
section -- R17
variable {C : Cx} {B : Heap} {W : Addr → Prop} {env : Env} {F : List (Str × V)} {H : AH} {s : Shared} {A : Around} {E : Value → Shared → Prop} {r1 r2 : Value}
inductive BindH (C : Cx) (B : Heap) (W : Addr → Prop) (env : Env) (F : List (Str × V)) (A : Around) (E0 : Env → Value → Shared → Prop) (sc : Scope) (b : List Stmt) (RR : Result → Shared → Prop) (binds : List (Str × Value)) (s1 : Shared) : Prop
  | mk (F' : List (Str × V)) (H1 : AH) (S : Sf C B W env F H1 s1) (hb : A2 BR F' binds) (hn : (F'.map (·.1)).Nodup) (hp : parOk sc F' = true) (k : ∀ env' s₁, Ev sc env' → Sf C s1.heap (dom H1) env' F' H1 s₁ →
      wpAny (model C.prog C.w) (A.deeper env') (execs b env') (fun f s' => CallN C B W env F s1.heap (dom H1) env' s' (RR (.ok (.ret (retOf f))) s')) (E0 env') s₁)
theorem r_callB (S : Sf C B W env F H s) {n : Nat} (R : Rm n A) {fa : Addr} {p : Arguments} {b : List Stmt} {sc : Scope} {dv : Value} {fd : FuncData} (Fn : FnAt C.K fa p b sc dv fd) {args : Args} {RR : Result → Shared → Prop} (ho : fnOk sc = true)
    (h : wpAny (model C.prog C.w) A.in1 (bindArgs fd args) (fun binds s1 => BindH C B W env F A (fun env' e s' => wpAny (model C.prog C.w) (A.deeper env') (leaving env' e) (fun _ s'' => RR (.error e) s'') (fun e' s'' => RR (.error e') s'') s') sc b RR binds s1) (fun e s' => RR (.error e) s') s) :
    codeAny (model C.prog C.w) A (.call (.ref fa) args) RR s := by
  obtain ⟨hk, hco, hgen, hf⟩ := fnOk.all ho
  refine codeAny_call_function R.room (S.k _ _ Fn.at_) rfl (by rw [Fn.scope]; exact hco) (by rw [Fn.scope]; exact hgen) Fn.body (Fn.codeRec S.k) ?_
  refine wpAny_mono h (fun binds s1 ⟨F', H1, S1, hb, hn, hp, k⟩ => ?_) fun _ _ e => e
  rw [Fn.closure]
  refine wpAny_newFunctionEnv_cells (by rw [Fn.scope]; exact hk) (fun x hx => ?_) fun env' he s' x => ?_
  · rw [Fn.scope]
    obtain ⟨i, hi⟩ := List.getElem?_of_mem hx
    obtain ⟨q, h1, h2⟩ := hb.get' hi
    have hm := List.all_eq_true.mp hp q (List.mem_of_getElem? h1)
    rw [h2.1] at hm
    split at hm
    · exact .inl (by assumption)
    · rename_i e; exact .inr ⟨e, cellsFrom_has _ _ _ _ (.inr e)⟩
    · cases hm
  · subst he
    have S2 := S1.enter Fn hb hn hp hk x
    refine ⟨S2.lim, codeAny_func (wpAny_mono (k _ s' (Fn.ev hf _) S2) (fun f s' ⟨F'', H', S', q⟩ => ?_) fun _ _ e => e)⟩
    have := q (S1.back S')
    cases f <;> exact this

theorem r_attr {value : Expr} {attr : Str} {pos : Pos} {Q : Value → Shared → Prop} (h : wpAny (model C.prog C.w) A (eval value env) (fun o s₁ => wpAny (model C.prog C.w) A (getAttr o attr true) Q E s₁) E s)
    (he : autoParam (eval (.Attribute value attr pos) env = (do
      let o ← eval value env
      standAt pos.atName
      let r ← holding [o] (getAttr o attr true)
      letTemporaryGo value o r
      pure r)) au2._auto_1) :
    wpAny (model C.prog C.w) A (eval (.Attribute value attr pos) env) Q E s := Attribute_any_ h he
theorem r_subT {o i : Value} {T id : String} {ops : List Value} {value slice : Expr} {Q : Value → Shared → Prop} (hT : s.TypeIs o T) (hl : typeLookup (.type T) "__getitem__" = pure (some (.builtin id))) (h : wpAny (model C.prog C.w) A (getItem o i) Q E s)
    (hs : subscripted slice false o i = operate ops (getItem o i)) : wpAny (model C.prog C.w) A (subscriptTail value slice o i) Q E s := by
  unfold subscriptTail
  refine wpAny_bind ?_
  rw [getitemInPython_of_ne hT.not_modules]
  refine wpAny_bind (wpAny_specialOf hT hl ?_)
  have fin : wpAny (model C.prog C.w) A (subscripted slice false o i) (fun r s₃ => wpAny (model C.prog C.w) A (letTemporaryGo value o r >>= fun _ => pure r) Q E s₃) E s := by
    rw [hs]
    exact wpAny_operating (wpAny_mono h (fun r s₃ h₃ => wpAny_bind (wpAny_letTemporaryGo (wpAny_pure h₃))) fun _ _ x => x)
  first
    | exact wpAny_pure (wpAny_bind fin)
    | exact wpAny_bind (wpAny_pure (wpAny_bind fin))
    | exact wpAny_bind fin
section
variable {Q : Value → Shared → Prop} {a : Addr} {i : Int} {v : V} {value slice : Expr}
theorem r_sub {pos : Pos} (h : wpAny (model C.prog C.w) A (eval value env) (fun o s₁ => wpAny (model C.prog C.w) A (eval slice env) (fun i s₂ => wpAny (model C.prog C.w) A (subscriptTail value slice o i) Q E s₂) E s₁) E s) :
    wpAny (model C.prog C.w) A (eval (.Subscript value slice pos) env) Q E s := Subscript_ h
theorem sub_list (S : Sf C B W env F H s) {l : List V} (h1 : V.R (.ref a) r1) (h2 : V.R (.int i) r2) (ha : H a = some (.list l)) (h0 : 0 ≤ i) (hi : l[i.toNat]? = some v) (hf : i < 1000) (k : ∀ rv, V.R v rv → Q rv s)
    (hs : autoParam (subscripted slice false r1 r2 = operate [r1, r2] (getItem r1 r2)) au2._auto_1) : wpAny (model C.prog C.w) A (subscriptTail value slice r1 r2) Q E s := by
  have h1' := h1
  obtain rfl := h1'
  obtain ⟨vs, n, x1, y1⟩ := S.isL ha
  exact r_subT ⟨_, x1, rfl⟩ list_getitem_lookup (g_item S h1 h2 ha h0 hi hf k) hs
theorem sub_listNeg (S : Sf C B W env F H s) {l : List V} (h1 : V.R (.ref a) r1) (h2 : V.R (.int i) r2) (ha : H a = some (.list l)) (h0 : i < 0) (hl : 0 ≤ i + l.length) (hi : l[(i + l.length).toNat]? = some v) (hf : -1000 < i) (k : ∀ rv, V.R v rv → Q rv s)
    (hs : autoParam (subscripted slice false r1 r2 = operate [r1, r2] (getItem r1 r2)) au2._auto_1) : wpAny (model C.prog C.w) A (subscriptTail value slice r1 r2) Q E s := by
  have h1' := h1
  obtain rfl := h1'
  obtain ⟨vs, n, x1, y1⟩ := S.isL ha
  exact r_subT ⟨_, x1, rfl⟩ list_getitem_lookup (g_itemNeg S h1 h2 ha h0 hl hi hf k) hs
theorem sub_dict (S : Sf C B W env F H s) {l : List (Int × V)} {ep : Nat} (h1 : V.R (.ref a) r1) (h2 : V.R (.int i) r2) (ha : H a = some (.dict l ep)) (hi : dget l i = some v) (k : Go C B W env F H v Q)
    (hs : autoParam (subscripted slice false r1 r2 = operate [r1, r2] (getItem r1 r2)) au2._auto_1) : wpAny (model C.prog C.w) A (subscriptTail value slice r1 r2) Q E s := by
  have h1' := h1
  obtain rfl := h1'
  obtain ⟨kvs, x1, y1, _⟩ := S.isD ha
  exact r_subT y1.mapOf.typeIs PySem.F.slot_dict_getitem.lookup (d_get S h1 h2 ha hi k) hs
theorem Sf.notInter (S : Sf C B W env F H s) : interactive env = false := by unfold interactive; rw [S.kind]; rfl
theorem r_assignSub {M : Model} {o i : Expr} {pos : Pos} {v : Value} {Q : Unit → Shared → Prop} (h : wpAny M A (eval o env) (fun ov s₁ => wpAny M A (eval i env) (fun iv s₂ => wpAny M A (setItem ov iv v) Q E s₂) E s₁) E s) :
    wpAny M A (assign (.Subscript o i pos) env v) Q E s := by
  rw [assign_Subscript]
  exact wpAny_bind (wpAny_holding (wpAny_mono h (fun ov s₁ h₁ => wpAny_bind (wpAny_holding (wpAny_mono h₁ (fun iv s₂ h₂ => wpAny_bind (wpAny_standAt (wpAny_bind (wpAny_holding (wpAny_mono h₂ (fun _ s₃ h₃ => fun _ _ _ => by rw [Sem.wp_release]; exact h₃) fun _ _ e => e))))) fun _ _ e => e))) fun _ _ e => e))
theorem q_callK (S : Sf C B W env F H s) {pos : Pos} {f : Value} {first : List Value} {e : Expr} {rest : List Expr} (hk : keepIn C.K f = true) (h : wpAny (model C.prog C.w) A (spliced (backTo pos (starEach (e :: rest) env))) (fun vs s₁ => C.K.In s₁.heap ∧ wpAny (model C.prog C.w) A (call f (first ++ vs)) Q E s₁) E s)
    (he : autoParam (starEach (e :: rest) env = (false, eval e env) :: starEach rest env) au1._auto_1) (hplain : autoParam ((backTo pos (starEach rest env)).any (·.1) = false) au1._auto_1) : wpAny (model C.prog C.w) A (callWith pos f first (backTo pos (starEach (e :: rest) env)) []) Q E s := callWith_K S.k hk h he hplain
theorem q_callK0 (S : Sf C B W env F H s) {pos : Pos} {f : Value} {first : List Value} (hk : keepIn C.K f = true) (h : wpAny (model C.prog C.w) A (call f (first ++ [])) Q E s) : wpAny (model C.prog C.w) A (callWith pos f first (backTo pos (starEach [] env)) []) Q E s := callWith_K0 S.k hk h
end
end
section -- KK1
noncomputable def kStAt (i : Nat) : Stmt := PySem.Challenge.pw_rx0065_01.main.body.getD i (.Pass default)
noncomputable def kInAt (i j : Nat) : Stmt := match kStAt i with
  | .ClassDef _ _ _ b _ _ _ _ _ _ _ => b.getD j (.Pass default)
  | s => s
noncomputable def kFnO (s : Stmt) (q : Str) (m : Value) (d : Value) (c : Addr) : Obj := match s with
  | .FunctionDef n ps b _ _ _ sc _ _ _ => { cls := .type "function", data := .func { name := n, qualname := q, params := ps, body := .stmts b, scope := sc, globals := 3, closure := [], defaults := d, kwdefaults := .none, pyModule := m, code := .ref c } }
  | _ => default
noncomputable def kCdO (a : Nat) (n q : Str) (t l : Nat) (k : Nat) (t1 : Value) (P : Nat) (t2 t3 : Value) (t4 e : Nat) : Obj := { cls := .type "code", data := .fields #[.str n t, .str q (t + 1), .str "/claim/cut.py" (t + 2), .int l 0, .int a 0, .int 0 0, .int 0 0, .int k 0, t1, .bool true, .int 276 0, .ref P, .none, t2, t3, .ref t4, .int e 0, .int l 0, .str "/claim/cut.py" (e + 1)] }
noncomputable def kEn (P : Params) (x : Str) (t : Nat) (v : Value) : DictEntry := ⟨PyData.keyHash P x, .str x t, v⟩

noncomputable def k2 (P : Params) : Obj := { cls := .none, data := .dict #[kEn P "\x69mport.loaded._sre" 183 (.bool true), kEn P "class._frozen_\x69mportlib.BuiltinImporter" 185 (.ref 14), kEn P "watched.\x69mport" 206 (.ref 18), kEn P "class._frozen_\x69mportlib.ModuleSpec" 216 (.ref 22), kEn P "sys.modules.booked-epoch" 245 (.int 3 0), kEn P "\x69mport.later-laid._sre" 270 (.bool true), kEn P "watched.library" 272 (.ref 27), kEn P "watched.library-objects" 0 (.str "\x0c" 0), kEn P "watched.library-deep._sre" 273 (.str "\x04\x00\x00\x0b\x04\x00\x00\x0b\x04\x00\x00\x03\x04\x00\x00\x0b\x08\x04dict\x02" 0)] 9 }
noncomputable def k3 (P : Params) : Obj := { cls := .type "dict", data := .dict #[kEn P "__name__" 165 (.str "law_rx0065_01" 728), kEn P "__doc__" 166 (.none), kEn P "__package__" 167 (.none), kEn P "__loader__" 168 (.builtin "__main__.__loader__#opaque"), kEn P "__spec__" 169 (.none), kEn P "__annotations__" 170 (.ref 6), kEn P "__builtins__" 171 (.ref 4), kEn P "__file__" 173 (.str "/claim/cut.py" 172), kEn P "__cached__" 174 (.none), kEn P "_sre" 275 (.ref 12), kEn P "_wall" 288 (.ref 38), kEn P "_NODE_OUT" 293 (.int (-1) 292), kEn P "_NODE_DONE" 296 (.int (-2) 295), kEn P "_NodeInfo" 333 (.ref 57), kEn P "CycleError" 351 (.ref 72), kEn P "TopologicalSorter" 470 (.ref 154), kEn P "_twin_re_1" 510 (.ref 163), kEn P "translate" 519 (.ref 170), kEn P "_special_chars_map" 667 (.ref 172), kEn P "escape" 674 (.ref 182), kEn P "_translate" 695 (.ref 189), kEn P "_join_translated_parts" 708 (.ref 196), kEn P "read_uint1" 718 (.ref 203), kEn P "read_bytes1" 727 (.ref 210), kEn P "_law_stream" 740 (.ref 217), kEn P "_law_rows" 754 (.ref 224), kEn P "_law_leads" 760 (.ref 229), kEn P "_law_sorter" 770 (.ref 236), kEn P "_law_run" 781 (.ref 243), kEn P "_law_held" 787 (.ref 248), kEn P "_law_turned" 793 (.ref 253), kEn P "law" 799 (.ref 258)] 32 }
noncomputable def k56 (P : Params) : Obj := { cls := .type "dict", data := .dict #[kEn P "__module__" 304 (.str "cpy313.graphlib" 289), kEn P "__firstlineno__" 308 (.int 8 307), kEn P "__slots__" 312 (.ref 46), kEn P "__init__" 320 (.ref 53), kEn P "__static_attributes__" 324 (.ref 54), kEn P "node" 326 (.ref 58), kEn P "npredecessors" 328 (.ref 59), kEn P "successors" 330 (.ref 60), kEn P "__doc__" 331 (.none)] 5 }
noncomputable def k57 (P : Params) : Obj := { cls := .type "type", data := .cls { name := "_NodeInfo", bases := [.type "object"], mro := [.ref 57, .type "object"], ns := 56, qualname := "_NodeInfo", hasDict := false, slotNames := ["node", "npredecessors", "successors"] }, slots := #[none, none, some (.str "_NodeInfo" 297), some (.str "_NodeInfo" 305), some (.builtin "object.__new__"), some (.bool false)] }
noncomputable def k58 (P : Params) : Obj := { cls := .type "member_descriptor", data := .fields #[.str "node" 325, .ref 57, .builtin "proto.slot", .builtin "proto.slot#set", .int 2 0] }
noncomputable def k59 (P : Params) : Obj := { cls := .type "member_descriptor", data := .fields #[.str "npredecessors" 327, .ref 57, .builtin "proto.slot", .builtin "proto.slot#set", .int 1 0] }
noncomputable def k60 (P : Params) : Obj := { cls := .type "member_descriptor", data := .fields #[.str "successors" 329, .ref 57, .builtin "proto.slot", .builtin "proto.slot#set", .int 0 0] }
noncomputable def k63 (P : Params) : Obj := { cls := .type "tuple", data := .seq #[.type "ValueError"] }
noncomputable def k71 (P : Params) : Obj := { cls := .type "dict", data := .dict #[kEn P "__module__" 341 (.str "cpy313.graphlib" 289), kEn P "__firstlineno__" 345 (.int 15 344), kEn P "__static_attributes__" 346 (.ref 70), kEn P "__weakref__" 348 (.ref 73), kEn P "__doc__" 349 (.none)] 3 }
noncomputable def k72 (P : Params) : Obj := { cls := .type "type", data := .cls { name := "CycleError", bases := [.type "ValueError"], mro := [.ref 72, .type "ValueError", .type "Exception", .type "BaseException", .type "object"], ns := 71, qualname := "CycleError" }, slots := #[some (.ref 63), none, some (.str "CycleError" 334), some (.str "CycleError" 342), some (.builtin "ValueError.__new__"), some (.bool true)] }
noncomputable def k83 (P : Params) : Obj := { cls := .type "tuple", data := .seq #[.none] }
noncomputable def k153 (P : Params) : Obj := { cls := .type "dict", data := .dict #[kEn P "__module__" 359 (.str "cpy313.graphlib" 289), kEn P "__firstlineno__" 363 (.int 17 362), kEn P "__init__" 373 (.ref 90), kEn P "_get_nodeinfo" 382 (.ref 97), kEn P "add" 394 (.ref 104), kEn P "prepare" 400 (.ref 109), kEn P "get_ready" 410 (.ref 116), kEn P "is_active" 417 (.ref 123), kEn P "__bool__" 424 (.ref 130), kEn P "done" 438 (.ref 137), kEn P "_find_cycle" 451 (.ref 144), kEn P "static_order" 458 (.ref 151), kEn P "__static_attributes__" 463 (.ref 152), kEn P "__dict__" 465 (.ref 155), kEn P "__weakref__" 467 (.ref 156), kEn P "__doc__" 468 (.none)] 4 }
noncomputable def k154 (P : Params) : Obj := { cls := .type "type", data := .cls { name := "TopologicalSorter", bases := [.type "object"], mro := [.ref 154, .type "object"], ns := 153, qualname := "TopologicalSorter" }, slots := #[none, none, some (.str "TopologicalSorter" 352), some (.str "TopologicalSorter" 360), some (.builtin "object.__new__"), some (.bool true)] }
noncomputable def k172 (P : Params) : Obj := { cls := .type "dict", data := .dict #[{ hash := 40, key := .int 40 523, val := .str "\\(" 527 }, { hash := 41, key := .int 41 529, val := .str "\\)" 533 }, { hash := 91, key := .int 91 535, val := .str "\\[" 539 }, { hash := 93, key := .int 93 541, val := .str "\\]" 545 }, { hash := 123, key := .int 123 547, val := .str "\\{" 551 }, { hash := 125, key := .int 125 553, val := .str "\\}" 557 }, { hash := 63, key := .int 63 559, val := .str "\\?" 563 }, { hash := 42, key := .int 42 565, val := .str "\\*" 569 }, { hash := 43, key := .int 43 571, val := .str "\\+" 575 }, { hash := 45, key := .int 45 577, val := .str "\\-" 581 }, { hash := 124, key := .int 124 583, val := .str "\\|" 587 }, { hash := 94, key := .int 94 589, val := .str "\\^" 593 }, { hash := 36, key := .int 36 595, val := .str "\\$" 599 }, { hash := 92, key := .int 92 601, val := .str "\\\\" 605 }, { hash := 46, key := .int 46 607, val := .str "\\." 611 }, { hash := 38, key := .int 38 613, val := .str "\\&" 617 }, { hash := 126, key := .int 126 619, val := .str "\\~" 623 }, { hash := 35, key := .int 35 625, val := .str "\\#" 629 }, { hash := 32, key := .int 32 631, val := .str "\\ " 635 }, { hash := 9, key := .int 9 637, val := .str "\\\t" 641 }, { hash := 10, key := .int 10 643, val := .str "\\\n" 647 }, { hash := 13, key := .int 13 649, val := .str "\\\x0d" 653 }, { hash := 11, key := .int 11 655, val := .str "\\\x0b" 659 }, { hash := 12, key := .int 12 661, val := .str "\\\x0c" 665 }] 24 }
noncomputable def kP (P : Params) : Frag := [
  (2, k2 P),
  (3, k3 P),
  (52, kCdO 2 "__init__" "_NodeInfo.__init__" 313 11 3 (.ref 47) 48 (.ref 49) (.ref 50) 51 318),
  (53, kFnO (kInAt 5 1) "_NodeInfo.__init__" (.str (Str.ofString "cpy313.graphlib") 289) .none 52),
  (56, k56 P),
  (57, k57 P),
  (58, k58 P),
  (59, k59 P),
  (60, k60 P),
  (63, k63 P),
  (71, k71 P),
  (72, k72 P),
  (83, k83 P),
  (89, kCdO 2 "__init__" "TopologicalSorter.__init__" 364 19 3 (.ref 84) 85 (.ref 86) (.ref 87) 88 371),
  (90, kFnO (kInAt 7 0) "TopologicalSorter.__init__" (.str (Str.ofString "cpy313.graphlib") 289) (.ref 83) 89),
  (96, kCdO 2 "_get_nodeinfo" "TopologicalSorter._get_nodeinfo" 374 28 3 (.ref 91) 92 (.ref 93) (.ref 94) 95 380),
  (97, kFnO (kInAt 7 1) "TopologicalSorter._get_nodeinfo" (.str (Str.ofString "cpy313.graphlib") 289) .none 96),
  (103, kCdO 2 "add" "TopologicalSorter.add" 383 33 7 (.ref 98) 99 (.ref 100) (.ref 101) 102 392),
  (104, kFnO (kInAt 7 2) "TopologicalSorter.add" (.str (Str.ofString "cpy313.graphlib") 289) .none 103),
  (108, kCdO 1 "prepare" "TopologicalSorter.prepare" 395 42 3 (.ref 105) 106 .none .none 107 398),
  (109, kFnO (kInAt 7 3) "TopologicalSorter.prepare" (.str (Str.ofString "cpy313.graphlib") 289) .none 108),
  (115, kCdO 1 "get_ready" "TopologicalSorter.get_ready" 401 50 3 (.ref 110) 111 (.ref 112) (.ref 113) 114 408),
  (116, kFnO (kInAt 7 4) "TopologicalSorter.get_ready" (.str (Str.ofString "cpy313.graphlib") 289) .none 115),
  (122, kCdO 1 "is_active" "TopologicalSorter.is_active" 411 61 3 (.ref 117) 118 (.ref 119) (.ref 120) 121 415),
  (123, kFnO (kInAt 7 5) "TopologicalSorter.is_active" (.str (Str.ofString "cpy313.graphlib") 289) .none 122),
  (136, kCdO 1 "done" "TopologicalSorter.done" 425 69 7 (.ref 131) 132 (.ref 133) (.ref 134) 135 436),
  (137, kFnO (kInAt 7 7) "TopologicalSorter.done" (.str (Str.ofString "cpy313.graphlib") 289) .none 136),
  (143, kCdO 1 "_find_cycle" "TopologicalSorter._find_cycle" 439 92 3 (.ref 138) 139 (.ref 140) (.ref 141) 142 449),
  (144, kFnO (kInAt 7 8) "TopologicalSorter._find_cycle" (.str (Str.ofString "cpy313.graphlib") 289) .none 143),
  (153, k153 P),
  (154, k154 P),
  (169, kCdO 1 "translate" "translate" 511 125 3 (.ref 164) 165 (.ref 166) (.ref 167) 168 517),
  (170, kFnO (kStAt 10) "translate" (.str (Str.ofString "cpy313.fnmatch") 471) .none 169),
  (172, k172 P),
  (181, kCdO 1 "escape" "escape" 668 131 3 (.ref 176) 177 (.ref 178) (.ref 179) 180 672),
  (182, kFnO (kStAt 13) "escape" (.str (Str.ofString "re") 520) .none 181),
  (188, kCdO 3 "_translate" "_translate" 677 138 3 (.ref 183) 184 (.ref 185) (.ref 186) 187 693),
  (189, kFnO (kStAt 15) "_translate" (.str (Str.ofString "cpy313.fnmatch") 675) .none 188),
  (195, kCdO 2 "_join_translated_parts" "_join_translated_parts" 696 200 3 (.ref 190) 191 (.ref 192) (.ref 193) 194 706),
  (196, kFnO (kStAt 16) "_join_translated_parts" (.str (Str.ofString "cpy313.fnmatch") 675) .none 195),
  (202, kCdO 1 "read_uint1" "read_uint1" 711 228 3 (.ref 197) 198 (.ref 199) (.ref 200) 201 716),
  (203, kFnO (kStAt 18) "read_uint1" (.str (Str.ofString "cpy313.pickletools") 709) .none 202),
  (209, kCdO 1 "read_bytes1" "read_bytes1" 719 233 3 (.ref 204) 205 (.ref 206) (.ref 207) 208 725),
  (210, kFnO (kStAt 19) "read_bytes1" (.str (Str.ofString "cpy313.pickletools") 709) .none 209),
  (216, kCdO 1 "_law_stream" "_law_stream" 730 241 3 (.ref 211) 212 (.ref 213) (.ref 214) 215 738),
  (217, kFnO (kStAt 21) "_law_stream" (.str (Str.ofString "law_rx0065_01") 728) .none 216),
  (223, kCdO 1 "_law_rows" "_law_rows" 741 250 3 (.ref 218) 219 (.ref 220) (.ref 221) 222 752),
  (224, kFnO (kStAt 22) "_law_rows" (.str (Str.ofString "law_rx0065_01") 728) .none 223),
  (228, kCdO 1 "_law_leads" "_law_leads" 755 260 3 (.ref 225) 226 .none .none 227 758),
  (229, kFnO (kStAt 23) "_law_leads" (.str (Str.ofString "law_rx0065_01") 728) .none 228),
  (235, kCdO 1 "_law_sorter" "_law_sorter" 761 267 3 (.ref 230) 231 (.ref 232) (.ref 233) 234 768),
  (236, kFnO (kStAt 24) "_law_sorter" (.str (Str.ofString "law_rx0065_01") 728) .none 235),
  (242, kCdO 2 "_law_run" "_law_run" 771 276 3 (.ref 237) 238 (.ref 239) (.ref 240) 241 779),
  (243, kFnO (kStAt 25) "_law_run" (.str (Str.ofString "law_rx0065_01") 728) .none 242),
  (247, kCdO 2 "_law_held" "_law_held" 782 285 3 (.ref 244) 245 .none .none 246 785),
  (248, kFnO (kStAt 26) "_law_held" (.str (Str.ofString "law_rx0065_01") 728) .none 247),
  (252, kCdO 3 "_law_turned" "_law_turned" 788 294 3 (.ref 249) 250 .none .none 251 791),
  (253, kFnO (kStAt 27) "_law_turned" (.str (Str.ofString "law_rx0065_01") 728) .none 252),
  (257, kCdO 1 "law" "law" 794 301 3 (.ref 254) 255 .none .none 256 797),
  (258, kFnO (kStAt 28) "law" (.str (Str.ofString "law_rx0065_01") 728) .none 257)]
noncomputable def kA : List Addr := [2, 3, 52, 53, 56, 57, 58, 59, 60, 63, 71, 72, 83, 89, 90, 96, 97, 103, 104, 108, 109, 115, 116, 122, 123, 136, 137, 143, 144, 153, 154, 169, 170, 172, 181, 182, 188, 189, 195, 196, 202, 203, 209, 210, 216, 217, 223, 224, 228, 229, 235, 236, 242, 243, 247, 248, 252, 253, 257, 258]
theorem kA_eq (P : Params) : kA = (kP P).map (·.1) := by kernel_rfl
end
section -- X0
noncomputable def codeOk (K : Frag) (fd : FuncData) : Bool := match fd.code with
  | .ref c => (match K.lookup c with
    | some (o : Obj) => (match o.data with
      | .fields (vs : Array Value) => (match (vs[1]? : Option Value) with
        | some (Value.str q _) => q == fd.qualname
        | _ => false)
      | _ => false)
    | _ => false)
  | _ => false
theorem code_of {K : Frag} {fd : FuncData} (h : codeOk K fd = true) : ∃ c o vs t, fd.code = .ref c ∧ K.lookup c = some o ∧ o.data = .fields vs ∧ vs[1]? = some (.str fd.qualname t) := by
  unfold codeOk at h
  split at h
  · rename_i c e1
    split at h
    · rename_i o e2
      split at h
      · rename_i vs e3
        split at h
        · rename_i q t e4
          exact ⟨c, o, vs, t, e1, e2, e3, by rw [e4, beq_iff_eq.mp h]⟩
        · cases h
      · cases h
    · cases h
  · cases h
noncomputable def KK (P : Params) (ob : Obj) : Frag := (builtinsNs, ob) :: kP P
structure BOk (ob : Obj) : Prop where
  ok : ∃ es n, ob.data = .dict es n ∧ StrKeys es ∧ ∀ x : Str, x ≠ "__name__" → nsFind es x = bootBuiltins x
theorem BOk.at {ob : Obj} {P : Params} (h : BOk ob) {x : Str} {v : Value} (hx : x ≠ "__name__") (e : bootBuiltins x = some v) : nsIn (KK P ob) builtinsNs x = some (some v) := by
  obtain ⟨es, n, h1, h2, h3⟩ := h.ok
  obtain ⟨c, d, dt, sl⟩ := ob
  dsimp only at h1
  subst h1
  have e2 := h3 x hx
  rw [e] at e2
  unfold nsIn
  have e0 : (KK P ⟨c, d, .dict es n, sl⟩).lookup builtinsNs = some ⟨c, d, .dict es n, sl⟩ := rfl
  rw [e0]
  dsimp only
  unfold nsFind findBy at e2
  rw [← Array.find?_toList] at e2
  cases q : es.toList.find? (fun e => e.key.isStr x) with
  | none => rw [q] at e2; cases e2
  | some en => rw [q] at e2; cases e2; rfl
noncomputable abbrev CC (prog : Program) (w : World) (os : OsState) (ob : Obj) (n0 : Nat) : Cx := ⟨prog, w, KK w.params ob, os, n0⟩
noncomputable def fdOf (P : Params) (a : Addr) : FuncData := match (kP P).lookup a with
  | some ⟨_, _, .func fd, _⟩ => fd
  | _ => default
noncomputable def bodyOf (P : Params) (a : Addr) : List Stmt := match (fdOf P a).body with
  | .stmts b => b
  | _ => []
noncomputable def scOf (P : Params) (a : Addr) : Scope := (fdOf P a).scope
noncomputable abbrev FnP (P : Params) (ob : Obj) (a : Addr) (dv : Value) : Prop := FnAt (KK P ob) a (fdOf P a).params (bodyOf P a) (scOf P a) dv (fdOf P a)
section
variable (P : Params) (ob : Obj)
set_option maxHeartbeats 1000000
theorem fn53 : FnP P ob 53 .none := ⟨by kernel_rfl, by kernel_rfl, by kernel_rfl, by kernel_rfl, by kernel_rfl, by kernel_rfl, by kernel_rfl, by kernel_rfl, by kernel_rfl, code_of (by kernel_rfl)⟩
theorem ok53 : fnOk (scOf P 53) = true := by kernel_rfl
theorem fn90 : FnP P ob 90 (.ref 83) := ⟨by kernel_rfl, by kernel_rfl, by kernel_rfl, by kernel_rfl, by kernel_rfl, by kernel_rfl, by kernel_rfl, by kernel_rfl, by kernel_rfl, code_of (by kernel_rfl)⟩
theorem ok90 : fnOk (scOf P 90) = true := by kernel_rfl
theorem fn97 : FnP P ob 97 .none := ⟨by kernel_rfl, by kernel_rfl, by kernel_rfl, by kernel_rfl, by kernel_rfl, by kernel_rfl, by kernel_rfl, by kernel_rfl, by kernel_rfl, code_of (by kernel_rfl)⟩
theorem ok97 : fnOk (scOf P 97) = true := by kernel_rfl
theorem fn104 : FnP P ob 104 .none := ⟨by kernel_rfl, by kernel_rfl, by kernel_rfl, by kernel_rfl, by kernel_rfl, by kernel_rfl, by kernel_rfl, by kernel_rfl, by kernel_rfl, code_of (by kernel_rfl)⟩
theorem ok104 : fnOk (scOf P 104) = true := by kernel_rfl
theorem fn109 : FnP P ob 109 .none := ⟨by kernel_rfl, by kernel_rfl, by kernel_rfl, by kernel_rfl, by kernel_rfl, by kernel_rfl, by kernel_rfl, by kernel_rfl, by kernel_rfl, code_of (by kernel_rfl)⟩
theorem ok109 : fnOk (scOf P 109) = true := by kernel_rfl
theorem fn116 : FnP P ob 116 .none := ⟨by kernel_rfl, by kernel_rfl, by kernel_rfl, by kernel_rfl, by kernel_rfl, by kernel_rfl, by kernel_rfl, by kernel_rfl, by kernel_rfl, code_of (by kernel_rfl)⟩
theorem ok116 : fnOk (scOf P 116) = true := by kernel_rfl
theorem fn137 : FnP P ob 137 .none := ⟨by kernel_rfl, by kernel_rfl, by kernel_rfl, by kernel_rfl, by kernel_rfl, by kernel_rfl, by kernel_rfl, by kernel_rfl, by kernel_rfl, code_of (by kernel_rfl)⟩
theorem ok137 : fnOk (scOf P 137) = true := by kernel_rfl
theorem fn144 : FnP P ob 144 .none := ⟨by kernel_rfl, by kernel_rfl, by kernel_rfl, by kernel_rfl, by kernel_rfl, by kernel_rfl, by kernel_rfl, by kernel_rfl, by kernel_rfl, code_of (by kernel_rfl)⟩
theorem ok144 : fnOk (scOf P 144) = true := by kernel_rfl
theorem fn170 : FnP P ob 170 .none := ⟨by kernel_rfl, by kernel_rfl, by kernel_rfl, by kernel_rfl, by kernel_rfl, by kernel_rfl, by kernel_rfl, by kernel_rfl, by kernel_rfl, code_of (by kernel_rfl)⟩
theorem ok170 : fnOk (scOf P 170) = true := by kernel_rfl
theorem fn182 : FnP P ob 182 .none := ⟨by kernel_rfl, by kernel_rfl, by kernel_rfl, by kernel_rfl, by kernel_rfl, by kernel_rfl, by kernel_rfl, by kernel_rfl, by kernel_rfl, code_of (by kernel_rfl)⟩
theorem ok182 : fnOk (scOf P 182) = true := by kernel_rfl
theorem fn189 : FnP P ob 189 .none := ⟨by kernel_rfl, by kernel_rfl, by kernel_rfl, by kernel_rfl, by kernel_rfl, by kernel_rfl, by kernel_rfl, by kernel_rfl, by kernel_rfl, code_of (by kernel_rfl)⟩
theorem ok189 : fnOk (scOf P 189) = true := by kernel_rfl
theorem fn196 : FnP P ob 196 .none := ⟨by kernel_rfl, by kernel_rfl, by kernel_rfl, by kernel_rfl, by kernel_rfl, by kernel_rfl, by kernel_rfl, by kernel_rfl, by kernel_rfl, code_of (by kernel_rfl)⟩
theorem ok196 : fnOk (scOf P 196) = true := by kernel_rfl
theorem fn203 : FnP P ob 203 .none := ⟨by kernel_rfl, by kernel_rfl, by kernel_rfl, by kernel_rfl, by kernel_rfl, by kernel_rfl, by kernel_rfl, by kernel_rfl, by kernel_rfl, code_of (by kernel_rfl)⟩
theorem ok203 : fnOk (scOf P 203) = true := by kernel_rfl
theorem fn210 : FnP P ob 210 .none := ⟨by kernel_rfl, by kernel_rfl, by kernel_rfl, by kernel_rfl, by kernel_rfl, by kernel_rfl, by kernel_rfl, by kernel_rfl, by kernel_rfl, code_of (by kernel_rfl)⟩
theorem ok210 : fnOk (scOf P 210) = true := by kernel_rfl
theorem fn217 : FnP P ob 217 .none := ⟨by kernel_rfl, by kernel_rfl, by kernel_rfl, by kernel_rfl, by kernel_rfl, by kernel_rfl, by kernel_rfl, by kernel_rfl, by kernel_rfl, code_of (by kernel_rfl)⟩
theorem ok217 : fnOk (scOf P 217) = true := by kernel_rfl
theorem fn224 : FnP P ob 224 .none := ⟨by kernel_rfl, by kernel_rfl, by kernel_rfl, by kernel_rfl, by kernel_rfl, by kernel_rfl, by kernel_rfl, by kernel_rfl, by kernel_rfl, code_of (by kernel_rfl)⟩
theorem ok224 : fnOk (scOf P 224) = true := by kernel_rfl
theorem fn229 : FnP P ob 229 .none := ⟨by kernel_rfl, by kernel_rfl, by kernel_rfl, by kernel_rfl, by kernel_rfl, by kernel_rfl, by kernel_rfl, by kernel_rfl, by kernel_rfl, code_of (by kernel_rfl)⟩
theorem ok229 : fnOk (scOf P 229) = true := by kernel_rfl
theorem fn236 : FnP P ob 236 .none := ⟨by kernel_rfl, by kernel_rfl, by kernel_rfl, by kernel_rfl, by kernel_rfl, by kernel_rfl, by kernel_rfl, by kernel_rfl, by kernel_rfl, code_of (by kernel_rfl)⟩
theorem ok236 : fnOk (scOf P 236) = true := by kernel_rfl
theorem fn243 : FnP P ob 243 .none := ⟨by kernel_rfl, by kernel_rfl, by kernel_rfl, by kernel_rfl, by kernel_rfl, by kernel_rfl, by kernel_rfl, by kernel_rfl, by kernel_rfl, code_of (by kernel_rfl)⟩
theorem ok243 : fnOk (scOf P 243) = true := by kernel_rfl
theorem fn248 : FnP P ob 248 .none := ⟨by kernel_rfl, by kernel_rfl, by kernel_rfl, by kernel_rfl, by kernel_rfl, by kernel_rfl, by kernel_rfl, by kernel_rfl, by kernel_rfl, code_of (by kernel_rfl)⟩
theorem ok248 : fnOk (scOf P 248) = true := by kernel_rfl
theorem fn253 : FnP P ob 253 .none := ⟨by kernel_rfl, by kernel_rfl, by kernel_rfl, by kernel_rfl, by kernel_rfl, by kernel_rfl, by kernel_rfl, by kernel_rfl, by kernel_rfl, code_of (by kernel_rfl)⟩
theorem ok253 : fnOk (scOf P 253) = true := by kernel_rfl
theorem fn258 : FnP P ob 258 .none := ⟨by kernel_rfl, by kernel_rfl, by kernel_rfl, by kernel_rfl, by kernel_rfl, by kernel_rfl, by kernel_rfl, by kernel_rfl, by kernel_rfl, code_of (by kernel_rfl)⟩
theorem ok258 : fnOk (scOf P 258) = true := by kernel_rfl
noncomputable def gT : List (Str × Value) := [("_NodeInfo", (.ref 57)), ("CycleError", (.ref 72)), ("TopologicalSorter", (.ref 154)), ("_NODE_OUT", (.int (-1) 292)), ("_NODE_DONE", (.int (-2) 295)), ("translate", (.ref 170)), ("_special_chars_map", (.ref 172)), ("escape", (.ref 182)), ("_translate", (.ref 189)), ("_join_translated_parts", (.ref 196)), ("read_uint1", (.ref 203)), ("read_bytes1", (.ref 210)), ("_law_stream", (.ref 217)), ("_law_rows", (.ref 224)), ("_law_leads", (.ref 229)), ("_law_sorter", (.ref 236)), ("_law_run", (.ref 243)), ("_law_held", (.ref 248)), ("_law_turned", (.ref 253))]
noncomputable def gB : List (Str × Value) := [("len", (.builtin "len")), ("range", (.type "range")), ("list", (.type "list")), ("sorted", (.builtin "sorted")), ("sum", (.builtin "sum")), ("set", (.type "set")), ("iter", (.builtin "iter")), ("tuple", (.type "tuple")), ("bool", (.type "bool")), ("bytes", (.type "bytes")), ("StopIteration", (.type "StopIteration")), ("isinstance", (.builtin "isinstance")), ("str", (.type "str")), ("object", (.type "object"))]
theorem gT_ok : ∀ p ∈ gT, nsIn (KK P ob) mainGlobals p.1 = some (some p.2) := (List.forall_mem_cons.mpr ⟨by kernel_rfl, (List.forall_mem_cons.mpr ⟨by kernel_rfl, (List.forall_mem_cons.mpr ⟨by kernel_rfl, (List.forall_mem_cons.mpr ⟨by kernel_rfl, (List.forall_mem_cons.mpr ⟨by kernel_rfl, (List.forall_mem_cons.mpr ⟨by kernel_rfl, (List.forall_mem_cons.mpr ⟨by kernel_rfl, (List.forall_mem_cons.mpr ⟨by kernel_rfl, (List.forall_mem_cons.mpr ⟨by kernel_rfl, (List.forall_mem_cons.mpr ⟨by kernel_rfl, (List.forall_mem_cons.mpr ⟨by kernel_rfl, (List.forall_mem_cons.mpr ⟨by kernel_rfl, (List.forall_mem_cons.mpr ⟨by kernel_rfl, (List.forall_mem_cons.mpr ⟨by kernel_rfl, (List.forall_mem_cons.mpr ⟨by kernel_rfl, (List.forall_mem_cons.mpr ⟨by kernel_rfl, (List.forall_mem_cons.mpr ⟨by kernel_rfl, (List.forall_mem_cons.mpr ⟨by kernel_rfl, (List.forall_mem_cons.mpr ⟨by kernel_rfl, (fun _ h => nomatch h)⟩)⟩)⟩)⟩)⟩)⟩)⟩)⟩)⟩)⟩)⟩)⟩)⟩)⟩)⟩)⟩)⟩)⟩)⟩)
theorem gB_ok : ∀ p ∈ gB, nsIn (KK P ob) mainGlobals p.1 = some none ∧ p.1 ≠ "__name__" ∧ bootBuiltins p.1 = some p.2 := (List.forall_mem_cons.mpr ⟨⟨by kernel_rfl, by decide, by kernel_rfl⟩, (List.forall_mem_cons.mpr ⟨⟨by kernel_rfl, by decide, by kernel_rfl⟩, (List.forall_mem_cons.mpr ⟨⟨by kernel_rfl, by decide, by kernel_rfl⟩, (List.forall_mem_cons.mpr ⟨⟨by kernel_rfl, by decide, by kernel_rfl⟩, (List.forall_mem_cons.mpr ⟨⟨by kernel_rfl, by decide, by kernel_rfl⟩, (List.forall_mem_cons.mpr ⟨⟨by kernel_rfl, by decide, by kernel_rfl⟩, (List.forall_mem_cons.mpr ⟨⟨by kernel_rfl, by decide, by kernel_rfl⟩, (List.forall_mem_cons.mpr ⟨⟨by kernel_rfl, by decide, by kernel_rfl⟩, (List.forall_mem_cons.mpr ⟨⟨by kernel_rfl, by decide, by kernel_rfl⟩, (List.forall_mem_cons.mpr ⟨⟨by kernel_rfl, by decide, by kernel_rfl⟩, (List.forall_mem_cons.mpr ⟨⟨by kernel_rfl, by decide, by kernel_rfl⟩, (List.forall_mem_cons.mpr ⟨⟨by kernel_rfl, by decide, by kernel_rfl⟩, (List.forall_mem_cons.mpr ⟨⟨by kernel_rfl, by decide, by kernel_rfl⟩, (List.forall_mem_cons.mpr ⟨⟨by kernel_rfl, by decide, by kernel_rfl⟩, (fun _ h => nomatch h)⟩)⟩)⟩)⟩)⟩)⟩)⟩)⟩)⟩)⟩)⟩)⟩)⟩)⟩)
theorem gl_own {P : Params} {ob : Obj} {x : Str} {v : Value} (h : gT.lookup x = some v) : nsIn (KK P ob) mainGlobals x = some (some v) ∨ (nsIn (KK P ob) mainGlobals x = some none ∧ nsIn (KK P ob) builtinsNs x = some (some v)) := .inl (gT_ok P ob _ (mem_of_lookup h))
theorem gl_bi {P : Params} {ob : Obj} (hb : BOk ob) {x : Str} {v : Value} (h : gB.lookup x = some v) : nsIn (KK P ob) mainGlobals x = some (some v) ∨ (nsIn (KK P ob) mainGlobals x = some none ∧ nsIn (KK P ob) builtinsNs x = some (some v)) :=
  let z := gB_ok P ob _ (mem_of_lookup h)
  .inr ⟨z.1, hb.at z.2.1 z.2.2⟩
theorem kp__NodeInfo : keepIn (KK P ob) (.ref 57) = true := by kernel_rfl
theorem kp_TopologicalSorter : keepIn (KK P ob) (.ref 154) = true := by kernel_rfl
theorem kp_escape : keepIn (KK P ob) (.ref 182) = true := by kernel_rfl
theorem kp_read_uint1 : keepIn (KK P ob) (.ref 203) = true := by kernel_rfl
theorem cls57 : ∃ cd, ClsOk (KK P ob) 57 cd ∧ cd.hasDict = false := ⟨(clsIn (KK P ob) 57).getD default, ⟨by kernel_rfl, by kernel_rfl, by kernel_rfl, by kernel_rfl, by kernel_rfl⟩, by kernel_rfl⟩
theorem mk57 : makesIn (KK P ob) 57 = true := by kernel_rfl
theorem in57 : findIn (KK P ob) (.ref 57) "__init__" = some (some (.ref 53)) := by kernel_rfl
theorem cls154 : ∃ cd, ClsOk (KK P ob) 154 cd ∧ cd.hasDict = true := ⟨(clsIn (KK P ob) 154).getD default, ⟨by kernel_rfl, by kernel_rfl, by kernel_rfl, by kernel_rfl, by kernel_rfl⟩, by kernel_rfl⟩
theorem mk154 : makesIn (KK P ob) 154 = true := by kernel_rfl
theorem in154 : findIn (KK P ob) (.ref 154) "__init__" = some (some (.ref 90)) := by kernel_rfl
theorem slot_node : SlotOk (KK P ob) 57 "node" 58 0 := ⟨by kernel_rfl, by kernel_rfl, by kernel_rfl, by kernel_rfl, by kernel_rfl⟩
theorem slot_npredecessors : SlotOk (KK P ob) 57 "npredecessors" 59 1 := ⟨by kernel_rfl, by kernel_rfl, by kernel_rfl, by kernel_rfl, by kernel_rfl⟩
theorem slot_successors : SlotOk (KK P ob) 57 "successors" 60 2 := ⟨by kernel_rfl, by kernel_rfl, by kernel_rfl, by kernel_rfl, by kernel_rfl⟩
theorem no_node2info : findIn (KK P ob) (.ref 154) "_node2info" = some none := by kernel_rfl
theorem no_ready_nodes : findIn (KK P ob) (.ref 154) "_ready_nodes" = some none := by kernel_rfl
theorem no_npassedout : findIn (KK P ob) (.ref 154) "_npassedout" = some none := by kernel_rfl
theorem no_nfinished : findIn (KK P ob) (.ref 154) "_nfinished" = some none := by kernel_rfl
theorem me_get_nodeinfo : findIn (KK P ob) (.ref 154) "_get_nodeinfo" = some (some (.ref 97)) := by kernel_rfl
theorem me_add : findIn (KK P ob) (.ref 154) "add" = some (some (.ref 104)) := by kernel_rfl
theorem me_prepare : findIn (KK P ob) (.ref 154) "prepare" = some (some (.ref 109)) := by kernel_rfl
theorem me_get_ready : findIn (KK P ob) (.ref 154) "get_ready" = some (some (.ref 116)) := by kernel_rfl
theorem me_done : findIn (KK P ob) (.ref 154) "done" = some (some (.ref 137)) := by kernel_rfl
theorem me_find_cycle : findIn (KK P ob) (.ref 154) "_find_cycle" = some (some (.ref 144)) := by kernel_rfl
theorem ty53 : typeIn (KK P ob) (.ref 53) = some (.type "function") := by kernel_rfl
theorem ty90 : typeIn (KK P ob) (.ref 90) = some (.type "function") := by kernel_rfl
theorem ty97 : typeIn (KK P ob) (.ref 97) = some (.type "function") := by kernel_rfl
theorem kf97 : keepIn (KK P ob) (.ref 97) = true := by kernel_rfl
theorem ty104 : typeIn (KK P ob) (.ref 104) = some (.type "function") := by kernel_rfl
theorem ty109 : typeIn (KK P ob) (.ref 109) = some (.type "function") := by kernel_rfl
theorem kf109 : keepIn (KK P ob) (.ref 109) = true := by kernel_rfl
theorem ty116 : typeIn (KK P ob) (.ref 116) = some (.type "function") := by kernel_rfl
theorem kf116 : keepIn (KK P ob) (.ref 116) = true := by kernel_rfl
theorem ty137 : typeIn (KK P ob) (.ref 137) = some (.type "function") := by kernel_rfl
theorem kf137 : keepIn (KK P ob) (.ref 137) = true := by kernel_rfl
theorem ty144 : typeIn (KK P ob) (.ref 144) = some (.type "function") := by kernel_rfl
theorem kf144 : keepIn (KK P ob) (.ref 144) = true := by kernel_rfl
end
end
section -- X2
theorem AH.set_set (H : AH) (a : Addr) (o o' : O) : (H.set a o).set a o' = H.set a o' := by funext b; unfold AH.set; split <;> rfl
theorem AH.set_comm (H : AH) {a b : Addr} (o o' : O) (h : a ≠ b) : (H.set a o).set b o' = (H.set b o').set a o := by
  funext c; unfold AH.set
  by_cases h1 : c = a
  · subst h1; simp [h]
  · simp [h1]
theorem ne_of_at {H : AH} {a b : Addr} {o o' : O} (h : H a = some o) (h' : H b = some o') (n : (o.ctorIdx == o'.ctorIdx) = false) : a ≠ b := fun q => by rw [q, h'] at h; cases h; rw [beq_self_eq_true] at n; cases n
theorem ne_of_ne {H : AH} {a b : Addr} {o o' : O} (h : H a = some o) (h' : H b = some o') (n : o ≠ o') : a ≠ b := fun q => n (by rw [q, h'] at h; cases h; rfl)
theorem new_ne {H : AH} {a b : Addr} {o : O} (h : H a = none) (h' : H b = some o) : b ≠ a := fun q => by rw [q, h] at h'; cases h'
theorem fresh_ne {H : AH} {a b : Addr} {o : O} (h : (H.set a o) b = none) : b ≠ a ∧ H b = none := by
  have : b ≠ a := fun z => by rw [z, AH.set_self] at h; cases h
  exact ⟨this, by rw [AH.set_ne _ _ this] at h; exact h⟩
theorem ne_of_new {H : AH} {a b : Addr} {o : O} (h : H a = none) (h' : H b = some o) : a ≠ b := fun q => by rw [q, h'] at h; cases h
theorem AH.set_at {H : AH} {a b : Addr} {z : Option O} {o' : O} (h : H b = z) (n : b ≠ a) : (H.set a o') b = z := (AH.set_ne _ _ n).trans h
theorem Ext.put {H H' : AH} (h : Ext H H') {D : Addr} (hD : H D = none) (o : O) : Ext H (H'.set D o) := h.set hD o

structure SD where
  x : Addr
  d : Addr
  m : Addr
  rd : Option (Addr × List Int)
  po : Int
  fi : Int
  ks : List Int
  a : Int → Addr
  e : Int → Addr
  sc : Int → Addr
  np : Int → Int
  su : Int → List Int
noncomputable def SD.rv (D : SD) : V := match D.rd with
  | none => .none
  | some (r, _) => .ref r
noncomputable def SD.at (D : SD) : List (Str × V) := [("_node2info", .ref D.m), ("_ready_nodes", D.rv), ("_npassedout", .int D.po), ("_nfinished", .int D.fi)]
structure Srt (H0 H : AH) (D : SD) : Prop where
  ext : Ext H0 H
  hx : H D.x = some (.inst 154 D.d)
  hd : H D.d = some (.attrs D.at)
  hm : ∃ ep, H D.m = some (.dict (D.ks.map fun k => (k, V.ref (D.a k))) ep)
  nd : D.ks.Nodup
  ha : ∀ k ∈ D.ks, H (D.a k) = some (.slots 57 (D.e k) [some (.int k), some (.int (D.np k)), some (.ref (D.sc k))])
  he : ∀ k ∈ D.ks, H (D.e k) = some (.attrs [])
  hs : ∀ k ∈ D.ks, H (D.sc k) = some (.list (iL (D.su k)))
  is : ∀ k ∈ D.ks, ∀ j ∈ D.ks, D.sc k = D.sc j → k = j
  rd : ∀ r l, D.rd = some (r, l) → H r = some (.list (iL l)) ∧ H0 r = none ∧ ∀ k ∈ D.ks, D.sc k ≠ r
  f0 : H0 D.x = none ∧ H0 D.d = none ∧ H0 D.m = none
  fk : ∀ k ∈ D.ks, H0 (D.a k) = none ∧ H0 (D.e k) = none ∧ H0 (D.sc k) = none
  df : ∀ k, k ∉ D.ks → D.np k = 0 ∧ D.su k = []
noncomputable def own (D : SD) (b : Addr) : Prop := b = D.d ∨ b = D.m ∨ (∃ r l, D.rd = some (r, l) ∧ b = r) ∨ ∃ k ∈ D.ks, b = D.a k ∨ b = D.sc k
noncomputable def Kp (P : Addr → Prop) (H H' : AH) : Prop := ∀ b o, H b = some o → ¬ P b → H' b = some o
structure Stp (H0 : AH) (D : SD) (H : AH) (D' : SD) (H' : AH) : Prop where
  s : Srt H0 H' D'
  k : Kp (own D) H H'
  o : ∀ b, own D' b → own D b ∨ H b = none
  x : D'.x = D.x
variable {H0 H : AH} {D : SD}
theorem Stp.refl (h : Srt H0 H D) : Stp H0 D H D H := ⟨h, fun _ _ e _ => e, fun _ h => .inl h, rfl⟩
theorem Stp.trans {D' D'' : SD} {H' H'' : AH} (h : Stp H0 D H D' H') (h' : Stp H0 D' H' D'' H'') : Stp H0 D H D'' H'' := by
  have key : ∀ b, own D' b → ∀ o, H b = some o → own D b := fun b hb o e => by
    rcases h.o b hb with z | z
    · exact z
    · rw [z] at e; cases e
  refine ⟨h'.s, fun b o e n => h'.k b o (h.k b o e n) fun z => n (key b z o e), fun b hb => ?_, h'.x.trans h.x⟩
  rcases h'.o b hb with z | z
  · exact h.o b z
  · by_cases q : own D b
    · exact .inl q
    · right
      cases e : H b with
      | none => rfl
      | some o => rw [h.k b o e q] at z; cases z
noncomputable def upd {α : Type} (f : Int → α) (k : Int) (v : α) : Int → α := fun j => if j = k then v else f j
@[simp] theorem upd_self {α : Type} (f : Int → α) (k : Int) (v : α) : upd f k v k = v := by simp [upd]
theorem upd_ne {α : Type} (f : Int → α) {k j : Int} (v : α) (h : j ≠ k) : upd f k v j = f j := by simp [upd, h]
theorem Srt.ia (h : Srt H0 H D) {k j : Int} (hk : k ∈ D.ks) (hj : j ∈ D.ks) (e : D.a k = D.a j) : k = j := by
  have := h.ha k hk
  rw [e, h.ha j hj] at this
  simp only [Option.some.injEq, O.slots.injEq, List.cons.injEq, V.int.injEq] at this
  exact this.2.2.1.symm
theorem Srt.setNp (h : Srt H0 H D) {k : Int} (hk : k ∈ D.ks) (v : Int) : Stp H0 D H { D with np := upd D.np k v } (H.set (D.a k) (.slots 57 (D.e k) [some (.int k), some (.int v), some (.ref (D.sc k))])) := by
  have hak := h.ha k hk
  refine ⟨⟨h.ext.put (h.fk k hk).1 _, AH.set_at h.hx (ne_of_at h.hx hak rfl), AH.set_at h.hd (ne_of_at h.hd hak rfl), let ⟨ep, z⟩ := h.hm; ⟨ep, AH.set_at z (ne_of_at z hak rfl)⟩, h.nd, fun j hj => ?_, fun j hj => AH.set_at (h.he j hj) (ne_of_at (h.he j hj) hak rfl),
    fun j hj => AH.set_at (h.hs j hj) (ne_of_at (h.hs j hj) hak rfl), h.is, fun r l e => ?_, h.f0, h.fk, fun j hj => ?_⟩, fun b o e n => ?_, fun b hb => .inl hb, rfl⟩
  · by_cases q : j = k
    · subst q; simp
    · rw [AH.set_ne _ _ (fun z => q (h.ia hj hk z))]
      simpa [upd_ne _ _ q] using h.ha j hj
  · obtain ⟨z1, z2, z3⟩ := h.rd r l e
    exact ⟨AH.set_at z1 (ne_of_at z1 hak rfl), z2, z3⟩
  · have q : j ≠ k := fun z => hj (z ▸ hk)
    exact ⟨by simpa [upd_ne _ _ q] using (h.df j hj).1, (h.df j hj).2⟩
  · exact AH.set_at e fun q => n (.inr (.inr (.inr ⟨k, hk, .inl q⟩)))
theorem Srt.setSu (h : Srt H0 H D) {k : Int} (hk : k ∈ D.ks) (l : List Int) : Stp H0 D H { D with su := upd D.su k l } (H.set (D.sc k) (.list (iL l))) := by
  have hak := h.hs k hk
  refine ⟨⟨h.ext.put (h.fk k hk).2.2 _, AH.set_at h.hx (ne_of_at h.hx hak rfl), AH.set_at h.hd (ne_of_at h.hd hak rfl), let ⟨ep, z⟩ := h.hm; ⟨ep, AH.set_at z (ne_of_at z hak rfl)⟩, h.nd, fun j hj => AH.set_at (h.ha j hj) (ne_of_at (h.ha j hj) hak rfl), fun j hj => AH.set_at (h.he j hj) (ne_of_at (h.he j hj) hak rfl),
    fun j hj => ?_, h.is, fun r l e => ?_, h.f0, h.fk, fun j hj => ?_⟩, fun b o e n => ?_, fun b hb => .inl hb, rfl⟩
  · by_cases q : j = k
    · subst q; simp
    · rw [AH.set_ne _ _ (fun z => q (h.is j hj k hk z))]
      simpa [upd_ne _ _ q] using h.hs j hj
  · obtain ⟨z1, z2, z3⟩ := h.rd r l e
    exact ⟨AH.set_at z1 (fun q => z3 k hk q.symm), z2, z3⟩
  · have q : j ≠ k := fun z => hj (z ▸ hk)
    exact ⟨(h.df j hj).1, by simpa [upd_ne _ _ q] using (h.df j hj).2⟩
  · exact AH.set_at e fun q => n (.inr (.inr (.inr ⟨k, hk, .inr q⟩)))
theorem Srt.setRd (h : Srt H0 H D) {r : Addr} {l : List Int} (hr : D.rd = some (r, l)) (l' : List Int) : Stp H0 D H { D with rd := some (r, l') } (H.set r (.list (iL l'))) := by
  obtain ⟨hak, hn, hns⟩ := h.rd r l hr
  have e0 : SD.at { D with rd := some (r, l') } = D.at := by unfold SD.at SD.rv; rw [hr]
  refine ⟨⟨h.ext.put hn _, AH.set_at h.hx (ne_of_at h.hx hak rfl), ?_, let ⟨ep, z⟩ := h.hm; ⟨ep, AH.set_at z (ne_of_at z hak rfl)⟩, h.nd, fun j hj => AH.set_at (h.ha j hj) (ne_of_at (h.ha j hj) hak rfl), fun j hj => AH.set_at (h.he j hj) (ne_of_at (h.he j hj) hak rfl),
    fun j hj => AH.set_at (h.hs j hj) (hns j hj), h.is, fun r2 l2 e => ?_, h.f0, h.fk, h.df⟩, fun b o e n => ?_, fun b hb => .inl ?_, rfl⟩
  · rw [e0]; exact AH.set_at h.hd (ne_of_at h.hd hak rfl)
  · cases e; exact ⟨AH.set_self .., hn, hns⟩
  · exact AH.set_at e fun q => n (.inr (.inr (.inl ⟨r, l, hr, q⟩)))
  · rcases hb with z | z | ⟨r2, l2, z1, z2⟩ | z
    · exact .inl z
    · exact .inr (.inl z)
    · cases z1; exact .inr (.inr (.inl ⟨r, l, hr, z2⟩))
    · exact .inr (.inr (.inr z))
theorem Srt.setAt (h : Srt H0 H D) {D' : SD} (e1 : D'.x = D.x) (e2 : D'.d = D.d) (e3 : D'.m = D.m) (e4 : D'.ks = D.ks) (e5 : D'.a = D.a) (e6 : D'.e = D.e) (e7 : D'.sc = D.sc) (e8 : D'.np = D.np) (e9 : D'.su = D.su)
    (hrd : D'.rd = D.rd ∨ ∃ r l, D.rd = none ∧ D'.rd = some (r, l) ∧ H r = some (.list (iL l)) ∧ H0 r = none ∧ ∀ k ∈ D.ks, D.sc k ≠ r) :
    Srt H0 (H.set D.d (.attrs D'.at)) D' ∧ Kp (own D) H (H.set D.d (.attrs D'.at)) ∧ ∀ b, own D' b → own D b ∨ ∃ r l, D.rd = none ∧ D'.rd = some (r, l) ∧ b = r := by
  have hak := h.hd
  refine ⟨⟨h.ext.put h.f0.2.1 _, ?_, ?_, let ⟨ep, z⟩ := h.hm; ⟨ep, ?_⟩, e4 ▸ h.nd, fun j hj => ?_, fun j hj => ?_, fun j hj => ?_, ?_, fun r2 l2 e => ?_, ?_, ?_, ?_⟩, fun b o e n => ?_, fun b hb => ?_⟩
  · rw [e1, e2]; exact AH.set_at h.hx (ne_of_at h.hx hak rfl)
  · rw [e2]; exact AH.set_self ..
  · rw [e3, e4, e5]; exact AH.set_at z (ne_of_at z hak rfl)
  · rw [e4] at hj
    rw [e5, e6, e7, e8]; exact AH.set_at (h.ha j hj) (ne_of_at (h.ha j hj) hak rfl)
  · rw [e4] at hj
    rw [e6]
    refine AH.set_at (h.he j hj) (ne_of_ne (h.he j hj) hak ?_)
    unfold SD.at; simp
  · rw [e4] at hj
    rw [e7, e9]; exact AH.set_at (h.hs j hj) (ne_of_at (h.hs j hj) hak rfl)
  · rw [e4, e7]; exact h.is
  · rw [e4, e7]
    rcases hrd with z | ⟨r, l, z1, z2, z3, z4, z5⟩
    · rw [z] at e
      obtain ⟨y1, y2, y3⟩ := h.rd r2 l2 e
      exact ⟨AH.set_at y1 (ne_of_at y1 hak rfl), y2, y3⟩
    · rw [z2] at e; cases e
      exact ⟨AH.set_at z3 (ne_of_at z3 hak rfl), z4, z5⟩
  · rw [e1, e2, e3]; exact h.f0
  · rw [e4, e5, e6, e7]; exact h.fk
  · rw [e4, e8, e9]; exact h.df
  · exact AH.set_at e fun q => n (.inl q)
  · rcases hb with z | z | ⟨r2, l2, y1, y2⟩ | ⟨k, y1, y2⟩
    · exact .inl (.inl (z.trans e2))
    · exact .inl (.inr (.inl (z.trans e3)))
    · rcases hrd with q | ⟨r, l, z1, z2, _⟩
      · exact .inl (.inr (.inr (.inl ⟨r2, l2, q ▸ y1, y2⟩)))
      · exact .inr ⟨r2, l2, z1, y1, y2⟩
    · rw [e4] at y1; rw [e5, e7] at y2
      exact .inl (.inr (.inr (.inr ⟨k, y1, y2⟩)))
end
section
variable {H0 H : AH} {D : SD}
theorem Srt.more (h : Srt H0 H D) {H' : AH} (e : Ext H H') : Srt H0 H' D :=
  ⟨h.ext.trans e, e _ _ h.hx, e _ _ h.hd, let ⟨ep, z⟩ := h.hm; ⟨ep, e _ _ z⟩, h.nd, fun k hk => e _ _ (h.ha k hk), fun k hk => e _ _ (h.he k hk), fun k hk => e _ _ (h.hs k hk), h.is, fun r l q => let ⟨a, b, c⟩ := h.rd r l q; ⟨e _ _ a, b, c⟩, h.f0, h.fk, h.df⟩
theorem Stp.more (h : Srt H0 H D) {H' : AH} (e : Ext H H') : Stp H0 D H D H' := ⟨h.more e, fun b o q _ => e _ _ q, fun _ h => .inl h, rfl⟩
theorem Ext.none {H H' : AH} (e : Ext H H') {b : Addr} (h : H' b = none) : H b = none := by
  cases q : H b with
  | none => rfl
  | some o => rw [e _ _ q] at h; cases h
theorem Srt.addKey (h : Srt H0 H D) {k : Int} (hk : k ∉ D.ks) {a' e' sc' : Addr} {H1 : AH} (e1 : Ext H H1) (na : H a' = none) (ne : H e' = none) (ns : H sc' = none) (ha : H1 a' = some (.slots 57 e' [some (.int k), some (.int 0), some (.ref sc')])) (he : H1 e' = some (.attrs [])) (hs : H1 sc' = some (.list (iL []))) {ep : Nat} :
    Stp H0 D H { D with ks := D.ks ++ [k], a := upd D.a k a', e := upd D.e k e', sc := upd D.sc k sc' } (H1.set D.m (.dict (D.ks.map (fun k => (k, V.ref (D.a k))) ++ [(k, V.ref a')]) ep)) := by
  obtain ⟨ep0, hm⟩ := h.hm
  have hak := e1 _ _ hm
  have h1 := h.more e1
  have nin : ∀ j, j ∈ D.ks → j ≠ k := fun j hj q => hk (q ▸ hj)
  have mem : ∀ j, j ∈ D.ks ++ [k] → j ∈ D.ks ∨ j = k := fun j hj => by simpa using hj
  have scn : ∀ j ∈ D.ks, D.sc j ≠ sc' := fun j hj q => by have := h.hs j hj; rw [q, ns] at this; cases this
  refine ⟨⟨h1.ext.put h.f0.2.2 _, AH.set_at h1.hx (ne_of_at h1.hx hak rfl), AH.set_at h1.hd (ne_of_at h1.hd hak rfl), ⟨ep, ?_⟩, ?_, fun j hj => ?_, fun j hj => ?_, fun j hj => ?_, fun j hj l hl q => ?_, fun r l q => ?_, h.f0, fun j hj => ?_, fun j hj => ?_⟩, fun b o e n => ?_, fun b hb => ?_, rfl⟩
  · rw [AH.set_self]
    congr 2
    dsimp only
    rw [List.map_append]
    congr 1
    · refine List.map_congr_left fun j hj => ?_
      rw [upd_ne _ _ (nin j hj)]
    · simp
  · refine List.nodup_append.mpr ⟨h.nd, by simp, fun j hj l hl => ?_⟩
    rw [List.mem_singleton] at hl
    subst hl; exact nin j hj
  · dsimp only
    rcases mem j hj with z | rfl
    · rw [upd_ne _ _ (nin j z), upd_ne _ _ (nin j z), upd_ne _ _ (nin j z)]
      exact AH.set_at (h1.ha j z) (ne_of_at (h1.ha j z) hak rfl)
    · rw [upd_self, upd_self, upd_self, (h.df j hk).1]
      exact AH.set_at ha (ne_of_at ha hak rfl)
  · dsimp only
    rcases mem j hj with z | rfl
    · rw [upd_ne _ _ (nin j z)]
      exact AH.set_at (h1.he j z) (ne_of_at (h1.he j z) hak rfl)
    · rw [upd_self]
      exact AH.set_at he (ne_of_at he hak rfl)
  · dsimp only
    rcases mem j hj with z | rfl
    · rw [upd_ne _ _ (nin j z)]
      exact AH.set_at (h1.hs j z) (ne_of_at (h1.hs j z) hak rfl)
    · rw [upd_self, (h.df j hk).2]
      exact AH.set_at hs (ne_of_at hs hak rfl)
  · dsimp only at q
    rcases mem j hj with z | rfl <;> rcases mem l hl with z' | rfl
    · rw [upd_ne _ _ (nin j z), upd_ne _ _ (nin l z')] at q; exact h.is j z l z' q
    · rw [upd_ne _ _ (nin j z), upd_self] at q; exact absurd q (scn j z)
    · rw [upd_ne _ _ (nin l z'), upd_self] at q; exact absurd q.symm (scn l z')
    · rfl
  · obtain ⟨z1, z2, z3⟩ := h1.rd r l q
    refine ⟨AH.set_at z1 (ne_of_at z1 hak rfl), z2, fun j hj => ?_⟩
    dsimp only
    rcases mem j hj with z | rfl
    · rw [upd_ne _ _ (nin j z)]; exact z3 j z
    · rw [upd_self]
      obtain ⟨y1, _⟩ := h.rd r l q
      exact ne_of_new ns y1
  · dsimp only
    rcases mem j hj with z | rfl
    · rw [upd_ne _ _ (nin j z), upd_ne _ _ (nin j z), upd_ne _ _ (nin j z)]; exact h.fk j z
    · rw [upd_self, upd_self, upd_self]; exact ⟨h.ext.none na, h.ext.none ne, h.ext.none ns⟩
  · dsimp only at hj
    rw [List.mem_append, not_or] at hj
    exact h.df j hj.1
  · exact AH.set_at (e1 _ _ e) fun q => n (.inr (.inl q))
  · rcases hb with z | z | z | ⟨j, z1, z2⟩
    · exact .inl (.inl z)
    · exact .inl (.inr (.inl z))
    · exact .inl (.inr (.inr (.inl z)))
    · dsimp only at z1 z2
      rcases mem j z1 with z | rfl
      · rw [upd_ne _ _ (nin j z), upd_ne _ _ (nin j z)] at z2
        exact .inl (.inr (.inr (.inr ⟨j, z, z2⟩)))
      · rw [upd_self, upd_self] at z2
        rcases z2 with rfl | rfl
        · exact .inr na
        · exact .inr ns
theorem dget_map {α : Type} (f : Int → V) : ∀ (l : List Int) (i : Int), dget (l.map fun k => (k, f k)) i = if i ∈ l then some (f i) else none
  | [], i => rfl
  | k :: l, i => by
    have ih := dget_map (α := α) f l i
    unfold dget at ih ⊢
    rw [List.map_cons, List.find?_cons]
    by_cases q : k = i
    · subst q; simp
    · have : (decide (k = i)) = false := by simpa using q
      dsimp only
      rw [this]
      dsimp only
      rw [ih]
      have e : (i ∈ k :: l) ↔ i ∈ l := by
        rw [List.mem_cons]; constructor
        · rintro (h | h)
          · exact absurd h.symm q
          · exact h
        · exact .inr
      simp only [e]
theorem Srt.dgetK (h : Srt H0 H D) (i : Int) : dget (D.ks.map fun k => (k, V.ref (D.a k))) i = if i ∈ D.ks then some (.ref (D.a i)) else none := dget_map (α := Unit) _ _ _
theorem dput_new {l : List (Int × V)} {k : Int} {v : V} (h : dget l k = none) : dput l k v = l ++ [(k, v)] := by
  unfold dput
  have : l.any (fun p => decide (p.1 = k)) = false := by
    unfold dget at h
    rw [Option.map_eq_none_iff, List.find?_eq_none] at h
    rw [List.any_eq_false]
    exact h
  rw [this]; rfl
end
section -- Y1
namespace Bd
theorem slot_ga : Slot "list_iterator" "__getattribute__" "object.__getattribute__" :=
  .of (owner := "object") (n := "__getattribute__") (by rw [typeLookup_type, builtinLookup_eq_fast]; kernel_rfl) (by decide +kernel) (by decide +kernel) (by decide +kernel)
    (by first | exact .inl (by decide +kernel) | exact .inr (by decide +kernel)) (by rw [isSubtype_type]; kernel_rfl)
theorem slot_get : Slot "wrapper_descriptor" "__get__" "wrapper_descriptor.__get__" :=
  .of (owner := "wrapper_descriptor") (n := "__get__") (by rw [typeLookup_type, builtinLookup_eq_fast]; kernel_rfl) (by decide +kernel) (by decide +kernel) (by decide +kernel)
    (by first | exact .inl (by decide +kernel) | exact .inr (by decide +kernel)) (by rw [isSubtype_type]; kernel_rfl)
theorem entry_get : entryFor table "wrapper_descriptor.__get__" = some Builtin.«wrapper_descriptor.__get__» := entryFor_of_tree (by kernel_rfl)
theorem args_get (a b c : Value) : argsOk "wrapper_descriptor.__get__" ⟨[a, b, c], []⟩ := by unfold argsOk; kernel_rfl
theorem ty_next : typeOf (.builtin "list_iterator.__next__") = pure (.type "wrapper_descriptor") := by kernel_rfl
theorem lk_next : typeLookup (.type "list_iterator") "__next__" = pure (some (.builtin "list_iterator.__next__")) := by rw [typeLookup_type, builtinLookup_eq_fast]; kernel_rfl
theorem lk_set : typeLookup (.type "wrapper_descriptor") "__set__" = pure none := by rw [typeLookup_type, builtinLookup_eq_fast]; kernel_rfl
theorem lk_del : typeLookup (.type "wrapper_descriptor") "__delete__" = pure none := by rw [typeLookup_type, builtinLookup_eq_fast]; kernel_rfl
theorem own : (".".intercalate ("list_iterator.__next__".cutAt '.').dropLast) = "list_iterator" := by decide +kernel
theorem sub_li : isSubtype (.type "list_iterator") (.type "list_iterator") = pure true := by rw [isSubtype_type]; kernel_rfl
end Bd
section
variable {prog : Program} {w : World} {A : Around} {E : Value → Shared → Prop} {h : Heap} {g : Array GenState} {d : Drawn} {t : Nat} {os : OsState} {a : Addr} {o : Obj}
noncomputable abbrev mwObj (f self : Value) : Obj := { cls := .type "method-wrapper", data := .fields #[f, self] }
theorem bd_get {Q : Value → Shared → Prop} (hx : h.get? a = some o) (hc : o.cls = .type "list_iterator") (hq : Q (.ref h.objs.size) ⟨h.push (mwObj (.builtin "list_iterator.__next__") (.ref a)), g, d, t, os⟩) :
    wpAny (model prog w) A (call (.builtin "wrapper_descriptor.__get__") [.builtin "list_iterator.__next__", .ref a, .type "list_iterator"]) Q E ⟨h, g, d, t, os⟩ := by
  have hT : (⟨h, g, d, t, os⟩ : Shared).TypeIs (.ref a) "list_iterator" := ⟨_, hx, hc⟩
  have hT5 : (⟨h, g, d, t, os⟩ : Shared).TypeIs (.builtin "list_iterator.__next__") "wrapper_descriptor" := Bd.ty_next
  refine wpAny_call_entry Bd.slot_get hT5 Bd.entry_get ?_ (Bd.args_get _ _ _)
  have f1 : isSubtype (.type "list_iterator") (.type (".".intercalate ("list_iterator.__next__".cutAt '.').dropLast)) = pure true := by rw [Bd.own]; exact Bd.sub_li
  repeat (any_goals (first | assumption | wp_step))
  exact ⟨_, rfl, hq⟩
theorem bd_entry {tk : Tok} {Q : Fin → Shared → Prop} (hx : h.get? a = some o) (hc : o.cls = .type "list_iterator") (hd : o.dict = none) {vs : Array Value} (hn : o.data = .fields vs) (hq : Q (.done (.ret (.ref h.objs.size))) ⟨h.push (mwObj (.builtin "list_iterator.__next__") (.ref a)), g, d, t, os⟩) :
    wpAny (model prog w) A (Builtin.«object.__getattribute__» ⟨[.ref a, .str "__next__" tk], []⟩) Q E ⟨h, g, d, t, os⟩ := by
  have hT : (⟨h, g, d, t, os⟩ : Shared).TypeIs (.ref a) "list_iterator" := ⟨_, hx, hc⟩
  have hT5 : (⟨h, g, d, t, os⟩ : Shared).TypeIs (.builtin "list_iterator.__next__") "wrapper_descriptor" := Bd.ty_next
  have f1 := Bd.lk_next
  have f2 := Bd.ty_next
  have f3 := Bd.slot_get.lookup
  have f4 := Bd.lk_set
  have f5 := Bd.lk_del
  obtain ⟨oc, od, odt, osl⟩ := o
  dsimp only at hc hd hn
  subst hc hd hn
  repeat (any_goals (first | assumption | (with_reducible apply bd_get hx rfl) | wp_step))
theorem bd_attr {Q : Value → Shared → Prop} (hx : h.get? a = some o) (hc : o.cls = .type "list_iterator") (hd : o.dict = none) {vs : Array Value} (hn : o.data = .fields vs) (hq : Q (.ref h.objs.size) ⟨h.push (mwObj (.builtin "list_iterator.__next__") (.ref a)), g, d, t + 1, os⟩) :
    wpAny (model prog w) A (getAttr (.ref a) "__next__" true) Q E ⟨h, g, d, t, os⟩ := by
  have hT : ∀ t', (⟨h, g, d, t', os⟩ : Shared).TypeIs (.ref a) "list_iterator" := fun t' => ⟨_, hx, hc⟩
  have f2 := Bd.slot_ga.lookup
  have f3 := Bd.slot_ga.bind (.ref a)
  obtain ⟨oc, od, odt, osl⟩ := o
  dsimp only at hc hd hn
  subst hc hd hn
  unfold getAttr getAttrBy
  repeat (any_goals (first | assumption | exact hT _ | ((with_reducible show wpAny _ _ (call (Value.builtin "object.__getattribute__") _ _) _ _ _); refine wpAny_call (codeAny_call_builtin Bd.slot_ga.plain PySem.F.entry_object_getattribute (Bd.slot_ga.check _ _ _ _ _ _ _ _ (hT _) (PySem.F.args_object_getattribute_2 _ _) (bd_entry hx rfl rfl rfl ?_)))) | wp_step))
end
end
section -- Y2
section
variable {prog : Program} {w : World} {A : Around} {E : Value → Shared → Prop} {s : Shared}
theorem nx_item {it l : Addr} {i : Nat} {items} {x : Value} {Q : Value → Shared → Prop} (hit : s.heap.IsListIter it l i) (hl : s.heap.IsList l items) (hx : items[i]? = some x)
    (hQ : ∀ h', h'.IsListIter it l (i + 1) → Heap.SameBut it s.heap h' → Q x { s with heap := h' }) :
    wpAny (model prog w) A (Builtin.«list_iterator.__next__» ⟨[.ref it], []⟩) (fun fin s' => ∃ v, fin = .done (.ret v) ∧ Q v s') E s := by
  obtain ⟨o, ho, hc, hd⟩ := id hit
  obtain ⟨ol, hol, _, nl, hdl⟩ := hl
  show wpAny _ _ (field (.ref it) 0 >>= _) _ _ s
  refine wpAny_bind (wpAny_field ho hd (x := .ref l) rfl ?_)
  show wpAny _ _ (if (Value.ref l == Value.none) = true then _ else _) _ _ s
  rw [if_neg (show ¬ ((Value.ref l == Value.none) = true) from Bool.false_ne_true)]
  show wpAny _ _ (field (.ref it) 1 >>= _) _ _ s
  refine wpAny_bind (wpAny_field ho hd (x := .int i 0) rfl ?_)
  show wpAny _ _ (seqItems? (.ref l) >>= _) _ _ s
  refine wpAny_bind (wpAny_seqItems hol hdl ?_)
  simp only [Int.toNat_natCast, hx]
  refine wpAny_bind (wpAny_setField ho hd (by simp) (wpAny_pure ⟨x, rfl, hQ _ ?_ (Heap.SameBut.update ..)⟩))
  exact ⟨_, Heap.get?_update_self _ ho (Obj.isFreed_of_fields (Obj.data_mapFields hd _)), (Obj.cls_mapFields ..).trans hc, by
    rw [Obj.data_mapFields hd]; simp [rawInt]⟩
theorem nx_stop {it l : Addr} {i : Nat} {items} {Q : Fin → Shared → Prop} (hh : A.handled = none) (hit : s.heap.IsListIter it l i) (hl : s.heap.IsList l items) (hx : items[i]? = none)
    (hQ : ∀ h' e vs, s.heap.get? e = none → Heap.ExtBut it s.heap h' → h'.get? e = some { cls := .type "StopIteration", data := .fields vs } → vs[1]? = some .none → E (.ref e) { s with heap := h' }) :
    wpAny (model prog w) A (Builtin.«list_iterator.__next__» ⟨[.ref it], []⟩) Q E s := by
  obtain ⟨o, ho, hc, hd⟩ := id hit
  obtain ⟨ol, hol, _, nl, hdl⟩ := hl
  show wpAny _ _ (field (.ref it) 0 >>= _) _ _ s
  refine wpAny_bind (wpAny_field ho hd (x := .ref l) rfl ?_)
  show wpAny _ _ (if (Value.ref l == Value.none) = true then _ else _) _ _ s
  rw [if_neg (show ¬ ((Value.ref l == Value.none) = true) from Bool.false_ne_true)]
  show wpAny _ _ (field (.ref it) 1 >>= _) _ _ s
  refine wpAny_bind (wpAny_field ho hd (x := .int i 0) rfl ?_)
  show wpAny _ _ (seqItems? (.ref l) >>= _) _ _ s
  refine wpAny_bind (wpAny_seqItems hol hdl ?_)
  simp only [Int.toNat_natCast, hx]
  refine wpAny_bind (wpAny_rule (wpAny_bind (wpAny_setField ho hd (by simp) ?_)))
  show wpAny _ _ (newExc (.type "StopIteration") [] >>= _) _ _ _
  refine wpAny_bind ?_
  simp only [newExc, newTuple]
  refine wpAny_bind (wpAny_newObj_type ?_ (by size_fits))
  refine wpAny_bind (m := firstArgMember _ _) (wpAny_of_eq (a := Value.none) (by first | rfl | (simp only [firstArgMember]; rfl)) ?_)
  refine wpAny_newObj_type ?_ (by size_fits)
  simp only [raiseNew]
  refine wpAny_bind (wpAny_handled ?_)
  rw [hh]
  refine wpAny_bind (wpAny_pure (wpAny_throw ?_))
  refine hQ _ _ _ (Heap.get?_none_of_le ?_) (((Heap.SameBut.update ..).extBut.push _).push _) (Heap.get?_push_size _ rfl) ?_
  · rw [Heap.size_push, Heap.size_after_update]; exact Nat.le_succ _
  · rfl
theorem mw_entry : checkBoundCall "list_iterator.__next__" ⟨[.ref a], []⟩ = pure () := by kernel_rfl
theorem mw_call {q it : Addr} {Q : Value → Shared → Prop} (hq : s.heap.get? q = some (mwObj (.builtin "list_iterator.__next__") (.ref it)))
    (h : wpAny (model prog w) A.in1 (Builtin.«list_iterator.__next__» ⟨[.ref it], []⟩) (fun fin s' => ∃ v, fin = .done (.ret v) ∧ Q v s') E s) : wpAny (model prog w) A (call (.ref q) []) Q E s := by
  obtain ⟨hh, g, d, t, os⟩ := s
  refine wpAny_call (codeAny_of_tree ?_)
  show wpAny _ _ (callAny (.ref q) _) _ _ _
  refine nd_load hq ?_
  show wpAny _ _ (checkBoundCall "list_iterator.__next__" ⟨[.ref it], []⟩ >>= fun _ => again (.builtin "list_iterator.__next__" ⟨[.ref it], []⟩)) _ _ _
  rw [mw_entry]
  refine wpAny_bind (wpAny_pure (wpAny_pure ⟨Code.quiet_builtin _ (by decide +kernel), codeAny_builtin entry_listiter_next (wpAny_mono h (fun fin s' hv => ?_) fun _ _ e => e)⟩))
  obtain ⟨v, rfl, hv⟩ := hv
  exact hv
end
end
section -- Y3
section
variable {prog : Program} {w : World} {A : Around} {E : Value → Shared → Prop} {s : Shared} {env : Env}
theorem mw_callWith {q it : Addr} {pos : Pos} {Q : Value → Shared → Prop} (hq : s.heap.get? q = some (mwObj (.builtin "list_iterator.__next__") (.ref it))) (h : wpAny (model prog w) A (call (.ref q) []) Q E s) :
    wpAny (model prog w) A (callWith pos (.ref q) [] (backTo pos (starEach [] env)) []) Q E s :=
  callWith_of (P := fun h => h.get? q = some (mwObj (.builtin "list_iterator.__next__") (.ref it))) rfl (fun h e => ⟨.machine, .inr (.inl rfl), (Looks.ld (part := none) e).andThen .now⟩) (evalArgs_nil3 ⟨hq, h⟩)
end
noncomputable def cutObj (l : List Addr) (i : Nat) (o : Obj) : Obj := if i ∈ l then { o with data := .freed } else o
noncomputable def cut (h : Heap) (l : List Addr) : Heap := ⟨h.objs.mapIdx (cutObj l), h.life⟩
theorem cut_in {h : Heap} {l : List Addr} {b : Addr} (e : b ∈ l) : (cut h l).get? b = none := by
  unfold cut Heap.get?
  simp only [Array.getElem?_mapIdx]
  cases h.objs[b]? with
  | none => rfl
  | some o => simp only [Option.map_some, cutObj, if_pos e]
theorem cut_out {h : Heap} {l : List Addr} {b : Addr} (e : b ∉ l) : (cut h l).get? b = h.get? b := by
  unfold cut Heap.get?
  simp only [Array.getElem?_mapIdx]
  cases h.objs[b]? with
  | none => rfl
  | some o => simp only [Option.map_some, cutObj, if_neg e]

noncomputable def FF (h : Heap) (l : List Env) : Prop := ∀ v ∈ l, v.scope.kind ≠ .module ∧ ∃ L o, v.frame = some L ∧ h.get? L = some o ∧ ∃ es n, o.data = .dict es n
theorem ff_fun {h : Heap} {c : List Addr} : ∀ {l : List Env}, FF h l → (∀ v ∈ l, ∀ L, v.frame = some L → L ∈ c) → h.FunFrames (cut h c) l
  | [], _, _ => trivial
  | v :: l, f, m => by
    obtain ⟨hk, L, o, hf, ho, es, n, hd⟩ := f v List.mem_cons_self
    exact ⟨hk, ⟨L, o, hf, cut_in (m v List.mem_cons_self L hf), ho, fun vs q => by rw [hd] at q; cases q⟩, ff_fun (fun u hu => f u (List.mem_cons_of_mem _ hu)) fun u hu => m u (List.mem_cons_of_mem _ hu)⟩
section
variable {M : Model} {A : Around} {E : Value → Shared → Prop} {s : Shared} {env : Env}
theorem note_first {outer : List Env} {L e : Addr} {oe : Obj} {vs : Array Value} {Q : Unit → Shared → Prop} (hfr : A.frames = some (env :: outer)) (ff : FF s.heap (env :: outer)) (hf : env.frame = some L)
    (he : s.heap.get? e = some oe) (hd : oe.data = .fields vs) (h1 : vs[1]? = some .none)
    (k : ∀ h' T oe' vs' oT ts, (∀ b o, b ≠ e → b ∉ (env :: outer).filterMap (·.frame) → s.heap.get? b = some o → h'.get? b = some o) → (∀ b o, b ∈ (env :: outer).filterMap (·.frame) → s.heap.get? b = some o → ∃ sl, h'.get? b = some { o with slots := sl }) →
      s.heap.get? T = none → h'.get? e = some oe' → oe'.cls = oe.cls → oe'.data = .fields vs' → vs'[1]? = some (.ref T) → T ≠ e → h'.get? T = some oT → oT.data = .fields ts → ts[3]? = some .none → Q () { s with heap := h' }) :
    wpAny M A (noteFrame (.ref e) env) (fun _ s₂ => wpAny M A (setFlight (.ref e) none) Q E s₂) E s := by
  have hsz : 1 < vs.size := (Array.getElem?_eq_some_iff.mp h1).1
  unfold noteFrame
  simp only [hf]
  refine wpAny_bind (wpAny_field he hd h1 ?_)
  rw [if_neg (by decide)]
  have fm : ∀ v ∈ env :: outer, ∀ L, v.frame = some L → L ∈ e :: (env :: outer).filterMap (·.frame) := fun v hv L hL => List.mem_cons_of_mem _ (List.mem_filterMap.mpr ⟨v, hv, hL⟩)
  have stay : (cut s.heap (e :: (env :: outer).filterMap (·.frame))).StaysIn s.heap := fun b o hb => by
    by_cases q : b ∈ e :: (env :: outer).filterMap (·.frame)
    · rw [cut_in q] at hb; cases hb
    · rwa [cut_out q] at hb
  refine wpAny_newEntry (base := cut s.heap (e :: (env :: outer).filterMap (·.frame))) hfr (ff_fun ff fm) hf he stay (cut_in List.mem_cons_self) hd hsz fun h' ⟨x1, x2, x3, x4⟩ => ?_
  obtain ⟨oe', vs', T, oT, ts, t1, t2, t3, t4, t5, t6, t7, t8, t9⟩ := x3
  have notf : ∀ b o, b ∈ (env :: outer).filterMap (·.frame) → s.heap.get? b = some o → ∃ es n, o.data = .dict es n := fun b o hb ho => by
    obtain ⟨v, hv, hL⟩ := List.mem_filterMap.mp hb
    obtain ⟨_, L', o', hf', ho', hd'⟩ := ff v hv
    rw [hL] at hf'; cases hf'
    rw [ho] at ho'; cases ho'
    exact hd'
  have fup : ∀ b o, b ∈ (env :: outer).filterMap (·.frame) → s.heap.get? b = some o → ∃ sl, h'.get? b = some { o with slots := sl } := fun b o hb ho => x4 b o ho fun vs q => by
    obtain ⟨es, n, hd'⟩ := notf b o hb ho
    rw [hd'] at q; cases q
  refine k h' T oe' vs' oT ts (fun b o hbe hbf ho => x1 b o (by rw [cut_out (by rw [List.mem_cons, not_or]; exact ⟨hbe, hbf⟩)]; exact ho)) fup ?_ t1 t2 t3 t4 t6 t7 t8 t9
  cases q : s.heap.get? T with
  | none => rfl
  | some o =>
    exfalso
    by_cases hT : T ∈ (env :: outer).filterMap (·.frame)
    · obtain ⟨sl, y⟩ := fup T o hT q
      obtain ⟨es, n, hd'⟩ := notf T o hT q
      rw [t7] at y; cases y
      rw [hd'] at t8; cases t8
    · rw [cut_out (by rw [List.mem_cons, not_or]; exact ⟨t6, hT⟩), q] at t5; cases t5
end
variable {C : Cx} {B : Heap} {W : Addr → Prop} {env : Env} {F : List (Str × V)} {H : AH} {s : Shared} {A : Around} {E : Value → Shared → Prop}
noncomputable def OutF (C : Cx) (B : Heap) (W : Addr → Prop) (l : List Env) : Prop := ∀ v ∈ l, v.scope.kind ≠ .module ∧ ∃ L o, v.frame = some L ∧ B.get? L = some o ∧ (∃ es n, o.data = .dict es n) ∧ C.n0 ≤ L ∧ ¬ W L ∧ C.K.lookup L = none
theorem Sf.ff (S : Sf C B W env F H s) {outer : List Env} (o : OutF C B W outer) (hf : env.frame = some env.locals) : FF s.heap (env :: outer) := by
  intro v hv
  rcases List.mem_cons.mp hv with rfl | hv
  · obtain ⟨m, ⟨o, es, ep, h1, h2, _⟩, _⟩ := S.ns
    exact ⟨by rw [S.kind]; decide, _, o, hf, h1, es, ep, h2⟩
  · obtain ⟨hk, L, ob, h1, h2, ⟨es, n, h3⟩, h4, h5, h6⟩ := o v hv
    obtain ⟨ob', e1, e2⟩ := (S.kept L ob h2 h5).there
    exact ⟨hk, L, ob', h1, e1, es, n, e2.trans h3⟩
noncomputable def fra (l : List Env) : List Addr := l.filterMap (·.frame)
theorem Sf.uptoL (S : Sf C B W env F H s) {outer : List Env} (o : OutF C B W outer) (hf : env.frame = some env.locals) {ex : List Addr} (ae : ∀ e ∈ ex, Aside C B W env H e) {h' : Heap}
    (k1 : ∀ b o, b ∉ ex → b ∉ fra (env :: outer) → s.heap.get? b = some o → h'.get? b = some o) (k2 : ∀ b o, b ∈ fra (env :: outer) → s.heap.get? b = some o → ∃ sl, h'.get? b = some { o with slots := sl }) : Sf C B W env F H { s with heap := h' } := by
  have mem : ∀ b, b ∈ fra (env :: outer) → H b = none ∧ C.K.lookup b = none ∧ C.n0 ≤ b ∧ ∃ o, s.heap.get? b = some o ∧ ∃ es n, o.data = .dict es n := fun b hb => by
    obtain ⟨v, hv, hL⟩ := List.mem_filterMap.mp hb
    rcases List.mem_cons.mp hv with rfl | hv
    · rw [hf] at hL; cases hL
      obtain ⟨m, ⟨o, es, ep, h1, h2, _⟩, _⟩ := S.ns
      exact ⟨S.na.1, S.na.2.1, S.big, o, h1, es, ep, h2⟩
    · obtain ⟨hk, L, ob, h1, h2, ⟨es, n, h3⟩, h4, h5, h6⟩ := o v hv
      rw [hL] at h1; cases h1
      obtain ⟨ob', e1, e2⟩ := (S.kept b ob h2 h5).there
      refine ⟨?_, h6, h4, ob', e1, es, n, e2.trans h3⟩
      cases q : H b with
      | none => rfl
      | some _ =>
        rcases S.own b (by rw [q]; simp) with z | z
        · exact absurd z h5
        · rw [h2] at z; cases z
  have data : ∀ b o, b ∉ ex → s.heap.get? b = some o → ∃ o', h'.get? b = some o' ∧ o'.data = o.data := fun b o hb ho => by
    by_cases q : b ∈ fra (env :: outer)
    · obtain ⟨sl, y⟩ := k2 b o q ho; exact ⟨_, y, rfl⟩
    · exact ⟨o, k1 b o hb q ho, rfl⟩
  have exact_ : ∀ b o, H b ≠ none ∨ C.K.lookup b ≠ none → s.heap.get? b = some o → h'.get? b = some o := fun b o h ho => by
    refine k1 b o (fun q => ?_) (fun q => ?_) ho
    · rcases h with h | h
      · exact h (ae b q).no
      · exact h (ae b q).k
    · obtain ⟨m1, m2, _⟩ := mem b q
      rcases h with h | h
      · exact h m1
      · exact h m2
  refine ⟨fun b x e => exact_ b x (.inr (by rw [e]; simp)) (S.k b x e), ?_, S.gens, S.os, fun a o e => ?_, fun b o hb hn => ?_, S.own, S.apart, S.stat, S.kind, S.glob, S.blt, ?_, ?_, ?_, S.na, ?_, S.sysm, S.big⟩
  · obtain ⟨mc, ⟨o, es, ep, h1, h3⟩, h2⟩ := S.lim
    exact ⟨mc, ⟨o, es, ep, exact_ _ _ (.inr S.stat) h1, h3⟩, h2⟩
  · obtain ⟨ob, h1, h2⟩ := S.rel a o e
    exact ⟨ob, exact_ a ob (.inl (by rw [e]; simp)) h1, h2⟩
  · refine (S.kept b o hb hn).trans fun o' e' => ?_
    by_cases q : b ∈ fra (env :: outer)
    · obtain ⟨m1, m2, m3, o2, m4, m5⟩ := mem b q
      rw [e'] at m4; cases m4
      obtain ⟨sl, y⟩ := k2 b o' q e'
      exact .inr ⟨m3, m5, sl, y⟩
    · refine .inl (k1 b o' (fun z => ?_) q e')
      rcases (ae b z).w with y | y
      · exact hn y
      · rw [y] at hb; cases hb
  · obtain ⟨m, ⟨o, es, ep, h1, h2, h2'⟩, h3⟩ := S.ns
    obtain ⟨o', e1, e2⟩ := data _ o (fun z => (ae _ z).l rfl) h1
    exact ⟨m, ⟨o', es, ep, e1, e2.trans h2, h2'⟩, h3⟩
  · intro x v e
    refine (S.cl x v e).imp id fun ⟨h1, c, rv, h2, ⟨o, h3, h3'⟩, h4⟩ => ⟨h1, c, rv, h2, ?_, h4⟩
    obtain ⟨o', e1, e2⟩ := data c o (fun z => (ae _ z).c x c h2 rfl) h3
    exact ⟨o', e1, e2.trans h3'⟩
  · intro x c e l
    obtain ⟨⟨v0, o, h3, h3'⟩, h4⟩ := S.cs x c e l
    obtain ⟨o', e1, e2⟩ := data c o (fun z => (ae _ z).c x c e rfl) h3
    exact ⟨⟨v0, o', e1, e2.trans h3'⟩, h4⟩
  · intro x c e
    obtain ⟨h1, h2, h3⟩ := S.nc x c e
    refine ⟨h1, h2, fun q => ?_⟩
    cases z : s.heap.get? c with
    | none => exact h3 z
    | some o =>
      obtain ⟨o', e1, _⟩ := data c o (fun z => (ae _ z).c x c e rfl) z
      have q : h'.get? c = none := q
      rw [e1] at q; cases q
theorem Sf.upto (S : Sf C B W env F H s) {outer : List Env} (o : OutF C B W outer) (hf : env.frame = some env.locals) {e : Addr} (ae : Aside C B W env H e) {h' : Heap}
    (k1 : ∀ b o, b ≠ e → b ∉ (env :: outer).filterMap (·.frame) → s.heap.get? b = some o → h'.get? b = some o) (k2 : ∀ b o, b ∈ (env :: outer).filterMap (·.frame) → s.heap.get? b = some o → ∃ sl, h'.get? b = some { o with slots := sl }) : Sf C B W env F H { s with heap := h' } :=
  S.uptoL o hf (ex := [e]) (fun e' h => by rw [List.mem_singleton] at h; exact h ▸ ae) (fun b o hb => k1 b o fun z => hb (List.mem_singleton.mpr z)) k2
end
section -- Y4
variable {C : Cx} {B : Heap} {W : Addr → Prop} {env : Env} {F : List (Str × V)} {H : AH} {s : Shared} {A : Around} {E : Value → Shared → Prop}
theorem stop_exc : isSubtype (.type "StopIteration") (.type "BaseException") = pure true := by rw [isSubtype_type]; kernel_rfl
theorem stop_nt : isSubtype (.type ((Manifest.find? "StopIteration").elim "type" fun x => x.metatype)) (.type "tuple") = pure false := by
  have e : (Manifest.find? "StopIteration").elim "type" (fun x => x.metatype) = "type" := by kernel_rfl
  rw [e, isSubtype_type]; kernel_rfl
theorem catch_stop (S : Sf C B W env F H s) {outer : List Env} (hA : A.frames = some (env :: outer)) (hf : env.frame = some env.locals) (of : OutF C B W outer) {e : Addr} {vs : Array Value} (ae : Aside C B W env H e) (he : s.heap.get? e = some { cls := .type "StopIteration", data := .fields vs }) (h1 : vs[1]? = some .none)
    {p pos : Pos} {b₀ : Stmt} {suite : List Stmt} {Q : Flow → Shared → Prop}
    (hn : ∀ A' s' Q' E', Sf C B W env F H s' → Q' (.type "StopIteration") s' → wpAny (model C.prog C.w) A' (eval (.Name "StopIteration" p) env) Q' E' s')
    (k : ∀ A' s' E', Sf C B W env F H s' → wpAny (model C.prog C.w) A' (execs (b₀ :: suite) env) Q E' s') :
    wpAny (model C.prog C.w) A (noteFrame (.ref e) env) (fun _ s₂ => wpAny (model C.prog C.w) A (setFlight (.ref e) none) (fun _ s₃ => wpAny (model C.prog C.w) A (handleBy (.ref e) env [.ExceptHandler (some (.Name "StopIteration" p)) none (b₀ :: suite) pos]) Q E s₃) E s₂) E s := by
  refine note_first hA (S.ff of hf) hf he rfl h1 fun h' T oe' vs' oT ts k1 k2 t0 t1 t2 t3 t4 t5 t6 t7 t8 => ?_
  have S2 := S.upto of hf ae k1 k2
  have aT := S.asideOf t0
  refine wpAny_handleBy_builtin (X := "StopIteration") (T := "StopIteration") (b := true) stop_exc stop_nt isSubtype_stop ?_
  refine hn _ _ _ _ S2 ⟨rfl, ⟨oe', t1, t2⟩, ?_⟩
  rw [if_pos rfl]
  refine wpAny_setFlight_none t1 t3 t4 t6 t7 (Array.getElem?_eq_some_iff.mp t8).1 (k _ _ _ (S2.by aT (fun b o hb ho => ?_) rfl rfl))
  exact (Heap.get?_update_other _ _ (Ne.symm hb)).trans ho

noncomputable def Inh (C : Cx) (B : Heap) (W : Addr → Prop) (B' : Heap) (W' : Addr → Prop) : Prop := ∀ b o, B.get? b = some o → ¬ W b → Same C b o B' ∧ ¬ W' b
theorem OutF.inh {C : Cx} {B B' : Heap} {W W' : Addr → Prop} {l : List Env} (o : OutF C B W l) (i : Inh C B W B' W') : OutF C B' W' l := fun v hv => by
  obtain ⟨hk, L, ob, h1, h2, ⟨es, n, h3⟩, h4, h5, h6⟩ := o v hv
  obtain ⟨a, b⟩ := i L ob h2 h5
  obtain ⟨ob', e1, e2⟩ := a.there
  exact ⟨hk, L, ob', h1, e1, ⟨es, n, e2.trans h3⟩, h4, b, h6⟩
theorem Sf.inh (S : Sf C B W env F H s) : Inh C B W s.heap (Wn H env) := fun b o e n => by
  refine ⟨S.kept b o e n, fun h => ?_⟩
  rcases h with h | h | ⟨x, h, h'⟩
  · rcases S.own b h with z | z
    · exact n z
    · rw [z] at e; cases e
  · rcases S.na.2.2 with z | z
    · exact n (h ▸ z)
    · rw [h, z] at e; cases e
  · rcases (S.cs x b h h').2.2.1 with z | z
    · exact n z
    · rw [z] at e; cases e
inductive ForIH (C : Cx) (B : Heap) (W : Addr → Prop) (env : Env) (A : Around) (x : Str) (body : List Stmt) (Q : Flow → Shared → Prop) (v : Value) (s1 : Shared) : Prop
  | mk (F1 : List (Str × V)) (H1 : AH) (L : List V) (src : AH → Prop) (S : Sf C B W env F1 H1 s1) (it : Iters C A s1 v L src) (J : Nat → List (Str × V) → AH → Prop) (h0 : J 0 F1 H1) (hs : ∀ i F H, J i F H → src H)
    (turn : ∀ i v F' H' B' W' s' E', L[i]? = some v → J i F' H' → Inh C B W B' W' → Sf C B' W' env ((x, v) :: F') H' s' → wpAny (model C.prog C.w) A (execs body env) (ForQ C B W B' W' env (J (i + 1)) Q) E' s')
    (done : ∀ F' H' s', J L.length F' H' → Sf C B W env F' H' s' → Q .next s')
theorem r_forI {sc : Scope} (G : Ev sc env) (S0 : Sf C B W env F H s) {x : Str} {px : Pos} {iter : Expr} {body : List Stmt} {pos : Pos} {Q : Flow → Shared → Prop}
    (hl : (match sc.names.lookup x with | some .local => true | some .cell => true | _ => false) = true)
    (h : wpAny (model C.prog C.w) A (eval iter env) (fun v s1 => ForIH C B W env A x body Q v s1) E s)
    (hs : autoParam (∀ x, foldedSetIterable iter env x = pure x) au1._auto_1) :
    wpAny (model C.prog C.w) A (exec (.For (.Name x px) iter body [] pos) env) Q E s := by
  refine wpAny_For (wpAny_mono h (fun v s1 h1 => ?_) fun _ _ e => e) hs
  obtain ⟨F1, H1, L, src, S1, it, J, hJ0, hsrc, turn, done⟩ := h1
  refine it _ _ fun I ob o s2 It hn hk hI hob hg hos => ?_
  have A2' := S1.asideOf hn
  have S2 := S1.keep hk hg hos
  refine codeAny_forLoop (fun k s' => ∃ i F' H' o, k = L.length - i ∧ i ≤ L.length ∧ J i F' H' ∧ Sf C B W env F' H' s' ∧ Aside C B W env H' I ∧ s'.heap.get? I = some o ∧ ob i o) ?_ (L.length - 0) ⟨0, F1, H1, o, rfl, Nat.zero_le _, hJ0, S2, A2', hI, hob⟩
  rintro k s' ⟨i, F', H', o', rfl, hi, hJ, S', A', hI', hob'⟩
  by_cases hlt : i < L.length
  · refine It.item S' (hsrc _ _ _ hJ) hI' hob' (List.getElem?_eq_getElem hlt) fun rv h' o'' tk hr hI2 hob2 hk2 => ?_
    have S3 := S'.by A' (s' := { s' with heap := h', toks := tk }) hk2 rfl rfl
    dsimp only
    refine wpAny_assign_Name (r_store G S3.snap hl hr fun s4 S4 => ?_)
    refine wpAny_mono (turn i _ F' H' _ _ s4 _ (List.getElem?_eq_getElem hlt) hJ S3.inh S4) (fun f s5 h5 => ?_) fun _ _ e => e
    have back : ∀ {F5 H5} (S5 : Sf C h' (Wn H' env) env F5 H5 s5), Sf C B W env F5 H5 s5 := fun S5 => S3.unsnap (fun a h => .inl h) S3.kept S5
    cases f with
    | next =>
      obtain ⟨F5, H5, S5, P5⟩ := h5
      obtain ⟨a5, b5⟩ := A'.over hI2 (It.nd hob2) S5
      exact ⟨L.length - (i + 1), by omega, i + 1, F5, H5, o'', rfl, hlt, P5, back S5, a5, b5, hob2⟩
    | cont =>
      obtain ⟨F5, H5, S5, P5⟩ := h5
      obtain ⟨a5, b5⟩ := A'.over hI2 (It.nd hob2) S5
      exact ⟨L.length - (i + 1), by omega, i + 1, F5, H5, o'', rfl, hlt, P5, back S5, a5, b5, hob2⟩
    | brk =>
      obtain ⟨F5, H5, S5, P5⟩ := h5
      exact P5 _ (back S5)
    | ret v =>
      obtain ⟨F5, H5, S5, P5⟩ := h5
      exact P5 _ (back S5)
  · have he : i = L.length := by omega
    subst he
    refine It.done S' (hsrc _ _ _ hJ) hI' hob' fun h' tk hk2 => ?_
    have S3 := S'.by A' (s' := { s' with heap := h', toks := tk }) hk2 rfl rfl
    exact wpAny_execs_nil (done _ _ _ hJ S3)
inductive ForH (C : Cx) (B : Heap) (W : Addr → Prop) (env : Env) (A : Around) (x : Str) (body : List Stmt) (Q : Flow → Shared → Prop) (v : Value) (s1 : Shared) : Prop
  | mk (F1 : List (Str × V)) (H1 : AH) (L : List V) (src : AH → Prop) (S : Sf C B W env F1 H1 s1) (it : Iters C A s1 v L src) (J : Nat → List (Str × V) → AH → Prop) (h0 : J 0 F1 H1) (hs : ∀ i F H, J i F H → src H)
    (turn : ∀ i v F' H' B' W' s' E', L[i]? = some v → J i F' H' → Sf C B' W' env ((x, v) :: F') H' s' → wpAny (model C.prog C.w) A (execs body env) (ForQ C B W B' W' env (J (i + 1)) Q) E' s')
    (done : ∀ F' H' s', J L.length F' H' → Sf C B W env F' H' s' → Q .next s')
theorem r_for {sc : Scope} (G : Ev sc env) (S0 : Sf C B W env F H s) {x : Str} {px : Pos} {iter : Expr} {body : List Stmt} {pos : Pos} {Q : Flow → Shared → Prop}
    (hl : (match sc.names.lookup x with | some .local => true | some .cell => true | _ => false) = true)
    (h : wpAny (model C.prog C.w) A (eval iter env) (fun v s1 => ForH C B W env A x body Q v s1) E s)
    (hs : autoParam (∀ x, foldedSetIterable iter env x = pure x) au1._auto_1) :
    wpAny (model C.prog C.w) A (exec (.For (.Name x px) iter body [] pos) env) Q E s :=
  r_forI G S0 hl (wpAny_mono h (fun v s1 h1 => by
    obtain ⟨F1, H1, L, src, S1, it, J, h0, hsrc, turn, done⟩ := h1
    exact ⟨F1, H1, L, src, S1, it, J, h0, hsrc, fun i v F' H' B' W' s' E' a b _ c => turn i v F' H' B' W' s' E' a b c, done⟩) fun _ _ e => e) hs
end
section -- Y5
variable {C : Cx} {B : Heap} {W : Addr → Prop} {env : Env} {F : List (Str × V)} {H : AH} {s : Shared} {A : Around} {E : Value → Shared → Prop} {r1 r2 : Value}
noncomputable def AH.del (H : AH) (a : Addr) : AH := fun b => if b = a then none else H b
@[simp] theorem AH.del_self (H : AH) (a : Addr) : H.del a a = none := by simp [AH.del]
theorem AH.del_ne (H : AH) {a b : Addr} (h : b ≠ a) : H.del a b = H b := by simp [AH.del, h]
theorem Sf.del (S : Sf C B W env F H s) (a : Addr) : Sf C B W env F (H.del a) s := by
  have sub : ∀ b o, H.del a b = some o → H b = some o := fun b o e => by
    by_cases q : b = a
    · subst q; rw [AH.del_self] at e; cases e
    · rwa [AH.del_ne _ q] at e
  have ne : ∀ b, H.del a b ≠ none → H b ≠ none := fun b h => by
    cases e : H.del a b with
    | none => exact absurd e h
    | some o => rw [sub b o e]; simp
  have nn : ∀ b, H b = none → H.del a b = none := fun b h => by
    by_cases q : b = a
    · subst q; simp
    · rw [AH.del_ne _ q]; exact h
  exact { S with rel := fun b o e => S.rel b o (sub b o e), own := fun b h => S.own b (ne b h), apart := fun b h => S.apart b (ne b h), na := ⟨nn _ S.na.1, S.na.2⟩, nc := fun x c e => ⟨nn _ (S.nc x c e).1, (S.nc x c e).2⟩, sysm := fun b h => S.sysm b (ne b h) }
theorem Sf.delAside (S : Sf C B W env F H s) {a : Addr} (h : H a ≠ none) : Aside C B W env (H.del a) a :=
  ⟨AH.del_self .., S.apart a h, S.own a h, fun q => h (q ▸ S.na.1), fun x c e q => h (q ▸ (S.nc x c e).1)⟩
section
variable {Q : Value → Shared → Prop} {a : Addr} {L : List V}
theorem m_iter (S : Sf C B W env F H s) (h1 : V.R (.ref a) r1) (ha : H a = some (.list L))
    (k : ∀ I s', H I = none → Sf C B W env F (H.set I (.iter a 0)) s' → s'.heap.get? I = some { cls := .type "list_iterator", data := .fields #[.ref a, .int 0 0] } → Q (.ref I) s') : wpAny (model C.prog C.w) A (call (.builtin "iter") [r1]) Q E s := by
  obtain rfl := h1
  obtain ⟨vs, n, x1, y1⟩ := S.isL ha
  refine call_function_entry (by decide +kernel) (by decide +kernel) kdk_entry_iter (kdk_args_iter _) ?_
  unfold Builtin.«iter»
  refine wpAny_bind (m := someArgs "iter" 1 2 _) (wpAny_of_eq (a := [Value.ref a]) (by first | rfl | kernel_rfl!) ?_)
  show wpAny _ _ (pyIter (.ref a) >>= _) _ _ _
  refine wpAny_bind (wpAny_pyIter_list x1.isList ?_)
  have z := S.new (s' := { s with heap := s.heap.push { cls := .type "list_iterator", data := .fields #[.ref a, .int 0 0] } }) (fun b o e => Heap.get?_push_of_some _ e) (Nat.le_refl _) (Heap.get?_push_size _ rfl) (o := .iter a 0) ⟨rfl, rfl⟩ rfl rfl
  exact wpAny_pure ⟨_, rfl, k _ _ z.1 z.2 (Heap.get?_push_size _ rfl)⟩
theorem a_next {I : Addr} (S : Sf C B W env F H s) (ho : s.heap.get? I = some { cls := .type "list_iterator", data := .fields #[.ref a, .int 0 0] })
    (k : ∀ q s', H q = none → Sf C B W env F (H.set q (.raw (mwObj (.builtin "list_iterator.__next__") (.ref I)))) s' → Q (.ref q) s') : wpAny (model C.prog C.w) A (getAttr (.ref I) "__next__" true) Q E s := by
  obtain ⟨h, g, d, t, os⟩ := s
  refine bd_attr ho rfl rfl rfl ?_
  have z := S.new (s' := ⟨h.push (mwObj (.builtin "list_iterator.__next__") (.ref I)), g, d, t + 1, os⟩) (fun b o e => Heap.get?_push_of_some _ e) (Nat.le_refl _) (Heap.get?_push_size _ rfl) (o := .raw (mwObj (.builtin "list_iterator.__next__") (.ref I))) rfl rfl rfl
  exact k _ _ z.1 z.2
theorem Sf.rawAt (S : Sf C B W env F H s) {q : Addr} {o : Obj} (h : H q = some (.raw o)) : s.heap.get? q = some o := by
  obtain ⟨ob, h1, h2⟩ := S.rel q _ h
  have h2 : ob = o := h2
  rw [h1, h2]
theorem mw_item {q I : Addr} {i : Nat} {v : V} (S : Sf C B W env F H s) (hq : H q = some (.raw (mwObj (.builtin "list_iterator.__next__") (.ref I)))) (hI : H I = some (.iter a i)) (ha : H a = some (.list L)) (hv : L[i]? = some v)
    (k : ∀ rv s', V.R v rv → Sf C B W env F (H.set I (.iter a (i + 1))) s' → Q rv s') : wpAny (model C.prog C.w) A (call (.ref q) []) Q E s := by
  obtain ⟨vs, n, x1, y1⟩ := S.isL ha
  obtain ⟨o, h1, h2, h3⟩ := S.rel I _ hI
  obtain ⟨rv, e, hr⟩ := y1.get hv
  refine mw_call (S.rawAt hq) (nx_item (i := i) ⟨o, h1, h2, h3⟩ x1.isList (by simpa using e) fun h' ⟨o', h4, h5, h6⟩ hs => k rv _ hr ?_)
  exact S.put (by rw [hI]; simp) hs.extBut h4 ⟨h5, h6⟩ rfl rfl
theorem mw_stop {q I : Addr} {i : Nat} (hh : A.handled = none) (S : Sf C B W env F H s) (hq : H q = some (.raw (mwObj (.builtin "list_iterator.__next__") (.ref I)))) (hI : H I = some (.iter a i)) (ha : H a = some (.list L)) (hv : L.length ≤ i)
    (k : ∀ e vs s', Sf C B W env F (H.del I) s' → Aside C B W env (H.del I) e → s'.heap.get? e = some { cls := .type "StopIteration", data := .fields vs } → vs[1]? = some .none → E (.ref e) s') : wpAny (model C.prog C.w) A (call (.ref q) []) Q E s := by
  obtain ⟨vs, n, x1, y1⟩ := S.isL ha
  obtain ⟨o, h1, h2, h3⟩ := S.rel I _ hI
  have S1 := S.del I
  have aI := S.delAside (a := I) (by rw [hI]; simp)
  refine mw_call (S.rawAt hq) (nx_stop (i := i) hh ⟨o, h1, h2, h3⟩ x1.isList (by rw [Array.getElem?_eq_none]; rw [y1.size]; exact hv) fun h' e vs' e0 he e1 e2 => ?_)
  exact k e vs' _ (S1.by aI he rfl rfl) (S1.asideOf e0) e1 e2
end
end
section -- Y6
structure Ent where
  v : Int
  i : Nat
  q : Addr
  I : Addr
inductive Rc (su : Int → List Int) : Int → Int → Prop where
  | one {a b : Int} : b ∈ su a → Rc su a b
  | step {a b c : Int} : Rc su a b → c ∈ su b → Rc su a c
noncomputable def Cl (su : Int → List Int) : List Int → Prop
  | [] => True
  | f :: l => (∀ j ∈ su f, j ∈ l) ∧ Cl su l
noncomputable def StkOk (su : Int → List Int) (fin : List Int) : Option Int → List Ent → Prop
  | _, [] => True
  | up, e :: st => (∀ j w, j < e.i → (su e.v)[j]? = some w → w ∈ fin ∨ some w = up) ∧ (∀ w, up = some w → w ∈ su e.v) ∧ e.i ≤ (su e.v).length ∧ StkOk su fin (some e.v) st
variable {su : Int → List Int} {fin : List Int}
theorem stk_reach : ∀ {st : List Ent} {y : Int}, StkOk su fin (some y) st → ∀ e ∈ st, Rc su e.v y
  | e :: st, y, h, e', he => by
    have hy := h.2.1 y rfl
    rcases List.mem_cons.mp he with rfl | he
    · exact .one hy
    · exact .step (stk_reach h.2.2.2 e' he) hy
theorem stk_more {fin' : List Int} (hf : ∀ x ∈ fin, x ∈ fin') : ∀ {st : List Ent} {up : Option Int}, StkOk su fin up st → StkOk su fin' up st
  | [], _, _ => trivial
  | e :: st, up, h => ⟨fun j w a b => (h.1 j w a b).imp (hf w) id, h.2.1, h.2.2.1, stk_more hf h.2.2.2⟩
theorem stk_known {st : List Ent} {x : Int} (h : StkOk su fin (some x) st) (hx : x ∈ fin) : StkOk su fin none st := by
  cases st with
  | nil => trivial
  | cons e st => exact ⟨fun j w a b => .inl ((h.1 j w a b).elim id fun q => by cases q; exact hx), (fun w q => nomatch q), h.2.2.1, h.2.2.2⟩
theorem stk_push {st : List Ent} {x : Int} {q I : Addr} (h : StkOk su fin (some x) st) : StkOk su fin none (⟨x, 0, q, I⟩ :: st) :=
  ⟨fun j w a => absurd a (Nat.not_lt_zero _), (fun w q => nomatch q), Nat.zero_le _, h⟩
theorem stk_draw {st : List Ent} {e : Ent} {w : Int} (h : StkOk su fin none (e :: st)) (hw : (su e.v)[e.i]? = some w) : StkOk su fin (some w) ({ e with i := e.i + 1 } :: st) := by
  have hlt := (List.getElem?_eq_some_iff.mp hw).1
  refine ⟨fun j u a b => ?_, fun u q => by cases q; exact List.mem_of_getElem? hw, hlt, h.2.2.2⟩
  by_cases q : j = e.i
  · subst q
    dsimp only at b
    rw [hw] at b; cases b; exact .inr rfl
  · exact (h.1 j u (by dsimp only at a; omega) b).elim .inl fun q => by cases q
theorem stk_pop {st : List Ent} {e : Ent} (h : StkOk su fin none (e :: st)) (hi : (su e.v).length ≤ e.i) : (∀ j ∈ su e.v, j ∈ fin) ∧ StkOk su (e.v :: fin) none st := by
  refine ⟨fun j hj => ?_, stk_known (stk_more (fun x hx => List.mem_cons_of_mem _ hx) h.2.2.2) List.mem_cons_self⟩
  obtain ⟨k, hk⟩ := List.getElem?_of_mem hj
  have hlt := (List.getElem?_eq_some_iff.mp hk).1
  exact (h.1 k j (by omega) hk).elim id fun q => by cases q

noncomputable def mu (su : Int → List Int) (ks : List Int) (seen : Int → Bool) (st : List Ent) : Nat := (ks.map fun k => if seen k then 0 else (su k).length + 2).sum + (st.map fun e => (su e.v).length - e.i + 1).sum
theorem sum_seen {ks : List Int} {seen : Int → Bool} {x : Int} (hx : x ∈ ks) (hn : ks.Nodup) (hs : seen x = false) :
    (ks.map fun k => if seen k || decide (k = x) then 0 else (su k).length + 2).sum + ((su x).length + 2) = (ks.map fun k => if seen k then 0 else (su k).length + 2).sum := by
  induction ks with
  | nil => cases hx
  | cons a ks ih =>
    rw [List.nodup_cons] at hn
    rw [List.map_cons, List.map_cons, List.sum_cons, List.sum_cons]
    rcases List.mem_cons.mp hx with rfl | hx
    · have e : (ks.map fun k => if seen k || decide (k = x) then 0 else (su k).length + 2) = ks.map fun k => if seen k then 0 else (su k).length + 2 :=
        List.map_congr_left fun k hk => by
          have : k ≠ x := fun q => hn.1 (q ▸ hk)
          simp [this]
      rw [e, hs]; simp; omega
    · have ha : a ≠ x := fun q => hn.1 (q ▸ hx)
      have := ih hx hn.2
      simp only [ha, decide_false, Bool.or_false]
      omega
theorem mu_push {ks : List Int} {seen : Int → Bool} {st : List Ent} {x : Int} {q I : Addr} (hx : x ∈ ks) (hn : ks.Nodup) (hs : seen x = false) : mu su ks (fun k => seen k || decide (k = x)) (⟨x, 0, q, I⟩ :: st) < mu su ks seen st := by
  unfold mu
  have := sum_seen (su := su) hx hn hs
  rw [List.map_cons, List.sum_cons]
  dsimp only
  omega
theorem mu_draw {ks : List Int} {seen : Int → Bool} {st : List Ent} {e : Ent} (h : e.i < (su e.v).length) : mu su ks seen ({ e with i := e.i + 1 } :: st) < mu su ks seen (e :: st) := by
  unfold mu
  rw [List.map_cons, List.map_cons, List.sum_cons, List.sum_cons]
  dsimp only
  omega
theorem mu_pop {ks : List Int} {seen : Int → Bool} {st : List Ent} {e : Ent} : mu su ks seen st < mu su ks seen (e :: st) := by
  unfold mu
  rw [List.map_cons, List.sum_cons]
  omega
end
section -- Y7
variable {C : Cx} {B : Heap} {W : Addr → Prop} {env : Env} {F : List (Str × V)} {H : AH} {s : Shared} {A : Around} {E : Value → Shared → Prop} {r1 r2 : Value}
noncomputable def notSlice : Expr → Bool
  | .Slice .. => false
  | _ => true
theorem r_subN {ve slice : Expr} {pos : Pos} {Q : Value → Shared → Prop} (h : wpAny (model C.prog C.w) A (eval ve env) (fun o s₁ => wpAny (model C.prog C.w) A (eval slice env) (fun i s₂ => wpAny (model C.prog C.w) A (subscriptTail ve slice o i) Q E s₂) E s₁) E s) (hns : notSlice slice = true) :
    wpAny (model C.prog C.w) A (eval (.Subscript ve slice pos) env) Q E s := r_sub h
section
variable {Q : Value → Shared → Prop}
theorem sl_tail (S : Sf C B W env F H s) {a : Addr} {l l' : List V} {value lo up st : Option Expr} {ve : Expr} {p : Pos} {vl vu vs : Value} {pl pu ps : Option Int} (ha : H a = some (.list l)) (hz : l.length ≤ 1000) (h1 : IsPart vl pl) (h2 : IsPart vu pu) (h3 : IsPart vs ps) (h0 : ps ≠ some 0) (hst : st = none)
    (hl : ∀ items : Array Value, A2 V.R l items.toList → A2 V.R l' (slicePick items pl pu ps).toList) (k : GoN C B W env F H (.list l') Q) :
    wpAny (model C.prog C.w) A (subscriptTail ve (.Slice lo up st p) (.ref a) (.ref s.heap.objs.size)) Q E { s with heap := s.heap.push { cls := .type "slice", data := .fields #[vl, vu, vs] } } := by
  subst hst
  have S' : Sf C B W env F H { s with heap := s.heap.push { cls := .type "slice", data := .fields #[vl, vu, vs] } } := S.keep (fun b o e => Heap.get?_push_of_some _ e) rfl rfl
  obtain ⟨items, n, x1, y1⟩ := S'.isL ha
  have z := S'.newList (hl items y1) s.toks
  refine r_subT (ops := [.ref s.heap.objs.size, .ref a]) ⟨_, x1, rfl⟩ list_getitem_lookup (wpAny_getItem_list_slice x1.isList (Heap.IsSliceOf.new ..) h1 h2 h3 h0 (k _ _ z.1 ?_) (by rw [y1.size, sizeLine_eq]; omega)) rfl
  have e : (slicePick items pl pu ps).toList.toArray = slicePick items pl pu ps := by simp
  exact z.2
inductive SlF (C : Cx) (env : Env) (o lv : Value) (f : List V → Nat → List V) (Q : Value → Shared → Prop) (s : Shared) : Prop
  | mk (B : Heap) (W : Addr → Prop) (F : List (Str × V)) (H : AH) (a : Addr) (l : List V) (k : Int) (S : Sf C B W env F H s) (h1 : V.R (.ref a) o) (h2 : H a = some (.list l)) (h3 : l.length ≤ 1000) (h4 : V.R (.int k) lv) (h5 : 0 ≤ k) (h6 : GoN C B W env F H (.list (f l k.toNat)) Q)
theorem r_listFrom {ve lower : Expr} {p pos : Pos} (h : wpAny (model C.prog C.w) A (eval ve env) (fun o s1 => wpAny (model C.prog C.w) A (eval lower env) (fun lv s2 => SlF C env o lv (fun l k => l.drop k) Q s2) E s1) E s) :
    wpAny (model C.prog C.w) A (eval (.Subscript ve (.Slice (some lower) none none p) pos) env) Q E s := by
  refine Subscript_ (wpAny_mono h (fun o s1 h1 => wpAny_Slice (wpAny_evalPart_some (wpAny_mono h1 (fun lv s2 ⟨B, W, F2, H2, a, l, k, S2, h2, h3, h4, h5, h6, h7⟩ => wpAny_evalPart_none (wpAny_evalPart_none ?_)) fun _ _ e => e))) fun _ _ e => e)
  obtain rfl := h2
  obtain ⟨t, rfl⟩ := h5
  refine sl_tail (value := none) S2 h3 h4 (.int k t) .none .none (by simp) rfl (fun items y => ?_) h7
  obtain ⟨m, rfl⟩ := Int.eq_ofNat_of_zero_le h6
  rw [slicePick_from']
  simpa using y.drop m
theorem r_listUpto {ve upper : Expr} {p pos : Pos} (h : wpAny (model C.prog C.w) A (eval ve env) (fun o s1 => wpAny (model C.prog C.w) A (eval upper env) (fun lv s2 => SlF C env o lv (fun l k => l.take k) Q s2) E s1) E s) :
    wpAny (model C.prog C.w) A (eval (.Subscript ve (.Slice none (some upper) none p) pos) env) Q E s := by
  refine Subscript_ (wpAny_mono h (fun o s1 h1 => wpAny_Slice (wpAny_evalPart_none (wpAny_evalPart_some (wpAny_mono h1 (fun lv s2 ⟨B, W, F2, H2, a, l, k, S2, h2, h3, h4, h5, h6, h7⟩ => wpAny_evalPart_none ?_) fun _ _ e => e)))) fun _ _ e => e)
  obtain rfl := h2
  obtain ⟨t, rfl⟩ := h5
  refine sl_tail (value := none) S2 h3 h4 .none (.int k t) .none (by simp) rfl (fun items y => ?_) h7
  obtain ⟨m, rfl⟩ := Int.eq_ofNat_of_zero_le h6
  rw [slicePick_upto']
  simpa using y.take m
end
end
local macro_rules | `(tactic| walk_at "g") => `(tactic| first | exact gl_own rfl | exact gl_bi (by assumption) rfl)
local macro_rules | `(tactic| walk_at "m") => `(tactic| first
  | (with_reducible refine' r_name ?zS ?zh ?_ ?zd
     case zS => assumption
     case zh => exact rfl
     case zd => exact rfl
     intros)
  | with_reducible first | refine q_cons ?_ | refine q_nil ?_ | refine q_next ?_ | refine q_ret ?_ | refine q_brk ?_ | refine q_cont ?_ | refine r_none ?_ | refine r_bool ?_ | refine wpAny_BinOp ?_ | refine wpAny_UnaryOp ?_ | refine wpAny_isTrue_BoolOp ?_ | refine wpAny_isTrue_Not ?_ | refine q_and ?_ | refine q_or ?_ | refine q_and_nil ?_ | refine q_or_nil ?_ | refine q_if ?_ | refine q_ifexp ?_ | refine wpAny_NamedExpr ?_ | refine wpAny_Call_ofName ?_ | refine wpAny_AugAssign_Name ?_ | refine wpAny_AugAssign_AttributeAny ?_ | refine wpAny_Return_some ?_ | refine wpAny_Continue ?_ | refine wpAny_Break ?_ | refine r_listFrom ?_ | refine r_listUpto ?_ | refine q_sp0 ?_ | refine wpAny_assign_Name ?_ | refine r_assignSub ?_
  | (with_reducible first | refine' r_int ?zS ?_ | refine' r_str ?zS ?_
     case zS => assumption
     intros)
  | (with_reducible refine' r_glob ?zS ?zl ?zh ?_ ?zd
     case zS => assumption
     case zl => exact Ev.kin (by assumption) _ _ (by rfl) (by decide)
     case zh => walk_at "g"
     case zd => exact rfl)
  | (with_reducible first | refine' wpAny_Compare1 ?_ ?zh | refine' wpAny_isTrue_Compare1 ?_ ?zh | refine' r_attr ?_ ?zh
     case zh => with_unfolding_all rfl)
  | (with_reducible first | refine' r_subN ?_ ?zh | refine' MethodCall_ ?_ ?zh | refine' plainObj_wpAny_Assign_Attribute ?_ ?zh | refine' wpAny_Assign_Subscript ?_ ?zh | refine' wpAny_Assign_Name ?_ ?zh | refine' wpAny_AugAssign_SubscriptAny ?_ ?zh | refine' q_sp ?_ ?zh | refine' isTrue_plain ?_ ?zh
     case zh =>
       intros
       rfl)
  | (with_reducible refine' wpAny_Expr_any ?_ (Sf.notInter (by assumption)) ?zh
     case zh => rfl)
  | (with_reducible refine' r_loadName ?zS ?zh ?_
     case zS => assumption
     case zh => exact rfl
     intros)
  | (with_reducible refine' r_store ?zG ?zS ?zh ?zr ?_
     case zG => assumption
     case zS => assumption
     case zh => exact rfl
     case zr => first | assumption | rfl
     intros)
  | (with_reducible refine' t_bool ?zh ?_
     case zh => first | assumption | rfl)
  | (with_reducible refine' t_none ?zh ?_
     case zh => first | assumption | rfl)
  | (with_reducible refine lf (by assumption) ?_))
local macro_rules | `(tactic| walk_at "w") => `(tactic| repeat walk_at "m")
section -- X3
variable {prog : Program} {w : World} {os : OsState} {ob : Obj} {n0 : Nat} {B : Heap} {W : Addr → Prop} {env : Env} {F : List (Str × V)} {H : AH} {s : Shared} {A : Around} {E : Value → Shared → Prop} {r1 r2 : Value}
set_option maxHeartbeats 1000000 in
theorem sp53 {n : Nat} (S : Sf (CC prog w os ob n0) B W env F H s) (R : Rm (n + 1) A) {x d : Addr} {i : Int} (hx : H x = some (.slots 57 d [])) (hd : H d = some (.attrs [])) (hr : V.R (.int i) r1) {RR : Result → Shared → Prop}
    (k : ∀ a s', H a = none → Sf (CC prog w os ob n0) B W env F ((H.set a (.list [])).set x (.slots 57 d [some (.int i), some (.int 0), some (.ref a)])) s' → RR (.ok (.ret .none)) s') :
    codeAny (model prog w) A (.call (.ref 53) ⟨[.ref x, r1], []⟩) RR s := by
  refine r_callC S R (fn53 w.params ob) (vals := [.ref x, r1]) (binds := [("self", .ref x), ("node", r1)]) (F' := [("self", .ref x), ("node", .int i)]) (by kernel_rfl) (.two ⟨rfl, rfl⟩ ⟨rfl, hr⟩) (of_decide_eq_true (by kernel_rfl)) (by kernel_rfl) (ok53 _) fun env' s1 G S1 => ?_
  obtain ⟨cd, cls, _⟩ := cls57 w.params ob
  have dx : d ≠ x := ne_of_at hd hx rfl
  refine q_cons ?_
  walk_at "w"
  refine sl_set (by assumption) cls (slot_node _ _) (by assumption) hx hd (by assumption) (by decide) ?_; intro s2 S2
  walk_at "w"
  refine sl_set (by assumption) cls (slot_npredecessors _ _) (by assumption) (AH.set_self ..) (by rw [AH.set_ne _ _ dx]; exact hd) (by assumption) (by decide) ?_; intro s3 S3
  walk_at "w"
  rw [AH.set_set] at S3
  refine q_list (q_sp0 ⟨_, _, [], S3, .nil, by decide, fun a s4 ha S4 => ?_⟩)
  have hxn : H x ≠ none := by rw [hx]; simp
  have ax : a ≠ x := fun q => by rw [q, AH.set_self] at ha; cases ha
  rw [AH.set_ne _ _ ax] at ha
  have xa : x ≠ a := Ne.symm ax
  walk_at "w"
  refine sl_set (v := .ref a) S4 cls (slot_successors _ _) (by assumption) (by rw [AH.set_ne _ _ xa]; exact AH.set_self ..) (by rw [AH.set_ne _ _ (Ne.symm (ne_of_new ha hd)), AH.set_ne _ _ dx]; exact hd) rfl (by decide) ?_; intro s5 S5
  walk_at "w"
  refine ⟨_, _, S5, fun S6 => k a _ ha ?_⟩
  rw [AH.set_comm _ _ _ xa, AH.set_set] at S6
  exact S6
theorem depth_ok {n : Nat} (R : Rm (n + 1) A) : Rm n A := R.mono (Nat.le_succ n)
set_option maxHeartbeats 1000000 in
theorem sp97 {n : Nat} (S : Sf (CC prog w os ob n0) B W env F H s) (R : Rm (n + 4) A) {H0 : AH} {D : SD} (G : Srt H0 H D) {x : Addr} (hxx : D.x = x) (hz : D.ks.length ≤ 900) {i : Int} (hr : V.R (.int i) r1) {Q : Value → Shared → Prop}
    (k : ∀ D' H' s', Stp H0 D H D' H' → D'.ks = (if i ∈ D.ks then D.ks else D.ks ++ [i]) → D'.np = D.np → D'.su = D.su → D'.rd = D.rd → D'.po = D.po → D'.fi = D.fi → Sf (CC prog w os ob n0) B W env F H' s' → Q (.ref (D'.a i)) s') :
    wpAny (model prog w) A (call (.ref 97) [.ref x, r1]) Q E s := by
  subst hxx
  refine r_call S R (fn97 w.params ob) (vals := [.ref D.x, r1]) (binds := [("self", .ref D.x), ("node", r1)]) (F' := [("self", .ref D.x), ("node", .int i)]) (by kernel_rfl) (.two ⟨rfl, rfl⟩ ⟨rfl, hr⟩) (of_decide_eq_true (by kernel_rfl)) (by kernel_rfl) (ok97 _) fun env' s1 Ge S1 => ?_
  refine gq ?_; intro QF hQF
  obtain ⟨cd, cls, hdict⟩ := cls154 w.params ob
  refine q_cons ?_
  walk_at "w"
  obtain ⟨ep, hm⟩ := G.hm
  refine a_get (by assumption) cls (by assumption) G.hx G.hd rfl (fun _ h => nomatch h) hdict (no_node2info _ _) ?_; intro v2 s2 S2 h2
  refine gm_dict S2 h2 hm PySem.F.slot_dict_get PySem.F.type_dict_get ?_
  refine callWith_method1 ?_
  walk_at "w"
  refine m_dget S2 (by assumption) hm ?_; intro v3 s3 S3 h3
  rw [G.dgetK] at h3
  by_cases hi : i ∈ D.ks
  · rw [if_pos hi] at h3
    walk_at "w"
    refine c_isNone h3 (fun _ h => nomatch h) ?_
    walk_at "w"
    refine ifQ_f ?_
    walk_at "w"
    refine ⟨_, _, by assumption, fun S6 => ?_⟩
    have hv : V.R (.ref (D.a i)) ‹Value› := by assumption
    obtain rfl := hv
    exact k D H _ (Stp.refl G) (by rw [if_pos hi]) rfl rfl rfl rfl rfl S6
  · rw [if_neg hi] at h3
    walk_at "w"
    refine c_isNone h3 (fun _ h => nomatch h) ?_
    walk_at "w"
    refine ifQ_t ?_
    walk_at "w"
    refine wpAny_Assign_two ?_
    walk_at "w"
    refine q_callK (by assumption) (kp__NodeInfo _ _) ?_
    walk_at "w"
    refine ⟨Sf.k (by assumption), ?_⟩
    refine r_make (by assumption) (R.deeper _) (fun d => .slots 57 d []) (fun d => ⟨#[], rfl, .nil⟩) (mk57 _ _) (in57 _ _) (ty53 _ _) fun dn an s5 hdn han hne S5 => ?_
    refine sp53 S5 (Rm.ty (R.deeper _) _ _) (AH.set_self ..) (by exact AH.set_at (AH.set_self ..) (Ne.symm hne)) (by assumption) fun sn s6 hsn S6 => ⟨rfl, ?_⟩
    have sd : sn ≠ dn := fun q => by rw [q, AH.set_ne _ _ (Ne.symm hne), AH.set_self] at hsn; cases hsn
    have sa : sn ≠ an := fun q => by rw [q, AH.set_self] at hsn; cases hsn
    rw [AH.set_ne _ _ sa, AH.set_ne _ _ sd] at hsn
    rw [AH.set_comm _ _ _ (Ne.symm sa), AH.set_set] at S6
    have e1 : Ext H (((H.set dn (.attrs [])).set sn (.list [])).set an (.slots 57 dn [some (.int i), some (.int 0), some (.ref sn)])) := (((Ext.refl H).put hdn _).put hsn _).put han _
    have hm6 := e1 _ _ hm
    have hx6 := e1 _ _ G.hx
    have hd6 := e1 _ _ G.hd
    walk_at "w"
    refine a_get S6 cls (by assumption) hx6 hd6 rfl (fun _ h => nomatch h) hdict (no_node2info _ _) ?_; intro v7 s7 S7 h7
    walk_at "w"
    refine d_put (v := .ref an) S7 h7 (by assumption) hm6 (by rw [List.length_map]; omega) rfl ?_; intro ep8 s8 S8
    rw [dput_new (by rw [G.dgetK, if_neg hi])] at S8
    refine wpAny_assign_Name (r_store (v := .ref an) Ge S8 rfl rfl fun s9 S9 => ?_)
    walk_at "w"
    refine ⟨_, _, by assumption, fun S10 => ?_⟩
    have hv : V.R (.ref an) ‹Value› := by assumption
    obtain rfl := hv
    have z := G.addKey hi e1 han hdn hsn (AH.set_self ..) (AH.set_at (AH.set_at (AH.set_self ..) (Ne.symm sd)) (Ne.symm hne)) (AH.set_at (AH.set_self ..) sa) (ep := ep8)
    have := k _ _ _ z (by rw [if_neg hi]) rfl rfl rfl rfl rfl S10
    simpa [retOf] using this
end
section -- X4
variable {prog : Program} {w : World} {os : OsState} {ob : Obj} {n0 : Nat} {B : Heap} {W : Addr → Prop} {env : Env} {F : List (Str × V)} {H : AH} {s : Shared} {A : Around} {E : Value → Shared → Prop} {r1 r2 : Value}
theorem Srt.ownS {H0 H : AH} {D : SD} (h : Srt H0 H D) {b : Addr} (q : own D b) : H b ≠ none := by
  rcases q with rfl | rfl | ⟨r, l, e, rfl⟩ | ⟨k, hk, rfl | rfl⟩
  · rw [h.hd]; simp
  · obtain ⟨ep, z⟩ := h.hm; rw [z]; simp
  · rw [(h.rd _ _ e).1]; simp
  · rw [h.ha k hk]; simp
  · rw [h.hs k hk]; simp
theorem Stp.keep {H0 H H' : AH} {D D' : SD} (h : Stp H0 D H D' H') {b : Addr} {o : O} (e : H b = some o) (n : ¬ own D b) : H' b = some o := h.k b o e n
theorem Sf.drop {C : Cx} {x : Str} {v : V} (S : Sf C B W env ((x, v) :: F) H s) (h : F.lookup x = none) : Sf C B W env F H s := S.less fun y u e => by
  rw [lookup_cons_eq]
  by_cases q : y = x
  · rw [q, h] at e; cases e
  · rw [if_neg q]; exact e
theorem take_fold {α : Type} (f : α → Int → α) (a : α) (l : List Int) {i : Nat} {x : Int} (h : l[i]? = some x) : (l.take (i + 1)).foldl f a = f ((l.take i).foldl f a) x := by
  rw [List.take_add_one, h]; simp [List.foldl_append]
theorem m_lenT {Q : Value → Shared → Prop} {C : Cx} (S : Sf C B W env F H s) {a : Addr} {l : List V} (ha : H a = some (.tup l)) (hz : l.length ≤ 1000) (k : Go C B W env F H (.int l.length) Q) : wpAny (model C.prog C.w) A (call (.builtin "len") [.ref a]) Q E s := by
  obtain ⟨vs, n, x1, y1⟩ := S.isTup ha
  refine len_tuple (items := vs) ⟨_, x1, rfl, _, rfl⟩ ?_ (k _ _ (S.tok _) ⟨s.toks + 1, by rw [A2.size y1]⟩)
  rw [A2.size y1]; exact Int.lt_of_le_of_lt (Int.ofNat_le.mpr hz) (by decide)
noncomputable def addK (ks : List Int) (q : Int) : List Int := if q ∈ ks then ks else ks ++ [q]
noncomputable def addS (p : Int) (su : Int → List Int) (q : Int) : Int → List Int := upd su q (su q ++ [p])
theorem bind104 (P : Params) (a b : Value) (vs : List Value) : bindArgs (fdOf P 104) ⟨a :: b :: vs, []⟩ = (newTuple vs >>= fun t => pure [(("self" : Str), a), ("node", b), ("predecessors", t)]) := by
  cases vs <;> kernel_rfl
theorem mm_lenT {Q : Value → Shared → Prop} {C : Cx} (S : Sf C B W env F H s) {a : Addr} {l : List V} (h1 : V.R (.ref a) r1) (ha : H a = some (.tup l)) (hz : l.length ≤ 1000) (k : Go C B W env F H (.int l.length) Q) : wpAny (model C.prog C.w) A (call (.builtin "len") [r1]) Q E s := by
  obtain rfl := h1; exact m_lenT S ha hz k
theorem mm_len {Q : Value → Shared → Prop} {C : Cx} (S : Sf C B W env F H s) {a : Addr} {l : List V} (h1 : V.R (.ref a) r1) (ha : H a = some (.list l)) (hz : l.length ≤ 1000) (k : Go C B W env F H (.int l.length) Q) : wpAny (model C.prog C.w) A (call (.builtin "len") [r1]) Q E s := by
  obtain rfl := h1; exact m_len S ha hz k
theorem addK_len (ks : List Int) (q : Int) : (addK ks q).length ≤ ks.length + 1 := by unfold addK; split <;> simp
theorem addK_mem (ks : List Int) (q : Int) : q ∈ addK ks q := by unfold addK; split <;> simp_all
theorem addK_sub (ks : List Int) (q : Int) {k : Int} (h : k ∈ ks) : k ∈ addK ks q := by unfold addK; split <;> simp_all
theorem addKs_len : ∀ (ps ks : List Int), (ps.foldl addK ks).length ≤ ks.length + ps.length
  | [], ks => by simp
  | p :: ps, ks => by
    exact ar_step (addKs_len ps (addK ks p)) (addK_len ks p)
theorem addKs_sub : ∀ (ps ks : List Int) {k : Int}, k ∈ ks → k ∈ ps.foldl addK ks
  | [], ks, k, h => h
  | p :: ps, ks, k, h => addKs_sub ps (addK ks p) (addK_sub ks p h)
theorem addS_len (p : Int) : ∀ (ps : List Int) (su : Int → List Int) (k : Int), (ps.foldl (addS p) su k).length ≤ (su k).length + ps.length
  | [], su, k => by simp
  | q :: ps, su, k => by
    refine ar_step (addS_len p ps (addS p su q) k) ?_
    unfold addS
    by_cases e : k = q
    · subst e; simp
    · rw [upd_ne _ _ e]; exact Nat.le_succ _
inductive J104 (H0 : AH) (D : SD) (H : AH) (T : Addr) (D2 : SD) (p : Int) (ps : List Int) (i : Nat) (F' : List (Str × V)) (H' : AH) : Prop
  | mk (h1 : F' = ([("nodeinfo", .ref (D2.a p)), ("self", .ref D.x), ("node", .int p), ("predecessors", .ref T)] : List (Str × V))) (h2 : H' T = some (.tup (iL ps))) (D' : SD) (h3 : Stp H0 D (H.set T (.tup (iL ps))) D' H') (h4 : D'.x = D.x) (h5 : D'.ks = (ps.take i).foldl addK (addK D.ks p))
    (h6 : D'.np = upd D.np p (D.np p + ps.length)) (h7 : D'.su = (ps.take i).foldl (addS p) D.su) (h8 : D'.rd = none) (h9 : D'.po = D.po) (h10 : D'.fi = D.fi)
theorem J104.tup {H0 : AH} {D : SD} {H : AH} {T : Addr} {D2 : SD} {p : Int} {ps : List Int} {i : Nat} {F' : List (Str × V)} {H' : AH} (h : J104 H0 D H T D2 p ps i F' H') : H' T = some (.tup (iL ps)) := by cases h; assumption
set_option maxHeartbeats 2000000 in
theorem c104 {n : Nat} (S : Sf (CC prog w os ob n0) B W env F H s) (hb : BOk ob) (R : Rm (n + 6) A) {H0 : AH} {D : SD} (G : Srt H0 H D) (hrd : D.rd = none) {p : Int} {ps : List Int} {vs : List Value} (hr : V.R (.int p) r1) (hvs : A2 V.R (iL ps) vs) (hz : D.ks.length + ps.length ≤ 800) (hsz : ∀ k, (D.su k).length + ps.length ≤ 800) {RR : Result → Shared → Prop}
    (k : ∀ D' H' s', Stp H0 D H D' H' → D'.ks = ps.foldl addK (addK D.ks p) → D'.np = upd D.np p (D.np p + ps.length) → D'.su = ps.foldl (addS p) D.su → D'.rd = none → D'.po = D.po → D'.fi = D.fi → Sf (CC prog w os ob n0) B W env F H' s' → RR (.ok (.ret .none)) s') :
    codeAny (model prog w) A (.call (.ref 104) ⟨.ref D.x :: r1 :: vs, []⟩) RR s := by
  refine r_callB S R (fn104 w.params ob) (ok104 _) ?_
  rw [bind104]
  refine wpAny_bind (wpAny_newTuple ?_ ?_)
  rotate_left
  · rw [← hvs.length]; exact ar_map (le_b2 hz (Nat.le_refl _) (Nat.le_refl _)) (by decide)
  obtain ⟨hT, S0⟩ := S.newTup (l := iL ps) (vs := vs.toArray) (by simpa using hvs) s.toks
  generalize s.heap.objs.size = T at hT S0
  refine wpAny_pure ⟨[("self", .ref D.x), ("node", .int p), ("predecessors", .ref T)], _, S0, .cons ⟨rfl, rfl⟩ (.two ⟨rfl, hr⟩ ⟨rfl, rfl⟩), of_decide_eq_true (by kernel_rfl), by kernel_rfl, fun env' s1 Ge S1 => ?_⟩
  refine gE ?_; intro EF hEF; refine gq ?_; intro QF hQF
  have G1 := Stp.more G ((Ext.refl H).put hT (.tup (iL ps)))
  obtain ⟨cd, cls, hdict⟩ := cls154 w.params ob
  refine q_cons ?_
  walk_at "w"
  refine a_get (by assumption) cls (by assumption) G1.s.hx G1.s.hd rfl (by unfold SD.rv; rw [hrd]; exact fun _ h => nomatch h) hdict (no_ready_nodes _ _) ?_; intro v2 s2 S2 h2
  have e0 : D.rv = .none := by unfold SD.rv; rw [hrd]
  rw [e0] at h2
  walk_at "w"
  refine c_isNotNone h2 (fun _ h => nomatch h) ?_
  walk_at "w"
  refine ifQ_f ?_
  walk_at "w"
  refine a_meth (by assumption) cls (by assumption) G1.s.hx G1.s.hd rfl (me_get_nodeinfo _ _) (ty97 _ _) ?_
  refine q_callK (by assumption) (kf97 _ _) ?_
  walk_at "w"
  refine ⟨Sf.k (by assumption), ?_⟩
  refine sp97 (by assumption) (R.deeper _) G1.s rfl (le_a2 hz (Nat.le_refl _) (by decide)) (by assumption) fun D2 H2 s3 G2 hks hnp hsu hrd2 hpo hfi S3 => ?_
  have eT : H2 T = some (.tup (iL ps)) := G2.keep (AH.set_self ..) fun q => G.ownS q hT
  have hp2 : p ∈ D2.ks := by rw [hks]; exact addK_mem D.ks p
  refine r_store (v := .ref (D2.a p)) Ge S3 rfl rfl ?_; intro s4 S4
  walk_at "w"
  obtain ⟨cd57, cls57, _⟩ := cls57 w.params ob
  refine sl_get (by assumption) cls57 (slot_npredecessors _ _) (by assumption) (G2.s.ha p hp2) (G2.s.he p hp2) rfl (fun _ h => nomatch h) ?_; intro v5 s5 S5 h5
  walk_at "w"
  refine PyProof.Rows.callWith_builtin1 ?_
  walk_at "w"
  refine mm_lenT S5 (by assumption) eT (ar_map (le_b2 hz (Nat.le_refl _) (Nat.le_refl _)) (by decide)) ?_; intro v6 s6 S6 h6
  refine b_iadd S6 h5 h6 ?_; intro v7 s7 S7 h7
  refine sl_set S7 cls57 (slot_npredecessors _ _) (by assumption) (G2.s.ha p hp2) (G2.s.he p hp2) h7 (by decide) ?_; intro s8 S8
  have G3 := G2.trans (G2.s.setNp hp2 (D2.np p + (iL ps).length))
  have nT : ¬ own D T := fun q => G.ownS q hT
  have eT3 := AH.set_at (o' := .slots 57 (D2.e p) [some (.int p), some (.int (D2.np p + (iL ps).length)), some (.ref (D2.sc p))]) eT (ne_of_at eT (G2.s.ha p hp2) rfl)
  walk_at "w"
  refine r_for Ge S8 rfl ?_
  walk_at "w"
  refine ⟨_, _, iL ps, _, by assumption, its_tup (by assumption) (R.deeper env').handled (by assumption) eT3, J104 H0 D H T D2 p ps, ?_, fun i F' H' h => h.tup, ?_, ?_⟩
  · refine ⟨rfl, eT3, _, G3, G3.x, hks, ?_, hsu, hrd2.trans hrd, hpo, hfi⟩
    rw [hnp]; simp
  · rintro i v F' H' B' W' s' E' hv ⟨rfl, hT', D', G', hx', hks', hnp', hsu', hrd', hpo', hfi'⟩ S'
    refine gq ?_; intro QL hQL
    rw [List.getElem?_map] at hv
    obtain ⟨q, hq, rfl⟩ := Option.map_eq_some_iff.mp hv
    have hl : ((ps.take i).foldl addK (addK D.ks p)).length ≤ 801 :=
      Nat.le_trans (ar_step (addKs_len (ps.take i) (addK D.ks p)) (addK_len D.ks p)) (Nat.succ_le_succ (Nat.le_trans (Nat.add_le_add_left (List.length_take_le' _ _) _) hz))
    refine q_cons ?_
    walk_at "w"
    refine a_meth (by assumption) cls (by assumption) (hx' ▸ G'.s.hx) G'.s.hd rfl (me_get_nodeinfo _ _) (ty97 _ _) ?_
    refine q_callK (by assumption) (kf97 _ _) ?_
    walk_at "w"
    refine ⟨Sf.k (by assumption), ?_⟩
    refine sp97 (by assumption) (R.deeper _) G'.s hx' (by rw [hks']; exact Nat.le_trans hl (by decide)) (by assumption) fun D5 H5 s5 G5 hks5 hnp5 hsu5 hrd5 hpo5 hfi5 S5 => ?_
    have nT' : ¬ own D' T := fun z => by
      rcases G'.o T z with y | y
      · exact nT y
      · rw [AH.set_self] at y; cases y
    have hT5 : H5 T = some (.tup (iL ps)) := G5.keep hT' nT'
    have hq5 : q ∈ D5.ks := by rw [hks5]; exact addK_mem D'.ks q
    refine r_store (v := .ref (D5.a q)) Ge S5 rfl rfl ?_; intro s6 S6
    walk_at "w"
    refine sl_get (by assumption) cls57 (slot_successors _ _) (by assumption) (G5.s.ha q hq5) (G5.s.he q hq5) rfl (fun _ h => nomatch h) ?_; intro v7 s7 S7 h7
    refine gm_list S7 h7 (G5.s.hs q hq5) PySem.F.slot_list_append PySem.F.type_list_append ?_
    refine callWith_method1 ?_
    walk_at "w"
    have hlen : (D5.su q).length ≤ 800 := by
      rw [hsu5, hsu']
      exact Nat.le_trans (addS_len p (ps.take i) D.su q) (Nat.le_trans (Nat.add_le_add_left (List.length_take_le' _ _) _) (hsz q))
    refine m_append S7 (G5.s.hs q hq5) (ar_map hlen (by decide)) (by assumption) ?_; intro s8 S8
    walk_at "w"
    have G8 := G5.trans (G5.s.setSu hq5 (D5.su q ++ [p]))
    rw [← iL_snoc] at G8
    refine ⟨_, _, Sf.drop (Sf.drop S8 rfl) rfl, rfl, ?_, { D5 with su := upd D5.su q (D5.su q ++ [p]) }, G'.trans G8, G5.x.trans hx', ?_, ?_, ?_, hrd5.trans hrd', hpo5.trans hpo', hfi5.trans hfi'⟩
    · exact AH.set_at hT5 (ne_of_at hT5 (G5.s.hs q hq5) rfl)
    · rw [take_fold _ _ _ hq, ← hks']; exact hks5
    · rw [hnp5]; exact hnp'
    · rw [take_fold _ _ _ hq, ← hsu', ← hsu5]; rfl
  · rintro F' H' s' ⟨rfl, hT', D', G', hx', hks', hnp', hsu', hrd', hpo', hfi'⟩ S'
    rw [List.length_map, List.take_length] at hks' hsu'
    walk_at "w"
    exact ⟨_, _, S', fun S9 => k D' H' _ (G1.trans G') hks' hnp' hsu' hrd' hpo' hfi' S9⟩
theorem sp104 {n : Nat} (S : Sf (CC prog w os ob n0) B W env F H s) (hb : BOk ob) (R : Rm (n + 6) A) {H0 : AH} {D : SD} (G : Srt H0 H D) (hrd : D.rd = none) {p : Int} {ps : List Int} {vs : List Value} (hr : V.R (.int p) r1) (hvs : A2 V.R (iL ps) vs) (hz : D.ks.length + ps.length ≤ 800) (hsz : ∀ k, (D.su k).length + ps.length ≤ 800) {Q : Value → Shared → Prop}
    (k : ∀ D' H' s', Stp H0 D H D' H' → D'.ks = ps.foldl addK (addK D.ks p) → D'.np = upd D.np p (D.np p + ps.length) → D'.su = ps.foldl (addS p) D.su → D'.rd = none → D'.po = D.po → D'.fi = D.fi → Sf (CC prog w os ob n0) B W env F H' s' → Q .none s') :
    wpAny (model prog w) A (call (.ref 104) (.ref D.x :: r1 :: vs)) Q E s :=
  wpAny_call (c104 S hb R G hrd hr hvs hz hsz k)
end
section -- X5
variable {prog : Program} {w : World} {os : OsState} {ob : Obj} {n0 : Nat} {B : Heap} {W : Addr → Prop} {env : Env} {F : List (Str × V)} {H : AH} {s : Shared} {A : Around} {E : Value → Shared → Prop} {r1 r2 : Value}
theorem mm_tupleOf {Q : Value → Shared → Prop} {C : Cx} (S : Sf C B W env F H s) {a : Addr} {l : List V} (h1 : V.R (.ref a) r1) (ha : H a = some (.list l)) (hz : l.length ≤ 1000) (k : GoN C B W env F H (.tup l) Q) : wpAny (model C.prog C.w) A (call (.type "tuple") [r1]) Q E s := by
  obtain rfl := h1; exact m_tupleOf S ha hz k
theorem mm_listOf {Q : Value → Shared → Prop} {C : Cx} (S : Sf C B W env F H s) {a : Addr} {l : List V} (h1 : V.R (.ref a) r1) (ha : H a = some (.list l) ∨ H a = some (.tup l)) (hz : l.length ≤ 1000) (k : GoN C B W env F H (.list l) Q) : wpAny (model C.prog C.w) A (call (.type "list") [r1]) Q E s := by
  obtain rfl := h1; exact m_listOf S ha hz k
noncomputable def setN (v : Int) (np : Int → Int) (l : List Int) : Int → Int := l.foldl (fun np k => upd np k v) np
theorem setN_at (v : Int) : ∀ (l : List Int) (np : Int → Int) (k : Int), setN v np l k = if k ∈ l then v else np k
  | [], np, k => by simp [setN]
  | q :: l, np, k => by
    have ih := setN_at v l (upd np q v) k
    unfold setN at ih ⊢
    rw [List.foldl_cons, ih]
    by_cases h : k ∈ l
    · simp [h]
    · by_cases e : k = q
      · subst e; simp
      · simp [h, e, upd_ne]
inductive J116 (H0 : AH) (D : SD) (H : AH) (T : Addr) (l : List Int) (i : Nat) (F' : List (Str × V)) (H' : AH) : Prop
  | mk (h1 : F' = ([("n2i", .ref D.m), ("result", .ref T), ("self", .ref D.x)] : List (Str × V))) (h2 : H' T = some (.tup (iL l))) (D' : SD) (h3 : Stp H0 D (H.set T (.tup (iL l))) D' H') (h4 : D'.x = D.x) (h5 : D'.m = D.m) (h6 : D'.ks = D.ks)
    (h7 : D'.np = setN (-1) D.np (l.take i)) (h8 : D'.su = D.su) (h9 : D'.rd = D.rd) (h10 : D'.po = D.po) (h11 : D'.fi = D.fi)
theorem J116.tup {H0 : AH} {D : SD} {H : AH} {T : Addr} {l : List Int} {i : Nat} {F' : List (Str × V)} {H' : AH} (h : J116 H0 D H T l i F' H') : H' T = some (.tup (iL l)) := by cases h; assumption
set_option maxHeartbeats 2000000 in
theorem sp116 {n : Nat} (S : Sf (CC prog w os ob n0) B W env F H s) (hb : BOk ob) (R : Rm (n + 2) A) {H0 : AH} {D : SD} (G : Srt H0 H D) {x : Addr} (hxx : D.x = x) {r : Addr} {l : List Int} (hrd : D.rd = some (r, l)) (hl : ∀ k ∈ l, k ∈ D.ks) (hz : l.length ≤ 800) {Q : Value → Shared → Prop}
    (k : ∀ D' H' T s', Stp H0 D H D' H' → H T = none → ¬ own D' T → H' T = some (.tup (iL l)) → D'.ks = D.ks → D'.np = setN (-1) D.np l → D'.su = D.su → D'.rd = some (r, []) → D'.po = D.po + l.length → D'.fi = D.fi → Sf (CC prog w os ob n0) B W env F H' s' → Q (.ref T) s') :
    wpAny (model prog w) A (call (.ref 116) [.ref x]) Q E s := by
  subst hxx
  refine r_call S R (fn116 w.params ob) (vals := [.ref D.x]) (binds := [("self", .ref D.x)]) (F' := [("self", .ref D.x)]) (by kernel_rfl) (.one ⟨rfl, rfl⟩) (of_decide_eq_true (by kernel_rfl)) (by kernel_rfl) (ok116 _) fun env' s1 Ge S1 => ?_
  refine gq ?_; intro QF hQF
  obtain ⟨cd, cls, hdict⟩ := cls154 w.params ob
  obtain ⟨cd57, cls57, _⟩ := cls57 w.params ob
  have e0 : D.rv = .ref r := by unfold SD.rv; rw [hrd]
  have hg : ∀ g, D.rv ≠ .glob g := by rw [e0]; exact fun _ h => nomatch h
  refine q_cons ?_
  walk_at "w"
  refine a_get (by assumption) cls (by assumption) G.hx G.hd rfl hg hdict (no_ready_nodes _ _) ?_; intro v2 s2 S2 h2
  rw [e0] at h2
  walk_at "w"
  refine c_isNone h2 (fun _ h => nomatch h) ?_
  walk_at "w"
  refine ifQ_f ?_
  walk_at "w"
  refine PyProof.Rows.callWith_type1 ?_
  walk_at "w"
  refine a_get (by assumption) cls (by assumption) G.hx G.hd rfl hg hdict (no_ready_nodes _ _) ?_; intro v3 s3 S3 h3
  rw [e0] at h3
  walk_at "w"
  refine mm_tupleOf S3 h3 (G.rd r l hrd).1 (by rw [List.length_map]; omega) ?_; intro T s4 hT S4
  have G1 := Stp.more G ((Ext.refl H).put hT (.tup (iL l)))
  have nT : ¬ own D T := fun q => G.ownS q hT
  refine r_store (v := .ref T) Ge S4 rfl rfl ?_; intro s5 S5
  walk_at "w"
  refine a_get (by assumption) cls (by assumption) G1.s.hx G1.s.hd rfl (fun _ h => nomatch h) hdict (no_node2info _ _) ?_; intro v6 s6 S6 h6
  walk_at "w"
  refine r_for Ge (by assumption) rfl ?_
  walk_at "w"
  refine ⟨_, _, iL l, _, by assumption, its_tup (by assumption) (R.deeper env').handled (by assumption) (AH.set_self ..), J116 H0 D H T l, ?_, fun i F' H' h => h.tup, ?_, ?_⟩
  · exact ⟨rfl, AH.set_self .., D, Stp.refl G1.s, rfl, rfl, rfl, rfl, rfl, rfl, rfl, rfl⟩
  · rintro i v F' H' B' W' s' E' hv ⟨rfl, hT', D', G', hx', hm', hks', hnp', hsu', hrd', hpo', hfi'⟩ S'
    refine gq ?_; intro QL hQL
    rw [List.getElem?_map] at hv
    obtain ⟨q, hq, rfl⟩ := Option.map_eq_some_iff.mp hv
    have hq' : q ∈ D'.ks := hks' ▸ hl q (List.mem_of_getElem? hq)
    obtain ⟨ep, hmm⟩ := G'.s.hm
    rw [hm'] at hmm
    refine q_cons ?_
    walk_at "w"
    refine sub_dict (by assumption) (by assumption) (by assumption) hmm (v := .ref (D'.a q)) (by rw [G'.s.dgetK, if_pos hq']) ?_; intro v7 s7 S7 h7
    refine sl_set (v := .int (-1)) S7 cls57 (slot_npredecessors _ _) h7 (G'.s.ha q hq') (G'.s.he q hq') ⟨_, rfl⟩ (by decide) ?_; intro s8 S8
    walk_at "w"
    refine ⟨_, _, Sf.drop S8 rfl, rfl, AH.set_at hT' (ne_of_at hT' (G'.s.ha q hq') rfl), { D' with np := upd D'.np q (-1) }, G'.trans (G'.s.setNp hq' (-1)), hx', hm', hks', ?_, hsu', hrd', hpo', hfi'⟩
    show upd D'.np q (-1) = _
    unfold setN at hnp' ⊢
    rw [take_fold _ _ _ hq, ← hnp']
  · rintro F' H' s' ⟨rfl, hT', D', G', hx', hm', hks', hnp', hsu', hrd', hpo', hfi'⟩ S'
    rw [List.length_map, List.take_length] at hnp'
    have e1 : D'.rv = .ref r := by unfold SD.rv; rw [hrd', hrd]
    have hr' := hrd'.trans hrd
    walk_at "w"
    refine a_get (by assumption) cls (by assumption) (hx' ▸ G'.s.hx) G'.s.hd rfl (by rw [e1]; exact fun _ h => nomatch h) hdict (no_ready_nodes _ _) ?_; intro v9 s9 S9 h9
    rw [e1] at h9
    refine gm_list S9 h9 (G'.s.rd r l hr').1 PySem.F.slot_list_clear PySem.F.type_list_clear ?_
    refine callWith_method0 ?_
    refine m_clear S9 (G'.s.rd r l hr').1 (by rw [List.length_map]; omega) ?_; intro s10 S10
    have G10 := G'.trans (G'.s.setRd hr' [])
    walk_at "w"
    refine a_get (by assumption) cls (by assumption) (hx' ▸ G10.s.hx) G10.s.hd rfl (fun _ h => nomatch h) hdict (no_npassedout _ _) ?_; intro v11 s11 S11 h11
    walk_at "w"
    refine PyProof.Rows.callWith_builtin1 ?_
    walk_at "w"
    have nT10 : ∀ {D2 : SD} {H2 : AH}, Stp H0 D (H.set T (.tup (iL l))) D2 H2 → ¬ own D2 T := fun g z => by
      rcases g.o T z with y | y
      · exact nT y
      · rw [AH.set_self] at y; cases y
    refine mm_lenT S11 (by assumption) (G10.keep (AH.set_self ..) nT) (by rw [List.length_map]; omega) ?_; intro v12 s12 S12 h12
    refine b_iadd S12 h11 h12 ?_; intro v13 s13 S13 h13
    refine a_set S13 cls (by assumption) (hx' ▸ G10.s.hx) G10.s.hd h13 (by unfold SD.at; simp) hdict (no_npassedout _ _) ?_; intro s14 S14
    walk_at "w"
    refine ⟨_, _, by assumption, fun S15 => ?_⟩
    have z := G10.s.setAt (D' := { D' with rd := some (r, []), po := D'.po + (iL l).length }) rfl rfl rfl rfl rfl rfl rfl rfl rfl (.inl rfl)
    have G15 : Stp H0 D (H.set T (.tup (iL l))) _ _ := G10.trans ⟨z.1, z.2.1, fun b hb => .inl (by rcases z.2.2 b hb with y | ⟨_, _, y, _⟩; exact y; cases y), rfl⟩
    have hv : V.R (.ref T) ‹Value› := by assumption
    obtain rfl := hv
    refine k _ _ T _ (G1.trans G15) hT (nT10 G15) (G15.keep (AH.set_self ..) nT) hks' hnp' hsu' rfl ?_ hfi' S15
    show D'.po + _ = _
    rw [hpo', List.length_map]
end
section -- X6
variable {prog : Program} {w : World} {os : OsState} {ob : Obj} {n0 : Nat} {B : Heap} {W : Addr → Prop} {env : Env} {F : List (Str × V)} {H : AH} {s : Shared} {A : Around} {E : Value → Shared → Prop} {r1 r2 : Value}
noncomputable def decS (st : (Int → Int) × List Int) (k : Int) : (Int → Int) × List Int := (upd st.1 k (st.1 k - 1), if st.1 k - 1 = 0 then st.2 ++ [k] else st.2)
noncomputable def doneN (su : Int → List Int) (st : (Int → Int) × List Int) (k : Int) : (Int → Int) × List Int := (su k).foldl decS (upd st.1 k (-2), st.2)
theorem decS_1 (st : (Int → Int) × List Int) (k : Int) : (decS st k).1 = upd st.1 k (st.1 k - 1) := rfl
theorem decS_2 (st : (Int → Int) × List Int) (k : Int) : (decS st k).2 = if st.1 k - 1 = 0 then st.2 ++ [k] else st.2 := rfl
theorem decS_len (st : (Int → Int) × List Int) (k : Int) : (decS st k).2.length ≤ st.2.length + 1 := by
  unfold decS; dsimp only; split <;> simp
theorem decSs_len : ∀ (l : List Int) (st : (Int → Int) × List Int), (l.foldl decS st).2.length ≤ st.2.length + l.length
  | [], st => by simp
  | k :: l, st => by
    exact ar_step (decSs_len l (decS st k)) (decS_len st k)
theorem doneN_len (su : Int → List Int) : ∀ (l : List Int) (st : (Int → Int) × List Int), (l.foldl (doneN su) st).2.length ≤ st.2.length + (l.map fun k => (su k).length).sum
  | [], st => by simp
  | k :: l, st => by
    rw [List.foldl_cons, List.map_cons, List.sum_cons]
    exact ar_stepd (doneN_len su l (doneN su st k)) (decSs_len (su k) _)
theorem sum_take1 (f : Int → Nat) : ∀ (l : List Int) (i : Nat) (k : Int), l[i]? = some k → ((l.take i).map f).sum + f k ≤ (l.map f).sum
  | [], i, k, h => by simp at h
  | q :: l, 0, k, h => by
    simp at h; subst h; simp
  | q :: l, i + 1, k, h => by
    have := sum_take1 f l i k (by simpa using h)
    rw [List.take_succ_cons, List.map_cons, List.map_cons, List.sum_cons, List.sum_cons, Nat.add_assoc]; exact Nat.add_le_add_left this _
theorem SD.at_rd {D : SD} {r : Addr} {l : List Int} (h : D.rd = some (r, l)) : D.at.lookup ("_ready_nodes" : Str) = some (.ref r) := by
  have : D.at.lookup ("_ready_nodes" : Str) = some D.rv := rfl
  rw [this]; unfold SD.rv; rw [h]
theorem bind137 (P : Params) (a : Value) (vs : List Value) : bindArgs (fdOf P 137) ⟨a :: vs, []⟩ = (newTuple vs >>= fun t => pure [(("self" : Str), a), ("nodes", t)]) := by
  cases vs <;> kernel_rfl
inductive J137 (H0 : AH) (D : SD) (H : AH) (T r : Addr) (ns l : List Int) (i : Nat) (F' : List (Str × V)) (H' : AH) : Prop
  | mk (h1 : F' = ([("n2i", .ref D.m), ("self", .ref D.x), ("nodes", .ref T)] : List (Str × V))) (h2 : H' T = some (.tup (iL ns))) (D' : SD) (h3 : Stp H0 D (H.set T (.tup (iL ns))) D' H') (h4 : D'.x = D.x) (h5 : D'.m = D.m) (h6 : D'.ks = D.ks)
    (h7 : D'.np = ((ns.take i).foldl (doneN D.su) (D.np, l)).1) (h8 : D'.su = D.su) (h9 : D'.rd = some (r, ((ns.take i).foldl (doneN D.su) (D.np, l)).2)) (h10 : D'.po = D.po) (h11 : D'.fi = D.fi + (ns.take i).length)
theorem J137.tup {H0 : AH} {D : SD} {H : AH} {T r : Addr} {ns l : List Int} {i : Nat} {F' : List (Str × V)} {H' : AH} (h : J137 H0 D H T r ns l i F' H') : H' T = some (.tup (iL ns)) := by cases h; assumption
inductive J137b (H0 : AH) (D : SD) (H : AH) (T r : Addr) (ns l : List Int) (q : Int) (i : Nat) (D' : SD) (j : Nat) (F2 : List (Str × V)) (H2 : AH) : Prop
  | mk (h1 : F2 = ([("stat", .int (-1)), ("nodeinfo", .ref (D'.a q)), ("node", .int q), ("n2i", .ref D.m), ("self", .ref D.x), ("nodes", .ref T)] : List (Str × V))) (D2 : SD) (h3 : Stp H0 D (H.set T (.tup (iL ns))) D2 H2) (h4 : D2.x = D.x) (h5 : D2.m = D.m) (h6 : D2.ks = D.ks)
    (h7 : D2.np = (((D.su q).take j).foldl decS (upd D'.np q (-2), ((ns.take i).foldl (doneN D.su) (D.np, l)).2)).1) (h8 : D2.su = D.su) (h9 : D2.rd = some (r, (((D.su q).take j).foldl decS (upd D'.np q (-2), ((ns.take i).foldl (doneN D.su) (D.np, l)).2)).2)) (h10 : D2.po = D.po) (h11 : D2.fi = D.fi + (ns.take i).length) (h12 : D2.sc q = D'.sc q)
set_option maxHeartbeats 4000000 in
theorem c137 {n : Nat} (S : Sf (CC prog w os ob n0) B W env F H s) (hb : BOk ob) (R : Rm (n + 2) A) {H0 : AH} {D : SD} (G : Srt H0 H D) {x : Addr} (hxx : D.x = x) {r : Addr} {l : List Int} (hrd : D.rd = some (r, l)) {ns : List Int} {vs : List Value} (hvs : A2 V.R (iL ns) vs)
    (hns : ∀ k ∈ ns, k ∈ D.ks) (hsu : ∀ k ∈ ns, ∀ j ∈ D.su k, j ∈ D.ks) (hout : ∀ i k, ns[i]? = some k → ((ns.take i).foldl (doneN D.su) (D.np, l)).1 k = -1) (hz : l.length + (ns.map fun k => (D.su k).length).sum ≤ 800) (hz2 : ns.length ≤ 800) {RR : Result → Shared → Prop}
    (k : ∀ D' H' s', Stp H0 D H D' H' → D'.ks = D.ks → D'.np = (ns.foldl (doneN D.su) (D.np, l)).1 → D'.su = D.su → D'.rd = some (r, (ns.foldl (doneN D.su) (D.np, l)).2) → D'.po = D.po → D'.fi = D.fi + ns.length → Sf (CC prog w os ob n0) B W env F H' s' → RR (.ok (.ret .none)) s') :
    codeAny (model prog w) A (.call (.ref 137) ⟨.ref x :: vs, []⟩) RR s := by
  subst hxx
  refine r_callB S R (fn137 w.params ob) (ok137 _) ?_
  rw [bind137]
  refine wpAny_bind (wpAny_newTuple ?_ ?_)
  rotate_left
  · rw [← hvs.length]; exact ar_map hz2 (by decide)
  obtain ⟨hT, S0⟩ := S.newTup (l := iL ns) (vs := vs.toArray) (by simpa using hvs) s.toks
  generalize s.heap.objs.size = T at hT S0
  refine wpAny_pure ⟨[("self", .ref D.x), ("nodes", .ref T)], _, S0, .two ⟨rfl, rfl⟩ ⟨rfl, rfl⟩, of_decide_eq_true (by kernel_rfl), by kernel_rfl, fun env' s1 Ge S1 => ?_⟩
  refine gE ?_; intro EF hEF; refine gq ?_; intro QF hQF
  have G1 := Stp.more G ((Ext.refl H).put hT (.tup (iL ns)))
  have nT : ¬ own D T := fun q => G.ownS q hT
  have nT' : ∀ {D2 : SD} {H2 : AH}, Stp H0 D (H.set T (.tup (iL ns))) D2 H2 → ¬ own D2 T := fun g z => by
    rcases g.o T z with y | y
    · exact nT y
    · rw [AH.set_self] at y; cases y
  obtain ⟨cd, cls, hdict⟩ := cls154 w.params ob
  obtain ⟨cd57, cls57, _⟩ := cls57 w.params ob
  have e0 : D.rv = .ref r := by unfold SD.rv; rw [hrd]
  have hg : ∀ g, D.rv ≠ .glob g := by rw [e0]; exact fun _ h => nomatch h
  refine q_cons ?_
  walk_at "w"
  refine a_get (by assumption) cls (by assumption) G1.s.hx G1.s.hd rfl hg hdict (no_ready_nodes _ _) ?_; intro v2 s2 S2 h2
  rw [e0] at h2
  walk_at "w"
  refine c_isNone h2 (fun _ h => nomatch h) ?_
  walk_at "w"
  refine ifQ_f ?_
  walk_at "w"
  refine a_get (by assumption) cls (by assumption) G1.s.hx G1.s.hd rfl (fun _ h => nomatch h) hdict (no_node2info _ _) ?_; intro v6 s6 S6 h6
  walk_at "w"
  refine r_for Ge (by assumption) rfl ?_
  walk_at "w"
  refine ⟨_, _, iL ns, _, by assumption, its_tup (by assumption) (R.deeper env').handled (by assumption) (AH.set_self ..), J137 H0 D H T r ns l, ?_, fun i F' H' h => h.tup, ?_, ?_⟩
  · exact ⟨rfl, AH.set_self .., D, Stp.refl G1.s, rfl, rfl, rfl, rfl, rfl, hrd, rfl, by simp⟩
  · rintro i v F' H' B' W' s' E' hv ⟨rfl, hT', D', G', hx', hm', hks', hnp', hsu', hrd', hpo', hfi'⟩ S'
    refine gq ?_; intro QL hQL
    rw [List.getElem?_map] at hv
    obtain ⟨q, hq, rfl⟩ := Option.map_eq_some_iff.mp hv
    have hqn := List.mem_of_getElem? hq
    have hq' : q ∈ D'.ks := hks' ▸ hns q hqn
    obtain ⟨ep, hmm⟩ := G'.s.hm
    rw [hm'] at hmm
    refine q_cons ?_
    walk_at "w"
    refine gm_dict (by assumption) (by assumption) hmm PySem.F.slot_dict_get PySem.F.type_dict_get ?_
    refine callWith_method1 ?_
    walk_at "w"
    refine m_dget (by assumption) (by assumption) hmm ?_; intro v3 s3 S3 h3
    rw [G'.s.dgetK, if_pos hq'] at h3
    refine wpAny_assign_Name (r_store (v := .ref (D'.a q)) Ge S3 rfl h3 fun s4 S4 => ?_)
    walk_at "w"
    refine c_isNone h3 (fun _ h => nomatch h) ?_
    walk_at "w"
    refine ifQ_f ?_
    walk_at "w"
    have hnq : D'.np q = -1 := by rw [hnp']; exact hout i q hq
    refine sl_get (by assumption) cls57 (slot_npredecessors _ _) (by assumption) (G'.s.ha q hq') (G'.s.he q hq') rfl (fun _ h => nomatch h) ?_; intro v7 s7 S7 h7
    rw [hnq] at h7
    walk_at "w"
    refine c_ne (b := -1) (by assumption) ⟨_, rfl⟩ ?_
    walk_at "w"
    refine ifQ_ff (by decide) ?_
    walk_at "w"
    refine sl_set (v := .int (-2)) (by assumption) cls57 (slot_npredecessors _ _) (by assumption) (G'.s.ha q hq') (G'.s.he q hq') ⟨_, rfl⟩ (by decide) ?_; intro s8 S8
    have G8 := G'.trans (G'.s.setNp hq' (-2))
    have e1 : ∀ l', SD.rv { D' with rd := some (r, l') } = .ref r := fun _ => rfl
    walk_at "w"
    refine r_for Ge S8 rfl ?_
    walk_at "w"
    refine sl_get (by assumption) cls57 (slot_successors _ _) (by assumption) (G8.s.ha q hq') (G8.s.he q hq') rfl (fun _ h => nomatch h) ?_; intro v9 s9 S9 h9
    have hsq := G8.s.hs q hq'
    dsimp only at hsq
    rw [hsu'] at hsq
    refine ⟨_, _, iL (D.su q), _, S9, its_list S9 (R.deeper env').handled h9 hsq, J137b H0 D H T r ns l q i D', ?_, ?_, ?_, ?_⟩
    · refine ⟨?_, _, G8, hx', hm', hks', rfl, hsu', hrd', hpo', hfi', rfl⟩
      rw [← hnq]
    · rintro j F2 H2 ⟨_, D2, G2, _, _, hks2, _, hsu2, _, _, _, hsc2⟩
      have := G2.s.hs q (hks2 ▸ hns q hqn)
      rwa [hsc2, hsu2] at this
    · rintro j v2 F2 H2 B2 W2 s2 E2 hv2 ⟨rfl, D2, G2, hx2, hm2, hks2, hnp2, hsu2, hrd2, hpo2, hfi2, hsc2⟩ S2
      refine gq ?_; intro QL hQL
      rw [List.getElem?_map] at hv2
      obtain ⟨t, ht, rfl⟩ := Option.map_eq_some_iff.mp hv2
      have ht' : t ∈ D2.ks := hks2 ▸ hsu q hqn t (List.mem_of_getElem? ht)
      obtain ⟨ep2, hmm2⟩ := G2.s.hm
      rw [hm2] at hmm2
      refine q_cons ?_
      walk_at "w"
      refine sub_dict (by assumption) (by assumption) (by assumption) hmm2 (v := .ref (D2.a t)) (by rw [G2.s.dgetK, if_pos ht']) ?_; intro v10 s10 S10 h10
      refine r_store Ge S10 rfl h10 ?_; intro s11 S11
      walk_at "w"
      refine sl_get (by assumption) cls57 (slot_npredecessors _ _) (by assumption) (G2.s.ha t ht') (G2.s.he t ht') rfl (fun _ h => nomatch h) ?_; intro v12 s12 S12 h12
      walk_at "w"
      refine b_isub (by assumption) h12 (by assumption) ?_; intro v13 s13 S13 h13
      refine sl_set S13 cls57 (slot_npredecessors _ _) (by assumption) (G2.s.ha t ht') (G2.s.he t ht') h13 (by decide) ?_; intro s14 S14
      have G14 := G2.trans (G2.s.setNp ht' (D2.np t - 1))
      walk_at "w"
      refine sl_get (by assumption) cls57 (slot_npredecessors _ _) (by assumption) (G14.s.ha t ht') (G14.s.he t ht') rfl (fun _ h => nomatch h) ?_; intro v15 s15 S15 h15
      dsimp only at h15
      rw [upd_self] at h15
      walk_at "w"
      refine c_eq h15 (by assumption) ?_
      walk_at "w"
      have st1 : ((D.su q).take (j + 1)).foldl decS (upd D'.np q (-2), ((ns.take i).foldl (doneN D.su) (D.np, l)).2) = decS (((D.su q).take j).foldl decS (upd D'.np q (-2), ((ns.take i).foldl (doneN D.su) (D.np, l)).2)) t := by
        exact take_fold _ _ _ ht
      have hr14 : ({ D2 with np := upd D2.np t (D2.np t - 1) } : SD).rd = _ := hrd2
      by_cases hz0 : D2.np t - 1 = 0
      · refine ifQ_tt (by simpa using hz0) ?_
        walk_at "w"
        refine a_get (by assumption) cls (by assumption) (hx2 ▸ G14.s.hx) G14.s.hd (SD.at_rd hr14) (fun _ h => nomatch h) hdict (no_ready_nodes _ _) ?_; intro v16 s16 S16 h16
        refine gm_list S16 h16 (G14.s.rd _ _ hr14).1 PySem.F.slot_list_append PySem.F.type_list_append ?_
        refine callWith_method1 ?_
        walk_at "w"
        have hb1 := decSs_len ((D.su q).take j) (upd D'.np q (-2), ((ns.take i).foldl (doneN D.su) (D.np, l)).2)
        have hb2 := doneN_len D.su (ns.take i) (D.np, l)
        have hb3 := sum_take1 (fun k => (D.su k).length) ns i q hq
        have hb5 := Nat.le_trans hb1 (Nat.le_trans (Nat.add_le_add hb2 (List.length_take_le' _ _)) (by rw [Nat.add_assoc]; exact Nat.le_trans (Nat.add_le_add_left hb3 _) hz))
        refine m_append S16 (G14.s.rd _ _ hr14).1 (ar_map hb5 (by decide)) (by assumption) ?_; intro s17 S17
        have G17 := G14.trans (G14.s.setRd hr14 ((((D.su q).take j).foldl decS (upd D'.np q (-2), ((ns.take i).foldl (doneN D.su) (D.np, l)).2)).2 ++ [t]))
        rw [← iL_snoc] at G17
        walk_at "w"
        refine ⟨_, _, Sf.drop (Sf.drop S17 rfl) rfl, rfl, _, G17, hx2, hm2, hks2, ?_, hsu2, ?_, hpo2, hfi2, hsc2⟩
        · rw [st1, decS_1, ← hnp2]
        · rw [st1, decS_2, ← hnp2, if_pos hz0]
      · refine ifQ_ff (by simpa using hz0) ?_
        walk_at "w"
        refine ⟨_, _, Sf.drop (Sf.drop (by assumption) rfl) rfl, rfl, _, G14, hx2, hm2, hks2, ?_, hsu2, ?_, hpo2, hfi2, hsc2⟩
        · rw [st1, decS_1, ← hnp2]
        · rw [st1, decS_2, ← hnp2, if_neg hz0]; exact hrd2
    · rintro F2 H2 s2 ⟨rfl, D2, G2, hx2, hm2, hks2, hnp2, hsu2, hrd2, hpo2, hfi2, hsc2⟩ S2
      rw [List.length_map, List.take_length] at hnp2 hrd2
      have st2 : (ns.take (i + 1)).foldl (doneN D.su) (D.np, l) = (D.su q).foldl decS (upd D'.np q (-2), ((ns.take i).foldl (doneN D.su) (D.np, l)).2) := by
        rw [hnp']; exact take_fold _ _ _ hq
      walk_at "w"
      refine a_get (by assumption) cls (by assumption) (hx2 ▸ G2.s.hx) G2.s.hd rfl (fun _ h => nomatch h) hdict (no_nfinished _ _) ?_; intro v18 s18 S18 h18
      walk_at "w"
      refine b_iadd (by assumption) h18 (by assumption) ?_; intro v19 s19 S19 h19
      refine a_set S19 cls (by assumption) (hx2 ▸ G2.s.hx) G2.s.hd h19 (by unfold SD.at; simp) hdict (no_nfinished _ _) ?_; intro s20 S20
      have z := G2.s.setAt (D' := { D2 with fi := D2.fi + 1 }) rfl rfl rfl rfl rfl rfl rfl rfl rfl (.inl rfl)
      have G20 : Stp H0 D (H.set T (.tup (iL ns))) _ _ := G2.trans ⟨z.1, z.2.1, fun b hb => .inl (by rcases z.2.2 b hb with y | ⟨_, _, y, y2, _⟩; exact y; exact absurd (y.symm.trans y2) (by simp)), rfl⟩
      walk_at "w"
      refine ⟨_, _, Sf.drop (Sf.drop (Sf.drop S20 rfl) rfl) rfl, rfl, G20.keep (AH.set_self ..) nT, _, G20, hx2, hm2, hks2, ?_, hsu2, ?_, hpo2, ?_⟩
      · rw [st2]; exact hnp2
      · rw [st2]; exact hrd2
      · show D2.fi + 1 = _
        rw [hfi2, List.take_add_one, hq, List.length_append, Int.add_assoc]; rfl
  · rintro F' H' s' ⟨rfl, hT', D', G', hx', hm', hks', hnp', hsu', hrd', hpo', hfi'⟩ S'
    rw [List.length_map, List.take_length] at hnp' hrd' hfi'
    walk_at "w"
    exact ⟨_, _, S', fun S9 => k D' H' _ (G1.trans G') hks' hnp' hsu' hrd' hpo' hfi' S9⟩
theorem sp137 {n : Nat} (S : Sf (CC prog w os ob n0) B W env F H s) (hb : BOk ob) (R : Rm (n + 2) A) {H0 : AH} {D : SD} (G : Srt H0 H D) {x : Addr} (hxx : D.x = x) {r : Addr} {l : List Int} (hrd : D.rd = some (r, l)) {ns : List Int} {vs : List Value} (hvs : A2 V.R (iL ns) vs)
    (hns : ∀ k ∈ ns, k ∈ D.ks) (hsu : ∀ k ∈ ns, ∀ j ∈ D.su k, j ∈ D.ks) (hout : ∀ i k, ns[i]? = some k → ((ns.take i).foldl (doneN D.su) (D.np, l)).1 k = -1) (hz : l.length + (ns.map fun k => (D.su k).length).sum ≤ 800) (hz2 : ns.length ≤ 800) {Q : Value → Shared → Prop}
    (k : ∀ D' H' s', Stp H0 D H D' H' → D'.ks = D.ks → D'.np = (ns.foldl (doneN D.su) (D.np, l)).1 → D'.su = D.su → D'.rd = some (r, (ns.foldl (doneN D.su) (D.np, l)).2) → D'.po = D.po → D'.fi = D.fi + ns.length → Sf (CC prog w os ob n0) B W env F H' s' → Q .none s') :
    wpAny (model prog w) A (call (.ref 137) (.ref x :: vs)) Q E s :=
  wpAny_call (c137 S hb R G hxx hrd hvs hns hsu hout hz hz2 k)
end
section -- X7
variable {prog : Program} {w : World} {os : OsState} {ob : Obj} {n0 : Nat} {B : Heap} {W : Addr → Prop} {env : Env} {F : List (Str × V)} {H : AH} {s : Shared} {A : Around} {E : Value → Shared → Prop} {r1 r2 : Value}
theorem d_new0 {C : Cx} {Q : Value → Shared → Prop} {pos : Pos} (S : Sf C B W env F H s) (k : ∀ ep, GoN C B W env F H (.dict [] ep) Q) : wpAny (model C.prog C.w) A (eval (.Dict [] [] pos) env) Q E s := d_new (kd := 0) S k
theorem aput_le {l : List (Str × V)} {n : Str} {v : V} {k : Nat} (h : l.length ≤ k) : (aput l n v).length ≤ k + 1 := by
  unfold aput
  split
  · rw [List.length_modify]; omega
  · rw [List.length_append]; simp; omega
set_option maxHeartbeats 4000000 in
theorem sp154 {n : Nat} (S : Sf (CC prog w os ob n0) B W env F H s) (R : Rm (n + 3) A) {Q : Value → Shared → Prop}
    (k : ∀ D H' s', Srt H H' D → D.ks = [] → D.np = (fun _ => 0) → D.su = (fun _ => []) → D.rd = none → D.po = 0 → D.fi = 0 → Sf (CC prog w os ob n0) B W env F H' s' → Q (.ref D.x) s') :
    wpAny (model prog w) A (call (.ref 154) []) Q E s := by
  refine r_make S R (fun d => .inst 154 d) (fun d => rfl) (mk154 _ _) (in154 _ _) (ty90 _ _) fun d x s1 hd hx hxd S1 => ?_
  refine r_callB S1 (Rm.ty R _ _) (fn90 w.params ob) (ok90 _) ?_
  refine (Looks.of_peek S1.k (M := model prog w) (r := ([("self", .ref x), ("graph", .none)] : List (Str × Value))) (by kernel_rfl)).here ?_
  refine ⟨[("self", .ref x), ("graph", .none)], _, S1, .two ⟨rfl, rfl⟩ ⟨rfl, rfl⟩, of_decide_eq_true (by kernel_rfl), by kernel_rfl, fun env' s2 Ge S2 => ?_⟩
  refine gq ?_; intro QF hQF
  obtain ⟨cd, cls, hdict⟩ := cls154 w.params ob
  have dx : d ≠ x := Ne.symm hxd
  have hx1 : ((H.set d (.attrs [])).set x (.inst 154 d)) x = some (.inst 154 d) := AH.set_self ..
  have hd1 : ((H.set d (.attrs [])).set x (.inst 154 d)) d = some (.attrs []) := AH.set_at (AH.set_self ..) dx
  refine q_cons ?_
  walk_at "w"
  refine d_new0 S2 ?_; intro ep m s3 hm S3
  have mx : m ≠ x := fun q => by rw [q, hx1] at hm; cases hm
  have md : m ≠ d := fun q => by rw [q, hd1] at hm; cases hm
  have hm0 : H m = none := by rw [AH.set_ne _ _ mx, AH.set_ne _ _ md] at hm; exact hm
  have hx2 := AH.set_at (o' := .dict [] ep) hx1 (Ne.symm mx)
  have hd2 := AH.set_at (o' := .dict [] ep) hd1 (Ne.symm md)
  walk_at "w"
  refine a_set (v := .ref m) S3 cls (by assumption) hx2 hd2 rfl (by simp) hdict (no_node2info _ _) ?_; intro s4 S4
  walk_at "w"
  refine a_set (v := .none) S4 cls (by assumption) (AH.set_at hx2 hxd) (AH.set_self ..) rfl (aput_le (k := 899) (by simp)) hdict (no_ready_nodes _ _) ?_; intro s5 S5
  rw [AH.set_set] at S5
  walk_at "w"
  refine a_set (v := .int 0) (by assumption) cls (by assumption) (AH.set_at hx2 hxd) (AH.set_self ..) (by assumption) (aput_le (k := 899) (aput_le (k := 898) (by simp))) hdict (no_npassedout _ _) ?_; intro s6 S6
  rw [AH.set_set] at S6
  walk_at "w"
  refine a_set (v := .int 0) (by assumption) cls (by assumption) (AH.set_at hx2 hxd) (AH.set_self ..) (by assumption) (aput_le (k := 899) (aput_le (k := 898) (aput_le (k := 897) (by simp)))) hdict (no_nfinished _ _) ?_; intro s7 S7
  rw [AH.set_set] at S7
  walk_at "w"
  refine c_isNotNone (v := .none) (by assumption) (fun _ h => nomatch h) ?_
  walk_at "w"
  refine ifQ_f ?_
  walk_at "w"
  refine ⟨_, _, S7, fun S8 => ⟨rfl, ?_⟩⟩
  refine k ⟨x, d, m, none, 0, 0, [], fun _ => 0, fun _ => 0, fun _ => 0, fun _ => 0, fun _ => []⟩ _ _ ⟨?_, AH.set_at hx2 hxd, AH.set_self .., ⟨ep, AH.set_at (AH.set_self ..) md⟩, List.nodup_nil, (fun _ h => nomatch h), (fun _ h => nomatch h), (fun _ h => nomatch h), (fun _ h => nomatch h), (fun _ _ h => nomatch h), ⟨hx, hd, hm0⟩, (fun _ h => nomatch h), fun _ _ => ⟨rfl, rfl⟩⟩ rfl rfl rfl rfl rfl rfl S8
  exact ((((Ext.refl H).put hd _).put hx _).put hm0 _).put hd _
end
section -- Y8
variable {prog : Program} {w : World} {os : OsState} {ob : Obj} {n0 : Nat} {B : Heap} {W : Addr → Prop} {env : Env} {F : List (Str × V)} {H : AH} {s : Shared} {A : Around} {E : Value → Shared → Prop} {r1 r2 : Value}
structure FCH (Hc H : AH) (D : SD) (sk ik se nd : Addr) (st : List Ent) (seen : Int → Bool) (n : Nat) : Prop where
  ext : Ext Hc H
  n1 : Hc sk = none ∧ Hc ik = none ∧ Hc se = none ∧ Hc nd = none
  ne : sk ≠ ik
  hsk : H sk = some (.list (iL (st.reverse.map Ent.v)))
  hik : H ik = some (.list (st.reverse.map fun e => V.ref e.q))
  hse : H se = some (.set seen n)
  hnd : ∃ dl ep, H nd = some (.dict dl ep) ∧ dl.map (·.1) = st.reverse.map Ent.v ∧ ∀ p ∈ dl, ∃ k : Nat, p.2 = .int k ∧ k ≤ 900
  eq : ∀ e ∈ st, H e.q = some (.raw (mwObj (.builtin "list_iterator.__next__") (.ref e.I)))
  eI : ∀ e ∈ st, H e.I = some (.iter (D.sc e.v) e.i)
  e0 : ∀ e ∈ st, Hc e.q = none ∧ Hc e.I = none
  ndI : (st.map Ent.I).Nodup
  ndv : (st.map Ent.v).Nodup
  keys : ∀ e ∈ st, e.v ∈ D.ks
  nn : n ≤ D.ks.length
  ns : n = (D.ks.filter seen).length
variable {Hc : AH} {D : SD} {sk ik se nd : Addr} {st : List Ent} {seen : Int → Bool} {n : Nat}
theorem rc_map {α β : Type} (f : α → β) (e : α) (l : List α) : (e :: l).reverse.map f = l.reverse.map f ++ [f e] := by rw [List.reverse_cons, List.map_append]; rfl
theorem rc_iL {e : Ent} {l : List Ent} : iL ((e :: l).reverse.map Ent.v) = iL (l.reverse.map Ent.v) ++ [V.int e.v] := by rw [rc_map, iL_snoc]
theorem nodup_len {α : Type} [DecidableEq α] : ∀ {l : List α} {ks : List α}, l.Nodup → (∀ x ∈ l, x ∈ ks) → l.length ≤ ks.length
  | [], ks, _, _ => Nat.zero_le _
  | a :: l, ks, hn, hs => by
    rw [List.nodup_cons] at hn
    have h := nodup_len (l := l) (ks := ks.erase a) hn.2 fun x hx => by
      have : x ≠ a := fun q => hn.1 (q ▸ hx)
      exact (List.mem_erase_of_ne this).mpr (hs x (List.mem_cons_of_mem _ hx))
    rw [List.length_erase_of_mem (hs a List.mem_cons_self)] at h
    exact Nat.le_trans (Nat.succ_le_succ h) (Nat.le_of_eq (Nat.sub_add_cancel (List.length_pos_of_mem (hs a List.mem_cons_self))))
theorem FCH.len (h : FCH Hc H D sk ik se nd st seen n) : st.length ≤ D.ks.length := by
  have := nodup_len h.ndv (ks := D.ks) fun x hx => by
    obtain ⟨e, he, rfl⟩ := List.mem_map.mp hx
    exact h.keys e he
  rwa [List.length_map] at this
theorem filter_add {ks : List Int} {x : Int} (hx : x ∈ ks) (hn : ks.Nodup) (hs : seen x = false) : (ks.filter fun k => seen k || decide (k = x)).length = (ks.filter seen).length + 1 := by
  induction ks with
  | nil => cases hx
  | cons a ks ih =>
    rw [List.nodup_cons] at hn
    rcases List.mem_cons.mp hx with rfl | hx
    · have e : (ks.filter fun k => seen k || decide (k = x)) = ks.filter seen := List.filter_congr fun k hk => by
        have : k ≠ x := fun q => hn.1 (q ▸ hk)
        simp [this]
      rw [List.filter_cons, List.filter_cons, e, hs]; simp
    · have ha : a ≠ x := fun q => hn.1 (q ▸ hx)
      have := ih hx hn.2
      rw [List.filter_cons, List.filter_cons]
      simp only [ha, decide_false, Bool.or_false]
      split
      · rw [List.length_cons, List.length_cons, this]
      · exact this
theorem FCH.push (h : FCH Hc H D sk ik se nd st seen n) (hdn : D.ks.Nodup) {x : Int} (hx : x ∈ D.ks) (hs : seen x = false) (hst : x ∉ st.map Ent.v) {I q : Addr} (hI : (H.set se (.set (fun j => seen j || decide (j = x)) (n + 1))) I = none)
    (hq : ((H.set se (.set (fun j => seen j || decide (j = x)) (n + 1))).set I (.iter (D.sc x) 0)) q = none) {dl : List (Int × V)} {ep0 ep : Nat} (hd : H nd = some (.dict dl ep0)) (hd1 : dl.map (·.1) = st.reverse.map Ent.v) (hd2 : ∀ p ∈ dl, ∃ k : Nat, p.2 = .int k ∧ k ≤ 900) {u : Nat} (hu : u ≤ 900) :
    FCH Hc ((((((H.set se (.set (fun j => seen j || decide (j = x)) (n + 1))).set I (.iter (D.sc x) 0)).set q (.raw (mwObj (.builtin "list_iterator.__next__") (.ref I)))).set ik (.list ((st.reverse.map fun e => V.ref e.q) ++ [.ref q]))).set nd (.dict (dl ++ [(x, .int u)]) ep)).set sk (.list (iL (st.reverse.map Ent.v) ++ [.int x])))
      D sk ik se nd (⟨x, 0, q, I⟩ :: st) (fun j => seen j || decide (j = x)) (n + 1) := by
  obtain ⟨Ise, hI⟩ := fresh_ne hI
  obtain ⟨qI, hq⟩ := fresh_ne hq
  obtain ⟨qse, hq⟩ := fresh_ne hq
  have kse : ik ≠ se := ne_of_at h.hik h.hse rfl
  have sse : sk ≠ se := ne_of_at h.hsk h.hse rfl
  have dse : nd ≠ se := ne_of_at hd h.hse rfl
  have kI : ik ≠ I := Ne.symm (ne_of_new hI h.hik)
  have sI : sk ≠ I := Ne.symm (ne_of_new hI h.hsk)
  have dI : nd ≠ I := Ne.symm (ne_of_new hI hd)
  have kq : ik ≠ q := Ne.symm (ne_of_new hq h.hik)
  have sq : sk ≠ q := Ne.symm (ne_of_new hq h.hsk)
  have dq : nd ≠ q := Ne.symm (ne_of_new hq hd)
  have dk : nd ≠ ik := ne_of_at hd h.hik rfl
  have ds : nd ≠ sk := ne_of_at hd h.hsk rfl
  have old : ∀ {b : Addr} {o : O}, H b = some o → b ≠ se → b ≠ ik → b ≠ nd → b ≠ sk → ((((((H.set se (.set (fun j => seen j || decide (j = x)) (n + 1))).set I (.iter (D.sc x) 0)).set q (.raw (mwObj (.builtin "list_iterator.__next__") (.ref I)))).set ik (.list ((st.reverse.map fun e => V.ref e.q) ++ [.ref q]))).set nd (.dict (dl ++ [(x, .int u)]) ep)).set sk (.list (iL (st.reverse.map Ent.v) ++ [.int x]))) b = some o := fun {b o} e a1 a2 a3 a4 => by
    exact AH.set_at (AH.set_at (AH.set_at (AH.set_at (AH.set_at (AH.set_at (e) a1) (Ne.symm (ne_of_new hI e))) (Ne.symm (ne_of_new hq e))) a2) a3) a4
  refine ⟨?_, h.n1, h.ne, ?_, ?_, ?_, ⟨dl ++ [(x, .int u)], ep, ?_, ?_, ?_⟩, fun e he => ?_, fun e he => ?_, fun e he => ?_, ?_, ?_, fun e he => ?_, ?_, ?_⟩
  · exact ((((((h.ext.put h.n1.2.2.1 _).put (h.ext.none hI) _).put (h.ext.none hq) _).put h.n1.2.1 _).put h.n1.2.2.2 _).put h.n1.1 _)
  · rw [rc_map, ← iL_snoc]; exact AH.set_self ..
  · rw [rc_map]; exact AH.set_at (AH.set_at (AH.set_self ..) (Ne.symm dk)) (Ne.symm h.ne)
  · exact AH.set_at (AH.set_at (AH.set_at (AH.set_at (AH.set_at (AH.set_self ..) (Ne.symm Ise)) (Ne.symm qse)) (Ne.symm kse)) (Ne.symm dse)) (Ne.symm sse)
  · exact AH.set_at (AH.set_self ..) ds
  · rw [List.map_append, hd1, rc_map]; rfl
  · intro p hp
    rcases List.mem_append.mp hp with hp | hp
    · exact hd2 p hp
    · rw [List.mem_singleton] at hp; subst hp; exact ⟨u, rfl, hu⟩
  · rcases List.mem_cons.mp he with rfl | he
    · dsimp only
      exact AH.set_at (AH.set_at (AH.set_at (AH.set_self ..) (Ne.symm kq)) (Ne.symm dq)) (Ne.symm sq)
    · have := h.eq e he
      exact old this (ne_of_at this h.hse rfl) (ne_of_at this h.hik rfl) (ne_of_at this hd rfl) (ne_of_at this h.hsk rfl)
  · rcases List.mem_cons.mp he with rfl | he
    · dsimp only
      exact AH.set_at (AH.set_at (AH.set_at (AH.set_at (AH.set_self ..) (Ne.symm qI)) (Ne.symm kI)) (Ne.symm dI)) (Ne.symm sI)
    · have := h.eI e he
      exact old this (ne_of_at this h.hse rfl) (ne_of_at this h.hik rfl) (ne_of_at this hd rfl) (ne_of_at this h.hsk rfl)
  · rcases List.mem_cons.mp he with rfl | he
    · exact ⟨h.ext.none hq, h.ext.none hI⟩
    · exact h.e0 e he
  · rw [List.map_cons, List.nodup_cons]
    refine ⟨fun hm => ?_, h.ndI⟩
    obtain ⟨e, he, q2⟩ := List.mem_map.mp hm
    have := h.eI e he
    dsimp only at q2
    rw [q2, hI] at this; cases this
  · rw [List.map_cons, List.nodup_cons]; exact ⟨hst, h.ndv⟩
  · rcases List.mem_cons.mp he with rfl | he
    · exact hx
    · exact h.keys e he
  · have := filter_add (seen := seen) hx hdn hs
    rw [h.ns, ← this]; exact List.length_filter_le _ _
  · rw [h.ns, filter_add hx hdn hs]
end
section -- Y9
variable {prog : Program} {w : World} {os : OsState} {ob : Obj} {n0 : Nat} {B : Heap} {W : Addr → Prop} {env : Env} {F : List (Str × V)} {H : AH} {s : Shared} {A : Around} {E : Value → Shared → Prop} {r1 r2 : Value}
variable {Hc : AH} {D : SD} {sk ik se nd : Addr} {st : List Ent} {seen : Int → Bool} {n : Nat}
theorem FCH.draw {e : Ent} (h : FCH Hc H D sk ik se nd (e :: st) seen n) : FCH Hc (H.set e.I (.iter (D.sc e.v) (e.i + 1))) D sk ik se nd ({ e with i := e.i + 1 } :: st) seen n := by
  have hI := h.eI e List.mem_cons_self
  have e0 := h.e0 e List.mem_cons_self
  obtain ⟨dl, ep, d1, d2, d3⟩ := h.hnd
  have nI := h.ndI
  rw [List.map_cons, List.nodup_cons] at nI
  refine ⟨h.ext.put e0.2 _, h.n1, h.ne, ?_, ?_, AH.set_at h.hse (ne_of_at h.hse hI rfl), ⟨dl, ep, AH.set_at d1 (ne_of_at d1 hI rfl), ?_, d3⟩, fun f hf => ?_, fun f hf => ?_, fun f hf => ?_, ?_, ?_, fun f hf => ?_, h.nn, h.ns⟩
  · have := h.hsk; rw [AH.set_ne _ _ (ne_of_at this hI rfl), this]; simp
  · have := h.hik; rw [AH.set_ne _ _ (ne_of_at this hI rfl), this]; simp
  · rw [d2]; simp
  · rcases List.mem_cons.mp hf with rfl | hf
    · have := h.eq e List.mem_cons_self; exact AH.set_at this (ne_of_at this hI rfl)
    · have := h.eq f (List.mem_cons_of_mem _ hf); exact AH.set_at this (ne_of_at this hI rfl)
  · rcases List.mem_cons.mp hf with rfl | hf
    · exact AH.set_self ..
    · have := h.eI f (List.mem_cons_of_mem _ hf)
      exact AH.set_at this fun q => nI.1 (List.mem_map.mpr ⟨f, hf, q⟩)
  · rcases List.mem_cons.mp hf with rfl | hf
    · exact e0
    · exact h.e0 f (List.mem_cons_of_mem _ hf)
  · simpa using h.ndI
  · simpa using h.ndv
  · rcases List.mem_cons.mp hf with rfl | hf
    · exact h.keys e List.mem_cons_self
    · exact h.keys f (List.mem_cons_of_mem _ hf)
theorem ddel_last {l : List (Int × V)} {x : Int} {u : V} (h : x ∉ l.map (·.1)) : ddel (l ++ [(x, u)]) x = l := by
  unfold ddel
  rw [List.filter_append]
  have e : l.filter (fun p => decide (p.1 ≠ x)) = l := List.filter_eq_self.mpr fun p hp => by
    have : p.1 ≠ x := fun q => h (q ▸ List.mem_map_of_mem hp)
    simpa using this
  rw [e]; simp
theorem FCH.popDict {e : Ent} (h : FCH Hc H D sk ik se nd (e :: st) seen n) : ∃ dl u ep, H nd = some (.dict (dl ++ [(e.v, u)]) ep) ∧ dl.map (·.1) = st.reverse.map Ent.v ∧ (∀ p ∈ dl, ∃ k : Nat, p.2 = .int k ∧ k ≤ 900) ∧ e.v ∉ dl.map (·.1) := by
  obtain ⟨dl, ep, d1, d2, d3⟩ := h.hnd
  have hn := h.ndv
  rw [List.map_cons, List.nodup_cons] at hn
  have hne : dl ≠ [] := fun q => by subst q; simp at d2
  obtain ⟨dl', p, rfl⟩ : ∃ dl' p, dl = dl' ++ [p] := ⟨dl.dropLast, dl.getLast hne, (List.dropLast_concat_getLast hne).symm⟩
  have hp : dl'.map (·.1) = st.reverse.map Ent.v ∧ p.1 = e.v := by
    rw [List.map_append, List.reverse_cons, List.map_append] at d2
    have := List.append_inj' d2 rfl
    exact ⟨this.1, by simpa using this.2⟩
  refine ⟨dl', p.2, ep, by rw [d1, ← hp.2], hp.1, fun q hq => d3 q (List.mem_append_left _ hq), ?_⟩
  rw [hp.1]
  intro q
  rw [List.map_reverse, List.mem_reverse] at q
  exact hn.1 q
theorem FCH.pop {e : Ent} (h : FCH Hc H D sk ik se nd (e :: st) seen n) {dl : List (Int × V)} {ep : Nat} (d2 : dl.map (·.1) = st.reverse.map Ent.v) (d3 : ∀ p ∈ dl, ∃ k : Nat, p.2 = .int k ∧ k ≤ 900) :
    FCH Hc ((((H.del e.I).set sk (.list (iL (st.reverse.map Ent.v)))).set nd (.dict dl ep)).set ik (.list (st.reverse.map fun e => V.ref e.q))) D sk ik se nd st seen n := by
  have hI := h.eI e List.mem_cons_self
  have e0 := h.e0 e List.mem_cons_self
  obtain ⟨dl0, ep0, d1, _, _⟩ := h.hnd
  have nI := h.ndI
  have nv := h.ndv
  rw [List.map_cons, List.nodup_cons] at nI nv
  have dk : nd ≠ ik := ne_of_at d1 h.hik rfl
  have ds : nd ≠ sk := ne_of_at d1 h.hsk rfl
  have old : ∀ {b : Addr} {o : O}, H b = some o → b ≠ e.I → b ≠ ik → b ≠ nd → b ≠ sk → ((((H.del e.I).set sk (.list (iL (st.reverse.map Ent.v)))).set nd (.dict dl ep)).set ik (.list (st.reverse.map fun e => V.ref e.q))) b = some o := fun {b o} e1 a1 a2 a3 a4 => by
    rw [AH.set_ne _ _ a2, AH.set_ne _ _ a3, AH.set_ne _ _ a4, AH.del_ne _ a1]; exact e1
  refine ⟨?_, h.n1, h.ne, ?_, ?_, ?_, ⟨dl, ep, ?_, d2, d3⟩, fun f hf => ?_, fun f hf => ?_, fun f hf => h.e0 f (List.mem_cons_of_mem _ hf), nI.2, nv.2, fun f hf => h.keys f (List.mem_cons_of_mem _ hf), h.nn, h.ns⟩
  · refine Ext.put (Ext.put (Ext.put (fun a o x => ?_) h.n1.1 _) h.n1.2.2.2 _) h.n1.2.1 _
    have : a ≠ e.I := fun q => by rw [q, e0.2] at x; cases x
    rw [AH.del_ne _ this]; exact h.ext a o x
  · exact AH.set_at (AH.set_at (AH.set_self ..) (Ne.symm ds)) h.ne
  · rw [AH.set_self]
  · exact old h.hse (ne_of_at h.hse hI rfl) (ne_of_at h.hse h.hik rfl) (ne_of_at h.hse d1 rfl) (ne_of_at h.hse h.hsk rfl)
  · exact AH.set_at (AH.set_self ..) dk
  · have := h.eq f (List.mem_cons_of_mem _ hf)
    exact old this (ne_of_at this hI rfl) (ne_of_at this h.hik rfl) (ne_of_at this d1 rfl) (ne_of_at this h.hsk rfl)
  · have := h.eI f (List.mem_cons_of_mem _ hf)
    exact old this (fun q => nI.1 (List.mem_map.mpr ⟨f, hf, q⟩)) (ne_of_at this h.hik rfl) (ne_of_at this d1 rfl) (ne_of_at this h.hsk rfl)
theorem Sf.again {C : Cx} {x : Str} {v u : V} (S : Sf C B W env ((x, v) :: (x, u) :: F) H s) : Sf C B W env ((x, v) :: F) H s := S.less fun y z e => by
  rw [lookup_cons_eq] at e ⊢
  by_cases q : y = x
  · rw [if_pos q] at e ⊢; exact e
  · rw [if_neg q] at e ⊢
    rw [lookup_cons_eq, if_neg q]; exact e
end
section -- Y10
variable {prog : Program} {w : World} {os : OsState} {ob : Obj} {n0 : Nat} {B : Heap} {W : Addr → Prop} {env : Env} {F : List (Str × V)} {H : AH} {s : Shared} {A : Around} {E : Value → Shared → Prop} {r1 r2 : Value}
theorem r_callF {C : Cx} (S : Sf C B W env F H s) {n : Nat} (R : Rm n A) {fa : Addr} {p : Arguments} {b : List Stmt} {sc : Scope} {dv : Value} {fd : FuncData} (Fn : FnAt C.K fa p b sc dv fd) {vals : List Value} {binds : List (Str × Value)} {F' : List (Str × V)} {RR : Result → Shared → Prop}
    (hbind : bindArgs fd ⟨vals, []⟩ = pure binds) (hb : A2 BR F' binds) (hn : (F'.map (·.1)).Nodup) (hp : parOk sc F' = true) (ho : fnOk sc = true)
    (h : ∀ env' s₁, Ev sc env' → env'.frame = some env'.locals → Sf C s.heap (dom H) env' F' H s₁ →
      wpAny (model C.prog C.w) (A.deeper env') (execs b env') (fun f s' => CallN C B W env F s.heap (dom H) env' s' (RR (.ok (.ret (retOf f))) s'))
        (fun e s' => wpAny (model C.prog C.w) (A.deeper env') (leaving env' e) (fun _ s'' => RR (.error e) s'') (fun e' s'' => RR (.error e') s'') s') s₁) :
    codeAny (model C.prog C.w) A (.call (.ref fa) ⟨vals, []⟩) RR s := by
  obtain ⟨hk, hco, hgen, hf⟩ := fnOk.all ho
  refine codeAny_call_cells R.room (S.k _ _ Fn.at_) rfl S.lim (Fn.codeRec S.k) Fn.body hbind Fn.closure ?_ (fun s₁ x => ?_) (by rw [Fn.scope]; exact hco) (by rw [Fn.scope]; exact hgen) (by rw [Fn.scope]; exact hk)
  · intro x hx
    rw [Fn.scope]
    obtain ⟨i, hi⟩ := List.getElem?_of_mem hx
    obtain ⟨q, h1, h2⟩ := hb.get' hi
    have hm := List.all_eq_true.mp hp q (List.mem_of_getElem? h1)
    rw [h2.1] at hm
    split at hm
    · exact .inl (by assumption)
    · rename_i e; exact .inr ⟨e, cellsFrom_has _ _ _ _ (.inr e)⟩
    · cases hm
  · refine wpAny_mono (h _ s₁ (Fn.ev hf _) rfl (S.enter Fn hb hn hp hk x)) (fun f s' h' => ?_) fun _ _ e => e
    obtain ⟨F'', H', S', q⟩ := h'
    have := q (S.back S')
    cases f <;> exact this
theorem t_true {C : Cx} {Q : Bool → Shared → Prop} {pos : Pos} {kd : Nat} (k : Q true s) : wpAny (model C.prog C.w) A (isTrue (.Constant (.bool true) kd pos) env (eval (.Constant (.bool true) kd pos) env)) Q E s := by
  refine isTrue_plain ?_ rfl
  exact r_bool (t_bool (b := true) rfl k)
theorem q_mid {M : Model} {P : Shared → Prop} {stm : Stmt} {rest : List Stmt} {Q : Flow → Shared → Prop} (h1 : ∀ s', P s' → wpAny M A (execs rest env) Q E s') (h : wpAny M A (exec stm env) (fun f s' => match f with | .next => P s' | f => Q f s') E s) : wpAny M A (execs (stm :: rest) env) Q E s :=
  wpAny_execs_cons (wpAny_mono h (fun f s' h' => by
    cases f with
    | next => exact h1 s' h'
    | brk => exact h'
    | cont => exact h'
    | ret v => exact h') fun _ _ e => e)
theorem dget_some {l : List (Int × V)} {k : Int} : (dget l k).isSome = decide (k ∈ l.map (·.1)) := by
  unfold dget
  induction l with
  | nil => rfl
  | cons p l ih =>
    rw [List.find?_cons, List.map_cons]
    by_cases q : p.1 = k
    · simp [q]
    · have : (decide (p.1 = k)) = false := by simpa using q
      rw [this]
      dsimp only
      rw [ih]
      have q' : ¬ k = p.1 := fun z => q z.symm
      simp [q']
theorem dget_in {l : List (Int × V)} {k : Int} (h : k ∈ l.map (·.1)) : ∃ v, dget l k = some v ∧ ∃ p ∈ l, p.2 = v := by
  have := dget_some (l := l) (k := k)
  rw [decide_eq_true h] at this
  obtain ⟨v, hv⟩ := Option.isSome_iff_exists.mp this
  refine ⟨v, hv, ?_⟩
  unfold dget at hv
  obtain ⟨p, hp, rfl⟩ := Option.map_eq_some_iff.mp hv
  exact ⟨p, List.mem_of_find?_eq_some hp, rfl⟩
theorem r_delSub {M : Model} {o i : Expr} {pos : Pos} {Q : Unit → Shared → Prop} (h : wpAny M A (eval o env) (fun ov s₁ => wpAny M A (eval i env) (fun iv s₂ => wpAny M A (delItem ov iv) Q E s₂) E s₁) E s) :
    wpAny M A (delete (.Subscript o i pos) env) Q E s := by
  rw [arm_delete_Subscript]
  exact wpAny_bind (wpAny_mono h (fun ov s₁ h₁ => wpAny_bind (wpAny_holding (wpAny_mono h₁ (fun iv s₂ h₂ => wpAny_bind (wpAny_standAt (wpAny_bind (wpAny_holding (wpAny_mono h₂ (fun _ s₃ h₃ => fun _ _ _ => by rw [Sem.wp_release]; exact h₃) fun _ _ e => e))))) fun _ _ e => e))) fun _ _ e => e)
theorem ext_fresh {H0 H : AH} {a : Addr} (e : Ext H0 H) (h : H a = none) (o : O) : Ext H0 (H.set a o) := e.put (Ext.none e h) o
variable {Hc : AH} {D : SD} {sk ik se nd : Addr} {st : List Ent} {seen : Int → Bool} {n : Nat}
noncomputable abbrev fcF (D : SD) (sk ik se nd : Addr) : List (Str × V) := [("node2stacki", .ref nd), ("seen", .ref se), ("itstack", .ref ik), ("stack", .ref sk), ("n2i", .ref D.m), ("self", .ref D.x)]
inductive J144 (Hc : AH) (D : SD) (sk ik se nd : Addr) (i : Nat) (F' : List (Str × V)) (H' : AH) : Prop
  | mk (h1 : F' = fcF D sk ik se nd) (seen : Int → Bool) (n : Nat) (fin : List Int) (h2 : FCH Hc H' D sk ik se nd [] seen n) (h3 : Cl D.su fin) (h4 : ∀ j, seen j = true ↔ j ∈ fin) (h5 : ∀ j ∈ fin, j ∈ D.ks) (h6 : ∀ k ∈ D.ks.take i, seen k = true)
inductive J144w (Hc : AH) (D : SD) (sk ik se nd : Addr) (i : Nat) (x : Int) (mm : Nat) (F' : List (Str × V)) (H' : AH) : Prop
  | mk (y : Int) (st : List Ent) (seen : Int → Bool) (n : Nat) (fin : List Int) (h1 : F' = (("node" : Str), V.int y) :: fcF D sk ik se nd) (h2 : FCH Hc H' D sk ik se nd st seen n) (h3 : Cl D.su fin) (h4 : StkOk D.su fin (some y) st) (h5 : y ∈ D.ks) (h6 : ∀ j, seen j = true ↔ j ∈ fin ∨ j ∈ st.map Ent.v) (h7 : ∀ j ∈ fin, j ∈ D.ks)
    (h8 : mm = mu D.su D.ks seen st) (h9 : ∀ k ∈ D.ks.take i, seen k = true) (h10 : seen x = true ∨ (y = x ∧ st = []))
inductive J144m (C : Cx) (B' : Heap) (W' : Addr → Prop) (env' : Env) (Hc : AH) (D : SD) (sk ik se nd : Addr) (i : Nat) (x y : Int) (m0 : Nat) (s' : Shared) : Prop
  | mk (st' : List Ent) (seen' : Int → Bool) (n' : Nat) (fin' : List Int) (H' : AH) (S : Sf C B' W' env' ((("node" : Str), V.int y) :: fcF D sk ik se nd) H' s') (h2 : FCH Hc H' D sk ik se nd st' seen' n') (h3 : Cl D.su fin') (h4 : StkOk D.su fin' none st') (h6 : ∀ j, seen' j = true ↔ j ∈ fin' ∨ j ∈ st'.map Ent.v) (h7 : ∀ j ∈ fin', j ∈ D.ks)
    (h8 : mu D.su D.ks seen' st' ≤ m0) (h9 : ∀ k ∈ D.ks.take i, seen' k = true) (h10 : seen' x = true)
inductive J144i (Hc : AH) (D : SD) (sk ik se nd : Addr) (y : Int) (seen' : Int → Bool) (n' m0 : Nat) (mm : Nat) (F' : List (Str × V)) (H' : AH) : Prop
  | mk (st4 : List Ent) (fin4 : List Int) (h1 : F' = (("node" : Str), V.int y) :: fcF D sk ik se nd) (h2 : FCH Hc H' D sk ik se nd st4 seen' n') (h3 : Cl D.su fin4) (h4 : StkOk D.su fin4 none st4) (h6 : ∀ j, seen' j = true ↔ j ∈ fin4 ∨ j ∈ st4.map Ent.v) (h7 : ∀ j ∈ fin4, j ∈ D.ks)
    (h8 : mm = st4.length) (h9 : mu D.su D.ks seen' st4 ≤ m0)
theorem rl1 {α β : Type} {f : α → β} {l : List α} {n : Nat} (h : l.length ≤ n) : (l.reverse.map f).length ≤ n := by rw [List.length_map, List.length_reverse]; exact h
theorem rl2 {α : Type} {f : α → Int} {l : List α} {n : Nat} (h : l.length ≤ n) : (iL (l.reverse.map f)).length ≤ n := by rw [List.length_map]; exact rl1 h
theorem rl_drop {α : Type} {f : α → Int} {l : List α} {k : Nat} (h : l.length ≤ 999) : ((iL (l.reverse.map f)).drop k).length + 1 ≤ 1000 := by
  rw [List.length_drop]; exact Nat.succ_le_succ (Nat.le_trans (Nat.sub_le _ _) (rl2 h))
theorem sn_ge {α : Type} (l : List α) (a : α) : 0 ≤ (-1 : Int) + ((l ++ [a]).length : Nat) := by rw [List.length_append]; show 0 ≤ (-1 : Int) + ((l.length + 1 : Nat) : Int); omega
theorem sn_at {α : Type} (l : List α) (a : α) : (l ++ [a])[((-1 : Int) + ((l ++ [a]).length : Nat)).toNat]? = some a := by
  have z : ((-1 : Int) + ((l ++ [a]).length : Nat)).toNat = l.length := by rw [List.length_append]; show ((-1 : Int) + ((l.length + 1 : Nat) : Int)).toNat = _; omega
  rw [z]; simp
theorem dl_len {dl : List (Int × V)} {l : List Ent} (h : dl.map (·.1) = l.reverse.map Ent.v) : dl.length = l.length := by
  have := congrArg List.length h
  simpa using this
set_option maxHeartbeats 4000000 in
theorem sp144 {m : Nat} (S : Sf (CC prog w os ob n0) B W env F Hc s) (hb : BOk ob) (R : Rm (m + 2) A) {H0 : AH} (G : Srt H0 Hc D) {x : Addr} (hxx : D.x = x) {outer : List Env} (hA : A.frames = some outer) (of : OutF (CC prog w os ob n0) s.heap (dom Hc) outer)
    (hsu : ∀ k ∈ D.ks, ∀ j ∈ D.su k, j ∈ D.ks) (hz : D.ks.length ≤ 800) {Q : Value → Shared → Prop}
    (k1 : ∀ fin H' s', Ext Hc H' → Cl D.su fin → (∀ k ∈ D.ks, k ∈ fin) → Sf (CC prog w os ob n0) B W env F H' s' → Q .none s')
    (k2 : ∀ a l v H' s', Ext Hc H' → H' a = some (.list l) → l ≠ [] → l.length ≤ 1000 → v ∈ D.ks → Rc D.su v v → Sf (CC prog w os ob n0) B W env F H' s' → Q (.ref a) s') :
    wpAny (model prog w) A (call (.ref 144) [.ref x]) Q E s := by
  subst hxx
  refine wpAny_call (r_callF S R (fn144 w.params ob) (vals := [.ref D.x]) (binds := [("self", .ref D.x)]) (F' := [("self", .ref D.x)]) (by kernel_rfl) (.one ⟨rfl, rfl⟩) (of_decide_eq_true (by kernel_rfl)) (by kernel_rfl) (ok144 _) fun env' s1 Ge hf S1 => ?_)
  have hA' := Around.frames_deeper (env := env') hA
  obtain ⟨cd, cls, hdict⟩ := cls154 w.params ob
  obtain ⟨cd57, cls57, _⟩ := cls57 w.params ob
  refine gE ?_; intro EF hEF; refine gq ?_; intro QF hQF
  refine q_cons ?_
  walk_at "w"
  refine a_get (by assumption) cls (by assumption) G.hx G.hd rfl (fun _ h => nomatch h) hdict (no_node2info _ _) ?_; intro v2 s2 S2 h2
  walk_at "w"
  refine q_list (q_sp0 ⟨_, _, [], by assumption, .nil, by decide, fun sk s3 hsk S3 => ?_⟩)
  refine r_store (v := .ref sk) Ge S3 rfl rfl ?_; intro s4 S4
  walk_at "w"
  refine q_list (q_sp0 ⟨_, _, [], by assumption, .nil, by decide, fun ik s5 hik S5 => ?_⟩)
  refine r_store (v := .ref ik) Ge S5 rfl rfl ?_; intro s6 S6
  walk_at "w"
  refine callWith_type0 ?_
  refine m_set (by assumption) ?_; intro se s7 hse S7
  refine r_store (v := .ref se) Ge S7 rfl rfl ?_; intro s8 S8
  walk_at "w"
  refine d_new0 (by assumption) ?_; intro ep nd s9 hnd S9
  refine r_store (v := .ref nd) Ge S9 rfl rfl ?_; intro s10 S10
  obtain ⟨ks_, hik⟩ := fresh_ne hik
  obtain ⟨se1, hse⟩ := fresh_ne hse
  obtain ⟨se2, hse⟩ := fresh_ne hse
  obtain ⟨nd1, hnd⟩ := fresh_ne hnd
  obtain ⟨nd2, hnd⟩ := fresh_ne hnd
  obtain ⟨nd3, hnd⟩ := fresh_ne hnd
  have I0 : FCH Hc ((((Hc.set sk (.list [])).set ik (.list [])).set se (.set (fun _ => false) 0)).set nd (.dict [] ep)) D sk ik se nd [] (fun _ => false) 0 := by
    refine ⟨((((Ext.refl Hc).put hsk _).put hik _).put hse _).put hnd _, ⟨hsk, hik, hse, hnd⟩, Ne.symm ks_, ?_, ?_, ?_, ⟨[], ep, AH.set_self .., rfl, (fun _ h => nomatch h)⟩, (fun _ h => nomatch h), (fun _ h => nomatch h), (fun _ h => nomatch h), List.nodup_nil, List.nodup_nil, (fun _ h => nomatch h), Nat.zero_le _, ?_⟩
    · exact AH.set_at (AH.set_at (AH.set_at (AH.set_self ..) (Ne.symm ks_)) (Ne.symm se2)) (Ne.symm nd3)
    · exact AH.set_at (AH.set_at (AH.set_self ..) (Ne.symm se1)) (Ne.symm nd2)
    · exact AH.set_at (AH.set_self ..) (Ne.symm nd1)
    · have z : D.ks.filter (fun _ => false) = [] := List.filter_eq_nil_iff.mpr (fun _ _ h => nomatch h)
      rw [z]; rfl
  obtain ⟨epm, hm⟩ := G.hm
  walk_at "w"
  refine r_forI Ge (by assumption) rfl ?_
  walk_at "w"
  refine ⟨_, _, _, _, by assumption, its_dict (by assumption) (R.deeper env').handled (by assumption) (I0.ext _ _ hm), J144 Hc D sk ik se nd, ?_, ?_, ?_, ?_⟩
  · exact ⟨rfl, _, _, [], I0, trivial, by simp, by simp, by simp⟩
  · rintro i F' H' ⟨_, seen, n, fin, h, _⟩
    exact h.ext _ _ hm
  · rintro i v F' H' B' W' s' E' hv ⟨rfl, seen, n, fin, fh, fcl, fseen, fks, fdone⟩ inh S'
    rw [List.map_map, List.getElem?_map] at hv
    obtain ⟨x, hx, rfl⟩ := Option.map_eq_some_iff.mp hv
    have hxk := List.mem_of_getElem? hx
    have of' := (of.inh inh)
    dsimp only [Function.comp] at S'
    have take1 : ∀ (sn : Int → Bool), (∀ k ∈ D.ks.take i, sn k = true) → sn x = true → ∀ k ∈ D.ks.take (i + 1), sn k = true := fun sn h1 h2 k hk => by
      rw [List.take_add_one, hx, List.mem_append] at hk
      rcases hk with hk | hk
      · exact h1 k hk
      · rw [List.mem_singleton.mp hk]; exact h2
    refine gq ?_; intro Q1 hQ1
    refine q_cons ?_
    walk_at "w"
    refine c_inS (by assumption) (by assumption) (by assumption) fh.hse (Nat.lt_of_le_of_lt (le_tt fh.nn hz (Nat.le_refl _)) (by decide)) ?_; intro s11 S11
    walk_at "w"
    by_cases hsx : seen x = true
    · refine ifQ_tt hsx ?_
      walk_at "w"
      exact ⟨_, _, Sf.drop S11 rfl, rfl, seen, n, fin, fh, fcl, fseen, fks, take1 seen fdone hsx⟩
    · refine ifQ_ff (by simpa using hsx) ?_
      walk_at "w"
      refine r_while (J144w Hc D sk ik se nd i x) S11
        ⟨x, [], seen, n, fin, rfl, fh, fcl, trivial, hxk, fun j => by simpa using fseen j, fks, rfl, fdone, .inr ⟨rfl, rfl⟩⟩ ?_
      rintro mm F2 H2 s12 E12 ⟨y, st, seen, n, fin, rfl, fh, fcl, fstk, hyk, fseen, fks, rfl, fdone, fx⟩ S12
      refine t_true (ifQ_t ?_)
      refine gq ?_; intro Q2 hQ2
      refine q_mid (P := J144m (CC prog w os ob n0) B' W' env' Hc D sk ik se nd i x y (mu D.su D.ks seen st)) ?_ ?_
      · rintro s13 ⟨st', seen', n', fin', H3, S13, fh3, fcl3, fstk3, fseen3, fks3, fmu3, fdone3, fx3⟩
        refine q_cons ?_
        refine r_while (J144i Hc D sk ik se nd y seen' n' (mu D.su D.ks seen st)) S13
          ⟨st', fin', rfl, fh3, fcl3, fstk3, fseen3, fks3, rfl, fmu3⟩ ?_
        rintro mm F4 H4 s14 E14 ⟨st4, fin4, rfl, fh4, fcl4, fstk4, fseen4, fks4, rfl, fmu4⟩ S14
        walk_at "w"
        refine t_list (by assumption) (by assumption) fh4.hsk (rl2 (le_tt fh4.len hz (by decide))) ?_; intro s15 S15
        cases st4 with
        | nil =>
          refine ifQ_ff rfl ?_
          walk_at "w"
          exact ⟨_, _, Sf.drop S15 rfl, rfl, seen', n', fin4, fh4, fcl4, fun j => by simpa using fseen4 j, fks4, take1 seen' fdone3 fx3⟩
        | cons e st4 =>
          refine ifQ_tt (by simp) ?_
          refine gq ?_; intro Q4 hQ4
          have hR := R.deeper env'
          have fl4 := fh4.len
          rw [List.length_cons] at fl4
          have hsc := G.hs e.v
          have hqe := fh4.eq e List.mem_cons_self
          have hIe := fh4.eI e List.mem_cons_self
          have hek : e.v ∈ D.ks := fh4.keys e List.mem_cons_self
          refine q_cons ?_
          refine wpAny_Try_except ?_
          refine q_cons ?_
          refine wpAny_Assign_Name ?_ rfl
          refine Call_ ?_ rfl
          walk_at "w"
          refine u_neg (by assumption) (by assumption) ?_; intro v16 s16 S16 h16
          have hik4 := fh4.hik
          rw [rc_map] at hik4
          refine sub_listNeg S16 (by assumption) h16 hik4 (v := .ref e.q) (by decide) (sn_ge _ _) (sn_at _ _) (by decide) ?_
          intro rv hrv
          have hrv' := hrv
          obtain rfl := hrv'
          refine mw_callWith (S16.rawAt hqe) ?_
          have hLs := fh4.ext _ _ (G.hs e.v hek)
          by_cases hlt : e.i < (D.su e.v).length
          · have hw : (D.su e.v)[e.i]? = some (D.su e.v)[e.i] := List.getElem?_eq_getElem hlt
            refine mw_item S16 hqe hIe hLs (v := .int (D.su e.v)[e.i]) (by rw [List.getElem?_map, hw]; rfl) ?_; intro rv s17 hrv S17
            walk_at "w"
            refine ⟨_, _, _, Nat.lt_of_lt_of_le (mu_draw hlt) fmu4, Sf.again (by assumption), _, _, seen', n', fin4, rfl, fh4.draw, fcl4, stk_draw fstk4 hw, hsu _ hek _ (List.getElem_mem hlt), fun j => by simpa using fseen4 j, fks4, rfl, fdone3, .inl fx3⟩
          · refine mw_stop hR.handled S16 hqe hIe hLs (by rw [List.length_map]; exact Nat.le_of_not_lt hlt) ?_
            intro ea vs s17 S17 ae he hv1
            refine catch_stop S17 hA' hf of' ae he hv1 (fun A' s' Q' E' S' q => r_glob S' (Ev.kin (by assumption) _ _ (by rfl) (by decide)) (gl_bi hb rfl) q rfl) (fun A' s18 E18 S18 => ?_)
            obtain ⟨dl, u, ep, p1, p2, p3, p4⟩ := fh4.popDict
            refine q_cons ?_
            refine wpAny_Delete (wpAny_deleteEach_cons (r_delSub ?_))
            walk_at "w"
            have dsk := ne_of_at fh4.hsk hIe rfl
            have dik := ne_of_at fh4.hik hIe rfl
            have dnd := ne_of_at p1 hIe rfl
            have ndsk := ne_of_at p1 fh4.hsk rfl
            have ndik := ne_of_at p1 fh4.hik rfl
            have q1 : (H4.del e.I) sk = some (.list (iL (st4.reverse.map Ent.v) ++ [.int e.v])) := by
              rw [AH.del_ne _ dsk, fh4.hsk, rc_iL]
            refine gm_list (by assumption) (by assumption) q1 PySem.F.slot_list_pop PySem.F.type_list_pop ?_
            refine callWith_method0 ?_
            refine m_pop (by assumption) q1 (rl2 (le_a2 fl4 hz (by decide))) ?_; intro rv19 s19 S19 h19
            have q2 : ((H4.del e.I).set sk (.list (iL (st4.reverse.map Ent.v)))) nd = some (.dict (dl ++ [(e.v, u)]) ep) := AH.set_at ((AH.del_ne _ dnd).trans p1) ndsk
            have hdl : dl.length = st4.length := by
              exact dl_len p2
            refine d_del S19 (by assumption) h19 q2 (by rw [List.length_append, hdl]; exact le_tt fl4 hz (by decide)) ?_ ?_
            · rw [dget_some, decide_eq_true]; simp
            intro ep20 s20 S20
            rw [ddel_last p4] at S20
            refine wpAny_deleteEach_nil ?_
            walk_at "w"
            have q3 : (((H4.del e.I).set sk (.list (iL (st4.reverse.map Ent.v)))).set nd (.dict dl ep20)) ik = some (.list ((st4.reverse.map fun e => V.ref e.q) ++ [.ref e.q])) :=
              AH.set_at (AH.set_at ((AH.del_ne _ dik).trans hik4) (Ne.symm fh4.ne)) (Ne.symm ndik)
            refine gm_list (by assumption) (by assumption) q3 PySem.F.slot_list_pop PySem.F.type_list_pop ?_
            refine callWith_method0 ?_
            refine m_pop (by assumption) q3 (rl1 (le_a2 fl4 hz (by decide))) ?_; intro rv21 s21 S21 h21
            walk_at "w"
            obtain ⟨pf, ps⟩ := stk_pop fstk4 (Nat.le_of_not_lt hlt)
            refine ⟨_, _, _, ?_, S21, st4, e.v :: fin4, rfl, fh4.pop p2 p3, ⟨pf, fcl4⟩, ps, fun j => ?_, fun j hj => ?_, rfl, Nat.le_of_lt (Nat.lt_of_lt_of_le mu_pop fmu4)⟩
            · simp
            · rw [fseen4 j, List.map_cons, List.mem_cons, List.mem_cons]
              constructor
              · rintro (h | h | h)
                · exact .inl (.inr h)
                · exact .inl (.inl h)
                · exact .inr h
              · rintro ((h | h) | h)
                · exact .inr (.inl h)
                · exact .inl h
                · exact .inr (.inr h)
            · rcases List.mem_cons.mp hj with rfl | hj
              · exact hek
              · exact fks4 j hj
      · refine gq ?_; intro Q3 hQ3
        walk_at "w"
        refine c_inS S12 (by assumption) (by assumption) fh.hse (Nat.lt_of_le_of_lt (le_tt fh.nn hz (Nat.le_refl _)) (by decide)) ?_; intro s13 S13
        walk_at "w"
        obtain ⟨dl, epd, hd1, hd2, hd3⟩ := fh.hnd
        by_cases hsy : seen y = true
        · refine ifQ_tt hsy ?_
          refine q_cons ?_
          walk_at "w"
          refine d_in (by assumption) (by assumption) (by assumption) hd1 ?_; intro s14 S14
          walk_at "w"
          by_cases hin : y ∈ st.map Ent.v
          · have hdm : y ∈ dl.map (·.1) := by rw [hd2, List.map_reverse, List.mem_reverse]; exact hin
            obtain ⟨u, hu1, p, hp1, hp2⟩ := dget_in hdm
            obtain ⟨kk, hk1, hk2⟩ := hd3 p hp1
            have hu : u = .int kk := hp2.symm.trans hk1
            subst hu
            refine ifQ_tt (by rw [hu1]; rfl) ?_
            walk_at "w"
            refine sub_dict (by assumption) (by assumption) (by assumption) hd1 hu1 ?_; intro v15 s15 S15 h15
            refine ⟨_, _, _, _, _, _, _, S15, by assumption, fh.hsk, rl2 (le_tt fh.len hz (by decide)), h15, by omega, ?_⟩
            intro a1 s16 ha1 S16
            walk_at "w"
            refine q_list (B := B') (W := W') ?_
            walk_at "w"
            refine ⟨_, _, [.int y], by assumption, .one (by assumption), by simp, ?_⟩
            intro a2 s17 ha2 S17
            have a12 : a1 ≠ a2 := (fresh_ne ha2).1.symm
            refine b_addL S17 rfl rfl (by exact AH.set_at (AH.set_self ..) a12) (AH.set_self ..) (rl_drop (le_tt fh.len hz (by decide))) ?_
            intro a3 s18 ha3 S18
            walk_at "w"
            refine ⟨_, _, S18, fun s8 S8 => hQF _ _ ⟨_, _, S8, fun S9 => ?_⟩⟩
            obtain ⟨e, he1, he2⟩ := List.mem_map.mp hin
            have hr := stk_reach fstk e he1
            rw [he2] at hr
            refine k2 a3 _ y _ _ (ext_fresh (ext_fresh (ext_fresh fh.ext ha1 _) ha2 _) ha3 _) (AH.set_self ..) ?_ ?_ hyk hr S9
            · exact List.append_ne_nil_of_right_ne_nil _ (by simp)
            · rw [List.length_append]; exact rl_drop (le_tt fh.len hz (by decide))
          · have hdy : (dget dl y).isSome = false := by
              rw [dget_some, decide_eq_false]
              rw [hd2, List.map_reverse, List.mem_reverse]; exact hin
            refine ifQ_ff hdy ?_
            walk_at "w"
            have hyf : y ∈ fin := ((fseen y).mp hsy).elim id fun z => absurd z hin
            have hsx2 : seen x = true := fx.elim id fun z => z.1 ▸ hsy
            exact ⟨st, seen, n, fin, H2, by assumption, fh, fcl, stk_known fstk hyf, fseen, fks, Nat.le_refl _, fdone, hsx2⟩
        · have hsf : seen y = false := by simpa using hsy
          have hyn : y ∉ st.map Ent.v := fun z => hsy ((fseen y).mpr (.inr z))
          refine ifQ_ff hsf ?_
          refine q_cons ?_
          walk_at "w"
          refine gm_set (by assumption) (by assumption) fh.hse (Nat.lt_of_le_of_lt (le_tt fh.nn hz (Nat.le_refl _)) (by decide)) ?_
          refine callWith_method1 ?_
          walk_at "w"
          refine m_sadd (by assumption) (by assumption) fh.hse (Nat.lt_of_le_of_lt (le_tt fh.nn hz (Nat.le_refl _)) (by decide)) ?_; intro s14 S14
          rw [hsf] at S14
          have old : ∀ {b : Addr} {o : O}, Hc b = some o → (H2.set se (.set (fun j => seen j || decide (j = y)) (if False then n else n + 1))) b = some o := fun {b o} e => ((fh.ext.put fh.n1.2.2.1 _) b o e)
          simp only [Bool.false_eq_true, if_false] at S14 old
          walk_at "w"
          refine gm_list (by assumption) (by assumption) (AH.set_at fh.hik (ne_of_at fh.hik fh.hse rfl)) PySem.F.slot_list_append PySem.F.type_list_append ?_
          refine callWith_method1 ?_
          walk_at "w"
          refine PyProof.Rows.callWith_builtin1 ?_
          walk_at "w"
          refine sub_dict (by assumption) (by assumption) (by assumption) (old hm) (v := .ref (D.a y)) (by rw [G.dgetK, if_pos hyk]) ?_; intro v15 s15 S15 h15
          refine sl_get S15 cls57 (slot_successors _ _) h15 (old (G.ha y hyk)) (old (G.he y hyk)) rfl (fun _ h => nomatch h) ?_; intro v16 s16 S16 h16
          walk_at "w"
          refine m_iter S16 h16 (old (G.hs y hyk)) ?_; intro I s17 hI S17 hI17
          refine a_next S17 hI17 ?_; intro q s18 hq S18
          walk_at "w"
          have ikI : ik ≠ I := new_ne hI (AH.set_at fh.hik (ne_of_at fh.hik fh.hse rfl))
          have ikq : ik ≠ q := new_ne hq (AH.set_at (AH.set_at fh.hik (ne_of_at fh.hik fh.hse rfl)) ikI)
          have hik18 := AH.set_at (o' := .raw (mwObj (.builtin "list_iterator.__next__") (.ref I))) (AH.set_at (o' := .iter (D.sc y) 0) (AH.set_at (o' := .set (fun j => seen j || decide (j = y)) (n + 1)) fh.hik (ne_of_at fh.hik fh.hse rfl)) ikI) ikq
          have fl := fh.len
          refine m_append (v := .ref q) S18 hik18 (rl1 (le_tt fl hz (by decide))) rfl ?_; intro s19 S19
          walk_at "w"
          refine PyProof.Rows.callWith_builtin1 ?_
          walk_at "w"
          have skse := ne_of_at fh.hsk fh.hse rfl
          have ndse := ne_of_at hd1 fh.hse rfl
          have skI : sk ≠ I := new_ne hI (AH.set_at fh.hsk skse)
          have skq : sk ≠ q := new_ne hq (AH.set_at (AH.set_at fh.hsk skse) skI)
          have ndI : nd ≠ I := new_ne hI (AH.set_at hd1 ndse)
          have ndq : nd ≠ q := new_ne hq (AH.set_at (AH.set_at hd1 ndse) ndI)
          have ndik := ne_of_at hd1 fh.hik rfl
          have ndsk := ne_of_at hd1 fh.hsk rfl
          have lift : ∀ {b : Addr} {o : O}, H2 b = some o → b ≠ se → b ≠ I → b ≠ q → b ≠ ik → ((((H2.set se (.set (fun j => seen j || decide (j = y)) (n + 1))).set I (.iter (D.sc y) 0)).set q (.raw (mwObj (.builtin "list_iterator.__next__") (.ref I)))).set ik (.list ((st.reverse.map fun e => V.ref e.q) ++ [.ref q]))) b = some o := fun {b o} e a1 a2 a3 a4 => by
            exact AH.set_at (AH.set_at (AH.set_at (AH.set_at e a1) a2) a3) a4
          refine mm_len (by assumption) (by assumption) (lift fh.hsk skse skI skq fh.ne) (rl2 (le_tt fl hz (by decide))) ?_; intro v20 s20 S20 h20
          walk_at "w"
          have hdlen : dl.length ≤ 900 := by rw [dl_len hd2]; exact le_tt fl hz (by decide)
          refine d_put (by assumption) (by assumption) (by assumption) (lift hd1 ndse ndI ndq ndik) (Nat.le_trans hdlen (by decide)) h20 ?_; intro ep21 s21 S21
          rw [dput_new (by
            have z := dget_some (l := dl) (k := y)
            rw [hd2, List.map_reverse, decide_eq_false (by rw [List.mem_reverse]; exact hyn)] at z
            exact Option.isNone_iff_eq_none.mp (by simpa using z))] at S21
          walk_at "w"
          refine gm_list (by assumption) (by assumption) (AH.set_at (lift fh.hsk skse skI skq fh.ne) (Ne.symm ndsk)) PySem.F.slot_list_append PySem.F.type_list_append ?_
          refine callWith_method1 ?_
          walk_at "w"
          refine m_append (by assumption) (AH.set_at (lift fh.hsk skse skI skq fh.ne) (Ne.symm ndsk)) (rl2 (le_tt fl hz (by decide))) (by assumption) ?_; intro s22 S22
          walk_at "w"
          have fp := fh.push (u := (iL (st.reverse.map Ent.v)).length) (ep := ep21) G.nd hyk hsf hyn hI hq hd1 hd2 hd3 (rl2 (le_tt fl hz (by decide)))
          refine ⟨_, _, _, fin, _, S22, fp, fcl, stk_push fstk, fun j => ?_, fks, Nat.le_of_lt (mu_push hyk G.nd hsf), fun k hk => by simp [fdone k hk], ?_⟩
          · rw [Bool.or_eq_true, fseen j, decide_eq_true_eq, List.map_cons, List.mem_cons]
            constructor
            · rintro ((h | h) | h)
              · exact .inl h
              · exact .inr (.inr h)
              · exact .inr (.inl h)
            · rintro (h | h | h)
              · exact .inl (.inl h)
              · exact .inr h
              · exact .inl (.inr h)
          · rcases fx with h | ⟨h, _⟩
            · simp [h]
            · simp [h]
  · rintro F' H' s' ⟨rfl, seen, n, fin, fh, fcl, fseen, fks, fdone⟩ S'
    rw [List.length_map, List.length_map, List.take_length] at fdone
    walk_at "w"
    exact ⟨_, _, S', fun S9 => k1 fin H' _ fh.ext fcl (fun k hk => (fseen k).mp (fdone k hk)) S9⟩
end
section -- Y11
variable {prog : Program} {w : World} {os : OsState} {ob : Obj} {n0 : Nat} {B : Heap} {W : Addr → Prop} {env : Env} {F : List (Str × V)} {H : AH} {s : Shared} {A : Around} {E : Value → Shared → Prop} {r1 r2 : Value}
section
variable {M : Model} {A : Around} {E : Value → Shared → Prop} {s : Shared} {env : Env}
noncomputable def Trc (h : Heap) (e T : Addr) (cls : Value) : Prop := ∃ oe vs oT ts, h.get? e = some oe ∧ oe.cls = cls ∧ oe.data = .fields vs ∧ vs[1]? = some (.ref T) ∧ T ≠ e ∧ h.get? T = some oT ∧ oT.data = .fields ts ∧ ts[3]? = some .none
theorem stay_cut (h : Heap) (c : List Addr) : (cut h c).StaysIn h := fun b o hb => by
  by_cases q : b ∈ c
  · rw [cut_in q] at hb; cases hb
  · rwa [cut_out q] at hb
theorem ff_mem {h : Heap} {l : List Env} (ff : FF h l) {b : Addr} {o : Obj} (hb : b ∈ fra l) (ho : h.get? b = some o) : ∃ es n, o.data = .dict es n := by
  obtain ⟨v, hv, hL⟩ := List.mem_filterMap.mp hb
  obtain ⟨_, L', o', hf', ho', hd'⟩ := ff v hv
  rw [hL] at hf'; cases hf'
  rw [ho] at ho'; cases ho'
  exact hd'
noncomputable def LeftBy (l : List Env) (ex : List Addr) (e : Addr) (cls : Value) (h h' : Heap) : Prop :=
  (∀ b o, b ∉ ex → b ∉ fra l → h.get? b = some o → h'.get? b = some o) ∧ (∀ b o, b ∈ fra l → h.get? b = some o → ∃ sl, h'.get? b = some { o with slots := sl }) ∧
  ∃ T, Trc h' e T cls ∧ (T ∈ ex ∨ h.get? T = none)
theorem left_of {l : List Env} {ex : List Addr} {e : Addr} {cls : Value} {h h' : Heap} (ff : FF h l) (x : Heap.Left (cut h (ex ++ fra l)) l e cls h h') : LeftBy l ex e cls h h' := by
  obtain ⟨x1, x2, ⟨oe', vs', T, oT, ts, t1, t2, t3, t4, t5, t6, t7, t8, t9⟩, x4⟩ := x
  have fup : ∀ b o, b ∈ fra l → h.get? b = some o → ∃ sl, h'.get? b = some { o with slots := sl } := fun b o hb ho => x4 b o ho fun vs q => by
    obtain ⟨es, n, hd'⟩ := ff_mem ff hb ho
    rw [hd'] at q; cases q
  refine ⟨fun b o hbe hbf ho => x1 b o (by rw [cut_out (by rw [List.mem_append, not_or]; exact ⟨hbe, hbf⟩)]; exact ho), fup, T, ⟨oe', vs', oT, ts, t1, t2, t3, t4, t6, t7, t8, t9⟩, ?_⟩
  by_cases hx : T ∈ ex
  · exact .inl hx
  · right
    cases q : h.get? T with
    | none => rfl
    | some o =>
      exfalso
      by_cases hT : T ∈ fra l
      · obtain ⟨sl, y⟩ := fup T o hT q
        obtain ⟨es, n, hd'⟩ := ff_mem ff hT q
        rw [t7] at y; cases y
        rw [hd'] at t8; cases t8
      · rw [cut_out (by rw [List.mem_append, not_or]; exact ⟨hx, hT⟩), q] at t5; cases t5
theorem ff_cut {h : Heap} {l : List Env} {ex : List Addr} (ff : FF h l) : h.FunFrames (cut h (ex ++ fra l)) l :=
  ff_fun ff fun v hv L hL => List.mem_append_right _ (List.mem_filterMap.mpr ⟨v, hv, hL⟩)
theorem leave_first {outer : List Env} {L e : Addr} {oe : Obj} {vs : Array Value} {Q : Unit → Shared → Prop} (hfr : A.frames = some (env :: outer)) (ff : FF s.heap (env :: outer)) (hf : env.frame = some L)
    (he : s.heap.get? e = some oe) (hd : oe.data = .fields vs) (h1 : vs[1]? = some .none)
    (k : ∀ h', LeftBy (env :: outer) [e] e oe.cls s.heap h' → Q () { s with heap := h' }) : wpAny M A (leaving env (.ref e)) Q E s :=
  wpAny_leaving_first (base := cut s.heap ([e] ++ fra (env :: outer))) hfr (ff_cut ff) hf he (stay_cut _ _) (cut_in (by simp)) hd h1 fun h' x => k h' (left_of ff x)
end
variable {C : Cx} {B : Heap} {W : Addr → Prop} {env : Env} {F : List (Str × V)} {H : AH} {s : Shared} {A : Around} {E : Value → Shared → Prop}
theorem Sf.left (S : Sf C B W env F H s) {outer : List Env} (o : OutF C B W outer) (hf : env.frame = some env.locals) {ex : List Addr} (ae : ∀ e ∈ ex, Aside C B W env H e) {e : Addr} (he : e ∈ ex) {cls : Value} {h' : Heap} (x : LeftBy (env :: outer) ex e cls s.heap h') :
    Sf C B W env F H { s with heap := h' } ∧ ∃ T, Trc h' e T cls ∧ (T ∈ ex ∨ s.heap.get? T = none) ∧ Aside C B W env H T := by
  obtain ⟨x1, x2, T, x3, x4⟩ := x
  exact ⟨S.uptoL o hf ae x1 x2, T, x3, x4, x4.elim (ae T) S.asideOf⟩
end
section -- Y12
variable {prog : Program} {w : World} {os : OsState} {ob : Obj} {n0 : Nat} {B : Heap} {W : Addr → Prop} {env : Env} {F : List (Str × V)} {H : AH} {s : Shared} {A : Around} {E : Value → Shared → Prop} {r1 r2 : Value}
section
variable {M : Model} {A : Around} {E : Value → Shared → Prop} {s : Shared} {env : Env}
theorem land_next {outer : List Env} {L e T : Addr} {cls : Value} {Q : Unit → Shared → Prop} (hfr : A.frames = some (env :: outer)) (ff : FF s.heap (env :: outer)) (hf : env.frame = some L)
    (ht : Trc s.heap e T cls)
    (k : ∀ h', LeftBy (env :: outer) [e, T] e cls s.heap h' → Q () { s with heap := h' }) :
    wpAny M A (noteFrame (.ref e) env) (fun _ s₂ => wpAny M A (setFlight (.ref e) none) Q E s₂) E s := by
  obtain ⟨oe, vs, oT, ts, t1, t2, t3, t4, t5, t6, t7, t8⟩ := ht
  have hsz : 1 < vs.size := (Array.getElem?_eq_some_iff.mp t4).1
  have t0 : vs[0]? = some (vs[0]'(by omega)) := Array.getElem?_eq_getElem _
  refine wpAny_looks_onW (base := cut s.heap ([e, T] ++ fra (env :: outer))) (cls := cls) (a0 := vs[0]'(by omega)) hfr hf ⟨stay_cut _ _, cut_in (by simp), ff_cut ff, oe, vs, T, oT, ts, t1, ⟨t2, t0⟩, t3, t4, cut_in (by simp), t5, t6, t7, t8⟩ fun h₄ hh u1 => ?_
  refine wpAny_landsW hh fun h₅ ⟨f1, f2, f3, f4⟩ u2 => ?_
  obtain ⟨oe', vs', T', oT', ts', r1, ⟨r2, _⟩, r3, r4, r5, r6, r7, r8, r9⟩ := f4
  exact k h₅ (left_of ff ⟨f1, f3, ⟨oe', vs', T', oT', ts', r1, r2, r3, r4, r5, r6, r7, r8, r9⟩, u1.trans u2⟩)
theorem again_next {outer : List Env} {e T : Addr} {cls : Value} {Q : Unit → Shared → Prop} (ff : FF s.heap (env :: outer))
    (ht : Trc s.heap e T cls)
    (k : ∀ h', LeftBy (env :: outer) [e, T] e cls s.heap h' → Q () { s with heap := h' }) :
    wpAny M A (setFlight (.ref e) none) Q E s := by
  obtain ⟨oe, vs, oT, ts, t1, t2, t3, t4, t5, t6, t7, t8⟩ := ht
  have hsz : 1 < vs.size := (Array.getElem?_eq_some_iff.mp t4).1
  have t0 : vs[0]? = some (vs[0]'(by omega)) := Array.getElem?_eq_getElem _
  refine lands_againW (base := cut s.heap ([e, T] ++ fra (env :: outer))) (l := env :: outer) (cls := cls) (a0 := vs[0]'(by omega)) ⟨stay_cut _ _, cut_in (by simp), ff_cut ff, oe, vs, T, oT, ts, t1, ⟨t2, t0⟩, t3, t4, cut_in (by simp), t5, t6, t7, t8⟩ fun h₅ ⟨f1, f2, f3, f4⟩ u2 => ?_
  obtain ⟨oe', vs', T', oT', ts', r1, ⟨r2, _⟩, r3, r4, r5, r6, r7, r8, r9⟩ := f4
  exact k h₅ (left_of ff ⟨f1, f3, ⟨oe', vs', T', oT', ts', r1, r2, r3, r4, r5, r6, r7, r8, r9⟩, u2⟩)
end
variable {C : Cx} {B : Heap} {W : Addr → Prop} {env : Env} {F : List (Str × V)} {H : AH} {s : Shared} {A : Around} {E : Value → Shared → Prop}
inductive ExcK (K : Frag) (c : Addr) : Prop
  | mk (nm qn : Str) (N : Addr) (bs bm : List Value) (hdct : Bool) (sn : List Str) (sub : List Value) (ab : Bool) (col : Option Bool) (dd : Option Addr) (k0 k1 k2 k3 k5 : Option Value) (h1 : K.lookup c = some (excClassObj nm qn c N bs bm hdct sn sub ab col dd k0 k1 k2 k3 k5 "ValueError.__new__")) (h2 : tailIn K [.type "ValueError", .type "Exception", .type "BaseException", .type "object"] bm = true) (h3 : nsOkIn K N = true) (h4 : nsIn K N "__init__" = some none)
inductive ExcO (K : Frag) (c : Addr) : Prop
  | mk (nm qn : Str) (N : Addr) (bs bm : List Value) (hdct : Bool) (sn : List Str) (sub : List Value) (ab : Bool) (col : Option Bool) (dd : Option Addr) (k0 k1 k2 k3 k5 : Option Value) (mN : Str → Option Value) (hni : mN "__init__" = none) (hall : ∀ h' : Heap, K.In h' → h'.get? c = some (excClassObj nm qn c N bs bm hdct sn sub ab col dd k0 k1 k2 k3 k5 "ValueError.__new__") ∧ h'.Ns N mN ∧ OwnTail h' [.type "ValueError", .type "Exception", .type "BaseException", .type "object"] bm)
theorem ExcK.obj {K : Frag} {c : Addr} (q : ExcK K c) {h : Heap} (X : K.In h) : ExcO K c := by
  obtain ⟨nm, qn, ns, bs, bm, hd, sn, sub, ab, col, dd, k0, k1, k2, k3, k5, ho, ht, hok, hni⟩ := q
  have hN : h.Ns ns (h.nsMap ns) := .of_isNs (isNs_of_in X hok)
  refine ⟨nm, qn, ns, bs, bm, hd, sn, sub, ab, col, dd, k0, k1, k2, k3, k5, _, nsMap_none_of_in X hok hni, fun h' X' => ⟨X' _ _ ho, ?_, tail_of_in X' ht⟩⟩
  obtain ⟨o, es, ep, e, r⟩ := hN
  cases z : K.lookup ns with
  | none => unfold nsOkIn at hok; rw [z] at hok; cases hok
  | some o' =>
    have := X _ _ z
    rw [e] at this; cases this
    exact ⟨o, es, ep, X' _ _ z, r⟩
end
section -- Y13
variable {prog : Program} {w : World} {os : OsState} {ob : Obj} {n0 : Nat} {B : Heap} {W : Addr → Prop} {env : Env} {F : List (Str × V)} {H : AH} {s : Shared} {A : Around} {E : Value → Shared → Prop} {r1 r2 : Value}
variable {C : Cx} {B : Heap} {W : Addr → Prop} {env : Env} {F : List (Str × V)} {H : AH} {s : Shared} {A : Around} {E : Value → Shared → Prop}
inductive RaiseH (C : Cx) (B : Heap) (W : Addr → Prop) (env : Env) (c : Addr) (E : Value → Shared → Prop) (vs : List Value) (s₂ : Shared) : Prop
  | mk (F2 : List (Str × V)) (H2 : AH) (S : Sf C B W env F2 H2 s₂) (hz : vs.length ≤ sizeLine) (k : ∀ e s3, Sf C B W env F2 H2 s3 → Aside C B W env H2 e → s₂.heap.get? e = none → (∃ vs, s3.heap.get? e = some { cls := .ref c, data := .fields vs } ∧ vs[1]? = some .none) → E (.ref e) s3)
theorem r_raise (S : Sf C B W env F H s) {c : Addr} {x : Str} {np cpos pos : Pos} {e₀ : Expr} {rest : List Expr} {Q : Flow → Shared → Prop} (hh : A.handled = none) (q : ExcK C.K c) (hl : env.kindOf x = some .globalImplicit)
    (hv : nsIn C.K mainGlobals x = some (some (.ref c)) ∨ (nsIn C.K mainGlobals x = some none ∧ nsIn C.K builtinsNs x = some (some (.ref c))))
    (h : wpAny (model C.prog C.w) A (spliced (backTo cpos (starEach (e₀ :: rest) env))) (fun vs s₂ => RaiseH C B W env c E vs s₂) E s)
    (he : autoParam (starEach (e₀ :: rest) env = (false, eval e₀ env) :: starEach rest env) au1._auto_1)
    (hplain : autoParam ((backTo cpos (starEach rest env)).any (·.1) = false) au1._auto_1)
    (hd : autoParam ((x == ("__debug__" : Str)) = false) au1._auto_1) :
    wpAny (model C.prog C.w) A (exec (.Raise (some (.Call (.Name x np) (e₀ :: rest) [] cpos)) none pos) env) Q E s := by
  obtain ⟨nm, qn, N, bs, bm, hdct, sn, sub, ab, col, dd, k0, k1, k2, k3, k5, mN, hni, hall⟩ := ExcK.obj q S.k
  have T := (hall _ S.k).2.2
  refine wpAny_Raise_call_subT (C := c) (nm := nm) (q := qn) (N := N) (bs := bs) (bm := bm) (hdct := hdct) (sn := sn) (sub := sub) (ab := ab) (col := col) (dd := dd) (k0 := k0) (k1 := k1) (k2 := k2) (k3 := k3) (k5 := k5)
    PySem.F.excBase_ValueError (mN := mN) (T.hasType PySem.F.excBase_ValueError.hasBase) hh (by rw [he]; show (false || (backTo cpos (starEach rest env)).any (·.1)) = false; rw [hplain]; rfl) hni (r_glob S hl hv ⟨rfl, ?_⟩ hd)
  rw [he] at h ⊢
  refine Calls.evalArgs_plain (wpAny_mono h (fun vs s₂ ⟨F2, H2, S2, hz, k⟩ => ?_) fun _ _ y => y)
  obtain ⟨a1, a2, a3⟩ := hall _ S2.k
  refine ⟨rfl, hz, a1, a2, a3, fun h' e m => ?_⟩
  obtain ⟨m1, m2, t, m3, m4, m5⟩ := m
  exact k e _ (S2.keep m1 rfl rfl) (S2.asideOf m2) m2 ⟨_, m3, rfl⟩
theorem catch_own (S : Sf C B W env F H s) {c : Addr} (q : ExcK C.K c) {outer : List Env} (hA : A.frames = some (env :: outer)) (hf : env.frame = some env.locals) (of : OutF C B W outer) {e T : Addr} (ae : Aside C B W env H e) (aT : Aside C B W env H T)
    (ht : Trc s.heap e T (.ref c)) {t : Expr} {pos : Pos} {b₀ : Stmt} {suite : List Stmt} {rest : List ExceptHandler} {Q : Flow → Shared → Prop}
    (hn : ∀ A' s' Q' E', Sf C B W env F H s' → Q' (.ref c) s' → wpAny (model C.prog C.w) A' (eval t env) Q' E' s')
    (k : ∀ A' s' E', Sf C B W env F H s' → wpAny (model C.prog C.w) A' (execs (b₀ :: suite) env) Q E' s') :
    wpAny (model C.prog C.w) A (noteFrame (.ref e) env) (fun _ s₂ => wpAny (model C.prog C.w) A (setFlight (.ref e) none) (fun _ s₃ => wpAny (model C.prog C.w) A (handleBy (.ref e) env (.ExceptHandler (some t) none (b₀ :: suite) pos :: rest)) Q E s₃) E s₂) E s := by
  refine land_next hA (S.ff of hf) hf ht fun h' x => ?_
  obtain ⟨S2, T2, ht2, _, aT2⟩ := S.left of hf (fun b hb => by
    rcases List.mem_cons.mp hb with rfl | hb
    · exact ae
    · rw [List.mem_singleton] at hb; subst hb; exact aT) List.mem_cons_self x
  refine wpAny_handleBy_cons (codeAny_handlers_test (hn _ _ _ _ S2 ?_)) (by intro q; cases q)
  obtain ⟨nm, qn, N, bs, bm, hdct, sn, sub, ab, col, dd, k0, k1, k2, k3, k5, mN, hni, hall⟩ := ExcK.obj q S2.k
  obtain ⟨c1, c2, c3⟩ := hall _ S2.k
  have ht2' := ht2
  obtain ⟨oe, vs, oT, ts, t1, t2, _⟩ := ht2'
  refine wpAny_excMatches_sub_self c1 t1 t2 (c3.hasType PySem.F.excBase_ValueError.hasBase) (codeAny_handlers_suite ?_)
  refine again_next (S2.ff of hf) ht2 fun h3 x3 => ?_
  obtain ⟨S3, _⟩ := S2.left of hf (fun b hb => by
    rcases List.mem_cons.mp hb with rfl | hb
    · exact ae
    · rw [List.mem_singleton] at hb; subst hb; exact aT2) List.mem_cons_self x3
  exact k _ _ _ S3
end
section -- Y14
variable {prog : Program} {w : World} {os : OsState} {ob : Obj} {n0 : Nat} {B : Heap} {W : Addr → Prop} {env : Env} {F : List (Str × V)} {H : AH} {s : Shared} {A : Around} {E : Value → Shared → Prop} {r1 r2 : Value}
theorem OutF.deep {C : Cx} (S : Sf C B W env F H s) {outer : List Env} (o : OutF C B W outer) (hf : env.frame = some env.locals) : OutF C s.heap (dom H) (env :: outer) := by
  intro v hv
  rcases List.mem_cons.mp hv with rfl | hv
  · obtain ⟨m, ⟨ob, es, ep, h1, h2, _⟩, _⟩ := S.ns
    exact ⟨by rw [S.kind]; decide, _, ob, hf, h1, ⟨es, ep, h2⟩, S.big, fun z => z S.na.1, S.na.2.1⟩
  · obtain ⟨hk, L, ob, h1, h2, h3, h4, h5, h6⟩ := o.inh S.inh v hv
    exact ⟨hk, L, ob, h1, h2, h3, h4, fun z => h5 (.inl z), h6⟩
theorem Sf.asideBack {C : Cx} (S : Sf C B W env F H s) {env' : Env} {F' : List (Str × V)} {H' : AH} {s' : Shared} (S' : Sf C s.heap (dom H) env' F' H' s') (hd : ∀ b, H b ≠ none → H' b ≠ none) {e : Addr} (he : s'.heap.get? e = none) {H'' : AH} (no : H'' e = none) : Aside C B W env H'' e := by
  have h1 : H e = none := by
    cases q : H e with
    | none => rfl
    | some o => exact absurd he (S'.there (hd e (by rw [q]; simp)))
  have h2 : s.heap.get? e = none := by
    cases q : s.heap.get? e with
    | none => rfl
    | some o => exact ((S'.kept e o q (fun z => z h1)).none he).elim
  have a := S.asideOf h2
  exact ⟨no, a.k, a.w, a.l, a.c⟩
theorem ex72 (P : Params) (ob : Obj) : ExcK (KK P ob) 72 :=
  ⟨"CycleError", "CycleError", 71, [.type "ValueError"], [.type "ValueError", .type "Exception", .type "BaseException", .type "object"], true, [], [], false, none, none, some (.ref 63), none, some (.str "CycleError" 334), some (.str "CycleError" 342), some (.bool true), by kernel_rfl, by kernel_rfl, by kernel_rfl, by kernel_rfl⟩
set_option maxHeartbeats 4000000 in
theorem sp109 {m : Nat} (S : Sf (CC prog w os ob n0) B W env F H s) (hb : BOk ob) (R : Rm (m + 3) A) {H0 : AH} {D : SD} (G : Srt H0 H D) {x : Addr} (hxx : D.x = x) (hrd : D.rd = none) {outer : List Env} (hA : A.frames = some outer) (of : OutF (CC prog w os ob n0) s.heap (dom H) outer)
    (hsu : ∀ k ∈ D.ks, ∀ j ∈ D.su k, j ∈ D.ks) (hz : D.ks.length ≤ 800) {Q : Value → Shared → Prop}
    (k1 : ∀ D' H' r fin s', Stp H0 D H D' H' → D'.ks = D.ks → D'.np = D.np → D'.su = D.su → D'.po = D.po → D'.fi = D.fi → D'.rd = some (r, D.ks.filter fun k => D.np k == 0) → Cl D.su fin → (∀ k ∈ D.ks, k ∈ fin) → Sf (CC prog w os ob n0) B W env F H' s' → Q .none s')
    (k2 : ∀ D' H' r v e T s', Stp H0 D H D' H' → D'.ks = D.ks → D'.np = D.np → D'.su = D.su → D'.po = D.po → D'.fi = D.fi → D'.rd = some (r, D.ks.filter fun k => D.np k == 0) → v ∈ D.ks → Rc D.su v v → Aside (CC prog w os ob n0) B W env H' e → Aside (CC prog w os ob n0) B W env H' T →
      Trc s'.heap e T (.ref 72) → Sf (CC prog w os ob n0) B W env F H' s' → E (.ref e) s') :
    wpAny (model prog w) A (call (.ref 109) [.ref x]) Q E s := by
  subst hxx
  refine wpAny_call (r_callF S R (fn109 w.params ob) (vals := [.ref D.x]) (binds := [("self", .ref D.x)]) (F' := [("self", .ref D.x)]) (by kernel_rfl) (.one ⟨rfl, rfl⟩) (of_decide_eq_true (by kernel_rfl)) (by kernel_rfl) (ok109 _) fun env' s1 Ge hf S1 => ?_)
  refine gE ?_; intro EF hEF; refine gq ?_; intro QF hQF
  have hA' := Around.frames_deeper (env := env') hA
  have hR := R.deeper env'
  obtain ⟨cd, cls, hdict⟩ := cls154 w.params ob
  obtain ⟨cd57, cls57, _⟩ := cls57 w.params ob
  have e0 : D.rv = .none := by unfold SD.rv; rw [hrd]
  have hg : ∀ g, D.rv ≠ .glob g := by rw [e0]; exact fun _ h => nomatch h
  refine q_cons ?_
  walk_at "w"
  refine a_get (by assumption) cls (by assumption) G.hx G.hd rfl hg hdict (no_ready_nodes _ _) ?_; intro v2 s2 S2 h2
  rw [e0] at h2
  walk_at "w"
  refine c_isNotNone h2 (fun _ h => nomatch h) ?_
  walk_at "w"
  refine ifQ_ff rfl ?_
  walk_at "w"
  obtain ⟨epm, hm⟩ := G.hm
  refine r_eval_comp Ge (by assumption) rfl (fun cl hcl => ?_)
  walk_at "w"
  refine a_get (by assumption) cls (by assumption) G.hx G.hd rfl (fun _ h => nomatch h) hdict (no_node2info _ _) ?_; intro v3 s3 S3 h3
  walk_at "w"
  refine gm_dict (by assumption) (by assumption) hm PySem.F.slot_dict_values PySem.F.type_dict_values ?_
  refine callWith_method0 ?_
  refine m_values (by assumption) hR.handled hm ?_; intro rv4 s4 S4 it4
  rw [List.map_map] at it4
  refine ⟨_, _, S4, fun RR K hK kK => ?_⟩
  refine compP (B := s.heap) (W := dom H) D.ks (fun k => V.ref (D.a k)) (fun k => [(("i" : Str), V.ref (D.a k))]) (fun k => D.np k == 0) (fun k => V.int k) Ge rfl hcl S4 it4 hK (Nat.le_trans hz (by decide)) (fun H' e => e _ _ hm) ?_ ?_ ?_ ?_
  · intro cenv k H' ec hk e
    exact asg1 ec rfl rfl
  · intro cenv k H' B' W' s' E' ec hk e S'
    refine tests_one (gq ?_); intro Qt hQt
    walk_at "w"
    refine sl_get S' cls57 (slot_npredecessors _ _) (by assumption) (e _ _ (G.ha k hk)) (e _ _ (G.he k hk)) rfl (fun _ h => nomatch h) ?_; intro v5 s5 S5 h5
    walk_at "w"
    refine c_eq h5 (by assumption) ?_
    walk_at "w"
    refine ⟨?_, _, by assumption, Ext.refl _⟩
    by_cases hq : D.np k = 0 <;> simp [hq]
  · intro cenv k H' B' W' s' E' ec hk hp e S'
    walk_at "w"
    refine sl_get S' cls57 (slot_node _ _) (by assumption) (e _ _ (G.ha k hk)) (e _ _ (G.he k hk)) rfl (fun _ h => nomatch h) ?_; intro v5 s5 S5 h5
    exact ⟨_, S5, Ext.refl _, h5⟩
  · intro r H' hr e hl
    refine kK r H' fun s6 S6 => ?_
    walk_at "w"
    have G6 := G.more e
    refine a_set S6 cls (by assumption) G6.hx G6.hd (v := .ref r) rfl (by unfold SD.at; simp) hdict (no_ready_nodes _ _) ?_; intro s7 S7
    have hH0 : H0 r = none := G.ext.none hr
    have hsc : ∀ k ∈ D.ks, D.sc k ≠ r := fun k hk q => by have := G.hs k hk; rw [q, hr] at this; cases this
    have z := G6.setAt (D' := { D with rd := some (r, D.ks.filter fun k => D.np k == 0) }) rfl rfl rfl rfl rfl rfl rfl rfl rfl (.inr ⟨r, D.ks.filter fun k => D.np k == 0, hrd, rfl, hl, hH0, hsc⟩)
    have G7 : Stp H0 D H { D with rd := some (r, D.ks.filter fun k => D.np k == 0) } _ := ⟨z.1, fun b o q n => z.2.1 b o (e _ _ q) n, fun b hb => by
      rcases z.2.2 b hb with y | ⟨_, _, _, y2, y3⟩
      · exact .inl y
      · cases y2; exact .inr (y3 ▸ hr), rfl⟩
    replace S7 : Sf (CC prog w os ob n0) s.heap (dom H) env' [("self", .ref D.x)] (H'.set D.d (.attrs ({ D with rd := some (r, D.ks.filter fun k => D.np k == 0) } : SD).at)) s7 := S7
    obtain ⟨D5, hD5⟩ : ∃ d, d = ({ D with rd := some (r, D.ks.filter fun k => D.np k == 0) } : SD) := ⟨_, rfl⟩
    rw [← hD5] at S7 G7
    have dx : D5.x = D.x := by rw [hD5]
    have dks : D5.ks = D.ks := by rw [hD5]
    have dnp : D5.np = D.np := by rw [hD5]
    have dsu : D5.su = D.su := by rw [hD5]
    have dpo : D5.po = D.po := by rw [hD5]
    have dfi : D5.fi = D.fi := by rw [hD5]
    have hDd : D5.d = D.d := by rw [hD5]
    have hDm : D5.m = D.m := by rw [hD5]
    have hDa : D5.a = D.a := by rw [hD5]
    have hDs : D5.sc = D.sc := by rw [hD5]
    have drd : D5.rd = some (r, D.ks.filter fun k => D.np k == 0) := by rw [hD5]
    clear hD5 z
    generalize H'.set D.d (.attrs D5.at) = H7 at S7 G7
    walk_at "w"
    refine a_meth (by assumption) cls (by assumption) (dx ▸ G7.s.hx) G7.s.hd rfl (me_find_cycle _ _) (ty144 _ _) ?_
    refine q_callK0 (by assumption) (kf144 _ _) ?_
    refine sp144 (by assumption) hb hR G7.s dx hA' (OutF.deep (by assumption) of hf) (by rw [dks, dsu]; exact hsu) (by rw [dks]; exact hz) ?_ ?_
    · intro fin H8 s8 e8 hcl8 hfin8 S8
      refine r_store (v := .none) Ge S8 rfl rfl ?_; intro s9 S9
      walk_at "w"
      refine ifQ_f ?_
      walk_at "w"
      exact ⟨_, _, by assumption, fun S9 => k1 D5 H8 r fin _ (G7.trans (Stp.more G7.s e8)) dks dnp dsu dpo dfi drd (dsu ▸ hcl8) (dks ▸ hfin8) S9⟩
    · intro a l v H8 s8 e8 ha hl0 hl8 hv8 hrc8 S8
      refine r_store (v := .ref a) Ge S8 rfl rfl ?_; intro s9 S9
      walk_at "w"
      refine t_list (by assumption) (by assumption) ha hl8 ?_; intro s10 S10
      refine ifQ_tt (by simp [hl0]) ?_
      refine q_cons ?_
      refine r_raise S10 hR.handled (ex72 _ _) (Ev.kin (by assumption) _ _ (by rfl) (by decide)) (gl_own rfl) ?_
      refine q_sp (wpAny_JoinedStr_one ?_) rfl
      walk_at "w"
      refine ⟨_, _, by assumption, by show 2 ≤ sizeLine; decide, fun e s3 S3 ae hen hev => ?_⟩
      obtain ⟨vs, hev, hv1⟩ := hev
      refine lf hEF ?_
      refine leave_first hA' (S3.ff of hf) hf hev rfl hv1 ?_
      intro h' x
      obtain ⟨S4, T, ht, hT, aT⟩ := S3.left of hf (ex := [e]) (by intro e' he'; rw [List.mem_singleton] at he'; exact he' ▸ ae) (by simp) x
      have hTe : T ≠ e := by obtain ⟨_, _, _, _, _, _, _, _, q, _⟩ := ht; exact q
      have hT' : s3.heap.get? T = none := hT.resolve_left (by simpa using hTe)
      have G8 := G7.trans (Stp.more G7.s e8)
      have hdom : ∀ b, H b ≠ none → H8 b ≠ none := fun b hb => by
        by_cases ho : own D b
        · refine G8.s.ownS ?_
          rcases ho with z | z | ⟨r', l', z, _⟩ | ⟨k, hk, z⟩
          · exact .inl (by rw [z, hDd])
          · exact .inr (.inl (by rw [z, hDm]))
          · rw [hrd] at z; cases z
          · exact .inr (.inr (.inr ⟨k, dks ▸ hk, by rw [hDa, hDs]; exact z⟩))
        · cases q : H b with
          | none => exact absurd q hb
          | some o => rw [G8.k b o q ho]; simp
      exact k2 D5 H8 r v e T _ G8 dks dnp dsu dpo dfi drd (dks ▸ hv8) (dsu ▸ hrc8) (S.asideBack (by assumption) hdom hen ae.no) (S.asideBack S3 hdom hT' aT.no) ht (S.back S4)
end
section -- Y15
variable {prog : Program} {w : World} {os : OsState} {ob : Obj} {n0 : Nat} {B : Heap} {W : Addr → Prop} {env : Env} {F : List (Str × V)} {H : AH} {s : Shared} {A : Around} {E : Value → Shared → Prop} {r1 r2 : Value}
theorem star_list {C : Cx} (S : Sf C B W env F H s) {a : Addr} {l : List V} (h1 : V.R (.ref a) r1) (ha : H a = some (.list l)) (hz : l.length ≤ 1000) {Q : List Value → Shared → Prop} (k : ∀ vs s', A2 V.R l vs → Sf C B W env F H s' → Q vs s') : StarOf (model C.prog C.w) A E r1 Q s := by
  obtain rfl := h1
  obtain ⟨ob, hob, vs, n, rfl, hvs⟩ := S.rel a _ ha
  have z : wpAny (model C.prog C.w) A (collect (.ref a)) Q E s := by
    refine wpAny_collect_seq a (.inl rfl) hob rfl rfl (fun h' hk => k _ _ hvs (S.keep hk rfl rfl)) ?_
    have := A2.size hvs
    have := sizeLine_eq
    omega
  unfold StarOf notIterableAtAll
  exact wpAny_bind (wpAny_specialOf ⟨_, hob, rfl⟩ PySem.F.slot_list_iter.lookup (wpAny_pure ⟨rfl, z⟩))
theorem pos_name (x : Str) (p : Pos) : (Expr.Name x p).pos = p := rfl
theorem sw2 {C : Cx} {sc : Scope} (G : Ev sc env) (S : Sf C B W env F H s) {x y : Str} {px py p p2 : Pos} {v1 v2 : Expr} {kd kd2} (hx : sc.names.lookup x = some .local) (hy : sc.names.lookup y = some .local) (hl : px.line = py.line) (hxy : ([x, y] : List Str).eraseDups.length = 2)
    (hs : ([v1, v2].any fun | .Starred .. => true | _ => false) = false) (hf : [v1, v2].all (foldedForSure 8) = false) (hc : [v1, v2].all (constantsAlone 8) = false) : swappedStores [.Tuple [.Name x px, .Name y py] kd p] (.Tuple [v1, v2] kd2 p2) env = pure (some [x, y]) := by
  have hb : env.blockKind = .function := by unfold Env.blockKind; rw [S.kind]; rfl
  unfold swappedStores
  dsimp only
  rw [hb]
  rw [if_neg (by simp)]
  rw [if_neg (by rw [Bool.not_eq_true]; exact hs)]
  simp only [List.filterMap_cons, List.filterMap_nil, G.kin x .local hx (by decide), G.kin y .local hy (by decide), List.head?_cons, Option.map_some, Option.getD_some, pos_name, hl, beq_self_eq_true, Bool.and_self, if_true, hxy, hf, hc]
  rfl
theorem sw3 {C : Cx} {sc : Scope} (G : Ev sc env) (S : Sf C B W env F H s) {x y z : Str} {px py pz p p2 : Pos} {v1 v2 v3 : Expr} {kd kd2} (hx : sc.names.lookup x = some .local) (hy : sc.names.lookup y = some .local) (hz : sc.names.lookup z = some .local) (hl : px.line = py.line) (hl2 : px.line = pz.line) (hxy : ([x, y, z] : List Str).eraseDups.length = 3)
    (hs : ([v1, v2, v3].any fun | .Starred .. => true | _ => false) = false) (hf : [v1, v2, v3].all (foldedForSure 8) = false) (hc : [v1, v2, v3].all (constantsAlone 8) = false) : swappedStores [.Tuple [.Name x px, .Name y py, .Name z pz] kd p] (.Tuple [v1, v2, v3] kd2 p2) env = pure (some [x, y, z]) := by
  have hb : env.blockKind = .function := by unfold Env.blockKind; rw [S.kind]; rfl
  unfold swappedStores
  dsimp only
  rw [hb]
  rw [if_neg (by simp)]
  rw [if_neg (by rw [Bool.not_eq_true]; exact hs)]
  simp only [List.filterMap_cons, List.filterMap_nil, G.kin x .local hx (by decide), G.kin y .local hy (by decide), G.kin z .local hz (by decide), List.head?_cons, Option.map_some, Option.getD_some, pos_name, ← hl, ← hl2, beq_self_eq_true, Bool.and_self, if_true, hxy, hf, hc]
  rfl
theorem del_set {H : AH} {a : Addr} {o : O} (h : H a = none) : (H.set a o).del a = H := by
  funext b
  by_cases q : b = a
  · subst q; rw [AH.del_self, h]
  · rw [AH.del_ne _ q, AH.set_ne _ _ q]
inductive Asg2 (C : Cx) (B : Heap) (W : Addr → Prop) (env : Env) (x y : Str) (Q : Shared → Prop) (vs : List Value) (s : Shared) : Prop
  | mk (F : List (Str × V)) (H : AH) (a b : V) (S : Sf C B W env F H s) (h : A2 V.R [a, b] vs) (k : ∀ s', Sf C B W env ((x, a) :: (y, b) :: F) H s' → Q s')
inductive Asg3 (C : Cx) (B : Heap) (W : Addr → Prop) (env : Env) (x y z : Str) (Q : Shared → Prop) (vs : List Value) (s : Shared) : Prop
  | mk (F : List (Str × V)) (H : AH) (a b c : V) (S : Sf C B W env F H s) (h : A2 V.R [a, b, c] vs) (k : ∀ s', Sf C B W env ((x, a) :: (y, b) :: (z, c) :: F) H s' → Q s')
theorem r_asg2 {C : Cx} {sc : Scope} (G : Ev sc env) (S0 : Sf C B W env F H s) (hh : A.handled = none) {x y : Str} {px py p p2 pos : Pos} {v1 v2 : Expr} {kd kd2} {Q : Flow → Shared → Prop} (hx : sc.names.lookup x = some .local) (hy : sc.names.lookup y = some .local)
    (h : wpAny (model C.prog C.w) A (spliced (backTo p2 (starEach [v1, v2] env))) (fun vs s1 => Asg2 C B W env x y (Q .next) vs s1) E s)
    (hl : autoParam (px.line = py.line) au1._auto_1) (hxy : autoParam (([x, y] : List Str).eraseDups.length = 2) au1._auto_1)
    (hs : autoParam (([v1, v2].any fun | .Starred .. => true | _ => false) = false) au1._auto_1) (hf : autoParam ([v1, v2].all (foldedForSure 8) = false) au1._auto_1) (hc : autoParam ([v1, v2].all (constantsAlone 8) = false) au1._auto_1) (hw : autoParam (swapsWithSole [.Tuple [.Name x px, .Name y py] kd p] (.Tuple [v1, v2] kd2 p2) pos.line env = pure false) au1._auto_1) :
    wpAny (model C.prog C.w) A (exec (.Assign [.Tuple [.Name x px, .Name y py] kd p] (.Tuple [v1, v2] kd2 p2) pos) env) Q E s := by
  refine Assign_Tuple_swapped (names := [x, y]) ?_ hw (sw2 G S0 hx hy hl hxy hs hf hc)
  refine q_tuple (wpAny_mono h (fun vs s1 ⟨F1, H1, a, b, S1, hvs, k⟩ => ⟨F1, H1, [a, b], S1, hvs, by simp, fun T s2 hT S2 => ?_⟩) fun _ _ x => x)
  obtain ⟨its, n, x1, y1⟩ := S2.isTup (AH.set_self ..)
  have e2 : 2 = its.size := by rw [A2.size y1]; rfl
  show wpAny _ A (unpackItems (.ref T) 2 none) _ E s2
  rw [e2]
  refine wpAny_unpackItems_tuple hh ⟨_, x1, rfl, _, rfl⟩ fun h' he => ?_
  have S3 := S2.keep (s' := { s2 with heap := h' }) (fun b o e => he b o (Nat.ne_of_lt (Heap.lt_size e)) e) rfl rfl
  have S4 := S3.del T
  rw [del_set hT] at S4
  revert y1
  generalize its.toList = l
  intro y1
  cases y1 with
  | cons z1 y1 =>
    cases y1 with
    | cons z2 y1 =>
      cases y1
      show wpAny _ A (assignInOrder [bindName env y, bindName env x] [_, _]) _ E _
      refine assignInOrder_cons (bindName_ (r_storeL S4 (G.kin _ _ hy (by decide)) z2 fun s5 S5 => ?_))
      exact assignInOrder_cons (bindName_ (r_storeL S5 (G.kin _ _ hx (by decide)) z1 fun s6 S6 => assignInOrder_nil (k _ S6)))
theorem r_asg3 {C : Cx} {sc : Scope} (G : Ev sc env) (S0 : Sf C B W env F H s) (hh : A.handled = none) {x y z : Str} {px py pz p p2 pos : Pos} {v1 v2 v3 : Expr} {kd kd2} {Q : Flow → Shared → Prop} (hx : sc.names.lookup x = some .local) (hy : sc.names.lookup y = some .local) (hz : sc.names.lookup z = some .local)
    (h : wpAny (model C.prog C.w) A (spliced (backTo p2 (starEach [v1, v2, v3] env))) (fun vs s1 => Asg3 C B W env x y z (Q .next) vs s1) E s)
    (hl : autoParam (px.line = py.line) au1._auto_1) (hl2 : autoParam (px.line = pz.line) au1._auto_1) (hxy : autoParam (([x, y, z] : List Str).eraseDups.length = 3) au1._auto_1)
    (hs : autoParam (([v1, v2, v3].any fun | .Starred .. => true | _ => false) = false) au1._auto_1) (hf : autoParam ([v1, v2, v3].all (foldedForSure 8) = false) au1._auto_1) (hc : autoParam ([v1, v2, v3].all (constantsAlone 8) = false) au1._auto_1) (hw : autoParam (swapsWithSole [.Tuple [.Name x px, .Name y py, .Name z pz] kd p] (.Tuple [v1, v2, v3] kd2 p2) pos.line env = pure false) au1._auto_1) :
    wpAny (model C.prog C.w) A (exec (.Assign [.Tuple [.Name x px, .Name y py, .Name z pz] kd p] (.Tuple [v1, v2, v3] kd2 p2) pos) env) Q E s := by
  refine Assign_Tuple_swapped (names := [x, y, z]) ?_ hw (sw3 G S0 hx hy hz hl hl2 hxy hs hf hc)
  refine q_tuple (wpAny_mono h (fun vs s1 ⟨F1, H1, a, b, c, S1, hvs, k⟩ => ⟨F1, H1, [a, b, c], S1, hvs, by simp, fun T s2 hT S2 => ?_⟩) fun _ _ x => x)
  obtain ⟨its, n, x1, y1⟩ := S2.isTup (AH.set_self ..)
  have e2 : 3 = its.size := by rw [A2.size y1]; rfl
  show wpAny _ A (unpackItems (.ref T) 3 none) _ E s2
  rw [e2]
  refine wpAny_unpackItems_tuple hh ⟨_, x1, rfl, _, rfl⟩ fun h' he => ?_
  have S3 := S2.keep (s' := { s2 with heap := h' }) (fun b o e => he b o (Nat.ne_of_lt (Heap.lt_size e)) e) rfl rfl
  have S4 := S3.del T
  rw [del_set hT] at S4
  revert y1
  generalize its.toList = l
  intro y1
  cases y1 with
  | cons z1 y1 =>
    cases y1 with
    | cons z2 y1 =>
      cases y1 with
      | cons z3 y1 =>
        cases y1
        show wpAny _ A (assignInOrder [bindName env z, bindName env y, bindName env x] [_, _, _]) _ E _
        refine assignInOrder_cons (bindName_ (r_storeL S4 (G.kin _ _ hz (by decide)) z3 fun s5 S5 => ?_))
        refine assignInOrder_cons (bindName_ (r_storeL S5 (G.kin _ _ hy (by decide)) z2 fun s6 S6 => ?_))
        exact assignInOrder_cons (bindName_ (r_storeL S6 (G.kin _ _ hx (by decide)) z1 fun s7 S7 => assignInOrder_nil (k _ S7)))
end
section -- Y16
variable {prog : Program} {w : World} {os : OsState} {ob : Obj} {n0 : Nat} {B : Heap} {W : Addr → Prop} {env : Env} {F : List (Str × V)} {H : AH} {s : Shared} {A : Around} {E : Value → Shared → Prop} {r1 r2 : Value}
theorem a_bound {C : Cx} {c d x f : Addr} {cd : ClassData} {l : List (Str × V)} {name : Str} {expr : Bool} {Q : Value → Shared → Prop} (S : Sf C B W env F H s) (c0 : ClsOk C.K c cd) (h1 : V.R (.ref x) r1) (hx : H x = some (.inst c d)) (hd : H d = some (.attrs l)) (hv : l.lookup name = none)
    (hf : findIn C.K (.ref c) name = some (some (.ref f))) (ht : typeIn C.K (.ref f) = some (.type "function")) (hh : hasDictIn C.K c = true) (hg : specialIn C.K (.ref f) "__get__" = some (some (.builtin "function.__get__"))) (hk : takesIn C.K (.ref f) = some false) (hc : copiedNames.contains name = false)
    (k : ∀ q s', H q = none → Sf C B W env F (H.set q (.raw (methodObj (.ref f) (.ref x)))) s' → Q (.ref q) s') : wpAny (model C.prog C.w) A (getAttr r1 name expr) Q E s := by
  obtain rfl := h1
  obtain ⟨es, n, sl, h1, h2, I⟩ := S.instAt hx hd
  refine get_bind S.k I c0.ga (findObj_fn hh hf hg hk hc (look_not h2 hv)) c0.gt ?_
  have hn := S.new (a := s.heap.objs.size) (o := .raw (methodObj (.ref f) (.ref x))) (s' := { s with heap := s.heap.push (methodObj (.ref f) (.ref x)), toks := s.toks + 1 }) (fun b o e => Heap.get?_push_of_some _ e) (Nat.le_refl _) (Heap.get?_push_size _ rfl) rfl rfl rfl
  exact wpAny_call (fn_get S.k ht (handed_on rfl (k _ _ hn.1 hn.2)))
theorem r_methS {M : Model} {o : Expr} {name : Str} {apos pos : Pos} {args : List Expr} {Q : Value → Shared → Prop}
    (h : wpAny M A (eval o env) (fun ov s₁ => wpAny M A (getAttr ov name true) (fun f s₂ => wpAny M A (callWith pos f [] (backTo pos (starEach args env)) []) Q E s₂) E s₁) E s)
    (he : autoParam (eval (.Call (.Attribute o name apos) args [] pos) env = (do
      let ov ← eval o env
      standAt apos.atName
      let (f, first) ← holding [ov] (do pure (← getAttr ov name true, ([] : List Value)))
      callWith pos f first (backTo pos (starEach args env)) [])) au1._auto_1) :
    wpAny M A (eval (.Call (.Attribute o name apos) args [] pos) env) Q E s := by
  rw [he]
  exact wpAny_bind (wpAny_mono h (fun ov s1 h1 => wpAny_bind (wpAny_standAt (wpAny_bind (wpAny_holding (wpAny_bind (wpAny_mono h1 (fun f s2 h2 => wpAny_pure h2) fun _ _ x => x)))))) fun _ _ x => x)
theorem q_callMS {C : Cx} {Q : Value → Shared → Prop} {q g : Addr} {self : Value} {pos : Pos} {e : Expr} {rest : List Expr} (hf : fnIn C.K g = true) (h : wpAny (model C.prog C.w) A (spliced (backTo pos (starEach (e :: rest) env))) (fun vs s₁ => MethP C.K q g self s₁.heap ∧ wpAny (model C.prog C.w) A (call (.ref q) ([] ++ vs)) Q E s₁) E s)
    (he : autoParam (starEach (e :: rest) env = (false, eval e env) :: starEach rest env) au1._auto_1) (hst : autoParam ((backTo pos (starEach rest env)).any (·.1) = true) au1._auto_1) : wpAny (model C.prog C.w) A (callWith pos (.ref q) [] (backTo pos (starEach (e :: rest) env)) []) Q E s := by
  rw [he] at h ⊢
  exact ks_call (by show (false || (backTo pos (starEach rest env)).any (·.1)) = true; rw [hst]; rfl) (keeps_M hf) (evalArgs_plain h)
theorem q_callM1 {C : Cx} {Q : Value → Shared → Prop} {q g : Addr} {self : Value} {pos p : Pos} {e : Expr} (hf : fnIn C.K g = true) (h : wpAny (model C.prog C.w) A (eval e env) (fun v s₁ => StarOf (model C.prog C.w) A E v (fun vs s₂ => MethP C.K q g self s₂.heap ∧ wpAny (model C.prog C.w) A (call (.ref q) ([] ++ vs)) Q E s₂) s₁) E s)
    (he : autoParam (starEach [.Starred e p] env = [(true, eval e env)]) au1._auto_1) : wpAny (model C.prog C.w) A (callWith pos (.ref q) [] (backTo pos (starEach [.Starred e p] env)) []) Q E s := by
  rw [he]
  exact ks_call rfl (keeps_M hf) (ks_lone h)
theorem hd154 (P : Params) (ob : Obj) : hasDictIn (KK P ob) 154 = true := by kernel_rfl
theorem fi104 (P : Params) (ob : Obj) : fnIn (KK P ob) 104 = true := by kernel_rfl
theorem fi137 (P : Params) (ob : Obj) : fnIn (KK P ob) 137 = true := by kernel_rfl
theorem sg104 (P : Params) (ob : Obj) : specialIn (KK P ob) (.ref 104) "__get__" = some (some (.builtin "function.__get__")) := by kernel_rfl
theorem sg137 (P : Params) (ob : Obj) : specialIn (KK P ob) (.ref 137) "__get__" = some (some (.builtin "function.__get__")) := by kernel_rfl
theorem tk104 (P : Params) (ob : Obj) : takesIn (KK P ob) (.ref 104) = some false := by kernel_rfl
theorem tk137 (P : Params) (ob : Obj) : takesIn (KK P ob) (.ref 137) = some false := by kernel_rfl
noncomputable def RowsAt (H : AH) (a : Addr) (rows : List (List Int)) : Prop := ∃ rs, H a = some (.list (rs.map V.ref)) ∧ A2 (fun r l => H r = some (.list (iL l))) rs rows
theorem RowsAt.ext {H H' : AH} {a : Addr} {rows : List (List Int)} (h : RowsAt H a rows) (e : Ext H H') : RowsAt H' a rows := by
  obtain ⟨rs, h1, h2⟩ := h
  exact ⟨rs, e _ _ h1, h2.mono fun _ _ x => e _ _ x⟩
theorem RowsAt.at {H : AH} {a : Addr} {rows : List (List Int)} (h : RowsAt H a rows) {i : Nat} {row : List Int} (e : rows[i]? = some row) : ∃ (rs : List Addr) (r : Addr), H a = some (.list (rs.map V.ref)) ∧ (rs.map V.ref)[i]? = some (.ref r) ∧ H r = some (.list (iL row)) ∧ rs.length = rows.length := by
  obtain ⟨rs, h1, h2⟩ := h
  obtain ⟨r, h3, h4⟩ := h2.get' e
  exact ⟨rs, r, h1, by rw [List.getElem?_map, h3]; rfl, h4, h2.length⟩
structure GD where
  ks : List Int
  np : Int → Int
  su : Int → List Int
noncomputable def bldN (rows : List (List Int)) : Nat → GD
  | 0 => ⟨[], fun _ => 0, fun _ => []⟩
  | i + 1 => ⟨(rows.getD i []).foldl addK (addK (bldN rows i).ks i), upd (bldN rows i).np i ((bldN rows i).np i + (rows.getD i []).length), (rows.getD i []).foldl (addS i) (bldN rows i).su⟩
theorem bldN_ks {rows : List (List Int)} (hz : ∀ r ∈ rows, r.length ≤ 20) : ∀ i, (bldN rows i).ks.length ≤ 21 * i
  | 0 => by simp [bldN]
  | i + 1 => by
    exact Nat.le_trans (ar_step (addKs_len (rows.getD i []) (addK (bldN rows i).ks i)) (addK_len (bldN rows i).ks i)) (Nat.add_le_add (bldN_ks hz i) (Nat.succ_le_succ (row_le hz i)))
theorem bldN_su {rows : List (List Int)} (hz : ∀ r ∈ rows, r.length ≤ 20) (k : Int) : ∀ i, ((bldN rows i).su k).length ≤ 20 * i
  | 0 => by simp [bldN]
  | i + 1 => by
    exact Nat.le_trans (addS_len i (rows.getD i []) (bldN rows i).su k) (Nat.add_le_add (bldN_su hz k i) (row_le hz i))
inductive J236 (H : AH) (X a : Addr) (rows : List (List Int)) (i : Nat) (F' : List (Str × V)) (H' : AH) : Prop
  | mk (h1 : F' = ([("sorter", .ref X), ("ring", .bool false), ("rows", .ref a)] : List (Str × V))) (D' : SD) (h2 : Srt H H' D') (h3 : D'.x = X) (h4 : D'.ks = (bldN rows i).ks) (h5 : D'.np = (bldN rows i).np) (h6 : D'.su = (bldN rows i).su) (h7 : D'.rd = none) (h8 : D'.po = 0) (h9 : D'.fi = 0)
set_option maxHeartbeats 4000000 in
theorem sp236 {m : Nat} (S : Sf (CC prog w os ob n0) B W env F H s) (hb : BOk ob) (R : Rm (m + 8) A) {outer : List Env} (hA : A.frames = some outer) (of : OutF (CC prog w os ob n0) s.heap (dom H) outer)
    {a : Addr} {rows : List (List Int)} (hr : RowsAt H a rows) (h5 : rows.length = 5) (hz : ∀ r ∈ rows, r.length ≤ 20) (hsu : ∀ k ∈ (bldN rows 5).ks, ∀ j ∈ (bldN rows 5).su k, j ∈ (bldN rows 5).ks) {Q : Value → Shared → Prop}
    (k : ∀ D H' T r ring s', Srt H H' D → H T = none → ¬ own D T → H' T = some (.tup [.ref D.x, .bool ring]) → D.ks = (bldN rows 5).ks → D.np = (bldN rows 5).np → D.su = (bldN rows 5).su → D.po = 0 → D.fi = 0 → D.rd = some (r, D.ks.filter fun k => D.np k == 0) →
      (ring = false → ∃ fin, Cl D.su fin ∧ ∀ k ∈ D.ks, k ∈ fin) → (ring = true → ∃ v ∈ D.ks, Rc D.su v v) → Sf (CC prog w os ob n0) B W env F H' s' → Q (.ref T) s') :
    wpAny (model prog w) A (call (.ref 236) [.ref a]) Q E s := by
  refine wpAny_call (r_callF S R (fn236 w.params ob) (vals := [.ref a]) (binds := [("rows", .ref a)]) (F' := [("rows", .ref a)]) (by kernel_rfl) (.one ⟨rfl, rfl⟩) (of_decide_eq_true (by kernel_rfl)) (by kernel_rfl) (ok236 _) fun env' s1 Ge hf S1 => ?_)
  refine gE ?_; intro EF hEF; refine gq ?_; intro QF hQF
  have hA' := Around.frames_deeper (env := env') hA
  have hR := R.deeper env'
  obtain ⟨cd, cls, hdict⟩ := cls154 w.params ob
  refine q_cons ?_
  refine r_asg2 Ge S1 hR.handled rfl rfl ?_
  walk_at "w"
  refine q_callK0 (by assumption) (kp_TopologicalSorter _ _) ?_
  refine sp154 (by assumption) hR ?_; intro D2 H2 s2 G2 g1 g2 g3 g4 g5 g6 S2
  obtain ⟨X, hX⟩ : ∃ X, D2.x = X := ⟨_, rfl⟩
  rw [hX]
  walk_at "w"
  refine ⟨_, _, .ref X, .bool false, by assumption, .two rfl rfl, fun s3 S3 => ?_⟩
  walk_at "w"
  refine r_forI Ge S3 rfl ?_
  walk_at "w"
  refine PyProof.Rows.callWith_type1 ?_
  walk_at "w"
  refine m_range (n := 5) (by assumption) hR.handled (by decide) (by assumption) ?_; intro rv4 s4 S4 it4
  refine ⟨_, _, _, _, S4, it4, J236 H X a rows, ?_, fun _ _ _ _ => trivial, ?_, ?_⟩
  · exact ⟨rfl, D2, G2, hX, g1, g2, g3, g4, g5, g6⟩
  · rintro i v F' H' B' W' s' E' hv ⟨rfl, D', G', e1, e2, e3, e4, e6, e6', e7⟩ inh S'
    refine gq ?_; intro QL hQL
    subst e1
    have hi : i < 5 := by
      have := List.getElem?_eq_some_iff.mp hv
      simpa using this.1
    rw [List.getElem?_map, List.getElem?_range hi] at hv
    cases hv
    have hrow : rows[i]? = some (rows.getD i []) := row_at (h5.symm ▸ hi)
    have hzi := hz _ (List.mem_of_getElem? hrow)
    obtain ⟨rs, r, q1, q2, q3, q4⟩ := (hr.ext G'.ext).at hrow
    have hkl := bldN_ks hz i
    refine q_cons ?_
    walk_at "w"
    refine r_methS ?_ (by with_unfolding_all rfl)
    walk_at "w"
    refine a_bound (by assumption) cls (by assumption) G'.hx G'.hd rfl (me_add _ _) (ty104 _ _) (hd154 _ _) (sg104 _ _) (tk104 _ _) (by decide) ?_; intro q s5 hq S5
    refine q_callMS (g := 104) (self := .ref D'.x) (fi104 _ _) ?_
    walk_at "w"
    refine items_star ?_
    walk_at "w"
    have nq : ∀ {b o}, H' b = some o → b ≠ q := fun e => by first | exact new_ne hq e | exact ne_of_at e hq rfl
    refine sub_list (i := (i : Int)) (by assumption) (by assumption) (by assumption) (AH.set_at q1 (nq q1)) (Int.natCast_nonneg _) (v := .ref r) q2 (ar_in hi (Nat.le_refl _) (by decide)) ?_; intro rv5 h5
    refine star_list (by assumption) h5 (AH.set_at q3 (nq q3)) (ar_map hzi (by decide)) ?_; intro vs s6 hvs S6
    walk_at "w"
    have hqq := S6.rawAt (q := q) (AH.set_self ..)
    refine ⟨⟨hqq, S6.k⟩, ?_⟩
    refine wpAny_call (method_call hqq ?_)
    have G6 := G'.more ((Ext.refl H').put hq (.raw (methodObj (Value.ref 104) (Value.ref D'.x))))
    refine c104 (p := (i : Int)) (ps := rows.getD i []) S6 hb hR G6 e6 (by assumption) (by simpa using hvs) ?_ ?_ ?_
    · rw [e2]; exact Nat.le_trans (Nat.add_le_add (Nat.le_trans hkl (Nat.mul_le_mul_left _ (Nat.le_of_lt hi))) hzi) (by decide)
    · intro k; rw [e4]; exact Nat.le_trans (Nat.add_le_add (Nat.le_trans (bldN_su hz k i) (Nat.mul_le_mul_left _ (Nat.le_of_lt hi))) hzi) (by decide)
    intro D7 H7 s7 G7 f1 f2 f3 f4 f5 f6 S7
    walk_at "w"
    refine ⟨_, _, Sf.drop S7 rfl, rfl, D7, G7.s, G7.x, ?_, ?_, ?_, f4, f5.trans e6', f6.trans e7⟩
    · rw [f1, e2]; rfl
    · rw [f2, e3]; rfl
    · rw [f3, e4]; rfl
  · rintro F' H' s' ⟨rfl, D', G', e1, e2, e3, e4, e5, e6, e7⟩ S'
    subst e1
    have l5 : (rangeL 5).length = 5 := rfl
    rw [l5] at e2 e3 e4
    refine q_next (q_cons ?_)
    refine wpAny_Try_except ?_
    walk_at "w"
    refine a_meth (by assumption) cls (by assumption) G'.hx G'.hd rfl (me_prepare _ _) (ty109 _ _) ?_
    refine q_callK0 (by assumption) (kf109 _ _) ?_
    have hk5 := bldN_ks hz 5
    refine sp109 (by assumption) hb hR G' rfl e5 hA' (OutF.deep (by assumption) of hf) (by rw [e2, e4]; exact hsu) (by rw [e2]; exact Nat.le_trans hk5 (by decide)) ?_ ?_
    · intro D7 H7 r fin s7 G7 f1 f2 f3 f4 f5 f6 hcl hfin S7
      rw [← G7.x] at S7
      walk_at "w"
      refine q_tuple (B := s.heap) (W := dom H) ?_
      walk_at "w"
      refine ⟨_, _, [.ref D7.x, .bool false], by assumption, .two (by assumption) (by assumption), by show 2 ≤ 1000; decide, fun T s8 hT S8 => ?_⟩
      walk_at "w"
      have e8 : Ext H7 (H7.set T (.tup [.ref D7.x, .bool false])) := (Ext.refl H7).put hT _
      refine ⟨_, _, S8, fun S9 => k D7 _ T r false _ (G7.s.more e8) (G7.s.ext.none hT) (fun z => G7.s.ownS z hT) (AH.set_self ..) (f1.trans e2) (f2.trans e3) (f3.trans e4) (f4.trans e6) (f5.trans e7) (by rw [f6, f1, f2]) (fun _ => ⟨fin, f3 ▸ hcl, f1 ▸ hfin⟩) (fun z => nomatch z) S9⟩
    · intro D7 H7 r v e T s7 G7 f1 f2 f3 f4 f5 f6 hv hrc ae aT ht S7
      rw [← G7.x] at S7
      refine catch_own S7 (ex72 _ _) hA' hf of ae aT ht (fun A' s' Q' E' S' q => r_glob S' (Ev.kin (by assumption) _ _ (by rfl) (by decide)) (gl_own rfl) q rfl) (fun A' s8 E8 S8 => ?_)
      walk_at "w"
      refine r_store (v := .bool true) Ge (by assumption) rfl rfl ?_; intro s9 S9
      walk_at "w"
      refine q_tuple (B := s.heap) (W := dom H) ?_
      walk_at "w"
      refine ⟨_, _, [.ref D7.x, .bool true], by assumption, .two (by assumption) (by assumption), by show 2 ≤ 1000; decide, fun T s8 hT S8 => ?_⟩
      walk_at "w"
      have e8 : Ext H7 (H7.set T (.tup [.ref D7.x, .bool true])) := (Ext.refl H7).put hT _
      refine ⟨_, _, S8, fun S9 => k D7 _ T r true _ (G7.s.more e8) (G7.s.ext.none hT) (fun z => G7.s.ownS z hT) (AH.set_self ..) (f1.trans e2) (f2.trans e3) (f3.trans e4) (f4.trans e6) (f5.trans e7) (by rw [f6, f1, f2]) (fun z => nomatch z) (fun _ => ⟨v, f1 ▸ hv, f3 ▸ hrc⟩) S9⟩
end
section -- Y17
variable {prog : Program} {w : World} {os : OsState} {ob : Obj} {n0 : Nat} {B : Heap} {W : Addr → Prop} {env : Env} {F : List (Str × V)} {H : AH} {s : Shared} {A : Around} {E : Value → Shared → Prop} {r1 r2 : Value}
theorem Stp.loc {H0 H H' : AH} {D D' : SD} (h : Stp H0 D H D' H') {b : Addr} {l l' : List V} (hb : H' b = some (.list l)) (hn : ¬ own D' b) (h0 : H0 b = none) (hH : H b = none ∨ own D b) : Stp H0 D H D' (H'.set b (.list l')) := by
  have n1 : ∀ {c o}, H' c = some o → (∀ l, o ≠ .list l) → c ≠ b := fun e q z => by rw [z, hb] at e; cases e; exact q _ rfl
  refine ⟨⟨?_, ?_, ?_, ?_, h.s.nd, ?_, ?_, ?_, h.s.is, ?_, h.s.f0, h.s.fk, h.s.df⟩, ?_, h.o, h.x⟩
  · intro c o e; exact AH.set_at (h.s.ext c o e) (by first | exact new_ne h0 e | exact ne_of_new e h0 | exact ne_of_at e h0 rfl)
  · exact AH.set_at (h.s.hx) (n1 h.s.hx (by simp))
  · exact AH.set_at (h.s.hd) (n1 h.s.hd (by simp))
  · obtain ⟨ep, e⟩ := h.s.hm; exact ⟨ep, by exact AH.set_at (e) (n1 e (by simp))⟩
  · intro k hk; exact AH.set_at (h.s.ha k hk) (n1 (h.s.ha k hk) (by simp))
  · intro k hk; exact AH.set_at (h.s.he k hk) (n1 (h.s.he k hk) (by simp))
  · intro k hk; exact AH.set_at (h.s.hs k hk) (fun z => hn (.inr (.inr (.inr ⟨k, hk, .inr z.symm⟩))))
  · intro r l e
    obtain ⟨a1, a2, a3⟩ := h.s.rd r l e
    exact ⟨by exact AH.set_at (a1) (fun z => hn (.inr (.inr (.inl ⟨r, l, e, z.symm⟩)))), a2, a3⟩
  · intro c o e q
    rw [AH.set_ne _ _ (fun z => by
      rcases hH with y | y
      · rw [z, y] at e; cases e
      · exact q (z ▸ y))]
    exact h.k c o e q
theorem Stp.old {H0 H H' : AH} {D D' : SD} (h : Stp H0 D H D' H') {b : Addr} (hb : H' b = none) : H b = none ∨ own D b := by
  by_cases q : own D b
  · exact .inr q
  · left
    cases e : H b with
    | none => rfl
    | some o => rw [h.k b o e q] at hb; cases hb
theorem Stp.nown {H0 H H' : AH} {D D' : SD} (h : Stp H0 D H D' H') {b : Addr} {o : O} (hb : H b = some o) (hn : ¬ own D b) : ¬ own D' b := fun z => by
  rcases h.o b z with y | y
  · exact hn y
  · rw [hb] at y; cases y
theorem Stp.new {H0 H H' : AH} {D D' : SD} (h : Stp H0 D H D' H') {b : Addr} (hb : H' b = none) (o : O) : Stp H0 D H D' (H'.set b o) :=
  h.trans (Stp.more h.s ((Ext.refl H').put hb o))
theorem Srt.nowN {H0 H : AH} {D : SD} (G : Srt H0 H D) {b : Addr} (hb : H b = none) : ¬ own D b := fun z => G.ownS z hb
noncomputable def PickOk (F : List (Str × V)) : List (Str × V) → Prop
  | [] => True
  | p :: l => F.lookup p.1 = some p.2 ∧ PickOk F l
theorem PickOk.all {F : List (Str × V)} : ∀ {l : List (Str × V)}, PickOk F l → ∀ p ∈ l, F.lookup p.1 = some p.2
  | [], _, p, hp => nomatch hp
  | q :: l, h, p, hp => by
    rcases List.mem_cons.mp hp with rfl | hp
    · exact h.1
    · exact h.2.all p hp
theorem Sf.pick {C : Cx} (S : Sf C B W env F H s) {F' : List (Str × V)} (h : PickOk F F') : Sf C B W env F' H s :=
  S.less fun x v e => h.all _ (mem_of_lookup e)
theorem iL_erase : ∀ (l : List Int) (i : Nat), (iL l).eraseIdx i = iL (l.eraseIdx i)
  | [], i => by simp
  | x :: l, 0 => by simp
  | x :: l, i + 1 => by
    have := iL_erase l i
    simpa using this
inductive J243 (H0 : AH) (D : SD) (H : AH) (r Oa L : Addr) (I : (Int → Int) → List Int → List Int → Prop) (mm : Nat) (F' : List (Str × V)) (H' : AH) : Prop
  | mk (np : Int → Int) (wl o : List Int) (xx : Int) (D' : SD) (h1 : F' = ([("order", .ref Oa), ("waiting", .ref L), ("sorter", .ref D.x), ("x", .int xx)] : List (Str × V))) (h2 : I np wl o) (h3 : mm = D.ks.length - o.length) (h4 : H' Oa = some (.list (iL o))) (h5 : H' L = some (.list (iL wl))) (h6 : ¬ own D' Oa) (h7 : ¬ own D' L)
    (h8 : Stp H0 D H D' H') (h9 : D'.ks = D.ks) (h10 : D'.np = np) (h11 : D'.su = D.su) (h12 : D'.rd = some (r, []))
set_option maxHeartbeats 4000000 in
theorem sp243 {m : Nat} (S : Sf (CC prog w os ob n0) B W env F H s) (hb : BOk ob) (R : Rm (m + 4) A) {H0 : AH} {D : SD} (G : Srt H0 H D) {r : Addr} {l0 : List Int} (hrd : D.rd = some (r, l0)) {x : Int} (hx : V.R (.int x) r1)
    (I : (Int → Int) → List Int → List Int → Prop) (h0 : I (setN (-1) D.np l0) l0 [])
    (hI : ∀ np w o, I np w o → (∀ p ∈ w, p ∈ D.ks ∧ np p = -1) ∧ w.length + o.length ≤ D.ks.length)
    (hstep : ∀ np w o i p, I np w o → w[i]? = some p → I (setN (-1) (doneN D.su (np, []) p).1 (doneN D.su (np, []) p).2) (w.eraseIdx i ++ (doneN D.su (np, []) p).2) (o ++ [p]))
    (hsu : ∀ k ∈ D.ks, ∀ j ∈ D.su k, j ∈ D.ks) (hz : D.ks.length ≤ 200) (hsz : ∀ k ∈ D.ks, (D.su k).length ≤ 200) {Q : Value → Shared → Prop}
    (k : ∀ D' H' O o np s', Stp H0 D H D' H' → H O = none → ¬ own D' O → H' O = some (.list (iL o)) → I np [] o → Sf (CC prog w os ob n0) B W env F H' s' → Q (.ref O) s') :
    wpAny (model prog w) A (call (.ref 243) [.ref D.x, r1]) Q E s := by
  refine r_call S R (fn243 w.params ob) (vals := [.ref D.x, r1]) (binds := [("sorter", .ref D.x), ("x", r1)]) (F' := [("sorter", .ref D.x), ("x", .int x)]) (by kernel_rfl) (.two ⟨rfl, rfl⟩ ⟨rfl, hx⟩) (of_decide_eq_true (by kernel_rfl)) (by kernel_rfl) (ok243 _) fun env' s1 Ge S1 => ?_
  refine gq ?_; intro QF hQF
  have hR := R.deeper env'
  obtain ⟨cd, cls, hdict⟩ := cls154 w.params ob
  obtain ⟨a0, b0⟩ := hI _ _ _ h0
  refine q_cons ?_
  refine r_asg2 Ge S1 hR.handled rfl rfl ?_
  walk_at "w"
  refine q_list (q_sp0 ⟨_, _, [], by assumption, .nil, by decide, fun Oa s3 hO S3 => ?_⟩)
  have G3 := (Stp.refl G).new hO (.list [])
  walk_at "w"
  refine PyProof.Rows.callWith_type1 ?_
  walk_at "w"
  refine a_meth (by assumption) cls (by assumption) G3.s.hx G3.s.hd rfl (me_get_ready _ _) (ty116 _ _) ?_
  refine q_callK0 (by assumption) (kf116 _ _) ?_
  refine sp116 (by assumption) hb hR G3.s rfl hrd (fun k hk => (a0 k hk).1) (le_a2 b0 hz (by decide)) ?_
  intro D4 H4 T4 s4 G4 hT4 nT4 qT4 e1 e2 e3 e4 e5 e6 S4
  walk_at "w"
  refine mm_listOf S4 rfl (.inr qT4) (ar_map (le_a2 b0 hz (Nat.le_refl _)) (by decide)) ?_; intro L s5 hL S5
  have G5 := (G3.trans G4).new hL (.list (iL l0))
  have x5 : D4.x = D.x := G4.x
  have nOL : Oa ≠ L := fun z => by
    have := G4.k Oa (.list []) (AH.set_self ..) (G.nowN hO)
    rw [z, hL] at this; cases this
  walk_at "w"
  refine ⟨_, _, .ref Oa, .ref L, by assumption, .two rfl rfl, fun s6 S6 => ?_⟩
  have hH0L : H0 L = none := (G3.trans G4).s.ext.none hL
  have hO4 := G4.k Oa (.list []) (AH.set_self ..) (G.nowN hO)
  refine q_next (q_cons ?_)
  refine r_while (J243 H0 D H r Oa L I) S6 ⟨_, l0, [], x, D4, rfl, h0, rfl, ?_, AH.set_self .., ?_, ?_, ?_, e1, e2, e3, e4⟩ ?_
  · exact AH.set_at (hO4) nOL
  · exact G4.nown (AH.set_self ..) (G.nowN hO)
  · exact G4.s.nowN hL
  · exact G5
  rintro mm F7 H7 s7 E7 ⟨np, wl, o, xx, D7, rfl, hi, rfl, hO7, hL7, nO7, nL7, G7, f1, f2, f3, f4⟩ S7
  refine gq ?_; intro QW hQW
  have oL := (G3.trans G4).old hL
  obtain ⟨a7, b7⟩ := hI _ _ _ hi
  have x7 : D7.x = D.x := G7.x
  walk_at "w"
  refine q_list (q_sp0 ⟨_, _, [], by assumption, .nil, by decide, fun N s8 hN S8 => ?_⟩)
  have nN : ∀ {b o}, H7 b = some o → b ≠ N := fun e => by first | exact new_ne hN e | exact ne_of_at e hN rfl
  have G8 := G7.new hN (.list [])
  refine c_neL (l2 := []) hR S8 (by assumption) rfl (AH.set_at hL7 (nN hL7)) (AH.set_self ..) ?_
  walk_at "w"
  cases wl with
  | nil =>
    refine ifQ_ff rfl ?_
    walk_at "w"
    rename_i rvo hrvo
    obtain rfl := hrvo
    exact ⟨_, _, S8, fun S9 => k D7 _ Oa o np _ G8 hO nO7 (AH.set_at hO7 (nN hO7)) hi S9⟩
  | cons w0 wl =>
    refine ifQ_tt (by simp) ?_
    refine gq ?_; intro QB hQB
    refine q_cons ?_
    walk_at "w"
    refine gm_list (by assumption) (by assumption) (AH.set_at hL7 (nN hL7)) PySem.F.slot_list_pop PySem.F.type_list_pop ?_
    refine callWith_method1 ?_
    walk_at "w"
    refine PyProof.Rows.callWith_builtin1 ?_
    walk_at "w"
    refine mm_len (by assumption) (by assumption) (AH.set_at hL7 (nN hL7)) (ar_map (le_a2 b7 hz (Nat.le_refl _)) (by decide)) ?_; intro v9 s9 S9 h9
    walk_at "w"
    have hpos : (0 : Int) < ((iL (w0 :: wl)).length : Nat) := Int.natCast_pos.mpr (Nat.succ_pos _)
    refine b_mod (by assumption) (by assumption) h9 (Int.ne_of_gt hpos) ?_; intro v10 s10 S10 h10
    walk_at "w"
    have hm0 := Int.fmod_nonneg_of_pos xx hpos
    have hm1 := Int.fmod_lt_of_pos xx hpos
    obtain ⟨ix, hix⟩ : ∃ n : Nat, xx.fmod ((iL (w0 :: wl)).length : Nat) = n := ⟨(xx.fmod ((iL (w0 :: wl)).length : Nat)).toNat, (Int.toNat_of_nonneg hm0).symm⟩
    rw [hix] at h10 hm0 hm1
    have hlt : ix < (w0 :: wl).length := by rw [List.length_map] at hm1; exact Int.ofNat_lt.mp hm1
    obtain ⟨p, hp⟩ : ∃ p, (w0 :: wl)[ix]? = some p := ⟨_, List.getElem?_eq_getElem hlt⟩
    have hpw := List.mem_of_getElem? hp
    obtain ⟨pk, pn⟩ := a7 p hpw
    refine m_popAt (v := .int p) S10 (AH.set_at hL7 (nN hL7)) (ar_map (le_a2 b7 hz (Nat.le_refl _)) (by decide)) h10 (Int.natCast_nonneg _) (by rw [Int.toNat_natCast, List.getElem?_map, hp]; rfl) ?_; intro v11 s11 S11 h11
    rw [Int.toNat_natCast, iL_erase] at S11
    have G11 := G8.loc (l' := iL ((w0 :: wl).eraseIdx ix)) (AH.set_at hL7 (nN hL7)) nL7 hH0L oL
    refine r_store (v := .int p) Ge S11 rfl h11 ?_; intro s12 S12
    refine letS S12 ?_; intro _ S12
    walk_at "w"
    have xe : V.ref D.x = V.ref D7.x := by rw [x7]
    refine a_meth (by assumption) cls (by assumption) (x7 ▸ G11.s.hx) G11.s.hd rfl (me_done _ _) (ty137 _ _) ?_
    refine q_callK (by assumption) (kf137 _ _) ?_
    walk_at "w"
    refine ⟨Sf.k (by assumption), ?_⟩
    have hd1 := hsz p pk
    have st := hstep np (w0 :: wl) o ix p hi hp
    obtain ⟨a13, b13⟩ := hI _ _ _ st
    refine sp137 (l := []) (ns := [p]) (by assumption) hb hR G11.s x7 f4 (.one (by assumption)) (by intro k hk; rw [List.mem_singleton] at hk; rw [hk, f1]; exact pk) ?_ ?_ ?_ (by simp) ?_
    · intro k hk j hj; rw [List.mem_singleton] at hk; rw [f1]; rw [hk, f3] at hj; exact hsu p pk j hj
    · intro i k hk
      cases i with
      | zero => simp at hk; subst hk; show D7.np p = -1; rw [f2]; exact pn
      | succ i => simp at hk
    · rw [f3]; exact Nat.le_trans (Nat.le_of_eq (Nat.zero_add _)) (Nat.le_trans hd1 (by decide))
    intro D13 H13 s13 G13 e1' e2' e3' e4' e5' e6' S13
    have nOL' : Oa ≠ L := nOL
    have q13O := G13.k Oa _ (by exact AH.set_at (AH.set_at hO7 (nN hO7)) nOL) nO7
    have n13O := G13.nown (by exact AH.set_at (AH.set_at hO7 (nN hO7)) nOL) nO7
    have q13L := G13.k L _ (AH.set_self ..) nL7
    have n13L := G13.nown (AH.set_self ..) nL7
    have G13' := G11.trans G13
    walk_at "w"
    refine gm_list (by assumption) (by assumption) q13O PySem.F.slot_list_append PySem.F.type_list_append ?_
    refine callWith_method1 ?_
    walk_at "w"
    refine m_append (by assumption) q13O (ar_map (le_b2 b7 hz (Nat.le_refl _)) (by decide)) (by assumption) ?_; intro s14 S14
    have G14 := G13'.loc (l' := iL (o ++ [p])) q13O n13O (G.ext.none hO) (.inl hO)
    rw [iL_snoc] at S14
    walk_at "w"
    have z1 : [p].foldl (doneN D7.su) (D7.np, []) = doneN D.su (np, []) p := by rw [f2, f3]; rfl
    rw [z1] at e2' e4'
    generalize hh : doneN D.su (np, []) p = dn at e2' e4' st a13 b13
    obtain ⟨np1, rl⟩ := dn
    dsimp only at e2' e4' st a13 b13
    rw [List.length_append] at b13
    refine PyProof.Rows.callWith_type1 ?_
    walk_at "w"
    have x13 : D13.x = D.x := G13'.x
    refine a_meth (by assumption) cls (by assumption) (x13 ▸ G14.s.hx) G14.s.hd rfl (me_get_ready _ _) (ty116 _ _) ?_
    refine q_callK0 (by assumption) (kf116 _ _) ?_
    refine sp116 (by assumption) hb hR G14.s x13 e4' (fun k hk => by rw [e1', f1]; exact (a13 k (List.mem_append_right _ hk)).1) (le_b3 b13 hz (by decide)) ?_
    intro D15 H15 T15 s15 G15 hT15 nT15 qT15 e1'' e2'' e3'' e4'' e5'' e6'' S15
    walk_at "w"
    refine mm_listOf S15 rfl (.inr qT15) (ar_map (le_b3 b13 hz (Nat.le_refl _)) (by decide)) ?_; intro N2 s16 hN2 S16
    walk_at "w"
    have nLO : L ≠ Oa := Ne.symm nOL
    have q15L := G15.k L _ (by exact AH.set_at (q13L) nLO) n13L
    have n15L := G15.nown (by exact AH.set_at (q13L) nLO) n13L
    have q15O := G15.k Oa _ (AH.set_self ..) n13O
    have n15O := G15.nown (AH.set_self ..) n13O
    have nN2 : ∀ {b o}, H15 b = some o → b ≠ N2 := fun e => by first | exact new_ne hN2 e | exact ne_of_at e hN2 rfl
    have G16 := (G14.trans G15).new hN2 (.list (iL rl))
    refine b_iaddL S16 (by assumption) rfl (AH.set_at q15L (nN2 q15L)) (AH.set_self ..) (by rw [List.length_map, List.length_map]; exact le_a2 b13 hz (by decide)) ?_; intro s17 S17
    have G17 := G16.loc (l' := iL ((w0 :: wl).eraseIdx ix ++ rl)) (AH.set_at q15L (nN2 q15L)) n15L hH0L oL
    rw [iL_app] at S17
    refine r_store (v := .ref L) Ge S17 rfl rfl ?_; intro s18 S18
    refine letS S18 ?_; intro _ S18
    walk_at "w"
    refine b_ifdiv (by assumption) (by assumption) (by assumption) (by decide) (by decide) ?_; intro v19 s19 S19 h19
    refine r_store (v := .int (xx.fdiv 2)) Ge S19 rfl h19 ?_; intro s20 S20
    refine letS S20 ?_; intro _ S20
    walk_at "w"
    have hol : o.length < D.ks.length := Nat.lt_of_lt_of_le (Nat.lt_add_of_pos_left (Nat.succ_pos _)) b7
    refine ⟨D.ks.length - (o ++ [p]).length, _, _, by rw [List.length_append]; exact ar_dec hol, S20.pick (F' := [("order", .ref Oa), ("waiting", .ref L), ("sorter", .ref D.x), ("x", .int (xx.fdiv 2))]) ⟨rfl, rfl, rfl, rfl, trivial⟩, _, _, o ++ [p], xx.fdiv 2, D15, rfl, st, rfl, ?_, AH.set_self .., n15O, n15L, G17, e1''.trans (e1'.trans f1), ?_, e3''.trans (e3'.trans f3), e4''⟩
    · exact AH.set_at (AH.set_at q15O (nN2 q15O)) nOL
    · rw [e2'', e2']
end
section -- Y18
variable {prog : Program} {w : World} {os : OsState} {ob : Obj} {n0 : Nat} {B : Heap} {W : Addr → Prop} {env : Env} {F : List (Str × V)} {H : AH} {s : Shared} {A : Around} {E : Value → Shared → Prop} {r1 r2 : Value}
theorem m_sorted {C : Cx} {Q : Value → Shared → Prop} (S : Sf C B W env F H s) {a : Addr} {l : List Int} (h1 : V.R (.ref a) r1) (ha : H a = some (.list (iL l))) (hl : l.length < 64)
    (k : ∀ b l' s', H b = none → l'.Perm l → l'.Pairwise (· ≤ ·) → Sf C B W env F (H.set b (.list (iL l'))) s' → Q (.ref b) s') : wpAny (model C.prog C.w) A (call (.builtin "sorted") [r1]) Q E s := by
  obtain rfl := h1
  obtain ⟨ob, hob, vs, n, rfl, hvs⟩ := S.rel a _ ha
  have hi := iL_are hvs
  refine sorted_ints (vs := vs.toList) ⟨_, hob, rfl, n, by simp⟩ hi (by rw [← hvs.length, List.length_map]; exact hl) fun out ns' a1 a2 a3 => ?_
  obtain ⟨e, he⟩ := sortedAll_at s.heap vs.toList out
  have hn := S.new (a := s.heap.objs.size + 1) (o := .list (iL ns')) (s' := { s with heap := sortedAll s.heap vs.toList out }) (fun _ _ => sortedAll_old) (Nat.le_succ _) he ⟨_, _, rfl, are_iL a1⟩ rfl rfl
  exact k _ ns' _ hn.1 a2 a3 hn.2
theorem filter_not_len (f : Int → Bool) : ∀ l : List Int, (l.filter f).length + (l.filter fun p => !f p).length = l.length
  | [] => rfl
  | x :: l => by
    have := filter_not_len f l
    cases h : f x <;> simp [List.filter_cons, h] <;> omega
theorem sum_bound (f : Int → Nat) : ∀ (l : List Int), (∀ p ∈ l, f p ≤ 20) → (l.map f).sum ≤ 20 * l.length
  | [], _ => by simp
  | x :: l, h => by
    rw [List.map_cons, List.sum_cons, List.length_cons, Nat.mul_succ, Nat.add_comm]
    exact Nat.add_le_add (sum_bound f l fun p hp => h p (List.mem_cons_of_mem _ hp)) (h x List.mem_cons_self)
theorem ar248 {K g d w r l : Nat} (h : g + d + w ≤ K) (hl : r + l = g) (hg : 0 < g) : K - (d + r + (w + l)) < K - (d + w) := by omega
inductive J248 (H0 : AH) (D : SD) (H : AH) (r Da Wa c : Addr) (ch : List Int) (I : (Int → Int) → List Int → List Int → List Int → Prop) (mm : Nat) (F' : List (Str × V)) (H' : AH) : Prop
  | mk (np : Int → Int) (g dn wt : List Int) (D' : SD) (T : Addr) (h1 : F' = ([("done", .ref Da), ("waiting", .ref Wa), ("group", .ref T), ("sorter", .ref D.x), ("chosen", .ref c)] : List (Str × V))) (h2 : I np g dn wt) (h3 : mm = D.ks.length - (dn.length + wt.length)) (h4 : H' Da = some (.list (iL dn))) (h5 : H' Wa = some (.list (iL wt))) (h6 : H' T = some (.tup (iL g))) (h7 : H' c = some (.list (iL ch)))
    (h8 : ¬ own D' Da) (h9 : ¬ own D' Wa) (h10 : ¬ own D' c) (h11 : Stp H0 D H D' H') (h12 : D'.ks = D.ks) (h13 : D'.np = np) (h14 : D'.su = D.su) (h15 : D'.rd = some (r, []))
set_option maxHeartbeats 4000000 in
theorem sp248 {m : Nat} (S : Sf (CC prog w os ob n0) B W env F H s) (hb : BOk ob) (R : Rm (m + 4) A) {H0 : AH} {D : SD} (G : Srt H0 H D) {r : Addr} {l0 : List Int} (hrd : D.rd = some (r, l0)) {c : Addr} {ch : List Int} (hc : H c = some (.list (iL ch))) (nc : ¬ own D c)
    (I : (Int → Int) → List Int → List Int → List Int → Prop) (h0 : I (setN (-1) D.np l0) l0 [] [])
    (hI : ∀ np g dn wt, I np g dn wt → (∀ p ∈ g, p ∈ D.ks ∧ np p = -1) ∧ g.length + dn.length + wt.length ≤ D.ks.length)
    (hstep : ∀ np g dn wt, I np g dn wt → g ≠ [] → ∀ rdy, rdy = g.filter (fun p => decide (p ∈ ch)) → I (setN (-1) (rdy.foldl (doneN D.su) (np, [])).1 (rdy.foldl (doneN D.su) (np, [])).2) (rdy.foldl (doneN D.su) (np, [])).2 (dn ++ rdy) (wt ++ g.filter (fun p => !decide (p ∈ ch))) ∧
      ∀ i k, rdy[i]? = some k → ((rdy.take i).foldl (doneN D.su) (np, [])).1 k = -1)
    (hsu : ∀ k ∈ D.ks, ∀ j ∈ D.su k, j ∈ D.ks) (hz : D.ks.length ≤ 20) (hsz : ∀ k ∈ D.ks, (D.su k).length ≤ 20) {Q : Value → Shared → Prop}
    (k : ∀ D' H' T a b dn' wt' np dn wt s', Stp H0 D H D' H' → H' T = some (.tup [.ref a, .ref b]) → H' a = some (.list (iL dn')) → H' b = some (.list (iL wt')) → dn'.Perm dn → dn'.Pairwise (· ≤ ·) → wt'.Perm wt → wt'.Pairwise (· ≤ ·) → I np [] dn wt → Sf (CC prog w os ob n0) B W env F H' s' → Q (.ref T) s') :
    wpAny (model prog w) A (call (.ref 248) [.ref D.x, .ref c]) Q E s := by
  refine r_call S R (fn248 w.params ob) (vals := [.ref D.x, .ref c]) (binds := [("sorter", .ref D.x), ("chosen", .ref c)]) (F' := [("sorter", .ref D.x), ("chosen", .ref c)]) (by kernel_rfl) (.two ⟨rfl, rfl⟩ ⟨rfl, rfl⟩) (of_decide_eq_true (by kernel_rfl)) (by kernel_rfl) (ok248 _) fun env' s1 Ge S1 => ?_
  refine gq ?_; intro QF hQF
  have hR := R.deeper env'
  obtain ⟨cd, cls, hdict⟩ := cls154 w.params ob
  obtain ⟨a0, b0⟩ := hI _ _ _ _ h0
  refine q_cons ?_
  refine r_asg3 Ge S1 hR.handled rfl rfl rfl ?_
  walk_at "w"
  refine q_list (q_sp0 ⟨_, _, [], by assumption, .nil, by decide, fun Da s3 hDa S3 => ?_⟩)
  walk_at "w"
  refine q_list (q_sp0 ⟨_, _, [], by assumption, .nil, by decide, fun Wa s4 hWa S4 => ?_⟩)
  have nDW : Da ≠ Wa := (fresh_ne hWa).1.symm
  have hWa' : H Wa = none := by rw [AH.set_ne _ _ (Ne.symm nDW)] at hWa; exact hWa
  have G4 := ((Stp.refl G).new hDa (.list [])).new hWa (.list [])
  walk_at "w"
  refine a_meth (by assumption) cls (by assumption) G4.s.hx G4.s.hd rfl (me_get_ready _ _) (ty116 _ _) ?_
  refine q_callK0 (by assumption) (kf116 _ _) ?_
  refine sp116 (by assumption) hb hR G4.s rfl hrd (fun k hk => (a0 k hk).1) (le_a3 b0 hz (by decide)) ?_
  intro D5 H5 T5 s5 G5 hT5 nT5 qT5 e1 e2 e3 e4 e5 e6 S5
  have qD5 := G5.k Da _ (by exact AH.set_at (AH.set_self ..) nDW) (G.nowN hDa)
  have nD5 := G5.nown (by exact AH.set_at (AH.set_self ..) nDW) (G.nowN hDa)
  have qW5 := G5.k Wa _ (AH.set_self ..) (G.nowN hWa')
  have nW5 := G5.nown (AH.set_self ..) (G.nowN hWa')
  have nc1 : c ≠ Da := by first | exact new_ne hDa hc | exact ne_of_new hc hDa | exact ne_of_at hc hDa rfl
  have nc2 : c ≠ Wa := by first | exact new_ne hWa' hc | exact ne_of_new hc hWa' | exact ne_of_at hc hWa' rfl
  have qc4 : ((H.set Da (.list [])).set Wa (.list [])) c = some (.list (iL ch)) := by exact AH.set_at (AH.set_at (hc) nc1) nc2
  have qc5 := G5.k c _ qc4 nc
  have nc5 := G5.nown qc4 nc
  have G5' := G4.trans G5
  walk_at "w"
  refine ⟨_, _, .ref Da, .ref Wa, .ref T5, by assumption, .cons rfl (.two rfl rfl), fun s6 S6 => ?_⟩
  refine q_next (q_cons ?_)
  refine r_while (J248 H0 D H r Da Wa c ch I) S6 ⟨_, l0, [], [], D5, T5, rfl, h0, rfl, qD5, qW5, qT5, qc5, nD5, nW5, nc5, G5', e1, e2, e3, e4⟩ ?_
  rintro mm F7 H7 s7 E7 ⟨np, g, dn, wt, D7, T7, rfl, hi, rfl, hD7, hW7, hT7, hc7, nD7, nW7, nc7, G7, f1, f2, f3, f4⟩ S7
  refine gq ?_; intro QW hQW
  obtain ⟨a7, b7⟩ := hI _ _ _ _ hi
  have x7 : D7.x = D.x := G7.x
  walk_at "w"
  refine PyProof.Rows.callWith_builtin1 ?_
  walk_at "w"
  refine mm_lenT (by assumption) (by assumption) hT7 (ar_map (le_a3 b7 hz (Nat.le_refl _)) (by decide)) ?_; intro v8 s8 S8 h8
  walk_at "w"
  refine c_gt h8 (by assumption) ?_
  walk_at "w"
  by_cases hg : g = []
  · refine ifQ_ff (by rw [hg]; rfl) ?_
    subst hg
    walk_at "w"
    refine q_tuple (B := s.heap) (W := dom H) ?_
    walk_at "w"
    refine PyProof.Rows.callWith_builtin1 ?_
    walk_at "w"
    refine m_sorted (by assumption) (by assumption) hD7 (Nat.lt_of_le_of_lt (le_b3 b7 hz (Nat.le_refl _)) (by decide)) ?_; intro a9 dn' s9 ha9 pd sd S9
    walk_at "w"
    refine PyProof.Rows.callWith_builtin1 ?_
    walk_at "w"
    have n9 : ∀ {b o}, H7 b = some o → b ≠ a9 := fun e => by first | exact new_ne ha9 e | exact ne_of_at e ha9 rfl
    refine m_sorted (by assumption) (by assumption) (AH.set_at hW7 (n9 hW7)) (Nat.lt_of_le_of_lt (le_c3 b7 hz (Nat.le_refl _)) (by decide)) ?_; intro b9 wt' s10 hb9 pw sw S10
    walk_at "w"
    have n10 : ∀ {b o}, (H7.set a9 (.list (iL dn'))) b = some o → b ≠ b9 := fun e => by first | exact new_ne hb9 e | exact ne_of_at e hb9 rfl
    have qa := AH.set_at (o' := .list (iL wt')) (AH.set_self H7 a9 (.list (iL dn'))) (n10 (AH.set_self ..))
    have G10 := (G7.new ha9 (.list (iL dn'))).new hb9 (.list (iL wt'))
    refine ⟨_, _, [.ref a9, .ref b9], by assumption, .two rfl rfl, by show 2 ≤ 1000; decide, fun T s11 hT S11 => ?_⟩
    walk_at "w"
    have n11 : ∀ {b o}, ((H7.set a9 (.list (iL dn'))).set b9 (.list (iL wt'))) b = some o → b ≠ T := fun e => by first | exact new_ne hT e | exact ne_of_at e hT rfl
    exact ⟨_, _, S11, fun S12 => k D7 _ T a9 b9 dn' wt' np dn wt _ (G10.new hT _) (AH.set_self ..) (AH.set_at qa (n11 qa)) (AH.set_at (AH.set_self ..) (n11 (AH.set_self ..))) pd sd pw sw hi S12⟩
  · refine ifQ_tt (by cases g with | nil => exact absurd rfl hg | cons => simp) ?_
    refine gq ?_; intro QB hQB
    refine q_cons ?_
    refine r_assign_comp Ge rfl (by assumption) rfl rfl (fun cl hcl => ?_)
    walk_at "w"
    refine ⟨_, _, by assumption, fun RR K hK kK => ?_⟩
    refine compP (B := s.heap) (W := dom H) g V.int (fun p => [(("place" : Str), V.int p)]) (fun p => decide (p ∈ ch)) V.int Ge rfl hcl (by assumption) (its_tup (by assumption) hR.handled (by assumption) hT7) hK (le_a3 b7 hz (by decide)) (fun H' e => e _ _ hT7) ?_ ?_ ?_ ?_
    · intro cenv q H' ec hq e
      exact asg1 ec rfl rfl
    · intro cenv q H' B' W' s' E' ec hq e S'
      refine tests_one (gq ?_); intro Qt hQt
      walk_at "w"
      refine c_in S' (by assumption) (by assumption) (e _ _ hc7) ?_
      walk_at "w"
      exact ⟨rfl, _, S', Ext.refl _⟩
    · intro cenv q H' B' W' s' E' ec hk hp e S'
      walk_at "w"
      exact ⟨_, S', Ext.refl _, by assumption⟩
    · intro Ra H9 hRa e9 hl9
      refine kK Ra H9 fun s10 S10 => ?_
      have G9 := G7.trans (Stp.more G7.s e9)
      have hc9 := e9 _ _ hc7
      have nR9 := G7.s.nowN hRa
      walk_at "w"
      refine r_eval_comp Ge (by assumption) rfl (fun cl hcl => ?_)
      walk_at "w"
      refine ⟨_, _, by assumption, fun RR K hK kK => ?_⟩
      refine compP (B := s.heap) (W := dom H) g V.int (fun p => [(("place" : Str), V.int p)]) (fun p => !decide (p ∈ ch)) V.int Ge rfl hcl (by assumption) (its_tup (by assumption) hR.handled (by assumption) (e9 _ _ hT7)) hK (le_a3 b7 hz (by decide)) (fun H' e => e _ _ (e9 _ _ hT7)) ?_ ?_ ?_ ?_
      · intro cenv q H' ec hq e
        exact asg1 ec rfl rfl
      · intro cenv q H' B' W' s' E' ec hq e S'
        refine tests_one (gq ?_); intro Qt hQt
        walk_at "w"
        refine c_notin S' (by assumption) (by assumption) (e _ _ hc9) ?_
        walk_at "w"
        exact ⟨rfl, _, S', Ext.refl _⟩
      · intro cenv q H' B' W' s' E' ec hk hp e S'
        walk_at "w"
        exact ⟨_, S', Ext.refl _, by assumption⟩
      · intro N11 H11 hN11 e11 hl11
        refine kK N11 H11 fun s11 S11 => ?_
        have G11 := G9.trans (Stp.more G9.s e11)
        have hW11 := e11 _ _ (e9 _ _ hW7)
        have fl1 := List.length_filter_le (fun p => !decide (p ∈ ch)) g
        have fl2 := List.length_filter_le (fun p => decide (p ∈ ch)) g
        refine b_iaddL S11 (by assumption) rfl hW11 hl11 (by rw [List.length_map, List.length_map]; exact Nat.le_trans (Nat.add_le_add (le_c3 b7 hz (Nat.le_refl _)) (Nat.le_trans fl1 (le_a3 b7 hz (Nat.le_refl _)))) (by decide)) ?_; intro s12 S12
        generalize hrdy : g.filter (fun p => decide (p ∈ ch)) = rdy at hl9 fl2
        generalize hwl : g.filter (fun p => !decide (p ∈ ch)) = wl at hl11 fl1 S12
        have st := hstep np g dn wt hi hg rdy hrdy.symm
        rw [hwl] at st
        have hlen : rdy.length + wl.length = g.length := by rw [← hrdy, ← hwl]; exact filter_not_len _ g
        have G12 := G11.loc (l' := iL (wt ++ wl)) hW11 nW7 (G.ext.none hWa') (.inl hWa')
        rw [iL_app] at S12
        refine r_store (v := .ref Wa) Ge S12 rfl rfl ?_; intro s13 S13
        refine letS S13 ?_; intro _ S13
        walk_at "w"
        obtain ⟨sti, sto⟩ := st
        obtain ⟨a13, b13⟩ := hI _ _ _ _ sti
        have hdlen : rdy.length ≤ 20 := Nat.le_trans (Nat.le_trans (Nat.le_add_right _ _) (Nat.le_of_eq hlen)) (le_a3 b7 hz (Nat.le_refl _))
        have hrk : ∀ p ∈ rdy, p ∈ g := fun p hp => by rw [← hrdy] at hp; exact (List.mem_filter.mp hp).1
        refine r_methS ?_ (by with_unfolding_all rfl)
        walk_at "w"
        refine a_bound (by assumption) cls (by assumption) (x7 ▸ G12.s.hx) G12.s.hd rfl (me_done _ _) (ty137 _ _) (hd154 _ _) (sg137 _ _) (tk137 _ _) (by decide) ?_; intro q s14 hq S14
        refine q_callM1 (g := 137) (self := .ref D.x) (fi137 _ _) ?_
        walk_at "w"
        have nWR : Ra ≠ Wa := by first | exact new_ne hW7 hRa | exact ne_of_new hRa hW7 | exact ne_of_at hRa hW7 rfl
        have nDR : Ra ≠ Da := by first | exact new_ne hD7 hRa | exact ne_of_new hRa hD7 | exact ne_of_at hRa hD7 rfl
        have hR11 := e11 _ _ hl9
        have qR12 : (H11.set Wa (.list (iL (wt ++ wl)))) Ra = some (.list (iL rdy)) := by exact AH.set_at (hR11) nWR
        have nq : ∀ {b o}, (H11.set Wa (.list (iL (wt ++ wl)))) b = some o → b ≠ q := fun e => by first | exact new_ne hq e | exact ne_of_at e hq rfl
        have G14 := G12.new hq (.raw (methodObj (Value.ref 137) (Value.ref D.x)))
        have qR14 := AH.set_at (o' := .raw (methodObj (Value.ref 137) (Value.ref D.x))) qR12 (nq qR12)
        refine star_list (by assumption) (by assumption) qR14 (ar_map hdlen (by decide)) ?_; intro vs s15 hvs S15
        have hqq := S15.rawAt (q := q) (AH.set_self ..)
        refine ⟨⟨hqq, S15.k⟩, ?_⟩
        refine wpAny_call (method_call hqq ?_)
        have hsum : (rdy.map fun k => (D.su k).length).sum ≤ 20 * rdy.length := sum_bound _ rdy fun p hp => hsz p (a7 p (hrk p hp)).1
        refine c137 (l := []) (ns := rdy) S15 hb hR G14.s x7 f4 hvs (fun p hp => by rw [f1]; exact (a7 p (hrk p hp)).1) (fun p hp j hj => by rw [f1]; rw [f3] at hj; exact hsu p (a7 p (hrk p hp)).1 j hj) (by rw [f3, f2]; exact sto) (by rw [f3]; exact Nat.le_trans (Nat.le_of_eq (Nat.zero_add _)) (Nat.le_trans hsum (Nat.le_trans (Nat.mul_le_mul_left _ hdlen) (by decide)))) (Nat.le_trans hdlen (by decide)) ?_
        intro D16 H16 s16 G16 e1' e2' e3' e4' e5' e6' S16
        rw [f2, f3] at e2' e4'
        have G16' := G14.trans G16
        have qD12 : (H11.set Wa (.list (iL (wt ++ wl)))) Da = some (.list (iL dn)) := by exact AH.set_at (e11 _ _ (e9 _ _ hD7)) nDW
        have qc12 : (H11.set Wa (.list (iL (wt ++ wl)))) c = some (.list (iL ch)) := by exact AH.set_at (e11 _ _ hc9) nc2
        have keep16 : ∀ {b o}, (H11.set Wa (.list (iL (wt ++ wl)))) b = some o → ¬ own D7 b → H16 b = some o ∧ ¬ own D16 b := fun e n => ⟨G16.k _ _ (AH.set_at e (nq e)) n, G16.nown (AH.set_at e (nq e)) n⟩
        obtain ⟨qD16, nD16⟩ := keep16 qD12 nD7
        obtain ⟨qW16, nW16⟩ := keep16 (AH.set_self ..) nW7
        obtain ⟨qc16, nc16⟩ := keep16 qc12 nc7
        obtain ⟨qR16, nR16⟩ := keep16 qR12 nR9
        walk_at "w"
        refine b_iaddL (by assumption) (by assumption) (by assumption) qD16 qR16 (by rw [List.length_map, List.length_map]; exact Nat.le_trans (Nat.add_le_add (le_b3 b7 hz (Nat.le_refl _)) hdlen) (by decide)) ?_; intro s17 S17
        rw [iL_app] at S17
        have G17 := G16'.loc (l' := iL (dn ++ rdy)) qD16 nD16 (G.ext.none hDa) (.inl hDa)
        refine r_store (v := .ref Da) Ge S17 rfl rfl ?_; intro s18 S18
        refine letS S18 ?_; intro _ S18
        walk_at "w"
        have x16 : D16.x = D.x := G16'.x
        refine a_meth (by assumption) cls (by assumption) (x16 ▸ G17.s.hx) G17.s.hd rfl (me_get_ready _ _) (ty116 _ _) ?_
        refine q_callK0 (by assumption) (kf116 _ _) ?_
        refine sp116 (by assumption) hb hR G17.s x16 e4' (fun k hk => by rw [e1', f1]; exact (a13 k hk).1) (le_a3 b13 hz (by decide)) ?_
        intro D19 H19 T19 s19 G19 hT19 nT19 qT19 g1 g2 g3 g4 g5 g6 S19
        refine r_store (v := .ref T19) Ge S19 rfl rfl ?_; intro s20 S20
        refine letS S20 ?_; intro _ S20
        walk_at "w"
        have keep19 : ∀ {b o}, H16 b = some o → b ≠ Da → ¬ own D16 b → H19 b = some o ∧ ¬ own D19 b := fun e q n => ⟨G19.k _ _ (by rw [AH.set_ne _ _ q]; exact e) n, G19.nown (by exact AH.set_at (e) q) n⟩
        obtain ⟨qW19, nW19⟩ := keep19 qW16 (Ne.symm nDW) nW16
        obtain ⟨qc19, nc19⟩ := keep19 qc16 nc1 nc16
        have qD19 := G19.k Da _ (AH.set_self ..) nD16
        have nD19 := G19.nown (AH.set_self ..) nD16
        have hgl : 0 < g.length := List.length_pos_iff.mpr hg
        refine ⟨D.ks.length - ((dn ++ rdy).length + (wt ++ wl).length), _, _, by rw [List.length_append, List.length_append]; exact ar248 b7 hlen hgl, S20.pick (F' := [("done", .ref Da), ("waiting", .ref Wa), ("group", .ref T19), ("sorter", .ref D.x), ("chosen", .ref c)]) ⟨rfl, rfl, rfl, rfl, rfl, trivial⟩, _, _, dn ++ rdy, wt ++ wl, D19, T19, rfl, sti, rfl, qD19, qW19, qT19, qc19, nD19, nW19, nc19, G17.trans G19, g1.trans (e1'.trans f1), ?_, g3.trans (e3'.trans f3), g4⟩
        rw [g2, e2']
end
section -- Y19
variable {prog : Program} {w : World} {os : OsState} {ob : Obj} {n0 : Nat} {B : Heap} {W : Addr → Prop} {env : Env} {F : List (Str × V)} {H : AH} {s : Shared} {A : Around} {E : Value → Shared → Prop} {r1 r2 : Value}
theorem q_ifB {M : Model} {test : Expr} {body orelse : List Stmt} {pos : Pos} {Q : Flow → Shared → Prop} (c : Bool) (P : Shared → Prop) (h : wpAny M A (isTrue test env (eval test env)) (fun b s' => b = c ∧ P s') E s)
    (h1 : c = true → ∀ s', P s' → wpAny M A (execs body env) Q E s') (h2 : c = false → ∀ s', P s' → wpAny M A (execs orelse env) Q E s') : wpAny M A (exec (.If test body orelse pos) env) Q E s :=
  q_if (wpAny_mono h (fun b s' ⟨e, p⟩ => ⟨fun z => h1 (e ▸ z) s' p, fun z => h2 (e ▸ z) s' p⟩) fun _ _ e => e)
theorem m_sum {C : Cx} {Q : Value → Shared → Prop} (S : Sf C B W env F H s) (hh : A.handled = none) {a : Addr} {l : List Int} (h1 : V.R (.ref a) r1) (ha : H a = some (.list (iL l)))
    (k : Go C B W env F H (.int l.sum) Q) : wpAny (model C.prog C.w) A (call (.builtin "sum") [r1]) Q E s := by
  obtain rfl := h1
  obtain ⟨ob, hob, vs, n, rfl, hvs⟩ := S.rel a _ ha
  have hi := iL_are hvs
  obtain ⟨xs, hx⟩ := hi.allInts.items
  have hvx : vs = intItems xs := by rw [← hx]
  subst hvx
  refine sum_intListG hh ⟨_, hob, rfl, n, rfl⟩ fun h' tk t' hk => ?_
  have hn := hi.numsOf
  rw [nums_intItems] at hn
  rw [preSum_eq, List.take_of_length_le (by simp), hn]
  exact k _ _ (S.keep (s' := { s with heap := h', toks := tk }) hk rfl rfl) ⟨_, rfl⟩
noncomputable def addRow (t : Int) (rows : List (List Int)) (x : Int) : List (List Int) :=
  let f := x.fmod 5
  let g := (x.fdiv 5).fmod 5
  let kp := decide ((x.fdiv 25).fmod 8 = 7)
  let a := if decide (g < f) && !kp then g else f
  let b := if decide (g < f) && !kp then f else g
  if !decide (a = b) || kp then rows.modify ((b * (1 + t.fmod 4) + t.fdiv 4).fmod 5).toNat (· ++ [(a * (1 + t.fmod 4) + t.fdiv 4).fmod 5]) else rows
noncomputable def rowsOf (ns : List Int) : List (List Int) := ns.foldl (addRow ns.sum) [[], [], [], [], []]
noncomputable def RowsN (H : AH) (a : Addr) (rs : List Addr) (rows : List (List Int)) : Prop := H a = some (.list (rs.map V.ref)) ∧ A2 (fun r l => H r = some (.list (iL l))) rs rows ∧ rs.Nodup ∧ a ∉ rs
theorem A2.modify {α β : Type} {R : α → β → Prop} {l : List α} {l' : List β} (h : A2 R l l') (f : β → β) : ∀ i, (∀ a b, l[i]? = some a → l'[i]? = some b → R a b → R a (f b)) → A2 R l (l'.modify i f) := by
  induction h with
  | nil => intro i _; simpa using .nil
  | cons x h ih =>
    intro i hf
    cases i with
    | zero => simpa using .cons (hf _ _ rfl rfl x) h
    | succ i => simpa using .cons x (ih i fun a b e e' => hf a b (by simpa using e) (by simpa using e'))
theorem RowsN.add {H : AH} {a : Addr} {rs : List Addr} {rows : List (List Int)} (h : RowsN H a rs rows) {i : Nat} {r : Addr} {row : List Int} (e : rs[i]? = some r) (e' : rows[i]? = some row) (v : Int) : RowsN (H.set r (.list (iL (row ++ [v])))) a rs (rows.modify i (· ++ [v])) := by
  obtain ⟨h1, h2, h3, h4⟩ := h
  have hr := List.mem_of_getElem? e
  refine ⟨by exact AH.set_at (h1) (fun z => h4 (by rw [z]; exact hr)), ?_, h3, h4⟩
  have key : ∀ {rs rows} {i : Nat}, A2 (fun r l => H r = some (.list (iL l))) rs rows → rs.Nodup → rs[i]? = some r → rows[i]? = some row → A2 (fun r' l => (H.set r (.list (iL (row ++ [v])))) r' = some (.list (iL l))) rs (rows.modify i (· ++ [v])) := by
    intro rs rows i h2
    induction h2 generalizing i with
    | nil => intro _ e; simp at e
    | @cons q l rs rows x h ih =>
      intro hn e e'
      rw [List.nodup_cons] at hn
      cases i with
      | zero =>
        simp at e e'
        subst e; subst e'
        simp only [List.modify_zero_cons]
        refine .cons (AH.set_self ..) ?_
        have : ∀ {rs rows}, A2 (fun r l => H r = some (.list (iL l))) rs rows → q ∉ rs → A2 (fun r' l' => (H.set q (.list (iL (l ++ [v])))) r' = some (.list (iL l'))) rs rows := by
          intro rs rows h
          induction h with
          | nil => intro _; exact .nil
          | cons x _ ih =>
            intro hq
            rw [List.mem_cons, not_or] at hq
            exact .cons (by exact AH.set_at (x) (Ne.symm hq.1)) (ih hq.2)
        exact this h hn.1
      | succ i =>
        simp only [List.modify_succ_cons]
        have e2 : rs[i]? = some r := by simpa using e
        refine .cons ?_ (ih hn.2 e2 (by simpa using e'))
        rw [AH.set_ne _ _ (fun z => hn.1 (by rw [z]; exact List.mem_of_getElem? e2))]
        exact x
  exact key h2 h3 e e'
theorem ext_fresh' {H H' : AH} (e : Ext H H') {b : Addr} (h : H b = none) (o : O) : Ext H (H'.set b o) := fun c x q => by
  exact AH.set_at (e c x q) (by first | exact new_ne h q | exact ne_of_new q h | exact ne_of_at q h rfl)
theorem mem_modify {α : Type} {f : α → α} : ∀ {l : List α} {i : Nat} {x : α}, x ∈ l.modify i f → x ∈ l ∨ ∃ y ∈ l, x = f y
  | [], i, x, h => by simp at h
  | a :: l, 0, x, h => by
    rw [List.modify_zero_cons] at h
    rcases List.mem_cons.mp h with rfl | h
    · exact .inr ⟨a, List.mem_cons_self, rfl⟩
    · exact .inl (List.mem_cons_of_mem _ h)
  | a :: l, i + 1, x, h => by
    rw [List.modify_succ_cons] at h
    rcases List.mem_cons.mp h with rfl | h
    · exact .inl List.mem_cons_self
    · rcases mem_modify h with h | ⟨y, h, e⟩
      · exact .inl (List.mem_cons_of_mem _ h)
      · exact .inr ⟨y, List.mem_cons_of_mem _ h, e⟩
theorem all5 {α : Type} {P : α → Prop} {a b c d e : α} (ha : P a) (hb : P b) (hc : P c) (hd : P d) (he : P e) : ∀ x ∈ [a, b, c, d, e], P x := by
  intro x hx
  cases hx with
  | head => exact ha
  | tail _ hx =>
    cases hx with
    | head => exact hb
    | tail _ hx =>
      cases hx with
      | head => exact hc
      | tail _ hx =>
        cases hx with
        | head => exact hd
        | tail _ hx =>
          cases hx with
          | head => exact he
          | tail _ hx => cases hx
theorem nm5 {x a b c d e : Addr} (ha : x ≠ a) (hb : x ≠ b) (hc : x ≠ c) (hd : x ≠ d) (he : x ≠ e) : x ∉ [a, b, c, d, e] := fun h => all5 (P := fun y => x ≠ y) ha hb hc hd he x h rfl
theorem nd5 {a b c d e : Addr} (h1 : a ≠ b) (h2 : a ≠ c) (h3 : a ≠ d) (h4 : a ≠ e) (h5 : b ≠ c) (h6 : b ≠ d) (h7 : b ≠ e) (h8 : c ≠ d) (h9 : c ≠ e) (h10 : d ≠ e) : [a, b, c, d, e].Nodup := by
  simp [h1, h2, h3, h4, h5, h6, h7, h8, h9, h10]
theorem A2.at2 {α β : Type} {R : α → β → Prop} {l : List α} {l' : List β} (h : A2 R l l') {i : Nat} {a : α} {b : β} (ha : l[i]? = some a) (hb : l'[i]? = some b) : R a b := by
  obtain ⟨b', h1, h2⟩ := h.get ha
  rw [hb] at h1; cases h1; exact h2
set_option maxHeartbeats 4000000 in
theorem sp224 {m : Nat} (S : Sf (CC prog w os ob n0) B W env F H s) (hb : BOk ob) (R : Rm (m + 2) A) {a : Addr} {ns : List Int} (ha : H a = some (.list (iL ns))) (hz : ns.length ≤ 100) {Q : Value → Shared → Prop}
    (k : ∀ b H' s', Ext H H' → H b = none → RowsAt H' b (rowsOf ns) → Sf (CC prog w os ob n0) B W env F H' s' → Q (.ref b) s') :
    wpAny (model prog w) A (call (.ref 224) [.ref a]) Q E s := by
  refine r_call S R (fn224 w.params ob) (vals := [.ref a]) (binds := [("numbers", .ref a)]) (F' := [("numbers", .ref a)]) (by kernel_rfl) (.one ⟨rfl, rfl⟩) (of_decide_eq_true (by kernel_rfl)) (by kernel_rfl) (ok224 _) fun env' s1 Ge S1 => ?_
  refine gq ?_; intro QF hQF
  have hR := R.deeper env'
  refine q_cons ?_
  refine r_asg2 Ge S1 hR.handled rfl rfl ?_
  walk_at "w"
  refine PyProof.Rows.callWith_builtin1 ?_
  walk_at "w"
  refine m_sum (by assumption) hR.handled (by assumption) ha ?_; intro v2 s2 S2 h2
  walk_at "w"
  refine q_list (B := s.heap) (W := dom H) ?_
  walk_at "w"
  refine q_list (q_sp0 ⟨_, _, [], by assumption, .nil, by decide, fun a0 s3 p0 S3 => ?_⟩)
  walk_at "w"
  refine q_list (q_sp0 ⟨_, _, [], by assumption, .nil, by decide, fun a1 s4 p1 S4 => ?_⟩)
  walk_at "w"
  refine q_list (q_sp0 ⟨_, _, [], by assumption, .nil, by decide, fun a2 s5 p2 S5 => ?_⟩)
  walk_at "w"
  refine q_list (q_sp0 ⟨_, _, [], by assumption, .nil, by decide, fun a3 s6 p3 S6 => ?_⟩)
  walk_at "w"
  refine q_list (q_sp0 ⟨_, _, [], by assumption, .nil, by decide, fun a4 s7 p4 S7 => ?_⟩)
  walk_at "w"
  refine ⟨_, _, [.ref a0, .ref a1, .ref a2, .ref a3, .ref a4], by assumption, .cons rfl (.cons rfl (.cons rfl (.two rfl rfl))), by show 5 ≤ 1000; decide, fun b s8 pb S8 => ?_⟩
  obtain ⟨n10, p1'⟩ := fresh_ne p1
  obtain ⟨n21, p2'⟩ := fresh_ne p2
  obtain ⟨n20, p2'⟩ := fresh_ne p2'
  obtain ⟨n32, p3'⟩ := fresh_ne p3
  obtain ⟨n31, p3'⟩ := fresh_ne p3'
  obtain ⟨n30, p3'⟩ := fresh_ne p3'
  obtain ⟨n43, p4'⟩ := fresh_ne p4
  obtain ⟨n42, p4'⟩ := fresh_ne p4'
  obtain ⟨n41, p4'⟩ := fresh_ne p4'
  obtain ⟨n40, p4'⟩ := fresh_ne p4'
  obtain ⟨nb4, pb'⟩ := fresh_ne pb
  obtain ⟨nb3, pb'⟩ := fresh_ne pb'
  obtain ⟨nb2, pb'⟩ := fresh_ne pb'
  obtain ⟨nb1, pb'⟩ := fresh_ne pb'
  obtain ⟨nb0, pb'⟩ := fresh_ne pb'
  have e8 := (((((((Ext.refl H).put p0 (.list [])).trans ((Ext.refl _).put p1 (.list []))).trans ((Ext.refl _).put p2 (.list []))).trans ((Ext.refl _).put p3 (.list []))).trans ((Ext.refl _).put p4 (.list []))).trans ((Ext.refl _).put pb (.list [.ref a0, .ref a1, .ref a2, .ref a3, .ref a4])))
  have hN : RowsN ((((((H.set a0 (.list [])).set a1 (.list [])).set a2 (.list [])).set a3 (.list [])).set a4 (.list [])).set b (.list [.ref a0, .ref a1, .ref a2, .ref a3, .ref a4])) b [a0, a1, a2, a3, a4] [[], [], [], [], []] := by
    refine ⟨AH.set_self .., .cons ?_ (.cons ?_ (.cons ?_ (.two ?_ ?_))), ?_, ?_⟩
    · exact AH.set_at (AH.set_at (AH.set_at (AH.set_at (AH.set_at (AH.set_self ..) (Ne.symm n10)) (Ne.symm n20)) (Ne.symm n30)) (Ne.symm n40)) (Ne.symm nb0)
    · exact AH.set_at (AH.set_at (AH.set_at (AH.set_at (AH.set_self ..) (Ne.symm n21)) (Ne.symm n31)) (Ne.symm n41)) (Ne.symm nb1)
    · exact AH.set_at (AH.set_at (AH.set_at (AH.set_self ..) (Ne.symm n32)) (Ne.symm n42)) (Ne.symm nb2)
    · exact AH.set_at (AH.set_at (AH.set_self ..) (Ne.symm n43)) (Ne.symm nb3)
    · exact AH.set_at (AH.set_self ..) (Ne.symm nb4)
    · exact nd5 (Ne.symm n10) (Ne.symm n20) (Ne.symm n30) (Ne.symm n40) (Ne.symm n21) (Ne.symm n31) (Ne.symm n41) (Ne.symm n32) (Ne.symm n42) (Ne.symm n43)
    · exact nm5 nb0 nb1 nb2 nb3 nb4
  have hH0 : ∀ r ∈ [a0, a1, a2, a3, a4], H r = none := by
    exact all5 p0 p1' p2' p3' p4'
  generalize hrs : [a0, a1, a2, a3, a4] = rs at hN hH0
  generalize ((((((H.set a0 (.list [])).set a1 (.list [])).set a2 (.list [])).set a3 (.list [])).set a4 (.list [])).set b (.list [.ref a0, .ref a1, .ref a2, .ref a3, .ref a4])) = H8 at S8 e8 hN
  have hl5 : rs.length = 5 := by rw [← hrs]; rfl
  walk_at "w"
  refine ⟨_, _, .int ns.sum, .ref b, by assumption, .two (by assumption) rfl, fun s9 S9 => ?_⟩
  refine q_next (q_cons ?_)
  clear S1 S2 S3 S4 S5 S6 S7 S8
  clear n10 n21 n20 n32 n31 n30 n43 n42 n41 n40 nb4 nb3 nb2 nb1 nb0 p0 p1 p2 p3 p4
  refine r_for Ge S9 rfl ?_
  walk_at "w"
  refine ⟨_, _, iL ns, _, by assumption, its_list (by assumption) hR.handled (by assumption) (e8 _ _ ha), fun i F' H' => F' = ([("total", .int ns.sum), ("rows", .ref b), ("numbers", .ref a)] : List (Str × V)) ∧ Ext H H' ∧ RowsN H' b rs ((ns.take i).foldl (addRow ns.sum) [[], [], [], [], []]) ∧ ∀ r ∈ (ns.take i).foldl (addRow ns.sum) [[], [], [], [], []], r.length ≤ i, ?_, ?_, ?_, ?_⟩
  · exact ⟨rfl, e8, hN, by simp⟩
  · intro i F' H' h; exact h.2.1 _ _ ha
  · rintro i v F' H' B' W' s' E' hv ⟨rfl, e', hN', hlen⟩ S'
    refine gq ?_; intro QL hQL
    rw [List.getElem?_map] at hv
    obtain ⟨x, hx, rfl⟩ := Option.map_eq_some_iff.mp hv
    have st : (ns.take (i + 1)).foldl (addRow ns.sum) [[], [], [], [], []] = addRow ns.sum ((ns.take i).foldl (addRow ns.sum) [[], [], [], [], []]) x := take_fold _ _ _ hx
    have hln := hN'.2.1.length
    generalize (ns.take i).foldl (addRow ns.sum) [[], [], [], [], []] = rows at hN' hln st hlen
    refine q_cons ?_
    refine r_asg3 Ge S' hR.handled rfl rfl rfl ?_
    walk_at "w"
    refine b_mod (by assumption) (by assumption) (by assumption) (by decide) ?_; intro v3 s3 S3 h3
    walk_at "w"
    refine b_fdiv (by assumption) (by assumption) (by assumption) (by decide) (by decide) ?_; intro v4 s4 S4 h4
    walk_at "w"
    refine b_mod (by assumption) h4 (by assumption) (by decide) ?_; intro v5 s5 S5 h5
    walk_at "w"
    refine b_fdiv (by assumption) (by assumption) (by assumption) (by decide) (by decide) ?_; intro v6 s6 S6 h6
    walk_at "w"
    refine b_mod (by assumption) h6 (by assumption) (by decide) ?_; intro v7 s7 S7 h7
    walk_at "w"
    refine c_eq h7 (by assumption) ?_
    walk_at "w"
    refine ⟨_, _, .int (x.fmod 5), .int ((x.fdiv 5).fmod 5), .bool (decide ((x.fdiv 25).fmod 8 = 7)), by assumption, .cons h3 (.two h5 rfl), fun s8 S8 => ?_⟩
    refine q_next ?_
    generalize hf : x.fmod 5 = f at S8
    generalize hg : (x.fdiv 5).fmod 5 = g at S8
    generalize hkp : decide ((x.fdiv 25).fmod 8 = 7) = kp at S8
    have hf0 : 0 ≤ f ∧ f < 5 := by rw [← hf]; exact ⟨Int.fmod_nonneg_of_pos x (by decide), Int.fmod_lt_of_pos x (by decide)⟩
    have hg0 : 0 ≤ g ∧ g < 5 := by rw [← hg]; exact ⟨Int.fmod_nonneg_of_pos _ (by decide), Int.fmod_lt_of_pos _ (by decide)⟩
    obtain ⟨p, hp⟩ : ∃ p, p = if decide (g < f) && !kp then g else f := ⟨_, rfl⟩
    obtain ⟨q, hq⟩ : ∃ q, q = if decide (g < f) && !kp then f else g := ⟨_, rfl⟩
    refine q_mid (P := fun s' => Sf (CC prog w os ob n0) B' W' env' [("first", .int p), ("second", .int q), ("kept", .bool kp), ("total", .int ns.sum), ("rows", .ref b), ("numbers", .ref a)] H' s') ?_ ?_
    · intro s9 S9
      have hp0 : 0 ≤ p ∧ p < 5 := by rw [hp]; split <;> assumption
      have hq0 : 0 ≤ q ∧ q < 5 := by rw [hq]; split <;> assumption
      refine q_cons ?_
      refine q_ifB (!decide (p = q) || kp) (fun s' => Sf (CC prog w os ob n0) B' W' env' [("first", .int p), ("second", .int q), ("kept", .bool kp), ("total", .int ns.sum), ("rows", .ref b), ("numbers", .ref a)] H' s') ?_ ?_ ?_
      · walk_at "w"
        refine c_ne (by assumption) (by assumption) ?_
        walk_at "w"
        by_cases hpq : p = q
        · refine ifQ_ff (by simp [hpq]) ?_
          walk_at "w"
          cases kp with
          | false =>
            refine ifQ_f ?_
            walk_at "w"
            exact ⟨by simp [hpq], by assumption⟩
          | true => exact ifQ_t ⟨by simp, by assumption⟩
        · exact ifQ_tt (by simp [hpq]) ⟨by simp [hpq], by assumption⟩
      · intro hc s20 S20
        refine q_cons ?_
        walk_at "w"
        refine b_mod (by assumption) (by assumption) (by assumption) (by decide) ?_; intro v21 s21 S21 h21
        walk_at "w"
        refine b_add (by assumption) (by assumption) h21 ?_; intro v22 s22 S22 h22
        walk_at "w"
        refine b_mul (by assumption) (by assumption) h22 ?_ (IntMulOk.of_left (intBits_le_64 (by omega) (by omega))); intro v23 s23 S23 h23
        walk_at "w"
        refine b_fdiv (by assumption) (by assumption) (by assumption) (by decide) (by decide) ?_; intro v24 s24 S24 h24
        walk_at "w"
        refine b_add (by assumption) h23 h24 ?_; intro v25 s25 S25 h25
        walk_at "w"
        refine b_mod (by assumption) h25 (by assumption) (by decide) ?_; intro v26 s26 S26 h26
        generalize hpl : (q * (1 + ns.sum.fmod 4) + ns.sum.fdiv 4).fmod 5 = pl at h26
        have hpl0 : 0 ≤ pl ∧ pl < 5 := by rw [← hpl]; exact ⟨Int.fmod_nonneg_of_pos _ (by decide), Int.fmod_lt_of_pos _ (by decide)⟩
        refine r_store (v := .int pl) Ge S26 rfl h26 ?_; intro s27 S27
        refine letS S27 ?_; intro _ S27
        walk_at "w"
        have hlt : pl.toNat < rs.length := ar_tn hpl0.1 hpl0.2 hl5
        have er : rs[pl.toNat]? = some rs[pl.toNat] := List.getElem?_eq_getElem hlt
        have er' : rows[pl.toNat]? = some rows[pl.toNat] := List.getElem?_eq_getElem (hln ▸ hlt)
        generalize rs[pl.toNat] = r at er
        generalize rows[pl.toNat] = row at er'
        refine sub_list (i := pl) (by assumption) (by assumption) (by assumption) hN'.1 hpl0.1 (v := .ref r) (by rw [List.getElem?_map, er]; rfl) (ar_i5 hpl0.2) ?_; intro rv28 h28
        have hrl : H' r = some (.list (iL row)) := A2.at2 hN'.2.1 er er'
        have hrow : row.length ≤ i := hlen _ (List.mem_of_getElem? er')
        have hin : i < ns.length := (List.getElem?_eq_some_iff.mp hx).1
        refine gm_list (by assumption) h28 hrl PySem.F.slot_list_append PySem.F.type_list_append ?_
        refine callWith_method1 ?_
        walk_at "w"
        refine b_mod (by assumption) (by assumption) (by assumption) (by decide) ?_; intro v41 s41 S41 h41
        walk_at "w"
        refine b_add (by assumption) (by assumption) h41 ?_; intro v42 s42 S42 h42
        walk_at "w"
        refine b_mul (by assumption) (by assumption) h42 ?_ (IntMulOk.of_left (intBits_le_64 (by omega) (by omega))); intro v43 s43 S43 h43
        walk_at "w"
        refine b_fdiv (by assumption) (by assumption) (by assumption) (by decide) (by decide) ?_; intro v44 s44 S44 h44
        walk_at "w"
        refine b_add (by assumption) h43 h44 ?_; intro v45 s45 S45 h45
        walk_at "w"
        refine b_mod (by assumption) h45 (by assumption) (by decide) ?_; intro v46 s46 S46 h46
        generalize hpv : (p * (1 + ns.sum.fmod 4) + ns.sum.fdiv 4).fmod 5 = pv at h46
        walk_at "w"
        refine m_append S46 hrl (ar_map (le_tt (Nat.le_trans hrow (Nat.le_of_lt hin)) hz (Nat.le_refl _)) (by decide)) h46 ?_; intro s47 S47
        walk_at "w"
        have hra : RowsN (H'.set r (.list (iL (row ++ [pv])))) b rs (rows.modify pl.toNat (· ++ [pv])) := hN'.add er er' pv
        rw [iL_snoc] at S47
        have est : addRow ns.sum rows x = rows.modify pl.toNat (· ++ [pv]) := by
          unfold addRow
          dsimp only
          rw [hf, hg, hkp, ← hp, ← hq, if_pos hc, hpl, hpv]
        refine ⟨_, _, S47.pick (F' := [("total", .int ns.sum), ("rows", .ref b), ("numbers", .ref a)]) ⟨rfl, rfl, rfl, trivial⟩, rfl, ?_, ?_, ?_⟩
        · exact ext_fresh' e' (hH0 r (List.mem_of_getElem? er)) _
        · rw [st, est]; exact hra
        · rw [st, est]
          intro r' hr'
          have := mem_modify hr'
          rcases this with h | ⟨r0, h, rfl⟩
          · exact Nat.le_succ_of_le (hlen _ h)
          · rw [List.length_append]; exact Nat.succ_le_succ (hlen _ h)
      · intro hc s20 S20
        walk_at "w"
        have est : addRow ns.sum rows x = rows := by
          unfold addRow
          dsimp only
          rw [hf, hg, hkp, ← hp, ← hq, if_neg (by rw [hc]; decide)]
        refine ⟨_, _, S20.pick (F' := [("total", .int ns.sum), ("rows", .ref b), ("numbers", .ref a)]) ⟨rfl, rfl, rfl, trivial⟩, rfl, e', by rw [st, est]; exact hN', ?_⟩
        rw [st, est]
        intro r' hr'
        exact Nat.le_succ_of_le (hlen _ hr')
    · walk_at "w"
      refine c_gt (by assumption) (by assumption) ?_
      walk_at "w"
      by_cases hgf : g < f
      · refine ifQ_tt (by simpa using hgf) ?_
        walk_at "w"
        cases kp with
        | false =>
          refine ifQ_t ?_
          walk_at "w"
          refine ifQ_t (q_cons ?_)
          refine r_asg2 Ge (by assumption) hR.handled rfl rfl ?_
          walk_at "w"
          refine ⟨_, _, .int g, .int f, by assumption, .two (by assumption) (by assumption), fun s9 S9 => ?_⟩
          rw [if_pos (by simp [hgf])] at hp hq
          rw [hp, hq]
          walk_at "w"
          exact S9.pick ⟨rfl, rfl, rfl, rfl, rfl, rfl, trivial⟩
        | true =>
          refine ifQ_f (ifQ_f ?_)
          rw [if_neg (by simp)] at hp hq
          rw [hp, hq]
          walk_at "w"
          exact S8.pick ⟨rfl, rfl, rfl, rfl, rfl, rfl, trivial⟩
      · refine ifQ_ff (by simpa using hgf) ?_
        refine ifQ_f ?_
        rw [if_neg (by simp [hgf])] at hp hq
        rw [hp, hq]
        walk_at "w"
        exact S8.pick ⟨rfl, rfl, rfl, rfl, rfl, rfl, trivial⟩
  · rintro F' H' s' ⟨rfl, e', hN', hlen⟩ S'
    rw [List.length_map, List.take_length] at hN'
    walk_at "w"
    rename_i rvo hrvo
    obtain rfl := hrvo
    exact ⟨_, _, S', fun S9 => k b H' _ e' pb' ⟨rs, hN'.1, hN'.2.1⟩ S9⟩
end
section -- Y20
variable {prog : Program} {w : World} {os : OsState} {ob : Obj} {n0 : Nat} {B : Heap} {W : Addr → Prop} {env : Env} {F : List (Str × V)} {H : AH} {s : Shared} {A : Around} {E : Value → Shared → Prop} {r1 r2 : Value}
variable {L : List (Int × Int)}
theorem sw_cell {sc : Scope} (G : Ev sc env) {elt : Expr} {gens : List Comprehension} {scope : Scope} {pos py : Pos} {y : Str} {line : Nat} (hl : sc.names.lookup y = some .cell) : swapsWith (.ListComp elt gens scope pos) (some (.Name y py)) line env = pure false := by
  have e1 : env.kindOf y = some .cell := G.kin _ _ hl (by decide)
  unfold swapsWith
  dsimp only
  rw [e1]
  have : (some NameKind.cell == some NameKind.local) = false := rfl
  rw [this, Bool.and_false, Bool.false_and, Bool.false_and]
noncomputable def PairsAt (H : AH) (a : Addr) (L : List (Int × Int)) : Prop := ∃ vs, H a = some (.list vs) ∧ A2 (PairAt H) L vs
theorem PairsAt.ext {H H' : AH} {a : Addr} {L : List (Int × Int)} (h : PairsAt H a L) (e : Ext H H') : PairsAt H' a L := by
  obtain ⟨vs, h1, h2⟩ := h
  exact ⟨vs, e _ _ h1, h2.mono fun _ _ x => x.ext e⟩
noncomputable def prD (q : Int × Int) : PyData := .tuple [.int q.1, .int q.2]
theorem prD_lay : ∀ L : List (Int × Int), PyData.canLayAll0 (L.map prD) = true
  | [] => rfl
  | q :: L => by simp [PyData.canLayAll0, prD, PyData.canLay0, prD_lay L]
theorem prD_eqv (p q : Int × Int) : PyData.eqv (prD p) (prD q) = decide (p = q) := by
  obtain ⟨a, b⟩ := p
  obtain ⟨c, d⟩ := q
  simp [prD, PyData.eqv, PyData.eqvAll]
  by_cases h1 : a = c <;> by_cases h2 : b = d <;> simp [h1, h2]
theorem prD_any (L : List (Int × Int)) (q : Int × Int) : (L.map prD).any (fun y => PyData.eqv y (prD q)) = decide (q ∈ L) := by
  rw [List.any_map, Bool.eq_iff_iff]
  simp only [List.any_eq_true, Function.comp, prD_eqv, decide_eq_true_eq]
  constructor
  · rintro ⟨x, h, rfl⟩; exact h
  · intro h; exact ⟨q, h, rfl⟩
theorem prD_depth : ∀ L : List (Int × Int), PyData.depthAll (L.map prD) ≤ 1
  | [] => Nat.zero_le _
  | q :: L => by
    exact Nat.max_le.mpr ⟨Nat.le_of_eq (by simp [prD, PyData.depth, PyData.depthAll]), prD_depth L⟩
theorem prD_room {n : Nat} {A : Around} (R : Rm n A) (L : List (Int × Int)) (d : Nat) : A.units + 1 + min (PyData.depthAll (L.map prD)) d < cLine :=
  Nat.lt_of_le_of_lt (Nat.add_le_add (Nat.add_le_add_right (Nat.le_trans (Nat.le_add_right _ _) R.3) 1) (Nat.le_trans (Nat.min_le_left _ _) (prD_depth L))) (by decide)
theorem reads_pair {C : Cx} (S : Sf C B W env F H s) {q : Int × Int} {v : V} {rv : Value} (h : PairAt H q v) (hr : V.R v rv) : Reads s.heap rv (prD q) [] := by
  obtain ⟨T, rfl, hT⟩ := h
  obtain rfl := hr
  obtain ⟨vs, n, x1, y1⟩ := S.isTup hT
  refine .tuple x1 rfl rfl ?_
  revert y1
  generalize vs.toList = l
  intro y1
  cases y1 with
  | cons z1 y1 =>
    cases y1 with
    | cons z2 y1 =>
      cases y1
      obtain ⟨t1, rfl⟩ := z1
      obtain ⟨t2, rfl⟩ := z2
      exact .cons (as := []) (.int _ _) (.cons (as := []) (.int _ _) .nil)
theorem reads_pairs {C : Cx} (S : Sf C B W env F H s) : ∀ {L : List (Int × Int)} {vs : List V} {rs : List Value}, A2 (PairAt H) L vs → A2 V.R vs rs → ReadsAll s.heap rs (L.map prD) []
  | _, _, _, .nil, .nil => .nil
  | _, _, _, .cons x h, .cons y h' => .cons (as := []) (reads_pair S x y) (reads_pairs S h h')
theorem c_notinP {C : Cx} {Q : Value → Shared → Prop} {n : Nat} (R : Rm n A) (S : Sf C B W env F H s) {a T : Addr} {L : List (Int × Int)} {q : Int × Int} (h1 : V.R (.ref T) r1) (hT : H T = some (.tup [.int q.1, .int q.2])) (h2 : V.R (.ref a) r2) (ha : PairsAt H a L) (k : Q (.bool (!decide (q ∈ L))) s) :
    wpAny (model C.prog C.w) A (compareOp .NotIn r1 r2) Q E s := by
  obtain rfl := h2
  obtain ⟨vs, h3, h4⟩ := ha
  obtain ⟨ob, h5, us, m, rfl, h6⟩ := S.rel a _ h3
  refine SeqAt.notIn_list_reads (.list h5 rfl rfl (reads_pairs S h4 h6)) (reads_pair S ⟨T, rfl, hT⟩ h1) (prD_lay L) rfl (prD_room R L _) (by rw [prD_any]; exact k)
theorem c_inP {C : Cx} {Q : Value → Shared → Prop} {n : Nat} (R : Rm n A) (S : Sf C B W env F H s) {a T : Addr} {L : List (Int × Int)} {q : Int × Int} (h1 : V.R (.ref T) r1) (hT : H T = some (.tup [.int q.1, .int q.2])) (h2 : V.R (.ref a) r2) (ha : PairsAt H a L) (k : Q (.bool (decide (q ∈ L))) s) :
    wpAny (model C.prog C.w) A (compareOp .In r1 r2) Q E s := by
  obtain rfl := h2
  obtain ⟨vs, h3, h4⟩ := ha
  obtain ⟨ob, h5, us, m, rfl, h6⟩ := S.rel a _ h3
  refine SeqAt.in_list_reads (.list h5 rfl rfl (reads_pairs S h4 h6)) (reads_pair S ⟨T, rfl, hT⟩ h1) (prD_lay L) rfl (prD_room R L _) (by rw [prD_any]; exact k)

noncomputable def leads0 (rows : List (List Int)) : List (Int × Int) := (List.range 5).flatMap fun p => ((List.range 5).filter fun q : Nat => decide ((q : Int) ∈ rows.getD p [])).map fun q : Nat => ((q : Int), (p : Int))
noncomputable def leadsIn (L : List (Int × Int)) (m : Int) : List Int := (L.filter fun e => decide (e.2 = m)).map (·.1)
noncomputable def leadsOut (L : List (Int × Int)) (m : Int) : List Int := (L.filter fun e => decide (e.1 = m)).map (·.2)
noncomputable def leadsStep (L : List (Int × Int)) (m : Int) : List (Int × Int) := L ++ (leadsIn L m).flatMap fun a => ((leadsOut L m).filter fun b => !decide ((a, b) ∈ L)).map fun b => (a, b)
noncomputable def leadsN (rows : List (List Int)) : Nat → List (Int × Int)
  | 0 => leads0 rows
  | m + 1 => leadsStep (leadsN rows m) m
structure LOk (L : List (Int × Int)) : Prop where
  nd : L.Nodup
  rg : ∀ e ∈ L, (0 ≤ e.1 ∧ e.1 < 5) ∧ 0 ≤ e.2 ∧ e.2 < 5
theorem nodup_map_on {α β : Type} {f : α → β} : ∀ {l : List α}, l.Nodup → (∀ x ∈ l, ∀ y ∈ l, f x = f y → x = y) → (l.map f).Nodup
  | [], _, _ => List.nodup_nil
  | a :: l, h, k => by
    rw [List.nodup_cons] at h
    rw [List.map_cons, List.nodup_cons]
    refine ⟨fun z => ?_, nodup_map_on h.2 fun x hx y hy => k x (List.mem_cons_of_mem _ hx) y (List.mem_cons_of_mem _ hy)⟩
    obtain ⟨y, hy, e⟩ := List.mem_map.mp z
    have := k y (List.mem_cons_of_mem _ hy) a List.mem_cons_self e
    exact h.1 (this ▸ hy)
theorem nodup_flat {α β : Type} {f : α → List β} : ∀ {l : List α}, l.Nodup → (∀ x ∈ l, (f x).Nodup) → (∀ x ∈ l, ∀ y ∈ l, ∀ z, z ∈ f x → z ∈ f y → x = y) → (l.flatMap f).Nodup
  | [], _, _, _ => by simp
  | a :: l, h, k, q => by
    rw [List.nodup_cons] at h
    rw [List.flatMap_cons, List.nodup_append]
    refine ⟨k a List.mem_cons_self, nodup_flat h.2 (fun x hx => k x (List.mem_cons_of_mem _ hx)) (fun x hx y hy => q x (List.mem_cons_of_mem _ hx) y (List.mem_cons_of_mem _ hy)), ?_⟩
    rintro x hx y hy rfl
    obtain ⟨b, hb, hxb⟩ := List.mem_flatMap.mp hy
    have := q a List.mem_cons_self b (List.mem_cons_of_mem _ hb) x hx hxb
    exact h.1 (this ▸ hb)
theorem leads0_ok (rows : List (List Int)) : LOk (leads0 rows) := by
  refine ⟨nodup_flat List.nodup_range (fun p _ => nodup_map_on (List.nodup_range.filter _) fun x _ y _ e => Int.ofNat.inj (congrArg Prod.fst e)) fun x _ y _ z h h' => ?_, fun e he => ?_⟩
  · obtain ⟨q, _, rfl⟩ := List.mem_map.mp h
    obtain ⟨q', _, e⟩ := List.mem_map.mp h'
    exact (Int.ofNat.inj (congrArg Prod.snd e)).symm
  · obtain ⟨p, hp, h⟩ := List.mem_flatMap.mp he
    obtain ⟨q, hq, rfl⟩ := List.mem_map.mp h
    have := List.mem_range.mp hp
    have := List.mem_range.mp (List.mem_filter.mp hq).1
    exact ⟨⟨Int.natCast_nonneg _, Int.ofNat_lt.mpr (by assumption)⟩, Int.natCast_nonneg _, Int.ofNat_lt.mpr (List.mem_range.mp hp)⟩
theorem mem_leadsIn {L : List (Int × Int)} {m a : Int} : a ∈ leadsIn L m ↔ (a, m) ∈ L := by
  refine ⟨fun h => ?_, fun h => List.mem_map.mpr ⟨(a, m), List.mem_filter.mpr ⟨h, decide_eq_true rfl⟩, rfl⟩⟩
  obtain ⟨⟨x1, x2⟩, g, rfl⟩ := List.mem_map.mp h
  obtain ⟨h1, h2⟩ := List.mem_filter.mp g
  cases of_decide_eq_true h2; exact h1
theorem mem_leadsOut {L : List (Int × Int)} {m a : Int} : a ∈ leadsOut L m ↔ (m, a) ∈ L := by
  refine ⟨fun h => ?_, fun h => List.mem_map.mpr ⟨(m, a), List.mem_filter.mpr ⟨h, decide_eq_true rfl⟩, rfl⟩⟩
  obtain ⟨⟨x1, x2⟩, g, rfl⟩ := List.mem_map.mp h
  obtain ⟨h1, h2⟩ := List.mem_filter.mp g
  cases of_decide_eq_true h2; exact h1
theorem LOk.in (h : LOk L) (m : Int) : (leadsIn L m).Nodup ∧ ∀ a ∈ leadsIn L m, (a, m) ∈ L := by
  exact ⟨nodup_map_on (h.nd.filter _) fun x hx y hy e => Prod.ext e ((of_decide_eq_true (List.mem_filter.mp hx).2).trans (of_decide_eq_true (List.mem_filter.mp hy).2).symm), fun a => mem_leadsIn.mp⟩
theorem LOk.out (h : LOk L) (m : Int) : (leadsOut L m).Nodup ∧ ∀ a ∈ leadsOut L m, (m, a) ∈ L := by
  exact ⟨nodup_map_on (h.nd.filter _) fun x hx y hy e => Prod.ext ((of_decide_eq_true (List.mem_filter.mp hx).2).trans (of_decide_eq_true (List.mem_filter.mp hy).2).symm) e, fun a => mem_leadsOut.mp⟩
theorem LOk.step (h : LOk L) (m : Int) : LOk (leadsStep L m) := by
  obtain ⟨i1, i2⟩ := h.in m
  obtain ⟨o1, o2⟩ := h.out m
  refine ⟨?_, fun e he => ?_⟩
  · unfold leadsStep
    rw [List.nodup_append]
    refine ⟨h.nd, nodup_flat i1 (fun a _ => nodup_map_on (o1.filter _) fun x _ y _ e => by simpa using e) fun x _ y _ z h h' => ?_, ?_⟩
    · obtain ⟨b, _, rfl⟩ := List.mem_map.mp h
      obtain ⟨b', _, e⟩ := List.mem_map.mp h'
      exact (congrArg Prod.fst e).symm
    · rintro x hx y hy rfl
      obtain ⟨a, ha, hy⟩ := List.mem_flatMap.mp hy
      obtain ⟨b, hb, rfl⟩ := List.mem_map.mp hy
      have := (List.mem_filter.mp hb).2
      simp at this
      exact this hx
  · unfold leadsStep at he
    rcases List.mem_append.mp he with he | he
    · exact h.rg e he
    · obtain ⟨a, ha, he⟩ := List.mem_flatMap.mp he
      obtain ⟨b, hb, rfl⟩ := List.mem_map.mp he
      exact ⟨(h.rg _ (i2 a ha)).1, (h.rg _ (o2 b (List.mem_filter.mp hb).1)).2⟩
theorem leadsN_ok (rows : List (List Int)) : ∀ m, LOk (leadsN rows m)
  | 0 => leads0_ok rows
  | m + 1 => (leadsN_ok rows m).step m
theorem LOk.len (h : LOk L) : L.length ≤ 25 :=
  nodup_len h.nd (ks := ([0, 1, 2, 3, 4] : List Int).flatMap fun a => ([0, 1, 2, 3, 4] : List Int).map fun b => (a, b)) fun x hx =>
    have z := h.rg x hx
    List.mem_flatMap.mpr ⟨x.1, m5 z.1.1 z.1.2, List.mem_map.mpr ⟨x.2, m5 z.2.1 z.2.2, rfl⟩⟩
end
section -- Y21
variable {prog : Program} {w : World} {os : OsState} {ob : Obj} {n0 : Nat} {B : Heap} {W : Addr → Prop} {env : Env} {F : List (Str × V)} {H : AH} {s : Shared} {A : Around} {E : Value → Shared → Prop} {r1 r2 : Value}
theorem A2.zip {α β : Type} {R : α → β → Prop} {l : List α} {l' : List β} (h : A2 R l l') : (l.zip l').map (·.2) = l' ∧ (l.zip l').map (·.1) = l ∧ ∀ x ∈ l.zip l', R x.1 x.2 := by
  induction h with
  | nil => exact ⟨rfl, rfl, fun _ h => nomatch h⟩
  | cons x _ ih =>
    obtain ⟨a, b, c⟩ := ih
    refine ⟨by rw [List.zip_cons_cons, List.map_cons, a], by rw [List.zip_cons_cons, List.map_cons, b], fun y hy => ?_⟩
    rw [List.zip_cons_cons] at hy
    rcases List.mem_cons.mp hy with rfl | hy
    · exact x
    · exact c y hy
theorem flat_len {α β : Type} (f : α → List β) : ∀ (l : List α) (n : Nat), (∀ x ∈ l, (f x).length ≤ n) → (l.flatMap f).length ≤ n * l.length
  | [], n, _ => by simp
  | a :: l, n, h => by
    rw [List.flatMap_cons, List.length_append, List.length_cons, Nat.mul_succ, Nat.add_comm]
    exact Nat.add_le_add (flat_len f l n fun x hx => h x (List.mem_cons_of_mem _ hx)) (h a List.mem_cons_self)
theorem filter_by {α β γ : Type} (f : α → β) (P : β → Bool) (g : β → γ) : ∀ (l : List α), (l.filter fun x => P (f x)).map (fun x => g (f x)) = ((l.map f).filter P).map g
  | [] => rfl
  | a :: l => by
    have := filter_by f P g l
    cases h : P (f a) <;> simp [List.filter_cons, h, this]
set_option maxHeartbeats 4000000 in
theorem sp229 {m : Nat} (S : Sf (CC prog w os ob n0) B W env F H s) (hb : BOk ob) (R : Rm (m + 2) A) {a : Addr} {rows : List (List Int)} (hr : RowsAt H a rows) (h5 : rows.length = 5) {Q : Value → Shared → Prop}
    (k : ∀ b H' s', Ext H H' → H b = none → PairsAt H' b (leadsN rows 5) → Sf (CC prog w os ob n0) B W env F H' s' → Q (.ref b) s') :
    wpAny (model prog w) A (call (.ref 229) [.ref a]) Q E s := by
  refine r_call S R (fn229 w.params ob) (vals := [.ref a]) (binds := [("rows", .ref a)]) (F' := [("rows", .ref a)]) (by kernel_rfl) (.one ⟨rfl, rfl⟩) (of_decide_eq_true (by kernel_rfl)) (by kernel_rfl) (ok229 _) fun env' s1 Ge S1 => ?_
  refine gq ?_; intro QF hQF
  have hR := R.deeper env'
  refine q_cons ?_
  refine wpAny_Assign_Name ?_ (sw_cell Ge rfl)
  refine r_eval_comp Ge (by assumption) rfl (fun cl hcl => ?_)
  walk_at "w"
  refine PyProof.Rows.callWith_type1 ?_
  walk_at "w"
  refine m_range (n := 5) (by assumption) hR.handled (by decide) (by assumption) ?_; intro rv2 s2 S2 it2
  refine ⟨_, _, S2, fun RR K hK kK => ?_⟩
  refine compP2 (B := s.heap) (W := dom H) (List.range 5) (fun p : Nat => V.int p) (fun p : Nat => [(("p" : Str), V.int p)]) (List.range 5) (fun q : Nat => V.int q) (fun q : Nat => [(("q" : Str), V.int q)]) (fun p q => decide ((q : Int) ∈ rows.getD p [])) (fun p q => ((q : Int), (p : Int))) Ge rfl hcl (src2 := fun _ => True) S2 it2 hK (by decide) (fun _ _ => trivial) (fun _ _ => trivial) ?_ ?_ ?_ ?_ ?_ ?_
  · intro cenv q H' ec hq e
    exact asg1 ec rfl rfl
  · intro cenv p H' B' W' s' E' ec hp e S'
    walk_at "w"
    refine PyProof.Rows.callWith_type1 ?_
    walk_at "w"
    refine m_range (n := 5) (by assumption) hR.handled (by decide) (by assumption) ?_; intro rv3 s3 S3 it3
    exact ⟨_, S3, Ext.refl _, it3⟩
  · intro cenv p q H' ec hp hq e
    exact asg1 ec rfl rfl
  · intro cenv p q H' B' W' s' E' ec hp hq e S'
    have hp5 := List.mem_range.mp hp
    have hrow : rows[p]? = some (rows.getD p []) := row_at (h5.symm ▸ hp5)
    obtain ⟨rs, r, q1, q2, q3, q4⟩ := (hr.ext e).at hrow
    refine tests_one (gq ?_); intro Qt hQt
    walk_at "w"
    refine sub_list (i := (p : Int)) (by assumption) (by assumption) (by assumption) q1 (Int.natCast_nonneg _) (v := .ref r) q2 (ar_in hp5 (Nat.le_refl _) (by decide)) ?_; intro rv5 h5
    refine c_in (by assumption) (by assumption) h5 q3 ?_
    walk_at "w"
    exact ⟨rfl, _, by assumption, Ext.refl _⟩
  · intro cenv p q H' B' W' s' E' ec hp hq e S'
    refine q_tuple (B := B') (W := W') ?_
    walk_at "w"
    refine ⟨_, _, [.int q, .int p], by assumption, .two (by assumption) (by assumption), by show 2 ≤ 1000; decide, fun T s3 hT S3 => ?_⟩
    exact ⟨_, .ref T, S3, (Ext.refl _).put hT _, rfl, T, rfl, AH.set_self ..⟩
  · intro D H' acc hD e hl ha
    refine kK D H' fun s3 S3 => ?_
    refine r_store (v := .ref D) Ge S3 rfl rfl ?_; intro s4 S4
    refine q_next (q_cons ?_)
    refine r_for Ge S4 rfl ?_
    walk_at "w"
    refine PyProof.Rows.callWith_type1 ?_
    walk_at "w"
    refine m_range (n := 5) (by assumption) hR.handled (by decide) (by assumption) ?_; intro rv5 s5 S5 it5
    refine ⟨_, _, _, _, S5, it5, fun i F' H' => F' = ([("pairs", .ref D), ("rows", .ref a)] : List (Str × V)) ∧ Ext H H' ∧ PairsAt H' D (leadsN rows i), ?_, fun _ _ _ _ => trivial, ?_, ?_⟩
    · exact ⟨rfl, e, acc, hl, ha⟩
    · rintro i v F' H6 B' W' s' E' hv ⟨rfl, e6, vs, hvs, hpr⟩ S'
      refine gq ?_; intro QL hQL
      have hi : i < 5 := by
        have := List.getElem?_eq_some_iff.mp hv
        simpa using this.1
      rw [List.getElem?_map, List.getElem?_range hi] at hv
      cases hv
      have lok := leadsN_ok rows i
      have st : leadsN rows (i + 1) = leadsStep (leadsN rows i) i := rfl
      generalize leadsN rows i = L at hpr lok st
      have hlen := lok.len
      have hvl : vs.length ≤ 25 := by rw [← hpr.length]; exact hlen
      obtain ⟨z1, z2, z3⟩ := hpr.zip
      have hxl : (L.zip vs).length ≤ 25 := ar_zip hlen
      refine q_cons ?_
      refine r_assign_comp Ge rfl (by assumption) rfl rfl (fun cl hcl => ?_)
      walk_at "w"
      refine ⟨_, _, by assumption, fun RR K hK kK => ?_⟩
      refine compP (B := B') (W := W') (L.zip vs) (fun x => x.2) (fun x => [(("b" : Str), V.int x.1.2), (("a" : Str), V.int x.1.1)]) (fun x => decide (x.1.2 = (i : Int))) (fun x => V.int x.1.1) Ge rfl hcl (src := fun H => H D = some (.list vs)) (by assumption) (by rw [z1]; exact its_list (by assumption) hR.handled (by assumption) hvs) hK (Nat.le_trans hxl (by decide)) (fun H' e => e _ _ hvs) ?_ ?_ ?_ ?_
      · intro cenv x H' ec hx e
        obtain ⟨T, eT, hT⟩ := z3 x hx
        exact asgP ec hR.handled eT (e _ _ hT) rfl rfl rfl rfl
      · intro cenv x H' B' W' s' E' ec hx e S'
        refine tests_one (gq ?_); intro Qt hQt
        walk_at "w"
        refine c_eq (by assumption) (by assumption) ?_
        walk_at "w"
        exact ⟨rfl, _, by assumption, Ext.refl _⟩
      · intro cenv x H' B' W' s' E' ec hx hp e S'
        walk_at "w"
        exact ⟨_, by assumption, Ext.refl _, by assumption⟩
      · intro Ia H7 hIa e7 hl7
        refine kK Ia H7 fun s7 S7 => ?_
        have hIn : H7 Ia = some (.list (iL (leadsIn L i))) := by
          rw [hl7, filter_by (fun x : (Int × Int) × V => x.1) (fun e => decide (e.2 = (i : Int))) (fun e => V.int e.1), z2]
          unfold leadsIn iL
          rw [List.map_map]; rfl
        have hvs7 := e7 _ _ hvs
        refine q_next (q_cons ?_)
        refine wpAny_Assign_Name ?_ (sw_cell Ge rfl)
        refine r_eval_comp Ge (by assumption) rfl (fun cl hcl => ?_)
        walk_at "w"
        refine ⟨_, _, by assumption, fun RR K hK kK => ?_⟩
        refine compP (B := B') (W := W') (L.zip vs) (fun x => x.2) (fun x => [(("b" : Str), V.int x.1.2), (("a" : Str), V.int x.1.1)]) (fun x => decide (x.1.1 = (i : Int))) (fun x => V.int x.1.2) Ge rfl hcl (src := fun H => H D = some (.list vs)) (by assumption) (by rw [z1]; exact its_list (by assumption) hR.handled (by assumption) hvs7) hK (Nat.le_trans hxl (by decide)) (fun H' e => e _ _ hvs7) ?_ ?_ ?_ ?_
        · intro cenv x H' ec hx e
          obtain ⟨T, eT, hT⟩ := z3 x hx
          exact asgP ec hR.handled eT (e _ _ (e7 _ _ hT)) rfl rfl rfl rfl
        · intro cenv x H' B' W' s' E' ec hx e S'
          refine tests_one (gq ?_); intro Qt hQt
          walk_at "w"
          refine c_eq (by assumption) (by assumption) ?_
          walk_at "w"
          exact ⟨rfl, _, by assumption, Ext.refl _⟩
        · intro cenv x H' B' W' s' E' ec hx hp e S'
          walk_at "w"
          exact ⟨_, by assumption, Ext.refl _, by assumption⟩
        · intro Oa H8 hOa e8 hl8
          refine kK Oa H8 fun s8 S8 => ?_
          have hOut : H8 Oa = some (.list (iL (leadsOut L i))) := by
            rw [hl8, filter_by (fun x : (Int × Int) × V => x.1) (fun e => decide (e.1 = (i : Int))) (fun e => V.int e.2), z2]
            unfold leadsOut iL
            rw [List.map_map]; rfl
          refine r_store (v := .ref Oa) Ge S8 rfl rfl ?_; intro s9 S9
          have hvs8 := e8 _ _ hvs7
          have hIn8 := e8 _ _ hIn
          have hpr8 : PairsAt H8 D L := ⟨vs, hvs8, hpr.mono fun _ _ x => (x.ext e7).ext e8⟩
          have hil : (leadsIn L i).length ≤ 25 := by unfold leadsIn; rw [List.length_map]; exact Nat.le_trans (List.length_filter_le _ _) hlen
          have hol : (leadsOut L i).length ≤ 25 := by unfold leadsOut; rw [List.length_map]; exact Nat.le_trans (List.length_filter_le _ _) hlen
          walk_at "w"
          refine r_eval_comp Ge (by assumption) rfl (fun cl hcl => ?_)
          walk_at "w"
          refine ⟨_, _, by assumption, fun RR K hK kK => ?_⟩
          refine compP2 (B := B') (W := W') (leadsIn L i) V.int (fun p => [(("a" : Str), V.int p)]) (leadsOut L i) V.int (fun q => [(("b" : Str), V.int q)]) (fun p q => !decide ((p, q) ∈ L)) (fun p q => (p, q)) Ge rfl hcl (src2 := fun H => H Oa = some (.list (iL (leadsOut L i)))) (by assumption) (its_list (by assumption) hR.handled (by assumption) hIn8) hK (Nat.le_trans (Nat.mul_le_mul hil hol) (by decide)) (fun _ e => e _ _ hIn8) (fun _ e => e _ _ hOut) ?_ ?_ ?_ ?_ ?_ ?_
          · intro cenv q H' ec hq e
            exact asg1 ec rfl rfl
          · intro cenv p H' B' W' s' E' ec hp e S'
            walk_at "w"
            exact ⟨_, S', Ext.refl _, its_list S' hR.handled (by assumption) (e _ _ hOut)⟩
          · intro cenv p q H' ec hp hq e
            exact asg1 ec rfl rfl
          · intro cenv p q H' B' W' s' E' ec hp hq e S'
            refine tests_one (gq ?_); intro Qt hQt
            walk_at "w"
            refine q_tuple (B := B') (W := W') ?_
            walk_at "w"
            refine ⟨_, _, [.int p, .int q], by assumption, .two (by assumption) (by assumption), by show 2 ≤ 1000; decide, fun T s3 hT S3 => ?_⟩
            have eT := (Ext.refl H').put hT (.tup [.int p, .int q])
            walk_at "w"
            refine c_notinP (q := (p, q)) hR (by assumption) rfl (AH.set_self ..) (by assumption) ((hpr8.ext e).ext eT) ?_
            walk_at "w"
            exact ⟨rfl, _, by assumption, eT⟩
          · intro cenv p q H' B' W' s' E' ec hp hq e S'
            refine q_tuple (B := B') (W := W') ?_
            walk_at "w"
            refine ⟨_, _, [.int p, .int q], by assumption, .two (by assumption) (by assumption), by show 2 ≤ 1000; decide, fun T s3 hT S3 => ?_⟩
            exact ⟨_, .ref T, S3, (Ext.refl _).put hT _, rfl, T, rfl, AH.set_self ..⟩
          · intro N H10 acc hN e10 hl10 ha10
            refine kK N H10 fun s11 S11 => ?_
            have hvs10 := e10 _ _ hvs8
            have hal : acc.length ≤ 700 := by
              rw [← ha10.length]
              refine Nat.le_trans (flat_len _ _ 25 fun x hx => ?_) (Nat.le_trans (Nat.mul_le_mul_left _ hil) (by decide))
              rw [List.length_map]
              exact Nat.le_trans (List.length_filter_le _ _) hol
            refine b_iaddL S11 (by assumption) rfl hvs10 hl10 (Nat.le_trans (Nat.add_le_add hvl hal) (by decide)) ?_; intro s12 S12
            refine r_store (v := .ref D) Ge S12 rfl rfl ?_; intro s13 S13
            walk_at "w"
            refine ⟨_, _, S13.pick (F' := [("pairs", .ref D), ("rows", .ref a)]) ⟨rfl, rfl, trivial⟩, rfl, ext_fresh' (((e6.trans e7).trans e8).trans e10) hD _, vs ++ acc, AH.set_self .., ?_⟩
            rw [st]
            unfold leadsStep
            refine A2.append ?_ ?_
            · exact hpr.mono fun _ _ x => (((x.ext e7).ext e8).ext e10).set hvs10
            · exact ha10.mono fun _ _ x => x.set hvs10
    · rintro F' H' s' ⟨rfl, e', hp⟩ S'
      rw [show (rangeL 5).length = 5 from rfl] at hp
      walk_at "w"
      rename_i rvo hrvo
      obtain rfl := hrvo
      exact ⟨_, _, S', fun S9 => k D H' _ e' hD hp S9⟩
end
section -- Y22
variable {prog : Program} {w : World} {os : OsState} {ob : Obj} {n0 : Nat} {B : Heap} {W : Addr → Prop} {env : Env} {F : List (Str × V)} {H : AH} {s : Shared} {A : Around} {E : Value → Shared → Prop} {r1 r2 : Value}
namespace Fb
theorem slot_ga : Slot "function" "__getattribute__" "object.__getattribute__" :=
  .of (owner := "object") (n := "__getattribute__") (by rw [typeLookup_type, builtinLookup_eq_fast]; kernel_rfl) (by decide +kernel) (by decide +kernel) (by decide +kernel)
    (by first | exact .inl (by decide +kernel) | exact .inr (by decide +kernel)) (by rw [isSubtype_type]; kernel_rfl)
theorem slot_sa : Slot "function" "__setattr__" "object.__setattr__" :=
  .of (owner := "object") (n := "__setattr__") (by rw [typeLookup_type, builtinLookup_eq_fast]; kernel_rfl) (by decide +kernel) (by decide +kernel) (by decide +kernel)
    (by first | exact .inl (by decide +kernel) | exact .inr (by decide +kernel)) (by rw [isSubtype_type]; kernel_rfl)
theorem lk_read : typeLookup (.type "function") "read" = pure none := by rw [typeLookup_type, builtinLookup_eq_fast]; kernel_rfl
theorem lk_hook : typeLookup (.type "function") "__getattr__" = pure none := by rw [typeLookup_type, builtinLookup_eq_fast]; kernel_rfl
theorem mro : mroOf (.type "function") = pure [.type "function", .type "object"] := by kernel_rfl
theorem passes (self : Value) : refuseLoop self "__setattr__" [.type "function", .type "object"] = pure () := by kernel_rfl
theorem args_sa (a b c : Value) : argsOk "object.__setattr__" ⟨[a, b, c], []⟩ := by unfold argsOk; kernel_rfl
end Fb
section
variable {h : Heap} {g : Array GenState} {d : Drawn} {t : Nat} {a x : Addr} {o : Obj} {fd : FuncData} {sl : Array (Option Value)} {v : Value}
noncomputable abbrev fnO (dd : Option Addr) (fd : FuncData) (sl : Array (Option Value)) : Obj := { cls := .type "function", dict := dd, data := .func fd, slots := sl }
set_option maxHeartbeats 2000000 in
theorem fs_entry {tk : Tok} {Q : Fin → Shared → Prop} (hx : h.get? x = some (fnO none fd sl))
    {u : V} (hv : V.R u v) (hq : ∀ (h' : Heap) (tk' : Nat) (es : Array DictEntry) (n : Nat), (∀ b o, b ≠ x → h.get? b = some o → h'.get? b = some o) → h'.get? x = some (fnO (some h.objs.size) fd sl) → A2 ER [("read", u)] es.toList → h'.get? h.objs.size = some { cls := .type "dict", data := .dict es n } → Q (.done (.ret .none)) ⟨h', g, d, tk', os⟩) :
    wpAny (model prog w) A (Builtin.«object.__setattr__» ⟨[.ref x, .str "read" tk, v], []⟩) Q E ⟨h, g, d, t, os⟩ := by
  have f1 := Fb.lk_read
  have f2 := Fb.mro
  unfold Builtin.«object.__setattr__»
  repeat (first | rw [refuse_eq] | (rw [refuseLoop_ref, Fb.passes]) | (with_reducible refine wpAny_loadPart_at hx ?_) | (with_reducible refine wpAny_of_eq Fb.mro ?_) | (with_reducible refine wpAny_of_eq Fb.lk_read ?_) | wp_step)
  have hxs : x ≠ h.objs.size := Nat.ne_of_lt (Heap.lt_size hx)
  have hx₁ : (h.push { cls := .type "dict", data := .dict #[] }).get? x = some (fnO none fd sl) := Heap.get?_push_of_some _ hx
  have hgd : ((h.push { cls := .type "dict", data := .dict #[] }).update x fun o => { cls := o.cls, dict := some h.objs.size, data := o.data, slots := o.slots }).get? h.objs.size
      = some { cls := .type "dict", data := .dict #[] } := (Heap.get?_update_ne _ _ _ _ hxs.symm).trans (Heap.get?_push_at rfl rfl)
  have hgx : ((h.push { cls := .type "dict", data := .dict #[] }).update x fun o => { cls := o.cls, dict := some h.objs.size, data := o.data, slots := o.slots }).get? x = some (fnO (some h.objs.size) fd sl) :=
    Heap.get?_update_self _ hx₁ rfl
  have hgo : ∀ b o, b ≠ x → h.get? b = some o → ((h.push { cls := .type "dict", data := .dict #[] }).update x fun o => { cls := o.cls, dict := some h.objs.size, data := o.data, slots := o.slots }).get? b = some o := fun b o hb e =>
    (Heap.get?_update_ne _ _ _ _ hb).trans (Heap.get?_push_of_some _ e)
  generalize ((h.push { cls := .type "dict", data := .dict #[] }).update x fun o => { cls := o.cls, dict := some h.objs.size, data := o.data, slots := o.slots }) = h2 at hgd hgx hgo
  refine wpAny_askSetting ?_
  refine wpAny_pure ?_
  generalize (if (Str.ofString "read").cps.isEmpty = true then (0 : Int) else reduceHash ((model prog w).w.params.strHash (Str.ofString "read").cps)) = hs
  have hne : aRefKeyMayBeTheName "read" #[] = false := by decide +kernel
  repeat (first | (with_reducible refine wpAny_loadPart_at hgd ?_) | wp_step)
  obtain ⟨es', n', e1, e2⟩ := er_put (l := []) (es := #[]) (n := 0) (sl := #[]) .nil "read" hs t hv
  have hg3 : (h2.update h.objs.size (Obj.putName (Str.ofString "read") hs (Value.str (Str.ofString "read") t) v)).get? h.objs.size = some { cls := .type "dict", data := .dict es' n' } := by
    have := Heap.get?_update_self (Obj.putName (Str.ofString "read") hs (Value.str (Str.ofString "read") t) v) hgd (by rw [e1]; rfl)
    rw [this, e1]
  refine hq _ _ es' n' (fun b o hb e => ?_) ?_ e2 hg3
  · rw [Heap.get?_update_ne _ _ _ _ (Nat.ne_of_lt (Heap.lt_size e))]; exact hgo b o hb e
  · rw [Heap.get?_update_ne _ _ _ _ hxs]; exact hgx
theorem fs_attr {Q : Unit → Shared → Prop} (hx : h.get? x = some (fnO none fd sl)) {u : V} (hv : V.R u v) (hq : ∀ (h' : Heap) (tk' : Nat) (es : Array DictEntry) (n : Nat), (∀ b o, b ≠ x → h.get? b = some o → h'.get? b = some o) → h'.get? x = some (fnO (some h.objs.size) fd sl) → A2 ER [("read", u)] es.toList → h'.get? h.objs.size = some { cls := .type "dict", data := .dict es n } → Q () ⟨h', g, d, tk', os⟩) :
    wpAny (model prog w) A (setAttr (.ref x) "read" v) Q E ⟨h, g, d, t, os⟩ := by
  have hT : ∀ t', (⟨h, g, d, t', os⟩ : Shared).TypeIs (.ref x) "function" := fun t' => ⟨_, hx, rfl⟩
  have f2 := Fb.slot_sa.lookup
  have f3 := Fb.slot_sa.bind (.ref x)
  unfold setAttr callSpecial?
  repeat (any_goals (first | assumption | exact hT _ | ((with_reducible show wpAny _ _ (call (Value.builtin "object.__setattr__") _ _) _ _ _); refine wpAny_call (codeAny_call_builtin Fb.slot_sa.plain PySem.F.entry_object_setattr (Fb.slot_sa.check _ _ _ _ _ _ _ _ (hT _) (Fb.args_sa _ _ _) (fs_entry hx hv ?_)))) | wp_step))
  intro h' tk' es n a1 a2 a3 a4
  exact wpAny_pure (wpAny_pure (hq h' tk' es n a1 a2 a3 a4))
end
end
section -- Y23
variable {prog : Program} {w : World} {os : OsState} {ob : Obj} {n0 : Nat} {B : Heap} {W : Addr → Prop} {env : Env} {F : List (Str × V)} {H : AH} {s : Shared} {A : Around} {E : Value → Shared → Prop} {r1 r2 : Value}
theorem f_set {C : Cx} {Q : Unit → Shared → Prop} {x : Addr} {fd : FuncData} {sl : Array (Option Value)} {u : V} {rv : Value} (S : Sf C B W env F H s) (h1 : V.R (.ref x) r1) (hx : H x = some (.raw (fnO none fd sl))) (hv : V.R u rv)
    (k : ∀ d s', H d = none → Sf C B W env F ((H.set d (.attrs [("read", u)])).set x (.raw (fnO (some d) fd sl))) s' → Q () s') : wpAny (model C.prog C.w) A (setAttr r1 "read" rv) Q E s := by
  obtain rfl := h1
  have hxo := S.rawAt hx
  obtain ⟨sh, sg, sd, st, so⟩ := s
  dsimp only at hxo
  refine fs_attr hxo hv fun h' tk' es n a1 a2 a3 a4 => ?_
  have hn := S.new (a := sh.objs.size) (o := .attrs [("read", u)]) (s' := ⟨sh.push { cls := .type "dict", data := .dict es n }, sg, sd, st, so⟩) (fun b o e => Heap.get?_push_of_some _ e) (Nat.le_refl _) (Heap.get?_push_size _ rfl) ⟨es, n, _, rfl, a3⟩ rfl rfl
  have hxd : x ≠ sh.objs.size := Nat.ne_of_lt (Heap.lt_size hxo)
  have hp := hn.2.put (a := x) (o := .raw (fnO (some sh.objs.size) fd sl)) (s' := ⟨h', sg, sd, tk', so⟩) (by rw [AH.set_ne _ _ hxd, hx]; simp) (fun b o hb e => ?_) a2 rfl rfl rfl
  · exact k _ _ hn.1 hp
  · by_cases hbs : b = sh.objs.size
    · subst hbs
      have e' : (sh.push { cls := .type "dict", data := .dict es n }).get? sh.objs.size = some { cls := .type "dict", data := .dict es n } := Heap.get?_push_size _ rfl
      rw [show (Shared.mk (sh.push { cls := .type "dict", data := .dict es n }) sg sd st so).heap = sh.push { cls := .type "dict", data := .dict es n } from rfl, e'] at e
      cases e; exact a4
    · rw [show (Shared.mk (sh.push { cls := .type "dict", data := .dict es n }) sg sd st so).heap = sh.push { cls := .type "dict", data := .dict es n } from rfl, Heap.get?_push_ne _ _ _ hbs] at e
      exact a1 b o hb e
section
variable {h : Heap} {g : Array GenState} {d : Drawn} {t : Nat} {a x : Addr} {o : Obj} {fd : FuncData} {sl : Array (Option Value)} {v : Value}
set_option maxHeartbeats 2000000 in
theorem fg_entry {tk : Tok} {Q : Fin → Shared → Prop} {dx : Addr} {od : Obj} (hx : h.get? x = some (fnO (some dx) fd sl)) (hd : h.get? dx = some od) (hm : lookIn "read" od = some (some v)) (hh : handedIn v = true) (hq : Q (.done (.ret v)) ⟨h, g, d, t, os⟩) :
    wpAny (model prog w) A (Builtin.«object.__getattribute__» ⟨[.ref x, .str "read" tk], []⟩) Q E ⟨h, g, d, t, os⟩ := by
  have hT : (⟨h, g, d, t, os⟩ : Shared).TypeIs (.ref x) "function" := ⟨_, hx, rfl⟩
  have f1 := Fb.lk_read
  unfold Builtin.«object.__getattribute__»
  repeat (first | (with_reducible refine wpAny_loadPart_at hx ?_) | (with_reducible refine wpAny_of_eq Fb.lk_read ?_) | wp_step)
  change wpAny _ _ (nsLook (Str.ofString "read") od) _ _ _
  refine wpAny_of_eq (nsLook_of hm) ?_
  dsimp only
  repeat wp_step
  exact hq
theorem fg_by {tk : Tok} {Q : Value → Shared → Prop} {dx : Addr} {od : Obj} {fill ex : Bool} (hx : h.get? x = some (fnO (some dx) fd sl)) (hd : h.get? dx = some od) (hm : lookIn "read" od = some (some v)) (hh : handedIn v = true) (hq : Q v ⟨h, g, d, t, os⟩) :
    wpAny (model prog w) A (getAttrBy (.ref x) (.str "read" tk) fill ex) Q E ⟨h, g, d, t, os⟩ := by
  have hT : ∀ t', (⟨h, g, d, t', os⟩ : Shared).TypeIs (.ref x) "function" := fun t' => ⟨_, hx, rfl⟩
  have f2 := Fb.slot_ga.lookup
  have f3 := Fb.slot_ga.bind (.ref x)
  have f4 := Fb.lk_hook
  have f5 : (ex && onTheHeap (Value.builtin "object.__getattribute__")) = false := by cases ex <;> rfl
  unfold getAttrBy
  repeat (any_goals (first | assumption | exact hT _ | ((with_reducible show wpAny _ _ (call (Value.builtin "object.__getattribute__") _ _) _ _ _); refine wpAny_call (codeAny_call_builtin Fb.slot_ga.plain PySem.F.entry_object_getattribute (Fb.slot_ga.check _ _ _ _ _ _ _ _ (hT _) (PySem.F.args_object_getattribute_2 _ _) (fg_entry hx hd hm hh ?_)))) | rw [f5, if_neg (by decide)] | wp_step))
  show wpAny _ _ (handedOut v) _ _ _
  rw [handedOut_of hh]
  exact wpAny_pure hq
end
theorem canon_oga : (Manifest.canonical "object.__getattribute__" != "object.__getattribute__") = false := by decide +kernel
theorem f_meth {C : Cx} {Q : Value × List Value → Shared → Prop} {x dx : Addr} {fd : FuncData} {sl : Array (Option Value)} {u : V} {l : List (Str × V)} {pl : Sem Bool} (S : Sf C B W env F H s) (h1 : V.R (.ref x) r1) (hx : H x = some (.raw (fnO (some dx) fd sl))) (hd : H dx = some (.attrs l)) (hu : l.lookup ("read" : Str) = some u) (hg : ∀ g, u ≠ .glob g)
    (k : ∀ rv s', Sf C B W env F H s' → V.R u rv → Q (rv, []) s') : wpAny (model C.prog C.w) A (getMethod r1 "read" pl) Q E s := by
  obtain rfl := h1
  have hxo := S.rawAt hx
  obtain ⟨ob', es, n, slt, rfl, hdo, hes⟩ := S.isA hd
  obtain ⟨rv, hm, hrv⟩ := look_at (n := n) (sl := slt) hes hu
  have hh := Value.R_handed hrv hg
  have S1 := S.tok (s.toks + 1)
  have hk := k rv _ S1 hrv
  clear k S S1
  obtain ⟨sh, sg, sd, st, so⟩ := s
  dsimp only at hxo hdo
  have hT : ∀ t', (⟨sh, sg, sd, t', so⟩ : Shared).TypeIs (.ref x) "function" := fun t' => ⟨_, hxo, rfl⟩
  have f1 := Fb.lk_read
  have f2 := Fb.slot_ga.lookup
  have f4 := Fb.lk_hook
  have f5 := canon_oga
  unfold getMethod
  refine wpAny_bind (wpAny_specialOf (hT _) f2 ?_)
  dsimp only
  rw [canon_oga, if_neg (by decide)]
  refine wpAny_bind (wpAny_specialOf (hT _) f4 ?_)
  rw [if_neg (by decide)]
  refine wpAny_bind (wpAny_specialOf (hT _) f1 ?_)
  dsimp only
  refine wpAny_bind ?_
  unfold getAttr
  refine wpAny_bind (wpAny_mkText ?_)
  exact fg_by hxo hdo hm hh (wpAny_pure hk)
end
section -- Y24
variable {prog : Program} {w : World} {os : OsState} {ob : Obj} {n0 : Nat} {B : Heap} {W : Addr → Prop} {env : Env} {F : List (Str × V)} {H : AH} {s : Shared} {A : Around} {E : Value → Shared → Prop} {r1 r2 : Value}
theorem Sf.add {C : Cx} (S : Sf C B W env F H s) {a : Addr} (x : Aside C B W env H a) {o : O} {ob : Obj} (ho : s.heap.get? a = some ob) (hr : OR C.prog C.w o ob) (hs : (a == sysModules) = false) : Sf C B W env F (H.set a o) s := by
  refine ⟨S.k, S.lim, S.gens, S.os, ?_, S.kept, ?_, ?_, S.stat, S.kind, S.glob, S.blt, S.ns, S.cl, S.cs, ?_, ?_, ?_, S.big⟩
  · intro b u e
    by_cases q : b = a
    · subst q; rw [AH.set_self] at e; cases e; exact ⟨ob, ho, hr⟩
    · rw [AH.set_ne _ _ q] at e; exact S.rel b u e
  · intro b e
    by_cases q : b = a
    · exact q ▸ x.w
    · exact S.own b (by rwa [AH.set_ne _ _ q] at e)
  · intro b e
    by_cases q : b = a
    · exact q ▸ x.k
    · exact S.apart b (by rwa [AH.set_ne _ _ q] at e)
  · exact ⟨by exact AH.set_at (S.na.1) (Ne.symm x.l), S.na.2⟩
  · intro y c e
    exact ⟨by exact AH.set_at ((S.nc y c e).1) (x.c y c e), (S.nc y c e).2⟩
  · intro b e
    by_cases q : b = a
    · exact q ▸ hs
    · exact S.sysm b (by rwa [AH.set_ne _ _ q] at e)
theorem Sf.notSys {C : Cx} (S : Sf C B W env F H s) {a : Addr} (h : s.heap.objs.size ≤ a) : (a == sysModules) = false := by
  obtain ⟨_, hm, _⟩ := S.lim
  have : sysModules < a := Nat.lt_of_lt_of_le (Nat.lt_trans (by decide) hm.lt) h
  have h : a ≠ sysModules := Nat.ne_of_gt this
  simpa using h
theorem Sf.mkf {C : Cx} (S : Sf C B W env F H s) {P c' : Addr} {oP oP' oc fo : Obj} {h' : Heap} {tk : Nat} (hP : H P = some (.raw oP)) (hx : Heap.ExtBut P s.heap h') (hge : s.heap.objs.size ≤ c') (hlt : c' < h'.objs.size) (hoc : h'.get? c' = some oc) (hP' : h'.get? P = some oP') (hff : fo.isFreed = false) :
    H c' = none ∧ H h'.objs.size = none ∧ c' ≠ h'.objs.size ∧ Sf C B W env F (((H.set P (.raw oP')).set c' (.raw oc)).set h'.objs.size (.raw fo)) { s with heap := h'.push fo, toks := tk } := by
  have hn : s.heap.get? c' = none := Heap.get?_none_of_le hge
  have A0 := S.asideOf hn
  have hPs : s.heap.get? P = some oP := S.rawAt hP
  have hcP : c' ≠ P := fun z => by rw [z, hPs] at hn; cases hn
  have S1 := S.put (a := P) (o := .raw oP') (s' := { s with heap := h', toks := tk }) (by rw [hP]; simp) (fun b o hb e => hx b o hb e) hP' rfl rfl rfl
  have A1 : Aside C B W env (H.set P (.raw oP')) c' := ⟨by exact AH.set_at (A0.no) hcP, A0.k, A0.w, A0.l, A0.c⟩
  have S2 := S1.add A1 (o := .raw oc) hoc rfl (S.notSys hge)
  have hsz : s.heap.objs.size ≤ h'.objs.size := Nat.le_of_lt (Nat.lt_of_le_of_lt hge hlt)
  have hf : H h'.objs.size = none := (S.asideOf (Heap.get?_none_of_le hsz)).no
  have hn3 := S2.new (a := h'.objs.size) (o := .raw fo) (s' := { s with heap := h'.push fo, toks := tk }) (fun b o e => Heap.get?_push_of_some _ e) (Nat.le_refl _) (Heap.get?_push_size _ hff) rfl rfl rfl
  exact ⟨A0.no, hf, Nat.ne_of_lt hlt, hn3.2⟩
theorem r_nestDef {C : Cx} {sc : Scope} (G : Ev sc env) (S : Sf C B W env F H s) {c P : Addr} {ps : Array Value} {mg : Str → Option Value} {name qual : Str} {params : Arguments} {body : List Stmt} {scope : Scope} {pos : Pos} {Q : Flow → Shared → Prop}
    (hcode : env.code = .ref c) (hC : CodeHd s.heap c P) (hG : s.heap.Ns mainGlobals mg) (hB : s.heap.BuiltinsAt mg P) (hP : H P = some (.raw (tabObj ps))) (ht : TriplesOk ps.toList) (hnf : codeAmong pos ps.toList = none)
    {cl : List (Str × Addr)} (hcl : closureFor scope env = pure cl) (hd0 : params.defaults = []) (hk0 : params.kw_defaults = []) (ha : annTrees params none env = []) (hl : stOk sc name = true) (hq : qualnameIn env name name = qual)
    (k : ∀ f c' oc vs t ctv doc s', H f = none → H c' = none → c' ≠ f → oc.data = .fields vs → vs[1]? = some (.str qual t) →
      Sf C B W env ((name, .ref f) :: F) (((H.set P (.raw (tabObj (ps ++ #[rawInt pos.line, rawInt pos.col, .ref c'])))).set c' (.raw oc)).set f (.raw (fnMade name qual params body scope cl doc ((mg "__name__").getD .none) c' ctv))) s' → Q .next s') :
    wpAny (model C.prog C.w) A (exec (.FunctionDef name params body [] none [] scope none name pos) env) Q E s := by
  refine nestDef_K hd0 hk0 ha ?_
  rw [hq]
  have hgP : mainGlobals ≠ P := fun z => by
    obtain ⟨o, es, ep, e, hd, _⟩ := hG
    rw [z, S.rawAt hP] at e; cases e; cases hd
  refine makeFunction_K hcl S.glob hG hcode hC (S.rawAt hP) ht hnf hgP hB fun c' ctv doc h' tk hx hge hlt hrec hP' => ?_
  obtain ⟨c2, oc, vs, t, e2, hoc, hd, hv⟩ := hrec
  cases e2
  obtain ⟨n1, n2, n3, S3⟩ := S.mkf hP hx hge hlt hoc hP' (fo := fnMade name qual params body scope cl doc ((mg "__name__").getD .none) c' ctv) rfl (tk := tk)
  exact r_store (v := .ref h'.objs.size) G S3 hl rfl fun s4 S4 => k _ c' oc vs t ctv doc s4 n2 n1 n3 hd hv S4
theorem r_lambda {C : Cx} {sc : Scope} (G : Ev sc env) (S : Sf C B W env F H s) {c P : Addr} {ps : Array Value} {mg : Str → Option Value} {params : Arguments} {body : Expr} {scope : Scope} {pos : Pos} {Q : Value → Shared → Prop}
    (hcode : env.code = .ref c) (hC : CodeHd s.heap c P) (hG : s.heap.Ns mainGlobals mg) (hB : s.heap.BuiltinsAt mg P) (hP : H P = some (.raw (tabObj ps))) (ht : TriplesOk ps.toList) (hnf : codeAmong pos ps.toList = none)
    (hfree : ∀ q ∈ scope.names, q.2 = .free → (sc.names.lookup q.1 = some .cell ∨ sc.names.lookup q.1 = some .free)) (hd0 : defaultsOf params env = ([], []))
    (k : ∀ f c' oc fd s', H f = none → H c' = none → c' ≠ f →
      Sf C B W env F (((H.set P (.raw (tabObj (ps ++ #[rawInt pos.line, rawInt pos.col, .ref c'])))).set c' (.raw oc)).set f (.raw (fnO none fd #[]))) s' → Q (.ref f) s') :
    wpAny (model C.prog C.w) A (eval (.Lambda params body scope pos) env) Q E s := by
  obtain ⟨cl, hcl, _, hcl2⟩ := closure_ok G hfree
  refine kla_eval hd0 ?_
  have hgP : mainGlobals ≠ P := fun z => by
    obtain ⟨o, es, ep, e, hd, _⟩ := hG
    rw [z, S.rawAt hP] at e; cases e; cases hd
  refine kla_makeFunction hcl S.glob hG hcode hC (S.rawAt hP) ht hnf hgP hB fun c' ctv h' tk hx hge hlt hrec hP' => ?_
  obtain ⟨c2, oc, vs, t, e2, hoc, hd, hv⟩ := hrec
  cases e2
  obtain ⟨n1, n2, n3, S3⟩ := S.mkf hP hx hge hlt hoc hP' (fo := kla_obj "<lambda>" (env.qual ++ "<lambda>") params body scope cl ((mg "__name__").getD .none) c' ctv) rfl (tk := tk)
  exact k _ c' oc _ _ n2 n1 n3 S3
theorem Sf.enterClo {C : Cx} (S : Sf C B W env F H s) {fd : FuncData} {fa : Addr} {sc : Scope} {binds : List (Str × Value)} {F' Fc : List (Str × V)} (hsc : fd.scope = sc) (hk : sc.kind = .function) (hgl : fd.globals = mainGlobals) (hbl : fd.builtins = builtinsNs)
    (hb : ∀ y v, F'.lookup y = some v → sc.names.lookup y = some .local ∧ ∃ rv, binds.reverse.lookup y = some rv ∧ V.R v rv)
    (hc : ∀ y v, Fc.lookup y = some v → sc.names.lookup y = some .free ∧ (y == ("__classdict__" : Str)) = false ∧ ∃ c rv, fd.closure.lookup y = some c ∧ s.heap.IsCell c (some rv) ∧ V.R v rv)
    (hn : ∀ y c, fd.closure.lookup y = some c → H c = none ∧ s.heap.get? c ≠ none) {h₀ : Heap} {tk : Nat}
    (hns : h₀.Ns s.heap.objs.size (fun x => binds.reverse.lookup x)) (hkp : ∀ b o, s.heap.get? b = some o → h₀.get? b = some o) :
    Sf C s.heap (dom H) (callEnv fd s.heap.objs.size fa) (F' ++ Fc) H { s with heap := h₀, toks := tk } := by
  have S' : Sf C B W env F H { s with heap := h₀, toks := tk } := S.keep hkp rfl rfl
  have hko : ∀ y, (callEnv fd s.heap.objs.size fa).kindOf y = sc.names.lookup y := fun y => by
    show fd.scope.names.lookup y = _
    rw [hsc]
  have hcells : (callEnv fd s.heap.objs.size fa).cells = fd.closure := rfl
  have hloc : (callEnv fd s.heap.objs.size fa).locals = s.heap.objs.size := rfl
  have big : s.heap.get? s.heap.objs.size = none := Heap.get?_none_of_le (Nat.le_refl _)
  have hlt : ∀ y c, fd.closure.lookup y = some c → c < s.heap.objs.size := fun y c e => by
    have := (hn y c e).2
    cases q : s.heap.get? c with
    | none => exact absurd q this
    | some o => exact Heap.lt_size q
  refine ⟨S'.k, S'.lim, S'.gens, S'.os, S'.rel, fun b o e _ => .inl (hkp b o e), fun a h => .inl h, S.apart, S.stat, ?_, hgl, hbl, ?_, ?_, ?_, ?_, ?_, S.sysm, ?_⟩
  · show fd.scope.kind = _; rw [hsc]; exact hk
  · refine ⟨_, hns, fun y v e kd => ?_⟩
    rw [hko] at kd
    rw [List.lookup_append] at e
    cases q : F'.lookup y with
    | some u => rw [q] at e; cases e; exact (hb y v q).2
    | none =>
      rw [q] at e
      have := (hc y v e).1
      rw [kd] at this; cases this
  · intro y v e
    rw [List.lookup_append] at e
    cases q : F'.lookup y with
    | some u =>
      rw [q] at e; cases e
      exact .inl ((hko y).trans (hb y v q).1)
    | none =>
      rw [q] at e
      obtain ⟨h1, h2, c, rv, h3, ⟨o, h4, h5⟩, h6⟩ := hc y v e
      exact .inr ⟨.inr ⟨(hko y).trans h1, h2⟩, c, rv, h3, ⟨o, hkp _ _ h4, h5⟩, h6⟩
  · intro y c e l
    rw [hcells] at e
    rw [hloc] at l
    exact absurd (hlt y c e) (Nat.not_lt.mpr (Nat.le_of_lt l))
  · rw [hloc]
    refine ⟨(S.asideOf big).no, (S.asideOf big).k, .inr big⟩
  · intro y c e
    rw [hcells] at e
    rw [hloc]
    refine ⟨(hn y c e).1, Nat.ne_of_lt (hlt y c e), ?_⟩
    cases q : s.heap.get? c with
    | none => exact absurd q (hn y c e).2
    | some o => show h₀.get? c ≠ none; rw [hkp _ _ q]; simp
  · rw [hloc]
    obtain ⟨m, ⟨o, es, ep, h1, _⟩, _⟩ := S.ns
    exact Nat.le_trans S.big (Nat.le_of_lt (Heap.lt_size h1))
theorem r_callClo {C : Cx} (S : Sf C B W env F H s) {n : Nat} (R : Rm n A) {fa : Addr} {o : Obj} {fd : FuncData} {b : List Stmt} {sc : Scope} {args : Args} {binds : List (Str × Value)} {F' Fc : List (Str × V)} {RR : Result → Shared → Prop}
    (ho : s.heap.get? fa = some o) (hd : o.data = .func fd) (hbody : fd.body = .stmts b) (hsc : fd.scope = sc) (hk : sc.kind = .function) (hco : sc.isCoroutine = false) (hgen : sc.isGenerator = false) (hgl : fd.globals = mainGlobals) (hbl : fd.builtins = builtinsNs) (hcd : s.heap.CodeRec fd.code fd.qualname)
    (hbind : bindArgs fd args = pure binds) (hnc : ∀ x ∈ sc.names, x.2 ≠ .cell) (hloc : ∀ x ∈ binds, sc.names.lookup x.1 = some .local)
    (hb : ∀ y v, F'.lookup y = some v → sc.names.lookup y = some .local ∧ ∃ rv, binds.reverse.lookup y = some rv ∧ V.R v rv)
    (hc : ∀ y v, Fc.lookup y = some v → sc.names.lookup y = some .free ∧ (y == ("__classdict__" : Str)) = false ∧ ∃ c rv, fd.closure.lookup y = some c ∧ s.heap.IsCell c (some rv) ∧ V.R v rv)
    (hn : ∀ y c, fd.closure.lookup y = some c → H c = none ∧ s.heap.get? c ≠ none) (hhas : ∀ y, sc.names.lookup y = some .free → ∃ c, fd.closure.lookup y = some c)
    (h : ∀ env' s₁, Ev sc env' → Sf C s.heap (dom H) env' (F' ++ Fc) H s₁ →
      wpAny (model C.prog C.w) (A.deeper env') (execs b env') (fun f s' => CallN C B W env F s.heap (dom H) env' s' (RR (.ok (.ret (retOf f))) s')) (fun _ _ => False) s₁) :
    codeAny (model C.prog C.w) A (.call (.ref fa) args) RR s := by
  have ev : Ev sc (callEnv fd s.heap.objs.size fa) := by
    have hko : ∀ y, (callEnv fd s.heap.objs.size fa).kindOf y = sc.names.lookup y := fun y => by
      show fd.scope.names.lookup y = _
      rw [hsc]
    refine ⟨fun x k e _ => (hko x).trans e, fun x e => .inl ((hko x).trans e), fun x e => absurd rfl (hnc _ (mem_of_lookup e)), fun x e => hhas x e⟩
  refine codeAny_call_def R.room ho hd S.lim hcd hbody (BindsTo.of_eq hbind) (by rw [hsc]; exact hnc) (by rw [hsc]; exact hloc) (fun h₀ hns hkp => ?_) (by rw [hsc]; exact hco) (by rw [hsc]; exact hgen) (by rw [hsc]; exact hk)
  refine wpAny_mono (h _ _ ev (S.enterClo hsc hk hgl hbl hb hc hn hns hkp)) (fun f s' h' => ?_) fun _ _ e => e.elim
  obtain ⟨F'', H', S', q⟩ := h'
  have := q (S.back S')
  cases f <;> exact this
end
section -- Y25
variable {prog : Program} {w : World} {os : OsState} {ob : Obj} {n0 : Nat} {B : Heap} {W : Addr → Prop} {env : Env} {F : List (Str × V)} {H : AH} {s : Shared} {A : Around} {E : Value → Shared → Prop} {r1 r2 : Value}
theorem r_callH {C : Cx} (S : Sf C B W env F H s) {n : Nat} (R : Rm n A) {fa : Addr} {p : Arguments} {b : List Stmt} {sc : Scope} {dv : Value} {fd : FuncData} (Fn : FnAt C.K fa p b sc dv fd) {vals : List Value} {binds : List (Str × Value)} {F' : List (Str × V)} {Q : Value → Shared → Prop}
    (hbind : bindArgs fd ⟨vals, []⟩ = pure binds) (hb : A2 BR F' binds) (hn : (F'.map (·.1)).Nodup) (hp : parOk sc F' = true) (ho : fnOk sc = true)
    (h : ∀ env' s₁, Ev sc env' → env'.code = fd.code → s.heap.objs.size ≤ env'.locals → Sf C s.heap (dom H) env' F' H s₁ →
      wpAny (model C.prog C.w) (A.deeper env') (execs b env') (fun f s' => CallN C B W env F s.heap (dom H) env' s' (Q (retOf f) s')) (fun _ _ => False) s₁) :
    wpAny (model C.prog C.w) A (call (.ref fa) vals) Q E s := by
  refine wpAny_call ?_
  obtain ⟨hk, hco, hgen, hf⟩ := fnOk.all ho
  refine codeAny_call_cells R.room (S.k _ _ Fn.at_) rfl S.lim (Fn.codeRec S.k) Fn.body hbind Fn.closure ?_ (fun s₁ x => ?_) (by rw [Fn.scope]; exact hco) (by rw [Fn.scope]; exact hgen) (by rw [Fn.scope]; exact hk)
  · intro x hx
    rw [Fn.scope]
    obtain ⟨i, hi⟩ := List.getElem?_of_mem hx
    obtain ⟨q, h1, h2⟩ := hb.get' hi
    have hm := List.all_eq_true.mp hp q (List.mem_of_getElem? h1)
    rw [h2.1] at hm
    split at hm
    · exact .inl (by assumption)
    · rename_i e; exact .inr ⟨e, cellsFrom_has _ _ _ _ (.inr e)⟩
    · cases hm
  · refine wpAny_mono (h _ s₁ (Fn.ev hf _) rfl (Nat.le_refl _) (S.enter Fn hb hn hp hk x)) (fun f s' h' => ?_) fun _ _ e => e.elim
    obtain ⟨F'', H', S', q⟩ := h'
    have := q (S.back S')
    cases f <;> exact this
theorem clo217 {env : Env} {cA cO : Addr} {sc : Scope} (hA : env.cells.lookup ("at" : Str) = some cA) (hO : env.cells.lookup ("octets" : Str) = some cO)
    (hn : sc.names = ([("size", .local), ("at", .free), ("octets", .free), ("bytes", .globalImplicit)] : List (Str × NameKind))) : closureFor sc env = pure ([("octets", cO), ("at", cA)] : List (Str × Addr)) := by
  unfold closureFor cellOf
  rw [hn]
  simp only [List.forIn_cons, List.forIn_nil, hA, hO]
  rfl
noncomputable def rdOf (P : Params) : Arguments × List Stmt × Scope := match bodyOf P 217 with
  | _ :: .FunctionDef _ p b _ _ _ sc _ _ _ :: _ => (p, b, sc)
  | _ => default
structure StrmAt (P : Params) (H : AH) (fs rf ds cA cO c' Aa Oa : Addr) (oct : List Int) (pos : Int) : Prop where
  hs : ∃ fdl, H fs = some (.raw (fnO (some ds) fdl #[]))
  hd : H ds = some (.attrs [("read", .ref rf)])
  hr : ∃ qual doc pm ctv oc vs t, H rf = some (.raw (fnMade "_law_read" qual (rdOf P).1 (rdOf P).2.1 (rdOf P).2.2 [("octets", cO), ("at", cA)] doc pm c' ctv)) ∧ H c' = some (.raw oc) ∧ oc.data = .fields vs ∧ vs[1]? = some (.str qual t)
  hA : ∃ o, H cA = some (.raw o) ∧ o.data = .cell (some (.ref Aa))
  hO : ∃ o, H cO = some (.raw o) ∧ o.data = .cell (some (.ref Oa))
  ha : H Aa = some (.list [.int pos])
  ho : H Oa = some (.list (iL oct))
  ne : Aa ≠ Oa
  nc : cA ≠ cO
theorem code217 (P : Params) : (fdOf P 217).code = .ref 216 := by kernel_rfl
set_option maxHeartbeats 4000000 in
theorem sp217 {m : Nat} (S : Sf (CC prog w os ob n0) B W env F H s) (hb : BOk ob) (R : Rm (m + 2) A) {obm : Obj} {mg : Str → Option Value} (hC : ∀ h, (KK w.params ob).In h → CodeHd h 216 212) (hG : ∀ h, (KK w.params ob).In h → h.Ns mainGlobals mg) (hB : ∀ h : Heap, h.get? 4 = some obm → h.BuiltinsAt mg 212)
    (hP : H 212 = some (.raw (tabObj #[]))) (h4 : H 4 = some (.raw obm)) {a : Addr} {oct : List Int} (ha : H a = some (.list (iL oct))) {Q : Value → Shared → Prop}
    (k : ∀ H' fs rf ds cA cO c' Aa ps s', (∀ b o, H b = some o → b ≠ 212 → H' b = some o) → H' 212 = some (.raw (tabObj ps)) → H Aa = none → StrmAt w.params H' fs rf ds cA cO c' Aa a oct 0 → Sf (CC prog w os ob n0) B W env F H' s' → Q (.ref fs) s') :
    wpAny (model prog w) A (call (.ref 217) [.ref a]) Q E s := by
  refine r_callH S R (fn217 w.params ob) (vals := [.ref a]) (binds := [("octets", .ref a)]) (F' := [("octets", .ref a)]) (by kernel_rfl) (.one ⟨rfl, rfl⟩) (of_decide_eq_true (by kernel_rfl)) (by kernel_rfl) (ok217 _) fun env' s1 Ge hcode hsz S1 => ?_
  have hR := R.deeper env'
  rw [code217] at hcode
  refine q_cons ?_
  walk_at "w"
  refine q_list (B := s.heap) (W := dom H) ?_
  walk_at "w"
  refine ⟨_, _, [.int 0], by assumption, .one (by assumption), by decide, fun Aa s3 hAa S3 => ?_⟩
  refine r_store (v := .ref Aa) Ge S3 rfl rfl ?_; intro s4 S4
  refine q_next (q_cons ?_)
  have nA : ∀ {b o}, H b = some o → b ≠ Aa := fun e => by first | exact new_ne hAa e | exact ne_of_at e hAa rfl
  obtain ⟨cA, hcA, lA⟩ := Ge.own ("at" : Str) (by kernel_rfl)
  obtain ⟨cO, hcO, lO⟩ := Ge.own ("octets" : Str) (by kernel_rfl)
  refine r_nestDef Ge S4 hcode (hC _ S4.k) (hG _ S4.k) (hB _ (S4.rawAt (AH.set_at h4 (nA h4)))) (AH.set_at hP (nA hP)) trivial rfl (clo217 hcA hcO rfl) rfl rfl rfl rfl rfl ?_
  intro rf c' oc vs t ctv doc s5 hrf hc' ncf hdoc hvs S5
  refine q_next (q_cons ?_)
  walk_at "w"
  obtain ⟨r1a, r2a⟩ := fresh_ne hrf
  obtain ⟨c1a, c2a⟩ := fresh_ne hc'
  generalize hfo : fnMade _ _ _ _ _ _ _ _ _ _ = fo at S5
  have hfo' : ∃ qual doc pm ctv oc' vs' t', fo = fnMade "_law_read" qual (rdOf w.params).1 (rdOf w.params).2.1 (rdOf w.params).2.2 [("octets", cO), ("at", cA)] doc pm c' ctv ∧ Mine.O.raw oc = .raw oc' ∧ oc'.data = .fields vs' ∧ vs'[1]? = some (.str qual t') :=
    ⟨_, _, _, _, oc, vs, t, by rw [← hfo]; rfl, rfl, hdoc, hvs⟩
  clear hfo hdoc hvs
  generalize hps : (#[] ++ #[rawInt _, rawInt _, Value.ref c'] : Array Value) = ps1 at S5
  have ht1 : TriplesOk ps1.toList := by rw [← hps]; trivial
  have hn1 : codeAmong { line := 247, col := 13, endLine := 247, endCol := 25 } ps1.toList = none := by rw [← hps]; rfl
  clear hps
  have n1 : ∀ {b o}, H b = some o → b ≠ c' := fun e => by first | exact new_ne c2a e | exact ne_of_at e c2a rfl
  have n2 : ∀ {b o}, H b = some o → b ≠ rf := fun e => by first | exact new_ne r2a e | exact ne_of_at e r2a rfl
  have old5 : ∀ b o, H b = some o → b ≠ 212 → ((((H.set Aa (.list [.int 0])).set 212 (.raw (tabObj ps1))).set c' (.raw oc)).set rf (.raw fo)) b = some o := fun b o e q => by
    exact AH.set_at (AH.set_at (AH.set_at (AH.set_at (e) (nA e)) q) (n1 e)) (n2 e)
  have hP5 : ((((H.set Aa (.list [.int 0])).set 212 (.raw (tabObj ps1))).set c' (.raw oc)).set rf (.raw fo)) 212 = some (.raw (tabObj ps1)) := by
    exact AH.set_at (AH.set_at (AH.set_self ..) (n1 hP)) (n2 hP)
  have hA5 : ((((H.set Aa (.list [.int 0])).set 212 (.raw (tabObj ps1))).set c' (.raw oc)).set rf (.raw fo)) Aa = some (.list [.int 0]) := by
    exact AH.set_at (AH.set_at (AH.set_at (AH.set_self ..) (Ne.symm (nA hP))) (Ne.symm c1a)) (Ne.symm r1a)
  have hc5 : ((((H.set Aa (.list [.int 0])).set 212 (.raw (tabObj ps1))).set c' (.raw oc)).set rf (.raw fo)) c' = some (.raw oc) := by
    exact AH.set_at (AH.set_self ..) ncf
  have hr5 : ((((H.set Aa (.list [.int 0])).set 212 (.raw (tabObj ps1))).set c' (.raw oc)).set rf (.raw fo)) rf = some (.raw fo) := AH.set_self ..
  generalize ((((H.set Aa (.list [.int 0])).set 212 (.raw (tabObj ps1))).set c' (.raw oc)).set rf (.raw fo)) = H5 at S5 old5 hP5 hA5 hc5 hr5
  refine r_lambda Ge S5 hcode (hC _ S5.k) (hG _ S5.k) (hB _ (S5.rawAt (old5 _ _ h4 (by decide)))) hP5 ht1 hn1 (by intro q hq; cases hq) rfl ?_
  intro fs c2 oc2 fd2 s6 hfs hc2 nc2 S6
  have n3 : ∀ {b o}, H5 b = some o → b ≠ c2 := fun e => by first | exact new_ne hc2 e | exact ne_of_at e hc2 rfl
  have n4 : ∀ {b o}, H5 b = some o → b ≠ fs := fun e => by first | exact new_ne hfs e | exact ne_of_at e hfs rfl
  generalize hps2 : (ps1 ++ #[rawInt _, rawInt _, Value.ref c2] : Array Value) = ps2 at S6
  clear hps2
  have old6 : ∀ b o, H5 b = some o → b ≠ 212 → (((H5.set 212 (.raw (tabObj ps2))).set c2 (.raw oc2)).set fs (.raw (fnO none fd2 #[]))) b = some o := fun b o e q => by
    exact AH.set_at (AH.set_at (AH.set_at (e) q) (n3 e)) (n4 e)
  have hP6 : (((H5.set 212 (.raw (tabObj ps2))).set c2 (.raw oc2)).set fs (.raw (fnO none fd2 #[]))) 212 = some (.raw (tabObj ps2)) := by
    exact AH.set_at (AH.set_at (AH.set_self ..) (n3 hP5)) (n4 hP5)
  have hf6 : (((H5.set 212 (.raw (tabObj ps2))).set c2 (.raw oc2)).set fs (.raw (fnO none fd2 #[]))) fs = some (.raw (fnO none fd2 #[])) := AH.set_self ..
  generalize (((H5.set 212 (.raw (tabObj ps2))).set c2 (.raw oc2)).set fs (.raw (fnO none fd2 #[]))) = H6 at S6 old6 hP6 hf6
  refine r_store (v := .ref fs) Ge S6 rfl rfl ?_; intro s7 S7
  walk_at "w"
  refine f_set (u := .ref rf) (by assumption) (by assumption) hf6 (by assumption) ?_; intro ds s8 hds S8
  have old8 : ∀ b o, H6 b = some o → b ≠ fs → ((H6.set ds (.attrs [("read", .ref rf)])).set fs (.raw (fnO (some ds) fd2 #[]))) b = some o := fun b o e q => by
    exact AH.set_at (AH.set_at (e) (by first | exact new_ne hds e | exact ne_of_new e hds | exact ne_of_at e hds rfl)) q
  have hd8 : ((H6.set ds (.attrs [("read", .ref rf)])).set fs (.raw (fnO (some ds) fd2 #[]))) ds = some (.attrs [("read", .ref rf)]) := by
    exact AH.set_at (AH.set_self ..) (by first | exact new_ne hf6 hds | exact ne_of_new hds hf6 | exact ne_of_at hds hf6 rfl)
  have hf8 : ((H6.set ds (.attrs [("read", .ref rf)])).set fs (.raw (fnO (some ds) fd2 #[]))) fs = some (.raw (fnO (some ds) fd2 #[])) := AH.set_self ..
  generalize ((H6.set ds (.attrs [("read", .ref rf)])).set fs (.raw (fnO (some ds) fd2 #[]))) = H8 at S8 old8 hd8 hf8
  have old : ∀ b o, H5 b = some o → b ≠ 212 → H8 b = some o := fun b o e q => old8 b o (old6 b o e q) (n4 e)
  have nP : ∀ {b o}, H5 b = some o → o ≠ .raw (tabObj ps1) → b ≠ 212 := fun e q z => by rw [z, hP5] at e; cases e; exact q rfl
  have hP8 : H8 212 = some (.raw (tabObj ps2)) := old8 _ _ hP6 (n4 hP5)
  walk_at "w"
  rename_i rvo hrvo
  obtain rfl := hrvo
  have cell_ : ∀ x c u, env'.cells.lookup x = some c → env'.kindOf x = some .cell → ([("stream", V.ref fs), ("_law_read", V.ref rf), ("at", V.ref Aa), ("octets", V.ref a)] : List (Str × V)).lookup x = some (.ref u) → ∃ o, s8.heap.get? c = some o ∧ o.data = .cell (some (.ref u)) := fun x c u e kd q => by
    rcases S8.cl x _ q with z | ⟨_, c', rv, e1, ⟨o, e2, e3⟩, e4⟩
    · rw [kd] at z; cases z
    · rw [e] at e1; cases e1
      obtain rfl := e4
      exact ⟨o, e2, e3⟩
  have asd : ∀ x c, env'.cells.lookup x = some c → env'.locals < c → Aside (CC prog w os ob n0) B W env H8 c ∧ (c == sysModules) = false := fun x c e l => by
    have hge : s.heap.objs.size ≤ c := Nat.le_trans hsz (Nat.le_of_lt l)
    have a0 := S.asideOf (Heap.get?_none_of_le hge)
    exact ⟨⟨(S8.nc x c e).1, a0.k, a0.w, a0.l, a0.c⟩, S.notSys hge⟩
  obtain ⟨oA, hoA, doA⟩ := cell_ "at" cA Aa hcA (Ge.kin _ _ (by kernel_rfl) (by decide)) rfl
  obtain ⟨oO, hoO, doO⟩ := cell_ "octets" cO a hcO (Ge.kin _ _ (by kernel_rfl) (by decide)) rfl
  obtain ⟨aA, sA⟩ := asd "at" cA hcA lA
  obtain ⟨aO, sO⟩ := asd "octets" cO hcO lO
  have nAO : cA ≠ cO := (S8.cs "octets" cO hcO lO).2.2.2 "at" cA hcA (by decide)
  refine ⟨_, _, S8, fun S11 => ?_⟩
  have S12 := S11.add aA (o := .raw oA) hoA rfl sA
  have aO' : Aside (CC prog w os ob n0) B W env (H8.set cA (.raw oA)) cO := ⟨by exact AH.set_at (aO.no) (Ne.symm nAO), aO.k, aO.w, aO.l, aO.c⟩
  have S13 := S12.add aO' (o := .raw oO) hoO rfl sO
  have fin : ∀ b o, H8 b = some o → ((H8.set cA (.raw oA)).set cO (.raw oO)) b = some o := fun b o e => by
    exact AH.set_at (AH.set_at (e) (by first | exact new_ne aA.no e | exact ne_of_new e aA.no | exact ne_of_at e aA.no rfl)) (by first | exact new_ne aO.no e | exact ne_of_new e aO.no | exact ne_of_at e aO.no rfl)
  obtain ⟨qual, doc2, pm, ctv2, oc3, vs3, t3, f1, f2, f3, f4⟩ := hfo'
  cases f2
  refine k _ fs rf ds cA cO c' Aa ps2 _ (fun b o e q => fin _ _ (old _ _ (old5 _ _ e q) q)) (fin _ _ hP8) hAa ?_ S13
  refine ⟨⟨fd2, fin _ _ hf8⟩, fin _ _ hd8, ⟨qual, doc2, pm, ctv2, oc, vs3, t3, ?_, ?_, f3, f4⟩, ⟨oA, ?_, doA⟩, ⟨oO, AH.set_self .., doO⟩, ?_, ?_, Ne.symm (nA ha), nAO⟩
  · rw [← f1]; refine fin _ _ (old _ _ hr5 (nP hr5 ?_)); rw [f1]; simp
  · exact fin _ _ (old _ _ hc5 (Ne.symm (n1 hP)))
  · exact AH.set_at (AH.set_self ..) nAO
  · exact fin _ _ (old _ _ hA5 (nP hA5 (by simp)))
  · exact fin _ _ (old _ _ (old5 _ _ ha (by first | exact new_ne hP ha | exact ne_of_new ha hP | exact ne_of_at ha hP rfl)) (by first | exact new_ne hP ha | exact ne_of_new ha hP | exact ne_of_at ha hP rfl))
end
section -- Y26
variable {prog : Program} {w : World} {os : OsState} {ob : Obj} {n0 : Nat} {B : Heap} {W : Addr → Prop} {env : Env} {F : List (Str × V)} {H : AH} {s : Shared} {A : Around} {E : Value → Shared → Prop} {r1 r2 : Value}
section
variable {C : Cx} {Q : Value → Shared → Prop} {ns : List Int}
inductive SlR (C : Cx) (env : Env) (o lv uv : Value) (Q : Value → Shared → Prop) (s : Shared) : Prop
  | mk (B : Heap) (W : Addr → Prop) (F : List (Str × V)) (H : AH) (a : Addr) (l : List V) (i j : Nat) (S : Sf C B W env F H s) (h1 : V.R (.ref a) o) (h2 : H a = some (.list l)) (h3 : l.length ≤ 1000) (h4 : V.R (.int i) lv) (h5 : V.R (.int j) uv) (h6 : i ≤ j) (h7 : j ≤ l.length) (h8 : GoN C B W env F H (.list ((l.drop i).take (j - i))) Q)
theorem r_listRun {ve lower upper : Expr} {p pos : Pos} (h : wpAny (model C.prog C.w) A (eval ve env) (fun o s1 => wpAny (model C.prog C.w) A (eval lower env) (fun lv s2 => wpAny (model C.prog C.w) A (eval upper env) (fun uv s3 => SlR C env o lv uv Q s3) E s2) E s1) E s) :
    wpAny (model C.prog C.w) A (eval (.Subscript ve (.Slice (some lower) (some upper) none p) pos) env) Q E s := by
  refine Subscript_ (wpAny_mono h (fun o s1 h1 => wpAny_Slice (wpAny_evalPart_some (wpAny_mono h1 (fun lv s2 h2 => wpAny_evalPart_some (wpAny_mono h2 (fun uv s3 ⟨B, W, F2, H2, a, l, i, j, S2, q2, q3, q4, q5, q6, q7, q8, q9⟩ => wpAny_evalPart_none ?_) fun _ _ e => e)) fun _ _ e => e))) fun _ _ e => e)
  obtain rfl := q2
  obtain ⟨t, rfl⟩ := q5
  obtain ⟨t', rfl⟩ := q6
  refine sl_tail (value := none) S2 q3 q4 (.int i t) (.int j t') .none (by simp) rfl (fun items y => ?_) q9
  rw [slicePick_run _ _ _ (by rw [y.size]; exact q8) q7]
  simpa using (y.drop i).take (j - i)
theorem m_bytes (S : Sf C B W env F H s) (hh : A.handled = none) {a : Addr} (h1 : V.R (.ref a) r1) (ha : H a = some (.list (iL ns))) (hz : ns.length ≤ 1000) (hr : ∀ n ∈ ns, 0 ≤ n ∧ n < 256) (k : Go C B W env F H (.bytes (byteArr ns)) Q) : wpAny (model C.prog C.w) A (call (.type "bytes") [r1]) Q E s := by
  obtain rfl := h1
  obtain ⟨ob, hob, vs, n, rfl, hvs⟩ := S.rel a _ ha
  have hi := iL_are hvs
  refine call_bytes_ints (vs := vs.toList) ⟨_, hob, rfl, n, by simp⟩ hi hr (by rw [← hvs.length, List.length_map, sizeLine_eq]; omega) hh fun h' t tk hk => ?_
  exact k _ _ (S.keep (s' := { s with heap := h', toks := tk }) hk rfl rfl) ⟨_, rfl⟩
theorem t_bytes {Q : Bool → Shared → Prop} (S : Sf C B W env F H s) (hz : ns.length ≤ 1000) (h1 : V.R (.bytes (byteArr ns)) r1) (k : ∀ s', Sf C B W env F H s' → Q (decide (0 < ns.length)) s') : wpAny (model C.prog C.w) A (truthy r1) Q E s := by
  obtain ⟨t, rfl⟩ := h1
  refine truthy_bytes (by rw [byteArr_size]; omega) ?_
  have e : (((byteArr ns).size : Int) != 0) = decide (0 < ns.length) := by
    rw [byteArr_size]
    cases ns with
    | nil => rfl
    | cons x l => simp; omega
  rw [e]
  exact k _ (S.tok _)
theorem m_lenB (S : Sf C B W env F H s) (hz : ns.length ≤ 1000) (h1 : V.R (.bytes (byteArr ns)) r1) (k : Go C B W env F H (.int ns.length) Q) : wpAny (model C.prog C.w) A (call (.builtin "len") [r1]) Q E s := by
  obtain ⟨t, rfl⟩ := h1
  refine len_bytes (by rw [byteArr_size]; omega) ?_
  rw [byteArr_size]
  exact k _ _ (S.tok _) ⟨_, rfl⟩
theorem sub_bytes {value slice : Expr} {i : Int} (S : Sf C B W env F H s) (hz : ns.length ≤ 1000) (hr : ∀ n ∈ ns, 0 ≤ n ∧ n < 256) (h1 : V.R (.bytes (byteArr ns)) r1) (h2 : V.R (.int i) r2) (h0 : 0 ≤ i) (hi : i < ns.length) (k : Go C B W env F H (.int (ns.getD i.toNat 0)) Q)
    (hs : autoParam (subscripted slice false r1 r2 = operate [r1, r2] (getItem r1 r2)) au2._auto_1) (ht : autoParam (∀ r, letTemporaryGo value r1 r = pure ()) au2._auto_1) :
    wpAny (model C.prog C.w) A (subscriptTail value slice r1 r2) Q E s := by
  obtain ⟨t, rfl⟩ := h1
  obtain ⟨t', rfl⟩ := h2
  exact KBw.item_K (KBa.ints_make hr) (by omega) h0 hi (fun t' tk _ _ => k _ _ (S.tok tk) ⟨_, rfl⟩) hs ht
end
end
section -- Y27
variable {prog : Program} {w : World} {os : OsState} {ob : Obj} {n0 : Nat} {B : Heap} {W : Addr → Prop} {env : Env} {F : List (Str × V)} {H : AH} {s : Shared} {A : Around} {E : Value → Shared → Prop} {r1 r2 : Value}
section
variable {b : Array UInt8} {t : Tok}
theorem lb_extend {R : Result → Shared → Prop} (hh : A.handled = none) (S : Addr) (res : Value) (c₀ : Nat) (hS : s.heap.get? S = some { cls := .type "list", data := .seq #[] c₀ })
    (hR : ∀ h' tk acc' c', (∀ b o, b ≠ S → s.heap.get? b = some o → h'.get? b = some o) → h'.get? S = some { cls := .type "list", dict := none, data := .seq acc' c', slots := #[] } →
      ItemsOf (fun i v => ∃ c u, b[i]? = some c ∧ v = .int (c.toNat : Int) u) acc' b.size → R (.ok (.ret res)) { s with heap := h', toks := tk }) (hn : b.size ≤ sizeLine) :
    wpAny (model prog w) A.in1 (Builtin.List.listExtendWith (.ref S) (.bytes b t) res)
      (fun fin s' => match fin with | .done f => R (.ok f) s' | .again c' => c'.quiet = true ∧ codeAny (model prog w) A c' R s') (fun e s' => R (.error e) s') s := by
  have hSI : S ≠ s.heap.objs.size := Nat.ne_of_lt (Heap.lt_size hS)
  have hSf : S ∉ [s.heap.objs.size] := fun hm => hSI (List.mem_singleton.mp hm)
  unfold Builtin.List.listExtendWith
  refine wpAny_bind (wpAny_typeOf (T := "bytes") (v := .bytes b t) rfl ?_)
  have h1 : Builtin.List.listSameRef (.ref S) (.bytes b t) = false := rfl
  have h2 : (Value.type "bytes" == Value.type "list") = false := by decide
  have h3 : (Value.type "bytes" == Value.type "tuple") = false := by decide
  simp only [h1, h2, h3, Bool.or_false, Bool.false_eq_true, if_false]
  refine wpAny_bind (KBw.pyIter_bytes ?_)
  refine wpAny_bind (wpAny_holding ?_)
  unfold Builtin.List.listLengthHint
  refine wpAny_bind (wpAny_specialOf (T := "bytes") (v := .bytes b t) rfl FB.slot_bytes_len.lookup ?_)
  wp_delta
  refine wpAny_bind (wpAny_isInstance (T := "bytes") (v := .bytes b t) (b := true) rfl (by rw [isSubtype_type]; kernel_rfl) ?_)
  show wpAny _ _ (typeOf (Value.bytes b t) >>= _) _ _ _
  refine wpAny_bind (wpAny_typeOf (T := "bytes") (v := .bytes b t) rfl ?_)
  refine wpAny_pure ?_
  rw [if_neg (by decide)]
  have Wk := (KBw.walks (prog := prog) (w := w) (A := A.in1) hh s.heap.objs.size b t).toS
  refine wpAny_pure ⟨plainId_quiet F.plain_extend_loop _, codeAny_extend_loopS Wk hn S hSf _ b.size 0 _ _ _ rfl (Nat.zero_le _) ⟨_, Heap.get?_push_size _ rfl, rfl, rfl⟩ (Heap.get?_push_of_some _ hS) (ItemsOf.nil _) fun s' acc' c' hm hS' hacc => ?_⟩
  rw [Moved.eq_with hm]
  refine hR s'.heap s'.toks acc' c' (fun b' ob hb e => hm.heap b' ob (fun hmem => ?_) (Heap.get?_push_of_some _ e)) hS' hacc
  rcases List.mem_cons.mp hmem with e' | hmem
  · exact hb e'
  · exact absurd (Heap.lt_size e) (by rw [List.mem_singleton.mp hmem]; exact Nat.lt_irrefl _)
theorem lb_init {R : Result → Shared → Prop} (hh : A.handled = none) (S : Addr) (hS : s.heap.get? S = some { cls := .type "list", data := .seq #[] })
    (hR : ∀ h' tk acc' c', (∀ b o, b ≠ S → s.heap.get? b = some o → h'.get? b = some o) → h'.get? S = some { cls := .type "list", dict := none, data := .seq acc' c', slots := #[] } →
      ItemsOf (fun i v => ∃ c u, b[i]? = some c ∧ v = .int (c.toNat : Int) u) acc' b.size → R (.ok (.ret .none)) { s with heap := h', toks := tk }) (hn : b.size ≤ sizeLine) :
    wpAny (model prog w) A.in1 (Builtin.«list.__init__» ⟨[.ref S, .bytes b t], []⟩)
      (fun fin s' => match fin with | .done f => R (.ok f) s' | .again c' => c'.quiet = true ∧ codeAny (model prog w) A c' R s') (fun e s' => R (.error e) s') s := by
  show wpAny _ _ (do let old ← Builtin.List.listItems (.ref S); Builtin.List.listUpdate (.ref S) (fun _ => #[]); letGo old.toList.reverse; Builtin.List.listExtendWith (.ref S) (.bytes b t) .none) _ _ s
  refine wpAny_bind ?_
  unfold Builtin.List.listItems
  refine wpAny_bind (wpAny_seqItems hS rfl (wpAny_pure ?_))
  show wpAny _ _ (updateSeq S (fun _ => #[]) >>= fun _ => letGo (#[] : Array Value).toList.reverse >>= fun _ => Builtin.List.listExtendWith (.ref S) (.bytes b t) .none) _ _ s
  refine wpAny_bind (wpAny_updateSeq hS rfl ?_)
  refine wpAny_bind (wpAny_letGo ?_)
  refine lb_extend hh S .none _ (Heap.get?_update_self (Obj.mapSeq (fun _ => (#[] : Array Value))) hS rfl) (fun h' tk acc' c' hk hS' hacc => ?_) hn
  exact hR h' tk acc' c' (fun b' o hb e => hk b' o hb ((Heap.get?_update_other _ _ (Ne.symm hb)).trans e)) hS' hacc
end
theorem items_bytes {ns : List Int} (hr : ∀ n ∈ ns, 0 ≤ n ∧ n < 256) {acc : Array Value} (h : ItemsOf (fun i v => ∃ c u, (byteArr ns)[i]? = some c ∧ v = .int (c.toNat : Int) u) acc (byteArr ns).size) : A2 V.R (iL ns) acc.toList := by
  obtain ⟨h1, h2⟩ := h
  rw [byteArr_size] at h1
  have key : ∀ i (hi : i < ns.length), ∃ u, acc[i]? = some (.int ns[i] u) := fun i hi => by
    have e : acc[i]? = some acc[i] := Array.getElem?_eq_getElem (by omega)
    obtain ⟨c, u, e1, e2⟩ := h2 i _ e
    refine ⟨u, ?_⟩
    rw [e, e2]
    have e3 : (byteArr ns)[i]? = some (ns[i].toNat.toUInt8) := by unfold byteArr; simp [List.getElem?_map, hi]
    rw [e3] at e1; cases e1
    have := hr ns[i] (List.getElem_mem hi)
    rw [byte_back this.1 this.2]
  have : ∀ (ms : List Int) (l : List Value), ms.length = l.length → (∀ i (hi : i < ms.length), ∃ u, l[i]? = some (.int ms[i] u)) → A2 V.R (iL ms) l := by
    intro ms
    induction ms with
    | nil => intro l hl _; cases l with | nil => exact .nil | cons => cases hl
    | cons x ms ih =>
      intro l hl hk
      cases l with
      | nil => cases hl
      | cons y l =>
        obtain ⟨u, e⟩ := hk 0 (by simp)
        simp at e
        refine .cons ⟨u, e⟩ (ih l (by simpa using hl) fun i hi => ?_)
        have := hk (i + 1) (by simp; omega)
        simpa using this
  exact this ns acc.toList (by simpa using h1.symm) fun i hi => by simpa using key i hi
theorem m_listB {C : Cx} {Q : Value → Shared → Prop} {ns : List Int} (S : Sf C B W env F H s) (hh : A.handled = none) (h1 : V.R (.bytes (byteArr ns)) r1) (hz : ns.length ≤ 1000) (hr : ∀ n ∈ ns, 0 ≤ n ∧ n < 256) (k : GoN C B W env F H (.list (iL ns)) Q) : wpAny (model C.prog C.w) A (call (.type "list") [r1]) Q E s := by
  obtain ⟨t, rfl⟩ := h1
  refine callType_codes (Q₁ := fun obj s₁ => obj = .ref s.heap.objs.size ∧ s₁ = { s with heap := s.heap.push { cls := .type "list", data := .seq #[] } }) PySem.F.called_list (PySem.F.typeCall_list_1 _) PySem.F.entry_list_init
    (code_list_new _ ⟨rfl, rfl⟩) fun obj s₁ h₁ => ?_
  obtain ⟨rfl, rfl⟩ := h₁
  have hS : (s.heap.push { cls := .type "list", data := .seq #[] }).get? s.heap.objs.size = some { cls := .type "list", data := .seq #[] } := Heap.get?_push_size _ rfl
  refine ⟨⟨_, hS, rfl⟩, PySem.F.args_list_init_2 _ _, lb_init (A := A.in1) hh _ hS (fun h' tk acc' c' hk hS' hacc => ?_) (by rw [byteArr_size, sizeLine_eq]; omega)⟩
  have hn := S.new (a := s.heap.objs.size) (o := .list (iL ns)) (s' := { s with heap := h', toks := tk }) (fun b o e => hk b o (Nat.ne_of_lt (Heap.lt_size e)) (Heap.get?_push_of_some _ e)) (Nat.le_refl _) hS' ⟨acc', c', rfl, items_bytes hr hacc⟩ rfl rfl
  exact ⟨rfl, k _ _ hn.1 hn.2⟩
end
section -- Y28
variable {prog : Program} {w : World} {os : OsState} {ob : Obj} {n0 : Nat} {B : Heap} {W : Addr → Prop} {env : Env} {F : List (Str × V)} {H : AH} {s : Shared} {A : Around} {E : Value → Shared → Prop} {r1 r2 : Value}
theorem Sf.readd {C : Cx} (S : Sf C B W env F H s) {a : Addr} {o : Obj} (ha : H a = some (.raw o)) {H2 : AH} {s' : Shared} (S2 : Sf C B W env F H2 s') (h2 : H2 a = none) (ho : s'.heap.get? a = some o) : Sf C B W env F (H2.set a (.raw o)) s' := by
  have hne : H a ≠ none := by rw [ha]; simp
  refine S2.add ⟨h2, S.apart a hne, S.own a hne, fun z => ?_, fun x c e z => ?_⟩ ho rfl (S.sysm a hne)
  · rw [z, S.na.1] at ha; cases ha
  · rw [← z, (S.nc x c e).1] at ha; cases ha
theorem AH.set_back {H0 H : AH} {b c : Addr} {o o' : O} (hc : H0 c = some o') (e : H0 b = some o) (k : b ≠ c → H b = some o) : (H.set c o') b = some o := by
  by_cases z : b = c
  · subst z; rw [AH.set_self, ← hc]; exact e
  · exact AH.set_at (k z) z
set_option maxHeartbeats 4000000 in
theorem sp_read {m : Nat} (S : Sf (CC prog w os ob n0) B W env F H s) (hb : BOk ob) (R : Rm (m + 2) A) {fs rf ds cA cO c' Aa Oa : Addr} {oct : List Int} {pos n : Nat} (St : StrmAt w.params H fs rf ds cA cO c' Aa Oa oct pos)
    (hr : V.R (.int n) r1) (hn : pos + n ≤ oct.length) (hz : oct.length ≤ 900) (hrg : ∀ x ∈ oct, 0 ≤ x ∧ x < 256) {Q : Value → Shared → Prop}
    (k : ∀ H' rv s', V.R (.bytes (byteArr ((oct.drop pos).take n))) rv → StrmAt w.params H' fs rf ds cA cO c' Aa Oa oct ((pos + n : Nat) : Int) → (∀ b o, H b = some o → b ≠ Aa → H' b = some o) → Sf (CC prog w os ob n0) B W env F H' s' → Q rv s') :
    wpAny (model prog w) A (call (.ref rf) [r1]) Q E s := by
  obtain ⟨⟨fdl, hs⟩, hd, ⟨qual, doc, pm, ctv, oc, vs, t, hrf, hcc, hcd, hcv⟩, ⟨oA, hA, hdA⟩, ⟨oO, hO, hdO⟩, ha, ho, hne, hAO⟩ := St
  have S1 := (S.del cA).del cO
  have d1 : ∀ {b o}, H b = some o → (∀ x, o = .raw x → b ≠ cA ∧ b ≠ cO) → ((H.del cA).del cO) b = some o := fun {b o} e q => by
    have h1 : b ≠ cA := fun z => by rw [z, hA] at e; cases e; exact (q _ rfl).1 z
    have h2 : b ≠ cO := fun z => by rw [z, hO] at e; cases e; exact (q _ rfl).2 z
    rw [AH.del_ne _ h2, AH.del_ne _ h1]; exact e
  have ha1 := d1 ha (by simp)
  have ho1 := d1 ho (by simp)
  have nAO : Aa ≠ Oa ∨ True := .inr trivial
  have gA := S.rawAt hA
  have gO := S.rawAt hO
  have n1 : ((H.del cA).del cO) cA = none := by
    by_cases z : cA = cO
    · rw [z]; exact AH.del_self ..
    · rw [AH.del_ne _ z, AH.del_self]
  have n2 : ((H.del cA).del cO) cO = none := AH.del_self ..
  refine wpAny_call (r_callClo S1 R (F' := [("size", .int n)]) (Fc := [("at", .ref Aa), ("octets", .ref Oa)]) (binds := [("size", r1)]) (sc := (rdOf w.params).2.2) (b := (rdOf w.params).2.1) (S.rawAt hrf) rfl rfl rfl (by kernel_rfl) (by kernel_rfl) (by kernel_rfl) rfl rfl ⟨c', oc, vs, t, rfl, S.rawAt hcc, hcd, hcv⟩ ?_ ?_ ?_ ?_ ?_ ?_ ?_ fun env' s2 Ge S2 => ?_)
  · kernel_rfl
  · intro x hx
    rw [show (rdOf w.params).2.2.names = ([("size", .local), ("at", .free), ("octets", .free), ("bytes", .globalImplicit)] : List (Str × NameKind)) by kernel_rfl] at hx
    simp at hx
    rcases hx with rfl | rfl | rfl | rfl <;> simp
  · intro x hx
    rw [List.mem_singleton] at hx; subst hx
    kernel_rfl
  · intro y v e
    rw [lookup_cons_eq] at e
    by_cases z : y = "size"
    · subst z; rw [if_pos rfl] at e; cases e
      exact ⟨by kernel_rfl, r1, rfl, hr⟩
    · rw [if_neg z] at e; cases e
  · intro y v e
    rw [lookup_cons_eq] at e
    by_cases z : y = "at"
    · subst z; rw [if_pos rfl] at e; cases e
      exact ⟨by kernel_rfl, by decide, cA, _, rfl, ⟨oA, gA, hdA⟩, rfl⟩
    · rw [if_neg z, lookup_cons_eq] at e
      by_cases z : y = "octets"
      · subst z; rw [if_pos rfl] at e; cases e
        exact ⟨by kernel_rfl, by decide, cO, _, rfl, ⟨oO, gO, hdO⟩, rfl⟩
      · rw [if_neg z] at e; cases e
  · intro y c e
    rw [lookup_cons_eq] at e
    by_cases z : y = "octets"
    · rw [if_pos z] at e; cases e; exact ⟨n2, by rw [gO]; simp⟩
    · rw [if_neg z, lookup_cons_eq] at e
      by_cases z : y = "at"
      · rw [if_pos z] at e; cases e; exact ⟨n1, by rw [gA]; simp⟩
      · rw [if_neg z] at e; cases e
  · intro y e
    have hm := mem_of_lookup e
    rw [show (rdOf w.params).2.2.names = ([("size", .local), ("at", .free), ("octets", .free), ("bytes", .globalImplicit)] : List (Str × NameKind)) by kernel_rfl] at hm
    simp at hm
    rcases hm with rfl | rfl
    · exact ⟨cA, rfl⟩
    · exact ⟨cO, rfl⟩
  have hR := R.deeper env'
  refine gq ?_; intro QF hQF
  refine q_cons ?_
  walk_at "w"
  refine g_item (i := 0) (v := .int pos) (by assumption) (by assumption) (by assumption) ha1 (by decide) rfl (by decide) ?_; intro v3 h3
  walk_at "w"
  refine b_iadd (by assumption) h3 (by assumption) ?_; intro v4 s4 S4 h4
  refine s_item (i := 0) (v := .int ((pos : Int) + n)) S4 (by assumption) (by assumption) ha1 (by decide) (by simp) (by decide) h4 ?_; intro s5 S5
  rw [show [V.int (pos : Int)].set (0 : Int).toNat (.int ((pos : Int) + n)) = [.int ((pos + n : Nat) : Int)] by simp] at S5
  have ha5 : (((H.del cA).del cO).set Aa (.list [.int ((pos + n : Nat) : Int)])) Aa = some (.list [.int ((pos + n : Nat) : Int)]) := AH.set_self ..
  have ho5 : (((H.del cA).del cO).set Aa (.list [.int ((pos + n : Nat) : Int)])) Oa = some (.list (iL oct)) := by exact AH.set_at (ho1) (Ne.symm hne)
  walk_at "w"
  refine PyProof.Rows.callWith_type1 ?_
  walk_at "w"
  refine r_listRun ?_
  walk_at "w"
  refine sub_list (i := 0) (v := .int ((pos + n : Nat) : Int)) (by assumption) (by assumption) (by assumption) ha5 (by decide) rfl (by decide) ?_; intro v6 h6
  walk_at "w"
  refine b_sub (by assumption) h6 (by assumption) ?_; intro v7 s7 S7 h7
  walk_at "w"
  refine sub_list (i := 0) (v := .int ((pos + n : Nat) : Int)) (by assumption) (by assumption) (by assumption) ha5 (by decide) rfl (by decide) ?_; intro v8 h8
  rw [show ((pos + n : Nat) : Int) - n = (pos : Nat) by omega] at h7
  refine ⟨s.heap, dom ((H.del cA).del cO), _, _, Oa, iL oct, pos, pos + n, by assumption, by assumption, ho5, by rw [List.length_map]; omega, h7, h8, by omega, by rw [List.length_map]; exact hn, fun N s9 hN S9 => ?_⟩
  rw [show ((iL oct).drop pos).take (pos + n - pos) = iL ((oct.drop pos).take n) by rw [Nat.add_sub_cancel_left, ← List.map_drop, ← List.map_take]] at S9
  walk_at "w"
  refine m_bytes S9 hR.handled rfl (AH.set_self ..) (by rw [List.length_take, List.length_drop]; omega) (fun x hx => hrg x (List.mem_of_mem_drop (List.mem_of_mem_take hx))) ?_; intro v10 s10 S10 h10
  walk_at "w"
  have own_ : ∀ {b}, ((H.del cA).del cO) b = none → s.heap.get? b ≠ none → (((((H.del cA).del cO).set Aa (.list [.int ((pos + n : Nat) : Int)])).set N (.list (iL ((oct.drop pos).take n))))) b = none := fun {b} e1 e2 => by
    generalize (((((H.del cA).del cO).set Aa (.list [.int ((pos + n : Nat) : Int)])).set N (.list (iL ((oct.drop pos).take n))))) = H9 at S10
    cases q : H9 b with
    | none => rfl
    | some o =>
      rcases S10.own b (by rw [q]; simp) with z | z
      · exact absurd e1 z
      · exact absurd z e2
  have kA := (S10.kept cA oA gA (fun z => z n1)).exact (by rw [hdA]; simp)
  have kO := (S10.kept cO oO gO (fun z => z n2)).exact (by rw [hdO]; simp)
  have o1 := own_ n1 (by rw [gA]; simp)
  have o2 := own_ n2 (by rw [gO]; simp)
  have old : ∀ b o, H b = some o → b ≠ Aa → b ≠ cA → b ≠ cO → (((((H.del cA).del cO).set Aa (.list [.int ((pos + n : Nat) : Int)])).set N (.list (iL ((oct.drop pos).take n))))) b = some o := fun b o e q1 q2 q3 => by
    have e1 : ((H.del cA).del cO) b = some o := by rw [AH.del_ne _ q3, AH.del_ne _ q2]; exact e
    have e2 : (((H.del cA).del cO).set Aa (.list [.int ((pos + n : Nat) : Int)])) b = some o := by exact AH.set_at (e1) q1
    exact AH.set_at (e2) (by first | exact new_ne hN e2 | exact ne_of_new e2 hN | exact ne_of_at e2 hN rfl)
  have hAn : Aa ≠ N := by first | exact new_ne hN ha5 | exact ne_of_new ha5 hN | exact ne_of_at ha5 hN rfl
  have haA : (((((H.del cA).del cO).set Aa (.list [.int ((pos + n : Nat) : Int)])).set N (.list (iL ((oct.drop pos).take n))))) Aa = some (.list [.int ((pos + n : Nat) : Int)]) := by exact AH.set_at (ha5) hAn
  generalize (((((H.del cA).del cO).set Aa (.list [.int ((pos + n : Nat) : Int)])).set N (.list (iL ((oct.drop pos).take n))))) = H9 at S10 o1 o2 old haA
  refine ⟨_, _, S10, fun S11 => ?_⟩
  have S12 := S.readd hA S11 o1 kA
  have S13 := S.readd hO S12 (by exact AH.set_at (o2) (Ne.symm hAO)) kO
  have fin : ∀ b o, H b = some o → b ≠ Aa → ((H9.set cA (.raw oA)).set cO (.raw oO)) b = some o := fun b o e q =>
    AH.set_back hO e fun z2 => AH.set_back hA e fun z1 => old b o e q z1 z2
  have nal : ∀ {b o}, H b = some (.raw o) → b ≠ Aa := fun e => by first | exact new_ne ha e | exact ne_of_at e ha rfl
  refine k _ v10 _ h10 ⟨⟨fdl, fin _ _ hs (nal hs)⟩, fin _ _ hd (by first | exact new_ne ha hd | exact ne_of_new hd ha | exact ne_of_at hd ha rfl), ⟨qual, doc, pm, ctv, oc, vs, t, fin _ _ hrf (nal hrf), fin _ _ hcc (nal hcc), hcd, hcv⟩, ⟨oA, fin _ _ hA (nal hA), hdA⟩, ⟨oO, fin _ _ hO (nal hO), hdO⟩, ?_, fin _ _ ho (Ne.symm hne), hne, hAO⟩ fin S13
  rw [AH.set_ne _ _ (fun z => nal hO z.symm), AH.set_ne _ _ (fun z => nal hA z.symm)]
  exact haA
end
section -- Y29
variable {prog : Program} {w : World} {os : OsState} {ob : Obj} {n0 : Nat} {B : Heap} {W : Addr → Prop} {env : Env} {F : List (Str × V)} {H : AH} {s : Shared} {A : Around} {E : Value → Shared → Prop} {r1 r2 : Value}
theorem q_callFn {C : Cx} {Q : Value → Shared → Prop} {q : Addr} {pos : Pos} {dd : Option Addr} {fd : FuncData} {sl : Array (Option Value)} {e : Expr} {rest : List Expr} (hq : s.heap.get? q = some (fnO dd fd sl)) (h : wpAny (model C.prog C.w) A (spliced (backTo pos (starEach (e :: rest) env))) (fun vs s₁ => (∃ dd fd sl, s₁.heap.get? q = some (fnO dd fd sl)) ∧ wpAny (model C.prog C.w) A (call (.ref q) ([] ++ vs)) Q E s₁) E s)
    (he : autoParam (starEach (e :: rest) env = (false, eval e env) :: starEach rest env) au1._auto_1) (hplain : autoParam ((backTo pos (starEach rest env)).any (·.1) = false) au1._auto_1) : wpAny (model C.prog C.w) A (callWith pos (.ref q) [] (backTo pos (starEach (e :: rest) env)) []) Q E s :=
  callWith_F (s := s) (⟨_, _, _, _, hq⟩ : PySem.W.FnAt q s.heap) (wpAny_mono h (fun vs s1 ⟨⟨dd, fd, sl, a⟩, b⟩ => ⟨⟨_, _, _, _, a⟩, b⟩) fun _ _ e => e) he hplain
noncomputable abbrev Kx (H H' : AH) (Aa : Addr) : Prop := ∀ b o, H b = some o → b ≠ Aa → H' b = some o
theorem StrmAt.fn {P : Params} {fs rf ds cA cO c' Aa Oa : Addr} {oct : List Int} {pos : Int} (St : StrmAt P H fs rf ds cA cO c' Aa Oa oct pos) : ∃ fd, H rf = some (.raw (fnO none fd #[])) := by
  obtain ⟨qual, doc, pm, ctv, oc, vs, t, h, _⟩ := St.hr
  exact ⟨_, h⟩
set_option maxHeartbeats 4000000 in
theorem sp203 {m : Nat} (S : Sf (CC prog w os ob n0) B W env F H s) (hb : BOk ob) (R : Rm (m + 4) A) {fs rf ds cA cO c' Aa Oa : Addr} {oct : List Int} {pos : Nat} (St : StrmAt w.params H fs rf ds cA cO c' Aa Oa oct pos)
    (hn : pos < oct.length) (hz : oct.length ≤ 900) (hrg : ∀ x ∈ oct, 0 ≤ x ∧ x < 256) {Q : Value → Shared → Prop}
    (k : ∀ H' rv s', V.R (.int (oct.getD pos 0)) rv → StrmAt w.params H' fs rf ds cA cO c' Aa Oa oct ((pos + 1 : Nat) : Int) → Kx H H' Aa → Sf (CC prog w os ob n0) B W env F H' s' → Q rv s') :
    wpAny (model prog w) A (call (.ref 203) [.ref fs]) Q E s := by
  refine r_call S R (fn203 w.params ob) (vals := [.ref fs]) (binds := [("f", .ref fs)]) (F' := [("f", .ref fs)]) (by kernel_rfl) (.one ⟨rfl, rfl⟩) (of_decide_eq_true (by kernel_rfl)) (by kernel_rfl) (ok203 _) fun env' s1 Ge S1 => ?_
  refine gq ?_; intro QF hQF
  have hR := R.deeper env'
  obtain ⟨fdl, hs⟩ := St.hs
  obtain ⟨fdr, hrf⟩ := St.fn
  refine q_cons ?_
  walk_at "w"
  refine f_meth (by assumption) (by assumption) hs St.hd rfl (fun _ h => nomatch h) ?_; intro v2 s2 S2 h2
  obtain rfl := h2
  refine q_callFn (S2.rawAt hrf) ?_
  walk_at "w"
  refine ⟨⟨_, _, _, Sf.rawAt (by assumption) hrf⟩, ?_⟩
  refine sp_read (n := 1) (by assumption) hb hR St (by assumption) (by omega) hz hrg ?_
  intro H3 v3 s3 h3 St3 k3 S3
  have hl1 : (oct.drop pos).take 1 = [oct.getD pos 0] := by
    rw [List.drop_eq_getElem_cons hn, List.take_succ_cons, List.take_zero, List.getD_eq_getElem?_getD, List.getElem?_eq_getElem hn]; rfl
  rw [hl1] at h3
  have hg := hrg (oct.getD pos 0) (by rw [List.getD_eq_getElem?_getD, List.getElem?_eq_getElem hn]; exact List.getElem_mem hn)
  refine r_store (v := .bytes (byteArr [oct.getD pos 0])) Ge S3 rfl h3 ?_; intro s4 S4
  walk_at "w"
  refine t_bytes (ns := [oct.getD pos 0]) (by assumption) (by show 1 ≤ 1000; decide) (by assumption) ?_; intro s5 S5
  refine ifQ_tt (by simp) ?_
  walk_at "w"
  refine sub_bytes (ns := [oct.getD pos 0]) (i := 0) (by assumption) (by show 1 ≤ 1000; decide) (by intro n hn; rw [List.mem_singleton] at hn; rw [hn]; exact hg) (by assumption) (by assumption) (by decide) (by show (0:Int) < 1; decide) ?_; intro v6 s6 S6 h6
  walk_at "w"
  exact ⟨_, _, S6, fun S7 => k H3 v6 _ h6 St3 k3 S7⟩
set_option maxHeartbeats 4000000 in
theorem sp210 {m : Nat} (S : Sf (CC prog w os ob n0) B W env F H s) (hb : BOk ob) (R : Rm (m + 5) A) {fs rf ds cA cO c' Aa Oa : Addr} {oct row : List Int} {pos : Nat} (St : StrmAt w.params H fs rf ds cA cO c' Aa Oa oct pos)
    (hn : pos < oct.length) (h0 : oct.getD pos 0 = (row.length : Int)) (hrow : (oct.drop (pos + 1)).take row.length = row) (hle : pos + 1 + row.length ≤ oct.length) (hz : oct.length ≤ 900) (hrg : ∀ x ∈ oct, 0 ≤ x ∧ x < 256) {Q : Value → Shared → Prop}
    (k : ∀ H' rv s', V.R (.bytes (byteArr row)) rv → StrmAt w.params H' fs rf ds cA cO c' Aa Oa oct ((pos + 1 + row.length : Nat) : Int) → Kx H H' Aa → Sf (CC prog w os ob n0) B W env F H' s' → Q rv s') :
    wpAny (model prog w) A (call (.ref 210) [.ref fs]) Q E s := by
  refine r_call S R (fn210 w.params ob) (vals := [.ref fs]) (binds := [("f", .ref fs)]) (F' := [("f", .ref fs)]) (by kernel_rfl) (.one ⟨rfl, rfl⟩) (of_decide_eq_true (by kernel_rfl)) (by kernel_rfl) (ok210 _) fun env' s1 Ge S1 => ?_
  refine gq ?_; intro QF hQF
  have hR := R.deeper env'
  refine q_cons ?_
  walk_at "w"
  refine q_callK (by assumption) (kp_read_uint1 _ _) ?_
  walk_at "w"
  rename_i rvf hrvf
  obtain rfl := hrvf
  refine ⟨S1.k, ?_⟩
  refine sp203 S1 hb hR St hn hz hrg ?_
  intro H2 v2 s2 h2 St2 k2 S2
  rw [h0] at h2
  refine r_store (v := .int row.length) Ge S2 rfl h2 ?_; intro s3 S3
  walk_at "w"
  refine wpAny_Assert_holds ?_
  walk_at "w"
  refine c_ge (by assumption) (by assumption) ?_
  walk_at "w"
  refine ⟨by simp, ?_⟩
  obtain ⟨fdl, hs⟩ := St2.hs
  obtain ⟨fdr, hrf⟩ := St2.fn
  walk_at "w"
  refine f_meth (by assumption) (by assumption) hs St2.hd rfl (fun _ h => nomatch h) ?_; intro v4 s4 S4 h4
  obtain rfl := h4
  refine q_callFn (S4.rawAt hrf) ?_
  walk_at "w"
  refine ⟨⟨_, _, _, Sf.rawAt (by assumption) hrf⟩, ?_⟩
  refine sp_read (n := row.length) (by assumption) hb hR St2 (by assumption) hle hz hrg ?_
  intro H5 v5 s5 h5 St5 k5 S5
  rw [hrow] at h5
  refine r_store (v := .bytes (byteArr row)) Ge S5 rfl h5 ?_; intro s6 S6
  walk_at "w"
  refine PyProof.Rows.callWith_builtin1 ?_
  walk_at "w"
  refine m_lenB (ns := row) (by assumption) (by omega) (by assumption) ?_; intro v7 s7 S7 h7
  walk_at "w"
  refine c_eq h7 (by assumption) ?_
  walk_at "w"
  refine ifQ_tt (by simp) ?_
  walk_at "w"
  exact ⟨_, _, S7, fun S8 => k H5 _ _ (by assumption) St5 (fun b o e q => k5 b o (k2 b o e q) q) S8⟩
end
section -- Y30
variable {prog : Program} {w : World} {os : OsState} {ob : Obj} {n0 : Nat} {B : Heap} {W : Addr → Prop} {env : Env} {F : List (Str × V)} {H : AH} {s : Shared} {A : Around} {E : Value → Shared → Prop} {r1 r2 : Value}
theorem esOk {P : Params} {ob : Obj} : ∃ es, (KK P ob).lookup 172 = some { cls := .type "dict", data := .dict es 24 } ∧ (es.all fun e => match e.key with | .int i _ => e.hash == hashInt i | _ => false) = true ∧ findBy Value.isInt es 48 = none ∧ findBy Value.isInt es 49 = none := by
  refine ⟨_, rfl, ?_, ?_, ?_⟩ <;> kernel_rfl
theorem map172 {C : Cx} {P : Params} {ob : Obj} (S : Sf C B W env F H s) (hK : C.K = KK P ob) {c : Nat} (hc : c = 48 ∨ c = 49) : ∃ f, s.heap.MapOf (intKind C.prog C.w) 172 f ∧ f (c : Int) = none := by
  obtain ⟨es, h1, h2, h3, h4⟩ := esOk (P := P) (ob := ob)
  refine ⟨fun k => findBy Value.isInt es k, ⟨_, es, 24, S.k _ _ (hK ▸ h1), ⟨rfl, rfl, rfl⟩, rfl, fun e he => ?_, fun k => rfl⟩, ?_⟩
  · have := Array.all_eq_true_iff_forall_mem.mp h2 e he
    split at this
    · rename_i i t hk
      exact ⟨i, by rw [hk]; show Value.isInt i (.int i t) = true; simp [Value.isInt], eq_of_beq this⟩
    · cases this
  · rcases hc with rfl | rfl
    · exact h3
    · exact h4
theorem sub_key : isSubtype (.type "KeyError") (.type "LookupError") = pure true := by rw [isSubtype_type]; kernel_rfl
theorem tl_keep {C : Cx} {P : Params} {ob : Obj} (S : Sf C B W env F H s) (hK : C.K = KK P ob) (hh : A.handled = none) {c : Nat} (hc : c = 48 ∨ c = 49) {Q : Builtin.Str.Mapped → Shared → Prop} (k : ∀ s', Sf C B W env F H s' → Q .keep s') : wpAny (model C.prog C.w) A (Builtin.Str.tableLookup (.ref 172) c) Q E s := by
  obtain ⟨f, h1, h2⟩ := map172 S hK hc
  unfold Builtin.Str.tableLookup
  refine wpAny_bind (wpAny_attempt ?_)
  refine wpAny_bind (wpAny_mkInt ?_)
  refine wpAny_getItem_missing_of (knd := intKind C.prog C.w) (k := (c : Int)) (key := .int (c : Int) s.toks) (by show Value.isInt (c : Int) (.int (c : Int) s.toks) = true; simp [Value.isInt]) (by decide) hh h1 h2 fun h' e hx => ?_
  obtain ⟨ob', t, he, hcl, hd⟩ := hx.there
  dsimp only
  refine wpAny_bind (wpAny_isInstance (T := "KeyError") (b := true) ⟨ob', he, hcl⟩ sub_key ?_)
  rw [if_pos rfl]
  refine wpAny_bind (wpAny_rule (wpAny_pure (k _ (S.keep hx.keeps rfl rfl))))
set_option maxHeartbeats 2000000 in
theorem tr_entry {C : Cx} {P : Params} {ob : Obj} (S : Sf C B W env F H s) (hK : C.K = KK P ob) (hh : A.handled = none) {c : Nat} {t : Tok} (hc : c = 48 ∨ c = 49) {Q : Fin → Shared → Prop} (k : ∀ s' tk, Sf C B W env F H s' → Q (.done (.ret (.str ⟨#[c]⟩ tk))) s') :
    wpAny (model C.prog C.w) A (Builtin.«str.translate» ⟨[.str ⟨#[c]⟩ t, .ref 172], []⟩) Q E s := by
  unfold Builtin.«str.translate»
  have e1 : Builtin.Str.strOneArg "translate" ⟨[.str ⟨#[c]⟩ t, .ref 172], []⟩ = pure (.str ⟨#[c]⟩ t, ⟨#[c]⟩, .ref 172) := rfl
  rw [e1, pure_bind]
  dsimp only
  rw [if_neg (by show ¬ ((1 == 0) = true); decide)]
  have e2 : ((#[c] : Array Nat).all fun x => decide (x < 128)) = true := by rcases hc with rfl | rfl <;> simp
  rw [e2, ← Array.forIn_toList]
  simp only [List.forIn_cons, List.forIn_nil]
  have e3 : Builtin.Str.tooLong 0 = false := by decide
  have e4 : Builtin.Str.tooLong (0 + 1) = false := by decide
  simp only [e3, List.lookup_nil, if_true, if_false, Bool.false_eq_true, pure_bind, bind_assoc]
  refine wpAny_bind ?_
  refine tl_keep S hK hh hc fun s1 S1 => ?_
  dsimp only
  simp only [pure_bind, bind_assoc, e4, Bool.false_eq_true, if_false]
  have e5 : List.foldl (fun acc (p : Str) => acc ++ p.cps) #[] [({ cps := #[c] } : Str)].reverse = #[c] := by simp
  rw [e5]
  unfold retStr
  refine wpAny_bind ?_
  refine wpAny_mkStr' ?_
  exact wpAny_pure (k _ _ (S1.tok _))
theorem c_tr {C : Cx} {P : Params} {ob : Obj} {Q : Value → Shared → Prop} (S : Sf C B W env F H s) (hK : C.K = KK P ob) (hh : A.handled = none) {c : Nat} (hc : c = 48 ∨ c = 49) (h1 : V.R (.str ⟨#[c]⟩) r1) (k : Go C B W env F H (.str ⟨#[c]⟩) Q) :
    wpAny (model C.prog C.w) A (call (.builtin "str.translate") [r1, .ref 172]) Q E s := by
  obtain ⟨t, rfl⟩ := h1
  refine wpAny_call_entry PySem.F.slot_str_translate (typeIs_str _ _ _) PySem.F.entry_str_translate ?_ (PySem.F.args_str_translate_2 _ _)
  exact tr_entry (A := A.in1) S hK hh hc fun s' tk S' => ⟨_, rfl, k _ _ S' ⟨_, rfl⟩⟩
end
section -- Y31
variable {prog : Program} {w : World} {os : OsState} {ob : Obj} {n0 : Nat} {B : Heap} {W : Addr → Prop} {env : Env} {F : List (Str × V)} {H : AH} {s : Shared} {A : Around} {E : Value → Shared → Prop} {r1 r2 : Value}
theorem gm_str {C : Cx} {x : Str} {name : Str} {id : String} {pl : Sem Bool} {Q : Value × List Value → Shared → Prop} (h1 : V.R (.str x) r1) (slot : Slot "str" name id) (hty : typeOf (.builtin id) = pure (.type "method_descriptor")) (k : Q (.builtin id, [r1]) s) : wpAny (model C.prog C.w) A (getMethod r1 name pl) Q E s := by
  obtain ⟨t, rfl⟩ := h1
  exact getMethod_builtin (typeIs_str _ _ _) PySem.F.plainAttrs_str slot hty (fun b e => by cases e) k
set_option maxHeartbeats 2000000 in
theorem sp182 {m : Nat} (S : Sf (CC prog w os ob n0) B W env F H s) (hb : BOk ob) (R : Rm (m + 2) A) {c : Nat} (hc : c = 48 ∨ c = 49) (hr : V.R (.str ⟨#[c]⟩) r1) {Q : Value → Shared → Prop}
    (k : Go (CC prog w os ob n0) B W env F H (.str ⟨#[c]⟩) Q) :
    wpAny (model prog w) A (call (.ref 182) [r1]) Q E s := by
  refine r_call S R (fn182 w.params ob) (vals := [r1]) (binds := [("pattern", r1)]) (F' := [("pattern", .str ⟨#[c]⟩)]) (by kernel_rfl) (.one ⟨rfl, hr⟩) (of_decide_eq_true (by kernel_rfl)) (by kernel_rfl) (ok182 _) fun env' s1 Ge S1 => ?_
  refine gq ?_; intro QF hQF
  have hR := R.deeper env'
  refine q_cons ?_
  walk_at "w"
  refine PyProof.Rows.callWith_builtin1 ?_
  walk_at "w"
  rename_i rv hrv
  obtain ⟨t, ht⟩ := hrv
  refine call_isinstance_yes (Tx := "str") (by rw [ht]; exact typeIs_str _ _ _) meta_str sub_str_str ?_
  walk_at "w"
  refine ifQ_t ?_
  walk_at "w"
  refine gm_str (by assumption) PySem.F.slot_str_translate PySem.F.type_str_translate ?_
  refine callWith_method1 ?_
  walk_at "w"
  refine c_tr (by assumption) rfl hR.handled hc (by assumption) ?_; intro v2 s2 S2 h2
  walk_at "w"
  exact ⟨_, _, S2, fun S3 => k _ _ S3 h2⟩
end
section -- Y32
variable {prog : Program} {w : World} {os : OsState} {ob : Obj} {n0 : Nat} {B : Heap} {W : Addr → Prop} {env : Env} {F : List (Str × V)} {H : AH} {s : Shared} {A : Around} {E : Value → Shared → Prop} {r1 r2 : Value}
namespace Bp
theorem slot_get : Slot "method_descriptor" "__get__" "method_descriptor.__get__" :=
  .of (owner := "method_descriptor") (n := "__get__") (by rw [typeLookup_type, builtinLookup_eq_fast]; kernel_rfl) (by decide +kernel) (by decide +kernel) (by decide +kernel)
    (by first | exact .inl (by decide +kernel) | exact .inr (by decide +kernel)) (by rw [isSubtype_type]; kernel_rfl)
theorem entry_get : entryFor table "method_descriptor.__get__" = some Builtin.«method_descriptor.__get__» := entryFor_of_tree (by kernel_rfl)
theorem args_get (a b c : Value) : argsOk "method_descriptor.__get__" ⟨[a, b, c], []⟩ := by unfold argsOk; kernel_rfl
theorem lk_app : typeLookup (.type "list") "append" = pure (some (.builtin "list.append")) := by rw [typeLookup_type, builtinLookup_eq_fast]; kernel_rfl
theorem lk_set : typeLookup (.type "method_descriptor") "__set__" = pure none := by rw [typeLookup_type, builtinLookup_eq_fast]; kernel_rfl
theorem lk_del : typeLookup (.type "method_descriptor") "__delete__" = pure none := by rw [typeLookup_type, builtinLookup_eq_fast]; kernel_rfl
theorem own : (".".intercalate ("list.append".cutAt '.').dropLast) = "list" := by decide +kernel
theorem told : Manifest.toldItsClass.contains "list.append" = false := by decide +kernel
theorem sub_li : isSubtype (.type "list") (.type "list") = pure true := by rw [isSubtype_type]; kernel_rfl
end Bp
section
variable {h : Heap} {g : Array GenState} {d : Drawn} {t : Nat} {a : Addr} {o : Obj}
noncomputable abbrev baObj (f self : Value) : Obj := { cls := .type "builtin_function_or_method", data := .fields #[f, self] }
set_option maxHeartbeats 1000000 in
theorem ba_get {Q : Value → Shared → Prop} (hx : h.get? a = some o) (hc : o.cls = .type "list") (hq : Q (.ref h.objs.size) ⟨h.push (baObj (.builtin "list.append") (.ref a)), g, d, t, os⟩) :
    wpAny (model prog w) A (call (.builtin "method_descriptor.__get__") [.builtin "list.append", .ref a, .type "list"]) Q E ⟨h, g, d, t, os⟩ := by
  have hT : (⟨h, g, d, t, os⟩ : Shared).TypeIs (.ref a) "list" := ⟨_, hx, hc⟩
  have hT5 : (⟨h, g, d, t, os⟩ : Shared).TypeIs (.builtin "list.append") "method_descriptor" := PySem.F.type_list_append
  refine wpAny_call_entry Bp.slot_get hT5 Bp.entry_get ?_ (Bp.args_get _ _ _)
  have f1 : isSubtype (.type "list") (.type (".".intercalate ("list.append".cutAt '.').dropLast)) = pure true := by rw [Bp.own]; exact Bp.sub_li
  have f2 := Bp.told
  repeat (any_goals (first | assumption | wp_step))
  exact ⟨_, rfl, hq⟩
set_option maxHeartbeats 1000000 in
theorem ba_entry {tk : Tok} {Q : Fin → Shared → Prop} {vs : Array Value} {n : Nat} (hx : h.get? a = some { cls := .type "list", data := .seq vs n }) (hq : Q (.done (.ret (.ref h.objs.size))) ⟨h.push (baObj (.builtin "list.append") (.ref a)), g, d, t, os⟩) :
    wpAny (model prog w) A (Builtin.«object.__getattribute__» ⟨[.ref a, .str "append" tk], []⟩) Q E ⟨h, g, d, t, os⟩ := by
  have hT : (⟨h, g, d, t, os⟩ : Shared).TypeIs (.ref a) "list" := ⟨_, hx, rfl⟩
  have hT5 : (⟨h, g, d, t, os⟩ : Shared).TypeIs (.builtin "list.append") "method_descriptor" := PySem.F.type_list_append
  have f1 := Bp.lk_app
  have f2 := PySem.F.type_list_append
  have f3 := Bp.slot_get.lookup
  have f4 := Bp.lk_set
  have f5 := Bp.lk_del
  repeat (any_goals (first | assumption | (with_reducible apply ba_get hx rfl) | wp_step))
theorem ba_attr {Q : Value → Shared → Prop} {vs : Array Value} {n : Nat} (hx : h.get? a = some { cls := .type "list", data := .seq vs n }) (hq : Q (.ref h.objs.size) ⟨h.push (baObj (.builtin "list.append") (.ref a)), g, d, t + 1, os⟩) :
    wpAny (model prog w) A (getAttr (.ref a) "append" true) Q E ⟨h, g, d, t, os⟩ := by
  have hT : ∀ t', (⟨h, g, d, t', os⟩ : Shared).TypeIs (.ref a) "list" := fun t' => ⟨_, hx, rfl⟩
  have f2 := PySem.F.slot_list_getattribute.lookup
  have f3 := PySem.F.slot_list_getattribute.bind (.ref a)
  unfold getAttr getAttrBy
  repeat (any_goals (first | assumption | exact hT _ | ((with_reducible show wpAny _ _ (call (Value.builtin "list.__getattribute__") _ _) _ _ _); refine wpAny_call (codeAny_call_builtin PySem.F.slot_list_getattribute.plain PySem.am_entry_list_getattribute (PySem.F.slot_list_getattribute.check _ _ _ _ _ _ _ _ (hT _) (PySem.F.args_list_getattribute_2 _ _) (ba_entry hx ?_)))) | wp_step))
end
end
section -- Y33
variable {prog : Program} {w : World} {os : OsState} {ob : Obj} {n0 : Nat} {B : Heap} {W : Addr → Prop} {env : Env} {F : List (Str × V)} {H : AH} {s : Shared} {A : Around} {E : Value → Shared → Prop} {r1 r2 : Value}
theorem ba_kind : builtinKind "list.append" = some .method := by decide +kernel
theorem ba_va : Manifest.varargsMethods.contains "list.append" = false := by decide +kernel
theorem ba_s : Manifest.signature? "list.append" = some ⟨.oneArg, "list.append", "append", .self, [⟨"object", .posOnly, true⟩]⟩ := by
  rw [signature?_of (id := "list.append") (n := ['d', 'n', 'e', 'p', 'p', 'a']) (o := ['t', 's', 'i', 'l']) (by kernel_rfl) PySem.F.owner_list]; kernel_rfl
theorem ba_name : (toString (Bind.lastOf "list") ++ toString "." ++ toString (Bind.lastOf "list.append")) = "list.append" := by decide +kernel
theorem ba_chk (a v : Value) : Bind.checkArgs "list.append" ⟨.oneArg, "list.append", "append", .self, [⟨"object", .posOnly, true⟩]⟩ ⟨[a, v], []⟩ = pure () := by
  have h := PySem.F.args_list_append_2 a v
  unfold argsOk at h
  simp only [ba_s] at h
  exact h
theorem sub_lm : isSubtype (.type "list") (.type "module") = pure false := by rw [isSubtype_type]; kernel_rfl
theorem ba_ok {M : Model} {a : Addr} {vs : Array Value} {n : Nat} {v : Value} {Q : Unit → Shared → Prop} (ho : s.heap.get? a = some { cls := .type "list", data := .seq vs n }) (k : Q () s) : wpAny M A (checkBoundCall "list.append" ⟨[.ref a, v], []⟩) Q E s := by
  unfold checkBoundCall
  simp only [ba_s, ba_kind]
  rw [if_neg (by decide)]
  refine wpAny_bind (wpAny_isInstance (T := "list") (b := false) ⟨_, ho, rfl⟩ sub_lm ?_)
  rw [ba_va, if_neg (by decide)]
  refine wpAny_bind ?_
  unfold isType
  dsimp only
  refine wpAny_bind (wpAny_loadPart_at ho (wpAny_pure ?_))
  rw [if_neg (show ¬ (false = true) from Bool.false_ne_true)]
  refine wpAny_bind (wpAny_typeOf (T := "list") ⟨_, ho, rfl⟩ ?_)
  dsimp only
  rw [ba_name, ba_chk]
  exact wpAny_pure k
theorem ba_call {C : Cx} {Q : Value → Shared → Prop} {q a : Addr} {l : List V} {v : V} {rv : Value} (S : Sf C B W env F H s) (hq : H q = some (.raw (baObj (.builtin "list.append") (.ref a)))) (ha : H a = some (.list l)) (hz : l.length ≤ 1000) (hv : V.R v rv)
    (k : ∀ s', Sf C B W env F (H.set a (.list (l ++ [v]))) s' → Q .none s') : wpAny (model C.prog C.w) A (call (.ref q) [rv]) Q E s := by
  have hqo := S.rawAt hq
  obtain ⟨vs, n, x1, y1⟩ := S.isL ha
  have z := list_append a vs n rv (by rw [y1.size, sizeLine_eq]; omega) C.prog C.w A (wants Q E) s ⟨x1, k _ (S.mapList ha x1 (by simpa using y1.append (.one hv)) _)⟩
  refine wpAny_call (codeAny_of_tree ?_)
  show wpAny _ _ (callAny (.ref q) _) _ _ _
  refine nd_load hqo ?_
  show wpAny _ _ (checkBoundCall "list.append" ⟨[.ref a, rv], []⟩ >>= fun _ => again (.builtin "list.append" ⟨[.ref a, rv], []⟩)) _ _ _
  refine wpAny_bind (ba_ok x1 (wpAny_pure ⟨Code.quiet_builtin _ (by decide +kernel), codeAny_builtin PySem.F.entry_list_append ?_⟩))
  exact z
theorem q_callBa {C : Cx} {Q : Value → Shared → Prop} {q : Addr} {f self : Value} {pos : Pos} {e : Expr} {rest : List Expr} (h : wpAny (model C.prog C.w) A (spliced (backTo pos (starEach (e :: rest) env))) (fun vs s₁ => s₁.heap.get? q = some (baObj f self) ∧ wpAny (model C.prog C.w) A (call (.ref q) ([] ++ vs)) Q E s₁) E s)
    (he : autoParam (starEach (e :: rest) env = (false, eval e env) :: starEach rest env) au1._auto_1) (hplain : autoParam ((backTo pos (starEach rest env)).any (·.1) = false) au1._auto_1) : wpAny (model C.prog C.w) A (callWith pos (.ref q) [] (backTo pos (starEach (e :: rest) env)) []) Q E s := by
  rw [he] at h ⊢
  refine callWith_of (P := fun h => h.get? q = some (baObj f self)) (by show ((false || (backTo pos (starEach rest env)).any (·.1)) || false) = false; rw [hplain]; rfl) (fun h hq => ?_) (evalArgs_plain h)
  exact ⟨.machine, .inr (.inl rfl), (Looks.ld (part := none) hq).andThen .now⟩
theorem a_append {C : Cx} {Q : Value → Shared → Prop} {a : Addr} {l : List V} (S : Sf C B W env F H s) (h1 : V.R (.ref a) r1) (ha : H a = some (.list l)) (k : ∀ q s', H q = none → Sf C B W env F (H.set q (.raw (baObj (.builtin "list.append") (.ref a)))) s' → Q (.ref q) s') : wpAny (model C.prog C.w) A (getAttr r1 "append" true) Q E s := by
  obtain rfl := h1
  obtain ⟨vs, n, x1, y1⟩ := S.isL ha
  have hn := S.new (a := s.heap.objs.size) (o := .raw (baObj (.builtin "list.append") (.ref a))) (s' := { s with heap := s.heap.push (baObj (.builtin "list.append") (.ref a)), toks := s.toks + 1 }) (fun b o e => Heap.get?_push_of_some _ e) (Nat.le_refl _) (Heap.get?_push_size _ rfl) rfl rfl rfl
  obtain ⟨sh, sg, sd, st, so⟩ := s
  exact ba_attr x1 (k _ _ hn.1 hn.2)
end
section -- Y34
variable {prog : Program} {w : World} {os : OsState} {ob : Obj} {n0 : Nat} {B : Heap} {W : Addr → Prop} {env : Env} {F : List (Str × V)} {H : AH} {s : Shared} {A : Around} {E : Value → Shared → Prop} {r1 r2 : Value}
noncomputable abbrev St (l : List Nat) : Str := ⟨l.toArray⟩
theorem St_len (l : List Nat) : (St l).length = l.length := by show l.toArray.size = l.length; simp
section
variable {C : Cx} {Q : Value → Shared → Prop} {l l' : List Nat}
theorem sub_strI {value slice : Expr} {i : Int} {c : Nat} (S : Sf C B W env F H s) (h1 : V.R (.str (St l)) r1) (h2 : V.R (.int i) r2) (h0 : 0 ≤ i) (hi : l[i.toNat]? = some c) (hf : i < 1000) (k : Go C B W env F H (.str (St [c])) Q)
    (hs : autoParam (subscripted slice false r1 r2 = operate [r1, r2] (getItem r1 r2)) au2._auto_1) (ht : autoParam (∀ r, letTemporaryGo value r1 r = pure ()) au2._auto_1) :
    wpAny (model C.prog C.w) A (subscriptTail value slice r1 r2) Q E s := by
  obtain ⟨t, rfl⟩ := h1
  obtain ⟨t', rfl⟩ := h2
  have hlt : i.toNat < l.length := (List.getElem?_eq_some_iff.mp hi).1
  refine r_subT (T := "str") (typeIs_str _ _ _) PySem.F.slot_str_getitem.lookup (P.getItem_str (c := c) (by simp; omega) ?_ (k _ _ (S.tok _) ⟨_, rfl⟩)) hs
  have e : seqIndex? i (St l).length = some i.toNat := by
    unfold seqIndex?
    rw [St_len]
    have h3 : ¬ i < 0 := by omega
    have h4 : i < l.length := by omega
    simp [h3, h0, h4]
  rw [e]
  simpa using hi
theorem m_lenS (S : Sf C B W env F H s) (h1 : V.R (.str (St l)) r1) (hz : l.length ≤ 1000) (k : Go C B W env F H (.int l.length) Q) : wpAny (model C.prog C.w) A (call (.builtin "len") [r1]) Q E s := by
  obtain ⟨t, rfl⟩ := h1
  refine P.len_str (by rw [St_len]; omega) ?_
  rw [St_len]
  exact k _ _ (S.tok _) ⟨_, rfl⟩
theorem b_addS {x y : Str} (S : Sf C B W env F H s) (h1 : V.R (.str x) r1) (h2 : V.R (.str y) r2) (hz : x.length + y.length ≤ 1000) (k : Go C B W env F H (.str (x ++ y)) Q) : wpAny (model C.prog C.w) A (binaryOp .Add r1 r2) Q E s := by
  obtain ⟨t, rfl⟩ := h1
  obtain ⟨t', rfl⟩ := h2
  exact PyProof.Rows.add_str (fun t' tk => k _ _ (S.tok tk) ⟨_, rfl⟩) (by rw [sizeLine_eq]; omega)
theorem keptAll {h : Heap} : KeptH (fun h' : Heap => ∀ b o, h.get? b = some o → h'.get? b = some o) := fun h' o k b o' e => Heap.get?_push_of_some _ (k b o' e)
inductive StR (C : Cx) (env : Env) (o lv uv : Value) (Q : Value → Shared → Prop) (s : Shared) : Prop
  | mk (B : Heap) (W : Addr → Prop) (F : List (Str × V)) (H : AH) (x : Str) (i j : Int) (S : Sf C B W env F H s) (h1 : V.R (.str x) o) (h2 : x.length ≤ 1000) (h3 : V.R (.int i) lv) (h4 : V.R (.int j) uv) (h5 : Go C B W env F H (.str (Txt.slice x (some i) (some j))) Q)
theorem r_strRun {ve lower upper : Expr} {p pos : Pos} (h : wpAny (model C.prog C.w) A (eval ve env) (fun o s1 => wpAny (model C.prog C.w) A (eval lower env) (fun lv s2 => wpAny (model C.prog C.w) A (eval upper env) (fun uv s3 => StR C env o lv uv Q s3) E s2) E s1) E s) :
    wpAny (model C.prog C.w) A (eval (.Subscript ve (.Slice (some lower) (some upper) none p) pos) env) Q E s := by
  refine Subscript_ (wpAny_mono h (fun o s1 h1 => wpAny_Slice (wpAny_evalPart_some (wpAny_mono h1 (fun lv s2 h2 => wpAny_evalPart_some (wpAny_mono h2 (fun uv s3 ⟨B, W, F2, H2, x, i, j, S2, q2, q4, q5, q6, q9⟩ => wpAny_evalPart_none ?_) fun _ _ e => e)) fun _ _ e => e))) fun _ _ e => e)
  obtain ⟨tx, rfl⟩ := q2
  obtain ⟨t, rfl⟩ := q5
  obtain ⟨t', rfl⟩ := q6
  obtain ⟨T, id, hl, hT, hg⟩ := SBH.sliceItem_ss (A := A) (E := E) (t := tx) (s := s3) (P := fun h' : Heap => ∀ b o, s3.heap.get? b = some o → h'.get? b = some o) keptAll (fun _ _ e => e) (fun h' t' tk hk => q9 _ _ (S2.keep (s' := { s3 with heap := h', toks := tk }) hk rfl rfl) ⟨_, rfl⟩) (by rw [sizeLine_eq]; omega)
  exact r_subT (ops := [.ref s3.heap.objs.size, .str x tx]) hT hl hg (by with_unfolding_all rfl)
inductive StU (C : Cx) (env : Env) (f : Str → Int → Str) (o uv : Value) (Q : Value → Shared → Prop) (s : Shared) : Prop
  | mk (B : Heap) (W : Addr → Prop) (F : List (Str × V)) (H : AH) (x : Str) (j : Int) (S : Sf C B W env F H s) (h1 : V.R (.str x) o) (h2 : x.length ≤ 1000) (h4 : V.R (.int j) uv) (h5 : Go C B W env F H (.str (f x j)) Q)
theorem r_strUpto {ve upper : Expr} {p pos : Pos} (h : wpAny (model C.prog C.w) A (eval ve env) (fun o s1 => wpAny (model C.prog C.w) A (eval upper env) (fun uv s3 => StU C env (fun x j => Txt.slice x none (some j)) o uv Q s3) E s1) E s) :
    wpAny (model C.prog C.w) A (eval (.Subscript ve (.Slice none (some upper) none p) pos) env) Q E s := by
  refine Subscript_ (wpAny_mono h (fun o s1 h1 => wpAny_Slice (wpAny_evalPart_none (wpAny_evalPart_some (wpAny_mono h1 (fun uv s3 ⟨B, W, F2, H2, x, j, S2, q2, q4, q6, q9⟩ => wpAny_evalPart_none ?_) fun _ _ e => e)))) fun _ _ e => e)
  obtain ⟨tx, rfl⟩ := q2
  obtain ⟨t', rfl⟩ := q6
  obtain ⟨T, id, hl, hT, hg⟩ := SBH.sliceItem_ns (A := A) (E := E) (t := tx) (s := s3) (P := fun h' : Heap => ∀ b o, s3.heap.get? b = some o → h'.get? b = some o) keptAll (fun _ _ e => e) (fun h' t' tk hk => q9 _ _ (S2.keep (s' := { s3 with heap := h', toks := tk }) hk rfl rfl) ⟨_, rfl⟩) (by rw [sizeLine_eq]; omega)
  exact r_subT (ops := [.ref s3.heap.objs.size, .str x tx]) hT hl hg (by with_unfolding_all rfl)
theorem r_strFrom {ve lower : Expr} {p pos : Pos} (h : wpAny (model C.prog C.w) A (eval ve env) (fun o s1 => wpAny (model C.prog C.w) A (eval lower env) (fun uv s3 => StU C env (fun x j => Txt.slice x (some j) none) o uv Q s3) E s1) E s) :
    wpAny (model C.prog C.w) A (eval (.Subscript ve (.Slice (some lower) none none p) pos) env) Q E s := by
  refine Subscript_ (wpAny_mono h (fun o s1 h1 => wpAny_Slice (wpAny_evalPart_some (wpAny_mono h1 (fun uv s3 ⟨B, W, F2, H2, x, j, S2, q2, q4, q6, q9⟩ => wpAny_evalPart_none (wpAny_evalPart_none ?_)) fun _ _ e => e))) fun _ _ e => e)
  obtain ⟨tx, rfl⟩ := q2
  obtain ⟨t', rfl⟩ := q6
  obtain ⟨T, id, hl, hT, hg⟩ := SBH.sliceItem_sn (A := A) (E := E) (t := tx) (s := s3) (P := fun h' : Heap => ∀ b o, s3.heap.get? b = some o → h'.get? b = some o) keptAll (fun _ _ e => e) (fun h' t' tk hk => q9 _ _ (S2.keep (s' := { s3 with heap := h', toks := tk }) hk rfl rfl) ⟨_, rfl⟩) (by rw [sizeLine_eq]; omega)
  exact r_subT (ops := [.ref s3.heap.objs.size, .str x tx]) hT hl hg (by with_unfolding_all rfl)
end
theorem sl_run (l : List Nat) {i j : Nat} (h1 : i ≤ j) (h2 : j ≤ l.length) : Txt.slice (St l) (some (i : Int)) (some (j : Int)) = St ((l.drop i).take (j - i)) := by
  have := eq_of_beq (slice_closesL (x := St l) (i := (i : Int)) (j := (j : Int)) (by omega) (by omega) (by rw [St_len]; omega))
  rw [this]
  simp
theorem sl_upto (l : List Nat) {j : Nat} (h2 : j ≤ l.length) : Txt.slice (St l) none (some (j : Int)) = St (l.take j) := by
  have := eq_of_beq (slice_closes_toL (x := St l) (j := (j : Int)) (by omega) (by rw [St_len]; omega))
  rw [this]
  simp
theorem sl_from (l : List Nat) {i : Nat} (h2 : i ≤ l.length) : Txt.slice (St l) (some (i : Int)) none = St (l.drop i) := by
  have := slice_from_eq (x := St l) (i := (i : Int)) (b := (l.length : Nat)) (by omega) (by rw [St_len]; omega) (by rw [St_len])
  rw [this]
  simp
  rw [List.take_of_length_le]
  rw [List.length_drop]; omega
theorem sl_neg (x : Str) (i : Int) {j : Int} (h1 : j < 0) (h2 : 0 ≤ j + x.length) : Txt.slice x (some i) (some j) = Txt.slice x (some i) (some (j + x.length)) := by
  have e1 : (if j < 0 then j + (x.length : Int) else j) = j + x.length := if_pos h1
  have e2 : (if j + (x.length : Int) < 0 then j + (x.length : Int) + x.length else j + x.length) = j + x.length := if_neg (by omega)
  have key : Builtin.Str.strSliceIndices (some i) (some j) 1 x.length = Builtin.Str.strSliceIndices (some i) (some (j + x.length)) 1 x.length := by
    unfold Builtin.Str.strSliceIndices
    dsimp only
    simp only [e1, e2]
  exact congrArg (fun idx : List Nat => if ((1 : Int) == 1 && idx.length == x.length) = true then x else ⟨(idx.filterMap (x.cps[·]?)).toArray⟩) key
end
section -- Y35
variable {prog : Program} {w : World} {os : OsState} {ob : Obj} {n0 : Nat} {B : Heap} {W : Addr → Prop} {env : Env} {F : List (Str × V)} {H : AH} {s : Shared} {A : Around} {E : Value → Shared → Prop} {r1 r2 : Value}
noncomputable def trS (c : Nat) : V := .str (St [if c = 63 then 46 else c])
inductive J189 (H : AH) (q Ra star : Addr) (pat : List Nat) (mm : Nat) (F' : List (Str × V)) (H' : AH) : Prop
  | mk (i : Nat) (h1 : F' = ([("i", .int i), ("n", .int pat.length), ("add", .ref q), ("res", .ref Ra), ("pat", .str (St pat)), ("STAR", .ref star), ("QUESTION_MARK", .str (St [46]))] : List (Str × V))) (h2 : mm = pat.length - i) (h3 : i ≤ pat.length) (h4 : Ext H H') (h5 : H' Ra = some (.list ((pat.take i).map trS))) (h6 : H' q = some (.raw (baObj (.builtin "list.append") (.ref Ra))))
set_option maxHeartbeats 4000000 in
theorem sp189 {m : Nat} (S : Sf (CC prog w os ob n0) B W env F H s) (hb : BOk ob) (R : Rm (m + 4) A) {pat : List Nat} (hpat : ∀ c ∈ pat, c = 48 ∨ c = 49 ∨ c = 63) (hz : pat.length ≤ 100) (hr : V.R (.str (St pat)) r1) {star : Addr} {r3 : Value} (h3 : V.R (.str (St [46])) r3) {Q : Value → Shared → Prop}
    (k : ∀ a H' s', Ext H H' → H a = none → H' a = some (.list (pat.map trS)) → Sf (CC prog w os ob n0) B W env F H' s' → Q (.ref a) s') :
    wpAny (model prog w) A (call (.ref 189) [r1, .ref star, r3]) Q E s := by
  refine r_call S R (fn189 w.params ob) (vals := [r1, .ref star, r3]) (binds := [("pat", r1), ("STAR", .ref star), ("QUESTION_MARK", r3)]) (F' := [("pat", .str (St pat)), ("STAR", .ref star), ("QUESTION_MARK", .str (St [46]))]) (by kernel_rfl) (.cons ⟨rfl, hr⟩ (.two ⟨rfl, rfl⟩ ⟨rfl, h3⟩)) (of_decide_eq_true (by kernel_rfl)) (by kernel_rfl) (ok189 _) fun env' s1 Ge S1 => ?_
  refine gq ?_; intro QF hQF
  have hR := R.deeper env'
  refine q_cons ?_
  walk_at "w"
  refine q_list (q_sp0 ⟨_, _, [], by assumption, .nil, by decide, fun Ra s2 hRa S2 => ?_⟩)
  refine r_store (v := .ref Ra) Ge S2 rfl rfl ?_; intro s3 S3
  refine letS S3 ?_; intro _ S3
  walk_at "w"
  refine a_append (by assumption) (by assumption) (AH.set_self ..) ?_; intro q s4 hq S4
  refine r_store (v := .ref q) Ge S4 rfl rfl ?_; intro s5 S5
  refine letS S5 ?_; intro _ S5
  refine q_next (q_cons ?_)
  obtain ⟨nqR, hq'⟩ := fresh_ne hq
  have e0 : Ext H ((H.set Ra (.list [])).set q (.raw (baObj (.builtin "list.append") (.ref Ra)))) := ((Ext.refl H).put hRa _).put hq' _
  have hR0 : ((H.set Ra (.list [])).set q (.raw (baObj (.builtin "list.append") (.ref Ra)))) Ra = some (.list []) := by exact AH.set_at (AH.set_self ..) (Ne.symm nqR)
  have hq0 : ((H.set Ra (.list [])).set q (.raw (baObj (.builtin "list.append") (.ref Ra)))) q = some (.raw (baObj (.builtin "list.append") (.ref Ra))) := AH.set_self ..
  generalize ((H.set Ra (.list [])).set q (.raw (baObj (.builtin "list.append") (.ref Ra)))) = H5 at S5 e0 hR0 hq0
  refine r_asg2 Ge S5 hR.handled rfl rfl ?_
  walk_at "w"
  refine PyProof.Rows.callWith_builtin1 ?_
  walk_at "w"
  refine m_lenS (by assumption) (by assumption) (by omega) ?_; intro v6 s6 S6 h6
  walk_at "w"
  refine ⟨_, _, .int 0, .int pat.length, by assumption, .two (by assumption) h6, fun s7 S7 => ?_⟩
  refine q_next (q_cons ?_)
  refine r_while (J189 H q Ra star pat) S7
    ⟨0, rfl, rfl, Nat.zero_le _, e0, by simpa using hR0, hq0⟩ ?_
  rintro mm F7 H7 s8 E8 ⟨i, rfl, rfl, hi, e7, hR7, hq7⟩ S8
  refine gq ?_; intro QW hQW
  walk_at "w"
  refine c_lt (by assumption) (by assumption) ?_
  walk_at "w"
  by_cases hlt : i < pat.length
  · refine ifQ_tt (by simpa using hlt) ?_
    refine gq ?_; intro QB hQB
    obtain ⟨c, hc⟩ : ∃ c, pat[i]? = some c := ⟨_, List.getElem?_eq_getElem hlt⟩
    refine q_cons ?_
    walk_at "w"
    refine sub_strI (by assumption) (by assumption) (by assumption) (by omega) (by simpa using hc) (by omega) ?_; intro v9 s9 S9 h9
    refine r_store (v := .str (St [c])) Ge S9 rfl h9 ?_; intro s10 S10
    refine letS S10 ?_; intro _ S10
    walk_at "w"
    refine b_add (by assumption) (by assumption) (by assumption) ?_; intro v11 s11 S11 h11
    refine r_store (v := .int ((i : Int) + 1)) Ge S11 rfl h11 ?_; intro s12 S12
    refine letS S12 ?_; intro _ S12
    walk_at "w"
    refine c_eqS (by assumption) (by assumption) ?_
    walk_at "w"
    have hcp := hpat c (List.mem_of_getElem? hc)
    refine ifQ_ff (by rcases hcp with rfl | rfl | rfl <;> decide +kernel) ?_
    walk_at "w"
    refine c_eqS (by assumption) (by assumption) ?_
    walk_at "w"
    have stp : ((pat.take (i + 1)).map trS) = (pat.take i).map trS ++ [trS c] := by rw [List.take_add_one, hc]; simp
    have hzl : ((pat.take i).map trS).length ≤ 1000 := ar_map (ar_take hz) (by decide)
    by_cases hq63 : c = 63
    · refine ifQ_tt (by subst hq63; decide +kernel) ?_
      walk_at "w"
      rename_i rvq hrvq
      obtain rfl := hrvq
      refine q_callBa (f := .builtin "list.append") (self := .ref Ra) ?_
      walk_at "w"
      refine ⟨Sf.rawAt (by assumption) hq7, ?_⟩
      refine ba_call (v := .str (St [46])) (by assumption) hq7 hR7 hzl (by assumption) ?_; intro s13 S13
      walk_at "w"
      have nq : q ≠ Ra := nqR
      refine ⟨pat.length - (i + 1), _, _, ar_dec hlt, S13.pick (F' := [("i", .int ((i + 1 : Nat) : Int)), ("n", .int pat.length), ("add", .ref q), ("res", .ref Ra), ("pat", .str (St pat)), ("STAR", .ref star), ("QUESTION_MARK", .str (St [46]))]) ⟨rfl, rfl, rfl, rfl, rfl, rfl, rfl, trivial⟩, i + 1, rfl, rfl, hlt, ext_fresh' e7 hRa _, ?_, by exact AH.set_at (hq7) nq⟩
      rw [stp, AH.set_self]
      unfold trS
      rw [if_pos hq63]
    · refine ifQ_ff (by rcases hcp with rfl | rfl | rfl <;> first | decide +kernel | exact absurd rfl hq63) ?_
      walk_at "w"
      refine c_eqS (by assumption) (by assumption) ?_
      walk_at "w"
      refine ifQ_ff (by rcases hcp with rfl | rfl | rfl <;> decide +kernel) ?_
      walk_at "w"
      rename_i rvq hrvq
      obtain rfl := hrvq
      refine q_callBa (f := .builtin "list.append") (self := .ref Ra) ?_
      walk_at "w"
      refine q_callK (by assumption) (kp_escape _ _) ?_
      walk_at "w"
      refine ⟨Sf.k (by assumption), ?_⟩
      refine sp182 (c := c) (by assumption) hb hR (by rcases hcp with h | h | h; exact .inl h; exact .inr h; exact absurd h hq63) (by assumption) ?_; intro v14 s14 S14 h14
      walk_at "w"
      refine ⟨S14.rawAt hq7, ?_⟩
      refine ba_call (v := .str (St [c])) S14 hq7 hR7 hzl h14 ?_; intro s13 S13
      walk_at "w"
      refine ⟨pat.length - (i + 1), _, _, ar_dec hlt, S13.pick (F' := [("i", .int ((i + 1 : Nat) : Int)), ("n", .int pat.length), ("add", .ref q), ("res", .ref Ra), ("pat", .str (St pat)), ("STAR", .ref star), ("QUESTION_MARK", .str (St [46]))]) ⟨rfl, rfl, rfl, rfl, rfl, rfl, rfl, trivial⟩, i + 1, rfl, rfl, hlt, ext_fresh' e7 hRa _, ?_, by exact AH.set_at (hq7) nqR⟩
      rw [stp, AH.set_self]
      unfold trS
      rw [if_neg hq63]
  · refine ifQ_ff (by simpa using hlt) ?_
    walk_at "w"
    have hie : i = pat.length := by omega
    refine wpAny_Assert_holds ?_
    walk_at "w"
    refine c_eq (by assumption) (by assumption) ?_
    walk_at "w"
    refine ⟨by simp [hie], ?_⟩
    walk_at "w"
    rename_i rvo hrvo
    obtain rfl := hrvo
    rw [hie, List.take_length] at hR7
    exact ⟨_, _, by assumption, fun S9 => k Ra H7 _ e7 hRa hR7 S9⟩
end
section -- Y36
variable {prog : Program} {w : World} {os : OsState} {ob : Obj} {n0 : Nat} {B : Heap} {W : Addr → Prop} {env : Env} {F : List (Str × V)} {H : AH} {s : Shared} {A : Around} {E : Value → Shared → Prop} {r1 r2 : Value}
theorem strs_of : ∀ {xs : List Str} {vs : List Value}, A2 V.R (xs.map V.str) vs → ∃ l : List (Str × Tok), strValues l = vs ∧ l.map (·.1) = xs
  | [], _, h => by cases h; exact ⟨[], rfl, rfl⟩
  | x :: xs, _, h => by
    cases h with
    | cons a h =>
      obtain ⟨l, h1, h2⟩ := strs_of h
      obtain ⟨t, rfl⟩ := a
      exact ⟨(x, t) :: l, by rw [← h1]; rfl, by rw [List.map_cons, h2]⟩
theorem ones_sum : ∀ l : List Nat, ((l.map fun c => St [c]).map (·.length)).sum = l.length
  | [] => rfl
  | c :: l => by
    have ih := ones_sum l
    rw [List.map_cons, List.map_cons, List.sum_cons, ih]; exact Nat.add_comm _ _
theorem m_join {C : Cx} {Q : Value → Shared → Prop} {a : Addr} {l : List Nat} (S : Sf C B W env F H s) (h1 : V.R (.str (Str.ofString "")) r1) (ha : H a = some (.list ((l.map fun c => St [c]).map V.str))) (hz : l.length ≤ 1000) (k : Go C B W env F H (.str (St l)) Q) :
    wpAny (model C.prog C.w) A (call (.builtin "str.join") [r1, .ref a]) Q E s := by
  obtain ⟨t, rfl⟩ := h1
  obtain ⟨vs, n, x1, y1⟩ := S.isL ha
  obtain ⟨ls, h2, h3⟩ := strs_of y1
  have e : (Str.ofString "") = (⟨#[]⟩ : Str) := by decide +kernel
  have hj : Txt.join (Str.ofString "") (ls.map (·.1)) = St l := by
    rw [h3, e]
    have := eq_of_beq (join_closes (sep := ⟨#[]⟩) (sep' := ⟨#[]⟩) (ys := l.map fun c => St [c]) rfl)
    rw [this]
    exact join_ones l
  have hok : Builtin.Str.tooLong ((ls.map (·.1)).toArray.foldl (· + ·.length + (Str.ofString "").length) 0) = false := by
    rw [h3, StrLaws.joinTotal]
    have hs := ones_sum l
    rw [hs, e]
    unfold Builtin.Str.tooLong
    have e0 : (⟨#[]⟩ : Str).length = 0 := rfl
    rw [e0, Nat.mul_zero, Nat.add_zero, decide_eq_false]
    rw [sizeLine_eq]; omega
  refine call_meets PySem.F.slot_str_join (typeIs_str _ _ _) PySem.F.entry_str_join (PySem.F.args_str_join_2 _ _) (meets_str_join_list _ t a ls hok) ⟨?_, post_join ls ⟨?_, fun t' tk => ?_⟩⟩
  · rw [h2]; simpa using x1.isList
  · rw [hj, St_len, sizeLine_eq]; omega
  · rw [hj]; exact k _ _ (S.tok tk) ⟨_, rfl⟩
theorem c_isNotSR {C : Cx} {Q : Value → Shared → Prop} {x : Str} {a : Addr} (h1 : V.R (.str x) r1) (h2 : V.R (.ref a) r2) (k : Q (.bool true) s) : wpAny (model C.prog C.w) A (compareOp .IsNot r1 r2) Q E s := by
  obtain ⟨t, rfl⟩ := h1
  obtain rfl := h2
  exact wpAny_isNot_other rfl (by simp) k
noncomputable def jnS (l : List Nat) : Str := St ([40, 63, 115, 58] ++ l ++ [41, 92, 90])
theorem j_cons {M : Model} {e : Expr} {rest : List Expr} {acc : Str} {Q : Str → Shared → Prop} (h : wpAny M A (eval e env) (fun v s₁ => ∃ y, V.R (.str y) v ∧ (acc ++ y).length ≤ sizeLine ∧ Joins M A E (evalEach rest env) (acc ++ y) Q s₁) E s) : Joins M A E (evalEach (e :: rest) env) acc Q s :=
  wpAny_mono h (fun v s1 ⟨y, ⟨t, e⟩, h2⟩ => ⟨y, t, e, h2⟩) fun _ _ e => e
theorem j_nil {M : Model} {acc : Str} {Q : Str → Shared → Prop} (h : Q acc s) : Joins M A E (evalEach [] env) acc Q s := h
theorem ff_str {C : Cx} {x : Str} {Q : Value → Shared → Prop} (S : Sf C B W env F H s) (h1 : V.R (.str x) r1) (hz : x.length ≤ 1000) (k : ∀ t s', Sf C B W env F H s' → Q (.str x t) s') : wpAny (model C.prog C.w) A (formatField r1 Str.empty) Q E s := by
  obtain ⟨t, rfl⟩ := h1
  exact wpAny_formatField_str (k _ _ S) (k _ _ (S.tok _)) (by rw [sizeLine_eq]; omega)
theorem St_app (a b : List Nat) : St a ++ St b = St (a ++ b) := by
  show (⟨a.toArray ++ b.toArray⟩ : Str) = ⟨(a ++ b).toArray⟩
  simp
theorem jn_eq (l : List Nat) : Str.empty ++ Str.ofString "(?s:" ++ St l ++ Str.ofString ")\\Z" = jnS l := by
  have e1 : Str.empty ++ Str.ofString "(?s:" = St [40, 63, 115, 58] := by decide +kernel
  have e2 : Str.ofString ")\\Z" = St [41, 92, 90] := by decide +kernel
  rw [e1, e2, St_app, St_app]
  rfl
inductive J196 (H : AH) (q Ra star a : Addr) (l : List Nat) (mm : Nat) (F' : List (Str × V)) (H' : AH) : Prop
  | mk (i : Nat) (h1 : F' = ([("i", .int i), ("n", .int l.length), ("add", .ref q), ("res", .ref Ra), ("inp", .ref a), ("STAR", .ref star)] : List (Str × V))) (h2 : mm = l.length - i) (h3 : i ≤ l.length) (h4 : Ext H H') (h5 : H' Ra = some (.list (((l.take i).map fun c => St [c]).map V.str))) (h6 : H' q = some (.raw (baObj (.builtin "list.append") (.ref Ra))))
set_option maxHeartbeats 4000000 in
theorem sp196 {m : Nat} (S : Sf (CC prog w os ob n0) B W env F H s) (hb : BOk ob) (R : Rm (m + 2) A) {a : Addr} {l : List Nat} (ha : H a = some (.list ((l.map fun c => St [c]).map V.str))) (hz : l.length ≤ 100) {star : Addr} {Q : Value → Shared → Prop}
    (k : ∀ rv H' s', Ext H H' → V.R (.str (jnS l)) rv → Sf (CC prog w os ob n0) B W env F H' s' → Q rv s') :
    wpAny (model prog w) A (call (.ref 196) [.ref a, .ref star]) Q E s := by
  refine r_call S R (fn196 w.params ob) (vals := [.ref a, .ref star]) (binds := [("inp", .ref a), ("STAR", .ref star)]) (F' := [("inp", .ref a), ("STAR", .ref star)]) (by kernel_rfl) (.two ⟨rfl, rfl⟩ ⟨rfl, rfl⟩) (of_decide_eq_true (by kernel_rfl)) (by kernel_rfl) (ok196 _) fun env' s1 Ge S1 => ?_
  refine gq ?_; intro QF hQF
  have hR := R.deeper env'
  refine q_cons ?_
  walk_at "w"
  refine q_list (q_sp0 ⟨_, _, [], by assumption, .nil, by decide, fun Ra s2 hRa S2 => ?_⟩)
  refine r_store (v := .ref Ra) Ge S2 rfl rfl ?_; intro s3 S3
  refine letS S3 ?_; intro _ S3
  walk_at "w"
  refine a_append (by assumption) (by assumption) (AH.set_self ..) ?_; intro q s4 hq S4
  refine r_store (v := .ref q) Ge S4 rfl rfl ?_; intro s5 S5
  refine letS S5 ?_; intro _ S5
  refine q_next (q_cons ?_)
  obtain ⟨nqR, hq'⟩ := fresh_ne hq
  have e0 : Ext H ((H.set Ra (.list [])).set q (.raw (baObj (.builtin "list.append") (.ref Ra)))) := ((Ext.refl H).put hRa _).put hq' _
  have hR0 : ((H.set Ra (.list [])).set q (.raw (baObj (.builtin "list.append") (.ref Ra)))) Ra = some (.list []) := by exact AH.set_at (AH.set_self ..) (Ne.symm nqR)
  have hq0 : ((H.set Ra (.list [])).set q (.raw (baObj (.builtin "list.append") (.ref Ra)))) q = some (.raw (baObj (.builtin "list.append") (.ref Ra))) := AH.set_self ..
  generalize ((H.set Ra (.list [])).set q (.raw (baObj (.builtin "list.append") (.ref Ra)))) = H5 at S5 e0 hR0 hq0
  refine r_asg2 Ge S5 hR.handled rfl rfl ?_
  walk_at "w"
  refine PyProof.Rows.callWith_builtin1 ?_
  walk_at "w"
  refine mm_len (by assumption) (by assumption) (e0 _ _ ha) (by rw [List.length_map]; exact ar_map hz (by decide)) ?_; intro v6 s6 S6 h6
  rw [List.length_map, List.length_map] at h6
  walk_at "w"
  refine ⟨_, _, .int 0, .int l.length, by assumption, .two (by assumption) h6, fun s7 S7 => ?_⟩
  refine q_next (q_cons ?_)
  refine r_while (J196 H q Ra star a l) S7
    ⟨0, rfl, rfl, Nat.zero_le _, e0, by simpa using hR0, hq0⟩ ?_
  rintro mm F7 H7 s8 E8 ⟨i, rfl, rfl, hi, e7, hR7, hq7⟩ S8
  refine gq ?_; intro QW hQW
  walk_at "w"
  refine c_lt (by assumption) (by assumption) ?_
  walk_at "w"
  by_cases hlt : i < l.length
  · refine ifQ_tt (by simpa using hlt) ?_
    refine gq ?_; intro QB hQB
    obtain ⟨c, hc⟩ : ∃ c, l[i]? = some c := ⟨_, List.getElem?_eq_getElem hlt⟩
    have hcl : ((l.map fun c => St [c]).map V.str)[(i : Int).toNat]? = some (.str (St [c])) := by simp [hc]
    walk_at "w"
    refine sub_list (i := (i : Int)) (by assumption) (by assumption) (by assumption) (e7 _ _ ha) (Int.natCast_nonneg _) hcl (ar_in hlt hz (by decide)) ?_; intro v9 h9
    walk_at "w"
    refine c_isNotSR h9 (by assumption) ?_
    walk_at "w"
    refine ifQ_t ?_
    walk_at "w"
    refine ifQ_t ?_
    refine q_cons ?_
    walk_at "w"
    rename_i rvq hrvq
    obtain rfl := hrvq
    refine q_callBa (f := .builtin "list.append") (self := .ref Ra) ?_
    walk_at "w"
    refine sub_list (i := (i : Int)) (by assumption) (by assumption) (by assumption) (e7 _ _ ha) (Int.natCast_nonneg _) hcl (ar_in hlt hz (by decide)) ?_; intro v10 h10
    walk_at "w"
    refine ⟨Sf.rawAt (by assumption) hq7, ?_⟩
    refine ba_call (v := .str (St [c])) (by assumption) hq7 hR7 (by rw [List.length_map]; exact ar_map (ar_take hz) (by decide)) h10 ?_; intro s13 S13
    walk_at "w"
    refine b_iadd (by assumption) (by assumption) (by assumption) ?_; intro v11 s14 S14 h14
    refine r_store (v := .int ((i : Int) + 1)) Ge S14 rfl h14 ?_; intro s15 S15
    refine letS S15 ?_; intro _ S15
    walk_at "w"
    refine ⟨l.length - (i + 1), _, _, ar_dec hlt, S15.pick (F' := [("i", .int ((i + 1 : Nat) : Int)), ("n", .int l.length), ("add", .ref q), ("res", .ref Ra), ("inp", .ref a), ("STAR", .ref star)]) ⟨rfl, rfl, rfl, rfl, rfl, rfl, trivial⟩, i + 1, rfl, rfl, hlt, ext_fresh' e7 hRa _, ?_, by exact AH.set_at (hq7) nqR⟩
    rw [AH.set_self, List.take_add_one, hc]; simp
  · refine ifQ_ff (by simpa using hlt) ?_
    have hie : i = l.length := by omega
    walk_at "w"
    refine ifQ_f ?_
    walk_at "w"
    refine r_while (fun _ F' H' => F' = ([("i", .int i), ("n", .int l.length), ("add", .ref q), ("res", .ref Ra), ("inp", .ref a), ("STAR", .ref star)] : List (Str × V)) ∧ H' = H7) S8 (n := 0) ⟨rfl, rfl⟩ ?_
    rintro _ F9 H9 s9 E9 ⟨rfl, rfl⟩ S9
    walk_at "w"
    refine c_lt (by assumption) (by assumption) ?_
    walk_at "w"
    refine ifQ_ff (by simpa using hlt) ?_
    walk_at "w"
    refine wpAny_Assert_holds ?_
    walk_at "w"
    refine c_eq (by assumption) (by assumption) ?_
    walk_at "w"
    refine ⟨by simp [hie], ?_⟩
    walk_at "w"
    refine gm_str (by assumption) PySem.F.slot_str_join PySem.F.type_str_join ?_
    refine callWith_method1 ?_
    walk_at "w"
    rename_i rvq hrvq
    obtain rfl := hrvq
    rw [hie, List.take_length] at hR7
    refine m_join (by assumption) (by assumption) hR7 (Nat.le_trans hz (by decide)) ?_; intro v16 s16 S16 h16
    refine r_store (v := .str (St l)) Ge S16 rfl h16 ?_; intro s17 S17
    refine letS S17 ?_; intro _ S17
    walk_at "w"
    refine wpAny_JoinedStr ?_
    refine j_cons ?_
    walk_at "w"
    rename_i rc1 s18 S18 hrc1
    refine ⟨_, hrc1, by decide +kernel, j_cons (wpAny_FormattedValue_plain ?_)⟩
    walk_at "w"
    refine ff_str (by assumption) (by assumption) (by rw [St_len]; exact Nat.le_trans hz (by decide)) fun t2 s19 S19 => ?_
    have hl0 : (Str.empty ++ Str.ofString "(?s:").length = 4 := by decide +kernel
    have hl3 : (Str.ofString ")\\Z").length = 3 := by decide +kernel
    refine ⟨_, ⟨t2, rfl⟩, by rw [strLen_append, hl0, St_len, sizeLine_eq]; omega, j_cons ?_⟩
    walk_at "w"
    rename_i rc3 s20 S20 hrc3
    refine ⟨_, hrc3, by rw [strLen_append, strLen_append, hl0, St_len, hl3, sizeLine_eq]; omega, j_nil ⟨by rw [strLen_append, strLen_append, hl0, St_len, hl3, sizeLine_eq]; omega, ?_⟩⟩
    walk_at "w"
    refine ⟨_, _, S20.tok _, fun S21 => k _ H9 _ e7 (by rw [← jn_eq]; exact ⟨_, rfl⟩) S21⟩
end
section -- Y37
variable {prog : Program} {w : World} {os : OsState} {ob : Obj} {n0 : Nat} {B : Heap} {W : Addr → Prop} {env : Env} {F : List (Str × V)} {H : AH} {s : Shared} {A : Around} {E : Value → Shared → Prop} {r1 r2 : Value}
theorem mro_object : mroOf (.type "object") = pure [.type "object"] := by rw [mroOf_type]; kernel_rfl
theorem lookup_object_new : typeLookup (.type "object") "__new__" = pure (some (.builtin "object.__new__")) := by rw [typeLookup_type, builtinLookup_eq_fast]; kernel_rfl
theorem called_object : TypeCalled "object" "object.__new__" "object.__init__" :=
  ⟨by decide +kernel, by decide +kernel, ⟨_, _, mro_object⟩, madeBy_type mro_object lookup_object_new (by decide +kernel), by decide +kernel, by rw [isSubtype_type]; kernel_rfl, PySem.F.slot_object_init⟩
theorem typeCall_object_0 : checkTypeCall "object" ⟨[], []⟩ = pure () := by kernel_rfl
theorem newCall_object_0 : checkBuiltinCall "object.__new__" ⟨[.type "object"], []⟩ = pure () := by kernel_rfl
theorem entry_object_new : entryFor table "object.__new__" = some Builtin.«object.__new__» := entryFor_of_tree (by kernel_rfl)
theorem plain_object_new : plainId "object.__new__" = true := by decide +kernel
theorem obj_noNew : ((Manifest.find? "object").elim false fun b => b.mro.any fun t => (Manifest.find? t).elim false (·.noNew)) = false := by decide +kernel
theorem madeHere_object : Bind.madeHere "object.__new__" (.type "object") = pure () := by kernel_rfl
theorem obj_dict : typeHasDict (.type "object") = false := by decide +kernel
theorem obj_del : diesByItsTypesDel "object" = false := by decide +kernel
noncomputable def obObj : Obj := { cls := .type "object", data := .plain }
theorem code_object_new {M : Model} (hM : M = model prog w) {Q₁ : Value → Shared → Prop}
    (h : Q₁ (.ref s.heap.objs.size) { s with heap := s.heap.push obObj }) :
    codeAny M A (.call (.builtin "object.__new__") ⟨[.type "object"], []⟩) (wants Q₁ E) s := by
  subst hM
  refine codeAny_of_tree ?_
  show wpAny _ A.in1 (do checkBuiltinCall "object.__new__" ⟨[.type "object"], []⟩; again (.builtin "object.__new__" ⟨[.type "object"], []⟩)) _ _ s
  refine wpAny_bind (wpAny_of_eq newCall_object_0 (wpAny_pure ⟨plainId_quiet plain_object_new _, codeAny_builtin entry_object_new ?_⟩))
  rw [Around.under_plainId plain_object_new _]
  have h1 := obj_noNew
  have h2 := madeHere_object
  have h3 := obj_dict
  have h4 := obj_del
  obtain ⟨hp, g, d, tk, os⟩ := s
  unfold Builtin.«object.__new__»
  wp_walk
  exact h
theorem c_object {C : Cx} {Q : Value → Shared → Prop} (S : Sf C B W env F H s) (k : ∀ a s', H a = none → Sf C B W env F (H.set a (.raw obObj)) s' → Q (.ref a) s') : wpAny (model C.prog C.w) A (call (.type "object") []) Q E s := by
  refine callType_codes (Q₁ := fun obj s₁ => obj = .ref s.heap.objs.size ∧ s₁ = { s with heap := s.heap.push obObj }) called_object typeCall_object_0 PySem.F.entry_object_init
    (code_object_new rfl ⟨rfl, rfl⟩) fun obj s₁ h₁ => ?_
  obtain ⟨rfl, rfl⟩ := h₁
  have hS : (s.heap.push obObj).get? s.heap.objs.size = some obObj := Heap.get?_push_size _ rfl
  have hn := S.new (a := s.heap.objs.size) (o := .raw obObj) (s' := { s with heap := s.heap.push obObj }) (fun b o e => Heap.get?_push_of_some _ e) (Nat.le_refl _) hS rfl rfl rfl
  refine ⟨⟨_, hS, rfl⟩, PySem.F.args_object_init_1 _, ?_⟩
  unfold Builtin.«object.__init__»
  wp_walk
  exact ⟨rfl, k _ _ hn.1 hn.2⟩
noncomputable def sgS (c : Nat) : Nat := if c = 63 then 46 else c
theorem trS_eq (pat : List Nat) : pat.map trS = ((pat.map sgS).map fun c => St [c]).map V.str := by
  rw [List.map_map, List.map_map]; rfl
set_option maxHeartbeats 4000000 in
theorem sp170 {m : Nat} (S : Sf (CC prog w os ob n0) B W env F H s) (hb : BOk ob) (R : Rm (m + 6) A) {pat : List Nat} (hpat : ∀ c ∈ pat, c = 48 ∨ c = 49 ∨ c = 63) (hz : pat.length ≤ 100) (hr : V.R (.str (St pat)) r1) {Q : Value → Shared → Prop}
    (k : ∀ rv H' s', Ext H H' → V.R (.str (jnS (pat.map sgS))) rv → Sf (CC prog w os ob n0) B W env F H' s' → Q rv s') :
    wpAny (model prog w) A (call (.ref 170) [r1]) Q E s := by
  refine r_call S R (fn170 w.params ob) (vals := [r1]) (binds := [("pat", r1)]) (F' := [("pat", .str (St pat))]) (by kernel_rfl) (.one ⟨rfl, hr⟩) (of_decide_eq_true (by kernel_rfl)) (by kernel_rfl) (ok170 _) fun env' s1 Ge S1 => ?_
  refine gq ?_; intro QF hQF
  have hR := R.deeper env'
  refine q_cons ?_
  walk_at "w"
  refine PyProof.Rows.callWith_type0 ?_
  refine c_object (by assumption) ?_; intro a s2 ha S2
  refine r_store (v := .ref a) Ge S2 rfl rfl ?_; intro s3 S3
  have e0 : Ext H (H.set a (.raw obObj)) := (Ext.refl H).put ha _
  refine q_next (q_cons ?_)
  walk_at "w"
  refine q_callK (by assumption) (by kernel_rfl) ?_
  walk_at "w"
  rename_i rvp hrvp rva hrva rvd s4 S4 hrvd
  obtain rfl := hrva
  refine ⟨S4.k, sp189 (m := m) S4 hb (hR.mono (by omega)) hpat hz hrvp hrvd ?_⟩
  intro pa H5 s5 e5 hpn hpa S5
  refine r_store (v := .ref pa) Ge S5 rfl rfl ?_; intro s6 S6
  refine q_next (q_cons ?_)
  walk_at "w"
  refine q_callK (by assumption) (by kernel_rfl) ?_
  walk_at "w"
  rename_i r7 hr7 r8 hr8
  obtain rfl := hr7
  obtain rfl := hr8
  rw [trS_eq] at hpa
  refine ⟨S6.k, sp196 (m := m) S6 hb (hR.mono (by omega)) hpa (by rw [List.length_map]; exact hz) ?_⟩
  intro rv H9 s9 e9 hrv S9
  walk_at "w"
  exact ⟨_, _, S9, fun S21 => k rv H9 _ ((e0.trans e5).trans e9) hrv S21⟩
end
section -- Y38
variable {prog : Program} {w : World} {os : OsState} {ob : Obj} {n0 : Nat} {B : Heap} {W : Addr → Prop} {env : Env} {F : List (Str × V)} {H : AH} {s : Shared} {A : Around} {E : Value → Shared → Prop} {r1 r2 : Value}
theorem c_in2S {C : Cx} {Q : Value → Shared → Prop} {x y z : Str} {T : Addr} (S : Sf C B W env F H s) (h1 : V.R (.str x) r1) (h2 : V.R (.ref T) r2) (hT : H T = some (.tup [.str y, .str z])) (k : Q (.bool (decide (x = y ∨ x = z))) s) : wpAny (model C.prog C.w) A (compareOp .In r1 r2) Q E s := by
  obtain ⟨t, rfl⟩ := h1
  obtain rfl := h2
  obtain ⟨vs, n, x1, y1⟩ := S.isTup hT
  obtain ⟨l⟩ := vs
  cases y1 with
  | cons a y1 =>
    cases y1 with
    | cons b y1 =>
      cases y1
      obtain ⟨ta, rfl⟩ := a
      obtain ⟨tb, rfl⟩ := b
      refine in_tuple_strs ⟨_, x1, rfl, _, rfl⟩ (.cons _ _ (.cons _ _ .nil)) ?_
      have e : ([y, z].any fun c => c == x) = decide (x = y ∨ x = z) := by
        rw [Bool.eq_iff_iff]
        simp only [List.any_cons, List.any_nil, Bool.or_false, Bool.or_eq_true, beq_iff_eq, decide_eq_true_eq]
        constructor
        · rintro (h | h)
          · exact .inl h.symm
          · exact .inr h.symm
        · rintro (h | h)
          · exact .inl h.symm
          · exact .inr h.symm
      rw [e]; exact k
theorem St_inj {a b : List Nat} : St a = St b ↔ a = b := by
  constructor
  · intro h
    have := congrArg (fun s : Str => s.cps.toList) h
    simpa using this
  · rintro rfl; rfl
noncomputable def fitsP (t nm : List Nat) : Bool := (List.range 5).all fun j => decide (t.getD j 0 = 46 ∨ t.getD j 0 = nm.getD j 0)
noncomputable def flipC (c : Nat) : Nat := if c = 48 then 49 else 48
noncomputable def turn (ts : List (List Nat)) (nm : List Nat) (x : Int) : List Nat := if fitsP (ts.getD x.toNat []) nm then nm.take x.toNat ++ [flipC (nm.getD x.toNat 0)] ++ nm.drop (x.toNat + 1) else nm
theorem turn_len {ts : List (List Nat)} {nm : List Nat} {x : Int} (h : nm.length = 5) (h0 : 0 ≤ x) (h5 : x < 5) : (turn ts nm x).length = 5 := by
  unfold turn
  split
  · rw [List.length_append, List.length_append, List.length_take, List.length_drop, List.length_singleton, ar_cut (Nat.le_refl _) (ar_tn h0 h5 h)]; exact h
  · exact h
theorem jn_body (l : List Nat) (h : l.length = 5) : Txt.slice (jnS l) (some (4 : Int)) (some (-3 : Int)) = St l := by
  have hl : (jnS l).length = 12 := by unfold jnS; rw [St_len]; simp [h]
  rw [sl_neg (jnS l) 4 (j := -3) (by decide) (by rw [hl]; decide), hl]
  unfold jnS
  have := sl_run ([40, 63, 115, 58] ++ l ++ [41, 92, 90]) (i := 4) (j := 9) (by decide) (by simp [h])
  show Txt.slice _ (some ((4 : Nat) : Int)) (some ((9 : Nat) : Int)) = _
  rw [this]
  have e : ((([40, 63, 115, 58] ++ l ++ [41, 92, 90] : List Nat).drop 4).take (9 - 4)) = l := by
    show (l ++ [41, 92, 90]).take 5 = l
    rw [List.take_append_of_le_length (Nat.le_of_eq h.symm), List.take_of_length_le (Nat.le_of_eq h)]
  rw [e]
theorem jn_eq' (l : List Nat) : Str.ofString "(?s:" ++ St l ++ Str.ofString ")\\Z" = jnS l := by
  have e1 : Str.ofString "(?s:" = St [40, 63, 115, 58] := by decide +kernel
  have e2 : Str.ofString ")\\Z" = St [41, 92, 90] := by decide +kernel
  rw [e1, e2, St_app, St_app]
  rfl
set_option maxHeartbeats 4000000 in
theorem sp253 {m : Nat} (S : Sf (CC prog w os ob n0) B W env F H s) (hb : BOk ob) (R : Rm (m + 2) A) {nm : List Nat} {oa ta : Addr} {ord : List Int} {ts : List (List Nat)} (hnm : nm.length = 5) (h1 : V.R (.str (St nm)) r1) (ho : H oa = some (.list (iL ord))) (hord : ∀ x ∈ ord, 0 ≤ x ∧ x < 5) (hz : ord.length ≤ 100)
    (ht : H ta = some (.list (ts.map fun l => .str (jnS l)))) (ht5 : ts.length = 5) (hts : ∀ t ∈ ts, t.length = 5) {Q : Value → Shared → Prop}
    (k : ∀ rv H' s', Ext H H' → V.R (.str (St (ord.foldl (turn ts) nm))) rv → Sf (CC prog w os ob n0) B W env F H' s' → Q rv s') :
    wpAny (model prog w) A (call (.ref 253) [r1, .ref oa, .ref ta]) Q E s := by
  refine r_call S R (fn253 w.params ob) (vals := [r1, .ref oa, .ref ta]) (binds := [("name", r1), ("order", .ref oa), ("texts", .ref ta)]) (F' := [("name", .str (St nm)), ("order", .ref oa), ("texts", .ref ta)]) (by kernel_rfl) (.cons ⟨rfl, h1⟩ (.two ⟨rfl, rfl⟩ ⟨rfl, rfl⟩)) (of_decide_eq_true (by kernel_rfl)) (by kernel_rfl) (ok253 _) fun env' s1 Ge S1 => ?_
  refine gq ?_; intro QF hQF
  have hR := R.deeper env'
  refine q_cons ?_
  refine r_for Ge S1 rfl ?_
  walk_at "w"
  refine ⟨_, _, _, _, by assumption, its_list (by assumption) hR.handled (by assumption) ho, fun i F' H' => ∃ n', n' = (ord.take i).foldl (turn ts) nm ∧ n'.length = 5 ∧ F' = ([("name", .str (St n')), ("order", .ref oa), ("texts", .ref ta)] : List (Str × V)) ∧ Ext H H', ⟨_, rfl, hnm, rfl, Ext.refl _⟩, fun i F1 H1 ⟨_, _, _, _, e⟩ => e _ _ ho, ?_, ?_⟩
  · rintro i v F' H6 B' W' s' E' hv ⟨n', en, ln, rfl, e6⟩ S'
    refine gq ?_; intro QL hQL
    obtain ⟨x, hx, rfl⟩ : ∃ x, ord[i]? = some x ∧ v = .int x := by
      rw [show iL ord = ord.map V.int from rfl, List.getElem?_map] at hv
      cases h : ord[i]? with
      | none => rw [h] at hv; cases hv
      | some x => rw [h] at hv; cases hv; exact ⟨x, rfl, rfl⟩
    obtain ⟨x0, x5⟩ := hord x (List.mem_of_getElem? hx)
    obtain ⟨t, htx⟩ : ∃ t, ts[x.toNat]? = some t := ⟨_, List.getElem?_eq_getElem (ar_tn x0 x5 ht5)⟩
    have htl := hts t (List.mem_of_getElem? htx)
    have htv : (ts.map fun l => V.str (jnS l))[x.toNat]? = some (.str (jnS t)) := by rw [List.getElem?_map, htx]; rfl
    refine q_cons ?_
    refine wpAny_Assign_Name ?_ rfl
    refine r_strRun ?_
    walk_at "w"
    refine sub_list (i := x) (by assumption) (by assumption) (by assumption) (e6 _ _ ht) x0 htv (ar_i5 x5) ?_; intro v9 h9
    walk_at "w"
    refine u_neg (by assumption) (by assumption) ?_; intro v10 s10 S10 h10
    refine ⟨_, _, _, _, jnS t, 4, -3, S10, h9, by unfold jnS; rw [St_len]; simp [htl], by assumption, h10, ?_⟩
    rw [jn_body t htl]
    intro v11 s11 S11 h11
    refine r_store (v := .str (St t)) Ge S11 rfl h11 ?_; intro s12 S12
    refine letS S12 ?_; intro _ S12
    refine q_next (q_cons ?_)
    refine r_assign_comp Ge rfl (by assumption) rfl rfl (fun cl hcl => ?_)
    walk_at "w"
    refine PyProof.Rows.callWith_type1 ?_
    walk_at "w"
    refine m_range (n := 5) (by assumption) hR.handled (by decide) (by assumption) ?_; intro rv2 s2 S2 it2
    refine ⟨_, _, S2, fun RR K hK kK => ?_⟩
    refine compP (B := B') (W := W') (List.range 5) (fun p : Nat => V.int p) (fun p : Nat => [(("j" : Str), V.int p)]) (fun j => decide (t.getD j 0 = 46 ∨ t.getD j 0 = n'.getD j 0)) (fun j : Nat => V.int j) Ge rfl hcl S2 it2 hK (by decide) (fun _ _ => trivial) ?_ ?_ ?_ ?_
    · intro cenv q H' ec hq e
      exact asg1 ec rfl rfl
    · intro cenv j H' B' W' s' E' ec hj e S'
      have hj5 := List.mem_range.mp hj
      have hjt : j < t.length := htl.symm ▸ hj5
      have hjn : j < n'.length := ln.symm ▸ hj5
      obtain ⟨c, hc⟩ : ∃ c, n'[j]? = some c := ⟨_, List.getElem?_eq_getElem hjn⟩
      obtain ⟨d, hd⟩ : ∃ d, t[j]? = some d := ⟨_, List.getElem?_eq_getElem hjt⟩
      have hsl : Txt.slice (St t) (some (j : Int)) (some ((j : Int) + 1)) = St [d] := by
        have := sl_run t (i := j) (j := j + 1) (Nat.le_succ _) hjt
        rw [show ((j + 1 : Nat) : Int) = (j : Int) + 1 from rfl] at this
        rw [this]
        have : (t.drop j).take (j + 1 - j) = [d] := by
          rw [Nat.add_sub_cancel_left, List.take_one, List.head?_drop, hd]; rfl
        rw [this]
      refine tests_one (gq ?_); intro Qt hQt
      walk_at "m"
      refine r_strRun ?_
      walk_at "w"
      refine b_add (by assumption) (by assumption) (by assumption) ?_; intro v13 s13 S13 h13
      refine ⟨_, _, _, _, St t, j, (j : Int) + 1, S13, by assumption, by rw [St_len, htl]; decide, by assumption, h13, ?_⟩
      rw [hsl]
      intro v14 s14 S14 h14
      refine q_tuple (B := B') (W := W') ?_
      walk_at "w"
      refine sub_strI (i := (j : Int)) (by assumption) (by assumption) (by assumption) (Int.natCast_nonneg _) hc (ar_in hj5 (Nat.le_refl _) (by decide)) ?_
      intro v15 s15 S15 h15
      walk_at "w"
      refine ⟨_, _, [.str (Str.ofString "."), .str (St [c])], by assumption, .two (by assumption) (by assumption), by show 2 ≤ 1000; decide, fun T s3 hT S3 => ?_⟩
      have eT := (Ext.refl H').put hT (.tup [.str (Str.ofString "."), .str (St [c])])
      refine c_in2S S3 h14 rfl (AH.set_self ..) ?_
      walk_at "w"
      refine ⟨?_, _, by assumption, eT⟩
      have edot : Str.ofString "." = St [46] := by decide +kernel
      rw [edot, List.getD_eq_getElem?_getD, List.getD_eq_getElem?_getD, hc, hd]
      simp only [Option.getD_some, St_inj, List.cons.injEq, and_true]
    · intro cenv x H' B' W' s' E' ec hx hp e S'
      walk_at "w"
      exact ⟨_, by assumption, Ext.refl _, by assumption⟩
    · intro Ia H7 hIa e7 hl7
      refine kK Ia H7 fun s7 S7 => ?_
      have hfl : (((List.range 5).filter fun j => decide (t.getD j 0 = 46 ∨ t.getD j 0 = n'.getD j 0)).length = 5) ↔ fitsP t n' = true := by
        unfold fitsP
        have key := List.length_filter_eq_length_iff (p := fun j => decide (t.getD j 0 = 46 ∨ t.getD j 0 = n'.getD j 0)) (l := List.range 5)
        rw [List.length_range] at key
        rw [List.all_eq_true, key]
      have hll : ((List.range 5).filter fun j => decide (t.getD j 0 = 46 ∨ t.getD j 0 = n'.getD j 0)).length ≤ 5 := List.length_filter_le _ _
      generalize ((List.range 5).filter fun j => decide (t.getD j 0 = 46 ∨ t.getD j 0 = n'.getD j 0)) = fl at hl7 hfl hll
      walk_at "w"
      refine PyProof.Rows.callWith_builtin1 ?_
      walk_at "w"
      refine mm_len (by assumption) (by assumption) hl7 (ar_map hll (by decide)) ?_; intro v6 s6 S6 h6
      rw [List.length_map] at h6
      walk_at "w"
      refine c_eq (by assumption) (by assumption) ?_
      walk_at "w"
      have htn : ts.getD x.toNat [] = t := by rw [List.getD_eq_getElem?_getD, htx]; rfl
      have stp : (ord.take (i + 1)).foldl (turn ts) nm = turn ts n' x := by
        rw [List.take_add_one, hx, List.foldl_append, en]; rfl
      by_cases hff : fitsP t n' = true
      · refine ifQ_tt (by rw [hfl.mpr hff]; rfl) ?_
        walk_at "w"
        refine sub_list (i := x) (by assumption) (by assumption) (by assumption) ((e6.trans e7) _ _ ht) x0 htv (ar_i5 x5) ?_; intro v20 h20
        walk_at "w"
        refine b_addS (x := Str.ofString "(?s:") (y := St t) (by assumption) (by assumption) (by assumption) ?_ ?_
        · rw [St_len t, htl]; decide +kernel
        intro v21 s21 S21 h21
        walk_at "w"
        refine b_addS (x := Str.ofString "(?s:" ++ St t) (y := Str.ofString ")\\Z") (by assumption) (by assumption) (by assumption) ?_ ?_
        · rw [strLen_append, St_len t, htl]; decide +kernel
        rw [jn_eq']
        intro v22 s22 S22 h22
        refine c_eqS h20 h22 ?_
        walk_at "w"
        refine ifQ_tt (by simp) ?_
        walk_at "w"
        refine PyProof.Rows.callWith_builtin1 ?_
        walk_at "w"
        refine m_lenS (l := t) (by assumption) (by assumption) (htl ▸ (by decide)) ?_; intro v23 s23 S23 h23
        walk_at "w"
        refine c_eq (by assumption) (by assumption) ?_
        walk_at "w"
        refine ifQ_tt (by rw [htl]; rfl) ?_
        walk_at "w"
        refine ifQ_t ?_
        have hxl : x.toNat < n'.length := ar_tn x0 x5 ln
        obtain ⟨c, hc⟩ : ∃ c, n'[x.toNat]? = some c := ⟨_, List.getElem?_eq_getElem hxl⟩
        obtain ⟨xn, rfl⟩ : ∃ xn : Nat, x = (xn : Int) := ⟨x.toNat, (Int.toNat_of_nonneg x0).symm⟩
        rw [Int.toNat_natCast] at hc hxl htn
        refine q_cons ?_
        refine wpAny_Assign_Name ?_ rfl
        refine wpAny_BinOp ?_
        refine wpAny_BinOp ?_
        refine r_strUpto ?_
        walk_at "w"
        refine ⟨_, _, _, _, St n', xn, by assumption, by assumption, by rw [St_len n', ln]; decide, by assumption, ?_⟩
        rw [sl_upto n' (Nat.le_of_lt hxl)]
        intro v24 s24 S24 h24
        have hfc : flipC (n'.getD xn 0) = if c = 48 then 49 else 48 := by
          rw [List.getD_eq_getElem?_getD, hc]; rfl
        obtain ⟨fc, hfe⟩ : ∃ fc, flipC (n'.getD xn 0) = fc := ⟨_, rfl⟩
        rw [hfe] at hfc
        have hcut : min xn n'.length + 1 + (n'.length - (xn + 1)) = 5 := (ar_cut (Nat.le_refl _) hxl).trans ln
        refine gq ?_; intro Q6 hQ6
        refine joinV S24 (.str (St [fc])) (Q := Q6) (fun v26 s26 h26 S26 => hQ6 _ _ ?_) fun hF => ?_
        · refine b_addS (x := St (n'.take xn)) (y := St [fc]) S26 h24 h26 (by rw [St_len, St_len, List.length_take]; exact Nat.le_trans (Nat.le_add_right _ _) (Nat.le_trans (Nat.le_of_eq hcut) (by decide))) ?_
          rw [St_app]
          intro v26 s26 S26 h26
          refine r_strFrom ?_
          walk_at "w"
          refine b_add (by assumption) (by assumption) (by assumption) ?_; intro v27 s27 S27 h27
          refine ⟨_, _, _, _, St n', ((xn + 1 : Nat) : Int), S27, by assumption, by rw [St_len n', ln]; decide, h27, ?_⟩
          rw [sl_from n' hxl]
          intro v28 s28 S28 h28
          refine b_addS S28 h26 h28 (by rw [St_len, St_len, List.length_append, List.length_take, List.length_drop]; exact Nat.le_trans (Nat.le_of_eq hcut) (by decide)) ?_
          rw [St_app]
          intro v29 s29 S29 h29
          refine r_store Ge S29 rfl h29 ?_; intro s30 S30
          refine letS S30 ?_; intro _ S30
          walk_at "w"
          have ett : turn ts n' xn = n'.take xn ++ [fc] ++ n'.drop (xn + 1) := by
            unfold turn; rw [Int.toNat_natCast, htn, if_pos hff, hfe]
          refine ⟨_, _, S30.pick (F' := [("name", .str (St (n'.take xn ++ [fc] ++ n'.drop (xn + 1)))), ("order", .ref oa), ("texts", .ref ta)]) ⟨rfl, rfl, rfl, trivial⟩, _, ?_, ?_, rfl, e6.trans e7⟩
          · rw [stp, ett]
          · rw [← ett]; exact turn_len ln x0 x5
        clear hQ6
        walk_at "w"
        refine sub_strI (i := (xn : Int)) (by assumption) (by assumption) (by assumption) (Int.natCast_nonneg _) hc (ar_i5 x5) ?_
        intro v25 s25 S25 h25
        walk_at "w"
        refine c_eqS h25 (by assumption) ?_
        have e48 : Str.ofString "0" = St [48] := by decide +kernel
        have e49 : Str.ofString "1" = St [49] := by decide +kernel
        walk_at "w"
        by_cases hc48 : c = 48
        · refine ifQ_tt (by rw [e48, hc48, decide_eq_true_eq]) ?_
          rw [if_pos hc48] at hfc
          walk_at "w"
          exact hF _ _ (by rw [hfc, ← e49]; assumption) (by assumption)
        · refine ifQ_ff (by rw [e48, decide_eq_false]; rw [St_inj]; exact fun h => hc48 (List.cons.inj h).1) ?_
          rw [if_neg hc48] at hfc
          walk_at "w"
          exact hF _ _ (by rw [hfc, ← e48]; assumption) (by assumption)
      · refine ifQ_ff (by rw [decide_eq_false]; intro h; exact hff (hfl.mp (Int.ofNat.inj h))) ?_
        walk_at "w"
        refine ifQ_f ?_
        walk_at "w"
        refine ⟨_, _, Sf.pick (F' := [("name", .str (St n')), ("order", .ref oa), ("texts", .ref ta)]) (by assumption) ⟨rfl, rfl, rfl, trivial⟩, n', ?_, ln, rfl, e6.trans e7⟩
        rw [stp]; unfold turn; rw [htn, if_neg hff]
  · rintro F' H' s' ⟨n', en, ln, rfl, e'⟩ S'
    walk_at "w"
    rename_i rvo hrvo
    refine ⟨_, _, S', fun S9 => k _ H' _ e' ?_ S9⟩
    rw [show (iL ord).length = ord.length from List.length_map .., List.take_length] at en
    rw [← en]; exact hrvo
end
section -- Y39
variable {prog : Program} {w : World} {os : OsState} {ob : Obj} {n0 : Nat} {B : Heap} {W : Addr → Prop} {env : Env} {F : List (Str × V)} {H : AH} {s : Shared} {A : Around} {E : Value → Shared → Prop} {r1 r2 : Value}
inductive UnpH (C : Cx) (env : Env) (x y : Str) (Q : Shared → Prop) (v : Value) (s : Shared) : Prop
  | mk (B : Heap) (W : Addr → Prop) (F : List (Str × V)) (H : AH) (T : Addr) (a b : V) (S : Sf C B W env F H s) (h1 : V.R (.ref T) v) (h2 : H T = some (.tup [a, b])) (k : ∀ s', Sf C B W env ((y, b) :: (x, a) :: F) H s' → Q s')
theorem r_unpack {C : Cx} {sc : Scope} (G : Ev sc env) (hh : A.handled = none) {x y : Str} {px py p pos : Pos} {kd} {value : Expr} {Q : Flow → Shared → Prop} (hl : stOk sc x = true) (hl2 : stOk sc y = true)
    (h : wpAny (model C.prog C.w) A (eval value env) (fun v s1 => UnpH C env x y (Q .next) v s1) E s)
    (hs : autoParam (swapsWithSole [.Tuple [.Name x px, .Name y py] kd p] value pos.line env = pure false) au1._auto_1) (hw : autoParam (swappedStores [.Tuple [.Name x px, .Name y py] kd p] value env = pure none) au1._auto_1) :
    wpAny (model C.prog C.w) A (exec (.Assign [.Tuple [.Name x px, .Name y py] kd p] value pos) env) Q E s := by
  refine wpAny_Assign_stores (wpAny_mono h (fun v s₁ h₁ => ?_) fun _ _ x => x) hs hw
  obtain ⟨B, W, F1, H1, T, a, b, S1, hv, hT, k⟩ := h₁
  show wpAny _ A (assign (.Tuple [.Name x px, .Name y py] kd p) env v) _ E s₁
  exact asg_pair G hh hl hl2 hT hv S1 fun s' S' => k s' S'
section
variable {C : Cx} {Q : Value → Shared → Prop}
theorem sl_tailS {C : Cx} (S : Sf C B W env F H s) {a : Addr} {l l' : List V} {slice ve : Expr} {vl vu vs : Value} {pl pu ps : Option Int} (ha : H a = some (.list l)) (hz : l.length ≤ 1000) (h1 : IsPart vl pl) (h2 : IsPart vu pu) (h3 : IsPart vs ps) (h0 : ps ≠ some 0)
    {ops : List Value} (hs : subscripted slice false (.ref a) (.ref s.heap.objs.size) = operate ops (getItem (.ref a) (.ref s.heap.objs.size)))
    (hl : ∀ items : Array Value, A2 V.R l items.toList → A2 V.R l' (slicePick items pl pu ps).toList) (k : GoN C B W env F H (.list l') Q) :
    wpAny (model C.prog C.w) A (subscriptTail ve slice (.ref a) (.ref s.heap.objs.size)) Q E { s with heap := s.heap.push { cls := .type "slice", data := .fields #[vl, vu, vs] } } := by
  have S' : Sf C B W env F H { s with heap := s.heap.push { cls := .type "slice", data := .fields #[vl, vu, vs] } } := S.keep (fun b o e => Heap.get?_push_of_some _ e) rfl rfl
  obtain ⟨items, n, x1, y1⟩ := S'.isL ha
  have z := S'.newList (hl items y1) s.toks
  refine r_subT (ops := ops) ⟨_, x1, rfl⟩ list_getitem_lookup (wpAny_getItem_list_slice x1.isList (Heap.IsSliceOf.new ..) h1 h2 h3 h0 (k _ _ z.1 ?_) (by rw [y1.size, sizeLine_eq]; omega)) hs
  have e : (slicePick items pl pu ps).toList.toArray = slicePick items pl pu ps := by simp
  exact z.2
inductive SlV (C : Cx) (env : Env) (o lv : Value) (Q : Value → Shared → Prop) (s : Shared) : Prop
  | mk (B : Heap) (W : Addr → Prop) (F : List (Str × V)) (H : AH) (a : Addr) (l : List V) (S : Sf C B W env F H s) (h1 : V.R (.ref a) o) (h2 : H a = some (.list l)) (h3 : l.length ≤ 1000) (h4 : V.R (.int (-1)) lv) (h5 : GoN C B W env F H (.list l.reverse) Q)
theorem r_listRev {ve step : Expr} {p pos : Pos} (h : wpAny (model C.prog C.w) A (eval ve env) (fun o s1 => wpAny (model C.prog C.w) A (eval step env) (fun lv s2 => SlV C env o lv Q s2) E s1) E s)
    (hs : autoParam (∀ a i : Value, subscripted (.Slice none none (some step) p) false a i = operate [a, i] (getItem a i)) au2._auto_1) :
    wpAny (model C.prog C.w) A (eval (.Subscript ve (.Slice none none (some step) p) pos) env) Q E s := by
  refine Subscript_ (wpAny_mono h (fun o s1 h1 => wpAny_Slice (wpAny_evalPart_none (wpAny_evalPart_none (wpAny_evalPart_some (wpAny_mono h1 (fun lv s2 ⟨B, W, F2, H2, a, l, S2, h2, h3, h4, h5, h6⟩ => ?_) fun _ _ e => e))))) fun _ _ e => e)
  obtain rfl := h2
  obtain ⟨t, rfl⟩ := h5
  refine sl_tailS S2 h3 h4 .none .none (.int (-1) t) (by decide) (hs _ _) (fun items y => ?_) h6
  rw [krv_pick]
  simpa using y.reverse
inductive SlB (C : Cx) (env : Env) (o lv : Value) (Q : Value → Shared → Prop) (s : Shared) : Prop
  | mk (B : Heap) (W : Addr → Prop) (F : List (Str × V)) (H : AH) (a : Addr) (vs : Array Value) (l : List V) (k : Int) (S : Sf C B W env F H s) (h1 : V.R (.ref a) o) (h2 : s.heap.IsList a vs) (h3 : A2 V.R l vs.toList) (h4 : l.length ≤ 1000) (h5 : V.R (.int k) lv) (h6 : 0 ≤ k) (h7 : GoN C B W env F H (.list (l.take k.toNat)) Q)
theorem r_listUptoB {C : Cx} {ve upper : Expr} {p pos : Pos} (h : wpAny (model C.prog C.w) A (eval ve env) (fun o s1 => wpAny (model C.prog C.w) A (eval upper env) (fun lv s2 => SlB C env o lv Q s2) E s1) E s)
    (hs : autoParam (∀ a i : Value, subscripted (.Slice none (some upper) none p) false a i = operate [i, a] (getItem a i)) au2._auto_1) :
    wpAny (model C.prog C.w) A (eval (.Subscript ve (.Slice none (some upper) none p) pos) env) Q E s := by
  refine Subscript_ (wpAny_mono h (fun o s1 h1 => wpAny_Slice (wpAny_evalPart_none (wpAny_evalPart_some (wpAny_mono h1 (fun lv s2 ⟨B, W, F2, H2, a, vs, l, k, S2, h2, h3, y1, h4, h5, h6, h7⟩ => wpAny_evalPart_none ?_) fun _ _ e => e)))) fun _ _ e => e)
  obtain rfl := h2
  obtain ⟨t, rfl⟩ := h5
  obtain ⟨m, rfl⟩ := Int.eq_ofNat_of_zero_le h6
  have S' : Sf C B W env F2 H2 { s2 with heap := s2.heap.push { cls := .type "slice", data := .fields #[.none, .int m t, .none] } } := S2.keep (fun b o e => Heap.get?_push_of_some _ e) rfl rfl
  have x1 := h3.push { cls := .type "slice", data := .fields #[.none, .int m t, .none] }
  have z := S'.newList (l := l.take m) (vs := slicePick vs none (some (m : Int)) none) (by rw [slicePick_upto']; simpa using y1.take m) s2.toks
  refine r_subT (ops := [.ref s2.heap.objs.size, .ref a]) x1.typeIs list_getitem_lookup (wpAny_getItem_list_slice x1 (Heap.IsSliceOf.new ..) .none (.int m t) .none (by simp) (h7 _ _ z.1 ?_) (by rw [y1.size, sizeLine_eq]; omega)) (hs _ _)
  exact z.2
end
end
section -- Y40
variable {prog : Program} {w : World} {os : OsState} {ob : Obj} {n0 : Nat} {B : Heap} {W : Addr → Prop} {env : Env} {F : List (Str × V)} {H : AH} {s : Shared} {A : Around} {E : Value → Shared → Prop} {r1 r2 : Value}
noncomputable def R5 : List Int := [0, 1, 2, 3, 4]
noncomputable def ringsL (L : List (Int × Int)) : List Int := (L.filter fun e => decide (e.1 = e.2)).map (·.1)
noncomputable def neverL (L : List (Int × Int)) : List Int := R5.filter fun p => decide (p ∈ ringsL L) || !decide ((ringsL L).filter (fun q => decide ((q, p) ∈ L)) = [])
noncomputable def ordL (L : List (Int × Int)) : List Int := R5.filter fun p => !decide (p ∈ neverL L)
noncomputable def patL (rows : List (List Int)) (p : Int) : List Nat := R5.map fun q => if q ∈ rows.getD p.toNat [] then 49 else if p ∈ rows.getD q.toNat [] then 48 else 63
noncomputable def txtL (rows : List (List Int)) : List (List Nat) := R5.map fun p => (patL rows p).map sgS
noncomputable def chosenL (x : Int) : List Int := R5.filter fun p => decide (((x.fdiv 200).fdiv (2 ^ p.toNat)).fmod 2 = 1)
noncomputable def doneL (L : List (Int × Int)) (ch : List Int) : List Int := (ordL L).filter fun p => decide (R5.filter (fun q => (decide (q = p) || decide ((q, p) ∈ L)) && !decide (q ∈ ch)) = [])
noncomputable def waitL (rows : List (List Int)) (L : List (Int × Int)) (dn : List Int) : List Int := (ordL L).filter fun p => !decide (p ∈ dn) && decide ((rows.getD p.toNat []).filter (fun q => !decide (q ∈ dn)) = [])
noncomputable def nameL (dn : List Int) : List Nat := R5.map fun p => if p ∈ dn then 49 else 48
noncomputable def dueL (L : List (Int × Int)) (wt : List Int) : List Nat := R5.map fun p => if wt.filter (fun w => decide (w = p) || decide ((p, w) ∈ L)) = [] then 48 else 49
noncomputable def OrdP (rows : List (List Int)) (o : List Int) : Prop := ∀ i p, o[i]? = some p → ∀ q ∈ rows.getD p.toNat [], q ∈ o.take i
structure PLaw (rows : List (List Int)) : Prop where
  len : rows.length = 5
  sz : ∀ r ∈ rows, r.length ≤ 6
  rg : ∀ r ∈ rows, ∀ x ∈ r, 0 ≤ x ∧ x < 5
  su : ∀ k ∈ (bldN rows 5).ks, ∀ j ∈ (bldN rows 5).su k, j ∈ (bldN rows 5).ks
  kz : (bldN rows 5).ks.length ≤ 20
  suz : ∀ k ∈ (bldN rows 5).ks, ((bldN rows 5).su k).length ≤ 20
  ring : ∀ b : Bool, (b = false → ∃ fin, Cl (bldN rows 5).su fin ∧ ∀ k ∈ (bldN rows 5).ks, k ∈ fin) → (b = true → ∃ v ∈ (bldN rows 5).ks, Rc (bldN rows 5).su v v) → b = !decide (ringsL (leadsN rows 5) = [])
  run : ∃ I : (Int → Int) → List Int → List Int → Prop,
    I (setN (-1) (bldN rows 5).np ((bldN rows 5).ks.filter fun k => (bldN rows 5).np k == 0)) ((bldN rows 5).ks.filter fun k => (bldN rows 5).np k == 0) [] ∧
    (∀ np w o, I np w o → (∀ p ∈ w, p ∈ (bldN rows 5).ks ∧ np p = -1) ∧ w.length + o.length ≤ (bldN rows 5).ks.length) ∧
    (∀ np w o i p, I np w o → w[i]? = some p → I (setN (-1) (doneN (bldN rows 5).su (np, []) p).1 (doneN (bldN rows 5).su (np, []) p).2) (w.eraseIdx i ++ (doneN (bldN rows 5).su (np, []) p).2) (o ++ [p])) ∧
    ∀ np o, I np [] o → o.Perm (ordL (leadsN rows 5)) ∧ OrdP rows o
  held : ∀ ch : List Int, ∃ I : (Int → Int) → List Int → List Int → List Int → Prop,
    I (setN (-1) (bldN rows 5).np ((bldN rows 5).ks.filter fun k => (bldN rows 5).np k == 0)) ((bldN rows 5).ks.filter fun k => (bldN rows 5).np k == 0) [] [] ∧
    (∀ np g dn wt, I np g dn wt → (∀ p ∈ g, p ∈ (bldN rows 5).ks ∧ np p = -1) ∧ g.length + dn.length + wt.length ≤ (bldN rows 5).ks.length) ∧
    (∀ np g dn wt, I np g dn wt → g ≠ [] → ∀ rdy, rdy = g.filter (fun p => decide (p ∈ ch)) → I (setN (-1) (rdy.foldl (doneN (bldN rows 5).su) (np, [])).1 (rdy.foldl (doneN (bldN rows 5).su) (np, [])).2) (rdy.foldl (doneN (bldN rows 5).su) (np, [])).2 (dn ++ rdy) (wt ++ g.filter (fun p => !decide (p ∈ ch))) ∧
      ∀ i k, rdy[i]? = some k → ((rdy.take i).foldl (doneN (bldN rows 5).su) (np, [])).1 k = -1) ∧
    ∀ np dn wt, I np [] dn wt → dn.Perm (doneL (leadsN rows 5) ch) ∧ wt.Perm (waitL rows (leadsN rows 5) (doneL (leadsN rows 5) ch))
  turn : ∀ o : List Int, o.Perm (ordL (leadsN rows 5)) → OrdP rows o → ∀ ch : List Int,
    (neverL (leadsN rows 5) ++ o.reverse).foldl (turn (txtL rows)) (nameL (doneL (leadsN rows 5) ch)) = dueL (leadsN rows 5) (waitL rows (leadsN rows 5) (doneL (leadsN rows 5) ch)) ∧
    (o ++ neverL (leadsN rows 5)).foldl (turn (txtL rows)) (dueL (leadsN rows 5) (waitL rows (leadsN rows 5) (doneL (leadsN rows 5) ch))) = nameL (doneL (leadsN rows 5) ch)
theorem filt_sorted (p : Int → Bool) : (R5.filter p).Pairwise (· ≤ ·) := List.Pairwise.sublist List.filter_sublist (by decide)
theorem eq_sorted {l l' : List Int} (h : l'.Perm l) (s : l'.Pairwise (· ≤ ·)) (s' : l.Pairwise (· ≤ ·)) : l' = l := List.Perm.eq_of_pairwise (fun _ _ _ _ h1 h2 => Int.le_antisymm h1 h2) s s' h
theorem ordL_sorted (L) : (ordL L).Pairwise (· ≤ ·) := filt_sorted _
theorem doneL_sorted (L ch) : (doneL L ch).Pairwise (· ≤ ·) := List.Pairwise.sublist List.filter_sublist (ordL_sorted L)
theorem waitL_sorted (rows L dn) : (waitL rows L dn).Pairwise (· ≤ ·) := List.Pairwise.sublist List.filter_sublist (ordL_sorted L)
theorem len5 (p : Int → Bool) : (R5.filter p).length ≤ 5 := List.length_filter_le _ _
theorem mem5 {p : Int → Bool} {x : Int} (h : x ∈ R5.filter p) : 0 ≤ x ∧ x < 5 := by
  exact (by decide : ∀ p ∈ R5, 0 ≤ p ∧ p < 5) x (List.mem_filter.mp h).1
theorem ordL_mem {L} {x : Int} (h : x ∈ ordL L) : 0 ≤ x ∧ x < 5 := mem5 h
theorem neverL_mem {L} {x : Int} (h : x ∈ neverL L) : 0 ≤ x ∧ x < 5 := mem5 h
end
section -- Y41
variable {prog : Program} {w : World} {os : OsState} {ob : Obj} {n0 : Nat} {B : Heap} {W : Addr → Prop} {env : Env} {F : List (Str × V)} {H : AH} {s : Shared} {A : Around} {E : Value → Shared → Prop} {r1 r2 : Value}
theorem c_eqL {C : Cx} {Q : Value → Shared → Prop} {n : Nat} (R : Rm n A) (S : Sf C B W env F H s) {a b : Addr} {l1 l2 : List Int} (h1 : V.R (.ref a) r1) (h2 : V.R (.ref b) r2) (ha : H a = some (.list (iL l1))) (hb : H b = some (.list (iL l2)))
    (k : Q (.bool (decide (l1 = l2))) s) : wpAny (model C.prog C.w) A (compareOp .Eq r1 r2) Q E s := by
  obtain rfl := h1; obtain rfl := h2
  obtain ⟨vs, n1, x1, y1⟩ := S.isL ha
  obtain ⟨us, n2, x2, y2⟩ := S.isL hb
  exact ke_eq_ints (xs := vs.toList) (ys := us.toList) (by simpa using x1.isList) (by simpa using x2.isList) (iL_are y1) (iL_are y2) (by have := R.3; show A.units + 64 < 9900; omega) k
theorem Srt.own0 {H0 H : AH} {D : SD} (h : Srt H0 H D) {b : Addr} (q : own D b) : H0 b = none := by
  rcases q with rfl | rfl | ⟨r, l, hr, rfl⟩ | ⟨k, hk, rfl | rfl⟩
  · exact h.f0.2.1
  · exact h.f0.2.2
  · exact (h.rd _ _ hr).2.1
  · exact (h.fk k hk).1
  · exact (h.fk k hk).2.2
theorem Srt.nown {H0 H : AH} {D : SD} (h : Srt H0 H D) {b : Addr} {o : O} (q : H0 b = some o) : ¬ own D b := fun z => by rw [h.own0 z] at q; cases q
set_option maxHeartbeats 4000000 in
theorem lawC {m : Nat} (S : Sf (CC prog w os ob n0) B W env F H s) (hb : BOk ob) (Ge : Ev (scOf w.params 258) env) (hf : env.frame = some env.locals) (R : Rm (m + 11) A) {outer : List Env} (hA : A.frames = some (env :: outer)) (of : OutF (CC prog w os ob n0) B W outer)
    {na ra ta la va oa xa : Addr} {ns o : List Int} {rows : List (List Int)} (hF : F = ([("texts", .ref xa), ("order", .ref oa), ("never", .ref va), ("leads", .ref la), ("told", .ref ta), ("rows", .ref ra), ("numbers", .ref na)] : List (Str × V))) (hn : H na = some (.list (iL ns))) (hnz : ns.length ≤ 6) (hRA : RowsAt H ra rows) (hTA : RowsAt H ta rows)
    (hla : PairsAt H la (leadsN rows 5)) (hva : H va = some (.list (iL (neverL (leadsN rows 5))))) (hoa : H oa = some (.list (iL o))) (hxa : H xa = some (.list ((txtL rows).map fun l => .str (jnS l)))) (hop : o.Perm (ordL (leadsN rows 5))) (hoo : OrdP rows o) (hPL : PLaw rows) {Q : Flow → Shared → Prop}
    (k : ∀ F' H' s', Ext H H' → Sf (CC prog w os ob n0) B W env F' H' s' → Q (.ret (.bool true)) s') : wpAny (model (CC prog w os ob n0).prog (CC prog w os ob n0).w) A (execs ((bodyOf w.params 258).drop 14) env) Q E s := by
  subst hF
  refine letS S ?_; intro F S
  have hr5 : ∀ p ∈ R5, 0 ≤ p ∧ p < 5 := by decide
  have hp2 : ∀ p ∈ R5, (2 : Int) ^ p.toNat ≠ 0 ∧ ((2 : Int) ^ p.toNat).natAbs < 1073741824 := by decide
  have f49 : Str.ofString "1" = St [49] := by decide +kernel
  have f48 : Str.ofString "0" = St [48] := by decide +kernel
  refine q_cons ?_
  refine r_forI Ge S rfl ?_
  refine r_listUpto ?_
  walk_at "w"
  refine ⟨_, _, _, _, na, iL ns, 3, by assumption, by assumption, hn, by show (ns.map V.int).length ≤ 1000; rw [List.length_map]; omega, by assumption, by decide, ?_⟩
  intro la3 s1 hla30 S1
  have e1 : Ext H (H.set la3 (.list ((iL ns).take (3 : Int).toNat))) := (Ext.refl _).put hla30 _
  have hl3 : (H.set la3 (.list ((iL ns).take (3 : Int).toNat))) la3 = some (.list (iL (ns.take 3))) := by rw [AH.set_self]; unfold iL; rw [List.map_take]; rfl
  refine ⟨_, _, _, _, S1, its_list S1 R.handled rfl hl3, fun i F' H' => F = F' ∧ Ext (H.set la3 (.list ((iL ns).take (3 : Int).toNat))) H', ⟨rfl, Ext.refl _⟩, fun i F1 H1 ⟨_, e⟩ => e _ _ hl3, ?_, ?_⟩
  · rintro i v F' H2 B' W' s' E' hv ⟨rfl, e2⟩ inh S'
    refine gq ?_; intro QL hQL
    obtain ⟨x, rfl⟩ : ∃ x, v = .int x := by
      have := List.mem_of_getElem? hv
      obtain ⟨x, _, rfl⟩ := List.mem_map.mp this
      exact ⟨x, rfl⟩
    have of' := of.inh inh
    have e12 := e1.trans e2
    have hTA2 := hTA.ext e12
    have hRA2 := hRA.ext e12
    have hla2 := hla.ext e12
    have hva2 := e12 _ _ hva
    have hoa2 := e12 _ _ hoa
    have hxa2 := e12 _ _ hxa
    refine q_cons ?_
    refine wpAny_Assign_Name ?_ (sw_cell Ge rfl)
    refine r_eval_comp Ge (by assumption) rfl (fun cl hcl => ?_)
    walk_at "w"
    refine PyProof.Rows.callWith_type1 ?_
    walk_at "w"
    refine m_range (n := 5) (by assumption) R.handled (by decide) (by assumption) ?_; intro rv3 s3 S3 it3
    refine ⟨_, _, S3, fun RR K hK kK => ?_⟩
    refine compP (B := B') (W := W') R5 V.int (fun p => [(("p" : Str), V.int p)]) (fun p => decide (((x.fdiv 200).fdiv (2 ^ p.toNat)).fmod 2 = 1)) V.int Ge rfl hcl (src := fun _ => True) S3 it3 hK (by decide) (fun _ _ => trivial) ?_ ?_ ?_ ?_
    · intro cenv q H' ec hq e
      exact asg1 ec rfl rfl
    · intro cenv p H' B' W' s' E' ec hx e S'
      obtain ⟨p0, p1⟩ := hp2 p hx
      have hp0 := (hr5 p hx).1
      have hp5 := (hr5 p hx).2
      refine tests_one (gq ?_); intro Qt hQt
      walk_at "w"
      refine b_fdiv (b := 200) (by assumption) (by assumption) (by assumption) (by decide) (by decide) ?_; intro v4 s4 S4 h4
      walk_at "w"
      refine b_pow (a := 2) (b := p) (by assumption) (by assumption) (by assumption) hp0 (by omega) (by decide) ?_; intro v5 s5 S5 h5
      refine b_fdiv (by assumption) h4 h5 p0 p1 ?_; intro v6 s6 S6 h6
      walk_at "w"
      refine b_mod (b := 2) (by assumption) h6 (by assumption) (by decide) ?_; intro v7 s7 S7 h7
      walk_at "w"
      refine c_eq h7 (by assumption) ?_
      walk_at "w"
      exact ⟨rfl, _, by assumption, Ext.refl _⟩
    · intro cenv x H' B' W' s' E' ec hx hp e S'
      walk_at "w"
      exact ⟨_, by assumption, Ext.refl _, by assumption⟩
    intro ca H8 hca0 e8 hl8
    refine kK ca H8 fun s8 S8 => ?_
    have hca : H8 ca = some (.list (iL (chosenL x))) := hl8
    clear kK hK hl8 it3
    refine r_store (v := .ref ca) Ge S8 rfl rfl ?_; intro s9 S9
    refine letS S9 ?_; intro _ S9
    refine q_next (q_cons ?_)
    refine r_unpack Ge R.handled rfl rfl ?_
    walk_at "w"
    refine q_callK (by assumption) (by kernel_rfl) ?_
    walk_at "w"
    rename_i r9 hr9
    obtain rfl := hr9
    refine ⟨S9.k, sp236 (m := m) S9 hb (R.mono (by omega)) hA (OutF.deep S9 of' hf) (hTA2.ext e8) hPL.len (fun r hr => Nat.le_trans (hPL.sz r hr) (by decide)) hPL.su ?_⟩
    intro D H10 T r ring s10 G10 hT0 hnT hT d1 d2 d3 d4 d5 d6 d7 d8 S10
    refine ⟨B', W', _, _, T, _, _, S10, rfl, hT, fun s11 S11 => ?_⟩
    refine q_next (q_cons ?_)
    refine r_unpack Ge R.handled rfl rfl ?_
    walk_at "w"
    refine q_callK (by assumption) (by kernel_rfl) ?_
    walk_at "w"
    rename_i r12 hr12 r13 hr13
    refine letS (by assumption) ?_; intro _ _
    obtain rfl := hr12
    obtain rfl := hr13
    obtain ⟨I, i0, i1, i2, i3⟩ := hPL.held (chosenL x)
    have hsu := hPL.su
    have hkz := hPL.kz
    have hsuz := hPL.suz
    rw [← d1, ← d2] at i0
    simp only [← d1] at i1 hkz
    rw [← d1, ← d3] at hsu hsuz
    rw [← d3] at i2
    refine ⟨S11.k, sp248 (m := m) S11 hb (R.mono (by omega)) G10 d6 (G10.ext _ _ hca) (G10.nown hca) I i0 i1 i2 hsu hkz hsuz ?_⟩
    intro D' H12 T2 da wa dn wt np dn0 wt0 s12 G12 hT2 hda hwa dp ds wp ws hI S12
    obtain ⟨q1, q2⟩ := i3 np dn0 wt0 hI
    have hdn : dn = doneL (leadsN rows 5) (chosenL x) := eq_sorted (dp.trans q1) ds (doneL_sorted _ _)
    have hwt : wt = waitL rows (leadsN rows 5) (doneL (leadsN rows 5) (chosenL x)) := eq_sorted (wp.trans q2) ws (waitL_sorted _ _ _)
    have E12 : Ext H8 H12 := G12.s.ext
    clear i0 i1 i2 i3 hsu hkz hsuz hI q1 q2 dp ds wp ws G10 d1 d2 d3 d4 d5 d6 d7 d8 hT hnT hT0
    have hTA12 := hTA2.ext (e8.trans E12)
    have hRA12 := hRA2.ext (e8.trans E12)
    have hla12 := hla2.ext (e8.trans E12)
    have hva12 := (e8.trans E12) _ _ hva2
    have hoa12 := (e8.trans E12) _ _ hoa2
    have hxa12 := (e8.trans E12) _ _ hxa2
    have hca12 := E12 _ _ hca
    have e122 := e2.trans (e8.trans E12)
    refine ⟨B', W', _, _, T2, _, _, S12, rfl, hT2, fun s13 S13 => ?_⟩
    refine q_next (q_cons ?_)
    have ht := hPL.turn o hop hoo (chosenL x)
    rw [← hwt, ← hdn] at ht
    have hol : o.length ≤ 5 := by rw [hop.length_eq]; exact len5 _
    have hdl : dn.length ≤ 5 := by rw [hdn]; exact Nat.le_trans (List.length_filter_le _ _) (len5 _)
    have hwl : wt.length ≤ 5 := by rw [hwt]; exact Nat.le_trans (List.length_filter_le _ _) (len5 _)
    walk_at "w"
    rename_i rvd hrvd
    refine letS (by assumption) ?_; intro _ _
    refine r_eval_comp Ge (by assumption) rfl (fun cl hcl => ?_)
    walk_at "w"
    refine PyProof.Rows.callWith_builtin1 ?_
    walk_at "w"
    refine m_sorted (l := o) (by assumption) (by assumption) hoa12 (by omega) ?_
    intro b14 l14 s14 hb14 hp14 hs14 S14
    have hl14 : l14 = ordL (leadsN rows 5) := eq_sorted (hp14.trans hop) hs14 (ordL_sorted _)
    subst hl14
    have e14 := (Ext.refl H12).put hb14 (.list (iL (ordL (leadsN rows 5))))
    refine ⟨_, _, S14, fun RR K hK kK => ?_⟩
    refine compP (B := B') (W := W') (ordL (leadsN rows 5)) V.int (fun p => [(("p" : Str), V.int p)]) (fun p => decide (R5.filter (fun q => (decide (q = p) || decide ((q, p) ∈ leadsN rows 5)) && !decide (q ∈ chosenL x)) = [])) V.int Ge rfl hcl (src := fun H => H b14 = some (.list (iL (ordL (leadsN rows 5))))) S14 (its_list S14 R.handled rfl (AH.set_self ..)) hK (Nat.le_trans (len5 _) (by decide)) (fun _ e => e _ _ (AH.set_self ..)) ?_ ?_ ?_ ?_
    · intro cenv q H' ec hq e
      exact asg1 ec rfl rfl
    · intro cenv p H' B' W' s' E' ec hx e S'
      refine tests_one (gq ?_); intro Qt hQt
      walk_at "w"
      refine r_eval_comp ec (by assumption) rfl (fun cl hcl => ?_)
      walk_at "w"
      refine PyProof.Rows.callWith_type1 ?_
      walk_at "w"
      refine m_range (n := 5) (by assumption) R.handled (by decide) (by assumption) ?_; intro rv15 s15 S15 it15
      refine ⟨_, _, S15, fun RR K hK kK => ?_⟩
      refine compP (B := B') (W := W') R5 V.int (fun q => [(("q" : Str), V.int q)]) (fun q => (decide (q = p) || decide ((q, p) ∈ leadsN rows 5)) && !decide (q ∈ chosenL x)) V.int ec rfl hcl (src := fun _ => True) S15 it15 hK (by decide) (fun _ _ => trivial) ?_ ?_ ?_ ?_
      · intro cenv q H' ec hq e
        exact asg1 ec rfl rfl
      · intro cenv q H2 B' W' s' E' ec2 hx2 e2' S'
        refine tests_one (gq ?_); intro Qt hQt
        walk_at "w"
        refine c_eq (by assumption) (by assumption) ?_
        walk_at "w"
        by_cases g1 : q = p
        · refine ifQ_tt (decide_eq_true g1) ?_
          refine ifQ_t ?_
          walk_at "w"
          refine c_notin (l := chosenL x) (by assumption) (by assumption) (by assumption) ((((e14.trans e).trans e2').trans (Ext.refl _)) _ _ hca12) ?_
          walk_at "w"
          by_cases g3 : q ∈ chosenL x
          · refine ifQ_ff (by rw [decide_eq_true g3]; rfl) ?_
            walk_at "w"
            exact ⟨by rw [decide_eq_true g1, decide_eq_true g3]; rfl, _, by assumption, (Ext.refl _)⟩
          · refine ifQ_tt (by rw [decide_eq_false g3]; rfl) ?_
            walk_at "w"
            exact ⟨by rw [decide_eq_true g1, decide_eq_false g3]; rfl, _, by assumption, (Ext.refl _)⟩
        · refine ifQ_ff (decide_eq_false g1) ?_
          walk_at "w"
          refine q_tuple (B := B') (W := W') ?_
          walk_at "w"
          refine ⟨_, _, [.int q, .int p], by assumption, .two (by assumption) (by assumption), by show 2 ≤ 1000; decide, fun T s3 hT S3 => ?_⟩
          have eT := (Ext.refl H2).put hT (.tup [.int q, .int p])
          walk_at "w"
          refine c_inP (q := (q, p)) R (by assumption) rfl (AH.set_self ..) (by assumption) (hla12.ext (((e14.trans e).trans e2').trans eT)) ?_
          walk_at "w"
          by_cases g2 : (q, p) ∈ leadsN rows 5
          · refine ifQ_tt (decide_eq_true g2) ?_
            refine ifQ_t ?_
            walk_at "w"
            refine c_notin (l := chosenL x) (by assumption) (by assumption) (by assumption) ((((e14.trans e).trans e2').trans eT) _ _ hca12) ?_
            walk_at "w"
            by_cases g3 : q ∈ chosenL x
            · refine ifQ_ff (by rw [decide_eq_true g3]; rfl) ?_
              walk_at "w"
              exact ⟨by rw [decide_eq_false g1, decide_eq_true g2, decide_eq_true g3]; rfl, _, by assumption, eT⟩
            · refine ifQ_tt (by rw [decide_eq_false g3]; rfl) ?_
              walk_at "w"
              exact ⟨by rw [decide_eq_false g1, decide_eq_true g2, decide_eq_false g3]; rfl, _, by assumption, eT⟩
          · refine ifQ_ff (decide_eq_false g2) ?_
            walk_at "w"
            refine ifQ_f ?_
            walk_at "w"
            exact ⟨by rw [decide_eq_false g1, decide_eq_false g2]; rfl, _, by assumption, eT⟩
      · intro cenv x H' B' W' s' E' ec hx hp e S'
        walk_at "w"
        exact ⟨_, by assumption, Ext.refl _, by assumption⟩
      intro D16 H16 hD16 e16 hl16
      refine kK D16 H16 fun s16 S16 => ?_
      refine q_list (B := B') (W := W') (q_sp0 ⟨_, _, [], by assumption, .nil, by decide, fun D17 s17 hD17 S17 => ?_⟩)
      refine c_eqL (l1 := R5.filter fun q => (decide (q = p) || decide ((q, p) ∈ leadsN rows 5)) && !decide (q ∈ chosenL x)) (l2 := []) R S17 rfl rfl (by exact AH.set_at (hl16) (fun h => by subst h; rw [hl16] at hD17; cases hD17)) (AH.set_self ..) ?_
      walk_at "w"
      exact ⟨rfl, _, S17, e16.trans ((Ext.refl _).put hD17 _)⟩
    · intro cenv x H' B' W' s' E' ec hx hp e S'
      walk_at "w"
      exact ⟨_, by assumption, Ext.refl _, by assumption⟩
    intro D18 H18 hD18 e18 hl18
    refine kK D18 H18 fun s18 S18 => ?_
    have hl18' : H18 D18 = some (.list (iL (doneL (leadsN rows 5) (chosenL x)))) := hl18
    rw [← hdn] at hl18'
    have E18 := e14.trans e18
    have hda18 := E18 _ _ hda
    refine c_neL (l1 := dn) (l2 := dn) R S18 hrvd rfl hda18 hl18' ?_
    walk_at "w"
    refine ifQ_ff (by simp) ?_
    clear kK hK hl18 hl18'
    have hwa18 := E18 _ _ hwa
    have hTA18 := hTA12.ext E18
    have hRA18 := hRA12.ext E18
    have hla18 := hla12.ext E18
    have hva18 := E18 _ _ hva12
    have hoa18 := E18 _ _ hoa12
    have hxa18 := E18 _ _ hxa12
    have e182 := e122.trans E18
    walk_at "w"
    rename_i rvw hrvw
    refine r_eval_comp Ge (by assumption) rfl (fun cl hcl => ?_)
    walk_at "w"
    refine PyProof.Rows.callWith_builtin1 ?_
    walk_at "w"
    refine m_sorted (l := o) (by assumption) (by assumption) hoa18 (by omega) ?_
    intro b20 l20 s20 hb20 hp20 hs20 S20
    have hl20 : l20 = ordL (leadsN rows 5) := eq_sorted (hp20.trans hop) hs20 (ordL_sorted _)
    subst hl20
    have e20 := (Ext.refl H18).put hb20 (.list (iL (ordL (leadsN rows 5))))
    refine ⟨_, _, S20, fun RR K hK kK => ?_⟩
    refine compP (B := B') (W := W') (ordL (leadsN rows 5)) V.int (fun p => [(("p" : Str), V.int p)]) (fun p => !decide (p ∈ dn) && decide ((rows.getD p.toNat []).filter (fun q => !decide (q ∈ dn)) = [])) V.int Ge rfl hcl (src := fun H => H b20 = some (.list (iL (ordL (leadsN rows 5))))) S20 (its_list S20 R.handled rfl (AH.set_self ..)) hK (Nat.le_trans (len5 _) (by decide)) (fun _ e => e _ _ (AH.set_self ..)) ?_ ?_ ?_ ?_
    · intro cenv q H' ec hq e
      exact asg1 ec rfl rfl
    · intro cenv p H' B' W' s' E' ec hx e S'
      obtain ⟨hp0, hp5⟩ := ordL_mem hx
      have hrow : rows[p.toNat]? = some (rows.getD p.toNat []) := row_at (ar_tn hp0 hp5 hPL.len)
      have hrz := hPL.sz _ (List.mem_of_getElem? hrow)
      refine tests_one (gq ?_); intro Qt hQt
      walk_at "w"
      refine c_notin (l := dn) (by assumption) (by assumption) (by assumption) ((e20.trans e) _ _ hda18) ?_
      walk_at "w"
      by_cases g1 : p ∈ dn
      · refine ifQ_ff (by rw [decide_eq_true g1]; rfl) ?_
        walk_at "w"
        exact ⟨by rw [decide_eq_true g1]; rfl, _, by assumption, Ext.refl _⟩
      · refine ifQ_tt (by rw [decide_eq_false g1]; rfl) ?_
        walk_at "w"
        obtain ⟨rsp, rp, u1, u2, u3, u4⟩ := (hRA18.ext (e20.trans e)).at hrow
        refine r_eval_comp ec (by assumption) rfl (fun cl hcl => ?_)
        walk_at "w"
        refine sub_list (i := p) (by assumption) (by assumption) (by assumption) u1 hp0 (v := .ref rp) u2 (ar_i5 hp5) ?_; intro v21 h21
        refine ⟨_, _, by assumption, fun RR K hK kK => ?_⟩
        refine compP (B := B') (W := W') (rows.getD p.toNat []) V.int (fun q => [(("q" : Str), V.int q)]) (fun q => !decide (q ∈ dn)) V.int ec rfl hcl (src := fun H => H rp = some (.list (iL (rows.getD p.toNat [])))) (by assumption) (its_list (by assumption) R.handled h21 u3) hK (by omega) (fun _ e' => e' _ _ u3) ?_ ?_ ?_ ?_
        · intro cenv q H' ec hq e
          exact asg1 ec rfl rfl
        · intro cenv q H2 B' W' s' E' ec2 hx2 e2' S'
          refine tests_one (gq ?_); intro Qt hQt
          walk_at "w"
          refine c_notin (l := dn) (by assumption) (by assumption) (by assumption) (((e20.trans e).trans e2') _ _ hda18) ?_
          walk_at "w"
          exact ⟨rfl, _, by assumption, Ext.refl _⟩
        · intro cenv x H' B' W' s' E' ec hx hp e S'
          walk_at "w"
          exact ⟨_, by assumption, Ext.refl _, by assumption⟩
        intro D16 H16 hD16 e16 hl16
        refine kK D16 H16 fun s16 S16 => ?_
        refine q_list (B := B') (W := W') (q_sp0 ⟨_, _, [], by assumption, .nil, by decide, fun D17 s17 hD17 S17 => ?_⟩)
        refine c_eqL (l1 := (rows.getD p.toNat []).filter fun q => !decide (q ∈ dn)) (l2 := []) R S17 rfl rfl (by exact AH.set_at (hl16) (fun h => by subst h; rw [hl16] at hD17; cases hD17)) (AH.set_self ..) ?_
        walk_at "w"
        have e17 := e16.trans ((Ext.refl _).put hD17 (.list []))
        by_cases hX : (rows.getD p.toNat []).filter (fun q => !decide (q ∈ dn)) = []
        · refine ifQ_tt (decide_eq_true hX) ?_
          walk_at "w"
          exact ⟨by rw [decide_eq_false g1, decide_eq_true hX]; rfl, _, S17, e17⟩
        · refine ifQ_ff (decide_eq_false hX) ?_
          walk_at "w"
          exact ⟨by rw [decide_eq_false g1, decide_eq_false hX]; rfl, _, S17, e17⟩
    · intro cenv x H' B' W' s' E' ec hx hp e S'
      walk_at "w"
      exact ⟨_, by assumption, Ext.refl _, by assumption⟩
    intro D22 H22 hD22 e22 hl22
    refine kK D22 H22 fun s22 S22 => ?_
    have hl22' : H22 D22 = some (.list (iL (waitL rows (leadsN rows 5) dn))) := hl22
    rw [hdn, ← hwt] at hl22'
    have E22 := e20.trans e22
    have hwa22 := E22 _ _ hwa18
    refine c_neL (l1 := wt) (l2 := wt) R S22 hrvw rfl hwa22 hl22' ?_
    walk_at "w"
    refine ifQ_ff (by simp) ?_
    clear kK hK hl22 hl22'
    have hda22 := E22 _ _ hda18
    have hla22 := hla18.ext E22
    have hva22 := E22 _ _ hva18
    have hoa22 := E22 _ _ hoa18
    have hxa22 := E22 _ _ hxa18
    have e222 := e182.trans E22
    walk_at "w"
    refine gm_str (by assumption) PySem.F.slot_str_join PySem.F.type_str_join ?_
    refine callWith_method1 ?_
    walk_at "w"
    refine r_eval_comp Ge (by assumption) rfl (fun cl hcl => ?_)
    walk_at "w"
    refine PyProof.Rows.callWith_type1 ?_
    walk_at "w"
    refine m_range (n := 5) (by assumption) R.handled (by decide) (by assumption) ?_; intro rv23 s23 S23 it23
    refine ⟨_, _, S23, fun RR K hK kK => ?_⟩
    refine compP (B := B') (W := W') R5 V.int (fun p => [(("p" : Str), V.int p)]) (fun _ => true) (fun p => V.str (St [if p ∈ dn then 49 else 48])) Ge rfl hcl (src := fun _ => True) S23 it23 hK (by decide) (fun _ _ => trivial) ?_ ?_ ?_ ?_
    · intro cenv q H' ec hq e
      exact asg1 ec rfl rfl
    · intro cenv p H' B' W' s' E' ec hx e S'
      exact tests_nil ⟨rfl, _, S', Ext.refl _⟩
    · intro cenv p H' B' W' s' E' ec hx hp e S'
      walk_at "w"
      refine c_in (l := dn) (by assumption) (by assumption) (by assumption) (e _ _ hda22) ?_
      walk_at "w"
      by_cases g1 : p ∈ dn
      · refine ifQ_tt (decide_eq_true g1) ?_
        walk_at "w"
        refine ⟨_, by assumption, Ext.refl _, ?_⟩
        rw [if_pos g1, ← f49]; assumption
      · refine ifQ_ff (decide_eq_false g1) ?_
        walk_at "w"
        refine ⟨_, by assumption, Ext.refl _, ?_⟩
        rw [if_neg g1, ← f48]; assumption
    intro D24 H24 hD24 e24 hl24
    refine kK D24 H24 fun s24 S24 => ?_
    have hl24' : H24 D24 = some (.list (((nameL dn).map fun c => St [c]).map V.str)) := by
      rw [hl24, List.filter_eq_self.mpr (fun _ _ => rfl)]; unfold nameL; rw [List.map_map, List.map_map]; rfl
    walk_at "w"
    refine m_join (by assumption) (by assumption) hl24' (by unfold nameL; rw [List.length_map]; decide) ?_
    intro v25 s25 S25 h25
    refine r_store (v := .str (St (nameL dn))) Ge S25 rfl h25 ?_; intro s26 S26
    refine letS S26 ?_; intro _ S26
    have hwa24 := e24 _ _ hwa22
    have hla24 := hla22.ext e24
    have hva24 := e24 _ _ hva22
    have hoa24 := e24 _ _ hoa22
    have hxa24 := e24 _ _ hxa22
    have e242 := e222.trans e24
    clear kK hK hl24 hl24' it23
    refine q_next (q_cons ?_)
    walk_at "w"
    refine gm_str (by assumption) PySem.F.slot_str_join PySem.F.type_str_join ?_
    refine callWith_method1 ?_
    walk_at "w"
    refine r_eval_comp Ge (by assumption) rfl (fun cl hcl => ?_)
    walk_at "w"
    refine PyProof.Rows.callWith_type1 ?_
    walk_at "w"
    refine m_range (n := 5) (by assumption) R.handled (by decide) (by assumption) ?_; intro rv27 s27 S27 it27
    refine ⟨_, _, S27, fun RR K hK kK => ?_⟩
    refine compP (B := B') (W := W') R5 V.int (fun p => [(("p" : Str), V.int p)]) (fun _ => true) (fun p => V.str (St [if wt.filter (fun w => decide (w = p) || decide ((p, w) ∈ leadsN rows 5)) = [] then 48 else 49])) Ge rfl hcl (src := fun _ => True) S27 it27 hK (by decide) (fun _ _ => trivial) ?_ ?_ ?_ ?_
    · intro cenv q H' ec hq e
      exact asg1 ec rfl rfl
    · intro cenv p H' B' W' s' E' ec hx e S'
      exact tests_nil ⟨rfl, _, S', Ext.refl _⟩
    · intro cenv p H' B' W' s' E' ec hx hp e S'
      walk_at "w"
      refine r_eval_comp ec (by assumption) rfl (fun cl hcl => ?_)
      walk_at "w"
      refine ⟨_, _, by assumption, fun RR K hK kK => ?_⟩
      refine compP (B := B') (W := W') wt V.int (fun q => [(("w" : Str), V.int q)]) (fun w => decide (w = p) || decide ((p, w) ∈ leadsN rows 5)) V.int ec rfl hcl (src := fun H => H wa = some (.list (iL wt))) (by assumption) (its_list (by assumption) R.handled (by assumption) (e _ _ hwa24)) hK (by omega) (fun _ e' => e' _ _ (e _ _ hwa24)) ?_ ?_ ?_ ?_
      · intro cenv q H' ec hq e
        exact asg1 ec rfl rfl
      · intro cenv q H2 B' W' s' E' ec2 hx2 e2' S'
        refine tests_one (gq ?_); intro Qt hQt
        walk_at "w"
        refine c_eq (by assumption) (by assumption) ?_
        walk_at "w"
        by_cases g1 : q = p
        · refine ifQ_tt (decide_eq_true g1) ?_
          walk_at "w"
          exact ⟨by rw [decide_eq_true g1]; rfl, _, by assumption, Ext.refl _⟩
        · refine ifQ_ff (decide_eq_false g1) ?_
          walk_at "w"
          refine q_tuple (B := B') (W := W') ?_
          walk_at "w"
          refine ⟨_, _, [.int p, .int q], by assumption, .two (by assumption) (by assumption), by show 2 ≤ 1000; decide, fun T s3 hT S3 => ?_⟩
          have eT := (Ext.refl H2).put hT (.tup [.int p, .int q])
          walk_at "w"
          refine c_inP (q := (p, q)) R (by assumption) rfl (AH.set_self ..) (by assumption) (hla24.ext ((e.trans e2').trans eT)) ?_
          walk_at "w"
          by_cases g2 : (p, q) ∈ leadsN rows 5
          · refine ifQ_tt (decide_eq_true g2) ?_
            walk_at "w"
            exact ⟨by rw [decide_eq_false g1, decide_eq_true g2]; rfl, _, by assumption, eT⟩
          · refine ifQ_ff (decide_eq_false g2) ?_
            walk_at "w"
            exact ⟨by rw [decide_eq_false g1, decide_eq_false g2]; rfl, _, by assumption, eT⟩
      · intro cenv x H' B' W' s' E' ec hx hp e S'
        walk_at "w"
        exact ⟨_, by assumption, Ext.refl _, by assumption⟩
      intro D16 H16 hD16 e16 hl16
      refine kK D16 H16 fun s16 S16 => ?_
      refine q_list (B := B') (W := W') (q_sp0 ⟨_, _, [], by assumption, .nil, by decide, fun D17 s17 hD17 S17 => ?_⟩)
      refine c_neL (l1 := wt.filter fun w => decide (w = p) || decide ((p, w) ∈ leadsN rows 5)) (l2 := []) R S17 rfl rfl (by exact AH.set_at (hl16) (fun h => by subst h; rw [hl16] at hD17; cases hD17)) (AH.set_self ..) ?_
      walk_at "w"
      have e17 := e16.trans ((Ext.refl _).put hD17 (.list []))
      by_cases hX : wt.filter (fun w => decide (w = p) || decide ((p, w) ∈ leadsN rows 5)) = []
      · refine ifQ_ff (by rw [decide_eq_true hX]; rfl) ?_
        walk_at "w"
        refine ⟨_, by assumption, e17, ?_⟩
        rw [if_pos hX, ← f48]; assumption
      · refine ifQ_tt (by rw [decide_eq_false hX]; rfl) ?_
        walk_at "w"
        refine ⟨_, by assumption, e17, ?_⟩
        rw [if_neg hX, ← f49]; assumption
    intro D28 H28 hD28 e28 hl28
    refine kK D28 H28 fun s28 S28 => ?_
    have hl28' : H28 D28 = some (.list (((dueL (leadsN rows 5) wt).map fun c => St [c]).map V.str)) := by
      rw [hl28, List.filter_eq_self.mpr (fun _ _ => rfl)]; unfold dueL; rw [List.map_map, List.map_map]; rfl
    walk_at "w"
    refine m_join (by assumption) (by assumption) hl28' (by unfold dueL; rw [List.length_map]; decide) ?_
    intro v29 s29 S29 h29
    refine r_store (v := .str (St (dueL (leadsN rows 5) wt))) Ge S29 rfl h29 ?_; intro s30 S30
    refine letS S30 ?_; intro _ S30
    have hva28 := e28 _ _ hva24
    have hoa28 := e28 _ _ hoa24
    have hxa28 := e28 _ _ hxa24
    have e282 := e242.trans e28
    clear kK hK hl28 hl28' it27
    refine q_next (q_cons ?_)
    walk_at "w"
    have hnl : (neverL (leadsN rows 5)).length ≤ 5 := len5 _
    have hts : ∀ t ∈ txtL rows, t.length = 5 := by
      intro t ht
      obtain ⟨p, _, rfl⟩ := List.mem_map.mp ht
      unfold patL; rw [List.length_map, List.length_map]; rfl
    have hto : ∀ x ∈ o, 0 ≤ x ∧ x < 5 := fun x hx => ordL_mem (hop.mem_iff.mp hx)
    have hnlen : (nameL dn).length = 5 := by unfold nameL; rw [List.length_map]; rfl
    have hdlen : (dueL (leadsN rows 5) wt).length = 5 := by unfold dueL; rw [List.length_map]; rfl
    refine q_callK (by assumption) (by kernel_rfl) ?_
    walk_at "w"
    refine r_listRev ?_
    walk_at "w"
    refine u_neg (by assumption) (by assumption) ?_; intro v31 s31 S31 h31
    refine ⟨_, _, _, _, oa, iL o, S31, by assumption, hoa28, by show (o.map V.int).length ≤ 1000; rw [List.length_map]; omega, h31, ?_⟩
    intro a32 s32 ha32 S32
    have e32 := (Ext.refl H28).put ha32 (.list (iL o).reverse)
    have hr32 : (iL o).reverse = iL o.reverse := by unfold iL; rw [List.map_reverse]
    refine b_addL (a := va) (b := a32) (l1 := iL (neverL (leadsN rows 5))) (l2 := iL o.reverse) S32 (by assumption) rfl (e32 _ _ hva28) (by rw [AH.set_self, hr32]) ?_ ?_
    · show ((neverL (leadsN rows 5)).map V.int).length + (o.reverse.map V.int).length ≤ 1000
      rw [List.length_map, List.length_map, List.length_reverse]; omega
    intro a33 s33 ha33 S33
    have h33 : ((H28.set a32 (.list (iL o).reverse)).set a33 (.list (iL (neverL (leadsN rows 5)) ++ iL o.reverse))) a33 = some (.list (iL (neverL (leadsN rows 5) ++ o.reverse))) := by
      rw [AH.set_self]; unfold iL; rw [List.map_append]
    have e33 := e32.trans ((Ext.refl _).put ha33 (.list (iL (neverL (leadsN rows 5)) ++ iL o.reverse)))
    generalize ((H28.set a32 (.list (iL o).reverse)).set a33 (.list (iL (neverL (leadsN rows 5)) ++ iL o.reverse))) = H33 at S33 h33 e33
    walk_at "w"
    rename_i r34 hr34
    obtain rfl := hr34
    refine ⟨S33.k, sp253 (m := m) S33 hb (R.mono (by omega)) (nm := nameL dn) (ord := neverL (leadsN rows 5) ++ o.reverse) (ts := txtL rows) hnlen (by assumption) h33 ?_ ?_ (e33 _ _ hxa28) rfl hts ?_⟩
    · intro x hx
      rcases List.mem_append.mp hx with hx | hx
      · exact neverL_mem hx
      · exact hto x (List.mem_reverse.mp hx)
    · rw [List.length_append, List.length_reverse]; omega
    intro rv35 H35 s35 e35 h35 S35
    rw [ht.1] at h35
    walk_at "w"
    refine c_neS h35 (by assumption) ?_
    walk_at "w"
    refine ifQ_ff (by simp) ?_
    walk_at "w"
    refine q_callK (by assumption) (by kernel_rfl) ?_
    walk_at "w"
    refine b_addL (a := oa) (b := va) (l1 := iL o) (l2 := iL (neverL (leadsN rows 5))) (by assumption) (by assumption) (by assumption) ((e33.trans e35) _ _ hoa28) ((e33.trans e35) _ _ hva28) ?_ ?_
    · show (o.map V.int).length + ((neverL (leadsN rows 5)).map V.int).length ≤ 1000
      rw [List.length_map, List.length_map]; omega
    intro a36 s36 ha36 S36
    have h36 : (H35.set a36 (.list (iL o ++ iL (neverL (leadsN rows 5))))) a36 = some (.list (iL (o ++ neverL (leadsN rows 5)))) := by
      rw [AH.set_self]; unfold iL; rw [List.map_append]
    have e36 := (Ext.refl _).put ha36 (.list (iL o ++ iL (neverL (leadsN rows 5))))
    generalize (H35.set a36 (.list (iL o ++ iL (neverL (leadsN rows 5))))) = H36 at S36 h36 e36
    walk_at "w"
    rename_i r37 hr37
    obtain rfl := hr37
    refine ⟨S36.k, sp253 (m := m) S36 hb (R.mono (by omega)) (nm := dueL (leadsN rows 5) wt) (ord := o ++ neverL (leadsN rows 5)) (ts := txtL rows) hdlen (by assumption) h36 ?_ ?_ (((e33.trans e35).trans e36) _ _ hxa28) rfl hts ?_⟩
    · intro x hx
      rcases List.mem_append.mp hx with hx | hx
      · exact hto x hx
      · exact neverL_mem hx
    · rw [List.length_append]; omega
    intro rv38 H38 s38 e38 h38 S38
    rw [ht.2] at h38
    walk_at "w"
    refine c_neS h38 (by assumption) ?_
    walk_at "w"
    refine ifQ_ff (by simp) ?_
    walk_at "w"
    refine ifQ_f ?_
    walk_at "w"
    refine ⟨_, _, S38.pick (F' := [("texts", .ref xa), ("order", .ref oa), ("never", .ref va), ("leads", .ref la), ("told", .ref ta), ("rows", .ref ra), ("numbers", .ref na)]) ⟨rfl, rfl, rfl, rfl, rfl, rfl, rfl, trivial⟩, rfl, e282.trans (((e33.trans e35).trans e36).trans e38)⟩
  · rintro F' H2 s' ⟨rfl, e2⟩ S'
    walk_at "w"
    exact k _ _ _ (e1.trans e2) S'
end
section -- Y42
variable {prog : Program} {w : World} {os : OsState} {ob : Obj} {n0 : Nat} {B : Heap} {W : Addr → Prop} {env : Env} {F : List (Str × V)} {H : AH} {s : Shared} {A : Around} {E : Value → Shared → Prop} {r1 r2 : Value}
set_option maxHeartbeats 4000000 in
theorem lawB {m : Nat} (S : Sf (CC prog w os ob n0) B W env F H s) (hb : BOk ob) (Ge : Ev (scOf w.params 258) env) (hf : env.frame = some env.locals) (R : Rm (m + 11) A) {outer : List Env} (hA : A.frames = some (env :: outer)) (of : OutF (CC prog w os ob n0) B W outer)
    {na ra ta : Addr} {ns : List Int} {rows : List (List Int)} (hF : F = ([("told", .ref ta), ("rows", .ref ra), ("numbers", .ref na)] : List (Str × V))) (hn : H na = some (.list (iL ns))) (hnz : ns.length ≤ 6) (hRA : RowsAt H ra rows) (hTA : RowsAt H ta rows) (hPL : PLaw rows) {Q : Flow → Shared → Prop}
    (k : ∀ F' H' s', Ext H H' → Sf (CC prog w os ob n0) B W env F' H' s' → Q (.ret (.bool true)) s') : wpAny (model (CC prog w os ob n0).prog (CC prog w os ob n0).w) A (execs ((bodyOf w.params 258).drop 6) env) Q E s := by
  subst hF
  refine q_cons ?_
  walk_at "w"
  refine q_callK (by assumption) (by kernel_rfl) ?_
  walk_at "w"
  rename_i r1 hr1
  obtain rfl := hr1
  refine ⟨S.k, sp229 (m := m) S hb (R.mono (by omega)) hRA hPL.len ?_⟩
  intro la H1 s1 e1 hla0 hla S1
  refine r_store (v := .ref la) Ge S1 rfl rfl ?_; intro s2 S2
  refine letS S2 ?_; intro _ S2
  refine q_next (q_cons ?_)
  refine wpAny_Assign_Name ?_ (sw_cell Ge rfl)
  refine r_eval_comp Ge (by assumption) rfl (fun cl hcl => ?_)
  walk_at "w"
  have hRA1 := hRA.ext e1
  have hTA1 := hTA.ext e1
  have hn1 := e1 _ _ hn
  have lok := leadsN_ok rows 5
  have hlen := lok.len
  have hla' := hla
  obtain ⟨vs, hvs, hpr⟩ := hla'
  have hvl : vs.length ≤ 25 := by rw [← hpr.length]; exact hlen
  obtain ⟨z1, z2, z3⟩ := hpr.zip
  have hxl : ((leadsN rows 5).zip vs).length ≤ 25 := ar_zip hlen
  refine ⟨_, _, by assumption, fun RR K hK kK => ?_⟩
  refine compP (B := B) (W := W) ((leadsN rows 5).zip vs) (fun x => x.2) (fun x => [(("b" : Str), V.int x.1.2), (("a" : Str), V.int x.1.1)]) (fun x => decide (x.1.1 = x.1.2)) (fun x => V.int x.1.1) Ge rfl hcl (src := fun H => H la = some (.list vs)) S2 (by rw [z1]; exact its_list S2 R.handled (by assumption) hvs) hK (by omega) (fun H' e => e _ _ hvs) ?_ ?_ ?_ ?_
  · intro cenv x H' ec hx e
    obtain ⟨T, eT, hT⟩ := z3 x hx
    exact asgP ec R.handled eT (e _ _ hT) rfl rfl rfl rfl
  · intro cenv x H' B' W' s' E' ec hx e S'
    refine tests_one (gq ?_); intro Qt hQt
    walk_at "w"
    refine c_eq (by assumption) (by assumption) ?_
    walk_at "w"
    exact ⟨rfl, _, by assumption, Ext.refl _⟩
  · intro cenv x H' B' W' s' E' ec hx hp e S'
    walk_at "w"
    exact ⟨_, by assumption, Ext.refl _, by assumption⟩
  intro ga H3 hga e3 hl3
  refine kK ga H3 fun s3 S3 => ?_
  have hg3 : H3 ga = some (.list (iL (ringsL (leadsN rows 5)))) := by
    rw [hl3, filter_by (fun x : (Int × Int) × V => x.1) (fun e => decide (e.1 = e.2)) (fun e => V.int e.1), z2]
    unfold ringsL iL
    rw [List.map_map]; rfl
  refine r_store (v := .ref ga) Ge S3 rfl rfl ?_; intro s4 S4
  refine letS S4 ?_; intro _ S4
  have hRA3 := hRA1.ext e3
  have hTA3 := hTA1.ext e3
  have hn3 := e3 _ _ hn1
  have hla3 := hla.ext e3
  have hgl : (ringsL (leadsN rows 5)).length ≤ 25 := by unfold ringsL; rw [List.length_map]; exact Nat.le_trans (List.length_filter_le _ _) hlen
  refine q_next (q_cons ?_)
  clear hl3 z1 z2 z3 hxl kK hK
  refine wpAny_Assign_Name ?_ (sw_cell Ge rfl)
  refine r_eval_comp Ge (by assumption) rfl (fun cl hcl => ?_)
  walk_at "w"
  refine PyProof.Rows.callWith_type1 ?_
  walk_at "w"
  refine m_range (n := 5) (by assumption) R.handled (by decide) (by assumption) ?_; intro rv5 s5 S5 it5
  refine ⟨_, _, S5, fun RR K hK kK => ?_⟩
  refine compP (B := B) (W := W) R5 V.int (fun p => [(("p" : Str), V.int p)]) (fun p => decide (p ∈ ringsL (leadsN rows 5)) || !decide ((ringsL (leadsN rows 5)).filter (fun q => decide ((q, p) ∈ leadsN rows 5)) = [])) V.int Ge rfl hcl (src := fun _ => True) S5 it5 hK (by decide) (fun _ _ => trivial) ?_ ?_ ?_ ?_
  · intro cenv q H' ec hq e
    exact asg1 ec rfl rfl
  · intro cenv p H' B' W' s' E' ec hx e S'
    refine tests_one (gq ?_); intro Qt hQt
    walk_at "w"
    refine c_in (by assumption) (by assumption) (by assumption) (e _ _ hg3) ?_
    walk_at "w"
    by_cases hp : p ∈ ringsL (leadsN rows 5)
    · refine ifQ_tt (decide_eq_true hp) ?_
      exact hQt _ _ ⟨by rw [decide_eq_true hp]; rfl, _, by assumption, Ext.refl _⟩
    · refine ifQ_ff (decide_eq_false hp) ?_
      walk_at "w"
      refine r_eval_comp ec (by assumption) rfl (fun cl hcl => ?_)
      walk_at "w"
      refine ⟨_, _, by assumption, fun RR K hK kK => ?_⟩
      refine compP (B := B') (W := W') (ringsL (leadsN rows 5)) V.int (fun q => [(("q" : Str), V.int q)]) (fun q => decide ((q, p) ∈ leadsN rows 5)) V.int ec rfl hcl (src := fun H => H ga = some (.list (iL (ringsL (leadsN rows 5))))) (by assumption) (its_list (by assumption) R.handled (by assumption) (e _ _ hg3)) hK (by omega) (fun H' e' => e' _ _ (e _ _ hg3)) ?_ ?_ ?_ ?_
      · intro cenv q H' ec hq e
        exact asg1 ec rfl rfl
      · intro cenv q H2 B' W' s' E' ec2 hx e2 S'
        refine tests_one (gq ?_); intro Qt hQt
        walk_at "w"
        refine q_tuple (B := B') (W := W') ?_
        walk_at "w"
        refine ⟨_, _, [.int q, .int p], by assumption, .two (by assumption) (by assumption), by show 2 ≤ 1000; decide, fun T s3 hT S3 => ?_⟩
        have eT := (Ext.refl H2).put hT (.tup [.int q, .int p])
        walk_at "w"
        refine c_inP (q := (q, p)) R (by assumption) rfl (AH.set_self ..) (by assumption) (((hla3.ext e).ext e2).ext eT) ?_
        walk_at "w"
        exact ⟨rfl, _, by assumption, eT⟩
      · intro cenv x H' B' W' s' E' ec hx hp e S'
        walk_at "w"
        exact ⟨_, by assumption, Ext.refl _, by assumption⟩
      intro D7 H7 hD7 e7 hl7
      refine kK D7 H7 fun s7 S7 => ?_
      refine q_list (B := B') (W := W') (q_sp0 ⟨_, _, [], by assumption, .nil, by decide, fun D8 s8 hD8 S8 => ?_⟩)
      refine c_neL (l1 := (ringsL (leadsN rows 5)).filter fun q => decide ((q, p) ∈ leadsN rows 5)) (l2 := []) R S8 rfl rfl (by exact AH.set_at (hl7) (fun h => by subst h; rw [hl7] at hD8; cases hD8)) (AH.set_self ..) ?_
      walk_at "w"
      have e78 := e7.trans ((Ext.refl _).put hD8 (.list []))
      by_cases hX : (ringsL (leadsN rows 5)).filter (fun q => decide ((q, p) ∈ leadsN rows 5)) = []
      · refine ifQ_ff (by rw [decide_eq_true hX]; rfl) ?_
        walk_at "w"
        exact ⟨by rw [decide_eq_false hp, decide_eq_true hX]; rfl, _, S8, e78⟩
      · refine ifQ_tt (by rw [decide_eq_false hX]; rfl) ?_
        walk_at "w"
        exact ⟨by rw [decide_eq_false hp, decide_eq_false hX]; rfl, _, S8, e78⟩
  · intro cenv x H' B' W' s' E' ec hx hp e S'
    walk_at "w"
    exact ⟨_, by assumption, Ext.refl _, by assumption⟩
  intro va H6 hva0 e6 hl6
  refine kK va H6 fun s6 S6 => ?_
  refine r_store (v := .ref va) Ge S6 rfl rfl ?_; intro s7 S7
  refine letS S7 ?_; intro _ S7
  have hva6 : H6 va = some (.list (iL (neverL (leadsN rows 5)))) := hl6
  have hRA6 := hRA3.ext e6
  have hTA6 := hTA3.ext e6
  have hn6 := e6 _ _ hn3
  have hla6 := hla3.ext e6
  have hga6 := e6 _ _ hg3
  have E6 := (e1.trans e3).trans e6
  refine q_next (q_cons ?_)
  clear kK hK hl6 hg3 hn3 hn1 hla3 hRA3 hRA1 hTA3 hTA1 hvs hpr hvl it5 hva0 hga
  refine r_unpack Ge R.handled rfl rfl ?_
  walk_at "w"
  refine q_callK (by assumption) (by kernel_rfl) ?_
  walk_at "w"
  rename_i r8 hr8
  obtain rfl := hr8
  refine ⟨S7.k, sp236 (m := m) S7 hb (R.mono (by omega)) hA (OutF.deep S7 of hf) hTA6 hPL.len (fun r hr => Nat.le_trans (hPL.sz r hr) (by decide)) hPL.su ?_⟩
  intro D H8 T r ring s8 G8 hT0 hnT hT d1 d2 d3 d4 d5 d6 d7 d8 S8
  refine ⟨B, W, _, _, T, _, _, S8, rfl, hT, fun s9 S9 => ?_⟩
  have hring := hPL.ring ring (by rw [← d1, ← d3]; exact d7) (by rw [← d1, ← d3]; exact d8)
  refine q_next (q_cons ?_)
  walk_at "w"
  refine q_callK (by assumption) (by kernel_rfl) ?_
  walk_at "w"
  refine PyProof.Rows.callWith_builtin1 ?_
  walk_at "w"
  refine m_sum (by assumption) R.handled (by assumption) (G8.ext _ _ hn6) ?_; intro v10 s10 S10 h10
  walk_at "w"
  rename_i r11 hr11 _ _
  obtain rfl := hr11
  obtain ⟨I, i0, i1, i2, i3⟩ := hPL.run
  have hsu := hPL.su
  have hkz := hPL.kz
  have hsuz := hPL.suz
  rw [← d1, ← d2] at i0
  simp only [← d1] at i1 hkz
  rw [← d1, ← d3] at hsu hsuz
  rw [← d3] at i2
  refine ⟨S10.k, sp243 (m := m) S10 hb (R.mono (by omega)) G8 d6 h10 I i0 i1 i2 hsu (by omega) (fun k hk => by have := hsuz k hk; omega) ?_⟩
  intro D' H11 O o np s11 G11 hO0 hnO hO hI S11
  obtain ⟨hop, hoo⟩ := i3 np o hI
  have E11 : Ext H6 H11 := G11.s.ext
  refine r_store (v := .ref O) Ge S11 rfl rfl ?_; intro s12 S12
  refine letS S12 ?_; intro _ S12
  have hRA11 := hRA6.ext E11
  have hTA11 := hTA6.ext E11
  have hn11 := E11 _ _ hn6
  have hla11 := hla6.ext E11
  have hga11 := E11 _ _ hga6
  have hva11 := E11 _ _ hva6
  replace E11 := E6.trans E11
  have hol : o.length ≤ 5 := by rw [hop.length_eq]; exact len5 _
  clear i0 i1 i2 i3 hI hsu hkz hsuz G11 G8 d1 d2 d3 d4 d5 d6 d7 d8 hT hnT hT0
  refine q_next (q_cons ?_)
  walk_at "w"
  rename_i rvr hrvr rvg hrvg
  refine q_list (B := B) (W := W) (q_sp0 ⟨_, _, [], by assumption, .nil, by decide, fun D13 s13 hD13 S13 => ?_⟩)
  refine c_neL (l1 := ringsL (leadsN rows 5)) (l2 := []) R S13 hrvg rfl (by exact AH.set_at (hga11) (fun h => by subst h; rw [hga11] at hD13; cases hD13)) (AH.set_self ..) ?_
  refine c_neB hrvr rfl ?_
  walk_at "w"
  refine ifQ_ff (by rw [hring]; cases decide (ringsL (leadsN rows 5) = []) <;> rfl) ?_
  have e13 := (Ext.refl H11).put hD13 (.list [])
  walk_at "w"
  refine PyProof.Rows.callWith_builtin1 ?_
  walk_at "w"
  refine m_sorted (l := o) (by assumption) (by assumption) (e13 _ _ hO) (by omega) ?_
  intro b14 l14 s14 hb14 hp14 hs14 S14
  have hl14 : l14 = ordL (leadsN rows 5) := eq_sorted (hp14.trans hop) hs14 (ordL_sorted _)
  subst hl14
  have e14 := e13.trans ((Ext.refl _).put hb14 (.list (iL (ordL (leadsN rows 5)))))
  walk_at "w"
  refine r_eval_comp Ge (by assumption) rfl (fun cl hcl => ?_)
  walk_at "w"
  refine PyProof.Rows.callWith_type1 ?_
  walk_at "w"
  refine m_range (n := 5) (by assumption) R.handled (by decide) (by assumption) ?_; intro rv15 s15 S15 it15
  refine ⟨_, _, S15, fun RR K hK kK => ?_⟩
  refine compP (B := B) (W := W) R5 V.int (fun p => [(("p" : Str), V.int p)]) (fun p => !decide (p ∈ neverL (leadsN rows 5))) V.int Ge rfl hcl (src := fun _ => True) S15 it15 hK (by decide) (fun _ _ => trivial) ?_ ?_ ?_ ?_
  · intro cenv q H' ec hq e
    exact asg1 ec rfl rfl
  · intro cenv p H' B' W' s' E' ec hx e S'
    refine tests_one (gq ?_); intro Qt hQt
    walk_at "w"
    refine c_notin (l := neverL (leadsN rows 5)) (by assumption) (by assumption) (by assumption) ((e14.trans e) _ _ hva11) ?_
    walk_at "w"
    exact ⟨rfl, _, by assumption, Ext.refl _⟩
  · intro cenv x H' B' W' s' E' ec hx hp e S'
    walk_at "w"
    exact ⟨_, by assumption, Ext.refl _, by assumption⟩
  intro D16 H16 hD16 e16 hl16
  refine kK D16 H16 fun s16 S16 => ?_
  refine c_neL (l1 := ordL (leadsN rows 5)) (l2 := ordL (leadsN rows 5)) R S16 rfl rfl (e16 _ _ (AH.set_self ..)) hl16 ?_
  walk_at "w"
  refine ifQ_ff (by simp) ?_
  walk_at "w"
  refine ifQ_f ?_
  have E16 := E11.trans (e14.trans e16)
  have hRA16 := hRA11.ext (e14.trans e16)
  have hTA16 := hTA11.ext (e14.trans e16)
  have hn16 := (e14.trans e16) _ _ hn11
  have hla16 := hla11.ext (e14.trans e16)
  have hva16 := (e14.trans e16) _ _ hva11
  have hO16 := (e14.trans e16) _ _ hO
  clear kK hK hl16 it15 hTA11 hRA11 hn11 hla11 hva11 hn6 hla6 hva6 hRA6 hTA6
  walk_at "w"
  refine r_assign_comp Ge rfl (by assumption) rfl rfl (fun cl hcl => ?_)
  walk_at "w"
  refine PyProof.Rows.callWith_type1 ?_
  walk_at "w"
  refine m_range (n := 5) (by assumption) R.handled (by decide) (by assumption) ?_; intro rv17 s17 S17 it17
  refine ⟨_, _, S17, fun RR K hK kK => ?_⟩
  have hr5 : ∀ p ∈ R5, 0 ≤ p ∧ p < 5 := by decide
  have f49 : Str.ofString "1" = St [49] := by decide +kernel
  have f48 : Str.ofString "0" = St [48] := by decide +kernel
  have f63 : Str.ofString "?" = St [63] := by decide +kernel
  refine compP (B := B) (W := W) R5 V.int (fun p => [(("p" : Str), V.int p)]) (fun _ => true) (fun p => V.str (St (patL rows p))) Ge rfl hcl (src := fun _ => True) S17 it17 hK (by decide) (fun _ _ => trivial) ?_ ?_ ?_ ?_
  · intro cenv q H' ec hq e
    exact asg1 ec rfl rfl
  · intro cenv p H' B' W' s' E' ec hx e S'
    exact tests_nil ⟨rfl, _, S', Ext.refl _⟩
  · intro cenv p H' B' W' s' E' ec hx hp e S'
    obtain ⟨hp0, hp5⟩ := hr5 p hx
    have hrow : rows[p.toNat]? = some (rows.getD p.toNat []) := row_at (ar_tn hp0 hp5 hPL.len)
    walk_at "w"
    refine gm_str (by assumption) PySem.F.slot_str_join PySem.F.type_str_join ?_
    refine callWith_method1 ?_
    walk_at "w"
    refine r_eval_comp ec (by assumption) rfl (fun cl hcl => ?_)
    walk_at "w"
    refine PyProof.Rows.callWith_type1 ?_
    walk_at "w"
    refine m_range (n := 5) (by assumption) R.handled (by decide) (by assumption) ?_; intro rv18 s18 S18 it18
    refine ⟨_, _, S18, fun RR K hK kK => ?_⟩
    refine compP (B := B') (W := W') R5 V.int (fun q => [(("q" : Str), V.int q)]) (fun _ => true) (fun q => V.str (St [if q ∈ rows.getD p.toNat [] then 49 else if p ∈ rows.getD q.toNat [] then 48 else 63])) ec rfl hcl (src := fun _ => True) S18 it18 hK (by decide) (fun _ _ => trivial) ?_ ?_ ?_ ?_
    · intro cenv q H' ec hq e
      exact asg1 ec rfl rfl
    · intro cenv q H' B' W' s' E' ec hx e S'
      exact tests_nil ⟨rfl, _, S', Ext.refl _⟩
    · intro cenv q H2 B' W' s' E' ec2 hx2 hp2 e2 S'
      obtain ⟨hq0, hq5⟩ := hr5 q hx2
      have hrowq : rows[q.toNat]? = some (rows.getD q.toNat []) := row_at (ar_tn hq0 hq5 hPL.len)
      obtain ⟨rsp, rp, u1, u2, u3, u4⟩ := (hTA16.ext (e.trans e2)).at hrow
      obtain ⟨rsq, rq, w1, w2, w3, w4⟩ := (hTA16.ext (e.trans e2)).at hrowq
      walk_at "w"
      refine sub_list (i := p) (by assumption) (by assumption) (by assumption) u1 hp0 (v := .ref rp) u2 (ar_i5 hp5) ?_; intro v19 h19
      refine c_in (l := rows.getD p.toNat []) (by assumption) (by assumption) h19 u3 ?_
      walk_at "w"
      by_cases g1 : q ∈ rows.getD p.toNat []
      · refine ifQ_tt (decide_eq_true g1) ?_
        walk_at "w"
        refine ⟨_, by assumption, Ext.refl _, ?_⟩
        rw [if_pos g1, ← f49]; assumption
      · refine ifQ_ff (decide_eq_false g1) ?_
        walk_at "w"
        refine sub_list (i := q) (by assumption) (by assumption) (by assumption) w1 hq0 (v := .ref rq) w2 (ar_i5 hq5) ?_; intro v20 h20
        refine c_in (l := rows.getD q.toNat []) (by assumption) (by assumption) h20 w3 ?_
        walk_at "w"
        by_cases g2 : p ∈ rows.getD q.toNat []
        · refine ifQ_tt (decide_eq_true g2) ?_
          walk_at "w"
          refine ⟨_, by assumption, Ext.refl _, ?_⟩
          rw [if_neg g1, if_pos g2, ← f48]; assumption
        · refine ifQ_ff (decide_eq_false g2) ?_
          walk_at "w"
          refine ⟨_, by assumption, Ext.refl _, ?_⟩
          rw [if_neg g1, if_neg g2, ← f63]; assumption
    intro D19 H19 hD19 e19 hl19
    refine kK D19 H19 fun s19 S19 => ?_
    have hl19' : H19 D19 = some (.list (((patL rows p).map fun c => St [c]).map V.str)) := by
      rw [hl19, List.filter_eq_self.mpr (fun _ _ => rfl)]; unfold patL; rw [List.map_map, List.map_map]; rfl
    walk_at "w"
    refine m_join (by assumption) (by assumption) hl19' (by unfold patL; rw [List.length_map]; decide) ?_
    intro v21 s21 S21 h21
    exact ⟨_, S21, e19, h21⟩
  intro pa H22 hpa0 e22 hl22
  refine kK pa H22 fun s22 S22 => ?_
  have hpa : H22 pa = some (.list (R5.map fun p => V.str (St (patL rows p)))) := by
    rw [hl22, List.filter_eq_self.mpr (fun _ _ => rfl)]
  have hRA22 := hRA16.ext e22
  have hTA22 := hTA16.ext e22
  have hn22 := e22 _ _ hn16
  have hla22 := hla16.ext e22
  have hva22 := e22 _ _ hva16
  have hO22 := e22 _ _ hO16
  replace E16 := E16.trans e22
  clear kK hK hl22 it17 e22
  refine q_next (q_cons ?_)
  refine r_assign_comp Ge rfl (by assumption) rfl rfl (fun cl hcl => ?_)
  walk_at "w"
  refine ⟨_, _, S22, fun RR K hK kK => ?_⟩
  refine compP (B := B) (W := W) R5 (fun p => V.str (St (patL rows p))) (fun p => [(("pattern" : Str), V.str (St (patL rows p)))]) (fun _ => true) (fun p => V.str (jnS ((patL rows p).map sgS))) Ge rfl hcl (src := fun H => H pa = some (.list (R5.map fun p => V.str (St (patL rows p))))) S22 (its_list S22 R.handled (by assumption) hpa) hK (by decide) (fun _ e => e _ _ hpa) ?_ ?_ ?_ ?_
  · intro cenv q H' ec hq e
    exact asg1 ec rfl rfl
  · intro cenv p H' B' W' s' E' ec hx e S'
    exact tests_nil ⟨rfl, _, S', Ext.refl _⟩
  · intro cenv p H' B' W' s' E' ec hx hp e S'
    walk_at "w"
    refine q_callK (by assumption) (by kernel_rfl) ?_
    walk_at "w"
    refine ⟨S'.k, sp170 (m := m) S' hb (R.mono (by omega)) (pat := patL rows p) ?_ (by unfold patL; rw [List.length_map]; decide) (by assumption) ?_⟩
    · intro c hc
      obtain ⟨q, _, rfl⟩ := List.mem_map.mp hc
      split
      · exact .inr (.inl rfl)
      · split
        · exact .inl rfl
        · exact .inr (.inr rfl)
    · intro rv H23 s23 e23 hrv S23
      exact ⟨_, S23, e23, hrv⟩
  intro xa H24 hxa0 e24 hl24
  refine kK xa H24 fun s24 S24 => ?_
  have hxa : H24 xa = some (.list ((txtL rows).map fun l => V.str (jnS l))) := by
    rw [hl24, List.filter_eq_self.mpr (fun _ _ => rfl)]; unfold txtL; rw [List.map_map]; rfl
  refine q_next ?_
  refine lawC (m := m) (S24.pick (F' := [("texts", .ref xa), ("order", .ref O), ("never", .ref va), ("leads", .ref la), ("told", .ref ta), ("rows", .ref ra), ("numbers", .ref na)]) ⟨rfl, rfl, rfl, rfl, rfl, rfl, rfl, trivial⟩) hb Ge hf R hA of rfl (e24 _ _ hn22) hnz (hRA22.ext e24) (hTA22.ext e24) (hla22.ext e24) (e24 _ _ hva22) (e24 _ _ hO22) hxa hop hoo hPL ?_
  intro F25 H25 s25 e25 S25
  exact k F25 H25 s25 ((E16.trans e24).trans e25) S25
end
section -- Y44
variable {prog : Program} {w : World} {os : OsState} {ob : Obj} {n0 : Nat} {B : Heap} {W : Addr → Prop} {env : Env} {F : List (Str × V)} {H : AH} {s : Shared} {A : Around} {E : Value → Shared → Prop} {r1 r2 : Value}
structure Sb (C : Cx) (H : AH) (s : Shared) : Prop where
  k : C.K.In s.heap
  lim : s.heap.NoLimit
  gens : s.gens = #[]
  os : s.os = C.os
  rel : ∀ a o, H a = some o → ∃ ob, s.heap.get? a = some ob ∧ OR C.prog C.w o ob
  apart : ∀ a, H a ≠ none → C.K.lookup a = none
  stat : C.K.lookup cStatics ≠ none
  sysm : ∀ a, H a ≠ none → (a == sysModules) = false
  big : C.n0 ≤ s.heap.objs.size
theorem Sb.enter {C : Cx} (S : Sb C H s) {fa : Addr} {p : Arguments} {b : List Stmt} {sc : Scope} {dv : Value} {fd : FuncData} (Fn : FnAt C.K fa p b sc dv fd) {binds : List (Str × Value)} {F' : List (Str × V)}
    (hb : A2 BR F' binds) (hn : (F'.map (·.1)).Nodup) (hp : parOk sc F' = true) (hk : sc.kind = .function) {s₁ : Shared}
    (x : InCallC s (callEnvC fd s.heap.objs.size fa).locals (bindL (callEnvC fd s.heap.objs.size fa).kindOf binds fun _ => none) (callEnvC fd s.heap.objs.size fa).cells
        (bindC (callEnvC fd s.heap.objs.size fa).kindOf binds fun _ => none) s₁) : Sf C s.heap (dom H) (callEnvC fd s.heap.objs.size fa) F' H s₁ := by
  obtain ⟨h1, tk, rfl⟩ := x.toInCall.same
  have hsc : (callEnvC fd s.heap.objs.size fa).scope = sc := Fn.scope
  have hko : ∀ y, (callEnvC fd s.heap.objs.size fa).kindOf y = sc.names.lookup y := fun y => by unfold Env.kindOf; rw [hsc]
  have hcells : (callEnvC fd s.heap.objs.size fa).cells = cellsFrom (s.heap.objs.size + 1) sc.names [] := by rw [← Fn.scope]; rfl
  have big : ∀ {a : Addr}, s.heap.objs.size ≤ a → s.heap.get? a = none := fun h => by
    rename_i a
    cases e : s.heap.get? a with
    | none => rfl
    | some o => exact absurd (Heap.lt_size e) (Nat.not_lt.mpr h)
  have free : ∀ {a : Addr}, s.heap.objs.size ≤ a → H a = none ∧ C.K.lookup a = none := fun h => by
    rename_i a
    constructor
    · cases e : H a with
      | none => rfl
      | some o => exact (by obtain ⟨ob, e1, _⟩ := S.rel _ _ e; rw [big h] at e1; cases e1)
    · cases e : C.K.lookup a with
      | none => rfl
      | some o => have := S.k a o e; rw [big h] at this; cases this
  have hi : ∀ y c, (callEnvC fd s.heap.objs.size fa).cells.lookup y = some c → s.heap.objs.size < c := fun y c e => x.above y c (mem_of_lookup e)
  refine ⟨S.k.keeps x.toInCall.keep, S.lim.keeps x.toInCall.keep, S.gens, S.os, fun a o e => let ⟨ob, h1, h2⟩ := S.rel a o e; ⟨ob, x.toInCall.keep _ _ h1, h2⟩, fun b o e _ => .inl (x.toInCall.keep b o e), fun a h => .inl h, S.apart, S.stat, ?_, Fn.globals, Fn.builtins, ?_, ?_, ?_, ?_, ?_, S.sysm, ?_⟩
  · rw [hsc]; exact hk
  · exact ⟨_, x.toInCall.ns, fun y v e k => bindL_at hb hn e k⟩
  · intro y v e
    by_cases hl : (callEnvC fd s.heap.objs.size fa).kindOf y = some .local
    · exact .inl hl
    · right
      have hm := List.all_eq_true.mp hp (y, v) (mem_of_lookup e)
      have hc : (callEnvC fd s.heap.objs.size fa).kindOf y = some .cell := by
        rw [hko] at hl ⊢
        dsimp only at hm
        split at hm
        · rename_i q; exact absurd q hl
        · assumption
        · cases hm
      have hso := cellsFrom_has sc.names (s.heap.objs.size + 1) [] y (.inr (by rw [← hko]; exact hc))
      rw [← hcells] at hso
      obtain ⟨c, hcc⟩ := Option.isSome_iff_exists.mp hso
      obtain ⟨rv, h2, h3⟩ := bindC_at hb hn (m := fun _ => none) e hl
      exact ⟨.inl hc, c, rv, hcc, h2 ▸ x.cell y c hcc, h3⟩
  · intro y c hcc hlt0
    have hlt := hi y c hcc
    refine ⟨⟨_, x.cell y c hcc⟩, (free (Nat.le_of_lt hlt)).2, .inr (big (Nat.le_of_lt hlt)), fun z c' e' hz q => ?_⟩
    subst q
    exact hz (name_of_addr x.apart (mem_of_lookup e') (mem_of_lookup hcc))
  · exact ⟨(free (Nat.le_refl _)).1, (free (Nat.le_refl _)).2, .inr (big (Nat.le_refl _))⟩
  · intro y c e
    have hlt := hi y c e
    obtain ⟨o, ho, _⟩ := x.cell y c e
    exact ⟨(free (Nat.le_of_lt hlt)).1, Nat.ne_of_gt hlt, by rw [ho]; simp⟩
  · exact S.big

theorem r_call0 {C : Cx} (S : Sb C H s) {n : Nat} (R : Rm n A) {fa : Addr} {p : Arguments} {b : List Stmt} {sc : Scope} {dv : Value} {fd : FuncData} (Fn : FnAt C.K fa p b sc dv fd) {vals : List Value} {binds : List (Str × Value)} {F' : List (Str × V)} {RR : Result → Shared → Prop}
    (hbind : bindArgs fd ⟨vals, []⟩ = pure binds) (hb : A2 BR F' binds) (hn : (F'.map (·.1)).Nodup) (hp : parOk sc F' = true) (ho : fnOk sc = true)
    (h : ∀ env' s₁, Ev sc env' → env'.frame = some env'.locals → Sf C s.heap (dom H) env' F' H s₁ →
      wpAny (model C.prog C.w) (A.deeper env') (execs b env') (fun f s' => RR (.ok (.ret (retOf f))) s') (fun _ _ => False) s₁) :
    codeAny (model C.prog C.w) A (.call (.ref fa) ⟨vals, []⟩) RR s := by
  obtain ⟨hk, hco, hgen, hf⟩ := fnOk.all ho
  refine codeAny_call_cells R.room (S.k _ _ Fn.at_) rfl S.lim (Fn.codeRec S.k) Fn.body hbind Fn.closure ?_ (fun s₁ x => ?_) (by rw [Fn.scope]; exact hco) (by rw [Fn.scope]; exact hgen) (by rw [Fn.scope]; exact hk)
  · intro x hx
    rw [Fn.scope]
    obtain ⟨i, hi⟩ := List.getElem?_of_mem hx
    obtain ⟨q, h1, h2⟩ := hb.get' hi
    have hm := List.all_eq_true.mp hp q (List.mem_of_getElem? h1)
    rw [h2.1] at hm
    split at hm
    · exact .inl (by assumption)
    · rename_i e; exact .inr ⟨e, cellsFrom_has _ _ _ _ (.inr e)⟩
    · cases hm
  · refine wpAny_mono (h _ s₁ (Fn.ev hf _) rfl (S.enter Fn hb hn hp hk x)) (fun f s' h' => ?_) fun _ _ e => e.elim
    cases f <;> exact h'
end
section -- Y43
variable {prog : Program} {w : World} {os : OsState} {ob : Obj} {n0 : Nat} {B : Heap} {W : Addr → Prop} {env : Env} {F : List (Str × V)} {H : AH} {s : Shared} {A : Around} {E : Value → Shared → Prop} {r1 r2 : Value}
noncomputable def six (xs : List Int) : List Int := (xs.take 6 ++ [6210, 11, 2217, 21, 10, 22]).take 6
noncomputable def nsOf (xs : List Int) : List Int := (six xs).map fun x => x.fmod 1000000
noncomputable def octOf (rows : List (List Int)) : List Int := rows.flatMap fun r => (r.length : Int) :: r
theorem oct_at {rows : List (List Int)} {i : Nat} {row : List Int} (h : rows[i]? = some row) :
    (octOf (rows.take i)).length < (octOf rows).length ∧ (octOf rows).getD (octOf (rows.take i)).length 0 = (row.length : Int) ∧ ((octOf rows).drop ((octOf (rows.take i)).length + 1)).take row.length = row ∧
    (octOf (rows.take i)).length + 1 + row.length ≤ (octOf rows).length ∧ (octOf (rows.take (i + 1))).length = (octOf (rows.take i)).length + 1 + row.length := by
  have e1 : octOf rows = octOf (rows.take i) ++ ((row.length : Int) :: (row ++ octOf (rows.drop (i + 1)))) := by
    have : rows = rows.take i ++ (row :: rows.drop (i + 1)) := by
      obtain ⟨hl, rfl⟩ := List.getElem?_eq_some_iff.mp h
      rw [← List.drop_eq_getElem_cons hl, List.take_append_drop]
    have e2 : octOf (rows.take i ++ (row :: rows.drop (i + 1))) = octOf (rows.take i) ++ ((row.length : Int) :: (row ++ octOf (rows.drop (i + 1)))) := by
      unfold octOf; rw [List.flatMap_append, List.flatMap_cons]; rfl
    rw [← e2, ← this]
  have e3 : octOf (rows.take (i + 1)) = octOf (rows.take i) ++ ((row.length : Int) :: row) := by
    unfold octOf; rw [List.take_add_one, h, List.flatMap_append]; simp
  generalize octOf (rows.take i) = p at e1 e3
  rw [e1, e3]
  refine ⟨?_, ?_, ?_, ?_, ?_⟩
  · rw [List.length_append]; exact Nat.lt_add_of_pos_right (Nat.succ_pos _)
  · rw [List.getD_eq_getElem?_getD, List.getElem?_append_right (Nat.le_refl _), Nat.sub_self]; rfl
  · rw [List.drop_append, List.drop_of_length_le (Nat.le_succ _), Nat.add_sub_cancel_left, List.nil_append, List.drop_succ_cons, List.drop_zero, List.take_append_of_le_length (Nat.le_refl _), List.take_length]
  · rw [List.length_append, List.length_cons, List.length_append, Nat.add_assoc, Nat.add_comm 1, Nat.add_right_comm]; exact Nat.add_le_add_left (Nat.le_add_right _ _) _
  · rw [List.length_append, List.length_cons, Nat.add_right_comm]; rfl
theorem oct_rg {rows : List (List Int)} (hsz : ∀ r ∈ rows, r.length ≤ 6) (hrg : ∀ r ∈ rows, ∀ x ∈ r, 0 ≤ x ∧ x < 5) : ∀ x ∈ octOf rows, 0 ≤ x ∧ x < 256 := by
  intro x hx
  obtain ⟨r, hr, hx⟩ := List.mem_flatMap.mp hx
  have := hsz r hr
  rcases List.mem_cons.mp hx with rfl | hx
  · exact ⟨Int.natCast_nonneg _, Int.ofNat_lt.mpr (Nat.lt_of_le_of_lt this (by decide))⟩
  · have := hrg r hr x hx; exact ⟨this.1, Int.lt_trans this.2 (by decide)⟩
theorem oct_len {rows : List (List Int)} (h5 : rows.length = 5) (hsz : ∀ r ∈ rows, r.length ≤ 6) : (octOf rows).length ≤ 35 := by
  have := flat_len (fun r : List Int => (r.length : Int) :: r) rows 7 fun x hx => by
    exact Nat.succ_le_succ (hsz x hx)
  rw [h5] at this; exact this
theorem StrmAt.mv {P : Params} {H1 H2 : AH} {fs rf ds cA cO c' Aa Oa D : Addr} {oct : List Int} {pos : Int} (St : StrmAt P H1 fs rf ds cA cO c' Aa Oa oct pos) (hk : ∀ b o, H1 b = some o → b ≠ D → H2 b = some o)
    (n1 : fs ≠ D) (n2 : rf ≠ D) (n3 : ds ≠ D) (n4 : cA ≠ D) (n5 : cO ≠ D) (n6 : c' ≠ D) (n7 : Aa ≠ D) (n8 : Oa ≠ D) : StrmAt P H2 fs rf ds cA cO c' Aa Oa oct pos := by
  obtain ⟨f1, h1⟩ := St.hs
  obtain ⟨q, d, p, ct, oc, vs, t, h2, h3, h4, h5⟩ := St.hr
  obtain ⟨o1, h6, h7⟩ := St.hA
  obtain ⟨o2, h8, h9⟩ := St.hO
  exact ⟨⟨f1, hk _ _ h1 n1⟩, hk _ _ St.hd n3, ⟨q, d, p, ct, oc, vs, t, hk _ _ h2 n2, hk _ _ h3 n6, h4, h5⟩, ⟨o1, hk _ _ h6 n4, h7⟩, ⟨o2, hk _ _ h8 n5, h9⟩, hk _ _ St.ha n7, hk _ _ St.ho n8, St.ne, St.nc⟩
theorem StrmAt.all {P : Params} {H1 : AH} {fs rf ds cA cO c' Aa Oa D : Addr} {oct : List Int} {pos : Int} (St : StrmAt P H1 fs rf ds cA cO c' Aa Oa oct pos) (hD : H1 D = none) : fs ≠ D ∧ rf ≠ D ∧ ds ≠ D ∧ cA ≠ D ∧ cO ≠ D ∧ c' ≠ D ∧ Aa ≠ D ∧ Oa ≠ D := by
  obtain ⟨f1, h1⟩ := St.hs
  obtain ⟨q, d, p, ct, oc, vs, t, h2, h3, h4, h5⟩ := St.hr
  obtain ⟨o1, h6, h7⟩ := St.hA
  obtain ⟨o2, h8, h9⟩ := St.hO
  have key : ∀ {b : Addr} {o : O}, H1 b = some o → b ≠ D := by
    intro b o hb h; subst h; rw [hD] at hb; cases hb
  exact ⟨key h1, key h2, key St.hd, key h6, key h8, key h3, key St.ha, key St.ho⟩
set_option maxHeartbeats 4000000 in
theorem sp258 {m : Nat} (S : Sb (CC prog w os ob n0) H s) (hb : BOk ob) (R : Rm (m + 12) A) {outer : List Env} (hA : A.frames = some outer) (of : OutF (CC prog w os ob n0) s.heap (dom H) outer)
    {obm : Obj} {mg : Str → Option Value} (hC : ∀ h, (KK w.params ob).In h → CodeHd h 216 212) (hG : ∀ h, (KK w.params ob).In h → h.Ns mainGlobals mg) (hB : ∀ h : Heap, h.get? 4 = some obm → h.BuiltinsAt mg 212)
    (hP : H 212 = some (.raw (tabObj #[]))) (h4 : H 4 = some (.raw obm)) {sa : Addr} {xs : List Int} {vs : Array Value} (hs : s.heap.IsList sa vs) (hv : A2 V.R (iL xs) vs.toList) (hz : xs.length ≤ 63) (hsa : H sa = none)
    (hPL : PLaw (rowsOf (nsOf xs))) {Q : Value → Shared → Prop}
    (k : ∀ env' F' H' ps s', H' 212 = some (.raw (tabObj ps)) → H' 4 = some (.raw obm) → Sf (CC prog w os ob n0) s.heap (dom H) env' F' H' s' → Q (.bool true) s') :
    wpAny (model prog w) A (call (.ref 258) [.ref sa]) Q E s := by
  refine wpAny_call (r_call0 S R (fn258 w.params ob) (vals := [.ref sa]) (binds := [("script", .ref sa)]) (F' := [("script", .ref sa)]) (by kernel_rfl) (.one ⟨rfl, rfl⟩) (of_decide_eq_true (by kernel_rfl)) (by kernel_rfl) (ok258 _) fun env' s1 Ge hf S1 => ?_)
  refine gE ?_; intro EF hEF; refine gq ?_; intro QF hQF
  have hA' := Around.frames_deeper (env := env') hA
  have hR := R.deeper env'
  have hkp : ∀ {W' F' H' s'}, Sf (CC prog w os ob n0) s.heap (dom H) W' F' H' s' → s'.heap.IsList sa vs := by
    intro W' F' H' s' S'
    obtain ⟨o, h1, h2, n, h3⟩ := hs
    rcases S'.kept sa o h1 (by intro h; exact h hsa) with h | ⟨_, ⟨es, n', h⟩, _⟩
    · exact ⟨o, h, h2, n, h3⟩
    · rw [h3] at h; cases h
  refine q_cons ?_
  refine r_assign_comp Ge rfl (by assumption) rfl rfl (fun cl hcl => ?_)
  refine r_listUpto ?_
  refine wpAny_BinOp ?_
  refine r_listUptoB ?_
  walk_at "w"
  refine ⟨_, _, _, _, sa, vs, iL xs, 6, by assumption, by assumption, hkp (by assumption), hv, by show (xs.map V.int).length ≤ 1000; rw [List.length_map]; omega, by assumption, by decide, ?_⟩
  intro a2 s2 ha2 S2
  have z1 : ((iL xs).take (6 : Int).toNat).length ≤ 6 := List.length_take_le _ _
  refine q_list (B := s.heap) (W := dom H) ?_
  walk_at "w"
  refine ⟨_, _, iL [6210, 11, 2217, 21, 10, 22], by assumption, .cons (by assumption) (.cons (by assumption) (.cons (by assumption) (.cons (by assumption) (.two (by assumption) (by assumption))))), by decide, ?_⟩
  intro a3 s3 ha3 S3
  refine b_addL (a := a2) (b := a3) (by assumption) rfl rfl (by exact AH.set_at (AH.set_self ..) (fresh_ne ha3).1.symm) (AH.set_self ..) (by show _ + 6 ≤ 1000; omega) ?_
  intro a4 s4 ha4 S4
  walk_at "w"
  refine ⟨_, _, _, _, a4, _, 6, by assumption, rfl, AH.set_self .., ?_, by assumption, by decide, ?_⟩
  · rw [List.length_append]; show _ + 6 ≤ 1000; omega
  intro a5 s5 ha5 S5
  have e5 : Ext H _ := ((((Ext.refl H).put ha2 (.list ((iL xs).take (6 : Int).toNat))).trans ((Ext.refl _).put ha3 (.list (iL [6210, 11, 2217, 21, 10, 22])))).trans ((Ext.refl _).put ha4 (.list ((iL xs).take (6 : Int).toNat ++ iL [6210, 11, 2217, 21, 10, 22])))).trans ((Ext.refl _).put ha5 (.list (((iL xs).take (6 : Int).toNat ++ iL [6210, 11, 2217, 21, 10, 22]).take (6 : Int).toNat)))
  have h5a := AH.set_self (((H.set a2 (.list ((iL xs).take (6 : Int).toNat))).set a3 (.list (iL [6210, 11, 2217, 21, 10, 22]))).set a4 (.list ((iL xs).take (6 : Int).toNat ++ iL [6210, 11, 2217, 21, 10, 22]))) a5 (.list (((iL xs).take (6 : Int).toNat ++ iL [6210, 11, 2217, 21, 10, 22]).take (6 : Int).toNat))
  have e6 : ((iL xs).take (6 : Int).toNat ++ iL [6210, 11, 2217, 21, 10, 22]).take (6 : Int).toNat = iL (six xs) := by
    show ((xs.map V.int).take 6 ++ [6210, 11, 2217, 21, 10, 22].map V.int).take 6 = ((xs.take 6 ++ [6210, 11, 2217, 21, 10, 22]).take 6).map V.int
    rw [← List.map_take, ← List.map_append, ← List.map_take]
  rw [e6] at S5 e5 h5a
  generalize ((((H.set a2 (O.list ((iL xs).take (6 : Int).toNat))).set a3 (O.list (iL [6210, 11, 2217, 21, 10, 22]))).set a4 (O.list ((iL xs).take (6 : Int).toNat ++ iL [6210, 11, 2217, 21, 10, 22]))).set a5 (O.list (iL (six xs)))) = H5 at S5 e5 h5a
  have hz6 : (six xs).length ≤ 6 := List.length_take_le _ _
  refine ⟨_, _, S5, fun RR K hK kK => ?_⟩
  refine compP (B := s.heap) (W := dom H) (six xs) V.int (fun x => [(("x" : Str), V.int x)]) (fun _ => true) (fun x => V.int (x.fmod 1000000)) Ge rfl hcl (src := fun H => H a5 = some (.list (iL (six xs)))) S5 (its_list S5 hR.handled rfl h5a) hK (by omega) (fun H' e => e _ _ h5a) ?_ ?_ ?_ ?_
  · intro cenv q H' ec hq e
    exact asg1 ec rfl rfl
  · intro cenv x H' B' W' s' E' ec hx e S'
    exact tests_nil ⟨rfl, _, S', Ext.refl _⟩
  · intro cenv x H' B' W' s' E' ec hx hp e S'
    walk_at "w"
    refine b_pow (a := 10) (b := 6) (by assumption) (by assumption) (by assumption) (by decide) (by decide) (by decide) ?_; intro v7 s7 S7 h7
    refine b_mod (b := 1000000) (by assumption) (by assumption) h7 (by decide) ?_; intro v8 s8 S8 h8
    exact ⟨_, S8, Ext.refl _, h8⟩
  intro na H6 hna e6 hl6
  have hn6 : H6 na = some (.list (iL (nsOf xs))) := by
    rw [hl6]; unfold nsOf iL; rw [List.map_map, List.filter_eq_self.mpr (fun _ _ => rfl)]; rfl
  refine kK na H6 fun s6 S6 => ?_
  refine q_next (q_cons ?_)
  have hnz : (nsOf xs).length ≤ 6 := by unfold nsOf; rw [List.length_map]; exact hz6
  replace e6 := e5.trans e6
  clear hl6 hna h5a e5 kK hK
  generalize nsOf xs = ns at hn6 hnz hPL
  walk_at "w"
  refine q_callK (by assumption) (by kernel_rfl) ?_
  walk_at "w"
  rename_i r7 hr7
  obtain rfl := hr7
  refine ⟨S6.k, sp224 (m := m) S6 hb (hR.mono (by omega)) hn6 (by omega) ?_⟩
  intro ra H7 s7 e7 hra hrows S7
  refine r_store (v := .ref ra) Ge S7 rfl rfl ?_; intro s8 S8
  refine letS S8 ?_; intro _ S8
  have hn7 := e7 _ _ hn6
  replace e7 := e6.trans e7
  refine q_next (q_cons ?_)
  refine wpAny_Assign_Name ?_ rfl
  refine q_list (q_sp0 ⟨_, _, [], by assumption, .nil, by decide, fun Oa s9 hOa S9 => ?_⟩)
  refine r_store (v := .ref Oa) Ge S9 rfl rfl ?_; intro s10 S10
  refine letS S10 ?_; intro _ S10
  have hlen := hPL.len
  have hsz := hPL.sz
  have hrg := hPL.rg
  obtain ⟨rs, hrl, hrs⟩ := hrows
  have hrsl : rs.length = (rowsOf ns).length := hrs.length
  refine q_next (q_cons ?_)
  have e7O : Ext H7 (H7.set Oa (.list [])) := (Ext.refl _).put hOa _
  refine r_for Ge S10 rfl ?_
  walk_at "w"
  refine ⟨_, _, _, _, by assumption, its_list (by assumption) hR.handled (by assumption) (e7O _ _ hrl), fun i F' H' => F' = ([("octets", .ref Oa), ("rows", .ref ra), ("numbers", .ref na), ("script", .ref sa)] : List (Str × V)) ∧ Ext H7 H' ∧ H' Oa = some (.list (iL (octOf ((rowsOf ns).take i)))), ⟨rfl, e7O, AH.set_self ..⟩, fun i F1 H1 ⟨_, e, _⟩ => e _ _ hrl, ?_, ?_⟩
  · rintro i v F' H8 B' W' s' E' hv' ⟨rfl, e8, hO8⟩ S'
    refine gq ?_; intro QL hQL
    obtain ⟨row, hrow⟩ : ∃ row, (rowsOf ns)[i]? = some row := ⟨_, List.getElem?_eq_getElem (by have := (List.getElem?_eq_some_iff.mp hv').1; rw [List.length_map] at this; omega)⟩
    obtain ⟨r, hr1, hr2⟩ := hrs.get' hrow
    have hv2 : v = .ref r := by rw [List.getElem?_map, hr1] at hv'; cases hv'; rfl
    subst hv2
    have hrowm := List.mem_of_getElem? hrow
    have hrz := hsz row hrowm
    have hoz : (octOf ((rowsOf ns).take i)).length ≤ 35 := by
      have := flat_len (fun r : List Int => (r.length : Int) :: r) ((rowsOf ns).take i) 7 fun x hx => by
        exact Nat.succ_le_succ (hsz x (List.mem_of_mem_take hx))
      exact Nat.le_trans this (Nat.mul_le_mul_left 7 (ar_take (Nat.le_of_eq hPL.len)))
    have stp : octOf ((rowsOf ns).take (i + 1)) = octOf ((rowsOf ns).take i) ++ ([(row.length : Int)] ++ row) := by
      unfold octOf
      rw [List.take_add_one, hrow, List.flatMap_append]; simp
    walk_at "w"
    refine q_list (B := B') (W := W') ?_
    walk_at "w"
    refine PyProof.Rows.callWith_builtin1 ?_
    walk_at "w"
    refine mm_len (l := iL row) (by assumption) (by assumption) (e8 _ _ hr2) (by show (row.map V.int).length ≤ 1000; rw [List.length_map]; omega) ?_; intro v9 s9 S9 h9
    rw [show (iL row).length = row.length from List.length_map ..] at h9
    walk_at "w"
    refine ⟨_, _, iL [(row.length : Int)], S9, .cons h9 .nil, by show 1 ≤ 1000; decide, ?_⟩
    intro a10 s10 ha10 S10'
    walk_at "w"
    refine b_addL (a := a10) (b := r) (l1 := iL [(row.length : Int)]) (l2 := iL row) (by assumption) rfl (by assumption) (AH.set_self ..) (by rw [AH.set_ne _ _ (fun h => by rw [h] at hr2; have := e8 _ _ hr2; rw [ha10] at this; cases this)]; exact e8 _ _ hr2) (by show 1 + (row.map V.int).length ≤ 1000; rw [List.length_map]; omega) ?_
    intro a11 s11 ha11 S11
    have e11 : Ext H8 ((H8.set a10 (.list (iL [(row.length : Int)]))).set a11 (.list (iL [(row.length : Int)] ++ iL row))) := ((Ext.refl _).put ha10 _).trans ((Ext.refl _).put ha11 _)
    rename_i rvo hrvo _ _
    refine b_iaddL (a := Oa) (b := a11) (l1 := iL (octOf ((rowsOf ns).take i))) (l2 := iL [(row.length : Int)] ++ iL row) S11 (by assumption) rfl (e11 _ _ hO8) (AH.set_self ..) ?_ ?_
    · show (_ : Nat) ≤ 1000
      rw [show (iL (octOf ((rowsOf ns).take i))).length = (octOf ((rowsOf ns).take i)).length from List.length_map .., List.length_append, show (iL row).length = row.length from List.length_map ..]
      show _ + (1 + _) ≤ _
      omega
    intro s12 S12
    refine r_store (v := .ref Oa) Ge S12 rfl rfl ?_; intro s13 S13
    refine letS S13 ?_; intro _ S13
    walk_at "w"
    refine ⟨_, _, S13.pick (F' := [("octets", .ref Oa), ("rows", .ref ra), ("numbers", .ref na), ("script", .ref sa)]) ⟨rfl, rfl, rfl, rfl, trivial⟩, rfl, ext_fresh' (e8.trans e11) hOa _, ?_⟩
    rw [AH.set_self, stp]; unfold iL; rw [List.map_append, List.map_append]
  · rintro F' H8 s' ⟨rfl, e8, hO8⟩ S'
    rw [List.length_map, hrsl, List.take_length] at hO8
    refine q_next (q_cons ?_)
    walk_at "w"
    refine q_callK (by assumption) (by kernel_rfl) ?_
    walk_at "w"
    rename_i r9 hr9
    obtain rfl := hr9
    refine ⟨S'.k, sp217 (m := m) S' hb (hR.mono (by omega)) hC hG hB ((e7.trans e8) _ _ hP) ((e7.trans e8) _ _ h4) hO8 ?_⟩
    intro H9 fs rf ds cA cO c' Aa ps s9 hk9 h212 hAa St S9
    refine r_store (v := .ref fs) Ge S9 rfl rfl ?_; intro s10 S10
    refine letS S10 ?_; intro _ S10
    have h49 := hk9 _ _ ((e7.trans e8) _ _ h4) (by decide)
    have n212 : ∀ {b : Addr} {l : List V}, H8 b = some (.list l) → b ≠ 212 := by
      intro b l hbl h; subst h; rw [(e7.trans e8) _ _ hP] at hbl; cases hbl
    have hra9 := hk9 _ _ (e8 _ _ hrl) (n212 (e8 _ _ hrl))
    have hna9 := hk9 _ _ (e8 _ _ hn7) (n212 (e8 _ _ hn7))
    have hrs9 : A2 (fun r l => H9 r = some (.list (iL l))) rs (rowsOf ns) := hrs.mono fun r l x => hk9 _ _ (e8 _ _ x) (n212 (e8 _ _ x))
    have hRA : RowsAt H9 ra (rowsOf ns) := ⟨rs, hra9, hrs9⟩
    refine q_next (q_cons ?_)
    refine wpAny_Assign_Name ?_ (sw_cell Ge rfl)
    refine r_eval_comp Ge (by assumption) rfl (fun cl hcl => ?_)
    walk_at "w"
    have holen := oct_len hlen hsz
    have horg := oct_rg hsz hrg
    refine ⟨_, _, S10, fun RR K hK kK => ?_⟩
    refine comp1 (B := s.heap) (W := dom H) Ge rfl hcl S10 (its_list S10 hR.handled (by assumption) hra9) hK (fun D i acc H' => (∀ b o, H9 b = some o → b ≠ Aa → H' b = some o) ∧ StrmAt w.params H' fs rf ds cA cO c' Aa Oa (octOf (rowsOf ns)) ((octOf ((rowsOf ns).take i)).length : Int) ∧ ∃ ts : List Addr, acc = ts.map V.ref ∧ A2 (fun r l => H' r = some (.list (iL l)) ∧ r ≠ Aa ∧ r ≠ D) ts ((rowsOf ns).take i)) ?_ ?_ ?_ ?_
    · intro D hD
      have hna := St.all hD
      have hk : ∀ b o, H9 b = some o → b ≠ D → (H9.set D (.list [])) b = some o := fun b o e ne => by exact AH.set_at (e) ne
      refine ⟨fun b o e _ => hk b o e (fun h => by subst h; rw [hD] at e; cases e), ?_, [], rfl, .nil⟩
      exact St.mv hk hna.1 hna.2.1 hna.2.2.1 hna.2.2.2.1 hna.2.2.2.2.1 hna.2.2.2.2.2.1 hna.2.2.2.2.2.2.1 hna.2.2.2.2.2.2.2
    · intro D i acc H' ⟨h, _⟩
      refine h _ _ hra9 (fun h => ?_)
      rw [h, St.ha] at hra9
      simp only [Option.some.injEq, O.list.injEq] at hra9
      cases rs with
      | nil => cases hra9
      | cons => cases hra9
    · rintro D cenv hD ec i v acc H' B' W' E' hv' ⟨hk', St', ts, rfl, hts⟩ hDl
      obtain ⟨row, hrow⟩ : ∃ row, (rowsOf ns)[i]? = some row := ⟨_, List.getElem?_eq_getElem (by have := (List.getElem?_eq_some_iff.mp hv').1; rw [List.length_map] at this; omega)⟩
      obtain ⟨r, hr1, hr2⟩ := hrs9.get' hrow
      have hv2 : v = .ref r := by rw [List.getElem?_map, hr1] at hv'; cases hv'; rfl
      subst hv2
      have hrowm := List.mem_of_getElem? hrow
      have hrz := hsz row hrowm
      have hrr := hrg row hrowm
      obtain ⟨o1, o2, o3, o4, o5⟩ := oct_at hrow
      have hna := St.all hD
      refine ⟨.inl ⟨_, _, rfl⟩, _, fun q hq => by rw [List.mem_singleton] at hq; subst hq; rfl, asg_name ec rfl, fun s' S' => ?_⟩
      refine tests_nil ?_
      refine ifQ_t ?_
      walk_at "w"
      refine PyProof.Rows.callWith_type1 ?_
      walk_at "w"
      refine q_callK (by assumption) (by kernel_rfl) ?_
      walk_at "w"
      rename_i r11 hr11
      obtain rfl := hr11
      refine ⟨S'.k, sp210 (m := m) (row := row) S' hb (hR.mono (by omega)) St' o1 o2 o3 o4 (by omega) horg ?_⟩
      intro H11 rv11 s11 hbv St11 hk11 S11
      walk_at "w"
      refine m_listB S11 hR.handled hbv (by omega) (fun n hn => by have := hrr n hn; omega) ?_
      intro a12 s12 ha12 S12
      have hDl11 := hk11 _ _ hDl (fun h => hna.2.2.2.2.2.2.1 h.symm)
      have haD : a12 ≠ D := by intro h; subst h; rw [hDl11] at ha12; cases ha12
      have haA : a12 ≠ Aa := by intro h; subst h; rw [St11.ha] at ha12; cases ha12
      have hkk : ∀ b o, H11 b = some o → b ≠ D → ((H11.set a12 (.list (iL row))).set D (.list (ts.map V.ref ++ [.ref a12]))) b = some o := by
        intro b o e ne
        exact AH.set_at (AH.set_at (e) (fun h => by subst h; rw [ha12] at e; cases e)) ne
      refine ⟨.ref a12, _, S12, rfl, by rw [AH.set_ne _ _ haD.symm]; exact hDl11, ?_, ?_, ?_, ts ++ [a12], by rw [List.map_append]; rfl, ?_⟩
      · rw [List.length_map, hts.length, List.length_take]; omega
      · exact fun b o e ne => hkk b o (hk11 _ _ (hk' _ _ e ne) ne) (fun h => by subst h; rw [hD] at e; cases e)
      · rw [o5]
        exact St11.mv hkk hna.1 hna.2.1 hna.2.2.1 hna.2.2.2.1 hna.2.2.2.2.1 hna.2.2.2.2.2.1 hna.2.2.2.2.2.2.1 hna.2.2.2.2.2.2.2
      · rw [List.take_add_one, hrow]
        refine A2.append (hts.mono fun r l ⟨x1, x2, x3⟩ => ⟨hkk _ _ (hk11 _ _ x1 x2) x3, x2, x3⟩) (.cons ⟨?_, haA, haD⟩ .nil)
        exact AH.set_at (AH.set_self ..) haD
    · rintro D acc H12 hD ⟨hk', _, ts, rfl, hts⟩ hDl
      rw [List.length_map, hrsl, List.take_length] at hts
      refine kK D H12 fun s12 S12 => ?_
      refine r_store (v := .ref D) Ge S12 rfl rfl ?_; intro s13 S13
      refine letS S13 ?_; intro _ S13
      have hTA : RowsAt H12 D (rowsOf ns) := ⟨ts, hDl, hts.mono fun _ _ x => x.1⟩
      have hAa12 := hk' 
      have hk12 : ∀ b o, H8 b = some o → b ≠ 212 → H12 b = some o := fun b o e ne => hk' _ _ (hk9 _ _ e ne) (fun h => by subst h; rw [hAa] at e; cases e)
      have h212' : H12 212 = some (.raw (tabObj ps)) := hk' _ _ h212 (fun h => by have := St.ha; rw [← h, h212] at this; cases this)
      have h412 := hk12 _ _ ((e7.trans e8) _ _ h4) (by decide)
      have hRA12 : RowsAt H12 ra (rowsOf ns) := ⟨rs, hk12 _ _ (e8 _ _ hrl) (n212 (e8 _ _ hrl)), hrs.mono fun r l x => hk12 _ _ (e8 _ _ x) (n212 (e8 _ _ x))⟩
      have hn12 := hk12 _ _ (e8 _ _ hn7) (n212 (e8 _ _ hn7))
      refine q_next ?_
      refine lawB (m := m) (S13.pick (F' := [("told", .ref D), ("rows", .ref ra), ("numbers", .ref na)]) ⟨rfl, rfl, rfl, trivial⟩) hb Ge hf (hR.mono (by omega)) hA' of rfl hn12 hnz hRA12 hTA hPL ?_
      intro F14 H14 s14 e14 S14
      exact hQF _ _ (k _ _ H14 ps _ (e14 _ _ h212') (e14 _ _ h412) S14)
end
section -- Y45
variable {prog : Program} {w : World} {os : OsState} {ob : Obj} {n0 : Nat} {B : Heap} {W : Addr → Prop} {env : Env} {F : List (Str × V)} {H : AH} {s : Shared} {A : Around} {E : Value → Shared → Prop} {r1 r2 : Value}
noncomputable def H0of (obm : Obj) : AH := fun a => if a = 4 then some (.raw obm) else if a = 212 then some (.raw (tabObj #[])) else none
theorem H0of_cases {obm : Obj} {a : Addr} {o : O} (h : H0of obm a = some o) : (a = 4 ∧ o = .raw obm) ∨ (a = 212 ∧ o = .raw (tabObj #[])) := by
  unfold H0of at h
  split at h
  · cases h; exact .inl ⟨by assumption, rfl⟩
  · split at h
    · cases h; exact .inr ⟨by assumption, rfl⟩
    · cases h
theorem H0of_none {obm : Obj} {a : Addr} (h4 : a ≠ 4) (h2 : a ≠ 212) : H0of obm a = none := by
  unfold H0of; rw [if_neg h4, if_neg h2]
theorem ints_A2 : ∀ {vs : List Value} {xs : List Int}, IntsAre vs xs → A2 V.R (iL xs) vs := by
  intro vs xs h
  induction h with
  | nil => exact .nil
  | cons => rename_i ih; exact .cons ⟨_, rfl⟩ ih
set_option maxHeartbeats 4000000 in
theorem start {s1 : Shared} {mg mb : Str → Option Value} (KX : (kP w.params).In s1.heap) (hgl : s1.heap.Ns mainGlobals mg) (hbl : s1.heap.Ns builtinsNs mb) (hbb : ∀ x : Str, x ≠ "__name__" → mb x = bootBuiltins x) (hlim : s1.heap.NoLimit) (hg : s1.gens = #[])
    (hbm : ∃ bm obm, mg "__builtins__" = some (.ref bm) ∧ bm ≠ builtinsNs ∧ s1.heap.get? bm = some obm ∧ obm.cls = .type "module" ∧ obm.dict = some builtinsNs ∧ obm.data = .plain) (h212 : s1.heap.get? 212 = some (tabObj #[]))
    {sa : Addr} {vs : List Value} {xs : List Int} (hL : s1.heap.IsList sa vs.toArray) (hI : IntsAre vs xs) (hz : xs.length ≤ 63) (hPL : PLaw (rowsOf (nsOf xs))) {Q : Value → Shared → Prop}
    (k : ∀ s', (∀ b o, (ghostOf s1.heap [(216, 212)]).get? b = some o → s'.heap.get? b = some o) → s'.os = s1.os → s'.gens = #[] → (∃ ps, s'.heap.get? 212 = some (tabObj ps)) → Q (.bool true) s') :
    wpAny (model prog w) callerA (call (.ref 258) [.ref sa]) Q E s1 := by
  obtain ⟨bm, obm, b1, b2, b3, b4, b5, b6⟩ := hbm
  have e4 : mg "__builtins__" = some (.ref 4) := mg_of KX hgl (by kernel_rfl)
  rw [e4] at b1
  cases b1
  obtain ⟨ob, es, ep, o1, o2, o3, o4⟩ := hbl
  have hb : BOk ob := ⟨es, ep, o2, o3, fun x hx => by rw [o4, hbb x hx]⟩
  have hK : (KK w.params ob).In s1.heap := by
    intro a o e
    unfold KK at e
    rw [List.lookup_cons] at e
    cases q : a == builtinsNs with
    | true => rw [q] at e; cases e; rw [eq_of_beq q]; exact o1
    | false => rw [q] at e; exact KX a o e
  have S : Sb (CC prog w s1.os ob s1.heap.objs.size) (H0of obm) s1 := by
    refine ⟨hK, hlim, hg, rfl, ?_, ?_, ?_, ?_, Nat.le_refl _⟩
    · intro a o e
      rcases H0of_cases e with ⟨rfl, rfl⟩ | ⟨rfl, rfl⟩
      · exact ⟨_, b3, rfl⟩
      · exact ⟨_, h212, rfl⟩
    · intro a e
      cases q : H0of obm a with
      | none => exact absurd q e
      | some o =>
        rcases H0of_cases q with ⟨rfl, rfl⟩ | ⟨rfl, rfl⟩
        · show (KK w.params ob).lookup 4 = none; kernel_rfl
        · show (KK w.params ob).lookup 212 = none; kernel_rfl
    · have : ((KK w.params ob).lookup cStatics).isSome = true := by kernel_rfl
      intro h
      rw [show (CC prog w s1.os ob s1.heap.objs.size).K = KK w.params ob from rfl] at h
      rw [h] at this; cases this
    · intro a e
      cases q : H0of obm a with
      | none => exact absurd q e
      | some o =>
        rcases H0of_cases q with ⟨rfl, rfl⟩ | ⟨rfl, rfl⟩ <;> decide
  obtain ⟨om, hom⟩ : ∃ om, (KK w.params ob).lookup mainGlobals = some om := by
    have : ((KK w.params ob).lookup mainGlobals).isSome = true := by kernel_rfl
    exact Option.isSome_iff_exists.mp this
  have hG : ∀ h, (KK w.params ob).In h → h.Ns mainGlobals mg := by
    intro h hh
    obtain ⟨o, es, ep, g1, g2, g3, g4⟩ := hgl
    have := hK _ _ hom
    rw [g1] at this; cases this
    exact ⟨_, es, ep, hh _ _ hom, g2, g3, g4⟩
  have nl : sa ≠ 4 ∧ sa ≠ 212 := by
    obtain ⟨o, l1, l2, n, l3⟩ := hL
    constructor
    · intro h; subst h; rw [b3] at l1; cases l1; rw [b6] at l3; cases l3
    · intro h; subst h; rw [h212] at l1; cases l1; cases l2
  have R : Rm (20 + 12) callerA := ⟨rfl, by decide, by decide, ⟨[], rfl⟩, rfl⟩
  refine sp258 (m := 20) S hb R (outer := []) rfl (fun v hv => nomatch hv) (obm := obm) (mg := mg) (fun h hh => codeHd_of_K hh (by kernel_rfl)) hG ?_ rfl rfl hL (by simpa using ints_A2 hI) hz (H0of_none nl.1 nl.2) hPL ?_
  · intro h hh
    exact ⟨4, obm, e4, b2, by decide, by decide, hh, b4, b5, b6⟩
  · intro env' F' H' ps s' h2 h4 S'
    refine k s' ?_ S'.os S'.gens ?_
    · intro b o e
      have e' : s1.heap.get? b = some o := of_hideAll _ e
      have n212 : b ≠ 212 := by
        intro h; subst h
        have : (ghostOf s1.heap [(216, 212)]).get? 212 = none := hideAll_none _ (by simp)
        rw [this] at e; cases e
      by_cases h4' : b = 4
      · subst h4'
        obtain ⟨x, r1, r2⟩ := S'.rel _ _ h4
        rw [b3] at e'; cases e'
        cases r2
        exact r1
      · rcases S'.kept b o e' (by intro h; exact h (H0of_none h4' n212)) with h | ⟨h, _⟩
        · exact h
        · exact absurd (Heap.lt_size e') (Nat.not_lt.mpr h)
    · obtain ⟨x, r1, r2⟩ := S'.rel _ _ h2
      cases r2
      exact ⟨ps, r1⟩
end
section -- P1
structure RowsOk (rows : List (List Int)) : Prop where
  len : rows.length = 5
  tot : (rows.map List.length).sum ≤ 6
  rg : ∀ r ∈ rows, ∀ x ∈ r, 0 ≤ x ∧ x < 5
theorem sum_modify (v : Int) : ∀ (l : List (List Int)) (i : Nat), ((l.modify i (· ++ [v])).map List.length).sum ≤ (l.map List.length).sum + 1
  | [], i => by simp
  | a :: l, 0 => by
    show (a ++ [v]).length + (l.map List.length).sum ≤ a.length + (l.map List.length).sum + 1
    rw [List.length_append, Nat.add_right_comm]; exact Nat.le_refl _
  | a :: l, i + 1 => by
    show a.length + ((l.modify i (· ++ [v])).map List.length).sum ≤ a.length + (l.map List.length).sum + 1
    exact Nat.add_le_add_left (sum_modify v l i) _
theorem fmod5 (x : Int) : 0 ≤ x.fmod 5 ∧ x.fmod 5 < 5 := ⟨Int.fmod_nonneg_of_pos _ (by decide), Int.fmod_lt_of_pos _ (by decide)⟩
theorem addRow_ok {t x : Int} {rows : List (List Int)} {n : Nat} (h : rows.length = 5 ∧ (rows.map List.length).sum ≤ n ∧ ∀ r ∈ rows, ∀ x ∈ r, 0 ≤ x ∧ x < 5) :
    (addRow t rows x).length = 5 ∧ ((addRow t rows x).map List.length).sum ≤ n + 1 ∧ ∀ r ∈ addRow t rows x, ∀ x ∈ r, 0 ≤ x ∧ x < 5 := by
  obtain ⟨h1, h2, h3⟩ := h
  have key : ∀ (c : Bool) (i : Nat) (v : Int), (0 ≤ v ∧ v < 5) → (if c then rows.modify i (· ++ [v]) else rows).length = 5 ∧ ((if c then rows.modify i (· ++ [v]) else rows).map List.length).sum ≤ n + 1 ∧ ∀ r ∈ (if c then rows.modify i (· ++ [v]) else rows), ∀ x ∈ r, 0 ≤ x ∧ x < 5 := by
    intro c i v hv
    cases c with
    | true =>
      rw [if_pos rfl]
      refine ⟨by rw [List.length_modify, h1], Nat.le_trans (sum_modify _ _ _) (Nat.succ_le_succ h2), ?_⟩
      intro r hr y hy
      rcases mem_modify hr with hr | ⟨q, hq, rfl⟩
      · exact h3 r hr y hy
      · rcases List.mem_append.mp hy with hy | hy
        · exact h3 q hq y hy
        · rw [List.mem_singleton] at hy; subst hy; exact hv
    | false =>
      rw [if_neg (by decide)]
      exact ⟨h1, Nat.le_succ_of_le h2, h3⟩
  exact key _ _ _ (fmod5 _)
theorem foldRow_ok (t : Int) : ∀ (ns : List Int) {rows : List (List Int)} {n : Nat}, (rows.length = 5 ∧ (rows.map List.length).sum ≤ n ∧ ∀ r ∈ rows, ∀ x ∈ r, 0 ≤ x ∧ x < 5) →
    ((ns.foldl (addRow t) rows).length = 5 ∧ ((ns.foldl (addRow t) rows).map List.length).sum ≤ n + ns.length ∧ ∀ r ∈ ns.foldl (addRow t) rows, ∀ x ∈ r, 0 ≤ x ∧ x < 5)
  | [], _, _, h => h
  | x :: ns, rows, n, h => by
    have := foldRow_ok t ns (addRow_ok (t := t) (x := x) h)
    rw [List.foldl_cons, List.length_cons]
    exact ⟨this.1, Nat.le_trans this.2.1 (Nat.le_of_eq (Nat.add_right_comm ..)), this.2.2⟩
theorem rowsOk (xs : List Int) : RowsOk (rowsOf (nsOf xs)) := by
  have h := foldRow_ok (nsOf xs).sum (nsOf xs) (rows := [[], [], [], [], []]) (n := 0) ⟨rfl, by decide, fun r hr x hx => by simp at hr; subst hr; cases hx⟩
  have h6 : (nsOf xs).length ≤ 6 := by unfold nsOf six; rw [List.length_map]; exact List.length_take_le _ _
  exact ⟨h.1, Nat.le_trans h.2.1 (by rw [Nat.zero_add]; exact h6), h.2.2⟩
theorem le_sum : ∀ {l : List (List Int)} {r : List Int}, r ∈ l → r.length ≤ (l.map List.length).sum
  | a :: l, r, h => by
    rw [List.map_cons, List.sum_cons]
    rcases List.mem_cons.mp h with rfl | h
    · exact Nat.le_add_right _ _
    · exact Nat.le_trans (le_sum h) (Nat.le_add_left _ _)
noncomputable def rw5 (rows : List (List Int)) (p : Int) : List Int := rows.getD p.toNat []
theorem rw5_mem {rows : List (List Int)} {p : Int} {x : Int} (h : x ∈ rw5 rows p) : rw5 rows p ∈ rows := by
  unfold rw5 at h ⊢
  rw [List.getD_eq_getElem?_getD] at h ⊢
  cases e : rows[p.toNat]? with
  | none => rw [e] at h; cases h
  | some r => exact List.mem_of_getElem? e
theorem RowsOk.rg5 {rows : List (List Int)} (h : RowsOk rows) {p x : Int} (hx : x ∈ rw5 rows p) : 0 ≤ x ∧ x < 5 := h.rg _ (rw5_mem hx) x hx
theorem mem5' {x : Int} : x ∈ R5 ↔ 0 ≤ x ∧ x < 5 := by
  exact ⟨(by decide : ∀ p ∈ R5, 0 ≤ p ∧ p < 5) x, fun h => m5 h.1 h.2⟩
theorem nbeq {a p : Int} (hp : ¬ (0 ≤ p ∧ p < 5)) (ha : 0 ≤ a ∧ a < 5) : ¬ (a == p) = true := fun z => hp (eq_of_beq z ▸ ha)
theorem addS_fold (i : Int) : ∀ (r : List Int) (su : Int → List Int) (q : Int), (r.foldl (addS i) su) q = su q ++ List.replicate (r.count q) i
  | [], su, q => by simp
  | a :: r, su, q => by
    rw [List.foldl_cons, addS_fold i r]
    unfold addS upd
    by_cases h : q = a
    · subst h; rw [if_pos rfl, List.count_cons_self, List.append_assoc]; rw [List.replicate_succ]; rfl
    · rw [if_neg h, List.count_cons_of_ne (Ne.symm h)]
theorem bld_su (rows : List (List Int)) (q : Int) : ∀ n, (bldN rows n).su q = (List.range n).flatMap fun i : Nat => List.replicate ((rows.getD i []).count q) (i : Int)
  | 0 => rfl
  | n + 1 => by
    show ((rows.getD n []).foldl (addS (n : Int)) (bldN rows n).su) q = _
    rw [addS_fold, bld_su rows q n, List.range_succ, List.flatMap_append]; simp
theorem bld_np (rows : List (List Int)) (p : Int) : ∀ n, (bldN rows n).np p = if 0 ≤ p ∧ p < n then ((rows.getD p.toNat []).length : Int) else 0
  | 0 => by rw [if_neg (fun h => Int.lt_irrefl _ (Int.lt_of_le_of_lt h.1 h.2))]; rfl
  | n + 1 => by
    show upd (bldN rows n).np (n : Int) ((bldN rows n).np n + (rows.getD n []).length) p = _
    unfold upd
    by_cases h : p = n
    · subst h; rw [if_pos rfl, if_pos ⟨Int.natCast_nonneg _, Int.ofNat_lt.mpr (Nat.lt_succ_self _)⟩, bld_np rows n n, if_neg (fun h => Int.lt_irrefl _ h.2)]; simp
    · rw [if_neg h, bld_np rows p n]
      by_cases h2 : 0 ≤ p ∧ p < n
      · rw [if_pos h2, if_pos ⟨h2.1, Int.lt_trans h2.2 (Int.ofNat_lt.mpr (Nat.lt_succ_self _))⟩]
      · rw [if_neg h2, if_neg (fun z => h2 ⟨z.1, Int.lt_iff_le_and_ne.mpr ⟨Int.lt_add_one_iff.mp z.2, h⟩⟩)]
theorem addK_mem' {ks : List Int} {q k : Int} : k ∈ addK ks q ↔ k ∈ ks ∨ k = q := by
  unfold addK
  split
  · constructor
    · exact .inl
    · rintro (h | rfl) <;> assumption
  · simp
theorem addK_nd {ks : List Int} {q : Int} (h : ks.Nodup) : (addK ks q).Nodup := by
  unfold addK
  split
  · exact h
  · rw [List.nodup_append]
    exact ⟨h, by simp, fun a ha b hb => by rw [List.mem_singleton] at hb; subst hb; rintro rfl; contradiction⟩
theorem addKs_mem : ∀ {r ks : List Int} {k : Int}, k ∈ r.foldl addK ks ↔ k ∈ ks ∨ k ∈ r
  | [], ks, k => by simp
  | a :: r, ks, k => by rw [List.foldl_cons, addKs_mem, addK_mem', List.mem_cons, or_assoc]
theorem addKs_nd : ∀ {r ks : List Int}, ks.Nodup → (r.foldl addK ks).Nodup
  | [], _, h => h
  | a :: r, _, h => addKs_nd (r := r) (addK_nd h)
theorem bld_ks (rows : List (List Int)) : ∀ n, (bldN rows n).ks.Nodup ∧ ∀ k, k ∈ (bldN rows n).ks ↔ ∃ i : Nat, i < n ∧ (k = i ∨ k ∈ rows.getD i [])
  | 0 => ⟨List.nodup_nil, fun k => by simp [bldN]⟩
  | n + 1 => by
    obtain ⟨h1, h2⟩ := bld_ks rows n
    refine ⟨addKs_nd (addK_nd h1), fun k => ?_⟩
    show k ∈ (rows.getD n []).foldl addK (addK (bldN rows n).ks n) ↔ _
    rw [addKs_mem, addK_mem', h2]
    constructor
    · rintro ((⟨i, hi, h⟩ | rfl) | h)
      · exact ⟨i, Nat.lt_succ_of_lt hi, h⟩
      · exact ⟨n, Nat.lt_succ_self n, .inl rfl⟩
      · exact ⟨n, Nat.lt_succ_self n, .inr h⟩
    · rintro ⟨i, hi, h⟩
      by_cases q : i = n
      · subst q
        rcases h with h | h
        · exact .inl (.inr h)
        · exact .inr h
      · exact .inl (.inl ⟨i, Nat.lt_of_le_of_ne (Nat.le_of_lt_succ hi) q, h⟩)
section
variable {rows : List (List Int)} (h : RowsOk rows)
include h
theorem RowsOk.ks {k : Int} : k ∈ (bldN rows 5).ks ↔ 0 ≤ k ∧ k < 5 := by
  rw [(bld_ks rows 5).2]
  constructor
  · rintro ⟨i, hi, rfl | hk⟩
    · exact ⟨Int.natCast_nonneg _, Int.ofNat_lt.mpr hi⟩
    · refine h.rg _ ?_ k hk
      rw [List.getD_eq_getElem?_getD, List.getElem?_eq_getElem (h.len.symm ▸ hi)]
      exact List.getElem_mem _
  · rintro ⟨h0, h5⟩
    exact ⟨k.toNat, ar_tn h0 h5 rfl, .inl (Int.toNat_of_nonneg h0).symm⟩
theorem RowsOk.ksP : (bldN rows 5).ks.Perm R5 := by
  refine (List.perm_ext_iff_of_nodup (bld_ks rows 5).1 (by decide)).mpr fun k => ?_
  rw [h.ks, mem5']
theorem RowsOk.np {p : Int} (hp : 0 ≤ p ∧ p < 5) : (bldN rows 5).np p = (rw5 rows p).length := by rw [bld_np]; exact if_pos hp
theorem RowsOk.suc {p q : Int} : ((bldN rows 5).su q).count p = if 0 ≤ p ∧ p < 5 then (rw5 rows p).count q else 0 := by
  rw [bld_su]
  have e : ∀ a : Int, (List.range 5).flatMap (fun i : Nat => List.replicate ((rows.getD i []).count q) (i : Int)) = List.replicate ((rows.getD 0 []).count q) 0 ++ (List.replicate ((rows.getD 1 []).count q) 1 ++ (List.replicate ((rows.getD 2 []).count q) 2 ++ (List.replicate ((rows.getD 3 []).count q) 3 ++ List.replicate ((rows.getD 4 []).count q) 4))) := by
    intro a
    rw [show List.range 5 = [0, 1, 2, 3, 4] from rfl]
    simp
  rw [e 0]
  simp only [List.count_append, List.count_replicate]
  by_cases hp : 0 ≤ p ∧ p < 5
  · rw [if_pos hp]
    unfold rw5
    rcases five hp.1 hp.2 with rfl | rfl | rfl | rfl | rfl <;> simp
  · rw [if_neg hp]
    rw [if_neg (nbeq hp (by decide)), if_neg (nbeq hp (by decide)), if_neg (nbeq hp (by decide)), if_neg (nbeq hp (by decide)), if_neg (nbeq hp (by decide))]
theorem RowsOk.sum {p q : Int} : p ∈ (bldN rows 5).su q ↔ (0 ≤ p ∧ p < 5) ∧ q ∈ rw5 rows p := by
  rw [← List.count_pos_iff, h.suc]
  by_cases hp : 0 ≤ p ∧ p < 5
  · rw [if_pos hp, List.count_pos_iff]; simp [hp]
  · rw [if_neg hp]; simp [hp]
end
end
section -- P2
noncomputable abbrev succ5 (rows : List (List Int)) : Int → List Int := (bldN rows 5).su
theorem leads0_mem {rows : List (List Int)} {a b : Int} : (a, b) ∈ leads0 rows ↔ (0 ≤ a ∧ a < 5) ∧ (0 ≤ b ∧ b < 5) ∧ a ∈ rw5 rows b := by
  unfold leads0
  constructor
  · intro h
    obtain ⟨p, hp, h⟩ := List.mem_flatMap.mp h
    obtain ⟨q, hq, e⟩ := List.mem_map.mp h
    obtain ⟨hq, hm⟩ := List.mem_filter.mp hq
    rw [List.mem_range] at hp hq
    cases e
    refine ⟨⟨Int.natCast_nonneg _, Int.ofNat_lt.mpr hq⟩, ⟨Int.natCast_nonneg _, Int.ofNat_lt.mpr hp⟩, ?_⟩
    unfold rw5
    simpa using hm
  · rintro ⟨⟨a0, a5⟩, ⟨b0, b5⟩, h⟩
    refine List.mem_flatMap.mpr ⟨b.toNat, List.mem_range.mpr (ar_tn b0 b5 rfl), List.mem_map.mpr ⟨a.toNat, List.mem_filter.mpr ⟨List.mem_range.mpr (ar_tn a0 a5 rfl), ?_⟩, ?_⟩⟩
    · rw [decide_eq_true_eq, Int.toNat_of_nonneg a0]; exact h
    · rw [Int.toNat_of_nonneg a0, Int.toNat_of_nonneg b0]
theorem step_mem {L : List (Int × Int)} {m a b : Int} : (a, b) ∈ leadsStep L m ↔ (a, b) ∈ L ∨ ((a, m) ∈ L ∧ (m, b) ∈ L) := by
  unfold leadsStep
  rw [List.mem_append]
  constructor
  · rintro (h | h)
    · exact .inl h
    · obtain ⟨x, hx, h⟩ := List.mem_flatMap.mp h
      obtain ⟨y, hy, e⟩ := List.mem_map.mp h
      cases e
      exact .inr ⟨mem_leadsIn.mp hx, mem_leadsOut.mp (List.mem_filter.mp hy).1⟩
  · rintro (h | ⟨h1, h2⟩)
    · exact .inl h
    · by_cases q : (a, b) ∈ L
      · exact .inl q
      · exact .inr (List.mem_flatMap.mpr ⟨a, mem_leadsIn.mpr h1, List.mem_map.mpr ⟨b, List.mem_filter.mpr ⟨mem_leadsOut.mpr h2, by rw [decide_eq_false q]; rfl⟩, rfl⟩⟩)
theorem leads_closed (rows : List (List Int)) : ∀ m : Nat, ∀ k a b : Int, 0 ≤ k → k < m → (a, k) ∈ leadsN rows m → (k, b) ∈ leadsN rows m → (a, b) ∈ leadsN rows m
  | 0, k, a, b, h0, h1, _, _ => absurd h1 (Int.not_lt.mpr h0)
  | m + 1, k, a, b, h0, h1, ha, hb => by
    have IH := leads_closed rows m
    have e : leadsN rows (m + 1) = leadsStep (leadsN rows m) m := rfl
    rw [e] at ha hb ⊢
    rw [step_mem] at ha hb ⊢
    by_cases hk : k = m
    · subst hk
      right
      refine ⟨?_, ?_⟩
      · rcases ha with h | h
        · exact h
        · exact h.1
      · rcases hb with h | h
        · exact h
        · exact h.2
    · have hk' : k < m := Int.lt_iff_le_and_ne.mpr ⟨Int.lt_add_one_iff.mp h1, hk⟩
      rcases ha with ha | ⟨a1, a2⟩ <;> rcases hb with hb | ⟨b1, b2⟩
      · exact .inl (IH k a b h0 hk' ha hb)
      · exact .inr ⟨IH k a m h0 hk' ha b1, b2⟩
      · exact .inr ⟨a1, IH k m b h0 hk' a2 hb⟩
      · exact .inr ⟨a1, b2⟩
theorem leads_sub (rows : List (List Int)) {a b : Int} (h : (a, b) ∈ leads0 rows) : ∀ m, (a, b) ∈ leadsN rows m
  | 0 => h
  | m + 1 => step_mem.mpr (.inl (leads_sub rows h m))
theorem Rc.trans {su : Int → List Int} {a b c : Int} (h1 : Rc su a b) (h2 : Rc su b c) : Rc su a c := by
  induction h2 with
  | one h => exact .step h1 h
  | step _ h ih => exact .step ih h
theorem Rc.first {su : Int → List Int} {a c : Int} (h : Rc su a c) : ∃ b, b ∈ su a ∧ (b = c ∨ Rc su b c) := by
  induction h with
  | one h => exact ⟨_, h, .inl rfl⟩
  | step _ h ih =>
    obtain ⟨b, h1, h2⟩ := ih
    refine ⟨b, h1, .inr ?_⟩
    rcases h2 with rfl | h2
    · exact .one h
    · exact .step h2 h
theorem Rc.last {su : Int → List Int} {a c : Int} (h : Rc su a c) : ∃ b, c ∈ su b ∧ (b = a ∨ Rc su a b) := by
  cases h with
  | one h => exact ⟨a, h, .inl rfl⟩
  | step h1 h => exact ⟨_, h, .inr h1⟩
section
variable {rows : List (List Int)} (h : RowsOk rows)
include h
theorem leads_sound : ∀ m : Nat, ∀ a b : Int, (a, b) ∈ leadsN rows m → Rc (succ5 rows) a b
  | 0, a, b, q => by
    obtain ⟨_, h2, h3⟩ := leads0_mem.mp q
    exact .one (h.sum.mpr ⟨h2, h3⟩)
  | m + 1, a, b, q => by
    rcases step_mem.mp (show (a, b) ∈ leadsStep (leadsN rows m) m from q) with q | ⟨q1, q2⟩
    · exact leads_sound m a b q
    · exact (leads_sound m _ _ q1).trans (leads_sound m _ _ q2)
theorem RowsOk.edge {a b : Int} (q : b ∈ succ5 rows a) : (a, b) ∈ leads0 rows := by
  obtain ⟨h1, h2⟩ := h.sum.mp q
  exact leads0_mem.mpr ⟨h.rg5 h2, h1, h2⟩
theorem RowsOk.leads {a b : Int} : (a, b) ∈ leadsN rows 5 ↔ Rc (succ5 rows) a b := by
  constructor
  · exact leads_sound h 5 a b
  · intro q
    induction q with
    | one q => exact leads_sub rows (h.edge q) 5
    | step q1 q2 ih =>
      have e := h.edge q2
      obtain ⟨⟨e0, e5⟩, _⟩ := leads0_mem.mp e
      exact leads_closed rows 5 _ _ _ e0 (by omega) ih (leads_sub rows e 5)
theorem RowsOk.rcRg {a b : Int} (q : Rc (succ5 rows) a b) : (0 ≤ a ∧ a < 5) ∧ 0 ≤ b ∧ b < 5 := by
  obtain ⟨x, h1, _⟩ := q.first
  obtain ⟨y, h2, _⟩ := q.last
  exact ⟨(leads0_mem.mp (h.edge h1)).1, (leads0_mem.mp (h.edge h2)).2.1⟩
theorem RowsOk.rings {v : Int} : v ∈ ringsL (leadsN rows 5) ↔ Rc (succ5 rows) v v := by
  rw [← h.leads]
  unfold ringsL
  constructor
  · intro q
    obtain ⟨e, q1, rfl⟩ := List.mem_map.mp q
    obtain ⟨q1, q2⟩ := List.mem_filter.mp q1
    rw [decide_eq_true_eq] at q2
    have e' : (e.1, e.1) = e := Prod.ext rfl q2
    show (e.1, e.1) ∈ _
    rw [e']; exact q1
  · intro q
    exact List.mem_map.mpr ⟨(v, v), List.mem_filter.mpr ⟨q, by simp⟩, rfl⟩
theorem RowsOk.never {p : Int} : p ∈ neverL (leadsN rows 5) ↔ (0 ≤ p ∧ p < 5) ∧ ∃ q, Rc (succ5 rows) q q ∧ (q = p ∨ Rc (succ5 rows) q p) := by
  unfold neverL
  rw [List.mem_filter, mem5', Bool.or_eq_true, decide_eq_true_eq, h.rings, Bool.not_eq_true', decide_eq_false_iff_not]
  refine and_congr_right fun _ => ?_
  constructor
  · rintro (q | q)
    · exact ⟨p, q, .inl rfl⟩
    · obtain ⟨x, hx⟩ := List.exists_mem_of_ne_nil _ q
      obtain ⟨h1, h2⟩ := List.mem_filter.mp hx
      rw [decide_eq_true_eq, h.leads] at h2
      exact ⟨x, h.rings.mp h1, .inr h2⟩
  · rintro ⟨q, h1, rfl | h2⟩
    · exact .inl h1
    · refine .inr (List.ne_nil_of_mem (a := q) (List.mem_filter.mpr ⟨h.rings.mpr h1, ?_⟩))
      rw [decide_eq_true_eq, h.leads]; exact h2
end
theorem cl_ac {su : Int → List Int} : ∀ {fin : List Int}, Cl su fin → ∀ v ∈ fin, (∀ w, Rc su v w → w ∈ fin) ∧ ¬ Rc su v v
  | [], _, v, hv => nomatch hv
  | f :: l, ⟨h1, h2⟩, v, hv => by
    have IH := cl_ac h2
    by_cases hl : v ∈ l
    · exact ⟨fun w hw => List.mem_cons_of_mem _ ((IH v hl).1 w hw), (IH v hl).2⟩
    · have hvf : v = f := by
        rcases List.mem_cons.mp hv with e | e
        · exact e
        · exact absurd e hl
      subst hvf
      have key : ∀ w, Rc su v w → w ∈ l := by
        intro w hw
        obtain ⟨x, hx, e⟩ := hw.first
        rcases e with rfl | e
        · exact h1 _ hx
        · exact (IH x (h1 x hx)).1 w e
      exact ⟨fun w hw => List.mem_cons_of_mem _ (key w hw), fun q => hl (key v q)⟩
theorem RowsOk.ring {rows : List (List Int)} (h : RowsOk rows) (b : Bool) (h1 : b = false → ∃ fin, Cl (succ5 rows) fin ∧ ∀ k ∈ (bldN rows 5).ks, k ∈ fin) (h2 : b = true → ∃ v ∈ (bldN rows 5).ks, Rc (succ5 rows) v v) :
    b = !decide (ringsL (leadsN rows 5) = []) := by
  cases b with
  | false =>
    obtain ⟨fin, c1, c2⟩ := h1 rfl
    have : ringsL (leadsN rows 5) = [] := by
      rw [List.eq_nil_iff_forall_not_mem]
      intro v hv
      have r := h.rings.mp hv
      exact (cl_ac c1 v (c2 v (h.ks.mpr (h.rcRg r).1))).2 r
    rw [decide_eq_true this]; rfl
  | true =>
    obtain ⟨v, _, r⟩ := h2 rfl
    rw [decide_eq_false (List.ne_nil_of_mem (h.rings.mpr r))]; rfl
end
section -- P3
theorem decS_fold : ∀ (l : List Int) (f : Int → Int) (acc : List Int), ∃ z, (l.foldl decS (f, acc)).2 = acc ++ z ∧ z.Nodup ∧ (∀ k, k ∈ z ↔ 0 < f k ∧ f k ≤ l.count k) ∧ ∀ k, (l.foldl decS (f, acc)).1 k = f k - l.count k
  | [], f, acc => ⟨[], by simp, List.nodup_nil, fun k => by simp <;> omega, fun k => by simp⟩
  | a :: l, f, acc => by
    obtain ⟨z, h1, h2, h3, h4⟩ := decS_fold l (upd f a (f a - 1)) (if f a - 1 = 0 then acc ++ [a] else acc)
    have e : (a :: l).foldl decS (f, acc) = l.foldl decS (upd f a (f a - 1), if f a - 1 = 0 then acc ++ [a] else acc) := rfl
    have ua : upd f a (f a - 1) a = f a - 1 := by unfold upd; rw [if_pos rfl]
    have un : ∀ k, k ≠ a → upd f a (f a - 1) k = f k := fun k hk => by unfold upd; rw [if_neg hk]
    rw [e]
    refine ⟨(if f a - 1 = 0 then [a] else []) ++ z, ?_, ?_, ?_, ?_⟩
    · rw [h1]; split <;> simp
    · rw [List.nodup_append]
      refine ⟨by split <;> simp, h2, ?_⟩
      intro x hx y hy
      split at hx
      · rw [List.mem_singleton] at hx
        subst hx
        rintro rfl
        have := (h3 x).mp hy
        rw [ua] at this; omega
      · cases hx
    · intro k
      rw [List.mem_append, h3]
      by_cases hk : k = a
      · subst hk
        rw [ua, List.count_cons_self]
        split
        · rename_i q; simp; omega
        · rename_i q; simp; omega
      · rw [un k hk, List.count_cons_of_ne (Ne.symm hk)]
        split
        · simp [hk]
        · simp
    · intro k
      rw [h4]
      by_cases hk : k = a
      · subst hk; rw [ua, List.count_cons_self]; omega
      · rw [un k hk, List.count_cons_of_ne (Ne.symm hk)]
theorem doneF (su : Int → List Int) : ∀ (rdy : List Int) (f : Int → Int) (acc : List Int), (∀ r ∈ rdy, ∀ r' ∈ rdy, r' ∉ su r) →
    ∃ z, (rdy.foldl (doneN su) (f, acc)).2 = acc ++ z ∧ z.Nodup ∧ (∀ k, k ∈ z ↔ k ∉ rdy ∧ 0 < f k ∧ f k ≤ (rdy.flatMap su).count k) ∧ ∀ k, (rdy.foldl (doneN su) (f, acc)).1 k = if k ∈ rdy then -2 else f k - (rdy.flatMap su).count k
  | [], f, acc, _ => ⟨[], by simp, List.nodup_nil, fun k => by simp <;> omega, fun k => by simp⟩
  | r :: rs, f, acc, hd => by
    obtain ⟨z1, a1, a2, a3, a4⟩ := decS_fold (su r) (upd f r (-2)) acc
    have ur : upd f r (-2) r = -2 := by unfold upd; rw [if_pos rfl]
    have un : ∀ k, k ≠ r → upd f r (-2) k = f k := fun k hk => by unfold upd; rw [if_neg hk]
    have e : (r :: rs).foldl (doneN su) (f, acc) = rs.foldl (doneN su) (((su r).foldl decS (upd f r (-2), acc)).1, acc ++ z1) := by
      rw [← a1]; rfl
    rw [e]
    generalize hg : ((su r).foldl decS (upd f r (-2), acc)).1 = g at a4
    obtain ⟨z2, b1, b2, b3, b4⟩ := doneF su rs g (acc ++ z1) (fun x hx y hy => hd x (List.mem_cons_of_mem _ hx) y (List.mem_cons_of_mem _ hy))
    have hc : ∀ k, ((r :: rs).flatMap su).count k = (su r).count k + (rs.flatMap su).count k := fun k => by rw [List.flatMap_cons, List.count_append]
    have nor : ∀ k ∈ r :: rs, (su r).count k = 0 := fun k hk => List.count_eq_zero.mpr (hd r List.mem_cons_self k hk)
    refine ⟨z1 ++ z2, by rw [b1, List.append_assoc], ?_, ?_, ?_⟩
    · rw [List.nodup_append]
      refine ⟨a2, b2, fun x hx y hy => ?_⟩
      rintro rfl
      have h1 := (a3 x).mp hx
      have h2 := (b3 x).mp hy
      rw [a4] at h2; omega
    · intro k
      rw [List.mem_append, a3, b3, hc, a4, List.mem_cons, not_or]
      by_cases hk : k = r
      · subst hk; rw [ur]; constructor
        · rintro (h | h) <;> omega
        · rintro ⟨⟨h, _⟩, _⟩; exact absurd rfl h
      · rw [un k hk]
        by_cases hs : k ∈ rs
        · have := nor k (List.mem_cons_of_mem _ hs)
          constructor
          · rintro (h | h)
            · omega
            · exact absurd hs h.1
          · rintro ⟨⟨_, h⟩, _⟩; exact absurd hs h
        · constructor
          · rintro (h | h)
            · exact ⟨⟨hk, hs⟩, by omega, by omega⟩
            · exact ⟨⟨hk, hs⟩, by omega, by omega⟩
          · rintro ⟨_, h1, h2⟩
            by_cases q : f k ≤ ((su r).count k : Int)
            · exact .inl ⟨h1, q⟩
            · exact .inr ⟨hs, by omega, by omega⟩
    · intro k
      rw [b4, hc, a4]
      by_cases hs : k ∈ rs
      · rw [if_pos hs, if_pos (List.mem_cons_of_mem _ hs)]
      · rw [if_neg hs]
        by_cases hk : k = r
        · subst hk
          rw [if_pos List.mem_cons_self, ur, nor k List.mem_cons_self]
          have : (rs.flatMap su).count k = 0 := List.count_eq_zero.mpr fun q => by
            obtain ⟨x, hx, hq⟩ := List.mem_flatMap.mp q
            exact hd x (List.mem_cons_of_mem _ hx) k List.mem_cons_self hq
          rw [this]; rfl
        · rw [if_neg (by rw [List.mem_cons, not_or]; exact ⟨hk, hs⟩), un k hk]; omega
noncomputable def undone (rows : List (List Int)) (dn : List Int) (p : Int) : Nat := (rw5 rows p).countP fun q => !decide (q ∈ dn)
structure Core (rows : List (List Int)) (np : Int → Int) (ps dn : List Int) : Prop where
  nd : (dn ++ ps).Nodup
  rg : ∀ p, p ∈ dn ∨ p ∈ ps → 0 ≤ p ∧ p < 5
  m1 : ∀ p ∈ ps, np p = -1
  m2 : ∀ p ∈ dn, np p = -2
  ct : ∀ p, 0 ≤ p → p < 5 → p ∉ dn → p ∉ ps → np p = undone rows dn p ∧ 0 < undone rows dn p
  pr : ∀ p, p ∈ dn ∨ p ∈ ps → ∀ q ∈ rw5 rows p, q ∈ dn
  od : OrdP rows dn
theorem undone_zero {rows : List (List Int)} {dn : List Int} {p : Int} : undone rows dn p = 0 ↔ ∀ q ∈ rw5 rows p, q ∈ dn := by
  unfold undone
  rw [List.countP_eq_zero]
  simp
theorem undone_app {rows : List (List Int)} {dn rdy : List Int} (hd : ∀ r ∈ rdy, r ∉ dn) (p : Int) : undone rows dn p = undone rows (dn ++ rdy) p + (rw5 rows p).countP fun q => decide (q ∈ rdy) := by
  unfold undone
  generalize rw5 rows p = l
  induction l with
  | nil => rfl
  | cons a l ih =>
    rw [List.countP_cons, List.countP_cons, List.countP_cons, ih]
    by_cases h1 : a ∈ dn
    · have : a ∉ rdy := fun h => hd a h h1
      simp [h1, this]
    · by_cases h2 : a ∈ rdy
      · simp [h1, h2]; omega
      · simp [h1, h2]; omega
theorem tot_eq {rows : List (List Int)} (h : RowsOk rows) {k : Int} (hk : 0 ≤ k ∧ k < 5) : ∀ {rdy : List Int}, rdy.Nodup → (rdy.flatMap (bldN rows 5).su).count k = (rw5 rows k).countP fun q => decide (q ∈ rdy)
  | [], _ => by simp
  | r :: rs, hn => by
    rw [List.nodup_cons] at hn
    rw [List.flatMap_cons, List.count_append, tot_eq h hk hn.2, h.suc, if_pos hk]
    generalize rw5 rows k = l
    induction l with
    | nil => rfl
    | cons a l ih =>
      rw [List.count_cons, List.countP_cons, List.countP_cons, ← ih]
      by_cases h1 : a = r
      · subst h1; simp [hn.1]; omega
      · by_cases h2 : a ∈ rs
        · simp [h1, h2]; omega
        · simp [h1, h2]
end
section -- P4
theorem OrdP.app {rows : List (List Int)} {dn rdy : List Int} (h : OrdP rows dn) (hr : ∀ p ∈ rdy, ∀ q ∈ rw5 rows p, q ∈ dn) : OrdP rows (dn ++ rdy) := by
  intro i p hi q hq
  by_cases hl : i < dn.length
  · rw [List.getElem?_append_left hl] at hi
    rw [List.take_append_of_le_length (Nat.le_of_lt hl)]
    exact h i p hi q hq
  · rw [List.getElem?_append_right (Nat.le_of_not_lt hl)] at hi
    have := hr p (List.mem_of_getElem? hi) q hq
    rw [List.take_append]
    exact List.mem_append_left _ (by rw [List.take_of_length_le (Nat.le_of_not_lt hl)]; exact this)
section
variable {rows : List (List Int)} (h : RowsOk rows)
include h
theorem Core.noEdge {np : Int → Int} {ps dn : List Int} (c : Core rows np ps dn) {r p : Int} (hr : r ∉ dn) (hp : p ∈ dn ∨ p ∈ ps) : p ∉ (bldN rows 5).su r := fun q => hr (c.pr p hp r (h.sum.mp q).2)
theorem Core.flat0 {np : Int → Int} {ps dn : List Int} (c : Core rows np ps dn) {rdy : List Int} (hr : ∀ r ∈ rdy, r ∉ dn) {p : Int} (hp : p ∈ dn ∨ p ∈ ps) : (rdy.flatMap (bldN rows 5).su).count p = 0 := by
  refine List.count_eq_zero.mpr fun q => ?_
  obtain ⟨x, hx, hq⟩ := List.mem_flatMap.mp q
  exact c.noEdge h (hr x hx) hp hq
theorem Core.step {np : Int → Int} {ps dn rdy rest : List Int} (c : Core rows np ps dn) (hp : (rdy ++ rest).Perm ps) :
    Core rows (setN (-1) (rdy.foldl (doneN (bldN rows 5).su) (np, [])).1 (rdy.foldl (doneN (bldN rows 5).su) (np, [])).2) (rest ++ (rdy.foldl (doneN (bldN rows 5).su) (np, [])).2) (dn ++ rdy) := by
  have nd := c.nd
  have inps : ∀ p, p ∈ rdy ∨ p ∈ rest → p ∈ ps := fun p q => hp.mem_iff.mp (List.mem_append.mpr q)
  rw [List.nodup_append] at nd
  obtain ⟨nd1, nd2, nd3⟩ := nd
  have nd4 : (rdy ++ rest).Nodup := hp.nodup_iff.mpr nd2
  rw [List.nodup_append] at nd4
  obtain ⟨nr, ns, nrs⟩ := nd4
  have rdn : ∀ r ∈ rdy, r ∉ dn := fun r hr q => nd3 r q r (inps r (.inl hr)) rfl
  obtain ⟨z, a1, a2, a3, a4⟩ := doneF (bldN rows 5).su rdy np [] fun r hr r' hr' => c.noEdge h (rdn r hr) (.inr (inps r' (.inl hr')))
  rw [List.nil_append] at a1
  rw [a1]
  generalize (rdy.foldl (doneN (bldN rows 5).su) (np, [])).1 = g at a4
  have hz : ∀ k ∈ z, (0 ≤ k ∧ k < 5) ∧ k ∉ dn ∧ k ∉ ps ∧ undone rows (dn ++ rdy) k = 0 := by
    intro k hk
    obtain ⟨k1, k2, k3⟩ := (a3 k).mp hk
    have hnp : k ∉ ps := fun q => by rw [c.m1 k q] at k2; exact absurd k2 (by decide)
    have hnd : k ∉ dn := fun q => by rw [c.m2 k q] at k2; exact absurd k2 (by decide)
    have hkr : 0 ≤ k ∧ k < 5 := by
      have : k ∈ rdy.flatMap (bldN rows 5).su := List.count_pos_iff.mp (Int.ofNat_lt.mp (Int.lt_of_lt_of_le k2 k3))
      obtain ⟨x, _, hq⟩ := List.mem_flatMap.mp this
      exact (h.sum.mp hq).1
    refine ⟨hkr, hnd, hnp, ?_⟩
    rw [tot_eq h hkr nr, (c.ct k hkr.1 hkr.2 hnd hnp).1, undone_app rdn] at k3
    omega
  refine ⟨?_, ?_, ?_, ?_, ?_, ?_, c.od.app fun p hp => c.pr p (.inr (inps p (.inl hp)))⟩
  · rw [List.nodup_append, List.nodup_append, List.nodup_append]
    refine ⟨⟨nd1, nr, fun x hx y hy e => rdn y hy (e ▸ hx)⟩, ⟨ns, a2, fun x hx y hy e => (hz y hy).2.2.1 (e ▸ inps x (.inr hx))⟩, ?_⟩
    intro x hx y hy e
    subst e
    rcases List.mem_append.mp hx with hx | hx <;> rcases List.mem_append.mp hy with hy | hy
    · exact nd3 x hx x (inps x (.inr hy)) rfl
    · exact (hz x hy).2.1 hx
    · exact nrs x hx x hy rfl
    · exact (hz x hy).2.2.1 (inps x (.inl hx))
  · intro p q
    rcases q with q | q <;> rcases List.mem_append.mp q with q | q
    · exact c.rg p (.inl q)
    · exact c.rg p (.inr (inps p (.inl q)))
    · exact c.rg p (.inr (inps p (.inr q)))
    · exact (hz p q).1
  · intro p q
    rw [setN_at]
    split
    · rfl
    · rename_i hz'
      rcases List.mem_append.mp q with q | q
      · rw [a4, if_neg (fun e => nrs p e p q rfl), c.m1 p (inps p (.inr q)), c.flat0 h rdn (.inr (inps p (.inr q)))]; rfl
      · exact absurd q hz'
  · intro p q
    rw [setN_at]
    rcases List.mem_append.mp q with q | q
    · rw [if_neg (fun e => (hz p e).2.1 q), a4, if_neg (fun e => rdn p e q), c.m2 p q, c.flat0 h rdn (.inl q)]; rfl
    · rw [if_neg (fun e => (hz p e).2.2.1 (inps p (.inl q))), a4, if_pos q]
  · intro p p0 p5 q1 q2
    rw [List.mem_append, not_or] at q1 q2
    have hps : p ∉ ps := fun e => by
      rcases List.mem_append.mp (hp.mem_iff.mpr e) with e | e
      · exact q1.2 e
      · exact q2.1 e
    obtain ⟨c1, c2⟩ := c.ct p p0 p5 q1.1 hps
    rw [setN_at, if_neg q2.2, a4, if_neg q1.2, tot_eq h ⟨p0, p5⟩ nr]
    have e := undone_app (rows := rows) rdn p
    refine ⟨by rw [c1, e]; omega, ?_⟩
    have := mt (a3 p).mpr q2.2
    rw [tot_eq h ⟨p0, p5⟩ nr, c1] at this
    by_cases hu : undone rows (dn ++ rdy) p = 0
    · exact absurd ⟨q1.2, by omega, by omega⟩ this
    · omega
  · intro p q
    rcases q with q | q <;> rcases List.mem_append.mp q with q | q
    · exact fun x hx => List.mem_append_left _ (c.pr p (.inl q) x hx)
    · exact fun x hx => List.mem_append_left _ (c.pr p (.inr (inps p (.inl q))) x hx)
    · exact fun x hx => List.mem_append_left _ (c.pr p (.inr (inps p (.inr q))) x hx)
    · exact undone_zero.mp (hz p q).2.2.2
end
theorem Core.perm {rows : List (List Int)} {np : Int → Int} {ps ps' dn : List Int} (c : Core rows np ps dn) (hp : ps.Perm ps') : Core rows np ps' dn :=
  ⟨(List.Perm.append_left dn hp).nodup_iff.mp c.nd, fun p q => c.rg p (q.imp id hp.mem_iff.mpr), fun p q => c.m1 p (hp.mem_iff.mpr q), c.m2, fun p a b d e => c.ct p a b d (fun q => e (hp.mem_iff.mp q)), fun p q => c.pr p (q.imp id hp.mem_iff.mpr), c.od⟩
theorem RowsOk.start {rows : List (List Int)} (h : RowsOk rows) : Core rows (setN (-1) (bldN rows 5).np ((bldN rows 5).ks.filter fun k => (bldN rows 5).np k == 0)) ((bldN rows 5).ks.filter fun k => (bldN rows 5).np k == 0) [] := by
  have un : ∀ p, undone rows [] p = (rw5 rows p).length := fun p => by unfold undone; simp
  have key : ∀ p, p ∈ (bldN rows 5).ks.filter (fun k => (bldN rows 5).np k == 0) ↔ (0 ≤ p ∧ p < 5) ∧ (rw5 rows p).length = 0 := by
    intro p
    rw [List.mem_filter, h.ks]
    refine and_congr_right fun hp => ?_
    rw [h.np hp]; simp
  refine ⟨by rw [List.nil_append]; exact (bld_ks rows 5).1.filter _, ?_, ?_, fun p q => absurd q List.not_mem_nil, ?_, ?_, fun i p hi => by simp at hi⟩
  · rintro p (q | q)
    · cases q
    · exact ((key p).mp q).1
  · intro p q; rw [setN_at, if_pos q]
  · intro p p0 p5 _ q
    rw [setN_at, if_neg q, h.np ⟨p0, p5⟩, un]
    refine ⟨rfl, ?_⟩
    have := mt (key p).mpr q
    by_cases e : (rw5 rows p).length = 0
    · exact absurd ⟨⟨p0, p5⟩, e⟩ this
    · omega
  · rintro p (q | q) x hx
    · cases q
    · have := ((key p).mp q).2
      rw [List.length_eq_zero_iff.mp this] at hx; cases hx
end
section -- P5
section
variable {rows : List (List Int)} (h : RowsOk rows)
include h
theorem RowsOk.anc {dn : List Int} (od : OrdP rows dn) : ∀ n i p, i < n → dn[i]? = some p → ∀ a, Rc (succ5 rows) a p → a ∈ dn.take i
  | 0, i, p, hi, _, _, _ => absurd hi (Nat.not_lt_zero _)
  | n + 1, i, p, hi, e, a, r => by
    obtain ⟨b, h1, h2⟩ := r.last
    have hb := od i p e b (h.sum.mp h1).2
    rcases h2 with rfl | h2
    · exact hb
    · obtain ⟨j, hj, ej⟩ := List.mem_take_iff_getElem.mp hb
      have hj' : j < i := Nat.lt_of_lt_of_le hj (Nat.min_le_left _ _)
      have hjl : j < dn.length := Nat.lt_of_lt_of_le hj (Nat.min_le_right _ _)
      have := RowsOk.anc od n j b (Nat.lt_of_lt_of_le hj' (Nat.le_of_lt_succ hi)) (by rw [List.getElem?_eq_getElem hjl, ej]) a h2
      exact (List.take_subset_take_left dn (Nat.le_of_lt hj')) this
theorem RowsOk.ancIn {dn : List Int} (od : OrdP rows dn) {p a : Int} (hp : p ∈ dn) (r : Rc (succ5 rows) a p) : a ∈ dn := by
  obtain ⟨i, hi, e⟩ := List.mem_iff_getElem.mp hp
  exact List.mem_of_mem_take (h.anc od (i + 1) i p (Nat.lt_succ_self i) (by rw [List.getElem?_eq_getElem hi, e]) a r)
theorem RowsOk.noRing {dn : List Int} (od : OrdP rows dn) (nd : dn.Nodup) {p : Int} (hp : p ∈ dn) : ¬ Rc (succ5 rows) p p := fun r => by
  obtain ⟨i, hi, e⟩ := List.mem_iff_getElem.mp hp
  have := h.anc od (i + 1) i p (Nat.lt_succ_self i) (by rw [List.getElem?_eq_getElem hi, e]) p r
  have nd' := nd
  rw [← List.take_append_drop i dn, List.nodup_append] at nd'
  refine nd'.2.2 p this p ?_ rfl
  rw [List.drop_eq_getElem_cons hi, e]
  exact List.mem_cons_self
theorem RowsOk.notNever {dn : List Int} (od : OrdP rows dn) (nd : dn.Nodup) {p : Int} (hr : ∀ q ∈ rw5 rows p, q ∈ dn) (hp : p ∈ dn ∨ p ∉ dn) : p ∉ neverL (leadsN rows 5) := by
  intro q
  obtain ⟨_, x, r, e⟩ := h.never.mp q
  have key : ∀ y, Rc (succ5 rows) y p → y ∈ dn := by
    intro y ry
    obtain ⟨b, h1, h2⟩ := ry.last
    have hb := hr b (h.sum.mp h1).2
    rcases h2 with rfl | h2
    · exact hb
    · exact h.ancIn od hb h2
  rcases e with rfl | e
  · exact h.noRing od nd (key x r) r
  · exact h.noRing od nd (key x e) r
end
theorem min_of {R : Int → Int → Prop} (tr : ∀ a b c, R a b → R b c → R a c) : ∀ (l : List Int), l ≠ [] → (∀ x ∈ l, ¬ R x x) → ∃ m ∈ l, ∀ x ∈ l, ¬ R x m
  | [], hn, _ => absurd rfl hn
  | [a], _, hi => ⟨a, List.mem_cons_self, fun x hx => by rw [List.mem_singleton] at hx; subst hx; exact hi _ List.mem_cons_self⟩
  | a :: b :: l, _, hi => by
    obtain ⟨m, hm, hk⟩ := min_of tr (b :: l) (by simp) fun x hx => hi x (List.mem_cons_of_mem _ hx)
    by_cases q : R a m
    · refine ⟨a, List.mem_cons_self, fun x hx r => ?_⟩
      rcases List.mem_cons.mp hx with rfl | hx
      · exact hi _ List.mem_cons_self r
      · exact hk x hx (tr _ _ _ r q)
    · refine ⟨m, List.mem_cons_of_mem _ hm, fun x hx r => ?_⟩
      rcases List.mem_cons.mp hx with rfl | hx
      · exact q r
      · exact hk x hx r
section
variable {rows : List (List Int)} (h : RowsOk rows)
include h
open Classical in
theorem RowsOk.least {dn : List Int} {p : Int} (hp : 0 ≤ p ∧ p < 5) (hn : p ∉ neverL (leadsN rows 5)) (hd : p ∉ dn) : ∃ m, (0 ≤ m ∧ m < 5) ∧ m ∉ dn ∧ (m = p ∨ Rc (succ5 rows) m p) ∧ ∀ q ∈ rw5 rows m, q ∈ dn := by
  have hmem : ∀ x, x ∈ R5.filter (fun q => decide (q ∉ dn ∧ (q = p ∨ Rc (succ5 rows) q p))) ↔ (0 ≤ x ∧ x < 5) ∧ x ∉ dn ∧ (x = p ∨ Rc (succ5 rows) x p) := fun x => by
    rw [List.mem_filter, mem5', decide_eq_true_eq]
  obtain ⟨m, hm, hk⟩ := min_of (R := Rc (succ5 rows)) (fun _ _ _ a b => a.trans b) (R5.filter (fun q => decide (q ∉ dn ∧ (q = p ∨ Rc (succ5 rows) q p)))) (List.ne_nil_of_mem ((hmem p).mpr ⟨hp, hd, .inl rfl⟩)) (by
    intro x hx r
    obtain ⟨_, _, e⟩ := (hmem x).mp hx
    exact hn (h.never.mpr ⟨hp, x, r, e⟩))
  obtain ⟨m1, m2, m3⟩ := (hmem m).mp hm
  refine ⟨m, m1, m2, m3, fun q hq => ?_⟩
  refine Classical.byContradiction fun qd => ?_
  have r : Rc (succ5 rows) q m := .one (h.sum.mpr ⟨m1, hq⟩)
  refine hk q ((hmem q).mpr ⟨(h.rcRg r).1, qd, ?_⟩) r
  rcases m3 with rfl | m3
  · exact .inr r
  · exact .inr (r.trans m3)
theorem RowsOk.ordL {p : Int} : p ∈ ordL (leadsN rows 5) ↔ (0 ≤ p ∧ p < 5) ∧ p ∉ neverL (leadsN rows 5) := by
  unfold Mine.ordL
  rw [List.mem_filter, mem5', Bool.not_eq_true', decide_eq_false_iff_not]
theorem RowsOk.runEnd {np : Int → Int} {o : List Int} (c : Core rows np [] o) : o.Perm (Mine.ordL (leadsN rows 5)) := by
  have nd : o.Nodup := by have := c.nd; rwa [List.append_nil] at this
  refine (List.perm_ext_iff_of_nodup nd ((show R5.Nodup by decide).filter _)).mpr fun p => ?_
  show p ∈ o ↔ p ∈ Mine.ordL (leadsN rows 5)
  rw [h.ordL]
  constructor
  · intro hp
    exact ⟨c.rg p (.inl hp), h.notNever c.od nd (c.pr p (.inl hp)) (.inl hp)⟩
  · rintro ⟨h1, h2⟩
    refine Classical.byContradiction fun hd => ?_
    obtain ⟨m, m1, m2, _, m4⟩ := h.least h1 h2 hd
    have := c.ct m m1.1 m1.2 m2 List.not_mem_nil
    rw [undone_zero.mpr m4] at this
    omega
end
end
section -- P6
section
variable {rows : List (List Int)} (h : RowsOk rows)
include h
theorem RowsOk.doneL {ch : List Int} {p : Int} : p ∈ Mine.doneL (leadsN rows 5) ch ↔ p ∈ Mine.ordL (leadsN rows 5) ∧ p ∈ ch ∧ ∀ q, Rc (succ5 rows) q p → q ∈ ch := by
  unfold Mine.doneL
  rw [List.mem_filter, decide_eq_true_eq, List.filter_eq_nil_iff]
  refine and_congr_right fun hp => ?_
  obtain ⟨hp5, _⟩ := h.ordL.mp hp
  constructor
  · intro k
    have key : ∀ q, (0 ≤ q ∧ q < 5) → (q = p ∨ Rc (succ5 rows) q p) → q ∈ ch := by
      intro q hq e
      have := k q (mem5'.mpr hq)
      refine Classical.byContradiction fun hc => this ?_
      rw [Bool.and_eq_true, Bool.or_eq_true, decide_eq_true_eq, decide_eq_true_eq, h.leads, Bool.not_eq_true', decide_eq_false_iff_not]
      exact ⟨e, hc⟩
    exact ⟨key p hp5 (.inl rfl), fun q r => key q (h.rcRg r).1 (.inr r)⟩
  · rintro ⟨k1, k2⟩ q hq e
    rw [Bool.and_eq_true, Bool.or_eq_true, decide_eq_true_eq, decide_eq_true_eq, h.leads, Bool.not_eq_true', decide_eq_false_iff_not] at e
    obtain ⟨e1 | e1, e2⟩ := e
    · subst e1; exact e2 k1
    · exact e2 (k2 q e1)
theorem RowsOk.waitL {dn : List Int} {p : Int} : p ∈ Mine.waitL rows (leadsN rows 5) dn ↔ p ∈ Mine.ordL (leadsN rows 5) ∧ p ∉ dn ∧ ∀ q ∈ rw5 rows p, q ∈ dn := by
  unfold Mine.waitL
  rw [List.mem_filter, Bool.and_eq_true, Bool.not_eq_true', decide_eq_false_iff_not, decide_eq_true_eq, List.filter_eq_nil_iff]
  refine and_congr_right fun _ => and_congr_right fun _ => ?_
  constructor
  · intro k q hq
    have := k q hq
    refine Classical.byContradiction fun hc => this ?_
    rw [Bool.not_eq_true', decide_eq_false_iff_not]; exact hc
  · intro k q hq e
    rw [Bool.not_eq_true', decide_eq_false_iff_not] at e
    exact e (k q hq)
theorem RowsOk.heldEnd {np : Int → Int} {dn wt ch : List Int} (c : Core rows np wt dn) (hd : ∀ p ∈ dn, p ∈ ch) (hw : ∀ p ∈ wt, p ∉ ch) :
    dn.Perm (Mine.doneL (leadsN rows 5) ch) ∧ wt.Perm (Mine.waitL rows (leadsN rows 5) (Mine.doneL (leadsN rows 5) ch)) := by
  have nd := c.nd
  rw [List.nodup_append] at nd
  obtain ⟨n1, n2, n3⟩ := nd
  have R5n : R5.Nodup := by decide
  have dm : ∀ p, p ∈ dn ↔ p ∈ Mine.doneL (leadsN rows 5) ch := by
    intro p
    rw [h.doneL]
    constructor
    · intro hp
      exact ⟨h.ordL.mpr ⟨c.rg p (.inl hp), h.notNever c.od n1 (c.pr p (.inl hp)) (.inl hp)⟩, hd p hp, fun q r => hd q (h.ancIn c.od hp r)⟩
    · rintro ⟨h1, h2, h3⟩
      obtain ⟨hp5, hnn⟩ := h.ordL.mp h1
      refine Classical.byContradiction fun hdn => ?_
      obtain ⟨m, m1, m2, m3, m4⟩ := h.least hp5 hnn hdn
      have mc : m ∈ ch := by
        rcases m3 with rfl | m3
        · exact h2
        · exact h3 m m3
      have := c.ct m m1.1 m1.2 m2 (fun q => hw m q mc)
      rw [undone_zero.mpr m4] at this
      omega
  refine ⟨(List.perm_ext_iff_of_nodup n1 ((R5n.filter _).filter _)).mpr dm, (List.perm_ext_iff_of_nodup n2 ((R5n.filter _).filter _)).mpr fun p => ?_⟩
  show p ∈ wt ↔ p ∈ Mine.waitL rows (leadsN rows 5) (Mine.doneL (leadsN rows 5) ch)
  rw [h.waitL]
  constructor
  · intro hp
    have hnd : p ∉ dn := fun q => n3 p q p hp rfl
    exact ⟨h.ordL.mpr ⟨c.rg p (.inr hp), h.notNever c.od n1 (c.pr p (.inr hp)) (.inr hnd)⟩, fun q => hnd ((dm p).mpr q), fun q hq => (dm q).mp (c.pr p (.inr hp) q hq)⟩
  · rintro ⟨h1, h2, h3⟩
    obtain ⟨hp5, _⟩ := h.ordL.mp h1
    refine Classical.byContradiction fun hw' => ?_
    have := c.ct p hp5.1 hp5.2 (fun q => h2 ((dm p).mp q)) hw'
    rw [undone_zero.mpr fun q hq => (dm q).mpr (h3 q hq)] at this
    omega
end
end
section -- P7
theorem R5_get {j : Nat} (hj : j < 5) : R5[j]? = some (j : Int) := by
  exact (by decide : ∀ j : Nat, j < 5 → R5[j]? = some (j : Int)) j hj
theorem map5_get {α : Type} (f : Int → α) (d : α) {j : Nat} (hj : j < 5) : (R5.map f).getD j d = f j := by
  rw [List.getD_eq_getElem?_getD, List.getElem?_map, R5_get hj]; rfl
noncomputable def bits (f : Int → Bool) : List Nat := R5.map fun p => if f p then 49 else 48
theorem bits_get (f : Int → Bool) {j : Nat} (hj : j < 5) : (bits f).getD j 0 = if f j then 49 else 48 := map5_get _ 0 hj
theorem bits_set (f : Int → Bool) {p : Int} (hp : 0 ≤ p ∧ p < 5) (b : Bool) : (bits f).take p.toNat ++ [if b then 49 else 48] ++ (bits f).drop (p.toNat + 1) = bits fun q => if q = p then b else f q := by
  unfold bits R5
  rcases five hp.1 hp.2 with rfl | rfl | rfl | rfl | rfl <;> simp
theorem txt_get (rows : List (List Int)) {p : Int} (hp : 0 ≤ p ∧ p < 5) : (txtL rows).getD p.toNat [] = (patL rows p).map sgS := by
  unfold txtL
  rw [map5_get (fun p => (patL rows p).map sgS) [] (ar_tn hp.1 hp.2 rfl), Int.toNat_of_nonneg hp.1]
theorem fits_iff (rows : List (List Int)) (f : Int → Bool) {p : Int} (hp : 0 ≤ p ∧ p < 5) : fitsP ((txtL rows).getD p.toNat []) (bits f) = true ↔
    ∀ q : Int, 0 ≤ q → q < 5 → (q ∈ rw5 rows p → f q = true) ∧ (q ∉ rw5 rows p → p ∈ rw5 rows q → f q = false) := by
  rw [txt_get rows hp]
  unfold fitsP
  rw [List.all_eq_true]
  have hget : ∀ j : Nat, j < 5 → ((patL rows p).map sgS).getD j 0 = sgS (if (j : Int) ∈ rw5 rows p then 49 else if p ∈ rw5 rows j then 48 else 63) := by
    intro j hj
    unfold patL
    rw [List.map_map, map5_get _ 0 hj]
    rfl
  have key : ∀ j : Nat, j < 5 → ((((patL rows p).map sgS).getD j 0 = 46 ∨ ((patL rows p).map sgS).getD j 0 = (bits f).getD j 0) ↔ (((j : Int) ∈ rw5 rows p → f j = true) ∧ ((j : Int) ∉ rw5 rows p → p ∈ rw5 rows j → f j = false))) := by
    intro j hj
    rw [hget j hj, bits_get f hj]
    by_cases h1 : (j : Int) ∈ rw5 rows p
    · rw [if_pos h1]; cases hf : f j <;> simp [sgS, h1, hf]
    · rw [if_neg h1]
      by_cases h2 : p ∈ rw5 rows j
      · rw [if_pos h2]; cases hf : f j <;> simp [sgS, h1, h2, hf]
      · rw [if_neg h2]; simp [sgS, h1, h2]
  constructor
  · intro k q q0 q5
    have := k q.toNat (List.mem_range.mpr (ar_tn q0 q5 rfl))
    rw [decide_eq_true_eq, key _ (ar_tn q0 q5 rfl), Int.toNat_of_nonneg q0] at this
    exact this
  · intro k j hj
    rw [List.mem_range] at hj
    rw [decide_eq_true_eq, key j hj]
    exact k j (Int.natCast_nonneg _) (Int.ofNat_lt.mpr hj)
theorem turn_bits (rows : List (List Int)) (f : Int → Bool) {p : Int} (hp : 0 ≤ p ∧ p < 5) (g : Bool)
    (hg : (∀ q : Int, 0 ≤ q → q < 5 → (q ∈ rw5 rows p → f q = true) ∧ (q ∉ rw5 rows p → p ∈ rw5 rows q → f q = false)) ↔ g ≠ f p) : turn (txtL rows) (bits f) p = bits fun q => if q = p then g else f q := by
  unfold turn
  have hf := fits_iff rows f hp
  by_cases hc : fitsP ((txtL rows).getD p.toNat []) (bits f) = true
  · rw [if_pos hc, ← bits_set f hp, bits_get f (ar_tn hp.1 hp.2 rfl), Int.toNat_of_nonneg hp.1]
    have := hg.mp (hf.mp hc)
    cases g <;> cases hfp : f p <;> simp_all [flipC]
  · rw [if_neg hc]
    have : g = f p := Classical.byContradiction fun q => hc (hf.mpr (hg.mpr q))
    subst this
    congr 1
    funext q
    split
    · rename_i e; rw [e]
    · rfl
end
section -- P8
noncomputable def mix (b : List Int) (f g : Int → Bool) : Int → Bool := fun q => if q ∈ b then f q else g q
theorem bits_congr {f g : Int → Bool} (e : ∀ q : Int, 0 ≤ q → q < 5 → f q = g q) : bits f = bits g := by
  unfold bits
  refine List.map_congr_left fun q hq => ?_
  obtain ⟨a, b⟩ := mem5'.mp hq
  rw [e q a b]
noncomputable def jOf (L : List (Int × Int)) (wt : List Int) (q : Int) : Bool := !decide (wt.filter (fun w => decide (w = q) || decide ((q, w) ∈ L)) = [])
theorem name_bits (dn : List Int) : nameL dn = bits fun q => decide (q ∈ dn) := by
  unfold nameL bits
  refine List.map_congr_left fun q _ => ?_
  by_cases h : q ∈ dn <;> simp [h]
theorem due_bits (L : List (Int × Int)) (wt : List Int) : dueL L wt = bits (jOf L wt) := by
  unfold dueL bits jOf
  refine List.map_congr_left fun q _ => ?_
  split
  · rename_i e; rw [e]; rfl
  · rename_i e; rw [decide_eq_false e]; rfl
section
variable {rows : List (List Int)} (h : RowsOk rows)
include h
theorem RowsOk.jIff {wt : List Int} {q : Int} : jOf (leadsN rows 5) wt q = true ↔ ∃ w ∈ wt, w = q ∨ Rc (succ5 rows) q w := by
  unfold jOf
  rw [Bool.not_eq_true', decide_eq_false_iff_not]
  constructor
  · intro k
    obtain ⟨x, hx⟩ := List.exists_mem_of_ne_nil _ k
    obtain ⟨h1, h2⟩ := List.mem_filter.mp hx
    rw [Bool.or_eq_true, decide_eq_true_eq, decide_eq_true_eq, h.leads] at h2
    exact ⟨x, h1, h2⟩
  · rintro ⟨w, h1, h2⟩
    refine List.ne_nil_of_mem (a := w) (List.mem_filter.mpr ⟨h1, ?_⟩)
    rw [Bool.or_eq_true, decide_eq_true_eq, decide_eq_true_eq, h.leads]; exact h2
theorem RowsOk.neverFrom {x w : Int} (hx : x ∈ neverL (leadsN rows 5)) (r : Rc (succ5 rows) x w) : w ∈ neverL (leadsN rows 5) := by
  obtain ⟨_, q, rq, e⟩ := h.never.mp hx
  refine h.never.mpr ⟨(h.rcRg r).2, q, rq, .inr ?_⟩
  rcases e with rfl | e
  · exact r
  · exact e.trans r
theorem RowsOk.neverPred {p : Int} (hp : p ∈ neverL (leadsN rows 5)) : ∃ q ∈ rw5 rows p, q ∈ neverL (leadsN rows 5) := by
  obtain ⟨_, q, rq, e⟩ := h.never.mp hp
  have r : Rc (succ5 rows) q p := by
    rcases e with rfl | e
    · exact rq
    · exact e
  obtain ⟨b, h1, h2⟩ := r.last
  refine ⟨b, (h.sum.mp h1).2, h.never.mpr ⟨(h.leads.mpr (.one h1) |> h.leads.mp |> h.rcRg).1, q, rq, ?_⟩⟩
  rcases h2 with rfl | h2
  · exact .inl rfl
  · exact .inr h2
theorem RowsOk.doneDown {ch : List Int} {a b : Int} (hb : b ∈ Mine.doneL (leadsN rows 5) ch) (r : Rc (succ5 rows) a b) : a ∈ Mine.doneL (leadsN rows 5) ch := by
  obtain ⟨h1, h2, h3⟩ := h.doneL.mp hb
  refine h.doneL.mpr ⟨h.ordL.mpr ⟨(h.rcRg r).1, fun q => (h.ordL.mp h1).2 (h.neverFrom q r)⟩, h3 a r, fun q rq => h3 q (rq.trans r)⟩
theorem RowsOk.waitAnc {ch : List Int} {a w : Int} (hw : w ∈ Mine.waitL rows (leadsN rows 5) (Mine.doneL (leadsN rows 5) ch)) (r : Rc (succ5 rows) a w) : a ∈ Mine.doneL (leadsN rows 5) ch := by
  obtain ⟨_, _, h3⟩ := h.waitL.mp hw
  obtain ⟨b, e1, e2⟩ := r.last
  have hb := h3 b (h.sum.mp e1).2
  rcases e2 with rfl | e2
  · exact hb
  · exact h.doneDown hb e2
theorem RowsOk.turns {ch : List Int} {p : Int} (hp : p ∈ Mine.ordL (leadsN rows 5)) {f : Int → Bool} (f1 : ∀ q ∈ rw5 rows p, f q = decide (q ∈ Mine.doneL (leadsN rows 5) ch))
    (f2 : ∀ x : Int, 0 ≤ x → x < 5 → p ∈ rw5 rows x → f x = jOf (leadsN rows 5) (Mine.waitL rows (leadsN rows 5) (Mine.doneL (leadsN rows 5) ch)) x) :
    (∀ q : Int, 0 ≤ q → q < 5 → (q ∈ rw5 rows p → f q = true) ∧ (q ∉ rw5 rows p → p ∈ rw5 rows q → f q = false)) ↔
      decide (p ∈ Mine.doneL (leadsN rows 5) ch) ≠ jOf (leadsN rows 5) (Mine.waitL rows (leadsN rows 5) (Mine.doneL (leadsN rows 5) ch)) p := by
  obtain ⟨p5, pn⟩ := h.ordL.mp hp
  have edge : ∀ {x : Int}, 0 ≤ x → x < 5 → p ∈ rw5 rows x → Rc (succ5 rows) p x := fun x0 x5 e => .one (h.sum.mpr ⟨⟨x0, x5⟩, e⟩)
  have edge' : ∀ {q : Int}, q ∈ rw5 rows p → Rc (succ5 rows) q p := fun e => .one (h.sum.mpr ⟨p5, e⟩)
  have no2 : ∀ {x : Int}, 0 ≤ x → x < 5 → p ∈ rw5 rows x → x ∉ rw5 rows p := fun x0 x5 e q =>
    pn (h.never.mpr ⟨p5, p, (edge x0 x5 e).trans (edge' q), .inl rfl⟩)
  have cond : (∀ q : Int, 0 ≤ q → q < 5 → (q ∈ rw5 rows p → f q = true) ∧ (q ∉ rw5 rows p → p ∈ rw5 rows q → f q = false)) ↔
      (∀ q ∈ rw5 rows p, q ∈ Mine.doneL (leadsN rows 5) ch) ∧ ∀ x : Int, 0 ≤ x → x < 5 → p ∈ rw5 rows x → ¬ jOf (leadsN rows 5) (Mine.waitL rows (leadsN rows 5) (Mine.doneL (leadsN rows 5) ch)) x = true := by
    constructor
    · intro k
      refine ⟨fun q hq => ?_, fun x x0 x5 hx => ?_⟩
      · obtain ⟨a, b⟩ := h.rg5 hq
        have := (k q a b).1 hq
        rw [f1 q hq, decide_eq_true_eq] at this; exact this
      · have := (k x x0 x5).2 (no2 x0 x5 hx) hx
        rw [f2 x x0 x5 hx] at this
        rw [this]; decide
    · rintro ⟨k1, k2⟩ q q0 q5
      refine ⟨fun hq => by rw [f1 q hq, decide_eq_true_eq]; exact k1 q hq, fun _ hx => ?_⟩
      rw [f2 q q0 q5 hx]
      exact Bool.not_eq_true _ ▸ k2 q q0 q5 hx
  rw [cond]
  have succJ : ∀ {x : Int}, 0 ≤ x → x < 5 → p ∈ rw5 rows x → jOf (leadsN rows 5) (Mine.waitL rows (leadsN rows 5) (Mine.doneL (leadsN rows 5) ch)) x = true → ∃ w ∈ Mine.waitL rows (leadsN rows 5) (Mine.doneL (leadsN rows 5) ch), Rc (succ5 rows) p w := by
    intro x x0 x5 hx hj
    obtain ⟨w, hw, e⟩ := h.jIff.mp hj
    rcases e with rfl | e
    · exact ⟨_, hw, edge x0 x5 hx⟩
    · exact ⟨w, hw, (edge x0 x5 hx).trans e⟩
  by_cases hd : p ∈ Mine.doneL (leadsN rows 5) ch
  · rw [decide_eq_true hd]
    constructor
    · rintro ⟨_, k2⟩ hj
      obtain ⟨w, hw, e⟩ := h.jIff.mp hj.symm
      rcases e with rfl | e
      · exact (h.waitL.mp hw).2.1 hd
      · obtain ⟨x, e1, e2⟩ := e.first
        obtain ⟨⟨x0, x5⟩, hx⟩ := h.sum.mp e1
        exact k2 x x0 x5 hx (h.jIff.mpr ⟨w, hw, e2.imp Eq.symm id⟩)
    · intro hj
      refine ⟨fun q hq => h.doneDown hd (edge' hq), fun x x0 x5 hx hjx => hj ?_⟩
      obtain ⟨w, hw, r⟩ := succJ x0 x5 hx hjx
      exact (h.jIff.mpr ⟨w, hw, .inr r⟩).symm
  · rw [decide_eq_false hd]
    constructor
    · rintro ⟨k1, _⟩ hj
      have : p ∈ Mine.waitL rows (leadsN rows 5) (Mine.doneL (leadsN rows 5) ch) := h.waitL.mpr ⟨hp, hd, k1⟩
      rw [h.jIff.mpr ⟨p, this, .inl rfl⟩] at hj
      cases hj
    · intro hj
      have hj' : jOf (leadsN rows 5) (Mine.waitL rows (leadsN rows 5) (Mine.doneL (leadsN rows 5) ch)) p = true := by
        cases e : jOf (leadsN rows 5) (Mine.waitL rows (leadsN rows 5) (Mine.doneL (leadsN rows 5) ch)) p with
        | true => rfl
        | false => exact absurd e.symm hj
      obtain ⟨w, hw, e⟩ := h.jIff.mp hj'
      rcases e with rfl | e
      · refine ⟨(h.waitL.mp hw).2.2, fun x x0 x5 hx hjx => ?_⟩
        obtain ⟨w', hw', r⟩ := succJ x0 x5 hx hjx
        exact hd (h.waitAnc hw' r)
      · exact absurd (h.waitAnc hw e) hd
theorem RowsOk.neverTurn {f : Int → Bool} (f0 : ∀ q ∈ neverL (leadsN rows 5), f q = false) : ∀ l : List Int, (∀ p ∈ l, p ∈ neverL (leadsN rows 5)) → l.foldl (turn (txtL rows)) (bits f) = bits f
  | [], _ => rfl
  | p :: l, hl => by
    have hp := hl p List.mem_cons_self
    have p5 := (h.never.mp hp).1
    rw [List.foldl_cons, turn_bits rows f p5 (f p)]
    · have : (fun q => if q = p then f p else f q) = f := by
        funext q; split
        · rename_i e; rw [e]
        · rfl
      rw [this]
      exact RowsOk.neverTurn f0 l fun x hx => hl x (List.mem_cons_of_mem _ hx)
    · constructor
      · intro k
        obtain ⟨q, hq, hn⟩ := h.neverPred hp
        obtain ⟨a, b⟩ := h.rg5 hq
        have := (k q a b).1 hq
        rw [f0 q hn] at this; cases this
      · intro k; exact absurd rfl k
end
end
section -- P9
theorem OrdP.split {rows : List (List Int)} {pre post : List Int} {p : Int} (od : OrdP rows (pre ++ p :: post)) (nd : (pre ++ p :: post).Nodup) :
    (∀ q ∈ rw5 rows p, q ∈ pre) ∧ ∀ x ∈ pre ++ p :: post, p ∈ rw5 rows x → x ∈ post := by
  have key : ∀ q ∈ rw5 rows p, q ∈ pre := by
    intro q hq
    have := od pre.length p (by rw [List.getElem?_append_right (Nat.le_refl _), Nat.sub_self]; rfl) q hq
    rwa [List.take_left'] at this
    rfl
  have hpp : p ∉ pre := fun q => by
    rw [List.nodup_append] at nd
    exact nd.2.2 p q p List.mem_cons_self rfl
  refine ⟨key, fun x hx hp => ?_⟩
  rcases List.mem_append.mp hx with hx | hx
  · obtain ⟨j, hj, e⟩ := List.mem_iff_getElem.mp hx
    have := od j x (by rw [List.getElem?_append_left hj, List.getElem?_eq_getElem hj, e]) p hp
    rw [List.take_append_of_le_length (by omega)] at this
    exact absurd (List.mem_of_mem_take this) hpp
  · rcases List.mem_cons.mp hx with rfl | hx
    · exact absurd (key x hp) hpp
    · exact hx
section
variable {rows : List (List Int)} (h : RowsOk rows)
include h
theorem RowsOk.offD {ch : List Int} {x : Int} (hx : x ∈ neverL (leadsN rows 5)) : decide (x ∈ Mine.doneL (leadsN rows 5) ch) = false :=
  decide_eq_false fun q => (h.ordL.mp (h.doneL.mp q).1).2 hx
theorem RowsOk.offJ {dn : List Int} {x : Int} (hx : x ∈ neverL (leadsN rows 5)) : jOf (leadsN rows 5) (Mine.waitL rows (leadsN rows 5) dn) x = false := by
  rw [← Bool.not_eq_true, h.jIff]
  rintro ⟨w, hw, e⟩
  refine (h.ordL.mp (h.waitL.mp hw).1).2 ?_
  rcases e with rfl | e
  · exact hx
  · exact h.neverFrom hx e
theorem RowsOk.back {ch o : List Int} (hO : o.Perm (Mine.ordL (leadsN rows 5))) (od : OrdP rows o) : ∀ post pre : List Int, o = pre ++ post →
    post.foldr (fun x y => turn (txtL rows) y x) (bits fun q => decide (q ∈ Mine.doneL (leadsN rows 5) ch)) =
      bits (mix post (jOf (leadsN rows 5) (Mine.waitL rows (leadsN rows 5) (Mine.doneL (leadsN rows 5) ch))) fun q => decide (q ∈ Mine.doneL (leadsN rows 5) ch))
  | [], pre, e => bits_congr fun q _ _ => (if_neg List.not_mem_nil).symm
  | p :: post, pre, e => by
    subst e
    have nd : (pre ++ p :: post).Nodup := hO.nodup_iff.mpr ((show R5.Nodup by decide).filter _)
    obtain ⟨s1, s2⟩ := od.split nd
    have hp : p ∈ Mine.ordL (leadsN rows 5) := hO.mem_iff.mp (by simp)
    have nd' := nd
    rw [List.nodup_append] at nd'
    obtain ⟨n1, n2, n3⟩ := nd'
    rw [List.nodup_cons] at n2
    rw [List.foldr_cons, RowsOk.back hO od post (pre ++ [p]) (by simp)]
    have hm : ∀ q, mix post (jOf (leadsN rows 5) (Mine.waitL rows (leadsN rows 5) (Mine.doneL (leadsN rows 5) ch))) (fun q => decide (q ∈ Mine.doneL (leadsN rows 5) ch)) q = if q ∈ post then jOf (leadsN rows 5) (Mine.waitL rows (leadsN rows 5) (Mine.doneL (leadsN rows 5) ch)) q else decide (q ∈ Mine.doneL (leadsN rows 5) ch) := fun q => rfl
    have T := h.turns (ch := ch) hp (f := mix post (jOf (leadsN rows 5) (Mine.waitL rows (leadsN rows 5) (Mine.doneL (leadsN rows 5) ch))) fun q => decide (q ∈ Mine.doneL (leadsN rows 5) ch))
      (fun q hq => by rw [hm, if_neg fun k => n3 q (s1 q hq) q (List.mem_cons_of_mem _ k) rfl])
      (fun x x0 x5 hx => by
        rw [hm]
        by_cases k : x ∈ post
        · rw [if_pos k]
        · rw [if_neg k]
          have hn : x ∈ neverL (leadsN rows 5) := Classical.byContradiction fun hn => k (s2 x (hO.mem_iff.mpr (h.ordL.mpr ⟨⟨x0, x5⟩, hn⟩)) hx)
          rw [h.offD hn, h.offJ hn])
    show turn (txtL rows) (bits _) p = _
    rw [turn_bits rows _ (h.ordL.mp hp).1 (jOf (leadsN rows 5) (Mine.waitL rows (leadsN rows 5) (Mine.doneL (leadsN rows 5) ch)) p) (by
      rw [T, hm, if_neg n2.1]; exact ne_comm)]
    refine bits_congr fun q _ _ => ?_
    show (if q = p then _ else if q ∈ post then _ else _) = if q ∈ p :: post then _ else _
    by_cases e : q = p
    · subst e; rw [if_pos rfl, if_pos List.mem_cons_self]
    · rw [if_neg e]
      by_cases k : q ∈ post
      · rw [if_pos k, if_pos (List.mem_cons_of_mem _ k)]
      · rw [if_neg k, if_neg (by rw [List.mem_cons, not_or]; exact ⟨e, k⟩)]
theorem RowsOk.forth {ch o : List Int} (hO : o.Perm (Mine.ordL (leadsN rows 5))) (od : OrdP rows o) : ∀ post pre : List Int, o = pre ++ post →
    post.foldl (turn (txtL rows)) (bits (mix pre (fun q => decide (q ∈ Mine.doneL (leadsN rows 5) ch)) (jOf (leadsN rows 5) (Mine.waitL rows (leadsN rows 5) (Mine.doneL (leadsN rows 5) ch))))) =
      bits (mix o (fun q => decide (q ∈ Mine.doneL (leadsN rows 5) ch)) (jOf (leadsN rows 5) (Mine.waitL rows (leadsN rows 5) (Mine.doneL (leadsN rows 5) ch))))
  | [], pre, e => by rw [e, List.append_nil]; rfl
  | p :: post, pre, e => by
    have nd : (pre ++ p :: post).Nodup := e ▸ hO.nodup_iff.mpr ((show R5.Nodup by decide).filter _)
    obtain ⟨s1, s2⟩ := OrdP.split (e ▸ od) nd
    have hp : p ∈ Mine.ordL (leadsN rows 5) := hO.mem_iff.mp (by rw [e]; simp)
    have nd' := nd
    rw [List.nodup_append] at nd'
    obtain ⟨n1, n2, n3⟩ := nd'
    have hpp : p ∉ pre := fun q => n3 p q p List.mem_cons_self rfl
    have hm : ∀ q, mix pre (fun q => decide (q ∈ Mine.doneL (leadsN rows 5) ch)) (jOf (leadsN rows 5) (Mine.waitL rows (leadsN rows 5) (Mine.doneL (leadsN rows 5) ch))) q = if q ∈ pre then decide (q ∈ Mine.doneL (leadsN rows 5) ch) else jOf (leadsN rows 5) (Mine.waitL rows (leadsN rows 5) (Mine.doneL (leadsN rows 5) ch)) q := fun q => rfl
    have T := h.turns (ch := ch) hp (f := mix pre (fun q => decide (q ∈ Mine.doneL (leadsN rows 5) ch)) (jOf (leadsN rows 5) (Mine.waitL rows (leadsN rows 5) (Mine.doneL (leadsN rows 5) ch))))
      (fun q hq => by rw [hm, if_pos (s1 q hq)])
      (fun x x0 x5 hx => by
        rw [hm]
        by_cases k : x ∈ pre
        · exact absurd rfl (n3 x k x (List.mem_cons_of_mem _ (s2 x (List.mem_append_left _ k) hx)))
        · rw [if_neg k])
    rw [List.foldl_cons, turn_bits rows _ (h.ordL.mp hp).1 (decide (p ∈ Mine.doneL (leadsN rows 5) ch)) (by
      rw [T, hm, if_neg hpp])]
    rw [← RowsOk.forth hO od post (pre ++ [p]) (by rw [e]; simp)]
    congr 1
    refine bits_congr fun q _ _ => ?_
    show (if q = p then _ else if q ∈ pre then _ else _) = if q ∈ pre ++ [p] then _ else _
    by_cases e : q = p
    · subst e; rw [if_pos rfl, if_pos (by simp)]
    · rw [if_neg e]
      by_cases k : q ∈ pre
      · rw [if_pos k, if_pos (List.mem_append_left _ k)]
      · rw [if_neg k, if_neg (by simp [e, k])]
theorem RowsOk.mixEnd {o : List Int} (hO : o.Perm (Mine.ordL (leadsN rows 5))) {f g : Int → Bool} (hn : ∀ x ∈ neverL (leadsN rows 5), f x = g x) : bits (mix o f g) = bits f := by
  refine bits_congr fun q q0 q5 => ?_
  show (if q ∈ o then f q else g q) = f q
  by_cases k : q ∈ o
  · rw [if_pos k]
  · rw [if_neg k]
    refine (hn q (Classical.byContradiction fun hn => k (hO.mem_iff.mpr (h.ordL.mpr ⟨⟨q0, q5⟩, hn⟩)))).symm
theorem RowsOk.turn {o : List Int} (hO : o.Perm (Mine.ordL (leadsN rows 5))) (od : OrdP rows o) (ch : List Int) :
    (neverL (leadsN rows 5) ++ o.reverse).foldl (Mine.turn (txtL rows)) (nameL (Mine.doneL (leadsN rows 5) ch)) = dueL (leadsN rows 5) (Mine.waitL rows (leadsN rows 5) (Mine.doneL (leadsN rows 5) ch)) ∧
    (o ++ neverL (leadsN rows 5)).foldl (Mine.turn (txtL rows)) (dueL (leadsN rows 5) (Mine.waitL rows (leadsN rows 5) (Mine.doneL (leadsN rows 5) ch))) = nameL (Mine.doneL (leadsN rows 5) ch) := by
  have e0 : ∀ x ∈ neverL (leadsN rows 5), decide (x ∈ Mine.doneL (leadsN rows 5) ch) = false := fun x hx => h.offD hx
  have e1 : ∀ x ∈ neverL (leadsN rows 5), jOf (leadsN rows 5) (Mine.waitL rows (leadsN rows 5) (Mine.doneL (leadsN rows 5) ch)) x = false := fun x hx => h.offJ hx
  rw [name_bits, due_bits, List.foldl_append, List.foldl_append, h.neverTurn e0 _ fun p hp => hp, List.foldl_reverse]
  refine ⟨?_, ?_⟩
  · rw [h.back hO od o [] rfl]
    exact h.mixEnd hO fun x hx => by rw [e0 x hx, e1 x hx]
  · have F := h.forth (ch := ch) hO od o [] rfl
    have m0 : mix [] (fun q => decide (q ∈ Mine.doneL (leadsN rows 5) ch)) (jOf (leadsN rows 5) (Mine.waitL rows (leadsN rows 5) (Mine.doneL (leadsN rows 5) ch))) = jOf (leadsN rows 5) (Mine.waitL rows (leadsN rows 5) (Mine.doneL (leadsN rows 5) ch)) := by
      funext q; exact if_neg List.not_mem_nil
    rw [m0] at F
    rw [F, h.mixEnd hO fun x hx => by rw [e0 x hx, e1 x hx]]
    exact h.neverTurn e0 _ fun p hp => hp
end
end
section -- P10
theorem len_le {l ks : List Int} (n : l.Nodup) (n' : ks.Nodup) (s : ∀ x ∈ l, x ∈ ks) : l.length ≤ ks.length := by
  have p : l.Perm (ks.filter fun x => decide (x ∈ l)) := (List.perm_ext_iff_of_nodup n (n'.filter _)).mpr fun x => by
    rw [List.mem_filter, decide_eq_true_eq]
    exact ⟨fun k => ⟨s x k, k⟩, fun k => k.2⟩
  rw [p.length_eq]
  exact List.length_filter_le _ _
theorem eraseIdx_perm : ∀ (l : List Int) (i : Nat) (hi : i < l.length), (l[i] :: l.eraseIdx i).Perm l
  | a :: l, 0, _ => List.Perm.refl _
  | a :: l, i + 1, hi => by
    refine List.Perm.trans (List.Perm.swap a _ _) (List.Perm.cons a ?_)
    exact eraseIdx_perm l i (by simpa using hi)
section
variable {rows : List (List Int)} (h : RowsOk rows)
include h
theorem RowsOk.suz (q : Int) : ((bldN rows 5).su q).length ≤ 6 := by
  rw [bld_su]
  have h1 := h.len
  have h2 := h.tot
  match rows, h1, h2 with
  | [a, b, c, d, e], _, h2 =>
    simp only [List.map_cons, List.map_nil, List.sum_cons, List.sum_nil] at h2
    rw [show List.range 5 = [0, 1, 2, 3, 4] from rfl]
    simp only [List.flatMap_cons, List.flatMap_nil, List.length_append, List.length_replicate, List.length_nil, List.getD_cons_zero, List.getD_cons_succ]
    exact Nat.le_trans (Nat.add_le_add a.count_le_length (Nat.add_le_add b.count_le_length (Nat.add_le_add c.count_le_length (Nat.add_le_add d.count_le_length (Nat.add_le_add e.count_le_length (Nat.le_refl _)))))) h2
theorem RowsOk.bound {np : Int → Int} {ps dn : List Int} (c : Core rows np ps dn) : dn.length + ps.length ≤ (bldN rows 5).ks.length := by
  rw [← List.length_append]
  exact len_le c.nd (bld_ks rows 5).1 fun x hx => h.ks.mpr (c.rg x (List.mem_append.mp hx))
end
theorem plaw (xs : List Int) : PLaw (rowsOf (nsOf xs)) := by
  have h := rowsOk xs
  generalize rowsOf (nsOf xs) = rows at h
  refine ⟨h.len, fun r hr => Nat.le_trans (le_sum hr) h.tot, h.rg, ?_, ?_, ?_, h.ring, ?_, ?_, fun o hO od ch => h.turn hO od ch⟩
  · intro k _ j hj
    exact h.ks.mpr (h.sum.mp hj).1
  · rw [h.ksP.length_eq]; decide
  · intro k _
    exact Nat.le_trans (h.suz k) (by decide)
  · refine ⟨Core rows, h.start, ?_, ?_, ?_⟩
    · intro np w o c
      refine ⟨fun p hp => ⟨h.ks.mpr (c.rg p (.inr hp)), c.m1 p hp⟩, ?_⟩
      rw [Nat.add_comm]; exact h.bound c
    · intro np w o i p c hi
      obtain ⟨hl, e⟩ := List.getElem?_eq_some_iff.mp hi
      exact Core.step h (rdy := [p]) (rest := w.eraseIdx i) c (by rw [← e]; exact eraseIdx_perm w i hl)
    · intro np o c
      exact ⟨h.runEnd c, c.od⟩
  · intro ch
    refine ⟨fun np g dn wt => Core rows np (g ++ wt) dn ∧ (∀ p ∈ dn, p ∈ ch) ∧ ∀ p ∈ wt, p ∉ ch, ?_, ?_, ?_, ?_⟩
    · exact ⟨by rw [List.append_nil]; exact h.start, fun p q => absurd q List.not_mem_nil, fun p q => absurd q List.not_mem_nil⟩
    · rintro np g dn wt ⟨c, _, _⟩
      refine ⟨fun p hp => ⟨h.ks.mpr (c.rg p (.inr (List.mem_append_left _ hp))), c.m1 p (List.mem_append_left _ hp)⟩, ?_⟩
      have := h.bound c
      rw [List.length_append] at this
      rw [Nat.add_comm g.length, Nat.add_assoc]; exact this
    · rintro np g dn wt ⟨c, c1, c2⟩ hg rdy rfl
      have P : (g.filter (fun p => decide (p ∈ ch)) ++ (wt ++ g.filter (fun p => !decide (p ∈ ch)))).Perm (g ++ wt) := by
        refine List.Perm.trans (List.Perm.append_left _ List.perm_append_comm) ?_
        rw [← List.append_assoc]
        exact List.Perm.append_right _ (List.filter_append_perm _ _)
      refine ⟨⟨(Core.step h c P).perm List.perm_append_comm, ?_, ?_⟩, ?_⟩
      · intro p hp
        rcases List.mem_append.mp hp with hp | hp
        · exact c1 p hp
        · have := (List.mem_filter.mp hp).2
          rwa [decide_eq_true_eq] at this
      · intro p hp
        rcases List.mem_append.mp hp with hp | hp
        · exact c2 p hp
        · have := (List.mem_filter.mp hp).2
          rwa [Bool.not_eq_true', decide_eq_false_iff_not] at this
      · intro i k hk
        generalize hr : g.filter (fun p => decide (p ∈ ch)) = rdy at hk P
        have nd := c.nd
        rw [List.nodup_append] at nd
        obtain ⟨_, nd2, nd3⟩ := nd
        have nr : rdy.Nodup := by
          have := P.nodup_iff.mpr nd2
          rw [List.nodup_append] at this
          exact this.1
        have inps : ∀ r ∈ rdy, r ∈ g ++ wt := fun r hr => P.mem_iff.mp (List.mem_append_left _ hr)
        have rdn : ∀ r ∈ rdy, r ∉ dn := fun r hr q => nd3 r q r (inps r hr) rfl
        have tk : ∀ r ∈ rdy.take i, r ∈ rdy := fun r hr => List.mem_of_mem_take hr
        obtain ⟨z, _, _, _, a4⟩ := doneF (bldN rows 5).su (rdy.take i) np [] fun r hr r' hr' => c.noEdge h (rdn r (tk r hr)) (.inr (inps r' (tk r' hr')))
        have hkm : k ∈ rdy := List.mem_of_getElem? hk
        rw [a4, if_neg, c.m1 k (inps k hkm), c.flat0 h (fun r hr => rdn r (tk r hr)) (.inr (inps k hkm))]
        · rfl
        · intro q
          obtain ⟨hl, e⟩ := List.getElem?_eq_some_iff.mp hk
          rw [← List.take_append_drop i rdy, List.nodup_append] at nr
          refine nr.2.2 k q k ?_ rfl
          rw [List.drop_eq_getElem_cons hl, e]
          exact List.mem_cons_self
    · rintro np dn wt ⟨c, c1, c2⟩
      exact h.heldEnd c c1 c2
end
theorem goodG {cw : ClaimW} {cl : Str → Option Addr} {mean : ExcName → Option Value} {args : List WData} {s1 s' : Shared} (hT : TabsAt [(216, 212)] s1.heap) (k1 : ∀ b o, (ghostOf s1.heap [(216, 212)]).get? b = some o → s'.heap.get? b = some o) (k2 : s'.os = s1.os) (k3 : s'.gens = #[])
    (k4 : ∃ ps, s'.heap.get? 212 = some (tabObj ps)) (hr : ∀ x, cw.raises args x = false) (hp : cw.post args (.bool true) args = true) : GoodWG cw cl mean args s1 (.ok (.ret (.bool true))) s' := by
  refine ⟨.inl ⟨_, .bool true, [], rfl, hr, .bool true, hp, fun _ => ⟨List.nodup_nil, fun a ha => nomatch ha⟩⟩, ⟨fun b o e => ?_, fun b o e => ?_⟩, k2, .of_eq k3⟩
  · by_cases hb : b = 212
    · subst hb
      have e2 := (hT (216, 212) (by simp)).2
      rw [e] at e2
      cases e2
      obtain ⟨ps, hP⟩ := k4
      exact .inr (.inl ⟨((hT (216, 212) (by simp)).1.tab (hT (216, 212) (by simp)).2).isCodeTable, rfl, #[], ps, rfl, by rw [Array.empty_append]; exact hP⟩)
    · exact .inl (k1 b o (ghost_ne e (by simpa using hb)))
  · by_cases hb : b = 212
    · subst hb
      obtain ⟨ps, hP⟩ := k4
      exact ⟨_, hP⟩
    · exact ⟨o, k1 b o (ghost_ne e (by simpa using hb))⟩
end Mine
theorem Mine.main.tw10140136200207757160 : True := trivial
theorem Mine.main.tw10159738436595150677 : True := trivial
theorem Mine.main.tw10177057350305019805 : True := trivial
theorem Mine.main.tw10199874654664476236 : True := trivial
theorem Mine.main.tw10234815189450012239 : True := trivial
theorem Mine.main.tw10298723112805639129 : True := trivial
theorem Mine.main.tw10320057750957387291 : True := trivial
theorem Mine.main.tw10363585996791799541 : True := trivial
theorem Mine.main.tw104360540948158410 : True := trivial
theorem Mine.main.tw10450603732522932521 : True := trivial
theorem Mine.main.tw10609540516017602915 : True := trivial
theorem Mine.main.tw10625486282989778954 : True := trivial
theorem Mine.main.tw10642606787283503386 : True := trivial
theorem Mine.main.tw10665089971535097683 : True := trivial
theorem Mine.main.tw10669944970481658594 : True := trivial
theorem Mine.main.tw10699908585067015650 : True := trivial
theorem Mine.main.tw10707853282979444102 : True := trivial
theorem Mine.main.tw1082519908427967789 : True := trivial
theorem Mine.main.tw10825838108423173272 : True := trivial
theorem Mine.main.tw1084114956928915155 : True := trivial
theorem Mine.main.tw10876375607700338302 : True := trivial
theorem Mine.main.tw10877679251791092727 : True := trivial
theorem Mine.main.tw10896356407431480244 : True := trivial
theorem Mine.main.tw11003572833241299968 : True := trivial
theorem Mine.main.tw11124739342428088709 : True := trivial
theorem Mine.main.tw11127770569618246824 : True := trivial
theorem Mine.main.tw11135027115929721415 : True := trivial
theorem Mine.main.tw11182973995046164717 : True := trivial
theorem Mine.main.tw1120264589727278449 : True := trivial
theorem Mine.main.tw11221353774195762014 : True := trivial
theorem Mine.main.tw11261727412033496967 : True := trivial
theorem Mine.main.tw1130211791997205004 : True := trivial
theorem Mine.main.tw11364765124613780825 : True := trivial
theorem Mine.main.tw11403851563620829512 : True := trivial
theorem Mine.main.tw11461230924637031220 : True := trivial
theorem Mine.main.tw11505072364899133118 : True := trivial
theorem Mine.main.tw11544348965984651327 : True := trivial
theorem Mine.main.tw11554813239044494598 : True := trivial
theorem Mine.main.tw1157997071576566072 : True := trivial
theorem Mine.main.tw11595355409239048105 : True := trivial
theorem Mine.main.tw11608591588782457225 : True := trivial
theorem Mine.main.tw11710404883906591787 : True := trivial
theorem Mine.main.tw11752208632293872130 : True := trivial
theorem Mine.main.tw11785714552879321826 : True := trivial
theorem Mine.main.tw11857135199678951331 : True := trivial
theorem Mine.main.tw11903146300924635186 : True := trivial
theorem Mine.main.tw11982392923317675503 : True := trivial
theorem Mine.main.tw11987853993630220354 : True := trivial
theorem Mine.main.tw12057704586751987240 : True := trivial
theorem Mine.main.tw12126986431929076879 : True := trivial
theorem Mine.main.tw12273490649430754879 : True := trivial
theorem Mine.main.tw12298629886278197574 : True := trivial
theorem Mine.main.tw12343854547171428336 : True := trivial
theorem Mine.main.tw12361340156312767134 : True := trivial
theorem Mine.main.tw12412626361518170872 : True := trivial
theorem Mine.main.tw12431561837914552411 : True := trivial
theorem Mine.main.tw12455012482086183272 : True := trivial
theorem Mine.main.tw12495339312024472815 : True := trivial
theorem Mine.main.tw12518504611687188807 : True := trivial
theorem Mine.main.tw12590340796369385619 : True := trivial
theorem Mine.main.tw12670839924663504800 : True := trivial
theorem Mine.main.tw1270039299266317192 : True := trivial
theorem Mine.main.tw1277820614484962519 : True := trivial
theorem Mine.main.tw12780967964696292293 : True := trivial
theorem Mine.main.tw12875116078321382335 : True := trivial
theorem Mine.main.tw12922898485456448571 : True := trivial
theorem Mine.main.tw12927740378394474205 : True := trivial
theorem Mine.main.tw12941917028564957548 : True := trivial
theorem Mine.main.tw12990674161636488019 : True := trivial
theorem Mine.main.tw1306636233014830658 : True := trivial
theorem Mine.main.tw13110577991587790113 : True := trivial
theorem Mine.main.tw13113777628852026922 : True := trivial
theorem Mine.main.tw13224007501803129859 : True := trivial
theorem Mine.main.tw13270728482189477470 : True := trivial
theorem Mine.main.tw13348322127785295214 : True := trivial
theorem Mine.main.tw13402765919934010277 : True := trivial
theorem Mine.main.tw13503263706703578961 : True := trivial
theorem Mine.main.tw13534339028543913591 : True := trivial
theorem Mine.main.tw13548834284501389479 : True := trivial
theorem Mine.main.tw13562455689418519750 : True := trivial
theorem Mine.main.tw13590572293223372214 : True := trivial
theorem Mine.main.tw13642826006792871662 : True := trivial
theorem Mine.main.tw13667920496262714385 : True := trivial
theorem Mine.main.tw13676971244355772609 : True := trivial
theorem Mine.main.tw13693970394777133609 : True := trivial
theorem Mine.main.tw13707940170689118305 : True := trivial
theorem Mine.main.tw13777938177461255882 : True := trivial
theorem Mine.main.tw13803360072150633466 : True := trivial
theorem Mine.main.tw13838900630717943254 : True := trivial
theorem Mine.main.tw13841662599370971200 : True := trivial
theorem Mine.main.tw13892077903350267210 : True := trivial
theorem Mine.main.tw1390771862084280389 : True := trivial
theorem Mine.main.tw14009396871252706886 : True := trivial
theorem Mine.main.tw14027531716089632829 : True := trivial
theorem Mine.main.tw14037535772548047747 : True := trivial
theorem Mine.main.tw14064073609400967072 : True := trivial
theorem Mine.main.tw1409966394225722968 : True := trivial
theorem Mine.main.tw1412715411095470506 : True := trivial
theorem Mine.main.tw14218914174604095658 : True := trivial
theorem Mine.main.tw1429040668314091153 : True := trivial
theorem Mine.main.tw14501139755280948549 : True := trivial
theorem Mine.main.tw14510055921401542917 : True := trivial
theorem Mine.main.tw14539993770535171780 : True := trivial
theorem Mine.main.tw14635473669698735251 : True := trivial
theorem Mine.main.tw14639212616227390028 : True := trivial
theorem Mine.main.tw14646587721710459877 : True := trivial
theorem Mine.main.tw14662554035588321541 : True := trivial
theorem Mine.main.tw14672674291997333471 : True := trivial
theorem Mine.main.tw14722489848711283861 : True := trivial
theorem Mine.main.tw14759895335926876869 : True := trivial
theorem Mine.main.tw14788915703135433725 : True := trivial
theorem Mine.main.tw14793117695081215449 : True := trivial
theorem Mine.main.tw14808301261830121737 : True := trivial
theorem Mine.main.tw14878290195882097859 : True := trivial
theorem Mine.main.tw14907226015203709474 : True := trivial
theorem Mine.main.tw14909365282108701170 : True := trivial
theorem Mine.main.tw1504049600530537962 : True := trivial
theorem Mine.main.tw15079240505294077160 : True := trivial
theorem Mine.main.tw15109750227778091905 : True := trivial
theorem Mine.main.tw15270170921892066516 : True := trivial
theorem Mine.main.tw15342904991969174519 : True := trivial
theorem Mine.main.tw15365013842991253249 : True := trivial
theorem Mine.main.tw1545906260438175962 : True := trivial
theorem Mine.main.tw15465920861327815835 : True := trivial
theorem Mine.main.tw15467891735981029475 : True := trivial
theorem Mine.main.tw15485851114877660061 : True := trivial
theorem Mine.main.tw15514936471743626214 : True := trivial
theorem Mine.main.tw15643365686152983790 : True := trivial
theorem Mine.main.tw15649996292582860464 : True := trivial
theorem Mine.main.tw15734200111481486640 : True := trivial
theorem Mine.main.tw15734660467963936456 : True := trivial
theorem Mine.main.tw15843245209704562525 : True := trivial
theorem Mine.main.tw16008252555379753968 : True := trivial
theorem Mine.main.tw16035907590883218939 : True := trivial
theorem Mine.main.tw16046730324260685337 : True := trivial
theorem Mine.main.tw16049902774474827687 : True := trivial
theorem Mine.main.tw16102231251864390963 : True := trivial
theorem Mine.main.tw16123001533466179255 : True := trivial
theorem Mine.main.tw16136984950599521427 : True := trivial
theorem Mine.main.tw1615956725737779560 : True := trivial
theorem Mine.main.tw16187894506366716058 : True := trivial
theorem Mine.main.tw16251939892948500945 : True := trivial
theorem Mine.main.tw1632041292262086317 : True := trivial
theorem Mine.main.tw16320729459185622934 : True := trivial
theorem Mine.main.tw16452447596832230105 : True := trivial
theorem Mine.main.tw16480584520131690045 : True := trivial
theorem Mine.main.tw16519101796099990279 : True := trivial
theorem Mine.main.tw16721930046160240684 : True := trivial
theorem Mine.main.tw1677766988990989824 : True := trivial
theorem Mine.main.tw16778611742570070204 : True := trivial
theorem Mine.main.tw16798622893749714585 : True := trivial
theorem Mine.main.tw16819838333489098493 : True := trivial
theorem Mine.main.tw16832360635688203351 : True := trivial
theorem Mine.main.tw16923884221124529275 : True := trivial
theorem Mine.main.tw16950194794029067938 : True := trivial
theorem Mine.main.tw16952715711813285254 : True := trivial
theorem Mine.main.tw16965079339398995527 : True := trivial
theorem Mine.main.tw17091655785135471103 : True := trivial
theorem Mine.main.tw17118054049896295152 : True := trivial
theorem Mine.main.tw17146568849442343683 : True := trivial
theorem Mine.main.tw17292155258170135553 : True := trivial
theorem Mine.main.tw17325761959067429606 : True := trivial
theorem Mine.main.tw17336282652733537790 : True := trivial
theorem Mine.main.tw17353955331779342651 : True := trivial
theorem Mine.main.tw17450470499104002142 : True := trivial
theorem Mine.main.tw17477492558424962760 : True := trivial
theorem Mine.main.tw1750853009144216356 : True := trivial
theorem Mine.main.tw17510229520200029679 : True := trivial
theorem Mine.main.tw17561526911342447988 : True := trivial
theorem Mine.main.tw17695171507069755227 : True := trivial
theorem Mine.main.tw17715262827843222689 : True := trivial
theorem Mine.main.tw17725498274588495791 : True := trivial
theorem Mine.main.tw1777545030009416734 : True := trivial
theorem Mine.main.tw17880491280599437060 : True := trivial
theorem Mine.main.tw17958375852430007124 : True := trivial
theorem Mine.main.tw17962335012771893938 : True := trivial
theorem Mine.main.tw17974016328880235120 : True := trivial
theorem Mine.main.tw17985968254628205384 : True := trivial
theorem Mine.main.tw18063282731904131703 : True := trivial
theorem Mine.main.tw18134284020713443437 : True := trivial
theorem Mine.main.tw18176486316997838772 : True := trivial
theorem Mine.main.tw18218335207050127959 : True := trivial
theorem Mine.main.tw18284262389922463811 : True := trivial
theorem Mine.main.tw18315214858253571532 : True := trivial
theorem Mine.main.tw18332899500509843999 : True := trivial
theorem Mine.main.tw18403998269306519403 : True := trivial
theorem Mine.main.tw18442785490491869365 : True := trivial
theorem Mine.main.tw1850612553970854742 : True := trivial
theorem Mine.main.tw2007339730380871907 : True := trivial
theorem Mine.main.tw2019394398466159022 : True := trivial
theorem Mine.main.tw2164743871083121425 : True := trivial
theorem Mine.main.tw2199488891245549803 : True := trivial
theorem Mine.main.tw2224098246841298289 : True := trivial
theorem Mine.main.tw2225956059507018244 : True := trivial
theorem Mine.main.tw223528310411579522 : True := trivial
theorem Mine.main.tw2238316416991798583 : True := trivial
theorem Mine.main.tw2279707942289718827 : True := trivial
theorem Mine.main.tw2287757881348798766 : True := trivial
theorem Mine.main.tw2300000084808533950 : True := trivial
theorem Mine.main.tw2422408961436860177 : True := trivial
theorem Mine.main.tw2433702464844828792 : True := trivial
theorem Mine.main.tw2496676261509829067 : True := trivial
theorem Mine.main.tw2524017781993486291 : True := trivial
theorem Mine.main.tw2538046985915079169 : True := trivial
theorem Mine.main.tw2544328076492683441 : True := trivial
theorem Mine.main.tw2583023086579268501 : True := trivial
theorem Mine.main.tw2629084897520917108 : True := trivial
theorem Mine.main.tw2724176850512262202 : True := trivial
theorem Mine.main.tw2821470743931037460 : True := trivial
theorem Mine.main.tw2895952525429962455 : True := trivial
theorem Mine.main.tw2906824675625879941 : True := trivial
theorem Mine.main.tw2976744350696088943 : True := trivial
theorem Mine.main.tw3003871641135884971 : True := trivial
theorem Mine.main.tw302440914744352476 : True := trivial
theorem Mine.main.tw3045742163950154196 : True := trivial
theorem Mine.main.tw3137596982192898869 : True := trivial
theorem Mine.main.tw3299218664060906527 : True := trivial
theorem Mine.main.tw3332543467307319023 : True := trivial
theorem Mine.main.tw3343439749351644125 : True := trivial
theorem Mine.main.tw3427950696624970785 : True := trivial
theorem Mine.main.tw3466206800631347469 : True := trivial
theorem Mine.main.tw3532052218105579805 : True := trivial
theorem Mine.main.tw3532412968194664532 : True := trivial
theorem Mine.main.tw3549514262204291990 : True := trivial
theorem Mine.main.tw3557749057250611081 : True := trivial
theorem Mine.main.tw3583811862363856187 : True := trivial
theorem Mine.main.tw3626430660855392483 : True := trivial
theorem Mine.main.tw3779293765908593550 : True := trivial
theorem Mine.main.tw3796207824708393856 : True := trivial
theorem Mine.main.tw3829396358689915599 : True := trivial
theorem Mine.main.tw3848698983108048278 : True := trivial
theorem Mine.main.tw387501639795913443 : True := trivial
theorem Mine.main.tw3934531018447913466 : True := trivial
theorem Mine.main.tw3960113756560652017 : True := trivial
theorem Mine.main.tw4026956272090484662 : True := trivial
theorem Mine.main.tw4039676971129161736 : True := trivial
theorem Mine.main.tw4044139247061151142 : True := trivial
theorem Mine.main.tw40702016656044875 : True := trivial
theorem Mine.main.tw4072190877284726289 : True := trivial
theorem Mine.main.tw4126091431370883743 : True := trivial
theorem Mine.main.tw4189750870438640210 : True := trivial
theorem Mine.main.tw4261964983698606537 : True := trivial
theorem Mine.main.tw4300332693827490752 : True := trivial
theorem Mine.main.tw4324958949535026087 : True := trivial
theorem Mine.main.tw4452170602077327944 : True := trivial
theorem Mine.main.tw4458048076830672230 : True := trivial
theorem Mine.main.tw4475767826048309731 : True := trivial
theorem Mine.main.tw4500915450034043215 : True := trivial
theorem Mine.main.tw4544244032028310869 : True := trivial
theorem Mine.main.tw4573282807186111410 : True := trivial
theorem Mine.main.tw4605139254293405059 : True := trivial
theorem Mine.main.tw4637267157515435788 : True := trivial
theorem Mine.main.tw4650958065196391918 : True := trivial
theorem Mine.main.tw4651154628705390771 : True := trivial
theorem Mine.main.tw4812270449578504274 : True := trivial
theorem Mine.main.tw4839478117068044826 : True := trivial
theorem Mine.main.tw4990475226369331113 : True := trivial
theorem Mine.main.tw5019971082208991259 : True := trivial
theorem Mine.main.tw5056691335951438648 : True := trivial
theorem Mine.main.tw5061512775090418087 : True := trivial
theorem Mine.main.tw5102693214775723256 : True := trivial
theorem Mine.main.tw5127751686995613262 : True := trivial
theorem Mine.main.tw5149715483801463730 : True := trivial
theorem Mine.main.tw5203219222101121401 : True := trivial
theorem Mine.main.tw52199770228462824 : True := trivial
theorem Mine.main.tw5240779543111244032 : True := trivial
theorem Mine.main.tw5372645768047454471 : True := trivial
theorem Mine.main.tw5400957986263281647 : True := trivial
theorem Mine.main.tw5401703158475992631 : True := trivial
theorem Mine.main.tw5436791530062809996 : True := trivial
theorem Mine.main.tw5473700226181020891 : True := trivial
theorem Mine.main.tw5507402815253087181 : True := trivial
theorem Mine.main.tw5518243967957118194 : True := trivial
theorem Mine.main.tw5532463470591059822 : True := trivial
theorem Mine.main.tw5571399437266216444 : True := trivial
theorem Mine.main.tw5613160597433933154 : True := trivial
theorem Mine.main.tw5649967823195072380 : True := trivial
theorem Mine.main.tw5665735395497279834 : True := trivial
theorem Mine.main.tw5871769198996169552 : True := trivial
theorem Mine.main.tw5911364387767672712 : True := trivial
theorem Mine.main.tw5995161000843957690 : True := trivial
theorem Mine.main.tw6044114016751833949 : True := trivial
theorem Mine.main.tw6112859857366181021 : True := trivial
theorem Mine.main.tw6161133996638707016 : True := trivial
theorem Mine.main.tw6222487380544312443 : True := trivial
theorem Mine.main.tw6334894449686545209 : True := trivial
theorem Mine.main.tw6361450105264607166 : True := trivial
theorem Mine.main.tw6385024630547198690 : True := trivial
theorem Mine.main.tw6418098437765475518 : True := trivial
theorem Mine.main.tw6508729118710982530 : True := trivial
theorem Mine.main.tw6511744376749373798 : True := trivial
theorem Mine.main.tw6541472054586571296 : True := trivial
theorem Mine.main.tw6545385358150927430 : True := trivial
theorem Mine.main.tw6557543464795787104 : True := trivial
theorem Mine.main.tw6569515737239586001 : True := trivial
theorem Mine.main.tw6611068267950478117 : True := trivial
theorem Mine.main.tw66260789543402106 : True := trivial
theorem Mine.main.tw6660377722381337597 : True := trivial
theorem Mine.main.tw6696893160125735727 : True := trivial
theorem Mine.main.tw6697339332421208802 : True := trivial
theorem Mine.main.tw6741956870357045435 : True := trivial
theorem Mine.main.tw6745355254962409461 : True := trivial
theorem Mine.main.tw6785657489111691699 : True := trivial
theorem Mine.main.tw6801380410627298636 : True := trivial
theorem Mine.main.tw6886502059237256666 : True := trivial
theorem Mine.main.tw6912675738884088206 : True := trivial
theorem Mine.main.tw698830821165456333 : True := trivial
theorem Mine.main.tw7074144079889050967 : True := trivial
theorem Mine.main.tw7113585516715319716 : True := trivial
theorem Mine.main.tw7153082081811710619 : True := trivial
theorem Mine.main.tw7159127617245474268 : True := trivial
theorem Mine.main.tw7173623326730630234 : True := trivial
theorem Mine.main.tw7221758910455160077 : True := trivial
theorem Mine.main.tw7235775444256392728 : True := trivial
theorem Mine.main.tw7268301785047649679 : True := trivial
theorem Mine.main.tw7308723440029596264 : True := trivial
theorem Mine.main.tw7380652910202371479 : True := trivial
theorem Mine.main.tw7411558596216406370 : True := trivial
theorem Mine.main.tw750237026923860459 : True := trivial
theorem Mine.main.tw7685836070595731369 : True := trivial
theorem Mine.main.tw7698036289167662538 : True := trivial
theorem Mine.main.tw7751025194823839400 : True := trivial
theorem Mine.main.tw7761410557224570781 : True := trivial
theorem Mine.main.tw7846812961960373227 : True := trivial
theorem Mine.main.tw7875838824674609581 : True := trivial
theorem Mine.main.tw8118072479153026202 : True := trivial
theorem Mine.main.tw834873547066669988 : True := trivial
theorem Mine.main.tw8440099810896429113 : True := trivial
theorem Mine.main.tw8466321980469482115 : True := trivial
theorem Mine.main.tw8467378866343419333 : True := trivial
theorem Mine.main.tw8475525182357872103 : True := trivial
theorem Mine.main.tw8478376212529829071 : True := trivial
theorem Mine.main.tw8652556701797213591 : True := trivial
theorem Mine.main.tw8663697691656813868 : True := trivial
theorem Mine.main.tw8699224262051402633 : True := trivial
theorem Mine.main.tw8703757790058876194 : True := trivial
theorem Mine.main.tw8729708805864041840 : True := trivial
theorem Mine.main.tw8748973510418095054 : True := trivial
theorem Mine.main.tw8754357760408615828 : True := trivial
theorem Mine.main.tw8756518407330761489 : True := trivial
theorem Mine.main.tw8808949154728543533 : True := trivial
theorem Mine.main.tw8905464785575363620 : True := trivial
theorem Mine.main.tw9069182735580402390 : True := trivial
theorem Mine.main.tw9076515076264148339 : True := trivial
theorem Mine.main.tw9265829497004654079 : True := trivial
theorem Mine.main.tw9268297945177815525 : True := trivial
theorem Mine.main.tw9272984997812220495 : True := trivial
theorem Mine.main.tw9302470337196694018 : True := trivial
theorem Mine.main.tw9361130925298907136 : True := trivial
theorem Mine.main.tw9369660151273674066 : True := trivial
theorem Mine.main.tw9376575566392132001 : True := trivial
theorem Mine.main.tw9381277316556691805 : True := trivial
theorem Mine.main.tw9508770018378322450 : True := trivial
theorem Mine.main.tw9512817274939609580 : True := trivial
theorem Mine.main.tw9561784451562097942 : True := trivial
theorem Mine.main.tw9563168847844234846 : True := trivial
theorem Mine.main.tw9569583350447587024 : True := trivial
theorem Mine.main.tw961187720498965250 : True := trivial
theorem Mine.main.tw962032349192862916 : True := trivial
theorem Mine.main.tw9658885295015712986 : True := trivial
theorem Mine.main.tw9670510015898674028 : True := trivial
theorem Mine.main.tw9681375758050803366 : True := trivial
theorem Mine.main.tw9682133043923132273 : True := trivial
theorem Mine.main.tw9730157408454304684 : True := trivial
theorem Mine.main.tw979501456738626862 : True := trivial
theorem Mine.main.tw9840939614602229412 : True := trivial
theorem Mine.main.tw9848185148710128376 : True := trivial
theorem Mine.main.tw986264711143662130 : True := trivial
theorem Mine.main.tw9897820754763898449 : True := trivial
theorem Mine.main.tw9925469786538053656 : True := trivial
theorem Mine.main.tw9976160756891316704 : True := trivial
set_option maxHeartbeats 0
open Mine in
set_option Elab.async true in
theorem Mine.main : PySem.Challenge.rw_rx0065_01.Holds := by
  w_on
  o_law
  o_head (kmHook kP kA kA_eq [212])
  (case hw => w_witness2)
  intro w s0 s1 mg mb G Y fa o pm cd doc dV kV ho hdd hcd hD hmg hg args vals as hpre hlay hrd hwl hlo
  have KX := km_in_of Y
  km_tabs Y
  have X := (Ground.X G).1
  have V := (Ground.X G).2
  refine Ground.open G ?_
  intro T B D TE TW
  try (refine guard_noD D (by decide +kernel) ?_; clear D)
  have e258 := mg_of (n := "law") (v := .ref 258) KX (Top.g T) (by kernel_rfl)
  have hfa : fa = 258 := by
    have h := hmg
    rw [show (_ : Str) = "law" from rfl] at h
    exact Value.ref.inj (Option.some.inj (h.symm.trans e258))
  clear hmg ho hdd hcd hD
  subst hfa
  wrow_args hpre hlay hrd hwl hlo
  rename_i xs _ _ _ _ _ _ _ sa vs _ hL _ _ _ hI _ hcond _
  have hz : xs.length ≤ 63 := by omega
  have hT : TabsAt [(216, 212)] s1.heap := List.forall_mem_cons.mpr ⟨⟨codeHd_of_K (c := 216) (P := 212) KX (by kernel_rfl), hT8 212 (by simp)⟩, fun _ h => nomatch h⟩
  refine start KX (Top.g T) (Top.b T) (Top.builtins T) (Top.nolimit T) hg (Top.bmain T) (hT8 212 (by simp)) hL hI hz (plaw xs) ?_
  intro s' k1 k2 k3 k4
  exact goodG hT k1 k2 k3 k4 (fun _ => rfl) (by first | rfl | wrow_post)
set_option Elab.async false
theorem PySem.Challenge.cw_rx0065_01_holds : PySem.Challenge.rw_rx0065_01.Holds :=
  Mine.main
