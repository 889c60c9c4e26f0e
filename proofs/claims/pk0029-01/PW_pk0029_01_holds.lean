import PyProof.Rows.All
import Wide.All
import Open.Line
import OpenK.KCall
import OpenK.KWalk
import OpenK.KGet
import KE.IntBitsLaws
import KE.BitLaws
import Wide.FinOn
import PySem.Challenge.RW_pk0029_01
open PySem PySem.W PyProof.Rows
set_option Elab.async false
set_option linter.all false
set_option maxRecDepth 100000
namespace Mine
open PySem.Calls

/-! ## Small facts -/
theorem pow_pos2 (n : Nat) : (0 : Int) < 2 ^ n := Int.pow_pos (by decide)
theorem neg_div (m : Int) (i : Nat) : (-1 - m) / 2 ^ i = -1 - m / 2 ^ i := by
  have p := pow_pos2 i
  generalize (2 : Int) ^ i = d at p
  have h1 := Int.emod_nonneg m (Int.ne_of_gt p)
  have h2 := Int.emod_lt_of_pos m p
  have h3 := Int.mul_ediv_add_emod m d
  have e : -1 - m = (d - 1 - m % d) + d * (-1 - m / d) := by
    rw [Int.mul_sub, Int.mul_neg, Int.mul_one]; omega
  have hz : (d - 1 - m % d) / d = 0 := Int.ediv_eq_zero_of_lt (by omega) (by omega)
  rw [e, Int.add_mul_ediv_left _ _ (Int.ne_of_gt p), hz, Int.zero_add]
theorem nat_bit (n k : Nat) : n &&& 2 ^ k = (n / 2 ^ k % 2) * 2 ^ k := by
  apply Nat.eq_of_testBit_eq
  intro i
  rw [Nat.testBit_and, Nat.testBit_two_pow]
  have hb : n.testBit k = decide (n / 2 ^ k % 2 = 1) := Nat.testBit_eq_decide_div_mod_eq
  have : n / 2 ^ k % 2 = 0 ∨ n / 2 ^ k % 2 = 1 := by omega
  rcases this with e | e
  · rw [e] at hb ⊢
    by_cases q : k = i
    · subst q; simp [hb]
    · simp [q]
  · rw [e] at hb ⊢
    rw [Nat.one_mul, Nat.testBit_two_pow]
    by_cases q : k = i
    · subst q; simp [hb]
    · simp [q]
theorem int_bit (z : Int) (h : 0 ≤ z) (k : Nat) : ((z.toNat &&& 2 ^ k : Nat) : Int) = (z / 2 ^ k % 2) * 2 ^ k := by
  obtain ⟨n, rfl⟩ := Int.eq_ofNat_of_zero_le h
  rw [Int.toNat_natCast, nat_bit]
  simp
theorem and_bit (x : Int) (k : Nat) : Builtin.bitAnd x (2 ^ k) = (x / 2 ^ k % 2) * 2 ^ k := by
  have p := pow_pos2 k
  have tn : ((2 : Int) ^ k).toNat = 2 ^ k := by
    have : (2 : Int) ^ k = ((2 ^ k : Nat) : Int) := by simp
    rw [this, Int.toNat_natCast]
  have dk : decide (0 ≤ (2 : Int) ^ k) = true := decide_eq_true (Int.le_of_lt p)
  by_cases hx : 0 ≤ x
  · have e : Builtin.bitAnd x (2 ^ k) = ((x.toNat &&& ((2 : Int) ^ k).toNat : Nat) : Int) := by
      unfold Builtin.bitAnd; rw [decide_eq_true hx, dk]
    rw [e, tn, int_bit x hx]
  · have e : Builtin.bitAnd x (2 ^ k) = 2 ^ k - ((((2 : Int) ^ k).toNat &&& (Builtin.bitNot x).toNat : Nat) : Int) := by
      unfold Builtin.bitAnd; rw [decide_eq_false hx, dk]
    have hn : Builtin.bitNot x = -1 - x := by
      show -x - 1 = -1 - x
      omega
    rw [e, tn, Nat.and_comm, hn, int_bit (-1 - x) (by omega), neg_div]
    have : x / 2 ^ k % 2 = 0 ∨ x / 2 ^ k % 2 = 1 := by omega
    rcases this with q | q
    · have : (-1 - x / 2 ^ k) % 2 = 1 := by omega
      rw [q, this]; omega
    · have : (-1 - x / 2 ^ k) % 2 = 0 := by omega
      rw [q, this]; omega
theorem en_iter : entryFor table "iter" = some Builtin.«iter» := entryFor_of_tree (by kernel_rfl)
theorem en_next : entryFor table "next" = some Builtin.«next» := entryFor_of_tree (by kernel_rfl)
theorem ar_iter (a : Value) : argsOk "iter" ⟨[a], []⟩ := by unfold argsOk; kernel_rfl
theorem ar_next (a : Value) : argsOk "next" ⟨[a], []⟩ := by unfold argsOk; kernel_rfl
/-- a cell that the names ask for is there -/
theorem cells_some {x : Str} (names : List (Str × NameKind)) : ∀ (n : Nat) (acc : List (Str × Addr)), (names.lookup x = some .cell ∨ (acc.lookup x).isSome = true) → ((cellsFrom n names acc).lookup x).isSome = true := by
  induction names with
  | nil =>
    intro n acc h
    rcases h with h | h
    · cases h
    · exact h
  | cons p r ih =>
    obtain ⟨y, kd⟩ := p
    intro n acc h
    have e : cellsFrom n ((y, kd) :: r) acc = if kd == .cell then cellsFrom (n + 1) r ((y, n) :: acc) else cellsFrom n r acc := rfl
    rw [e]
    rw [List.lookup_cons] at h
    cases hxy : x == y with
    | true =>
      rw [hxy] at h
      split
      · exact ih _ _ (.inr (by rw [List.lookup_cons, hxy]; rfl))
      · rename_i hk
        refine ih _ _ (.inr ?_)
        rcases h with h | h
        · have : kd = .cell := Option.some.inj h
          exact absurd (by rw [this]; rfl) hk
        · exact h
    | false =>
      rw [hxy] at h
      split
      · exact ih _ _ (h.imp id fun h => by rw [List.lookup_cons, hxy]; exact h)
      · exact ih _ _ h
/-- frames, seen from a heap where their slots are hidden -/
theorem fun_hide {base h : Heap} {as : List Addr} (l : List Env) (hl : h.FunFrames base l) (hin : ∀ env ∈ l, ∀ a, env.frame = some a → a ∈ as) : h.FunFrames (hideAll h as) l := by
  induction l with
  | nil => trivial
  | cons env l ih =>
    obtain ⟨hk, ⟨L, o, hf, _, ho, hd⟩, hr⟩ := hl
    exact ⟨hk, ⟨L, o, hf, hideAll_none _ (hin env (.head _) L hf), ho, hd⟩, ih hr fun e he => hin e (.tail _ he)⟩
section
variable {prog : Program} {w : World} {A : Around} {E : Value → Shared → Prop} {s : Shared} {env : Env} {elt iter : Expr} {pos : Pos} {scope : Scope}
/-- one turn of a list comprehension without tests: what is to be shown of it -/
def TurnL (prog : Program) (w : World) (A : Around) (env : Env) (target elt : Expr) (it acc : Value) (D G : Shared → Prop) (X : Value → Shared → Prop) (s : Shared) : Prop :=
  wpAny (model prog w) A (pyNext it) (fun r s₁ => match r with
    | none => D s₁
    | some v => wpAny (model prog w) A (letOwnedTupleGo target it v) (fun _ s₂ => wpAny (model prog w) A (assign target env v) (fun _ s₃ =>
        wpAny (model prog w) A (eval elt env) (fun x s₄ => wpAny (model prog w) A (call (.builtin "list.append") [acc, x]) (fun _ => G) X s₄) X s₃) X s₂) X s₁) X s
theorem turnL {target : Expr} {it acc : Value} {D G : Shared → Prop} {X : Value → Shared → Prop} (h : TurnL prog w A env target elt it acc D G X s) :
    wpAny (model prog w) A (compTurn (.ListComp elt [⟨target, iter, [], 0⟩] scope pos) 0 it acc env) (fun fin s' => match fin with
      | .done f => f = .next ∧ D s'
      | .again c => c = .compLoop (.ListComp elt [⟨target, iter, [], 0⟩] scope pos) 0 it acc env ∧ G s') X s := by
  rw [compTurn_list]
  apply wpAny_bind
  apply wpAny_standAt
  apply wpAny_bind
  apply wpAny_mono h
  · rintro (_ | v) t ht
    · exact wpAny_pure ⟨rfl, ht⟩
    · apply wpAny_bind
      apply wpAny_mono ht
      · intro _ t ht
        apply wpAny_bind
        apply wpAny_mono ht
        · intro _ t ht
          apply wpAny_bind
          apply wpAny_tests_nil
          apply wpAny_bind
          apply wpAny_bind
          apply wpAny_mono ht
          · intro x t ht
            apply wpAny_bind
            apply wpAny_mono ht
            · intro _ t ht
              exact wpAny_pure (wpAny_pure ⟨rfl, ht⟩)
            · exact fun _ _ e => e
          · exact fun _ _ e => e
        · exact fun _ _ e => e
      · exact fun _ _ e => e
  · exact fun _ _ e => e
/-- a list comprehension's loop, any target: by what holds between the turns -/
theorem loopL {target : Expr} {it acc : Value} {R : Result → Shared → Prop} (I : Nat → Shared → Prop)
    (turn : ∀ n s, I n s → TurnL prog w A env target elt it acc (R (.ok .next)) (fun s' => ∃ m, m < n ∧ I m s') (notedBy (model prog w) A env fun e s' => R (.error e) s') s)
    (n : Nat) (h : I n s) : codeAny (model prog w) A (.compLoop (.ListComp elt [⟨target, iter, [], 0⟩] scope pos) 0 it acc env) R s :=
  codeAny_loop rfl I (fun n s hI => wpAny_noted (wpAny_mono (turnL (turn n s hI)) (fun fin s' hf => by
    cases fin with
    | done f => obtain ⟨rfl, hD⟩ := hf; exact hD
    | again c => exact hf) fun _ _ e => e)) n h
end

/-! ## Heaps that grow -/
abbrev Keep (h h' : Heap) : Prop := ∀ b o, h.get? b = some o → h'.get? b = some o
theorem Keep.rfl {h : Heap} : Keep h h := fun _ _ e => e
theorem Keep.trans {a b c : Heap} (x : Keep a b) (y : Keep b c) : Keep a c := fun p o e => y p o (x p o e)

/-- what an activation allows -/
structure OkA (n : Nat) (A : Around) : Prop where
  hd : A.handled = none
  dp : A.depth + n < recursionLimit
  un : A.units + 10 * n < cLine
theorem OkA.deep {n : Nat} {A : Around} {env : Env} (x : OkA (n + 1) A) : OkA n (A.deeper env) :=
  ⟨x.hd, by have := x.dp; show A.depth + 1 + n < _; omega, by have := x.un; show A.units + 3 + 10 * n < _; omega⟩
theorem OkA.in1 {n : Nat} {A : Around} (x : OkA (n + 1) A) : OkA n A.in1 :=
  ⟨x.hd, by have := x.dp; show A.depth + n < _; omega, by have := x.un; show A.units + 1 + 10 * n < _; omega⟩
theorem OkA.le {n m : Nat} {A : Around} (x : OkA n A) (h : m ≤ n) : OkA m A :=
  ⟨x.hd, by have := x.dp; omega, by have := x.un; omega⟩

/-! ## Abstract values -/
inductive AV where
  | int (n : Int) | str (s : Str) | bool (b : Bool) | none | ref (a : Addr)
def AV.ok : AV → Value → Prop
  | .int n, v => ∃ t, v = .int n t
  | .str s, v => ∃ t, v = .str s t
  | .bool b, v => v = .bool b
  | .none, v => v = .none
  | .ref a, v => v = .ref a
/-- a value of this kind, in any heap -/
def is (a : AV) (v : Value) (_ : Heap) : Prop := a.ok v
abbrev isI (n : Int) := is (.int n)
abbrev isS (s : Str) := is (.str s)
abbrev isB (b : Bool) := is (.bool b)
theorem isI_mk (n : Int) (t : Tok) (h : Heap) : isI n (.int n t) h := ⟨t, rfl⟩
theorem isS_mk (n : Str) (t : Tok) (h : Heap) : isS n (.str n t) h := ⟨t, rfl⟩
theorem isB_mk (n : Bool) (h : Heap) : isB n (.bool n) h := Eq.refl _

section
variable {α β : Type} {prog : Program} {w : World} {A : Around} {h h₁ : Heap}

/-- from every heap that extends h the tree ends, raises nothing, keeps every old object, and what it hands back is as told (start heap, value, end heap) -/
def DenG (prog : Program) (w : World) (A : Around) (h : Heap) (t : Sem α) (T : Heap → α → Heap → Prop) : Prop :=
  ∀ (s : Shared) (E : Value → Shared → Prop), Keep h s.heap → wpAny (model prog w) A t (fun v s' => T s.heap v s'.heap ∧ Keeps s s') E s
abbrev Den (prog : Program) (w : World) (A : Around) (h : Heap) (t : Sem α) (T : α → Heap → Prop) : Prop := DenG prog w A h t fun _ => T

theorem Keeps.rfl' {s : Shared} : Keeps s s := ⟨s.heap, s.toks, Eq.refl _, fun _ _ e => e⟩
theorem Keeps.tok {s : Shared} (n : Nat) : Keeps s { s with toks := n } := ⟨s.heap, n, Eq.refl _, fun _ _ e => e⟩
theorem Keeps.keep {s s' : Shared} (x : Keeps s s') : Keep s.heap s'.heap := by obtain ⟨_, _, rfl, hk⟩ := x; exact hk
theorem Keeps.trans' {a b c : Shared} (x : Keeps a b) (y : Keeps b c) : Keeps a c := by
  obtain ⟨h', t', rfl, hk⟩ := x; obtain ⟨h'', t'', rfl, hk'⟩ := y
  exact ⟨h'', t'', Eq.refl _, fun b o e => hk' b o (hk b o e)⟩

theorem DenG.up {t : Sem α} {T : Heap → α → Heap → Prop} (d : DenG prog w A h t T) (hk : Keep h h₁) : DenG prog w A h₁ t T :=
  fun s E x => d s E (hk.trans x)
theorem DenG.mono {t : Sem α} {T U : Heap → α → Heap → Prop} (d : DenG prog w A h t T) (hTU : ∀ a v b, T a v b → U a v b) : DenG prog w A h t U :=
  fun s E x => wpAny_mono (d s E x) (fun v s' y => ⟨hTU _ _ _ y.1, y.2⟩) fun _ _ e => e
/-- as a continuation -/
theorem DenG.wp {t : Sem α} {T : Heap → α → Heap → Prop} {s : Shared} {Q : α → Shared → Prop} {E : Value → Shared → Prop} (d : DenG prog w A h t T) (hk : Keep h s.heap)
    (k : ∀ v h' tk, Keep s.heap h' → T s.heap v h' → Q v { s with heap := h', toks := tk }) : wpAny (model prog w) A t Q E s :=
  wpAny_mono (d s E hk) (fun v s' y => by obtain ⟨y1, h', tk, rfl, y2⟩ := y; exact k v h' tk y2 y1) fun _ _ e => e
theorem DenG.pure {a : α} {T : Heap → α → Heap → Prop} (hT : ∀ x, Keep h x → T x a x) : DenG prog w A h (pure a) T :=
  fun s _ hk => wpAny_pure ⟨hT _ hk, Keeps.rfl'⟩
theorem Den.bind {t : Sem α} {f : α → Sem β} {T : α → Heap → Prop} {U : β → Heap → Prop} (d : Den prog w A h t T) (k : ∀ a h', Keep h h' → T a h' → Den prog w A h' (f a) U) : Den prog w A h (t >>= f) U :=
  fun s E hk => wpAny_bind (d.wp hk fun v h' tk hk' hT => wpAny_mono (k v h' (hk.trans hk') hT { s with heap := h', toks := tk } E fun _ _ e => e)
    (fun b s' y => ⟨y.1, Keeps.trans' ⟨h', tk, Eq.refl _, hk'⟩ y.2⟩) fun _ _ e => e)
/-- a tree given by a rule of the library that hands on a token more -/
theorem Den.of {t : Sem α} {T : α → Heap → Prop} (k : ∀ (s : Shared) (Q : α → Shared → Prop) (E : Value → Shared → Prop), Keep h s.heap → (∀ v tk, T v s.heap → Q v { s with toks := tk }) → wpAny (model prog w) A t Q E s) : Den prog w A h t T :=
  fun s E hk => k s _ E hk fun _ tk hv => ⟨hv, Keeps.tok tk⟩

/-! ## Constants, operators -/
variable {env : Env} {k : Nat} {pos : Pos} {l r x : Expr} {a b : Int}
theorem den_int {i : Int} : Den prog w A h (eval (.Constant (.int i) k pos) env) (isI i) := Den.of fun s _ _ _ k => wpAny_Constant_int (k _ _ (isI_mk _ _ _))
theorem den_str {i : Str} : Den prog w A h (eval (.Constant (.str i) k pos) env) (isS i) := Den.of fun s _ _ _ k => wpAny_Constant_str (k _ _ (isS_mk _ _ _))
theorem den_bool {i : Bool} : Den prog w A h (eval (.Constant (.bool i) k pos) env) (isB i) := Den.of fun s _ _ _ k => wpAny_Constant_bool (k _ s.toks (isB_mk _ _))

theorem den_bin {op : Operator} {T U : Value → Heap → Prop} {V : Value → Heap → Prop} (hl : Den prog w A h (eval l env) T) (hr : ∀ h', Keep h h' → Den prog w A h' (eval r env) U)
    (hT : ∀ v h h', Keep h h' → T v h → T v h') (ho : ∀ u v h', Keep h h' → T u h' → U v h' → Den prog w A h' (binaryOp op u v) V) : Den prog w A h (eval (.BinOp l op r pos) env) V :=
  fun s E hk => wpAny_BinOp (hl.wp hk fun u h₁ tk₁ k₁ hu => (hr h₁ (hk.trans k₁)).wp (s := { s with heap := h₁, toks := tk₁ }) (fun _ _ e => e) fun v h₂ tk₂ k₂ hv =>
    wpAny_mono (ho u v h₂ ((hk.trans k₁).trans k₂) (hT _ _ _ k₂ hu) hv { s with heap := h₂, toks := tk₂ } E fun _ _ e => e)
      (fun _ _ y => ⟨y.1, Keeps.trans' ⟨h₂, tk₂, Eq.refl _, k₁.trans k₂⟩ y.2⟩) fun _ _ e => e)
theorem is_up {a : AV} : ∀ v h h', Keep h h' → is a v h → is a v h' := fun _ _ _ _ x => x

theorem den_binI {op : Operator} {c : Int} (hl : Den prog w A h (eval l env) (isI a)) (hr : Den prog w A h (eval r env) (isI b))
    (ho : ∀ t u (s : Shared) (Q : Value → Shared → Prop) E, Keep h s.heap → Q (.int c s.toks) { s with toks := s.toks + 1 } → wpAny (model prog w) A (binaryOp op (.int a t) (.int b u)) Q E s) : Den prog w A h (eval (.BinOp l op r pos) env) (isI c) :=
  den_bin hl (fun _ k => hr.up k) is_up fun u v h' k hu hv => by
    obtain ⟨t, rfl⟩ := hu; obtain ⟨t', rfl⟩ := hv
    exact Den.of fun s Q E kk q => ho t t' s Q E (k.trans kk) (q _ _ (isI_mk _ _ _))

theorem den_add (hl : Den prog w A h (eval l env) (isI a)) (hr : Den prog w A h (eval r env) (isI b)) : Den prog w A h (eval (.BinOp l .Add r pos) env) (isI (a + b)) :=
  den_binI hl hr fun _ _ _ _ _ _ q => add_int q
theorem den_sub (hl : Den prog w A h (eval l env) (isI a)) (hr : Den prog w A h (eval r env) (isI b)) : Den prog w A h (eval (.BinOp l .Sub r pos) env) (isI (a - b)) :=
  den_binI hl hr fun _ _ _ _ _ _ q => sub_int q
theorem den_mul (hl : Den prog w A h (eval l env) (isI a)) (hr : Den prog w A h (eval r env) (isI b)) (hm : IntMulOk a b) : Den prog w A h (eval (.BinOp l .Mult r pos) env) (isI (a * b)) :=
  den_binI hl hr fun _ _ _ _ _ _ q => mul_int q hm
theorem den_mod (hl : Den prog w A h (eval l env) (isI a)) (hr : Den prog w A h (eval r env) (isI b)) (hb : b ≠ 0) : Den prog w A h (eval (.BinOp l .Mod r pos) env) (isI (a.fmod b)) :=
  den_binI hl hr fun _ _ _ _ _ _ q => mod_int hb q
theorem den_div (hl : Den prog w A h (eval l env) (isI a)) (hr : Den prog w A h (eval r env) (isI b)) (hb : b ≠ 0) (hp : Builtin.divisionGoesByPylong a b = false) : Den prog w A h (eval (.BinOp l .FloorDiv r pos) env) (isI (a.fdiv b)) :=
  den_binI hl hr fun _ _ _ _ _ _ q => floordiv_int hb q (.inl hp)
theorem den_pow (hl : Den prog w A h (eval l env) (isI a)) (hr : Den prog w A h (eval r env) (isI b)) (h0 : 0 ≤ b) (h1 : b ≤ 1000000) (ha : a.natAbs < 2 ^ 64) : Den prog w A h (eval (.BinOp l .Pow r pos) env) (isI (a ^ b.toNat)) :=
  den_binI hl hr fun _ _ _ _ _ _ q => pow_int_small h0 h1 ha q
theorem den_shl (hl : Den prog w A h (eval l env) (isI a)) (hr : Den prog w A h (eval r env) (isI b)) (h0 : 0 ≤ b) (h1 : b ≤ 1000000) (ha : a.natAbs < 2 ^ 64) : Den prog w A h (eval (.BinOp l .LShift r pos) env) (isI (a * 2 ^ b.toNat)) :=
  den_binI hl hr fun _ _ _ _ _ _ q => lshift_int_small h0 h1 ha q
theorem den_shr (hl : Den prog w A h (eval l env) (isI a)) (hr : Den prog w A h (eval r env) (isI b)) (h0 : 0 ≤ b) : Den prog w A h (eval (.BinOp l .RShift r pos) env) (isI (a.fdiv (2 ^ b.toNat))) :=
  den_binI hl hr fun _ _ _ _ _ _ q => rshift_int h0 q
theorem den_and (hl : Den prog w A h (eval l env) (isI a)) (hr : Den prog w A h (eval r env) (isI b)) : Den prog w A h (eval (.BinOp l .BitAnd r pos) env) (isI (Builtin.bitAnd a b)) :=
  den_binI hl hr fun _ _ _ _ _ _ q => and_int q
theorem den_or (hl : Den prog w A h (eval l env) (isI a)) (hr : Den prog w A h (eval r env) (isI b)) : Den prog w A h (eval (.BinOp l .BitOr r pos) env) (isI (Builtin.bitOr a b)) :=
  den_binI hl hr fun _ _ _ _ _ _ q => or_int q
theorem den_neg (hl : Den prog w A h (eval l env) (isI a)) : Den prog w A h (eval (.UnaryOp .USub l pos) env) (isI (-a)) :=
  fun s E hk => wpAny_UnaryOp (hl.wp hk fun u h₁ tk₁ k₁ hu => by
    obtain ⟨t, rfl⟩ := hu
    exact neg_int ⟨isI_mk _ _ _, ⟨h₁, _, Eq.refl _, k₁⟩⟩)

theorem den_cmp {op : CmpOp} {T U : Value → Heap → Prop} {c : Bool} (hl : Den prog w A h (eval l env) T) (hr : ∀ h', Keep h h' → Den prog w A h' (eval r env) U)
    (hT : ∀ v h h', Keep h h' → T v h → T v h') (ho : ∀ u v h', Keep h h' → T u h' → U v h' → Den prog w A h' (compareOp op u v) (isB c))
    (hm : behindInMarks op r = false := by with_unfolding_all rfl) : Den prog w A h (eval (.Compare l [op] [r] pos) env) (isB c) :=
  fun s E hk => wpAny_Compare1 (hl.wp hk fun u h₁ tk₁ k₁ hu => (hr h₁ (hk.trans k₁)).wp (s := { s with heap := h₁, toks := tk₁ }) (fun _ _ e => e) fun v h₂ tk₂ k₂ hv =>
    wpAny_mono (ho u v h₂ ((hk.trans k₁).trans k₂) (hT _ _ _ k₂ hu) hv { s with heap := h₂, toks := tk₂ } E fun _ _ e => e)
      (fun _ _ y => ⟨y.1, Keeps.trans' ⟨h₂, tk₂, Eq.refl _, k₁.trans k₂⟩ y.2⟩) fun _ _ e => e) hm
/-- a test: the bool that an if sees -/
def isT (c : Bool) (b : Bool) (_ : Heap) : Prop := b = c
theorem den_test_cmp {op : CmpOp} {T U : Value → Heap → Prop} {c : Bool} {whole : Sem Value} (hl : Den prog w A h (eval l env) T) (hr : ∀ h', Keep h h' → Den prog w A h' (eval r env) U)
    (hT : ∀ v h h', Keep h h' → T v h → T v h') (ho : ∀ u v h', Keep h h' → T u h' → U v h' → Den prog w A h' (compareOp op u v) (isB c))
    (hm : behindInMarks op r = false := by with_unfolding_all rfl) : Den prog w A h (isTrue (.Compare l [op] [r] pos) env whole) (isT c) :=
  fun s E hk => wpAny_isTrue_Compare1 (hl.wp hk fun u h₁ tk₁ k₁ hu => (hr h₁ (hk.trans k₁)).wp (s := { s with heap := h₁, toks := tk₁ }) (fun _ _ e => e) fun v h₂ tk₂ k₂ hv =>
    wpAny_mono (ho u v h₂ ((hk.trans k₁).trans k₂) (hT _ _ _ k₂ hu) hv { s with heap := h₂, toks := tk₂ } E fun _ _ e => e)
      (fun v s' y => by obtain ⟨rfl, y2⟩ := y; exact wpAny_truthy_bool ⟨Eq.refl _, Keeps.trans' ⟨h₂, tk₂, Eq.refl _, k₁.trans k₂⟩ y2⟩) fun _ _ e => e) hm

/-- how two ints compare -/
def cmpI : CmpOp → Int → Int → Option Bool
  | .Eq, a, b => some (a == b)
  | .NotEq, a, b => some (a != b)
  | .Lt, a, b => some (decide (a < b))
  | .LtE, a, b => some (decide (a ≤ b))
  | .Gt, a, b => some (decide (b < a))
  | .GtE, a, b => some (decide (b ≤ a))
  | _, _, _ => none
theorem den_compareI {op : CmpOp} {c : Bool} (hc : cmpI op a b = some c) (u v : Value) (h' : Heap) (hu : isI a u h') (hv : isI b v h') : Den prog w A h' (compareOp op u v) (isB c) := by
  obtain ⟨t, rfl⟩ := hu; obtain ⟨t', rfl⟩ := hv
  refine Den.of fun s Q E kk q => ?_
  cases op <;> simp only [cmpI, Option.some.injEq, reduceCtorEq] at hc <;> subst hc
  · exact eq_int (q _ s.toks (isB_mk _ _))
  · exact ne_int (q _ s.toks (isB_mk _ _))
  · exact lt_int (q _ s.toks (isB_mk _ _))
  · exact le_int (q _ s.toks (isB_mk _ _))
  · exact gt_int (q _ s.toks (isB_mk _ _))
  · exact ge_int (q _ s.toks (isB_mk _ _))
theorem den_cmpI {op : CmpOp} {c : Bool} (hl : Den prog w A h (eval l env) (isI a)) (hr : Den prog w A h (eval r env) (isI b)) (hc : cmpI op a b = some c)
    (hm : behindInMarks op r = false := by with_unfolding_all rfl) : Den prog w A h (eval (.Compare l [op] [r] pos) env) (isB c) :=
  den_cmp hl (fun _ k => hr.up k) is_up (fun u v h' _ hu hv => den_compareI hc u v h' hu hv) hm
theorem test_cmpI {op : CmpOp} {c : Bool} {whole : Sem Value} (hl : Den prog w A h (eval l env) (isI a)) (hr : Den prog w A h (eval r env) (isI b)) (hc : cmpI op a b = some c)
    (hm : behindInMarks op r = false := by with_unfolding_all rfl) : Den prog w A h (isTrue (.Compare l [op] [r] pos) env whole) (isT c) :=
  den_test_cmp hl (fun _ k => hr.up k) is_up (fun u v h' _ hu hv => den_compareI hc u v h' hu hv) hm
theorem test_int {e : Expr} {whole : Sem Value} (hl : Den prog w A h whole (isI a)) (he : isTrue e env whole = (do let v ← whole; standAt e.pos; holding [v] (truthy v)) := by rfl) : Den prog w A h (isTrue e env whole) (isT (a != 0)) :=
  fun s E hk => wpAny_isTrue_value (hl.wp hk fun u h₁ tk₁ k₁ hu => by
    obtain ⟨t, rfl⟩ := hu
    exact truthy_int ⟨Eq.refl _, ⟨h₁, tk₁, Eq.refl _, k₁⟩⟩) he
theorem test_bool {e : Expr} {whole : Sem Value} {c : Bool} (hl : Den prog w A h whole (isB c)) (he : isTrue e env whole = (do let v ← whole; standAt e.pos; holding [v] (truthy v)) := by rfl) : Den prog w A h (isTrue e env whole) (isT c) :=
  fun s E hk => wpAny_isTrue_value (hl.wp hk fun u h₁ tk₁ k₁ hu => by
    cases hu
    exact wpAny_truthy_bool ⟨Eq.refl _, ⟨h₁, tk₁, Eq.refl _, k₁⟩⟩) he
theorem test_not {whole : Sem Value} {c : Bool} (hl : Den prog w A h (isTrue x env (eval x env)) (isT c)) : Den prog w A h (isTrue (.UnaryOp .Not x pos) env whole) (isT (!c)) :=
  fun s E hk => wpAny_isTrue_Not (hl.wp hk fun u h₁ tk₁ k₁ hu => by cases hu; exact ⟨Eq.refl _, ⟨h₁, tk₁, Eq.refl _, k₁⟩⟩)
theorem den_ifexp {test body orelse : Expr} {c : Bool} {T : Heap → Value → Heap → Prop} (ht : Den prog w A h (isTrue test env (eval test env)) (isT c))
    (hT : ∀ a a' v b, Keep a a' → T a' v b → T a v b)
    (h1 : c = true → DenG prog w A h (eval body env) T) (h2 : c = false → DenG prog w A h (eval orelse env) T) : DenG prog w A h (eval (.IfExp test body orelse pos) env) T :=
  fun s E hk => wpAny_IfExp (ht.wp hk fun u h₁ tk₁ k₁ hu => by
    cases hu
    cases c with
    | true => exact wpAny_mono (h1 (Eq.refl _) { s with heap := h₁, toks := tk₁ } E (hk.trans k₁)) (fun v s' y => ⟨hT _ _ _ _ k₁ y.1, Keeps.trans' ⟨h₁, tk₁, Eq.refl _, k₁⟩ y.2⟩) fun _ _ e => e
    | false => exact wpAny_mono (h2 (Eq.refl _) { s with heap := h₁, toks := tk₁ } E (hk.trans k₁)) (fun v s' y => ⟨hT _ _ _ _ k₁ y.1, Keeps.trans' ⟨h₁, tk₁, Eq.refl _, k₁⟩ y.2⟩) fun _ _ e => e)
end

/-! ## Variables of a frame -/
abbrev Vars := List (Str × AV)
def Lk (ρ : Vars) (x : Str) (a : AV) : Prop := ρ.lookup x = some a
theorem Lk.head {ρ : Vars} {x : Str} {a : AV} : Lk ((x, a) :: ρ) x a := by simp [Lk]
theorem Lk.tail {ρ : Vars} {x y : Str} {a b : AV} (n : (x == y) = false) (h : Lk ρ x a) : Lk ((y, b) :: ρ) x a := by
  simp only [Lk, List.lookup_cons, n]; exact h
def Sub (ρ' ρ : Vars) : Prop := ∀ x a, Lk ρ' x a → Lk ρ x a
theorem Sub.nil {ρ : Vars} : Sub [] ρ := fun _ _ h => by simp [Lk] at h
theorem Sub.cons {ρ' ρ : Vars} {x : Str} {a : AV} (h : Lk ρ x a) (t : Sub ρ' ρ) : Sub ((x, a) :: ρ') ρ := fun y b hy => by
  simp only [Lk, List.lookup_cons] at hy
  split at hy
  · rename_i e; cases hy; rw [eq_of_beq e]; exact h
  · exact t y b hy
theorem Sub.rfl {ρ : Vars} : Sub ρ ρ := fun _ _ h => h

/-- the names that the program finds where it stands -/
structure Gd (mg mb : Str → Option Value) (B : Heap) : Prop where
  g : B.Ns mainGlobals mg
  b : B.Ns builtinsNs mb
  lim : B.NoLimit
  bi : ∀ x : Str, x ≠ "__name__" → mb x = bootBuiltins x

structure Cx (mg mb : Str → Option Value) (B : Heap) (env : Env) (ρ : Vars) (h : Heap) : Prop where
  gd : Gd mg mb B
  kb : Keep B h
  fk : env.scope.kind = .function
  fg : env.globals = mainGlobals
  fb : env.builtins = builtinsNs
  loc : ∃ m, h.Ns env.locals m ∧ ∀ x a, env.kindOf x = some .local → Lk ρ x a → ∃ v, m x = some v ∧ a.ok v
  cel : ∀ x a c, env.cells.lookup x = some c → Lk ρ x a → ∃ v, h.IsCell c (some v) ∧ a.ok v

section
variable {mg mb : Str → Option Value} {B h h' : Heap} {env : Env} {ρ ρ' : Vars}
theorem Cx.up (C : Cx mg mb B env ρ h) (k : Keep h h') : Cx mg mb B env ρ h' :=
  ⟨C.gd, C.kb.trans k, C.fk, C.fg, C.fb, let ⟨m, n, l⟩ := C.loc; ⟨m, n.keeps k, l⟩, fun x a c e l => let ⟨v, y, z⟩ := C.cel x a c e l; ⟨v, y.keeps k, z⟩⟩
theorem Cx.sub (C : Cx mg mb B env ρ h) (k : Sub ρ' ρ) : Cx mg mb B env ρ' h :=
  ⟨C.gd, C.kb, C.fk, C.fg, C.fb, let ⟨m, n, l⟩ := C.loc; ⟨m, n, fun x a e y => l x a e (k x a y)⟩, fun x a c e l => C.cel x a c e (k x a l)⟩
end

/-- a name of the frame's own, in a cell or not -/
def ownVar (env : Env) (x : Str) : Bool := match env.kindOf x with
  | some .local => true
  | some .cell => (env.cells.lookup x).isSome
  | some .free => (env.cells.lookup x).isSome && !(x == ("__classdict__" : Str))
  | _ => false

section
variable {α β : Type} {prog : Program} {w : World} {A : Around} {mg mb : Str → Option Value} {B h h₁ : Heap} {env : Env} {ρ : Vars} {k : Nat} {pos p : Pos} {x : Str} {a : AV}

theorem den_load (C : Cx mg mb B env ρ h) (hl : Lk ρ x a) (ho : ownVar env x = true) : Den prog w A h (loadName env x) (is a) := by
  refine Den.of fun s Q E hk q => ?_
  have C' := C.up hk
  unfold ownVar at ho
  split at ho
  · rename_i hx
    obtain ⟨m, n, l⟩ := C'.loc
    obtain ⟨v, hv, hv'⟩ := l x a hx hl
    exact wpAny_loadName_local C.fk hx n hv (q v s.toks hv')
  · rename_i hx
    obtain ⟨c, hc⟩ := Option.isSome_iff_exists.mp ho
    obtain ⟨v, hv, hv'⟩ := C'.cel x a c hc hl
    exact wpAny_loadName_cell C.fk hx hc hv (q v s.toks hv')
  · rename_i hx
    simp only [Bool.and_eq_true, Bool.not_eq_true'] at ho
    obtain ⟨c, hc⟩ := Option.isSome_iff_exists.mp ho.1
    obtain ⟨v, hv, hv'⟩ := C'.cel x a c hc hl
    exact wpAny_loadName_free C.fk hx hc hv (q v s.toks hv') ho.2
  · cases ho
theorem den_name (C : Cx mg mb B env ρ h) (hl : Lk ρ x a) (ho : ownVar env x = true) (hd : (x == ("__debug__" : Str)) = false) : Den prog w A h (eval (.Name x pos) env) (is a) :=
  fun s E hk => wpAny_Name (den_load C hl ho s E hk) hd

/-- a name of the module, or of Python's own -/
theorem den_global {v : Value} (C : Cx mg mb B env ρ h) (hv : mg x = some v) (hx : env.kindOf x = some .globalImplicit) (hd : (x == ("__debug__" : Str)) = false) :
    Den prog w A h (eval (.Name x pos) env) (fun u _ => u = v) :=
  Den.of fun s Q E hk q => Name_function_global C.fk hx (loadGlobal_global (env := env) (C.fg ▸ C.gd.g.keeps (C.kb.trans hk)) hv (q v s.toks (Eq.refl _))) hd
theorem den_builtin {v : Value} (C : Cx mg mb B env ρ h) (hg : mg x = Option.none) (hv : bootBuiltins x = some v) (hn : x ≠ "__name__") (hx : env.kindOf x = some .globalImplicit) (hd : (x == ("__debug__" : Str)) = false) :
    Den prog w A h (eval (.Name x pos) env) (fun u _ => u = v) :=
  Den.of fun s Q E hk q => Name_function_global C.fk hx (loadGlobal_builtin (env := env) (C.fg ▸ C.gd.g.keeps (C.kb.trans hk)) hg (C.fb ▸ C.gd.b.keeps (C.kb.trans hk)) ((C.gd.bi x hn).trans hv) (q v s.toks (Eq.refl _))) hd

/-! ## Arguments and calls -/
abbrev DenA (prog : Program) (w : World) (A : Around) (h : Heap) (env : Env) (pos : Pos) (es : List Expr) (T : List Value → Heap → Prop) : Prop := Den prog w A h (spliced (backTo pos (starEach es env))) T
theorem args_none : DenA prog w A h env pos [] (fun vs _ => vs = []) := fun s _ _ => args_nil ⟨Eq.refl _, Keeps.rfl'⟩
theorem args_more {e : Expr} {rest : List Expr} {T : Value → Heap → Prop} {U : List Value → Heap → Prop} (d : Den prog w A h (eval e env) T) (r : DenA prog w A h env pos rest U) (hT : ∀ v h h', Keep h h' → T v h → T v h')
    (he : starEach (e :: rest) env = (false, eval e env) :: starEach rest env := by rfl) : DenA prog w A h env pos (e :: rest) (fun vs h' => ∃ v vs', vs = v :: vs' ∧ T v h' ∧ U vs' h') :=
  fun s E hk => args_cons (d.wp hk fun v h₁ tk₁ k₁ hv => DenG.wp (r.up (hk.trans k₁)) (s := { s with heap := h₁, toks := tk₁ }) (fun _ _ e => e) fun vs h₂ tk₂ k₂ hvs =>
    ⟨⟨v, vs, Eq.refl _, hT _ _ _ k₂ hv, hvs⟩, ⟨h₂, tk₂, Eq.refl _, k₁.trans k₂⟩⟩) he


def ArgsT : List (Value → Heap → Prop) → List Value → Heap → Prop
  | [] => fun vs _ => vs = []
  | T :: Ts => fun vs h => ∃ v vs', vs = v :: vs' ∧ T v h ∧ ArgsT Ts vs' h
theorem argsT_none : DenA prog w A h env pos [] (ArgsT []) := args_none
theorem argsT_more {e : Expr} {rest : List Expr} {T : Value → Heap → Prop} {Ts : List (Value → Heap → Prop)} (d : Den prog w A h (eval e env) T) (r : DenA prog w A h env pos rest (ArgsT Ts)) (hT : ∀ v h h', Keep h h' → T v h → T v h')
    (he : starEach (e :: rest) env = (false, eval e env) :: starEach rest env) : DenA prog w A h env pos (e :: rest) (ArgsT (T :: Ts)) := args_more d r hT he
theorem ArgsT.one {T : Value → Heap → Prop} {vs : List Value} {h : Heap} (x : ArgsT [T] vs h) : ∃ v, vs = [v] ∧ T v h := let ⟨v, _, e, t, e'⟩ := x; ⟨v, by rw [e, e'], t⟩
theorem ArgsT.two {T U : Value → Heap → Prop} {vs : List Value} {h : Heap} (x : ArgsT [T, U] vs h) : ∃ v u, vs = [v, u] ∧ T v h ∧ U u h := let ⟨v, _, e, t, u, _, e', t', e''⟩ := x; ⟨v, u, by rw [e, e', e''], t, t'⟩
theorem ArgsT.three {T U V : Value → Heap → Prop} {vs : List Value} {h : Heap} (x : ArgsT [T, U, V] vs h) : ∃ v u z, vs = [v, u, z] ∧ T v h ∧ U u h ∧ V z h := let ⟨v, _, e, t, y⟩ := x; let ⟨a, b, e', t', t''⟩ := ArgsT.two y; ⟨v, a, b, by rw [e, e'], t, t', t''⟩
theorem ArgsT.four {T U V X : Value → Heap → Prop} {vs : List Value} {h : Heap} (x : ArgsT [T, U, V, X] vs h) : ∃ v u z y, vs = [v, u, z, y] ∧ T v h ∧ U u h ∧ V z h ∧ X y h := let ⟨v, _, e, t, y⟩ := x; let ⟨a, b, c, e', t', t'', t3⟩ := ArgsT.three y; ⟨v, a, b, c, by rw [e, e'], t, t', t'', t3⟩

/-- a call of a name: the name's value, the arguments, then what a call of it does -/
theorem den_call {func e : Expr} {rest : List Expr} {f : Value} {T : List Value → Heap → Prop} {U : Heap → Value → Heap → Prop} (hU : ∀ a a' v b, Keep a a' → U a' v b → U a v b)
    (hf : Den prog w A h (eval func env) (fun u _ => u = f)) (ha : DenA prog w A h env pos (e :: rest) T)
    (hkeep : ∀ h', Keep h h' → ∃ k, (k = Keeper.frame ∨ k = Keeper.machine ∨ k = Keeper.boundFrame) ∧ Looks (model prog w) h' (keeperOf f) k)
    (hc : ∀ vs h', Keep h h' → T vs h' → DenG prog w A h' (call f vs) U)
    (hE : eval (.Call func (e :: rest) [] pos) env = (do callWith pos (← eval func env) [] (backTo pos (starEach (e :: rest) env)) (backToKw pos (keywordEach [] env))) := by rfl)
    (he : starEach (e :: rest) env = (false, eval e env) :: starEach rest env := by rfl) (hplain : (backTo pos (starEach rest env)).any (·.1) = false := by rfl) :
    DenG prog w A h (eval (.Call func (e :: rest) [] pos) env) U := by
  intro s E hk
  refine Call_ (hf.wp hk fun u h₁ tk₁ k₁ hu => ?_) hE
  subst hu
  have hk₁ := hk.trans k₁
  have ha' := ha
  rw [DenA, he] at ha'
  rw [he]
  refine callWith_of (P := fun h' => Keep h h') (by show ((false || (backTo pos (starEach rest env)).any (·.1)) || false) = false; rw [hplain]; rfl) (fun h' p => hkeep h' p) (evalArgs_plain ?_)
  refine DenG.wp (ha'.up hk₁) (s := { s with heap := h₁, toks := tk₁ }) (fun _ _ e => e) fun vs h₂ tk₂ k₂ hvs => ⟨hk₁.trans k₂, ?_⟩
  exact wpAny_mono (hc vs h₂ (hk₁.trans k₂) hvs { s with heap := h₂, toks := tk₂ } E fun _ _ e => e) (fun v s' y => ⟨hU _ _ _ _ (k₁.trans k₂) y.1, Keeps.trans' ⟨h₂, tk₂, Eq.refl _, k₁.trans k₂⟩ y.2⟩) fun _ _ e => e
theorem den_call0 {func : Expr} {f : Value} {U : Heap → Value → Heap → Prop} (hU : ∀ a a' v b, Keep a a' → U a' v b → U a v b)
    (hf : Den prog w A h (eval func env) (fun u _ => u = f))
    (hkeep : ∀ h', Keep h h' → ∃ k, (k = Keeper.frame ∨ k = Keeper.machine ∨ k = Keeper.boundFrame) ∧ Looks (model prog w) h' (keeperOf f) k)
    (hc : ∀ h', Keep h h' → DenG prog w A h' (call f []) U)
    (hE : eval (.Call func [] [] pos) env = (do callWith pos (← eval func env) [] (backTo pos (starEach [] env)) (backToKw pos (keywordEach [] env))) := by rfl) :
    DenG prog w A h (eval (.Call func [] [] pos) env) U := by
  intro s E hk
  refine Call_ (hf.wp hk fun u h₁ tk₁ k₁ hu => ?_) hE
  subst hu
  have hk₁ := hk.trans k₁
  refine callWith_of (P := fun h' => Keep h h') rfl (fun h' p => hkeep h' p) (evalArgs_nil3 ⟨hk₁, ?_⟩)
  exact wpAny_mono (hc h₁ hk₁ { s with heap := h₁, toks := tk₁ } E fun _ _ e => e) (fun v s' y => ⟨hU _ _ _ _ k₁ y.1, Keeps.trans' ⟨h₁, tk₁, Eq.refl _, k₁⟩ y.2⟩) fun _ _ e => e

theorem keeper_builtin {id : String} (h' : Heap) : ∃ k, (k = Keeper.frame ∨ k = Keeper.machine ∨ k = Keeper.boundFrame) ∧ Looks (model prog w) h' (keeperOf (.builtin id)) k := ⟨.machine, .inr (.inl (Eq.refl _)), .now⟩
theorem keeper_type {id : String} (h' : Heap) : ∃ k, (k = Keeper.frame ∨ k = Keeper.machine ∨ k = Keeper.boundFrame) ∧ Looks (model prog w) h' (keeperOf (.type id)) k := ⟨.machine, .inr (.inl (Eq.refl _)), .now⟩
theorem keeper_fn {f : Addr} {o : Obj} {fd : FuncData} {h' : Heap} (ho : h'.get? f = some o) (hd : o.data = .func fd) : ∃ k, (k = Keeper.frame ∨ k = Keeper.machine ∨ k = Keeper.boundFrame) ∧ Looks (model prog w) h' (keeperOf (.ref f)) k := by
  refine ⟨.frame, .inl (Eq.refl _), (Looks.ld (part := none) ho).andThen ?_⟩
  rw [hd]; exact .now

/-- a function of the text, where it stands -/
structure Fn (B : Heap) (f : Addr) (name : Str) (params : Arguments) (body : List Stmt) (scope : Scope) : Prop where
  ex : ∃ o pm cd doc, B.get? f = some o ∧ o.data = .func (docDef name params body scope pm cd doc) ∧ B.CodeRec cd name
end

/-! ## Objects: lists and tuples of abstract values, list iterators -/
abbrev Oks (vs : List Value) (xs : List AV) : Prop := Paired (fun (v : Value) (a : AV) => a.ok v) vs xs
inductive MO where
  | list (p : Bool) (xs : List AV)
  | tup (xs : List AV)
  | iter (l : Addr) (i : Nat)
abbrev MO.ints (p : Bool) (ns : List Int) : MO := .list p (ns.map .int)
abbrev MO.strs (p : Bool) (ns : List Str) : MO := .list p (ns.map .str)
def LP (p : Bool) (h : Heap) (a : Addr) (items : Array Value) : Prop := h.IsList a items ∧ (p = true → h.PlainList a items)
def Is (h : Heap) (a : Addr) : MO → Prop
  | .list p xs => ∃ vs : List Value, LP p h a vs.toArray ∧ Oks vs xs
  | .tup xs => ∃ vs : List Value, h.IsTuple a vs.toArray ∧ Oks vs xs
  | .iter l i => h.IsListIter a l i

theorem Is.at {h h' : Heap} {a : Addr} {m : MO} (x : Is h a m) (k : ∀ o, h.get? a = some o → h'.get? a = some o) : Is h' a m := by
  cases m with
  | list p xs => obtain ⟨vs, l, o⟩ := x; exact ⟨vs, ⟨l.1.at k, fun e => (l.2 e).at k⟩, o⟩
  | tup xs => obtain ⟨vs, ⟨o, ho, r⟩, q⟩ := x; exact ⟨vs, ⟨o, k _ ho, r⟩, q⟩
  | iter l i => exact Heap.IsListIter.at x k
theorem Is.up {h h' : Heap} {a : Addr} {m : MO} (x : Is h a m) (k : Keep h h') : Is h' a m := x.at (k a)
theorem Is.alive {h : Heap} {a : Addr} {m : MO} (x : Is h a m) : ∃ o, h.get? a = some o := by
  cases m with
  | list p xs => obtain ⟨vs, l, o⟩ := x; obtain ⟨o, ho, _⟩ := l.1; exact ⟨o, ho⟩
  | tup xs => obtain ⟨vs, ⟨o, ho, r⟩, q⟩ := x; exact ⟨o, ho⟩
  | iter l i => obtain ⟨o, ho, _⟩ := x; exact ⟨o, ho⟩
/-- an object of this kind is neither a namespace nor a cell -/
theorem Is.not_ns {h : Heap} {a : Addr} {m : MO} {f : Str → Option Value} (x : Is h a m) (n : h.Ns a f) : False := by
  obtain ⟨o, es, ep, ho, hd, _⟩ := n
  cases m with
  | list p xs => obtain ⟨vs, l, _⟩ := x; obtain ⟨o', ho', _, _, hd'⟩ := l.1; rw [ho] at ho'; cases ho'; rw [hd] at hd'; cases hd'
  | tup xs => obtain ⟨vs, ⟨o', ho', _, _, hd'⟩, q⟩ := x; rw [ho] at ho'; cases ho'; rw [hd] at hd'; cases hd'
  | iter l i => obtain ⟨o', ho', _, hd'⟩ := x; rw [ho] at ho'; cases ho'; rw [hd] at hd'; cases hd'
theorem Is.not_cell {h : Heap} {a : Addr} {m : MO} {f : Option Value} (x : Is h a m) (n : h.IsCell a f) : False := by
  obtain ⟨o, ho, hd⟩ := n
  cases m with
  | list p xs => obtain ⟨vs, l, _⟩ := x; obtain ⟨o', ho', _, _, hd'⟩ := l.1; rw [ho] at ho'; cases ho'; rw [hd] at hd'; cases hd'
  | tup xs => obtain ⟨vs, ⟨o', ho', _, _, hd'⟩, q⟩ := x; rw [ho] at ho'; cases ho'; rw [hd] at hd'; cases hd'
  | iter l i => obtain ⟨o', ho', _, hd'⟩ := x; rw [ho] at ho'; cases ho'; rw [hd] at hd'; cases hd'

theorem none_down {a a' : Heap} {c : Addr} (k : Keep a a') (n : a'.get? c = none) : a.get? c = none := by
  cases q : a.get? c with
  | none => rfl
  | some o => rw [k _ _ q] at n; cases n
/-- a reference to such an object -/
def isO (m : MO) (v : Value) (h : Heap) : Prop := ∃ a, v = .ref a ∧ Is h a m
def isN (m : MO) (h₀ : Heap) (v : Value) (h : Heap) : Prop := ∃ a, v = .ref a ∧ h₀.get? a = none ∧ Is h a m
theorem isO_up {m : MO} : ∀ v h h', Keep h h' → isO m v h → isO m v h' := fun _ _ _ k ⟨a, e, x⟩ => ⟨a, e, x.up k⟩
theorem isN_down {m : MO} : ∀ a a' v b, Keep a a' → isN m a' v b → isN m a v b := fun a a' v b k ⟨c, e, n, x⟩ => ⟨c, e, none_down k n, x⟩
theorem isN_O {m : MO} {a : Heap} {v : Value} {b : Heap} (x : isN m a v b) : isO m v b := let ⟨c, e, _, y⟩ := x; ⟨c, e, y⟩
theorem DenG.old {prog : Program} {w : World} {A : Around} {h : Heap} {t : Sem Value} {m : MO} (d : DenG prog w A h t (isN m)) : Den prog w A h t (isO m) := d.mono fun _ _ _ => isN_O

/-! ## The state of a frame -/
abbrev Led := List (Addr × MO)
def own (env : Env) (μ : Led) : List Addr := env.locals :: (env.cells.map (·.2) ++ μ.map (·.1))
structure St (mg mb : Str → Option Value) (B H : Heap) (env : Env) (ρ : Vars) (μ : Led) (h : Heap) : Prop where
  cx : Cx mg mb B env ρ h
  bh : Keep B H
  keep : Keep H h
  nb : ∀ b ∈ own env μ, H.get? b = none
  led : ∀ p ∈ μ, Is h p.1 p.2
  nd : (own env μ).Nodup
  cells : ∀ c ∈ env.cells.map (·.2), ∃ v, h.IsCell c v

abbrev Sm (σ : Shared) (h : Heap) (t : Nat) : Shared := { σ with heap := h, toks := t }

section
variable {mg mb : Str → Option Value} {B H H' h h' : Heap} {env : Env} {ρ ρ' : Vars} {μ μ' : Led}
theorem St.up (S : St mg mb B H env ρ μ h) (k : Keep h h') : St mg mb B H env ρ μ h' :=
  ⟨S.cx.up k, S.bh, S.keep.trans k, S.nb, fun p hp => (S.led p hp).up k, S.nd, fun c hc => let ⟨v, y⟩ := S.cells c hc; ⟨v, y.keeps k⟩⟩
theorem St.sub (S : St mg mb B H env ρ μ h) (k : Sub ρ' ρ) : St mg mb B H env ρ' μ h := ⟨S.cx.sub k, S.bh, S.keep, S.nb, S.led, S.nd, S.cells⟩
theorem St.base (S : St mg mb B H env ρ μ h) (k : Keep H' H) (b : Keep B H') : St mg mb B H' env ρ μ h :=
  ⟨S.cx, b, k.trans S.keep, fun c hc => none_down k (S.nb c hc), S.led, S.nd, S.cells⟩
theorem St.alive (S : St mg mb B H env ρ μ h) {b : Addr} (hb : b ∈ own env μ) : ∃ o, h.get? b = some o := by
  rcases List.mem_cons.mp hb with rfl | hb
  · obtain ⟨m, ⟨o, _, _, ho, _⟩, _⟩ := S.cx.loc; exact ⟨o, ho⟩
  · rcases List.mem_append.mp hb with hb | hb
    · obtain ⟨v, o, ho, _⟩ := S.cells b hb; exact ⟨o, ho⟩
    · obtain ⟨p, hp, rfl⟩ := List.mem_map.mp hb
      exact (S.led p hp).alive
/-- everything that is not the frame's own, frozen -/
theorem St.rebase (S : St mg mb B H env ρ μ h) : ∃ H', Keep H H' ∧ St mg mb B H' env ρ μ h ∧ ∀ a o, h.get? a = some o → a ∉ own env μ → H'.get? a = some o := by
  have k : Keep H (hideAll h (own env μ)) := fun b o e => hideAll_get _ (S.keep b o e) fun m => by have := S.nb b m; rw [e] at this; cases this
  exact ⟨hideAll h (own env μ), k, ⟨S.cx, S.bh.trans k, fun b o e => of_hideAll _ e, fun b hb => hideAll_none _ hb, S.led, S.nd, S.cells⟩, fun a o e n => hideAll_get _ e n⟩
theorem St.drop (S : St mg mb B H env ρ (μ ++ μ') h) : St mg mb B H env ρ μ' h := by
  have sub : ∀ b, b ∈ own env μ' → b ∈ own env (μ ++ μ') := fun b hb => by
    simp only [own, List.mem_cons, List.mem_append, List.map_append] at hb ⊢
    rcases hb with h | h | h
    · exact .inl h
    · exact .inr (.inl h)
    · exact .inr (.inr (.inr h))
  refine ⟨S.cx, S.bh, S.keep, fun b hb => S.nb b (sub b hb), fun p hp => S.led p (List.mem_append_right _ hp), ?_, S.cells⟩
  have := S.nd
  simp only [own, List.map_append] at this ⊢
  refine List.Nodup.sublist (.cons_cons _ (List.Sublist.append (List.Sublist.refl _) ?_)) this
  exact List.sublist_append_right _ _
theorem St.ne_ns (S : St mg mb B H env ρ μ h) {a : Addr} {m : MO} (x : Is h a m) : a ≠ env.locals := by
  rintro rfl; obtain ⟨f, n, _⟩ := S.cx.loc; exact x.not_ns n
theorem St.ne_cell (S : St mg mb B H env ρ μ h) {a : Addr} {m : MO} (x : Is h a m) : a ∉ env.cells.map (·.2) := fun hc => by
  obtain ⟨v, n⟩ := S.cells a hc; exact x.not_cell n
/-- a new object that the frame may change -/
theorem St.add (S : St mg mb B H env ρ μ h) {a : Addr} {m : MO} (k : Keep h h') (hn : h.get? a = none) (x : Is h' a m) : St mg mb B H env ρ ((a, m) :: μ) h' := by
  have S' := S.up k
  have ha : a ∉ own env μ := fun q => by obtain ⟨o, ho⟩ := S.alive q; rw [hn] at ho; cases ho
  have hH : H.get? a = none := by
    cases q : H.get? a with
    | none => rfl
    | some o => rw [S.keep _ _ q] at hn; cases hn
  have e : ∀ b, b ∈ own env ((a, m) :: μ) ↔ b = a ∨ b ∈ own env μ := fun b => by
    simp only [own, List.mem_cons, List.mem_append, List.map_cons]
    constructor
    · rintro (h | h | h | h)
      · exact .inr (.inl h)
      · exact .inr (.inr (.inl h))
      · exact .inl h
      · exact .inr (.inr (.inr h))
    · rintro (h | h | h | h)
      · exact .inr (.inr (.inl h))
      · exact .inl h
      · exact .inr (.inl h)
      · exact .inr (.inr (.inr h))
  refine ⟨S'.cx, S.bh, S'.keep, fun b hb => ?_, fun p hp => ?_, ?_, S'.cells⟩
  · rcases (e b).mp hb with rfl | hb
    · exact hH
    · exact S.nb b hb
  · rcases List.mem_cons.mp hp with rfl | hp
    · exact x
    · exact S'.led p hp
  · have h1 := S.nd
    simp only [own, List.map_cons] at h1 ha ⊢
    have hp : (env.locals :: (env.cells.map (·.2) ++ a :: μ.map (·.1))).Perm (a :: env.locals :: (env.cells.map (·.2) ++ μ.map (·.1))) :=
      (List.Perm.cons _ List.perm_middle).trans (List.Perm.swap _ _ _)
    exact hp.nodup_iff.mpr (List.nodup_cons.mpr ⟨ha, h1⟩)
end

/-- a name that the frame may store into -/
def ownStore (env : Env) (x : Str) : Bool := match env.kindOf x with
  | some .local => !(env.cells.lookup x).isSome
  | some .cell => (env.cells.lookup x).isSome
  | _ => false

section
variable {prog : Program} {w : World} {A : Around} {mg mb : Str → Option Value} {B H h : Heap} {env : Env} {ρ : Vars} {μ : Led} {σ : Shared} {t : Nat} {x : Str} {a : AV} {v : Value} {E : Value → Shared → Prop}

theorem mem_cells' {ρ : Vars} {x : Str} {a : AV} (h : Lk ρ x a) : (x, a) ∈ ρ := by
  unfold Lk at h
  induction ρ with
  | nil => simp at h
  | cons p r ih =>
    obtain ⟨y, d⟩ := p
    simp only [List.lookup_cons] at h
    split at h
    · rename_i e; cases h; rw [eq_of_beq e]; exact .head _
    · exact .tail _ (ih h)
theorem mem_cells {l : List (Str × Addr)} {x : Str} {c : Addr} (h : l.lookup x = some c) : (x, c) ∈ l := by
  induction l with
  | nil => simp at h
  | cons p r ih =>
    obtain ⟨y, d⟩ := p
    simp only [List.lookup_cons] at h
    split at h
    · rename_i e; cases h; rw [eq_of_beq e]; exact .head _
    · exact .tail _ (ih h)
theorem cell_inj {l : List (Str × Addr)} {x y : Str} {c : Addr} (n : (l.map (·.2)).Nodup) (hx : (x, c) ∈ l) (hy : (y, c) ∈ l) : x = y := by
  induction l with
  | nil => cases hx
  | cons p r ih =>
    simp only [List.map_cons, List.nodup_cons] at n
    rcases List.mem_cons.mp hx with rfl | hx'
    · rcases List.mem_cons.mp hy with e | hy'
      · exact (Prod.mk.inj e).1.symm ▸ rfl
      · exact absurd (List.mem_map.mpr ⟨_, hy', rfl⟩) n.1
    · rcases List.mem_cons.mp hy with rfl | hy'
      · exact absurd (List.mem_map.mpr ⟨_, hx', rfl⟩) n.1
      · exact ih n.2 hx' hy'

theorem st_store {Q : Unit → Shared → Prop} (S : St mg mb B H env ρ μ h) (ho : ownStore env x = true) (hv : a.ok v)
    (k : ∀ h' t', St mg mb B H env ((x, a) :: ρ) μ h' → (∀ b o, b ∉ own env μ → h.get? b = some o → h'.get? b = some o) → Q () (Sm σ h' t')) : wpAny (model prog w) A (storeName env x v) Q E (Sm σ h t) := by
  have hnd := S.nd
  simp only [own, List.nodup_cons] at hnd
  have hLc : env.locals ∉ env.cells.map (·.2) := fun q => hnd.1 (List.mem_append_left _ q)
  have hLm : env.locals ∉ μ.map (·.1) := fun q => hnd.1 (List.mem_append_right _ q)
  have hcn := (List.nodup_append.mp hnd.2).1
  have hcm : ∀ c ∈ env.cells.map (·.2), c ∉ μ.map (·.1) := fun c hc q => (List.nodup_append.mp hnd.2).2.2 c hc c q rfl
  unfold ownStore at ho
  split at ho
  · rename_i hx
    obtain ⟨m, n, l⟩ := S.cx.loc
    have hp : (env.scope.kind == .class || (env.scope.kind == .module && env.locals != env.globals)) = false := by rw [S.cx.fk]; rfl
    refine wpAny_storeName_local (s := Sm σ h t) hx n (fun h' hn' hs => ?_) hp
    have hK : ∀ b o, b ≠ env.locals → h.get? b = some o → h'.get? b = some o := fun b o hb e => (hs.2 b hb).trans e
    have hkH : Keep H h' := fun b o e => hK b o (fun q => by have := S.nb b (by rw [q]; exact .head _); rw [e] at this; cases this) (S.keep b o e)
    refine k h' _ ⟨⟨S.cx.gd, S.bh.trans hkH, S.cx.fk, S.cx.fg, S.cx.fb, ⟨_, hn', fun y b hy hl => ?_⟩, fun y b c hc hl => ?_⟩, S.bh, hkH, S.nb, fun p hp => (S.led p hp).at fun o e => hK _ o (fun q => hLm (q ▸ List.mem_map.mpr ⟨p, hp, rfl⟩)) e, S.nd, fun c hc => ?_⟩ fun b o hb e => hK b o (fun q => hb (q ▸ .head _)) e
    · simp only [Lk, List.lookup_cons] at hl
      split at hl
      · rename_i e; cases hl; have := eq_of_beq e; subst this; exact ⟨v, by simp, hv⟩
      · rename_i e
        obtain ⟨u, hu, hu'⟩ := l y b hy hl
        refine ⟨u, ?_, hu'⟩
        have : y ≠ x := fun q => by subst q; simp at e
        simp [this, hu]
    · simp only [Lk, List.lookup_cons] at hl
      split at hl
      · rename_i e; have := eq_of_beq e; subst this
        rw [hc] at ho; simp at ho
      · obtain ⟨u, hu, hu'⟩ := S.cx.cel y b c hc hl
        exact ⟨u, hu.sameBut hs (fun q => hLc (q ▸ List.mem_map.mpr ⟨_, mem_cells hc, rfl⟩)), hu'⟩
    · obtain ⟨u, hu⟩ := S.cells c hc
      exact ⟨u, hu.sameBut hs (fun q => hLc (q ▸ hc))⟩
  · rename_i hx
    obtain ⟨c, hc⟩ := Option.isSome_iff_exists.mp ho
    have hcm' : c ∈ env.cells.map (·.2) := List.mem_map.mpr ⟨_, mem_cells hc, rfl⟩
    obtain ⟨u₀, hu₀⟩ := S.cells c hcm'
    refine wpAny_storeName_cell (s := Sm σ h t) S.cx.fk hx hc hu₀ fun h' hv' hs => ?_
    have hK : ∀ b o, b ≠ c → h.get? b = some o → h'.get? b = some o := fun b o hb e => (hs.2 b hb).trans e
    have hco : c ∈ own env μ := List.mem_cons_of_mem _ (List.mem_append_left _ hcm')
    have hkH : Keep H h' := fun b o e => hK b o (fun q => by have := S.nb b (q ▸ hco); rw [e] at this; cases this) (S.keep b o e)
    have hLc' : env.locals ≠ c := fun q => hLc (q ▸ hcm')
    refine k h' t ⟨⟨S.cx.gd, S.bh.trans hkH, S.cx.fk, S.cx.fg, S.cx.fb, ?_, fun y b d hd hl => ?_⟩, S.bh, hkH, S.nb, fun p hp => (S.led p hp).at fun o e => hK _ o (fun q => hcm c hcm' (q ▸ List.mem_map.mpr ⟨p, hp, rfl⟩)) e, S.nd, fun d hd => ?_⟩ fun b o hb e => hK b o (fun q => hb (q ▸ hco)) e
    · obtain ⟨m, n, l⟩ := S.cx.loc
      refine ⟨m, n.sameBut hs hLc', fun y b hy hl => ?_⟩
      simp only [Lk, List.lookup_cons] at hl
      split at hl
      · rename_i e; have := eq_of_beq e; subst this; rw [hx] at hy; cases hy
      · exact l y b hy hl
    · simp only [Lk, List.lookup_cons] at hl
      split at hl
      · rename_i e; cases hl; have := eq_of_beq e; subst this
        rw [hc] at hd; cases hd
        exact ⟨v, hv', hv⟩
      · rename_i e
        obtain ⟨u, hu, hu'⟩ := S.cx.cel y b d hd hl
        have hdc : d ≠ c := fun q => by
          subst q
          have := cell_inj hcn (mem_cells hd) (mem_cells hc)
          subst this; simp at e
        exact ⟨u, hu.sameBut hs hdc, hu'⟩
    · by_cases hdc : d = c
      · subst hdc; exact ⟨_, hv'⟩
      · obtain ⟨u, hu⟩ := S.cells d hd
        exact ⟨u, hu.sameBut hs hdc⟩
  · cases ho
end

/-! ## Calls of the text's own functions -/
/-- the frame of a function with this table of names -/
structure FEnv (scope : Scope) (env : Env) : Prop where
  sc : env.scope = scope
  cl : ∃ n, env.cells = cellsFrom n scope.names []
  fr : env.frame = some env.locals
def varOk (scope : Scope) (x : Str) : Bool := match scope.names.lookup x with
  | some .local => true
  | some .cell => true
  | _ => false
def storeOk (scope : Scope) (x : Str) : Bool := match scope.names.lookup x with
  | some .local => !(scope.names.any fun p => p.1 == x && p.2 == .cell)
  | some .cell => true
  | _ => false
def globOk (scope : Scope) (x : Str) : Bool := scope.names.lookup x == some .globalImplicit
theorem cellsFrom_mem {x : Str} : ∀ (names : List (Str × NameKind)) (n : Nat) (acc : List (Str × Addr)), ((cellsFrom n names acc).lookup x).isSome = true → (names.any fun p => p.1 == x && p.2 == .cell) = true ∨ (acc.lookup x).isSome = true
  | [], _, acc, h => .inr h
  | (y, k) :: r, n, acc, h => by
    unfold cellsFrom at h
    split at h
    · rename_i hk
      rcases cellsFrom_mem r _ _ h with h | h
      · exact .inl (by simp [h])
      · simp only [List.lookup_cons] at h
        split at h
        · rename_i e; exact .inl (by simp [eq_of_beq e, hk])
        · exact .inr h
    · rcases cellsFrom_mem r _ _ h with h | h
      · exact .inl (by simp [h])
      · exact .inr h
theorem FEnv.var {scope : Scope} {env : Env} {x : Str} (F : FEnv scope env) (h : varOk scope x = true) : ownVar env x = true := by
  obtain ⟨n, hc⟩ := F.cl
  unfold varOk at h; unfold ownVar
  rw [show env.kindOf x = scope.names.lookup x from by show env.scope.names.lookup x = _; rw [F.sc]]
  split at h
  · rename_i e; rw [e]
  · rename_i e; rw [e]; simp only; rw [hc]; exact cells_some _ _ _ (.inl e)
  · cases h
theorem FEnv.store {scope : Scope} {env : Env} {x : Str} (F : FEnv scope env) (h : storeOk scope x = true) : ownStore env x = true := by
  obtain ⟨n, hc⟩ := F.cl
  unfold storeOk at h; unfold ownStore
  rw [show env.kindOf x = scope.names.lookup x from by show env.scope.names.lookup x = _; rw [F.sc]]
  split at h
  · rename_i e
    (try rw [e]); (try simp only); rw [hc]
    cases q : ((cellsFrom n scope.names []).lookup x).isSome with
    | false => rfl
    | true =>
      rcases cellsFrom_mem _ _ _ q with r | r
      · rw [r] at h; cases h
      · simp at r
  · rename_i e; (try rw [e]); (try simp only); rw [hc]; exact cells_some _ _ _ (.inl e)
  · cases h
theorem FEnv.glob {scope : Scope} {env : Env} {x : Str} (F : FEnv scope env) (h : globOk scope x = true) : env.kindOf x = some .globalImplicit := by
  show env.scope.names.lookup x = _; rw [F.sc]; exact eq_of_beq h

def retv : Flow → Value
  | .ret v => v
  | _ => .none

theorem bindL_lk {kind : Str → Option NameKind} : ∀ (binds : List (Str × Value)) (ρ : Vars) (m : Str → Option Value), Paired (fun (p : Str × Value) (q : Str × AV) => p.1 = q.1 ∧ q.2.ok p.2) binds ρ → (ρ.map (·.1)).Nodup →
    ∀ x, (∀ a, Lk ρ x a → kind x = some .local → ∃ v, bindL kind binds m x = some v ∧ a.ok v) ∧ (x ∉ ρ.map (·.1) → bindL kind binds m x = m x)
  | _, _, m, .nil, _, x => ⟨fun a h => by simp [Lk] at h, fun _ => rfl⟩
  | (y, u) :: binds, (y', b) :: ρ, m, .cons hh ht, hn, x => by
    obtain ⟨rfl, hb⟩ := hh
    simp only [List.map_cons, List.nodup_cons] at hn
    have ih := bindL_lk (kind := kind) binds ρ (if kind y = some .local then fun z => if z = y then some u else m z else m) ht hn.2 x
    simp only [bindL]
    refine ⟨fun a hl hk => ?_, fun hx => ?_⟩
    · simp only [Lk, List.lookup_cons] at hl
      split at hl
      · rename_i e
        have := eq_of_beq e; subst this; cases hl
        refine ⟨u, ?_, hb⟩
        rw [ih.2 hn.1, if_pos hk]; simp
      · exact ih.1 a hl hk
    · simp only [List.map_cons, List.mem_cons, not_or] at hx
      rw [ih.2 hx.2]
      split
      · simp [hx.1]
      · rfl
theorem bindC_lk {kind : Str → Option NameKind} : ∀ (binds : List (Str × Value)) (ρ : Vars) (m : Str → Option Value), Paired (fun (p : Str × Value) (q : Str × AV) => p.1 = q.1 ∧ q.2.ok p.2) binds ρ → (ρ.map (·.1)).Nodup →
    ∀ x, (∀ a, Lk ρ x a → kind x ≠ some .local → ∃ v, bindC kind binds m x = some v ∧ a.ok v) ∧ (x ∉ ρ.map (·.1) → bindC kind binds m x = m x)
  | _, _, m, .nil, _, x => ⟨fun a h => by simp [Lk] at h, fun _ => rfl⟩
  | (y, u) :: binds, (y', b) :: ρ, m, .cons hh ht, hn, x => by
    obtain ⟨rfl, hb⟩ := hh
    simp only [List.map_cons, List.nodup_cons] at hn
    have ih := bindC_lk (kind := kind) binds ρ (if kind y = some .local then m else fun z => if z = y then some u else m z) ht hn.2 x
    simp only [bindC]
    refine ⟨fun a hl hk => ?_, fun hx => ?_⟩
    · simp only [Lk, List.lookup_cons] at hl
      split at hl
      · rename_i e
        have := eq_of_beq e; subst this; cases hl
        refine ⟨u, ?_, hb⟩
        rw [ih.2 hn.1, if_neg hk]; simp
      · exact ih.1 a hl hk
    · simp only [List.map_cons, List.mem_cons, not_or] at hx
      rw [ih.2 hx.2]
      split
      · rfl
      · simp [hx.1]

section
variable {prog : Program} {w : World} {A : Around} {mg mb : Str → Option Value} {B H h : Heap} {env : Env} {ρ : Vars} {μ : Led} {σ : Shared} {t : Nat} {x : Str} {a : AV} {v : Value} {E : Value → Shared → Prop}

theorem cell_kind {x : Str} {c : Addr} : ∀ (names : List (Str × NameKind)) (n : Nat) (acc : List (Str × Addr)), (x, c) ∈ cellsFrom n names acc → (x, NameKind.cell) ∈ names ∨ (x, c) ∈ acc
  | [], _, acc, h => .inr h
  | (y, k) :: r, n, acc, h => by
    unfold cellsFrom at h
    split at h
    · rename_i hk
      rcases cell_kind r _ _ h with h | h
      · exact .inl (.tail _ h)
      · rcases List.mem_cons.mp h with e | h
        · cases e; rw [eq_of_beq hk]; exact .inl (.head _)
        · exact .inr h
    · rcases cell_kind r _ _ h with h | h
      · exact .inl (.tail _ h)
      · exact .inr h

def fnOk (scope : Scope) (xs : List Str) : Bool :=
  decide xs.Nodup && xs.all (fun q => scope.names.lookup q == some .local || scope.names.lookup q == some .cell) && xs.all (fun q => scope.names.lookup q == some .cell || !(scope.names.any fun p => p.1 == q && p.2 == .cell)) &&
  decide (((cellsFrom 0 scope.names []).map (·.1)).Nodup) && !scope.isCoroutine && !scope.isGenerator && (scope.kind == .function)
/-- a call of a function: its body, from a fresh frame; raising too -/
theorem wp_fn {n : Nat} {f : Addr} {name : Str} {params : Arguments} {body : List Stmt} {scope : Scope} {vals : List Value} {binds : List (Str × Value)} {Q : Value → Shared → Prop} {s : Shared}
    (F : Fn B f name params body scope) (G : Gd mg mb B) (hkB : Keep B s.heap) (ok : OkA (n + 1) A)
    (hbind : ∀ pm cd doc, bindArgs (docDef name params body scope pm cd doc) ⟨vals, []⟩ = pure binds)
    (hp : Paired (fun (p : Str × Value) (q : Str × AV) => p.1 = q.1 ∧ q.2.ok p.2) binds ρ) {xs : List Str} (hok : fnOk scope xs = true) (hxs : ρ.map (·.1) = xs)
    (hbody : ∀ (env : Env) (h₁ : Heap) (t₁ : Nat), FEnv scope env → OkA n (A.deeper env) → St mg mb B s.heap env ρ [] h₁ →
      wpAny (model prog w) (A.deeper env) (execs body env) (fun fl s' => Q (retv fl) s') (fun e s' => wpAny (model prog w) (A.deeper env) (leaving env e) (fun _ s'' => E e s'') (fun e' s'' => E e' s'') s') (Sm s h₁ t₁)) :
    wpAny (model prog w) A (call (.ref f) vals) Q E s := by
  simp only [fnOk, Bool.and_eq_true, Bool.not_eq_true'] at hok
  obtain ⟨⟨⟨⟨⟨⟨hn₀, hkind₀⟩, hsep₀⟩, hcn⟩, hco⟩, hgen⟩, hk₀⟩ := hok
  have hk : scope.kind = .function := eq_of_beq hk₀
  have hn : (ρ.map (·.1)).Nodup := hxs ▸ of_decide_eq_true hn₀
  have hkind : (ρ.all fun q => scope.names.lookup q.1 == some .local || scope.names.lookup q.1 == some .cell) = true := by
    rw [← hxs, List.all_map] at hkind₀; exact hkind₀
  have hsep : (ρ.all fun q => scope.names.lookup q.1 == some .cell || !(scope.names.any fun p => p.1 == q.1 && p.2 == .cell)) = true := by
    rw [← hxs, List.all_map] at hsep₀; exact hsep₀
  clear hn₀ hkind₀ hsep₀ hk₀ hxs
  obtain ⟨o, pm, cd, doc, ho, hd, hcd⟩ := F.ex
  refine wpAny_call (codeAny_call_cells (fd := docDef name params body scope pm cd doc) (body := body) (binds := binds) (by have := ok.dp; omega) (hkB _ _ ho) hd (G.lim.keeps hkB) (hcd.keeps hkB) rfl (hbind pm cd doc) rfl ?_ ?_ hco hgen hk)
  · intro p hp'
    have : ∃ q ∈ ρ, p.1 = q.1 := by
      clear hn hkind hsep hbody hbind
      induction hp with
      | nil => cases hp'
      | cons h _ ih =>
        rcases List.mem_cons.mp hp' with rfl | hp'
        · exact ⟨_, .head _, h.1⟩
        · obtain ⟨q, hq, e⟩ := ih hp'; exact ⟨q, .tail _ hq, e⟩
    obtain ⟨q, hq, e⟩ := this
    have := List.all_eq_true.mp hkind q hq
    rw [e]
    rcases Bool.or_eq_true_iff.mp this with e | e
    · exact .inl (eq_of_beq e)
    · exact .inr ⟨eq_of_beq e, cells_some _ _ _ (.inl (eq_of_beq e))⟩
  · intro s₁ X
    generalize he : callEnvC (docDef name params body scope pm cd doc) s.heap.objs.size f = env at X ⊢
    obtain ⟨h₁, t₁, e₁, hk₁⟩ := X.done
    subst e₁
    have hsc : env.scope = scope := by rw [← he]; rfl
    have hcl : env.cells = cellsFrom (s.heap.objs.size + 1) scope.names [] := by rw [← he]; rfl
    have hL : env.locals = s.heap.objs.size := by rw [← he]; rfl
    have FE : FEnv scope env := ⟨hsc, ⟨_, hcl⟩, by rw [← he]; rfl⟩
    have hkf : env.kindOf = fun x => scope.names.lookup x := by funext x; show env.scope.names.lookup x = _; rw [hsc]
    have hcells : ∀ c ∈ env.cells.map (·.2), env.locals < c := fun c hc => by
      obtain ⟨⟨y, d⟩, hy, rfl⟩ := List.mem_map.mp hc
      exact X.above y d hy
    have hnone : ∀ b, s.heap.objs.size ≤ b → s.heap.get? b = none := fun b hb => Heap.get?_none_of_le hb
    have S : St mg mb B s.heap env ρ [] h₁ := by
      refine ⟨⟨G, hkB.trans hk₁, by rw [hsc]; exact hk, by rw [← he]; rfl, by rw [← he]; rfl, ⟨_, X.toInCall.ns, fun y b hy hl => ?_⟩, fun y b c hc hl => ?_⟩, hkB, hk₁, ?_, fun p hp => (nomatch hp), ?_, fun c hc => ?_⟩
      · exact (bindL_lk binds ρ _ hp hn y).1 b hl hy
      · have hmem := mem_cells hc
        rw [hcl] at hmem
        have hnl : env.kindOf y ≠ some .local := fun q => by
          rcases cell_kind _ _ _ hmem with r | r
          · have hq : (y, b) ∈ ρ := by
              clear hn hkind hsep hbody hbind hp
              unfold Lk at hl
              induction ρ with
              | nil => simp at hl
              | cons p r ih =>
                obtain ⟨z, d⟩ := p
                simp only [List.lookup_cons] at hl
                split at hl
                · rename_i e; cases hl; rw [eq_of_beq e]; exact .head _
                · exact .tail _ (ih hl)
            have h2 := List.all_eq_true.mp hsep _ hq
            simp only [hkf] at q
            rw [q] at h2
            have h3 : (scope.names.any fun p => p.1 == y && p.2 == .cell) = true := List.any_eq_true.mpr ⟨_, r, by simp⟩
            rw [h3] at h2; exact absurd h2 (by decide)
          · cases r
        obtain ⟨u, hu, hu'⟩ := (bindC_lk binds ρ (fun _ => none) hp hn y).1 b hl hnl
        exact ⟨u, hu ▸ X.cell y c hc, hu'⟩
      · intro b hb
        rcases List.mem_cons.mp hb with rfl | hb
        · exact hnone _ (Nat.le_of_eq hL.symm)
        · simp only [List.map_nil, List.append_nil] at hb
          exact hnone _ (Nat.le_of_lt (hL ▸ hcells b hb))
      · simp only [own, List.map_nil, List.append_nil]
        refine List.nodup_cons.mpr ⟨fun q => Nat.lt_irrefl _ (hcells _ q), ?_⟩
        exact List.Pairwise.map _ (fun a b h => h) X.apart
      · obtain ⟨⟨y, d⟩, hy, rfl⟩ := List.mem_map.mp hc
        exact ⟨_, X.cell y d (lookup_of_mem_nodup (by rw [hcl, cellsFrom_names scope.names (s.heap.objs.size + 1) 0 [] [] rfl]; exact of_decide_eq_true hcn) hy)⟩
    exact wpAny_mono (hbody env h₁ t₁ FE ok.deep S) (fun fl s' y => by cases fl <;> exact y) fun _ _ e => e
/-- a call of a function: its body, from a fresh frame -/
theorem den_fn {n : Nat} {f : Addr} {name : Str} {params : Arguments} {body : List Stmt} {scope : Scope} {vals : List Value} {binds : List (Str × Value)} {U : Heap → Value → Heap → Prop}
    (F : Fn B f name params body scope) (G : Gd mg mb B) (kb : Keep B h) (ok : OkA (n + 1) A)
    (hbind : ∀ pm cd doc, bindArgs (docDef name params body scope pm cd doc) ⟨vals, []⟩ = pure binds)
    (hp : Paired (fun (p : Str × Value) (q : Str × AV) => p.1 = q.1 ∧ q.2.ok p.2) binds ρ) {xs : List Str} (hok : fnOk scope xs = true) (hxs : ρ.map (·.1) = xs)
    (hbody : ∀ (s : Shared) (env : Env) (h₁ : Heap) (t₁ : Nat) (E : Value → Shared → Prop), Keep h s.heap → FEnv scope env → OkA n (A.deeper env) → St mg mb B s.heap env ρ [] h₁ →
      wpAny (model prog w) (A.deeper env) (execs body env) (fun fl s' => U s.heap (retv fl) s'.heap ∧ Keeps s s') E (Sm s h₁ t₁)) :
    DenG prog w A h (call (.ref f) vals) U :=
  fun s E hks => wp_fn F G (kb.trans hks) ok hbind hp hok hxs fun env h₁ t₁ FE okA S => hbody s env h₁ t₁ _ hks FE okA S
end

theorem Oks.get {vs : List Value} {xs : List AV} (h : Oks vs xs) : ∀ {i : Nat} {a : AV}, xs[i]? = some a → ∃ v, vs[i]? = some v ∧ a.ok v := by
  induction h with
  | nil => intro i a e; simp at e
  | cons hh _ ih =>
    intro i a e
    cases i with
    | zero => simp only [List.getElem?_cons_zero, Option.some.injEq] at e ⊢; subst e; exact ⟨_, rfl, hh⟩
    | succ i => simp only [List.getElem?_cons_succ] at e ⊢; exact ih e
theorem Oks.set {vs : List Value} {xs : List AV} (h : Oks vs xs) : ∀ {i : Nat} {v : Value} {a : AV}, a.ok v → Oks (vs.set i v) (xs.set i a) := by
  induction h with
  | nil => intro i v a e; exact .nil
  | cons hh ht ih =>
    intro i v a e
    cases i with
    | zero => exact .cons e ht
    | succ i => exact .cons hh (ih e)
theorem Oks.append {vs vs' : List Value} {xs xs' : List AV} (h : Oks vs xs) (h' : Oks vs' xs') : Oks (vs ++ vs') (xs ++ xs') := by
  induction h with
  | nil => exact h'
  | cons hh ht ih => exact .cons hh ih
theorem Oks.ints : ∀ {vs : List Value} {ns : List Int}, IntsAre vs ns → Oks vs (ns.map .int)
  | _, _, .nil => .nil
  | _, _, .cons _ _ h => .cons ⟨_, rfl⟩ (Oks.ints h)
theorem Oks.toInts : ∀ {vs : List Value} {ns : List Int}, Oks vs (ns.map .int) → IntsAre vs ns
  | [], [], _ => .nil
  | v :: vs, n :: ns, .cons h t => by obtain ⟨t', rfl⟩ := h; exact .cons _ _ (Oks.toInts t)
theorem Oks.strs : ∀ {vs : List Value} {ns : List Str}, StrsAre vs ns → Oks vs (ns.map .str)
  | _, _, .nil => .nil
  | _, _, .cons _ _ h => .cons ⟨_, rfl⟩ (Oks.strs h)
theorem Oks.toStrs : ∀ {vs : List Value} {ns : List Str}, Oks vs (ns.map .str) → StrsAre vs ns
  | [], [], _ => .nil
  | v :: vs, n :: ns, .cons h t => by obtain ⟨t', rfl⟩ := h; exact .cons _ _ (Oks.toStrs t)

section
variable {prog : Program} {w : World} {A : Around} {mg mb : Str → Option Value} {B H h : Heap} {env : Env} {ρ : Vars} {μ : Led} {σ : Shared} {t : Nat} {x : Str} {a : AV} {v : Value} {E : Value → Shared → Prop}
  {rest : List Stmt} {Q : Flow → Shared → Prop} {pos px : Pos} {e : Expr}

/-! ## Items of lists -/
theorem den_item {value slice : Expr} {c : Addr} {p : Bool} {xs : List AV} {i : Int} (hv : Den prog w A h (eval value env) (is (.ref c))) (hi : Den prog w A h (eval slice env) (isI i))
    (hl : Is h c (.list p xs)) (h0 : 0 ≤ i) (hfit : i < 2 ^ 63) (hx : xs[i.toNat]? = some a)
    (hs : ∀ u, subscripted slice false (.ref c) (.int i u) = operate [.ref c, .int i u] (getItem (.ref c) (.int i u)) := by intro _; with_unfolding_all rfl) : Den prog w A h (eval (.Subscript value slice pos) env) (is a) := by
  intro s E hk
  refine Subscript_ (hv.wp hk fun u h₁ tk₁ k₁ hu => ?_)
  cases hu
  refine (hi.up (hk.trans k₁)).wp (s := { s with heap := h₁, toks := tk₁ }) (fun _ _ e => e) fun u h₂ tk₂ k₂ hu => ?_
  obtain ⟨t, rfl⟩ := hu
  obtain ⟨vs, hL, hO⟩ := hl.up ((hk.trans k₁).trans k₂)
  obtain ⟨v, hv, hv'⟩ := hO.get hx
  exact tail_any (s := Sm s h₂ tk₂) hL.1.typeIs slot_list_getitem.lookup (wpAny_getItem_list (s := Sm s h₂ tk₂) hL.1 h0 hfit (by simpa using hv) ⟨hv', ⟨h₂, tk₂, rfl, k₁.trans k₂⟩⟩) (hs t)

/-! ## Statements -/
theorem ex_assign (S : St mg mb B H env ρ μ h) (d : Den prog w A h (eval e env) (is a)) (ho : ownStore env x = true)
    (k : ∀ h' t', St mg mb B H env ((x, a) :: ρ) μ h' → wpAny (model prog w) A (execs rest env) Q E (Sm σ h' t'))
    (hs : swapsWith e (some (.Name x px)) pos.line env = pure false := by rfl) : wpAny (model prog w) A (execs (.Assign [.Name x px] e pos :: rest) env) Q E (Sm σ h t) :=
  wpAny_execs_cons (wpAny_Assign_Name (d.wp (s := Sm σ h t) Keep.rfl fun v h₁ t₁ k₁ hv => st_store (σ := σ) (S.up k₁) ho hv fun h' t' S' _ => k h' t' S') hs)
/-- a new object, the frame's own -/
theorem ex_assignN {m : MO} (S : St mg mb B H env ρ μ h) (d : DenG prog w A h (eval e env) (isN m)) (ho : ownStore env x = true)
    (k : ∀ c h' t', St mg mb B H env ((x, .ref c) :: ρ) ((c, m) :: μ) h' → wpAny (model prog w) A (execs rest env) Q E (Sm σ h' t'))
    (hs : swapsWith e (some (.Name x px)) pos.line env = pure false := by rfl) : wpAny (model prog w) A (execs (.Assign [.Name x px] e pos :: rest) env) Q E (Sm σ h t) :=
  wpAny_execs_cons (wpAny_Assign_Name (d.wp (s := Sm σ h t) Keep.rfl fun v h₁ t₁ k₁ hv => by
    obtain ⟨c, rfl, hn, hI⟩ := hv
    exact st_store (σ := σ) (a := .ref c) (S.add k₁ hn hI) ho rfl fun h' t' S' _ => k c h' t' S') hs)
/-- an object that is not changed from here on -/
theorem ex_assignF {m : MO} (S : St mg mb B H env ρ [] h) (d : Den prog w A h (eval e env) (isO m)) (ho : ownStore env x = true)
    (k : ∀ c H' h' t', Keep H H' → Is H' c m → St mg mb B H' env ((x, .ref c) :: ρ) [] h' → wpAny (model prog w) A (execs rest env) Q E (Sm σ h' t'))
    (hs : swapsWith e (some (.Name x px)) pos.line env = pure false := by rfl) : wpAny (model prog w) A (execs (.Assign [.Name x px] e pos :: rest) env) Q E (Sm σ h t) :=
  wpAny_execs_cons (wpAny_Assign_Name (d.wp (s := Sm σ h t) Keep.rfl fun v h₁ t₁ k₁ hv => by
    obtain ⟨c, rfl, hI⟩ := hv
    have S₁ := S.up k₁
    have hc : c ∉ own env [] := fun q => by
      rcases List.mem_cons.mp q with q | q
      · exact S₁.ne_ns hI q
      · simp only [List.map_nil, List.append_nil] at q; exact S₁.ne_cell hI q
    refine st_store (σ := σ) (a := .ref c) S₁ ho rfl fun h' t' S' kb => ?_
    obtain ⟨H', kH, S'', kr⟩ := S'.rebase
    exact k c H' h' t' kH ((hI.at fun o e => kb c o hc e).at fun o e => kr c o e hc) S'') hs)
theorem ex_if {test : Expr} {body orelse : List Stmt} {c : Bool} (S : St mg mb B H env ρ μ h) (d : Den prog w A h (isTrue test env (eval test env)) (isT c))
    (k1 : c = true → ∀ h' t', St mg mb B H env ρ μ h' → wpAny (model prog w) A (execs body env) (fun f s' => match f with | .next => wpAny (model prog w) A (execs rest env) Q E s' | f => Q f s') E (Sm σ h' t'))
    (k2 : c = false → ∀ h' t', St mg mb B H env ρ μ h' → wpAny (model prog w) A (execs orelse env) (fun f s' => match f with | .next => wpAny (model prog w) A (execs rest env) Q E s' | f => Q f s') E (Sm σ h' t')) :
    wpAny (model prog w) A (execs (.If test body orelse pos :: rest) env) Q E (Sm σ h t) :=
  wpAny_execs_cons (wpAny_If (d.wp (s := Sm σ h t) Keep.rfl fun v h₁ t₁ k₁ hv => by
    cases hv
    cases c with
    | true => exact k1 rfl h₁ t₁ (S.up k₁)
    | false => exact k2 rfl h₁ t₁ (S.up k₁)))
theorem ex_nil (k : Q .next (Sm σ h t)) : wpAny (model prog w) A (execs [] env) Q E (Sm σ h t) := wpAny_execs_nil k
theorem ex_return {T : Heap → Value → Heap → Prop} (d : DenG prog w A h (eval e env) T) (k : ∀ v h' t', Keep h h' → T h v h' → Q (.ret v) (Sm σ h' t')) :
    wpAny (model prog w) A (execs (.Return (some e) pos :: rest) env) Q E (Sm σ h t) :=
  wpAny_execs_cons (wpAny_Return_some (d.wp (s := Sm σ h t) Keep.rfl fun v h₁ t₁ k₁ hv => k v h₁ t₁ k₁ hv))
theorem ex_break (k : Q .brk (Sm σ h t)) : wpAny (model prog w) A (execs (.Break pos :: rest) env) Q E (Sm σ h t) := wpAny_execs_cons (wpAny_Break k)
theorem ex_aug {op : Operator} {m n c : Int} (S : St mg mb B H env ρ μ h) (hl : Lk ρ x (.int m)) (hv : ownVar env x = true) (d : Den prog w A h (eval e env) (isI n)) (ho : ownStore env x = true)
    (hop : ∀ t u (s : Shared) (Q : Value → Shared → Prop) E, Q (.int c s.toks) { s with toks := s.toks + 1 } → wpAny (model prog w) A (inplaceOp op (.int m t) (.int n u)) Q E s)
    (k : ∀ h' t', St mg mb B H env ((x, .int c) :: ρ) μ h' → wpAny (model prog w) A (execs rest env) Q E (Sm σ h' t')) :
    wpAny (model prog w) A (execs (.AugAssign (.Name x px) op e pos :: rest) env) Q E (Sm σ h t) := by
  refine wpAny_execs_cons (wpAny_AugAssign_Name ?_)
  refine (den_load S.cx hl hv).wp (s := Sm σ h t) Keep.rfl fun v h₁ t₁ k₁ hv => ?_
  obtain ⟨tv, rfl⟩ := hv
  refine (d.up k₁).wp (s := Sm σ h₁ t₁) Keep.rfl fun v h₂ t₂ k₂ hv => ?_
  obtain ⟨tv', rfl⟩ := hv
  refine hop _ _ (Sm σ h₂ t₂) _ _ ?_
  exact st_store (σ := σ) (a := .int c) (S.up (k₁.trans k₂)) ho ⟨_, rfl⟩ fun h' t' S' _ => k h' t' S'

/-- changing one object of the frame's own -/
theorem St.change {c : Addr} {m m' : MO} {h' : Heap} {μ₁ μ₂ : Led} (S : St mg mb B H env ρ (μ₁ ++ (c, m) :: μ₂) h) (hs : ∀ b o, b ≠ c → h.get? b = some o → h'.get? b = some o) (hI : Is h' c m') :
    St mg mb B H env ρ (μ₁ ++ (c, m') :: μ₂) h' := by
  have hown : own env (μ₁ ++ (c, m') :: μ₂) = own env (μ₁ ++ (c, m) :: μ₂) := by simp [own]
  have hco : c ∈ own env (μ₁ ++ (c, m) :: μ₂) := by simp [own]
  have hnd := S.nd
  have hL : env.locals ≠ c := fun q => by
    simp only [own, List.nodup_cons] at hnd; exact hnd.1 (by rw [q]; simp)
  have hcc : c ∉ env.cells.map (·.2) := fun q => by
    simp only [own, List.nodup_cons] at hnd
    exact (List.nodup_append.mp hnd.2).2.2 c q c (by simp) rfl
  have hnm : ((μ₁ ++ (c, m) :: μ₂).map (·.1)).Nodup := by
    simp only [own, List.nodup_cons] at hnd
    exact (List.nodup_append.mp hnd.2).2.1
  have hne : ∀ p, p ∈ μ₁ ∨ p ∈ μ₂ → p.1 ≠ c := fun p hp q => by
    rw [List.map_append, List.map_cons] at hnm
    obtain ⟨n1, n2, n3⟩ := List.nodup_append.mp hnm
    rcases hp with hp | hp
    · exact n3 p.1 (List.mem_map_of_mem hp) c (by simp) q
    · simp only [List.nodup_cons] at n2; exact n2.1 (by rw [← q]; exact List.mem_map_of_mem hp)
  have hkH : Keep H h' := fun b o e => hs b o (fun q => by have := S.nb b (q ▸ hco); rw [e] at this; cases this) (S.keep b o e)
  refine ⟨⟨S.cx.gd, S.bh.trans hkH, S.cx.fk, S.cx.fg, S.cx.fb, ?_, fun y b d hd hl => ?_⟩, S.bh, hkH, fun b hb => S.nb b (hown ▸ hb), fun p hp => ?_, hown ▸ S.nd, fun d hd => ?_⟩
  · obtain ⟨f, n, l⟩ := S.cx.loc
    exact ⟨f, n.at' fun o e => hs _ o hL e, l⟩
  · obtain ⟨u, ⟨o, ho, r⟩, hu'⟩ := S.cx.cel y b d hd hl
    exact ⟨u, ⟨o, hs _ o (fun q => hcc (q ▸ List.mem_map.mpr ⟨_, mem_cells hd, rfl⟩)) ho, r⟩, hu'⟩
  · rcases List.mem_append.mp hp with hp | hp
    · exact (S.led p (List.mem_append_left _ hp)).at fun o e => hs _ o (hne p (.inl hp)) e
    · rcases List.mem_cons.mp hp with rfl | hp
      · exact hI
      · exact (S.led p (List.mem_append_right _ (.tail _ hp))).at fun o e => hs _ o (hne p (.inr hp)) e
  · obtain ⟨u, o, ho, r⟩ := S.cells d hd
    exact ⟨u, o, hs _ o (fun q => hcc (q ▸ hd)) ho, r⟩

/-- x.append(e) -/
theorem ex_append {c : Addr} {xs : List AV} {μ₁ μ₂ : Led} {xp ap cp : Pos} (S : St mg mb B H env ρ (μ₁ ++ (c, .list true xs) :: μ₂) h) (hl : Lk ρ x (.ref c)) (hv : ownVar env x = true) (d : Den prog w A h (eval e env) (is a))
    (hsz : xs.length ≤ 100000)
    (k : ∀ h' t', St mg mb B H env ρ (μ₁ ++ (c, .list true (xs ++ [a])) :: μ₂) h' → wpAny (model prog w) A (execs rest env) Q E (Sm σ h' t'))
    (hd : (x == ("__debug__" : Str)) = false)
    {pl : Sem Bool} (hm : eval (.Call (.Attribute (.Name x xp) "append" ap) [e] [] cp) env = (do
      let ov ← eval (.Name x xp) env
      standAt ap.atName
      let (f, first) ← holding [ov] (getMethod ov "append" pl)
      callWith cp f first (backTo cp (starEach [e] env)) []) := by rfl)
    (he : starEach [e] env = [(false, eval e env)] := by rfl) :
    wpAny (model prog w) A (execs (.Expr (.Call (.Attribute (.Name x xp) "append" ap) [e] [] cp) pos :: rest) env) Q E (Sm σ h t) := by
  have hi : interactive env = false := by unfold interactive; rw [S.cx.fk]; rfl
  refine wpAny_execs_cons (wpAny_Expr ?_ hi rfl)
  refine MethodCall_ (pl := pl) ?_ hm
  refine (den_name S.cx hl hv hd).wp (s := Sm σ h t) Keep.rfl fun v h₁ t₁ k₁ hv => ?_
  cases hv
  have S₁ := S.up k₁
  obtain ⟨vs, hL, hO⟩ := S₁.led (c, .list true xs) (by simp)
  obtain ⟨n, hg⟩ := hL.2 rfl
  refine getMethod_list_append (s := Sm σ h₁ t₁) hg rfl rfl ?_
  refine callWith_method1 ?_ he rfl
  refine args_cons ?_ he
  refine (d.up k₁).wp (s := Sm σ h₁ t₁) Keep.rfl fun v h₂ t₂ k₂ hv => args_nil ?_
  have S₂ := S₁.up k₂
  obtain ⟨vs, hL, hO⟩ := S₂.led (c, .list true xs) (by simp)
  have hlen : vs.length = xs.length := hO.length
  refine wpAny_list_append_plain (s := Sm σ h₂ t₂) (hL.2 rfl) (fun h' hp hs => ?_) (by rw [List.size_toArray, hlen]; exact Nat.le_trans hsz (by decide))
  refine k h' t₂ (S₂.change (fun b o hb e => hs.extBut b o hb e) ⟨vs ++ [v], ?_, hO.append (.cons hv .nil)⟩)
  have : (vs ++ [v]).toArray = vs.toArray.push v := by simp
  rw [this]
  exact ⟨hp.isList, fun _ => hp⟩

/-- x[i] = e -/
theorem ex_setitem {c : Addr} {p : Bool} {xs : List AV} {μ₁ μ₂ : Led} {xe ie : Expr} {sp : Pos} {i : Int} (S : St mg mb B H env ρ (μ₁ ++ (c, .list p xs) :: μ₂) h) (d : Den prog w A h (eval e env) (is a))
    (hx : Den prog w A h (eval xe env) (is (.ref c))) (hi : Den prog w A h (eval ie env) (isI i)) (h0 : 0 ≤ i) (hfit : i < 2 ^ 63) (hn : i < xs.length)
    (k : ∀ h' t', St mg mb B H env ρ (μ₁ ++ (c, .list false (xs.set i.toNat a)) :: μ₂) h' → wpAny (model prog w) A (execs rest env) Q E (Sm σ h' t'))
    (hs : swapsWith e (some (.Subscript xe ie sp)) pos.line env = pure false := by rfl) :
    wpAny (model prog w) A (execs (.Assign [.Subscript xe ie sp] e pos :: rest) env) Q E (Sm σ h t) := by
  refine wpAny_execs_cons (wpAny_Assign_Subscript ?_ hs)
  refine d.wp (s := Sm σ h t) Keep.rfl fun v h₁ t₁ k₁ hv => ?_
  refine (hx.up k₁).wp (s := Sm σ h₁ t₁) Keep.rfl fun u h₂ t₂ k₂ hu => ?_
  cases hu
  refine (hi.up (k₁.trans k₂)).wp (s := Sm σ h₂ t₂) Keep.rfl fun u h₃ t₃ k₃ hu => ?_
  obtain ⟨ti, rfl⟩ := hu
  have S₃ := S.up ((k₁.trans k₂).trans k₃)
  obtain ⟨vs, hL, hO⟩ := S₃.led (c, .list p xs) (by simp)
  have hlen : vs.length = xs.length := hO.length
  refine wpAny_setItem_list (s := Sm σ h₃ t₃) hL.1 h0 hfit (by rw [List.size_toArray, hlen]; exact hn) fun h' hp hs => ?_
  refine k h' t₃ (S₃.change (fun b o hb e => hs.extBut b o hb e) ⟨vs.set i.toNat v, ⟨?_, fun e => by cases e⟩, hO.set hv⟩)
  have : (vs.set i.toNat v).toArray = vs.toArray.setIfInBounds i.toNat v := by simp
  rw [this]; exact hp
end

theorem walks_mono {prog : Program} {w : World} {A : Around} {I : Addr} {fp wr : List Addr} {n : Nat} {P P' : Nat → Value → Prop} {St : Nat → Heap → Prop} (W : Walks prog w A I fp wr n P St) (hP : ∀ i v, i < n → P i v → P' i v) :
    Walks prog w A I fp wr n P' St :=
  ⟨W.sub, W.frame, fun i s Q E hi st k => W.item i s Q E hi st fun v h' tk p => k v h' tk (hP i v hi p), W.done, W.self⟩

/-- an iterator's objects -/
structure It (prog : Program) (w : World) (A : Around) (H h₀ : Heap) (n : Nat) (item : Nat → AV) (it : Value) (h : Heap) : Prop where
  ex : ∃ I fp wr Stt, it = .ref I ∧ Walks prog w A I fp wr n (fun i v => (item i).ok v) Stt ∧ Stt 0 h ∧ (∀ i h, Stt i h → ∀ b ∈ fp, ∃ o, h.get? b = some o) ∧ (∀ b ∈ wr, h₀.get? b = none) ∧ (∀ b ∈ fp, h₀.get? b = none ∨ ∃ o, H.get? b = some o)
def Src (prog : Program) (w : World) (A : Around) (H h : Heap) (t : Sem Value) (n : Nat) (item : Nat → AV) : Prop :=
  ∀ (s : Shared) (E : Value → Shared → Prop), Keep h s.heap → wpAny (model prog w) A t (fun x s₁ => wpAny (model prog w) A (pyIter x) (fun it s₂ => It prog w A H s.heap n item it s₂.heap ∧ Keeps s s₂) E s₁) E s

section
variable {prog : Program} {w : World} {A : Around} {mg mb : Str → Option Value} {B H h : Heap} {env : Env} {ρ : Vars} {μ : Led} {σ : Shared} {t : Nat} {x : Str} {a : AV} {v : Value} {E : Value → Shared → Prop}
  {rest : List Stmt} {Q : Flow → Shared → Prop} {pos px : Pos} {e : Expr}

theorem none_of_new {h₀ h : Heap} {b : Addr} (hb : h₀.objs.size ≤ b) : h₀.get? b = none := Heap.get?_none_of_le hb

/-- over a list -/
theorem src_list {p : Bool} {xs : List AV} (hA : A.handled = none) (d : DenG prog w A h e' (fun h₀ v h' => ∃ c, v = .ref c ∧ Is h' c (.list p xs) ∧ (h₀.get? c = none ∨ ∃ o, H.get? c = some o))) :
    Src prog w A H h e' xs.length (fun i => xs.getD i .none) := by
  intro s E hk
  refine d.wp hk fun v h₁ t₁ k₁ hv => ?_
  obtain ⟨c, rfl, ⟨vs, hL, hO⟩, hc⟩ := hv
  refine wpAny_pyIter_list (s := Sm s h₁ t₁) hL.1 ?_
  have hlt : c ≠ h₁.objs.size := by obtain ⟨o, ho, _⟩ := hL.1; exact Nat.ne_of_lt (Heap.lt_size ho)
  have hlen : vs.length = xs.length := hO.length
  have W := Walks.list (prog := prog) (w := w) (A := A) hA h₁.objs.size c hlt vs.toArray
  have e : vs.toArray.size = xs.length := by simpa using hlen
  rw [e] at W
  refine ⟨It.mk ⟨h₁.objs.size, _, _, _, rfl, walks_mono W fun i v hi hv => ?_, ⟨⟨_, Heap.get?_push_size _ rfl, rfl, rfl⟩, hL.1.push _⟩, fun i h st b hb => ?_, fun b hb => ?_, fun b hb => ?_⟩, ⟨_, t₁, rfl, fun b o e => Heap.get?_push_of_some _ (k₁ b o e)⟩⟩
  · skip
    have hx : xs[i]? = some xs[i] := by simp [hi]
    obtain ⟨u, hu, hu'⟩ := hO.get hx
    have : u = v := by have : vs[i]? = some v := by simpa using hv
                       rw [hu] at this; exact Option.some.inj this
    subst this
    simpa [List.getD, hx] using hu'
  · rcases List.mem_cons.mp hb with rfl | hb
    · obtain ⟨o, ho, _⟩ := st.1; exact ⟨o, ho⟩
    · rw [List.mem_singleton.mp hb]; obtain ⟨o, ho, _⟩ := st.2; exact ⟨o, ho⟩
  · rw [List.mem_singleton.mp hb]; exact none_down k₁ (Heap.get?_none_of_le (Nat.le_refl _))
  · rcases List.mem_cons.mp hb with rfl | hb
    · exact .inl (none_down k₁ (Heap.get?_none_of_le (Nat.le_refl _)))
    · rw [List.mem_singleton.mp hb]; exact hc

/-- over a range -/
theorem src_range_of {lo hi st : Int} (hA : A.handled = none) (d : Den prog w A h e' (fun v h' => ∃ c t u v', v = .ref c ∧ IsRange h' c lo hi st t u v')) (hs : Builtin.Range.small lo hi st = true) (hn : 0 ≤ Builtin.Range.rangeSize lo hi st) :
    Src prog w A H h e' (Builtin.Range.rangeSize lo hi st).toNat (fun i => .int (lo + i * st)) := by
  intro s E hk
  refine d.wp hk fun v h₁ t₁ k₁ hv => ?_
  obtain ⟨c, t, u, v', rfl, hR⟩ := hv
  refine wpAny_pyIter_range (s := Sm s h₁ t₁) hR hs ?_
  have W := Walks.range (prog := prog) (w := w) (A := A) hA h₁.objs.size lo st (Builtin.Range.rangeSize lo hi st).toNat
  refine ⟨It.mk ⟨h₁.objs.size, _, _, _, rfl, walks_mono W fun i v _ hv => hv, ?_, fun i h st b hb => ?_, fun b hb => ?_, fun b hb => ?_⟩, ⟨_, t₁, rfl, fun b o e => Heap.get?_push_of_some _ (k₁ b o e)⟩⟩
  · show IsRangeIter _ _ _ _ _
    have e1 : ((Builtin.Range.rangeSize lo hi st).toNat : Int) - ((0 : Nat) : Int) = Builtin.Range.rangeSize lo hi st := by omega
    rw [e1, show lo + ((0 : Nat) : Int) * st = lo by simp]
    exact Heap.get?_push_size _ rfl
  · rw [List.mem_singleton.mp hb]; exact ⟨_, st⟩
  · rw [List.mem_singleton.mp hb]; exact none_down k₁ (Heap.get?_none_of_le (Nat.le_refl _))
  · rw [List.mem_singleton.mp hb]; exact .inl (none_down k₁ (Heap.get?_none_of_le (Nat.le_refl _)))

theorem isR_up {lo hi st : Int} : ∀ v h h', Keep h h' → (∃ c t u v', v = Value.ref c ∧ IsRange h c lo hi st t u v') → ∃ c t u v', v = Value.ref c ∧ IsRange h' c lo hi st t u v' :=
  fun _ _ _ k ⟨c, t, u, v', e, x⟩ => ⟨c, t, u, v', e, k _ _ x⟩

/-- moving to another heap that has the frame's own objects and the base -/
theorem St.move {h' : Heap} (S : St mg mb B H env ρ μ h) (hk : ∀ b o, (b ∈ own env μ ∨ ∃ o', H.get? b = some o') → h.get? b = some o → h'.get? b = some o) : St mg mb B H env ρ μ h' := by
  have hkH : Keep H h' := fun b o e => hk b o (.inr ⟨o, e⟩) (S.keep b o e)
  refine ⟨⟨S.cx.gd, S.bh.trans hkH, S.cx.fk, S.cx.fg, S.cx.fb, ?_, fun y b d hd hl => ?_⟩, S.bh, hkH, S.nb, fun p hp => (S.led p hp).at fun o e => hk _ o (.inl ?_) e, S.nd, fun d hd => ?_⟩
  · obtain ⟨f, n, l⟩ := S.cx.loc
    exact ⟨f, n.at' fun o e => hk _ o (.inl (.head _)) e, l⟩
  · obtain ⟨u, ⟨o, ho, r⟩, hu'⟩ := S.cx.cel y b d hd hl
    exact ⟨u, ⟨o, hk _ o (.inl (.tail _ (List.mem_append_left _ (List.mem_map.mpr ⟨_, mem_cells hd, rfl⟩)))) ho, r⟩, hu'⟩
  · exact .tail _ (List.mem_append_right _ (List.mem_map_of_mem hp))
  · obtain ⟨u, o, ho, r⟩ := S.cells d hd
    exact ⟨u, o, hk _ o (.inl (.tail _ (List.mem_append_left _ hd))) ho, r⟩

/-- what one turn of a loop leaves -/
def Turn (σ : Shared) (mg mb : Str → Option Value) (B H' : Heap) (env : Env) (J : Vars → Led → Prop) (Qb : Flow → Shared → Prop) (f : Flow) (s₃ : Shared) : Prop := match f with
  | .next => ∃ ρ' μ' h₃ t₃, s₃ = Sm σ h₃ t₃ ∧ J ρ' μ' ∧ St mg mb B H' env ρ' μ' h₃
  | .cont => ∃ ρ' μ' h₃ t₃, s₃ = Sm σ h₃ t₃ ∧ J ρ' μ' ∧ St mg mb B H' env ρ' μ' h₃
  | .brk => Qb .next s₃
  | .ret v => Qb (.ret v) s₃

theorem ex_forE {iter : Expr} {body orelse : List Stmt} {n : Nat} {item : Nat → AV} (S : St mg mb B H env ρ μ h) (src : Src prog w A H h (eval iter env) n item)
    (I : Nat → Vars → Led → Prop) (h0 : I 0 ρ μ) (hx : ownStore env x = true)
    (turn : ∀ i ρ' μ' H' h' t', i < n → I i ρ' μ' → Keep H H' → St mg mb B H' env ((x, item i) :: ρ') μ' h' →
      wpAny (model prog w) A (execs body env) (Turn σ mg mb B H' env (I (i + 1)) (fun f s' => match f with | .next => wpAny (model prog w) A (execs rest env) Q E s' | f => Q f s')) (notedBy (model prog w) A env (cameBackBy (model prog w) A env E)) (Sm σ h' t'))
    (done : ∀ ρ' μ' h' t' E', I n ρ' μ' → St mg mb B H env ρ' μ' h' →
      wpAny (model prog w) A (execs orelse env) (fun f s' => match f with | .next => wpAny (model prog w) A (execs rest env) Q E s' | f => Q f s') E' (Sm σ h' t'))
    (hs : ∀ x, foldedSetIterable iter env x = pure x := by intro _; rfl) :
    wpAny (model prog w) A (execs (.For (.Name x px) iter body orelse pos :: rest) env) Q E (Sm σ h t) := by
  refine wpAny_execs_cons (wpAny_For (wpAny_mono (src (Sm σ h t) E Keep.rfl) (fun xv s₁ h₁ => wpAny_mono h₁ (fun it s₂ h₂ => ?_) fun _ _ e => e) fun _ _ e => e) hs)
  obtain ⟨⟨⟨I', fp, wr, Stt, rfl, W, hst, hlive, hwr, hfp⟩⟩, h₂', t₂, rfl, k₂⟩ := h₂
  have S₂ := S.up k₂
  have hfo : ∀ b ∈ fp, b ∉ own env μ := fun b hb q => by
    rcases hfp b hb with e | ⟨o, e⟩
    · obtain ⟨o, ho⟩ := S.alive q
      have e' : h.get? b = none := e
      rw [e'] at ho; cases ho
    · have := S.nb b q; rw [e] at this; cases this
  have hwH : ∀ b ∈ wr, H.get? b = none := fun b hb => none_down S.keep (hwr b hb)
  show codeAny _ _ _ _ (Sm σ h₂' t₂)
  refine codeAny_forLoop (fun k s' => ∃ i ρ' μ' h' t', s' = Sm σ h' t' ∧ i ≤ n ∧ k = n + 1 - i ∧ I i ρ' μ' ∧ St mg mb B H env ρ' μ' h' ∧ Stt i h' ∧ ∀ b ∈ fp, b ∉ own env μ') ?_ (n + 1)
    ⟨0, ρ, μ, h₂', t₂, rfl, Nat.zero_le _, rfl, h0, S₂, hst, hfo⟩
  rintro k s' ⟨i, ρ', μ', h', t', rfl, hin, rfl, hI, S', hst', hfo'⟩
  by_cases hlt : i < n
  · refine W.item i (Sm σ h' t') _ _ hlt hst' fun v h₁ t₁ hv hst₁ hk₁ => ?_
    have S₁ : St mg mb B H env ρ' μ' h₁ := S'.move fun b o hb e => hk₁ b o (fun q => by
      rcases hb with hb | ⟨o', hb⟩
      · exact hfo' b (W.sub b q) hb
      · rw [hwH b q] at hb; cases hb) e
    obtain ⟨H₁, kH, S₁', kr⟩ := S₁.rebase
    refine wpAny_assign_Name ?_
    refine st_store (σ := σ) (t := t₁) (a := item i) S₁' hx hv fun h₃ t₃ S₃ _ => ?_
    refine wpAny_mono (turn i ρ' μ' H₁ h₃ t₃ hlt hI kH S₃) (fun f s₄ h₄ => ?_) fun _ _ e => e
    have fin : (∃ ρ'' μ'' h₄ t₄, s₄ = Sm σ h₄ t₄ ∧ I (i + 1) ρ'' μ'' ∧ St mg mb B H₁ env ρ'' μ'' h₄) → ∃ m, m < n + 1 - i ∧ ∃ i ρ' μ' h' t', s₄ = Sm σ h' t' ∧ i ≤ n ∧ m = n + 1 - i ∧ I i ρ' μ' ∧ St mg mb B H env ρ' μ' h' ∧ Stt i h' ∧ ∀ b ∈ fp, b ∉ own env μ' := by
      rintro ⟨ρ'', μ'', h₅, t₅, rfl, hJ, S₄⟩
      refine ⟨n + 1 - (i + 1), by omega, i + 1, ρ'', μ'', h₅, t₅, rfl, hlt, rfl, hJ, S₄.base kH S.bh, W.frame _ _ _ hst₁ fun b hb o e => S₄.keep b o (kr b o e (hfo' b hb)), fun b hb q => ?_⟩
      obtain ⟨o, ho⟩ := hlive _ _ hst₁ b hb
      have := S₄.nb b q
      rw [kr b o ho (hfo' b hb)] at this; cases this
    cases f with
    | next => exact fin h₄
    | cont => exact fin h₄
    | brk => exact h₄
    | ret v => exact h₄
  · have hi : i = n := by omega
    subst hi
    refine W.done (Sm σ h' t') _ _ hst' fun h₁ t₁ hk₁ => ?_
    have S₁ : St mg mb B H env ρ' μ' h₁ := S'.move fun b o hb e => hk₁ b o (fun q => by
      rcases hb with hb | ⟨o', hb⟩
      · exact hfo' b (W.sub b q) hb
      · rw [hwH b q] at hb; cases hb) e
    exact done ρ' μ' h₁ t₁ _ hI S₁
theorem ex_for {iter : Expr} {body orelse : List Stmt} {n : Nat} {item : Nat → AV} (S : St mg mb B H env ρ μ h) (src : Src prog w A H h (eval iter env) n item)
    (I : Nat → Vars → Led → Prop) (h0 : I 0 ρ μ) (hx : ownStore env x = true)
    (turn : ∀ i ρ' μ' H' h' t' E', i < n → I i ρ' μ' → Keep H H' → St mg mb B H' env ((x, item i) :: ρ') μ' h' →
      wpAny (model prog w) A (execs body env) (Turn σ mg mb B H' env (I (i + 1)) (fun f s' => match f with | .next => wpAny (model prog w) A (execs rest env) Q E s' | f => Q f s')) E' (Sm σ h' t'))
    (done : ∀ ρ' μ' h' t' E', I n ρ' μ' → St mg mb B H env ρ' μ' h' →
      wpAny (model prog w) A (execs orelse env) (fun f s' => match f with | .next => wpAny (model prog w) A (execs rest env) Q E s' | f => Q f s') E' (Sm σ h' t'))
    (hs : ∀ x, foldedSetIterable iter env x = pure x := by intro _; rfl) :
    wpAny (model prog w) A (execs (.For (.Name x px) iter body orelse pos :: rest) env) Q E (Sm σ h t) :=
  ex_forE S src I h0 hx (fun i ρ' μ' H' h' t' hi hI kH S' => turn i ρ' μ' H' h' t' _ hi hI kH S') done hs
end

theorem bi_len : bootBuiltins "len" = some (.builtin "len") := PyProof.Rows.Boot.«len»
theorem bi_sum : bootBuiltins "sum" = some (.builtin "sum") := PyProof.Rows.Boot.«sum»
theorem bi_range : bootBuiltins "range" = some (.type "range") := PyProof.Rows.Boot.«range»
theorem bi_isinstance : bootBuiltins "isinstance" = some (.builtin "isinstance") := PyProof.Rows.Boot.«isinstance»
theorem bi_str : bootBuiltins "str" = some (.type "str") := PyProof.Rows.Boot.«str»
theorem bi_ord : bootBuiltins "ord" = some (.builtin "ord") := PyProof.Rows.Boot.«ord»
theorem bi_chr : bootBuiltins "chr" = some (.builtin "chr") := PyProof.Rows.Boot.«chr»
theorem bi_hex : bootBuiltins "hex" = some (.builtin "hex") := PyProof.Rows.Boot.«hex»
theorem bi_next : bootBuiltins "next" = some (.builtin "next") := PyProof.Rows.Boot.«next»
theorem bi_iter : bootBuiltins "iter" = some (.builtin "iter") := PyProof.Rows.Boot.«iter»
theorem bi_max : bootBuiltins "max" = some (.builtin "max") := PyProof.Rows.Boot.«max»
theorem bi_all : bootBuiltins "all" = some (.builtin "all") := PyProof.Rows.Boot.«all»
theorem bi_zip : bootBuiltins "zip" = some (.type "zip") := PyProof.Rows.Boot.«zip»
theorem bi_enumerate : bootBuiltins "enumerate" = some (.type "enumerate") := PyProof.Rows.Boot.«enumerate»
theorem bi_abs : bootBuiltins "abs" = some (.builtin "abs") := PyProof.Rows.Boot.«abs»

/-- the names of Python's own that the module leaves alone -/
def usedB : List String := ["len", "sum", "range", "isinstance", "str", "ord", "chr", "hex", "next", "iter", "max", "all", "zip", "enumerate", "abs", "StopIteration", "TypeError"]
def NoB (mg : Str → Option Value) : Prop := ∀ x ∈ usedB, mg (Str.ofString x) = none

section
variable {prog : Program} {w : World} {A : Around} {mg mb : Str → Option Value} {B H h : Heap} {env : Env} {ρ : Vars} {μ : Led} {σ : Shared} {t : Nat} {x : String} {v : Value} {E : Value → Shared → Prop}
  {pos px p1 p2 p3 : Pos} {e e1 e2 e3 : Expr} {a b c n : Int}

theorem den_bi (C : Cx mg mb B env ρ h) (nb : NoB mg) (hx : x ∈ usedB) (hv : bootBuiltins (Str.ofString x) = some v) (hk : env.kindOf (Str.ofString x) = some .globalImplicit) (hn : Str.ofString x ≠ "__name__" := by decide +kernel) (hd : (Str.ofString x == ("__debug__" : Str)) = false := by decide +kernel) :
    Den prog w A h (eval (.Name (Str.ofString x) pos) env) (fun u _ => u = v) := den_builtin C (nb x hx) hv hn hk hd

/-- a call of one of Python's own functions with one argument -/
theorem den_b1 {id : String} {T : Value → Heap → Prop} {U : Heap → Value → Heap → Prop} (hf : Den prog w A h (eval (.Name (Str.ofString x) px) env) (fun u _ => u = .builtin id)) (d : Den prog w A h (eval e env) T) (hT : ∀ v h h', Keep h h' → T v h → T v h')
    (hU : ∀ a a' v b, Keep a a' → U a' v b → U a v b) (hc : ∀ v h', Keep h h' → T v h' → DenG prog w A h' (call (.builtin id) [v]) U)
    (he : starEach [e] env = [(false, eval e env)] := by rfl) : DenG prog w A h (eval (.Call (.Name (Str.ofString x) px) [e] [] pos) env) U :=
  den_call hU hf (args_more d args_none hT he) (fun h' _ => keeper_builtin h') (fun vs h' k ⟨v, vs', e1, hv, e2⟩ => by subst e1; subst e2; exact hc v h' k hv) rfl he rfl
theorem den_t1 {id : String} {T : Value → Heap → Prop} {U : Heap → Value → Heap → Prop} (hf : Den prog w A h (eval (.Name (Str.ofString x) px) env) (fun u _ => u = .type id)) (d : Den prog w A h (eval e env) T) (hT : ∀ v h h', Keep h h' → T v h → T v h')
    (hU : ∀ a a' v b, Keep a a' → U a' v b → U a v b) (hc : ∀ v h', Keep h h' → T v h' → DenG prog w A h' (call (.type id) [v]) U)
    (he : starEach [e] env = [(false, eval e env)] := by rfl) : DenG prog w A h (eval (.Call (.Name (Str.ofString x) px) [e] [] pos) env) U :=
  den_call hU hf (args_more d args_none hT he) (fun h' _ => keeper_type h') (fun vs h' k ⟨v, vs', e1, hv, e2⟩ => by subst e1; subst e2; exact hc v h' k hv) rfl he rfl
theorem any_down {T : Value → Heap → Prop} : ∀ (a a' : Heap) v b, Keep a a' → T v b → T v b := fun _ _ _ _ _ x => x

theorem b_isinstance_int (C : Cx mg mb B env ρ h) (nb : NoB mg) (g1 : env.kindOf (Str.ofString "isinstance") = some .globalImplicit) (g2 : env.kindOf (Str.ofString "str") = some .globalImplicit) (d : Den prog w A h (eval e env) (isI n))
    (he : starEach [e, .Name (Str.ofString "str") p2] env = [(false, eval e env), (false, eval (.Name (Str.ofString "str") p2) env)] := by rfl) :
    Den prog w A h (eval (.Call (.Name (Str.ofString "isinstance") px) [e, .Name (Str.ofString "str") p2] [] pos) env) (isB false) :=
  den_call any_down (den_bi C nb (by decide) bi_isinstance g1) (args_more d (args_more (den_bi C nb (by decide) bi_str g2) args_none (fun _ _ _ _ x => x) rfl) is_up he) (fun h' _ => keeper_builtin h') (fun vs h' k ⟨v, vs', e1, hv, u, us, e2, hu, e3⟩ => by
    subst e1; subst e2; subst e3; subst hu; obtain ⟨tv, rfl⟩ := hv
    exact Den.of fun s Q E kk q => IsiPair.int_str (q _ _ (isB_mk _ _))) rfl he rfl
theorem b_isinstance_str {n : Str} (C : Cx mg mb B env ρ h) (nb : NoB mg) (g1 : env.kindOf (Str.ofString "isinstance") = some .globalImplicit) (g2 : env.kindOf (Str.ofString "str") = some .globalImplicit) (d : Den prog w A h (eval e env) (isS n))
    (he : starEach [e, .Name (Str.ofString "str") p2] env = [(false, eval e env), (false, eval (.Name (Str.ofString "str") p2) env)] := by rfl) :
    Den prog w A h (eval (.Call (.Name (Str.ofString "isinstance") px) [e, .Name (Str.ofString "str") p2] [] pos) env) (isB true) :=
  den_call any_down (den_bi C nb (by decide) bi_isinstance g1) (args_more d (args_more (den_bi C nb (by decide) bi_str g2) args_none (fun _ _ _ _ x => x) rfl) is_up he) (fun h' _ => keeper_builtin h') (fun vs h' k ⟨v, vs', e1, hv, u, us, e2, hu, e3⟩ => by
    subst e1; subst e2; subst e3; subst hu; obtain ⟨tv, rfl⟩ := hv
    exact Den.of fun s Q E kk q => IsiPair.str_str (q _ s.toks (isB_mk _ _))) rfl he rfl
theorem b_ord {c : Nat} (C : Cx mg mb B env ρ h) (nb : NoB mg) (g1 : env.kindOf (Str.ofString "ord") = some .globalImplicit) (d : Den prog w A h (eval e env) (isS ⟨#[c]⟩))
    (he : starEach [e] env = [(false, eval e env)] := by rfl) : Den prog w A h (eval (.Call (.Name (Str.ofString "ord") px) [e] [] pos) env) (isI c) :=
  den_b1 (den_bi C nb (by decide) bi_ord g1) d is_up any_down (fun v h' k hv => by
    obtain ⟨tv, rfl⟩ := hv
    exact Den.of fun s Q E kk q => P.ord_of_char (q _ _ (isI_mk _ _ _))) he
theorem b_chr (C : Cx mg mb B env ρ h) (nb : NoB mg) (g1 : env.kindOf (Str.ofString "chr") = some .globalImplicit) (d : Den prog w A h (eval e env) (isI n)) (h0 : 0 ≤ n) (h1 : n ≤ 1114111)
    (he : starEach [e] env = [(false, eval e env)] := by rfl) : Den prog w A h (eval (.Call (.Name (Str.ofString "chr") px) [e] [] pos) env) (isS ⟨#[n.toNat]⟩) :=
  den_b1 (den_bi C nb (by decide) bi_chr g1) d is_up any_down (fun v h' k hv => by
    obtain ⟨tv, rfl⟩ := hv
    exact Den.of fun s Q E kk q => chr_of_range h0 h1 (q _ _ (isS_mk _ _ _))) he
theorem b_hex (C : Cx mg mb B env ρ h) (nb : NoB mg) (g1 : env.kindOf (Str.ofString "hex") = some .globalImplicit) (d : Den prog w A h (eval e env) (isI n)) (hsz : (baseText "0x" 16 n).length ≤ sizeLine)
    (he : starEach [e] env = [(false, eval e env)] := by rfl) : Den prog w A h (eval (.Call (.Name (Str.ofString "hex") px) [e] [] pos) env) (isS (baseText "0x" 16 n)) :=
  den_b1 (den_bi C nb (by decide) bi_hex g1) d is_up any_down (fun v h' k hv => by
    obtain ⟨tv, rfl⟩ := hv
    exact Den.of fun s Q E kk q => P.hex_of_int (q _ _ (isS_mk _ _ _)) hsz) he
theorem b_abs (C : Cx mg mb B env ρ h) (nb : NoB mg) (g1 : env.kindOf (Str.ofString "abs") = some .globalImplicit) (d : Den prog w A h (eval e env) (isI n))
    (he : starEach [e] env = [(false, eval e env)] := by rfl) : Den prog w A h (eval (.Call (.Name (Str.ofString "abs") px) [e] [] pos) env) (isI (if n < 0 then -n else n)) :=
  den_b1 (den_bi C nb (by decide) bi_abs g1) d is_up any_down (fun v h' k hv => by
    obtain ⟨tv, rfl⟩ := hv
    exact Den.of fun s Q E kk q => call_abs_int fun u tk => q _ _ (isI_mk _ _ _)) he
theorem b_str (C : Cx mg mb B env ρ h) (nb : NoB mg) (g1 : env.kindOf (Str.ofString "str") = some .globalImplicit) (d : Den prog w A h (eval e env) (isI n)) (hn : n.natAbs.log2 < 1920)
    (he : starEach [e] env = [(false, eval e env)] := by rfl) : Den prog w A h (eval (.Call (.Name (Str.ofString "str") px) [e] [] pos) env) (isS (Str.ofString (toString n))) :=
  den_t1 (den_bi C nb (by decide) bi_str g1) d is_up any_down (fun v h' k hv => by
    obtain ⟨tv, rfl⟩ := hv
    exact Den.of fun s Q E kk q => P.str_of_int hn (q _ _ (isS_mk _ _ _))) he
theorem b_len {p : Bool} {xs : List AV} (C : Cx mg mb B env ρ h) (nb : NoB mg) (g1 : env.kindOf (Str.ofString "len") = some .globalImplicit) (d : Den prog w A h (eval e env) (isO (.list p xs))) (hsz : xs.length < 2 ^ 60)
    (he : starEach [e] env = [(false, eval e env)] := by rfl) : Den prog w A h (eval (.Call (.Name (Str.ofString "len") px) [e] [] pos) env) (isI xs.length) :=
  den_b1 (den_bi C nb (by decide) bi_len g1) d isO_up any_down (fun v h' k hv => by
    obtain ⟨c, rfl, hI⟩ := hv
    refine Den.of fun s Q E kk q => ?_
    obtain ⟨vs, hL, hO⟩ := hI.up kk
    have hl : vs.length = xs.length := hO.length
    refine len_list hL.1 (by rw [List.size_toArray, hl]; omega) ?_
    rw [List.size_toArray, hl]
    exact q _ _ (isI_mk _ _ _)) he

/-- walking over a list that stands -/
theorem iter_list {Q : Value → Shared → Prop} {s : Shared} {c : Addr} {vs : List Value} (hA : A.handled = none) (hl : s.heap.IsList c vs.toArray)
    (k : ∀ I h', I = s.heap.objs.size → Walks prog w A I [I, c] [I] vs.length (fun i v => vs[i]? = some v) (fun i h => h.IsListIter I c i ∧ h.IsList c vs.toArray) → (h'.IsListIter I c 0 ∧ h'.IsList c vs.toArray) → (∀ b ∈ [I, c], b < h'.objs.size) → Keep s.heap h' → Q (.ref I) { s with heap := h' }) :
    wpAny (model prog w) A (pyIter (.ref c)) Q E s := by
  refine wpAny_pyIter_list hl ?_
  have hlt : c < s.heap.objs.size := by obtain ⟨o, ho, _⟩ := hl; exact Heap.lt_size ho
  have W := Walks.list (prog := prog) (w := w) (A := A) hA s.heap.objs.size c (Nat.ne_of_lt hlt) vs.toArray
  have e : vs.toArray.size = vs.length := by simp
  rw [e] at W
  refine k _ _ rfl (walks_mono W fun i v _ hv => by simpa using hv) ⟨⟨_, Heap.get?_push_size _ rfl, rfl, rfl⟩, hl.push _⟩ (fun b hb => ?_) fun b o e => Heap.get?_push_of_some _ e
  rw [Heap.size_push]
  rcases List.mem_cons.mp hb with rfl | hb
  · exact Nat.lt_succ_self _
  · rw [List.mem_singleton.mp hb]; exact Nat.lt_succ_of_lt hlt
theorem keep_wr {s h' h'' : Heap} (k : Keep s h') (kk : ∀ b o, b ∉ [s.objs.size] → h'.get? b = some o → h''.get? b = some o) : Keep s h'' :=
  fun b o e => kk b o (fun q => by rw [List.mem_singleton.mp q] at e; exact absurd (Heap.lt_size e) (Nat.lt_irrefl _)) (k b o e)

theorem preSum_eq (ns : List Int) : preSum (fun i => ns.getD i 0) ns.length = ns.sum := by
  have gen : ∀ k, k ≤ ns.length → preSum (fun i => ns.getD i 0) k = (ns.take k).sum := by
    intro k
    induction k with
    | zero => intro _; rfl
    | succ k ih =>
      intro hk
      have hk' : k < ns.length := hk
      show preSum _ k + ns.getD k 0 = _
      rw [ih (Nat.le_of_lt hk'), List.take_add_one, List.sum_append]
      simp [List.getD, hk']
  simpa using gen ns.length (Nat.le_refl _)
theorem b_sum {p : Bool} {ns : List Int} (hA : A.handled = none) (C : Cx mg mb B env ρ h) (nb : NoB mg) (g1 : env.kindOf (Str.ofString "sum") = some .globalImplicit) (d : Den prog w A h (eval e env) (isO (.ints p ns)))
    (he : starEach [e] env = [(false, eval e env)] := by rfl) : Den prog w A h (eval (.Call (.Name (Str.ofString "sum") px) [e] [] pos) env) (isI ns.sum) :=
  den_b1 (den_bi C nb (by decide) bi_sum g1) d isO_up any_down (fun v h' k hv => by
    obtain ⟨c, rfl, hI⟩ := hv
    intro s E kk
    obtain ⟨vs, hL, hO⟩ := hI.up kk
    have hi := Oks.toInts hO
    have hlen : vs.length = ns.length := hi.length
    refine call_sum_walkG (iter_list (A := A.in1) hA hL.1 fun I h₁ hI' W st hfp k₁ => ?_)
    refine ⟨I, _, _, _, _, _, (fun i => ns.getD i 0), rfl, W, st, hfp, fun i v hv => hi.int_at i v hv, fun h₂ tk t' k₂ => ?_⟩
    rw [hlen, preSum_eq]
    exact ⟨isI_mk _ _ _, ⟨h₂, tk, rfl, keep_wr k₁ (hI' ▸ k₂)⟩⟩) he
theorem b_max {p : Bool} {ns : List Int} {m : Int} (hA : A.handled = none) (C : Cx mg mb B env ρ h) (nb : NoB mg) (g1 : env.kindOf (Str.ofString "max") = some .globalImplicit) (d : Den prog w A h (eval e env) (isO (.ints p ns))) (hm : m ∈ ns) (hall : ∀ a ∈ ns, a ≤ m)
    (he : starEach [e] env = [(false, eval e env)] := by rfl) : Den prog w A h (eval (.Call (.Name (Str.ofString "max") px) [e] [] pos) env) (isI m) :=
  den_b1 (den_bi C nb (by decide) bi_max g1) d isO_up any_down (fun v h' k hv => by
    obtain ⟨c, rfl, hI⟩ := hv
    intro s E kk
    obtain ⟨vs, hL, hO⟩ := hI.up kk
    have hi := Oks.toInts hO
    obtain ⟨xs, e⟩ := hi.allInts.items
    have hns : ns = xs.toList.map (·.1) := by rw [← hi.numsOf, ← nums_intItems, ← e]
    have hlen : ns.length = xs.size := by rw [hns]; simp
    have hne : 0 < xs.size := by rw [← hlen]; exact List.length_pos_of_mem hm
    have hl := hL.1
    rw [e] at hl
    refine max_intList hA hl hne fun v h₂ tk hv hk => ?_
    obtain ⟨t, rfl⟩ := intItems_at hv
    obtain ⟨h1, h2⟩ := argBest_gt (numAt xs) (xs.size - 1)
    have e1 : numAt xs (argBest (fun i j => decide (numAt xs i > numAt xs j)) (xs.size - 1)) = m := by
      refine Int.le_antisymm (hall _ ?_) ?_
      · rw [hns, numAt_eq]; exact getD_mem (by rw [List.length_map, Array.length_toList]; omega)
      · have hm' := hm
        rw [hns] at hm'
        obtain ⟨j, hj, rfl⟩ := mem_getD hm'
        rw [List.length_map, Array.length_toList] at hj
        rw [← numAt_eq]; exact h2 j (by omega)
    rw [e1]
    exact ⟨isI_mk _ _ _, ⟨h₂, tk, rfl, hk⟩⟩) he
theorem b_all {p : Bool} {bs : List Bool} (hA : A.handled = none) (C : Cx mg mb B env ρ h) (nb : NoB mg) (g1 : env.kindOf (Str.ofString "all") = some .globalImplicit) (d : Den prog w A h (eval e env) (isO (.list p (bs.map .bool))))
    (he : starEach [e] env = [(false, eval e env)] := by rfl) : Den prog w A h (eval (.Call (.Name (Str.ofString "all") px) [e] [] pos) env) (isB (bs.all id)) :=
  den_b1 (den_bi C nb (by decide) bi_all g1) d isO_up any_down (fun v h' k hv => by
    obtain ⟨c, rfl, hI⟩ := hv
    intro s E kk
    obtain ⟨vs, hL, hO⟩ := hI.up kk
    have hlen : vs.length = bs.length := by simpa using hO.length
    refine call_all_walk (iter_list (A := A.in1) hA hL.1 fun I h₁ hI' W st hfp k₁ => ?_)
    refine ⟨I, _, _, vs.length, _, _, (fun i => bs.getD i true), rfl, walks_mono W (P' := fun i v => v = .bool (bs.getD i true)) (fun i v hi hv => ?_), st, fun i v s Q E hv q => ?_, fun h₂ tk k₂ => ?_⟩
    · have hi' : i < bs.length := hlen ▸ hi
      have hx : (bs.map AV.bool)[i]? = some (.bool bs[i]) := by simp [hi']
      obtain ⟨u, hu, hu'⟩ := hO.get hx
      rw [hu] at hv
      have := Option.some.inj hv
      subst this
      have hu2 : u = Value.bool bs[i] := hu'
      simpa [List.getD, hi'] using hu2
    · subst hv; exact wpAny_truthy_bool q
    · have e1 : (List.range vs.length).all (fun i => bs.getD i true) = bs.all id := by
        rw [hlen, Bool.eq_iff_iff, List.all_eq_true, List.all_eq_true]
        constructor
        · intro hh b hb
          obtain ⟨i, hi, rfl⟩ := List.mem_iff_getElem.mp hb
          have := hh i (List.mem_range.mpr hi)
          simpa [List.getD, hi] using this
        · intro hh i hi
          have hi := List.mem_range.mp hi
          have := hh bs[i] (List.getElem_mem hi)
          simpa [List.getD, hi] using this
      rw [e1]
      exact ⟨isB_mk _ _, ⟨h₂, tk, rfl, keep_wr k₁ (hI' ▸ k₂)⟩⟩) he
end

section
variable {prog : Program} {w : World} {A : Around} {mg mb : Str → Option Value} {B H h : Heap} {env : Env} {ρ : Vars} {μ : Led} {σ : Shared} {t : Nat} {v : Value} {E : Value → Shared → Prop}
  {pos px p1 p2 p3 : Pos} {e e1 e2 e3 l r : Expr} {a b c n : Int} {x y : Str}

theorem den_cat (hl : Den prog w A h (eval l env) (isS x)) (hr : Den prog w A h (eval r env) (isS y)) (hsz : x.length + y.length ≤ 1000000) : Den prog w A h (eval (.BinOp l .Add r pos) env) (isS (x ++ y)) :=
  den_bin hl (fun _ k => hr.up k) is_up fun u v h' k hu hv => by
    obtain ⟨t, rfl⟩ := hu; obtain ⟨t', rfl⟩ := hv
    exact Den.of fun s Q E kk q => add_str (fun t' tk => q _ _ (isS_mk _ _ _)) (Nat.le_trans hsz (by decide))

/-- a <= b <= c -/
theorem den_chain {op1 op2 : CmpOp} {d1 d2 : Bool} (hl : Den prog w A h (eval e1 env) (isI a)) (hm : Den prog w A h (eval e2 env) (isI b)) (hr : Den prog w A h (eval e3 env) (isI c)) (h1 : cmpI op1 a b = some d1) (h2 : cmpI op2 b c = some d2)
    (hmk : lastMarks [op1, op2] [e2, e3] = false := by with_unfolding_all rfl) : Den prog w A h (eval (.Compare e1 [op1, op2] [e2, e3] pos) env) (isB (d1 && d2)) := by
  intro s E hk
  refine Compare_chain (hl.wp hk fun u h₁ tk₁ k₁ hu => ?_) hmk
  obtain ⟨t1, rfl⟩ := hu
  refine chain_link ?_
  refine (hm.up (hk.trans k₁)).wp (s := Sm s h₁ tk₁) Keep.rfl fun u h₂ tk₂ k₂ hu => ?_
  obtain ⟨t2, rfl⟩ := hu
  refine (den_compareI (prog := prog) (w := w) (A := A) h1 _ _ h₂ (isI_mk _ _ _) (isI_mk _ _ _)).wp (s := Sm s h₂ tk₂) Keep.rfl fun u h₃ tk₃ k₃ hu => ?_
  cases hu
  refine wpAny_truthy_bool ?_
  have kk := (k₁.trans k₂).trans k₃
  cases d1 with
  | false => exact ⟨rfl, ⟨h₃, tk₃, rfl, kk⟩⟩
  | true =>
    refine chain_last ?_
    refine DenG.wp (hr.up (hk.trans kk)) (s := Sm s h₃ tk₃) Keep.rfl fun u h₄ tk₄ k₄ hu => ?_
    obtain ⟨t3, rfl⟩ := hu
    refine (den_compareI (prog := prog) (w := w) (A := A) h2 _ _ h₄ (isI_mk _ _ _) (isI_mk _ _ _)).wp (s := Sm s h₄ tk₄) Keep.rfl fun u h₅ tk₅ k₅ hu => ?_
    exact ⟨hu, ⟨h₅, tk₅, rfl, (kk.trans k₄).trans k₅⟩⟩

/-- x or y, as a test -/
theorem test_or {e1 e2 : Expr} {d1 d2 : Bool} {whole : Sem Value} (h1 : Den prog w A h (isTrue e1 env (eval e1 env)) (isT d1)) (h2 : d1 = false → Den prog w A h (isTrue e2 env (eval e2 env)) (isT d2)) :
    Den prog w A h (isTrue (.BoolOp .Or [e1, e2] pos) env whole) (isT (d1 || d2)) := by
  intro s E hk
  refine wpAny_isTrue_BoolOp (wpAny_allTrue_Or_cons ?_)
  refine h1.wp hk fun u h₁ tk₁ k₁ hu => ?_
  cases hu
  cases d1 with
  | true => exact ⟨rfl, ⟨h₁, tk₁, rfl, k₁⟩⟩
  | false =>
    simp only [Bool.false_eq_true, if_false]
    refine wpAny_allTrue_Or_cons ?_
    refine DenG.wp ((h2 rfl).up (hk.trans k₁)) (s := Sm s h₁ tk₁) Keep.rfl fun u h₂ tk₂ k₂ hu => ?_
    cases hu
    cases d2 with
    | true => exact ⟨rfl, ⟨h₂, tk₂, rfl, k₁.trans k₂⟩⟩
    | false => exact wpAny_allTrue_Or_nil ⟨rfl, ⟨h₂, tk₂, rfl, k₁.trans k₂⟩⟩

/-! ## Lists -/
theorem newL {vs : List Value} {xs : List AV} (hO : Oks vs xs) (hsz : xs.length ≤ 100000) : DenG prog w A h (newList vs) (isN (.list true xs)) := by
  intro s E hk
  have hlen : vs.length = xs.length := hO.length
  refine wpAny_newObj_type ?_ (by show vs.toArray.size ≤ sizeLine; rw [List.size_toArray, hlen]; exact Nat.le_trans hsz (by decide))
  refine ⟨⟨s.heap.objs.size, rfl, Heap.get?_none_of_le (Nat.le_refl _), vs, ?_, hO⟩, ⟨_, s.toks, rfl, fun b o e => Heap.get?_push_of_some _ e⟩⟩
  have hp : (s.heap.push { cls := .type "list", data := .seq vs.toArray }).PlainList s.heap.objs.size vs.toArray := ⟨_, Heap.get?_push_size _ rfl⟩
  exact ⟨hp.isList, fun _ => hp⟩
/-- a list display of plain values -/
theorem den_list {es : List Expr} {xs : List AV} (d : DenA prog w A h env pos es (fun vs _ => Oks vs xs)) (hsz : xs.length ≤ 100000) : DenG prog w A h (eval (.List es pos) env) (isN (.list true xs)) := by
  intro s E hk
  refine List_ (d.wp hk fun vs h₁ tk₁ k₁ hv => ?_)
  exact wpAny_mono (newL (h := h₁) hv hsz (Sm s h₁ tk₁) E Keep.rfl) (fun v s' y => ⟨isN_down _ _ _ _ k₁ y.1, Keeps.trans' ⟨h₁, tk₁, rfl, k₁⟩ y.2⟩) fun _ _ e => e
theorem oks_none : DenA prog w A h env pos [] (fun vs _ => Oks vs []) := args_none.mono fun _ _ _ e => by rw [e]; exact .nil
theorem oks_more {e : Expr} {rest : List Expr} {x : AV} {xs : List AV} (d : Den prog w A h (eval e env) (is x)) (r : DenA prog w A h env pos rest (fun vs _ => Oks vs xs))
    (he : starEach (e :: rest) env = (false, eval e env) :: starEach rest env) : DenA prog w A h env pos (e :: rest) (fun vs _ => Oks vs (x :: xs)) :=
  (args_more d r is_up he).mono fun _ _ _ ⟨v, vs', e, hv, hvs⟩ => by rw [e]; exact .cons hv hvs
end

section
variable {prog : Program} {w : World} {A : Around} {mg mb : Str → Option Value} {B H h : Heap} {env : Env} {ρ : Vars} {μ : Led} {σ : Shared} {t : Nat} {v : Value} {E : Value → Shared → Prop}
  {pos px p1 p2 p3 : Pos} {e e1 e2 e3 l r : Expr} {a b c n : Int} {x y : Str}

theorem isR_new {s : Shared} {lo hi st : Int} {t₀ u₀ v₀ : Tok} {tk : Nat} : (∃ c t u v', (Value.ref s.heap.objs.size) = Value.ref c ∧ IsRange (s.heap.push { cls := .type "range", data := .fields #[.int lo t₀, .int hi u₀, .int st v₀] }) c lo hi st t u v') ∧
    Keeps s { s with heap := s.heap.push { cls := .type "range", data := .fields #[.int lo t₀, .int hi u₀, .int st v₀] }, toks := tk } :=
  ⟨⟨_, t₀, u₀, v₀, rfl, IsRange.new _ _ _ _ _ _ _⟩, ⟨_, tk, rfl, fun b o e => Heap.get?_push_of_some _ e⟩⟩

theorem src_congr {t : Sem Value} {n n' : Nat} {i i' : Nat → AV} (S : Src prog w A H h t n i) (hn : n = n') (hi : ∀ k, i k = i' k) : Src prog w A H h t n' i' := by
  have : i = i' := funext hi
  subst hn; subst this; exact S

/-- range(n) -/
theorem src_range1 {N : Nat} (hA : A.handled = none) (C : Cx mg mb B env ρ h) (nb : NoB mg) (g1 : env.kindOf (Str.ofString "range") = some .globalImplicit) (d : Den prog w A h (eval e env) (isI n)) (hN : n = (N : Int)) (h1 : N ≤ 1000000)
    (he : starEach [e] env = [(false, eval e env)] := by rfl) : Src prog w A H h (eval (.Call (.Name (Str.ofString "range") px) [e] [] pos) env) N (fun i => .int i) := by
  have hs : Builtin.Range.rangeSize 0 n 1 = n := by rw [rangeSize_one]; split <;> omega
  refine src_congr (src_range_of (lo := 0) (hi := n) (st := 1) hA ?_ (small_one (by decide) (by decide) (by omega) (by omega)) (by rw [hs]; omega)) (by rw [hs]; omega) (fun k => by simp)
  refine den_t1 (den_bi C nb (by decide) bi_range g1) d is_up any_down (fun v h' k hv => ?_) he
  obtain ⟨tv, rfl⟩ := hv
  exact fun s E kk => call_range_1 isR_new
/-- range(a, b) -/
theorem src_range2 {N : Nat} (hA : A.handled = none) (C : Cx mg mb B env ρ h) (nb : NoB mg) (g1 : env.kindOf (Str.ofString "range") = some .globalImplicit) (d1 : Den prog w A h (eval e1 env) (isI a)) (d2 : Den prog w A h (eval e2 env) (isI b)) (hN : b - a = (N : Int)) (ha : -(2 ^ 61) ≤ a) (h1 : b < 2 ^ 61)
    (he : starEach [e1, e2] env = [(false, eval e1 env), (false, eval e2 env)] := by rfl) (he' : starEach [e2] env = [(false, eval e2 env)] := by rfl) : Src prog w A H h (eval (.Call (.Name (Str.ofString "range") px) [e1, e2] [] pos) env) N (fun i => .int (a + i)) := by
  have hs : Builtin.Range.rangeSize a b 1 = b - a := by rw [rangeSize_one]; split <;> omega
  refine src_congr (src_range_of (lo := a) (hi := b) (st := 1) hA ?_ (small_one (by omega) (by omega) (by omega) (by omega)) (by rw [hs]; omega)) (by rw [hs]; omega) (fun k => by simp)
  refine den_call any_down (den_bi C nb (by decide) bi_range g1) (args_more d1 (args_more d2 args_none is_up he') is_up (by rw [he, he'])) (fun h' _ => keeper_type h') (fun vs h' k ⟨v, vs', e1, hv, u, us, e2, hu, e3⟩ => ?_) rfl (by rw [he, he']) (by rw [he']; rfl)
  subst e1; subst e2; subst e3; obtain ⟨tv, rfl⟩ := hv; obtain ⟨tu, rfl⟩ := hu
  exact fun s E kk => call_range_2 isR_new
theorem small_down {a b : Int} (ha : -(2 ^ 61) ≤ a) (ha' : a < 2 ^ 61) (hb : -(2 ^ 61) ≤ b) (hb' : b < 2 ^ 61) : Builtin.Range.small a b (-1) = true ∧ Builtin.Range.rangeSize a b (-1) = if a > b then a - b else 0 := by
  have hs : Builtin.Range.rangeSize a b (-1) = if a > b then a - b else 0 := by
    unfold Builtin.Range.rangeSize
    simp only [show ¬ ((-1 : Int) > 0) by decide, if_false, show -(-1 : Int) = 1 by decide, Int.ediv_one]
    split <;> omega
  refine ⟨?_, hs⟩
  unfold Builtin.Range.small
  rw [hs]
  simp only [Builtin.Range.rangeFitsLong, Bool.and_eq_true, Bool.or_eq_true, decide_eq_true_eq, beq_iff_eq, show ¬ ((-1 : Int) > 0) by decide, if_false]
  split <;> omega
/-- range(a, b, -1) -/
theorem src_range3 {N : Nat} (hA : A.handled = none) (C : Cx mg mb B env ρ h) (nb : NoB mg) (g1 : env.kindOf (Str.ofString "range") = some .globalImplicit) (d1 : Den prog w A h (eval e1 env) (isI a)) (d2 : Den prog w A h (eval e2 env) (isI b)) (d3 : Den prog w A h (eval e3 env) (isI (-1))) (hN : (a - b).toNat = N) (ha : -(2 ^ 61) ≤ a) (ha' : a < 2 ^ 61) (hb : -(2 ^ 61) ≤ b) (hb' : b < 2 ^ 61)
    (he : starEach [e1, e2, e3] env = [(false, eval e1 env), (false, eval e2 env), (false, eval e3 env)] := by rfl) (he' : starEach [e2, e3] env = [(false, eval e2 env), (false, eval e3 env)] := by rfl) (he'' : starEach [e3] env = [(false, eval e3 env)] := by rfl) :
    Src prog w A H h (eval (.Call (.Name (Str.ofString "range") px) [e1, e2, e3] [] pos) env) N (fun i => .int (a - i)) := by
  obtain ⟨hsm, hs⟩ := small_down ha ha' hb hb'
  refine src_congr (src_range_of (lo := a) (hi := b) (st := -1) hA ?_ hsm (by rw [hs]; split <;> omega)) (by rw [hs]; split <;> omega) (fun k => by simp; omega)
  refine den_call any_down (den_bi C nb (by decide) bi_range g1) (args_more d1 (args_more d2 (args_more d3 args_none is_up he'') is_up (by rw [he', he''])) is_up (by rw [he, he'])) (fun h' _ => keeper_type h') (fun vs h' k ⟨v, vs', e1, hv, u, us, e2, hu, z, zs, e3, hz, e4⟩ => ?_) rfl (by rw [he, he']) (by rw [he']; rfl)
  subst e1; subst e2; subst e3; subst e4; obtain ⟨tv, rfl⟩ := hv; obtain ⟨tu, rfl⟩ := hu; obtain ⟨tz, rfl⟩ := hz
  exact fun s E kk => call_range_3 (by decide) isR_new (.inl (PyProof.noPylong_small (by decide)))

theorem den_modp (hl : Den prog w A h (eval l env) (isI a)) (hr : Den prog w A h (eval r env) (isI b)) (hb : 0 < b) : Den prog w A h (eval (.BinOp l .Mod r pos) env) (isI (a % b)) := by
  rw [← Int.fmod_eq_emod_of_nonneg a (Int.le_of_lt hb)]; exact den_mod hl hr (by omega)
theorem den_divp (hl : Den prog w A h (eval l env) (isI a)) (hr : Den prog w A h (eval r env) (isI b)) (hb : 0 < b) (hp : b.natAbs.log2 < 9000) : Den prog w A h (eval (.BinOp l .FloorDiv r pos) env) (isI (a / b)) := by
  rw [← Int.fdiv_eq_ediv_of_nonneg a (Int.le_of_lt hb)]; exact den_div hl hr (by omega) (PyProof.noPylong_of_log2 hp)
theorem den_shrp (hl : Den prog w A h (eval l env) (isI a)) (hr : Den prog w A h (eval r env) (isI b)) (h0 : 0 ≤ b) : Den prog w A h (eval (.BinOp l .RShift r pos) env) (isI (a / 2 ^ b.toNat)) := by
  rw [← Int.fdiv_eq_ediv_of_nonneg a (Int.le_of_lt (Int.pow_pos (by decide)))]; exact den_shr hl hr h0
theorem den_pow2 {k : Nat} (hl : Den prog w A h (eval l env) (isI 2)) (hr : Den prog w A h (eval r env) (isI (k : Int))) (hk : k ≤ 1000000) : Den prog w A h (eval (.BinOp l .Pow r pos) env) (isI (2 ^ k)) := by
  have := den_pow (pos := pos) hl hr (by omega) (by omega) (by decide)
  simpa using this
theorem mulL {a b : Int} (h : a.natAbs < 2 ^ 64) : IntMulOk a b := IntMulOk.of_left (intBits_le_iff.mpr h)
theorem mulR {a b : Int} (h : b.natAbs < 2 ^ 64) : IntMulOk a b := IntMulOk.of_right (intBits_le_iff.mpr h)
end

section
variable {prog : Program} {w : World} {A : Around} {mg mb : Str → Option Value} {B H h : Heap} {env : Env} {ρ : Vars} {μ : Led} {σ : Shared} {t : Nat} {v : Value} {E : Value → Shared → Prop}
  {pos px p1 p2 p3 : Pos} {e e1 e2 e3 l r : Expr} {a b c n : Int} {x y : Str} {rest : List Stmt} {Q : Flow → Shared → Prop}

/-- a new list out of values, as an object of the heap -/
theorem isN_push {s : Shared} {vs : List Value} {xs : List AV} {tk : Nat} (hO : Oks vs xs) : isN (.list true xs) s.heap (.ref s.heap.objs.size) (s.heap.push { cls := .type "list", data := .seq vs.toArray }) ∧ Keeps s { s with heap := s.heap.push { cls := .type "list", data := .seq vs.toArray }, toks := tk } := by
  have hp : (s.heap.push { cls := .type "list", data := .seq vs.toArray }).PlainList s.heap.objs.size vs.toArray := ⟨_, Heap.get?_push_size _ rfl⟩
  exact ⟨⟨s.heap.objs.size, rfl, Heap.get?_none_of_le (Nat.le_refl _), vs, ⟨hp.isList, fun _ => hp⟩, hO⟩, ⟨_, tk, rfl, fun b o e => Heap.get?_push_of_some _ e⟩⟩

theorem den_binG {op : Operator} {T U : Value → Heap → Prop} {V : Heap → Value → Heap → Prop} (hl : Den prog w A h (eval l env) T) (hr : ∀ h', Keep h h' → Den prog w A h' (eval r env) U)
    (hT : ∀ v h h', Keep h h' → T v h → T v h') (hV : ∀ a a' v b, Keep a a' → V a' v b → V a v b) (ho : ∀ u v h', Keep h h' → T u h' → U v h' → DenG prog w A h' (binaryOp op u v) V) : DenG prog w A h (eval (.BinOp l op r pos) env) V :=
  fun s E hk => wpAny_BinOp (hl.wp hk fun u h₁ tk₁ k₁ hu => (hr h₁ (hk.trans k₁)).wp (s := { s with heap := h₁, toks := tk₁ }) (fun _ _ e => e) fun v h₂ tk₂ k₂ hv =>
    wpAny_mono (ho u v h₂ ((hk.trans k₁).trans k₂) (hT _ _ _ k₂ hu) hv { s with heap := h₂, toks := tk₂ } E fun _ _ e => e)
      (fun _ _ y => ⟨hV _ _ _ _ (k₁.trans k₂) y.1, Keeps.trans' ⟨h₂, tk₂, rfl, k₁.trans k₂⟩ y.2⟩) fun _ _ e => e)

theorem den_catL {p q : Bool} {xs ys : List AV} (hl : Den prog w A h (eval l env) (isO (.list p xs))) (hr : Den prog w A h (eval r env) (isO (.list q ys))) (hsz : xs.length + ys.length ≤ 1000000) :
    DenG prog w A h (eval (.BinOp l .Add r pos) env) (isN (.list true (xs ++ ys))) :=
  den_binG hl (fun _ k => hr.up k) isO_up isN_down fun u v h' k hu hv => by
    obtain ⟨c, rfl, hI⟩ := hu; obtain ⟨d, rfl, hJ⟩ := hv
    intro s E kk
    obtain ⟨vs, hL, hO⟩ := hI.up kk
    obtain ⟨ws, hL', hO'⟩ := hJ.up kk
    have l1 : vs.length = xs.length := hO.length
    have l2 : ws.length = ys.length := hO'.length
    obtain ⟨⟨cls, dd, data, sl⟩, ho, hc, n, hd⟩ := hL.1
    obtain ⟨⟨cls2, dd2, data2, sl2⟩, ho2, hc2, n2, hd2⟩ := hL'.1
    simp only at hc hd hc2 hd2
    subst hc hd hc2 hd2
    have e : vs.toArray ++ ws.toArray = (vs ++ ws).toArray := by simp
    refine concat_meets ⟨_, ho, rfl⟩ ⟨_, ho2, rfl⟩ noFill_list_add seq_list_add PySem.F.slot_list_add PySem.F.entry_list_add (PySem.F.args_list_add_2 _ _) (list_addW c d vs.toArray ws.toArray n n2 dd dd2 sl sl2 (by simp only [List.size_toArray, l1, l2]; exact Nat.le_trans hsz (by decide))) ⟨ho, ho2, ?_⟩
    rw [e]
    exact isN_push (tk := s.toks) (hO.append hO')

theorem oks_rep {vs : List Value} {xs : List AV} (hO : Oks vs xs) : ∀ k, Oks (List.replicate k vs).flatten (List.replicate k xs).flatten
  | 0 => .nil
  | k + 1 => by simp only [List.replicate_succ, List.flatten_cons]; exact hO.append (oks_rep hO k)
theorem den_mulL {p : Bool} {xs : List AV} {x : Int} (hl : Den prog w A h (eval l env) (isO (.list p xs))) (hr : Den prog w A h (eval r env) (isI x)) (h0 : 0 ≤ x) (hk : x ≤ 10000) (hsz : xs.length ≤ 1000) :
    DenG prog w A h (eval (.BinOp l .Mult r pos) env) (isN (.list true (List.replicate x.toNat xs).flatten)) :=
  den_binG hl (fun _ k => hr.up k) isO_up isN_down fun u v h' kk hu hv => by
    obtain ⟨c, rfl, hI⟩ := hu; obtain ⟨tv, rfl⟩ := hv
    intro s E kk
    obtain ⟨vs, hL, hO⟩ := hI.up kk
    have l1 : vs.length = xs.length := hO.length
    obtain ⟨⟨cls, dd, data, sl⟩, ho, hc, n, hd⟩ := hL.1
    simp only at hc hd
    subst hc hd
    have hm : vs.length * x.toNat ≤ 10000000 := by
      rw [l1]
      exact Nat.le_trans (Nat.mul_le_mul hsz (by omega : x.toNat ≤ 10000)) (by decide)
    have hsz' : vs.toArray.size * x.toNat ≤ 2 ^ 24 := by rw [List.size_toArray]; omega
    refine wpAny_binaryOp_repeat_ref (T := "list") (U := "int") (by decide) ⟨_, ho, rfl⟩ (fun s' => typeIs_int s' x tv) noFill_list_mul F.fills_int_mul F.slot_int_rmul repeat_list F.slot_int_index.lookup
      (call_meets F.slot_int_rmul (typeIs_int s x tv) F.entry_int_rmul (F.args_int_rmul_2 _ _) (lm_int_rmul_list_any x tv c vs.toArray n dd sl)
        ⟨ho, rfl, ⟨_, ho, rfl⟩, call_meets F.slot_list_mul ⟨_, ho, rfl⟩ F.entry_list_mul (F.args_list_mul_2 _ _)
          (lm_list_mul_any c vs.toArray n dd sl x tv (by simp [Builtin.List.listFitsIndex]; omega) (by omega) (by simp [Builtin.List.listTooLong, sizeLine]; omega))
          ⟨ho, ?_⟩⟩)
    rw [listMul_foldl_if vs.toArray x.toNat]
    exact isN_push (tk := s.toks) (oks_rep hO x.toNat)

theorem slice_take (vs : List Value) (k : Nat) : slicePick vs.toArray none (some (k : Int)) none = (vs.take k).toArray := by
  by_cases hk : k ≤ vs.length
  · simpa using slicePick_upto vs.toArray k (by simpa using hk)
  · have e : sliceBounds none (some (k : Int)) none vs.toArray.size = sliceBounds none (some ((vs.length : Nat) : Int)) none vs.toArray.size := by
      simp only [sliceBounds, Option.getD_none, List.size_toArray]
      have h2 : ¬ ((k : Int) < 0) := by omega
      have h3 : ¬ ((vs.length : Int) < 0) := by omega
      simp only [h2, h3, if_false, show (1 : Int) > 0 by decide, if_true]
      congr 2; omega
    have e2 : slicePick vs.toArray none (some (k : Int)) none = slicePick vs.toArray none (some ((vs.length : Nat) : Int)) none := by unfold slicePick; rw [e]
    rw [e2, slicePick_upto vs.toArray vs.length (by simp)]
    rw [List.take_of_length_le (by omega : vs.length ≤ k)]
    simp
theorem Oks.take {vs : List Value} {xs : List AV} (h : Oks vs xs) : ∀ k, Oks (vs.take k) (xs.take k) := by
  induction h with
  | nil => intro k; simp; exact .nil
  | cons hh ht ih => intro k; cases k with
    | zero => exact .nil
    | succ k => exact .cons hh (ih k)
/-- xs[:k] -/
theorem den_slice {p : Bool} {xs : List AV} {k : Nat} {up : Expr} {sp : Pos} (hl : Den prog w A h (eval l env) (isO (.list p xs))) (hr : Den prog w A h (eval up env) (isI k)) (hsz : xs.length ≤ 1000000)
    (ht : ∀ o r, letTemporaryGo l o r = pure () := by intro _ _; rfl) :
    DenG prog w A h (eval (.Subscript l (.Slice none (some up) none sp) pos) env) (isN (.list true (xs.take k))) := by
  intro s E kk
  refine wpAny_Subscript_list_slice (hl.wp kk fun u h₁ tk₁ k₁ hu => ?_) ht
  obtain ⟨c, rfl, hI⟩ := hu
  rw [evalPart_none]
  refine wpAny_pure ?_
  show wpAny _ _ (evalPart (some up) env) _ _ _
  rw [evalPart_some]
  refine (hr.up (kk.trans k₁)).wp (s := Sm s h₁ tk₁) Keep.rfl fun u h₂ tk₂ k₂ hu => ?_
  obtain ⟨tu, rfl⟩ := hu
  obtain ⟨vs, hL, hO⟩ := hI.up k₂
  have l1 : vs.length = xs.length := hO.length
  refine ⟨c, vs.toArray, none, some (k : Int), rfl, hL.1, by rw [List.size_toArray, l1]; exact Nat.le_trans hsz (by decide), .none, .int _ _, ?_⟩
  rw [slice_take]
  have k₃ : Keep s.heap (h₂.push { cls := .type "slice", data := .fields #[.none, .int (k : Int) tu, .none] }) := fun b o e => Heap.get?_push_of_some _ (k₂ b o (k₁ b o e))
  have := isN_push (s := Sm s (h₂.push { cls := .type "slice", data := .fields #[.none, .int (k : Int) tu, .none] }) tk₂) (tk := tk₂) (hO.take k)
  rw [show (Sm s (h₂.push { cls := .type "slice", data := .fields #[.none, .int (k : Int) tu, .none] }) tk₂).heap.objs.size = h₂.objs.size + 1 from Heap.size_push ..] at this
  exact ⟨isN_down _ _ _ _ k₃ this.1, Keeps.trans' ⟨_, tk₂, rfl, k₃⟩ this.2⟩

/-! ## Assignments to several names -/
inductive Slot where
  | val (a : AV)
  | new (m : MO)
/-- values for slots; what a slot's value is in the frame, and the new objects -/
inductive Sl : List Slot → List AV → Led → Prop where
  | nil : Sl [] [] []
  | val {a : AV} {ss : List Slot} {as : List AV} {μ : Led} : Sl ss as μ → Sl (.val a :: ss) (a :: as) μ
  | new {c : Addr} {m : MO} {ss : List Slot} {as : List AV} {μ : Led} : Sl ss as μ → Sl (.new m :: ss) (.ref c :: as) ((c, m) :: μ)
theorem Sl.len {ss : List Slot} {as : List AV} {μ : Led} (x : Sl ss as μ) : as.length = ss.length := by
  induction x with
  | nil => rfl
  | val _ ih => simpa using ih
  | new _ ih => simpa using ih
structure SlOk (h₀ : Heap) (ss : List Slot) (vs : List Value) (as : List AV) (μ : Led) (h : Heap) : Prop where
  sh : Sl ss as μ
  ok : Oks vs as
  fresh : ∀ p ∈ μ, h₀.get? p.1 = none ∧ Is h p.1 p.2
  nd : (μ.map (·.1)).Nodup

theorem sl_none : DenG prog w A h (spliced (backTo pos (starEach [] env))) (fun h₀ vs h' => ∃ as μ, SlOk h₀ [] vs as μ h') :=
  fun s E hk => args_nil ⟨⟨[], [], .nil, .nil, fun _ h => (nomatch h), .nil⟩, Keeps.rfl'⟩
theorem sl_val {e : Expr} {rest : List Expr} {x : AV} {ss : List Slot} (d : Den prog w A h (eval e env) (is x)) (r : DenG prog w A h (spliced (backTo pos (starEach rest env))) (fun h₀ vs h' => ∃ as μ, SlOk h₀ ss vs as μ h'))
    (he : starEach (e :: rest) env = (false, eval e env) :: starEach rest env) : DenG prog w A h (spliced (backTo pos (starEach (e :: rest) env))) (fun h₀ vs h' => ∃ as μ, SlOk h₀ (.val x :: ss) vs as μ h') :=
  fun s E hk => args_cons (d.wp hk fun v h₁ tk₁ k₁ hv => DenG.wp (r.up (hk.trans k₁)) (s := Sm s h₁ tk₁) Keep.rfl fun vs h₂ tk₂ k₂ ⟨as, μ, y⟩ =>
    ⟨⟨x :: as, μ, .val y.sh, .cons hv y.ok, fun p hp => ⟨none_down k₁ (y.fresh p hp).1, (y.fresh p hp).2⟩, y.nd⟩, ⟨h₂, tk₂, rfl, k₁.trans k₂⟩⟩) he
theorem sl_new {e : Expr} {rest : List Expr} {m : MO} {ss : List Slot} (d : DenG prog w A h (eval e env) (isN m)) (r : DenG prog w A h (spliced (backTo pos (starEach rest env))) (fun h₀ vs h' => ∃ as μ, SlOk h₀ ss vs as μ h'))
    (he : starEach (e :: rest) env = (false, eval e env) :: starEach rest env) : DenG prog w A h (spliced (backTo pos (starEach (e :: rest) env))) (fun h₀ vs h' => ∃ as μ, SlOk h₀ (.new m :: ss) vs as μ h') :=
  fun s E hk => args_cons (d.wp hk fun v h₁ tk₁ k₁ hv => DenG.wp (r.up (hk.trans k₁)) (s := Sm s h₁ tk₁) Keep.rfl fun vs h₂ tk₂ k₂ ⟨as, μ, y⟩ => by
    obtain ⟨c, rfl, hn, hI⟩ := hv
    refine ⟨⟨.ref c :: as, (c, m) :: μ, .new y.sh, .cons rfl y.ok, fun p hp => ?_, ?_⟩, ⟨h₂, tk₂, rfl, k₁.trans k₂⟩⟩
    · rcases List.mem_cons.mp hp with rfl | hp
      · exact ⟨hn, hI.up k₂⟩
      · exact ⟨none_down k₁ (y.fresh p hp).1, (y.fresh p hp).2⟩
    · refine List.nodup_cons.mpr ⟨fun q => ?_, y.nd⟩
      obtain ⟨p, hp, e⟩ := List.mem_map.mp q
      obtain ⟨o, ho⟩ := hI.alive
      have := (y.fresh p hp).1
      have e' : p.1 = c := e
      rw [e', show (Sm s h₁ tk₁).heap = h₁ from rfl, ho] at this; cases this) he

theorem St.addL : ∀ {μ' : Led} {h₀ h : Heap}, St mg mb B H env ρ μ h₀ → Keep h₀ h → (∀ p ∈ μ', h₀.get? p.1 = none ∧ Is h p.1 p.2) → (μ'.map (·.1)).Nodup → St mg mb B H env ρ (μ' ++ μ) h
  | [], h₀, h, S, k, _, _ => S.up k
  | (c, m) :: μ', h₀, h, S, k, hf, nd => by
    simp only [List.map_cons, List.nodup_cons] at nd
    have S' := St.addL (μ' := μ') S k (fun p hp => hf p (.tail _ hp)) nd.2
    have hc := hf (c, m) (.head _)
    have hn : c ∉ own env (μ' ++ μ) := fun q => by
      simp only [own, List.mem_cons, List.mem_append, List.map_append] at q
      have hno : c ∉ own env μ := fun q => by obtain ⟨o, ho⟩ := S.alive q; rw [hc.1] at ho; cases ho
      rcases q with q | q | q | q
      · exact hno (by rw [q]; exact .head _)
      · exact hno (.tail _ (List.mem_append_left _ q))
      · exact nd.1 q
      · exact hno (.tail _ (List.mem_append_right _ q))
    have e : ∀ b, b ∈ own env ((c, m) :: (μ' ++ μ)) ↔ b = c ∨ b ∈ own env (μ' ++ μ) := fun b => by
      simp only [own, List.mem_cons, List.mem_append, List.map_cons]
      constructor
      · rintro (h | h | h | h)
        · exact .inr (.inl h)
        · exact .inr (.inr (.inl h))
        · exact .inl h
        · exact .inr (.inr (.inr h))
      · rintro (h | h | h | h)
        · exact .inr (.inr (.inl h))
        · exact .inl h
        · exact .inr (.inl h)
        · exact .inr (.inr (.inr h))
    refine ⟨S'.cx, S'.bh, S'.keep, fun b hb => ?_, fun p hp => ?_, ?_, S'.cells⟩
    · rcases (e b).mp hb with rfl | hb
      · exact none_down S.keep hc.1
      · exact S'.nb b hb
    · rcases List.mem_cons.mp hp with rfl | hp
      · exact hc.2
      · exact S'.led p hp
    · have h1 := S'.nd
      simp only [own, List.map_cons] at h1 hn ⊢
      have hp : (env.locals :: (env.cells.map (·.2) ++ c :: (μ' ++ μ).map (·.1))).Perm (c :: env.locals :: (env.cells.map (·.2) ++ (μ' ++ μ).map (·.1))) :=
        (List.Perm.cons _ List.perm_middle).trans (List.Perm.swap _ _ _)
      exact hp.nodup_iff.mpr (List.nodup_cons.mpr ⟨hn, h1⟩)

/-- storing into names, one by one -/
def addV : List Str → List AV → Vars → Vars
  | x :: xs, a :: as, ρ => addV xs as ((x, a) :: ρ)
  | _, _, ρ => ρ
theorem st_stores {Q : Unit → Shared → Prop} (xs : List Str) : ∀ (ts : List (Value → Sem Unit)) (vs : List Value) (as : List AV) (ρ : Vars) (h : Heap) (t : Nat), (∀ x ∈ xs, ownStore env x = true) → Oks vs as → ts.length = xs.length → as.length = xs.length →
    (∀ (i : Nat) (tr : Value → Sem Unit) (x : Str) (v : Value) (s : Shared) (Q : Unit → Shared → Prop), ts[i]? = some tr → xs[i]? = some x → wpAny (model prog w) A (storeName env x v) Q E s → wpAny (model prog w) A (tr v) Q E s) →
    St mg mb B H env ρ μ h → (∀ h' t', St mg mb B H env (addV xs as ρ) μ h' → (∀ b o, b ∉ own env μ → h.get? b = some o → h'.get? b = some o) → Q () (Sm σ h' t')) → wpAny (model prog w) A (assignInOrder ts vs) Q E (Sm σ h t) := by
  induction xs with
  | nil =>
    intro ts vs as ρ h t _ hO hl hl' _ S k
    obtain rfl : ts = [] := List.eq_nil_of_length_eq_zero hl
    obtain rfl : as = [] := List.eq_nil_of_length_eq_zero hl'
    obtain rfl : vs = [] := List.eq_nil_of_length_eq_zero hO.length
    exact wpAny_pure (k h t S fun _ _ _ e => e)
  | cons x xs ih =>
    intro ts vs as ρ h t ho hO hl hl' htr S k
    cases ts with
    | nil => cases hl
    | cons tr ts =>
      cases hO with
      | nil => cases hl'
      | cons hv hvs =>
        refine wpAny_bind (wpAny_holding ?_)
        refine htr 0 tr x _ _ _ rfl rfl ?_
        refine st_store (σ := σ) S (ho x (.head _)) hv fun h₁ t₁ S₁ k₁ => ?_
        refine ih ts _ _ _ _ _ (fun y hy => ho y (.tail _ hy)) hvs (Nat.succ.inj hl) (Nat.succ.inj hl') (fun i tr x v s Q h1 h2 => htr (i + 1) tr x v s Q ?_ ?_) S₁ fun h₂ t₂ S₂ k₂ => k h₂ t₂ S₂ fun b o hb e => k₂ b o hb (k₁ b o hb e)
        · rw [List.getElem?_cons_succ]; exact h1
        · rw [List.getElem?_cons_succ]; exact h2

theorem oks_tuple {s : Shared} {vs : List Value} {tk : Nat} : (s.heap.push { cls := .type "tuple", data := .seq vs.toArray }).IsTuple s.heap.objs.size vs.toArray := ⟨_, Heap.get?_push_size _ rfl, rfl, _, rfl⟩

/-- x, y, .. = (e, f, ..), stored in order -/
theorem ex_assignT {es : List Expr} {ss : List Slot} {xs : List Str} {elts : List Expr} {kt kt' : Nat} {tpos vpos : Pos} (hA : A.handled = none) (S : St mg mb B H env ρ μ h) (d : DenG prog w A h (spliced (backTo vpos (starEach es env))) (fun h₀ vs h' => ∃ as μ, SlOk h₀ ss vs as μ h'))
    (ho : ∀ x ∈ xs, ownStore env x = true) (hn : ss.length = xs.length) (hnt : (assignEach elts env).length = xs.length) (hstar : (assignEach elts env).findIdx? (·.1) = none)
    (htr : ∀ (i : Nat) (tr : Value → Sem Unit) (x : Str) (v : Value) (s : Shared) (Q : Unit → Shared → Prop), ((assignEach elts env).map (·.2))[i]? = some tr → xs[i]? = some x → wpAny (model prog w) A (storeName env x v) Q E s → wpAny (model prog w) A (tr v) Q E s)
    (k : ∀ as μ' h' t', Sl ss as μ' → St mg mb B H env (addV xs as ρ) (μ' ++ μ) h' → wpAny (model prog w) A (execs rest env) Q E (Sm σ h' t'))
    (hlen : xs.length ≤ 100)
    (hs : swapsWithSole [.Tuple elts kt tpos] (.Tuple es kt' vpos) pos.line env = pure false := by rfl)
    (hw : swappedStores [.Tuple elts kt tpos] (.Tuple es kt' vpos) env = pure none := by rfl) :
    wpAny (model prog w) A (execs (.Assign [.Tuple elts kt tpos] (.Tuple es kt' vpos) pos :: rest) env) Q E (Sm σ h t) := by
  refine wpAny_execs_cons (Assign_Tuple ?_ hs hw)
  refine wpAny_Tuple (d.wp (s := Sm σ h t) Keep.rfl fun vs h₁ t₁ k₁ ⟨as, μ', y⟩ => ?_)
  have hsa : as.length = ss.length := y.sh.len
  have hva : vs.length = as.length := y.ok.length
  refine ⟨by rw [hva, hsa, hn]; exact Nat.le_trans hlen (by decide), ?_⟩
  have S₁ : St mg mb B H env ρ (μ' ++ μ) h₁ := St.addL S k₁ y.fresh y.nd
  have k₂ : Keep h₁ (h₁.push { cls := .type "tuple", data := .seq vs.toArray }) := fun b o e => Heap.get?_push_of_some _ e
  refine wpAny_assign_Tuple hA (oks_tuple (s := Sm σ h₁ t₁) (tk := t₁)) (by rw [hnt, List.size_toArray, hva, hsa, hn]) hstar fun h₂ k₃ => ?_
  have k₄ : Keep h₁ h₂ := fun b o e => k₃ b o (by
    show b ≠ (h₁.push _).objs.size
    rw [Heap.size_push]
    exact Nat.ne_of_lt (Nat.lt_succ_of_lt (Heap.lt_size e))) (k₂ b o e)
  show wpAny _ _ (assignInOrder _ vs.toArray.toList) _ _ (Sm σ h₂ t₁)
  refine st_stores (σ := σ) xs _ _ as ρ h₂ t₁ ho (by simpa using y.ok) (by simpa using hnt) (by rw [hsa, hn]) htr (S₁.up k₄) fun h₃ t₃ S₃ _ => k as μ' h₃ t₃ y.sh S₃

/-- the same, two or three plain names: stored from the last to the first -/
theorem ex_assignW {es : List Expr} {ss : List Slot} {xs : List Str} {elts : List Expr} {kt kt' : Nat} {tpos vpos : Pos} (hA : A.handled = none) (S : St mg mb B H env ρ μ h) (d : DenG prog w A h (spliced (backTo vpos (starEach es env))) (fun h₀ vs h' => ∃ as μ, SlOk h₀ ss vs as μ h'))
    (ho : ∀ x ∈ xs, ownStore env x = true) (hn : ss.length = xs.length)
    (k : ∀ as μ' h' t', Sl ss as μ' → St mg mb B H env (addV xs.reverse as.reverse ρ) (μ' ++ μ) h' → wpAny (model prog w) A (execs rest env) Q E (Sm σ h' t'))
    (hlen : xs.length ≤ 100)
    (hw : swappedStores [.Tuple elts kt tpos] (.Tuple es kt' vpos) env = pure (some xs))
    (hs : swapsWithSole [.Tuple elts kt tpos] (.Tuple es kt' vpos) pos.line env = pure false := by rfl) :
    wpAny (model prog w) A (execs (.Assign [.Tuple elts kt tpos] (.Tuple es kt' vpos) pos :: rest) env) Q E (Sm σ h t) := by
  refine wpAny_execs_cons (Assign_Tuple_swapped ?_ hs hw)
  refine wpAny_Tuple (d.wp (s := Sm σ h t) Keep.rfl fun vs h₁ t₁ k₁ ⟨as, μ', y⟩ => ?_)
  have hsa : as.length = ss.length := y.sh.len
  have hva : vs.length = as.length := y.ok.length
  refine ⟨by rw [hva, hsa, hn]; exact Nat.le_trans hlen (by decide), ?_⟩
  have S₁ : St mg mb B H env ρ (μ' ++ μ) h₁ := St.addL S k₁ y.fresh y.nd
  have k₂ : Keep h₁ (h₁.push { cls := .type "tuple", data := .seq vs.toArray }) := fun b o e => Heap.get?_push_of_some _ e
  have hsz : xs.length = vs.toArray.size := by rw [List.size_toArray, hva, hsa, hn]
  rw [hsz]
  refine wpAny_unpackItems_tuple hA (oks_tuple (s := Sm σ h₁ t₁) (tk := t₁)) fun h₂ k₃ => ?_
  have k₄ : Keep h₁ h₂ := fun b o e => k₃ b o (by
    show b ≠ (h₁.push _).objs.size
    rw [Heap.size_push]
    exact Nat.ne_of_lt (Nat.lt_succ_of_lt (Heap.lt_size e))) (k₂ b o e)
  have hrev : ∀ {vs : List Value} {as : List AV}, Oks vs as → Oks vs.reverse as.reverse := by
    intro vs as h
    induction h with
    | nil => exact .nil
    | cons hh _ ih => simp only [List.reverse_cons]; exact ih.append (.cons hh .nil)
  show wpAny _ _ (assignInOrder _ vs.toArray.toList.reverse) _ _ (Sm σ h₂ t₁)
  refine st_stores (σ := σ) xs.reverse _ _ as.reverse ρ h₂ t₁ (fun x hx => ho x (List.mem_reverse.mp hx)) (by simpa using hrev y.ok) (by simp) (by simp [hsa, hn]) (fun i tr x v s Q h1 h2 hq => ?_) (S₁.up k₄) fun h₃ t₃ S₃ _ => k as μ' h₃ t₃ y.sh S₃
  simp only [List.getElem?_map, h2, Option.map_some, Option.some.injEq] at h1
  subst h1
  exact wpAny_bindName hq

theorem Is.loose {h : Heap} {c : Addr} {xs : List AV} {p : Bool} (x : Is h c (.list p xs)) : Is h c (.list false xs) := let ⟨vs, l, o⟩ := x; ⟨vs, ⟨l.1, fun e => by cases e⟩, o⟩
theorem St.loose {c : Addr} {p : Bool} {xs : List AV} {μ₁ μ₂ : Led} (S : St mg mb B H env ρ (μ₁ ++ (c, .list p xs) :: μ₂) h) : St mg mb B H env ρ (μ₁ ++ (c, .list false xs) :: μ₂) h :=
  S.change (fun _ _ _ e => e) (S.led (c, .list p xs) (by simp)).loose
theorem St.l1 {p : Addr × MO} (S : St mg mb B H env ρ (p :: μ) h) : Is h p.1 p.2 := S.led p (.head _)
theorem St.l2 {p q : Addr × MO} (S : St mg mb B H env ρ (q :: p :: μ) h) : Is h p.1 p.2 := S.led p (.tail _ (.head _))
theorem St.l3 {p q r : Addr × MO} (S : St mg mb B H env ρ (q :: r :: p :: μ) h) : Is h p.1 p.2 := S.led p (.tail _ (.tail _ (.head _)))
/-- stores that are exchanged hang on the table of names alone -/
def envS (scope : Scope) : Env := { scope := scope, locals := 0, globals := 0, cells := [] }
theorem swap_env {env env' : Env} (h : env.scope = env'.scope) (ts : List Expr) (v : Expr) : swappedStores ts v env = swappedStores ts v env' := by
  have hk : env.kindOf = env'.kindOf := by funext x; show env.scope.names.lookup x = env'.scope.names.lookup x; rw [h]
  have hb : env.blockKind = env'.blockKind := by unfold Env.blockKind; rw [h]
  unfold swappedStores
  rw [hk, hb]
theorem swapsS_env {env env' : Env} (h : env.scope = env'.scope) (v : Expr) (t : Option Expr) (l : Nat) : swapsWith v t l env = swapsWith v t l env' := by
  have hk : env.kindOf = env'.kindOf := by funext x; show env.scope.names.lookup x = env'.scope.names.lookup x; rw [h]
  have hb : env.blockKind = env'.blockKind := by unfold Env.blockKind; rw [h]
  unfold swapsWith
  rw [hk, hb, h]
theorem FEnv.swap {scope : Scope} {env : Env} {ts : List Expr} {v : Expr} {r : Option (List Str)} (F : FEnv scope env) (h : swappedStores ts v (envS scope) = pure r) : swappedStores ts v env = pure r := (swap_env (env' := envS scope) F.sc ts v).trans h
/-- a tuple of values -/
theorem den_tuple {es : List Expr} {xs : List AV} {kt : Nat} (d : DenA prog w A h env pos es (fun vs _ => Oks vs xs)) (hsz : xs.length ≤ 100000) : DenG prog w A h (eval (.Tuple es kt pos) env) (isN (.tup xs)) := by
  intro s E hk
  refine wpAny_Tuple (d.wp hk fun vs h₁ tk₁ k₁ hv => ?_)
  have hlen : vs.length = xs.length := hv.length
  refine ⟨by rw [hlen]; exact Nat.le_trans hsz (by decide), ⟨h₁.objs.size, rfl, none_down k₁ (Heap.get?_none_of_le (Nat.le_refl _)), vs, oks_tuple (s := Sm s h₁ tk₁) (tk := tk₁), hv⟩, ⟨_, tk₁, rfl, fun b o e => Heap.get?_push_of_some _ (k₁ b o e)⟩⟩
end

/-! ## Comprehensions -/
def avOf : Value → AV
  | .int n _ => .int n
  | .str s _ => .str s
  | .bool b => .bool b
  | .ref a => .ref a
  | _ => .none
theorem avOf_ok {a : AV} {v : Value} (h : a.ok v) : avOf v = a := by
  cases a with
  | int n => obtain ⟨t, rfl⟩ := h; rfl
  | str n => obtain ⟨t, rfl⟩ := h; rfl
  | bool b => cases h; rfl
  | none => cases h; rfl
  | ref a => cases h; rfl

/-- the cells that a comprehension's frame takes along -/
def clOf (names : List (Str × NameKind)) (env : Env) : List (Str × Addr) := (names.filter fun p => p.2 == .free).reverse.map fun p => (p.1, (env.cells.lookup p.1).getD 0)
theorem closure_of {scope : Scope} {env : Env} (h : ∀ p ∈ scope.names, p.2 = .free → (env.cells.lookup p.1).isSome = true) : closureFor scope env = pure (clOf scope.names env) := by
  have gen : ∀ (l : List (Str × NameKind)) (cs : List (Str × Addr)), (∀ p ∈ l, p.2 = .free → (env.cells.lookup p.1).isSome = true) →
      (forIn l cs fun x r => (do if (x.2 == NameKind.free) = true then do let a ← cellOf env x.1; pure (ForInStep.yield ((x.1, a) :: r)) else pure (ForInStep.yield r) : Sem (ForInStep (List (Str × Addr))))) = pure (((l.filter fun p => p.2 == .free).reverse.map fun p => (p.1, (env.cells.lookup p.1).getD 0)) ++ cs) := by
    intro l
    induction l with
    | nil => intro cs _; simp [List.forIn_nil]
    | cons p r ih =>
      intro cs hp
      obtain ⟨n, kd⟩ := p
      rw [List.forIn_cons]
      by_cases hk : kd = .free
      · subst hk
        obtain ⟨c, hc⟩ := Option.isSome_iff_exists.mp (hp (n, .free) (.head _) rfl)
        have : cellOf env n = pure c := by unfold cellOf; rw [hc]
        simp only [beq_self_eq_true, if_true, this, pure_bind]
        rw [ih _ fun q hq => hp q (.tail _ hq)]
        simp [hc]
      · have hb : (kd == NameKind.free) = false := by simpa using hk
        simp only [hb, Bool.false_eq_true, if_false, pure_bind]
        rw [ih _ fun q hq => hp q (.tail _ hq)]
        simp [hb]
  have := gen scope.names [] h
  unfold closureFor clOf
  simp only [List.append_nil] at this
  show ((forIn scope.names ([] : List (Str × Addr)) fun x r => (do if (x.2 == NameKind.free) = true then do let a ← cellOf env x.1; pure (ForInStep.yield ((x.1, a) :: r)) else pure (ForInStep.yield r) : Sem (ForInStep (List (Str × Addr))))) >>= fun s => pure s) = _
  rw [this]
  rfl
theorem clOf_mem {names : List (Str × NameKind)} {env : Env} {x : Str} {c : Addr} (h : (clOf names env).lookup x = some c) : (x, NameKind.free) ∈ names ∧ (env.cells.lookup x).getD 0 = c := by
  have := mem_cells h
  unfold clOf at this
  obtain ⟨⟨n, k⟩, hp, e⟩ := List.mem_map.mp this
  have hp := List.mem_filter.mp (List.mem_reverse.mp hp)
  obtain ⟨h1, h2⟩ := hp
  simp only [Prod.mk.injEq] at e
  obtain ⟨rfl, rfl⟩ := e
  have : k = .free := eq_of_beq h2
  subst this
  exact ⟨h1, rfl⟩
theorem clOf_some {names : List (Str × NameKind)} {env : Env} {x : Str} (h : (x, NameKind.free) ∈ names) : ((clOf names env).lookup x).isSome = true := by
  have : (x, (env.cells.lookup x).getD 0) ∈ clOf names env := List.mem_map.mpr ⟨(x, .free), List.mem_reverse.mpr (List.mem_filter.mpr ⟨h, rfl⟩), rfl⟩
  revert this; generalize clOf names env = l; intro hm
  induction l with
  | nil => cases hm
  | cons p r ih =>
    obtain ⟨y, d⟩ := p
    simp only [List.lookup_cons]
    split
    · rfl
    · rename_i hne
      rcases List.mem_cons.mp hm with q | q
      · cases q; simp at hne
      · exact ih q

/-- the frame of a comprehension of table cs within a function of table fs -/
structure CEnv (cs fs : Scope) (env : Env) : Prop where
  ex : ∃ C fenv, env = compEnvC cs (clOf cs.names fenv) C fenv ∧ FEnv fs fenv ∧ fenv.scope.kind = .function
def cvarOk (cs fs : Scope) (x : Str) : Bool := match cs.names.lookup x with
  | some .local => true
  | some .free => fs.names.lookup x == some .cell
  | _ => false
theorem relabel_look {names : List (Str × NameKind)} {env : Env} {x : Str} :
    (names.map fun (n, k) => if (k == NameKind.free && env.scope.kind == .function && env.kindOf n == some .cell) then (n, NameKind.cell) else (n, k)).lookup x =
      (names.lookup x).map fun k => if (k == NameKind.free && env.scope.kind == .function && env.kindOf x == some .cell) then NameKind.cell else k := by
  induction names with
  | nil => rfl
  | cons p r ih =>
    obtain ⟨n, k⟩ := p
    by_cases hx : (x == n) = true
    · have := eq_of_beq hx; subst this
      by_cases hc : (k == NameKind.free && env.scope.kind == .function && env.kindOf x == some .cell) = true
      · simp only [List.map_cons, hc, if_true, List.lookup_cons, beq_self_eq_true, Option.map_some]
      · simp only [List.map_cons, hc, if_false, List.lookup_cons, beq_self_eq_true, Option.map_some]
        simp [hc]
    · have hx : (x == n) = false := by simpa using hx
      by_cases hc : (k == NameKind.free && env.scope.kind == .function && env.kindOf n == some .cell) = true
      · simp only [List.map_cons, hc, if_true, List.lookup_cons, hx]; exact ih
      · have hc : (k == NameKind.free && env.scope.kind == .function && env.kindOf n == some .cell) = false := by simpa using hc
        simp only [List.map_cons, hc, Bool.false_eq_true, if_false, List.lookup_cons, hx]; exact ih
theorem CEnv.kind {cs fs : Scope} {env : Env} (F : CEnv cs fs env) (x : Str) : env.kindOf x = (cs.names.lookup x).map fun k => if (k == NameKind.free && fs.names.lookup x == some .cell) then NameKind.cell else k := by
  obtain ⟨C, fenv, rfl, FE, hk⟩ := F.ex
  have h1 : (compEnvC cs (clOf cs.names fenv) C fenv).kindOf x = (relabel cs fenv).names.lookup x := rfl
  rw [h1]
  show (cs.names.map _).lookup x = _
  rw [relabel_look]
  have h2 : fenv.kindOf x = fs.names.lookup x := by show fenv.scope.names.lookup x = _; rw [FE.sc]
  rw [h2, hk]
  simp
theorem CEnv.var {cs fs : Scope} {env : Env} {x : Str} (F : CEnv cs fs env) (h : cvarOk cs fs x = true) : ownVar env x = true := by
  unfold cvarOk at h; unfold ownVar
  rw [F.kind x]
  split at h
  · rename_i e; rw [e]; simp
  · rename_i e
    rw [e]
    simp only [Option.map_some, h, beq_self_eq_true, Bool.and_self, if_true]
    obtain ⟨C, fenv, rfl, FE, hk⟩ := F.ex
    refine clOf_some ?_
    clear h
    revert e; generalize cs.names = l; intro e
    induction l with
    | nil => simp at e
    | cons p r ih =>
      obtain ⟨n, k⟩ := p
      simp only [List.lookup_cons] at e
      split at e
      · rename_i hx; cases e; rw [eq_of_beq hx]; exact .head _
      · exact .tail _ (ih e)
  · cases h
theorem CEnv.glob {cs fs : Scope} {env : Env} {x : Str} (F : CEnv cs fs env) (h : globOk cs x = true) : env.kindOf x = some .globalImplicit := by
  rw [F.kind x, eq_of_beq h]; rfl

/-- what a comprehension asks of its tables: the target(s), and the outer names that it reads -/
def compOk (cs fs : Scope) (ts xs : List Str) : Bool :=
  ts.all (fun x => cs.names.lookup x == some .local && !(cs.names.any fun p => p.1 == x && p.2 == .free)) &&
  cs.names.all (fun p => p.2 != .cell) && (cs.kind == .function) && cs.names.all (fun p => p.2 != .local || cs.names.lookup p.1 == some .local) &&
  cs.names.all (fun p => p.2 != .free || fs.names.lookup p.1 == some .cell) && xs.all (fun x => cs.names.lookup x == some .free)

section
variable {prog : Program} {w : World} {A : Around} {mg mb : Str → Option Value} {B H h : Heap} {env : Env} {ρ : Vars} {μ : Led} {σ : Shared} {t : Nat} {v : Value} {E : Value → Shared → Prop}
  {pos px p1 p2 p3 : Pos} {e e1 e2 e3 l r : Expr} {x y : Str} {rest : List Stmt} {Q : Flow → Shared → Prop} {cs fs : Scope}

theorem comp_closure {ts xs : List Str} (FE : FEnv fs env) (hok : compOk cs fs ts xs = true) : closureFor cs env = pure (clOf cs.names env) := by
  refine closure_of fun p hp hf => ?_
  simp only [compOk, Bool.and_eq_true] at hok
  have := List.all_eq_true.mp hok.1.2 p hp
  rw [hf] at this
  obtain ⟨n, hc⟩ := FE.cl
  rw [hc]
  exact cells_some _ _ _ (.inl (by simpa using this))

/-- the context of a turn -/
theorem comp_cx {C : Addr} {h' : Heap} {ts : List Str} {τ ρ' : Vars} {m : Str → Option Value} (FE : FEnv fs env) (Cx₀ : Cx mg mb B env ρ h) (k : Keep h h') (hsub : Sub ρ' ρ) (hok : compOk cs fs ts (ρ'.map (·.1)) = true) (hts : ∀ q ∈ τ, q.1 ∈ ts)
    (hm : h'.Ns C m) (hτ : ∀ x a, Lk τ x a → ∃ v, m x = some v ∧ a.ok v) : CEnv cs fs (compEnvC cs (clOf cs.names env) C env) ∧ Cx mg mb B (compEnvC cs (clOf cs.names env) C env) (τ ++ ρ') h' := by
  have CE : CEnv cs fs (compEnvC cs (clOf cs.names env) C env) := ⟨C, env, rfl, FE, Cx₀.fk⟩
  refine ⟨CE, Cx₀.gd, Cx₀.kb.trans k, ?_, Cx₀.fg, Cx₀.fb, ⟨m, hm, fun y a hy hl => ?_⟩, fun y a c hc hl => ?_⟩
  · simp only [compOk, Bool.and_eq_true] at hok
    exact eq_of_beq hok.1.1.1.2
  · have hl' : Lk τ y a ∨ (y, a) ∈ ρ' := by
      clear hτ hts
      induction τ with
      | nil => right; exact mem_cells' hl
      | cons q r ih =>
        obtain ⟨z, d⟩ := q
        simp only [Lk, List.cons_append, List.lookup_cons] at hl ⊢
        split at hl
        · rename_i e; left; exact hl
        · exact ih hl
    rcases hl' with hl' | hl'
    · exact hτ y a hl'
    · exfalso
      simp only [compOk, Bool.and_eq_true] at hok
      have h1 := List.all_eq_true.mp hok.2 y (List.mem_map.mpr ⟨_, hl', rfl⟩)
      rw [CE.kind y, eq_of_beq h1] at hy
      simp only [Option.map_some] at hy
      split at hy <;> cases hy
  · obtain ⟨hfree, hcc⟩ := clOf_mem hc
    have hyτ : ∀ q ∈ τ, q.1 ≠ y := fun q hq e => by
      simp only [compOk, Bool.and_eq_true] at hok
      have h1 := List.all_eq_true.mp hok.1.1.1.1.1 q.1 (hts q hq)
      simp only [Bool.and_eq_true, Bool.not_eq_true'] at h1
      have h2 : (cs.names.any fun p => p.1 == q.1 && p.2 == .free) = true := List.any_eq_true.mpr ⟨_, hfree, by simp [e]⟩
      rw [h2] at h1; cases h1.2
    have hl' : Lk ρ' y a := by
      clear hτ hts
      induction τ with
      | nil => exact hl
      | cons q r ih =>
        obtain ⟨z, d⟩ := q
        simp only [Lk, List.cons_append, List.lookup_cons] at hl
        split at hl
        · rename_i e; exact absurd (eq_of_beq e).symm (hyτ (z, d) (.head _))
        · exact ih hl fun q hq => hyτ q (.tail _ hq)
    have hex : (env.cells.lookup y).isSome = true := by
      simp only [compOk, Bool.and_eq_true] at hok
      have := List.all_eq_true.mp hok.1.2 _ hfree
      obtain ⟨n, hcl⟩ := FE.cl
      rw [hcl]
      exact cells_some _ _ _ (.inl (by simpa using this))
    obtain ⟨d, hd⟩ := Option.isSome_iff_exists.mp hex
    rw [hd] at hcc
    cases hcc
    exact (Cx₀.up k).cel y a _ hd (hsub y a hl')
end

section
variable {prog : Program} {w : World} {A : Around} {mg mb : Str → Option Value} {B H h : Heap} {env : Env} {ρ : Vars} {μ : Led} {σ : Shared} {t : Nat} {v : Value} {E : Value → Shared → Prop}
  {pos px py p1 p2 p3 spos : Pos} {e e1 e2 e3 l r : Expr} {x y : Str} {rest : List Stmt} {Q : Flow → Shared → Prop} {cs fs : Scope}

/-- the tests of a clause -/
abbrev ifsT (ifs : List Expr) (env : Env) : Sem Bool := forIn ifs true fun c r => if r = true then do let ok ← isTrue c env (eval c env); pure (ForInStep.yield ok) else pure (ForInStep.yield r)
theorem ifs_none : Den prog w A h (ifsT [] env) (isT true) := fun s E hk => wpAny_pure ⟨rfl, Keeps.rfl'⟩
theorem ifs_one {c : Expr} {d : Bool} (ht : Den prog w A h (isTrue c env (eval c env)) (isT d)) : Den prog w A h (ifsT [c] env) (isT d) := by
  intro s E hk
  unfold ifsT
  rw [List.forIn_cons]
  simp only [if_true]
  refine wpAny_bind (wpAny_bind (ht.wp hk fun u h₁ tk₁ k₁ hu => ?_))
  refine wpAny_pure ?_
  simp only
  rw [List.forIn_nil]
  exact wpAny_pure ⟨hu, ⟨h₁, tk₁, rfl, k₁⟩⟩

theorem comp_out {vs ys : List Value} {n : Nat} {item : Nat → AV} {p : AV → Bool} {out : AV → AV} (hlen : vs.length = n) (hP : ∀ j v, vs[j]? = some v → (item j).ok v)
    (hF : Paired (fun v y => (out (avOf v)).ok y) (vs.filter fun v => p (avOf v)) ys) : Oks ys ((((List.range n).map item).filter p).map out) := by
  have e : ((List.range n).map item) = vs.map avOf := by
    apply List.ext_getElem?
    intro j
    by_cases hj : j < n
    · have hj' : j < vs.length := by omega
      have := avOf_ok (hP j vs[j] (by simp [hj']))
      simp [hj, hj', this]
    · have h1 : n ≤ j := by omega
      have h2 : vs.length ≤ j := by omega
      simp [h1, h2]
  rw [e]
  have gen : ∀ (vs ys : List Value), Paired (fun v y => (out (avOf v)).ok y) (vs.filter fun v => p (avOf v)) ys → Oks ys (((vs.map avOf).filter p).map out) := by
    intro vs
    induction vs with
    | nil => intro ys h; cases h; exact .nil
    | cons v vs ih =>
      intro ys h
      by_cases hp : p (avOf v) = true
      · simp only [List.filter_cons, hp, if_true] at h
        cases h with
        | cons hh ht =>
          simp only [List.map_cons, List.filter_cons, hp, if_true]
          exact .cons hh (ih _ ht)
      · simp only [List.filter_cons, hp, if_false, Bool.false_eq_true] at h
        simp only [List.map_cons, List.filter_cons, hp, if_false, Bool.false_eq_true]
        exact ih _ h
  exact gen vs ys hF

theorem comp_quiet {wr : List Addr} {n : Nat} {item : Nat → AV} {ifs : List Expr} {elt : Expr} {p : AV → Bool} {out : AV → AV} {ρ' : Vars} {s s₂ : Shared}
    (FE : FEnv fs env) (C : Cx mg mb B env ρ h) (hsub : Sub ρ' ρ) {xs : List Str} (hok : compOk cs fs [x] xs = true) (hxs : ρ'.map (·.1) = xs) (hk : Keep h s.heap) (k₂ : Keep s.heap s₂.heap) (hwr : ∀ b ∈ wr, s.heap.get? b = none)
    (tests : ∀ i h' cenv, i < n → Keep h h' → CEnv cs fs cenv → Cx mg mb B cenv ((x, item i) :: ρ') h' → Den prog w A h' (ifsT ifs cenv) (isT (p (item i))))
    (elts : ∀ i h' cenv, i < n → p (item i) = true → Keep h h' → CEnv cs fs cenv → Cx mg mb B cenv ((x, item i) :: ρ') h' → Den prog w A h' (eval elt cenv) (is (out (item i)))) :
    QuietOnC prog w A env cs (clOf cs.names env) x ifs elt wr (fun i v => i < n ∧ (item i).ok v) (fun v => p (avOf v)) (fun v y => (out (avOf v)).ok y) s₂ := by
  have up : ∀ {h' : Heap}, (∀ b o, b ∉ wr → s₂.heap.get? b = some o → h'.get? b = some o) → Keep h h' := fun kk b o e => kk b o (fun q => by have := hwr b q; rw [hk _ _ e] at this; cases this) (k₂ b o (hk b o e))
  have hl : ∀ {i : Nat} {v : Value} {m₃ : Str → Option Value}, (item i).ok v → m₃ x = some v → ∀ y a, Lk [(x, item i)] y a → ∃ u, m₃ y = some u ∧ a.ok u := fun hv hm y a hy => by
    simp only [Lk, List.lookup_cons] at hy
    split at hy
    · rename_i e; cases hy; rw [eq_of_beq e]; exact ⟨_, hm, hv⟩
    · simp at hy
  refine ⟨fun C' i v s₃ m₃ E' hC hv hn hm kk htk => ?_, fun C' i v s₃ m₃ E' hC hv hp hn hm kk htk => ?_⟩
  · obtain ⟨CE, C₃⟩ := comp_cx (cs := cs) FE C (up kk) hsub (hxs ▸ hok) (ts := [x]) (τ := [(x, item i)]) (by simp) hn (hl hv.2 hm)
    rw [avOf_ok hv.2]
    exact wpAny_mono (tests i s₃.heap _ hv.1 (up kk) CE C₃ s₃ E' Keep.rfl) (fun ok s' y => ⟨y.1, y.2⟩) fun _ _ e => e
  · obtain ⟨CE, C₃⟩ := comp_cx (cs := cs) FE C (up kk) hsub (hxs ▸ hok) (ts := [x]) (τ := [(x, item i)]) (by simp) hn (hl hv.2 hm)
    rw [avOf_ok hv.2] at hp ⊢
    exact wpAny_mono (elts i s₃.heap _ hv.1 hp (up kk) CE C₃ s₃ E' Keep.rfl) (fun ok s' y => ⟨y.1, y.2⟩) fun _ _ e => e

theorem compOk_parts {ts xs : List Str} (hok : compOk cs fs ts xs = true) : (∀ z ∈ cs.names, z.2 ≠ .cell) ∧ cs.kind = .function ∧ (∀ z ∈ cs.names, z.2 = .local → cs.names.lookup z.1 = some .local) ∧ ∀ x ∈ ts, cs.names.lookup x = some .local := by
  simp only [compOk, Bool.and_eq_true] at hok
  obtain ⟨⟨⟨⟨⟨h1, h2⟩, h3⟩, h4⟩, h5⟩, h6⟩ := hok
  refine ⟨fun z hz e => ?_, eq_of_beq h3, fun z hz e => ?_, fun x hx => ?_⟩
  · have := List.all_eq_true.mp h2 z hz; rw [e] at this; cases this
  · have := List.all_eq_true.mp h4 z hz; rw [e] at this; simpa using this
  · have := List.all_eq_true.mp h1 x hx
    simp only [Bool.and_eq_true] at this
    exact eq_of_beq this.1

theorem walks_bound {I : Addr} {fp wr : List Addr} {n : Nat} {P : Nat → Value → Prop} {St : Nat → Heap → Prop} (W : Walks prog w A I fp wr n P St) : Walks prog w A I fp wr n (fun i v => i < n ∧ P i v) St := walks_mono W fun i v hi hv => ⟨hi, hv⟩

/-- [elt for x in iter if ..] -/
theorem den_comp {n : Nat} {item : Nat → AV} {ifs : List Expr} {elt iter : Expr} (p : AV → Bool) (out : AV → AV) (ρ' : Vars) (xs : List Str)
    (FE : FEnv fs env) (C : Cx mg mb B env ρ h) (hsub : Sub ρ' ρ) (hok : compOk cs fs [x] xs = true) (hxs : ρ'.map (·.1) = xs) (src : Src prog w A H h (eval iter env) n item) (hn : n ≤ 100000)
    (tests : ∀ i h' cenv, i < n → Keep h h' → CEnv cs fs cenv → Cx mg mb B cenv ((x, item i) :: ρ') h' → Den prog w A h' (ifsT ifs cenv) (isT (p (item i))))
    (elts : ∀ i h' cenv, i < n → p (item i) = true → Keep h h' → CEnv cs fs cenv → Cx mg mb B cenv ((x, item i) :: ρ') h' → Den prog w A h' (eval elt cenv) (is (out (item i))))
    (hs : ∀ x, foldedSetIterable iter env x = pure x := by intro _; rfl) :
    DenG prog w A h (eval (.ListComp elt [⟨.Name x px, iter, ifs, 0⟩] cs pos) env) (isN (.list true ((((List.range n).map item).filter p).map out))) := by
  obtain ⟨q1, q2, q3, q4⟩ := compOk_parts hok
  intro s E hk
  refine wpAny_ListComp_free (fun v => p (avOf v)) (fun v y => (out (avOf v)).ok y) (comp_closure FE hok) q1 q2 q3 (q4 x (.head _)) (wpAny_mono (src s E hk) (fun xv s₁ h₁ => wpAny_mono h₁ (fun it s₂ h₂ => ?_) fun _ _ e => e) fun _ _ e => e) hs
  obtain ⟨⟨⟨I, fp, wr, Stt, rfl, W, hst, hlive, hwr, hfp⟩⟩, h₂', t₂, rfl, k₂⟩ := h₂
  refine ⟨I, fp, wr, n, _, Stt, rfl, walks_bound W, Nat.le_trans hn (by decide), hst, fun b hb => (by obtain ⟨o, ho⟩ := hlive _ _ hst b hb; exact Heap.lt_size ho), comp_quiet FE C hsub hok hxs hk k₂ hwr tests elts, fun D h' tk ys vs hD hl hpl hlen hP hF kk => ?_⟩
  have kf : Keep s.heap h' := fun b o e => kk b o (fun q => by have := hwr b q; rw [e] at this; cases this) (k₂ b o e)
  refine ⟨⟨D, rfl, none_down k₂ hD, ys.toList, ⟨?_, fun _ => ?_⟩, comp_out hlen (fun j v hv => (hP j v hv).2) hF⟩, ⟨h', tk, rfl, kf⟩⟩
  · simpa using hl
  · simpa using hpl

/-- y = [elt for x in iter if ..], y a plain name -/
theorem ex_comp {n : Nat} {item : Nat → AV} {ifs : List Expr} {elt iter : Expr} (p : AV → Bool) (out : AV → AV) (ρ' : Vars) (xs : List Str)
    (FE : FEnv fs env) (S : St mg mb B H env ρ [] h) (hsub : Sub ρ' ρ) (hok : compOk cs fs [x] xs = true) (hxs : ρ'.map (·.1) = xs) (src : Src prog w A H h (eval iter env) n item) (hn : n ≤ 100000)
    (hy : env.kindOf y = some .local) (hys : ownStore env y = true)
    (tests : ∀ i h' cenv, i < n → Keep h h' → CEnv cs fs cenv → Cx mg mb B cenv ((x, item i) :: ρ') h' → Den prog w A h' (ifsT ifs cenv) (isT (p (item i))))
    (elts : ∀ i h' cenv, i < n → p (item i) = true → Keep h h' → CEnv cs fs cenv → Cx mg mb B cenv ((x, item i) :: ρ') h' → Den prog w A h' (eval elt cenv) (is (out (item i))))
    (hsw : swapsWith (.ListComp elt [⟨.Name x px, iter, ifs, 0⟩] cs pos) (some (.Name y py)) spos.line env = pure true)
    (k : ∀ c H' h' t', Keep H H' → Is H' c (.list true ((((List.range n).map item).filter p).map out)) → St mg mb B H' env ((y, .ref c) :: ρ) [] h' → wpAny (model prog w) A (execs rest env) Q E (Sm σ h' t'))
    (hs : ∀ x, foldedSetIterable iter env x = pure x := by intro _; rfl) :
    wpAny (model prog w) A (execs (.Assign [.Name y py] (.ListComp elt [⟨.Name x px, iter, ifs, 0⟩] cs pos) spos :: rest) env) Q E (Sm σ h t) := by
  obtain ⟨q1, q2, q3, q4⟩ := compOk_parts hok
  have hp : (env.scope.kind == .class || (env.scope.kind == .module && env.locals != env.globals)) = false := by rw [S.cx.fk]; rfl
  refine wpAny_execs_cons ?_
  refine wpAny_Assign_ListComp_free (fun v => p (avOf v)) (fun v y => (out (avOf v)).ok y) hsw (comp_closure FE hok) q1 q2 q3 (q4 x (.head _)) hy hp (wpAny_mono (src (Sm σ h t) E Keep.rfl) (fun xv s₁ h₁ => wpAny_mono h₁ (fun it s₂ h₂ => ?_) fun _ _ e => e) fun _ _ e => e) hs
  obtain ⟨⟨⟨I, fp, wr, Stt, rfl, W, hst, hlive, hwr, hfp⟩⟩, h₂', t₂, rfl, k₂⟩ := h₂
  have S₂ := S.up k₂
  obtain ⟨m, hm, hml⟩ := S₂.cx.loc
  have hLw : env.locals ∉ wr := fun q => by
    obtain ⟨o, ho⟩ := S.alive (b := env.locals) (.head _)
    have : h.get? env.locals = none := hwr _ q
    rw [this] at ho; cases ho
  refine ⟨I, fp, wr, n, _, Stt, m, rfl, walks_bound W, Nat.le_trans hn (by decide), hst, fun b hb => (by obtain ⟨o, ho⟩ := hlive _ _ hst b hb; exact Heap.lt_size ho), hLw, hm, comp_quiet (s := Sm σ h t) FE S.cx hsub hok hxs Keep.rfl k₂ hwr tests elts, fun D h' tk ys vs hD hl hpl hlen hP hF hn' kk => ?_⟩
  have kf : ∀ b o, b ≠ env.locals → h.get? b = some o → h'.get? b = some o := fun b o hb e => kk b o hb (fun q => by have : h.get? b = none := hwr b q; rw [e] at this; cases this) (k₂ b o e)
  have hDI : Is h' D (.list true ((((List.range n).map item).filter p).map out)) := ⟨ys.toList, ⟨by simpa using hl, fun _ => by simpa using hpl⟩, comp_out hlen (fun j v hv => (hP j v hv).2) hF⟩
  have kH : Keep H h' := fun b o e => kf b o (fun q => by have := S.nb b (by rw [q]; exact .head _); rw [e] at this; cases this) (S.keep b o e)
  have hnd := S.nd
  simp only [own, List.map_nil, List.append_nil, List.nodup_cons] at hnd
  have hcell : ∀ c ∈ env.cells.map (·.2), c ≠ env.locals := fun c hc q => hnd.1 (q ▸ hc)
  have hyc : (env.cells.lookup y).isSome = false := by
    unfold ownStore at hys; rw [hy] at hys; simpa using hys
  have S' : St mg mb B H env ((y, .ref D) :: ρ) [] h' := by
    refine ⟨⟨S.cx.gd, S.bh.trans kH, S.cx.fk, S.cx.fg, S.cx.fb, ⟨_, hn', fun z a hz hl => ?_⟩, fun z a c hc hl => ?_⟩, S.bh, kH, S.nb, fun p hp => (nomatch hp), S.nd, fun c hc => ?_⟩
    · simp only [Lk, List.lookup_cons] at hl
      split at hl
      · rename_i e; cases hl; have := eq_of_beq e; subst this; exact ⟨_, by simp, rfl⟩
      · rename_i e
        obtain ⟨u, hu, hu'⟩ := hml z a hz hl
        have : z ≠ y := fun q => by subst q; simp at e
        exact ⟨u, by simp [this, hu], hu'⟩
    · simp only [Lk, List.lookup_cons] at hl
      split at hl
      · rename_i e; have := eq_of_beq e; subst this; rw [hc] at hyc; simp at hyc
      · obtain ⟨u, ⟨o, ho, r⟩, hu'⟩ := S.cx.cel z a c hc hl
        exact ⟨u, ⟨o, kf _ o (hcell c (List.mem_map.mpr ⟨_, mem_cells hc, rfl⟩)) ho, r⟩, hu'⟩
    · obtain ⟨u, o, ho, r⟩ := S.cells c hc
      exact ⟨u, o, kf _ o (hcell c hc) ho, r⟩
  obtain ⟨H', kHH, S'', kr⟩ := S'.rebase
  have hDo : D ∉ own env [] := fun q => by
    rcases List.mem_cons.mp q with q | q
    · exact S'.ne_ns hDI q
    · simp only [List.map_nil, List.append_nil] at q; exact S'.ne_cell hDI q
  exact k D H' h' tk kHH (hDI.at fun o e => kr D o e hDo) S''
theorem src_mono {t : Sem Value} {n : Nat} {i i' : Nat → AV} (S : Src prog w A H h t n i) (hi : ∀ k, k < n → i k = i' k) : Src prog w A H h t n i' :=
  fun s E hk => wpAny_mono (S s E hk) (fun x s₁ h₁ => wpAny_mono h₁ (fun it s₂ h₂ => by
    obtain ⟨⟨⟨I, fp, wr, Stt, e, W, r⟩⟩, k⟩ := h₂
    exact ⟨⟨⟨I, fp, wr, Stt, e, walks_mono W fun j v hj hv => hi j hj ▸ hv, r⟩⟩, k⟩) fun _ _ e => e) fun _ _ e => e
/-- over a list of ints that stands, by its name -/
theorem src_name {c : Addr} {p : Bool} {xs : List AV} (hA : A.handled = none) (C : Cx mg mb B env ρ h) (hl : Lk ρ x (.ref c)) (ho : ownVar env x = true) (hd : (x == ("__debug__" : Str)) = false) (hI : Is H c (.list p xs)) (kH : Keep H h) :
    Src prog w A H h (eval (.Name x px) env) xs.length (fun i => xs.getD i .none) := by
  refine src_list (p := p) hA ?_
  intro s E hk
  refine (den_name C hl ho hd).wp hk fun v h₁ t₁ k₁ hv => ?_
  cases hv
  exact ⟨⟨c, rfl, hI.up ((kH.trans hk).trans k₁), .inr hI.alive⟩, ⟨h₁, t₁, rfl, k₁⟩⟩
theorem src_ints {c : Addr} {p : Bool} {ns : List Int} (hA : A.handled = none) (C : Cx mg mb B env ρ h) (hl : Lk ρ x (.ref c)) (ho : ownVar env x = true) (hd : (x == ("__debug__" : Str)) = false) (hI : Is H c (.ints p ns)) (kH : Keep H h) :
    Src prog w A H h (eval (.Name x px) env) ns.length (fun i => .int (ns.getD i 0)) := by
  have := src_name (prog := prog) (w := w) (px := px) hA C hl ho hd hI kH
  rw [List.length_map] at this
  exact src_mono this fun k hk => by simp [List.getD, hk]
/-- a new list, walked over at once -/
theorem src_new {m : MO} {p : Bool} {xs : List AV} (hA : A.handled = none) (d : DenG prog w A h (eval e env) (isN (.list p xs))) : Src prog w A H h (eval e env) xs.length (fun i => xs.getD i .none) :=
  src_list (p := p) hA (d.mono fun _ _ _ ⟨c, e, hn, hI⟩ => ⟨c, e, hI, .inl hn⟩)
theorem comp_ints {n : Nat} {f : Nat → Int} {p : AV → Bool} {out : AV → AV} {g : Int → Int} (hout : ∀ z, out (.int z) = .int (g z)) :
    ((((List.range n).map fun i => AV.int (f i)).filter p).map out) = ((((List.range n).map f).filter fun z => p (.int z)).map g).map AV.int := by
  have e : (List.range n).map (fun i => AV.int (f i)) = ((List.range n).map f).map AV.int := by simp
  rw [e, List.filter_map, List.map_map, List.map_map]
  congr 1
  funext z; exact hout z
end

local macro_rules | `(tactic| walk_at "lk") => `(tactic| first | with_reducible exact Lk.head | ((with_reducible refine Lk.tail (by decide +kernel) ?_); walk_at "lk"))
local macro_rules | `(tactic| walk_at "cx") => `(tactic| first | with_reducible assumption | with_reducible exact St.cx (by with_reducible assumption))
local macro_rules | `(tactic| walk_at "own") => `(tactic| first | with_reducible exact FEnv.var (by with_reducible assumption) (by decide +kernel) | with_reducible exact CEnv.var (by with_reducible assumption) (by decide +kernel))
local macro_rules | `(tactic| walk_at "sto") => `(tactic| with_reducible exact FEnv.store (by with_reducible assumption) (by decide +kernel))
local macro_rules | `(tactic| walk_at "gl") => `(tactic| first | with_reducible exact FEnv.glob (by with_reducible assumption) (by decide +kernel) | with_reducible exact CEnv.glob (by with_reducible assumption) (by decide +kernel))
local macro_rules | `(tactic| walk_at "ar") => `(tactic| first | with_reducible assumption | decide | omega | exact Int.pow_pos (by decide))
local macro_rules | `(tactic| walk_at "E") => `(tactic| first
  | with_reducible exact den_int
  | with_reducible exact den_str
  | with_reducible exact den_bool
  | ((with_reducible refine' den_name ?k0 ?k1 ?k2 ?k3); (case k0 => walk_at "cx"); (case k1 => walk_at "lk"); (case k2 => walk_at "own"); (case k3 => decide +kernel))
  | ((with_reducible refine' den_add ?k1 ?k2); (case k1 => walk_at "E"); (case k2 => walk_at "E"))
  | ((with_reducible refine' den_sub ?k1 ?k2); (case k1 => walk_at "E"); (case k2 => walk_at "E"))
  | ((with_reducible refine' den_mul ?k1 ?k2 ?k3); (case k1 => walk_at "E"); (case k2 => walk_at "E"); (case k3 => walk_at "mul"))
  | ((with_reducible refine' den_modp ?k1 ?k2 ?k3); (case k1 => walk_at "E"); (case k2 => walk_at "E"); (case k3 => walk_at "ar"))
  | ((with_reducible refine' den_and ?k1 ?k2); (case k1 => walk_at "E"); (case k2 => walk_at "E"))
  | ((with_reducible refine' den_or ?k1 ?k2); (case k1 => walk_at "E"); (case k2 => walk_at "E"))
  | ((with_reducible refine' den_neg ?k1); (case k1 => walk_at "E"))
  | ((with_reducible refine' b_isinstance_int ?k0 ?k1 ?k2 ?k3 ?k4 ?k9); (case k0 => walk_at "cx"); (case k1 => with_reducible assumption); (case k2 => walk_at "gl"); (case k3 => walk_at "gl"); (case k4 => walk_at "E"); (case k9 => exact rfl))
  | ((with_reducible refine' b_isinstance_str ?k0 ?k1 ?k2 ?k3 ?k4 ?k9); (case k0 => walk_at "cx"); (case k1 => with_reducible assumption); (case k2 => walk_at "gl"); (case k3 => walk_at "gl"); (case k4 => walk_at "E"); (case k9 => exact rfl))
  | ((with_reducible refine' b_ord ?k0 ?k1 ?k2 ?k3 ?k9); (case k0 => walk_at "cx"); (case k1 => with_reducible assumption); (case k2 => walk_at "gl"); (case k3 => walk_at "E"); (case k9 => exact rfl))
  | ((with_reducible refine' b_chr ?k0 ?k1 ?k2 ?k3 ?k4 ?k5 ?k9); (case k0 => walk_at "cx"); (case k1 => with_reducible assumption); (case k2 => walk_at "gl"); (case k3 => walk_at "E"); (case k4 => walk_at "ar"); (case k5 => walk_at "ar"); (case k9 => exact rfl))
  | ((with_reducible refine' den_divp ?k1 ?k2 ?k3 ?k4); (case k1 => walk_at "E"); (case k2 => walk_at "E"); (case k3 => walk_at "ar"); (case k4 => first | decide +kernel | with_reducible assumption))
  | ((with_reducible refine' den_shrp ?k1 ?k2 ?k3); (case k1 => walk_at "E"); (case k2 => walk_at "E"); (case k3 => walk_at "ar"))
  | ((with_reducible refine' den_pow2 ?k1 ?k2 ?k3); (case k1 => walk_at "E"); (case k2 => walk_at "E"); (case k3 => walk_at "ar"))
  | ((with_reducible refine' b_len ?k0 ?k1 ?k2 ?k3 ?k4 ?k9); (case k0 => walk_at "cx"); (case k1 => with_reducible assumption); (case k2 => walk_at "gl"); (case k3 => walk_at "O"); (case k4 => walk_at "ar"); (case k9 => exact rfl))
  | (walk_at "E2"))
local macro_rules | `(tactic| walk_at "T") => `(tactic| first
  | ((with_reducible refine' test_cmpI ?k1 ?k2 ?k3 ?k9); (case k1 => walk_at "E"); (case k2 => walk_at "E"); (case k3 => exact rfl); (case k9 => with_unfolding_all rfl))
  | ((with_reducible refine' test_not ?k1); (case k1 => walk_at "T"))
  | ((with_reducible refine' test_int ?k1 ?k9); (case k1 => walk_at "E"); (case k9 => exact rfl))
  | ((with_reducible refine' test_bool ?k1 ?k9); (case k1 => walk_at "E"); (case k9 => exact rfl)))
local macro_rules | `(tactic| walk_at "A") => `(tactic| first
  | exact argsT_none
  | ((with_reducible refine' argsT_more ?k1 ?k2 ?k3 ?k4); (case k1 => walk_at "E"); (case k2 => walk_at "A"); (case k3 => first | with_reducible exact is_up | with_reducible exact isO_up); (case k4 => exact rfl)))
local macro_rules | `(tactic| walk_at "sub") => `(tactic| first | with_reducible exact Sub.nil | ((with_reducible refine' Sub.cons ?k1 ?k2); (case k1 => walk_at "lk"); (case k2 => walk_at "sub")))
local macro_rules | `(tactic| walk_at "mul") => `(tactic| first | exact mulL (by decide) | exact mulR (by decide))
local macro_rules | `(tactic| walk_at "O") => `(tactic| fail)
local macro_rules | `(tactic| walk_at "E2") => `(tactic| fail)

section
def stm (i : Nat) : Stmt := PySem.Challenge.pw_pk0029_01.main.body.getD i (.Pass default)
def paOf : Stmt → Arguments
  | .FunctionDef _ a _ _ _ _ _ _ _ _ => a
  | _ => ⟨[], [], none, [], [], none, []⟩
def boOf : Stmt → List Stmt
  | .FunctionDef _ _ b _ _ _ _ _ _ _ => b
  | _ => []
def scOf : Stmt → Scope
  | .FunctionDef _ _ _ _ _ _ s _ _ _ => s
  | _ => ⟨.module, [], false, false, []⟩
def pa (i : Nat) := paOf (stm i)
def bo (i : Nat) := boOf (stm i)
def sc (i : Nat) := scOf (stm i)
def fns : List (String × Nat) := [("_ctoi", 1), ("isprint", 2), ("ctrl", 3), ("unctrl", 4), ("pretty_flags", 7), ("_parse_varint", 8), ("_law_words", 10), ("_law_plan", 11), ("_law_leads", 12), ("_law_both", 13), ("_law_walk", 14), ("_law_tape", 15), ("_law_read", 16), ("_law_found", 17), ("_law_refused", 18)]
structure Wd (mg mb : Str → Option Value) (B : Heap) : Prop where
  gd : Gd mg mb B
  fn : ∀ p ∈ fns, ∃ f, mg (Str.ofString p.1) = some (.ref f) ∧ Fn B f (Str.ofString p.1) (pa p.2) (bo p.2) (sc p.2)
  nb : NoB mg

/-- what a function of the text does -/
structure Sp (prog : Program) (w : World) (mg : Str → Option Value) (B : Heap) (n : Nat) (name : Str) (Ts : List (Value → Heap → Prop)) (U : Heap → Value → Heap → Prop) : Prop where
  ex : ∃ f o fd, mg name = some (.ref f) ∧ B.get? f = some o ∧ o.data = .func fd ∧ ∀ A h vs, OkA n A → Keep B h → ArgsT Ts vs h → DenG prog w A h (call (.ref f) vs) U

section
variable {prog : Program} {w : World} {A : Around} {mg mb : Str → Option Value} {B H h : Heap} {env : Env} {ρ : Vars} {σ : Shared} {t : Nat} {pos px : Pos} {e : Expr} {rest : List Expr}

/-- a call of a function of the text by its contract -/
theorem den_sp {n : Nat} {name : Str} {T : List (Value → Heap → Prop)} {U : Heap → Value → Heap → Prop} (C : Cx mg mb B env ρ h) (S : Sp prog w mg B n name T U) (ok : OkA n A) (hU : ∀ a a' v b, Keep a a' → U a' v b → U a v b)
    (hx : env.kindOf name = some .globalImplicit) (hd : (name == ("__debug__" : Str)) = false) (ha : DenA prog w A h env pos (e :: rest) (ArgsT T))
    (he : starEach (e :: rest) env = (false, eval e env) :: starEach rest env := by rfl) (hplain : (backTo pos (starEach rest env)).any (·.1) = false := by rfl) :
    DenG prog w A h (eval (.Call (.Name name px) (e :: rest) [] pos) env) U := by
  obtain ⟨f, o, fd, hg, ho, hdt, hc⟩ := S.ex
  exact den_call hU (den_global C hg hx hd) ha (fun h' k => keeper_fn (C.kb.trans k _ _ ho) hdt) (fun vs h' k hT => hc A h' vs ok (C.kb.trans k) hT) rfl he hplain
end

section
variable {prog : Program} {w : World} {A : Around} {mg mb : Str → Option Value} {B H h : Heap} {env : Env} {ρ : Vars} {σ : Shared} {t : Nat}

theorem f_ctoi (W : Wd mg mb B) (n : Int) : Sp prog w mg B 1 "_ctoi" [isI n] (fun _ => isI n) := by
  obtain ⟨f, hg, F⟩ := W.fn ("_ctoi", 1) (by decide)
  obtain ⟨o, pm, cd, doc, ho, hd, _⟩ := F.ex
  refine ⟨f, o, _, hg, ho, hd, fun A h vs ok kb hT => ?_⟩
  obtain ⟨v, rfl, hv⟩ := hT.one
  refine den_fn (n := 0) (ρ := [("c", .int n)]) (binds := [("c", v)]) (xs := ["c"]) F W.gd kb ok (fun _ _ _ => by kernel_rfl) (.cons ⟨rfl, hv⟩ .nil) (by decide +kernel) rfl fun s env h₁ t₁ E k FE okA S => ?_
  show wpAny _ _ (execs (boOf (stm 1)) env) _ _ _
  have nb := W.nb
  refine ex_if S (c := false) (by walk_at "T") (fun e => by cases e) fun _ h' t' S' => ?_
  exact ex_return (T := fun _ => isI n) (by walk_at "E") fun v h'' t'' k'' hv => ⟨hv, ⟨h'', t'', rfl, S'.keep.trans k''⟩⟩
theorem f_ctoi_s (W : Wd mg mb B) (c : Nat) : Sp prog w mg B 1 "_ctoi" [isS ⟨#[c]⟩] (fun _ => isI c) := by
  obtain ⟨f, hg, F⟩ := W.fn ("_ctoi", 1) (by decide)
  obtain ⟨o, pm, cd, doc, ho, hd, _⟩ := F.ex
  refine ⟨f, o, _, hg, ho, hd, fun A h vs ok kb hT => ?_⟩
  obtain ⟨v, rfl, hv⟩ := hT.one
  refine den_fn (n := 0) (ρ := [("c", .str ⟨#[c]⟩)]) (binds := [("c", v)]) (xs := ["c"]) F W.gd kb ok (fun _ _ _ => by kernel_rfl) (.cons ⟨rfl, hv⟩ .nil) (by decide +kernel) rfl fun s env h₁ t₁ E k FE okA S => ?_
  show wpAny _ _ (execs (boOf (stm 1)) env) _ _ _
  have nb := W.nb
  refine ex_if S (c := true) (by walk_at "T") (fun _ h' t' S' => ?_) (fun e => by cases e)
  exact ex_return (T := fun _ => isI c) (by walk_at "E") fun v h'' t'' k'' hv => ⟨hv, ⟨h'', t'', rfl, S'.keep.trans k''⟩⟩

local macro_rules | `(tactic| walk_at "E2") => `(tactic| first
  | ((with_reducible refine' den_sp ?k0 (f_ctoi ?kw _) ?k1 any_down ?k2 ?k3 ?k4 ?k5 ?k6); (case k0 => walk_at "cx"); (case kw => with_reducible assumption); (case k1 => exact OkA.le (by with_reducible assumption) (by decide)); (case k2 => walk_at "gl"); (case k3 => decide +kernel); (case k4 => walk_at "A"); (case k5 => exact rfl); (case k6 => exact rfl))
  | ((with_reducible refine' den_sp ?k0 (f_ctoi_s ?kw _) ?k1 any_down ?k2 ?k3 ?k4 ?k5 ?k6); (case k0 => walk_at "cx"); (case kw => with_reducible assumption); (case k1 => exact OkA.le (by with_reducible assumption) (by decide)); (case k2 => walk_at "gl"); (case k3 => decide +kernel); (case k4 => walk_at "A"); (case k5 => exact rfl); (case k6 => exact rfl)))
theorem f_ctrl (W : Wd mg mb B) (n : Int) : Sp prog w mg B 2 "ctrl" [isI n] (fun _ => isI (Builtin.bitAnd n 31)) := by
  obtain ⟨f, hg, F⟩ := W.fn ("ctrl", 3) (by decide)
  obtain ⟨o, pm, cd, doc, ho, hd, _⟩ := F.ex
  refine ⟨f, o, _, hg, ho, hd, fun A h vs ok kb hT => ?_⟩
  obtain ⟨v, rfl, hv⟩ := hT.one
  refine den_fn (n := 1) (ρ := [("c", .int n)]) (binds := [("c", v)]) (xs := ["c"]) F W.gd kb ok (fun _ _ _ => by kernel_rfl) (.cons ⟨rfl, hv⟩ .nil) (by decide +kernel) rfl fun s env h₁ t₁ E k FE okA S => ?_
  show wpAny _ _ (execs (boOf (stm 3)) env) _ _ _
  have nb := W.nb
  refine ex_if S (c := false) (by walk_at "T") (fun e => by cases e) fun _ h' t' S' => ?_
  exact ex_return (T := fun _ => isI (Builtin.bitAnd n 31)) (by walk_at "E") fun v h'' t'' k'' hv => ⟨hv, ⟨h'', t'', rfl, S'.keep.trans k''⟩⟩
theorem and31 (n : Int) : 0 ≤ Builtin.bitAnd n 31 ∧ Builtin.bitAnd n 31 ≤ 31 := by
  unfold Builtin.bitAnd
  have h1 : ∀ m : Nat, m &&& 31 ≤ 31 := fun m => Nat.and_le_right
  have h2 : ∀ m : Nat, 31 &&& m ≤ 31 := fun m => Nat.and_le_left
  cases h0 : decide (0 ≤ n) with
  | true =>
    have : decide ((0 : Int) ≤ 31) = true := by decide
    rw [this]; simp only
    have := h1 n.toNat
    show (0 : Int) ≤ ((n.toNat &&& 31 : Nat) : Int) ∧ ((n.toNat &&& 31 : Nat) : Int) ≤ 31
    omega
  | false =>
    have : decide ((0 : Int) ≤ 31) = true := by decide
    rw [this]; simp only
    have := h2 (Builtin.bitNot n).toNat
    show (0 : Int) ≤ 31 - ((31 &&& (Builtin.bitNot n).toNat : Nat) : Int) ∧ 31 - ((31 &&& (Builtin.bitNot n).toNat : Nat) : Int) ≤ 31
    omega
theorem f_ctrl_s (W : Wd mg mb B) (c : Nat) : Sp prog w mg B 2 "ctrl" [isS ⟨#[c]⟩] (fun _ => isS ⟨#[(Builtin.bitAnd (c : Int) 31).toNat]⟩) := by
  obtain ⟨f, hg, F⟩ := W.fn ("ctrl", 3) (by decide)
  obtain ⟨o, pm, cd, doc, ho, hd, _⟩ := F.ex
  refine ⟨f, o, _, hg, ho, hd, fun A h vs ok kb hT => ?_⟩
  obtain ⟨v, rfl, hv⟩ := hT.one
  refine den_fn (n := 1) (ρ := [("c", .str ⟨#[c]⟩)]) (binds := [("c", v)]) (xs := ["c"]) F W.gd kb ok (fun _ _ _ => by kernel_rfl) (.cons ⟨rfl, hv⟩ .nil) (by decide +kernel) rfl fun s env h₁ t₁ E k FE okA S => ?_
  show wpAny _ _ (execs (boOf (stm 3)) env) _ _ _
  have nb := W.nb
  refine ex_if S (c := true) (by walk_at "T") (fun _ h' t' S' => ?_) (fun e => by cases e)
  have hb := and31 (c : Int)
  exact ex_return (T := fun _ => isS ⟨#[(Builtin.bitAnd (c : Int) 31).toNat]⟩) (by walk_at "E") fun v h'' t'' k'' hv => ⟨hv, ⟨h'', t'', rfl, S'.keep.trans k''⟩⟩
theorem f_isprint (W : Wd mg mb B) (n : Int) : Sp prog w mg B 2 "isprint" [isI n] (fun _ => isB (decide (32 ≤ n) && decide (n ≤ 126))) := by
  obtain ⟨f, hg, F⟩ := W.fn ("isprint", 2) (by decide)
  obtain ⟨o, pm, cd, doc, ho, hd, _⟩ := F.ex
  refine ⟨f, o, _, hg, ho, hd, fun A h vs ok kb hT => ?_⟩
  obtain ⟨v, rfl, hv⟩ := hT.one
  refine den_fn (n := 1) (ρ := [("c", .int n)]) (binds := [("c", v)]) (xs := ["c"]) F W.gd kb ok (fun _ _ _ => by kernel_rfl) (.cons ⟨rfl, hv⟩ .nil) (by decide +kernel) rfl fun s env h₁ t₁ E k FE okA S => ?_
  show wpAny _ _ (execs (boOf (stm 2)) env) _ _ _
  have nb := W.nb
  refine ex_return (T := fun _ => isB (decide (32 ≤ n) && decide (n ≤ 126))) ?_ fun v h'' t'' k'' hv => ⟨hv, ⟨h'', t'', rfl, S.keep.trans k''⟩⟩
  exact den_chain (by walk_at "E") (by walk_at "E") (by walk_at "E") rfl rfl
local macro_rules | `(tactic| walk_at "E2") => `(tactic| first
  | ((with_reducible refine' den_sp ?k0 (f_ctoi ?kw _) ?k1 any_down ?k2 ?k3 ?k4 ?k5 ?k6); (case k0 => walk_at "cx"); (case kw => with_reducible assumption); (case k1 => exact OkA.le (by with_reducible assumption) (by decide)); (case k2 => walk_at "gl"); (case k3 => decide +kernel); (case k4 => walk_at "A"); (case k5 => exact rfl); (case k6 => exact rfl))
  | ((with_reducible refine' den_sp ?k0 (f_ctoi_s ?kw _) ?k1 any_down ?k2 ?k3 ?k4 ?k5 ?k6); (case k0 => walk_at "cx"); (case kw => with_reducible assumption); (case k1 => exact OkA.le (by with_reducible assumption) (by decide)); (case k2 => walk_at "gl"); (case k3 => decide +kernel); (case k4 => walk_at "A"); (case k5 => exact rfl); (case k6 => exact rfl))
  | ((with_reducible refine' den_sp ?k0 (f_isprint ?kw _) ?k1 any_down ?k2 ?k3 ?k4 ?k5 ?k6); (case k0 => walk_at "cx"); (case kw => with_reducible assumption); (case k1 => exact OkA.le (by with_reducible assumption) (by decide)); (case k2 => walk_at "gl"); (case k3 => decide +kernel); (case k4 => walk_at "A"); (case k5 => exact rfl); (case k6 => exact rfl)))
theorem un_facts : ∀ n : Fin 32, Builtin.bitAnd (n : Int) 127 = n ∧ Builtin.bitOr (n : Int) 32 = n + 32 ∧ Builtin.bitAnd (n : Int) 128 = 0 := by decide +kernel
theorem un_fact (n : Int) (h0 : 0 ≤ n) (h1 : n < 32) : Builtin.bitAnd n 127 = n ∧ Builtin.bitOr n 32 = n + 32 ∧ Builtin.bitAnd n 128 = 0 := by
  obtain ⟨m, rfl⟩ := Int.eq_ofNat_of_zero_le h0
  exact un_facts ⟨m, by omega⟩
/-- what unctrl shows of a control -/
def shown (n : Int) : Str := ⟨#[94, (n + 64).toNat]⟩
theorem shown_eq (n : Int) : Str.ofString "^" ++ Str.mk #[(n + 64).toNat] = shown n := rfl
theorem f_unctrl (W : Wd mg mb B) (n : Int) (h0 : 0 ≤ n) (h1 : n < 32) : Sp prog w mg B 3 "unctrl" [isI n] (fun _ => isS (shown n)) := by
  obtain ⟨f, hg, F⟩ := W.fn ("unctrl", 4) (by decide)
  obtain ⟨o, pm, cd, doc, ho, hd, _⟩ := F.ex
  refine ⟨f, o, _, hg, ho, hd, fun A h vs ok kb hT => ?_⟩
  obtain ⟨v, rfl, hv⟩ := hT.one
  refine den_fn (n := 2) (ρ := [("c", .int n)]) (binds := [("c", v)]) (xs := ["c"]) F W.gd kb ok (fun _ _ _ => by kernel_rfl) (.cons ⟨rfl, hv⟩ .nil) (by decide +kernel) rfl fun s env h₁ t₁ E k FE okA S => ?_
  show wpAny _ _ (execs (boOf (stm 4)) env) _ _ _
  have nb := W.nb
  obtain ⟨u1, u2, u3⟩ := un_fact n h0 h1
  refine ex_assign S (a := .int n) (by walk_at "E") (by walk_at "sto") fun h₂ t₂ S₂ => ?_
  refine ex_if (c := n == 127) S₂ (by walk_at "T") (fun e => absurd e (by simp; omega)) fun _ h₃ t₃ S₃ => ?_
  have e127 : (decide (32 ≤ Builtin.bitAnd n 127) && decide (Builtin.bitAnd n 127 ≤ 126)) = false := by rw [u1]; simp; omega
  refine ex_if S₃ (c := decide (32 ≤ Builtin.bitAnd n 127) && decide (Builtin.bitAnd n 127 ≤ 126)) (by walk_at "T") (fun e => by rw [e127] at e; cases e) fun _ h₄ t₄ S₄ => ?_
  have hc : 0 ≤ Builtin.bitOr (Builtin.bitAnd n 127) 32 + 32 ∧ Builtin.bitOr (Builtin.bitAnd n 127) 32 + 32 ≤ 1114111 := by rw [u1, u2]; omega
  obtain ⟨hc1, hc2⟩ := hc
  refine ex_assign S₄ (a := .str (Str.ofString "^" ++ ⟨#[(Builtin.bitOr (Builtin.bitAnd n 127) 32 + 32).toNat]⟩)) (den_cat (by walk_at "E") (by walk_at "E") (by show 1 + 1 ≤ 1000000; decide)) (by walk_at "sto") fun h₅ t₅ S₅ => ?_
  refine ex_nil ?_
  refine ex_nil ?_
  refine ex_if (c := Builtin.bitAnd n 128 != 0) S₅ (by walk_at "T") (fun e => by rw [u3] at e; cases e) fun _ h₆ t₆ S₆ => ?_
  refine ex_nil ?_
  refine ex_return (T := fun _ => isS (shown n)) ?_ fun v h'' t'' k'' hv => ⟨hv, ⟨h'', t'', rfl, S₆.keep.trans k''⟩⟩
  have e1 : Builtin.bitOr (Builtin.bitAnd n 127) 32 + 32 = n + 64 := by rw [u1, u2]; omega
  rw [e1] at S₆
  rw [← shown_eq]
  walk_at "E"
theorem f_unctrl_s (W : Wd mg mb B) (n : Nat) (h1 : n < 32) : Sp prog w mg B 3 "unctrl" [isS ⟨#[n]⟩] (fun _ => isS (shown n)) := by
  obtain ⟨f, hg, F⟩ := W.fn ("unctrl", 4) (by decide)
  obtain ⟨o, pm, cd, doc, ho, hd, _⟩ := F.ex
  refine ⟨f, o, _, hg, ho, hd, fun A h vs ok kb hT => ?_⟩
  obtain ⟨v, rfl, hv⟩ := hT.one
  have h0 : (0 : Int) ≤ n := by omega
  have h1 : (n : Int) < 32 := by omega
  refine den_fn (n := 2) (ρ := [("c", .str ⟨#[n]⟩)]) (binds := [("c", v)]) (xs := ["c"]) F W.gd kb ok (fun _ _ _ => by kernel_rfl) (.cons ⟨rfl, hv⟩ .nil) (by decide +kernel) rfl fun s env h₁ t₁ E k FE okA S => ?_
  show wpAny _ _ (execs (boOf (stm 4)) env) _ _ _
  have nb := W.nb
  obtain ⟨u1, u2, u3⟩ := un_fact n h0 h1
  refine ex_assign S (a := .int n) (by walk_at "E") (by walk_at "sto") fun h₂ t₂ S₂ => ?_
  refine ex_if (c := (n : Int) == 127) S₂ (by walk_at "T") (fun e => absurd e (by simp; omega)) fun _ h₃ t₃ S₃ => ?_
  have e127 : (decide (32 ≤ Builtin.bitAnd (n : Int) 127) && decide (Builtin.bitAnd (n : Int) 127 ≤ 126)) = false := by rw [u1]; simp; omega
  refine ex_if S₃ (c := decide (32 ≤ Builtin.bitAnd (n : Int) 127) && decide (Builtin.bitAnd (n : Int) 127 ≤ 126)) (by walk_at "T") (fun e => by rw [e127] at e; cases e) fun _ h₄ t₄ S₄ => ?_
  have hc : 0 ≤ Builtin.bitOr (Builtin.bitAnd (n : Int) 127) 32 + 32 ∧ Builtin.bitOr (Builtin.bitAnd (n : Int) 127) 32 + 32 ≤ 1114111 := by rw [u1, u2]; omega
  obtain ⟨hc1, hc2⟩ := hc
  refine ex_assign S₄ (a := .str (Str.ofString "^" ++ ⟨#[(Builtin.bitOr (Builtin.bitAnd (n : Int) 127) 32 + 32).toNat]⟩)) (den_cat (by walk_at "E") (by walk_at "E") (by show 1 + 1 ≤ 1000000; decide)) (by walk_at "sto") fun h₅ t₅ S₅ => ?_
  refine ex_nil ?_
  refine ex_nil ?_
  refine ex_if (c := Builtin.bitAnd (n : Int) 128 != 0) S₅ (by walk_at "T") (fun e => by rw [u3] at e; cases e) fun _ h₆ t₆ S₆ => ?_
  refine ex_nil ?_
  refine ex_return (T := fun _ => isS (shown n)) ?_ fun v h'' t'' k'' hv => ⟨hv, ⟨h'', t'', rfl, S₆.keep.trans k''⟩⟩
  have e1 : Builtin.bitOr (Builtin.bitAnd (n : Int) 127) 32 + 32 = (n : Int) + 64 := by rw [u1, u2]; omega
  rw [e1] at S₆
  rw [← shown_eq]
  walk_at "E"
theorem f_ctrl' (W : Wd mg mb B) (n : Int) : Sp prog w mg B 2 "ctrl" [isI n] (fun _ => isI (n % 32)) := by
  rw [← bitAnd_m5]; exact f_ctrl W n
theorem f_ctrl_s' (W : Wd mg mb B) (c : Nat) : Sp prog w mg B 2 "ctrl" [isS ⟨#[c]⟩] (fun _ => isS ⟨#[c % 32]⟩) := by
  have e : (Builtin.bitAnd (c : Int) 31).toNat = c % 32 := by rw [bitAnd_m5]; omega
  rw [← e]; exact f_ctrl_s W c
end
end

/-! ## _law_leads -/
def leadStep (plan : List Int) (home p : Int) : Int := if p = home then p else (2 * p + plan.getD p.toNat 0) % 16
def leadN (plan : List Int) (home p : Int) : Nat → Int
  | 0 => p
  | n + 1 => leadStep plan home (leadN plan home p n)
theorem leadN_ok (plan : List Int) (home p : Int) (h : 0 ≤ p ∧ p < 16) : ∀ n, 0 ≤ leadN plan home p n ∧ leadN plan home p n < 16
  | 0 => h
  | n + 1 => by
    have ih := leadN_ok plan home p h n
    unfold leadN leadStep
    split
    · exact ih
    · omega

section
variable {prog : Program} {w : World} {A : Around} {mg mb : Str → Option Value} {B H h : Heap} {env : Env} {ρ : Vars} {σ : Shared} {t : Nat}
theorem f_leads (W : Wd mg mb B) (p home : Int) (plan : List Int) (q : Bool) (hp : 0 ≤ p ∧ p < 16) (hl : plan.length = 16) : Sp prog w mg B 1 "_law_leads" [isI p, isO (.ints q plan), isI home] (fun _ => isB (leadN plan home p 16 == home)) := by
  obtain ⟨f, hg, F⟩ := W.fn ("_law_leads", 12) (by decide)
  obtain ⟨o, pm, cd, doc, ho, hd, _⟩ := F.ex
  refine ⟨f, o, _, hg, ho, hd, fun A h vs ok kb hT => ?_⟩
  obtain ⟨v, v2, v3, rfl, hv, hv2, hv3⟩ := hT.three
  obtain ⟨c, hv2, hI⟩ := hv2
  refine den_fn (n := 0) (ρ := [("place", .int p), ("plan", .ref c), ("home", .int home)]) (binds := [("place", v), ("plan", v2), ("home", v3)]) (xs := ["place", "plan", "home"]) F W.gd kb ok (fun _ _ _ => by kernel_rfl) (.cons ⟨rfl, hv⟩ (.cons ⟨rfl, hv2⟩ (.cons ⟨rfl, hv3⟩ .nil))) (by decide +kernel) rfl fun s env h₁ t₁ E k FE okA S => ?_
  show wpAny _ _ (execs (boOf (stm 12)) env) _ _ _
  have nb := W.nb
  refine ex_for S (src_range1 (N := 16) okA.hd S.cx nb (by walk_at "gl") (by walk_at "E") (by rfl) (by decide)) (fun i ρ μ => ρ = ([(Str.ofString "place", AV.int (leadN plan home p i)), (Str.ofString "plan", AV.ref c), (Str.ofString "home", AV.int home)] : Vars) ∧ μ = []) ⟨rfl, rfl⟩ (by walk_at "sto") ?turn ?done
  case turn =>
    rintro i _ _ H' h' t' E' hi ⟨rfl, rfl⟩ kH S'
    have hb := leadN_ok plan home p hp i
    obtain ⟨hb0, hb1⟩ := hb
    have hI' : Is h' c (.ints q plan) := hI.up ((k.trans kH).trans S'.keep)
    refine ex_if (c := leadN plan home p i != home) S' (by walk_at "T") (fun e h₂ t₂ S₂ => ?_) (fun e h₂ t₂ S₂ => ?_)
    · have hI₂ : Is h₂ c (.ints q plan) := hI.up ((k.trans kH).trans S₂.keep)
      have hx : (plan.map AV.int)[(leadN plan home p i).toNat]? = some (.int (plan.getD (leadN plan home p i).toNat 0)) := by
        have : (leadN plan home p i).toNat < plan.length := by omega
        simp [List.getD, this]
      refine ex_assign S₂ (a := .int ((2 * leadN plan home p i + plan.getD (leadN plan home p i).toNat 0) % 16)) (den_modp (den_add (by walk_at "E") (den_item (by walk_at "E") (by walk_at "E") hI₂ hb0 (by omega) hx)) (by walk_at "E") (by decide)) (by walk_at "sto") fun h₃ t₃ S₃ => ?_
      have e1 : (2 * leadN plan home p i + plan.getD (leadN plan home p i).toNat 0) % 16 = leadN plan home p (i + 1) := by
        show _ = leadStep _ _ _
        rw [leadStep, if_neg (by simpa using e)]
      rw [e1] at S₃
      refine ex_nil (ex_nil ?_)
      exact ⟨_, _, h₃, t₃, rfl, ⟨rfl, rfl⟩, S₃.sub (by walk_at "sub")⟩
    · refine ex_nil (ex_nil ?_)
      have e1 : leadN plan home p (i + 1) = leadN plan home p i := by
        show leadStep _ _ _ = _
        rw [leadStep, if_pos (by simpa using e)]
      refine ⟨_, _, h₂, t₂, rfl, ⟨rfl, rfl⟩, ?_⟩
      rw [e1]
      exact S₂.sub (by walk_at "sub")
  case done =>
    rintro _ _ h' t' E' ⟨rfl, rfl⟩ S'
    refine ex_nil ?_
    exact ex_return (T := fun _ => isB (leadN plan home p 16 == home)) (den_cmpI (by walk_at "E") (by walk_at "E") rfl) fun v h'' t'' k'' hv => ⟨hv, ⟨h'', t'', rfl, S'.keep.trans k''⟩⟩
end

section
local macro_rules | `(tactic| walk_at "E2") => `(tactic| first
  | ((with_reducible refine' den_sp ?k0 (f_ctrl' ?kw _) ?k1 any_down ?k2 ?k3 ?k4 ?k5 ?k6); (case k0 => walk_at "cx"); (case kw => with_reducible assumption); (case k1 => exact OkA.le (by with_reducible assumption) (by decide)); (case k2 => walk_at "gl"); (case k3 => decide +kernel); (case k4 => walk_at "A"); (case k5 => exact rfl); (case k6 => exact rfl))
  | ((with_reducible refine' den_sp ?k0 (f_ctrl_s' ?kw _) ?k1 any_down ?k2 ?k3 ?k4 ?k5 ?k6); (case k0 => walk_at "cx"); (case kw => with_reducible assumption); (case k1 => exact OkA.le (by with_reducible assumption) (by decide)); (case k2 => walk_at "gl"); (case k3 => decide +kernel); (case k4 => walk_at "A"); (case k5 => exact rfl); (case k6 => exact rfl)))

/-! ## _law_walk -/
structure WS where
  left : List Int
  control : Int
  number : Int
  controls : List Int
def wayOf (plan : List Int) (l p : Int) : Int := if l = 0 then 1 - plan.getD p.toNat 0 else plan.getD p.toNat 0
def wstep (plan : List Int) (s : WS) : WS :=
  if s.left.getD (s.control % 16).toNat 0 < 2 then
    ⟨s.left.set (s.control % 16).toNat (s.left.getD (s.control % 16).toNat 0 + 1), (2 * s.control + wayOf plan (s.left.getD (s.control % 16).toNat 0) (s.control % 16)) % 32,
      2 * s.number + wayOf plan (s.left.getD (s.control % 16).toNat 0) (s.control % 16), s.controls ++ [(2 * s.control + wayOf plan (s.left.getD (s.control % 16).toNat 0) (s.control % 16)) % 32]⟩
  else s
def walkN (plan : List Int) (home : Int) : Nat → WS
  | 0 => ⟨List.replicate 16 0, home, home, []⟩
  | n + 1 => wstep plan (walkN plan home n)
/-- a plan: sixteen ways -/
def IsPlan (plan : List Int) : Prop := plan.length = 16 ∧ ∀ x ∈ plan, x = 0 ∨ x = 1
theorem IsPlan.at {plan : List Int} (h : IsPlan plan) (i : Nat) : plan.getD i 0 = 0 ∨ plan.getD i 0 = 1 := by
  by_cases hi : i < plan.length
  · have := h.2 plan[i] (List.getElem_mem hi)
    simpa [List.getD, hi] using this
  · left; simp [List.getD, List.getElem?_eq_none (Nat.not_lt.mp hi)]
structure WOk (n : Nat) (s : WS) : Prop where
  ll : s.left.length = 16
  c0 : 0 ≤ s.control
  c1 : s.control < 32
  lc : s.controls.length ≤ n
theorem wstep_ok {plan : List Int} {n : Nat} {s : WS} (h : WOk n s) : WOk (n + 1) (wstep plan s) := by
  unfold wstep
  split
  · refine ⟨by simp [h.ll], Int.emod_nonneg _ (by decide), Int.emod_lt_of_pos _ (by decide), ?_⟩
    have := h.lc
    simp; omega
  · exact ⟨h.ll, h.c0, h.c1, Nat.le_succ_of_le h.lc⟩
theorem walkN_ok {plan : List Int} {home : Int} (h0 : 0 ≤ home) (h1 : home < 32) : ∀ n, WOk n (walkN plan home n)
  | 0 => ⟨by simp [walkN], h0, h1, by simp [walkN]⟩
  | n + 1 => wstep_ok (walkN_ok h0 h1 n)

theorem get_int {xs : List Int} {i : Int} (h0 : 0 ≤ i) (h1 : i.toNat < xs.length) : (xs.map AV.int)[i.toNat]? = some (.int (xs.getD i.toNat 0)) := by simp [List.getD, h1]

section
variable {prog : Program} {w : World} {A : Around} {mg mb : Str → Option Value} {B H h : Heap} {env : Env} {ρ : Vars} {σ : Shared} {t : Nat}
theorem f_walk (W : Wd mg mb B) (home : Int) (plan : List Int) (q : Bool) (hh : 0 ≤ home ∧ home < 16) (hp : IsPlan plan) : Sp prog w mg B 3 "_law_walk" [isI home, isO (.ints q plan)] (fun h₀ v h' => ∃ a c, v = .ref a ∧ h₀.get? a = none ∧ h₀.get? c = none ∧ Is h' a (.tup [.ref c, .int (walkN plan home 32).number]) ∧ Is h' c (.ints true (walkN plan home 32).controls)) := by
  obtain ⟨f, hg, F⟩ := W.fn ("_law_walk", 14) (by decide)
  obtain ⟨o, pm, cd, doc, ho, hd, _⟩ := F.ex
  refine ⟨f, o, _, hg, ho, hd, fun A h vs ok kb hT => ?_⟩
  obtain ⟨v, v2, rfl, hv, hv2⟩ := hT.two
  obtain ⟨c, hv2, hI⟩ := hv2
  refine den_fn (n := 2) (ρ := [("home", .int home), ("plan", .ref c)]) (binds := [("home", v), ("plan", v2)]) (xs := ["home", "plan"]) F W.gd kb ok (fun _ _ _ => by kernel_rfl) (.cons ⟨rfl, hv⟩ (.cons ⟨rfl, hv2⟩ .nil)) (by decide +kernel) rfl fun s env h₁ t₁ E k FE okA S => ?_
  show wpAny _ _ (execs (boOf (stm 14)) env) _ _ _
  have nb := W.nb
  refine ex_assignT (xs := ["left", "control", "number", "controls"]) (ss := [.new (.list true (List.replicate (16 : Int).toNat [AV.int 0]).flatten), .val (.int home), .val (.int home), .new (.list true [])]) okA.hd S
    (sl_new (den_mulL (den_list (oks_more (by walk_at "E") oks_none rfl) (by decide)).old (by walk_at "E") (by decide) (by decide) (by decide))
      (sl_val (by walk_at "E") (sl_val (by walk_at "E") (sl_new (den_list oks_none (by decide)) sl_none rfl) rfl) rfl) rfl)
    (by intro x hx; simp only [List.mem_cons, List.not_mem_nil, or_false] at hx; rcases hx with rfl | rfl | rfl | rfl <;> walk_at "sto") rfl rfl rfl ?tr ?k (by decide)
  case tr =>
    intro i tr x v s Q h1 h2 hq
    match i, h1, h2 with
    | 0, h1, h2 => cases h1; cases h2; exact wpAny_assign_Name hq
    | 1, h1, h2 => cases h1; cases h2; exact wpAny_assign_Name hq
    | 2, h1, h2 => cases h1; cases h2; exact wpAny_assign_Name hq
    | 3, h1, h2 => cases h1; cases h2; exact wpAny_assign_Name hq
  case k =>
    intro as μ' h₂ t₂ hs S₂
    cases hs with | new hs => cases hs with | val hs => cases hs with | val hs => cases hs with | new hs => cases hs with | nil =>
    rename_i cl cc
    simp only [addV] at S₂
    have S₃ : St mg mb B s.heap env ([(Str.ofString "control", AV.int home), (Str.ofString "number", AV.int home), (Str.ofString "left", AV.ref cl), (Str.ofString "controls", AV.ref cc), (Str.ofString "plan", AV.ref c)] : Vars) [(cl, MO.ints false (List.replicate 16 0)), (cc, MO.ints true [])] h₂ :=
      (St.loose (μ₁ := []) S₂).sub (by walk_at "sub")
    refine ex_for S₃ (src_range1 (N := 32) okA.hd S₃.cx nb (by walk_at "gl") (by walk_at "E") (by rfl) (by decide)) (fun i ρ μ => ρ = ([(Str.ofString "control", AV.int (walkN plan home i).control), (Str.ofString "number", AV.int (walkN plan home i).number), (Str.ofString "left", AV.ref cl), (Str.ofString "controls", AV.ref cc), (Str.ofString "plan", AV.ref c)] : Vars) ∧ μ = [(cl, MO.ints false (walkN plan home i).left), (cc, MO.ints true (walkN plan home i).controls)]) ⟨rfl, rfl⟩ (by walk_at "sto") ?turn ?done
    case turn =>
      rintro i _ _ H' h' t' E' hi ⟨rfl, rfl⟩ kH S'
      have hw := walkN_ok (plan := plan) hh.1 (by omega : home < 32) i
      have hnext : walkN plan home (i + 1) = wstep plan (walkN plan home i) := rfl
      generalize hst : walkN plan home i = st at *
      have hp0 : 0 ≤ st.control % 16 := by omega
      have hp1 : (st.control % 16).toNat < 16 := by omega
      have hc0 := hw.c0
      have hc1 := hw.c1
      have gl := get_int (xs := st.left) hp0 (by rw [hw.ll]; exact hp1)
      have gp := get_int (xs := plan) hp0 (by rw [hp.1]; exact hp1)
      have hfit : st.control % 16 < 2 ^ 63 := by omega
      refine ex_assign S' (a := .int (st.control % 16)) (by walk_at "E") (by walk_at "sto") fun h₃ t₃ S₃ => ?_
      refine ex_if (c := decide (st.left.getD (st.control % 16).toNat 0 < 2)) S₃ (test_cmpI (den_item (by walk_at "E") (by walk_at "E") S₃.l1 hp0 hfit gl) (by walk_at "E") rfl) (fun e h₄ t₄ S₄ => ?_) (fun e h₄ t₄ S₄ => ?_)
      · have el : st.left.getD (st.control % 16).toNat 0 < 2 := of_decide_eq_true e
        have hIp : Is h₄ c (.ints q plan) := hI.up ((k.trans kH).trans S₄.keep)
        refine ex_assign S₄ (a := .int (wayOf plan (st.left.getD (st.control % 16).toNat 0) (st.control % 16))) (den_ifexp (c := st.left.getD (st.control % 16).toNat 0 != 0) (test_int (den_item (by walk_at "E") (by walk_at "E") S₄.l1 hp0 hfit gl)) any_down (fun e1 => ?_) (fun e1 => ?_)) (by walk_at "sto") fun h₅ t₅ S₅ => ?_
        · have : wayOf plan (st.left.getD (st.control % 16).toNat 0) (st.control % 16) = plan.getD (st.control % 16).toNat 0 := by
            unfold wayOf; rw [if_neg (by simpa using e1)]
          rw [this]
          exact den_item (by walk_at "E") (by walk_at "E") hIp hp0 hfit gp
        · have : wayOf plan (st.left.getD (st.control % 16).toNat 0) (st.control % 16) = 1 - plan.getD (st.control % 16).toNat 0 := by
            unfold wayOf; rw [if_pos (by simpa using e1)]
          rw [this]
          exact den_sub (by walk_at "E") (den_item (by walk_at "E") (by walk_at "E") hIp hp0 hfit gp)
        have hway : wayOf plan (st.left.getD (st.control % 16).toNat 0) (st.control % 16) = 0 ∨ wayOf plan (st.left.getD (st.control % 16).toNat 0) (st.control % 16) = 1 := by
          unfold wayOf
          rcases hp.at (st.control % 16).toNat with e | e <;> rw [e] <;> split <;> decide
        generalize hwy : wayOf plan (st.left.getD (st.control % 16).toNat 0) (st.control % 16) = way at *
        refine ex_setitem (μ₁ := []) (c := cl) (i := st.control % 16) (a := .int (st.left.getD (st.control % 16).toNat 0 + 1)) S₅ (den_add (den_item (by walk_at "E") (by walk_at "E") S₅.l1 hp0 hfit gl) (by walk_at "E")) (by walk_at "E") (by walk_at "E") hp0 hfit (by rw [List.length_map, hw.ll]; omega) fun h₆ t₆ S₆ => ?_
        refine ex_assign S₆ (a := .int (2 * st.control + way)) (by walk_at "E") (by walk_at "sto") fun h₇ t₇ S₇ => ?_
        have ha0 : 0 ≤ 2 * st.control + way := by omega
        have ha1 : 2 * st.control + way ≤ 1114111 := by omega
        refine ex_assign S₇ (a := .int ((2 * st.control + way) % 32)) (den_ifexp (c := (i : Int) % 2 != 0) (by walk_at "T") any_down (fun _ => ?_) (fun _ => ?_)) (by walk_at "sto") fun h₈ t₈ S₈ => ?_
        · have : ((((2 * st.control + way).toNat % 32 : Nat)) : Int) = (2 * st.control + way) % 32 := by omega
          rw [← this]
          walk_at "E"
        · walk_at "E"
        refine ex_append (μ₁ := [(cl, _)]) (c := cc) (a := .int ((2 * st.control + way) % 32)) S₈ (by walk_at "lk") (by walk_at "own") (by walk_at "E") (by rw [List.length_map]; have := hw.lc; omega) (fun h₉ t₉ S₉ => ?_) (by decide +kernel)
        refine ex_assign S₉ (a := .int (2 * st.number + way)) (by walk_at "E") (by walk_at "sto") fun h₁₀ t₁₀ S₁₀ => ?_
        refine ex_nil (ex_nil ?_)
        have hns : wstep plan st = ⟨st.left.set (st.control % 16).toNat (st.left.getD (st.control % 16).toNat 0 + 1), (2 * st.control + way) % 32, 2 * st.number + way, st.controls ++ [(2 * st.control + way) % 32]⟩ := by
          unfold wstep; rw [if_pos el, hwy]
        refine ⟨_, _, h₁₀, t₁₀, rfl, ⟨rfl, rfl⟩, ?_⟩
        rw [hnext, hns]
        have e1 : (st.left.map AV.int).set (st.control % 16).toNat (.int (st.left.getD (st.control % 16).toNat 0 + 1)) = (st.left.set (st.control % 16).toNat (st.left.getD (st.control % 16).toNat 0 + 1)).map AV.int := by rw [List.map_set]
        have e2 : st.controls.map AV.int ++ [AV.int ((2 * st.control + way) % 32)] = (st.controls ++ [(2 * st.control + way) % 32]).map AV.int := by simp
        rw [e2] at S₁₀
        simp only [List.cons_append, List.nil_append, MO.ints] at S₁₀ ⊢
        rw [e1] at S₁₀
        exact S₁₀.sub (by walk_at "sub")
      · refine ex_nil (ex_nil ?_)
        have hns : wstep plan st = st := by unfold wstep; rw [if_neg (of_decide_eq_false e)]
        refine ⟨_, _, h₄, t₄, rfl, ⟨rfl, rfl⟩, ?_⟩
        rw [hnext, hns]
        exact S₄.sub (by walk_at "sub")
    case done =>
      rintro _ _ h' t' E' ⟨rfl, rfl⟩ S'
      refine ex_nil ?_
      refine ex_return (den_tuple (xs := [.ref cc, .int (walkN plan home 32).number]) (oks_more (by walk_at "E") (oks_more (by walk_at "E") oks_none rfl) rfl) (Nat.le_of_ble_eq_true rfl)) fun v h'' t'' k'' hv => ?_
      obtain ⟨a, rfl, hn, hT⟩ := hv
      exact ⟨⟨a, cc, rfl, none_down S'.keep hn, S'.nb cc (by simp [own]), hT, S'.l2.up k''⟩, ⟨h'', t'', rfl, S'.keep.trans k''⟩⟩
end
end

/-! ## _law_both -/
structure BS where
  left : List Int
  gone : List Int
  spots : List Int
def bstep (plan : List Int) (home : Int) (i : Nat) (s : BS) : BS :=
  if s.spots.getD (i % 2) 0 = home then s else
    ⟨s.left.set (s.spots.getD (i % 2) 0).toNat (s.left.getD (s.spots.getD (i % 2) 0).toNat 0 + 1), s.gone ++ [2 * s.spots.getD (i % 2) 0 + wayOf plan (s.left.getD (s.spots.getD (i % 2) 0).toNat 0) (s.spots.getD (i % 2) 0)],
      s.spots.set (i % 2) ((2 * s.spots.getD (i % 2) 0 + wayOf plan (s.left.getD (s.spots.getD (i % 2) 0).toNat 0) (s.spots.getD (i % 2) 0)) % 16)⟩
def bothN (plan : List Int) (home : Int) : Nat → BS
  | 0 => ⟨List.replicate 16 0, [2 * home, 2 * home + 1], [2 * home % 16, (2 * home + 1) % 16]⟩
  | n + 1 => bstep plan home n (bothN plan home n)
structure BOk (n : Nat) (s : BS) : Prop where
  ll : s.left.length = 16
  ls : s.spots.length = 2
  sp : ∀ x ∈ s.spots, 0 ≤ x ∧ x < 16
  lg : s.gone.length ≤ n + 2
theorem bstep_ok {plan : List Int} {home : Int} {i n : Nat} {s : BS} (h : BOk n s) : BOk (n + 1) (bstep plan home i s) := by
  unfold bstep
  split
  · exact ⟨h.ll, h.ls, h.sp, Nat.le_succ_of_le h.lg⟩
  · refine ⟨by simp [h.ll], by simp [h.ls], fun x hx => ?_, ?_⟩
    · rcases List.mem_or_eq_of_mem_set hx with hx | rfl
      · exact h.sp x hx
      · exact ⟨Int.emod_nonneg _ (by decide), Int.emod_lt_of_pos _ (by decide)⟩
    · have := h.lg; simp; omega
theorem bothN_ok {plan : List Int} {home : Int} : ∀ n, BOk n (bothN plan home n)
  | 0 => ⟨by simp [bothN], by simp [bothN], by
      intro x hx
      simp only [bothN, List.mem_cons, List.not_mem_nil, or_false] at hx
      rcases hx with rfl | rfl <;> exact ⟨Int.emod_nonneg _ (by decide), Int.emod_lt_of_pos _ (by decide)⟩, by simp [bothN]⟩
  | n + 1 => bstep_ok (bothN_ok n)

section
variable {prog : Program} {w : World} {A : Around} {mg mb : Str → Option Value} {B H h : Heap} {env : Env} {ρ : Vars} {σ : Shared} {t : Nat}
theorem f_both (W : Wd mg mb B) (home : Int) (plan : List Int) (q : Bool) (hh : 0 ≤ home ∧ home < 16) (hp : IsPlan plan) : Sp prog w mg B 1 "_law_both" [isI home, isO (.ints q plan)] (isN (.ints true (bothN plan home 60).gone)) := by
  obtain ⟨f, hg, F⟩ := W.fn ("_law_both", 13) (by decide)
  obtain ⟨o, pm, cd, doc, ho, hd, _⟩ := F.ex
  refine ⟨f, o, _, hg, ho, hd, fun A h vs ok kb hT => ?_⟩
  obtain ⟨v, v2, rfl, hv, hv2⟩ := hT.two
  obtain ⟨c, hv2, hI⟩ := hv2
  refine den_fn (n := 0) (ρ := [("home", .int home), ("plan", .ref c)]) (binds := [("home", v), ("plan", v2)]) (xs := ["home", "plan"]) F W.gd kb ok (fun _ _ _ => by kernel_rfl) (.cons ⟨rfl, hv⟩ (.cons ⟨rfl, hv2⟩ .nil)) (by decide +kernel) rfl fun s env h₁ t₁ E k FE okA S => ?_
  show wpAny _ _ (execs (boOf (stm 13)) env) _ _ _
  have nb := W.nb
  refine ex_assignW (xs := ["left", "gone"]) (ss := [.new (.list true (List.replicate (16 : Int).toNat [AV.int 0]).flatten), .new (.list true [.int (2 * home), .int (2 * home + 1)])]) okA.hd S
    (sl_new (den_mulL (den_list (oks_more (by walk_at "E") oks_none rfl) (by decide)).old (by walk_at "E") (by decide) (by decide) (by decide))
      (sl_new (den_list (oks_more (by walk_at "E") (oks_more (by walk_at "E") oks_none rfl) rfl) (Nat.le_of_ble_eq_true rfl)) sl_none rfl) rfl)
    (by intro x hx; simp only [List.mem_cons, List.not_mem_nil, or_false] at hx; rcases hx with rfl | rfl <;> walk_at "sto") rfl ?k (by decide) (FE.swap (by kernel_rfl))
  case k =>
    intro as μ' h₂ t₂ hs S₂
    cases hs with | new hs => cases hs with | new hs => cases hs with | nil =>
    rename_i cl cg
    simp only [addV, List.reverse_cons, List.reverse_nil, List.nil_append, List.cons_append] at S₂
    refine ex_assignN S₂ (m := .list true [.int (2 * home % 16), .int ((2 * home + 1) % 16)]) (den_list (oks_more (by walk_at "E") (oks_more (by walk_at "E") oks_none rfl) rfl) (Nat.le_of_ble_eq_true rfl)) (by walk_at "sto") fun cs h₃ t₃ S₃ => ?_
    have S₄ : St mg mb B s.heap env ([(Str.ofString "left", AV.ref cl), (Str.ofString "gone", AV.ref cg), (Str.ofString "spots", AV.ref cs), (Str.ofString "plan", AV.ref c), (Str.ofString "home", AV.int home)] : Vars) [(cs, MO.ints false (bothN plan home 0).spots), (cl, MO.ints false (bothN plan home 0).left), (cg, MO.ints true (bothN plan home 0).gone)] h₃ :=
      (St.loose (μ₁ := [(cs, _)]) (St.loose (μ₁ := []) S₃)).sub (by walk_at "sub")
    refine ex_for S₄ (src_range1 (N := 60) okA.hd S₄.cx nb (by walk_at "gl") (by walk_at "E") (by rfl) (by decide)) (fun i ρ μ => ρ = ([(Str.ofString "left", AV.ref cl), (Str.ofString "gone", AV.ref cg), (Str.ofString "spots", AV.ref cs), (Str.ofString "plan", AV.ref c), (Str.ofString "home", AV.int home)] : Vars) ∧ μ = [(cs, MO.ints false (bothN plan home i).spots), (cl, MO.ints false (bothN plan home i).left), (cg, MO.ints true (bothN plan home i).gone)]) ⟨rfl, rfl⟩ (by walk_at "sto") ?turn ?done
    case turn =>
      rintro i _ _ H' h' t' E' hi ⟨rfl, rfl⟩ kH S'
      have hw := bothN_ok (plan := plan) (home := home) i
      have hnext : bothN plan home (i + 1) = bstep plan home i (bothN plan home i) := rfl
      generalize hst : bothN plan home i = st at *
      have hi0 : 0 ≤ (i : Int) % 2 := by omega
      have hi1 : ((i : Int) % 2).toNat = i % 2 := by omega
      have hi2 : i % 2 < 2 := Nat.mod_lt _ (by decide)
      have hifit : (i : Int) % 2 < 2 ^ 63 := by omega
      have gs := get_int (xs := st.spots) hi0 (by rw [hw.ls, hi1]; exact hi2)
      rw [hi1] at gs
      have hpl := hw.sp (st.spots.getD (i % 2) 0) (by
        have : i % 2 < st.spots.length := by rw [hw.ls]; exact hi2
        simp [List.getD, this])
      refine ex_assign S' (a := .int (st.spots.getD (i % 2) 0)) (den_item (by walk_at "E") (by walk_at "E") S'.l1 hi0 hifit (by rw [hi1]; exact gs)) (by walk_at "sto") fun h₃ t₃ S₃ => ?_
      generalize hpd : st.spots.getD (i % 2) 0 = pl at *
      refine ex_if (c := pl != home) S₃ (by walk_at "T") (fun e h₄ t₄ S₄ => ?_) (fun e h₄ t₄ S₄ => ?_)
      · have ene : pl ≠ home := by simpa using e
        obtain ⟨hp0, hp1⟩ := hpl
        have hp2 : pl.toNat < 16 := by omega
        have hfit : pl < 2 ^ 63 := by omega
        have gl := get_int (xs := st.left) hp0 (by rw [hw.ll]; exact hp2)
        have gp := get_int (xs := plan) hp0 (by rw [hp.1]; exact hp2)
        have hIp : Is h₄ c (.ints q plan) := hI.up ((k.trans kH).trans S₄.keep)
        refine ex_assign S₄ (a := .int (wayOf plan (st.left.getD pl.toNat 0) pl)) (den_ifexp (c := st.left.getD pl.toNat 0 != 0) (test_int (den_item (by walk_at "E") (by walk_at "E") S₄.l2 hp0 hfit gl)) any_down (fun e1 => ?_) (fun e1 => ?_)) (by walk_at "sto") fun h₅ t₅ S₅ => ?_
        · have : wayOf plan (st.left.getD pl.toNat 0) pl = plan.getD pl.toNat 0 := by
            unfold wayOf; rw [if_neg (by simpa using e1)]
          rw [this]
          exact den_item (by walk_at "E") (by walk_at "E") hIp hp0 hfit gp
        · have : wayOf plan (st.left.getD pl.toNat 0) pl = 1 - plan.getD pl.toNat 0 := by
            unfold wayOf; rw [if_pos (by simpa using e1)]
          rw [this]
          exact den_sub (by walk_at "E") (den_item (by walk_at "E") (by walk_at "E") hIp hp0 hfit gp)
        generalize hwy : wayOf plan (st.left.getD pl.toNat 0) pl = way at *
        refine ex_setitem (μ₁ := [(cs, _)]) (c := cl) (i := pl) (a := .int (st.left.getD pl.toNat 0 + 1)) S₅ (den_add (den_item (by walk_at "E") (by walk_at "E") S₅.l2 hp0 hfit gl) (by walk_at "E")) (by walk_at "E") (by walk_at "E") hp0 hfit (by rw [List.length_map, hw.ll]; omega) fun h₆ t₆ S₆ => ?_
        refine ex_append (μ₁ := [(cs, _), (cl, _)]) (c := cg) (a := .int (2 * pl + way)) S₆ (by walk_at "lk") (by walk_at "own") (by walk_at "E") (by rw [List.length_map]; have := hw.lg; omega) (fun h₇ t₇ S₇ => ?_) (by decide +kernel)
        refine ex_setitem (μ₁ := []) (c := cs) (i := (i : Int) % 2) (a := .int ((2 * pl + way) % 16)) S₇ (by walk_at "E") (by walk_at "E") (by walk_at "E") hi0 hifit (by rw [List.length_map, hw.ls]; omega) fun h₈ t₈ S₈ => ?_
        refine ex_nil (ex_nil ?_)
        have hns : bstep plan home i st = ⟨st.left.set pl.toNat (st.left.getD pl.toNat 0 + 1), st.gone ++ [2 * pl + way], st.spots.set (i % 2) ((2 * pl + way) % 16)⟩ := by
          unfold bstep; rw [hpd, if_neg ene, hwy]
        refine ⟨_, _, h₈, t₈, rfl, ⟨rfl, rfl⟩, ?_⟩
        rw [hnext, hns]
        have e1 : (st.left.map AV.int).set pl.toNat (.int (st.left.getD pl.toNat 0 + 1)) = (st.left.set pl.toNat (st.left.getD pl.toNat 0 + 1)).map AV.int := by rw [List.map_set]
        have e2 : st.gone.map AV.int ++ [AV.int (2 * pl + way)] = (st.gone ++ [2 * pl + way]).map AV.int := by simp
        have e3 : (st.spots.map AV.int).set ((i : Int) % 2).toNat (.int ((2 * pl + way) % 16)) = (st.spots.set (i % 2) ((2 * pl + way) % 16)).map AV.int := by rw [hi1, List.map_set]
        simp only [List.cons_append, List.nil_append, MO.ints] at S₈ ⊢
        rw [e1, e2, e3] at S₈
        exact S₈.sub (by walk_at "sub")
      · refine ex_nil (ex_nil ?_)
        have hns : bstep plan home i st = st := by unfold bstep; rw [hpd, if_pos (by simpa using e)]
        refine ⟨_, _, h₄, t₄, rfl, ⟨rfl, rfl⟩, ?_⟩
        rw [hnext, hns]
        exact S₄.sub (by walk_at "sub")
    case done =>
      rintro _ _ h' t' E' ⟨rfl, rfl⟩ S'
      refine ex_nil ?_
      refine ex_return (T := fun _ => is (.ref cg)) (by walk_at "E") fun v h'' t'' k'' hv => ?_
      cases hv
      exact ⟨⟨cg, rfl, S'.nb cg (by simp [own]), S'.l3.up k''⟩, ⟨h'', t'', rfl, S'.keep.trans k''⟩⟩
end

/-! ## _law_plan -/
def likes (home place : Int) : List Int := ((List.range 4).map fun i => ((i : Nat) : Int)).filter fun z => place % 2 ^ z.toNat == home / 2 ^ (4 - z).toNat
def likeOf (home place : Int) : Int := if place % 8 = home / 2 then 3 else if place % 4 = home / 4 then 2 else if place % 2 = home / 8 then 1 else 0
theorem like_facts : ∀ home place : Fin 16, (likes home place).contains (likeOf home place) = true ∧ ((likes home place).all fun a => decide (a ≤ likeOf home place)) = true ∧ 0 ≤ likeOf home place ∧ likeOf home place ≤ 3 := by decide +kernel
theorem like_fact {home place : Int} (h0 : 0 ≤ home) (h1 : home < 16) (p0 : 0 ≤ place) (p1 : place < 16) : likeOf home place ∈ likes home place ∧ (∀ a ∈ likes home place, a ≤ likeOf home place) ∧ 0 ≤ likeOf home place ∧ likeOf home place ≤ 3 := by
  obtain ⟨a, rfl⟩ := Int.eq_ofNat_of_zero_le h0
  obtain ⟨b, rfl⟩ := Int.eq_ofNat_of_zero_le p0
  obtain ⟨x, y, z⟩ := like_facts ⟨a, by omega⟩ ⟨b, by omega⟩
  exact ⟨List.contains_iff_mem.mp x, fun c hc => of_decide_eq_true (List.all_eq_true.mp y c hc), z⟩
def planAt (home : Int) (i : Nat) : Int := home / 2 ^ (3 - likeOf home i).toNat % 2
def flip (plan : List Int) (place : Int) : List Int := plan.set place.toNat (1 - plan.getD place.toNat 0)
def planOf (home : Int) (turned : List Int) : List Int := turned.foldl flip ((List.range 16).map (planAt home))
theorem flip_plan {plan : List Int} {p : Int} (h : IsPlan plan) : IsPlan (flip plan p) := by
  refine ⟨by simp [flip, h.1], fun x hx => ?_⟩
  rcases List.mem_or_eq_of_mem_set hx with hx | rfl
  · exact h.2 x hx
  · rcases h.at p.toNat with e | e <;> rw [e] <;> decide
theorem base_plan (home : Int) : IsPlan ((List.range 16).map (planAt home)) := by
  refine ⟨by simp, fun x hx => ?_⟩
  obtain ⟨i, _, rfl⟩ := List.mem_map.mp hx
  unfold planAt
  omega
theorem planOf_plan (home : Int) (turned : List Int) : IsPlan (planOf home turned) := by
  unfold planOf
  have : ∀ (l : List Int) (p : List Int), IsPlan p → IsPlan (l.foldl flip p) := by
    intro l
    induction l with
    | nil => intro p h; exact h
    | cons a r ih => intro p h; exact ih _ (flip_plan h)
  exact this turned _ (base_plan home)

section
variable {prog : Program} {w : World} {A : Around} {mg mb : Str → Option Value} {B H h : Heap} {env : Env} {ρ : Vars} {σ : Shared} {t : Nat}
theorem f_plan (W : Wd mg mb B) (home : Int) (turned : List Int) (q : Bool) (hh : 0 ≤ home ∧ home < 16) (ht : ∀ x ∈ turned, 0 ≤ x ∧ x < 16) (hlen : turned.length ≤ 1000) : Sp prog w mg B 1 "_law_plan" [isI home, isO (.ints q turned)] (isN (.ints false (planOf home turned))) := by
  obtain ⟨f, hg, F⟩ := W.fn ("_law_plan", 11) (by decide)
  obtain ⟨o, pm, cd, doc, ho, hd, _⟩ := F.ex
  refine ⟨f, o, _, hg, ho, hd, fun A h vs ok kb hT => ?_⟩
  obtain ⟨v, v2, rfl, hv, hv2⟩ := hT.two
  obtain ⟨c, hv2, hI⟩ := hv2
  obtain ⟨hh0, hh1⟩ := hh
  refine den_fn (n := 0) (ρ := [("home", .int home), ("turned", .ref c)]) (binds := [("home", v), ("turned", v2)]) (xs := ["home", "turned"]) F W.gd kb ok (fun _ _ _ => by kernel_rfl) (.cons ⟨rfl, hv⟩ (.cons ⟨rfl, hv2⟩ .nil)) (by decide +kernel) rfl fun s env h₁ t₁ E k FE okA S => ?_
  show wpAny _ _ (execs (boOf (stm 11)) env) _ _ _
  have nb := W.nb
  refine ex_assignN S (m := .list true []) (den_list oks_none (by decide)) (by walk_at "sto") fun cp h₂ t₂ S₂ => ?_
  have S₃ : St mg mb B s.heap env ([(Str.ofString "home", AV.int home), (Str.ofString "turned", AV.ref c), (Str.ofString "plan", AV.ref cp)] : Vars) [(cp, MO.ints true ((List.range 0).map (planAt home)))] h₂ := S₂.sub (by walk_at "sub")
  refine ex_for S₃ (src_range1 (N := 16) okA.hd S₃.cx nb (by walk_at "gl") (by walk_at "E") (by rfl) (by decide)) (fun i ρ μ => ρ = ([(Str.ofString "home", AV.int home), (Str.ofString "turned", AV.ref c), (Str.ofString "plan", AV.ref cp)] : Vars) ∧ μ = [(cp, MO.ints true ((List.range i).map (planAt home)))]) ⟨rfl, rfl⟩ (by walk_at "sto") ?turn ?done
  case turn =>
    rintro i _ _ H' h' t' E' hi ⟨rfl, rfl⟩ kH S'
    have hi0 : (0 : Int) ≤ i := by omega
    have hi1 : (i : Int) < 16 := by omega
    obtain ⟨l1, l2, l3, l4⟩ := like_fact hh0 hh1 hi0 hi1
    refine ex_assign S' (a := .int (likeOf home i)) (b_max (p := true) (ns := likes home i) okA.hd S'.cx nb (by walk_at "gl") ?_ l1 l2) (by walk_at "sto") fun h₄ t₄ S₄ => ?_
    · have e : (likes home i).map AV.int = (((List.range 4).map fun j => AV.int ((j : Nat) : Int)).filter (fun a => match a with | .int z => ((i : Nat) : Int) % 2 ^ z.toNat == home / 2 ^ (4 - z).toNat | _ => false)).map (fun a => a) := by
        rw [comp_ints (g := fun z => z) (fun _ => rfl), List.map_id']; rfl
      show Den _ _ _ _ _ (isO (.list true ((likes home i).map AV.int)))
      rw [e]
      refine (den_comp (H := H') (fun a => match a with | .int z => ((i : Nat) : Int) % 2 ^ z.toNat == home / 2 ^ (4 - z).toNat | _ => false) (fun a => a) ([(Str.ofString "home", AV.int home), (Str.ofString "place", AV.int ((i : Nat) : Int))] : Vars) ["home", "place"]
        FE S'.cx (by walk_at "sub") (by decide +kernel) rfl (src_range1 (N := 4) okA.hd S'.cx nb (by walk_at "gl") (by walk_at "E") (by rfl) (by decide)) (by decide)
        (fun j h₅ cenv hj k₅ CE C => ifs_one ?_) (fun j h₅ cenv hj _ k₅ CE C => ?_)).old
      · have hj' : (0 : Int) ≤ 4 - (j : Int) := by omega
        exact test_cmpI (by walk_at "E") (by walk_at "E") (by rfl)
      · walk_at "E"
    refine ex_append (μ₁ := []) (c := cp) (a := .int (home / 2 ^ (3 - likeOf home i).toNat % 2)) S₄ (by walk_at "lk") (by walk_at "own") (by walk_at "E") (by simp; omega) (fun h₅ t₅ S₅ => ?_) (by decide +kernel)
    refine ex_nil ?_
    refine ⟨_, _, h₅, t₅, rfl, ⟨rfl, rfl⟩, ?_⟩
    have e2 : ((List.range i).map (planAt home)).map AV.int ++ [AV.int (home / 2 ^ (3 - likeOf home i).toNat % 2)] = ((List.range (i + 1)).map (planAt home)).map AV.int := by simp [List.range_succ, planAt]
    simp only [List.nil_append, MO.ints] at S₅ ⊢
    rw [e2] at S₅
    exact S₅.sub (by walk_at "sub")
  case done =>
    rintro _ _ h' t' E' ⟨rfl, rfl⟩ S'
    refine ex_nil ?_
    have S₄ := (St.loose (μ₁ := []) S')
    refine ex_for S₄ (src_ints okA.hd S₄.cx (by walk_at "lk") (by walk_at "own") (by decide +kernel) (hI.up k) S₄.keep) (fun i ρ μ => ρ = ([(Str.ofString "home", AV.int home), (Str.ofString "turned", AV.ref c), (Str.ofString "plan", AV.ref cp)] : Vars) ∧ μ = [(cp, MO.ints false ((turned.take i).foldl flip ((List.range 16).map (planAt home))))]) ⟨rfl, rfl⟩ (by walk_at "sto") ?turn2 ?done2
    case turn2 =>
      rintro i _ _ H' h' t' E' hi ⟨rfl, rfl⟩ kH S'
      have hpl : IsPlan ((turned.take i).foldl flip ((List.range 16).map (planAt home))) := planOf_plan home (turned.take i)
      have hx := ht turned[i] (List.getElem_mem hi)
      have hg : turned.getD i 0 = turned[i] := by simp [List.getD, hi]
      have hnext : (turned.take (i + 1)).foldl flip ((List.range 16).map (planAt home)) = flip ((turned.take i).foldl flip ((List.range 16).map (planAt home))) turned[i] := by
        rw [List.take_add_one, List.foldl_append]; simp [hi]
      simp only [hg] at S'
      generalize turned[i] = p at *
      generalize (turned.take i).foldl flip ((List.range 16).map (planAt home)) = plan at *
      obtain ⟨hx0, hx1⟩ := hx
      have hp2 : p.toNat < plan.length := by rw [hpl.1]; omega
      have gp := get_int (xs := plan) hx0 hp2
      have hfit : p < 2 ^ 63 := by omega
      refine ex_setitem (μ₁ := []) (c := cp) (i := p) (a := .int (1 - plan.getD p.toNat 0)) S' (den_sub (by walk_at "E") (den_item (by walk_at "E") (by walk_at "E") S'.l1 hx0 hfit gp)) (by walk_at "E") (by walk_at "E") hx0 hfit (by rw [List.length_map, hpl.1]; omega) fun h₆ t₆ S₆ => ?_
      refine ex_nil ?_
      refine ⟨_, _, h₆, t₆, rfl, ⟨rfl, rfl⟩, ?_⟩
      rw [hnext]
      have e1 : (plan.map AV.int).set p.toNat (.int (1 - plan.getD p.toNat 0)) = (flip plan p).map AV.int := by unfold flip; rw [List.map_set]
      simp only [List.nil_append, MO.ints] at S₆ ⊢
      rw [e1] at S₆
      exact S₆.sub (by walk_at "sub")
    case done2 =>
      rintro _ _ h' t' E' ⟨rfl, rfl⟩ S'
      refine ex_nil ?_
      refine ex_return (T := fun _ => is (.ref cp)) (by walk_at "E") fun v h'' t'' k'' hv => ?_
      cases hv
      rw [List.take_length] at S'
      exact ⟨⟨cp, rfl, S'.nb cp (by simp [own]), S'.l1.up k''⟩, ⟨h'', t'', rfl, S'.keep.trans k''⟩⟩
end

section
variable {prog : Program} {w : World} {A : Around} {mg mb : Str → Option Value} {B H h : Heap} {env : Env} {ρ : Vars} {μ : Led} {σ : Shared} {t : Nat} {v : Value} {E : Value → Shared → Prop}
  {pos px ap cp p1 p2 p3 spos : Pos} {e e1 e2 e3 l r ov : Expr} {x y : Str} {rest : List Stmt} {Q : Flow → Shared → Prop} {cs fs : Scope}

/-- a call of a method of Python's own -/
theorem den_meth {id : String} {name : Str} {es : List Expr} {T : Value → Heap → Prop} {TA : List Value → Heap → Prop} {U : Heap → Value → Heap → Prop} {pl : Sem Bool} (hU : ∀ a a' v b, Keep a a' → U a' v b → U a v b)
    (ho : Den prog w A h (eval ov env) T) (hT : ∀ v h h', Keep h h' → T v h → T v h')
    (hg : ∀ v (s : Shared) (Q : Value × List Value → Shared → Prop) E, T v s.heap → Q (.builtin id, [v]) s → wpAny (model prog w) A (getMethod v name pl) Q E s)
    (ha : DenA prog w A h env cp (e :: es) TA)
    (hc : ∀ v vs h', Keep h h' → T v h' → TA vs h' → DenG prog w A h' (call (.builtin id) (v :: vs)) U)
    (hm : eval (.Call (.Attribute ov name ap) (e :: es) [] cp) env = (do
      let ov ← eval ov env
      standAt ap.atName
      let (f, first) ← holding [ov] (getMethod ov name pl)
      callWith cp f first (backTo cp (starEach (e :: es) env)) []) := by rfl)
    (he : starEach (e :: es) env = (false, eval e env) :: starEach es env := by rfl) (hplain : (backTo cp (starEach es env)).any (·.1) = false := by rfl) :
    DenG prog w A h (eval (.Call (.Attribute ov name ap) (e :: es) [] cp) env) U := by
  intro s E hk
  refine MethodCall_ (pl := pl) ?_ hm
  refine ho.wp hk fun v h₁ t₁ k₁ hv => ?_
  refine hg v (Sm s h₁ t₁) _ _ hv ?_
  refine callWith_method1 ?_ he hplain
  refine DenG.wp (ha.up (hk.trans k₁)) (s := Sm s h₁ t₁) Keep.rfl fun vs h₂ t₂ k₂ hvs => ?_
  exact wpAny_mono (hc v vs h₂ ((hk.trans k₁).trans k₂) (hT _ _ _ k₂ hv) hvs (Sm s h₂ t₂) E Keep.rfl) (fun v s' y => ⟨hU _ _ _ _ (k₁.trans k₂) y.1, Keeps.trans' ⟨h₂, t₂, rfl, k₁.trans k₂⟩ y.2⟩) fun _ _ e => e

theorem flat_str {v : Value} {x : Str} (h : PyProof.V.Flat v (.str x)) : (AV.str x).ok v := by
  exact PyProof.V.Flat.str_inv h

/-- d.get(i, text) in a table of ints -/
theorem den_get_int {d : Addr} {D : List (PyData × PyData)} {i : Int} {z : Str} (hB : IntTab prog w h d D) (ho : Den prog w A h (eval ov env) (fun u _ => u = .ref d)) (h1 : Den prog w A h (eval e1 env) (isI i)) (h2 : Den prog w A h (eval e2 env) (isS x))
    (hl : (PySem.Spec.lookup (.int i) D).getD (.str x) = .str z)
    {pl : Sem Bool} (hm : eval (.Call (.Attribute ov "get" ap) [e1, e2] [] cp) env = (do
      let ov ← eval ov env
      standAt ap.atName
      let (f, first) ← holding [ov] (getMethod ov "get" pl)
      callWith cp f first (backTo cp (starEach [e1, e2] env)) []) := by rfl)
    (he : starEach [e1, e2] env = (false, eval e1 env) :: starEach [e2] env := by rfl) (he' : starEach [e2] env = (false, eval e2 env) :: starEach [] env := by rfl) :
    Den prog w A h (eval (.Call (.Attribute ov "get" ap) [e1, e2] [] cp) env) (isS z) := by
  refine den_meth (id := "dict.get") (T := fun u h' => u = .ref d ∧ IntTab prog w h' d D) any_down ?_ (fun v a a' k ⟨e, T⟩ => ⟨e, T.keep k⟩) (fun v s Q E ⟨e, T⟩ q => ?_) (args_more h1 (args_more h2 args_none is_up he') is_up he) (fun v vs h' k ⟨e, T⟩ ⟨v1, vs', e1, hv, u, us, e2, hu, e3⟩ => ?_) hm he (by rw [he']; rfl)
  · exact fun s E hk => ho.wp hk fun v h₁ t₁ k₁ hv => ⟨⟨hv, hB.keep (hk.trans k₁)⟩, ⟨h₁, t₁, rfl, k₁⟩⟩
  · subst e; exact getMethod_intTab_get T q
  · subst e e1 e2 e3
    obtain ⟨t1, rfl⟩ := hv; obtain ⟨t2, rfl⟩ := hu
    refine Den.of fun s Q E kk q => call_get2_intTab (T.keep kk) (PyProof.V.Flat.str _ _) fun v hv => q _ _ ?_
    rw [hl] at hv; exact flat_str hv
/-- d.get(text, text) in a table of texts -/
theorem den_get_str {d : Addr} {D : List (PyData × PyData)} {i z : Str} (hB : StrTab prog w h d D) (ho : Den prog w A h (eval ov env) (fun u _ => u = .ref d)) (h1 : Den prog w A h (eval e1 env) (isS i)) (h2 : Den prog w A h (eval e2 env) (isS x))
    (hl : (PySem.Spec.lookup (.str i) D).getD (.str x) = .str z)
    {pl : Sem Bool} (hm : eval (.Call (.Attribute ov "get" ap) [e1, e2] [] cp) env = (do
      let ov ← eval ov env
      standAt ap.atName
      let (f, first) ← holding [ov] (getMethod ov "get" pl)
      callWith cp f first (backTo cp (starEach [e1, e2] env)) []) := by rfl)
    (he : starEach [e1, e2] env = (false, eval e1 env) :: starEach [e2] env := by rfl) (he' : starEach [e2] env = (false, eval e2 env) :: starEach [] env := by rfl) :
    Den prog w A h (eval (.Call (.Attribute ov "get" ap) [e1, e2] [] cp) env) (isS z) := by
  refine den_meth (id := "dict.get") (T := fun u h' => u = .ref d ∧ StrTab prog w h' d D) any_down ?_ (fun v a a' k ⟨e, T⟩ => ⟨e, T.keep k⟩) (fun v s Q E ⟨e, T⟩ q => ?_) (args_more h1 (args_more h2 args_none is_up he') is_up he) (fun v vs h' k ⟨e, T⟩ ⟨v1, vs', e1, hv, u, us, e2, hu, e3⟩ => ?_) hm he (by rw [he']; rfl)
  · exact fun s E hk => ho.wp hk fun v h₁ t₁ k₁ hv => ⟨⟨hv, hB.keep (hk.trans k₁)⟩, ⟨h₁, t₁, rfl, k₁⟩⟩
  · subst e; exact getMethod_strTab_get T q
  · subst e e1 e2 e3
    obtain ⟨t1, rfl⟩ := hv; obtain ⟨t2, rfl⟩ := hu
    refine Den.of fun s Q E kk q => call_get2_strTab (T.keep kk) (PyProof.V.Flat.str _ _) fun v hv => q _ _ ?_
    rw [hl] at hv; exact flat_str hv
/-- sep.join(texts) -/
theorem den_join {p : Bool} {ys : List Str} (ho : Den prog w A h (eval ov env) (isS x)) (h1 : Den prog w A h (eval e env) (isO (.strs p ys))) (hsz : (ys.map (·.length)).sum + ys.length * x.length ≤ 16777216)
    {pl : Sem Bool} (hm : eval (.Call (.Attribute ov "join" ap) [e] [] cp) env = (do
      let ov ← eval ov env
      standAt ap.atName
      let (f, first) ← holding [ov] (getMethod ov "join" pl)
      callWith cp f first (backTo cp (starEach [e] env)) []) := by rfl)
    (he : starEach [e] env = (false, eval e env) :: starEach [] env := by rfl) :
    Den prog w A h (eval (.Call (.Attribute ov "join" ap) [e] [] cp) env) (isS (Txt.join x ys)) := by
  refine den_meth (id := "str.join") (T := isS x) any_down ho is_up (fun v s Q E hv q => ?_) (args_more h1 args_none isO_up he) (fun v vs h' k hv ⟨v1, vs', e1, hv1, e2⟩ => ?_) hm he rfl
  · obtain ⟨t, rfl⟩ := hv
    exact getMethod_builtin (typeIs_str _ _ _) F.plainAttrs_str F.slot_str_join F.type_str_join (fun _ e => nomatch e) q
  · subst e1 e2
    obtain ⟨t, rfl⟩ := hv; obtain ⟨c, rfl, hI⟩ := hv1
    refine Den.of fun s Q E kk q => ?_
    obtain ⟨vs, hL, hO⟩ := hI.up kk
    exact join_list hL.1 (by simpa using Oks.toStrs hO) hsz fun t' k => q _ _ (isS_mk _ _ _)
/-- text.split(sep) -/
theorem den_split (ho : Den prog w A h (eval ov env) (isS x)) (h1 : Den prog w A h (eval e env) (isS y)) (hy : (y.length == 0) = false) (hsz : x.length ≤ 100000) (hsz2 : (Builtin.Str.partsBetween x (Builtin.Str.occurrences x y 0 x.length (x.length + 1)) y.length).length ≤ 100000)
    {pl : Sem Bool} (hm : eval (.Call (.Attribute ov "split" ap) [e] [] cp) env = (do
      let ov ← eval ov env
      standAt ap.atName
      let (f, first) ← holding [ov] (getMethod ov "split" pl)
      callWith cp f first (backTo cp (starEach [e] env)) []) := by rfl)
    (he : starEach [e] env = (false, eval e env) :: starEach [] env := by rfl) :
    Den prog w A h (eval (.Call (.Attribute ov "split" ap) [e] [] cp) env) (isO (.strs false (Txt.split x y))) := by
  refine den_meth (id := "str.split") (T := isS x) any_down ho is_up (fun v s Q E hv q => ?_) (args_more h1 args_none is_up he) (fun v vs h' k hv ⟨v1, vs', e1, hv1, e2⟩ => ?_) hm he rfl
  · obtain ⟨t, rfl⟩ := hv
    exact getMethod_builtin (typeIs_str _ _ _) F.plainAttrs_str F.slot_str_split F.type_str_split (fun _ e => nomatch e) q
  · subst e1 e2
    obtain ⟨t, rfl⟩ := hv; obtain ⟨t', rfl⟩ := hv1
    intro s E kk
    refine SCG.split1 (Fm := fun s' => Keeps s s') (fun s' ob k q => Keeps.trans' q ⟨_, k, rfl, fun b o e => Heap.get?_push_of_some _ e⟩) Keeps.rfl' hy (fun D l s' hl hK hL => ?_) (Nat.le_trans hsz (by decide)) (Nat.le_trans hsz2 (by decide))
    refine ⟨⟨D, rfl, strValues l, ⟨hL, fun e => by cases e⟩, ?_⟩, hK⟩
    rw [← hl]
    clear hl hL
    induction l with
    | nil => exact .nil
    | cons a l ih => exact .cons ⟨a.2, rfl⟩ ih
end

section
variable {prog : Program} {w : World} {A : Around} {mg mb : Str → Option Value} {B H h base : Heap} {env : Env} {outer : List Env} {ρ : Vars} {μ : Led} {σ s : Shared} {t : Nat} {v : Value} {E : Value → Shared → Prop}

/-- an exception's object, as it is made -/
def Made (h : Heap) (e : Addr) (cls : String) : Prop := ∃ oe vs a0, h.get? e = some oe ∧ oe.cls = .type cls ∧ oe.data = .fields vs ∧ vs[1]? = some .none ∧ vs[0]? = some a0

theorem made_at {e : Addr} {cls : String} {a : Value} {x : Array Value} (he : h.get? e = some { cls := .type cls, dict := none, data := .fields (#[a, .none, .none, .none, .bool false, .none] ++ x) }) : Made h e cls :=
  by refine ⟨_, #[a, .none, .none, .none, .bool false, .none] ++ x, a, he, rfl, rfl, ?_, ?_⟩ <;> (rw [Array.getElem?_append_left (by simp)]; rfl)
theorem next_item {it l : Addr} {i : Nat} {items : Array Value} {x : Value} {Q : Value → Shared → Prop} (hit : s.heap.IsListIter it l i) (hl : s.heap.IsList l items) (hx : items[i]? = some x)
    (hQ : ∀ h', h'.IsListIter it l (i + 1) → Heap.SameBut it s.heap h' → Q x { s with heap := h' }) : wpAny (model prog w) A (call (.builtin "next") [.ref it]) Q E s := by
  obtain ⟨o, ho, hc, hd⟩ := id hit
  obtain ⟨ol, hol, _, nl, hdl⟩ := hl
  refine call_function_entry (by decide +kernel) (by decide +kernel) en_next (ar_next _) ?_
  unfold Builtin.«next»
  refine wpAny_bind (m := someArgs "next" 1 2 _) (wpAny_of_eq (a := [Value.ref it]) (by first | rfl | kernel_rfl!) ?_)
  dsimp only
  refine wpAny_bind (wpAny_specialOf (name := Str.ofString "__next__") hit.typeIs slot_listiter_next.lookup ?_)
  refine wpAny_ite_split (fun hab => absurd hab (by decide)) (fun _ => ?_)
  refine wpAny_bind (wpAny_callSpecial?_slot (name := Str.ofString "__next__") hit.typeIs slot_listiter_next (wpAny_call_entry slot_listiter_next hit.typeIs entry_listiter_next ?_ (args_listiter_next _)))
  show wpAny _ _ (field (.ref it) 0 >>= _) _ _ s
  refine wpAny_bind (wpAny_field ho hd (x := .ref l) rfl ?_)
  show wpAny _ _ (if (Value.ref l == Value.none) = true then _ else _) _ _ s
  rw [if_neg (show ¬ ((Value.ref l == Value.none) = true) from Bool.false_ne_true)]
  show wpAny _ _ (field (.ref it) 1 >>= _) _ _ s
  refine wpAny_bind (wpAny_field ho hd (x := .int i 0) rfl ?_)
  show wpAny _ _ (seqItems? (.ref l) >>= _) _ _ s
  refine wpAny_bind (wpAny_seqItems hol hdl ?_)
  simp only [Int.toNat_natCast, hx]
  refine wpAny_bind (wpAny_setField ho hd (by simp) (wpAny_pure ⟨x, rfl, wpAny_pure ⟨_, rfl, hQ _ ?_ (Heap.SameBut.update ..)⟩⟩))
  exact ⟨_, Heap.get?_update_self _ ho (Obj.isFreed_of_fields (Obj.data_mapFields hd _)), (Obj.cls_mapFields ..).trans hc, by rw [Obj.data_mapFields hd]; simp [rawInt]⟩

theorem next_end {it l : Addr} {i : Nat} {items : Array Value} {Q : Value → Shared → Prop} (hh : A.handled = none) (hit : s.heap.IsListIter it l i) (hl : s.heap.IsList l items) (hx : items[i]? = none)
    (hQ : ∀ h' e, Heap.ExtBut it s.heap h' → s.heap.get? e = none → Made h' e "StopIteration" → E (.ref e) { s with heap := h' }) : wpAny (model prog w) A (call (.builtin "next") [.ref it]) Q E s := by
  obtain ⟨o, ho, hc, hd⟩ := id hit
  obtain ⟨ol, hol, _, nl, hdl⟩ := hl
  refine call_function_entry (by decide +kernel) (by decide +kernel) en_next (ar_next _) ?_
  unfold Builtin.«next»
  refine wpAny_bind (m := someArgs "next" 1 2 _) (wpAny_of_eq (a := [Value.ref it]) (by first | rfl | kernel_rfl!) ?_)
  dsimp only
  refine wpAny_bind (wpAny_specialOf (name := Str.ofString "__next__") hit.typeIs slot_listiter_next.lookup ?_)
  refine wpAny_ite_split (fun hab => absurd hab (by decide)) (fun _ => ?_)
  refine wpAny_bind (wpAny_callSpecial?_slot (name := Str.ofString "__next__") hit.typeIs slot_listiter_next (wpAny_call_entry slot_listiter_next hit.typeIs entry_listiter_next ?_ (args_listiter_next _)))
  show wpAny _ _ (field (.ref it) 0 >>= _) _ _ s
  refine wpAny_bind (wpAny_field ho hd (x := .ref l) rfl ?_)
  show wpAny _ _ (if (Value.ref l == Value.none) = true then _ else _) _ _ s
  rw [if_neg (show ¬ ((Value.ref l == Value.none) = true) from Bool.false_ne_true)]
  show wpAny _ _ (field (.ref it) 1 >>= _) _ _ s
  refine wpAny_bind (wpAny_field ho hd (x := .int i 0) rfl ?_)
  show wpAny _ _ (seqItems? (.ref l) >>= _) _ _ s
  refine wpAny_bind (wpAny_seqItems hol hdl ?_)
  simp only [Int.toNat_natCast, hx]
  refine wpAny_bind (wpAny_rule (wpAny_bind (wpAny_setField ho hd (by simp) ?_)))
  show wpAny _ _ (newExc (.type "StopIteration") [] >>= _) _ _ _
  refine wpAny_bind ?_
  simp only [newExc, newTuple]
  refine wpAny_bind (wpAny_newObj_type ?_ (by size_fits))
  refine wpAny_bind (m := firstArgMember _ _) (wpAny_of_eq (a := Value.none) (by first | rfl | (simp only [firstArgMember]; rfl)) ?_)
  refine wpAny_newObj_type ?_ (by size_fits)
  simp only [raiseNew]
  refine wpAny_bind (wpAny_handled ?_)
  rw [show A.in1.in1.handled = none from hh]
  refine wpAny_bind (wpAny_pure (wpAny_throw ?_))
  exact hQ _ _ (((Heap.SameBut.update ..).extBut.push _).push _) (Heap.get?_none_of_le (by simp)) (made_at (Heap.get?_push_size _ rfl))

theorem ord_bad {a b : Nat} {tk : Tok} {Q : Value → Shared → Prop} (hh : A.handled = none)
    (hQ : ∀ h' tk e, Heap.NewExc s.heap h' e "TypeError" → E (.ref e) { s with heap := h', toks := tk }) : wpAny (model prog w) A (call (.builtin "ord") [.str ⟨#[a, b]⟩ tk]) Q E s := by
  refine call_function_entry F.kind_ord F.plain_ord F.entry_ord (F.args_ord1 _) ?_
  unfold Builtin.«ord»
  refine wpAny_bind (m := oneArg "ord" _) (wpAny_of_eq (a := Value.str ⟨#[a, b]⟩ tk) (by first | rfl | kernel_rfl!) ?_)
  refine wpAny_bind (wpAny_of_eq (a := some (⟨#[a, b]⟩ : Str)) (by first | rfl | kernel_rfl!) ?_)
  refine wpAny_bind (wpAny_pure ?_)
  dsimp only
  refine wpAny_bind (wpAny_rule ?_)
  exact wpAny_raiseErrorMade plainExc_TypeError (show A.in1.handled = none from hh) (fun h' tk e hx => hQ h' tk e hx) (by rw [show [a, b].length = 2 from rfl]; decide +kernel)
end

section
variable {prog : Program} {w : World} {M : Model} {A : Around} {mg mb : Str → Option Value} {B H h h' base : Heap} {env : Env} {outer : List Env} {ρ : Vars} {μ : Led} {σ s : Shared} {t : Nat} {v : Value} {E : Value → Shared → Prop} {cls : String} {e L : Addr} {a0 : Value}

/-! ## An exception on its way -/
theorem note_first {Q : Unit → Shared → Prop} (hfr : A.frames = some (env :: outer)) (hl : s.heap.FunFrames base (env :: outer)) (hf : env.frame = some L) (hkb : base.StaysIn s.heap) (hen : base.get? e = none) (hm : Made s.heap e cls)
    (k : ∀ h' a0, Heap.HeldW base (env :: outer) e (.type cls) a0 L h' → s.heap.UpToSlots h' → Q () { s with heap := h' }) : wpAny M A (noteFrame (.ref e) env) Q E s := by
  obtain ⟨oe, vs, a0, he, hc, hd, h1, h0⟩ := hm
  unfold noteFrame
  simp only [hf]
  refine wpAny_bind (wpAny_field he hd h1 ?_)
  rw [if_neg (by decide)]
  exact wpAny_entryW hfr hl hf he hkb hen hd (Array.getElem?_eq_some_iff.mp h1).1 h0 fun h' ⟨x1, x2, x3, x4⟩ => k h' a0 ⟨x1, hen, x2, hc ▸ x3⟩ x4
theorem leave_first {Q : Unit → Shared → Prop} (hfr : A.frames = some (env :: outer)) (hl : s.heap.FunFrames base (env :: outer)) (hf : env.frame = some L) (hkb : base.StaysIn s.heap) (hen : base.get? e = none) (hm : Made s.heap e cls)
    (k : ∀ h' a0, Heap.FlyingW base outer e (.type cls) a0 h' → s.heap.UpToSlots h' → Q () { s with heap := h' }) : wpAny M A (leaving env (.ref e)) Q E s := by
  obtain ⟨oe, vs, a0, he, hc, hd, h1, h0⟩ := hm
  exact wpAny_leaving_firstW hfr hl hf he hkb hen hd h1 h0 fun h' ⟨x1, ⟨_, _, x2⟩, x3, x4⟩ => k h' a0 ⟨x1, hen, x2, hc ▸ x3⟩ x4
theorem leave_heldW {Q : Unit → Shared → Prop} {c : Value} (hf : env.frame = some L) (hh : Heap.HeldW base (env :: outer) e c a0 L s.heap)
    (k : ∀ h', Heap.FlyingW base outer e c a0 h' → s.heap.UpToSlots h' → Q () { s with heap := h' }) : wpAny M A (leaving env (.ref e)) Q E s := by
  unfold leaving
  refine wpAny_bind (wpAny_noteFrame_againW hf hh.2.2.2 ?_)
  refine wpAny_landsW hh fun h' hfl hu => ?_
  obtain ⟨k1, k2, ⟨_, _, k3⟩, k4⟩ := hfl
  exact k h' ⟨k1, k2, k3, k4⟩ hu
theorem came_back {c : Value} (hf : env.frame = some L) (hh : Heap.HeldW base (env :: outer) e c a0 L s.heap)
    (k : ∀ h', Heap.HeldW base (env :: outer) e c a0 L h' → s.heap.UpToSlots h' → E (.ref e) { s with heap := h' }) : cameBackBy M A env E (.ref e) s := by
  obtain ⟨hkb, hen, hl, oe, vs, T, oT, ts, he, hcls, hd, h1, hnT, hTe, hT, hdT, h3⟩ := hh
  have hsz3 : 3 < ts.size := (Array.getElem?_eq_some_iff.mp h3).1
  have other : ∀ b, b ≠ T → (s.heap.update T (Obj.mapFields (·.setIfInBounds 3 (rawInt L)))).get? b = s.heap.get? b := fun b hb => Heap.get?_update_other _ _ (Ne.symm hb)
  have noRecord : ∀ b o, s.heap.get? b = some o → (∀ vs, o.data ≠ .fields vs) → b ≠ T := fun b o hb hnf q => by
    rw [q, hT] at hb; injection hb with hb; subst hb; exact hnf ts hdT
  unfold cameBackBy
  refine wpAny_bind (wpAny_field he hd h1 ?_)
  rw [if_neg (show ¬ ((Value.ref T == Value.none) = true) from Bool.false_ne_true)]
  show wpAny _ _ (setFlight (.ref e) env.frame) _ _ _
  rw [hf]
  unfold setFlight
  refine wpAny_bind (wpAny_field he hd h1 ?_)
  rw [if_pos (show (Value.ref T != Value.none) = true from by simp)]
  refine wpAny_setField hT hdT hsz3 (k _ ⟨fun b o hbo => (other b fun q => by rw [q, hnT] at hbo; cases hbo).trans (hkb b o hbo), hen, hl.of_keeps fun b o hb hnf => ⟨o, (other b (noRecord b o hb hnf)).trans hb, rfl⟩, ?_⟩ fun b o hb hn => ⟨o.slots, (other b (noRecord b o hb hn)).trans hb⟩)
  exact ⟨oe, vs, T, _, _, (other e (Ne.symm hTe)).trans he, hcls, hd, h1, hnT, hTe, Heap.get?_update_self _ hT (Obj.isFreed_of_fields (Obj.data_mapFields hdT _)), Obj.data_mapFields hdT _, by simp [hsz3]⟩

/-- what a raising call leaves -/
def Rz (base : Heap) (outer : List Env) (cls : String) (s : Shared) (e : Value) (s' : Shared) : Prop := ∃ a a0 h' t', e = .ref a ∧ s' = Sm s h' t' ∧ Heap.FlyingW base outer a (.type cls) a0 h' ∧ s.heap.UpToSlots h'

/-- where a frame stands: the frames below it, and what lies below them all -/
structure Fd (A : Around) (base : Heap) (outer : List Env) (h : Heap) : Prop where
  fr : A.frames = some outer
  st : base.StaysIn h
  ff : h.FunFrames base outer
theorem Fd.up (F : Fd A base outer h) (k : Keep h h') : Fd A base outer h' := ⟨F.fr, fun b o e => k b o (F.st b o e), F.ff.of_keeps fun b o e _ => ⟨o, k b o e, rfl⟩⟩
/-- one frame more -/
theorem Fd.push {scope : Scope} (F : Fd A base outer H) (FE : FEnv scope env) (S : St mg mb B H env ρ μ h) : Fd (A.deeper env) base (env :: outer) h := by
  obtain ⟨m, n, _⟩ := S.cx.loc
  have F' := F.up S.keep
  exact ⟨Around.frames_deeper F.fr, F'.st, Heap.FunFrames.cons (by rw [S.cx.fk]; decide) FE.fr n (none_down F.st (S.nb _ (.head _))) F'.ff⟩
theorem Fd.ext {it : Addr} (F : Fd A base outer h) (k : ∀ b o, b ≠ it → h.get? b = some o → h'.get? b = some o) (hb : base.get? it = none) (hi : ∃ o vs, h.get? it = some o ∧ o.data = .fields vs) : Fd A base outer h' :=
  ⟨F.fr, fun b o e => k b o (fun q => by rw [q, hb] at e; cases e) (F.st b o e), F.ff.of_keeps fun b o e nf => ⟨o, k b o (fun q => by obtain ⟨o', vs, ho, hd⟩ := hi; rw [q, ho] at e; cases e; exact nf vs hd) e, rfl⟩⟩

/-- a frame behind an exception that was caught -/
theorem St.after {μ' : Led} (S : St mg mb B H env ρ (μ' ++ μ) h) (kb : Keep H h') (sl : h.UpToSlots h') (hl : ∀ p ∈ μ, Is h' p.1 p.2) : St mg mb B H env ρ μ h' := by
  have S := S.drop
  refine ⟨⟨S.cx.gd, S.bh.trans kb, S.cx.fk, S.cx.fg, S.cx.fb, ?_, fun y b d hd hl => ?_⟩, S.bh, kb, S.nb, hl, S.nd, fun d hd => ?_⟩
  · obtain ⟨f, n, l⟩ := S.cx.loc
    exact ⟨f, sl.ns n, l⟩
  · obtain ⟨u, ⟨o, ho, r⟩, hu'⟩ := S.cx.cel y b d hd hl
    obtain ⟨sl', e⟩ := sl d o ho fun vs q => by rw [r] at q; cases q
    exact ⟨u, ⟨_, e, r⟩, hu'⟩
  · obtain ⟨u, o, ho, r⟩ := S.cells d hd
    obtain ⟨sl', e⟩ := sl d o ho fun vs q => by rw [r] at q; cases q
    exact ⟨u, _, e, r⟩

theorem flying_up {l : List Env} {c : Value} (F : Heap.FlyingW base l e c a0 h) (k : Keep h h') : Heap.FlyingW base l e c a0 h' := by
  obtain ⟨f1, f2, f3, oe, vs, T, oT, ts, he, hc, hd, h1, hnT, hTe, hT, hdT, h3⟩ := F
  exact ⟨fun b o q => k b o (f1 b o q), f2, f3.of_keeps fun b o q _ => ⟨o, k b o q, rfl⟩, oe, vs, T, oT, ts, k _ _ he, hc, hd, h1, hnT, hTe, k _ _ hT, hdT, h3⟩
theorem sub_of {X T : String} {b : Bool} (h : subB X (.type T) = some b) : isSubtype (.type X) (.type T) = pure b := isSubtype_of_subB h
/-- an exception that the frame catches by its class -/
theorem handle_fly {μ' : Led} {x : Str} {X T : String} {np pos : Pos} {b₀ : Stmt} {suite : List Stmt} {rest : List ExceptHandler} {Q : Flow → Shared → Prop} {h₀ : Heap} {t₀ : Nat} (kHb : Keep H base) (S : St mg mb B H env ρ (μ' ++ μ) h₀) (fl : Heap.FlyingW base (env :: outer) e (.type X) a0 h) (u : h₀.UpToSlots h)
    (hI : ∀ p ∈ μ, Is base p.1 p.2)
    (hx : ∀ A' h', Cx mg mb B env ρ h' → Den prog w A' h' (eval (.Name x np) env) (fun u _ => u = .type T))
    (h1 : isSubtype (.type T) (.type "BaseException") = pure true) (h2 : isSubtype (.type ((Manifest.find? T).elim "type" fun y => y.metatype)) (.type "tuple") = pure false) (h3 : isSubtype (.type X) (.type T) = pure true)
    (k : ∀ h' t' E', h₀.UpToSlots h' → St mg mb B H env ρ μ h' → wpAny (model prog w) (A.mark (some (.ref e))) (execs (b₀ :: suite) env) Q E' (Sm σ h' t')) :
    wpAny (model prog w) A (handleBy (.ref e) env (.ExceptHandler (some (.Name x np)) none (b₀ :: suite) pos :: rest)) Q E (Sm σ h t₀) := by
  have S₁ : St mg mb B H env ρ μ h := S.after (kHb.trans fl.1) u fun p hp => (hI p hp).up fl.1
  refine wpAny_handleBy_builtin (X := X) (T := T) (b := true) h1 h2 h3 ?_
  refine (hx _ h S₁.cx).wp (s := Sm σ h t₀) Keep.rfl fun v h₂ t₂ k₂ hv => ?_
  have fl₂ := flying_up fl k₂
  refine ⟨hv, ?_, ?_⟩
  · obtain ⟨ob, hob, hc⟩ := fl₂.there
    exact ⟨ob, hob, hc⟩
  · rw [if_pos rfl]
    refine lands_againW (s := Sm σ h₂ t₂) fl₂ fun h₃ fl₃ u₃ => ?_
    have u' := (u.trans (Heap.UpToSlots.of_keeps k₂)).trans u₃
    exact k h₃ t₂ _ u' (S.after (kHb.trans fl₃.1) u' fun p hp => (hI p hp).up fl₃.1)
theorem catch_fly {μ' : Led} {x : Str} {X T : String} {np pos : Pos} {b₀ : Stmt} {suite : List Stmt} {rest : List ExceptHandler} {Q : Flow → Shared → Prop} {h₀ : Heap} {t₀ : Nat} (hfr : A.frames = some (env :: outer)) (hf : env.frame = some env.locals) (kHb : Keep H base) (S : St mg mb B H env ρ (μ' ++ μ) h₀) (fl : Heap.FlyingW base (env :: outer) e (.type X) a0 h) (u : h₀.UpToSlots h)
    (hI : ∀ p ∈ μ, Is base p.1 p.2)
    (hx : ∀ A' h', Cx mg mb B env ρ h' → Den prog w A' h' (eval (.Name x np) env) (fun u _ => u = .type T))
    (h1 : isSubtype (.type T) (.type "BaseException") = pure true) (h2 : isSubtype (.type ((Manifest.find? T).elim "type" fun y => y.metatype)) (.type "tuple") = pure false) (h3 : isSubtype (.type X) (.type T) = pure true)
    (k : ∀ h' t' E', h₀.UpToSlots h' → St mg mb B H env ρ μ h' → wpAny (model prog w) (A.mark (some (.ref e))) (execs (b₀ :: suite) env) Q E' (Sm σ h' t')) :
    wpAny (model prog w) A (noteFrame (.ref e) env) (fun _ s₂ => wpAny (model prog w) A (setFlight (.ref e) none) (fun _ s₃ => wpAny (model prog w) A (handleBy (.ref e) env (.ExceptHandler (some (.Name x np)) none (b₀ :: suite) pos :: rest)) Q E s₃) E s₂) E (Sm σ h t₀) := by
  refine wpAny_looks_onW (s := Sm σ h t₀) hfr hf fl fun h₂ hh u₂ => ?_
  refine wpAny_landsW (s := Sm σ h₂ t₀) hh fun h₃ fl₃ u₃ => ?_
  exact handle_fly kHb S fl₃ ((u.trans u₂).trans u₃) hI hx h1 h2 h3 k
theorem catch_held {μ' : Led} {x : Str} {X T : String} {np pos : Pos} {b₀ : Stmt} {suite : List Stmt} {rest : List ExceptHandler} {Q : Flow → Shared → Prop} {h₀ : Heap} {t₀ : Nat} (hf : env.frame = some env.locals) (kHb : Keep H base) (S : St mg mb B H env ρ (μ' ++ μ) h₀) (hh : Heap.HeldW base (env :: outer) e (.type X) a0 env.locals h) (u : h₀.UpToSlots h)
    (hI : ∀ p ∈ μ, Is base p.1 p.2)
    (hx : ∀ A' h', Cx mg mb B env ρ h' → Den prog w A' h' (eval (.Name x np) env) (fun u _ => u = .type T))
    (h1 : isSubtype (.type T) (.type "BaseException") = pure true) (h2 : isSubtype (.type ((Manifest.find? T).elim "type" fun y => y.metatype)) (.type "tuple") = pure false) (h3 : isSubtype (.type X) (.type T) = pure true)
    (k : ∀ h' t' E', h₀.UpToSlots h' → St mg mb B H env ρ μ h' → wpAny (model prog w) (A.mark (some (.ref e))) (execs (b₀ :: suite) env) Q E' (Sm σ h' t')) :
    wpAny (model prog w) A (noteFrame (.ref e) env) (fun _ s₂ => wpAny (model prog w) A (setFlight (.ref e) none) (fun _ s₃ => wpAny (model prog w) A (handleBy (.ref e) env (.ExceptHandler (some (.Name x np)) none (b₀ :: suite) pos :: rest)) Q E s₃) E s₂) E (Sm σ h t₀) := by
  refine wpAny_noteFrame_againW (s := Sm σ h t₀) hf hh.2.2.2 ?_
  refine wpAny_landsW (s := Sm σ h t₀) hh fun h₃ fl₃ u₃ => ?_
  exact handle_fly kHb S fl₃ (u.trans u₃) hI hx h1 h2 h3 k

/-! ## Calls that may raise -/
theorem wp_callR {func e : Expr} {rest : List Expr} {f : Value} {pos : Pos} {Q : Value → Shared → Prop} (hk : Keep h s.heap)
    (hf : Den prog w A h (eval func env) (fun u _ => u = f))
    (hkeep : ∀ h', Keep B h' → ∃ k, (k = Keeper.frame ∨ k = Keeper.machine ∨ k = Keeper.boundFrame) ∧ Looks (model prog w) h' (keeperOf f) k)
    (ha : ∀ h₁ t₁, Keep s.heap h₁ → wpAny (model prog w) A (spliced (backTo pos (starEach (e :: rest) env))) (fun vs s₂ => Keep B s₂.heap ∧ wpAny (model prog w) A (call f vs) Q E s₂) E (Sm s h₁ t₁))
    (hE : eval (.Call func (e :: rest) [] pos) env = (do callWith pos (← eval func env) [] (backTo pos (starEach (e :: rest) env)) (backToKw pos (keywordEach [] env))) := by rfl)
    (he : starEach (e :: rest) env = (false, eval e env) :: starEach rest env := by rfl) (hplain : (backTo pos (starEach rest env)).any (·.1) = false := by rfl) :
    wpAny (model prog w) A (eval (.Call func (e :: rest) [] pos) env) Q E s := by
  refine Call_ (hf.wp hk fun u h₁ tk₁ k₁ hu => ?_) hE
  subst hu
  have ha' := ha h₁ tk₁ k₁
  rw [he] at ha'
  rw [he]
  refine callWith_of (P := fun h' => Keep B h') (by show ((false || (backTo pos (starEach rest env)).any (·.1)) || false) = false; rw [hplain]; rfl) (fun h' p => hkeep h' p) (evalArgs_plain ha')
end

section
variable {prog : Program} {w : World} {A : Around} {mg mb : Str → Option Value} {B H h h' base : Heap} {env : Env} {outer : List Env} {ρ : Vars} {μ : Led} {σ s : Shared} {t : Nat} {v : Value} {E : Value → Shared → Prop} {x y : Str} {rest : List Stmt} {Q : Flow → Shared → Prop} {pos px py pn cp : Pos}

/-- an old object that the frame may change -/
theorem St.own1 {m : MO} {it : Addr} (S : St mg mb B H env ρ [] h) (hI : Is H it m) (hB : B.get? it = none) : St mg mb B (hideAll H [it]) env ρ [(it, m)] h := by
  obtain ⟨o, ho⟩ := hI.alive
  have hn : ∀ b, b ∈ own env [] → b ≠ it := fun b hb q => by have := S.nb b hb; rw [q, ho] at this; cases this
  have e : ∀ b, b ∈ own env [(it, m)] → b ∈ own env [] ∨ b = it := fun b hb => by
    simp only [own, List.map_nil, List.append_nil, List.mem_cons, List.map_cons, List.mem_append, List.not_mem_nil, or_false] at hb ⊢
    rcases hb with hb | hb | hb
    · exact .inl (.inl hb)
    · exact .inl (.inr hb)
    · exact .inr hb
  refine ⟨S.cx, fun b o q => hideAll_get _ (S.bh b o q) fun hm => ?_, fun b o q => S.keep b o (of_hideAll _ q), fun b hb => ?_, fun p hp => ?_, ?_, S.cells⟩
  · rw [List.mem_singleton.mp hm, hB] at q; cases q
  · rcases e b hb with hb | rfl
    · exact none_down (fun b o q => of_hideAll _ q) (S.nb b hb)
    · exact hideAll_none _ (.head _)
  · rw [List.mem_singleton.mp hp]; exact hI.up S.keep
  · have nd := S.nd
    simp only [own, List.map_nil, List.append_nil, List.map_cons] at nd hn ⊢
    have hp : (env.locals :: (env.cells.map (·.2) ++ [it])).Perm (it :: env.locals :: env.cells.map (·.2)) := (List.Perm.cons _ (List.perm_append_comm (l₂ := [it]))).trans (List.Perm.swap _ _ _)
    exact hp.nodup_iff.mpr (List.nodup_cons.mpr ⟨fun q => hn it q rfl, nd⟩)

/-- x = next(y), y a list's iterator that is not at its end -/
theorem ex_next {it l : Addr} {i : Nat} {p : Bool} {ns : List Int} {μ₁ μ₂ : Led} (S : St mg mb B H env ρ (μ₁ ++ (it, .iter l i) :: μ₂) h) (nb : NoB mg) (g1 : env.kindOf (Str.ofString "next") = some .globalImplicit) (hl : Lk ρ y (.ref it)) (hv : ownVar env y = true) (hd : (y == ("__debug__" : Str)) = false) (ho : ownStore env x = true)
    (hI : Is h l (.ints p ns)) (hi : i < ns.length)
    (k : ∀ h' t', St mg mb B H env ((x, .int ns[i]) :: ρ) (μ₁ ++ (it, .iter l (i + 1)) :: μ₂) h' → (∀ b o, b ∉ own env (μ₁ ++ (it, .iter l i) :: μ₂) → h.get? b = some o → h'.get? b = some o) → wpAny (model prog w) A (execs rest env) Q E (Sm σ h' t'))
    (hs : swapsWith (.Call (.Name (Str.ofString "next") pn) [.Name y py] [] cp) (some (.Name x px)) pos.line env = pure false := by rfl) :
    wpAny (model prog w) A (execs (.Assign [.Name x px] (.Call (.Name (Str.ofString "next") pn) [.Name y py] [] cp) pos :: rest) env) Q E (Sm σ h t) := by
  refine wpAny_execs_cons (wpAny_Assign_Name ?_ hs)
  refine wp_callR (B := B) (s := Sm σ h t) Keep.rfl (den_bi S.cx nb (by decide) bi_next g1) (fun h' _ => keeper_builtin h') fun h₁ t₁ k₁ => ?_
  refine args_cons ?_ rfl
  refine (den_name (S.up k₁).cx hl hv hd).wp (s := Sm σ h₁ t₁) Keep.rfl fun u h₂ t₂ k₂ hu => ?_
  cases hu
  have S₂ := (S.up k₁).up k₂
  refine args_nil ⟨S₂.cx.kb, ?_⟩
  obtain ⟨vs, hL, hO⟩ := hI.up (k₁.trans k₂)
  have hx : (ns.map AV.int)[i]? = some (.int ns[i]) := by simp [hi]
  obtain ⟨z, hz, hz'⟩ := hO.get hx
  refine next_item (s := Sm σ h₂ t₂) (S₂.led (it, .iter l i) (by simp)) hL.1 (by simpa using hz) fun h₃ hit hsb => ?_
  have S₃ := S₂.change (m' := .iter l (i + 1)) (fun b o hb e => hsb.extBut b o hb e) hit
  refine st_store (σ := σ) (a := .int ns[i]) S₃ ho hz' fun h₄ t₄ S₄ kb => k h₄ t₄ S₄ fun b o hb e => ?_
  have ho' : own env (μ₁ ++ (it, .iter l (i + 1)) :: μ₂) = own env (μ₁ ++ (it, .iter l i) :: μ₂) := by simp [own]
  exact kb b o (ho' ▸ hb) (hsb.extBut b o (fun q => hb (by rw [q]; simp [own])) (k₂ b o (k₁ b o e)))
/-- the same, at the end -/
theorem ex_next_end {it l : Addr} {i : Nat} {p : Bool} {ns : List Int} {μ₁ μ₂ : Led} (hA : A.handled = none) (S : St mg mb B H env ρ (μ₁ ++ (it, .iter l i) :: μ₂) h) (nb : NoB mg) (g1 : env.kindOf (Str.ofString "next") = some .globalImplicit) (hl : Lk ρ y (.ref it)) (hv : ownVar env y = true) (hd : (y == ("__debug__" : Str)) = false)
    (hI : Is h l (.ints p ns)) (hi : ns.length ≤ i)
    (k : ∀ h' t' e, (∀ b o, b ≠ it → h.get? b = some o → h'.get? b = some o) → h.get? e = none → Made h' e "StopIteration" → E (.ref e) (Sm σ h' t'))
    (hs : swapsWith (.Call (.Name (Str.ofString "next") pn) [.Name y py] [] cp) (some (.Name x px)) pos.line env = pure false := by rfl) :
    wpAny (model prog w) A (execs (.Assign [.Name x px] (.Call (.Name (Str.ofString "next") pn) [.Name y py] [] cp) pos :: rest) env) Q E (Sm σ h t) := by
  refine wpAny_execs_cons (wpAny_Assign_Name ?_ hs)
  refine wp_callR (B := B) (s := Sm σ h t) Keep.rfl (den_bi S.cx nb (by decide) bi_next g1) (fun h' _ => keeper_builtin h') fun h₁ t₁ k₁ => ?_
  refine args_cons ?_ rfl
  refine (den_name (S.up k₁).cx hl hv hd).wp (s := Sm σ h₁ t₁) Keep.rfl fun u h₂ t₂ k₂ hu => ?_
  cases hu
  have S₂ := (S.up k₁).up k₂
  refine args_nil ⟨S₂.cx.kb, ?_⟩
  obtain ⟨vs, hL, hO⟩ := hI.up (k₁.trans k₂)
  have hlen : vs.length = ns.length := by simpa using hO.length
  refine next_end (s := Sm σ h₂ t₂) hA (S₂.led (it, .iter l i) (by simp)) hL.1 (by simp; omega) fun h₃ e hsb hn hm => ?_
  exact k h₃ t₂ e (fun b o hb q => hsb b o hb (k₂ b o (k₁ b o q))) (none_down (k₁.trans k₂) hn) hm
end

section
variable {prog : Program} {w : World} {A : Around} {mg mb : Str → Option Value} {B H h h' base : Heap} {env : Env} {outer : List Env} {ρ : Vars} {μ : Led} {σ s : Shared} {t : Nat} {v : Value} {E : Value → Shared → Prop} {e : Expr} {x y : Str} {rest : List Stmt} {Q : Flow → Shared → Prop} {pos px py pn cp : Pos}
/-- iter(xs) -/
theorem b_iter {c : Addr} {p : Bool} {xs : List AV} (C : Cx mg mb B env ρ h) (nb : NoB mg) (g1 : env.kindOf (Str.ofString "iter") = some .globalImplicit) (d : Den prog w A h (eval e env) (is (.ref c))) (hI : Is h c (.list p xs))
    (he : starEach [e] env = [(false, eval e env)] := by rfl) : DenG prog w A h (eval (.Call (.Name (Str.ofString "iter") px) [e] [] pos) env) (isN (.iter c 0)) :=
  den_b1 (T := is (.ref c)) (den_bi C nb (by decide) bi_iter g1) d is_up isN_down (fun v h' k hv => by
    cases hv
    intro s E kk
    obtain ⟨vs, hL, hO⟩ := hI.up (k.trans kk)
    refine call_function_entry (by decide +kernel) (by decide +kernel) en_iter (ar_iter _) ?_
    unfold Builtin.«iter»
    refine wpAny_bind (m := someArgs "iter" 1 2 _) (wpAny_of_eq (a := [Value.ref c]) (by first | rfl | kernel_rfl!) ?_)
    show wpAny _ _ (pyIter (.ref c) >>= _) _ _ _
    refine wpAny_bind (wpAny_pyIter_list hL.1 ?_)
    refine wpAny_pure ⟨_, rfl, ⟨_, rfl, Heap.get?_none_of_le (Nat.le_refl _), ?_⟩, ⟨_, s.toks, rfl, fun b o e => Heap.get?_push_of_some _ e⟩⟩
    exact ⟨_, Heap.get?_push_size _ rfl, rfl, rfl⟩) he
/-- what a frame's call may change: one object and the frames' marks -/
theorem Fd.hide {it : Addr} (F : Fd A base outer h) : Fd A (hideAll h (outer.filterMap (·.frame) ++ [it])) outer h ∧ (base.get? it = none → Keep base (hideAll h (outer.filterMap (·.frame) ++ [it]))) := by
  refine ⟨⟨F.fr, fun b o q => of_hideAll _ q, fun_hide _ F.ff fun e he a ha => List.mem_append_left _ (List.mem_filterMap.mpr ⟨e, he, ha⟩)⟩, fun hn b o q => hideAll_get _ (F.st b o q) fun hm => ?_⟩
  rcases List.mem_append.mp hm with hm | hm
  · rw [(F.ff.mem hm).1] at q; cases q
  · rw [List.mem_singleton.mp hm, hn] at q; cases q
/-- an object that is no frame and not the changed one -/
theorem Fd.hidden {it : Addr} {b : Addr} {o : Obj} (F : Fd A base outer h) (ho : h.get? b = some o) (hb : b ≠ it) (hf : b ∉ outer.filterMap (·.frame)) : (hideAll h (outer.filterMap (·.frame) ++ [it])).get? b = some o :=
  hideAll_get _ ho fun hm => by
    rcases List.mem_append.mp hm with hm | hm
    · exact hf hm
    · exact hb (List.mem_singleton.mp hm)
theorem drop_chunks {α : Type} (chunks : List (List α)) (tl : List α) (i : Nat) : (chunks.flatten ++ tl).drop (chunks.take i).flatten.length = (chunks.drop i).flatten ++ tl := by
  have e : chunks.flatten ++ tl = (chunks.take i).flatten ++ ((chunks.drop i).flatten ++ tl) := by
    rw [← List.append_assoc, ← List.flatten_append, List.take_append_drop]
  rw [e, List.drop_left]
end

section
variable {prog : Program} {w : World} {A : Around} {mg mb : Str → Option Value} {B H h h' base : Heap} {env : Env} {outer : List Env} {ρ : Vars} {μ : Led} {σ s : Shared} {t : Nat} {v : Value} {E : Value → Shared → Prop} {e l r value slice : Expr} {x y : Str} {rest : List Stmt} {Q : Flow → Shared → Prop} {pos px py pn cp : Pos}
/-- text[i] -/
theorem den_itemS {i : Int} (hv : Den prog w A h (eval value env) (isS x)) (hi : Den prog w A h (eval slice env) (isI i)) (h0 : 0 ≤ i) (hlt : i < x.length) (hx : x.length ≤ 100000)
    (hs : ∀ t u, subscripted slice false (.str x t) (.int i u) = operate [.str x t, .int i u] (getItem (.str x t) (.int i u)) := by intro _ _; with_unfolding_all rfl)
    (ht : ∀ t r, letTemporaryGo value (.str x t) r = pure () := by intro _ _; with_unfolding_all rfl) : Den prog w A h (eval (.Subscript value slice pos) env) (isS (Txt.item x i)) := by
  intro s E hk
  refine Subscript_ (hv.wp hk fun u h₁ tk₁ k₁ hu => ?_)
  obtain ⟨tu, rfl⟩ := hu
  refine (hi.up (hk.trans k₁)).wp (s := { s with heap := h₁, toks := tk₁ }) (fun _ _ e => e) fun u h₂ tk₂ k₂ hu => ?_
  obtain ⟨t, rfl⟩ := hu
  exact item_str (s := Sm s h₂ tk₂) (fitsSsize_of (N := 9223372036854775808) (by omega) (by omega) (Int.le_refl _)) (by omega) hlt (fun _ => ⟨isS_mk _ _ _, ⟨h₂, _, rfl, k₁.trans k₂⟩⟩) (hs tu t) (ht tu)
/-- text * n -/
theorem den_mulS {n : Int} (hl : Den prog w A h (eval l env) (isS x)) (hr : Den prog w A h (eval r env) (isI n)) (h0 : 0 ≤ n) (h1 : n ≤ 1000) (hx : x.length ≤ 1000) : Den prog w A h (eval (.BinOp l .Mult r pos) env) (isS (Txt.mul x n)) :=
  den_bin hl (fun _ k => hr.up k) is_up fun u v h' k hu hv => by
    obtain ⟨t, rfl⟩ := hu; obtain ⟨t', rfl⟩ := hv
    exact Den.of fun s Q E kk q => SB.mul (mulOk_of 1000 1000 hx h1 (by omega) (by decide) (by decide)) fun t' k => q _ _ (isS_mk _ _ _)
end

section
variable {prog : Program} {w : World} {A : Around} {mg mb : Str → Option Value} {B H h h' base : Heap} {env : Env} {outer : List Env} {ρ : Vars} {μ : Led} {σ s : Shared} {t : Nat} {v : Value} {E : Value → Shared → Prop} {e l r value slice : Expr} {x y : Str} {rest : List Stmt} {Q : Flow → Shared → Prop} {pos px py pn cp : Pos}
def cmpS : CmpOp → Str → Str → Option Bool
  | .Eq, a, b => some (a == b)
  | .NotEq, a, b => some (!(a == b))
  | _, _, _ => none
theorem den_compareS {op : CmpOp} {c : Bool} (hc : cmpS op x y = some c) (u v : Value) (h' : Heap) (hu : isS x u h') (hv : isS y v h') : Den prog w A h' (compareOp op u v) (isB c) := by
  obtain ⟨t, rfl⟩ := hu; obtain ⟨t', rfl⟩ := hv
  refine Den.of fun s Q E kk q => ?_
  cases op <;> simp only [cmpS, Option.some.injEq, reduceCtorEq] at hc <;> subst hc
  · exact PyProof.Rows.eq_str (q _ s.toks (isB_mk _ _))
  · exact PyProof.Rows.ne_str (q _ s.toks (by first | exact isB_mk _ _ | (simp only [bne]; exact isB_mk _ _)))
theorem test_cmpS {op : CmpOp} {c : Bool} {whole : Sem Value} (hl : Den prog w A h (eval l env) (isS x)) (hr : Den prog w A h (eval r env) (isS y)) (hc : cmpS op x y = some c)
    (hm : behindInMarks op r = false := by with_unfolding_all rfl) : Den prog w A h (isTrue (.Compare l [op] [r] pos) env whole) (isT c) :=
  den_test_cmp hl (fun _ k => hr.up k) is_up (fun u v h' _ hu hv => den_compareS hc u v h' hu hv) hm
/-- a table of texts -/
def isTab (prog : Program) (w : World) (D : List (PyData × PyData)) (v : Value) (h : Heap) : Prop := ∃ d, v = .ref d ∧ StrTab prog w h d D
theorem isTab_up {D : List (PyData × PyData)} : ∀ v h h', Keep h h' → isTab prog w D v h → isTab prog w D v h' := fun _ _ _ k ⟨d, e, T⟩ => ⟨d, e, T.keep k⟩
theorem pow_small {k : Nat} (hk : k < 64) : ((2 : Int) ^ k).natAbs < 2 ^ 64 := by
  rw [Int.natAbs_pow]
  exact Nat.pow_lt_pow_right (by decide) hk
theorem bit1 (z : Int) : (Builtin.bitAnd z 1 != 0) = (z % 2 == 1) := by
  have e := bitAnd_m1 z
  have e' : Builtin.bitAnd z 1 = z % 2 := e
  rw [e']
  have : z % 2 = 0 ∨ z % 2 = 1 := by omega
  rcases this with e | e <;> rw [e] <;> decide
end

/-! ## pretty_flags -/
def flagNames : List (PyData × PyData) := [(.int 1, .str "OPTIMIZED"), (.int 2, .str "NEWLOCALS"), (.int 4, .str "VARARGS"), (.int 8, .str "VARKEYWORDS"), (.int 16, .str "NESTED"), (.int 32, .str "GENERATOR"), (.int 64, .str "NOFREE"), (.int 128, .str "COROUTINE"), (.int 256, .str "ITERABLE_COROUTINE"), (.int 512, .str "ASYNC_GENERATOR")]
/-- the table of the flags' names, where the program finds it -/
def FT (prog : Program) (w : World) (mg : Str → Option Value) (B : Heap) : Prop := ∃ d, mg "COMPILER_FLAG_NAMES" = some (.ref d) ∧ IntTab prog w B d flagNames
def wordD (i : Nat) : PyData := (PySem.Spec.lookup (.int (2 ^ i)) flagNames).getD (.str (baseText "0x" 16 (2 ^ i)))
def wordN (i : Nat) : Str := match wordD i with
  | .str s => s
  | _ => ""
theorem wordD_eq : ∀ i, i < 32 → wordD i = .str (wordN i) := by
  have h : ∀ i, i < 32 → (match wordD i with | .str _ => true | _ => false) = true := by decide +kernel
  intro i hi
  have := h i hi
  unfold wordN
  cases e : wordD i <;> rw [e] at this <;> first | rfl | cases this
theorem wordN_len : ∀ i, i < 32 → (wordN i).length ≤ 20 := by decide +kernel
theorem hex_len : ∀ i, i < 32 → (baseText "0x" 16 (2 ^ i)).length ≤ sizeLine := by decide +kernel
def bitB (f : Int) (i : Nat) : Bool := f / 2 ^ i % 2 == 1
def wordsTo (f : Int) (n : Nat) : List Str := ((List.range n).filter (bitB f)).map wordN
theorem wordsTo_succ (f : Int) (n : Nat) : wordsTo f (n + 1) = wordsTo f n ++ if bitB f n then [wordN n] else [] := by
  unfold wordsTo
  rw [List.range_succ, List.filter_append, List.map_append]
  congr 1
  simp only [List.filter_cons, List.filter_nil]
  split <;> rfl
theorem wordsTo_len (f : Int) (n : Nat) : (wordsTo f n).length ≤ n := by
  unfold wordsTo
  rw [List.length_map]
  exact Nat.le_trans (List.length_filter_le _ _) (by simp)
theorem wordsTo_sum (f : Int) : ∀ n, n ≤ 32 → ((wordsTo f n).map (·.length)).sum ≤ 20 * n
  | 0, _ => by simp [wordsTo]
  | n + 1, h => by
    rw [wordsTo_succ, List.map_append, List.sum_append]
    have := wordsTo_sum f n (by omega)
    have := wordN_len n (by omega)
    split <;> simp <;> omega
/-- what pretty_flags tells -/
def prettyL (f : Int) : List Str := wordsTo f 32 ++ if f = 0 ∨ f / 2 ^ 32 ≠ 0 then [baseText "0x" 16 (f / 2 ^ 32 * 2 ^ 32)] else []
theorem cut_succ (f : Int) (i : Nat) : f / 2 ^ (i + 1) * 2 ^ (i + 1) = f / 2 ^ i * 2 ^ i - f / 2 ^ i % 2 * 2 ^ i := by
  have e : (2 : Int) ^ (i + 1) = 2 ^ i * 2 := Int.pow_succ ..
  rw [e, ← Int.ediv_ediv_of_nonneg (Int.le_of_lt (Int.pow_pos (by decide))), ← Int.sub_mul]
  have : f / 2 ^ i - f / 2 ^ i % 2 = f / 2 ^ i / 2 * 2 := by omega
  rw [this, Int.mul_assoc, Int.mul_comm 2]
theorem cut_bit (f : Int) (i : Nat) : f / 2 ^ i * 2 ^ i / 2 ^ i % 2 = f / 2 ^ i % 2 := by rw [Int.mul_ediv_cancel _ (Int.ne_of_gt (Int.pow_pos (by decide)))]
theorem cut_test (f : Int) (i : Nat) : (Builtin.bitAnd (f / 2 ^ i * 2 ^ i) (2 ^ i) != 0) = bitB f i := by
  rw [and_bit, cut_bit]
  have h0 : (0 : Int) < 2 ^ i := Int.pow_pos (by decide)
  unfold bitB
  have hm : f / 2 ^ i % 2 = 0 ∨ f / 2 ^ i % 2 = 1 := by omega
  rcases hm with e | e <;> rw [e]
  · simp
  · have : (2 : Int) ^ i ≠ 0 := by omega
    simp [this]
theorem cut_xor (f : Int) (i : Nat) (hb : bitB f i = true) : Builtin.bitXor (f / 2 ^ i * 2 ^ i) (2 ^ i) = f / 2 ^ (i + 1) * 2 ^ (i + 1) := by
  have hb : f / 2 ^ i % 2 = 1 := by simpa [bitB] using hb
  rw [bitXor_and, and_bit, cut_bit, cut_succ, hb]; omega
theorem cut_zero {f : Int} {i : Nat} (h : f / 2 ^ i * 2 ^ i = 0) : f / 2 ^ i = 0 := by
  have h0 : (2 : Int) ^ i ≠ 0 := Int.ne_of_gt (Int.pow_pos (by decide))
  exact (Int.mul_eq_zero.mp h).resolve_right h0
theorem zero_up {f : Int} {i j : Nat} (h : f / 2 ^ i = 0) (hij : i ≤ j) : f / 2 ^ j = 0 := by
  obtain ⟨k, rfl⟩ := Nat.exists_eq_add_of_le hij
  rw [Int.pow_add, ← Int.ediv_ediv_of_nonneg (Int.le_of_lt (Int.pow_pos (by decide))), h]; simp
theorem wordsTo_stop {f : Int} {i : Nat} (h : f / 2 ^ i = 0) : ∀ k, wordsTo f (i + k) = wordsTo f i
  | 0 => rfl
  | k + 1 => by
    rw [← Nat.add_assoc, wordsTo_succ, wordsTo_stop h k]
    have : bitB f (i + k) = false := by unfold bitB; rw [zero_up h (Nat.le_add_right _ _)]; decide
    simp [this]

section
variable {prog : Program} {w : World} {A : Around} {mg mb : Str → Option Value} {B H h : Heap} {env : Env} {ρ : Vars} {σ : Shared} {t : Nat}
theorem hexsmall {i : Int} (h : i.natAbs < 18446744073709551616) : (baseText "0x" 16 i).length ≤ 10000000 := by
  have e : (2 : Nat) ^ 64 = 18446744073709551616 := by decide
  have h64 : i.natAbs < 16 ^ 64 := Nat.lt_of_lt_of_le (by rw [e]; exact h) (Nat.pow_le_pow_left (by decide) 64)
  have h1 := toDigits_len_pow (by decide : 2 ≤ 16) (by decide : 1 ≤ 64) h64
  have h2 : (Str.ofString "0x").length = 2 := by decide +kernel
  unfold baseText
  rw [Str.length_append, Str.length_append, h2, ofString_ofList_length]
  have h3 : (Str.ofString (if i < 0 then "-" else "")).length ≤ 1 := by
    split <;> (rw [PyProof.Rows.ofString_len]; decide)
  omega
theorem f_flags (W : Wd mg mb B) (ft : FT prog w mg B) (f₀ : Int) (hf : f₀.natAbs < 2 ^ 62) : Sp prog w mg B 1 "pretty_flags" [isI f₀] (fun _ => isS (Txt.join ", " (prettyL f₀))) := by
  obtain ⟨f, hg, F⟩ := W.fn ("pretty_flags", 7) (by decide)
  obtain ⟨o, pm, cd, doc, ho, hd, _⟩ := F.ex
  refine ⟨f, o, _, hg, ho, hd, fun A h vs ok kb hT => ?_⟩
  obtain ⟨v, rfl, hv⟩ := hT.one
  refine den_fn (n := 0) (ρ := [("flags", .int f₀)]) (binds := [("flags", v)]) (xs := ["flags"]) F W.gd kb ok (fun _ _ _ => by kernel_rfl) (.cons ⟨rfl, hv⟩ .nil) (by decide +kernel) rfl fun s env h₁ t₁ E k FE okA S => ?_
  show wpAny _ _ (execs (boOf (stm 7)) env) _ _ _
  have nb := W.nb
  obtain ⟨d, hgd, ftab⟩ := ft
  refine ex_assignN S (m := .list true []) (den_list oks_none (by decide)) (by walk_at "sto") fun cn h₂ t₂ S₂ => ?_
  have S₃ : St mg mb B s.heap env ([(Str.ofString "flags", AV.int (f₀ / 2 ^ 0 * 2 ^ 0)), (Str.ofString "names", AV.ref cn)] : Vars) [(cn, MO.strs true (wordsTo f₀ 0))] h₂ := by
    have e : f₀ / 2 ^ 0 * 2 ^ 0 = f₀ := by simp
    rw [e]
    exact S₂.sub (by walk_at "sub")
  have e2 : ", " = (", " : Str) := rfl
  refine ex_for S₃ (src_range1 (N := 32) okA.hd S₃.cx nb (by walk_at "gl") (by walk_at "E") (by rfl) (by decide)) (fun i ρ μ => ρ = ([(Str.ofString "flags", AV.int (f₀ / 2 ^ i * 2 ^ i)), (Str.ofString "names", AV.ref cn)] : Vars) ∧ μ = [(cn, MO.strs true (wordsTo f₀ i))] ∧ (f₀ = 0 ∨ f₀ / 2 ^ i ≠ 0)) ⟨rfl, rfl, by simp; omega⟩ (by walk_at "sto") ?turn ?done
  case turn =>
    rintro i _ _ H' h' t' E' hi ⟨rfl, rfl, hz⟩ kH S'
    refine ex_assign S' (a := .int (2 ^ i)) (by
      have := den_shl (prog := prog) (w := w) (A := A.deeper env) (h := h') (env := env) (a := 1) (b := (i : Int)) (l := .Constant (.int 1) 0 ⟨30, 15, 30, 16⟩) (r := .Name "i" ⟨30, 20, 30, 21⟩) (pos := ⟨30, 15, 30, 21⟩) (by walk_at "E") (by walk_at "E") (by omega) (by omega) (by decide)
      simp only [Int.one_mul, Int.toNat_natCast] at this
      exact this) (by walk_at "sto") fun h₃ t₃ S₃ => ?_
    refine ex_if (c := bitB f₀ i) S₃ (by rw [← cut_test]; walk_at "T") (fun e h₄ t₄ S₄ => ?_) (fun e h₄ t₄ S₄ => ?_)
    · have hft : IntTab prog w h₄ d flagNames := ftab.keep S₄.cx.kb
      refine ex_append (μ₁ := []) (a := .str (wordN i)) S₄ (by walk_at "lk") (by walk_at "own")
        (den_get_int hft (den_global S₄.cx hgd (by walk_at "gl") (by decide +kernel)) (by walk_at "E") (b_hex S₄.cx nb (by walk_at "gl") (by walk_at "E") (hex_len i hi)) (wordD_eq i hi)) (by rw [List.length_map]; exact Nat.le_trans (wordsTo_len f₀ i) (by omega)) (fun h₅ t₅ S₅ => ?_) (by decide +kernel)
      refine ex_aug S₅ (x := "flags") (m := f₀ / 2 ^ i * 2 ^ i) (n := 2 ^ i) (c := f₀ / 2 ^ (i + 1) * 2 ^ (i + 1)) (by walk_at "lk") (by walk_at "own") (by walk_at "E") (by walk_at "sto") (fun t u s Q E q => ixor_int (by rw [cut_xor f₀ i e]; exact q)) fun h₆ t₆ S₆ => ?_
      have e3 : (wordsTo f₀ i).map AV.str ++ [AV.str (wordN i)] = (wordsTo f₀ (i + 1)).map AV.str := by rw [wordsTo_succ, e]; simp
      simp only [List.nil_append, MO.strs] at S₆
      rw [e3] at S₆
      refine ex_if (c := !(f₀ / 2 ^ (i + 1) * 2 ^ (i + 1) != 0)) S₆ (by walk_at "T") (fun e' h₇ t₇ S₇ => ?_) (fun e' h₇ t₇ S₇ => ?_)
      · have hz' : f₀ / 2 ^ (i + 1) = 0 := cut_zero (by simpa using e')
        refine ex_break ?_
        have hL : prettyL f₀ = wordsTo f₀ (i + 1) := by
          have h32 := zero_up hz' (show i + 1 ≤ 32 by omega)
          have hne : ¬ (f₀ = 0 ∨ f₀ / 2 ^ 32 ≠ 0) := by
            rintro (q | q)
            · subst q; simp [bitB] at e
            · exact q h32
          unfold prettyL
          rw [if_neg hne, List.append_nil]
          have := wordsTo_stop hz' (32 - (i + 1))
          rw [show i + 1 + (32 - (i + 1)) = 32 by omega] at this
          exact this
        refine ex_return (T := fun _ => isS (Txt.join ", " (prettyL f₀))) (den_join (p := true) (by walk_at "E") (fun s E hk => (den_name (prog := prog) (w := w) S₇.cx (x := "names") (a := .ref cn) (by walk_at "lk") (by walk_at "own") (by decide +kernel)).wp hk fun v h₁ t₁ k₁ hv => ⟨⟨cn, hv, by rw [hL]; exact S₇.l1.up (hk.trans k₁)⟩, ⟨h₁, t₁, rfl, k₁⟩⟩) (by
          rw [hL]; have h1 := wordsTo_sum f₀ (i + 1) (by omega); have h2 := wordsTo_len f₀ (i + 1)
          have h3 : (", " : Str).length = 2 := by decide +kernel
          rw [h3]; omega)) fun v h'' t'' k'' hv => ⟨hv, ⟨h'', t'', rfl, (kH.trans S₇.keep).trans k''⟩⟩
      · have hz' : f₀ / 2 ^ (i + 1) ≠ 0 := fun q => by rw [q] at e'; simp at e'
        refine ex_nil (ex_nil (ex_nil ⟨_, _, h₇, t₇, rfl, ⟨rfl, rfl, .inr hz'⟩, ?_⟩))
        exact S₇.sub (by walk_at "sub")
    · have hb : f₀ / 2 ^ i % 2 = 0 := by simp [bitB] at e; omega
      have hc := cut_succ f₀ i
      rw [hb, Int.zero_mul, Int.sub_zero] at hc
      refine ex_nil (ex_nil ⟨_, _, h₄, t₄, rfl, ⟨rfl, rfl, ?_⟩, ?_⟩)
      · rcases hz with hz | hz
        · exact .inl hz
        · refine .inr fun q => hz (cut_zero ?_)
          rw [← hc, q, Int.zero_mul]
      · have e3 : wordsTo f₀ (i + 1) = wordsTo f₀ i := by rw [wordsTo_succ, e]; simp
        rw [hc, e3]
        exact S₄.sub (by walk_at "sub")
  case done =>
    rintro _ _ h' t' E' ⟨rfl, rfl, hz⟩ S'
    have hL : prettyL f₀ = wordsTo f₀ 32 ++ [baseText "0x" 16 (f₀ / 2 ^ 32 * 2 ^ 32)] := by unfold prettyL; rw [if_pos hz]
    have hab : (f₀ / 2 ^ 32 * 2 ^ 32).natAbs < 18446744073709551616 := by omega
    have hlen : (baseText "0x" 16 (f₀ / 2 ^ 32 * 2 ^ 32)).length ≤ sizeLine := baseText_under (by decide +kernel) (by decide) hab
    refine ex_append (μ₁ := []) (a := .str (baseText "0x" 16 (f₀ / 2 ^ 32 * 2 ^ 32))) S' (by walk_at "lk") (by walk_at "own") (b_hex S'.cx nb (by walk_at "gl") (by walk_at "E") hlen) (by rw [List.length_map]; exact Nat.le_trans (wordsTo_len f₀ 32) (by omega)) (fun h₅ t₅ S₅ => ?_) (by decide +kernel)
    refine ex_nil ?_
    have e3 : (wordsTo f₀ 32).map AV.str ++ [AV.str (baseText "0x" 16 (f₀ / 2 ^ 32 * 2 ^ 32))] = (prettyL f₀).map AV.str := by rw [hL]; simp
    simp only [List.nil_append, MO.strs] at S₅
    rw [e3] at S₅
    refine ex_return (T := fun _ => isS (Txt.join ", " (prettyL f₀))) (den_join (p := true) (by walk_at "E") (fun s E hk => (den_name (prog := prog) (w := w) S₅.cx (x := "names") (a := .ref cn) (by walk_at "lk") (by walk_at "own") (by decide +kernel)).wp hk fun v h₁ t₁ k₁ hv => ⟨⟨cn, hv, S₅.l1.up (hk.trans k₁)⟩, ⟨h₁, t₁, rfl, k₁⟩⟩) (by
      rw [hL]; have h1 := wordsTo_sum f₀ 32 (by omega); have h2 := wordsTo_len f₀ 32
      have h3 : (", " : Str).length = 2 := by decide +kernel
      have h4 : (baseText "0x" 16 (f₀ / 2 ^ 32 * 2 ^ 32)).length ≤ 10000000 := hexsmall hab
      rw [h3, List.map_append, List.sum_append, List.length_append]; simp only [List.map_cons, List.map_nil, List.sum_cons, List.sum_nil, List.length_cons, List.length_nil]; omega)) fun v h'' t'' k'' hv => ⟨hv, ⟨h'', t'', rfl, S₅.keep.trans k''⟩⟩
end

/-! ## What ctrl refuses -/
section
variable {prog : Program} {w : World} {A : Around} {mg mb : Str → Option Value} {B H h base : Heap} {env : Env} {outer : List Env} {ρ : Vars} {σ s : Shared} {t : Nat}
/-- a function of the text that raises -/
def RSp (prog : Program) (w : World) (mg : Str → Option Value) (B : Heap) (n : Nat) (name : Str) (Ts : List (Value → Heap → Prop)) (cls : String) : Prop :=
  ∃ f o fd, mg name = some (.ref f) ∧ B.get? f = some o ∧ o.data = .func fd ∧ ∀ A (s : Shared) vs base outer, OkA n A → Keep B s.heap → Fd A base outer s.heap → ArgsT Ts vs s.heap → wpAny (model prog w) A (call (.ref f) vs) (fun _ _ => False) (Rz base outer cls s) s
theorem Rz.of {cls : String} {s : Shared} {h₁ : Heap} {t₁ : Nat} {e : Value} {s' : Shared} (k : Keep s.heap h₁) (r : Rz base outer cls (Sm s h₁ t₁) e s') : Rz base outer cls s e s' :=
  let ⟨a, a0, h', t', e1, e2, fl, u⟩ := r; ⟨a, a0, h', t', e1, e2, fl, (Heap.UpToSlots.of_keeps k).trans u⟩

theorem bi_TypeError : bootBuiltins (Str.ofString "TypeError") = some (.type "TypeError") := PyProof.Rows.Boot.«TypeError»
theorem bi_StopIteration : bootBuiltins (Str.ofString "StopIteration") = some (.type "StopIteration") := PyProof.Rows.Boot.«StopIteration»
theorem r_ctoi (W : Wd mg mb B) (a b : Nat) : RSp prog w mg B 1 "_ctoi" [isS ⟨#[a, b]⟩] "TypeError" := by
  obtain ⟨f, hg, F⟩ := W.fn ("_ctoi", 1) (by decide)
  obtain ⟨o, pm, cd, doc, ho, hd, _⟩ := F.ex
  refine ⟨f, o, _, hg, ho, hd, fun A s vs base outer ok kb FD hT => ?_⟩
  obtain ⟨v, rfl, hv⟩ := hT.one
  refine wp_fn (n := 0) (ρ := [("c", .str ⟨#[a, b]⟩)]) (binds := [("c", v)]) (xs := ["c"]) F W.gd kb ok (fun _ _ _ => by kernel_rfl) (.cons ⟨rfl, hv⟩ .nil) (by decide +kernel) rfl fun env h₁ t₁ FE okA S => ?_
  show wpAny _ _ (execs (boOf (stm 1)) env) _ _ _
  have nb := W.nb
  refine ex_if S (c := true) (by walk_at "T") (fun _ h₂ t₂ S₂ => ?_) (fun e => by cases e)
  refine wpAny_execs_cons (wpAny_Return_some ?_)
  refine wp_callR (B := B) (s := Sm s h₂ t₂) Keep.rfl (den_bi S₂.cx nb (by decide) bi_ord (by walk_at "gl")) (fun h' _ => keeper_builtin h') fun h₃ t₃ k₃ => ?_
  have S₃ := S₂.up k₃
  refine args_cons ?_ rfl
  refine (den_name S₃.cx (x := "c") (a := .str ⟨#[a, b]⟩) (by walk_at "lk") (by walk_at "own") (by decide +kernel)).wp (s := Sm s h₃ t₃) Keep.rfl fun u h₄ t₄ k₄ hu => ?_
  obtain ⟨tu, rfl⟩ := hu
  have S₄ := S₃.up k₄
  refine args_nil ⟨S₄.cx.kb, ?_⟩
  refine ord_bad (s := Sm s h₄ t₄) okA.hd fun h₅ t₅ e hx => ?_
  have FD₄ := FD.push FE S₄
  have FD₅ := FD₄.up hx.keeps
  obtain ⟨ob, tt, he, hc, hdd⟩ := hx.there
  refine leave_first (s := Sm s h₅ t₅) (base := base) FD₅.fr FD₅.ff FE.fr FD₅.st (none_down FD₄.st hx.new) ⟨ob, _, tt, he, hc, hdd, rfl, rfl⟩ fun h₆ a0 fl u => ?_
  exact ⟨e, a0, h₆, t₅, rfl, rfl, fl, ((Heap.UpToSlots.of_keeps S₄.keep).trans (Heap.UpToSlots.of_keeps hx.keeps)).trans u⟩

/-- a raising call of a function of the text -/
theorem wp_rsp {n : Nat} {name : Str} {T : List (Value → Heap → Prop)} {cls : String} {env : Env} {ρ : Vars} {h : Heap} {E : Value → Shared → Prop} {Q : Value → Shared → Prop} {e : Expr} {rest : List Expr} {pos px : Pos} (C : Cx mg mb B env ρ h) (R : RSp prog w mg B n name T cls) (ok : OkA n A) (hk : Keep h s.heap) (FD : Fd A base outer h)
    (hx : env.kindOf name = some .globalImplicit) (hd : (name == ("__debug__" : Str)) = false) (ha : DenA prog w A h env pos (e :: rest) (ArgsT T))
    (k : ∀ e' s', Rz base outer cls s e' s' → E e' s')
    (he : starEach (e :: rest) env = (false, eval e env) :: starEach rest env := by rfl) (hplain : (backTo pos (starEach rest env)).any (·.1) = false := by rfl) :
    wpAny (model prog w) A (eval (.Call (.Name name px) (e :: rest) [] pos) env) Q E s := by
  obtain ⟨f, o, fd, hg, ho, hdt, hc⟩ := R
  refine wp_callR (B := B) hk (den_global C hg hx hd) (fun h' k => keeper_fn (k _ _ ho) hdt) (fun h₁ t₁ k₁ => ?_) rfl he hplain
  refine DenG.wp (ha.up (hk.trans k₁)) (s := Sm s h₁ t₁) Keep.rfl fun vs h₂ t₂ k₂ hv => ?_
  have kb := ((C.kb.trans hk).trans k₁).trans k₂
  exact ⟨kb, wpAny_mono (hc A (Sm s h₂ t₂) vs base outer ok kb (FD.up ((hk.trans k₁).trans k₂)) hv) (fun _ _ y => y.elim) fun e' s' y => k e' s' (y.of (k₁.trans k₂))⟩

theorem r_ctrl (W : Wd mg mb B) (a b : Nat) : RSp prog w mg B 2 "ctrl" [isS ⟨#[a, b]⟩] "TypeError" := by
  obtain ⟨f, hg, F⟩ := W.fn ("ctrl", 3) (by decide)
  obtain ⟨o, pm, cd, doc, ho, hd, _⟩ := F.ex
  refine ⟨f, o, _, hg, ho, hd, fun A s vs base outer ok kb FD hT => ?_⟩
  obtain ⟨v, rfl, hv⟩ := hT.one
  refine wp_fn (n := 1) (ρ := [("c", .str ⟨#[a, b]⟩)]) (binds := [("c", v)]) (xs := ["c"]) F W.gd kb ok (fun _ _ _ => by kernel_rfl) (.cons ⟨rfl, hv⟩ .nil) (by decide +kernel) rfl fun env h₁ t₁ FE okA S => ?_
  show wpAny _ _ (execs (boOf (stm 3)) env) _ _ _
  have nb := W.nb
  refine ex_if S (c := true) (by walk_at "T") (fun _ h₂ t₂ S₂ => ?_) (fun e => by cases e)
  refine wpAny_execs_cons (wpAny_Return_some ?_)
  refine wp_callR (B := B) (s := Sm s h₂ t₂) Keep.rfl (den_bi S₂.cx nb (by decide) bi_chr (by walk_at "gl")) (fun h' _ => keeper_builtin h') fun h₃ t₃ k₃ => ?_
  have S₃ := S₂.up k₃
  refine args_cons ?_ rfl
  refine wpAny_BinOp ?_
  refine wp_rsp (s := Sm s h₃ t₃) (base := base) (outer := env :: outer) S₃.cx (r_ctoi W a b) okA Keep.rfl (FD.push FE S₃) (by walk_at "gl") (by decide +kernel) (by walk_at "A") (fun e' s' r => ?_)
  obtain ⟨e, a0, h₄, t₄, rfl, rfl, fl, u⟩ := r
  refine wpAny_leaves_onW (FD.push FE S₃).fr FE.fr fl fun h₅ fl' u' => ?_
  exact ⟨e, a0, h₅, t₄, rfl, rfl, fl', ((Heap.UpToSlots.of_keeps S₃.keep).trans u).trans u'⟩

/-- what a function that catches leaves -/
def CSp (prog : Program) (w : World) (mg : Str → Option Value) (B : Heap) (n : Nat) (name : Str) (Ts : List (Value → Heap → Prop)) (U : Heap → Value → Heap → Prop) : Prop :=
  ∃ f o fd, mg name = some (.ref f) ∧ B.get? f = some o ∧ o.data = .func fd ∧ ∀ A (s : Shared) vs base outer E, OkA n A → Keep B s.heap → Keep B base → Fd A base outer s.heap → ArgsT Ts vs s.heap → ArgsT Ts vs base →
    wpAny (model prog w) A (call (.ref f) vs) (fun v s' => ∃ h' t', s' = Sm s h' t' ∧ U base v h' ∧ base.StaysIn h' ∧ s.heap.UpToSlots h') E s

theorem f_refused (W : Wd mg mb B) (a b : Nat) : CSp prog w mg B 3 "_law_refused" [isS ⟨#[a, b]⟩] (fun _ => isB true) := by
  obtain ⟨f, hg, F⟩ := W.fn ("_law_refused", 18) (by decide)
  obtain ⟨o, pm, cd, doc, ho, hd, _⟩ := F.ex
  refine ⟨f, o, _, hg, ho, hd, fun A s vs base outer E ok kb kbb FD hT _ => ?_⟩
  obtain ⟨v, rfl, hv⟩ := hT.one
  refine wp_fn (n := 2) (ρ := [("text", .str ⟨#[a, b]⟩)]) (binds := [("text", v)]) (xs := ["text"]) F W.gd kb ok (fun _ _ _ => by kernel_rfl) (.cons ⟨rfl, hv⟩ .nil) (by decide +kernel) rfl fun env h₁ t₁ FE okA S => ?_
  show wpAny _ _ (execs (boOf (stm 18)) env) _ _ _
  have nb := W.nb
  refine wpAny_execs_cons (wpAny_Try_except ?_)
  have hi : interactive env = false := by unfold interactive; rw [S.cx.fk]; rfl
  refine wpAny_execs_cons (wpAny_Expr ?_ hi rfl)
  refine wp_rsp (s := Sm s h₁ t₁) (base := base) (outer := env :: outer) S.cx (r_ctrl W a b) okA Keep.rfl (FD.push FE S) (by walk_at "gl") (by decide +kernel) (by walk_at "A") (fun e' s' r => ?_)
  obtain ⟨e, a0, h₄, t₄, rfl, rfl, fl, u⟩ := r
  have Sb := S.base FD.st kbb
  refine catch_fly (σ := s) (μ' := []) (μ := []) (FD.push FE S).fr FE.fr Keep.rfl Sb fl u (fun _ h => nomatch h) (fun A' h' C => den_bi C nb (by decide) bi_TypeError (by walk_at "gl")) PySem.F.isExc_TypeError PySem.F.notTuple_TypeError (by rw [isSubtype_type]; kernel_rfl) fun h₅ t₅ E' u₅ S₅ => ?_
  refine ex_return (σ := s) (T := fun _ => isB true) (by walk_at "E") fun v h₆ t₆ k₆ hv => ?_
  exact ⟨h₆, t₆, rfl, hv, fun b o q => k₆ b o (S₅.keep b o q), ((Heap.UpToSlots.of_keeps S.keep).trans u₅).trans (Heap.UpToSlots.of_keeps k₆)⟩
end

/-! ## _parse_varint -/
def valOf (xs : List Int) : Int := xs.foldl (fun v b => v * 64 + b % 64) 0
theorem valOf_snoc (xs : List Int) (b : Int) : valOf (xs ++ [b]) = valOf xs * 64 + b % 64 := by simp [valOf, List.foldl_append]
theorem valOf_bound (xs : List Int) : 0 ≤ valOf xs ∧ valOf xs < 64 ^ xs.length := by
  have gen : ∀ (xs : List Int) (v : Int) (k : Nat), 0 ≤ v → v < 64 ^ k → 0 ≤ xs.foldl (fun v b => v * 64 + b % 64) v ∧ xs.foldl (fun v b => v * 64 + b % 64) v < 64 ^ (k + xs.length) := by
    intro xs
    induction xs with
    | nil => intro v k h1 h2; exact ⟨h1, h2⟩
    | cons b xs ih =>
      intro v k h1 h2
      have := ih (v * 64 + b % 64) (k + 1) (by omega) (by rw [Int.pow_succ]; omega)
      rw [List.length_cons, show k + (xs.length + 1) = k + 1 + xs.length by omega]
      exact this
  have := gen xs 0 0 (by decide) (by decide)
  rw [Nat.zero_add] at this
  exact this
theorem bitOr_low {v b : Int} (hv : 0 ≤ v) : Builtin.bitOr (v * 64) (b % 64) = v * 64 + b % 64 := by
  have hb : 0 ≤ b % 64 := by omega
  have hb' : b % 64 < 64 := by omega
  have h0 : 0 ≤ v * 64 := by omega
  generalize b % 64 = r at *
  have e : (v * 64).toNat = v.toNat <<< 6 := by rw [Nat.shiftLeft_eq]; omega
  have e2 : (v * 64).toNat &&& r.toNat = 0 := by
    rw [e]
    apply Nat.eq_of_testBit_eq
    intro k
    rw [Nat.testBit_and, Nat.testBit_shiftLeft, Nat.zero_testBit]
    by_cases hk : 6 ≤ k
    · rw [Nat.testBit_lt_two_pow (Nat.lt_of_lt_of_le (by omega : r.toNat < 2 ^ 6) (Nat.pow_le_pow_right (by decide) hk)), Bool.and_false]
    · rw [decide_eq_false (by omega : ¬ k ≥ 6)]; rfl
  rw [bitOr_and, bitAnd_pp h0 hb, e2]; omega
theorem and63 (b : Int) : Builtin.bitAnd b 63 = b % 64 := bitAnd_m6 b
theorem and64 (b : Int) : (Builtin.bitAnd b 64 != 0) = (b / 64 % 2 == 1) := by
  rw [show (64 : Int) = 2 ^ 6 from rfl, and_bit b 6]
  have : b / 2 ^ 6 % 2 = 0 ∨ b / 2 ^ 6 % 2 = 1 := by omega
  rcases this with e | e <;> rw [e] <;> decide

section
variable {prog : Program} {w : World} {A : Around} {mg mb : Str → Option Value} {B H h base : Heap} {env : Env} {outer : List Env} {ρ : Vars} {σ s : Shared} {t : Nat}
theorem f_parse (W : Wd mg mb B) : ∃ f o fd, mg "_parse_varint" = some (.ref f) ∧ B.get? f = some o ∧ o.data = .func fd ∧ ∀ A (s : Shared) base outer (it l : Addr) (p : Bool) (ns hs rest : List Int) (i : Nat) (Q : Value → Shared → Prop) (E : Value → Shared → Prop),
    OkA 1 A → Keep B s.heap → B.get? it = none → Fd A base outer s.heap → base.get? it = none → Is s.heap it (.iter l i) → Is s.heap l (.ints p ns) → ns.drop i = hs ++ rest → (∀ x ∈ hs, x / 64 % 2 = 1) → hs.length ≤ 8 → (∀ z tl, rest = z :: tl → z / 64 % 2 = 0) →
    (∀ z tl v h' t', rest = z :: tl → isI (valOf (hs ++ [z])) v h' → (∀ b o, b ≠ it → s.heap.get? b = some o → h'.get? b = some o) → Is h' it (.iter l (i + hs.length + 1)) → Q v (Sm s h' t')) →
    (rest = [] → ∀ e s', Rz base outer "StopIteration" s e s' → E e s') → wpAny (model prog w) A (call (.ref f) [.ref it]) Q E s := by
  obtain ⟨f, hg, F⟩ := W.fn ("_parse_varint", 8) (by decide)
  obtain ⟨o, pm, cd, doc, ho, hd, _⟩ := F.ex
  refine ⟨f, o, _, hg, ho, hd, fun A s base outer it l p ns hs rest i Q E ok kb hBi FD hbi hIt hIl hdr h1 hlen h0 kok kbad => ?_⟩
  refine wp_fn (n := 0) (ρ := [("iterator", .ref it)]) (binds := [("iterator", .ref it)]) (xs := ["iterator"]) F W.gd kb ok (fun _ _ _ => by kernel_rfl) (.cons ⟨rfl, rfl⟩ .nil) (by decide +kernel) rfl fun env h₁ t₁ FE okA S => ?_
  show wpAny _ _ (execs (boOf (stm 8)) env) _ _ _
  have nb := W.nb
  have FDh : Fd A base outer (hideAll s.heap [it]) := by
    obtain ⟨oi, hoi, hci, hdi⟩ := hIt
    exact FD.ext (it := it) (fun b o hb e => hideAll_get _ e (by simpa using hb)) hbi ⟨oi, _, hoi, hdi⟩
  have S := S.own1 hIt hBi
  have hli : l ≠ it := fun q => by
    obtain ⟨vs, hL, _⟩ := hIl; obtain ⟨o1, ho1, _, n1, hd1⟩ := hL.1
    obtain ⟨o2, ho2, _, hd2⟩ := hIt
    rw [q, ho2] at ho1; cases ho1; rw [hd2] at hd1; cases hd1
  have hIl' : Is (hideAll s.heap [it]) l (.ints p ns) := hIl.at fun o e => hideAll_get _ e (by simpa using hli)
  have hget : ∀ j, ns[i + j]? = (hs ++ rest)[j]? := fun j => by rw [← hdr, List.getElem?_drop]
  -- an end on the way
  have stop : ∀ {h₂ : Heap} {t₂ : Nat} {ρ' : Vars} {j : Nat} {h₃ : Heap} {e : Addr}, St mg mb B (hideAll s.heap [it]) env ρ' [(it, .iter l j)] h₂ → (∀ b o, b ≠ it → h₂.get? b = some o → h₃.get? b = some o) → h₂.get? e = none → Made h₃ e "StopIteration" →
      Fd (A.deeper env) base (env :: outer) h₃ ∧ base.get? e = none ∧ s.heap.UpToSlots h₃ := by
    intro h₂ t₂ ρ' j h₃ e S₂ k₃ hn hm
    have FD₂ := FDh.push FE S₂
    obtain ⟨oi, hoi, _, hdi⟩ := S₂.led (it, .iter l j) (.head _)
    refine ⟨FD₂.ext k₃ hbi ⟨oi, _, hoi, hdi⟩, none_down FD₂.st hn, fun b o q nf => ⟨o.slots, ?_⟩⟩
    have hb : b ≠ it := fun z => by obtain ⟨o2, ho2, _, hd2⟩ := hIt; rw [z, ho2] at q; cases q; exact nf _ hd2
    exact k₃ b o hb (S₂.keep b o (hideAll_get _ q (by simpa using hb)))
  by_cases hemp : hs ++ rest = []
  · -- nothing to read
    obtain ⟨rfl, rfl⟩ := List.append_eq_nil_iff.mp hemp
    have hi : ns.length ≤ i := by simpa using hdr
    refine ex_next_end (μ₁ := []) (μ₂ := []) (p := p) (ns := ns) okA.hd S nb (by walk_at "gl") (by walk_at "lk") (by walk_at "own") (by decide +kernel) (hIl'.up S.keep) hi fun h₃ t₃ e k₃ hn hm => ?_
    obtain ⟨FD₃, hen, u₃⟩ := stop (t₂ := t₁) S k₃ hn hm
    refine leave_first (s := Sm s h₃ t₃) FD₃.fr FD₃.ff FE.fr FD₃.st hen hm fun h₄ a0 fl u₄ => ?_
    exact kbad rfl _ _ ⟨e, a0, h₄, t₃, rfl, rfl, fl, u₃.trans u₄⟩
  have hpos : 0 < (hs ++ rest).length := List.length_pos_iff.mpr hemp
  have hi : i < ns.length := by have := congrArg List.length hdr; rw [List.length_drop] at this; omega
  have hx0 : ns[i] = (hs ++ rest)[0] := by
    have := hget 0
    rw [Nat.add_zero, List.getElem?_eq_getElem hi, List.getElem?_eq_getElem hpos] at this
    exact Option.some.inj this
  refine ex_next (μ₁ := []) (μ₂ := []) (p := p) (ns := ns) S nb (by walk_at "gl") (by walk_at "lk") (by walk_at "own") (by decide +kernel) (by walk_at "sto") (hIl'.up S.keep) hi fun h₂ t₂ S₂ _ => ?_
  rw [hx0] at S₂
  refine ex_assign S₂ (a := .int (Builtin.bitAnd (hs ++ rest)[0] 63)) (by walk_at "E") (by walk_at "sto") fun h₃ t₃ S₃ => ?_
  rw [and63] at S₃
  -- the loop
  refine wpAny_execs_cons (wpAny_While ?_)
  refine codeAny_whileLoop (fun m s' => ∃ j, ∃ hj : j < (hs ++ rest).length, ∃ h' t', s' = Sm s h' t' ∧ m = (hs ++ rest).length - j ∧ j ≤ hs.length ∧ St mg mb B (hideAll s.heap [it]) env ([(Str.ofString "b", AV.int (hs ++ rest)[j]), (Str.ofString "val", AV.int (valOf ((hs ++ rest).take (j + 1)))), (Str.ofString "iterator", AV.ref it)] : Vars) [(it, .iter l (i + j + 1))] h') ?_ _ ⟨0, hpos, h₃, t₃, rfl, rfl, Nat.zero_le _, ?_⟩
  case refine_2 =>
    have e : valOf ((hs ++ rest).take 1) = (hs ++ rest)[0] % 64 := by
      rw [List.take_one, List.head?_eq_getElem?, List.getElem?_eq_getElem hpos]; simp [valOf]
    rw [show 0 + 1 = 1 from rfl, e]
    exact S₃.sub (by walk_at "sub")
  rintro m s' ⟨j, hj, h₄, t₄, rfl, rfl, hjh, S₄⟩
  have hc : ((hs ++ rest)[j] / 64 % 2 == 1) = decide (j < hs.length) := by
    by_cases hlt : j < hs.length
    · rw [decide_eq_true hlt, List.getElem_append_left hlt, h1 _ (List.getElem_mem hlt)]; rfl
    · have hje : j = hs.length := by omega
      rw [decide_eq_false hlt, List.getElem_append_right (by omega)]
      subst hje
      have hr : rest ≠ [] := fun q => by subst q; simp at hj
      obtain ⟨z, tl, rfl⟩ := List.exists_cons_of_ne_nil hr
      simp only [Nat.sub_self, List.getElem_cons_zero]
      rw [h0 z tl rfl]; rfl
  have htest : Den prog w (A.deeper env) h₄ (isTrue (.BinOp (.Name "b" ⟨42, 10, 42, 11⟩) .BitAnd (.Constant (.int 64) 0 ⟨42, 14, 42, 16⟩) ⟨42, 10, 42, 16⟩) env (eval (.BinOp (.Name "b" ⟨42, 10, 42, 11⟩) .BitAnd (.Constant (.int 64) 0 ⟨42, 14, 42, 16⟩) ⟨42, 10, 42, 16⟩) env)) (isT (decide (j < hs.length))) := by
    rw [← hc, ← and64]; walk_at "T"
  refine htest.wp (s := Sm s h₄ t₄) Keep.rfl fun c h₅ t₅ k₅ hcc => ?_
  cases hcc
  have S₅ := S₄.up k₅
  have hvb := valOf_bound ((hs ++ rest).take (j + 1))
  by_cases hlt : j < hs.length
  · rw [decide_eq_true hlt]
    simp only [if_true]
    have hsmall : (valOf ((hs ++ rest).take (j + 1))).natAbs < 2 ^ 64 := by
      have hl9 : ((hs ++ rest).take (j + 1)).length ≤ 8 := by rw [List.length_take]; omega
      have : (64 : Int) ^ ((hs ++ rest).take (j + 1)).length ≤ 64 ^ 8 := by
        have := Nat.pow_le_pow_right (show 0 < 64 by decide) hl9
        exact_mod_cast this
      have e8 : (64 : Int) ^ 8 = 281474976710656 := by decide
      omega
    refine ex_aug S₅ (x := "val") (m := valOf ((hs ++ rest).take (j + 1))) (n := 6) (c := valOf ((hs ++ rest).take (j + 1)) * 64) (by walk_at "lk") (by walk_at "own") (by walk_at "E") (by walk_at "sto") (fun t u s Q E q => ilshift_int_small (by decide) (by decide) hsmall q) fun h₆ t₆ S₆ => ?_
    have hge : ns[i + j + 1]? = (hs ++ rest)[j + 1]? := hget (j + 1)
    by_cases hend : j + 1 < (hs ++ rest).length
    · have hil : i + j + 1 < ns.length := by
        rw [List.getElem?_eq_getElem hend] at hge
        exact (List.getElem?_eq_some_iff.mp hge).1
      have hxe : ns[i + j + 1] = (hs ++ rest)[j + 1] := by rw [List.getElem?_eq_getElem hend, List.getElem?_eq_getElem hil] at hge; exact Option.some.inj hge
      refine ex_next (μ₁ := []) (μ₂ := []) (p := p) (ns := ns) S₆ nb (by walk_at "gl") (by walk_at "lk") (by walk_at "own") (by decide +kernel) (by walk_at "sto") (hIl'.up S₆.keep) hil fun h₇ t₇ S₇ _ => ?_
      rw [hxe] at S₇
      refine ex_aug S₇ (x := "val") (m := valOf ((hs ++ rest).take (j + 1)) * 64) (n := Builtin.bitAnd (hs ++ rest)[j + 1] 63) (c := valOf ((hs ++ rest).take (j + 1)) * 64 + (hs ++ rest)[j + 1] % 64) (by walk_at "lk") (by walk_at "own") (by walk_at "E") (by walk_at "sto")
        (fun t u s Q E q => ior_int (by rw [and63, bitOr_low hvb.1]; exact q)) fun h₈ t₈ S₈ => ?_
      refine ex_nil ⟨(hs ++ rest).length - (j + 1), by omega, j + 1, hend, h₈, t₈, rfl, rfl, by omega, ?_⟩
      have e : valOf ((hs ++ rest).take (j + 1 + 1)) = valOf ((hs ++ rest).take (j + 1)) * 64 + (hs ++ rest)[j + 1] % 64 := by
        rw [List.take_add_one (i := j + 1), List.getElem?_eq_getElem hend, Option.toList_some, valOf_snoc]
      rw [e]
      exact S₈.sub (by walk_at "sub")
    · -- an end within a number
      have hil : ns.length ≤ i + j + 1 := by
        have hnn : (hs ++ rest)[j + 1]? = none := List.getElem?_eq_none (by omega)
        rw [hnn] at hge
        exact List.getElem?_eq_none_iff.mp hge
      have hr : rest = [] := by
        have : (hs ++ rest).length = hs.length + rest.length := List.length_append
        exact List.eq_nil_of_length_eq_zero (by omega)
      refine ex_next_end (μ₁ := []) (μ₂ := []) (p := p) (ns := ns) okA.hd S₆ nb (by walk_at "gl") (by walk_at "lk") (by walk_at "own") (by decide +kernel) (hIl'.up S₆.keep) hil fun h₇ t₇ e k₇ hn hm => ?_
      obtain ⟨FD₇, hen, u₇⟩ := stop (t₂ := t₆) S₆ k₇ hn hm
      refine note_first (s := Sm s h₇ t₇) FD₇.fr FD₇.ff FE.fr FD₇.st hen hm fun h₈ a0 hh u₈ => ?_
      refine came_back (s := Sm s h₈ t₇) FE.fr hh fun h₉ hh' u₉ => ?_
      refine leave_heldW (s := Sm s h₉ t₇) FE.fr hh' fun h₁₀ fl u₁₀ => ?_
      exact kbad hr _ _ ⟨e, a0, h₁₀, t₇, rfl, rfl, fl, ((u₇.trans u₈).trans u₉).trans u₁₀⟩
  · rw [decide_eq_false hlt]
    simp only [Bool.false_eq_true, if_false]
    have hje : j = hs.length := by omega
    have hr : rest ≠ [] := fun q => by subst q; simp at hj; omega
    obtain ⟨z, tl, hrz⟩ := List.exists_cons_of_ne_nil hr
    refine ex_nil ?_
    refine ex_return (T := fun _ => isI (valOf ((hs ++ rest).take (j + 1)))) (by walk_at "E") fun v h₆ t₆ k₆ hv => ?_
    have e : (hs ++ rest).take (j + 1) = hs ++ [z] := by rw [hje, hrz, show hs ++ z :: tl = (hs ++ [z]) ++ tl by simp]; exact List.take_left' (by simp)
    rw [e] at hv
    refine kok z tl v h₆ t₆ hrz hv (fun b o hb q => k₆ b o (S₅.keep b o (hideAll_get _ q (by simpa using hb)))) ?_
    rw [← hje]
    exact (S₅.led (it, .iter l (i + j + 1)) (.head _)).up k₆
end

/-! ## _law_read -/
section
variable {prog : Program} {w : World} {A : Around} {mg mb : Str → Option Value} {B H h base : Heap} {env : Env} {outer : List Env} {ρ : Vars} {σ s : Shared} {t : Nat}
/-- the octets of one number -/
def IsChunk (c : List Int) : Prop := ∃ hs z, c = hs ++ [z] ∧ (∀ x ∈ hs, x / 64 % 2 = 1) ∧ hs.length ≤ 8 ∧ z / 64 % 2 = 0
theorem f_read (W : Wd mg mb B) (p : Bool) (ns : List Int) (chunks : List (List Int)) (tl : List Int) (hns : ns = chunks.flatten ++ tl) (hch : ∀ c ∈ chunks, IsChunk c) (htl : ∀ x ∈ tl, x / 64 % 2 = 1) (htl8 : tl.length ≤ 8) (hsz : ns.length ≤ 1000) :
    CSp prog w mg B 2 "_law_read" [isO (.ints p ns)] (isN (.ints true (chunks.map valOf))) := by
  obtain ⟨f, hg, F⟩ := W.fn ("_law_read", 16) (by decide)
  obtain ⟨o, pm, cd₀, doc, ho, hd, _⟩ := F.ex
  obtain ⟨fp, op, fdp, hgp, hop, hdp, parse⟩ := f_parse (prog := prog) (w := w) W
  refine ⟨f, o, _, hg, ho, hd, fun A s vs base outer E ok kb kbb FD hT hTb => ?_⟩
  obtain ⟨v, rfl, l, rfl, hIl⟩ := hT.one
  obtain ⟨v', e', l', hl', hIlb⟩ := hTb.one
  obtain rfl : Value.ref l = v' := by injection e'
  obtain rfl : l = l' := by injection hl'
  have hcl : chunks.length ≤ ns.length := by
    rw [hns, List.length_append]
    have : ∀ cs : List (List Int), (∀ c ∈ cs, IsChunk c) → cs.length ≤ cs.flatten.length := by
      intro cs
      induction cs with
      | nil => intro _; simp
      | cons c cs ih =>
        intro h
        have := ih fun c hc => h c (.tail _ hc)
        obtain ⟨hs, z, rfl, _⟩ := h _ (.head _)
        simp only [List.flatten_cons, List.length_append, List.length_cons, List.length_nil]; omega
    have := this chunks hch
    omega
  refine wp_fn (n := 1) (ρ := [("octets", .ref l)]) (binds := [("octets", .ref l)]) (xs := ["octets"]) F W.gd kb ok (fun _ _ _ => by kernel_rfl) (.cons ⟨rfl, rfl⟩ .nil) (by decide +kernel) rfl fun env h₁ t₁ FE okA S => ?_
  show wpAny _ _ (execs (boOf (stm 16)) env) _ _ _
  have nb := W.nb
  refine ex_assignW (xs := ["tape", "told"]) (ss := [.new (.iter l 0), .new (.list true [])]) okA.hd S
    (sl_new (b_iter S.cx nb (by walk_at "gl") (by walk_at "E") (hIl.up S.keep)) (sl_new (den_list oks_none (by decide)) sl_none rfl) rfl)
    (by intro x hx; simp only [List.mem_cons, List.not_mem_nil, or_false] at hx; rcases hx with rfl | rfl <;> walk_at "sto") rfl ?k (by decide) (FE.swap (by kernel_rfl))
  case k =>
    intro as μ' h₂ t₂ hs S₂
    cases hs with | new hs => cases hs with | new hs => cases hs with | nil =>
    rename_i ct cd
    simp only [addV, List.reverse_cons, List.reverse_nil, List.nil_append, List.cons_append] at S₂
    have S₃ : St mg mb B s.heap env ([(Str.ofString "told", AV.ref cd), (Str.ofString "tape", AV.ref ct), (Str.ofString "octets", AV.ref l)] : Vars) [(ct, MO.iter l (chunks.take 0).flatten.length), (cd, MO.ints true ((chunks.take 0).map valOf))] h₂ := S₂.sub (by walk_at "sub")
    refine wpAny_execs_cons (wpAny_Try_except ?_)
    refine ex_forE S₃ (src_new (m := .tup []) (p := true) okA.hd (den_catL (xs := ns.map AV.int) (ys := [.int 0]) (p := p) (q := true) (fun s' E' hk => (den_name (prog := prog) (w := w) S₃.cx (x := "octets") (a := .ref l) (by walk_at "lk") (by walk_at "own") (by decide +kernel)).wp hk fun v h₁ t₁ k₁ hv => ⟨⟨l, hv, hIl.up ((S₃.keep.trans hk).trans k₁)⟩, ⟨h₁, t₁, rfl, k₁⟩⟩) (den_list (oks_more (by walk_at "E") oks_none rfl) (by decide)).old (by rw [List.length_map]; simp; omega)))
      (fun i ρ μ => ρ = ([(Str.ofString "told", AV.ref cd), (Str.ofString "tape", AV.ref ct), (Str.ofString "octets", AV.ref l)] : Vars) ∧ μ = [(ct, MO.iter l (chunks.take i).flatten.length), (cd, MO.ints true ((chunks.take i).map valOf))] ∧ i ≤ chunks.length) ⟨rfl, rfl, Nat.zero_le _⟩ (by walk_at "sto") ?turn ?done
    case turn =>
      rintro i _ _ H' h' t' hi ⟨rfl, rfl, hic⟩ kH S'
      have hit : interactive env = false := by unfold interactive; rw [S'.cx.fk]; rfl
      refine wpAny_execs_cons (wpAny_Expr ?_ hit rfl)
      refine MethodCall_ ?_ (by rfl)
      refine (den_name S'.cx (x := "told") (a := .ref cd) (by walk_at "lk") (by walk_at "own") (by decide +kernel)).wp (s := Sm s h' t') Keep.rfl fun v h₃ t₃ k₃ hv => ?_
      cases hv
      have S₃ := S'.up k₃
      obtain ⟨vs, hL, hO⟩ := S₃.led (cd, .ints true ((chunks.take i).map valOf)) (by simp)
      obtain ⟨n, hgl⟩ := hL.2 rfl
      refine getMethod_list_append (s := Sm s h₃ t₃) hgl rfl rfl ?_
      refine callWith_method1 ?_ rfl rfl
      refine args_cons ?_ rfl
      refine wp_callR (B := B) (s := Sm s h₃ t₃) Keep.rfl (den_global S₃.cx hgp (by walk_at "gl") (by decide +kernel)) (fun h' k => keeper_fn (k _ _ hop) hdp) fun h₄ t₄ k₄ => ?_
      refine args_cons ?_ rfl
      refine (den_name (S₃.up k₄).cx (x := "tape") (a := .ref ct) (by walk_at "lk") (by walk_at "own") (by decide +kernel)).wp (s := Sm s h₄ t₄) Keep.rfl fun v h₅ t₅ k₅ hv => ?_
      cases hv
      have S₅ := (S₃.up k₄).up k₅
      have ksH : Keep s.heap H' := kH
      refine args_nil ⟨S₅.cx.kb, ?_⟩
      have FD₅ : Fd (A.deeper env) base (env :: outer) h₅ := (FD.up ksH).push FE S₅
      have hctH : H'.get? ct = none := S₅.nb ct (by simp [own])
      have hcdH : H'.get? cd = none := S₅.nb cd (by simp [own])
      have kbH : Keep base H' := fun b o q => ksH b o (FD.st b o q)
      have hctb : base.get? ct = none := none_down kbH hctH
      have hne : cd ≠ ct := by
        have := S₅.nd
        simp only [own, List.map_cons, List.map_nil, List.nodup_cons] at this
        have h2 := (List.nodup_append.mp this.2).2.1
        simp only [List.nodup_cons, List.mem_cons, List.not_mem_nil, or_false] at h2
        exact fun q => h2.1 q.symm
      obtain ⟨FDh, kbh⟩ := FD₅.hide (it := ct)
      have hIl₅ : Is h₅ l (.ints p ns) := hIl.up (ksH.trans S₅.keep)
      have hdr : ns.drop (chunks.take i).flatten.length = (chunks.drop i).flatten ++ tl := by rw [hns]; exact drop_chunks chunks tl i
      have hcd : Is h₅ cd (.ints true ((chunks.take i).map valOf)) := S₅.led (cd, _) (by simp)
      by_cases hlt : i < chunks.length
      · obtain ⟨hs, z, hc, hb, h8, hz⟩ := hch chunks[i] (List.getElem_mem hlt)
        have hdr' : ns.drop (chunks.take i).flatten.length = hs ++ (z :: ((chunks.drop (i + 1)).flatten ++ tl)) := by
          rw [hdr, List.drop_eq_getElem_cons hlt, List.flatten_cons, hc]; simp
        refine parse (A.deeper env) (Sm s h₅ t₅) _ _ ct l p ns hs _ (chunks.take i).flatten.length _ _ okA S₅.cx.kb (none_down S₅.bh hctH) FDh (hideAll_none _ (by simp)) (S₅.led (ct, _) (by simp)) hIl₅ hdr' hb h8 (fun z' tl' q => by cases q; exact hz) (fun z' tl' v h₆ t₆ q hv k₆ hI₆ => ?_) (fun q => by cases q)
        cases q
        have S₆ := S₅.change (μ₁ := []) (c := ct) (m' := .iter l ((chunks.take i).flatten.length + hs.length + 1)) k₆ hI₆
        refine args_nil ?_
        obtain ⟨vs, hL, hO⟩ := S₆.led (cd, .ints true ((chunks.take i).map valOf)) (by simp)
        have hlen : vs.length = (chunks.take i).length := by simpa using hO.length
        refine wpAny_list_append_plain (s := Sm s h₆ t₆) (hL.2 rfl) (fun h₇ hp hs₇ => ?_) (by rw [List.size_toArray, hlen, List.length_take]; exact Nat.le_trans (show min i chunks.length ≤ 1000 by omega) (by decide))
        have S₇ := S₆.change (μ₁ := [(ct, .iter l ((chunks.take i).flatten.length + hs.length + 1))]) (μ₂ := []) (c := cd) (m' := .ints true ((chunks.take (i + 1)).map valOf)) (fun b o hb e => hs₇.extBut b o hb e) (by
          refine ⟨vs ++ [v], ?_, ?_⟩
          · have : (vs ++ [v]).toArray = vs.toArray.push v := by simp
            rw [this]; exact ⟨hp.isList, fun _ => hp⟩
          · have e : ((chunks.take (i + 1)).map valOf).map AV.int = ((chunks.take i).map valOf).map AV.int ++ [AV.int (valOf (hs ++ [z]))] := by
              rw [List.take_add_one, List.getElem?_eq_getElem hlt]; simp [hc]
            rw [e]
            exact hO.append (.cons hv .nil))
        refine ex_nil ⟨_, _, h₇, t₆, rfl, ⟨rfl, rfl, hlt⟩, ?_⟩
        have e : (chunks.take (i + 1)).flatten.length = (chunks.take i).flatten.length + hs.length + 1 := by
          rw [List.take_add_one, List.getElem?_eq_getElem hlt, List.flatten_append]; simp [hc]; omega
        rw [e]
        exact S₇.sub (by walk_at "sub")
      · have hie : i = chunks.length := by omega
        have hdr' : ns.drop (chunks.take i).flatten.length = tl ++ [] := by rw [hdr, hie, List.drop_length]; simp
        refine parse (A.deeper env) (Sm s h₅ t₅) _ _ ct l p ns tl _ (chunks.take i).flatten.length _ _ okA S₅.cx.kb (none_down S₅.bh hctH) FDh (hideAll_none _ (by simp)) (S₅.led (ct, _) (by simp)) hIl₅ hdr' htl htl8 (fun z' tl' q => by cases q) (fun z' tl' v h₆ t₆ q => by cases q) (fun _ e' s' r => ?_)
        obtain ⟨e, a0, h₆, t₆, rfl, rfl, fl, u⟩ := r
        refine wpAny_looks_onW (s := Sm s h₆ t₆) FDh.fr FE.fr fl fun h₇ hh u₇ => ?_
        refine came_back (s := Sm s h₇ t₆) FE.fr hh fun h₈ hh₈ u₈ => ?_
        have Sb := S₅.base kbH kbb
        have hcdf : cd ∉ (env :: outer).filterMap (·.frame) := fun q => by
          rw [List.filterMap_cons, FE.fr] at q
          rcases List.mem_cons.mp q with q | q
          · exact S₅.ne_ns hcd q
          · obtain ⟨_, oo, hoo, _⟩ := FD.ff.mem q
            rw [ksH _ _ hoo] at hcdH; cases hcdH
        refine catch_held (σ := s) (H := base) (μ' := [(ct, _)]) (μ := [(cd, .ints true ((chunks.take i).map valOf))]) FE.fr (kbh hctb) Sb hh₈ ((u.trans u₇).trans u₈) (fun q hq => ?_) (fun A' h' C => den_bi C nb (by decide) bi_StopIteration (by walk_at "gl")) (by rw [isSubtype_type]; kernel_rfl) (by kernel_rfl) (by rw [isSubtype_type]; kernel_rfl) fun h₉ t₉ E' u₉ S₉ => ?_
        · rw [List.mem_singleton.mp hq]
          exact hcd.at fun o q => FD₅.hidden q hne hcdf
        · refine ex_return (σ := s) (T := fun _ => is (.ref cd)) (by walk_at "E") fun v h₁₀ t₁₀ k₁₀ hv => ?_
          cases hv
          have hI := (S₉.led (cd, _) (.head _)).up k₁₀
          rw [hie, List.take_length] at hI
          refine ⟨h₁₀, t₁₀, rfl, ⟨cd, rfl, S₉.nb cd (by simp [own]), hI⟩, fun b o q => k₁₀ b o (S₉.keep b o q), ?_⟩
          exact (((Heap.UpToSlots.of_keeps ksH).trans (Heap.UpToSlots.of_keeps S₅.keep)).trans u₉).trans (Heap.UpToSlots.of_keeps k₁₀)
    case done =>
      rintro _ _ h' t' E' ⟨rfl, rfl, hic⟩ S'
      exfalso
      simp only [List.length_append, List.length_map, List.length_singleton, List.length_cons, List.length_nil] at hic
      omega
end

/-! ## _law_words -/
section
variable {prog : Program} {w : World} {A : Around} {mg mb : Str → Option Value} {B H h base : Heap} {env : Env} {outer : List Env} {ρ : Vars} {σ s : Shared} {t : Nat} {px pos : Pos}
theorem den_sp0 {n : Nat} {name : Str} {U : Heap → Value → Heap → Prop} (C : Cx mg mb B env ρ h) (S : Sp prog w mg B n name [] U) (ok : OkA n A) (hU : ∀ a a' v b, Keep a a' → U a' v b → U a v b)
    (hx : env.kindOf name = some .globalImplicit) (hd : (name == ("__debug__" : Str)) = false) : DenG prog w A h (eval (.Call (.Name name px) [] [] pos) env) U := by
  obtain ⟨f, o, fd, hg, ho, hdt, hc⟩ := S.ex
  exact den_call0 hU (den_global C hg hx hd) (fun h' k => keeper_fn (C.kb.trans k _ _ ho) hdt) (fun h' k => hc A h' [] ok (C.kb.trans k) rfl) rfl
def wordsL : List Str := (List.range 32).map wordN
def nameText : Str := "OPTIMIZED NEWLOCALS VARARGS VARKEYWORDS NESTED GENERATOR NOFREE COROUTINE ITERABLE_COROUTINE ASYNC_GENERATOR"
def hexWordOf : AV → AV
  | .int k => .str (("0x" : Str) ++ Txt.item "1248" (k % 4) ++ Txt.mul "0" (k / 4))
  | a => a
theorem words_split : Txt.split nameText " " = (List.range 10).map wordN := by decide +kernel
theorem words_hex : ∀ i : Nat, i < 22 → ("0x" : Str) ++ Txt.item "1248" ((10 + (i : Int)) % 4) ++ Txt.mul "0" ((10 + (i : Int)) / 4) = wordN (10 + i) := by decide +kernel
theorem words_size : nameText.length ≤ 100000 := by decide +kernel
theorem words_size2 : (Builtin.Str.partsBetween nameText (Builtin.Str.occurrences nameText " " 0 nameText.length (nameText.length + 1)) (" " : Str).length).length ≤ 100000 := by decide +kernel
theorem mul0_len : ∀ k : Nat, k < 9 → (Txt.mul "0" (k : Nat)).length ≤ 8 := by decide +kernel
theorem words_comp : ((((List.range 22).map fun i : Nat => AV.int (10 + (i : Int))).filter fun _ => true).map hexWordOf) = ((List.range 22).map fun i => wordN (10 + i)).map AV.str := by
  rw [List.filter_eq_self.mpr (fun _ _ => rfl), List.map_map, List.map_map]
  refine List.map_congr_left fun i hi => ?_
  have := words_hex i (List.mem_range.mp hi)
  show AV.str _ = AV.str _
  rw [this]
theorem f_words (W : Wd mg mb B)  : Sp prog w mg B 1 "_law_words" [] (isN (.strs true wordsL)) := by
  obtain ⟨f, hg, F⟩ := W.fn ("_law_words", 10) (by decide)
  obtain ⟨o, pm, cd, doc, ho, hd, _⟩ := F.ex
  refine ⟨f, o, _, hg, ho, hd, fun A h vs ok kb hT => ?_⟩
  have hT' : vs = [] := hT
  subst hT'
  refine den_fn (n := 0) (ρ := []) (binds := []) (xs := []) F W.gd kb ok (fun _ _ _ => by kernel_rfl) (.nil) (by decide +kernel) rfl fun s env h₁ t₁ E k FE okA S => ?_
  show wpAny _ _ (execs (boOf (stm 10)) env) _ _ _
  have nb := W.nb
  refine ex_assign S (a := .str nameText) (by exact den_str) (by walk_at "sto") fun h₂ t₂ S₂ => ?_
  have e1 : wordsL.map AV.str = ((List.range 10).map wordN).map AV.str ++ ((List.range 22).map fun i => wordN (10 + i)).map AV.str := by
    unfold wordsL
    rw [← List.map_append]
    congr 1
  show wpAny _ _ _ _ _ _
  refine ex_return (T := isN (.strs true wordsL)) ?e fun v h'' t'' k'' hv => ⟨isN_down _ _ _ _ S₂.keep hv, ⟨h'', t'', rfl, S₂.keep.trans k''⟩⟩
  case e =>
    show DenG _ _ _ _ _ (isN (.list true (wordsL.map AV.str)))
    rw [e1, ← words_split, ← words_comp]
    refine den_catL (p := false) (q := true) (den_split (by walk_at "E") (by walk_at "E") (by decide +kernel) words_size words_size2) (DenG.old ?_) ?_
    · refine den_comp (fun _ => true) hexWordOf [] [] FE S₂.cx Sub.nil (by decide +kernel) rfl (src_range2 (N := 22) (H := s.heap) okA.hd S₂.cx nb (by walk_at "gl") (by walk_at "E") (by walk_at "E") (by rfl) (by decide) (by decide)) (by decide) (fun i h' cenv hi k CE C => ifs_none) (fun i h' cenv hi _ k CE C => ?_)
      have hd : 0 ≤ (10 + (i : Int)) / 4 ∧ (10 + (i : Int)) / 4 ≤ 8 := by omega
      have hl0 : (Txt.mul "0" ((10 + (i : Int)) / 4)).length ≤ 8 := by
        have := mul0_len ((10 + (i : Int)) / 4).toNat (by omega)
        rwa [Int.toNat_of_nonneg hd.1] at this
      have h12 : ("1248" : Str).length = 4 := by decide +kernel
      refine den_cat (den_cat (by walk_at "E") (den_itemS (by walk_at "E") (by walk_at "E") (by omega) (by rw [h12]; omega) (by decide +kernel)) ?_) (den_mulS (by walk_at "E") (by walk_at "E") hd.1 (by omega) (by decide +kernel)) ?_
      · rw [len_item]; decide +kernel
      · rw [Str.length_append, len_item]
        have : ("0x" : Str).length = 2 := by decide +kernel
        omega
    · rw [words_split, words_comp]; simp
end

section
local macro_rules | `(tactic| walk_at "mul") => `(tactic| first | exact mulL (by decide) | exact mulR (by decide) | exact mulL (pow_small (by omega)))

/-! ## _law_found -/
section
variable {prog : Program} {w : World} {A : Around} {mg mb : Str → Option Value} {B H h base : Heap} {env : Env} {outer : List Env} {ρ : Vars} {σ s : Shared} {t : Nat} {px pos : Pos}
theorem f_found (W : Wd mg mb B) (low number : Int) (controls : List Int) (q : Bool) (D : List (PyData × PyData)) (h32 : controls.length ≤ 32) (hc : ∀ z ∈ controls, 0 ≤ z ∧ z < 32) (hkey : ∀ k (hk : k < controls.length), 2 ^ k * number / 2 ^ (controls.length - 1) % 32 = controls[k]) (hbook : ∀ k (hk : k < controls.length), PySem.Spec.lookup (.str (shown controls[k])) D = some (.str (wordN k))) : Sp prog w mg B 4 "_law_found" [isI low, isI number, isO (.ints q controls), isTab prog w D] (isN (.strs true (wordsTo low controls.length))) := by
  obtain ⟨f, hg, F⟩ := W.fn ("_law_found", 17) (by decide)
  obtain ⟨o, pm, cd, doc, ho, hd, _⟩ := F.ex
  refine ⟨f, o, _, hg, ho, hd, fun A h vs ok kb hT => ?_⟩
  obtain ⟨v, v2, v3, v4, rfl, hv, hv2, hv3, hv4⟩ := hT.four
  obtain ⟨c, hv3, hI⟩ := hv3
  obtain ⟨d, hv4, hD⟩ := hv4
  refine den_fn (n := 3) (ρ := [("low", .int low), ("number", .int number), ("controls", .ref c), ("book", .ref d)]) (binds := [("low", v), ("number", v2), ("controls", v3), ("book", v4)]) (xs := ["low", "number", "controls", "book"]) F W.gd kb ok (fun _ _ _ => by kernel_rfl) (.cons ⟨rfl, hv⟩ (.cons ⟨rfl, hv2⟩ (.cons ⟨rfl, hv3⟩ (.cons ⟨rfl, hv4⟩ .nil)))) (by decide +kernel) rfl fun s env h₁ t₁ E k FE okA S => ?_
  show wpAny _ _ (execs (boOf (stm 17)) env) _ _ _
  have nb := W.nb
  refine ex_assignW (xs := ["found", "size"]) (ss := [.new (.list true []), .val (.int (controls.length : Int))]) okA.hd S
    (sl_new (den_list oks_none (by decide)) (sl_val (by
      have := b_len (prog := prog) (w := w) (A := A.deeper env) (px := ⟨103, 23, 103, 26⟩) (pos := ⟨103, 23, 103, 36⟩) (e := .Name "controls" ⟨103, 27, 103, 35⟩) (p := q) (xs := controls.map AV.int) S.cx nb (by walk_at "gl") (fun s' E' hk => (den_name (prog := prog) (w := w) S.cx (x := "controls") (a := .ref c) (by walk_at "lk") (by walk_at "own") (by decide +kernel)).wp hk fun v h₁ t₁ k₁ hv => ⟨⟨c, hv, hI.up (((k.trans S.keep).trans hk).trans k₁)⟩, ⟨h₁, t₁, rfl, k₁⟩⟩) (by rw [List.length_map]; omega)
      rw [List.length_map] at this
      exact this) sl_none rfl) rfl)
    (by intro x hx; simp only [List.mem_cons, List.not_mem_nil, or_false] at hx; rcases hx with rfl | rfl <;> walk_at "sto") rfl ?k (by decide) (FE.swap (by kernel_rfl))
  case k =>
    intro as μ' h₂ t₂ hs S₂
    cases hs with | new hs => cases hs with | val hs => cases hs with | nil =>
    rename_i cf
    simp only [addV, List.reverse_cons, List.reverse_nil, List.nil_append, List.cons_append] at S₂
    have S₃ : St mg mb B s.heap env ([(Str.ofString "found", AV.ref cf), (Str.ofString "size", AV.int (controls.length : Int)), (Str.ofString "book", AV.ref d), (Str.ofString "controls", AV.ref c), (Str.ofString "number", AV.int number), (Str.ofString "low", AV.int low)] : Vars) [(cf, MO.strs true (wordsTo low 0))] h₂ := S₂.sub (by walk_at "sub")
    refine ex_for S₃ (src_range1 (N := controls.length) okA.hd S₃.cx nb (by walk_at "gl") (by walk_at "E") (by rfl) (by omega)) (fun i ρ μ => ρ = ([(Str.ofString "found", AV.ref cf), (Str.ofString "size", AV.int (controls.length : Int)), (Str.ofString "book", AV.ref d), (Str.ofString "controls", AV.ref c), (Str.ofString "number", AV.int number), (Str.ofString "low", AV.int low)] : Vars) ∧ μ = [(cf, MO.strs true (wordsTo low i))]) ⟨rfl, rfl⟩ (by walk_at "sto") ?turn ?done
    case turn =>
      rintro i _ _ H' h' t' E' hi ⟨rfl, rfl⟩ kH S'
      have hIH : Is H' c (.ints q controls) := hI.up (k.trans kH)
      have hDH : StrTab prog w H' d D := hD.keep (k.trans kH)
      have hci := hc controls[i] (List.getElem_mem hi)
      have hki := hkey i hi
      have hbi := hbook i hi
      have gi : (controls.map AV.int)[((i : Nat) : Int).toNat]? = some (.int controls[i]) := by simp [hi]
      have hnx : (if bitB low i then (wordsTo low i).map AV.str ++ [AV.str (wordN i)] else (wordsTo low i).map AV.str) = (wordsTo low (i + 1)).map AV.str := by
        rw [wordsTo_succ]; split <;> simp
      generalize controls[i] = ci at *
      refine ex_if (c := bitB low i) S' (by
        unfold bitB
        rw [← bit1, show (2 : Int) ^ i = 2 ^ ((i : Nat) : Int).toNat by simp]; walk_at "T") (fun e h₃ t₃ S₃ => ?_) (fun e h₃ t₃ S₃ => ?_)
      · rw [if_pos e] at hnx
        refine ex_assignW (xs := ["spot", "due"]) (ss := [.val (.int (2 ^ i * number / 2 ^ (controls.length - 1))), .val (.int ci)]) okA.hd S₃
          (sl_val (by rw [show controls.length - 1 = ((controls.length : Int) - 1).toNat by omega]; walk_at "E") (sl_val (den_item (by walk_at "E") (by walk_at "E") (hIH.up S₃.keep) (by omega) (by omega) gi) sl_none rfl) rfl)
          (by intro x hx; simp only [List.mem_cons, List.not_mem_nil, or_false] at hx; rcases hx with rfl | rfl <;> walk_at "sto") rfl ?k (by decide) (FE.swap (by kernel_rfl))
        case k =>
          intro as μ' h₄ t₄ hs S₄
          cases hs with | val hs => cases hs with | val hs => cases hs with | nil =>
          simp only [addV, List.reverse_cons, List.reverse_nil, List.nil_append, List.cons_append] at S₄
          generalize hsp : 2 ^ i * number / 2 ^ (controls.length - 1) = spot at *
          by_cases h1 : i % 3 = 1
          · refine ex_if (c := true) S₄ (by rw [show true = ((i : Int) % 3 == 1) by rw [show (i : Int) % 3 = 1 by omega]; rfl]; walk_at "T") (fun _ h₅ t₅ S₅ => ?_) (fun e => by cases e)
            have hm0 : 0 ≤ spot % 55296 := by omega
            have hm1 : spot % 55296 ≤ 1114111 := by omega
            have hd0 : 0 ≤ ci := hci.1
            have hd1 : ci ≤ 1114111 := by omega
            refine ex_assignW (xs := ["spot", "due"]) (ss := [.val (.str ⟨#[(spot % 55296).toNat]⟩), .val (.str ⟨#[ci.toNat]⟩)]) okA.hd S₅
              (sl_val (by walk_at "E") (sl_val (by walk_at "E") sl_none rfl) rfl)
              (by intro x hx; simp only [List.mem_cons, List.not_mem_nil, or_false] at hx; rcases hx with rfl | rfl <;> walk_at "sto") rfl ?k (by decide) (FE.swap (by kernel_rfl))
            case k =>
              intro as μ' h₆ t₆ hs S₆
              cases hs with | val hs => cases hs with | val hs => cases hs with | nil =>
              simp only [addV, List.reverse_cons, List.reverse_nil, List.nil_append, List.cons_append] at S₆
              refine ex_nil ?_
              have hcc : (spot % 55296).toNat % 32 = ci.toNat := by omega
              refine ex_assign S₆ (a := .str ⟨#[ci.toNat]⟩) (by
                rw [← hcc]
                exact den_sp S₆.cx (f_ctrl_s' W _) (OkA.le okA (by decide)) any_down (by walk_at "gl") (by decide +kernel) (by walk_at "A")) (by walk_at "sto") fun h₇ t₇ S₇ => ?_
              refine ex_append (μ₁ := []) (a := .str (wordN i)) S₇ (by walk_at "lk") (by walk_at "own") (den_ifexp (c := true) (test_cmpS (x := ⟨#[ci.toNat]⟩) (y := ⟨#[ci.toNat]⟩) (by walk_at "E") (by walk_at "E") (by simp [cmpS])) any_down (fun _ => den_get_str (i := shown ci) (x := "") (hDH.keep S₇.keep) (den_name S₇.cx (a := .ref d) (by walk_at "lk") (by walk_at "own") (by decide +kernel)) (by
                have e : ci = ((ci.toNat : Nat) : Int) := by omega
                rw [e]
                exact den_sp S₇.cx (f_unctrl_s W ci.toNat (by omega)) (OkA.le okA (by decide)) any_down (by walk_at "gl") (by decide +kernel) (by walk_at "A")) (by walk_at "E") (by rw [hbi]; rfl)) (fun e => by cases e)) (by rw [List.length_map]; exact Nat.le_trans (wordsTo_len low i) (by omega)) (fun h₈ t₈ S₈ => ?_) (by decide +kernel)
              refine ex_nil (ex_nil ⟨_, _, h₈, t₈, rfl, ⟨rfl, rfl⟩, ?_⟩)
              simp only [List.nil_append, MO.strs] at S₈ ⊢
              rw [hnx] at S₈
              exact S₈.sub (by walk_at "sub")
          · refine ex_if (c := false) S₄ (by rw [show false = ((i : Int) % 3 == 1) by rw [eq_comm]; simp; omega]; walk_at "T") (fun e => by cases e) (fun _ h₅ t₅ S₅ => ?_)
            by_cases h2 : i % 3 = 2
            · refine ex_if (c := true) S₅ (by rw [show true = ((i : Int) % 3 == 2) by rw [show (i : Int) % 3 = 2 by omega]; rfl]; walk_at "T") (fun _ h₆ t₆ S₆ => ?_) (fun e => by cases e)
              have hs40 : (spot - 2 ^ 40) % 32 = ci := by omega
              refine ex_assign S₆ (a := .int (spot - 2 ^ 40)) (den_sub (by walk_at "E") (den_pow2 (k := 40) (by walk_at "E") (by exact den_int) (by decide))) (by walk_at "sto") fun h₆ t₆ S₆ => ?_
              refine ex_nil ?_
              refine ex_nil ?_
              refine ex_assign S₆ (a := .int ci) (by
                rw [← hs40]
                exact den_sp S₆.cx (f_ctrl' W _) (OkA.le okA (by decide)) any_down (by walk_at "gl") (by decide +kernel) (by walk_at "A")) (by walk_at "sto") fun h₇ t₇ S₇ => ?_
              refine ex_append (μ₁ := []) (a := .str (wordN i)) S₇ (by walk_at "lk") (by walk_at "own") (den_ifexp (c := true) (by rw [show true = (ci == ci) by simp]; walk_at "T") any_down (fun _ => den_get_str (i := shown ci) (x := "") (hDH.keep S₇.keep) (den_name S₇.cx (a := .ref d) (by walk_at "lk") (by walk_at "own") (by decide +kernel)) (by
                exact den_sp S₇.cx (f_unctrl W ci hci.1 hci.2) (OkA.le okA (by decide)) any_down (by walk_at "gl") (by decide +kernel) (by walk_at "A")) (by walk_at "E") (by rw [hbi]; rfl)) (fun e => by cases e)) (by rw [List.length_map]; exact Nat.le_trans (wordsTo_len low i) (by omega)) (fun h₈ t₈ S₈ => ?_) (by decide +kernel)
              refine ex_nil (ex_nil ⟨_, _, h₈, t₈, rfl, ⟨rfl, rfl⟩, ?_⟩)
              simp only [List.nil_append, MO.strs] at S₈ ⊢
              rw [hnx] at S₈
              exact S₈.sub (by walk_at "sub")
            · refine ex_if (c := false) S₅ (by rw [show false = ((i : Int) % 3 == 2) by rw [eq_comm]; simp; omega]; walk_at "T") (fun e => by cases e) (fun _ h₆ t₆ S₆ => ?_)
              refine ex_nil ?_
              refine ex_nil ?_
              refine ex_assign S₆ (a := .int ci) (by
                rw [← hki]
                exact den_sp S₆.cx (f_ctrl' W _) (OkA.le okA (by decide)) any_down (by walk_at "gl") (by decide +kernel) (by walk_at "A")) (by walk_at "sto") fun h₇ t₇ S₇ => ?_
              refine ex_append (μ₁ := []) (a := .str (wordN i)) S₇ (by walk_at "lk") (by walk_at "own") (den_ifexp (c := true) (by rw [show true = (ci == ci) by simp]; walk_at "T") any_down (fun _ => den_get_str (i := shown ci) (x := "") (hDH.keep S₇.keep) (den_name S₇.cx (a := .ref d) (by walk_at "lk") (by walk_at "own") (by decide +kernel)) (by
                exact den_sp S₇.cx (f_unctrl W ci hci.1 hci.2) (OkA.le okA (by decide)) any_down (by walk_at "gl") (by decide +kernel) (by walk_at "A")) (by walk_at "E") (by rw [hbi]; rfl)) (fun e => by cases e)) (by rw [List.length_map]; exact Nat.le_trans (wordsTo_len low i) (by omega)) (fun h₈ t₈ S₈ => ?_) (by decide +kernel)
              refine ex_nil (ex_nil ⟨_, _, h₈, t₈, rfl, ⟨rfl, rfl⟩, ?_⟩)
              simp only [List.nil_append, MO.strs] at S₈ ⊢
              rw [hnx] at S₈
              exact S₈.sub (by walk_at "sub")
      · rw [if_neg (by rw [e]; decide)] at hnx
        refine ex_nil (ex_nil ⟨_, _, h₃, t₃, rfl, ⟨rfl, rfl⟩, ?_⟩)
        simp only [MO.strs] at S₃ ⊢
        rw [hnx] at S₃
        exact S₃.sub (by walk_at "sub")
    case done =>
      rintro _ _ h' t' E' ⟨rfl, rfl⟩ S'
      refine ex_nil ?_
      refine ex_return (T := fun _ => is (.ref cf)) (by walk_at "E") fun v h'' t'' k'' hv => ?_
      cases hv
      exact ⟨⟨cf, rfl, S'.nb cf (by simp [own]), S'.l1.up k''⟩, ⟨h'', t'', rfl, S'.keep.trans k''⟩⟩
end
end

/-- an iterator that hands out pairs -/
structure ItU (prog : Program) (w : World) (A : Around) (H h₀ : Heap) (n : Nat) (a b : Nat → AV) (it : Value) (h : Heap) : Prop where
  ex : ∃ I fp wr Stt Mid, it = .ref I ∧ WalksU prog w A I fp wr n (fun i vals => ∃ v1 v2, vals = #[v1, v2] ∧ (a i).ok v1 ∧ (b i).ok v2) Stt Mid ∧ Stt 0 h ∧ (∀ i h, Stt i h → ∀ b ∈ fp, ∃ o, h.get? b = some o) ∧ (∀ b ∈ wr, h₀.get? b = none) ∧ (∀ b ∈ fp, h₀.get? b = none ∨ ∃ o, H.get? b = some o)
def SrcU (prog : Program) (w : World) (A : Around) (H h : Heap) (t : Sem Value) (n : Nat) (a b : Nat → AV) : Prop :=
  ∀ (s : Shared) (E : Value → Shared → Prop), Keep h s.heap → wpAny (model prog w) A t (fun x s₁ => wpAny (model prog w) A (pyIter x) (fun it s₂ => ItU prog w A H s.heap n a b it s₂.heap ∧ Keeps s s₂) E s₁) E s
theorem walksU_mono {prog : Program} {w : World} {A : Around} {I : Addr} {fp wr : List Addr} {n n' : Nat} {P P' : Nat → Array Value → Prop} {St : Nat → Heap → Prop} {Mid : Nat → Addr → Heap → Prop} (W : WalksU prog w A I fp wr n P St Mid) (hn : n = n') (hP : ∀ i v, i < n → P i v → P' i v) :
    WalksU prog w A I fp wr n' P' St Mid := by
  subst hn
  exact ⟨W.sub, W.frame, fun i s Q E hi st k => W.item i s Q E hi st fun T v h' tk p => k T v h' tk (hP i v hi p), W.go, W.apart, W.done, W.self⟩

section
variable {prog : Program} {w : World} {A : Around} {mg mb : Str → Option Value} {B H h h' base : Heap} {env : Env} {outer : List Env} {ρ : Vars} {μ : Led} {σ s : Shared} {t : Nat} {v : Value} {E : Value → Shared → Prop} {e e1 e2 l r value slice : Expr} {x y : Str} {rest : List Stmt} {Q : Flow → Shared → Prop} {pos px py pn cp tp : Pos}
/-- a list that stands in the heap -/
def isL (c : Addr) (p : Bool) (xs : List AV) (v : Value) (h : Heap) : Prop := v = .ref c ∧ Is h c (.list p xs)
theorem isL_up {c : Addr} {p : Bool} {xs : List AV} : ∀ v h h', Keep h h' → isL c p xs v h → isL c p xs v h' := fun _ _ _ k ⟨e, x⟩ => ⟨e, x.up k⟩
theorem den_isL {c : Addr} {p : Bool} {xs : List AV} (C : Cx mg mb B env ρ h) (hl : Lk ρ x (.ref c)) (ho : ownVar env x = true) (hd : (x == ("__debug__" : Str)) = false) (hI : Is h c (.list p xs)) : Den prog w A h (eval (.Name x px) env) (isL c p xs) :=
  fun s E hk => (den_name C hl ho hd).wp hk fun v h₁ t₁ k₁ hv => ⟨⟨hv, hI.up (hk.trans k₁)⟩, ⟨h₁, t₁, rfl, k₁⟩⟩

theorem src_enum {c : Addr} {p : Bool} {xs : List AV} (hA : A.handled = none) (C : Cx mg mb B env ρ h) (nb : NoB mg) (g1 : env.kindOf (Str.ofString "enumerate") = some .globalImplicit) (d : Den prog w A h (eval e env) (isL c p xs)) (hc : ∃ o, H.get? c = some o)
    (he : starEach [e] env = [(false, eval e env)] := by rfl) : SrcU prog w A H h (eval (.Call (.Name (Str.ofString "enumerate") px) [e] [] pos) env) xs.length (fun i => .int i) (fun i => xs.getD i .none) := by
  intro s E hk
  refine DenG.wp (h := h) (T := fun h₀ v h' => ∃ (vs : List Value) (ee it : Addr), v = .ref ee ∧ Oks vs xs ∧ h'.IsList c vs.toArray ∧ IsEnum h' ee it 0 .none ∧ h'.IsListIter it c 0 ∧ h₀.get? ee = none ∧ h₀.get? it = none ∧ ee ≠ it) ?d hk fun v h₁ t₁ k₁ hv => ?k
  case d =>
    refine den_t1 (den_bi C nb (by decide) bi_enumerate g1) d isL_up (fun a a' v b k ⟨vs, ee, it, h1, h2, h3, h4, h5, h6, h7, h8⟩ => ⟨vs, ee, it, h1, h2, h3, h4, h5, none_down k h6, none_down k h7, h8⟩) (fun v h' k hv => ?_) he
    obtain ⟨rfl, hI⟩ := hv
    intro s E kk
    obtain ⟨vs, hL, hO⟩ := hI.up kk
    refine call_enumerate_list hL.1 fun h₂ h1 h2 hz k₂ => ⟨⟨vs, s.heap.objs.size + 1, s.heap.objs.size, rfl, hO, ?_, h1, h2, Heap.get?_none_of_le (Nat.le_succ _), Heap.get?_none_of_le (Nat.le_refl _), Nat.succ_ne_self _⟩, ⟨h₂, s.toks, rfl, k₂⟩⟩
    exact hL.1.at fun o q => k₂ _ o q
  case k =>
    obtain ⟨vs, ee, it, rfl, hO, hl, he', hi, hne, hni, hei⟩ := hv
    refine wpAny_pyIter_enum he' ?_
    have hcl : ∃ o, h₁.get? c = some o := by obtain ⟨o, ho, _⟩ := hl; exact ⟨o, ho⟩
    have hci : c ≠ it := fun q => by
      obtain ⟨o1, ho1, _, n1, hd1⟩ := hl; obtain ⟨o2, ho2, _, hd2⟩ := hi
      rw [q, ho2] at ho1; cases ho1; rw [hd2] at hd1; cases hd1
    have hce : c ≠ ee := fun q => by
      obtain ⟨o1, ho1, _, n1, hd1⟩ := hl
      have ho2 : h₁.get? ee = some _ := he'
      rw [q, ho2] at ho1; cases ho1; cases hd1
    have hlen : vs.length = xs.length := hO.length
    have W := (WalksT.enumerate (prog := prog) (w := w) hA ee it c hei hce hci vs.toArray).toU
    refine ⟨⟨ee, _, _, _, _, rfl, walksU_mono W (by simpa using hlen) fun i vals hi hv => ?_, ⟨⟨_, he'⟩, hi, hl⟩, fun i h st b hb => ?_, fun b hb => ?_, fun b hb => ?_⟩, ⟨h₁, t₁, rfl, k₁⟩⟩
    · obtain ⟨tk, z, hz, rfl⟩ := hv
      have hi' : i < xs.length := by rw [← hlen]; simpa using hi
      have hx : xs[i]? = some xs[i] := by simp [hi']
      obtain ⟨u, hu, hu'⟩ := hO.get hx
      have : u = z := by
        have : vs[i]? = some z := by simpa using hz
        rw [hu] at this; exact Option.some.inj this
      subst this
      exact ⟨_, _, rfl, ⟨_, rfl⟩, by simpa [List.getD, hx] using hu'⟩
    · simp only [List.mem_cons, List.not_mem_nil, or_false] at hb
      rcases hb with rfl | rfl | rfl
      · obtain ⟨⟨old, q⟩, _⟩ := st; exact ⟨_, q⟩
      · obtain ⟨_, ⟨o, ho, _⟩, _⟩ := st; exact ⟨o, ho⟩
      · obtain ⟨_, _, ⟨o, ho, _⟩⟩ := st; exact ⟨o, ho⟩
    · simp only [List.mem_cons, List.not_mem_nil, or_false] at hb
      rcases hb with rfl | rfl
      · exact hne
      · exact hni
    · simp only [List.mem_cons, List.not_mem_nil, or_false] at hb
      rcases hb with rfl | rfl | rfl
      · exact .inl hne
      · exact .inl hni
      · exact .inr hc
theorem src_zip {c1 c2 : Addr} {p1 p2 : Bool} {xs ys : List AV} (hA : A.handled = none) (C : Cx mg mb B env ρ h) (nb : NoB mg) (g1 : env.kindOf (Str.ofString "zip") = some .globalImplicit) (d1 : Den prog w A h (eval e1 env) (isL c1 p1 xs)) (d2 : Den prog w A h (eval e2 env) (isL c2 p2 ys)) (hc1 : ∃ o, H.get? c1 = some o) (hc2 : ∃ o, H.get? c2 = some o)
    (he : starEach [e1, e2] env = (false, eval e1 env) :: starEach [e2] env := by rfl) (he' : starEach [e2] env = (false, eval e2 env) :: starEach [] env := by rfl) :
    SrcU prog w A H h (eval (.Call (.Name (Str.ofString "zip") px) [e1, e2] [] pos) env) (min xs.length ys.length) (fun i => xs.getD i .none) (fun i => ys.getD i .none) := by
  intro s E hk
  refine DenG.wp (h := h) (T := fun h₀ v h' => ∃ (vs us : List Value) (z TI TO i1 i2 : Addr), v = .ref z ∧ Oks vs xs ∧ Oks us ys ∧ h'.IsList c1 vs.toArray ∧ h'.IsList c2 us.toArray ∧ IsZip h' z TI TO .none ∧ IsPair h' TI (.ref i1) (.ref i2) ∧ IsPair h' TO .none .none ∧ h'.IsListIter i1 c1 0 ∧ h'.IsListIter i2 c2 0 ∧
    ZipApart z TI TO i1 i2 c1 c2 ∧ ∀ b ∈ [z, TI, TO, i1, i2], h₀.get? b = none) ?d hk fun v h₁ t₁ k₁ hv => ?k
  case d =>
    refine den_call (fun a a' v b k ⟨vs, us, z, TI, TO, i1, i2, h1, h2, h3, h4, h5, h6, h7, h8, h9, h10, h11, h12⟩ => ⟨vs, us, z, TI, TO, i1, i2, h1, h2, h3, h4, h5, h6, h7, h8, h9, h10, h11, fun b hb => none_down k (h12 b hb)⟩) (den_bi C nb (by decide) bi_zip g1) (args_more d1 (args_more d2 args_none isL_up he') isL_up he) (fun h' _ => keeper_type h') (fun vs h' k ⟨v, vs', e1, hv, u, us, e2, hu, e3⟩ => ?_) rfl he (by rw [he']; rfl)
    subst e1; subst e2; subst e3
    obtain ⟨rfl, hI⟩ := hv; obtain ⟨rfl, hJ⟩ := hu
    intro s E kk
    obtain ⟨vs, hL, hO⟩ := hI.up kk
    obtain ⟨us, hL', hO'⟩ := hJ.up kk
    have l1 : c1 < s.heap.objs.size := by obtain ⟨o, ho, _⟩ := hL.1; exact Heap.lt_size ho
    have l2 : c2 < s.heap.objs.size := by obtain ⟨o, ho, _⟩ := hL'.1; exact Heap.lt_size ho
    refine call_zip_2 hL.1 hL'.1 fun h₂ h1 h2 h3 h4 h5 hz k₂ => ⟨⟨vs, us, s.heap.objs.size + 4, s.heap.objs.size + 2, s.heap.objs.size + 3, s.heap.objs.size, s.heap.objs.size + 1, rfl, hO, hO', hL.1.at fun o q => k₂ _ o q, hL'.1.at fun o q => k₂ _ o q, h1, h2, h3, h4, h5, ?_, ?_⟩, ⟨h₂, s.toks, rfl, k₂⟩⟩
    · generalize s.heap.objs.size = n at l1 l2
      have l1' : (c1 : Nat) < n := l1
      have l2' : (c2 : Nat) < n := l2
      constructor <;> first | (intro q; have q' : (_ : Nat) = _ := q; omega) | exact Nat.ne_of_lt (Nat.lt_of_lt_of_le l1 (Nat.le_add_right _ _)) | exact Nat.ne_of_lt (Nat.lt_of_lt_of_le l2 (Nat.le_add_right _ _)) | exact Nat.ne_of_lt l1 | exact Nat.ne_of_lt l2
    · intro b hb
      simp only [List.mem_cons, List.not_mem_nil, or_false] at hb
      refine Heap.get?_none_of_le ?_
      rcases hb with rfl | rfl | rfl | rfl | rfl
      · exact Nat.le_add_right _ 4
      · exact Nat.le_add_right _ 2
      · exact Nat.le_add_right _ 3
      · exact Nat.le_refl _
      · exact Nat.le_add_right _ 1
  case k =>
    obtain ⟨vs, us, z, TI, TO, i1, i2, rfl, hO, hO', hl1, hl2, hz, hTI, hTO, hi1, hi2, D, hn⟩ := hv
    refine wpAny_pyIter_zip hz ?_
    have n1 : vs.length = xs.length := hO.length
    have n2 : us.length = ys.length := hO'.length
    have W := (WalksT.zip2 (prog := prog) (w := w) hA z TI TO i1 i2 c1 c2 D vs.toArray us.toArray).toU
    refine ⟨⟨z, _, _, _, _, rfl, walksU_mono W (by simp [n1, n2]) fun i vals hi hv => ?_, ⟨hz, hTI, ⟨_, _, hTO⟩, hi1, hi2, hl1, hl2⟩, fun i h st b hb => ?_, fun b hb => ?_, fun b hb => ?_⟩, ⟨h₁, t₁, rfl, k₁⟩⟩
    · obtain ⟨a, b, ha, hb, rfl⟩ := hv
      have hi' : i < min xs.length ys.length := by simpa [n1, n2] using hi
      have hx : xs[i]? = some xs[i] := by simp
      have hy : ys[i]? = some ys[i] := by simp
      obtain ⟨u, hu, hu'⟩ := hO.get hx
      obtain ⟨u2, hu2, hu2'⟩ := hO'.get hy
      have e1 : u = a := by
        have : vs[i]? = some a := by simpa using ha
        rw [hu] at this; exact Option.some.inj this
      have e2 : u2 = b := by
        have : us[i]? = some b := by simpa using hb
        rw [hu2] at this; exact Option.some.inj this
      subst e1 e2
      exact ⟨_, _, rfl, by simpa [List.getD, hx] using hu', by simpa [List.getD, hy] using hu2'⟩
    · obtain ⟨q1, q2, ⟨_, _, q3⟩, ⟨o4, q4, _⟩, ⟨o5, q5, _⟩, ⟨o6, q6, _⟩, ⟨o7, q7, _⟩⟩ := st
      simp only [List.mem_cons, List.not_mem_nil, or_false] at hb
      rcases hb with rfl | rfl | rfl | rfl | rfl | rfl | rfl
      · exact ⟨_, q1⟩
      · exact ⟨_, q2⟩
      · exact ⟨_, q3⟩
      · exact ⟨_, q4⟩
      · exact ⟨_, q5⟩
      · exact ⟨_, q6⟩
      · exact ⟨_, q7⟩
    · refine hn b ?_
      simp only [List.mem_cons, List.not_mem_nil, or_false] at hb ⊢
      rcases hb with rfl | rfl | rfl | rfl <;> simp
    · simp only [List.mem_cons, List.not_mem_nil, or_false] at hb
      rcases hb with rfl | rfl | rfl | rfl | rfl | rfl | rfl
      · exact .inl (hn _ (by simp))
      · exact .inl (hn _ (by simp))
      · exact .inl (hn _ (by simp))
      · exact .inl (hn _ (by simp))
      · exact .inl (hn _ (by simp))
      · exact .inr hc1
      · exact .inr hc2

/-- for x, y in pairs -/
theorem ex_forU {iter : Expr} {body orelse : List Stmt} {n : Nat} {a b : Nat → AV} {kt : Nat} (hA : A.handled = none) (S : St mg mb B H env ρ μ h) (src : SrcU prog w A H h (eval iter env) n a b)
    (I : Nat → Vars → Led → Prop) (h0 : I 0 ρ μ) (hx : ownStore env x = true) (hy : ownStore env y = true)
    (turn : ∀ i ρ' μ' H' h' t' E', i < n → I i ρ' μ' → Keep H H' → St mg mb B H' env ((y, b i) :: (x, a i) :: ρ') μ' h' →
      wpAny (model prog w) A (execs body env) (Turn σ mg mb B H' env (I (i + 1)) (fun f s' => match f with | .next => wpAny (model prog w) A (execs rest env) Q E s' | f => Q f s')) E' (Sm σ h' t'))
    (done : ∀ ρ' μ' h' t' E', I n ρ' μ' → St mg mb B H env ρ' μ' h' →
      wpAny (model prog w) A (execs orelse env) (fun f s' => match f with | .next => wpAny (model prog w) A (execs rest env) Q E s' | f => Q f s') E' (Sm σ h' t'))
    (hs : ∀ x, foldedSetIterable iter env x = pure x := by intro _; rfl) :
    wpAny (model prog w) A (execs (.For (.Tuple [.Name x px, .Name y py] kt tp) iter body orelse pos :: rest) env) Q E (Sm σ h t) := by
  refine wpAny_execs_cons (wpAny_For (wpAny_mono (src (Sm σ h t) E Keep.rfl) (fun xv s₁ h₁ => wpAny_mono h₁ (fun it s₂ h₂ => ?_) fun _ _ e => e) fun _ _ e => e) hs)
  obtain ⟨⟨⟨I', fp, wr, Stt, Mid, rfl, W, hst, hlive, hwr, hfp⟩⟩, h₂', t₂, rfl, k₂⟩ := h₂
  have S₂ := S.up k₂
  have hfo : ∀ b ∈ fp, b ∉ own env μ := fun b hb q => by
    rcases hfp b hb with e | ⟨o, e⟩
    · obtain ⟨o, ho⟩ := S.alive q
      have e' : h.get? b = none := e
      rw [e'] at ho; cases ho
    · have := S.nb b q; rw [e] at this; cases this
  have hwH : ∀ b ∈ wr, H.get? b = none := fun b hb => none_down S.keep (hwr b hb)
  show codeAny _ _ _ _ (Sm σ h₂' t₂)
  refine codeAny_forLoop_any (fun k s' => ∃ i ρ' μ' h' t', s' = Sm σ h' t' ∧ i ≤ n ∧ k = n + 1 - i ∧ I i ρ' μ' ∧ St mg mb B H env ρ' μ' h' ∧ Stt i h' ∧ ∀ b ∈ fp, b ∉ own env μ') ?_ (n + 1)
    ⟨0, ρ, μ, h₂', t₂, rfl, Nat.zero_le _, rfl, h0, S₂, hst, hfo⟩
  rintro k s' ⟨i, ρ', μ', h', t', rfl, hin, rfl, hI, S', hst', hfo'⟩
  have mv : ∀ {ha hb : Heap} {ρ'' : Vars}, St mg mb B H env ρ'' μ' ha → (∀ b o, b ∉ wr → ha.get? b = some o → hb.get? b = some o) → St mg mb B H env ρ'' μ' hb := fun Sa hk => Sa.move fun b o hb e => hk b o (fun q => by
      rcases hb with hb | ⟨o', hb⟩
      · exact hfo' b (W.sub b q) hb
      · rw [hwH b q] at hb; cases hb) e
  by_cases hlt : i < n
  · refine W.item i (Sm σ h' t') _ _ hlt hst' fun T vals h₁ t₁ hv hT hm hk₁ => ?_
    obtain ⟨v1, v2, rfl, hv1, hv2⟩ := hv
    refine W.go _ _ _ i T (Sm σ h₁ t₁) _ _ hm fun h₂ hst₂ hk₂ => ?_
    have S₂ := mv (mv S' hk₁) hk₂
    have hT₂ : h₂.IsTuple T #[v1, v2] := by
      obtain ⟨o, ho, r⟩ := hT
      exact ⟨o, hk₂ _ _ (W.apart _ _ _ hm) ho, r⟩
    refine assign_Tuple_tuple (s := Sm σ h₂ t₁) hA hT₂ rfl rfl fun h₃ hx₃ => ?_
    have k₃ : Keep h₂ h₃ := fun b o e => hx₃ b o (Nat.ne_of_lt (Heap.lt_size e)) e
    obtain ⟨H₁, kH, S₃, kr⟩ := (S₂.up k₃).rebase
    have hst₃ : Stt (i + 1) h₃ := W.frame _ _ _ hst₂ fun b _ o e => k₃ b o e
    refine st_stores (σ := σ) [x, y] _ [v1, v2] [a i, b i] ρ' h₃ _ ?_ (.cons hv1 (.cons hv2 .nil)) rfl rfl ?_ S₃ fun h₄ t₄ S₄ _ => ?_
    · intro z hz
      simp only [List.mem_cons, List.not_mem_nil, or_false] at hz
      rcases hz with rfl | rfl
      · exact hx
      · exact hy
    · intro j tr z v s Q h1 h2 h3
      match j, h1, h2 with
      | 0, h1, h2 =>
        have e1 : assign (.Name x px) env = tr := Option.some.inj h1
        have e2 : x = z := Option.some.inj h2
        subst e1 e2; exact wpAny_assign_Name h3
      | 1, h1, h2 =>
        have e1 : assign (.Name y py) env = tr := Option.some.inj h1
        have e2 : y = z := Option.some.inj h2
        subst e1 e2; exact wpAny_assign_Name h3
      | j + 2, h1, h2 => simp at h2
    refine wpAny_mono (turn i ρ' μ' H₁ h₄ t₄ _ hlt hI kH S₄) (fun f s₄ h₄ => ?_) fun _ _ e => e
    have fin : (∃ ρ'' μ'' h₄ t₄, s₄ = Sm σ h₄ t₄ ∧ I (i + 1) ρ'' μ'' ∧ St mg mb B H₁ env ρ'' μ'' h₄) → ∃ m, m < n + 1 - i ∧ ∃ i ρ' μ' h' t', s₄ = Sm σ h' t' ∧ i ≤ n ∧ m = n + 1 - i ∧ I i ρ' μ' ∧ St mg mb B H env ρ' μ' h' ∧ Stt i h' ∧ ∀ b ∈ fp, b ∉ own env μ' := by
      rintro ⟨ρ'', μ'', h₅, t₅, rfl, hJ, S₄⟩
      refine ⟨n + 1 - (i + 1), by omega, i + 1, ρ'', μ'', h₅, t₅, rfl, hlt, rfl, hJ, S₄.base kH S.bh, W.frame _ _ _ hst₃ fun b hb o e => S₄.keep b o (kr b o e (hfo' b hb)), fun b hb q => ?_⟩
      obtain ⟨o, ho⟩ := hlive _ _ hst₃ b hb
      have := S₄.nb b q
      rw [kr b o ho (hfo' b hb)] at this; cases this
    cases f with
    | next => exact fin h₄
    | cont => exact fin h₄
    | brk => exact h₄
    | ret v => exact h₄
  · have hi : i = n := by omega
    subst hi
    refine W.done (Sm σ h' t') _ _ hst' fun h₁ t₁ hk₁ => ?_
    exact done ρ' μ' h₁ t₁ _ hI (mv S' hk₁)
end

section
variable {prog : Program} {w : World} {A : Around} {mg mb : Str → Option Value} {B H h h' base : Heap} {env : Env} {outer : List Env} {ρ : Vars} {μ : Led} {σ s : Shared} {t : Nat} {v : Value} {E : Value → Shared → Prop} {e e1 e2 elt iter : Expr} {x y z : Str} {rest : List Stmt} {Q : Flow → Shared → Prop} {pos px py pz pn cp tp spos : Pos} {cs fs scope : Scope}

/-- the two names of a pair's target, in a comprehension's own names -/
theorem store_pair {C : Addr} {T : Addr} {v1 v2 : Value} {m : Str → Option Value} {cenv : Env} {kt : Nat} {Q : Unit → Shared → Prop} (hA : A.handled = none) (hC : cenv.locals = C) (hx : cenv.kindOf x = some .local) (hy : cenv.kindOf y = some .local) (hxy : x ≠ y) (hp : (cenv.scope.kind == .class || (cenv.scope.kind == .module && cenv.locals != cenv.globals)) = false)
    (hT : s.heap.IsTuple T #[v1, v2]) (hn : s.heap.Ns C m)
    (k : ∀ h' tk m', h'.Ns C m' → m' x = some v1 → m' y = some v2 → (∀ b o, b ≠ C → s.heap.get? b = some o → h'.get? b = some o) → Q () { s with heap := h', toks := tk }) :
    wpAny (model prog w) A (assign (.Tuple [.Name x px, .Name y py] kt tp) cenv (.ref T)) Q E s := by
  subst hC
  refine assign_Tuple_tuple hA hT rfl rfl fun h₃ hx₃ => ?_
  have k₃ : Keep s.heap h₃ := fun b o e => hx₃ b o (Nat.ne_of_lt (Heap.lt_size e)) e
  refine assignInOrder_cons (wpAny_assign_Name (wpAny_storeName_local hx (hn.keeps k₃) (fun h₄ hn₄ hs₄ => ?_) hp))
  refine assignInOrder_cons (wpAny_assign_Name (wpAny_storeName_local hy hn₄ (fun h₅ hn₅ hs₅ => ?_) hp))
  refine assignInOrder_nil ?_
  exact k h₅ _ _ hn₅ (by simp [hxy]) (by simp) fun b o hb e => hs₅.extBut b o hb (hs₄.extBut b o hb (k₃ b o e))

theorem comp_pairs {cl : List (Str × Addr)} {s₂ : Shared} {I : Addr} {fp wr : List Addr} {n : Nat} {Pt : Nat → Array Value → Prop} {Stt : Nat → Heap → Prop} {Mid : Nat → Addr → Heap → Prop} {kt : Nat} (W : WalksU prog w A I fp wr n Pt Stt Mid) (hPt : ∀ i vals, Pt i vals → ∃ v1 v2, vals = #[v1, v2]) (hA : A.handled = none) (hsz : n ≤ sizeLine) (F : Nat → Value → Prop) {RR : Value → Addr → Result → Shared → Prop}
    (hcell : ∀ q ∈ scope.names, q.2 ≠ .cell) (hkind : scope.kind = .function) (hx : scope.names.lookup x = some .local) (hy : scope.names.lookup y = some .local) (hxy : x ≠ y) (hst : Stt 0 s₂.heap) (hfp : ∀ b ∈ fp, b < s₂.heap.objs.size)
    (helt : ∀ C i v1 v2 s₃ m₃ E', s₂.heap.objs.size ≤ C → i < n → Pt i #[v1, v2] → s₃.heap.Ns C m₃ → m₃ x = some v1 → m₃ y = some v2 → (∀ b o, b ∉ wr → s₂.heap.get? b = some o → s₃.heap.get? b = some o) →
      wpAny (model prog w) A (eval elt (compEnvC scope cl C env)) (fun z s₄ => F i z ∧ Keeps s₃ s₄) E' s₃)
    (hRR : ∀ D C h' tk m' (ys : List Value), s₂.heap.get? D = none → s₂.heap.get? C = none → D ≠ C → h'.Ns C m' → h'.IsList D ys.toArray → h'.PlainList D ys.toArray → ys.length = n → (∀ (j : Nat) z, ys[j]? = some z → F j z) →
      (∀ b o, b ∉ wr → s₂.heap.get? b = some o → h'.get? b = some o) → RR (.ref D) C (.ok .next) { s₂ with heap := h', toks := tk }) :
    wpAny (model prog w) A (newList []) (fun acc s₃ => wpAny (model prog w) A (newFunctionEnv scope env.globals cl [] env.qual none .none (some env)) (fun cenv s₄ =>
      codeAny (model prog w) A (.compStart (.ListComp elt [⟨.Tuple [.Name x px, .Name y py] kt tp, iter, [], 0⟩] scope pos) 0 (.ref I) acc { cenv with scope := relabel scope env }) (RR acc cenv.locals) s₄) E s₃) E s₂ := by
  refine wpAny_newObj_type (wpAny_newFunctionEnv hcell (by intro y hy; simp at hy) (fun h₁ hns₁ hsb₁ => ?_) hkind)
  dsimp only at hns₁ hsb₁ ⊢
  generalize hH2 : s₂.heap.push { cls := .type "list", dict := none, data := .seq ([] : List Value).toArray } = H2 at hns₁ hsb₁ ⊢
  have hC : H2.objs.size = s₂.heap.objs.size + 1 := by rw [← hH2, Heap.size_push]
  generalize hDd : s₂.heap.objs.size = D at *
  generalize hCd : H2.objs.size = C at *
  have hDC : D ≠ C := by rw [hC]; exact Nat.ne_of_lt (Nat.lt_succ_self _)
  have hDf : D ∉ fp := fun hm => Nat.lt_irrefl _ (hfp _ hm)
  have hCf : C ∉ fp := fun hm => by have := hfp _ hm; rw [hC] at this; exact Nat.lt_irrefl _ (Nat.lt_of_succ_lt this)
  have hDn : s₂.heap.get? D = none := Heap.get?_none_of_le (Nat.le_of_eq hDd)
  have hCn : s₂.heap.get? C = none := Heap.get?_none_of_le (by rw [hDd, hC]; exact Nat.le_succ _)
  have ne : ∀ b o, s₂.heap.get? b = some o → b ≠ C ∧ b ≠ D := fun b o e => ⟨fun q => (by rw [q, hCn] at e; cases e), fun q => (by rw [q, hDn] at e; cases e)⟩
  have old : ∀ b o, s₂.heap.get? b = some o → h₁.get? b = some o := fun b o e => hsb₁.extBut b o (ne b o e).1 (Heap.get?_push_of_some _ (hH2 ▸ Heap.get?_push_of_some _ e))
  have hacc : h₁.PlainList D ([] : List Value).toArray := ⟨_, hsb₁.extBut _ _ hDC (Heap.get?_push_of_some _ (by rw [← hH2, ← hDd]; exact Heap.get?_push_size _ rfl))⟩
  have hst₁ : Stt 0 h₁ := W.frame _ _ _ hst fun b _ o e => old b o e
  have hp : ((compEnvC scope cl C env).scope.kind == .class || ((compEnvC scope cl C env).scope.kind == .module && (compEnvC scope cl C env).locals != (compEnvC scope cl C env).globals)) = false := by simp [compEnvC, relabel, hkind]
  have loop : ∀ s₃ : Shared, s₃ = { s₂ with heap := h₁, toks := s₂.toks + ([] : List (Str × Value)).length } →
      codeAny (model prog w) A (.compLoop (.ListComp elt [⟨.Tuple [.Name x px, .Name y py] kt tp, iter, [], 0⟩] scope pos) 0 (.ref I) (.ref D) (compEnvC scope cl C env)) (RR (.ref D) C) s₃ := by
    rintro s₃ rfl
    refine loopL
      (fun k s' => ∃ h' tk m', ∃ ys : List Value, s' = { s₂ with heap := h', toks := tk } ∧ Stt ys.length h' ∧ h'.PlainList D ys.toArray ∧ h'.Ns C m' ∧ (∀ (j : Nat) z, ys[j]? = some z → F j z) ∧ ys.length ≤ n ∧ k = n + 1 - ys.length ∧ ∀ b o, b ∉ wr → s₂.heap.get? b = some o → h'.get? b = some o) ?_ (n + 1)
      ⟨h₁, _, _, [], rfl, hst₁, hacc, hns₁, by intro j z h; simp at h, Nat.zero_le _, rfl, fun b o _ e => old b o e⟩
    rintro k s' ⟨h', tk, m', ys, rfl, hst', hpl, hn', hF, hle, rfl, hk⟩
    have hCw : C ∉ wr := fun q => hCf (W.sub _ q)
    have hDw : D ∉ wr := fun q => hDf (W.sub _ q)
    by_cases hlt : ys.length < n
    · refine W.item ys.length _ _ _ hlt hst' fun T vals h₂ tk₂ hv hT hm hk₂ => ?_
      obtain ⟨v1, v2, rfl⟩ := hPt _ _ hv
      refine W.go _ _ _ ys.length T { s₂ with heap := h₂, toks := tk₂ } _ _ hm fun h₃ hst₃ hk₃ => ?_
      have hT₃ : h₃.IsTuple T #[v1, v2] := by
        obtain ⟨o, ho, r⟩ := hT
        exact ⟨o, hk₃ _ _ (W.apart _ _ _ hm) ho, r⟩
      have hn₃ : h₃.Ns C m' := (hn'.at' fun o e => hk₂ _ o hCw e).at' fun o e => hk₃ _ o hCw e
      have hpl₃ : h₃.PlainList D ys.toArray := (hpl.at fun o e => hk₂ _ o hDw e).at fun o e => hk₃ _ o hDw e
      refine store_pair (s := { s₂ with heap := h₃, toks := tk₂ }) hA rfl (lookup_relabel_local hx) (lookup_relabel_local hy) hxy hp hT₃ hn₃ fun h₄ tk₄ m₄ hn₄ hm1 hm2 hk₄ => ?_
      replace hk₄ : ∀ b o, b ≠ C → h₃.get? b = some o → h₄.get? b = some o := hk₄
      have hpl₄ : h₄.PlainList D ys.toArray := hpl₃.at fun o e => hk₄ _ o hDC e
      have hst₄ : Stt (ys.length + 1) h₄ := W.frame _ _ _ hst₃ fun b hb o e => hk₄ b o (fun q => hCf (q ▸ hb)) e
      have up : ∀ b o, b ∉ wr → s₂.heap.get? b = some o → h₄.get? b = some o := fun b o hb e => hk₄ b o (ne b o e).1 (hk₃ b o hb (hk₂ b o hb (hk b o hb e)))
      refine wpAny_mono (helt C ys.length v1 v2 { s₂ with heap := h₄, toks := tk₄ } m₄ _ (by rw [hC]; exact Nat.le_succ _) hlt hv hn₄ hm1 hm2 up) (fun zv s₅ y₅ => ?_) fun _ _ e => e
      obtain ⟨hz, h₅, tk₅, rfl, hk₅⟩ := y₅
      refine wpAny_list_append_plain (s := { s₂ with heap := h₅, toks := tk₅ }) (hpl₄.at fun o e => hk₅ _ o e) (fun h₆ hp₆ hs₆ => ?_) (by rw [List.size_toArray]; omega)
      have e1 : (ys ++ [zv]).toArray = ys.toArray.push zv := by simp
      refine ⟨n + 1 - (ys.length + 1), by omega, h₆, tk₅, m₄, ys ++ [zv], rfl, ?_, e1 ▸ hp₆, (hn₄.keeps hk₅).at' fun o e => hs₆.extBut _ o (Ne.symm hDC) e, ?_, by simp; omega, by simp, fun b o hb e => hs₆.extBut b o (ne b o e).2 (hk₅ b o (up b o hb e))⟩
      · rw [List.length_append, List.length_singleton]
        exact W.frame _ _ _ hst₄ fun b hb o e => hs₆.extBut b o (fun q => hDf (q ▸ hb)) (hk₅ b o e)
      · intro j u hj
        rcases Nat.lt_trichotomy j ys.length with q | q | q
        · exact hF j u (by rwa [List.getElem?_append_left q] at hj)
        · subst q; simp at hj; subst hj; exact hz
        · rw [List.getElem?_eq_none (by simp; omega)] at hj; cases hj
    · have hi : ys.length = n := by omega
      refine W.done _ _ _ (hi ▸ hst') fun h₂ tk₂ hk₂ => ?_
      have hp₂ := hpl.at fun o e => hk₂ _ o hDw e
      exact hRR D C h₂ tk₂ m' ys hDn hCn hDC (hn'.at' fun o e => hk₂ _ o hCw e) hp₂.isList hp₂ hi hF fun b o hb e => hk₂ b o hb (hk b o hb e)
  exact codeAny_compStart_list (loop _ rfl) (W.self 0 _ _ _ hst₁ (loop _ rfl))
theorem oks_of_get {vs : List Value} {xs : List AV} (hl : vs.length = xs.length) (h : ∀ (j : Nat) v, vs[j]? = some v → ∃ a, xs[j]? = some a ∧ a.ok v) : Oks vs xs := by
  induction vs generalizing xs with
  | nil => cases xs with
    | nil => exact .nil
    | cons _ _ => cases hl
  | cons v vs ih => cases xs with
    | nil => cases hl
    | cons a xs =>
      refine .cons ?_ (ih (Nat.succ.inj hl) fun j u hj => ?_)
      · obtain ⟨a', h1, h2⟩ := h 0 v rfl
        have := Option.some.inj h1; subst this; exact h2
      · exact h (j + 1) u hj
theorem two_lk {a b : AV} {v1 v2 : Value} {m : Str → Option Value} (h1 : m x = some v1) (h2 : m y = some v2) (ha : a.ok v1) (hb : b.ok v2) : ∀ q c, Lk [(y, b), (x, a)] q c → ∃ u, m q = some u ∧ c.ok u := fun q c hq => by
  simp only [Lk, List.lookup_cons] at hq
  split at hq
  · rename_i e; cases hq; rw [eq_of_beq e]; exact ⟨_, h2, hb⟩
  · split at hq
    · rename_i e; cases hq; rw [eq_of_beq e]; exact ⟨_, h1, ha⟩
    · simp at hq
/-- z = [elt for x, y in pairs], z a plain name -/
theorem ex_compU {n : Nat} {a b : Nat → AV} {kt : Nat} (out : Nat → AV) (ρ' : Vars) (xs : List Str) (hA : A.handled = none)
    (FE : FEnv fs env) (S : St mg mb B H env ρ [] h) (hsub : Sub ρ' ρ) (hok : compOk cs fs [x, y] xs = true) (hxs : ρ'.map (·.1) = xs) (hxy : x ≠ y) (src : SrcU prog w A h h (eval iter env) n a b) (hn : n ≤ 100000)
    (hz : env.kindOf z = some .local) (hzs : ownStore env z = true)
    (elts : ∀ i h' cenv, i < n → Keep h h' → CEnv cs fs cenv → Cx mg mb B cenv ((y, b i) :: (x, a i) :: ρ') h' → Den prog w A h' (eval elt cenv) (is (out i)))
    (hsw : swapsWith (.ListComp elt [⟨.Tuple [.Name x px, .Name y py] kt tp, iter, [], 0⟩] cs pos) (some (.Name z pz)) spos.line env = pure true)
    (k : ∀ c H' h' t', Keep H H' → Is H' c (.list true ((List.range n).map out)) → St mg mb B H' env ((z, .ref c) :: ρ) [] h' → wpAny (model prog w) A (execs rest env) Q E (Sm σ h' t'))
    (hs : ∀ x, foldedSetIterable iter env x = pure x := by intro _; rfl) :
    wpAny (model prog w) A (execs (.Assign [.Name z pz] (.ListComp elt [⟨.Tuple [.Name x px, .Name y py] kt tp, iter, [], 0⟩] cs pos) spos :: rest) env) Q E (Sm σ h t) := by
  obtain ⟨q1, q2, q3, q4⟩ := compOk_parts hok
  refine wpAny_execs_cons ?_
  rw [exec_Assign_Name_used _ _ _ _ hsw]
  refine wpAny_bind (wpAny_standAt (wpAny_bind ?_))
  show wpAny _ A (do let _ ← comprehension (.ListComp elt [⟨.Tuple [.Name x px, .Name y py] kt tp, iter, [], 0⟩] cs pos) cs env _ (newList []) false (eval iter env) (some (assign (.Name z pz) env))) _ _ _
  refine wpAny_bind (wpAny_mono (wpAny_comprehension_free (use := some (assign (.Name z pz) env)) (Q := fun _ s' => match Flow.next with | .next => wpAny (model prog w) A (execs rest env) Q E s' | f => Q f s') rfl hs (comp_closure FE hok) q2 q3
    (wpAny_mono (src (Sm σ h t) E Keep.rfl) (fun xv s₁ h₁ => wpAny_mono h₁ (fun it s₂ h₂ => ?_) fun _ _ e => e) fun _ _ e => e)) (fun _ s' hq => wpAny_pure (wpAny_pure hq)) fun _ _ e => e)
  obtain ⟨⟨⟨I, fp, wr, Stt, Mid, rfl, W, hst, hlive, hwr, hfp⟩⟩, h₂', t₂, rfl, k₂⟩ := h₂
  replace k₂ : Keep h h₂' := k₂
  have hwr' : ∀ b ∈ wr, h.get? b = none := hwr
  refine comp_pairs (s₂ := Sm σ h₂' t₂) (F := fun i v => (out i).ok v) W (fun i vals ⟨v1, v2, e, _⟩ => ⟨v1, v2, e⟩) hA (Nat.le_trans hn (by decide)) q1 q2 (q4 x (by simp)) (q4 y (by simp)) hxy hst (fun b hb => (by obtain ⟨o, ho⟩ := hlive _ _ hst b hb; exact Heap.lt_size ho)) ?_ ?_
  · intro C i v1 v2 s₃ m₃ E' hC hi hv hns h1 h2 kk
    obtain ⟨u1, u2, e, hu1, hu2⟩ := hv
    have e1 : v1 = u1 := by have := congrArg (fun q => q[0]?) e; simpa using this
    have e2 : v2 = u2 := by have := congrArg (fun q => q[1]?) e; simpa using this
    subst e1 e2
    have up : Keep h s₃.heap := fun b o e => kk b o (fun q => by have := hwr' b q; rw [e] at this; cases this) (k₂ b o e)
    obtain ⟨CE, C₃⟩ := comp_cx (cs := cs) FE S.cx up hsub (hxs ▸ hok) (ts := [x, y]) (τ := [(y, b i), (x, a i)]) (by simp) hns (two_lk h1 h2 hu1 hu2)
    exact elts i s₃.heap _ hi up CE C₃ s₃ E' Keep.rfl
  · intro D C h₃ tk₃ m₃ ys hD hC hDC hnC hl hpl hlen hF kk
    have up : Keep h h₃ := fun b o e => kk b o (fun q => by have := hwr' b q; rw [e] at this; cases this) (k₂ b o e)
    have S₃ := S.up up
    have hDh : h.get? D = none := none_down k₂ hD
    have hCh : h.get? C = none := none_down k₂ hC
    have hCo : C ∉ own env [] := fun q => by obtain ⟨o, ho⟩ := S.alive q; rw [hCh] at ho; cases ho
    have hDo : D ∉ own env [] := fun q => by obtain ⟨o, ho⟩ := S.alive q; rw [hDh] at ho; cases ho
    show wpAny _ A (assign (.Name z pz) env (.ref D)) _ _ _
    refine wpAny_assign_Name ?_
    refine st_store (σ := σ) (t := tk₃) (a := .ref D) S₃ hzs rfl fun h₄ t₄ S₄ kb => ?_
    have hns₄ : h₄.Ns C m₃ := hnC.at' fun o e => kb C o hCo e
    refine ⟨m₃, hns₄, fun h₅ hs₅ => ?_⟩
    replace hs₅ : Heap.SameBut C h₄ h₅ := hs₅
    have hDI : Is h₅ D (.list true ((List.range n).map out)) := by
      have hp₄ := hpl.at fun o e => kb D o hDo e
      have hp₅ := hp₄.at fun o e => hs₅.extBut D o hDC e
      refine ⟨ys, ⟨hp₅.isList, fun _ => hp₅⟩, ?_⟩
      refine oks_of_get (by simp [hlen]) fun j v hj => ?_
      have hjn : j < n := by rw [← hlen]; exact (List.getElem?_eq_some_iff.mp hj).1
      exact ⟨out j, by simp [hjn], hF j v hj⟩
    have S₅ : St mg mb B H env ((z, .ref D) :: ρ) [] h₅ := S₄.move fun b o hb e => hs₅.extBut b o (fun q => by
      rcases hb with hb | ⟨o', hb⟩
      · exact hCo (q ▸ hb)
      · have := S.keep _ _ hb; rw [q, hCh] at this; cases this) e
    obtain ⟨H', kHH, S'', kr⟩ := S₅.rebase
    exact k D H' h₅ t₄ kHH (hDI.at fun o e => kr D o e hDo) S''
end

section
variable {prog : Program} {w : World} {A : Around} {mg mb : Str → Option Value} {B H h h' base : Heap} {env : Env} {ρ : Vars} {μ μ' : Led}
theorem St.dropR (S : St mg mb B H env ρ (μ ++ μ') h) : St mg mb B H env ρ μ h := by
  have sub : ∀ b, b ∈ own env μ → b ∈ own env (μ ++ μ') := fun b hb => by
    simp only [own, List.mem_cons, List.mem_append, List.map_append] at hb ⊢
    rcases hb with h | h | h
    · exact .inl h
    · exact .inr (.inl h)
    · exact .inr (.inr (.inl h))
  refine ⟨S.cx, S.bh, S.keep, fun b hb => S.nb b (sub b hb), fun p hp => S.led p (List.mem_append_left _ hp), ?_, S.cells⟩
  have := S.nd
  simp only [own, List.map_append] at this ⊢
  refine List.Nodup.sublist (.cons_cons _ (List.Sublist.append (List.Sublist.refl _) ?_)) this
  exact List.sublist_append_left _ _
end

/-! ## _law_tape -/
def bigP (x : Int) : AV → Bool
  | .int j => x / 2 ^ (6 * j).toNat != 0
  | _ => false
def plus1 : AV → AV
  | .int j => .int (j + 1)
  | a => a
def bigs (x : Int) : List Int := (((List.range 6).map fun i : Nat => (i : Int)).filter fun j => bigP x (.int j)).map (· + 1)
def sizeN (x : Int) : Int := (bigs x).foldl max 1
theorem foldl_max (l : List Int) : ∀ a, l.foldl max a ∈ a :: l ∧ ∀ z ∈ a :: l, z ≤ l.foldl max a := by
  induction l with
  | nil => intro a; simp
  | cons b l ih =>
    intro a
    obtain ⟨h1, h2⟩ := ih (max a b)
    simp only [List.foldl_cons]
    refine ⟨?_, fun z hz => ?_⟩
    · rcases List.mem_cons.mp h1 with h | h
      · rw [h]
        by_cases hab : a ≤ b
        · rw [Int.max_eq_right hab]; simp
        · rw [Int.max_eq_left (by omega)]; simp
      · exact .tail _ (.tail _ h)
    · have h3 := h2 (max a b) (.head _)
      rcases List.mem_cons.mp hz with rfl | hz
      · exact Int.le_trans (Int.le_max_left ..) h3
      · rcases List.mem_cons.mp hz with rfl | hz
        · exact Int.le_trans (Int.le_max_right ..) h3
        · exact h2 z (.tail _ hz)
theorem sizeN_bound (x : Int) : 1 ≤ sizeN x ∧ sizeN x ≤ 6 := by
  obtain ⟨h1, h2⟩ := foldl_max (bigs x) 1
  refine ⟨h2 1 (.head _), ?_⟩
  unfold sizeN
  rcases List.mem_cons.mp h1 with h | h
  · rw [h]; decide
  · generalize (bigs x).foldl max 1 = m at h
    unfold bigs at h
    obtain ⟨j, hj, rfl⟩ := List.mem_map.mp h
    obtain ⟨i, hi, rfl⟩ := List.mem_map.mp (List.mem_filter.mp hj).1
    have := List.mem_range.mp hi
    show (i : Int) + 1 ≤ 6
    omega
/-- the octets of one number, behind so many noughts -/
def highs (x : Int) (n : Nat) : List Int := (List.range n).map fun i : Nat => 64 + x / 2 ^ (6 * ((n : Int) - i)).toNat % 64
def octsOf (x : Int) (k : Nat) : List Int := highs x (sizeN x + (k : Int) % 3 - 1).toNat ++ [x % 64]
def octsTo (numbers : List Int) : Nat → List Int
  | 0 => []
  | n + 1 => octsTo numbers n ++ octsOf (numbers.getD n 0) n
theorem octsOf_len (x : Int) (k : Nat) : (octsOf x k).length ≤ 8 := by
  have := sizeN_bound x
  simp only [octsOf, highs, List.length_append, List.length_map, List.length_range, List.length_cons, List.length_nil]; omega
theorem octsTo_len (numbers : List Int) : ∀ n, (octsTo numbers n).length ≤ 8 * n
  | 0 => by simp [octsTo]
  | n + 1 => by
    have := octsTo_len numbers n
    have := octsOf_len (numbers.getD n 0) n
    simp only [octsTo, List.length_append]; omega
def markedAt (turn : Int) (os : List Int) (i : Nat) : Int := if (turn + i) % 3 != 0 then os.getD i 0 else os.getD i 0 + 128
def marked (turn : Int) (os : List Int) : List Int := (List.range os.length).map (markedAt turn os)
def tapeOf (numbers : List Int) (turn : Int) : List Int := marked turn (octsTo numbers numbers.length) ++ (List.replicate (turn % 2).toNat [(65 : Int)]).flatten

section
variable {prog : Program} {w : World} {A : Around} {mg mb : Str → Option Value} {B H h base : Heap} {env : Env} {outer : List Env} {ρ : Vars} {σ s : Shared} {t : Nat} {px pos : Pos}
theorem f_tape (W : Wd mg mb B) (numbers : List Int) (turn : Int) (q : Bool) (hn : numbers.length ≤ 100) : Sp prog w mg B 1 "_law_tape" [isO (.ints q numbers), isI turn] (isN (.ints true (tapeOf numbers turn))) := by
  obtain ⟨f, hg, F⟩ := W.fn ("_law_tape", 15) (by decide)
  obtain ⟨o, pm, cd, doc, ho, hd, _⟩ := F.ex
  refine ⟨f, o, _, hg, ho, hd, fun A h vs ok kb hT => ?_⟩
  obtain ⟨v, v2, rfl, hv, hv2⟩ := hT.two
  obtain ⟨c, hv, hI⟩ := hv
  refine den_fn (n := 0) (ρ := [("numbers", .ref c), ("turn", .int turn)]) (binds := [("numbers", v), ("turn", v2)]) (xs := ["numbers", "turn"]) F W.gd kb ok (fun _ _ _ => by kernel_rfl) (.cons ⟨rfl, hv⟩ (.cons ⟨rfl, hv2⟩ .nil)) (by decide +kernel) rfl fun s env h₁ t₁ E k FE okA S => ?_
  show wpAny _ _ (execs (boOf (stm 15)) env) _ _ _
  have nb := W.nb
  refine ex_assignN S (m := .list true []) (den_list oks_none (by decide)) (by walk_at "sto") fun co h₂ t₂ S₂ => ?_
  have S₃ : St mg mb B s.heap env ([(Str.ofString "octets", AV.ref co), (Str.ofString "numbers", AV.ref c), (Str.ofString "turn", AV.int turn)] : Vars) [(co, MO.ints true (octsTo numbers 0))] h₂ := S₂.sub (by walk_at "sub")
  have src := src_enum (H := s.heap) (prog := prog) (w := w) (px := ⟨89, 16, 89, 25⟩) (pos := ⟨89, 16, 89, 34⟩) okA.hd S₃.cx nb (by walk_at "gl") (den_isL (px := ⟨89, 26, 89, 33⟩) (x := "numbers") (c := c) (p := q) (xs := numbers.map AV.int) S₃.cx (by walk_at "lk") (by walk_at "own") (by decide +kernel) (hI.up (k.trans S₃.keep))) (hI.up k).alive
  rw [List.length_map] at src
  have hinv : (fun i ρ μ => ∃ co, ρ = ([(Str.ofString "octets", AV.ref co), (Str.ofString "numbers", AV.ref c), (Str.ofString "turn", AV.int turn)] : Vars) ∧ μ = [(co, MO.ints true (octsTo numbers i))]) 0 ([(Str.ofString "octets", AV.ref co), (Str.ofString "numbers", AV.ref c), (Str.ofString "turn", AV.int turn)] : Vars) [(co, MO.ints true (octsTo numbers 0))] := ⟨co, rfl, rfl⟩
  refine ex_forU okA.hd S₃ src (fun i ρ μ => ∃ co, ρ = ([(Str.ofString "octets", AV.ref co), (Str.ofString "numbers", AV.ref c), (Str.ofString "turn", AV.int turn)] : Vars) ∧ μ = [(co, MO.ints true (octsTo numbers i))]) hinv (by walk_at "sto") (by walk_at "sto") ?turn ?done
  case turn =>
    rintro i _ _ H' h' t' E' hi ⟨co, rfl, rfl⟩ kH S'
    have hgx : (numbers.map AV.int).getD i AV.none = .int (numbers.getD i 0) := by simp [List.getD, hi]
    rw [hgx] at S'
    have hol := octsTo_len numbers i
    have hnext : octsTo numbers (i + 1) = octsTo numbers i ++ octsOf (numbers.getD i 0) i := rfl
    generalize numbers.getD i 0 = x at *
    have hb := sizeN_bound x
    refine ex_assign S' (a := .int (sizeN x + (i : Int) % 3)) (den_add (b_max (p := true) (ns := 1 :: bigs x) okA.hd S'.cx nb (by walk_at "gl") ?mx (foldl_max (bigs x) 1).1 (foldl_max (bigs x) 1).2) (by walk_at "E")) (by walk_at "sto") fun h₃ t₃ S₃ => ?_
    case mx =>
      have e : (1 :: bigs x).map AV.int = [AV.int 1] ++ ((((List.range 6).map fun i : Nat => AV.int (i : Int)).filter (bigP x)).map plus1) := by
        rw [comp_ints (g := (· + 1)) (fun _ => rfl)]; rfl
      show Den _ _ _ _ _ (isO (.list true ((1 :: bigs x).map AV.int)))
      rw [e]
      refine DenG.old (den_catL (p := true) (q := true) (den_list (oks_more (by walk_at "E") oks_none rfl) (by decide)).old (DenG.old ?_) ?_)
      · refine den_comp (H := H') (bigP x) plus1 [("x", .int x)] ["x"] FE S'.cx (by walk_at "sub") (by decide +kernel) rfl (src_range1 (N := 6) okA.hd S'.cx nb (by walk_at "gl") (by walk_at "E") (by rfl) (by decide)) (by decide) (fun j h₄ cenv hj k CE C => ifs_one ?_) (fun j h₄ cenv hj _ k CE C => ?_)
        · show Den _ _ _ _ _ (isT (x / 2 ^ (6 * (j : Int)).toNat != 0))
          refine test_int (den_shrp (by walk_at "E") (by walk_at "E") (by omega)) (by rfl)
        · show Den _ _ _ _ _ (is (.int ((j : Int) + 1)))
          walk_at "E"
      · have := List.length_filter_le (bigP x) ((List.range 6).map fun i : Nat => AV.int (i : Int))
        simp only [List.length_cons, List.length_nil, List.length_map, List.length_range] at this ⊢
        omega
    refine ex_assignN S₃ (m := .ints true (octsTo numbers i ++ octsOf x i)) ?oc (by walk_at "sto") fun co' h₄ t₄ S₄ => ?_
    case oc =>
      have hsz : (((sizeN x + (i : Int) % 3 - 1).toNat : Nat) : Int) = sizeN x + (i : Int) % 3 - 1 := by omega
      have e : (octsTo numbers i ++ octsOf x i).map AV.int = (octsTo numbers i).map AV.int ++ ((((List.range (sizeN x + (i : Int) % 3 - 1).toNat).map fun j : Nat => AV.int ((sizeN x + (i : Int) % 3 - 1) - (j : Int))).filter fun _ => true).map (fun a => match a with | .int j => .int (64 + x / 2 ^ (6 * j).toNat % 64) | a => a)) ++ [AV.int (x % 64)] := by
        rw [comp_ints (g := fun j => 64 + x / 2 ^ (6 * j).toNat % 64) (fun _ => rfl)]
        unfold octsOf highs
        rw [hsz, List.filter_eq_self.mpr (fun _ _ => rfl)]
        simp
      show DenG _ _ _ _ _ (isN (.list true ((octsTo numbers i ++ octsOf x i).map AV.int)))
      rw [e]
      refine den_catL (p := true) (q := true) (DenG.old (den_catL (p := true) (q := true) (fun s' E' hk => (den_name (prog := prog) (w := w) S₃.cx (x := "octets") (a := .ref co) (by walk_at "lk") (by walk_at "own") (by decide +kernel)).wp hk fun v h₁ t₁ k₁ hv => ⟨⟨co, hv, S₃.l1.up (hk.trans k₁)⟩, ⟨h₁, t₁, rfl, k₁⟩⟩) (DenG.old ?_) ?_)) (den_list (oks_more (by walk_at "E") oks_none rfl) (Nat.le_of_ble_eq_true rfl)).old ?_
      · refine den_comp (H := H') (fun _ => true) _ [("x", .int x)] ["x"] FE S₃.cx (by walk_at "sub") (by decide +kernel) rfl (src_range3 (N := (sizeN x + (i : Int) % 3 - 1).toNat) okA.hd S₃.cx nb (by walk_at "gl") (by walk_at "E") (by walk_at "E") (by walk_at "E") (by rw [Int.sub_zero]) (by omega) (by omega) (by decide) (by decide)) (by omega) (fun j h₄ cenv hj k CE C => ifs_none) (fun j h₄ cenv hj _ k CE C => ?_)
        show Den _ _ _ _ _ (is (.int (64 + x / 2 ^ (6 * (sizeN x + (i : Int) % 3 - 1 - (j : Int))).toNat % 64)))
        have h0 : 0 ≤ 6 * (sizeN x + (i : Int) % 3 - 1 - (j : Int)) := by omega
        walk_at "E"
      · have := List.length_filter_le (fun _ : AV => true) ((List.range (sizeN x + (i : Int) % 3 - 1).toNat).map fun j : Nat => AV.int ((sizeN x + (i : Int) % 3 - 1) - (j : Int)))
        simp only [List.length_map, List.length_range] at this ⊢
        omega
      · have := List.length_filter_le (fun _ : AV => true) ((List.range (sizeN x + (i : Int) % 3 - 1).toNat).map fun j : Nat => AV.int ((sizeN x + (i : Int) % 3 - 1) - (j : Int)))
        simp only [List.length_append, List.length_map, List.length_range, List.length_cons, List.length_nil] at this ⊢
        omega
    refine ex_nil ⟨_, _, h₄, t₄, rfl, ⟨co', rfl, rfl⟩, ?_⟩
    rw [hnext]
    exact (St.dropR (μ := [(co', _)]) S₄).sub (by walk_at "sub")
  case done =>
    rintro _ _ h' t' E' ⟨co, rfl, rfl⟩ S'
    refine ex_nil ?_
    have hIo : Is h' co (.ints true (octsTo numbers numbers.length)) := S'.l1
    have hol := octsTo_len numbers numbers.length
    have S₀ : St mg mb B s.heap env ([(Str.ofString "octets", AV.ref co), (Str.ofString "numbers", AV.ref c), (Str.ofString "turn", AV.int turn)] : Vars) [] h' := St.drop (μ := [(co, _)]) S'
    have src := src_enum (H := h') (prog := prog) (w := w) (px := ⟨92, 71, 92, 80⟩) (pos := ⟨92, 71, 92, 88⟩) okA.hd S₀.cx nb (by walk_at "gl") (den_isL (px := ⟨92, 81, 92, 87⟩) (x := "octets") (c := co) S₀.cx (by walk_at "lk") (by walk_at "own") (by decide +kernel) hIo) hIo.alive
    rw [List.length_map] at src
    generalize hos : octsTo numbers numbers.length = os at *
    refine ex_compU (fun i => .int (markedAt turn os i)) [("turn", .int turn)] ["turn"] okA.hd FE S₀ (by walk_at "sub") (by decide +kernel) rfl (by decide +kernel) src (by omega) (by show env.scope.names.lookup _ = _; rw [FE.sc]; decide +kernel) (by walk_at "sto") (fun i h₃ cenv hi k CE C => ?el) ?sw ?k
    case el =>
      have hg : (os.map AV.int).getD i AV.none = .int (os.getD i 0) := by simp [List.getD, hi]
      rw [hg] at C
      refine den_ifexp (c := (turn + i) % 3 != 0) (by walk_at "T") any_down (fun e => ?_) (fun e => ?_)
      · have : markedAt turn os i = os.getD i 0 := by unfold markedAt; rw [if_pos e]
        rw [this]; walk_at "E"
      · have : markedAt turn os i = os.getD i 0 + 128 := by unfold markedAt; rw [if_neg (by rw [e]; decide)]
        rw [this]; walk_at "E"
    case sw => exact (swapsS_env (env' := envS (sc 15)) FE.sc _ _ _).trans (by kernel_rfl)
    case k =>
      intro cm H' h₄ t₄ kH hIm S₄
      refine ex_return (T := isN (.ints true (tapeOf numbers turn))) ?e fun v h'' t'' k'' hv => ⟨isN_down _ _ _ _ (kH.trans S₄.keep) hv, ⟨h'', t'', rfl, (kH.trans S₄.keep).trans k''⟩⟩
      case e =>
        have e : (tapeOf numbers turn).map AV.int = ((List.range os.length).map fun i => AV.int (markedAt turn os i)) ++ (List.replicate (turn % 2).toNat [AV.int 65]).flatten := by
          unfold tapeOf marked
          rw [hos, List.map_append, List.map_map, List.map_flatten, List.map_replicate]
          rfl
        show DenG _ _ _ _ _ (isN (.list true ((tapeOf numbers turn).map AV.int)))
        rw [e]
        refine den_catL (p := true) (q := true) (fun s' E' hk => (den_name (prog := prog) (w := w) S₄.cx (x := "octets") (a := .ref cm) (by walk_at "lk") (by walk_at "own") (by decide +kernel)).wp hk fun v h₁ t₁ k₁ hv => ⟨⟨cm, hv, hIm.up ((S₄.keep.trans hk).trans k₁)⟩, ⟨h₁, t₁, rfl, k₁⟩⟩) (den_mulL (p := true) (den_list (oks_more (by walk_at "E") oks_none rfl) (by decide)).old (by walk_at "E") (by omega) (by omega) (by decide)).old ?_
        have hr : (List.replicate (turn % 2).toNat [AV.int 65]).flatten.length = (turn % 2).toNat := by simp
        rw [hr, List.length_map, List.length_range]; omega
end

section
variable {prog : Program} {w : World} {A : Around} {mg mb : Str → Option Value} {B H h h' base : Heap} {env : Env} {outer : List Env} {ρ : Vars} {μ : Led} {σ s : Shared} {t : Nat} {v : Value} {E : Value → Shared → Prop} {e e1 e2 l r elt iter : Expr} {x y z : Str} {rest : List Stmt} {Q : Flow → Shared → Prop} {pos px py pz pn cp tp spos : Pos} {cs fs scope : Scope}

/-- everything but the frame's own names, frozen -/
theorem St.freeze (S : St mg mb B H env ρ μ h) : ∃ H', Keep H H' ∧ St mg mb B H' env ρ [] h ∧ (∀ a m, Is h a m → Is H' a m) ∧ ∀ a o, h.get? a = some o → a ∉ own env [] → H'.get? a = some o := by
  have S₀ : St mg mb B H env ρ [] h := St.drop (μ := μ) (by rw [List.append_nil]; exact S)
  obtain ⟨H', k, S', kr⟩ := S₀.rebase
  refine ⟨H', k, S', fun a m hI => hI.at fun o e => kr a o e fun q => ?_, kr⟩
  rcases List.mem_cons.mp q with q | q
  · exact S₀.ne_ns hI q
  · simp only [List.map_nil, List.append_nil] at q; exact S₀.ne_cell hI q

theorem canLay_ints : ∀ ns : List Int, PyData.canLayAll0 (ns.map PyData.int) = true
  | [] => rfl
  | a :: r => by simp [PyData.canLayAll0, PyData.canLay0, canLay_ints r]
theorem depth_ints : ∀ ns : List Int, PyData.depthAll (ns.map PyData.int) = 0
  | [] => rfl
  | _ :: r => by simp [PyData.depthAll, PyData.depth, depth_ints r]
theorem shape_ints (ns : List Int) : SeqAt.shaped (.list (ns.map PyData.int)) = true := by
  simp [SeqAt.shaped, PyData.canLay0, PyData.depth, canLay_ints, depth_ints]
theorem noMix_int1 : ∀ ns : List Int, SeqAt.noMixAll (ns.map PyData.int) (ns.map PyData.int) = true
  | [] => by simp [SeqAt.noMixAll]
  | _ :: r => by simp [SeqAt.noMixAll, SeqAt.noMix, noMix_int1 r]
theorem carried_ints : ∀ {vs : List Value} {ns : List Int}, Oks vs (ns.map .int) → CarriedAll vs (ns.map PyData.int)
  | [], [], _ => .nil
  | v :: vs, n :: ns, .cons h t => by obtain ⟨t', rfl⟩ := h; exact .cons (.int _ _) (carried_ints t)
/-- xs != xs, of two lists of ints that are alike -/
theorem den_compareIs {p q : Bool} {ns : List Int} (hu : A.units + 64 < cLine) (u v : Value) (h' : Heap) (hu' : isO (.ints p ns) u h') (hv : isO (.ints q ns) v h') : Den prog w A h' (compareOp .NotEq u v) (isB false) := by
  obtain ⟨a, rfl, hI⟩ := hu'; obtain ⟨b, rfl, hJ⟩ := hv
  refine Den.of fun s Q E kk k => ?_
  obtain ⟨vs, hL, hO⟩ := hI.up kk
  obtain ⟨us, hL', hO'⟩ := hJ.up kk
  exact ne_dataH_same (reads_newData hL.1 (carried_ints hO)) (reads_newData hL'.1 (carried_ints hO')) (shape_ints _) (shape_ints _) hu (by simp only [SeqAt.noMix]; exact noMix_int1 ns) (by rw [PySem.Spec.same_self]; exact k _ s.toks (isB_mk _ _))
theorem canLay_strs : ∀ ns : List Str, (∀ x ∈ ns, PyData.strOk x = true) → PyData.canLayAll0 (ns.map PyData.str) = true
  | [], _ => rfl
  | a :: r, h => by simp [PyData.canLayAll0, PyData.canLay0, canLay_strs r fun x hx => h x (.tail _ hx), h a (.head _)]
theorem depth_strs : ∀ ns : List Str, PyData.depthAll (ns.map PyData.str) = 0
  | [] => rfl
  | _ :: r => by simp [PyData.depthAll, PyData.depth, depth_strs r]
theorem shaped_strs (ns : List Str) (h : ∀ x ∈ ns, PyData.strOk x = true) : SeqAt.shaped (.list (ns.map PyData.str)) = true := by
  simp [SeqAt.shaped, PyData.canLay0, PyData.depth, canLay_strs ns h, depth_strs]
theorem same_strs : ∀ ns ms : List Str, PySem.Spec.sameAll (ns.map PyData.str) (ms.map PyData.str) = decide (ns = ms)
  | [], [] => by simp [PySem.Spec.sameAll]
  | [], _ :: _ => by simp [PySem.Spec.sameAll]
  | _ :: _, [] => by simp [PySem.Spec.sameAll]
  | a :: r, b :: t => by
    simp only [List.map_cons, PySem.Spec.sameAll, PySem.Spec.same, same_strs r t]
    by_cases h : a = b <;> by_cases h' : r = t <;> simp [h, h']
theorem noMix_strs : ∀ ns ms : List Str, SeqAt.noMixAll (ns.map PyData.str) (ms.map PyData.str) = true
  | [], [] => by simp [SeqAt.noMixAll]
  | [], _ :: _ => by simp [SeqAt.noMixAll]
  | _ :: _, [] => by simp [SeqAt.noMixAll]
  | _ :: r, _ :: q => by simp [SeqAt.noMixAll, SeqAt.noMix, noMix_strs r q]
theorem carried_strs : ∀ {vs : List Value} {ns : List Str}, Oks vs (ns.map .str) → CarriedAll vs (ns.map PyData.str)
  | [], [], _ => .nil
  | v :: vs, n :: ns, .cons h t => by obtain ⟨t', rfl⟩ := h; exact .cons (.str _ _) (carried_strs t)
theorem den_compareSs {p q : Bool} {ns : List Str} (hu : A.units + 64 < cLine) (hok : ∀ x ∈ ns, PyData.strOk x = true) (u v : Value) (h' : Heap) (hu' : isO (.strs p ns) u h') (hv : isO (.strs q ns) v h') : Den prog w A h' (compareOp .NotEq u v) (isB false) := by
  obtain ⟨a, rfl, hI⟩ := hu'; obtain ⟨b, rfl, hJ⟩ := hv
  refine Den.of fun s Q E kk k => ?_
  obtain ⟨vs, hL, hO⟩ := hI.up kk
  obtain ⟨us, hL', hO'⟩ := hJ.up kk
  exact ne_dataH_same (reads_newData hL.1 (carried_strs hO)) (reads_newData hL'.1 (carried_strs hO')) (shaped_strs _ hok) (shaped_strs _ hok) hu (by simp only [SeqAt.noMix]; exact noMix_strs ns ns) (by simp only [PySem.Spec.same]; rw [same_strs, decide_eq_true rfl]; exact k _ s.toks (isB_mk _ _))
theorem test_neSs {p q : Bool} {ns : List Str} {whole : Sem Value} (hu : A.units + 64 < cLine) (hok : ∀ x ∈ ns, PyData.strOk x = true) (hl : Den prog w A h (eval l env) (isO (.strs p ns))) (hr : Den prog w A h (eval r env) (isO (.strs q ns)))
    (hm : behindInMarks .NotEq r = false := by with_unfolding_all rfl) : Den prog w A h (isTrue (.Compare l [.NotEq] [r] pos) env whole) (isT false) :=
  den_test_cmp hl (fun _ k => hr.up k) isO_up (fun u v h' _ hu' hv => den_compareSs hu hok u v h' hu' hv) hm
/-- c != d of two bools -/
theorem test_neB {a b c : Bool} {whole : Sem Value} (hl : Den prog w A h (eval l env) (isB a)) (hr : Den prog w A h (eval r env) (isB b)) (hc : c = (a != b))
    (hm : behindInMarks .NotEq r = false := by with_unfolding_all rfl) : Den prog w A h (isTrue (.Compare l [.NotEq] [r] pos) env whole) (isT c) :=
  den_test_cmp hl (fun _ k => hr.up k) is_up (fun u v h' _ hu hv => by
    have e1 : u = .bool a := hu
    have e2 : v = .bool b := hv
    subst e1 e2
    exact Den.of fun s Q E kk k => ne_bool (k _ s.toks (hc ▸ isB_mk _ _))) hm
/-- k in xs -/
theorem test_in {p : Bool} {ns : List Int} {k : Int} {c : Bool} {whole : Sem Value} (hl : Den prog w A h (eval l env) (isI k)) (hr : Den prog w A h (eval r env) (isO (.ints p ns))) (hc : c = ns.any (· == k))
    (hm : behindInMarks .In r = false := by with_unfolding_all rfl) : Den prog w A h (isTrue (.Compare l [.In] [r] pos) env whole) (isT c) :=
  den_test_cmp hl (fun _ k => hr.up k) is_up (fun u v h' _ hu hv => by
    obtain ⟨t, rfl⟩ := hu; obtain ⟨b, rfl, hJ⟩ := hv
    refine Den.of fun s Q E kk q => ?_
    obtain ⟨us, hL', hO'⟩ := hJ.up kk
    exact in_list_ints hL'.1 (Oks.toInts hO') (q _ s.toks (hc ▸ isB_mk _ _))) hm
theorem test_notin {p : Bool} {ns : List Int} {k : Int} {c : Bool} {whole : Sem Value} (hl : Den prog w A h (eval l env) (isI k)) (hr : Den prog w A h (eval r env) (isO (.ints p ns))) (hc : c = !(ns.any (· == k)))
    (hm : behindInMarks .NotIn r = false := by with_unfolding_all rfl) : Den prog w A h (isTrue (.Compare l [.NotIn] [r] pos) env whole) (isT c) :=
  den_test_cmp hl (fun _ k => hr.up k) is_up (fun u v h' _ hu hv => by
    obtain ⟨t, rfl⟩ := hu; obtain ⟨b, rfl, hJ⟩ := hv
    refine Den.of fun s Q E kk q => ?_
    obtain ⟨us, hL', hO'⟩ := hJ.up kk
    exact notin_list_ints hL'.1 (Oks.toInts hO') (q _ s.toks (hc ▸ isB_mk _ _))) hm
/-- len(d) of a table -/
theorem b_lenT {D : List (PyData × PyData)} (C : Cx mg mb B env ρ h) (nb : NoB mg) (g1 : env.kindOf (Str.ofString "len") = some .globalImplicit) (d : Den prog w A h (eval e env) (isTab prog w D)) (hsz : D.length < 2 ^ 60)
    (he : starEach [e] env = [(false, eval e env)] := by rfl) : Den prog w A h (eval (.Call (.Name (Str.ofString "len") px) [e] [] pos) env) (isI D.length) :=
  den_b1 (den_bi C nb (by decide) bi_len g1) d isTab_up any_down (fun v h' k hv => by
    obtain ⟨c, rfl, hI⟩ := hv
    exact Den.of fun s Q E kk q => len_tab (hI.keep kk) (by omega) (q _ _ (isI_mk _ _ _))) he
/-- a name that holds a table -/
theorem den_tab {d : Addr} {D : List (PyData × PyData)} (C : Cx mg mb B env ρ h) (hl : Lk ρ x (.ref d)) (ho : ownVar env x = true) (hd : (x == ("__debug__" : Str)) = false) (T : StrTab prog w h d D) : Den prog w A h (eval (.Name x px) env) (isTab prog w D) :=
  fun s E hk => (den_name C hl ho hd).wp hk fun v h₁ t₁ k₁ hv => ⟨⟨d, hv, T.keep (hk.trans k₁)⟩, ⟨h₁, t₁, rfl, k₁⟩⟩
/-- a name that holds an object -/
theorem den_obj {c : Addr} {m : MO} (C : Cx mg mb B env ρ h) (hl : Lk ρ x (.ref c)) (ho : ownVar env x = true) (hd : (x == ("__debug__" : Str)) = false) (hI : Is h c m) : Den prog w A h (eval (.Name x px) env) (isO m) :=
  fun s E hk => (den_name C hl ho hd).wp hk fun v h₁ t₁ k₁ hv => ⟨⟨c, hv, hI.up (hk.trans k₁)⟩, ⟨h₁, t₁, rfl, k₁⟩⟩
/-- x, y = call -/
theorem ex_unpack {c₀ : List Int} {n : Int} {p : Bool} {kt : Nat} (hA : A.handled = none) (S : St mg mb B H env ρ [] h)
    (d : DenG prog w A h (eval e env) (fun h₀ v h' => ∃ a c, v = .ref a ∧ h₀.get? a = none ∧ h₀.get? c = none ∧ Is h' a (.tup [.ref c, .int n]) ∧ Is h' c (.ints p c₀)))
    (hx : ownStore env x = true) (hy : ownStore env y = true)
    (k : ∀ c H' h' t', Keep H H' → Is H' c (.ints p c₀) → St mg mb B H' env ((y, .int n) :: (x, .ref c) :: ρ) [] h' → wpAny (model prog w) A (execs rest env) Q E (Sm σ h' t'))
    (hs : swapsWithSole [.Tuple [.Name x px, .Name y py] kt tp] e pos.line env = pure false)
    (hw : swappedStores [.Tuple [.Name x px, .Name y py] kt tp] e env = pure none) :
    wpAny (model prog w) A (execs (.Assign [.Tuple [.Name x px, .Name y py] kt tp] e pos :: rest) env) Q E (Sm σ h t) := by
  refine wpAny_execs_cons (Assign_Tuple ?_ hs hw)
  refine d.wp (s := Sm σ h t) Keep.rfl fun v h₁ t₁ k₁ hv => ?_
  obtain ⟨a, c, rfl, _, hcn, hT, hI⟩ := hv
  obtain ⟨vs, hTu, hO⟩ := hT
  have hlen : vs.length = 2 := hO.length
  have S₁ := S.up k₁
  refine wpAny_assign_Tuple hA hTu (by rw [List.size_toArray, hlen]; rfl) rfl fun h₂ k₃ => ?_
  have k₄ : Keep h₁ h₂ := fun b o e => k₃ b o (Nat.ne_of_lt (Heap.lt_size e)) e
  obtain ⟨H₁, kH, S₂, kI, _⟩ := (S₁.up k₄).freeze
  show wpAny _ _ (assignInOrder _ vs.toArray.toList) _ _ (Sm σ h₂ t₁)
  refine st_stores (σ := σ) [x, y] _ _ [.ref c, .int n] ρ h₂ t₁ ?_ (by simpa using hO) rfl rfl ?_ S₂ fun h₃ t₃ S₃ _ => k c H₁ h₃ t₃ kH (kI c _ (hI.up k₄)) S₃
  · intro z hz
    simp only [List.mem_cons, List.not_mem_nil, or_false] at hz
    rcases hz with rfl | rfl
    · exact hx
    · exact hy
  · intro j tr z v s Q h1 h2 h3
    match j, h1, h2 with
    | 0, h1, h2 =>
      have e1 : assign (.Name x px) env = tr := Option.some.inj h1
      have e2 : x = z := Option.some.inj h2
      subst e1 e2; exact wpAny_assign_Name h3
    | 1, h1, h2 =>
      have e1 : assign (.Name y py) env = tr := Option.some.inj h1
      have e2 : y = z := Option.some.inj h2
      subst e1 e2; exact wpAny_assign_Name h3
    | j + 2, h1, h2 => simp at h2
end

/-- a table filled from keys and words, one by one -/
def tabOf (kf vf : Nat → Str) : Nat → List (PyData × PyData)
  | 0 => []
  | n + 1 => PyProof.V.putD (.str (kf n)) (.str (vf n)) (tabOf kf vf n)
section
variable {prog : Program} {w : World} {A : Around} {mg mb : Str → Option Value} {B H h h' base : Heap} {env : Env} {outer : List Env} {ρ : Vars} {μ : Led} {σ s : Shared} {t : Nat} {v : Value} {E : Value → Shared → Prop} {e e1 e2 kx vx elt iter : Expr} {x y z : Str} {rest : List Stmt} {Q : Flow → Shared → Prop} {pos px py pz pn cp tp spos : Pos} {cs fs scope : Scope}

theorem loop_dict {target : Expr} {it : Value} {D : Addr} {R : Result → Shared → Prop} (I : Nat → Shared → Prop)
    (turn : ∀ n s, I n s → wpAny (model prog w) A (pyNext it) (fun r s₁ => match r with
      | none => R (.ok .next) s₁
      | some v => wpAny (model prog w) A (letOwnedTupleGo target it v) (fun _ s₀ => wpAny (model prog w) A (assign target env v) (fun _ s₂ =>
          wpAny (model prog w) A (eval kx env) (fun kv s₄ => wpAny (model prog w) A (eval vx env) (fun vv s₅ =>
              wpAny (model prog w) A (dictSet D kv vv) (fun _ s₆ => ∃ m, m < n ∧ I m s₆) (notedBy (model prog w) A env fun e s' => R (.error e) s') s₅) (notedBy (model prog w) A env fun e s' => R (.error e) s') s₄) (notedBy (model prog w) A env fun e s' => R (.error e) s') s₂)
          (notedBy (model prog w) A env fun e s' => R (.error e) s') s₀) (notedBy (model prog w) A env fun e s' => R (.error e) s') s₁) (notedBy (model prog w) A env fun e s' => R (.error e) s') s)
    (n : Nat) (h : I n s) : codeAny (model prog w) A (.compLoop (.DictComp kx vx [⟨target, iter, [], 0⟩] scope pos) 0 it (.ref D) env) R s := by
  refine codeAny_loop rfl I (fun n s hI => ?_) n h
  show wpAny _ A ((compTurn (.DictComp kx vx [⟨target, iter, [], 0⟩] scope pos) 0 it (.ref D) env).onRaise (fun x => do noteFrame x env; theTreesLotGoes x)) _ _ s
  refine wpAny_noted ?_
  rw [compTurn_dict]
  refine wpAny_bind (wpAny_standAt (wpAny_bind (wpAny_mono (turn n s hI) (fun r s₁ h₁ => ?_) fun _ _ h' => h')))
  cases r with
  | none => exact wpAny_pure h₁
  | some v =>
    refine wpAny_bind (wpAny_mono h₁ (fun _ s₀ h₀' => ?_) fun _ _ h' => h')
    refine wpAny_bind (wpAny_mono h₀' (fun _ s₂ h₂ => ?_) fun _ _ h' => h')
    refine wpAny_bind (wpAny_tests_nil ?_)
    exact wpAny_bind (wpAny_bind (wpAny_mono h₂ (fun kv s₄ h₄ => wpAny_bind (wpAny_holding (wpAny_mono h₄ (fun vv s₅ h₅ => wpAny_bind (wpAny_standAt (wpAny_holding (wpAny_mono h₅ (fun _ s₆ h₆ => wpAny_pure ⟨rfl, h₆⟩) fun _ _ h' => h')))) fun _ _ h' => h'))) fun _ _ h' => h'))

theorem comp_dict {cl : List (Str × Addr)} {s₂ : Shared} {I : Addr} {fp wr : List Addr} {n : Nat} {Pt : Nat → Array Value → Prop} {Stt : Nat → Heap → Prop} {Mid : Nat → Addr → Heap → Prop} {kt : Nat} (W : WalksU prog w A I fp wr n Pt Stt Mid) (hPt : ∀ i vals, Pt i vals → ∃ v1 v2, vals = #[v1, v2]) (hA : A.handled = none) (hsz : n ≤ sizeLine) (kf vf : Nat → Str) {RR : Value → Addr → Result → Shared → Prop}
    (hcell : ∀ q ∈ scope.names, q.2 ≠ .cell) (hkind : scope.kind = .function) (hx : scope.names.lookup x = some .local) (hy : scope.names.lookup y = some .local) (hxy : x ≠ y) (hst : Stt 0 s₂.heap) (hfp : ∀ b ∈ fp, b < s₂.heap.objs.size)
    (hkey : ∀ C i v1 v2 s₃ m₃ E', s₂.heap.objs.size ≤ C → i < n → Pt i #[v1, v2] → s₃.heap.Ns C m₃ → m₃ x = some v1 → m₃ y = some v2 → (∀ b o, b ∉ wr → s₂.heap.get? b = some o → s₃.heap.get? b = some o) →
      wpAny (model prog w) A (eval kx (compEnvC scope cl C env)) (fun z s₄ => isS (kf i) z s₄.heap ∧ Keeps s₃ s₄) E' s₃)
    (hval : ∀ C i v1 v2 s₃ m₃ E', s₂.heap.objs.size ≤ C → i < n → Pt i #[v1, v2] → s₃.heap.Ns C m₃ → m₃ x = some v1 → m₃ y = some v2 → (∀ b o, b ∉ wr → s₂.heap.get? b = some o → s₃.heap.get? b = some o) →
      wpAny (model prog w) A (eval vx (compEnvC scope cl C env)) (fun z s₄ => isS (vf i) z s₄.heap ∧ Keeps s₃ s₄) E' s₃)
    (hRR : ∀ D C h' tk m' kvs, s₂.heap.get? D = none → s₂.heap.objs.size ≤ D → s₂.heap.get? C = none → D ≠ C → h'.Ns C m' → h'.DictOf (strKind prog w) D kvs → PyProof.V.FlatPairs PyData.str kvs (tabOf kf vf n) →
      (∀ b o, b ∉ wr → s₂.heap.get? b = some o → h'.get? b = some o) → RR (.ref D) C (.ok .next) { s₂ with heap := h', toks := tk }) :
    wpAny (model prog w) A newDict (fun acc s₃ => wpAny (model prog w) A (newFunctionEnv scope env.globals cl [] env.qual none .none (some env)) (fun cenv s₄ =>
      codeAny (model prog w) A (.compStart (.DictComp kx vx [⟨.Tuple [.Name x px, .Name y py] kt tp, iter, [], 0⟩] scope pos) 0 (.ref I) acc { cenv with scope := relabel scope env }) (RR acc cenv.locals) s₄) E s₃) E s₂ := by
  refine wpAny_newObj_type (wpAny_newFunctionEnv hcell (by intro y hy; simp at hy) (fun h₁ hns₁ hsb₁ => ?_) hkind)
  dsimp only at hns₁ hsb₁ ⊢
  have hnew : (s₂.heap.push { cls := .type "dict", dict := none, data := .dict #[] }).DictOf (strKind prog w) s₂.heap.objs.size [] := Heap.DictOf.new s₂.heap
  generalize hH2 : s₂.heap.push { cls := .type "dict", dict := none, data := .dict #[] } = H2 at hns₁ hsb₁ hnew ⊢
  have hC : H2.objs.size = s₂.heap.objs.size + 1 := by rw [← hH2, Heap.size_push]
  generalize hDd : s₂.heap.objs.size = D at *
  generalize hCd : H2.objs.size = C at *
  have hDC : D ≠ C := by rw [hC]; exact Nat.ne_of_lt (Nat.lt_succ_self _)
  have hDf : D ∉ fp := fun hm => Nat.lt_irrefl _ (hfp _ hm)
  have hCf : C ∉ fp := fun hm => by have := hfp _ hm; rw [hC] at this; exact Nat.lt_irrefl _ (Nat.lt_of_succ_lt this)
  have hDn : s₂.heap.get? D = none := Heap.get?_none_of_le (Nat.le_of_eq hDd)
  have hCn : s₂.heap.get? C = none := Heap.get?_none_of_le (by rw [hDd, hC]; exact Nat.le_succ _)
  have ne : ∀ b o, s₂.heap.get? b = some o → b ≠ C ∧ b ≠ D := fun b o e => ⟨fun q => (by rw [q, hCn] at e; cases e), fun q => (by rw [q, hDn] at e; cases e)⟩
  have old : ∀ b o, s₂.heap.get? b = some o → h₁.get? b = some o := fun b o e => hsb₁.extBut b o (ne b o e).1 (Heap.get?_push_of_some _ (hH2 ▸ Heap.get?_push_of_some _ e))
  have hacc : h₁.DictOf (strKind prog w) D [] := hnew.at fun o e => hsb₁.extBut _ _ hDC (Heap.get?_push_of_some _ e)
  have hst₁ : Stt 0 h₁ := W.frame _ _ _ hst fun b _ o e => old b o e
  have hp : ((compEnvC scope cl C env).scope.kind == .class || ((compEnvC scope cl C env).scope.kind == .module && (compEnvC scope cl C env).locals != (compEnvC scope cl C env).globals)) = false := by simp [compEnvC, relabel, hkind]
  have loop : ∀ s₃ : Shared, s₃ = { s₂ with heap := h₁, toks := s₂.toks + ([] : List (Str × Value)).length } →
      codeAny (model prog w) A (.compLoop (.DictComp kx vx [⟨.Tuple [.Name x px, .Name y py] kt tp, iter, [], 0⟩] scope pos) 0 (.ref I) (.ref D) (compEnvC scope cl C env)) (RR (.ref D) C) s₃ := by
    rintro s₃ rfl
    refine loop_dict
      (fun k s' => ∃ h' tk m' i kvs, s' = { s₂ with heap := h', toks := tk } ∧ Stt i h' ∧ h'.DictOf (strKind prog w) D kvs ∧ h'.Ns C m' ∧ PyProof.V.FlatPairs PyData.str kvs (tabOf kf vf i) ∧ kvs.length ≤ i ∧ i ≤ n ∧ k = n + 1 - i ∧ ∀ b o, b ∉ wr → s₂.heap.get? b = some o → h'.get? b = some o) ?_ (n + 1)
      ⟨h₁, _, _, 0, [], rfl, hst₁, hacc, hns₁, .nil, Nat.le_refl _, Nat.zero_le _, rfl, fun b o _ e => old b o e⟩
    rintro k s' ⟨h', tk, m', i, kvs, rfl, hst', hpl, hn', hF, hkl, hle, rfl, hk⟩
    have hCw : C ∉ wr := fun q => hCf (W.sub _ q)
    have hDw : D ∉ wr := fun q => hDf (W.sub _ q)
    by_cases hlt : i < n
    · refine W.item i _ _ _ hlt hst' fun T vals h₂ tk₂ hv hT hm hk₂ => ?_
      obtain ⟨v1, v2, rfl⟩ := hPt _ _ hv
      refine W.go _ _ _ i T { s₂ with heap := h₂, toks := tk₂ } _ _ hm fun h₃ hst₃ hk₃ => ?_
      have hT₃ : h₃.IsTuple T #[v1, v2] := by
        obtain ⟨o, ho, r⟩ := hT
        exact ⟨o, hk₃ _ _ (W.apart _ _ _ hm) ho, r⟩
      have hn₃ : h₃.Ns C m' := (hn'.at' fun o e => hk₂ _ o hCw e).at' fun o e => hk₃ _ o hCw e
      have hpl₃ : h₃.DictOf (strKind prog w) D kvs := (hpl.at fun o e => hk₂ _ o hDw e).at fun o e => hk₃ _ o hDw e
      refine store_pair (s := { s₂ with heap := h₃, toks := tk₂ }) hA rfl (lookup_relabel_local hx) (lookup_relabel_local hy) hxy hp hT₃ hn₃ fun h₄ tk₄ m₄ hn₄ hm1 hm2 hk₄ => ?_
      replace hk₄ : ∀ b o, b ≠ C → h₃.get? b = some o → h₄.get? b = some o := hk₄
      have hpl₄ : h₄.DictOf (strKind prog w) D kvs := hpl₃.at fun o e => hk₄ _ o hDC e
      have hst₄ : Stt (i + 1) h₄ := W.frame _ _ _ hst₃ fun b hb o e => hk₄ b o (fun q => hCf (q ▸ hb)) e
      have up : ∀ b o, b ∉ wr → s₂.heap.get? b = some o → h₄.get? b = some o := fun b o hb e => hk₄ b o (ne b o e).1 (hk₃ b o hb (hk₂ b o hb (hk b o hb e)))
      have hCle : D ≤ C := by rw [hC]; exact Nat.le_succ _
      refine wpAny_mono (hkey C i v1 v2 { s₂ with heap := h₄, toks := tk₄ } m₄ _ hCle hlt hv hn₄ hm1 hm2 up) (fun kv s₅ y₅ => ?_) fun _ _ e => e
      obtain ⟨⟨tkk, rfl⟩, h₅, tk₅, rfl, hk₅⟩ := y₅
      replace hk₅ : Keep h₄ h₅ := hk₅
      refine wpAny_mono (hval C i v1 v2 { s₂ with heap := h₅, toks := tk₅ } m₄ _ hCle hlt hv (hn₄.keeps hk₅) hm1 hm2 fun b o hb e => hk₅ b o (up b o hb e)) (fun vv s₆ y₆ => ?_) fun _ _ e => e
      obtain ⟨⟨tvv, rfl⟩, h₆, tk₆, rfl, hk₆⟩ := y₆
      replace hk₆ : Keep h₅ h₆ := hk₆
      refine wpAny_dictSet_pairs (s := { s₂ with heap := h₆, toks := tk₆ }) (hsz := by omega) (strKind_is prog w (kf i) tkk) (hpl₄.at fun o e => hk₆ _ o (hk₅ _ o e)) fun h₇ hd₇ hs₇ => ?_
      replace hs₇ : Heap.SameBut D h₆ h₇ := hs₇
      refine ⟨n + 1 - (i + 1), by omega, h₇, _, m₄, i + 1, _, rfl, ?_, hd₇, ((hn₄.keeps hk₅).keeps hk₆).at' fun o e => hs₇.extBut _ o (Ne.symm hDC) e, PyProof.V.FlatPairs.stored PyProof.V.same_str hF _ (PyProof.V.Flat.str _ _), ?_, hlt, rfl, fun b o hb e => hs₇.extBut b o (ne b o e).2 (hk₆ b o (hk₅ b o (up b o hb e)))⟩
      · exact W.frame _ _ _ hst₄ fun b hb o e => hs₇.extBut b o (fun q => hDf (q ▸ hb)) (hk₆ b o (hk₅ b o e))
      · have := stored_length_le kvs (kf i) (Value.str (vf i) tvv)
        omega
    · have hi : i = n := by omega
      subst hi
      refine W.done _ _ _ hst' fun h₂ tk₂ hk₂ => ?_
      exact hRR D C h₂ tk₂ m' kvs hDn (Nat.le_refl _) hCn hDC (hn'.at' fun o e => hk₂ _ o hCw e) (hpl.at fun o e => hk₂ _ o hDw e) hF fun b o hb e => hk₂ b o hb (hk b o hb e)
  exact codeAny_compStart_dict (loop _ rfl) (W.self 0 _ _ _ hst₁ (loop _ rfl))

/-- z = {kx: vx for x, y in pairs}, z a plain name -/
theorem ex_dictU {n : Nat} {a b : Nat → AV} {kt : Nat} (kf vf : Nat → Str) (ρ' : Vars) (xs : List Str) (hA : A.handled = none)
    (FE : FEnv fs env) (S : St mg mb B H env ρ [] h) (hsub : Sub ρ' ρ) (hok : compOk cs fs [x, y] xs = true) (hxs : ρ'.map (·.1) = xs) (hxy : x ≠ y) (src : SrcU prog w A h h (eval iter env) n a b) (hn : n ≤ 100000)
    (hzs : ownStore env z = true)
    (keys : ∀ i h' cenv, i < n → Keep h h' → CEnv cs fs cenv → Cx mg mb B cenv ((y, b i) :: (x, a i) :: ρ') h' → Den prog w A h' (eval kx cenv) (isS (kf i)))
    (vals : ∀ i h' cenv, i < n → Keep h h' → CEnv cs fs cenv → Cx mg mb B cenv ((y, b i) :: (x, a i) :: ρ') h' → Den prog w A h' (eval vx cenv) (isS (vf i)))
    (hsw : swapsWith (.DictComp kx vx [⟨.Tuple [.Name x px, .Name y py] kt tp, iter, [], 0⟩] cs pos) (some (.Name z pz)) spos.line env = pure true)
    (k : ∀ d H' h' t', Keep H H' → StrTab prog w H' d (tabOf kf vf n) → St mg mb B H' env ((z, .ref d) :: ρ) [] h' → wpAny (model prog w) A (execs rest env) Q E (Sm σ h' t'))
    (hs : ∀ x, foldedSetIterable iter env x = pure x := by intro _; rfl) :
    wpAny (model prog w) A (execs (.Assign [.Name z pz] (.DictComp kx vx [⟨.Tuple [.Name x px, .Name y py] kt tp, iter, [], 0⟩] cs pos) spos :: rest) env) Q E (Sm σ h t) := by
  obtain ⟨q1, q2, q3, q4⟩ := compOk_parts hok
  refine wpAny_execs_cons ?_
  rw [exec_Assign_Name_used _ _ _ _ hsw]
  refine wpAny_bind (wpAny_standAt (wpAny_bind ?_))
  show wpAny _ A (do let _ ← comprehension (.DictComp kx vx [⟨.Tuple [.Name x px, .Name y py] kt tp, iter, [], 0⟩] cs pos) cs env _ newDict false (eval iter env) (some (assign (.Name z pz) env))) _ _ _
  refine wpAny_bind (wpAny_mono (wpAny_comprehension_free (use := some (assign (.Name z pz) env)) (Q := fun _ s' => match Flow.next with | .next => wpAny (model prog w) A (execs rest env) Q E s' | f => Q f s') rfl hs (comp_closure FE hok) q2 q3
    (wpAny_mono (src (Sm σ h t) E Keep.rfl) (fun xv s₁ h₁ => wpAny_mono h₁ (fun it s₂ h₂ => ?_) fun _ _ e => e) fun _ _ e => e)) (fun _ s' hq => wpAny_pure (wpAny_pure hq)) fun _ _ e => e)
  obtain ⟨⟨⟨I, fp, wr, Stt, Mid, rfl, W, hst, hlive, hwr, hfp⟩⟩, h₂', t₂, rfl, k₂⟩ := h₂
  replace k₂ : Keep h h₂' := k₂
  have hwr' : ∀ b ∈ wr, h.get? b = none := hwr
  have turn : ∀ {el : Expr} {f : Nat → Str}, (∀ i h' cenv, i < n → Keep h h' → CEnv cs fs cenv → Cx mg mb B cenv ((y, b i) :: (x, a i) :: ρ') h' → Den prog w A h' (eval el cenv) (isS (f i))) →
      ∀ C i v1 v2 s₃ m₃ E', h₂'.objs.size ≤ C → i < n → (∃ u1 u2, #[v1, v2] = #[u1, u2] ∧ (a i).ok u1 ∧ (b i).ok u2) → s₃.heap.Ns C m₃ → m₃ x = some v1 → m₃ y = some v2 → (∀ b o, b ∉ wr → h₂'.get? b = some o → s₃.heap.get? b = some o) →
      wpAny (model prog w) A (eval el (compEnvC cs (clOf cs.names env) C env)) (fun z s₄ => isS (f i) z s₄.heap ∧ Keeps s₃ s₄) E' s₃ := by
    intro el f elts C i v1 v2 s₃ m₃ E' hC hi hv hns h1 h2 kk
    obtain ⟨u1, u2, e, hu1, hu2⟩ := hv
    have e1 : v1 = u1 := by have := congrArg (fun q => q[0]?) e; simpa using this
    have e2 : v2 = u2 := by have := congrArg (fun q => q[1]?) e; simpa using this
    subst e1 e2
    have up : Keep h s₃.heap := fun b o e => kk b o (fun q => by have := hwr' b q; rw [e] at this; cases this) (k₂ b o e)
    obtain ⟨CE, C₃⟩ := comp_cx (cs := cs) FE S.cx up hsub (hxs ▸ hok) (ts := [x, y]) (τ := [(y, b i), (x, a i)]) (by simp) hns (two_lk h1 h2 hu1 hu2)
    exact elts i s₃.heap _ hi up CE C₃ s₃ E' Keep.rfl
  refine comp_dict (s₂ := Sm σ h₂' t₂) (kf := kf) (vf := vf) W (fun i vals ⟨v1, v2, e, _⟩ => ⟨v1, v2, e⟩) hA (Nat.le_trans hn (by decide)) q1 q2 (q4 x (by simp)) (q4 y (by simp)) hxy hst (fun b hb => (by obtain ⟨o, ho⟩ := hlive _ _ hst b hb; exact Heap.lt_size ho)) (turn keys) (turn vals) ?_
  intro D C h₃ tk₃ m₃ kvs hD hDl hC hDC hnC hd hF kk
  have up : Keep h h₃ := fun b o e => kk b o (fun q => by have := hwr' b q; rw [e] at this; cases this) (k₂ b o e)
  have S₃ := S.up up
  have hDh : h.get? D = none := none_down k₂ hD
  have hCh : h.get? C = none := none_down k₂ hC
  have hCo : C ∉ own env [] := fun q => by obtain ⟨o, ho⟩ := S.alive q; rw [hCh] at ho; cases ho
  have hDo : D ∉ own env [] := fun q => by obtain ⟨o, ho⟩ := S.alive q; rw [hDh] at ho; cases ho
  have lo : (D == sysModules) = false := by
    obtain ⟨o, _, _, ho, _⟩ := S.cx.gd.g
    have h3 : mainGlobals < h₂'.objs.size := Heap.lt_size (k₂ _ _ (S.cx.kb _ _ ho))
    have h4 : (3 : Nat) < h₂'.objs.size := h3
    have h5 : h₂'.objs.size ≤ D := hDl
    refine beq_eq_false_iff_ne.mpr fun q => ?_
    subst q
    exact absurd (Nat.lt_of_lt_of_le h4 h5) (by decide)
  show wpAny _ A (assign (.Name z pz) env (.ref D)) _ _ _
  refine wpAny_assign_Name ?_
  refine st_store (σ := σ) (t := tk₃) (a := .ref D) S₃ hzs rfl fun h₄ t₄ S₄ kb => ?_
  have hns₄ : h₄.Ns C m₃ := hnC.at' fun o e => kb C o hCo e
  refine ⟨m₃, hns₄, fun h₅ hs₅ => ?_⟩
  replace hs₅ : Heap.SameBut C h₄ h₅ := hs₅
  have S₅ : St mg mb B H env ((z, .ref D) :: ρ) [] h₅ := S₄.move fun b o hb e => hs₅.extBut b o (fun q => by
    rcases hb with hb | ⟨o', hb⟩
    · exact hCo (q ▸ hb)
    · have := S.keep _ _ hb; rw [q, hCh] at this; cases this) e
  obtain ⟨H', kHH, S'', kr⟩ := S₅.rebase
  have hd₅ : h₅.DictOf (strKind prog w) D kvs := (hd.at fun o e => kb D o hDo e).at fun o e => hs₅.extBut D o hDC e
  exact k D H' h₅ t₄ kHH ⟨lo, kvs, hd₅.at fun o e => kr D o e hDo, hF⟩ S''
end

section
variable {prog : Program} {w : World} {A : Around} {mg mb : Str → Option Value} {B H h h' base : Heap} {env : Env} {outer : List Env} {ρ : Vars} {μ : Led} {σ s : Shared} {t : Nat} {v : Value} {E : Value → Shared → Prop} {e e1 e2 kx vx elt iter : Expr} {x y z : Str} {rest : List Stmt} {Q : Flow → Shared → Prop} {pos px py pz pn cp tp spos : Pos} {cs fs scope : Scope}

/-- over the keys of a table -/
theorem src_tab {d : Addr} {D : List (PyData × PyData)} {n : Nat} (keys : Nat → Str) (hA : A.handled = none) (C : Cx mg mb B env ρ h) (hl : Lk ρ x (.ref d)) (ho : ownVar env x = true) (hd : (x == ("__debug__" : Str)) = false) (T : StrTab prog w H d D) (kH : Keep H h)
    (hn : D.length = n) (hk : ∀ i, i < n → ∃ dv, D[i]? = some (.str (keys i), dv)) : Src prog w A H h (eval (.Name x px) env) n (fun i => .str (keys i)) := by
  intro s E hks
  refine (den_name C hl ho hd).wp hks fun v h₁ t₁ k₁ hv => ?_
  cases hv
  have T₁ := T.keep ((kH.trans hks).trans k₁)
  obtain ⟨o₀, ho₀⟩ := T.old
  obtain ⟨lo, kvs, hdo, hf⟩ := id T₁
  obtain ⟨ep, hat⟩ := hdo.dictAt
  refine wpAny_pyIter_dict (s := Sm s h₁ t₁) lo hat ?_
  have hne : d ≠ h₁.objs.size := Nat.ne_of_lt hat.lt_size
  have hlen : kvs.length = n := by rw [← hf.length, hn]
  subst hlen
  have W := Walks.dictKeys (prog := prog) (w := w) (A := A) (knd := strKind prog w) hA h₁.objs.size d hne kvs ep
  refine ⟨It.mk ⟨h₁.objs.size, _, _, _, rfl, walks_mono W (P' := fun i v => (AV.str (keys i)).ok v) fun i v hi hv => ?_, ⟨⟨_, Heap.get?_push_size _ rfl, rfl, rfl⟩, hat.push _⟩, fun i h st b hb => ?_, fun b hb => ?_, fun b hb => ?_⟩, ⟨_, t₁, rfl, fun b o e => Heap.get?_push_of_some _ (k₁ b o e)⟩⟩
  · obtain ⟨k, xv, hx, hkey⟩ := hv
    obtain ⟨dv, hD, _⟩ := hf.at hx
    obtain ⟨t, rfl⟩ := Value.isStrOf_shape hkey
    obtain ⟨dv', hD'⟩ := hk i hi
    rw [hD] at hD'
    have e : k = keys i := by
      have := congrArg Prod.fst (Option.some.inj hD')
      simpa using this
    subst e
    exact ⟨t, rfl⟩
  · rcases List.mem_cons.mp hb with rfl | hb
    · obtain ⟨o, ho, _⟩ := st.1; exact ⟨o, ho⟩
    · rw [List.mem_singleton.mp hb]; obtain ⟨o, _, ho, _⟩ := st.2; exact ⟨o, ho⟩
  · rw [List.mem_singleton.mp hb]; exact none_down k₁ (Heap.get?_none_of_le (Nat.le_refl _))
  · rcases List.mem_cons.mp hb with rfl | hb
    · exact .inl (none_down k₁ (Heap.get?_none_of_le (Nat.le_refl _)))
    · rw [List.mem_singleton.mp hb]; exact .inr ⟨o₀, ho₀⟩

/-- a call of a function that catches, from a frame with none below it -/
theorem csp_at {n : Nat} {name : Str} {T : List (Value → Heap → Prop)} {U : Heap → Value → Heap → Prop} {f : Addr} {L : Addr} {mL : Str → Option Value} {vs : List Value}
    (hc : ∀ A (s : Shared) vs base outer E, OkA n A → Keep B s.heap → Keep B base → Fd A base outer s.heap → ArgsT T vs s.heap → ArgsT T vs base →
      wpAny (model prog w) A (call (.ref f) vs) (fun v s' => ∃ h' t', s' = Sm s h' t' ∧ U base v h' ∧ base.StaysIn h' ∧ s.heap.UpToSlots h') E s)
    (ok : OkA n A) (hfr : A.frames = some [env]) (hf : env.frame = some L) (hk : env.scope.kind = .function) (hn : s.heap.Ns L mL) (kb : Keep B s.heap) (hB : B.get? L = none) (hT : ArgsT T vs s.heap) (hTb : ArgsT T vs (hideAll s.heap [L]))
    {Q : Value → Shared → Prop}
    (k : ∀ v h' t', U (hideAll s.heap [L]) v h' → (∀ b o, b ≠ L → s.heap.get? b = some o → h'.get? b = some o) → s.heap.UpToSlots h' → Q v (Sm s h' t')) : wpAny (model prog w) A (call (.ref f) vs) Q E s := by
  have kbb : Keep B (hideAll s.heap [L]) := fun b o q => hideAll_get _ (kb b o q) fun hm => by rw [List.mem_singleton.mp hm, hB] at q; cases q
  have FD : Fd A (hideAll s.heap [L]) [env] s.heap := by
    obtain ⟨o, es, ep, ho, hd, _⟩ := hn
    exact ⟨hfr, fun b o q => of_hideAll _ q, by rw [hk]; decide, ⟨L, o, hf, hideAll_none _ (.head _), ho, fun vs q => by rw [hd] at q; cases q⟩, trivial⟩
  exact wpAny_mono (hc A s vs _ _ E ok kb kbb FD hT hTb) (fun v s' y => by
    obtain ⟨h', t', rfl, hu, hst, hup⟩ := y
    exact k v h' t' hu (fun b o hb q => hst b o (hideAll_get _ q (by simpa using hb))) hup) fun _ _ e => e

/-- a comprehension whose element may write the marks of one frame -/
theorem comp_slots {cl : List (Str × Addr)} {s₂ : Shared} {I : Addr} {fp wr : List Addr} {n : Nat} {P : Nat → Value → Prop} {Stt : Nat → Heap → Prop} (W : Walks prog w A I fp wr n P Stt) (hsz : n ≤ sizeLine) (F : Nat → Value → Prop) {RR : Value → Addr → Result → Shared → Prop}
    {L : Addr} {mL : Str → Option Value} (hLf : L ∉ fp) (hL : s₂.heap.Ns L mL)
    (hcell : ∀ q ∈ scope.names, q.2 ≠ .cell) (hkind : scope.kind = .function) (hx : scope.names.lookup x = some .local) (hst : Stt 0 s₂.heap) (hfp : ∀ b ∈ fp, b < s₂.heap.objs.size)
    (helt : ∀ C i v s₃ m₃ E', s₂.heap.objs.size ≤ C → i < n → P i v → s₃.heap.Ns C m₃ → m₃ x = some v → s₃.heap.Ns L mL → (∀ b o, b ∉ wr → b ≠ L → s₂.heap.get? b = some o → s₃.heap.get? b = some o) →
      wpAny (model prog w) A (eval elt (compEnvC scope cl C env)) (fun z s₄ => F i z ∧ ∃ h' t', s₄ = Sm s₃ h' t' ∧ h'.Ns L mL ∧ ∀ b o, b ≠ L → s₃.heap.get? b = some o → h'.get? b = some o) E' s₃)
    (hRR : ∀ D C h' tk m' (ys : List Value), s₂.heap.get? D = none → s₂.heap.get? C = none → D ≠ C → h'.Ns C m' → h'.IsList D ys.toArray → h'.PlainList D ys.toArray → ys.length = n → (∀ (j : Nat) z, ys[j]? = some z → F j z) → h'.Ns L mL →
      (∀ b o, b ∉ wr → b ≠ L → s₂.heap.get? b = some o → h'.get? b = some o) → RR (.ref D) C (.ok .next) { s₂ with heap := h', toks := tk }) :
    wpAny (model prog w) A (newList []) (fun acc s₃ => wpAny (model prog w) A (newFunctionEnv scope env.globals cl [] env.qual none .none (some env)) (fun cenv s₄ =>
      codeAny (model prog w) A (.compStart (.ListComp elt [⟨.Name x px, iter, [], 0⟩] scope pos) 0 (.ref I) acc { cenv with scope := relabel scope env }) (RR acc cenv.locals) s₄) E s₃) E s₂ := by
  refine wpAny_newObj_type (wpAny_newFunctionEnv hcell (by intro y hy; simp at hy) (fun h₁ hns₁ hsb₁ => ?_) hkind)
  dsimp only at hns₁ hsb₁ ⊢
  generalize hH2 : s₂.heap.push { cls := .type "list", dict := none, data := .seq ([] : List Value).toArray } = H2 at hns₁ hsb₁ ⊢
  have hC : H2.objs.size = s₂.heap.objs.size + 1 := by rw [← hH2, Heap.size_push]
  have hLlt : L < s₂.heap.objs.size := hL.lt
  generalize hDd : s₂.heap.objs.size = D at *
  generalize hCd : H2.objs.size = C at *
  have hDC : D ≠ C := by rw [hC]; exact Nat.ne_of_lt (Nat.lt_succ_self _)
  have hDL : D ≠ L := Nat.ne_of_gt hLlt
  have hCL : C ≠ L := by rw [hC]; exact Nat.ne_of_gt (Nat.lt_succ_of_lt hLlt)
  have hDf : D ∉ fp := fun hm => Nat.lt_irrefl _ (hfp _ hm)
  have hCf : C ∉ fp := fun hm => by have := hfp _ hm; rw [hC] at this; exact Nat.lt_irrefl _ (Nat.lt_of_succ_lt this)
  have hDn : s₂.heap.get? D = none := Heap.get?_none_of_le (Nat.le_of_eq hDd)
  have hCn : s₂.heap.get? C = none := Heap.get?_none_of_le (by rw [hDd, hC]; exact Nat.le_succ _)
  have ne : ∀ b o, s₂.heap.get? b = some o → b ≠ C ∧ b ≠ D := fun b o e => ⟨fun q => (by rw [q, hCn] at e; cases e), fun q => (by rw [q, hDn] at e; cases e)⟩
  have old : ∀ b o, s₂.heap.get? b = some o → h₁.get? b = some o := fun b o e => hsb₁.extBut b o (ne b o e).1 (Heap.get?_push_of_some _ (hH2 ▸ Heap.get?_push_of_some _ e))
  have hacc : h₁.PlainList D ([] : List Value).toArray := ⟨_, hsb₁.extBut _ _ hDC (Heap.get?_push_of_some _ (by rw [← hH2, ← hDd]; exact Heap.get?_push_size _ rfl))⟩
  have hst₁ : Stt 0 h₁ := W.frame _ _ _ hst fun b _ o e => old b o e
  have hp : ((compEnvC scope cl C env).scope.kind == .class || ((compEnvC scope cl C env).scope.kind == .module && (compEnvC scope cl C env).locals != (compEnvC scope cl C env).globals)) = false := by simp [compEnvC, relabel, hkind]
  have hLw : L ∉ wr := fun q => hLf (W.sub _ q)
  have loop : ∀ s₃ : Shared, s₃ = { s₂ with heap := h₁, toks := s₂.toks + ([] : List (Str × Value)).length } →
      codeAny (model prog w) A (.compLoop (.ListComp elt [⟨.Name x px, iter, [], 0⟩] scope pos) 0 (.ref I) (.ref D) (compEnvC scope cl C env)) (RR (.ref D) C) s₃ := by
    rintro s₃ rfl
    refine codeAny_compLoop_list
      (fun k s' => ∃ h' tk m', ∃ ys : List Value, s' = { s₂ with heap := h', toks := tk } ∧ Stt ys.length h' ∧ h'.PlainList D ys.toArray ∧ h'.Ns C m' ∧ h'.Ns L mL ∧ (∀ (j : Nat) z, ys[j]? = some z → F j z) ∧ ys.length ≤ n ∧ k = n + 1 - ys.length ∧ ∀ b o, b ∉ wr → b ≠ L → s₂.heap.get? b = some o → h'.get? b = some o) ?_ (n + 1)
      ⟨h₁, _, _, [], rfl, hst₁, hacc, hns₁, hL.keeps old, by intro j z h; simp at h, Nat.zero_le _, rfl, fun b o _ _ e => old b o e⟩
    rintro k s' ⟨h', tk, m', ys, rfl, hst', hpl, hn', hL', hF, hle, rfl, hk⟩
    have hCw : C ∉ wr := fun q => hCf (W.sub _ q)
    have hDw : D ∉ wr := fun q => hDf (W.sub _ q)
    by_cases hlt : ys.length < n
    · refine W.item ys.length _ _ _ hlt hst' fun v h₂ tk₂ hv hst₂ hk₂ => ?_
      have hn₂ : h₂.Ns C m' := hn'.at' fun o e => hk₂ _ o hCw e
      have hpl₂ : h₂.PlainList D ys.toArray := hpl.at fun o e => hk₂ _ o hDw e
      refine wpAny_assign_Name (wpAny_storeName_local (env := compEnvC scope cl C env) (s := { s₂ with heap := h₂, toks := tk₂ }) (lookup_relabel_local hx) hn₂ (fun h₄ hn₄ hs₄ => ?_) hp)
      replace hs₄ : Heap.SameBut C h₂ h₄ := hs₄
      replace hn₄ : h₄.Ns C _ := hn₄
      have hpl₄ : h₄.PlainList D ys.toArray := hpl₂.at fun o e => hs₄.extBut _ o hDC e
      have hst₄ : Stt (ys.length + 1) h₄ := W.frame _ _ _ hst₂ fun b hb o e => hs₄.extBut b o (fun q => hCf (q ▸ hb)) e
      have hL₄ : h₄.Ns L mL := (hL'.at' fun o e => hk₂ _ o hLw e).at' fun o e => hs₄.extBut _ o (Ne.symm hCL) e
      have up : ∀ b o, b ∉ wr → b ≠ L → s₂.heap.get? b = some o → h₄.get? b = some o := fun b o hb hbL e => hs₄.extBut b o (ne b o e).1 (hk₂ b o hb (hk b o hb hbL e))
      refine wpAny_mono (helt C ys.length v { s₂ with heap := h₄, toks := _ } _ _ (by rw [hC]; exact Nat.le_succ _) hlt hv hn₄ (by simp) hL₄ up) (fun zv s₅ y₅ => ?_) fun _ _ e => e
      obtain ⟨hz, h₅, tk₅, rfl, hL₅, hk₅⟩ := y₅
      replace hk₅ : ∀ b o, b ≠ L → h₄.get? b = some o → h₅.get? b = some o := hk₅
      refine wpAny_list_append_plain (s := { s₂ with heap := h₅, toks := tk₅ }) (hpl₄.at fun o e => hk₅ _ o hDL e) (fun h₆ hp₆ hs₆ => ?_) (by rw [List.size_toArray]; omega)
      replace hs₆ : Heap.SameBut D h₅ h₆ := hs₆
      have e1 : (ys ++ [zv]).toArray = ys.toArray.push zv := by simp
      refine ⟨n + 1 - (ys.length + 1), by omega, h₆, tk₅, _, ys ++ [zv], rfl, ?_, e1 ▸ hp₆, (hn₄.at' fun o e => hk₅ _ o hCL e).at' fun o e => hs₆.extBut _ o (Ne.symm hDC) e, hL₅.at' fun o e => hs₆.extBut _ o (Ne.symm hDL) e, ?_, by simp; omega, by simp, fun b o hb hbL e => hs₆.extBut b o (ne b o e).2 (hk₅ b o hbL (up b o hb hbL e))⟩
      · rw [List.length_append, List.length_singleton]
        exact W.frame _ _ _ hst₄ fun b hb o e => hs₆.extBut b o (fun q => hDf (q ▸ hb)) (hk₅ b o (fun q => hLf (q ▸ hb)) e)
      · intro j u hj
        rcases Nat.lt_trichotomy j ys.length with q | q | q
        · exact hF j u (by rwa [List.getElem?_append_left q] at hj)
        · subst q; simp at hj; subst hj; exact hz
        · rw [List.getElem?_eq_none (by simp; omega)] at hj; cases hj
    · have hi : ys.length = n := by omega
      refine W.done _ _ _ (hi ▸ hst') fun h₂ tk₂ hk₂ => ?_
      have hp₂ := hpl.at fun o e => hk₂ _ o hDw e
      exact hRR D C h₂ tk₂ m' ys hDn hCn hDC (hn'.at' fun o e => hk₂ _ o hCw e) hp₂.isList hp₂ hi hF (hL'.at' fun o e => hk₂ _ o hLw e) fun b o hb hbL e => hk₂ b o hb (hk b o hb hbL e)
  exact codeAny_compStart_list (loop _ rfl) (W.self 0 _ _ _ hst₁ (loop _ rfl))
end

/-! ## law, first part: numbers, turn, home, plan, controls, number -/
def turnOf (ns : List Int) : Int := ns.sum % 48
def homeOf (ns : List Int) : Int := turnOf ns % 16
def turnedOf (ns : List Int) : List Int := (ns.take 5).map fun x => x / 16 % 16
def planL (ns : List Int) : List Int := planOf (homeOf ns) (turnedOf ns)
def wkOf (ns : List Int) : WS := walkN (planL ns) (homeOf ns) 32
def csOf (ns : List Int) : List Int := (wkOf ns).controls
def numOf (ns : List Int) : Int := (wkOf ns).number
theorem home_ok (ns : List Int) : 0 ≤ homeOf ns ∧ homeOf ns < 16 := by unfold homeOf; omega
theorem turned_ok (ns : List Int) : ∀ x ∈ turnedOf ns, 0 ≤ x ∧ x < 16 := fun x hx => by
  obtain ⟨y, _, rfl⟩ := List.mem_map.mp hx
  omega
theorem turned_len (ns : List Int) : (turnedOf ns).length ≤ 1000 := by
  unfold turnedOf; rw [List.length_map, List.length_take]; omega
theorem range_getD {α : Type} (l : List α) (d : α) : (List.range l.length).map (fun i => l.getD i d) = l := by
  apply List.ext_getElem
  · simp
  · intro i h1 h2; simp [List.getD, h2]
theorem getD_map_int (l : List Int) (k : Nat) (hk : k < l.length) : (l.map AV.int).getD k AV.none = .int (l.getD k 0) := by simp [List.getD, hk]
theorem getD_map_str (l : List Str) (k : Nat) (d : Str) (hk : k < l.length) : (l.map AV.str).getD k AV.none = .str (l.getD k d) := by simp [List.getD, hk]
theorem plan_ok (ns : List Int) : IsPlan (planL ns) := planOf_plan _ _

theorem swapsWS_env {env env' : Env} (h : env.scope = env'.scope) (ts : List Expr) (v : Expr) (l : Nat) : swapsWithSole ts v l env = swapsWithSole ts v l env' := by
  unfold swapsWithSole
  split <;> first | rfl | exact swapsS_env h _ _ _
section
variable {prog : Program} {w : World} {A : Around} {mg mb : Str → Option Value} {B H h base : Heap} {env : Env} {outer : List Env} {ρ : Vars} {σ s : Shared} {t : Nat} {px pos : Pos} {Q : Flow → Shared → Prop} {E : Value → Shared → Prop}
theorem seg1 {c : Addr} {ns₀ ns : List Int} {p : Bool} (hns : ns = ns₀.take 60) (W : Wd mg mb B) (FE : FEnv (sc 19) env) (okA : OkA 8 A) (S : St mg mb B H env ([(Str.ofString "script", AV.ref c)] : Vars) [] h) (hI : Is H c (.ints p ns₀)) (hlen : ns₀.length ≤ 1000)
    (k : ∀ cn cp cc H' h' t', Keep H H' → Is H' cn (.ints true ns) → Is H' cp (.ints false (planL ns)) → Is H' cc (.ints true (csOf ns)) → St mg mb B H' env ([(Str.ofString "number", AV.int (numOf ns)), (Str.ofString "controls", AV.ref cc), (Str.ofString "plan", AV.ref cp), (Str.ofString "home", AV.int (homeOf ns)), (Str.ofString "turn", AV.int (turnOf ns)), (Str.ofString "numbers", AV.ref cn)] : Vars) [] h' → wpAny (model prog w) A (execs ((boOf (stm 19)).drop 5) env) Q E (Sm σ h' t')) :
    wpAny (model prog w) A (execs (boOf (stm 19)) env) Q E (Sm σ h t) := by
  have nb := W.nb
  have hnl : ns.length ≤ 60 := by rw [hns, List.length_take]; omega
  refine ex_assignF S (m := .ints true ns) ?n0 (by walk_at "sto") fun cn H₁ h₁ t₁ k₁ hN S₁ => ?_
  case n0 =>
    have e : ns.map AV.int = (ns₀.map AV.int).take 60 := by rw [hns, List.map_take]
    show Den _ _ _ _ _ (isO (.list true (ns.map AV.int)))
    rw [e]
    exact (den_slice (k := 60) (p := p) (den_obj S.cx (c := c) (by walk_at "lk") (by walk_at "own") (by decide +kernel) (hI.up S.keep)) (by exact den_int) (by rw [List.length_map]; omega)).old
  refine ex_assign S₁ (a := .int (turnOf ns)) (den_modp (b_sum (p := true) okA.hd S₁.cx nb (by walk_at "gl") (den_obj S₁.cx (c := cn) (by walk_at "lk") (by walk_at "own") (by decide +kernel) (hN.up S₁.keep))) (by walk_at "E") (by decide)) (by walk_at "sto") fun h₂ t₂ S₂ => ?_
  refine ex_assign S₂ (a := .int (homeOf ns)) (by unfold homeOf; walk_at "E") (by walk_at "sto") fun h₃ t₃ S₃ => ?_
  refine ex_assignF S₃ (m := .ints false (planL ns)) ?n3 (by walk_at "sto") fun cp H₄ h₄ t₄ k₄ hP S₄ => ?_
  case n3 =>
    refine DenG.old (den_sp S₃.cx (f_plan W (homeOf ns) (turnedOf ns) true (home_ok ns) (turned_ok ns) (turned_len ns)) (OkA.le okA (by decide)) isN_down (by walk_at "gl") (by decide +kernel) (argsT_more (by walk_at "E") (argsT_more (DenG.old ?_) argsT_none isO_up rfl) is_up rfl))
    have e : (turnedOf ns).map AV.int = ((((List.range (ns.take 5).length).map fun i => AV.int ((ns.take 5).getD i 0)).filter fun _ => true).map (fun a => match a with | .int z => .int (z / 16 % 16) | a => a)) := by
      rw [comp_ints (g := fun z => z / 16 % 16) (fun _ => rfl), List.filter_eq_self.mpr (fun _ _ => rfl)]
      rw [range_getD]; rfl
    show DenG _ _ _ _ _ (isN (.list true ((turnedOf ns).map AV.int)))
    rw [e]
    have src : Src prog w A H₁ h₃ (eval (.Subscript (.Name "numbers" ⟨124, 50, 124, 57⟩) (.Slice none (some (.Constant (.int 5) 0 ⟨124, 59, 124, 60⟩)) none ⟨124, 58, 124, 60⟩) ⟨124, 50, 124, 61⟩) env) (ns.take 5).length (fun i => .int ((ns.take 5).getD i 0)) := by
      have s1 := src_new (H := H₁) (m := .tup []) (p := true) (A := A) okA.hd (den_slice (prog := prog) (w := w) (A := A) (k := 5) (pos := ⟨124, 50, 124, 61⟩) (sp := ⟨124, 58, 124, 60⟩) (p := true) (xs := ns.map AV.int) (den_obj (px := ⟨124, 50, 124, 57⟩) (x := "numbers") S₃.cx (c := cn) (by walk_at "lk") (by walk_at "own") (by decide +kernel) (hN.up S₃.keep)) (by exact den_int (k := 0) (pos := ⟨124, 59, 124, 60⟩)) (by rw [List.length_map]; omega))
      refine src_mono (src_congr s1 (by simp) (fun k => rfl)) fun k hk => ?_
      have e2 : (ns.map AV.int).take 5 = (ns.take 5).map AV.int := by rw [List.map_take]
      show ((ns.map AV.int).take 5).getD k AV.none = _
      rw [e2]; exact getD_map_int _ _ hk
    refine den_comp (fun _ => true) _ [] [] FE S₃.cx Sub.nil (by decide +kernel) rfl src (by rw [List.length_take]; omega) (fun i h' cenv hi k CE C => ifs_none) (fun i h' cenv hi _ k CE C => ?_)
    show Den _ _ _ _ _ (is (.int ((ns.take 5).getD i 0 / 16 % 16)))
    walk_at "E"
  refine ex_unpack (c₀ := csOf ns) (n := numOf ns) (p := true) okA.hd S₄ ?n4 (by walk_at "sto") (by walk_at "sto") ?k4 ((swapsWS_env (env' := envS (sc 19)) FE.sc _ _ _).trans (by kernel_rfl)) (FE.swap (by kernel_rfl))
  case n4 =>
    exact den_sp S₄.cx (f_walk W (homeOf ns) (planL ns) false (home_ok ns) (plan_ok ns)) (OkA.le okA (by decide)) (fun a a' v b k ⟨x, y, h1, h2, h3, h4, h5⟩ => ⟨x, y, h1, none_down k h2, none_down k h3, h4, h5⟩) (by walk_at "gl") (by decide +kernel) (argsT_more (by walk_at "E") (argsT_more (den_obj S₄.cx (c := cp) (by walk_at "lk") (by walk_at "own") (by decide +kernel) (hP.up S₄.keep)) argsT_none isO_up rfl) is_up rfl)
  case k4 =>
    intro cc H₅ h₅ t₅ k₅ hC S₅
    exact k cn cp cc H₅ h₅ t₅ ((k₁.trans k₄).trans k₅) (hN.up (k₄.trans k₅)) (hP.up k₅) hC (S₅.sub (by walk_at "sub"))
end

/-! ## law, second part: size, words, book -/
def bookL (cs : List Int) : List (PyData × PyData) := (List.range cs.length).map fun i => (PyData.str (shown (cs.getD i 0)), PyData.str (wordN i))
section
variable {prog : Program} {w : World} {A : Around} {mg mb : Str → Option Value} {B H h base : Heap} {env : Env} {outer : List Env} {ρ : Vars} {σ s : Shared} {t : Nat} {px pos : Pos} {Q : Flow → Shared → Prop} {E : Value → Shared → Prop}
theorem seg2 {cn cp cc : Addr} {ns : List Int} (W : Wd mg mb B) (FE : FEnv (sc 19) env) (okA : OkA 8 A) (S : St mg mb B H env ([(Str.ofString "number", AV.int (numOf ns)), (Str.ofString "controls", AV.ref cc), (Str.ofString "plan", AV.ref cp), (Str.ofString "home", AV.int (homeOf ns)), (Str.ofString "turn", AV.int (turnOf ns)), (Str.ofString "numbers", AV.ref cn)] : Vars) [] h) (hC : Is H cc (.ints true (csOf ns)))
    (h32 : (csOf ns).length ≤ 32) (hcs : ∀ z ∈ csOf ns, 0 ≤ z ∧ z < 32) (hbk : tabOf (fun i => shown ((csOf ns).getD i 0)) wordN (csOf ns).length = bookL (csOf ns)) (hnum : numOf ns % 16 = homeOf ns)
    (k : ∀ cw cb H' h' t', Keep H H' → Is H' cw (.strs true wordsL) → StrTab prog w H' cb (bookL (csOf ns)) → St mg mb B H' env ([(Str.ofString "book", AV.ref cb), (Str.ofString "words", AV.ref cw), (Str.ofString "size", AV.int ((csOf ns).length : Int)), (Str.ofString "number", AV.int (numOf ns)), (Str.ofString "controls", AV.ref cc), (Str.ofString "plan", AV.ref cp), (Str.ofString "home", AV.int (homeOf ns)), (Str.ofString "turn", AV.int (turnOf ns)), (Str.ofString "numbers", AV.ref cn)] : Vars) [] h' → wpAny (model prog w) A (execs ((boOf (stm 19)).drop 8) env) Q E (Sm σ h' t')) :
    wpAny (model prog w) A (execs ((boOf (stm 19)).drop 5) env) Q E (Sm σ h t) := by
  have nb := W.nb
  refine ex_assignT (xs := ["size", "words"]) (ss := [.val (.int ((csOf ns).length : Int)), .new (.strs true wordsL)]) okA.hd S
    (sl_val ?len (sl_new (den_sp0 S.cx (f_words W) (OkA.le okA (by decide)) isN_down (by walk_at "gl") (by decide +kernel)) sl_none rfl) rfl)
    (by intro x hx; simp only [List.mem_cons, List.not_mem_nil, or_false] at hx; rcases hx with rfl | rfl <;> walk_at "sto") rfl rfl rfl ?tr ?k (by decide) (hw := FE.swap (by kernel_rfl))
  case tr =>
    intro i tr x v s Q h1 h2 hq
    match i, h1, h2 with
    | 0, h1, h2 => cases h1; cases h2; exact wpAny_assign_Name hq
    | 1, h1, h2 => cases h1; cases h2; exact wpAny_assign_Name hq
  case len =>
    have := b_len (prog := prog) (w := w) (A := A) (px := ⟨126, 19, 126, 22⟩) (pos := ⟨126, 19, 126, 32⟩) (e := .Name "controls" ⟨126, 23, 126, 31⟩) (p := true) (xs := (csOf ns).map AV.int) S.cx nb (by walk_at "gl") (den_obj S.cx (c := cc) (by walk_at "lk") (by walk_at "own") (by decide +kernel) (hC.up S.keep)) (by rw [List.length_map]; omega)
    rw [List.length_map] at this
    exact this
  case k =>
    intro as μ' h₂ t₂ hs S₂
    cases hs with | val hs => cases hs with | new hs => cases hs with | nil =>
    rename_i cw
    simp only [addV, List.nil_append, List.cons_append] at S₂
    have hW₂ : Is h₂ cw (.strs true wordsL) := S₂.l1
    obtain ⟨H₁, k₁, S₃, kI, _⟩ := S₂.freeze
    have hW := kI _ _ hW₂
    have hC₁ := hC.up k₁
    have hmin : min ((csOf ns).map AV.int).length (wordsL.map AV.str).length = (csOf ns).length := by
      rw [List.length_map, List.length_map]; simp only [wordsL, List.length_map, List.length_range]; omega
    have src := src_zip (H := h₂) (prog := prog) (w := w) (px := ⟨127, 55, 127, 58⟩) (pos := ⟨127, 55, 127, 75⟩) okA.hd S₃.cx nb (by walk_at "gl") (den_isL (px := ⟨127, 59, 127, 67⟩) (x := "controls") (c := cc) S₃.cx (by walk_at "lk") (by walk_at "own") (by decide +kernel) (hC₁.up S₃.keep)) (den_isL (px := ⟨127, 69, 127, 74⟩) (x := "words") (c := cw) S₃.cx (by walk_at "lk") (by walk_at "own") (by decide +kernel) hW₂) (hC₁.up S₃.keep).alive hW₂.alive
    rw [hmin] at src
    refine ex_dictU (fun i => shown ((csOf ns).getD i 0)) wordN [] [] okA.hd FE S₃ Sub.nil (by decide +kernel) rfl (by decide +kernel) src (by omega) (by walk_at "sto") (fun i h' cenv hi k CE C => ?ckey) (fun i h' cenv hi k CE C => ?cval) ((swapsS_env (env' := envS (sc 19)) FE.sc _ _ _).trans (by kernel_rfl)) fun cb H₄ h₄ t₄ k₄ T S₄ => ?_
    case ckey =>
      have hi' : i < (csOf ns).length := hi
      have hz := hcs ((csOf ns).getD i 0) (by simp [List.getD, hi'])
      rw [getD_map_int _ _ hi'] at C
      exact den_sp C (f_unctrl W _ hz.1 hz.2) (OkA.le okA (by decide)) any_down (by walk_at "gl") (by decide +kernel) (by walk_at "A")
    case cval =>
      have hi' : i < wordsL.length := by simp only [wordsL, List.length_map, List.length_range]; omega
      have e : wordsL.getD i "" = wordN i := by
        have : i < 32 := by omega
        simp [wordsL, List.getD, this]
      rw [getD_map_str _ _ "" hi', e] at C
      walk_at "E"
    rw [hbk] at T
    refine ex_if (c := false) S₄ ?t (fun e => by cases e) (fun _ h₅ t₅ S₅ => ?_)
    case t =>
      rw [show false = (false || false) from rfl]
      refine test_or ?_ (fun _ => ?_)
      · have hl := b_lenT (prog := prog) (w := w) (A := A) (px := ⟨128, 7, 128, 10⟩) (pos := ⟨128, 7, 128, 16⟩) S₄.cx nb (by walk_at "gl") (den_tab (px := ⟨128, 11, 128, 15⟩) (x := "book") S₄.cx (by walk_at "lk") (by walk_at "own") (by decide +kernel) (T.keep S₄.keep)) (by simp only [bookL, List.length_map, List.length_range]; omega)
        refine test_cmpI hl (by walk_at "E") ?_
        show some _ = some _
        simp [bookL]
      · refine test_cmpI (by walk_at "E") (by walk_at "E") ?_
        show some _ = some _
        simp [hnum]
    refine ex_nil ?_
    exact k cw cb H₄ h₅ t₅ (k₁.trans k₄) (hW.up k₄) T (S₅.sub (by walk_at "sub"))
end

/-! ## Walks on sixteen places -/
theorem nd_len {l : List Int} : ∀ {l' : List Int}, l.Nodup → (∀ x ∈ l, x ∈ l') → l.length ≤ l'.length := by
  induction l with
  | nil => intro l' _ _; simp
  | cons a l ih =>
    intro l' n s
    have ha := s a (.head _)
    have n' := List.nodup_cons.mp n
    have := ih (l' := l'.erase a) n'.2 (fun x hx => (List.mem_erase_of_ne (by rintro rfl; exact n'.1 hx)).mpr (s x (.tail _ hx)))
    rw [List.length_erase_of_mem ha] at this
    have hp := List.length_pos_of_mem ha
    simp only [List.length_cons]; omega

def usedL (plan : List Int) (l e : Int) : Prop := l = 2 ∨ (l = 1 ∧ e % 2 = 1 - plan.getD (e / 2).toNat 0)
structure Eul (plan : List Int) (L : Int → Int) (es : List Int) : Prop where
  nd : es.Nodup
  rg : ∀ e ∈ es, 0 ≤ e ∧ e < 32
  l2 : ∀ v, 0 ≤ v → v < 16 → 0 ≤ L v ∧ L v ≤ 2
  mem : ∀ e, 0 ≤ e → e < 32 → (e ∈ es ↔ usedL plan (L (e / 2)) e)
theorem Eul.congr {plan : List Int} {L L' : Int → Int} {es : List Int} (E : Eul plan L es) (h : ∀ v, 0 ≤ v → v < 16 → L v = L' v) : Eul plan L' es :=
  ⟨E.nd, E.rg, fun v a b => h v a b ▸ E.l2 v a b, fun e a b => by rw [← h (e / 2) (by omega) (by omega)]; exact E.mem e a b⟩
def bump (L : Int → Int) (p : Int) : Int → Int := fun v => if v = p then L v + 1 else L v
theorem wayOf_bit {plan : List Int} (hp : IsPlan plan) (l p : Int) : wayOf plan l p = 0 ∨ wayOf plan l p = 1 := by
  unfold wayOf
  rcases hp.at p.toNat with e | e <;> rw [e] <;> split <;> simp
theorem Eul.step {plan : List Int} {L : Int → Int} {es : List Int} (hp : IsPlan plan) (E : Eul plan L es) {p : Int} (p0 : 0 ≤ p) (p1 : p < 16) (hl : L p < 2) :
    Eul plan (bump L p) (es ++ [2 * p + wayOf plan (L p) p]) := by
  have hw := wayOf_bit hp (L p) p
  have hpl := hp.at p.toNat
  have hL := E.l2 p p0 p1
  have hdiv : (2 * p + wayOf plan (L p) p) / 2 = p := by omega
  have hmod : (2 * p + wayOf plan (L p) p) % 2 = wayOf plan (L p) p := by omega
  have hwd : wayOf plan (L p) p = if L p = 0 then 1 - plan.getD p.toNat 0 else plan.getD p.toNat 0 := rfl
  have hnot : (2 * p + wayOf plan (L p) p) ∉ es := fun h => by
    have := (E.mem _ (by omega) (by omega)).mp h
    rw [hdiv] at this
    rcases this with e | ⟨e, e'⟩
    · omega
    · rw [hmod, hdiv, hwd, e, if_neg (by decide)] at e'
      omega
  refine ⟨?_, fun e he => ?_, fun v v0 v1 => ?_, fun e e0 e1 => ?_⟩
  · refine List.nodup_append.mpr ⟨E.nd, by simp, fun a ha b hb => ?_⟩
    rw [List.mem_singleton.mp hb]
    rintro rfl; exact hnot ha
  · rcases List.mem_append.mp he with he | he
    · exact E.rg e he
    · rw [List.mem_singleton.mp he]; omega
  · have := E.l2 v v0 v1
    unfold bump
    split
    · rename_i q; subst q; omega
    · exact this
  · have hm := E.mem e e0 e1
    rw [List.mem_append, List.mem_singleton, hm]
    by_cases q : e / 2 = p
    · have hb : bump L p (e / 2) = L p + 1 := by unfold bump; rw [if_pos q, q]
      rw [hb, q]
      unfold usedL
      rw [q]
      have he : e = 2 * p + e % 2 := by omega
      have he2 : e % 2 = 0 ∨ e % 2 = 1 := by omega
      have hl01 : L p = 0 ∨ L p = 1 := by omega
      rcases hl01 with h | h
      · rw [h]; rw [h, if_pos rfl] at hwd
        constructor
        · rintro ((e | ⟨e, _⟩) | e)
          · omega
          · omega
          · right; refine ⟨rfl, ?_⟩; omega
        · rintro (e | ⟨_, e⟩)
          · omega
          · right; omega
      · rw [h]; rw [h, if_neg (by decide)] at hwd
        constructor
        · intro _; left; rfl
        · intro _
          by_cases q2 : e % 2 = plan.getD p.toNat 0
          · right; omega
          · left; right; refine ⟨rfl, ?_⟩; omega
    · have hb : bump L p (e / 2) = L (e / 2) := by unfold bump; rw [if_neg q]
      rw [hb]
      constructor
      · rintro (e' | e')
        · exact e'
        · exact absurd (by omega) q
      · exact .inl
theorem Eul.way_mem {plan : List Int} {L : Int → Int} {es : List Int} (hp : IsPlan plan) (E : Eul plan L es) {p l : Int} (p0 : 0 ≤ p) (p1 : p < 16) (l0 : 0 ≤ l) (hl : l < L p) : 2 * p + wayOf plan l p ∈ es := by
  have hw := wayOf_bit hp l p
  have hL := E.l2 p p0 p1
  have hdiv : (2 * p + wayOf plan l p) / 2 = p := by omega
  have hmod : (2 * p + wayOf plan l p) % 2 = wayOf plan l p := by omega
  refine (E.mem _ (by omega) (by omega)).mpr ?_
  unfold usedL
  rw [hdiv, hmod]
  by_cases h : L p = 2
  · exact .inl h
  · refine .inr ⟨by omega, ?_⟩
    unfold wayOf; rw [if_pos (by omega)]

/-- how many come in -/
def inc (es : List Int) (v : Int) : Nat := (es.filter fun e => e % 16 == v).length
theorem inc_snoc (es : List Int) (e v : Int) : inc (es ++ [e]) v = inc es v + if e % 16 = v then 1 else 0 := by
  unfold inc
  rw [List.filter_append, List.length_append]
  by_cases h : e % 16 = v
  · simp [h]
  · simp [h]
theorem inc_mono {es es' : List Int} (n : es.Nodup) (s : ∀ x ∈ es, x ∈ es') (v : Int) : inc es v ≤ inc es' v :=
  nd_len (n.sublist List.filter_sublist) fun x hx => List.mem_filter.mpr ⟨s x (List.mem_filter.mp hx).1, (List.mem_filter.mp hx).2⟩
theorem inc_two {es : List Int} (n : es.Nodup) (r : ∀ e ∈ es, 0 ≤ e ∧ e < 32) (v : Int) : inc es v ≤ 2 := by
  have : inc es v ≤ [v, v + 16].length := nd_len (n.sublist List.filter_sublist) fun x hx => by
    obtain ⟨h1, h2⟩ := List.mem_filter.mp hx
    have := r x h1
    have h3 : x % 16 = v := by simpa using h2
    simp only [List.mem_cons, List.not_mem_nil, or_false]
    omega
  simpa using this
theorem inc_one {es : List Int} (n : es.Nodup) (r : ∀ e ∈ es, 0 ≤ e ∧ e < 32) {k : Int} (k0 : 0 ≤ k) (k1 : k < 32) (hk : k ∉ es) : inc es (k % 16) ≤ 1 := by
  have : inc es (k % 16) ≤ [if k < 16 then k + 16 else k - 16].length := nd_len (n.sublist List.filter_sublist) fun x hx => by
    obtain ⟨h1, h2⟩ := List.mem_filter.mp hx
    have := r x h1
    have h3 : x % 16 = k % 16 := by simpa using h2
    have h4 : x ≠ k := fun q => hk (q ▸ h1)
    rw [List.mem_singleton]
    split <;> omega
  simpa using this
theorem all_in {es : List Int} (n : es.Nodup) (r : ∀ e ∈ es, 0 ≤ e ∧ e < 32) (h : 32 ≤ es.length) (e : Int) (e0 : 0 ≤ e) (e1 : e < 32) : e ∈ es := by
  apply Classical.byContradiction
  intro q
  have := nd_len (l' := (List.range 32).map fun i : Nat => (i : Int)) (List.nodup_cons.mpr ⟨q, n⟩) fun x hx => by
    have : 0 ≤ x ∧ x < 32 := by
      rcases List.mem_cons.mp hx with rfl | hx
      · exact ⟨e0, e1⟩
      · exact r x hx
    exact List.mem_map.mpr ⟨x.toNat, List.mem_range.mpr (by omega), by omega⟩
  simp at this
  omega
theorem le_32 {es : List Int} (n : es.Nodup) (r : ∀ e ∈ es, 0 ≤ e ∧ e < 32) : es.length ≤ 32 := by
  have := nd_len (l' := (List.range 32).map fun i : Nat => (i : Int)) n fun x hx => by
    have := r x hx
    exact List.mem_map.mpr ⟨x.toNat, List.mem_range.mpr (by omega), by omega⟩
  simpa using this
theorem Eul.full {plan : List Int} {L : Int → Int} {es : List Int} (hp : IsPlan plan) (E : Eul plan L es) (h : 32 ≤ es.length) (v : Int) (v0 : 0 ≤ v) (v1 : v < 16) : L v = 2 := by
  have h1 := (E.mem (2 * v) (by omega) (by omega)).mp (all_in E.nd E.rg h _ (by omega) (by omega))
  have h2 := (E.mem (2 * v + 1) (by omega) (by omega)).mp (all_in E.nd E.rg h _ (by omega) (by omega))
  unfold usedL at h1 h2
  rw [show 2 * v / 2 = v by omega, show 2 * v % 2 = 0 by omega] at h1
  rw [show (2 * v + 1) / 2 = v by omega, show (2 * v + 1) % 2 = 1 by omega] at h2
  rcases h1 with h | ⟨_, h⟩
  · exact h
  · rcases h2 with h' | ⟨_, h'⟩
    · exact h'
    · omega

/-! ## The walk -/
def Lw (s : WS) (v : Int) : Int := s.left.getD v.toNat 0
structure WInv (plan : List Int) (home : Int) (s : WS) : Prop where
  eul : Eul plan (Lw s) s.controls
  ll : s.left.length = 16
  c0 : 0 ≤ s.control
  c1 : s.control < 32
  flow : ∀ v, 0 ≤ v → v < 16 → (inc s.controls v : Int) + (if v = home then 1 else 0) = Lw s v + (if s.control % 16 = v then 1 else 0)
  num : s.number % 32 = s.control
  n0 : 0 ≤ s.number
  n1 : s.number < 16 * 2 ^ s.controls.length
  key : ∀ k (hk : k < s.controls.length), s.number / 2 ^ (s.controls.length - 1 - k) % 32 = s.controls[k]
theorem WInv.zero {plan : List Int} {home : Int} (h0 : 0 ≤ home) (h1 : home < 16) : WInv plan home (walkN plan home 0) := by
  have hL : ∀ v, Lw (walkN plan home 0) v = 0 := fun v => by
    show (List.replicate 16 (0 : Int)).getD v.toNat 0 = 0
    rw [List.getD_eq_getElem?_getD, List.getElem?_replicate]
    split <;> rfl
  refine ⟨⟨by simp [walkN], by simp [walkN], fun v _ _ => by rw [hL]; omega, fun e _ _ => ?_⟩, by simp [walkN], h0, by show home < 32; omega, fun v v0 v1 => ?_, by show home % 32 = home; omega, h0, by show home < 16 * 2 ^ 0; omega, fun k hk => by simp [walkN] at hk⟩
  · rw [hL]; simp [walkN, usedL]
  · rw [hL]
    show ((inc [] v : Nat) : Int) + _ = 0 + if home % 16 = v then 1 else 0
    have : home % 16 = home := by omega
    rw [this]
    simp only [inc, List.filter_nil, List.length_nil]
    by_cases q : v = home
    · simp [q]
    · simp [q, Ne.symm q]
theorem set_bump {left : List Int} (hl : left.length = 16) {p : Int} (p0 : 0 ≤ p) (p1 : p < 16) (v : Int) (v0 : 0 ≤ v) (v1 : v < 16) :
    bump (fun v => left.getD v.toNat 0) p v = (left.set p.toNat (left.getD p.toNat 0 + 1)).getD v.toNat 0 := by
  unfold bump
  rw [List.getD_eq_getElem?_getD (l := left.set _ _), List.getElem?_set]
  by_cases q : v = p
  · subst q
    rw [if_pos rfl, if_pos rfl, if_pos (by omega)]; rfl
  · rw [if_neg q, if_neg (by omega)]; rfl
theorem WInv.step {plan : List Int} {home : Int} {s : WS} (hp : IsPlan plan) (I : WInv plan home s) : WInv plan home (wstep plan s) := by
  unfold wstep
  split
  · rename_i hlt
    have p0 : 0 ≤ s.control % 16 := Int.emod_nonneg _ (by decide)
    have p1 : s.control % 16 < 16 := Int.emod_lt_of_pos _ (by decide)
    generalize hq : s.control % 16 = p at *
    have hw := wayOf_bit hp (s.left.getD p.toNat 0) p
    have hE := I.eul.step hp p0 p1 hlt
    have hLp : Lw s p = s.left.getD p.toNat 0 := rfl
    have he : (2 * s.control + wayOf plan (s.left.getD p.toNat 0) p) % 32 = 2 * p + wayOf plan (s.left.getD p.toNat 0) p := by
      have := I.c0; have := I.c1; omega
    have hf := I.flow
    have hn := I.num
    have h0 := I.n0
    have h1 := I.n1
    rw [hLp] at hE
    rw [he]
    generalize wayOf plan (s.left.getD p.toNat 0) p = y at *
    refine ⟨hE.congr fun v v0 v1 => set_bump I.ll p0 p1 v v0 v1, by simp [I.ll], by show 0 ≤ 2 * p + y; omega, by show 2 * p + y < 32; omega, fun v v0 v1 => ?_, ?_, ?_, ?_, fun k hk => ?_⟩
    · have hb := set_bump I.ll p0 p1 v v0 v1
      have hv := hf v v0 v1
      show ((inc (s.controls ++ [2 * p + y]) v : Nat) : Int) + _ = (s.left.set p.toNat (s.left.getD p.toNat 0 + 1)).getD v.toNat 0 + if (2 * p + y) % 16 = v then 1 else 0
      rw [← hb, inc_snoc]
      unfold bump
      unfold Lw at hv
      rw [hq] at hv
      show _ = (if v = p then s.left.getD v.toNat 0 + 1 else s.left.getD v.toNat 0) + _
      generalize s.left.getD v.toNat 0 = lv at hv ⊢
      clear hE hLp he hw hlt hb
      by_cases q1 : v = p
      · subst q1
        rw [if_pos rfl] at hv
        rw [if_pos rfl]
        by_cases q2 : (2 * v + y) % 16 = v <;> simp [q2] <;> omega
      · rw [if_neg (Ne.symm q1)] at hv
        rw [if_neg q1]
        by_cases q2 : (2 * p + y) % 16 = v <;> simp [q2] <;> omega
    · show (2 * s.number + y) % 32 = 2 * p + y
      omega
    · show 0 ≤ 2 * s.number + y
      omega
    · show 2 * s.number + y < 16 * 2 ^ (s.controls ++ [2 * p + y]).length
      rw [List.length_append, List.length_singleton, Int.pow_succ]
      omega
    · show (2 * s.number + y) / 2 ^ ((s.controls ++ [2 * p + y]).length - 1 - k) % 32 = (s.controls ++ [2 * p + y])[k]'hk
      have hk' : k < s.controls.length + 1 := by simpa using hk
      rw [List.length_append, List.length_singleton]
      by_cases q : k < s.controls.length
      · rw [List.getElem_append_left q, ← I.key k q]
        have e : s.controls.length + 1 - 1 - k = (s.controls.length - 1 - k) + 1 := by omega
        rw [e, Int.pow_succ, Int.mul_comm ((2 : Int) ^ _) 2, ← Int.ediv_ediv_of_nonneg (by decide)]
        have : (2 * s.number + y) / 2 = s.number := by omega
        rw [this]
      · have hk2 : k = s.controls.length := by omega
        subst hk2
        have e : s.controls.length + 1 - 1 - s.controls.length = 0 := by omega
        rw [e]
        simp
        omega
  · exact I
theorem walk_inv {plan : List Int} {home : Int} (hp : IsPlan plan) (h0 : 0 ≤ home) (h1 : home < 16) : ∀ n, WInv plan home (walkN plan home n)
  | 0 => WInv.zero h0 h1
  | n + 1 => (walk_inv hp h0 h1 n).step hp
theorem walk_stuck {plan : List Int} {home : Int} : ∀ n, (¬ Lw (walkN plan home n) ((walkN plan home n).control % 16) < 2) ∨ (walkN plan home n).controls.length = n
  | 0 => .inr rfl
  | n + 1 => by
    show (¬ Lw (wstep plan (walkN plan home n)) _ < 2) ∨ (wstep plan (walkN plan home n)).controls.length = n + 1
    rcases walk_stuck (plan := plan) (home := home) n with h | h
    · left
      have e : wstep plan (walkN plan home n) = walkN plan home n := by
        unfold wstep; exact if_neg h
      rw [show walkN plan home (n + 1) = wstep plan (walkN plan home n) from rfl, e]; exact h
    · unfold wstep
      split
      · right; simp [h]
      · rename_i q
        left
        rw [show walkN plan home (n + 1) = walkN plan home n by show wstep plan _ = _; unfold wstep; exact if_neg q]
        exact q
/-- what holds of the whole walk -/
structure WEnd (plan : List Int) (home : Int) (s : WS) : Prop where
  inv : WInv plan home s
  at_home : s.control % 16 = home
  l_home : Lw s home = 2
  flow : ∀ v, 0 ≤ v → v < 16 → (inc s.controls v : Int) = Lw s v
theorem walk_end {plan : List Int} {home : Int} (hp : IsPlan plan) (h0 : 0 ≤ home) (h1 : home < 16) : WEnd plan home (walkN plan home 32) := by
  have I := walk_inv hp h0 h1 32
  have hst : Lw (walkN plan home 32) ((walkN plan home 32).control % 16) = 2 := by
    have p0 : 0 ≤ (walkN plan home 32).control % 16 := Int.emod_nonneg _ (by decide)
    have p1 : (walkN plan home 32).control % 16 < 16 := Int.emod_lt_of_pos _ (by decide)
    rcases walk_stuck (plan := plan) (home := home) 32 with h | h
    · have := I.eul.l2 _ p0 p1; omega
    · exact I.eul.full hp (by omega) _ p0 p1
  generalize walkN plan home 32 = s at *
  have p0 : 0 ≤ s.control % 16 := Int.emod_nonneg _ (by decide)
  have p1 : s.control % 16 < 16 := Int.emod_lt_of_pos _ (by decide)
  have hh : s.control % 16 = home := by
    apply Classical.byContradiction
    intro q
    have := I.flow _ p0 p1
    rw [if_neg q, if_pos rfl, hst] at this
    have := inc_two I.eul.nd I.eul.rg (s.control % 16)
    omega
  refine ⟨I, hh, hh ▸ hst, fun v v0 v1 => ?_⟩
  have := I.flow v v0 v1
  rw [hh] at this
  by_cases q : v = home
  · subst q; simp at this; exact this
  · rw [if_neg q, if_neg (Ne.symm q)] at this; omega

/-! ## Two walkers -/
theorem set_get {left : List Int} (hl : left.length = 16) {p : Int} (p0 : 0 ≤ p) (p1 : p < 16) (v : Int) (v0 : 0 ≤ v) (v1 : v < 16) :
    (left.set p.toNat (left.getD p.toNat 0 + 1)).getD v.toNat 0 = if v = p then left.getD v.toNat 0 + 1 else left.getD v.toNat 0 := (set_bump hl p0 p1 v v0 v1).symm

def Lb (s : BS) (v : Int) : Int := s.left.getD v.toNat 0
def Lh (home : Int) (s : BS) (v : Int) : Int := if v = home then 2 else Lb s v
structure BInv (plan : List Int) (home : Int) (i : Nat) (a b : Int) (s : BS) : Prop where
  sp : s.spots = [a, b]
  ll : s.left.length = 16
  a0 : 0 ≤ a ∧ a < 16
  b0 : 0 ≤ b ∧ b < 16
  eul : Eul plan (Lh home s) s.gone
  flow : ∀ v, 0 ≤ v → v < 16 → v ≠ home → (inc s.gone v : Int) = Lb s v + (if a = v then 1 else 0) + (if b = v then 1 else 0)
  ta : a ≠ home → 2 + (i + 1) / 2 ≤ s.gone.length
  tb : b ≠ home → 2 + i / 2 ≤ s.gone.length
theorem BInv.zero {plan : List Int} {home : Int} (h0 : 0 ≤ home) (h1 : home < 16) : BInv plan home 0 (2 * home % 16) ((2 * home + 1) % 16) (bothN plan home 0) := by
  have hL : ∀ v, Lb (bothN plan home 0) v = 0 := fun v => by
    show (List.replicate 16 (0 : Int)).getD v.toNat 0 = 0
    rw [List.getD_eq_getElem?_getD, List.getElem?_replicate]
    split <;> rfl
  have hg : (bothN plan home 0).gone = [2 * home, 2 * home + 1] := rfl
  refine ⟨rfl, by simp [bothN], by omega, by omega, ⟨?_, fun e he => ?_, fun v _ _ => ?_, fun e e0 e1 => ?_⟩, fun v v0 v1 vh => ?_, fun _ => by rw [hg]; exact Nat.le_refl 2, fun _ => by rw [hg]; exact Nat.le_refl 2⟩
  · rw [hg]; simp; omega
  · rw [hg] at he
    simp only [List.mem_cons, List.not_mem_nil, or_false] at he
    omega
  · unfold Lh; rw [hL]; split <;> omega
  · rw [hg]
    simp only [List.mem_cons, List.not_mem_nil, or_false]
    unfold usedL Lh
    rw [hL]
    by_cases q : e / 2 = home
    · rw [if_pos q]
      exact ⟨fun _ => .inl rfl, fun _ => by omega⟩
    · rw [if_neg q]
      constructor
      · intro h; omega
      · rintro (h | ⟨h, _⟩) <;> omega
  · rw [hg, hL]
    have e1 := inc_snoc [2 * home] (2 * home + 1) v
    have e2 := inc_snoc [] (2 * home) v
    simp only [List.nil_append, List.cons_append] at e1 e2
    rw [e1, e2]
    have e3 : inc [] v = 0 := rfl
    rw [e3]
    by_cases q1 : 2 * home % 16 = v <;> by_cases q2 : (2 * home + 1) % 16 = v <;> simp [q1, q2]
theorem BInv.step {plan : List Int} {home : Int} (hp : IsPlan plan) {i : Nat} {a b : Int} {s : BS} (I : BInv plan home i a b s) : ∃ a' b', BInv plan home (i + 1) a' b' (bstep plan home i s) := by
  unfold bstep
  have hi2 : i % 2 = 0 ∨ i % 2 = 1 := by omega
  -- the one that goes
  have go : ∀ p : Int, 0 ≤ p → p < 16 → p ≠ home → (a = p ∨ b = p) →
      Eul plan (Lh home ⟨s.left.set p.toNat (s.left.getD p.toNat 0 + 1), s.gone ++ [2 * p + wayOf plan (s.left.getD p.toNat 0) p], []⟩) (s.gone ++ [2 * p + wayOf plan (s.left.getD p.toNat 0) p]) ∧
      (∀ v, 0 ≤ v → v < 16 → v ≠ home → (inc (s.gone ++ [2 * p + wayOf plan (s.left.getD p.toNat 0) p]) v : Int) = (s.left.set p.toNat (s.left.getD p.toNat 0 + 1)).getD v.toNat 0 - (if p = v then 1 else 0) + (if a = v then 1 else 0) + (if b = v then 1 else 0) + (if (2 * p + wayOf plan (s.left.getD p.toNat 0) p) % 16 = v then 1 else 0)) := by
    intro p p0 p1 ph hab
    have hf := I.flow p p0 p1 ph
    have h2 := inc_two I.eul.nd I.eul.rg p
    have hl : Lb s p < 2 := by
      rcases hab with q | q
      · rw [if_pos q] at hf
        have : (0 : Int) ≤ if b = p then 1 else 0 := by split <;> decide
        omega
      · rw [if_pos q] at hf
        have : (0 : Int) ≤ if a = p then 1 else 0 := by split <;> decide
        omega
    have hlh : Lh home s p = Lb s p := if_neg ph
    have hE := I.eul.step hp p0 p1 (by rw [hlh]; exact hl)
    rw [hlh] at hE
    refine ⟨hE.congr fun v v0 v1 => ?_, fun v v0 v1 vh => ?_⟩
    · have hb := set_bump I.ll p0 p1 v v0 v1
      unfold Lh
      by_cases q : v = home
      · subst q
        unfold bump
        rw [if_neg (Ne.symm ph), if_pos rfl]
        show (if v = v then (2 : Int) else _) = 2
        rw [if_pos rfl]
      · rw [if_neg q]
        show bump (Lh home s) p v = (s.left.set p.toNat (s.left.getD p.toNat 0 + 1)).getD v.toNat 0
        rw [← hb]
        unfold bump Lh Lb
        rw [if_neg q]
    · have hb := set_bump I.ll p0 p1 v v0 v1
      have hv := I.flow v v0 v1 vh
      rw [← hb, inc_snoc]
      unfold bump
      show _ = (if v = p then s.left.getD v.toNat 0 + 1 else s.left.getD v.toNat 0) - _ + _ + _ + _
      unfold Lb at hv
      generalize s.left.getD v.toNat 0 = lv at hv ⊢
      generalize (2 * p + wayOf plan (s.left.getD p.toNat 0) p) % 16 = y
      rw [Int.natCast_add, hv]
      by_cases q1 : v = p
      · subst q1
        by_cases q2 : y = v <;> simp [q2] <;> omega
      · by_cases q2 : y = v <;> simp [q2, q1, Ne.symm q1] <;> omega
  rcases hi2 with hi | hi
  · rw [hi]
    have hs : s.spots.getD 0 0 = a := by rw [I.sp]; rfl
    rw [hs]
    by_cases q : a = home
    · rw [if_pos q]
      exact ⟨a, b, I.sp, I.ll, I.a0, I.b0, I.eul, I.flow, fun h => absurd q h, fun h => by have := I.tb h; omega⟩
    · rw [if_neg q]
      obtain ⟨g1, g2⟩ := go a I.a0.1 I.a0.2 q (.inl rfl)
      have hw := wayOf_bit hp (s.left.getD a.toNat 0) a
      refine ⟨(2 * a + wayOf plan (s.left.getD a.toNat 0) a) % 16, b, by rw [I.sp]; rfl, by simp [I.ll], by omega, I.b0, g1, fun v v0 v1 vh => ?_, fun _ => ?_, fun h => ?_⟩
      · show ((inc (s.gone ++ _) v : Nat) : Int) = (s.left.set a.toNat (s.left.getD a.toNat 0 + 1)).getD v.toNat 0 + _ + _
        rw [g2 v v0 v1 vh]
        omega
      · have := I.ta q
        simp only [List.length_append, List.length_singleton]; omega
      · have := I.tb h
        simp only [List.length_append, List.length_singleton]; omega
  · rw [hi]
    have hs : s.spots.getD 1 0 = b := by rw [I.sp]; rfl
    rw [hs]
    by_cases q : b = home
    · rw [if_pos q]
      exact ⟨a, b, I.sp, I.ll, I.a0, I.b0, I.eul, I.flow, fun h => by have := I.ta h; omega, fun h => absurd q h⟩
    · rw [if_neg q]
      obtain ⟨g1, g2⟩ := go b I.b0.1 I.b0.2 q (.inr rfl)
      have hw := wayOf_bit hp (s.left.getD b.toNat 0) b
      refine ⟨a, (2 * b + wayOf plan (s.left.getD b.toNat 0) b) % 16, by rw [I.sp]; rfl, by simp [I.ll], I.a0, by omega, g1, fun v v0 v1 vh => ?_, fun h => ?_, fun _ => ?_⟩
      · show ((inc (s.gone ++ _) v : Nat) : Int) = (s.left.set b.toNat (s.left.getD b.toNat 0 + 1)).getD v.toNat 0 + _ + _
        rw [g2 v v0 v1 vh]
        omega
      · have := I.ta h
        simp only [List.length_append, List.length_singleton]; omega
      · have := I.tb q
        simp only [List.length_append, List.length_singleton]; omega
theorem both_inv {plan : List Int} {home : Int} (hp : IsPlan plan) (h0 : 0 ≤ home) (h1 : home < 16) : ∀ n, ∃ a b, BInv plan home n a b (bothN plan home n)
  | 0 => ⟨_, _, BInv.zero h0 h1⟩
  | n + 1 => by
    obtain ⟨a, b, I⟩ := both_inv hp h0 h1 n
    exact I.step hp
theorem both_end {plan : List Int} {home : Int} (hp : IsPlan plan) (h0 : 0 ≤ home) (h1 : home < 16) : BInv plan home 60 home home (bothN plan home 60) := by
  obtain ⟨a, b, I⟩ := both_inv (plan := plan) hp h0 h1 60
  have key : ∀ p, 0 ≤ p → p < 16 → (a = p ∨ b = p) → 32 ≤ (bothN plan home 60).gone.length → p = home := by
    intro p p0 p1 hab h32
    apply Classical.byContradiction
    intro q
    have hf := I.flow p p0 p1 q
    have h2 := inc_two I.eul.nd I.eul.rg p
    have hl : Lh home (bothN plan home 60) p = 2 := I.eul.full hp h32 p p0 p1
    rw [show Lh home (bothN plan home 60) p = Lb (bothN plan home 60) p from if_neg q] at hl
    rw [hl] at hf
    rcases hab with e | e
    · rw [if_pos e] at hf
      have : (0 : Int) ≤ if b = p then 1 else 0 := by split <;> decide
      omega
    · rw [if_pos e] at hf
      have : (0 : Int) ≤ if a = p then 1 else 0 := by split <;> decide
      omega
  have ha : a = home := Classical.byContradiction fun q => q (key a I.a0.1 I.a0.2 (.inl rfl) (by have := I.ta q; omega))
  have hb : b = home := Classical.byContradiction fun q => q (key b I.b0.1 I.b0.2 (.inr rfl) (by have := I.tb q; omega))
  subst ha; subst hb; exact I

theorem both_sub {plan : List Int} {home : Int} (hp : IsPlan plan) (h0 : 0 ≤ home) (h1 : home < 16) : ∀ n, ∀ e ∈ (bothN plan home n).gone, e ∈ (walkN plan home 32).controls
  | 0, e, he => by
    have W := walk_end hp h0 h1
    have he' : e = 2 * home ∨ e = 2 * home + 1 := by simpa [bothN] using he
    refine (W.inv.eul.mem e (by omega) (by omega)).mpr (.inl ?_)
    rw [show e / 2 = home by omega]; exact W.l_home
  | n + 1, e, he => by
    have W := walk_end hp h0 h1
    have ih := both_sub hp h0 h1 n
    obtain ⟨a, b, I⟩ := both_inv (plan := plan) hp h0 h1 n
    have he' : e ∈ (bstep plan home n (bothN plan home n)).gone := he
    generalize bothN plan home n = s at *
    unfold bstep at he'
    have hpp : s.spots.getD (n % 2) 0 = a ∨ s.spots.getD (n % 2) 0 = b := by
      rw [I.sp]
      rcases (by omega : n % 2 = 0 ∨ n % 2 = 1) with q | q <;> rw [q]
      · left; rfl
      · right; rfl
    generalize s.spots.getD (n % 2) 0 = p at *
    split at he'
    · exact ih e he'
    · rename_i ph
      rcases List.mem_append.mp he' with he' | he'
      · exact ih e he'
      · rw [List.mem_singleton.mp he']
        have p0 : 0 ≤ p ∧ p < 16 := by
          rcases hpp with q | q <;> rw [q]
          · exact I.a0
          · exact I.b0
        have hl0 := I.eul.l2 p p0.1 p0.2
        rw [show Lh home s p = Lb s p from if_neg ph] at hl0
        apply Classical.byContradiction
        intro q
        have hge : ¬ Lb s p < Lw (walkN plan home 32) p := fun h => q (W.inv.eul.way_mem hp p0.1 p0.2 hl0.1 h)
        have hf := I.flow p p0.1 p0.2 ph
        have hi := inc_mono I.eul.nd ih p
        have hw := W.flow p p0.1 p0.2
        rcases hpp with e | e
        · rw [if_pos e.symm] at hf
          have : (0 : Int) ≤ if b = p then 1 else 0 := by split <;> decide
          omega
        · rw [if_pos e.symm] at hf
          have : (0 : Int) ≤ if a = p then 1 else 0 := by split <;> decide
          omega
theorem walk_sub {plan : List Int} {home : Int} (hp : IsPlan plan) (h0 : 0 ≤ home) (h1 : home < 16) : ∀ n, ∀ e ∈ (walkN plan home n).controls, e ∈ (bothN plan home 60).gone
  | 0, e, he => by simp [walkN] at he
  | n + 1, e, he => by
    have ih := walk_sub hp h0 h1 n
    have I := walk_inv hp h0 h1 n
    have G := both_end hp h0 h1
    have he' : e ∈ (wstep plan (walkN plan home n)).controls := he
    generalize walkN plan home n = s at *
    unfold wstep at he'
    split at he'
    · rename_i hlt
      rcases List.mem_append.mp he' with he' | he'
      · exact ih e he'
      · have p0 : 0 ≤ s.control % 16 := Int.emod_nonneg _ (by decide)
        have p1 : s.control % 16 < 16 := Int.emod_lt_of_pos _ (by decide)
        have hw := wayOf_bit hp (s.left.getD (s.control % 16).toNat 0) (s.control % 16)
        have hc : (2 * s.control + wayOf plan (s.left.getD (s.control % 16).toNat 0) (s.control % 16)) % 32 = 2 * (s.control % 16) + wayOf plan (s.left.getD (s.control % 16).toNat 0) (s.control % 16) := by
          have := I.c0; have := I.c1; omega
        rw [List.mem_singleton.mp he', hc]
        have hl0 := I.eul.l2 _ p0 p1
        have hfl := I.flow _ p0 p1
        generalize s.control % 16 = p at *
        apply Classical.byContradiction
        intro q
        have hge : ¬ Lw s p < Lh home (bothN plan home 60) p := fun h => q (G.eul.way_mem hp p0 p1 hl0.1 h)
        have hlt' : Lw s p < 2 := hlt
        by_cases ph : p = home
        · rw [show Lh home (bothN plan home 60) p = 2 from if_pos ph] at hge
          omega
        · rw [show Lh home (bothN plan home 60) p = Lb (bothN plan home 60) p from if_neg ph] at hge
          have hG := G.flow p p0 p1 ph
          rw [if_neg (Ne.symm ph)] at hG
          have hi := inc_mono I.eul.nd ih p
          rw [if_neg ph, if_pos rfl] at hfl
          omega
    · exact ih e he'
theorem gone_iff {plan : List Int} {home : Int} (hp : IsPlan plan) (h0 : 0 ≤ home) (h1 : home < 16) (e : Int) : e ∈ (bothN plan home 60).gone ↔ e ∈ (walkN plan home 32).controls :=
  ⟨both_sub hp h0 h1 60 e, walk_sub hp h0 h1 32 e⟩

/-! ## The kept ways lead home -/
theorem leadN_first (plan : List Int) (home v : Int) : ∀ n, leadN plan home v (n + 1) = leadN plan home (leadStep plan home v) n
  | 0 => rfl
  | n + 1 => by
    show leadStep plan home (leadN plan home v (n + 1)) = leadStep plan home (leadN plan home (leadStep plan home v) n)
    rw [leadN_first plan home v n]
theorem leadN_home (plan : List Int) (home : Int) : ∀ n, leadN plan home home n = home
  | 0 => rfl
  | n + 1 => by
    show leadStep plan home (leadN plan home home n) = home
    rw [leadN_home plan home n]; unfold leadStep; rw [if_pos rfl]
theorem leadN_stay {plan : List Int} {home v : Int} {m : Nat} (h : leadN plan home v m = home) : ∀ k, leadN plan home v (m + k) = home
  | 0 => h
  | k + 1 => by
    show leadStep plan home (leadN plan home v (m + k)) = home
    rw [leadN_stay h k]; unfold leadStep; rw [if_pos rfl]
theorem leads_full {plan : List Int} {home : Int} (hp : IsPlan plan) (h0 : 0 ≤ home) (h1 : home < 16) (hl : ∀ v, 0 ≤ v → v < 16 → leadN plan home v 16 = home) : (walkN plan home 32).controls.length = 32 := by
  have W := walk_end hp h0 h1
  generalize walkN plan home 32 = s at *
  have E := W.inv.eul
  have all2 : ∀ v, 0 ≤ v → v < 16 → Lw s v = 2 := by
    intro v v0 v1
    apply Classical.byContradiction
    intro q
    have hlt : Lw s v < 2 := by have := E.l2 v v0 v1; omega
    have st : ∀ n, Lw s (leadN plan home v n) < 2 := by
      intro n
      induction n with
      | zero => exact hlt
      | succ n ih =>
        have hb := leadN_ok plan home v ⟨v0, v1⟩ n
        show Lw s (leadStep plan home (leadN plan home v n)) < 2
        generalize leadN plan home v n = u at *
        have uh : u ≠ home := fun e => by rw [e, W.l_home] at ih; omega
        unfold leadStep
        rw [if_neg uh]
        have hpl := hp.at u.toNat
        have hnot : 2 * u + plan.getD u.toNat 0 ∉ s.controls := fun h => by
          have := (E.mem _ (by omega) (by omega)).mp h
          unfold usedL at this
          rw [show (2 * u + plan.getD u.toNat 0) / 2 = u by omega, show (2 * u + plan.getD u.toNat 0) % 2 = plan.getD u.toNat 0 by omega] at this
          rcases this with e | ⟨_, e⟩ <;> omega
        have := inc_one E.nd E.rg (by omega) (by omega) hnot
        have hf := W.flow ((2 * u + plan.getD u.toNat 0) % 16) (by omega) (by omega)
        omega
    have := st 16
    rw [hl v v0 v1, W.l_home] at this
    omega
  have hall : ∀ e, 0 ≤ e → e < 32 → e ∈ s.controls := fun e e0 e1 => (E.mem e e0 e1).mpr (.inl (all2 _ (by omega) (by omega)))
  have h32 := nd_len (l := (List.range 32).map fun i : Nat => (i : Int)) (l' := s.controls) (by decide) fun x hx => by
    obtain ⟨i, hi, rfl⟩ := List.mem_map.mp hx
    have := List.mem_range.mp hi
    exact hall _ (by omega) (by omega)
  have := le_32 E.nd E.rg
  simp at h32
  omega
def openC (home : Int) (s : WS) : List Int := ((List.range 16).map fun i : Nat => (i : Int)).filter fun v => v != home && decide (Lw s v < 2)
theorem mem_openC {home : Int} {s : WS} {v : Int} : v ∈ openC home s ↔ (0 ≤ v ∧ v < 16) ∧ v ≠ home ∧ Lw s v < 2 := by
  unfold openC
  rw [List.mem_filter]
  have : v ∈ ((List.range 16).map fun i : Nat => (i : Int)) ↔ 0 ≤ v ∧ v < 16 := by
    rw [List.mem_map]
    constructor
    · rintro ⟨i, hi, rfl⟩
      have := List.mem_range.mp hi; omega
    · rintro ⟨a, b⟩
      exact ⟨v.toNat, List.mem_range.mpr (by omega), by omega⟩
  rw [this]; simp
theorem nd_openC (home : Int) (s : WS) : (openC home s).Nodup := by
  have : ((List.range 16).map fun i : Nat => (i : Int)).Nodup := by decide
  exact this.sublist List.filter_sublist
theorem full_leads {plan : List Int} {home : Int} (hp : IsPlan plan) (h0 : 0 ≤ home) (h1 : home < 16) (h32 : (walkN plan home 32).controls.length = 32) (v : Int) (v0 : 0 ≤ v) (v1 : v < 16) : leadN plan home v 16 = home := by
  have all2 : ∀ v, 0 ≤ v → v < 16 → Lw (walkN plan home 32) v = 2 := fun v a b => (walk_inv hp h0 h1 32).eul.full hp (by omega) v a b
  have back : ∀ k, k ≤ 32 → ∀ v, v ∈ openC home (walkN plan home (32 - k)) → ∃ m, m ≤ (openC home (walkN plan home (32 - k))).length ∧ leadN plan home v m = home := by
    intro k
    induction k with
    | zero =>
      intro _ v hv
      obtain ⟨⟨a, b⟩, _, c⟩ := mem_openC.mp hv
      have := all2 v a b
      rw [show 32 - 0 = 32 from rfl] at c
      omega
    | succ k ih =>
      intro hk v hv
      have ih := ih (by omega)
      obtain ⟨n, hn⟩ : ∃ n, 32 - (k + 1) = n := ⟨_, rfl⟩
      have hn1 : 32 - k = n + 1 := by omega
      rw [hn] at hv ⊢
      rw [hn1] at ih
      have I := walk_inv hp h0 h1 n
      have I' := walk_inv hp h0 h1 (n + 1)
      have hstep : walkN plan home (n + 1) = wstep plan (walkN plan home n) := rfl
      generalize walkN plan home (n + 1) = s' at *
      generalize walkN plan home n = s at *
      obtain ⟨⟨a, b⟩, vh, vl⟩ := mem_openC.mp hv
      -- what was open stays so, but for the one place
      by_cases hopen : Lw s' v < 2
      · obtain ⟨m, hm, hl⟩ := ih v (mem_openC.mpr ⟨⟨a, b⟩, vh, hopen⟩)
        refine ⟨m, Nat.le_trans hm (nd_len (nd_openC _ _) fun x hx => ?_), hl⟩
        obtain ⟨x0, xh, xl⟩ := mem_openC.mp hx
        refine mem_openC.mpr ⟨x0, xh, ?_⟩
        rw [hstep] at xl
        unfold wstep at xl
        split at xl
        · have p0 : 0 ≤ s.control % 16 := Int.emod_nonneg _ (by decide)
          have p1 : s.control % 16 < 16 := Int.emod_lt_of_pos _ (by decide)
          have hb := set_get I.ll p0 p1 x x0.1 x0.2
          have xl' : (s.left.set (s.control % 16).toNat (s.left.getD (s.control % 16).toNat 0 + 1)).getD x.toNat 0 < 2 := xl
          rw [hb] at xl'
          show s.left.getD x.toNat 0 < 2
          split at xl' <;> omega
        · exact xl
      · -- v is left for the last time
        have hmv : s.control % 16 = v ∧ s' = ⟨s.left.set v.toNat (s.left.getD v.toNat 0 + 1), 2 * v + plan.getD v.toNat 0, 2 * s.number + plan.getD v.toNat 0, s.controls ++ [2 * v + plan.getD v.toNat 0]⟩ := by
          have p0 : 0 ≤ s.control % 16 := Int.emod_nonneg _ (by decide)
          have p1 : s.control % 16 < 16 := Int.emod_lt_of_pos _ (by decide)
          rw [hstep] at hopen ⊢
          unfold wstep at hopen ⊢
          split at hopen
          · rename_i hlt
            have hb := set_get I.ll p0 p1 v a b
            have hopen' : ¬ (s.left.set (s.control % 16).toNat (s.left.getD (s.control % 16).toNat 0 + 1)).getD v.toNat 0 < 2 := hopen
            rw [hb] at hopen'
            have vl' : s.left.getD v.toNat 0 < 2 := vl
            by_cases q : v = s.control % 16
            · refine ⟨q.symm, ?_⟩
              rw [if_pos hlt]
              rw [if_pos q] at hopen'
              rw [← q]
              have hone : s.left.getD v.toNat 0 = 1 := by omega
              have hway : wayOf plan (s.left.getD v.toNat 0) v = plan.getD v.toNat 0 := by unfold wayOf; rw [if_neg (by omega)]
              have hpl := hp.at v.toNat
              have hc : (2 * s.control + plan.getD v.toNat 0) % 32 = 2 * v + plan.getD v.toNat 0 := by
                have := I.c0; have := I.c1; omega
              rw [hway, hc]
            · rw [if_neg q] at hopen'
              omega
          · exact absurd vl hopen
        obtain ⟨hc, hs'⟩ := hmv
        have hpl := hp.at v.toNat
        have hcard : (openC home s').length + 1 ≤ (openC home s).length := by
          have : (v :: openC home s').length ≤ (openC home s).length := nd_len (List.nodup_cons.mpr ⟨fun q => hopen (mem_openC.mp q).2.2, nd_openC _ _⟩) fun x hx => by
            rcases List.mem_cons.mp hx with rfl | hx
            · exact hv
            · obtain ⟨x0, xh, xl⟩ := mem_openC.mp hx
              refine mem_openC.mpr ⟨x0, xh, ?_⟩
              rw [hs'] at xl
              have hb := set_get I.ll a b x x0.1 x0.2
              have xl' : (s.left.set v.toNat (s.left.getD v.toNat 0 + 1)).getD x.toNat 0 < 2 := xl
              rw [hb] at xl'
              show s.left.getD x.toNat 0 < 2
              split at xl' <;> omega
          simpa using this
        have hnext : leadStep plan home v = (2 * v + plan.getD v.toNat 0) % 16 := by unfold leadStep; rw [if_neg vh]
        have hc' : s'.control % 16 = (2 * v + plan.getD v.toNat 0) % 16 := by rw [hs']
        by_cases uh : (2 * v + plan.getD v.toNat 0) % 16 = home
        · refine ⟨1, by omega, ?_⟩
          rw [leadN_first, hnext, uh]; rfl
        · have hf := I'.flow ((2 * v + plan.getD v.toNat 0) % 16) (by omega) (by omega)
          rw [if_neg uh, if_pos hc'] at hf
          have h2 := inc_two I'.eul.nd I'.eul.rg ((2 * v + plan.getD v.toNat 0) % 16)
          obtain ⟨m, hm, hl⟩ := ih _ (mem_openC.mpr ⟨⟨by omega, by omega⟩, uh, by omega⟩)
          refine ⟨m + 1, by omega, ?_⟩
          rw [leadN_first, hnext]; exact hl
  by_cases vh : v = home
  · rw [vh]; exact leadN_home plan home 16
  · have hz : Lw (walkN plan home 0) v = 0 := by
      show (List.replicate 16 (0 : Int)).getD v.toNat 0 = 0
      rw [List.getD_eq_getElem?_getD, List.getElem?_replicate]
      split <;> rfl
    obtain ⟨m, hm, hl⟩ := back 32 (Nat.le_refl _) v (mem_openC.mpr ⟨⟨v0, v1⟩, vh, by rw [show walkN plan home (32 - 32) = walkN plan home 0 from rfl, hz]; decide⟩)
    have : (openC home (walkN plan home (32 - 32))).length ≤ 16 := by
      unfold openC
      exact Nat.le_trans (List.length_filter_le _ _) (by simp)
    have hs := leadN_stay hl (16 - m)
    rw [show m + (16 - m) = 16 by omega] at hs
    exact hs
theorem full_iff {plan : List Int} {home : Int} (hp : IsPlan plan) (h0 : 0 ≤ home) (h1 : home < 16) : ((walkN plan home 32).controls.length == 32) = ((List.range 16).map fun i : Nat => (leadN plan home (i : Int) 16 == home)).all id := by
  rw [Bool.eq_iff_iff, beq_iff_eq, List.all_eq_true]
  constructor
  · intro h b hb
    obtain ⟨i, hi, rfl⟩ := List.mem_map.mp hb
    have := List.mem_range.mp hi
    simpa using full_leads hp h0 h1 h i (by omega) (by omega)
  · intro h
    refine leads_full hp h0 h1 fun v v0 v1 => ?_
    have := h _ (List.mem_map.mpr ⟨v.toNat, List.mem_range.mpr (by omega), rfl⟩)
    rw [show ((v.toNat : Nat) : Int) = v by omega] at this
    simpa using this

/-! ## The law's values -/
section
variable (ns : List Int)
theorem W_end : WEnd (planL ns) (homeOf ns) (wkOf ns) := walk_end (plan_ok ns) (home_ok ns).1 (home_ok ns).2
theorem cs_rg : ∀ z ∈ csOf ns, 0 ≤ z ∧ z < 32 := (W_end ns).inv.eul.rg
theorem cs_nd : (csOf ns).Nodup := (W_end ns).inv.eul.nd
theorem cs_le : (csOf ns).length ≤ 32 := le_32 (cs_nd ns) (cs_rg ns)
theorem num_home : numOf ns % 16 = homeOf ns := by
  have W := W_end ns
  have h1 := W.inv.num
  have h2 := W.at_home
  show (wkOf ns).number % 16 = _
  omega
theorem cs_pos : 0 < (csOf ns).length := by
  have W := W_end ns
  have h := W.flow _ (home_ok ns).1 (home_ok ns).2
  rw [W.l_home] at h
  have : inc (csOf ns) (homeOf ns) ≤ (csOf ns).length := List.length_filter_le _ _
  have h' : ((inc (csOf ns) (homeOf ns) : Nat) : Int) = 2 := h
  omega
theorem num_0 : 0 ≤ numOf ns := (W_end ns).inv.n0
theorem num_36 : numOf ns < 2 ^ 36 := by
  have h := (W_end ns).inv.n1
  have h2 : (2 : Int) ^ (csOf ns).length ≤ 2 ^ 32 := by
    have := Nat.pow_le_pow_right (show 0 < 2 by decide) (cs_le ns)
    exact_mod_cast this
  have h' : numOf ns < 16 * 2 ^ (csOf ns).length := h
  omega
theorem key1 : ∀ k (hk : k < (csOf ns).length), numOf ns / 2 ^ ((csOf ns).length - 1 - k) % 32 = (csOf ns)[k] := (W_end ns).inv.key
theorem key2 (k : Nat) (hk : k < (csOf ns).length) : 2 ^ k * numOf ns / 2 ^ ((csOf ns).length - 1) % 32 = (csOf ns)[k] := by
  rw [← key1 ns k hk]
  have e : (csOf ns).length - 1 = k + ((csOf ns).length - 1 - k) := by omega
  have e2 : (2 : Int) ^ ((csOf ns).length - 1) = 2 ^ k * 2 ^ ((csOf ns).length - 1 - k) := by rw [← Int.pow_add, ← e]
  rw [e2, Int.mul_ediv_mul_of_pos _ _ (Int.pow_pos (by decide))]
end

/-! ## A table with different keys -/
theorem lookup_append (k : PyData) : ∀ a b : List (PyData × PyData), PySem.Spec.lookup k (a ++ b) = (PySem.Spec.lookup k a).or (PySem.Spec.lookup k b)
  | [], b => rfl
  | (x, y) :: a, b => by
    show (if PySem.Spec.same x k then some y else PySem.Spec.lookup k (a ++ b)) = Option.or (if PySem.Spec.same x k then some y else PySem.Spec.lookup k a) _
    split
    · rfl
    · exact lookup_append k a b
theorem same_strs1 (a b : Str) : PySem.Spec.same (.str a) (.str b) = (a == b) := by simp only [PySem.Spec.same]
theorem tab_eq (kf vf : Nat → Str) : ∀ n, (∀ i j, i < n → j < n → kf i = kf j → i = j) → tabOf kf vf n = (List.range n).map fun i => (PyData.str (kf i), PyData.str (vf i))
  | 0, _ => rfl
  | n + 1, h => by
    show PyProof.V.putD _ _ (tabOf kf vf n) = _
    rw [tab_eq kf vf n fun i j hi hj => h i j (by omega) (by omega), List.range_succ, List.map_append]
    unfold PyProof.V.putD
    rw [if_neg]
    · rfl
    · intro q
      obtain ⟨p, hp, hs⟩ := List.any_eq_true.mp q
      obtain ⟨i, hi, rfl⟩ := List.mem_map.mp hp
      have hi := List.mem_range.mp hi
      rw [same_strs1] at hs
      have := h i n (by omega) (by omega) (eq_of_beq hs)
      omega
theorem tab_look (kf vf : Nat → Str) : ∀ n, (∀ i j, i < n → j < n → kf i = kf j → i = j) → ∀ k, k < n → PySem.Spec.lookup (.str (kf k)) ((List.range n).map fun i => (PyData.str (kf i), PyData.str (vf i))) = some (.str (vf k))
  | 0, _, k, hk => by omega
  | n + 1, h, k, hk => by
    rw [List.range_succ, List.map_append, lookup_append]
    by_cases q : k < n
    · rw [tab_look kf vf n (fun i j hi hj => h i j (by omega) (by omega)) k q]; rfl
    · have : k = n := by omega
      subst this
      have none : ∀ m, m ≤ k → PySem.Spec.lookup (.str (kf k)) ((List.range m).map fun i => (PyData.str (kf i), PyData.str (vf i))) = none := by
        intro m
        induction m with
        | zero => intro _; rfl
        | succ m ih =>
          intro hm
          rw [List.range_succ, List.map_append, lookup_append, ih (by omega)]
          show (if PySem.Spec.same (.str (kf m)) (.str (kf k)) then some _ else none) = none
          rw [same_strs1, if_neg]
          intro q
          have := h m k (by omega) (by omega) (eq_of_beq q)
          omega
      rw [none k (Nat.le_refl _)]
      show (if PySem.Spec.same (.str (kf k)) (.str (kf k)) then some _ else _) = _
      rw [same_strs1, if_pos (by simp)]
theorem shown_inj {a b : Int} (ha : 0 ≤ a) (hb : 0 ≤ b) (h : shown a = shown b) : a = b := by
  unfold shown at h
  have h2 : (#[94, (a + 64).toNat] : Array Nat) = #[94, (b + 64).toNat] := by
    have := congrArg Str.cps h
    exact this
  have : (a + 64).toNat = (b + 64).toNat := by simpa using h2
  omega
theorem shown_keys (ns : List Int) : ∀ i j, i < (csOf ns).length → j < (csOf ns).length → shown ((csOf ns).getD i 0) = shown ((csOf ns).getD j 0) → i = j := by
  intro i j hi hj h
  have ei : (csOf ns).getD i 0 = (csOf ns)[i] := by simp [List.getD, hi]
  have ej : (csOf ns).getD j 0 = (csOf ns)[j] := by simp [List.getD, hj]
  rw [ei, ej] at h
  have := shown_inj (cs_rg ns _ (List.getElem_mem hi)).1 (cs_rg ns _ (List.getElem_mem hj)).1 h
  rcases Nat.lt_trichotomy i j with q | q | q
  · exact absurd this (List.pairwise_iff_getElem.mp (cs_nd ns) i j hi hj q)
  · exact q
  · exact absurd this.symm (List.pairwise_iff_getElem.mp (cs_nd ns) j i hj hi q)
theorem book_eq (ns : List Int) : tabOf (fun i => shown ((csOf ns).getD i 0)) wordN (csOf ns).length = bookL (csOf ns) := tab_eq _ _ _ (shown_keys ns)
theorem book_look (ns : List Int) (k : Nat) (hk : k < (csOf ns).length) : PySem.Spec.lookup (.str (shown (csOf ns)[k])) (bookL (csOf ns)) = some (.str (wordN k)) := by
  have h := tab_look (fun i => shown ((csOf ns).getD i 0)) wordN (csOf ns).length (shown_keys ns) k hk
  have ek : (csOf ns).getD k 0 = (csOf ns)[k] := by simp [List.getD, hk]
  rw [ek] at h
  exact h

/-! ## Bits -/
theorem add_pow_lt {m : Int} {c i : Nat} (h : i < c) : (m + 2 ^ c) / 2 ^ i % 2 = m / 2 ^ i % 2 := by
  obtain ⟨d, rfl⟩ := Nat.exists_eq_add_of_lt h
  have e : (2 : Int) ^ (i + d + 1) = 2 ^ d * 2 * 2 ^ i := by
    rw [Int.pow_succ, Int.pow_add, Int.mul_comm (2 ^ i), Int.mul_right_comm]
  rw [e, Int.add_mul_ediv_right _ _ (Int.ne_of_gt (pow_pos2 i))]
  omega
theorem add_pow_eq {m : Int} {c : Nat} : (m + 2 ^ c) / 2 ^ c = m / 2 ^ c + 1 := by
  have := Int.add_mul_ediv_right m 1 (Int.ne_of_gt (pow_pos2 c))
  rwa [Int.one_mul] at this
theorem add_pow_gt {m : Int} {c i : Nat} (h0 : m / 2 ^ c % 2 = 0) (h : c < i) : (m + 2 ^ c) / 2 ^ i = m / 2 ^ i := by
  obtain ⟨d, rfl⟩ := Nat.exists_eq_add_of_lt h
  have e : (2 : Int) ^ (c + d + 1) = 2 ^ c * (2 * 2 ^ d) := by
    rw [Int.pow_succ, Int.pow_add, Int.mul_assoc, Int.mul_comm (2 ^ d)]
  have p : (0 : Int) ≤ 2 ^ c := Int.le_of_lt (pow_pos2 c)
  rw [e, ← Int.ediv_ediv_of_nonneg p, ← Int.ediv_ediv_of_nonneg p, add_pow_eq, ← Int.ediv_ediv_of_nonneg (by decide), ← Int.ediv_ediv_of_nonneg (by decide)]
  congr 1
  omega
def maskL (l : List Int) : Int := (l.map fun c => (2 : Int) ^ c.toNat).sum
theorem mask_bits : ∀ {l : List Int}, l.Nodup → (∀ z ∈ l, 0 ≤ z ∧ z < 32) → 0 ≤ maskL l ∧ maskL l / 2 ^ 32 = 0 ∧ ∀ i : Nat, maskL l / 2 ^ i % 2 = if (i : Int) ∈ l then 1 else 0
  | [], _, _ => ⟨by decide, by decide, fun i => by simp [maskL]⟩
  | c :: l, n, r => by
    obtain ⟨n1, n2⟩ := List.nodup_cons.mp n
    obtain ⟨h0, h1, h2⟩ := mask_bits n2 fun z hz => r z (.tail _ hz)
    have hc := r c (.head _)
    have e : maskL (c :: l) = maskL l + 2 ^ c.toNat := by
      unfold maskL; rw [List.map_cons, List.sum_cons, Int.add_comm]
    have hcc : ((c.toNat : Nat) : Int) = c := by omega
    have hb : maskL l / 2 ^ c.toNat % 2 = 0 := by rw [h2, hcc, if_neg n1]
    rw [e]
    refine ⟨by have := pow_pos2 c.toNat; omega, by rw [add_pow_gt hb (by omega)]; exact h1, fun i => ?_⟩
    rcases Nat.lt_trichotomy i c.toNat with q | q | q
    · rw [add_pow_lt q, h2]
      have : (i : Int) ≠ c := by omega
      simp [this]
    · subst q
      rw [add_pow_eq, hcc, if_pos (.head _)]
      omega
    · rw [add_pow_gt hb q, h2]
      have : (i : Int) ≠ c := by omega
      simp [this]
theorem bit_mask {l : List Int} (n : l.Nodup) (r : ∀ z ∈ l, 0 ≤ z ∧ z < 32) (i : Nat) : bitB (maskL l) i = decide ((i : Int) ∈ l) := by
  unfold bitB
  rw [(mask_bits n r).2.2 i]
  by_cases h : (i : Int) ∈ l <;> simp [h]
theorem bit_neg {l : List Int} (n : l.Nodup) (r : ∀ z ∈ l, 0 ≤ z ∧ z < 32) (i : Nat) : bitB (-1 - maskL l) i = !decide ((i : Int) ∈ l) := by
  have h := (mask_bits n r).2.2 i
  unfold bitB
  rw [neg_div]
  by_cases q : (i : Int) ∈ l
  · rw [if_pos q] at h
    have : (-1 - maskL l / 2 ^ i) % 2 = 0 := by omega
    rw [this]; simp [q]
  · rw [if_neg q] at h
    have : (-1 - maskL l / 2 ^ i) % 2 = 1 := by omega
    rw [this]; simp [q]
theorem wordsTo_congr {f : Int} {p : Nat → Bool} {n : Nat} (h : ∀ i, i < n → bitB f i = p i) : wordsTo f n = ((List.range n).filter p).map wordN := by
  unfold wordsTo
  congr 1
  exact List.filter_congr fun i hi => h i (List.mem_range.mp hi)
theorem count_mask {l : List Int} (n : l.Nodup) (r : ∀ z ∈ l, 0 ≤ z ∧ z < 32) : (wordsTo (maskL l) 32).length = l.length := by
  rw [wordsTo_congr (p := fun i => decide ((i : Int) ∈ l)) fun i _ => bit_mask n r i, List.length_map]
  have e : ((List.range 32).filter fun i : Nat => decide ((i : Int) ∈ l)).length = (((List.range 32).filter fun i : Nat => decide ((i : Int) ∈ l)).map fun i : Nat => (i : Int)).length := by rw [List.length_map]
  rw [e]
  refine Nat.le_antisymm (nd_len ?_ fun x hx => ?_) (nd_len n fun x hx => ?_)
  · have h : ((List.range 32).map fun i : Nat => (i : Int)).Nodup := by decide
    exact h.sublist (List.filter_sublist.map _)
  · obtain ⟨i, hi, rfl⟩ := List.mem_map.mp hx
    simpa using (List.mem_filter.mp hi).2
  · have := r x hx
    refine List.mem_map.mpr ⟨x.toNat, List.mem_filter.mpr ⟨List.mem_range.mpr (by omega), ?_⟩, by omega⟩
    rw [show ((x.toNat : Nat) : Int) = x by omega]; simpa using hx
theorem low_stop {f : Int} {n : Nat} (h0 : 0 ≤ f) (h1 : f < 2 ^ n) (hn : n ≤ 32) : wordsTo f 32 = wordsTo f n := by
  have hz : f / 2 ^ n = 0 := Int.ediv_eq_zero_of_lt h0 h1
  have := wordsTo_stop hz (32 - n)
  rwa [show n + (32 - n) = 32 by omega] at this
theorem zero_of_bits : ∀ (n : Nat) {f : Int}, 0 ≤ f → f < 2 ^ n → (∀ i, i < n → bitB f i = false) → f = 0
  | 0, f, h0, h1, _ => by have : f < 1 := h1; omega
  | n + 1, f, h0, h1, h => by
    have hb := h 0 (by omega)
    have h2 : f % 2 = 0 := by
      unfold bitB at hb
      rw [Int.pow_zero, Int.ediv_one] at hb
      have : f % 2 ≠ 1 := by simpa using hb
      omega
    have hd : f / 2 = 0 := zero_of_bits n (by omega) (by rw [Int.pow_succ] at h1; omega) fun i hi => by
      have := h (i + 1) (by omega)
      unfold bitB at this ⊢
      rwa [Int.pow_succ, Int.mul_comm (2 ^ i), ← Int.ediv_ediv_of_nonneg (by decide)] at this
    omega

/-! ## The tape -/
theorem valOf_cons (a : Int) (l : List Int) : valOf (a :: l) = a % 64 * 64 ^ l.length + valOf l := by
  have gen : ∀ (l : List Int) (v : Int), l.foldl (fun v b => v * 64 + b % 64) v = v * 64 ^ l.length + l.foldl (fun v b => v * 64 + b % 64) 0 := by
    intro l
    induction l with
    | nil => intro v; simp
    | cons b l ih =>
      intro v
      rw [List.foldl_cons, List.foldl_cons, ih (v * 64 + b % 64), ih (0 * 64 + b % 64), List.length_cons, Int.pow_succ, Int.add_mul, Int.add_mul, Int.zero_mul, Int.zero_mul, Int.mul_assoc, Int.mul_comm (64 ^ l.length) 64]
      omega
  unfold valOf
  rw [List.foldl_cons, gen, Int.zero_mul, Int.zero_add]
theorem highs_succ (x : Int) (n : Nat) : highs x (n + 1) = (64 + x / 2 ^ (6 * (n + 1)) % 64) :: highs x n := by
  unfold highs
  rw [List.range_succ_eq_map, List.map_cons, List.map_map]
  have e0 : (6 * (((n + 1 : Nat) : Int) - ((0 : Nat) : Int))).toNat = 6 * (n + 1) := by omega
  rw [e0]
  refine congrArg (List.cons _) ?_
  · refine List.map_congr_left fun i hi => ?_
    show 64 + x / 2 ^ (6 * (((n + 1 : Nat) : Int) - ((i + 1 : Nat) : Int))).toNat % 64 = _
    have : (6 * (((n + 1 : Nat) : Int) - ((i + 1 : Nat) : Int))).toNat = (6 * ((n : Int) - (i : Int))).toNat := by omega
    rw [this]
theorem highs_len (x : Int) (n : Nat) : (highs x n).length = n := by simp [highs]
theorem pow6 (n : Nat) : (2 : Int) ^ (6 * n) = 64 ^ n := by
  rw [Int.pow_mul]; rfl
theorem mod_mul_add (y a b : Int) (ha : 0 < a) (hb : 0 < b) : y % (a * b) = y % a + a * (y / a % b) := by
  have h1 := Int.mul_ediv_add_emod y a
  have h2 := Int.mul_ediv_add_emod (y / a) b
  have b1 := Int.emod_nonneg y (Int.ne_of_gt ha)
  have b2 := Int.emod_lt_of_pos y ha
  have b3 := Int.emod_nonneg (y / a) (Int.ne_of_gt hb)
  have b4 := Int.emod_lt_of_pos (y / a) hb
  generalize y % a = r at *
  generalize y / a % b = s at *
  generalize y / a / b = q at *
  have e : y = (r + a * s) + a * b * q := by
    rw [← h1, ← h2, Int.mul_add, ← Int.mul_assoc]; omega
  rw [e, Int.add_mul_emod_self_left]
  have k0 : 0 ≤ a * s := Int.mul_nonneg (Int.le_of_lt ha) b3
  have k1 : a * s + a ≤ a * b := by
    have : a * (s + 1) ≤ a * b := Int.mul_le_mul_of_nonneg_left (by omega) (Int.le_of_lt ha)
    rwa [Int.mul_add, Int.mul_one] at this
  exact Int.emod_eq_of_lt (by omega) (by omega)
theorem valOf_highs (x : Int) : ∀ n, valOf (highs x n) = x / 64 % 64 ^ n
  | 0 => by simp [highs, valOf]
  | n + 1 => by
    rw [highs_succ, valOf_cons, highs_len, valOf_highs x n, Int.pow_succ]
    have p : (0 : Int) < 64 ^ n := Int.pow_pos (by decide)
    rw [mod_mul_add _ _ _ p (by decide)]
    have e : x / 2 ^ (6 * (n + 1)) = x / 64 / 64 ^ n := by
      rw [pow6, Int.pow_succ, Int.mul_comm, ← Int.ediv_ediv_of_nonneg (by decide)]
    rw [e]
    have : (64 + x / 64 / 64 ^ n % 64) % 64 = x / 64 / 64 ^ n % 64 := by omega
    rw [this, Int.mul_comm]
    omega
theorem size_fit {x : Int} (h0 : 0 ≤ x) (h1 : x < 2 ^ 36) : x / 64 < 64 ^ (sizeN x - 1).toNat := by
  have hb := sizeN_bound x
  obtain ⟨m1, m2⟩ := foldl_max (bigs x) 1
  have hx : x < 64 ^ (sizeN x).toNat := by
    by_cases q : sizeN x = 6
    · rw [q]; exact h1
    · have hz : x / 2 ^ (6 * sizeN x).toNat = 0 := by
        apply Classical.byContradiction
        intro hz
        have hm : sizeN x + 1 ∈ bigs x := by
          unfold bigs
          refine List.mem_map.mpr ⟨sizeN x, List.mem_filter.mpr ⟨List.mem_map.mpr ⟨(sizeN x).toNat, List.mem_range.mpr (by omega), by omega⟩, ?_⟩, rfl⟩
          simpa [bigP] using hz
        have h := m2 _ (.tail _ hm)
        have e : (bigs x).foldl max 1 = sizeN x := rfl
        rw [e] at h
        omega
      have e : (6 * sizeN x).toNat = 6 * (sizeN x).toNat := by omega
      rw [e, pow6] at hz
      have p : (0 : Int) < 64 ^ (sizeN x).toNat := Int.pow_pos (by decide)
      have := Int.lt_mul_ediv_self_add (x := x) p
      rw [hz] at this; omega
  have e : (sizeN x).toNat = (sizeN x - 1).toNat + 1 := by omega
  rw [e, Int.pow_succ] at hx
  omega
theorem valOf_octs {x : Int} (k : Nat) (h0 : 0 ≤ x) (h1 : x < 2 ^ 36) : valOf (octsOf x k) = x := by
  unfold octsOf
  rw [valOf_snoc, valOf_highs]
  have hb := sizeN_bound x
  have hf := size_fit h0 h1
  have : (64 : Int) ^ (sizeN x - 1).toNat ≤ 64 ^ (sizeN x + (k : Int) % 3 - 1).toNat := by
    have := Nat.pow_le_pow_right (show 0 < 64 by decide) (show (sizeN x - 1).toNat ≤ (sizeN x + (k : Int) % 3 - 1).toNat by omega)
    exact_mod_cast this
  rw [Int.emod_eq_of_lt (a := x / 64) (by omega) (by omega)]
  omega
/-- the marks, from a place on -/
def markF (turn : Int) (o : Nat) (l : List Int) : List Int := (List.range l.length).map fun i => if (turn + ((o + i : Nat) : Int)) % 3 != 0 then l.getD i 0 else l.getD i 0 + 128
theorem marked_append (turn : Int) (a b : List Int) : marked turn (a ++ b) = marked turn a ++ markF turn a.length b := by
  unfold marked markF
  rw [List.length_append, List.range_add, List.map_append, List.map_map]
  congr 1
  · refine List.map_congr_left fun i hi => ?_
    have hi := List.mem_range.mp hi
    unfold markedAt
    have : (a ++ b).getD i 0 = a.getD i 0 := by simp [List.getD, List.getElem?_append_left hi]
    rw [this]
  · refine List.map_congr_left fun i hi => ?_
    show markedAt turn (a ++ b) (a.length + i) = _
    unfold markedAt
    have : (a ++ b).getD (a.length + i) 0 = b.getD i 0 := by simp [List.getD, List.getElem?_append_right (Nat.le_add_right _ _)]
    rw [this]
theorem markF_snoc (turn : Int) (o : Nat) (a : List Int) (z : Int) : ∃ z', markF turn o (a ++ [z]) = markF turn o a ++ [z'] ∧ (z' = z ∨ z' = z + 128) := by
  refine ⟨if (turn + ((o + a.length : Nat) : Int)) % 3 != 0 then z else z + 128, ?_, by split <;> simp⟩
  unfold markF
  rw [List.length_append, List.length_singleton, List.range_succ, List.map_append]
  congr 1
  · refine List.map_congr_left fun i hi => ?_
    have hi := List.mem_range.mp hi
    have : (a ++ [z]).getD i 0 = a.getD i 0 := by simp [List.getD, List.getElem?_append_left hi]
    rw [this]
  · simp [List.getD]
theorem markF_mem {turn : Int} {o : Nat} {l : List Int} {y : Int} (h : y ∈ markF turn o l) : ∃ z ∈ l, y = z ∨ y = z + 128 := by
  unfold markF at h
  obtain ⟨i, hi, rfl⟩ := List.mem_map.mp h
  have hi := List.mem_range.mp hi
  refine ⟨l.getD i 0, by simp [List.getD, hi], ?_⟩
  split <;> simp
theorem markF_mod (turn : Int) (o : Nat) (l : List Int) : (markF turn o l).map (· % 64) = l.map (· % 64) := by
  unfold markF
  rw [List.map_map]
  have e : l.map (· % 64) = (List.range l.length).map fun i => l.getD i 0 % 64 := by
    conv => lhs; rw [← range_getD l 0]
    rw [List.map_map]; rfl
  rw [e]
  refine List.map_congr_left fun i _ => ?_
  show (if (turn + ((o + i : Nat) : Int)) % 3 != 0 then l.getD i 0 else l.getD i 0 + 128) % 64 = _
  split <;> omega
theorem valOf_mod (l : List Int) : valOf (l.map (· % 64)) = valOf l := by
  unfold valOf
  rw [List.foldl_map]
  congr 1
  funext v b
  omega
theorem chunk_ok (turn : Int) (o : Nat) {x : Int} (k : Nat) (h0 : 0 ≤ x) (h1 : x < 2 ^ 36) : IsChunk (markF turn o (octsOf x k)) ∧ valOf (markF turn o (octsOf x k)) = x := by
  refine ⟨?_, by rw [← valOf_mod, markF_mod, valOf_mod]; exact valOf_octs k h0 h1⟩
  unfold octsOf
  obtain ⟨z, e, hz⟩ := markF_snoc turn o (highs x (sizeN x + (k : Int) % 3 - 1).toNat) (x % 64)
  refine ⟨_, z, e, fun y hy => ?_, ?_, by omega⟩
  · obtain ⟨u, hu, hy⟩ := markF_mem hy
    unfold highs at hu
    obtain ⟨i, _, rfl⟩ := List.mem_map.mp hu
    omega
  · have hb := sizeN_bound x
    unfold markF
    rw [List.length_map, List.length_range, highs_len]; omega
theorem tape_chunks (numbers : List Int) (turn : Int) (hx : ∀ x ∈ numbers, 0 ≤ x ∧ x < 2 ^ 36) : ∀ n, n ≤ numbers.length → ∃ chunks : List (List Int), marked turn (octsTo numbers n) = chunks.flatten ∧ (∀ c ∈ chunks, IsChunk c) ∧ chunks.map valOf = numbers.take n
  | 0, _ => ⟨[], rfl, (fun _ h => nomatch h), rfl⟩
  | n + 1, hn => by
    obtain ⟨cs, h1, h2, h3⟩ := tape_chunks numbers turn hx n (by omega)
    have hg : numbers.getD n 0 = numbers[n] := by simp [List.getD, (show n < numbers.length from hn)]
    have hb := hx numbers[n] (List.getElem_mem _)
    obtain ⟨c1, c2⟩ := chunk_ok turn (octsTo numbers n).length n hb.1 hb.2
    refine ⟨cs ++ [markF turn (octsTo numbers n).length (octsOf numbers[n] n)], ?_, fun c hc => ?_, ?_⟩
    · show marked turn (octsTo numbers n ++ octsOf (numbers.getD n 0) n) = _
      rw [marked_append, h1, hg]; simp
    · rcases List.mem_append.mp hc with hc | hc
      · exact h2 c hc
      · rw [List.mem_singleton.mp hc]; exact c1
    · rw [List.map_append, h3, List.take_add_one, List.getElem?_eq_getElem hn]
      simp [c2]
theorem tape_read (numbers : List Int) (turn : Int) (hx : ∀ x ∈ numbers, 0 ≤ x ∧ x < 2 ^ 36) : ∃ (chunks : List (List Int)) (tl : List Int), tapeOf numbers turn = chunks.flatten ++ tl ∧ (∀ c ∈ chunks, IsChunk c) ∧ (∀ x ∈ tl, x / 64 % 2 = 1) ∧ tl.length ≤ 8 ∧ chunks.map valOf = numbers := by
  obtain ⟨cs, h1, h2, h3⟩ := tape_chunks numbers turn hx numbers.length (Nat.le_refl _)
  refine ⟨cs, (List.replicate (turn % 2).toNat [(65 : Int)]).flatten, by rw [← h1]; rfl, h2, fun x hx => ?_, ?_, by rw [h3, List.take_length]⟩
  · obtain ⟨l, hl, hx⟩ := List.mem_flatten.mp hx
    rw [(List.mem_replicate.mp hl).2] at hx
    rw [List.mem_singleton.mp hx]; decide
  · simp; omega
theorem tape_len (numbers : List Int) (turn : Int) (hn : numbers.length ≤ 100) : (tapeOf numbers turn).length ≤ 1000 := by
  have := octsTo_len numbers numbers.length
  unfold tapeOf marked
  simp
  omega

section
open PySem.StrLaws PySem.Builtin PySem.Builtin.Str

/-! ## A joined text, split again -/
theorem sep_len : (", " : Str).length = 2 := by decide +kernel
theorem sep_list : (", " : Str).cps.toList = [44, 32] := by decide +kernel
theorem at_iff (x : Str) (k : Nat) (h : k + 2 ≤ x.length) : At x ", " x.length k ↔ (x.cps.toList.drop k).take 2 = [44, 32] := by
  constructor
  · intro a
    have := a.2
    rw [subAt_eq, sep_len, sep_list] at this
    exact eq_of_beq this
  · intro e
    refine ⟨by rw [sep_len]; exact h, ?_⟩
    rw [subAt_eq, sep_len, sep_list, e]; rfl
theorem at_comma (x : Str) (k : Nat) (h : At x ", " x.length k) : x.cps.toList[k]? = some 44 := by
  have hl := h.1
  rw [sep_len] at hl
  have := (at_iff x k hl).mp h
  have h2 : ((x.cps.toList.drop k).take 2)[0]? = some 44 := by rw [this]; rfl
  rw [List.getElem?_take_of_lt (by decide), List.getElem?_drop] at h2
  exact h2
theorem parts_join (x : Str) : ∀ (ls : List Str) (a : Nat) (cuts : List Nat) (f : Nat), ls ≠ [] → (∀ p ∈ ls, 44 ∉ p.cps.toList) → x.cps.toList.drop a = (Str.join ", " ls).cps.toList → a ≤ x.length →
    ChainG x ", " x.length a cuts f → (∀ k, f ≤ k → ¬ At x ", " x.length k) → partsFrom x 2 a cuts = ls
  | [], _, _, _, h, _, _, _, _, _ => absurd rfl h
  | [p], a, cuts, f, _, hp, hd, ha, hG, hf => by
    have hxl : x.cps.toList.length = x.length := by simp [Str.length]
    have hd' : x.cps.toList.drop a = p.cps.toList := hd
    have hnone : ∀ k, a ≤ k → ¬ At x ", " x.length k := fun k hk hA => by
      have h1 := at_comma x k hA
      have h2 : (x.cps.toList.drop a)[k - a]? = some 44 := by rw [List.getElem?_drop, show a + (k - a) = k by omega]; exact h1
      rw [hd'] at h2
      exact hp p (.head _) (List.mem_of_getElem? h2)
    cases cuts with
    | nil =>
      show [strSub x a x.length] = [p]
      congr 1
      apply Str.ext'
      apply Array.toList_inj.mp
      rw [strSub_toList, hd']
      refine List.take_of_length_le ?_
      have := congrArg List.length hd'
      rw [List.length_drop] at this; omega
    | cons c r => exact absurd hG.2.1 (hnone c hG.1)
  | p :: q :: r, a, cuts, f, _, hp, hd, ha, hG, hf => by
    have hxl : x.cps.toList.length = x.length := by simp [Str.length]
    have hd' : x.cps.toList.drop a = p.cps.toList ++ [44, 32] ++ (Str.join ", " (q :: r)).cps.toList := by
      rw [hd]
      show (p ++ ", " ++ Str.join ", " (q :: r)).cps.toList = _
      rw [Str.cps_append, Str.cps_append, Array.toList_append, Array.toList_append, sep_list]
    have hlen := congrArg List.length hd'
    rw [List.length_drop, List.length_append, List.length_append, hxl] at hlen
    simp only [List.length_cons, List.length_nil] at hlen
    have hpl : p.cps.toList.length = p.length := by simp [Str.length]
    rw [hpl] at hlen
    have hAt : At x ", " x.length (a + p.length) := by
      refine (at_iff x _ (by omega)).mpr ?_
      rw [← List.drop_drop, hd', List.append_assoc, ← hpl, List.drop_left]
      rfl
    have hfree : ∀ k, a ≤ k → k < a + p.length → ¬ At x ", " x.length k := fun k h1 h2 hA => by
      have h3 := at_comma x k hA
      have h4 : (x.cps.toList.drop a)[k - a]? = some 44 := by rw [List.getElem?_drop, show a + (k - a) = k by omega]; exact h3
      rw [hd', List.append_assoc, List.getElem?_append_left (by omega)] at h4
      exact hp p (.head _) (List.mem_of_getElem? h4)
    cases cuts with
    | nil =>
      have ef : f = a := hG
      exact absurd hAt (hf _ (by omega))
    | cons c s =>
      have hc : c = a + p.length := by
        rcases Nat.lt_trichotomy c (a + p.length) with h | h | h
        · exact absurd hG.2.1 (hfree c hG.1 h)
        · exact h
        · exact absurd hAt (hG.2.2.1 _ (by omega) h)
      subst hc
      show strSub x a (a + p.length) :: partsFrom x 2 (a + p.length + 2) s = p :: q :: r
      have e1 : strSub x a (a + p.length) = p := by
        apply Str.ext'
        apply Array.toList_inj.mp
        rw [strSub_toList, hd', List.append_assoc, show a + p.length - a = p.cps.toList.length by omega, List.take_left]
      have hG' := hG.2.2.2
      rw [sep_len] at hG'
      rw [e1, parts_join x (q :: r) (a + p.length + 2) s f (by simp) (fun z hz => hp z (.tail _ hz)) ?_ (by omega) hG' hf]
      rw [show a + p.length + 2 = a + (p.length + 2) by omega, ← List.drop_drop, hd', ← hpl]
      have : (p.cps.toList ++ [44, 32]).length = p.cps.toList.length + 2 := by simp
      rw [← this, List.drop_left]
theorem split_join (ls : List Str) (hne : ls ≠ []) (hp : ∀ p ∈ ls, 44 ∉ p.cps.toList) : Txt.split (Str.join ", " ls) ", " = ls := by
  have k1 : strKind ", " = 1 := by decide +kernel
  have kx : ∀ x : Str, 1 ≤ strKind x := fun x => by unfold Str.strKind; split <;> (try split) <;> omega
  obtain ⟨f, hG, hf⟩ := occ_tight (Str.join ", " ls) ", " (by rw [sep_len]; decide)
  have hx : ∀ x, x = Str.join ", " ls → Txt.split x ", " = ls := by
    intro x ex
    rw [← ex] at hG hf
    have hpj : partsFrom x 2 0 (occurrences x ", " 0 x.length (x.length + 1)) = ls := parts_join x ls 0 _ f hne hp (by rw [List.drop_zero, ex]) (Nat.zero_le _) hG hf
    unfold Txt.split
    by_cases hz : (occurrences x ", " 0 x.length (x.length + 1)) = []
    · rw [hz] at hpj
      have e : [x] = ls := by
        rw [← hpj]
        show [x] = [strSub x 0 x.length]
        rw [sub_whole]
      rw [hz]
      split
      · exact e
      · rw [if_pos (by rfl)]; exact e
    · have hlen : 2 ≤ x.length := by
        obtain ⟨c, r, e⟩ := List.exists_cons_of_ne_nil hz
        rw [e] at hG
        have := hG.2.1.1
        rw [sep_len] at this; omega
      rw [if_neg, if_neg, partsBetween_eq, sep_len, hpj]
      · simpa [List.isEmpty_iff] using hz
      · rw [k1, sep_len]
        have := kx x
        simp; omega
  exact hx _ rfl
theorem join_eq (sep : Str) (ls : List Str) : Txt.join sep ls = Str.join sep ls := glued_eq_join sep ls

theorem word_free : ∀ i, i < 32 → 44 ∉ (wordN i).cps.toList := by decide +kernel
theorem word_ok : ∀ i, i < 32 → PyData.strOk (wordN i) = true := by decide +kernel
theorem wordsTo_mem {f : Int} {n : Nat} {x : Str} (h : x ∈ wordsTo f n) : ∃ i, i < n ∧ x = wordN i := by
  unfold wordsTo at h
  obtain ⟨i, hi, rfl⟩ := List.mem_map.mp h
  exact ⟨i, List.mem_range.mp (List.mem_filter.mp hi).1, rfl⟩
theorem split_words (f : Int) (hne : wordsTo f 32 ≠ []) : Txt.split (Txt.join ", " (wordsTo f 32)) ", " = wordsTo f 32 := by
  rw [join_eq]
  exact split_join _ hne fun p hp => by
    obtain ⟨i, hi, rfl⟩ := wordsTo_mem hp
    exact word_free i hi
theorem join_words_len (f : Int) : (Txt.join ", " (wordsTo f 32)).length ≤ 1000 := by
  rw [join_eq]
  have h1 := join_length_le ", " (wordsTo f 32)
  have h2 := wordsTo_sum f 32 (by decide)
  have h3 := wordsTo_len f 32
  rw [sep_len] at h1
  omega
theorem cuts_len (x : Str) (hx : x.length ≤ 1000) : (partsBetween x (occurrences x ", " 0 x.length (x.length + 1)) (", " : Str).length).length ≤ 100000 := by
  have h1 := occ_length_le x ", " 0 x.length (x.length + 1)
  unfold partsBetween
  simp only [List.length_map, List.length_zip, List.length_cons, List.length_append, List.length_nil]
  omega

/-! ## What pretty_flags tells of the law's sets -/
theorem pretty_mask (ns : List Int) : prettyL (maskL (csOf ns)) = wordsTo (maskL (csOf ns)) 32 ∧ wordsTo (maskL (csOf ns)) 32 ≠ [] := by
  obtain ⟨h0, h1, h2⟩ := mask_bits (cs_nd ns) (cs_rg ns)
  have hc := count_mask (cs_nd ns) (cs_rg ns)
  have hp := cs_pos ns
  have hne : wordsTo (maskL (csOf ns)) 32 ≠ [] := fun e => by rw [e] at hc; simp at hc; omega
  refine ⟨?_, hne⟩
  unfold prettyL
  rw [if_neg, List.append_nil]
  rintro (q | q)
  · rw [q] at hne; exact hne (by decide)
  · exact q h1
theorem hex_neg : baseText "0x" 16 (-1 * 2 ^ 32) = "-0x100000000" := by decide +kernel
theorem pretty_rest (ns : List Int) : prettyL (-1 - maskL (csOf ns)) = wordsTo (-1 - maskL (csOf ns)) 32 ++ [("-0x100000000" : Str)] := by
  obtain ⟨h0, h1, h2⟩ := mask_bits (cs_nd ns) (cs_rg ns)
  unfold prettyL
  rw [neg_div, h1, if_pos (.inr (by decide))]
  rw [show (-1 - (0 : Int)) * 2 ^ 32 = -1 * 2 ^ 32 by decide, hex_neg]
def goneOf (ns : List Int) : List Int := (bothN (planL ns) (homeOf ns) 60).gone
theorem gone_any (ns : List Int) (k : Int) : (goneOf ns).any (· == k) = decide (k ∈ csOf ns) := by
  have h := gone_iff (plan_ok ns) (home_ok ns).1 (home_ok ns).2 k
  rw [Bool.eq_iff_iff, List.any_eq_true, decide_eq_true_eq]
  show _ ↔ k ∈ (walkN (planL ns) (homeOf ns) 32).controls
  rw [← h]
  constructor
  · rintro ⟨x, hx, e⟩
    rw [← eq_of_beq e]; exact hx
  · intro hk
    exact ⟨k, hk, by simp⟩
theorem words_in (ns : List Int) : ((List.range 32).filter fun i : Nat => (goneOf ns).any (· == (i : Int))).map wordN = wordsTo (maskL (csOf ns)) 32 := by
  rw [wordsTo_congr (p := fun i => (goneOf ns).any (· == (i : Int))) fun i _ => by rw [gone_any]; exact bit_mask (cs_nd ns) (cs_rg ns) i]
theorem words_out (ns : List Int) : ((List.range 32).filter fun i : Nat => !(goneOf ns).any (· == (i : Int))).map wordN = wordsTo (-1 - maskL (csOf ns)) 32 := by
  rw [wordsTo_congr (p := fun i => !(goneOf ns).any (· == (i : Int))) fun i _ => by rw [gone_any]; exact bit_neg (cs_nd ns) (cs_rg ns) i]
theorem came_all (ns : List Int) : ((((wordsTo (maskL (csOf ns)) 32).length : Nat) : Int) == 32) = ((List.range 16).map fun i : Nat => (leadN (planL ns) (homeOf ns) (i : Int) 16 == homeOf ns)).all id := by
  rw [← full_iff (plan_ok ns) (home_ok ns).1 (home_ok ns).2, count_mask (cs_nd ns) (cs_rg ns)]
  show _ = ((csOf ns).length == 32)
  rw [Bool.eq_iff_iff, beq_iff_eq, beq_iff_eq]
  omega
/-- what stands above, as the law tells it -/
def aboveL (high : Int) : List Str := if high = 0 then [] else [((if high < 0 then "-0x" else "0x" : Str) ++ Str.ofString (toString (if high < 0 then -high else high))) ++ "00000000"]
theorem above_fact : ∀ n : Fin 5, ((n : Nat) : Int) - 2 = 0 ∨ aboveL (((n : Nat) : Int) - 2) = [baseText "0x" 16 ((((n : Nat) : Int) - 2) * 2 ^ 32)] := by decide +kernel
theorem above_eq {high : Int} (h0 : -2 ≤ high) (h1 : high ≤ 2) (hz : high ≠ 0) : aboveL high = [baseText "0x" 16 (high * 2 ^ 32)] := by
  have := above_fact ⟨(high + 2).toNat, by omega⟩
  have e : (((high + 2).toNat : Nat) : Int) - 2 = high := by omega
  rw [e] at this
  exact this.resolve_left hz
theorem hex_zero : baseText "0x" 16 0 = "0x0" := by decide +kernel
theorem pretty_due {low high : Int} {n : Nat} (l0 : 0 ≤ low) (l1 : low < 2 ^ n) (hn : n ≤ 32) (h0 : -2 ≤ high) (h1 : high ≤ 2) :
    prettyL (low + high * 2 ^ 32) = if wordsTo low n ++ aboveL high = [] then [("0x0" : Str)] else wordsTo low n ++ aboveL high := by
  have l2 : low < 2 ^ 32 := by
    have : (2 : Int) ^ n ≤ 2 ^ 32 := by
      have := Nat.pow_le_pow_right (show 0 < 2 by decide) hn
      exact_mod_cast this
    omega
  have hd : (low + high * 2 ^ 32) / 2 ^ 32 = high := by omega
  have hw : wordsTo (low + high * 2 ^ 32) 32 = wordsTo low n := by
    rw [← low_stop l0 l1 hn]
    refine wordsTo_congr (p := bitB low) fun i hi => ?_
    unfold bitB
    have : (low + high * 2 ^ 32) / 2 ^ i % 2 = low / 2 ^ i % 2 := by
      obtain ⟨d, hd⟩ := Nat.exists_eq_add_of_lt hi
      have e : (2 : Int) ^ 32 = 2 ^ d * 2 * 2 ^ i := by
        rw [hd, Int.pow_succ, Int.pow_add, Int.mul_comm (2 ^ i), Int.mul_right_comm]
      rw [e, ← Int.mul_assoc, Int.add_mul_ediv_right _ _ (Int.ne_of_gt (pow_pos2 i)), ← Int.mul_assoc]
      omega
    rw [this]
  unfold prettyL
  rw [hw, hd]
  by_cases hz : high = 0
  · subst hz
    have ha : aboveL 0 = [] := rfl
    rw [ha, List.append_nil, Int.zero_mul, Int.add_zero]
    by_cases lz : low = 0
    · rw [if_pos (.inl lz), lz]
      have : wordsTo 0 n = [] := by
        unfold wordsTo
        rw [List.map_eq_nil_iff, List.filter_eq_nil_iff]
        intro i _
        simp [bitB]
      rw [this, hex_zero]; rfl
    · rw [if_neg, List.append_nil, if_neg]
      · intro e
        apply lz
        refine zero_of_bits n l0 l1 fun i hi => ?_
        unfold wordsTo at e
        rw [List.map_eq_nil_iff, List.filter_eq_nil_iff] at e
        simpa using e i (List.mem_range.mpr hi)
      · rintro (q | q)
        · exact lz q
        · exact q rfl
  · rw [if_pos (.inr hz), above_eq h0 h1 hz, if_neg (by simp)]
theorem shown_ok {z : Int} (h0 : 0 ≤ z) (h1 : z < 32) : PyData.strOk (shown z) = true := by
  unfold PyData.strOk shown
  simp
  omega
end

/-! ## law, third part: mask, gone, came -/
section
variable {prog : Program} {w : World} {A : Around} {mg mb : Str → Option Value} {B H h base : Heap} {env : Env} {outer : List Env} {ρ : Vars} {σ s : Shared} {t : Nat} {px pos : Pos} {Q : Flow → Shared → Prop} {E : Value → Shared → Prop}
theorem getD_ints_mem (l : List Int) {i : Nat} (hi : i < l.length) : l.getD i 0 ∈ l := by simp [List.getD, hi]
set_option maxHeartbeats 1000000 in
theorem seg3 {cn cp cc cw cb : Addr} {cs plan gone : List Int} {home num turn mask : Int} {came : List Str} {leads : List Bool} (W : Wd mg mb B) (ft : FT prog w mg B) (FE : FEnv (sc 19) env) (okA : OkA 8 A) (S : St mg mb B H env ([(Str.ofString "book", AV.ref cb), (Str.ofString "words", AV.ref cw), (Str.ofString "size", AV.int (cs.length : Int)), (Str.ofString "number", AV.int num), (Str.ofString "controls", AV.ref cc), (Str.ofString "plan", AV.ref cp), (Str.ofString "home", AV.int home), (Str.ofString "turn", AV.int turn), (Str.ofString "numbers", AV.ref cn)] : Vars) [] h) (hP : Is H cp (.ints false plan)) (hC : Is H cc (.ints true cs))
    (hcs : ∀ z ∈ cs, 0 ≤ z ∧ z < 32) (hcl : cs.length ≤ 32) (hh : 0 ≤ home ∧ home < 16) (hpl : IsPlan plan) (hmask : (cs.map fun c => (2 : Int) ^ c.toNat).sum = mask) (hms : 0 ≤ mask ∧ mask < 2 ^ 32) (hgone : (bothN plan home 60).gone = gone) (hpr : prettyL mask = came) (hjl : (Txt.join ", " came).length ≤ 1000)
    (hsp : Txt.split (Txt.join ", " came) ", " = came) (hcl2 : came.length ≤ 32) (hleads : ((List.range 16).map fun i : Nat => (leadN plan home (i : Int) 16 == home)) = leads) (hall : (((came.length : Nat) : Int) == 32) = leads.all id)
    (k : ∀ cg ca H' h' t', Keep H H' → Is H' cg (.ints true gone) → Is H' ca (.strs false came) → St mg mb B H' env ([(Str.ofString "came", AV.ref ca), (Str.ofString "gone", AV.ref cg), (Str.ofString "mask", AV.int mask), (Str.ofString "book", AV.ref cb), (Str.ofString "words", AV.ref cw), (Str.ofString "size", AV.int (cs.length : Int)), (Str.ofString "number", AV.int num), (Str.ofString "controls", AV.ref cc), (Str.ofString "plan", AV.ref cp), (Str.ofString "home", AV.int home), (Str.ofString "turn", AV.int turn), (Str.ofString "numbers", AV.ref cn)] : Vars) [] h' → wpAny (model prog w) A (execs ((boOf (stm 19)).drop 11) env) Q E (Sm σ h' t')) :
    wpAny (model prog w) A (execs ((boOf (stm 19)).drop 8) env) Q E (Sm σ h t) := by
  have nb := W.nb
  have fb := f_both (prog := prog) (w := w) W home plan false hh hpl
  rw [hgone] at fb
  refine ex_assignT (xs := ["mask", "gone"]) (ss := [.val (.int mask), .new (.ints true gone)]) okA.hd S
    (sl_val ?sum (sl_new (den_sp S.cx fb (OkA.le okA (by decide)) isN_down (by walk_at "gl") (by decide +kernel) (argsT_more (by walk_at "E") (argsT_more (den_obj S.cx (c := cp) (by walk_at "lk") (by walk_at "own") (by decide +kernel) (hP.up S.keep)) argsT_none isO_up rfl) is_up rfl)) sl_none rfl) rfl)
    (by intro x hx; simp only [List.mem_cons, List.not_mem_nil, or_false] at hx; rcases hx with rfl | rfl <;> walk_at "sto") rfl rfl rfl ?tr ?k (by decide) (hw := FE.swap (by kernel_rfl))
  case tr =>
    intro i tr x v s Q h1 h2 hq
    match i, h1, h2 with
    | 0, h1, h2 => cases h1; cases h2; exact wpAny_assign_Name hq
    | 1, h1, h2 => cases h1; cases h2; exact wpAny_assign_Name hq
  case sum =>
    rw [← hmask]
    (with_reducible refine' b_sum (p := true) (ns := (cs.map fun c => (2 : Int) ^ c.toNat)) okA.hd S.cx nb ?k3 ?k4 ?k9)
    case k3 => walk_at "gl"
    case k9 => exact rfl
    refine DenG.old ?_
    have e : MO.ints true (cs.map fun c => (2 : Int) ^ c.toNat) = .list true ((((List.range cs.length).map fun i => AV.int (cs.getD i 0)).filter fun _ => true).map (fun a => match a with | .int z => .int (2 ^ z.toNat) | a => a)) := by
      rw [comp_ints (g := fun z => 2 ^ z.toNat) (fun _ => rfl), List.filter_eq_self.mpr (fun _ _ => rfl), range_getD]
    rw [e]
    refine den_comp (fun _ => true) _ [] [] FE S.cx Sub.nil (by decide +kernel) rfl (src_ints okA.hd S.cx (by walk_at "lk") (by walk_at "own") (by decide +kernel) hC S.keep) (Nat.le_trans hcl (by decide)) (fun i h' cenv hi k CE C => ifs_none) (fun i h' cenv hi _ k CE C => ?_)
    have hz := hcs _ (getD_ints_mem cs hi)
    show Den _ _ _ _ _ (is (.int (2 ^ (cs.getD i 0).toNat)))
    obtain ⟨m, hm⟩ := Int.eq_ofNat_of_zero_le hz.1
    rw [hm] at C ⊢
    rw [Int.toNat_natCast]
    exact den_pow2 (by walk_at "E") (by walk_at "E") (by omega)
  case k =>
    intro as μ' h₂ t₂ hs S₂
    cases hs with | val hs => cases hs with | new hs => cases hs with | nil =>
    rename_i cg
    simp only [addV, List.nil_append, List.cons_append] at S₂
    have hG₂ : Is h₂ cg (.ints true gone) := S₂.l1
    obtain ⟨H₁, k₁, S₃, kI, _⟩ := S₂.freeze
    have hG := kI _ _ hG₂
    refine ex_assignF S₃ (m := .strs false came) ?came (by walk_at "sto") fun ca H₄ h₄ t₄ k₄ hA S₄ => ?_
    case came =>
      show Den _ _ _ _ _ (isO (.strs false came))
      have fl := f_flags (prog := prog) (w := w) W ft mask (by omega)
      rw [hpr] at fl
      have d := den_split (prog := prog) (w := w) (A := A) (h := h₂) (env := env) (x := Txt.join ", " came) (y := ", ") (ov := .Call (.Name "pretty_flags" ⟨131, 11, 131, 23⟩) [.Name "mask" ⟨131, 24, 131, 28⟩] [] ⟨131, 11, 131, 29⟩) (e := .Constant (.str ", ") 0 ⟨131, 36, 131, 40⟩) (ap := ⟨131, 11, 131, 35⟩) (cp := ⟨131, 11, 131, 41⟩) (den_sp S₃.cx fl (OkA.le okA (by decide)) any_down (by walk_at "gl") (by decide +kernel) (by walk_at "A")) (by walk_at "E") (by decide +kernel) (by omega) (cuts_len _ hjl)
      rw [hsp] at d
      exact d
    have hP₄ := hP.up (k₁.trans k₄)
    refine ex_if (c := false) S₄ ?t (fun e => by cases e) (fun _ h₅ t₅ S₅ => ?_)
    case t =>
      have hlen := b_len (prog := prog) (w := w) (A := A) (px := ⟨132, 8, 132, 11⟩) (pos := ⟨132, 8, 132, 17⟩) (e := .Name "came" ⟨132, 12, 132, 16⟩) (p := false) (xs := came.map AV.str) S₄.cx nb (by walk_at "gl") (den_obj S₄.cx (c := ca) (by walk_at "lk") (by walk_at "own") (by decide +kernel) (hA.up S₄.keep)) (by rw [List.length_map]; omega)
      rw [List.length_map] at hlen
      refine test_neB (a := (((came.length : Nat) : Int) == 32)) (b := leads.all id) (den_cmpI hlen (by walk_at "E") (by rfl)) ?all (by rw [hall]; simp)
      (with_reducible refine' b_all (p := true) (bs := leads) okA.hd S₄.cx nb ?m3 ?m4 ?m9)
      case m3 => walk_at "gl"
      case m9 => exact rfl
      refine DenG.old ?_
      have e : MO.list true (leads.map AV.bool) = .list true ((((List.range 16).map fun i : Nat => AV.int (i : Int)).filter fun _ => true).map (fun a => match a with | .int z => .bool (leadN plan home z 16 == home) | a => a)) := by
        rw [List.filter_eq_self.mpr (fun _ _ => rfl), ← hleads, List.map_map, List.map_map]
        rfl
      rw [e]
      refine den_comp (H := H₄) (fun _ => true) _ ([(Str.ofString "home", AV.int home), (Str.ofString "plan", AV.ref cp)] : Vars) ["home", "plan"] FE S₄.cx (by walk_at "sub") (by decide +kernel) rfl (src_range1 (N := 16) okA.hd S₄.cx nb (by walk_at "gl") (by walk_at "E") (by rfl) (by decide)) (by decide) (fun i h' cenv hi k CE C => ifs_none) (fun i h' cenv hi _ k CE C => ?_)
      exact den_sp C (f_leads W (i : Int) home plan false (by omega) hpl.1) (OkA.le okA (by decide)) any_down (by walk_at "gl") (by decide +kernel) (argsT_more (by walk_at "E") (argsT_more (den_obj C (c := cp) (by walk_at "lk") (by walk_at "own") (by decide +kernel) (hP₄.up (S₄.keep.trans k))) (argsT_more (by walk_at "E") argsT_none is_up rfl) isO_up rfl) is_up rfl)
    refine ex_nil ?_
    exact k cg ca H₄ h₅ t₅ (k₁.trans k₄) (hG.up k₄) hA (S₅.sub (by walk_at "sub"))
end

/-! ## law, fourth part: lacks, and what came -/
def inP (gone : List Int) (b : Bool) : AV → Bool
  | .int z => gone.any (· == z) == b
  | _ => false
def wordO : AV → AV
  | .int z => .str (wordN z.toNat)
  | a => a
theorem words_comp2 (gone : List Int) (b : Bool) : ((((List.range 32).map fun i : Nat => AV.int (i : Int)).filter (inP gone b)).map wordO) = (((List.range 32).filter fun i : Nat => gone.any (· == (i : Int)) == b).map wordN).map AV.str := by
  rw [List.filter_map, List.map_map, List.map_map]
  rfl
theorem words_get {i : Nat} (hi : i < 32) : (wordsL.map AV.str)[((i : Nat) : Int).toNat]? = some (.str (wordN i)) := by
  rw [Int.toNat_natCast]; unfold wordsL; simp [hi]
section
variable {prog : Program} {w : World} {A : Around} {mg mb : Str → Option Value} {B H h base : Heap} {env : Env} {outer : List Env} {ρ : Vars} {σ s : Shared} {t : Nat} {px pos : Pos} {Q : Flow → Shared → Prop} {E : Value → Shared → Prop}
set_option maxHeartbeats 1000000 in
theorem seg4 {cn cp cc cw cb ca cg : Addr} {cs gone : List Int} {home num turn mask : Int} {came lk : List Str} (W : Wd mg mb B) (ft : FT prog w mg B) (FE : FEnv (sc 19) env) (okA : OkA 8 A) (S : St mg mb B H env ([(Str.ofString "came", AV.ref ca), (Str.ofString "gone", AV.ref cg), (Str.ofString "mask", AV.int mask), (Str.ofString "book", AV.ref cb), (Str.ofString "words", AV.ref cw), (Str.ofString "size", AV.int (cs.length : Int)), (Str.ofString "number", AV.int num), (Str.ofString "controls", AV.ref cc), (Str.ofString "plan", AV.ref cp), (Str.ofString "home", AV.int home), (Str.ofString "turn", AV.int turn), (Str.ofString "numbers", AV.ref cn)] : Vars) [] h) (hW : Is H cw (.strs true wordsL)) (hG : Is H cg (.ints true gone)) (hA : Is H ca (.strs false came))
    (hms : 0 ≤ mask ∧ mask < 2 ^ 32) (hin : ((List.range 32).filter fun i : Nat => gone.any (· == (i : Int)) == true).map wordN = came) (hout : ((List.range 32).filter fun i : Nat => gone.any (· == (i : Int)) == false).map wordN = lk) (hcok : ∀ x ∈ came, PyData.strOk x = true)
    (hpr : prettyL (-1 - mask) = lk ++ [("-0x100000000" : Str)]) (hlk : lk.length ≤ 32) (hjl : ((lk ++ [("-0x100000000" : Str)]).map (·.length)).sum + (lk ++ [("-0x100000000" : Str)]).length * (", " : Str).length ≤ 16777216)
    (k : ∀ cl H' h' t', Keep H H' → St mg mb B H' env ([(Str.ofString "lacks", AV.ref cl), (Str.ofString "came", AV.ref ca), (Str.ofString "gone", AV.ref cg), (Str.ofString "mask", AV.int mask), (Str.ofString "book", AV.ref cb), (Str.ofString "words", AV.ref cw), (Str.ofString "size", AV.int (cs.length : Int)), (Str.ofString "number", AV.int num), (Str.ofString "controls", AV.ref cc), (Str.ofString "plan", AV.ref cp), (Str.ofString "home", AV.int home), (Str.ofString "turn", AV.int turn), (Str.ofString "numbers", AV.ref cn)] : Vars) [] h' → wpAny (model prog w) A (execs ((boOf (stm 19)).drop 13) env) Q E (Sm σ h' t')) :
    wpAny (model prog w) A (execs ((boOf (stm 19)).drop 11) env) Q E (Sm σ h t) := by
  have nb := W.nb
  refine ex_assignF S (m := .strs true (lk ++ [("-0x100000000" : Str)])) ?lacks (by walk_at "sto") fun cl H₁ h₁ t₁ k₁ hL S₁ => ?_
  case lacks =>
    refine DenG.old ?_
    have e : MO.strs true (lk ++ [("-0x100000000" : Str)]) = .list true (((((List.range 32).map fun i : Nat => AV.int (i : Int)).filter (inP gone false)).map wordO) ++ [AV.str "-0x100000000"]) := by
      rw [words_comp2, hout]; simp
    rw [e]
    refine den_catL (p := true) (q := true) (DenG.old ?_) (den_list (oks_more (by walk_at "E") oks_none rfl) (by decide)).old (by rw [words_comp2, hout, List.length_map]; simp; omega)
    refine den_comp (H := H) (inP gone false) wordO ([(Str.ofString "gone", AV.ref cg), (Str.ofString "words", AV.ref cw)] : Vars) ["gone", "words"] FE S.cx (by walk_at "sub") (by decide +kernel) rfl (src_range1 (N := 32) okA.hd S.cx nb (by walk_at "gl") (by walk_at "E") (by rfl) (by decide)) (by decide) (fun i h' cenv hi k CE C => ifs_one ?_) (fun i h' cenv hi _ k CE C => ?_)
    · show Den _ _ _ _ _ (isT (gone.any (· == (i : Int)) == false))
      (with_reducible refine' test_notin (p := true) (ns := gone) ?a1 ?a2 ?a3 ?a4)
      case a1 => walk_at "E"
      case a2 => exact den_obj C (c := cg) (by walk_at "lk") (by walk_at "own") (by decide +kernel) (hG.up (S.keep.trans k))
      case a3 => cases gone.any (· == (i : Int)) <;> rfl
      case a4 => with_unfolding_all rfl
    · show Den _ _ _ _ _ (is (.str (wordN (i : Int).toNat)))
      rw [Int.toNat_natCast]
      exact den_item (p := true) (by walk_at "E") (by walk_at "E") (hW.up (S.keep.trans k)) (by omega) (by omega) (words_get hi)
  refine ex_if (c := false) S₁ ?t (fun e => by cases e) (fun _ h₂ t₂ S₂ => ?_)
  case t =>
    rw [show false = (false || false) from rfl]
    refine test_or ?_ (fun _ => ?_)
    · refine test_neSs (p := false) (q := true) (ns := came) (by have := okA.un; omega) hcok (den_obj S₁.cx (c := ca) (by walk_at "lk") (by walk_at "own") (by decide +kernel) (hA.up (k₁.trans S₁.keep))) (DenG.old ?_) (by with_unfolding_all rfl)
      have e : MO.strs true came = .list true ((((List.range 32).map fun i : Nat => AV.int (i : Int)).filter (inP gone true)).map wordO) := by
        rw [words_comp2, hin]
      rw [e]
      refine den_comp (H := H) (inP gone true) wordO ([(Str.ofString "gone", AV.ref cg), (Str.ofString "words", AV.ref cw)] : Vars) ["gone", "words"] FE S₁.cx (by walk_at "sub") (by decide +kernel) rfl (src_range1 (N := 32) okA.hd S₁.cx nb (by walk_at "gl") (by walk_at "E") (by rfl) (by decide)) (by decide) (fun i h' cenv hi k CE C => ifs_one ?_) (fun i h' cenv hi _ k CE C => ?_)
      · show Den _ _ _ _ _ (isT (gone.any (· == (i : Int)) == true))
        (with_reducible refine' test_in (p := true) (ns := gone) ?b1 ?b2 ?b3 ?b4)
        case b1 => walk_at "E"
        case b2 => exact den_obj C (c := cg) (by walk_at "lk") (by walk_at "own") (by decide +kernel) (hG.up (k₁.trans (S₁.keep.trans k)))
        case b3 => cases gone.any (· == (i : Int)) <;> rfl
        case b4 => with_unfolding_all rfl
      · show Den _ _ _ _ _ (is (.str (wordN (i : Int).toNat)))
        rw [Int.toNat_natCast]
        exact den_item (p := true) (by walk_at "E") (by walk_at "E") (hW.up (k₁.trans (S₁.keep.trans k))) (by omega) (by omega) (words_get hi)
    · have fl := f_flags (prog := prog) (w := w) W ft (-1 - mask) (by omega)
      rw [hpr] at fl
      (with_reducible refine' test_cmpS (x := Txt.join ", " (lk ++ [("-0x100000000" : Str)])) (y := Txt.join ", " (lk ++ [("-0x100000000" : Str)])) ?c1 ?c2 ?c3 ?c4)
      case c1 => exact den_sp S₁.cx fl (OkA.le okA (by decide)) any_down (by walk_at "gl") (by decide +kernel) (by walk_at "A")
      case c2 => exact den_join (p := true) (by walk_at "E") (den_obj S₁.cx (c := cl) (by walk_at "lk") (by walk_at "own") (by decide +kernel) (hL.up S₁.keep)) hjl
      case c3 =>
        show some _ = some _
        simp
      case c4 => with_unfolding_all rfl
  refine ex_nil ?_
  exact k cl H₁ h₂ t₂ k₁ (S₂.sub (by walk_at "sub"))
end

section
variable {prog : Program} {w : World} {A : Around} {mg mb : Str → Option Value} {B H h h' base : Heap} {env : Env} {outer : List Env} {ρ : Vars} {μ : Led} {σ s : Shared} {t : Nat} {v : Value} {E : Value → Shared → Prop} {e e1 e2 r kx vx elt iter : Expr} {x y z : Str} {rest : List Stmt} {Q : Flow → Shared → Prop} {pos px py pz pn cp tp spos : Pos} {cs fs scope : Scope}

/-- if f(e) != r: .., where f catches -/
theorem ex_if_csp {n : Nat} {name : Str} {octs told : List Int} {p q q' : Bool} {ipos : Pos} {body orelse : List Stmt}
    (S : St mg mb B H env ρ [] h) (hc : CSp prog w mg B n name [isO (.ints p octs)] (isN (.ints q told))) (ok : OkA n A) (hfr : A.frames = some [env]) (FE : FEnv fs env)
    (hx : env.kindOf name = some .globalImplicit) (hd : (name == ("__debug__" : Str)) = false)
    (darg : Den prog w A h (eval e env) (isO (.ints p octs))) (dr : ∀ h', Keep H h' → St mg mb B H env ρ [] h' → Den prog w A h' (eval r env) (isO (.ints q' told))) (hu : A.units + 64 < cLine)
    (k : ∀ h' t', St mg mb B H env ρ [] h' → wpAny (model prog w) A (execs orelse env) (fun f s' => match f with | .next => wpAny (model prog w) A (execs rest env) Q E s' | f => Q f s') E (Sm σ h' t'))
    (hm : behindInMarks .NotEq r = false := by with_unfolding_all rfl)
    (he : starEach [e] env = [(false, eval e env)] := by rfl) :
    wpAny (model prog w) A (execs (.If (.Compare (.Call (.Name name px) [e] [] cp) [.NotEq] [r] pos) body orelse ipos :: rest) env) Q E (Sm σ h t) := by
  obtain ⟨f, o, fd, hg, ho, hdt, hcc⟩ := hc
  refine wpAny_execs_cons (wpAny_If ?_)
  refine wpAny_isTrue_Compare1 ?_ hm
  refine wp_callR (B := B) (s := Sm σ h t) Keep.rfl (den_global S.cx hg hx hd) (fun h' k => keeper_fn (k _ _ ho) hdt) (fun h₁ t₁ k₁ => ?_) rfl he rfl
  refine args_cons ?_ he
  refine DenG.wp (darg.up k₁) (s := Sm σ h₁ t₁) Keep.rfl fun v h₂ t₂ k₂ hv => ?_
  have S₂ := S.up (k₁.trans k₂)
  refine args_nil ⟨S₂.cx.kb, ?_⟩
  obtain ⟨m, hn, _⟩ := S₂.cx.loc
  have hLB : B.get? env.locals = none := none_down S₂.bh (S₂.nb _ (.head _))
  obtain ⟨a, rfl, hI⟩ := hv
  have hne : a ≠ env.locals := S₂.ne_ns hI
  refine csp_at (name := name) (s := Sm σ h₂ t₂) hcc ok hfr FE.fr (by rw [S₂.cx.fk]) hn S₂.cx.kb hLB ⟨_, _, rfl, ⟨a, rfl, hI⟩, rfl⟩ ⟨_, _, rfl, ⟨a, rfl, hI.at fun o e => hideAll_get _ e (by simpa using hne)⟩, rfl⟩ fun v h₃ t₃ hU hk hup => ?_
  replace hk : ∀ b o, b ≠ env.locals → h₂.get? b = some o → h₃.get? b = some o := hk
  have kH : Keep H h₃ := fun b o q => hk b o (fun q2 => by have := S₂.nb b (by rw [q2]; exact .head _); rw [q] at this; cases this) (S₂.keep b o q)
  have S₃ : St mg mb B H env ρ [] h₃ := St.after (μ' := []) (μ := []) S₂ kH hup fun p hp => nomatch hp
  have hv := isN_O hU
  refine DenG.wp (dr h₃ kH S₃) (s := Sm σ h₃ t₃) Keep.rfl fun u h₄ t₄ k₄ hu' => ?_
  refine wpAny_mono (den_compareIs (prog := prog) (w := w) hu v u h₄ (isO_up _ _ _ k₄ hv) hu' (Sm σ h₄ t₄) E Keep.rfl) (fun c s' y => ?_) fun _ _ e => e
  obtain ⟨y1, h₅, t₅, rfl, k₅⟩ := y
  cases y1
  exact wpAny_truthy_bool (k h₅ t₅ (S₃.up (k₄.trans k₅)))

theorem truthyL {p : Bool} {xs : List AV} {a : Addr} {Q : Bool → Shared → Prop} (hI : Is s.heap a (.list p xs)) (hsz : xs.length ≤ 100000) (k : Q (!xs.isEmpty) { s with toks := s.toks + 1 + 1 }) : wpAny (model prog w) A (truthy (.ref a)) Q E s := by
  obtain ⟨vs, hL, hO⟩ := hI
  have hl : vs.length = xs.length := hO.length
  refine wpAny_truthy_list hL.1 (by rw [List.size_toArray, hl]; omega) ?_
  have e : vs.toArray.isEmpty = xs.isEmpty := by
    cases xs with
    | nil => have := List.eq_nil_of_length_eq_zero hl; subst this; rfl
    | cons x xs =>
      cases vs with
      | nil => cases hl
      | cons v vs => simp
  rw [e]; exact k
/-- xs or ys, of two lists -/
theorem den_orL {p q : Bool} {xs ys : List AV} (d1 : Den prog w A h (eval e1 env) (isO (.list p xs))) (d2 : Den prog w A h (eval e2 env) (isO (.list q ys))) (hsz : xs.length ≤ 100000) :
    Den prog w A h (eval (.BoolOp .Or [e1, e2] pos) env) (isO (.list (if xs.isEmpty then q else p) (if xs.isEmpty then ys else xs))) := by
  intro s E hk
  refine BoolOp_or ?_
  refine d1.wp hk fun v h₁ t₁ k₁ hv => ?_
  obtain ⟨a, rfl, hI⟩ := hv
  refine truthyL (s := Sm s h₁ t₁) hI hsz ?_
  cases xs with
  | cons x xs => exact ⟨⟨a, rfl, hI⟩, ⟨h₁, _, rfl, k₁⟩⟩
  | nil =>
    refine DenG.wp (d2.up (hk.trans k₁)) (s := Sm s h₁ (t₁ + 1 + 1)) Keep.rfl fun u h₂ t₂ k₂ hu => ?_
    exact ⟨hu, ⟨h₂, t₂, rfl, k₁.trans k₂⟩⟩
theorem test_list {p : Bool} {xs : List AV} {whole : Sem Value} (hl : Den prog w A h whole (isO (.list p xs))) (hsz : xs.length ≤ 100000) (he : isTrue e env whole = (do let v ← whole; standAt e.pos; holding [v] (truthy v)) := by rfl) : Den prog w A h (isTrue e env whole) (isT (!xs.isEmpty)) :=
  fun s E hk => wpAny_isTrue_value (hl.wp hk fun u h₁ tk₁ k₁ hu => by
    obtain ⟨a, rfl, hI⟩ := hu
    exact truthyL (s := Sm s h₁ tk₁) hI hsz ⟨rfl, ⟨h₁, _, rfl, k₁⟩⟩) he
end

/-! ## law, fifth part: tops, lows, the tape -/
section
variable {prog : Program} {w : World} {A : Around} {mg mb : Str → Option Value} {B H h base : Heap} {env : Env} {outer : List Env} {ρ : Vars} {σ s : Shared} {t : Nat} {px pos : Pos} {Q : Flow → Shared → Prop} {E : Value → Shared → Prop}
set_option maxHeartbeats 1000000 in
theorem seg5 {cn cp cc cw cb ca cg cl : Addr} {cs ns tops lows : List Int} {home num turn mask : Int} {chunks : List (List Int)} {tl : List Int} (W : Wd mg mb B) (FE : FEnv (sc 19) env) (okA : OkA 8 A) (hfr : A.frames = some [env]) (S : St mg mb B H env ([(Str.ofString "lacks", AV.ref cl), (Str.ofString "came", AV.ref ca), (Str.ofString "gone", AV.ref cg), (Str.ofString "mask", AV.int mask), (Str.ofString "book", AV.ref cb), (Str.ofString "words", AV.ref cw), (Str.ofString "size", AV.int (cs.length : Int)), (Str.ofString "number", AV.int num), (Str.ofString "controls", AV.ref cc), (Str.ofString "plan", AV.ref cp), (Str.ofString "home", AV.int home), (Str.ofString "turn", AV.int turn), (Str.ofString "numbers", AV.ref cn)] : Vars) [] h) (hN : Is H cn (.ints true ns))
    (hcp : 0 < cs.length) (hcl : cs.length ≤ 32) (hnl : ns.length ≤ 60) (htops : ns.take 2 ++ [0, -1, 3 * 2 ^ (cs.length - 1)] = tops) (hlows : tops.map (· % 2 ^ cs.length) = lows)
    (hoct : tapeOf ([num] ++ lows) turn = chunks.flatten ++ tl) (hch : ∀ c ∈ chunks, IsChunk c) (htl : ∀ x ∈ tl, x / 64 % 2 = 1) (htl8 : tl.length ≤ 8) (hsz : (tapeOf ([num] ++ lows) turn).length ≤ 1000) (hval : chunks.map valOf = [num] ++ lows)
    (k : ∀ ct clo H' h' t', Keep H H' → Is H' ct (.ints true tops) → Is H' clo (.ints true lows) → St mg mb B H' env ([(Str.ofString "lows", AV.ref clo), (Str.ofString "tops", AV.ref ct), (Str.ofString "book", AV.ref cb), (Str.ofString "words", AV.ref cw), (Str.ofString "size", AV.int (cs.length : Int)), (Str.ofString "number", AV.int num), (Str.ofString "controls", AV.ref cc), (Str.ofString "plan", AV.ref cp), (Str.ofString "home", AV.int home), (Str.ofString "turn", AV.int turn), (Str.ofString "numbers", AV.ref cn)] : Vars) [] h' → wpAny (model prog w) A (execs ((boOf (stm 19)).drop 16) env) Q E (Sm σ h' t')) :
    wpAny (model prog w) A (execs ((boOf (stm 19)).drop 13) env) Q E (Sm σ h t) := by
  have nb := W.nb
  have htl' : tops.length ≤ 5 := by
    have := congrArg List.length htops
    rw [List.length_append, List.length_take] at this
    simp only [List.length_cons, List.length_nil] at this
    omega
  refine ex_assignF S (m := .ints true tops) ?tops (by walk_at "sto") fun ct H₁ h₁ t₁ k₁ hT S₁ => ?_
  case tops =>
    refine DenG.old ?_
    have e : MO.ints true tops = .list true ((ns.map AV.int).take 2 ++ [AV.int 0, AV.int (-1), AV.int (3 * 2 ^ (cs.length - 1))]) := by
      rw [← htops]
      show MO.list true (List.map AV.int (ns.take 2 ++ [0, -1, 3 * 2 ^ (cs.length - 1)])) = _
      rw [List.map_append, List.map_take]; rfl
    have es : (cs.length : Int) - 1 = ((cs.length - 1 : Nat) : Int) := by omega
    rw [e]
    refine den_catL (p := true) (q := true) (den_slice (k := 2) (p := true) (den_obj S.cx (c := cn) (by walk_at "lk") (by walk_at "own") (by decide +kernel) (hN.up S.keep)) (by exact den_int) (by rw [List.length_map]; omega)).old
      (den_list (oks_more (by walk_at "E") (oks_more (by walk_at "E") (oks_more (den_mul (by walk_at "E") (den_pow2 (k := cs.length - 1) (by walk_at "E") (by rw [← es]; walk_at "E") (by omega)) (mulL (by decide))) oks_none rfl) rfl) rfl) (Nat.le_of_ble_eq_true rfl)).old (by rw [List.length_take, List.length_map]; simp only [List.length_cons, List.length_nil]; omega)
  refine ex_comp (fun _ => true) (fun a => match a with | .int z => .int (z % 2 ^ cs.length) | a => a) ([(Str.ofString "size", AV.int (cs.length : Int))] : Vars) ["size"] FE S₁ (by walk_at "sub") (by decide +kernel) rfl (src_ints okA.hd S₁.cx (by walk_at "lk") (by walk_at "own") (by decide +kernel) hT S₁.keep) (by omega)
    (by show env.scope.names.lookup _ = _; rw [FE.sc]; decide +kernel) (by walk_at "sto") (fun i h' cenv hi k CE C => ifs_none) (fun i h' cenv hi _ k CE C => ?el) ?sw ?k
  case el =>
    show Den _ _ _ _ _ (is (.int (tops.getD i 0 % 2 ^ cs.length)))
    exact den_modp (by walk_at "E") (den_pow2 (k := cs.length) (by walk_at "E") (by walk_at "E") (by omega)) (Int.pow_pos (by decide))
  case sw => exact (swapsS_env (env' := envS (sc 19)) FE.sc _ _ _).trans (by kernel_rfl)
  case k =>
    intro clo H₂ h₂ t₂ k₂ hL S₂
    have e : MO.list true ((((List.range tops.length).map fun i => AV.int (tops.getD i 0)).filter fun _ => true).map (fun a => match a with | .int z => .int (z % 2 ^ cs.length) | a => a)) = .ints true lows := by
      rw [comp_ints (g := fun z => z % 2 ^ cs.length) (fun _ => rfl), List.filter_eq_self.mpr (fun _ _ => rfl), range_getD, hlows]
    rw [e] at hL
    have hll : lows.length ≤ 5 := by rw [← hlows, List.length_map]; exact htl'
    have cat : ∀ h' {pa pb pc pd pe : Pos}, St mg mb B H₂ env ([(Str.ofString "lows", AV.ref clo), (Str.ofString "tops", AV.ref ct), (Str.ofString "lacks", AV.ref cl)] ++ ([(Str.ofString "came", AV.ref ca), (Str.ofString "gone", AV.ref cg), (Str.ofString "mask", AV.int mask), (Str.ofString "book", AV.ref cb), (Str.ofString "words", AV.ref cw), (Str.ofString "size", AV.int (cs.length : Int)), (Str.ofString "number", AV.int num), (Str.ofString "controls", AV.ref cc), (Str.ofString "plan", AV.ref cp), (Str.ofString "home", AV.int home), (Str.ofString "turn", AV.int turn), (Str.ofString "numbers", AV.ref cn)] : Vars)) [] h' → DenG prog w A h' (eval (.BinOp (.List [.Name "number" pa] pb) .Add (.Name "lows" pc) pd) env) (isN (.ints true ([num] ++ lows))) := by
      intro h' pa pb pc pd pe S'
      simp only [List.cons_append, List.nil_append] at S'
      have e : MO.ints true ([num] ++ lows) = .list true ([AV.int num] ++ lows.map AV.int) := by simp
      rw [e]
      exact den_catL (p := true) (q := true) (den_list (oks_more (by walk_at "E") oks_none rfl) (by simp)).old (den_obj S'.cx (c := clo) (by walk_at "lk") (by walk_at "own") (by decide +kernel) (hL.up S'.keep)) (by rw [List.length_map]; simp; omega)
    have rd := f_read (prog := prog) (w := w) W true (tapeOf ([num] ++ lows) turn) chunks tl hoct hch htl htl8 hsz
    rw [hval] at rd
    refine ex_if_csp (p := true) (q := true) (q' := true) (n := 2) S₂ rd (OkA.le okA (by decide)) hfr FE (by walk_at "gl") (by decide +kernel) (DenG.old ?arg) (fun h' kh S' => (cat h' (pe := default) S').old) (by have := okA.un; omega) (fun h₃ t₃ S₃ => ?_) (by with_unfolding_all rfl)
    case arg =>
      exact den_sp S₂.cx (f_tape W ([num] ++ lows) turn true (by simp; omega)) (OkA.le okA (by decide)) isN_down (by walk_at "gl") (by decide +kernel) (argsT_more ((cat h₂ (pe := default) S₂).old) (argsT_more (by walk_at "E") argsT_none is_up rfl) isO_up rfl)
    refine ex_nil ?_
    exact k ct clo H₂ h₃ t₃ (k₁.trans k₂) (hT.up k₂) hL (S₃.sub (by walk_at "sub"))
end

/-! ## law, sixth part: the sets -/
theorem high_five {high : Int} (h0 : -2 ≤ high) (h1 : high ≤ 2) : high = -2 ∨ high = -1 ∨ high = 0 ∨ high = 1 ∨ high = 2 := by omega
def highAbs (high : Int) : Int := if high < 0 then -high else high
def highSign (high : Int) : Str := if high < 0 then "-0x" else "0x"
theorem high_len {high : Int} (h0 : -2 ≤ high) (h1 : high ≤ 2) : (highAbs high).natAbs.log2 < 1920 ∧ (highSign high).length + (Str.ofString (toString (highAbs high))).length ≤ 1000 ∧ (highSign high ++ Str.ofString (toString (highAbs high))).length + ("00000000" : Str).length ≤ 1000 ∧ ((aboveL high).map (·.length)).sum ≤ 1000 ∧ (aboveL high).length ≤ 1 := by
  rcases high_five h0 h1 with e | e | e | e | e <;> subst e <;> decide +kernel
theorem aboveL_not {high : Int} (hz : high ≠ 0) : aboveL high = [(highSign high ++ Str.ofString (toString (highAbs high))) ++ "00000000"] := by unfold aboveL; rw [if_neg hz]; rfl
def dueL (wl : List Str) : List Str := if wl = [] then [("0x0" : Str)] else wl
theorem due_small {low high : Int} {n : Nat} (hn : n ≤ 32) (h0 : -2 ≤ high) (h1 : high ≤ 2) : ((dueL (wordsTo low n ++ aboveL high)).map (·.length)).sum + (dueL (wordsTo low n ++ aboveL high)).length * (", " : Str).length ≤ 16777216 := by
  have h := high_len h0 h1
  have w1 := wordsTo_sum low n hn
  have w2 := wordsTo_len low n
  rw [sep_len]
  unfold dueL
  split
  · decide +kernel
  · rw [List.map_append, List.sum_append, List.length_append]
    omega
theorem due_or (wl : List Str) : MO.list (if (wl.map AV.str).isEmpty then true else true) (if (wl.map AV.str).isEmpty then [AV.str "0x0"] else wl.map AV.str) = .strs true (dueL wl) := by
  cases wl with
  | nil => rfl
  | cons a r => rfl
theorem pow_log {n : Nat} (hn : n ≤ 32) : ((2 : Int) ^ n).natAbs.log2 < 9000 := by
  rw [Int.natAbs_pow, show (2 : Int).natAbs = 2 from rfl, Nat.log2_two_pow]; omega
section
variable {prog : Program} {w : World} {A : Around} {mg mb : Str → Option Value} {B H h base : Heap} {env : Env} {outer : List Env} {ρ : Vars} {σ s : Shared} {t : Nat} {px pos : Pos} {Q : Flow → Shared → Prop} {E : Value → Shared → Prop}
set_option maxHeartbeats 1000000 in
theorem seg6 {cn cp cc cw cb ct clo : Addr} {cs tops lows : List Int} {home num turn : Int} (W : Wd mg mb B) (ft : FT prog w mg B) (FE : FEnv (sc 19) env) (okA : OkA 8 A) (S : St mg mb B H env ([(Str.ofString "lows", AV.ref clo), (Str.ofString "tops", AV.ref ct), (Str.ofString "book", AV.ref cb), (Str.ofString "words", AV.ref cw), (Str.ofString "size", AV.int (cs.length : Int)), (Str.ofString "number", AV.int num), (Str.ofString "controls", AV.ref cc), (Str.ofString "plan", AV.ref cp), (Str.ofString "home", AV.int home), (Str.ofString "turn", AV.int turn), (Str.ofString "numbers", AV.ref cn)] : Vars) [] h) (hC : Is H cc (.ints true cs)) (hD : StrTab prog w H cb (bookL cs)) (hT : Is H ct (.ints true tops)) (hL : Is H clo (.ints true lows))
    (hcs : ∀ z ∈ cs, 0 ≤ z ∧ z < 32) (hcl : cs.length ≤ 32) (hlows : tops.map (· % 2 ^ cs.length) = lows) (htl : tops.length ≤ 5)
    (hkey : ∀ k (hk : k < cs.length), 2 ^ k * num / 2 ^ (cs.length - 1) % 32 = cs[k]) (hbook : ∀ k (hk : k < cs.length), PySem.Spec.lookup (.str (shown cs[k])) (bookL cs) = some (.str (wordN k)))
    (k : ∀ h' t', St mg mb B H env ([(Str.ofString "book", AV.ref cb), (Str.ofString "size", AV.int (cs.length : Int)), (Str.ofString "number", AV.int num), (Str.ofString "controls", AV.ref cc)] : Vars) [] h' → wpAny (model prog w) A (execs ((boOf (stm 19)).drop 17) env) Q E (Sm σ h' t')) :
    wpAny (model prog w) A (execs ((boOf (stm 19)).drop 16) env) Q E (Sm σ h t) := by
  have nb := W.nb
  have hll : lows.length = tops.length := by rw [← hlows, List.length_map]
  have src := src_zip (H := H) (prog := prog) (w := w) (px := ⟨141, 18, 141, 21⟩) (pos := ⟨141, 18, 141, 33⟩) okA.hd S.cx nb (by walk_at "gl") (den_isL (px := ⟨141, 22, 141, 26⟩) (x := "lows") (c := clo) S.cx (by walk_at "lk") (by walk_at "own") (by decide +kernel) (hL.up S.keep)) (den_isL (px := ⟨141, 28, 141, 32⟩) (x := "tops") (c := ct) S.cx (by walk_at "lk") (by walk_at "own") (by decide +kernel) (hT.up S.keep)) hL.alive hT.alive
  have hmin : min (lows.map AV.int).length (tops.map AV.int).length = tops.length := by
    rw [List.length_map, List.length_map]; omega
  rw [hmin] at src
  have S₁ : St mg mb B H env ([(Str.ofString "book", AV.ref cb), (Str.ofString "size", AV.int (cs.length : Int)), (Str.ofString "number", AV.int num), (Str.ofString "controls", AV.ref cc)] : Vars) [] h := S.sub (by walk_at "sub")
  refine ex_forU okA.hd S₁ src (fun i ρ μ => ρ = ([(Str.ofString "book", AV.ref cb), (Str.ofString "size", AV.int (cs.length : Int)), (Str.ofString "number", AV.int num), (Str.ofString "controls", AV.ref cc)] : Vars) ∧ μ = []) ⟨rfl, rfl⟩ (by walk_at "sto") (by walk_at "sto") ?turn ?done
  case turn =>
    rintro i _ _ H' h' t' E' hi ⟨rfl, rfl⟩ kH S'
    have hi' : i < lows.length := by omega
    rw [getD_map_int _ _ hi', getD_map_int _ _ hi] at S'
    have hlow : lows.getD i 0 = tops.getD i 0 % 2 ^ cs.length := by
      rw [← hlows]; simp [List.getD, hi]
    have l0 : 0 ≤ lows.getD i 0 := by rw [hlow]; exact Int.emod_nonneg _ (Int.ne_of_gt (pow_pos2 _))
    have l1 : lows.getD i 0 < 2 ^ cs.length := by rw [hlow]; exact Int.emod_lt_of_pos _ (pow_pos2 _)
    generalize lows.getD i 0 = low at *
    generalize tops.getD i 0 = x at *
    refine ex_assign S' (a := .int ((x / 2 ^ cs.length + 2) % 5 - 2)) (den_sub (den_modp (den_add (den_divp (by walk_at "E") (den_pow2 (k := cs.length) (by walk_at "E") (by walk_at "E") (by omega)) (pow_pos2 _) (pow_log hcl)) (by walk_at "E")) (by walk_at "E") (by decide)) (by walk_at "E")) (by walk_at "sto") fun h₂ t₂ S₂ => ?_
    have h0 : -2 ≤ (x / 2 ^ cs.length + 2) % 5 - 2 := by omega
    have h1 : (x / 2 ^ cs.length + 2) % 5 - 2 ≤ 2 := by omega
    generalize (x / 2 ^ cs.length + 2) % 5 - 2 = high at *
    obtain ⟨a1, a2, a3, a4, a5⟩ := high_len h0 h1
    refine ex_assignF S₂ (m := .strs true (aboveL high)) (DenG.old ?above) (by walk_at "sto") fun ca H₃ h₃ t₃ k₃ hA S₃ => ?_
    case above =>
      refine den_ifexp (c := high != 0) (by walk_at "T") isN_down (fun e => ?_) (fun e => ?_)
      · have hz : high ≠ 0 := by simpa using e
        rw [aboveL_not hz]
        refine den_list (xs := [AV.str ((highSign high ++ Str.ofString (toString (highAbs high))) ++ "00000000")]) (oks_more (den_cat (den_cat ?sg ?ab (by omega)) (by walk_at "E") (by omega)) oks_none rfl) (Nat.le_of_ble_eq_true rfl)
        case sg =>
          refine den_ifexp (c := decide (high < 0)) (T := fun _ => isS (highSign high)) (by walk_at "T") any_down (fun e => ?_) (fun e => ?_)
          · have : highSign high = "-0x" := if_pos (of_decide_eq_true e)
            rw [this]; walk_at "E"
          · have : highSign high = "0x" := if_neg (of_decide_eq_false e)
            rw [this]; walk_at "E"
        case ab =>
          (with_reducible refine' b_str (n := highAbs high) S₂.cx nb ?s1 ?s2 a1 ?s3)
          case s1 => walk_at "gl"
          case s3 => exact rfl
          case s2 =>
            have ha : highAbs high = if high < 0 then -high else high := rfl
            rw [ha]
            (with_reducible refine' b_abs S₂.cx nb ?u1 ?u2 ?u3)
            case u1 => walk_at "gl"
            case u2 => walk_at "E"
            case u3 => exact rfl
      · have hz : high = 0 := by simpa using e
        rw [hz]
        exact den_list oks_none (Nat.le_of_ble_eq_true rfl)
    have hC₃ := hC.up (kH.trans k₃)
    have hD₃ := hD.keep (kH.trans k₃)
    refine ex_assignF S₃ (m := .strs true (wordsTo low cs.length ++ aboveL high)) (DenG.old ?due) (by walk_at "sto") fun cd H₄ h₄ t₄ k₄ hU S₄ => ?_
    case due =>
      have e : MO.strs true (wordsTo low cs.length ++ aboveL high) = .list true ((wordsTo low cs.length).map AV.str ++ (aboveL high).map AV.str) := by
        show MO.list true (List.map AV.str _) = _
        rw [List.map_append]
      rw [e]
      have w2 := wordsTo_len low cs.length
      refine den_catL (p := true) (q := true) (DenG.old ?fd) (den_obj S₃.cx (c := ca) (by walk_at "lk") (by walk_at "own") (by decide +kernel) (hA.up S₃.keep)) (by rw [List.length_map, List.length_map]; omega)
      exact den_sp S₃.cx (f_found W low num cs true (bookL cs) hcl hcs hkey hbook) (OkA.le okA (by decide)) isN_down (by walk_at "gl") (by decide +kernel)
        (argsT_more (by walk_at "E") (argsT_more (by walk_at "E") (argsT_more (den_obj S₃.cx (c := cc) (by walk_at "lk") (by walk_at "own") (by decide +kernel) (hC₃.up S₃.keep)) (argsT_more (den_tab S₃.cx (by walk_at "lk") (by walk_at "own") (by decide +kernel) (hD₃.keep S₃.keep)) argsT_none isTab_up rfl) isO_up rfl) is_up rfl) is_up rfl)
    have l2 : low < 2 ^ 32 := by
      have : (2 : Int) ^ cs.length ≤ 2 ^ 32 := by
        have := Nat.pow_le_pow_right (show 0 < 2 by decide) hcl
        exact_mod_cast this
      omega
    have pd : prettyL (low + high * 2 ^ 32) = dueL (wordsTo low cs.length ++ aboveL high) := pretty_due l0 l1 hcl h0 h1
    refine ex_if (c := false) S₄ ?t (fun e => by cases e) (fun _ h₅ t₅ S₅ => ?_)
    case t =>
      have fl := f_flags (prog := prog) (w := w) W ft (low + high * 2 ^ 32) (by omega)
      rw [pd] at fl
      (with_reducible refine' test_cmpS (x := Txt.join ", " (dueL (wordsTo low cs.length ++ aboveL high))) (y := Txt.join ", " (dueL (wordsTo low cs.length ++ aboveL high))) ?c1 ?c2 ?c3 ?c4)
      case c1 => exact den_sp S₄.cx fl (OkA.le okA (by decide)) any_down (by walk_at "gl") (by decide +kernel) (argsT_more (den_add (by walk_at "E") (den_mul (by walk_at "E") (den_pow2 (k := 32) (by walk_at "E") (by exact den_int) (by decide)) (mulR (by decide)))) argsT_none is_up rfl)
      case c2 =>
        refine den_join (p := true) (by walk_at "E") ?_ (due_small hcl h0 h1)
        rw [← due_or]
        exact den_orL (p := true) (q := true) (den_obj S₄.cx (c := cd) (m := .strs true (wordsTo low cs.length ++ aboveL high)) (by walk_at "lk") (by walk_at "own") (by decide +kernel) (hU.up S₄.keep)) (den_list (oks_more (by walk_at "E") oks_none rfl) (Nat.le_of_ble_eq_true rfl)).old (by have w2 := wordsTo_len low cs.length; rw [List.length_map, List.length_append]; omega)
      case c3 =>
        show some _ = some _
        simp
      case c4 => with_unfolding_all rfl
    refine ex_nil (ex_nil ⟨_, _, h₅, t₅, rfl, ⟨rfl, rfl⟩, ?_⟩)
    exact (S₅.base (k₃.trans k₄) S'.bh).sub (by walk_at "sub")
  case done =>
    rintro _ _ h' t' E' ⟨rfl, rfl⟩ S'
    refine ex_nil ?_
    exact k h' t' S'
end

section
variable {prog : Program} {w : World} {A : Around} {mg mb : Str → Option Value} {B H h h' base : Heap} {env : Env} {outer : List Env} {ρ : Vars} {μ : Led} {σ s : Shared} {t : Nat} {v : Value} {E : Value → Shared → Prop} {e e1 e2 r kx vx elt iter : Expr} {x y z : Str} {rest : List Stmt} {Q : Flow → Shared → Prop} {pos px py pz pn cp tp spos : Pos} {cs fs scope : Scope}

/-- all(bs), called -/
theorem den_callAll {p : Bool} {bs : List Bool} (hA : A.handled = none) {v : Value} {h' : Heap} (hv : isO (.list p (bs.map .bool)) v h') : Den prog w A h' (call (.builtin "all") [v]) (isB (bs.all id)) := by
  obtain ⟨c, rfl, hI⟩ := hv
  intro s E kk
  obtain ⟨vs, hL, hO⟩ := hI.up kk
  have hlen : vs.length = bs.length := by simpa using hO.length
  refine call_all_walk (iter_list (A := A.in1) hA hL.1 fun I h₁ hI' W st hfp k₁ => ?_)
  refine ⟨I, _, _, vs.length, _, _, (fun i => bs.getD i true), rfl, walks_mono W (P' := fun i v => v = .bool (bs.getD i true)) (fun i v hi hv => ?_), st, fun i v s Q E hv q => ?_, fun h₂ tk k₂ => ?_⟩
  · have hi' : i < bs.length := hlen ▸ hi
    have hx : (bs.map AV.bool)[i]? = some (.bool bs[i]) := by simp [hi']
    obtain ⟨u, hu, hu'⟩ := hO.get hx
    rw [hu] at hv
    have := Option.some.inj hv
    subst this
    have hu2 : u = Value.bool bs[i] := hu'
    simpa [List.getD, hi'] using hu2
  · subst hv; exact wpAny_truthy_bool q
  · have e1 : (List.range vs.length).all (fun i => bs.getD i true) = bs.all id := by
      rw [hlen, Bool.eq_iff_iff, List.all_eq_true, List.all_eq_true]
      constructor
      · intro hh b hb
        obtain ⟨i, hi, rfl⟩ := List.mem_iff_getElem.mp hb
        have := hh i (List.mem_range.mpr hi)
        simpa [List.getD, hi] using this
      · intro hh i hi
        have hi := List.mem_range.mp hi
        have := hh bs[i] (List.getElem_mem hi)
        simpa [List.getD, hi] using this
    rw [e1]
    exact ⟨isB_mk _ _, ⟨h₂, tk, rfl, keep_wr k₁ (hI' ▸ k₂)⟩⟩

/-- a frame whose own marks alone were written -/
theorem St.marks {m : Str → Option Value} (S : St mg mb B H env ρ [] h) (hm : h.Ns env.locals m) (hn' : h'.Ns env.locals m) (k : ∀ b o, b ≠ env.locals → h.get? b = some o → (b ∈ env.cells.map (·.2) ∨ ∃ o', H.get? b = some o') → h'.get? b = some o) : St mg mb B H env ρ [] h' := by
  have hnd := S.nd
  simp only [own, List.map_nil, List.append_nil, List.nodup_cons] at hnd
  have hcell : ∀ c ∈ env.cells.map (·.2), c ≠ env.locals := fun c hc q => hnd.1 (q ▸ hc)
  have kH : Keep H h' := fun b o q => k b o (fun q2 => by have := S.nb b (by rw [q2]; exact .head _); rw [q] at this; cases this) (S.keep b o q) (.inr ⟨o, q⟩)
  refine ⟨⟨S.cx.gd, S.bh.trans kH, S.cx.fk, S.cx.fg, S.cx.fb, ⟨m, hn', fun y a hy hl => ?_⟩, fun y a c hc hl => ?_⟩, S.bh, kH, S.nb, fun p hp => (nomatch hp), S.nd, fun c hc => ?_⟩
  · obtain ⟨f, n, l⟩ := S.cx.loc
    obtain ⟨u, hu, hu'⟩ := l y a hy hl
    exact ⟨u, by rw [← hu]; exact Heap.Ns.agree hm n y, hu'⟩
  · obtain ⟨u, ⟨o, ho, r⟩, hu'⟩ := S.cx.cel y a c hc hl
    have hm' : c ∈ env.cells.map (·.2) := List.mem_map.mpr ⟨_, mem_cells hc, rfl⟩
    exact ⟨u, ⟨o, k _ o (hcell c hm') ho (.inl hm'), r⟩, hu'⟩
  · obtain ⟨u, o, ho, r⟩ := S.cells c hc
    exact ⟨u, o, k _ o (hcell c hc) ho (.inl hc), r⟩

/-- return all([f(x) for x in ..]), where f catches -/
theorem ex_ret_all {nn n : Nat} {name : Str} (keys : Nat → Str) {apos lpos rpos pa : Pos}
    (S : St mg mb B H env ρ [] h) (nb : NoB mg) (hc : ∀ i, i < n → CSp prog w mg B nn name [isS (keys i)] (fun _ => isB true)) (ok : OkA nn A) (hA : A.handled = none) (hfr : A.frames = some [env]) (FE : FEnv fs env)
    (gall : env.kindOf (Str.ofString "all") = some .globalImplicit) (hok : compOk cs fs [x] [] = true) (hgl : globOk cs name = true) (hv : cvarOk cs fs x = true) (hd1 : (name == ("__debug__" : Str)) = false) (hd2 : (x == ("__debug__" : Str)) = false)
    (src : Src prog w A H h (eval iter env) n (fun i => .str (keys i))) (hn : n ≤ 100000)
    (k : ∀ h' t', Keep H h' → Q (.ret (.bool true)) (Sm σ h' t'))
    (hs : ∀ x, foldedSetIterable iter env x = pure x := by intro _; rfl) :
    wpAny (model prog w) A (execs (.Return (some (.Call (.Name (Str.ofString "all") pa) [.ListComp (.Call (.Name name pn) [.Name x py] [] cp) [⟨.Name x tp, iter, [], 0⟩] cs lpos] [] apos)) rpos :: rest) env) Q E (Sm σ h t) := by
  obtain ⟨q1, q2, q3, q4⟩ := compOk_parts hok
  refine wpAny_execs_cons (wpAny_Return_some ?_)
  refine wp_callR (B := B) (s := Sm σ h t) Keep.rfl (den_bi S.cx nb (by decide) bi_all gall) (fun h' _ => keeper_builtin h') (fun h₁ t₁ k₁ => ?_) rfl rfl rfl
  refine args_cons ?_ rfl
  rw [eval_ListComp]
  refine wpAny_comprehension_free (use := none) rfl hs (comp_closure FE hok) q2 q3 (wpAny_mono (src (Sm σ h₁ t₁) E k₁) (fun xv s₁ z₁ => wpAny_mono z₁ (fun it s₂ h₂ => ?_) fun _ _ e => e) fun _ _ e => e)
  obtain ⟨⟨⟨I, fp, wr, Stt, rfl, W, hst, hlive, hwr, hfp⟩⟩, h₂', t₂, rfl, k₂⟩ := h₂
  replace k₂ : Keep h₁ h₂' := k₂
  replace hwr : ∀ b ∈ wr, h₁.get? b = none := hwr
  replace hfp : ∀ b ∈ fp, h₁.get? b = none ∨ ∃ o, H.get? b = some o := hfp
  have S₁ := S.up k₁
  have S₂ := S₁.up k₂
  obtain ⟨m, hm, hml⟩ := id S₂.cx.loc
  have hLf : env.locals ∉ fp := fun q => by
    rcases hfp _ q with e | ⟨o, e⟩
    · obtain ⟨o, ho⟩ := S₁.alive (b := env.locals) (.head _)
      rw [e] at ho; cases ho
    · rw [S.nb _ (.head _)] at e; cases e
  have wH : ∀ b ∈ wr, H.get? b = none := fun b hb => none_down S₁.keep (hwr b hb)
  have wC : ∀ b ∈ wr, b ∉ env.cells.map (·.2) := fun b hb q => by
    obtain ⟨v, o, ho, _⟩ := S₁.cells b q
    rw [hwr b hb] at ho; cases ho
  have mk : ∀ {h₃ : Heap}, h₃.Ns env.locals m → (∀ b o, b ∉ wr → b ≠ env.locals → h₂'.get? b = some o → h₃.get? b = some o) → St mg mb B H env ρ [] h₃ := fun hn₃ kk => S₂.marks hm hn₃ fun b o hb e hbb => kk b o (fun q => by
    rcases hbb with hbb | ⟨o', hbb⟩
    · exact wC b q hbb
    · rw [wH b q] at hbb; cases hbb) hb e
  have hLB : B.get? env.locals = none := none_down S.bh (S.nb _ (.head _))
  refine comp_slots (s₂ := Sm σ h₂' t₂) (L := env.locals) (mL := m) (RR := fun acc C => compPost (model prog w) A E none _ acc C) W (Nat.le_trans hn (by decide)) (fun _ z => z = .bool true) hLf hm q1 q2 (q4 x (.head _)) hst (fun b hb => (by obtain ⟨o, ho⟩ := hlive _ _ hst b hb; exact Heap.lt_size ho)) ?_ ?_
  · intro C i v s₃ m₃ E' hC hi hv' hns hx hL₃ kk
    have S₃ := mk hL₃ kk
    obtain ⟨CE, C₃⟩ := comp_cx (cs := cs) FE S₃.cx Keep.rfl Sub.nil hok (ts := [x]) (τ := [(x, .str (keys i))]) (by simp) hns (fun y a hl => by
      simp only [Lk, List.lookup_cons] at hl
      split at hl
      · rename_i e; cases hl; rw [eq_of_beq e]; exact ⟨_, hx, hv'⟩
      · simp at hl)
    obtain ⟨f, o, fd, hg, ho, hdt, hcc⟩ := hc i hi
    refine wp_callR (B := B) (s := s₃) Keep.rfl (den_global C₃ hg (CE.glob hgl) hd1) (fun h' k => keeper_fn (k _ _ ho) hdt) (fun h₄ t₄ k₄ => ?_) rfl rfl rfl
    refine args_cons ?_ rfl
    refine DenG.wp (den_name (C₃.up k₄) Lk.head (CE.var hv) hd2) (s := Sm s₃ h₄ t₄) Keep.rfl fun u h₅ t₅ k₅ hu => ?_
    have hL₅ : h₅.Ns env.locals m := hL₃.keeps (k₄.trans k₅)
    refine args_nil ⟨S₃.cx.kb.trans (k₄.trans k₅), ?_⟩
    refine csp_at (name := name) (s := Sm s₃ h₅ t₅) hcc ok hfr FE.fr (by rw [S₃.cx.fk]) hL₅ (S₃.cx.kb.trans (k₄.trans k₅)) hLB ⟨_, _, rfl, hu, rfl⟩ ⟨_, _, rfl, hu, rfl⟩ fun v h₆ t₆ hU hk hup => ?_
    replace hk : ∀ b o, b ≠ env.locals → h₅.get? b = some o → h₆.get? b = some o := hk
    replace hup : h₅.UpToSlots h₆ := hup
    exact ⟨hU, h₆, t₆, rfl, hup.ns hL₅, fun b o hb e => hk b o hb (k₅ b o (k₄ b o e))⟩
  · intro D C h₃ tk m' ys hD hC hDC hnC hl hpl hlen hF hL₃ kk
    refine ⟨m', hnC, fun h₄ hs₄ => ?_⟩
    replace hs₄ : Heap.SameBut C h₃ h₄ := hs₄
    have hCL : C ≠ env.locals := fun q => by
      obtain ⟨o, ho⟩ := S₂.alive (b := env.locals) (.head _)
      have : h₂'.get? C = none := hC
      rw [q, ho] at this; cases this
    have hL₄ : h₄.Ns env.locals m := hL₃.at' fun o e => hs₄.extBut _ o (Ne.symm hCL) e
    have S₄ := mk hL₄ fun b o hb hbL e => hs₄.extBut b o (fun q => by
      have : h₂'.get? C = none := hC
      rw [q, this] at e; cases e) (kk b o hb hbL e)
    refine args_nil ⟨S₄.cx.kb, ?_⟩
    have hDI : isO (.list true ((List.replicate n true).map .bool)) (.ref D) h₄ := by
      have hp₄ := hpl.at fun o e => hs₄.extBut D o hDC e
      refine ⟨D, rfl, ys, ⟨hp₄.isList, fun _ => hp₄⟩, ?_⟩
      refine oks_of_get (by simp [hlen]) fun j v hj => ?_
      have hjn : j < n := by rw [← hlen]; exact (List.getElem?_eq_some_iff.mp hj).1
      exact ⟨.bool true, by simp [hjn], hF j v hj⟩
    refine DenG.wp (den_callAll (prog := prog) (w := w) (A := A) hA hDI) (s := Sm σ h₄ tk) Keep.rfl fun v h₅ t₅ k₅ hv => ?_
    have hv' : v = .bool ((List.replicate n true).all id) := hv
    have e : (List.replicate n true).all id = true := by simp
    rw [hv', e]
    exact k h₅ t₅ (S₄.keep.trans k₅)
end

/-! ## law, seventh part: what is shown, what is refused -/
def caretO (num : Int) : AV → AV
  | .int z => .str ("^" ++ Str.mk #[(64 + num / 2 ^ z.toNat % 32).toNat])
  | a => a
theorem caret_eq (num : Int) (k : Nat) (c : Int) (h : num / 2 ^ k % 32 = c) : ("^" : Str) ++ Str.mk #[(64 + num / 2 ^ k % 32).toNat] = shown c := by
  rw [h, ← shown_eq, Int.add_comm]
def shownL (cs : List Int) : List Str := (List.range cs.length).map fun i => shown (cs.getD i 0)
section
variable {prog : Program} {w : World} {A : Around} {mg mb : Str → Option Value} {B H h base : Heap} {env : Env} {outer : List Env} {ρ : Vars} {σ s : Shared} {t : Nat} {px pos : Pos} {Q : Flow → Shared → Prop} {E : Value → Shared → Prop}
theorem bookL_at (cs : List Int) (i : Nat) (hi : i < cs.length) : ∃ dv, (bookL cs)[i]? = some (PyData.str (shown (cs.getD i 0)), dv) := by
  unfold bookL
  exact ⟨_, by rw [List.getElem?_map, List.getElem?_range hi]; rfl⟩
set_option maxHeartbeats 1000000 in
theorem seg7 {cc cb : Addr} {cs : List Int} {num : Int} (W : Wd mg mb B) (FE : FEnv (sc 19) env) (okA : OkA 8 A) (hfr : A.frames = some [env]) (S : St mg mb B H env ([(Str.ofString "book", AV.ref cb), (Str.ofString "size", AV.int (cs.length : Int)), (Str.ofString "number", AV.int num), (Str.ofString "controls", AV.ref cc)] : Vars) [] h) (hD : StrTab prog w H cb (bookL cs))
    (hcs : ∀ z ∈ cs, 0 ≤ z ∧ z < 32) (hcl : cs.length ≤ 32) (hkey : ∀ k (hk : k < cs.length), num / 2 ^ (cs.length - 1 - k) % 32 = cs[k])
    (k : ∀ h' t', Keep H h' → Q (.ret (.bool true)) (Sm σ h' t')) :
    wpAny (model prog w) A (execs ((boOf (stm 19)).drop 17) env) Q E (Sm σ h t) := by
  have nb := W.nb
  have hbl : (bookL cs).length = cs.length := by simp [bookL]
  have names_ok : ∀ x ∈ shownL cs, PyData.strOk x = true := by
    intro x hx
    obtain ⟨i, hi, rfl⟩ := List.mem_map.mp hx
    have := hcs _ (getD_ints_mem cs (List.mem_range.mp hi))
    exact shown_ok this.1 this.2
  refine ex_if (c := false) S ?t (fun e => by cases e) (fun _ h₁ t₁ S₁ => ?_)
  case t =>
    refine test_neSs (p := true) (q := true) (ns := shownL cs) (by have := okA.un; omega) names_ok (DenG.old ?l) (DenG.old ?r) (by with_unfolding_all rfl)
    case l =>
      have e : MO.strs true (shownL cs) = .list true ((((List.range cs.length).map fun i => AV.str (shown (cs.getD i 0))).filter fun _ => true).map (fun a => a)) := by
        rw [List.filter_eq_self.mpr (fun _ _ => rfl), List.map_id']
        show MO.list true (List.map AV.str (shownL cs)) = _
        unfold shownL
        rw [List.map_map]
        rfl
      rw [e]
      refine den_comp (fun _ => true) (fun a => a) [] [] FE S.cx Sub.nil (by decide +kernel) rfl (src_tab (fun i => shown (cs.getD i 0)) okA.hd S.cx (by walk_at "lk") (by walk_at "own") (by decide +kernel) hD S.keep hbl (bookL_at cs)) (by omega) (fun i h' cenv hi k CE C => ifs_none) (fun i h' cenv hi _ k CE C => ?_)
      walk_at "E"
    case r =>
      have e : MO.strs true (shownL cs) = .list true ((((List.range cs.length).map fun i : Nat => AV.int ((cs.length : Int) - 1 - (i : Int))).filter fun _ => true).map (caretO num)) := by
        rw [List.filter_eq_self.mpr (fun _ _ => rfl)]
        show MO.list true (List.map AV.str (shownL cs)) = _
        unfold shownL
        rw [List.map_map, List.map_map]
        congr 1
        refine List.map_congr_left fun i hi => ?_
        have hi := List.mem_range.mp hi
        show AV.str (shown (cs.getD i 0)) = AV.str _
        have e1 : ((cs.length : Int) - 1 - (i : Int)).toNat = cs.length - 1 - i := by omega
        have e2 : cs.getD i 0 = cs[i] := by simp [List.getD, hi]
        rw [e1, caret_eq num _ _ (hkey i hi), e2]
      rw [e]
      refine den_comp (H := H) (fun _ => true) (caretO num) ([(Str.ofString "number", AV.int num)] : Vars) ["number"] FE S.cx (by walk_at "sub") (by decide +kernel) rfl (src_range3 (N := cs.length) okA.hd S.cx nb (by walk_at "gl") (by walk_at "E") (by walk_at "E") (by walk_at "E") (by omega) (by omega) (by omega) (by decide) (by decide)) (by omega) (fun i h' cenv hi k CE C => ifs_none) (fun i h' cenv hi _ k CE C => ?_)
      show Den _ _ _ _ _ (is (.str ("^" ++ Str.mk #[(64 + num / 2 ^ ((cs.length : Int) - 1 - (i : Int)).toNat % 32).toNat])))
      have h0 : 0 ≤ (cs.length : Int) - 1 - (i : Int) := by omega
      have hm0 : 0 ≤ 64 + num / 2 ^ ((cs.length : Int) - 1 - (i : Int)).toNat % 32 := by omega
      have hm1 : 64 + num / 2 ^ ((cs.length : Int) - 1 - (i : Int)).toNat % 32 ≤ 1114111 := by omega
      exact den_cat (by walk_at "E") (by walk_at "E") (by show 1 + 1 ≤ 1000000; decide)
  refine ex_nil ?_
  exact ex_ret_all (nn := 3) (n := cs.length) (fun i => shown (cs.getD i 0)) S₁ nb (fun i hi => f_refused W 94 _) (OkA.le okA (by decide)) okA.hd hfr FE (by walk_at "gl") (by decide +kernel) (by decide +kernel) (by decide +kernel) (by decide +kernel) (by decide +kernel) (src_tab (fun i => shown (cs.getD i 0)) okA.hd S₁.cx (by walk_at "lk") (by walk_at "own") (by decide +kernel) hD S₁.keep hbl (bookL_at cs)) (by omega) k
end

/-! ## law, whole -/
theorem b_true (b : Bool) : (b == true) = b := by cases b <;> rfl
theorem b_false (b : Bool) : (b == false) = !b := by cases b <;> rfl
theorem in_words (ns : List Int) : ((List.range 32).filter fun i : Nat => (goneOf ns).any (· == (i : Int)) == true).map wordN = wordsTo (maskL (csOf ns)) 32 :=
  (congrArg (List.map wordN) (List.filter_congr fun i _ => b_true _)).trans (words_in ns)
theorem out_words (ns : List Int) : ((List.range 32).filter fun i : Nat => (goneOf ns).any (· == (i : Int)) == false).map wordN = wordsTo (-1 - maskL (csOf ns)) 32 :=
  (congrArg (List.map wordN) (List.filter_congr fun i _ => b_false _)).trans (words_out ns)
theorem words_strOk (f : Int) : ∀ x ∈ wordsTo f 32, PyData.strOk x = true := fun x hx => by
  obtain ⟨i, hi, rfl⟩ := wordsTo_mem hx
  exact word_ok i hi
theorem lack_small (f : Int) : ((wordsTo f 32 ++ [("-0x100000000" : Str)]).map (·.length)).sum + (wordsTo f 32 ++ [("-0x100000000" : Str)]).length * (", " : Str).length ≤ 16777216 := by
  have h1 := wordsTo_sum f 32 (by decide)
  have h2 := wordsTo_len f 32
  have h3 : ("-0x100000000" : Str).length = 12 := by decide +kernel
  rw [sep_len, List.map_append, List.sum_append, List.length_append]
  simp only [List.map_cons, List.map_nil, List.sum_cons, List.sum_nil, List.length_cons, List.length_nil, h3]
  omega
theorem mask_small (ns : List Int) : 0 ≤ maskL (csOf ns) ∧ maskL (csOf ns) < 2 ^ 32 := by
  obtain ⟨h0, h1, _⟩ := mask_bits (cs_nd ns) (cs_rg ns)
  omega
theorem lows_range {tops : List Int} {n : Nat} (hn : n ≤ 32) {num : Int} (h0 : 0 ≤ num) (h1 : num < 2 ^ 36) : ∀ x ∈ [num] ++ tops.map (· % 2 ^ n), 0 ≤ x ∧ x < 2 ^ 36 := by
  intro x hx
  rcases List.mem_append.mp hx with hx | hx
  · rw [List.mem_singleton.mp hx]; exact ⟨h0, h1⟩
  · obtain ⟨y, _, rfl⟩ := List.mem_map.mp hx
    have a := Int.emod_nonneg y (Int.ne_of_gt (pow_pos2 n))
    have b := Int.emod_lt_of_pos y (pow_pos2 n)
    have c : (2 : Int) ^ n ≤ 2 ^ 32 := by
      have := Nat.pow_le_pow_right (show 0 < 2 by decide) hn
      exact_mod_cast this
    exact ⟨a, by omega⟩

section
variable {prog : Program} {w : World} {A : Around} {mg mb : Str → Option Value} {B H h base : Heap} {env : Env} {outer : List Env} {ρ : Vars} {σ s : Shared} {t : Nat} {px pos : Pos} {E : Value → Shared → Prop}
set_option maxHeartbeats 1000000 in
theorem law_body {c : Addr} {ns₀ : List Int} {p : Bool} {Q : Flow → Shared → Prop} (W : Wd mg mb B) (ft : FT prog w mg B) (FE : FEnv (sc 19) env) (okA : OkA 8 A) (hfr : A.frames = some [env]) (S : St mg mb B H env ([(Str.ofString "script", AV.ref c)] : Vars) [] h) (hI : Is H c (.ints p ns₀)) (hlen : ns₀.length ≤ 1000)
    (k : ∀ h' t', Keep H h' → Q (.ret (.bool true)) (Sm σ h' t')) :
    wpAny (model prog w) A (execs (boOf (stm 19)) env) Q E (Sm σ h t) := by
  obtain ⟨ns, hns⟩ : ∃ ns, ns = ns₀.take 60 := ⟨_, rfl⟩
  have hnl : ns.length ≤ 60 := by rw [hns, List.length_take]; omega
  have g1 := cs_rg ns
  have g2 := cs_le ns
  have g3 := cs_pos ns
  have g4 := home_ok ns
  have g5 := plan_ok ns
  have g6 := mask_small ns
  have g7 : (bothN (planL ns) (homeOf ns) 60).gone = goneOf ns := by unfold goneOf; exact Eq.refl _
  have g8 := pretty_mask ns
  have g9 := came_all ns
  have g10 := in_words ns
  have g11 := out_words ns
  have g12 := pretty_rest ns
  have g13 := num_0 ns
  have g14 := num_36 ns
  have g15 := key1 ns
  have g16 := key2 ns
  have g17 := book_look ns
  have g18 : ((csOf ns).map fun c => (2 : Int) ^ c.toNat).sum = maskL (csOf ns) := by unfold maskL; exact Eq.refl _
  refine seg1 hns W FE okA S hI hlen fun cn cp cc H1 h1 t1 k1 hN hP hC S1 => ?_
  refine seg2 W FE okA S1 hC g2 g1 (book_eq ns) (num_home ns) fun cw cb H2 h2 t2 k2 hW hD S2 => ?_
  generalize csOf ns = cs at *
  generalize goneOf ns = gone at *
  generalize planL ns = plan at *
  generalize homeOf ns = home at *
  generalize numOf ns = num at *
  generalize turnOf ns = turn at *
  generalize maskL cs = mask at *
  have a1 := join_words_len mask
  have a2 := split_words mask g8.2
  have a3 := wordsTo_len mask 32
  have a4 := words_strOk mask
  have a5 := wordsTo_len (-1 - mask) 32
  have a6 := lack_small (-1 - mask)
  have a7 := g8.1
  generalize wordsTo mask 32 = came at *
  generalize wordsTo (-1 - mask) 32 = lk at *
  refine seg3 W ft FE okA S2 (hP.up k2) (hC.up k2) g1 g2 g4 g5 g18 g6 g7 a7 a1 a2 a3 (Eq.refl _) g9 fun cg ca H3 h3 t3 k3 hG hA S3 => ?_
  refine seg4 W ft FE okA S3 (hW.up k3) hG hA g6 g10 g11 a4 g12 a5 a6 fun cl H4 h4 t4 k4 S4 => ?_
  obtain ⟨tops, htops⟩ : ∃ tops, ns.take 2 ++ [0, -1, 3 * 2 ^ (cs.length - 1)] = tops := ⟨_, rfl⟩
  have hr := lows_range (tops := tops) g2 g13 g14
  obtain ⟨lows, hlows⟩ : ∃ lows, tops.map (· % 2 ^ cs.length) = lows := ⟨_, rfl⟩
  have htl : tops.length ≤ 5 := by
    have := congrArg List.length htops
    rw [List.length_append, List.length_take] at this
    simp only [List.length_cons, List.length_nil] at this
    omega
  have hll : lows.length ≤ 5 := by rw [← hlows, List.length_map]; exact htl
  rw [hlows] at hr
  obtain ⟨chunks, tl, r1, r2, r3, r4, r5⟩ := tape_read ([num] ++ lows) turn hr
  have r6 := tape_len ([num] ++ lows) turn (by simp; omega)
  refine seg5 W FE okA hfr S4 (hN.up (k2.trans (k3.trans k4))) g3 g2 hnl htops hlows r1 r2 r3 r4 r6 r5 fun ct clo H5 h5 t5 k5 hT hL S5 => ?_
  refine seg6 W ft FE okA S5 (hC.up (k2.trans (k3.trans (k4.trans k5)))) (hD.keep (k3.trans (k4.trans k5))) hT hL g1 g2 hlows htl g16 g17 fun h6 t6 S6 => ?_
  exact seg7 W FE okA hfr S6 (hD.keep (k3.trans (k4.trans k5))) g1 g2 g15 fun h7 t7 k7 => k h7 t7 (k1.trans (k2.trans (k3.trans (k4.trans (k5.trans k7)))))

theorem law_call {f c : Addr} {ns₀ : List Int} {p : Bool} {Q : Value → Shared → Prop} (W : Wd mg mb B) (ft : FT prog w mg B) (F : Fn B f "law" (pa 19) (bo 19) (sc 19)) (ok : OkA 9 A) (hfr : A.frames = some []) (kb : Keep B s.heap) (hI : Is s.heap c (.ints p ns₀)) (hlen : ns₀.length ≤ 1000)
    (k : ∀ h' t', Keep s.heap h' → Q (.bool true) (Sm s h' t')) :
    wpAny (model prog w) A (call (.ref f) [.ref c]) Q E s := by
  refine wp_fn (n := 8) (ρ := [("script", .ref c)]) (binds := [("script", .ref c)]) (xs := ["script"]) F W.gd kb ok (fun _ _ _ => by kernel_rfl) (.cons ⟨rfl, rfl⟩ .nil) (by decide +kernel) rfl fun env h₁ t₁ FE okA S => ?_
  show wpAny _ _ (execs (boOf (stm 19)) env) _ _ _
  exact law_body (σ := s) W ft FE okA (Around.frames_deeper hfr) S hI hlen fun h' t' kk => k h' t' kk
end

/-! ## The head -/
def recAt (i : Nat) : DefRec := match stm i with
  | .FunctionDef name a b _ _ _ s _ _ p => ⟨name, a, b, s, p⟩
  | _ => ⟨"", ⟨[], [], none, [], [], none, []⟩, [], ⟨.module, [], false, false, []⟩, default⟩
def theRecs : List DefRec := ([1, 2, 3, 4, 7, 8, 10, 11, 12, 13, 14, 15, 16, 17, 18, 19] : List Nat).map recAt
section
variable {q : Program} {loose : List Str} {mean : ExcName → Option Value} {mg mb : Str → Option Value} {h : Heap}
theorem fn_of (T : Top q loose mean mg mb h) (hrec : recsOf q = theRecs) {i : Nat} (hi : i ∈ ([1, 2, 3, 4, 7, 8, 10, 11, 12, 13, 14, 15, 16, 17, 18, 19] : List Nat)) :
    ∃ f, mg (recAt i).name = some (.ref f) ∧ Fn h f (recAt i).name (recAt i).params (recAt i).body (recAt i).scope := by
  obtain ⟨a, o, pm, code, doc, h1, h2, h3, h4⟩ := T.fn (recAt i) (by rw [hrec]; exact List.mem_map.mpr ⟨i, hi, rfl⟩)
  exact ⟨a, h1, ⟨⟨o, pm, code, doc, h2, h3, h4⟩⟩⟩
theorem wd_of (T : Top q loose mean mg mb h) (hrec : recsOf q = theRecs) (hfree : (usedB.all fun x => !(startupNames.contains (Str.ofString x)) && !(loose.contains (Str.ofString x)) && !(((recsOf q).map (·.name)).contains (Str.ofString x)) && !(((litsOf q).map (·.1)).contains (Str.ofString x)) && !(((clssOf q loose).map (·.name)).contains (Str.ofString x))) = true) : Wd mg mb h := by
  refine ⟨⟨T.g, T.b, T.nolimit, T.builtins⟩, fun p hp => ?_, fun x hx => ?_⟩
  · simp only [fns, List.mem_cons, List.not_mem_nil, or_false] at hp
    rcases hp with rfl | rfl | rfl | rfl | rfl | rfl | rfl | rfl | rfl | rfl | rfl | rfl | rfl | rfl | rfl
    · exact fn_of T hrec (i := 1) (by decide)
    · exact fn_of T hrec (i := 2) (by decide)
    · exact fn_of T hrec (i := 3) (by decide)
    · exact fn_of T hrec (i := 4) (by decide)
    · exact fn_of T hrec (i := 7) (by decide)
    · exact fn_of T hrec (i := 8) (by decide)
    · exact fn_of T hrec (i := 10) (by decide)
    · exact fn_of T hrec (i := 11) (by decide)
    · exact fn_of T hrec (i := 12) (by decide)
    · exact fn_of T hrec (i := 13) (by decide)
    · exact fn_of T hrec (i := 14) (by decide)
    · exact fn_of T hrec (i := 15) (by decide)
    · exact fn_of T hrec (i := 16) (by decide)
    · exact fn_of T hrec (i := 17) (by decide)
    · exact fn_of T hrec (i := 18) (by decide)
  · have := List.all_eq_true.mp hfree x hx
    simp only [Bool.and_eq_true, Bool.not_eq_true', List.contains_eq_mem, decide_eq_false_iff_not] at this
    obtain ⟨⟨⟨⟨a, b⟩, c⟩, d⟩, e⟩ := this
    exact T.free _ a b c d e
theorem law_of (T : Top q loose mean mg mb h) (hrec : recsOf q = theRecs) {f : Addr} (hm : mg (Str.ofString "law") = some (.ref f)) : Fn h f "law" (pa 19) (bo 19) (sc 19) := by
  obtain ⟨a, h1, F⟩ := fn_of T hrec (i := 19) (by decide)
  have h1' : mg (Str.ofString "law") = some (.ref a) := h1
  rw [hm] at h1'
  cases h1'
  exact F
theorem pairs_move {p : Program} {w : World} {es : List DictEntry} {kvs : List (Int × Value)} (x : Pairs (intKind q w) es kvs) : Pairs (intKind p w) es kvs := by
  induction x with
  | nil => exact .nil
  | cons h1 h2 _ ih => exact .cons h1 h2 ih
theorem ft_of {p : Program} {w : World} (TB : Tables q w mg h) (ht : tabIntOf q "COMPILER_FLAG_NAMES" = some flagNames) : FT p w mg h := by
  obtain ⟨a, h1, h2⟩ := TB.tabI _ _ ht
  obtain ⟨lo, kvs, ⟨o, es, ep, ho, hx, hd, hk, hp, hn⟩, hf⟩ := h2
  exact ⟨a, h1, lo, kvs, ⟨o, es, ep, ho, hx, hd, hk, pairs_move hp, hn⟩, hf⟩
theorem okA_caller : OkA 9 callerA := ⟨rfl, by decide +kernel, by decide +kernel⟩
end
end Mine

set_option maxHeartbeats 8000000 in
theorem PySem.Challenge.cw_pk0029_01_holds : PySem.Challenge.rw_pk0029_01.Holds := by
  (w_on; o_law; o_head Hook.none; (case hw => w_witness2))
  intro w s₀ s₁ mg mb G Y fa o pm cd doc dV kV ho hd hcd hD hmg hg args vals as hpre hlay hrd hwl hlo
  clear Y
  have W : Mine.Wd mg mb s₁.heap := Mine.wd_of G.T (by rfl) (by decide +kernel)
  have ft : Mine.FT PySem.Challenge.rw_pk0029_01.row.prog w mg s₁.heap := Mine.ft_of G.B (by rfl)
  have F : Mine.Fn s₁.heap fa "law" (Mine.pa 19) (Mine.bo 19) (Mine.sc 19) := Mine.law_of G.T (by rfl) hmg
  clear hd hmg hD hcd ho G
  wrow_args hpre hlay hrd hwl hlo
  rename_i ns hs hl0 hl hr hl2 a1 a2 l vs a3 hL hra hw1 hr0 hI hra2 hc1 hc2
  refine Mine.law_call (p := false) (ns₀ := ns) W ft F Mine.okA_caller rfl Mine.Keep.rfl ⟨vs, ⟨hL, fun e => by cases e⟩, Mine.Oks.ints hI⟩ (by omega) fun h' t' kk => ?_
  refine GoodW.toG ⟨.inl ⟨.bool true, .bool true, [], rfl, fun _ => rfl, .bool true, ?post, fun _ => ⟨.nil, fun a h => nomatch h⟩⟩, kk, rfl, hg⟩
  wrow_post
