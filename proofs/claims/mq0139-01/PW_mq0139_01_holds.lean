import PyProof.Rows.All
import Wide.All
import OpenK.AllK
import Wide.FinOn
import PySem.Challenge.RW_mq0139_01
set_option Elab.async false
namespace Mine
section
open PySem PySem.W PyProof.Rows
set_option maxRecDepth 100000
set_option maxHeartbeats 8000000
open_top hd for PySem.Challenge.rw_mq0139_01
end
section
open PySem PySem.W PyProof.Rows
set_option maxRecDepth 100000
set_option maxHeartbeats 4000000

/-- a frame's map: the written names first -/
def frm (l : List (Str × Value)) (u : Str → Option Value) : Str → Option Value := fun x => match l.lookup x with | some v => some v | none => u x
theorem frm_self {l : List (Str × Value)} {m : Str → Option Value} (h : ∀ p ∈ l, m p.1 = some p.2) : frm l m = m := by
  funext x
  unfold frm
  split
  · rename_i v e
    have := h (x, v) (by
      clear h
      induction l with
      | nil => cases e
      | cons p r ih =>
        obtain ⟨y, z⟩ := p
        rw [List.lookup_cons] at e
        split at e
        · rename_i hy
          cases e
          have : x = y := by simpa using hy
          subst this
          exact .head _
        · exact .tail _ (ih e))
    exact this.symm
  · rfl
theorem fr_as {h₀ h : Heap} {L : Addr} {m : Str → Option Value} (F : Fr h₀ L h m) (l : List (Str × Value)) (hl : ∀ p ∈ l, m p.1 = some p.2) : Fr h₀ L h (frm l m) := by
  rw [frm_self hl]; exact F
theorem news_sub {h₀ h : Heap} {L : Addr} {l l' : List (Addr × Obj)} (N : News h₀ L h l) (hs : ∀ p ∈ l', p ∈ l) : News h₀ L h l' := fun p hp => N p (hs p hp)

/-- a text by its signs -/
abbrev tx (l : List Nat) : Str := ⟨l.toArray⟩
abbrev tupOf (its : Array Value) (n : Nat) : Obj := { cls := .type "tuple", data := .seq its n }

/-- what a call of a def says: the ledger's objects stay, the answer is told with a new ledger -/
def Gives (w : World) (p : Program) (loose : List Str) (mean : ExcName → Option Value) (mg mb : Str → Option Value) (f : Value) (args : List Value) (D U : Nat) (news : List (Addr × Obj)) (Post : Value → List (Addr × Obj) → Prop) : Prop :=
  ∀ (dp un : Nat) (gd : Option (List Code)) (cn : Str) (cs : Scope) (a : Addr) (ccd : Value) (cl : List (Str × Addr)) (outer : List Env) (A₀ : Around) (base h₀ : Heap) (L : Addr) (m : Str → Option Value) (s : Shared)
    (Q E : Value → Shared → Prop),
    Below A₀ base outer h₀ → Fr h₀ L s.heap m → (hd.heap_39 w.params).In h₀ → News h₀ L s.heap news → Top p loose mean mg mb h₀ → CodeHd base 76 72 → cs.kind = .function → dp + D < recursionLimit → un + U < cLine →
    (∀ r news' h' tk', Fr h₀ L h' m → News h₀ L h' news' → Post r news' → Q r { s with heap := h', toks := tk' }) →
    wpAny (model PySem.Challenge.rw_mq0139_01.row.prog w) (ktrTop dp un gd cn cs L a ccd cl outer) (call f args) Q E s
end
section
open PySem PySem.W PyProof.Rows
set_option maxRecDepth 100000
set_option maxHeartbeats 4000000
def Stop (P : Prop) : Prop := P
theorem stop_mk {P : Prop} (h : Stop P) : P := h

theorem litS0 : PySem.Str.ofString "" = tx [] := by decide +kernel
theorem litS1 : PySem.Str.ofString "\\" = tx [92] := by decide +kernel
theorem litS2 : PySem.Str.ofString "\"" = tx [34] := by decide +kernel
theorem litS3 : PySem.Str.ofString "\n" = tx [10] := by decide +kernel
theorem litS4 : PySem.Str.ofString "*" = tx [42] := by decide +kernel
theorem litS5 : PySem.Str.ofString ")" = tx [41] := by decide +kernel
theorem litS6 : PySem.Str.ofString ".*" = tx [46, 42] := by decide +kernel
theorem litS7 : PySem.Str.ofString " \t\n\r\"" = tx [32, 9, 10, 13, 34] := by decide +kernel
theorem litS8 : PySem.Str.ofString "\n\t\r " = tx [10, 9, 13, 32] := by decide +kernel
theorem litS9 : PySem.Str.ofString "(?s:" = tx [40, 63, 115, 58] := by decide +kernel
theorem litS10 : PySem.Str.ofString "(?>.*?" = tx [40, 63, 62, 46, 42, 63] := by decide +kernel
theorem litS11 : PySem.Str.ofString ")\\Z" = tx [41, 92, 90] := by decide +kernel
theorem tx_len (x : List Nat) : (tx x).length = x.length := by simp [Str.length]
theorem tx_app (x y : List Nat) : tx x ++ tx y = tx (x ++ y) := by
  show Str.mk (x.toArray ++ y.toArray) = _
  simp
theorem tx_inj {x y : List Nat} (h : tx x = tx y) : x = y := by
  have := congrArg Str.cps h
  simpa using this
section
variable {prog : Program} {w : World} {A : Around} {E : Value → Shared → Prop} {s : Shared} {x y : List Nat} {t u : Tok} {Q : Value → Shared → Prop}

theorem const_tx {M : Model} {env : Env} {z : Str} {k : Nat} {pos : Pos} (hz : z = tx x) (h : ∀ tk tk', Q (.str (tx x) tk) { s with toks := tk' }) : wpAny M A (eval (.Constant (.str z) k pos) env) Q E s := by
  subst hz
  exact wpAny_Constant_str (h _ _)
theorem len_tx (hs : x.length ≤ 100000) (h : ∀ tk tk', Q (.int x.length tk) { s with toks := tk' }) : wpAny (model prog w) A (call (.builtin "len") [.str (tx x) t]) Q E s := by
  have e := tx_len x
  refine P.len_str (by rw [e]; omega) ?_
  rw [e]
  exact h _ _
theorem eq_tx {b : Bool} (hb : (x == y) = b) (h : Q (.bool b) s) : wpAny (model prog w) A (compareOp .Eq (.str (tx x) t) (.str (tx y) u)) Q E s :=
  P.eq_str (by subst hb; exact h)
theorem ne_tx {b : Bool} (hb : (x == y) = b) (h : Q (.bool (!b)) s) : wpAny (model prog w) A (compareOp .NotEq (.str (tx x) t) (.str (tx y) u)) Q E s :=
  P.ne_str (by subst hb; exact h)
theorem in_tx {c : Nat} {b : Bool} (hb : x.contains c = b) (h : Q (.bool b) s) : wpAny (model prog w) A (compareOp .In (.str (tx [c]) u) (.str (tx x) t)) Q E s := by
  refine P.in_str ?_
  have e : (!(Builtin.Str.occurrences (tx x) (tx [c]) 0 (tx x).length 1).isEmpty) = x.contains c := by
    have := StrLaws.found_one (tx x) c
    rw [this]
    simp
  rw [e, hb]
  exact h
theorem made_tx (hl : (x ++ y).length ≤ 100000) (h : ∀ tk tk', Q (.str (tx (x ++ y)) tk) { s with toks := tk' }) :
    (if (tx x).length == 0 then Made.val (.str (tx y) u) else if (tx y).length == 0 then Made.val (.str (tx x) t) else Made.str (tx x ++ tx y)).post Q s := by
  split
  · rename_i hx
    have : x = [] := by simpa [Str.length] using hx
    subst this
    exact h _ _
  · split
    · rename_i hy
      have : y = [] := by simpa [Str.length] using hy
      subst this
      have := h t s.toks
      rw [List.append_nil] at this
      exact this
    · rw [tx_app]
      exact ⟨by rw [tx_len]; exact Nat.le_trans hl (by decide), h _ _⟩
theorem add_tx (hl : (x ++ y).length ≤ 100000) (h : ∀ tk tk', Q (.str (tx (x ++ y)) tk) { s with toks := tk' }) : wpAny (model prog w) A (binaryOp .Add (.str (tx x) t) (.str (tx y) u)) Q E s :=
  P.add_str (made_tx hl h)
theorem iadd_tx (hl : (x ++ y).length ≤ 100000) (h : ∀ tk tk', Q (.str (tx (x ++ y)) tk) { s with toks := tk' }) : wpAny (model prog w) A (inplaceOp .Add (.str (tx x) t) (.str (tx y) u)) Q E s :=
  P.iadd_str (made_tx hl h)
theorem item_tx {value slice : Expr} {k c : Nat} (hc : x[k]? = some c) (hs' : x.length ≤ 100000) (h : ∀ tk tk', Q (.str (tx [c]) tk) { s with toks := tk' })
    (hs : subscripted slice false (.str (tx x) t) (.int (k : Int) u) = operate [.str (tx x) t, .int (k : Int) u] (getItem (.str (tx x) t) (.int (k : Int) u)) := by with_unfolding_all rfl)
    (ht : ∀ r, letTemporaryGo value (.str (tx x) t) r = pure () := by intro _; with_unfolding_all rfl) :
    wpAny (model prog w) A (subscriptTail value slice (.str (tx x) t) (.int (k : Int) u)) Q E s := by
  have hk : k < x.length := by
    obtain ⟨h, _⟩ := List.getElem?_eq_some_iff.mp hc
    exact h
  have e := tx_len x
  refine item_str (by exact fitsSsize_of (N := 9223372036854775808) (by omega) (by omega) (Int.le_refl _)) (by rw [e]; omega) (by rw [e]; omega) (fun _ => ?_) hs ht
  have : Txt.item (tx x) (k : Int) = tx [c] := item_meets (by omega) (by simpa using hc)
  rw [this]
  exact h _ _
theorem clip_hi (lo : Option Int) {b : Int} {n : Nat} (h : (n : Int) ≤ b) : Builtin.Str.strSliceIndices lo (some b) 1 n = Builtin.Str.strSliceIndices lo (some (n : Int)) 1 n := by
  have hb : ¬ b < 0 := Int.not_lt.mpr (Int.le_trans (Int.natCast_nonneg n) h)
  have hn : ¬ (n : Int) < 0 := Int.not_lt.mpr (Int.natCast_nonneg n)
  simp only [Builtin.Str.strSliceIndices, if_neg hb, if_neg hn, Int.min_eq_right h, Int.min_self, if_pos (show (1 : Int) > 0 by decide)]
theorem slice_one (x : List Nat) {k : Nat} (hk : k < x.length) : Txt.slice (tx x) (some ((k : Int) + 1)) (some ((k : Int) + 2)) = tx ((x.drop (k + 1)).take 1) := by
  by_cases h : k + 1 < x.length
  · have := StrLaws.sliceText_nat (tx x) (a := k + 1) (b := k + 2) (Nat.le_succ _) (by rw [tx_len]; exact h)
    rw [show k + 2 - (k + 1) = 1 from Nat.add_sub_cancel_left (n := k + 1) (m := 1)] at this
    exact this
  · have e1 : x.length = k + 1 := Nat.le_antisymm (Nat.le_of_not_lt h) hk
    have := StrLaws.sliceText_nat (tx x) (a := k + 1) (b := x.length) hk (by rw [tx_len]; exact Nat.le_refl _)
    have key : Txt.slice (tx x) (some ((k : Int) + 1)) (some ((k : Int) + 2)) = Txt.slice (tx x) (some ((k : Int) + 1)) (some ((x.length : Nat) : Int)) := by
      have := clip_hi (some ((k : Int) + 1)) (b := (k : Int) + 2) (n := (tx x).length) (by rw [tx_len, e1]; exact Int.le_add_one (Int.le_refl _))
      rw [tx_len] at this
      unfold Txt.slice
      rw [tx_len, this]
    rw [key]
    refine Eq.trans this ?_
    have e2 : x.drop (k + 1) = [] := List.drop_of_length_le (Nat.le_of_eq e1)
    show Str.mk ((x.drop (k + 1)).take _).toArray = _
    rw [e2, List.take_nil, List.take_nil]
end
end
section
open PySem PySem.W PyProof.Rows
set_option maxRecDepth 100000
set_option maxHeartbeats 4000000
/-- an object that is a map of names -/
def NsObj (o : Obj) (m : Str → Option Value) : Prop := ∃ es ep, o.data = .dict es ep ∧ StrKeys es ∧ ∀ name, nsFind es name = m name
theorem NsObj.ns {o : Obj} {m : Str → Option Value} {h : Heap} {a : Addr} (x : NsObj o m) (e : h.get? a = some o) : h.Ns a m :=
  let ⟨es, ep, h1, h2, h3⟩ := x; ⟨o, es, ep, e, h1, h2, h3⟩
theorem ns_obj {m : Str → Option Value} {h : Heap} {a : Addr} (x : h.Ns a m) : ∃ o, h.get? a = some o ∧ NsObj o m :=
  let ⟨o, es, ep, e, h1, h2, h3⟩ := x; ⟨o, e, es, ep, h1, h2, h3⟩
def Off (D C : Addr) (nw : List (Addr × Obj)) : Prop := ∀ p ∈ nw, p.1 ≠ D ∧ p.1 ≠ C

/-- one object of the ledger turned -/
theorem news_turn {h₀ h h' : Heap} {L a : Addr} {m : Str → Option Value} {o o' : Obj} {nw : List (Addr × Obj)} (F : Fr h₀ L h m) (N : News h₀ L h ((a, o) :: nw)) (hs : Heap.SameBut a h h') (e : h'.get? a = some o') (hn : ∀ p ∈ nw, p.1 ≠ a) :
    Fr h₀ L h' m ∧ News h₀ L h' ((a, o') :: nw) := by
  have z := N (a, o) (.head _)
  refine ⟨F.change hs z.2.1 z.2.2, fun p hp => ?_⟩
  rcases List.mem_cons.mp hp with rfl | hp
  · exact ⟨e, z.2⟩
  · have y := N p (.tail _ hp)
    exact ⟨(hs.2 _ (hn p hp)).trans y.1, y.2⟩
theorem news_swap {h₀ h : Heap} {L : Addr} {x y : Addr × Obj} {nw : List (Addr × Obj)} (N : News h₀ L h (x :: y :: nw)) : News h₀ L h (y :: x :: nw) := fun p hp => by
  rcases List.mem_cons.mp hp with rfl | hp
  · exact N _ (.tail _ (.head _))
  · rcases List.mem_cons.mp hp with rfl | hp
    · exact N _ (.head _)
    · exact N _ (.tail _ (.tail _ hp))

def CompNext (h₀ : Heap) (L : Addr) (m : Str → Option Value) (s₂ : Shared) (J : Nat → List Value → List (Addr × Obj) → Prop) (D C : Addr) (n : Nat) (vs : List Value) (ep : Nat) (s' : Shared) : Prop :=
  ∃ h' tk nw oC mc n', s' = { s₂ with heap := h', toks := tk } ∧ Fr h₀ L h' m ∧ News h₀ L h' ((C, oC) :: (D, listOf vs.toArray ep) :: nw) ∧ NsObj oC mc ∧ Off D C nw ∧ n' < n ∧ J n' vs nw
def CompEl (h₀ : Heap) (L : Addr) (m : Str → Option Value) (s₂ : Shared) (J : Nat → List Value → List (Addr × Obj) → Prop) (D C : Addr) (n : Nat) (vs : List Value) (ep : Nat) (y : Value) (s' : Shared) : Prop :=
  ∃ h' tk nw oC mc n', s' = { s₂ with heap := h', toks := tk } ∧ Fr h₀ L h' m ∧ News h₀ L h' ((C, oC) :: (D, listOf vs.toArray ep) :: nw) ∧ NsObj oC mc ∧ Off D C nw ∧ n' < n ∧ J n' (vs ++ [y]) nw ∧ vs.length ≤ 100000
def CompEnd (h₀ : Heap) (L : Addr) (m : Str → Option Value) (s₂ : Shared) (K : List Value → List (Addr × Obj) → Prop) (D C : Addr) (vs : List Value) (ep : Nat) (s' : Shared) : Prop :=
  ∃ h' tk nw oC mc, s' = { s₂ with heap := h', toks := tk } ∧ Fr h₀ L h' m ∧ News h₀ L h' ((C, oC) :: (D, listOf vs.toArray ep) :: nw) ∧ NsObj oC mc ∧ Off D C nw ∧ K vs nw
end
section
open PySem PySem.W PyProof.Rows
set_option maxRecDepth 100000
set_option maxHeartbeats 4000000
/-- what stands in the ledger, or in the ground -/
def Kept (h₀ : Heap) (keep : List (Addr × Obj)) (I : Addr) (fp : List Addr) : Prop := ∀ b ∈ fp, b ≠ I → ∃ o, (b, o) ∈ keep ∨ h₀.get? b = some o
theorem kept_at {h₀ h : Heap} {L I : Addr} {m : Str → Option Value} {fp : List Addr} {keep : List (Addr × Obj)} {prog : Program} {w : World} {A : Around} {wr : List Addr} {n : Nat} {P : Nat → Value → Prop} {St : Nat → Heap → Prop} {i : Nat} {h₁ : Heap} {oI : Obj}
    (W : Walks prog w A I fp wr n P St) (k : Kept h₀ keep I fp) (F : Fr h₀ L h m) (N : News h₀ L h keep) (F₁ : Fr h₀ L h₁ m) (N₁ : News h₀ L h₁ keep) (e : h.get? I = some oI) (e₁ : h₁.get? I = some oI) (st : St i h₁) : St i h := by
  refine W.frame i h₁ h st fun b hb o ho => ?_
  by_cases hI : b = I
  · subst hI
    rw [e₁] at ho
    cases ho
    exact e
  · obtain ⟨o', ho'⟩ := k b hb hI
    rcases ho' with ho' | ho'
    · have := (N₁ _ ho').1
      rw [this] at ho
      cases ho
      exact (N _ ho').1
    · rw [F₁.keep _ _ ho'] at ho
      cases ho
      exact F.keep _ _ ho'

/-- behind an element of a comprehension over an iterator: the value, the ledger -/
def WalkEl (h₀ : Heap) (L : Addr) (m : Str → Option Value) (s₂ : Shared) (J : List Value → List (Addr × Obj) → Prop) (D C I : Addr) (oI : Obj) (vs : List Value) (ep : Nat) (y : Value) (s' : Shared) : Prop :=
  ∃ h' tk nw oC mc, s' = { s₂ with heap := h', toks := tk } ∧ Fr h₀ L h' m ∧ News h₀ L h' ((C, oC) :: (D, listOf vs.toArray ep) :: (I, oI) :: nw) ∧ NsObj oC mc ∧ Off D C nw ∧ (∀ p ∈ nw, p.1 ≠ I) ∧ J (vs ++ [y]) nw ∧ vs.length ≤ 100000
def WalkNext (h₀ : Heap) (L : Addr) (m : Str → Option Value) (s₂ : Shared) (J : List Value → List (Addr × Obj) → Prop) (D C I : Addr) (oI : Obj) (vs : List Value) (ep : Nat) (s' : Shared) : Prop :=
  ∃ h' tk nw oC mc, s' = { s₂ with heap := h', toks := tk } ∧ Fr h₀ L h' m ∧ News h₀ L h' ((C, oC) :: (D, listOf vs.toArray ep) :: (I, oI) :: nw) ∧ NsObj oC mc ∧ Off D C nw ∧ (∀ p ∈ nw, p.1 ≠ I) ∧ J vs nw
end
section
open PySem PySem.W PyProof.Rows
set_option maxRecDepth 100000
set_option maxHeartbeats 1000000
/-- what a comprehension's end says: its list, the ledger, the frame -/
abbrev FinT := Addr → List Value → Nat → List (Addr × Obj) → (Str → Option Value) → Heap → Nat → Shared → Prop
inductive CompPlan (prog : Program) (w : World) (A : Around) (env : Env) (h₀ : Heap) (L : Addr) (target elt : Expr) (ifs : List Expr) (scope : Scope) (cl : List (Str × Addr)) (Fin : FinT) (it : Value) (s₂ : Shared) : Prop
  | mk (m : Str → Option Value) (news : List (Addr × Obj)) (J : Nat → List Value → List (Addr × Obj) → Prop) (K : List Value → List (Addr × Obj) → Prop) (n₀ : Nat)
    (z0 : Fr h₀ L s₂.heap m)
    (z1 : News h₀ L s₂.heap news)
    (z2 : J n₀ [] news)
    (z3 : (∀ h tk (Q' : Value → Shared → Prop) E', (∀ b o, s₂.heap.get? b = some o → h.get? b = some o) → Q' it { s₂ with heap := h, toks := tk } → wpAny (model prog w) A (pyIter it) Q' E' { s₂ with heap := h, toks := tk }))
    (z4 : (∀ D C E' n vs ep nw oC mc h tk, s₂.heap.get? D = none → s₂.heap.get? C = none → D ≠ C → Fr h₀ L h m → News h₀ L h ((C, oC) :: (D, listOf vs.toArray ep) :: nw) → NsObj oC mc → Off D C nw → J n vs nw →
          wpAny (model prog w) A (pyNext it) (fun r s₃ => match r with
            | none => CompEnd h₀ L m s₂ K D C vs ep s₃
            | some v => wpAny (model prog w) A (letOwnedTupleGo target it v) (fun _ s₀ => wpAny (model prog w) A (assign target (compEnvC scope cl C env) v) (fun _ s₄ =>
              wpAny (model prog w) A (forIn ifs true fun c r => if r = true then do let ok ← isTrue c (compEnvC scope cl C env) (eval c (compEnvC scope cl C env)); pure (ForInStep.yield ok) else pure (ForInStep.yield r)) (fun ok s₅ =>
                if ok = true then wpAny (model prog w) A (eval elt (compEnvC scope cl C env)) (CompEl h₀ L m s₂ J D C n vs ep) E' s₅
                else CompNext h₀ L m s₂ J D C n vs ep s₅) E' s₄) E' s₀) E' s₃) E' { s₂ with heap := h, toks := tk }))
    (z5 : (∀ D vs ep nw h tk, News h₀ L h ((D, listOf vs.toArray ep) :: nw) → (∀ p ∈ nw, p.1 ≠ D) → s₂.heap.get? D = none → K vs nw → Fin D vs ep nw m h tk s₂)) : CompPlan prog w A env h₀ L target elt ifs scope cl Fin it s₂
inductive WalkPlan (prog : Program) (w : World) (A : Around) (env : Env) (h₀ : Heap) (L : Addr) (target elt : Expr) (ifs : List Expr) (scope : Scope) (cl : List (Str × Addr)) (Fin : FinT) (it : Value) (s₂ : Shared) : Prop
  | mk (m : Str → Option Value) (news keep : List (Addr × Obj)) (I : Addr) (oI : Obj) (fp : List Addr) (n : Nat) (P : Nat → Value → Prop) (St : Nat → Heap → Prop) (J : Nat → List Value → List (Addr × Obj) → Prop)
    (z0 : it = .ref I)
    (z1 : Walks prog w A I fp [I] n P St)
    (z2 : (∀ i h, St i h → ∃ o, h.get? I = some o))
    (z3 : (∀ i v s' (Q' : Unit → Shared → Prop) E', P i v → St (i + 1) s'.heap → Q' () s' → wpAny (model prog w) A (letOwnedTupleGo target (.ref I) v) Q' E' s'))
    (z4 : St 0 s₂.heap)
    (z5 : Kept h₀ keep I fp)
    (z6 : Fr h₀ L s₂.heap m)
    (z7 : News h₀ L s₂.heap ((I, oI) :: news))
    (z8 : (∀ p ∈ news, p.1 ≠ I))
    (z9 : J 0 [] news)
    (z10 : (∀ i vs nw, J i vs nw → ∀ p ∈ keep, p ∈ nw))
    (z11 : (∀ D C E' i v vs ep nw oC mc oI h tk, s₂.heap.get? D = none → s₂.heap.get? C = none → D ≠ C → i < n → P i v → Fr h₀ L h m → News h₀ L h ((C, oC) :: (D, listOf vs.toArray ep) :: (I, oI) :: nw) → NsObj oC mc → Off D C nw → (∀ p ∈ nw, p.1 ≠ I) → I ≠ D → I ≠ C → J i vs nw →
            wpAny (model prog w) A (assign target (compEnvC scope cl C env) v) (fun _ s₄ =>
              wpAny (model prog w) A (forIn ifs true fun c r => if r = true then do let ok ← isTrue c (compEnvC scope cl C env) (eval c (compEnvC scope cl C env)); pure (ForInStep.yield ok) else pure (ForInStep.yield r)) (fun ok s₅ =>
                if ok = true then wpAny (model prog w) A (eval elt (compEnvC scope cl C env)) (WalkEl h₀ L m s₂ (J (i + 1)) D C I oI vs ep) E' s₅
                else WalkNext h₀ L m s₂ (J (i + 1)) D C I oI vs ep s₅) E' s₄) E' { s₂ with heap := h, toks := tk }))
    (z12 : (∀ D vs ep nw h tk, News h₀ L h ((D, listOf vs.toArray ep) :: nw) → (∀ p ∈ nw, p.1 ≠ D) → s₂.heap.get? D = none → J n vs nw → Fin D vs ep nw m h tk s₂)) : WalkPlan prog w A env h₀ L target elt ifs scope cl Fin it s₂
theorem hide {T : Prop} (h : ∀ G : Prop, (T → G) → G) : T := h T id
section
variable {prog : Program} {w : World} {A : Around} {E : Value → Shared → Prop} {s : Shared} {env : Env} {h₀ : Heap} {L : Addr} {m : Str → Option Value}
theorem loop_testsT {elt target iter : Expr} {ifs : List Expr} {scope : Scope} {pos : Pos} {it acc : Value} {env : Env} {R : Result → Shared → Prop} (I : Nat → Shared → Prop)
    (turn : ∀ n s, I n s → wpAny (model prog w) A (pyNext it) (fun r s₁ => match r with
      | none => R (.ok .next) s₁
      | some v => wpAny (model prog w) A (letOwnedTupleGo target it v) (fun _ s₀ => wpAny (model prog w) A (assign target env v) (fun _ s₂ =>
          wpAny (model prog w) A (forIn ifs true fun c r => if r = true then do let ok ← isTrue c env (eval c env); pure (ForInStep.yield ok) else pure (ForInStep.yield r)) (fun ok s₃ =>
            if ok = true then wpAny (model prog w) A (eval elt env) (fun x s₄ =>
              wpAny (model prog w) A (call (.builtin "list.append") [acc, x]) (fun _ s₅ => ∃ m, m < n ∧ I m s₅) (notedBy (model prog w) A env fun e s' => R (.error e) s') s₄) (notedBy (model prog w) A env fun e s' => R (.error e) s') s₃
            else ∃ m, m < n ∧ I m s₃) (notedBy (model prog w) A env fun e s' => R (.error e) s') s₂) (notedBy (model prog w) A env fun e s' => R (.error e) s') s₀) (notedBy (model prog w) A env fun e s' => R (.error e) s') s₁) (notedBy (model prog w) A env fun e s' => R (.error e) s') s)
    (n : Nat) (h : I n s) : codeAny (model prog w) A (.compLoop (.ListComp elt [⟨target, iter, ifs, 0⟩] scope pos) 0 it acc env) R s := by
  refine codeAny_loop rfl I (fun n s hI => ?_) n h
  show wpAny _ A ((compTurn (.ListComp elt [⟨target, iter, ifs, 0⟩] scope pos) 0 it acc env).onRaise (fun x => do noteFrame x env; theTreesLotGoes x)) _ _ s
  refine wpAny_noted ?_
  rw [compTurn_list]
  refine wpAny_bind (wpAny_standAt (wpAny_bind (wpAny_mono (turn n s hI) (fun r s₁ h₁ => ?_) fun _ _ h' => h')))
  cases r with
  | none => exact wpAny_pure h₁
  | some v =>
    refine wpAny_bind (wpAny_mono h₁ (fun _ s₀ h₀' => ?_) fun _ _ h' => h')
    refine wpAny_bind (wpAny_mono h₀' (fun _ s₂ h₂ => wpAny_bind (wpAny_mono h₂ (fun ok s₃ h₃ => ?_) fun _ _ h' => h')) fun _ _ h' => h')
    cases ok with
    | false => exact wpAny_pure ⟨rfl, h₃⟩
    | true =>
      exact wpAny_bind (wpAny_bind (wpAny_mono h₃ (fun x s₄ h₄ => wpAny_bind (wpAny_mono h₄ (fun _ s₅ h₅ => wpAny_pure (wpAny_pure ⟨rfl, h₅⟩)) fun _ _ h' => h')) fun _ _ h' => h'))
theorem comp_loopT {elt target iter : Expr} {ifs : List Expr} {scope : Scope} {cl : List (Str × Addr)} {pos : Pos} {it : Value} {s₂ : Shared} {news : List (Addr × Obj)} {R : Result → Shared → Prop}
    (J : Nat → List Value → List (Addr × Obj) → Prop) (K : List Value → List (Addr × Obj) → Prop) {D C : Addr} {n₀ : Nat} {tk₀ : Nat} {h : Heap} {oC : Obj} {mc : Str → Option Value} {ep₀ : Nat}
    (F : Fr h₀ L h m) (N : News h₀ L h ((C, oC) :: (D, listOf [].toArray ep₀) :: news)) (hn : NsObj oC mc) (ho : Off D C news) (hDC : D ≠ C) (hJ : J n₀ [] news)
    (turn : ∀ E' n vs ep nw oC mc h tk, Fr h₀ L h m → News h₀ L h ((C, oC) :: (D, listOf vs.toArray ep) :: nw) → NsObj oC mc → Off D C nw → J n vs nw →
      wpAny (model prog w) A (pyNext it) (fun r s₃ => match r with
        | none => CompEnd h₀ L m s₂ K D C vs ep s₃
        | some v => wpAny (model prog w) A (letOwnedTupleGo target it v) (fun _ s₀ => wpAny (model prog w) A (assign target (compEnvC scope cl C env) v) (fun _ s₄ =>
          wpAny (model prog w) A (forIn ifs true fun c r => if r = true then do let ok ← isTrue c (compEnvC scope cl C env) (eval c (compEnvC scope cl C env)); pure (ForInStep.yield ok) else pure (ForInStep.yield r)) (fun ok s₅ =>
            if ok = true then wpAny (model prog w) A (eval elt (compEnvC scope cl C env)) (CompEl h₀ L m s₂ J D C n vs ep) E' s₅
            else CompNext h₀ L m s₂ J D C n vs ep s₅) E' s₄) E' s₀) E' s₃) E' { s₂ with heap := h, toks := tk })
    (hR : ∀ vs ep s', CompEnd h₀ L m s₂ K D C vs ep s' → R (.ok .next) s') :
    codeAny (model prog w) A (.compLoop (.ListComp elt [⟨target, iter, ifs, 0⟩] scope pos) 0 it (.ref D) (compEnvC scope cl C env)) R { s₂ with heap := h, toks := tk₀ } := by
  refine loop_testsT (fun n s' => ∃ vs ep nw oC mc h tk, s' = { s₂ with heap := h, toks := tk } ∧ Fr h₀ L h m ∧ News h₀ L h ((C, oC) :: (D, listOf vs.toArray ep) :: nw) ∧ NsObj oC mc ∧ Off D C nw ∧ J n vs nw) ?_ n₀ ⟨[], ep₀, news, oC, mc, h, tk₀, rfl, F, N, hn, ho, hJ⟩
  intro n s' hh2
  refine hide fun G9 back9 => ?_
  obtain ⟨vs, ep, nw, oC, mc, h, tk, rfl, F, N, hn, ho, hJ⟩ := hh2
  refine back9 ?_
  clear back9 G9
  refine wpAny_mono (turn _ n vs ep nw oC mc h tk F N hn ho hJ) (fun r s₃ h₃ => ?_) fun _ _ x => x
  cases r with
  | none => exact hR _ _ _ h₃
  | some v =>
    refine wpAny_mono h₃ (fun _ s₀ h₀' => wpAny_mono h₀' (fun _ s₄ h₄ => wpAny_mono h₄ (fun ok s₅ h₅ => ?_) fun _ _ x => x) fun _ _ x => x) fun _ _ x => x
    cases ok with
    | false =>
      simp only [Bool.false_eq_true, if_false] at h₅ ⊢
      refine hide fun G9 back9 => ?_
      obtain ⟨h', tk', nw', oC', mc', n', rfl, F', N', hn', ho', hl, hJ'⟩ := h₅
      refine back9 ?_
      clear back9 G9
      exact ⟨n', hl, vs, ep, nw', oC', mc', h', tk', rfl, F', N', hn', ho', hJ'⟩
    | true =>
      simp only [if_true] at h₅ ⊢
      refine wpAny_mono h₅ (fun y s₆ h₆ => ?_) fun _ _ x => x
      refine hide fun G9 back9 => ?_
      obtain ⟨h', tk', nw', oC', mc', n', rfl, F', N', hn', ho', hl, hJ', hsz⟩ := h₆
      refine back9 ?_
      clear back9 G9
      refine append_K (D := D) (its := vs.toArray) (n := ep) (news := (C, oC') :: (D, listOf vs.toArray ep) :: nw') (news' := (C, oC') :: (D, listOf (vs.toArray.push y) (ep + 1)) :: nw') F' N' (.tail (by exact Ne.symm hDC) (.head fun p hp => (ho' p hp).1)) (fun h'' F'' N'' => ?_) (by simp only [List.size_toArray]; exact Nat.le_trans hsz (by decide))
      refine ⟨n', hl, vs ++ [y], ep + 1, nw', oC', mc', h'', tk', rfl, F'', ?_, hn', ho', hJ'⟩
      have : (vs ++ [y]).toArray = vs.toArray.push y := by simp
      rw [this]
      exact N''

theorem comp_core {elt target iter : Expr} {ifs : List Expr} {scope : Scope} {cl : List (Str × Addr)} {pos : Pos} {it : Value} {s₂ : Shared} {Fin : FinT} {R : Value → Addr → Result → Shared → Prop}
    (hkind : scope.kind = .function) (hcell : ∀ x ∈ scope.names, x.2 ≠ .cell) (h₂ : CompPlan prog w A env h₀ L target elt ifs scope cl Fin it s₂)
    (hR : ∀ m D C vs ep nw oC mc h tk, Fr h₀ L h m → News h₀ L h ((C, oC) :: (D, listOf vs.toArray ep) :: nw) → NsObj oC mc → Off D C nw → D ≠ C → (∀ h' tk', News h₀ L h' ((D, listOf vs.toArray ep) :: nw) → Fin D vs ep nw m h' tk' s₂) → R (.ref D) C (.ok .next) { s₂ with heap := h, toks := tk }) :
    wpAny (model prog w) A (newList []) (fun acc s₃ => wpAny (model prog w) A (newFunctionEnv scope env.globals cl [] env.qual none .none (some env)) (fun cenv s₄ =>
      codeAny (model prog w) A (.compStart (.ListComp elt [⟨target, iter, ifs, 0⟩] scope pos) 0 it acc { cenv with scope := relabel scope env }) (R acc cenv.locals) s₄) E s₃) E s₂ := by
  refine hide fun G9 back9 => ?_
  obtain ⟨m, news, J, K, n₀, F, N, hJ, twice, turn, done⟩ := h₂
  refine back9 ?_
  clear back9 G9
  refine (wpAny_newObj_type ?_ (by show (0 : Nat) ≤ sizeLine; decide) : wpAny _ _ (newList []) _ _ _)
  have F₃ := F.push (listOf [].toArray 0)
  have N₃ := N.push F (listOf [].toArray 0)
  refine wpAny_newFunctionEnv hcell (fun _ hx => nomatch hx) (fun h₄ hns hsb => ?_) hkind
  obtain ⟨oC, hC, hnC⟩ := ns_obj hns
  have hD0 : s₂.heap.get? s₂.heap.objs.size = none := by
    cases q : s₂.heap.get? s₂.heap.objs.size with
    | none => rfl
    | some o => exact absurd (Heap.lt_size q) (Nat.lt_irrefl _)
  have hsz : (s₂.heap.push (listOf [].toArray 0)).objs.size = s₂.heap.objs.size + 1 := Heap.size_push ..
  have hC0 : s₂.heap.get? (s₂.heap.push (listOf [].toArray 0)).objs.size = none := by
    cases q : s₂.heap.get? (s₂.heap.push (listOf [].toArray 0)).objs.size with
    | none => rfl
    | some o => have := ltN (Heap.lt_size q); omega
  have hDC : s₂.heap.objs.size ≠ (s₂.heap.push (listOf [].toArray 0)).objs.size := neN (by omega)
  have hoff : Off s₂.heap.objs.size (s₂.heap.push (listOf [].toArray 0)).objs.size news := fun p hp => by
    have := ltN (Heap.lt_size (N p hp).1)
    exact ⟨neN (by omega), neN (by omega)⟩
  have keep1 : ∀ b o, s₂.heap.get? b = some o → h₄.get? b = some o := fun b o e => by
    have hb := ltN (Heap.lt_size e)
    refine (hsb.2 b (neN (Nat.ne_of_lt (by rw [hsz]; omega)))).trans ?_
    exact Heap.get?_push_of_some _ (Heap.get?_push_of_some _ e)
  have F₄ : Fr h₀ L h₄ m := by
    refine hide fun G9 back9 => ?_
    obtain ⟨oL, es, ep, hL, r⟩ := F.ns
    refine back9 ?_
    clear back9 G9
    exact ⟨⟨oL, es, ep, keep1 _ _ hL, r⟩, fun b o e => keep1 b o (F.keep b o e), F.above⟩
  have N₄ : News h₀ L h₄ (((s₂.heap.push (listOf [].toArray 0)).objs.size, oC) :: (s₂.heap.objs.size, listOf [].toArray 0) :: news) := fun p hp => by
    rcases List.mem_cons.mp hp with rfl | hp
    · refine ⟨hC, ?_, ?_⟩
      · intro e
        refine hide fun G9 back9 => ?_
        obtain ⟨oL, es, ep, hL, r⟩ := F.ns
        refine back9 ?_
        clear back9 G9
        have := ltN (Heap.lt_size hL)
        have e' : (s₂.heap.push (listOf [].toArray 0)).objs.size = L := e
        have e'' := this
        rw [← e', hsz] at e''
        omega
      · cases q : h₀.get? (s₂.heap.push (listOf [].toArray 0)).objs.size with
        | none => rfl
        | some o => exact absurd (ltN (Heap.lt_size (F.keep _ _ q))) (by rw [hsz]; omega)
    · have y := N₃ p hp
      refine ⟨?_, y.2⟩
      refine (hsb.2 p.1 ?_).trans (Heap.get?_push_of_some _ y.1)
      have := Heap.lt_size y.1
      exact Nat.ne_of_lt this
  have loop : ∀ tk, codeAny (model prog w) A (.compLoop (.ListComp elt [⟨target, iter, ifs, 0⟩] scope pos) 0 it (.ref s₂.heap.objs.size) (compEnvC scope cl (s₂.heap.push (listOf [].toArray 0)).objs.size env)) (R (.ref s₂.heap.objs.size) (s₂.heap.push (listOf [].toArray 0)).objs.size) { s₂ with heap := h₄, toks := tk } := fun tk =>
    comp_loopT (s₂ := s₂) J K F₄ N₄ hnC hoff hDC hJ (fun E' n vs ep nw oC mc h tk F' N' h1 h2 h3 => turn _ _ E' n vs ep nw oC mc h tk hD0 hC0 hDC F' N' h1 h2 h3) (fun vs ep s' he => by
      refine hide fun G9 back9 => ?_
      obtain ⟨h', tk', nw, oC', mc', rfl, F', N', hn', ho', hK⟩ := he
      refine back9 ?_
      clear back9 G9
      exact hR m _ _ vs ep nw oC' mc' h' tk' F' N' hn' ho' hDC fun h'' tk'' N'' => done _ vs ep nw h'' tk'' N'' (fun p hp => (ho' p hp).1) hD0 hK)
  refine codeAny_compStart_list (loop _) ?_
  exact twice _ _ _ _ keep1 (loop _)
abbrev finE (h₀ : Heap) (L : Addr) (Q : Value → Shared → Prop) : FinT := fun D _ _ _ m h tk s₂ => Fr h₀ L h m → Q (.ref D) { s₂ with heap := h, toks := tk }
abbrev finA (h₀ : Heap) (L : Addr) (y : Str) (Q : Flow → Shared → Prop) : FinT := fun D _ _ _ m h tk s₂ => Fr h₀ L h (fun z => if z = y then some (.ref D) else m z) → Q .next { s₂ with heap := h, toks := tk }
theorem off_news {D C : Addr} {oC oD : Obj} {nw : List (Addr × Obj)} {h h' : Heap} (N : News h₀ L h ((C, oC) :: (D, oD) :: nw)) (ho : Off D C nw) (hDC : D ≠ C) (hs : Heap.SameBut C h h') : News h₀ L h' ((D, oD) :: nw) := fun p hp => by
  have y := N p (.tail _ hp)
  refine ⟨(hs.2 _ ?_).trans y.1, y.2⟩
  rcases List.mem_cons.mp hp with rfl | hp
  · exact hDC
  · exact (ho p hp).2
theorem comp_ruleE {elt target iter : Expr} {ifs : List Expr} {scope : Scope} {cl : List (Str × Addr)} {pos : Pos} {Q : Value → Shared → Prop}
    (hclos : closureFor scope env = pure cl) (hkind : scope.kind = .function) (hnames : ∀ x ∈ scope.names, x.2 = .local → scope.names.lookup x.1 = some .local) (hcell : ∀ x ∈ scope.names, x.2 ≠ .cell)
    (h : wpAny (model prog w) A (eval iter env) (fun x s₁ => wpAny (model prog w) A (pyIter x) (CompPlan prog w A env h₀ L target elt ifs scope cl (finE h₀ L Q)) E s₁) E s)
    (hs : ∀ x, foldedSetIterable iter env x = pure x := by intro _; rfl) :
    wpAny (model prog w) A (eval (.ListComp elt [⟨target, iter, ifs, 0⟩] scope pos) env) Q E s := by
  rw [eval_ListComp]
  refine wpAny_comprehension_free (use := none) rfl hs hclos hkind hnames (wpAny_mono h (fun x s₁ h₁ => wpAny_mono h₁ (fun it s₂ h₂ => comp_core (R := fun acc C => compPost (model prog w) A E none Q acc C) hkind hcell h₂ ?_) fun _ _ e => e) fun _ _ e => e)
  intro m D C vs ep nw oC mc h tk F N hn ho hDC fin
  refine ⟨mc, hn.ns (N _ (.head _)).1, fun h'' hs'' => ?_⟩
  have z := N _ (.head _)
  exact fin h'' tk (off_news N ho hDC hs'') (F.change hs'' z.2.1 z.2.2)
theorem comp_ruleA {elt target iter : Expr} {ifs : List Expr} {scope : Scope} {cl : List (Str × Addr)} {pos py spos : Pos} {y : Str} {Q : Flow → Shared → Prop} (hLe : env.locals = L) (hsw : swapsWith (.ListComp elt [⟨target, iter, ifs, 0⟩] scope pos) (some (.Name y py)) spos.line env = pure true) (hy : env.kindOf y = some .local) (hpp : (env.scope.kind == .class || (env.scope.kind == .module && env.locals != env.globals)) = false)
    (hclos : closureFor scope env = pure cl) (hkind : scope.kind = .function) (hnames : ∀ x ∈ scope.names, x.2 = .local → scope.names.lookup x.1 = some .local) (hcell : ∀ x ∈ scope.names, x.2 ≠ .cell)
    (h : wpAny (model prog w) A (eval iter env) (fun x s₁ => wpAny (model prog w) A (pyIter x) (CompPlan prog w A env h₀ L target elt ifs scope cl (finA h₀ L y Q)) E s₁) E s)
    (hs : ∀ x, foldedSetIterable iter env x = pure x := by intro _; rfl) :
    wpAny (model prog w) A (exec (.Assign [.Name y py] (.ListComp elt [⟨target, iter, ifs, 0⟩] scope pos) spos) env) Q E s := by
  rw [exec_Assign_Name_used _ _ _ _ hsw]
  refine wpAny_bind (wpAny_standAt (wpAny_bind ?_))
  show wpAny _ A (do let _ ← comprehension (.ListComp elt [⟨target, iter, ifs, 0⟩] scope pos) scope env _ (newList []) false (eval iter env) (some (assign (.Name y py) env))) _ _ s
  refine wpAny_bind (wpAny_mono (wpAny_comprehension_free (use := some (assign (.Name y py) env)) (Q := fun _ s' => Q .next s') rfl hs hclos hkind hnames (wpAny_mono h (fun x s₁ h₁ => wpAny_mono h₁ (fun it s₂ h₂ => comp_core (R := fun acc C => compPost (model prog w) A E (some (assign (.Name y py) env)) (fun _ s' => Q .next s') acc C) hkind hcell h₂ ?_) fun _ _ e => e) fun _ _ e => e)) (fun _ s' hq => wpAny_pure (wpAny_pure hq)) fun _ _ e => e)
  intro m D C vs ep nw oC mc h tk F N hn ho hDC fin
  subst hLe
  have z := N _ (.head _)
  refine wpAny_assign_Name (wpAny_storeName_local hy F.ns (fun h₂ hns₂ hs₂ => ?_) hpp)
  have F₂ := F.set hns₂ hs₂
  have N₂ := N.set hs₂
  refine ⟨mc, hn.ns (N₂ _ (.head _)).1, fun h'' hs'' => ?_⟩
  exact fin h'' _ (off_news N₂ ho hDC hs'') (F₂.change hs'' z.2.1 z.2.2)
theorem walk_plan {elt target : Expr} {ifs : List Expr} {scope : Scope} {cl : List (Str × Addr)} {Fin : FinT} {it : Value} {s₂ : Shared} (h₂ : WalkPlan prog w A env h₀ L target elt ifs scope cl Fin it s₂) : CompPlan prog w A env h₀ L target elt ifs scope cl Fin it s₂ := by
  refine hide fun G9 back9 => ?_
  obtain ⟨m, news, keep, I, oI, fp, n, P, St, J, rfl, W, hlive, hgo, st, kp, F, N, hI, hJ, hkeep, turn, done⟩ := h₂
  refine back9 ?_
  clear back9 G9
  refine ⟨m, (I, oI) :: news, fun k vs nw => ∃ i oI nw', k = n - i ∧ i ≤ n ∧ nw = (I, oI) :: nw' ∧ (∀ p ∈ nw', p.1 ≠ I) ∧ J i vs nw' ∧ (∀ h, Fr h₀ L h m → News h₀ L h nw → St i h), fun vs nw => ∃ nw', nw = nw' ∧ J n vs nw', n, F, N, ⟨0, oI, news, by omega, Nat.zero_le _, rfl, hI, hJ, fun h F' N' => ?_⟩, ?_, ?_, ?_⟩
  · exact kept_at W kp F' (news_sub N' fun p hp => .tail _ (hkeep _ _ _ hJ p hp)) F (news_sub N fun p hp => .tail _ (hkeep _ _ _ hJ p hp)) (N' _ (.head _)).1 (N _ (.head _)).1 st
  · intro h tk Q' E' hk hQ
    exact W.self 0 _ _ _ (W.frame 0 _ _ st fun b _ o e => hk b o e) hQ
  · intro D C E' k vs ep nw oC mc h tk hD hC hDC F' N' hn hoff hh18
    refine hide fun G9 back9 => ?_
    obtain ⟨i, oI', nw', rfl, hi, rfl, hI', hJ', hst⟩ := hh18
    refine back9 ?_
    clear back9 G9
    have hID : I ≠ D := (hoff _ (.head _)).1
    have hIC : I ≠ C := (hoff _ (.head _)).2
    have hoff' : Off D C nw' := fun p hp => hoff p (.tail _ hp)
    have Nst : News h₀ L h ((I, oI') :: nw') := news_sub N' fun p hp => .tail _ (.tail _ hp)
    have st' := hst h F' Nst
    have zI := Nst _ (.head _)
    by_cases hin : i < n
    · refine W.item i _ _ _ hin st' fun v h' tk' hP st'' hk => ?_
      have F'' : Fr h₀ L h' m := by
        refine hide fun G9 back9 => ?_
        obtain ⟨oL, es, ep, hL, r⟩ := F'.ns
        refine back9 ?_
        clear back9 G9
        refine ⟨⟨oL, es, ep, hk _ _ (by simpa using Ne.symm zI.2.1) hL, r⟩, fun b o e => hk b o ?_ (F'.keep b o e), F'.above⟩
        rw [List.mem_singleton]
        rintro rfl
        rw [zI.2.2] at e
        cases e
      have keepO : ∀ p, p ∈ (C, oC) :: (D, listOf vs.toArray ep) :: nw' → p.1 ≠ I := fun p hp => by
        rcases List.mem_cons.mp hp with rfl | hp
        · exact Ne.symm hIC
        · rcases List.mem_cons.mp hp with rfl | hp
          · exact Ne.symm hID
          · exact hI' p hp
      obtain ⟨oI'', hoI⟩ : ∃ o, h'.get? I = some o := hlive _ _ st''
      have N'' : News h₀ L h' ((C, oC) :: (D, listOf vs.toArray ep) :: (I, oI'') :: nw') := fun p hp => by
        by_cases e : p = (I, oI'')
        · subst e
          exact ⟨hoI, zI.2⟩
        · have hp' : p ∈ (C, oC) :: (D, listOf vs.toArray ep) :: nw' := by
            rcases List.mem_cons.mp hp with rfl | hp
            · exact .head _
            · rcases List.mem_cons.mp hp with rfl | hp
              · exact .tail _ (.head _)
              · rcases List.mem_cons.mp hp with rfl | hp
                · exact absurd rfl e
                · exact .tail _ (.tail _ hp)
          have y := N' p (by
            rcases List.mem_cons.mp hp' with rfl | hp
            · exact .head _
            · rcases List.mem_cons.mp hp with rfl | hp
              · exact .tail _ (.head _)
              · exact .tail _ (.tail _ (.tail _ hp)))
          exact ⟨hk _ _ (by simpa using keepO p hp') y.1, y.2⟩
      refine hgo i v _ _ _ hP st'' ?_
      refine wpAny_mono (turn D C E' i v vs ep nw' oC mc oI'' h' tk' hD hC hDC hin hP F'' N'' hn hoff' hI' hID hIC hJ') (fun _ s₄ h₄ => wpAny_mono h₄ (fun ok s₅ h₅ => ?_) fun _ _ x => x) fun _ _ x => x
      have goSt : ∀ nw₆, (∀ p ∈ keep, p ∈ nw₆) → ∀ h₇, Fr h₀ L h₇ m → News h₀ L h₇ ((I, oI'') :: nw₆) → St (i + 1) h₇ := fun nw₆ hk₆ h₇ F₇ N₇ =>
        kept_at W kp F₇ (news_sub N₇ fun p hp => .tail _ (hk₆ p hp)) F'' (news_sub N'' fun p hp => .tail _ (.tail _ (.tail _ (hkeep _ _ _ hJ' p hp)))) (N₇ _ (.head _)).1 hoI st''
      cases ok with
      | false =>
        simp only [Bool.false_eq_true, if_false] at h₅ ⊢
        refine hide fun G9 back9 => ?_
        obtain ⟨h₆, tk₆, nw₆, oC₆, mc₆, rfl, F₆, N₆, hn₆, ho₆, hI₆, hJ₆⟩ := h₅
        refine back9 ?_
        clear back9 G9
        exact ⟨h₆, tk₆, (I, oI'') :: nw₆, oC₆, mc₆, n - (i + 1), rfl, F₆, N₆, hn₆, fun p hp => by
          rcases List.mem_cons.mp hp with rfl | hp
          · exact ⟨hID, hIC⟩
          · exact ho₆ p hp, by omega, i + 1, oI'', nw₆, rfl, hin, rfl, hI₆, hJ₆, goSt nw₆ (hkeep _ _ _ hJ₆)⟩
      | true =>
        simp only [if_true] at h₅ ⊢
        refine wpAny_mono h₅ (fun y s₆ h₆ => ?_) fun _ _ x => x
        refine hide fun G9 back9 => ?_
        obtain ⟨h₆, tk₆, nw₆, oC₆, mc₆, rfl, F₆, N₆, hn₆, ho₆, hI₆, hJ₆, hsz⟩ := h₆
        refine back9 ?_
        clear back9 G9
        exact ⟨h₆, tk₆, (I, oI'') :: nw₆, oC₆, mc₆, n - (i + 1), rfl, F₆, N₆, hn₆, fun p hp => by
          rcases List.mem_cons.mp hp with rfl | hp
          · exact ⟨hID, hIC⟩
          · exact ho₆ p hp, by omega, ⟨i + 1, oI'', nw₆, rfl, hin, rfl, hI₆, hJ₆, goSt nw₆ (hkeep _ _ _ hJ₆)⟩, hsz⟩
    · have hin' : i = n := by omega
      subst hin'
      refine W.done _ _ _ st' fun h' tk' hk => ?_
      have F'' : Fr h₀ L h' m := by
        refine hide fun G9 back9 => ?_
        obtain ⟨oL, es, ep, hL, r⟩ := F'.ns
        refine back9 ?_
        clear back9 G9
        refine ⟨⟨oL, es, ep, hk _ _ (by simpa using Ne.symm zI.2.1) hL, r⟩, fun b o e => hk b o ?_ (F'.keep b o e), F'.above⟩
        rw [List.mem_singleton]
        rintro rfl
        rw [zI.2.2] at e
        cases e
      have N'' : News h₀ L h' ((C, oC) :: (D, listOf vs.toArray ep) :: nw') := fun p hp => by
        have keepO : p.1 ≠ I := by
          rcases List.mem_cons.mp hp with rfl | hp
          · exact Ne.symm hIC
          · rcases List.mem_cons.mp hp with rfl | hp
            · exact Ne.symm hID
            · exact hI' p hp
        have y := N' p (by
          rcases List.mem_cons.mp hp with rfl | hp
          · exact .head _
          · rcases List.mem_cons.mp hp with rfl | hp
            · exact .tail _ (.head _)
            · exact .tail _ (.tail _ (.tail _ hp)))
        exact ⟨hk _ _ (by simpa using keepO) y.1, y.2⟩
      exact ⟨h', tk', nw', oC, mc, rfl, F'', N'', hn, hoff', nw', rfl, hJ'⟩
  · intro D vs ep nw h tk N' hnD hD hh9
    refine hide fun G9 back9 => ?_
    obtain ⟨nw', rfl, hJ'⟩ := hh9
    refine back9 ?_
    clear back9 G9
    exact done D vs ep nw h tk N' hnD hD hJ'
theorem comp_walk {elt target iter : Expr} {ifs : List Expr} {scope : Scope} {cl : List (Str × Addr)} {pos : Pos} {Q : Value → Shared → Prop}
    (hclos : closureFor scope env = pure cl) (hkind : scope.kind = .function) (hnames : ∀ x ∈ scope.names, x.2 = .local → scope.names.lookup x.1 = some .local) (hcell : ∀ x ∈ scope.names, x.2 ≠ .cell)
    {hx : Heap} {mx : Str → Option Value} (_F : Fr h₀ L hx mx)
    (h : wpAny (model prog w) A (eval iter env) (fun x s₁ => wpAny (model prog w) A (pyIter x) (WalkPlan prog w A env h₀ L target elt ifs scope cl (finE h₀ L Q)) E s₁) E s)
    (hs : ∀ x, foldedSetIterable iter env x = pure x := by intro _; rfl) :
    wpAny (model prog w) A (eval (.ListComp elt [⟨target, iter, ifs, 0⟩] scope pos) env) Q E s :=
  comp_ruleE hclos hkind hnames hcell (wpAny_mono h (fun _ _ h₁ => wpAny_mono h₁ (fun _ _ h₂ => walk_plan h₂) fun _ _ e => e) fun _ _ e => e) hs
theorem comp_walkA {elt target iter : Expr} {ifs : List Expr} {scope : Scope} {cl : List (Str × Addr)} {pos py spos : Pos} {y : Str} {Q : Flow → Shared → Prop} (hLe : env.locals = L) (hsw : swapsWith (.ListComp elt [⟨target, iter, ifs, 0⟩] scope pos) (some (.Name y py)) spos.line env = pure true) (hy : env.kindOf y = some .local) (hpp : (env.scope.kind == .class || (env.scope.kind == .module && env.locals != env.globals)) = false)
    (hclos : closureFor scope env = pure cl) (hkind : scope.kind = .function) (hnames : ∀ x ∈ scope.names, x.2 = .local → scope.names.lookup x.1 = some .local) (hcell : ∀ x ∈ scope.names, x.2 ≠ .cell)
    {hx : Heap} {mx : Str → Option Value} (_F : Fr h₀ L hx mx)
    (h : wpAny (model prog w) A (eval iter env) (fun x s₁ => wpAny (model prog w) A (pyIter x) (WalkPlan prog w A env h₀ L target elt ifs scope cl (finA h₀ L y Q)) E s₁) E s)
    (hs : ∀ x, foldedSetIterable iter env x = pure x := by intro _; rfl) :
    wpAny (model prog w) A (exec (.Assign [.Name y py] (.ListComp elt [⟨target, iter, ifs, 0⟩] scope pos) spos) env) Q E s :=
  comp_ruleA hLe hsw hy hpp hclos hkind hnames hcell (wpAny_mono h (fun _ _ h₁ => wpAny_mono h₁ (fun _ _ h₂ => walk_plan h₂) fun _ _ e => e) fun _ _ e => e) hs
theorem go_name {I : Addr} {x : Str} {px : Pos} {P : Nat → Value → Prop} {St : Nat → Heap → Prop} : ∀ i v s' (Q' : Unit → Shared → Prop) E', P i v → St (i + 1) s'.heap → Q' () s' → wpAny (model prog w) A (letOwnedTupleGo (.Name x px) (.ref I) v) Q' E' s' :=
  fun _ _ _ _ _ _ _ h => wpAny_of_eq (a := ()) rfl h
end
end
section
open PySem PySem.W PyProof.Rows
set_option maxRecDepth 100000
set_option maxHeartbeats 4000000
theorem walks_P {prog : Program} {w : World} {A : Around} {I : Addr} {fp wr : List Addr} {n : Nat} {P P' : Nat → Value → Prop} {St : Nat → Heap → Prop} (W : Walks prog w A I fp wr n P St) (hP : ∀ i v, P i v → P' i v) : Walks prog w A I fp wr n P' St where
  sub := W.sub
  frame := W.frame
  item := fun i s Q E hi st hQ => W.item i s Q E hi st fun v h' tk p => hQ v h' tk (hP i v p)
  done := W.done
  self := W.self
theorem ne_of_ltA {a b : Addr} (h : a < b) : a ≠ b := Nat.ne_of_lt h
section
variable {prog : Program} {w : World} {A : Around} {E : Value → Shared → Prop} {s : Shared} {env : Env} {h₀ : Heap} {L : Addr} {m : Str → Option Value} {news : List (Addr × Obj)}
theorem push_led (F : Fr h₀ L s.heap m) (N : News h₀ L s.heap news) (o : Obj) (hf : o.isFreed = false) : Fr h₀ L (s.heap.push o) m ∧ News h₀ L (s.heap.push o) ((s.heap.objs.size, o) :: news) ∧ ∀ p ∈ news, p.1 < s.heap.objs.size :=
  ⟨F.push o, N.push F o hf, fun p hp => Heap.lt_size (N p hp).1⟩
theorem iter_tx {x : List Nat} {t : Tok} {Q : Value → Shared → Prop} (hh : A.handled = none) (F : Fr h₀ L s.heap m) (N : News h₀ L s.heap news)
    (h : ∀ I oI St h', Walks prog w A I [I] [I] x.length (fun i v => ∃ c u, x[i]? = some c ∧ v = .str (tx [c]) u) St → (∀ i h, St i h → ∃ o, h.get? I = some o) → St 0 h' → Fr h₀ L h' m → News h₀ L h' ((I, oI) :: news) → (∀ p ∈ news, p.1 < I) → Q (.ref I) { s with heap := h' }) :
    wpAny (model prog w) A (pyIter (.str (tx x) t)) Q E s := by
  have conv : ∀ i v, SignAt (tx x) i v → ∃ c u, x[i]? = some c ∧ v = .str (tx [c]) u := fun i v ⟨c, u, h1, h2⟩ => ⟨c, u, by simpa using h1, h2⟩
  cases ha : (tx x).cps.all (· < 128)
  · obtain ⟨F', N', hl⟩ := push_led F N { cls := .type "str_iterator", data := .fields #[.str (tx x) t, .int 0 0] } rfl
    exact wpAny_pyIter_wide ha (h _ _ _ _ (walks_P (Walks.strWide hh s.heap.objs.size (tx x) t) conv) (fun i h ⟨o, ho, _⟩ => ⟨o, ho⟩) ⟨_, Heap.get?_push_size _ rfl, rfl, rfl⟩ F' N' hl)
  · obtain ⟨F', N', hl⟩ := push_led F N { cls := .type "str_ascii_iterator", data := .fields #[.str (tx x) t, .int 0 0] } rfl
    exact wpAny_pyIter_ascii ha (h _ _ _ _ (walks_P (Walks.strAscii hh s.heap.objs.size (tx x) t) conv) (fun i h ⟨o, ho, _⟩ => ⟨o, ho⟩) ⟨_, Heap.get?_push_size _ rfl, rfl, rfl⟩ F' N' hl)
theorem iter_list {l : Addr} {vs : List Value} {ep : Nat} {Q : Value → Shared → Prop} (hh : A.handled = none) (F : Fr h₀ L s.heap m) (N : News h₀ L s.heap news) (hl : (l, listOf vs.toArray ep) ∈ news)
    (h : ∀ I oI St h', Walks prog w A I [I, l] [I] vs.length (fun i v => vs[i]? = some v) St → (∀ i h, St i h → ∃ o, h.get? I = some o) → St 0 h' → Kept h₀ [(l, listOf vs.toArray ep)] I [I, l] → Fr h₀ L h' m → News h₀ L h' ((I, oI) :: news) → (∀ p ∈ news, p.1 < I) → Q (.ref I) { s with heap := h' }) :
    wpAny (model prog w) A (pyIter (.ref l)) Q E s := by
  obtain ⟨F', N', hlt⟩ := push_led F N { cls := .type "list_iterator", data := .fields #[.ref l, .int 0 0] } rfl
  have hL := N.isList hl
  have hne : l ≠ s.heap.objs.size := ne_of_ltA (hlt _ hl)
  refine wpAny_pyIter_list hL (h _ _ _ _ (walks_P (Walks.list hh s.heap.objs.size l hne vs.toArray) fun i v e => by simpa using e) (fun i h ⟨⟨o, ho, _⟩, _⟩ => ⟨o, ho⟩) ⟨⟨_, Heap.get?_push_size _ rfl, rfl, rfl⟩, N'.isList (.tail _ hl)⟩ ?_ F' N' hlt)
  intro b hb hI
  refine ⟨listOf vs.toArray ep, .inl ?_⟩
  have : b = l := by
    rcases List.mem_cons.mp hb with e | hb
    · exact absurd e hI
    · exact List.mem_singleton.mp hb
  subst this
  exact .head _
abbrev rngOf (a b c : Int) (t u v : Tok) : Obj := { cls := .type "range", data := .fields #[.int a t, .int b u, .int c v] }
theorem iter_range {r : Addr} {k : Nat} {t u v : Tok} {Q : Value → Shared → Prop} (hh : A.handled = none) (F : Fr h₀ L s.heap m) (N : News h₀ L s.heap news) (hr : (r, rngOf 0 k 1 t u v) ∈ news) (hk : k ≤ 100000)
    (h : ∀ I oI St h', Walks prog w A I [I] [I] k (fun i v => ∃ t, v = .int (i : Int) t) St → (∀ i h, St i h → ∃ o, h.get? I = some o) → St 0 h' → Fr h₀ L h' m → News h₀ L h' ((I, oI) :: news) → (∀ p ∈ news, p.1 < I) → Q (.ref I) { s with heap := h' }) :
    wpAny (model prog w) A (pyIter (.ref r)) Q E s := by
  have hsz : Builtin.Range.rangeSize 0 (k : Int) 1 = (k : Int) := by
    simp only [Builtin.Range.rangeSize]
    split <;> (try split) <;> omega
  obtain ⟨F', N', hlt⟩ := push_led F N { cls := .type "range_iterator", data := .fields #[rawInt 0, rawInt (Builtin.Range.rangeSize 0 (k : Int) 1), rawInt 1] } rfl
  refine wpAny_pyIter_range (N _ hr).1 ?_ (h _ _ _ _ (walks_P (Walks.range hh s.heap.objs.size 0 1 k) fun i v ⟨t, e⟩ => ⟨t, by rw [e]; simp⟩) (fun i h ho => ⟨_, ho⟩) ?_ F' N' hlt)
  · unfold Builtin.Range.small
    rw [hsz]
    have f : ∀ z : Int, 0 ≤ z → z ≤ 100000 → Builtin.Range.rangeFitsLong z = true := fun z h1 h2 => by
      unfold Builtin.Range.rangeFitsLong
      rw [Bool.and_eq_true]
      exact ⟨decide_eq_true (by omega), decide_eq_true (by omega)⟩
    rw [f 0 (by omega) (by omega), f k (by omega) (by omega), f 1 (by omega) (by omega), if_pos (by decide), f (k + (1 - 1)) (by omega) (by omega)]
    simp only [Bool.and_self, Bool.or_true]
  · show Heap.get? _ _ = _
    rw [Heap.get?_push_size _ rfl, hsz]
    simp
/-- a plain name as a comprehension's target -/
theorem assign_comp {scope : Scope} {cl : List (Str × Addr)} {C : Addr} {x : Str} {px : Pos} {v : Value} {oC : Obj} {mc : Str → Option Value} {Q : Unit → Shared → Prop}
    (F : Fr h₀ L s.heap m) (N : News h₀ L s.heap ((C, oC) :: news)) (hn : NsObj oC mc) (hC : ∀ p ∈ news, p.1 ≠ C)
    (hx : (compEnvC scope cl C env).kindOf x = some .local) (hk : scope.kind = .function)
    (h : ∀ h' tk oC', Fr h₀ L h' m → News h₀ L h' ((C, oC') :: news) → NsObj oC' (fun y => if y = x then some v else mc y) → Q () { s with heap := h', toks := tk }) :
    wpAny (model prog w) A (assign (.Name x px) (compEnvC scope cl C env) v) Q E s := by
  refine wpAny_assign_Name (wpAny_storeName_local hx (hn.ns (N _ (.head _)).1) (fun h' hns hsb => ?_) ?_)
  · obtain ⟨oC', e, hn'⟩ := ns_obj hns
    obtain ⟨F', N'⟩ := news_turn F N hsb e hC
    exact h h' _ oC' F' N' hn'
  · show (scope.kind == .class || (scope.kind == .module && _)) = false
    rw [hk]; rfl
theorem name_comp {M : Model} {scope : Scope} {cl : List (Str × Addr)} {C : Addr} {x : Str} {px : Pos} {v : Value} {oC : Obj} {mc : Str → Option Value} {Q : Value → Shared → Prop}
    (N : News h₀ L s.heap news) (hm : (C, oC) ∈ news) (hn : NsObj oC mc) (hv : mc x = some v)
    (hx : (compEnvC scope cl C env).kindOf x = some .local) (hk : scope.kind = .function) (hd : (x == ("__debug__" : Str)) = false)
    (h : Q v s) : wpAny M A (eval (.Name x px) (compEnvC scope cl C env)) Q E s :=
  wpAny_Name (wpAny_loadName_local (by exact hk) hx (hn.ns (N _ hm).1) hv h) hd
theorem walkEl_new {s₂ : Shared} {J : List Value → List (Addr × Obj) → Prop} {D C I x : Addr} {o oC oI : Obj} {vs : List Value} {ep tk : Nat} {y : Value} {nw : List (Addr × Obj)} {mc : Str → Option Value} {h' : Heap}
    (F : Fr h₀ L h' m) (N : News h₀ L h' ((x, o) :: (C, oC) :: (D, listOf vs.toArray ep) :: (I, oI) :: nw)) (hn : NsObj oC mc) (hoff : Off D C nw) (hI : ∀ p ∈ nw, p.1 ≠ I) (l : C < x ∧ D < x ∧ I < x ∧ AllLt x nw)
    (hl : vs.length ≤ 100000) (hJ : J (vs ++ [y]) ((x, o) :: nw)) : WalkEl h₀ L m s₂ J D C I oI vs ep y { s₂ with heap := h', toks := tk } := by
  refine ⟨h', tk, (x, o) :: nw, oC, mc, rfl, F, news_sub N fun p hp => ?_, hn, ?_, ?_, hJ, hl⟩
  · simp only [List.mem_cons] at hp ⊢
    grind
  · intro p hp
    rcases List.mem_cons.mp hp with rfl | hp
    · exact ⟨Ne.symm (ne_of_ltA l.2.1), Ne.symm (ne_of_ltA l.1)⟩
    · exact hoff p hp
  · intro p hp
    rcases List.mem_cons.mp hp with rfl | hp
    · exact Ne.symm (ne_of_ltA l.2.2.1)
    · exact hI p hp
theorem off_C {D C I : Addr} {oD oI : Obj} {nw : List (Addr × Obj)} (hDC : D ≠ C) (hIC : I ≠ C) (hoff : Off D C nw) : ∀ p ∈ (D, oD) :: (I, oI) :: nw, p.1 ≠ C := by
  intro p hp
  rcases List.mem_cons.mp hp with rfl | hp
  · exact hDC
  · rcases List.mem_cons.mp hp with rfl | hp
    · exact hIC
    · exact (hoff p hp).2
end
end
section
open PySem PySem.W PyProof.Rows
set_option maxRecDepth 100000
set_option maxHeartbeats 4000000
def live (c : Nat) : Bool := [32, 9, 10, 13, 34].contains c
def cellsOf : List Nat → List (Nat × Bool)
  | [] => []
  | [c] => if c = 92 then [] else [(c, live c)]
  | c :: d :: r => if c = 92 then (d, false) :: cellsOf r else (c, live c) :: cellsOf (d :: r)
theorem cellsOf_plain {c : Nat} (h : ¬ c = 92) (r : List Nat) : cellsOf (c :: r) = (c, live c) :: cellsOf r := by
  cases r with
  | nil => simp [cellsOf, h]
  | cons d r => rw [cellsOf, if_neg h]
theorem cellsOf_esc (d : Nat) (r : List Nat) : cellsOf (92 :: d :: r) = (d, false) :: cellsOf r := by rw [cellsOf, if_pos rfl]
theorem cellsOf_end : cellsOf [92] = [] := by simp [cellsOf]
def CellsAt (news : List (Addr × Obj)) (vs : List Value) (cs : List (Nat × Bool)) : Prop :=
  vs.length = cs.length ∧ ∀ (i : Nat) (c : Nat × Bool), cs[i]? = some c → ∃ (b : Addr) (tk : Tok) (ep : Nat), vs[i]? = some (Value.ref b) ∧ (b, tupOf #[.str (tx [c.1]) tk, .bool c.2] ep) ∈ news
theorem CellsAt.mono {news news' : List (Addr × Obj)} {vs : List Value} {cs : List (Nat × Bool)} (h : CellsAt news vs cs) (hs : ∀ p ∈ news, p ∈ news') : CellsAt news' vs cs :=
  ⟨h.1, fun i c e => let ⟨b, tk, ep, h1, h2⟩ := h.2 i c e; ⟨b, tk, ep, h1, hs _ h2⟩⟩
theorem CellsAt.nil {news : List (Addr × Obj)} : CellsAt news [] [] := ⟨rfl, fun _ _ e => by simp at e⟩
theorem CellsAt.snoc {news : List (Addr × Obj)} {vs : List Value} {cs : List (Nat × Bool)} {b : Addr} {c : Nat × Bool} {tk : Tok} {ep : Nat} (h : CellsAt news vs cs) (hb : (b, tupOf #[.str (tx [c.1]) tk, .bool c.2] ep) ∈ news) : CellsAt news (vs ++ [.ref b]) (cs ++ [c]) := by
  refine ⟨by simp [h.1], fun i d e => ?_⟩
  by_cases hi : i < cs.length
  · rw [List.getElem?_append_left hi] at e
    obtain ⟨b', tk', ep', h1, h2⟩ := h.2 i d e
    exact ⟨b', tk', ep', by rw [List.getElem?_append_left (by rw [h.1]; exact hi)]; exact h1, h2⟩
  · have hi' : i = cs.length := by
      have := (List.getElem?_eq_some_iff.mp e).1
      simp at this
      omega
    subst hi'
    have : d = c := by simpa using e.symm
    subst this
    exact ⟨b, tk, ep, by rw [← h.1]; simp, hb⟩
theorem CellsAt.append {news : List (Addr × Obj)} {vs vs' : List Value} {cs cs' : List (Nat × Bool)} (h : CellsAt news vs cs) (h' : CellsAt news vs' cs') : CellsAt news (vs ++ vs') (cs ++ cs') := by
  refine ⟨by simp [h.1, h'.1], fun i d e => ?_⟩
  by_cases hi : i < cs.length
  · rw [List.getElem?_append_left hi] at e
    obtain ⟨b', tk', ep', h1, h2⟩ := h.2 i d e
    exact ⟨b', tk', ep', by rw [List.getElem?_append_left (by rw [h.1]; exact hi)]; exact h1, h2⟩
  · rw [List.getElem?_append_right (by omega)] at e
    obtain ⟨b', tk', ep', h1, h2⟩ := h'.2 _ d e
    exact ⟨b', tk', ep', by rw [List.getElem?_append_right (by rw [h.1]; omega), h.1]; exact h1, h2⟩
theorem drop_cons_of {t : List Nat} {k c : Nat} (h : t[k]? = some c) : t.drop k = c :: t.drop (k + 1) := by
  obtain ⟨hk, e⟩ := List.getElem?_eq_some_iff.mp h
  rw [List.drop_eq_getElem_cons hk, e]

/-- the while of _law_cells -/
def CellsJ (t : List Nat) (tk : Tok) (news : List (Addr × Obj)) (n : Nat) (m' : Str → Option Value) (nw : List (Addr × Obj)) : Prop :=
  ∃ (k : Nat) (tk₁ : Tok) (lc : Addr) (vs : List Value) (ep : Nat) (tups : List (Addr × Obj)) (cs : List (Nat × Bool)), n = t.length - k ∧ m' "i" = some (.int k tk₁) ∧ m' "cells" = some (.ref lc) ∧ m' "text" = some (.str (tx t) tk) ∧ nw = (lc, listOf vs.toArray ep) :: (tups ++ news) ∧ (∀ p ∈ tups ++ news, p.1 ≠ lc) ∧ CellsAt tups vs cs ∧ cs ++ cellsOf (t.drop k) = cellsOf t ∧ cs.length ≤ k
theorem cls_ne {h₀ h : Heap} {L a b : Addr} {o o' : Obj} {nw : List (Addr × Obj)} (N : News h₀ L h nw) (ha : (a, o) ∈ nw) (hb : (b, o') ∈ nw) (hc : o.cls ≠ o'.cls) : a ≠ b := by
  rintro rfl
  have h1 := (N _ ha).1
  have h2 := (N _ hb).1
  rw [h1] at h2
  exact hc (congrArg Obj.cls (Option.some.inj h2))
theorem cellsJ_init {t : List Nat} {tk tki : Tok} {news : List (Addr × Obj)} {h₀ h : Heap} {L lc : Addr} {ep : Nat} {m' : Str → Option Value} (_F : Fr h₀ L h m') (hl : ∀ p ∈ news, p.1 < lc)
    (h1 : m' "i" = some (.int 0 tki)) (h2 : m' "cells" = some (.ref lc)) (h3 : m' "text" = some (.str (tx t) tk)) : CellsJ t tk news t.length m' ((lc, listOf [].toArray ep) :: news) :=
  ⟨0, tki, lc, [], ep, [], [], rfl, h1, h2, h3, rfl, fun p hp => ne_of_ltA (hl p hp), .nil, rfl, Nat.le_refl _⟩
theorem cellsJ_ext {t : List Nat} {tk tki : Tok} {news tups tups' : List (Addr × Obj)} {k : Nat} {h₀ h : Heap} {L D lc : Addr} {vs vs' : List Value} {ep' ep₂ : Nat} {cs : List (Nat × Bool)} {m' : Str → Option Value}
    (hc : t[k]? = some 92) (N : News h₀ L h ((D, listOf vs'.toArray ep') :: (tups' ++ ((lc, listOf (vs ++ vs').toArray ep₂) :: (tups ++ news)))))
    (hn : ∀ p ∈ tups', p.1 ≠ lc) (hv : CellsAt tups' vs' (((t.drop (k + 1)).take 1).map fun d => (d, false)))
    (e6 : ∀ p ∈ tups ++ news, p.1 ≠ lc) (e7 : CellsAt tups vs cs) (e8 : cs ++ cellsOf (t.drop k) = cellsOf t) (e9 : cs.length ≤ k) (_F : Fr h₀ L h m')
    (h1 : m' "i" = some (.int ((k : Int) + 2) tki)) (h2 : m' "cells" = some (.ref lc)) (h3 : m' "text" = some (.str (tx t) tk)) :
    ∃ nw n', News h₀ L h nw ∧ n' < t.length - k ∧ CellsJ t tk news n' m' nw := by
  have hk := (List.getElem?_eq_some_iff.mp hc).1
  refine ⟨(lc, listOf (vs ++ vs').toArray ep₂) :: ((tups' ++ tups) ++ news), t.length - (k + 2), ?_, by omega, k + 2, tki, lc, vs ++ vs', ep₂, tups' ++ tups, cs ++ (((t.drop (k + 1)).take 1).map fun d => (d, false)), rfl, h1, h2, h3, rfl, ?_, ?_, ?_, ?_⟩
  · refine news_sub N fun p hp => ?_
    simp only [List.mem_cons, List.mem_append] at hp ⊢
    grind
  · intro p hp
    rw [List.append_assoc] at hp
    rcases List.mem_append.mp hp with h | h
    · exact hn p h
    · exact e6 p h
  · exact (e7.mono fun p hp => List.mem_append.mpr (.inr hp)).append (hv.mono fun p hp => List.mem_append.mpr (.inl hp))
  · rw [drop_cons_of hc] at e8
    rw [List.append_assoc, ← e8]
    congr 1
    cases hd : t.drop (k + 1) with
    | nil =>
      have : t.drop (k + 2) = [] := by
        have : t.drop (k + 2) = (t.drop (k + 1)).drop 1 := by rw [List.drop_drop]
        rw [this, hd]; rfl
      rw [this, cellsOf_end]
      rfl
    | cons d r =>
      have : t.drop (k + 2) = r := by
        have : t.drop (k + 2) = (t.drop (k + 1)).drop 1 := by rw [List.drop_drop]
        rw [this, hd]; rfl
      rw [this, cellsOf_esc]
      rfl
  · simp only [List.length_append, List.length_map, List.length_take]
    omega
theorem cellsJ_app {t : List Nat} {tk tk' tki : Tok} {news tups : List (Addr × Obj)} {k c : Nat} {lv : Bool} {h₀ h : Heap} {L D lc : Addr} {vs : List Value} {ep ept : Nat} {cs : List (Nat × Bool)} {m' : Str → Option Value}
    (hc : t[k]? = some c) (h92 : ¬ c = 92) (hlv : [32, 9, 10, 13, 34].contains c = lv)
    (N : News h₀ L h ((D, tupOf #[.str (tx [c]) tk', .bool lv] ept) :: (lc, listOf (vs.toArray.push (.ref D)) (ep + 1)) :: (tups ++ news)))
    (e6 : ∀ p ∈ tups ++ news, p.1 ≠ lc) (e7 : CellsAt tups vs cs) (e8 : cs ++ cellsOf (t.drop k) = cellsOf t) (e9 : cs.length ≤ k) (_F : Fr h₀ L h m')
    (h1 : m' "i" = some (.int ((k : Int) + 1) tki)) (h2 : m' "cells" = some (.ref lc)) (h3 : m' "text" = some (.str (tx t) tk)) :
    ∃ nw n', News h₀ L h nw ∧ n' < t.length - k ∧ CellsJ t tk news n' m' nw := by
  have hk := (List.getElem?_eq_some_iff.mp hc).1
  have hD : D ≠ lc := cls_ne N (.head _) (.tail _ (.head _)) (by show Value.type "tuple" ≠ Value.type "list"; decide)
  refine ⟨(lc, listOf (vs ++ [Value.ref D]).toArray (ep + 1)) :: (((D, tupOf #[.str (tx [c]) tk', .bool lv] ept) :: tups) ++ news), t.length - (k + 1), ?_, by omega, k + 1, tki, lc, vs ++ [.ref D], ep + 1, _ :: tups, cs ++ [(c, lv)], rfl, h1, h2, h3, rfl, ?_, ?_, ?_, by simp; omega⟩
  · rw [← List.push_toArray]
    exact news_swap N
  · intro p hp
    rcases List.mem_cons.mp hp with rfl | hp
    · exact hD
    · exact e6 p hp
  · exact (e7.mono fun p hp => .tail _ hp).snoc (tk := tk') (ep := ept) (.head _)
  · rw [drop_cons_of hc, cellsOf_plain h92] at e8
    rw [List.append_assoc, ← e8]
    have : live c = lv := hlv
    rw [this]
    rfl
end
section
open PySem PySem.W PyProof.Rows
set_option maxRecDepth 100000
set_option maxHeartbeats 4000000
/-- a list's values, one by one -/
def AreBy {α : Type} (R : Value → α → Prop) (vs : List Value) (xs : List α) : Prop := vs.length = xs.length ∧ ∀ (i : Nat) (x : α), xs[i]? = some x → ∃ v, vs[i]? = some v ∧ R v x
section
variable {α : Type} {R R' : Value → α → Prop} {vs vs' : List Value} {xs xs' : List α}
theorem AreBy.nil : AreBy R [] [] := ⟨rfl, fun _ _ e => by simp at e⟩
theorem AreBy.mono (h : AreBy R vs xs) (hR : ∀ v x, R v x → R' v x) : AreBy R' vs xs := ⟨h.1, fun i x e => let ⟨v, h1, h2⟩ := h.2 i x e; ⟨v, h1, hR _ _ h2⟩⟩
theorem AreBy.append (h : AreBy R vs xs) (h' : AreBy R vs' xs') : AreBy R (vs ++ vs') (xs ++ xs') := by
  refine ⟨by simp [h.1, h'.1], fun i d e => ?_⟩
  by_cases hi : i < xs.length
  · rw [List.getElem?_append_left hi] at e
    obtain ⟨v, h1, h2⟩ := h.2 i d e
    exact ⟨v, by rw [List.getElem?_append_left (by rw [h.1]; exact hi)]; exact h1, h2⟩
  · rw [List.getElem?_append_right (by omega)] at e
    obtain ⟨v, h1, h2⟩ := h'.2 _ d e
    exact ⟨v, by rw [List.getElem?_append_right (by rw [h.1]; omega), h.1]; exact h1, h2⟩
theorem AreBy.one {v : Value} {x : α} (h : R v x) : AreBy R [v] [x] := ⟨rfl, fun i y e => by
  cases i with
  | zero => simp at e; subst e; exact ⟨v, rfl, h⟩
  | succ i => simp at e⟩
theorem AreBy.snoc {v : Value} {x : α} (h : AreBy R vs xs) (hx : R v x) : AreBy R (vs ++ [v]) (xs ++ [x]) := h.append (.one hx)
theorem AreBy.drop (h : AreBy R vs xs) (n : Nat) : AreBy R (vs.drop n) (xs.drop n) := by
  refine ⟨by simp [h.1], fun i x e => ?_⟩
  rw [List.getElem?_drop] at e
  obtain ⟨v, h1, h2⟩ := h.2 _ x e
  exact ⟨v, by rw [List.getElem?_drop]; exact h1, h2⟩
theorem AreBy.take (h : AreBy R vs xs) (n : Nat) : AreBy R (vs.take n) (xs.take n) := by
  refine ⟨by simp [h.1], fun i x e => ?_⟩
  rw [List.getElem?_take] at e
  split at e
  · rename_i hi
    obtain ⟨v, h1, h2⟩ := h.2 _ x e
    exact ⟨v, by rw [List.getElem?_take, if_pos hi]; exact h1, h2⟩
  · cases e
theorem AreBy.none (h : AreBy R vs []) : vs = [] := List.length_eq_zero_iff.mp h.1
theorem AreBy.some {x : α} (h : AreBy R vs (x :: xs)) : ∃ v vs', vs = v :: vs' ∧ R v x ∧ AreBy R vs' xs := by
  cases vs with
  | nil => have := h.1; simp at this
  | cons v vs' =>
    obtain ⟨v', h1, h2⟩ := h.2 0 x rfl
    have h1' : v = v' := by simpa using h1
    subst h1'
    exact ⟨v, vs', rfl, h2, by have := h.drop 1; simpa using this⟩
end
/-- a text's value -/
def IsTx (v : Value) (x : List Nat) : Prop := ∃ tk, v = .str (tx x) tk
abbrev StrsAre (vs : List Value) (xs : List (List Nat)) : Prop := AreBy IsTx vs xs
theorem strsAre_signs {ys : List Value} : ∀ {x : List Nat}, CarriedAll ys ((x.map fun n => (⟨#[n]⟩ : Str)).map PyData.str) → StrsAre ys (x.map fun c => [c]) := by
  intro x h
  induction x generalizing ys with
  | nil => cases h; exact .nil
  | cons c x ih =>
    cases h with
    | cons h1 h2 =>
      cases h1
      rename_i t _
      exact AreBy.append (.one ⟨_, rfl⟩) (ih h2)
theorem allLt_all {d : Addr} {l : List (Addr × Obj)} (h : AllLt d l) : ∀ p ∈ l, p.1 < d := by
  induction l with
  | nil => intro p hp; cases hp
  | cons q r ih =>
    intro p hp
    rcases List.mem_cons.mp hp with e | hp
    · rw [e]; exact h.1
    · exact ih h.2 p hp
section
variable {prog : Program} {w : World} {A : Around} {E : Value → Shared → Prop} {s : Shared} {env : Env} {h₀ : Heap} {L : Addr} {m : Str → Option Value} {news : List (Addr × Obj)}
theorem list_tx {x : List Nat} {t : Tok} {Q : Value → Shared → Prop} (hh : A.handled = none) (hl : x.length ≤ 100000) (F : Fr h₀ L s.heap m) (N : News h₀ L s.heap news)
    (h : ∀ l h' tk ys ep, Fr h₀ L h' m → News h₀ L h' ((l, listOf ys.toArray ep) :: news) → (∀ p ∈ news, p.1 < l) → StrsAre ys (x.map fun c => [c]) → Q (.ref l) { s with heap := h', toks := tk }) :
    wpAny (model prog w) A (call (.type "list") [.str (tx x) t]) Q E s := by
  refine list_strD hh F N (fun h' tk ys F' N' hk h0 _ hp hc => ?_) (by rw [tx_len]; exact Nat.le_trans hl (by decide))
  obtain ⟨⟨n, e⟩, hne⟩ := hp
  have hL : s.heap.objs.size ≠ L := by
    intro q
    obtain ⟨oL, es, ep, hL, _⟩ := F.ns
    exact absurd (Heap.lt_size hL) (by rw [← q]; exact Nat.lt_irrefl _)
  refine h _ h' tk ys n F' (fun p hp => ?_) (fun p hp => Heap.lt_size (N p hp).1) (strsAre_signs hc)
  rcases List.mem_cons.mp hp with rfl | hp
  · exact ⟨e, hL, h0⟩
  · exact N' p hp
end
end
section
open PySem PySem.W PyProof.Rows
open Builtin Builtin.ObjectAttr
set_option maxRecDepth 100000
set_option maxHeartbeats 4000000
theorem fn_setattr_lookup : typeLookup (.type "function") "__setattr__" = pure (some (.builtin "object.__setattr__")) := by rw [typeLookup_type, builtinLookup_eq_fast]; kernel_rfl
theorem fn_read : typeLookup (.type "function") "read" = pure none := by rw [typeLookup_type, builtinLookup_eq_fast]; kernel_rfl
theorem fn_getattribute : typeLookup (.type "function") "__getattribute__" = pure (some (.builtin "object.__getattribute__")) := by rw [typeLookup_type, builtinLookup_eq_fast]; kernel_rfl
theorem fn_getattr : typeLookup (.type "function") "__getattr__" = pure none := by rw [typeLookup_type, builtinLookup_eq_fast]; kernel_rfl
theorem slot_fn_setattr : Slot "function" "__setattr__" "object.__setattr__" :=
  .of (owner := "object") (n := "__setattr__") fn_setattr_lookup (by decide +kernel) (by decide +kernel) (by decide +kernel)
    (by first | exact .inl (by decide +kernel) | exact .inr (by decide +kernel)) (by rw [isSubtype_type]; kernel_rfl)
theorem slot_fn_getattribute : Slot "function" "__getattribute__" "object.__getattribute__" :=
  .of (owner := "object") (n := "__getattribute__") fn_getattribute (by decide +kernel) (by decide +kernel) (by decide +kernel)
    (by first | exact .inl (by decide +kernel) | exact .inr (by decide +kernel)) (by rw [isSubtype_type]; kernel_rfl)
theorem ci_next : Slot "callable_iterator" "__next__" "callable_iterator.__next__" :=
  .of (owner := "callable_iterator") (n := "__next__") (by rw [typeLookup_type, builtinLookup_eq_fast]; kernel_rfl) (by decide +kernel) (by decide +kernel) (by decide +kernel)
    (by first | exact .inl (by decide +kernel) | exact .inr (by decide +kernel)) (by rw [isSubtype_type]; kernel_rfl)
theorem ci_iter : Slot "callable_iterator" "__iter__" "callable_iterator.__iter__" :=
  .of (owner := "callable_iterator") (n := "__iter__") (by rw [typeLookup_type, builtinLookup_eq_fast]; kernel_rfl) (by decide +kernel) (by decide +kernel) (by decide +kernel)
    (by first | exact .inl (by decide +kernel) | exact .inr (by decide +kernel)) (by rw [isSubtype_type]; kernel_rfl)
theorem ci_next_entry : entryFor table "callable_iterator.__next__" = some Builtin.«callable_iterator.__next__» := entryFor_of_tree (by kernel_rfl)
theorem fn_mro : mroOf (.type "function") = pure [.type "function", .type "object"] := by kernel_rfl
end
section
open PySem PySem.W PyProof.Rows
open Builtin Builtin.ObjectAttr
set_option maxRecDepth 100000
set_option maxHeartbeats 4000000
theorem fn_setattr_entry : entryFor table "object.__setattr__" = some Builtin.«object.__setattr__» := entryFor_of_tree (by kernel_rfl)
theorem fn_setattr_args (a b c : Value) : argsOk "object.__setattr__" ⟨[a, b, c], []⟩ := F.store_ValueError.args a b c
theorem fn_passes (self : Value) : refuseLoop self "__setattr__" [.type "function", .type "object"] = pure () := by
  kernel_rfl
section
variable {prog : Program} {w : World} {A : Around} {E : Value → Shared → Prop} {s : Shared}
theorem setattr_fn {f : Addr} {fd : FuncData} {sl : Array (Option Value)} {name : Str} {v : Value} {Q : Unit → Shared → Prop}
    (hx : s.heap.get? f = some { cls := .type "function", dict := none, data := .func fd, slots := sl }) (hN : typeLookup (.type "function") name = pure none)
    (h : ∀ h' D oD tk, h'.get? f = some { cls := .type "function", dict := some D, data := .func fd, slots := sl } → h'.get? D = some oD → NsObj oD (fun y => if y = name then some v else none) → s.heap.objs.size = D →
      (∀ b o, b ≠ f → s.heap.get? b = some o → h'.get? b = some o) → Q () { s with heap := h', toks := tk }) :
    wpAny (model prog w) A (setAttr (.ref f) name v) Q E s := by
  obtain ⟨hp, g, d, tk, os⟩ := s
  have hT : Shared.TypeIs ⟨hp, g, d, tk + 1, os⟩ (.ref f) "function" := ⟨_, hx, rfl⟩
  unfold setAttr
  refine wpAny_bind (wpAny_mkText ?_)
  refine wpAny_bind (wpAny_callSpecial?_slot (name := "__setattr__") hT slot_fn_setattr
    (wpAny_call_entry slot_fn_setattr hT fn_setattr_entry ?_ (fn_setattr_args _ _ _)))
  unfold Builtin.«object.__setattr__»
  have hsz : f ≠ hp.objs.size := Nat.ne_of_lt (Heap.lt_size hx)
  have hx₁ : (hp.push { cls := .type "dict", data := .dict #[] }).get? f = some { cls := .type "function", dict := none, data := .func fd, slots := sl } := Heap.get?_push_of_some _ hx
  repeat (first | with_reducible apply wpAny_nsSet1 (m := fun _ => none) | wp_step)
  · refine Heap.Ns1.of_empty ⟨_, #[], _, (Heap.get?_update_ne _ _ _ _ hsz.symm).trans (Heap.get?_push_at rfl rfl), rfl, fun e he => absurd he (by simp), fun _ => rfl⟩
  · intro h' hn' hs
    obtain ⟨oD, esD, epD, hoD, hdD, hcD⟩ := hn'.count (Within.cons name v Within.nil)
    refine wpAny_bind (wpAny_lookBehind hoD (by rw [hdD]; exact pastItsLine_dict (Nat.le_trans hcD (by rw [List.length_cons, List.length_nil, sizeLine_eq]; omega))) ?_)
    wp_walk
    refine ⟨_, rfl, wpAny_pure ?_⟩
    have hx' : h'.get? f = some { cls := .type "function", dict := some hp.objs.size, data := .func fd, slots := sl } := (hs.2 f hsz).trans (Heap.get?_update_self _ hx₁ rfl)
    refine h h' hp.objs.size oD _ hx' hoD ?_ rfl fun b o hb e => ?_
    · obtain ⟨o, es, ep, e1, e2, e3, _, e4⟩ := hn'
      have e1' : h'.get? hp.objs.size = some o := e1
      rw [show h'.get? hp.objs.size = some oD from hoD] at e1'
      cases e1'
      exact ⟨es, ep, e2, e3, e4⟩
    · exact (hs.2 b (Nat.ne_of_lt (Heap.lt_size e))).trans ((Heap.get?_update_ne _ _ _ _ hb).trans (Heap.get?_push_of_some _ e))
theorem fn_getattribute_entry : entryFor table "object.__getattribute__" = some Builtin.«object.__getattribute__» := entryFor_of_tree (by kernel_rfl)
theorem fn_getattribute_args (a b : Value) : argsOk "object.__getattribute__" ⟨[a, b], []⟩ := by unfold argsOk; kernel_rfl
theorem ga_canon : (Manifest.canonical "object.__getattribute__" != "object.__getattribute__") = false := by decide +kernel
theorem getMethod_fn {f D : Addr} {fd : FuncData} {sl : Array (Option Value)} {name : Str} {r : Addr} {mD : Str → Option Value} {pl : Sem Bool} {Q : Value × List Value → Shared → Prop}
    (hx : s.heap.get? f = some { cls := .type "function", dict := some D, data := .func fd, slots := sl }) (hD : s.heap.Ns D mD) (hv : mD name = some (.ref r)) (hN : typeLookup (.type "function") name = pure none)
    (h : ∀ tk, Q (.ref r, []) { s with toks := tk }) :
    wpAny (model prog w) A (getMethod (.ref f) name pl) Q E s := by
  obtain ⟨hp, g, d, tk, os⟩ := s
  have hT : Shared.TypeIs ⟨hp, g, d, tk, os⟩ (.ref f) "function" := ⟨_, hx, rfl⟩
  unfold getMethod
  refine wpAny_bind (wpAny_specialOf hT fn_getattribute ?_)
  simp only [ga_canon]
  refine wpAny_bind (wpAny_specialOf hT fn_getattr ?_)
  refine wpAny_bind (wpAny_specialOf hT hN ?_)
  show wpAny _ _ (getAttr (.ref f) name >>= _) _ _ _
  refine wpAny_bind ?_
  unfold getAttr
  refine wpAny_bind (wpAny_mkText ?_)
  have hT1 : Shared.TypeIs ⟨hp, g, d, tk + 1, os⟩ (.ref f) "function" := ⟨_, hx, rfl⟩
  have hD1 : Heap.Ns (Shared.heap ⟨hp, g, d, tk + 1, os⟩) D mD := hD
  unfold getAttrBy
  refine wpAny_holding (wpAny_bind (wpAny_typeOf hT1 (wpAny_bind (wpAny_of_eq fn_getattribute ?_))))
  show wpAny _ _ (getAttrByItsOwn (.ref f) _ _ (.builtin "object.__getattribute__") true false) _ _ _
  unfold getAttrByItsOwn
  show wpAny _ _ ((callGetattribute (.ref f) (.str name tk) (.builtin "object.__getattribute__") false).attempt >>= _) _ _ _
  refine wpAny_bind (wpAny_attempt ?_)
  show wpAny _ _ (boundAndCalled (.builtin "object.__getattribute__") (.ref f) (.str name tk)) _ _ _
  unfold boundAndCalled
  rw [slot_fn_getattribute.bind]
  refine wpAny_bind (wpAny_pure ?_)
  refine wpAny_call_entry slot_fn_getattribute hT1 fn_getattribute_entry ?_ (fn_getattribute_args _ _)
  unfold Builtin.«object.__getattribute__»
  wp_walk using wpAny_nsGet hD1
  rw [hv]
  refine wpAny_bind (wpAny_rule (wpAny_pure ?_))
  refine wpAny_pure ⟨_, rfl, ?_⟩
  show wpAny _ _ (handedOut (.ref r)) _ _ _
  exact wpAny_pure (wpAny_pure (h _))
end
end
section
open PySem PySem.W PyProof.Rows
set_option maxRecDepth 100000
set_option maxHeartbeats 4000000
section
variable {prog : Program} {w : World} {A : Around} {E : Value → Shared → Prop} {s : Shared} {h₀ : Heap} {L : Addr} {m : Str → Option Value} {news : List (Addr × Obj)}
abbrev fnObj (fd : FuncData) (d : Option Addr) (sl : Array (Option Value)) : Obj := { cls := .type "function", dict := d, data := .func fd, slots := sl }
theorem setattr_fn_K {f : Addr} {fd : FuncData} {sl : Array (Option Value)} {name : Str} {v : Value} {Q : Unit → Shared → Prop} {g : Obj → List (Addr × Obj)}
    (F : Fr h₀ L s.heap m) (N : News h₀ L s.heap news) (U : UpdF f (fnObj fd none sl) news g) (hN : typeLookup (.type "function") name = pure none)
    (h : ∀ h' D oD tk, Fr h₀ L h' m → News h₀ L h' ((D, oD) :: g (fnObj fd (some D) sl)) → NsObj oD (fun y => if y = name then some v else none) → (∀ p ∈ news, p.1 < D) → Q () { s with heap := h', toks := tk }) :
    wpAny (model prog w) A (setAttr (.ref f) name v) Q E s := by
  obtain ⟨own, rest, rfl, hgr, h1, h2⟩ := U.split
  have hm := N (f, fnObj fd none sl) (List.mem_append_right _ (.head _))
  refine setattr_fn hm.1 hN fun h' D oD tk hf hD hns hsz hk => ?_
  have hlt : ∀ p ∈ own ++ (f, fnObj fd none sl) :: rest, p.1 < D := fun p hp => by rw [← hsz]; exact Heap.lt_size (N p hp).1
  have hLs : L < D := by rw [← hsz]; exact F.ns.lt
  have old : ∀ b o, h₀.get? b = some o → h'.get? b = some o := fun b o e => hk b o (fun q => by rw [q, hm.2.2] at e; cases e) (F.keep b o e)
  have F' : Fr h₀ L h' m := by
    obtain ⟨oL, es, ep, hL, r⟩ := F.ns
    exact ⟨⟨oL, es, ep, hk _ _ hm.2.1.symm hL, r⟩, old, F.above⟩
  refine h h' D oD tk F' (fun p hp => ?_) hns hlt
  rcases List.mem_cons.mp hp with rfl | hp
  · exact ⟨hD, Nat.ne_of_gt hLs, Heap.get?_none_of_le (Nat.le_trans F.above (Nat.le_of_lt hLs))⟩
  · rw [hgr] at hp
    rcases List.mem_append.mp hp with hq | hq
    · have n := N p (List.mem_append_left _ hq)
      exact ⟨hk _ _ (h1 p hq) n.1, n.2⟩
    · rcases List.mem_cons.mp hq with rfl | hq
      · exact ⟨hf, hm.2⟩
      · have n := N p (List.mem_append_right _ (.tail _ hq))
        exact ⟨hk _ _ (h2 p hq) n.1, n.2⟩
theorem getMethod_fn_K {f D r : Addr} {fd : FuncData} {sl : Array (Option Value)} {name : Str} {oD : Obj} {mD : Str → Option Value} {pl : Sem Bool} {Q : Value × List Value → Shared → Prop}
    (N : News h₀ L s.heap news) (hf : (f, fnObj fd (some D) sl) ∈ news) (hD : (D, oD) ∈ news) (hn : NsObj oD mD) (hv : mD name = some (.ref r)) (hN : typeLookup (.type "function") name = pure none)
    (h : ∀ tk, Q (.ref r, []) { s with toks := tk }) : wpAny (model prog w) A (getMethod (.ref f) name pl) Q E s :=
  getMethod_fn (N _ hf).1 (hn.ns (N _ hD).1) hv hN h
end
end
section
open PySem PySem.W PyProof.Rows PySem.Calls
set_option maxRecDepth 100000
set_option maxHeartbeats 4000000
/-- what a call leaves: all but its own stays; its own is old or new -/
def Stays (h : Heap) (own own' : List (Addr × Obj)) (h' : Heap) : Prop := (∀ b o, h.get? b = some o → b ∉ own.map (·.1) → h'.get? b = some o) ∧ ∀ p ∈ own', p.1 ∈ own.map (·.1) ∨ h.get? p.1 = none
theorem stays_of {h g h' : Heap} {L' : Addr} {m' : Str → Option Value} {own own' : List (Addr × Obj)} (G : GSub h g (own.map (·.1))) (F : Fr g L' h' m') (N : News g L' h' own') : Stays h own own' h' := by
  refine ⟨fun b o e hb => F.keep b o (G b o e hb), fun p hp => ?_⟩
  by_cases hb : p.1 ∈ own.map (·.1)
  · exact .inl hb
  · refine .inr ?_
    cases q : h.get? p.1 with
    | none => rfl
    | some o => have := G _ _ q hb; rw [(N p hp).2.2] at this; cases this
def Gv (w : World) (p : Program) (loose : List Str) (mean : ExcName → Option Value) (mg mb : Str → Option Value) (f : Value) (args : List Value) (D U : Nat) (own : List (Addr × Obj)) (Post : Value → List (Addr × Obj) → Prop) : Prop :=
  ∀ (dp un : Nat) (gd : Option (List Code)) (cn : Str) (cs : Scope) (a : Addr) (ccd : Value) (cl : List (Str × Addr)) (outer : List Env) (A₀ : Around) (base h₀ : Heap) (L : Addr) (m : Str → Option Value) (s : Shared)
    (Q E : Value → Shared → Prop),
    Below A₀ base outer h₀ → Fr h₀ L s.heap m → (hd.heap_39 w.params).In h₀ → News h₀ L s.heap own → Top p loose mean mg mb h₀ → CodeHd base 76 72 → cs.kind = .function → dp + D < recursionLimit → un + U < cLine →
    (∀ r own' h' tk', Fr h₀ L h' m → News h₀ L h' own' → Stays s.heap own own' h' → Post r own' → Q r { s with heap := h', toks := tk' }) →
    codeAny (model PySem.Challenge.rw_mq0139_01.row.prog w) (ktrTop dp un gd cn cs L a ccd cl outer) (.call f ⟨args, []⟩) (fun r s' => match r with | .ok (.ret v) => Q v s' | .ok _ => False | .error e => E e s') s

section
variable {prog : Program} {w : World} {A A₀ : Around} {s : Shared} {K : Frag} {L : Addr} {h₀ base : Heap} {m mg mb : Str → Option Value} {news : List (Addr × Obj)} {p : Program} {loose : List Str} {mean : ExcName → Option Value}
theorem code_ownC {env : Env} {outer : List Env} {R : Result → Shared → Prop} {name qual : Str} {params : Arguments} {body : List Stmt} {scope : Scope} {dV kV doc pm cdv ct oc : Value} {an od : Option Addr} {osl : Array (Option Value)} {f : Addr} {args : Args} {binds : List (Str × Value)}
    (B : Below A₀ base outer h₀) (F : Fr h₀ L s.heap m) (X₀ : K.In h₀) (N : News h₀ L s.heap news) (T : Top p loose mean mg mb h₀) (hA : A.frames = some (env :: outer)) (hf : env.frame = some L) (hke : env.scope.kind = .function)
    (ho : K.lookup f = some ⟨oc, od, .func (fnOf name qual params body scope dV kV doc pm an cdv ct), osl⟩) (hcd : codeIn K cdv qual = true) (hroom : A.depth < recursionLimit)
    (hbind : BindsTo s (fnOf name qual params body scope dV kV doc pm an cdv ct) args binds) (hkind : (binds.all fun y => scope.names.lookup y.1 == some .local || scope.names.lookup y.1 == some .cell) = true)
    (hnd : ((cellsFrom 0 scope.names []).map (·.1)).Nodup)
    (h : ∀ g L' h₁ tk cells, Fr h₀ L g m → Fr g L' h₁ (bindL (envOfC qual scope L' f cdv).kindOf binds fun _ => none) → News g L' h₁ (cells ++ news) →
      CellsAre (bindC (envOfC qual scope L' f cdv).kindOf binds fun _ => none) (cellsFrom (L' + 1) scope.names []) cells → Below A base (env :: outer) g → K.In g → Top p loose mean mg mb g → (∀ p ∈ news, p.1 < L') → GSub s.heap g (news.map (·.1)) →
      wpAny (model prog w) (A.deeper (envOfC qual scope L' f cdv)) (execs body (envOfC qual scope L' f cdv))
        (fun fl s' => LeaveK h₀ L m g R (match fl with | .ret v => v | _ => .none) s')
        (fun e s' => wpAny (model prog w) (A.deeper (envOfC qual scope L' f cdv)) (leaving (envOfC qual scope L' f cdv) e) (fun _ s'' => R (.error e) s'') (fun e' s'' => R (.error e') s'') s')
        { s with heap := h₁, toks := tk })
    (hco : scope.isCoroutine = false) (hgen : scope.isGenerator = false) (hk : scope.kind = .function) : codeAny (model prog w) A (.call (.ref f) args) R s := by
  obtain ⟨FG, BG, st, lv⟩ := groundX (R := R) B F N hA hf hke
  refine codeAny_call_function hroom ((X₀.keeps F.keep) _ _ ho) rfl hco hgen rfl (codeRec_of (X₀.keeps F.keep) hcd) (hbind _ _ _ _ ?_)
  refine wpAny_newFunctionEnv_cells hk (kindsX hkind _) fun env' he s' x => ?_
  subst he
  refine ⟨(T.nolimit.keeps F.keep).keeps x.toInCall.keep, codeAny_func ?_⟩
  obtain ⟨h₁, tk, rfl, _⟩ := x.done
  have hk₁ := x.toInCall.keep
  obtain ⟨cells, NC, Y⟩ := Cl.news (h₀ := s.heap) (Nat.le_refl _) fun n c hm => ⟨x.cell n c (lookup_of_mem_nodup (cellsFrom_names scope.names 0 (s.heap.objs.size + 1) [] [] rfl ▸ hnd) hm), x.above n c hm⟩
  refine wpAny_mono (h _ s.heap.objs.size h₁ tk cells FG ⟨x.toInCall.ns, fun b o e => hk₁ b o (of_hideAll _ e), Nat.le_of_eq (hideAll_size _ _)⟩ (fun p hp => ?_) Y BG (X₀.keeps st) (T.keeps st) (fun p hp => Heap.lt_size (N p hp).1) (fun b o e n => hideAll_get _ e n)) (fun fl s' hl => lv _ _ hl) fun _ _ y => y
  rcases List.mem_append.mp hp with hp | hp
  · refine ⟨(NC p hp).1, (NC p hp).2.1, ?_⟩
    cases q : (hideAll s.heap (news.map (·.1))).get? p.1 with
    | none => rfl
    | some o => have := of_hideAll _ q; rw [(NC p hp).2.2] at this; cases this
  · exact ⟨hk₁ _ _ (N p hp).1, Nat.ne_of_lt (Heap.lt_size (N p hp).1), hideAll_none _ (List.mem_map_of_mem hp)⟩
theorem code_ownL {env : Env} {outer : List Env} {R : Result → Shared → Prop} {name qual : Str} {params : Arguments} {body : Expr} {scope : Scope} {cl : List (Str × Addr)} {pm ctv : Value} {c' : Addr} {f : Addr} {args : Args} {binds : List (Str × Value)}
    (B : Below A₀ base outer h₀) (F : Fr h₀ L s.heap m) (X₀ : K.In h₀) (N : News h₀ L s.heap news) (T : Top p loose mean mg mb h₀) (hA : A.frames = some (env :: outer)) (hf : env.frame = some L) (hke : env.scope.kind = .function)
    (ho : s.heap.get? f = some (kla_obj name qual params body scope cl pm c' ctv)) (hcd : s.heap.CodeRec (.ref c') qual) (hroom : A.depth < recursionLimit)
    (hbind : bindArgs (kla_fn name qual params body scope cl pm (.ref c') ctv) args = pure binds) (hloc : ∀ y ∈ binds, scope.names.lookup y.1 = some .local)
    (h : ∀ g L' h₁, Fr h₀ L g m → Fr g L' h₁ (fun y => binds.reverse.lookup y) → News g L' h₁ news → Below A base (env :: outer) g → K.In g → Top p loose mean mg mb g → GSub s.heap g (news.map (·.1)) →
      wpAny (model prog w) (A.deeper (envX qual scope L' f (.ref c') cl)) (eval body (envX qual scope L' f (.ref c') cl))
        (fun v s' => LeaveK h₀ L m g R v s')
        (fun e s' => wpAny (model prog w) (A.deeper (envX qual scope L' f (.ref c') cl)) (leaving (envX qual scope L' f (.ref c') cl) e) (fun _ s'' => R (.error e) s'') (fun e' s'' => R (.error e') s'') s')
        { s with heap := h₁, toks := s.toks + binds.length })
    (hco : scope.isCoroutine = false) (hgen : scope.isGenerator = false) (hk : scope.kind = .function)
    (hcell : ∀ x ∈ scope.names, x.2 ≠ .cell) : codeAny (model prog w) A (.call (.ref f) args) R s := by
  obtain ⟨FG, BG, st, lv⟩ := groundX (R := R) B F N hA hf hke
  refine kla_callFunE hroom ho rfl hco hgen rfl hcd ?_
  rw [hbind]
  refine wpAny_pure (wpAny_newFunctionEnv hcell hloc (fun h₁ hns hsb => ⟨((T.nolimit).keeps F.keep).fresh _ hsb, ?_⟩) hk)
  show codeAny _ _ (.expr body (envX qual scope s.heap.objs.size f (.ref c') cl)) _ _
  have hk₁ : ∀ b o, s.heap.get? b = some o → h₁.get? b = some o := fun b o e => hsb.extBut b o (Nat.ne_of_lt (Heap.lt_size e)) (Heap.get?_push_of_some _ e)
  exact kla_codeExpr (wpAny_mono (h _ s.heap.objs.size h₁ FG ⟨hns, fun b o e => hk₁ b o (of_hideAll _ e), Nat.le_of_eq (hideAll_size _ _)⟩
    (fun p hp => ⟨hk₁ _ _ (N p hp).1, Nat.ne_of_lt (Heap.lt_size (N p hp).1), hideAll_none _ (List.mem_map_of_mem hp)⟩) BG (X₀.keeps st) (T.keeps st) (fun b o e n => hideAll_get _ e n)) (fun v s' hl => lv _ _ hl) fun _ _ y => y)
end
end
section
open PySem PySem.W PyProof.Rows PySem.Spec
set_option maxRecDepth 100000
set_option maxHeartbeats 4000000
theorem strs_carried {vs : List Value} : ∀ {xs : List (List Nat)}, StrsAre vs xs → CarriedAll vs (xs.map fun x => PyData.str (tx x)) := by
  intro xs h
  induction xs generalizing vs with
  | nil => rw [h.none]; exact .nil
  | cons x xs ih =>
    obtain ⟨v, vs', rfl, ⟨tk, rfl⟩, h'⟩ := h.some
    exact .cons (.str _ tk) (ih h')
/-- plain signs -/
def Asc (x : List Nat) : Prop := ∀ c ∈ x, c < 128
theorem asc_ok {x : List Nat} (h : Asc x) : PyData.strOk (tx x) = true := by
  unfold PyData.strOk
  simp
  intro c hc
  have := h c hc
  omega
theorem strs_canLay : ∀ {xs : List (List Nat)}, (∀ x ∈ xs, Asc x) → PyData.canLayAll0 (xs.map fun x => PyData.str (tx x)) = true := by
  intro xs
  induction xs with
  | nil => intro _; rfl
  | cons x xs ih =>
    intro h
    simp [PyData.canLayAll0, PyData.canLay0, ih fun y hy => h y (.tail _ hy), asc_ok (h x (.head _))]
theorem strs_depth : ∀ xs : List (List Nat), PyData.depthAll (xs.map fun x => PyData.str (tx x)) = 0 := by
  intro xs
  induction xs with
  | nil => rfl
  | cons x xs ih => simp [PyData.depthAll, PyData.depth, ih]
theorem strs_shaped {xs : List (List Nat)} (h : ∀ x ∈ xs, Asc x) : SeqAt.shaped (.list (xs.map fun x => PyData.str (tx x))) = true := by
  simp [SeqAt.shaped, PyData.canLay0, PyData.depth, strs_canLay h, strs_depth]
theorem strs_sameAll : ∀ xs ys : List (List Nat), PySem.Spec.sameAll (xs.map fun x => PyData.str (tx x)) (ys.map fun x => PyData.str (tx x)) = decide (xs = ys) := by
  intro xs
  induction xs with
  | nil => intro ys; cases ys <;> simp [PySem.Spec.sameAll]
  | cons x xs ih =>
    intro ys
    cases ys with
    | nil => simp [PySem.Spec.sameAll]
    | cons y ys =>
      simp only [List.map_cons, PySem.Spec.sameAll, PySem.Spec.same, ih]
      by_cases h : x = y
      · subst h; simp
      · have : ¬ tx x = tx y := fun e => h (tx_inj e)
        simp [h, this]
section
variable {prog : Program} {w : World} {A : Around} {E : Value → Shared → Prop} {s : Shared} {a b : Addr} {vs us : List Value} {xs ys : List (List Nat)} {Q : Value → Shared → Prop}
theorem eq_strs {c : Bool} (ha : s.heap.IsList a vs.toArray) (hb : s.heap.IsList b us.toArray) (hi : StrsAre vs xs) (hj : StrsAre us ys) (hx : ∀ x ∈ xs, Asc x) (hy : ∀ x ∈ ys, Asc x) (hu : A.units + 64 < cLine) (hc : decide (xs = ys) = c) (h : Q (.bool c) s) :
    wpAny (model prog w) A (compareOp .Eq (.ref a) (.ref b)) Q E s :=
  eq_dataH_same (reads_newData ha (strs_carried hi)) (reads_newData hb (strs_carried hj)) (strs_shaped hx) (strs_shaped hy) hu (SeqAt.noMix_of_shape (.list .str) rfl _ _ (list_map_has fun _ => rfl) (list_map_has fun _ => rfl)) (by rw [PySem.Spec.same, strs_sameAll, hc]; exact h)
theorem ne_strs {c : Bool} (ha : s.heap.IsList a vs.toArray) (hb : s.heap.IsList b us.toArray) (hi : StrsAre vs xs) (hj : StrsAre us ys) (hx : ∀ x ∈ xs, Asc x) (hy : ∀ x ∈ ys, Asc x) (hu : A.units + 64 < cLine) (hc : decide (xs = ys) = c) (h : Q (.bool (!c)) s) :
    wpAny (model prog w) A (compareOp .NotEq (.ref a) (.ref b)) Q E s :=
  ne_dataH_same (reads_newData ha (strs_carried hi)) (reads_newData hb (strs_carried hj)) (strs_shaped hx) (strs_shaped hy) hu (SeqAt.noMix_of_shape (.list .str) rfl _ _ (list_map_has fun _ => rfl) (list_map_has fun _ => rfl)) (by rw [PySem.Spec.same, strs_sameAll, hc]; exact h)
theorem cell_shaped {x : List Nat} {p : Bool} (h : Asc x) : SeqAt.shaped (.tuple [.str (tx x), .bool p]) = true := by
  simp [SeqAt.shaped, PyData.canLay0, PyData.canLayAll0, PyData.depth, PyData.depthAll, asc_ok h]
/-- two cells compared -/
theorem eq_cell {h₀ : Heap} {L : Addr} {news : List (Addr × Obj)} {x y : List Nat} {p q c : Bool} {tk tk' : Tok} {e e' : Nat} (N : News h₀ L s.heap news) (ha : (a, tupOf #[.str (tx x) tk, .bool p] e) ∈ news) (hb : (b, tupOf #[.str (tx y) tk', .bool q] e') ∈ news) (hx : Asc x) (hy : Asc y) (hu : A.units + 64 < cLine)
    (hc : decide (x = y ∧ p = q) = c) (h : Q (.bool c) s) : wpAny (model prog w) A (compareOp .Eq (.ref a) (.ref b)) Q E s := by
  have ra : Reads s.heap (.ref a) (.tuple [.str (tx x), .bool p]) _ := .tuple (N _ ha).1 rfl rfl (.cons (.str _ _) (.cons (.bool _) .nil))
  have rb : Reads s.heap (.ref b) (.tuple [.str (tx y), .bool q]) _ := .tuple (N _ hb).1 rfl rfl (.cons (.str _ _) (.cons (.bool _) .nil))
  refine eq_dataH_same ra rb (cell_shaped hx) (cell_shaped hy) hu rfl ?_
  have : PySem.Spec.same (.tuple [.str (tx x), .bool p]) (.tuple [.str (tx y), .bool q]) = c := by
    rw [← hc]
    simp only [PySem.Spec.same, PySem.Spec.sameAll]
    by_cases h : x = y
    · subst h; cases p <;> cases q <;> simp
    · have : ¬ tx x = tx y := fun e => h (tx_inj e)
      simp [h, this]
  rw [this]
  exact h
theorem ne_cell {h₀ : Heap} {L : Addr} {news : List (Addr × Obj)} {x y : List Nat} {p q c : Bool} {tk tk' : Tok} {e e' : Nat} (N : News h₀ L s.heap news) (ha : (a, tupOf #[.str (tx x) tk, .bool p] e) ∈ news) (hb : (b, tupOf #[.str (tx y) tk', .bool q] e') ∈ news) (hx : Asc x) (hy : Asc y) (hu : A.units + 64 < cLine)
    (hc : decide (x = y ∧ p = q) = c) (h : Q (.bool (!c)) s) : wpAny (model prog w) A (compareOp .NotEq (.ref a) (.ref b)) Q E s := by
  have ra : Reads s.heap (.ref a) (.tuple [.str (tx x), .bool p]) _ := .tuple (N _ ha).1 rfl rfl (.cons (.str _ _) (.cons (.bool _) .nil))
  have rb : Reads s.heap (.ref b) (.tuple [.str (tx y), .bool q]) _ := .tuple (N _ hb).1 rfl rfl (.cons (.str _ _) (.cons (.bool _) .nil))
  refine ne_dataH_same ra rb (cell_shaped hx) (cell_shaped hy) hu rfl ?_
  have : PySem.Spec.same (.tuple [.str (tx x), .bool p]) (.tuple [.str (tx y), .bool q]) = c := by
    rw [← hc]
    simp only [PySem.Spec.same, PySem.Spec.sameAll]
    by_cases h : x = y
    · subst h; cases p <;> cases q <;> simp
    · have : ¬ tx x = tx y := fun e => h (tx_inj e)
      simp [h, this]
  rw [this]
  exact h
end
end
section
open PySem PySem.W PyProof.Rows
set_option maxRecDepth 100000
set_option maxHeartbeats 4000000
def qualL : Str := ("_law_stream" : Str) ++ ".<locals>." ++ "<lambda>"
/-- a code object of one of the two lambdas -/
def CodeOk (oc : Obj) : Prop := ∃ vs t, oc.data = .fields vs ∧ vs[1]? = some (.str qualL t)
/-- the table of _law_stream's code: empty, or both lambdas' codes -/
def Tab (tb : List (Addr × Obj)) : Prop := tb = [(72, tabObj #[])] ∨
  ∃ c1 c2 oc1 oc2, tb = [(72, tabObj (#[] ++ #[rawInt (79 : Nat), rawInt (13 : Nat), .ref c1] ++ #[rawInt (80 : Nat), rawInt (18 : Nat), .ref c2])), (c1, oc1), (c2, oc2)] ∧ CodeOk oc1 ∧ CodeOk oc2 ∧ 72 < c1 ∧ c1 < c2
section
variable (w : World) (p : Program) (loose : List Str) (mean : ExcName → Option Value) (mg mb : Str → Option Value)
/-- what the stream's read gives -/
def Reads1 (k : List (Addr × Obj)) (rd l : Addr) : Prop := ∀ (ys : List Value) (xs : List (List Nat)) (ep : Nat) (tk : Tok), StrsAre ys xs → (∀ x ∈ xs, Asc x) → xs.length ≤ 100000 →
  Gv w p loose mean mg mb (.ref rd) [.int 1 tk] 3 200 ((l, listOf ys.toArray ep) :: k) (fun r own' => (xs = [] ∧ IsTx r [] ∧ own' = (l, listOf ys.toArray ep) :: k) ∨ (∃ x xs' ys' ep', xs = x :: xs' ∧ IsTx r x ∧ StrsAre ys' xs' ∧ own' = (l, listOf ys'.toArray ep') :: k))
/-- a stream at st, its list at l -/
def Stream (k : List (Addr × Obj)) (st l : Addr) : Prop := ∃ D oD fd sl rd, (∃ ord frd, (rd, ord) ∈ k ∧ ord.data = .func frd) ∧ (st, fnObj fd (some D) sl) ∈ k ∧ (D, oD) ∈ k ∧ NsObj oD (fun y => if y = "read" then some (.ref rd) else none) ∧ Reads1 w p loose mean mg mb k rd l ∧ ∀ p ∈ k, p.1 ≠ l
end
abbrev tab12 (c1 c2 : Addr) : Obj := tabObj (#[] ++ #[rawInt (79 : Nat), rawInt (13 : Nat), .ref c1] ++ #[rawInt (80 : Nat), rawInt (18 : Nat), .ref c2])
theorem stream_pack {w : World} {p : Program} {loose : List Str} {mean : ExcName → Option Value} {mg mb : Str → Option Value} {h₀ h : Heap} {L D rd c2 st c1 l cA : Addr} {oD ord oc2 oc1 oA : Obj} {fd : FuncData} {sl : Array (Option Value)} {ys : List Value} {ep : Nat} {xs : List (List Nat)}
    (_N : News h₀ L h ((D, oD) :: (rd, ord) :: (c2, oc2) :: (st, fnObj fd (some D) sl) :: (c1, oc1) :: (l, listOf ys.toArray ep) :: (cA, oA) :: [(72, tab12 c1 c2)]))
    (hc1 : CodeOk oc1) (hc2 : CodeOk oc2) (nD : NsObj oD (fun y => if y = "read" then some (.ref rd) else none)) (hys : StrsAre ys xs) (l1 : 72 < c1) (l2 : c1 < c2)
    {frd : FuncData} (hfr : ord.data = .func frd) (hne : D ≠ l ∧ rd ≠ l ∧ c2 ≠ l ∧ st ≠ l ∧ c1 ≠ l ∧ cA ≠ l ∧ 72 ≠ l)
    (R : (∀ q ∈ [(D, oD), (rd, ord), (st, fnObj fd (some D) sl), (cA, oA)] ++ [(72, tab12 c1 c2), (c1, oc1), (c2, oc2)], q.1 ≠ l) → Reads1 w p loose mean mg mb ([(D, oD), (rd, ord), (st, fnObj fd (some D) sl), (cA, oA)] ++ [(72, tab12 c1 c2), (c1, oc1), (c2, oc2)]) rd l) :
    ∃ own', (∀ p ∈ own', p ∈ ((D, oD) :: (rd, ord) :: (c2, oc2) :: (st, fnObj fd (some D) sl) :: (c1, oc1) :: (l, listOf ys.toArray ep) :: (cA, oA) :: [(72, tab12 c1 c2)])) ∧
      ∃ st' l' ys ep sk tb, Value.ref st = .ref st' ∧ own' = (l', listOf ys.toArray ep) :: (sk ++ tb) ∧ Tab tb ∧ Stream w p loose mean mg mb (sk ++ tb) st' l' ∧ StrsAre ys xs := by
  have hl : ∀ q ∈ [(D, oD), (rd, ord), (st, fnObj fd (some D) sl), (cA, oA)] ++ [(72, tab12 c1 c2), (c1, oc1), (c2, oc2)], q.1 ≠ l := by
    intro p hp
    simp only [List.mem_cons, List.mem_append, List.mem_nil_iff, or_false] at hp
    rcases hp with (rfl | rfl | rfl | rfl) | (rfl | rfl | rfl)
    · exact hne.1
    · exact hne.2.1
    · exact hne.2.2.2.1
    · exact hne.2.2.2.2.2.1
    · exact hne.2.2.2.2.2.2
    · exact hne.2.2.2.2.1
    · exact hne.2.2.1
  refine ⟨(l, listOf ys.toArray ep) :: ([(D, oD), (rd, ord), (st, fnObj fd (some D) sl), (cA, oA)] ++ [(72, tab12 c1 c2), (c1, oc1), (c2, oc2)]), fun p hp => ?_, st, l, ys, ep, _, _, rfl, rfl, .inr ⟨c1, c2, oc1, oc2, rfl, hc1, hc2, l1, l2⟩, ⟨D, oD, fd, sl, rd, ⟨ord, frd, by simp, hfr⟩, ?_, ?_, nD, R hl, hl⟩, hys⟩
  · simp only [List.mem_cons, List.mem_append, List.mem_nil_iff, or_false] at hp ⊢
    grind
  · simp
  · simp
end
section
open PySem PySem.W PyProof.Rows
set_option maxRecDepth 100000
set_option maxHeartbeats 400000
section
variable {prog : Program} {w : World} {A : Around} {E : Value → Shared → Prop} {s : Shared} {h₀ : Heap} {L D : Addr} {m : Str → Option Value} {news news' : List (Addr × Obj)}
theorem pop0_K {v : Value} {vs : List Value} {n : Nat} {u : Tok} {Q : Value → Shared → Prop} (F : Fr h₀ L s.heap m) (N : News h₀ L s.heap news) (U : Upd D (listOf (v :: vs).toArray n) (listOf vs.toArray (n + 1)) news news') (hz : vs.length ≤ 100000)
    (h : ∀ h', Fr h₀ L h' m → News h₀ L h' news' → Q v { s with heap := h' }) : wpAny (model prog w) A (call (.builtin "list.pop") [.ref D, .int 0 u]) Q E s := by
  refine kl_popAt (its := (v :: vs).toArray) (k := 0) (p := []) (q := vs) (y := v) F N (by decide) ?_ rfl U ?_ h
  · unfold seqIndex?
    simp
  · simp only [List.length_cons]
    rw [sizeLine_eq]
    omega
end
end
section
open PySem PySem.W PyProof.Rows
set_option maxRecDepth 100000
set_option maxHeartbeats 400000
def Apart (rest own : List (Addr × Obj)) : Prop := ∀ q ∈ rest, q.1 ∉ own.map (·.1)
theorem news_last {h₀ h : Heap} {L : Addr} {x : Addr × Obj} {tb : List (Addr × Obj)} (N : News h₀ L h (x :: tb)) : News h₀ L h (tb ++ [x]) := news_sub N fun p hp => by
  simp only [List.mem_append, List.mem_cons, List.mem_nil_iff, or_false] at hp ⊢
  exact hp.symm
theorem apart_one {a : Addr} {o : Obj} {own : List (Addr × Obj)} (h : ∀ p ∈ own, p.1 < a) : Apart [(a, o)] own := fun q hq hm => by
  rw [List.mem_singleton] at hq
  subst hq
  obtain ⟨p, hp, e⟩ := List.mem_map.mp hm
  exact absurd (h p hp) (by rw [e]; exact Nat.lt_irrefl _)
theorem gv_use {w : World} {p : Program} {loose : List Str} {mean : ExcName → Option Value} {mg mb : Str → Option Value} {f : Value} {args : List Value} {D U : Nat} {own rest : List (Addr × Obj)} {Post : Value → List (Addr × Obj) → Prop}
    {dp un : Nat} {gd : Option (List Code)} {cn : Str} {cs : Scope} {a : Addr} {ccd : Value} {cl : List (Str × Addr)} {outer : List Env} {A₀ : Around} {base h₀ : Heap} {L : Addr} {m : Str → Option Value} {s : Shared} {Q E : Value → Shared → Prop}
    (G : Gv w p loose mean mg mb f args D U own Post) (N : News h₀ L s.heap (own ++ rest)) (ha : Apart rest own) (B : Below A₀ base outer h₀) (F : Fr h₀ L s.heap m) (X : (hd.heap_39 w.params).In h₀) (T : Top p loose mean mg mb h₀) (CH : CodeHd base 76 72) (hk : cs.kind = .function) (h1 : dp + D < recursionLimit) (h2 : un + U < cLine)
    (h : ∀ r own' h' tk', Fr h₀ L h' m → News h₀ L h' (own' ++ rest) → Apart rest own' → Post r own' → Q r { s with heap := h', toks := tk' }) :
    wpAny (model PySem.Challenge.rw_mq0139_01.row.prog w) (ktrTop dp un gd cn cs L a ccd cl outer) (call f args) Q E s := by
  refine wpAny_call (G dp un gd cn cs a ccd cl outer A₀ base h₀ L m s Q E B F X (news_sub N fun p hp => List.mem_append.mpr (.inl hp)) T CH hk h1 h2 fun r own' h' tk' F' N' S hp => ?_)
  refine h r own' h' tk' F' (fun q hq => ?_) (fun q hq hm => ?_) hp
  · rcases List.mem_append.mp hq with hq | hq
    · exact N' q hq
    · have y := N q (List.mem_append.mpr (.inr hq))
      exact ⟨S.1 _ _ y.1 (ha q hq), y.2⟩
  · obtain ⟨q', hq', e⟩ := List.mem_map.mp hm
    have y := N q (List.mem_append.mpr (.inr hq))
    rcases S.2 q' hq' with h3 | h3
    · exact ha q hq (e ▸ h3)
    · rw [e, y.1] at h3
      cases h3
end
section
open PySem PySem.W PyProof.Rows
set_option maxRecDepth 100000
set_option maxHeartbeats 400000
/-- the lexer's names -/
structure Lx where
  x : Addr
  dx : Addr
  pb : Addr
  l : Addr
  st : Addr
  t1 : Tok
  t2 : Tok
  t3 : Tok
  t4 : Tok
  tw : Tok
  e : Nat
  k : List (Addr × Obj)
abbrev lexDict (w : World) (X : Lx) (n : Int) (tn : Tok) : Obj := dictOf [{ hash := PyData.keyHash w.params (Str.ofString "lineno"), key := .str (Str.ofString "lineno") X.t1, val := .int n tn }, { hash := PyData.keyHash w.params (Str.ofString "instream"), key := .str (Str.ofString "instream") X.t2, val := .ref X.st }, { hash := PyData.keyHash w.params (Str.ofString "whitespace"), key := .str (Str.ofString "whitespace") X.t3, val := .str (tx [10, 9, 13, 32]) X.tw }, { hash := PyData.keyHash w.params (Str.ofString "pushback"), key := .str (Str.ofString "pushback") X.t4, val := .ref X.pb }] 4
/-- the lexer's objects but the stream's -/
abbrev lexHd (w : World) (X : Lx) (n : Int) (tn : Tok) : List (Addr × Obj) := [(X.x, instObj 66 X.dx), (X.dx, lexDict w X n tn), (X.pb, listOf #[] X.e)]
abbrev lexOwn (w : World) (X : Lx) (n : Int) (tn : Tok) (ys : List Value) (ep : Nat) : List (Addr × Obj) := (X.l, listOf ys.toArray ep) :: X.k ++ lexHd w X n tn
/-- all addresses differ -/
structure LxOk (X : Lx) : Prop where
  xd : X.x ≠ X.dx
  pd : X.pb ≠ X.dx
  ld : X.l ≠ X.dx
  kd : ∀ p ∈ X.k, p.1 ≠ X.dx
  xl : X.x ≠ X.l
  pl : X.pb ≠ X.l
  kl : ∀ p ∈ X.k, p.1 ≠ X.l
  kx : ∀ p ∈ X.k, p.1 ≠ X.x
  kp : ∀ p ∈ X.k, p.1 ≠ X.pb
  xp : X.x ≠ X.pb
abbrev chs (t : List Nat) : List (List Nat) := t.map fun c => [c]
end
section
open PySem PySem.W PyProof.Rows
open Builtin Builtin.SmallTypes
set_option maxRecDepth 100000
set_option maxHeartbeats 1000000
abbrev ciObj (q : Value) (tk : Tok) : Obj := { cls := .type "callable_iterator", data := .fields #[q, .str (tx []) tk, .bool false] }
abbrev ciEnd : Obj := { cls := .type "callable_iterator", data := .fields #[.none, .none, .bool true] }
theorem ci_next_args (a : Value) : argsOk "callable_iterator.__next__" ⟨[a], []⟩ := by unfold argsOk; kernel_rfl
section
variable {prog : Program} {w : World} {A : Around} {E : Value → Shared → Prop} {s : Shared}
theorem borrows_method {q f : Addr} {x : Value} {oc : Value} {od : Option Addr} {fd : FuncData} {sl : Array (Option Value)} {Q : Bool → Shared → Prop} (hq : s.heap.get? q = some (methodObj (.ref f) x)) (hf : s.heap.get? f = some ⟨oc, od, .func fd, sl⟩) (h : Q true s) :
    wpAny (model prog w) A (borrowsExactly (.ref q)) Q E s := by
  unfold borrowsExactly
  refine wpAny_bind (wpAny_load hq ?_)
  exact wpAny_bind (wpAny_load hf (wpAny_pure h))
theorem next_ci {it q x f : Addr} {tk : Tok} {oc : Value} {od : Option Addr} {fd : FuncData} {sl : Array (Option Value)} {Q : Option Value → Shared → Prop} (hh : A.handled = none)
    (hit : s.heap.get? it = some (ciObj (.ref q) tk)) (hq : s.heap.get? q = some (methodObj (.ref f) (.ref x))) (hf : s.heap.get? f = some ⟨oc, od, .func fd, sl⟩)
    (h : ∀ E' : Value → Shared → Prop, codeAny (model prog w) A.in1 (.call (.ref f) ⟨[.ref x], []⟩) (fun r s' => match r with | .ok (.ret v) => (∃ x' tk', v = .str (tx x') tk' ∧ s'.heap.get? it = some (ciObj (.ref q) tk) ∧ s'.heap.get? q = some (methodObj (.ref f) (.ref x)) ∧ s'.heap.get? f = some ⟨oc, od, .func fd, sl⟩ ∧
      (x' ≠ [] → Q (some v) s') ∧ (x' = [] → ∀ h'', h''.get? it = some ciEnd → Heap.ExtBut it s'.heap h'' → Q none { s' with heap := h'' })) | .ok _ => False | .error e => E' e s') s) :
    wpAny (model prog w) A (pyNext (.ref it)) Q E s := by
  have hT : s.TypeIs (.ref it) "callable_iterator" := ⟨_, hit, rfl⟩
  unfold pyNext
  refine wpAny_bind (wpAny_attempt (wpAny_callSpecial?_slot (name := Str.ofString "__next__") hT ci_next
    (wpAny_call_entry ci_next hT ci_next_entry ?_ (ci_next_args _))))
  show wpAny _ _ (field (.ref it) 2 >>= _) _ _ s
  refine wpAny_bind (wpAny_field hit rfl (x := .bool false) rfl ?_)
  rw [if_neg (by decide)]
  show wpAny _ _ (field (.ref it) 0 >>= _) _ _ s
  refine wpAny_bind (wpAny_field hit rfl (x := .ref q) rfl ?_)
  refine wpAny_bind (wpAny_attempt ?_)
  unfold callOutOfASlot
  refine wpAny_bind (borrows_method hq hf ?_)
  rw [if_pos rfl]
  unfold callBorrowed
  refine PySem.W.X.x_call ?_ (by intro x; cases x)
  refine method_call hq ?_
  rw [show A.in1.mark none = A.in1 from rfl]
  refine codeAny_mono (h fun _ _ => False) fun r s' y => ?_
  cases r with
  | error e => exact y.elim
  | ok fl =>
    cases fl with
    | ret v =>
      obtain ⟨x', tk', rfl, hit', hq', hf', y1, y2⟩ := y
      refine wpAny_pure ?_
      dsimp only
      refine wpAny_bind (wpAny_field hit' rfl (x := .bool false) rfl ?_)
      rw [if_neg (by decide)]
      show wpAny _ _ (field (.ref it) 1 >>= _) _ _ s'
      refine wpAny_bind (wpAny_field hit' rfl (x := .str (tx []) tk) rfl ?_)
      refine wpAny_bind (wpAny_holding (wpAny_eqBool_str ?_))
      by_cases hx : x' = []
      · subst hx
        rw [if_neg (by decide)]
        refine wpAny_bind (wpAny_rule ?_)
        show wpAny _ _ ((field (.ref it) 0 >>= _) >>= _) _ _ _
        refine wpAny_bind (wpAny_bind (wpAny_field hit' rfl (x := .ref q) rfl ?_))
        refine wpAny_bind ?_
        unfold slotLetsGo
        refine wpAny_bind (borrows_method hq' hf' ?_)
        rw [if_pos rfl]
        refine wpAny_pure ?_
        refine wpAny_bind (wpAny_setField_rec hit' (by simp) fun h1 e1 b1 => ?_)
        refine wpAny_bind (wpAny_setField_rec e1 (by simp) fun h2 e2 b2 => ?_)
        refine wpAny_setField_rec e2 (by simp) fun h3 e3 b3 => ?_
        show wpAny _ _ (newExc (.type "StopIteration") [] >>= _) _ _ _
        refine wpAny_bind ?_
        simp only [newExc, newTuple]
        refine wpAny_bind (wpAny_newObj_type ?_ (by size_fits))
        refine wpAny_bind (m := firstArgMember _ _) (wpAny_of_eq (a := Value.none) (by first | rfl | (simp only [firstArgMember]; rfl)) ?_)
        refine wpAny_newObj_type ?_ (by size_fits)
        simp only [raiseNew]
        refine wpAny_bind (wpAny_handled ?_)
        rw [show A.in1.handled = none from hh]
        refine wpAny_bind (wpAny_pure (wpAny_throw ?_))
        refine wpAny_bind (wpAny_isInstance (T := "StopIteration") (b := true) ⟨_, Heap.get?_push_size _ rfl, rfl⟩ isSubtype_stop ?_)
        refine wpAny_pure (y2 rfl _ ?_ ?_)
        · exact Heap.get?_push_of_some _ (Heap.get?_push_of_some _ e3)
        · exact ((((b1.trans b2).trans b3).extBut.push _).push _)
      · rw [if_pos (by simp; intro q; exact hx (by cases x' with | nil => rfl | cons a b => cases q))]
        exact wpAny_pure ⟨_, rfl, wpAny_pure (y1 hx)⟩
    | next => exact y.elim
    | brk => exact y.elim
    | cont => exact y.elim
end
end
section
open PySem PySem.W PyProof.Rows
open Builtin Builtin.SmallTypes
set_option maxRecDepth 100000
set_option maxHeartbeats 1000000
theorem ci_iter_args (a : Value) : argsOk "callable_iterator.__iter__" ⟨[a], []⟩ := by unfold argsOk; kernel_rfl
theorem ci_iter_entry : entryFor table "callable_iterator.__iter__" = some Builtin.«dict_keyiterator.__iter__» :=
  entryFor_alias (id' := "dict_keyiterator.__iter__") (by kernel_rfl) rfl (by decide +kernel) (by kernel_rfl)
theorem iter_entry : entryFor table "iter" = some Builtin.«iter» := entryFor_of_fast (by kernel_rfl)
theorem method_special : typeLookup (.type "method") "__call__" = pure (some (.builtin "method.__call__")) := by rw [typeLookup_type, builtinLookup_eq_fast]; kernel_rfl
theorem iter2_args (a b : Value) : argsOk "iter" ⟨[a, b], []⟩ := by unfold argsOk; kernel_rfl
section
variable {prog : Program} {w : World} {A : Around} {E : Value → Shared → Prop} {s : Shared}
theorem iter_ci {it : Addr} {o : Obj} {Q : Value → Shared → Prop} (hit : s.heap.get? it = some o) (hc : o.cls = .type "callable_iterator") (h : Q (.ref it) s) : wpAny (model prog w) A (pyIter (.ref it)) Q E s := by
  have hT : s.TypeIs (.ref it) "callable_iterator" := ⟨_, hit, hc⟩
  refine wpAny_pyIter_slot hT ci_iter (wpAny_call_entry ci_iter hT ci_iter_entry ?_ (ci_iter_args _))
  show wpAny _ _ (ret (.ref it)) _ _ s
  exact wpAny_pure ⟨_, rfl, "callable_iterator", _, hT, ci_next.lookup, h⟩
theorem next_end {it : Addr} {Q : Option Value → Shared → Prop} (hh : A.handled = none) (hit : s.heap.get? it = some ciEnd)
    (h : ∀ h', (∀ b o, s.heap.get? b = some o → h'.get? b = some o) → Q none { s with heap := h' }) : wpAny (model prog w) A (pyNext (.ref it)) Q E s := by
  have hT : s.TypeIs (.ref it) "callable_iterator" := ⟨_, hit, rfl⟩
  unfold pyNext
  refine wpAny_bind (wpAny_attempt (wpAny_callSpecial?_slot (name := Str.ofString "__next__") hT ci_next
    (wpAny_call_entry ci_next hT ci_next_entry ?_ (ci_next_args _))))
  show wpAny _ _ (field (.ref it) 2 >>= _) _ _ s
  refine wpAny_bind (wpAny_field hit rfl (x := .bool true) rfl ?_)
  rw [if_pos (by decide)]
  refine wpAny_bind (wpAny_rule ?_)
  show wpAny _ _ ((newExc (.type "StopIteration") [] >>= _) >>= _) _ _ _
  refine wpAny_bind (wpAny_bind ?_)
  simp only [newExc, newTuple]
  refine wpAny_bind (wpAny_newObj_type ?_ (by size_fits))
  refine wpAny_bind (m := firstArgMember _ _) (wpAny_of_eq (a := Value.none) (by first | rfl | (simp only [firstArgMember]; rfl)) ?_)
  refine wpAny_newObj_type ?_ (by size_fits)
  simp only [raiseNew]
  refine wpAny_bind (wpAny_handled ?_)
  rw [show A.in1.handled = none from hh]
  refine wpAny_bind (wpAny_pure (wpAny_throw ?_))
  refine wpAny_bind (wpAny_isInstance (T := "StopIteration") (b := true) ⟨_, Heap.get?_push_size _ rfl, rfl⟩ isSubtype_stop ?_)
  exact wpAny_pure (h _ fun b o e => Heap.get?_push_of_some _ (Heap.get?_push_of_some _ e))
variable {h₀ : Heap} {L : Addr} {m : Str → Option Value} {news : List (Addr × Obj)}
theorem iter2_K {q : Addr} {x f : Value} {tk : Tok} {Q : Value → Shared → Prop} (F : Fr h₀ L s.heap m) (N : News h₀ L s.heap news) (hq : (q, methodObj f x) ∈ news)
    (h : ∀ it h', Fr h₀ L h' m → News h₀ L h' ((it, ciObj (.ref q) tk) :: news) → (∀ p ∈ news, p.1 < it) → Q (.ref it) { s with heap := h' }) :
    wpAny (model prog w) A (call (.builtin "iter") [.ref q, .str (tx []) tk]) Q E s := by
  refine PySem.Calls.call_function_entry (by decide +kernel) (by decide +kernel) iter_entry (iter2_args _ _) ?_
  unfold Builtin.«iter»
  refine wpAny_bind (m := someArgs "iter" 1 2 _) (wpAny_of_eq (a := [Value.ref q, .str (tx []) tk]) (by first | rfl | kernel_rfl!) ?_)
  show wpAny _ _ (specialOf (.ref q) "__call__" >>= _) _ _ _
  refine wpAny_bind (wpAny_specialOf (T := "method") ⟨_, (N _ hq).1, rfl⟩ method_special ?_)
  rw [if_neg (by decide)]
  refine wpAny_bind (wpAny_rule ?_)
  exact wpAny_bind (wpAny_newObj_type (wpAny_pure ⟨_, rfl, h _ _ (F.push _) (News.push F N _ rfl) fun q hq => Heap.lt_size (N q hq).1⟩))
theorem for_inv {env : Env} {Q : Flow → Shared → Prop} {target : Expr} {it : Value} {body : List Stmt} (J : Nat → (Str → Option Value) → List (Addr × Obj) → Prop) {n₀ : Nat}
    (F : Fr h₀ L s.heap m) (N : News h₀ L s.heap news) (hJ : J n₀ m news)
    (turn : ∀ n m₁ news₁ h₁ tk₁, Fr h₀ L h₁ m₁ → News h₀ L h₁ news₁ → J n m₁ news₁ →
      wpAny (model prog w) A (pyNext it) (fun r s₂ => match r with
        | none => Q .next s₂
        | some v => wpAny (model prog w) A (assign target env v) (fun _ s₃ => wpAny (model prog w) A (execs body env) (WhileStep2 h₀ L s J Q n) E s₃) E s₂) E { s with heap := h₁, toks := tk₁ })
    (hE : PassesOwn (model prog w) A env E := by passes_own) (ht : ∀ v, letOwnedTupleGo target it v = pure () := by intro _; rfl) :
    codeAny (model prog w) A (.forLoop target it body [] env) (fun r s' => match r with | .ok f => Q f s' | .error e => cameBackBy (model prog w) A env E e s') s := by
  refine codeAny_forLoop (fun n s' => ∃ h₁ tk₁ m₁ news₁, s' = { s with heap := h₁, toks := tk₁ } ∧ Fr h₀ L h₁ m₁ ∧ News h₀ L h₁ news₁ ∧ J n m₁ news₁) ?_ n₀ ⟨s.heap, s.toks, m, news, rfl, F, N, hJ⟩ ht
  rintro n s' ⟨h₁, tk₁, m₁, news₁, rfl, F₁, N₁, J₁⟩
  refine wpAny_mono (turn n m₁ news₁ h₁ tk₁ F₁ N₁ J₁) (fun r s₂ h₂ => ?_) hE
  cases r with
  | none => exact wpAny_execs_nil h₂
  | some v =>
    refine wpAny_mono h₂ (fun _ s₃ h₃ => ?_) hE
    refine wpAny_mono h₃ (fun f s₄ h₄ => ?_) hE
    cases f with
    | next =>
      obtain ⟨h', tk, m₂, news₂, n', rfl, F₂, N₂, hn, J₂⟩ := h₄
      exact ⟨n', hn, h', tk, m₂, news₂, rfl, F₂, N₂, J₂⟩
    | cont =>
      obtain ⟨h', tk, m₂, news₂, n', rfl, F₂, N₂, hn, J₂⟩ := h₄
      exact ⟨n', hn, h', tk, m₂, news₂, rfl, F₂, N₂, J₂⟩
    | brk => exact h₄
    | ret v => exact h₄
end
end
section
open PySem PySem.W PyProof.Rows
set_option maxRecDepth 100000
set_option maxHeartbeats 1000000
/-- the tokens -/
def isWs (c : Nat) : Bool := [10, 9, 13, 32].contains c
def tokQ (acc : List Nat) : List Nat → List Nat × List Nat
  | [] => (acc, [])
  | [c] => if c = 34 then (acc, []) else if c = 92 then (acc, []) else (acc ++ [c], [])
  | c :: d :: t => if c = 34 then (acc, d :: t) else if c = 92 then tokQ (acc ++ [d]) t else tokQ (acc ++ [c]) (d :: t)
def tokP (acc : List Nat) : List Nat → List Nat × List Nat
  | [] => (acc, [])
  | [c] => if isWs c then (acc, []) else if c = 92 then (acc, []) else (acc ++ [c], [])
  | c :: d :: t => if isWs c then (acc, d :: t) else if c = 92 then tokP (acc ++ [d]) t else tokP (acc ++ [c]) (d :: t)
def tok : List Nat → List Nat × List Nat
  | [] => ([], [])
  | c :: t => if isWs c then tok t else if c = 34 then tokQ [] t else if c = 92 then (match t with | [] => ([], []) | d :: t' => tokP [d] t') else tokP [c] t
theorem tokQ_q (acc t : List Nat) : tokQ acc (34 :: t) = (acc, t) := by cases t <;> simp [tokQ]
theorem tokQ_b (acc t : List Nat) (d : Nat) : tokQ acc (92 :: d :: t) = tokQ (acc ++ [d]) t := by simp [tokQ]
theorem tokQ_b0 (acc : List Nat) : tokQ acc [92] = (acc, []) := by simp [tokQ]
theorem tokQ_c (acc t : List Nat) {c : Nat} (h1 : c ≠ 34) (h2 : c ≠ 92) : tokQ acc (c :: t) = tokQ (acc ++ [c]) t := by cases t <;> simp [tokQ, h1, h2]
theorem tokP_w (acc t : List Nat) {c : Nat} (h : isWs c = true) : tokP acc (c :: t) = (acc, t) := by cases t <;> simp [tokP, h]
theorem tokP_b (acc t : List Nat) (d : Nat) : tokP acc (92 :: d :: t) = tokP (acc ++ [d]) t := by
  have : isWs 92 = false := by decide
  simp [tokP, this]
theorem tokP_b0 (acc : List Nat) : tokP acc [92] = (acc, []) := by
  have : isWs 92 = false := by decide
  simp [tokP, this]
theorem tokP_c (acc t : List Nat) {c : Nat} (h1 : isWs c = false) (h2 : c ≠ 92) : tokP acc (c :: t) = tokP (acc ++ [c]) t := by cases t <;> simp [tokP, h1, h2]
theorem tok_w {c : Nat} {t : List Nat} (h : isWs c = true) : tok (c :: t) = tok t := by
  conv => lhs; unfold tok
  rw [if_pos h]
theorem tok_q (t : List Nat) : tok (34 :: t) = tokQ [] t := by
  conv => lhs; unfold tok
  rw [if_neg (by decide), if_pos rfl]
theorem tok_b (d : Nat) (t : List Nat) : tok (92 :: d :: t) = tokP [d] t := by
  conv => lhs; unfold tok
  rw [if_neg (by decide), if_neg (by decide), if_pos rfl]
theorem tok_b0 : tok [92] = ([], []) := by
  conv => lhs; unfold tok
  rw [if_neg (by decide), if_neg (by decide), if_pos rfl]
theorem tok_c {c : Nat} (t : List Nat) (h1 : ¬ isWs c = true) (h2 : c ≠ 34) (h3 : c ≠ 92) : tok (c :: t) = tokP [c] t := by
  conv => lhs; unfold tok
  rw [if_neg h1, if_neg h2, if_neg h3]
theorem apart_any {w : World} {X : Lx} {n n' : Int} {tn tn' : Tok} {ys ys' : List Value} {ep ep' : Nat} {it q : Addr} {o1 o2 o1' o2' : Obj} (h : Apart [(it, o1), (q, o2)] (lexOwn w X n tn ys ep)) : Apart [(it, o1'), (q, o2')] (lexOwn w X n' tn' ys' ep') := by
  have e : (lexOwn w X n' tn' ys' ep').map (·.1) = (lexOwn w X n tn ys ep).map (·.1) := by simp [lexOwn, lexHd]
  intro z hz
  rw [e]
  simp only [List.mem_cons, List.mem_nil_iff, or_false] at hz
  rcases hz with rfl | rfl
  · exact h (it, o1) (by simp)
  · exact h (q, o2) (by simp)
theorem next_lexEnd {prog : Program} {w : World} {A : Around} {E : Value → Shared → Prop} {s : Shared} {h₀ : Heap} {L it : Addr} {m : Str → Option Value} {news : List (Addr × Obj)} {Q : Option Value → Shared → Prop} (hh : A.handled = none) (F : Fr h₀ L s.heap m) (N : News h₀ L s.heap news) (hm : (it, ciEnd) ∈ news)
    (h : ∀ h', Fr h₀ L h' m → News h₀ L h' news → Q none { s with heap := h' }) : wpAny (model prog w) A (pyNext (.ref it)) Q E s :=
  next_end hh (N _ hm).1 fun h' hk => h h' (F.keptAll hk) fun z hz => ⟨hk _ _ (N z hz).1, (N z hz).2⟩
theorem apart_two {own : List (Addr × Obj)} {it q : Addr} {o : Obj} (l9 : ∀ p ∈ (q, o) :: own, p.1 < it) (l8 : ∀ p ∈ own, p.1 < q) : (∀ o1 o2, Apart [(it, o1), (q, o2)] own) ∧ q ≠ it := by
  refine ⟨fun o1 o2 z hz hm => ?_, Nat.ne_of_lt (l9 _ (.head _))⟩
  obtain ⟨r, hr, e⟩ := List.mem_map.mp hm
  simp only [List.mem_cons, List.mem_nil_iff, or_false] at hz
  rcases hz with rfl | rfl
  · exact absurd (l9 r (.tail _ hr)) (by rw [e]; exact Nat.lt_irrefl _)
  · exact absurd (l8 r hr) (by rw [e]; exact Nat.lt_irrefl _)
theorem lex_flat {w : World} {X : Lx} {n : Int} {tn : Tok} {ys : List Value} {ep : Nat} {a b : Addr × Obj} {h₀ h : Heap} {L : Addr} (N : News h₀ L h (lexOwn w X n tn ys ep ++ [a, b])) :
    News h₀ L h ((X.x, instObj 66 X.dx) :: (X.dx, lexDict w X n tn) :: (X.pb, listOf #[] X.e) :: a :: b :: (X.l, listOf ys.toArray ep) :: X.k) := by
  rw [lexOwn, List.append_assoc] at N
  refine news_sub N fun p hp => ?_
  have : p ∈ ([(X.x, instObj 66 X.dx), (X.dx, lexDict w X n tn), (X.pb, listOf #[] X.e)] ++ [a, b]) ++ ((X.l, listOf ys.toArray ep) :: X.k) := hp
  rw [List.mem_append] at this ⊢
  exact this.symm
theorem lex_back {w : World} {X : Lx} {n : Int} {tn : Tok} {ys : List Value} {ep : Nat} {a b : Addr × Obj} {h₀ h : Heap} {L : Addr} 
    (N : News h₀ L h ((X.x, instObj 66 X.dx) :: (X.dx, lexDict w X n tn) :: (X.pb, listOf #[] X.e) :: a :: b :: (X.l, listOf ys.toArray ep) :: X.k)) : News h₀ L h (lexOwn w X n tn ys ep ++ [a, b]) := by
  rw [lexOwn, List.append_assoc]
  refine news_sub N fun p hp => ?_
  show p ∈ ([(X.x, instObj 66 X.dx), (X.dx, lexDict w X n tn), (X.pb, listOf #[] X.e)] ++ [a, b]) ++ ((X.l, listOf ys.toArray ep) :: X.k)
  rw [List.mem_append] at hp ⊢
  exact hp.symm
end
section
set_option maxRecDepth 100000
/-- the plain words of cells -/
abbrev isQ (c : Nat × Bool) : Bool := decide (c = (34, true))
abbrev inW (c : Nat × Bool) : Bool := !c.2 || c.1 == 34
def wordsF : Nat → List (Nat × Bool) → List (List Nat)
  | 0, _ => []
  | _ + 1, [] => []
  | n + 1, c :: r => if c = (34, true) then ((r.takeWhile fun d => !isQ d).map (·.1)) :: wordsF n ((r.dropWhile fun d => !isQ d).drop 1)
    else if c.2 = true then wordsF n r else ((c :: r.takeWhile inW).map (·.1)) :: wordsF n (r.dropWhile inW)
theorem dropW_len {α : Type} (p : α → Bool) (r : List α) {n : Nat} (h : r.length ≤ n) : (r.dropWhile p).length ≤ n := Nat.le_trans (List.dropWhile_sublist p).length_le h
theorem wordsF_fuel : ∀ (n m : Nat) (cs : List (Nat × Bool)), cs.length ≤ n → cs.length ≤ m → wordsF n cs = wordsF m cs := by
  intro n
  induction n with
  | zero =>
    intro m cs h _
    obtain rfl := List.length_eq_zero_iff.mp (Nat.le_zero.mp h)
    cases m <;> rfl
  | succ n ih =>
    intro m cs h1 h2
    cases cs with
    | nil => cases m <;> rfl
    | cons c r =>
      cases m with
      | zero => exact absurd h2 (Nat.not_succ_le_zero _)
      | succ m =>
        have h1 := Nat.le_of_succ_le_succ h1
        have h2 := Nat.le_of_succ_le_succ h2
        have hd : ∀ {k : Nat}, r.length ≤ k → ((r.dropWhile fun d => !isQ d).drop 1).length ≤ k := fun h => by
          rw [List.length_drop]
          exact Nat.le_trans (Nat.sub_le _ _) (dropW_len _ r h)
        rw [wordsF, wordsF, ih m _ h1 h2, ih m _ (hd h1) (hd h2), ih m _ (dropW_len _ r h1) (dropW_len _ r h2)]
def wordsOf (cs : List (Nat × Bool)) : List (List Nat) := wordsF cs.length cs
theorem wordsF_of {n : Nat} {cs : List (Nat × Bool)} (h : cs.length ≤ n) : wordsF n cs = wordsOf cs := wordsF_fuel _ _ _ h (Nat.le_refl _)
theorem wordsOf_nil : wordsOf [] = [] := rfl
theorem wordsOf_q (r : List (Nat × Bool)) : wordsOf ((34, true) :: r) = ((r.takeWhile fun d => !isQ d).map (·.1)) :: wordsOf ((r.dropWhile fun d => !isQ d).drop 1) := by
  rw [← wordsF_of (n := r.length) (cs := (r.dropWhile fun d => !isQ d).drop 1) (by rw [List.length_drop]; exact Nat.le_trans (Nat.sub_le _ _) (dropW_len _ r (Nat.le_refl _)))]
  show wordsF (r.length + 1) ((34, true) :: r) = _
  rw [wordsF, if_pos rfl]
theorem wordsOf_w {c : Nat × Bool} (h1 : ¬ c = (34, true)) (h2 : c.2 = true) (r : List (Nat × Bool)) : wordsOf (c :: r) = wordsOf r := by
  show wordsF (r.length + 1) (c :: r) = wordsF r.length r
  rw [wordsF, if_neg h1, if_pos h2]
theorem wordsOf_p {c : Nat × Bool} (h2 : ¬ c.2 = true) (r : List (Nat × Bool)) : wordsOf (c :: r) = ((c :: r.takeWhile inW).map (·.1)) :: wordsOf (r.dropWhile inW) := by
  rw [← wordsF_of (n := r.length) (cs := r.dropWhile inW) (dropW_len _ r (Nat.le_refl _))]
  show wordsF (r.length + 1) (c :: r) = _
  rw [wordsF, if_neg (by rintro rfl; exact h2 rfl), if_neg h2]
theorem live_ws (c : Nat) : live c = (isWs c || c == 34) := by
  simp only [live, isWs, List.contains_cons, List.contains_nil, Bool.or_false]
  cases c == 32 <;> cases c == 9 <;> cases c == 10 <;> cases c == 13 <;> rfl
theorem tokQ_cells : ∀ (n : Nat) (acc t : List Nat), t.length ≤ n → (tokQ acc t).1 = acc ++ ((cellsOf t).takeWhile fun d => !isQ d).map (·.1) ∧ cellsOf (tokQ acc t).2 = ((cellsOf t).dropWhile fun d => !isQ d).drop 1 := by
  intro n
  induction n with
  | zero =>
    intro acc t h
    have : t = [] := List.length_eq_zero_iff.mp (by omega)
    subst this
    simp [tokQ, cellsOf]
  | succ n ih =>
    intro acc t h
    cases t with
    | nil => simp [tokQ, cellsOf]
    | cons c t =>
      simp only [List.length_cons] at h
      by_cases h34 : c = 34
      · subst h34
        rw [tokQ_q, cellsOf_plain (by decide)]
        have : live 34 = true := by decide
        simp [this]
      · by_cases h92 : c = 92
        · subst h92
          cases t with
          | nil => rw [tokQ_b0, cellsOf_end]; simp [cellsOf]
          | cons d t =>
            simp only [List.length_cons] at h
            rw [tokQ_b, cellsOf_esc]
            have := ih (acc ++ [d]) t (by omega)
            rw [this.1, this.2]
            simp
        · rw [tokQ_c _ _ h34 h92, cellsOf_plain h92]
          have := ih (acc ++ [c]) t (by omega)
          rw [this.1, this.2]
          simp [h34]
theorem tokP_cells : ∀ (n : Nat) (acc t : List Nat), t.length ≤ n → (tokP acc t).1 = acc ++ ((cellsOf t).takeWhile inW).map (·.1) ∧ wordsOf (cellsOf (tokP acc t).2) = wordsOf ((cellsOf t).dropWhile inW) := by
  intro n
  induction n with
  | zero =>
    intro acc t h
    have : t = [] := List.length_eq_zero_iff.mp (by omega)
    subst this
    simp [tokP, cellsOf]
  | succ n ih =>
    intro acc t h
    cases t with
    | nil => simp [tokP, cellsOf]
    | cons c t =>
      simp only [List.length_cons] at h
      by_cases hw : isWs c = true
      · have h92 : ¬ c = 92 := by rintro rfl; exact absurd hw (by decide)
        have h34 : ¬ c = 34 := by rintro rfl; exact absurd hw (by decide)
        have hl : live c = true := by rw [live_ws, hw]; rfl
        rw [tokP_w _ _ hw, cellsOf_plain h92]
        have hi : inW (c, live c) = false := by simp [inW, hl, h34]
        rw [List.takeWhile_cons_of_neg (by simp [hi]), List.dropWhile_cons_of_neg (by simp [hi]), wordsOf_w (by simp [h34]) hl]
        simp
      · by_cases h92 : c = 92
        · subst h92
          cases t with
          | nil => rw [tokP_b0, cellsOf_end]; simp [cellsOf]
          | cons d t =>
            simp only [List.length_cons] at h
            rw [tokP_b, cellsOf_esc]
            have := ih (acc ++ [d]) t (by omega)
            rw [this.1, this.2]
            simp
        · rw [tokP_c _ _ (by simpa using hw) h92, cellsOf_plain h92]
          have := ih (acc ++ [c]) t (by omega)
          have hi : inW (c, live c) = true := by
            rw [live_ws]
            simp only [Bool.not_eq_true] at hw
            simp [inW, hw]
          rw [this.1, this.2, List.takeWhile_cons_of_pos hi, List.dropWhile_cons_of_pos hi]
          simp
theorem tok_words : ∀ t : List Nat, (wordsOf (cellsOf t) = [] ∧ (tok t).1 = [] ∧ wordsOf (cellsOf (tok t).2) = []) ∨ wordsOf (cellsOf t) = (tok t).1 :: wordsOf (cellsOf (tok t).2) := by
  intro t
  induction t with
  | nil => left; simp [tok, cellsOf, wordsOf_nil]
  | cons c t ih =>
    by_cases hw : isWs c = true
    · have h92 : ¬ c = 92 := by rintro rfl; exact absurd hw (by decide)
      have h34 : ¬ c = 34 := by rintro rfl; exact absurd hw (by decide)
      have hl : live c = true := by rw [live_ws, hw]; rfl
      rw [tok_w hw, cellsOf_plain h92, wordsOf_w (by simp [h34]) hl]
      exact ih
    · by_cases h34 : c = 34
      · subst h34
        right
        rw [tok_q, cellsOf_plain (by decide)]
        have hl : live 34 = true := by decide
        have := tokQ_cells t.length [] t (Nat.le_refl _)
        rw [hl, wordsOf_q, this.1, this.2]
        simp
      · by_cases h92 : c = 92
        · subst h92
          cases t with
          | nil => left; rw [tok_b0, cellsOf_end]; simp [cellsOf, wordsOf_nil]
          | cons d t =>
            right
            have := tokP_cells t.length [d] t (Nat.le_refl _)
            rw [tok_b, cellsOf_esc, wordsOf_p (by simp), this.1, this.2]
            simp
        · right
          have := tokP_cells t.length [c] t (Nat.le_refl _)
          have hl : live c = false := by
            rw [live_ws]
            simp only [Bool.not_eq_true] at hw
            simp [hw, h34]
          rw [tok_c t hw h34 h92, cellsOf_plain h92, wordsOf_p (by simp [hl]), this.1, this.2]
          simp
/-- the first n words of the lexer -/
def toks : Nat → List Nat → List (List Nat)
  | 0, _ => []
  | n + 1, t => (tok t).1 :: toks n (tok t).2
theorem toks_words : ∀ (n : Nat) (t : List Nat), toks n t = (wordsOf (cellsOf t) ++ List.replicate n []).take n := by
  intro n
  induction n with
  | zero => intro t; simp [toks]
  | succ n ih =>
    intro t
    rw [toks, ih]
    rcases tok_words t with ⟨h1, h2, h3⟩ | h
    · rw [h1, h2, h3]
      simp [List.replicate_succ]
    · rw [h]
      simp only [List.cons_append, List.take_succ_cons, List.cons.injEq, true_and]
      rw [List.take_append, List.take_append]
      congr 1
      rw [List.take_replicate, List.take_replicate]
      congr 1
      omega
theorem toks_first (t : List Nat) : toks (wordsOf (cellsOf t)).length t = wordsOf (cellsOf t) := by
  rw [toks_words, List.take_append_of_le_length (Nat.le_refl _), List.take_length]
theorem toks_due (t : List Nat) : toks ((wordsOf (cellsOf t)).length + 2) t = wordsOf (cellsOf t) ++ [[], []] := by
  rw [toks_words, List.take_append, List.take_of_length_le (by omega)]
  congr 1
  rw [List.take_replicate, show (wordsOf (cellsOf t)).length + 2 - (wordsOf (cellsOf t)).length = 2 by omega, Nat.min_eq_left (by omega)]
  rfl
end
section
set_option maxRecDepth 100000
/-- a row: no star behind a star -/
def rowStep (row : List (List Nat)) (w : List Nat) : List (List Nat) := if w = [42] ∧ row.getLast? = some [42] then row else row ++ [w]
def rowOf (ws : List (List Nat)) : List (List Nat) := ws.foldl rowStep []
def NoAdj (row : List (List Nat)) : Prop := ∀ i : Nat, row[i]? = some [42] → row[i + 1]? ≠ some [42]
theorem noAdj_step {row : List (List Nat)} (h : NoAdj row) (w : List Nat) : NoAdj (rowStep row w) := by
  unfold rowStep
  split
  · exact h
  · rename_i hw
    intro i h1 h2
    by_cases hi : i + 1 < row.length
    · rw [List.getElem?_append_left (by omega)] at h1
      rw [List.getElem?_append_left hi] at h2
      exact h i h1 h2
    · by_cases hi2 : i + 1 = row.length
      · rw [List.getElem?_append_right (by omega), hi2] at h2
        simp at h2
        rw [List.getElem?_append_left (by omega)] at h1
        refine hw ⟨h2, ?_⟩
        rw [List.getLast?_eq_getElem?, ← hi2]
        exact h1
      · rw [List.getElem?_append_right (by omega)] at h2
        have : (i + 1 - row.length) = (i - row.length) + 1 := by omega
        rw [this] at h2
        simp at h2
theorem noAdj_foldl : ∀ (ws row : List (List Nat)), NoAdj row → NoAdj (ws.foldl rowStep row) := by
  intro ws
  induction ws with
  | nil => intro row h; exact h
  | cons w ws ih => intro row h; exact ih _ (noAdj_step h w)
theorem noAdj_row (ws : List (List Nat)) : NoAdj (rowOf ws) := noAdj_foldl ws [] (fun i h => by simp at h)
theorem noAdj_tail {w : List Nat} {r : List (List Nat)} (h : NoAdj (w :: r)) : NoAdj r := fun i h1 h2 => h (i + 1) (by simpa using h1) (by simpa using h2)
theorem noAdj_drop {row : List (List Nat)} (h : NoAdj row) (n : Nat) : NoAdj (row.drop n) := fun i h1 h2 => h (n + i) (by rwa [List.getElem?_drop] at h1) (by rw [List.getElem?_drop] at h2; rwa [Nat.add_assoc])
theorem row_mem : ∀ (ws row : List (List Nat)) (x : List Nat), x ∈ ws.foldl rowStep row → x ∈ row ∨ x ∈ ws := by
  intro ws
  induction ws with
  | nil => intro row x h; exact .inl h
  | cons w ws ih =>
    intro row x h
    rcases ih _ x h with h | h
    · unfold rowStep at h
      split at h
      · exact .inl h
      · rcases List.mem_append.mp h with h | h
        · exact .inl h
        · rw [List.mem_singleton] at h
          subst h
          exact .inr (.head _)
    · exact .inr (.tail _ h)
theorem row_len : ∀ (ws row : List (List Nat)), (ws.foldl rowStep row).length ≤ row.length + ws.length := by
  intro ws
  induction ws with
  | nil => intro row; exact Nat.le_refl _
  | cons w ws ih =>
    intro row
    have := ih (rowStep row w)
    have h2 : (rowStep row w).length ≤ row.length + 1 := by
      unfold rowStep
      split
      · omega
      · simp
    simp only [List.foldl_cons, List.length_cons]
    omega
/-- the text of a row, as the law has it -/
abbrev isSt (w : List Nat) : Bool := decide (w = [42])
def lawT : Bool → List (List Nat) → List Nat
  | _, [] => []
  | seen, w :: r => if w = [42] then ((if seen then [41] else []) ++ (if r.contains [42] then [40, 63, 62, 46, 42, 63] else [46, 42])) ++ lawT true r else w ++ lawT seen r
/-- as _join_translated_parts has it, from a star on -/
def starsF : Nat → List (List Nat) → List Nat
  | 0, _ => []
  | _ + 1, [] => []
  | n + 1, _ :: r => if r.dropWhile (fun w => !isSt w) = [] then [46, 42] ++ (r.takeWhile fun w => !isSt w).flatten else [40, 63, 62, 46, 42, 63] ++ (r.takeWhile fun w => !isSt w).flatten ++ [41] ++ starsF n (r.dropWhile fun w => !isSt w)
theorem starsF_fuel : ∀ (n m : Nat) (row : List (List Nat)), row.length ≤ n → row.length ≤ m → starsF n row = starsF m row := by
  intro n
  induction n with
  | zero =>
    intro m row h _
    obtain rfl := List.length_eq_zero_iff.mp (Nat.le_zero.mp h)
    cases m <;> rfl
  | succ n ih =>
    intro m row h1 h2
    cases row with
    | nil => cases m <;> rfl
    | cons c r =>
      cases m with
      | zero => exact absurd h2 (Nat.not_succ_le_zero _)
      | succ m => rw [starsF, starsF, ih m _ (dropW_len _ r (Nat.le_of_succ_le_succ h1)) (dropW_len _ r (Nat.le_of_succ_le_succ h2))]
def starsT (row : List (List Nat)) : List Nat := starsF row.length row
theorem starsT_nil : starsT [] = [] := rfl
theorem starsT_cons (x : List Nat) (r : List (List Nat)) : starsT (x :: r) = if r.dropWhile (fun w => !isSt w) = [] then [46, 42] ++ (r.takeWhile fun w => !isSt w).flatten else [40, 63, 62, 46, 42, 63] ++ (r.takeWhile fun w => !isSt w).flatten ++ [41] ++ starsT (r.dropWhile fun w => !isSt w) := by
  show starsF (r.length + 1) (x :: r) = _
  rw [starsF, starsF_fuel r.length (r.dropWhile fun w => !isSt w).length _ (dropW_len _ r (Nat.le_refl _)) (Nat.le_refl _)]
  rfl
def joinT (row : List (List Nat)) : List Nat := [40, 63, 115, 58] ++ ((row.takeWhile fun w => !isSt w).flatten ++ starsT (row.dropWhile fun w => !isSt w)) ++ [41, 92, 90]
def lawJ (row : List (List Nat)) : List Nat := [40, 63, 115, 58] ++ lawT false row ++ [41, 92, 90]
theorem lawT_split : ∀ (s : Bool) (r : List (List Nat)), lawT s r = (r.takeWhile fun w => !isSt w).flatten ++ lawT s (r.dropWhile fun w => !isSt w) := by
  intro s r
  induction r with
  | nil => simp
  | cons w r ih =>
    by_cases h : w = [42]
    · simp [h]
    · rw [lawT, if_neg h, List.takeWhile_cons_of_pos (by simp [h]), List.dropWhile_cons_of_pos (by simp [h]), ih]
      simp
theorem contains_dropWhile (r : List (List Nat)) : r.contains [42] = !(decide (r.dropWhile (fun w => !isSt w) = [])) := by
  induction r with
  | nil => rfl
  | cons w r ih =>
    by_cases h : w = [42]
    · subst h; simp
    · rw [List.dropWhile_cons_of_pos (by simp [h]), ← ih]
      simp only [List.contains_cons, Bool.or_eq_right_iff_imp, beq_iff_eq]
      intro e
      exact absurd e.symm h
theorem dropWhile_head (r : List (List Nat)) {w : List Nat} {r' : List (List Nat)} (h : r.dropWhile (fun w => !isSt w) = w :: r') : w = [42] := by
  induction r with
  | nil => cases h
  | cons x r ih =>
    by_cases hx : x = [42]
    · rw [List.dropWhile_cons_of_neg (by simp [hx])] at h
      cases h
      exact hx
    · rw [List.dropWhile_cons_of_pos (by simp [hx])] at h
      exact ih h
theorem lawT_stars : ∀ (n : Nat) (s : Bool) (r : List (List Nat)), r.length ≤ n → lawT s ([42] :: r) = (if s then [41] else []) ++ starsT ([42] :: r) := by
  intro n
  induction n with
  | zero =>
    intro s r h
    have : r = [] := List.length_eq_zero_iff.mp (by omega)
    subst this
    cases s <;> simp [lawT, starsT_cons, starsT_nil]
  | succ n ih =>
    intro s r h
    rw [lawT, if_pos rfl, starsT_cons, lawT_split true r, contains_dropWhile]
    by_cases hd : r.dropWhile (fun w => !isSt w) = []
    · rw [hd]
      cases s <;> simp [lawT]
    · obtain ⟨w, r', e⟩ : ∃ w r', r.dropWhile (fun w => !isSt w) = w :: r' := by
        cases q : r.dropWhile (fun w => !isSt w) with
        | nil => exact absurd q hd
        | cons w r' => exact ⟨w, r', rfl⟩
      have hw := dropWhile_head r e
      subst hw
      rw [e]
      have hl : r'.length ≤ n := by
        have := (List.dropWhile_sublist (fun w => !isSt w) (l := r)).length_le
        rw [e] at this
        simp only [List.length_cons] at this
        omega
      rw [ih true r' hl]
      cases s <;> simp
theorem join_law (row : List (List Nat)) : joinT row = lawJ row := by
  unfold joinT lawJ
  rw [lawT_split false row]
  cases e : row.dropWhile (fun w => !isSt w) with
  | nil => simp [lawT, starsT_nil]
  | cons w r =>
    have := dropWhile_head row e
    subst this
    rw [lawT_stars r.length false r (Nat.le_refl _)]
    simp
/-- the stars' places -/
def starsOf (row : List (List Nat)) : List Nat := (List.range row.length).filter fun i => row[i]? == some [42]
theorem mem_starsOf {row : List (List Nat)} {i : Nat} : i ∈ starsOf row ↔ row[i]? = some [42] := by
  unfold starsOf
  rw [List.mem_filter, List.mem_range]
  constructor
  · intro h; simpa using h.2
  · intro h; exact ⟨(List.getElem?_eq_some_iff.mp h).1, by simp [h]⟩
theorem sorted_starsOf (row : List (List Nat)) : (starsOf row).Pairwise (· < ·) := List.Pairwise.filter _ List.pairwise_lt_range
theorem first_star {row : List (List Nat)} {i f : Nat} (hf : (starsOf row).head? = some f) : decide (f < i) = (row.take i).contains [42] := by
  rw [Bool.eq_iff_iff, decide_eq_true_iff, List.contains_iff_mem]
  have hfm : f ∈ starsOf row := List.mem_of_head? hf
  constructor
  · intro h
    refine List.mem_of_getElem? (i := f) ?_
    rw [List.getElem?_take_of_lt h]
    exact mem_starsOf.mp hfm
  · intro h
    obtain ⟨j, hj⟩ := List.mem_iff_getElem?.mp h
    rw [List.getElem?_take] at hj
    split at hj
    · rename_i hji
      have hm := mem_starsOf.mpr hj
      have hs := sorted_starsOf row
      cases q : starsOf row with
      | nil => rw [q] at hm; cases hm
      | cons a l =>
        rw [q] at hm hs hf
        cases hf
        rcases List.mem_cons.mp hm with rfl | hm
        · exact hji
        · exact Nat.lt_trans (List.rel_of_pairwise_cons hs hm) hji
    · cases hj
theorem last_star {row : List (List Nat)} {i g : Nat} (hg : (starsOf row).getLast? = some g) : decide (i < g) = (row.drop (i + 1)).contains [42] := by
  rw [Bool.eq_iff_iff, decide_eq_true_iff, List.contains_iff_mem]
  have hgm : g ∈ starsOf row := List.mem_of_getLast? hg
  constructor
  · intro h
    refine List.mem_of_getElem? (i := g - (i + 1)) ?_
    rw [List.getElem?_drop, show i + 1 + (g - (i + 1)) = g by omega]
    exact mem_starsOf.mp hgm
  · intro h
    obtain ⟨j, hj⟩ := List.mem_iff_getElem?.mp h
    rw [List.getElem?_drop] at hj
    have hm := mem_starsOf.mpr hj
    have hs := sorted_starsOf row
    obtain ⟨l, hl⟩ := List.getLast?_eq_some_iff.mp hg
    rw [hl] at hm hs
    rcases List.mem_append.mp hm with hm | hm
    · have := (List.pairwise_append.mp hs).2.2 _ hm g (.head _)
      omega
    · have := List.mem_singleton.mp hm
      omega
theorem lawT_at {row : List (List Nat)} {i : Nat} {w : List Nat} (s : Bool) (hw : row[i]? = some w) : lawT s (row.drop i) = (if w = [42] then ((if s then [41] else []) ++ (if (row.drop (i + 1)).contains [42] then [40, 63, 62, 46, 42, 63] else [46, 42])) ++ lawT true (row.drop (i + 1)) else w ++ lawT s (row.drop (i + 1))) := by
  obtain ⟨hk, e⟩ := List.getElem?_eq_some_iff.mp hw
  rw [List.drop_eq_getElem_cons hk, e, lawT]
theorem take_contains {row : List (List Nat)} {i : Nat} {w : List Nat} (hw : row[i]? = some w) : (row.take (i + 1)).contains [42] = ((row.take i).contains [42] || decide (w = [42])) := by
  rw [List.take_add_one, hw]
  simp only [Option.toList_some, List.contains_eq_any_beq, List.any_append]
  congr 1
  by_cases h : w = [42]
  · subst h; rfl
  · have : ([42] == w) = false := by simpa using Ne.symm h
    simp [this, h]
end
section
set_option maxRecDepth 100000
/-- what is left behind n words -/
def restOf : Nat → List Nat → List Nat
  | 0, t => t
  | n + 1, t => restOf n (tok t).2
theorem restOf_succ : ∀ (n : Nat) (t : List Nat), restOf (n + 1) t = (tok (restOf n t)).2 := by
  intro n
  induction n with
  | zero => intro t; rfl
  | succ n ih => intro t; rw [restOf, ih, restOf]
theorem toks_succ : ∀ (n : Nat) (t : List Nat), toks (n + 1) t = toks n t ++ [(tok (restOf n t)).1] := by
  intro n
  induction n with
  | zero => intro t; rfl
  | succ n ih => intro t; rw [toks, ih, toks, restOf]; rfl
theorem tokQ_suf : ∀ (n : Nat) (acc t : List Nat), t.length ≤ n → (tokQ acc t).2 <:+ t := by
  intro n
  induction n with
  | zero =>
    intro acc t h
    have : t = [] := List.length_eq_zero_iff.mp (by omega)
    subst this
    simp [tokQ]
  | succ n ih =>
    intro acc t h
    cases t with
    | nil => simp [tokQ]
    | cons c t =>
      simp only [List.length_cons] at h
      by_cases h34 : c = 34
      · subst h34
        rw [tokQ_q]
        exact List.suffix_cons _ _
      · by_cases h92 : c = 92
        · subst h92
          cases t with
          | nil => rw [tokQ_b0]; exact List.nil_suffix
          | cons d t =>
            simp only [List.length_cons] at h
            rw [tokQ_b]
            exact ((ih _ t (by omega)).trans (List.suffix_cons _ _)).trans (List.suffix_cons _ _)
        · rw [tokQ_c _ _ h34 h92]
          exact (ih _ t (by omega)).trans (List.suffix_cons _ _)
theorem tokP_suf : ∀ (n : Nat) (acc t : List Nat), t.length ≤ n → (tokP acc t).2 <:+ t := by
  intro n
  induction n with
  | zero =>
    intro acc t h
    have : t = [] := List.length_eq_zero_iff.mp (by omega)
    subst this
    simp [tokP]
  | succ n ih =>
    intro acc t h
    cases t with
    | nil => simp [tokP]
    | cons c t =>
      simp only [List.length_cons] at h
      by_cases hw : isWs c = true
      · rw [tokP_w _ _ hw]
        exact List.suffix_cons _ _
      · by_cases h92 : c = 92
        · subst h92
          cases t with
          | nil => rw [tokP_b0]; exact List.nil_suffix
          | cons d t =>
            simp only [List.length_cons] at h
            rw [tokP_b]
            exact ((ih _ t (by omega)).trans (List.suffix_cons _ _)).trans (List.suffix_cons _ _)
        · rw [tokP_c _ _ (by simpa using hw) h92]
          exact (ih _ t (by omega)).trans (List.suffix_cons _ _)
theorem tok_suf : ∀ t : List Nat, (tok t).2 <:+ t := by
  intro t
  induction t with
  | nil => simp [tok]
  | cons c t ih =>
    by_cases hw : isWs c = true
    · rw [tok_w hw]
      exact ih.trans (List.suffix_cons _ _)
    · by_cases h34 : c = 34
      · subst h34
        rw [tok_q]
        exact (tokQ_suf _ _ _ (Nat.le_refl _)).trans (List.suffix_cons _ _)
      · by_cases h92 : c = 92
        · subst h92
          cases t with
          | nil => rw [tok_b0]; exact List.nil_suffix
          | cons d t =>
            rw [tok_b]
            exact ((tokP_suf _ _ _ (Nat.le_refl _)).trans (List.suffix_cons _ _)).trans (List.suffix_cons _ _)
        · rw [tok_c t hw h34 h92]
          exact (tokP_suf _ _ _ (Nat.le_refl _)).trans (List.suffix_cons _ _)
theorem restOf_suf : ∀ (n : Nat) (t : List Nat), restOf n t <:+ t := by
  intro n
  induction n with
  | zero => intro t; exact List.suffix_refl _
  | succ n ih => intro t; rw [restOf_succ]; exact (tok_suf _).trans (ih t)
theorem restOf_asc {t : List Nat} (h : Asc t) (n : Nat) : Asc (restOf n t) := fun c hc => h c ((restOf_suf n t).subset hc)
/-- sizes -/
def wt (ws : List (List Nat)) : Nat := (ws.map fun w => w.length + 7).sum
theorem wt_cons (w : List Nat) (ws : List (List Nat)) : wt (w :: ws) = w.length + 7 + wt ws := by simp [wt]
theorem wt_append (a b : List (List Nat)) : wt (a ++ b) = wt a + wt b := by simp [wt]
theorem wt_words : ∀ (n : Nat) (cs : List (Nat × Bool)), cs.length ≤ n → wt (wordsOf cs) ≤ 8 * cs.length := by
  intro n
  induction n with
  | zero =>
    intro cs h
    have : cs = [] := List.length_eq_zero_iff.mp (by omega)
    subst this
    simp [wordsOf_nil, wt]
  | succ n ih =>
    intro cs h
    cases cs with
    | nil => simp [wordsOf_nil, wt]
    | cons c r =>
      simp only [List.length_cons] at h
      by_cases h1 : c = (34, true)
      · subst h1
        rw [wordsOf_q, wt_cons]
        have hl : (r.takeWhile fun d => !isQ d).length + (r.dropWhile fun d => !isQ d).length = r.length := by
          rw [← List.length_append, List.takeWhile_append_dropWhile]
        have hd : ((r.dropWhile fun d => !isQ d).drop 1).length ≤ (r.dropWhile fun d => !isQ d).length := by simp
        have := ih ((r.dropWhile fun d => !isQ d).drop 1) (by omega)
        simp only [List.length_map, List.length_cons]
        omega
      · by_cases h2 : c.2 = true
        · rw [wordsOf_w h1 h2]
          have := ih r (by omega)
          simp only [List.length_cons]
          omega
        · rw [wordsOf_p h2, wt_cons]
          have hl : (r.takeWhile inW).length + (r.dropWhile inW).length = r.length := by
            rw [← List.length_append, List.takeWhile_append_dropWhile]
          have := ih (r.dropWhile inW) (by omega)
          simp only [List.length_map, List.length_cons]
          omega
theorem cells_len : ∀ (n : Nat) (t : List Nat), t.length ≤ n → (cellsOf t).length ≤ t.length := by
  intro n
  induction n with
  | zero =>
    intro t h
    have : t = [] := List.length_eq_zero_iff.mp (by omega)
    subst this
    simp [cellsOf]
  | succ n ih =>
    intro t h
    cases t with
    | nil => simp [cellsOf]
    | cons c t =>
      simp only [List.length_cons] at h
      by_cases h92 : c = 92
      · subst h92
        cases t with
        | nil => rw [cellsOf_end]; simp
        | cons d t =>
          simp only [List.length_cons] at h
          rw [cellsOf_esc]
          have := ih t (by omega)
          simp only [List.length_cons]
          omega
      · rw [cellsOf_plain h92]
        have := ih t (by omega)
        simp only [List.length_cons]
        omega
theorem wt_row : ∀ (ws row : List (List Nat)), wt (ws.foldl rowStep row) ≤ wt row + wt ws := by
  intro ws
  induction ws with
  | nil => intro row; simp [wt]
  | cons w ws ih =>
    intro row
    have := ih (rowStep row w)
    have h2 : wt (rowStep row w) ≤ wt row + (w.length + 7) := by
      unfold rowStep
      split
      · omega
      · rw [wt_append, wt_cons]; simp [wt]
    rw [wt_cons]
    simp only [List.foldl_cons]
    omega
theorem lawT_len : ∀ (s : Bool) (r : List (List Nat)), (lawT s r).length ≤ wt r := by
  intro s r
  induction r generalizing s with
  | nil => simp [lawT, wt]
  | cons w r ih =>
    rw [lawT, wt_cons]
    split
    · have := ih true
      have h1 : (if s = true then [41] else ([] : List Nat)).length ≤ 1 := by cases s <;> simp
      have h2 : (if r.contains [42] = true then [40, 63, 62, 46, 42, 63] else ([46, 42] : List Nat)).length ≤ 6 := by
        by_cases q : r.contains [42] = true
        · rw [if_pos q]; exact Nat.le_refl _
        · rw [if_neg q]; decide
      simp only [List.length_append]
      omega
    · have := ih s
      simp only [List.length_append]
      omega
theorem lawJ_len (t : List Nat) : (lawJ (rowOf (wordsOf (cellsOf t)))).length ≤ 8 * t.length + 7 := by
  unfold lawJ rowOf
  have h1 := lawT_len false ((wordsOf (cellsOf t)).foldl rowStep [])
  have h2 := wt_row (wordsOf (cellsOf t)) []
  have h3 := wt_words _ (cellsOf t) (Nat.le_refl _)
  have h4 := cells_len _ t (Nat.le_refl _)
  have h5 : wt [] = 0 := rfl
  simp only [List.length_append, List.length_cons, List.length_nil]
  omega
theorem wt_len (ws : List (List Nat)) : 7 * ws.length ≤ wt ws := by
  induction ws with
  | nil => simp [wt]
  | cons w ws ih => rw [wt_cons]; simp only [List.length_cons]; omega
theorem wt_mem {ws : List (List Nat)} {w : List Nat} (h : w ∈ ws) : w.length ≤ wt ws := by
  induction ws with
  | nil => cases h
  | cons x ws ih =>
    rw [wt_cons]
    rcases List.mem_cons.mp h with rfl | h
    · omega
    · have := ih h; omega
/-- signs -/
theorem cells_asc : ∀ (n : Nat) (t : List Nat), t.length ≤ n → Asc t → ∀ c ∈ cellsOf t, c.1 < 128 := by
  intro n
  induction n with
  | zero =>
    intro t h ha
    have : t = [] := List.length_eq_zero_iff.mp (by omega)
    subst this
    simp [cellsOf]
  | succ n ih =>
    intro t h ha
    cases t with
    | nil => simp [cellsOf]
    | cons c t =>
      simp only [List.length_cons] at h
      by_cases h92 : c = 92
      · subst h92
        cases t with
        | nil => rw [cellsOf_end]; simp
        | cons d t =>
          simp only [List.length_cons] at h
          rw [cellsOf_esc]
          intro x hx
          rcases List.mem_cons.mp hx with rfl | hx
          · exact ha d (by simp)
          · exact ih t (by omega) (fun c hc => ha c (by simp [hc])) x hx
      · rw [cellsOf_plain h92]
        intro x hx
        rcases List.mem_cons.mp hx with rfl | hx
        · exact ha c (by simp)
        · exact ih t (by omega) (fun c hc => ha c (by simp [hc])) x hx
theorem words_asc : ∀ (n : Nat) (cs : List (Nat × Bool)), cs.length ≤ n → (∀ c ∈ cs, c.1 < 128) → ∀ x ∈ wordsOf cs, Asc x := by
  intro n
  induction n with
  | zero =>
    intro cs h ha
    have : cs = [] := List.length_eq_zero_iff.mp (by omega)
    subst this
    simp [wordsOf_nil]
  | succ n ih =>
    intro cs h ha
    cases cs with
    | nil => simp [wordsOf_nil]
    | cons c r =>
      simp only [List.length_cons] at h
      have har : ∀ c ∈ r, c.1 < 128 := fun c hc => ha c (.tail _ hc)
      by_cases h1 : c = (34, true)
      · subst h1
        rw [wordsOf_q]
        intro x hx
        rcases List.mem_cons.mp hx with rfl | hx
        · intro y hy
          obtain ⟨d, hd, rfl⟩ := List.mem_map.mp hy
          exact har d ((List.takeWhile_sublist _).subset hd)
        · refine ih _ ?_ (fun c hc => har c ((List.dropWhile_sublist _).subset (List.mem_of_mem_drop hc))) x hx
          have := (List.dropWhile_sublist (fun d => !isQ d) (l := r)).length_le
          simp only [List.length_drop]
          omega
      · by_cases h2 : c.2 = true
        · rw [wordsOf_w h1 h2]
          exact ih r (by omega) har
        · rw [wordsOf_p h2]
          intro x hx
          rcases List.mem_cons.mp hx with rfl | hx
          · intro y hy
            obtain ⟨d, hd, rfl⟩ := List.mem_map.mp hy
            rcases List.mem_cons.mp hd with rfl | hd
            · exact ha d (.head _)
            · exact har d ((List.takeWhile_sublist _).subset hd)
          · refine ih _ ?_ (fun c hc => har c ((List.dropWhile_sublist _).subset hc)) x hx
            have := (List.dropWhile_sublist inW (l := r)).length_le
            omega
theorem lawT_asc : ∀ (s : Bool) (r : List (List Nat)), (∀ x ∈ r, Asc x) → Asc (lawT s r) := by
  intro s r
  induction r generalizing s with
  | nil => intro _ c hc; cases hc
  | cons w r ih =>
    intro h c hc
    rw [lawT] at hc
    have hr : ∀ x ∈ r, Asc x := fun x hx => h x (.tail _ hx)
    split at hc
    · rcases List.mem_append.mp hc with hc | hc
      · rcases List.mem_append.mp hc with hc | hc
        · split at hc <;> simp at hc; omega
        · split at hc <;> simp at hc <;> omega
      · exact ih true hr c hc
    · rcases List.mem_append.mp hc with hc | hc
      · exact h w (.head _) c hc
      · exact ih s hr c hc
theorem lawJ_asc {row : List (List Nat)} (h : ∀ x ∈ row, Asc x) : Asc (lawJ row) := by
  intro c hc
  unfold lawJ at hc
  rcases List.mem_append.mp hc with hc | hc
  · rcases List.mem_append.mp hc with hc | hc
    · simp at hc; omega
    · exact lawT_asc _ _ h c hc
  · simp at hc; omega
end
section
open PySem PySem.W PyProof.Rows
set_option maxRecDepth 100000
set_option maxHeartbeats 1000000
theorem name_compC {M : Model} {A : Around} {E : Value → Shared → Prop} {s : Shared} {env : Env} {h₀ : Heap} {L : Addr} {news : List (Addr × Obj)} {scope : Scope} {cl : List (Str × Addr)} {C c : Addr} {x : Str} {px : Pos} {v : Value} {o : Obj} {Q : Value → Shared → Prop}
    (N : News h₀ L s.heap news) (hc : cl.lookup x = some c) (hm : (c, o) ∈ news) (hd : o.data = .cell (some v))
    (hx : (compEnvC scope cl C env).kindOf x = some .cell) (hk : scope.kind = .function) (hb : (x == ("__debug__" : Str)) = false)
    (h : Q v s) : wpAny M A (eval (.Name x px) (compEnvC scope cl C env)) Q E s :=
  wpAny_Name (wpAny_loadName_cell (by exact hk) hx hc ⟨o, N.get hm, hd⟩ h) hb
theorem clos1 {scope : Scope} {env : Env} {x : Str} {c : Addr} {a b : Str × NameKind} (hs : scope.names = [a, b, (x, .free)]) (ha : a.2 = .local) (hb : b.2 = .local) (hc : env.cells.lookup x = some c) : closureFor scope env = pure [(x, c)] := by
  obtain ⟨a1, a2⟩ := a
  obtain ⟨b1, b2⟩ := b
  dsimp only at ha hb
  subst ha hb
  unfold closureFor
  rw [hs]
  show _ = _
  have : cellOf env x = pure c := by unfold cellOf; rw [hc]
  simp [this]
section
variable {prog : Program} {w : World} {A : Around} {E : Value → Shared → Prop} {s : Shared} {h₀ : Heap} {L : Addr} {m : Str → Option Value} {news : List (Addr × Obj)}
theorem iter_range2 {r : Addr} {k : Nat} {t u v : Tok} {Q : Value → Shared → Prop} (hh : A.handled = none) (F : Fr h₀ L s.heap m) (N : News h₀ L s.heap news) (hr : IsRange s.heap r 0 k 1 t u v) (hk : k ≤ 100000)
    (h : ∀ I oI St h', Walks prog w A I [I] [I] k (fun i v => ∃ t, v = .int (i : Int) t) St → (∀ i h, St i h → ∃ o, h.get? I = some o) → St 0 h' → Fr h₀ L h' m → News h₀ L h' ((I, oI) :: news) → (∀ p ∈ news, p.1 < I) → Q (.ref I) { s with heap := h' }) :
    wpAny (model prog w) A (pyIter (.ref r)) Q E s := by
  have hsz : Builtin.Range.rangeSize 0 (k : Int) 1 = (k : Int) := by
    simp only [Builtin.Range.rangeSize]
    split <;> (try split) <;> omega
  obtain ⟨F', N', hlt⟩ := push_led F N { cls := .type "range_iterator", data := .fields #[rawInt 0, rawInt (Builtin.Range.rangeSize 0 (k : Int) 1), rawInt 1] } rfl
  refine wpAny_pyIter_range hr ?_ (h _ _ _ _ (walks_P (Walks.range hh s.heap.objs.size 0 1 k) fun i v ⟨t, e⟩ => ⟨t, by rw [e]; simp⟩) (fun i h ho => ⟨_, ho⟩) ?_ F' N' hlt)
  · unfold Builtin.Range.small
    rw [hsz]
    have f : ∀ z : Int, 0 ≤ z → z ≤ 100000 → Builtin.Range.rangeFitsLong z = true := fun z h1 h2 => by
      unfold Builtin.Range.rangeFitsLong
      rw [Bool.and_eq_true]
      exact ⟨decide_eq_true (by omega), decide_eq_true (by omega)⟩
    rw [f 0 (by omega) (by omega), f k (by omega) (by omega), f 1 (by omega) (by omega), if_pos (by decide), f (k + (1 - 1)) (by omega) (by omega)]
    simp only [Bool.and_self, Bool.or_true]
  · show Heap.get? _ _ = _
    rw [Heap.get?_push_size _ rfl, hsz]
    simp
end
end
section
open PySem PySem.W PyProof.Rows
set_option maxRecDepth 100000
set_option maxHeartbeats 1000000
/-- behind a turn of a for over an iterator -/
def ForStep (h₀ : Heap) (L : Addr) (s : Shared) (J : (Str → Option Value) → List (Addr × Obj) → Prop) (Q : Flow → Shared → Prop) (I : Addr) (oI : Obj) (f : Flow) (s₃ : Shared) : Prop :=
  match f with
  | .next | .cont => ∃ h' tk m₂ nw, s₃ = { s with heap := h', toks := tk } ∧ Fr h₀ L h' m₂ ∧ News h₀ L h' ((I, oI) :: nw) ∧ (∀ p ∈ nw, p.1 ≠ I) ∧ J m₂ nw
  | .brk => Q .next s₃
  | .ret v => Q (.ret v) s₃
theorem kept_atm {h₀ h : Heap} {L I : Addr} {m m₁ : Str → Option Value} {fp : List Addr} {keep : List (Addr × Obj)} {prog : Program} {w : World} {A : Around} {wr : List Addr} {n : Nat} {P : Nat → Value → Prop} {St : Nat → Heap → Prop} {i : Nat} {h₁ : Heap} {oI : Obj}
    (W : Walks prog w A I fp wr n P St) (k : Kept h₀ keep I fp) (F : Fr h₀ L h m) (N : News h₀ L h keep) (F₁ : Fr h₀ L h₁ m₁) (N₁ : News h₀ L h₁ keep) (e : h.get? I = some oI) (e₁ : h₁.get? I = some oI) (st : St i h₁) : St i h := by
  refine W.frame i h₁ h st fun b hb o ho => ?_
  by_cases hI : b = I
  · subst hI
    rw [e₁] at ho
    cases ho
    exact e
  · obtain ⟨o', ho'⟩ := k b hb hI
    rcases ho' with ho' | ho'
    · have := (N₁ _ ho').1
      rw [this] at ho
      cases ho
      exact (N _ ho').1
    · rw [F₁.keep _ _ ho'] at ho
      cases ho
      exact F.keep _ _ ho'
section
variable {prog : Program} {w : World} {A : Around} {E : Value → Shared → Prop} {s : Shared} {h₀ : Heap} {L : Addr} {m : Str → Option Value} {news : List (Addr × Obj)}
theorem for_walk {env : Env} {Q : Flow → Shared → Prop} {target : Expr} {I : Addr} {oI : Obj} {body : List Stmt} {fp : List Addr} {n : Nat} {P : Nat → Value → Prop} {St : Nat → Heap → Prop} (W : Walks prog w A I fp [I] n P St) (hlive : ∀ i h, St i h → ∃ o, h.get? I = some o) (st : St 0 s.heap) (keep : List (Addr × Obj)) (kp : Kept h₀ keep I fp)
    (J : Nat → (Str → Option Value) → List (Addr × Obj) → Prop)
    (F : Fr h₀ L s.heap m) (N : News h₀ L s.heap ((I, oI) :: news)) (hI : ∀ p ∈ news, p.1 ≠ I) (hJ : J 0 m news) (hkeep : ∀ i m nw, J i m nw → ∀ p ∈ keep, p ∈ nw)
    (turn : ∀ i v m₁ nw oI h₁ tk₁, i < n → P i v → Fr h₀ L h₁ m₁ → News h₀ L h₁ ((I, oI) :: nw) → (∀ p ∈ nw, p.1 ≠ I) → J i m₁ nw →
      wpAny (model prog w) A (assign target env v) (fun _ s₃ => wpAny (model prog w) A (execs body env) (ForStep h₀ L s (J (i + 1)) Q I oI) E s₃) E { s with heap := h₁, toks := tk₁ })
    (done : ∀ m₁ nw h₁ tk₁, Fr h₀ L h₁ m₁ → News h₀ L h₁ nw → J n m₁ nw → Q .next { s with heap := h₁, toks := tk₁ })
    (hE : PassesOwn (model prog w) A env E := by passes_own) (ht : ∀ v, letOwnedTupleGo target (.ref I) v = pure () := by intro _; rfl) :
    codeAny (model prog w) A (.forLoop target (.ref I) body [] env) (fun r s' => match r with | .ok f => Q f s' | .error e => cameBackBy (model prog w) A env E e s') s := by
  refine for_inv (n₀ := n) (fun k m₁ nw => ∃ i oI nw', k = n - i ∧ i ≤ n ∧ nw = (I, oI) :: nw' ∧ (∀ p ∈ nw', p.1 ≠ I) ∧ J i m₁ nw' ∧ (∀ h m₂, Fr h₀ L h m₂ → News h₀ L h nw → St i h)) F N ⟨0, oI, news, by omega, Nat.zero_le _, rfl, hI, hJ, fun h m₂ F' N' => ?_⟩ ?_ hE ht
  · exact kept_atm W kp F' (news_sub N' fun p hp => .tail _ (hkeep _ _ _ hJ p hp)) F (news_sub N fun p hp => .tail _ (hkeep _ _ _ hJ p hp)) (N' _ (.head _)).1 (N _ (.head _)).1 st
  · rintro k m₁ nw h₁ tk₁ F₁ N₁ ⟨i, oI', nw', rfl, hi, rfl, hI', hJ', hst⟩
    have st' := hst h₁ m₁ F₁ N₁
    have zI := N₁ _ (.head _)
    by_cases hin : i < n
    · refine W.item i _ _ _ hin st' fun v h' tk' hP st'' hk => ?_
      have F'' : Fr h₀ L h' m₁ := by
        obtain ⟨oL, es, ep, hL, r⟩ := F₁.ns
        refine ⟨⟨oL, es, ep, hk _ _ (by simpa using Ne.symm zI.2.1) hL, r⟩, fun b o e => hk b o ?_ (F₁.keep b o e), F₁.above⟩
        rw [List.mem_singleton]
        rintro rfl
        rw [zI.2.2] at e
        cases e
      obtain ⟨oI'', hoI⟩ : ∃ o, h'.get? I = some o := hlive _ _ st''
      have N'' : News h₀ L h' ((I, oI'') :: nw') := fun p hp => by
        rcases List.mem_cons.mp hp with rfl | hp
        · exact ⟨hoI, zI.2⟩
        · have y := N₁ p (.tail _ hp)
          exact ⟨hk _ _ (by simpa using hI' p hp) y.1, y.2⟩
      refine wpAny_mono (turn i v m₁ nw' oI'' h' tk' hin hP F'' N'' hI' hJ') (fun _ s₃ h₃ => wpAny_mono h₃ (fun f s₄ h₄ => ?_) fun _ _ x => x) fun _ _ x => x
      have goSt : ∀ nw₆, (∀ p ∈ keep, p ∈ nw₆) → ∀ h₇ m₇, Fr h₀ L h₇ m₇ → News h₀ L h₇ ((I, oI'') :: nw₆) → St (i + 1) h₇ := fun nw₆ hk₆ h₇ m₇ F₇ N₇ =>
        kept_atm W kp F₇ (news_sub N₇ fun p hp => .tail _ (hk₆ p hp)) F'' (news_sub N'' fun p hp => .tail _ (hkeep _ _ _ hJ' p hp)) (N₇ _ (.head _)).1 hoI st''
      cases f with
      | next =>
        obtain ⟨h₆, tk₆, m₆, nw₆, rfl, F₆, N₆, hI₆, hJ₆⟩ := h₄
        exact ⟨h₆, tk₆, m₆, (I, oI'') :: nw₆, n - (i + 1), rfl, F₆, N₆, by omega, i + 1, oI'', nw₆, rfl, hin, rfl, hI₆, hJ₆, goSt nw₆ (hkeep _ _ _ hJ₆)⟩
      | cont =>
        obtain ⟨h₆, tk₆, m₆, nw₆, rfl, F₆, N₆, hI₆, hJ₆⟩ := h₄
        exact ⟨h₆, tk₆, m₆, (I, oI'') :: nw₆, n - (i + 1), rfl, F₆, N₆, by omega, i + 1, oI'', nw₆, rfl, hin, rfl, hI₆, hJ₆, goSt nw₆ (hkeep _ _ _ hJ₆)⟩
      | brk => exact h₄
      | ret v => exact h₄
    · have hin' : i = n := by omega
      subst hin'
      refine W.done _ _ _ st' fun h' tk' hk => ?_
      have F'' : Fr h₀ L h' m₁ := by
        obtain ⟨oL, es, ep, hL, r⟩ := F₁.ns
        refine ⟨⟨oL, es, ep, hk _ _ (by simpa using Ne.symm zI.2.1) hL, r⟩, fun b o e => hk b o ?_ (F₁.keep b o e), F₁.above⟩
        rw [List.mem_singleton]
        rintro rfl
        rw [zI.2.2] at e
        cases e
      exact done m₁ nw' h' tk' F'' (fun p hp => by
        have y := N₁ p (.tail _ hp)
        exact ⟨hk _ _ (by simpa using hI' p hp) y.1, y.2⟩) hJ'
end
theorem pick_last (vs : List Value) : slicePick vs.toArray (some (-1)) none none = (vs.drop (vs.length - 1)).toArray := by
  rw [kms_pick_eq]
  have e : kms_pick vs.toArray.toList (some (-1)) none = vs.drop (vs.length - 1) := by
    unfold kms_pick
    show (vs.drop (vs.length - 1)).take (vs.length - (vs.length - 1)) = _
    exact List.take_of_length_le (by rw [List.length_drop]; omega)
  rw [e]
theorem pick_nat (vs : List Value) (a b : Nat) : slicePick vs.toArray (some (a : Int)) (some (b : Int)) none = ((vs.drop a).take (b - a)).toArray := by
  rw [kms_pick_eq]
  have e : kms_pick vs.toArray.toList (some (a : Int)) (some (b : Int)) = (vs.drop a).take (b - a) := by
    unfold kms_pick
    show (vs.drop (kms_lo (some (a : Int)) vs.length)).take (kms_hi (some (b : Int)) vs.length - kms_lo (some (a : Int)) vs.length) = _
    have e1 : kms_lo (some (a : Int)) vs.length = min a vs.length := by
      show (if (a : Int) < 0 then vs.length - (-(a : Int)).toNat else min (a : Int).toNat vs.length) = _
      rw [if_neg (by omega)]; simp
    have e2 : kms_hi (some (b : Int)) vs.length = min b vs.length := by
      show (if (b : Int) < 0 then vs.length - (-(b : Int)).toNat else min (b : Int).toNat vs.length) = _
      rw [if_neg (by omega)]; simp
    rw [e1, e2, kmk_drop_min]
    by_cases h : a ≤ vs.length
    · rw [Nat.min_eq_left h]
      by_cases hb : b ≤ vs.length
      · rw [Nat.min_eq_left hb]
      · rw [Nat.min_eq_right (by omega), List.take_of_length_le (by simp), List.take_of_length_le (by simp; omega)]
    · rw [List.drop_of_length_le (by omega)]; simp
  rw [e]
end
section
open PySem PySem.W PyProof.Rows
set_option maxRecDepth 100000
set_option maxHeartbeats 1000000
section
variable {prog : Program} {w : World} {A : Around} {E : Value → Shared → Prop} {s : Shared} {env : Env} {h₀ : Heap} {L : Addr} {m : Str → Option Value} {news : List (Addr × Obj)}
theorem iter_listT {l : Addr} {vs : List Value} {ep : Nat} {Q : Value → Shared → Prop} (hh : A.handled = none) (F : Fr h₀ L s.heap m) (N : News h₀ L s.heap news) (hl : (l, listOf vs.toArray ep) ∈ news)
    (h : ∀ I oI St h', Walks prog w A I [I, l] [I] vs.length (fun i v => vs[i]? = some v) St → (∀ i h, St i h → ∃ o, h.get? I = some o) → (∀ i (elts : List Expr) x1 (tp : Pos) (T : Addr) s' (Q' : Unit → Shared → Prop) E', St i s'.heap → Q' () s' → wpAny (model prog w) A (letOwnedTupleGo (.Tuple elts x1 tp) (.ref I) (.ref T)) Q' E' s') → St 0 h' → Kept h₀ [(l, listOf vs.toArray ep)] I [I, l] → Fr h₀ L h' m → News h₀ L h' ((I, oI) :: news) → (∀ p ∈ news, p.1 < I) → Q (.ref I) { s with heap := h' }) :
    wpAny (model prog w) A (pyIter (.ref l)) Q E s := by
  obtain ⟨F', N', hlt⟩ := push_led F N { cls := .type "list_iterator", data := .fields #[.ref l, .int 0 0] } rfl
  have hL := N.isList hl
  have hne : l ≠ s.heap.objs.size := ne_of_ltA (hlt _ hl)
  refine wpAny_pyIter_list hL (h _ _ _ _ (walks_P (Walks.list hh s.heap.objs.size l hne vs.toArray) fun i v e => by simpa using e) (fun i h ⟨⟨o, ho, _⟩, _⟩ => ⟨o, ho⟩) (fun i elts x1 tp T s' Q' E' st hQ => wpAny_letOwnedTupleGo_listiter st.1 hQ) ⟨⟨_, Heap.get?_push_size _ rfl, rfl, rfl⟩, N'.isList (.tail _ hl)⟩ ?_ F' N' hlt)
  intro b hb hI
  refine ⟨listOf vs.toArray ep, .inl ?_⟩
  have : b = l := by
    rcases List.mem_cons.mp hb with e | hb
    · exact absurd e hI
    · exact List.mem_singleton.mp hb
  subst this
  exact .head _
/-- two plain names as a comprehension's target -/
theorem assign_pairC {scope : Scope} {cl : List (Str × Addr)} {C T : Addr} {a b : Str} {pa pb tp : Pos} {x1} {v1 v2 : Value} {e : Nat} {oC : Obj} {mc : Str → Option Value} {Q : Unit → Shared → Prop} (hh : A.handled = none)
    (F : Fr h₀ L s.heap m) (N : News h₀ L s.heap ((C, oC) :: news)) (hn : NsObj oC mc) (hC : ∀ p ∈ news, p.1 ≠ C) (hT : (T, tupOf #[v1, v2] e) ∈ news)
    (hxa : (compEnvC scope cl C env).kindOf a = some .local) (hxb : (compEnvC scope cl C env).kindOf b = some .local) (hk : scope.kind = .function)
    (h : ∀ h' tk oC', Fr h₀ L h' m → News h₀ L h' ((C, oC') :: news) → NsObj oC' (fun y => if y = b then some v2 else if y = a then some v1 else mc y) → Q () { s with heap := h', toks := tk }) :
    wpAny (model prog w) A (assign (.Tuple [.Name a pa, .Name b pb] x1 tp) (compEnvC scope cl C env) (.ref T)) Q E s := by
  refine wpAny_assign_Tuple hh (items := #[v1, v2]) ⟨_, (N _ (.tail _ hT)).1, rfl, _, rfl⟩ rfl rfl fun h' hk' => ?_
  have keep : ∀ b o, s.heap.get? b = some o → h'.get? b = some o := fun b o e => hk' b o (Nat.ne_of_lt (Heap.lt_size e)) e
  have F' := F.keptAll keep
  have N' : News h₀ L h' ((C, oC) :: news) := fun p hp => ⟨keep _ _ (N p hp).1, (N p hp).2⟩
  show wpAny _ _ (assignInOrder [assign (.Name a pa) (compEnvC scope cl C env), assign (.Name b pb) (compEnvC scope cl C env)] [v1, v2]) _ _ _
  refine wpAny_bind (wpAny_holding (assign_comp (s := { s with heap := h' }) F' N' hn hC hxa hk fun h₁ tk₁ oC₁ F₁ N₁ hn₁ => ?_))
  refine wpAny_bind (wpAny_holding (assign_comp (s := { s with heap := h₁, toks := tk₁ }) F₁ N₁ hn₁ hC hxb hk fun h₂ tk₂ oC₂ F₂ N₂ hn₂ => ?_))
  exact wpAny_pure (h _ _ _ F₂ N₂ hn₂)
theorem strs_lib : ∀ {vs : List Value} {xs : List (List Nat)}, StrsAre vs xs → PyProof.Rows.StrsAre vs (xs.map tx) := by
  intro vs xs h
  refine PyProof.Rows.StrsAre.of_carried ?_
  rw [List.map_map]
  exact strs_carried h
theorem strJoin_tx : ∀ xs : List (List Nat), PySem.Str.join (tx []) (xs.map tx) = tx xs.flatten := by
  intro xs
  induction xs with
  | nil => rfl
  | cons x xs ih =>
    cases xs with
    | nil => simp [PySem.Str.join]
    | cons y ys =>
      show tx x ++ tx [] ++ PySem.Str.join (tx []) ((y :: ys).map tx) = _
      rw [ih, tx_app, tx_app]
      simp
theorem join_tx {D : Addr} {vs : List Value} {xs : List (List Nat)} {t : Tok} {Q : Value → Shared → Prop} (hl : s.heap.IsList D vs.toArray) (hi : StrsAre vs xs) (hz : xs.flatten.length ≤ 100000) (h : ∀ tk tk', Q (.str (tx xs.flatten) tk) { s with toks := tk' }) :
    wpAny (model prog w) A (call (.builtin "str.join") [.str (tx []) t, .ref D]) Q E s := by
  refine join_list (ys := xs.map tx) hl (strs_lib hi) ?_ fun t' k => ?_
  · have e : ((xs.map tx).map (·.length)).sum = xs.flatten.length := by
      rw [List.length_flatten, List.map_map]
      exact congrArg List.sum (List.map_congr_left fun x _ => tx_len x)
    rw [e, tx_len, List.length_nil, Nat.mul_zero]
    omega
  · have e : Txt.join (tx []) (xs.map tx) = tx xs.flatten := by
      show Builtin.Str.glued (tx []) (xs.map tx) = _
      rw [StrLaws.glued_eq_join, strJoin_tx]
    rw [e]
    exact h _ _
theorem item_listK {value slice : Expr} {l : Addr} {vs : List Value} {ep k : Nat} {u : Tok} {v : Value} {Q : Value → Shared → Prop} (N : News h₀ L s.heap news) (hm : (l, listOf vs.toArray ep) ∈ news) (hx : vs[k]? = some v) (hk : k ≤ 100000) (h : Q v s)
    (hs : subscripted slice false (.ref l) (.int (k : Int) u) = operate [.ref l, .int (k : Int) u] (getItem (.ref l) (.int (k : Int) u)) := by with_unfolding_all rfl) :
    wpAny (model prog w) A (subscriptTail value slice (.ref l) (.int (k : Int) u)) Q E s :=
  tail_any (N.isList hm).typeIs slot_list_getitem.lookup (wpAny_getItem_list (N.isList hm) (by omega) (by omega) (by simpa using hx) h) hs
theorem len_listK {l : Addr} {vs : List Value} {ep n : Nat} {Q : Value → Shared → Prop} (N : News h₀ L s.heap news) (hm : (l, listOf vs.toArray ep) ∈ news) (hn : vs.length = n) (hk : n ≤ 100000) (h : ∀ tk tk', Q (.int (n : Int) tk) { s with toks := tk' }) :
    wpAny (model prog w) A (call (.builtin "len") [.ref l]) Q E s := by
  have e : (vs.toArray.size : Int) = (n : Int) := by rw [List.size_toArray, hn]
  refine len_list (N.isList hm) (by rw [e]; omega) ?_
  rw [e]
  exact h _ _
end
end
section
open PySem PySem.W PyProof.Rows
set_option maxRecDepth 100000
set_option maxHeartbeats 1000000
def WhileOut (h₀ : Heap) (L : Addr) (s : Shared) (K : (Str → Option Value) → List (Addr × Obj) → Prop) (s₂ : Shared) : Prop := ∃ h' tk m₂ nw, s₂ = { s with heap := h', toks := tk } ∧ Fr h₀ L h' m₂ ∧ News h₀ L h' nw ∧ K m₂ nw
theorem whileOut_mk {h₀ h : Heap} {L : Addr} {s : Shared} {K : (Str → Option Value) → List (Addr × Obj) → Prop} {m : Str → Option Value} {nw : List (Addr × Obj)} {tk : Nat} (F : Fr h₀ L h m) (N : News h₀ L h nw) (k : K m nw) : WhileOut h₀ L s K { s with heap := h, toks := tk } := ⟨h, tk, m, nw, rfl, F, N, k⟩
theorem step_next {h₀ h : Heap} {L : Addr} {s : Shared} {J : Nat → (Str → Option Value) → List (Addr × Obj) → Prop} {Q : Flow → Shared → Prop} {n n' : Nat} {m : Str → Option Value} {nw : List (Addr × Obj)} {tk : Nat} (F : Fr h₀ L h m) (N : News h₀ L h nw) (hn : n' < n) (j : J n' m nw) : WhileStep2 h₀ L s J Q n .next { s with heap := h, toks := tk } := ⟨h, tk, m, nw, n', rfl, F, N, hn, j⟩
theorem While_inv3 {prog : Program} {w : World} {A : Around} {E : Value → Shared → Prop} {Q : Flow → Shared → Prop} {s : Shared} {env : Env} {h₀ : Heap} {L : Addr} {test : Expr} {body : List Stmt} {pos : Pos} {m : Str → Option Value} {news : List (Addr × Obj)} (J : Nat → (Str → Option Value) → List (Addr × Obj) → Prop) (K : (Str → Option Value) → List (Addr × Obj) → Prop) {n₀ : Nat}
    (F : Fr h₀ L s.heap m) (N : News h₀ L s.heap news) (hJ : J n₀ m news)
    (turn : ∀ n m₁ news₁ h₁ tk₁, Fr h₀ L h₁ m₁ → News h₀ L h₁ news₁ → J n m₁ news₁ →
      wpAny (model prog w) A (isTrue test env (eval test env)) (fun b s₂ =>
        if b = true then wpAny (model prog w) A (execs body env) (WhileStep2 h₀ L s J Q n) E s₂ else WhileOut h₀ L s K s₂) E { s with heap := h₁, toks := tk₁ })
    (exit : ∀ m₁ news₁ h₁ tk₁, Fr h₀ L h₁ m₁ → News h₀ L h₁ news₁ → K m₁ news₁ → Q .next { s with heap := h₁, toks := tk₁ })
    (hE : PassesOwn (model prog w) A env E := by passes_own) :
    wpAny (model prog w) A (exec (.While test body [] pos) env) Q E s := by
  refine While_inv2 J F N hJ (fun n m₁ news₁ h₁ tk₁ F₁ N₁ J₁ => wpAny_mono (turn n m₁ news₁ h₁ tk₁ F₁ N₁ J₁) (fun b s₂ h₂ => ?_) fun _ _ x => x) hE
  cases b with
  | true => exact h₂
  | false =>
    simp only [Bool.false_eq_true, if_false] at h₂ ⊢
    obtain ⟨h', tk, m₂, nw, rfl, F₂, N₂, hK⟩ := h₂
    exact exit m₂ nw h' tk F₂ N₂ hK
section
variable {α : Type} {p : α → Bool} {cs : List α} {a e : Nat}
/-- what a scan from a to e says -/
def Span (p : α → Bool) (cs : List α) (a e : Nat) : Prop := (cs.drop a).takeWhile p = (cs.drop a).take (e - a) ++ (cs.drop e).takeWhile p ∧ (cs.drop a).dropWhile p = (cs.drop e).dropWhile p
theorem span_refl : Span p cs a a := by simp [Span]
theorem drop_at {c : α} (h : cs[e]? = some c) : cs.drop e = c :: cs.drop (e + 1) := by
  obtain ⟨hk, e'⟩ := List.getElem?_eq_some_iff.mp h
  rw [List.drop_eq_getElem_cons hk, e']
theorem span_step {c : α} (h : Span p cs a e) (hae : a ≤ e) (hc : cs[e]? = some c) (hp : p c = true) : Span p cs a (e + 1) := by
  obtain ⟨h1, h2⟩ := h
  rw [drop_at hc, List.takeWhile_cons_of_pos hp] at h1
  rw [drop_at hc, List.dropWhile_cons_of_pos hp] at h2
  refine ⟨?_, h2⟩
  rw [h1, show e + 1 - a = (e - a) + 1 from Nat.succ_sub hae, List.take_add_one, List.getElem?_drop, Nat.add_sub_cancel' hae, hc]
  simp
theorem span_out (h : Span p cs a e) (hc : cs.length ≤ e ∨ ∃ c, cs[e]? = some c ∧ p c = false) : (cs.drop a).takeWhile p = (cs.drop a).take (e - a) ∧ (cs.drop a).dropWhile p = cs.drop e := by
  obtain ⟨h1, h2⟩ := h
  rcases hc with hc | ⟨c, hc, hp⟩
  · rw [List.drop_of_length_le hc] at h1 h2 ⊢
    simpa using And.intro h1 h2
  · rw [drop_at hc, List.takeWhile_cons_of_neg (by simp [hp])] at h1
    rw [drop_at hc, List.dropWhile_cons_of_neg (by simp [hp])] at h2
    rw [drop_at hc]
    exact ⟨by simpa using h1, h2⟩
end
/-- a cell's value in a ledger -/
def IsCellV (tups : List (Addr × Obj)) (v : Value) (c : Nat × Bool) : Prop := ∃ (b : Addr) (tk : Tok) (ep : Nat), v = .ref b ∧ (b, tupOf #[.str (tx [c.1]) tk, .bool c.2] ep) ∈ tups
theorem cells_by {tups : List (Addr × Obj)} {vs : List Value} {cs : List (Nat × Bool)} (h : CellsAt tups vs cs) : AreBy (IsCellV tups) vs cs := ⟨h.1, fun i c e => let ⟨b, tk, ep, h1, h2⟩ := h.2 i c e; ⟨_, h1, b, tk, ep, rfl, h2⟩⟩
/-- the signs of a run of cells, as a comprehension takes them -/
def SignsJ (nw₀ : List (Addr × Obj)) (ds : List (Nat × Bool)) (i : Nat) (ys : List Value) (nw : List (Addr × Obj)) : Prop := nw = nw₀ ∧ StrsAre ys ((ds.take i).map fun c => [c.1])
theorem signs_flat (ds : List (Nat × Bool)) : (ds.map fun c => [c.1]).flatten = ds.map (·.1) := by
  induction ds with
  | nil => rfl
  | cons d ds ih => simp [ih]
theorem off_all {D C : Addr} {nw : List (Addr × Obj)} (h : Off D C nw) {p : Addr × Obj} (hp : p ∈ nw) : p.1 ≠ D ∧ p.1 ≠ C := h p hp
end
section
open PySem PySem.W PyProof.Rows
set_option maxRecDepth 100000
set_option maxHeartbeats 1000000
def IsNat (v : Value) (k : Nat) : Prop := ∃ t, v = .int (k : Int) t
abbrev NatsAre (vs : List Value) (is : List Nat) : Prop := AreBy IsNat vs is
theorem nats_lib : ∀ {is : List Nat} {vs : List Value}, NatsAre vs is → IntsAre vs (is.map fun (k : Nat) => (k : Int)) := by
  intro is
  induction is with
  | nil => intro vs h; rw [h.none]; exact .nil
  | cons k is ih =>
    intro vs h
    obtain ⟨v, vs', rfl, ⟨t, rfl⟩, h'⟩ := h.some
    exact .cons _ _ (ih h')
section
variable {prog : Program} {w : World} {A : Around} {E : Value → Shared → Prop} {s : Shared} {env : Env} {h₀ : Heap} {L : Addr} {m : Str → Option Value} {news : List (Addr × Obj)}
theorem in_nats {l : Addr} {vs : List Value} {ep k : Nat} {is : List Nat} {t : Tok} {b : Bool} {Q : Value → Shared → Prop} (N : News h₀ L s.heap news) (hm : (l, listOf vs.toArray ep) ∈ news) (hi : NatsAre vs is) (hb : is.contains k = b) (h : Q (.bool b) s) :
    wpAny (model prog w) A (compareOp .In (.int (k : Int) t) (.ref l)) Q E s := by
  refine in_list_ints (N.isList hm) (nats_lib hi) ?_
  have e : (is.map fun (k : Nat) => (k : Int)).any (· == (k : Int)) = b := by
    rw [← hb, List.any_map, List.contains_eq_any_beq]
    apply List.any_congr rfl
    intro x
    simp only [Function.comp]
    by_cases q : x = k
    · subst q; simp
    · have h1 : ((x : Int) == (k : Int)) = false := by simp; omega
      have h2 : (k == x) = false := by simp; omega
      rw [h1, h2]
  rw [e]
  exact h
theorem item_last {value slice : Expr} {l : Addr} {vs : List Value} {ep : Nat} {u : Tok} {v : Value} {Q : Value → Shared → Prop} (N : News h₀ L s.heap news) (hm : (l, listOf vs.toArray ep) ∈ news) (hx : vs.getLast? = some v) (hk : vs.length ≤ 100000) (h : Q v s)
    (hs : subscripted slice false (.ref l) (.int (-1) u) = operate [.ref l, .int (-1) u] (getItem (.ref l) (.int (-1) u)) := by with_unfolding_all rfl) :
    wpAny (model prog w) A (subscriptTail value slice (.ref l) (.int (-1) u)) Q E s := by
  have hne : vs ≠ [] := by rintro rfl; cases hx
  have hl : 0 < vs.length := List.length_pos_iff.mpr hne
  refine tail_any (N.isList hm).typeIs slot_list_getitem.lookup (wpAny_getItem_list_neg (N.isList hm) (by omega) (by rw [List.size_toArray]; omega) (by decide) ?_ h) hs
  rw [List.size_toArray, show ((-1 : Int) + (vs.length : Int)).toNat = vs.length - 1 by omega]
  rw [List.getLast?_eq_getElem?] at hx
  simpa using hx
end
end
section
open PySem PySem.W PyProof.Rows
set_option maxRecDepth 100000
set_option maxHeartbeats 1000000
def WhileStepK (h₀ : Heap) (L : Addr) (s : Shared) (J : Nat → (Str → Option Value) → List (Addr × Obj) → Prop) (K : (Str → Option Value) → List (Addr × Obj) → Prop) (Q : Flow → Shared → Prop) (n : Nat) (f : Flow) (s₃ : Shared) : Prop :=
  match f with
  | .next | .cont => ∃ h' tk m₂ news₂ n', s₃ = { s with heap := h', toks := tk } ∧ Fr h₀ L h' m₂ ∧ News h₀ L h' news₂ ∧ n' < n ∧ J n' m₂ news₂
  | .brk => WhileOut h₀ L s K s₃
  | .ret v => Q (.ret v) s₃
theorem stepK_next {h₀ h : Heap} {L : Addr} {s : Shared} {J : Nat → (Str → Option Value) → List (Addr × Obj) → Prop} {K : (Str → Option Value) → List (Addr × Obj) → Prop} {Q : Flow → Shared → Prop} {n n' : Nat} {m : Str → Option Value} {nw : List (Addr × Obj)} {tk : Nat} (F : Fr h₀ L h m) (N : News h₀ L h nw) (hn : n' < n) (j : J n' m nw) : WhileStepK h₀ L s J K Q n .next { s with heap := h, toks := tk } := ⟨h, tk, m, nw, n', rfl, F, N, hn, j⟩
theorem While_inv4 {prog : Program} {w : World} {A : Around} {E : Value → Shared → Prop} {Q : Flow → Shared → Prop} {s : Shared} {env : Env} {h₀ : Heap} {L : Addr} {test : Expr} {body : List Stmt} {pos : Pos} {m : Str → Option Value} {news : List (Addr × Obj)} (J : Nat → (Str → Option Value) → List (Addr × Obj) → Prop) (K : (Str → Option Value) → List (Addr × Obj) → Prop) {n₀ : Nat}
    (F : Fr h₀ L s.heap m) (N : News h₀ L s.heap news) (hJ : J n₀ m news)
    (turn : ∀ n m₁ news₁ h₁ tk₁, Fr h₀ L h₁ m₁ → News h₀ L h₁ news₁ → J n m₁ news₁ →
      wpAny (model prog w) A (isTrue test env (eval test env)) (fun b s₂ =>
        if b = true then wpAny (model prog w) A (execs body env) (WhileStepK h₀ L s J K Q n) E s₂ else WhileOut h₀ L s K s₂) E { s with heap := h₁, toks := tk₁ })
    (exit : ∀ m₁ news₁ h₁ tk₁, Fr h₀ L h₁ m₁ → News h₀ L h₁ news₁ → K m₁ news₁ → Q .next { s with heap := h₁, toks := tk₁ })
    (hE : PassesOwn (model prog w) A env E := by passes_own) :
    wpAny (model prog w) A (exec (.While test body [] pos) env) Q E s := by
  refine While_inv2 J F N hJ (fun n m₁ news₁ h₁ tk₁ F₁ N₁ J₁ => wpAny_mono (turn n m₁ news₁ h₁ tk₁ F₁ N₁ J₁) (fun b s₂ h₂ => ?_) fun _ _ x => x) hE
  cases b with
  | true =>
    simp only [if_true] at h₂ ⊢
    refine wpAny_mono h₂ (fun f s₃ h₃ => ?_) fun _ _ x => x
    cases f with
    | next => exact h₃
    | cont => exact h₃
    | brk =>
      obtain ⟨h', tk, m₂, nw, rfl, F₂, N₂, hK⟩ := h₃
      exact exit m₂ nw h' tk F₂ N₂ hK
    | ret v => exact h₃
  | false =>
    simp only [Bool.false_eq_true, if_false] at h₂ ⊢
    obtain ⟨h', tk, m₂, nw, rfl, F₂, N₂, hK⟩ := h₂
    exact exit m₂ nw h' tk F₂ N₂ hK
def IsPart (st : Addr) (v : Value) (w : List Nat) : Prop := if w = [42] then v = .ref st else IsTx v w
abbrev PartsAre (st : Addr) (vs : List Value) (row : List (List Nat)) : Prop := AreBy (IsPart st) vs row
theorem part_star {st : Addr} {v : Value} (h : IsPart st v [42]) : v = .ref st := by rwa [IsPart, if_pos rfl] at h
theorem part_tx {st : Addr} {v : Value} {w : List Nat} (h : IsPart st v w) (hw : ¬ w = [42]) : IsTx v w := by rwa [IsPart, if_neg hw] at h
end
section
open PySem PySem.W PyProof.Rows
open Builtin Builtin.ObjectAttr
set_option maxRecDepth 100000
set_option maxHeartbeats 1000000
abbrev bfmObj (l : Addr) : Obj := { cls := .type "builtin_function_or_method", data := .fields #[.builtin "list.append", .ref l] }
theorem sub_list_module : isSubtype (.type "list") (.type "module") = pure false := by rw [isSubtype_type]; kernel_rfl
theorem fstr3 (a b c : List Nat) : Str.empty ++ tx a ++ tx b ++ tx c = tx (a ++ b ++ c) := by
  have e : Str.empty = tx [] := rfl
  rw [e, tx_app, tx_app, tx_app]
  rfl
theorem joinParts_nilT {M : Model} {A : Around} {E : Value → Shared → Prop} {s : Shared} {out : Str} {x : List Nat} {Q : Value → Shared → Prop} (hx : out = tx x) (hl : x.length ≤ 100000) (h : ∀ tk tk', Q (.str (tx x) tk) { s with toks := tk' }) : wpAny M A (joinParts out []) Q E s := by
  subst hx
  exact joinParts_nil (h _ _) (by rw [tx_len]; exact Nat.le_trans hl (by decide))
theorem empty_len : (Str.empty : Str).length = 0 := rfl
theorem ieq_t {x y : Int} {P R : Prop} (h : x = y) (hp : P) : if (x == y) = true then P else R := by rw [if_pos (by simp [h])]; exact hp
theorem ieq_f {x y : Int} {P R : Prop} (h : x ≠ y) (hr : R) : if (x == y) = true then P else R := by rw [if_neg (by simp [h])]; exact hr
theorem slot_md_get : Slot "method_descriptor" "__get__" "method_descriptor.__get__" :=
  .of (owner := "method_descriptor") (n := "__get__") (by rw [typeLookup_type, builtinLookup_eq_fast]; kernel_rfl) (by decide +kernel) (by decide +kernel) (by decide +kernel)
    (by first | exact .inl (by decide +kernel) | exact .inr (by decide +kernel)) (by rw [isSubtype_type]; kernel_rfl)
theorem entry_md_get : entryFor table "method_descriptor.__get__" = some Builtin.«method_descriptor.__get__» := entryFor_of_tree (by kernel_rfl)
theorem args_md_get (a b c : Value) : argsOk "method_descriptor.__get__" ⟨[a, b, c], []⟩ := by unfold argsOk; kernel_rfl
theorem md_set : typeLookup (.type "method_descriptor") "__set__" = pure none := by rw [typeLookup_type, builtinLookup_eq_fast]; kernel_rfl
theorem md_delete : typeLookup (.type "method_descriptor") "__delete__" = pure none := by rw [typeLookup_type, builtinLookup_eq_fast]; kernel_rfl
theorem lk_list_append : typeLookup (.type "list") "append" = pure (some (.builtin "list.append")) := by rw [typeLookup_type, builtinLookup_eq_fast]; kernel_rfl
theorem owner_append : (".".intercalate ("list.append".cutAt '.').dropLast) = "list" := by
  have e0 : "list.append".cutAt '.' = ["list", "append"] := by first | rfl | decide +kernel
  rw [e0]; decide +kernel
theorem sub_list_owner : isSubtype (.type "list") (.type (".".intercalate ("list.append".cutAt '.').dropLast)) = pure true := by
  rw [owner_append, isSubtype_type]; kernel_rfl
theorem sub_list_list : isSubtype (.type "list") (.type "list") = pure true := by rw [isSubtype_type]; kernel_rfl
section
variable {prog : Program} {w : World} {A : Around} {E : Value → Shared → Prop} {s : Shared}
theorem checkBound_append {l : Addr} {o : Obj} {x : Value} {Q : Unit → Shared → Prop} (hl : s.heap.get? l = some o) (hc : o.cls = .type "list") (hd : ∀ c, o.data ≠ .cls c) (h : Q () s) : wpAny (model prog w) A (checkBoundCall "list.append" ⟨[.ref l, x], []⟩) Q E s := by
  have hT : s.TypeIs (.ref l) "list" := ⟨_, hl, hc⟩
  have f1 := sub_list_module
  unfold checkBoundCall
  repeat (any_goals (first | assumption | wp_step))
theorem bfm_append {p l : Addr} {its : Array Value} {n : Nat} {x : Value} {Q : Value → Shared → Prop} (hp : s.heap.get? p = some (bfmObj l)) (ho : s.heap.get? l = some { cls := .type "list", data := .seq its n })
    (h : ∀ h', Heap.SameBut l s.heap h' → h'.get? l = some { cls := .type "list", data := .seq (its.push x) (n + 1) } → Q .none { s with heap := h' }) (hsz : its.size ≤ sizeLine) :
    wpAny (model prog w) A (call (.ref p) [x]) Q E s := by
  refine wpAny_call (codeAny_of_tree ?_)
  show wpAny _ _ (callAny (.ref p) ⟨[x], []⟩) _ _ _
  unfold callAny
  refine wpAny_bind (wpAny_load hp ?_)
  show wpAny _ _ (checkBoundCall "list.append" ⟨[.ref l, x], []⟩ >>= fun _ => again (.builtin "list.append" ⟨[.ref l, x], []⟩)) _ _ _
  refine wpAny_bind (checkBound_append ho rfl (by intro c h; cases h) (wpAny_pure ⟨Code.quiet_builtin _ (by decide +kernel), codeAny_builtin entry_list_append ?_⟩))
  show wpAny _ _ (updateSeq l (·.push x) >>= fun _ => ret .none) _ _ s
  refine wpAny_bind ?_
  refine wpAny_updateSeq ho rfl (wpAny_pure ?_)
  refine h _ (Heap.SameBut.update ..) ?_
  rw [Heap.get?_update_self _ ho (by rw [mapSeq_push]; rfl), mapSeq_push]
theorem append_get {a : Addr} {o : Obj} {R : Result → Shared → Prop} (hx : s.heap.get? a = some o) (hc : o.cls = .type "list") (hq : R (.ok (.ret (.ref s.heap.objs.size))) { s with heap := s.heap.push (bfmObj a) }) :
    codeAny (model prog w) A (.call (.builtin "method_descriptor.__get__") ⟨[.builtin "list.append", .ref a, .type "list"], []⟩) R s := by
  obtain ⟨h, g, d, t, os⟩ := s
  have hT : (⟨h, g, d, t, os⟩ : Shared).TypeIs (.ref a) "list" := ⟨_, hx, hc⟩
  have hT5 : (⟨h, g, d, t, os⟩ : Shared).TypeIs (.builtin "list.append") "method_descriptor" := F.type_list_append
  have f8 := sub_list_owner
  refine codeAny_call_builtin slot_md_get.plain entry_md_get (slot_md_get.check _ _ _ _ _ _ _ _ hT5 (args_md_get _ _ _) ?_)
  repeat (any_goals (first | assumption | wp_step))
theorem append_entry {a : Addr} {its : Array Value} {n : Nat} {tk : Tok} {Q : Fin → Shared → Prop} (hx : s.heap.get? a = some { cls := .type "list", data := .seq its n }) (hq : Q (.done (.ret (.ref s.heap.objs.size))) { s with heap := s.heap.push (bfmObj a) }) :
    wpAny (model prog w) A (Builtin.«object.__getattribute__» ⟨[.ref a, .str "append" tk], []⟩) Q E s := by
  obtain ⟨h, g, d, t, os⟩ := s
  have hT : (⟨h, g, d, t, os⟩ : Shared).TypeIs (.ref a) "list" := ⟨_, hx, rfl⟩
  have hT5 : (⟨h, g, d, t, os⟩ : Shared).TypeIs (.builtin "list.append") "method_descriptor" := F.type_list_append
  have f4 := lk_list_append
  have f5 := F.type_list_append
  have f6 := slot_md_get.lookup
  have f7 := md_set
  have f8 := md_delete
  repeat (any_goals (first | assumption | wp_step))
  refine append_get hx rfl ?_
  repeat (any_goals (first | assumption | wp_step))
theorem append_call {a : Addr} {its : Array Value} {n : Nat} {tk : Tok} {R : Result → Shared → Prop} (hx : s.heap.get? a = some { cls := .type "list", data := .seq its n }) (hq : R (.ok (.ret (.ref s.heap.objs.size))) { s with heap := s.heap.push (bfmObj a) }) :
    codeAny (model prog w) A (.call (.builtin "list.__getattribute__") ⟨[.ref a, .str "append" tk], []⟩) R s :=
  codeAny_call_builtin F.slot_list_getattribute.plain F.entry_list_ga (F.slot_list_getattribute.check _ _ _ _ _ _ _ _ (show s.TypeIs (.ref a) "list" from ⟨_, hx, rfl⟩) (F.args_list_getattribute_2 _ _) (append_entry hx hq))
theorem getAttr_append {l : Addr} {its : Array Value} {n : Nat} {Q : Value → Shared → Prop} (hl : s.heap.get? l = some { cls := .type "list", data := .seq its n }) (h : ∀ tk, Q (.ref s.heap.objs.size) { s with heap := s.heap.push (bfmObj l), toks := tk }) :
    wpAny (model prog w) A (getAttr (.ref l) "append" true) Q E s := by
  obtain ⟨hp, g, d, tk, os⟩ := s
  unfold getAttr
  refine wpAny_bind (wpAny_mkText ?_)
  have hT : (⟨hp, g, d, tk + 1, os⟩ : Shared).TypeIs (.ref l) "list" := ⟨_, hl, rfl⟩
  have f2 := F.slot_list_getattribute.lookup
  have f3 := F.slot_list_getattribute.bind (.ref l)
  repeat (any_goals (first | assumption | wp_step))
  refine append_call hl ?_
  show wpAny _ _ (handedOut (.ref _)) _ _ _
  exact wpAny_pure (h _)
variable {h₀ : Heap} {L : Addr} {m : Str → Option Value} {news news' : List (Addr × Obj)}
theorem getAttr_append_K {l : Addr} {its : Array Value} {n : Nat} {Q : Value → Shared → Prop} (F : Fr h₀ L s.heap m) (N : News h₀ L s.heap news) (hm : (l, listOf its n) ∈ news)
    (h : ∀ la h' tk, Fr h₀ L h' m → News h₀ L h' ((la, bfmObj l) :: news) → (∀ p ∈ news, p.1 < la) → Q (.ref la) { s with heap := h', toks := tk }) :
    wpAny (model prog w) A (getAttr (.ref l) "append" true) Q E s := by
  obtain ⟨F', N', hl⟩ := push_led F N (bfmObj l) rfl
  exact getAttr_append (N _ hm).1 fun tk => h _ _ tk F' N' hl
theorem bfm_append_K {la D : Addr} {its : Array Value} {n : Nat} {x : Value} {Q : Value → Shared → Prop} (F : Fr h₀ L s.heap m) (N : News h₀ L s.heap news) (hm : (la, bfmObj D) ∈ news) (U : Upd D (listOf its n) (listOf (its.push x) (n + 1)) news news')
    (hsz : its.size ≤ sizeLine) (h : ∀ h', Fr h₀ L h' m → News h₀ L h' news' → Q .none { s with heap := h' }) : wpAny (model prog w) A (call (.ref la) [x]) Q E s := by
  obtain ⟨pre, post, rfl, rfl, a, b⟩ := U.split
  have z := N (D, listOf its n) (List.mem_append.mpr (.inr (.head _)))
  exact bfm_append (hsz := hsz) (N _ hm).1 z.1 fun h' hs ho' => h h' (F.change hs z.2.1 z.2.2) (news_set N a b hs ho')
def StandsB (la l : Addr) (h : Heap) : Prop := h.get? la = some (bfmObj l)
theorem standsB_of {la l : Addr} {h : Heap} (N : News h₀ L h news) (hm : (la, bfmObj l) ∈ news) : StandsB la l h := (N _ hm).1
theorem callWith_bfm {pos : Pos} {u l : Addr} {first : List Value} {env : Env} {e : Expr} {rest : List Expr} {Q : Value → Shared → Prop} (_N : News h₀ L s.heap news) (_hm : (u, bfmObj l) ∈ news)
    (h : wpAny (model prog w) A (spliced (backTo pos (starEach (e :: rest) env))) (fun vs s₁ => StandsB u l s₁.heap ∧ wpAny (model prog w) A (call (.ref u) (first ++ vs)) Q E s₁) E s)
    (he : starEach (e :: rest) env = (false, eval e env) :: starEach rest env := by rfl) (hplain : (backTo pos (starEach rest env)).any (·.1) = false := by rfl) :
    wpAny (model prog w) A (callWith pos (.ref u) first (backTo pos (starEach (e :: rest) env)) []) Q E s := by
  rw [he] at h ⊢
  have h1 : (backTo pos ((false, eval e env) :: starEach rest env)).any (·.1) = false := by
    show (false || (backTo pos (starEach rest env)).any (·.1)) = false
    rw [hplain]; rfl
  unfold callWith
  have h2 : wpAny (model prog w) A (evalArgs (.ref u) true (backTo pos ((false, eval e env) :: starEach rest env)) []) (fun x s₁ => StandsB u l s₁.heap ∧ wpAny (model prog w) A (call (.ref u) (first ++ x.pos) x.kw) Q E s₁) E s := PySem.Calls.evalArgs_plain h
  refine wpAny_bind (wpAny_holding (wpAny_mono h2 (fun x s₁ h₁ => wpAny_bind (wpAny_standAt ?_)) fun _ _ x => x))
  obtain ⟨ho, hcall⟩ := h₁
  simp only [h1, List.any_nil, Bool.or_false]
  refine wpAny_bind (m := keeperOf (.ref u)) ?_
  unfold keeperOf
  refine wpAny_bind (wpAny_load ho ?_)
  simp only [show (Value.type "builtin_function_or_method" != Value.type "method") = true by decide, show (Value.type "builtin_function_or_method" == Value.type "builtin_function_or_method" || Value.type "builtin_function_or_method" == Value.type "method-wrapper") = true by decide, if_true]
  refine wpAny_pure ?_
  exact wpAny_bind (wpAny_mono hcall (fun r s₂ hr => wpAny_bind (wpAny_holding (wpAny_point (wpAny_pure hr)))) fun _ _ x => x)
theorem item_listK1 {value slice : Expr} {l : Addr} {vs : List Value} {ep k : Nat} {u : Tok} {v : Value} {Q : Value → Shared → Prop} (N : News h₀ L s.heap news) (hm : (l, listOf vs.toArray ep) ∈ news) (hx : vs[k + 1]? = some v) (hk : k + 1 ≤ 100000) (h : Q v s)
    (hs : subscripted slice false (.ref l) (.int ((k : Int) + 1) u) = operate [.ref l, .int ((k : Int) + 1) u] (getItem (.ref l) (.int ((k : Int) + 1) u)) := by with_unfolding_all rfl) :
    wpAny (model prog w) A (subscriptTail value slice (.ref l) (.int ((k : Int) + 1) u)) Q E s :=
  item_listK (k := k + 1) N hm hx hk h hs
end
end
section
open PySem PySem.W PyProof.Rows
set_option maxRecDepth 100000
set_option maxHeartbeats 8000000
local macro_rules | `(tactic| k_mem) => `(tactic| assumption)
local macro_rules | `(tactic| k_all) => `(tactic| assumption)
section
abbrev pieces : List Str := [Str.ofString " ", Str.ofString " * ", Str.ofString "\\", Str.ofString "\"", Str.ofString "a", Str.ofString "\n", Str.ofString "\\\\", Str.ofString "\\ ", Str.ofString "*", Str.ofString "\\\"", Str.ofString ")", Str.ofString "\"*"]
theorem pieces_all : ∀ s ∈ pieces, s.cps.toList.length ≤ 3 ∧ ∀ c ∈ s.cps.toList, c < 128 := by decide +kernel
theorem piece_at (i : Nat) : ∃ x : List Nat, pieces.getD i Str.empty = tx x ∧ x.length ≤ 3 ∧ Asc x := by
  rw [List.getD_eq_getElem?_getD]
  cases e : pieces[i]? with
  | none => exact ⟨[], rfl, by simp, fun c hc => nomatch hc⟩
  | some s =>
    have := pieces_all s (List.mem_of_getElem? e)
    exact ⟨s.cps.toList, rfl, this.1, this.2⟩
theorem piece_ok {w : World} {p : Program} {loose : List Str} {mean : ExcName → Option Value} {mg mb : Str → Option Value} (n : Int) (tn : Tok) :
  Gv w p loose mean mg mb (.ref 84) [.int n tn] 3 100 [] (fun r own' => ∃ x : List Nat, IsTx r x ∧ x.length ≤ 3 ∧ Asc x ∧ own' = []) := by
  unfold Gv
  intro dp un gd cn cs a ccd cl outer A₀ base h₀ L m s Q E B F X N T CH hk hd hu ret
  w_on
  revert X; k_fill; intro X
  (refine' code_defG ?k1 ?k2 ?k3 ?k4 ?k5 ?kA ?kF ?kK ?k6 ?k7 ?k8 ?k9 ?kB ?_ ?c2 ?c3 ?c4 ?c5; (case kA => exact rfl); (case kF => exact rfl); (case kK => first | assumption | exact rfl); (case k1 => k_asm); (case k2 => k_asm); (case k3 => k_asm); (case k4 => k_asm); (case k5 => k_asm); (case k6 => k_is); (case k7 => k_is); (case k8 => ktr_room); (case k9 => exact BindsTo.of_eq rfl); (case c5 => decide); (case kB => exact locs rfl); (case c2 => exact rfl); (case c3 => exact rfl); (case c4 => exact rfl); k_whole)
  intro g' L' h' FG' F' N' B' X' T' GS
  (try dsimp only)
  (try k_fold)
  k_steps
  rename News h₀ _ _ _ => N9
  rename News g' _ _ _ => N8
  rename Fr h₀ _ _ _ => F9
  rename Fr g' _ _ _ => F8
  obtain ⟨x, hx, hl, ha⟩ := piece_at (n.fmod 12).toNat
  have S8 := stays_of GS F8 N8
  exact ret _ [] _ _ F9 (fun p hp => nomatch hp) ⟨S8.1, fun p hp => nomatch hp⟩ ⟨x, ⟨_, congrArg (Value.str · _) hx⟩, hl, ha, rfl⟩
end
section
local macro_rules | `(tactic| walk_at "exec While Compare cons nil") => `(tactic| refine stop_mk ?_)
local macro_rules | `(tactic| walk_at "eval ListComp") => `(tactic| refine stop_mk ?_)
local macro_rules | `(tactic| walk_at "pyIter") => `(tactic| refine stop_mk ?_)
local macro_rules | `(tactic| walk_at "pyIter str") => `(tactic| refine stop_mk ?_)
local macro_rules | `(tactic| walk_at "pyIter ref") => `(tactic| refine stop_mk ?_)
local macro_rules | `(tactic| walk_at "eval Name") => `(tactic| (k_here; (with_reducible show wpAny _ _ (eval (Expr.Name _ _) (compEnvC _ _ _ _)) _ _ _); k_dflt (refine' name_comp ?N ?c ?n ?v ?x ?k ?d ?_; (case N => k_asm); (case c => k_mem); (case n => assumption); (case v => rfl); (case x => rfl); (case k => rfl); (case d => decide); k_whole)))
local macro_rules | `(tactic| walk_at "call builtin:list.append") => `(tactic| (k_here; k_dflt ((show wpAny _ _ (call (Value.builtin _) [Value.ref _, _]) _ _ _); refine' append_K ?k1 ?k2 ?k3 ?_ ?z; (case k1 => k_asm); (case k2 => k_asm); (case k3 => k_upd); (case z => (simp only [List.size_toArray, Array.size_push]; rw [sizeLine_eq]; omega)); k_whole); intro h' F' N'; (try k_sweep); (try dsimp only)))
local macro_rules | `(tactic| walk_at "eval Constant str") => `(tactic| (refine' const_tx ?hz ?_; (case hz => with_reducible first | exact litS0 | exact litS1 | exact litS2 | exact litS3 | exact litS4 | exact litS5 | exact litS6 | exact litS7 | exact litS8 | exact litS9 | exact litS10 | exact litS11); intro tk9 tk8; (try dsimp only)))
local macro_rules | `(tactic| walk_at "call builtin:len") => `(tactic| (k_here; (with_reducible show wpAny _ _ (call (Value.builtin "len") [Value.str (tx _) _]) _ _ _); refine len_tx (by omega) ?_; intro tk9 tk8; (try dsimp only)))
local macro_rules | `(tactic| walk_at "compareOp Eq str str") => `(tactic| (first | refine eq_tx (by assumption) ?_ | refine eq_tx (b := true) (by k_dflt decide) ?_ | refine eq_tx (b := false) (by k_dflt decide) ?_))
local macro_rules | `(tactic| walk_at "compareOp NotEq str str") => `(tactic| (first | refine ne_tx (by assumption) ?_ | refine ne_tx (b := true) (by k_dflt decide) ?_ | refine ne_tx (b := false) (by k_dflt decide) ?_))
local macro_rules | `(tactic| walk_at "compareOp In str str") => `(tactic| (first | refine in_tx (by assumption) ?_ | refine in_tx (b := true) (by k_dflt decide) ?_ | refine in_tx (b := false) (by k_dflt decide) ?_))
local macro_rules | `(tactic| walk_at "binaryOp Add str str") => `(tactic| (refine add_tx (by first | assumption | (simp only [List.length_append, List.length_cons, List.length_nil]; omega)) ?_; intro tk9 tk8; (try dsimp only)))
local macro_rules | `(tactic| walk_at "inplaceOp Add str str") => `(tactic| (refine iadd_tx (by first | assumption | (simp only [List.length_append, List.length_cons, List.length_nil]; omega)) ?_; intro tk9 tk8; (try dsimp only)))
local macro_rules | `(tactic| walk_at "subscriptTail Name Name str int") => `(tactic| (refine item_tx (by assumption) (by omega) ?_; intro tk9 tk8; (try dsimp only)))
local macro_rules | `(tactic| walk_at "call type:list") => `(tactic| (k_here; (with_reducible show wpAny _ _ (call (Value.type "list") [Value.str (tx _) _]) _ _ _); k_dflt (refine' list_tx ?k0 ?kl ?k1 ?k2 ?_; (case k0 => exact rfl); (case kl => omega); (case k1 => k_asm); (case k2 => k_asm); k_whole); intro l' h' tk8 ys ep F' N' l1 hys; (try k_lt l1); (try k_sweep); (try dsimp only)))
local macro_rules | `(tactic| walk_at "setAttr ref") => `(tactic| (k_here; k_dflt (refine' setattr_fn_K ?k1 ?k2 ?k3 ?k4 ?_; (case k1 => k_asm); (case k2 => k_asm); (case k3 => k_updF); (case k4 => exact fn_read); k_whole); intro h' D' oD' tk8 F' N' nD' l1; (try dsimp only at N'); (try k_lt l1); (try k_sweep); (try dsimp only)))
local macro_rules | `(tactic| walk_at "getMethod ref") => `(tactic| (k_here; k_dflt (refine' getMethod_fn_K ?k1 ?k2 ?k3 ?k4 ?k5 ?k6 ?_; (case k1 => k_asm); (case k2 => k_mem); (case k4 => assumption); (case k3 => k_mem); (case k5 => rfl); (case k6 => exact fn_read); k_whole); intro tk8; (try dsimp only)))
local macro_rules | `(tactic| walk_at "eval Name") => `(tactic| (k_here; (with_reducible show wpAny _ _ (eval (Expr.Name _ _) (envX _ _ _ _ _ (_ :: _))) _ _ _); k_dflt (refine' nameX_F ?N ?c ?m ?d ?_ ?k ?x ?b ?n; (case k => rfl); (case x => rfl); (case N => k_asm); (case c => rfl); (case m => k_mem); (case d => k_asm); (case b => decide); (case n => decide); k_whole)))
local macro_rules | `(tactic| walk_at "call builtin:list.pop") => `(tactic| (k_here; k_dflt ((show wpAny _ _ (call (Value.builtin "list.pop") [Value.ref _, Value.int 0 _]) _ _ _); refine' pop0_K ?k1 ?k2 ?k3 ?z ?_; (case k1 => k_asm); (case k2 => k_asm); (case k3 => k_upd); (case z => omega); k_whole); intro h' F' N'; (try k_sweep); (try dsimp only)))
local macro_rules | `(tactic| walk_at "eval Name") => `(tactic| (k_here; (with_reducible show wpAny _ _ (eval (Expr.Name _ _) (compEnvC _ _ _ _)) _ _ _); k_dflt (refine' name_compC ?N ?c ?m ?d ?x ?k ?b ?_; (case x => rfl); (case N => k_asm); (case c => rfl); (case m => k_mem); (case d => rfl); (case k => rfl); (case b => decide); k_whole)))
local macro_rules | `(tactic| k_ne) => `(tactic| (refine neN ?_; (try dsimp only); first | with_reducible assumption | (refine Ne.symm ?_; with_reducible assumption)))
local macro_rules | `(tactic| walk_at "call builtin:len") => `(tactic| (k_here; (with_reducible show wpAny _ _ (call (Value.builtin "len") [Value.ref _]) _ _ _); k_dflt (refine' len_listK ?N ?m ?n ?k ?_; (case N => k_asm); (case m => k_mem); (case n => first | assumption | rfl); (case k => omega); k_whole); intro tk9 tk8; (try dsimp only)))
local macro_rules | `(tactic| walk_at "subscriptTail Name Name ref int") => `(tactic| (k_here; (with_reducible show wpAny _ _ (subscriptTail _ _ (Value.ref _) (Value.int _ _)) _ _ _); k_dflt (refine' item_listK ?N ?m ?x ?k ?_ ?s; (case N => k_asm); (case m => k_mem); (case x => assumption); (case k => omega); (case s => with_unfolding_all rfl); k_whole)))
section
/-- the body of one of the text's defs -/
def bodyOf (n : Str) : List Stmt := ((PySem.Challenge.pw_mq0139_01.main.body.filterMap fun st => match st with | .FunctionDef nm _ b _ _ _ _ _ _ _ => if nm == n then some b else none | _ => none).headD [])
def lamOf : Expr := match bodyOf "_law_stream" with | [_, _, .Assign _ v _, _] => v | _ => default
abbrev lamP : Arguments := { posonlyargs := [], args := [{ arg := Str.ofString "size", annotation := none, pos := ⟨80, 25, 80, 29⟩ }], vararg := none, kwonlyargs := [], kw_defaults := [], kwarg := none, defaults := [] }
def lamB : Expr := match lamOf with | .Lambda _ b _ _ => b | _ => default
abbrev lamS : Scope := { kind := .function, names := [(Str.ofString "size", .local), (Str.ofString "left", .free)], isGenerator := false, isCoroutine := false }
theorem reads_lam {w : World} {p : Program} {loose : List Str} {mean : ExcName → Option Value} {mg mb : Str → Option Value} {k : List (Addr × Obj)} {rd l cA c2 : Addr} {pm ct : Value} {oc2 oA : Obj}
    (hrd : (rd, kla_obj "<lambda>" qualL lamP lamB lamS [("left", cA)] pm c2 ct) ∈ k) (hc2 : (c2, oc2) ∈ k) (ok2 : CodeOk oc2) (hA : (cA, oA) ∈ k) (dA : oA.data = .cell (some (.ref l))) (hl : ∀ p ∈ k, p.1 ≠ l) :
    Reads1 w p loose mean mg mb k rd l := by
  intro ys xs ep tk hys hasc hxl
  unfold Gv
  intro dp un gd cn cs a ccd cl outer A₀ base h₀ L m s Q E B F X N T CH hk hd hu ret
  w_on
  revert X; k_fill; intro X
  refine hide fun G9 back9 => ?_
  obtain ⟨vs2, t2, d2, d3⟩ := ok2
  refine back9 ?_
  clear back9 G9
  refine' code_ownL (binds := [(Str.ofString "size", .int 1 tk)]) ?k1 ?k2 ?k3 ?k4 ?k5 ?kA ?kF ?kK ?k6 ?k7 ?k8 ?k9 ?kB ?_ ?c2 ?c3 ?c4 ?c5
  (case kA => exact rfl)
  (case kF => exact rfl)
  (case kK => assumption)
  (case k1 => k_asm)
  (case k2 => k_asm)
  (case k3 => k_asm)
  (case k4 => k_asm)
  (case k5 => k_asm)
  (case k6 => exact (N _ (.tail _ hrd)).1)
  (case k7 => exact codeRec_news N (.tail _ hc2) d2 d3)
  (case k8 => ktr_room)
  (case k9 => exact rfl)
  (case c5 => decide)
  (case kB => exact locs rfl)
  (case c2 => exact rfl)
  (case c3 => exact rfl)
  (case c4 => exact rfl)
  intro g' L' h' FG' F' N' B' X' T' GS
  show wpAny _ _ (eval (Expr.IfExp _ _ _ _) _) _ _ _
  (try dsimp only)
  (try k_fold)
  cases xs with
  | nil =>
    have := hys.none
    subst this
    k_steps
    rename News h₀ _ _ _ => N9
    rename News g' _ _ _ => N8
    rename Fr h₀ _ _ _ => F9
    rename Fr g' _ _ _ => F8
    have S9 := stays_of GS F8 N8
    exact ret _ _ _ _ F9 (news_sub N9 fun p hp => .tail _ hp) ⟨S9.1, fun p hp => S9.2 p (.tail _ hp)⟩ (.inl ⟨rfl, ⟨_, rfl⟩, rfl⟩)
  | cons x xs =>
    refine hide fun G9 back9 => ?_
    obtain ⟨v, ys', rfl, ⟨tkx, rfl⟩, hys'⟩ := hys.some
    refine back9 ?_
    clear back9 G9
    k_steps
    rename News g' _ _ _ => N8
    have e1 := N8.isList (.tail _ (.head _))
    have e2 := N8.isList (.head _)
    have hu9 : un + 3 + 64 < cLine := by omega
    refine ne_strs e1 e2 hys AreBy.nil hasc (fun _ h => nomatch h) hu9 (c := false) rfl ?_
    clear e1 e2
    have hxl' : ys'.length ≤ 100000 := by have := hys'.1; simp only [List.length_cons] at hxl; omega
    k_steps
    rename News h₀ _ _ _ => N9
    rename News g' _ _ _ => N8
    rename Fr h₀ _ _ _ => F9
    rename Fr g' _ _ _ => F8
    have S9 := stays_of GS F8 N8
    exact ret _ _ _ _ F9 (news_sub N9 fun p hp => .tail _ hp) ⟨S9.1, fun p hp => S9.2 p (.tail _ hp)⟩ (.inr ⟨x, xs, ys', _, rfl, ⟨_, rfl⟩, hys', rfl⟩)
end
section
theorem stream_new {w : World} {p : Program} {loose : List Str} {mean : ExcName → Option Value} {mg mb : Str → Option Value} (t : List Nat) (tq : Tok) (hlen : t.length ≤ 1000) :
  Gv w p loose mean mg mb (.ref 77) [.str (tx t) tq] 3 200 [(72, tabObj #[])] (fun r own' => ∃ st l ys ep sk tb, r = .ref st ∧ own' = (l, listOf ys.toArray ep) :: (sk ++ tb) ∧ Tab tb ∧ Stream w p loose mean mg mb (sk ++ tb) st l ∧ StrsAre ys (t.map fun c => [c])) := by
  unfold Gv
  intro dp un gd cn cs a ccd cl outer A₀ base h₀ L m s Q E B F X N T CH hk hd hu ret
  w_on
  revert X; k_fill; intro X
  (refine' code_ownC ?k1 ?k2 ?k3 ?k4 ?k5 ?kA ?kF ?kK ?k6 ?k7 ?k8 ?k9 ?kB ?kD ?_ ?c2 ?c3 ?c4; (case kA => exact rfl); (case kF => exact rfl); (case kK => first | assumption | exact rfl); (case k1 => k_asm); (case k2 => k_asm); (case k3 => k_asm); (case k4 => k_asm); (case k5 => k_asm); (case k6 => k_is); (case k7 => k_is); (case k8 => ktr_room); (case k9 => exact BindsTo.of_eq rfl); (case kB => exact rfl); (case kD => decide +kernel); (case c2 => exact rfl); (case c3 => exact rfl); (case c4 => exact rfl); k_whole)
  intro g' L' h' tk' cells' FG' F' N' Y' B' X' T' l1 GS
  (try k_lt l1)
  k_cells Y'
  (try simp only [List.cons_append, List.nil_append] at N')
  (try dsimp only)
  (try k_fold)
  k_steps
  rename News h₀ _ _ _ => N9
  rename News g' _ _ _ => N8
  rename Fr h₀ _ _ _ => F9
  rename Fr g' _ _ _ => F8
  rename NsObj _ _ => nD9
  rename StrsAre _ _ => hys9
  have S9 := stays_of GS F8 N8
  obtain ⟨own', hsub, hpost⟩ := stream_pack (w := w) (p := p) (loose := loose) (mean := mean) (mg := mg) (mb := mb) N9 ⟨_, _, by assumption, by assumption⟩ ⟨_, _, by assumption, by assumption⟩ nD9 hys9 (ltN (by omega)) (ltN (by omega)) rfl ⟨neN (by omega), neN (by omega), neN (by omega), neN (by omega), neN (by omega), neN (by omega), neN (by omega)⟩
    (fun hl => reads_lam (.tail _ (.head _)) (.tail _ (.tail _ (.tail _ (.tail _ (.tail _ (.tail _ (.head _))))))) ⟨_, _, by assumption, by assumption⟩ (.tail _ (.tail _ (.tail _ (.head _)))) (by assumption) hl)
  exact ret _ own' _ _ F9 (news_sub N9 hsub) ⟨S9.1, fun p hp => S9.2 p (hsub p hp)⟩ hpost
end
section
theorem stream_pack2 {w : World} {p : Program} {loose : List Str} {mean : ExcName → Option Value} {mg mb : Str → Option Value} {h₀ h : Heap} {L D rd c2 st c1 l cA : Addr} {oD ord oc2 oc1 oA : Obj} {fd : FuncData} {sl : Array (Option Value)} {ys : List Value} {ep : Nat} {xs : List (List Nat)}
    (_N : News h₀ L h ((D, oD) :: (rd, ord) :: (st, fnObj fd (some D) sl) :: (l, listOf ys.toArray ep) :: (cA, oA) :: (72, tab12 c1 c2) :: (c1, oc1) :: [(c2, oc2)]))
    (hc1 : CodeOk oc1) (hc2 : CodeOk oc2) (nD : NsObj oD (fun y => if y = "read" then some (.ref rd) else none)) (hys : StrsAre ys xs) (l1 : 72 < c1) (l2 : c1 < c2)
    {frd : FuncData} (hfr : ord.data = .func frd) (hne : D ≠ l ∧ rd ≠ l ∧ c2 ≠ l ∧ st ≠ l ∧ c1 ≠ l ∧ cA ≠ l ∧ 72 ≠ l)
    (R : (∀ q ∈ [(D, oD), (rd, ord), (st, fnObj fd (some D) sl), (cA, oA)] ++ [(72, tab12 c1 c2), (c1, oc1), (c2, oc2)], q.1 ≠ l) → Reads1 w p loose mean mg mb ([(D, oD), (rd, ord), (st, fnObj fd (some D) sl), (cA, oA)] ++ [(72, tab12 c1 c2), (c1, oc1), (c2, oc2)]) rd l) :
    ∃ own', (∀ p ∈ own', p ∈ ((D, oD) :: (rd, ord) :: (st, fnObj fd (some D) sl) :: (l, listOf ys.toArray ep) :: (cA, oA) :: (72, tab12 c1 c2) :: (c1, oc1) :: [(c2, oc2)])) ∧
      ∃ st' l' ys ep sk tb, Value.ref st = .ref st' ∧ own' = (l', listOf ys.toArray ep) :: (sk ++ tb) ∧ Tab tb ∧ Stream w p loose mean mg mb (sk ++ tb) st' l' ∧ StrsAre ys xs := by
  have hl : ∀ q ∈ [(D, oD), (rd, ord), (st, fnObj fd (some D) sl), (cA, oA)] ++ [(72, tab12 c1 c2), (c1, oc1), (c2, oc2)], q.1 ≠ l := by
    intro p hp
    simp only [List.mem_cons, List.mem_append, List.mem_nil_iff, or_false] at hp
    rcases hp with (rfl | rfl | rfl | rfl) | (rfl | rfl | rfl)
    · exact hne.1
    · exact hne.2.1
    · exact hne.2.2.2.1
    · exact hne.2.2.2.2.2.1
    · exact hne.2.2.2.2.2.2
    · exact hne.2.2.2.2.1
    · exact hne.2.2.1
  refine ⟨(l, listOf ys.toArray ep) :: ([(D, oD), (rd, ord), (st, fnObj fd (some D) sl), (cA, oA)] ++ [(72, tab12 c1 c2), (c1, oc1), (c2, oc2)]), fun p hp => ?_, st, l, ys, ep, _, _, rfl, rfl, .inr ⟨c1, c2, oc1, oc2, rfl, hc1, hc2, l1, l2⟩, ⟨D, oD, fd, sl, rd, ⟨ord, frd, by simp, hfr⟩, ?_, ?_, nD, R hl, hl⟩, hys⟩
  · simp only [List.mem_cons, List.mem_append, List.mem_nil_iff, or_false] at hp ⊢
    grind
  · simp
  · simp
theorem stream_hit {w : World} {p : Program} {loose : List Str} {mean : ExcName → Option Value} {mg mb : Str → Option Value} (t : List Nat) (tq : Tok) (hlen : t.length ≤ 1000) {c1 c2 : Addr} {oc1 oc2 : Obj} (hc1 : CodeOk oc1) (hc2 : CodeOk oc2) (lc1 : 72 < c1) (lc2 : c1 < c2) :
  Gv w p loose mean mg mb (.ref 77) [.str (tx t) tq] 3 200 [(72, tab12 c1 c2), (c1, oc1), (c2, oc2)] (fun r own' => ∃ st l ys ep sk tb, r = .ref st ∧ own' = (l, listOf ys.toArray ep) :: (sk ++ tb) ∧ Tab tb ∧ Stream w p loose mean mg mb (sk ++ tb) st l ∧ StrsAre ys (t.map fun c => [c])) := by
  unfold Gv
  intro dp un gd cn cs a ccd cl outer A₀ base h₀ L m s Q E B F X N T CH hk hd hu ret
  w_on
  revert X; k_fill; intro X
  replace lc1 := ltN lc1
  replace lc2 := ltN lc2
  (refine' code_ownC ?k1 ?k2 ?k3 ?k4 ?k5 ?kA ?kF ?kK ?k6 ?k7 ?k8 ?k9 ?kB ?kD ?_ ?c2 ?c3 ?c4; (case kA => exact rfl); (case kF => exact rfl); (case kK => first | assumption | exact rfl); (case k1 => k_asm); (case k2 => k_asm); (case k3 => k_asm); (case k4 => k_asm); (case k5 => k_asm); (case k6 => k_is); (case k7 => k_is); (case k8 => ktr_room); (case k9 => exact BindsTo.of_eq rfl); (case kB => exact rfl); (case kD => decide +kernel); (case c2 => exact rfl); (case c3 => exact rfl); (case c4 => exact rfl); k_whole)
  intro g' L' h' tk' cells' FG' F' N' Y' B' X' T' l1 GS
  (try k_lt l1)
  k_cells Y'
  (try simp only [List.cons_append, List.nil_append] at N')
  (try dsimp only)
  (try k_fold)
  k_steps
  rename News h₀ _ _ _ => N9
  rename News g' _ _ _ => N8
  rename Fr h₀ _ _ _ => F9
  rename Fr g' _ _ _ => F8
  rename NsObj _ _ => nD9
  rename StrsAre _ _ => hys9
  have S9 := stays_of GS F8 N8
  obtain ⟨own', hsub, hpost⟩ := stream_pack2 (w := w) (p := p) (loose := loose) (mean := mean) (mg := mg) (mb := mb) N9 hc1 hc2 nD9 hys9 lc1 lc2 rfl ⟨neN (by omega), neN (by omega), neN (by omega), neN (by omega), neN (by omega), neN (by omega), neN (by omega)⟩
    (fun hl => reads_lam (.tail _ (.head _)) (.tail _ (.tail _ (.tail _ (.tail _ (.tail _ (.tail _ (.head _))))))) hc2 (.tail _ (.tail _ (.tail _ (.head _)))) (by assumption) hl)
  exact ret _ own' _ _ F9 (news_sub N9 hsub) ⟨S9.1, fun p hp => S9.2 p (hsub p hp)⟩ hpost
theorem stream_ok {w : World} {p : Program} {loose : List Str} {mean : ExcName → Option Value} {mg mb : Str → Option Value} (t : List Nat) (tq : Tok) (hlen : t.length ≤ 1000) {tb : List (Addr × Obj)} (ht : Tab tb) :
  Gv w p loose mean mg mb (.ref 77) [.str (tx t) tq] 3 200 tb (fun r own' => ∃ st l ys ep sk tb, r = .ref st ∧ own' = (l, listOf ys.toArray ep) :: (sk ++ tb) ∧ Tab tb ∧ Stream w p loose mean mg mb (sk ++ tb) st l ∧ StrsAre ys (t.map fun c => [c])) := by
  rcases ht with rfl | ⟨c1, c2, oc1, oc2, rfl, h1, h2, h3, h4⟩
  · exact stream_new t tq hlen
  · exact stream_hit t tq hlen h1 h2 h3 h4
end
section
local macro_rules | `(tactic| walk_at "call ref") => `(tactic| refine stop_mk ?_)
theorem news_comm {h₀ h : Heap} {L : Addr} {a b : List (Addr × Obj)} (N : News h₀ L h (a ++ b)) : News h₀ L h (b ++ a) := news_sub N fun p hp => by
  rw [List.mem_append] at hp ⊢
  exact hp.symm
theorem lex_apart {x dx pb l : Addr} {o1 o2 o3 o4 : Obj} {k : List (Addr × Obj)} (xl : x ≠ l) (ld : l ≠ dx) (pl : pb ≠ l) (kx : ∀ p ∈ k, p.1 ≠ x) (kd : ∀ p ∈ k, p.1 ≠ dx) (kp : ∀ p ∈ k, p.1 ≠ pb) : Apart [(x, o1), (dx, o2), (pb, o3)] ((l, o4) :: k) := by
  intro q hq hm
  obtain ⟨r, hr, e⟩ := List.mem_map.mp hm
  simp only [List.mem_cons, List.mem_nil_iff, or_false] at hq hr
  rcases hr with rfl | hr
  · rcases hq with rfl | rfl | rfl
    · exact xl e.symm
    · exact ld e
    · exact pl e.symm
  · rcases hq with rfl | rfl | rfl
    · exact kx r hr e
    · exact kd r hr e
    · exact kp r hr e
theorem readch_ok {w : World} {p : Program} {loose : List Str} {mean : ExcName → Option Value} {mg mb : Str → Option Value} (X : Lx) (ok : LxOk X) (hS : Stream w p loose mean mg mb X.k X.st X.l) (n : Int) (tn : Tok) (ys : List Value) (xs : List (List Nat)) (ep : Nat) (hys : StrsAre ys xs) (hasc : ∀ x ∈ xs, Asc x) (hxl : xs.length ≤ 100000) (hn : 0 ≤ n) (hn2 : n ≤ 100000) :
  Gv w p loose mean mg mb (.ref 49) [.ref X.x] 5 300 (lexOwn w X n tn ys ep) (fun r own' => (xs = [] ∧ IsTx r [] ∧ own' = lexOwn w X n tn ys ep) ∨ (∃ x xs' ys' ep' n' tn', xs = x :: xs' ∧ IsTx r x ∧ StrsAre ys' xs' ∧ own' = lexOwn w X n' tn' ys' ep' ∧ 0 ≤ n' ∧ n' ≤ n + 1)) := by
  unfold Gv
  intro dp un gd cn cs a ccd cl outer A₀ base h₀ L m s Q E B F X₀ N T CH hk hd hu ret
  w_on
  revert X₀; k_fill; intro X₀
  refine hide fun G9 back9 => ?_
  obtain ⟨x, dx, pb, l, st, t1, t2, t3, t4, tw, e, k⟩ := X
  refine back9 ?_
  clear back9 G9
  refine hide fun G9 back9 => ?_
  obtain ⟨xd, pd, ld, kd, xl, pl, kl, kx, kp, xp⟩ := ok
  refine back9 ?_
  clear back9 G9
  refine hide fun G9 back9 => ?_
  obtain ⟨D, oD, fd, sl, rd, ⟨⟨oc, od, dt, slr⟩, frd, hrd, hfr⟩, hst, hD, nD, hR, hkl⟩ := hS
  refine back9 ?_
  clear back9 G9
  dsimp only at hfr
  subst hfr
  dsimp only [lexOwn, lexHd] at *
  replace xd := neN xd
  replace pd := neN pd
  replace ld := neN ld
  replace xl := neN xl
  replace pl := neN pl
  replace xp := neN xp
  (refine' code_defG ?k1 ?k2 ?k3 ?k4 ?k5 ?kA ?kF ?kK ?k6 ?k7 ?k8 ?k9 ?kB ?_ ?c2 ?c3 ?c4 ?c5; (case kA => exact rfl); (case kF => exact rfl); (case kK => first | assumption | exact rfl); (case k1 => k_asm); (case k2 => k_asm); (case k3 => k_asm); (case k4 => k_asm); (case k5 => k_asm); (case k6 => k_is); (case k7 => k_is); (case k8 => ktr_room); (case k9 => exact BindsTo.of_eq rfl); (case c5 => decide); (case kB => exact locs rfl); (case c2 => exact rfl); (case c3 => exact rfl); (case c4 => exact rfl); k_whole)
  intro g' L' h' FG' F' N' B' X' T' GS
  (try dsimp only)
  (try k_fold)
  k_steps
  unfold Stop
  rename News g' _ _ _ => N8
  rename Fr g' _ _ _ => F8
  have hap : Apart [(x, instObj 66 dx), (dx, lexDict w ⟨x, dx, pb, l, st, t1, t2, t3, t4, tw, e, k⟩ n tn), (pb, listOf #[] e)] ((l, listOf ys.toArray ep) :: k) := lex_apart xl ld pl kx kd kp
  refine gv_use (hR ys xs ep _ hys hasc hxl) N8 hap B' F8 X' T' CH rfl (by show dp + 1 + 3 < recursionLimit; omega) (by show un + 3 + 200 < cLine; omega) ?_
  intro r own' h₂ tk₂ F₂ N₂ ap₂ hp₂
  clear N8 F8
  rcases hp₂ with hA9 | hB9
  · refine hide fun G9 back9 => ?_
    obtain ⟨hx0, ⟨tkr, rfl⟩, rfl⟩ := hA9
    refine back9 ?_
    clear back9 G9
    k_steps
    rename News h₀ _ _ _ => N9
    rename News g' _ _ _ => N8
    rename Fr h₀ _ _ _ => F9
    rename Fr g' _ _ _ => F8
    exact ret _ _ _ _ F9 N9 (stays_of GS F8 N8) (.inl ⟨hx0, ⟨_, rfl⟩, rfl⟩)
  · refine hide fun G9 back9 => ?_
    obtain ⟨x1, xs1, ys1, ep1, rfl, ⟨tkr, rfl⟩, hys1, rfl⟩ := hB9
    refine back9 ?_
    clear back9 G9
    by_cases h10 : x1 = [10]
    · subst h10
      have N₃ := news_comm N₂
      clear N₂
      simp only [List.cons_append, List.nil_append] at N₃
      k_steps
      rename News h₀ _ _ _ => N9
      rename News g' _ _ _ => N8
      rename Fr h₀ _ _ _ => F9
      rename Fr g' _ _ _ => F8
      exact ret _ _ _ _ F9 (news_comm (a := lexHd w ⟨x, dx, pb, l, st, t1, t2, t3, t4, tw, e, k⟩ (n + 1) _) N9) (stays_of GS F8 (news_comm (a := lexHd w ⟨x, dx, pb, l, st, t1, t2, t3, t4, tw, e, k⟩ (n + 1) _) N8)) (.inr ⟨[10], xs1, ys1, ep1, n + 1, _, rfl, ⟨_, rfl⟩, hys1, rfl, by omega, by omega⟩)
    · have hb : (x1 == [10]) = false := by simpa using h10
      k_steps
      rename News h₀ _ _ _ => N9
      rename News g' _ _ _ => N8
      rename Fr h₀ _ _ _ => F9
      rename Fr g' _ _ _ => F8
      exact ret _ _ _ _ F9 N9 (stays_of GS F8 N8) (.inr ⟨x1, xs1, ys1, ep1, n, tn, rfl, ⟨_, rfl⟩, hys1, rfl, hn, by omega⟩)
end
section
open PySem PySem.W PyProof.Rows
set_option maxRecDepth 100000
set_option maxHeartbeats 1000000
theorem fn49 (params : Params) : ∃ oc od fd sl, (hd.heap_39 params).lookup 49 = some ⟨oc, od, .func fd, sl⟩ := ⟨_, _, _, _, rfl⟩
theorem asc_chs {t : List Nat} (h : Asc t) : ∀ x ∈ chs t, Asc x := by
  intro x hx c hc
  obtain ⟨d, hd, rfl⟩ := List.mem_map.mp hx
  rw [List.mem_singleton] at hc
  subst hc
  exact h c hd
theorem next_lex {w : World} {p : Program} {loose : List Str} {mean : ExcName → Option Value} {mg mb : Str → Option Value} (X : Lx) (ok : LxOk X) (hS : Stream w p loose mean mg mb X.k X.st X.l) (n : Int) (tn : Tok) (ys : List Value) (t : List Nat) (ep : Nat) (hys : StrsAre ys (chs t)) (hasc : Asc t) (hn : 0 ≤ n) (hn2 : n + t.length ≤ 100000)
    {dp un : Nat} {gd : Option (List Code)} {cn : Str} {cs : Scope} {a : Addr} {ccd : Value} {cl : List (Str × Addr)} {outer : List Env} {A₀ : Around} {base h₀ : Heap} {L : Addr} {m : Str → Option Value} {s : Shared} {Q : Option Value → Shared → Prop} {E : Value → Shared → Prop} {it q : Addr} {tk : Tok}
    (hap : Apart [(it, ciObj (.ref q) tk), (q, methodObj (.ref 49) (.ref X.x))] (lexOwn w X n tn ys ep)) (hiq : q ≠ it)
    (N : News h₀ L s.heap (lexOwn w X n tn ys ep ++ [(it, ciObj (.ref q) tk), (q, methodObj (.ref 49) (.ref X.x))])) (B : Below A₀ base outer h₀) (F : Fr h₀ L s.heap m) (X₀ : (hd.heap_39 w.params).In h₀) (T : Top p loose mean mg mb h₀) (CH : CodeHd base 76 72) (hk : cs.kind = .function) (h1 : dp + 5 < recursionLimit) (h2 : un + 301 < cLine)
    (hnil : t = [] → ∀ h' tk', Fr h₀ L h' m → News h₀ L h' (lexOwn w X n tn ys ep ++ [(it, ciEnd), (q, methodObj (.ref 49) (.ref X.x))]) → Q none { s with heap := h', toks := tk' })
    (hcons : ∀ c t' ys' ep' n' tn' tkc h' tk', t = c :: t' → StrsAre ys' (chs t') → 0 ≤ n' → n' ≤ n + 1 → Fr h₀ L h' m → News h₀ L h' (lexOwn w X n' tn' ys' ep' ++ [(it, ciObj (.ref q) tk), (q, methodObj (.ref 49) (.ref X.x))]) → Q (some (.str (tx [c]) tkc)) { s with heap := h', toks := tk' }) :
    wpAny (model PySem.Challenge.rw_mq0139_01.row.prog w) (ktrTop dp un gd cn cs L a ccd cl outer) (pyNext (.ref it)) Q E s := by
  obtain ⟨oc, od, fd, sl, hf⟩ := fn49 w.params
  have hN := N
  have mit : ∀ {o : List (Addr × Obj)} {x y : Addr × Obj}, x ∈ o ++ [x, y] := by intro o x y; simp
  have mq : ∀ {o : List (Addr × Obj)} {x y : Addr × Obj}, y ∈ o ++ [x, y] := by intro o x y; simp
  refine next_ci (f := 49) (q := q) (x := X.x) rfl (N _ mit).1 (N _ mq).1 ((X₀.keeps F.keep) _ _ hf) ?_
  intro E'
  refine readch_ok X ok hS n tn ys (chs t) ep hys (asc_chs hasc) (by simp; omega) hn (by omega) dp (un + 1) gd cn cs a ccd cl outer A₀ base h₀ L m s _ E' B F X₀ (news_sub N fun p hp => List.mem_append.mpr (.inl hp)) T CH hk h1 (by omega) ?_
  intro r own' h' tk' F' N' S hp
  have keepR : ∀ z ∈ [(it, ciObj (.ref q) tk), (q, methodObj (.ref 49) (.ref X.x))], h'.get? z.1 = some z.2 := fun z hz => S.1 _ _ (N z (List.mem_append.mpr (.inr hz))).1 (hap z hz)
  have N2 : News h₀ L h' (own' ++ [(it, ciObj (.ref q) tk), (q, methodObj (.ref 49) (.ref X.x))]) := by
    intro z hz
    rcases List.mem_append.mp hz with hz | hz
    · exact N' z hz
    · exact ⟨keepR z hz, (N z (List.mem_append.mpr (.inr hz))).2⟩
  have hapo : ∀ z ∈ own', z.1 ≠ it := by
    intro z hz e
    rcases S.2 z hz with h3 | h3
    · exact hap (it, ciObj (.ref q) tk) (by simp) (e ▸ h3)
    · rw [e, (N _ mit).1] at h3
      cases h3
  rcases hp with ⟨ht, ⟨tkr, rfl⟩, rfl⟩ | ⟨x1, xs1, ys1, ep1, n1, tn1, ht, ⟨tkr, rfl⟩, hys1, rfl, hn1, hn3⟩
  · have ht' : t = [] := by cases t with | nil => rfl | cons c t => cases ht
    refine ⟨[], tkr, rfl, (N2 _ mit).1, (N2 _ mq).1, (X₀.keeps F'.keep) _ _ hf, fun h => absurd rfl h, fun _ h'' e1 e2 => ?_⟩
    refine hnil ht' h'' tk' ?_ ?_
    · obtain ⟨oL, a1, a2, hoL, a3⟩ := F'.ns
      refine ⟨⟨oL, a1, a2, e2 _ _ (N _ mit).2.1.symm hoL, a3⟩, fun b x e => e2 _ _ ?_ (F'.keep b x e), F'.above⟩
      rintro rfl
      rw [(N _ mit).2.2] at e
      cases e
    · intro z hz
      rcases List.mem_append.mp hz with hz | hz
      · exact ⟨e2 _ _ (hapo z hz) (N2 z (List.mem_append.mpr (.inl hz))).1, (N2 z (List.mem_append.mpr (.inl hz))).2⟩
      · simp only [List.mem_cons, List.mem_nil_iff, or_false] at hz
        rcases hz with rfl | rfl
        · exact ⟨e1, (N2 _ mit).2⟩
        · exact ⟨e2 _ _ hiq (N2 _ mq).1, (N2 _ mq).2⟩
  · cases t with
    | nil => cases ht
    | cons c t' =>
      simp only [chs, List.map_cons, List.cons.injEq] at ht
      obtain ⟨rfl, rfl⟩ := ht
      refine ⟨[c], tkr, rfl, (N2 _ mit).1, (N2 _ mq).1, (X₀.keeps F'.keep) _ _ hf, fun _ => ?_, fun h => by cases h⟩
      exact hcons c t' ys1 ep1 n1 tn1 tkr h' tk' rfl hys1 hn1 hn3 F' N2
end
section
open PySem PySem.W PyProof.Rows
set_option maxRecDepth 100000
set_option maxHeartbeats 1000000
/-- the state between two signs -/
structure LexP (T : List Nat → List Nat → Prop) (len : Nat) (b : Int) (acc t : List Nat) (n : Int) (ys : List Value) : Prop where
  out : T acc t
  asc : Asc t
  len : acc.length + t.length ≤ len
  ys : StrsAre ys (chs t)
  n0 : 0 ≤ n
  nb : n + t.length ≤ b
/-- the state behind a sign c -/
structure LexC (T : List Nat → List Nat → Prop) (len : Nat) (b : Int) (acc : List Nat) (c : Nat) (t : List Nat) (n : Int) (ys : List Value) : Prop where
  out : T acc (c :: t)
  asc : Asc (c :: t)
  len : acc.length + t.length + 1 ≤ len
  ys : StrsAre ys (chs t)
  n0 : 0 ≤ n
  nb : n + t.length ≤ b
/-- the state at the end -/
structure LexE (z : List Nat × List Nat) (b : Int) (acc t : List Nat) (n : Int) (ys : List Value) : Prop where
  out : z = (acc, t)
  ys : StrsAre ys (chs t)
  n0 : 0 ≤ n
  nb : n + t.length ≤ b
section
variable {T T' : List Nat → List Nat → Prop} {len : Nat} {b : Int} {acc t : List Nat} {n : Int} {ys : List Value} {c : Nat}
theorem LexC.skip (C : LexC T len b acc c t n ys) (h : T acc (c :: t) → T' acc t) : LexP T' len b acc t n ys := ⟨h C.out, fun d hd => C.asc d (.tail _ hd), Nat.le_of_succ_le C.len, C.ys, C.n0, C.nb⟩
theorem LexC.plain (C : LexC T len b acc c t n ys) (h : T acc (c :: t) → T' (acc ++ [c]) t) : LexP T' len b (acc ++ [c]) t n ys := ⟨h C.out, fun d hd => C.asc d (.tail _ hd), by have := C.len; simp only [List.length_append, List.length_cons, List.length_nil]; omega, C.ys, C.n0, C.nb⟩
theorem LexC.turn (C : LexC T len b acc c t n ys) (h : T acc (c :: t) → T' acc (c :: t)) : LexC T' len b acc c t n ys := ⟨h C.out, C.asc, C.len, C.ys, C.n0, C.nb⟩
theorem LexC.fin {z : List Nat × List Nat} (C : LexC T len b acc c t n ys) (h : T acc (c :: t) → z = (acc, t)) : LexE z b acc t n ys := ⟨h C.out, C.ys, C.n0, C.nb⟩
theorem LexP.room (C : LexP T len b acc t n ys) (h : len ≤ 100000) : acc.length ≤ 100000 := Nat.le_trans (Nat.le_trans (Nat.le_add_right _ _) C.len) h
end
def LexJ (T : List Nat → List Nat → Prop) (z : List Nat × List Nat) (len : Nat) (b : Int) (w : World) (X : Lx) (it q : Addr) (tk : Tok) (k : Nat) (m : Str → Option Value) (nw : List (Addr × Obj)) : Prop :=
  ∃ acc t n tn ys ep tka, (m "self" = some (.ref X.x) ∧ m "token" = some (.str (tx acc) tka) ∧ m "fiter" = some (.ref it)) ∧ ((LexP T len b acc t n ys ∧ nw = (lexOwn w X n tn ys ep ++ [(it, ciObj (.ref q) tk), (q, methodObj (.ref 49) (.ref X.x))]) ∧ k = t.length + 1) ∨ (LexE z b acc t n ys ∧ nw = (lexOwn w X n tn ys ep ++ [(it, ciEnd), (q, methodObj (.ref 49) (.ref X.x))]) ∧ k = 0))
section
variable {w : World} {p : Program} {loose : List Str} {mean : ExcName → Option Value} {mg mb : Str → Option Value} {T : List Nat → List Nat → Prop} {z : List Nat × List Nat} {len : Nat} {b : Int}
    {dp un : Nat} {gd : Option (List Code)} {cn : Str} {cs : Scope} {a : Addr} {ccd : Value} {cl : List (Str × Addr)} {outer : List Env} {A₀ : Around} {base h₀ : Heap} {L : Addr} {m : Str → Option Value} {s : Shared} {Q : Flow → Shared → Prop} {E : Value → Shared → Prop} {it q : Addr} {tk : Tok} {acc t : List Nat} {n n₀ : Int} {tn tn₀ tka : Tok} {ys ys₀ : List Value} {ep ep₀ : Nat}
theorem for_lex {env : Env} {target : Expr} {body : List Stmt} (X : Lx) (ok : LxOk X) (hS : Stream w p loose mean mg mb X.k X.st X.l) (hT0 : ∀ acc, T acc [] → z = (acc, [])) (hb : b ≤ 100000)
    (hap : ∀ o1 o2, Apart [(it, o1), (q, o2)] (lexOwn w X n₀ tn₀ ys₀ ep₀)) (hiq : q ≠ it)
    (B : Below A₀ base outer h₀) (X₀ : (hd.heap_39 w.params).In h₀) (Tp : Top p loose mean mg mb h₀) (CH : CodeHd base 76 72) (hk : cs.kind = .function) (h1 : dp + 5 < recursionLimit) (h2 : un + 301 < cLine)
    (F : Fr h₀ L s.heap m) (N : News h₀ L s.heap ((X.x, instObj 66 X.dx) :: (X.dx, lexDict w X n tn) :: (X.pb, listOf #[] X.e) :: (it, ciObj (.ref q) tk) :: (q, methodObj (.ref 49) (.ref X.x)) :: (X.l, listOf ys.toArray ep) :: X.k)) (H : LexP T len b acc t n ys) (m1 : m "self" = some (.ref X.x)) (m2 : m "token" = some (.str (tx acc) tka)) (m3 : m "fiter" = some (.ref it))
    (hnil : ∀ acc t n tn ys ep tka m h tk', LexE z b acc t n ys → Fr h₀ L h (frm [("self", .ref X.x), ("token", .str (tx acc) tka), ("fiter", .ref it)] m) → News h₀ L h (lexOwn w X n tn ys ep ++ [(it, ciEnd), (q, methodObj (.ref 49) (.ref X.x))]) → Q .next { s with heap := h, toks := tk' })
    (hcons : ∀ c t acc n tn ys ep tka tkc m h tk' (R : Flow → Shared → Prop),
      (∀ fl t' acc n tn ys ep tka m h tk', (fl = .next ∨ fl = .cont) → LexP T len b acc t' n ys → t'.length ≤ t.length → Fr h₀ L h m → News h₀ L h ((X.x, instObj 66 X.dx) :: (X.dx, lexDict w X n tn) :: (X.pb, listOf #[] X.e) :: (it, ciObj (.ref q) tk) :: (q, methodObj (.ref 49) (.ref X.x)) :: (X.l, listOf ys.toArray ep) :: X.k) → m "self" = some (.ref X.x) → m "token" = some (.str (tx acc) tka) → m "fiter" = some (.ref it) →  R fl { s with heap := h, toks := tk' }) →
      (∀ t' acc n tn ys ep tka m h tk', LexE z b acc t' n ys → Fr h₀ L h m → News h₀ L h (lexOwn w X n tn ys ep ++ [(it, ciEnd), (q, methodObj (.ref 49) (.ref X.x))]) → m "self" = some (.ref X.x) → m "token" = some (.str (tx acc) tka) → m "fiter" = some (.ref it) →  R .next { s with heap := h, toks := tk' }) →
      (∀ v s', Q (.ret v) s' → R (.ret v) s') →
      LexC T len b acc c t n ys → Fr h₀ L h (frm [("self", .ref X.x), ("token", .str (tx acc) tka), ("fiter", .ref it)] m) → News h₀ L h ((X.x, instObj 66 X.dx) :: (X.dx, lexDict w X n tn) :: (X.pb, listOf #[] X.e) :: (it, ciObj (.ref q) tk) :: (q, methodObj (.ref 49) (.ref X.x)) :: (X.l, listOf ys.toArray ep) :: X.k) →
      wpAny (model PySem.Challenge.rw_mq0139_01.row.prog w) (ktrTop dp un gd cn cs L a ccd cl outer) (assign target env (.str (tx [c]) tkc)) (fun _ s₃ => wpAny (model PySem.Challenge.rw_mq0139_01.row.prog w) (ktrTop dp un gd cn cs L a ccd cl outer) (execs body env) R E s₃) E { s with heap := h, toks := tk' })
    (hE : PassesOwn (model PySem.Challenge.rw_mq0139_01.row.prog w) (ktrTop dp un gd cn cs L a ccd cl outer) env E := by passes_own) (ht : ∀ v, letOwnedTupleGo target (.ref it) v = pure () := by intro _; rfl) :
    codeAny (model PySem.Challenge.rw_mq0139_01.row.prog w) (ktrTop dp un gd cn cs L a ccd cl outer) (.forLoop target (.ref it) body [] env) (fun r s' => match r with | .ok f => Q f s' | .error e => cameBackBy (model PySem.Challenge.rw_mq0139_01.row.prog w) (ktrTop dp un gd cn cs L a ccd cl outer) env E e s') s := by
  refine for_inv (n₀ := t.length + 1) (LexJ T z len b w X it q tk) F (lex_back N) ⟨acc, t, n, tn, ys, ep, tka, ⟨m1, m2, m3⟩, .inl ⟨H, rfl, rfl⟩⟩ ?_ hE ht
  rintro k m₁ news₁ h₁ tk₁ F₁ N₁ ⟨acc, t, n, tn, ys, ep, tka, ⟨m1, m2, m3⟩, J⟩
  have hfr : ∀ x ∈ ([("self", .ref X.x), ("token", .str (tx acc) tka), ("fiter", .ref it)] : List (Str × Value)), m₁ x.1 = some x.2 := by
    simp only [List.mem_cons, List.mem_nil_iff, or_false]
    rintro x (rfl | rfl | rfl) <;> assumption
  rcases J with ⟨H, rfl, rfl⟩ | ⟨H, rfl, rfl⟩
  · refine next_lex X ok hS n tn ys t ep H.ys H.asc H.n0 (Int.le_trans H.nb hb) (apart_any (hap (ciObj (.ref q) tk) (methodObj (.ref 49) (.ref X.x)))) hiq N₁ B F₁ X₀ Tp CH hk h1 h2 ?_ ?_
    · intro e h' tk' F' N'
      subst e
      exact hnil acc [] n tn ys ep tka m₁ h' tk' ⟨hT0 _ H.out, H.ys, H.n0, H.nb⟩ (fr_as F' _ hfr) N'
    · intro c t' ys' ep' n' tn' tkc h' tk' e hys' hn0 hn1 F' N'
      subst e
      have hl := H.len
      have hnb := H.nb
      simp only [List.length_cons] at hl hnb
      refine hcons c t' acc n' tn' ys' ep' tka tkc m₁ h' tk' _ ?_ ?_ (fun v s' x => x) ⟨H.out, H.asc, by omega, hys', hn0, by omega⟩ (fr_as F' _ hfr) (lex_flat N')
      · intro fl t₂ acc₂ n₂ tn₂ ys₂ ep₂ tka₂ m₂ h₂ tk₂ hfl H₂ hl₂ F₂ N₂ q1 q2 q3
        have hJ : LexJ T z len b w X it q tk (t₂.length + 1) m₂ (lexOwn w X n₂ tn₂ ys₂ ep₂ ++ [(it, ciObj (.ref q) tk), (q, methodObj (.ref 49) (.ref X.x))]) := ⟨acc₂, t₂, n₂, tn₂, ys₂, ep₂, tka₂, ⟨q1, q2, q3⟩, .inl ⟨H₂, rfl, rfl⟩⟩
        have hlt : t₂.length + 1 < (c :: t').length + 1 := Nat.succ_lt_succ (Nat.lt_succ_of_le hl₂)
        rcases hfl with rfl | rfl
        · exact ⟨h₂, tk₂, m₂, _, _, rfl, F₂, lex_back N₂, hlt, hJ⟩
        · exact ⟨h₂, tk₂, m₂, _, _, rfl, F₂, lex_back N₂, hlt, hJ⟩
      · intro t₂ acc₂ n₂ tn₂ ys₂ ep₂ tka₂ m₂ h₂ tk₂ H₂ F₂ N₂ q1 q2 q3
        exact ⟨h₂, tk₂, m₂, _, 0, rfl, F₂, N₂, Nat.succ_pos _, acc₂, t₂, n₂, tn₂, ys₂, ep₂, tka₂, ⟨q1, q2, q3⟩, .inr ⟨H₂, rfl, rfl⟩⟩
  · refine next_lexEnd rfl F₁ N₁ (by simp) ?_
    intro h' F' N'
    exact hnil acc t n tn ys ep tka m₁ h' tk₁ H (fr_as F' _ hfr) N'
/-- an If whose ways meet: the sign that is added stands in ch -/
theorem esc_cut {A : Around} {c : Sem Flow} {X : Lx} (lt : Nat) (tk : Tok) (it q : Addr) (T : List Nat → List Nat → Prop) (acc : List Nat) (len : Nat) (b : Int) (h₀ : Heap) (L : Addr)
    (h : ∀ R : Flow → Shared → Prop, (∀ y t n tn ys ep tka tkc m h tk', LexP T len b (acc ++ y) t n ys → t.length ≤ lt → Fr h₀ L h m → News h₀ L h ((X.x, instObj 66 X.dx) :: (X.dx, lexDict w X n tn) :: (X.pb, listOf #[] X.e) :: (it, ciObj (.ref q) tk) :: (q, methodObj (.ref 49) (.ref X.x)) :: (X.l, listOf ys.toArray ep) :: X.k) → m "self" = some (.ref X.x) → m "token" = some (.str (tx acc) tka) → m "fiter" = some (.ref it) →  m "ch" = some (.str (tx y) tkc) → R .next { s with heap := h, toks := tk' }) → wpAny (model PySem.Challenge.rw_mq0139_01.row.prog w) A c R E s)
    (k : ∀ y t n tn ys ep tka tkc m h tk', LexP T len b (acc ++ y) t n ys → t.length ≤ lt → Fr h₀ L h (frm [("self", .ref X.x), ("token", .str (tx acc) tka), ("fiter", .ref it), ("ch", .str (tx y) tkc)] m) → News h₀ L h ((X.x, instObj 66 X.dx) :: (X.dx, lexDict w X n tn) :: (X.pb, listOf #[] X.e) :: (it, ciObj (.ref q) tk) :: (q, methodObj (.ref 49) (.ref X.x)) :: (X.l, listOf ys.toArray ep) :: X.k) → Q .next { s with heap := h, toks := tk' }) :
    wpAny (model PySem.Challenge.rw_mq0139_01.row.prog w) A c Q E s := by
  refine wpAny_mono (h (fun f s' => f = .next ∧ Q .next s') ?_) (fun f s' x => ?_) fun _ _ x => x
  · intro y t n tn ys ep tka tkc m h tk' H hl F N m1 m2 m3 m4
    refine ⟨rfl, k y t n tn ys ep tka tkc m h tk' H hl (fr_as F _ ?_) N⟩
    simp only [List.mem_cons, List.mem_nil_iff, or_false]
    rintro x (rfl | rfl | rfl | rfl) <;> assumption
  · obtain ⟨rfl, x⟩ := x
    exact x
/-- the reading of an escaped sign -/
theorem read_esc {Q : Value → Shared → Prop} (X : Lx) (ok : LxOk X) (hS : Stream w p loose mean mg mb X.k X.st X.l) (hT0 : ∀ acc, T acc [92] → T (acc ++ []) []) (hTb : ∀ acc d t, T acc (92 :: d :: t) → T (acc ++ [d]) t) (hb : b ≤ 100000) (hl : len ≤ 100000)
    (H : LexC T len b acc 92 t n ys) (N : News h₀ L s.heap ((X.x, instObj 66 X.dx) :: (X.dx, lexDict w X n tn) :: (X.pb, listOf #[] X.e) :: (it, ciObj (.ref q) tk) :: (q, methodObj (.ref 49) (.ref X.x)) :: (X.l, listOf ys.toArray ep) :: X.k)) (hap : ∀ o1 o2, Apart [(it, o1), (q, o2)] (lexOwn w X n₀ tn₀ ys₀ ep₀)) (B : Below A₀ base outer h₀) (F : Fr h₀ L s.heap m) (X₀ : (hd.heap_39 w.params).In h₀) (Tp : Top p loose mean mg mb h₀) (CH : CodeHd base 76 72) (hk : cs.kind = .function) (h1 : dp + 5 < recursionLimit) (h2 : un + 300 < cLine)
    (h : ∀ y t' n tn ys ep tkr h tk', LexP T len b (acc ++ y) t' n ys → t'.length ≤ t.length → Fr h₀ L h m → News h₀ L h ((X.x, instObj 66 X.dx) :: (X.dx, lexDict w X n tn) :: (X.pb, listOf #[] X.e) :: (it, ciObj (.ref q) tk) :: (q, methodObj (.ref 49) (.ref X.x)) :: (X.l, listOf ys.toArray ep) :: X.k) → Q (.str (tx y) tkr) { s with heap := h, toks := tk' }) :
    wpAny (model PySem.Challenge.rw_mq0139_01.row.prog w) (ktrTop dp un gd cn cs L a ccd cl outer) (call (.ref 49) [.ref X.x]) Q E s := by
  have hlen := H.len
  have hnb := H.nb
  have hn0 := H.n0
  refine gv_use (readch_ok X ok hS n tn ys (chs t) ep H.ys (asc_chs fun c hc => H.asc c (.tail _ hc)) (by simp only [chs, List.length_map]; omega) H.n0 (by omega)) (lex_back N) (apart_any (hap (ciObj (.ref q) tk) (methodObj (.ref 49) (.ref X.x)))) B F X₀ Tp CH hk h1 h2 ?_
  intro r own' h₄ tk₄ F₄ N₄ _ hp
  rcases hp with ⟨h0, ⟨tkr, rfl⟩, rfl⟩ | ⟨x1, xs1, ys6, ep6, n6, tn6, hx1, ⟨tkr, rfl⟩, hys6, rfl, hn6, hn7⟩
  · have ht : t = [] := by cases t with | nil => rfl | cons c t => cases h0
    subst ht
    exact h [] [] n tn ys ep tkr h₄ tk₄ ⟨hT0 _ H.out, (fun c hc => nomatch hc), by simp only [List.length_append, List.length_nil] at hlen ⊢; omega, H.ys, H.n0, H.nb⟩ (Nat.le_refl _) F₄ (lex_flat N₄)
  · cases t with
    | nil => cases hx1
    | cons d t6 =>
      simp only [chs, List.map_cons, List.cons.injEq] at hx1
      obtain ⟨rfl, rfl⟩ := hx1
      simp only [List.length_cons] at hlen hnb
      exact h [d] t6 n6 tn6 ys6 ep6 tkr h₄ tk₄ ⟨hTb _ _ _ H.out, fun c hc => H.asc c (.tail _ (.tail _ hc)), by simp only [List.length_append, List.length_cons, List.length_nil]; omega, hys6, hn6, by omega⟩ (by simp only [List.length_cons]; omega) F₄ (lex_flat N₄)
end
theorem tok_p {c : Nat} {t : List Nat} (h1 : ¬ isWs c = true) (h2 : c ≠ 34) : tok (c :: t) = tokP [] (c :: t) := by
  by_cases h3 : c = 92
  · subst h3
    cases t with
    | nil => rw [tok_b0, tokP_b0]
    | cons d t => rw [tok_b, tokP_b]; rfl
  · rw [tok_c t h1 h2 h3, tokP_c [] t (by simpa using h1) h3]; rfl
theorem tokP_e (acc : List Nat) : tokP acc [92] = tokP (acc ++ []) [] := by rw [tokP_b0, tokP, List.append_nil]
theorem tokQ_e (acc : List Nat) : tokQ acc [92] = tokQ (acc ++ []) [] := by rw [tokQ_b0, tokQ, List.append_nil]
/-- what the call answers -/
theorem tok_post {w : World} {X : Lx} {t acc t' : List Nat} {b n : Int} {tn tka : Tok} {ys : List Value} {ep : Nat} (H : LexE (tok t) b acc t' n ys) :
    IsTx (.str (tx acc) tka) (tok t).1 ∧ ∃ n' tn' ys' ep', lexOwn w X n tn ys ep = lexOwn w X n' tn' ys' ep' ∧ StrsAre ys' (chs (tok t).2) ∧ 0 ≤ n' ∧ n' + (tok t).2.length ≤ b := by
  rw [H.out]
  exact ⟨⟨_, rfl⟩, n, tn, ys, ep, rfl, H.ys, H.n0, H.nb⟩
end
section
local macro_rules | `(tactic| walk_at "call ref") => `(tactic| refine stop_mk ?_)
local macro_rules | `(tactic| walk_at "call builtin:iter") => `(tactic| (k_here; (with_reducible show wpAny _ _ (call (Value.builtin "iter") [Value.ref _, _]) _ _ _); k_dflt (refine' iter2_K ?k1 ?k2 ?k3 ?_; (case k1 => k_asm); (case k2 => k_asm); (case k3 => k_mem); k_whole; intro it9 h9 F9 N9 l9; (try dsimp only))))
theorem truthy_nil_K {prog : Program} {w : World} {A : Around} {E : Value → Shared → Prop} {s : Shared} {h₀ : Heap} {L p : Addr} {e : Nat} {news : List (Addr × Obj)} {Q : Bool → Shared → Prop} (N : News h₀ L s.heap news) (hm : (p, listOf #[] e) ∈ news) (h : ∀ tk, Q false { s with toks := tk }) : wpAny (model prog w) A (truthy (.ref p)) Q E s :=
  wpAny_truthy_list (items := #[]) ⟨_, (N _ hm).1, rfl, _, rfl⟩ (by decide) (h _)
local macro_rules | `(tactic| walk_at "truthy ref") => `(tactic| (k_here; (with_reducible show wpAny _ _ (truthy (Value.ref _)) _ _ _); k_dflt (refine' truthy_nil_K ?k2 ?k3 ?_; (case k2 => k_asm); (case k3 => k_mem); k_whole); intro tk9; (try dsimp only)))
local macro_rules | `(tactic| walk_at "exec If") => `(tactic| ((with_reducible show wpAny _ _ (exec (Stmt.If _ [Stmt.Assign _ _ _] [] _) _) _ _ _); refine stop_mk ?_))
theorem gettok_ok {w : World} {p : Program} {loose : List Str} {mean : ExcName → Option Value} {mg mb : Str → Option Value} (X : Lx) (ok : LxOk X) (hS : Stream w p loose mean mg mb X.k X.st X.l) (n : Int) (tn : Tok) (ys : List Value) (t : List Nat) (ep : Nat) (hys : StrsAre ys (chs t)) (hasc : Asc t) (hn : 0 ≤ n) (hn2 : n + t.length ≤ 100000) :
  Gv w p loose mean mg mb (.ref 56) [.ref X.x] 10 400 (lexOwn w X n tn ys ep) (fun r own' => IsTx r (tok t).1 ∧ ∃ n' tn' ys' ep', own' = lexOwn w X n' tn' ys' ep' ∧ StrsAre ys' (chs (tok t).2) ∧ 0 ≤ n' ∧ n' + (tok t).2.length ≤ n + t.length) := by
  unfold Gv
  intro dp un gd cn cs a ccd cl outer A₀ base h₀ L m s Q E B F X₀ N T CH hk hd hu ret
  w_on
  revert X₀; k_fill; intro X₀
  have ok' := ok
  refine hide fun G9 back9 => ?_
  obtain ⟨xd, pd, ld, kd, xl, pl, kl, kx, kp, xp⟩ := ok
  refine back9 ?_
  clear back9 G9
  dsimp only [lexOwn, lexHd] at *
  replace xd := neN xd
  replace pd := neN pd
  replace ld := neN ld
  replace xl := neN xl
  replace pl := neN pl
  replace xp := neN xp
  (refine' code_defG ?k1 ?k2 ?k3 ?k4 ?k5 ?kA ?kF ?kK ?k6 ?k7 ?k8 ?k9 ?kB ?_ ?c2 ?c3 ?c4 ?c5; (case kA => exact rfl); (case kF => exact rfl); (case kK => first | assumption | exact rfl); (case k1 => k_asm); (case k2 => k_asm); (case k3 => k_asm); (case k4 => k_asm); (case k5 => k_asm); (case k6 => k_is); (case k7 => k_is); (case k8 => ktr_room); (case k9 => exact BindsTo.of_eq rfl); (case c5 => decide); (case kB => exact locs rfl); (case c2 => exact rfl); (case c3 => exact rfl); (case c4 => exact rfl); k_whole)
  intro g' L' h' FG' F' N' B' X' T' GS
  (try dsimp only)
  (try k_fold)
  k_steps
  refine wpAny_For ?_
  k_steps
  unfold Stop
  rename News g' _ _ _ => N8
  rename Fr g' _ _ _ => F8
  rename_i q h1 l8 tkq tk8 it h9 l9 h8
  obtain ⟨hap, hqi⟩ := apart_two l9 l8
  clear l9 l8
  refine iter_ci (N8 _ (.head _)).1 rfl ?_
  have N9 := lex_flat (news_comm (a := [_, _]) N8)
  clear N8
  have hbb : n + t.length ≤ 100000 := hn2
  have htl : t.length ≤ 100000 := by omega
  refine for_lex (tk := tkq) (q := q) (T := fun acc t' => acc = [] ∧ tok t' = tok t) (z := tok t) (len := t.length) (b := n + t.length) X ok' hS (fun acc e => by rw [← e.2, e.1, tok]) hbb hap hqi B' X' T' CH rfl (by show dp + 1 + 5 < recursionLimit; omega) (by show un + 3 + 301 < cLine; omega) F8 N9 ⟨⟨rfl, rfl⟩, hasc, by rw [List.length_nil, Nat.zero_add]; exact Nat.le_refl _, hys, hn, Int.le_refl _⟩ rfl rfl rfl ?_ ?_
  · clear F8 N9
    intro acc t₃ n₃ tn₃ ys₃ ep₃ tka₃ m₃ h₃ tk₃ E₃ F₃ N₃
    refine show wpAny _ _ _ _ _ _ from ?_
    (try k_fold)
    k_steps
    rename News h₀ _ _ _ => N9
    rename News g' _ _ _ => N8
    rename Fr h₀ _ _ _ => F9
    rename Fr g' _ _ _ => F8
    exact ret _ _ _ _ F9 (news_sub (N9) fun p hp => List.mem_append.mpr (.inl hp)) (stays_of GS F8 (news_sub (N8) fun p hp => List.mem_append.mpr (.inl hp))) (tok_post E₃)
  · clear F8 N9
    intro c t2 acc n2 tn2 ys2 ep2 tka tkc m₁ h₁ tk₁ R1 hR1 hR1e hR1r C F₃ N₃
    obtain rfl := C.out.1
    by_cases hws : isWs c = true
    · have hin : [10, 9, 13, 32].contains c = true := hws
      refine show wpAny _ _ _ _ _ _ from ?_
      (try k_fold)
      k_steps
      rename News g' _ _ _ => N8
      rename Fr g' _ _ _ => F8
      exact hR1 _ _ _ _ _ _ _ _ _ _ _ (.inr rfl) (C.skip fun e => ⟨rfl, (tok_w hws).symm.trans e.2⟩) (Nat.le_refl _) F8 N8 rfl rfl rfl
    · have hin : [10, 9, 13, 32].contains c = false := by simpa [isWs] using hws
      by_cases h34 : c = 34
      · subst h34
        refine show wpAny _ _ _ _ _ _ from ?_
        (try k_fold)
        k_steps
        refine wpAny_For ?_
        k_steps
        unfold Stop
        rename News g' _ _ _ => N8
        rename Fr g' _ _ _ => F8
        refine iter_ci (N8 _ (.tail _ (.tail _ (.tail _ (.head _))))).1 rfl ?_
        refine for_lex (tk := tkq) (q := q) (T := (fun acc t' => tokQ acc t' = tok t)) (z := tok t) (len := t.length) (b := n + t.length) X ok' hS (fun acc e => e.symm.trans (by rw [tokQ])) hbb hap hqi B' X' T' CH rfl (by show dp + 1 + 5 < recursionLimit; omega) (by show un + 3 + 301 < cLine; omega) F8 N8 (C.skip fun e => (tok_q t2).symm.trans e.2) rfl rfl rfl ?_ ?_
        · clear F8 N8
          intro acc t₃ n₃ tn₃ ys₃ ep₃ tka₃ m₃ h₃ tk₃ E₃ F₃ N₃
          refine show wpAny _ _ _ _ _ _ from ?_
          (try k_fold)
          k_steps
          rename News g' _ _ _ => N8
          rename Fr g' _ _ _ => F8
          exact hR1e _ _ _ _ _ _ _ _ _ _ E₃ F8 N8 rfl rfl rfl
        · clear F8 N8
          intro c t5 acc n5 tn5 ys5 ep5 tka5 tkc5 m₅ h₅ tk₅ R2 hR2 _ hR2r C5 F₅ N₅
          by_cases h34 : c = 34
          · subst h34
            refine show wpAny _ _ _ _ _ _ from ?_
            (try k_fold)
            k_steps
            refine hR2r _ _ ?_
            (try dsimp only)
            k_steps
            refine hR1r _ _ ?_
            (try dsimp only)
            k_steps
            rename News h₀ _ _ _ => N9
            rename News g' _ _ _ => N8
            rename Fr h₀ _ _ _ => F9
            rename Fr g' _ _ _ => F8
            exact ret _ _ _ _ F9 (news_sub (lex_back N9) fun p hp => List.mem_append.mpr (.inl hp)) (stays_of GS F8 (news_sub (lex_back N8) fun p hp => List.mem_append.mpr (.inl hp))) (tok_post (C5.fin fun e => e.symm.trans (tokQ_q acc t5)))
          · have hb34 : (([c] : List Nat) == [34]) = false := by simp [h34]
            refine show wpAny _ _ _ _ _ _ from ?_
            (try k_fold)
            k_steps
            unfold Stop
            refine esc_cut (X := X) t5.length tkq it q (fun acc t' => tokQ acc t' = tok t) acc t.length (n + t.length) g' L' ?_ ?_
            · intro R9 hR9
              refine wpAny_If ?_
              by_cases h92 : c = 92
              · subst h92
                k_steps
                unfold Stop
                rename News g' _ _ _ => N8
                rename Fr g' _ _ _ => F8
                refine read_esc (tk := tkq) (it := it) (q := q) X ok' hS (fun acc e => (tokQ_e acc).symm.trans e) (fun acc d t e => (tokQ_b acc t d).symm.trans e) hbb htl C5 N8 hap B' F8 X' T' CH rfl (by show dp + 1 + 5 < recursionLimit; omega) (by show un + 3 + 300 < cLine; omega) ?_
                intro y t' n6 tn6 ys6 ep6 tkr h₄ tk₄ H6 hl6 F₄ N₄
                clear N8 F8
                k_steps
                rename News g' _ _ _ => N8
                rename Fr g' _ _ _ => F8
                exact hR9 _ _ _ _ _ _ _ _ _ _ _ H6 hl6 F8 N8 rfl rfl rfl rfl
              · have hb92 : (([c] : List Nat) == [92]) = false := by simp [h92]
                k_steps
                rename News g' _ _ _ => N8
                rename Fr g' _ _ _ => F8
                exact hR9 [c] _ _ _ _ _ _ _ _ _ _ (C5.plain (fun e => (tokQ_c acc t5 h34 h92).symm.trans e)) (Nat.le_refl _) F8 N8 rfl rfl rfl rfl
            · clear C5
              intro y t' n6 tn6 ys6 ep6 tka6 tkc m₆ h₆ tk₆ H6 hl6 F₇ N₇
              have hla := H6.room htl
              k_steps
              rename News g' _ _ _ => N8
              rename Fr g' _ _ _ => F8
              exact hR2 _ _ _ _ _ _ _ _ _ _ _ (.inl rfl) H6 hl6 F8 N8 rfl rfl rfl
      · have hb34 : (([c] : List Nat) == [34]) = false := by simp [h34]
        refine show wpAny _ _ _ _ _ _ from ?_
        (try k_fold)
        k_steps
        unfold Stop
        replace C := C.turn (T' := (fun acc t' => tokP acc t' = tok t)) fun e => (tok_p hws h34).symm.trans e.2
        refine esc_cut (X := X) t2.length tkq it q (fun acc t' => tokP acc t' = tok t) [] t.length (n + t.length) g' L' ?_ ?_
        · intro R9 hR9
          refine wpAny_If ?_
          by_cases h92 : c = 92
          · subst h92
            k_steps
            unfold Stop
            rename News g' _ _ _ => N8
            rename Fr g' _ _ _ => F8
            refine read_esc (tk := tkq) (it := it) (q := q) X ok' hS (fun acc e => (tokP_e acc).symm.trans e) (fun acc d t e => (tokP_b acc t d).symm.trans e) hbb htl C N8 hap B' F8 X' T' CH rfl (by show dp + 1 + 5 < recursionLimit; omega) (by show un + 3 + 300 < cLine; omega) ?_
            intro y t' n6 tn6 ys6 ep6 tkr h₄ tk₄ H6 hl6 F₄ N₄
            clear N8 F8
            k_steps
            rename News g' _ _ _ => N8
            rename Fr g' _ _ _ => F8
            exact hR9 _ _ _ _ _ _ _ _ _ _ _ H6 hl6 F8 N8 rfl rfl rfl rfl
          · have hb92 : (([c] : List Nat) == [92]) = false := by simp [h92]
            k_steps
            rename News g' _ _ _ => N8
            rename Fr g' _ _ _ => F8
            exact hR9 [c] _ _ _ _ _ _ _ _ _ _ (C.plain (fun e => (tokP_c [] t2 hin h92).symm.trans e)) (Nat.le_refl _) F8 N8 rfl rfl rfl rfl
        · clear C
          intro y t' n6 tn6 ys6 ep6 tka6 tkc m₆ h₆ tk₆ H6 hl6 F₇ N₇
          have hla := H6.room htl
          k_steps
          refine wpAny_For ?_
          k_steps
          unfold Stop
          rename News g' _ _ _ => N8
          rename Fr g' _ _ _ => F8
          refine iter_ci (N8 _ (.tail _ (.tail _ (.tail _ (.head _))))).1 rfl ?_
          refine for_lex (tk := tkq) (q := q) (T := (fun acc t' => tokP acc t' = tok t)) (z := tok t) (len := t.length) (b := n + t.length) X ok' hS (fun acc e => e.symm.trans (by rw [tokP])) hbb hap hqi B' X' T' CH rfl (by show dp + 1 + 5 < recursionLimit; omega) (by show un + 3 + 301 < cLine; omega) F8 N8 H6 rfl rfl rfl ?_ ?_
          · clear F8 N8
            intro acc t₃ n₃ tn₃ ys₃ ep₃ tka₃ m₃ h₃ tk₃ E₃ F₃ N₃
            refine show wpAny _ _ _ _ _ _ from ?_
            (try k_fold)
            k_steps
            rename News g' _ _ _ => N8
            rename Fr g' _ _ _ => F8
            exact hR1e _ _ _ _ _ _ _ _ _ _ E₃ F8 N8 rfl rfl rfl
          · clear F8 N8
            intro c t5 acc n5 tn5 ys5 ep5 tka5 tkc5 m₅ h₅ tk₅ R2 hR2 _ hR2r C5 F₅ N₅
            by_cases hws5 : isWs c = true
            · have hin5 : [10, 9, 13, 32].contains c = true := hws5
              refine show wpAny _ _ _ _ _ _ from ?_
              (try k_fold)
              k_steps
              refine hR2r _ _ ?_
              (try dsimp only)
              k_steps
              refine hR1r _ _ ?_
              (try dsimp only)
              k_steps
              rename News h₀ _ _ _ => N9
              rename News g' _ _ _ => N8
              rename Fr h₀ _ _ _ => F9
              rename Fr g' _ _ _ => F8
              exact ret _ _ _ _ F9 (news_sub (lex_back N9) fun p hp => List.mem_append.mpr (.inl hp)) (stays_of GS F8 (news_sub (lex_back N8) fun p hp => List.mem_append.mpr (.inl hp))) (tok_post (C5.fin fun e => e.symm.trans (tokP_w acc t5 hws5)))
            · have hin5 : [10, 9, 13, 32].contains c = false := by simpa [isWs] using hws5
              refine show wpAny _ _ _ _ _ _ from ?_
              (try k_fold)
              k_steps
              unfold Stop
              refine esc_cut (X := X) t5.length tkq it q (fun acc t' => tokP acc t' = tok t) acc t.length (n + t.length) g' L' ?_ ?_
              · intro R9 hR9
                refine wpAny_If ?_
                by_cases h92 : c = 92
                · subst h92
                  k_steps
                  unfold Stop
                  rename News g' _ _ _ => N8
                  rename Fr g' _ _ _ => F8
                  refine read_esc (tk := tkq) (it := it) (q := q) X ok' hS (fun acc e => (tokP_e acc).symm.trans e) (fun acc d t e => (tokP_b acc t d).symm.trans e) hbb htl C5 N8 hap B' F8 X' T' CH rfl (by show dp + 1 + 5 < recursionLimit; omega) (by show un + 3 + 300 < cLine; omega) ?_
                  intro y t' n6 tn6 ys6 ep6 tkr h₄ tk₄ H6 hl6 F₄ N₄
                  clear N8 F8
                  k_steps
                  rename News g' _ _ _ => N8
                  rename Fr g' _ _ _ => F8
                  exact hR9 _ _ _ _ _ _ _ _ _ _ _ H6 hl6 F8 N8 rfl rfl rfl rfl
                · have hb92 : (([c] : List Nat) == [92]) = false := by simp [h92]
                  k_steps
                  rename News g' _ _ _ => N8
                  rename Fr g' _ _ _ => F8
                  exact hR9 [c] _ _ _ _ _ _ _ _ _ _ (C5.plain (fun e => (tokP_c acc t5 hin5 h92).symm.trans e)) (Nat.le_refl _) F8 N8 rfl rfl rfl rfl
              · clear C5
                intro y t' n6 tn6 ys6 ep6 tka6 tkc m₆ h₆ tk₆ H6 hl6 F₇ N₇
                have hla := H6.room htl
                k_steps
                rename News g' _ _ _ => N8
                rename Fr g' _ _ _ => F8
                exact hR2 _ _ _ _ _ _ _ _ _ _ _ (.inl rfl) H6 hl6 F8 N8 rfl rfl rfl
end
section
theorem lexer_new {w : World} {p : Program} {loose : List Str} {mean : ExcName → Option Value} {mg mb : Str → Option Value} {dp un : Nat} {gd : Option (List Code)} {cn : Str} {cs : Scope} {a : Addr} {ccd : Value} {cl : List (Str × Addr)} {outer : List Env} {A₀ : Around} {base h₀ : Heap} {L : Addr} {m : Str → Option Value} {s : Shared} {Q E : Value → Shared → Prop} {st : Addr} {news : List (Addr × Obj)}
    (N : News h₀ L s.heap news) (B : Below A₀ base outer h₀) (F : Fr h₀ L s.heap m) (X : (hd.heap_39 w.params).In h₀) (T : Top p loose mean mg mb h₀) (CH : CodeHd base 76 72) (hk : cs.kind = .function) (h1 : dp + 3 < recursionLimit) (h2 : un + 50 < cLine)
    (h : ∀ x dx pb t1 t2 t3 t4 tw tn e h' tk', Fr h₀ L h' m → News h₀ L h' (lexHd w ⟨x, dx, pb, 0, st, t1, t2, t3, t4, tw, e, []⟩ 1 tn ++ news) → (∀ p ∈ news, p.1 < dx) → dx < x → x < pb → (∀ p ∈ news, p.1 < pb) → Q (.ref x) { s with heap := h', toks := tk' }) :
    wpAny (model PySem.Challenge.rw_mq0139_01.row.prog w) (ktrTop dp un gd cn cs L a ccd cl outer) (call (.ref 66) [.ref st]) Q E s := by
  w_on
  revert X; k_fill; intro X
  k_dflt (refine' call_cls ?k1 ?k2 ?k3 ?k4 ?k5 ?k6 ?_; (case k1 => k_asm); (case k2 => k_asm); (case k3 => k_asm); (case k4 => k_is); (case k5 => k_is); (case k6 => k_is))
  intro x dx h₃ F₃ N₃ l3 l4
  have hz3 := fun p hp => ne_of_ltA (l3 p hp)
  replace l4 := ltN l4
  (refine' code_defG ?k1 ?k2 ?k3 ?k4 ?k5 ?kA ?kF ?kK ?k6 ?k7 ?k8 ?k9 ?kB ?_ ?c2 ?c3 ?c4 ?c5; (case kA => exact rfl); (case kF => exact rfl); (case kK => first | assumption | exact rfl); (case k1 => k_asm); (case k2 => k_asm); (case k3 => k_asm); (case k4 => k_asm); (case k5 => k_asm); (case k6 => k_is); (case k7 => k_is); (case k8 => ktr_room); (case k9 => exact BindsTo.of_eq rfl); (case c5 => decide); (case kB => exact locs rfl); (case c2 => exact rfl); (case c3 => exact rfl); (case c4 => exact rfl); k_whole)
  intro g'' L'' h₄ FG'' F'' N'' B'' X'' T'' GS''
  (try dsimp only)
  (try k_fold)
  k_steps
  rename News h₀ _ _ _ => N9
  rename Fr h₀ _ _ _ => F9
  rename _ ∧ _ => l9
  exact h x dx _ _ _ _ _ _ _ _ _ _ F9 (news_sub N9 fun p hp => by
    simp only [lexHd, List.mem_append, List.mem_cons, List.mem_nil_iff, or_false] at hp ⊢
    rcases hp with (hp | hp | hp) | hp
    · exact .inr (.inl hp)
    · exact .inr (.inr (.inl hp))
    · exact .inl hp
    · exact .inr (.inr (.inr hp))) l3 l4 l9.1 (allLt_all l9.2.2)
end
section
theorem cells_ok {w : World} {p : Program} {loose : List Str} {mean : ExcName → Option Value} {mg mb : Str → Option Value} (t : List Nat) (tq : Tok) (hlen : t.length ≤ 1000) :
  Gv w p loose mean mg mb (.ref 89) [.str (tx t) tq] 3 100 [] (fun r own' => ∃ lc vs ep tups, r = .ref lc ∧ own' = (lc, listOf vs.toArray ep) :: tups ∧ (∀ p ∈ tups, p.1 ≠ lc) ∧ CellsAt tups vs (cellsOf t)) := by
  unfold Gv
  intro dp un gd cn cs a ccd cl outer A₀ base h₀ L m s Q E B F X N T CH hk hd hu ret
  w_on
  revert X; k_fill; intro X
  (refine' code_defG ?k1 ?k2 ?k3 ?k4 ?k5 ?kA ?kF ?kK ?k6 ?k7 ?k8 ?k9 ?kB ?_ ?c2 ?c3 ?c4 ?c5; (case kA => exact rfl); (case kF => exact rfl); (case kK => first | assumption | exact rfl); (case k1 => k_asm); (case k2 => k_asm); (case k3 => k_asm); (case k4 => k_asm); (case k5 => k_asm); (case k6 => k_is); (case k7 => k_is); (case k8 => ktr_room); (case k9 => exact BindsTo.of_eq rfl); (case c5 => decide); (case kB => exact locs rfl); (case c2 => exact rfl); (case c3 => exact rfl); (case c4 => exact rfl); k_whole)
  intro g' L' h' FG' F' N' B' X' T' GS
  (try dsimp only)
  (try k_fold)
  k_steps
  unfold Stop
  rename Fr g' _ _ _ => F9
  rename News g' _ _ _ => N9
  refine While_inv2 (n₀ := t.length) (CellsJ t tq []) F9 N9 ?_ ?_
  · exact cellsJ_init F9 (fun p hp => nomatch hp) rfl rfl rfl
  · intro n m₁ news₁ h₁ tk₁ F₁ N₁ hh7
    refine hide fun G9 back9 => ?_
    obtain ⟨k, tk₂, lc, vs, ep, tups, cs, e1, e2, e3, e4, e5, e6, e7, e8, e9⟩ := hh7
    refine back9 ?_
    clear back9 G9
    subst e5
    subst e1
    have e7l := e7.1
    have F₂ := fr_as F₁ [("i", .int k tk₂), ("cells", .ref lc), ("text", .str (tx t) tq)] (by simp only [List.mem_cons, List.mem_nil_iff, or_false]; rintro p (rfl | rfl | rfl) <;> assumption)
    clear F₁
    refine show wpAny _ _ _ _ _ _ from ?_
    k_fold
    by_cases hkt : k < t.length
    · obtain ⟨c, hc⟩ : ∃ c, t[k]? = some c := ⟨_, List.getElem?_eq_getElem hkt⟩
      by_cases h92 : c = 92
      · subst h92
        k_steps
        unfold Stop
        refine comp_walk (closureFor_none (by decide)) rfl (by decide) (by decide) F₂ ?_
        k_steps
        unfold Stop
        rename Fr g' _ _ _ => F9
        rename News g' _ _ _ => N9
        have es := slice_one t hkt
        rw [es]
        refine iter_tx rfl F9 N9 ?_
        intro I oI St h' W hlive st F' N' hlt
        refine ⟨_, _, [], I, oI, [I], _, _, St, fun i vs' nw => ∃ tups', nw = tups' ++ ((lc, listOf vs.toArray ep) :: (tups ++ [])) ∧ CellsAt tups' vs' ((((t.drop (k + 1)).take 1).take i).map fun d => (d, false)) ∧ (∀ p ∈ tups', p.1 ≠ lc) ∧ vs'.length ≤ i, rfl, W, hlive, go_name, st, ?_, F', N', fun p hp => ne_of_ltA (hlt p hp), ⟨[], rfl, .nil, (fun p hp => nomatch hp), Nat.le_refl _⟩, (fun _ _ _ _ p hp => nomatch hp), ?_, ?_⟩
        · intro b hb hI
          exact absurd (List.mem_singleton.mp hb) hI
        · intro D C E' i v vs' ep' nw oC mc oI h tk hD hC hDC hi hh17 F N hn hoff hnI hID hIC hh25
          refine hide fun G9 back9 => ?_
          obtain ⟨c, u, hcu, rfl⟩ := hh17
          obtain ⟨tups', rfl, hc1, hc3, hc2⟩ := hh25
          refine back9 ?_
          clear back9 G9
          refine assign_comp F N hn (off_C hDC hIC hoff) rfl rfl ?_
          · intro h' tk' oC' F' N' hn'
            show wpAny _ _ (pure true) _ _ _
            refine wpAny_pure ?_
            rw [if_pos rfl]
            k_steps
            rename Fr g' _ _ _ => F9
            rename News g' _ _ _ => N9
            have hDl := cls_ne N9 (.head _) (List.mem_cons_of_mem _ (List.mem_cons_of_mem _ (List.mem_cons_of_mem _ (List.mem_cons_of_mem _ (List.mem_append.mpr (.inr (.head _))))))) (by show Value.type "tuple" ≠ Value.type "list"; decide)
            rename (_ < _) ∧ (_ < _) ∧ (_ < _) ∧ AllLt _ _ => l9
            have hl1 : ((t.drop (k + 1)).take 1).length ≤ 1 := List.length_take_le _ _
            refine walkEl_new F9 N9 hn' hoff hnI l9 (by omega) ⟨_ :: tups', rfl, ?_, ?_, ?_⟩
            · have hi' : ((t.drop (k + 1)).take 1)[i]? = some c := hcu
              rw [List.take_add_one, hi', List.map_append]
              exact (hc1.mono fun p hp => List.mem_cons_of_mem _ hp).snoc (c := (c, false)) (.head _)
            · intro p hp
              rcases List.mem_cons.mp hp with rfl | hp
              · exact hDl
              · exact hc3 p hp
            · simp only [List.length_append, List.length_cons, List.length_nil]
              omega
        · intro D vs' ep' nw h tk N hnD hD hh9 F
          refine hide fun G9 back9 => ?_
          obtain ⟨tups', rfl, hc1, hc3, hc2⟩ := hh9
          refine back9 ?_
          clear back9 G9
          have hl1 : ((t.drop (k + 1)).take 1).length ≤ 1 := List.length_take_le _ _
          k_steps
          show wpAny _ _ (call (.builtin "list.extend") [.ref lc, .ref D]) _ _ _
          rename Fr g' _ _ _ => F9
          rename News g' _ _ _ => N9
          have hnt := hc3
          have hDl : D ≠ lc := Ne.symm (hnD _ (List.mem_append.mpr (.inr (.head _))))
          refine extend_in (own := (D, listOf vs'.toArray ep') :: tups') F9 N9 ?_ e6 (N9 _ (.head _)).1 ?_ ?_
          · intro p hp
            rcases List.mem_cons.mp hp with rfl | hp
            · exact hDl
            · exact hnt p hp
          · intro h' n' F' N'
            clear F9 N9
            k_steps
            rename Fr g' _ _ _ => F9
            rename News g' _ _ _ => N9
            have hv : (((t.drop (k + 1)).take 1).take ((t.drop (k + 1)).take 1).length) = (t.drop (k + 1)).take 1 := List.take_length
            rw [hv] at hc1
            obtain ⟨nw, n', N10, hl, hJ⟩ := cellsJ_ext hc N9 hnt hc1 e6 e7 e8 e9 F9 rfl rfl rfl
            exact ⟨_, _, _, nw, n', rfl, F9, N10, hl, hJ⟩
          · simp only [List.size_toArray]
            rw [sizeLine_eq]
            omega
      · have hb : (([c] : List Nat) == [92]) = false := by simp [h92]
        obtain ⟨lv, hlv⟩ : ∃ lv, [32, 9, 10, 13, 34].contains c = lv := ⟨_, rfl⟩
        k_steps
        rename Fr g' _ _ _ => F9
        rename News g' _ _ _ => N9
        obtain ⟨nw, n', N10, hl, hJ⟩ := cellsJ_app hc h92 hlv N9 e6 e7 e8 e9 F9 rfl rfl rfl
        exact ⟨_, _, _, nw, n', rfl, F9, N10, hl, hJ⟩
    · k_steps
      rename News h₀ _ _ _ => N9
      rename News g' _ _ _ => N8
      rename Fr h₀ _ _ _ => F9
      rename Fr g' _ _ _ => F8
      have e0 : t.drop k = [] := List.drop_of_length_le (by omega)
      rw [e0, cellsOf, List.append_nil] at e8
      rw [List.append_nil] at N9 N8 e6
      subst e8
      exact ret _ _ _ _ F9 N9 (stays_of GS F8 N8) ⟨lc, vs, ep, tups, rfl, rfl, e6, e7⟩
end
section
theorem read_led {w : World} {p : Program} {loose : List Str} {mean : ExcName → Option Value} {mg mb : Str → Option Value} {h₀ h : Heap} {L x dx pb st l c : Addr} {t1 t2 t3 t4 tw tn : Tok} {e ep : Nat} {ys : List Value} {k : List (Addr × Obj)} {oc : Obj}
    (N : News h₀ L h (lexHd w ⟨x, dx, pb, 0, st, t1, t2, t3, t4, tw, e, []⟩ 1 tn ++ ((l, listOf ys.toArray ep) :: k ++ [(c, oc)]))) (ap : Apart [(c, oc)] ((l, listOf ys.toArray ep) :: k))
    (l3 : ∀ p ∈ (l, listOf ys.toArray ep) :: k ++ [(c, oc)], p.1 < dx) (l4 : dx < x) (l5 : x < pb) (_l6 : ∀ p ∈ (l, listOf ys.toArray ep) :: k ++ [(c, oc)], p.1 < pb) (hst : Stream w p loose mean mg mb k st l) :
    News h₀ L h ((c, oc) :: (x, instObj 66 dx) :: (dx, lexDict w ⟨x, dx, pb, 0, st, t1, t2, t3, t4, tw, e, []⟩ 1 tn) :: (pb, listOf #[] e) :: (l, listOf ys.toArray ep) :: k) ∧ c < dx ∧ l < dx ∧ l ≠ c ∧ True ∧ True ∧ (∀ p ∈ k, p.1 ≠ c) ∧ (∀ p ∈ k, p.1 ≠ x) ∧ (∀ p ∈ k, p.1 ≠ dx) ∧ (∀ p ∈ k, p.1 ≠ pb) ∧ (∀ p ∈ k, p.1 ≠ l) := by
  have hk : ∀ p ∈ k, p.1 < dx := fun p hp => l3 p (by simp [hp])
  refine ⟨news_sub N fun p hp => ?_, l3 (c, oc) (by simp), l3 (l, listOf ys.toArray ep) (by simp), fun q => ap _ (.head _) (by simp [q]), trivial, trivial, fun p hp q => ap _ (.head _) (by simp only [List.map_cons, List.mem_cons, List.mem_map]; exact .inr ⟨p, hp, q⟩), fun p hp => ?_, fun p hp => ?_, fun p hp => ?_, ?_⟩
  · simp only [lexHd, List.mem_append, List.mem_cons, List.mem_nil_iff, or_false] at hp ⊢
    grind
  · exact ne_of_ltA (Nat.lt_trans (hk p hp) l4)
  · exact ne_of_ltA (hk p hp)
  · exact ne_of_ltA (Nat.lt_trans (hk p hp) (Nat.lt_trans l4 l5))
  · obtain ⟨_, _, _, _, _, _, _, _, _, _, h⟩ := hst
    exact h
theorem lex_own_map {w : World} {X : Lx} {n n' : Int} {tn tn' : Tok} {ys ys' : List Value} {ep ep' : Nat} : (lexOwn w X n' tn' ys' ep').map (·.1) = (lexOwn w X n tn ys ep).map (·.1) := by simp [lexOwn, lexHd]
/-- between two words: the words so far, the lexer, its stream -/
def ReadJ (w : World) (X : Lx) (t : List Nat) (ex : List (Addr × Obj)) (i : Nat) (vs : List Value) (nw : List (Addr × Obj)) : Prop :=
  ∃ n tn ys ep, nw = lexOwn w X n tn ys ep ++ ex ∧ Apart ex (lexOwn w X n tn ys ep) ∧ StrsAre vs (toks i t) ∧ StrsAre ys (chs (restOf i t)) ∧ 0 ≤ n ∧ n + (restOf i t).length ≤ 1 + t.length
theorem readJ_flat {w : World} {X : Lx} {n : Int} {tn : Tok} {ys : List Value} {ep : Nat} {ex pre : List (Addr × Obj)} {h₀ h : Heap} {L : Addr} (N : News h₀ L h (pre ++ (lexOwn w X n tn ys ep ++ ex))) :
    News h₀ L h (pre ++ (lexHd w X n tn ++ (ex ++ ((X.l, listOf ys.toArray ep) :: X.k)))) := news_sub N fun p hp => by
  simp only [lexOwn, List.mem_append] at hp ⊢
  grind
theorem readJ_back {w : World} {X : Lx} {n : Int} {tn : Tok} {ys : List Value} {ep : Nat} {ex pre : List (Addr × Obj)} {h₀ h : Heap} {L : Addr} (N : News h₀ L h (pre ++ (lexHd w X n tn ++ (ex ++ ((X.l, listOf ys.toArray ep) :: X.k))))) :
    News h₀ L h (lexOwn w X n tn ys ep ++ (pre ++ ex)) := news_sub N fun p hp => by
  simp only [lexOwn, List.mem_append] at hp ⊢
  grind
theorem toks_len : ∀ (n : Nat) (t : List Nat), (toks n t).length = n := by
  intro n
  induction n with
  | zero => intro t; rfl
  | succ n ih => intro t; simp [toks, ih]
theorem read_mem {w : World} {x dx pb st l c : Addr} {t1 t2 t3 t4 tw tn : Tok} {e ep : Nat} {ys : List Value} {k : List (Addr × Obj)} {oc : Obj} {p : Addr × Obj} (hp : p ∈ lexOwn w ⟨x, dx, pb, l, st, t1, t2, t3, t4, tw, e, k⟩ 1 tn ys ep ++ [(c, oc)]) :
    p ∈ (c, oc) :: (x, instObj 66 dx) :: (dx, lexDict w ⟨x, dx, pb, 0, st, t1, t2, t3, t4, tw, e, []⟩ 1 tn) :: (pb, listOf #[] e) :: (l, listOf ys.toArray ep) :: k := by
  simp only [lexOwn, lexHd, List.mem_append, List.mem_cons, List.mem_nil_iff, or_false] at hp ⊢
  grind
theorem read_apart {w : World} {x dx pb st l c : Addr} {t1 t2 t3 t4 tw tn : Tok} {e ep : Nat} {ys : List Value} {k : List (Addr × Obj)} {oc : Obj} (kc : ∀ p ∈ k, p.1 ≠ c) (h1 : x ≠ c) (h2 : dx ≠ c) (h3 : pb ≠ c) (h4 : l ≠ c) :
    Apart [(c, oc)] (lexOwn w ⟨x, dx, pb, l, st, t1, t2, t3, t4, tw, e, k⟩ 1 tn ys ep) := by
  intro q hq hm
  rw [List.mem_singleton] at hq
  subst hq
  simp only [lexOwn, lexHd, List.map_append, List.map_cons, List.map_nil, List.mem_append, List.mem_cons, List.mem_nil_iff, or_false, List.mem_map] at hm
  rcases hm with (rfl | ⟨p, hp, e⟩) | rfl | rfl | rfl
  · exact h4 rfl
  · exact kc p hp e
  · exact h1 rfl
  · exact h2 rfl
  · exact h3 rfl
theorem read_off {own own' ex : List (Addr × Obj)} {P : Addr → Prop} (he : own'.map (·.1) = own.map (·.1)) (h : ∀ p ∈ own ++ ex, P p.1) : ∀ p ∈ own' ++ ex, P p.1 := by
  intro p hp
  rcases List.mem_append.mp hp with hp | hp
  · have : p.1 ∈ own.map (·.1) := he ▸ List.mem_map_of_mem hp
    obtain ⟨q, hq, e⟩ := List.mem_map.mp this
    rw [← e]
    exact h q (List.mem_append.mpr (.inl hq))
  · exact h p (List.mem_append.mpr (.inr hp))
theorem read_ap3 {own ex : List (Addr × Obj)} {C D I : Addr} {o1 o2 o3 : Obj} (hoff : Off D C (own ++ ex)) (hI : ∀ p ∈ own ++ ex, p.1 ≠ I) (hap : Apart ex own) : Apart ([(C, o1), (D, o2), (I, o3)] ++ ex) own := by
  intro q hq hm
  obtain ⟨r, hr, e⟩ := List.mem_map.mp hm
  have hr' := List.mem_append.mpr (.inl hr : r ∈ own ∨ r ∈ ex)
  rcases List.mem_append.mp hq with hq | hq
  · simp only [List.mem_cons, List.mem_nil_iff, or_false] at hq
    rcases hq with rfl | rfl | rfl
    · exact (hoff r hr').2 e
    · exact (hoff r hr').1 e
    · exact hI r hr' e
  · exact hap q hq hm
theorem apart_own {own own' ex : List (Addr × Obj)} (he : own'.map (·.1) = own.map (·.1)) (h : Apart ex own) : Apart ex own' := fun q hq hm => h q hq (he ▸ hm)
local macro_rules | `(tactic| walk_at "call ref") => `(tactic| refine stop_mk ?_)
theorem read_ok {w : World} {p : Program} {loose : List Str} {mean : ExcName → Option Value} {mg mb : Str → Option Value} (t : List Nat) (tq : Tok) (n : Nat) (tkk : Tok) (hlen : t.length ≤ 1000) (hasc : Asc t) (hk1 : n ≤ 2000) {tb : List (Addr × Obj)} (ht : Tab tb) :
  Gv w p loose mean mg mb (.ref 99) [.str (tx t) tq, .int n tkk] 14 600 tb (fun r own' => ∃ l vs ep tb', r = .ref l ∧ own' = (l, listOf vs.toArray ep) :: tb' ∧ Tab tb' ∧ StrsAre vs (toks n t) ∧ ∀ p ∈ tb', p.1 ≠ l) := by
  unfold Gv
  intro dp un gd cn cs a ccd cl outer A₀ base h₀ L m s Q E B F X N T CH hk hd hu ret
  w_on
  revert X; k_fill; intro X
  (refine' code_ownC ?k1 ?k2 ?k3 ?k4 ?k5 ?kA ?kF ?kK ?k6 ?k7 ?k8 ?k9 ?kB ?kD ?_ ?c2 ?c3 ?c4; (case kA => exact rfl); (case kF => exact rfl); (case kK => first | assumption | exact rfl); (case k1 => k_asm); (case k2 => k_asm); (case k3 => k_asm); (case k4 => k_asm); (case k5 => k_asm); (case k6 => k_is); (case k7 => k_is); (case k8 => ktr_room); (case k9 => exact BindsTo.of_eq rfl); (case kB => exact rfl); (case kD => decide +kernel); (case c2 => exact rfl); (case c3 => exact rfl); (case c4 => exact rfl); k_whole)
  intro g' L' h' tk' cells' FG' F' N' Y' B' X' T' l1 GS
  k_cells Y'
  (try simp only [List.cons_append, List.nil_append] at N')
  (try dsimp only)
  (try k_fold)
  k_steps
  unfold Stop
  rename News g' _ _ _ => N8
  rename Fr g' _ _ _ => F8
  refine gv_use (stream_ok t tq hlen ht) (news_last N8) (apart_one fun p hp => Nat.lt_succ_of_lt (l1 p hp)) B' F8 X' T' CH rfl (by show dp + 1 + 3 < recursionLimit; omega) (by show un + 3 + 200 < cLine; omega) ?_
  intro r own' h₂ tk₂ F₂ N₂ ap₂ hp₂
  refine hide fun G9 back9 => ?_
  obtain ⟨st, l, ys, ep, sk, tb', rfl, rfl, ht', hst, hys⟩ := hp₂
  refine back9 ?_
  clear back9 G9
  clear N8 F8
  k_steps
  unfold Stop
  refine lexer_new N₂ B' F₂ X' T' CH rfl (by show dp + 1 + 3 < recursionLimit; omega) (by show un + 3 + 50 < cLine; omega) ?_
  intro x dx pb t1 t2 t3 t4 tw tn e h₃ tk₃ F₃ N₃ l3 l4 l5 l6
  clear F₂ N₂
  obtain ⟨N₄, c1, c2, c3, c4, c5, kc, kx, kd, kp, kl⟩ := read_led N₃ ap₂ l3 l4 l5 l6 hst
  clear N₃
  replace l4 := ltN l4
  replace l5 := ltN l5
  replace c1 := ltN c1
  replace c2 := ltN c2
  replace c3 := neN c3
  k_steps
  unfold Stop
  have ok : LxOk ⟨x, dx, pb, l, st, t1, t2, t3, t4, tw, e, sk ++ tb'⟩ := ⟨(neN (by omega) : x ≠ dx), (neN (by omega) : pb ≠ dx), (neN (by omega) : l ≠ dx), kd, (neN (by omega) : x ≠ l), (neN (by omega) : pb ≠ l), kl, kx, kp, (neN (by omega) : x ≠ pb)⟩
  refine comp_walk (clos1 (c := L' + 1) rfl rfl rfl rfl) rfl (by decide) (by decide) (by assumption : Fr g' _ _ _) ?_
  k_steps
  unfold Stop
  rename IsRange _ _ _ _ _ _ _ _ => hr9
  rename Obj => oc9
  rename Fr g' _ _ _ => F9
  rename News g' _ _ _ => N9
  refine iter_range2 rfl F9 N9 hr9 (by omega) ?_
  intro I oI St h' W hlive st' F' N' hlt
  refine ⟨_, lexOwn w ⟨x, dx, pb, l, st, t1, t2, t3, t4, tw, e, sk ++ tb'⟩ 1 tn ys ep ++ [(L' + 1, oc9)], [], I, oI, [I], _, _, St, ReadJ w ⟨x, dx, pb, l, st, t1, t2, t3, t4, tw, e, sk ++ tb'⟩ t [(L' + 1, oc9)], rfl, W, hlive, go_name, st', ?_, F', ?_, ?_, ?_, (fun _ _ _ _ p hp => nomatch hp), ?_, ?_⟩
  · intro b hb hI
    exact absurd (List.mem_singleton.mp hb) hI
  · refine news_sub N' fun p hp => ?_
    rcases List.mem_cons.mp hp with rfl | hp
    · exact .head _
    · exact .tail _ (read_mem hp)
  · intro p hp
    exact ne_of_ltA (hlt p (read_mem hp))
  · exact ⟨1, tn, ys, ep, rfl, read_apart kc (neN (by omega)) (neN (by omega)) (neN (by omega)) (neN (by omega)), .nil, hys, by omega, by show 1 + ((restOf 0 t).length : Int) ≤ _; exact Int.le_refl _⟩
  · clear F9 N9 F' N'
    intro D C E' i v vs' ep' nw oC mc oI h tk hD hC hDC hi hh17 F N hn hoff hnI hID hIC hh25
    refine hide fun G9 back9 => ?_
    obtain ⟨tki, rfl⟩ := hh17
    obtain ⟨n', tn', ys', ep2, rfl, hap, hvs, hys', hnn, hb⟩ := hh25
    refine back9 ?_
    clear back9 G9
    refine assign_comp F N hn (off_C hDC hIC hoff) rfl rfl ?_
    intro h' tk' oC' F' N' hn'
    show wpAny _ _ (pure true) _ _ _
    refine wpAny_pure ?_
    rw [if_pos rfl]
    have N2 := readJ_flat (pre := [_, _, _]) N'
    simp only [lexHd, List.cons_append, List.nil_append] at N2
    clear N' N F
    k_steps
    unfold Stop
    rename News g' _ _ _ => N8
    rename Fr g' _ _ _ => F8
    refine gv_use (gettok_ok ⟨x, dx, pb, l, st, t1, t2, t3, t4, tw, e, sk ++ tb'⟩ ok hst n' tn' ys' (restOf i t) ep2 hys' (restOf_asc hasc i) hnn (by omega)) (readJ_back (X := ⟨x, dx, pb, l, st, t1, t2, t3, t4, tw, e, sk ++ tb'⟩) (pre := [_, _, _]) N8) (read_ap3 hoff hnI hap) B' F8 X' T' CH rfl (by show dp + 1 + 10 < recursionLimit; omega) (by show un + 3 + 400 < cLine; omega) ?_
    intro r own' h₄ tk₄ F₄ N₄ ap₄ hp₄
    refine hide fun G9 back9 => ?_
    obtain ⟨⟨tkr, rfl⟩, n5, tn5, ys5, ep5, rfl, hys5, hn5, hb5⟩ := hp₄
    refine back9 ?_
    clear back9 G9
    have hvl := hvs.1
    rw [toks_len] at hvl
    refine ⟨_, _, lexOwn w ⟨x, dx, pb, l, st, t1, t2, t3, t4, tw, e, sk ++ tb'⟩ n5 tn5 ys5 ep5 ++ [(L' + 1, oc9)], _, _, rfl, F₄, news_sub N₄ fun p hp => ?_, hn', fun p hp => ?_, fun p hp => ?_, ⟨n5, tn5, ys5, ep5, rfl, apart_own lex_own_map hap, ?_, ?_, hn5, ?_⟩, by omega⟩
    · simp only [List.mem_cons, List.mem_append, List.mem_nil_iff, or_false] at hp ⊢
      grind
    · exact read_off (P := fun a => a ≠ D ∧ a ≠ C) lex_own_map hoff p hp
    · exact read_off (P := fun a => a ≠ I) lex_own_map hnI p hp
    · rw [toks_succ]
      exact hvs.snoc ⟨_, rfl⟩
    · rw [restOf_succ]
      exact hys5
    · rw [restOf_succ]
      omega
  · intro D vs' ep' nw h tk N hnD hD hh9 F
    refine hide fun G9 back9 => ?_
    obtain ⟨n', tn', ys', ep2, hnw, hap, hvs, hys', hn', hb⟩ := hh9
    refine back9 ?_
    clear back9 G9
    subst hnw
    k_steps
    rename News h₀ _ _ _ => N9
    rename News g' _ _ _ => N8
    rename Fr h₀ _ _ _ => F9
    rename Fr g' _ _ _ => F8
    have hsub : ∀ p ∈ (D, listOf vs'.toArray ep') :: tb', p ∈ (D, listOf vs'.toArray ep') :: (lexOwn w ⟨x, dx, pb, l, st, t1, t2, t3, t4, tw, e, sk ++ tb'⟩ n' tn' ys' ep2 ++ [(L' + 1, oc9)]) := fun p hp => by
      simp only [lexOwn, List.mem_cons, List.mem_append] at hp ⊢
      grind
    have S8 := stays_of GS F8 N8
    exact ret _ ((D, listOf vs'.toArray ep') :: tb') _ _ F9 (news_sub N9 hsub) ⟨S8.1, fun p hp => S8.2 p (hsub p hp)⟩ ⟨D, vs', ep', tb', rfl, rfl, ht', hvs, fun p hp => hnD p (by simp only [lexOwn, List.mem_append]; grind)⟩
end
section
theorem row_take {ws : List (List Nat)} {i : Nat} {wd : List Nat} (h : ws[i]? = some wd) : (ws.take (i + 1)).foldl rowStep [] = rowStep ((ws.take i).foldl rowStep []) wd := by
  rw [List.take_add_one, h]
  simp [List.foldl_append]
theorem drop_last_dec {row : List (List Nat)} {n : Nat} (hn : n = row.length) {c : Bool} (hc : decide (row.getLast? = some [42]) = c) : decide (row.drop (n - 1) = [[42]]) = c := by
  subst hn
  rw [← hc]
  congr 1
  rw [eq_iff_iff]
  cases q : row with
  | nil => simp
  | cons a l =>
    rw [List.getLast?_eq_getElem?]
    have e : (a :: l).drop ((a :: l).length - 1) = [(a :: l)[(a :: l).length - 1]'(by simp)] := by
      rw [List.drop_eq_getElem_cons (by simp)]
      simp
    rw [e, List.getElem?_eq_getElem (by simp)]
    simp
local macro_rules | `(tactic| walk_at "exec For Name Name cons nil") => `(tactic| refine stop_mk ?_)
local macro_rules | `(tactic| walk_at "compareOp NotEq ref ref") => `(tactic| refine stop_mk ?_)
theorem row_ok {w : World} {p : Program} {loose : List Str} {mean : ExcName → Option Value} {mg mb : Str → Option Value} (lw : Addr) (vs : List Value) (ep : Nat) (ws : List (List Nat)) (hvs : StrsAre vs ws) (hasc : ∀ x ∈ ws, Asc x) (hlen : ws.length ≤ 1000) :
  Gv w p loose mean mg mb (.ref 106) [.ref lw] 3 200 [(lw, listOf vs.toArray ep)] (fun r own' => ∃ lr vr epr, r = .ref lr ∧ own' = [(lr, listOf vr.toArray epr), (lw, listOf vs.toArray ep)] ∧ lr ≠ lw ∧ StrsAre vr (rowOf ws)) := by
  unfold Gv
  intro dp un gd cn cs a ccd cl outer A₀ base h₀ L m s Q E B F X N T CH hk hd hu ret
  w_on
  revert X; k_fill; intro X
  (refine' code_defG ?k1 ?k2 ?k3 ?k4 ?k5 ?kA ?kF ?kK ?k6 ?k7 ?k8 ?k9 ?kB ?_ ?c2 ?c3 ?c4 ?c5; (case kA => exact rfl); (case kF => exact rfl); (case kK => first | assumption | exact rfl); (case k1 => k_asm); (case k2 => k_asm); (case k3 => k_asm); (case k4 => k_asm); (case k5 => k_asm); (case k6 => k_is); (case k7 => k_is); (case k8 => ktr_room); (case k9 => exact BindsTo.of_eq rfl); (case c5 => decide); (case kB => exact locs rfl); (case c2 => exact rfl); (case c3 => exact rfl); (case c4 => exact rfl); k_whole)
  intro g' L' h' FG' F' N' B' X' T' GS
  (try dsimp only)
  (try k_fold)
  k_steps
  unfold Stop
  refine wpAny_For ?_
  k_steps
  unfold Stop
  rename News g' _ _ _ => N8
  rename Fr g' _ _ _ => F8
  rename Addr => lr
  have hne : lr ≠ lw := by rename (_ : Addr) < _ => hh; exact neN (by omega)
  refine iter_list rfl F8 N8 (.tail _ (.head _)) ?_
  intro I oI St h₂ W hlive st' kp F₂ N₂ hlt
  refine for_walk W hlive st' [(lw, listOf vs.toArray ep)] kp (fun i m' nw => ∃ vr epr, nw = [(lr, listOf vr.toArray epr), (lw, listOf vs.toArray ep)] ∧ m' "row" = some (.ref lr) ∧ StrsAre vr ((ws.take i).foldl rowStep []) ∧ vr.length ≤ i) F₂ N₂ (fun p hp => ne_of_ltA (hlt p hp)) ⟨[], _, rfl, rfl, .nil, Nat.le_refl _⟩ ?_ ?_ ?_
  · intro i m' nw hh3 p hp
    refine hide fun G9 back9 => ?_
    obtain ⟨vr, epr, rfl, _, _⟩ := hh3
    refine back9 ?_
    clear back9 G9
    exact .tail _ hp
  · clear F8 N8 F₂ N₂
    replace hne := neN hne
    intro i v m₁ nw oI h₁ tk₁ hi hv F₁ N₁ hI hh12
    refine hide fun G9 back9 => ?_
    obtain ⟨vr, epr, rfl, e1, hvr, hvl⟩ := hh12
    refine back9 ?_
    clear back9 G9
    rw [hvs.1] at hi
    obtain ⟨wd, hwd⟩ : ∃ wd, ws[i]? = some wd := ⟨_, List.getElem?_eq_getElem hi⟩
    obtain ⟨v', hv', tkv, rfl⟩ := hvs.2 i wd hwd
    obtain rfl : v = .str (tx wd) tkv := Option.some.inj (hv.symm.trans hv')
    have F₃ := fr_as F₁ [("row", .ref lr)] (by simp only [List.mem_cons, List.mem_nil_iff, or_false]; rintro p rfl; assumption)
    clear F₁
    have hI1 := neN (hI (lr, listOf vr.toArray epr) (.head _))
    have hI2 := neN (hI (lw, listOf vs.toArray ep) (.tail _ (.head _)))
    dsimp only at hI1 hI2
    by_cases h42 : wd = [42]
    · subst h42
      k_steps
      unfold Stop
      rename News g' _ _ _ => N8
      rw [pick_last] at N8
      have q1 := N8.isList (.tail _ (.head _))
      have q2 := N8.isList (.head _)
      have hu9 : un + 3 + 64 < cLine := by omega
      have har : ∀ x ∈ (ws.take i).foldl rowStep [], Asc x := fun x hx => (row_mem _ _ _ hx).elim (fun h => nomatch h) fun h => hasc x (List.mem_of_mem_take h)
      have hst : ∀ x ∈ [[42]], Asc x := fun x hx => by rw [List.mem_singleton.mp hx]; intro c hc; rw [List.mem_singleton.mp hc]; decide
      by_cases hl : ((ws.take i).foldl rowStep []).getLast? = some [42]
      · refine ne_strs q1 q2 (hvr.drop _) (AreBy.one ⟨_, rfl⟩) (fun x hx => har x (List.mem_of_mem_drop hx)) hst hu9 (c := true) (drop_last_dec hvr.1 (by simp [hl])) ?_
        clear q1 q2
        k_steps
        rename News g' _ _ _ => N9
        rename Fr g' _ _ _ => F9
        refine ⟨_, _, _, [(lr, listOf vr.toArray epr), (lw, listOf vs.toArray ep)], rfl, F9, news_sub N9 ?_, hI, vr, epr, rfl, rfl, ?_, by omega⟩
        · intro p hp
          exact .tail _ (.tail _ hp)
        · rw [row_take hwd, rowStep, if_pos ⟨rfl, hl⟩]
          exact hvr
      · refine ne_strs q1 q2 (hvr.drop _) (AreBy.one ⟨_, rfl⟩) (fun x hx => har x (List.mem_of_mem_drop hx)) hst hu9 (c := false) (drop_last_dec hvr.1 (by simp [hl])) ?_
        clear q1 q2
        have N7 := news_sub (l' := [(I, oI), (lr, listOf vr.toArray epr), (lw, listOf vs.toArray ep)]) N8 fun p hp => .tail _ (.tail _ hp)
        clear N8
        k_steps
        rename News g' _ _ _ => N9
        rename Fr g' _ _ _ => F9
        refine ⟨_, _, _, [(lr, listOf (vr ++ [Value.str (tx [42]) tkv]).toArray (epr + 1)), (lw, listOf vs.toArray ep)], rfl, F9, ?_, ?_, vr ++ [Value.str (tx [42]) tkv], epr + 1, rfl, rfl, ?_, by simp only [List.length_append, List.length_cons, List.length_nil]; omega⟩
        · rw [← List.push_toArray]
          exact N9
        · intro p hp
          simp only [List.mem_cons, List.mem_nil_iff, or_false] at hp
          rcases hp with rfl | rfl
          · exact neN (by omega)
          · exact neN (by omega)
        · rw [row_take hwd, rowStep, if_neg fun h => hl h.2]
          exact hvr.snoc ⟨_, rfl⟩
    · have hb : (wd == [42]) = false := by simpa using h42
      k_steps
      rename News g' _ _ _ => N9
      rename Fr g' _ _ _ => F9
      refine ⟨_, _, _, [(lr, listOf (vr ++ [Value.str (tx wd) tkv]).toArray (epr + 1)), (lw, listOf vs.toArray ep)], rfl, F9, ?_, ?_, vr ++ [Value.str (tx wd) tkv], epr + 1, rfl, rfl, ?_, by simp only [List.length_append, List.length_cons, List.length_nil]; omega⟩
      · rw [← List.push_toArray]
        exact N9
      · intro p hp
        simp only [List.mem_cons, List.mem_nil_iff, or_false] at hp
        rcases hp with rfl | rfl
        · exact neN (by omega)
        · exact neN (by omega)
      · rw [row_take hwd, rowStep, if_neg fun h => h42 h.1]
        exact hvr.snoc ⟨_, rfl⟩
  · intro m₁ nw h₁ tk₁ F₁ N₁ hh6
    refine hide fun G9 back9 => ?_
    obtain ⟨vr, epr, rfl, e1, hvr, hvl⟩ := hh6
    refine back9 ?_
    clear back9 G9
    have F₃ := fr_as F₁ [("row", .ref lr)] (by simp only [List.mem_cons, List.mem_nil_iff, or_false]; rintro p rfl; assumption)
    clear F₁
    k_steps
    rename News h₀ _ _ _ => N9
    rename News g' _ _ _ => N8
    rename Fr h₀ _ _ _ => F9
    rename Fr g' _ _ _ => F8
    rw [hvs.1, List.take_length] at hvr
    exact ret _ _ _ _ F9 N9 (stays_of GS F8 N8) ⟨lr, vr, epr, rfl, rfl, hne, hvr⟩
end
section
theorem words_q_step {cs : List (Nat × Bool)} {k e : Nat} (hc : cs[k]? = some (34, true)) (hst : (cs.drop (k + 1)).takeWhile (fun d => !isQ d) = (cs.drop (k + 1)).take (e - (k + 1))) (hsd : (cs.drop (k + 1)).dropWhile (fun d => !isQ d) = cs.drop e) :
    wordsOf (cs.drop k) = (((cs.drop (k + 1)).take (e - (k + 1))).map (·.1)) :: wordsOf (cs.drop (e + 1)) := by
  rw [drop_at hc, wordsOf_q, hst, hsd, List.drop_drop]
theorem words_p_step {cs : List (Nat × Bool)} {k e c1 : Nat} (hc : cs[k]? = some (c1, false)) (hke : k + 1 ≤ e) (hst : (cs.drop (k + 1)).takeWhile inW = (cs.drop (k + 1)).take (e - (k + 1))) (hsd : (cs.drop (k + 1)).dropWhile inW = cs.drop e) :
    wordsOf (cs.drop k) = (((cs.drop k).take (e - k)).map (·.1)) :: wordsOf (cs.drop e) := by
  rw [drop_at hc, wordsOf_p (by simp), hst, hsd, show e - k = (e - (k + 1)) + 1 by rw [← Nat.sub_sub, Nat.sub_add_cancel (Nat.sub_pos_of_lt hke)], List.take_succ_cons]
theorem words_w_step {cs : List (Nat × Bool)} {k c1 : Nat} (hc : cs[k]? = some (c1, true)) (h34 : ¬ c1 = 34) : wordsOf (cs.drop k) = wordsOf (cs.drop (k + 1)) := by
  rw [drop_at hc, wordsOf_w (by simp [h34]) rfl]
local macro_rules | `(tactic| walk_at "call builtin:str.join") => `(tactic| refine stop_mk ?_)
local macro_rules | `(tactic| walk_at "compareOp NotEq ref ref") => `(tactic| refine stop_mk ?_)
local macro_rules | `(tactic| walk_at "compareOp Eq ref ref") => `(tactic| refine stop_mk ?_)
local macro_rules | `(tactic| walk_at "exec While BoolOp cons nil") => `(tactic| refine stop_mk ?_)
local macro_rules | `(tactic| walk_at "exec While") => `(tactic| refine stop_mk ?_)
inductive WordsJ (lc : Addr) (vs : List Value) (ep : Nat) (cs : List (Nat × Bool)) (tups : List (Addr × Obj)) (n : Nat) (m' : Str → Option Value) (nw : List (Addr × Obj)) : Prop
  | mk (k : Nat) (tki : Tok) (aw : Addr) (vw : List Value) (epw : Nat) (ws : List (List Nat)) (z0 : n = cs.length - k) (z1 : m' "i" = some (.int k tki)) (z2 : m' "words" = some (.ref aw)) (z3 : m' "cells" = some (.ref lc)) (z4 : nw = (aw, listOf vw.toArray epw) :: (lc, listOf vs.toArray ep) :: tups) (z5 : lc ≠ aw) (z6 : (∀ p ∈ tups, p.1 ≠ aw)) (z7 : StrsAre vw ws) (z8 : ws ++ wordsOf (cs.drop k) = wordsOf cs) (z9 : vw.length ≤ k) (z10 : k ≤ cs.length + 1) : WordsJ lc vs ep cs tups n m' nw
inductive InW (p : Nat × Bool → Bool) (lc : Addr) (vs : List Value) (ep : Nat) (cs : List (Nat × Bool)) (tups : List (Addr × Obj)) (k : Nat) (tki : Tok) (aw : Addr) (vw : List Value) (epw : Nat) (n : Nat) (m' : Str → Option Value) (nw : List (Addr × Obj)) : Prop
  | mk (e : Nat) (tke : Tok) (z0 : n = cs.length - e) (z1 : m' "i" = some (.int k tki)) (z2 : m' "end" = some (.int e tke)) (z3 : m' "words" = some (.ref aw)) (z4 : m' "cells" = some (.ref lc)) (z5 : nw = (aw, listOf vw.toArray epw) :: (lc, listOf vs.toArray ep) :: tups) (z6 : k + 1 ≤ e) (z7 : e ≤ cs.length) (z8 : Span p cs (k + 1) e) : InW p lc vs ep cs tups k tki aw vw epw n m' nw
inductive OutW (p : Nat × Bool → Bool) (lc : Addr) (vs : List Value) (ep : Nat) (cs : List (Nat × Bool)) (tups : List (Addr × Obj)) (k : Nat) (tki : Tok) (aw : Addr) (vw : List Value) (epw : Nat) (m' : Str → Option Value) (nw : List (Addr × Obj)) : Prop
  | mk (e : Nat) (tke : Tok) (z0 : m' "i" = some (.int k tki)) (z1 : m' "end" = some (.int e tke)) (z2 : m' "words" = some (.ref aw)) (z3 : m' "cells" = some (.ref lc)) (z4 : nw = (aw, listOf vw.toArray epw) :: (lc, listOf vs.toArray ep) :: tups) (z5 : k + 1 ≤ e) (z6 : e ≤ cs.length) (z7 : (cs.drop (k + 1)).takeWhile p = (cs.drop (k + 1)).take (e - (k + 1)) ∧ (cs.drop (k + 1)).dropWhile p = cs.drop e) : OutW p lc vs ep cs tups k tki aw vw epw m' nw
theorem words_ok {w : World} {p : Program} {loose : List Str} {mean : ExcName → Option Value} {mg mb : Str → Option Value} (lc : Addr) (vs : List Value) (ep : Nat) (cs : List (Nat × Bool)) (tups : List (Addr × Obj)) (hcs : CellsAt tups vs cs) (hlc : ∀ p ∈ tups, p.1 ≠ lc) (hasc : ∀ c ∈ cs, c.1 < 128) (hlen : cs.length ≤ 1000) :
  Gv w p loose mean mg mb (.ref 94) [.ref lc] 3 200 ((lc, listOf vs.toArray ep) :: tups) (fun r own' => ∃ aw vw epw, r = .ref aw ∧ own' = (aw, listOf vw.toArray epw) :: (lc, listOf vs.toArray ep) :: tups ∧ lc ≠ aw ∧ (∀ p ∈ tups, p.1 ≠ aw) ∧ StrsAre vw (wordsOf cs)) := by
  unfold Gv
  intro dp un gd cn cs' a ccd cl outer A₀ base h₀ L m s Q E B F X N T CH hk hd hu ret
  w_on
  revert X; k_fill; intro X
  (refine' code_defG ?k1 ?k2 ?k3 ?k4 ?k5 ?kA ?kF ?kK ?k6 ?k7 ?k8 ?k9 ?kB ?_ ?c2 ?c3 ?c4 ?c5; (case kA => exact rfl); (case kF => exact rfl); (case kK => first | assumption | exact rfl); (case k1 => k_asm); (case k2 => k_asm); (case k3 => k_asm); (case k4 => k_asm); (case k5 => k_asm); (case k6 => k_is); (case k7 => k_is); (case k8 => ktr_room); (case k9 => exact BindsTo.of_eq rfl); (case c5 => decide); (case kB => exact locs rfl); (case c2 => exact rfl); (case c3 => exact rfl); (case c4 => exact rfl); k_whole)
  intro g' L' h' FG' F' N' B' X' T' GS
  (try dsimp only)
  (try k_fold)
  k_steps
  unfold Stop
  rename Fr g' _ _ _ => F9
  rename News g' _ _ _ => N9
  rename Addr => aw
  rename _ ∧ _ => l9
  have l8 : lc ≠ aw := ne_of_ltA l9.1
  have l7 : ∀ p ∈ tups, p.1 ≠ aw := fun p hp => ne_of_ltA (allLt_all l9.2 p hp)
  refine While_inv2 (n₀ := cs.length) (WordsJ lc vs ep cs tups) F9 N9 ?_ ?_
  · exact ⟨0, _, aw, [], _, [], rfl, rfl, rfl, rfl, rfl, l8, l7, .nil, rfl, Nat.le_refl _, Nat.zero_le _⟩
  · clear F9 N9 l8 l7 l9
    clear aw
    intro n m₁ news₁ h₁ tk₁ F₁ N₁ hh7
    refine hide fun G9 back9 => ?_
    obtain ⟨k, tki, aw, vw, epw, ws, e1, e2, e3, e4, e5, hla, hta, hvw, hws, hvl, hkl⟩ := hh7
    refine back9 ?_
    clear back9 G9
    subst e5
    subst e1
    have hvc := hcs.1
    have F₂ := fr_as F₁ [("i", .int k tki), ("words", .ref aw), ("cells", .ref lc)] (by simp only [List.mem_cons, List.mem_nil_iff, or_false]; rintro p (rfl | rfl | rfl) <;> assumption)
    clear F₁
    refine show wpAny _ _ _ _ _ _ from ?_
    k_fold
    by_cases hkt : k < cs.length
    · obtain ⟨c, hc⟩ : ∃ c, cs[k]? = some c := ⟨_, List.getElem?_eq_getElem hkt⟩
      obtain ⟨b, tkb, epb, hvb, hmb⟩ := hcs.2 k c hc
      obtain ⟨c1, c2⟩ := c
      dsimp only at hmb
      have hba : b ≠ aw := hta _ hmb
      have hbl : b ≠ lc := hlc _ hmb
      have N₂ := news_sub (l' := (b, tupOf #[.str (tx [c1]) tkb, .bool c2] epb) :: (aw, listOf vw.toArray epw) :: (lc, listOf vs.toArray ep) :: tups) N₁ (fun p hp => by
        rcases List.mem_cons.mp hp with rfl | hp
        · exact .tail _ (.tail _ hmb)
        · exact hp)
      clear N₁
      replace hla := neN hla
      replace hba := neN hba
      replace hbl := neN hbl
      have hu9 : un + 3 + 64 < cLine := by omega
      have ha1 : Asc [c1] := fun c hc' => by rw [List.mem_singleton.mp hc']; exact hasc _ (List.mem_of_getElem? hc)
      have ha34 : Asc [34] := fun c hc' => by rw [List.mem_singleton.mp hc']; decide
      k_steps
      unfold Stop
      rename News g' _ _ _ => N8
      by_cases hq : c1 = 34 ∧ c2 = true
      · obtain ⟨rfl, rfl⟩ := hq
        refine eq_cell N8 (.tail _ (.head _)) (.head _) ha1 ha34 hu9 (c := true) (by simp) ?_
        have N7 := news_sub (l' := (b, tupOf #[.str (tx [34]) tkb, .bool true] epb) :: (aw, listOf vw.toArray epw) :: (lc, listOf vs.toArray ep) :: tups) N8 fun p hp => .tail _ hp
        clear N8
        k_steps
        unfold Stop
        rename Fr g' _ _ _ => F8
        refine While_inv3 (n₀ := cs.length - (k + 1)) (InW (fun d => !isQ d) lc vs ep cs tups k tki aw vw epw) (OutW (fun d => !isQ d) lc vs ep cs tups k tki aw vw epw) F8 (news_sub N7 fun p hp => .tail _ hp) ?_ ?_ ?_
        · exact ⟨k + 1, _, rfl, rfl, rfl, rfl, rfl, rfl, Nat.le_refl _, hkt, span_refl⟩
        · clear F8 N7
          intro n₁ m₂ nw₂ h₂ tk₂ F₂ N₂ hh7
          refine hide fun G9 back9 => ?_
          obtain ⟨e, tke, rfl, q1, q2, q3, q4, rfl, hke, hel, hsp⟩ := hh7
          refine back9 ?_
          clear back9 G9
          have F₃ := fr_as F₂ [("i", .int k tki), ("end", .int e tke), ("words", .ref aw), ("cells", .ref lc)] (by simp only [List.mem_cons, List.mem_nil_iff, or_false]; rintro p (rfl | rfl | rfl | rfl) <;> assumption)
          clear F₂
          by_cases het : e < cs.length
          · obtain ⟨d, hd'⟩ : ∃ d, cs[e]? = some d := ⟨_, List.getElem?_eq_getElem het⟩
            obtain ⟨b2, tkd, epd, hvd, hmd⟩ := hcs.2 e d hd'
            obtain ⟨d1, d2⟩ := d
            dsimp only at hmd
            have N₃ := news_sub (l' := (b2, tupOf #[.str (tx [d1]) tkd, .bool d2] epd) :: (aw, listOf vw.toArray epw) :: (lc, listOf vs.toArray ep) :: tups) N₂ (fun p hp => by
              rcases List.mem_cons.mp hp with rfl | hp
              · exact .tail _ (.tail _ hmd)
              · exact hp)
            clear N₂
            have had : Asc [d1] := fun c hc' => by rw [List.mem_singleton.mp hc']; exact hasc _ (List.mem_of_getElem? hd')
            k_steps
            unfold Stop
            rename News g' _ _ _ => N8
            by_cases hq' : d1 = 34 ∧ d2 = true
            · refine ne_cell N8 (.tail _ (.head _)) (.head _) had ha34 hu9 (c := true) (by simpa using hq') ?_
              have N7 := news_sub (l' := (aw, listOf vw.toArray epw) :: (lc, listOf vs.toArray ep) :: tups) N8 fun p hp => .tail _ (.tail _ hp)
              clear N8
              k_steps
              rename News g' _ _ _ => N8
              rename Fr g' _ _ _ => F8
              exact whileOut_mk F8 N8 ⟨e, tke, rfl, rfl, rfl, rfl, rfl, hke, hel, span_out hsp (.inr ⟨_, hd', by simpa using hq'⟩)⟩
            · refine ne_cell N8 (.tail _ (.head _)) (.head _) had ha34 hu9 (c := false) (by simpa using hq') ?_
              have N7 := news_sub (l' := (aw, listOf vw.toArray epw) :: (lc, listOf vs.toArray ep) :: tups) N8 fun p hp => .tail _ (.tail _ hp)
              clear N8
              k_steps
              rename News g' _ _ _ => N8
              rename Fr g' _ _ _ => F8
              exact step_next (n' := cs.length - (e + 1)) F8 N8 (Nat.sub_lt_sub_left het (Nat.lt_succ_self e)) ⟨e + 1, _, rfl, rfl, rfl, rfl, rfl, rfl, by omega, by omega, span_step hsp hke hd' (by simpa using hq')⟩
          · k_steps
            rename News g' _ _ _ => N8
            rename Fr g' _ _ _ => F8
            exact whileOut_mk F8 N8 ⟨e, tke, rfl, rfl, rfl, rfl, rfl, hke, hel, span_out hsp (.inl (by omega))⟩
        · clear F8 N7
          intro m₂ nw₂ h₂ tk₂ F₂ N₂ hh6
          refine hide fun G9 back9 => ?_
          obtain ⟨e, tke, q1, q2, q3, q4, rfl, hke, hel, hst, hsd⟩ := hh6
          refine back9 ?_
          clear back9 G9
          have F₃ := fr_as F₂ [("i", .int k tki), ("end", .int e tke), ("words", .ref aw), ("cells", .ref lc)] (by simp only [List.mem_cons, List.mem_nil_iff, or_false]; rintro p (rfl | rfl | rfl | rfl) <;> assumption)
          clear F₂
          refine show wpAny _ _ _ _ _ _ from ?_
          (try k_fold)
          k_steps
          unfold Stop
          have hus : AreBy (IsCellV tups) ((vs.drop (k + 1)).take (e - (k + 1))) ((cs.drop (k + 1)).take (e - (k + 1))) := ((cells_by hcs).drop (k + 1)).take (e - (k + 1))
          have es : slicePick vs.toArray (some ((k : Int) + 1)) (some (e : Int)) none = ((vs.drop (k + 1)).take (e - (k + 1))).toArray := pick_nat vs (k + 1) e
          obtain ⟨us, hus0⟩ : ∃ us, (vs.drop (k + 1)).take (e - (k + 1)) = us := ⟨_, rfl⟩
          obtain ⟨ds, hds0⟩ : ∃ ds, (cs.drop (k + 1)).take (e - (k + 1)) = ds := ⟨_, rfl⟩
          have hdl : ds.length ≤ cs.length := by rw [← hds0]; simp only [List.length_take, List.length_drop]; omega
          rw [hus0] at es
          rw [hus0, hds0] at hus
          refine comp_walk (closureFor_none (by decide)) rfl (by decide) (by decide) F₃ ?_
          k_steps
          unfold Stop
          rename Fr g' _ _ _ => F9
          rename News g' _ _ _ => N9
          rw [es] at N9
          refine iter_listT rfl F9 N9 (.head _) ?_
          intro I oI St h' W hlive hgo st kp F' N' hlt
          refine ⟨_, _, [(_, listOf us.toArray 0)], I, oI, [I, _], _, _, St, SignsJ _ ds, rfl, W, hlive, ?_, st, kp, F', N', (fun p hp => ne_of_ltA (hlt p hp)), ⟨rfl, .nil⟩, ?_, ?_, ?_⟩
          · intro i v s' Q' E' hv st' hQ
            obtain ⟨T, rfl⟩ : ∃ T, v = .ref T := by
              have hi : i < ds.length := hus.1 ▸ (List.getElem?_eq_some_iff.mp hv).1
              obtain ⟨v', hv', T, _, _, rfl, _⟩ := hus.2 i _ (List.getElem?_eq_getElem hi)
              exact ⟨T, Option.some.inj (hv.symm.trans hv')⟩
            exact hgo _ _ _ _ _ _ _ _ st' hQ
          · rintro i ys nw ⟨rfl, _⟩ p hp
            rw [List.mem_singleton.mp hp]
            exact .head _
          · clear F9 N9 F' N'
            rintro D C E' i v ys ep' nw oC mc oI h tk hD hC hDC hi hv F N hn hoff hnI hID hIC ⟨rfl, hys⟩
            have hi' : i < ds.length := hus.1 ▸ (List.getElem?_eq_some_iff.mp hv).1
            obtain ⟨d, hd'⟩ : ∃ d, ds[i]? = some d := ⟨_, List.getElem?_eq_getElem hi'⟩
            obtain ⟨v', hv', T, tkT, epT, rfl, hT⟩ := hus.2 i d hd'
            obtain rfl : v = .ref T := Option.some.inj (hv.symm.trans hv')
            refine assign_pairC rfl F N hn (off_C hDC hIC hoff) (by repeat (first | exact hT | apply List.mem_cons_of_mem)) rfl rfl rfl ?_
            intro h' tk' oC' F' N' hn'
            show wpAny _ _ (pure true) _ _ _
            refine wpAny_pure ?_
            rw [if_pos rfl]
            clear N F
            k_steps
            refine ⟨_, _, _, _, _, rfl, F', N', hn', hoff, hnI, ⟨rfl, ?_⟩, ?_⟩
            · rw [List.take_add_one, hd', List.map_append]
              exact hys.snoc ⟨_, rfl⟩
            · have := hys.1
              simp only [List.length_map, List.length_take] at this
              omega
          · clear F9 N9 F' N'
            rintro D ys ep' nw h tk N hnD hD ⟨rfl, hys⟩ F
            rw [hus.1, List.take_length] at hys
            k_steps
            unfold Stop
            rename News g' _ _ _ => N9
            have hfl : ((ds.map fun c => [c.1]).flatten).length ≤ 100000 := by rw [signs_flat, List.length_map]; omega
            refine join_tx (N9.isList (.head _)) hys hfl ?_
            rw [signs_flat]
            intro tkj tkj'
            have N7 := news_sub (l' := (aw, listOf vw.toArray epw) :: (lc, listOf vs.toArray ep) :: tups) N9 fun p hp => .tail _ (.tail _ hp)
            clear N9 N
            k_steps
            rename News g' _ _ _ => N8
            rename Fr g' _ _ _ => F8
            refine step_next (nw := (aw, listOf (vw ++ [Value.str (tx (ds.map (·.1))) tkj]).toArray (epw + 1)) :: (lc, listOf vs.toArray ep) :: tups) (n' := cs.length - (e + 1)) F8 ?_ (by omega) ⟨e + 1, _, aw, _, _, ws ++ [ds.map (·.1)], rfl, rfl, rfl, rfl, rfl, neN hla, hta, hvw.snoc ⟨_, rfl⟩, ?_, by simp only [List.length_append, List.length_cons, List.length_nil]; omega, by omega⟩
            · rw [← List.push_toArray]
              exact N8
            · rw [← hws, words_q_step hc hst hsd, hds0, List.append_assoc]
              rfl
      · refine eq_cell N8 (.tail _ (.head _)) (.head _) ha1 ha34 hu9 (c := false) (by simpa using hq) ?_
        have N7 := news_sub (l' := (b, tupOf #[.str (tx [c1]) tkb, .bool c2] epb) :: (aw, listOf vw.toArray epw) :: (lc, listOf vs.toArray ep) :: tups) N8 fun p hp => .tail _ hp
        clear N8
        cases c2 with
        | true =>
          have h34 : ¬ c1 = 34 := fun h => hq ⟨h, rfl⟩
          k_steps
          rename News g' _ _ _ => N8
          rename Fr g' _ _ _ => F8
          refine show WhileStep2 _ _ _ _ _ _ _ _ from ?_
          exact step_next (nw := (aw, listOf vw.toArray epw) :: (lc, listOf vs.toArray ep) :: tups) (n' := cs.length - (k + 1)) F8 (news_sub N8 (fun p hp => .tail _ hp)) (by omega) ⟨k + 1, _, aw, vw, epw, ws, rfl, rfl, rfl, rfl, rfl, neN hla, hta, hvw, by rw [← words_w_step hc h34]; exact hws, by omega, by omega⟩
        | false =>
          k_steps
          unfold Stop
          rename Fr g' _ _ _ => F8
          refine While_inv3 (n₀ := cs.length - (k + 1)) (InW inW lc vs ep cs tups k tki aw vw epw) (OutW inW lc vs ep cs tups k tki aw vw epw) F8 (news_sub N7 fun p hp => .tail _ hp) ?_ ?_ ?_
          · exact ⟨k + 1, _, rfl, rfl, rfl, rfl, rfl, rfl, Nat.le_refl _, hkt, span_refl⟩
          · clear F8 N7
            intro n₁ m₂ nw₂ h₂ tk₂ F₂ N₂ hh7
            refine hide fun G9 back9 => ?_
            obtain ⟨e, tke, rfl, q1, q2, q3, q4, rfl, hke, hel, hsp⟩ := hh7
            refine back9 ?_
            clear back9 G9
            have F₃ := fr_as F₂ [("i", .int k tki), ("end", .int e tke), ("words", .ref aw), ("cells", .ref lc)] (by simp only [List.mem_cons, List.mem_nil_iff, or_false]; rintro p (rfl | rfl | rfl | rfl) <;> assumption)
            clear F₂
            by_cases het : e < cs.length
            · obtain ⟨d, hd'⟩ : ∃ d, cs[e]? = some d := ⟨_, List.getElem?_eq_getElem het⟩
              obtain ⟨b2, tkd, epd, hvd, hmd⟩ := hcs.2 e d hd'
              obtain ⟨d1, d2⟩ := d
              dsimp only at hmd
              have N₃ := news_sub (l' := (b2, tupOf #[.str (tx [d1]) tkd, .bool d2] epd) :: (aw, listOf vw.toArray epw) :: (lc, listOf vs.toArray ep) :: tups) N₂ (fun p hp => by
                rcases List.mem_cons.mp hp with rfl | hp
                · exact .tail _ (.tail _ hmd)
                · exact hp)
              clear N₂
              cases d2 with
              | false =>
                k_steps
                rename News g' _ _ _ => N8
                rename Fr g' _ _ _ => F8
                exact step_next (n' := cs.length - (e + 1)) F8 (news_sub N8 (fun p hp => .tail _ hp)) (Nat.sub_lt_sub_left het (Nat.lt_succ_self e)) ⟨e + 1, _, rfl, rfl, rfl, rfl, rfl, rfl, by omega, by omega, span_step hsp hke hd' (by simp)⟩
              | true =>
                by_cases h34 : d1 = 34
                · subst h34
                  k_steps
                  rename News g' _ _ _ => N8
                  rename Fr g' _ _ _ => F8
                  exact step_next (n' := cs.length - (e + 1)) F8 (news_sub N8 (fun p hp => .tail _ hp)) (Nat.sub_lt_sub_left het (Nat.lt_succ_self e)) ⟨e + 1, _, rfl, rfl, rfl, rfl, rfl, rfl, by omega, by omega, span_step hsp hke hd' (by simp)⟩
                · have hb34 : (([d1] : List Nat) == [34]) = false := by simp [h34]
                  k_steps
                  rename News g' _ _ _ => N8
                  rename Fr g' _ _ _ => F8
                  exact whileOut_mk F8 (news_sub N8 (fun p hp => .tail _ hp)) ⟨e, tke, rfl, rfl, rfl, rfl, rfl, hke, hel, span_out hsp (.inr ⟨_, hd', by simp [h34]⟩)⟩
            · k_steps
              rename News g' _ _ _ => N8
              rename Fr g' _ _ _ => F8
              exact whileOut_mk F8 N8 ⟨e, tke, rfl, rfl, rfl, rfl, rfl, hke, hel, span_out hsp (.inl (by omega))⟩
          · clear F8 N7
            intro m₂ nw₂ h₂ tk₂ F₂ N₂ hh6
            refine hide fun G9 back9 => ?_
            obtain ⟨e, tke, q1, q2, q3, q4, rfl, hke, hel, hst, hsd⟩ := hh6
            refine back9 ?_
            clear back9 G9
            have F₃ := fr_as F₂ [("i", .int k tki), ("end", .int e tke), ("words", .ref aw), ("cells", .ref lc)] (by simp only [List.mem_cons, List.mem_nil_iff, or_false]; rintro p (rfl | rfl | rfl | rfl) <;> assumption)
            clear F₂
            refine show wpAny _ _ _ _ _ _ from ?_
            (try k_fold)
            k_steps
            unfold Stop
            have hus : AreBy (IsCellV tups) ((vs.drop k).take (e - k)) ((cs.drop k).take (e - k)) := ((cells_by hcs).drop k).take (e - k)
            have es : slicePick vs.toArray (some ((k : Int))) (some (e : Int)) none = ((vs.drop k).take (e - k)).toArray := pick_nat vs k e
            obtain ⟨us, hus0⟩ : ∃ us, (vs.drop k).take (e - k) = us := ⟨_, rfl⟩
            obtain ⟨ds, hds0⟩ : ∃ ds, (cs.drop k).take (e - k) = ds := ⟨_, rfl⟩
            have hdl : ds.length ≤ cs.length := by rw [← hds0]; simp only [List.length_take, List.length_drop]; omega
            rw [hus0] at es
            rw [hus0, hds0] at hus
            refine comp_walk (closureFor_none (by decide)) rfl (by decide) (by decide) F₃ ?_
            k_steps
            unfold Stop
            rename Fr g' _ _ _ => F9
            rename News g' _ _ _ => N9
            rw [es] at N9
            refine iter_listT rfl F9 N9 (.head _) ?_
            intro I oI St h' W hlive hgo st kp F' N' hlt
            refine ⟨_, _, [(_, listOf us.toArray 0)], I, oI, [I, _], _, _, St, SignsJ _ ds, rfl, W, hlive, ?_, st, kp, F', N', (fun p hp => ne_of_ltA (hlt p hp)), ⟨rfl, .nil⟩, ?_, ?_, ?_⟩
            · intro i v s' Q' E' hv st' hQ
              obtain ⟨T, rfl⟩ : ∃ T, v = .ref T := by
                have hi : i < ds.length := hus.1 ▸ (List.getElem?_eq_some_iff.mp hv).1
                obtain ⟨v', hv', T, _, _, rfl, _⟩ := hus.2 i _ (List.getElem?_eq_getElem hi)
                exact ⟨T, Option.some.inj (hv.symm.trans hv')⟩
              exact hgo _ _ _ _ _ _ _ _ st' hQ
            · rintro i ys nw ⟨rfl, _⟩ p hp
              rw [List.mem_singleton.mp hp]
              exact .head _
            · clear F9 N9 F' N'
              rintro D C E' i v ys ep' nw oC mc oI h tk hD hC hDC hi hv F N hn hoff hnI hID hIC ⟨rfl, hys⟩
              have hi' : i < ds.length := hus.1 ▸ (List.getElem?_eq_some_iff.mp hv).1
              obtain ⟨d, hd'⟩ : ∃ d, ds[i]? = some d := ⟨_, List.getElem?_eq_getElem hi'⟩
              obtain ⟨v', hv', T, tkT, epT, rfl, hT⟩ := hus.2 i d hd'
              obtain rfl : v = .ref T := Option.some.inj (hv.symm.trans hv')
              refine assign_pairC rfl F N hn (off_C hDC hIC hoff) (by repeat (first | exact hT | apply List.mem_cons_of_mem)) rfl rfl rfl ?_
              intro h' tk' oC' F' N' hn'
              show wpAny _ _ (pure true) _ _ _
              refine wpAny_pure ?_
              rw [if_pos rfl]
              clear N F
              k_steps
              refine ⟨_, _, _, _, _, rfl, F', N', hn', hoff, hnI, ⟨rfl, ?_⟩, ?_⟩
              · rw [List.take_add_one, hd', List.map_append]
                exact hys.snoc ⟨_, rfl⟩
              · have := hys.1
                simp only [List.length_map, List.length_take] at this
                omega
            · clear F9 N9 F' N'
              rintro D ys ep' nw h tk N hnD hD ⟨rfl, hys⟩ F
              rw [hus.1, List.take_length] at hys
              k_steps
              unfold Stop
              rename News g' _ _ _ => N9
              have hfl : ((ds.map fun c => [c.1]).flatten).length ≤ 100000 := by rw [signs_flat, List.length_map]; omega
              refine join_tx (N9.isList (.head _)) hys hfl ?_
              rw [signs_flat]
              intro tkj tkj'
              have N7 := news_sub (l' := (aw, listOf vw.toArray epw) :: (lc, listOf vs.toArray ep) :: tups) N9 fun p hp => .tail _ (.tail _ hp)
              clear N9 N
              k_steps
              rename News g' _ _ _ => N8
              rename Fr g' _ _ _ => F8
              refine step_next (nw := (aw, listOf (vw ++ [Value.str (tx (ds.map (·.1))) tkj]).toArray (epw + 1)) :: (lc, listOf vs.toArray ep) :: tups) (n' := cs.length - (e)) F8 ?_ (by omega) ⟨e, _, aw, _, _, ws ++ [ds.map (·.1)], rfl, rfl, rfl, rfl, rfl, neN hla, hta, hvw.snoc ⟨_, rfl⟩, ?_, by simp only [List.length_append, List.length_cons, List.length_nil]; omega, by omega⟩
              · rw [← List.push_toArray]
                exact N8
              · rw [← hws, words_p_step hc hke hst hsd, hds0, List.append_assoc]
                rfl
    · k_steps
      rename News h₀ _ _ _ => N9
      rename News g' _ _ _ => N8
      rename Fr h₀ _ _ _ => F9
      rename Fr g' _ _ _ => F8
      have e0 : cs.drop k = [] := List.drop_of_length_le (by omega)
      rw [e0, wordsOf_nil, List.append_nil] at hws
      subst hws
      exact ret _ _ _ _ F9 N9 (stays_of GS F8 N8) ⟨aw, vw, epw, rfl, rfl, hla, hta, hvw⟩
end
section
local macro_rules | `(tactic| walk_at "exec Assign cons ListComp") => `(tactic| refine stop_mk ?_)
local macro_rules | `(tactic| walk_at "exec For Name Call cons nil") => `(tactic| refine stop_mk ?_)
local macro_rules | `(tactic| walk_at "subscriptTail") => `(tactic| ((with_reducible show wpAny _ _ (subscriptTail _ _ (Value.ref _) (Value.int _ _)) _ _ _); refine stop_mk ?_))
local macro_rules | `(tactic| walk_at "compareOp In int ref") => `(tactic| (k_here; k_dflt (refine' in_nats ?N ?m ?i ?b ?_; (case N => k_asm); (case m => k_mem); (case i => assumption); (case b => assumption); k_whole)))
theorem range_stars {row : List (List Nat)} {i : Nat} {wd : List Nat} (h : row[i]? = some wd) : (List.range (i + 1)).filter (fun j => row[j]? == some [42]) = (List.range i).filter (fun j => row[j]? == some [42]) ++ (if wd = [42] then [i] else []) := by
  rw [List.range_succ, List.filter_append]
  congr 1
  by_cases q : wd = [42]
  · rw [if_pos q]; subst q; simp [h]
  · rw [if_neg q]; simp [h, q]
theorem joined_ok {w : World} {p : Program} {loose : List Str} {mean : ExcName → Option Value} {mg mb : Str → Option Value} (lr : Addr) (vr : List Value) (ep : Nat) (row : List (List Nat)) (hvr : StrsAre vr row) (hlen : row.length ≤ 1000) (hsz : (lawJ row).length ≤ 90000) :
  Gv w p loose mean mg mb (.ref 111) [.ref lr] 3 200 [(lr, listOf vr.toArray ep)] (fun r own' => IsTx r (lawJ row) ∧ own' = [(lr, listOf vr.toArray ep)]) := by
  unfold Gv
  intro dp un gd cn cs a ccd cl outer A₀ base h₀ L m s Q E B F X N T CH hk hd hu ret
  w_on
  revert X; k_fill; intro X
  (refine' code_ownC ?k1 ?k2 ?k3 ?k4 ?k5 ?kA ?kF ?kK ?k6 ?k7 ?k8 ?k9 ?kB ?kD ?_ ?c2 ?c3 ?c4; (case kA => exact rfl); (case kF => exact rfl); (case kK => first | assumption | exact rfl); (case k1 => k_asm); (case k2 => k_asm); (case k3 => k_asm); (case k4 => k_asm); (case k5 => k_asm); (case k6 => k_is); (case k7 => k_is); (case k8 => ktr_room); (case k9 => exact BindsTo.of_eq rfl); (case kB => exact rfl); (case kD => decide +kernel); (case c2 => exact rfl); (case c3 => exact rfl); (case c4 => exact rfl); k_whole)
  intro g' L' h' tk' cells' FG' F' N' Y' B' X' T' l1 GS
  k_cells Y'
  (try simp only [List.cons_append, List.nil_append] at N')
  (try dsimp only)
  (try k_fold)
  have hvl := hvr.1
  k_steps
  unfold Stop
  rename Fr g' _ _ _ => F₃
  refine comp_walkA (L := L') rfl rfl rfl rfl (clos1 (c := L' + 1) rfl rfl rfl rfl) rfl (by decide) (by decide) F₃ ?_
  k_steps
  unfold Stop
  rename IsRange _ _ _ _ _ _ _ _ => hr9
  rename Obj => oc9
  rename Fr g' _ _ _ => F9
  rename News g' _ _ _ => N9
  refine iter_range2 rfl F9 N9 hr9 (by omega) ?_
  intro I oI St h₂ W hlive st' F₂ N₂ hlt
  refine ⟨_, _, [], I, oI, [I], _, _, St, fun i vs nw => nw = [(L' + 1, oc9), (lr, listOf vr.toArray ep)] ∧ NatsAre vs ((List.range i).filter fun j => row[j]? == some [42]), rfl, W, hlive, go_name, st', ?_, F₂, N₂, (fun p hp => ne_of_ltA (hlt p hp)), ⟨rfl, .nil⟩, (fun _ _ _ _ p hp => nomatch hp), ?_, ?_⟩
  · intro b hb hI
    exact absurd (List.mem_singleton.mp hb) hI
  · clear F9 N9 F₂ N₂
    rintro D C E' i v vs' ep' nw oC mc oI h tk hD hC hDC hi ⟨tki, rfl⟩ F N hn hoff hnI hID hIC ⟨rfl, hvs⟩
    obtain ⟨wd, hwd⟩ : ∃ wd, row[i]? = some wd := ⟨_, List.getElem?_eq_getElem hi⟩
    obtain ⟨v, hv, tkv, rfl⟩ := hvr.2 i wd hwd
    refine assign_comp F N hn (off_C hDC hIC hoff) rfl rfl ?_
    intro h' tk' oC' F' N' hn'
    refine wpAny_tests_one ?_
    clear N F
    have hvl' := hvs.1
    have hvl2 : ((List.range i).filter fun j => row[j]? == some [42]).length ≤ i := by
      have := List.length_filter_le (fun j => row[j]? == some [42]) (List.range i)
      simpa using this
    by_cases h42 : wd = [42]
    · subst h42
      k_steps
      exact ⟨_, _, _, _, _, rfl, F', N', hn', hoff, hnI, ⟨rfl, by rw [range_stars hwd, if_pos rfl]; exact hvs.snoc ⟨_, rfl⟩⟩, by omega⟩
    · have hb : (wd == [42]) = false := by simpa using h42
      k_steps
      exact ⟨_, _, _, _, _, rfl, F', N', hn', hoff, hnI, rfl, by rw [range_stars hwd, if_neg h42, List.append_nil]; exact hvs⟩
  · clear F9 N9 F₂ N₂
    rintro D vst eps nw h tk N hnD hD ⟨rfl, hst⟩ F
    rw [show ((List.range row.length).filter fun j => row[j]? == some [42]) = starsOf row from rfl] at hst
    have hDc : D ≠ L' + 1 := Ne.symm (hnD _ (.head _))
    have hDr : D ≠ lr := Ne.symm (hnD _ (.tail _ (.head _)))
    have hsl : vst.length ≤ 100000 := by
      have h1 := hst.1
      have h2 := List.length_filter_le (fun j => row[j]? == some [42]) (List.range row.length)
      rw [List.length_range] at h2
      unfold starsOf at h1
      omega
    k_steps
    unfold Stop
    refine wpAny_For ?_
    k_steps
    unfold Stop
    rename IsRange _ _ _ _ _ _ _ _ => hr9
    rename Fr g' _ _ _ => F9
    rename News g' _ _ _ => N9
    refine iter_range2 rfl F9 N9 hr9 (by omega) ?_
    intro I oI St h₂ W hlive st' F₂ N₂ hlt
    refine for_walk W hlive st' [] (fun b hb hI => absurd (List.mem_singleton.mp hb) hI) (fun i m' nw => ∃ txt tkt, m' "text" = some (.str (tx txt) tkt) ∧ m' "stars" = some (.ref D) ∧ nw = [(D, listOf vst.toArray eps), (L' + 1, oc9), (lr, listOf vr.toArray ep)] ∧ txt ++ lawT ((row.take i).contains [42]) (row.drop i) = [40, 63, 115, 58] ++ lawT false row) F₂ N₂ (fun p hp => ne_of_ltA (hlt p hp)) ⟨_, _, rfl, rfl, rfl, rfl⟩ (fun _ _ _ _ p hp => nomatch hp) ?_ ?_
    · clear F9 N9 F₂ N₂
      intro i v m₁ nw oI h₁ tk₁ hi hh8 F₁ N₁ hI hh12
      refine hide fun G9 back9 => ?_
      obtain ⟨tki, rfl⟩ := hh8
      obtain ⟨txt, tkt, e1, e2, rfl, hT⟩ := hh12
      refine back9 ?_
      clear back9 G9
      obtain ⟨wd, hwd⟩ : ∃ wd, row[i]? = some wd := ⟨_, List.getElem?_eq_getElem hi⟩
      obtain ⟨v, hv, tkv, rfl⟩ := hvr.2 i wd hwd
      have F₃ := fr_as F₁ [("text", .str (tx txt) tkt), ("stars", .ref D)] (by simp only [List.mem_cons, List.mem_nil_iff, or_false]; rintro p (rfl | rfl) <;> assumption)
      clear F₁
      have hTl := congrArg List.length hT
      rw [lawT_at _ hwd] at hT hTl
      have hJl : (lawJ row).length = 4 + (lawT false row).length + 3 := by simp [lawJ]; omega
      by_cases h42 : wd = [42]
      · subst h42
        rw [if_pos rfl] at hT hTl
        have hin : (starsOf row).contains i = true := by rw [List.contains_iff_mem]; exact mem_starsOf.mpr hwd
        have hne : starsOf row ≠ [] := by intro q; rw [q] at hin; cases hin
        obtain ⟨f, hf⟩ : ∃ f, (starsOf row).head? = some f := by
          cases q : starsOf row with
          | nil => exact absurd q hne
          | cons a l => exact ⟨a, rfl⟩
        obtain ⟨g, hg⟩ : ∃ g, (starsOf row).getLast? = some g := by
          cases q : (starsOf row).getLast? with
          | none => rw [List.getLast?_eq_none_iff] at q; exact absurd q hne
          | some g => exact ⟨g, rfl⟩
        have hfs := first_star (i := i) hf
        have hgs := last_star (i := i) hg
        obtain ⟨v0, hv0, t0, rfl⟩ := hst.2 0 f (by rw [← List.head?_eq_getElem?]; exact hf)
        obtain ⟨vl, hvl9, tl, rfl⟩ := hst.2 ((starsOf row).length - 1) g (by rw [← List.getLast?_eq_getElem?]; exact hg)
        rw [← hst.1, ← List.getLast?_eq_getElem?] at hvl9
        have htk := take_contains hwd
        simp only [decide_true, Bool.or_true] at htk
        rw [← hfs, ← hgs] at hT hTl
        by_cases hfi : f < i
        · by_cases hig : i < g
          · simp only [hfi, hig, decide_true, if_true, List.length_append, List.length_cons, List.length_nil] at hT hTl
            k_steps
            (try unfold Stop)
            rename News g' _ _ _ => N7
            refine item_listK (k := 0) N7 (.tail _ (.head _)) hv0 (by omega) ?_
            k_steps
            (try unfold Stop)
            rename News g' _ _ _ => N6
            refine item_last N6 (.tail _ (.head _)) hvl9 (by omega) ?_
            k_steps
            rename News g' _ _ _ => N8
            rename Fr g' _ _ _ => F8
            exact ⟨_, _, _, _, rfl, F8, N8, hI, _, _, rfl, rfl, rfl, by rw [htk, ← hT]; simp⟩
          · simp only [hfi, hig, decide_true, decide_false, if_true, Bool.false_eq_true, if_false, List.length_append, List.length_cons, List.length_nil] at hT hTl
            k_steps
            (try unfold Stop)
            rename News g' _ _ _ => N7
            refine item_listK (k := 0) N7 (.tail _ (.head _)) hv0 (by omega) ?_
            k_steps
            (try unfold Stop)
            rename News g' _ _ _ => N6
            refine item_last N6 (.tail _ (.head _)) hvl9 (by omega) ?_
            k_steps
            rename News g' _ _ _ => N8
            rename Fr g' _ _ _ => F8
            exact ⟨_, _, _, _, rfl, F8, N8, hI, _, _, rfl, rfl, rfl, by rw [htk, ← hT]; simp⟩
        · by_cases hig : i < g
          · simp only [hfi, hig, decide_true, decide_false, if_true, Bool.false_eq_true, if_false, List.length_append, List.length_cons, List.length_nil] at hT hTl
            k_steps
            (try unfold Stop)
            rename News g' _ _ _ => N7
            refine item_listK (k := 0) N7 (.tail _ (.head _)) hv0 (by omega) ?_
            k_steps
            (try unfold Stop)
            rename News g' _ _ _ => N6
            refine item_last N6 (.tail _ (.head _)) hvl9 (by omega) ?_
            k_steps
            rename News g' _ _ _ => N8
            rename Fr g' _ _ _ => F8
            exact ⟨_, _, _, _, rfl, F8, N8, hI, _, _, rfl, rfl, rfl, by rw [htk, ← hT]; simp⟩
          · simp only [hfi, hig, decide_false, Bool.false_eq_true, if_false, List.length_append, List.length_cons, List.length_nil] at hT hTl
            k_steps
            (try unfold Stop)
            rename News g' _ _ _ => N7
            refine item_listK (k := 0) N7 (.tail _ (.head _)) hv0 (by omega) ?_
            k_steps
            (try unfold Stop)
            rename News g' _ _ _ => N6
            refine item_last N6 (.tail _ (.head _)) hvl9 (by omega) ?_
            k_steps
            rename News g' _ _ _ => N8
            rename Fr g' _ _ _ => F8
            exact ⟨_, _, _, _, rfl, F8, N8, hI, _, _, rfl, rfl, rfl, by rw [htk, ← hT]; simp⟩
      · rw [if_neg h42] at hT hTl
        have hin : (starsOf row).contains i = false := by
          rw [Bool.eq_false_iff]
          intro q
          rw [List.contains_iff_mem] at q
          have := mem_starsOf.mp q
          rw [hwd] at this
          exact h42 (Option.some.inj this)
        have htk := take_contains hwd
        simp only [h42, decide_false, Bool.or_false] at htk
        have hla : (txt ++ wd).length ≤ 100000 := by
          simp only [List.length_append, List.length_cons, List.length_nil] at hTl ⊢
          omega
        k_steps
        rename News g' _ _ _ => N8
        rename Fr g' _ _ _ => F8
        exact ⟨_, _, _, _, rfl, F8, N8, hI, _, _, rfl, rfl, rfl, by rw [htk, ← hT]; simp⟩
    · clear F9 N9 F₂ N₂
      intro m₁ nw h₁ tk₁ F₁ N₁ hh6
      refine hide fun G9 back9 => ?_
      obtain ⟨txt, tkt, e1, e2, rfl, hT⟩ := hh6
      refine back9 ?_
      clear back9 G9
      have F₃ := fr_as F₁ [("text", .str (tx txt) tkt), ("stars", .ref D)] (by simp only [List.mem_cons, List.mem_nil_iff, or_false]; rintro p (rfl | rfl) <;> assumption)
      clear F₁
      rw [List.drop_length, lawT, List.append_nil] at hT
      subst hT
      have hJl : (lawJ row).length = 4 + (lawT false row).length + 3 := by simp [lawJ]; omega
      k_steps
      rename News h₀ _ _ _ => N9
      rename News g' _ _ _ => N8
      rename Fr h₀ _ _ _ => F9
      rename Fr g' _ _ _ => F8
      have hsub : ∀ p ∈ [(lr, listOf vr.toArray ep)], p ∈ [(D, listOf vst.toArray eps), (L' + 1, oc9), (lr, listOf vr.toArray ep)] := fun p hp => .tail _ (.tail _ hp)
      have S8 := stays_of GS F8 N8
      exact ret _ [(lr, listOf vr.toArray ep)] _ _ F9 (news_sub N9 hsub) ⟨S8.1, fun p hp => S8.2 p (hsub p hp)⟩ ⟨⟨_, rfl⟩, rfl⟩
end
section
local macro_rules | `(tactic| walk_at "And") => `(tactic| ((with_reducible show (Str.length _ ≤ sizeLine) ∧ _); k_dflt (refine ⟨?hs, ?_⟩; (case hs => (simp only [PySem.Str.length_append, tx_len, empty_len, List.length_cons, List.length_nil, List.length_append]; rw [sizeLine_eq]; omega)))))
local macro_rules | `(tactic| walk_at "joinParts") => `(tactic| (k_here; (with_reducible show wpAny _ _ (joinParts (Str.empty ++ tx _ ++ tx _ ++ tx _) _) _ _ _); k_dflt (refine joinParts_nilT (fstr3 _ _ _) (by simp only [List.length_cons, List.length_nil, List.length_append]; omega) ?_); intro tk9 tk8; (try dsimp only)))
local macro_rules | `(tactic| walk_at "ite") => `(tactic| first | (with_reducible refine ieq_t (by omega) ?_) | (with_reducible refine ieq_f (by omega) ?_))
local macro_rules | `(tactic| walk_at "callWith ref") => `(tactic| (k_here; (with_reducible show wpAny _ _ (callWith _ (Value.ref _) _ (backTo _ (starEach (_ :: _) _)) []) _ _ _); k_dflt (refine' callWith_bfm ?N ?m ?_; (case N => k_asm); (case m => k_mem); k_whole)))
local macro_rules | `(tactic| walk_at "And") => `(tactic| ((with_reducible show StandsB _ _ _ ∧ _); k_dflt (refine ⟨standsB_of (by k_asm) (by k_mem), ?_⟩); (try dsimp only [List.nil_append, List.cons_append])))
local macro_rules | `(tactic| walk_at "compareOp IsNot str ref") => `(tactic| (k_here; refine wpAny_isNot_other (by rfl) (by intro x; cases x) ?_))
local macro_rules | `(tactic| walk_at "getAttr ref") => `(tactic| (k_here; (with_reducible show wpAny _ _ (getAttr (Value.ref _) _ true) _ _ _); k_dflt (refine' getAttr_append_K ?F ?N ?m ?_; (case F => k_asm); (case N => k_asm); (case m => k_mem); k_whole); intro la9 h' tk8 F' N' l1; (try k_lt l1); (try k_sweep); (try dsimp only)))
local macro_rules | `(tactic| walk_at "call ref") => `(tactic| (k_here; (with_reducible show wpAny _ _ (call (Value.ref _) [_]) _ _ _); k_dflt (refine' bfm_append_K ?F ?N ?m ?U ?z ?_; (case F => k_asm); (case N => k_asm); (case m => k_mem); (case U => k_upd); (case z => (simp only [List.size_toArray, Array.size_push]; rw [sizeLine_eq]; omega)); k_whole); intro h' F' N'; (try k_sweep); (try dsimp only)))
local macro_rules | `(tactic| walk_at "exec While BoolOp cons nil") => `(tactic| refine stop_mk ?_)
local macro_rules | `(tactic| walk_at "exec While") => `(tactic| refine stop_mk ?_)
local macro_rules | `(tactic| walk_at "subscriptTail Name Name ref int") => `(tactic| (k_here; (with_reducible show wpAny _ _ (subscriptTail _ _ (Value.ref _) (Value.int (_ + 1) _)) _ _ _); k_dflt (refine' item_listK1 ?N ?m ?x ?k ?_ ?s; (case N => k_asm); (case m => k_mem); (case x => assumption); (case k => omega); (case s => with_unfolding_all rfl); k_whole)))
local macro_rules | `(tactic| walk_at "call builtin:str.join") => `(tactic| refine stop_mk ?_)
abbrev ns (w : List Nat) : Bool := !isSt w
theorem led_push {h₀ h : Heap} {L l : Addr} {vr : List Value} {v : Value} {e : Nat} {rest : List (Addr × Obj)} {xs : List (List Nat)} {x : List Nat} (N : News h₀ L h ((l, listOf (vr.toArray.push v) e) :: rest)) (hv : IsTx v x) (hvr : StrsAre vr xs) :
    ∃ vr', vr'.length = vr.length + 1 ∧ StrsAre vr' (xs ++ [x]) ∧ News h₀ L h ((l, listOf vr'.toArray e) :: rest) :=
  ⟨vr ++ [v], by simp, hvr.snoc hv, by rw [← List.push_toArray]; exact N⟩
theorem led_push2 {h₀ h : Heap} {L l : Addr} {vr : List Value} {v v' : Value} {e : Nat} {rest : List (Addr × Obj)} {xs : List (List Nat)} {x x' : List Nat} (N : News h₀ L h ((l, listOf ((vr.toArray.push v).push v') e) :: rest)) (hv : IsTx v x) (hv' : IsTx v' x') (hvr : StrsAre vr xs) :
    ∃ vr', vr'.length = vr.length + 2 ∧ StrsAre vr' (xs ++ [x] ++ [x']) ∧ News h₀ L h ((l, listOf vr'.toArray e) :: rest) :=
  ⟨vr ++ [v] ++ [v'], by simp, (hvr.snoc hv).snoc hv', by rw [← List.push_toArray, ← List.push_toArray]; exact N⟩
def EndsAt (row : List (List Nat)) (e : Nat) : Prop := row.length ≤ e ∨ ∃ c, row[e]? = some c ∧ ns c = false
def StarAt (row : List (List Nat)) (k : Nat) : Prop := row.drop k = [] ∨ row[k]? = some [42]
inductive PreJ (li st lres la : Addr) (vp : List Value) (ep : Nat) (row : List (List Nat)) (n : Nat) (m' : Str → Option Value) (nw : List (Addr × Obj)) : Prop
  | mk (k : Nat) (tki tkn : Tok) (vr : List Value) (epr : Nat) (z0 : n = row.length - k) (z1 : m' "inp" = some (.ref li)) (z2 : m' "STAR" = some (.ref st)) (z3 : m' "res" = some (.ref lres)) (z4 : m' "add" = some (.ref la)) (z5 : m' "i" = some (.int k tki)) (z6 : m' "n" = some (.int row.length tkn)) (z7 : nw = [(lres, listOf vr.toArray epr), (la, bfmObj lres), (li, listOf vp.toArray ep)]) (z8 : k ≤ row.length) (z9 : StrsAre vr (row.take k)) (z10 : Span ns row 0 k) : PreJ li st lres la vp ep row n m' nw
inductive OutP (li st lres la : Addr) (vp : List Value) (ep : Nat) (row : List (List Nat)) (m' : Str → Option Value) (nw : List (Addr × Obj)) : Prop
  | mk (k : Nat) (tki tkn : Tok) (vr : List Value) (epr : Nat) (z0 : m' "inp" = some (.ref li)) (z1 : m' "STAR" = some (.ref st)) (z2 : m' "res" = some (.ref lres)) (z3 : m' "add" = some (.ref la)) (z4 : m' "i" = some (.int k tki)) (z5 : m' "n" = some (.int row.length tkn)) (z6 : nw = [(lres, listOf vr.toArray epr), (la, bfmObj lres), (li, listOf vp.toArray ep)]) (z7 : k ≤ row.length) (z8 : vr.length ≤ k) (z9 : StrsAre vr (row.takeWhile ns)) (z10 : row.dropWhile ns = row.drop k) : OutP li st lres la vp ep row m' nw
inductive StarJ (li st lres la : Addr) (vp : List Value) (ep : Nat) (row : List (List Nat)) (n : Nat) (m' : Str → Option Value) (nw : List (Addr × Obj)) : Prop
  | mk (k : Nat) (tki tkn : Tok) (vr : List Value) (epr : Nat) (xs : List (List Nat)) (z0 : n = row.length - k) (z1 : m' "inp" = some (.ref li)) (z2 : m' "STAR" = some (.ref st)) (z3 : m' "res" = some (.ref lres)) (z4 : m' "add" = some (.ref la)) (z5 : m' "i" = some (.int k tki)) (z6 : m' "n" = some (.int row.length tkn)) (z7 : nw = [(lres, listOf vr.toArray epr), (la, bfmObj lres), (li, listOf vp.toArray ep)]) (z8 : k ≤ row.length) (z9 : vr.length ≤ 2 * k) (z10 : StrsAre vr xs) (z11 : xs.flatten ++ starsT (row.drop k) = (row.takeWhile ns).flatten ++ starsT (row.dropWhile ns)) (z12 : StarAt row k) : StarJ li st lres la vp ep row n m' nw
inductive OutS (li st lres la : Addr) (vp : List Value) (ep : Nat) (row : List (List Nat)) (m' : Str → Option Value) (nw : List (Addr × Obj)) : Prop
  | mk (tki tkn : Tok) (vr : List Value) (epr : Nat) (xs : List (List Nat)) (z0 : m' "inp" = some (.ref li)) (z1 : m' "STAR" = some (.ref st)) (z2 : m' "res" = some (.ref lres)) (z3 : m' "add" = some (.ref la)) (z4 : m' "i" = some (.int row.length tki)) (z5 : m' "n" = some (.int row.length tkn)) (z6 : nw = [(lres, listOf vr.toArray epr), (la, bfmObj lres), (li, listOf vp.toArray ep)]) (z7 : StrsAre vr xs) (z8 : xs.flatten = (row.takeWhile ns).flatten ++ starsT (row.dropWhile ns)) : OutS li st lres la vp ep row m' nw
inductive FixJ (li st lres la lf : Addr) (vp : List Value) (ep : Nat) (row : List (List Nat)) (vr : List Value) (epr k : Nat) (n : Nat) (m' : Str → Option Value) (nw : List (Addr × Obj)) : Prop
  | mk (e : Nat) (tki tkn : Tok) (vf : List Value) (epf : Nat) (z0 : n = row.length - e) (z1 : m' "inp" = some (.ref li)) (z2 : m' "STAR" = some (.ref st)) (z3 : m' "res" = some (.ref lres)) (z4 : m' "add" = some (.ref la)) (z5 : m' "i" = some (.int e tki)) (z6 : m' "n" = some (.int row.length tkn)) (z7 : m' "fixed" = some (.ref lf)) (z8 : nw = [(lf, listOf vf.toArray epf), (lres, listOf vr.toArray epr), (la, bfmObj lres), (li, listOf vp.toArray ep)]) (z9 : k + 1 ≤ e) (z10 : e ≤ row.length) (z11 : StrsAre vf ((row.drop (k + 1)).take (e - (k + 1)))) (z12 : Span ns row (k + 1) e) : FixJ li st lres la lf vp ep row vr epr k n m' nw
inductive FixOut (li st lres la lf : Addr) (vp : List Value) (ep : Nat) (row : List (List Nat)) (vr : List Value) (epr k : Nat) (m' : Str → Option Value) (nw : List (Addr × Obj)) : Prop
  | mk (e : Nat) (tki tkn : Tok) (vf : List Value) (epf : Nat) (z0 : m' "inp" = some (.ref li)) (z1 : m' "STAR" = some (.ref st)) (z2 : m' "res" = some (.ref lres)) (z3 : m' "add" = some (.ref la)) (z4 : m' "i" = some (.int e tki)) (z5 : m' "n" = some (.int row.length tkn)) (z6 : m' "fixed" = some (.ref lf)) (z7 : nw = [(lf, listOf vf.toArray epf), (lres, listOf vr.toArray epr), (la, bfmObj lres), (li, listOf vp.toArray ep)]) (z8 : k + 1 ≤ e) (z9 : e ≤ row.length) (z10 : StrsAre vf ((row.drop (k + 1)).takeWhile ns)) (z11 : (row.drop (k + 1)).dropWhile ns = row.drop e) (z12 : EndsAt row e) : FixOut li st lres la lf vp ep row vr epr k m' nw
theorem joinp_ok {w : World} {p : Program} {loose : List Str} {mean : ExcName → Option Value} {mg mb : Str → Option Value} (li st : Addr) (vp : List Value) (ep : Nat) (row : List (List Nat)) (hvp : PartsAre st vp row) (hadj : NoAdj row) (hlen : row.length ≤ 1000) (hsz : (joinT row).length ≤ 90000) :
  Gv w p loose mean mg mb (.ref 28) [.ref li, .ref st] 3 200 [(li, listOf vp.toArray ep)] (fun r own' => IsTx r (joinT row) ∧ own' = [(li, listOf vp.toArray ep)]) := by
  unfold Gv
  intro dp un gd cn cs a ccd cl outer A₀ base h₀ L m s Q E B F X N T CH hk hd hu ret
  w_on
  revert X; k_fill; intro X
  (refine' code_defG ?k1 ?k2 ?k3 ?k4 ?k5 ?kA ?kF ?kK ?k6 ?k7 ?k8 ?k9 ?kB ?_ ?c2 ?c3 ?c4 ?c5; (case kA => exact rfl); (case kF => exact rfl); (case kK => first | assumption | exact rfl); (case k1 => k_asm); (case k2 => k_asm); (case k3 => k_asm); (case k4 => k_asm); (case k5 => k_asm); (case k6 => k_is); (case k7 => k_is); (case k8 => ktr_room); (case k9 => exact BindsTo.of_eq rfl); (case c5 => decide); (case kB => exact locs rfl); (case c2 => exact rfl); (case c3 => exact rfl); (case c4 => exact rfl); k_whole)
  intro g' L' h' FG' F' N' B' X' T' GS
  (try dsimp only)
  (try k_fold)
  have hvl := hvp.1
  k_steps
  unfold Stop
  rename Fr g' _ _ _ => F9
  rename News g' _ _ _ => N9
  rename_i lres _ lR _ la _ _ lA _ _ tkn _ D9 _ lD _ _ _
  have d1 := neN (Nat.ne_of_lt lR : li ≠ lres)
  have d2 := neN (Nat.ne_of_lt lA.1 : lres ≠ la)
  have d3 := neN (Nat.ne_of_lt lA.2 : li ≠ la)
  clear lR lA lD
  refine While_inv3 (n₀ := row.length) (PreJ li st lres la vp ep row) (OutP li st lres la vp ep row) F9 (news_sub (l' := [(lres, listOf ([] : List Value).toArray 0), (la, bfmObj lres), (li, listOf vp.toArray ep)]) N9 fun p hp => by
    simp only [List.mem_cons, List.mem_nil_iff, or_false] at hp
    rcases hp with rfl | rfl | rfl
    · exact .tail _ (.tail _ (.head _))
    · exact .tail _ (.head _)
    · exact .tail _ (.tail _ (.tail _ (.head _)))) ?_ ?_ ?_
  · exact ⟨0, _, _, [], _, rfl, rfl, rfl, rfl, rfl, rfl, rfl, rfl, Nat.zero_le _, .nil, span_refl⟩
  · clear F9 N9
    intro n₁ m₂ nw₂ h₂ tk₂ F₂ N₂ hh7
    refine hide fun G9 back9 => ?_
    obtain ⟨k, tki, tkn, vr, epr, rfl, q1, q2, q3, q4, q5, q6, rfl, hkl, hvr, hsp⟩ := hh7
    refine back9 ?_
    clear back9 G9
    have F₃ := fr_as F₂ [("inp", .ref li), ("STAR", .ref st), ("res", .ref lres), ("add", .ref la), ("i", .int k tki), ("n", .int row.length tkn)] (by simp only [List.mem_cons, List.mem_nil_iff, or_false]; rintro p (rfl | rfl | rfl | rfl | rfl | rfl) <;> assumption)
    clear F₂
    have hvrl : vr.length ≤ k := by rw [hvr.1]; exact List.length_take_le _ _
    by_cases hkt : k < row.length
    · obtain ⟨wd, hwd⟩ : ∃ wd, row[k]? = some wd := ⟨_, List.getElem?_eq_getElem hkt⟩
      obtain ⟨v, hv, hpv⟩ := hvp.2 k wd hwd
      by_cases h42 : wd = [42]
      · subst h42
        obtain rfl := part_star hpv
        k_steps
        have ho := span_out hsp (.inr ⟨_, hwd, by simp⟩)
        rw [List.drop_zero, Nat.sub_zero] at ho
        exact whileOut_mk F₃ N₂ ⟨k, tki, tkn, vr, epr, rfl, rfl, rfl, rfl, rfl, rfl, rfl, hkl, by omega, by rw [ho.1]; exact hvr, ho.2⟩
      · obtain ⟨tkv, rfl⟩ := part_tx hpv h42
        k_steps
        rename News g' _ _ _ => N8
        rename Fr g' _ _ _ => F8
        refine step_next (nw := [(lres, listOf (vr ++ [Value.str (tx wd) tkv]).toArray (epr + 1)), (la, bfmObj lres), (li, listOf vp.toArray ep)]) (n' := row.length - (k + 1)) F8 ?_ (Nat.sub_lt_sub_left hkt (Nat.lt_succ_self k)) ⟨k + 1, _, tkn, _, _, rfl, rfl, rfl, rfl, rfl, rfl, rfl, rfl, by omega, ?_, span_step hsp (Nat.zero_le _) hwd (by simp [h42])⟩
        · rw [← List.push_toArray]
          exact N8
        · rw [List.take_add_one, hwd]
          exact hvr.snoc ⟨_, rfl⟩
    · k_steps
      have ho := span_out hsp (.inl (by omega))
      rw [List.drop_zero, Nat.sub_zero] at ho
      exact whileOut_mk F₃ N₂ ⟨k, tki, tkn, vr, epr, rfl, rfl, rfl, rfl, rfl, rfl, rfl, hkl, by omega, by rw [ho.1]; exact hvr, ho.2⟩
  · clear F9 N9
    intro m₂ nw₂ h₂ tk₂ F₂ N₂ hh6
    refine hide fun G9 back9 => ?_
    obtain ⟨k, tki, tkn, vr, epr, q1, q2, q3, q4, q5, q6, rfl, hkl, hvrl, hvr, hdw⟩ := hh6
    refine back9 ?_
    clear back9 G9
    have F₃ := fr_as F₂ [("inp", .ref li), ("STAR", .ref st), ("res", .ref lres), ("add", .ref la), ("i", .int k tki), ("n", .int row.length tkn)] (by simp only [List.mem_cons, List.mem_nil_iff, or_false]; rintro p (rfl | rfl | rfl | rfl | rfl | rfl) <;> assumption)
    clear F₂
    refine show wpAny _ _ _ _ _ _ from ?_
    (try k_fold)
    k_steps
    unfold Stop
    have hdh : StarAt row k := by
      by_cases hkt : k < row.length
      · refine Or.inr ?_
        have e0 := drop_at (List.getElem?_eq_getElem hkt)
        rw [e0] at hdw
        have := dropWhile_head row hdw
        rw [List.getElem?_eq_getElem hkt, this]
      · exact Or.inl (List.drop_of_length_le (by omega))
    refine While_inv4 (n₀ := row.length - k) (StarJ li st lres la vp ep row) (OutS li st lres la vp ep row) F₃ N₂ ?_ ?_ ?_
    · exact ⟨k, tki, tkn, vr, epr, row.takeWhile ns, rfl, rfl, rfl, rfl, rfl, rfl, rfl, rfl, hkl, by omega, hvr, by rw [hdw], hdh⟩
    · clear F₃ N₂ hvr hvrl hdw hdh hkl
      clear q1 q2 q3 q4 q5 q6
      intro n₁ m₃ nw₃ h₃ tk₃ F₄ N₄ hh7
      refine hide fun G9 back9 => ?_
      obtain ⟨k, tki, tkn, vr, epr, xs, rfl, q1, q2, q3, q4, q5, q6, rfl, hkl, hvrl, hvr, hxs, hdh⟩ := hh7
      refine back9 ?_
      clear back9 G9
      have F₅ := fr_as F₄ [("inp", .ref li), ("STAR", .ref st), ("res", .ref lres), ("add", .ref la), ("i", .int k tki), ("n", .int row.length tkn)] (by simp only [List.mem_cons, List.mem_nil_iff, or_false]; rintro p (rfl | rfl | rfl | rfl | rfl | rfl) <;> assumption)
      clear F₄
      by_cases hkt : k < row.length
      · have hwd : row[k]? = some [42] := by
          rcases hdh with h | h
          · have := congrArg List.length h
            rw [List.length_drop, List.length_nil] at this
            omega
          · exact h
        obtain ⟨v, hv, hpv⟩ := hvp.2 k _ hwd
        obtain rfl := part_star hpv
        by_cases hk1 : k + 1 = row.length
        · k_steps
          rename News g' _ _ _ => N8
          rename Fr g' _ _ _ => F8
          show WhileOut _ _ _ (OutS li st lres la vp ep row) _
          obtain ⟨vr', hl', hvr', N7⟩ := led_push N8 ⟨_, rfl⟩ hvr
          refine whileOut_mk (nw := [(lres, listOf vr'.toArray (epr + 1)), (la, bfmObj lres), (li, listOf vp.toArray ep)]) F8 N7 ⟨_, tkn, vr', epr + 1, xs ++ [[46, 42]], rfl, rfl, rfl, rfl, by rw [← hk1]; rfl, rfl, rfl, hvr', ?_⟩
          rw [← hxs, drop_at hwd, starsT_cons, List.drop_of_length_le (by omega)]
          simp
        · replace hk1 : k + 1 < row.length := Nat.lt_of_le_of_ne hkt hk1
          obtain ⟨wd, hwd1⟩ : ∃ wd, row[k + 1]? = some wd := ⟨_, List.getElem?_eq_getElem hk1⟩
          have h42 : ¬ wd = [42] := fun h => hadj k hwd (h ▸ hwd1)
          obtain ⟨v, hv1, hpv1⟩ := hvp.2 (k + 1) _ hwd1
          obtain ⟨tkv, rfl⟩ := part_tx hpv1 h42
          k_steps
          unfold Stop
          rename News g' _ _ _ => N8
          rename Fr g' _ _ _ => F8
          rename Addr => lf
          rename _ ∧ _ ∧ _ => lL
          have d4 := neN (Nat.ne_of_gt lL.1 : lf ≠ lres)
          have d5 := neN (Nat.ne_of_gt lL.2.1 : lf ≠ la)
          have d6 := neN (Nat.ne_of_gt lL.2.2 : lf ≠ li)
          clear lL
          refine While_inv3 (n₀ := row.length - (k + 1)) (FixJ li st lres la lf vp ep row vr epr k) (FixOut li st lres la lf vp ep row vr epr k) F8 N8 ?_ ?_ ?_
          · exact ⟨k + 1, _, _, [], _, rfl, rfl, rfl, rfl, rfl, rfl, rfl, rfl, rfl, Nat.le_refl _, hkt, by rw [Nat.sub_self]; exact .nil, span_refl⟩
          · clear F8 N8
            intro n₂ m₄ nw₄ h₄ tk₄ F₆ N₆ hh7
            refine hide fun G9 back9 => ?_
            obtain ⟨e, tkf, tkg, vf, epf, rfl, r1, r2, r3, r4, r5, r6, r7, rfl, hke, hel, hvf, hsp⟩ := hh7
            refine back9 ?_
            clear back9 G9
            have F₇ := fr_as F₆ [("inp", .ref li), ("STAR", .ref st), ("res", .ref lres), ("add", .ref la), ("i", .int e tkf), ("n", .int row.length tkg), ("fixed", .ref lf)] (by simp only [List.mem_cons, List.mem_nil_iff, or_false]; rintro p (rfl | rfl | rfl | rfl | rfl | rfl | rfl) <;> assumption)
            clear F₆
            have hvfl : vf.length ≤ 1000 := by
              rw [hvf.1]
              exact Nat.le_trans (List.length_take_le' _ _) (Nat.le_trans (by rw [List.length_drop]; exact Nat.sub_le _ _) hlen)
            by_cases het : e < row.length
            · obtain ⟨we, hwe⟩ : ∃ we, row[e]? = some we := ⟨_, List.getElem?_eq_getElem het⟩
              obtain ⟨v, hve, hpe⟩ := hvp.2 e we hwe
              by_cases h42 : we = [42]
              · subst h42
                obtain rfl := part_star hpe
                k_steps
                have ho := span_out hsp (.inr ⟨_, hwe, by simp⟩)
                exact whileOut_mk F₇ N₆ ⟨e, tkf, tkg, vf, epf, rfl, rfl, rfl, rfl, rfl, rfl, rfl, rfl, hke, hel, by rw [ho.1]; exact hvf, ho.2, Or.inr ⟨_, hwe, by simp⟩⟩
              · obtain ⟨tke, rfl⟩ := part_tx hpe h42
                k_steps
                rename News g' _ _ _ => N8
                rename Fr g' _ _ _ => F8
                obtain ⟨vf', hl', hvf', N7⟩ := led_push N8 ⟨_, rfl⟩ hvf
                refine step_next (nw := [(lf, listOf vf'.toArray (epf + 1)), (lres, listOf vr.toArray epr), (la, bfmObj lres), (li, listOf vp.toArray ep)]) (n' := row.length - (e + 1)) F8 N7 (Nat.sub_lt_sub_left het (Nat.lt_succ_self e)) ⟨e + 1, _, tkg, vf', _, rfl, rfl, rfl, rfl, rfl, rfl, rfl, rfl, rfl, by omega, by omega, ?_, span_step hsp hke hwe (by simp [h42])⟩
                rw [show e + 1 - (k + 1) = (e - (k + 1)) + 1 from Nat.succ_sub hke, List.take_add_one, List.getElem?_drop, Nat.add_sub_cancel' hke, hwe]
                exact hvf'
            · k_steps
              have ho := span_out hsp (.inl (by omega))
              exact whileOut_mk F₇ N₆ ⟨e, tkf, tkg, vf, epf, rfl, rfl, rfl, rfl, rfl, rfl, rfl, rfl, hke, hel, by rw [ho.1]; exact hvf, ho.2, Or.inl (by omega)⟩
          · clear F8 N8
            intro m₄ nw₄ h₄ tk₄ F₆ N₆ hh6
            refine hide fun G9 back9 => ?_
            obtain ⟨e, tkf, tkg, vf, epf, r1, r2, r3, r4, r5, r6, r7, rfl, hke, hel, hvf, hsd, hend⟩ := hh6
            refine back9 ?_
            clear back9 G9
            have F₇ := fr_as F₆ [("inp", .ref li), ("STAR", .ref st), ("res", .ref lres), ("add", .ref la), ("i", .int e tkf), ("n", .int row.length tkg), ("fixed", .ref lf)] (by simp only [List.mem_cons, List.mem_nil_iff, or_false]; rintro p (rfl | rfl | rfl | rfl | rfl | rfl | rfl) <;> assumption)
            clear F₆
            refine show wpAny _ _ _ _ _ _ from ?_
            (try k_fold)
            k_steps
            unfold Stop
            obtain ⟨X, hX⟩ : ∃ X, ((row.drop (k + 1)).takeWhile ns).flatten = X := ⟨_, rfl⟩
            have hs1 : starsT (row.drop k) = (if row.drop e = [] then [46, 42] ++ X else [40, 63, 62, 46, 42, 63] ++ X ++ [41] ++ starsT (row.drop e)) := by rw [drop_at hwd, starsT_cons, hsd, hX]
            have hjl : (joinT row).length = 4 + (xs.flatten.length + (starsT (row.drop k)).length) + 3 := by
              rw [← List.length_append, hxs]
              have e : joinT row = [40, 63, 115, 58] ++ ((row.takeWhile ns).flatten ++ starsT (row.dropWhile ns)) ++ [41, 92, 90] := rfl
              rw [e]
              simp only [List.length_append, List.length_cons, List.length_nil]
            have hXl : X.length + 2 ≤ (starsT (row.drop k)).length := by
              rw [hs1]
              split
              · simp only [List.length_append, List.length_cons, List.length_nil]; omega
              · simp only [List.length_append, List.length_cons, List.length_nil]; omega
            have hfl : ((row.drop (k + 1)).takeWhile ns).flatten.length ≤ 100000 := by rw [hX]; omega
            refine join_tx (N₆.isList (.head _)) hvf hfl ?_
            rw [hX]
            intro tkj tkj'
            have N7 := news_sub (l' := [(lres, listOf vr.toArray epr), (la, bfmObj lres), (li, listOf vp.toArray ep)]) N₆ fun p hp => .tail _ hp
            clear N₆
            by_cases hen : e = row.length
            · k_steps
              rename News g' _ _ _ => N8
              rename Fr g' _ _ _ => F8
              obtain ⟨vr', hl', hvr', N9⟩ := led_push2 N8 ⟨_, rfl⟩ ⟨_, rfl⟩ hvr
              refine stepK_next (nw := [(lres, listOf vr'.toArray (epr + 1 + 1)), (la, bfmObj lres), (li, listOf vp.toArray ep)]) (n' := row.length - e) F8 N9 (Nat.sub_lt_sub_left hkt hke) ⟨e, _, tkg, vr', _, xs ++ [[46, 42]] ++ [X], rfl, rfl, rfl, rfl, rfl, rfl, rfl, rfl, hel, by omega, hvr', ?_, Or.inl (List.drop_of_length_le (by omega))⟩
              rw [← hxs, hs1, if_pos (List.drop_of_length_le (by omega)), List.drop_of_length_le (by omega), starsT_nil]
              simp
            · replace hen : e < row.length := Nat.lt_of_le_of_ne hel hen
              k_steps
              rename News g' _ _ _ => N8
              rename Fr g' _ _ _ => F8
              obtain ⟨vr', hl', hvr', N9⟩ := led_push N8 ⟨_, rfl⟩ hvr
              have hlt := hen
              have hdr : row.drop e ≠ [] := by
                intro q
                have := congrArg List.length q
                rw [List.length_drop, List.length_nil] at this
                omega
              refine stepK_next (nw := [(lres, listOf vr'.toArray (epr + 1)), (la, bfmObj lres), (li, listOf vp.toArray ep)]) (n' := row.length - e) F8 N9 (Nat.sub_lt_sub_left hkt hke) ⟨e, _, tkg, vr', _, xs ++ [[40, 63, 62, 46, 42, 63] ++ X ++ [41]], rfl, rfl, rfl, rfl, rfl, rfl, rfl, rfl, hel, by omega, hvr', ?_, Or.inr ?_⟩
              · rw [← hxs, hs1, if_neg hdr]
                simp
              · rcases hend with h | ⟨c, hc, hn⟩
                · exact absurd h (by omega)
                · rw [hc]
                  have : c = [42] := by simpa using hn
                  rw [this]
      · k_steps
        rename News g' _ _ _ => N8
        rename Fr g' _ _ _ => F8
        obtain rfl : k = row.length := by omega
        exact whileOut_mk F8 N8 ⟨tki, tkn, vr, epr, xs, rfl, rfl, rfl, rfl, rfl, rfl, rfl, hvr, by rw [← hxs, List.drop_length, starsT_nil, List.append_nil]⟩
    · clear F₃ N₂ hvr hvrl hdw hdh hkl
      clear q1 q2 q3 q4 q5 q6
      intro m₃ nw₃ h₃ tk₃ F₄ N₄ hh6
      refine hide fun G9 back9 => ?_
      obtain ⟨tki, tkn, vr, epr, xs, q1, q2, q3, q4, q5, q6, rfl, hvr, hxs⟩ := hh6
      refine back9 ?_
      clear back9 G9
      have F₅ := fr_as F₄ [("inp", .ref li), ("STAR", .ref st), ("res", .ref lres), ("add", .ref la), ("i", .int row.length tki), ("n", .int row.length tkn)] (by simp only [List.mem_cons, List.mem_nil_iff, or_false]; rintro p (rfl | rfl | rfl | rfl | rfl | rfl) <;> assumption)
      clear F₄
      refine show wpAny _ _ _ _ _ _ from ?_
      (try k_fold)
      k_steps
      unfold Stop
      obtain ⟨X, hX⟩ : ∃ X, xs.flatten = X := ⟨_, rfl⟩
      have hjl : joinT row = [40, 63, 115, 58] ++ X ++ [41, 92, 90] := by
        have e : joinT row = [40, 63, 115, 58] ++ ((row.takeWhile ns).flatten ++ starsT (row.dropWhile ns)) ++ [41, 92, 90] := rfl
        rw [e, ← hxs, hX]
      have hXl := congrArg List.length hjl
      simp only [List.length_append, List.length_cons, List.length_nil] at hXl
      have hfl : xs.flatten.length ≤ 100000 := by rw [hX]; omega
      refine join_tx (N₄.isList (.head _)) hvr hfl ?_
      rw [hX]
      intro tkj tkj'
      k_steps
      rename News h₀ _ _ _ => N9
      rename News g' _ _ _ => N8
      rename Fr h₀ _ _ _ => F9
      rename Fr g' _ _ _ => F8
      have hsub : ∀ p ∈ [(li, listOf vp.toArray ep)], p ∈ [(lres, listOf vr.toArray epr), (la, bfmObj lres), (li, listOf vp.toArray ep)] := fun p hp => .tail _ (.tail _ hp)
      have S8 := stays_of GS F8 N8
      exact ret _ [(li, listOf vp.toArray ep)] _ _ F9 (news_sub N9 hsub) ⟨S8.1, fun p hp => S8.2 p (hsub p hp)⟩ ⟨by rw [hjl]; exact ⟨_, rfl⟩, rfl⟩
end
section
open PySem PySem.W PyProof.Rows
set_option maxRecDepth 100000
set_option maxHeartbeats 1000000
theorem ints_at : ∀ {vs : List Value} {ns : List Int} {i : Nat} {v : Value}, IntsAre vs ns → vs[i]? = some v → ∃ n t, v = .int n t := by
  intro vs ns i v h
  induction h generalizing i with
  | nil => intro e; simp at e
  | cons n t _ ih =>
    intro e
    cases i with
    | zero => exact ⟨n, t, by simpa using e.symm⟩
    | succ i => exact ih (by simpa using e)
theorem flatten_len3 : ∀ {xs : List (List Nat)}, (∀ x ∈ xs, x.length ≤ 3 ∧ Asc x) → xs.flatten.length ≤ 3 * xs.length ∧ Asc xs.flatten := by
  intro xs
  induction xs with
  | nil => intro _; exact ⟨Nat.le_refl _, fun c hc => nomatch hc⟩
  | cons x xs ih =>
    intro h
    obtain ⟨h1, h2⟩ := ih fun y hy => h y (.tail _ hy)
    obtain ⟨h3, h4⟩ := h x (.head _)
    refine ⟨by simp only [List.flatten_cons, List.length_append, List.length_cons]; omega, fun c hc => ?_⟩
    rw [List.flatten_cons] at hc
    rcases List.mem_append.mp hc with hc | hc
    · exact h4 c hc
    · exact h2 c hc
theorem apart_sub {rest own own2 : List (Addr × Obj)} (h : Apart rest own) (hs : ∀ p ∈ own2, p ∈ own) : Apart rest own2 := fun q hq hm => h q hq (by
  obtain ⟨p, hp, e⟩ := List.mem_map.mp hm
  exact List.mem_map.mpr ⟨p, hs p hp, e⟩)
theorem apart_rest {rest rest2 own : List (Addr × Obj)} (h : Apart rest own) (hs : ∀ p ∈ rest2, p ∈ rest) : Apart rest2 own := fun q hq hm => h q (hs q hq) hm
theorem apart_nil {rest : List (Addr × Obj)} : Apart rest [] := fun _ _ hm => nomatch hm
theorem apart_cons {a : Addr} {o : Obj} {rest own : List (Addr × Obj)} (ha : a ∉ own.map (·.1)) (h : Apart rest own) : Apart ((a, o) :: rest) own := fun q hq => by
  rcases List.mem_cons.mp hq with rfl | hq
  · exact ha
  · exact h q hq
theorem apart_app {r1 r2 own : List (Addr × Obj)} (h1 : Apart r1 own) (h2 : Apart r2 own) : Apart (r1 ++ r2) own := fun q hq => by
  rcases List.mem_append.mp hq with hq | hq
  · exact h1 q hq
  · exact h2 q hq
theorem apart_one' {rest : List (Addr × Obj)} {l : Addr} {o : Obj} (h : ∀ p ∈ rest, p.1 ≠ l) : Apart rest [(l, o)] := fun q hq hm => h q hq (by simpa using hm)
theorem add_strsK {prog : Program} {w : World} {A : Around} {E : Value → Shared → Prop} {s : Shared} {h₀ : Heap} {L : Addr} {m : Str → Option Value} {news : List (Addr × Obj)} {l b : Addr} {vs us : List Value} {e e' : Nat} {xs ys : List (List Nat)} {Q : Value → Shared → Prop} (F : Fr h₀ L s.heap m) (N : News h₀ L s.heap news)
    (hl : (l, listOf vs.toArray e) ∈ news) (hb : (b, listOf us.toArray e') ∈ news) (hi : StrsAre vs xs) (hj : StrsAre us ys) (hz : xs.length + ys.length ≤ 100000)
    (h : ∀ D ws h', Fr h₀ L h' m → News h₀ L h' ((D, listOf ws.toArray 0) :: news) → (∀ p ∈ news, p.1 < D) → StrsAre ws (xs ++ ys) → Q (.ref D) { s with heap := h' }) : wpAny (model prog w) A (binaryOp .Add (.ref l) (.ref b)) Q E s :=
  add_lists F N (N.isList hl) (N.isList hb) (fun h' F' N' => h _ _ h' F' N' (fun p hp => Heap.lt_size (N p hp).1) (hi.append hj)) (by rw [hi.1, hj.1, sizeLine_eq]; omega)
/-- what the law's texts are -/
structure Lawful (t : List Nat) : Prop where
  asc : Asc t
  len : t.length ≤ 100
section
variable {t : List Nat} (h : Lawful t)
include h
theorem lw_cells : (cellsOf t).length ≤ 1000 ∧ ∀ c ∈ cellsOf t, c.1 < 128 := ⟨by have := cells_len _ t (Nat.le_refl _); have := h.len; omega, cells_asc _ t (Nat.le_refl _) h.asc⟩
theorem lw_first : (wordsOf (cellsOf t)).length ≤ 1000 ∧ ∀ x ∈ wordsOf (cellsOf t), Asc x := by
  refine ⟨?_, words_asc _ _ (Nat.le_refl _) (lw_cells h).2⟩
  have h1 := wt_words _ (cellsOf t) (Nat.le_refl _)
  have h2 := wt_len (wordsOf (cellsOf t))
  have h3 := cells_len _ t (Nat.le_refl _)
  have h4 := h.len
  omega
theorem lw_row : (rowOf (wordsOf (cellsOf t))).length ≤ 1000 ∧ ∀ x ∈ rowOf (wordsOf (cellsOf t)), Asc x := by
  refine ⟨?_, fun x hx => (row_mem _ _ _ hx).elim (fun q => nomatch q) ((lw_first h).2 x)⟩
  have h1 := row_len (wordsOf (cellsOf t)) []
  have h2 := (lw_first h).1
  unfold rowOf
  simp only [List.length_nil] at h1
  omega
theorem lw_joined : (lawJ (rowOf (wordsOf (cellsOf t)))).length ≤ 1000 ∧ Asc (lawJ (rowOf (wordsOf (cellsOf t)))) := by
  refine ⟨?_, lawJ_asc (lw_row h).2⟩
  have h1 := lawJ_len t
  have h2 := h.len
  omega
theorem lw_cells2 : (cellsOf (lawJ (rowOf (wordsOf (cellsOf t))))).length ≤ 1000 ∧ ∀ c ∈ cellsOf (lawJ (rowOf (wordsOf (cellsOf t)))), c.1 < 128 :=
  ⟨by have := cells_len _ (lawJ (rowOf (wordsOf (cellsOf t)))) (Nat.le_refl _); have := (lw_joined h).1; omega, cells_asc _ _ (Nat.le_refl _) (lw_joined h).2⟩
theorem lw_due : (wordsOf (cellsOf (lawJ (rowOf (wordsOf (cellsOf t)))))).length ≤ 1500 ∧ ∀ x ∈ wordsOf (cellsOf (lawJ (rowOf (wordsOf (cellsOf t))))), Asc x := by
  refine ⟨?_, words_asc _ _ (Nat.le_refl _) (lw_cells2 h).2⟩
  have h1 := wt_words _ (cellsOf (lawJ (rowOf (wordsOf (cellsOf t))))) (Nat.le_refl _)
  have h2 := wt_len (wordsOf (cellsOf (lawJ (rowOf (wordsOf (cellsOf t))))))
  have h3 := (lw_cells2 h).1
  omega
end
end
section
theorem fr_open {h₀ h : Heap} {L : Addr} {m : Str → Option Value} {G : Prop} (F : Fr h₀ L h m) (l : List (Str × Value)) (hl : ∀ p ∈ l, m p.1 = some p.2) (H : ∀ m₀, Fr h₀ L h (frm l m₀) → G) : G := H m (fr_as F l hl)
local macro_rules | `(tactic| walk_at "call ref") => `(tactic| refine stop_mk ?_)
local macro_rules | `(tactic| walk_at "exec Assign cons ListComp") => `(tactic| refine stop_mk ?_)
local macro_rules | `(tactic| walk_at "call builtin:str.join") => `(tactic| refine stop_mk ?_)
local macro_rules | `(tactic| walk_at "binaryOp Add ref ref") => `(tactic| refine stop_mk ?_)
local macro_rules | `(tactic| walk_at "compareOp Eq ref ref") => `(tactic| refine stop_mk ?_)
abbrev D0 : List Nat := [97, 92, 92, 92, 32, 98, 32, 42, 32, 34, 99, 32, 100, 34, 32, 42, 32, 101]
theorem litD0 : PySem.Str.ofString "a\\\\\\ b * \"c d\" * e" = tx D0 := by decide +kernel
local macro_rules | `(tactic| walk_at "eval Constant str") => `(tactic| (refine' const_tx ?hz ?_; (case hz => with_reducible exact litD0); intro tk9 tk8; (try dsimp only)))
theorem law_holds : PySem.Challenge.rw_mq0139_01.Holds := by
  w_on
  refine hd ?_
  k_go0
  (all_goals try k_fold)
  rename World => w
  rename Fr _ _ _ _ => F8
  rename News _ _ _ _ => N8
  rename Below _ _ _ _ => B'
  rename Top _ _ _ _ _ _ => T'
  rename (hd.heap_39 _).In _ => X'
  rename CodeHd _ _ _ => CH
  rename IntsAre _ _ => hI
  rename 72 < _ => l72
  rename ¬ _ < _ => h63
  rename_i s₀ s₁ mg mb G Y fa o pm cd doc ho hcd hg X1 V1 T1 B1 TE TW ns hs hlay0 hL1 hr1 hl2 a5 a4 ls vs a1 hL ra w1 r0 hr hc1 hD h₁ tk₁ cell hcell X0
  clear Y G hcd hD X0 w1 r0 hr ra hs hL1 hlay0 hr1 hl2 hc1 X1 V1 T1 B1 TE TW hT8 hT9 ho hL a1 a4 a5
  dsimp only at CH
  generalize ghostOf s₁.heap [(76, 72)] = g' at *
  generalize s₁.heap.objs.size = L' at *
  refine fr_open F8 [("script", .ref ls)] (by simp only [List.mem_cons, List.mem_nil_iff, or_false]; rintro p rfl; rfl) ?_
  intro m₀ F7
  clear F8
  rename Fr g' _ _ _ => F8
  k_steps
  unfold Stop
  refine comp_walk (closureFor_none (by decide)) rfl (by decide) (by decide) F8 ?_
  k_steps
  unfold Stop
  rename List Value => us
  rename IntsAre us _ => hu
  rename _ = min 7 _ => hul
  rename Fr g' _ _ _ => F9
  rename News g' _ _ _ => N9
  have hul2 : us.length ≤ 7 := by have := hu.length; omega
  refine iter_list rfl F9 N9 (.head _) ?_
  intro I oI St h' W hlive st kp F' N' hlt
  refine ⟨_, _, _, I, oI, [I, _], _, _, St, fun i vs' nw => nw = _ ∧ ∃ xs, StrsAre vs' xs ∧ xs.length ≤ i ∧ ∀ x ∈ xs, x.length ≤ 3 ∧ Asc x, rfl, W, hlive, go_name, st, kp, F', N', (fun p hp => ne_of_ltA (hlt p hp)), ⟨rfl, [], .nil, Nat.le_refl _, fun x hx => nomatch hx⟩, ?_, ?_, ?_⟩
  · rintro i vs' nw ⟨rfl, _⟩ p hp
    rw [List.mem_singleton.mp hp]
    exact .head _
  · clear F9 N9 F' N'
    intro D C E' i v vs' ep' nw oC mc oI h tk hD hC hDC hi hv F N hn hoff hnI hID hIC hh25
    refine hide fun G9 back9 => ?_
    obtain ⟨rfl, xs, hxs, hxl, hx3⟩ := hh25
    refine back9 ?_
    clear back9 G9
    obtain ⟨n, tn, rfl⟩ := ints_at hu hv
    refine assign_comp F N hn (off_C hDC hIC hoff) rfl rfl ?_
    intro h' tk' oC' F' N' hn'
    show wpAny _ _ (pure true) _ _ _
    refine wpAny_pure ?_
    rw [if_pos rfl]
    (try clear N); (try clear F)
    k_steps
    unfold Stop
    rename Fr g' _ _ _ => F9
    rename News g' _ _ _ => N9
    refine gv_use (own := []) (piece_ok n tn) N9 apart_nil B' F9 X' T' CH rfl (by decide) (by decide) ?_
    intro r own' h₄ tk₄ F₄ N₄ ap₄ hp₄
    refine hide fun G9 back9 => ?_
    obtain ⟨x, hx, hl, ha, rfl⟩ := hp₄
    refine back9 ?_
    clear back9 G9
    have hvl := hxs.1
    refine ⟨_, _, _, _, _, rfl, F₄, N₄, hn', hoff, hnI, ⟨rfl, xs ++ [x], hxs.snoc hx, by simp only [List.length_append, List.length_cons, List.length_nil]; omega, fun y hy => ?_⟩, by omega⟩
    rcases List.mem_append.mp hy with hy | hy
    · exact hx3 y hy
    · rw [List.mem_singleton.mp hy]
      exact ⟨hl, ha⟩
  · clear F9 N9 F' N'
    intro D vs' ep' nw h tk N hnD hD hh9 F
    refine hide fun G9 back9 => ?_
    obtain ⟨rfl, xs, hxs, hxl, hx3⟩ := hh9
    refine back9 ?_
    clear back9 G9
    k_steps
    unfold Stop
    rename News g' _ _ _ => N9
    obtain ⟨hfl, hfa⟩ := flatten_len3 hx3
    refine join_tx (N9.isList (.head _)) hxs (by omega) ?_
    have hla : (D0 ++ xs.flatten).length ≤ 100000 := by simp only [List.length_append, List.length_cons, List.length_nil]; omega
    have hlaw : Lawful (D0 ++ xs.flatten) := by
      refine ⟨fun c hc => ?_, by simp only [List.length_append, List.length_cons, List.length_nil]; omega⟩
      rcases List.mem_append.mp hc with hc | hc
      · exact (by decide : ∀ c ∈ D0, c < 128) c hc
      · exact hfa c hc
    intro tkj tkj'
    have N7 := news_sub (l' := [(L' + 1, cell), (72, tabObj #[])]) N9 fun p hp => .tail _ (.tail _ hp)
    (try clear N9)
    k_steps
    unfold Stop
    rename Fr g' _ _ _ => F9
    rename News g' _ _ _ => N9
    (try clear hx3); (try clear hfl); (try clear hxl); (try clear hfa); (try clear hul2); (try clear hul); (try clear hlt); (try clear hnD); (try clear kp); (try clear st); (try clear hlive); (try clear W); (try clear hD)
    refine gv_use (own := []) (cells_ok (D0 ++ xs.flatten) _ (by have := hlaw.len; omega)) N9 apart_nil B' F9 X' T' CH rfl (by decide) (by decide) ?_
    intro r own' h₂ tk₂ F₂ N₂ ap₂ hp₂
    refine hide fun G9 back9 => ?_
    obtain ⟨lc, vc, epc, tups, rfl, rfl, hlc, hcs⟩ := hp₂
    refine back9 ?_
    clear back9 G9
    (try clear F9); (try clear N9)
    k_steps
    unfold Stop
    rename Fr g' _ _ _ => F9
    rename News g' _ _ _ => N9
    refine gv_use (own := (lc, listOf vc.toArray epc) :: tups) (words_ok lc vc epc _ tups hcs hlc (lw_cells hlaw).2 (lw_cells hlaw).1) N9 ap₂ B' F9 X' T' CH rfl (by decide) (by decide) ?_
    intro r own' h₃ tk₃ F₃ N₃ ap₃ hp₃
    refine hide fun G9 back9 => ?_
    obtain ⟨aw, vw, epw, rfl, rfl, hla9, hta, hvw⟩ := hp₃
    refine back9 ?_
    clear back9 G9
    have N₄ := news_sub (l' := (aw, listOf vw.toArray epw) :: [(L' + 1, cell), (72, tabObj #[])]) N₃ fun p hp => by
      rcases List.mem_cons.mp hp with rfl | hp
      · exact .head _
      · exact List.mem_append.mpr (.inr hp)
    have apW : Apart [(L' + 1, cell), (72, tabObj #[])] [(aw, listOf vw.toArray epw)] := apart_sub ap₃ fun p hp => by rw [List.mem_singleton.mp hp]; exact .head _
    (try clear F9); (try clear N9); (try clear N₃); (try clear F₂); (try clear N₂); (try clear ap₂); (try clear ap₃); (try clear hta); (try clear hla9); (try clear hcs); (try clear hlc)
    k_steps
    unfold Stop
    rename Fr g' _ _ _ => F9
    rename News g' _ _ _ => N9
    refine gv_use (own := [(aw, listOf vw.toArray epw)]) (rest := [(L' + 1, cell), (72, tabObj #[])]) (row_ok aw vw epw _ hvw (lw_first hlaw).2 (lw_first hlaw).1) N9 apW B' F9 X' T' CH rfl (by decide) (by decide) ?_
    intro r own' h₅ tk₅ F₅ N₅ ap₅ hp₅
    refine hide fun G9 back9 => ?_
    obtain ⟨lr, vr, epr, rfl, rfl, hne, hvr⟩ := hp₅
    refine back9 ?_
    clear back9 G9
    (try clear F9); (try clear N9)
    k_steps
    unfold Stop
    rename Fr g' _ _ _ => F9
    rename News g' _ _ _ => N9
    refine gv_use (own := [(lr, listOf vr.toArray epr)]) (rest := (aw, listOf vw.toArray epw) :: [(L' + 1, cell), (72, tabObj #[])]) (joined_ok lr vr epr _ hvr (lw_row hlaw).1 (by have := (lw_joined hlaw).1; omega)) N9 (apart_cons (fun hm => hne (List.mem_singleton.mp hm).symm) (apart_sub ap₅ fun p hp => by rw [List.mem_singleton.mp hp]; exact .head _)) B' F9 X' T' CH rfl (by decide) (by decide) ?_
    intro r own' h₆ tk₆ F₆ N₆ ap₆ hp₆
    refine hide fun G9 back9 => ?_
    obtain ⟨⟨tkJ, rfl⟩, rfl⟩ := hp₆
    refine back9 ?_
    clear back9 G9
    have N₇ := news_sub (l' := (aw, listOf vw.toArray epw) :: [(L' + 1, cell), (72, tabObj #[])]) N₆ fun p hp => .tail _ hp
    (try clear F9); (try clear N9); (try clear N₆); (try clear ap₆); (try clear ap₅); (try clear hne); (try clear N₅); (try clear hvr)
    k_steps
    unfold Stop
    rename Fr g' _ _ _ => F9
    rename News g' _ _ _ => N9
    refine gv_use (own := []) (cells_ok (lawJ (rowOf (wordsOf (cellsOf (D0 ++ xs.flatten))))) _ (lw_joined hlaw).1) N9 apart_nil B' F9 X' T' CH rfl (by decide) (by decide) ?_
    intro r own' h₈ tk₈ F₈ N₈ ap₈ hp₈
    refine hide fun G9 back9 => ?_
    obtain ⟨lc, vc, epc, tups, rfl, rfl, hlc, hcs⟩ := hp₈
    refine back9 ?_
    clear back9 G9
    (try clear F9); (try clear N9)
    k_steps
    unfold Stop
    rename Fr g' _ _ _ => F9
    rename News g' _ _ _ => N9
    refine gv_use (own := (lc, listOf vc.toArray epc) :: tups) (words_ok lc vc epc _ tups hcs hlc (lw_cells2 hlaw).2 (lw_cells2 hlaw).1) N9 ap₈ B' F9 X' T' CH rfl (by decide) (by decide) ?_
    intro r own' h₃ tk₃ F₃ N₃ ap₃ hp₃
    refine hide fun G9 back9 => ?_
    obtain ⟨dw, vd, epd, rfl, rfl, hla9, hta, hvd⟩ := hp₃
    refine back9 ?_
    clear back9 G9
    have N₄ := news_sub (l' := (dw, listOf vd.toArray epd) :: (aw, listOf vw.toArray epw) :: [(L' + 1, cell), (72, tabObj #[])]) N₃ fun p hp => by
      rcases List.mem_cons.mp hp with rfl | hp
      · exact .head _
      · exact List.mem_append.mpr (.inr hp)
    have apD : Apart ((aw, listOf vw.toArray epw) :: [(L' + 1, cell), (72, tabObj #[])]) [(dw, listOf vd.toArray epd)] := apart_sub ap₃ fun p hp => by rw [List.mem_singleton.mp hp]; exact .head _
    (try clear F9); (try clear N9); (try clear N₃); (try clear F₈); (try clear N₈); (try clear ap₈); (try clear ap₃); (try clear hta); (try clear hla9); (try clear hcs); (try clear hlc)
    k_steps
    unfold Stop
    rename Fr g' _ _ _ => F9
    rename News g' _ _ _ => N9
    refine add_strsK (us := [_, _]) (ys := [[], []]) F9 N9 (.tail _ (.head _)) (.head _) hvd ((AreBy.one ⟨_, rfl⟩).append (AreBy.one ⟨_, rfl⟩)) (by have := (lw_due hlaw).1; simp only [List.length_cons, List.length_nil]; omega) ?_
    intro ld vl h₉ F₁₀ N₁₀ hld hvl
    have N₁₁ := news_sub (l' := (ld, listOf vl.toArray 0) :: (aw, listOf vw.toArray epw) :: [(L' + 1, cell), (72, tabObj #[])]) N₁₀ fun p hp => by
      rcases List.mem_cons.mp hp with rfl | hp
      · exact .head _
      · exact .tail _ (.tail _ (.tail _ hp))
    have e1 := ltN (hld (aw, listOf vw.toArray epw) (.tail _ (.tail _ (.head _))))
    have e2 := ltN (hld (L' + 1, cell) (.tail _ (.tail _ (.tail _ (.head _)))))
    have e3 := ltN (hld (72, tabObj #[]) (.tail _ (.tail _ (.tail _ (.tail _ (.head _))))))
    have e4 := neN (fun q => apW (L' + 1, cell) (.head _) (by rw [q]; exact .head _) : L' + 1 ≠ aw)
    have e5 := neN (fun q => apW (72, tabObj #[]) (.tail _ (.head _)) (by rw [q]; exact .head _) : (72 : Addr) ≠ aw)
    dsimp only at e1 e2 e3
    (try clear F9); (try clear N9); (try clear N₁₀); (try clear hld); (try clear N₄); (try clear apD); (try clear apW)
    k_steps
    unfold Stop
    rename Fr g' _ _ _ => F9
    rename News g' _ _ _ => N9
    rename Obj => oc9
    rename oc9.data = _ => hoc
    rename_i tk9 _ st _ l9 _
    have hvwl := hvw.1
    have hfl1 := (lw_first hlaw).1
    have hdl1 := (lw_due hlaw).1
    have hvll : vl.length = (wordsOf (cellsOf (lawJ (rowOf (wordsOf (cellsOf (D0 ++ xs.flatten))))))).length + 2 := by rw [hvl.1, List.length_append]; rfl
    have s72 : ∀ p ∈ [(st, listOf #[Value.str (tx [42]) tk9] 0), (ld, listOf vl.toArray 0), (aw, listOf vw.toArray epw), (L' + 1, oc9)], p.1 ≠ 72 := fun p hp => by
      simp only [List.mem_cons, List.mem_nil_iff, or_false] at hp
      rcases hp with rfl | rfl | rfl | rfl
      · exact neN (by omega)
      · exact neN (by omega)
      · exact neN (by omega)
      · exact neN (by omega)
    refine comp_walkA (L := L') rfl rfl rfl rfl (clos1 (c := L' + 1) rfl rfl rfl rfl) rfl (by decide) (by decide) F9 ?_
    k_steps
    unfold Stop
    rename Fr g' _ _ _ => F9
    rename News g' _ _ _ => N9
    refine gv_use (own := [(72, tabObj #[])]) (rest := [(st, listOf #[Value.str (tx [42]) tk9] 0), (ld, listOf vl.toArray 0), (aw, listOf vw.toArray epw), (L' + 1, oc9)]) (read_ok (D0 ++ xs.flatten) _ (wordsOf (cellsOf (D0 ++ xs.flatten))).length _ (by have := hlaw.len; omega) hlaw.asc (by omega) (.inl rfl)) (news_sub N9 fun p hp => by
      simp only [List.cons_append, List.nil_append, List.mem_cons, List.mem_nil_iff, or_false] at hp
      rcases hp with rfl | rfl | rfl | rfl | rfl
      · exact .tail _ (.tail _ (.tail _ (.tail _ (.head _))))
      · exact .head _
      · exact .tail _ (.head _)
      · exact .tail _ (.tail _ (.head _))
      · exact .tail _ (.tail _ (.tail _ (.head _)))) (apart_one' s72) B' F9 X' T' CH rfl (by decide) (by decide) ?_
    intro r own' h₂ tk₂ F₂ N₂ ap₂ hp₂
    refine hide fun G9 back9 => ?_
    obtain ⟨l1, v1, ep1, tb1, rfl, rfl, htb1, hv1, hl1⟩ := hp₂
    refine back9 ?_
    clear back9 G9
    rw [toks_first] at hv1
    (try clear F9); (try clear N9)
    k_steps
    unfold Stop
    rename Fr g' _ _ _ => F9
    rename News g' _ _ _ => N9
    refine gv_use (own := [(l1, listOf v1.toArray ep1)]) (rest := tb1 ++ [(st, listOf #[Value.str (tx [42]) tk9] 0), (ld, listOf vl.toArray 0), (aw, listOf vw.toArray epw), (L' + 1, oc9)]) (row_ok l1 v1 ep1 _ hv1 (lw_first hlaw).2 (lw_first hlaw).1) N9 (apart_app (apart_one' hl1) (apart_sub ap₂ fun p hp => by rw [List.mem_singleton.mp hp]; exact .head _)) B' F9 X' T' CH rfl (by decide) (by decide) ?_
    intro r own' h₅ tk₅ F₅ N₅ ap₅ hp₅
    refine hide fun G9 back9 => ?_
    obtain ⟨lr, vr, epr, rfl, rfl, hne, hvr⟩ := hp₅
    refine back9 ?_
    clear back9 G9
    (try clear F9); (try clear N9); (try clear N₂)
    k_steps
    unfold Stop
    rename Fr g' _ _ _ => F9
    rename News g' _ _ _ => N9
    have N₇ := news_sub (l' := (lr, listOf vr.toArray epr) :: (st, listOf #[Value.str (tx [42]) tk9] 0) :: (ld, listOf vl.toArray 0) :: (L' + 1, oc9) :: tb1) N9 fun p hp => by
      simp only [List.mem_cons, List.mem_append, List.mem_nil_iff, or_false] at hp ⊢
      rcases hp with rfl | rfl | rfl | rfl | hp
      · exact .inl (.inl rfl)
      · exact .inr (.inr (.inl rfl))
      · exact .inr (.inr (.inr (.inl rfl)))
      · exact .inr (.inr (.inr (.inr (.inr rfl))))
      · exact .inr (.inl hp)
    have hrl := (lw_row hlaw).1
    refine iter_list rfl F9 N₇ (.head _) ?_
    intro I oI St h' W hlive st' kp F' N' hlt
    refine ⟨_, _, _, I, oI, [I, _], _, _, St, fun i vs' nw => nw = (lr, listOf vr.toArray epr) :: (st, listOf #[Value.str (tx [42]) tk9] 0) :: (ld, listOf vl.toArray 0) :: (L' + 1, oc9) :: tb1 ∧ PartsAre st vs' ((rowOf (wordsOf (cellsOf (D0 ++ xs.flatten)))).take i), rfl, W, hlive, go_name, st', kp, F', N', (fun p hp => ne_of_ltA (hlt p hp)), ⟨rfl, .nil⟩, ?_, ?_, ?_⟩
    · rintro i vs' nw ⟨rfl, _⟩ p hp
      rw [List.mem_singleton.mp hp]
      exact .head _
    · (try clear F9); (try clear N9); (try clear F'); (try clear N'); (try clear N₇); (try clear N₅)
      rintro D C E' i v vs' ep' nw oC mc oI h tk hD hC hDC hi hv F N hn hoff hnI hID hIC ⟨rfl, hps⟩
      rw [hvr.1] at hi
      obtain ⟨wd, hwd⟩ : ∃ wd, (rowOf (wordsOf (cellsOf (D0 ++ xs.flatten))))[i]? = some wd := ⟨_, List.getElem?_eq_getElem hi⟩
      obtain ⟨v', hv', tkv, rfl⟩ := hvr.2 i wd hwd
      obtain rfl : v = .str (tx wd) tkv := Option.some.inj (hv.symm.trans hv')
      have hpl := hps.1
      rw [List.length_take] at hpl
      refine assign_comp F N hn (off_C hDC hIC hoff) rfl rfl ?_
      intro h' tk' oC' F' N' hn'
      show wpAny _ _ (pure true) _ _ _
      refine wpAny_pure ?_
      rw [if_pos rfl]
      (try clear N); (try clear F)
      by_cases h42 : wd = [42]
      · subst h42
        k_steps
        exact ⟨_, _, _, _, _, rfl, F', N', hn', hoff, hnI, ⟨rfl, by rw [List.take_add_one, hwd]; exact hps.snoc (by rw [IsPart, if_pos rfl])⟩, by omega⟩
      · have hb : (wd == [42]) = false := by simpa using h42
        k_steps
        exact ⟨_, _, _, _, _, rfl, F', N', hn', hoff, hnI, ⟨rfl, by rw [List.take_add_one, hwd]; exact hps.snoc (by rw [IsPart, if_neg h42]; exact ⟨_, rfl⟩)⟩, by omega⟩
    · (try clear F9); (try clear N9); (try clear F'); (try clear N'); (try clear N₇); (try clear N₅)
      rintro D vs' ep' nw h tk N hnD hD ⟨rfl, hps⟩ F
      rw [hvr.1, List.take_length] at hps
      k_steps
      unfold Stop
      rename Fr g' _ _ _ => F9
      rename News g' _ _ _ => N9
      have N₈ := news_sub (l' := (D, listOf vs'.toArray ep') :: ((ld, listOf vl.toArray 0) :: tb1)) N9 fun p hp => by
        simp only [List.mem_cons] at hp ⊢
        rcases hp with rfl | rfl | hp
        · exact .inl rfl
        · exact .inr (.inr (.inr (.inl rfl)))
        · exact .inr (.inr (.inr (.inr (.inr hp))))
      have hjl : (joinT (rowOf (wordsOf (cellsOf (D0 ++ xs.flatten))))).length ≤ 90000 := by rw [join_law]; have := (lw_joined hlaw).1; omega
      have apP : Apart ((ld, listOf vl.toArray 0) :: tb1) [(D, listOf vs'.toArray ep')] := apart_one' fun p hp => hnD p (by
        rcases List.mem_cons.mp hp with rfl | hp
        · exact .tail _ (.tail _ (.head _))
        · exact .tail _ (.tail _ (.tail _ (.tail _ hp))))
      refine gv_use (own := [(D, listOf vs'.toArray ep')]) (rest := (ld, listOf vl.toArray 0) :: tb1) (joinp_ok D st vs' ep' _ hps (noAdj_row _) (lw_row hlaw).1 hjl) N₈ apP B' F9 X' T' CH rfl (by decide) (by decide) ?_
      intro r own' h₆ tk₆ F₆ N₆ ap₆ hp₆
      refine hide fun G9 back9 => ?_
      obtain ⟨⟨tkJ, rfl⟩, rfl⟩ := hp₆
      refine back9 ?_
      clear back9 G9
      rw [join_law]
      have N₉ := news_sub (l' := (ld, listOf vl.toArray 0) :: tb1) N₆ fun p hp => .tail _ hp
      have apL : Apart [(ld, listOf vl.toArray 0)] tb1 := apart_rest (apart_sub ap₂ fun p hp => .tail _ hp) fun p hp => by
        rw [List.mem_singleton.mp hp]
        exact .tail _ (.head _)
      (try clear F9); (try clear N9); (try clear N₆); (try clear N₈); (try clear N); (try clear F)
      k_steps
      unfold Stop
      rename Fr g' _ _ _ => F9
      rename News g' _ _ _ => N9
      refine gv_use (own := tb1) (rest := [(ld, listOf vl.toArray 0)]) (read_ok (lawJ (rowOf (wordsOf (cellsOf (D0 ++ xs.flatten))))) _ ((wordsOf (cellsOf (lawJ (rowOf (wordsOf (cellsOf (D0 ++ xs.flatten))))))).length + 2) _ (lw_joined hlaw).1 (lw_joined hlaw).2 (by omega) htb1) (news_sub N9 fun p hp => by
        rcases List.mem_append.mp hp with hp | hp
        · exact .tail _ hp
        · rw [List.mem_singleton.mp hp]; exact .head _) apL B' F9 X' T' CH rfl (by decide) (by decide) ?_
      intro r own' h₈ tk₈ F₈ N₈ ap₈ hp₈
      refine hide fun G9 back9 => ?_
      obtain ⟨l3, v3, ep3, tb3, rfl, rfl, htb3, hv3, hl3⟩ := hp₈
      refine back9 ?_
      clear back9 G9
      rw [toks_due] at hv3
      (try clear F9); (try clear N9); (try clear N₉)
      k_steps
      unfold Stop
      rename Fr g' _ _ _ => F9
      rename News g' _ _ _ => N9
      have hda : ∀ x ∈ (wordsOf (cellsOf (lawJ (rowOf (wordsOf (cellsOf (D0 ++ xs.flatten))))))) ++ [[], []], Asc x := fun x hx => by
        rcases List.mem_append.mp hx with hx | hx
        · exact (lw_due hlaw).2 x hx
        · simp only [List.mem_cons, List.mem_nil_iff, or_false, or_self] at hx
          subst hx
          exact fun c hc => nomatch hc
      have hu9 : callerA.units + 3 + 64 < cLine := by decide
      refine eq_strs (N9.isList (List.mem_append.mpr (.inl (.head _)))) (N9.isList (List.mem_append.mpr (.inr (.head _)))) hv3 hvl hda hda hu9 (c := true) (by simp) ?_
      refine ⟨?_, ?_⟩
      · refine goodW_bool F9 hg (raisesW_false ?_) ?_
        · wrow_none_raised
        · kc_post
      · refine And.intro ?_ True.intro
        rcases htb3 with rfl | ⟨c1, c2, oc1, oc2, rfl, _⟩
        · exact GrownAt.of N9 (List.mem_append.mpr (.inl (.tail _ (.head _))))
        · exact GrownAt.of N9 (List.mem_append.mpr (.inl (.tail _ (.head _))))
end
end
end
end Mine
theorem PySem.Challenge.cw_mq0139_01_holds : PySem.Challenge.rw_mq0139_01.Holds := by
  exact Mine.law_holds
