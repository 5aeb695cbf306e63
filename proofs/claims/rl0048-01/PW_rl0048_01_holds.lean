import PyProof.Rows.All
import Wide.All
import OpenK.AllK
import Wide.FinOn
import PySem.Challenge.RW_rl0048_01
open PySem PySem.W PyProof.Rows
set_option Elab.async false
namespace Mine
/-! abstract values, abstract heap (lists by ids), the state relation -/
inductive AV where
  | none | bool (b : Bool) | int (i : Int) | sym (n : Nat) | ref (i : Nat) | fn (a : Nat)
  deriving DecidableEq
structure AO where
  w : Bool
  p : Bool
  xs : List AV
  deriving DecidableEq
noncomputable abbrev AH := List AO
noncomputable abbrev Loc := List (Nat × AV)
noncomputable def lget : Loc → Nat → Option AV
  | [], _ => none
  | (y, v) :: r, x => if Nat.beq y x then some v else lget r x
noncomputable def lset : Loc → Nat → AV → Loc
  | [], x, v => [(x, v)]
  | (y, u) :: r, x, v => if Nat.beq y x then (y, v) :: r else (y, u) :: lset r x v
theorem lget_lset (l : Loc) (x y : Nat) (v : AV) : lget (lset l x v) y = if x = y then some v else lget l y := by
  induction l with
  | nil => simp only [lset, lget, Nat.beq_eq]
  | cons p r ih =>
    obtain ⟨z, u⟩ := p
    simp only [lset]
    by_cases h : Nat.beq z x = true
    · have hz := Nat.eq_of_beq_eq_true h
      subst hz
      simp only [h, if_true, lget, Nat.beq_eq]
      by_cases hy : z = y <;> simp [hy]
    · simp only [h, lget, Nat.beq_eq]
      by_cases hy : z = y
      · subst hy
        have : x ≠ z := by rintro rfl; exact h (Nat.beq_refl _)
        simp [this, lget]
      · simp only [hy, if_false, lget, Nat.beq_eq, ih, Bool.false_eq_true]
/-- the texts that the run meets -/
noncomputable def symL : List String := ["OPTIMIZED", "NEWLOCALS", "VARARGS", "VARKEYWORDS", "optimized", "newlocals", "varargs", "varkeywords", "0x1", "0x2", "0x4", "0x8",
  "OPTIMIZED, NEWLOCALS", "OPTIMIZED, VARARGS", "NEWLOCALS, VARARGS", "OPTIMIZED, NEWLOCALS, VARARGS", "OPTIMIZED, VARKEYWORDS", "NEWLOCALS, VARKEYWORDS", "OPTIMIZED, NEWLOCALS, VARKEYWORDS",
  "VARARGS, VARKEYWORDS", "OPTIMIZED, VARARGS, VARKEYWORDS", "NEWLOCALS, VARARGS, VARKEYWORDS", "OPTIMIZED, NEWLOCALS, VARARGS, VARKEYWORDS", ", "]
noncomputable def symS (n : Nat) : Str := Str.ofString (symL.getD n "")
noncomputable def Val (ρ : List Addr) : AV → Value → Prop
  | .none, v => v = .none
  | .bool b, v => v = .bool b
  | .int i, v => ∃ t, v = .int i t
  | .sym n, v => n < 24 ∧ ∃ t, v = .str (symS n) t
  | .ref i, v => ∃ a, ρ[i]? = some a ∧ v = .ref a
  | .fn a, v => v = .ref a
noncomputable def ValL (ρ : List Addr) : List AV → List Value → Prop
  | [], [] => True
  | x :: xs, v :: vs => Val ρ x v ∧ ValL ρ xs vs
  | _, _ => False
theorem Val.mono {ρ ρ' : List Addr} (h : ρ <+: ρ') {x : AV} {v : Value} (hv : Val ρ x v) : Val ρ' x v := by
  cases x <;> try exact hv
  obtain ⟨a, h1, h2⟩ := hv
  obtain ⟨t, rfl⟩ := h
  exact ⟨a, by rw [List.getElem?_append_left (List.getElem?_eq_some_iff.mp h1).1]; exact h1, h2⟩
theorem ValL.mono {ρ ρ' : List Addr} (h : ρ <+: ρ') : ∀ {xs : List AV} {vs : List Value}, ValL ρ xs vs → ValL ρ' xs vs
  | [], [], _ => trivial
  | _ :: _, _ :: _, hv => ⟨Val.mono h hv.1, ValL.mono h hv.2⟩
theorem ValL.length {ρ : List Addr} : ∀ {xs : List AV} {vs : List Value}, ValL ρ xs vs → xs.length = vs.length
  | [], [], _ => rfl
  | _ :: _, _ :: _, hv => by simp [ValL.length hv.2]
theorem ValL.get {ρ : List Addr} : ∀ {xs : List AV} {vs : List Value}, ValL ρ xs vs → ∀ {i : Nat} {x : AV}, xs[i]? = some x → ∃ v, vs[i]? = some v ∧ Val ρ x v
  | [], [], _, i, x, h => by simp at h
  | _ :: _, v :: vs, hv, 0, x, h => ⟨v, rfl, by simp at h; subst h; exact hv.1⟩
  | _ :: xs, _ :: vs, hv, i + 1, x, h => by
    simp only [List.getElem?_cons_succ] at h ⊢
    exact ValL.get hv.2 h
theorem ValL.append {ρ : List Addr} : ∀ {xs : List AV} {vs : List Value} {ys : List AV} {us : List Value}, ValL ρ xs vs → ValL ρ ys us → ValL ρ (xs ++ ys) (vs ++ us)
  | [], [], _, _, _, h2 => h2
  | _ :: _, _ :: _, _, _, h1, h2 => ⟨h1.1, ValL.append h1.2 h2⟩
theorem ValL.take {ρ : List Addr} (n : Nat) : ∀ {xs : List AV} {vs : List Value}, ValL ρ xs vs → ValL ρ (xs.take n) (vs.take n) := by
  induction n with
  | zero => intro xs vs _; simp [ValL]
  | succ n ih =>
    intro xs vs h
    match xs, vs, h with
    | [], [], _ => simp [ValL]
    | _ :: _, _ :: _, h => exact ⟨h.1, ih h.2⟩
theorem ValL.drop {ρ : List Addr} (n : Nat) : ∀ {xs : List AV} {vs : List Value}, ValL ρ xs vs → ValL ρ (xs.drop n) (vs.drop n) := by
  induction n with
  | zero => intro xs vs h; exact h
  | succ n ih =>
    intro xs vs h
    match xs, vs, h with
    | [], [], _ => simp [ValL]
    | _ :: _, _ :: _, h => exact ih h.2
theorem ValL.set {ρ : List Addr} {x : AV} {v : Value} (hx : Val ρ x v) : ∀ (i : Nat) {xs : List AV} {vs : List Value}, ValL ρ xs vs → ValL ρ (xs.set i x) (vs.set i v)
  | _, [], [], _ => trivial
  | 0, _ :: _, _ :: _, h => ⟨hx, h.2⟩
  | i + 1, _ :: _, _ :: _, h => ⟨h.1, ValL.set hx i h.2⟩
theorem ValL.replicate {ρ : List Addr} {x : AV} {v : Value} (hx : Val ρ x v) : ∀ n, ValL ρ (List.replicate n x) (List.replicate n v)
  | 0 => trivial
  | n + 1 => ⟨hx, ValL.replicate hx n⟩

/-- the heap: what stood before the law's call stands; each id's list is there -/
structure AtH (hb : Heap) (ρ : List Addr) (H : AH) (h : Heap) : Prop where
  keep : hb.StaysIn h
  len : ρ.length = H.length
  nodup : ρ.Nodup
  obj : ∀ (i : Nat) (o : AO) (a : Addr), H[i]? = some o → ρ[i]? = some a → ∃ vs : List Value, h.IsList a vs.toArray ∧ ValL ρ o.xs vs ∧ (o.w = true → hb.get? a = Option.none) ∧ (o.p = true → h.PlainList a vs.toArray) ∧ o.xs.length ≤ 5000
noncomputable def Mut (ρ : List Addr) (H : AH) (b : Addr) : Prop := ∃ (i : Nat) (o : AO), H[i]? = some o ∧ ρ[i]? = some b ∧ o.w = true
/-- one stretch of the run: X may change besides -/
structure Ext (X : Addr → Prop) (ρ : List Addr) (H : AH) (h : Heap) (ρ' : List Addr) (H' : AH) (h' : Heap) : Prop where
  pre : ρ <+: ρ'
  fl : ∀ (i : Nat) (o : AO), H[i]? = some o → ∃ o' : AO, H'[i]? = some o' ∧ o'.w = o.w
  fresh : ∀ (i : Nat) (a : Addr), ρ.length ≤ i → ρ'[i]? = some a → h.get? a = Option.none
  kp : ∀ b o, h.get? b = some o → ¬ Mut ρ H b → ¬ X b → h'.get? b = some o
  per : ∀ b o, h.get? b = some o → ∃ o', h'.get? b = some o'
theorem Ext.refl (X : Addr → Prop) {ρ : List Addr} {H : AH} {h : Heap} : Ext X ρ H h ρ H h :=
  ⟨List.prefix_refl _, fun i o e => ⟨o, e, rfl⟩, (fun i a hi e => by rw [List.getElem?_eq_none hi] at e; cases e), fun _ _ e _ _ => e, fun _ o e => ⟨o, e⟩⟩
theorem Ext.trans {X : Addr → Prop} {hb : Heap} {ρ ρ₁ ρ₂ : List Addr} {H H₁ H₂ : AH} {h h₁ h₂ : Heap} (a : AtH hb ρ H h) (x : Ext X ρ H h ρ₁ H₁ h₁) (y : Ext X ρ₁ H₁ h₁ ρ₂ H₂ h₂) : Ext X ρ H h ρ₂ H₂ h₂ where
  pre := x.pre.trans y.pre
  fl := fun i o e => by
    obtain ⟨o', e', w'⟩ := x.fl i o e
    obtain ⟨o2, e2, w2⟩ := y.fl i o' e'
    exact ⟨o2, e2, w2.trans w'⟩
  fresh := fun i b hi e => by
    by_cases hl : i < ρ₁.length
    · refine x.fresh i b hi ?_
      obtain ⟨t, ht⟩ := y.pre
      rw [← ht, List.getElem?_append_left hl] at e
      exact e
    · have := y.fresh i b (Nat.le_of_not_lt hl) e
      cases hq : h.get? b with
      | none => rfl
      | some o =>
        obtain ⟨o', ho'⟩ := x.per b o hq
        rw [this] at ho'; cases ho'
  kp := fun b o e nm nx => by
    refine y.kp b o (x.kp b o e nm nx) ?_ nx
    rintro ⟨i, o1, e1, e2, hw⟩
    by_cases hl : i < ρ.length
    · obtain ⟨t, ht⟩ := x.pre
      have e3 : ρ[i]? = some b := by rw [← ht, List.getElem?_append_left hl] at e2; exact e2
      have hl' : i < H.length := a.len ▸ hl
      obtain ⟨o', e', w'⟩ := x.fl i H[i] (by simp [hl'])
      rw [e1] at e'; cases e'
      exact nm ⟨i, H[i], by simp [hl'], e3, w' ▸ hw⟩
    · have := x.fresh i b (Nat.le_of_not_lt hl) e2
      rw [this] at e; cases e
  per := fun b o e => by
    obtain ⟨o', e'⟩ := x.per b o e
    exact y.per b o' e'
theorem Ext.weak {X Y : Addr → Prop} {ρ ρ₁ : List Addr} {H H₁ : AH} {h h₁ : Heap} (x : Ext X ρ H h ρ₁ H₁ h₁) (hXY : ∀ b, X b → Y b) : Ext Y ρ H h ρ₁ H₁ h₁ :=
  { x with kp := fun b o e nm ny => x.kp b o e nm fun hx => ny (hXY b hx) }
noncomputable def NoX : Addr → Prop := fun _ => False
noncomputable def FrX (env : Env) : Addr → Prop := fun b => b = env.locals ∨ ∃ x, env.cells.lookup x = some b
/-- the names of the run's variables -/
noncomputable def varL : List String := ["flags", "names", "i", "flag", "a", "x", "lo", "hi", "key", "mid", "ch_a", "ch_b", "b", "max_cost", "pre", "post", "row", "result", "bindex", "bchar",
  "distance", "minimum", "index", "substitute", "insert_delete", "script", "numbers", "place", "number", "kinds", "orders", "order", "gap", "stops", "held", "step", "kind", "size", "product", "factor",
  "words", "shelf", "whole", "shared", "within", "due", "word", "told"]
noncomputable def vS (x : Nat) : Str := Str.ofString (varL.getD x "?")
structure AtF (hb : Heap) (ρ : List Addr) (env : Env) (loc : Loc) (h : Heap) : Prop where
  kind : env.scope.kind = .function
  glob : env.globals = mainGlobals
  blt : env.builtins = builtinsNs
  ns : ∃ m, h.Ns env.locals m ∧ ∀ x v, x < 48 → lget loc x = some v → env.kindOf (vS x) = some .local → ∃ v', m (vS x) = some v' ∧ Val ρ v v'
  cl : ∀ x c, env.cells.lookup x = some c → (∃ v₀, h.IsCell c v₀) ∧ c ∉ ρ ∧ hb.get? c = Option.none ∧ c ≠ env.locals
  inj : ∀ x y c, env.cells.lookup x = some c → env.cells.lookup y = some c → x = y
  cv : ∀ x v, x < 48 → lget loc x = some v → env.kindOf (vS x) ≠ some .local → (env.kindOf (vS x) = some .cell ∨ env.kindOf (vS x) = some .free) ∧ ∃ c v', env.cells.lookup (vS x) = some c ∧ h.IsCell c (some v') ∧ Val ρ v v'
  nρ : env.locals ∉ ρ
  nb : hb.get? env.locals = Option.none
theorem notIn_of {ρ : List Addr} {H : AH} {b : Addr} (h : b ∉ ρ) : ¬ Mut ρ H b := fun ⟨_, _, _, e, _⟩ => h (List.mem_of_getElem? e)
theorem notIn_ext {X : Addr → Prop} {ρ ρ' : List Addr} {H H' : AH} {h h' : Heap} (x : Ext X ρ H h ρ' H' h') {b : Addr} {o : Obj} (hb : h.get? b = some o) (hn : b ∉ ρ) : b ∉ ρ' := by
  intro hm
  obtain ⟨i, hi, e⟩ := List.mem_iff_getElem.mp hm
  by_cases hl : i < ρ.length
  · obtain ⟨t, ht⟩ := x.pre
    subst ht
    rw [List.getElem_append_left hl] at e
    exact hn (e ▸ List.getElem_mem hl)
  · have := x.fresh i b (Nat.le_of_not_lt hl) (by rw [← e]; simp [hi])
    rw [this] at hb; cases hb
theorem AtF.ext {hb : Heap} {ρ ρ' : List Addr} {H H' : AH} {h h' : Heap} {env : Env} {loc : Loc} (f : AtF hb ρ env loc h) (x : Ext NoX ρ H h ρ' H' h') : AtF hb ρ' env loc h' where
  kind := f.kind
  glob := f.glob
  blt := f.blt
  ns := by
    obtain ⟨m, hn, hm⟩ := f.ns
    refine ⟨m, ?_, fun y v hy e k => ?_⟩
    · obtain ⟨o, es, ep, ho, r⟩ := hn
      exact ⟨o, es, ep, x.kp _ o ho (notIn_of f.nρ) id, r⟩
    · obtain ⟨v', e', hv⟩ := hm y v hy e k
      exact ⟨v', e', hv.mono x.pre⟩
  cl := fun y c e => by
    obtain ⟨⟨v₀, o, ho, hd⟩, h2, h3, h4⟩ := f.cl y c e
    exact ⟨⟨v₀, o, x.kp _ o ho (notIn_of h2) id, hd⟩, notIn_ext x ho h2, h3, h4⟩
  inj := f.inj
  cv := fun y v hy e k => by
    obtain ⟨hk, c, v', e1, ⟨o, ho, hd⟩, hv⟩ := f.cv y v hy e k
    exact ⟨hk, c, v', e1, ⟨o, x.kp _ o ho (notIn_of (f.cl _ _ e1).2.1) id, hd⟩, hv.mono x.pre⟩
  nρ := by
    obtain ⟨m, ⟨o, _, _, ho, _⟩, _⟩ := f.ns
    exact notIn_ext x ho f.nρ
  nb := f.nb
/-- a new list onto the heap -/
theorem AtH.push {hb : Heap} {ρ : List Addr} {H : AH} {h : Heap} (a : AtH hb ρ H h) {xs : List AV} {vs : List Value} (hv : ValL ρ xs vs) (hs : xs.length ≤ 5000) {n : Nat} :
    AtH hb (ρ ++ [h.objs.size]) (H ++ [⟨true, true, xs⟩]) (h.push { cls := .type "list", data := .seq vs.toArray n }) ∧ Ext NoX ρ H h (ρ ++ [h.objs.size]) (H ++ [⟨true, true, xs⟩]) (h.push { cls := .type "list", data := .seq vs.toArray n }) := by
  have pre : ρ <+: ρ ++ [h.objs.size] := List.prefix_append _ _
  have hnew : h.get? h.objs.size = Option.none := by
    cases e : h.get? h.objs.size with
    | none => rfl
    | some o' => exact absurd (Heap.lt_size e) (Nat.lt_irrefl _)
  have hall : ∀ b ∈ ρ, b ≠ h.objs.size := by
    rintro b hm rfl
    obtain ⟨i, hi, e⟩ := List.mem_iff_getElem.mp hm
    have hi' : i < H.length := a.len ▸ hi
    obtain ⟨vs, ⟨o', ho', _⟩, _⟩ := a.obj i H[i] h.objs.size (by simp [hi']) (by rw [← e]; simp [hi])
    rw [hnew] at ho'; cases ho'
  refine ⟨⟨fun b o' e => Heap.get?_push_of_some _ (a.keep b o' e), by simp [a.len], ?_, fun i o' b e1 e2 => ?_⟩, ⟨pre, fun i o' e => ⟨o', ?_, rfl⟩, fun i b hi e => ?_, fun b o' e _ _ => Heap.get?_push_of_some _ e, fun b o' e => ⟨o', Heap.get?_push_of_some _ e⟩⟩⟩
  · rw [List.nodup_append]
    refine ⟨a.nodup, by simp, fun b hm c hc => ?_⟩
    simp only [List.mem_singleton] at hc
    subst hc
    exact hall b hm
  · by_cases hl : i < ρ.length
    · rw [List.getElem?_append_left hl] at e2
      rw [List.getElem?_append_left (a.len ▸ hl)] at e1
      obtain ⟨us, h1, h2, h3, h4, h5⟩ := a.obj i o' b e1 e2
      exact ⟨us, h1.push _, h2.mono pre, h3, fun w => (h4 w).at fun _ e => Heap.get?_push_of_some _ e, h5⟩
    · have hge := Nat.le_of_not_lt hl
      rw [List.getElem?_append_right hge] at e2
      rw [List.getElem?_append_right (a.len ▸ hge)] at e1
      have h0 : i - ρ.length = 0 := by
        have := (List.getElem?_eq_some_iff.mp e2).1
        simp at this; omega
      have h0' : i - H.length = 0 := by rw [← a.len]; exact h0
      rw [h0] at e2; rw [h0'] at e1
      simp at e1 e2
      subst e1 e2
      have hpl : (h.push { cls := .type "list", data := .seq vs.toArray n }).PlainList h.objs.size vs.toArray := ⟨n, Heap.get?_push_size _ rfl⟩
      refine ⟨vs, hpl.isList, hv.mono pre, fun _ => ?_, fun _ => hpl, hs⟩
      cases e : hb.get? h.objs.size with
      | none => rfl
      | some o' => rw [a.keep _ _ e] at hnew; cases hnew
  · rw [List.getElem?_append_left (List.getElem?_eq_some_iff.mp e).1]; exact e
  · rw [List.getElem?_append_right hi] at e
    have h0 : i - ρ.length = 0 := by
      have := (List.getElem?_eq_some_iff.mp e).1
      simp at this; omega
    rw [h0] at e
    simp at e
    subst e
    exact hnew
/-- a new list, wherever it came from -/
theorem AtH.new {hb : Heap} {ρ : List Addr} {H : AH} {h h' : Heap} (a : AtH hb ρ H h) (kp : ∀ b o, h.get? b = some o → h'.get? b = some o) {D : Addr} (hnew : h.get? D = Option.none) {xs : List AV} {vs : List Value} (hv : ValL ρ xs vs) (hs : xs.length ≤ 5000) {p : Bool}
    (hl : h'.IsList D vs.toArray) (hpl : p = true → h'.PlainList D vs.toArray) :
    AtH hb (ρ ++ [D]) (H ++ [⟨true, p, xs⟩]) h' ∧ Ext NoX ρ H h (ρ ++ [D]) (H ++ [⟨true, p, xs⟩]) h' := by
  have pre : ρ <+: ρ ++ [D] := List.prefix_append _ _
  have hall : ∀ b ∈ ρ, b ≠ D := by
    rintro b hm rfl
    obtain ⟨i, hi, e⟩ := List.mem_iff_getElem.mp hm
    have hi' : i < H.length := a.len ▸ hi
    obtain ⟨vs, ⟨o', ho', _⟩, _⟩ := a.obj i H[i] b (by simp [hi']) (by rw [← e]; simp [hi])
    rw [hnew] at ho'; cases ho'
  refine ⟨⟨fun b o' e => kp _ _ (a.keep b o' e), by simp [a.len], ?_, fun i o' b e1 e2 => ?_⟩, ⟨pre, fun i o' e => ⟨o', ?_, rfl⟩, fun i b hi e => ?_, fun b o' e _ _ => kp _ _ e, fun b o' e => ⟨o', kp _ _ e⟩⟩⟩
  · rw [List.nodup_append]
    refine ⟨a.nodup, by simp, fun b hm c hc => ?_⟩
    simp only [List.mem_singleton] at hc
    subst hc
    exact hall b hm
  · by_cases hl' : i < ρ.length
    · rw [List.getElem?_append_left hl'] at e2
      rw [List.getElem?_append_left (a.len ▸ hl')] at e1
      obtain ⟨us, ⟨oo, g1, g1'⟩, h2, h3, h4, h5⟩ := a.obj i o' b e1 e2
      exact ⟨us, ⟨oo, kp _ _ g1, g1'⟩, h2.mono pre, h3, fun w => (h4 w).at fun _ e => kp _ _ e, h5⟩
    · have hge := Nat.le_of_not_lt hl'
      rw [List.getElem?_append_right hge] at e2
      rw [List.getElem?_append_right (a.len ▸ hge)] at e1
      have h0 : i - ρ.length = 0 := by
        have := (List.getElem?_eq_some_iff.mp e2).1
        simp at this; omega
      have h0' : i - H.length = 0 := by rw [← a.len]; exact h0
      rw [h0] at e2; rw [h0'] at e1
      simp at e1 e2
      subst e1 e2
      refine ⟨vs, hl, hv.mono pre, fun _ => ?_, hpl, hs⟩
      cases e : hb.get? D with
      | none => rfl
      | some o' => rw [a.keep _ _ e] at hnew; cases hnew
  · rw [List.getElem?_append_left (List.getElem?_eq_some_iff.mp e).1]; exact e
  · rw [List.getElem?_append_right hi] at e
    have h0 : i - ρ.length = 0 := by
      have := (List.getElem?_eq_some_iff.mp e).1
      simp at this; omega
    rw [h0] at e
    simp at e
    subst e
    exact hnew
/-- a list of one's own gets other items -/
theorem AtH.upd {hb : Heap} {ρ : List Addr} {H : AH} {h h' : Heap} (a : AtH hb ρ H h) {i : Nat} {o : AO} {b : Addr} (e1 : H[i]? = some o) (e2 : ρ[i]? = some b) (hw : o.w = true) {xs : List AV} {vs : List Value} (hv : ValL ρ xs vs) (hs : xs.length ≤ 5000)
    {p : Bool} (hl : h'.IsList b vs.toArray) (hpl : p = true → h'.PlainList b vs.toArray) (sb : Heap.ExtBut b h h') :
    AtH hb ρ (H.set i ⟨true, p, xs⟩) h' ∧ Ext NoX ρ H h ρ (H.set i ⟨true, p, xs⟩) h' := by
  have hbn : hb.get? b = Option.none := by
    obtain ⟨_, _, _, h3, _⟩ := a.obj i o b e1 e2
    exact h3 hw
  have hiH : i < H.length := (List.getElem?_eq_some_iff.mp e1).1
  refine ⟨⟨fun c o' e => sb c o' ?_ (a.keep c o' e), by simp [a.len], a.nodup, fun j o' c f1 f2 => ?_⟩, ⟨List.prefix_refl _, fun j o' e => ?_, (fun j c hj e => by rw [List.getElem?_eq_none hj] at e; cases e), fun c o' e nm _ => sb c o' ?_ e, fun c o' e => ?_⟩⟩
  · rintro rfl; rw [hbn] at e; cases e
  · by_cases hj : j = i
    · subst hj
      rw [e2] at f2
      cases f2
      rw [List.getElem?_set_self hiH] at f1
      cases f1
      exact ⟨vs, hl, hv, fun _ => hbn, hpl, hs⟩
    · rw [List.getElem?_set_ne (Ne.symm hj)] at f1
      obtain ⟨us, g1, g2, g3, g4, g5⟩ := a.obj j o' c f1 f2
      have hcb : c ≠ b := ?_
      exact ⟨us, g1.extBut sb hcb, g2, g3, fun w => (g4 w).extBut sb hcb, g5⟩
      rintro rfl
      apply hj
      have hi1 := (List.getElem?_eq_some_iff.mp e2)
      have hj1 := (List.getElem?_eq_some_iff.mp f2)
      obtain ⟨hi1, hi2⟩ := hi1
      obtain ⟨hj1, hj2⟩ := hj1
      exact (List.getElem_inj a.nodup (h₀ := hj1) (h₁ := hi1)).mp (hj2.trans hi2.symm)
  · by_cases hj : j = i
    · subst hj
      rw [e1] at e; cases e
      exact ⟨⟨true, p, xs⟩, by rw [List.getElem?_set_self hiH], hw.symm⟩
    · exact ⟨o', by rw [List.getElem?_set_ne (Ne.symm hj)]; exact e, rfl⟩
  · rintro rfl
    exact nm ⟨i, o, e1, e2, hw⟩
  · by_cases hcb : c = b
    · subst hcb
      obtain ⟨oo, g1, _⟩ := hl
      exact ⟨_, g1⟩
    · exact ⟨o', sb c o' hcb e⟩
/-- a change that touches none of the known -/
theorem AtH.other {hb : Heap} {ρ : List Addr} {H : AH} {h h' : Heap} (a : AtH hb ρ H h) (kp : ∀ b o, h.get? b = some o → h'.get? b = some o) :
    AtH hb ρ H h' ∧ Ext NoX ρ H h ρ H h' :=
  ⟨⟨fun c o' e => kp c o' (a.keep c o' e), a.len, a.nodup, fun j o' c f1 f2 => by
      obtain ⟨us, ⟨oo, g1, g1'⟩, g2, g3, g4, g5⟩ := a.obj j o' c f1 f2
      exact ⟨us, ⟨oo, kp c oo g1, g1'⟩, g2, g3, fun w => (g4 w).at fun _ e => kp _ _ e, g5⟩⟩,
    ⟨List.prefix_refl _, fun i o e => ⟨o, e, rfl⟩, (fun i a hi e => by rw [List.getElem?_eq_none hi] at e; cases e), fun b o e _ _ => kp b o e, fun b o e => ⟨o, kp b o e⟩⟩⟩
end Mine
namespace Mine
structure Cx where
  prog : Program
  w : World
  hb : Heap
  mg : Str → Option Value
  mb : Str → Option Value
  K : Frag
noncomputable def flagD : List (PyData × PyData) := [(.int 1, .str (Str.ofString "OPTIMIZED")), (.int 2, .str (Str.ofString "NEWLOCALS")), (.int 4, .str (Str.ofString "VARARGS")), (.int 8, .str (Str.ofString "VARKEYWORDS")), (.int 16, .str (Str.ofString "NESTED")),
  (.int 32, .str (Str.ofString "GENERATOR")), (.int 64, .str (Str.ofString "NOFREE")), (.int 128, .str (Str.ofString "COROUTINE")), (.int 256, .str (Str.ofString "ITERABLE_COROUTINE")), (.int 512, .str (Str.ofString "ASYNC_GENERATOR"))]
structure CxOk (c : Cx) : Prop where
  g : c.hb.Ns mainGlobals c.mg
  b : c.hb.Ns builtinsNs c.mb
  bt : ∀ x, x ≠ ("__name__" : Str) → c.mb x = bootBuiltins x
  lim : c.hb.NoLimit
  X : c.K.In c.hb
  dct : IntTab c.prog c.w c.hb 15 flagD
structure AOk (d : Nat) (A : Around) : Prop where
  han : A.handled = none
  dep : A.depth + d < 900
  un : A.units + 4 * d < 9000
noncomputable def PostE (c : Cx) (s : Shared) (ρ : List Addr) (H : AH) {α β : Type} (R : List Addr → β → α → Prop) (P : β → AH → Prop) : α → Shared → Prop :=
  fun a s' => ∃ h' tk' ρ' H' b, s' = { s with heap := h', toks := tk' } ∧ AtH c.hb ρ' H' h' ∧ Ext NoX ρ H s.heap ρ' H' h' ∧ R ρ' b a ∧ P b H'
/-- a tree, run in a frame: it ends as P says -/
noncomputable def TR (c : Cx) (d : Nat) (env : Env) (loc : Loc) (H : AH) {α β : Type} (t : Sem α) (R : List Addr → β → α → Prop) (P : β → AH → Prop) : Prop :=
  ∀ A, AOk d A → ∀ s ρ, AtH c.hb ρ H s.heap → AtF c.hb ρ env loc s.heap → wpAny (model c.prog c.w) A t (PostE c s ρ H R P) (fun _ _ => False) s
noncomputable def BoolR : List Addr → Bool → Bool → Prop := fun _ b a => a = b
noncomputable abbrev VE (c : Cx) (d : Nat) (env : Env) (x : Expr) (loc : Loc) (H : AH) (P : AV → AH → Prop) : Prop := TR c d env loc H (eval x env) Val P
noncomputable abbrev VT (c : Cx) (d : Nat) (env : Env) (x : Expr) (loc : Loc) (H : AH) (P : Bool → AH → Prop) : Prop := TR c d env loc H (isTrue x env (eval x env)) BoolR P
section
variable {c : Cx} {d : Nat} {env : Env} {loc : Loc} {H : AH} {A : Around} {s : Shared} {ρ : List Addr}
theorem PostE.here {α β : Type} {R : List Addr → β → α → Prop} {P : β → AH → Prop} {a : α} {b : β} (hH : AtH c.hb ρ H s.heap) (hr : R ρ b a) (p : P b H) (tk : Nat) : PostE c s ρ H R P a { s with toks := tk } :=
  ⟨s.heap, tk, ρ, H, b, rfl, hH, Ext.refl _, hr, p⟩
theorem PostE.here' {α β : Type} {R : List Addr → β → α → Prop} {P : β → AH → Prop} {a : α} {b : β} (hH : AtH c.hb ρ H s.heap) (hr : R ρ b a) (p : P b H) : PostE c s ρ H R P a s :=
  ⟨s.heap, s.toks, ρ, H, b, rfl, hH, Ext.refl _, hr, p⟩
theorem PostE.trans {α β : Type} {R : List Addr → β → α → Prop} {P : β → AH → Prop} {a : α} {s' : Shared} {h₁ : Heap} {tk₁ : Nat} {ρ₁ : List Addr} {H₁ : AH} (hH : AtH c.hb ρ H s.heap) (x : Ext NoX ρ H s.heap ρ₁ H₁ h₁)
    (q : PostE c { s with heap := h₁, toks := tk₁ } ρ₁ H₁ R P a s') : PostE c s ρ H R P a s' := by
  obtain ⟨h', tk', ρ', H', b, rfl, at', x', r, p⟩ := q
  exact ⟨h', tk', ρ', H', b, rfl, at', Ext.trans hH x x', r, p⟩
theorem PostE.mono {α β : Type} {R : List Addr → β → α → Prop} {P P' : β → AH → Prop} {a : α} {s' : Shared} (q : PostE c s ρ H R P a s') (h : ∀ b H', P b H' → P' b H') : PostE c s ρ H R P' a s' := by
  obtain ⟨h', tk', ρ', H', b, rfl, at', x', r, p⟩ := q
  exact ⟨h', tk', ρ', H', b, rfl, at', x', r, h b H' p⟩
theorem TR.mono {α β : Type} {t : Sem α} {R : List Addr → β → α → Prop} {P P' : β → AH → Prop} (h : TR c d env loc H t R P) (hp : ∀ b H', P b H' → P' b H') : TR c d env loc H t R P' :=
  fun A hA s ρ hH hF => wpAny_mono (h A hA s ρ hH hF) (fun _ _ q => q.mono hp) fun _ _ e => e
/-- go on behind a tree -/
theorem TR.seq {α β : Type} {t : Sem α} {R : List Addr → β → α → Prop} {P : β → AH → Prop} {Q : α → Shared → Prop} {E : Value → Shared → Prop} (h : TR c d env loc H t R P) (hA : AOk d A) (hH : AtH c.hb ρ H s.heap) (hF : AtF c.hb ρ env loc s.heap)
    (k : ∀ a h₁ tk₁ ρ₁ H₁ b, AtH c.hb ρ₁ H₁ h₁ → AtF c.hb ρ₁ env loc h₁ → Ext NoX ρ H s.heap ρ₁ H₁ h₁ → R ρ₁ b a → P b H₁ → Q a { s with heap := h₁, toks := tk₁ }) :
    wpAny (model c.prog c.w) A t Q E s :=
  wpAny_mono (h A hA s ρ hH hF) (fun a s' q => by
    obtain ⟨h', tk', ρ', H', b, rfl, at', x', r, p⟩ := q
    exact k a h' tk' ρ' H' b at' (hF.ext x') x' r p) fun _ _ e => e.elim
theorem TR.pure {α β : Type} {R : List Addr → β → α → Prop} {P : β → AH → Prop} {a : α} {b : β} (hr : ∀ ρ, R ρ b a) (p : P b H) : TR c d env loc H (Pure.pure a) R P :=
  fun _ _ _ _ hH _ => wpAny_pure (PostE.here' hH (hr _) p)
/-- the list under an id -/
theorem AtH.list {hb : Heap} {h : Heap} (a : AtH hb ρ H h) {i : Nat} {o : AO} (e : H[i]? = some o) {v : Value} (hv : Val ρ (.ref i) v) :
    ∃ b vs, v = .ref b ∧ ρ[i]? = some b ∧ h.IsList b (List.toArray vs) ∧ ValL ρ o.xs vs ∧ (o.w = true → hb.get? b = Option.none) ∧ (o.p = true → h.PlainList b vs.toArray) ∧ vs.length ≤ 5000 := by
  obtain ⟨b, hρ, rfl⟩ := hv
  obtain ⟨vs, h1, h2, h3, h4, h5⟩ := a.obj i o b e hρ
  exact ⟨b, vs, rfl, hρ, h1, h2, h3, h4, h2.length ▸ h5⟩
theorem fit5000 {vs : List Value} (h : vs.length ≤ 5000) : vs.toArray.size ≤ sizeLine := by rw [List.size_toArray, sizeLine_eq]; omega
theorem fitInt {vs : List Value} (h : vs.length ≤ 5000) : (vs.toArray.size : Int) < 2 ^ 63 := by rw [List.size_toArray]; omega
/-- a new list, as the end -/
theorem PostE.newList {P : AV → AH → Prop} {xs : List AV} {vs : List Value} {n : Nat} (hH : AtH c.hb ρ H s.heap) (hv : ValL ρ xs vs) (hs : xs.length ≤ 5000) (p : P (.ref H.length) (H ++ [⟨true, true, xs⟩])) (tk : Nat) :
    PostE c s ρ H Val P (.ref s.heap.objs.size) { s with heap := s.heap.push { cls := .type "list", data := .seq vs.toArray n }, toks := tk } := by
  obtain ⟨a1, x1⟩ := hH.push (n := n) hv hs
  exact ⟨_, tk, _, _, .ref H.length, rfl, a1, x1, ⟨s.heap.objs.size, by rw [← hH.len]; simp, rfl⟩, p⟩
end
/-! ## the leaves -/
section
variable {c : Cx} {d : Nat} {env : Env} {loc : Loc} {H : AH}
theorem not_debug (x : Nat) : (vS x == ("__debug__" : Str)) = false ∧ (vS x == ("__classdict__" : Str)) = false := by
  have h : ∀ n, n < 48 → (vS n == ("__debug__" : Str)) = false ∧ (vS n == ("__classdict__" : Str)) = false := by decide +kernel
  by_cases hx : x < 48
  · exact h x hx
  · have : vS x = Str.ofString "?" := by
      unfold vS
      rw [List.getD_eq_getElem?_getD, List.getElem?_eq_none (by simpa [varL] using Nat.le_of_not_lt hx)]; rfl
    rw [this]
    decide +kernel
theorem VE_var {x : Nat} {id : Str} {pos : Pos} {v : AV} {P : AV → AH → Prop} (hid : id = vS x) (hlt : x < 48) (hx : lget loc x = some v) (p : P v H) : VE c d env (.Name id pos) loc H P := by
  subst hid
  intro A hA s ρ hH hF
  by_cases hk : env.kindOf (vS x) = some .local
  · obtain ⟨m, hn, hm⟩ := hF.ns
    obtain ⟨v', e', hv⟩ := hm x v hlt hx hk
    exact wpAny_Name (wpAny_loadName_local hF.kind hk hn e' (PostE.here' hH hv p)) (not_debug x).1
  · obtain ⟨hk', cc, v', e1, e2, hv⟩ := hF.cv x v hlt hx hk
    rcases hk' with hk' | hk'
    · exact wpAny_Name (wpAny_loadName_cell hF.kind hk' e1 e2 (PostE.here' hH hv p)) (not_debug x).1
    · exact wpAny_Name (wpAny_loadName_free hF.kind hk' e1 e2 (PostE.here' hH hv p) (not_debug x).2) (not_debug x).1
theorem VE_int {i : Int} {k : Nat} {pos : Pos} {P : AV → AH → Prop} (p : P (.int i) H) : VE c d env (.Constant (.int i) k pos) loc H P :=
  fun _ _ _ _ hH _ => wpAny_Constant_int (PostE.here hH ⟨_, rfl⟩ p _)
theorem VE_none {k : Nat} {pos : Pos} {P : AV → AH → Prop} (p : P .none H) : VE c d env (.Constant .none k pos) loc H P :=
  fun _ _ _ _ hH _ => wpAny_pure (PostE.here' (b := AV.none) hH rfl p)
theorem VE_bool {b : Bool} {k : Nat} {pos : Pos} {P : AV → AH → Prop} (p : P (.bool b) H) : VE c d env (.Constant (.bool b) k pos) loc H P :=
  fun _ _ _ _ hH _ => wpAny_pure (PostE.here' (b := AV.bool b) hH rfl p)
/-- a global name: an int, or a thing of the text's own -/
theorem VE_glob (ok : CxOk c) {id : Str} {pos : Pos} {v : AV} {u : Value} {P : AV → AH → Prop} (hk : env.kindOf id = some .globalImplicit) (hd : (id == ("__debug__" : Str)) = false) (hg : c.mg id = some u) (hv : ∀ ρ, Val ρ v u) (p : P v H) : VE c d env (.Name id pos) loc H P := by
  intro A hA s ρ hH hF
  refine Calls.Name_function_global hF.kind hk (Calls.loadGlobal_global ?_ hg (PostE.here' hH (hv ρ) p)) hd
  rw [hF.glob]
  exact ok.g.keeps hH.keep
/-- a built-in name -/
theorem TR_builtin (ok : CxOk c) {id : Str} {pos : Pos} {u : Value} {P : Unit → AH → Prop} (hk : env.kindOf id = some .globalImplicit) (hd : (id == ("__debug__" : Str)) = false) (hg : c.mg id = Option.none) (hn : id ≠ ("__name__" : Str)) (hv : bootBuiltins id = some u) (p : P () H) :
    TR c d env loc H (eval (.Name id pos) env) (fun _ _ a => a = u) P := by
  intro A hA s ρ hH hF
  refine Calls.Name_function_global hF.kind hk (Calls.loadGlobal_builtin ?_ hg ?_ ((ok.bt id hn).trans hv) (PostE.here' hH rfl p)) hd
  · rw [hF.glob]; exact ok.g.keeps hH.keep
  · rw [hF.blt]; exact ok.b.keeps hH.keep
end
end Mine
namespace Mine
noncomputable def gd (b : Bool) (p : Prop) : Prop := match b with | true => p | false => False
theorem gd_iff {b : Bool} {p : Prop} : gd b p ↔ b = true ∧ p := by cases b <;> simp [gd]
noncomputable def small (x : Int) : Bool := decide (x < 1000000000) && decide (-1000000000 < x)
theorem small_bits {x : Int} (h : small x = true) : Builtin.Int.intBits x ≤ 64 := by
  simp only [small, Bool.and_eq_true, decide_eq_true_eq] at h
  exact intBits_le_64 (by omega) (by omega)
noncomputable def flatA : AV → Bool
  | .int _ => true
  | .sym _ => true
  | _ => false
noncomputable def avEq : AV → AV → Bool
  | .int x, .int y => x == y
  | .sym m, .sym n => Nat.beq m n
  | _, _ => false
noncomputable def avsEq : List AV → List AV → Bool
  | [], [] => true
  | x :: xs, y :: ys => avEq x y && avsEq xs ys
  | _, _ => false
noncomputable def toPy : AV → PyData
  | .int i => .int i
  | .sym n => .str (symS n)
  | _ => .none
theorem symS_inj : ∀ m, m < 24 → ∀ n, n < 24 → (symS m == symS n) = Nat.beq m n := by decide +kernel
theorem symS_ok : ∀ m, m < 24 → PyData.canLay0 (.str (symS m)) = true := by decide +kernel
theorem symS_len : ∀ m, m < 24 → (symS m).length ≤ 60 := by decide +kernel
theorem ValL.carried {ρ : List Addr} : ∀ {xs : List AV} {vs : List Value}, ValL ρ xs vs → xs.all flatA = true → CarriedAll vs (xs.map toPy)
  | [], [], _, _ => .nil
  | x :: xs, v :: vs, h, hf => by
    simp only [List.all_cons, Bool.and_eq_true] at hf
    refine .cons ?_ (ValL.carried h.2 hf.2)
    have h1 := h.1
    cases x with
    | int i => obtain ⟨t, rfl⟩ := h1; exact .int _ _
    | sym n => obtain ⟨_, t, rfl⟩ := h1; exact .str _ _
    | _ => simp [flatA] at hf
theorem ValL.syms {ρ : List Addr} : ∀ {xs : List AV} {vs : List Value}, ValL ρ xs vs → ∀ n, AV.sym n ∈ xs → n < 24
  | [], [], _, n, hm => by simp at hm
  | x :: xs, v :: vs, h, n, hm => by
    rcases List.mem_cons.mp hm with rfl | hm
    · exact h.1.1
    · exact ValL.syms h.2 n hm
theorem eqv_flat {x y : AV} (hx : flatA x = true) (hy : flatA y = true) (sx : ∀ n, x = .sym n → n < 24) (sy : ∀ n, y = .sym n → n < 24) : PyData.eqv (toPy x) (toPy y) = avEq x y := by
  cases x <;> simp [flatA] at hx <;> cases y <;> simp [flatA] at hy <;> simp only [toPy, PyData.eqv, avEq]
  exact symS_inj _ (sx _ rfl) _ (sy _ rfl)
theorem eqvAll_flat : ∀ {xs ys : List AV}, xs.all flatA = true → ys.all flatA = true → (∀ n, AV.sym n ∈ xs → n < 24) → (∀ n, AV.sym n ∈ ys → n < 24) → PyData.eqvAll (xs.map toPy) (ys.map toPy) = avsEq xs ys
  | [], [], _, _, _, _ => by simp [PyData.eqvAll, avsEq]
  | [], _ :: _, _, _, _, _ => by simp [PyData.eqvAll, avsEq]
  | _ :: _, [], _, _, _, _ => by simp [PyData.eqvAll, avsEq]
  | x :: xs, y :: ys, hx, hy, sx, sy => by
    simp only [List.all_cons, Bool.and_eq_true] at hx hy
    simp only [List.map_cons, PyData.eqvAll, avsEq]
    rw [eqv_flat hx.1 hy.1 (fun n e => sx n (e ▸ List.mem_cons_self)) (fun n e => sy n (e ▸ List.mem_cons_self)),
      eqvAll_flat hx.2 hy.2 (fun n hm => sx n (List.mem_cons_of_mem _ hm)) (fun n hm => sy n (List.mem_cons_of_mem _ hm))]
theorem canLay_flat : ∀ {xs : List AV}, (∀ n, AV.sym n ∈ xs → n < 24) → PyData.canLayAll0 (xs.map toPy) = true
  | [], _ => by simp [PyData.canLayAll0]
  | x :: xs, sx => by
    simp only [List.map_cons, PyData.canLayAll0, canLay_flat (fun n hm => sx n (List.mem_cons_of_mem _ hm)), Bool.and_true]
    cases x with
    | sym n => exact symS_ok n (sx n List.mem_cons_self)
    | _ => simp [toPy, PyData.canLay0]
theorem depth_flat : ∀ (xs : List AV), PyData.depthAll (xs.map toPy) = 0
  | [] => by simp [PyData.depthAll]
  | x :: xs => by
    simp only [List.map_cons, PyData.depthAll, depth_flat xs]
    cases x <;> simp [toPy, PyData.depth]
theorem shaped_flat {xs : List AV} (sx : ∀ n, AV.sym n ∈ xs → n < 24) : SeqAt.shaped (.list (xs.map toPy)) = true := by
  simp [SeqAt.shaped, PyData.canLay0, PyData.depth, canLay_flat sx, depth_flat]
theorem ValL.rep {ρ : List Addr} {xs : List AV} {vs : List Value} (h : ValL ρ xs vs) : ∀ n, ValL ρ (List.replicate n xs).flatten (List.replicate n vs).flatten
  | 0 => by simp [ValL]
  | n + 1 => by simp only [List.replicate_succ, List.flatten_cons]; exact h.append (ValL.rep h n)
/-- a short list, times a small number -/
theorem list_times {prog : Program} {w : World} {A : Around} {E : Value → Shared → Prop} {s : Shared} {l : Addr} {items : Array Value} {n : Nat} {k : Int} {u : Tok} {Q : Value → Shared → Prop}
    (hl : s.heap.get? l = some { cls := .type "list", data := .seq items n }) (h0 : 0 ≤ k) (h1 : k ≤ 100) (hi : items.size ≤ 1)
    (h : Q (.ref s.heap.objs.size) { s with heap := s.heap.push { cls := .type "list", data := .seq (List.foldl (fun x1 x2 => x1 ++ x2) #[] (List.replicate (if items.isEmpty = true then 0 else k.toNat) items)) } }) :
    wpAny (model prog w) A (binaryOp .Mult (.ref l) (.int k u)) Q E s := by
  have hk : items.size * k.toNat ≤ 100 := Nat.le_trans (Nat.mul_le_mul hi (Nat.le_refl _)) (by omega)
  have ty : s.TypeIs (.ref l) "list" := ⟨_, hl, rfl⟩
  have inner := call_meets (prog := prog) (w := w) (A := A) (E := E) F.slot_list_mul ty F.entry_list_mul (F.args_list_mul_2 (.ref l) (.int k u))
    (AutoListH.list___mul___list_int_3 l items n k u (by simp [Builtin.List.listFitsIndex]; omega) (by omega) (by simp [Builtin.List.listTooLong, sizeLine]; omega)) ⟨hl, h⟩
  exact wpAny_binaryOp_repeat_ref (by decide) ty (fun s' => typeIs_int s' k u) noFill_list_mul F.fills_int_mul F.slot_int_rmul repeat_list F.slot_int_index.lookup
    (call_meets F.slot_int_rmul (typeIs_int s k u) F.entry_int_rmul (F.args_int_rmul_2 _ _) (int___rmul___int_list k u l items n) ⟨hl, rfl, ty, inner⟩)
/-! ## operations on abstract values -/
noncomputable def newL (H : AH) (xs : List AV) (P : AV → AH → Prop) : Prop := gd (Nat.ble xs.length 5000) (P (.ref H.length) (H ++ [⟨true, true, xs⟩]))
noncomputable def lat (H : AH) (i : Nat) (P : AO → Prop) : Prop := match H[i]? with | some o => P o | none => False
theorem lat_of {H : AH} {i : Nat} {P : AO → Prop} (h : lat H i P) : ∃ o, H[i]? = some o ∧ P o := by
  unfold lat at h
  cases e : H[i]? with
  | none => rw [e] at h; exact h.elim
  | some o => rw [e] at h; exact ⟨o, rfl, h⟩
noncomputable def binA (op : Operator) (a b : AV) (H : AH) (P : AV → AH → Prop) : Prop :=
  match op, a, b with
  | .Add, .int x, .int y => P (.int (x + y)) H
  | .Sub, .int x, .int y => P (.int (x - y)) H
  | .Mult, .int x, .int y => gd (small x) (P (.int (x * y)) H)
  | .FloorDiv, .int x, .int y => gd (small y && y != 0) (P (.int (x.fdiv y)) H)
  | .Mod, .int x, .int y => gd (y != 0) (P (.int (x.fmod y)) H)
  | .BitAnd, .int x, .int y => P (.int (Builtin.bitAnd x y)) H
  | .LShift, .int x, .int y => gd (decide (0 ≤ y) && decide (y ≤ 1000) && small x) (P (.int (x * 2 ^ y.toNat)) H)
  | .Add, .ref i, .ref j => lat H i fun o => lat H j fun o' => gd (o.p && o'.p) (newL H (o.xs ++ o'.xs) P)
  | .Mult, .ref i, .int k => lat H i fun o => gd (o.p && decide (0 ≤ k) && decide (k ≤ 100) && Nat.ble o.xs.length 1) (newL H (List.replicate k.toNat o.xs).flatten P)
  | _, _, _ => False
noncomputable def isNone : AV → Bool
  | .none => true
  | _ => false
noncomputable def cmpA (op : CmpOp) (a b : AV) (H : AH) (P : Bool → Prop) : Prop :=
  match op, a, b with
  | .Eq, .int x, .int y => P (x == y)
  | .NotEq, .int x, .int y => P (x != y)
  | .Lt, .int x, .int y => P (decide (x < y))
  | .Gt, .int x, .int y => P (decide (y < x))
  | .Eq, .sym m, .sym n => P (Nat.beq m n)
  | .Is, v, .none => P (isNone v)
  | .Eq, .ref i, .ref j => lat H i fun o => lat H j fun o' => gd (o.xs.all flatA && o'.xs.all flatA) (P (avsEq o.xs o'.xs))
  | .NotEq, .ref i, .ref j => lat H i fun o => lat H j fun o' => gd (o.xs.all flatA && o'.xs.all flatA) (P (!avsEq o.xs o'.xs))
  | .In, .sym n, .ref j => lat H j fun o => gd (o.xs.all flatA) (P (o.xs.any fun y => avEq y (.sym n)))
  | _, _, _ => False
noncomputable def truA (v : AV) (H : AH) (P : Bool → Prop) : Prop :=
  match v with
  | .int x => P (x != 0)
  | .bool b => P b
  | .none => P false
  | .ref i => lat H i fun o => P (!o.xs.isEmpty)
  | _ => False
section
variable {c : Cx} {A : Around} {s : Shared} {ρ : List Addr} {H : AH} {E : Value → Shared → Prop}
theorem wp_bin {op : Operator} {a b : AV} {u v : Value} {P : AV → AH → Prop} (hH : AtH c.hb ρ H s.heap) (ha : Val ρ a u) (hb : Val ρ b v) (p : binA op a b H P) :
    wpAny (model c.prog c.w) A (binaryOp op u v) (PostE c s ρ H Val P) E s := by
  unfold binA at p
  split at p
  · obtain ⟨t, rfl⟩ := ha; obtain ⟨t', rfl⟩ := hb
    exact PyProof.Rows.add_int (PostE.here hH ⟨_, rfl⟩ p _)
  · obtain ⟨t, rfl⟩ := ha; obtain ⟨t', rfl⟩ := hb
    exact PyProof.Rows.sub_int (PostE.here hH ⟨_, rfl⟩ p _)
  · obtain ⟨t, rfl⟩ := ha; obtain ⟨t', rfl⟩ := hb
    obtain ⟨h1, p⟩ := gd_iff.mp p
    exact PySem.P.mul_int (PostE.here hH ⟨_, rfl⟩ p _) (IntMulOk.of_left (small_bits h1))
  · obtain ⟨t, rfl⟩ := ha; obtain ⟨t', rfl⟩ := hb
    obtain ⟨h1, p⟩ := gd_iff.mp p
    simp only [Bool.and_eq_true, bne_iff_ne, small, decide_eq_true_eq] at h1
    exact floordiv_int h1.2 (PostE.here hH ⟨_, rfl⟩ p _) (.inl (PyProof.noPylong_small (by omega)))
  · obtain ⟨t, rfl⟩ := ha; obtain ⟨t', rfl⟩ := hb
    obtain ⟨h1, p⟩ := gd_iff.mp p
    exact mod_int' (bne_iff_ne.mp h1) (PostE.here hH ⟨_, rfl⟩ p _)
  · obtain ⟨t, rfl⟩ := ha; obtain ⟨t', rfl⟩ := hb
    exact and_int (PostE.here hH ⟨_, rfl⟩ p _)
  · obtain ⟨t, rfl⟩ := ha; obtain ⟨t', rfl⟩ := hb
    obtain ⟨h1, p⟩ := gd_iff.mp p
    simp only [Bool.and_eq_true, small, decide_eq_true_eq] at h1
    exact lshift_int_small h1.1.1 (by omega) (by omega) (PostE.here hH ⟨_, rfl⟩ p _)
  · obtain ⟨o, e1, p⟩ := lat_of p
    obtain ⟨o', e2, p⟩ := lat_of p
    obtain ⟨h1, p⟩ := gd_iff.mp p
    simp only [Bool.and_eq_true] at h1
    obtain ⟨hs, p⟩ := gd_iff.mp p
    obtain ⟨a1, vs, rfl, r1, i1, v1, w1, p1, l1⟩ := hH.list e1 ha
    obtain ⟨a2, us, rfl, r2, i2, v2, w2, p2, l2⟩ := hH.list e2 hb
    obtain ⟨n1, q1⟩ := p1 h1.1
    obtain ⟨n2, q2⟩ := p2 h1.2
    refine PySem.P.add_list q1 q2 ?_ (by simp only [List.size_toArray, sizeLine_eq]; omega)
    have := PostE.newList (n := 0) (P := P) hH (v1.append v2) (by simpa using Nat.le_of_ble_eq_true hs) p s.toks
    simpa using this
  · obtain ⟨o, e1, p⟩ := lat_of p
    obtain ⟨h1, p⟩ := gd_iff.mp p
    simp only [Bool.and_eq_true, decide_eq_true_eq] at h1
    obtain ⟨hs, p⟩ := gd_iff.mp p
    obtain ⟨t', rfl⟩ := hb
    obtain ⟨a1, vs, rfl, r1, i1, v1, w1, p1, l1⟩ := hH.list e1 ha
    obtain ⟨n1, q1⟩ := p1 h1.1.1.1
    have hl1 : vs.length ≤ 1 := by have := Nat.le_of_ble_eq_true h1.2; rw [v1.length] at this; exact this
    refine list_times q1 h1.1.1.2 h1.1.2 (by simpa using hl1) ?_
    rw [listMul_foldl_if]
    have := PostE.newList (n := 0) (P := P) hH (ValL.rep v1 _) (by simpa using Nat.le_of_ble_eq_true hs) p s.toks
    simpa using this
  · exact p.elim
theorem wp_cmp {op : CmpOp} {a b : AV} {u v : Value} {P : Bool → Prop} {Q : Value → Shared → Prop} (hu : A.units + 200 < cLine) (hH : AtH c.hb ρ H s.heap) (ha : Val ρ a u) (hb : Val ρ b v) (p : cmpA op a b H P) (k : ∀ r : Bool, P r → Q (.bool r) s) :
    wpAny (model c.prog c.w) A (compareOp op u v) Q E s := by
  unfold cmpA at p
  split at p
  · obtain ⟨t, rfl⟩ := ha; obtain ⟨t', rfl⟩ := hb
    exact PyProof.Rows.eq_int (k _ p)
  · obtain ⟨t, rfl⟩ := ha; obtain ⟨t', rfl⟩ := hb
    exact PyProof.Rows.ne_int (k _ p)
  · obtain ⟨t, rfl⟩ := ha; obtain ⟨t', rfl⟩ := hb
    exact PyProof.Rows.lt_int (k _ p)
  · obtain ⟨t, rfl⟩ := ha; obtain ⟨t', rfl⟩ := hb
    exact PyProof.Rows.gt_int (k _ p)
  · obtain ⟨h1, t, rfl⟩ := ha; obtain ⟨h2, t', rfl⟩ := hb
    exact PyProof.Rows.eq_str (by rw [symS_inj _ h1 _ h2]; exact k _ p)
  · have hb' : v = .none := hb
    subst hb'
    cases a with
    | none => have ha' : u = .none := ha; subst ha'; exact wpAny_is_self rfl (k _ p)
    | bool x => have ha' : u = .bool x := ha; subst ha'; exact is_bool_none (k _ p)
    | int i => obtain ⟨t, rfl⟩ := ha; exact is_int_none (k _ p)
    | sym n => obtain ⟨_, t, rfl⟩ := ha; exact is_str_none (k _ p)
    | ref i => obtain ⟨x, _, rfl⟩ := ha; exact is_ref_none (k _ p)
    | fn f => have ha' : u = .ref f := ha; subst ha'; exact is_ref_none (k _ p)
  · obtain ⟨o, e1, p⟩ := lat_of p
    obtain ⟨o', e2, p⟩ := lat_of p
    obtain ⟨h1, p⟩ := gd_iff.mp p
    simp only [Bool.and_eq_true] at h1
    obtain ⟨a1, vs, rfl, r1, i1, v1, _⟩ := hH.list e1 ha
    obtain ⟨a2, us, rfl, r2, i2, v2, _⟩ := hH.list e2 hb
    refine SeqAt.compareEq_shaped (reads_newData i1 (v1.carried h1.1)) (reads_newData i2 (v2.carried h1.2)) (shaped_flat v1.syms) (shaped_flat v2.syms) (by omega) ?_
    rw [PyData.eqv, eqvAll_flat h1.1 h1.2 v1.syms v2.syms]
    exact k _ p
  · obtain ⟨o, e1, p⟩ := lat_of p
    obtain ⟨o', e2, p⟩ := lat_of p
    obtain ⟨h1, p⟩ := gd_iff.mp p
    simp only [Bool.and_eq_true] at h1
    obtain ⟨a1, vs, rfl, r1, i1, v1, _⟩ := hH.list e1 ha
    obtain ⟨a2, us, rfl, r2, i2, v2, _⟩ := hH.list e2 hb
    refine SeqAt.compareNe_shaped (reads_newData i1 (v1.carried h1.1)) (reads_newData i2 (v2.carried h1.2)) (shaped_flat v1.syms) (shaped_flat v2.syms) (by omega) ?_
    rw [PyData.eqv, eqvAll_flat h1.1 h1.2 v1.syms v2.syms]
    exact k _ p
  · rename_i n j
    obtain ⟨o, e1, p⟩ := lat_of p
    obtain ⟨h1, p⟩ := gd_iff.mp p
    obtain ⟨hn, t, rfl⟩ := ha
    obtain ⟨a2, us, rfl, r2, i2, v2, _⟩ := hH.list e1 hb
    refine SeqAt.in_list_reads (reads_newData i2 (v2.carried h1)) (Reads.str _ _) (canLay_flat v2.syms) (symS_ok n hn) (by rw [depth_flat]; omega) ?_
    have : (List.map toPy o.xs).any (fun y => PyData.eqv y (.str (symS n))) = o.xs.any fun y => avEq y (.sym n) := by
      rw [List.any_map]
      have hs := v2.syms
      clear p v2 i2 e1
      generalize o.xs = zs at h1 hs ⊢
      induction zs with
      | nil => rfl
      | cons z zs ih =>
        simp only [List.all_cons, Bool.and_eq_true] at h1
        rw [List.any_cons, List.any_cons, ih h1.2 fun m hm => hs m (List.mem_cons_of_mem _ hm)]
        congr 1
        exact eqv_flat (y := .sym n) h1.1 rfl (fun m e => hs m (e ▸ List.mem_cons_self)) (fun m e => by cases e; exact hn)
    rw [this]
    exact k _ p
  · exact p.elim
theorem wp_tru {a : AV} {u : Value} {P : Bool → Prop} {Q : Bool → Shared → Prop} (hH : AtH c.hb ρ H s.heap) (ha : Val ρ a u) (p : truA a H P) (k : ∀ (r : Bool) (tk : Nat), P r → Q r { s with toks := tk }) :
    wpAny (model c.prog c.w) A (truthy u) Q E s := by
  unfold truA at p
  split at p
  · obtain ⟨t, rfl⟩ := ha; exact PySem.P.truthy_int (k _ s.toks p)
  · have ha' : u = .bool _ := ha
    subst ha'; exact wpAny_truthy_bool (k _ s.toks p)
  · have ha' : u = .none := ha
    subst ha'; exact truthy_none (k _ s.toks p)
  · obtain ⟨o, e1, p⟩ := lat_of p
    obtain ⟨a1, vs, rfl, r1, i1, v1, _, _, l1⟩ := hH.list e1 ha
    refine wpAny_truthy_list i1 (fitInt l1) ?_
    have : (!vs.toArray.isEmpty) = !o.xs.isEmpty := by
      have := v1.length
      cases hx : o.xs <;> cases hv : vs <;> simp_all
    rw [this]
    exact k _ _ p
  · exact p.elim
end
/-! ## rules -/
section
variable {c : Cx} {d : Nat} {env : Env} {loc : Loc} {H : AH}
theorem AOk.room {A : Around} (h : AOk d A) : A.units + 200 < cLine := by have := h.un; show A.units + 200 < 9900; omega
theorem VE_bin {l r : Expr} {op : Operator} {pos : Pos} {P : AV → AH → Prop} (h : VE c d env l loc H fun a H1 => VE c d env r loc H1 fun b H2 => binA op a b H2 P) : VE c d env (.BinOp l op r pos) loc H P := by
  intro A hA s ρ hH hF
  refine wpAny_BinOp (TR.seq h hA hH hF fun u h₁ tk₁ ρ₁ H₁ a at1 f1 x1 r1 p1 => ?_)
  refine TR.seq p1 hA at1 f1 fun v h₂ tk₂ ρ₂ H₂ b at2 f2 x2 r2 p2 => ?_
  refine wpAny_mono (wp_bin (s := { s with heap := h₂, toks := tk₂ }) at2 (r1.mono x2.pre) r2 p2) (fun _ _ q => PostE.trans hH (Ext.trans hH x1 x2) q) fun _ _ e => e
theorem VT_cmp {l r : Expr} {op : CmpOp} {pos : Pos} {P : Bool → AH → Prop} (h : VE c d env l loc H fun a H1 => VE c d env r loc H1 fun b H2 => cmpA op a b H2 fun q => P q H2) (hm : behindInMarks op r = false) : VT c d env (.Compare l [op] [r] pos) loc H P := by
  intro A hA s ρ hH hF
  refine wpAny_isTrue_Compare1 (TR.seq h hA hH hF fun u h₁ tk₁ ρ₁ H₁ a at1 f1 x1 r1 p1 => ?_) hm
  refine TR.seq p1 hA at1 f1 fun v h₂ tk₂ ρ₂ H₂ b at2 f2 x2 r2 p2 => ?_
  refine wp_cmp (s := { s with heap := h₂, toks := tk₂ }) hA.room at2 (r1.mono x2.pre) r2 p2 fun q pq => wpAny_truthy_bool ?_
  exact PostE.trans hH (Ext.trans hH x1 x2) (PostE.here' at2 rfl pq)
theorem VT_not {x : Expr} {pos : Pos} {P : Bool → AH → Prop} (h : VT c d env x loc H fun b H1 => P (!b) H1) : VT c d env (.UnaryOp .Not x pos) loc H P := by
  intro A hA s ρ hH hF
  refine PyProof.Rows.isTrue_not (TR.seq h hA hH hF fun u h₁ tk₁ ρ₁ H₁ a at1 f1 x1 r1 p1 => ?_)
  cases r1
  exact ⟨_, _, _, _, _, rfl, at1, x1, rfl, p1⟩
/-- the truth of a value -/
theorem VT_tru {x : Expr} {P : Bool → AH → Prop} (h : VE c d env x loc H fun a H1 => truA a H1 fun b => P b H1) (he : isTrue x env (eval x env) = (do let v ← eval x env; standAt x.pos; holding [v] (truthy v))) : VT c d env x loc H P := by
  intro A hA s ρ hH hF
  refine PyProof.Rows.isTrue_plain (TR.seq h hA hH hF fun u h₁ tk₁ ρ₁ H₁ a at1 f1 x1 r1 p1 => ?_) he
  refine wp_tru (s := { s with heap := h₁, toks := tk₁ }) at1 r1 p1 fun r tk pr => ?_
  exact ⟨_, _, _, _, _, rfl, at1, x1, rfl, pr⟩
theorem VT_and_nil {pos : Pos} {P : Bool → AH → Prop} (p : P true H) : VT c d env (.BoolOp .And [] pos) loc H P :=
  fun _ _ _ _ hH _ => PyProof.Rows.isTrue_and_nil (PostE.here' hH rfl p)
theorem VT_or_nil {pos : Pos} {P : Bool → AH → Prop} (p : P false H) : VT c d env (.BoolOp .Or [] pos) loc H P :=
  fun _ _ _ _ hH _ => PyProof.Rows.isTrue_or_nil (PostE.here' hH rfl p)
theorem VT_and {x : Expr} {rest : List Expr} {pos : Pos} {P : Bool → AH → Prop} (h : VT c d env x loc H fun b H1 => if b = true then VT c d env (.BoolOp .And rest pos) loc H1 P else P false H1) : VT c d env (.BoolOp .And (x :: rest) pos) loc H P := by
  intro A hA s ρ hH hF
  refine PyProof.Rows.isTrue_and (TR.seq h hA hH hF fun u h₁ tk₁ ρ₁ H₁ a at1 f1 x1 r1 p1 => ?_)
  cases r1
  cases u with
  | true =>
    simp only [if_true] at p1 ⊢
    exact TR.seq p1 hA at1 f1 fun u h₂ tk₂ ρ₂ H₂ a at2 f2 x2 r2 p2 => ⟨_, _, _, _, _, rfl, at2, Ext.trans hH x1 x2, r2, p2⟩
  | false =>
    simp only [Bool.false_eq_true, if_false] at p1 ⊢
    exact ⟨_, _, _, _, _, rfl, at1, x1, rfl, p1⟩
theorem VT_or {x : Expr} {rest : List Expr} {pos : Pos} {P : Bool → AH → Prop} (h : VT c d env x loc H fun b H1 => if b = true then P true H1 else VT c d env (.BoolOp .Or rest pos) loc H1 P) : VT c d env (.BoolOp .Or (x :: rest) pos) loc H P := by
  intro A hA s ρ hH hF
  refine PyProof.Rows.isTrue_or (TR.seq h hA hH hF fun u h₁ tk₁ ρ₁ H₁ a at1 f1 x1 r1 p1 => ?_)
  cases r1
  cases u with
  | true =>
    simp only [if_true] at p1 ⊢
    exact ⟨_, _, _, _, _, rfl, at1, x1, rfl, p1⟩
  | false =>
    simp only [Bool.false_eq_true, if_false] at p1 ⊢
    exact TR.seq p1 hA at1 f1 fun u h₂ tk₂ ρ₂ H₂ a at2 f2 x2 r2 p2 => ⟨_, _, _, _, _, rfl, at2, Ext.trans hH x1 x2, r2, p2⟩
/-- x or y, as a value -/
theorem VE_or {x y : Expr} {pos : Pos} {P : AV → AH → Prop} (h : VE c d env x loc H fun a H1 => truA a H1 fun b => if b = true then P a H1 else VE c d env y loc H1 P) : VE c d env (.BoolOp .Or [x, y] pos) loc H P := by
  intro A hA s ρ hH hF
  refine PyProof.Rows.BoolOp_or (TR.seq h hA hH hF fun u h₁ tk₁ ρ₁ H₁ a at1 f1 x1 r1 p1 => ?_)
  refine wp_tru (s := { s with heap := h₁, toks := tk₁ }) at1 r1 p1 fun r tk pr => ?_
  cases r with
  | true =>
    simp only [if_true] at pr ⊢
    exact ⟨_, _, _, _, _, rfl, at1, x1, r1, pr⟩
  | false =>
    simp only [Bool.false_eq_true, if_false] at pr ⊢
    exact PyProof.Rows.BoolOp_one (TR.seq (s := { s with heap := h₁, toks := tk }) pr hA at1 f1 fun u h₂ tk₂ ρ₂ H₂ a at2 f2 x2 r2 p2 => ⟨_, _, _, _, _, rfl, at2, Ext.trans hH x1 x2, r2, p2⟩)
end
end Mine
namespace Mine
/-! ## lists: index, slices, displays -/
noncomputable def idxA (o : AO) (k : Int) (P : AV → Prop) : Prop :=
  match decide (0 ≤ k) with
  | true => (match o.xs[k.toNat]? with | some v => gd (decide (k < 5001)) (P v) | none => False)
  | false => (match decide (-(o.xs.length : Int) ≤ k) with | true => (match o.xs[(k + o.xs.length).toNat]? with | some v => P v | none => False) | false => False)
noncomputable def clipL (n : Nat) (i : Int) : Nat := (max 0 (min (if i < 0 then i + n else i) n)).toNat
noncomputable def cutL (xs : List AV) (lo hi : Option Int) : List AV := (xs.drop (lo.elim 0 (clipL xs.length))).take (hi.elim xs.length (clipL xs.length) - lo.elim 0 (clipL xs.length))
noncomputable def partA : AV → Option (Option Int)
  | .none => some none
  | .int i => some (some i)
  | _ => none
section
variable {c : Cx} {d : Nat} {env : Env} {loc : Loc} {H : AH}
theorem wp_idx {A : Around} {s : Shared} {ρ : List Addr} {E : Value → Shared → Prop} {i : Nat} {k : Int} {u v : Value} {P : AV → Prop} {Q : Value → Shared → Prop} (hH : AtH c.hb ρ H s.heap) (hu : Val ρ (.ref i) u) (hv : Val ρ (.int k) v)
    (p : lat H i fun o => idxA o k P) (q : ∀ x r, Val ρ x r → P x → Q r s) : wpAny (model c.prog c.w) A (getItem u v) Q E s := by
  obtain ⟨o, e1, p⟩ := lat_of p
  obtain ⟨b, vs, rfl, r1, i1, v1, _, _, l1⟩ := hH.list e1 hu
  obtain ⟨t, rfl⟩ := hv
  unfold idxA at p
  split at p
  · rename_i h0
    simp only [decide_eq_true_eq] at h0
    split at p
    · rename_i x hx
      obtain ⟨h1, p⟩ := gd_iff.mp p
      simp only [decide_eq_true_eq] at h1
      obtain ⟨r, hr, hvr⟩ := v1.get hx
      exact wpAny_getItem_list i1 h0 (by omega) (by simpa using hr) (q x r hvr p)
    · exact p.elim
  · rename_i h0
    simp only [decide_eq_false_iff_not, Int.not_le] at h0
    split at p
    · rename_i h1
      simp only [decide_eq_true_eq] at h1
      split at p
      · rename_i x hx
        obtain ⟨r, hr, hvr⟩ := v1.get hx
        have hl := v1.length
        refine wpAny_getItem_list_neg i1 h0 (by rw [List.size_toArray, ← hl]; exact h1) (by omega) (x := r) ?_ (q x r hvr p)
        rw [List.size_toArray, ← hl]; simpa using hr
      · exact p.elim
    · exact p.elim
theorem VE_idx {l i : Expr} {pos : Pos} {P : AV → AH → Prop} (h : VE c d env l loc H fun a H1 => VE c d env i loc H1 fun b H2 => match a, b with | .ref j, .int k => lat H2 j fun o => idxA o k fun v => P v H2 | _, _ => False)
    (hs : ∀ o v, subscripted i false o v = operate [o, v] (getItem o v)) : VE c d env (.Subscript l i pos) loc H P := by
  intro A hA s ρ hH hF
  refine Subscript_ (TR.seq h hA hH hF fun u h₁ tk₁ ρ₁ H₁ a at1 f1 x1 r1 p1 => ?_)
  refine TR.seq p1 hA at1 f1 fun v h₂ tk₂ ρ₂ H₂ b at2 f2 x2 r2 p2 => ?_
  split at p2
  · rename_i j k
    obtain ⟨o, e1, _⟩ := lat_of p2
    obtain ⟨bb, vs, rfl, _, i1, _⟩ := at2.list e1 (r1.mono x2.pre)
    refine tail_any (Heap.IsList.typeIs (s := { s with heap := h₂, toks := tk₂ }) i1) slot_list_getitem.lookup ?_ (hs _ _)
    refine wp_idx (s := { s with heap := h₂, toks := tk₂ }) at2 (r1.mono x2.pre) r2 p2 fun x r hx px => ?_
    exact PostE.trans hH (Ext.trans hH x1 x2) (PostE.here' at2 hx px)
  · exact p2.elim
theorem isPart_of {ρ : List Addr} {a : AV} {v : Value} {lo : Option Int} (hv : Val ρ a v) (e : partA a = some lo) : IsPart v lo := by
  cases a with
  | none => have hv' : v = .none := hv; subst hv'; cases e; exact .none
  | int i => obtain ⟨t, rfl⟩ := hv; cases e; exact .int _ _
  | _ => cases e
theorem cutL_is {ρ : List Addr} {xs : List AV} {vs : List Value} (h : ValL ρ xs vs) (lo hi : Option Int) : ValL ρ (cutL xs lo hi) (slicePick vs.toArray lo hi none).toList := by
  rw [slicePick_plain]
  have hl := h.length
  simp only [List.size_toArray, ← hl]
  exact (h.drop _).take _
theorem cutL_len (xs : List AV) (lo hi : Option Int) : (cutL xs lo hi).length ≤ xs.length := by
  unfold cutL; simp only [List.length_take, List.length_drop]; omega
/-- l[lo:hi]: the bounds as trees -/
theorem VE_slc {l : Expr} {lo hi : Option Expr} {p pos : Pos} {P : AV → AH → Prop}
    (h : VE c d env l loc H fun a H1 => TR c d env loc H1 (evalPart lo env) Val fun b H2 => TR c d env loc H2 (evalPart hi env) Val fun e H3 =>
      match a, partA b, partA e with | .ref j, some lo', some hi' => lat H3 j fun o => newL H3 (cutL o.xs lo' hi') P | _, _, _ => False)
    (ht : ∀ o r, letTemporaryGo l o r = pure ()) : VE c d env (.Subscript l (.Slice lo hi none p) pos) loc H P := by
  intro A hA s ρ hH hF
  refine wpAny_Subscript_list_slice (TR.seq h hA hH hF fun u h₁ tk₁ ρ₁ H₁ a at1 f1 x1 r1 p1 => ?_) ht
  refine TR.seq p1 hA at1 f1 fun v h₂ tk₂ ρ₂ H₂ b at2 f2 x2 r2 p2 => ?_
  refine TR.seq p2 hA at2 f2 fun v' h₃ tk₃ ρ₃ H₃ e at3 f3 x3 r3 p3 => ?_
  split at p3
  · rename_i j lo' hi' eb ee
    obtain ⟨o, e1, p3⟩ := lat_of p3
    obtain ⟨bb, vs, rfl, _, i1, v1, _, _, l1⟩ := at3.list e1 (r1.mono (x2.pre.trans x3.pre))
    obtain ⟨hs, p3⟩ := gd_iff.mp p3
    refine ⟨bb, vs.toArray, lo', hi', rfl, i1, fit5000 l1, isPart_of (r2.mono x3.pre) eb, isPart_of r3 ee, ?_⟩
    have hx := Ext.trans hH x1 (Ext.trans at1 x2 x3)
    obtain ⟨a4, x4⟩ := at3.other (h' := h₃.push { cls := .type "slice", data := .fields #[v, v', .none] }) fun _ _ e => Heap.get?_push_of_some _ e
    have := PostE.newList (c := c) (n := 0) (P := P) (s := { s with heap := h₃.push { cls := .type "slice", data := .fields #[v, v', .none] }, toks := tk₃ }) a4 (cutL_is v1 lo' hi') (Nat.le_of_ble_eq_true hs) p3 tk₃
    have q := PostE.trans hH (Ext.trans hH hx x4) this
    simpa [Heap.size_push] using q
  · exact p3.elim
theorem TR_noPart {P : AV → AH → Prop} (p : P .none H) : TR c d env loc H (evalPart none env) Val P := by
  rw [evalPart_none]; exact TR.pure (b := AV.none) (fun _ => rfl) p
theorem TR_part {e : Expr} {P : AV → AH → Prop} (h : VE c d env e loc H P) : TR c d env loc H (evalPart (some e) env) Val P := h
/-! arguments in a row -/
noncomputable def noStar : List Expr → Bool
  | [] => true
  | .Starred .. :: _ => false
  | _ :: r => noStar r
theorem starEach_plain : ∀ {es : List Expr}, noStar es = true → ∀ pos, backTo pos (starEach es env) = es.map fun e => (false, eval e env)
  | [], _, _ => rfl
  | e :: r, h, pos => by
    have hr : noStar r = true := by cases e <;> first | exact h | cases h
    have hs : starEach (e :: r) env = (false, eval e env) :: starEach r env := by cases e <;> first | rfl | cases h
    rw [hs]
    show (false, _) :: backTo pos (starEach r env) = _
    rw [starEach_plain hr pos]; rfl
noncomputable abbrev VEs (c : Cx) (d : Nat) (env : Env) (es : List Expr) (loc : Loc) (H : AH) (P : List AV → AH → Prop) : Prop := TR c d env loc H (spliced (es.map fun e => (false, eval e env))) ValL P
theorem VEs_nil {P : List AV → AH → Prop} (p : P [] H) : VEs c d env [] loc H P := fun _ _ _ _ hH _ => Calls.spliced_nil (PostE.here' (b := []) hH trivial p)
theorem VEs_cons {e : Expr} {r : List Expr} {P : List AV → AH → Prop} (h : VE c d env e loc H fun a H1 => VEs c d env r loc H1 fun as H2 => P (a :: as) H2) : VEs c d env (e :: r) loc H P := by
  intro A hA s ρ hH hF
  refine Calls.spliced_cons (TR.seq h hA hH hF fun u h₁ tk₁ ρ₁ H₁ a at1 f1 x1 r1 p1 => ?_)
  refine TR.seq p1 hA at1 f1 fun v h₂ tk₂ ρ₂ H₂ b at2 f2 x2 r2 p2 => ?_
  exact ⟨h₂, tk₂, ρ₂, H₂, a :: b, rfl, at2, Ext.trans hH x1 x2, ⟨r1.mono x2.pre, r2⟩, p2⟩
theorem VE_list {es : List Expr} {pos : Pos} {P : AV → AH → Prop} (hn : noStar es = true) (h : VEs c d env es loc H fun as H1 => newL H1 as P) : VE c d env (.List es pos) loc H P := by
  intro A hA s ρ hH hF
  refine List_ ?_
  rw [starEach_plain hn]
  refine TR.seq h hA hH hF fun vs h₁ tk₁ ρ₁ H₁ as at1 f1 x1 r1 p1 => ?_
  obtain ⟨hs, p1⟩ := gd_iff.mp p1
  refine wpAny_newObj_type ?_ (by show vs.toArray.size ≤ sizeLine; rw [List.size_toArray, ← r1.length, sizeLine_eq]; have := Nat.le_of_ble_eq_true hs; omega)
  exact PostE.trans hH x1 (PostE.newList (c := c) (s := { s with heap := h₁, toks := tk₁ }) (n := 0) at1 r1 (Nat.le_of_ble_eq_true hs) p1 tk₁)
/-! ## calls -/
/-- a call of a value with these arguments -/
noncomputable def CB (c : Cx) (d : Nat) (f : Value) (as : List AV) (H : AH) (P : AV → AH → Prop) : Prop :=
  ∀ A, AOk d A → ∀ s ρ vals, AtH c.hb ρ H s.heap → ValL ρ as vals → wpAny (model c.prog c.w) A (call f vals) (PostE c s ρ H Val P) (fun _ _ => False) s
/-- a built-in by its name -/
structure BName (c : Cx) (env : Env) (id : Str) (u : Value) : Prop where
  hk : env.kindOf id = some .globalImplicit
  hd : (id == ("__debug__" : Str)) = false
  hg : c.mg id = Option.none
  hn : id ≠ ("__name__" : Str)
  hv : bootBuiltins id = some u
theorem any_false (es : List Expr) : ((es.map fun e => (false, eval e env)).any (·.1)) = false := by
  induction es with
  | nil => rfl
  | cons e r ih => simp [ih]
theorem VE_callB (ok : CxOk c) {id : Str} {bid : String} {e : Expr} {es : List Expr} {p pos : Pos} {P : AV → AH → Prop} (hb : BName c env id (.builtin bid)) (hn : noStar (e :: es) = true)
    (h : VEs c d env (e :: es) loc H fun as H1 => CB c d (.builtin bid) as H1 P) : VE c d env (.Call (.Name id p) (e :: es) [] pos) loc H P := by
  intro A hA s ρ hH hF
  refine wpAny_Call_NameR (TR.seq (TR_builtin ok (P := fun _ H' => H' = H) hb.hk hb.hd hb.hg hb.hn hb.hv rfl) hA hH hF fun u h₀ tk₀ ρ₀ H₀ _ at0 f0 x0 r0 p0 => ?_)
  subst r0 p0
  rw [starEach_plain hn]
  refine Calls.callWith_builtin (any_false _) (Calls.evalArgs_plain ?_)
  refine TR.seq h hA at0 f0 fun vs h₁ tk₁ ρ₁ H₁ as at1 f1 x1 r1 p1 => ?_
  refine wpAny_mono (p1 A hA { s with heap := h₁, toks := tk₁ } ρ₁ vs at1 r1) (fun _ _ q => PostE.trans hH (Ext.trans hH x0 x1) q) fun _ _ e => e.elim
theorem CB_len {i : Nat} {P : AV → AH → Prop} (p : lat H i fun o => P (.int o.xs.length) H) : CB c d (.builtin "len") [.ref i] H P := by
  intro A hA s ρ vals hH hv
  match vals, hv with
  | [v], hv =>
    obtain ⟨o, e1, p⟩ := lat_of p
    obtain ⟨b, vs, rfl, _, i1, v1, _, _, l1⟩ := hH.list e1 hv.1
    refine Calls.call_len_list i1 (fitInt l1) ?_
    rw [List.size_toArray, ← v1.length]
    exact PostE.here hH ⟨_, rfl⟩ p _
theorem CB_min {a b : Int} {P : AV → AH → Prop} (p : P (.int (if b < a then b else a)) H) : CB c d (.builtin "min") [.int a, .int b] H P := by
  intro A hA s ρ vals hH hv
  match vals, hv with
  | [_, _], ⟨⟨t, rfl⟩, ⟨t', rfl⟩, _⟩ =>
    refine min_two_ints hA.han fun h' tk kp => ?_
    obtain ⟨a1, x1⟩ := hH.other kp
    refine ⟨h', tk, ρ, H, _, rfl, a1, x1, ?_, p⟩
    split
    · exact ⟨_, rfl⟩
    · exact ⟨_, rfl⟩
noncomputable def hexA : Int → Option Nat
  | 1 => some 8
  | 2 => some 9
  | 4 => some 10
  | 8 => some 11
  | _ => none
theorem hexA_is {i : Int} {n : Nat} (h : hexA i = some n) : baseText "0x" 16 i = symS n ∧ n < 24 := by
  unfold hexA at h
  split at h <;> first | (cases h; exact ⟨by decide +kernel, by decide⟩) | cases h
theorem CB_hex {i : Int} {n : Nat} {P : AV → AH → Prop} (e : hexA i = some n) (p : P (.sym n) H) : CB c d (.builtin "hex") [.int i] H P := by
  intro A hA s ρ vals hH hv
  match vals, hv with
  | [_], ⟨⟨t, rfl⟩, _⟩ =>
    obtain ⟨h1, h2⟩ := hexA_is e
    refine PySem.P.hex_of_int ?_ (by rw [h1, sizeLine_eq]; have := symS_len n h2; omega)
    rw [h1]
    exact PostE.here hH ⟨h2, _, rfl⟩ p _
end
end Mine
namespace Mine
/-! ## methods -/
section
variable {c : Cx} {d : Nat} {env : Env} {loc : Loc} {H : AH}
noncomputable def GM (c : Cx) (name : Str) (id : String) (a : AV) (H : AH) : Prop :=
  ∀ (A : Around) (s : Shared) (ρ : List Addr) (ov : Value) (pl : Sem Bool) (Q : Value × List Value → Shared → Prop) (E : Value → Shared → Prop), AtH c.hb ρ H s.heap → Val ρ a ov → Q (.builtin id, [ov]) s → wpAny (model c.prog c.w) A (getMethod ov name pl) Q E s
theorem all_plain (es : List Expr) : ((es.map fun e => (false, eval e env)).all fun x => !x.1) = true := by
  induction es with
  | nil => rfl
  | cons e r ih => simp [ih]
theorem meth_tree {o : Expr} {name : Str} {apos pos : Pos} {es : List Expr} (hn : noStar es = true) (hl : Nat.ble es.length 20 = true) (hp : (apos.endLine == pos.line) = true) (hb : ∀ t, attributeBase o name env t = t) :
    eval (.Call (.Attribute o name apos) es [] pos) env = (do
      let ov ← eval o env
      standAt apos.atName
      let (f, first) ← holding [ov] (getMethod ov name (do return (← importBound o env).getD true))
      callWith pos f first (backTo pos (starEach es env)) []) := by
  have e0 : eval (.Call (.Attribute o name apos) es [] pos) env = (do
      let ov ← attributeBase o name env (eval o env)
      standAt apos.atName
      methodCall o name apos pos env ov (es.length + 0) (backTo pos (starEach es env)) []) := rfl
  rw [e0, hb]
  have hform : methodCallForm (es.length + 0) (backTo pos (starEach es env)) [] = true := by
    rw [starEach_plain hn]
    have := Nat.le_of_ble_eq_true hl
    simp only [methodCallForm, all_plain, List.all_nil, Bool.and_true, Bool.true_and, List.isEmpty_nil, if_true, decide_eq_true_eq]
    omega
  congr 1
  funext ov
  congr 1
  funext _
  unfold methodCall
  rw [hform]
  unfold calleeOf methodCallPos
  simp only [hp, if_true, Bool.not_true, Bool.false_or]
  congr 1
theorem VE_meth {o : Expr} {name : Str} {id : String} {apos pos : Pos} {es : List Expr} {P : AV → AH → Prop} (hn : noStar es = true) (hl : Nat.ble es.length 20 = true) (hp : (apos.endLine == pos.line) = true) (hb : ∀ t, attributeBase o name env t = t)
    (h : VE c d env o loc H fun a H1 => GM c name id a H1 ∧ VEs c d env es loc H1 fun as H2 => CB c d (.builtin id) (a :: as) H2 P) : VE c d env (.Call (.Attribute o name apos) es [] pos) loc H P := by
  intro A hA s ρ hH hF
  refine MethodCall_ (TR.seq h hA hH hF fun ov h₁ tk₁ ρ₁ H₁ a at1 f1 x1 r1 p1 => ?_) (meth_tree hn hl hp hb)
  refine p1.1 A { s with heap := h₁, toks := tk₁ } ρ₁ ov _ _ _ at1 r1 ?_
  rw [starEach_plain hn]
  refine Calls.callWith_builtin (any_false _) ?_
  have fin : ∀ vs h₂ tk₂ ρ₂ H₂ as, AtH c.hb ρ₂ H₂ h₂ → AtF c.hb ρ₂ env loc h₂ → Ext NoX ρ₁ H₁ h₁ ρ₂ H₂ h₂ → ValL ρ₂ as vs → CB c d (.builtin id) (a :: as) H₂ P →
      wpAny (model c.prog c.w) A (call (.builtin id) ([ov] ++ vs)) (PostE c s ρ H Val P) (fun _ _ => False) { s with heap := h₂, toks := tk₂ } := fun vs h₂ tk₂ ρ₂ H₂ as at2 f2 x2 r2 p2 =>
    wpAny_mono (p2 A hA { s with heap := h₂, toks := tk₂ } ρ₂ (ov :: vs) at2 ⟨r1.mono x2.pre, r2⟩) (fun _ _ q => PostE.trans hH (Ext.trans hH x1 x2) q) fun _ _ e => e.elim
  cases es with
  | nil =>
    refine evalArgs_nil3 ?_
    have := TR.seq (Q := fun vs s₁ => wpAny (model c.prog c.w) A (call (.builtin id) ([ov] ++ vs)) (PostE c s ρ H Val P) (fun _ _ => False) s₁) (E := fun _ _ => False) (s := { s with heap := h₁, toks := tk₁ }) p1.2 hA at1 f1 fun vs h₂ tk₂ ρ₂ H₂ as at2 f2 x2 r2 p2 => fin vs h₂ tk₂ ρ₂ H₂ as at2 f2 x2 r2 p2
    exact fun Γ p hΓ => this Γ p hΓ Γ p hΓ
  | cons e es =>
    refine Calls.evalArgs_plain ?_
    exact TR.seq (s := { s with heap := h₁, toks := tk₁ }) p1.2 hA at1 f1 fun vs h₂ tk₂ ρ₂ H₂ as at2 f2 x2 r2 p2 => fin vs h₂ tk₂ ρ₂ H₂ as at2 f2 x2 r2 p2
/-! lists -/
theorem GM_list {name : Str} {id : String} {i : Nat} (slot : Slot "list" name id) (hty : typeOf (.builtin id) = pure (.type "method_descriptor")) (h : lat H i fun o => o.p = true) : GM c name id (.ref i) H := by
  intro A s ρ ov pl Q E hH hv hq
  obtain ⟨o, e1, p⟩ := lat_of h
  obtain ⟨b, vs, rfl, _, i1, _, _, pl1, _⟩ := hH.list e1 hv
  obtain ⟨n, ho⟩ := pl1 p
  exact getMethod_list_of slot hty i1 ⟨_, ho, rfl⟩ hq
theorem CB_append {i : Nat} {v : AV} {P : AV → AH → Prop} (p : lat H i fun o => gd (o.w && o.p && Nat.ble o.xs.length 4999) (P .none (H.set i ⟨true, true, o.xs ++ [v]⟩))) : CB c d (.builtin "list.append") [.ref i, v] H P := by
  intro A hA s ρ vals hH hv
  match vals, hv with
  | [u, x], ⟨hu, hx, _⟩ =>
    obtain ⟨o, e1, p⟩ := lat_of p
    obtain ⟨h1, p⟩ := gd_iff.mp p
    simp only [Bool.and_eq_true] at h1
    obtain ⟨b, vs, rfl, r1, i1, v1, _, pl1, l1⟩ := hH.list e1 hu
    refine wpAny_list_append_plain (pl1 h1.1.2) (fun h' hl' sb => ?_) (fit5000 l1)
    have hl2 : h'.PlainList b (vs ++ [x]).toArray := by simpa using hl'
    have hlen := Nat.le_of_ble_eq_true h1.2
    obtain ⟨a2, x2⟩ := hH.upd (p := true) e1 r1 h1.1.1 (v1.append (ys := [v]) (us := [x]) ⟨hx, trivial⟩) (by simp; omega) hl2.isList (fun _ => hl2) sb.extBut
    exact ⟨h', s.toks, ρ, _, .none, rfl, a2, x2, rfl, p⟩
theorem CB_insert {i : Nat} {k : Int} {v : AV} {P : AV → AH → Prop} (p : lat H i fun o => gd (o.w && o.p && Nat.ble o.xs.length 4999 && decide (0 ≤ k) && decide (k ≤ o.xs.length)) (P .none (H.set i ⟨true, true, o.xs.take k.toNat ++ v :: o.xs.drop k.toNat⟩))) :
    CB c d (.builtin "list.insert") [.ref i, .int k, v] H P := by
  intro A hA s ρ vals hH hv
  match vals, hv with
  | [u, _, x], ⟨hu, ⟨t, rfl⟩, hx, _⟩ =>
    obtain ⟨o, e1, p⟩ := lat_of p
    obtain ⟨h1, p⟩ := gd_iff.mp p
    simp only [Bool.and_eq_true, decide_eq_true_eq] at h1
    obtain ⟨⟨⟨⟨hw, hp⟩, hlen⟩, hk0⟩, hk1⟩ := h1
    have hlen := Nat.le_of_ble_eq_true hlen
    obtain ⟨b, vs, rfl, r1, i1, v1, _, pl1, l1⟩ := hH.list e1 hu
    obtain ⟨n, ho⟩ := pl1 hp
    have hvl := v1.length
    refine call_meets F.slot_list_insert ⟨_, ho, rfl⟩ F.entry_list_insert (F.args_list_insert_3 _ _ _) (AutoListH.list_insert_list_int_val_1 b vs.toArray n k t x (by simp [Builtin.List.listFitsIndex]; omega) (fit5000 l1)) ⟨ho, ?_⟩
    have hl2 : (s.heap.update b (Obj.mapSeq fun xs => have k' := if k < 0 then (k + ((xs.size : Nat) : Int)).toNat else min k.toNat xs.size; (xs.extract 0 k').push x ++ xs.extract k')).PlainList b (vs.take k.toNat ++ x :: vs.drop k.toNat).toArray := by
      refine ⟨n + 1, ?_⟩
      rw [Heap.get?_update_self _ ho (by rfl)]
      have e : min k.toNat vs.length = k.toNat := by omega
      simp only [Obj.mapSeq, List.size_toArray, if_neg (Int.not_lt.mpr hk0), e]
      have hsz : ((vs.toArray.extract 0 k.toNat).push x ++ vs.toArray.extract k.toNat vs.length).size = vs.length + 1 := by simp; omega
      rw [hsz]
      have hne : (vs.length + 1 == vs.length) = false := by simp
      rw [hne]
      simp [List.take_of_length_le]
    obtain ⟨a2, x2⟩ := hH.upd (p := true) e1 r1 hw ((v1.take k.toNat).append (ys := v :: o.xs.drop k.toNat) (us := x :: vs.drop k.toNat) ⟨hx, v1.drop _⟩) (by simp; omega) hl2.isList (fun _ => hl2) (Heap.SameBut.update ..).extBut
    exact ⟨_, s.toks, ρ, _, .none, rfl, a2, x2, rfl, p⟩
/-! texts -/
noncomputable def joinT : List (List AV × Nat) := [([.sym 0], 0), ([.sym 1], 1), ([.sym 2], 2), ([.sym 3], 3), ([.sym 0, .sym 1], 12), ([.sym 0, .sym 2], 13), ([.sym 1, .sym 2], 14), ([.sym 0, .sym 1, .sym 2], 15), ([.sym 0, .sym 3], 16), ([.sym 1, .sym 3], 17),
  ([.sym 0, .sym 1, .sym 3], 18), ([.sym 2, .sym 3], 19), ([.sym 0, .sym 2, .sym 3], 20), ([.sym 1, .sym 2, .sym 3], 21), ([.sym 0, .sym 1, .sym 2, .sym 3], 22)]
noncomputable def joinA (xs : List AV) : Option Nat := (joinT.find? fun p => avsEq p.1 xs).map (·.2)
noncomputable def splitA (n : Nat) : Option (List AV) := (joinT.find? fun p => Nat.beq p.2 n).map (·.1)
noncomputable def symN : AV → Nat
  | .sym n => n
  | _ => 0
theorem GM_join {n : Nat} : GM c "join" "str.join" (.sym n) H := by
  intro A s ρ ov pl Q E hH hv hq
  obtain ⟨_, t, rfl⟩ := hv
  with_reducible exact PySem.GM.join hq
theorem GM_split {n : Nat} : GM c "split" "str.split" (.sym n) H := by
  intro A s ρ ov pl Q E hH hv hq
  obtain ⟨_, t, rfl⟩ := hv
  with_reducible exact PySem.GM.split hq
theorem GM_lower {n : Nat} : GM c "lower" "str.lower" (.sym n) H := by
  intro A s ρ ov pl Q E hH hv hq
  obtain ⟨_, t, rfl⟩ := hv
  with_reducible exact PySem.GM.lower hq
theorem joinT_ok : ∀ p ∈ joinT, p.1.all flatA = true ∧ (p.1.all fun x => match x with | .sym n => decide (n < 4) | _ => false) = true ∧ p.2 < 24 ∧ JoinOk (symS 23) (p.1.map fun x => symS (symN x)) = true ∧ Txt.join (symS 23) (p.1.map fun x => symS (symN x)) = symS p.2 := by decide +kernel
theorem ValL.strs {ρ : List Addr} : ∀ {xs : List AV} {vs : List Value}, ValL ρ xs vs → (xs.all fun x => match x with | .sym n => decide (n < 4) | _ => false) = true → ∃ l : List (Str × Tok), strValues l = vs ∧ l.map (·.1) = xs.map fun x => symS (symN x)
  | [], [], _, _ => ⟨[], rfl, rfl⟩
  | x :: xs, v :: vs, h, hf => by
    simp only [List.all_cons, Bool.and_eq_true] at hf
    obtain ⟨l, h1, h2⟩ := ValL.strs h.2 hf.2
    cases x with
    | sym n =>
      obtain ⟨_, t, rfl⟩ := h.1
      exact ⟨(symS n, t) :: l, by rw [← h1]; rfl, by simp [h2, symN]⟩
    | _ => simp at hf
theorem avsEq_sym : ∀ {xs ys : List AV}, avsEq xs ys = true → (xs.all fun x => match x with | .sym n => decide (n < 4) | _ => false) = true → xs = ys
  | [], [], _, _ => rfl
  | x :: xs, y :: ys, h, hf => by
    simp only [avsEq, Bool.and_eq_true] at h
    simp only [List.all_cons, Bool.and_eq_true] at hf
    rw [avsEq_sym h.2 hf.2]
    cases x with
    | sym n =>
      cases y with
      | sym m => simp only [avEq] at h; rw [Nat.eq_of_beq_eq_true h.1]
      | _ => simp [avEq] at h
    | _ => simp at hf
  | [], _ :: _, h, _ => by simp [avsEq] at h
  | _ :: _, [], h, _ => by simp [avsEq] at h
theorem CB_join {i m : Nat} {P : AV → AH → Prop} (p : lat H i fun o => joinA o.xs = some m ∧ P (.sym m) H) : CB c d (.builtin "str.join") [.sym 23, .ref i] H P := by
  intro A hA s ρ vals hH hv
  match vals, hv with
  | [_, u], ⟨⟨_, t, rfl⟩, hu, _⟩ =>
    obtain ⟨o, e1, hm, p⟩ := lat_of p
    obtain ⟨b, vs, rfl, _, i1, v1, _⟩ := hH.list e1 hu
    unfold joinA at hm
    cases hq : joinT.find? fun p => avsEq p.1 o.xs with
    | none => rw [hq] at hm; cases hm
    | some q =>
      rw [hq] at hm
      have hm' : q.2 = m := by simpa using hm
      subst hm'
      obtain ⟨g1, g2, g3, g4, g5⟩ := joinT_ok q (List.mem_of_find?_eq_some hq)
      have hq' : avsEq q.1 o.xs = true := by simpa using List.find?_some (p := fun p : List AV × Nat => avsEq p.1 o.xs) hq
      have hxs := avsEq_sym hq' g2
      rw [← hxs] at v1
      obtain ⟨l, hl1, hl2⟩ := v1.strs g2
      subst hl1
      refine SC.join i1 hl2 g4 fun t' k => ?_
      rw [g5]
      exact PostE.here hH ⟨g3, _, rfl⟩ p _
noncomputable def sepS : Str := symS 23
theorem strsFrom_val {ρ : List Addr} : ∀ (ns : List Nat) (t : Nat), (∀ n ∈ ns, n < 24) → ValL ρ (ns.map AV.sym) (strsFrom t (ns.map symS))
  | [], _, _ => trivial
  | n :: r, t, h => ⟨⟨h n List.mem_cons_self, t, rfl⟩, strsFrom_val r (t + 1) fun m hm => h m (List.mem_cons_of_mem _ hm)⟩
/-- the fifteen texts, cut at their commas -/
theorem splitT_ok : ∀ p ∈ joinT, p.2 < 24 ∧ p.1.length ≤ 4 ∧ (decide ((symS p.2).length < (symS 23).length) || decide (Builtin.Str.strKind (symS p.2) < Builtin.Str.strKind (symS 23))) = false ∧
    p.1 = (p.1.map symN).map AV.sym ∧ (∀ n ∈ p.1.map symN, n < 24) ∧
    (((Builtin.Str.occurrences (symS p.2) (symS 23) 0 (symS p.2).length ((symS p.2).length + 1)).isEmpty = true ∧ p.1 = [.sym p.2]) ∨
     ((Builtin.Str.occurrences (symS p.2) (symS 23) 0 (symS p.2).length ((symS p.2).length + 1)).isEmpty = false ∧
       Builtin.Str.partsBetween (symS p.2) (Builtin.Str.occurrences (symS p.2) (symS 23) 0 (symS p.2).length ((symS p.2).length + 1)) (symS 23).length = (p.1.map symN).map symS)) := by decide +kernel
theorem sep_len : ((symS 23).length == 0) = false := by decide +kernel
theorem CB_split {n : Nat} {P : AV → AH → Prop} (p : match splitA n with | some xs => newL H xs P | none => False) : CB c d (.builtin "str.split") [.sym n, .sym 23] H P := by
  intro A hA s ρ vals hH hv
  match vals, hv with
  | [_, _], ⟨⟨hn, t, rfl⟩, ⟨_, u, rfl⟩, _⟩ =>
    unfold splitA at p
    cases hq : joinT.find? fun p => Nat.beq p.2 n with
    | none => rw [hq] at p; exact p.elim
    | some q =>
      rw [hq] at p
      have hq' : Nat.beq q.2 n = true := by simpa using List.find?_some (p := fun p : List AV × Nat => Nat.beq p.2 n) hq
      have hn2 : q.2 = n := Nat.eq_of_beq_eq_true hq'
      subst hn2
      obtain ⟨g1, g2, g3, g4, g5, g6⟩ := splitT_ok q (List.mem_of_find?_eq_some hq)
      obtain ⟨hs, p⟩ := gd_iff.mp p
      have hlen := symS_len q.2 hn
      rcases g6 with ⟨g6, g7⟩ | ⟨g6, g7⟩
      · refine call_meets F.slot_str_split (typeIs_str _ _ _) F.entry_str_split (F.args_str_split_2 _ _) (meets_str_split_not_found (symS q.2) (symS 23) t u g3 sep_len g6) ?_
        have := PostE.newList (c := c) (P := P) (s := s) (n := 0) hH (xs := q.1) (vs := [.str (symS q.2) t]) (by rw [g7]; exact ⟨⟨hn, t, rfl⟩, trivial⟩) (Nat.le_of_ble_eq_true hs) p s.toks
        exact this
      · refine call_meets F.slot_str_split (typeIs_str _ _ _) F.entry_str_split (F.args_str_split_2 _ _) (meets_str_split_sep (symS q.2) (symS 23) t u g3 sep_len g6 (by rw [sizeLine_eq]; omega) (by rw [g7, sizeLine_eq]; simp; omega)) ?_
        rw [g7]
        exact PostE.newList (c := c) (P := P) (s := s) (n := 0) hH (xs := q.1) (by have hh := strsFrom_val (ρ := ρ) (q.1.map symN) s.toks g5; rw [← g4] at hh; exact hh) (Nat.le_of_ble_eq_true hs) p _
theorem low_ok : ∀ n, n < 4 → Txt.lower (symS n) = symS (n + 4) ∧ Builtin.Str.tooLong (Txt.lower (symS n)).length = false := by decide +kernel
theorem CB_lower {n : Nat} {P : AV → AH → Prop} (p : gd (Nat.blt n 4) (P (.sym (n + 4)) H)) : CB c d (.builtin "str.lower") [.sym n] H P := by
  intro A hA s ρ vals hH hv
  match vals, hv with
  | [_], ⟨⟨hn, t, rfl⟩, _⟩ =>
    obtain ⟨h1, p⟩ := gd_iff.mp p
    have h1 : n < 4 := Nat.le_of_ble_eq_true h1
    obtain ⟨e1, e2⟩ := low_ok n h1
    refine SC.lower e2 ?_
    rw [e1]
    exact PostE.here hH ⟨by omega, _, rfl⟩ p _
end
end Mine
namespace Mine
section
variable {c : Cx} {d : Nat} {env : Env} {loc : Loc} {H : AH}
/-! the table of flags; list(range(..)) -/
noncomputable def flagA : Int → Option Nat
  | 1 => some 0
  | 2 => some 1
  | 4 => some 2
  | 8 => some 3
  | _ => none
theorem flagA_is {k : Int} {n : Nat} (h : flagA k = some n) : PySem.Spec.lookup (.int k) flagD = some (.str (symS n)) ∧ n < 24 := by
  unfold flagA at h
  split at h
  · cases h; exact ⟨by kernel_rfl, by decide⟩
  · cases h; exact ⟨by kernel_rfl, by decide⟩
  · cases h; exact ⟨by kernel_rfl, by decide⟩
  · cases h; exact ⟨by kernel_rfl, by decide⟩
  · cases h
theorem GM_get (ok : CxOk c) : GM c "get" "dict.get" (.fn 15) H := by
  intro A s ρ ov pl Q E hH hv hq
  have hv' : ov = .ref 15 := hv
  subst hv'
  exact getMethod_intTab_get (ok.dct.keep hH.keep) hq
theorem CB_get (ok : CxOk c) {k : Int} {m n : Nat} {P : AV → AH → Prop} (e : flagA k = some n) (p : P (.sym n) H) : CB c d (.builtin "dict.get") [.fn 15, .int k, .sym m] H P := by
  intro A hA s ρ vals hH hv
  match vals, hv with
  | [_, _, _], ⟨h1, ⟨t, rfl⟩, ⟨_, u, rfl⟩, _⟩ =>
    have h1' : _ = Value.ref 15 := h1
    subst h1'
    obtain ⟨e1, e2⟩ := flagA_is e
    refine call_get2_intTab (ok.dct.keep hH.keep) (dd := .str (symS m)) (PyProof.V.Flat.str _ _) fun v hv => ?_
    rw [e1] at hv
    have hv2 : Reads s.heap v (.str (symS n)) [] := hv s.heap
    cases hv2
    exact PostE.here hH ⟨e2, _, rfl⟩ p _
noncomputable def intsA (a st : Int) : Nat → List AV
  | 0 => []
  | n + 1 => .int a :: intsA (a + st) st n
theorem intsA_len (st : Int) : ∀ (n : Nat) (a : Int), (intsA a st n).length = n
  | 0, _ => rfl
  | n + 1, a => by simp [intsA, intsA_len st n]
theorem intsA_get (st : Int) : ∀ (n : Nat) (a : Int) (i : Nat), i < n → (intsA a st n)[i]? = some (.int (a + i * st))
  | 0, _, _, h => by omega
  | n + 1, a, 0, _ => by simp [intsA]
  | n + 1, a, i + 1, h => by
    simp only [intsA, List.getElem?_cons_succ]
    rw [intsA_get st n (a + st) i (by omega)]
    congr 2
    push_cast
    rw [Int.add_mul]; omega
theorem intsA_val {ρ : List Addr} (st : Int) : ∀ (n : Nat) (a : Int) (vs : List Value), vs.length = n → (∀ (j : Nat) (v : Value), vs[j]? = some v → ∃ t, v = Value.int (a + j * st) t) → ValL ρ (intsA a st n) vs
  | 0, _, [], _, _ => trivial
  | n + 1, a, v :: vs, hl, h => by
    refine ⟨?_, intsA_val st n (a + st) vs (by simpa using hl) fun j u hj => ?_⟩
    · obtain ⟨t, e⟩ := h 0 v rfl
      exact ⟨t, by simpa using e⟩
    · obtain ⟨t, e⟩ := h (j + 1) u (by simpa using hj)
      refine ⟨t, e.trans ?_⟩
      congr 1
      push_cast
      rw [Int.add_mul]; omega
noncomputable def rangeA (a b st : Int) : Option (List AV) :=
  match small a && small b && small st && decide (0 < st) && decide (Builtin.Range.rangeSize a b st ≤ 4000) with
  | true => some (intsA a st (Builtin.Range.rangeSize a b st).toNat)
  | false => none
theorem rangeA_of {a b st : Int} {xs : List AV} (h : rangeA a b st = some xs) : small a = true ∧ small b = true ∧ small st = true ∧ 0 < st ∧ Builtin.Range.rangeSize a b st ≤ 4000 ∧ 0 ≤ Builtin.Range.rangeSize a b st ∧ xs = intsA a st (Builtin.Range.rangeSize a b st).toNat ∧ Builtin.Range.small a b st = true := by
  unfold rangeA at h
  split at h
  · rename_i h1
    cases h
    simp only [Bool.and_eq_true, decide_eq_true_eq] at h1
    obtain ⟨⟨⟨⟨h1, h2⟩, h3⟩, h4⟩, h5⟩ := h1
    have h0 : 0 ≤ Builtin.Range.rangeSize a b st := by
      unfold Builtin.Range.rangeSize
      rw [if_pos h4]
      split
      · have := Int.ediv_nonneg (a := b - a - 1) (b := st) (by omega) (by omega); omega
      · omega
    refine ⟨h1, h2, h3, h4, h5, h0, rfl, ?_⟩
    simp only [small, Bool.and_eq_true, decide_eq_true_eq] at h1 h2 h3
    unfold Builtin.Range.small
    simp only [Builtin.Range.rangeFitsLong, Bool.and_eq_true, Bool.or_eq_true, decide_eq_true_eq, beq_iff_eq]
    have h4' : st > 0 := h4
    rw [if_pos h4']
    refine ⟨⟨⟨⟨⟨by omega, by omega⟩, by omega, by omega⟩, by omega, by omega⟩, by omega, by omega⟩, .inr (by simp; omega)⟩
  · cases h
end
/-! ## statements -/
inductive AFl where
  | next | brk | cont | ret (v : AV)
noncomputable def FlR (ρ : List Addr) : AFl → Flow → Prop
  | .next, f => f = .next
  | .brk, f => f = .brk
  | .cont, f => f = .cont
  | .ret v, f => ∃ u, f = .ret u ∧ Val ρ v u
theorem FlR.mono {ρ ρ' : List Addr} (h : ρ <+: ρ') {a : AFl} {f : Flow} (r : FlR ρ a f) : FlR ρ' a f := by
  cases a <;> try exact r
  obtain ⟨u, e, hv⟩ := r
  exact ⟨u, e, hv.mono h⟩
noncomputable def PostS (c : Cx) (s : Shared) (ρ : List Addr) (H : AH) (env : Env) (P : AFl → Loc → AH → Prop) : Flow → Shared → Prop :=
  fun f s' => ∃ h' tk' ρ' H' loc' a, s' = { s with heap := h', toks := tk' } ∧ AtH c.hb ρ' H' h' ∧ AtF c.hb ρ' env loc' h' ∧ Ext (FrX env) ρ H s.heap ρ' H' h' ∧ FlR ρ' a f ∧ P a loc' H'
noncomputable def TS (c : Cx) (d : Nat) (env : Env) (loc : Loc) (H : AH) (t : Sem Flow) (P : AFl → Loc → AH → Prop) : Prop :=
  ∀ A, AOk d A → ∀ s ρ, AtH c.hb ρ H s.heap → AtF c.hb ρ env loc s.heap → wpAny (model c.prog c.w) A t (PostS c s ρ H env P) (fun _ _ => False) s
noncomputable abbrev VS (c : Cx) (d : Nat) (env : Env) (st : Stmt) (loc : Loc) (H : AH) (P : AFl → Loc → AH → Prop) : Prop := TS c d env loc H (exec st env) P
noncomputable abbrev VSs (c : Cx) (d : Nat) (env : Env) (b : List Stmt) (loc : Loc) (H : AH) (P : AFl → Loc → AH → Prop) : Prop := TS c d env loc H (execs b env) P
section
variable {c : Cx} {d : Nat} {env : Env} {loc : Loc} {H : AH} {A : Around} {s : Shared} {ρ : List Addr}
theorem PostS.mono {P P' : AFl → Loc → AH → Prop} {f : Flow} {s' : Shared} (q : PostS c s ρ H env P f s') (h : ∀ a l H', P a l H' → P' a l H') : PostS c s ρ H env P' f s' := by
  obtain ⟨h', tk', ρ', H', l, a, rfl, at', f', x', r, p⟩ := q
  exact ⟨h', tk', ρ', H', l, a, rfl, at', f', x', r, h a l H' p⟩
theorem TS.mono {t : Sem Flow} {P P' : AFl → Loc → AH → Prop} (h : TS c d env loc H t P) (hp : ∀ a l H', P a l H' → P' a l H') : TS c d env loc H t P' :=
  fun A hA s ρ hH hF => wpAny_mono (h A hA s ρ hH hF) (fun _ _ q => q.mono hp) fun _ _ e => e
theorem PostS.trans {P : AFl → Loc → AH → Prop} {f : Flow} {s' : Shared} {h₁ : Heap} {tk₁ : Nat} {ρ₁ : List Addr} {H₁ : AH} (hH : AtH c.hb ρ H s.heap) (x : Ext (FrX env) ρ H s.heap ρ₁ H₁ h₁)
    (q : PostS c { s with heap := h₁, toks := tk₁ } ρ₁ H₁ env P f s') : PostS c s ρ H env P f s' := by
  obtain ⟨h', tk', ρ', H', l, a, rfl, at', f', x', r, p⟩ := q
  exact ⟨h', tk', ρ', H', l, a, rfl, at', f', Ext.trans hH x x', r, p⟩
theorem Ext.up {ρ' : List Addr} {H' : AH} {h h' : Heap} (x : Ext NoX ρ H h ρ' H' h') : Ext (FrX env) ρ H h ρ' H' h' := x.weak fun _ hx => hx.elim
theorem PostS.here {P : AFl → Loc → AH → Prop} {f : Flow} {a : AFl} {h₁ : Heap} {tk₁ : Nat} {ρ₁ : List Addr} {H₁ : AH} {loc₁ : Loc} (at1 : AtH c.hb ρ₁ H₁ h₁) (f1 : AtF c.hb ρ₁ env loc₁ h₁) (x1 : Ext (FrX env) ρ H s.heap ρ₁ H₁ h₁) (r : FlR ρ₁ a f) (p : P a loc₁ H₁) :
    PostS c s ρ H env P f { s with heap := h₁, toks := tk₁ } := ⟨h₁, tk₁, ρ₁, H₁, loc₁, a, rfl, at1, f1, x1, r, p⟩
theorem TS.seq {t : Sem Flow} {P : AFl → Loc → AH → Prop} {Q : Flow → Shared → Prop} {E : Value → Shared → Prop} (h : TS c d env loc H t P) (hA : AOk d A) (hH : AtH c.hb ρ H s.heap) (hF : AtF c.hb ρ env loc s.heap)
    (k : ∀ f h₁ tk₁ ρ₁ H₁ loc₁ a, AtH c.hb ρ₁ H₁ h₁ → AtF c.hb ρ₁ env loc₁ h₁ → Ext (FrX env) ρ H s.heap ρ₁ H₁ h₁ → FlR ρ₁ a f → P a loc₁ H₁ → Q f { s with heap := h₁, toks := tk₁ }) :
    wpAny (model c.prog c.w) A t Q E s :=
  wpAny_mono (h A hA s ρ hH hF) (fun a s' q => by
    obtain ⟨h', tk', ρ', H', l, a, rfl, at', f', x', r, p⟩ := q
    exact k _ h' tk' ρ' H' l a at' f' x' r p) fun _ _ e => e.elim
theorem VSs_nil {P : AFl → Loc → AH → Prop} (p : P .next loc H) : VSs c d env [] loc H P :=
  fun _ _ s _ hH hF => wpAny_execs_nil (PostS.here (a := .next) (tk₁ := s.toks) hH hF (Ext.refl _) rfl p)
theorem VSs_cons {st : Stmt} {r : List Stmt} {P : AFl → Loc → AH → Prop} (h : VS c d env st loc H fun a l H1 => match a with | .next => VSs c d env r l H1 P | a => P a l H1) : VSs c d env (st :: r) loc H P := by
  intro A hA s ρ hH hF
  refine wpAny_execs_cons (TS.seq h hA hH hF fun f h₁ tk₁ ρ₁ H₁ loc₁ a at1 f1 x1 r1 p1 => ?_)
  cases a with
  | next =>
    cases r1
    exact TS.seq p1 hA at1 f1 fun f h₂ tk₂ ρ₂ H₂ loc₂ a at2 f2 x2 r2 p2 => PostS.here at2 f2 (Ext.trans hH x1 x2) r2 p2
  | brk => cases r1; exact PostS.here (a := .brk) at1 f1 x1 rfl p1
  | cont => cases r1; exact PostS.here (a := .cont) at1 f1 x1 rfl p1
  | ret v => obtain ⟨u, rfl, hv⟩ := r1; exact PostS.here (a := .ret v) at1 f1 x1 ⟨u, rfl, hv⟩ p1
theorem vS_inj : ∀ x, x < 48 → ∀ y, y < 48 → vS x = vS y → x = y := by decide +kernel
/-- a name that may be stored -/
noncomputable def Sto (env : Env) (x : Nat) : Prop := x < 48 ∧ (env.kindOf (vS x) = some .local ∨ (env.kindOf (vS x) = some .cell ∧ ∃ cc, env.cells.lookup (vS x) = some cc))
noncomputable def StoX (env : Env) (x : Nat) : Addr → Prop := fun b => (env.kindOf (vS x) = some .local ∧ b = env.locals) ∨ (env.kindOf (vS x) = some .cell ∧ env.cells.lookup (vS x) = some b)
theorem wp_storeX {x : Nat} {v : AV} {u : Value} {Q : Unit → Shared → Prop} {E : Value → Shared → Prop} (hH : AtH c.hb ρ H s.heap) (hF : AtF c.hb ρ env loc s.heap) (hv : Val ρ v u) (hs : Sto env x)
    (k : ∀ h' tk, AtH c.hb ρ H h' → AtF c.hb ρ env (lset loc x v) h' → Ext (StoX env x) ρ H s.heap ρ H h' → Q () { s with heap := h', toks := tk }) : wpAny (model c.prog c.w) A (storeName env (vS x) u) Q E s := by
  obtain ⟨hx, hk⟩ := hs
  obtain ⟨m, hn, hm⟩ := hF.ns
  rcases hk with hk | ⟨hk, cc, hc⟩
  · refine wpAny_storeName_local hk hn (fun h' hn' sb => ?_) (by rw [hF.kind]; rfl)
    have kp : ∀ b o, b ≠ env.locals → s.heap.get? b = some o → h'.get? b = some o := fun b o hb e => sb.extBut b o hb e
    have hne : ∀ b ∈ ρ, b ≠ env.locals := fun b hb e => hF.nρ (e ▸ hb)
    refine k h' _ ⟨fun b o e => kp b o ?_ (hH.keep b o e), hH.len, hH.nodup, fun i o a e1 e2 => ?_⟩ ⟨hF.kind, hF.glob, hF.blt, ⟨_, hn', fun y w hy e hky => ?_⟩, fun y c' e => ?_, hF.inj, fun y w hy e hky => ?_, hF.nρ, hF.nb⟩ ⟨List.prefix_refl _, fun i o e => ⟨o, e, rfl⟩, (fun i a hi e => by rw [List.getElem?_eq_none hi] at e; cases e), fun b o e _ hX => kp b o (fun e' => hX (.inl ⟨hk, e'⟩)) e, fun b o e => ?_⟩
    · rintro rfl; rw [hF.nb] at e; cases e
    · obtain ⟨vs, ⟨oo, g1, g1'⟩, g2, g3, g4, g5⟩ := hH.obj i o a e1 e2
      have ha := hne a (List.mem_of_getElem? e2)
      exact ⟨vs, ⟨oo, kp _ _ ha g1, g1'⟩, g2, g3, fun w => (g4 w).at fun _ e => kp _ _ ha e, g5⟩
    · rw [lget_lset] at e
      by_cases hxy : x = y
      · subst hxy
        rw [if_pos rfl] at e
        cases e
        exact ⟨u, by simp, hv⟩
      · rw [if_neg hxy] at e
        obtain ⟨v', e', hv'⟩ := hm y w hy e hky
        refine ⟨v', ?_, hv'⟩
        show (if vS y = vS x then some u else m (vS y)) = some v'
        rw [if_neg fun e' => hxy (vS_inj y hy x hx e').symm]
        exact e'
    · obtain ⟨⟨v₀, o, ho, hd⟩, h2, h3, h4⟩ := hF.cl y c' e
      exact ⟨⟨v₀, o, kp _ _ h4 ho, hd⟩, h2, h3, h4⟩
    · rw [lget_lset] at e
      by_cases hxy : x = y
      · subst hxy; exact absurd hk hky
      · rw [if_neg hxy] at e
        obtain ⟨q1, c', v', q2, ⟨o, ho, hd⟩, q4⟩ := hF.cv y w hy e hky
        exact ⟨q1, c', v', q2, ⟨o, kp _ _ (hF.cl _ _ q2).2.2.2 ho, hd⟩, q4⟩
    · by_cases hb : b = env.locals
      · subst hb
        obtain ⟨oo, _, _, g, _⟩ := hn'
        exact ⟨oo, g⟩
      · exact ⟨o, kp b o hb e⟩
  · obtain ⟨⟨v₀, hcell⟩, h2, h3, h4⟩ := hF.cl _ _ hc
    refine wpAny_storeName_cell hF.kind hk hc hcell (fun h' hcell' sb => ?_)
    have kp : ∀ b o, b ≠ cc → s.heap.get? b = some o → h'.get? b = some o := fun b o hb e => sb.extBut b o hb e
    have hne : ∀ b ∈ ρ, b ≠ cc := fun b hb e => h2 (e ▸ hb)
    have hnl : env.kindOf (vS x) ≠ some .local := by rw [hk]; intro e; cases e
    refine k h' s.toks ⟨fun b o e => kp b o ?_ (hH.keep b o e), hH.len, hH.nodup, fun i o a e1 e2 => ?_⟩ ⟨hF.kind, hF.glob, hF.blt, ⟨m, ?_, fun y w hy e hky => ?_⟩, fun y c' e => ?_, hF.inj, fun y w hy e hky => ?_, hF.nρ, hF.nb⟩ ⟨List.prefix_refl _, fun i o e => ⟨o, e, rfl⟩, (fun i a hi e => by rw [List.getElem?_eq_none hi] at e; cases e), fun b o e _ hX => kp b o (fun e' => hX (.inr ⟨hk, e' ▸ hc⟩)) e, fun b o e => ?_⟩
    · rintro rfl; rw [h3] at e; cases e
    · obtain ⟨vs, ⟨oo, g1, g1'⟩, g2, g3, g4, g5⟩ := hH.obj i o a e1 e2
      have ha := hne a (List.mem_of_getElem? e2)
      exact ⟨vs, ⟨oo, kp _ _ ha g1, g1'⟩, g2, g3, fun w => (g4 w).at fun _ e => kp _ _ ha e, g5⟩
    · obtain ⟨o, es, ep, ho, r⟩ := hn
      exact ⟨o, es, ep, kp _ _ (Ne.symm h4) ho, r⟩
    · rw [lget_lset] at e
      by_cases hxy : x = y
      · subst hxy; exact absurd hky hnl
      · rw [if_neg hxy] at e; exact hm y w hy e hky
    · by_cases hcc : c' = cc
      · subst hcc; exact ⟨⟨_, hcell'⟩, h2, h3, h4⟩
      · obtain ⟨⟨v₁, o, ho, hd⟩, q2, q3, q4⟩ := hF.cl y c' e
        exact ⟨⟨v₁, o, kp _ _ hcc ho, hd⟩, q2, q3, q4⟩
    · rw [lget_lset] at e
      by_cases hxy : x = y
      · subst hxy
        rw [if_pos rfl] at e
        cases e
        exact ⟨.inl hk, cc, u, hc, hcell', hv⟩
      · rw [if_neg hxy] at e
        obtain ⟨q1, c', v', q2, ⟨o, ho, hd⟩, q4⟩ := hF.cv y w hy e hky
        refine ⟨q1, c', v', q2, ⟨o, kp _ _ ?_ ho, hd⟩, q4⟩
        rintro rfl
        exact hxy (vS_inj y hy x hx (hF.inj _ _ _ q2 hc)).symm
    · by_cases hb : b = cc
      · subst hb
        obtain ⟨oo, g, _⟩ := hcell'
        exact ⟨oo, g⟩
      · exact ⟨o, kp b o hb e⟩
theorem StoX.up {x : Nat} {b : Addr} (h : StoX env x b) : FrX env b := h.elim (fun h => .inl h.2) fun h => .inr ⟨_, h.2⟩
theorem wp_store {x : Nat} {v : AV} {u : Value} {Q : Unit → Shared → Prop} {E : Value → Shared → Prop} (hH : AtH c.hb ρ H s.heap) (hF : AtF c.hb ρ env loc s.heap) (hv : Val ρ v u) (hs : Sto env x)
    (k : ∀ h' tk, AtH c.hb ρ H h' → AtF c.hb ρ env (lset loc x v) h' → Ext (FrX env) ρ H s.heap ρ H h' → Q () { s with heap := h', toks := tk }) : wpAny (model c.prog c.w) A (storeName env (vS x) u) Q E s :=
  wp_storeX hH hF hv hs fun h' tk a f x => k h' tk a f (x.weak fun _ => StoX.up)
theorem VS_asg {x : Nat} {id : Str} {value : Expr} {pos' pos : Pos} {P : AFl → Loc → AH → Prop} (hid : id = vS x) (hs : Sto env x) (h : VE c d env value loc H fun v H1 => P .next (lset loc x v) H1)
    (hsw : swapsWith value (some (.Name id pos')) pos.line env = pure false) : VS c d env (.Assign [.Name id pos'] value pos) loc H P := by
  subst hid
  intro A hA s ρ hH hF
  refine wpAny_Assign_Name (TR.seq h hA hH hF fun u h₁ tk₁ ρ₁ H₁ v at1 f1 x1 r1 p1 => ?_) hsw
  exact wp_store (s := { s with heap := h₁, toks := tk₁ }) at1 f1 r1 hs fun h' tk a2 f2 x2 => PostS.here (a := .next) a2 f2 (Ext.trans hH x1.up x2) rfl p1
theorem VS_ret {e : Expr} {pos : Pos} {P : AFl → Loc → AH → Prop} (h : VE c d env e loc H fun v H1 => P (.ret v) loc H1) : VS c d env (.Return (some e) pos) loc H P := by
  intro A hA s ρ hH hF
  exact wpAny_Return_some (TR.seq h hA hH hF fun u h₁ tk₁ ρ₁ H₁ v at1 f1 x1 r1 p1 => PostS.here (a := .ret v) at1 f1 x1.up ⟨u, rfl, r1⟩ p1)
theorem VS_brk {pos : Pos} {P : AFl → Loc → AH → Prop} (p : P .brk loc H) : VS c d env (.Break pos) loc H P :=
  fun _ _ s _ hH hF => wpAny_bind (wpAny_standAt (wpAny_pure (PostS.here (a := .brk) (tk₁ := s.toks) hH hF (Ext.refl _) rfl p)))
theorem VS_if {t : Expr} {b o : List Stmt} {pos : Pos} {P : AFl → Loc → AH → Prop} (h : VT c d env t loc H fun r H1 => if r = true then VSs c d env b loc H1 P else VSs c d env o loc H1 P) : VS c d env (.If t b o pos) loc H P := by
  intro A hA s ρ hH hF
  refine wpAny_If (TR.seq h hA hH hF fun r h₁ tk₁ ρ₁ H₁ v at1 f1 x1 r1 p1 => ?_)
  cases r1
  cases r with
  | true =>
    simp only [if_true] at p1 ⊢
    exact TS.seq p1 hA at1 f1 fun f h₂ tk₂ ρ₂ H₂ loc₂ a at2 f2 x2 r2 p2 => PostS.here at2 f2 (Ext.trans hH x1.up x2) r2 p2
  | false =>
    simp only [Bool.false_eq_true, if_false] at p1 ⊢
    exact TS.seq p1 hA at1 f1 fun f h₂ tk₂ ρ₂ H₂ loc₂ a at2 f2 x2 r2 p2 => PostS.here at2 f2 (Ext.trans hH x1.up x2) r2 p2
/-- an expression that hands back None -/
theorem VS_expr {e : Expr} {pos : Pos} {P : AFl → Loc → AH → Prop} (h : VE c d env e loc H fun v H1 => v = .none ∧ P .next loc H1) (hi : interactive env = false) (hsw : swapsWith e none pos.line env = pure false) : VS c d env (.Expr e pos) loc H P := by
  intro A hA s ρ hH hF
  refine wpAny_Expr (TR.seq h hA hH hF fun u h₁ tk₁ ρ₁ H₁ v at1 f1 x1 r1 p1 => ?_) hi hsw
  obtain ⟨rfl, p1⟩ := p1
  have r1' : u = .none := r1
  subst r1'
  exact PostS.here (a := .next) at1 f1 x1.up rfl p1
end
end Mine
namespace Mine
noncomputable def augA (op : Operator) (a b : AV) (P : AV → Prop) : Prop :=
  match op, a, b with
  | .Add, .int x, .int y => P (.int (x + y))
  | .Sub, .int x, .int y => P (.int (x - y))
  | .Mult, .int x, .int y => gd (small x) (P (.int (x * y)))
  | .BitXor, .int x, .int y => P (.int (Builtin.bitXor x y))
  | _, _, _ => False
section
variable {c : Cx} {d : Nat} {env : Env} {loc : Loc} {H : AH} {A : Around} {s : Shared} {ρ : List Addr}
theorem wp_aug {op : Operator} {a b : AV} {u v : Value} {P : AV → Prop} {Q : Value → Shared → Prop} {E : Value → Shared → Prop} (ha : Val ρ a u) (hb : Val ρ b v) (p : augA op a b P) (k : ∀ r x tk, Val ρ x r → P x → Q r { s with toks := tk }) :
    wpAny (model c.prog c.w) A (inplaceOp op u v) Q E s := by
  unfold augA at p
  split at p
  · obtain ⟨t, rfl⟩ := ha; obtain ⟨t', rfl⟩ := hb
    exact PyProof.Rows.iadd_int (k _ (.int _) _ ⟨_, rfl⟩ p)
  · obtain ⟨t, rfl⟩ := ha; obtain ⟨t', rfl⟩ := hb
    exact PyProof.Rows.isub_int (k _ (.int _) _ ⟨_, rfl⟩ p)
  · obtain ⟨t, rfl⟩ := ha; obtain ⟨t', rfl⟩ := hb
    obtain ⟨h1, p⟩ := gd_iff.mp p
    exact PySem.P.imul_int (k _ (.int _) _ ⟨_, rfl⟩ p) (IntMulOk.of_left (small_bits h1))
  · obtain ⟨t, rfl⟩ := ha; obtain ⟨t', rfl⟩ := hb
    exact ixor_int (k _ (.int _) _ ⟨_, rfl⟩ p)
  · exact p.elim
theorem TR_load {x : Nat} {v : AV} {P : AV → AH → Prop} (hlt : x < 48) (hx : lget loc x = some v) (p : P v H) : TR c d env loc H (loadName env (vS x)) Val P := by
  intro A hA s ρ hH hF
  by_cases hk : env.kindOf (vS x) = some .local
  · obtain ⟨m, hn, hm⟩ := hF.ns
    obtain ⟨v', e', hv⟩ := hm x v hlt hx hk
    exact wpAny_loadName_local hF.kind hk hn e' (PostE.here' hH hv p)
  · obtain ⟨hk', cc, v', e1, e2, hv⟩ := hF.cv x v hlt hx hk
    rcases hk' with hk' | hk'
    · exact wpAny_loadName_cell hF.kind hk' e1 e2 (PostE.here' hH hv p)
    · exact wpAny_loadName_free hF.kind hk' e1 e2 (PostE.here' hH hv p) (not_debug x).2
theorem VS_aug {x : Nat} {id : Str} {op : Operator} {value : Expr} {pos' pos : Pos} {v₀ : AV} {P : AFl → Loc → AH → Prop} (hid : id = vS x) (hs : Sto env x) (hx : lget loc x = some v₀)
    (h : VE c d env value loc H fun v H1 => augA op v₀ v fun r => P .next (lset loc x r) H1) : VS c d env (.AugAssign (.Name id pos') op value pos) loc H P := by
  subst hid
  intro A hA s ρ hH hF
  refine wpAny_AugAssign_Name (TR.seq (TR_load (P := fun v H' => v = v₀ ∧ H' = H) hs.1 hx ⟨rfl, rfl⟩) hA hH hF fun u h₁ tk₁ ρ₁ H₁ v at1 f1 x1 r1 p1 => ?_)
  obtain ⟨rfl, rfl⟩ := p1
  refine TR.seq (s := { s with heap := h₁, toks := tk₁ }) h hA at1 f1 fun u₂ h₂ tk₂ ρ₂ H₂ v₂ at2 f2 x2 r2 p2 => ?_
  refine wp_aug (s := { s with heap := h₂, toks := tk₂ }) (r1.mono x2.pre) r2 p2 fun r x tk hr pr => ?_
  exact wp_store (s := { s with heap := h₂, toks := tk }) at2 f2 hr hs fun h' tk a3 f3 x3 => PostS.here (a := .next) a3 f3 (Ext.trans hH (Ext.trans hH x1 x2).up x3) rfl pr
/-- l[k] = v on an own list -/
noncomputable def setA (H : AH) (i : Nat) (k : Int) (v : AV) (P : AH → Prop) : Prop := lat H i fun o => gd (o.w && decide (0 ≤ k) && decide (k < o.xs.length)) (P (H.set i ⟨true, false, o.xs.set k.toNat v⟩))
theorem wp_set {i : Nat} {k : Int} {x : AV} {u w v : Value} {P : AH → Prop} {Q : Unit → Shared → Prop} {E : Value → Shared → Prop} (hH : AtH c.hb ρ H s.heap) (hu : Val ρ (.ref i) u) (hw : Val ρ (.int k) w) (hv : Val ρ x v) (p : setA H i k x P)
    (q : ∀ h' H', AtH c.hb ρ H' h' → Ext NoX ρ H s.heap ρ H' h' → P H' → Q () { s with heap := h' }) : wpAny (model c.prog c.w) A (setItem u w v) Q E s := by
  obtain ⟨o, e1, p⟩ := lat_of p
  obtain ⟨h1, p⟩ := gd_iff.mp p
  simp only [Bool.and_eq_true, decide_eq_true_eq] at h1
  obtain ⟨⟨hw', hk0⟩, hk1⟩ := h1
  obtain ⟨b, vs, rfl, r1, i1, v1, _, _, l1⟩ := hH.list e1 hu
  obtain ⟨t, rfl⟩ := hw
  have hl := v1.length
  refine wpAny_setItem_list i1 hk0 (by omega) (by rw [List.size_toArray]; omega) fun h' hl' sb => ?_
  have hl2 : h'.IsList b (vs.set k.toNat v).toArray := by simpa using hl'
  obtain ⟨a2, x2⟩ := hH.upd (p := false) e1 r1 hw' (ValL.set hv k.toNat v1) (by simp; omega) hl2 (fun e => by cases e) sb.extBut
  exact q h' _ a2 x2 p
theorem VS_sto {l i value : Expr} {pos' pos : Pos} {P : AFl → Loc → AH → Prop} (h : VE c d env value loc H fun v H1 => VE c d env l loc H1 fun a H2 => VE c d env i loc H2 fun b H3 => match a, b with | .ref j, .int k => setA H3 j k v fun H4 => P .next loc H4 | _, _ => False)
    (hsw : swapsWith value (some (.Subscript l i pos')) pos.line env = pure false) : VS c d env (.Assign [.Subscript l i pos'] value pos) loc H P := by
  intro A hA s ρ hH hF
  refine wpAny_Assign_Subscript (TR.seq h hA hH hF fun u h₁ tk₁ ρ₁ H₁ v at1 f1 x1 r1 p1 => ?_) hsw
  refine TR.seq p1 hA at1 f1 fun u₂ h₂ tk₂ ρ₂ H₂ v₂ at2 f2 x2 r2 p2 => ?_
  refine TR.seq p2 hA at2 f2 fun u₃ h₃ tk₃ ρ₃ H₃ v₃ at3 f3 x3 r3 p3 => ?_
  split at p3
  · refine wp_set (s := { s with heap := h₃, toks := tk₃ }) at3 (r2.mono x3.pre) r3 (r1.mono (x2.pre.trans x3.pre)) p3 fun h' H' a4 x4 p4 => ?_
    exact PostS.here (a := .next) (tk₁ := tk₃) a4 (f3.ext x4) (Ext.trans hH (Ext.trans hH x1 (Ext.trans at1 x2 x3)) x4).up rfl p4
  · exact p3.elim
theorem VS_augI {l i value : Expr} {op : Operator} {pos' pos : Pos} {P : AFl → Loc → AH → Prop}
    (h : VE c d env l loc H fun a H1 => VE c d env i loc H1 fun b H2 => match a, b with
      | .ref j, .int k => lat H2 j fun o => idxA o k fun v₀ => VE c d env value loc H2 fun v H3 => augA op v₀ v fun r => setA H3 j k r fun H4 => P .next loc H4
      | _, _ => False)
    (ha : ∀ ov iv new, augStore i ov iv new = (do holding [new, ov, iv] (setItem ov iv new); release [new, ov, iv] []; pure .next)) : VS c d env (.AugAssign (.Subscript l i pos') op value pos) loc H P := by
  intro A hA s ρ hH hF
  refine wpAny_AugAssign_Subscript_any (TR.seq h hA hH hF fun u h₁ tk₁ ρ₁ H₁ v at1 f1 x1 r1 p1 => ?_) ha
  refine TR.seq p1 hA at1 f1 fun u₂ h₂ tk₂ ρ₂ H₂ v₂ at2 f2 x2 r2 p2 => ?_
  split at p2
  · refine wp_idx (s := { s with heap := h₂, toks := tk₂ }) at2 (r1.mono x2.pre) r2 p2 fun v₀ u₀ hv₀ p3 => ?_
    refine TR.seq (s := { s with heap := h₂, toks := tk₂ }) p3 hA at2 f2 fun u₃ h₃ tk₃ ρ₃ H₃ v₃ at3 f3 x3 r3 p4 => ?_
    refine wp_aug (s := { s with heap := h₃, toks := tk₃ }) (hv₀.mono x3.pre) r3 p4 fun r x tk hr p5 => ?_
    refine wp_set (s := { s with heap := h₃, toks := tk }) at3 (r1.mono (x2.pre.trans x3.pre)) (r2.mono x3.pre) hr p5 fun h' H' a4 x4 p6 => ?_
    exact PostS.here (a := .next) (tk₁ := tk) a4 (f3.ext x4) (Ext.trans hH (Ext.trans hH x1 (Ext.trans at1 x2 x3)) x4).up rfl p6
  · exact p2.elim
/-- two names get one value -/
theorem VS_asg2 {x y : Nat} {value : Expr} {px py pos : Pos} {P : AFl → Loc → AH → Prop} (hx : Sto env x) (hy : Sto env y) (h : VE c d env value loc H fun v H1 => P .next (lset (lset loc x v) y v) H1)
    (hw : swappedStores [.Name (vS x) px, .Name (vS y) py] value env = pure none) : VS c d env (.Assign [.Name (vS x) px, .Name (vS y) py] value pos) loc H P := by
  intro A hA s ρ hH hF
  refine wpAny_Assign_two (TR.seq h hA hH hF fun u h₁ tk₁ ρ₁ H₁ v at1 f1 x1 r1 p1 => ?_) rfl hw
  refine wpAny_assign_Name (wp_store (s := { s with heap := h₁, toks := tk₁ }) at1 f1 r1 hx fun h₂ tk₂ a2 f2 x2 => ?_)
  refine wpAny_assign_Name (wp_store (s := { s with heap := h₂, toks := tk₂ }) a2 f2 r1 hy fun h₃ tk₃ a3 f3 x3 => ?_)
  exact PostS.here (a := .next) a3 f3 (Ext.trans hH (Ext.trans hH x1.up x2) x3) rfl p1
/-! ## loops -/
theorem VS_while {t : Expr} {b : List Stmt} {pos : Pos} {P : AFl → Loc → AH → Prop} (J : Nat → Loc → AH → Prop) (n : Nat) (hj : J n loc H)
    (turn : ∀ n l H1, J n l H1 → VT c d env t l H1 fun r H2 => if r = true then VSs c d env b l H2 (fun a l' H3 => match a with | .next => ∃ m, m < n ∧ J m l' H3 | .cont => ∃ m, m < n ∧ J m l' H3 | .brk => P .next l' H3 | .ret v => P (.ret v) l' H3) else P .next l H2) :
    VS c d env (.While t b [] pos) loc H P := by
  intro A hA s ρ hH hF
  refine wpAny_While (codeAny_whileLoop (fun n s' => ∃ h₁ tk₁ ρ₁ H₁ l, s' = { s with heap := h₁, toks := tk₁ } ∧ AtH c.hb ρ₁ H₁ h₁ ∧ AtF c.hb ρ₁ env l h₁ ∧ Ext (FrX env) ρ H s.heap ρ₁ H₁ h₁ ∧ J n l H₁) ?_ n ⟨s.heap, s.toks, ρ, H, loc, rfl, hH, hF, Ext.refl _, hj⟩)
  rintro n _ ⟨h₁, tk₁, ρ₁, H₁, l, rfl, at1, f1, x1, j1⟩
  refine TR.seq (s := { s with heap := h₁, toks := tk₁ }) (turn n l H₁ j1) hA at1 f1 fun r h₂ tk₂ ρ₂ H₂ _ at2 f2 x2 r2 p2 => ?_
  cases r2
  cases r with
  | true =>
    simp only [if_true] at p2 ⊢
    refine TS.seq (s := { s with heap := h₂, toks := tk₂ }) p2 hA at2 f2 fun f h₃ tk₃ ρ₃ H₃ l₃ a at3 f3 x3 r3 p3 => ?_
    have xx := Ext.trans hH x1 (Ext.trans at1 x2.up x3)
    cases a with
    | next => cases r3; obtain ⟨m, hm, p3⟩ := p3; exact ⟨m, hm, _, _, _, _, _, rfl, at3, f3, xx, p3⟩
    | cont => cases r3; obtain ⟨m, hm, p3⟩ := p3; exact ⟨m, hm, _, _, _, _, _, rfl, at3, f3, xx, p3⟩
    | brk => cases r3; exact PostS.here (a := .next) at3 f3 xx rfl p3
    | ret v => obtain ⟨u, rfl, hv⟩ := r3; exact PostS.here (a := .ret v) at3 f3 xx ⟨u, rfl, hv⟩ p3
  | false =>
    simp only [Bool.false_eq_true, if_false] at p2 ⊢
    exact wpAny_execs_nil (PostS.here (a := .next) at2 f2 (Ext.trans hH x1 x2.up) rfl p2)
inductive Src where
  | lst (i : Nat) | rng (a st : Int) (n : Nat)
noncomputable def srcIts : Src → AH → Option (List AV)
  | .lst i, H => H[i]?.map AO.xs
  | .rng a st n, _ => some (intsA a st n)
noncomputable def ItSt : Src → Addr → Nat → List Addr → Heap → Prop
  | .lst i, I, k, ρ, h => ∃ b, ρ[i]? = some b ∧ h.IsListIter I b k
  | .rng a st n, I, k, _, h => IsRangeIter h I (a + (k : Nat) * st) ((n : Int) - (k : Nat)) st
theorem ItSt.keep {S : Src} {I : Addr} {k : Nat} {ρ' : List Addr} {h h' : Heap} (x : ItSt S I k ρ h) (pre : ρ <+: ρ') (kp : ∀ o, h.get? I = some o → h'.get? I = some o) : ItSt S I k ρ' h' := by
  cases S with
  | lst i =>
    obtain ⟨b, e, o, ho, r⟩ := x
    refine ⟨b, ?_, o, kp o ho, r⟩
    obtain ⟨t, rfl⟩ := pre
    rw [List.getElem?_append_left (List.getElem?_eq_some_iff.mp e).1]; exact e
  | rng a st n => exact kp _ x
theorem It_next {S : Src} {I : Addr} {k : Nat} {xs : List AV} {x : AV} {Q : Option Value → Shared → Prop} {E : Value → Shared → Prop} (hH : AtH c.hb ρ H s.heap) (it : ItSt S I k ρ s.heap) (hx : srcIts S H = some xs) (hk : xs[k]? = some x)
    (q : ∀ v h' tk, Val ρ x v → ItSt S I (k + 1) ρ h' → (∀ b o, b ≠ I → s.heap.get? b = some o → h'.get? b = some o) → Q (some v) { s with heap := h', toks := tk }) : wpAny (model c.prog c.w) A (pyNext (.ref I)) Q E s := by
  cases S with
  | lst i =>
    obtain ⟨b, e, it⟩ := it
    cases hi : H[i]? with
    | none => simp [srcIts, hi] at hx
    | some o =>
      simp only [srcIts, hi, Option.map_some, Option.some.injEq] at hx
      subst hx
      obtain ⟨b', vs, e0, e', i1, v1, _⟩ := hH.list hi ⟨b, e, rfl⟩
      cases e0
      obtain ⟨r, hr, hvr⟩ := v1.get hk
      exact wpAny_pyNext_list_item it i1 (by simpa using hr) fun h' it' sb => q r h' s.toks hvr ⟨b, e, it'⟩ fun b o hb e => sb.extBut b o hb e
  | rng a st n =>
    simp only [srcIts, Option.some.injEq] at hx
    subst hx
    have hlt : k < n := by
      have := (List.getElem?_eq_some_iff.mp hk).1
      rw [intsA_len] at this; exact this
    rw [intsA_get st n a k hlt] at hk
    cases hk
    refine wpAny_pyNext_range_item it (by omega) fun h' it' sb => ?_
    refine q _ h' _ ⟨_, rfl⟩ ?_ fun b o hb e => sb.extBut b o hb e
    show IsRangeIter h' I (a + ((k + 1 : Nat) : Int) * st) ((n : Int) - ((k + 1 : Nat) : Int)) st
    have e1 : a + ((k + 1 : Nat) : Int) * st = a + (k : Int) * st + st := by push_cast; rw [Int.add_mul, Int.one_mul, Int.add_assoc]
    have e2 : (n : Int) - ((k + 1 : Nat) : Int) = (n : Int) - (k : Int) - 1 := by push_cast; omega
    rw [e1, e2]; exact it'
theorem It_done {S : Src} {I : Addr} {k : Nat} {xs : List AV} {Q : Option Value → Shared → Prop} {E : Value → Shared → Prop} (hA : AOk d A) (hH : AtH c.hb ρ H s.heap) (it : ItSt S I k ρ s.heap) (hx : srcIts S H = some xs) (hk : xs[k]? = none)
    (q : ∀ h', (∀ b o, b ≠ I → s.heap.get? b = some o → h'.get? b = some o) → Q none { s with heap := h' }) : wpAny (model c.prog c.w) A (pyNext (.ref I)) Q E s := by
  cases S with
  | lst i =>
    obtain ⟨b, e, it⟩ := it
    cases hi : H[i]? with
    | none => simp [srcIts, hi] at hx
    | some o =>
      simp only [srcIts, hi, Option.map_some, Option.some.injEq] at hx
      subst hx
      obtain ⟨b', vs, e0, e', i1, v1, _⟩ := hH.list hi ⟨b, e, rfl⟩
      cases e0
      refine wpAny_pyNext_list_end hA.han it i1 ?_ fun h' eb => q h' fun b o hb e => eb b o hb e
      have := List.getElem?_eq_none_iff.mp hk
      rw [v1.length] at this
      simpa using this
  | rng a st n =>
    simp only [srcIts, Option.some.injEq] at hx
    subst hx
    have hge : n ≤ k := by
      have := List.getElem?_eq_none_iff.mp hk
      rw [intsA_len] at this; exact this
    exact wpAny_pyNext_range_end hA.han it (by omega) fun h' eb => q h' fun b o hb e => eb b o hb e
end
end Mine
namespace Mine
section
variable {c : Cx} {d : Nat} {env : Env} {loc : Loc} {H : AH} {A : Around} {s : Shared} {ρ : List Addr}
/-- a fresh iterator stands at I -/
noncomputable def PostI (c : Cx) (s : Shared) (ρ : List Addr) (H : AH) (P : Src → List AV → AH → Prop) : Value → Shared → Prop :=
  fun v s' => ∃ h' tk' ρ' H' S xs I, s' = { s with heap := h', toks := tk' } ∧ v = .ref I ∧ AtH c.hb ρ' H' h' ∧ Ext NoX ρ H s.heap ρ' H' h' ∧ ItSt S I 0 ρ' h' ∧ I ∉ ρ' ∧ s.heap.get? I = Option.none ∧ srcIts S H' = some xs ∧ P S xs H'
noncomputable def ITR (c : Cx) (d : Nat) (env : Env) (it : Expr) (loc : Loc) (H : AH) (P : Src → List AV → AH → Prop) : Prop :=
  ∀ A, AOk d A → ∀ s ρ, AtH c.hb ρ H s.heap → AtF c.hb ρ env loc s.heap →
    wpAny (model c.prog c.w) A (eval it env) (fun x s₁ => wpAny (model c.prog c.w) A (pyIter x) (PostI c s ρ H P) (fun _ _ => False) s₁) (fun _ _ => False) s
theorem get_none_of_ext {X : Addr → Prop} {ρ' : List Addr} {H' : AH} {h h' : Heap} (x : Ext X ρ H h ρ' H' h') {I : Addr} (e : h'.get? I = Option.none) : h.get? I = Option.none := by
  cases q : h.get? I with
  | none => rfl
  | some o => obtain ⟨o', e'⟩ := x.per I o q; rw [e] at e'; cases e'
theorem size_none (h : Heap) : h.get? h.objs.size = Option.none := by
  cases e : h.get? h.objs.size with
  | none => rfl
  | some o' => exact absurd (Heap.lt_size e) (Nat.lt_irrefl _)
theorem notIn_none {hb h : Heap} (a : AtH hb ρ H h) {I : Addr} (e : h.get? I = Option.none) : I ∉ ρ := by
  intro hm
  obtain ⟨i, hi, e'⟩ := List.mem_iff_getElem.mp hm
  have hi' : i < H.length := a.len ▸ hi
  obtain ⟨vs, ⟨o', ho', _⟩, _⟩ := a.obj i H[i] I (by simp [hi']) (by rw [← e']; simp [hi])
  rw [e] at ho'; cases ho'
theorem ITR_list {it : Expr} {P : Src → List AV → AH → Prop} (h : VE c d env it loc H fun a H1 => match a with | .ref i => lat H1 i fun o => P (.lst i) o.xs H1 | _ => False) : ITR c d env it loc H P := by
  intro A hA s ρ hH hF
  refine TR.seq h hA hH hF fun u h₁ tk₁ ρ₁ H₁ v at1 f1 x1 r1 p1 => ?_
  split at p1
  · rename_i i
    obtain ⟨o, e1, p1⟩ := lat_of p1
    obtain ⟨b, vs, rfl, e2, i1, v1, _⟩ := at1.list e1 r1
    refine wpAny_pyIter_list i1 ?_
    obtain ⟨a2, x2⟩ := at1.other (h' := h₁.push { cls := .type "list_iterator", data := .fields #[.ref b, .int 0 0] }) fun _ _ e => Heap.get?_push_of_some _ e
    exact ⟨_, tk₁, ρ₁, H₁, .lst i, o.xs, h₁.objs.size, rfl, rfl, a2, Ext.trans hH x1 x2, ⟨b, e2, _, Heap.get?_push_size _ rfl, rfl, rfl⟩, notIn_none at1 (size_none _), get_none_of_ext x1 (size_none _), by simp [srcIts, e1], p1⟩
  · exact p1.elim
theorem callWith_T {pos : Pos} {T : String} {e : Expr} {es : List Expr} {Q : Value → Shared → Prop} {E : Value → Shared → Prop} (hn : noStar (e :: es) = true)
    (h : wpAny (model c.prog c.w) A (spliced ((e :: es).map fun e => (false, eval e env))) (fun vs s₁ => wpAny (model c.prog c.w) A (call (.type T) vs) Q E s₁) E s) :
    wpAny (model c.prog c.w) A (callWith pos (.type T) [] (backTo pos (starEach (e :: es) env)) []) Q E s := by
  rw [starEach_plain hn]
  exact PyProof.Rows.callWith_type (any_false _) (Calls.evalArgs_plain (by simpa using h))
/-- what range hands to a loop -/
noncomputable def rngA (as : List AV) (P : Src → List AV → Prop) : Prop :=
  match as with
  | [.int b] => (match rangeA 0 b 1 with | some xs => P (.rng 0 1 xs.length) xs | none => False)
  | [.int a, .int b] => (match rangeA a b 1 with | some xs => P (.rng a 1 xs.length) xs | none => False)
  | _ => False
theorem ITR_range (ok : CxOk c) {id : Str} {e : Expr} {es : List Expr} {p pos : Pos} {P : Src → List AV → AH → Prop} (hb : BName c env id (.type "range")) (hn : noStar (e :: es) = true)
    (h : VEs c d env (e :: es) loc H fun as H1 => rngA as fun S xs => P S xs H1) : ITR c d env (.Call (.Name id p) (e :: es) [] pos) loc H P := by
  intro A hA s ρ hH hF
  refine wpAny_Call_NameR (TR.seq (TR_builtin ok (P := fun _ H' => H' = H) hb.hk hb.hd hb.hg hb.hn hb.hv rfl) hA hH hF fun u h₀ tk₀ ρ₀ H₀ _ at0 f0 x0 r0 p0 => ?_)
  subst r0 p0
  refine callWith_T (s := { s with heap := h₀, toks := tk₀ }) hn (TR.seq (s := { s with heap := h₀, toks := tk₀ }) h hA at0 f0 fun vs h₁ tk₁ ρ₁ H₁ as at1 f1 x1 r1 p1 => ?_)
  have go : ∀ (a b : Int) (xs : List AV) (r : Obj) (t u v : Tok) (tk : Nat), rangeA a b 1 = some xs → P (.rng a 1 xs.length) xs H₁ → r = { cls := .type "range", data := .fields #[.int a t, .int b u, .int 1 v] } →
      wpAny (model c.prog c.w) A (pyIter (.ref h₁.objs.size)) (PostI c s ρ H₀ P) (fun _ _ => False) { s with heap := h₁.push r, toks := tk } := by
    intro a b xs r t u v tk hr hp hrr
    obtain ⟨q1, q2, q3, q4, q5, q6, q7, q8⟩ := rangeA_of hr
    subst hrr
    refine wpAny_pyIter_range (s := { s with heap := h₁.push { cls := .type "range", data := .fields #[.int a t, .int b u, .int 1 v] }, toks := tk }) (Heap.get?_push_size _ rfl) q8 ?_
    obtain ⟨a2, x2⟩ := at1.other (h' := (h₁.push { cls := .type "range", data := .fields #[.int a t, .int b u, .int 1 v] }).push { cls := .type "range_iterator", data := .fields #[rawInt a, rawInt (Builtin.Range.rangeSize a b 1), rawInt 1] }) fun _ _ e => Heap.get?_push_of_some _ (Heap.get?_push_of_some _ e)
    have hne : h₁.get? (h₁.push ({ cls := .type "range", data := .fields #[.int a t, .int b u, .int 1 v] } : Obj)).objs.size = Option.none := by
      cases e : h₁.get? (h₁.push ({ cls := .type "range", data := .fields #[.int a t, .int b u, .int 1 v] } : Obj)).objs.size with
      | none => rfl
      | some o => have h9 := Heap.lt_size e; rw [Heap.size_push] at h9; exact absurd h9 (Nat.not_lt.mpr (Nat.le_succ _))
    have hlen : xs.length = (Builtin.Range.rangeSize a b 1).toNat := by rw [q7, intsA_len]
    refine ⟨_, tk, ρ₁, H₁, .rng a 1 xs.length, xs, _, rfl, rfl, a2, Ext.trans hH (Ext.trans hH x0 x1) x2, ?_, notIn_none at1 hne, get_none_of_ext (Ext.trans hH x0 x1) hne, ?_, hp⟩
    · show IsRangeIter _ _ (a + ((0 : Nat) : Int) * 1) ((xs.length : Int) - ((0 : Nat) : Int)) 1
      have e1 : a + ((0 : Nat) : Int) * 1 = a := by simp
      have e2 : (xs.length : Int) - ((0 : Nat) : Int) = Builtin.Range.rangeSize a b 1 := by rw [hlen, Int.toNat_of_nonneg q6]; simp
      rw [e1, e2]
      exact Heap.get?_push_size _ rfl
    · simp only [srcIts]; rw [hlen, ← q7]
  unfold rngA at p1
  split at p1
  · match vs, r1 with
    | [_], ⟨⟨t, rfl⟩, _⟩ =>
      split at p1
      · rename_i xs hr
        exact call_range_1 (go 0 _ xs _ _ _ _ _ hr p1 rfl)
      · exact p1.elim
  · match vs, r1 with
    | [_, _], ⟨⟨t, rfl⟩, ⟨t', rfl⟩, _⟩ =>
      split at p1
      · rename_i xs hr
        exact call_range_2 (go _ _ xs _ _ _ _ _ hr p1 rfl)
      · exact p1.elim
  · exact p1.elim
/-- list(range(a, b, c)) -/
theorem VE_lrange (ok : CxOk c) {id id' : Str} {e1 e2 e3 : Expr} {p pos p' pos' : Pos} {P : AV → AH → Prop} (hb : BName c env id (.type "list")) (hb' : BName c env id' (.type "range")) (hn : noStar [e1, e2, e3] = true)
    (h : VEs c d env [e1, e2, e3] loc H fun as H1 => match as with | [.int a, .int b, .int st] => (match rangeA a b st with | some xs => newL H1 xs P | none => False) | _ => False) :
    VE c d env (.Call (.Name id p) [.Call (.Name id' p') [e1, e2, e3] [] pos'] [] pos) loc H P := by
  intro A hA s ρ hH hF
  refine wpAny_Call_NameR (TR.seq (TR_builtin ok (P := fun _ H' => H' = H) hb.hk hb.hd hb.hg hb.hn hb.hv rfl) hA hH hF fun u h₀ tk₀ ρ₀ H₀ _ at0 f0 x0 r0 p0 => ?_)
  subst r0 p0
  refine callWith_T (s := { s with heap := h₀, toks := tk₀ }) rfl (Calls.spliced_cons ?_)
  refine wpAny_Call_NameR (TR.seq (s := { s with heap := h₀, toks := tk₀ }) (TR_builtin ok (P := fun _ H' => H' = H₀) hb'.hk hb'.hd hb'.hg hb'.hn hb'.hv rfl) hA at0 f0 fun u h₀' tk₀' ρ₀' H₀' _ at0' f0' x0' r0 p0 => ?_)
  subst r0 p0
  refine callWith_T (s := { s with heap := h₀', toks := tk₀' }) hn (TR.seq (s := { s with heap := h₀', toks := tk₀' }) h hA at0' f0' fun vs h₁ tk₁ ρ₁ H₁ as at1 f1 x1 r1 p1 => ?_)
  split at p1
  · rename_i a b st
    match vs, r1 with
    | [_, _, _], ⟨⟨t, rfl⟩, ⟨t', rfl⟩, ⟨t'', rfl⟩, _⟩ =>
      split at p1
      · rename_i xs hr
        obtain ⟨q1, q2, q3, q4, q5, q6, q7, q8⟩ := rangeA_of hr
        obtain ⟨hs, p1⟩ := gd_iff.mp p1
        simp only [small, Bool.and_eq_true, decide_eq_true_eq] at q3
        refine call_range_3 (by omega) ?_ (.inl (PyProof.noPylong_small (by omega)))
        refine Calls.spliced_nil ?_
        refine call_list_range (s := { s with heap := h₁.push { cls := .type "range", data := .fields #[.int a t, .int b t', .int st t''] }, toks := tk₁ }) (n := (Builtin.Range.rangeSize a b st).toNat) hA.han (Heap.get?_push_size _ rfl) q8 (by omega) (by omega) fun h' tk acc' c' kp hS hit => ?_
        obtain ⟨a2, x2⟩ := at1.other (h' := h₁.push { cls := .type "range", data := .fields #[.int a t, .int b t', .int st t''] }) fun _ _ e => Heap.get?_push_of_some _ e
        have hv : ValL ρ₁ xs acc'.toList := by
          rw [q7]
          exact intsA_val st _ a _ (by simpa using hit.1) fun j v hj => hit.2 j v (by simpa using hj)
        have hpl : h'.PlainList (h₁.push ({ cls := .type "range", data := .fields #[.int a t, .int b t', .int st t''] } : Obj)).objs.size acc'.toList.toArray := ⟨c', by simpa using hS⟩
        obtain ⟨a3, x3⟩ := a2.new (p := true) kp (size_none _) hv (Nat.le_of_ble_eq_true hs) hpl.isList (fun _ => hpl)
        have hxx := Ext.trans hH (Ext.trans hH (Ext.trans hH x0 x0') x1) (Ext.trans at1 x2 x3)
        exact ⟨h', tk, _, _, .ref H₁.length, rfl, a3, hxx, ⟨_, by rw [← at1.len]; simp, rfl⟩, p1⟩
      · exact p1.elim
  · exact p1.elim
/-! the for loop -/
theorem AtH.but {hb h h' : Heap} (a : AtH hb ρ H h) {I : Addr} (hI : I ∉ ρ) (hbI : hb.get? I = Option.none) (kp : ∀ b o, b ≠ I → h.get? b = some o → h'.get? b = some o) : AtH hb ρ H h' := by
  refine ⟨fun b o e => kp b o ?_ (a.keep b o e), a.len, a.nodup, fun i o b e1 e2 => ?_⟩
  · rintro rfl; rw [hbI] at e; cases e
  · obtain ⟨vs, ⟨oo, g1, g1'⟩, g2, g3, g4, g5⟩ := a.obj i o b e1 e2
    have ha : b ≠ I := fun e => hI (e ▸ List.mem_of_getElem? e2)
    exact ⟨vs, ⟨oo, kp _ _ ha g1, g1'⟩, g2, g3, fun w => (g4 w).at fun _ e => kp _ _ ha e, g5⟩
theorem AtF.but {hb h h' : Heap} (f : AtF hb ρ env loc h) {I : Addr} (h1 : I ≠ env.locals) (h2 : ∀ x, env.cells.lookup x ≠ some I) (kp : ∀ b o, b ≠ I → h.get? b = some o → h'.get? b = some o) : AtF hb ρ env loc h' where
  kind := f.kind
  glob := f.glob
  blt := f.blt
  ns := by
    obtain ⟨m, ⟨o, es, ep, ho, r⟩, hm⟩ := f.ns
    exact ⟨m, ⟨o, es, ep, kp _ o (Ne.symm h1) ho, r⟩, hm⟩
  cl := fun y c e => by
    obtain ⟨⟨v₀, o, ho, hd⟩, q2, q3, q4⟩ := f.cl y c e
    exact ⟨⟨v₀, o, kp _ o (fun e' => h2 y (e' ▸ e)) ho, hd⟩, q2, q3, q4⟩
  inj := f.inj
  cv := fun y v hy e k => by
    obtain ⟨hk, c, v', e1, ⟨o, ho, hd⟩, hv⟩ := f.cv y v hy e k
    exact ⟨hk, c, v', e1, ⟨o, kp _ o (fun e' => h2 _ (e' ▸ e1)) ho, hd⟩, hv⟩
  nρ := f.nρ
  nb := f.nb
theorem Ext.touch {X : Addr → Prop} {ρ' : List Addr} {H' : AH} {h h₁ h₂ : Heap} (x : Ext X ρ H h ρ' H' h₁) {I : Addr} (hI : h.get? I = Option.none) (kp : ∀ b o, b ≠ I → h₁.get? b = some o → h₂.get? b = some o) : Ext X ρ H h ρ' H' h₂ where
  pre := x.pre
  fl := x.fl
  fresh := x.fresh
  kp := fun b o e nm nx => kp b o (by rintro rfl; rw [hI] at e; cases e) (x.kp b o e nm nx)
  per := fun b o e => by
    obtain ⟨o', e'⟩ := x.per b o e
    exact ⟨o', kp b o' (by rintro rfl; rw [hI] at e; cases e) e'⟩
theorem Ext.at {X : Addr → Prop} {ρ' : List Addr} {H' : AH} {h h' : Heap} (x : Ext X ρ H h ρ' H' h') {I : Addr} {o : Obj} (hI : h.get? I = some o) (hn : I ∉ ρ) (hX : ¬ X I) : h'.get? I = some o := x.kp I o hI (notIn_of hn) hX
theorem VS_for {x : Nat} {id : Str} {it : Expr} {b o : List Stmt} {px pos : Pos} {P : AFl → Loc → AH → Prop} (hid : id = vS x) (hs : Sto env x) (J : Src → List AV → Nat → Loc → AH → Prop)
    (h : ITR c d env it loc H fun S xs H1 => J S xs 0 loc H1)
    (turn : ∀ S xs k l H1 v, J S xs k l H1 → srcIts S H1 = some xs → xs[k]? = some v → VSs c d env b (lset l x v) H1 fun a l' H2 => match a with
      | .next => J S xs (k + 1) l' H2 ∧ srcIts S H2 = some xs | .cont => J S xs (k + 1) l' H2 ∧ srcIts S H2 = some xs | .brk => P .next l' H2 | .ret v => P (.ret v) l' H2)
    (done : ∀ S xs l H1, J S xs xs.length l H1 → srcIts S H1 = some xs → VSs c d env o l H1 P)
    (hfs : ∀ v, foldedSetIterable it env v = pure v) : VS c d env (.For (.Name id px) it b o pos) loc H P := by
  subst hid
  intro A hA s ρ hH hF
  refine wpAny_For (wpAny_mono (h A hA s ρ hH hF) (fun v s₁ h₁ => wpAny_mono h₁ (fun itv s₂ h₂ => ?_) fun _ _ e => e.elim) fun _ _ e => e.elim) hfs
  obtain ⟨h₀, tk₀, ρ₀, H₀, S, xs, I, rfl, rfl, at0, x0, it0, hI0, hIs, hx0, j0⟩ := h₂
  have hbI : c.hb.get? I = Option.none := by
    cases e : c.hb.get? I with
    | none => rfl
    | some o' => rw [hH.keep _ _ e] at hIs; cases hIs
  have hIL : I ≠ env.locals := by
    rintro rfl
    obtain ⟨m, ⟨oo, _, _, ho, _⟩, _⟩ := hF.ns
    rw [hIs] at ho; cases ho
  have hIC : ∀ y, env.cells.lookup y ≠ some I := by
    intro y e
    obtain ⟨⟨v₀, oo, ho, _⟩, _⟩ := hF.cl y I e
    rw [hIs] at ho; cases ho
  have hIX : ¬ FrX env I := fun hx => hx.elim hIL fun ⟨y, e⟩ => hIC y e
  refine codeAny_forLoop (fun n s' => ∃ h₁ tk₁ ρ₁ H₁ l k, s' = { s with heap := h₁, toks := tk₁ } ∧ AtH c.hb ρ₁ H₁ h₁ ∧ AtF c.hb ρ₁ env l h₁ ∧ Ext (FrX env) ρ H s.heap ρ₁ H₁ h₁ ∧ ItSt S I k ρ₁ h₁ ∧ I ∉ ρ₁ ∧ srcIts S H₁ = some xs ∧ J S xs k l H₁ ∧ k + n = xs.length) ?_ xs.length
    ⟨h₀, tk₀, ρ₀, H₀, loc, 0, rfl, at0, hF.ext x0, x0.up, it0, hI0, hx0, j0, by omega⟩
  rintro n _ ⟨h₁, tk₁, ρ₁, H₁, l, k, rfl, at1, f1, x1, it1, hI1, hx1, j1, hkn⟩
  cases hk : xs[k]? with
  | none =>
    have hke : k = xs.length := by have := List.getElem?_eq_none_iff.mp hk; omega
    subst hke
    refine It_done (s := { s with heap := h₁, toks := tk₁ }) hA at1 it1 hx1 hk fun h' kp => ?_
    refine TS.seq (s := { s with heap := h', toks := tk₁ }) (done S xs l H₁ j1 hx1) hA (at1.but hI1 hbI kp) (f1.but hIL hIC kp) fun f h₃ tk₃ ρ₃ H₃ l₃ a at3 f3 x3 r3 p3 => ?_
    exact PostS.here at3 f3 (Ext.trans hH (x1.touch hIs kp) x3) r3 p3
  | some v =>
    have hlt : k < xs.length := (List.getElem?_eq_some_iff.mp hk).1
    refine It_next (s := { s with heap := h₁, toks := tk₁ }) at1 it1 hx1 hk fun u h' tk' hu it' kp => ?_
    have a2 := at1.but hI1 hbI kp
    have f2 := f1.but hIL hIC kp
    have x2 := x1.touch hIs kp
    refine wpAny_assign_Name (wp_store (s := { s with heap := h', toks := tk' }) a2 f2 hu hs fun h₃ tk₃ a3 f3 x3 => ?_)
    have it3 : ItSt S I (k + 1) ρ₁ h₃ := it'.keep (List.prefix_refl _) fun o e => x3.at e hI1 hIX
    refine TS.seq (s := { s with heap := h₃, toks := tk₃ }) (turn S xs k l H₁ v j1 hx1 hk) hA a3 f3 fun f h₄ tk₄ ρ₄ H₄ l₄ a at4 f4 x4 r4 p4 => ?_
    have xx := Ext.trans hH (Ext.trans hH x2 x3) x4
    have it4 : ItSt S I (k + 1) ρ₄ h₄ := it3.keep x4.pre fun o e => x4.at e hI1 hIX
    have hI4 : I ∉ ρ₄ := by
      cases q : h₃.get? I with
      | some o => exact notIn_ext x4 q hI1
      | none =>
        cases S with
        | lst i => obtain ⟨b, _, oo, ho, _⟩ := it3; rw [q] at ho; cases ho
        | rng a st n => rw [show h₃.get? I = some _ from it3] at q; cases q
    cases a with
    | next => cases r4; exact ⟨n - 1, by omega, h₄, tk₄, ρ₄, H₄, l₄, k + 1, rfl, at4, f4, xx, it4, hI4, p4.2, p4.1, by omega⟩
    | cont => cases r4; exact ⟨n - 1, by omega, h₄, tk₄, ρ₄, H₄, l₄, k + 1, rfl, at4, f4, xx, it4, hI4, p4.2, p4.1, by omega⟩
    | brk => cases r4; exact PostS.here (a := .next) at4 f4 xx rfl p4
    | ret w => obtain ⟨u', rfl, hv⟩ := r4; exact PostS.here (a := .ret w) at4 f4 xx ⟨u', rfl, hv⟩ p4
end
end Mine
namespace Mine
section
variable {c : Cx} {d : Nat} {env : Env} {loc : Loc} {H : AH} {A : Around} {s : Shared} {ρ : List Addr}
noncomputable def CX (D C : Addr) : Addr → Prop := fun b => b = D ∨ b = C
theorem AtF.extX {hb : Heap} {X : Addr → Prop} {ρ' : List Addr} {H' : AH} {h h' : Heap} (f : AtF hb ρ env loc h) (x : Ext X ρ H h ρ' H' h') (hL : ¬ X env.locals) (hC : ∀ y c, env.cells.lookup y = some c → ¬ X c) : AtF hb ρ' env loc h' where
  kind := f.kind
  glob := f.glob
  blt := f.blt
  ns := by
    obtain ⟨m, hn, hm⟩ := f.ns
    refine ⟨m, ?_, fun y v hy e k => ?_⟩
    · obtain ⟨o, es, ep, ho, r⟩ := hn
      exact ⟨o, es, ep, x.kp _ o ho (notIn_of f.nρ) hL, r⟩
    · obtain ⟨v', e', hv⟩ := hm y v hy e k
      exact ⟨v', e', hv.mono x.pre⟩
  cl := fun y c e => by
    obtain ⟨⟨v₀, o, ho, hd⟩, h2, h3, h4⟩ := f.cl y c e
    exact ⟨⟨v₀, o, x.kp _ o ho (notIn_of h2) (hC y c e), hd⟩, notIn_ext x ho h2, h3, h4⟩
  inj := f.inj
  cv := fun y v hy e k => by
    obtain ⟨hk, c, v', e1, ⟨o, ho, hd⟩, hv⟩ := f.cv y v hy e k
    exact ⟨hk, c, v', e1, ⟨o, x.kp _ o ho (notIn_of (f.cl _ _ e1).2.1) (hC _ c e1), hd⟩, hv.mono x.pre⟩
  nρ := by
    obtain ⟨m, ⟨o, _, _, ho, _⟩, _⟩ := f.ns
    exact notIn_ext x ho f.nρ
  nb := f.nb
theorem AtF.less {hb h : Heap} {loc' : Loc} (f : AtF hb ρ env loc h) (hl : ∀ x v, lget loc' x = some v → lget loc x = some v) : AtF hb ρ env loc' h :=
  ⟨f.kind, f.glob, f.blt, (let ⟨m, hn, hm⟩ := f.ns; ⟨m, hn, fun x v hx e k => hm x v hx (hl x v e) k⟩), f.cl, f.inj, fun x v hx e k => f.cv x v hx (hl x v e) k, f.nρ, f.nb⟩
/-- the list that is being filled, apart -/
noncomputable def AccAt (D : Addr) (acc : List AV) (ρ : List Addr) (h : Heap) : Prop := ∃ ys : List Value, h.PlainList D ys.toArray ∧ ValL ρ acc ys ∧ acc.length ≤ 5000
theorem AccAt.keep {D : Addr} {acc : List AV} {ρ' : List Addr} {h h' : Heap} (x : AccAt D acc ρ h) (pre : ρ <+: ρ') (kp : ∀ o, h.get? D = some o → h'.get? D = some o) : AccAt D acc ρ' h' :=
  let ⟨ys, h1, h2, h3⟩ := x; ⟨ys, h1.at kp, h2.mono pre, h3⟩
theorem AccAt.some {D : Addr} {acc : List AV} {h : Heap} (x : AccAt D acc ρ h) : ∃ o, h.get? D = some o := let ⟨_, ⟨_, e⟩, _⟩ := x; ⟨_, e⟩
structure Apart (c : Cx) (env : Env) (D : Addr) : Prop where
  hb : c.hb.get? D = Option.none
  loc : D ≠ env.locals
  cel : ∀ y, env.cells.lookup y ≠ some D
noncomputable def CTR (c : Cx) (d : Nat) (env : Env) (D : Addr) (loc : Loc) (H : AH) (acc : List AV) (t : Sem Unit) (P : List AV → AH → Prop) : Prop :=
  ∀ A, AOk d A → ∀ s ρ, AtH c.hb ρ H s.heap → AtF c.hb ρ env loc s.heap → AccAt D acc ρ s.heap → D ∉ ρ → Apart c env D →
    wpAny (model c.prog c.w) A t (fun _ s' => ∃ h' tk' ρ' H' acc', s' = { s with heap := h', toks := tk' } ∧ AtH c.hb ρ' H' h' ∧ AtF c.hb ρ' env loc h' ∧ Ext (CX D env.locals) ρ H s.heap ρ' H' h' ∧ AccAt D acc' ρ' h' ∧ D ∉ ρ' ∧ P acc' H') (fun _ _ => False) s
theorem CTR.seq {D : Addr} {acc : List AV} {t : Sem Unit} {P : List AV → AH → Prop} {Q : Unit → Shared → Prop} {E : Value → Shared → Prop} (h : CTR c d env D loc H acc t P) (hA : AOk d A) (hH : AtH c.hb ρ H s.heap) (hF : AtF c.hb ρ env loc s.heap) (hc : AccAt D acc ρ s.heap) (hD : D ∉ ρ) (ha : Apart c env D)
    (k : ∀ h₁ tk₁ ρ₁ H₁ acc', AtH c.hb ρ₁ H₁ h₁ → AtF c.hb ρ₁ env loc h₁ → Ext (CX D env.locals) ρ H s.heap ρ₁ H₁ h₁ → AccAt D acc' ρ₁ h₁ → D ∉ ρ₁ → P acc' H₁ → Q () { s with heap := h₁, toks := tk₁ }) : wpAny (model c.prog c.w) A t Q E s :=
  wpAny_mono (h A hA s ρ hH hF hc hD ha) (fun _ s' q => by
    obtain ⟨h', tk', ρ', H', acc', rfl, a1, f1, x1, c1, d1, p1⟩ := q
    exact k h' tk' ρ' H' acc' a1 f1 x1 c1 d1 p1) fun _ _ e => e.elim
theorem wp_emit {D : Addr} {acc : List AV} {r : AV} {u : Value} {Q : Value → Shared → Prop} {E : Value → Shared → Prop} (hH : AtH c.hb ρ H s.heap) (hF : AtF c.hb ρ env loc s.heap) (hc : AccAt D acc ρ s.heap) (hD : D ∉ ρ) (ha : Apart c env D) (hr : Val ρ r u) (hl : acc.length ≤ 4999)
    (k : ∀ h', AtH c.hb ρ H h' → AtF c.hb ρ env loc h' → Ext (CX D env.locals) ρ H s.heap ρ H h' → AccAt D (acc ++ [r]) ρ h' → (∀ b o, b ≠ D → s.heap.get? b = some o → h'.get? b = some o) → Q .none { s with heap := h' }) :
    wpAny (model c.prog c.w) A (call (.builtin "list.append") [.ref D, u]) Q E s := by
  obtain ⟨ys, h1, h2, h3⟩ := hc
  have hyl := h2.length
  refine wpAny_list_append_plain h1 (fun h' hl' sb => ?_) (fit5000 (by omega))
  have kp : ∀ b o, b ≠ D → s.heap.get? b = some o → h'.get? b = some o := fun b o hb e => sb.extBut b o hb e
  refine k h' (hH.but hD ha.hb kp) (hF.but ha.loc ha.cel kp) ⟨List.prefix_refl _, fun i o e => ⟨o, e, rfl⟩, (fun i a hi e => by rw [List.getElem?_eq_none hi] at e; cases e), fun b o e _ hX => kp b o (fun e' => hX (.inl e')) e, fun b o e => ?_⟩ ⟨ys ++ [u], by simpa using hl', h2.append (ys := [r]) (us := [u]) ⟨hr, trivial⟩, by simp; omega⟩ kp
  by_cases hb : b = D
  · subst hb; obtain ⟨n, e'⟩ := hl'; exact ⟨_, e'⟩
  · exact ⟨o, kp b o hb e⟩
theorem CTR_emit {D : Addr} {acc : List AV} {elt : Expr} {P : List AV → AH → Prop} (h : VE c d env elt loc H fun r H1 => gd (Nat.ble acc.length 4999) (P (acc ++ [r]) H1)) :
    CTR c d env D loc H acc (eval elt env >>= fun x => call (.builtin "list.append") [.ref D, x] >>= fun _ => pure ()) P := by
  intro A hA s ρ hH hF hc hD ha
  refine wpAny_bind (TR.seq h hA hH hF fun u h₁ tk₁ ρ₁ H₁ r at1 f1 x1 r1 p1 => ?_)
  obtain ⟨o, ho⟩ := hc.some
  obtain ⟨hl, p1⟩ := gd_iff.mp p1
  have c1 := hc.keep x1.pre fun o e => x1.at e hD id
  refine wpAny_bind (wp_emit (s := { s with heap := h₁, toks := tk₁ }) at1 f1 c1 (notIn_ext x1 ho hD) ha r1 (Nat.le_of_ble_eq_true hl) fun h' a2 f2 x2 c2 _ => wpAny_pure ?_)
  exact ⟨h', tk₁, ρ₁, H₁, _, rfl, a2, f2, Ext.trans hH (x1.weak fun _ e => e.elim) x2, c2, notIn_ext x1 ho hD, p1⟩
/-- one loop of a comprehension -/
theorem comp_loop {e : Expr} {dep : Nat} {I D : Addr} {x : Nat} {px p : Pos} {body : Sem Unit} {R : Result → Shared → Prop} {S : Src} {xs acc : List AV} (hs : Sto env x) (hx : env.kindOf (vS x) = some .local) (hle : ∀ y v, lget loc y = some v → y ≠ x)
    (heq : compTurn e dep (.ref I) (.ref D) env = (standAt p >>= fun _ => pyNext (.ref I) >>= fun r => match r with
      | none => pure (.done .next)
      | some v => letOwnedTupleGo (.Name (vS x) px) (.ref I) v >>= fun _ => assign (.Name (vS x) px) env v >>= fun _ => body >>= fun _ => again (.compLoop e dep (.ref I) (.ref D) env)))
    (hden : ∀ M : Model, (model c.prog c.w).den (.compLoop e dep (.ref I) (.ref D) env) = (compTurn e dep (.ref I) (.ref D) env).onRaise (fun x => do noteFrame x env; theTreesLotGoes x))
    (hund : A.under (.compLoop e dep (.ref I) (.ref D) env) = A) (hq : (Code.compLoop e dep (.ref I) (.ref D) env).quiet = true)
    (J : Nat → List AV → AH → Prop) (hA : AOk d A) (hH : AtH c.hb ρ H s.heap) (hF : AtF c.hb ρ env loc s.heap) (hacc : AccAt D acc ρ s.heap) (hD : D ∉ ρ) (ha : Apart c env D)
    {h₀ : Heap} {ρ₀ : List Addr} {H₀ : AH} (hH₀ : AtH c.hb ρ₀ H₀ h₀) (x₀ : Ext (CX D env.locals) ρ₀ H₀ h₀ ρ H s.heap) (hI₀ : h₀.get? I = Option.none) (it0 : ItSt S I 0 ρ s.heap) (hI : I ∉ ρ) (hIa : Apart c env I) (hID : I ≠ D) (hx0 : srcIts S H = some xs) (j0 : J 0 acc H)
    (turn : ∀ k acc H1 v, J k acc H1 → srcIts S H1 = some xs → xs[k]? = some v → CTR c d env D (lset loc x v) H1 acc body fun acc' H2 => J (k + 1) acc' H2 ∧ srcIts S H2 = some xs)
    (done : ∀ h₁ tk₁ ρ₁ H₁ acc, AtH c.hb ρ₁ H₁ h₁ → AtF c.hb ρ₁ env loc h₁ → Ext (CX D env.locals) ρ₀ H₀ h₀ ρ₁ H₁ h₁ → AccAt D acc ρ₁ h₁ → D ∉ ρ₁ → J xs.length acc H₁ → srcIts S H₁ = some xs → R (.ok .next) { s with heap := h₁, toks := tk₁ }) :
    codeAny (model c.prog c.w) A (.compLoop e dep (.ref I) (.ref D) env) R s := by
  have hIX : ¬ CX D env.locals I := fun h => h.elim hID hIa.loc
  refine codeAny_loop hq (fun n s' => ∃ h₁ tk₁ ρ₁ H₁ k acc, s' = { s with heap := h₁, toks := tk₁ } ∧ AtH c.hb ρ₁ H₁ h₁ ∧ AtF c.hb ρ₁ env loc h₁ ∧ Ext (CX D env.locals) ρ₀ H₀ h₀ ρ₁ H₁ h₁ ∧ AccAt D acc ρ₁ h₁ ∧ D ∉ ρ₁ ∧ ItSt S I k ρ₁ h₁ ∧ I ∉ ρ₁ ∧ srcIts S H₁ = some xs ∧ J k acc H₁ ∧ k + n = xs.length) ?_ xs.length
    ⟨s.heap, s.toks, ρ, H, 0, acc, rfl, hH, hF, x₀, hacc, hD, it0, hI, hx0, j0, by omega⟩
  rintro n _ ⟨h₁, tk₁, ρ₁, H₁, k, acc, rfl, at1, f1, x1, c1, d1, it1, hI1, hx1, j1, hkn⟩
  rw [hden (model c.prog c.w), hund]
  refine wpAny_noted ?_
  rw [heq]
  refine wpAny_bind (wpAny_standAt (wpAny_bind ?_))
  cases hk : xs[k]? with
  | none =>
    have hke : k = xs.length := by have := List.getElem?_eq_none_iff.mp hk; omega
    subst hke
    refine It_done (s := { s with heap := h₁, toks := tk₁ }) hA at1 it1 hx1 hk fun h' kp => wpAny_pure ?_
    exact done h' tk₁ ρ₁ H₁ acc (at1.but hI1 hIa.hb kp) (f1.but hIa.loc hIa.cel kp) (x1.touch hI₀ kp) (c1.keep (List.prefix_refl _) fun o e => kp D o (Ne.symm hID) e) d1 j1 hx1
  | some v =>
    have hlt : k < xs.length := (List.getElem?_eq_some_iff.mp hk).1
    refine It_next (s := { s with heap := h₁, toks := tk₁ }) at1 it1 hx1 hk fun u h' tk' hu it' kp => ?_
    have a2 := at1.but hI1 hIa.hb kp
    have f2 := f1.but hIa.loc hIa.cel kp
    have c2 := c1.keep (List.prefix_refl _) fun o e => kp D o (Ne.symm hID) e
    have x2 := x1.touch hI₀ kp
    refine wpAny_bind (wpAny_of_eq (show letOwnedTupleGo (.Name (vS x) px) (.ref I) u = pure () from rfl) (wpAny_bind ?_))
    refine wpAny_assign_Name (wp_storeX (s := { s with heap := h', toks := tk' }) a2 f2 hu hs fun h₃ tk₃ a3 f3 x3 => ?_)
    have x3' : Ext (CX D env.locals) ρ₁ H₁ h' ρ₁ H₁ h₃ := x3.weak fun b hb => hb.elim (fun h => .inr h.2) fun h => by rw [hx] at h; cases h.1
    have nX : ∀ b, b ≠ env.locals → ¬ StoX env x b := fun b hb h => h.elim (fun h => hb h.2) fun h => by rw [hx] at h; cases h.1
    have it3 : ItSt S I (k + 1) ρ₁ h₃ := it'.keep (List.prefix_refl _) fun o e => x3.at e hI1 (nX I hIa.loc)
    have c3 := c2.keep (List.prefix_refl _) fun o e => x3.at e d1 (nX D ha.loc)
    refine wpAny_bind (CTR.seq (s := { s with heap := h₃, toks := tk₃ }) (turn k acc H₁ v j1 hx1 hk) hA a3 f3 c3 d1 ha fun h₄ tk₄ ρ₄ H₄ acc' a4 f4 x4 c4 d4 p4 => wpAny_pure ?_)
    obtain ⟨o3, ho3⟩ : ∃ o, h₃.get? I = some o := by
      cases S with
      | lst i => obtain ⟨b, _, oo, ho, _⟩ := it3; exact ⟨oo, ho⟩
      | rng a st n => exact ⟨_, it3⟩
    have xx := Ext.trans hH₀ (Ext.trans hH₀ x2 x3') x4
    have it4 : ItSt S I (k + 1) ρ₄ h₄ := it3.keep x4.pre fun o e => x4.at e hI1 hIX
    exact ⟨rfl, n - 1, by omega, h₄, tk₄, ρ₄, H₄, k + 1, acc', rfl, a4, f4.less fun y w e => by rw [lget_lset, if_neg (Ne.symm (hle y w e))]; exact e, xx, c4, d4, it4, notIn_ext x4 ho3 hI1, p4.2, p4.1, by omega⟩
end
end Mine
namespace Mine
section
variable {c : Cx} {d : Nat} {env : Env} {loc : Loc} {H : AH} {A : Around} {s : Shared} {ρ : List Addr}
theorem Ext.drop {X : Addr → Prop} {ρ' : List Addr} {H' : AH} {h h' : Heap} (x : Ext X ρ H h ρ' H' h') (hX : ∀ b, X b → h.get? b = Option.none) : Ext NoX ρ H h ρ' H' h' :=
  { x with kp := fun b o e nm _ => x.kp b o e nm fun hb => by rw [hX b hb] at e; cases e }
theorem AtH.adopt {hb h h₀ : Heap} {ρ₀ : List Addr} {H₀ : AH} (a : AtH hb ρ H h) {D : Addr} {acc : List AV} (hc : AccAt D acc ρ h) (hD : D ∉ ρ) (hbD : hb.get? D = Option.none) (x : Ext NoX ρ₀ H₀ h₀ ρ H h) (hD₀ : h₀.get? D = Option.none) :
    AtH hb (ρ ++ [D]) (H ++ [⟨true, true, acc⟩]) h ∧ Ext NoX ρ₀ H₀ h₀ (ρ ++ [D]) (H ++ [⟨true, true, acc⟩]) h := by
  obtain ⟨ys, h1, h2, h3⟩ := hc
  have pre : ρ <+: ρ ++ [D] := List.prefix_append _ _
  have last : ∀ {i : Nat} {b : Addr}, ρ.length ≤ i → (ρ ++ [D])[i]? = some b → b = D := by
    intro i b hi e
    rw [List.getElem?_append_right hi] at e
    have h0 : i - ρ.length = 0 := by
      have := (List.getElem?_eq_some_iff.mp e).1
      simp at this; omega
    rw [h0] at e
    simpa using e.symm
  refine ⟨⟨a.keep, by simp [a.len], ?_, fun i o b e1 e2 => ?_⟩, ⟨x.pre.trans pre, fun i o e => ?_, fun i b hi e => ?_, x.kp, x.per⟩⟩
  · rw [List.nodup_append]
    refine ⟨a.nodup, by simp, fun b hm c hc => ?_⟩
    simp only [List.mem_singleton] at hc
    subst hc
    exact fun e => hD (e ▸ hm)
  · by_cases hl : i < ρ.length
    · rw [List.getElem?_append_left hl] at e2
      rw [List.getElem?_append_left (a.len ▸ hl)] at e1
      obtain ⟨us, g1, g2, g3⟩ := a.obj i o b e1 e2
      exact ⟨us, g1, g2.mono pre, g3⟩
    · have hge := Nat.le_of_not_lt hl
      have hbD' := last hge e2
      rw [List.getElem?_append_right (a.len ▸ hge)] at e1
      have h0 : i - H.length = 0 := by
        have := (List.getElem?_eq_some_iff.mp e1).1
        simp at this; omega
      rw [h0] at e1
      simp at e1
      subst e1 hbD'
      exact ⟨ys, h1.isList, h2.mono pre, fun _ => hbD, fun _ => h1, h3⟩
  · obtain ⟨o', e', w'⟩ := x.fl i o e
    exact ⟨o', by rw [List.getElem?_append_left (List.getElem?_eq_some_iff.mp e').1]; exact e', w'⟩
  · by_cases hl : i < ρ.length
    · rw [List.getElem?_append_left hl] at e
      exact x.fresh i b hi e
    · rw [last (Nat.le_of_not_lt hl) e]; exact hD₀
theorem It_self {S : Src} {I : Addr} {k : Nat} {Q : Value → Shared → Prop} {E : Value → Shared → Prop} (it : ItSt S I k ρ s.heap) (q : Q (.ref I) s) : wpAny (model c.prog c.w) A (pyIter (.ref I)) Q E s := by
  cases S with
  | lst i => obtain ⟨b, _, it⟩ := it; exact wpAny_pyIter_listiter it q
  | rng a st n => exact wpAny_pyIter_rangeiter it q
/-- what a comprehension's own frame is -/
structure CompOk (env : Env) (scope : Scope) (cl : List (Str × Addr)) (loc loc0 : Loc) : Prop where
  clos : closureFor scope env = pure cl
  sub : ∀ x cc, cl.lookup x = some cc → env.cells.lookup x = some cc
  capt : ∀ x v, x < 48 → lget loc0 x = some v → lget loc x = some v ∧ (∃ cc, cl.lookup (vS x) = some cc) ∧ env.kindOf (vS x) = some .cell ∧ (relabel scope env).names.lookup (vS x) = some .cell
  nocell : ∀ y ∈ scope.names, y.2 ≠ .cell
  kind : scope.kind = .function
  names : ∀ y ∈ scope.names, y.2 = .local → scope.names.lookup y.1 = some .local
/-- the frame, laid -/
theorem comp_frame {hb h h₁ : Heap} {scope : Scope} {cl : List (Str × Addr)} {loc0 : Loc} {C : Addr} (k : CompOk env scope cl loc loc0) (hF : AtF hb ρ env loc h) (hC : h.get? C = Option.none) (hCρ : C ∉ ρ) (hbC : hb.get? C = Option.none)
    (kp : ∀ b o, h.get? b = some o → h₁.get? b = some o) (hn : h₁.Ns C fun _ => Option.none) : AtF hb ρ (compEnvC scope cl C env) loc0 h₁ where
  kind := k.kind
  glob := hF.glob
  blt := hF.blt
  ns := ⟨_, hn, fun x v hx e hk => by
    have h1 := (k.capt x v hx e).2.2.2
    rw [show (compEnvC scope cl C env).kindOf (vS x) = (relabel scope env).names.lookup (vS x) from rfl, h1] at hk
    cases hk⟩
  cl := fun x cc e => by
    obtain ⟨⟨v₀, o, ho, hd⟩, h2, h3, h4⟩ := hF.cl x cc (k.sub x cc e)
    exact ⟨⟨v₀, o, kp _ _ ho, hd⟩, h2, h3, by rintro rfl; rw [hC] at ho; cases ho⟩
  inj := fun x y cc e1 e2 => hF.inj x y cc (k.sub x cc e1) (k.sub y cc e2)
  cv := fun x v hx e _ => by
    obtain ⟨q1, ⟨cc, q2⟩, q3, q4⟩ := k.capt x v hx e
    obtain ⟨_, c', v', e1, ⟨o, ho, hd⟩, hv⟩ := hF.cv x v hx q1 (by rw [q3]; intro e; cases e)
    have hcc : c' = cc := by rw [k.sub _ _ q2] at e1; cases e1; rfl
    subst hcc
    exact ⟨.inl q4, c', v', q2, ⟨o, kp _ _ ho, hd⟩, hv⟩
  nρ := hCρ
  nb := hbC
theorem comp_core {e : Expr} {scope : Scope} {cl : List (Str × Addr)} {loc0 : Loc} {I : Addr} {S : Src} {RR : Value → Addr → Result → Shared → Prop} {E : Value → Shared → Prop} {h₀ : Heap} {ρ₀ : List Addr} {H₀ : AH} (k : CompOk env scope cl loc loc0)
    (hH₀ : AtH c.hb ρ₀ H₀ h₀) (hF₀ : AtF c.hb ρ₀ env loc h₀) (x₀ : Ext NoX ρ₀ H₀ h₀ ρ H s.heap) (hI₀ : h₀.get? I = Option.none) (hH : AtH c.hb ρ H s.heap) (hF : AtF c.hb ρ env loc s.heap) (it0 : ItSt S I 0 ρ s.heap) (hI : I ∉ ρ)
    (loop : ∀ D C h₁ tk₁, h₀.get? D = Option.none → h₀.get? C = Option.none → AtH c.hb ρ H h₁ → AtF c.hb ρ (compEnvC scope cl C env) loc0 h₁ → AccAt D [] ρ h₁ → D ∉ ρ → Apart c (compEnvC scope cl C env) D → Apart c (compEnvC scope cl C env) I → I ≠ D → D ≠ C → Ext (CX D C) ρ₀ H₀ h₀ ρ H h₁ → ItSt S I 0 ρ h₁ →
      codeAny (model c.prog c.w) A (.compStart e 0 (.ref I) (.ref D) (compEnvC scope cl C env)) (RR (.ref D) C) { s with heap := h₁, toks := tk₁ }) :
    wpAny (model c.prog c.w) A (newList []) (fun acc s₃ => wpAny (model c.prog c.w) A (newFunctionEnv scope env.globals cl [] env.qual none .none (some env)) (fun cenv s₄ =>
      codeAny (model c.prog c.w) A (.compStart e 0 (.ref I) acc { cenv with scope := relabel scope env }) (RR acc cenv.locals) s₄) E s₃) E s := by
  refine wpAny_newObj_type (wpAny_newFunctionEnv k.nocell (by intro y hy; simp at hy) (fun h₁ hns hsb => ?_) k.kind)
  dsimp only at hns hsb ⊢
  generalize hH2 : s.heap.push { cls := .type "list", dict := none, data := .seq ([] : List Value).toArray } = H2 at hns hsb ⊢
  have hsz : H2.objs.size = s.heap.objs.size + 1 := by rw [← hH2, Heap.size_push]
  have hDC : s.heap.objs.size ≠ H2.objs.size := by rw [hsz]; exact Nat.ne_of_lt (Nat.lt_succ_self _)
  have hCs : s.heap.get? H2.objs.size = Option.none := by
    cases q : s.heap.get? H2.objs.size with
    | none => rfl
    | some o => have := Heap.lt_size q; rw [hsz] at this; exact absurd this (Nat.not_lt.mpr (Nat.le_succ _))
  have kp : ∀ b o, s.heap.get? b = some o → h₁.get? b = some o := fun b o q =>
    hsb.extBut b o (by rintro rfl; rw [hCs] at q; cases q) (Heap.get?_push_of_some _ (hH2 ▸ Heap.get?_push_of_some _ q))
  obtain ⟨a1, x1⟩ := hH.other kp
  have hbn : ∀ b, s.heap.get? b = Option.none → c.hb.get? b = Option.none := fun b e => by
    cases q : c.hb.get? b with
    | none => rfl
    | some o => rw [hH.keep _ _ q] at e; cases e
  have hplain : h₁.PlainList s.heap.objs.size #[] := ⟨0, hsb.extBut _ _ hDC (Heap.get?_push_of_some _ (hH2 ▸ Heap.get?_push_size _ rfl))⟩
  obtain ⟨oI, hoI⟩ : ∃ o, s.heap.get? I = some o := by
    cases S with
    | lst i => obtain ⟨b, _, oo, ho, _⟩ := it0; exact ⟨oo, ho⟩
    | rng a st n => exact ⟨_, it0⟩
  have hcel : ∀ b, s.heap.get? b = Option.none → ∀ y, cl.lookup y ≠ some b := fun b e y q => by
    obtain ⟨⟨_, o, ho, _⟩, _⟩ := hF.cl y b (k.sub y b q)
    rw [e] at ho; cases ho
  have hIc : ∀ y, cl.lookup y ≠ some I := fun y q => by
    obtain ⟨⟨_, o, ho, _⟩, _⟩ := hF₀.cl y I (k.sub y I q)
    rw [hI₀] at ho; cases ho
  refine loop s.heap.objs.size H2.objs.size h₁ _ (get_none_of_ext x₀ (size_none _)) (get_none_of_ext x₀ hCs) a1 (comp_frame k hF hCs (notIn_none hH hCs) (hbn _ hCs) kp (by simpa using hns)) ⟨[], hplain, trivial, by simp⟩ (notIn_none hH (size_none _)) ⟨hbn _ (size_none _), hDC, hcel _ (size_none _)⟩ ⟨?_, ?_, hIc⟩ ?_ hDC ?_ (it0.keep (List.prefix_refl _) fun o q => kp _ _ q)
  · cases q : c.hb.get? I with
    | none => rfl
    | some o => rw [hH₀.keep _ _ q] at hI₀; cases hI₀
  · show I ≠ H2.objs.size
    rintro rfl; rw [hCs] at hoI; cases hoI
  · rintro rfl; rw [size_none] at hoI; cases hoI
  · exact (Ext.trans hH₀ x₀ x1).weak fun _ e => e.elim
/-! one generator, at most one test -/
theorem compTurn_if (elt target iter t : Expr) (scope : Scope) (pos : Pos) (it acc : Value) (cenv : Env) :
    compTurn (.ListComp elt [⟨target, iter, [t], 0⟩] scope pos) 0 it acc cenv = (standAt iter.pos >>= fun _ => pyNext it >>= fun r => match r with
      | none => pure (.done .next)
      | some v => letOwnedTupleGo target it v >>= fun _ => assign target cenv v >>= fun _ =>
        (isTrue t cenv (eval t cenv) >>= fun ok => if ok = true then (eval elt cenv >>= fun x => call (.builtin "list.append") [acc, x] >>= fun _ => pure ()) else pure ()) >>= fun _ =>
          again (.compLoop (.ListComp elt [⟨target, iter, [t], 0⟩] scope pos) 0 it acc cenv)) := by
  rw [compTurn_list]
  congr 1; funext _
  congr 1; funext r
  cases r with
  | none => rfl
  | some v =>
    simp only [List.forIn_cons, List.forIn_nil, bind_assoc, pure_bind, if_true]
    congr 1; funext _
    congr 1; funext _
    congr 1; funext ok
    cases ok <;> simp
theorem CTR_if {D : Addr} {acc : List AV} {t elt : Expr} {P : List AV → AH → Prop} (h : VT c d env t loc H fun b H1 => if b = true then VE c d env elt loc H1 fun r H2 => gd (Nat.ble acc.length 4999) (P (acc ++ [r]) H2) else P acc H1) :
    CTR c d env D loc H acc (isTrue t env (eval t env) >>= fun ok => if ok = true then (eval elt env >>= fun x => call (.builtin "list.append") [.ref D, x] >>= fun _ => pure ()) else pure ()) P := by
  intro A hA s ρ hH hF hc hD ha
  refine wpAny_bind (TR.seq h hA hH hF fun u h₁ tk₁ ρ₁ H₁ b at1 f1 x1 r1 p1 => ?_)
  obtain ⟨o, ho⟩ := hc.some
  have c1 := hc.keep x1.pre fun o e => x1.at e hD id
  have d1 := notIn_ext x1 ho hD
  cases r1
  cases u with
  | true =>
    simp only [if_true] at p1 ⊢
    refine CTR.seq (s := { s with heap := h₁, toks := tk₁ }) (CTR_emit (D := D) p1) hA at1 f1 c1 d1 ha fun h₂ tk₂ ρ₂ H₂ acc' a2 f2 x2 c2 d2 p2 => ?_
    exact ⟨h₂, tk₂, ρ₂, H₂, acc', rfl, a2, f2, Ext.trans hH (x1.weak fun _ e => e.elim) x2, c2, d2, p2⟩
  | false =>
    simp only [Bool.false_eq_true, if_false] at p1 ⊢
    exact wpAny_pure ⟨h₁, tk₁, ρ₁, H₁, acc, rfl, at1, f1, x1.weak fun _ e => e.elim, c1, d1, p1⟩
/-- the body of a comprehension with one generator -/
noncomputable def body1 (elt : Expr) (ifs : List Expr) (cenv : Env) (D : Addr) : Sem Unit :=
  match ifs with
  | [] => (eval elt cenv >>= fun x => call (.builtin "list.append") [.ref D, x] >>= fun _ => pure ())
  | t :: _ => (isTrue t cenv (eval t cenv) >>= fun ok => if ok = true then (eval elt cenv >>= fun x => call (.builtin "list.append") [.ref D, x] >>= fun _ => pure ()) else pure ())
noncomputable def ifsOk : List Expr → Bool
  | [] => true
  | [_] => true
  | _ => false
theorem compTurn_1 {elt iter : Expr} {id : Str} {px : Pos} {ifs : List Expr} {scope : Scope} {pos : Pos} {I D : Addr} {cenv : Env} (h : ifsOk ifs = true) :
    compTurn (.ListComp elt [⟨.Name id px, iter, ifs, 0⟩] scope pos) 0 (.ref I) (.ref D) cenv = (standAt iter.pos >>= fun _ => pyNext (.ref I) >>= fun r => match r with
      | none => pure (.done .next)
      | some v => letOwnedTupleGo (.Name id px) (.ref I) v >>= fun _ => assign (.Name id px) cenv v >>= fun _ => body1 elt ifs cenv D >>= fun _ => again (.compLoop (.ListComp elt [⟨.Name id px, iter, ifs, 0⟩] scope pos) 0 (.ref I) (.ref D) cenv)) := by
  match ifs, h with
  | [], _ => exact compTurn_list1 _ _ _ _ _ _ _ _
  | [t], _ => exact compTurn_if _ _ _ _ _ _ _ _ _
/-- the loop, from its start, by what a turn does -/
theorem comp_loop1 {elt iter : Expr} {x : Nat} {px : Pos} {ifs : List Expr} {scope : Scope} {pos : Pos} {cl : List (Str × Addr)} {loc0 : Loc} {I D C : Addr} {S : Src} {xs : List AV} {R : Result → Shared → Prop} {h₀ : Heap} {ρ₀ : List Addr} {H₀ : AH}
    (J : Nat → List AV → AH → Prop) (hio : ifsOk ifs = true) (hx : x < 48) (hloc : scope.names.lookup (vS x) = some .local) (hfree : ∀ y v, lget loc0 y = some v → y ≠ x)
    (turn : ∀ k acc H1 v, J k acc H1 → srcIts S H1 = some xs → xs[k]? = some v → CTR c d (compEnvC scope cl C env) D (lset loc0 x v) H1 acc (body1 elt ifs (compEnvC scope cl C env) D) fun acc' H2 => J (k + 1) acc' H2 ∧ srcIts S H2 = some xs)
    (hA : AOk d A) (hH : AtH c.hb ρ H s.heap) (hF : AtF c.hb ρ (compEnvC scope cl C env) loc0 s.heap) (hacc : AccAt D [] ρ s.heap) (hD : D ∉ ρ) (ha : Apart c (compEnvC scope cl C env) D) (hIa : Apart c (compEnvC scope cl C env) I) (hID : I ≠ D) (hI : I ∉ ρ)
    (hH₀ : AtH c.hb ρ₀ H₀ h₀) (x₀ : Ext (CX D C) ρ₀ H₀ h₀ ρ H s.heap) (hI₀ : h₀.get? I = Option.none) (it0 : ItSt S I 0 ρ s.heap) (hx0 : srcIts S H = some xs) (j0 : J 0 [] H)
    (done : ∀ h₁ tk₁ ρ₁ H₁ acc, AtH c.hb ρ₁ H₁ h₁ → AtF c.hb ρ₁ (compEnvC scope cl C env) loc0 h₁ → Ext (CX D C) ρ₀ H₀ h₀ ρ₁ H₁ h₁ → AccAt D acc ρ₁ h₁ → D ∉ ρ₁ → J xs.length acc H₁ → srcIts S H₁ = some xs → R (.ok .next) { s with heap := h₁, toks := tk₁ }) :
    codeAny (model c.prog c.w) A (.compStart (.ListComp elt [⟨.Name (vS x) px, iter, ifs, 0⟩] scope pos) 0 (.ref I) (.ref D) (compEnvC scope cl C env)) R s := by
  have hxl : (compEnvC scope cl C env).kindOf (vS x) = some .local := lookup_relabel_local hloc
  have loop : codeAny (model c.prog c.w) A (.compLoop (.ListComp elt [⟨.Name (vS x) px, iter, ifs, 0⟩] scope pos) 0 (.ref I) (.ref D) (compEnvC scope cl C env)) R s :=
    comp_loop (p := iter.pos) ⟨hx, .inl hxl⟩ hxl hfree (compTurn_1 hio) (fun _ => rfl) rfl rfl J hA hH hF hacc hD ha hH₀ x₀ hI₀ it0 hI hIa hID hx0 j0 turn done
  exact codeAny_compStart_list loop (It_self it0 loop)
/-- [elt for x in it if t], as a value -/
theorem VE_comp1 {elt iter : Expr} {id : Str} {x : Nat} {px : Pos} {ifs : List Expr} {scope : Scope} {pos : Pos} {cl : List (Str × Addr)} {loc0 : Loc} {P : AV → AH → Prop} (k : CompOk env scope cl loc loc0)
    (J : Src → List AV → Nat → List AV → AH → Prop) (hid : id = vS x) (hio : ifsOk ifs = true) (hx : x < 48) (hloc : scope.names.lookup (vS x) = some .local) (hfree : ∀ y v, lget loc0 y = some v → y ≠ x)
    (h : ITR c d env iter loc H fun S xs H1 => J S xs 0 [] H1)
    (turn : ∀ S xs k acc H1 v C D, J S xs k acc H1 → srcIts S H1 = some xs → xs[k]? = some v → CTR c d (compEnvC scope cl C env) D (lset loc0 x v) H1 acc (body1 elt ifs (compEnvC scope cl C env) D) fun acc' H2 => J S xs (k + 1) acc' H2 ∧ srcIts S H2 = some xs)
    (done : ∀ S xs acc H1, J S xs xs.length acc H1 → P (.ref H1.length) (H1 ++ [⟨true, true, acc⟩]))
    (hfs : ∀ v, foldedSetIterable iter env v = pure v) : VE c d env (.ListComp elt [⟨.Name id px, iter, ifs, 0⟩] scope pos) loc H P := by
  subst hid
  intro A hA s ρ hH hF
  rw [eval_ListComp]
  refine wpAny_comprehension_free (use := none) rfl hfs k.clos k.kind k.names (wpAny_mono (h A hA s ρ hH hF) (fun xv s₁ h₁ => wpAny_mono h₁ (fun itv s₂ h₂ => ?_) fun _ _ e => e.elim) fun _ _ e => e.elim)
  obtain ⟨h₀, tk₀, ρ₀, H₀, S, xs, I, rfl, rfl, at0, x0, it0, hI0, hIs, hx0, j0⟩ := h₂
  refine comp_core (s := { s with heap := h₀, toks := tk₀ }) (RR := fun acc C => compPost (model c.prog c.w) A (fun _ _ => False) none (PostE c s ρ H Val P) acc C) k hH hF x0 hIs at0 (hF.ext x0) it0 hI0 fun D C h₁ tk₁ hDs hCs a1 f1 c1 d1 ha hIa hID hDC x1 it1 => ?_
  refine comp_loop1 (s := { s with heap := h₁, toks := tk₁ }) (J S xs) hio hx hloc hfree (fun k' acc H1 v j hs hk => turn S xs k' acc H1 v C D j hs hk) hA a1 f1 c1 d1 ha hIa hID hI0 hH x1 hIs it1 hx0 j0 fun h₂ tk₂ ρ₂ H₂ acc a2 f2 x2 c2 d2 j2 _ => ?_
  obtain ⟨m, hm, _⟩ := f2.ns
  refine ⟨m, hm, fun h' sb => ?_⟩
  have kp : ∀ b o, b ≠ C → h₂.get? b = some o → h'.get? b = some o := fun b o hb e => sb.extBut b o hb e
  have xN : Ext NoX ρ H s.heap ρ₂ H₂ h₂ := x2.drop fun b hb => hb.elim (fun e => e ▸ hDs) fun e => e ▸ hCs
  obtain ⟨a3, x3⟩ := a2.adopt c2 d2 ha.hb xN hDs
  have hCn : C ∉ ρ₂ ++ [D] := by
    intro hm
    rcases List.mem_append.mp hm with hm | hm
    · exact f2.nρ hm
    · exact hDC (List.mem_singleton.mp hm).symm
  exact ⟨h', tk₂, _, _, .ref H₂.length, rfl, a3.but hCn f2.nb kp, x3.touch hCs kp, ⟨D, by rw [← a2.len]; simp, rfl⟩, done S xs acc H₂ j2⟩
/-- y = [elt for x in it if t] -/
theorem VS_comp1 {elt iter : Expr} {id idy : Str} {x y : Nat} {px py spos : Pos} {ifs : List Expr} {scope : Scope} {pos : Pos} {cl : List (Str × Addr)} {loc0 : Loc} {P : AFl → Loc → AH → Prop} (k : CompOk env scope cl loc loc0)
    (J : Src → List AV → Nat → List AV → AH → Prop) (hid : id = vS x) (hidy : idy = vS y) (hsy : Sto env y) (hio : ifsOk ifs = true) (hx : x < 48) (hloc : scope.names.lookup (vS x) = some .local) (hfree : ∀ y v, lget loc0 y = some v → y ≠ x)
    (hsw : swapsWith (.ListComp elt [⟨.Name id px, iter, ifs, 0⟩] scope pos) (some (.Name idy py)) spos.line env = pure true)
    (h : ITR c d env iter loc H fun S xs H1 => J S xs 0 [] H1)
    (turn : ∀ S xs k acc H1 v C D, J S xs k acc H1 → srcIts S H1 = some xs → xs[k]? = some v → CTR c d (compEnvC scope cl C env) D (lset loc0 x v) H1 acc (body1 elt ifs (compEnvC scope cl C env) D) fun acc' H2 => J S xs (k + 1) acc' H2 ∧ srcIts S H2 = some xs)
    (done : ∀ S xs acc H1, J S xs xs.length acc H1 → P .next (lset loc y (.ref H1.length)) (H1 ++ [⟨true, true, acc⟩]))
    (hfs : ∀ v, foldedSetIterable iter env v = pure v) : VS c d env (.Assign [.Name idy py] (.ListComp elt [⟨.Name id px, iter, ifs, 0⟩] scope pos) spos) loc H P := by
  subst hid hidy
  intro A hA s ρ hH hF
  rw [exec_Assign_Name_used _ _ _ _ hsw]
  refine wpAny_bind (wpAny_standAt (wpAny_bind ?_))
  show wpAny _ A (do let _ ← comprehension (.ListComp elt [⟨.Name (vS x) px, iter, ifs, 0⟩] scope pos) scope env _ (newList []) false (eval iter env) (some (assign (.Name (vS y) py) env))) _ _ s
  refine wpAny_bind (wpAny_mono (wpAny_comprehension_free (use := some (assign (.Name (vS y) py) env)) (Q := fun _ s' => PostS c s ρ H env P .next s') rfl hfs k.clos k.kind k.names
    (wpAny_mono (h A hA s ρ hH hF) (fun xv s₁ h₁ => wpAny_mono h₁ (fun itv s₂ h₂ => ?_) fun _ _ e => e.elim) fun _ _ e => e.elim)) (fun _ s' hq => wpAny_pure (wpAny_pure hq)) fun _ _ e => e)
  obtain ⟨h₀, tk₀, ρ₀, H₀, S, xs, I, rfl, rfl, at0, x0, it0, hI0, hIs, hx0, j0⟩ := h₂
  refine comp_core (s := { s with heap := h₀, toks := tk₀ }) (RR := fun acc C => compPost (model c.prog c.w) A (fun _ _ => False) (some (assign (.Name (vS y) py) env)) (fun _ s' => PostS c s ρ H env P .next s') acc C) k hH hF x0 hIs at0 (hF.ext x0) it0 hI0 fun D C h₁ tk₁ hDs hCs a1 f1 c1 d1 ha hIa hID hDC x1 it1 => ?_
  refine comp_loop1 (s := { s with heap := h₁, toks := tk₁ }) (J S xs) hio hx hloc hfree (fun k' acc H1 v j hs hk => turn S xs k' acc H1 v C D j hs hk) hA a1 f1 c1 d1 ha hIa hID hI0 hH x1 hIs it1 hx0 j0 fun h₂ tk₂ ρ₂ H₂ acc a2 f2 x2 c2 d2 j2 _ => ?_
  have xN : Ext NoX ρ H s.heap ρ₂ H₂ h₂ := x2.drop fun b hb => hb.elim (fun e => e ▸ hDs) fun e => e ▸ hCs
  obtain ⟨a3, x3⟩ := a2.adopt c2 d2 ha.hb xN hDs
  have hCn : C ∉ ρ₂ ++ [D] := by
    intro hm
    rcases List.mem_append.mp hm with hm | hm
    · exact f2.nρ hm
    · exact hDC (List.mem_singleton.mp hm).symm
  have hCL : C ≠ env.locals := by
    rintro rfl
    obtain ⟨m, ⟨oo, _, _, ho, _⟩, _⟩ := hF.ns
    rw [hCs] at ho; cases ho
  have hCC : ∀ y, env.cells.lookup y ≠ some C := by
    intro y e
    obtain ⟨⟨v₀, oo, ho, _⟩, _⟩ := hF.cl y C e
    rw [hCs] at ho; cases ho
  obtain ⟨m, ⟨oC, es, ep, hoC, hrC⟩, _⟩ := f2.ns
  show wpAny _ A (assign (.Name (vS y) py) env (.ref D)) _ _ _
  refine wpAny_assign_Name (wp_store (s := { s with heap := h₂, toks := tk₂ }) (v := .ref H₂.length) a3 (hF.ext x3) ⟨D, by rw [← a2.len]; simp, rfl⟩ hsy fun h₄ tk₄ a4 f4 x4 => ?_)
  have hoC4 : h₄.get? C = some oC := x4.at hoC hCn fun h => h.elim hCL fun ⟨y, e⟩ => hCC y e
  refine ⟨m, ⟨oC, es, ep, hoC4, hrC⟩, fun h' sb => ?_⟩
  have kp : ∀ b o, b ≠ C → h₄.get? b = some o → h'.get? b = some o := fun b o hb e => sb.extBut b o hb e
  exact PostS.here (a := .next) (a4.but hCn f2.nb kp) (f4.but hCL hCC kp) ((Ext.trans hH x3.up x4).touch hCs kp) rfl (done S xs acc H₂ j2)
end
end Mine
namespace Mine
section
variable {c : Cx} {d : Nat} {env : Env} {loc : Loc} {H : AH} {A : Around} {s : Shared} {ρ : List Addr}
/-! two generators -/
noncomputable def innerB (e : Expr) (it1 : Expr) (cenv : Env) (D : Addr) : Sem Unit :=
  (eval it1 cenv >>= fun x => standAt it1.pos >>= fun _ => foldedSetIterable it1 cenv x >>= fun x => holding [x] (pyIter x) >>= fun i => runOwn (.compStart e 1 i (.ref D) cenv) cenv >>= fun _ => pure ())
theorem compTurn_20 {elt it0 it1 : Expr} {id0 id1 : Str} {p0 p1 : Pos} {scope : Scope} {pos : Pos} {I D : Addr} {cenv : Env} :
    compTurn (.ListComp elt [⟨.Name id0 p0, it0, [], 0⟩, ⟨.Name id1 p1, it1, [], 0⟩] scope pos) 0 (.ref I) (.ref D) cenv = (standAt it0.pos >>= fun _ => pyNext (.ref I) >>= fun r => match r with
      | none => pure (.done .next)
      | some v => letOwnedTupleGo (.Name id0 p0) (.ref I) v >>= fun _ => assign (.Name id0 p0) cenv v >>= fun _ => innerB (.ListComp elt [⟨.Name id0 p0, it0, [], 0⟩, ⟨.Name id1 p1, it1, [], 0⟩] scope pos) it1 cenv D >>= fun _ =>
        again (.compLoop (.ListComp elt [⟨.Name id0 p0, it0, [], 0⟩, ⟨.Name id1 p1, it1, [], 0⟩] scope pos) 0 (.ref I) (.ref D) cenv)) := by
  have e : compTurn (.ListComp elt [⟨.Name id0 p0, it0, [], 0⟩, ⟨.Name id1 p1, it1, [], 0⟩] scope pos) 0 (.ref I) (.ref D) cenv = (standAt it0.pos >>= fun _ => pyNext (.ref I) >>= fun r => match r with
      | none => pure (.done .next)
      | some v => letOwnedTupleGo (.Name id0 p0) (.ref I) v >>= fun _ => assign (.Name id0 p0) cenv v >>= fun _ =>
        (eval it1 cenv >>= fun x => standAt it1.pos >>= fun _ => foldedSetIterable it1 cenv x >>= fun x => holding [x] (pyIter x) >>= fun i => runOwn (.compStart (.ListComp elt [⟨.Name id0 p0, it0, [], 0⟩, ⟨.Name id1 p1, it1, [], 0⟩] scope pos) 1 i (.ref D) cenv) cenv >>= fun _ =>
          again (.compLoop (.ListComp elt [⟨.Name id0 p0, it0, [], 0⟩, ⟨.Name id1 p1, it1, [], 0⟩] scope pos) 0 (.ref I) (.ref D) cenv))) := by rfl
  rw [e]
  congr 1; funext _
  congr 1; funext r
  cases r with
  | none => rfl
  | some v =>
    unfold innerB
    simp only [bind_assoc, pure_bind]
theorem compTurn_21 {elt it0 it1 : Expr} {id0 id1 : Str} {p0 p1 : Pos} {scope : Scope} {pos : Pos} {I D : Addr} {cenv : Env} :
    compTurn (.ListComp elt [⟨.Name id0 p0, it0, [], 0⟩, ⟨.Name id1 p1, it1, [], 0⟩] scope pos) 1 (.ref I) (.ref D) cenv = (standAt it1.pos >>= fun _ => pyNext (.ref I) >>= fun r => match r with
      | none => pure (.done .next)
      | some v => letOwnedTupleGo (.Name id1 p1) (.ref I) v >>= fun _ => assign (.Name id1 p1) cenv v >>= fun _ => (eval elt cenv >>= fun x => call (.builtin "list.append") [.ref D, x] >>= fun _ => pure ()) >>= fun _ =>
        again (.compLoop (.ListComp elt [⟨.Name id0 p0, it0, [], 0⟩, ⟨.Name id1 p1, it1, [], 0⟩] scope pos) 1 (.ref I) (.ref D) cenv)) := by rfl
theorem start_21 {elt it0 it1 : Expr} {id0 id1 : Str} {p0 p1 : Pos} {scope : Scope} {pos : Pos} {it acc : Value} {cenv : Env} {R : Result → Shared → Prop}
    (h0 : codeAny (model c.prog c.w) A (.compLoop (.ListComp elt [⟨.Name id0 p0, it0, [], 0⟩, ⟨.Name id1 p1, it1, [], 0⟩] scope pos) 1 it acc cenv) R s)
    (h : ∀ E, wpAny (model c.prog c.w) A (pyIter it) (fun it' s' => codeAny (model c.prog c.w) A (.compLoop (.ListComp elt [⟨.Name id0 p0, it0, [], 0⟩, ⟨.Name id1 p1, it1, [], 0⟩] scope pos) 1 it' acc cenv) R s') E s) :
    codeAny (model c.prog c.w) A (.compStart (.ListComp elt [⟨.Name id0 p0, it0, [], 0⟩, ⟨.Name id1 p1, it1, [], 0⟩] scope pos) 1 it acc cenv) R s := by
  refine codeAny_of_tree ?_
  show wpAny _ _ ((compStart (.ListComp elt [⟨.Name id0 p0, it0, [], 0⟩, ⟨.Name id1 p1, it1, [], 0⟩] scope pos) 1 it acc cenv).onRaise (fun x => do noteFrame x cenv; standAt theWindowsPlace)) _ _ s
  refine wpAny_notedAt ?_
  unfold compStart
  show wpAny _ _ (ask >>= _) _ _ s
  refine wpAny_bind (wpAny_askSetting (wpAny_ite ?_))
  split
  · first
      | exact wpAny_bind (wpAny_pure (wpAny_pure (And.intro rfl h0)))
      | exact wpAny_pure (And.intro rfl h0)
  · first
      | exact wpAny_bind (wpAny_rule (wpAny_bind (wpAny_standAt (wpAny_bind (wpAny_mono (h _) (fun it' s' h' => wpAny_pure (And.intro rfl h')) fun _ _ x => x)))))
      | (refine wpAny_bind (wpAny_rule ?_); show wpAny _ _ (standAt it1.pos >>= _) _ _ s; exact wpAny_bind (wpAny_standAt (wpAny_bind (wpAny_mono (h _) (fun it' s' h' => wpAny_pure (And.intro rfl h')) fun _ _ x => x))))
theorem CTR_gen2 {elt it0 it1 : Expr} {id0 : Str} {x1 : Nat} {p0 p1 : Pos} {scope : Scope} {pos : Pos} {D : Addr} {acc : List AV} {P : List AV → AH → Prop} (J : Src → List AV → Nat → List AV → AH → Prop)
    (hx : x1 < 48) (hxl : env.kindOf (vS x1) = some .local) (hfree : ∀ y v, lget loc y = some v → y ≠ x1)
    (h : ITR c d env it1 loc H fun S xs H1 => J S xs 0 acc H1)
    (turn : ∀ S xs k acc H1 v, J S xs k acc H1 → srcIts S H1 = some xs → xs[k]? = some v → VE c d env elt (lset loc x1 v) H1 fun r H2 => gd (Nat.ble acc.length 4999) (J S xs (k + 1) (acc ++ [r]) H2 ∧ srcIts S H2 = some xs))
    (done : ∀ S xs acc H1, J S xs xs.length acc H1 → P acc H1)
    (hfs : ∀ v, foldedSetIterable it1 env v = pure v) : CTR c d env D loc H acc (innerB (.ListComp elt [⟨.Name id0 p0, it0, [], 0⟩, ⟨.Name (vS x1) p1, it1, [], 0⟩] scope pos) it1 env D) P := by
  intro A hA s ρ hH hF hc hD ha
  unfold innerB
  refine wpAny_bind (wpAny_mono (h A hA s ρ hH hF) (fun xv s₁ h₁ => ?_) fun _ _ e => e)
  refine wpAny_bind (wpAny_standAt (wpAny_bind (wpAny_of_eq (hfs xv) (wpAny_bind (wpAny_holding (wpAny_mono h₁ (fun itv s₂ h₂ => ?_) fun _ _ e => e.elim))))))
  obtain ⟨h₀, tk₀, ρ₀, H₀, S, xs, I, rfl, rfl, at0, x0, itS, hI0, hIs, hx0, j0⟩ := h₂
  obtain ⟨oD, hoD⟩ := hc.some
  have d0 := notIn_ext x0 hoD hD
  have c0 := hc.keep x0.pre fun o e => x0.at e hD id
  have hIa : Apart c env I := by
    refine ⟨?_, ?_, ?_⟩
    · cases q : c.hb.get? I with
      | none => rfl
      | some o => rw [hH.keep _ _ q] at hIs; cases hIs
    · rintro rfl
      obtain ⟨m, ⟨oo, _, _, ho, _⟩, _⟩ := hF.ns
      rw [hIs] at ho; cases ho
    · intro y e
      obtain ⟨⟨v₀, oo, ho, _⟩, _⟩ := hF.cl y I e
      rw [hIs] at ho; cases ho
  have hID : I ≠ D := by rintro rfl; rw [hIs] at hoD; cases hoD
  have hA' : AOk d (A.mark none) := ⟨hA.han, hA.dep, hA.un⟩
  refine wpAny_bind (wpAny_runOwn ?_)
  have loop : codeAny (model c.prog c.w) (A.mark none) (.compLoop (.ListComp elt [⟨.Name id0 p0, it0, [], 0⟩, ⟨.Name (vS x1) p1, it1, [], 0⟩] scope pos) 1 (.ref I) (.ref D) env)
      (fun r s' => match r with | .ok f => wpAny (model c.prog c.w) A (pure ()) (fun _ s' => ∃ h' tk' ρ' H' acc', s' = { s with heap := h', toks := tk' } ∧ AtH c.hb ρ' H' h' ∧ AtF c.hb ρ' env loc h' ∧ Ext (CX D env.locals) ρ H s.heap ρ' H' h' ∧ AccAt D acc' ρ' h' ∧ D ∉ ρ' ∧ P acc' H') (fun _ _ => False) s' | .error e => cameBackBy (model c.prog c.w) A env (fun _ _ => False) e s') { s with heap := h₀, toks := tk₀ } := by
    refine comp_loop (s := { s with heap := h₀, toks := tk₀ }) (p := it1.pos) ⟨hx, .inl hxl⟩ hxl hfree compTurn_21 (fun _ => rfl) rfl rfl (J S xs) hA' at0 (hF.ext x0) c0 d0 ha hH (x0.weak fun _ e => e.elim) hIs itS hI0 hIa hID hx0 j0 (fun k acc H1 v j hs hk => CTR_emit (turn S xs k acc H1 v j hs hk)) fun h₁ tk₁ ρ₁ H₁ acc a1 f1 x1 c1 d1 j1 _ => ?_
    exact wpAny_pure ⟨h₁, tk₁, ρ₁, H₁, acc, rfl, a1, f1, x1, c1, d1, done S xs acc H₁ j1⟩
  exact start_21 loop fun E => It_self itS loop
/-- the two loops, from their start -/
theorem comp_loop2 {elt it0e it1e : Expr} {x x1 : Nat} {p0 p1 : Pos} {scope : Scope} {pos : Pos} {cl : List (Str × Addr)} {loc0 : Loc} {I D C : Addr} {S : Src} {xs : List AV} {R : Result → Shared → Prop} {h₀ : Heap} {ρ₀ : List Addr} {H₀ : AH}
    (J : Nat → List AV → AH → Prop) (hx : x < 48) (hloc : scope.names.lookup (vS x) = some .local) (hfree : ∀ y v, lget loc0 y = some v → y ≠ x)
    (turn : ∀ k acc H1 v, J k acc H1 → srcIts S H1 = some xs → xs[k]? = some v → CTR c d (compEnvC scope cl C env) D (lset loc0 x v) H1 acc (innerB (.ListComp elt [⟨.Name (vS x) p0, it0e, [], 0⟩, ⟨.Name (vS x1) p1, it1e, [], 0⟩] scope pos) it1e (compEnvC scope cl C env) D) fun acc' H2 => J (k + 1) acc' H2 ∧ srcIts S H2 = some xs)
    (hA : AOk d A) (hH : AtH c.hb ρ H s.heap) (hF : AtF c.hb ρ (compEnvC scope cl C env) loc0 s.heap) (hacc : AccAt D [] ρ s.heap) (hD : D ∉ ρ) (ha : Apart c (compEnvC scope cl C env) D) (hIa : Apart c (compEnvC scope cl C env) I) (hID : I ≠ D) (hI : I ∉ ρ)
    (hH₀ : AtH c.hb ρ₀ H₀ h₀) (x₀ : Ext (CX D C) ρ₀ H₀ h₀ ρ H s.heap) (hI₀ : h₀.get? I = Option.none) (it0 : ItSt S I 0 ρ s.heap) (hx0 : srcIts S H = some xs) (j0 : J 0 [] H)
    (done : ∀ h₁ tk₁ ρ₁ H₁ acc, AtH c.hb ρ₁ H₁ h₁ → AtF c.hb ρ₁ (compEnvC scope cl C env) loc0 h₁ → Ext (CX D C) ρ₀ H₀ h₀ ρ₁ H₁ h₁ → AccAt D acc ρ₁ h₁ → D ∉ ρ₁ → J xs.length acc H₁ → srcIts S H₁ = some xs → R (.ok .next) { s with heap := h₁, toks := tk₁ }) :
    codeAny (model c.prog c.w) A (.compStart (.ListComp elt [⟨.Name (vS x) p0, it0e, [], 0⟩, ⟨.Name (vS x1) p1, it1e, [], 0⟩] scope pos) 0 (.ref I) (.ref D) (compEnvC scope cl C env)) R s := by
  have hxl : (compEnvC scope cl C env).kindOf (vS x) = some .local := lookup_relabel_local hloc
  have loop : codeAny (model c.prog c.w) A (.compLoop (.ListComp elt [⟨.Name (vS x) p0, it0e, [], 0⟩, ⟨.Name (vS x1) p1, it1e, [], 0⟩] scope pos) 0 (.ref I) (.ref D) (compEnvC scope cl C env)) R s :=
    comp_loop (p := it0e.pos) ⟨hx, .inl hxl⟩ hxl hfree compTurn_20 (fun _ => rfl) rfl rfl J hA hH hF hacc hD ha hH₀ x₀ hI₀ it0 hI hIa hID hx0 j0 turn done
  exact codeAny_compStart_list loop (It_self it0 loop)
/-- y = [elt for x in it for x1 in it1] -/
theorem VS_comp2 {elt iter it1 : Expr} {id idy id1 : Str} {x y x1 : Nat} {px py spos p1 : Pos} {scope : Scope} {pos : Pos} {cl : List (Str × Addr)} {loc0 : Loc} {P : AFl → Loc → AH → Prop} (k : CompOk env scope cl loc loc0)
    (J : Src → List AV → Nat → List AV → AH → Prop) (hid : id = vS x) (hid1 : id1 = vS x1) (hidy : idy = vS y) (hsy : Sto env y) (hx : x < 48) (hloc : scope.names.lookup (vS x) = some .local) (hfree : ∀ y v, lget loc0 y = some v → y ≠ x)
    (hsw : swapsWith (.ListComp elt [⟨.Name id px, iter, [], 0⟩, ⟨.Name id1 p1, it1, [], 0⟩] scope pos) (some (.Name idy py)) spos.line env = pure true)
    (h : ITR c d env iter loc H fun S xs H1 => J S xs 0 [] H1)
    (turn : ∀ S xs k acc H1 v C D, J S xs k acc H1 → srcIts S H1 = some xs → xs[k]? = some v → CTR c d (compEnvC scope cl C env) D (lset loc0 x v) H1 acc (innerB (.ListComp elt [⟨.Name (vS x) px, iter, [], 0⟩, ⟨.Name (vS x1) p1, it1, [], 0⟩] scope pos) it1 (compEnvC scope cl C env) D) fun acc' H2 => J S xs (k + 1) acc' H2 ∧ srcIts S H2 = some xs)
    (done : ∀ S xs acc H1, J S xs xs.length acc H1 → P .next (lset loc y (.ref H1.length)) (H1 ++ [⟨true, true, acc⟩]))
    (hfs : ∀ v, foldedSetIterable iter env v = pure v) : VS c d env (.Assign [.Name idy py] (.ListComp elt [⟨.Name id px, iter, [], 0⟩, ⟨.Name id1 p1, it1, [], 0⟩] scope pos) spos) loc H P := by
  subst hid hidy hid1
  intro A hA s ρ hH hF
  rw [exec_Assign_Name_used _ _ _ _ hsw]
  refine wpAny_bind (wpAny_standAt (wpAny_bind ?_))
  show wpAny _ A (do let _ ← comprehension (.ListComp elt [⟨.Name (vS x) px, iter, [], 0⟩, ⟨.Name (vS x1) p1, it1, [], 0⟩] scope pos) scope env _ (newList []) false (eval iter env) (some (assign (.Name (vS y) py) env))) _ _ s
  refine wpAny_bind (wpAny_mono (wpAny_comprehension_free (use := some (assign (.Name (vS y) py) env)) (Q := fun _ s' => PostS c s ρ H env P .next s') rfl hfs k.clos k.kind k.names
    (wpAny_mono (h A hA s ρ hH hF) (fun xv s₁ h₁ => wpAny_mono h₁ (fun itv s₂ h₂ => ?_) fun _ _ e => e.elim) fun _ _ e => e.elim)) (fun _ s' hq => wpAny_pure (wpAny_pure hq)) fun _ _ e => e)
  obtain ⟨h₀, tk₀, ρ₀, H₀, S, xs, I, rfl, rfl, at0, x0, it0, hI0, hIs, hx0, j0⟩ := h₂
  refine comp_core (s := { s with heap := h₀, toks := tk₀ }) (RR := fun acc C => compPost (model c.prog c.w) A (fun _ _ => False) (some (assign (.Name (vS y) py) env)) (fun _ s' => PostS c s ρ H env P .next s') acc C) k hH hF x0 hIs at0 (hF.ext x0) it0 hI0 fun D C h₁ tk₁ hDs hCs a1 f1 c1 d1 ha hIa hID hDC x1 it1 => ?_
  refine comp_loop2 (s := { s with heap := h₁, toks := tk₁ }) (J S xs) hx hloc hfree (fun k' acc H1 v j hs hk => turn S xs k' acc H1 v C D j hs hk) hA a1 f1 c1 d1 ha hIa hID hI0 hH x1 hIs it1 hx0 j0 fun h₂ tk₂ ρ₂ H₂ acc a2 f2 x2 c2 d2 j2 _ => ?_
  have xN : Ext NoX ρ H s.heap ρ₂ H₂ h₂ := x2.drop fun b hb => hb.elim (fun e => e ▸ hDs) fun e => e ▸ hCs
  obtain ⟨a3, x3⟩ := a2.adopt c2 d2 ha.hb xN hDs
  have hCn : C ∉ ρ₂ ++ [D] := by
    intro hm
    rcases List.mem_append.mp hm with hm | hm
    · exact f2.nρ hm
    · exact hDC (List.mem_singleton.mp hm).symm
  have hCL : C ≠ env.locals := by
    rintro rfl
    obtain ⟨m, ⟨oo, _, _, ho, _⟩, _⟩ := hF.ns
    rw [hCs] at ho; cases ho
  have hCC : ∀ y, env.cells.lookup y ≠ some C := by
    intro y e
    obtain ⟨⟨v₀, oo, ho, _⟩, _⟩ := hF.cl y C e
    rw [hCs] at ho; cases ho
  obtain ⟨m, ⟨oC, es, ep, hoC, hrC⟩, _⟩ := f2.ns
  show wpAny _ A (assign (.Name (vS y) py) env (.ref D)) _ _ _
  refine wpAny_assign_Name (wp_store (s := { s with heap := h₂, toks := tk₂ }) (v := .ref H₂.length) a3 (hF.ext x3) ⟨D, by rw [← a2.len]; simp, rfl⟩ hsy fun h₄ tk₄ a4 f4 x4 => ?_)
  have hoC4 : h₄.get? C = some oC := x4.at hoC hCn fun h => h.elim hCL fun ⟨y, e⟩ => hCC y e
  refine ⟨m, ⟨oC, es, ep, hoC4, hrC⟩, fun h' sb => ?_⟩
  have kp : ∀ b o, b ≠ C → h₄.get? b = some o → h'.get? b = some o := fun b o hb e => sb.extBut b o hb e
  exact PostS.here (a := .next) (a4.but hCn f2.nb kp) (f4.but hCL hCC kp) ((Ext.trans hH x3.up x4).touch hCs kp) rfl (done S xs acc H₂ j2)
end
end Mine
namespace Mine
/-! ## calls of the text's own functions -/
structure FnOk (c : Cx) (f : Addr) (fd : FuncData) (body : List Stmt) : Prop where
  look : ∃ o, c.K.lookup f = some o ∧ o.data = .func fd
  code : codeIn c.K fd.code fd.qualname = true
  bod : fd.body = .stmts body
  co : fd.scope.isCoroutine = false
  gen : fd.scope.isGenerator = false
  kind : fd.scope.kind = .function
  clos : fd.closure = []
  gl : fd.globals = mainGlobals
  bl : fd.builtins = builtinsNs
noncomputable def CK (c : Cx) (d : Nat) (f : Value) (as : List AV) (ks : List (Str × AV)) (H : AH) (P : AV → AH → Prop) : Prop :=
  ∀ A, AOk d A → ∀ s ρ vals kv, AtH c.hb ρ H s.heap → ValL ρ as vals → kv.map Prod.fst = ks.map Prod.fst → ValL ρ (ks.map Prod.snd) (kv.map Prod.snd) → wpAny (model c.prog c.w) A (call f vals kv) (PostE c s ρ H Val P) (fun _ _ => False) s
section
variable {c : Cx} {d : Nat} {env : Env} {loc : Loc} {H : AH} {A : Around} {s : Shared} {ρ : List Addr}
theorem CK.toCB {f : Value} {as : List AV} {P : AV → AH → Prop} (h : CK c d f as [] H P) : CB c d f as H P := fun A hA s ρ vals hH hv => h A hA s ρ vals [] hH hv rfl trivial
theorem CB.mono {f : Value} {as : List AV} {P P' : AV → AH → Prop} (h : CB c d f as H P) (hp : ∀ v H', P v H' → P' v H') : CB c d f as H P' :=
  fun A hA s ρ vals hH hv => wpAny_mono (h A hA s ρ vals hH hv) (fun _ _ q => q.mono hp) fun _ _ e => e
theorem CK.mono {f : Value} {as : List AV} {ks : List (Str × AV)} {P P' : AV → AH → Prop} (h : CK c d f as ks H P) (hp : ∀ v H', P v H' → P' v H') : CK c d f as ks H P' :=
  fun A hA s ρ vals kv hH hv h1 h2 => wpAny_mono (h A hA s ρ vals kv hH hv h1 h2) (fun _ _ q => q.mono hp) fun _ _ e => e
theorem FnOk.at (ok : CxOk c) {f : Addr} {fd : FuncData} {body : List Stmt} (fo : FnOk c f fd body) {h : Heap} (keep : c.hb.StaysIn h) : ∃ o, h.get? f = some o ∧ o.data = .func fd := by
  obtain ⟨o, h1, h2⟩ := fo.look
  exact ⟨o, keep _ _ (ok.X _ _ h1), h2⟩
/-- the parameters, bound -/
noncomputable def Binds (c : Cx) (fd : FuncData) (as : List AV) (ks : List (Str × AV)) (loc0 : Loc) : Prop :=
  ∀ ρ vals kv, ValL ρ as vals → kv.map Prod.fst = ks.map Prod.fst → ValL ρ (ks.map Prod.snd) (kv.map Prod.snd) →
    ∃ binds, (∀ S, peek c.K S (bindArgs fd ⟨vals, kv⟩) = some binds) ∧ (∀ x ∈ binds, fd.scope.names.lookup x.1 = some .local) ∧ ∀ x v, x < 48 → lget loc0 x = some v → ∃ v', binds.reverse.lookup (vS x) = some v' ∧ Val ρ v v'
theorem CK_fn (ok : CxOk c) {f : Addr} {fd : FuncData} {body : List Stmt} (fo : FnOk c f fd body) (hcell : ∀ x ∈ fd.scope.names, x.2 ≠ .cell) {as : List AV} {ks : List (Str × AV)} {loc0 : Loc} {P : AV → AH → Prop} (hb : Binds c fd as ks loc0)
    (hbody : ∀ L, VSs c d (callEnv fd L f) body loc0 H fun a _ H' => match a with | .ret v => P v H' | .next => P .none H' | _ => False) : CK c (d + 1) (.ref f) as ks H P := by
  intro A hA s ρ vals kv hH hv hk1 hk2
  obtain ⟨binds, hp, hl, hbd⟩ := hb ρ vals kv hv hk1 hk2
  obtain ⟨o, ho, hd⟩ := fo.at ok hH.keep
  have X : c.K.In s.heap := ok.X.keeps hH.keep
  have hdep := hA.dep
  have hun := hA.un
  refine wpAny_call (codeAny_call_def (show A.depth < 1000 by omega) ho hd (ok.lim.keeps hH.keep) (codeRec_of X fo.code) fo.bod (kp_binds X hp) hcell hl (fun h₁ hns kp => ?_) fo.co fo.gen fo.kind)
  have hA' : AOk d (A.deeper (callEnv fd s.heap.objs.size f)) := ⟨hA.han, by show A.depth + 1 + d < 900; omega, by show A.units + 3 + 4 * d < 9000; omega⟩
  obtain ⟨a1, x1⟩ := hH.other kp
  have hLn := size_none s.heap
  have hcs : ∀ x cc, (callEnv fd s.heap.objs.size f).cells.lookup x = some cc → False := fun x cc e => by
    rw [show (callEnv fd s.heap.objs.size f).cells = fd.closure from rfl, fo.clos] at e; cases e
  have hbL : c.hb.get? s.heap.objs.size = Option.none := by
    cases q : c.hb.get? s.heap.objs.size with
    | none => rfl
    | some o => rw [hH.keep _ _ q] at hLn; cases hLn
  have hloc : ∀ x v, x < 48 → lget loc0 x = some v → (callEnv fd s.heap.objs.size f).kindOf (vS x) = some .local := fun x v hx e => by
    obtain ⟨v', e', _⟩ := hbd x v hx e
    obtain ⟨l₁, l₂, h3, _⟩ := List.lookup_eq_some_iff.mp e'
    exact hl (vS x, v') (List.mem_reverse.mp (h3 ▸ (by simp)))
  have f1 : AtF c.hb ρ (callEnv fd s.heap.objs.size f) loc0 h₁ :=
    ⟨fo.kind, fo.gl, fo.bl, ⟨_, hns, fun x v hx e _ => hbd x v hx e⟩, fun x cc e => (hcs x cc e).elim, fun x y cc e => (hcs x cc e).elim, fun x v hx e hk => absurd (hloc x v hx e) hk, notIn_none hH hLn, hbL⟩
  refine TS.seq (s := { s with heap := h₁, toks := s.toks + binds.length }) (hbody s.heap.objs.size) hA' a1 f1 fun fl h₂ tk₂ ρ₂ H₂ l₂ a at2 f2 x2 r2 p2 => ?_
  have xx : Ext NoX ρ H s.heap ρ₂ H₂ h₂ := (Ext.trans hH (x1.weak fun _ e => e.elim) x2).drop fun b hb => hb.elim (fun e => by rw [e]; exact hLn) fun ⟨y, e⟩ => (hcs _ _ e).elim
  cases a with
  | ret v => obtain ⟨u, rfl, hv⟩ := r2; exact ⟨h₂, tk₂, ρ₂, H₂, v, rfl, at2, xx, hv, p2⟩
  | next => cases r2; exact ⟨h₂, tk₂, ρ₂, H₂, .none, rfl, at2, xx, rfl, p2⟩
  | brk => exact p2.elim
  | cont => exact p2.elim
theorem lookup_inj {cs : List (Str × Addr)} (h : cs.Pairwise fun x y => x.2 ≠ y.2) {x y : Str} {cc : Addr} (h1 : cs.lookup x = some cc) (h2 : cs.lookup y = some cc) : x = y := by
  induction cs with
  | nil => cases h1
  | cons p r ih =>
    obtain ⟨n, a⟩ := p
    rw [List.pairwise_cons] at h
    rw [List.lookup_cons] at h1 h2
    have mem : ∀ {z : Str}, r.lookup z = some cc → ∃ q ∈ r, q.2 = cc := fun {z} e => by
      obtain ⟨l₁, l₂, h3, _⟩ := List.lookup_eq_some_iff.mp e
      exact ⟨(z, cc), h3 ▸ (by simp), rfl⟩
    cases e1 : x == n with
    | true =>
      cases e2 : y == n with
      | true => rw [beq_iff_eq.mp e1, beq_iff_eq.mp e2]
      | false =>
        rw [e1] at h1; rw [e2] at h2
        cases h1
        obtain ⟨q, hq, hq2⟩ := mem h2
        exact absurd hq2.symm (h.1 q hq)
    | false =>
      cases e2 : y == n with
      | true =>
        rw [e1] at h1; rw [e2] at h2
        cases h2
        obtain ⟨q, hq, hq2⟩ := mem h1
        exact absurd hq2.symm (h.1 q hq)
      | false =>
        rw [e1] at h1; rw [e2] at h2
        exact ih h.2 h1 h2
/-- a call by a name -/
theorem VE_callF (ok : CxOk c) {id : Str} {e : Expr} {es : List Expr} {p pos : Pos} {P : AV → AH → Prop} (hn : noStar (e :: es) = true)
    (h : VE c d env (.Name id p) loc H fun a H0 => ∃ f fd body, a = .fn f ∧ FnOk c f fd body ∧ VEs c d env (e :: es) loc H0 fun as H1 => CB c d (.ref f) as H1 P) : VE c d env (.Call (.Name id p) (e :: es) [] pos) loc H P := by
  intro A hA s ρ hH hF
  refine wpAny_Call_NameR (TR.seq h hA hH hF fun u h₀ tk₀ ρ₀ H₀ a at0 f0 x0 r0 p0 => ?_)
  obtain ⟨f, fd, body, rfl, fo, p0⟩ := p0
  have r0' : u = .ref f := r0
  subst r0'
  rw [starEach_plain hn]
  obtain ⟨o, h1, h2⟩ := fo.look
  refine Calls.callWith_function (o := o) (fd := fd) (Calls.evalArgs_plain ?_)
  refine TR.seq (s := { s with heap := h₀, toks := tk₀ }) p0 hA at0 f0 fun vs h₁ tk₁ ρ₁ H₁ as at1 f1 x1 r1 p1 => ⟨⟨at1.keep _ _ (ok.X _ _ h1), h2⟩, ?_⟩
  exact wpAny_mono (p1 A hA { s with heap := h₁, toks := tk₁ } ρ₁ vs at1 r1) (fun _ _ q => PostE.trans hH (Ext.trans hH x0 x1) q) fun _ _ e => e.elim
/-- a call by a name, with one keyword -/
theorem VE_callK (ok : CxOk c) {id kn : Str} {e value : Expr} {es : List Expr} {p pos kp : Pos} {P : AV → AH → Prop} (hn : noStar (e :: es) = true)
    (h : VE c d env (.Name id p) loc H fun a H0 => ∃ f fd body, a = .fn f ∧ FnOk c f fd body ∧ VEs c d env (e :: es) loc H0 fun as H1 => VE c d env value loc H1 fun kv H2 => CK c d (.ref f) as [(kn, kv)] H2 P) : VE c d env (.Call (.Name id p) (e :: es) [⟨some kn, value, kp⟩] pos) loc H P := by
  intro A hA s ρ hH hF
  refine wpAny_Call_Name_kw (TR.seq h hA hH hF fun u h₀ tk₀ ρ₀ H₀ a at0 f0 x0 r0 p0 => ?_)
  obtain ⟨f, fd, body, rfl, fo, p0⟩ := p0
  have r0' : u = .ref f := r0
  subst r0'
  rw [starEach_plain hn]
  obtain ⟨o, h1, h2⟩ := fo.look
  refine callWith_function_kw (o := o) (fd := fd) (evalArgs_kw rfl ?_)
  refine TR.seq (s := { s with heap := h₀, toks := tk₀ }) p0 hA at0 f0 fun vs h₁ tk₁ ρ₁ H₁ as at1 f1 x1 r1 p1 => ?_
  show wpAny _ A (evalAll [(do let v ← eval value env; standAt pos; pure v)]) _ _ _
  refine wpAny_evalAll_cons (wpAny_bind (TR.seq (s := { s with heap := h₁, toks := tk₁ }) p1 hA at1 f1 fun kv h₂ tk₂ ρ₂ H₂ ka at2 f2 x2 r2 p2 => ?_))
  refine wpAny_bind (wpAny_standAt (wpAny_pure (wpAny_evalAll_nil ⟨⟨at2.keep _ _ (ok.X _ _ h1), h2⟩, ?_⟩)))
  exact wpAny_mono (p2 A hA { s with heap := h₂, toks := tk₂ } ρ₂ vs [(kn, kv)] at2 (r1.mono x2.pre) rfl ⟨r2, trivial⟩) (fun _ _ q => PostE.trans hH (Ext.trans hH x0 (Ext.trans at0 x1 x2)) q) fun _ _ e => e.elim
end
end Mine
namespace Mine
section
variable {c : Cx} {d : Nat} {env : Env} {loc : Loc} {H : AH} {A : Around} {s : Shared} {ρ : List Addr}
/-- a def of one parameter, some of whose names are cells -/
theorem CB_fnC (ok : CxOk c) {f : Addr} {fd : FuncData} {body : List Stmt} (fo : FnOk c f fd body) {x : Nat} {a : AV} {P : AV → AH → Prop} (hx : x < 48) (hbind : ∀ v S, peek c.K S (bindArgs fd ⟨[v], []⟩) = some [(vS x, v)])
    (hloc : fd.scope.names.lookup (vS x) = some .local)
    (hbody : ∀ L, VSs c d (callEnvC fd L f) body [(x, a)] H fun r _ H' => match r with | .ret v => P v H' | .next => P .none H' | _ => False) : CB c (d + 1) (.ref f) [a] H P := by
  intro A hA s ρ vals hH hv
  match vals, hv with
  | [v], ⟨hv, _⟩ =>
    obtain ⟨o, ho, hd⟩ := fo.at ok hH.keep
    have X : c.K.In s.heap := ok.X.keeps hH.keep
    have hdep := hA.dep
    have hun := hA.un
    refine wpAny_call (codeAny_call_function (show A.depth < 1000 by omega) ho hd fo.co fo.gen fo.bod (codeRec_of X fo.code) ((kp_binds X (hbind v)) _ _ _ _ ?_))
    rw [fo.clos]
    refine wpAny_newFunctionEnv_cells fo.kind (by intro y hy; simp only [List.mem_singleton] at hy; subst hy; exact .inl hloc) fun env' he s' xc => ?_
    have he' : env' = callEnvC fd s.heap.objs.size f := he
    subst he'
    obtain ⟨⟨h₁, tk, rfl⟩, hns, kp, hab⟩ := xc.toInCall
    refine ⟨(ok.lim.keeps hH.keep).keeps kp, codeAny_func ?_⟩
    have hA' : AOk d (A.deeper (callEnvC fd s.heap.objs.size f)) := ⟨hA.han, by show A.depth + 1 + d < 900; omega, by show A.units + 3 + 4 * d < 9000; omega⟩
    obtain ⟨a1, x1⟩ := hH.other kp
    have hn : ∀ b, s.heap.objs.size ≤ b → s.heap.get? b = Option.none := fun b hb => by
      cases q : s.heap.get? b with
      | none => rfl
      | some o => exact absurd (Heap.lt_size q) (Nat.not_lt.mpr hb)
    have hbn : ∀ b, s.heap.objs.size ≤ b → c.hb.get? b = Option.none := fun b hb => by
      cases q : c.hb.get? b with
      | none => rfl
      | some o => have := hn b hb; rw [hH.keep _ _ q] at this; cases this
    have hcel : ∀ y cc, (callEnvC fd s.heap.objs.size f).cells.lookup y = some cc → s.heap.objs.size < cc := fun y cc e => by
      obtain ⟨l₁, l₂, h3, _⟩ := List.lookup_eq_some_iff.mp e
      exact xc.above y cc (h3 ▸ (by simp))
    have hkl : (callEnvC fd s.heap.objs.size f).kindOf (vS x) = some .local := hloc
    have f1 : AtF c.hb ρ (callEnvC fd s.heap.objs.size f) [(x, a)] h₁ := by
      refine ⟨fo.kind, fo.gl, fo.bl, ⟨_, hns, fun y w hy e hk => ?_⟩, fun y cc e => ?_, fun y z cc e1 e2 => lookup_inj xc.apart e1 e2, fun y w hy e hk => ?_, notIn_none hH (size_none _), hbn _ (Nat.le_refl _)⟩
      · simp only [lget] at e
        split at e
        · rename_i hb
          have hxy := Nat.eq_of_beq_eq_true hb
          subst hxy
          cases e
          refine ⟨v, ?_, hv⟩
          show bindL _ [(vS x, v)] (fun _ => Option.none) (vS x) = some v
          simp [bindL, hkl]
        · cases e
      · have hlt := hcel y cc e
        exact ⟨⟨_, xc.cell y cc e⟩, notIn_none hH (hn cc (Nat.le_of_lt hlt)), hbn cc (Nat.le_of_lt hlt), Nat.ne_of_gt hlt⟩
      · simp only [lget] at e
        split at e
        · rename_i hb
          have hxy := Nat.eq_of_beq_eq_true hb
          subst hxy
          exact absurd hkl hk
        · cases e
    refine TS.seq (s := { s with heap := h₁, toks := tk }) (hbody s.heap.objs.size) hA' a1 f1 fun fl h₂ tk₂ ρ₂ H₂ l₂ r at2 f2 x2 r2 p2 => ?_
    have xx : Ext NoX ρ H s.heap ρ₂ H₂ h₂ := (Ext.trans hH (x1.weak fun _ e => e.elim) x2).drop fun b hb => hb.elim (fun e => by rw [e]; exact size_none _) fun ⟨y, e⟩ => hn b (Nat.le_of_lt (hcel y b e))
    cases r with
    | ret v => obtain ⟨u, rfl, hv⟩ := r2; exact ⟨h₂, tk₂, ρ₂, H₂, v, rfl, at2, xx, hv, p2⟩
    | next => cases r2; exact ⟨h₂, tk₂, ρ₂, H₂, .none, rfl, at2, xx, rfl, p2⟩
    | brk => exact p2.elim
    | cont => exact p2.elim
end
end Mine
namespace Mine
/-! ## a small syntax, its reckoning, and the look that holds it against the text -/
inductive E where
  | var (x : Nat) | glob (g : Nat) | ci (i : Int) | cs (n : Nat) | cn | cb (b : Bool)
  | lst (es : List E) | bin (op : Operator) (l r : E) | orv (l r : E)
  | idx (l i : E) | slf (l lo : E) | slt (l hi : E)
  | len (e : E) | min2 (a b : E) | lrng (a b st : E) | hex (e : E)
  | dget (k dv : E) | join (l : E) | split (e : E) | lower (e : E)
  | call (f : E) (args : List E) | callk (f : E) (args : List E) (kv : E)
  | bad
inductive It where
  | seq (e : E) | rng (es : List E)
inductive T where
  | cmp (op : CmpOp) (l r : E) | andT (ts : List T) | orT (ts : List T) | notT (t : T) | tr (e : E)
  | anyC (cap : List Nat) (x : Nat) (it : It) (t : T) (elt : E)
inductive S where
  | asg (x : Nat) (e : E) | asg2 (x y : Nat) (e : E) | sto (l i e : E) | aug (x : Nat) (op : Operator) (e : E) | augI (l i : E) (op : Operator) (e : E)
  | app (l e : E) | ins (l i e : E) | ex (e : E)
  | ite (t : T) (b o : List S) | whl (t : T) (b : List S) | fr (x : Nat) (it : It) (b o : List S)
  | brk | ret (e : E) | retC (x : Nat) (it : It) (elt : E) | asgC (y : Nat) (cap : List Nat) (x : Nat) (it : It) (t : T) (elt : E) | asgC2 (y : Nat) (cap : List Nat) (x : Nat) (it : It) (x1 : Nat) (it1 : It) (elt : E) | bad
noncomputable def gL : List (String × AV) := [("pretty_flags", .fn 22), ("insort_right", .fn 31), ("bisect_right", .fn 40), ("_substitution_cost", .fn 47), ("_levenshtein_distance", .fn 54), ("_law_kinds", .fn 59), ("_law_stops", .fn 64), ("_law_orders", .fn 71), ("_law_size", .fn 78),
  ("COMPILER_FLAG_NAMES", .fn 15), ("_MAX_STRING_SIZE", .int 40), ("_MOVE_COST", .int 2), ("_CASE_COST", .int 1)]
noncomputable abbrev CW := Addr → List AV → List (Str × AV) → AH → (AV → AH → Prop) → Prop
noncomputable def isFn (f : Addr) : Bool := [22, 31, 40, 47, 54, 59, 64, 71, 78].contains f
noncomputable def keyS : Str := Str.ofString "key"
mutual
noncomputable def wE (cw : CW) : Nat → E → Loc → AH → (AV → AH → Prop) → Prop
  | 0, _, _, _, _ => False
  | n + 1, e, loc, H, P => match e with
    | .var x => (match lget loc x with | some v => P v H | none => False)
    | .glob g => (match gL[g]? with | some p => P p.2 H | none => False)
    | .ci i => P (.int i) H
    | .cs m => P (.sym m) H
    | .cn => P .none H
    | .cb b => P (.bool b) H
    | .lst es => wEs cw n es loc H fun as H1 => newL H1 as P
    | .bin op l r => wE cw n l loc H fun a H1 => wE cw n r loc H1 fun b H2 => binA op a b H2 P
    | .orv l r => wE cw n l loc H fun a H1 => truA a H1 fun b => if b = true then P a H1 else wE cw n r loc H1 P
    | .idx l i => wE cw n l loc H fun a H1 => wE cw n i loc H1 fun b H2 => (match a, b with | .ref j, .int k => lat H2 j fun o => idxA o k fun v => P v H2 | _, _ => False)
    | .slf l lo => wE cw n l loc H fun a H1 => wE cw n lo loc H1 fun b H2 => (match a, partA b with | .ref j, some lo' => lat H2 j fun o => newL H2 (cutL o.xs lo' none) P | _, _ => False)
    | .slt l hi => wE cw n l loc H fun a H1 => wE cw n hi loc H1 fun b H2 => (match a, partA b with | .ref j, some hi' => lat H2 j fun o => newL H2 (cutL o.xs none hi') P | _, _ => False)
    | .len e => wE cw n e loc H fun a H1 => (match a with | .ref i => lat H1 i fun o => P (.int o.xs.length) H1 | _ => False)
    | .min2 a b => wE cw n a loc H fun x H1 => wE cw n b loc H1 fun y H2 => (match x, y with | .int i, .int j => P (.int (if j < i then j else i)) H2 | _, _ => False)
    | .lrng a b st => wEs cw n [a, b, st] loc H fun as H1 => (match as with | [.int a, .int b, .int st] => (match rangeA a b st with | some xs => newL H1 xs P | none => False) | _ => False)
    | .hex e => wE cw n e loc H fun a H1 => (match a with | .int i => (match hexA i with | some m => P (.sym m) H1 | none => False) | _ => False)
    | .dget k dv => wE cw n k loc H fun a H1 => wE cw n dv loc H1 fun b H2 => (match a, b with | .int i, .sym _ => (match flagA i with | some m => P (.sym m) H2 | none => False) | _, _ => False)
    | .join l => wE cw n l loc H fun a H1 => (match a with | .ref i => lat H1 i fun o => (match joinA o.xs with | some m => P (.sym m) H1 | none => False) | _ => False)
    | .split e => wE cw n e loc H fun a H1 => (match a with | .sym m => (match splitA m with | some xs => newL H1 xs P | none => False) | _ => False)
    | .lower e => wE cw n e loc H fun a H1 => (match a with | .sym m => gd (Nat.blt m 4) (P (.sym (m + 4)) H1) | _ => False)
    | .call f args => wE cw n f loc H fun a H1 => (match a with | .fn f => gd (isFn f) (wEs cw n args loc H1 fun as H2 => cw f as [] H2 P) | _ => False)
    | .callk f args kv => wE cw n f loc H fun a H1 => (match a with | .fn f => gd (isFn f) (wEs cw n args loc H1 fun as H2 => wE cw n kv loc H2 fun k H3 => cw f as [(keyS, k)] H3 P) | _ => False)
    | .bad => False
noncomputable def wEs (cw : CW) : Nat → List E → Loc → AH → (List AV → AH → Prop) → Prop
  | 0, _, _, _, _ => False
  | n + 1, es, loc, H, P => match es with
    | [] => P [] H
    | e :: r => wE cw n e loc H fun a H1 => wEs cw n r loc H1 fun as H2 => P (a :: as) H2
end
mutual
noncomputable def wT (cw : CW) : Nat → T → Loc → AH → (Bool → AH → Prop) → Prop
  | 0, _, _, _, _ => False
  | n + 1, t, loc, H, P => match t with
    | .cmp op l r => wE cw n l loc H fun a H1 => wE cw n r loc H1 fun b H2 => cmpA op a b H2 fun q => P q H2
    | .andT ts => wAnd cw n ts loc H P
    | .orT ts => wOr cw n ts loc H P
    | .notT t => wT cw n t loc H fun b H1 => P (!b) H1
    | .tr e => wE cw n e loc H fun a H1 => truA a H1 fun b => P b H1
    | .anyC .. => False
noncomputable def wAnd (cw : CW) : Nat → List T → Loc → AH → (Bool → AH → Prop) → Prop
  | 0, _, _, _, _ => False
  | n + 1, ts, loc, H, P => match ts with
    | [] => P true H
    | t :: r => wT cw n t loc H fun b H1 => if b = true then wAnd cw n r loc H1 P else P false H1
noncomputable def wOr (cw : CW) : Nat → List T → Loc → AH → (Bool → AH → Prop) → Prop
  | 0, _, _, _, _ => False
  | n + 1, ts, loc, H, P => match ts with
    | [] => P false H
    | t :: r => wT cw n t loc H fun b H1 => if b = true then P true H1 else wOr cw n r loc H1 P
end
noncomputable def wIt (cw : CW) : Nat → It → Loc → AH → (Src → List AV → AH → Prop) → Prop
  | 0, _, _, _, _ => False
  | n + 1, it, loc, H, P => match it with
    | .seq e => wE cw n e loc H fun a H1 => (match a with | .ref i => lat H1 i fun o => P (.lst i) o.xs H1 | _ => False)
    | .rng es => wEs cw n es loc H fun as H1 => rngA as fun S xs => P S xs H1
mutual
noncomputable def wS (cw : CW) : Nat → S → Loc → AH → (AFl → Loc → AH → Prop) → Prop
  | 0, _, _, _, _ => False
  | n + 1, st, loc, H, P => match st with
    | .asg x e => wE cw n e loc H fun v H1 => P .next (lset loc x v) H1
    | .asg2 x y e => wE cw n e loc H fun v H1 => P .next (lset (lset loc x v) y v) H1
    | .sto l i e => wE cw n e loc H fun v H1 => wE cw n l loc H1 fun a H2 => wE cw n i loc H2 fun b H3 => (match a, b with | .ref j, .int k => setA H3 j k v fun H4 => P .next loc H4 | _, _ => False)
    | .aug x op e => (match lget loc x with | some v₀ => wE cw n e loc H fun v H1 => augA op v₀ v fun r => P .next (lset loc x r) H1 | none => False)
    | .augI l i op e => wE cw n l loc H fun a H1 => wE cw n i loc H1 fun b H2 => (match a, b with
      | .ref j, .int k => lat H2 j fun o => idxA o k fun v₀ => wE cw n e loc H2 fun v H3 => augA op v₀ v fun r => setA H3 j k r fun H4 => P .next loc H4
      | _, _ => False)
    | .app l e => wE cw n l loc H fun a H1 => (match a with | .ref i => lat H1 i fun o => gd o.p (wE cw n e loc H1 fun v H2 => lat H2 i fun o => gd (o.w && o.p && Nat.ble o.xs.length 4999) (P .next loc (H2.set i ⟨true, true, o.xs ++ [v]⟩))) | _ => False)
    | .ins l i e => wE cw n l loc H fun a H1 => (match a with | .ref j => lat H1 j fun o => gd o.p (wEs cw n [i, e] loc H1 fun as H2 => (match as with | [.int k, v] => lat H2 j fun o => gd (o.w && o.p && Nat.ble o.xs.length 4999 && decide (0 ≤ k) && decide (k ≤ o.xs.length)) (P .next loc (H2.set j ⟨true, true, o.xs.take k.toNat ++ v :: o.xs.drop k.toNat⟩)) | _ => False)) | _ => False)
    | .ex e => wE cw n e loc H fun v H1 => (match v with | .none => P .next loc H1 | _ => False)
    | .ite t b o => wT cw n t loc H fun r H1 => if r = true then wSs cw n b loc H1 P else wSs cw n o loc H1 P
    | .whl t b => wT cw n t loc H fun r H1 => if r = true then wSs cw n b loc H1 (fun a l H2 => match a with | .next => wS cw n (.whl t b) l H2 P | .cont => wS cw n (.whl t b) l H2 P | .brk => P .next l H2 | .ret v => P (.ret v) l H2) else P .next loc H1
    | .fr x it b o => wIt cw n it loc H fun S xs H1 => wFor cw n x b o S xs xs loc H1 P
    | .brk => P .brk loc H
    | .ret e => wE cw n e loc H fun v H1 => P (.ret v) loc H1
    | .retC .. => False
    | .asgC .. => False
    | .asgC2 .. => False
    | .bad => False
noncomputable def wSs (cw : CW) : Nat → List S → Loc → AH → (AFl → Loc → AH → Prop) → Prop
  | 0, _, _, _, _ => False
  | n + 1, b, loc, H, P => match b with
    | [] => P .next loc H
    | st :: r => wS cw n st loc H fun a l H1 => match a with | .next => wSs cw n r l H1 P | a => P a l H1
noncomputable def wFor (cw : CW) : Nat → Nat → List S → List S → Src → List AV → List AV → Loc → AH → (AFl → Loc → AH → Prop) → Prop
  | 0, _, _, _, _, _, _, _, _, _ => False
  | n + 1, x, b, o, sr, xs, rem, loc, H, P => match rem with
    | [] => wSs cw n o loc H P
    | v :: r => wSs cw n b (lset loc x v) H fun a l H2 => match a with
      | .next => gd (decide (srcIts sr H2 = some xs)) (wFor cw n x b o sr xs r l H2 P)
      | .cont => gd (decide (srcIts sr H2 = some xs)) (wFor cw n x b o sr xs r l H2 P)
      | .brk => P .next l H2
      | .ret v => P (.ret v) l H2
end
end Mine
namespace Mine
/-! looks of one level -/
noncomputable def qName (x : Expr) (k : Str → Pos → Bool) : Bool := match x with | .Name a p => k a p | _ => false
theorem qName_e {x : Expr} {k : Str → Pos → Bool} {C : Expr → Prop} (h : qName x k = true) (c : ∀ a p, k a p = true → C (.Name a p)) : C x := by
  cases x <;> first | exact c _ _ h | exact (Bool.false_ne_true h).elim
noncomputable def qCst (x : Expr) (k : PySem.Const → Nat → Pos → Bool) : Bool := match x with | .Constant a b p => k a b p | _ => false
theorem qCst_e {x : Expr} {k : PySem.Const → Nat → Pos → Bool} {C : Expr → Prop} (h : qCst x k = true) (c : ∀ a b p, k a b p = true → C (.Constant a b p)) : C x := by
  cases x <;> first | exact c _ _ _ h | exact (Bool.false_ne_true h).elim
noncomputable def qLst (x : Expr) (k : List Expr → Pos → Bool) : Bool := match x with | .List a p => k a p | _ => false
theorem qLst_e {x : Expr} {k : List Expr → Pos → Bool} {C : Expr → Prop} (h : qLst x k = true) (c : ∀ a p, k a p = true → C (.List a p)) : C x := by
  cases x <;> first | exact c _ _ h | exact (Bool.false_ne_true h).elim
noncomputable def qBin (x : Expr) (k : Expr → Operator → Expr → Pos → Bool) : Bool := match x with | .BinOp a b c p => k a b c p | _ => false
theorem qBin_e {x : Expr} {k : Expr → Operator → Expr → Pos → Bool} {C : Expr → Prop} (h : qBin x k = true) (c : ∀ a b c p, k a b c p = true → C (.BinOp a b c p)) : C x := by
  cases x <;> first | exact c _ _ _ _ h | exact (Bool.false_ne_true h).elim
noncomputable def qBoolOp (x : Expr) (k : BoolOp → List Expr → Pos → Bool) : Bool := match x with | .BoolOp a b p => k a b p | _ => false
theorem qBoolOp_e {x : Expr} {k : BoolOp → List Expr → Pos → Bool} {C : Expr → Prop} (h : qBoolOp x k = true) (c : ∀ a b p, k a b p = true → C (.BoolOp a b p)) : C x := by
  cases x <;> first | exact c _ _ _ h | exact (Bool.false_ne_true h).elim
noncomputable def qUn (x : Expr) (k : UnaryOp → Expr → Pos → Bool) : Bool := match x with | .UnaryOp a b p => k a b p | _ => false
theorem qUn_e {x : Expr} {k : UnaryOp → Expr → Pos → Bool} {C : Expr → Prop} (h : qUn x k = true) (c : ∀ a b p, k a b p = true → C (.UnaryOp a b p)) : C x := by
  cases x <;> first | exact c _ _ _ h | exact (Bool.false_ne_true h).elim
noncomputable def qSub (x : Expr) (k : Expr → Expr → Pos → Bool) : Bool := match x with | .Subscript a b p => k a b p | _ => false
theorem qSub_e {x : Expr} {k : Expr → Expr → Pos → Bool} {C : Expr → Prop} (h : qSub x k = true) (c : ∀ a b p, k a b p = true → C (.Subscript a b p)) : C x := by
  cases x <;> first | exact c _ _ _ h | exact (Bool.false_ne_true h).elim
noncomputable def qSlc (x : Expr) (k : Option Expr → Option Expr → Option Expr → Pos → Bool) : Bool := match x with | .Slice a b c p => k a b c p | _ => false
theorem qSlc_e {x : Expr} {k : Option Expr → Option Expr → Option Expr → Pos → Bool} {C : Expr → Prop} (h : qSlc x k = true) (c : ∀ a b c p, k a b c p = true → C (.Slice a b c p)) : C x := by
  cases x <;> first | exact c _ _ _ _ h | exact (Bool.false_ne_true h).elim
noncomputable def qCall (x : Expr) (k : Expr → List Expr → List Keyword → Pos → Bool) : Bool := match x with | .Call a b c p => k a b c p | _ => false
theorem qCall_e {x : Expr} {k : Expr → List Expr → List Keyword → Pos → Bool} {C : Expr → Prop} (h : qCall x k = true) (c : ∀ a b c p, k a b c p = true → C (.Call a b c p)) : C x := by
  cases x <;> first | exact c _ _ _ _ h | exact (Bool.false_ne_true h).elim
noncomputable def qAttr (x : Expr) (k : Expr → Str → Pos → Bool) : Bool := match x with | .Attribute a b p => k a b p | _ => false
theorem qAttr_e {x : Expr} {k : Expr → Str → Pos → Bool} {C : Expr → Prop} (h : qAttr x k = true) (c : ∀ a b p, k a b p = true → C (.Attribute a b p)) : C x := by
  cases x <;> first | exact c _ _ _ h | exact (Bool.false_ne_true h).elim
noncomputable def qCmp (x : Expr) (k : Expr → List CmpOp → List Expr → Pos → Bool) : Bool := match x with | .Compare a b c p => k a b c p | _ => false
theorem qCmp_e {x : Expr} {k : Expr → List CmpOp → List Expr → Pos → Bool} {C : Expr → Prop} (h : qCmp x k = true) (c : ∀ a b c p, k a b c p = true → C (.Compare a b c p)) : C x := by
  cases x <;> first | exact c _ _ _ _ h | exact (Bool.false_ne_true h).elim
noncomputable def qLC (x : Expr) (k : Expr → List Comprehension → Scope → Pos → Bool) : Bool := match x with | .ListComp a b c p => k a b c p | _ => false
theorem qLC_e {x : Expr} {k : Expr → List Comprehension → Scope → Pos → Bool} {C : Expr → Prop} (h : qLC x k = true) (c : ∀ a b c p, k a b c p = true → C (.ListComp a b c p)) : C x := by
  cases x <;> first | exact c _ _ _ _ h | exact (Bool.false_ne_true h).elim
noncomputable def qI (x : PySem.Const) (k : Int → Bool) : Bool := match x with | .int a => k a | _ => false
theorem qI_e {x : PySem.Const} {k : Int → Bool} {C : PySem.Const → Prop} (h : qI x k = true) (c : ∀ a, k a = true → C (.int a)) : C x := by
  cases x <;> first | exact c _ h | exact (Bool.false_ne_true h).elim
noncomputable def qStr (x : PySem.Const) (k : Str → Bool) : Bool := match x with | .str a => k a | _ => false
theorem qStr_e {x : PySem.Const} {k : Str → Bool} {C : PySem.Const → Prop} (h : qStr x k = true) (c : ∀ a, k a = true → C (.str a)) : C x := by
  cases x <;> first | exact c _ h | exact (Bool.false_ne_true h).elim
noncomputable def qBoo (x : PySem.Const) (k : Bool → Bool) : Bool := match x with | .bool a => k a | _ => false
theorem qBoo_e {x : PySem.Const} {k : Bool → Bool} {C : PySem.Const → Prop} (h : qBoo x k = true) (c : ∀ a, k a = true → C (.bool a)) : C x := by
  cases x <;> first | exact c _ h | exact (Bool.false_ne_true h).elim
noncomputable def qNon (x : PySem.Const) (k : Bool) : Bool := match x with | .none => k | _ => false
theorem qNon_e {x : PySem.Const} {k : Bool} {C : PySem.Const → Prop} (h : qNon x k = true) (c : k = true → C (.none)) : C x := by
  cases x <;> first | exact c h | exact (Bool.false_ne_true h).elim
noncomputable def qAssign (x : Stmt) (k : List Expr → Expr → Pos → Bool) : Bool := match x with | .Assign a b p => k a b p | _ => false
theorem qAssign_e {x : Stmt} {k : List Expr → Expr → Pos → Bool} {C : Stmt → Prop} (h : qAssign x k = true) (c : ∀ a b p, k a b p = true → C (.Assign a b p)) : C x := by
  cases x <;> first | exact c _ _ _ h | exact (Bool.false_ne_true h).elim
noncomputable def qAug (x : Stmt) (k : Expr → Operator → Expr → Pos → Bool) : Bool := match x with | .AugAssign a b c p => k a b c p | _ => false
theorem qAug_e {x : Stmt} {k : Expr → Operator → Expr → Pos → Bool} {C : Stmt → Prop} (h : qAug x k = true) (c : ∀ a b c p, k a b c p = true → C (.AugAssign a b c p)) : C x := by
  cases x <;> first | exact c _ _ _ _ h | exact (Bool.false_ne_true h).elim
noncomputable def qExpr (x : Stmt) (k : Expr → Pos → Bool) : Bool := match x with | .Expr a p => k a p | _ => false
theorem qExpr_e {x : Stmt} {k : Expr → Pos → Bool} {C : Stmt → Prop} (h : qExpr x k = true) (c : ∀ a p, k a p = true → C (.Expr a p)) : C x := by
  cases x <;> first | exact c _ _ h | exact (Bool.false_ne_true h).elim
noncomputable def qIf (x : Stmt) (k : Expr → List Stmt → List Stmt → Pos → Bool) : Bool := match x with | .If a b c p => k a b c p | _ => false
theorem qIf_e {x : Stmt} {k : Expr → List Stmt → List Stmt → Pos → Bool} {C : Stmt → Prop} (h : qIf x k = true) (c : ∀ a b c p, k a b c p = true → C (.If a b c p)) : C x := by
  cases x <;> first | exact c _ _ _ _ h | exact (Bool.false_ne_true h).elim
noncomputable def qWhile (x : Stmt) (k : Expr → List Stmt → List Stmt → Pos → Bool) : Bool := match x with | .While a b c p => k a b c p | _ => false
theorem qWhile_e {x : Stmt} {k : Expr → List Stmt → List Stmt → Pos → Bool} {C : Stmt → Prop} (h : qWhile x k = true) (c : ∀ a b c p, k a b c p = true → C (.While a b c p)) : C x := by
  cases x <;> first | exact c _ _ _ _ h | exact (Bool.false_ne_true h).elim
noncomputable def qFor (x : Stmt) (k : Expr → Expr → List Stmt → List Stmt → Pos → Bool) : Bool := match x with | .For a b c e p => k a b c e p | _ => false
theorem qFor_e {x : Stmt} {k : Expr → Expr → List Stmt → List Stmt → Pos → Bool} {C : Stmt → Prop} (h : qFor x k = true) (c : ∀ a b c e p, k a b c e p = true → C (.For a b c e p)) : C x := by
  cases x <;> first | exact c _ _ _ _ _ h | exact (Bool.false_ne_true h).elim
noncomputable def qBreak (x : Stmt) (k : Pos → Bool) : Bool := match x with | .Break p => k p | _ => false
theorem qBreak_e {x : Stmt} {k : Pos → Bool} {C : Stmt → Prop} (h : qBreak x k = true) (c : ∀ p, k p = true → C (.Break p)) : C x := by
  cases x <;> first | exact c _ h | exact (Bool.false_ne_true h).elim
noncomputable def qRet (x : Stmt) (k : Option Expr → Pos → Bool) : Bool := match x with | .Return a p => k a p | _ => false
theorem qRet_e {x : Stmt} {k : Option Expr → Pos → Bool} {C : Stmt → Prop} (h : qRet x k = true) (c : ∀ a p, k a p = true → C (.Return a p)) : C x := by
  cases x <;> first | exact c _ _ h | exact (Bool.false_ne_true h).elim
noncomputable def qSo {α : Type} (x : Option α) (k : α → Bool) : Bool := match x with | some a => k a | none => false
theorem qSo_t {α : Type} {x : Option α} {k : α → Bool} (h : qSo x k = true) : ∃ a, x = some a ∧ k a = true := by
  cases x with
  | none => exact (Bool.false_ne_true h).elim
  | some a => exact ⟨a, rfl, h⟩
theorem qSo_e {α : Type} {x : Option α} {k : α → Bool} {C : Option α → Prop} (h : qSo x k = true) (c : ∀ a, k a = true → C (some a)) : C x := by
  cases x with
  | none => exact (Bool.false_ne_true h).elim
  | some a => exact c a h
noncomputable def qNo {α : Type} (x : Option α) (k : Bool) : Bool := match x with | none => k | some _ => false
theorem qNo_e {α : Type} {x : Option α} {k : Bool} {C : Option α → Prop} (h : qNo x k = true) (c : k = true → C none) : C x := by
  cases x with
  | none => exact c h
  | some a => exact (Bool.false_ne_true h).elim
noncomputable def qEq {α : Type} [DecidableEq α] (x y : α) (k : Bool) : Bool := decide (x = y) && k
theorem qEq_e {α : Type} [DecidableEq α] {x y : α} {k : Bool} {C : α → Prop} (h : qEq x y k = true) (c : k = true → C y) : C x := by
  obtain ⟨h1, h2⟩ := Bool.and_eq_true_iff.mp h
  rw [of_decide_eq_true h1]; exact c h2
noncomputable def q0 {α : Type} (x : List α) (k : Bool) : Bool := match x with | [] => k | _ :: _ => false
theorem q0_e {α : Type} {x : List α} {k : Bool} {C : List α → Prop} (h : q0 x k = true) (c : k = true → C []) : C x := by
  cases x with
  | nil => exact c h
  | cons a r => exact (Bool.false_ne_true h).elim
noncomputable def qc {α : Type} (x : List α) (k : α → List α → Bool) : Bool := match x with | [] => false | a :: r => k a r
theorem qc_e {α : Type} {x : List α} {k : α → List α → Bool} {C : List α → Prop} (h : qc x k = true) (c : ∀ a r, k a r = true → C (a :: r)) : C x := by
  cases x with
  | nil => exact (Bool.false_ne_true h).elim
  | cons a r => exact c a r h
noncomputable def q1 {α : Type} (x : List α) (k : α → Bool) : Bool := qc x fun a r => q0 r (k a)
theorem q1_e {α : Type} {x : List α} {k : α → Bool} {C : List α → Prop} (h : q1 x k = true) (c : ∀ a, k a = true → C [a]) : C x := by
  apply qc_e h; intro a r h
  apply q0_e h; exact c a
noncomputable def q2 {α : Type} (x : List α) (k : α → α → Bool) : Bool := qc x fun a r => q1 r (k a)
theorem q2_e {α : Type} {x : List α} {k : α → α → Bool} {C : List α → Prop} (h : q2 x k = true) (c : ∀ a b, k a b = true → C [a, b]) : C x := by
  apply qc_e h; intro a r h
  apply q1_e h; exact c a
noncomputable def q3 {α : Type} (x : List α) (k : α → α → α → Bool) : Bool := qc x fun a r => q2 r (k a)
theorem q3_e {α : Type} {x : List α} {k : α → α → α → Bool} {C : List α → Prop} (h : q3 x k = true) (c : ∀ a b d, k a b d = true → C [a, b, d]) : C x := by
  apply qc_e h; intro a r h
  apply q2_e h; exact c a
noncomputable def qKw (x : Keyword) (k : Option Str → Expr → Pos → Bool) : Bool := k x.arg x.value x.pos
theorem qKw_e {x : Keyword} {k : Option Str → Expr → Pos → Bool} {C : Keyword → Prop} (h : qKw x k = true) (c : ∀ a b d, k a b d = true → C ⟨a, b, d⟩) : C x := by
  cases x; exact c _ _ _ h
noncomputable def qGen (x : Comprehension) (k : Expr → Expr → List Expr → Bool) : Bool := decide (x.is_async = 0) && k x.target x.iter x.ifs
theorem qGen_e {x : Comprehension} {k : Expr → Expr → List Expr → Bool} {C : Comprehension → Prop} (h : qGen x k = true) (c : ∀ a b d, k a b d = true → C ⟨a, b, d, 0⟩) : C x := by
  obtain ⟨a, b, d, e⟩ := x
  obtain ⟨h1, h2⟩ := Bool.and_eq_true_iff.mp h
  obtain rfl : e = 0 := of_decide_eq_true h1
  exact c a b d h2
noncomputable abbrev KS := List (Str × NameKind)
noncomputable def bnOk (ks : KS) (id : Str) (n : String) : Bool := decide (id = Str.ofString n) && decide (ks.lookup id = some .globalImplicit)
noncomputable def noSlice : Expr → Bool
  | .Slice .. => false
  | _ => true
noncomputable def noComp : Expr → Bool
  | .ListComp .. => false
  | .SetComp .. => false
  | .DictComp .. => false
  | _ => true
noncomputable def plainT : Expr → Bool
  | .UnaryOp .. => false
  | .BoolOp .. => false
  | .IfExp .. => false
  | .Compare .. => false
  | _ => true
noncomputable def noSet : Expr → Bool
  | .Set .. => false
  | _ => true
mutual
noncomputable def okE (ks : KS) : Nat → E → Expr → Bool
  | 0, _, _ => false
  | m + 1, e, x => match e with
    | .bad => true
    | .var v => qName x fun id z1 => decide (id = vS v) && Nat.blt v 48
    | .glob g => qName x fun id z1 => qSo gL[g]? fun p => decide (id = Str.ofString p.1) && decide (ks.lookup id = some .globalImplicit) && !(id == ("__debug__" : Str))
    | .ci i => qCst x fun z1 z2 z3 => qI z1 fun j => decide (i = j)
    | .cs n => qCst x fun z1 z2 z3 => qStr z1 fun s => decide (s = symS n) && Nat.blt n 24
    | .cn => qCst x fun z1 z2 z3 => qNon z1 (true)
    | .cb b => qCst x fun z1 z2 z3 => qBoo z1 fun b' => decide (b = b')
    | .lst es => qLst x fun xs z1 => noStar xs && okEs ks m es xs
    | .bin op l r => qBin x fun xl op' xr z1 => decide (op = op') && okE ks m l xl && okE ks m r xr
    | .orv l r => qBoolOp x fun z1 z2 z3 => qEq z1 BoolOp.Or (q2 z2 fun xl xr => okE ks m l xl && okE ks m r xr)
    | .idx l i => qSub x fun xl xi z1 => noSlice xi && okE ks m l xl && okE ks m i xi
    | .slf l lo => qSub x fun z1 z6 z7 => qName z1 fun id p => qSlc z6 fun z2 z3 z4 z5 => qSo z2 fun xlo => qNo z3 (qNo z4 (okE ks m l (.Name id p) && okE ks m lo xlo))
    | .slt l hi => qSub x fun z1 z6 z7 => qName z1 fun id p => qSlc z6 fun z2 z3 z4 z5 => qNo z2 (qSo z3 fun xhi => qNo z4 (okE ks m l (.Name id p) && okE ks m hi xhi))
    | .len e => qCall x fun z2 z3 z4 z5 => qName z2 fun id z1 => q1 z3 fun x1 => q0 z4 (bnOk ks id "len" && noStar [x1] && okE ks m e x1)
    | .min2 a b => qCall x fun z2 z3 z4 z5 => qName z2 fun id z1 => q2 z3 fun x1 x2 => q0 z4 (bnOk ks id "min" && noStar [x1, x2] && okE ks m a x1 && okE ks m b x2)
    | .lrng a b st => qCall x fun z2 z9 z10 z11 => qName z2 fun id z1 => q1 z9 fun z8 => qCall z8 fun z4 z5 z6 z7 => qName z4 fun id' z3 => q3 z5 fun x1 x2 x3 => q0 z6 (q0 z10 (bnOk ks id "list" && bnOk ks id' "range" && noStar [x1, x2, x3] && okEs ks m [a, b, st] [x1, x2, x3]))
    | .hex e => qCall x fun z2 z3 z4 z5 => qName z2 fun id z1 => q1 z3 fun x1 => q0 z4 (bnOk ks id "hex" && noStar [x1] && okE ks m e x1)
    | .dget k dv => qCall x fun z3 z4 z5 pos => qAttr z3 fun z2 nm apos => qName z2 fun id z1 => q2 z4 fun x1 x2 => q0 z5 (decide (id = Str.ofString "COMPILER_FLAG_NAMES") && decide (ks.lookup id = some .globalImplicit) && decide (nm = Str.ofString "get") && (apos.endLine == pos.line) && noStar [x1, x2] && okE ks m k x1 && okE ks m dv x2)
    | .join l => qCall x fun z5 z6 z7 pos => qAttr z5 fun z4 nm apos => qCst z4 fun z1 z2 z3 => qStr z1 fun s => q1 z6 fun x1 => q0 z7 (decide (s = symS 23) && decide (nm = Str.ofString "join") && (apos.endLine == pos.line) && noStar [x1] && okE ks m l x1)
    | .split e => qCall x fun z4 z9 z10 pos => qAttr z4 fun z3 nm apos => qCall z3 fun z1 z2 kw p2 => qName z1 fun id p => qc z2 fun a r => q1 z9 fun z8 => qCst z8 fun z5 z6 z7 => qStr z5 fun s => q0 z10 (decide (s = symS 23) && decide (nm = Str.ofString "split") && (apos.endLine == pos.line) && okE ks m e (.Call (.Name id p) (a :: r) kw p2))
    | .lower e => qCall x fun z2 z3 z4 pos => qAttr z2 fun z1 nm apos => qName z1 fun id p => q0 z3 (q0 z4 (decide (nm = Str.ofString "lower") && (apos.endLine == pos.line) && okE ks m e (.Name id p)))
    | .call f args => qCall x fun z1 z2 z3 z4 => qName z1 fun id p => qc z2 fun x1 xs => q0 z3 (noStar (x1 :: xs) && okE ks m f (.Name id p) && okEs ks m args (x1 :: xs))
    | .callk f args kv => qCall x fun z1 z2 z6 z7 => qName z1 fun id p => qc z2 fun x1 xs => q1 z6 fun z5 => qKw z5 fun z3 xv z4 => qSo z3 fun kn => decide (kn = keyS) && noStar (x1 :: xs) && okE ks m f (.Name id p) && okEs ks m args (x1 :: xs) && okE ks m kv xv
noncomputable def okEs (ks : KS) : Nat → List E → List Expr → Bool
  | 0, _, _ => false
  | m + 1, es, xs => match es, xs with
    | [], [] => true
    | e :: es, x :: xs => okE ks m e x && okEs ks m es xs
    | _, _ => false
end
structure GlOk (c : Cx) : Prop where
  gl : ∀ (g : Nat) (p : String × AV), gL[g]? = some p → ∃ u, c.mg (Str.ofString p.1) = some u ∧ ∀ ρ, Val ρ p.2 u
  fns : ∀ f, isFn f = true → ∃ fd body, FnOk c f fd body
  bn : ∀ n ∈ ["len", "range", "min", "list", "hex"], c.mg (Str.ofString n) = Option.none
structure EnvOk (env : Env) (ks : KS) : Prop where
  names : env.scope.names = ks
  kind : env.scope.kind = .function
  cells : ∀ id, ks.lookup id = some .cell → ∃ cc, env.cells.lookup id = some cc
noncomputable def CwOk (c : Cx) (d : Nat) (cw : CW) : Prop := ∀ f as ks H P, cw f as ks H P → CK c d (.ref f) as ks H P
section
variable {c : Cx} {d : Nat} {env : Env} {ks : KS} {cw : CW}
theorem BName.of (gk : GlOk c) (ek : EnvOk env ks) {id : Str} {n : String} {u : Value} (h : bnOk ks id n = true) (hm : n ∈ ["len", "range", "min", "list", "hex"]) (hd : (Str.ofString n == ("__debug__" : Str)) = false) (hn : Str.ofString n ≠ ("__name__" : Str)) (hv : bootBuiltins (Str.ofString n) = some u) : BName c env id u := by
  simp only [bnOk, Bool.and_eq_true, decide_eq_true_eq] at h
  obtain ⟨rfl, h2⟩ := h
  exact ⟨by rw [Env.kindOf, ek.names]; exact h2, hd, gk.bn n hm, hn, hv⟩
theorem sE (ok : CxOk c) (gk : GlOk c) (ek : EnvOk env ks) (hcw : CwOk c d cw) : ∀ n,
    (∀ m e x loc H P, okE ks m e x = true → wE cw n e loc H P → VE c d env x loc H P) ∧ (∀ m es xs loc H P, okEs ks m es xs = true → wEs cw n es loc H P → VEs c d env xs loc H P) := by
  intro n
  induction n with
  | zero => exact ⟨fun m e x loc H P _ h => by simp [wE] at h, fun m es xs loc H P _ h => by simp [wEs] at h⟩
  | succ n ih =>
    obtain ⟨ihE, ihEs⟩ := ih
    constructor
    · intro m e x loc H P hok hw
      cases m with
      | zero => simp [okE] at hok
      | succ m =>
      cases e with
      | bad => simp [wE] at hw
      | var v =>
        simp only [okE] at hok
        apply qName_e hok; intro id z1 hok
        · simp only [Bool.and_eq_true, decide_eq_true_eq] at hok
          simp only [wE] at hw
          split at hw
          · exact VE_var hok.1 (Nat.le_of_ble_eq_true hok.2) (by assumption) hw
          · exact hw.elim
      | glob g =>
        simp only [okE] at hok
        apply qName_e hok; intro id p hok
        obtain ⟨q, hg, hok⟩ := qSo_t hok
        · simp only [Bool.and_eq_true, decide_eq_true_eq, Bool.not_eq_true'] at hok
          obtain ⟨⟨rfl, h2⟩, h3⟩ := hok
          simp only [wE, hg] at hw
          obtain ⟨u, hu, hv⟩ := gk.gl g q hg
          exact VE_glob ok (by rw [Env.kindOf, ek.names]; exact h2) h3 hu hv hw
      | ci i =>
        simp only [okE] at hok
        apply qCst_e hok; intro z1 z2 z3 hok
        apply qI_e hok; intro j hok
        · simp only [decide_eq_true_eq] at hok; subst hok; exact VE_int hw
      | cs k =>
        simp only [okE] at hok
        apply qCst_e hok; intro z1 z2 z3 hok
        apply qStr_e hok; intro s hok
        · simp only [Bool.and_eq_true, decide_eq_true_eq] at hok
          obtain ⟨rfl, h2⟩ := hok
          intro A hA s ρ hH hF
          exact Calls.Constant_str (PostE.here hH ⟨Nat.le_of_ble_eq_true h2, _, rfl⟩ hw _)
      | cn =>
        simp only [okE] at hok
        apply qCst_e hok; intro z1 z2 z3 hok
        apply qNon_e hok; intro hok
        · exact VE_none hw
      | cb b =>
        simp only [okE] at hok
        apply qCst_e hok; intro z1 z2 z3 hok
        apply qBoo_e hok; intro b' hok
        · simp only [decide_eq_true_eq] at hok; subst hok; exact VE_bool hw
      | lst es =>
        simp only [okE] at hok
        apply qLst_e hok; intro xs z1 hok
        · simp only [Bool.and_eq_true] at hok
          exact VE_list hok.1 (ihEs m es _ loc H _ hok.2 hw)
      | bin op l r =>
        simp only [okE] at hok
        apply qBin_e hok; intro xl op' xr z1 hok
        · simp only [Bool.and_eq_true, decide_eq_true_eq] at hok
          obtain ⟨⟨rfl, h1⟩, h2⟩ := hok
          exact VE_bin ((ihE m l _ loc H _ h1 hw).mono fun a H1 hw => ihE m r _ loc H1 _ h2 hw)
      | orv l r =>
        simp only [okE] at hok
        apply qBoolOp_e hok; intro z1 z2 z3 hok
        apply qEq_e hok; intro hok
        apply q2_e hok; intro xl xr hok
        · simp only [Bool.and_eq_true] at hok
          refine VE_or ((ihE m l _ loc H _ hok.1 hw).mono fun a H1 hw => ?_)
          have : ∀ b : Bool, (if b = true then P a H1 else wE cw n r loc H1 P) → (if b = true then P a H1 else VE c d env _ loc H1 P) := fun b hb => by
            cases b with
            | true => exact hb
            | false => exact ihE m r _ loc H1 _ hok.2 hb
          unfold truA at hw ⊢
          split at hw
          · exact this _ hw
          · exact this _ hw
          · exact this _ hw
          · obtain ⟨o, e1, hw⟩ := lat_of hw
            unfold lat
            rw [e1]
            exact this _ hw
          · exact hw
      | idx l i =>
        simp only [okE] at hok
        apply qSub_e hok; intro xl xi z1 hok
        · simp only [Bool.and_eq_true] at hok
          exact VE_idx ((ihE m l _ loc H _ hok.1.2 hw).mono fun a H1 hw => ihE m i _ loc H1 _ hok.2 hw) (fun o v => by cases xi <;> first | rfl | exact (Bool.false_ne_true hok.1.1).elim)
      | slf l lo =>
        simp only [okE] at hok
        apply qSub_e hok; intro z1 z6 z7 hok
        apply qName_e hok; intro id p hok
        apply qSlc_e hok; intro z2 z3 z4 z5 hok
        apply qSo_e hok; intro xlo hok
        apply qNo_e hok; intro hok
        apply qNo_e hok; intro hok
        · simp only [Bool.and_eq_true] at hok
          refine VE_slc ((ihE m l _ loc H _ hok.1 hw).mono fun a H1 hw => (TR_part (ihE m lo _ loc H1 _ hok.2 hw)).mono fun b H2 hw => TR_noPart ?_) (fun _ _ => rfl)
          split at hw
          · rename_i hlo _
            rw [hlo]
            exact hw
          · exact hw.elim
      | slt l hi =>
        simp only [okE] at hok
        apply qSub_e hok; intro z1 z6 z7 hok
        apply qName_e hok; intro id p hok
        apply qSlc_e hok; intro z2 z3 z4 z5 hok
        apply qNo_e hok; intro hok
        apply qSo_e hok; intro xhi hok
        apply qNo_e hok; intro hok
        · simp only [Bool.and_eq_true] at hok
          refine VE_slc ((ihE m l _ loc H _ hok.1 hw).mono fun a H1 hw => TR_noPart ((TR_part (ihE m hi _ loc H1 _ hok.2 hw)).mono fun b H2 hw => ?_)) (fun _ _ => rfl)
          split at hw
          · rename_i hhi _
            rw [hhi]
            exact hw
          · exact hw.elim
      | len e =>
        simp only [okE] at hok
        apply qCall_e hok; intro z2 z3 z4 z5 hok
        apply qName_e hok; intro id z1 hok
        apply q1_e hok; intro x1 hok
        apply q0_e hok; intro hok
        · simp only [Bool.and_eq_true] at hok
          refine VE_callB ok (BName.of gk ek hok.1.1 (by simp) (by decide +kernel) (by decide +kernel) boot_len) hok.1.2 (VEs_cons ((ihE m e _ loc H _ hok.2 hw).mono fun a H1 hw => VEs_nil ?_))
          split at hw
          · exact CB_len hw
          · exact hw.elim
      | min2 a b =>
        simp only [okE] at hok
        apply qCall_e hok; intro z2 z3 z4 z5 hok
        apply qName_e hok; intro id z1 hok
        apply q2_e hok; intro x1 x2 hok
        apply q0_e hok; intro hok
        · simp only [Bool.and_eq_true] at hok
          refine VE_callB ok (BName.of gk ek hok.1.1.1 (by simp) (by decide +kernel) (by decide +kernel) boot_min) hok.1.1.2 (VEs_cons ((ihE m a _ loc H _ hok.1.2 hw).mono fun x H1 hw => VEs_cons ((ihE m b _ loc H1 _ hok.2 hw).mono fun y H2 hw => VEs_nil ?_)))
          split at hw
          · exact CB_min hw
          · exact hw.elim
      | lrng a b st =>
        simp only [okE] at hok
        apply qCall_e hok; intro z2 z9 z10 z11 hok
        apply qName_e hok; intro id z1 hok
        apply q1_e hok; intro z8 hok
        apply qCall_e hok; intro z4 z5 z6 z7 hok
        apply qName_e hok; intro id' z3 hok
        apply q3_e hok; intro x1 x2 x3 hok
        apply q0_e hok; intro hok
        apply q0_e hok; intro hok
        · simp only [Bool.and_eq_true] at hok
          exact VE_lrange ok (BName.of gk ek hok.1.1.1 (by simp) (by decide +kernel) (by decide +kernel) PyProof.Rows.boot_list) (BName.of gk ek hok.1.1.2 (by simp) (by decide +kernel) (by decide +kernel) boot_range) hok.1.2 (ihEs m _ _ loc H _ hok.2 hw)
      | hex e =>
        simp only [okE] at hok
        apply qCall_e hok; intro z2 z3 z4 z5 hok
        apply qName_e hok; intro id z1 hok
        apply q1_e hok; intro x1 hok
        apply q0_e hok; intro hok
        · simp only [Bool.and_eq_true] at hok
          refine VE_callB ok (BName.of gk ek hok.1.1 (by simp) (by decide +kernel) (by decide +kernel) boot_hex) hok.1.2 (VEs_cons ((ihE m e _ loc H _ hok.2 hw).mono fun a H1 hw => VEs_nil ?_))
          split at hw
          · split at hw
            · exact CB_hex (by assumption) hw
            · exact hw.elim
          · exact hw.elim
      | dget k dv =>
        simp only [okE] at hok
        apply qCall_e hok; intro z3 z4 z5 pos hok
        apply qAttr_e hok; intro z2 nm apos hok
        apply qName_e hok; intro id z1 hok
        apply q2_e hok; intro x1 x2 hok
        apply q0_e hok; intro hok
        · simp only [Bool.and_eq_true, decide_eq_true_eq] at hok
          obtain ⟨⟨⟨⟨⟨⟨rfl, h1⟩, rfl⟩, h3⟩, h4⟩, h5⟩, h6⟩ := hok
          obtain ⟨u, hu, hv⟩ := gk.gl 9 ("COMPILER_FLAG_NAMES", .fn 15) rfl
          refine VE_meth (id := "dict.get") h4 rfl h3 (fun _ => rfl) (VE_glob ok (by rw [Env.kindOf, ek.names]; exact h1) (by decide +kernel) hu hv ⟨GM_get ok, ?_⟩)
          refine VEs_cons ((ihE m k _ loc H _ h5 hw).mono fun a H1 hw => VEs_cons ((ihE m dv _ loc H1 _ h6 hw).mono fun b H2 hw => VEs_nil ?_))
          split at hw
          · split at hw
            · exact CB_get ok (by assumption) hw
            · exact hw.elim
          · exact hw.elim
      | join l =>
        simp only [okE] at hok
        apply qCall_e hok; intro z5 z6 z7 pos hok
        apply qAttr_e hok; intro z4 nm apos hok
        apply qCst_e hok; intro z1 z2 z3 hok
        apply qStr_e hok; intro s hok
        apply q1_e hok; intro x1 hok
        apply q0_e hok; intro hok
        · simp only [Bool.and_eq_true, decide_eq_true_eq] at hok
          obtain ⟨⟨⟨⟨rfl, rfl⟩, h3⟩, h4⟩, h5⟩ := hok
          refine VE_meth (id := "str.join") h4 rfl h3 (fun _ => rfl) ?_
          intro A hA s ρ hH hF
          refine Calls.Constant_str (PostE.here (b := AV.sym 23) hH ⟨by decide, _, rfl⟩ ⟨GM_join, ?_⟩ _)
          refine VEs_cons ((ihE m l _ loc H _ h5 hw).mono fun a H1 hw => VEs_nil ?_)
          split at hw
          · obtain ⟨o, e1, hw⟩ := lat_of hw
            split at hw
            · rename_i mm hj
              refine CB_join (m := mm) ?_
              unfold lat
              rw [e1]
              exact ⟨hj, hw⟩
            · exact hw.elim
          · exact hw.elim
      | split e =>
        simp only [okE] at hok
        apply qCall_e hok; intro z4 z9 z10 pos hok
        apply qAttr_e hok; intro z3 nm apos hok
        apply qCall_e hok; intro z1 z2 kw p2 hok
        apply qName_e hok; intro id p hok
        apply qc_e hok; intro a r hok
        apply q1_e hok; intro z8 hok
        apply qCst_e hok; intro z5 z6 z7 hok
        apply qStr_e hok; intro s hok
        apply q0_e hok; intro hok
        · simp only [Bool.and_eq_true, decide_eq_true_eq] at hok
          obtain ⟨⟨⟨rfl, rfl⟩, h3⟩, h4⟩ := hok
          refine VE_meth (id := "str.split") rfl rfl h3 (fun _ => rfl) ((ihE m e _ loc H _ h4 hw).mono fun a H1 hw => ?_)
          split at hw
          · refine ⟨GM_split, VEs_cons ?_⟩
            intro A hA s ρ hH hF
            refine Calls.Constant_str (PostE.here (b := AV.sym 23) hH ⟨by decide, _, rfl⟩ (VEs_nil (CB_split ?_)) _)
            exact hw
          · exact hw.elim
      | lower e =>
        simp only [okE] at hok
        apply qCall_e hok; intro z2 z3 z4 pos hok
        apply qAttr_e hok; intro z1 nm apos hok
        apply qName_e hok; intro id p hok
        apply q0_e hok; intro hok
        apply q0_e hok; intro hok
        · simp only [Bool.and_eq_true, decide_eq_true_eq] at hok
          obtain ⟨⟨rfl, h3⟩, h4⟩ := hok
          refine VE_meth (id := "str.lower") rfl rfl h3 (fun _ => rfl) ((ihE m e _ loc H _ h4 hw).mono fun a H1 hw => ?_)
          split at hw
          · exact ⟨GM_lower, VEs_nil (CB_lower hw)⟩
          · exact hw.elim
      | call f args =>
        simp only [okE] at hok
        apply qCall_e hok; intro z1 z2 z3 z4 hok
        apply qName_e hok; intro id p hok
        apply qc_e hok; intro x1 xs hok
        apply q0_e hok; intro hok
        · simp only [Bool.and_eq_true] at hok
          refine VE_callF ok hok.1.1 ((ihE m f _ loc H _ hok.1.2 hw).mono fun a H1 hw => ?_)
          split at hw
          · rename_i f'
            obtain ⟨h1, hw⟩ := gd_iff.mp hw
            obtain ⟨fd, body, fo⟩ := gk.fns f' h1
            exact ⟨f', fd, body, rfl, fo, (ihEs m args _ loc H1 _ hok.2 hw).mono fun as H2 hw => CK.toCB (hcw _ _ _ _ _ hw)⟩
          · exact hw.elim
      | callk f args kv =>
        simp only [okE] at hok
        apply qCall_e hok; intro z1 z2 z6 z7 hok
        apply qName_e hok; intro id p hok
        apply qc_e hok; intro x1 xs hok
        apply q1_e hok; intro z5 hok
        apply qKw_e hok; intro z3 xv z4 hok
        apply qSo_e hok; intro kn hok
        · simp only [Bool.and_eq_true, decide_eq_true_eq] at hok
          obtain ⟨⟨⟨⟨rfl, h1⟩, h2⟩, h3⟩, h4⟩ := hok
          refine VE_callK ok h1 ((ihE m f _ loc H _ h2 hw).mono fun a H1 hw => ?_)
          split at hw
          · rename_i f'
            obtain ⟨g1, hw⟩ := gd_iff.mp hw
            obtain ⟨fd, body, fo⟩ := gk.fns f' g1
            exact ⟨f', fd, body, rfl, fo, (ihEs m args _ loc H1 _ h3 hw).mono fun as H2 hw => (ihE m kv _ loc H2 _ h4 hw).mono fun k H3 hw => hcw _ _ _ _ _ hw⟩
          · exact hw.elim
    · intro m es xs loc H P hok hw
      cases m with
      | zero => simp [okEs] at hok
      | succ m =>
      match es, xs with
      | [], [] => exact VEs_nil hw
      | e :: es, x :: xs =>
        simp only [okEs, Bool.and_eq_true] at hok
        exact VEs_cons ((ihE m e x loc H _ hok.1 hw).mono fun a H1 hw => ihEs m es xs loc H1 _ hok.2 hw)
      | [], _ :: _ => simp [okEs] at hok
      | _ :: _, [] => simp [okEs] at hok
end
end Mine
namespace Mine
noncomputable def okIt (ks : KS) (m : Nat) (it : It) (x : Expr) : Bool :=
  noSet x && match it with
    | .seq e => okE ks m e x
    | .rng es => qCall x fun z2 z3 z4 z5 => qName z2 fun id z1 => qc z3 fun x1 xs => q0 z4 (bnOk ks id "range" && noStar (x1 :: xs) && okEs ks m es (x1 :: xs))
/-- the names of a comprehension's own frame -/
noncomputable def compKs (ks : KS) (scope : Scope) : KS := scope.names.map fun (n, k) => if (k == .free && (ks.lookup n == some .cell)) then (n, .cell) else (n, k)
noncomputable def scopeOk (ks : KS) (scope : Scope) (cap xs : List Nat) : Bool :=
  decide (scope.kind = .function) && (scope.names.all fun p => !(p.2 == .cell)) && (scope.names.all fun p => !(p.2 == .free) || (ks.lookup p.1 == some .cell)) && (scope.names.all fun p => !(p.2 == .local) || (scope.names.lookup p.1 == some .local)) &&
  (cap.all fun y => Nat.blt y 48 && (ks.lookup (vS y) == some .cell) && ((compKs ks scope).lookup (vS y) == some .cell) && (scope.names.lookup (vS y) == some .free) && !xs.contains y) && xs.all fun x => Nat.blt x 48 && (scope.names.lookup (vS x) == some .local)
mutual
noncomputable def okT (ks : KS) : Nat → T → Expr → Bool
  | 0, _, _ => false
  | m + 1, t, x => match t with
    | .cmp op l r => qCmp x fun xl z1 z2 z3 => q1 z1 fun op' => q1 z2 fun xr => decide (op = op') && !behindInMarks op xr && okE ks m l xl && okE ks m r xr
    | .andT ts => qBoolOp x fun z1 xs z2 => qEq z1 BoolOp.And (okTs ks m ts xs)
    | .orT ts => qBoolOp x fun z1 xs z2 => qEq z1 BoolOp.Or (okTs ks m ts xs)
    | .notT t => qUn x fun z1 x1 z2 => qEq z1 UnaryOp.Not (okT ks m t x1)
    | .tr e => plainT x && okE ks m e x
    | .anyC cap v it t elt => qCmp x fun z7 z9 z13 z14 => qLC z7 fun xelt z5 scope z6 => q1 z5 fun z4 => qGen z4 fun z2 xit z3 => qName z2 fun id z1 => q1 z3 fun xt => q1 z9 fun z8 => qEq z8 CmpOp.NotEq (q1 z13 fun z12 => qLst z12 fun z10 z11 => q0 z10 (decide (id = vS v) && scopeOk ks scope cap [v] && okIt ks m it xit && okT (compKs ks scope) m t xt && okE (compKs ks scope) m elt xelt))
noncomputable def okTs (ks : KS) : Nat → List T → List Expr → Bool
  | 0, _, _ => false
  | m + 1, ts, xs => match ts, xs with
    | [], [] => true
    | t :: ts, x :: xs => okT ks m t x && okTs ks m ts xs
    | _, _ => false
end
noncomputable def stoOk (ks : KS) (id : Str) (x : Nat) : Bool := decide (id = vS x) && Nat.blt x 48 && (decide (ks.lookup id = some .local) || decide (ks.lookup id = some .cell))
mutual
noncomputable def okS (ks : KS) : Nat → S → Stmt → Bool
  | 0, _, _ => false
  | m + 1, st, x => match st with
    | .bad => true
    | .asg v e => qAssign x fun z3 xv z4 => q1 z3 fun z2 => qName z2 fun id z1 => stoOk ks id v && noComp xv && okE ks m e xv
    | .asg2 v w e => qAssign x fun z5 xv z6 => q2 z5 fun z2 z4 => qName z2 fun id z1 => qName z4 fun id' z3 => stoOk ks id v && stoOk ks id' w && okE ks m e xv
    | .sto l i e => qAssign x fun z3 xv z4 => q1 z3 fun z2 => qSub z2 fun xl xi z1 => noComp xv && okE ks m e xv && okE ks m l xl && okE ks m i xi
    | .aug v op e => qAug x fun z2 op' xv z3 => qName z2 fun id z1 => stoOk ks id v && decide (op = op') && okE ks m e xv
    | .augI l i op e => qAug x fun z2 op' xv z3 => qSub z2 fun xl xi z1 => noSlice xi && decide (op = op') && okE ks m l xl && okE ks m i xi && okE ks m e xv
    | .app l e => qExpr x fun z5 z6 => qCall z5 fun z2 z3 z4 pos => qAttr z2 fun z1 nm apos => qName z1 fun id p => q1 z3 fun x1 => q0 z4 (decide (nm = Str.ofString "append") && (apos.endLine == pos.line) && noStar [x1] && okE ks m l (.Name id p) && okE ks m e x1)
    | .ins l i e => qExpr x fun z5 z6 => qCall z5 fun z2 z3 z4 pos => qAttr z2 fun z1 nm apos => qName z1 fun id p => q2 z3 fun x1 x2 => q0 z4 (decide (nm = Str.ofString "insert") && (apos.endLine == pos.line) && noStar [x1, x2] && okE ks m l (.Name id p) && okEs ks m [i, e] [x1, x2])
    | .ex e => qExpr x fun xv z1 => noComp xv && okE ks m e xv
    | .ite t b o => qIf x fun xt xb xo z1 => okT ks m t xt && okSs ks m b xb && okSs ks m o xo
    | .whl t b => qWhile x fun xt xb z1 z2 => q0 z1 (okT ks m t xt && okSs ks m b xb)
    | .fr v it b o => qFor x fun z2 xit xb xo z3 => qName z2 fun id z1 => stoOk ks id v && okIt ks m it xit && okSs ks m b xb && okSs ks m o xo
    | .brk => qBreak x fun z1 => true
    | .ret e => qRet x fun z1 z2 => qSo z1 fun xe => okE ks m e xe
    | .retC v it elt => qRet x fun z8 z9 => qSo z8 fun z7 => qLC z7 fun xelt z5 scope z6 => q1 z5 fun z4 => qGen z4 fun z2 xit z3 => qName z2 fun id z1 => q0 z3 (decide (id = vS v) && scopeOk ks scope [] [v] && okIt ks m it xit && okE (compKs ks scope) m elt xelt)
    | .asgC y cap v it t elt => qAssign x fun z2 z8 z9 => q1 z2 fun z1 => qName z1 fun idy py => qLC z8 fun xelt z7 scope pos => q1 z7 fun z6 => qGen z6 fun z4 xit z5 => qName z4 fun id z3 => q1 z5 fun xt => stoOk ks idy y && (ks.lookup idy == some .local) && (py.line == pos.line) && !(scope.names.any fun p => p.1 == idy && (p.2 == .local || p.2 == .cell)) && decide (id = vS v) && scopeOk ks scope cap [v] && okIt ks m it xit && okT (compKs ks scope) m t xt && okE (compKs ks scope) m elt xelt
    | .asgC2 y cap v it v1 it1 elt => qAssign x fun z2 z12 z13 => q1 z2 fun z1 => qName z1 fun idy py => qLC z12 fun xelt z11 scope pos => q2 z11 fun z6 z10 => qGen z6 fun z4 xit z5 => qName z4 fun id z3 => q0 z5 (qGen z10 fun z8 xit1 z9 => qName z8 fun id1 z7 => q0 z9 (stoOk ks idy y && (ks.lookup idy == some .local) && (py.line == pos.line) && !(scope.names.any fun p => p.1 == idy && (p.2 == .local || p.2 == .cell)) && decide (id = vS v) && decide (id1 = vS v1) && !(Nat.beq v v1) && scopeOk ks scope cap [v, v1] && okIt ks m it xit && okIt (compKs ks scope) m it1 xit1 && okE (compKs ks scope) m elt xelt))
noncomputable def okSs (ks : KS) : Nat → List S → List Stmt → Bool
  | 0, _, _ => false
  | m + 1, ss, xs => match ss, xs with
    | [], [] => true
    | s :: ss, x :: xs => okS ks m s x && okSs ks m ss xs
    | _, _ => false
end
section
variable {c : Cx} {d : Nat} {env : Env} {ks : KS} {cw : CW}
theorem truA_mono {a : AV} {H : AH} {P P' : Bool → Prop} (h : truA a H P) (hp : ∀ b, P b → P' b) : truA a H P' := by
  unfold truA at h ⊢
  split at h
  · exact hp _ h
  · exact hp _ h
  · exact hp _ h
  · obtain ⟨o, e1, h⟩ := lat_of h
    unfold lat; rw [e1]; exact hp _ h
  · exact h
theorem sT (ok : CxOk c) (gk : GlOk c) (ek : EnvOk env ks) (hcw : CwOk c d cw) : ∀ n,
    (∀ m t x loc H P, okT ks m t x = true → wT cw n t loc H P → VT c d env x loc H P) ∧
    (∀ m ts xs pos loc H P, okTs ks m ts xs = true → wAnd cw n ts loc H P → VT c d env (.BoolOp .And xs pos) loc H P) ∧
    (∀ m ts xs pos loc H P, okTs ks m ts xs = true → wOr cw n ts loc H P → VT c d env (.BoolOp .Or xs pos) loc H P) := by
  intro n
  induction n with
  | zero => exact ⟨fun m e x loc H P _ h => by simp [wT] at h, fun m es xs pos loc H P _ h => by simp [wAnd] at h, fun m es xs pos loc H P _ h => by simp [wOr] at h⟩
  | succ n ih =>
    obtain ⟨ihT, ihA, ihO⟩ := ih
    have hE := (sE ok gk ek hcw n).1
    refine ⟨?_, ?_, ?_⟩
    · intro m t x loc H P hok hw
      cases m with
      | zero => simp [okT] at hok
      | succ m =>
      cases t with
      | cmp op l r =>
        simp only [okT] at hok
        apply qCmp_e hok; intro xl z1 z2 z3 hok
        apply q1_e hok; intro op' hok
        apply q1_e hok; intro xr hok
        · simp only [Bool.and_eq_true, decide_eq_true_eq, Bool.not_eq_true'] at hok
          obtain ⟨⟨⟨rfl, h1⟩, h2⟩, h3⟩ := hok
          exact VT_cmp ((hE m l _ loc H _ h2 hw).mono fun a H1 hw => hE m r _ loc H1 _ h3 hw) h1
      | andT ts =>
        simp only [okT] at hok
        apply qBoolOp_e hok; intro z1 xs z2 hok
        apply qEq_e hok; intro hok
        · exact ihA m ts _ _ loc H P hok hw
      | orT ts =>
        simp only [okT] at hok
        apply qBoolOp_e hok; intro z1 xs z2 hok
        apply qEq_e hok; intro hok
        · exact ihO m ts _ _ loc H P hok hw
      | notT t =>
        simp only [okT] at hok
        apply qUn_e hok; intro z1 x1 z2 hok
        apply qEq_e hok; intro hok
        · exact VT_not (ihT m t _ loc H _ hok hw)
      | anyC cap v it t elt => simp [wT] at hw
      | tr e =>
        simp only [okT, Bool.and_eq_true] at hok
        exact VT_tru (hE m e _ loc H _ hok.2 hw) (by cases x <;> first | rfl | exact (Bool.false_ne_true hok.1).elim)
    · intro m ts xs pos loc H P hok hw
      cases m with
      | zero => simp [okTs] at hok
      | succ m =>
      match ts, xs with
      | [], [] => exact VT_and_nil hw
      | t :: ts, x :: xs =>
        simp only [okTs, Bool.and_eq_true] at hok
        refine VT_and ((ihT m t x loc H _ hok.1 hw).mono fun b H1 hw => ?_)
        cases b with
        | true => exact ihA m ts xs pos loc H1 P hok.2 hw
        | false => exact hw
      | [], _ :: _ => simp [okTs] at hok
      | _ :: _, [] => simp [okTs] at hok
    · intro m ts xs pos loc H P hok hw
      cases m with
      | zero => simp [okTs] at hok
      | succ m =>
      match ts, xs with
      | [], [] => exact VT_or_nil hw
      | t :: ts, x :: xs =>
        simp only [okTs, Bool.and_eq_true] at hok
        refine VT_or ((ihT m t x loc H _ hok.1 hw).mono fun b H1 hw => ?_)
        cases b with
        | true => exact hw
        | false => exact ihO m ts xs pos loc H1 P hok.2 hw
      | [], _ :: _ => simp [okTs] at hok
      | _ :: _, [] => simp [okTs] at hok
theorem ITR.mono {it : Expr} {loc : Loc} {H : AH} {P P' : Src → List AV → AH → Prop} (h : ITR c d env it loc H P) (hp : ∀ S xs H', P S xs H' → P' S xs H') : ITR c d env it loc H P' :=
  fun A hA s ρ hH hF => wpAny_mono (h A hA s ρ hH hF) (fun _ _ q => wpAny_mono q (fun _ _ q => by
    obtain ⟨h', tk', ρ', H', S, xs, I, rfl, rfl, a1, a2, a3, a4, a5, a6, a7⟩ := q
    exact ⟨h', tk', ρ', H', S, xs, I, rfl, rfl, a1, a2, a3, a4, a5, a6, hp _ _ _ a7⟩) fun _ _ e => e) fun _ _ e => e
theorem sIt (ok : CxOk c) (gk : GlOk c) (ek : EnvOk env ks) (hcw : CwOk c d cw) : ∀ n m it x loc H P, okIt ks m it x = true → wIt cw n it loc H P → ITR c d env x loc H P := by
  intro n m it x loc H P hok hw
  cases n with
  | zero => simp [wIt] at hw
  | succ n =>
  simp only [okIt, Bool.and_eq_true] at hok
  cases it with
  | seq e => exact ITR_list ((sE ok gk ek hcw n).1 m e x loc H _ hok.2 hw)
  | rng es =>
    obtain ⟨_, hok⟩ := hok
    dsimp only at hok
    apply qCall_e hok; intro z2 z3 z4 z5 hok
    apply qName_e hok; intro id z1 hok
    apply qc_e hok; intro x1 xs hok
    apply q0_e hok; intro hok
    · simp only [Bool.and_eq_true] at hok
      exact ITR_range ok (BName.of gk ek hok.1.1 (by simp) (by decide +kernel) (by decide +kernel) boot_range) hok.1.2 ((sE ok gk ek hcw n).2 m es _ loc H _ hok.2 hw)
theorem Sto.of (ek : EnvOk env ks) {id : Str} {x : Nat} (h : stoOk ks id x = true) : id = vS x ∧ Sto env x := by
  simp only [stoOk, Bool.and_eq_true, Bool.or_eq_true, decide_eq_true_eq] at h
  obtain ⟨⟨rfl, h2⟩, h3⟩ := h
  refine ⟨rfl, Nat.le_of_ble_eq_true h2, ?_⟩
  rw [Env.kindOf, ek.names]
  exact h3.imp id fun h => ⟨h, ek.cells _ h⟩
theorem noComp_swaps {x : Expr} (h : noComp x = true) (t : Option Expr) (ht : t = none → True) (n : Nat) : swapsWith x t n env = pure false := by
  cases x <;> first | rfl | exact (Bool.false_ne_true h).elim
theorem noSet_folded {x : Expr} (h : noSet x = true) (v : Value) : foldedSetIterable x env v = pure v := by
  cases x <;> first | rfl | exact (Bool.false_ne_true h).elim
theorem sS (ok : CxOk c) (gk : GlOk c) (ek : EnvOk env ks) (hcw : CwOk c d cw) : ∀ n,
    (∀ m st x loc H P, okS ks m st x = true → wS cw n st loc H P → VS c d env x loc H P) ∧
    (∀ m ss xs loc H P, okSs ks m ss xs = true → wSs cw n ss loc H P → VSs c d env xs loc H P) := by
  intro n
  induction n using Nat.strongRecOn with
  | ind n ih =>
  cases n with
  | zero => exact ⟨fun m e x loc H P _ h => by simp [wS] at h, fun m es xs loc H P _ h => by simp [wSs] at h⟩
  | succ n =>
    obtain ⟨ihS, ihSs⟩ := ih n (Nat.lt_succ_self n)
    have hE := (sE ok gk ek hcw n).1
    have hEs := (sE ok gk ek hcw n).2
    have hT := (sT ok gk ek hcw n).1
    have hi : interactive env = false := by unfold interactive; rw [ek.kind]; rfl
    refine ⟨?_, ?_⟩
    · intro m st x loc H P hok hw
      cases m with
      | zero => simp [okS] at hok
      | succ m =>
      cases st with
      | bad => simp [wS] at hw
      | asg v e =>
        simp only [okS] at hok
        apply qAssign_e hok; intro z3 xv z4 hok
        apply q1_e hok; intro z2 hok
        apply qName_e hok; intro id z1 hok
        · simp only [Bool.and_eq_true] at hok
          obtain ⟨h1, h2⟩ := Sto.of ek hok.1.1
          exact VS_asg h1 h2 (hE m e _ loc H _ hok.2 hw) (noComp_swaps hok.1.2 _ (fun _ => trivial) _)
      | asg2 v w e =>
        simp only [okS] at hok
        apply qAssign_e hok; intro z5 xv z6 hok
        apply q2_e hok; intro z2 z4 hok
        apply qName_e hok; intro id z1 hok
        apply qName_e hok; intro id' z3 hok
        · simp only [Bool.and_eq_true] at hok
          obtain ⟨rfl, h2⟩ := Sto.of ek hok.1.1
          obtain ⟨rfl, h4⟩ := Sto.of ek hok.1.2
          exact VS_asg2 h2 h4 (hE m e _ loc H _ hok.2 hw) rfl
      | sto l i e =>
        simp only [okS] at hok
        apply qAssign_e hok; intro z3 xv z4 hok
        apply q1_e hok; intro z2 hok
        apply qSub_e hok; intro xl xi z1 hok
        · simp only [Bool.and_eq_true] at hok
          exact VS_sto ((hE m e _ loc H _ hok.1.1.2 hw).mono fun v H1 hw => (hE m l _ loc H1 _ hok.1.2 hw).mono fun a H2 hw => hE m i _ loc H2 _ hok.2 hw) (noComp_swaps hok.1.1.1 _ (fun _ => trivial) _)
      | aug v op e =>
        simp only [okS] at hok
        apply qAug_e hok; intro z2 op' xv z3 hok
        apply qName_e hok; intro id z1 hok
        · simp only [Bool.and_eq_true, decide_eq_true_eq] at hok
          obtain ⟨⟨h1, rfl⟩, h3⟩ := hok
          obtain ⟨h1, h2⟩ := Sto.of ek h1
          simp only [wS] at hw
          split at hw
          · exact VS_aug h1 h2 (by assumption) (hE m e _ loc H _ h3 hw)
          · exact hw.elim
      | augI l i op e =>
        simp only [okS] at hok
        apply qAug_e hok; intro z2 op' xv z3 hok
        apply qSub_e hok; intro xl xi z1 hok
        · simp only [Bool.and_eq_true, decide_eq_true_eq] at hok
          obtain ⟨⟨⟨⟨h1, rfl⟩, h2⟩, h3⟩, h4⟩ := hok
          refine VS_augI ((hE m l _ loc H _ h2 hw).mono fun a H1 hw => (hE m i _ loc H1 _ h3 hw).mono fun b H2 hw => ?_) (fun _ _ _ => by cases xi <;> first | rfl | exact (Bool.false_ne_true h1).elim)
          split at hw
          · obtain ⟨o, e1, hw⟩ := lat_of hw
            try dsimp only
            unfold lat
            rw [e1]
            try dsimp only
            unfold idxA at hw ⊢
            split at hw
            · split at hw
              · obtain ⟨g1, hw⟩ := gd_iff.mp hw
                exact gd_iff.mpr ⟨g1, hE m e _ loc H2 _ h4 hw⟩
              · exact hw.elim
            · split at hw
              · split at hw
                · exact hE m e _ loc H2 _ h4 hw
                · exact hw.elim
              · exact hw.elim
          · exact hw.elim
      | app l e =>
        simp only [okS] at hok
        apply qExpr_e hok; intro z5 z6 hok
        apply qCall_e hok; intro z2 z3 z4 pos hok
        apply qAttr_e hok; intro z1 nm apos hok
        apply qName_e hok; intro id p hok
        apply q1_e hok; intro x1 hok
        apply q0_e hok; intro hok
        · simp only [Bool.and_eq_true, decide_eq_true_eq] at hok
          obtain ⟨⟨⟨⟨rfl, h1⟩, h2⟩, h3⟩, h4⟩ := hok
          refine VS_expr (VE_meth (id := "list.append") h2 rfl h1 (fun _ => rfl) ((hE m l _ loc H _ h3 hw).mono fun a H1 hw => ?_)) hi rfl
          split at hw
          · obtain ⟨o, e1, hw⟩ := lat_of hw
            obtain ⟨g1, hw⟩ := gd_iff.mp hw
            refine ⟨GM_list F.slot_list_append F.type_list_append (by unfold lat; rw [e1]; exact g1), VEs_cons ((hE m e _ loc H1 _ h4 hw).mono fun v H2 hw => VEs_nil (CB_append ?_))⟩
            obtain ⟨o, e1, hw⟩ := lat_of hw
            unfold lat; rw [e1]
            obtain ⟨g1, hw⟩ := gd_iff.mp hw
            exact gd_iff.mpr ⟨g1, rfl, hw⟩
          · exact hw.elim
      | ins l i e =>
        simp only [okS] at hok
        apply qExpr_e hok; intro z5 z6 hok
        apply qCall_e hok; intro z2 z3 z4 pos hok
        apply qAttr_e hok; intro z1 nm apos hok
        apply qName_e hok; intro id p hok
        apply q2_e hok; intro x1 x2 hok
        apply q0_e hok; intro hok
        · simp only [Bool.and_eq_true, decide_eq_true_eq] at hok
          obtain ⟨⟨⟨⟨rfl, h1⟩, h2⟩, h3⟩, h4⟩ := hok
          refine VS_expr (VE_meth (id := "list.insert") h2 rfl h1 (fun _ => rfl) ((hE m l _ loc H _ h3 hw).mono fun a H1 hw => ?_)) hi rfl
          split at hw
          · obtain ⟨o, e1, hw⟩ := lat_of hw
            obtain ⟨g1, hw⟩ := gd_iff.mp hw
            refine ⟨GM_list F.slot_list_insert F.type_list_insert (by unfold lat; rw [e1]; exact g1), (hEs m _ _ loc H1 _ h4 hw).mono fun as H2 hw => ?_⟩
            split at hw
            · refine CB_insert ?_
              obtain ⟨o, e1, hw⟩ := lat_of hw
              unfold lat; rw [e1]
              obtain ⟨g1, hw⟩ := gd_iff.mp hw
              exact gd_iff.mpr ⟨g1, rfl, hw⟩
            · exact hw.elim
          · exact hw.elim
      | ex e =>
        simp only [okS] at hok
        apply qExpr_e hok; intro xv z1 hok
        · simp only [Bool.and_eq_true] at hok
          refine VS_expr ((hE m e _ loc H _ hok.2 hw).mono fun v H1 hw => ?_) hi (noComp_swaps hok.1 _ (fun _ => trivial) _)
          split at hw
          · exact ⟨rfl, hw⟩
          · exact hw.elim
      | ite t b o =>
        simp only [okS] at hok
        apply qIf_e hok; intro xt xb xo z1 hok
        · simp only [Bool.and_eq_true] at hok
          refine VS_if ((hT m t _ loc H _ hok.1.1 hw).mono fun r H1 hw => ?_)
          cases r with
          | true => exact ihSs m b _ loc H1 P hok.1.2 hw
          | false => exact ihSs m o _ loc H1 P hok.2 hw
      | whl t b =>
        simp only [okS] at hok
        apply qWhile_e hok; intro xt xb z1 z2 hok
        apply q0_e hok; intro hok
        · simp only [Bool.and_eq_true] at hok
          refine VS_while (fun k l H1 => k ≤ n + 1 ∧ wS cw k (.whl t b) l H1 P) (n + 1) ⟨Nat.le_refl _, hw⟩ fun k l H1 hj => ?_
          obtain ⟨hk, hw⟩ := hj
          cases k with
          | zero => simp [wS] at hw
          | succ k =>
            refine ((sT ok gk ek hcw k).1 m t _ l H1 _ hok.1 hw).mono fun r H2 hw => ?_
            cases r with
            | true =>
              simp only [if_true] at hw ⊢
              refine TS.mono ((ih k (by omega)).2 m b _ l H2 _ hok.2 hw) fun a l' H3 hw => ?_
              cases a with
              | next => exact ⟨k, Nat.lt_succ_self k, by omega, hw⟩
              | cont => exact ⟨k, Nat.lt_succ_self k, by omega, hw⟩
              | brk => exact hw
              | ret v => exact hw
            | false => exact hw
      | fr v it b o =>
        simp only [okS] at hok
        apply qFor_e hok; intro z1 xit xb xo pos hok
        apply qName_e hok; intro id px hok
        · simp only [Bool.and_eq_true] at hok
          obtain ⟨h1, h2⟩ := Sto.of ek hok.1.1.1
          have hns : noSet xit = true := by have := hok.1.1.2; simp only [okIt, Bool.and_eq_true] at this; exact this.1
          refine VS_for h1 h2 (fun S xs k l H1 => ∃ j, j ≤ n ∧ wFor cw j v b o S xs (xs.drop k) l H1 P) ((sIt ok gk ek hcw n m it _ loc H _ hok.1.1.2 hw).mono fun S xs H1 hw => ⟨n, Nat.le_refl _, hw⟩) ?_ ?_ (noSet_folded hns)
          · rintro S xs k l H1 w ⟨j, hj, hw⟩ hs hk
            have hdr : xs.drop k = w :: xs.drop (k + 1) := by
              have hlt := (List.getElem?_eq_some_iff.mp hk).1
              rw [List.drop_eq_getElem_cons hlt]
              congr 1
              have := (List.getElem?_eq_some_iff.mp hk).2
              exact this
            rw [hdr] at hw
            cases j with
            | zero => simp [wFor] at hw
            | succ j =>
              refine TS.mono ((ih j (by omega)).2 m b _ _ H1 _ hok.1.2 hw) fun a l' H2 hw => ?_
              cases a with
              | next =>
                obtain ⟨g1, hw⟩ := gd_iff.mp hw
                exact ⟨⟨j, by omega, hw⟩, of_decide_eq_true g1⟩
              | cont =>
                obtain ⟨g1, hw⟩ := gd_iff.mp hw
                exact ⟨⟨j, by omega, hw⟩, of_decide_eq_true g1⟩
              | brk => exact hw
              | ret v => exact hw
          · rintro S xs l H1 ⟨j, hj, hw⟩ hs
            rw [List.drop_length] at hw
            cases j with
            | zero => simp [wFor] at hw
            | succ j => exact (ih j (by omega)).2 m o _ l H1 P hok.2 hw
      | retC v it elt => simp [wS] at hw
      | asgC y cap v it t elt => simp [wS] at hw
      | asgC2 y cap v it v1 it1 elt => simp [wS] at hw
      | brk =>
        simp only [okS] at hok
        apply qBreak_e hok; intro z1 hok
        · exact VS_brk hw
      | ret e =>
        simp only [okS] at hok
        apply qRet_e hok; intro z1 z2 hok
        apply qSo_e hok; intro xe hok
        · exact VS_ret (hE m e _ loc H _ hok hw)
    · intro m ss xs loc H P hok hw
      cases m with
      | zero => simp [okSs] at hok
      | succ m =>
      match ss, xs with
      | [], [] => exact VSs_nil hw
      | st :: ss, x :: xs =>
        simp only [okSs, Bool.and_eq_true] at hok
        refine VSs_cons (TS.mono (ihS m st x loc H _ hok.1 hw) fun a l H1 hw => ?_)
        cases a with
        | next => exact ihSs m ss xs l H1 P hok.2 hw
        | brk => exact hw
        | cont => exact hw
        | ret v => exact hw
      | [], _ :: _ => simp [okSs] at hok
      | _ :: _, [] => simp [okSs] at hok
end
end Mine
namespace Mine
theorem clos_go {env : Env} : ∀ (names : List (Str × NameKind)) (acc : List (Str × Addr)), (∀ p ∈ names, p.2 = .free → ∃ cc, env.cells.lookup p.1 = some cc) → (∀ x cc, acc.lookup x = some cc → env.cells.lookup x = some cc) →
    ∃ cl : List (Str × Addr), (forIn names acc fun (x : Str × NameKind) (r : List (Str × Addr)) => if (x.2 == NameKind.free) = true then (do let a ← cellOf env x.1; pure (ForInStep.yield ((x.1, a) :: r)) : Sem (ForInStep (List (Str × Addr)))) else pure (ForInStep.yield r)) = (pure cl : Sem _) ∧
      (∀ x cc, cl.lookup x = some cc → env.cells.lookup x = some cc) ∧ (∀ p ∈ names, p.2 = .free → ∃ cc, cl.lookup p.1 = some cc) ∧ ∀ x cc, acc.lookup x = some cc → ∃ cc', cl.lookup x = some cc'
  | [], acc, _, ha => ⟨acc, rfl, ha, fun p hp => by simp at hp, fun x cc e => ⟨cc, e⟩⟩
  | (n, k) :: r, acc, hf, ha => by
    rw [List.forIn_cons]
    by_cases hk : (k == NameKind.free) = true
    · have hk' : k = .free := beq_iff_eq.mp hk
      obtain ⟨cc, hcc⟩ := hf (n, k) List.mem_cons_self hk'
      obtain ⟨cl, e1, e2, e3, e4⟩ := clos_go r ((n, cc) :: acc) (fun p hp => hf p (List.mem_cons_of_mem _ hp)) (fun x c' e => by
        rw [List.lookup_cons] at e
        cases hx : x == n with
        | true => rw [hx] at e; cases e; rw [beq_iff_eq.mp hx]; exact hcc
        | false => rw [hx] at e; exact ha x c' e)
      refine ⟨cl, ?_, e2, fun p hp hp2 => ?_, fun x c' e => ?_⟩
      · simp only [hk, if_true, cellOf, hcc, pure_bind]
        exact e1
      · rcases List.mem_cons.mp hp with rfl | hp
        · exact e4 n cc (by simp)
        · exact e3 p hp hp2
      · by_cases hx : (x == n) = true
        · exact e4 x cc (by rw [List.lookup_cons, hx])
        · exact e4 x c' (by rw [List.lookup_cons, show (x == n) = false by simpa using hx]; exact e)
    · obtain ⟨cl, e1, e2, e3, e4⟩ := clos_go r acc (fun p hp => hf p (List.mem_cons_of_mem _ hp)) ha
      refine ⟨cl, ?_, e2, fun p hp hp2 => ?_, e4⟩
      · simp only [hk, Bool.false_eq_true, if_false, pure_bind]
        exact e1
      · rcases List.mem_cons.mp hp with rfl | hp
        · exact absurd (beq_iff_eq.mpr hp2) hk
        · exact e3 p hp hp2
theorem clos_of {env : Env} {scope : Scope} (h : ∀ p ∈ scope.names, p.2 = .free → ∃ cc, env.cells.lookup p.1 = some cc) :
    ∃ cl, closureFor scope env = pure cl ∧ (∀ x cc, cl.lookup x = some cc → env.cells.lookup x = some cc) ∧ ∀ p ∈ scope.names, p.2 = .free → ∃ cc, cl.lookup p.1 = some cc := by
  obtain ⟨cl, e1, e2, e3, _⟩ := clos_go (env := env) scope.names [] h (fun x cc e => by cases e)
  refine ⟨cl, ?_, e2, e3⟩
  unfold closureFor
  have : (forIn scope.names ([] : List (Str × Addr)) fun (x : Str × NameKind) (r : List (Str × Addr)) => if (x.2 == NameKind.free) = true then (do let a ← cellOf env x.1; pure (ForInStep.yield ((x.1, a) :: r)) : Sem (ForInStep (List (Str × Addr)))) else pure (ForInStep.yield r)) = (pure cl : Sem _) := e1
  exact (bind_congr fun _ => rfl).trans ((congrArg (· >>= pure) this).trans (pure_bind _ _))
structure Fm (c : Cx) (d : Nat) (env : Env) (ks : KS) (cw : CW) : Prop where
  ok : CxOk c
  gk : GlOk c
  ek : EnvOk env ks
  cw : CwOk c d cw
noncomputable def ME (c : Cx) (d : Nat) (env : Env) (ks : KS) (e : E) (loc : Loc) (H : AH) (P : AV → AH → Prop) : Prop := ∀ m x, okE ks m e x = true → VE c d env x loc H P
noncomputable def MT (c : Cx) (d : Nat) (env : Env) (ks : KS) (t : T) (loc : Loc) (H : AH) (P : Bool → AH → Prop) : Prop := ∀ m x, okT ks m t x = true → VT c d env x loc H P
noncomputable def MI (c : Cx) (d : Nat) (env : Env) (ks : KS) (it : It) (loc : Loc) (H : AH) (P : Src → List AV → AH → Prop) : Prop := ∀ m x, okIt ks m it x = true → ITR c d env x loc H P
noncomputable def M1 (c : Cx) (d : Nat) (env : Env) (ks : KS) (st : S) (loc : Loc) (H : AH) (P : AFl → Loc → AH → Prop) : Prop := ∀ m x, okS ks m st x = true → VS c d env x loc H P
noncomputable def MS (c : Cx) (d : Nat) (env : Env) (ks : KS) (b : List S) (loc : Loc) (H : AH) (P : AFl → Loc → AH → Prop) : Prop := ∀ m xs, okSs ks m b xs = true → VSs c d env xs loc H P
section
variable {c : Cx} {d : Nat} {env : Env} {ks : KS} {cw : CW} {loc : Loc} {H : AH}
theorem ME.of (fm : Fm c d env ks cw) (n : Nat) {e : E} {P : AV → AH → Prop} (h : wE cw n e loc H P) : ME c d env ks e loc H P := fun m x hok => (sE fm.ok fm.gk fm.ek fm.cw n).1 m e x loc H P hok h
theorem MT.of (fm : Fm c d env ks cw) (n : Nat) {t : T} {P : Bool → AH → Prop} (h : wT cw n t loc H P) : MT c d env ks t loc H P := fun m x hok => (sT fm.ok fm.gk fm.ek fm.cw n).1 m t x loc H P hok h
theorem MI.of (fm : Fm c d env ks cw) (n : Nat) {it : It} {P : Src → List AV → AH → Prop} (h : wIt cw n it loc H P) : MI c d env ks it loc H P := fun m x hok => sIt fm.ok fm.gk fm.ek fm.cw n m it x loc H P hok h
theorem M1.of (fm : Fm c d env ks cw) (n : Nat) {st : S} {P : AFl → Loc → AH → Prop} (h : wS cw n st loc H P) : M1 c d env ks st loc H P := fun m x hok => (sS fm.ok fm.gk fm.ek fm.cw n).1 m st x loc H P hok h
theorem MS.of (fm : Fm c d env ks cw) (n : Nat) {b : List S} {P : AFl → Loc → AH → Prop} (h : wSs cw n b loc H P) : MS c d env ks b loc H P := fun m x hok => (sS fm.ok fm.gk fm.ek fm.cw n).2 m b x loc H P hok h
theorem MS.nil {P : AFl → Loc → AH → Prop} (h : P .next loc H) : MS c d env ks [] loc H P := by
  intro m xs hok
  cases m with
  | zero => simp [okSs] at hok
  | succ m =>
    cases xs with
    | nil => exact VSs_nil h
    | cons => simp [okSs] at hok
theorem MS.cons {st : S} {b : List S} {P : AFl → Loc → AH → Prop} (h : M1 c d env ks st loc H fun a l H1 => match a with | .next => MS c d env ks b l H1 P | a => P a l H1) : MS c d env ks (st :: b) loc H P := by
  intro m xs hok
  cases m with
  | zero => simp [okSs] at hok
  | succ m =>
    cases xs with
    | nil => simp [okSs] at hok
    | cons x xs =>
      simp only [okSs, Bool.and_eq_true] at hok
      refine VSs_cons (TS.mono (h m x hok.1) fun a l H1 hw => ?_)
      cases a with
      | next => exact hw m xs hok.2
      | brk => exact hw
      | cont => exact hw
      | ret v => exact hw
theorem MS.mono {b : List S} {P P' : AFl → Loc → AH → Prop} (h : MS c d env ks b loc H P) (hp : ∀ a l H1, P a l H1 → P' a l H1) : MS c d env ks b loc H P' := fun m xs hok => TS.mono (h m xs hok) hp
theorem M1.mono {st : S} {P P' : AFl → Loc → AH → Prop} (h : M1 c d env ks st loc H P) (hp : ∀ a l H1, P a l H1 → P' a l H1) : M1 c d env ks st loc H P' := fun m xs hok => TS.mono (h m xs hok) hp
theorem MT.mono {t : T} {P P' : Bool → AH → Prop} (h : MT c d env ks t loc H P) (hp : ∀ a H1, P a H1 → P' a H1) : MT c d env ks t loc H P' := fun m xs hok => TR.mono (h m xs hok) hp
theorem ME.mono {t : E} {P P' : AV → AH → Prop} (h : ME c d env ks t loc H P) (hp : ∀ a H1, P a H1 → P' a H1) : ME c d env ks t loc H P' := fun m xs hok => TR.mono (h m xs hok) hp
theorem M1.ite {t : T} {b o : List S} {P : AFl → Loc → AH → Prop} (h : MT c d env ks t loc H fun r H1 => if r = true then MS c d env ks b loc H1 P else MS c d env ks o loc H1 P) : M1 c d env ks (.ite t b o) loc H P := by
  intro m x hok
  cases m with
  | zero => simp [okS] at hok
  | succ m =>
    simp only [okS] at hok
    apply qIf_e hok; intro xt xb xo z1 hok
    · simp only [Bool.and_eq_true] at hok
      refine VS_if ((h m _ hok.1.1).mono fun r H1 hw => ?_)
      cases r with
      | true => exact hw m _ hok.1.2
      | false => exact hw m _ hok.2
theorem M1.whl {t : T} {b : List S} {P : AFl → Loc → AH → Prop} (J : Nat → Loc → AH → Prop) (n : Nat) (hj : J n loc H)
    (turn : ∀ n l H1, J n l H1 → MT c d env ks t l H1 fun r H2 => if r = true then MS c d env ks b l H2 (fun a l' H3 => match a with | .next => ∃ m, m < n ∧ J m l' H3 | .cont => ∃ m, m < n ∧ J m l' H3 | .brk => P .next l' H3 | .ret v => P (.ret v) l' H3) else P .next l H2) :
    M1 c d env ks (.whl t b) loc H P := by
  intro m x hok
  cases m with
  | zero => simp [okS] at hok
  | succ m =>
    simp only [okS] at hok
    apply qWhile_e hok; intro xt xb z1 z2 hok
    apply q0_e hok; intro hok
    · simp only [Bool.and_eq_true] at hok
      refine VS_while J n hj fun k l H1 hj => (turn k l H1 hj m _ hok.1).mono fun r H2 hw => ?_
      cases r with
      | true => exact hw m _ hok.2
      | false => exact hw
theorem M1.fr (fm : Fm c d env ks cw) {v : Nat} {it : It} {b o : List S} {P : AFl → Loc → AH → Prop} (J : Src → List AV → Nat → Loc → AH → Prop) (h : MI c d env ks it loc H fun S xs H1 => J S xs 0 loc H1)
    (turn : ∀ S xs k l H1 w, J S xs k l H1 → srcIts S H1 = some xs → xs[k]? = some w → MS c d env ks b (lset l v w) H1 fun a l' H2 => match a with
      | .next => J S xs (k + 1) l' H2 ∧ srcIts S H2 = some xs | .cont => J S xs (k + 1) l' H2 ∧ srcIts S H2 = some xs | .brk => P .next l' H2 | .ret v => P (.ret v) l' H2)
    (done : ∀ S xs l H1, J S xs xs.length l H1 → srcIts S H1 = some xs → MS c d env ks o l H1 P) : M1 c d env ks (.fr v it b o) loc H P := by
  intro m x hok
  cases m with
  | zero => simp [okS] at hok
  | succ m =>
    simp only [okS] at hok
    apply qFor_e hok; intro z1 xit xb xo pos hok
    apply qName_e hok; intro id px hok
    · simp only [Bool.and_eq_true] at hok
      obtain ⟨h1, h2⟩ := Sto.of fm.ek hok.1.1.1
      have hns : noSet xit = true := by have := hok.1.1.2; simp only [okIt, Bool.and_eq_true] at this; exact this.1
      exact VS_for h1 h2 J (h m _ hok.1.1.2) (fun S xs k l H1 w j hs hk => turn S xs k l H1 w j hs hk m _ hok.1.2) (fun S xs l H1 j hs => done S xs l H1 j hs m _ hok.2) (noSet_folded hns)
/-- the comprehension's frame, by the look at its scope -/
theorem comp_of (ek : EnvOk env ks) {scope : Scope} {cap vs : List Nat} (h : scopeOk ks scope cap vs = true) {loc0 : Loc} (hc : ∀ x v, lget loc0 x = some v → x ∈ cap ∧ lget loc x = some v) :
    ∃ cl, CompOk env scope cl loc loc0 ∧ (∀ C, EnvOk (compEnvC scope cl C env) (compKs ks scope)) ∧ (∀ v ∈ vs, v < 48 ∧ scope.names.lookup (vS v) = some .local ∧ ∀ y w, lget loc0 y = some w → y ≠ v) := by
  simp only [scopeOk, Bool.and_eq_true, decide_eq_true_eq, List.all_eq_true, Bool.not_eq_true', Bool.or_eq_true, beq_iff_eq, beq_eq_false_iff_ne, List.contains_eq_mem, decide_eq_false_iff_not] at h
  obtain ⟨⟨⟨⟨⟨h1, h2⟩, h3⟩, h4⟩, h5⟩, h6⟩ := h
  have hrel : (relabel scope env).names = compKs ks scope := by
    unfold relabel compKs
    simp only [Env.kindOf, ek.names, ek.kind]
    congr 1
    funext p
    simp
  obtain ⟨cl, e1, e2, e3⟩ := clos_of (env := env) (scope := scope) fun p hp hf => by
    rcases h3 p hp with h | h
    · exact absurd hf h
    · exact ek.cells _ h
  have key : ∀ id, (compKs ks scope).lookup id = some .cell → ∃ cc, cl.lookup id = some cc := by
    intro id hid
    obtain ⟨l₁, l₂, h7, h8⟩ := List.lookup_eq_some_iff.mp hid
    have hm : (id, NameKind.cell) ∈ compKs ks scope := by rw [h7]; simp
    unfold compKs at hm
    obtain ⟨⟨n, k⟩, hp, he⟩ := List.mem_map.mp hm
    dsimp only at he
    split at he
    · rename_i hk
      simp only [Bool.and_eq_true, beq_iff_eq] at hk
      cases he
      exact e3 (id, k) hp hk.1
    · cases he
      exact absurd rfl (h2 _ hp)
  refine ⟨cl, ⟨e1, e2, fun x v hx e => ?_, h2, h1, fun y hy hl => ?_⟩, fun C => ⟨hrel, h1, key⟩, fun v hv => ⟨Nat.le_of_ble_eq_true (h6 v hv).1, (h6 v hv).2, fun y w e => ?_⟩⟩
  · obtain ⟨q1, q2⟩ := hc x v e
    obtain ⟨⟨⟨⟨g1, g2⟩, g3⟩, g4⟩, g5⟩ := h5 x q1
    refine ⟨q2, ?_, by rw [Env.kindOf, ek.names]; exact g2, by rw [hrel]; exact g3⟩
    exact key _ g3
  · exact (h4 y hy).resolve_left fun h => h hl
  · obtain ⟨q1, _⟩ := hc y w e
    rintro rfl
    exact (h5 y q1).2 hv
end
end Mine
namespace Mine
/-! ## forgetting what was made; a call seen from a larger heap -/
noncomputable def ScA (n : Nat) (x : AV) : Prop := ∀ i, x = .ref i → i < n
theorem Val.sc {ρ : List Addr} {x : AV} {v : Value} (h : Val ρ x v) : ScA ρ.length x := by
  rintro i rfl
  obtain ⟨a, e, _⟩ := h
  exact (List.getElem?_eq_some_iff.mp e).1
theorem ValL.sc {ρ : List Addr} : ∀ {xs : List AV} {vs : List Value}, ValL ρ xs vs → ∀ x ∈ xs, ScA ρ.length x
  | [], [], _, x, hx => by simp at hx
  | y :: ys, v :: vs, h, x, hx => by
    rcases List.mem_cons.mp hx with rfl | hx
    · exact Val.sc h.1
    · exact ValL.sc h.2 x hx
theorem Val.cut {ρ : List Addr} {n : Nat} {x : AV} {v : Value} (h : Val ρ x v) (hs : ScA n x) : Val (ρ.take n) x v := by
  cases x <;> try exact h
  rename_i i
  obtain ⟨a, e, h2⟩ := h
  exact ⟨a, by rw [List.getElem?_take_of_lt (hs i rfl)]; exact e, h2⟩
theorem ValL.cut {ρ : List Addr} {n : Nat} : ∀ {xs : List AV} {vs : List Value}, ValL ρ xs vs → (∀ x ∈ xs, ScA n x) → ValL (ρ.take n) xs vs
  | [], [], _, _ => trivial
  | _ :: _, _ :: _, h, hs => ⟨h.1.cut (hs _ List.mem_cons_self), ValL.cut h.2 fun x hx => hs x (List.mem_cons_of_mem _ hx)⟩
theorem AtH.cut {hb h : Heap} {ρ : List Addr} {H : AH} (a : AtH hb ρ H h) (n : Nat) (hs : ∀ i o, i < n → H[i]? = some o → ∀ x ∈ o.xs, ScA n x) : AtH hb (ρ.take n) (H.take n) h := by
  refine ⟨a.keep, by simp [a.len], a.nodup.sublist (List.take_sublist _ _), fun i o b e1 e2 => ?_⟩
  have hi : i < n := by
    have := (List.getElem?_eq_some_iff.mp e1).1
    simp at this; omega
  rw [List.getElem?_take_of_lt hi] at e1 e2
  obtain ⟨vs, g1, g2, g3⟩ := a.obj i o b e1 e2
  exact ⟨vs, g1, g2.cut (hs i o hi e1), g3⟩
theorem Ext.cut {X : Addr → Prop} {ρ ρ' : List Addr} {H H' : AH} {h h' : Heap} (x : Ext X ρ H h ρ' H' h') {n : Nat} (h1 : ρ.length ≤ n) (h2 : H.length ≤ n) : Ext X ρ H h (ρ'.take n) (H'.take n) h' where
  pre := by
    obtain ⟨t, rfl⟩ := x.pre
    rw [List.take_append, List.take_of_length_le h1]
    exact List.prefix_append _ _
  fl := fun i o e => by
    obtain ⟨o', e', w'⟩ := x.fl i o e
    refine ⟨o', ?_, w'⟩
    rw [List.getElem?_take_of_lt (Nat.lt_of_lt_of_le (List.getElem?_eq_some_iff.mp e).1 h2)]; exact e'
  fresh := fun i b hi e => by
    have hin : i < n := by
      have := (List.getElem?_eq_some_iff.mp e).1
      simp at this; omega
    rw [List.getElem?_take_of_lt hin] at e
    exact x.fresh i b hi e
  kp := x.kp
  per := x.per
theorem AtF.cut {hb h : Heap} {ρ : List Addr} {env : Env} {loc : Loc} (f : AtF hb ρ env loc h) (n : Nat) (hs : ∀ x v, x < 48 → lget loc x = some v → ScA n v) : AtF hb (ρ.take n) env loc h where
  kind := f.kind
  glob := f.glob
  blt := f.blt
  ns := by
    obtain ⟨m, hn, hm⟩ := f.ns
    refine ⟨m, hn, fun x v hx e k => ?_⟩
    obtain ⟨v', e', hv⟩ := hm x v hx e k
    exact ⟨v', e', hv.cut (hs x v hx e)⟩
  cl := fun x cc e => by
    obtain ⟨h1, h2, h3⟩ := f.cl x cc e
    exact ⟨h1, fun hm => h2 (List.mem_of_mem_take hm), h3⟩
  inj := f.inj
  cv := fun x v hx e k => by
    obtain ⟨h1, cc, v', h2, h3, h4⟩ := f.cv x v hx e k
    exact ⟨h1, cc, v', h2, h3, h4.cut (hs x v hx e)⟩
  nρ := fun hm => f.nρ (List.mem_of_mem_take hm)
  nb := f.nb
theorem AtF.sc {hb h : Heap} {ρ : List Addr} {env : Env} {loc : Loc} (f : AtF hb ρ env loc h) {x : Nat} {v : AV} (hx : x < 48) (e : lget loc x = some v) : ScA ρ.length v := by
  by_cases hk : env.kindOf (vS x) = some .local
  · obtain ⟨m, hn, hm⟩ := f.ns
    obtain ⟨v', _, hv⟩ := hm x v hx e hk
    exact hv.sc
  · obtain ⟨_, _, v', _, _, hv⟩ := f.cv x v hx e hk
    exact hv.sc
theorem AtH.sc {hb h : Heap} {ρ : List Addr} {H : AH} (a : AtH hb ρ H h) {i : Nat} {o : AO} (e : H[i]? = some o) : ∀ x ∈ o.xs, ScA H.length x := by
  have hi := (List.getElem?_eq_some_iff.mp e).1
  have hi' : i < ρ.length := a.len ▸ hi
  obtain ⟨vs, _, g2, _⟩ := a.obj i o ρ[i] e (by simp [hi'])
  rw [← a.len]
  exact g2.sc
/-- the heap behind a step, with what it made let go -/
structure CutH (H H1 : AH) : Prop where
  len : H.length ≤ H1.length
  sc : ∀ i o, i < H.length → H1[i]? = some o → H[i]? = some o ∨ ∀ x ∈ o.xs, ScA H.length x
section
variable {c : Cx} {d : Nat} {env : Env} {ks : KS} {cw : CW} {loc : Loc} {H : AH}
theorem TR.cutB {α : Type} {t : Sem α} {R : List Addr → α → α → Prop} (hR : ∀ ρ ρ' b a, R ρ b a → R ρ' b a) {P : α → AH → Prop} (h : TR c d env loc H t R fun b H1 => CutH H H1 ∧ P b (H1.take H.length)) : TR c d env loc H t R P := by
  intro A hA s ρ hH hF
  refine wpAny_mono (h A hA s ρ hH hF) (fun a s' q => ?_) fun _ _ e => e
  obtain ⟨h', tk', ρ', H', b, rfl, at', x', r, hc, p⟩ := q
  refine ⟨h', tk', ρ'.take H.length, H'.take H.length, b, rfl, at'.cut _ fun i o hi e => ?_, x'.cut (Nat.le_of_eq hH.len) (Nat.le_refl _), hR _ _ _ _ r, p⟩
  rcases hc.sc i o hi e with h1 | h1
  · exact hH.sc h1
  · exact h1
theorem MT.cut {t : T} {P : Bool → AH → Prop} (h : MT c d env ks t loc H fun b H1 => CutH H H1 ∧ P b (H1.take H.length)) : MT c d env ks t loc H P := fun m x hok => TR.cutB (R := BoolR) (fun _ _ _ _ r => r) (h m x hok)
structure Cut (loc : Loc) (H : AH) (a : AFl) (l : Loc) (H1 : AH) : Prop where
  h : CutH H H1
  l : ∀ x v, x < 48 → lget l x = some v → lget loc x = some v ∨ ScA H.length v
  a : ∀ v, a = .ret v → ScA H.length v
theorem TS.cut {t : Sem Flow} {P : AFl → Loc → AH → Prop} (h : TS c d env loc H t fun a l H1 => Cut loc H a l H1 ∧ P a l (H1.take H.length)) : TS c d env loc H t P := by
  intro A hA s ρ hH hF
  refine wpAny_mono (h A hA s ρ hH hF) (fun a s' q => ?_) fun _ _ e => e
  obtain ⟨h', tk', ρ', H', l, b, rfl, at', f', x', r, hc, p⟩ := q
  refine ⟨h', tk', ρ'.take H.length, H'.take H.length, l, b, rfl, at'.cut _ fun i o hi e => ?_, f'.cut _ fun x v hx e => ?_, x'.cut (Nat.le_of_eq hH.len) (Nat.le_refl _), ?_, p⟩
  · rcases hc.h.sc i o hi e with h1 | h1
    · exact hH.sc h1
    · exact h1
  · rcases hc.l x v hx e with h1 | h1
    · rw [← hH.len]; exact hF.sc hx h1
    · exact h1
  · cases b with
    | ret v =>
      obtain ⟨u, e, hv⟩ := r
      exact ⟨u, e, hv.cut (hc.a v rfl)⟩
    | next => exact r
    | brk => exact r
    | cont => exact r
theorem M1.cut {st : S} {P : AFl → Loc → AH → Prop} (h : M1 c d env ks st loc H fun a l H1 => Cut loc H a l H1 ∧ P a l (H1.take H.length)) : M1 c d env ks st loc H P := fun m x hok => TS.cut (h m x hok)
theorem MS.cut {b : List S} {P : AFl → Loc → AH → Prop} (h : MS c d env ks b loc H fun a l H1 => Cut loc H a l H1 ∧ P a l (H1.take H.length)) : MS c d env ks b loc H P := fun m x hok => TS.cut (h m x hok)
theorem CutH.app (J : AH) : CutH H (H ++ J) := ⟨by simp, fun i o hi e => .inl (by rw [List.getElem?_append_left hi] at e; exact e)⟩
/-! a call, seen from a larger heap -/
noncomputable def flatO (o : AO) : Prop := ∀ x ∈ o.xs, ∀ i, x ≠ .ref i
theorem Val.flat {ρ ρ' : List Addr} {x : AV} {v : Value} (h : Val ρ x v) (hx : ∀ i, x ≠ .ref i) : Val ρ' x v := by
  cases x <;> try exact h
  exact absurd rfl (hx _)
theorem ValL.flat {ρ ρ' : List Addr} : ∀ {xs : List AV} {vs : List Value}, ValL ρ xs vs → (∀ x ∈ xs, ∀ i, x ≠ .ref i) → ValL ρ' xs vs
  | [], [], _, _ => trivial
  | _ :: _, _ :: _, h, hx => ⟨h.1.flat (hx _ List.mem_cons_self), ValL.flat h.2 fun x hm => hx x (List.mem_cons_of_mem _ hm)⟩
noncomputable def reA (js : List Nat) : AV → AV
  | .ref i => .ref (js.getD i 0)
  | v => v
theorem CK.frame {f : Value} {as0 : List AV} {H0 : AH} {Q : AV → Prop} {js : List Nat} (h : CK c d f as0 [] H0 fun v H' => Q v ∧ H'.take H0.length = H0) (hr : ∀ v, Q v → ∀ i, v ≠ .ref i) (hfl : ∀ o ∈ H0, flatO o) (hnd : js.Nodup)
    (hl : js.length = H0.length) (hat : ∀ (k j : Nat), js[k]? = some j → H[j]? = H0[k]?) (has : ∀ x ∈ as0, ∀ i, x = .ref i → i < js.length) : CK c d f (as0.map (reA js)) [] H fun v H' => Q v ∧ H' = H := by
  intro A hA s ρ vals kv hH hv hk1 hk2
  have hkv : kv = [] := by cases kv with | nil => rfl | cons => simp at hk1
  subst hkv
  have hj : ∀ k : Nat, k < js.length → ∃ (j : Nat) (b : Addr), js[k]? = some j ∧ ρ[j]? = some b ∧ j < H.length := by
    intro k hk
    have e1 : js[k]? = some js[k] := by simp [hk]
    have e2 := hat k _ e1
    have e3 : H0[k]? = some (H0[k]'(hl ▸ hk)) := by simp [hl ▸ hk]
    rw [e3] at e2
    have hlt := (List.getElem?_eq_some_iff.mp e2).1
    exact ⟨js[k], ρ[js[k]]'(hH.len ▸ hlt), e1, by simp [hH.len ▸ hlt], hlt⟩
  -- the small valuation
  let ρ0 : List Addr := js.map fun j => ρ.getD j 0
  have hρ0 : ∀ (k : Nat) (b : Addr), ρ0[k]? = some b ↔ ∃ j : Nat, js[k]? = some j ∧ ρ[j]? = some b := by
    intro k b
    constructor
    · intro e
      have hk : k < js.length := by have := (List.getElem?_eq_some_iff.mp e).1; simpa [ρ0] using this
      obtain ⟨j, b', e1, e2, _⟩ := hj k hk
      refine ⟨j, e1, ?_⟩
      simp only [ρ0, List.getElem?_map, e1, Option.map_some, Option.some.injEq] at e
      rw [← e, List.getD_eq_getElem?_getD, e2]; rfl
    · rintro ⟨j, e1, e2⟩
      simp only [ρ0, List.getElem?_map, e1, Option.map_some, Option.some.injEq]
      rw [List.getD_eq_getElem?_getD, e2]; rfl
  have hlen0 : ρ0.length = H0.length := by simp [ρ0, hl]
  have hnd0 : ρ0.Nodup := by
    refine List.pairwise_iff_getElem.mpr fun i j hil hjl hij e0 => ?_
    have hi : i < js.length := by simpa [ρ0] using hil
    have hj' : j < js.length := by simpa [ρ0] using hjl
    have e : ρ0[i]? = ρ0[j]? := by rw [List.getElem?_eq_getElem hil, List.getElem?_eq_getElem hjl, e0]
    obtain ⟨a, b, e1, e2, h1⟩ := hj i hi
    obtain ⟨a', b', e1', e2', h1'⟩ := hj j hj'
    rw [(hρ0 i b).mpr ⟨a, e1, e2⟩, (hρ0 j b').mpr ⟨a', e1', e2'⟩] at e
    cases e
    have haa : a = a' := by
      obtain ⟨q1, q2⟩ := List.getElem?_eq_some_iff.mp e2
      obtain ⟨q3, q4⟩ := List.getElem?_eq_some_iff.mp e2'
      exact (List.getElem_inj hH.nodup (h₀ := q1) (h₁ := q3)).mp (q2.trans q4.symm)
    subst haa
    obtain ⟨q1, q2⟩ := List.getElem?_eq_some_iff.mp e1
    obtain ⟨q3, q4⟩ := List.getElem?_eq_some_iff.mp e1'
    have := (List.getElem_inj hnd (h₀ := q1) (h₁ := q3)).mp (q2.trans q4.symm)
    omega
  have at0 : AtH c.hb ρ0 H0 s.heap := by
    refine ⟨hH.keep, hlen0, hnd0, fun i o b e1 e2 => ?_⟩
    obtain ⟨j, e3, e4⟩ := (hρ0 i b).mp e2
    have e5 := hat i j e3
    rw [e1] at e5
    obtain ⟨vs, g1, g2, g3⟩ := hH.obj j o b e5 e4
    exact ⟨vs, g1, g2.flat (hfl o (List.mem_of_getElem? e1)), g3⟩
  have hv0 : ValL ρ0 as0 vals := by
    clear h hat hl hfl hk1 hk2 at0 hlen0 hnd0
    induction as0 generalizing vals with
    | nil => cases vals with | nil => trivial | cons => exact hv
    | cons x xs ih =>
      cases vals with
      | nil => exact hv.elim
      | cons v vs =>
        refine ⟨?_, ih (fun y hy => has y (List.mem_cons_of_mem _ hy)) vs hv.2⟩
        have h1 := hv.1
        cases x with
        | ref i =>
          have hi := has (.ref i) List.mem_cons_self i rfl
          obtain ⟨j, b, e1, e2, _⟩ := hj i hi
          have e3 : js.getD i 0 = j := by rw [List.getD_eq_getElem?_getD, e1]; rfl
          simp only [reA, e3] at h1
          obtain ⟨b', e4, rfl⟩ := h1
          rw [e2] at e4; cases e4
          exact ⟨b, (hρ0 i b).mpr ⟨j, e1, e2⟩, rfl⟩
        | _ => exact h1
  refine wpAny_mono (h A hA s ρ0 vals [] at0 hv0 rfl trivial) (fun u s' q => ?_) fun _ _ e => e
  obtain ⟨h', tk', ρ', H', v, rfl, at', x', rv, hq, hH'⟩ := q
  have hkp : ∀ b o, s.heap.get? b = some o → b ∉ ρ0 → h'.get? b = some o := fun b o e hn => x'.kp b o e (notIn_of hn) id
  have hobj : ∀ (i : Nat) (o : AO) (b : Addr), H[i]? = some o → ρ[i]? = some b → ∃ vs : List Value, h'.IsList b vs.toArray ∧ ValL ρ o.xs vs ∧ (o.w = true → c.hb.get? b = Option.none) ∧ (o.p = true → h'.PlainList b vs.toArray) ∧ o.xs.length ≤ 5000 := by
    intro i o b e1 e2
    by_cases hb : b ∈ ρ0
    · obtain ⟨k, hk, e3⟩ := List.mem_iff_getElem.mp hb
      have e4 : ρ0[k]? = some b := by rw [← e3]; simp [hk]
      obtain ⟨j, e5, e6⟩ := (hρ0 k b).mp e4
      have hji : j = i := by
        obtain ⟨q1, q2⟩ := List.getElem?_eq_some_iff.mp e6
        obtain ⟨q3, q4⟩ := List.getElem?_eq_some_iff.mp e2
        exact (List.getElem_inj hH.nodup (h₀ := q1) (h₁ := q3)).mp (q2.trans q4.symm)
      subst hji
      have e7 := hat k j e5
      rw [e1] at e7
      have hkl : k < H0.length := by rw [← hlen0]; exact hk
      have e8 : H'[k]? = some o := by rw [← List.getElem?_take_of_lt hkl, hH', ← e7]
      have e9 : ρ'[k]? = some b := by
        obtain ⟨t, ht⟩ := x'.pre
        rw [← ht, List.getElem?_append_left hk]; exact e4
      obtain ⟨vs, g1, g2, g3⟩ := at'.obj k o b e8 e9
      exact ⟨vs, g1, g2.flat (hfl o (List.mem_of_getElem? e7.symm)), g3⟩
    · obtain ⟨vs, ⟨oo, g1, g1'⟩, g2, g3, g4, g5⟩ := hH.obj i o b e1 e2
      exact ⟨vs, ⟨oo, hkp b oo g1 hb, g1'⟩, g2, g3, fun w => (g4 w).at fun o e => hkp b o e hb, g5⟩
  refine ⟨h', tk', ρ, H, v, rfl, ⟨at'.keep, hH.len, hH.nodup, hobj⟩, ⟨List.prefix_refl _, fun i o e => ⟨o, e, rfl⟩, (fun i a hi e => by rw [List.getElem?_eq_none hi] at e; cases e), fun b o e nm _ => ?_, x'.per⟩, rv.flat (hr v hq), hq, rfl⟩
  refine x'.kp b o e ?_ id
  rintro ⟨k, o', e1, e2, hw⟩
  obtain ⟨j, e3, e4⟩ := (hρ0 k b).mp e2
  have e5 := hat k j e3
  rw [e1] at e5
  exact nm ⟨j, o', e5, e4, hw⟩
end
end Mine
namespace Mine
/-! ## comprehensions, over the small syntax -/
noncomputable def capL : List Nat → Loc → Loc
  | [], _ => []
  | y :: r, loc => match lget loc y with | some v => (y, v) :: capL r loc | none => capL r loc
theorem capL_of {loc : Loc} : ∀ {cap : List Nat} {x : Nat} {v : AV}, lget (capL cap loc) x = some v → x ∈ cap ∧ lget loc x = some v
  | [], x, v, e => by simp [capL, lget] at e
  | y :: r, x, v, e => by
    unfold capL at e
    cases q : lget loc y with
    | none =>
      rw [q] at e
      obtain ⟨h1, h2⟩ := capL_of (cap := r) e
      exact ⟨List.mem_cons_of_mem _ h1, h2⟩
    | some w =>
      rw [q] at e
      unfold lget at e
      by_cases hb : Nat.beq y x = true
      · rw [if_pos hb] at e
        have := Nat.eq_of_beq_eq_true hb
        subst this
        cases e
        exact ⟨List.mem_cons_self, q⟩
      · rw [if_neg hb] at e
        obtain ⟨h1, h2⟩ := capL_of (cap := r) e
        exact ⟨List.mem_cons_of_mem _ h1, h2⟩
theorem fm_take {xs : List AV} {k : Nat} {w : AV} (h : xs[k]? = some w) (g : AV → Option AV) : (xs.take (k + 1)).filterMap g = (xs.take k).filterMap g ++ (g w).toList := by
  rw [List.take_add_one, h, List.filterMap_append]
  congr 1
theorem fm_len {xs : List AV} {k : Nat} (hl : xs.length ≤ 4999) (g : AV → Option AV) : Nat.ble ((xs.take k).filterMap g).length 4999 = true := by
  refine Nat.ble_eq.mpr (Nat.le_trans (List.length_filterMap_le _ _) ?_)
  simp; omega
section
variable {c : Cx} {d : Nat} {env : Env} {ks : KS} {cw : CW} {loc : Loc} {H : AH}
theorem CTR.mono {D : Addr} {acc : List AV} {t : Sem Unit} {P P' : List AV → AH → Prop} (h : CTR c d env D loc H acc t P) (hp : ∀ a H', P a H' → P' a H') : CTR c d env D loc H acc t P' :=
  fun _ hA _ _ hH hF hc hD ha => CTR.seq h hA hH hF hc hD ha fun h₁ tk₁ ρ₁ H₁ acc' a1 f1 x1 c1 d1 p1 => ⟨h₁, tk₁, ρ₁, H₁, acc', rfl, a1, f1, x1, c1, d1, hp _ _ p1⟩
theorem swaps_yes (ek : EnvOk env ks) {elt : Expr} {gs : List Comprehension} {scope : Scope} {pos py : Pos} {idy : Str} {n : Nat} (h1 : (ks.lookup idy == some .local) = true) (h2 : (py.line == pos.line) = true) (h3 : (!(scope.names.any fun p => p.1 == idy && (p.2 == .local || p.2 == .cell))) = true) :
    swapsWith (.ListComp elt gs scope pos) (some (.Name idy py)) n env = pure true := by
  show pure (env.blockKind == .function && env.kindOf idy == some .local && py.line == pos.line && !(scope.names.any fun (n, k) => n == idy && (k == .local || k == .cell))) = pure true
  have e1 : (env.blockKind == .function) = true := by unfold Env.blockKind; rw [ek.kind]; rfl
  have e2 : (env.kindOf idy == some .local) = true := by unfold Env.kindOf; rw [ek.names]; exact h1
  rw [e1, e2, h2]
  exact congrArg pure h3
/-- what one turn puts in -/
noncomputable def CompT (cw : CW) (n : Nat) (t : Option T) (elt : E) (H : AH) (g : AV → Option AV) (w : AV) (l : Loc) : Prop :=
  match t with
  | some t => wT cw n t l H fun b H1 => if b = true then wE cw n elt l H1 fun r H2 => g w = some r ∧ H2 = H else g w = none ∧ H1 = H
  | none => wE cw n elt l H fun r H2 => g w = some r ∧ H2 = H
theorem turn_some (fm : Fm c d env ks cw) {xt xelt : Expr} {m n : Nat} {t : T} {elt : E} {g : AV → Option AV} {xs : List AV} {k : Nat} {w : AV} {D : Addr} {S : Src} {l : Loc} (h1 : okT ks m t xt = true) (h2 : okE ks m elt xelt = true) (hl : xs.length ≤ 4999) (hk : xs[k]? = some w)
    (hs : srcIts S H = some xs) (h : CompT cw n (some t) elt H g w l) : CTR c d env D l H ((xs.take k).filterMap g) (body1 xelt [xt] env D) fun acc' H2 => (H2 = H ∧ acc' = (xs.take (k + 1)).filterMap g) ∧ srcIts S H2 = some xs := by
  refine CTR_if ((MT.of fm n h m xt h1).mono fun b H1 hb => ?_)
  cases b with
  | true =>
    simp only [if_true] at hb ⊢
    refine (ME.of fm n hb m xelt h2).mono fun r H2 hr => ?_
    obtain ⟨e1, rfl⟩ := hr
    refine gd_iff.mpr ⟨fm_len hl g, ⟨rfl, ?_⟩, hs⟩
    rw [fm_take hk, e1]; rfl
  | false =>
    simp only [Bool.false_eq_true, if_false] at hb ⊢
    obtain ⟨e1, rfl⟩ := hb
    refine ⟨⟨rfl, ?_⟩, hs⟩
    rw [fm_take hk, e1]; simp
theorem turn_none (fm : Fm c d env ks cw) {xelt : Expr} {m n : Nat} {elt : E} {g : AV → Option AV} {xs : List AV} {k : Nat} {w : AV} {D : Addr} {S : Src} {l : Loc} (h2 : okE ks m elt xelt = true) (hl : xs.length ≤ 4999) (hk : xs[k]? = some w)
    (hs : srcIts S H = some xs) (h : CompT cw n none elt H g w l) : CTR c d env D l H ((xs.take k).filterMap g) (body1 xelt [] env D) fun acc' H2 => (H2 = H ∧ acc' = (xs.take (k + 1)).filterMap g) ∧ srcIts S H2 = some xs := by
  refine CTR_emit ((ME.of fm n h m xelt h2).mono fun r H2 hr => ?_)
  obtain ⟨e1, rfl⟩ := hr
  refine gd_iff.mpr ⟨fm_len hl g, ⟨rfl, ?_⟩, hs⟩
  rw [fm_take hk, e1]; rfl
theorem MT.anyC (fm : Fm c d env ks cw) {cap : List Nat} {v : Nat} {it : It} {t : T} {elt : E} {P : Bool → AH → Prop} (n : Nat) (xs : List AV) (g : AV → Option AV) (hl : xs.length ≤ 4999) (hfl : (xs.filterMap g).all flatA = true)
    (hit : wIt cw n it loc H fun _ ys H1 => ys = xs ∧ H1 = H) (turn : ∀ w ∈ xs, CompT cw n (some t) elt H g w (lset (capL cap loc) v w))
    (p : P (!(xs.filterMap g).isEmpty) (H ++ [⟨true, true, xs.filterMap g⟩, ⟨true, true, []⟩])) : MT c d env ks (.anyC cap v it t elt) loc H P := by
  intro m x hok
  cases m with
  | zero => simp [okT] at hok
  | succ m =>
    simp only [okT] at hok
    apply qCmp_e hok; intro z5 z7 z10 p3 hok
    apply qLC_e hok; intro xelt z4 scope p1 hok
    apply q1_e hok; intro z3 hok
    apply qGen_e hok; intro z1 xit z2 hok
    apply qName_e hok; intro id px hok
    apply q1_e hok; intro xt hok
    apply q1_e hok; intro z6 hok
    apply qEq_e hok; intro hok
    apply q1_e hok; intro z9 hok
    apply qLst_e hok; intro z8 p2 hok
    apply q0_e hok; intro hok
    · simp only [Bool.and_eq_true, decide_eq_true_eq] at hok
      obtain ⟨⟨⟨⟨hid, hsc⟩, h1⟩, h2⟩, h3⟩ := hok
      have hns : noSet xit = true := by simp only [okIt, Bool.and_eq_true] at h1; exact h1.1
      obtain ⟨cl, k1, k2, k3⟩ := comp_of (loc := loc) (loc0 := capL cap loc) fm.ek hsc fun x v e => capL_of e
      obtain ⟨hv, hvl, hvf⟩ := k3 v List.mem_cons_self
      have hcm : ∀ b, (b = !(xs.filterMap g).isEmpty) → (!avsEq (xs.filterMap g) []) = b := by
        intro b hb; rw [hb]; cases xs.filterMap g <;> rfl
      refine VT_cmp (VE_comp1 k1 (fun S ys k acc H1 => ys = xs ∧ H1 = H ∧ acc = (xs.take k).filterMap g) hid rfl hv hvl hvf ((MI.of fm n hit m xit h1).mono fun S ys H1 q => ⟨q.1, q.2, rfl⟩) ?_ ?_ (noSet_folded hns)) rfl
      · rintro S ys k acc H1 w C D ⟨rfl, rfl, rfl⟩ hs hk
        refine CTR.mono (turn_some ⟨fm.ok, fm.gk, k2 C, fm.cw⟩ h2 h3 hl hk hs (turn w (List.mem_of_getElem? hk))) fun acc' H2 q => ⟨⟨rfl, q.1.1, q.1.2⟩, q.2⟩
      · rintro S ys acc H1 ⟨rfl, rfl, rfl⟩
        refine VE_list rfl (VEs_nil ?_)
        refine gd_iff.mpr ⟨rfl, ?_⟩
        simp only [cmpA]
        rw [List.take_length, List.append_assoc]
        unfold lat
        rw [List.getElem?_append_right (by simp)]
        simp only [Nat.sub_self, List.cons_append, List.nil_append, List.getElem?_cons_zero]
        rw [List.getElem?_append_right (by simp)]
        simp only [List.length_append, List.length_cons, List.length_nil, Nat.zero_add, Nat.add_sub_cancel_left, List.getElem?_cons_succ, List.getElem?_cons_zero]
        refine gd_iff.mpr ⟨by simp [hfl], ?_⟩
        rw [hcm _ rfl]
        exact p
theorem M1.asgC (fm : Fm c d env ks cw) {y : Nat} {cap : List Nat} {v : Nat} {it : It} {t : T} {elt : E} {P : AFl → Loc → AH → Prop} (n : Nat) (xs : List AV) (g : AV → Option AV) (hl : xs.length ≤ 4999)
    (hit : wIt cw n it loc H fun _ ys H1 => ys = xs ∧ H1 = H) (turn : ∀ w ∈ xs, CompT cw n (some t) elt H g w (lset (capL cap loc) v w))
    (p : P .next (lset loc y (.ref H.length)) (H ++ [⟨true, true, xs.filterMap g⟩])) : M1 c d env ks (.asgC y cap v it t elt) loc H P := by
  intro m x hok
  cases m with
  | zero => simp [okS] at hok
  | succ m =>
    simp only [okS] at hok
    apply qAssign_e hok; intro z2 z7 p2 hok
    apply q1_e hok; intro z1 hok
    apply qName_e hok; intro idy py hok
    apply qLC_e hok; intro xelt z6 scope p1 hok
    apply q1_e hok; intro z5 hok
    apply qGen_e hok; intro z3 xit z4 hok
    apply qName_e hok; intro id px hok
    apply q1_e hok; intro xt hok
    · simp only [Bool.and_eq_true, decide_eq_true_eq] at hok
      obtain ⟨⟨⟨⟨⟨⟨⟨⟨hy, hyl⟩, hln⟩, hnm⟩, hid⟩, hsc⟩, h1⟩, h2⟩, h3⟩ := hok
      have hns : noSet xit = true := by simp only [okIt, Bool.and_eq_true] at h1; exact h1.1
      obtain ⟨cl, k1, k2, k3⟩ := comp_of (loc := loc) (loc0 := capL cap loc) fm.ek hsc fun x v e => capL_of e
      obtain ⟨hv, hvl, hvf⟩ := k3 v List.mem_cons_self
      obtain ⟨hy1, hy2⟩ := Sto.of fm.ek hy
      refine VS_comp1 k1 (fun S ys k acc H1 => ys = xs ∧ H1 = H ∧ acc = (xs.take k).filterMap g) hid hy1 hy2 rfl hv hvl hvf ?_ ((MI.of fm n hit m xit h1).mono fun S ys H1 q => ⟨q.1, q.2, rfl⟩) ?_ ?_ (noSet_folded hns)
      · exact swaps_yes fm.ek hyl hln hnm
      · rintro S ys k acc H1 w C D ⟨rfl, rfl, rfl⟩ hs hk
        refine CTR.mono (turn_some ⟨fm.ok, fm.gk, k2 C, fm.cw⟩ h2 h3 hl hk hs (turn w (List.mem_of_getElem? hk))) fun acc' H2 q => ⟨⟨rfl, q.1.1, q.1.2⟩, q.2⟩
      · rintro S ys acc H1 ⟨rfl, rfl, rfl⟩
        rw [List.take_length]
        exact p
theorem M1.retC (fm : Fm c d env ks cw) {v : Nat} {it : It} {elt : E} {P : AFl → Loc → AH → Prop} (n : Nat) (xs : List AV) (g : AV → Option AV) (hl : xs.length ≤ 4999)
    (hit : wIt cw n it loc H fun _ ys H1 => ys = xs ∧ H1 = H) (turn : ∀ w ∈ xs, CompT cw n none elt H g w [(v, w)])
    (p : P (.ret (.ref H.length)) loc (H ++ [⟨true, true, xs.filterMap g⟩])) : M1 c d env ks (.retC v it elt) loc H P := by
  intro m x hok
  cases m with
  | zero => simp [okS] at hok
  | succ m =>
    simp only [okS] at hok
    apply qRet_e hok; intro z6 p2 hok
    apply qSo_e hok; intro z5 hok
    apply qLC_e hok; intro xelt z4 scope p1 hok
    apply q1_e hok; intro z3 hok
    apply qGen_e hok; intro z1 xit z2 hok
    apply qName_e hok; intro id px hok
    apply q0_e hok; intro hok
    · simp only [Bool.and_eq_true, decide_eq_true_eq] at hok
      obtain ⟨⟨⟨hid, hsc⟩, h1⟩, h3⟩ := hok
      have hns : noSet xit = true := by simp only [okIt, Bool.and_eq_true] at h1; exact h1.1
      obtain ⟨cl, k1, k2, k3⟩ := comp_of (loc := loc) (loc0 := []) fm.ek hsc fun x v e => by simp [lget] at e
      obtain ⟨hv, hvl, hvf⟩ := k3 v List.mem_cons_self
      refine VS_ret (VE_comp1 k1 (fun S ys k acc H1 => ys = xs ∧ H1 = H ∧ acc = (xs.take k).filterMap g) hid rfl hv hvl hvf ((MI.of fm n hit m xit h1).mono fun S ys H1 q => ⟨q.1, q.2, rfl⟩) ?_ ?_ (noSet_folded hns))
      · rintro S ys k acc H1 w C D ⟨rfl, rfl, rfl⟩ hs hk
        refine CTR.mono (turn_none ⟨fm.ok, fm.gk, k2 C, fm.cw⟩ h3 hl hk hs (turn w (List.mem_of_getElem? hk))) fun acc' H2 q => ⟨⟨rfl, q.1.1, q.1.2⟩, q.2⟩
      · rintro S ys acc H1 ⟨rfl, rfl, rfl⟩
        rw [List.take_length]
        exact p
/-! two generators: reckoned -/
noncomputable def wCi (cw : CW) (n : Nat) (elt : E) (x1 : Nat) (l : Loc) (sr : Src) (xs : List AV) : List AV → List AV → AH → (List AV → AH → Prop) → Prop
  | [], acc, H, P => P acc H
  | v :: r, acc, H, P => wE cw n elt (lset l x1 v) H fun q H2 => gd (Nat.ble acc.length 4999) (gd (decide (srcIts sr H2 = some xs)) (wCi cw n elt x1 l sr xs r (acc ++ [q]) H2 P))
noncomputable def wCo (cw : CW) (n : Nat) (it1 : It) (elt : E) (x x1 : Nat) (l : Loc) (sr : Src) (xs : List AV) : List AV → List AV → AH → (List AV → AH → Prop) → Prop
  | [], acc, H, P => P acc H
  | v :: r, acc, H, P => wIt cw n it1 (lset l x v) H fun S1 ys H1 => wCi cw n elt x1 (lset l x v) S1 ys ys acc H1 fun acc' H2 => gd (decide (srcIts sr H2 = some xs)) (wCo cw n it1 elt x x1 l sr xs r acc' H2 P)
noncomputable def wC2 (cw : CW) (n : Nat) (cap : List Nat) (x : Nat) (it : It) (x1 : Nat) (it1 : It) (elt : E) (loc : Loc) (H : AH) (P : List AV → AH → Prop) : Prop :=
  wIt cw n it loc H fun S xs H1 => wCo cw n it1 elt x x1 (capL cap loc) S xs xs [] H1 P
theorem drop_cons {xs : List AV} {k : Nat} {w : AV} (h : xs[k]? = some w) : xs.drop k = w :: xs.drop (k + 1) := by
  obtain ⟨h1, h2⟩ := List.getElem?_eq_some_iff.mp h
  rw [List.drop_eq_getElem_cons h1, h2]
theorem M1.asgC2 (fm : Fm c d env ks cw) {y : Nat} {cap : List Nat} {v v1 : Nat} {it it1 : It} {elt : E} {P : AFl → Loc → AH → Prop} (n : Nat)
    (h : wC2 cw n cap v it v1 it1 elt loc H fun acc H1 => P .next (lset loc y (.ref H1.length)) (H1 ++ [⟨true, true, acc⟩])) : M1 c d env ks (.asgC2 y cap v it v1 it1 elt) loc H P := by
  intro m x hok
  cases m with
  | zero => simp [okS] at hok
  | succ m =>
    simp only [okS] at hok
    apply qAssign_e hok; intro z2 z10 p2 hok
    apply q1_e hok; intro z1 hok
    apply qName_e hok; intro idy py hok
    apply qLC_e hok; intro xelt z9 scope p1 hok
    apply q2_e hok; intro z5 z8 hok
    apply qGen_e hok; intro z3 xit z4 hok
    apply qName_e hok; intro id px hok
    apply q0_e hok; intro hok
    apply qGen_e hok; intro z6 xit1 z7 hok
    apply qName_e hok; intro id1 px1 hok
    apply q0_e hok; intro hok
    · simp only [Bool.and_eq_true, decide_eq_true_eq, Bool.not_eq_true'] at hok
      obtain ⟨⟨⟨⟨⟨⟨⟨⟨⟨⟨hy, hyl⟩, hln⟩, hnm⟩, hid⟩, hid1⟩, hvv⟩, hsc⟩, h1⟩, h2⟩, h3⟩ := hok
      have hns : noSet xit = true := by simp only [okIt, Bool.and_eq_true] at h1; exact h1.1
      have hns1 : noSet xit1 = true := by simp only [okIt, Bool.and_eq_true] at h2; exact h2.1
      have hne : v ≠ v1 := by rintro rfl; rw [Nat.beq_refl] at hvv; cases hvv
      obtain ⟨cl, k1, k2, k3⟩ := comp_of (loc := loc) (loc0 := capL cap loc) fm.ek hsc fun x v e => capL_of e
      obtain ⟨hv, hvl, hvf⟩ := k3 v List.mem_cons_self
      obtain ⟨hv1, hvl1, hvf1⟩ := k3 v1 (List.mem_cons_of_mem _ List.mem_cons_self)
      obtain ⟨hy1, hy2⟩ := Sto.of fm.ek hy
      let Q : List AV → AH → Prop := fun acc H1 => P .next (lset loc y (.ref H1.length)) (H1 ++ [⟨true, true, acc⟩])
      refine VS_comp2 k1 (fun S ys k acc H1 => wCo cw n it1 elt v v1 (capL cap loc) S ys (ys.drop k) acc H1 Q) hid hid1 hy1 hy2 hv hvl hvf (swaps_yes fm.ek hyl hln (by rw [hnm]; rfl)) ((MI.of fm n h m xit h1).mono fun S ys H1 q => q) ?_ ?_ (noSet_folded hns)
      · intro S ys k acc H1 w C D j hs hk
        rw [drop_cons hk] at j
        have fm' : Fm c d (compEnvC scope cl C env) (compKs ks scope) cw := ⟨fm.ok, fm.gk, k2 C, fm.cw⟩
        refine CTR_gen2 (fun S1 zs k1 acc1 H2 => wCi cw n elt v1 (lset (capL cap loc) v w) S1 zs (zs.drop k1) acc1 H2 fun acc' H2 => gd (decide (srcIts S H2 = some ys)) (wCo cw n it1 elt v v1 (capL cap loc) S ys (ys.drop (k + 1)) acc' H2 Q)) hv1 (lookup_relabel_local hvl1) (fun z u e => ?_)
          ((MI.of fm' n j m xit1 h2).mono fun S zs H1 q => q) (fun S1 zs k1 acc1 H2 u j1 hs1 hk1 => ?_) (fun S1 zs acc1 H2 j1 => ?_) (noSet_folded hns1)
        · rw [lget_lset] at e
          split at e
          · rename_i q; subst q; exact hne
          · exact hvf1 z u e
        · rw [drop_cons hk1] at j1
          refine (ME.of fm' n j1 m xelt h3).mono fun r H3 q => ?_
          obtain ⟨q1, q2⟩ := gd_iff.mp q
          obtain ⟨q3, q4⟩ := gd_iff.mp q2
          exact gd_iff.mpr ⟨q1, q4, of_decide_eq_true q3⟩
        · rw [List.drop_length] at j1
          obtain ⟨q1, q2⟩ := gd_iff.mp j1
          exact ⟨q2, of_decide_eq_true q1⟩
      · intro S ys acc H1 j
        rw [List.drop_length] at j
        exact j
/-- a loop whose body is one such comprehension -/
noncomputable def wFC2 (cw : CW) (n : Nat) (z y : Nat) (cap : List Nat) (x : Nat) (it : It) (x1 : Nat) (it1 : It) (elt : E) (sr : Src) (xs : List AV) : List AV → Loc → AH → (Loc → AH → Prop) → Prop
  | [], l, H, P => P l H
  | v :: r, l, H, P => wC2 cw n cap x it x1 it1 elt (lset l z v) H fun acc H1 => gd (decide (srcIts sr (H1 ++ [⟨true, true, acc⟩]) = some xs)) (wFC2 cw n z y cap x it x1 it1 elt sr xs r (lset (lset l z v) y (.ref H1.length)) (H1 ++ [⟨true, true, acc⟩]) P)
theorem M1.frC2 (fm : Fm c d env ks cw) {z y : Nat} {cap : List Nat} {v v1 : Nat} {it0 it it1 : It} {elt : E} {P : AFl → Loc → AH → Prop} (n : Nat)
    (h : wIt cw n it0 loc H fun S xs H1 => wFC2 cw n z y cap v it v1 it1 elt S xs xs loc H1 (P .next)) : M1 c d env ks (.fr z it0 [.asgC2 y cap v it v1 it1 elt] []) loc H P := by
  refine M1.fr fm (fun S xs k l H1 => wFC2 cw n z y cap v it v1 it1 elt S xs (xs.drop k) l H1 (P .next)) (MI.of fm n h) (fun S xs k l H1 w j hs hk => ?_) (fun S xs l H1 j hs => ?_)
  · rw [drop_cons hk] at j
    refine MS.cons (M1.mono (M1.asgC2 fm n (P := fun a l H2 => match a with | .next => gd (decide (srcIts S H2 = some xs)) (wFC2 cw n z y cap v it v1 it1 elt S xs (xs.drop (k + 1)) l H2 (P .next)) | _ => False) j) fun a l' H2 q => ?_)
    cases a with
    | next =>
      obtain ⟨q1, q2⟩ := gd_iff.mp q
      exact MS.nil ⟨q2, of_decide_eq_true q1⟩
    | brk => exact q.elim
    | cont => exact q.elim
    | ret v => exact q.elim
  · rw [List.drop_length] at j
    exact MS.nil j
end
end Mine
namespace Mine
/-! ## the text's functions, and what each call answers -/
noncomputable def b_pretty : List S := [.asg 1 (.lst []), .fr 2 (.rng [.ci 32]) [.asg 3 (.bin .LShift (.ci 1) (.var 2)), .ite (.tr (.bin .BitAnd (.var 0) (.var 3))) [.app (.var 1) (.dget (.var 3) (.hex (.var 3))), .aug 0 .BitXor (.var 3), .ite (.notT (.tr (.var 0))) [.brk] []] []] [.app (.var 1) (.hex (.var 0))], .ret (.join (.var 1))]
noncomputable def b_insort : List S := [.ite (.cmp .Is (.var 8) (.cn)) [.asg 6 (.call (.glob 2) [.var 4, .var 5, .var 6, .var 7])] [.asg 6 (.callk (.glob 2) [.var 4, .call (.var 8) [.var 5], .var 6, .var 7] (.var 8))], .ins (.var 4) (.var 6) (.var 5)]
noncomputable def b_bisect : List S := [.ite (.cmp .Lt (.var 6) (.ci 0)) [.bad] [], .ite (.cmp .Is (.var 7) (.cn)) [.asg 7 (.len (.var 4))] [], .ite (.cmp .Is (.var 8) (.cn)) [.whl (.cmp .Lt (.var 6) (.var 7)) [.asg 9 (.bin .FloorDiv (.bin .Add (.var 6) (.var 7)) (.ci 2)), .ite (.cmp .Lt (.var 5) (.idx (.var 4) (.var 9))) [.asg 7 (.var 9)] [.asg 6 (.bin .Add (.var 9) (.ci 1))]]] [.whl (.cmp .Lt (.var 6) (.var 7)) [.asg 9 (.bin .FloorDiv (.bin .Add (.var 6) (.var 7)) (.ci 2)), .ite (.cmp .Lt (.var 5) (.call (.var 8) [.idx (.var 4) (.var 9)])) [.asg 7 (.var 9)] [.asg 6 (.bin .Add (.var 9) (.ci 1))]]], .ret (.var 6)]
noncomputable def b_subst : List S := [.ite (.cmp .Eq (.var 10) (.var 11)) [.ret (.ci 0)] [], .ite (.cmp .Eq (.lower (.var 10)) (.lower (.var 11))) [.ret (.glob 12)] [], .ret (.glob 11)]
noncomputable def b_lev : List S := [.ite (.cmp .Eq (.var 4) (.var 12)) [.ret (.ci 0)] [], .asg 14 (.ci 0), .whl (.andT [.tr (.slf (.var 4) (.var 14)), .tr (.slf (.var 12) (.var 14)), .cmp .Eq (.idx (.var 4) (.var 14)) (.idx (.var 12) (.var 14))]) [.aug 14 .Add (.ci 1)], .asg 4 (.slf (.var 4) (.var 14)), .asg 12 (.slf (.var 12) (.var 14)), .asg 15 (.ci 0), .whl (.andT [.tr (.slt (.var 4) (.orv (.var 15) (.cn))), .tr (.slt (.var 12) (.orv (.var 15) (.cn))), .cmp .Eq (.idx (.var 4) (.bin .Sub (.var 15) (.ci 1))) (.idx (.var 12) (.bin .Sub (.var 15) (.ci 1)))]) [.aug 15 .Sub (.ci 1)], .asg 4 (.slt (.var 4) (.orv (.var 15) (.cn))), .asg 12 (.slt (.var 12) (.orv (.var 15) (.cn))), .ite (.orT [.notT (.tr (.var 4)), .notT (.tr (.var 12))]) [.ret (.bin .Mult (.glob 11) (.bin .Add (.len (.var 4)) (.len (.var 12))))] [], .ite (.orT [.cmp .Gt (.len (.var 4)) (.glob 10), .cmp .Gt (.len (.var 12)) (.glob 10)]) [.ret (.bin .Add (.var 13) (.ci 1))] [], .ite (.cmp .Lt (.len (.var 12)) (.len (.var 4))) [.bad] [], .ite (.cmp .Gt (.bin .Mult (.bin .Sub (.len (.var 12)) (.len (.var 4))) (.glob 11)) (.var 13)) [.ret (.bin .Add (.var 13) (.ci 1))] [], .asg 16 (.lrng (.glob 11) (.bin .Mult (.glob 11) (.bin .Add (.len (.var 4)) (.ci 1))) (.glob 11)), .asg 17 (.ci 0), .fr 18 (.rng [.len (.var 12)]) [.asg 19 (.idx (.var 12) (.var 18)), .asg2 20 17 (.bin .Mult (.var 18) (.glob 11)), .asg 21 (.ci 9223372036854775807), .fr 22 (.rng [.len (.var 4)]) [.asg 23 (.bin .Add (.var 20) (.call (.glob 3) [.var 19, .idx (.var 4) (.var 22)])), .asg 20 (.idx (.var 16) (.var 22)), .asg 24 (.bin .Add (.min2 (.var 17) (.var 20)) (.glob 11)), .asg 17 (.min2 (.var 24) (.var 23)), .sto (.var 16) (.var 22) (.var 17), .ite (.cmp .Lt (.var 17) (.var 21)) [.asg 21 (.var 17)] []] [], .ite (.cmp .Gt (.var 21) (.var 13)) [.ret (.bin .Add (.var 13) (.ci 1))] []] [], .ret (.var 17)]
noncomputable def b_kinds : List S := [.asg 26 (.lst [.ci 2, .ci 11, .ci 4, .ci 6]), .fr 27 (.rng [.min2 (.len (.var 25)) (.ci 60)]) [.augI (.var 26) (.bin .Mod (.var 27) (.ci 4)) .Add (.bin .Mod (.idx (.var 25) (.var 27)) (.ci 15))] [], .retC 28 (.seq (.var 26)) (.bin .Add (.ci 1) (.bin .Mod (.var 28) (.ci 15)))]
noncomputable def b_stops : List S := [.asg 30 (.lst [.lst []]), .fr 3 (.seq (.lst [.ci 1, .ci 2, .ci 4, .ci 8])) [.asgC2 30 [3] 31 (.seq (.var 30)) 32 (.rng [.bin .Add (.len (.var 31)) (.ci 1)]) (.bin .Add (.bin .Add (.slt (.var 31) (.var 32)) (.lst [.var 3])) (.slf (.var 31) (.var 32)))] [], .asg 33 (.bin .Mult (.lst [.ci 0]) (.ci 16)), .fr 31 (.seq (.var 30)) [.asg 34 (.ci 0), .fr 35 (.seq (.var 31)) [.aug 34 .Add (.var 35), .ite (.anyC [34] 36 (.seq (.var 29)) (.cmp .Eq (.bin .BitAnd (.var 36) (.var 34)) (.var 36)) (.var 36)) [.brk] []] [], .augI (.var 33) (.var 34) .Add (.ci 1)] [], .ret (.var 33)]
noncomputable def b_orders : List S := [.asg 38 (.ci 1), .fr 39 (.rng [.ci 2, .bin .Add (.var 37) (.ci 1)]) [.aug 38 .Mult (.var 39)] [], .ret (.var 38)]
noncomputable def b_size : List S := [.ret (.len (.var 40))]
noncomputable def b_law : List S := [.asg 29 (.call (.glob 5) [.var 25]), .asg 33 (.call (.glob 6) [.var 29]), .asg 41 (.lst []), .fr 36 (.seq (.var 29)) [.ex (.callk (.glob 1) [.var 41, .split (.call (.glob 0) [.var 36])] (.glob 8))] [], .fr 42 (.rng [.ci 1, .ci 16]) [.asg 40 (.split (.call (.glob 0) [.var 42])), .asg 37 (.len (.var 40)), .asg 43 (.var 40), .asg 44 (.ci 0), .fr 16 (.seq (.slt (.var 41) (.callk (.glob 2) [.var 41, .var 37] (.glob 8)))) [.asg 45 (.bin .Mult (.ci 2) (.bin .Sub (.var 37) (.len (.var 16)))), .ite (.cmp .Eq (.call (.glob 4) [.var 16, .var 40, .var 45]) (.var 45)) [.aug 44 .Add (.ci 1), .asgC 43 [16] 46 (.seq (.var 43)) (.cmp .In (.var 46) (.var 16)) (.var 46)] []] [], .asg 47 (.ci 0), .ite (.cmp .Gt (.var 44) (.ci 0)) [.asg 47 (.bin .Mult (.bin .Mult (.len (.var 43)) (.call (.glob 7) [.bin .Sub (.var 37) (.ci 1)])) (.call (.glob 7) [.bin .Sub (.ci 4) (.var 37)]))] [], .ite (.cmp .NotEq (.var 47) (.idx (.var 33) (.var 42))) [.ret (.cb false)] []] [], .ret (.cb true)]

noncomputable def FnB (c : Cx) (f : Addr) (b : List S) (B : List AV → List (Str × AV) → Loc → Prop) : Prop :=
  ∃ fd body, FnOk c f fd body ∧ (∀ x ∈ fd.scope.names, x.2 ≠ .cell) ∧ okSs fd.scope.names 200 b body = true ∧ ∀ as ks loc0, B as ks loc0 → Binds c fd as ks loc0
noncomputable def BPos (ps : List Nat) (as : List AV) (ks : List (Str × AV)) (loc0 : Loc) : Prop := ks = [] ∧ as.length = ps.length ∧ loc0 = ps.zip as
inductive BKey : List AV → List (Str × AV) → Loc → Prop
  | two (a x k : AV) : BKey [a, x] [(keyS, k)] [(4, a), (5, x), (6, .int 0), (7, .none), (8, k)]
  | four (a x lo hi k : AV) : BKey [a, x, lo, hi] [(keyS, k)] [(4, a), (5, x), (6, lo), (7, hi), (8, k)]
structure FnS (c : Cx) (f : Addr) (fd : FuncData) (body : List Stmt) (b : List S) (x : Nat) : Prop where
  fo : FnOk c f fd body
  lt : x < 48
  bind : ∀ v S, peek c.K S (bindArgs fd ⟨[v], []⟩) = some [(vS x, v)]
  loc : fd.scope.names.lookup (vS x) = some .local
  ok : okSs fd.scope.names 200 b body = true
  ek : ∀ L, EnvOk (callEnvC fd L f) fd.scope.names
structure Prg (c : Cx) : Prop where
  ok : CxOk c
  gk : GlOk c
  pretty : FnB c 22 b_pretty (BPos [0])
  insort : FnB c 31 b_insort BKey
  bisect : FnB c 40 b_bisect BKey
  subst : FnB c 47 b_subst (BPos [10, 11])
  lev : FnB c 54 b_lev (BPos [4, 12, 13])
  kinds : FnB c 59 b_kinds (BPos [25])
  stops : ∃ fd body, FnS c 64 fd body b_stops 29
  orders : FnB c 71 b_orders (BPos [37])
  size : FnB c 78 b_size (BPos [40])
noncomputable def PRet (P : AV → AH → Prop) : AFl → Loc → AH → Prop := fun a _ H' => match a with | .ret v => P v H' | .next => P .none H' | _ => False
section
variable {c : Cx} {d : Nat} {H : AH} {cw : CW}
theorem CK.ofFn (pg : Prg c) {f : Addr} {b : List S} {B : List AV → List (Str × AV) → Loc → Prop} (fn : FnB c f b B) {as : List AV} {ks : List (Str × AV)} {loc0 : Loc} {P : AV → AH → Prop} (hB : B as ks loc0) (hcw : CwOk c d cw)
    (h : ∀ env kn, Fm c d env kn cw → MS c d env kn b loc0 H (PRet P)) : CK c (d + 1) (.ref f) as ks H P := by
  obtain ⟨fd, body, fo, hc, hok, hb⟩ := fn
  refine CK_fn pg.ok fo hc (hb as ks loc0 hB) fun L => ?_
  refine h (callEnv fd L f) fd.scope.names ⟨pg.ok, pg.gk, ⟨rfl, fo.kind, fun id e => ?_⟩, hcw⟩ 200 body hok
  obtain ⟨l₁, l₂, h3, _⟩ := List.lookup_eq_some_iff.mp e
  exact absurd rfl (hc (id, .cell) (h3 ▸ (by simp)))
/-- a reckoning, kept shut -/
inductive Ev (cw : CW) (n : Nat) (b : List S) (loc : Loc) (H : AH) (P : AFl → Loc → AH → Prop) : Prop
  | mk (h : wSs cw n b loc H P)
theorem Ev.open {n : Nat} {b : List S} {loc : Loc} {P : AFl → Loc → AH → Prop} : Ev cw n b loc H P → wSs cw n b loc H P
  | ⟨h⟩ => h
noncomputable def Tt : Prop := true = true
noncomputable def Alls {α : Type} (F : α → Prop) : List α → Prop
  | [] => True
  | x :: r => F x ∧ Alls F r
noncomputable def AllT {α : Type} : List α → Prop
  | [] => True
  | _ :: r => Tt ∧ AllT r
theorem allT {α : Type} : ∀ l : List α, AllT l
  | [] => trivial
  | _ :: r => ⟨rfl, allT r⟩
theorem Alls.mem {α : Type} {F : α → Prop} {x : α} : ∀ {l : List α}, Alls F l → x ∈ l → F x
  | y :: r, h, hx => by
    rcases List.mem_cons.mp hx with rfl | hx
    · exact h.1
    · exact Alls.mem h.2 hx
theorem Ev.all {α : Type} (cw : CW) (n : Nat) (b : List S) (loc : α → Loc) (H : α → AH) (P : α → AFl → Loc → AH → Prop) (l : List α) (h : AllT l = Alls (fun x => wSs cw n b (loc x) (H x) (P x)) l) : ∀ x ∈ l, Ev cw n b (loc x) (H x) (P x) :=
  fun x hx => ⟨Alls.mem (F := fun x => wSs cw n b (loc x) (H x) (P x)) (x := x) (l := l) (h ▸ allT l) hx⟩
theorem CK.eval (pg : Prg c) {f : Addr} {b : List S} {B : List AV → List (Str × AV) → Loc → Prop} (fn : FnB c f b B) {as : List AV} {ks : List (Str × AV)} {loc0 : Loc} {P : AV → AH → Prop} (hB : B as ks loc0) (hcw : CwOk c d cw) (n : Nat)
    (h : Ev cw n b loc0 H (PRet P)) : CK c (d + 1) (.ref f) as ks H P := CK.ofFn pg fn hB hcw fun _ _ fm => MS.of fm n h.open
noncomputable def cw0 : CW := fun _ _ _ _ _ => False
theorem cw0_ok : CwOk c d cw0 := fun _ _ _ _ _ h => h.elim
theorem lat_iff {H : AH} {i : Nat} {P : AO → Prop} {o : AO} (e : H[i]? = some o) : lat H i P ↔ P o := by unfold lat; rw [e]
/-! _law_size -/
theorem CK_size (pg : Prg c) {i : Nat} {o : AO} (e : H[i]? = some o) : CK c (d + 1) (.ref 78) [.ref i] [] H fun v H' => v = .int o.xs.length ∧ H' = H := by
  refine CK.eval pg pg.size ⟨rfl, rfl, rfl⟩ cw0_ok 5 ?_
  refine ⟨?_⟩
  show lat H i fun o => _
  rw [lat_iff e]
  exact ⟨rfl, rfl⟩
/-! _substitution_cost -/
noncomputable def substA (a b : Nat) : Int := if Nat.beq a b then 0 else 2
noncomputable def QB (b : AV → AH → Bool) : AFl → Loc → AH → Prop := PRet fun v H' => b v H' = true
noncomputable def l4 : List Nat := [0, 1, 2, 3]
noncomputable def l15 : List Nat := [1, 2, 3, 4, 5, 6, 7, 8, 9, 10, 11, 12, 13, 14, 15]
theorem mem4 {a : Nat} (h : a < 4) : a ∈ l4 := (by decide +kernel : ∀ a < 4, a ∈ l4) a h
theorem mem15 {a : Nat} (h : 1 ≤ a) (h' : a ≤ 15) : a ∈ l15 := (by decide +kernel : ∀ a < 16, 1 ≤ a → a ∈ l15) a (Nat.lt_succ_of_le h') h
noncomputable def pairs (l m : List Nat) : List (Nat × Nat) := l.flatMap fun a => m.map fun b => (a, b)
theorem mem_pairs {l m : List Nat} {a b : Nat} (ha : a ∈ l) (hb : b ∈ m) : (a, b) ∈ pairs l m := List.mem_flatMap.mpr ⟨a, ha, List.mem_map.mpr ⟨b, hb, rfl⟩⟩
theorem substAll : ∀ p ∈ pairs l4 l4, Ev cw0 20 b_subst [(10, .sym p.1), (11, .sym p.2)] [] (QB fun v _ => decide (v = .int (substA p.1 p.2))) :=
  Ev.all cw0 20 b_subst (fun p : Nat × Nat => [(10, .sym p.1), (11, .sym p.2)]) (fun _ => []) (fun p => QB fun v _ => decide (v = .int (substA p.1 p.2))) (pairs l4 l4) (by kernel_rfl!)
/-- a call that reads no list and makes none that stays -/
theorem CK.flat0 {f : Value} {as : List AV} {r : AV} (hr : ∀ i, r ≠ .ref i) (has : ∀ x ∈ as, ∀ i, x ≠ .ref i) (h : CK c d f as [] [] fun v _ => decide (v = r) = true) : CK c d f as [] H fun v H' => v = r ∧ H' = H := by
  have h1 := CK.frame (js := []) (H := H) (Q := fun v => v = r) (CK.mono h fun v H' q => ⟨of_decide_eq_true q, rfl⟩) (by rintro v rfl; exact hr) (by simp) (by simp) rfl (by simp) (fun x hx i e => absurd e (has x hx i))
  have h2 : as.map (reA []) = as := by
    refine (List.map_congr_left fun x hx => ?_).trans (List.map_id as)
    cases x <;> first | rfl | exact absurd rfl (has _ hx _)
  rwa [h2] at h1
theorem CK_subst (pg : Prg c) {a b : Nat} (ha : a < 4) (hb : b < 4) : CK c (d + 1) (.ref 47) [.sym a, .sym b] [] H fun v H' => v = .int (substA a b) ∧ H' = H :=
  CK.flat0 (by simp) (by simp) (CK.eval pg pg.subst ⟨rfl, rfl, rfl⟩ cw0_ok 20 (substAll (a, b) (mem_pairs (mem4 ha) (mem4 hb))))
/-! _law_orders -/
noncomputable def factA : Nat → Int
  | 0 => 1 | 1 => 1 | 2 => 2 | 3 => 6 | _ => 0
theorem ordersAll : ∀ k ∈ l4, Ev cw0 40 b_orders [(37, .int (Int.ofNat k))] [] (QB fun v _ => decide (v = .int (factA k))) :=
  Ev.all cw0 40 b_orders (fun k : Nat => [(37, .int (Int.ofNat k))]) (fun _ => []) (fun k => QB fun v _ => decide (v = .int (factA k))) l4 (by kernel_rfl!)
theorem CK_orders (pg : Prg c) {a : Nat} (ha : a < 4) : CK c (d + 1) (.ref 71) [.int (Int.ofNat a)] [] H fun v H' => v = .int (factA a) ∧ H' = H :=
  CK.flat0 (by simp) (by simp) (CK.eval pg pg.orders ⟨rfl, rfl, rfl⟩ cw0_ok 40 (ordersAll a (mem4 ha)))
/-! pretty_flags -/
noncomputable def rowL (k : Nat) : List AV := (l4.filter fun i => k.testBit i).map .sym
noncomputable def pretA (k : Nat) : Nat := (joinA (rowL k)).getD 0
theorem prettyAll : ∀ k ∈ l15, Ev cw0 60 b_pretty [(0, .int (Int.ofNat k))] [] (QB fun v _ => decide (v = .sym (pretA k))) :=
  Ev.all cw0 60 b_pretty (fun k : Nat => [(0, .int (Int.ofNat k))]) (fun _ => []) (fun k => QB fun v _ => decide (v = .sym (pretA k))) l15 (by kernel_rfl!)
theorem CK_pretty (pg : Prg c) {a : Nat} (h1 : 1 ≤ a) (h2 : a ≤ 15) : CK c (d + 1) (.ref 22) [.int (Int.ofNat a)] [] H fun v H' => v = .sym (pretA a) ∧ H' = H :=
  CK.flat0 (by simp) (by simp) (CK.eval pg pg.pretty ⟨rfl, rfl, rfl⟩ cw0_ok 60 (prettyAll a (mem15 h1 h2)))
theorem split_pret {a : Nat} (h1 : 1 ≤ a) (h2 : a ≤ 15) : splitA (pretA a) = some (rowL a) := by
  have key : ∀ a ∈ l15, splitA (pretA a) = some (rowL a) := by decide +kernel
  exact key a (mem15 h1 h2)
/-! _levenshtein_distance -/
noncomputable def cwS : CW := fun f as ks H P => gd (Nat.beq f 47) (match as, ks with | [.sym a, .sym b], [] => gd (Nat.blt a 4 && Nat.blt b 4) (P (.int (substA a b)) H) | _, _ => False)
theorem cwS_ok (pg : Prg c) : CwOk c (d + 1) cwS := by
  intro f as ks H P h
  obtain ⟨h1, h'⟩ := gd_iff.mp h
  clear h
  have e47 : f = 47 := Nat.eq_of_beq_eq_true h1
  rw [e47]
  revert h'
  intro h
  split at h
  · obtain ⟨h2, h⟩ := gd_iff.mp h
    simp only [Bool.and_eq_true] at h2
    refine CK.mono (CK_subst pg (Nat.le_of_ble_eq_true h2.1) (Nat.le_of_ble_eq_true h2.2)) fun v H' q => ?_
    obtain ⟨rfl, rfl⟩ := q
    exact h
  · exact h.elim
noncomputable def siz (k : Nat) : Nat := (rowL k).length
noncomputable def dueA (a b : Nat) : Int := 2 * ((siz b : Int) - (siz a : Int))
noncomputable def subB (a b : Nat) : Bool := Nat.beq (a &&& b) a
noncomputable def levQ (a b : Nat) : AV → Bool
  | .int r => (decide (r = dueA a b)) == subB a b
  | _ => false
noncomputable def levH (a b : Nat) : AH := [⟨true, true, rowL a⟩, ⟨true, true, rowL b⟩]
noncomputable def levR (a : Nat) : List (Nat × Nat) := (l15.filter fun b => Nat.ble (siz a) (siz b)).map fun b => (a, b)
theorem levEv (l : List (Nat × Nat)) (h : AllT l = Alls (fun p : Nat × Nat => wSs cwS 60 b_lev [(4, .ref 0), (12, .ref 1), (13, .int (dueA p.1 p.2))] (levH p.1 p.2) (QB fun v H' => levQ p.1 p.2 v && decide (H'.take 2 = levH p.1 p.2))) l) :
    ∀ p ∈ l, Ev cwS 60 b_lev [(4, .ref 0), (12, .ref 1), (13, .int (dueA p.1 p.2))] (levH p.1 p.2) (QB fun v H' => levQ p.1 p.2 v && decide (H'.take 2 = levH p.1 p.2)) :=
  Ev.all cwS 60 b_lev (fun p : Nat × Nat => [(4, .ref 0), (12, .ref 1), (13, .int (dueA p.1 p.2))]) (fun p => levH p.1 p.2) (fun p => QB fun v H' => levQ p.1 p.2 v && decide (H'.take 2 = levH p.1 p.2)) l h
theorem levK1 : ∀ p ∈ levR 1, Ev cwS 60 b_lev [(4, .ref 0), (12, .ref 1), (13, .int (dueA p.1 p.2))] (levH p.1 p.2) (QB fun v H' => levQ p.1 p.2 v && decide (H'.take 2 = levH p.1 p.2)) := levEv (levR 1) (by kernel_rfl!)
theorem levK2 : ∀ p ∈ levR 2, Ev cwS 60 b_lev [(4, .ref 0), (12, .ref 1), (13, .int (dueA p.1 p.2))] (levH p.1 p.2) (QB fun v H' => levQ p.1 p.2 v && decide (H'.take 2 = levH p.1 p.2)) := levEv (levR 2) (by kernel_rfl!)
theorem levK3 : ∀ p ∈ levR 3, Ev cwS 60 b_lev [(4, .ref 0), (12, .ref 1), (13, .int (dueA p.1 p.2))] (levH p.1 p.2) (QB fun v H' => levQ p.1 p.2 v && decide (H'.take 2 = levH p.1 p.2)) := levEv (levR 3) (by kernel_rfl!)
theorem levK4 : ∀ p ∈ levR 4, Ev cwS 60 b_lev [(4, .ref 0), (12, .ref 1), (13, .int (dueA p.1 p.2))] (levH p.1 p.2) (QB fun v H' => levQ p.1 p.2 v && decide (H'.take 2 = levH p.1 p.2)) := levEv (levR 4) (by kernel_rfl!)
theorem levK5 : ∀ p ∈ levR 5, Ev cwS 60 b_lev [(4, .ref 0), (12, .ref 1), (13, .int (dueA p.1 p.2))] (levH p.1 p.2) (QB fun v H' => levQ p.1 p.2 v && decide (H'.take 2 = levH p.1 p.2)) := levEv (levR 5) (by kernel_rfl!)
theorem levK6 : ∀ p ∈ levR 6, Ev cwS 60 b_lev [(4, .ref 0), (12, .ref 1), (13, .int (dueA p.1 p.2))] (levH p.1 p.2) (QB fun v H' => levQ p.1 p.2 v && decide (H'.take 2 = levH p.1 p.2)) := levEv (levR 6) (by kernel_rfl!)
theorem levK7 : ∀ p ∈ levR 7, Ev cwS 60 b_lev [(4, .ref 0), (12, .ref 1), (13, .int (dueA p.1 p.2))] (levH p.1 p.2) (QB fun v H' => levQ p.1 p.2 v && decide (H'.take 2 = levH p.1 p.2)) := levEv (levR 7) (by kernel_rfl!)
theorem levK8 : ∀ p ∈ levR 8, Ev cwS 60 b_lev [(4, .ref 0), (12, .ref 1), (13, .int (dueA p.1 p.2))] (levH p.1 p.2) (QB fun v H' => levQ p.1 p.2 v && decide (H'.take 2 = levH p.1 p.2)) := levEv (levR 8) (by kernel_rfl!)
theorem levK9 : ∀ p ∈ levR 9, Ev cwS 60 b_lev [(4, .ref 0), (12, .ref 1), (13, .int (dueA p.1 p.2))] (levH p.1 p.2) (QB fun v H' => levQ p.1 p.2 v && decide (H'.take 2 = levH p.1 p.2)) := levEv (levR 9) (by kernel_rfl!)
theorem levK10 : ∀ p ∈ levR 10, Ev cwS 60 b_lev [(4, .ref 0), (12, .ref 1), (13, .int (dueA p.1 p.2))] (levH p.1 p.2) (QB fun v H' => levQ p.1 p.2 v && decide (H'.take 2 = levH p.1 p.2)) := levEv (levR 10) (by kernel_rfl!)
theorem levK11 : ∀ p ∈ levR 11, Ev cwS 60 b_lev [(4, .ref 0), (12, .ref 1), (13, .int (dueA p.1 p.2))] (levH p.1 p.2) (QB fun v H' => levQ p.1 p.2 v && decide (H'.take 2 = levH p.1 p.2)) := levEv (levR 11) (by kernel_rfl!)
theorem levK12 : ∀ p ∈ levR 12, Ev cwS 60 b_lev [(4, .ref 0), (12, .ref 1), (13, .int (dueA p.1 p.2))] (levH p.1 p.2) (QB fun v H' => levQ p.1 p.2 v && decide (H'.take 2 = levH p.1 p.2)) := levEv (levR 12) (by kernel_rfl!)
theorem levK13 : ∀ p ∈ levR 13, Ev cwS 60 b_lev [(4, .ref 0), (12, .ref 1), (13, .int (dueA p.1 p.2))] (levH p.1 p.2) (QB fun v H' => levQ p.1 p.2 v && decide (H'.take 2 = levH p.1 p.2)) := levEv (levR 13) (by kernel_rfl!)
theorem levK14 : ∀ p ∈ levR 14, Ev cwS 60 b_lev [(4, .ref 0), (12, .ref 1), (13, .int (dueA p.1 p.2))] (levH p.1 p.2) (QB fun v H' => levQ p.1 p.2 v && decide (H'.take 2 = levH p.1 p.2)) := levEv (levR 14) (by kernel_rfl!)
theorem levK15 : ∀ p ∈ levR 15, Ev cwS 60 b_lev [(4, .ref 0), (12, .ref 1), (13, .int (dueA p.1 p.2))] (levH p.1 p.2) (QB fun v H' => levQ p.1 p.2 v && decide (H'.take 2 = levH p.1 p.2)) := levEv (levR 15) (by kernel_rfl!)
theorem levAll : ∀ a ∈ l15, ∀ p ∈ levR a, Ev cwS 60 b_lev [(4, .ref 0), (12, .ref 1), (13, .int (dueA p.1 p.2))] (levH p.1 p.2) (QB fun v H' => levQ p.1 p.2 v && decide (H'.take 2 = levH p.1 p.2)) := fun a ha =>
  Alls.mem (F := fun a => ∀ p ∈ levR a, Ev cwS 60 b_lev [(4, .ref 0), (12, .ref 1), (13, .int (dueA p.1 p.2))] (levH p.1 p.2) (QB fun v H' => levQ p.1 p.2 v && decide (H'.take 2 = levH p.1 p.2))) (l := l15) (.intro levK1 (.intro levK2 (.intro levK3 (.intro levK4 (.intro levK5 (.intro levK6 (.intro levK7 (.intro levK8 (.intro levK9 (.intro levK10 (.intro levK11 (.intro levK12 (.intro levK13 (.intro levK14 (.intro levK15 trivial))))))))))))))) ha
theorem CK_lev (pg : Prg c) {a b i j : Nat} (ha : a ∈ l15) (hb : b ∈ l15) (hs : siz a ≤ siz b) (hij : i ≠ j) (hi : H[i]? = some ⟨true, true, rowL a⟩) (hj : H[j]? = some ⟨true, true, rowL b⟩) :
    CK c (d + 2) (.ref 54) [.ref i, .ref j, .int (dueA a b)] [] H fun v H' => levQ a b v = true ∧ H' = H := by
  have hm : (a, b) ∈ levR a := List.mem_map.mpr ⟨b, List.mem_filter.mpr ⟨hb, Nat.ble_eq.mpr hs⟩, rfl⟩
  have h0 : CK c (d + 2) (.ref 54) [.ref 0, .ref 1, .int (dueA a b)] [] (levH a b) fun v H' => levQ a b v = true ∧ H'.take (levH a b).length = levH a b :=
    CK.mono (CK.eval pg pg.lev ⟨rfl, rfl, rfl⟩ (cwS_ok pg) 60 (levAll a ha (a, b) hm)) fun v H' q => by
      simp only [Bool.and_eq_true, decide_eq_true_eq] at q
      exact q
  refine CK.frame (js := [i, j]) (Q := fun v => levQ a b v = true) h0 ?_ ?_ (by simpa using hij) rfl ?_ ?_
  · rintro v hq k rfl; simp [levQ] at hq
  · intro o ho x hx k e
    subst e
    simp only [levH, List.mem_cons, List.not_mem_nil, or_false] at ho
    rcases ho with rfl | rfl
    · simp [rowL] at hx
    · simp [rowL] at hx
  · intro k j' e
    match k with
    | 0 => simp at e; subst e; exact hi
    | 1 => simp at e; subst e; exact hj
    | k + 2 => simp at e
  · intro x hx k e
    subst e
    simp at hx
    rcases hx with rfl | rfl <;> simp
end
end Mine
namespace Mine
section
variable {c : Cx} {d : Nat} {H : AH} {cw : CW}
theorem app_get0 {H G : AH} : (H ++ G)[H.length]? = G[0]? := by rw [List.getElem?_append_right (Nat.le_refl _), Nat.sub_self]
theorem app_get1 {H G : AH} : (H ++ G)[H.length + 1]? = G[1]? := by rw [List.getElem?_append_right (by omega), Nat.add_sub_cancel_left]
theorem app_lt {H G : AH} {i : Nat} {o : AO} (e : H[i]? = some o) : (H ++ G)[i]? = some o := by rw [List.getElem?_append_left (List.getElem?_eq_some_iff.mp e).1]; exact e
theorem app_set {H : AH} {o o' : AO} : (H ++ [o]).set H.length o' = H ++ [o'] := by
  rw [List.set_append_right _ _ (Nat.le_refl _), Nat.sub_self]; rfl
theorem lat_i {H : AH} {i : Nat} {P : AO → Prop} {o : AO} (e : H[i]? = some o) (p : P o) : lat H i P := (lat_iff e).mpr p
theorem idx_i {o : AO} {j : Nat} {P : AV → Prop} {v : AV} (e : o.xs[j]? = some v) (hl : j < 5001) (p : P v) : idxA o (j : Int) P := by
  unfold idxA
  rw [show decide ((0 : Int) ≤ (j : Int)) = true by simp]
  simp only [Int.toNat_natCast, e]
  rw [show decide ((j : Int) < 5001) = true from decide_eq_true (by omega)]
  exact p
theorem set_i {H : AH} {i j : Nat} {o : AO} {v : AV} {P : AH → Prop} (e : H[i]? = some o) (hw : o.w = true) (hj : j < o.xs.length) (p : P (H.set i ⟨true, false, o.xs.set j v⟩)) : setA H i (j : Int) v P := by
  unfold setA
  refine lat_i e (gd_iff.mpr ⟨by simp [hw, hj], ?_⟩)
  simp only [Int.toNat_natCast]
  exact p
theorem new_i {H : AH} {xs : List AV} {P : AV → AH → Prop} (hl : xs.length ≤ 5000) (p : P (.ref H.length) (H ++ [⟨true, true, xs⟩])) : newL H xs P := gd_iff.mpr ⟨Nat.ble_eq.mpr hl, p⟩
noncomputable def iL (l : List Int) : List AV := l.map .int
noncomputable def nL (l : List Nat) : List AV := l.map fun k => .int (Int.ofNat k)
/-! _law_kinds -/
noncomputable def kindG : AV → Option AV
  | .int n => some (.int (1 + n.fmod 15))
  | _ => none
theorem kind_nat (n : Int) : ∃ k : Nat, 1 ≤ k ∧ k ≤ 15 ∧ 1 + n.fmod 15 = Int.ofNat k := by
  have h1 : 0 ≤ n.fmod 15 := Int.fmod_nonneg_of_pos n (by omega)
  have h2 : n.fmod 15 < 15 := Int.fmod_lt_of_pos n (by omega)
  refine ⟨(1 + n.fmod 15).toNat, by omega, by omega, ?_⟩
  show _ = ((1 + n.fmod 15).toNat : Int)
  omega
theorem kinds_map : ∀ ns : List Int, ∃ ks : List Nat, ks.length = ns.length ∧ (∀ k ∈ ks, 1 ≤ k ∧ k ≤ 15) ∧ (iL ns).filterMap kindG = nL ks
  | [] => ⟨[], rfl, by simp, rfl⟩
  | n :: ns => by
    obtain ⟨ks, h1, h2, h3⟩ := kinds_map ns
    obtain ⟨k, h4, h5, h6⟩ := kind_nat n
    refine ⟨k :: ks, by simp [h1], ?_, ?_⟩
    · intro j hj
      rcases List.mem_cons.mp hj with rfl | hj
      · exact ⟨h4, h5⟩
      · exact h2 j hj
    · show List.filterMap kindG (.int n :: iL ns) = .int (Int.ofNat k) :: nL ks
      rw [List.filterMap_cons]
      simp only [kindG]
      rw [h6, h3]
theorem min60 {n m : Nat} (h : n = m) : ∃ k : Nat, k ≤ m ∧ k ≤ 60 ∧ (if (60 : Int) < (n : Int) then 60 else (n : Int)) = (k : Int) := by
  subst h
  by_cases h : (60 : Int) < (n : Int)
  · exact ⟨60, by omega, by omega, if_pos h⟩
  · exact ⟨n, by omega, by omega, if_neg h⟩
theorem rngA1 {b : Int} {xs : List AV} {P : Src → List AV → Prop} (h : rangeA 0 b 1 = some xs) (p : P (.rng 0 1 xs.length) xs) : rngA [.int b] P := by
  unfold rngA
  simp only [h]
  exact p
theorem rng60 : ∀ n < 61, rangeA 0 (n : Nat) 1 = some (intsA 0 1 n) := by decide +kernel
theorem rng_min {b : Int} {m : Nat} (hb : ∃ n : Nat, n ≤ m ∧ n ≤ 60 ∧ b = (n : Int)) {P : Src → List AV → Prop} (p : ∀ n, n ≤ m → n ≤ 60 → P (.rng 0 1 n) (intsA 0 1 n)) : rngA [.int b] P := by
  obtain ⟨n, h1, h2, h3⟩ := hb
  have key : rangeA 0 b 1 = some (intsA 0 1 n) := by rw [h3]; exact rng60 n (by omega)
  refine rngA1 key ?_
  rw [intsA_len]
  exact p n h1 h2
theorem CK_kinds (pg : Prg c) {i : Nat} {o : AO} {sc : List Int} (e : H[i]? = some o) (ho : o.xs = iL sc) :
    CK c (d + 1) (.ref 59) [.ref i] [] H fun v H' => ∃ b ns ks, ks.length = 4 ∧ (∀ k ∈ ks, 1 ≤ k ∧ k ≤ 15) ∧ v = .ref (H.length + 1) ∧ H' = H ++ [⟨true, b, ns⟩, ⟨true, true, nL ks⟩] := by
  refine CK.ofFn pg pg.kinds ⟨rfl, rfl, rfl⟩ cw0_ok fun env kn fm => ?_
  refine MS.cons (M1.of fm 10 ?_)
  refine gd_iff.mpr ⟨rfl, ?_⟩
  show MS _ _ _ _ _ [(25, .ref i), (26, .ref H.length)] (H ++ [⟨true, true, iL [2, 11, 4, 6]⟩]) _
  let l0 : Loc := [(25, .ref i), (26, .ref H.length)]
  let J : Src → List AV → Nat → Loc → AH → Prop := fun S xs k l H1 => (∃ n, n ≤ sc.length ∧ n ≤ 60 ∧ xs = intsA 0 1 n ∧ S = .rng 0 1 n) ∧ (l = l0 ∨ ∃ u, l = [(25, .ref i), (26, .ref H.length), (27, u)]) ∧ ∃ b ns, ns.length = 4 ∧ H1 = H ++ [⟨true, b, iL ns⟩]
  refine MS.cons (M1.fr fm J ?_ ?_ ?_)
  · refine MI.of fm 10 ?_
    have g25 : lget [(25, AV.ref i), (26, .ref H.length)] 25 = some (.ref i) := rfl
    simp only [wIt, wEs, wE, g25]
    refine lat_i (app_lt e) ?_
    refine rng_min (min60 (n := o.xs.length) (m := sc.length) (by rw [ho, iL, List.length_map])) fun n h1 h2 => ?_
    exact ⟨⟨n, h1, h2, rfl, rfl⟩, .inl rfl, true, [2, 11, 4, 6], rfl, rfl⟩
  · rintro S xs k l H1 w ⟨⟨n, h1, h2, rfl, rfl⟩, hl1, b, ns, hns, rfl⟩ hs hk
    have hkn : k < n := by have := (List.getElem?_eq_some_iff.mp hk).1; rwa [intsA_len] at this
    rw [intsA_get 1 n 0 k hkn] at hk
    have hw : w = .int (k : Int) := by
      have h : (0 : Int) + (k : Int) * 1 = (k : Int) := by omega
      rw [h] at hk; exact (Option.some.inj hk).symm
    subst hw
    have hls : lset l 27 (.int (k : Int)) = [(25, .ref i), (26, .ref H.length), (27, .int (k : Int))] := by
      rcases hl1 with rfl | ⟨u, rfl⟩ <;> rfl
    rw [hls]
    obtain ⟨a0, a1, a2, a3, rfl⟩ : ∃ a0 a1 a2 a3, ns = [a0, a1, a2, a3] := by
      match ns, hns with
      | [a0, a1, a2, a3], _ => exact ⟨a0, a1, a2, a3, rfl⟩
    have hm : ∃ j : Nat, j < 4 ∧ (k : Int).fmod 4 = (j : Int) := by
      refine ⟨k % 4, Nat.mod_lt _ (by omega), ?_⟩
      rw [Int.fmod_eq_emod_of_nonneg _ (by omega)]; omega
    obtain ⟨j, hj, hje⟩ := hm
    have hgo : o.xs[k]? = some (.int (sc[k]'(by omega))) := by rw [ho, iL, List.getElem?_map, List.getElem?_eq_getElem (by omega)]; rfl
    refine MS.cons (M1.of fm 10 ?_)
    have g25 : lget [(25, AV.ref i), (26, .ref H.length), (27, .int (k : Int))] 25 = some (.ref i) := rfl
    have g26 : lget [(25, AV.ref i), (26, .ref H.length), (27, .int (k : Int))] 26 = some (.ref H.length) := rfl
    have g27 : lget [(25, AV.ref i), (26, .ref H.length), (27, .int (k : Int))] 27 = some (.int (k : Int)) := rfl
    have hv0 : ∃ a, (iL [a0, a1, a2, a3])[j]? = some (.int a) := by
      rw [iL, List.getElem?_map, List.getElem?_eq_getElem (by simpa using hj)]; exact ⟨_, rfl⟩
    obtain ⟨a, hva⟩ := hv0
    simp only [wS, wE, g25, g26, g27, binA]
    refine gd_iff.mpr ⟨rfl, ?_⟩
    rw [hje]
    refine lat_i (o := ⟨true, b, iL [a0, a1, a2, a3]⟩) (by rw [app_get0]; rfl) (idx_i hva (by omega) ?_)
    refine lat_i (app_lt e) (idx_i hgo (by omega) ?_)
    dsimp only
    refine gd_iff.mpr ⟨rfl, ?_⟩
    simp only [augA]
    refine set_i (o := ⟨true, b, iL [a0, a1, a2, a3]⟩) (by rw [app_get0]; rfl) rfl (by simpa [iL] using hj) ?_
    refine MS.nil ⟨⟨⟨n, h1, h2, rfl, rfl⟩, .inr ⟨_, rfl⟩, false, [a0, a1, a2, a3].set j (a + (sc[k]'(by omega)).fmod 15), by simp, ?_⟩, hs⟩
    rw [app_set]
    simp only [iL, List.map_set]
  · rintro S xs l H1 ⟨⟨n, h1, h2, rfl, rfl⟩, hl1, b, ns, hns, rfl⟩ hs
    refine MS.nil (MS.cons (M1.retC fm 10 (iL ns) kindG (by simp [iL, hns]) ?_ ?_ ?_))
    · have h26 : lget l 26 = some (.ref H.length) := by rcases hl1 with rfl | ⟨u, rfl⟩ <;> rfl
      show (match lget l 26 with | some v => _ | none => False)
      rw [h26]
      show lat (H ++ _) H.length fun o => _
      rw [lat_iff (o := ⟨true, b, iL ns⟩) (by rw [app_get0]; rfl)]
      exact ⟨rfl, rfl⟩
    · intro w hw
      obtain ⟨n, _, rfl⟩ := List.mem_map.mp hw
      exact gd_iff.mpr ⟨rfl, rfl, rfl⟩
    · obtain ⟨ks, g1, g2, g3⟩ := kinds_map ns
      refine ⟨b, iL ns, ks, g1.trans hns, g2, ?_, ?_⟩
      · simp
      · rw [g3]; simp
end
end Mine
namespace Mine
section
variable {c : Cx} {d : Nat} {H : AH} {cw : CW}
theorem ite_t {p q c : Prop} [Decidable c] (h : c) (x : p) : if c then p else q := by rw [if_pos h]; exact x
theorem ite_f {p q c : Prop} [Decidable c] (h : ¬ c) (x : q) : if c then p else q := by rw [if_neg h]; exact x
/-! bisect_right, with the length as key -/
noncomputable def lenAt (H : AH) (r : Nat) : Nat := (H[r]?.map fun o => o.xs.length).getD 0
structure Rows (H : AH) (i : Nat) (rs : List Nat) : Prop where
  at_ : ∃ o, H[i]? = some o ∧ o.xs = rs.map .ref
  el : ∀ r ∈ rs, ∃ o, H[r]? = some o
  few : rs.length ≤ 100
  ord : rs.Pairwise fun r r' => lenAt H r ≤ lenAt H r'
noncomputable def cwZ : CW := fun f as ks H P => gd (Nat.beq f 78) (match as, ks with | [.ref j], [] => lat H j fun o => P (.int o.xs.length) H | _, _ => False)
theorem cwZ_ok (pg : Prg c) : CwOk c (d + 1) cwZ := by
  intro f as ks H P h
  obtain ⟨h1, h'⟩ := gd_iff.mp h
  clear h
  have e78 : f = 78 := Nat.eq_of_beq_eq_true h1
  rw [e78]
  revert h'
  intro h
  split at h
  · obtain ⟨o, e, h⟩ := lat_of h
    refine CK.mono (CK_size pg e) fun v H' q => ?_
    obtain ⟨rfl, rfl⟩ := q
    exact h
  · exact h.elim
theorem mid_eq (lo hi : Nat) : ((lo : Int) + (hi : Int)).fdiv 2 = (((lo + hi) / 2 : Nat) : Int) := by
  rw [Int.fdiv_eq_ediv_of_nonneg _ (by omega)]; omega
theorem Rows.get {i : Nat} {rs : List Nat} (h : Rows H i rs) {j : Nat} (hj : j < rs.length) : ∃ o, H[rs[j]]? = some o ∧ lenAt H rs[j] = o.xs.length := by
  obtain ⟨o, e⟩ := h.el rs[j] (List.getElem_mem hj)
  exact ⟨o, e, by unfold lenAt; rw [e]; rfl⟩
theorem Rows.le {i : Nat} {rs : List Nat} (h : Rows H i rs) {j k : Nat} (hjk : j ≤ k) (hk : k < rs.length) : lenAt H (rs[j]'(by omega)) ≤ lenAt H rs[k] := by
  rcases Nat.lt_or_ge j k with hlt | hge
  · exact List.pairwise_iff_getElem.mp h.ord j k (by omega) hk hlt
  · have : j = k := by omega
    subst this
    exact Nat.le_refl _
noncomputable def biL (i : Nat) (x : Int) (lo hi : Int) (t : Loc) : Loc := (4, .ref i) :: (5, .int x) :: (6, .int lo) :: (7, .int hi) :: (8, .fn 78) :: t
structure BiPost (H : AH) (rs : List Nat) (x : Int) (p : Nat) : Prop where
  le : p ≤ rs.length
  low : ∀ j (hj : j < rs.length), j < p → (lenAt H rs[j] : Int) ≤ x
  high : ∀ j (hj : j < rs.length), p ≤ j → x < (lenAt H rs[j] : Int)
theorem CK_bisect (pg : Prg c) {i : Nat} {x : Int} {rs : List Nat} (hr : Rows H i rs) {as : List AV} {ks : List (Str × AV)} (hB : BKey as ks [(4, .ref i), (5, .int x), (6, .int 0), (7, .none), (8, .fn 78)]) :
    CK c (d + 2) (.ref 40) as ks H fun v H' => H' = H ∧ ∃ p : Nat, v = .int (p : Int) ∧ BiPost H rs x p := by
  obtain ⟨o, ho, hox⟩ := hr.at_
  refine CK.ofFn pg pg.bisect hB (cwZ_ok pg) fun env kn fm => ?_
  have hlen : o.xs.length = rs.length := by rw [hox, List.length_map]
  refine MS.cons (M1.ite (MT.of fm 10 ?_))
  have a6 : lget [(4, AV.ref i), (5, .int x), (6, .int 0), (7, .none), (8, .fn 78)] 6 = some (.int 0) := rfl
  have a7 : lget [(4, AV.ref i), (5, .int x), (6, .int 0), (7, .none), (8, .fn 78)] 7 = some .none := rfl
  have a4 : lget [(4, AV.ref i), (5, .int x), (6, .int 0), (7, .none), (8, .fn 78)] 4 = some (.ref i) := rfl
  simp only [wT, wE, a6, cmpA]
  refine ite_f (by simp) ?_
  refine MS.nil (MS.cons (M1.ite (MT.of fm 10 ?_)))
  simp only [wT, wE, a7, cmpA, isNone]
  refine ite_t (by simp) ?_
  refine MS.cons (M1.of fm 10 ?_)
  simp only [wS, wE, a4]
  refine lat_i ho ?_
  rw [hlen]
  refine MS.nil ?_
  show MS c (d + 1) env kn _ (biL i x 0 rs.length []) H _
  refine MS.cons (M1.ite (MT.of fm 10 ?_))
  have a8 : ∀ lo hi t, lget (biL i x lo hi t) 8 = some (.fn 78) := fun _ _ _ => rfl
  have b6 : ∀ lo hi t, lget (biL i x lo hi t) 6 = some (.int lo) := fun _ _ _ => rfl
  have b7 : ∀ lo hi t, lget (biL i x lo hi t) 7 = some (.int hi) := fun _ _ _ => rfl
  have b5 : ∀ lo hi t, lget (biL i x lo hi t) 5 = some (.int x) := fun _ _ _ => rfl
  have b4 : ∀ lo hi t, lget (biL i x lo hi t) 4 = some (.ref i) := fun _ _ _ => rfl
  have b9 : ∀ lo hi w, lget (biL i x lo hi [(9, w)]) 9 = some w := fun _ _ _ => rfl
  simp only [wT, wE, a8, cmpA, isNone]
  refine ite_f (by simp) ?_
  let J : Nat → Loc → AH → Prop := fun m l H1 => H1 = H ∧ ∃ (lo hi : Nat) (t : Loc), (t = [] ∨ ∃ w, t = [(9, w)]) ∧ l = biL i x lo hi t ∧ lo ≤ hi ∧ hi ≤ rs.length ∧ m = hi - lo ∧ (∀ j (hj : j < rs.length), j < lo → (lenAt H rs[j] : Int) ≤ x) ∧ (∀ j (hj : j < rs.length), hi ≤ j → x < (lenAt H rs[j] : Int))
  refine MS.cons (M1.whl J rs.length ?_ ?_)
  · exact ⟨rfl, 0, rs.length, [], .inl rfl, rfl, by omega, by omega, by omega, fun j hj h => by omega, fun j hj h => by omega⟩
  · rintro m l H1 ⟨rfl, lo, hi, t, ht, rfl, h1, h2, rfl, h3, h4⟩
    refine MT.of fm 10 ?_
    simp only [wT, wE, b6, b7, cmpA]
    by_cases hlt : lo < hi
    · refine ite_t (by simpa using hlt) ?_
      have hmid : (lo + hi) / 2 < rs.length := by omega
      have hls : lset (biL i x lo hi t) 9 (.int (((lo + hi) / 2 : Nat) : Int)) = biL i x lo hi [(9, .int (((lo + hi) / 2 : Nat) : Int))] := by
        rcases ht with rfl | ⟨w, rfl⟩ <;> rfl
      refine MS.cons (M1.of fm 10 ?_)
      simp only [wS, wE, b6, b7, binA]
      refine gd_iff.mpr ⟨rfl, ?_⟩
      rw [mid_eq, hls]
      obtain ⟨om, hom, hlm⟩ := hr.get hmid
      refine MS.cons (M1.ite (MT.of fm 10 ?_))
      simp only [wT, wE, wEs, b5, b4, a8, b9]
      refine gd_iff.mpr ⟨rfl, lat_i ho (idx_i (v := .ref rs[(lo + hi) / 2]) (by rw [hox, List.getElem?_map, List.getElem?_eq_getElem hmid]; rfl) (by have := hr.few; omega) ?_)⟩
      refine gd_iff.mpr ⟨rfl, ?_⟩
      refine lat_i hom ?_
      simp only [cmpA]
      rw [← hlm]
      by_cases hx : x < (lenAt H1 rs[(lo + hi) / 2] : Int)
      · refine ite_t (by simpa using hx) ?_
        refine MS.cons (M1.of fm 10 ?_)
        simp only [wS, wE, b9]
        refine MS.nil (MS.nil ⟨(lo + hi) / 2 - lo, by omega, rfl, lo, (lo + hi) / 2, _, .inr ⟨_, rfl⟩, rfl, by omega, by omega, rfl, h3, fun j hj hje => ?_⟩)
        have := hr.le hje hj
        omega
      · refine ite_f (by simpa using hx) ?_
        refine MS.cons (M1.of fm 10 ?_)
        simp only [wS, wE, b9, binA]
        refine MS.nil (MS.nil ⟨hi - ((lo + hi) / 2 + 1), by omega, rfl, (lo + hi) / 2 + 1, hi, _, .inr ⟨_, rfl⟩, rfl, by omega, by omega, rfl, fun j hj hje => ?_, h4⟩)
        have := hr.le (show j ≤ (lo + hi) / 2 by omega) hmid
        omega
    · refine ite_f (by simpa using hlt) ?_
      refine MS.nil (MS.cons (M1.of fm 10 ?_))
      simp only [wS, wE, b6]
      have : lo = hi := by omega
      subst this
      exact ⟨rfl, lo, rfl, h2, h3, h4⟩
end
end Mine
namespace Mine
section
variable {c : Cx} {d : Nat} {H : AH} {cw : CW}
/-- calls as they are -/
noncomputable def cwU (c : Cx) (d : Nat) : CW := fun f as ks H P => CK c d (.ref f) as ks H P
theorem cwU_ok : CwOk c d (cwU c d) := fun _ _ _ _ _ h => h
theorem lenAt_set {i r : Nat} {o : AO} (h : r ≠ i) : lenAt (H.set i o) r = lenAt H r := by
  unfold lenAt
  rw [List.getElem?_set_ne (fun e => h e.symm)]
theorem mem_take_len {rs : List Nat} {x : Int} {p : Nat} (h : BiPost H rs x p) {r : Nat} (hr : r ∈ rs.take p) : (lenAt H r : Int) ≤ x := by
  obtain ⟨j, hj, rfl⟩ := List.mem_iff_getElem.mp hr
  rw [List.getElem_take]
  rw [List.length_take] at hj
  exact h.low j (by omega) (by omega)
theorem mem_drop_len {rs : List Nat} {x : Int} {p : Nat} (h : BiPost H rs x p) {r : Nat} (hr : r ∈ rs.drop p) : x < (lenAt H r : Int) := by
  obtain ⟨j, hj, rfl⟩ := List.mem_iff_getElem.mp hr
  rw [List.getElem_drop]
  rw [List.length_drop] at hj
  exact h.high (p + j) (by omega) (by omega)
noncomputable def insL (rs : List Nat) (p r : Nat) : List Nat := rs.take p ++ r :: rs.drop p
theorem insL_perm (rs : List Nat) (p r : Nat) : (insL rs p r).Perm (r :: rs) := by
  unfold insL
  exact (List.perm_middle).trans (List.Perm.cons _ (by rw [List.take_append_drop]))
theorem Rows.ins {i : Nat} {rs : List Nat} (hr : Rows H i rs) {r p : Nat} {o : AO} (ho : H[r]? = some o) (hp : BiPost H rs (o.xs.length : Int) p) (hri : r ≠ i) (hi : i ∉ rs) (hf : rs.length ≤ 99) :
    Rows (H.set i ⟨true, true, (insL rs p r).map .ref⟩) i (insL rs p r) := by
  have hil : i < H.length := by obtain ⟨o, e, _⟩ := hr.at_; exact (List.getElem?_eq_some_iff.mp e).1
  have hm : ∀ q ∈ insL rs p r, q ≠ i := by
    intro q hq
    rcases List.mem_cons.mp ((insL_perm rs p r).mem_iff.mp hq) with rfl | hq
    · exact hri
    · rintro rfl; exact hi hq
  have hlr : lenAt H r = o.xs.length := by unfold lenAt; rw [ho]; rfl
  refine ⟨⟨_, List.getElem?_set_self hil, rfl⟩, fun q hq => ?_, ?_, ?_⟩
  · rw [List.getElem?_set_ne (fun e => hm q hq e.symm)]
    rcases List.mem_cons.mp ((insL_perm rs p r).mem_iff.mp hq) with rfl | hq
    · exact ⟨o, ho⟩
    · exact hr.el q hq
  · rw [(insL_perm rs p r).length_eq]; simp; omega
  · have h0 : (insL rs p r).Pairwise fun a b => lenAt H a ≤ lenAt H b := by
      unfold insL
      rw [List.pairwise_append, List.pairwise_cons]
      refine ⟨hr.ord.sublist (List.take_sublist _ _), ⟨fun b hb => ?_, hr.ord.sublist (List.drop_sublist _ _)⟩, fun a ha b hb => ?_⟩
      · have := mem_drop_len hp hb; omega
      · have h1 := mem_take_len hp ha
        rcases List.mem_cons.mp hb with rfl | hb
        · omega
        · have := mem_drop_len hp hb; omega
    refine List.Pairwise.imp_of_mem (fun ha hb h => ?_) h0
    rw [lenAt_set (hm _ ha), lenAt_set (hm _ hb)]
    exact h
theorem CK_insort (pg : Prg c) {i r : Nat} {rs : List Nat} {o : AO} (hr : Rows H i rs) (hH : H[i]? = some ⟨true, true, rs.map .ref⟩) (ho : H[r]? = some o) (hri : r ≠ i) (hi : i ∉ rs) (hf : rs.length ≤ 99) :
    CK c (d + 3) (.ref 31) [.ref i, .ref r] [(keyS, .fn 78)] H fun v H' => v = .none ∧ ∃ rs', rs'.Perm (r :: rs) ∧ Rows H' i rs' ∧ H' = H.set i ⟨true, true, rs'.map .ref⟩ := by
  refine CK.ofFn pg pg.insort (BKey.two _ _ _) (cwU_ok (d := d + 2)) fun env kn fm => ?_
  let l0 : Loc := [(4, AV.ref i), (5, .ref r), (6, .int 0), (7, .none), (8, .fn 78)]
  have a4 : lget [(4, AV.ref i), (5, .ref r), (6, .int 0), (7, .none), (8, .fn 78)] 4 = some (.ref i) := rfl
  have a5 : lget [(4, AV.ref i), (5, .ref r), (6, .int 0), (7, .none), (8, .fn 78)] 5 = some (.ref r) := rfl
  have a6 : lget [(4, AV.ref i), (5, .ref r), (6, .int 0), (7, .none), (8, .fn 78)] 6 = some (.int 0) := rfl
  have a7 : lget [(4, AV.ref i), (5, .ref r), (6, .int 0), (7, .none), (8, .fn 78)] 7 = some .none := rfl
  have a8 : lget [(4, AV.ref i), (5, .ref r), (6, .int 0), (7, .none), (8, .fn 78)] 8 = some (.fn 78) := rfl
  refine MS.cons (M1.ite (MT.of fm 10 ?_))
  simp only [wT, wE, a8, cmpA, isNone]
  refine ite_f (by simp) ?_
  refine MS.cons (M1.of fm 10 ?_)
  have g2 : gL[2]? = some ("bisect_right", .fn 40) := rfl
  simp only [wS, wE, wEs, a4, a5, a6, a7, a8, g2]
  refine gd_iff.mpr ⟨rfl, gd_iff.mpr ⟨rfl, ?_⟩⟩
  refine CK.mono (CK_size (d := d + 1) pg ho) fun v H' q => ?_
  obtain ⟨rfl, rfl⟩ := q
  refine CK.mono (CK_bisect (d := d) pg hr (BKey.four _ _ _ _ _)) fun v H' q => ?_
  obtain ⟨rfl, p, rfl, hp⟩ := q
  refine MS.nil (MS.cons (M1.of fm 10 ?_))
  have b4 : lget [(4, AV.ref i), (5, .ref r), (6, .int (p : Int)), (7, .none), (8, .fn 78)] 4 = some (.ref i) := rfl
  have b5 : lget [(4, AV.ref i), (5, .ref r), (6, .int (p : Int)), (7, .none), (8, .fn 78)] 5 = some (.ref r) := rfl
  have b6 : lget [(4, AV.ref i), (5, .ref r), (6, .int (p : Int)), (7, .none), (8, .fn 78)] 6 = some (.int (p : Int)) := rfl
  have hls : lset [(4, AV.ref i), (5, .ref r), (6, .int 0), (7, .none), (8, .fn 78)] 6 (.int (p : Int)) = [(4, AV.ref i), (5, .ref r), (6, .int (p : Int)), (7, .none), (8, .fn 78)] := rfl
  rw [hls]
  simp only [wS, wE, wEs, b4, b5, b6]
  refine lat_i hH (gd_iff.mpr ⟨rfl, lat_i hH ?_⟩)
  have hple := hp.le
  refine gd_iff.mpr ⟨by simp; omega, MS.nil ?_⟩
  refine ⟨rfl, insL rs p r, insL_perm rs p r, ?_⟩
  have hx : (List.map AV.ref rs).take (p : Int).toNat ++ .ref r :: (List.map AV.ref rs).drop (p : Int).toNat = (insL rs p r).map .ref := by
    simp [insL, List.map_take, List.map_drop]
  rw [hx]
  exact ⟨Rows.ins hr ho hp hri hi hf, rfl⟩
end
end Mine
namespace Mine
section
variable {c : Cx} {d : Nat} {H : AH} {cw : CW}
/-! _law_stops: the orders -/
noncomputable def insAll (x : Nat) (p : List Nat) : List (List Nat) := (List.range (p.length + 1)).map fun g => p.take g ++ x :: p.drop g
noncomputable def perms : List (List Nat) := (((([[]] : List (List Nat)).flatMap (insAll 1)).flatMap (insAll 2)).flatMap (insAll 4)).flatMap (insAll 8)
noncomputable def okRs (H : AH) : List AV → List (List Nat) → Bool
  | [], [] => true
  | .ref r :: xs, p :: ps => (match H[r]? with | some o => decide (o.xs = nL p) | none => false) && okRs H xs ps
  | _, _ => false
noncomputable def chkO (l : Loc) (H : AH) : Bool :=
  match l with
  | [(a, .ref i), (b, .ref j), (c, v)] => Nat.beq a 29 && Nat.beq i 2 && Nat.beq b 30 && Nat.beq c 3 && decide (v = .int 8) && (match H[j]? with | some o => okRs H o.xs perms | none => false)
  | _ => false
noncomputable def stA (o0 o1 o2 : AO) : Prop := wIt cw0 60 (.seq (.lst [.ci 1, .ci 2, .ci 4, .ci 8])) [(29, .ref 2), (30, .ref 4)] ([o0, o1, o2] ++ [⟨true, true, []⟩, ⟨true, true, [.ref 3]⟩]) fun S xs H1 =>
  wFC2 cw0 60 3 30 [3] 31 (.seq (.var 30)) 32 (.rng [.bin .Add (.len (.var 31)) (.ci 1)]) (.bin .Add (.bin .Add (.slt (.var 31) (.var 32)) (.lst [.var 3])) (.slf (.var 31) (.var 32))) S xs xs [(29, .ref 2), (30, .ref 4)] H1 fun l H2 => (chkO l H2 = true) ∧ H2.take 3 = [o0, o1, o2]
theorem stA_is (o0 o1 o2 : AO) : (Tt ∧ [o0, o1, o2] = [o0, o1, o2]) = stA o0 o1 o2 := by kernel_rfl!
end
end Mine
namespace Mine
section
variable {c : Cx} {d : Nat} {H : AH} {cw : CW}
theorem CB.toCK {f : Value} {as : List AV} {P : AV → AH → Prop} (h : CB c d f as H P) : CK c d f as [] H P := fun A hA s ρ vals kv hH hv h1 _ => by
  have hkv : kv = [] := by cases kv with | nil => rfl | cons => simp at h1
  subst hkv
  exact h A hA s ρ vals hH hv
/-! _law_stops: the rest -/
noncomputable def hitB (ks : List Nat) (x : Nat) : Bool := ks.any fun k => Nat.beq (k &&& x) k
noncomputable def heldF (T : Nat → Bool) : Nat → List Nat → Nat
  | h, [] => h
  | h, x :: r => if T (h + x) then h + x else heldF T (h + x) r
noncomputable def stF (T : Nat → Bool) : List (List Nat) → List Int → List Int
  | [], st => st
  | p :: r, st => stF T r (st.set (heldF T 0 p) (st.getD (heldF T 0 p) 0 + 1))
theorem heldF_le (T : Nat → Bool) : ∀ (p : List Nat) (h : Nat), heldF T h p ≤ h + p.sum
  | [], h => by simp [heldF]
  | x :: r, h => by
    unfold heldF
    have := heldF_le T r (h + x)
    rw [List.sum_cons]
    split <;> omega
theorem bitAnd15 : ∀ a < 16, ∀ b < 16, Builtin.bitAnd (Int.ofNat a) (Int.ofNat b) = Int.ofNat (a &&& b) := by decide +kernel
noncomputable def anyG (h : Nat) : AV → Option AV
  | .int k => if Builtin.bitAnd k (Int.ofNat h) == k then some (.int k) else none
  | _ => none
theorem anyG_hit {h : Nat} (hh : h < 16) : ∀ {ks : List Nat}, (∀ k ∈ ks, 1 ≤ k ∧ k ≤ 15) → (!((nL ks).filterMap (anyG h)).isEmpty) = hitB ks h
  | [], _ => rfl
  | k :: ks, hk => by
    have ih := anyG_hit hh (ks := ks) fun j hj => hk j (List.mem_cons_of_mem _ hj)
    have h1 := hk k List.mem_cons_self
    have h2 := bitAnd15 k (by omega) h hh
    show (!((.int (Int.ofNat k) :: nL ks).filterMap (anyG h)).isEmpty) = _
    rw [List.filterMap_cons]
    simp only [anyG, h2]
    unfold hitB at ih ⊢
    rw [List.any_cons, ← ih]
    by_cases e : k &&& h = k
    · have e1 : (Int.ofNat (k &&& h) == Int.ofNat k) = true := by rw [e]; simp
      have e2 : Nat.beq (k &&& h) k = true := by rw [e]; exact Nat.beq_refl k
      rw [e1, e2]; rfl
    · have e1 : (Int.ofNat (k &&& h) == Int.ofNat k) = false := by
        rw [beq_eq_false_iff_ne]; intro q; exact e (Int.ofNat.inj q)
      have e2 : Nat.beq (k &&& h) k = false := by
        cases q : Nat.beq (k &&& h) k with
        | false => rfl
        | true => exact absurd (Nat.eq_of_beq_eq_true q) e
      rw [e1, e2]; rfl
theorem anyG_flat {h : Nat} : ∀ xs : List AV, (xs.filterMap (anyG h)).all flatA = true := by
  intro xs
  rw [List.all_eq_true]
  intro y hy
  obtain ⟨x, _, hx⟩ := List.mem_filterMap.mp hy
  cases x with
  | int k =>
    simp only [anyG] at hx
    split at hx
    · cases hx; rfl
    · cases hx
  | _ => simp [anyG] at hx
noncomputable def sB (j b : Nat) (t : Loc) : Loc := (29, .ref 2) :: (30, .ref j) :: (3, .int 8) :: (33, .ref b) :: t
noncomputable def tails (t : Loc) : Prop := t = [] ∨ ∃ u, t = [(35, u)]
variable {env : Env} {kn : KS}
/-- the walk along one order -/
theorem M1.walk (fm : Fm c d env kn cw0) {ks p : List Nat} {j b r : Nat} {o2 o : AO} {t : Loc} {P : AFl → Loc → AH → Prop} (ht : tails t) (h2 : H[2]? = some o2) (h2x : o2.xs = nL ks) (hks : ∀ k ∈ ks, 1 ≤ k ∧ k ≤ 15) (hkl : ks.length ≤ 10)
    (ho : H[r]? = some o) (hox : o.xs = nL p) (hsum : p.sum ≤ 15)
    (q : ∀ t, tails t → P .next (sB j b ((31, .ref r) :: (34, .int (Int.ofNat (heldF (hitB ks) 0 p))) :: t)) H) :
    M1 c d env kn (.fr 35 (.seq (.var 31)) [.aug 34 .Add (.var 35), .ite (.anyC [34] 36 (.seq (.var 29)) (.cmp .Eq (.bin .BitAnd (.var 36) (.var 34)) (.var 36)) (.var 36)) [.brk] []] []) (sB j b ((31, .ref r) :: (34, .int 0) :: t)) H P := by
  let J : Src → List AV → Nat → Loc → AH → Prop := fun S xs k l H1 => S = .lst r ∧ xs = nL p ∧ H1 = H ∧ ∃ (h : Nat) (t : Loc), tails t ∧ l = sB j b ((31, .ref r) :: (34, .int (Int.ofNat h)) :: t) ∧ h + (p.drop k).sum ≤ 15 ∧ heldF (hitB ks) h (p.drop k) = heldF (hitB ks) 0 p
  refine M1.fr fm J ?_ ?_ ?_
  · refine MI.of fm 10 ?_
    have g31 : lget (sB j b ((31, .ref r) :: (34, .int 0) :: t)) 31 = some (.ref r) := rfl
    simp only [wIt, wE, g31]
    exact lat_i ho ⟨rfl, hox, rfl, 0, t, ht, rfl, by simpa using hsum, rfl⟩
  · rintro S xs k l H1 w ⟨rfl, rfl, rfl, h, t, ht, rfl, hs, hh⟩ hsrc hk
    obtain ⟨x, hx, rfl⟩ : ∃ x, p[k]? = some x ∧ w = .int (Int.ofNat x) := by
      rw [nL, List.getElem?_map] at hk
      cases e : p[k]? with
      | none => rw [e] at hk; cases hk
      | some x => rw [e] at hk; exact ⟨x, rfl, (Option.some.inj hk).symm⟩
    obtain ⟨hkl', hxe⟩ := List.getElem?_eq_some_iff.mp hx
    have hd : p.drop k = x :: p.drop (k + 1) := by rw [List.drop_eq_getElem_cons hkl', hxe]
    rw [hd] at hs hh
    rw [List.sum_cons] at hs
    have hls : lset (sB j b ((31, .ref r) :: (34, .int (Int.ofNat h)) :: t)) 35 (.int (Int.ofNat x)) = sB j b ((31, .ref r) :: (34, .int (Int.ofNat h)) :: [(35, .int (Int.ofNat x))]) := by
      rcases ht with rfl | ⟨u, rfl⟩ <;> rfl
    rw [hls]
    have g34 : lget (sB j b ((31, .ref r) :: (34, .int (Int.ofNat h)) :: [(35, .int (Int.ofNat x))])) 34 = some (.int (Int.ofNat h)) := rfl
    have g35 : lget (sB j b ((31, .ref r) :: (34, .int (Int.ofNat h)) :: [(35, .int (Int.ofNat x))])) 35 = some (.int (Int.ofNat x)) := rfl
    refine MS.cons (M1.of fm 10 ?_)
    simp only [wS, wE, g34, g35, augA]
    have hadd : Int.ofNat h + Int.ofNat x = Int.ofNat (h + x) := rfl
    rw [hadd]
    show MS c d env kn _ (sB j b ((31, .ref r) :: (34, .int (Int.ofNat (h + x))) :: [(35, .int (Int.ofNat x))])) H1 _
    refine MS.cons (M1.ite (MT.cut (MT.anyC fm 10 (nL ks) (anyG (h + x)) (by simp [nL]; omega) (anyG_flat _) ?_ ?_ ?_)))
    · have g29 : lget (sB j b ((31, .ref r) :: (34, .int (Int.ofNat (h + x))) :: [(35, .int (Int.ofNat x))])) 29 = some (.ref 2) := rfl
      simp only [wIt, wE, g29]
      exact lat_i h2 ⟨h2x, by trivial⟩
    · intro w hw
      obtain ⟨k', _, rfl⟩ := List.mem_map.mp hw
      have hcap : lset (capL [34] (sB j b ((31, .ref r) :: (34, .int (Int.ofNat (h + x))) :: [(35, .int (Int.ofNat x))]))) 36 (.int (Int.ofNat k')) = [(34, .int (Int.ofNat (h + x))), (36, .int (Int.ofNat k'))] := rfl
      rw [hcap]
      have g34' : lget [(34, AV.int (Int.ofNat (h + x))), (36, .int (Int.ofNat k'))] 34 = some (.int (Int.ofNat (h + x))) := rfl
      have g36' : lget [(34, AV.int (Int.ofNat (h + x))), (36, .int (Int.ofNat k'))] 36 = some (.int (Int.ofNat k')) := rfl
      simp only [CompT, wT, wE, g34', g36', binA, cmpA, anyG]
      cases e : (Builtin.bitAnd (Int.ofNat k') (Int.ofNat (h + x)) == Int.ofNat k') with
      | true => simp
      | false => simp
    · refine ⟨CutH.app _, ?_⟩
      rw [List.take_left, anyG_hit (by omega) hks]
      cases hT : hitB ks (h + x) with
      | true =>
        refine ite_t rfl (MS.cons (M1.of fm 10 ?_))
        simp only [wS]
        have e : heldF (hitB ks) 0 p = h + x := by rw [← hh]; unfold heldF; rw [hT]; rfl
        have := q [(35, .int (Int.ofNat x))] (.inr ⟨_, rfl⟩)
        rw [e] at this
        exact this
      | false =>
        refine ite_f (by simp) (MS.nil (MS.nil ⟨⟨rfl, rfl, rfl, h + x, _, .inr ⟨_, rfl⟩, rfl, by omega, ?_⟩, hsrc⟩))
        rw [← hh]
        conv => rhs; unfold heldF
        rw [hT]; rfl
  · rintro S xs l H1 ⟨rfl, rfl, rfl, h, t, ht, rfl, hs, hh⟩ hsrc
    have : (nL p).length = p.length := by simp [nL]
    rw [this, List.drop_length] at hh
    refine MS.nil ?_
    have e : heldF (hitB ks) 0 p = h := hh.symm
    have := q t ht
    rw [e] at this
    exact this
end
end Mine
namespace Mine
section
variable {c : Cx} {d : Nat} {H : AH} {cw : CW}
theorem okRs_get {H : AH} : ∀ {xs : List AV} {ps : List (List Nat)}, okRs H xs ps = true → xs.length = ps.length ∧ ∀ (k : Nat) (w : AV), xs[k]? = some w → ∃ r p o, w = .ref r ∧ ps[k]? = some p ∧ H[r]? = some o ∧ o.xs = nL p
  | [], [], _ => ⟨rfl, fun k w e => by simp at e⟩
  | .ref r :: xs, p :: ps, h => by
    simp only [okRs, Bool.and_eq_true] at h
    obtain ⟨h1, h2⟩ := h
    obtain ⟨i1, i2⟩ := okRs_get h2
    refine ⟨by simp [i1], fun k w e => ?_⟩
    match k with
    | 0 =>
      simp at e
      subst e
      cases e : H[r]? with
      | none => rw [e] at h1; cases h1
      | some o => rw [e] at h1; exact ⟨r, p, o, rfl, rfl, e, of_decide_eq_true h1⟩
    | k + 1 => exact i2 k w (by simpa using e)
  | [], _ :: _, h => by simp [okRs] at h
  | .none :: _, _, h => by simp [okRs] at h
  | .bool _ :: _, _, h => by simp [okRs] at h
  | .int _ :: _, _, h => by simp [okRs] at h
  | .sym _ :: _, _, h => by simp [okRs] at h
  | .fn _ :: _, _, h => by simp [okRs] at h
  | .ref _ :: _, [], h => by simp [okRs] at h
theorem chkO_get {l : Loc} {H : AH} (h : chkO l H = true) : ∃ j o, l = [(29, .ref 2), (30, .ref j), (3, .int 8)] ∧ H[j]? = some o ∧ okRs H o.xs perms = true := by
  unfold chkO at h
  split at h
  · rename_i a i b j c v
    simp only [Bool.and_eq_true, decide_eq_true_eq] at h
    obtain ⟨⟨⟨⟨⟨h1, h2⟩, h3⟩, h4⟩, h5⟩, h6⟩ := h
    have := Nat.eq_of_beq_eq_true h1
    have := Nat.eq_of_beq_eq_true h2
    have := Nat.eq_of_beq_eq_true h3
    have := Nat.eq_of_beq_eq_true h4
    subst a i b c v
    cases e : H[j]? with
    | none => rw [e] at h6; cases h6
    | some o => rw [e] at h6; exact ⟨j, o, rfl, e, h6⟩
  · cases h
theorem perms_sum : ∀ p ∈ perms, p.sum ≤ 15 := by decide +kernel
noncomputable def tl2 (t : Loc) : Prop := t = [] ∨ ∃ w h t', tails t' ∧ t = (31, w) :: (34, h) :: t'
noncomputable def zeros : List Int := List.replicate 16 0
theorem stF_len (T : Nat → Bool) : ∀ (ps : List (List Nat)) (st : List Int), (stF T ps st).length = st.length
  | [], _ => rfl
  | p :: r, st => by unfold stF; rw [stF_len T r]; simp
inductive Shut (q : Prop) : Prop
  | mk (h : q)
theorem Shut.out {q : Prop} : Shut q → q
  | ⟨h⟩ => h
theorem Shut.of {a : AH} {q : Prop} (h : (Tt ∧ a = a) = q) : Shut q := ⟨Eq.mp h ⟨rfl, rfl⟩⟩
theorem stA_ok (o0 o1 o2 : AO) : Shut (stA o0 o1 o2) := Shut.of (stA_is o0 o1 o2)
theorem M1.frC2' {env : Env} {kn : KS} {loc : Loc} (fm : Fm c d env kn cw) {z y : Nat} {cap : List Nat} {v v1 : Nat} {it0 it it1 : It} {elt : E} {P : AFl → Loc → AH → Prop} (n : Nat)
    (h : Shut (wIt cw n it0 loc H fun S xs H1 => wFC2 cw n z y cap v it v1 it1 elt S xs xs loc H1 (P .next))) : M1 c d env kn (.fr z it0 [.asgC2 y cap v it v1 it1 elt] []) loc H P := M1.frC2 fm n h.out
theorem stF_cons (T : Nat → Bool) (p : List Nat) (r : List (List Nat)) (st : List Int) : stF T (p :: r) st = stF T r (st.set (heldF T 0 p) (st.getD (heldF T 0 p) 0 + 1)) := rfl
theorem MS_orders {env : Env} {kn : KS} (fm : Fm c d env kn cw0) {o0 o1 o2 : AO} {rest : List S} {P : AFl → Loc → AH → Prop}
    (h : ∀ j o H2, H2[j]? = some o → okRs H2 o.xs perms = true → H2.take 3 = [o0, o1, o2] → MS c d env kn rest [(29, .ref 2), (30, .ref j), (3, .int 8)] H2 P) :
    MS c d env kn (.asg 30 (.lst [.lst []]) :: .fr 3 (.seq (.lst [.ci 1, .ci 2, .ci 4, .ci 8])) [.asgC2 30 [3] 31 (.seq (.var 30)) 32 (.rng [.bin .Add (.len (.var 31)) (.ci 1)]) (.bin .Add (.bin .Add (.slt (.var 31) (.var 32)) (.lst [.var 3])) (.slf (.var 31) (.var 32)))] [] :: rest) [(29, .ref 2)] [o0, o1, o2] P := by
  refine MS.cons (M1.of fm 10 ?_)
  simp only [wS, wE, wEs]
  refine new_i (by simp) (new_i (by simp) ?_)
  show MS c d env kn _ [(29, .ref 2), (30, .ref 4)] ([o0, o1, o2] ++ [⟨true, true, []⟩, ⟨true, true, [.ref 3]⟩]) P
  refine MS.cons (M1.mono (M1.frC2' fm 60 (P := fun a l H2 => match a with | .next => (chkO l H2 = true) ∧ H2.take 3 = [o0, o1, o2] | _ => False) ?_) fun a l H2 q => ?_)
  · exact stA_ok o0 o1 o2
  · cases a with
    | next =>
      obtain ⟨j, o, rfl, h1, h2⟩ := chkO_get q.1
      exact h j o H2 h1 h2 q.2
    | brk => exact q.elim
    | cont => exact q.elim
    | ret v => exact q.elim
theorem CK_stops (pg : Prg c) {o0 o1 o2 : AO} {ks : List Nat} (h2x : o2.xs = nL ks) (hks : ∀ k ∈ ks, 1 ≤ k ∧ k ≤ 15) (hkl : ks.length ≤ 10) :
    CK c (d + 1) (.ref 64) [.ref 2] [] [o0, o1, o2] fun v H' => ∃ G b, v = .ref (3 + G.length) ∧ H' = [o0, o1, o2] ++ G ++ [⟨true, b, iL (stF (hitB ks) perms zeros)⟩] := by
  obtain ⟨fd, body, fs⟩ := pg.stops
  refine CB.toCK (CB_fnC pg.ok fs.fo fs.lt fs.bind fs.loc fun L => ?_)
  have fm : Fm c d (callEnvC fd L 64) fd.scope.names cw0 := ⟨pg.ok, pg.gk, fs.ek L, cw0_ok⟩
  suffices hms : MS c d (callEnvC fd L 64) fd.scope.names b_stops [(29, .ref 2)] [o0, o1, o2] (PRet fun v H' => ∃ G b, v = .ref (3 + G.length) ∧ H' = [o0, o1, o2] ++ G ++ [⟨true, b, iL (stF (hitB ks) perms zeros)⟩]) from hms 200 body fs.ok
  refine MS_orders fm fun j o H2 hj hrs htk => ?_
  obtain ⟨G, rfl⟩ : ∃ G, H2 = [o0, o1, o2] ++ G := ⟨H2.drop 3, by rw [← htk, List.take_append_drop]⟩
  obtain ⟨hlen, hget⟩ := okRs_get hrs
  refine MS.cons (M1.of fm 10 ?_)
  simp only [wS, wE, wEs]
  refine new_i (by simp) ?_
  simp only [binA]
  refine lat_i (o := ⟨true, true, [.int 0]⟩) (by rw [app_get0]; rfl) (gd_iff.mpr ⟨rfl, new_i (by decide) ?_⟩)
  generalize hB : [o0, o1, o2] ++ G ++ [({ w := true, p := true, xs := [.int 0] } : AO)] = HB at *
  have hz : (List.replicate (16 : Int).toNat [AV.int 0]).flatten = iL zeros := rfl
  rw [hz]
  show MS c d _ _ _ (sB j HB.length []) (HB ++ [⟨true, true, iL zeros⟩]) _
  have hBj : HB[j]? = some o := by rw [← hB]; exact app_lt hj
  have hB2 : HB[2]? = some o2 := by rw [← hB]; rfl
  let J : Src → List AV → Nat → Loc → AH → Prop := fun S xs k l H1 => S = .lst j ∧ xs = o.xs ∧ (∃ t, tl2 t ∧ l = sB j HB.length t) ∧ ∃ bb st, st.length = 16 ∧ H1 = HB ++ [⟨true, bb, iL st⟩] ∧ stF (hitB ks) (perms.drop k) st = stF (hitB ks) perms zeros
  refine MS.cons (M1.fr fm J ?_ ?_ ?_)
  · refine MI.of fm 10 ?_
    have g30 : lget (sB j HB.length []) 30 = some (.ref j) := rfl
    simp only [wIt, wE, g30]
    exact lat_i (app_lt hBj) ⟨rfl, rfl, ⟨[], .inl rfl, rfl⟩, true, zeros, rfl, rfl, rfl⟩
  · rintro S xs k l H1 w ⟨rfl, rfl, ⟨t, ht, rfl⟩, bb, st, hst, rfl, hF⟩ hsrc hk
    obtain ⟨r, p, or, rfl, hp, hor, horx⟩ := hget k w hk
    obtain ⟨hkp, hpe⟩ := List.getElem?_eq_some_iff.mp hp
    have hdp : perms.drop k = p :: perms.drop (k + 1) := by rw [List.drop_eq_getElem_cons hkp, hpe]
    rw [hdp, stF_cons] at hF
    have hsum : p.sum ≤ 15 := perms_sum p (List.mem_of_getElem? hp)
    have hBr : HB[r]? = some or := by rw [← hB]; exact app_lt hor
    obtain ⟨t', ht', hls⟩ : ∃ t', tails t' ∧ lset (lset (sB j HB.length t) 31 (.ref r)) 34 (.int 0) = sB j HB.length ((31, .ref r) :: (34, .int 0) :: t') := by
      rcases ht with rfl | ⟨w, h, t', ht', rfl⟩
      · exact ⟨[], .inl rfl, rfl⟩
      · exact ⟨t', ht', rfl⟩
    refine MS.cons (M1.of fm 10 ?_)
    simp only [wS, wE]
    rw [hls]
    refine MS.cons (M1.walk fm ht' (app_lt hB2) h2x hks hkl (app_lt hBr) horx hsum fun t'' ht'' => ?_)
    have hh := heldF_le (hitB ks) p 0
    generalize heldF (hitB ks) 0 p = h at *
    refine MS.cons (M1.of fm 10 ?_)
    have g33 : lget (sB j HB.length ((31, .ref r) :: (34, .int (Int.ofNat h)) :: t'')) 33 = some (.ref HB.length) := rfl
    have g34 : lget (sB j HB.length ((31, .ref r) :: (34, .int (Int.ofNat h)) :: t'')) 34 = some (.int (Int.ofNat h)) := rfl
    simp only [wS, wE, g33, g34]
    have hl16 : h < st.length := by omega
    refine lat_i (o := ⟨true, bb, iL st⟩) (by rw [app_get0]; rfl) (idx_i (j := h) (v := .int (st.getD h 0)) ?_ (by omega) ?_)
    · show (iL st)[h]? = _
      rw [iL, List.getElem?_map, List.getElem?_eq_getElem hl16, List.getD_eq_getElem?_getD, List.getElem?_eq_getElem hl16]
      rfl
    · simp only [augA]
      refine set_i (j := h) (o := ⟨true, bb, iL st⟩) (by rw [app_get0]; rfl) rfl (by simpa [iL] using hl16) ?_
      rw [app_set]
      have hset : (iL st).set h (.int (st.getD h 0 + 1)) = iL (st.set h (st.getD h 0 + 1)) := by simp [iL, List.map_set]
      refine MS.nil ⟨⟨rfl, rfl, ⟨_, .inr ⟨_, _, _, ht'', rfl⟩, rfl⟩, false, st.set h (st.getD h 0 + 1), by simpa using hst, ?_, ?_⟩, ?_⟩
      · rw [← hset]
      · exact hF
      · show ((HB ++ _)[j]?).map AO.xs = some o.xs
        rw [app_lt hBj]; rfl
  · rintro S xs l H1 ⟨rfl, rfl, ⟨t, ht, rfl⟩, bb, st, hst, rfl, hF⟩ hsrc
    rw [hlen, List.drop_length] at hF
    refine MS.nil (MS.cons (M1.of fm 10 ?_))
    have g33 : lget (sB j HB.length t) 33 = some (.ref HB.length) := rfl
    simp only [wS, wE, g33]
    refine ⟨G ++ [⟨true, true, [.int 0]⟩], bb, ?_, ?_⟩
    · rw [← hB]; simp; omega
    · rw [← hF, ← hB]; simp [stF]
end
end Mine
namespace Mine
/-! ## the plain law -/
noncomputable def bitsOf (x : Nat) : List Nat := l4.filter fun i => x.testBit i
noncomputable def factN : Nat → Int
  | 0 => 1 | 1 => 1 | 2 => 2 | 3 => 6 | _ => 0
/-- what is told of x, by the hits alone -/
noncomputable def toldT (T : Nat → Bool) (x : Nat) : Int :=
  if T x then (((bitsOf x).filter fun i => !T (x - 2 ^ i)).length : Int) * factA ((bitsOf x).length - 1) * factA (4 - (bitsOf x).length) else 0
noncomputable def tabT (l : List Bool) : Nat → Bool := fun x => l.getD x false
noncomputable def goodT (l : List Bool) : Bool := l15.all fun x => decide ((stF (tabT l) perms zeros).getD x 0 = toldT (tabT l) x)
noncomputable def allB (f : Bool → Bool) : Bool := f true && f false
theorem allB_of {f : Bool → Bool} (h : allB f = true) (b : Bool) : f b = true := by
  simp only [allB, Bool.and_eq_true] at h
  cases b
  · exact h.2
  · exact h.1
noncomputable def imp (a b : Bool) : Bool := !a || b
theorem imp_of {a b : Bool} (h : imp a b = true) (ha : a = true) : b = true := by subst ha; simpa [imp] using h
/-- up: whatever is bound below stays bound -/
noncomputable def up2 (a b c : Bool) : Bool := imp a c && imp b c
noncomputable def up3 (a b c e : Bool) : Bool := imp a e && (imp b e && imp c e)
noncomputable def ag7 (t1 t2 t4 t8 t3 t5 t6 : Bool) : Bool :=
  allB fun t9 => imp (up2 t1 t8 t9) <| allB fun t10 => imp (up2 t2 t8 t10) <| allB fun t12 => imp (up2 t4 t8 t12) <|
  allB fun t7 => imp (up3 t3 t5 t6 t7) <| allB fun t11 => imp (up3 t3 t9 t10 t11) <| allB fun t13 => imp (up3 t5 t9 t12 t13) <| allB fun t14 => imp (up3 t6 t10 t12 t14) <|
  allB fun t15 => imp (imp t7 t15 && up3 t11 t13 t14 t15) <| imp t15 <| goodT [false, t1, t2, t3, t4, t5, t6, t7, t8, t9, t10, t11, t12, t13, t14, t15]
noncomputable def ag4 (t1 t2 t4 t8 : Bool) : Bool :=
  allB fun t3 => imp (up2 t1 t2 t3) <| allB fun t5 => imp (up2 t1 t4 t5) <| allB fun t6 => imp (up2 t2 t4 t6) <| ag7 t1 t2 t4 t8 t3 t5 t6
theorem allB_i {f : Bool → Bool} (h : f true = true) (h' : f false = true) : allB f = true := by unfold allB; rw [h, h']; rfl
theorem imp_i {a b : Bool} (h : b = true) : imp a b = true := by unfold imp; rw [h]; cases a <;> rfl
theorem ag0_000 : ag7 false false false false false false false = true := by kernel_rfl!
theorem ag0_100 : ag7 false false false false true false false = true := by kernel_rfl!
theorem ag0_010 : ag7 false false false false false true false = true := by kernel_rfl!
theorem ag0_110 : ag7 false false false false true true false = true := by kernel_rfl!
theorem ag0_001 : ag7 false false false false false false true = true := by kernel_rfl!
theorem ag0_101 : ag7 false false false false true false true = true := by kernel_rfl!
theorem ag0_011 : ag7 false false false false false true true = true := by kernel_rfl!
theorem ag0_111 : ag7 false false false false true true true = true := by kernel_rfl!
theorem ag_0000 : ag4 false false false false = true := by
  unfold ag4
  exact (allB_i (imp_i (allB_i (imp_i (allB_i (imp_i ag0_111) (imp_i ag0_110))) (imp_i (allB_i (imp_i ag0_101) (imp_i ag0_100))))) (imp_i (allB_i (imp_i (allB_i (imp_i ag0_011) (imp_i ag0_010))) (imp_i (allB_i (imp_i ag0_001) (imp_i ag0_000))))))
theorem ag_0001 : ag4 false false false true = true := by kernel_rfl!
theorem ag_0010 : ag4 false false true false = true := by kernel_rfl!
theorem ag_0011 : ag4 false false true true = true := by kernel_rfl!
theorem ag_0100 : ag4 false true false false = true := by kernel_rfl!
theorem ag_0101 : ag4 false true false true = true := by kernel_rfl!
theorem ag_0110 : ag4 false true true false = true := by kernel_rfl!
theorem ag_0111 : ag4 false true true true = true := by kernel_rfl!
theorem ag_1000 : ag4 true false false false = true := by kernel_rfl!
theorem ag_1001 : ag4 true false false true = true := by kernel_rfl!
theorem ag_1010 : ag4 true false true false = true := by kernel_rfl!
theorem ag_1011 : ag4 true false true true = true := by kernel_rfl!
theorem ag_1100 : ag4 true true false false = true := by kernel_rfl!
theorem ag_1101 : ag4 true true false true = true := by kernel_rfl!
theorem ag_1110 : ag4 true true true false = true := by kernel_rfl!
theorem ag_1111 : ag4 true true true true = true := by kernel_rfl!
theorem agAll (t1 t2 t4 t8 : Bool) : ag4 t1 t2 t4 t8 = true := by
  cases t1 <;> cases t2 <;> cases t4 <;> cases t8
  · exact ag_0000
  · exact ag_0001
  · exact ag_0010
  · exact ag_0011
  · exact ag_0100
  · exact ag_0101
  · exact ag_0110
  · exact ag_0111
  · exact ag_1000
  · exact ag_1001
  · exact ag_1010
  · exact ag_1011
  · exact ag_1100
  · exact ag_1101
  · exact ag_1110
  · exact ag_1111
theorem heldF_congr {T T' : Nat → Bool} (hT : ∀ x ≤ 15, T x = T' x) : ∀ (p : List Nat) (h : Nat), h + p.sum ≤ 15 → heldF T h p = heldF T' h p
  | [], _, _ => rfl
  | x :: r, h, hs => by
    rw [List.sum_cons] at hs
    unfold heldF
    rw [hT (h + x) (by omega), heldF_congr hT r (h + x) (by omega)]
theorem stF_congr {T T' : Nat → Bool} (hT : ∀ x ≤ 15, T x = T' x) : ∀ (ps : List (List Nat)) (st : List Int), (∀ p ∈ ps, p.sum ≤ 15) → stF T ps st = stF T' ps st
  | [], _, _ => rfl
  | p :: r, st, hp => by
    unfold stF
    rw [heldF_congr hT p 0 (by have := hp p List.mem_cons_self; omega), stF_congr hT r _ fun q hq => hp q (List.mem_cons_of_mem _ hq)]
theorem toldT_congr {T T' : Nat → Bool} (hT : ∀ x ≤ 15, T x = T' x) {x : Nat} (hx : x ≤ 15) : toldT T x = toldT T' x := by
  unfold toldT
  rw [hT x hx]
  have : ((bitsOf x).filter fun i => !T (x - 2 ^ i)) = (bitsOf x).filter fun i => !T' (x - 2 ^ i) := List.filter_congr fun i _ => by rw [hT (x - 2 ^ i) (Nat.le_trans (Nat.sub_le _ _) hx)]
  rw [this]
theorem stops_told {T : Nat → Bool} (h0 : T 0 = false) (h15 : T 15 = true) (mono : ∀ a b, a ≤ 15 → b ≤ 15 → Nat.beq (a &&& b) a = true → T a = true → T b = true) {x : Nat} (h1 : 1 ≤ x) (h2 : x ≤ 15) :
    (stF T perms zeros).getD x 0 = toldT T x := by
  let l : List Bool := [false, T 1, T 2, T 3, T 4, T 5, T 6, T 7, T 8, T 9, T 10, T 11, T 12, T 13, T 14, T 15]
  have hT : ∀ x ≤ 15, T x = tabT l x := by
    intro x hx
    have : x ∈ List.range 16 := List.mem_range.mpr (by omega)
    match x, hx with
    | 0, _ => exact h0
    | 1, _ | 2, _ | 3, _ | 4, _ | 5, _ | 6, _ | 7, _ | 8, _ | 9, _ | 10, _ | 11, _ | 12, _ | 13, _ | 14, _ | 15, _ => rfl
    | n + 16, h => omega
  have m : ∀ a b, a ≤ 15 → b ≤ 15 → Nat.beq (a &&& b) a = true → imp (T a) (T b) = true := by
    intro a b ha hb hab
    cases e : T a with
    | false => rfl
    | true => rw [mono a b ha hb hab e]; rfl
  have u2 : ∀ a b c, a ≤ 15 → b ≤ 15 → c ≤ 15 → Nat.beq (a &&& c) a = true → Nat.beq (b &&& c) b = true → up2 (T a) (T b) (T c) = true := by
    intro a b c ha hb hc h1 h2
    unfold up2
    rw [m a c ha hc h1, m b c hb hc h2]; rfl
  have u3 : ∀ a b c e, a ≤ 15 → b ≤ 15 → c ≤ 15 → e ≤ 15 → Nat.beq (a &&& e) a = true → Nat.beq (b &&& e) b = true → Nat.beq (c &&& e) c = true → up3 (T a) (T b) (T c) (T e) = true := by
    intro a b c e ha hb hc he h1 h2 h3
    unfold up3
    rw [m a e ha he h1, m b e hb he h2, m c e hc he h3]; rfl
  have g := agAll (T 1) (T 2) (T 4) (T 8)
  unfold ag4 at g
  have g := imp_of (allB_of g (T 3)) (u2 1 2 3 (by decide) (by decide) (by decide) rfl rfl)
  have g := imp_of (allB_of g (T 5)) (u2 1 4 5 (by decide) (by decide) (by decide) rfl rfl)
  have g := imp_of (allB_of g (T 6)) (u2 2 4 6 (by decide) (by decide) (by decide) rfl rfl)
  unfold ag7 at g
  have g := imp_of (allB_of g (T 9)) (u2 1 8 9 (by decide) (by decide) (by decide) rfl rfl)
  have g := imp_of (allB_of g (T 10)) (u2 2 8 10 (by decide) (by decide) (by decide) rfl rfl)
  have g := imp_of (allB_of g (T 12)) (u2 4 8 12 (by decide) (by decide) (by decide) rfl rfl)
  have g := imp_of (allB_of g (T 7)) (u3 3 5 6 7 (by decide) (by decide) (by decide) (by decide) rfl rfl rfl)
  have g := imp_of (allB_of g (T 11)) (u3 3 9 10 11 (by decide) (by decide) (by decide) (by decide) rfl rfl rfl)
  have g := imp_of (allB_of g (T 13)) (u3 5 9 12 13 (by decide) (by decide) (by decide) (by decide) rfl rfl rfl)
  have g := imp_of (allB_of g (T 14)) (u3 6 10 12 14 (by decide) (by decide) (by decide) (by decide) rfl rfl rfl)
  have g := imp_of (imp_of (allB_of g (T 15)) (by rw [m 7 15 (by decide) (by decide) rfl, u3 11 13 14 15 (by decide) (by decide) (by decide) (by decide) rfl rfl rfl]; rfl)) h15
  have g : goodT l = true := g
  unfold goodT at g
  have g := List.all_eq_true.mp g x (mem15 h1 h2)
  rw [stF_congr hT perms zeros perms_sum, toldT_congr hT h2]
  exact of_decide_eq_true g
end Mine
namespace Mine
section
variable {c : Cx} {d : Nat} {H : AH} {cw : CW}
/-! ## the told number, by rows -/
noncomputable def inRow (w : AV) (q : Nat) : Bool := (rowL q).any fun y => avEq y w
noncomputable def keepW (qs : List Nat) (x : Nat) (w : AV) : Bool := qs.all fun q => !subB q x || inRow w q
theorem point : ∀ q < 16, ∀ x < 16, ∀ i ∈ bitsOf x, (!subB q x || inRow (.sym i) q) = !Nat.beq (q &&& (x - 2 ^ i)) q := by decide +kernel
theorem keep_hit {ks : List Nat} (hks : ∀ k ∈ ks, 1 ≤ k ∧ k ≤ 15) {x i : Nat} (hx : x ≤ 15) (hi : i ∈ bitsOf x) : keepW ks x (.sym i) = !hitB ks (x - 2 ^ i) := by
  unfold keepW hitB
  induction ks with
  | nil => rfl
  | cons q r ih =>
    have h1 := hks q List.mem_cons_self
    rw [List.all_cons, List.any_cons, ih fun k hk => hks k (List.mem_cons_of_mem _ hk), point q (by omega) x (by omega) i hi, Bool.not_or]
theorem keep_len {ks : List Nat} (hks : ∀ k ∈ ks, 1 ≤ k ∧ k ≤ 15) {x : Nat} (hx : x ≤ 15) : ((rowL x).filter (keepW ks x)).length = ((bitsOf x).filter fun i => !hitB ks (x - 2 ^ i)).length := by
  have h1 : (rowL x).filter (keepW ks x) = ((bitsOf x).filter (keepW ks x ∘ AV.sym)).map .sym := by
    show ((bitsOf x).map AV.sym).filter (keepW ks x) = _
    rw [List.filter_map]
  rw [h1, List.length_map]
  congr 1
  exact List.filter_congr fun i hi => keep_hit hks hx hi
theorem hit_mono (ks : List Nat) : ∀ a b, a ≤ 15 → b ≤ 15 → Nat.beq (a &&& b) a = true → hitB ks a = true → hitB ks b = true := by
  intro a b _ _ hab h
  unfold hitB at h ⊢
  rw [List.any_eq_true] at h ⊢
  obtain ⟨k, hk, e⟩ := h
  refine ⟨k, hk, ?_⟩
  have e1 := Nat.eq_of_beq_eq_true e
  have e2 := Nat.eq_of_beq_eq_true hab
  have : k &&& b = k := by rw [← e1, Nat.and_assoc, e2]
  rw [this]; exact Nat.beq_refl k
theorem hit_zero {ks : List Nat} (hks : ∀ k ∈ ks, 1 ≤ k ∧ k ≤ 15) : hitB ks 0 = false := by
  unfold hitB
  rw [List.any_eq_false]
  intro k hk h
  have e := Nat.eq_of_beq_eq_true h
  have := hks k hk
  rw [Nat.and_zero] at e; omega
theorem hit_full {ks : List Nat} (hks : ∀ k ∈ ks, 1 ≤ k ∧ k ≤ 15) (hn : ks ≠ []) : hitB ks 15 = true := by
  have key : ∀ k < 16, Nat.beq (k &&& 15) k = true := by decide +kernel
  cases ks with
  | nil => exact absurd rfl hn
  | cons k r =>
    have := hks k List.mem_cons_self
    unfold hitB
    rw [List.any_cons, key k (by omega), Bool.true_or]
noncomputable def toldK (ks : List Nat) (x : Nat) : Int := if hitB ks x then (((rowL x).filter (keepW ks x)).length : Int) * factA (siz x - 1) * factA (4 - siz x) else 0
theorem told_is {ks : List Nat} (hks : ∀ k ∈ ks, 1 ≤ k ∧ k ≤ 15) (hn : ks ≠ []) {x : Nat} (h1 : 1 ≤ x) (h2 : x ≤ 15) : (stF (hitB ks) perms zeros).getD x 0 = toldK ks x := by
  rw [stops_told (hit_zero hks) (hit_full hks hn) (hit_mono ks) h1 h2]
  unfold toldT toldK
  rw [keep_len hks h2]
  have : siz x = (bitsOf x).length := by unfold siz rowL bitsOf; rw [List.length_map]
  rw [this]
/-! ## the shelf -/
structure Shelf (H : AH) (I : Nat) (rs : List Nat) (f : Nat → Nat) (ks : List Nat) : Prop where
  rows : Rows H I rs
  con : ∀ r ∈ rs, H[r]? = some ⟨true, true, rowL (f r)⟩ ∧ f r ∈ ks
  cov : ∀ q ∈ ks, ∃ r ∈ rs, f r = q
theorem lenAt_app {G : AH} {r : Nat} {o : AO} (e : H[r]? = some o) : lenAt (H ++ G) r = lenAt H r := by
  unfold lenAt; rw [app_lt e, e]
theorem Rows.app {I : Nat} {rs : List Nat} (h : Rows H I rs) (G : AH) : Rows (H ++ G) I rs := by
  obtain ⟨o, h1, h2⟩ := h.at_
  refine ⟨⟨o, app_lt h1, h2⟩, fun r hr => ?_, h.few, ?_⟩
  · obtain ⟨o, e⟩ := h.el r hr
    exact ⟨o, app_lt e⟩
  · refine List.Pairwise.imp_of_mem (fun ha hb h' => ?_) h.ord
    obtain ⟨o, e⟩ := h.el _ ha
    obtain ⟨o', e'⟩ := h.el _ hb
    rw [lenAt_app e, lenAt_app e']
    exact h'
theorem Shelf.app {I : Nat} {rs : List Nat} {f : Nat → Nat} {ks : List Nat} (h : Shelf H I rs f ks) (G : AH) : Shelf (H ++ G) I rs f ks :=
  ⟨h.rows.app G, fun r hr => ⟨app_lt (h.con r hr).1, (h.con r hr).2⟩, h.cov⟩
theorem sub_siz : ∀ q < 16, ∀ x < 16, subB q x = true → siz q ≤ siz x := by decide +kernel
/-- the rows of the slice answer for all -/
theorem slice_hit {I : Nat} {rs : List Nat} {f : Nat → Nat} {ks : List Nat} (h : Shelf H I rs f ks) (hks : ∀ k ∈ ks, 1 ≤ k ∧ k ≤ 15) {x p : Nat} (hx : x ≤ 15) (hp : BiPost H rs (siz x : Int) p) {q : Nat} (hs : subB q x = true) : q ∈ ks ↔ q ∈ (rs.take p).map f := by
  constructor
  · intro hq
    obtain ⟨r, hr, rfl⟩ := h.cov q hq
    refine List.mem_map.mpr ⟨r, ?_, rfl⟩
    have h1 := hks _ hq
    have h2 := sub_siz (f r) (by omega) x (by omega) hs
    obtain ⟨j, hj, rfl⟩ := List.mem_iff_getElem.mp hr
    by_cases hjp : j < p
    · exact List.mem_iff_getElem.mpr ⟨j, by rw [List.length_take]; omega, by rw [List.getElem_take]⟩
    · have h3 := hp.high j hj (by omega)
      have h4 : lenAt H rs[j] = siz (f rs[j]) := by unfold lenAt; rw [(h.con _ hr).1]; rfl
      rw [h4] at h3; omega
  · intro hq
    obtain ⟨r, hr, rfl⟩ := List.mem_map.mp hq
    exact (h.con r (List.mem_of_mem_take hr)).2
theorem any_slice {qs ks : List Nat} {x : Nat} (h : ∀ q, subB q x = true → (q ∈ ks ↔ q ∈ qs)) : (qs.any fun q => subB q x) = hitB ks x := by
  rw [Bool.eq_iff_iff]
  unfold hitB
  rw [List.any_eq_true, List.any_eq_true]
  constructor
  · rintro ⟨q, hq, hs⟩; exact ⟨q, (h q hs).mpr hq, hs⟩
  · rintro ⟨q, hq, hs⟩; exact ⟨q, (h q hs).mp hq, hs⟩
theorem keep_slice {qs ks : List Nat} {x : Nat} (h : ∀ q, subB q x = true → (q ∈ ks ↔ q ∈ qs)) : keepW qs x = keepW ks x := by
  funext w
  rw [Bool.eq_iff_iff]
  unfold keepW
  rw [List.all_eq_true, List.all_eq_true]
  have key : ∀ l l' : List Nat, (∀ q, subB q x = true → q ∈ l' → q ∈ l) → (∀ q ∈ l, (!subB q x || inRow w q) = true) → ∀ q ∈ l', (!subB q x || inRow w q) = true := by
    intro l l' hl hh q hq
    cases e : subB q x with
    | false => rfl
    | true => have := hh q (hl q e hq); rw [e] at this; exact this
  exact ⟨key qs ks fun q hs hq => (h q hs).mp hq, key ks qs fun q hs hq => (h q hs).mpr hq⟩
end
end Mine
namespace Mine
section
variable {c : Cx} {d : Nat} {H : AH} {env : Env} {kn : KS}
/-! ## the loop over the slice -/
noncomputable def Same (l l' : Loc) : Prop := ∀ y, y ≠ 16 → y ≠ 45 → y ≠ 44 → y ≠ 43 → lget l' y = lget l y
theorem gl1 : gL[1]? = some ("insort_right", .fn 31) := rfl
theorem gl2 : gL[2]? = some ("bisect_right", .fn 40) := rfl
theorem gl4 : gL[4]? = some ("_levenshtein_distance", .fn 54) := rfl
theorem gl7 : gL[7]? = some ("_law_orders", .fn 71) := rfl
theorem gl8 : gL[8]? = some ("_law_size", .fn 78) := rfl
noncomputable def innerBody : List S := [.asg 45 (.bin .Mult (.ci 2) (.bin .Sub (.var 37) (.len (.var 16)))), .ite (.cmp .Eq (.call (.glob 4) [.var 16, .var 40, .var 45]) (.var 45)) [.aug 44 .Add (.ci 1), .asgC 43 [16] 46 (.seq (.var 43)) (.cmp .In (.var 46) (.var 16)) (.var 46)] []]
noncomputable def keepG (q : Nat) : AV → Option AV := fun w => if inRow w q then some w else none
theorem fm_keep (q : Nat) (xs : List AV) : xs.filterMap (keepG q) = xs.filter fun w => inRow w q := by
  unfold keepG
  induction xs with
  | nil => rfl
  | cons x r ih =>
    rw [List.filterMap_cons, List.filter_cons]
    cases e : inRow x q with
    | true => simp only [if_true]; rw [ih]
    | false => simp only [Bool.false_eq_true, if_false]; rw [ih]
theorem row_flat (q : Nat) : (rowL q).all flatA = true := by
  rw [List.all_eq_true]
  intro y hy
  obtain ⟨i, _, rfl⟩ := List.mem_map.mp hy
  rfl
theorem keepW_snoc (qs : List Nat) (q x : Nat) (w : AV) : keepW (qs ++ [q]) x w = (keepW qs x w && (!subB q x || inRow w q)) := by
  unfold keepW; rw [List.all_append]; simp
theorem M1.inner (pg : Prg c) (fm : Fm c (d + 2) env kn (cwU c (d + 2))) {I wd x : Nat} {rs ks : List Nat} {f : Nat → Nat} {loc : Loc} {P : AFl → Loc → AH → Prop} (hS : Shelf H I rs f ks) (hks : ∀ k ∈ ks, 1 ≤ k ∧ k ≤ 15) (h1 : 1 ≤ x) (h2 : x ≤ 15)
    (hw : H[wd]? = some ⟨true, true, rowL x⟩) (hwr : wd ∉ rs) (g41 : lget loc 41 = some (.ref I)) (g37 : lget loc 37 = some (.int (Int.ofNat (siz x)))) (g40 : lget loc 40 = some (.ref wd)) (g43 : lget loc 43 = some (.ref wd)) (g44 : lget loc 44 = some (.int 0))
    (q : ∀ l' G n s, Same loc l' → lget l' 44 = some (.int (Int.ofNat n)) → (decide (0 < n) = hitB ks x) → lget l' 43 = some (.ref s) → (H ++ G)[s]? = some ⟨true, true, (rowL x).filter (keepW ks x)⟩ → P .next l' (H ++ G)) :
    M1 c (d + 2) env kn (.fr 16 (.seq (.slt (.var 41) (.callk (.glob 2) [.var 41, .var 37] (.glob 8)))) innerBody []) loc H P := by
  obtain ⟨oI, hI, hIx⟩ := hS.rows.at_
  have hx15 : x ∈ l15 := mem15 h1 h2
  let qs : Nat → Nat → List Nat := fun p k => ((rs.take p).take k).map f
  let J : Src → List AV → Nat → Loc → AH → Prop := fun S xs k l H1 => ∃ p sid G n s, BiPost H rs (siz x : Int) p ∧ S = .lst sid ∧ xs = (rs.take p).map .ref ∧ H1 = H ++ G ∧ Same loc l ∧ lget l 44 = some (.int (Int.ofNat n)) ∧
    decide (0 < n) = ((qs p k).any fun q => subB q x) ∧ lget l 43 = some (.ref s) ∧ H1[s]? = some ⟨true, true, (rowL x).filter (keepW (qs p k) x)⟩
  refine M1.fr fm J ?_ ?_ ?_
  · refine MI.of fm 10 ?_
    simp only [wIt, wE, wEs, g41, g37, gl2, gl8]
    refine gd_iff.mpr ⟨rfl, ?_⟩
    refine CK.mono (CK_bisect (d := d) pg hS.rows (BKey.two _ _ _)) fun v H' hq => ?_
    obtain ⟨rfl, p, rfl, hp⟩ := hq
    simp only [partA]
    refine lat_i hI (new_i ?_ ?_)
    · have := hS.rows.few
      simp only [cutL, hIx, List.length_take, List.length_drop, List.length_map]; omega
    · refine lat_i (o := ⟨true, true, cutL oI.xs none (some (p : Int))⟩) (by rw [app_get0]; rfl) ?_
      have hcut : cutL oI.xs none (some (p : Int)) = (rs.take p).map .ref := by
        have hc : clipL oI.xs.length (p : Int) = p := by
          have := hp.le
          rw [hIx, List.length_map]; unfold clipL; omega
        simp only [cutL, Option.elim]
        rw [hc, hIx, Nat.sub_zero, List.drop_zero, List.map_take]
      rw [hcut]
      refine ⟨p, H'.length, _, 0, wd, hp, rfl, rfl, rfl, fun _ _ _ _ _ => rfl, g44, by simp [qs], g43, ?_⟩
      rw [app_lt hw]
      have : (rowL x).filter (keepW (qs p 0) x) = rowL x := by
        rw [List.filter_eq_self]; intro a _; simp [qs, keepW]
      rw [this]
  · rintro S xs k l H1 w ⟨p, sid, G, n, s, hp, rfl, rfl, rfl, hsm, l44, hn, l43, hs⟩ hsrc hk
    obtain ⟨r, hr, rfl⟩ : ∃ r, (rs.take p)[k]? = some r ∧ w = .ref r := by
      rw [List.getElem?_map] at hk
      cases e : (rs.take p)[k]? with
      | none => rw [e] at hk; cases hk
      | some r => rw [e] at hk; exact ⟨r, rfl, (Option.some.inj hk).symm⟩
    have hrm : r ∈ rs.take p := List.mem_of_getElem? hr
    have hrs : r ∈ rs := List.mem_of_mem_take hrm
    obtain ⟨hc1, hc2⟩ := hS.con r hrs
    have hq := hks _ hc2
    have hqs : qs p (k + 1) = qs p k ++ [f r] := by
      simp only [qs]; rw [List.take_add_one, hr]; simp
    have hlr : lenAt H r = siz (f r) := by unfold lenAt; rw [hc1]; rfl
    have hsz : siz (f r) ≤ siz x := by have := mem_take_len hp hrm; rw [hlr] at this; omega
    have hrw : r ≠ wd := by rintro rfl; exact hwr hrs
    have a37 : lget (lset l 16 (.ref r)) 37 = some (.int (Int.ofNat (siz x))) := by rw [lget_lset, if_neg (by decide), hsm 37 (by decide) (by decide) (by decide) (by decide)]; exact g37
    have a16 : lget (lset l 16 (.ref r)) 16 = some (.ref r) := by rw [lget_lset, if_pos rfl]
    refine MS.cons (M1.of fm 10 ?_)
    simp only [wS, wE, a37, a16]
    refine lat_i (app_lt hc1) ?_
    simp only [binA]
    refine gd_iff.mpr ⟨rfl, ?_⟩
    have hdue : (2 : Int) * (Int.ofNat (siz x) - ((rowL (f r)).length : Int)) = dueA (f r) x := rfl
    rw [hdue]
    generalize hl2 : lset (lset l 16 (.ref r)) 45 (.int (dueA (f r) x)) = l2
    have b16 : lget l2 16 = some (.ref r) := by rw [← hl2, lget_lset, if_neg (by decide)]; exact a16
    have b45 : lget l2 45 = some (.int (dueA (f r) x)) := by rw [← hl2, lget_lset, if_pos rfl]
    have b40 : lget l2 40 = some (.ref wd) := by rw [← hl2, lget_lset, if_neg (by decide), lget_lset, if_neg (by decide), hsm 40 (by decide) (by decide) (by decide) (by decide)]; exact g40
    have b44 : lget l2 44 = some (.int (Int.ofNat n)) := by rw [← hl2, lget_lset, if_neg (by decide), lget_lset, if_neg (by decide)]; exact l44
    have b43 : lget l2 43 = some (.ref s) := by rw [← hl2, lget_lset, if_neg (by decide), lget_lset, if_neg (by decide)]; exact l43
    have bsm : Same loc l2 := by
      intro y y1 y2 y3 y4
      rw [← hl2, lget_lset, if_neg (Ne.symm y2), lget_lset, if_neg (Ne.symm y1)]
      exact hsm y y1 y2 y3 y4
    refine MS.cons (M1.ite (MT.of fm 10 ?_))
    simp only [wT, wE, wEs, b16, b45, b40, gl4]
    refine gd_iff.mpr ⟨rfl, ?_⟩
    refine CK.mono (CK_lev (d := d) pg (mem15 hq.1 hq.2) hx15 hsz hrw (app_lt hc1) (app_lt hw)) fun v H' hv => ?_
    obtain ⟨hv, rfl⟩ := hv
    cases v with
    | int y =>
      simp only [cmpA]
      simp only [levQ] at hv
      cases hsub : subB (f r) x with
      | true =>
        rw [hsub] at hv
        have hy : y = dueA (f r) x := of_decide_eq_true (by simpa using hv)
        refine ite_t (by simp [hy]) ?_
        refine MS.cons (M1.of fm 10 ?_)
        simp only [wS, wE, b44, augA]
        generalize hl3 : lset l2 44 (.int (Int.ofNat n + 1)) = l3
        have c16 : lget l3 16 = some (.ref r) := by rw [← hl3, lget_lset, if_neg (by decide)]; exact b16
        have c43 : lget l3 43 = some (.ref s) := by rw [← hl3, lget_lset, if_neg (by decide)]; exact b43
        have c44 : lget l3 44 = some (.int (Int.ofNat (n + 1))) := by rw [← hl3, lget_lset, if_pos rfl]; rfl
        refine MS.cons (M1.asgC fm 10 ((rowL x).filter (keepW (qs p k) x)) (keepG (f r)) ?_ ?_ ?_ ?_)
        · refine Nat.le_trans (List.length_filter_le _ _) ?_
          have : ∀ x ∈ l15, (rowL x).length ≤ 4 := by decide +kernel
          have := this x hx15
          omega
        · simp only [wIt, wE, c43]
          exact lat_i hs ⟨rfl, by trivial⟩
        · intro w hw'
          have hw2 := (List.mem_filter.mp hw').1
          obtain ⟨i, _, rfl⟩ := List.mem_map.mp hw2
          have hcap : lset (capL [16] l3) 46 (.sym i) = [(16, .ref r), (46, .sym i)] := by simp only [capL, c16]; rfl
          rw [hcap]
          have d16 : lget [(16, AV.ref r), (46, .sym i)] 16 = some (.ref r) := rfl
          have d46 : lget [(16, AV.ref r), (46, .sym i)] 46 = some (.sym i) := rfl
          simp only [CompT, wT, wE, d16, d46, cmpA]
          refine lat_i (app_lt hc1) (gd_iff.mpr ⟨row_flat _, ?_⟩)
          show if inRow (.sym i) (f r) = true then _ else _
          unfold keepG
          cases e : inRow (.sym i) (f r) with
          | true => simp
          | false => simp
        · refine MS.nil (MS.nil ⟨⟨p, sid, G ++ [⟨true, true, _⟩], n + 1, (H ++ G).length, hp, rfl, rfl, by rw [List.append_assoc], fun y y1 y2 y3 y4 => ?_, ?_, ?_, ?_, ?_⟩, ?_⟩)
          · rw [lget_lset, if_neg (Ne.symm y4), ← hl3, lget_lset, if_neg (Ne.symm y3)]
            exact bsm y y1 y2 y3 y4
          · rw [lget_lset, if_neg (by decide)]; exact c44
          · rw [hqs, List.any_append]; simp [hsub]
          · rw [lget_lset, if_pos rfl]
          · rw [app_get0, fm_keep, List.filter_filter, hqs]
            have : (fun a => inRow a (f r) && keepW (qs p k) x a) = keepW (qs p k ++ [f r]) x := by
              funext a; rw [keepW_snoc, hsub, Bool.and_comm]; rfl
            rw [this]; rfl
          · show ((H ++ G ++ _)[sid]?).map AO.xs = _
            have hsrc' : ((H ++ G)[sid]?).map AO.xs = some ((rs.take p).map .ref) := hsrc
            cases e : (H ++ G)[sid]? with
            | none => rw [e] at hsrc'; cases hsrc'
            | some o => rw [app_lt e]; rw [e] at hsrc'; exact hsrc'
      | false =>
        rw [hsub] at hv
        have hy : ¬ y = dueA (f r) x := of_decide_eq_false (by simpa using hv)
        refine ite_f (by simp [hy]) (MS.nil (MS.nil ⟨⟨p, sid, G, n, s, hp, rfl, rfl, rfl, bsm, b44, ?_, b43, ?_⟩, hsrc⟩))
        · rw [hqs, List.any_append, hn]; simp [hsub]
        · rw [hs, hqs]
          have : keepW (qs p k ++ [f r]) x = keepW (qs p k) x := by
            funext a; rw [keepW_snoc, hsub]; simp
          rw [this]
    | _ => simp [levQ] at hv
  · rintro S xs l H1 ⟨p, sid, G, n, s, hp, rfl, rfl, rfl, hsm, l44, hn, l43, hs⟩ hsrc
    have hfull : qs p ((rs.take p).map AV.ref).length = (rs.take p).map f := by
      simp only [qs]; rw [List.length_map, List.take_length]
    rw [hfull] at hn hs
    have hsl : ∀ q, subB q x = true → (q ∈ ks ↔ q ∈ (rs.take p).map f) := fun q hq => slice_hit hS hks h2 hp hq
    rw [any_slice hsl] at hn
    rw [keep_slice hsl] at hs
    exact MS.nil (q l G n s hsm l44 hn l43 hs)
end
end Mine
namespace Mine
section
variable {c : Cx} {d : Nat} {H : AH} {env : Env} {kn : KS}
theorem gl0 : gL[0]? = some ("pretty_flags", .fn 22) := rfl
theorem gl5 : gL[5]? = some ("_law_kinds", .fn 59) := rfl
theorem gl6 : gL[6]? = some ("_law_stops", .fn 64) := rfl
theorem small_of {x : Int} (h : x < 1000000000) (h' : -1000000000 < x) : small x = true := by
  simp only [small, Bool.and_eq_true, decide_eq_true_eq]; exact ⟨h, h'⟩
theorem mul_i {a b : Int} {P : AV → AH → Prop} (h : small a = true) (p : P (.int (a * b)) H) : binA .Mult (.int a) (.int b) H P := gd_iff.mpr ⟨h, p⟩
theorem sub_i {a b : Int} {P : AV → AH → Prop} (p : P (.int (a - b)) H) : binA .Sub (.int a) (.int b) H P := p
theorem siz_b {x : Nat} (h1 : 1 ≤ x) (h2 : x ≤ 15) : 1 ≤ siz x ∧ siz x ≤ 4 := by
  have : ∀ x ∈ l15, 1 ≤ siz x ∧ siz x ≤ 4 := by decide +kernel
  exact this x (mem15 h1 h2)
/-! filling the shelf -/
theorem M1.fill (pg : Prg c) (fm : Fm c (d + 3) env kn (cwU c (d + 3))) {I j : Nat} {ks : List Nat} {o2 oS : AO} {loc : Loc} {P : AFl → Loc → AH → Prop} (hks : ∀ k ∈ ks, 1 ≤ k ∧ k ≤ 15) (hkl : ks.length ≤ 90)
    (h2 : H[2]? = some o2) (h2x : o2.xs = nL ks) (hj : H[j]? = some oS) (hI : H[I]? = some ⟨true, true, []⟩) (h2I : 2 ≠ I) (hjI : j ≠ I) (g29 : lget loc 29 = some (.ref 2)) (g41 : lget loc 41 = some (.ref I))
    (q : ∀ l' H' rs f, (∀ y, y ≠ 36 → lget l' y = lget loc y) → Shelf H' I rs f ks → H'[j]? = some oS → P .next l' H') :
    M1 c (d + 3) env kn (.fr 36 (.seq (.var 29)) [.ex (.callk (.glob 1) [.var 41, .split (.call (.glob 0) [.var 36])] (.glob 8))] []) loc H P := by
  let J : Src → List AV → Nat → Loc → AH → Prop := fun S xs k l H1 => S = .lst 2 ∧ xs = nL ks ∧ (∀ y, y ≠ 36 → lget l y = lget loc y) ∧ H1[2]? = some o2 ∧ H1[j]? = some oS ∧ ∃ rs f, Shelf H1 I rs f (ks.take k) ∧ H1[I]? = some ⟨true, true, rs.map .ref⟩ ∧ I ∉ rs ∧ rs.length ≤ k
  refine M1.fr fm J ?_ ?_ ?_
  · refine MI.of fm 10 ?_
    simp only [wIt, wE, g29]
    refine lat_i h2 ⟨rfl, h2x, fun _ _ => rfl, h2, hj, [], fun _ => 0, ⟨⟨⟨_, hI, rfl⟩, by simp, by simp, by simp⟩, by simp, by simp⟩, hI, by simp, by simp⟩
  · rintro S xs k l H1 w ⟨rfl, rfl, hsm, k2, kj, rs, f, hS, kI, hin, hlen⟩ hsrc hk
    obtain ⟨x, hx, rfl⟩ : ∃ x, ks[k]? = some x ∧ w = .int (Int.ofNat x) := by
      rw [nL, List.getElem?_map] at hk
      cases e : ks[k]? with
      | none => rw [e] at hk; cases hk
      | some x => rw [e] at hk; exact ⟨x, rfl, (Option.some.inj hk).symm⟩
    have hkk := (List.getElem?_eq_some_iff.mp hx).1
    have hb := hks x (List.mem_of_getElem? hx)
    have a36 : lget (lset l 36 (.int (Int.ofNat x))) 36 = some (.int (Int.ofNat x)) := by rw [lget_lset, if_pos rfl]
    have a41 : lget (lset l 36 (.int (Int.ofNat x))) 41 = some (.ref I) := by rw [lget_lset, if_neg (by decide), hsm 41 (by decide)]; exact g41
    have hIl : I < H1.length := (List.getElem?_eq_some_iff.mp kI).1
    have hnr : H1.length ∉ rs := fun hm => by
      obtain ⟨o, e⟩ := hS.rows.el _ hm
      exact absurd (List.getElem?_eq_some_iff.mp e).1 (Nat.lt_irrefl _)
    refine MS.cons (M1.of fm 12 ?_)
    simp only [wS, wE, wEs, a36, a41, gl0, gl1, gl8]
    refine gd_iff.mpr ⟨rfl, gd_iff.mpr ⟨rfl, ?_⟩⟩
    refine CK.mono (CK_pretty (d := d + 2) pg hb.1 hb.2) fun v H' hv => ?_
    obtain ⟨rfl, rfl⟩ := hv
    simp only [split_pret hb.1 hb.2]
    refine new_i ?_ ?_
    · have := (siz_b hb.1 hb.2).2
      show siz x ≤ 5000
      omega
    refine CK.mono (CK_insort (d := d) pg (hS.rows.app _) (app_lt kI) (r := H'.length) (o := ⟨true, true, rowL x⟩) (by rw [app_get0]; rfl) (by omega) hin (by omega)) fun v H'' hv => ?_
    obtain ⟨rfl, rs', hpm, hR, rfl⟩ := hv
    have hrne : ∀ a ∈ rs', a ≠ I := by
      intro a ha
      rcases List.mem_cons.mp (hpm.mem_iff.mp ha) with rfl | ha
      · omega
      · rintro rfl; exact hin ha
    have hset : ∀ a, a ≠ I → ∀ o, (H' ++ [({ w := true, p := true, xs := rowL x } : AO)])[a]? = some o → ((H' ++ [({ w := true, p := true, xs := rowL x } : AO)]).set I ⟨true, true, rs'.map .ref⟩)[a]? = some o := by
      intro a ha o e
      rw [List.getElem?_set_ne (Ne.symm ha)]; exact e
    have htk : ks.take (k + 1) = ks.take k ++ [x] := by rw [List.take_add_one, hx]; rfl
    dsimp only
    refine MS.nil ⟨⟨rfl, rfl, fun y hy => ?_, hset 2 h2I _ (app_lt k2), hset j hjI _ (app_lt kj), rs', fun a => if a = H'.length then x else f a, ⟨hR, fun a ha => ?_, fun q hq => ?_⟩, ?_, fun hm => hrne I hm rfl, ?_⟩, ?_⟩
    · rw [lget_lset, if_neg (Ne.symm hy)]; exact hsm y hy
    · rcases List.mem_cons.mp (hpm.mem_iff.mp ha) with rfl | ham
      · refine ⟨hset _ (by omega) _ ?_, ?_⟩
        · rw [app_get0]; simp
        · simp [htk]
      · have hne : a ≠ H'.length := by rintro rfl; exact hnr ham
        obtain ⟨c1, c2⟩ := hS.con a ham
        rw [if_neg hne]
        exact ⟨hset a (hrne a ha) _ (app_lt c1), by rw [htk]; exact List.mem_append_left _ c2⟩
    · rw [htk] at hq
      rcases List.mem_append.mp hq with hq | hq
      · obtain ⟨r, hr, e⟩ := hS.cov q hq
        refine ⟨r, hpm.mem_iff.mpr (List.mem_cons_of_mem _ hr), ?_⟩
        rw [if_neg (by rintro rfl; exact hnr hr)]; exact e
      · refine ⟨H'.length, hpm.mem_iff.mpr List.mem_cons_self, ?_⟩
        rw [if_pos rfl]; exact (List.mem_singleton.mp hq).symm
    · rw [List.getElem?_set_self (by simp; omega)]
    · rw [hpm.length_eq]; simp; omega
    · show (((H' ++ _).set I _)[2]?).map AO.xs = _
      rw [hset 2 h2I _ (app_lt k2)]; exact congrArg some h2x
  · rintro S xs l H1 ⟨rfl, rfl, hsm, k2, kj, rs, f, hS, kI, hin, hlen⟩ hsrc
    have : ks.take (nL ks).length = ks := by rw [nL, List.length_map, List.take_length]
    rw [this] at hS
    exact MS.nil (q l H1 rs f hsm hS kj)
end
end Mine
namespace Mine
section
variable {c : Cx} {d : Nat} {H : AH} {env : Env} {kn : KS}
noncomputable def wholeBody : List S := [.asg 40 (.split (.call (.glob 0) [.var 42])), .asg 37 (.len (.var 40)), .asg 43 (.var 40), .asg 44 (.ci 0), .fr 16 (.seq (.slt (.var 41) (.callk (.glob 2) [.var 41, .var 37] (.glob 8)))) innerBody [], .asg 47 (.ci 0), .ite (.cmp .Gt (.var 44) (.ci 0)) [.asg 47 (.bin .Mult (.bin .Mult (.len (.var 43)) (.call (.glob 7) [.bin .Sub (.var 37) (.ci 1)])) (.call (.glob 7) [.bin .Sub (.ci 4) (.var 37)]))] [], .ite (.cmp .NotEq (.var 47) (.idx (.var 33) (.var 42))) [.ret (.cb false)] []]
/-- one whole: what is told is what was counted -/
theorem MS.whole (pg : Prg c) (fm : Fm c (d + 3) env kn (cwU c (d + 3))) {I j x : Nat} {rs ks : List Nat} {f : Nat → Nat} {b : Bool} {loc : Loc} {P : AFl → Loc → AH → Prop} (hS : Shelf H I rs f ks) (hks : ∀ k ∈ ks, 1 ≤ k ∧ k ≤ 15) {st : List Int} (hl16 : st.length = 16) (hst : st.getD x 0 = toldK ks x) (h1 : 1 ≤ x) (h2 : x ≤ 15)
    (hj : H[j]? = some ⟨true, b, iL (st)⟩) (g41 : lget loc 41 = some (.ref I)) (g33 : lget loc 33 = some (.ref j)) (g42 : lget loc 42 = some (.int (Int.ofNat x)))
    (q : ∀ l' G, lget l' 41 = some (.ref I) → lget l' 33 = some (.ref j) → P .next l' (H ++ G)) : MS c (d + 3) env kn wholeBody loc H P := by
  obtain ⟨z1, z2⟩ := siz_b h1 h2
  have hnr : H.length ∉ rs := fun hm => by
    obtain ⟨o, e⟩ := hS.rows.el _ hm
    exact absurd (List.getElem?_eq_some_iff.mp e).1 (Nat.lt_irrefl _)
  refine MS.cons (M1.of fm 12 ?_)
  simp only [wS, wE, wEs, g42, gl0]
  refine gd_iff.mpr ⟨rfl, ?_⟩
  refine CK.mono (CK_pretty (d := d + 2) pg h1 h2) fun v H' hv => ?_
  obtain ⟨rfl, rfl⟩ := hv
  simp only [split_pret h1 h2]
  refine new_i (show siz x ≤ 5000 by omega) ?_
  have hw : (H' ++ [({ w := true, p := true, xs := rowL x } : AO)])[H'.length]? = some ⟨true, true, rowL x⟩ := by rw [app_get0]; rfl
  have hS' := hS.app [({ w := true, p := true, xs := rowL x } : AO)]
  have hj' : (H' ++ [({ w := true, p := true, xs := rowL x } : AO)])[j]? = some ⟨true, b, iL (st)⟩ := app_lt hj
  generalize hHW : H' ++ [({ w := true, p := true, xs := rowL x } : AO)] = HW at *
  refine MS.cons (M1.of fm 12 ?_)
  have a40 : lget (lset loc 40 (.ref H'.length)) 40 = some (.ref H'.length) := by rw [lget_lset, if_pos rfl]
  simp only [wS, wE, a40]
  refine lat_i hw ?_
  show MS c (d + 3) env kn _ (lset (lset loc 40 (.ref H'.length)) 37 (.int (Int.ofNat (siz x)))) HW P
  refine MS.cons (M1.of fm 12 ?_)
  have b40 : lget (lset (lset loc 40 (.ref H'.length)) 37 (.int (Int.ofNat (siz x)))) 40 = some (.ref H'.length) := by rw [lget_lset, if_neg (by decide)]; exact a40
  simp only [wS, wE, b40]
  refine MS.cons (M1.of fm 12 ?_)
  simp only [wS, wE]
  generalize hl : lset (lset (lset (lset loc 40 (.ref H'.length)) 37 (.int (Int.ofNat (siz x)))) 43 (.ref H'.length)) 44 (.int 0) = l
  have c41 : lget l 41 = some (.ref I) := by rw [← hl]; simp only [lget_lset]; simpa using g41
  have c33 : lget l 33 = some (.ref j) := by rw [← hl]; simp only [lget_lset]; simpa using g33
  have c42 : lget l 42 = some (.int (Int.ofNat x)) := by rw [← hl]; simp only [lget_lset]; simpa using g42
  have c37 : lget l 37 = some (.int (Int.ofNat (siz x))) := by rw [← hl]; simp only [lget_lset]; simp
  have c40 : lget l 40 = some (.ref H'.length) := by rw [← hl]; simp only [lget_lset]; simp
  have c43 : lget l 43 = some (.ref H'.length) := by rw [← hl]; simp only [lget_lset]; simp
  have c44 : lget l 44 = some (.int 0) := by rw [← hl]; simp only [lget_lset]; simp
  refine MS.cons (M1.inner (d := d + 1) pg fm hS' hks h1 h2 hw hnr c41 c37 c40 c43 c44 fun l' G n s hsm l44 hhit l43 hs => ?_)
  refine MS.cons (M1.of fm 12 ?_)
  simp only [wS, wE]
  generalize hl' : lset l' 47 (.int 0) = l2
  have d44 : lget l2 44 = some (.int (Int.ofNat n)) := by rw [← hl', lget_lset, if_neg (by decide)]; exact l44
  have d43 : lget l2 43 = some (.ref s) := by rw [← hl', lget_lset, if_neg (by decide)]; exact l43
  have d37 : lget l2 37 = some (.int (Int.ofNat (siz x))) := by rw [← hl', lget_lset, if_neg (by decide), hsm 37 (by decide) (by decide) (by decide) (by decide)]; exact c37
  have d41 : lget l2 41 = some (.ref I) := by rw [← hl', lget_lset, if_neg (by decide), hsm 41 (by decide) (by decide) (by decide) (by decide)]; exact c41
  have d33 : lget l2 33 = some (.ref j) := by rw [← hl', lget_lset, if_neg (by decide), hsm 33 (by decide) (by decide) (by decide) (by decide)]; exact c33
  have d42 : lget l2 42 = some (.int (Int.ofNat x)) := by rw [← hl', lget_lset, if_neg (by decide), hsm 42 (by decide) (by decide) (by decide) (by decide)]; exact c42
  have d47 : lget l2 47 = some (.int 0) := by rw [← hl', lget_lset, if_pos rfl]
  -- the last test
  have last : ∀ l3, lget l3 47 = some (.int (toldK ks x)) → lget l3 33 = some (.ref j) → lget l3 42 = some (.int (Int.ofNat x)) → lget l3 41 = some (.ref I) → MS c (d + 3) env kn [.ite (.cmp .NotEq (.var 47) (.idx (.var 33) (.var 42))) [.ret (.cb false)] []] l3 (HW ++ G) P := by
    intro l3 e47 e33 e42 e41
    refine MS.cons (M1.ite (MT.of fm 12 ?_))
    simp only [wT, wE, e47, e33, e42]
    have hlen : x < st.length := by omega
    refine lat_i (app_lt hj') (idx_i (j := x) (v := .int (toldK ks x)) ?_ (by omega) ?_)
    · rw [← hst]
      show (iL _)[x]? = _
      rw [iL, List.getElem?_map, List.getElem?_eq_getElem hlen, List.getD_eq_getElem?_getD, List.getElem?_eq_getElem hlen]
      rfl
    · simp only [cmpA]
      refine ite_f (by simp) (MS.nil (MS.nil ?_))
      rw [← hHW, List.append_assoc]
      exact q l3 _ e41 e33
  refine MS.cons (M1.ite (MT.of fm 12 ?_))
  simp only [wT, wE, d44, cmpA]
  cases hT : hitB ks x with
  | false =>
    rw [hT] at hhit
    have hn0 : ¬ 0 < n := of_decide_eq_false hhit
    refine ite_f ?_ (MS.nil ?_)
    · have : n = 0 := by omega
      subst this; simp
    · refine last l2 ?_ d33 d42 d41
      have : toldK ks x = 0 := by unfold toldK; rw [hT]; rfl
      rw [this]; exact d47
  | true =>
    rw [hT] at hhit
    have hn0 : 0 < n := of_decide_eq_true hhit
    refine ite_t ?_ ?_
    · rw [decide_eq_true_eq]; exact Int.ofNat_lt.mpr hn0
    refine MS.cons (M1.of fm 12 ?_)
    simp only [wS, wE, wEs, d43, d37, gl7]
    refine lat_i hs ?_
    dsimp only
    have s1 : (Int.ofNat (siz x) - 1 : Int) = Int.ofNat (siz x - 1) := by show ((siz x : Nat) : Int) - 1 = ((siz x - 1 : Nat) : Int); omega
    have s2 : (4 - Int.ofNat (siz x) : Int) = Int.ofNat (4 - siz x) := by show 4 - ((siz x : Nat) : Int) = ((4 - siz x : Nat) : Int); omega
    have hle : ((rowL x).filter (keepW ks x)).length ≤ 4 := Nat.le_trans (List.length_filter_le _ _) z2
    refine gd_iff.mpr ⟨rfl, sub_i ?_⟩
    rw [s1]
    refine CK.mono (CK_orders (d := d + 2) pg (show siz x - 1 < 4 by omega)) fun v H2 hv => ?_
    obtain ⟨rfl, rfl⟩ := hv
    have hf : ∀ a < 4, 0 ≤ factA a ∧ factA a ≤ 6 := by decide +kernel
    have hf1 := hf (siz x - 1) (by omega)
    have hA4 : (((rowL x).filter (keepW ks x)).length : Int) ≤ 4 := Int.ofNat_le.mpr hle
    have hA0 : 0 ≤ (((rowL x).filter (keepW ks x)).length : Int) := Int.natCast_nonneg _
    have hK : toldK ks x = (((rowL x).filter (keepW ks x)).length : Int) * factA (siz x - 1) * factA (4 - siz x) := by unfold toldK; rw [hT]; rfl
    generalize (((rowL x).filter (keepW ks x)).length : Int) = a1 at hA4 hA0 hK ⊢
    generalize factA (siz x - 1) = f1 at hf1 hK ⊢
    refine mul_i (small_of (by omega) (by omega)) ?_
    refine gd_iff.mpr ⟨rfl, sub_i ?_⟩
    rw [s2]
    refine CK.mono (CK_orders (d := d + 2) pg (show 4 - siz x < 4 by omega)) fun v H2 hv => ?_
    obtain ⟨rfl, rfl⟩ := hv
    have hm1 : a1 * f1 ≤ 4 * 6 := Int.mul_le_mul hA4 hf1.2 hf1.1 (by omega)
    have hm2 : 0 ≤ a1 * f1 := Int.mul_nonneg hA0 hf1.1
    generalize a1 * f1 = m1 at hm1 hm2 hK ⊢
    refine mul_i (small_of (by omega) (by omega)) ?_
    refine MS.nil (last _ ?_ ?_ ?_ ?_)
    · rw [lget_lset, if_pos rfl, hK]
    · rw [lget_lset, if_neg (by decide)]; exact d33
    · rw [lget_lset, if_neg (by decide)]; exact d42
    · rw [lget_lset, if_neg (by decide)]; exact d41
theorem rng15 : rangeA 1 16 1 = some (intsA 1 1 15) := by decide +kernel
theorem rngA2 {a b : Int} {xs : List AV} {P : Src → List AV → Prop} (h : rangeA a b 1 = some xs) (p : P (.rng a 1 xs.length) xs) : rngA [.int a, .int b] P := by
  unfold rngA
  simp only [h]
  exact p
/-- the law's body ends with True -/
theorem MS.law (pg : Prg c) (fm : Fm c (d + 3) env kn (cwU c (d + 3))) {o : AO} {sc : List Int} (ho : o.xs = iL sc) {P : AFl → Loc → AH → Prop} (q : ∀ l' H', P (.ret (.bool true)) l' H') : MS c (d + 3) env kn b_law [(25, .ref 0)] [o] P := by
  refine MS.cons (M1.of fm 12 ?_)
  have a25 : lget [(25, AV.ref 0)] 25 = some (.ref 0) := rfl
  simp only [wS, wE, wEs, a25, gl5]
  refine gd_iff.mpr ⟨rfl, ?_⟩
  refine CK.mono (CK_kinds (d := d + 2) pg (H := [o]) (i := 0) rfl ho) fun v H' hv => ?_
  obtain ⟨b, ns, ks, hk4, hks, rfl, rfl⟩ := hv
  show MS c (d + 3) env kn _ [(25, .ref 0), (29, .ref 2)] [o, ⟨true, b, ns⟩, ⟨true, true, nL ks⟩] P
  refine MS.cons (M1.of fm 12 ?_)
  have a29 : lget [(25, AV.ref 0), (29, .ref 2)] 29 = some (.ref 2) := rfl
  simp only [wS, wE, wEs, a29, gl6]
  refine gd_iff.mpr ⟨rfl, ?_⟩
  refine CK.mono (CK_stops (d := d + 2) pg (ks := ks) rfl hks (by omega)) fun v H' hv => ?_
  obtain ⟨G, b', rfl, rfl⟩ := hv
  have hne : ks ≠ [] := by rintro rfl; simp at hk4
  have hl16 : (stF (hitB ks) perms zeros).length = 16 := by rw [stF_len]; rfl
  have hst : ∀ x, 1 ≤ x → x ≤ 15 → (stF (hitB ks) perms zeros).getD x 0 = toldK ks x := fun x h1 h2 => told_is hks hne h1 h2
  generalize stF (hitB ks) perms zeros = st at *
  have h2 : ([o, ⟨true, b, ns⟩, ⟨true, true, nL ks⟩] ++ G ++ [({ w := true, p := b', xs := iL (st) } : AO)])[2]? = some ⟨true, true, nL ks⟩ := rfl
  have hj : ([o, ⟨true, b, ns⟩, ⟨true, true, nL ks⟩] ++ G ++ [({ w := true, p := b', xs := iL (st) } : AO)])[3 + G.length]? = some ⟨true, b', iL (st)⟩ := by
    rw [List.getElem?_append_right (by simp; omega)]
    have : 3 + G.length - ([o, ⟨true, b, ns⟩, ⟨true, true, nL ks⟩] ++ G).length = 0 := by simp; omega
    rw [this]; rfl
  have hgl : ([o, ⟨true, b, ns⟩, ⟨true, true, nL ks⟩] ++ G ++ [({ w := true, p := b', xs := iL (st) } : AO)]).length = 4 + G.length := by simp; omega
  generalize hHS : [o, ⟨true, b, ns⟩, ⟨true, true, nL ks⟩] ++ G ++ [({ w := true, p := b', xs := iL (st) } : AO)] = HS at *
  show MS c (d + 3) env kn _ [(25, .ref 0), (29, .ref 2), (33, .ref (3 + G.length))] HS P
  refine MS.cons (M1.of fm 12 ?_)
  simp only [wS, wE, wEs]
  refine new_i (by simp) ?_
  show MS c (d + 3) env kn _ [(25, .ref 0), (29, .ref 2), (33, .ref (3 + G.length)), (41, .ref HS.length)] (HS ++ [⟨true, true, []⟩]) P
  refine MS.cons (M1.fill (d := d) pg fm hks (by omega) (app_lt h2) rfl (app_lt hj) (I := HS.length) (by rw [app_get0]; rfl) (by omega) (by omega) rfl rfl fun l' H' rs f hsm hS hj' => ?_)
  have g41 : lget l' 41 = some (.ref HS.length) := by rw [hsm 41 (by decide)]; rfl
  have g33 : lget l' 33 = some (.ref (3 + G.length)) := by rw [hsm 33 (by decide)]; rfl
  let J : Src → List AV → Nat → Loc → AH → Prop := fun S xs k l H1 => S = .rng 1 1 15 ∧ xs = intsA 1 1 15 ∧ Shelf H1 HS.length rs f ks ∧ H1[3 + G.length]? = some ⟨true, b', iL (st)⟩ ∧ lget l 41 = some (.ref HS.length) ∧ lget l 33 = some (.ref (3 + G.length))
  refine MS.cons (M1.fr fm J ?_ ?_ ?_)
  · refine MI.of fm 12 ?_
    simp only [wIt, wE, wEs]
    exact rngA2 rng15 ⟨rfl, rfl, hS, hj', g41, g33⟩
  · rintro S xs k l H1 w ⟨rfl, rfl, kS, kj, l41, l33⟩ hsrc hk
    have hk15 : k < 15 := by have := (List.getElem?_eq_some_iff.mp hk).1; rwa [intsA_len] at this
    rw [intsA_get 1 15 1 k hk15] at hk
    have hw : w = .int (Int.ofNat (1 + k)) := by
      have h : (1 : Int) + (k : Int) * 1 = Int.ofNat (1 + k) := by show (1 : Int) + (k : Int) * 1 = ((1 + k : Nat) : Int); omega
      rw [h] at hk; exact (Option.some.inj hk).symm
    subst hw
    refine MS.whole (d := d) pg fm kS hks hl16 (hst (1 + k) (by omega) (by omega)) (x := 1 + k) (by omega) (by omega) kj ?_ ?_ ?_ fun l3 G3 e41 e33 => ⟨⟨rfl, rfl, kS.app G3, app_lt kj, e41, e33⟩, hsrc⟩
    · rw [lget_lset, if_neg (by decide)]; exact l41
    · rw [lget_lset, if_neg (by decide)]; exact l33
    · rw [lget_lset, if_pos rfl]
  · rintro S xs l H1 _ hsrc
    refine MS.nil (MS.cons (M1.of fm 12 ?_))
    simp only [wS, wE]
    exact q l H1
end
end Mine
namespace Mine
/-! ## what is asked of the program, as looks at the fragment -/
noncomputable def fdOf (K : Frag) (f : Addr) : Option FuncData := match K.lookup f with | some o => (match o.data with | .func fd => some fd | _ => none) | none => none
noncomputable def bodyOf (fd : FuncData) : List Stmt := match fd.body with | .stmts b => b | _ => []
noncomputable def isStmts (fd : FuncData) : Bool := match fd.body with | .stmts _ => true | _ => false
noncomputable def fnLook (K : Frag) (fd : FuncData) : Bool :=
  codeIn K fd.code fd.qualname && isStmts fd && !fd.scope.isCoroutine && !fd.scope.isGenerator && decide (fd.scope.kind = .function) && fd.closure.isEmpty && Nat.beq fd.globals mainGlobals && Nat.beq fd.builtins builtinsNs
theorem FnOk.of {c : Cx} {f : Addr} {fd : FuncData} (h1 : fdOf c.K f = some fd) (h2 : fnLook c.K fd = true) : FnOk c f fd (bodyOf fd) := by
  simp only [fnLook, Bool.and_eq_true, Bool.not_eq_true', decide_eq_true_eq, List.isEmpty_iff] at h2
  obtain ⟨⟨⟨⟨⟨⟨⟨a1, a2⟩, a3⟩, a4⟩, a5⟩, a6⟩, a7⟩, a8⟩ := h2
  refine ⟨?_, a1, ?_, a3, a4, a5, a6, Nat.eq_of_beq_eq_true a7, Nat.eq_of_beq_eq_true a8⟩
  · unfold fdOf at h1
    split at h1
    · rename_i o ho
      split at h1
      · rename_i fd' hfd
        cases h1
        exact ⟨o, ho, hfd⟩
      · cases h1
    · cases h1
  · unfold isStmts at a2
    unfold bodyOf
    split at a2
    · rename_i b hb; rw [hb]
    · cases a2
noncomputable def noCells (fd : FuncData) : Bool := fd.scope.names.all fun p => !(p.2 == .cell)
theorem noCells_of {fd : FuncData} (h : noCells fd = true) : ∀ x ∈ fd.scope.names, x.2 ≠ .cell := by
  intro x hx e
  have := List.all_eq_true.mp h x hx
  rw [e] at this
  exact absurd this (by decide)
noncomputable def globLook (K : Frag) (p : String × AV) : Bool :=
  match p.2, nsIn K mainGlobals (Str.ofString p.1) with
  | .fn a, some (some (.ref b)) => Nat.beq a b
  | .int i, some (some (.int j _)) => decide (i = j)
  | _, _ => false
theorem GlOk.of {c : Cx} (ok : CxOk c) (h1 : gL.all (globLook c.K) = true) (h2 : ∀ f, isFn f = true → ∃ fd body, FnOk c f fd body) (h3 : ["len", "range", "min", "list", "hex"].all (fun n => match nsIn c.K mainGlobals (Str.ofString n) with | some none => true | _ => false) = true) : GlOk c where
  gl := fun g p e => by
    have h := List.all_eq_true.mp h1 p (List.mem_of_getElem? e)
    unfold globLook at h
    split at h
    · rename_i a b e1 e2
      have := Nat.eq_of_beq_eq_true h
      subst this
      refine ⟨_, mg_of ok.X ok.g e2, fun ρ => ?_⟩
      rw [e1]; rfl
    · rename_i i j t e1 e2
      have := of_decide_eq_true h
      subst this
      refine ⟨_, mg_of ok.X ok.g e2, fun ρ => ?_⟩
      rw [e1]; exact ⟨_, rfl⟩
    · cases h
  fns := h2
  bn := fun n hn => by
    have h := List.all_eq_true.mp h3 n hn
    split at h
    · rename_i e; exact mg_none_of ok.X ok.g e
    · cases h
end Mine
namespace Mine
set_option maxRecDepth 100000 in
set_option maxHeartbeats 8000000 in
open_top hd for PySem.Challenge.rw_rl0048_01
end Mine
namespace Mine
noncomputable abbrev KK := hd.heap_39
theorem k_glob (p : Params) : gL.all (globLook (KK p)) = true := by kernel_rfl!
theorem k_bn (p : Params) : ["len", "range", "min", "list", "hex"].all (fun n => match nsIn (KK p) mainGlobals (Str.ofString n) with | some none => true | _ => false) = true := by kernel_rfl!
noncomputable def fdAt (p : Params) (f : Addr) : FuncData := (fdOf (KK p) f).getD default
theorem k_fd22 (p : Params) : fdOf (KK p) 22 = some (fdAt p 22) := by kernel_rfl!
theorem k_look22 (p : Params) : fnLook (KK p) (fdAt p 22) = true := by kernel_rfl!
theorem k_ok22 (p : Params) : okSs (fdAt p 22).scope.names 200 b_pretty (bodyOf (fdAt p 22)) = true := by kernel_rfl!
theorem k_nc22 (p : Params) : noCells (fdAt p 22) = true := by kernel_rfl!
theorem k_bind22 (p : Params) (v : Value) (S : Setting) : peek (KK p) S (bindArgs (fdAt p 22) ⟨[v], []⟩) = some [(vS 0, v)] := by kernel_rfl!
theorem k_fd47 (p : Params) : fdOf (KK p) 47 = some (fdAt p 47) := by kernel_rfl!
theorem k_look47 (p : Params) : fnLook (KK p) (fdAt p 47) = true := by kernel_rfl!
theorem k_ok47 (p : Params) : okSs (fdAt p 47).scope.names 200 b_subst (bodyOf (fdAt p 47)) = true := by kernel_rfl!
theorem k_nc47 (p : Params) : noCells (fdAt p 47) = true := by kernel_rfl!
theorem k_bind47 (p : Params) (a b : Value) (S : Setting) : peek (KK p) S (bindArgs (fdAt p 47) ⟨[a, b], []⟩) = some [(vS 10, a), (vS 11, b)] := by kernel_rfl!
theorem k_fd54 (p : Params) : fdOf (KK p) 54 = some (fdAt p 54) := by kernel_rfl!
theorem k_look54 (p : Params) : fnLook (KK p) (fdAt p 54) = true := by kernel_rfl!
theorem k_ok54 (p : Params) : okSs (fdAt p 54).scope.names 200 b_lev (bodyOf (fdAt p 54)) = true := by kernel_rfl!
theorem k_nc54 (p : Params) : noCells (fdAt p 54) = true := by kernel_rfl!
theorem k_bind54 (p : Params) (a b e : Value) (S : Setting) : peek (KK p) S (bindArgs (fdAt p 54) ⟨[a, b, e], []⟩) = some [(vS 4, a), (vS 12, b), (vS 13, e)] := by kernel_rfl!
theorem k_fd59 (p : Params) : fdOf (KK p) 59 = some (fdAt p 59) := by kernel_rfl!
theorem k_look59 (p : Params) : fnLook (KK p) (fdAt p 59) = true := by kernel_rfl!
theorem k_ok59 (p : Params) : okSs (fdAt p 59).scope.names 200 b_kinds (bodyOf (fdAt p 59)) = true := by kernel_rfl!
theorem k_nc59 (p : Params) : noCells (fdAt p 59) = true := by kernel_rfl!
theorem k_bind59 (p : Params) (v : Value) (S : Setting) : peek (KK p) S (bindArgs (fdAt p 59) ⟨[v], []⟩) = some [(vS 25, v)] := by kernel_rfl!
theorem k_fd64 (p : Params) : fdOf (KK p) 64 = some (fdAt p 64) := by kernel_rfl!
theorem k_look64 (p : Params) : fnLook (KK p) (fdAt p 64) = true := by kernel_rfl!
theorem k_ok64 (p : Params) : okSs (fdAt p 64).scope.names 200 b_stops (bodyOf (fdAt p 64)) = true := by kernel_rfl!
theorem k_bind64 (p : Params) (v : Value) (S : Setting) : peek (KK p) S (bindArgs (fdAt p 64) ⟨[v], []⟩) = some [(vS 29, v)] := by kernel_rfl!
theorem k_fd71 (p : Params) : fdOf (KK p) 71 = some (fdAt p 71) := by kernel_rfl!
theorem k_look71 (p : Params) : fnLook (KK p) (fdAt p 71) = true := by kernel_rfl!
theorem k_ok71 (p : Params) : okSs (fdAt p 71).scope.names 200 b_orders (bodyOf (fdAt p 71)) = true := by kernel_rfl!
theorem k_nc71 (p : Params) : noCells (fdAt p 71) = true := by kernel_rfl!
theorem k_bind71 (p : Params) (v : Value) (S : Setting) : peek (KK p) S (bindArgs (fdAt p 71) ⟨[v], []⟩) = some [(vS 37, v)] := by kernel_rfl!
theorem k_fd78 (p : Params) : fdOf (KK p) 78 = some (fdAt p 78) := by kernel_rfl!
theorem k_look78 (p : Params) : fnLook (KK p) (fdAt p 78) = true := by kernel_rfl!
theorem k_ok78 (p : Params) : okSs (fdAt p 78).scope.names 200 b_size (bodyOf (fdAt p 78)) = true := by kernel_rfl!
theorem k_nc78 (p : Params) : noCells (fdAt p 78) = true := by kernel_rfl!
theorem k_bind78 (p : Params) (v : Value) (S : Setting) : peek (KK p) S (bindArgs (fdAt p 78) ⟨[v], []⟩) = some [(vS 40, v)] := by kernel_rfl!
theorem k_fd31 (p : Params) : fdOf (KK p) 31 = some (fdAt p 31) := by kernel_rfl!
theorem k_look31 (p : Params) : fnLook (KK p) (fdAt p 31) = true := by kernel_rfl!
theorem k_ok31 (p : Params) : okSs (fdAt p 31).scope.names 200 b_insort (bodyOf (fdAt p 31)) = true := by kernel_rfl!
theorem k_nc31 (p : Params) : noCells (fdAt p 31) = true := by kernel_rfl!
theorem k_bind31_2 (p : Params) (a x k : Value) (S : Setting) : peek (KK p) S (bindArgs (fdAt p 31) ⟨[a, x], [(keyS, k)]⟩) = some [(vS 4, a), (vS 5, x), (vS 6, .int 0 232), (vS 7, .none), (vS 8, k)] := by kernel_rfl!
theorem k_bind31_4 (p : Params) (a x lo hi k : Value) (S : Setting) : peek (KK p) S (bindArgs (fdAt p 31) ⟨[a, x, lo, hi], [(keyS, k)]⟩) = some [(vS 4, a), (vS 5, x), (vS 6, lo), (vS 7, hi), (vS 8, k)] := by kernel_rfl!
theorem k_fd40 (p : Params) : fdOf (KK p) 40 = some (fdAt p 40) := by kernel_rfl!
theorem k_look40 (p : Params) : fnLook (KK p) (fdAt p 40) = true := by kernel_rfl!
theorem k_ok40 (p : Params) : okSs (fdAt p 40).scope.names 200 b_bisect (bodyOf (fdAt p 40)) = true := by kernel_rfl!
theorem k_nc40 (p : Params) : noCells (fdAt p 40) = true := by kernel_rfl!
theorem k_bind40_2 (p : Params) (a x k : Value) (S : Setting) : peek (KK p) S (bindArgs (fdAt p 40) ⟨[a, x], [(keyS, k)]⟩) = some [(vS 4, a), (vS 5, x), (vS 6, .int 0 245), (vS 7, .none), (vS 8, k)] := by kernel_rfl!
theorem k_bind40_4 (p : Params) (a x lo hi k : Value) (S : Setting) : peek (KK p) S (bindArgs (fdAt p 40) ⟨[a, x, lo, hi], [(keyS, k)]⟩) = some [(vS 4, a), (vS 5, x), (vS 6, lo), (vS 7, hi), (vS 8, k)] := by kernel_rfl!
end Mine

namespace Mine
theorem rev_none {k : Str} : ∀ (ks : List Str) (vs : List Value), k ∉ ks → ((ks.zip vs).reverse).lookup k = none := by
  intro ks vs h
  rw [List.lookup_eq_none_iff]
  intro p hp
  have hm := (List.of_mem_zip (List.mem_reverse.mp hp)).1
  rw [bne_iff_ne]
  rintro rfl
  exact h hm
theorem rev_lookup {ρ : List Addr} {x : Nat} {v : AV} : ∀ (xs : List Nat) (avs : List AV) (vs : List Value), (xs.map vS).Nodup → ValL ρ avs vs → lget (xs.zip avs) x = some v → ∃ v', ((xs.map vS).zip vs).reverse.lookup (vS x) = some v' ∧ Val ρ v v'
  | [], _, _, _, _, e => by simp [lget] at e
  | _ :: _, [], _, _, _, e => by simp [lget] at e
  | y :: ys, a :: as, [], _, hv, _ => hv.elim
  | y :: ys, a :: as, u :: us, hn, hv, e => by
    rw [List.map_cons, List.nodup_cons] at hn
    rw [List.zip_cons_cons] at e
    rw [List.map_cons, List.zip_cons_cons, List.reverse_cons, List.lookup_append]
    unfold lget at e
    by_cases hb : Nat.beq y x = true
    · rw [if_pos hb] at e
      have := Nat.eq_of_beq_eq_true hb
      subst this
      cases e
      refine ⟨u, ?_, hv.1⟩
      rw [rev_none _ _ hn.1]
      simp [List.lookup]
    · rw [if_neg hb] at e
      obtain ⟨v', e1, e2⟩ := rev_lookup ys as us hn.2 hv.2 e
      refine ⟨v', ?_, e2⟩
      rw [e1]; rfl
theorem kv_nil {kv : List (Str × Value)} (h : kv.map Prod.fst = ([] : List (Str × AV)).map Prod.fst) : kv = [] := by
  cases kv with
  | nil => rfl
  | cons => simp at h
theorem kv_one {kv : List (Str × Value)} {k : AV} {ρ : List Addr} (h : kv.map Prod.fst = ([(keyS, k)] : List (Str × AV)).map Prod.fst) (h2 : ValL ρ (([(keyS, k)] : List (Str × AV)).map Prod.snd) (kv.map Prod.snd)) : ∃ u, kv = [(keyS, u)] ∧ Val ρ k u := by
  match kv, h, h2 with
  | [(s, u)], h, h2 =>
    simp at h
    subst h
    exact ⟨u, rfl, h2.1⟩
  | [], h, _ => simp at h
  | _ :: _ :: _, h, _ => simp at h
noncomputable def locOk (fd : FuncData) (xs : List Nat) : Bool := decide ((xs.map vS).Nodup) && (xs.map vS).all fun n => decide (fd.scope.names.lookup n = some .local)
theorem Binds.of {c : Cx} {fd : FuncData} {xs : List Nat} {avs : List AV} {as : List AV} {ks : List (Str × AV)} (hl : locOk fd xs = true)
    (h : ∀ ρ vals kv, ValL ρ as vals → kv.map Prod.fst = ks.map Prod.fst → ValL ρ (ks.map Prod.snd) (kv.map Prod.snd) → ∃ vs, ValL ρ avs vs ∧ ∀ S, peek c.K S (bindArgs fd ⟨vals, kv⟩) = some ((xs.map vS).zip vs)) : Binds c fd as ks (xs.zip avs) := by
  simp only [locOk, Bool.and_eq_true, decide_eq_true_eq, List.all_eq_true] at hl
  intro ρ vals kv h1 h2 h3
  obtain ⟨vs, h4, h5⟩ := h ρ vals kv h1 h2 h3
  refine ⟨_, h5, fun x hx => ?_, fun x v _ e => rev_lookup xs avs vs hl.1 h4 e⟩
  exact hl.2 x.1 (List.of_mem_zip (show (x.1, x.2) ∈ _ from hx)).1
theorem FnB.of {c : Cx} {f : Addr} {fd : FuncData} {b : List S} {B : List AV → List (Str × AV) → Loc → Prop} (h1 : fdOf c.K f = some fd) (h2 : fnLook c.K fd = true) (h3 : noCells fd = true) (h4 : okSs fd.scope.names 200 b (bodyOf fd) = true) (h5 : ∀ as ks loc0, B as ks loc0 → Binds c fd as ks loc0) : FnB c f b B :=
  ⟨fd, bodyOf fd, FnOk.of h1 h2, noCells_of h3, h4, h5⟩
theorem bpos1 {c : Cx} {fd : FuncData} {x : Nat} (hl : locOk fd [x] = true) (h : ∀ v S, peek c.K S (bindArgs fd ⟨[v], []⟩) = some [(vS x, v)]) : ∀ as ks loc0, BPos [x] as ks loc0 → Binds c fd as ks loc0 := by
  rintro as ks loc0 ⟨rfl, hlen, rfl⟩
  match as, hlen with
  | [a], _ =>
    refine Binds.of hl fun ρ vals kv h1 h2 h3 => ?_
    obtain rfl := kv_nil h2
    match vals, h1 with
    | [v], h1 => exact ⟨[v], h1, h v⟩
theorem bpos2 {c : Cx} {fd : FuncData} {x y : Nat} (hl : locOk fd [x, y] = true) (h : ∀ v w S, peek c.K S (bindArgs fd ⟨[v, w], []⟩) = some [(vS x, v), (vS y, w)]) : ∀ as ks loc0, BPos [x, y] as ks loc0 → Binds c fd as ks loc0 := by
  rintro as ks loc0 ⟨rfl, hlen, rfl⟩
  match as, hlen with
  | [a, b], _ =>
    refine Binds.of hl fun ρ vals kv h1 h2 h3 => ?_
    obtain rfl := kv_nil h2
    match vals, h1 with
    | [v, w], h1 => exact ⟨[v, w], h1, h v w⟩
theorem bpos3 {c : Cx} {fd : FuncData} {x y z : Nat} (hl : locOk fd [x, y, z] = true) (h : ∀ v w u S, peek c.K S (bindArgs fd ⟨[v, w, u], []⟩) = some [(vS x, v), (vS y, w), (vS z, u)]) : ∀ as ks loc0, BPos [x, y, z] as ks loc0 → Binds c fd as ks loc0 := by
  rintro as ks loc0 ⟨rfl, hlen, rfl⟩
  match as, hlen with
  | [a, b, e], _ =>
    refine Binds.of hl fun ρ vals kv h1 h2 h3 => ?_
    obtain rfl := kv_nil h2
    match vals, h1 with
    | [v, w, u], h1 => exact ⟨[v, w, u], h1, h v w u⟩
theorem bkey {c : Cx} {fd : FuncData} {t : Nat} (hl : locOk fd [4, 5, 6, 7, 8] = true) (h2 : ∀ a x k S, peek c.K S (bindArgs fd ⟨[a, x], [(keyS, k)]⟩) = some [(vS 4, a), (vS 5, x), (vS 6, .int 0 t), (vS 7, .none), (vS 8, k)])
    (h4 : ∀ a x lo hi k S, peek c.K S (bindArgs fd ⟨[a, x, lo, hi], [(keyS, k)]⟩) = some [(vS 4, a), (vS 5, x), (vS 6, lo), (vS 7, hi), (vS 8, k)]) : ∀ as ks loc0, BKey as ks loc0 → Binds c fd as ks loc0 := by
  intro as ks loc0 hB
  cases hB with
  | two a x k =>
    refine Binds.of (xs := [4, 5, 6, 7, 8]) (avs := [a, x, .int 0, .none, k]) hl fun ρ vals kv g1 g2 g3 => ?_
    obtain ⟨u, rfl, hu⟩ := kv_one g2 g3
    match vals, g1 with
    | [v, w], g1 => exact ⟨[v, w, .int 0 t, .none, u], ⟨g1.1, g1.2.1, ⟨t, rfl⟩, rfl, hu, trivial⟩, h2 v w u⟩
  | four a x lo hi k =>
    refine Binds.of (xs := [4, 5, 6, 7, 8]) (avs := [a, x, lo, hi, k]) hl fun ρ vals kv g1 g2 g3 => ?_
    obtain ⟨u, rfl, hu⟩ := kv_one g2 g3
    match vals, g1 with
    | [v, w, y, z], g1 => exact ⟨[v, w, y, z, u], ⟨g1.1, g1.2.1, g1.2.2.1, g1.2.2.2.1, hu, trivial⟩, h4 v w y z u⟩
end Mine
namespace Mine
theorem k_loc22 (p : Params) : locOk (fdAt p 22) [0] = true := by kernel_rfl!
theorem k_loc47 (p : Params) : locOk (fdAt p 47) [10, 11] = true := by kernel_rfl!
theorem k_loc54 (p : Params) : locOk (fdAt p 54) [4, 12, 13] = true := by kernel_rfl!
theorem k_loc59 (p : Params) : locOk (fdAt p 59) [25] = true := by kernel_rfl!
theorem k_loc64 (p : Params) : locOk (fdAt p 64) [29] = true := by kernel_rfl!
theorem k_loc71 (p : Params) : locOk (fdAt p 71) [37] = true := by kernel_rfl!
theorem k_loc78 (p : Params) : locOk (fdAt p 78) [40] = true := by kernel_rfl!
theorem k_loc31 (p : Params) : locOk (fdAt p 31) [4, 5, 6, 7, 8] = true := by kernel_rfl!
theorem k_loc40 (p : Params) : locOk (fdAt p 40) [4, 5, 6, 7, 8] = true := by kernel_rfl!
section
variable {c : Cx} {p : Params}
theorem isFn_or {f : Addr} (h : isFn f = true) : f = 22 ∨ f = 31 ∨ f = 40 ∨ f = 47 ∨ f = 54 ∨ f = 59 ∨ f = 64 ∨ f = 71 ∨ f = 78 := by
  unfold isFn at h
  simp only [List.contains_eq_mem, decide_eq_true_eq, List.mem_cons, List.not_mem_nil, or_false] at h
  exact h
theorem Prg.of (ok : CxOk c) (hK : c.K = KK p) (hek : ∀ L, EnvOk (callEnvC (fdAt p 64) L 64) (fdAt p 64).scope.names) : Prg c := by
  obtain ⟨pr, w, hb, mg, mb, K⟩ := c
  dsimp only at hK
  subst hK
  refine ⟨ok, GlOk.of ok (k_glob p) (fun f hf => ?_) (k_bn p), ?_, ?_, ?_, ?_, ?_, ?_, ?_, ?_, ?_⟩
  · rcases isFn_or hf with rfl | rfl | rfl | rfl | rfl | rfl | rfl | rfl | rfl
    · exact ⟨_, _, FnOk.of (k_fd22 p) (k_look22 p)⟩
    · exact ⟨_, _, FnOk.of (k_fd31 p) (k_look31 p)⟩
    · exact ⟨_, _, FnOk.of (k_fd40 p) (k_look40 p)⟩
    · exact ⟨_, _, FnOk.of (k_fd47 p) (k_look47 p)⟩
    · exact ⟨_, _, FnOk.of (k_fd54 p) (k_look54 p)⟩
    · exact ⟨_, _, FnOk.of (k_fd59 p) (k_look59 p)⟩
    · exact ⟨_, _, FnOk.of (k_fd64 p) (k_look64 p)⟩
    · exact ⟨_, _, FnOk.of (k_fd71 p) (k_look71 p)⟩
    · exact ⟨_, _, FnOk.of (k_fd78 p) (k_look78 p)⟩
  · exact FnB.of (k_fd22 p) (k_look22 p) (k_nc22 p) (k_ok22 p) (bpos1 (k_loc22 p) (k_bind22 p))
  · exact FnB.of (k_fd31 p) (k_look31 p) (k_nc31 p) (k_ok31 p) (bkey (k_loc31 p) (k_bind31_2 p) (k_bind31_4 p))
  · exact FnB.of (k_fd40 p) (k_look40 p) (k_nc40 p) (k_ok40 p) (bkey (k_loc40 p) (k_bind40_2 p) (k_bind40_4 p))
  · exact FnB.of (k_fd47 p) (k_look47 p) (k_nc47 p) (k_ok47 p) (bpos2 (k_loc47 p) (k_bind47 p))
  · exact FnB.of (k_fd54 p) (k_look54 p) (k_nc54 p) (k_ok54 p) (bpos3 (k_loc54 p) (k_bind54 p))
  · exact FnB.of (k_fd59 p) (k_look59 p) (k_nc59 p) (k_ok59 p) (bpos1 (k_loc59 p) (k_bind59 p))
  · refine ⟨fdAt p 64, _, FnOk.of (k_fd64 p) (k_look64 p), by decide, k_bind64 p, ?_, k_ok64 p, hek⟩
    have h := k_loc64 p
    simp only [locOk, Bool.and_eq_true, List.all_eq_true, decide_eq_true_eq] at h
    exact h.2 (vS 29) (by simp)
  · exact FnB.of (k_fd71 p) (k_look71 p) (k_nc71 p) (k_ok71 p) (bpos1 (k_loc71 p) (k_bind71 p))
  · exact FnB.of (k_fd78 p) (k_look78 p) (k_nc78 p) (k_ok78 p) (bpos1 (k_loc78 p) (k_bind78 p))
end
end Mine
namespace Mine
theorem cellsFrom_has : ∀ (ns : List (Str × NameKind)) (n : Nat) (acc : List (Str × Addr)) (id : Str), ((id, NameKind.cell) ∈ ns ∨ ∃ cc, acc.lookup id = some cc) → ∃ cc, (cellsFrom n ns acc).lookup id = some cc
  | [], n, acc, id, h => by
    rcases h with h | h
    · simp at h
    · exact h
  | (x, k) :: r, n, acc, id, h => by
    unfold cellsFrom
    by_cases hk : (k == NameKind.cell) = true
    · rw [if_pos hk]
      refine cellsFrom_has r (n + 1) _ id ?_
      by_cases hx : (id == x) = true
      · right; exact ⟨n, by rw [List.lookup_cons, hx]⟩
      · rcases h with h | ⟨cc, h⟩
        · rcases List.mem_cons.mp h with h | h
          · cases h; exact absurd (beq_self_eq_true _) hx
          · exact .inl h
        · right
          exact ⟨cc, by rw [List.lookup_cons, show (id == x) = false by simpa using hx]; exact h⟩
    · rw [if_neg hk]
      refine cellsFrom_has r n acc id ?_
      rcases h with h | h
      · rcases List.mem_cons.mp h with h | h
        · cases h; exact absurd rfl hk
        · exact .inl h
      · exact .inr h
theorem cells_ok {ns : List (Str × NameKind)} {L : Nat} : ∀ id, ns.lookup id = some .cell → ∃ cc, (cellsFrom (L + 1) ns []).lookup id = some cc := by
  intro id e
  obtain ⟨l₁, l₂, h3, _⟩ := List.lookup_eq_some_iff.mp e
  exact cellsFrom_has ns (L + 1) [] id (.inl (h3 ▸ (by simp)))
theorem ek64 {p : Params} (L : Addr) : EnvOk (callEnvC (fdAt p 64) L 64) (fdAt p 64).scope.names := by
  refine ⟨rfl, ?_, cells_ok⟩
  have h := k_look64 p
  simp only [fnLook, Bool.and_eq_true, decide_eq_true_eq] at h
  exact h.1.1.1.2
theorem Prg.mk' {c : Cx} {p : Params} (ok : CxOk c) (hK : c.K = KK p) : Prg c := Prg.of ok hK ek64
end Mine
namespace Mine
noncomputable def flagI : List (Int × PyData) := [(1, .str (Str.ofString "OPTIMIZED")), (2, .str (Str.ofString "NEWLOCALS")), (4, .str (Str.ofString "VARARGS")), (8, .str (Str.ofString "VARKEYWORDS")), (16, .str (Str.ofString "NESTED")),
  (32, .str (Str.ofString "GENERATOR")), (64, .str (Str.ofString "NOFREE")), (128, .str (Str.ofString "COROUTINE")), (256, .str (Str.ofString "ITERABLE_COROUTINE")), (512, .str (Str.ofString "ASYNC_GENERATOR"))]
theorem k_dict (p : Params) : KTD.keyedLook (fun b => (KK p).lookup b) 15 flagI = true := by kernel_rfl!
theorem CxOk.of {prog : Program} {w : World} {h : Heap} {mg mb : Str → Option Value} {p : Params} (g : h.Ns mainGlobals mg) (b : h.Ns builtinsNs mb) (bt : ∀ x : Str, x ≠ "__name__" → mb x = bootBuiltins x) (lim : h.NoLimit) (X : (KK p).In h) : CxOk ⟨prog, w, h, mg, mb, KK p⟩ :=
  ⟨g, b, bt, lim, X, kt_keyed_in X (k_dict p) prog w⟩
end Mine
namespace Mine
theorem ints_val {ρ : List Addr} : ∀ {vs : List Value} {ns : List Int}, IntsAre vs ns → ValL ρ (iL ns) vs := by
  intro vs ns h
  induction ns generalizing vs with
  | nil => cases vs with
    | nil => trivial
    | cons => cases h
  | cons n ns ih => cases vs with
    | nil => cases h
    | cons v vs =>
      cases h
      exact ⟨⟨_, rfl⟩, ih (by assumption)⟩
theorem law_run {prog : Program} {w : World} {h₀ : Heap} {mg mb : Str → Option Value} {p : Params} (ok : CxOk ⟨prog, w, h₀, mg, mb, KK p⟩) {name rn : Str} {scope : Scope} {fa a L : Addr} {cd : Value} {body : List Stmt} {vs : List Value} {ns : List Int}
    (hk : scope.kind = .function) (hloc : scope.names.lookup (vS 25) = some .local) (hcells : cellsFrom (L + 1) scope.names [] = [(rn, L + 1)]) (hok : okSs scope.names 200 b_law body = true)
    (hL : h₀.IsList a vs.toArray) (hI : IntsAre vs ns) (hn : ns.length ≤ 5000) {m : Str → Option Value} {oc : Obj} {cv0 : Option Value} {s : Shared}
    (F : Fr h₀ L s.heap m) (hm : m (vS 25) = some (.ref a)) (N : News h₀ L s.heap [(L + 1, oc)]) (hc : oc.data = .cell cv0) {A : Around} (hA : AOk 3 A) {Q : Flow → Shared → Prop} {E : Value → Shared → Prop}
    (q : ∀ h' tk' m', Fr h₀ L h' m' → Q (.ret (.bool true)) { s with heap := h', toks := tk' }) : wpAny (model prog w) A (execs body (envOfC name scope L fa cd)) Q E s := by
  have pg := Prg.mk' ok rfl
  have ek : EnvOk (envOfC name scope L fa cd) scope.names := ⟨rfl, hk, cells_ok⟩
  have fm : Fm ⟨prog, w, h₀, mg, mb, KK p⟩ 3 (envOfC name scope L fa cd) scope.names (cwU _ 3) := ⟨ok, pg.gk, ek, cwU_ok⟩
  have hms := MS.law (d := 0) pg fm (o := ⟨false, false, iL ns⟩) (sc := ns) rfl (P := fun a _ _ => a = .ret (.bool true)) (fun _ _ => rfl) 200 body hok
  obtain ⟨oL, hoL, hrL⟩ := hL
  have hLn : h₀.get? L = none := by
    cases e : h₀.get? L with
    | none => rfl
    | some o => exact absurd (Heap.lt_size e) (Nat.not_lt.mpr F.above)
  obtain ⟨n1, n2, n3⟩ := N (L + 1, oc) List.mem_cons_self
  have haL : L ∉ [a] := by
    intro h; rw [List.mem_singleton.mp h, hoL] at hLn; cases hLn
  have at0 : AtH h₀ [a] [⟨false, false, iL ns⟩] s.heap := by
    refine ⟨F.keep, rfl, by simp, fun i o b e1 e2 => ?_⟩
    match i with
    | 0 =>
      simp at e1 e2
      subst e1 e2
      exact ⟨vs, ⟨oL, F.keep _ _ hoL, hrL⟩, ints_val hI, (fun h => by cases h), (fun h => by cases h), by simpa [iL] using hn⟩
    | i + 1 => simp at e1
  have hcl : ∀ x cc, (envOfC name scope L fa cd).cells.lookup x = some cc → x = rn ∧ cc = L + 1 := by
    intro x cc e
    rw [show (envOfC name scope L fa cd).cells = cellsFrom (L + 1) scope.names [] from rfl, hcells] at e
    rw [List.lookup_cons] at e
    cases hx : x == rn with
    | true => rw [hx] at e; cases e; exact ⟨beq_iff_eq.mp hx, rfl⟩
    | false => rw [hx] at e; cases e
  have f0 : AtF h₀ [a] (envOfC name scope L fa cd) [(25, .ref 0)] s.heap := by
    refine ⟨hk, rfl, rfl, ⟨m, F.ns, fun x v hx e _ => ?_⟩, fun x cc e => ?_, fun x y cc e1 e2 => (hcl x cc e1).1.trans (hcl y cc e2).1.symm, fun x v hx e hkk => ?_, haL, hLn⟩
    · simp only [lget] at e
      split at e
      · rename_i hb
        have := Nat.eq_of_beq_eq_true hb
        subst this
        cases e
        exact ⟨_, hm, ⟨a, rfl, rfl⟩⟩
      · cases e
    · obtain ⟨rfl, rfl⟩ := hcl x cc e
      refine ⟨⟨cv0, oc, n1, hc⟩, ?_, n3, n2⟩
      intro h
      rw [List.mem_singleton.mp h, hoL] at n3; cases n3
    · simp only [lget] at e
      split at e
      · rename_i hb
        have := Nat.eq_of_beq_eq_true hb
        subst this
        exact absurd hloc hkk
      · cases e
  refine TS.seq hms hA at0 f0 fun fl h₂ tk₂ ρ₂ H₂ l₂ r at2 f2 x2 r2 p2 => ?_
  subst p2
  obtain ⟨u, rfl, hv⟩ := r2
  cases hv
  obtain ⟨m', hm', _⟩ := f2.ns
  exact q h₂ tk₂ m' ⟨hm', at2.keep, F.above⟩
end Mine
namespace Mine
theorem aok {env : Env} : AOk 3 (callerA.deeper env) := ⟨rfl, by show callerA.depth + 1 + 3 < 900; decide, by show callerA.units + 3 + 4 * 3 < 9000; decide⟩
set_option maxRecDepth 100000 in
set_option maxHeartbeats 8000000 in
theorem holds : PySem.Challenge.rw_rl0048_01.Holds := hd (by
  k_go0
  rename Top _ _ _ _ _ _ => T
  rename Frag.In _ _ => KX
  rename Heap.IsList _ _ _ => hL
  rename IntsAre _ _ => hI
  rename Fr _ _ _ _ => F
  rename News _ _ _ _ => N
  refine law_run (CxOk.of T.g T.b T.builtins T.nolimit KX) (rn := Str.ofString "row") ?_ ?_ ?_ ?_ hL hI ?_ F ?_ N (by assumption) ?_ ?_
  · rfl
  · kernel_rfl!
  · kernel_rfl!
  · kernel_rfl!
  · omega
  · kernel_rfl!
  · exact aok
  · intro h' tk' m' F'
    exact goodW_bool (s' := { heap := h', gens := _, drawn := _, toks := tk', os := _ }) F' (by assumption) (fun _ => rfl) (by kernel_rfl!))
end Mine
theorem PySem.Challenge.cw_rl0048_01_holds : PySem.Challenge.rw_rl0048_01.Holds := by
  exact Mine.holds

