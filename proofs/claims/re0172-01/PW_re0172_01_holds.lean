import PyProof.Rows.All
import Wide.All
import OpenK.AllK
import Wide.FinOn
import PySem.Challenge.RW_re0172_01
open PySem PySem.W PyProof.Rows
set_option Elab.async false
set_option exponentiation.threshold 2000
set_option maxRecDepth 100000
namespace Mine
/-! M1: the data, the frozen part of the heap, the relation -/
abbrev KM := Addr → Option Obj
noncomputable def KM.add (K : KM) (a : Addr) (o : Obj) : KM := fun b => if b = a then some o else K b
noncomputable def Kn (K : KM) (h : Heap) : Prop := ∀ b o, K b = some o → h.get? b = some o
noncomputable def Le (K K' : KM) : Prop := ∀ b o, K b = some o → K' b = some o
theorem Le.refl (K : KM) : Le K K := fun _ _ e => e
theorem Le.trans {K K' K'' : KM} (x : Le K K') (y : Le K' K'') : Le K K'' := fun b o e => y b o (x b o e)
theorem Le.add {K : KM} {a : Addr} (o : Obj) (h : K a = none) : Le K (K.add a o) := fun b o' e => by
  unfold KM.add
  by_cases hb : b = a
  · subst hb; rw [h] at e; cases e
  · rw [if_neg hb]; exact e
theorem KM.add_self (K : KM) (a : Addr) (o : Obj) : K.add a o a = some o := by simp [KM.add]
theorem Kn.add {K : KM} {h : Heap} {a : Addr} {o : Obj} (x : Kn K h) (e : h.get? a = some o) : Kn (K.add a o) h := fun b o' q => by
  unfold KM.add at q
  by_cases hb : b = a
  · subst hb; rw [if_pos rfl] at q; cases q; exact e
  · rw [if_neg hb] at q; exact x b o' q
theorem Kn.keeps {K : KM} {h h' : Heap} (x : Kn K h) (k : ∀ b o, h.get? b = some o → h'.get? b = some o) : Kn K h' := fun b o e => k b o (x b o e)
theorem Kn.le {K K' : KM} {h : Heap} (x : Kn K' h) (l : Le K K') : Kn K h := fun b o e => x b o (l b o e)
theorem Kn.none_size {K : KM} {h : Heap} (x : Kn K h) {a : Addr} (ha : h.objs.size ≤ a) : K a = none := by
  cases e : K a with
  | none => rfl
  | some o => exact absurd (Heap.lt_size (x a o e)) (Nat.not_lt.mpr ha)

inductive D where
  | none | bool (b : Bool) | int (i : Int) | flt (x : UInt64) | str (s : Str)
  | tup (ds : List D) | list (ds : List D)
  | dII (es : List (Int × Int)) | dIS (es : List (Int × Str)) | dSI (es : List (Str × Int))
  | set (xs : List Int)

section
variable (prog : Program) (w : World)
mutual
inductive Rep (K : KM) : D → Value → Prop
  | none : Rep K .none .none
  | bool (b : Bool) : Rep K (.bool b) (.bool b)
  | int (i : Int) (t : Tok) : Rep K (.int i) (.int i t)
  | flt (x : UInt64) (t : Tok) : Rep K (.flt x) (.float x t)
  | str (x : Str) (t : Tok) : Rep K (.str x) (.str x t)
  | tup {ds : List D} {vs : List Value} {a : Addr} {n : Nat} : K a = some { cls := .type "tuple", data := .seq vs.toArray n } → Reps K ds vs → Rep K (.tup ds) (.ref a)
  | list {ds : List D} {vs : List Value} {a : Addr} {n : Nat} : K a = some { cls := .type "list", data := .seq vs.toArray n } → Reps K ds vs → Rep K (.list ds) (.ref a)
  | dII {es : List (Int × Int)} {a : Addr} {f : Int → Option Value} : (∀ h, Kn K h → h.MapOf (intKind prog w) a f) → (a == sysModules) = false →
      (∀ k i, es.lookup k = some i → ∃ t, f k = some (.int i t)) → (∀ k, es.lookup k = Option.none → f k = Option.none) → Rep K (.dII es) (.ref a)
  | dIS {es : List (Int × Str)} {a : Addr} {f : Int → Option Value} : (∀ h, Kn K h → h.MapOf (intKind prog w) a f) → (a == sysModules) = false →
      (∀ k i, es.lookup k = some i → ∃ t, f k = some (.str i t)) → (∀ k, es.lookup k = Option.none → f k = Option.none) → Rep K (.dIS es) (.ref a)
  | dSI {es : List (Str × Int)} {a : Addr} {f : Str → Option Value} : (∀ h, Kn K h → h.MapOf (PySem.strKind prog w) a f) → (a == sysModules) = false →
      (∀ k i, es.lookup k = some i → ∃ t, f k = some (.int i t)) → (∀ k, es.lookup k = Option.none → f k = Option.none) → Rep K (.dSI es) (.ref a)
  | set {xs : List Int} {a : Addr} : (∀ h, Kn K h → h.SetOf (intKind prog w) a (fun k => xs.any (· == k)) xs.length) → Rep K (.set xs) (.ref a)
inductive Reps (K : KM) : List D → List Value → Prop
  | nil : Reps K [] []
  | cons {d : D} {v : Value} {ds : List D} {vs : List Value} : Rep K d v → Reps K ds vs → Reps K (d :: ds) (v :: vs)
end
/-- what a value is that stands for a datum: read off the datum -/
noncomputable def RepI (K : KM) : D → Value → Prop
  | .none, v => v = .none
  | .bool b, v => v = .bool b
  | .int i, v => ∃ t, v = .int i t
  | .flt x, v => ∃ t, v = .float x t
  | .str x, v => ∃ t, v = .str x t
  | .tup ds, v => ∃ vs a n, v = .ref a ∧ K a = some { cls := .type "tuple", data := .seq vs.toArray n } ∧ Reps prog w K ds vs
  | .list ds, v => ∃ vs a n, v = .ref a ∧ K a = some { cls := .type "list", data := .seq vs.toArray n } ∧ Reps prog w K ds vs
  | .dII es, v => ∃ (a : Addr) (f : Int → Option Value), v = .ref a ∧ (∀ h, Kn K h → h.MapOf (intKind prog w) a f) ∧ (a == sysModules) = false ∧
      (∀ k i, es.lookup k = some i → ∃ t, f k = some (.int i t)) ∧ (∀ k, es.lookup k = Option.none → f k = Option.none)
  | .dIS es, v => ∃ (a : Addr) (f : Int → Option Value), v = .ref a ∧ (∀ h, Kn K h → h.MapOf (intKind prog w) a f) ∧ (a == sysModules) = false ∧
      (∀ k i, es.lookup k = some i → ∃ t, f k = some (.str i t)) ∧ (∀ k, es.lookup k = Option.none → f k = Option.none)
  | .dSI es, v => ∃ (a : Addr) (f : Str → Option Value), v = .ref a ∧ (∀ h, Kn K h → h.MapOf (PySem.strKind prog w) a f) ∧ (a == sysModules) = false ∧
      (∀ k i, es.lookup k = some i → ∃ t, f k = some (.int i t)) ∧ (∀ k, es.lookup k = Option.none → f k = Option.none)
  | .set xs, v => ∃ a, v = .ref a ∧ ∀ h, Kn K h → h.SetOf (intKind prog w) a (fun k => xs.any (· == k)) xs.length
theorem Rep.inv {prog : Program} {w : World} {K : KM} {d : D} {v : Value} : Rep prog w K d v → RepI prog w K d v
  | .none => rfl
  | .bool _ => rfl
  | .int _ t => ⟨t, rfl⟩
  | .flt _ t => ⟨t, rfl⟩
  | .str _ t => ⟨t, rfl⟩
  | .tup g r => ⟨_, _, _, rfl, g, r⟩
  | .list g r => ⟨_, _, _, rfl, g, r⟩
  | .dII a b c d => ⟨_, _, rfl, a, b, c, d⟩
  | .dIS a b c d => ⟨_, _, rfl, a, b, c, d⟩
  | .dSI a b c d => ⟨_, _, rfl, a, b, c, d⟩
  | .set g => ⟨_, rfl, g⟩
theorem no_none {α : Type} {r : α} {P : Prop} (h : Option.none = some r) : P := nomatch h
theorem some_inj {α : Type} {x r : α} (h : some x = some r) : x = r := Option.some.inj h
theorem ite_inj {α : Type} {c : Prop} [Decidable c] {x r : α} (h : (if c then some x else Option.none) = some r) : c ∧ x = r := by
  by_cases hc : c
  · rw [if_pos hc] at h; exact ⟨hc, some_inj h⟩
  · rw [if_neg hc] at h; cases h
theorem ite_inj' {α : Type} {c : Prop} [Decidable c] {x r : α} (h : (if c then Option.none else some x) = some r) : ¬ c ∧ x = r := by
  by_cases hc : c
  · rw [if_pos hc] at h; cases h
  · rw [if_neg hc] at h; exact ⟨hc, some_inj h⟩
end

section
variable {prog : Program} {w : World}
mutual
theorem Rep.mono {K K' : KM} (l : Le K K') : ∀ {d : D} {v : Value}, Rep prog w K d v → Rep prog w K' d v
  | _, _, .none => .none
  | _, _, .bool b => .bool b
  | _, _, .int i t => .int i t
  | _, _, .flt x t => .flt x t
  | _, _, .str x t => .str x t
  | _, _, .tup h hs => .tup (l _ _ h) (Reps.mono l hs)
  | _, _, .list h hs => .list (l _ _ h) (Reps.mono l hs)
  | _, _, .dII h a b c => .dII (fun hp k => h hp (k.le l)) a b c
  | _, _, .dIS h a b c => .dIS (fun hp k => h hp (k.le l)) a b c
  | _, _, .dSI h a b c => .dSI (fun hp k => h hp (k.le l)) a b c
  | _, _, .set h => .set (fun hp k => h hp (k.le l))
theorem Reps.mono {K K' : KM} (l : Le K K') : ∀ {ds : List D} {vs : List Value}, Reps prog w K ds vs → Reps prog w K' ds vs
  | _, _, .nil => .nil
  | _, _, .cons h hs => .cons (Rep.mono l h) (Reps.mono l hs)
end
theorem Reps.length {K : KM} : ∀ {ds : List D} {vs : List Value}, Reps prog w K ds vs → vs.length = ds.length
  | _, _, .nil => rfl
  | _, _, .cons _ hs => by simp [Reps.length hs]
theorem Reps.get {K : KM} : ∀ {ds : List D} {vs : List Value}, Reps prog w K ds vs → ∀ {i : Nat} {d : D}, ds[i]? = some d → ∃ v, vs[i]? = some v ∧ Rep prog w K d v
  | _, _, .nil, i, d, h => by simp at h
  | _, _, .cons (d := d0) (v := v0) h0 hs, 0, d, h => by simp at h; subst h; exact ⟨v0, by simp, h0⟩
  | _, _, .cons h0 hs, i + 1, d, h => by
    simp at h
    obtain ⟨v, a, b⟩ := Reps.get hs h
    exact ⟨v, by simpa using a, b⟩
theorem Reps.append {K : KM} : ∀ {ds : List D} {vs : List Value}, Reps prog w K ds vs → ∀ {es : List D} {us : List Value}, Reps prog w K es us → Reps prog w K (ds ++ es) (vs ++ us)
  | _, _, .nil, _, _, h => h
  | _, _, .cons a b, _, _, h => .cons a (Reps.append b h)
theorem Reps.drop {K : KM} : ∀ (n : Nat) {ds : List D} {vs : List Value}, Reps prog w K ds vs → Reps prog w K (ds.drop n) (vs.drop n)
  | 0, _, _, h => h
  | _ + 1, _, _, .nil => .nil
  | n + 1, _, _, .cons _ b => Reps.drop n b
theorem Reps.take {K : KM} : ∀ (n : Nat) {ds : List D} {vs : List Value}, Reps prog w K ds vs → Reps prog w K (ds.take n) (vs.take n)
  | 0, _, _, _ => .nil
  | _ + 1, _, _, .nil => .nil
  | n + 1, _, _, .cons a b => .cons a (Reps.take n b)

/-- what an expression may do: the heap grows, new frozen objects are fresh -/
structure Ext (K : KM) (s : Shared) (K' : KM) (s' : Shared) : Prop where
  le : Le K K'
  kn : Kn K' s'.heap
  keeps : Keeps s s'
  fresh : ∀ b, K b = none → K' b ≠ none → s.heap.get? b = none

theorem Keeps.refl' (s : Shared) : Keeps s s := ⟨s.heap, s.toks, by cases s; rfl, fun _ _ e => e⟩
theorem Keeps.trans' {s s' s'' : Shared} (x : Keeps s s') (y : Keeps s' s'') : Keeps s s'' := by
  obtain ⟨h, t, rfl, k⟩ := x
  obtain ⟨h', t', rfl, k'⟩ := y
  exact ⟨h', t', rfl, fun b o e => k' b o (k b o e)⟩
theorem Keeps.heap {s s' : Shared} (x : Keeps s s') : ∀ b o, s.heap.get? b = some o → s'.heap.get? b = some o := by
  obtain ⟨h, t, rfl, k⟩ := x; exact k
theorem Ext.refl {K : KM} {s : Shared} (k : Kn K s.heap) : Ext K s K s := ⟨.refl K, k, Keeps.refl' s, fun _ a b => absurd a b⟩
theorem Ext.toks {K : KM} {s : Shared} (k : Kn K s.heap) (t : Nat) : Ext K s K { s with toks := t } := ⟨.refl K, k, ⟨s.heap, t, rfl, fun _ _ e => e⟩, fun _ a b => absurd a b⟩
theorem Ext.heap {K : KM} {s : Shared} (k : Kn K s.heap) {h' : Heap} {t : Nat} (hk : ∀ b o, s.heap.get? b = some o → h'.get? b = some o) : Ext K s K { s with heap := h', toks := t } :=
  ⟨.refl K, k.keeps hk, ⟨h', t, rfl, hk⟩, fun _ a b => absurd a b⟩
theorem Ext.trans {K K' K'' : KM} {s s' s'' : Shared} (x : Ext K s K' s') (y : Ext K' s' K'' s'') : Ext K s K'' s'' :=
  ⟨x.le.trans y.le, y.kn, Keeps.trans' x.keeps y.keeps, fun b h0 h2 => by
    cases h1 : K' b with
    | none =>
      have := y.fresh b h1 h2
      cases e : s.heap.get? b with
      | none => rfl
      | some o => have := Keeps.heap x.keeps b o e; simp_all
    | some o => exact x.fresh b h0 (by simp [h1])⟩
/-- one new frozen object -/
theorem Ext.one {K : KM} {s : Shared} (k : Kn K s.heap) {h' : Heap} {t : Nat} {a : Addr} {o : Obj} (hk : ∀ b o, s.heap.get? b = some o → h'.get? b = some o)
    (hn : s.heap.get? a = none) (ha : h'.get? a = some o) : Ext K s (K.add a o) { s with heap := h', toks := t } := by
  have hKa : K a = none := by
    cases e : K a with
    | none => rfl
    | some o' => have := k a o' e; rw [hn] at this; cases this
  exact ⟨Le.add o hKa, (k.keeps hk).add ha, ⟨h', t, rfl, hk⟩, fun b h0 h1 => by
    unfold KM.add at h1
    by_cases hb : b = a
    · subst hb; exact hn
    · rw [if_neg hb] at h1; exact absurd h0 h1⟩
theorem Ext.push {K : KM} {s : Shared} (k : Kn K s.heap) {o : Obj} (ho : o.isFreed = false) (t : Nat) : Ext K s (K.add s.heap.objs.size o) { s with heap := s.heap.push o, toks := t } :=
  Ext.one k (fun b o' e => Heap.get?_push_of_some _ e) (by
    cases e : s.heap.get? s.heap.objs.size with
    | none => rfl
    | some o' => exact absurd (Heap.lt_size e) (Nat.lt_irrefl _)) (Heap.get?_push_size _ ho)

noncomputable def Good (prog : Program) (w : World) (K : KM) (s : Shared) (d : D) : Value → Shared → Prop := fun v s' => ∃ K', Ext K s K' s' ∧ Rep prog w K' d v
theorem Good.from {K K' : KM} {s s' : Shared} (x : Ext K s K' s') {d : D} {v : Value} {s'' : Shared} (g : Good prog w K' s' d v s'') : Good prog w K s d v s'' :=
  let ⟨K'', y, r⟩ := g; ⟨K'', x.trans y, r⟩
theorem Good.plain {K : KM} {s : Shared} (k : Kn K s.heap) {d : D} {v : Value} (r : Rep prog w K d v) : Good prog w K s d v s := ⟨K, .refl k, r⟩
theorem Good.tok {K : KM} {s : Shared} (k : Kn K s.heap) {d : D} {v : Value} (t : Nat) (r : Rep prog w K d v) : Good prog w K s d v { s with toks := t } := ⟨K, .toks k t, r⟩

theorem good_list {K : KM} {s : Shared} (k : Kn K s.heap) {ds : List D} {vs : List Value} (r : Reps prog w K ds vs) {xs : Array Value} (hx : xs = vs.toArray) (t : Nat) :
    Good prog w K s (.list ds) (.ref s.heap.objs.size) { s with heap := s.heap.push { cls := .type "list", data := .seq xs }, toks := t } := by
  have x := Ext.push (o := { cls := .type "list", data := .seq xs }) k rfl t
  subst hx
  exact ⟨_, x, .list (KM.add_self _ _ _) (r.mono x.le)⟩
theorem good_tup {K : KM} {s : Shared} (k : Kn K s.heap) {ds : List D} {vs : List Value} (r : Reps prog w K ds vs) {xs : Array Value} (hx : xs = vs.toArray) (t : Nat) :
    Good prog w K s (.tup ds) (.ref s.heap.objs.size) { s with heap := s.heap.push { cls := .type "tuple", data := .seq xs }, toks := t } := by
  have x := Ext.push (o := { cls := .type "tuple", data := .seq xs }) k rfl t
  subst hx
  exact ⟨_, x, .tup (KM.add_self _ _ _) (r.mono x.le)⟩

/-- the arithmetic -/
noncomputable def small (a : Int) : Bool := decide (a.natAbs < 2 ^ 64)
noncomputable def binop : Operator → D → D → Option D
  | .Add, .int a, .int b => some (.int (a + b))
  | .Sub, .int a, .int b => some (.int (a - b))
  | .Mult, .int a, .int b => if small a = true then some (.int (a * b)) else none
  | .FloorDiv, .int a, .int b => if b = 0 ∨ 1073741824 ≤ b.natAbs then none else some (.int (a.fdiv b))
  | .Mod, .int a, .int b => if b = 0 ∨ 1073741824 ≤ b.natAbs then none else some (.int (a.fmod b))
  | .Pow, .int a, .int n => if 0 ≤ n ∧ n ≤ 1000000 ∧ small a = true then some (.int (a ^ n.toNat)) else none
  | .Add, .flt a, .flt b => some (.flt (Float64.add a b))
  | .Sub, .flt a, .flt b => some (.flt (Float64.sub a b))
  | .Mult, .flt a, .flt b => some (.flt (Float64.mul a b))
  | .Div, .flt a, .flt b => if Float64.isZero b = true then none else some (.flt (Float64.div a b))
  | .Mod, .flt a, .flt b => if Float64.isZero b = true then none else some (.flt (Float64.divmod a b).2)
  | .Sub, .flt a, .int n => if small n = true then some (.flt (Float64.sub a (Float64.ofInt n))) else none
  | .Div, .int n, .flt b => if small n = true ∧ ¬ Float64.isZero b = true then some (.flt (Float64.div (Float64.ofInt n) b)) else none
  | .Add, .str x, .str y => if x.length + y.length ≤ 100000 then some (.str (x ++ y)) else none
  | .Add, .list xs, .list ys => if xs.length + ys.length ≤ 100000 then some (.list (xs ++ ys)) else none
  | _, _, _ => none

theorem fits_of_small {n : Int} (h : small n = true) : n.natAbs < 2 ^ 1023 := by
  simp only [small, decide_eq_true_eq] at h
  exact Nat.lt_of_lt_of_le h (Nat.pow_le_pow_right (by decide) (by decide))

variable {A : Around} {E : Value → Shared → Prop} {s : Shared}
theorem binop_sound {K : KM} {op : Operator} {d e r : D} {v u : Value} (hk : Kn K s.heap) (hv : Rep prog w K d v) (hu : Rep prog w K e u) (h : binop op d e = some r) :
    wpAny (model prog w) A (binaryOp op v u) (Good prog w K s r) E s := by
  cases op with
  | Add => cases d with
    | int _ => cases e with
      | int _ =>
      obtain rfl := some_inj h; obtain ⟨_, rfl⟩ := hv.inv; obtain ⟨_, rfl⟩ := hu.inv; exact add_int (.tok hk _ (.int _ _))
      | _ => exact no_none h
    | flt _ => cases e with
      | flt _ =>
      obtain rfl := some_inj h; obtain ⟨_, rfl⟩ := hv.inv; obtain ⟨_, rfl⟩ := hu.inv; exact add_float (.tok hk _ (.flt _ _))
      | _ => exact no_none h
    | str _ => cases e with
      | str _ =>
      obtain ⟨hs, rfl⟩ := ite_inj h; obtain ⟨_, rfl⟩ := hv.inv; obtain ⟨_, rfl⟩ := hu.inv; exact PyProof.Rows.add_str (fun t' tk => .tok hk _ (.str _ _)) (Nat.le_trans hs (by decide))
      | _ => exact no_none h
    | list _ => cases e with
      | list _ =>
      obtain ⟨hs, rfl⟩ := ite_inj h
      obtain ⟨_, _, _, rfl, hl, r1⟩ := hv.inv; obtain ⟨_, _, _, rfl, hm, r2⟩ := hu.inv
      have hz := r1.length; have hz2 := r2.length
      refine PySem.P.add_list (hk _ _ hl) (hk _ _ hm) ?_ (by rw [List.size_toArray, List.size_toArray, hz, hz2]; exact Nat.le_trans hs (by decide))
      exact good_list hk (r1.append r2) (by simp) s.toks
      | _ => exact no_none h
    | _ => exact no_none h
  | Sub => cases d with
    | int _ => cases e with
      | int _ =>
      obtain rfl := some_inj h; obtain ⟨_, rfl⟩ := hv.inv; obtain ⟨_, rfl⟩ := hu.inv; exact sub_int (.tok hk _ (.int _ _))
      | _ => exact no_none h
    | flt _ => cases e with
      | flt _ =>
      obtain rfl := some_inj h; obtain ⟨_, rfl⟩ := hv.inv; obtain ⟨_, rfl⟩ := hu.inv; exact sub_float (.tok hk _ (.flt _ _))
      | int _ =>
      obtain ⟨hs, rfl⟩ := ite_inj h; obtain ⟨_, rfl⟩ := hv.inv; obtain ⟨_, rfl⟩ := hu.inv; exact sub_fi_fits (fits_of_small hs) (.tok hk _ (.flt _ _))
      | _ => exact no_none h
    | _ => exact no_none h
  | Mult => cases d with
    | int _ => cases e with
      | int _ =>
      obtain ⟨hs, rfl⟩ := ite_inj h; obtain ⟨_, rfl⟩ := hv.inv; obtain ⟨_, rfl⟩ := hu.inv; exact mul_int (.tok hk _ (.int _ _)) (.of_left (intBits_le (by simpa [small] using hs)))
      | _ => exact no_none h
    | flt _ => cases e with
      | flt _ =>
      obtain rfl := some_inj h; obtain ⟨_, rfl⟩ := hv.inv; obtain ⟨_, rfl⟩ := hu.inv; exact mul_float (.tok hk _ (.flt _ _))
      | _ => exact no_none h
    | _ => exact no_none h
  | FloorDiv => cases d with
    | int _ => cases e with
      | int _ =>
      obtain ⟨hs, rfl⟩ := ite_inj' h; obtain ⟨_, rfl⟩ := hv.inv; obtain ⟨_, rfl⟩ := hu.inv; exact floordiv_int (fun e => hs (.inl e)) (.tok hk _ (.int _ _)) (.inl (PyProof.noPylong_small (Nat.lt_of_not_le fun e => hs (.inr e))))
      | _ => exact no_none h
    | _ => exact no_none h
  | Mod => cases d with
    | int _ => cases e with
      | int _ =>
      obtain ⟨hs, rfl⟩ := ite_inj' h; obtain ⟨_, rfl⟩ := hv.inv; obtain ⟨_, rfl⟩ := hu.inv; exact mod_int' (fun e => hs (.inl e)) (.tok hk _ (.int _ _))
      | _ => exact no_none h
    | flt _ => cases e with
      | flt _ =>
      obtain ⟨hs, rfl⟩ := ite_inj' h; obtain ⟨_, rfl⟩ := hv.inv; obtain ⟨_, rfl⟩ := hu.inv; exact AutoFloatOps.mod_1 hs (.tok hk _ (.flt _ _))
      | _ => exact no_none h
    | _ => exact no_none h
  | Pow => cases d with
    | int _ => cases e with
      | int _ =>
      obtain ⟨hs, rfl⟩ := ite_inj h; obtain ⟨_, rfl⟩ := hv.inv; obtain ⟨_, rfl⟩ := hu.inv; exact pow_int_small hs.1 hs.2.1 (by simpa [small] using hs.2.2) (.tok hk _ (.int _ _))
      | _ => exact no_none h
    | _ => exact no_none h
  | Div => cases d with
    | flt _ => cases e with
      | flt _ =>
      obtain ⟨hs, rfl⟩ := ite_inj' h; obtain ⟨_, rfl⟩ := hv.inv; obtain ⟨_, rfl⟩ := hu.inv; exact AutoFloatOps.truediv_1 hs (.tok hk _ (.flt _ _))
      | _ => exact no_none h
    | int _ => cases e with
      | flt _ =>
      obtain ⟨hs, rfl⟩ := ite_inj h; obtain ⟨_, rfl⟩ := hv.inv; obtain ⟨_, rfl⟩ := hu.inv; exact AutoFloatOps.truediv_if_2 (Float64.ofInt_fits (fits_of_small hs.1)) hs.2 (.tok hk _ (.flt _ _))
      | _ => exact no_none h
    | _ => exact no_none h
  | _ => exact no_none h
end
end Mine

namespace Mine
/-! M2: comparisons -/
mutual
noncomputable def toP : D → Option PyData
  | .none => some .none
  | .bool b => some (.bool b)
  | .int i => some (.int i)
  | .str x => some (.str x)
  | .tup ds => match toPs ds with | some ps => some (.tuple ps) | Option.none => Option.none
  | .list ds => match toPs ds with | some ps => some (.list ps) | Option.none => Option.none
  | _ => Option.none
noncomputable def toPs : List D → Option (List PyData)
  | [] => some []
  | d :: ds => match toP d with
    | some p => match toPs ds with | some ps => some (p :: ps) | Option.none => Option.none
    | Option.none => Option.none
end
noncomputable def intsOf : List D → Option (List Int)
  | [] => some []
  | .int i :: ds => match intsOf ds with | some is => some (i :: is) | Option.none => Option.none
  | _ :: _ => Option.none

structure Room (n : Nat) (A : Around) : Prop where
  handled : A.handled = none
  depth : A.depth + n < recursionLimit
  units : A.units + 100 + 10 * n < cLine

section
variable {prog : Program} {w : World}
mutual
theorem reads_of {K : KM} {h : Heap} (k : Kn K h) : ∀ {d : D} {v : Value}, Rep prog w K d v → ∀ {p : PyData}, toP d = some p → ∃ as, Reads h v p as
  | _, _, .none, p, e => by simp [toP] at e; subst e; exact ⟨_, .none⟩
  | _, _, .bool b, p, e => by simp [toP] at e; subst e; exact ⟨_, .bool b⟩
  | _, _, .int i t, p, e => by simp [toP] at e; subst e; exact ⟨_, .int i t⟩
  | _, _, .flt x t, p, e => by simp [toP] at e
  | _, _, .str x t, p, e => by simp [toP] at e; subst e; exact ⟨_, .str x t⟩
  | _, _, .tup (vs := vs) g hs, p, e => by
    simp only [toP] at e
    split at e
    · rename_i ps he; cases e
      obtain ⟨as, r⟩ := readsAll_of k hs he
      exact ⟨_, .tuple (k _ _ g) rfl rfl (by simpa using r)⟩
    · cases e
  | _, _, .list (vs := vs) g hs, p, e => by
    simp only [toP] at e
    split at e
    · rename_i ps he; cases e
      obtain ⟨as, r⟩ := readsAll_of k hs he
      exact ⟨_, .list (k _ _ g) rfl rfl (by simpa using r)⟩
    · cases e
  | _, _, .dII _ _ _ _, p, e => by simp [toP] at e
  | _, _, .dIS _ _ _ _, p, e => by simp [toP] at e
  | _, _, .dSI _ _ _ _, p, e => by simp [toP] at e
  | _, _, .set _, p, e => by simp [toP] at e
theorem readsAll_of {K : KM} {h : Heap} (k : Kn K h) : ∀ {ds : List D} {vs : List Value}, Reps prog w K ds vs → ∀ {ps : List PyData}, toPs ds = some ps → ∃ as, ReadsAll h vs ps as
  | _, _, .nil, ps, e => by simp [toPs] at e; subst e; exact ⟨_, .nil⟩
  | _, _, .cons r rs, ps, e => by
    simp only [toPs] at e
    split at e
    · rename_i p he
      split at e
      · rename_i ps' he'; cases e
        obtain ⟨as, x⟩ := reads_of k r he
        obtain ⟨bs, y⟩ := readsAll_of k rs he'
        exact ⟨_, .cons x y⟩
      · cases e
    · cases e
end
theorem ints_of {K : KM} : ∀ {ds : List D} {vs : List Value}, Reps prog w K ds vs → ∀ {is : List Int}, intsOf ds = some is → IntsAre vs is
  | _, _, .nil, is, e => by simp [intsOf] at e; subst e; exact .nil
  | _, _, .cons (d := d) r rs, is, e => by
    cases r <;> simp only [intsOf] at e <;> try (cases e; done)
    split at e
    · rename_i js he; cases e; exact .cons _ _ (ints_of rs he)
    · cases e

noncomputable def cmpop : CmpOp → D → D → Option Bool
  | .Eq, .int a, .int b => some (a == b)
  | .NotEq, .int a, .int b => some (a != b)
  | .Lt, .int a, .int b => some (decide (a < b))
  | .Gt, .int a, .int b => some (decide (a > b))
  | .GtE, .int a, .int b => some (decide (a ≥ b))
  | .Eq, .bool a, .bool b => some (a == b)
  | .NotEq, .bool a, .bool b => some (a != b)
  | .Eq, .str a, .str b => some (a == b)
  | .Eq, .flt a, .flt b => some (Float64.cmp a b == some Ordering.eq)
  | .Lt, .flt a, .flt b => some (Float64.cmp a b == some Ordering.lt)
  | .Gt, .flt a, .flt b => some (Float64.cmp a b == some Ordering.gt)
  | .IsNot, .str _, .none => some true
  | .IsNot, .none, .none => some false
  | .In, .int a, .tup ds => match intsOf ds with | some is => some (is.any (· == a)) | Option.none => Option.none
  | .In, .int a, .set xs => some (xs.any (· == a))
  | .NotIn, .str x, .dSI es => some (!(es.lookup x).isSome)
  | .Eq, .list ds, .list es => if ds.length ≠ es.length then some false else match toPs ds, toPs es with
    | some p, some q => if SeqAt.shaped (.list p) = true ∧ SeqAt.shaped (.list q) = true then some (PyData.eqv (.list p) (.list q)) else Option.none
    | _, _ => Option.none
  | .NotEq, .list ds, .list es => match toPs ds, toPs es with
    | some p, some q => if SeqAt.shaped (.list p) = true ∧ SeqAt.shaped (.list q) = true then some (!PyData.eqv (.list p) (.list q)) else Option.none
    | _, _ => Option.none
  | .NotEq, .tup ds, .tup es => match toPs ds, toPs es with
    | some p, some q => if SeqAt.shaped (.tuple p) = true ∧ SeqAt.shaped (.tuple q) = true then some (!PyData.eqv (.tuple p) (.tuple q)) else Option.none
    | _, _ => Option.none
  | _, _, _ => Option.none

variable {A : Around} {E : Value → Shared → Prop} {s : Shared} {n : Nat}
theorem cmpop_sound {K : KM} {op : CmpOp} {d e : D} {r : Bool} {v u : Value} (R : Room n A) (hk : Kn K s.heap) (hv : Rep prog w K d v) (hu : Rep prog w K e u) (h : cmpop op d e = some r) :
    wpAny (model prog w) A (compareOp op v u) (fun x s' => x = .bool r ∧ ∃ tk, s' = { s with toks := tk }) E s := by
  have hun : A.units + 64 < cLine := by have := R.units; omega
  have Z : ∃ tk, s = { s with toks := tk } := ⟨s.toks, by cases s; rfl⟩
  cases op with
  | Eq => cases d with
    | int i => cases e with
      | int j =>
      obtain rfl := some_inj h; obtain ⟨_, rfl⟩ := hv.inv; obtain ⟨_, rfl⟩ := hu.inv; exact PyProof.Rows.eq_int ⟨rfl, Z⟩
      | _ => exact no_none h
    | bool i => cases e with
      | bool j =>
      obtain rfl := some_inj h; obtain rfl := hv.inv; obtain rfl := hu.inv; exact PyProof.Rows.eq_bool ⟨rfl, Z⟩
      | _ => exact no_none h
    | str i => cases e with
      | str y =>
      obtain rfl := some_inj h; obtain ⟨_, rfl⟩ := hv.inv; obtain ⟨_, rfl⟩ := hu.inv; exact PyProof.Rows.eq_str ⟨rfl, Z⟩
      | _ => exact no_none h
    | flt i => cases e with
      | flt j =>
      obtain rfl := some_inj h; obtain ⟨_, rfl⟩ := hv.inv; obtain ⟨_, rfl⟩ := hu.inv; exact AutoFloatOps.eq_0 ⟨rfl, Z⟩
      | _ => exact no_none h
    | list ds => cases e with
      | list es =>
      replace h : (if ds.length ≠ es.length then some false else (match toPs ds, toPs es with | some p, some q => if SeqAt.shaped (.list p) = true ∧ SeqAt.shaped (.list q) = true then some (PyData.eqv (.list p) (.list q)) else Option.none | _, _ => Option.none)) = some r := h
      split at h
      · rename_i hne; obtain rfl := some_inj h
        obtain ⟨_, _, _, rfl, g, rs⟩ := hv.inv; obtain ⟨_, _, _, rfl, g', rs'⟩ := hu.inv
        have h1 := rs.length; have h2 := rs'.length
        exact SeqAt.eq_list_lengthsAt ⟨_, hk _ _ g, rfl, _, rfl⟩ ⟨_, hk _ _ g', rfl, _, rfl⟩ (by rw [List.size_toArray, List.size_toArray, h1, h2]; simpa using hne) (by omega) ⟨rfl, Z⟩
      split at h
      · rename_i p q hp hq
        obtain ⟨hs, rfl⟩ := ite_inj h
        obtain ⟨as, ra⟩ := reads_of hk hv (p := .list p) (by simp only [toP, hp])
        obtain ⟨bs, rb⟩ := reads_of hk hu (p := .list q) (by simp only [toP, hq])
        exact eq_dataH ra rb hs.1 hs.2 hun ⟨rfl, Z⟩
      · cases h
      | _ => exact no_none h
    | _ => exact no_none h
  | NotEq => cases d with
    | int i => cases e with
      | int j =>
      obtain rfl := some_inj h; obtain ⟨_, rfl⟩ := hv.inv; obtain ⟨_, rfl⟩ := hu.inv; exact PyProof.Rows.ne_int ⟨rfl, Z⟩
      | _ => exact no_none h
    | bool i => cases e with
      | bool j =>
      obtain rfl := some_inj h; obtain rfl := hv.inv; obtain rfl := hu.inv; exact PyProof.Rows.ne_bool ⟨rfl, Z⟩
      | _ => exact no_none h
    | list ds => cases e with
      | list es =>
      replace h : (match toPs ds, toPs es with | some p, some q => if SeqAt.shaped (.list p) = true ∧ SeqAt.shaped (.list q) = true then some (!PyData.eqv (.list p) (.list q)) else Option.none | _, _ => Option.none) = some r := h
      split at h
      · rename_i p q hp hq
        obtain ⟨hs, rfl⟩ := ite_inj h
        obtain ⟨as, ra⟩ := reads_of hk hv (p := .list p) (by simp only [toP, hp])
        obtain ⟨bs, rb⟩ := reads_of hk hu (p := .list q) (by simp only [toP, hq])
        exact ne_dataH ra rb hs.1 hs.2 hun ⟨rfl, Z⟩
      · cases h
      | _ => exact no_none h
    | tup ds => cases e with
      | tup es =>
      replace h : (match toPs ds, toPs es with | some p, some q => if SeqAt.shaped (.tuple p) = true ∧ SeqAt.shaped (.tuple q) = true then some (!PyData.eqv (.tuple p) (.tuple q)) else Option.none | _, _ => Option.none) = some r := h
      split at h
      · rename_i p q hp hq
        obtain ⟨hs, rfl⟩ := ite_inj h
        obtain ⟨as, ra⟩ := reads_of hk hv (p := .tuple p) (by simp only [toP, hp])
        obtain ⟨bs, rb⟩ := reads_of hk hu (p := .tuple q) (by simp only [toP, hq])
        exact ne_dataH ra rb hs.1 hs.2 hun ⟨rfl, Z⟩
      · cases h
      | _ => exact no_none h
    | _ => exact no_none h
  | Lt => cases d with
    | int i => cases e with
      | int j =>
      obtain rfl := some_inj h; obtain ⟨_, rfl⟩ := hv.inv; obtain ⟨_, rfl⟩ := hu.inv; exact PyProof.Rows.lt_int ⟨rfl, Z⟩
      | _ => exact no_none h
    | flt i => cases e with
      | flt j =>
      obtain rfl := some_inj h; obtain ⟨_, rfl⟩ := hv.inv; obtain ⟨_, rfl⟩ := hu.inv; exact AutoFloatOps.lt_0 ⟨rfl, Z⟩
      | _ => exact no_none h
    | _ => exact no_none h
  | Gt => cases d with
    | int i => cases e with
      | int j =>
      obtain rfl := some_inj h; obtain ⟨_, rfl⟩ := hv.inv; obtain ⟨_, rfl⟩ := hu.inv; exact PySem.P.gt_int ⟨rfl, Z⟩
      | _ => exact no_none h
    | flt i => cases e with
      | flt j =>
      obtain rfl := some_inj h; obtain ⟨_, rfl⟩ := hv.inv; obtain ⟨_, rfl⟩ := hu.inv; exact AutoFloatOps.gt_0 ⟨rfl, Z⟩
      | _ => exact no_none h
    | _ => exact no_none h
  | GtE => cases d with
    | int i => cases e with
      | int j =>
      obtain rfl := some_inj h; obtain ⟨_, rfl⟩ := hv.inv; obtain ⟨_, rfl⟩ := hu.inv; exact PySem.P.ge_int ⟨rfl, Z⟩
      | _ => exact no_none h
    | _ => exact no_none h
  | IsNot => cases d with
    | str i => cases e with
      | none =>
      obtain rfl := some_inj h; obtain ⟨_, rfl⟩ := hv.inv; obtain rfl := hu.inv; exact isNot_none ⟨rfl, Z⟩
      | _ => exact no_none h
    | none => cases e with
      | none =>
      obtain rfl := some_inj h; obtain rfl := hv.inv; obtain rfl := hu.inv; exact isNot_none ⟨rfl, Z⟩
      | _ => exact no_none h
    | _ => exact no_none h
  | In => cases d with
    | int i => cases e with
      | tup ds =>
      replace h : (match intsOf ds with | some is => some (is.any (· == i)) | Option.none => Option.none) = some r := h
      split at h
      · rename_i is he; obtain rfl := some_inj h; obtain ⟨_, rfl⟩ := hv.inv
        obtain ⟨_, _, _, rfl, g, rs⟩ := hu.inv
        exact in_tuple_ints (ns := is) ⟨_, hk _ _ g, rfl, _, rfl⟩ (by simpa using ints_of rs he) ⟨rfl, Z⟩
      · cases h
      | set j =>
      obtain rfl := some_inj h; obtain ⟨_, rfl⟩ := hv.inv
      obtain ⟨_, rfl, g⟩ := hu.inv
      exact wpAny_inSet_of (k := _) (intKind_is prog w _ _) rfl (g _ hk) ⟨rfl, _, rfl⟩
      | _ => exact no_none h
    | _ => exact no_none h
  | NotIn => cases d with
    | str i => cases e with
      | dSI es =>
      obtain rfl := some_inj h; obtain ⟨_, rfl⟩ := hv.inv
      obtain ⟨_, f, rfl, g, hd, a, b⟩ := hu.inv
      have e : (es.lookup i).isSome = (f i).isSome := by
        cases q : es.lookup i with
        | none => rw [b i q]; rfl
        | some y => obtain ⟨t, ht⟩ := a i y q; rw [ht]; rfl
      exact wpAny_notIn_of (k := _) (strKind_is prog w _ _) hd (g _ hk) ⟨by rw [e], _, rfl⟩
      | _ => exact no_none h
    | _ => exact no_none h
  | _ => exact no_none h
end
end Mine

namespace Mine
/-! M3: built-in functions -/
inductive BI where
  | len | chr | ord | int | max | min | set
noncomputable def BI.name : BI → Str
  | .len => "len" | .chr => "chr" | .ord => "ord" | .int => "int" | .max => "max" | .min => "min" | .set => "set"
noncomputable def BI.val : BI → Value
  | .len => .builtin "len" | .chr => .builtin "chr" | .ord => .builtin "ord" | .int => .type "int" | .max => .builtin "max" | .min => .builtin "min" | .set => .type "set"

noncomputable def fgt (a b : UInt64) : Bool := Float64.cmp a b == some Ordering.gt
noncomputable def flt (a b : UInt64) : Bool := Float64.cmp a b == some Ordering.lt
noncomputable def fmax3 (a b c : UInt64) : UInt64 := match fgt b a with
  | true => (match fgt c b with | true => c | false => b)
  | false => (match fgt c a with | true => c | false => a)
noncomputable def fmin3 (a b c : UInt64) : UInt64 := match flt b a with
  | true => (match flt c b with | true => c | false => b)
  | false => (match flt c a with | true => c | false => a)
noncomputable def dedup (xs : List Int) : List Int := firstMet (fun i => xs.getD i 0) xs.length

noncomputable def biop : BI → List D → Option D
  | .len, [.list ds] => if ds.length ≤ 100000 then some (.int ds.length) else none
  | .len, [.str x] => if x.length ≤ 100000 then some (.int x.length) else none
  | .len, [.set xs] => if xs.length ≤ 4000 then some (.int xs.length) else none
  | .chr, [.int i] => if 0 ≤ i ∧ i ≤ 1114111 then some (.str ⟨#[i.toNat]⟩) else none
  | .ord, [.str x] => if x.length = 1 then some (.int (x.cps.getD 0 0 : Nat)) else none
  | .int, [.flt x] => if Float64.isFinite x = true then some (.int (PySem.Flt.toInt Float64.truncOf x)) else none
  | .max, [.flt a, .flt b, .flt c] => some (.flt (fmax3 a b c))
  | .min, [.flt a, .flt b, .flt c] => some (.flt (fmin3 a b c))
  | .set, [.list ds] => match intsOf ds with
    | some xs => if xs.length + 1 < scanBound then some (.set (dedup xs)) else none
    | none => none
  | _, _ => none

noncomputable def fltItems (xs : Array (UInt64 × Tok)) : Array Value := xs.map fun p => .float p.1 p.2
noncomputable def fltAt (xs : Array (UInt64 × Tok)) (i : Nat) : UInt64 := (xs[i]?.map (·.1)).getD 0
theorem fltItems_at {xs : Array (UInt64 × Tok)} {i : Nat} {v : Value} (h : (fltItems xs)[i]? = some v) : ∃ t, v = .float (fltAt xs i) t := by
  simp only [fltItems, Array.getElem?_map, Option.map_eq_some_iff] at h
  obtain ⟨p, hp, rfl⟩ := h
  exact ⟨p.2, by simp [fltAt, hp]⟩
section
variable {prog : Program} {w : World}
theorem cmp_flts_gt {A : Around} {P : Nat → Value → Prop} (val : Nat → UInt64) (hval : ∀ i v, P i v → ∃ t, v = .float (val i) t) :
    CmpOf prog w A .Gt P (fun i j => fgt (val i) (val j)) := fun i j vi vj s Q E hi hj h => by
  obtain ⟨t, rfl⟩ := hval i vi hi
  obtain ⟨u, rfl⟩ := hval j vj hj
  exact AutoFloatOps.gt_0 h
theorem cmp_flts_lt {A : Around} {P : Nat → Value → Prop} (val : Nat → UInt64) (hval : ∀ i v, P i v → ∃ t, v = .float (val i) t) :
    CmpOf prog w A .Lt P (fun i j => flt (val i) (val j)) := fun i j vi vj s Q E hi hj h => by
  obtain ⟨t, rfl⟩ := hval i vi hi
  obtain ⟨u, rfl⟩ := hval j vj hj
  exact AutoFloatOps.lt_0 h
variable {A : Around} {E : Value → Shared → Prop} {s : Shared}
theorem max_flts {a b c : UInt64} {t u x : Tok} {Q : Value → Shared → Prop} (hh : A.handled = none)
    (h : ∀ h' tk y, (∀ d o, s.heap.get? d = some o → h'.get? d = some o) → Q (.float (fmax3 a b c) y) { s with heap := h', toks := tk }) :
    wpAny (model prog w) A (call (.builtin "max") [.float a t, .float b u, .float c x]) Q E s := by
  have hT : (s.heap.push { cls := .type "tuple", data := .seq #[.float a t, .float b u, .float c x] }).IsTuple s.heap.objs.size (fltItems #[(a, t), (b, u), (c, x)]) := ⟨_, Heap.get?_push_size _ rfl, rfl, 0, by simp [fltItems]⟩
  refine call_max_three (wpAny_pyIter_tuple hT ?_)
  have hsz : (s.heap.push { cls := .type "tuple", data := .seq #[.float a t, .float b u, .float c x] }).objs.size = s.heap.objs.size + 1 := Heap.size_push ..
  refine ⟨_, [_, s.heap.objs.size], [_], _, _, _, _, rfl, Walks.tuple (A := A.in1) hh _ s.heap.objs.size (by rw [hsz]; exact Nat.ne_of_lt (Nat.lt_succ_self _)) (fltItems #[(a, t), (b, u), (c, x)]),
    ⟨⟨_, Heap.get?_push_size _ rfl, rfl, rfl⟩, hT.push _⟩, fun d hd => ?_, by simp [fltItems], cmp_flts_gt (fltAt #[(a, t), (b, u), (c, x)]) (fun _ _ => fltItems_at), fun v h' tk hP hk => ?_⟩
  · show d < ((s.heap.push _).push _).objs.size
    rw [Heap.size_push, hsz]
    rcases List.mem_cons.mp hd with rfl | hd
    · rw [hsz]; exact Nat.lt_succ_self _
    · rcases List.mem_cons.mp hd with rfl | hd
      · exact Nat.lt_succ_of_lt (Nat.lt_succ_self _)
      · cases hd
  · have hold : ∀ d o, s.heap.get? d = some o → h'.get? d = some o := fun d o e => by
      refine hk d o (fun hm => ?_) (Heap.get?_push_of_some _ (Heap.get?_push_of_some _ e))
      rcases List.mem_cons.mp hm with e1 | hm
      · have := Heap.lt_size e; rw [e1, hsz] at this; exact Nat.lt_irrefl _ (Nat.lt_of_succ_lt this)
      · cases hm
    have hv : ∃ y, v = .float (fmax3 a b c) y := by
      have hP' : (fltItems #[(a, t), (b, u), (c, x)])[argBest (fun i j => fgt (fltAt #[(a, t), (b, u), (c, x)] i) (fltAt #[(a, t), (b, u), (c, x)] j)) 2]? = some v := by
        have hsz2 : (fltItems #[(a, t), (b, u), (c, x)]).size - 1 = 2 := by simp [fltItems]
        rw [← hsz2]; exact hP
      unfold fmax3
      cases hba : fgt b a <;> simp only []
      · cases hc : fgt c a <;> simp [argBest, fltAt, hba, hc, fltItems] at hP' <;> exact ⟨_, hP'.symm⟩
      · cases hc : fgt c b <;> simp [argBest, fltAt, hba, hc, fltItems] at hP' <;> exact ⟨_, hP'.symm⟩
    obtain ⟨y, rfl⟩ := hv
    exact h h' tk y hold
theorem min_flts {a b c : UInt64} {t u x : Tok} {Q : Value → Shared → Prop} (hh : A.handled = none)
    (h : ∀ h' tk y, (∀ d o, s.heap.get? d = some o → h'.get? d = some o) → Q (.float (fmin3 a b c) y) { s with heap := h', toks := tk }) :
    wpAny (model prog w) A (call (.builtin "min") [.float a t, .float b u, .float c x]) Q E s := by
  have hT : (s.heap.push { cls := .type "tuple", data := .seq #[.float a t, .float b u, .float c x] }).IsTuple s.heap.objs.size (fltItems #[(a, t), (b, u), (c, x)]) := ⟨_, Heap.get?_push_size _ rfl, rfl, 0, by simp [fltItems]⟩
  refine call_min_three (wpAny_pyIter_tuple hT ?_)
  have hsz : (s.heap.push { cls := .type "tuple", data := .seq #[.float a t, .float b u, .float c x] }).objs.size = s.heap.objs.size + 1 := Heap.size_push ..
  refine ⟨_, [_, s.heap.objs.size], [_], _, _, _, _, rfl, Walks.tuple (A := A.in1) hh _ s.heap.objs.size (by rw [hsz]; exact Nat.ne_of_lt (Nat.lt_succ_self _)) (fltItems #[(a, t), (b, u), (c, x)]),
    ⟨⟨_, Heap.get?_push_size _ rfl, rfl, rfl⟩, hT.push _⟩, fun d hd => ?_, by simp [fltItems], cmp_flts_lt (fltAt #[(a, t), (b, u), (c, x)]) (fun _ _ => fltItems_at), fun v h' tk hP hk => ?_⟩
  · show d < ((s.heap.push _).push _).objs.size
    rw [Heap.size_push, hsz]
    rcases List.mem_cons.mp hd with rfl | hd
    · rw [hsz]; exact Nat.lt_succ_self _
    · rcases List.mem_cons.mp hd with rfl | hd
      · exact Nat.lt_succ_of_lt (Nat.lt_succ_self _)
      · cases hd
  · have hold : ∀ d o, s.heap.get? d = some o → h'.get? d = some o := fun d o e => by
      refine hk d o (fun hm => ?_) (Heap.get?_push_of_some _ (Heap.get?_push_of_some _ e))
      rcases List.mem_cons.mp hm with e1 | hm
      · have := Heap.lt_size e; rw [e1, hsz] at this; exact Nat.lt_irrefl _ (Nat.lt_of_succ_lt this)
      · cases hm
    have hv : ∃ y, v = .float (fmin3 a b c) y := by
      have hP' : (fltItems #[(a, t), (b, u), (c, x)])[argBest (fun i j => flt (fltAt #[(a, t), (b, u), (c, x)] i) (fltAt #[(a, t), (b, u), (c, x)] j)) 2]? = some v := by
        have hsz2 : (fltItems #[(a, t), (b, u), (c, x)]).size - 1 = 2 := by simp [fltItems]
        rw [← hsz2]; exact hP
      unfold fmin3
      cases hba : flt b a <;> simp only []
      · cases hc : flt c a <;> simp [argBest, fltAt, hba, hc, fltItems] at hP' <;> exact ⟨_, hP'.symm⟩
      · cases hc : flt c b <;> simp [argBest, fltAt, hba, hc, fltItems] at hP' <;> exact ⟨_, hP'.symm⟩
    obtain ⟨y, rfl⟩ := hv
    exact h h' tk y hold

theorem intsOf_length : ∀ {ds : List D} {xs : List Int}, intsOf ds = some xs → xs.length = ds.length
  | [], xs, h => by simp [intsOf] at h; subst h; rfl
  | d :: ds, xs, h => by
    cases d <;> simp only [intsOf] at h <;> try (cases h; done)
    split at h
    · rename_i js he; cases h; simp [intsOf_length he]
    · cases h

theorem Reps.one {K : KM} {d : D} {vs : List Value} (h : Reps prog w K [d] vs) : ∃ v, vs = [v] ∧ Rep prog w K d v := by
  cases h with | cons a b => cases b with | nil => exact ⟨_, rfl, a⟩
theorem Reps.two {K : KM} {d e : D} {vs : List Value} (h : Reps prog w K [d, e] vs) : ∃ v u, vs = [v, u] ∧ Rep prog w K d v ∧ Rep prog w K e u := by
  cases h with | cons a b => obtain ⟨_, rfl, b'⟩ := Reps.one b; exact ⟨_, _, rfl, a, b'⟩
theorem Reps.three {K : KM} {d e f : D} {vs : List Value} (h : Reps prog w K [d, e, f] vs) : ∃ v u x, vs = [v, u, x] ∧ Rep prog w K d v ∧ Rep prog w K e u ∧ Rep prog w K f x := by
  cases h with | cons a b => obtain ⟨_, _, rfl, b', c⟩ := Reps.two b; exact ⟨_, _, _, rfl, a, b', c⟩
theorem biop_sound {K : KM} {n : Nat} {b : BI} {ds : List D} {vs : List Value} {r : D} (R : Room n A) (hk : Kn K s.heap) (hv : Reps prog w K ds vs) (h : biop b ds = some r) :
    wpAny (model prog w) A (call b.val vs) (Good prog w K s r) E s := by
  have hh := R.handled
  cases b with
  | len =>
    cases ds with
    | nil => exact no_none h
    | cons d ds => cases ds with
      | cons _ _ => cases d <;> exact no_none h
      | nil => cases d with
        | list ds =>
          obtain ⟨hz, rfl⟩ := ite_inj h
          obtain ⟨_, rfl, a⟩ := hv.one
          obtain ⟨_, _, _, rfl, g, rs⟩ := a.inv
          have e := rs.length
          refine PyProof.Rows.len_list ⟨_, hk _ _ g, rfl, _, rfl⟩ (by rw [List.size_toArray]; omega) ?_
          rw [List.size_toArray, e]
          exact .tok hk _ (.int _ _)
        | str x =>
          obtain ⟨hz, rfl⟩ := ite_inj h
          obtain ⟨_, rfl, a⟩ := hv.one
          obtain ⟨_, rfl⟩ := a.inv
          exact PyProof.Rows.len_str (by omega) (.tok hk _ (.int _ _))
        | set xs =>
          obtain ⟨hz, rfl⟩ := ite_inj h
          obtain ⟨_, rfl, a⟩ := hv.one
          obtain ⟨_, rfl, g⟩ := a.inv
          obtain ⟨o, es, ep, t, ho, hex, hd, hel, hmem, hb, hf, hn⟩ := g _ hk
          refine call_len_set ho hex hd hf (by omega) ?_
          rw [hn]
          exact .tok hk _ (.int _ _)
        | _ => exact no_none h
  | chr =>
    cases ds with
    | nil => exact no_none h
    | cons d ds => cases ds with
      | cons _ _ => cases d <;> exact no_none h
      | nil => cases d with
        | int i =>
          obtain ⟨hz, rfl⟩ := ite_inj h
          obtain ⟨_, rfl, a⟩ := hv.one
          obtain ⟨_, rfl⟩ := a.inv
          exact chr_of_range hz.1 hz.2 (.tok hk _ (.str _ _))
        | _ => exact no_none h
  | ord =>
    cases ds with
    | nil => exact no_none h
    | cons d ds => cases ds with
      | cons _ _ => cases d <;> exact no_none h
      | nil => cases d with
        | str x =>
          obtain ⟨hz, rfl⟩ := ite_inj h
          obtain ⟨_, rfl, a⟩ := hv.one
          obtain ⟨_, rfl⟩ := a.inv
          exact ord_of_one hz (.tok hk _ (.int _ _))
        | _ => exact no_none h
  | int =>
    cases ds with
    | nil => exact no_none h
    | cons d ds => cases ds with
      | cons _ _ => cases d <;> exact no_none h
      | nil => cases d with
        | flt x =>
          obtain ⟨hz, rfl⟩ := ite_inj h
          obtain ⟨_, rfl, a⟩ := hv.one
          obtain ⟨_, rfl⟩ := a.inv
          rcases PySem.Flt.three x with ⟨hd, c⟩ | ⟨_, hd, c⟩ | ⟨sg, m, e, hd, c⟩
          · exfalso; unfold Float64.isFinite at hz; rw [hd] at hz; cases hz
          · exfalso; unfold Float64.isFinite at hz; rw [hd] at hz; cases hz
          · refine PySem.call_int_float hd ?_
            unfold PySem.Flt.toInt; rw [hd]
            exact .tok hk _ (.int _ _)
        | _ => exact no_none h
  | max =>
    cases ds with
    | nil => exact no_none h
    | cons d ds => cases d with
      | flt x => cases ds with
        | nil => exact no_none h
        | cons d ds => cases d with
          | flt y => cases ds with
            | nil => exact no_none h
            | cons d ds => cases d with
              | flt z => cases ds with
                | cons _ _ => exact no_none h
                | nil =>
                  obtain rfl := some_inj h
                  obtain ⟨_, _, _, rfl, a, b, c⟩ := hv.three
                  obtain ⟨_, rfl⟩ := a.inv; obtain ⟨_, rfl⟩ := b.inv; obtain ⟨_, rfl⟩ := c.inv
                  exact max_flts hh fun h' tk y hold => ⟨K, .heap hk hold, .flt _ _⟩
              | _ => exact no_none h
          | _ => exact no_none h
      | _ => exact no_none h
  | min =>
    cases ds with
    | nil => exact no_none h
    | cons d ds => cases d with
      | flt x => cases ds with
        | nil => exact no_none h
        | cons d ds => cases d with
          | flt y => cases ds with
            | nil => exact no_none h
            | cons d ds => cases d with
              | flt z => cases ds with
                | cons _ _ => exact no_none h
                | nil =>
                  obtain rfl := some_inj h
                  obtain ⟨_, _, _, rfl, a, b, c⟩ := hv.three
                  obtain ⟨_, rfl⟩ := a.inv; obtain ⟨_, rfl⟩ := b.inv; obtain ⟨_, rfl⟩ := c.inv
                  exact min_flts hh fun h' tk y hold => ⟨K, .heap hk hold, .flt _ _⟩
              | _ => exact no_none h
          | _ => exact no_none h
      | _ => exact no_none h
  | set =>
    cases ds with
    | nil => exact no_none h
    | cons d ds => cases ds with
      | cons _ _ => cases d <;> exact no_none h
      | nil => cases d with
        | list ds =>
          replace h : (match intsOf ds with | some xs => if xs.length + 1 < scanBound then some (D.set (dedup xs)) else none | none => none) = some r := h
          split at h
          · rename_i xs he
            obtain ⟨hz, rfl⟩ := ite_inj h
            obtain ⟨_, rfl, a⟩ := hv.one
            obtain ⟨vs, a, n, rfl, g, rs⟩ := a.inv
            have hi := ints_of rs he
            have hl := PyProof.Rows.IntsAre.length hi
            refine PySem.call_set_list (items := vs.toArray) (ns := xs) hh ⟨_, hk _ _ g, rfl, _, rfl⟩ (by simpa using hi) (by rw [List.size_toArray, hl]; exact hz) fun h' tk hS hold => ?_
            rw [show vs.toArray.size = xs.length from by rw [List.size_toArray, hl]] at hS
            obtain ⟨o, ho, hso⟩ := hS.objOf
            have hsz : (dedup xs).length < scanBound := Nat.lt_of_le_of_lt (firstMet_length_le _ _) (by omega)
            have ext := Ext.one (K := K) (s := s) hk (h' := h') (t := tk) (a := s.heap.objs.size) (o := o) (fun b o e => hold b o (Heap.lt_size e) e) (by
              cases e : s.heap.get? s.heap.objs.size with
              | none => rfl
              | some o' => exact absurd (Heap.lt_size e) (Nat.lt_irrefl _)) ho
            exact ⟨_, ext, .set fun hp kp => hso.setOf (kp _ _ (KM.add_self _ _ _)) hsz⟩
          · cases h
        | _ => exact no_none h
end
end Mine

namespace Mine
/-! M4: subscripts, slices, methods -/
noncomputable def idx (ds : List D) (i : Int) : Option D :=
  if 1000000 < ds.length then none else if 0 ≤ i then ds[i.toNat]? else if -(ds.length : Int) ≤ i then ds[(i + ds.length).toNat]? else none
noncomputable def subop : D → D → Option D
  | .list ds, .int i => idx ds i
  | .tup ds, .int i => idx ds i
  | .str x, .int i => if 0 ≤ i ∧ i < x.length ∧ i ≤ 1000000 then some (.str (Txt.item x i)) else none
  | .dII es, .int k => match es.lookup k with | some i => some (.int i) | none => none
  | _, _ => none
noncomputable def sliceop : D → Option Int → Option Int → Option D
  | .list ds, none, some b => if 0 ≤ b ∧ ds.length ≤ 100000 then some (.list (ds.take b.toNat)) else none
  | .list ds, some a, none => if 0 ≤ a ∧ ds.length ≤ 100000 then some (.list (ds.drop a.toNat)) else none
  | .str x, some a, some b => if x.length ≤ 100000 then some (.str (Txt.slice x (some a) (some b))) else none
  | _, _, _ => none
noncomputable def strsOf : List D → Option (List Str)
  | [] => some []
  | .str x :: ds => match strsOf ds with | some xs => some (x :: xs) | none => none
  | _ :: _ => none
inductive ML where
  | join | lower | get
noncomputable def ML.name : ML → Str
  | .join => "join" | .lower => "lower" | .get => "get"
noncomputable def methop : ML → D → List D → Option D
  | .join, .str sep, [.list ds] => match strsOf ds with
    | some xs => if sep.length ≤ 16 ∧ (xs.map (·.length)).sum + xs.length ≤ 1048576 then some (.str (Txt.join sep xs)) else none
    | none => none
  | .lower, .str x, [] => if Builtin.Str.tooLong (Txt.lower x).length = false then some (.str (Txt.lower x)) else none
  | .get, .dIS es, [.int k] => some (match es.lookup k with | some x => .str x | none => .none)
  | .get, .dSI es, [.str k, .int d] => some (.int ((es.lookup k).getD d))
  | _, _, _ => none

section
variable {prog : Program} {w : World} {A : Around} {E : Value → Shared → Prop} {s : Shared}
theorem idx_pos {ds : List D} {i : Int} {d : D} (h : idx ds i = some d) (hi : 0 ≤ i) : ds[i.toNat]? = some d ∧ i < 2 ^ 63 := by
  unfold idx at h
  split at h
  · cases h
  · rename_i hz
    refine ⟨h, ?_⟩
    obtain ⟨hlt, _⟩ := List.getElem?_eq_some_iff.mp h
    omega
theorem idx_neg {ds : List D} {i : Int} {d : D} (h : idx ds i = some d) (hi : ¬ 0 ≤ i) : ds[(i + ds.length).toNat]? = some d ∧ -(ds.length : Int) ≤ i ∧ -(2 ^ 63) ≤ i := by
  unfold idx at h
  split at h
  · cases h
  · rename_i hz
    split at h
    · rename_i h2; exact ⟨h, h2, by omega⟩
    · cases h

theorem getItem_listD {K : KM} {ds : List D} {vs : List Value} {a : Addr} {n : Nat} {i : Int} {t : Tok} {d : D} {Q : Value → Shared → Prop} (hl : s.heap.get? a = some { cls := .type "list", data := .seq vs.toArray n })
    (rs : Reps prog w K ds vs) (h : idx ds i = some d) (hQ : ∀ v, Rep prog w K d v → Q v s) : wpAny (model prog w) A (getItem (.ref a) (.int i t)) Q E s := by
  have hl' : s.heap.IsList a vs.toArray := ⟨_, hl, rfl, n, rfl⟩
  have hlen := rs.length
  by_cases hi : 0 ≤ i
  · obtain ⟨h1, h2⟩ := idx_pos h hi
    obtain ⟨v, e, r⟩ := rs.get h1
    exact wpAny_getItem_list hl' hi h2 (by simpa using e) (hQ v r)
  · obtain ⟨h1, h2, h3⟩ := idx_neg h hi
    obtain ⟨v, e, r⟩ := rs.get h1
    exact wpAny_getItem_list_neg hl' (by omega) (by rw [List.size_toArray, hlen]; exact h2) h3 (by rw [List.size_toArray, hlen]; simpa using e) (hQ v r)

theorem subop_sound {K : KM} {d e r : D} {v u : Value} {value slice : Expr} (hk : Kn K s.heap) (hv : Rep prog w K d v) (hu : Rep prog w K e u) (h : subop d e = some r)
    (hs : subscripted slice false v u = operate [v, u] (getItem v u)) :
    wpAny (model prog w) A (subscriptTail value slice v u) (Good prog w K s r) E s := by
  cases d with
  | list ds => cases e with
    | int i =>
      replace h : idx ds i = some r := h
      obtain ⟨_, _, _, rfl, g, rs⟩ := hv.inv; obtain ⟨t, rfl⟩ := hu.inv
      exact tail_any (T := "list") ⟨_, hk _ _ g, rfl⟩ list_getitem_lookup (getItem_listD (hk _ _ g) rs h fun v r => .plain hk r) hs
    | _ => exact no_none h
  | tup ds => cases e with
    | int i =>
      replace h : idx ds i = some r := h
      obtain ⟨_, _, _, rfl, g, rs⟩ := hv.inv; obtain ⟨t, rfl⟩ := hu.inv
      rename_i vs a n
      have hlen := rs.length
      have ht : IsTup s.heap a vs.toArray := ⟨_, hk _ _ g, rfl, n, rfl⟩
      by_cases hi : 0 ≤ i
      · obtain ⟨h1, h2⟩ := idx_pos h hi
        obtain ⟨v, e, r⟩ := rs.get h1
        have hlt := (List.getElem?_eq_some_iff.mp h1).1
        refine item_tupleT (j := i.toNat) ht (by omega) h2 ?_ e (.plain hk r) hs
        unfold seqIndex?
        simp only [if_neg (show ¬ i < 0 by omega)]
        rw [if_pos (by simp; omega)]
      · obtain ⟨h1, h2, h3⟩ := idx_neg h hi
        obtain ⟨v, e, r⟩ := rs.get h1
        have hlt := (List.getElem?_eq_some_iff.mp h1).1
        refine item_tupleT (j := (i + ds.length).toNat) ht h3 (by omega) ?_ e (.plain hk r) hs
        unfold seqIndex?
        simp only [if_pos (show i < 0 by omega), hlen]
        rw [if_pos (by simp; omega)]
    | _ => exact no_none h
  | str x => cases e with
    | int i =>
      obtain ⟨hz, rfl⟩ := ite_inj h
      obtain ⟨t, rfl⟩ := hv.inv; obtain ⟨t, rfl⟩ := hu.inv
      refine tail_any (T := "str") (typeIs_str _ _ _) F.slot_str_getitem.lookup ?_ hs
      refine PyProof.Rows.getItem_str (c := (Txt.charAt x i).getD 0) (by simp; omega) ?_ (.tok hk _ (.str _ _))
      have := charAt_isSome (x := x) (i := i) (by omega) hz.2.1
      unfold Txt.charAt at *
      obtain ⟨c, hc⟩ := Option.isSome_iff_exists.mp this
      rw [hc]; rfl
    | _ => exact no_none h
  | dII es => cases e with
    | int k =>
      replace h : (match es.lookup k with | some i => some (D.int i) | none => none) = some r := h
      split at h
      · rename_i i he; obtain rfl := some_inj h
        obtain ⟨_, _, rfl, g, hd, a, b⟩ := hv.inv; obtain ⟨t, rfl⟩ := hu.inv
        obtain ⟨t', ht'⟩ := a _ _ he
        have hm := g _ hk
        exact tail_any (T := "dict") hm.typeIs slot_dict_getitem.lookup (wpAny_getItem_of (k := k) (intKind_is prog w _ _) hm ht' (.tok hk _ (.int _ _))) hs
      · cases h
    | _ => exact no_none h
  | _ => exact no_none h

theorem sliceop_sound {K : KM} {d r : D} {v : Value} {l u : Option Int} {vl vu : Value} {sl : Addr} {value slice : Expr} (hk : Kn K s.heap) (hv : Rep prog w K d v) (hl : IsPart vl l) (hu : IsPart vu u)
    (hsl : s.heap.get? sl = some { cls := .type "slice", data := .fields #[vl, vu, .none] }) (h : sliceop d l u = some r)
    (hs : subscripted slice false v (.ref sl) = operate [.ref sl, v] (getItem v (.ref sl))) :
    wpAny (model prog w) A (subscriptTail value slice v (.ref sl)) (Good prog w K s r) E s := by
  cases d with
  | list ds => cases l with
    | none => cases u with
      | none => exact no_none h
      | some b =>
        obtain ⟨hz, rfl⟩ := ite_inj h
        obtain ⟨_, _, _, rfl, g, rs⟩ := hv.inv
        rename_i vs a n
        have hlen := rs.length
        refine tail_any (T := "list") ⟨_, hk _ _ g, rfl⟩ list_getitem_lookup ?_ hs
        refine wpAny_getItem_list_slice (items := vs.toArray) ⟨_, hk _ _ g, rfl, _, rfl⟩ ⟨_, hsl, rfl, rfl⟩ hl hu .none (by simp) ?_ (by rw [List.size_toArray, hlen]; exact Nat.le_trans hz.2 (by decide))
        refine good_list hk (rs.take b.toNat) ?_ s.toks
        have := slicePick_upto' vs.toArray b.toNat
        rw [show ((b.toNat : Nat) : Int) = b by omega] at this
        simpa using this
    | some a => cases u with
      | some _ => exact no_none h
      | none =>
        obtain ⟨hz, rfl⟩ := ite_inj h
        obtain ⟨_, _, _, rfl, g, rs⟩ := hv.inv
        rename_i vs a' n
        have hlen := rs.length
        refine tail_any (T := "list") ⟨_, hk _ _ g, rfl⟩ list_getitem_lookup ?_ hs
        refine wpAny_getItem_list_slice (items := vs.toArray) ⟨_, hk _ _ g, rfl, _, rfl⟩ ⟨_, hsl, rfl, rfl⟩ hl hu .none (by simp) ?_ (by rw [List.size_toArray, hlen]; exact Nat.le_trans hz.2 (by decide))
        refine good_list hk (rs.drop a.toNat) ?_ s.toks
        have := slicePick_from' vs.toArray a.toNat
        rw [show ((a.toNat : Nat) : Int) = a by omega] at this
        simpa using this
  | str x => cases l with
    | none => cases u <;> exact no_none h
    | some a => cases u with
      | none => exact no_none h
      | some b =>
        obtain ⟨hz, rfl⟩ := ite_inj h
        obtain ⟨t, rfl⟩ := hv.inv
        cases hl with | int _ ta => cases hu with | int _ tb =>
        refine tail_any (T := "str") (typeIs_str _ _ _) F.slot_str_getitem.lookup ?_ hs
        refine wpAny_getItem_str_slice (l := some (a, ta)) (u := some (b, tb)) (st := none) ⟨_, hsl, rfl, rfl⟩ rfl ?_
        have hle := Txt.slice_le x (some a) (some b)
        unfold sliceMade
        split
        · rename_i hc
          have e : Txt.slice x (some a) (some b) = x := by unfold Txt.slice; exact if_pos hc
          rw [e]; exact Good.plain hk (.str _ _)
        · rename_i hc
          have e : Txt.slice x (some a) (some b) = ⟨((slicePicked x (some (a, ta)) (some (b, tb)) none).filterMap (x.cps[·]?)).toArray⟩ := by unfold Txt.slice; exact if_neg hc
          rw [e] at hle ⊢
          exact ⟨Nat.le_trans hle (Nat.le_trans hz (by decide)), .tok hk _ (.str _ _)⟩
  | _ => cases l <;> cases u <;> exact no_none h

theorem strs_of {K : KM} : ∀ {ds : List D} {vs : List Value}, Reps prog w K ds vs → ∀ {xs : List Str}, strsOf ds = some xs → StrsAre vs xs
  | _, _, .nil, xs, e => by simp [strsOf] at e; subst e; exact .nil
  | _, _, .cons (d := d) r rs, xs, e => by
    cases r <;> simp only [strsOf] at e <;> try (cases e; done)
    split at e
    · rename_i js he; cases e; exact .cons _ _ (strs_of rs he)
    · cases e

/-- the method's home: type and built-in -/
noncomputable def ML.of : ML → D → String × String
  | .join, _ => ("str", "str.join")
  | .lower, _ => ("str", "str.lower")
  | .get, _ => ("dict", "dict.get")
theorem methop_type {K : KM} {m : ML} {d r : D} {ds : List D} {v : Value} (hk : Kn K s.heap) (hv : Rep prog w K d v) (h : methop m d ds = some r) :
    PlainAttrs (m.of d).1 ∧ Slot (m.of d).1 m.name (m.of d).2 ∧ typeOf (.builtin (m.of d).2) = pure (.type "method_descriptor") ∧ s.TypeIs v (m.of d).1 ∧ (∀ a, v = .ref a → ∃ ob, s.heap.get? a = some ob ∧ ob.dict = none) := by
  cases m with
  | join => cases d with
    | str _ => obtain ⟨_, rfl⟩ := hv.inv; exact ⟨F.plainAttrs_str, F.slot_str_join, F.type_str_join, typeIs_str _ _ _, fun _ e => nomatch e⟩
    | _ => exact no_none h
  | lower => cases d with
    | str _ => obtain ⟨_, rfl⟩ := hv.inv; exact ⟨F.plainAttrs_str, F.slot_str_lower, F.type_str_lower, typeIs_str _ _ _, fun _ e => nomatch e⟩
    | _ => exact no_none h
  | get => cases d with
    | dIS _ => obtain ⟨_, _, rfl, g, hd, a, b⟩ := hv.inv; exact ⟨F.plainAttrs_dict, F.slot_dict_get, F.type_dict_get, (g _ hk).typeIs, (g _ hk).noDict⟩
    | dSI _ => obtain ⟨_, _, rfl, g, hd, a, b⟩ := hv.inv; exact ⟨F.plainAttrs_dict, F.slot_dict_get, F.type_dict_get, (g _ hk).typeIs, (g _ hk).noDict⟩
    | _ => exact no_none h

theorem methop_sound {K : KM} {m : ML} {d r : D} {ds : List D} {v : Value} {vs : List Value} (hk : Kn K s.heap) (hv : Rep prog w K d v) (hvs : Reps prog w K ds vs) (h : methop m d ds = some r) :
    wpAny (model prog w) A (call (.builtin (m.of d).2) (v :: vs)) (Good prog w K s r) E s := by
  cases m with
  | join => cases d with
    | str sep => cases ds with
      | nil => exact no_none h
      | cons d ds => cases ds with
        | cons _ _ => cases d <;> exact no_none h
        | nil => cases d with
          | list ds =>
            replace h : (match strsOf ds with | some xs => (if sep.length ≤ 16 ∧ (xs.map (·.length)).sum + xs.length ≤ 1048576 then some (D.str (Txt.join sep xs)) else none) | none => none) = some r := h
            split at h
            · rename_i xs he
              obtain ⟨hz, rfl⟩ := ite_inj h
              obtain ⟨_, rfl⟩ := hv.inv
              obtain ⟨_, rfl, a⟩ := hvs.one
              obtain ⟨_, _, _, rfl, g, rs⟩ := a.inv
              exact join_listW (items := (_ : List Value).toArray) ⟨_, hk _ _ g, rfl, _, rfl⟩ (by simpa using strs_of rs he) hz.1 hz.2 fun t' k => .tok hk _ (.str _ _)
            · cases h
          | _ => exact no_none h
    | _ => exact no_none h
  | lower => cases d with
    | str x => cases ds with
      | cons _ _ => exact no_none h
      | nil =>
        obtain ⟨hz, rfl⟩ := ite_inj h
        obtain ⟨t, rfl⟩ := hv.inv
        cases hvs with | nil =>
        show wpAny _ _ (call (.builtin "str.lower") _) _ _ _
        exact call_gives F.slot_str_lower (typeIs_str _ _ _) F.entry_str_lower (F.args_str_lower_1 _) (gives_str_lower x t hz) ⟨fit_le hz, .tok hk _ (.str _ _)⟩
    | _ => exact no_none h
  | get => cases d with
    | dIS es => cases ds with
      | nil => exact no_none h
      | cons d ds => cases ds with
        | cons _ _ => cases d <;> exact no_none h
        | nil => cases d with
          | int k =>
            obtain rfl := some_inj h
            obtain ⟨_, _, rfl, g, hd, a, b⟩ := hv.inv
            obtain ⟨_, rfl, c⟩ := hvs.one
            obtain ⟨t, rfl⟩ := c.inv
            have hm := g _ hk
            show wpAny _ _ (call (.builtin "dict.get") _) _ _ _
            refine call_meetsIn F.slot_dict_get hm.typeIs F.entry_dict_get (F.args_dict_get_2 _ _) (meets_dict_get (intKind prog w) _ (k := k) (intKind_is prog w _ _) hd) ⟨_, hm, ?_⟩
            show Good _ _ _ _ _ _ _
            cases q : es.lookup k with
            | none => rw [b k q]; exact .tok hk _ .none
            | some x => obtain ⟨t', ht'⟩ := a k x q; rw [ht']; exact .tok hk _ (.str _ _)
          | _ => exact no_none h
    | dSI es => cases ds with
      | nil => exact no_none h
      | cons d ds => cases d with
        | str k => cases ds with
          | nil => exact no_none h
          | cons d ds => cases d with
            | int dflt => cases ds with
              | cons _ _ => exact no_none h
              | nil =>
                obtain rfl := some_inj h
                obtain ⟨_, _, rfl, g, hd, a, b⟩ := hv.inv
                obtain ⟨_, _, rfl, c, e⟩ := hvs.two
                obtain ⟨t, rfl⟩ := c.inv; obtain ⟨t', rfl⟩ := e.inv
                have hm := g _ hk
                show wpAny _ _ (call (.builtin "dict.get") _) _ _ _
                refine call_meetsIn F.slot_dict_get hm.typeIs F.entry_dict_get (F.args_dict_get_3 _ _ _) (meets_dict_get_default (PySem.strKind prog w) _ (k := k) (strKind_is prog w _ _) hd _) ⟨_, hm, ?_⟩
                show Good _ _ _ _ _ _ _
                cases q : es.lookup k with
                | none => rw [b k q]; exact .tok hk _ (.int _ _)
                | some x => obtain ⟨t', ht'⟩ := a k x q; rw [ht']; exact .tok hk _ (.int _ _)
            | _ => exact no_none h
        | _ => exact no_none h
    | _ => exact no_none h

end
end Mine

namespace Mine
/-! M5: the small language, its evaluator, and what of the text it stands for -/
inductive Tg where
  | one | tup (k : Nat)
mutual
inductive ME where
  | none | bool (b : Bool) | int (i : Int) | flt (x : UInt64) | str (x : Str)
  | var (n : Nat) | glob (i : Nat)
  | bin (op : Operator) (a b : ME) | neg (a : ME)
  | cmp (op : CmpOp) (a b : ME) | ite (t : MT) (a b : ME)
  | list (es : List ME) | tup (es : List ME)
  | subv (n : Nat) (i : ME) | sub (a i : ME) | slice (a : ME) (lo hi : Option ME)
  | call (f : Nat) (a : ME) (as : List ME) | bi (b : BI) (a : ME) (as : List ME) | meth (m : ML) (o : ME) (as : List ME)
  | comp (elt : ME) (tg : Tg) (it : ME) (ifs : List MT) (free : List Nat)
inductive MT where
  | cmp (op : CmpOp) (a b : ME) | val (a : ME) | not (t : MT) | and (ts : List MT) | or (ts : List MT)
end

inductive Slot where
  | val (d : D) | own (d : D)
abbrev Sg := List (Option Slot)
structure Prg where
  gc : List (Str × D)
  fn : List Str
  orc : Nat → List D → Option D

noncomputable def Sg.val (σ : Sg) (n : Nat) : Option D := match σ[n]? with
  | some (some (.val d)) => some d
  | _ => none
noncomputable def negop : D → Option D
  | .int i => some (.int (-i))
  | .flt x => some (.flt (Float64.neg x))
  | _ => none
noncomputable def compF (f : D → Option (Option D)) : List D → Option (List D)
  | [] => some []
  | d :: ds => match f d with
    | some (some r) => (match compF f ds with | some rs => some (r :: rs) | none => none)
    | some none => compF f ds
    | none => none
noncomputable def bindTg : Tg → D → Option Sg
  | .one, d => some [some (.val d)]
  | .tup k, .tup ds => if ds.length = k then some (ds.map fun d => some (.val d)) else none
  | .tup _, _ => none
noncomputable def intD : Option D → Option (Option Int)
  | some (.int i) => some (some i)
  | _ => none
mutual
noncomputable def ev (P : Prg) : ME → Sg → Option D
  | .none, _ => some .none
  | .bool b, _ => some (.bool b)
  | .int i, _ => some (.int i)
  | .flt x, _ => some (.flt x)
  | .str x, _ => some (.str x)
  | .var n, σ => σ.val n
  | .glob i, _ => match P.gc[i]? with | some p => some p.2 | none => none
  | .bin op a b, σ => match ev P a σ with
    | some x => (match ev P b σ with | some y => binop op x y | none => none)
    | none => none
  | .neg a, σ => match ev P a σ with | some x => negop x | none => none
  | .cmp op a b, σ => match ev P a σ with
    | some x => (match ev P b σ with
      | some y => (match cmpop op x y with | some r => some (.bool r) | none => none)
      | none => none)
    | none => none
  | .ite t a b, σ => match evT P t σ with
    | some true => ev P a σ
    | some false => ev P b σ
    | none => none
  | .list es, σ => match evs P es σ with | some ds => if ds.length ≤ 100000 then some (.list ds) else none | none => none
  | .tup es, σ => match evs P es σ with | some ds => if ds.length ≤ 100000 then some (.tup ds) else none | none => none
  | .subv n i, σ => match ev P i σ with
    | some (.int k) => (match σ[n]? with
      | some (some (.val d)) => subop d (.int k)
      | some (some (.own (.list ds))) => idx ds k
      | _ => none)
    | _ => none
  | .sub a i, σ => match ev P a σ with
    | some x => (match ev P i σ with | some y => subop x y | none => none)
    | none => none
  | .slice a lo hi, σ => match ev P a σ with
    | some x => (match evO P lo σ with
      | some l => (match evO P hi σ with | some u => sliceop x l u | none => none)
      | none => none)
    | none => none
  | .call f a as, σ => match ev P a σ with
    | some x => (match evs P as σ with | some xs => P.orc f (x :: xs) | none => none)
    | none => none
  | .bi b a as, σ => match ev P a σ with
    | some x => (match evs P as σ with | some xs => biop b (x :: xs) | none => none)
    | none => none
  | .meth m o as, σ => match ev P o σ with
    | some x => (match evs P as σ with | some xs => methop m x xs | none => none)
    | none => none
  | .comp elt tg it ifs free, σ => match ev P it σ with
    | some (.list ds) => if ds.length ≤ 100000 then
        (match compF (fun d => match bindTg tg d with
          | some τ => (match evAnd P ifs (τ ++ free.map fun i => (σ[i]?).getD none) with
            | some true => (match ev P elt (τ ++ free.map fun i => (σ[i]?).getD none) with | some r => some (some r) | none => none)
            | some false => some none
            | none => none)
          | none => none) ds with
        | some rs => some (.list rs)
        | none => none)
      else none
    | _ => none
noncomputable def evs (P : Prg) : List ME → Sg → Option (List D)
  | [], _ => some []
  | e :: es, σ => match ev P e σ with
    | some d => (match evs P es σ with | some ds => some (d :: ds) | none => none)
    | none => none
noncomputable def evO (P : Prg) : Option ME → Sg → Option (Option Int)
  | none, _ => some none
  | some e, σ => intD (ev P e σ)
noncomputable def evT (P : Prg) : MT → Sg → Option Bool
  | .cmp op a b, σ => match ev P a σ with
    | some x => (match ev P b σ with | some y => cmpop op x y | none => none)
    | none => none
  | .val a, σ => match ev P a σ with | some (.bool b) => some b | _ => none
  | .not t, σ => match evT P t σ with | some b => some (!b) | none => none
  | .and ts, σ => evAnd P ts σ
  | .or ts, σ => evOr P ts σ
noncomputable def evAnd (P : Prg) : List MT → Sg → Option Bool
  | [], _ => some true
  | t :: ts, σ => match evT P t σ with
    | some true => evAnd P ts σ
    | some false => some false
    | none => none
noncomputable def evOr (P : Prg) : List MT → Sg → Option Bool
  | [], _ => some false
  | t :: ts, σ => match evT P t σ with
    | some false => evOr P ts σ
    | some true => some true
    | none => none
end

inductive All2 {α β : Type} (R : α → β → Prop) : List α → List β → Prop
  | nil : All2 R [] []
  | cons {a : α} {b : β} {as : List α} {bs : List β} : R a b → All2 R as bs → All2 R (a :: as) (b :: bs)
theorem All2.length {α β : Type} {R : α → β → Prop} : ∀ {as : List α} {bs : List β}, All2 R as bs → as.length = bs.length
  | _, _, .nil => rfl
  | _, _, .cons _ h => by simp [All2.length h]
theorem All2.get {α β : Type} {R : α → β → Prop} : ∀ {as : List α} {bs : List β}, All2 R as bs → ∀ {i : Nat} {b : β}, bs[i]? = some b → ∃ a, as[i]? = some a ∧ R a b
  | _, _, .nil, i, b, h => by simp at h
  | _, _, .cons (a := a) r hs, 0, b, h => by simp at h; subst h; exact ⟨a, by simp, r⟩
  | _, _, .cons r hs, i + 1, b, h => by
    simp at h
    obtain ⟨a, x, y⟩ := All2.get hs h
    exact ⟨a, by simpa using x, y⟩
theorem All2.mem {α β : Type} {R : α → β → Prop} : ∀ {as : List α} {bs : List β}, All2 R as bs → ∀ {b : β}, b ∈ bs → ∃ a ∈ as, R a b
  | _, _, .nil, b, h => by simp at h
  | _, _, .cons (a := a) r hs, b, h => by
    rcases List.mem_cons.mp h with rfl | h
    · exact ⟨a, by simp, r⟩
    · obtain ⟨a', m, y⟩ := All2.mem hs h
      exact ⟨a', by simp [m], y⟩
/-- the text -/
structure Cx where
  sc : List (Str × NameKind)
  nm : List Str
inductive TrTg : Tg → List Str → Expr → Prop
  | one (x : Str) (p : Pos) : TrTg .one [x] (.Name x p)
  | tup {xs : List Str} {es : List Expr} {k : Nat} {q : Nat} {p : Pos} : All2 (fun x e => ∃ p, e = Expr.Name x p) xs es → xs.length = k → TrTg (.tup k) xs (.Tuple es q p)
noncomputable def notDebug (x : Str) : Prop := (x == ("__debug__" : Str)) = false
mutual
inductive TrE (P : Prg) : Cx → ME → Expr → Prop
  | none {c : Cx} (k : Nat) (p : Pos) : TrE P c .none (.Constant .none k p)
  | bool {c : Cx} (b : Bool) (k : Nat) (p : Pos) : TrE P c (.bool b) (.Constant (.bool b) k p)
  | int {c : Cx} (i : Int) (k : Nat) (p : Pos) : TrE P c (.int i) (.Constant (.int i) k p)
  | flt {c : Cx} (x : UInt64) (k : Nat) (p : Pos) : TrE P c (.flt x) (.Constant (.float x) k p)
  | str {c : Cx} (x : Str) (k : Nat) (p : Pos) : TrE P c (.str x) (.Constant (.str x) k p)
  | var {c : Cx} {n : Nat} {x : Str} (p : Pos) : c.nm[n]? = some x → notDebug x → TrE P c (.var n) (.Name x p)
  | glob {c : Cx} {i : Nat} {x : Str} {d : D} (p : Pos) : P.gc[i]? = some (x, d) → c.sc.lookup x = some .globalImplicit → notDebug x → TrE P c (.glob i) (.Name x p)
  | bin {c : Cx} {op : Operator} {a b : ME} {l r : Expr} {p : Pos} : TrE P c a l → TrE P c b r → TrE P c (.bin op a b) (.BinOp l op r p)
  | neg {c : Cx} {a : ME} {l : Expr} {p : Pos} : TrE P c a l → TrE P c (.neg a) (.UnaryOp .USub l p)
  | cmp {c : Cx} {op : CmpOp} {a b : ME} {l r : Expr} {p : Pos} : TrE P c a l → TrE P c b r → behindInMarks op r = false → TrE P c (.cmp op a b) (.Compare l [op] [r] p)
  | ite {c : Cx} {t : MT} {a b : ME} {et ea eb : Expr} {p : Pos} : TrT P c t et → TrE P c a ea → TrE P c b eb → TrE P c (.ite t a b) (.IfExp et ea eb p)
  | list {c : Cx} {es : List ME} {xs : List Expr} {p : Pos} : TrEs P c es xs → TrE P c (.list es) (.List xs p)
  | tup {c : Cx} {es : List ME} {xs : List Expr} {k : Nat} {p : Pos} : TrEs P c es xs → TrE P c (.tup es) (.Tuple xs k p)
  | subv {c : Cx} {n : Nat} {x : Str} {i : ME} {ei : Expr} {q p : Pos} : c.nm[n]? = some x → notDebug x → TrE P c i ei → TrE P c (.subv n i) (.Subscript (.Name x q) ei p)
  | sub {c : Cx} {a i : ME} {ea ei : Expr} {p : Pos} : TrE P c a ea → TrE P c i ei → TrE P c (.sub a i) (.Subscript ea ei p)
  | slice {c : Cx} {a : ME} {lo hi : Option ME} {ea : Expr} {el eh : Option Expr} {q p : Pos} : TrE P c a ea → TrO P c lo el → TrO P c hi eh → TrE P c (.slice a lo hi) (.Subscript ea (.Slice el eh none q) p)
  | call {c : Cx} {f : Nat} {x : Str} {a : ME} {as : List ME} {ea : Expr} {eas : List Expr} {q p : Pos} : P.fn[f]? = some x → c.sc.lookup x = some .globalImplicit → notDebug x → TrE P c a ea → TrEs P c as eas →
      TrE P c (.call f a as) (.Call (.Name x q) (ea :: eas) [] p)
  | bi {c : Cx} {b : BI} {a : ME} {as : List ME} {ea : Expr} {eas : List Expr} {q p : Pos} : c.sc.lookup b.name = some .globalImplicit → TrE P c a ea → TrEs P c as eas →
      TrE P c (.bi b a as) (.Call (.Name b.name q) (ea :: eas) [] p)
  | meth {c : Cx} {m : ML} {o : ME} {as : List ME} {eo : Expr} {eas : List Expr} {q p : Pos} : TrE P c o eo → (∀ env, attributeBase eo m.name env (eval eo env) = eval eo env) → (q.endLine == p.line) = true → as.length < 10 → TrEs P c as eas →
      TrE P c (.meth m o as) (.Call (.Attribute eo m.name q) eas [] p)
  | comp {c : Cx} {elt : ME} {tg : Tg} {it : ME} {ifs : List MT} {free : List Nat} {tn fnm : List Str} {et ei tgt : Expr} {eifs : List Expr} {scope : Scope} {p : Pos} :
      TrTg tg tn tgt → TrE P c it ei → (∀ env x, foldedSetIterable ei env x = pure x) →
      TrTs P ⟨scope.names, tn ++ fnm⟩ ifs eifs → TrE P ⟨scope.names, tn ++ fnm⟩ elt et →
      scope.kind = .function → (∀ y ∈ scope.names, y.2 = .local → scope.names.lookup y.1 = some .local) → (∀ y ∈ scope.names, y.2 ≠ .cell) →
      (∀ x ∈ tn, scope.names.lookup x = some .local) → tn.Nodup →
      (∀ y ∈ scope.names, y.2 = .free → y.1 ∈ fnm) →
      All2 (fun i x => c.nm[i]? = some x ∧ scope.names.lookup x = some .free ∧ c.sc.lookup x = some .cell) free fnm →
      TrE P c (.comp elt tg it ifs free) (.ListComp et [⟨tgt, ei, eifs, 0⟩] scope p)
inductive TrEs (P : Prg) : Cx → List ME → List Expr → Prop
  | nil {c : Cx} : TrEs P c [] []
  | cons {c : Cx} {e : ME} {es : List ME} {x : Expr} {xs : List Expr} : TrE P c e x → TrEs P c es xs → TrEs P c (e :: es) (x :: xs)
inductive TrO (P : Prg) : Cx → Option ME → Option Expr → Prop
  | none {c : Cx} : TrO P c none none
  | some {c : Cx} {e : ME} {x : Expr} : TrE P c e x → TrO P c (some e) (some x)
inductive TrT (P : Prg) : Cx → MT → Expr → Prop
  | cmp {c : Cx} {op : CmpOp} {a b : ME} {l r : Expr} {p : Pos} : TrE P c a l → TrE P c b r → behindInMarks op r = false → TrT P c (.cmp op a b) (.Compare l [op] [r] p)
  | val {c : Cx} {a : ME} {e : Expr} : TrE P c a e → (∀ env w, isTrue e env w = (do let v ← w; standAt e.pos; holding [v] (truthy v))) → TrT P c (.val a) e
  | not {c : Cx} {t : MT} {e : Expr} {p : Pos} : TrT P c t e → TrT P c (.not t) (.UnaryOp .Not e p)
  | and {c : Cx} {ts : List MT} {es : List Expr} {p : Pos} : TrTs P c ts es → TrT P c (.and ts) (.BoolOp .And es p)
  | or {c : Cx} {ts : List MT} {es : List Expr} {p : Pos} : TrTs P c ts es → TrT P c (.or ts) (.BoolOp .Or es p)
inductive TrTs (P : Prg) : Cx → List MT → List Expr → Prop
  | nil {c : Cx} : TrTs P c [] []
  | cons {c : Cx} {t : MT} {ts : List MT} {x : Expr} {xs : List Expr} : TrT P c t x → TrTs P c ts xs → TrTs P c (t :: ts) (x :: xs)
end

theorem TrE.star {P : Prg} {c : Cx} {m : ME} {e : Expr} (h : TrE P c m e) : ∀ rest env, starEach (e :: rest) env = (false, eval e env) :: starEach rest env := by
  cases h <;> intro rest env <;> rfl
theorem TrE.plainSub {P : Prg} {c : Cx} {m : ME} {e : Expr} (h : TrE P c m e) : ∀ v u, subscripted e false v u = operate [v, u] (getItem v u) := by
  cases h <;> intro v u <;> rfl
end Mine

namespace Mine
/-! M6: contexts; targets -/
section
variable (prog : Program) (w : World)
noncomputable def FnSpec (P : Prg) (n : Nat) (KB : KM) (i : Nat) (a : Addr) (h : Heap) : Prop :=
  ∀ ds r, P.orc i ds = some r → ∀ (A : Around) (s : Shared) (vs : List Value) (K : KM), (∀ b o, h.get? b = some o → s.heap.get? b = some o) → Le KB K → Kn K s.heap → Room n A → Reps prog w K ds vs →
    wpAny (model prog w) A (call (.ref a) vs) (Good prog w K s r) (fun _ _ => False) s
structure GB (P : Prg) (n : Nat) (K : KM) (h : Heap) : Prop where
  ex : ∃ mg mb, h.Ns mainGlobals mg ∧ h.Ns builtinsNs mb ∧
    (∀ (i : Nat) (x : Str) (d : D), P.gc[i]? = some (x, d) → ∃ v, mg x = some v ∧ Rep prog w K d v) ∧
    (∀ b : BI, mg b.name = none ∧ mb b.name = some b.val) ∧ (mg "range" = none ∧ mb "range" = some (.type "range")) ∧
    (∀ (i : Nat) (x : Str), P.fn[i]? = some x → ∃ a o fd KB, mg x = some (.ref a) ∧ h.get? a = some o ∧ o.data = .func fd ∧ Le KB K ∧ FnSpec prog w P n KB i a h)
  noLimit : h.NoLimit
  sm : ∃ o, h.get? sysModules = some o
noncomputable def VarAt (env : Env) (h : Heap) (x : Str) (v : Value) : Prop :=
  (env.kindOf x = some .local ∧ ∃ m, h.Ns env.locals m ∧ m x = some v) ∨ (env.kindOf x = some .cell ∧ ∃ c, env.cells.lookup x = some c ∧ h.IsCell c (some v))
noncomputable def OwnRep (K : KM) (h : Heap) : D → Addr → Prop
  | .list ds, a => ∃ vs n, h.get? a = some { cls := .type "list", data := .seq vs.toArray n } ∧ Reps prog w K ds vs
  | .dII es, a => (a == sysModules) = false ∧ ∃ kvs, h.DictOf (intKind prog w) a kvs ∧ All2 (fun (e : Int × Int) (kv : Int × Value) => kv.1 = e.1 ∧ ∃ t, kv.2 = .int e.2 t) es kvs
  | .set xs, a => h.SetOf (intKind prog w) a (fun k => xs.any (· == k)) xs.length
  | _, _ => False
noncomputable def SlotRep (K : KM) (h : Heap) : Slot → Value → Prop
  | .val d, v => Rep prog w K d v
  | .own d, v => ∃ a, v = .ref a ∧ OwnRep prog w K h d a
structure Cxt (P : Prg) (n : Nat) (c : Cx) (σ : Sg) (env : Env) (K : KM) (h : Heap) : Prop where
  gb : GB prog w P n K h
  kind : env.scope.kind = .function
  glob : env.globals = mainGlobals
  blt : env.builtins = builtinsNs
  gi : ∀ x, c.sc.lookup x = some .globalImplicit → env.kindOf x = some .globalImplicit
  ce : ∀ x, c.sc.lookup x = some .cell → env.kindOf x = some .cell ∧ ∃ a, env.cells.lookup x = some a
  vars : ∀ (i : Nat) (x : Str) (sl : Slot), c.nm[i]? = some x → σ[i]? = some (some sl) → ∃ v, VarAt env h x v ∧ SlotRep prog w K h sl v
end

section
variable {prog : Program} {w : World}
theorem FnSpec.keeps {P : Prg} {n i : Nat} {KB : KM} {a : Addr} {h h' : Heap} (x : FnSpec prog w P n KB i a h) (k : ∀ b o, h.get? b = some o → h'.get? b = some o) : FnSpec prog w P n KB i a h' :=
  fun ds r e A s vs K k' => x ds r e A s vs K fun b o q => k' b o (k b o q)
theorem GB.mono {P : Prg} {n : Nat} {K K' : KM} {h h' : Heap} (x : GB prog w P n K h) (l : Le K K') (k : ∀ b o, h.get? b = some o → h'.get? b = some o) : GB prog w P n K' h' := by
  obtain ⟨⟨mg, mb, a, b, c, d, e, f⟩, g, sm⟩ := x
  exact ⟨⟨mg, mb, a.keeps k, b.keeps k, fun i x d q => let ⟨v, h1, h2⟩ := c i x d q; ⟨v, h1, h2.mono l⟩, d, e,
    fun i x q => let ⟨a, o, fd, KB, h1, h2, h3, h5, h4⟩ := f i x q; ⟨a, o, fd, KB, h1, k _ _ h2, h3, h5.trans l, h4.keeps k⟩⟩, g.keeps k, let ⟨o, ho⟩ := sm; ⟨o, k _ _ ho⟩⟩
theorem VarAt.keeps {env : Env} {h h' : Heap} {x : Str} {v : Value} (a : VarAt env h x v) (k : ∀ b o, h.get? b = some o → h'.get? b = some o) : VarAt env h' x v :=
  a.imp (fun ⟨p, m, q, r⟩ => ⟨p, m, q.keeps k, r⟩) fun ⟨p, c, q, r⟩ => ⟨p, c, q, r.keeps k⟩
theorem mapOf_at {K : Type} [DecidableEq K] {knd : KeyKind prog w K} {h h' : Heap} {a : Addr} {f : K → Option Value} (x : h.MapOf knd a f) (k : ∀ o, h.get? a = some o → h'.get? a = some o) : h'.MapOf knd a f :=
  let ⟨o, es, ep, ho, r⟩ := x; ⟨o, es, ep, k o ho, r⟩
theorem setOf_at {K : Type} [DecidableEq K] {knd : KeyKind prog w K} {h h' : Heap} {a : Addr} {S : K → Bool} {n : Nat} (x : h.SetOf knd a S n) (k : ∀ o, h.get? a = some o → h'.get? a = some o) : h'.SetOf knd a S n :=
  let ⟨o, es, ep, t, ho, r⟩ := x; ⟨o, es, ep, t, k o ho, r⟩
theorem OwnRep.at {K K' : KM} {h h' : Heap} {d : D} {a : Addr} (x : OwnRep prog w K h d a) (l : Le K K') (k : ∀ o, h.get? a = some o → h'.get? a = some o) : OwnRep prog w K' h' d a := by
  cases d <;> try exact x
  · obtain ⟨vs, n, g, r⟩ := x; exact ⟨vs, n, k _ g, r.mono l⟩
  · obtain ⟨hs, kvs, m, p⟩ := x
    exact ⟨hs, kvs, m.at k, p⟩
  · exact setOf_at (show h.SetOf _ _ _ _ from x) k
theorem SlotRep.mono {K K' : KM} {h h' : Heap} {sl : Slot} {v : Value} (x : SlotRep prog w K h sl v) (l : Le K K') (k : ∀ b o, h.get? b = some o → h'.get? b = some o) : SlotRep prog w K' h' sl v := by
  cases sl with
  | val d => exact Rep.mono l x
  | own d => obtain ⟨a, e, r⟩ := x; exact ⟨a, e, r.at l (k a)⟩
theorem Cxt.mono {P : Prg} {n : Nat} {c : Cx} {σ : Sg} {env : Env} {K K' : KM} {h h' : Heap} (x : Cxt prog w P n c σ env K h) (l : Le K K') (k : ∀ b o, h.get? b = some o → h'.get? b = some o) : Cxt prog w P n c σ env K' h' :=
  ⟨x.gb.mono l k, x.kind, x.glob, x.blt, x.gi, x.ce, fun i x' sl a b => let ⟨v, p, q⟩ := x.vars i x' sl a b; ⟨v, p.keeps k, q.mono l k⟩⟩
theorem Cxt.ext {P : Prg} {n : Nat} {c : Cx} {σ : Sg} {env : Env} {K K' : KM} {s s' : Shared} (x : Cxt prog w P n c σ env K s.heap) (e : Ext K s K' s') : Cxt prog w P n c σ env K' s'.heap := x.mono e.le (Keeps.heap e.keeps)

theorem Ext.off {K K' : KM} {s s' : Shared} (x : Ext K s K' s') {a : Addr} (h : K a = none) {o : Obj} (ho : s.heap.get? a = some o) : K' a = none := by
  cases e : K' a with
  | none => rfl
  | some o' => have := x.fresh a h (by simp [e]); rw [ho] at this; cases this
theorem Ext.upd {K K' : KM} {s s' : Shared} (x : Ext K s K' s') {a : Addr} {h'' : Heap} {t : Nat} (hs : ∀ b o, b ≠ a → s'.heap.get? b = some o → h''.get? b = some o) (hK : K' a = none) (ha : s.heap.get? a = none) :
    Ext K s K' { s' with heap := h'', toks := t } := by
  refine ⟨x.le, fun b o e => hs b o (fun q => by rw [q, hK] at e; cases e) (x.kn b o e), ?_, x.fresh⟩
  obtain ⟨h1, t1, rfl, k⟩ := x.keeps
  exact ⟨h'', t, rfl, fun b o e => hs b o (fun q => by rw [q, ha] at e; cases e) (k b o e)⟩

theorem Ext.freeze {K K' : KM} {s s' : Shared} (x : Ext K s K' s') {a : Addr} {o : Obj} (hK : K' a = none) (ha : s.heap.get? a = none) (ho : s'.heap.get? a = some o) : Ext K s (K'.add a o) s' :=
  ⟨x.le.trans (Le.add o hK), x.kn.add ho, x.keeps, fun b h0 h1 => by
    unfold KM.add at h1
    by_cases hb : b = a
    · subst hb; exact ha
    · rw [if_neg hb] at h1; exact x.fresh b h0 h1⟩

variable {A : Around} {E : Value → Shared → Prop} {s : Shared}
theorem load_var {env : Env} {x : Str} {v : Value} {Q : Value → Shared → Prop} (hk : env.scope.kind = .function) (a : VarAt env s.heap x v) (h : Q v s) : wpAny (model prog w) A (loadName env x) Q E s := by
  rcases a with ⟨p, m, q, r⟩ | ⟨p, c, q, r⟩
  · exact wpAny_loadName_local hk p q r h
  · exact wpAny_loadName_cell hk p q r h

/-- a target's names -/
theorem assign_names {env : Env} {K : KM} (hf : env.scope.kind = .function) : ∀ {xs : List Str} {es : List Expr}, All2 (fun x e => ∃ p, e = Expr.Name x p) xs es → ∀ {ds : List D} {vs : List Value}, Reps prog w K ds vs → ds.length = xs.length →
    (∀ x ∈ xs, env.kindOf x = some .local) → xs.Nodup → ∀ (s : Shared) (m : Str → Option Value) (Q : Unit → Shared → Prop), s.heap.Ns env.locals m →
    (∀ h' tk m', h'.Ns env.locals m' → Heap.SameBut env.locals s.heap h' → (∀ x, x ∉ xs → m' x = m x) → (∀ (i : Nat) (x : Str) (d : D), xs[i]? = some x → ds[i]? = some d → ∃ v, m' x = some v ∧ Rep prog w K d v) → Q () { s with heap := h', toks := tk }) →
    wpAny (model prog w) A (assignInOrder ((assignEach es env).map (·.2)) vs) Q E s
  | _, _, .nil, ds, vs, r, hl, _, _, s, m, Q, hn, hQ => by
    cases r with
    | nil => exact wpAny_pure (hQ s.heap s.toks m hn (.refl ..) (fun _ _ => rfl) (fun i x d h => by simp at h))
    | cons _ _ => simp at hl
  | _, _, .cons (a := x) (as := xs) h0 hs, ds, vs, r, hl, hloc, hnd, s, m, Q, hn, hQ => by
    obtain ⟨p, rfl⟩ := h0
    cases r with
    | nil => simp at hl
    | cons r0 rs =>
      rename_i _ d0 v0 ds vs
      have hxl : env.kindOf x = some .local := hloc x (by simp)
      have hnd' := List.nodup_cons.mp hnd
      refine wpAny_assignInOrder_more (wpAny_assign_Name (wpAny_storeName_local hxl hn (fun h₁ hn₁ hs₁ => ?_) (by rw [hf]; rfl)))
      refine assign_names hf hs rs (by simpa using hl) (fun y hy => hloc y (by simp [hy])) hnd'.2 _ _ Q hn₁ fun h' tk m' hn' hs' hother hmine => ?_
      refine hQ h' tk m' hn' (hs₁.trans hs') (fun y hy => ?_) fun i y d hi hd => ?_
      · simp only [List.mem_cons, not_or] at hy
        rw [hother y hy.2, if_neg hy.1]
      · cases i with
        | zero =>
          simp at hi hd; subst hi; subst hd
          exact ⟨v0, by rw [hother _ hnd'.1, if_pos rfl], r0⟩
        | succ i => exact hmine i y d (by simpa using hi) (by simpa using hd)

theorem assignEach_names {env : Env} : ∀ {xs : List Str} {es : List Expr}, All2 (fun x e => ∃ p, e = Expr.Name x p) xs es → (assignEach es env).length = xs.length ∧ (assignEach es env).findIdx? (·.1) = none
  | _, _, .nil => ⟨rfl, rfl⟩
  | _, _, .cons h0 hs => by
    obtain ⟨p, rfl⟩ := h0
    obtain ⟨a, b⟩ := assignEach_names (env := env) hs
    refine ⟨?_, ?_⟩
    · show (assignEach _ env).length + 1 = _
      rw [a]; rfl
    · show List.findIdx? _ ((false, _) :: assignEach _ env) = none
      rw [List.findIdx?_cons, b]; rfl

theorem assign_tg {env : Env} {K : KM} {tg : Tg} {tn : List Str} {tgt : Expr} {m : Str → Option Value} {d : D} {v : Value} {τ : Sg} {Q : Unit → Shared → Prop} (hh : A.handled = none) (hf : env.scope.kind = .function)
    (T : TrTg tg tn tgt) (hl : ∀ x ∈ tn, env.kindOf x = some .local) (nd : tn.Nodup) (hn : s.heap.Ns env.locals m) (r : Rep prog w K d v) (hk : Kn K s.heap) (hb : bindTg tg d = some τ)
    (hQ : ∀ h' tk m', h'.Ns env.locals m' → (∀ b o, b ≠ env.locals → s.heap.get? b = some o → h'.get? b = some o) → (∀ x, x ∉ tn → m' x = m x) →
      (∀ (i : Nat) (x : Str) (sl : Slot), tn[i]? = some x → τ[i]? = some (some sl) → ∃ d v, sl = .val d ∧ m' x = some v ∧ Rep prog w K d v) → Q () { s with heap := h', toks := tk }) :
    wpAny (model prog w) A (assign tgt env v) Q E s := by
  cases T with
  | one x p =>
    cases hb
    refine wpAny_assign_Name (wpAny_storeName_local (hl x (by simp)) hn (fun h₁ hn₁ hs₁ => hQ h₁ _ _ hn₁ (fun b o hb e => hs₁.extBut b o hb e) (fun y hy => if_neg (by simpa using hy)) fun i y sl hi hsl => ?_) (by rw [hf]; rfl))
    cases i with
    | zero => simp at hi hsl; subst hi; subst hsl; exact ⟨d, v, rfl, if_pos rfl, r⟩
    | succ i => simp at hi
  | tup hs hlen =>
    rename_i es k q p
    cases r <;> simp only [bindTg] at hb <;> try (cases hb; done)
    rename_i ds vs a n g rs
    split at hb
    · rename_i hk'; cases hb
      have hlen' := rs.length
      have hLt := hn.lt
      refine wpAny_assign_Tuple (t := a) (items := vs.toArray) hh ⟨_, hk _ _ g, rfl, n, rfl⟩ (by rw [(assignEach_names hs).1, List.size_toArray, hlen', hlen, hk']) (assignEach_names hs).2 fun h' hx => ?_
      have hne : env.locals ≠ s.heap.objs.size := Nat.ne_of_lt hLt
      refine assign_names hf hs rs (by omega) hl nd _ m Q (hn.extBut hx hne) fun h'' tk m' hn'' hs'' hother hmine => ?_
      refine hQ h'' tk m' hn'' (fun b o hb e => hs''.extBut b o hb (hx b o (Nat.ne_of_lt (Heap.lt_size e)) e)) hother fun i x sl hi hsl => ?_
      rw [List.getElem?_map] at hsl
      cases q : ds[i]? with
      | none => rw [q] at hsl; cases hsl
      | some d' =>
        rw [q] at hsl
        simp at hsl
        subst hsl
        obtain ⟨v', h1, h2⟩ := hmine i x d' hi q
        exact ⟨d', v', rfl, h1, h2⟩
    · cases hb
end
end Mine

namespace Mine
/-! M7: expressions are what the evaluator says (all but the comprehension) -/
section
variable (prog : Program) (w : World) (P : Prg) (n : Nat) (c : Cx)
noncomputable def PE (me : ME) (e : Expr) : Prop := ∀ (σ : Sg) (env : Env) (K : KM) (s : Shared) (A : Around) (E : Value → Shared → Prop) (d : D), Room n A → Cxt prog w P n c σ env K s.heap → Kn K s.heap → ev P me σ = some d →
  wpAny (model prog w) A (eval e env) (Good prog w K s d) E s
noncomputable def PEs (ms : List ME) (es : List Expr) : Prop := ∀ (σ : Sg) (env : Env) (K : KM) (s : Shared) (A : Around) (E : Value → Shared → Prop) (ds : List D) (pos : Pos), Room n A → Cxt prog w P n c σ env K s.heap → Kn K s.heap → evs P ms σ = some ds →
  wpAny (model prog w) A (spliced (backTo pos (starEach es env))) (fun vs s' => ∃ K', Ext K s K' s' ∧ Reps prog w K' ds vs) E s
noncomputable def PO (mo : Option ME) (eo : Option Expr) : Prop := ∀ (σ : Sg) (env : Env) (K : KM) (s : Shared) (A : Around) (E : Value → Shared → Prop) (l : Option Int), Room n A → Cxt prog w P n c σ env K s.heap → Kn K s.heap → evO P mo σ = some l →
  wpAny (model prog w) A (evalPart eo env) (fun v s' => IsPart v l ∧ ∃ K', Ext K s K' s') E s
noncomputable def PT (mt : MT) (e : Expr) : Prop := ∀ (σ : Sg) (env : Env) (K : KM) (s : Shared) (A : Around) (E : Value → Shared → Prop) (b : Bool), Room n A → Cxt prog w P n c σ env K s.heap → Kn K s.heap → evT P mt σ = some b →
  wpAny (model prog w) A (isTrue e env (eval e env)) (fun r s' => r = b ∧ ∃ K', Ext K s K' s') E s
noncomputable def PAnd (ts : List MT) (es : List Expr) : Prop := ∀ (σ : Sg) (env : Env) (K : KM) (s : Shared) (A : Around) (E : Value → Shared → Prop) (b : Bool), Room n A → Cxt prog w P n c σ env K s.heap → Kn K s.heap → evAnd P ts σ = some b →
  wpAny (model prog w) A (allTrue .And es env) (fun r s' => r = b ∧ ∃ K', Ext K s K' s') E s
noncomputable def POr (ts : List MT) (es : List Expr) : Prop := ∀ (σ : Sg) (env : Env) (K : KM) (s : Shared) (A : Around) (E : Value → Shared → Prop) (b : Bool), Room n A → Cxt prog w P n c σ env K s.heap → Kn K s.heap → evOr P ts σ = some b →
  wpAny (model prog w) A (allTrue .Or es env) (fun r s' => r = b ∧ ∃ K', Ext K s K' s') E s
noncomputable def PIf (ts : List MT) (es : List Expr) : Prop := ∀ (σ : Sg) (env : Env) (K : KM) (s : Shared) (A : Around) (E : Value → Shared → Prop) (b : Bool), Room n A → Cxt prog w P n c σ env K s.heap → Kn K s.heap → evAnd P ts σ = some b →
  wpAny (model prog w) A (forIn es true fun c r => if r = true then do let ok ← isTrue c env (eval c env); pure (ForInStep.yield ok) else pure (ForInStep.yield r)) (fun r s' => r = b ∧ ∃ K', Ext K s K' s') E s
end

section
variable {prog : Program} {w : World} {P : Prg} {n : Nat} {c : Cx}
theorem c_none (k : Nat) (p : Pos) : PE prog w P n c .none (.Constant .none k p) := fun σ env K s A E d R X k h => by
  cases h; exact wpAny_Constant_none (.plain k .none)
theorem c_bool (b : Bool) (k : Nat) (p : Pos) : PE prog w P n c (.bool b) (.Constant (.bool b) k p) := fun σ env K s A E d R X k h => by
  cases h; exact wpAny_Constant_bool (.plain k (.bool b))
theorem c_int (i : Int) (k : Nat) (p : Pos) : PE prog w P n c (.int i) (.Constant (.int i) k p) := fun σ env K s A E d R X k h => by
  cases h; exact wpAny_Constant_int (.tok k _ (.int _ _))
theorem c_flt (x : UInt64) (k : Nat) (p : Pos) : PE prog w P n c (.flt x) (.Constant (.float x) k p) := fun σ env K s A E d R X k h => by
  cases h; exact wpAny_Constant_float (.tok k _ (.flt _ _))
theorem c_str (x : Str) (k : Nat) (p : Pos) : PE prog w P n c (.str x) (.Constant (.str x) k p) := fun σ env K s A E d R X k h => by
  cases h; exact Calls.Constant_str (.tok k _ (.str _ _))
theorem Sg.val_some {σ : Sg} {i : Nat} {d : D} (h : σ.val i = some d) : σ[i]? = some (some (.val d)) := by
  unfold Sg.val at h
  split at h
  · rename_i e; cases h; exact e
  · cases h
theorem c_var {i : Nat} {x : Str} (p : Pos) (hx : c.nm[i]? = some x) (hd : notDebug x) : PE prog w P n c (.var i) (.Name x p) := fun σ env K s A E d R X k h => by
  obtain ⟨v, a, r⟩ := X.vars i x _ hx (Sg.val_some h)
  exact wpAny_Name (load_var X.kind a (.plain k r)) hd
theorem c_glob {i : Nat} {x : Str} {d₀ : D} (p : Pos) (hx : P.gc[i]? = some (x, d₀)) (hs : c.sc.lookup x = some .globalImplicit) (hd : notDebug x) : PE prog w P n c (.glob i) (.Name x p) := fun σ env K s A E d R X k h => by
  simp only [ev, hx] at h
  cases h
  obtain ⟨⟨mg, mb, hg, hb, hc, _⟩, _, _⟩ := X.gb
  obtain ⟨v, h1, h2⟩ := hc i x _ hx
  exact Calls.Name_function_global X.kind (X.gi x hs) (Calls.loadGlobal_global (by rw [X.glob]; exact hg) h1 (.plain k h2)) hd
theorem c_bin {op : Operator} {a b : ME} {l r : Expr} {p : Pos} (ha : PE prog w P n c a l) (hb : PE prog w P n c b r) : PE prog w P n c (.bin op a b) (.BinOp l op r p) := fun σ env K s A E d R X k h => by
  simp only [ev] at h
  split at h
  · rename_i x hx
    split at h
    · rename_i y hy
      refine wpAny_BinOp (wpAny_mono (ha σ env K s A E x R X k hx) (fun v s₁ h₁ => ?_) fun _ _ e => e)
      obtain ⟨K₁, x₁, r₁⟩ := h₁
      refine wpAny_mono (hb σ env K₁ s₁ A E y R (X.ext x₁) x₁.kn hy) (fun u s₂ h₂ => ?_) fun _ _ e => e
      obtain ⟨K₂, x₂, r₂⟩ := h₂
      exact wpAny_mono (binop_sound x₂.kn (r₁.mono x₂.le) r₂ h) (fun _ _ g => g.from (x₁.trans x₂)) fun _ _ e => e
    · cases h
  · cases h
theorem c_neg {a : ME} {l : Expr} {p : Pos} (ha : PE prog w P n c a l) : PE prog w P n c (.neg a) (.UnaryOp .USub l p) := fun σ env K s A E d R X k h => by
  simp only [ev] at h
  split at h
  · rename_i x hx
    refine wpAny_UnaryOp (wpAny_mono (ha σ env K s A E x R X k hx) (fun v s₁ h₁ => ?_) fun _ _ e => e)
    obtain ⟨K₁, x₁, r₁⟩ := h₁
    cases x <;> simp only [negop] at h <;> try (cases h; done)
    · cases h; cases r₁; exact neg_int (Good.from x₁ (.tok x₁.kn _ (.int _ _)))
    · cases h; cases r₁; exact neg_float (Good.from x₁ (.tok x₁.kn _ (.flt _ _)))
  · cases h
theorem c_cmp {op : CmpOp} {a b : ME} {l r : Expr} {p : Pos} (ha : PE prog w P n c a l) (hb : PE prog w P n c b r) (hm : behindInMarks op r = false) : PE prog w P n c (.cmp op a b) (.Compare l [op] [r] p) := fun σ env K s A E d R X k h => by
  simp only [ev] at h
  split at h
  · rename_i x hx
    split at h
    · rename_i y hy
      split at h
      · rename_i q hq; cases h
        refine wpAny_Compare1 (wpAny_mono (ha σ env K s A E x R X k hx) (fun v s₁ h₁ => ?_) fun _ _ e => e) hm
        obtain ⟨K₁, x₁, r₁⟩ := h₁
        refine wpAny_mono (hb σ env K₁ s₁ A E y R (X.ext x₁) x₁.kn hy) (fun u s₂ h₂ => ?_) fun _ _ e => e
        obtain ⟨K₂, x₂, r₂⟩ := h₂
        refine wpAny_mono (cmpop_sound R x₂.kn (r₁.mono x₂.le) r₂ hq) (fun v s₃ g => ?_) fun _ _ e => e
        obtain ⟨rfl, tk, rfl⟩ := g
        exact Good.from (x₁.trans x₂) (.tok x₂.kn _ (.bool _))
      · cases h
    · cases h
  · cases h
theorem t_cmp {op : CmpOp} {a b : ME} {l r : Expr} {p : Pos} (ha : PE prog w P n c a l) (hb : PE prog w P n c b r) (hm : behindInMarks op r = false) : PT prog w P n c (.cmp op a b) (.Compare l [op] [r] p) := fun σ env K s A E d R X k h => by
  simp only [evT] at h
  split at h
  · rename_i x hx
    split at h
    · rename_i y hy
      refine wpAny_isTrue_Compare1 (wpAny_mono (ha σ env K s A E x R X k hx) (fun v s₁ h₁ => ?_) fun _ _ e => e) hm
      obtain ⟨K₁, x₁, r₁⟩ := h₁
      refine wpAny_mono (hb σ env K₁ s₁ A E y R (X.ext x₁) x₁.kn hy) (fun u s₂ h₂ => ?_) fun _ _ e => e
      obtain ⟨K₂, x₂, r₂⟩ := h₂
      refine wpAny_mono (cmpop_sound R x₂.kn (r₁.mono x₂.le) r₂ h) (fun v s₃ g => ?_) fun _ _ e => e
      obtain ⟨rfl, tk, rfl⟩ := g
      exact wpAny_truthy_bool ⟨rfl, K₂, (x₁.trans x₂).trans (.toks x₂.kn _)⟩
    · cases h
  · cases h
theorem c_ite {t : MT} {a b : ME} {et ea eb : Expr} {p : Pos} (ht : PT prog w P n c t et) (ha : PE prog w P n c a ea) (hb : PE prog w P n c b eb) : PE prog w P n c (.ite t a b) (.IfExp et ea eb p) := fun σ env K s A E d R X k h => by
  simp only [ev] at h
  split at h
  · rename_i hq
    refine wpAny_IfExp (wpAny_mono (ht σ env K s A E true R X k hq) (fun v s₁ h₁ => ?_) fun _ _ e => e)
    obtain ⟨rfl, K₁, x₁⟩ := h₁
    exact wpAny_mono (ha σ env K₁ s₁ A E d R (X.ext x₁) x₁.kn h) (fun _ _ g => g.from x₁) fun _ _ e => e
  · rename_i hq
    refine wpAny_IfExp (wpAny_mono (ht σ env K s A E false R X k hq) (fun v s₁ h₁ => ?_) fun _ _ e => e)
    obtain ⟨rfl, K₁, x₁⟩ := h₁
    exact wpAny_mono (hb σ env K₁ s₁ A E d R (X.ext x₁) x₁.kn h) (fun _ _ g => g.from x₁) fun _ _ e => e
  · cases h
theorem c_list {ms : List ME} {es : List Expr} {p : Pos} (hs : PEs prog w P n c ms es) : PE prog w P n c (.list ms) (.List es p) := fun σ env K s A E d R X k h => by
  simp only [ev] at h
  split at h
  · rename_i ds hds
    split at h
    · rename_i hz; cases h
      refine wpAny_List (wpAny_mono (hs σ env K s A E ds p R X k hds) (fun vs s₁ h₁ => ?_) fun _ _ e => e)
      obtain ⟨K₁, x₁, r₁⟩ := h₁
      exact ⟨by rw [r₁.length]; exact Nat.le_trans hz (by decide), Good.from x₁ (good_list x₁.kn r₁ rfl s₁.toks)⟩
    · cases h
  · cases h
theorem c_tup {ms : List ME} {es : List Expr} {q : Nat} {p : Pos} (hs : PEs prog w P n c ms es) : PE prog w P n c (.tup ms) (.Tuple es q p) := fun σ env K s A E d R X k h => by
  simp only [ev] at h
  split at h
  · rename_i ds hds
    split at h
    · rename_i hz; cases h
      refine wpAny_Tuple (wpAny_mono (hs σ env K s A E ds p R X k hds) (fun vs s₁ h₁ => ?_) fun _ _ e => e)
      obtain ⟨K₁, x₁, r₁⟩ := h₁
      exact ⟨by rw [r₁.length]; exact Nat.le_trans hz (by decide), Good.from x₁ (good_tup x₁.kn r₁ rfl s₁.toks)⟩
    · cases h
  · cases h
theorem c_subv {i : Nat} {x : Str} {m : ME} {ei : Expr} {q p : Pos} (hx : c.nm[i]? = some x) (hd : notDebug x) (hi : PE prog w P n c m ei) (hp : ∀ v u, subscripted ei false v u = operate [v, u] (getItem v u)) :
    PE prog w P n c (.subv i m) (.Subscript (.Name x q) ei p) := fun σ env K s A E d R X k h => by
  simp only [ev] at h
  split at h
  · rename_i j hj
    split at h
    · rename_i d' hv
      obtain ⟨v, a, r⟩ := X.vars i x _ hx hv
      refine Subscript_ (wpAny_Name (load_var X.kind a ?_) hd)
      refine wpAny_mono (hi σ env K s A E _ R X k hj) (fun u s₂ h₂ => ?_) fun _ _ e => e
      obtain ⟨K₂, x₂, r₂⟩ := h₂
      exact wpAny_mono (subop_sound x₂.kn (Rep.mono x₂.le r) r₂ h (hp _ _)) (fun _ _ g => g.from x₂) fun _ _ e => e
    · rename_i ds hv
      obtain ⟨v, a, r⟩ := X.vars i x _ hx hv
      obtain ⟨ad, rfl, vs, nn, hl, rs⟩ := r
      refine Subscript_ (wpAny_Name (load_var X.kind a ?_) hd)
      refine wpAny_mono (hi σ env K s A E _ R X k hj) (fun u s₂ h₂ => ?_) fun _ _ e => e
      obtain ⟨K₂, x₂, r₂⟩ := h₂
      cases r₂
      have hl₂ := Keeps.heap x₂.keeps _ _ hl
      exact tail_any (T := "list") ⟨_, hl₂, rfl⟩ list_getitem_lookup (getItem_listD hl₂ (rs.mono x₂.le) h fun v r => Good.from x₂ (.plain x₂.kn r)) (hp _ _)
    · cases h
  · cases h
theorem c_sub {a i : ME} {ea ei : Expr} {p : Pos} (ha : PE prog w P n c a ea) (hi : PE prog w P n c i ei) (hp : ∀ v u, subscripted ei false v u = operate [v, u] (getItem v u)) :
    PE prog w P n c (.sub a i) (.Subscript ea ei p) := fun σ env K s A E d R X k h => by
  simp only [ev] at h
  split at h
  · rename_i x hx
    split at h
    · rename_i y hy
      refine Subscript_ (wpAny_mono (ha σ env K s A E x R X k hx) (fun v s₁ h₁ => ?_) fun _ _ e => e)
      obtain ⟨K₁, x₁, r₁⟩ := h₁
      refine wpAny_mono (hi σ env K₁ s₁ A E y R (X.ext x₁) x₁.kn hy) (fun u s₂ h₂ => ?_) fun _ _ e => e
      obtain ⟨K₂, x₂, r₂⟩ := h₂
      exact wpAny_mono (subop_sound x₂.kn (r₁.mono x₂.le) r₂ h (hp _ _)) (fun _ _ g => g.from (x₁.trans x₂)) fun _ _ e => e
    · cases h
  · cases h
theorem c_slice {a : ME} {lo hi : Option ME} {ea : Expr} {el eh : Option Expr} {q p : Pos} (ha : PE prog w P n c a ea) (hl : PO prog w P n c lo el) (hh : PO prog w P n c hi eh) :
    PE prog w P n c (.slice a lo hi) (.Subscript ea (.Slice el eh none q) p) := fun σ env K s A E d R X k h => by
  simp only [ev] at h
  split at h
  · rename_i x hx
    split at h
    · rename_i l hl'
      split at h
      · rename_i u hu'
        refine Subscript_ (wpAny_mono (ha σ env K s A E x R X k hx) (fun v s₁ h₁ => ?_) fun _ _ e => e)
        obtain ⟨K₁, x₁, r₁⟩ := h₁
        refine wpAny_Slice (wpAny_mono (hl σ env K₁ s₁ A E l R (X.ext x₁) x₁.kn hl') (fun vl s₂ h₂ => ?_) fun _ _ e => e)
        obtain ⟨p₂, K₂, x₂⟩ := h₂
        refine wpAny_mono (hh σ env K₂ s₂ A E u R ((X.ext x₁).ext x₂) x₂.kn hu') (fun vu s₃ h₃ => ?_) fun _ _ e => e
        obtain ⟨p₃, K₃, x₃⟩ := h₃
        refine wpAny_evalPart_none ?_
        have x₄ : Ext K₃ s₃ K₃ { s₃ with heap := s₃.heap.push { cls := .type "slice", data := .fields #[vl, vu, .none] }, toks := s₃.toks } := Ext.heap x₃.kn fun b o e => Heap.get?_push_of_some _ e
        exact wpAny_mono (sliceop_sound x₄.kn (r₁.mono (x₂.le.trans x₃.le)) p₂ p₃ (Heap.get?_push_size _ rfl) h rfl) (fun _ _ g => g.from (((x₁.trans x₂).trans x₃).trans x₄)) fun _ _ e => e
      · cases h
    · cases h
  · cases h
theorem o_none : PO prog w P n c none none := fun σ env K s A E l R X k h => by
  cases h; exact wpAny_evalPart_none ⟨.none, K, .refl k⟩
theorem o_some {m : ME} {e : Expr} (he : PE prog w P n c m e) : PO prog w P n c (some m) (some e) := fun σ env K s A E l R X k h => by
  simp only [evO] at h
  cases q : ev P m σ with
  | none => rw [q] at h; simp [intD] at h
  | some d =>
    rw [q] at h
    cases d <;> simp only [intD] at h <;> try (cases h; done)
    cases h
    refine wpAny_evalPart_some (wpAny_mono (he σ env K s A E _ R X k q) (fun v s₁ h₁ => ?_) fun _ _ e => e)
    obtain ⟨K₁, x₁, r₁⟩ := h₁
    cases r₁
    exact ⟨.int _ _, K₁, x₁⟩
theorem s_nil : PEs prog w P n c [] [] := fun σ env K s A E l pos R X k h => by
  cases h; exact args_nil ⟨K, .refl k, .nil⟩
theorem s_cons {m : ME} {ms : List ME} {e : Expr} {es : List Expr} (he : PE prog w P n c m e) (hs : PEs prog w P n c ms es) (hst : ∀ env, starEach (e :: es) env = (false, eval e env) :: starEach es env) :
    PEs prog w P n c (m :: ms) (e :: es) := fun σ env K s A E l pos R X k h => by
  simp only [evs] at h
  split at h
  · rename_i x hx
    split at h
    · rename_i ds hds; cases h
      refine args_cons (wpAny_mono (he σ env K s A E x R X k hx) (fun v s₁ h₁ => ?_) fun _ _ e => e) (hst env)
      obtain ⟨K₁, x₁, r₁⟩ := h₁
      refine wpAny_mono (hs σ env K₁ s₁ A E ds pos R (X.ext x₁) x₁.kn hds) (fun vs s₂ h₂ => ?_) fun _ _ e => e
      obtain ⟨K₂, x₂, r₂⟩ := h₂
      exact ⟨K₂, x₁.trans x₂, .cons (r₁.mono x₂.le) r₂⟩
    · cases h
  · cases h
theorem c_call {f : Nat} {x : Str} {a : ME} {as : List ME} {ea : Expr} {eas : List Expr} {q p : Pos} (hf : P.fn[f]? = some x) (hs : c.sc.lookup x = some .globalImplicit) (hd : notDebug x)
    (ha : PEs prog w P n c (a :: as) (ea :: eas)) (hst : ∀ env, starEach (ea :: eas) env = (false, eval ea env) :: starEach eas env) : PE prog w P n c (.call f a as) (.Call (.Name x q) (ea :: eas) [] p) := fun σ env K s A E d R X k h => by
  simp only [ev] at h
  split at h
  · rename_i y hy
    split at h
    · rename_i ys hys
      obtain ⟨⟨mg, mb, hg, hb, hc, _, _, hfn⟩, _, _⟩ := id X.gb
      obtain ⟨fa, o, fd, KB, h1, h2, h3, h5, h4⟩ := hfn f x hf
      refine Call_ (Calls.Name_function_global X.kind (X.gi x hs) (Calls.loadGlobal_global (by rw [X.glob]; exact hg) h1 ?_) hd)
      refine callWith_def h3 (wpAny_mono (ha σ env K s A E (y :: ys) p R X k (by simp only [evs, hy, hys])) (fun vs s₁ h₁ => ?_) fun _ _ e => e) (hst env)
      obtain ⟨K₁, x₁, r₁⟩ := h₁
      exact ⟨Keeps.heap x₁.keeps _ _ h2, wpAny_mono (h4 _ _ h A s₁ vs K₁ (Keeps.heap x₁.keeps) (h5.trans x₁.le) x₁.kn R r₁) (fun _ _ g => g.from x₁) fun _ _ e => e.elim⟩
    · cases h
  · cases h
theorem c_bi {b : BI} {a : ME} {as : List ME} {ea : Expr} {eas : List Expr} {q p : Pos} (hs : c.sc.lookup b.name = some .globalImplicit)
    (ha : PEs prog w P n c (a :: as) (ea :: eas)) (hst : ∀ env, starEach (ea :: eas) env = (false, eval ea env) :: starEach eas env) (hall : ∀ env, (backTo p (starEach eas env)).any (·.1) = false) :
    PE prog w P n c (.bi b a as) (.Call (.Name b.name q) (ea :: eas) [] p) := fun σ env K s A E d R X k h => by
  simp only [ev] at h
  split at h
  · rename_i y hy
    split at h
    · rename_i ys hys
      obtain ⟨⟨mg, mb, hg, hb, hc, hbi, _⟩, _, _⟩ := id X.gb
      obtain ⟨h1, h2⟩ := hbi b
      refine Call_ (Calls.Name_function_global X.kind (X.gi _ hs) (Calls.loadGlobal_builtin (by rw [X.glob]; exact hg) h1 (by rw [X.blt]; exact hb) h2 ?_) (by cases b <;> decide))
      have Z : wpAny (model prog w) A (spliced (backTo p (starEach (ea :: eas) env))) (fun vs s₁ => wpAny (model prog w) A (call b.val vs) (Good prog w K s d) E s₁) E s := by
        refine wpAny_mono (ha σ env K s A E (y :: ys) p R X k (by simp only [evs, hy, hys])) (fun vs s₁ h₁ => ?_) fun _ _ e => e
        obtain ⟨K₁, x₁, r₁⟩ := h₁
        exact wpAny_mono (biop_sound R x₁.kn r₁ h) (fun _ _ g => g.from x₁) fun _ _ e => e
      cases b
      case int => exact PyProof.Rows.callWith_type1 Z (hst env) (hall env)
      case set => exact PyProof.Rows.callWith_type1 Z (hst env) (hall env)
      all_goals exact PyProof.Rows.callWith_builtin1 Z (hst env) (hall env)
    · cases h
  · cases h
theorem c_meth {m : ML} {o : ME} {as : List ME} {eo : Expr} {eas : List Expr} {q p : Pos} (ho : PE prog w P n c o eo) (hb : ∀ env, attributeBase eo m.name env (eval eo env) = eval eo env) (hl : (q.endLine == p.line) = true)
    (hlen : as.length < 10) (hlen' : eas.length = as.length) (ha : PEs prog w P n c as eas) (hst : ∀ env, ∀ x ∈ starEach eas env, x.1 = false) (hst' : ∀ env e es, eas = e :: es → starEach (e :: es) env = (false, eval e env) :: starEach es env) :
    PE prog w P n c (.meth m o as) (.Call (.Attribute eo m.name q) eas [] p) := fun σ env K s A E d R X k h => by
  simp only [ev] at h
  split at h
  · rename_i y hy
    split at h
    · rename_i ys hys
      have hall : (backTo p (starEach eas env)).any (·.1) = false := by
        unfold backTo
        rw [List.any_eq_false]
        intro z hz
        obtain ⟨u, hu, rfl⟩ := List.mem_map.mp hz
        simp [hst env u hu]
      refine wpAny_Call_method_lateS (hb env) ?_ hl (wpAny_mono (ho σ env K s A E y R X k hy) (fun v s₁ h₁ => ?_) fun _ _ e => e)
      · have h1 : (backTo p (starEach eas env)).all (fun x => !x.1) = true := by
          rw [List.all_eq_true]
          intro z hz
          have := List.any_eq_false.mp hall z hz
          simpa using this
        rw [h1]
        simp [backToKw, keywordEach]
        omega
      · obtain ⟨K₁, x₁, r₁⟩ := h₁
        obtain ⟨p1, p2, p3, p4, p5⟩ := methop_type x₁.kn r₁ h
        refine ⟨_, _, p1, p2, p3, p4, p5, ?_⟩
        cases eas with
        | nil =>
          have has : as = [] := List.eq_nil_of_length_eq_zero (by simpa using hlen'.symm)
          subst has
          cases hys
          exact callWith_method0 (wpAny_mono (methop_sound x₁.kn r₁ .nil h) (fun _ _ g => g.from x₁) fun _ _ e => e)
        | cons e es =>
          refine callWith_method1 (wpAny_mono (ha σ env K₁ s₁ A E ys p R (X.ext x₁) x₁.kn hys) (fun vs s₂ h₂ => ?_) fun _ _ e => e) (hst' env e es rfl) ?_
          · obtain ⟨K₂, x₂, r₂⟩ := h₂
            exact wpAny_mono (methop_sound x₂.kn (r₁.mono x₂.le) r₂ h) (fun _ _ g => g.from (x₁.trans x₂)) fun _ _ e => e
          · rw [hst' env e es rfl] at hall
            simpa [backTo] using hall
    · cases h
  · cases h
theorem t_val {a : ME} {e : Expr} (ha : PE prog w P n c a e) (he : ∀ env w, isTrue e env w = (do let v ← w; standAt e.pos; holding [v] (truthy v))) : PT prog w P n c (.val a) e := fun σ env K s A E b R X k h => by
  simp only [evT] at h
  split at h
  · rename_i q hq; cases h
    refine wpAny_isTrue_value (wpAny_mono (ha σ env K s A E _ R X k hq) (fun v s₁ h₁ => ?_) fun _ _ e => e) (he env _)
    obtain ⟨K₁, x₁, r₁⟩ := h₁
    cases r₁
    exact wpAny_truthy_bool ⟨rfl, K₁, x₁⟩
  · cases h
theorem t_not {t : MT} {e : Expr} {p : Pos} (ht : PT prog w P n c t e) : PT prog w P n c (.not t) (.UnaryOp .Not e p) := fun σ env K s A E b R X k h => by
  simp only [evT] at h
  split at h
  · rename_i q hq; cases h
    exact wpAny_isTrue_Not (wpAny_mono (ht σ env K s A E _ R X k hq) (fun v s₁ h₁ => ⟨by rw [h₁.1], h₁.2⟩) fun _ _ e => e)
  · cases h
theorem t_and {ts : List MT} {es : List Expr} {p : Pos} (ht : PAnd prog w P n c ts es) : PT prog w P n c (.and ts) (.BoolOp .And es p) := fun σ env K s A E b R X k h => by
  simp only [evT] at h
  exact wpAny_isTrue_BoolOp (ht σ env K s A E b R X k h)
theorem t_or {ts : List MT} {es : List Expr} {p : Pos} (ht : POr prog w P n c ts es) : PT prog w P n c (.or ts) (.BoolOp .Or es p) := fun σ env K s A E b R X k h => by
  simp only [evT] at h
  exact wpAny_isTrue_BoolOp (ht σ env K s A E b R X k h)
theorem and_nil : PAnd prog w P n c [] [] := fun σ env K s A E b R X k h => by
  cases h; exact wpAny_allTrue_And_nil ⟨rfl, K, .refl k⟩
theorem or_nil : POr prog w P n c [] [] := fun σ env K s A E b R X k h => by
  cases h; exact wpAny_allTrue_Or_nil ⟨rfl, K, .refl k⟩
theorem if_nil : PIf prog w P n c [] [] := fun σ env K s A E b R X k h => by
  cases h; exact wpAny_tests_nil ⟨rfl, K, .refl k⟩
theorem and_cons {t : MT} {ts : List MT} {e : Expr} {es : List Expr} (ht : PT prog w P n c t e) (hs : PAnd prog w P n c ts es) : PAnd prog w P n c (t :: ts) (e :: es) := fun σ env K s A E b R X k h => by
  simp only [evAnd] at h
  split at h
  · rename_i q
    refine wpAny_allTrue_And_cons (wpAny_mono (ht σ env K s A E _ R X k q) (fun v s₁ h₁ => ?_) fun _ _ e => e)
    obtain ⟨rfl, K₁, x₁⟩ := h₁
    exact wpAny_mono (hs σ env K₁ s₁ A E b R (X.ext x₁) x₁.kn h) (fun _ _ ⟨a, K₂, x₂⟩ => ⟨a, K₂, x₁.trans x₂⟩) fun _ _ e => e
  · rename_i q; cases h
    refine wpAny_allTrue_And_cons (wpAny_mono (ht σ env K s A E _ R X k q) (fun v s₁ h₁ => ?_) fun _ _ e => e)
    obtain ⟨rfl, K₁, x₁⟩ := h₁
    exact ⟨rfl, K₁, x₁⟩
  · cases h
theorem or_cons {t : MT} {ts : List MT} {e : Expr} {es : List Expr} (ht : PT prog w P n c t e) (hs : POr prog w P n c ts es) : POr prog w P n c (t :: ts) (e :: es) := fun σ env K s A E b R X k h => by
  simp only [evOr] at h
  split at h
  · rename_i q
    refine wpAny_allTrue_Or_cons (wpAny_mono (ht σ env K s A E _ R X k q) (fun v s₁ h₁ => ?_) fun _ _ e => e)
    obtain ⟨rfl, K₁, x₁⟩ := h₁
    exact wpAny_mono (hs σ env K₁ s₁ A E b R (X.ext x₁) x₁.kn h) (fun _ _ ⟨a, K₂, x₂⟩ => ⟨a, K₂, x₁.trans x₂⟩) fun _ _ e => e
  · rename_i q; cases h
    refine wpAny_allTrue_Or_cons (wpAny_mono (ht σ env K s A E _ R X k q) (fun v s₁ h₁ => ?_) fun _ _ e => e)
    obtain ⟨rfl, K₁, x₁⟩ := h₁
    exact ⟨rfl, K₁, x₁⟩
  · cases h
theorem tests_false {A : Around} {E : Value → Shared → Prop} {env : Env} {Q : Bool → Shared → Prop} {s : Shared} (h : Q false s) : ∀ es : List Expr,
    wpAny (model prog w) A (forIn es false fun c r => if r = true then do let ok ← isTrue c env (eval c env); pure (ForInStep.yield ok) else pure (ForInStep.yield r)) Q E s
  | [] => wpAny_pure h
  | _ :: es => by
    simp only [List.forIn_cons, Bool.false_eq_true, if_false]
    exact wpAny_bind (wpAny_pure (tests_false h es))
theorem if_cons {t : MT} {ts : List MT} {e : Expr} {es : List Expr} (ht : PT prog w P n c t e) (hs : PIf prog w P n c ts es) : PIf prog w P n c (t :: ts) (e :: es) := fun σ env K s A E b R X k h => by
  simp only [evAnd] at h
  simp only [List.forIn_cons, if_true]
  split at h
  · rename_i q
    refine wpAny_bind (wpAny_bind (wpAny_mono (ht σ env K s A E _ R X k q) (fun v s₁ h₁ => ?_) fun _ _ e => e))
    obtain ⟨rfl, K₁, x₁⟩ := h₁
    exact wpAny_pure (wpAny_mono (hs σ env K₁ s₁ A E b R (X.ext x₁) x₁.kn h) (fun _ _ ⟨a, K₂, x₂⟩ => ⟨a, K₂, x₁.trans x₂⟩) fun _ _ e => e)
  · rename_i q; cases h
    refine wpAny_bind (wpAny_bind (wpAny_mono (ht σ env K s A E _ R X k q) (fun v s₁ h₁ => ?_) fun _ _ e => e))
    obtain ⟨rfl, K₁, x₁⟩ := h₁
    exact wpAny_pure (tests_false ⟨rfl, K₁, x₁⟩ es)
  · cases h
end
end Mine

namespace Mine
/-! M8: the comprehension -/
theorem lookup_map_snd {g : Str → NameKind → NameKind} : ∀ {names : List (Str × NameKind)} {x : Str}, (names.map fun p => (p.1, g p.1 p.2)).lookup x = (names.lookup x).map (g x)
  | [], _ => rfl
  | (n, k) :: r, x => by
    show List.lookup x ((n, g n k) :: _) = _
    cases hx : x == n with
    | true =>
      have : x = n := by simpa using hx
      subst this
      simp [List.lookup_cons]
    | false => simp only [List.lookup_cons, hx]; exact lookup_map_snd
theorem lookup_relabel {scope : Scope} {env : Env} {x : Str} : (relabel scope env).names.lookup x =
    (scope.names.lookup x).map fun k => if (k == .free && env.scope.kind == .function && env.kindOf x == some .cell) = true then .cell else k := by
  rw [← lookup_map_snd (g := fun x k => if (k == .free && env.scope.kind == .function && env.kindOf x == some .cell) = true then .cell else k)]
  unfold relabel
  congr 1
  refine List.map_congr_left fun y _ => ?_
  obtain ⟨a, b⟩ := y
  dsimp only
  split <;> rfl

theorem closure_go {env : Env} : ∀ {names : List (Str × NameKind)}, (∀ y ∈ names, y.2 = .free → ∃ a, env.cells.lookup y.1 = some a) → ∀ cs : List (Str × Addr),
    ∃ cl, (forIn names cs fun (x : Str × NameKind) (r : List (Str × Addr)) => (if (x.2 == NameKind.free) = true then do let a ← cellOf env x.1; pure (ForInStep.yield ((x.1, a) :: r)) else pure (ForInStep.yield r) : Sem _)) = pure cl ∧
      ∀ x, cl.lookup x = (match (names.filter (fun y => y.2 == .free)).any (fun y => y.1 == x) with | true => env.cells.lookup x | false => cs.lookup x)
  | [], _, cs => ⟨cs, rfl, fun x => rfl⟩
  | (m, k) :: r, h, cs => by
    by_cases hk : (k == NameKind.free) = true
    · obtain ⟨a, ha⟩ := h (m, k) (by simp) (by simpa using hk)
      have hc : cellOf env m = pure a := by unfold cellOf; rw [ha]
      obtain ⟨cl, e, l⟩ := closure_go (names := r) (fun y hy => h y (by simp [hy])) ((m, a) :: cs)
      refine ⟨cl, ?_, fun x => ?_⟩
      · rw [List.forIn_cons]
        simp only [hk, if_true, hc, pure_bind]
        exact e
      · rw [l x]
        simp only [List.filter_cons, hk, if_true, List.any_cons]
        cases hx : (m == x) with
        | true =>
          have : m = x := by simpa using hx
          subst this
          simp only [Bool.true_or]
          split
          · rfl
          · simp [List.lookup_cons, ha]
        | false =>
          simp only [Bool.false_or]
          have hx' : (x == m) = false := by
            rw [beq_eq_false_iff_ne] at hx ⊢; exact fun e => hx e.symm
          simp only [List.lookup_cons, hx']
    · obtain ⟨cl, e, l⟩ := closure_go (names := r) (fun y hy => h y (by simp [hy])) cs
      refine ⟨cl, ?_, fun x => ?_⟩
      · rw [List.forIn_cons]
        simp only [hk, if_false, pure_bind]
        exact e
      · rw [l x]
        simp only [List.filter_cons, hk, if_false]
        rfl
theorem closure_of {scope : Scope} {env : Env} (h : ∀ y ∈ scope.names, y.2 = .free → ∃ a, env.cells.lookup y.1 = some a) :
    ∃ cl, closureFor scope env = pure cl ∧ ∀ x, (x, NameKind.free) ∈ scope.names → cl.lookup x = env.cells.lookup x := by
  obtain ⟨cl, e, l⟩ := closure_go h []
  refine ⟨cl, ?_, fun x hx => ?_⟩
  · unfold closureFor
    first
      | exact e
      | (simp only [bind_pure]; exact e)
  · rw [l x]
    have : ((scope.names.filter fun y => y.2 == .free).any fun y => y.1 == x) = true := by
      rw [List.any_eq_true]
      exact ⟨(x, .free), List.mem_filter.mpr ⟨hx, rfl⟩, by simp⟩
    rw [this]
theorem mem_of_lookup {α : Type} {x : Str} {k : α} : ∀ {l : List (Str × α)}, l.lookup x = some k → (x, k) ∈ l
  | [], h => by simp at h
  | (n, k') :: r, h => by
    rw [List.lookup_cons] at h
    split at h
    · rename_i e; cases h
      have : x = n := by simpa using e
      subst this; simp
    · exact List.mem_cons_of_mem _ (mem_of_lookup h)

noncomputable def compStep (P : Prg) (elt : ME) (tg : Tg) (ifs : List MT) (φ : Sg) (d : D) : Option (Option D) := match bindTg tg d with
  | some τ => (match evAnd P ifs (τ ++ φ) with
    | some true => (match ev P elt (τ ++ φ) with | some r => some (some r) | none => none)
    | some false => some none
    | none => none)
  | none => none

theorem bindTg_length {tg : Tg} {tn : List Str} {tgt : Expr} (T : TrTg tg tn tgt) {d : D} {τ : Sg} (h : bindTg tg d = some τ) : τ.length = tn.length := by
  cases T with
  | one => cases h; rfl
  | tup hs hlen =>
    cases d <;> simp only [bindTg] at h <;> try (cases h; done)
    split at h
    · rename_i e; cases h; simp [e, hlen]
    · cases h

section
variable {prog : Program} {w : World} {P : Prg} {n : Nat} {c : Cx}
theorem Cxt.comp {σ : Sg} {env : Env} {K : KM} {h : Heap} (X : Cxt prog w P n c σ env K h) {scope : Scope} {tn fnm : List Str} {free : List Nat} {cl : List (Str × Addr)} {C : Addr} {m : Str → Option Value} {τ : Sg}
    (hkind : scope.kind = .function) (hcell : ∀ y ∈ scope.names, y.2 ≠ .cell) (hloc : ∀ x ∈ tn, scope.names.lookup x = some .local)
    (hfree : All2 (fun i x => c.nm[i]? = some x ∧ scope.names.lookup x = some .free ∧ c.sc.lookup x = some .cell) free fnm)
    (hcl : ∀ x, (x, NameKind.free) ∈ scope.names → cl.lookup x = env.cells.lookup x) (hn : h.Ns C m) (hτ : τ.length = tn.length)
    (hm : ∀ (i : Nat) (x : Str) (sl : Slot), tn[i]? = some x → τ[i]? = some (some sl) → ∃ d v, sl = .val d ∧ m x = some v ∧ Rep prog w K d v) :
    Cxt prog w P n ⟨scope.names, tn ++ fnm⟩ (τ ++ free.map fun i => (σ[i]?).getD none) (compEnvC scope cl C env) K h where
  gb := X.gb
  kind := hkind
  glob := X.glob
  blt := X.blt
  gi := fun x e => by
    show (relabel scope env).names.lookup x = _
    rw [lookup_relabel, show scope.names.lookup x = some .globalImplicit from e]; rfl
  ce := fun x e => absurd rfl (hcell _ (mem_of_lookup (show scope.names.lookup x = some .cell from e)))
  vars := fun i x sl hx hs => by
    dsimp only at hx
    by_cases hi : i < tn.length
    · rw [List.getElem?_append_left hi] at hx
      rw [List.getElem?_append_left (by omega)] at hs
      obtain ⟨d, v, rfl, hv, r⟩ := hm i x sl hx hs
      refine ⟨v, .inl ⟨?_, m, hn, hv⟩, r⟩
      show (relabel scope env).names.lookup x = _
      rw [lookup_relabel, hloc x (List.mem_of_getElem? hx)]; rfl
    · rw [List.getElem?_append_right (by omega)] at hx
      rw [List.getElem?_append_right (by omega), List.getElem?_map] at hs
      obtain ⟨j, hj, h1, h2, h3⟩ := hfree.get hx
      rw [hτ, hj] at hs
      simp only [Option.map_some, Option.some.injEq] at hs
      cases q : σ[j]? with
      | none => rw [q] at hs; cases hs
      | some o =>
        rw [q] at hs
        simp only [Option.getD_some] at hs
        subst hs
        obtain ⟨v, a, r⟩ := X.vars j x sl h1 q
        obtain ⟨kc, _⟩ := X.ce x h3
        refine ⟨v, ?_, r⟩
        rcases a with ⟨kl, _⟩ | ⟨_, ca, hca, hcc⟩
        · rw [kc] at kl; cases kl
        · refine .inr ⟨?_, ca, ?_, hcc⟩
          · show (relabel scope env).names.lookup x = _
            rw [lookup_relabel, h2]
            simp [X.kind, kc]
          · show cl.lookup x = _
            rw [hcl x (mem_of_lookup h2), hca]

variable {A : Around} {E : Value → Shared → Prop} {s : Shared}
/-- where a comprehension stands -/
inductive CompInv (prog : Program) (w : World) (K : KM) (s : Shared) (I Da C ax : Addr) (ds rs : List D) (F : List D → Option (List D)) (q : Nat) (s' : Shared) : Prop
  | mk (K' : KM) (i : Nat) (ys : List Value) (qs rest : List D) (m' : Str → Option Value) (x : Ext K s K' s') (zI : K' I = none) (zD : K' Da = none) (zC : K' C = none) (hit : s'.heap.IsListIter I ax i) (hacc : s'.heap.PlainList Da ys.toArray) (hn : s'.heap.Ns C m')
      (hi : i ≤ ds.length) (hq : q = ds.length + 1 - i) (rq : Reps prog w K' qs ys) (hys : ys.length ≤ i) (hcf : F (ds.drop i) = some rest) (hrs : rs = qs ++ rest)
theorem comp_core {σ : Sg} {env : Env} {K : KM} (R : Room n A) (X : Cxt prog w P n c σ env K s.heap) (k : Kn K s.heap) {elt : ME} {tg : Tg} {ifs : List MT} {free : List Nat} {tn fnm : List Str} {et ei tgt : Expr} {eifs : List Expr} {scope : Scope} {p : Pos}
    {ds rs : List D} {xv : Value} {cl : List (Str × Addr)} (hx : Rep prog w K (.list ds) xv) (hz : ds.length ≤ 100000)
    (T : TrTg tg tn tgt) (hifs : PIf prog w P n ⟨scope.names, tn ++ fnm⟩ ifs eifs) (helt : PE prog w P n ⟨scope.names, tn ++ fnm⟩ elt et)
    (hkind : scope.kind = .function) (hcell : ∀ y ∈ scope.names, y.2 ≠ .cell) (hloc : ∀ x ∈ tn, scope.names.lookup x = some .local) (nd : tn.Nodup)
    (hfree : All2 (fun i x => c.nm[i]? = some x ∧ scope.names.lookup x = some .free ∧ c.sc.lookup x = some .cell) free fnm)
    (hcl : ∀ x, (x, NameKind.free) ∈ scope.names → cl.lookup x = env.cells.lookup x)
    (h : compF (compStep P elt tg ifs (free.map fun i => (σ[i]?).getD none)) ds = some rs)
    {RR : Value → Addr → Result → Shared → Prop}
    (hRR : ∀ D C s' K' m', Ext K s K' s' → K' C = none → s.heap.get? C = none → D ≠ C → Rep prog w K' (.list rs) (.ref D) → s'.heap.Ns C m' → (∃ vs nn, s'.heap.get? D = some { cls := .type "list", data := .seq vs nn }) → RR (.ref D) C (.ok .next) s') :
    wpAny (model prog w) A (pyIter xv) (fun it s₂ => wpAny (model prog w) A (newList []) (fun acc s₃ => wpAny (model prog w) A (newFunctionEnv scope env.globals cl [] env.qual none .none (some env)) (fun cenv s₄ =>
      codeAny (model prog w) A (.compStart (.ListComp et [⟨tgt, ei, eifs, 0⟩] scope p) 0 it acc { cenv with scope := relabel scope env }) (RR acc cenv.locals) s₄) E s₃) E s₂) E s := by
  cases hx with | list g rr =>
  rename_i vs ax nn
  have hlen := rr.length
  have hl : s.heap.IsList ax vs.toArray := ⟨_, k _ _ g, rfl, nn, rfl⟩
  refine wpAny_pyIter_list hl (wpAny_newObj_type (hd := by size_fits) (wpAny_newFunctionEnv hcell (by intro y hy; simp at hy) (fun h₁ hns₁ hsb₁ => ?_) hkind))
  dsimp only at hns₁ hsb₁ ⊢
  generalize hH1 : s.heap.push { cls := .type "list_iterator", data := .fields #[.ref ax, .int 0 0] } = H1 at hns₁ hsb₁ ⊢
  have hD : H1.objs.size = s.heap.objs.size + 1 := by rw [← hH1, Heap.size_push]
  generalize hH2 : H1.push { cls := .type "list", dict := none, data := .seq ([] : List Value).toArray } = H2 at hns₁ hsb₁ ⊢
  have hC : H2.objs.size = s.heap.objs.size + 2 := by rw [← hH2, Heap.size_push, hD]
  have hax : ax < s.heap.objs.size := Heap.lt_size (k _ _ g)
  generalize eI : s.heap.objs.size = I at hD hC hax ⊢
  generalize eD : H1.objs.size = Da at hD hC ⊢
  generalize eC : H2.objs.size = C at hC hns₁ hsb₁ ⊢
  have hDI : Da ≠ I := by omega
  have hDC : Da ≠ C := by omega
  have hIC : I ≠ C := by omega
  have lts : ∀ {b : Nat} {o : Obj}, s.heap.get? b = some o → b < I := fun e => Nat.lt_of_lt_of_eq (Heap.lt_size e) eI
  have fresh : ∀ a, I ≤ a → s.heap.get? a = none := fun a ha => by
    cases e : s.heap.get? a with
    | none => rfl
    | some o' => have := lts e; omega
  have knone : ∀ a, I ≤ a → K a = none := fun a ha => k.none_size (Nat.le_trans (Nat.le_of_eq eI) ha)
  have old : ∀ b o, s.heap.get? b = some o → h₁.get? b = some o := fun b o e => by
    have := lts e
    have hIC' : I ≤ C := by omega
    exact hsb₁.extBut b o (Nat.ne_of_lt (Nat.lt_of_lt_of_le this hIC')) (Heap.get?_push_of_some _ (hH2 ▸ Heap.get?_push_of_some _ (hH1 ▸ Heap.get?_push_of_some _ e)))
  have hit : h₁.IsListIter I ax 0 :=
    ⟨_, hsb₁.extBut _ _ hIC (Heap.get?_push_of_some _ (hH2 ▸ Heap.get?_push_of_some _ (hH1 ▸ eI ▸ Heap.get?_push_size _ rfl))), rfl, rfl⟩
  have hacc : h₁.PlainList Da #[] := ⟨_, hsb₁.extBut _ _ hDC (Heap.get?_push_of_some _ (hH2 ▸ eD ▸ Heap.get?_push_size _ rfl))⟩
  have x₁ : Ext K s K { s with heap := h₁, toks := s.toks + ([] : List (Str × Value)).length } := Ext.heap k old
  have loop : ∀ s₂ : Shared, s₂ = { s with heap := h₁, toks := s.toks + ([] : List (Str × Value)).length } →
      codeAny (model prog w) A (.compLoop (.ListComp et [⟨tgt, ei, eifs, 0⟩] scope p) 0 (.ref I) (.ref Da) (compEnvC scope cl C env)) (RR (.ref Da) C) s₂ := by
    rintro s₂ rfl
    refine codeAny_loop rfl (CompInv prog w K s I Da C ax ds rs (compF (compStep P elt tg ifs (free.map fun i => (σ[i]?).getD none)))) ?_ (ds.length + 1)
      ⟨K, 0, [], [], rs, _, x₁, knone _ (Nat.le_refl _), knone _ (by omega), knone _ (by omega), hit, hacc, hns₁, Nat.zero_le _, rfl, .nil, Nat.le_refl _, h, rfl⟩
    rintro q s' ⟨K', i, ys, qs, rest, m', x, zI, zD, zC, hit', hacc', hn', hi, rfl, rq, hys, hcf, hrs⟩
    show wpAny _ A ((compTurn (.ListComp et [⟨tgt, ei, eifs, 0⟩] scope p) 0 (.ref I) (.ref Da) (compEnvC scope cl C env)).onRaise (fun x => do noteFrame x _; theTreesLotGoes x)) _ _ s'
    refine wpAny_noted ?_
    rw [compTurn_list]
    have hl' : s'.heap.IsList ax vs.toArray := ⟨_, x.kn _ _ (x.le _ _ g), rfl, nn, rfl⟩
    refine wpAny_bind (wpAny_standAt (wpAny_bind ?_))
    cases hv : ds[i]? with
    | none =>
      have hge : ds.length ≤ i := by simpa using hv
      refine wpAny_pyNext_list_end R.handled hit' hl' (by simp; omega) fun h₂ he₂ => ?_
      rw [List.drop_eq_nil_of_le hge] at hcf
      cases hcf
      rw [List.append_nil] at hrs
      subst hrs
      have x₂ : Ext K s K' { s' with heap := h₂, toks := s'.toks } := x.upd (fun b o hb e => he₂ b o hb e) zI (fresh _ (Nat.le_refl _))
      obtain ⟨nD, hDat⟩ := hacc'.extBut he₂ hDI
      have x₃ := x₂.freeze zD (fresh _ (by omega)) hDat
      refine wpAny_pure (hRR Da C _ _ m' x₃ ?_ (fresh _ (by omega)) hDC (.list (KM.add_self _ _ _) (rq.mono (Le.add _ zD))) (hn'.extBut he₂ (Ne.symm hIC)) ⟨_, nD, hDat⟩)
      unfold KM.add
      rw [if_neg (Ne.symm hDC)]; exact zC
    | some d =>
      have hlt : i < ds.length := (List.getElem?_eq_some_iff.mp hv).1
      obtain ⟨v, hvv, rv⟩ := rr.get hv
      rw [List.drop_eq_getElem_cons hlt, show ds[i] = d from (List.getElem?_eq_some_iff.mp hv).2] at hcf
      refine wpAny_pyNext_list_item hit' hl' (by simpa using hvv) fun h₂ hit₂ hs₂ => ?_
      have x₂ : Ext K s K' { s' with heap := h₂, toks := s'.toks } := x.upd (fun b o hb e => hs₂.extBut b o hb e) zI (fresh _ (Nat.le_refl _))
      have rv' : Rep prog w K' d v := rv.mono x.le
      have hacc₂ := hacc'.extBut hs₂.extBut hDI
      have hn₂ := hn'.sameBut hs₂ (Ne.symm hIC)
      dsimp only
      unfold compF compStep at hcf
      cases hb : bindTg tg d with
      | none => rw [hb] at hcf; cases hcf
      | some τ =>
        rw [hb] at hcf
        dsimp only at hcf
        have go : ∀ Q : Unit → Shared → Prop, Q () { s' with heap := h₂, toks := s'.toks } → wpAny (model prog w) A (letOwnedTupleGo tgt (.ref I) v) Q (notedBy (model prog w) A (compEnvC scope cl C env) fun e s' => RR (.ref Da) C (.error e) s') { s' with heap := h₂, toks := s'.toks } := fun Q hQ => by
          cases T with
          | one => exact wpAny_pure hQ
          | tup _ _ =>
            cases rv' <;> simp only [bindTg] at hb <;> try (cases hb; done)
            exact wpAny_letOwnedTupleGo_listiter hit₂ hQ
        refine wpAny_bind (go _ (wpAny_bind (assign_tg R.handled hkind T (fun x hx => ?_) nd hn₂ rv' x₂.kn hb fun h₃ tk₃ m₃ hn₃ hk₃ hother hmine => ?_)))
        · show (relabel scope env).names.lookup x = _
          rw [lookup_relabel, hloc x hx]; rfl
        have x₃ : Ext K s K' { s' with heap := h₃, toks := tk₃ } := by
          have := x₂.upd (t := tk₃) (h'' := h₃) (a := C) (fun b o hb e => hk₃ b o hb e) zC (fresh _ (by omega))
          exact this
        have hit₃ : h₃.IsListIter I ax (i + 1) := hit₂.at fun o e => hk₃ I o hIC e
        have hacc₃ := hacc₂.at fun o e => hk₃ Da o hDC e
        have Y := (X.ext x₃).comp (scope := scope) (cl := cl) (C := C) (m := m₃) (τ := τ) hkind hcell hloc hfree hcl hn₃ (bindTg_length T hb) hmine
        have again : ∀ (K₄ : KM) (s₄ : Shared) (o : Option D), Ext K' { s' with heap := h₃, toks := tk₃ } K₄ s₄ → ∀ (ys' : List Value) (qs' : List D) (s₅ : Shared), K₄ I = none → K₄ Da = none → K₄ C = none → Ext K s K₄ s₅ → s₅.heap.IsListIter I ax (i + 1) → s₅.heap.PlainList Da ys'.toArray → s₅.heap.Ns C m₃ → Reps prog w K₄ qs' ys' → ys'.length ≤ i + 1 →
            (∃ rest', compF (compStep P elt tg ifs (free.map fun i => (σ[i]?).getD none)) (ds.drop (i + 1)) = some rest' ∧ rs = qs' ++ rest') →
            wpAny (model prog w) A (again (.compLoop (.ListComp et [⟨tgt, ei, eifs, 0⟩] scope p) 0 (.ref I) (.ref Da) (compEnvC scope cl C env)))
              (fun fin s'_1 => match fin with
                | .done f => RR (.ref Da) C (.ok f) s'_1
                | .again c' => c' = .compLoop (.ListComp et [⟨tgt, ei, eifs, 0⟩] scope p) 0 (.ref I) (.ref Da) (compEnvC scope cl C env) ∧ ∃ m, m < ds.length + 1 - i ∧
                  CompInv prog w K s I Da C ax ds rs (compF (compStep P elt tg ifs (free.map fun i => (σ[i]?).getD none))) m s'_1)
              (notedBy (model prog w) A (compEnvC scope cl C env) fun e s' => RR (.ref Da) C (.error e) s') s₅ := by
          intro K₄ s₄ o _ ys' qs' s₅ a1 a2 a3 a4 a5 a6 a7 a8 a9 ⟨rest', b1, b2⟩
          exact wpAny_pure ⟨rfl, ds.length + 1 - (i + 1), by omega, K₄, i + 1, ys', qs', rest', m₃, a4, a1, a2, a3, a5, a6, a7, by omega, rfl, a8, a9, b1, b2⟩
        cases hq : evAnd P ifs (τ ++ free.map fun i => (σ[i]?).getD none) with
        | none => rw [hq] at hcf; cases hcf
        | some b =>
          rw [hq] at hcf
          refine wpAny_bind (wpAny_mono (hifs _ _ K' _ A _ b R Y x₃.kn hq) (fun ok s₄ h₄ => ?_) fun _ _ e => e)
          obtain ⟨rfl, K₄, x₄⟩ := h₄
          have zI₄ := x₄.off zI (hit₃.choose_spec.1)
          have zD₄ := x₄.off zD (hacc₃.choose_spec)
          have zC₄ := x₄.off zC (hn₃.choose_spec.choose_spec.choose_spec.1)
          have up₄ := Keeps.heap x₄.keeps
          cases ok with
          | false =>
            simp only [Bool.false_eq_true, if_false]
            exact again K₄ s₄ none x₄ ys qs s₄ zI₄ zD₄ zC₄ (x₃.trans x₄) (hit₃.at fun o e => up₄ _ o e) (hacc₃.at fun o e => up₄ _ o e) (hn₃.keeps up₄) (rq.mono x₄.le) (by omega) ⟨rest, hcf, hrs⟩
          | true =>
            dsimp only at hcf
            cases hr : ev P elt (τ ++ free.map fun i => (σ[i]?).getD none) with
            | none => rw [hr] at hcf; cases hcf
            | some r =>
              rw [hr] at hcf
              dsimp only at hcf
              simp only [if_true]
              split at hcf
              · rename_i rest' hrest'; cases hcf
                refine wpAny_bind (wpAny_bind (wpAny_mono (helt _ _ K₄ _ A _ r R (Y.ext x₄) x₄.kn hr) (fun y s₅ h₅ => ?_) fun _ _ e => e))
                obtain ⟨K₅, x₅, r₅⟩ := h₅
                have x₄₅ := x₄.trans x₅
                have up₅ := Keeps.heap x₄₅.keeps
                have zI₅ := x₄₅.off zI (hit₃.choose_spec.1)
                have zD₅ := x₄₅.off zD (hacc₃.choose_spec)
                have zC₅ := x₄₅.off zC (hn₃.choose_spec.choose_spec.choose_spec.1)
                refine wpAny_bind (wpAny_list_append_plain (hacc₃.at fun o e => up₅ _ o e) (fun h₆ hl₆ hs₆ => ?_) (by simp [sizeLine]; omega))
                refine wpAny_pure ?_
                exact again K₅ s₅ (some r) x₄₅ (ys ++ [y]) (qs ++ [r]) _ zI₅ zD₅ zC₅ (Ext.upd (t := s₅.toks) (x₃.trans x₄₅) (fun b o hb e => hs₆.extBut b o hb e) zD₅ (fresh _ (by omega)))
                  ((hit₃.at fun o e => up₅ _ o e).extBut hs₆.extBut (Ne.symm hDI)) (by simpa using hl₆) ((hn₃.keeps up₅).sameBut hs₆ (Ne.symm hDC)) ((rq.mono x₄₅.le).append (.cons r₅ .nil)) (by simp; omega) ⟨rest', hrest', by simp [hrs]⟩
              · cases hcf
  exact codeAny_compStart_list (loop _ rfl) (wpAny_pyIter_listiter hit (loop _ rfl))
end
end Mine

namespace Mine
/-! M9: all expressions -/
section
variable {prog : Program} {w : World} {P : Prg} {n : Nat} {c : Cx}
theorem closure_at {scope : Scope} {σ : Sg} {env : Env} {K : KM} {h : Heap} (X : Cxt prog w P n c σ env K h) {free : List Nat} {fnm : List Str}
    (hfn : ∀ y ∈ scope.names, y.2 = .free → y.1 ∈ fnm)
    (hfree : All2 (fun i x => c.nm[i]? = some x ∧ scope.names.lookup x = some .free ∧ c.sc.lookup x = some .cell) free fnm) :
    ∃ cl, closureFor scope env = pure cl ∧ ∀ x, (x, NameKind.free) ∈ scope.names → cl.lookup x = env.cells.lookup x :=
  closure_of fun y hy hk => by
    obtain ⟨i, _, _, _, h3⟩ := hfree.mem (hfn y hy hk)
    exact (X.ce _ h3).2
theorem c_comp {elt : ME} {tg : Tg} {it : ME} {ifs : List MT} {free : List Nat} {tn fnm : List Str} {et ei tgt : Expr} {eifs : List Expr} {scope : Scope} {p : Pos}
    (T : TrTg tg tn tgt) (hit : PE prog w P n c it ei) (hfs : ∀ env x, foldedSetIterable ei env x = pure x) (hifs : PIf prog w P n ⟨scope.names, tn ++ fnm⟩ ifs eifs) (helt : PE prog w P n ⟨scope.names, tn ++ fnm⟩ elt et)
    (hkind : scope.kind = .function) (hnames : ∀ y ∈ scope.names, y.2 = .local → scope.names.lookup y.1 = some .local) (hcell : ∀ y ∈ scope.names, y.2 ≠ .cell) (hloc : ∀ x ∈ tn, scope.names.lookup x = some .local) (nd : tn.Nodup)
    (hfn : ∀ y ∈ scope.names, y.2 = .free → y.1 ∈ fnm)
    (hfree : All2 (fun i x => c.nm[i]? = some x ∧ scope.names.lookup x = some .free ∧ c.sc.lookup x = some .cell) free fnm) :
    PE prog w P n c (.comp elt tg it ifs free) (.ListComp et [⟨tgt, ei, eifs, 0⟩] scope p) := fun σ env K s A E d R X k h => by
  simp only [ev] at h
  split at h
  · rename_i ds hds
    split at h
    · rename_i hz
      split at h
      · rename_i rs hrs; cases h
        obtain ⟨cl, hclos, hcl⟩ := closure_at X hfn hfree
        rw [eval_ListComp]
        refine wpAny_comprehension_free (use := none) rfl (hfs env) hclos hkind hnames (wpAny_mono (hit σ env K s A E _ R X k hds) (fun xv s₁ h₁ => ?_) fun _ _ e => e)
        obtain ⟨K₁, x₁, r₁⟩ := h₁
        refine comp_core R (X.ext x₁) x₁.kn r₁ hz T hifs helt hkind hcell hloc nd hfree hcl hrs fun Da C s' K' m' x' zC hC hDC r' hn hD => ?_
        refine ⟨m', hn, fun h' hs' => ?_⟩
        exact ⟨K', x₁.trans (Ext.upd (t := s'.toks) x' (fun b o hb e => hs'.extBut b o hb e) zC hC), r'⟩
      · cases h
    · cases h
  · cases h

theorem TrEs.star {P : Prg} {c : Cx} : ∀ {ms : List ME} {es : List Expr}, TrEs P c ms es → ∀ env, ∀ x ∈ starEach es env, x.1 = false
  | _, _, .nil => fun env x hx => by simp [starEach] at hx
  | _, _, .cons h hs => fun env x hx => by
    rw [h.star] at hx
    rcases List.mem_cons.mp hx with rfl | hx
    · rfl
    · exact hs.star env x hx
theorem TrEs.backAny {P : Prg} {c : Cx} {ms : List ME} {es : List Expr} (h : TrEs P c ms es) (p : Pos) (env : Env) : (backTo p (starEach es env)).any (·.1) = false := by
  unfold backTo
  rw [List.any_eq_false]
  intro z hz
  obtain ⟨u, hu, rfl⟩ := List.mem_map.mp hz
  simp [h.star env u hu]
theorem TrEs.length {P : Prg} {c : Cx} : ∀ {ms : List ME} {es : List Expr}, TrEs P c ms es → es.length = ms.length
  | _, _, .nil => rfl
  | _, _, .cons _ hs => by simp [hs.length]
theorem TrEs.head {P : Prg} {c : Cx} {ms : List ME} {es : List Expr} (h : TrEs P c ms es) : ∀ env e es', es = e :: es' → starEach (e :: es') env = (false, eval e env) :: starEach es' env := by
  intro env e es' he
  subst he
  cases h with
  | cons h hs => exact h.star es' env

mutual
theorem ev_sound : ∀ {c : Cx} {me : ME} {e : Expr}, TrE P c me e → PE prog w P n c me e
  | _, _, _, .none k p => c_none k p
  | _, _, _, .bool b k p => c_bool b k p
  | _, _, _, .int i k p => c_int i k p
  | _, _, _, .flt x k p => c_flt x k p
  | _, _, _, .str x k p => c_str x k p
  | _, _, _, .var p h1 h2 => c_var p h1 h2
  | _, _, _, .glob p h1 h2 h3 => c_glob p h1 h2 h3
  | _, _, _, .bin ha hb => c_bin (ev_sound ha) (ev_sound hb)
  | _, _, _, .neg ha => c_neg (ev_sound ha)
  | _, _, _, .cmp ha hb hm => c_cmp (ev_sound ha) (ev_sound hb) hm
  | _, _, _, .ite ht ha hb => c_ite (evT_sound ht) (ev_sound ha) (ev_sound hb)
  | _, _, _, .list hs => c_list (evs_sound hs)
  | _, _, _, .tup hs => c_tup (evs_sound hs)
  | _, _, _, .subv h1 h2 hi => c_subv h1 h2 (ev_sound hi) hi.plainSub
  | _, _, _, .sub ha hi => c_sub (ev_sound ha) (ev_sound hi) hi.plainSub
  | _, _, _, .slice ha hl hh => c_slice (ev_sound ha) (evO_sound hl) (evO_sound hh)
  | _, _, _, .call h1 h2 h3 ha hs => c_call h1 h2 h3 (s_cons (ev_sound ha) (evs_sound hs) (ha.star _)) (ha.star _)
  | _, _, _, .bi h1 ha hs => c_bi h1 (s_cons (ev_sound ha) (evs_sound hs) (ha.star _)) (ha.star _) (hs.backAny _)
  | _, _, _, .meth ho hb hl hlen hs => c_meth (ev_sound ho) hb hl hlen hs.length (evs_sound hs) hs.star hs.head
  | _, _, _, .comp T hit hfs hifs helt hkind hnames hcell hloc nd hfn hfree => c_comp T (ev_sound hit) hfs (evTs_sound hifs).2.2 (ev_sound helt) hkind hnames hcell hloc nd hfn hfree
theorem evs_sound : ∀ {c : Cx} {ms : List ME} {es : List Expr}, TrEs P c ms es → PEs prog w P n c ms es
  | _, _, _, .nil => s_nil
  | _, _, _, .cons h hs => s_cons (ev_sound h) (evs_sound hs) (h.star _)
theorem evO_sound : ∀ {c : Cx} {mo : Option ME} {eo : Option Expr}, TrO P c mo eo → PO prog w P n c mo eo
  | _, _, _, .none => o_none
  | _, _, _, .some h => o_some (ev_sound h)
theorem evT_sound : ∀ {c : Cx} {mt : MT} {e : Expr}, TrT P c mt e → PT prog w P n c mt e
  | _, _, _, .cmp ha hb hm => t_cmp (ev_sound ha) (ev_sound hb) hm
  | _, _, _, .val ha he => t_val (ev_sound ha) he
  | _, _, _, .not h => t_not (evT_sound h)
  | _, _, _, .and h => t_and (evTs_sound h).1
  | _, _, _, .or h => t_or (evTs_sound h).2.1
theorem evTs_sound : ∀ {c : Cx} {ts : List MT} {es : List Expr}, TrTs P c ts es → PAnd prog w P n c ts es ∧ POr prog w P n c ts es ∧ PIf prog w P n c ts es
  | _, _, _, .nil => ⟨and_nil, or_nil, if_nil⟩
  | _, _, _, .cons h hs => ⟨and_cons (evT_sound h) (evTs_sound hs).1, or_cons (evT_sound h) (evTs_sound hs).2.1, if_cons (evT_sound h) (evTs_sound hs).2.2⟩
end
end
end Mine

namespace Mine
/-! M10: statements, and the state between them -/
inductive MTg where
  | one (x : Nat) | tup (xs : List Nat)
inductive MI where
  | val (e : ME) | range (e : ME)
inductive MS where
  | set (x : Nat) (e : ME)
  | setc (x : Nat) (elt : ME) (tg : Tg) (it : ME) (ifs : List MT) (free : List Nat)
  | newl (x : Nat) | newd (x : Nat) | news (x : Nat)
  | freeze (x : Nat)
  | aug (x : Nat) (e : ME)
  | unp (xs : List Nat) (e : ME)
  | swap (x y : Nat) (a b : ME)
  | app (x : Nat) (e : ME) | adds (x : Nat) (e : ME) | putd (x : Nat) (k e : ME)
  | ite (t : MT) (a b : List MS)
  | forr (tg : MTg) (it : MI) (body : List MS)
  | whl (fuel : Nat) (t : MT) (body : List MS)
  | ret (e : ME)
inductive Out where
  | next (σ : Sg) | ret (d : D)
noncomputable def setMany : List Nat → List D → Sg → Sg
  | x :: xs, d :: ds, σ => setMany xs ds (σ.set x (some (.val d)))
  | _, _, σ => σ
noncomputable def setTg : MTg → D → Sg → Option Sg
  | .one x, d, σ => some (σ.set x (some (.val d)))
  | .tup xs, .tup ds, σ => if ds.length = xs.length then some (setMany xs ds σ) else none
  | .tup _, _, _ => none
noncomputable def whileF (t : Sg → Option Bool) (b : Sg → Option Out) : Nat → Sg → Option Out
  | 0, _ => none
  | k + 1, σ => match t σ with
    | some true => (match b σ with
      | some (.next σ') => whileF t b k σ'
      | some (.ret d) => some (.ret d)
      | none => none)
    | some false => some (.next σ)
    | none => none
noncomputable def forF (g : D → Sg → Option Sg) (b : Sg → Option Out) : List D → Sg → Option Out
  | [], σ => some (.next σ)
  | d :: ds, σ => match g d σ with
    | some τ => (match b τ with
      | some (.next σ') => forF g b ds σ'
      | some (.ret r) => some (.ret r)
      | none => none)
    | none => none
noncomputable def items : MTg → D → Option (List D)
  | _, .list ds => if ds.length ≤ 100000 then some ds else none
  | .one _, .tup ds => if ds.length ≤ 100000 then some ds else none
  | .one _, .str x => if x.cps.size ≤ 100000 then some (x.cps.toList.map fun c => .str ⟨#[c]⟩) else none
  | _, _ => none
noncomputable def rangeOf : MTg → D → Option (List D)
  | .one _, .int k => if -(2 ^ 62) ≤ k ∧ k < 2 ^ 62 then some ((List.range k.toNat).map fun (i : Nat) => .int i) else none
  | _, _ => none
noncomputable def evI (P : Prg) (tg : MTg) : MI → Sg → Option (List D)
  | .val e, σ => match ev P e σ with | some d => items tg d | none => none
  | .range e, σ => match ev P e σ with | some d => rangeOf tg d | none => none
noncomputable def ownL (σ : Sg) (x : Nat) : Option (List D) := match σ[x]? with
  | some (some (.own (.list ds))) => some ds
  | _ => none
noncomputable def ownD (σ : Sg) (x : Nat) : Option (List (Int × Int)) := match σ[x]? with
  | some (some (.own (.dII ds))) => some ds
  | _ => none
noncomputable def ownS (σ : Sg) (x : Nat) : Option (List Int) := match σ[x]? with
  | some (some (.own (.set ds))) => some ds
  | _ => none
noncomputable def ownA (σ : Sg) (x : Nat) : Option D := match σ[x]? with
  | some (some (.own d)) => some d
  | _ => none
mutual
noncomputable def exS (P : Prg) : MS → Sg → Option Out
  | .set x e, σ => match ev P e σ with | some d => some (.next (σ.set x (some (.val d)))) | none => none
  | .setc x elt tg it ifs free, σ => match ev P (.comp elt tg it ifs free) σ with | some d => some (.next (σ.set x (some (.val d)))) | none => none
  | .newl x, σ => some (.next (σ.set x (some (.own (.list [])))))
  | .newd x, σ => some (.next (σ.set x (some (.own (.dII [])))))
  | .news x, σ => some (.next (σ.set x (some (.own (.set [])))))
  | .freeze x, σ => match ownA σ x with | some d => some (.next (σ.set x (some (.val d)))) | none => none
  | .aug x e, σ => match σ.val x with
    | some (.int a) => (match ev P e σ with | some (.int b) => some (.next (σ.set x (some (.val (.int (a + b)))))) | _ => none)
    | _ => none
  | .unp xs e, σ => match ev P e σ with
    | some (.tup ds) => if ds.length = xs.length then some (.next (setMany xs ds σ)) else none
    | _ => none
  | .swap x y a b, σ => match ev P a σ with
    | some u => (match ev P b σ with | some v => some (.next ((σ.set y (some (.val v))).set x (some (.val u)))) | none => none)
    | none => none
  | .app x e, σ => match ownL σ x with
    | some ds => (match ev P e σ with | some d => if ds.length ≤ 100000 then some (.next (σ.set x (some (.own (.list (ds ++ [d])))))) else none | none => none)
    | none => none
  | .adds x e, σ => match ownS σ x with
    | some ds => (match ev P e σ with
      | some (.int k) => if ds.length + 1 < scanBound then some (.next (σ.set x (some (.own (.set (if ds.any (· == k) then ds else ds ++ [k])))))) else none
      | _ => none)
    | none => none
  | .putd x k e, σ => match ownD σ x with
    | some es => (match ev P e σ with
      | some (.int i) => (match ev P k σ with
        | some (.int j) => if es.any (fun kv => kv.1 = j) = false ∧ es.length ≤ 100000 then some (.next (σ.set x (some (.own (.dII (es ++ [(j, i)])))))) else none
        | _ => none)
      | _ => none)
    | none => none
  | .ite t a b, σ => match evT P t σ with
    | some true => exL P a σ
    | some false => exL P b σ
    | none => none
  | .forr tg it body, σ => match evI P tg it σ with
    | some ds => forF (setTg tg) (exL P body) ds σ
    | none => none
  | .whl k t body, σ => whileF (evT P t) (exL P body) k σ
  | .ret e, σ => match ev P e σ with | some d => some (.ret d) | none => none
noncomputable def exL (P : Prg) : List MS → Sg → Option Out
  | [], σ => some (.next σ)
  | m :: ms, σ => match exS P m σ with
    | some (.next σ') => exL P ms σ'
    | some (.ret d) => some (.ret d)
    | none => none
end

structure EnvOk (c : Cx) (env : Env) : Prop where
  kind : env.scope.kind = .function
  glob : env.globals = mainGlobals
  blt : env.builtins = builtinsNs
  gi : ∀ x, c.sc.lookup x = some .globalImplicit → env.kindOf x = some .globalImplicit
  ce : ∀ x, c.sc.lookup x = some .cell → env.kindOf x = some .cell ∧ ∃ a, env.cells.lookup x = some a
  lo : ∀ x, c.sc.lookup x = some .local → env.kindOf x = some .local
  nm : ∀ x ∈ c.nm, c.sc.lookup x = some .local ∨ c.sc.lookup x = some .cell
  nd : c.nm.Nodup
theorem EnvOk.isLocal {c : Cx} {env : Env} (X : EnvOk c env) {x : Str} (hx : x ∈ c.nm) : (c.sc.lookup x = some .local ∧ env.kindOf x = some .local) ∨ (c.sc.lookup x = some .cell ∧ env.kindOf x = some .cell ∧ ∃ a, env.cells.lookup x = some a) :=
  (X.nm x hx).imp (fun e => ⟨e, X.lo x e⟩) fun e => ⟨e, X.ce x e⟩

section
variable (prog : Program) (w : World)
structure St (P : Prg) (n : Nat) (c : Cx) (K₀ : KM) (s₀ : Shared) (env : Env) (U : KM) (σ : Sg) (K : KM) (s : Shared) (m cm : Str → Option Value) (ow : Nat → Addr) : Prop where
  gb : GB prog w P n K₀ s₀.heap
  ic : InCallC s₀ env.locals m env.cells cm s
  ext : Ext K₀ s₀ K s
  kl : K env.locals = none
  kc : ∀ x a, env.cells.lookup x = some a → K a = none
  kU : Kn U s.heap
  ku : ∀ b o, U b = some o → K b = none
  ul : U env.locals = none
  uc : ∀ x a, env.cells.lookup x = some a → U a = none
  len : σ.length = c.nm.length
  vars : ∀ (i : Nat) (x : Str) (sl : Slot), c.nm[i]? = some x → σ[i]? = some (some sl) → ∃ v, (if env.kindOf x = some .cell then cm x else m x) = some v ∧ SlotRep prog w K s.heap sl v ∧ (∀ d, sl = .own d → v = .ref (ow i))
  own : ∀ (i : Nat) (d : D), σ[i]? = some (some (.own d)) → K (ow i) = none ∧ U (ow i) = none ∧ env.locals < ow i ∧ (∀ x a, env.cells.lookup x = some a → a ≠ ow i) ∧ ∃ o, s.heap.get? (ow i) = some o
  apart : ∀ (i j : Nat) (d e : D), i ≠ j → σ[i]? = some (some (.own d)) → σ[j]? = some (some (.own e)) → ow i ≠ ow j
end

section
variable {prog : Program} {w : World} {P : Prg} {n : Nat} {c : Cx} {K₀ K U : KM} {s₀ s : Shared} {env : Env} {σ : Sg} {m cm : Str → Option Value} {ow : Nat → Addr}
theorem St.cxt (X : EnvOk c env) (x : St prog w P n c K₀ s₀ env U σ K s m cm ow) : Cxt prog w P n c σ env K s.heap where
  gb := x.gb.mono x.ext.le (Keeps.heap x.ext.keeps)
  kind := X.kind
  glob := X.glob
  blt := X.blt
  gi := X.gi
  ce := X.ce
  vars := fun i y sl hi hs => by
    obtain ⟨v, h1, h2, _⟩ := x.vars i y sl hi hs
    refine ⟨v, ?_, h2⟩
    rcases X.isLocal (List.mem_of_getElem? hi) with ⟨_, h⟩ | ⟨_, h, a, ha⟩
    · rw [if_neg (by rw [h]; decide)] at h1
      exact .inl ⟨h, m, x.ic.toInCall.ns, h1⟩
    · rw [if_pos h] at h1
      exact .inr ⟨h, a, ha, h1 ▸ x.ic.cell y a ha⟩
theorem incall_keeps {L : Addr} {cs : List (Str × Addr)} {s' : Shared} (x : InCallC s₀ L m cs cm s) (k : Keeps s s') : InCallC s₀ L m cs cm s' := by
  obtain ⟨h', t, rfl, k⟩ := k
  obtain ⟨h₁, t₁, e⟩ := x.toInCall.same
  exact ⟨⟨⟨h', t, by rw [e]⟩, x.toInCall.ns.keeps k, fun b o e => k b o (x.toInCall.keep b o e), x.toInCall.fresh⟩, fun n c h => (x.cell n c h).keeps k, x.apart, x.above⟩
theorem St.step {K' : KM} {s' : Shared} (x : St prog w P n c K₀ s₀ env U σ K s m cm ow) (e : Ext K s K' s') : St prog w P n c K₀ s₀ env U σ K' s' m cm ow where
  gb := x.gb
  ic := incall_keeps x.ic e.keeps
  ext := x.ext.trans e
  kl := e.off x.kl x.ic.toInCall.ns.choose_spec.choose_spec.choose_spec.1
  kc := fun y a h => e.off (x.kc y a h) (x.ic.cell y a h).choose_spec.1
  kU := x.kU.keeps (Keeps.heap e.keeps)
  ku := fun b o h => e.off (x.ku b o h) (x.kU b o h)
  ul := x.ul
  uc := x.uc
  len := x.len
  vars := fun i y sl hi hs => let ⟨v, h1, h2, h3⟩ := x.vars i y sl hi hs; ⟨v, h1, h2.mono e.le (Keeps.heap e.keeps), h3⟩
  own := fun i d hi => let ⟨h1, h2, h3, h4, o, h5⟩ := x.own i d hi; ⟨e.off h1 h5, h2, h3, h4, o, Keeps.heap e.keeps _ _ h5⟩
  apart := x.apart

theorem nodup_at {α : Type} : ∀ {l : List α}, l.Nodup → ∀ {i j : Nat} {y : α}, l[i]? = some y → l[j]? = some y → i = j
  | [], _, i, j, y, h, _ => by simp at h
  | a :: l, nd, 0, 0, y, _, _ => rfl
  | a :: l, nd, 0, j + 1, y, h, h' => by
    simp at h h'; subst h
    exact absurd (List.mem_of_getElem? h') (List.nodup_cons.mp nd).1
  | a :: l, nd, i + 1, 0, y, h, h' => by
    simp at h h'; subst h'
    exact absurd (List.mem_of_getElem? h) (List.nodup_cons.mp nd).1
  | a :: l, nd, i + 1, j + 1, y, h, h' => by
    simp at h h'
    exact congrArg (· + 1) (nodup_at (List.nodup_cons.mp nd).2 h h')
theorem get_set {σ : Sg} {i j : Nat} {sl : Slot} {z : Option Slot} (h : (σ.set i z)[j]? = some (some sl)) : (j = i ∧ z = some sl) ∨ (j ≠ i ∧ σ[j]? = some (some sl)) := by
  rw [List.getElem?_set] at h
  split at h
  · rename_i e
    split at h
    · exact .inl ⟨e.symm, by simpa using h⟩
    · cases h
  · rename_i e; exact .inr ⟨fun q => e q.symm, h⟩

theorem St.store (X : EnvOk c env) {i : Nat} {y : Str} {sl : Slot} {v : Value} {ow' : Nat → Addr} {A : Around} {E : Value → Shared → Prop} {Q : Unit → Shared → Prop} (x : St prog w P n c K₀ s₀ env U σ K s m cm ow)
    (hi : c.nm[i]? = some y) (hv : SlotRep prog w K s.heap sl v) (how : ∀ j, j ≠ i → ow' j = ow j)
    (hown : ∀ d, sl = .own d → v = .ref (ow' i) ∧ (K (ow' i) = none ∧ U (ow' i) = none ∧ env.locals < ow' i ∧ (∀ x a, env.cells.lookup x = some a → a ≠ ow' i) ∧ ∃ o, s.heap.get? (ow' i) = some o) ∧
      ∀ j e, j ≠ i → σ[j]? = some (some (.own e)) → ow j ≠ ow' i)
    (hQ : ∀ s' m' cm', St prog w P n c K₀ s₀ env U (σ.set i (some sl)) K s' m' cm' ow' → Q () s') : wpAny (model prog w) A (storeName env y v) Q E s := by
  have key : ∀ (h' : Heap) (t : Nat) (m' cm' : Str → Option Value) (b : Addr), Heap.SameBut b s.heap h' → (∀ j e, (σ.set i (some sl))[j]? = some (some (.own e)) → b ≠ ow' j) → K b = none → U b = none → s₀.heap.get? b = none →
      InCallC s₀ env.locals m' env.cells cm' { s with heap := h', toks := t } →
      (if env.kindOf y = some .cell then cm' y else m' y) = some v → (∀ z, z ≠ y → (if env.kindOf z = some .cell then cm' z else m' z) = (if env.kindOf z = some .cell then cm z else m z)) →
      St prog w P n c K₀ s₀ env U (σ.set i (some sl)) K { s with heap := h', toks := t } m' cm' ow' := by
    intro h' t m' cm' b hs hb kb ub sb hic hy hz
    have slot : ∀ {s' : Slot} {u : Value} {j : Nat}, (∀ d, s' = .own d → u = .ref (ow' j) ∧ b ≠ ow' j) → SlotRep prog w K s.heap s' u → SlotRep prog w K h' s' u := by
      intro s' u j hj r
      cases s' with
      | val d => exact r
      | own d =>
        obtain ⟨a, rfl, r⟩ := r
        obtain ⟨e1, e2⟩ := hj d rfl
        cases e1
        exact ⟨_, rfl, r.at (.refl K) fun o e => hs.extBut _ o (Ne.symm e2) e⟩
    refine ⟨x.gb, hic, ?_, x.kl, x.kc, fun b' o e => hs.extBut b' o (fun q => by subst q; rw [ub] at e; cases e) (x.kU b' o e), x.ku, x.ul, x.uc, by rw [List.length_set]; exact x.len, ?_, ?_, ?_⟩
    · exact Ext.upd (t := t) x.ext (fun b' o hb' e => hs.extBut b' o hb' e) kb sb
    · intro j z s' hj hs'
      have hs'' := hs'
      rcases get_set hs' with ⟨rfl, e⟩ | ⟨hne, e⟩
      · cases e
        rw [hi] at hj; cases hj
        exact ⟨v, hy, slot (j := j) (fun d e => ⟨(hown d e).1, by subst e; exact hb j d hs''⟩) hv, fun d e => (hown d e).1⟩
      · obtain ⟨u, h1, h2, h3⟩ := x.vars j z s' hj e
        have hzy : z ≠ y := fun q => by
          subst q
          exact hne (nodup_at X.nd hj hi)
        refine ⟨u, (hz z hzy).trans h1, slot (j := j) (fun d e' => ⟨by rw [how j hne]; exact h3 d e', by subst e'; exact hb j d hs''⟩) h2, fun d e' => by rw [how j hne]; exact h3 d e'⟩
    · intro j d hj
      have hb' := hb j d hj
      rcases get_set hj with ⟨rfl, e⟩ | ⟨hne, e⟩
      · cases e
        obtain ⟨_, ⟨h1, h2, h3, h4, o, h5⟩, _⟩ := hown d rfl
        exact ⟨h1, h2, h3, h4, o, hs.extBut _ o (Ne.symm hb') h5⟩
      · obtain ⟨h1, h2, h3, h4, o, h5⟩ := x.own j d e
        rw [how j hne] at hb' ⊢
        exact ⟨h1, h2, h3, h4, o, hs.extBut _ o (Ne.symm hb') h5⟩
    · intro j k d e hjk hj hk
      rcases get_set hj with ⟨rfl, ej⟩ | ⟨hnj, ej⟩ <;> rcases get_set hk with ⟨rfl, ek⟩ | ⟨hnk, ek⟩
      · exact absurd rfl hjk
      · cases ej
        rw [how k hnk]
        exact Ne.symm ((hown d rfl).2.2 k e hnk ek)
      · cases ek
        rw [how j hnj]
        exact (hown e rfl).2.2 j d hnj ej
      · rw [how j hnj, how k hnk]; exact x.apart j k d e hjk ej ek
  have fr : s₀.heap.get? env.locals = none := by
    cases e : s₀.heap.get? env.locals with
    | none => rfl
    | some o => exact absurd (Heap.lt_size e) (Nat.not_lt.mpr x.ic.toInCall.fresh)
  have nl : ∀ j e, (σ.set i (some sl))[j]? = some (some (.own e)) → env.locals ≠ ow' j := by
    intro j e hj
    rcases get_set hj with ⟨rfl, q⟩ | ⟨hne, q⟩
    · cases q; exact Nat.ne_of_lt (hown e rfl).2.1.2.2.1
    · rw [how j hne]; exact Nat.ne_of_lt (x.own j e q).2.2.1
  rcases X.isLocal (List.mem_of_getElem? hi) with ⟨_, hl⟩ | ⟨_, hl, a, ha⟩
  · have nc : ¬ env.kindOf y = some .cell := by rw [hl]; decide
    refine wpAny_storeName_local hl x.ic.toInCall.ns (fun h' hn' hs' => ?_) (by rw [X.kind]; rfl)
    refine hQ _ (fun z => if z = y then some v else m z) cm (key h' _ _ _ env.locals hs' nl x.kl x.ul fr ?_ ?_ ?_)
    · refine ⟨⟨?_, hn', fun b o e => ?_, x.ic.toInCall.fresh⟩, fun k c' hc => ?_, x.ic.apart, x.ic.above⟩
      · obtain ⟨h₁, tk, e⟩ := x.ic.toInCall.same
        exact ⟨h', _, by rw [e]⟩
      · exact hs'.extBut b o (Nat.ne_of_lt (Nat.lt_of_lt_of_le (Heap.lt_size e) x.ic.toInCall.fresh)) (x.ic.toInCall.keep b o e)
      · exact (x.ic.cell k c' hc).sameBut hs' (Nat.ne_of_gt (x.ic.above k c' (PySem.mem_of_lookup hc)))
    · rw [if_neg nc]; simp
    · intro z hz
      split
      · rfl
      · simp [hz]
  · have hLc := x.ic.above y a (PySem.mem_of_lookup ha)
    refine wpAny_storeName_cell X.kind hl ha (x.ic.cell y a ha) fun h' hc' hs' => ?_
    have fa : s₀.heap.get? a = none := by
      cases e : s₀.heap.get? a with
      | none => rfl
      | some o => exact absurd (Nat.lt_trans (Nat.lt_of_lt_of_le (Heap.lt_size e) x.ic.toInCall.fresh) hLc) (Nat.lt_irrefl _)
    have na : ∀ j e, (σ.set i (some sl))[j]? = some (some (.own e)) → a ≠ ow' j := by
      intro j e hj
      rcases get_set hj with ⟨rfl, q⟩ | ⟨hne, q⟩
      · cases q; exact (hown e rfl).2.1.2.2.2.1 y a ha
      · rw [how j hne]; exact (x.own j e q).2.2.2.1 y a ha
    refine hQ _ m (fun z => if z = y then some v else cm z) (key h' s.toks _ _ a hs' na (x.kc y a ha) (x.uc y a ha) fa ?_ ?_ ?_)
    · refine ⟨⟨?_, x.ic.toInCall.ns.sameBut hs' (Nat.ne_of_lt hLc), fun b o e => ?_, x.ic.toInCall.fresh⟩, fun k c' hk' => ?_, x.ic.apart, x.ic.above⟩
      · obtain ⟨h₁, tk, e⟩ := x.ic.toInCall.same
        exact ⟨h', tk, by rw [e]⟩
      · exact hs'.extBut b o (Nat.ne_of_lt (Nat.lt_trans (Nat.lt_of_lt_of_le (Heap.lt_size e) x.ic.toInCall.fresh) hLc)) (x.ic.toInCall.keep b o e)
      · by_cases hkn : k = y
        · subst hkn
          rw [ha] at hk'; cases hk'
          simpa using hc'
        · rw [if_neg hkn]
          exact (x.ic.cell k c' hk').sameBut hs' fun e => hkn (name_of_addr x.ic.apart (PySem.mem_of_lookup hk') (e ▸ PySem.mem_of_lookup ha))
    · rw [if_pos hl]; simp
    · intro z hz
      split
      · simp [hz]
      · rfl
end
end Mine

namespace Mine
/-! M11: more about the state -/
section
variable {prog : Program} {w : World} {P : Prg} {n : Nat} {c : Cx} {K₀ K U : KM} {s₀ s : Shared} {env : Env} {σ : Sg} {m cm : Str → Option Value} {ow : Nat → Addr}

theorem St.fresh₀ (x : St prog w P n c K₀ s₀ env U σ K s m cm ow) {a : Addr} (h : env.locals ≤ a) : s₀.heap.get? a = none := by
  cases e : s₀.heap.get? a with
  | none => rfl
  | some o => exact absurd (Nat.lt_of_lt_of_le (Heap.lt_size e) (Nat.le_trans x.ic.toInCall.fresh h)) (Nat.lt_irrefl _)
theorem OwnRep.obj {h : Heap} {d : D} {a : Addr} (x : OwnRep prog w K h d a) : ∃ o, h.get? a = some o := by
  cases d <;> try exact x.elim
  · obtain ⟨vs, n, g, r⟩ := x; exact ⟨_, g⟩
  · obtain ⟨hs, kvs, m, p⟩ := x; exact ⟨_, m.choose_spec.choose_spec.choose_spec.1⟩
  · have x : h.SetOf (intKind prog w) a _ _ := x
    exact ⟨_, x.choose_spec.choose_spec.choose_spec.choose_spec.1⟩

theorem St.at (X : EnvOk c env) (x : St prog w P n c K₀ s₀ env U σ K s m cm ow) {i : Nat} {y : Str} {sl : Slot} (hi : c.nm[i]? = some y) (hs : σ[i]? = some (some sl)) :
    ∃ v, VarAt env s.heap y v ∧ SlotRep prog w K s.heap sl v ∧ (∀ d, sl = .own d → v = .ref (ow i)) := by
  obtain ⟨v, h1, h2, h3⟩ := x.vars i y sl hi hs
  refine ⟨v, ?_, h2, h3⟩
  rcases X.isLocal (List.mem_of_getElem? hi) with ⟨_, h⟩ | ⟨_, h, a, ha⟩
  · rw [if_neg (by rw [h]; decide)] at h1
    exact .inl ⟨h, m, x.ic.toInCall.ns, h1⟩
  · rw [if_pos h] at h1
    exact .inr ⟨h, a, ha, h1 ▸ x.ic.cell y a ha⟩
/-- an own object was changed -/
theorem St.mut {i : Nat} {d d' : D} {h' : Heap} (x : St prog w P n c K₀ s₀ env U σ K s m cm ow) (hi : σ[i]? = some (some (.own d))) (hs : Heap.SameBut (ow i) s.heap h') (r : OwnRep prog w K h' d' (ow i)) (t : Nat) :
    St prog w P n c K₀ s₀ env U (σ.set i (some (.own d'))) K { s with heap := h', toks := t } m cm ow := by
  obtain ⟨h1, h2, h3, h4, o, h5⟩ := x.own i d hi
  have f0 := x.fresh₀ (Nat.le_of_lt h3)
  have e1 := Ext.upd (t := t) x.ext (fun b' o hb' e => hs.extBut b' o hb' e) h1 f0
  refine ⟨x.gb, ⟨⟨?_, x.ic.toInCall.ns.sameBut hs (Nat.ne_of_lt h3), fun b o e => hs.extBut b o (fun q => by rw [q, f0] at e; cases e) (x.ic.toInCall.keep b o e), x.ic.toInCall.fresh⟩, fun k a ha => (x.ic.cell k a ha).sameBut hs (h4 k a ha), x.ic.apart, x.ic.above⟩,
    e1, x.kl, x.kc, fun b o e => hs.extBut b o (fun q => by rw [q, h2] at e; cases e) (x.kU b o e), x.ku, x.ul, x.uc, by rw [List.length_set]; exact x.len, ?_, ?_, ?_⟩
  · obtain ⟨h₁, tk, e⟩ := x.ic.toInCall.same
    exact ⟨h', t, by rw [e]⟩
  · intro j z sl hj hsl
    rcases get_set hsl with ⟨rfl, e⟩ | ⟨hne, e⟩
    · cases e
      obtain ⟨v, q1, q2, q3⟩ := x.vars j z _ hj hi
      have := q3 d rfl
      subst this
      exact ⟨_, q1, ⟨_, rfl, r⟩, fun _ _ => rfl⟩
    · obtain ⟨v, q1, q2, q3⟩ := x.vars j z _ hj e
      refine ⟨v, q1, ?_, q3⟩
      cases sl with
      | val _ => exact q2
      | own e' =>
        obtain ⟨a, rfl, q2⟩ := q2
        have := q3 e' rfl
        cases this
        exact ⟨_, rfl, q2.at (.refl K) fun o q => hs.extBut _ o (x.apart j i _ _ hne e hi) q⟩
  · intro j e hj
    rcases get_set hj with ⟨rfl, _⟩ | ⟨hne, q⟩
    · obtain ⟨o', ho'⟩ := r.obj
      exact ⟨h1, h2, h3, h4, o', ho'⟩
    · obtain ⟨p1, p2, p3, p4, o', p5⟩ := x.own j e q
      exact ⟨p1, p2, p3, p4, o', hs.extBut _ _ (x.apart j i _ _ hne q hi) p5⟩
  · intro j k d1 d2 hjk hj hk
    rcases get_set hj with ⟨rfl, ej⟩ | ⟨hnj, ej⟩ <;> rcases get_set hk with ⟨rfl, ek⟩ | ⟨hnk, ek⟩
    · exact absurd rfl hjk
    · exact x.apart j k _ _ hjk hi ek
    · exact x.apart j k _ _ hjk ej hi
    · exact x.apart j k _ _ hjk ej ek

theorem valueAt_lookup : ∀ {es : List (Int × Int)} {kvs : List (Int × Value)}, All2 (fun (e : Int × Int) (kv : Int × Value) => kv.1 = e.1 ∧ ∃ t, kv.2 = .int e.2 t) es kvs →
    (∀ k i, es.lookup k = some i → ∃ t, valueAt kvs k = some (.int i t)) ∧ (∀ k, es.lookup k = none → valueAt kvs k = none)
  | _, _, .nil => ⟨fun k i h => by simp at h, fun k _ => rfl⟩
  | _, _, .cons (a := e) (b := kv) ⟨h1, t, h2⟩ hs => by
    obtain ⟨p, q⟩ := valueAt_lookup hs
    obtain ⟨ek, ei⟩ := e
    obtain ⟨k', v'⟩ := kv
    simp only at h1 h2
    subst h1; subst h2
    refine ⟨fun k i h => ?_, fun k h => ?_⟩
    · rw [List.lookup_cons] at h
      unfold valueAt
      rw [List.find?_cons]
      by_cases hk : k = k'
      · subst hk
        simp at h ⊢
        first | exact h | exact h.symm | exact ⟨t, by rw [h]⟩
      · have : (k == k') = false := by simpa using hk
        rw [this] at h
        have hk' : decide (k' = k) = false := by simpa using fun e => hk e.symm
        simp only [hk']
        exact p k i h
    · rw [List.lookup_cons] at h
      unfold valueAt
      rw [List.find?_cons]
      by_cases hk : k = k'
      · subst hk
        simp at h
      · have : (k == k') = false := by simpa using hk
        rw [this] at h
        have hk' : decide (k' = k) = false := by simpa using fun e => hk e.symm
        simp only [hk']
        exact q k h

theorem OwnRep.freeze {h : Heap} {d : D} {a : Addr} {o : Obj} (x : OwnRep prog w K h d a) (ho : h.get? a = some o) (hK : K a = none) : Rep prog w (K.add a o) d (.ref a) := by
  have at' : ∀ h', Kn (K.add a o) h' → ∀ o', h.get? a = some o' → h'.get? a = some o' := fun h' k o' e => by
    rw [ho] at e; cases e; exact k _ _ (KM.add_self _ _ _)
  cases d <;> try exact x.elim
  · obtain ⟨vs, n, g, r⟩ := x
    rw [ho] at g; cases g
    exact .list (KM.add_self _ _ _) (r.mono (Le.add _ hK))
  · obtain ⟨hs, kvs, m, p⟩ := x
    obtain ⟨q1, q2⟩ := valueAt_lookup p
    exact .dII (fun h' k => (m.at (at' h' k)).mapOf) hs q1 q2
  · exact .set fun h' k => setOf_at (show h.SetOf _ _ _ _ from x) (at' h' k)

theorem St.freeze {i : Nat} {d : D} (x : St prog w P n c K₀ s₀ env U σ K s m cm ow) (hi : σ[i]? = some (some (.own d))) (hin : i < c.nm.length) :
    ∃ K', Le K K' ∧ St prog w P n c K₀ s₀ env U (σ.set i (some (.val d))) K' s m cm ow := by
  obtain ⟨h1, h2, h3, h4, o, h5⟩ := x.own i d hi
  have f0 := x.fresh₀ (Nat.le_of_lt h3)
  have add_ne : ∀ b, b ≠ ow i → K.add (ow i) o b = K b := fun b hb => by unfold KM.add; rw [if_neg hb]
  have ⟨v, q1, q2, q3⟩ := x.vars i (c.nm[i]) _ (by simp [hin]) hi
  have := q3 d rfl
  subst this
  obtain ⟨a, ea, q2⟩ := q2
  cases ea
  refine ⟨K.add (ow i) o, Le.add o h1, x.gb, x.ic, x.ext.freeze h1 f0 h5, ?_, ?_, x.kU, ?_, x.ul, x.uc, by rw [List.length_set]; exact x.len, ?_, ?_, ?_⟩
  · rw [add_ne _ (Nat.ne_of_lt h3)]; exact x.kl
  · intro y a ha
    rw [add_ne _ (h4 y a ha)]; exact x.kc y a ha
  · intro b o' hb
    rw [add_ne _ (fun q => by rw [q, h2] at hb; cases hb)]; exact x.ku b o' hb
  · intro j z sl hj hsl
    rcases get_set hsl with ⟨rfl, e⟩ | ⟨hne, e⟩
    · cases e
      rw [show c.nm[j] = z from by simpa [hin] using hj] at q1
      exact ⟨_, q1, q2.freeze h5 h1, fun d e => nomatch e⟩
    · obtain ⟨v, p1, p2, p3⟩ := x.vars j z _ hj e
      exact ⟨v, p1, p2.mono (Le.add o h1) fun _ _ e => e, p3⟩
  · intro j e hj
    rcases get_set hj with ⟨rfl, q⟩ | ⟨hne, q⟩
    · cases q
    · obtain ⟨p1, p2, p3, p4, o', p5⟩ := x.own j e q
      exact ⟨by rw [add_ne _ (x.apart j i _ _ hne q hi)]; exact p1, p2, p3, p4, o', p5⟩
  · intro j k d1 d2 hjk hj hk
    rcases get_set hj with ⟨rfl, ej⟩ | ⟨hnj, ej⟩ <;> rcases get_set hk with ⟨rfl, ek⟩ | ⟨hnk, ek⟩
    · exact absurd rfl hjk
    · cases ej
    · cases ek
    · exact x.apart j k _ _ hjk ej ek

/-- protection -/
theorem St.weak {U' : KM} (x : St prog w P n c K₀ s₀ env U' σ K s m cm ow) (l : Le U U') : St prog w P n c K₀ s₀ env U σ K s m cm ow where
  gb := x.gb
  ic := x.ic
  ext := x.ext
  kl := x.kl
  kc := x.kc
  kU := x.kU.le l
  ku := fun b o e => x.ku b o (l b o e)
  ul := by
    cases e : U env.locals with
    | none => rfl
    | some o => have := l _ _ e; rw [x.ul] at this; cases this
  uc := fun y a h => by
    cases e : U a with
    | none => rfl
    | some o => have := l _ _ e; rw [x.uc y a h] at this; cases this
  len := x.len
  vars := x.vars
  own := fun i d h => by
    obtain ⟨p1, p2, r⟩ := x.own i d h
    refine ⟨p1, ?_, r⟩
    cases e : U (ow i) with
    | none => rfl
    | some o => have := l _ _ e; rw [p2] at this; cases this
  apart := x.apart

theorem Le.um {U : KM} {wr : List Addr} {h : Heap} (hu : ∀ b ∈ wr, U b = none) : Le U (fun b => if b ∈ wr then h.get? b else U b) := fun b o e => by
  dsimp only
  rw [if_neg (fun hb => by rw [hu b hb] at e; cases e)]; exact e
noncomputable def Um (U : KM) (wr : List Addr) (h : Heap) : KM := fun b => if b ∈ wr then h.get? b else U b
theorem St.protect {wr : List Addr} (x : St prog w P n c K₀ s₀ env U σ K s m cm ow) (hk : ∀ b ∈ wr, K b = none) (hl : env.locals ∉ wr) (hc : ∀ y a, env.cells.lookup y = some a → a ∉ wr) (ho : ∀ i d, σ[i]? = some (some (.own d)) → ow i ∉ wr) :
    St prog w P n c K₀ s₀ env (Um U wr s.heap) σ K s m cm ow where
  gb := x.gb
  ic := x.ic
  ext := x.ext
  kl := x.kl
  kc := x.kc
  kU := fun b o e => by
    unfold Um at e
    split at e
    · exact e
    · exact x.kU b o e
  ku := fun b o e => by
    unfold Um at e
    split at e
    · rename_i hb; exact hk b hb
    · exact x.ku b o e
  ul := by unfold Um; rw [if_neg hl]; exact x.ul
  uc := fun y a h => by unfold Um; rw [if_neg (hc y a h)]; exact x.uc y a h
  len := x.len
  vars := x.vars
  own := fun i d h => by
    obtain ⟨p1, p2, r⟩ := x.own i d h
    refine ⟨p1, ?_, r⟩
    unfold Um; rw [if_neg (ho i d h)]; exact p2
  apart := x.apart

/-- what is protected may be changed by its keeper -/
theorem St.turn {wr : List Addr} {h' : Heap} {t : Nat} (x : St prog w P n c K₀ s₀ env (Um U wr s.heap) σ K s m cm ow) (he : ∀ b ∈ wr, ∃ o, s.heap.get? b = some o) (h0 : ∀ b ∈ wr, s₀.heap.get? b = none)
    (hs : ∀ b o, b ∉ wr → s.heap.get? b = some o → h'.get? b = some o) : St prog w P n c K₀ s₀ env (Um U wr h') σ K { s with heap := h', toks := t } m cm ow := by
  have hin : ∀ {b : Addr}, b ∈ wr → ∀ {V : KM}, (∃ o, V b = some o) → Um U wr s.heap b ≠ none := fun hb V _ e => by
    obtain ⟨o, ho⟩ := he _ hb
    unfold Um at e; rw [if_pos hb, ho] at e; cases e
  have hne : ∀ {b : Addr}, b ∈ wr → ∃ o, Um U wr s.heap b = some o := fun hb => by
    obtain ⟨o, ho⟩ := he _ hb
    exact ⟨o, by unfold Um; rw [if_pos hb]; exact ho⟩
  have hk : ∀ b ∈ wr, K b = none := fun b hb => by
    obtain ⟨o, ho⟩ := hne hb
    exact x.ku b o ho
  have hl : env.locals ∉ wr := fun hb => by
    obtain ⟨o, ho⟩ := hne hb
    rw [x.ul] at ho; cases ho
  have hc : ∀ y a, env.cells.lookup y = some a → a ∉ wr := fun y a h hb => by
    obtain ⟨o, ho⟩ := hne hb
    rw [x.uc y a h] at ho; cases ho
  have ho : ∀ i d, σ[i]? = some (some (.own d)) → ow i ∉ wr := fun i d h hb => by
    obtain ⟨o, ho⟩ := hne hb
    rw [(x.own i d h).2.1] at ho; cases ho
  refine ⟨x.gb, ⟨⟨?_, x.ic.toInCall.ns.at' fun o e => hs _ o hl e, fun b o e => hs b o (fun hb => by rw [h0 b hb] at e; cases e) (x.ic.toInCall.keep b o e), x.ic.toInCall.fresh⟩, fun k a ha => ?_, x.ic.apart, x.ic.above⟩,
    ⟨x.ext.le, fun b o e => hs b o (fun hb => by rw [hk b hb] at e; cases e) (x.ext.kn b o e), ?_, x.ext.fresh⟩, x.kl, x.kc, ?_, ?_, ?_, ?_, x.len, ?_, ?_, x.apart⟩
  · obtain ⟨h₁, tk, e⟩ := x.ic.toInCall.same
    exact ⟨h', t, by rw [e]⟩
  · obtain ⟨o, q1, q2⟩ := x.ic.cell k a ha
    exact ⟨o, hs a o (hc k a ha) q1, q2⟩
  · obtain ⟨h1, t1, e, k⟩ := x.ext.keeps
    exact ⟨h', t, by rw [e], fun b o e => hs b o (fun hb => by rw [h0 b hb] at e; cases e) (x.ic.toInCall.keep b o e)⟩
  · intro b o e
    unfold Um at e
    split at e
    · exact e
    · rename_i hb
      exact hs b o hb (x.kU b o (by unfold Um; rw [if_neg hb]; exact e))
  · intro b o e
    unfold Um at e
    split at e
    · rename_i hb; exact hk b hb
    · rename_i hb; exact x.ku b o (by unfold Um; rw [if_neg hb]; exact e)
  · have := x.ul
    unfold Um at this ⊢; rw [if_neg hl] at this ⊢; exact this
  · intro y a h
    have := x.uc y a h
    unfold Um at this ⊢; rw [if_neg (hc y a h)] at this ⊢; exact this
  · intro i y sl hi hsl
    obtain ⟨v, q1, q2, q3⟩ := x.vars i y sl hi hsl
    refine ⟨v, q1, ?_, q3⟩
    cases sl with
    | val d => exact q2
    | own d =>
      obtain ⟨a, rfl, q2⟩ := q2
      have := q3 d rfl
      cases this
      exact ⟨_, rfl, q2.at (.refl K) fun o e => hs _ o (ho i d hsl) e⟩
  · intro i d h
    obtain ⟨p1, p2, p3, p4, o, p5⟩ := x.own i d h
    refine ⟨p1, ?_, p3, p4, o, hs _ o (ho i d h) p5⟩
    unfold Um at p2 ⊢; rw [if_neg (ho i d h)] at p2 ⊢; exact p2

/-- a value into a name -/
theorem St.put (X : EnvOk c env) {i : Nat} {y : Str} {d : D} {v : Value} {A : Around} {E : Value → Shared → Prop} {Q : Unit → Shared → Prop} (x : St prog w P n c K₀ s₀ env U σ K s m cm ow)
    (hi : c.nm[i]? = some y) (hv : Rep prog w K d v)
    (hQ : ∀ s' m' cm', St prog w P n c K₀ s₀ env U (σ.set i (some (.val d))) K s' m' cm' ow → Q () s') : wpAny (model prog w) A (storeName env y v) Q E s :=
  x.store X hi (sl := .val d) hv (fun _ _ => rfl) (fun d e => nomatch e) hQ
/-- a new object of its own into a name -/
theorem St.putOwn (X : EnvOk c env) {i : Nat} {y : Str} {d : D} {o : Obj} {A : Around} {E : Value → Shared → Prop} {Q : Unit → Shared → Prop} {t : Nat} (x : St prog w P n c K₀ s₀ env U σ K s m cm ow)
    (hi : c.nm[i]? = some y) (ho : o.isFreed = false) (hv : OwnRep prog w K (s.heap.push o) d s.heap.objs.size)
    (hQ : ∀ s' m' cm' ow', St prog w P n c K₀ s₀ env U (σ.set i (some (.own d))) K s' m' cm' ow' → Q () s') :
    wpAny (model prog w) A (storeName env y (.ref s.heap.objs.size)) Q E { s with heap := s.heap.push o, toks := t } := by
  have x' : St prog w P n c K₀ s₀ env U σ K { s with heap := s.heap.push o, toks := t } m cm ow := x.step (Ext.heap x.ext.kn fun b o' e => Heap.get?_push_of_some _ e)
  have hlt := x.ic.toInCall.ns.lt
  refine x'.store X hi (sl := .own d) (v := .ref s.heap.objs.size) (ow' := fun j => if j = i then s.heap.objs.size else ow j) ⟨_, rfl, hv⟩ (fun j hj => if_neg hj) (fun d' e => ?_) (fun s' m' cm' h => hQ s' m' cm' _ h)
  refine ⟨by simp, ⟨?_, ?_, ?_, ?_, o, ?_⟩, fun j e' hj hx => ?_⟩
  · simp only [if_true]; exact x.ext.kn.none_size (Nat.le_refl _)
  · simp only [if_true]; exact x.kU.none_size (Nat.le_refl _)
  · simp only [if_true]; exact hlt
  · intro z a ha
    simp only [if_true]
    exact Nat.ne_of_lt (x.ic.cell z a ha).lt
  · simp only [if_true]; exact Heap.get?_push_size _ ho
  · simp only [if_true]
    obtain ⟨_, _, _, _, o', h5⟩ := x.own j e' hx
    exact Nat.ne_of_lt (Heap.lt_size h5)

/-- several names -/
theorem St.putMany (X : EnvOk c env) {A : Around} {E : Value → Shared → Prop} : ∀ {xs : List Nat} {es : List Expr}, All2 (fun (x : Nat) (e : Expr) => ∃ y p, c.nm[x]? = some y ∧ e = Expr.Name y p) xs es → ∀ {ds : List D} {vs : List Value}, Reps prog w K ds vs → ds.length = xs.length →
    ∀ {σ : Sg} {s : Shared} {m cm : Str → Option Value} {Q : Unit → Shared → Prop}, St prog w P n c K₀ s₀ env U σ K s m cm ow →
    (∀ s' m' cm', St prog w P n c K₀ s₀ env U (setMany xs ds σ) K s' m' cm' ow → Q () s') → wpAny (model prog w) A (assignInOrder ((assignEach es env).map (·.2)) vs) Q E s
  | _, _, .nil, ds, vs, r, hl, σ, s, m, cm, Q, x, hQ => by
    cases r with
    | nil => exact wpAny_pure (hQ s m cm x)
    | cons _ _ => simp at hl
  | _, _, .cons h0 hs, ds, vs, r, hl, σ, s, m, cm, Q, x, hQ => by
    obtain ⟨y, p, hy, rfl⟩ := h0
    cases r with
    | nil => simp at hl
    | cons r0 rs =>
      exact wpAny_assignInOrder_more (wpAny_assign_Name (x.put X hy r0 fun s' m' cm' x' => St.putMany X hs rs (by simpa using hl) x' hQ))
theorem assignEach_plain {env : Env} : ∀ {xs : List Nat} {es : List Expr}, All2 (fun (x : Nat) (e : Expr) => ∃ y p, c.nm[x]? = some y ∧ e = Expr.Name y p) xs es → (assignEach es env).length = xs.length ∧ (assignEach es env).findIdx? (·.1) = none
  | _, _, .nil => ⟨rfl, rfl⟩
  | _, _, .cons h0 hs => by
    obtain ⟨y, p, hy, rfl⟩ := h0
    obtain ⟨a, b⟩ := assignEach_plain (env := env) hs
    refine ⟨?_, ?_⟩
    · show (assignEach _ env).length + 1 = _
      rw [a]; rfl
    · show List.findIdx? _ ((false, _) :: assignEach _ env) = none
      rw [List.findIdx?_cons, b]; rfl
theorem St.putTuple (X : EnvOk c env) {A : Around} {E : Value → Shared → Prop} (hh : A.handled = none) {xs : List Nat} {es : List Expr} (h : All2 (fun (x : Nat) (e : Expr) => ∃ y p, c.nm[x]? = some y ∧ e = Expr.Name y p) xs es) {ds : List D} {v : Value} {q : Nat} {p : Pos} {Q : Unit → Shared → Prop}
    (x : St prog w P n c K₀ s₀ env U σ K s m cm ow) (r : Rep prog w K (.tup ds) v) (hl : ds.length = xs.length)
    (hQ : ∀ s' m' cm', St prog w P n c K₀ s₀ env U (setMany xs ds σ) K s' m' cm' ow → Q () s') : wpAny (model prog w) A (assign (.Tuple es q p) env v) Q E s := by
  cases r with | tup g rs =>
  rename_i vs a nn
  have hlen := rs.length
  refine wpAny_assign_Tuple (t := a) (items := vs.toArray) hh ⟨_, x.ext.kn _ _ g, rfl, nn, rfl⟩ (by rw [(assignEach_plain h).1, List.size_toArray, hlen, hl]) (assignEach_plain h).2 fun h' hx => ?_
  exact St.putMany X h rs hl (x.step (Ext.heap (t := s.toks) x.ext.kn fun b o e => hx b o (Nat.ne_of_lt (Heap.lt_size e)) e)) hQ
end
end Mine

namespace Mine
/-! M12: statements are what the evaluator says -/
noncomputable def isComp : ME → Bool
  | .comp .. => true
  | _ => false
noncomputable def isTup : ME → Bool
  | .tup .. => true
  | _ => false
inductive TrMTg (c : Cx) : MTg → Expr → Prop
  | one {x : Nat} {y : Str} (p : Pos) : c.nm[x]? = some y → TrMTg c (.one x) (.Name y p)
  | tup {xs : List Nat} {es : List Expr} (q : Nat) (p : Pos) : All2 (fun (x : Nat) (e : Expr) => ∃ y p, c.nm[x]? = some y ∧ e = Expr.Name y p) xs es → TrMTg c (.tup xs) (.Tuple es q p)
inductive TrI (P : Prg) (c : Cx) : MI → Expr → Prop
  | val {e : ME} {x : Expr} : TrE P c e x → (∀ env v, foldedSetIterable x env v = pure v) → TrI P c (.val e) x
  | range {e : ME} {x : Expr} (q p : Pos) : c.sc.lookup ("range" : Str) = some .globalImplicit → TrE P c e x → TrI P c (.range e) (.Call (.Name "range" q) [x] [] p)
mutual
inductive TrS (P : Prg) : Cx → MS → Stmt → Prop
  | set {c : Cx} {x : Nat} {y : Str} {e : ME} {ve : Expr} {p' p : Pos} : c.nm[x]? = some y → TrE P c e ve → isComp e = false → TrS P c (.set x e) (.Assign [.Name y p'] ve p)
  | setc {c : Cx} {x : Nat} {y : Str} {elt : ME} {tg : Tg} {it : ME} {ifs : List MT} {free : List Nat} {tn fnm : List Str} {et ei tgt : Expr} {eifs : List Expr} {scope : Scope} {lp p' p : Pos} :
      c.nm[x]? = some y → c.sc.lookup y = some .local → (p'.line == lp.line) = true → (scope.names.any fun z => z.1 == y && (z.2 == .local || z.2 == .cell)) = false →
      TrTg tg tn tgt → TrE P c it ei → (∀ env x, foldedSetIterable ei env x = pure x) →
      TrTs P ⟨scope.names, tn ++ fnm⟩ ifs eifs → TrE P ⟨scope.names, tn ++ fnm⟩ elt et →
      scope.kind = .function → (∀ y ∈ scope.names, y.2 = .local → scope.names.lookup y.1 = some .local) → (∀ y ∈ scope.names, y.2 ≠ .cell) →
      (∀ x ∈ tn, scope.names.lookup x = some .local) → tn.Nodup →
      (∀ y ∈ scope.names, y.2 = .free → y.1 ∈ fnm) →
      All2 (fun i x => c.nm[i]? = some x ∧ scope.names.lookup x = some .free ∧ c.sc.lookup x = some .cell) free fnm →
      TrS P c (.setc x elt tg it ifs free) (.Assign [.Name y p'] (.ListComp et [⟨tgt, ei, eifs, 0⟩] scope lp) p)
  | newl {c : Cx} {x : Nat} {y : Str} {p' q p : Pos} : c.nm[x]? = some y → TrS P c (.newl x) (.Assign [.Name y p'] (.List [] q) p)
  | newd {c : Cx} {x : Nat} {y : Str} {p' q p : Pos} : c.nm[x]? = some y → TrS P c (.newd x) (.Assign [.Name y p'] (.Dict [] [] q) p)
  | news {c : Cx} {x : Nat} {y : Str} {p' q r p : Pos} : c.nm[x]? = some y → c.sc.lookup ("set" : Str) = some .globalImplicit → TrS P c (.news x) (.Assign [.Name y p'] (.Call (.Name "set" q) [] [] r) p)
  | aug {c : Cx} {x : Nat} {y : Str} {e : ME} {ve : Expr} {p' p : Pos} : c.nm[x]? = some y → TrE P c e ve → TrS P c (.aug x e) (.AugAssign (.Name y p') .Add ve p)
  | unp {c : Cx} {xs : List Nat} {es : List Expr} {e : ME} {ve : Expr} {q : Nat} {tp p : Pos} : All2 (fun (x : Nat) (e : Expr) => ∃ y p, c.nm[x]? = some y ∧ e = Expr.Name y p) xs es → TrE P c e ve → isComp e = false → isTup e = false →
      TrS P c (.unp xs e) (.Assign [.Tuple es q tp] ve p)
  | swap {c : Cx} {x z : Nat} {y1 y2 : Str} {a b : ME} {ea eb : Expr} {p1 p2 tp vp p : Pos} {q q' : Nat} : c.nm[x]? = some y1 → c.nm[z]? = some y2 → c.sc.lookup y1 = some .local → c.sc.lookup y2 = some .local → TrE P c a ea → TrE P c b eb →
      (∀ env : Env, env.blockKind = .function → env.kindOf y1 = some .local → env.kindOf y2 = some .local → swappedStores [.Tuple [.Name y1 p1, .Name y2 p2] q tp] (.Tuple [ea, eb] q' vp) env = pure (some [y1, y2])) →
      TrS P c (.swap x z a b) (.Assign [.Tuple [.Name y1 p1, .Name y2 p2] q tp] (.Tuple [ea, eb] q' vp) p)
  | app {c : Cx} {x : Nat} {y : Str} {e : ME} {ve : Expr} {p' q r p : Pos} : c.nm[x]? = some y → notDebug y → TrE P c e ve → (q.endLine == r.line) = true → TrS P c (.app x e) (.Expr (.Call (.Attribute (.Name y p') "append" q) [ve] [] r) p)
  | adds {c : Cx} {x : Nat} {y : Str} {e : ME} {ve : Expr} {p' q r p : Pos} : c.nm[x]? = some y → notDebug y → TrE P c e ve → (q.endLine == r.line) = true → TrS P c (.adds x e) (.Expr (.Call (.Attribute (.Name y p') "add" q) [ve] [] r) p)
  | putd {c : Cx} {x : Nat} {y : Str} {k e : ME} {ke ve : Expr} {p' q p : Pos} : c.nm[x]? = some y → notDebug y → TrE P c k ke → TrE P c e ve → isComp e = false → TrS P c (.putd x k e) (.Assign [.Subscript (.Name y p') ke q] ve p)
  | ite {c : Cx} {t : MT} {a b : List MS} {te : Expr} {sa sb : List Stmt} {p : Pos} : TrT P c t te → TrSs P c a sa → TrSs P c b sb → TrS P c (.ite t a b) (.If te sa sb p)
  | forr {c : Cx} {tg : MTg} {it : MI} {body : List MS} {tgt ie : Expr} {sb : List Stmt} {p : Pos} : TrMTg c tg tgt → TrI P c it ie → TrSs P c body sb → TrS P c (.forr tg it body) (.For tgt ie sb [] p)
  | whl {c : Cx} {k : Nat} {t : MT} {body : List MS} {te : Expr} {sb : List Stmt} {p : Pos} : TrT P c t te → TrSs P c body sb → TrS P c (.whl k t body) (.While te sb [] p)
  | ret {c : Cx} {e : ME} {ve : Expr} {p : Pos} : TrE P c e ve → TrS P c (.ret e) (.Return (some ve) p)
inductive TrSs (P : Prg) : Cx → List MS → List Stmt → Prop
  | nil {c : Cx} : TrSs P c [] []
  | cons {c : Cx} {m : MS} {ms : List MS} {st : Stmt} {ss : List Stmt} : TrS P c m st → TrSs P c ms ss → TrSs P c (m :: ms) (st :: ss)
  | freeze {c : Cx} {x : Nat} {ms : List MS} {ss : List Stmt} : x < c.nm.length → TrSs P c ms ss → TrSs P c (.freeze x :: ms) ss
end

section
variable (prog : Program) (w : World) (P : Prg) (n : Nat) (c : Cx)
noncomputable def Fini (K₀ : KM) (s₀ : Shared) (env : Env) (U K : KM) : Out → Flow → Shared → Prop
  | .next σ', f, s' => f = .next ∧ ∃ K' m' cm' ow', Le K K' ∧ St prog w P n c K₀ s₀ env U σ' K' s' m' cm' ow'
  | .ret d, f, s' => ∃ v, f = .ret v ∧ ∃ K', Ext K₀ s₀ K' s' ∧ Rep prog w K' d v
noncomputable def PS (ms : MS) (st : Stmt) : Prop := ∀ (K₀ : KM) (s₀ : Shared) (env : Env) (U : KM) (σ : Sg) (K : KM) (s : Shared) (m cm : Str → Option Value) (ow : Nat → Addr) (A : Around) (E : Value → Shared → Prop) (o : Out),
  Room n A → EnvOk c env → St prog w P n c K₀ s₀ env U σ K s m cm ow → exS P ms σ = some o → wpAny (model prog w) A (exec st env) (Fini prog w P n c K₀ s₀ env U K o) E s
noncomputable def PSs (ms : List MS) (ss : List Stmt) : Prop := ∀ (K₀ : KM) (s₀ : Shared) (env : Env) (U : KM) (σ : Sg) (K : KM) (s : Shared) (m cm : Str → Option Value) (ow : Nat → Addr) (A : Around) (E : Value → Shared → Prop) (o : Out),
  Room n A → EnvOk c env → St prog w P n c K₀ s₀ env U σ K s m cm ow → exL P ms σ = some o → wpAny (model prog w) A (execs ss env) (Fini prog w P n c K₀ s₀ env U K o) E s
end

section
variable {prog : Program} {w : World} {P : Prg} {n : Nat} {c : Cx}
theorem Fini.le {K₀ : KM} {s₀ : Shared} {env : Env} {U K K' : KM} {o : Out} {f : Flow} {s : Shared} (x : Fini prog w P n c K₀ s₀ env U K' o f s) (l : Le K K') : Fini prog w P n c K₀ s₀ env U K o f s := by
  cases o with
  | next σ => obtain ⟨e, K'', m, cm, ow, h1, h2⟩ := x; exact ⟨e, K'', m, cm, ow, l.trans h1, h2⟩
  | ret d => exact x
theorem noSwap {e : ME} {ve : Expr} (h : TrE P c e ve) (hc : isComp e = false) : ∀ t line env, swapsWith ve t line env = pure false := by
  intro t line env
  cases h <;> first | rfl | cases hc
theorem noSwap2 {e : ME} {ve : Expr} (h : TrE P c e ve) (hc : isTup e = false) : ∀ ts q tp env, swappedStores [.Tuple ts q tp] ve env = pure none := by
  intro ts q tp env
  cases h <;> first | rfl | cases hc

theorem st_set {x : Nat} {y : Str} {e : ME} {ve : Expr} {p' p : Pos} (hx : c.nm[x]? = some y) (he : TrE P c e ve) (hc : isComp e = false) : PS prog w P n c (.set x e) (.Assign [.Name y p'] ve p) :=
  fun K₀ s₀ env U σ K s m cm ow A E o R X S h => by
  simp only [exS] at h
  split at h
  · rename_i d hd; cases h
    refine wpAny_Assign_Name (wpAny_mono (ev_sound he σ env K s A E d R (S.cxt X) S.ext.kn hd) (fun v s₁ h₁ => ?_) fun _ _ e => e) (noSwap he hc _ _ _)
    obtain ⟨K₁, x₁, r₁⟩ := h₁
    exact (S.step x₁).put X hx r₁ fun s' m' cm' S' => ⟨rfl, K₁, m', cm', ow, x₁.le, S'⟩
  · cases h
theorem st_newl {x : Nat} {y : Str} {p' q p : Pos} (hx : c.nm[x]? = some y) : PS prog w P n c (.newl x) (.Assign [.Name y p'] (.List [] q) p) :=
  fun K₀ s₀ env U σ K s m cm ow A E o R X S h => by
  cases h
  refine wpAny_Assign_Name (wpAny_List (args_nil ⟨Nat.zero_le _, ?_⟩)) rfl
  exact S.putOwn X hx (t := s.toks) (d := .list []) rfl ⟨[], 0, Heap.get?_push_size _ rfl, .nil⟩ fun s' m' cm' ow' S' => ⟨rfl, K, m', cm', ow', .refl K, S'⟩
theorem St.notModules {K₀ : KM} {s₀ : Shared} {env : Env} {U : KM} {σ : Sg} {K : KM} {s : Shared} {m cm : Str → Option Value} {ow : Nat → Addr} (S : St prog w P n c K₀ s₀ env U σ K s m cm ow) : (s.heap.objs.size == sysModules) = false := by
  obtain ⟨o, ho⟩ := S.gb.sm
  have := Heap.lt_size (Keeps.heap S.ext.keeps _ _ ho)
  rw [beq_eq_false_iff_ne]
  exact Ne.symm (Nat.ne_of_lt this)
theorem st_newd {x : Nat} {y : Str} {p' q p : Pos} (hx : c.nm[x]? = some y) : PS prog w P n c (.newd x) (.Assign [.Name y p'] (.Dict [] [] q) p) :=
  fun K₀ s₀ env U σ K s m cm ow A E o R X S h => by
  cases h
  refine wpAny_Assign_Name (wpAny_Dict_empty ?_) rfl
  exact S.putOwn X hx (t := s.toks) (d := .dII []) rfl ⟨S.notModules, [], Heap.DictOf.new _, .nil⟩ fun s' m' cm' ow' S' => ⟨rfl, K, m', cm', ow', .refl K, S'⟩
theorem st_news {x : Nat} {y : Str} {p' q r p : Pos} (hx : c.nm[x]? = some y) (hs : c.sc.lookup ("set" : Str) = some .globalImplicit) : PS prog w P n c (.news x) (.Assign [.Name y p'] (.Call (.Name "set" q) [] [] r) p) :=
  fun K₀ s₀ env U σ K s m cm ow A E o R X S h => by
  cases h
  obtain ⟨⟨mg, mb, hg, hb, hc, hbi, _⟩, _, _⟩ := (S.cxt X).gb
  obtain ⟨h1, h2⟩ := hbi .set
  refine wpAny_Assign_Name (Call_ (Calls.Name_function_global X.kind (X.gi _ hs) (Calls.loadGlobal_builtin (by rw [X.glob]; exact hg) h1 (by rw [X.blt]; exact hb) h2 (PyProof.Rows.callWith_type0 (call_set_0 fun led => ?_))))) rfl
  refine S.putOwn X hx (t := s.toks) (d := .set []) rfl ?_ fun s' m' cm' ow' S' => ⟨rfl, K, m', cm', ow', .refl K, S'⟩
  show Heap.SetOf _ _ _ _ _
  exact ⟨_, #[], 0, _, Heap.get?_push_size _ rfl, ⟨rfl, rfl, rfl⟩, rfl, fun e he => by simp at he, fun k => by simp, by decide, by cases led <;> decide, rfl⟩
theorem st_aug {x : Nat} {y : Str} {e : ME} {ve : Expr} {p' p : Pos} (hx : c.nm[x]? = some y) (he : TrE P c e ve) : PS prog w P n c (.aug x e) (.AugAssign (.Name y p') .Add ve p) :=
  fun K₀ s₀ env U σ K s m cm ow A E o R X S h => by
  simp only [exS] at h
  split at h
  · rename_i a ha
    split at h
    · rename_i b hb; cases h
      obtain ⟨v, va, r⟩ := (S.cxt X).vars x y _ hx (Sg.val_some ha)
      refine wpAny_AugAssign_Name (load_var X.kind va ?_)
      refine wpAny_mono (ev_sound he σ env K s A E _ R (S.cxt X) S.ext.kn hb) (fun u s₁ h₁ => ?_) fun _ _ e => e
      obtain ⟨K₁, x₁, r₁⟩ := h₁
      cases r; cases r₁
      refine PyProof.Rows.iadd_int ?_
      exact ((S.step x₁).step (.toks x₁.kn _)).put X hx (.int _ _) fun s' m' cm' S' => ⟨rfl, K₁, m', cm', ow, x₁.le, S'⟩
    · cases h
  · cases h
theorem st_unp {xs : List Nat} {es : List Expr} {e : ME} {ve : Expr} {q : Nat} {tp p : Pos} (hxs : All2 (fun (x : Nat) (e : Expr) => ∃ y p, c.nm[x]? = some y ∧ e = Expr.Name y p) xs es) (he : TrE P c e ve) (hc : isComp e = false) (ht : isTup e = false) :
    PS prog w P n c (.unp xs e) (.Assign [.Tuple es q tp] ve p) :=
  fun K₀ s₀ env U σ K s m cm ow A E o R X S h => by
  simp only [exS] at h
  split at h
  · rename_i ds hd
    split at h
    · rename_i hl; cases h
      refine Assign_Tuple (wpAny_mono (ev_sound he σ env K s A E _ R (S.cxt X) S.ext.kn hd) (fun v s₁ h₁ => ?_) fun _ _ e => e) (noSwap he hc (some (.Tuple es q tp)) p.line env) (noSwap2 he ht _ _ _ _)
      obtain ⟨K₁, x₁, r₁⟩ := h₁
      exact (S.step x₁).putTuple X R.handled hxs r₁ hl fun s' m' cm' S' => ⟨rfl, K₁, m', cm', ow, x₁.le, S'⟩
    · cases h
  · cases h
theorem blockKind_fn {env : Env} (h : env.scope.kind = .function) : env.blockKind = .function := by unfold Env.blockKind; rw [h]; rfl
theorem st_swap {x z : Nat} {y1 y2 : Str} {a b : ME} {ea eb : Expr} {p1 p2 tp vp p : Pos} {q q' : Nat} (hx : c.nm[x]? = some y1) (hz : c.nm[z]? = some y2) (l1 : c.sc.lookup y1 = some .local) (l2 : c.sc.lookup y2 = some .local) (ha : TrE P c a ea) (hb : TrE P c b eb)
    (hw : ∀ env : Env, env.blockKind = .function → env.kindOf y1 = some .local → env.kindOf y2 = some .local → swappedStores [.Tuple [.Name y1 p1, .Name y2 p2] q tp] (.Tuple [ea, eb] q' vp) env = pure (some [y1, y2])) :
    PS prog w P n c (.swap x z a b) (.Assign [.Tuple [.Name y1 p1, .Name y2 p2] q tp] (.Tuple [ea, eb] q' vp) p) :=
  fun K₀ s₀ env U σ K s m cm ow A E o R X S h => by
  simp only [exS] at h
  split at h
  · rename_i u hu
    split at h
    · rename_i v hv; cases h
      have he : TrE P c (.tup [a, b]) (.Tuple [ea, eb] q' vp) := .tup (.cons ha (.cons hb .nil))
      have hd : ev P (.tup [a, b]) σ = some (.tup [u, v]) := by simp [ev, evs, hu, hv]
      refine Assign_Tuple_swapped (wpAny_mono (ev_sound he σ env K s A E _ R (S.cxt X) S.ext.kn hd) (fun t s₁ h₁ => ?_) fun _ _ e => e) rfl (hw env (blockKind_fn X.kind) (X.lo _ l1) (X.lo _ l2))
      obtain ⟨K₁, x₁, r₁⟩ := h₁
      cases r₁ with | tup g rs =>
      rename_i vs ad nn
      cases rs with | cons r1 rs => cases rs with | cons r2 rs => cases rs with | nil =>
      rename_i v1 v2
      have ht : IsTup s₁.heap ad #[v1, v2] := ⟨_, x₁.kn _ _ g, rfl, nn, rfl⟩
      show wpAny _ _ (unpackItems (.ref ad) (#[v1, v2] : Array Value).size none) _ _ _
      refine unpackItems_tuple R.handled ht fun h' hx' => ?_
      show wpAny _ _ (assignInOrder [bindName env y2, bindName env y1] [v2, v1]) _ _ _
      have S₂ := (S.step x₁).step (Ext.heap (t := s₁.toks) x₁.kn fun b o e => hx' b o (Nat.ne_of_lt (Heap.lt_size e)) e)
      refine wpAny_assignInOrder_more (wpAny_bindName (S₂.put X hz r2 fun s₂ m₂ cm₂ S₃ => ?_))
      refine wpAny_assignInOrder_more (wpAny_bindName (S₃.put X hx r1 fun s₃ m₃ cm₃ S₄ => ?_))
      exact wpAny_pure ⟨rfl, K₁, m₃, cm₃, ow, x₁.le, S₄⟩
    · cases h
  · cases h

theorem interactive_fn {env : Env} (h : env.scope.kind = .function) : interactive env = false := by unfold interactive; rw [h]; rfl
theorem ownL_some {σ : Sg} {x : Nat} {ds : List D} (h : ownL σ x = some ds) : σ[x]? = some (some (.own (.list ds))) := by
  unfold ownL at h
  split at h
  · rename_i e; cases h; exact e
  · cases h
theorem ownD_some {σ : Sg} {x : Nat} {ds : List (Int × Int)} (h : ownD σ x = some ds) : σ[x]? = some (some (.own (.dII ds))) := by
  unfold ownD at h
  split at h
  · rename_i e; cases h; exact e
  · cases h
theorem ownS_some {σ : Sg} {x : Nat} {ds : List Int} (h : ownS σ x = some ds) : σ[x]? = some (some (.own (.set ds))) := by
  unfold ownS at h
  split at h
  · rename_i e; cases h; exact e
  · cases h
theorem ownA_some {σ : Sg} {x : Nat} {d : D} (h : ownA σ x = some d) : σ[x]? = some (some (.own d)) := by
  unfold ownA at h
  split at h
  · rename_i e; cases h; exact e
  · cases h
theorem st_app {x : Nat} {y : Str} {e : ME} {ve : Expr} {p' q r p : Pos} (hx : c.nm[x]? = some y) (hd : notDebug y) (he : TrE P c e ve) (hl : (q.endLine == r.line) = true) :
    PS prog w P n c (.app x e) (.Expr (.Call (.Attribute (.Name y p') "append" q) [ve] [] r) p) :=
  fun K₀ s₀ env U σ K s m cm ow A E o R X S h => by
  simp only [exS] at h
  split at h
  · rename_i ds hds
    split at h
    · rename_i d hev
      split at h
      · rename_i hz; cases h
        have hi := ownL_some hds
        obtain ⟨v, va, sr, ea⟩ := S.at X hx hi
        have := ea _ rfl
        subst this
        have hst := he.star [] env
        refine wpAny_Expr (wpAny_Call_method_lateS rfl ?_ hl (wpAny_Name (load_var X.kind va ?_) hd)) (interactive_fn X.kind) rfl
        · rw [hst]; rfl
        · obtain ⟨a, e', vs, nn, hl', rs⟩ := sr
          cases e'
          refine ⟨"list", "list.append", F.plainAttrs_list, F.slot_list_append, F.type_list_append, ⟨_, hl', rfl⟩, fun b e => by cases e; exact ⟨_, hl', rfl⟩, ?_⟩
          refine callWith_method1 ?_ hst rfl
          rw [hst]
          refine Calls.spliced_cons (wpAny_mono (ev_sound he σ env K s A E d R (S.cxt X) S.ext.kn hev) (fun u s₁ h₁ => Calls.spliced_nil ?_) fun _ _ e => e)
          obtain ⟨K₁, x₁, r₁⟩ := h₁
          have hlen := rs.length
          refine wpAny_list_append_plain (l := ow x) (items := vs.toArray) ⟨nn, Keeps.heap x₁.keeps _ _ hl'⟩ (fun h' hp hs => ?_) (by rw [List.size_toArray, hlen]; exact Nat.le_trans hz (by decide))
          obtain ⟨n', hp⟩ := hp
          refine ⟨rfl, K₁, m, cm, ow, x₁.le, (S.step x₁).mut (d' := .list (ds ++ [d])) hi hs ⟨vs ++ [u], n', by simpa using hp, (rs.mono x₁.le).append (.cons r₁ .nil)⟩ s₁.toks⟩
      · cases h
    · cases h
  · cases h
theorem st_adds {x : Nat} {y : Str} {e : ME} {ve : Expr} {p' q r p : Pos} (hx : c.nm[x]? = some y) (hd : notDebug y) (he : TrE P c e ve) (hl : (q.endLine == r.line) = true) :
    PS prog w P n c (.adds x e) (.Expr (.Call (.Attribute (.Name y p') "add" q) [ve] [] r) p) :=
  fun K₀ s₀ env U σ K s m cm ow A E o R X S h => by
  simp only [exS] at h
  split at h
  · rename_i ds hds
    split at h
    · rename_i k hev
      split at h
      · rename_i hz; cases h
        have hi := ownS_some hds
        obtain ⟨v, va, sr, ea⟩ := S.at X hx hi
        have := ea _ rfl
        subst this
        have hst := he.star [] env
        refine wpAny_Expr (wpAny_Call_method_lateS rfl ?_ hl (wpAny_Name (load_var X.kind va ?_) hd)) (interactive_fn X.kind) rfl
        · rw [hst]; rfl
        · obtain ⟨a, e', so⟩ := sr
          cases e'
          have so : Heap.SetOf (intKind prog w) s.heap (ow x) (fun k => ds.any (· == k)) ds.length := so
          refine ⟨"set", "set.add", F.plainAttrs_set, F.slot_set_add, F.type_set_add, so.typeIs, so.noDict, ?_⟩
          refine callWith_method1 ?_ hst rfl
          rw [hst]
          refine Calls.spliced_cons (wpAny_mono (ev_sound he σ env K s A E _ R (S.cxt X) S.ext.kn hev) (fun u s₁ h₁ => Calls.spliced_nil ?_) fun _ _ e => e)
          obtain ⟨K₁, x₁, r₁⟩ := h₁
          cases r₁
          refine call_set_add (knd := intKind prog w) (k := k) (intKind_is prog w _ _) rfl (setOf_at so fun o e => Keeps.heap x₁.keeps _ _ e) hz fun h' hs hS => ?_
          refine ⟨rfl, K₁, m, cm, ow, x₁.le, (S.step x₁).mut (d' := .set (if ds.any (· == k) then ds else ds ++ [k])) hi hs ?_ (s₁.toks + 1)⟩
          show Heap.SetOf (intKind prog w) h' (ow x) _ _
          by_cases hk : ds.any (· == k) = true
          · simp only [hk, if_true] at hS ⊢
            have e1 : (fun k' => (fun k => ds.any (· == k)) k' || decide (k' = k)) = fun k => ds.any (· == k) := by
              funext k'
              by_cases hkk : k' = k
              · subst hkk; simp [hk]
              · simp [hkk]
            rw [e1] at hS
            exact hS
          · have hk' : ds.any (· == k) = false := by cases q : ds.any (· == k) with | true => exact absurd q hk | false => rfl
            simp only [hk', Bool.false_eq_true, if_false] at hS ⊢
            have e1 : (fun k' => (fun k => ds.any (· == k)) k' || decide (k' = k)) = fun k' => (ds ++ [k]).any (· == k') := by
              funext k'
              rw [List.any_append]
              by_cases hkk : k' = k
              · subst hkk; simp
              · have : (k == k') = false := by simpa using fun e => hkk e.symm
                simp [hkk, this]
            rw [e1] at hS
            simpa using hS
      · cases h
    · cases h
  · cases h
theorem all2_append {α β : Type} {F : α → β → Prop} : ∀ {as : List α} {bs : List β}, All2 F as bs → ∀ {a : α} {b : β}, F a b → All2 F (as ++ [a]) (bs ++ [b])
  | _, _, .nil, _, _, h => .cons h .nil
  | _, _, .cons h0 hs, _, _, h => .cons h0 (all2_append hs h)
theorem all2_any {es : List (Int × Int)} {kvs : List (Int × Value)} (h : All2 (fun (e : Int × Int) (kv : Int × Value) => kv.1 = e.1 ∧ ∃ t, kv.2 = .int e.2 t) es kvs) (k : Int) : (kvs.any fun kv => kv.1 = k) = es.any fun kv => kv.1 = k := by
  induction h with
  | nil => rfl
  | cons r _ ih => simp only [List.any_cons, r.1, ih]
theorem st_putd {x : Nat} {y : Str} {k e : ME} {ke ve : Expr} {p' q p : Pos} (hx : c.nm[x]? = some y) (hd : notDebug y) (hk : TrE P c k ke) (he : TrE P c e ve) (hc : isComp e = false) :
    PS prog w P n c (.putd x k e) (.Assign [.Subscript (.Name y p') ke q] ve p) :=
  fun K₀ s₀ env U σ K s m cm ow A E o R X S h => by
  simp only [exS] at h
  split at h
  · rename_i es hes
    split at h
    · rename_i i hev
      split at h
      · rename_i j hkv
        split at h
        · rename_i hz; cases h
          have hi := ownD_some hes
          refine wpAny_Assign_Subscript (wpAny_mono (ev_sound he σ env K s A E _ R (S.cxt X) S.ext.kn hev) (fun u s₁ h₁ => ?_) fun _ _ e => e) (noSwap he hc _ _ _)
          obtain ⟨K₁, x₁, r₁⟩ := h₁
          have S₁ := S.step x₁
          obtain ⟨v, va, sr, ea⟩ := S₁.at X hx hi
          have := ea _ rfl
          subst this
          refine wpAny_Name (load_var X.kind va ?_) hd
          refine wpAny_mono (ev_sound hk σ env K₁ s₁ A E _ R (S₁.cxt X) S₁.ext.kn hkv) (fun kv s₂ h₂ => ?_) fun _ _ e => e
          obtain ⟨K₂, x₂, r₂⟩ := h₂
          have S₂ := S₁.step x₂
          obtain ⟨a, e', hs, kvs, hm, hp⟩ := sr
          cases e'
          cases r₂; cases r₁
          have hlen := hp.length
          refine wpAny_setItem_pairs (knd := intKind prog w) (k := j) (intKind_is prog w _ _) (hm.at fun o e => Keeps.heap x₂.keeps _ _ e) (fun h' hd' hs' => ?_) (by rw [← hlen]; exact Nat.le_trans hz.2 (by decide))
          have hnot : (kvs.any fun kv => decide (kv.1 = j)) = false := by rw [all2_any hp]; simpa using hz.1
          unfold stored at hd'
          rw [if_neg (by rw [hnot]; decide)] at hd'
          exact ⟨rfl, K₂, m, cm, ow, x₁.le.trans x₂.le, S₂.mut (d' := .dII (es ++ [(j, i)])) hi hs' ⟨hs, _, hd', all2_append hp ⟨rfl, _, rfl⟩⟩ _⟩
        · cases h
      · cases h
    · cases h
  · cases h
theorem st_ret {e : ME} {ve : Expr} {p : Pos} (he : TrE P c e ve) : PS prog w P n c (.ret e) (.Return (some ve) p) :=
  fun K₀ s₀ env U σ K s m cm ow A E o R X S h => by
  simp only [exS] at h
  split at h
  · rename_i d hd; cases h
    refine wpAny_Return_some (wpAny_mono (ev_sound he σ env K s A E d R (S.cxt X) S.ext.kn hd) (fun v s₁ h₁ => ?_) fun _ _ e => e)
    obtain ⟨K₁, x₁, r₁⟩ := h₁
    exact ⟨v, rfl, K₁, S.ext.trans x₁, r₁⟩
  · cases h
theorem st_ite {t : MT} {a b : List MS} {te : Expr} {sa sb : List Stmt} {p : Pos} (ht : TrT P c t te) (ha : PSs prog w P n c a sa) (hb : PSs prog w P n c b sb) : PS prog w P n c (.ite t a b) (.If te sa sb p) :=
  fun K₀ s₀ env U σ K s m cm ow A E o R X S h => by
  simp only [exS] at h
  split at h
  · rename_i hq
    refine wpAny_If (wpAny_mono (evT_sound ht σ env K s A E true R (S.cxt X) S.ext.kn hq) (fun r s₁ h₁ => ?_) fun _ _ e => e)
    obtain ⟨rfl, K₁, x₁⟩ := h₁
    exact wpAny_mono (ha K₀ s₀ env U σ K₁ s₁ m cm ow A E o R X (S.step x₁) h) (fun _ _ f => f.le x₁.le) fun _ _ e => e
  · rename_i hq
    refine wpAny_If (wpAny_mono (evT_sound ht σ env K s A E false R (S.cxt X) S.ext.kn hq) (fun r s₁ h₁ => ?_) fun _ _ e => e)
    obtain ⟨rfl, K₁, x₁⟩ := h₁
    exact wpAny_mono (hb K₀ s₀ env U σ K₁ s₁ m cm ow A E o R X (S.step x₁) h) (fun _ _ f => f.le x₁.le) fun _ _ e => e
  · cases h
theorem ss_nil : PSs prog w P n c [] [] := fun K₀ s₀ env U σ K s m cm ow A E o R X S h => by
  cases h
  exact wpAny_execs_nil ⟨rfl, K, m, cm, ow, .refl K, S⟩
theorem ss_cons {ms : MS} {mss : List MS} {st : Stmt} {ss : List Stmt} (h1 : PS prog w P n c ms st) (h2 : PSs prog w P n c mss ss) : PSs prog w P n c (ms :: mss) (st :: ss) := fun K₀ s₀ env U σ K s m cm ow A E o R X S h => by
  simp only [exL] at h
  split at h
  · rename_i σ' hq
    refine wpAny_execs_cons (wpAny_mono (h1 K₀ s₀ env U σ K s m cm ow A E _ R X S hq) (fun f s₁ h₁ => ?_) fun _ _ e => e)
    obtain ⟨rfl, K₁, m₁, cm₁, ow₁, l₁, S₁⟩ := h₁
    exact wpAny_mono (h2 K₀ s₀ env U σ' K₁ s₁ m₁ cm₁ ow₁ A E o R X S₁ h) (fun _ _ f => f.le l₁) fun _ _ e => e
  · rename_i d hq; cases h
    refine wpAny_execs_cons (wpAny_mono (h1 K₀ s₀ env U σ K s m cm ow A E _ R X S hq) (fun f s₁ h₁ => ?_) fun _ _ e => e)
    obtain ⟨v, rfl, r⟩ := h₁
    exact ⟨v, rfl, r⟩
  · cases h
theorem ss_freeze {x : Nat} {mss : List MS} {ss : List Stmt} (hx : x < c.nm.length) (h2 : PSs prog w P n c mss ss) : PSs prog w P n c (.freeze x :: mss) ss := fun K₀ s₀ env U σ K s m cm ow A E o R X S h => by
  simp only [exL, exS] at h
  cases q : ownA σ x with
  | none => rw [q] at h; cases h
  | some d =>
    rw [q] at h
    obtain ⟨K₁, l₁, S₁⟩ := S.freeze (ownA_some q) hx
    exact wpAny_mono (h2 K₀ s₀ env U _ K₁ s m cm ow A E o R X S₁ h) (fun _ _ f => f.le l₁) fun _ _ e => e
end
end Mine

namespace Mine
/-! M13: loops, and the comprehension into a name -/
section
variable {prog : Program} {w : World} {A : Around} {s : Shared}
theorem codeAny_forLoopG {R : Result → Shared → Prop} {target it body orelse env} (I : Nat → Shared → Prop)
    (turn : ∀ n s, I n s → wpAny (model prog w) A (pyNext it) (fun r s₁ => match r with
      | none => wpAny (model prog w) A (execs orelse env) (fun f s₃ => R (.ok f) s₃) (notedBy (model prog w) A env fun e s' => R (.error e) s') s₁
      | some v => wpAny (model prog w) A (letOwnedTupleGo target it v) (fun _ s₁' => wpAny (model prog w) A (assign target env v) (fun _ s₂ => wpAny (model prog w) A (execs body env) (fun f s₃ => match f with
          | .next | .cont => ∃ m, m < n ∧ I m s₃
          | .brk => R (.ok .next) s₃
          | .ret v => R (.ok (.ret v)) s₃) (notedBy (model prog w) A env fun e s' => R (.error e) s') s₂) (notedBy (model prog w) A env fun e s' => R (.error e) s') s₁') (notedBy (model prog w) A env fun e s' => R (.error e) s') s₁) (notedBy (model prog w) A env fun e s' => R (.error e) s') s)
    (n : Nat) (h : I n s) : codeAny (model prog w) A (.forLoop target it body orelse env) R s := by
  refine codeAny_loop' rfl I (fun n s hI => ?_) n h
  show wpAny _ _ ((forTurn target it body orelse env).onRaise (fun x => do noteFrame x env; theTreesLotGoes x)) _ _ s
  refine wpAny_noted ?_
  simp only [forTurn]
  refine wpAny_bind (wpAny_standAt (wpAny_bind (wpAny_onRaise (wpAny_mono (turn n s hI) (fun r s₁ h₁ => ?_) fun _ _ h' => wpAny_standAt h'))))
  cases r with
  | none => exact wpAny_pure (.inr ⟨rfl, codeAny_block h₁⟩)
  | some v =>
    refine wpAny_bind (wpAny_mono h₁ (fun _ s₁' h₁' => wpAny_bind (wpAny_mono h₁' (fun _ s₂ h₂ => wpAny_bind (wpAny_mono h₂ (fun f s₃ h₃ => ?_) fun _ _ h' => h')) fun _ _ h' => h')) fun _ _ h' => h')
    cases f with
    | next => exact wpAny_pure (.inl ⟨rfl, h₃⟩)
    | cont => exact wpAny_pure (.inl ⟨rfl, h₃⟩)
    | brk => exact wpAny_pure h₃
    | ret v => exact wpAny_pure h₃
end

section
variable (prog : Program) (w : World)
/-- an iterator that was just made -/
noncomputable def Itr (tg : MTg) (ds : List D) (K : KM) (s : Shared) (it : Value) (s₂ : Shared) : Prop :=
  ∃ (I : Addr) (fp wr : List Addr) (Pv : Nat → Value → Prop) (W : Nat → Heap → Prop) (K' : KM), it = .ref I ∧ Ext K s K' s₂ ∧ (∀ A' : Around, A'.handled = none → Walks prog w A' I fp wr ds.length Pv W) ∧ W 0 s₂.heap ∧
    (∀ b ∈ wr, s.heap.get? b = none ∧ K' b = none) ∧ (∀ i h, W i h → ∀ b ∈ wr, ∃ o, h.get? b = some o) ∧ (∀ b ∈ fp, b ∈ wr ∨ K' b ≠ none) ∧ (∀ i v, i < ds.length → Pv i v → ∃ d, ds[i]? = some d ∧ Rep prog w K' d v) ∧
    (∀ xs, tg = .tup xs → ∀ (A' : Around) (i : Nat) (T : Addr) (s : Shared) (Q : Unit → Shared → Prop) (E : Value → Shared → Prop) elts q p, W (i + 1) s.heap → Q () s → wpAny (model prog w) A' (letOwnedTupleGo (.Tuple elts q p) (.ref I) (.ref T)) Q E s)
noncomputable def PI (P : Prg) (n : Nat) (c : Cx) (tg : MTg) (mi : MI) (ie : Expr) : Prop := ∀ (σ : Sg) (env : Env) (K : KM) (s : Shared) (A : Around) (E : Value → Shared → Prop) (ds : List D), Room n A → EnvOk c env → Cxt prog w P n c σ env K s.heap → Kn K s.heap → evI P tg mi σ = some ds →
  wpAny (model prog w) A (eval ie env) (fun x s₁ => wpAny (model prog w) A (pyIter x) (Itr prog w tg ds K s) E s₁) E s
end

section
variable {prog : Program} {w : World} {P : Prg} {n : Nat} {c : Cx}
theorem none_at_size {h : Heap} {a : Addr} (ha : h.objs.size ≤ a) : h.get? a = none := by
  cases e : h.get? a with
  | none => rfl
  | some o => exact absurd (Heap.lt_size e) (Nat.not_lt.mpr ha)
theorem Ext.none_new {K K' : KM} {s s' : Shared} (x : Ext K s K' s') {a : Addr} (ha : s'.heap.objs.size ≤ a) : s.heap.get? a = none ∧ K' a = none := by
  refine ⟨?_, x.kn.none_size ha⟩
  cases e : s.heap.get? a with
  | none => rfl
  | some o => exact absurd (Heap.lt_size (Keeps.heap x.keeps _ _ e)) (Nat.not_lt.mpr ha)
theorem pi_val {e : ME} {x : Expr} {tg : MTg} (he : TrE P c e x) : PI prog w P n c tg (.val e) x := fun σ env K s A E ds R X C k h => by
  simp only [evI] at h
  split at h
  · rename_i d hd
    refine wpAny_mono (ev_sound he σ env K s A E d R C k hd) (fun v s₁ h₁ => ?_) fun _ _ e => e
    obtain ⟨K₁, x₁, r₁⟩ := h₁
    obtain ⟨n1, n2⟩ := x₁.none_new (Nat.le_refl _)
    have push : ∀ o : Obj, Ext K s K₁ { s₁ with heap := s₁.heap.push o, toks := s₁.toks } := fun o => x₁.trans (Ext.heap x₁.kn fun b o e => Heap.get?_push_of_some _ e)
    unfold items at h
    split at h
    all_goals (first | (cases h; done) | skip)
    · split at h
      · cases h
        cases r₁ with | list g rs =>
        rename_i vs a nn
        have hne : a ≠ s₁.heap.objs.size := Nat.ne_of_lt (Heap.lt_size (x₁.kn _ _ g))
        have hlen := rs.length
        refine wpAny_pyIter_list (items := vs.toArray) ⟨_, x₁.kn _ _ g, rfl, nn, rfl⟩ ?_
        refine ⟨_, [s₁.heap.objs.size, a], [s₁.heap.objs.size], fun i v => vs.toArray[i]? = some v, fun i h => h.IsListIter s₁.heap.objs.size a i ∧ h.IsList a vs.toArray, K₁, rfl, push _, fun A' hA => ?_, ?_, ?_, ?_, ?_, ?_, ?_⟩
        · have hsz : vs.toArray.size = ds.length := by simp [hlen]
          rw [← hsz]
          exact Walks.list hA s₁.heap.objs.size a hne vs.toArray
        · exact ⟨⟨_, Heap.get?_push_size _ rfl, rfl, rfl⟩, ⟨_, Heap.get?_push_of_some _ (x₁.kn _ _ g), rfl, nn, rfl⟩⟩
        · intro b hb; simp at hb; subst hb; exact ⟨n1, n2⟩
        · intro i h hW b hb; simp at hb; subst hb; exact ⟨_, hW.1.choose_spec.1⟩
        · intro b hb
          rcases List.mem_cons.mp hb with rfl | hb
          · exact .inl (by simp)
          · simp at hb; subst hb; exact .inr (by rw [g]; simp)
        · intro i v _ hv
          have hi : i < vs.length := by simpa using (Array.getElem?_eq_some_iff.mp hv).1
          obtain ⟨v', e1, r⟩ := rs.get (i := i) (d := ds[i]) (by simp [← hlen, hi])
          rw [show vs.toArray[i]? = vs[i]? by simp, e1] at hv
          cases hv
          exact ⟨_, by simp [← hlen, hi], r⟩
        · intro xs _ A' i T s Q E elts q p hW hQ
          exact wpAny_letOwnedTupleGo_listiter hW.1 hQ
      · cases h
    · split at h
      · cases h
        cases r₁ with | tup g rs =>
        rename_i vs a nn
        have hne : a ≠ s₁.heap.objs.size := Nat.ne_of_lt (Heap.lt_size (x₁.kn _ _ g))
        have hlen := rs.length
        refine wpAny_pyIter_tuple (items := vs.toArray) ⟨_, x₁.kn _ _ g, rfl, nn, rfl⟩ ?_
        refine ⟨_, [s₁.heap.objs.size, a], [s₁.heap.objs.size], fun i v => vs.toArray[i]? = some v, fun i h => h.IsTupleIter s₁.heap.objs.size a i ∧ h.IsTuple a vs.toArray, K₁, rfl, push _, fun A' hA => ?_, ?_, ?_, ?_, ?_, ?_, ?_⟩
        · have hsz : vs.toArray.size = ds.length := by simp [hlen]
          rw [← hsz]
          exact Walks.tuple hA s₁.heap.objs.size a hne vs.toArray
        · exact ⟨⟨_, Heap.get?_push_size _ rfl, rfl, rfl⟩, ⟨_, Heap.get?_push_of_some _ (x₁.kn _ _ g), rfl, nn, rfl⟩⟩
        · intro b hb; simp at hb; subst hb; exact ⟨n1, n2⟩
        · intro i h hW b hb; simp at hb; subst hb; exact ⟨_, hW.1.choose_spec.1⟩
        · intro b hb
          rcases List.mem_cons.mp hb with rfl | hb
          · exact .inl (by simp)
          · simp at hb; subst hb; exact .inr (by rw [g]; simp)
        · intro i v _ hv
          have hi : i < vs.length := by simpa using (Array.getElem?_eq_some_iff.mp hv).1
          obtain ⟨v', e1, r⟩ := rs.get (i := i) (d := ds[i]) (by simp [← hlen, hi])
          rw [show vs.toArray[i]? = vs[i]? by simp, e1] at hv
          cases hv
          exact ⟨_, by simp [← hlen, hi], r⟩
        · intro xs e; cases e
      · cases h
    · split at h
      · cases h
        cases r₁ with | str _ t =>
        rename_i z _
        have go : ∀ (tx : Nat) (o : Obj) (W : Nat → Heap → Prop), (∀ A' : Around, A'.handled = none → Walks prog w A' s₁.heap.objs.size [s₁.heap.objs.size] [s₁.heap.objs.size] z.cps.size (SignAt z) W) → W 0 (s₁.heap.push o) →
            (∀ i h, W i h → ∃ o, h.get? s₁.heap.objs.size = some o) → Itr prog w (.one tx) (z.cps.toList.map fun c => D.str ⟨#[c]⟩) K s (.ref s₁.heap.objs.size) { s₁ with heap := s₁.heap.push o } := by
          intro tx o W hW h0 hl
          refine ⟨_, [s₁.heap.objs.size], [s₁.heap.objs.size], SignAt z, W, K₁, rfl, push _, fun A' hA => ?_, h0, ?_, ?_, ?_, ?_, ?_⟩
          · have := hW A' hA
            simpa using this
          · intro b hb; simp at hb; subst hb; exact ⟨n1, n2⟩
          · intro i h hW b hb; simp at hb; subst hb; exact hl i h hW
          · intro b hb; exact .inl hb
          · rintro i v _ ⟨cp, u, hc, rfl⟩
            exact ⟨.str ⟨#[cp]⟩, by rw [List.getElem?_map]; simp [hc], .str _ _⟩
          · intro xs e; cases e
        cases ha : z.cps.all (· < 128)
        · exact wpAny_pyIter_wide ha (go _ _ _ (fun A' hA => Walks.strWide hA _ z t) ⟨_, Heap.get?_push_size _ rfl, rfl, rfl⟩ fun i h hW => ⟨_, hW.choose_spec.1⟩)
        · exact wpAny_pyIter_ascii ha (go _ _ _ (fun A' hA => Walks.strAscii hA _ z t) ⟨_, Heap.get?_push_size _ rfl, rfl, rfl⟩ fun i h hW => ⟨_, hW.choose_spec.1⟩)
      · cases h
  · cases h
theorem pi_range {e : ME} {x : Expr} {tg : MTg} (q p : Pos) (hs : c.sc.lookup ("range" : Str) = some .globalImplicit) (he : TrE P c e x) : PI prog w P n c tg (.range e) (.Call (.Name "range" q) [x] [] p) := fun σ env K s A E ds R X C k h => by
  simp only [evI] at h
  split at h
  · rename_i d hd
    unfold rangeOf at h
    split at h
    all_goals (first | (cases h; done) | skip)
    split at h
    · rename_i N hz; cases h
      obtain ⟨⟨mg, mb, hg, hb, hc, hbi, hr, _⟩, _, _⟩ := C.gb
      have hst := he.star [] env
      refine Call_ (Calls.Name_function_global X.kind (X.gi _ hs) (Calls.loadGlobal_builtin (by rw [X.glob]; exact hg) hr.1 (by rw [X.blt]; exact hb) hr.2 (PyProof.Rows.callWith_type1 ?_ hst rfl)))
      rw [hst]
      refine Calls.spliced_cons (wpAny_mono (ev_sound he σ env K s A E _ R C k hd) (fun v s₁ h₁ => Calls.spliced_nil ?_) fun _ _ e => e)
      obtain ⟨K₁, x₁, r₁⟩ := h₁
      cases r₁
      refine call_range_1 (wpAny_pyIter_range (IsRange.new ..) (small_one (by decide) (by decide) hz.1 hz.2) ?_)
      have hsz : Builtin.Range.rangeSize 0 N 1 = (N.toNat : Int) := by rw [rangeSize_one]; split <;> omega
      dsimp only
      generalize hH : s₁.heap.push { cls := Value.type "range", data := Data.fields #[Value.int 0 s₁.toks, Value.int N _, Value.int 1 (s₁.toks + 1)] } = H
      have hk1 : ∀ b o, s₁.heap.get? b = some o → H.get? b = some o := fun b o e => hH ▸ Heap.get?_push_of_some _ e
      have hsize : s₁.heap.objs.size ≤ H.objs.size := by rw [← hH, Heap.size_push]; exact Nat.le_succ _
      obtain ⟨n1, n2⟩ := x₁.none_new hsize
      refine ⟨_, [H.objs.size], [H.objs.size], fun i v => ∃ t, v = .int (0 + (i : Nat) * 1) t, fun i h => IsRangeIter h H.objs.size (0 + (i : Nat) * 1) ((N.toNat : Int) - (i : Nat)) 1, K₁, rfl, ?_, fun A' hA => ?_, ?_, ?_, ?_, ?_, ?_, ?_⟩
      · exact x₁.trans (Ext.heap x₁.kn fun b o e => Heap.get?_push_of_some _ (hk1 b o e))
      · have := Walks.range (prog := prog) (w := w) hA H.objs.size 0 1 N.toNat
        simpa using this
      · have e1 : (0 + ((0 : Nat) : Int) * 1) = 0 := by simp
        have e2 : ((N.toNat : Int) - ((0 : Nat) : Int)) = Builtin.Range.rangeSize 0 N 1 := by rw [hsz]; simp
        show IsRangeIter _ _ (0 + ((0 : Nat) : Int) * 1) ((N.toNat : Int) - ((0 : Nat) : Int)) 1
        rw [e1, e2]
        exact Heap.get?_push_size _ rfl
      · intro b hb; simp at hb; subst hb; exact ⟨n1, n2⟩
      · intro i h hW b hb; simp at hb; subst hb; exact ⟨_, hW⟩
      · intro b hb; exact .inl hb
      · rintro i v hi ⟨t, rfl⟩
        have hi : i < N.toNat := by simpa using hi
        refine ⟨.int i, by simp [hi], ?_⟩
        have : (0 + (i : Int) * 1) = i := by omega
        rw [this]
        exact .int _ _
      · intro xs e; cases e
    · cases h
  · cases h
theorem pi_sound {tg : MTg} {mi : MI} {ie : Expr} (h : TrI P c mi ie) : PI prog w P n c tg mi ie := by
  cases h with
  | val he hf => exact pi_val he
  | range q p hs he => exact pi_range q p hs he
theorem TrI.fold {mi : MI} {ie : Expr} (h : TrI P c mi ie) : ∀ env v, foldedSetIterable ie env v = pure v := by
  cases h with
  | val he hf => exact hf
  | range q p hs he => intro env v; rfl

/-- where a loop stands -/
inductive ForInv (prog : Program) (w : World) (P : Prg) (n : Nat) (c : Cx) (K₀ : KM) (s₀ : Shared) (env : Env) (U : KM) (wr : List Addr) (W : Nat → Heap → Prop) (K' : KM) (ds : List D) (F : List D → Sg → Option Out) (o : Out) (q : Nat) (s' : Shared) : Prop
  | mk (i : Nat) (σ' : Sg) (Ki : KM) (mi cmi : Str → Option Value) (owi : Nat → Addr) (l : Le K' Ki) (S : St prog w P n c K₀ s₀ env (Um U wr s'.heap) σ' Ki s' mi cmi owi) (hW : W i s'.heap) (hi : i ≤ ds.length) (hq : q = ds.length + 1 - i)
      (hF : F (ds.drop i) σ' = some o)
theorem st_forr {tg : MTg} {it : MI} {body : List MS} {tgt ie : Expr} {sb : List Stmt} {p : Pos} (ht : TrMTg c tg tgt) (hi : TrI P c it ie) (hb : PSs prog w P n c body sb) : PS prog w P n c (.forr tg it body) (.For tgt ie sb [] p) :=
  fun K₀ s₀ env U σ K s m cm ow A E o R X S h => by
  simp only [exS] at h
  split at h
  · rename_i ds hds
    refine wpAny_For (wpAny_mono (pi_sound hi σ env K s A E ds R X (S.cxt X) S.ext.kn hds) (fun xv s₁ h₁ => wpAny_mono h₁ (fun itv s₂ h₂ => ?_) fun _ _ e => e) fun _ _ e => e) (hi.fold env)
    obtain ⟨I, fp, wr, Pv, W, K', rfl, x₂, hW, h0, hwr, hlive, hfp, hPv, hgo⟩ := h₂
    have S₂ := S.step x₂
    have hU : ∀ b ∈ wr, U b = none := fun b hb => by
      cases e : U b with
      | none => rfl
      | some o => have := S.kU b o e; rw [(hwr b hb).1] at this; cases this
    have h0' : ∀ b ∈ wr, s₀.heap.get? b = none := fun b hb => by
      cases e : s₀.heap.get? b with
      | none => rfl
      | some o => have := Keeps.heap S.ext.keeps b o e; rw [(hwr b hb).1] at this; cases this
    have S₃ : St prog w P n c K₀ s₀ env (Um U wr s₂.heap) σ K' s₂ m cm ow := by
      refine S₂.protect (fun b hb => (hwr b hb).2) (fun hb => ?_) (fun y a ha hb => ?_) fun i d hi hb => ?_
      · obtain ⟨oo, _, _, e, _⟩ := S.ic.toInCall.ns
        rw [(hwr _ hb).1] at e; cases e
      · obtain ⟨oo, e, _⟩ := S.ic.cell y a ha
        rw [(hwr _ hb).1] at e; cases e
      · obtain ⟨_, _, _, _, oo, e⟩ := S.own i d hi
        rw [(hwr _ hb).1] at e; cases e
    refine codeAny_forLoopG (ForInv prog w P n c K₀ s₀ env U wr W K' ds (forF (setTg tg) (exL P body)) o) ?_ (ds.length + 1)
      ⟨0, σ, K', m, cm, ow, .refl _, S₃, h0, Nat.zero_le _, rfl, h⟩
    rintro k s' ⟨i, σ', Ki, mi, cmi, owi, lK, Si, hWi, hle, rfl, hF⟩
    cases hv : ds[i]? with
    | none =>
      have hge : ds.length ≤ i := by simpa using hv
      have : i = ds.length := Nat.le_antisymm hle hge
      subst this
      rw [List.drop_length] at hF
      cases hF
      refine (hW A R.handled).done s' _ _ hWi fun h' tk hk => ?_
      have St' := (Si.turn (t := tk) (hlive _ _ hWi) h0' hk).weak (Le.um hU)
      exact wpAny_execs_nil ⟨rfl, Ki, mi, cmi, owi, x₂.le.trans lK, St'⟩
    | some d =>
      have hlt : i < ds.length := (List.getElem?_eq_some_iff.mp hv).1
      rw [List.drop_eq_getElem_cons hlt, show ds[i] = d from (List.getElem?_eq_some_iff.mp hv).2] at hF
      refine (hW A R.handled).item i s' _ _ hlt hWi fun v h' tk hPi hW' hk => ?_
      obtain ⟨d', hd', rv⟩ := hPv i v hlt hPi
      rw [hv] at hd'; cases hd'
      have S₄ := Si.turn (t := tk) (hlive _ _ hWi) h0' hk
      have rv' : Rep prog w Ki d v := rv.mono lK
      unfold forF at hF
      split at hF
      · rename_i τ hτ
        have body' : ∀ s₅ m₅ cm₅, St prog w P n c K₀ s₀ env (Um U wr h') τ Ki s₅ m₅ cm₅ owi → wpAny (model prog w) A (execs sb env) (fun f s₃ => match f with
            | .next | .cont => ∃ q, q < ds.length + 1 - i ∧ ForInv prog w P n c K₀ s₀ env U wr W K' ds (forF (setTg tg) (exL P body)) o q s₃
            | .brk => Fini prog w P n c K₀ s₀ env U K o .next s₃
            | .ret v => Fini prog w P n c K₀ s₀ env U K o (.ret v) s₃) (notedBy (model prog w) A env fun e s' => cameBackBy (model prog w) A env E e s') s₅ := by
          intro s₅ m₅ cm₅ S₅
          split at hF
          · rename_i σ'' hσ
            refine wpAny_mono (hb K₀ s₀ env _ τ Ki s₅ m₅ cm₅ owi A _ _ R X S₅ hσ) (fun f s₆ h₆ => ?_) fun _ _ e => e
            obtain ⟨rfl, K₆, m₆, cm₆, ow₆, l₆, S₆⟩ := h₆
            have hUm : Um U wr h' = Um U wr s₆.heap := by
              funext b
              unfold Um
              split
              · rename_i hbw
                obtain ⟨ob, hob⟩ := hlive _ _ hW' b hbw
                rw [hob]
                exact (S₆.kU b ob (by unfold Um; rw [if_pos hbw]; exact hob)).symm
              · rfl
            have hWn : W (i + 1) s₆.heap := (hW A R.handled).frame _ _ _ hW' fun b hbf oo e => by
              rcases hfp b hbf with hbw | hbK
              · exact S₆.kU b oo (by unfold Um; rw [if_pos hbw]; exact e)
              · cases hKb : K' b with
                | none => exact absurd hKb hbK
                | some o₁ =>
                  have e1 := S₄.ext.kn b o₁ (lK _ _ hKb)
                  have e1 : h'.get? b = some o₁ := e1
                  rw [e1] at e; cases e
                  exact S₆.ext.kn b _ (l₆ _ _ (lK _ _ hKb))
            exact ⟨ds.length + 1 - (i + 1), by omega, ⟨i + 1, σ'', K₆, m₆, cm₆, ow₆, lK.trans l₆, hUm ▸ S₆, hWn, hlt, rfl, hF⟩⟩
          · rename_i r hr; cases hF
            refine wpAny_mono (hb K₀ s₀ env _ τ Ki s₅ m₅ cm₅ owi A _ _ R X S₅ hr) (fun f s₆ h₆ => ?_) fun _ _ e => e
            obtain ⟨v, rfl, r⟩ := h₆
            exact ⟨v, rfl, r⟩
          · cases hF
        cases ht with
        | one p hx =>
          cases hτ
          exact wpAny_pure (wpAny_assign_Name (S₄.put X hx rv' fun s₅ m₅ cm₅ S₅ => body' s₅ m₅ cm₅ S₅))
        | tup q p hxs =>
          cases d <;> simp only [setTg] at hτ <;> try (cases hτ; done)
          split at hτ
          · rename_i hlen; cases hτ
            have hT : ∃ T, v = .ref T := by cases rv' with | tup g rs => exact ⟨_, rfl⟩
            obtain ⟨T, rfl⟩ := hT
            exact hgo _ rfl A i T _ _ _ _ _ _ hW' (S₄.putTuple X R.handled hxs rv' hlen fun s₅ m₅ cm₅ S₅ => body' s₅ m₅ cm₅ S₅)
          · cases hτ
      · cases hF
  · cases h

theorem st_whl {k : Nat} {t : MT} {body : List MS} {te : Expr} {sb : List Stmt} {p : Pos} (ht : TrT P c t te) (hb : PSs prog w P n c body sb) : PS prog w P n c (.whl k t body) (.While te sb [] p) :=
  fun K₀ s₀ env U σ K s m cm ow A E o R X S h => by
  simp only [exS] at h
  refine wpAny_While (codeAny_whileLoop (fun j s' => ∃ σ' Ki mi cmi owi, Le K Ki ∧ St prog w P n c K₀ s₀ env U σ' Ki s' mi cmi owi ∧ whileF (evT P t) (exL P body) j σ' = some o) ?_ k ⟨σ, K, m, cm, ow, .refl K, S, h⟩)
  rintro j s' ⟨σ', Ki, mi, cmi, owi, lK, Si, hF⟩
  cases j with
  | zero => cases hF
  | succ j =>
    simp only [whileF] at hF
    split at hF
    · rename_i hq
      refine wpAny_mono (evT_sound ht σ' env Ki s' A _ true R (Si.cxt X) Si.ext.kn hq) (fun r s₁ h₁ => ?_) fun _ _ e => e
      obtain ⟨rfl, K₁, x₁⟩ := h₁
      have S₁ := Si.step x₁
      simp only [if_true]
      split at hF
      · rename_i σ'' hσ
        refine wpAny_mono (hb K₀ s₀ env U σ' K₁ s₁ mi cmi owi A _ _ R X S₁ hσ) (fun f s₆ h₆ => ?_) fun _ _ e => e
        obtain ⟨rfl, K₆, m₆, cm₆, ow₆, l₆, S₆⟩ := h₆
        exact ⟨j, Nat.lt_succ_self j, σ'', K₆, m₆, cm₆, ow₆, (lK.trans x₁.le).trans l₆, S₆, hF⟩
      · rename_i r hr; cases hF
        refine wpAny_mono (hb K₀ s₀ env U σ' K₁ s₁ mi cmi owi A _ _ R X S₁ hr) (fun f s₆ h₆ => ?_) fun _ _ e => e
        obtain ⟨v, rfl, r⟩ := h₆
        exact ⟨v, rfl, r⟩
      · cases hF
    · rename_i hq; cases hF
      refine wpAny_mono (evT_sound ht σ' env Ki s' A _ false R (Si.cxt X) Si.ext.kn hq) (fun r s₁ h₁ => ?_) fun _ _ e => e
      obtain ⟨rfl, K₁, x₁⟩ := h₁
      simp only [Bool.false_eq_true, if_false]
      exact wpAny_execs_nil ⟨rfl, K₁, mi, cmi, owi, lK.trans x₁.le, Si.step x₁⟩
    · cases hF

theorem st_setc {x : Nat} {y : Str} {elt : ME} {tg : Tg} {it : ME} {ifs : List MT} {free : List Nat} {tn fnm : List Str} {et ei tgt : Expr} {eifs : List Expr} {scope : Scope} {lp p' p : Pos}
    (hx : c.nm[x]? = some y) (hyl : c.sc.lookup y = some .local) (hline : (p'.line == lp.line) = true) (hnot : (scope.names.any fun z => z.1 == y && (z.2 == .local || z.2 == .cell)) = false)
    (T : TrTg tg tn tgt) (hit : TrE P c it ei) (hfs : ∀ env x, foldedSetIterable ei env x = pure x) (hifs : TrTs P ⟨scope.names, tn ++ fnm⟩ ifs eifs) (helt : TrE P ⟨scope.names, tn ++ fnm⟩ elt et)
    (hkind : scope.kind = .function) (hnames : ∀ y ∈ scope.names, y.2 = .local → scope.names.lookup y.1 = some .local) (hcell : ∀ y ∈ scope.names, y.2 ≠ .cell) (hloc : ∀ x ∈ tn, scope.names.lookup x = some .local) (nd : tn.Nodup)
    (hfn : ∀ y ∈ scope.names, y.2 = .free → y.1 ∈ fnm)
    (hfree : All2 (fun i x => c.nm[i]? = some x ∧ scope.names.lookup x = some .free ∧ c.sc.lookup x = some .cell) free fnm) :
    PS prog w P n c (.setc x elt tg it ifs free) (.Assign [.Name y p'] (.ListComp et [⟨tgt, ei, eifs, 0⟩] scope lp) p) :=
  fun K₀ s₀ env U σ K s m cm ow A E o R X S h => by
  simp only [exS] at h
  split at h
  · rename_i d hd; cases h
    simp only [ev] at hd
    split at hd
    · rename_i ds hds
      split at hd
      · rename_i hz
        split at hd
        · rename_i rs hrs; cases hd
          have hsw : swapsWith (.ListComp et [⟨tgt, ei, eifs, 0⟩] scope lp) (some (.Name y p')) p.line env = pure true := by
            show (pure (env.blockKind == .function && env.kindOf y == some .local && p'.line == lp.line && !(scope.names.any fun z => z.1 == y && (z.2 == .local || z.2 == .cell))) : Sem Bool) = pure true
            rw [blockKind_fn X.kind, X.lo y hyl, hline, hnot]; rfl
          rw [exec_Assign_Name_used _ _ _ _ hsw]
          obtain ⟨cl, hclos, hcl⟩ := closure_at (S.cxt X) hfn hfree
          have core : wpAny (model prog w) A (comprehension (.ListComp et [⟨tgt, ei, eifs, 0⟩] scope lp) scope env (firstIterPos [⟨tgt, ei, eifs, 0⟩] lp) (newList []) false (eval ei env) (some (assign (.Name y p') env)))
              (fun _ s' => Fini prog w P n c K₀ s₀ env U K (.next (σ.set x (some (.val (.list rs))))) .next s') E s := by
            refine wpAny_comprehension_free (use := some (assign (.Name y p') env)) rfl (hfs env) hclos hkind hnames (wpAny_mono (ev_sound hit σ env K s A E _ R (S.cxt X) S.ext.kn hds) (fun xv s₁ h₁ => ?_) fun _ _ e => e)
            obtain ⟨K₁, x₁, r₁⟩ := h₁
            have S₁ := S.step x₁
            refine comp_core R (S₁.cxt X) x₁.kn r₁ hz T (evTs_sound hifs).2.2 (ev_sound helt) hkind hcell hloc nd hfree hcl hrs fun Da C s' K' m' x' zC hC hDC r' hn hD => ?_
            have S₂ := S₁.step x'
            have S₃ : St prog w P n c K₀ s₀ env (Um U [C] s'.heap) σ K' s' m cm ow := by
              refine S₂.protect (fun b hb => ?_) (fun hb => ?_) (fun z a ha hb => ?_) fun i d hi hb => ?_
              · simp at hb; subst hb; exact zC
              · simp at hb
                obtain ⟨oo, _, _, e, _⟩ := S₁.ic.toInCall.ns
                rw [hb, hC] at e; cases e
              · simp at hb
                obtain ⟨oo, e, _⟩ := S₁.ic.cell z a ha
                rw [hb, hC] at e; cases e
              · simp at hb
                obtain ⟨_, _, _, _, oo, e⟩ := S₁.own i d hi
                rw [hb, hC] at e; cases e
            refine wpAny_assign_Name (S₃.put X hx r' fun s₄ m₄ cm₄ S₄ => ?_)
            have keepC : ∀ o, s'.heap.get? C = some o → s₄.heap.get? C = some o := fun o e => S₄.kU C o (by unfold Um; rw [if_pos (by simp)]; exact e)
            refine ⟨m', hn.at' keepC, fun h' hs' => ?_⟩
            obtain ⟨oc, hoc⟩ : ∃ o, s'.heap.get? C = some o := ⟨_, hn.choose_spec.choose_spec.choose_spec.1⟩
            have hUm : Um U [C] s'.heap = Um U [C] s₄.heap := by
              funext b
              unfold Um
              split
              · rename_i hb; simp at hb; subst hb; rw [hoc, keepC _ hoc]
              · rfl
            have C0 : s₀.heap.get? C = none := by
              cases e : s₀.heap.get? C with
              | none => rfl
              | some o => have := Keeps.heap S₁.ext.keeps _ _ e; rw [hC] at this; cases this
            have UC : U C = none := by
              cases e : U C with
              | none => rfl
              | some o => have := S₁.kU C o e; rw [hC] at this; cases this
            have S₅ := ((hUm ▸ S₄ : St prog w P n c K₀ s₀ env (Um U [C] s₄.heap) _ K' s₄ m₄ cm₄ ow).turn (h' := h') (t := s₄.toks) (fun b hb => by simp at hb; subst hb; exact ⟨oc, keepC _ hoc⟩) (fun b hb => by simp at hb; subst hb; exact C0)
              (fun b o hb e => hs'.extBut b o (fun q => hb (by simp [q])) e)).weak (Le.um (wr := [C]) fun b hb => by simp at hb; subst hb; exact UC)
            exact ⟨rfl, K', m₄, cm₄, ow, x₁.le.trans x'.le, S₅⟩
          refine wpAny_bind (wpAny_standAt (wpAny_bind ?_))
          show wpAny _ _ (do let _ ← comprehension (.ListComp et [⟨tgt, ei, eifs, 0⟩] scope lp) scope env (firstIterPos [⟨tgt, ei, eifs, 0⟩] lp) (newList []) (firstAsync [⟨tgt, ei, eifs, 0⟩]) (firstIter [⟨tgt, ei, eifs, 0⟩] env) (some (assign (.Name y p') env))) _ _ _
          exact wpAny_bind (wpAny_mono core (fun _ s' hf => wpAny_pure (wpAny_pure hf)) fun _ _ e => e)
        · cases hd
      · cases hd
    · cases hd
  · cases h

mutual
theorem ex_sound : ∀ {c : Cx} {ms : MS} {st : Stmt}, TrS P c ms st → PS prog w P n c ms st
  | _, _, _, .set h1 h2 h3 => st_set h1 h2 h3
  | _, _, _, .setc h1 h2 h3 h4 h5 h6 h7 h8 h9 h10 h11 h12 h13 h14 h15 h16 => st_setc h1 h2 h3 h4 h5 h6 h7 h8 h9 h10 h11 h12 h13 h14 h15 h16
  | _, _, _, .newl h => st_newl h
  | _, _, _, .newd h => st_newd h
  | _, _, _, .news h1 h2 => st_news h1 h2
  | _, _, _, .aug h1 h2 => st_aug h1 h2
  | _, _, _, .unp h1 h2 h3 h4 => st_unp h1 h2 h3 h4
  | _, _, _, .swap h1 h2 h3 h4 h5 h6 h7 => st_swap h1 h2 h3 h4 h5 h6 h7
  | _, _, _, .app h1 h2 h3 h4 => st_app h1 h2 h3 h4
  | _, _, _, .adds h1 h2 h3 h4 => st_adds h1 h2 h3 h4
  | _, _, _, .putd h1 h2 h3 h4 h5 => st_putd h1 h2 h3 h4 h5
  | _, _, _, .ite h1 h2 h3 => st_ite h1 (exs_sound h2) (exs_sound h3)
  | _, _, _, .forr h1 h2 h3 => st_forr h1 h2 (exs_sound h3)
  | _, _, _, .whl h1 h2 => st_whl h1 (exs_sound h2)
  | _, _, _, .ret h => st_ret h
theorem exs_sound : ∀ {c : Cx} {ms : List MS} {ss : List Stmt}, TrSs P c ms ss → PSs prog w P n c ms ss
  | _, _, _, .nil => ss_nil
  | _, _, _, .cons h hs => ss_cons (ex_sound h) (exs_sound hs)
  | _, _, _, .freeze hx hs => ss_freeze hx (exs_sound hs)
end
end
end Mine

namespace Mine
/-! M14: a call of a function of the program -/
noncomputable def start (c : Cx) (ds : List D) : Sg := (ds.map fun d => some (.val d)) ++ List.replicate (c.nm.length - ds.length) none
theorem Room.deeper {n : Nat} {A : Around} (R : Room (n + 1) A) (env : Env) : Room n (A.deeper env) where
  handled := R.handled
  depth := by have := R.depth; show A.depth + 1 + n < _; omega
  units := by have := R.units; show A.units + 3 + 100 + 10 * n < _; omega
theorem Room.less {n : Nat} {A : Around} (R : Room (n + 1) A) : Room n A where
  handled := R.handled
  depth := by have := R.depth; omega
  units := by have := R.units; omega
theorem bindL_get {kindOf : Str → Option NameKind} : ∀ {xs : List Str} {vs : List Value}, xs.length = vs.length → xs.Nodup → ∀ {i : Nat} {x : Str} {v : Value}, xs[i]? = some x → vs[i]? = some v → kindOf x = some .local → ∀ m, bindL kindOf (xs.zip vs) m x = some v
  | [], _, _, _, i, x, v, h, _, _, m => by simp at h
  | _ :: _, [], h, _, _, _, _, _, _, _, _ => by simp at h
  | y :: ys, u :: us, hl, nd, 0, x, v, h, h', hk, m => by
    simp at h h'; subst h; subst h'
    have hnd := List.nodup_cons.mp nd
    have other : ∀ (zs : List Str) (ws : List Value) (m : Str → Option Value), y ∉ zs → bindL kindOf (zs.zip ws) m y = m y := by
      intro zs
      induction zs with
      | nil => intro ws m _; rfl
      | cons z zs ih =>
        intro ws m hz
        cases ws with
        | nil => rfl
        | cons w' ws =>
          simp only [List.mem_cons, not_or] at hz
          simp only [List.zip_cons_cons, bindL]
          rw [ih ws _ hz.2]
          split
          · simp [hz.1]
          · rfl
    simp only [List.zip_cons_cons, bindL]
    rw [other _ _ _ hnd.1, if_pos hk]; simp
  | y :: ys, u :: us, hl, nd, i + 1, x, v, h, h', hk, m => by
    simp at h h'
    simp only [List.zip_cons_cons, bindL]
    exact bindL_get (by simpa using hl) (List.nodup_cons.mp nd).2 h h' hk _
theorem bindC_get {kindOf : Str → Option NameKind} : ∀ {xs : List Str} {vs : List Value}, xs.length = vs.length → xs.Nodup → ∀ {i : Nat} {x : Str} {v : Value}, xs[i]? = some x → vs[i]? = some v → kindOf x ≠ some .local → ∀ m, bindC kindOf (xs.zip vs) m x = some v
  | [], _, _, _, i, x, v, h, _, _, m => by simp at h
  | _ :: _, [], h, _, _, _, _, _, _, _, _ => by simp at h
  | y :: ys, u :: us, hl, nd, 0, x, v, h, h', hk, m => by
    simp at h h'; subst h; subst h'
    have hnd := List.nodup_cons.mp nd
    have other : ∀ (zs : List Str) (ws : List Value) (m : Str → Option Value), y ∉ zs → bindC kindOf (zs.zip ws) m y = m y := by
      intro zs
      induction zs with
      | nil => intro ws m _; rfl
      | cons z zs ih =>
        intro ws m hz
        cases ws with
        | nil => rfl
        | cons w' ws =>
          simp only [List.mem_cons, not_or] at hz
          simp only [List.zip_cons_cons, bindC]
          rw [ih ws _ hz.2]
          split
          · rfl
          · simp [hz.1]
    simp only [List.zip_cons_cons, bindC]
    rw [other _ _ _ hnd.1, if_neg hk]; simp
  | y :: ys, u :: us, hl, nd, i + 1, x, v, h, h', hk, m => by
    simp at h h'
    simp only [List.zip_cons_cons, bindC]
    exact bindC_get (by simpa using hl) (List.nodup_cons.mp nd).2 h h' hk _
theorem cellsFrom_has : ∀ (names : List (Str × NameKind)) (k : Nat) (acc : List (Str × Addr)) (x : Str), ((x, NameKind.cell) ∈ names ∨ (acc.lookup x).isSome = true) → ((cellsFrom k names acc).lookup x).isSome = true
  | [], k, acc, x, h => by
    rcases h with h | h
    · cases h
    · exact h
  | (y, kd) :: r, k, acc, x, h => by
    unfold cellsFrom
    have look : ∀ (z : Str) (q : Addr), (acc.lookup x).isSome = true → (((z, q) :: acc).lookup x).isSome = true := fun z q h => by
      rw [List.lookup_cons]
      split
      · rfl
      · exact h
    split
    · rename_i hk
      refine cellsFrom_has r _ _ x ?_
      rcases h with h | h
      · rcases List.mem_cons.mp h with e | h
        · cases e; exact .inr (by simp [List.lookup_cons])
        · exact .inl h
      · exact .inr (look _ _ h)
    · rename_i hk
      refine cellsFrom_has r _ _ x ?_
      rcases h with h | h
      · rcases List.mem_cons.mp h with e | h
        · cases e; exact absurd rfl hk
        · exact .inl h
      · exact .inr h

section
variable {prog : Program} {w : World}
structure FnOk (c : Cx) (fd : FuncData) (body : List Stmt) (params : List Str) (h : Heap) : Prop where
  body : fd.body = .stmts body
  names : fd.scope.names = c.sc
  kind : fd.scope.kind = .function
  co : fd.scope.isCoroutine = false
  gen : fd.scope.isGenerator = false
  clo : fd.closure = []
  glob : fd.globals = mainGlobals
  blt : fd.builtins = builtinsNs
  code : h.CodeRec fd.code fd.qualname
  pre : ∃ rest, c.nm = params ++ rest
  nd : c.nm.Nodup
  nm : ∀ x ∈ c.nm, c.sc.lookup x = some .local ∨ c.sc.lookup x = some .cell
  bind : ∀ vals : List Value, vals.length = params.length → bindArgs fd ⟨vals, []⟩ = pure (params.zip vals)

theorem coderec_keeps {h h' : Heap} {v : Value} {q : Str} (x : h.CodeRec v q) (k : ∀ b o, h.get? b = some o → h'.get? b = some o) : h'.CodeRec v q := by
  obtain ⟨c₂, o₂, vs₂, t₂, e₂, g₂, r₂⟩ := x
  exact ⟨c₂, o₂, vs₂, t₂, e₂, k _ _ g₂, r₂⟩

theorem fn_sound {P : Prg} {n : Nat} {c : Cx} {ms : List MS} {body : List Stmt} (T : TrSs P c ms body) {fd : FuncData} {a : Addr} {o : Obj} {params : List Str} {h : Heap} {KB : KM}
    (F : FnOk c fd body params h) (ho : h.get? a = some o) (hd : o.data = .func fd) (gb : GB prog w P n KB h) {ds : List D} {r : D} (hlen : ds.length = params.length) (hex : exL P ms (start c ds) = some (.ret r)) :
    ∀ (A : Around) (s : Shared) (vs : List Value) (K : KM), (∀ b o, h.get? b = some o → s.heap.get? b = some o) → Le KB K → Kn K s.heap → Room (n + 1) A → Reps prog w K ds vs →
    wpAny (model prog w) A (call (.ref a) vs) (Good prog w K s r) (fun _ _ => False) s := by
  intro A s vs K hk hKB k R rs
  have gb' : GB prog w P n K s.heap := gb.mono hKB hk
  obtain ⟨rest, hrest⟩ := F.pre
  have hvl : vs.length = params.length := by rw [rs.length, hlen]
  have hz : ∀ x ∈ params.zip vs, x.1 ∈ c.nm := fun x hx => by
    rw [hrest]; exact List.mem_append_left _ (List.of_mem_zip hx).1
  refine wpAny_call (codeAny_call_cells (by have := R.depth; omega) (hk _ _ ho) hd gb'.noLimit (coderec_keeps F.code hk) F.body (F.bind vs hvl) F.clo (fun x hx => ?_) (fun s₁ ic => ?_) F.co F.gen F.kind)
  · rw [F.names]
    refine (F.nm _ (hz x hx)).imp id fun e => ⟨e, cellsFrom_has _ _ _ _ (.inl (mem_of_lookup e))⟩
  generalize hL : s.heap.objs.size = L at ic ⊢
  have kL : ∀ b, L ≤ b → K b = none := fun b hb => k.none_size (by rw [hL]; exact hb)
  have eL : (callEnvC fd L a).locals = L := rfl
  have X : EnvOk c (callEnvC fd L a) := by
    refine ⟨F.kind, F.glob, F.blt, fun x e => ?_, fun x e => ⟨?_, ?_⟩, fun x e => ?_, F.nm, F.nd⟩
    · show fd.scope.names.lookup x = _; rw [F.names]; exact e
    · show fd.scope.names.lookup x = _; rw [F.names]; exact e
    · show ∃ a, (cellsFrom (L + 1) fd.scope.names []).lookup x = some a
      rw [F.names]
      exact Option.isSome_iff_exists.mp (cellsFrom_has _ _ _ _ (.inl (mem_of_lookup e)))
    · show fd.scope.names.lookup x = _; rw [F.names]; exact e
  have S : St prog w P n c K s (callEnvC fd L a) (fun _ => none) (start c ds) K s₁ (bindL (callEnvC fd L a).kindOf (params.zip vs) fun x => none) (bindC (callEnvC fd L a).kindOf (params.zip vs) fun x => none) (fun _ => 0) := by
    obtain ⟨h₁, tk, e₁, k₁⟩ := ic.done
    have kp : Keeps s s₁ := ⟨h₁, tk, e₁, k₁⟩
    refine ⟨gb', ic, ⟨.refl K, k.keeps (Keeps.heap kp), kp, fun b h0 h1 => absurd h0 h1⟩, kL _ (Nat.le_refl _), fun x b hb => kL b (Nat.le_of_lt (ic.above x b (PySem.mem_of_lookup hb))), (fun b o e => by cases e), (fun b o e => by cases e), rfl, fun _ _ _ => rfl, ?_, ?_, ?_, ?_⟩
    · have : ds.length ≤ c.nm.length := by rw [hrest, hlen]; simp
      simp [start]; omega
    · intro i x sl hx hs
      unfold start at hs
      by_cases hi : i < ds.length
      · rw [List.getElem?_append_left (by simpa using hi), List.getElem?_map] at hs
        have hd' : ds[i]? = some ds[i] := by simp [hi]
        rw [hd'] at hs
        simp at hs
        subst hs
        obtain ⟨v, hv, r⟩ := rs.get hd'
        have hxp : params[i]? = some x := by
          rw [hrest, List.getElem?_append_left (by omega)] at hx; exact hx
        have ndp : params.Nodup := by
          have := F.nd; rw [hrest] at this; exact (List.nodup_append.mp this).1
        refine ⟨v, ?_, r, fun d e => nomatch e⟩
        rcases X.isLocal (List.mem_of_getElem? hx) with ⟨_, hl⟩ | ⟨_, hl, _⟩
        · rw [if_neg (by rw [hl]; decide)]
          exact bindL_get hvl.symm ndp hxp hv hl _
        · rw [if_pos hl]
          exact bindC_get hvl.symm ndp hxp hv (by rw [hl]; decide) _
      · rw [List.getElem?_append_right (by simpa using hi)] at hs
        rw [List.getElem?_replicate] at hs
        split at hs <;> cases hs
    · intro i d hs
      unfold start at hs
      by_cases hi : i < ds.length
      · rw [List.getElem?_append_left (by simpa using hi), List.getElem?_map] at hs
        have hd' : ds[i]? = some ds[i] := by simp [hi]
        rw [hd'] at hs
        simp at hs
      · rw [List.getElem?_append_right (by simpa using hi), List.getElem?_replicate] at hs
        split at hs <;> cases hs
    · intro i j d e _ hs _
      unfold start at hs
      by_cases hi : i < ds.length
      · rw [List.getElem?_append_left (by simpa using hi), List.getElem?_map] at hs
        have hd' : ds[i]? = some ds[i] := by simp [hi]
        rw [hd'] at hs
        simp at hs
      · rw [List.getElem?_append_right (by simpa using hi), List.getElem?_replicate] at hs
        split at hs <;> cases hs
  refine wpAny_mono (exs_sound T K s (callEnvC fd L a) _ (start c ds) K s₁ _ _ _ _ (fun _ _ => False) _ (R.deeper _) X S hex) (fun f s₂ hf => ?_) fun _ _ e => e.elim
  obtain ⟨v, rfl, K', x, r'⟩ := hf
  exact ⟨K', x, r'⟩
end
end Mine

namespace Mine
/-! M15: the parts of the text -/
noncomputable def topBody : List Stmt := PySem.Challenge.pw_re0172_01.main.body
noncomputable def bodyOf : Option Stmt → List Stmt
  | some (.FunctionDef _ _ body _ _ _ _ _ _ _) => body
  | _ => []
noncomputable def scopeOf : Option Stmt → List (Str × NameKind)
  | some (.FunctionDef _ _ _ _ _ _ scope _ _ _) => scope.names
  | _ => []
noncomputable def bodyAt (i : Nat) : List Stmt := bodyOf topBody[i]?
noncomputable def scopeAt (i : Nat) : List (Str × NameKind) := scopeOf topBody[i]?
noncomputable def intKey : Option Expr → Option Int
  | some (.Constant (.int i) _ _) => some i
  | _ => none
noncomputable def strVal : Expr → Option Str
  | .Constant (.str x) _ _ => some x
  | _ => none
noncomputable def isPairs : List (Option Expr) → List Expr → List (Int × Str)
  | [], _ => []
  | k :: ks, vs => match vs with
    | [] => []
    | v :: vs => match intKey k with
      | some i => (match strVal v with | some x => (i, x) :: isPairs ks vs | none => [])
      | none => []
noncomputable def dictOf : Option Stmt → List (Int × Str)
  | some (.Assign _ (.Dict ks vs _) _) => isPairs ks vs
  | _ => []
noncomputable def b3 : List (Int × Str) := dictOf topBody[8]?
noncomputable def b1 : List Int := [173, 847, 6150, 6155, 6156, 6157, 8203, 8204, 8205, 8288, 65279, 65024, 65025, 65026, 65027, 65028, 65029, 65030, 65031, 65032, 65033, 65034, 65035, 65036, 65037, 65038, 65039]
noncomputable def c6 : List Int := [65529, 65530, 65531, 65532, 65533]
noncomputable def exact : List (Str × Int) := [(("!" : Str), 54), (("!=" : Str), 28), (("%" : Str), 24), (("%=" : Str), 40), (("&" : Str), 19), (("&=" : Str), 41), (("(" : Str), 7), ((")" : Str), 8), (("*" : Str), 16), (("**" : Str), 35), (("**=" : Str), 46), (("*=" : Str), 38), (("+" : Str), 14), (("+=" : Str), 36), (("," : Str), 12), (("-" : Str), 15), (("-=" : Str), 37), (("->" : Str), 51), (("." : Str), 23), (("..." : Str), 52), (("/" : Str), 17), (("//" : Str), 47), (("//=" : Str), 48), (("/=" : Str), 39), ((":" : Str), 11), ((":=" : Str), 53), ((";" : Str), 13), (("<" : Str), 20), (("<<" : Str), 33), (("<<=" : Str), 44), (("<=" : Str), 29), (("=" : Str), 22), (("==" : Str), 27), ((">" : Str), 21), ((">=" : Str), 30), ((">>" : Str), 34), ((">>=" : Str), 45), (("@" : Str), 49), (("@=" : Str), 50), (("[" : Str), 9), (("]" : Str), 10), (("^" : Str), 32), (("^=" : Str), 43), (("{" : Str), 25), (("|" : Str), 18), (("|=" : Str), 42), (("}" : Str), 26), (("~" : Str), 31)]
noncomputable def gcs : List (Str × D) := [(("b1_set" : Str), .set b1), (("b3_exceptions" : Str), .dIS b3), (("c6_set" : Str), .set c6), (("ENDMARKER" : Str), .int 0), (("NT_OFFSET" : Str), .int 256), (("EXACT_TOKEN_TYPES" : Str), .dSI exact)]
theorem pos_Name (y : Str) (p : Pos) : (Expr.Name y p).pos = p := rfl
theorem pos_Tuple (es : List Expr) (q : Nat) (p : Pos) : (Expr.Tuple es q p).pos = p := rfl
theorem swap_ok (env : Env) {y1 y2 : Str} {p1 p2 tp vp : Pos} {q q' : Nat} {ea eb : Expr} (h1 : env.blockKind = .function) (h2 : env.kindOf y1 = some .local) (h3 : env.kindOf y2 = some .local) (hl : (p1.line == p1.line && p2.line == p1.line) = true) (hd : ([y1, y2].eraseDups.length == 2) = true)
    (hn : ([ea, eb].any (fun | .Starred .. => true | _ => false), [ea, eb].all (foldedForSure 8), [ea, eb].all (constantsAlone 8)) = (false, false, false)) :
    swappedStores [.Tuple [.Name y1 p1, .Name y2 p2] q tp] (.Tuple [ea, eb] q' vp) env = pure (some [y1, y2]) := by
  have hn1 := congrArg (·.1) hn
  have hn2 := congrArg (·.2.1) hn
  have hn3 := congrArg (·.2.2) hn
  simp only at hn1 hn2 hn3
  have hl' : (p2.line == p1.line) = true := by simpa using hl
  have hd' : [y1, y2].eraseDups.length = 2 := by simpa using hd
  unfold swappedStores
  simp only [h1, h2, h3, pos_Name, pos_Tuple, List.length_cons, List.length_nil, List.head?_cons, Option.map_some, Option.getD_some, List.filterMap_cons, List.filterMap_nil, hl', hd', hn1, hn2, hn3, bne_self_eq_false, beq_self_eq_true, Bool.and_self, Bool.true_and, if_true, Bool.false_eq_true, if_false, Bool.or_false, Bool.or_self, Bool.not_true, pure_bind]
  simp at hn1 ⊢
  intro h
  rcases h with h | h
  · exact absurd (h.symm.trans hn1.1) (by decide)
  · exact absurd (h.symm.trans hn1.2) (by decide)
end Mine

namespace Mine
/-! M16: the program's functions in the small language (printed by gen.py) -/
noncomputable def fnNames : List Str := [("rgb_to_yiq" : Str), ("yiq_to_rgb" : Str), ("rgb_to_hsv" : Str), ("hsv_to_rgb" : Str), ("in_table_b1" : Str), ("map_table_b3" : Str), ("in_table_c6" : Str), ("ISNONTERMINAL" : Str), ("ISEOF" : Str), ("_law_drawn" : Str), ("_law_typed" : Str), ("_law_symbols" : Str), ("_law_statements" : Str), ("_law_sent" : Str), ("_law_due" : Str), ("_law_seen" : Str), ("_law_holds" : Str), ("_law_paintings" : Str), ("_law_heads" : Str), ("_law_ways" : Str), ("law" : Str)]
/-- rgb_to_yiq: 0=r 1=g 2=b 3=y 4=i 5=q -/
noncomputable def f0 : List MS := [.set 3 (.bin .Add (.bin .Add (.bin .Mult (.flt 0x3fd3333333333333) (.var 0)) (.bin .Mult (.flt 0x3fe2e147ae147ae1) (.var 1))) (.bin .Mult (.flt 0x3fbc28f5c28f5c29) (.var 2))), .set 4 (.bin .Sub (.bin .Mult (.flt 0x3fe7ae147ae147ae) (.bin .Sub (.var 0) (.var 3))) (.bin .Mult (.flt 0x3fd147ae147ae148) (.bin .Sub (.var 2) (.var 3)))), .set 5 (.bin .Add (.bin .Mult (.flt 0x3fdeb851eb851eb8) (.bin .Sub (.var 0) (.var 3))) (.bin .Mult (.flt 0x3fda3d70a3d70a3d) (.bin .Sub (.var 2) (.var 3)))), .ret (.tup [.var 3, .var 4, .var 5])]
noncomputable def cf0 : Cx := ⟨scopeAt 1, [("r" : Str), ("g" : Str), ("b" : Str), ("y" : Str), ("i" : Str), ("q" : Str)]⟩
theorem tr_f0 (orc : Nat → List D → Option D) : TrSs ⟨gcs, fnNames, orc⟩ cf0 f0 (bodyAt 1) := .cons (.set rfl (.bin (.bin (.bin (.flt _ _ _) (.var _ rfl rfl)) (.bin (.flt _ _ _) (.var _ rfl rfl))) (.bin (.flt _ _ _) (.var _ rfl rfl))) rfl) (.cons (.set rfl (.bin (.bin (.flt _ _ _) (.bin (.var _ rfl rfl) (.var _ rfl rfl))) (.bin (.flt _ _ _) (.bin (.var _ rfl rfl) (.var _ rfl rfl)))) rfl) (.cons (.set rfl (.bin (.bin (.flt _ _ _) (.bin (.var _ rfl rfl) (.var _ rfl rfl))) (.bin (.flt _ _ _) (.bin (.var _ rfl rfl) (.var _ rfl rfl)))) rfl) (.cons (.ret (.tup (.cons (.var _ rfl rfl) (.cons (.var _ rfl rfl) (.cons (.var _ rfl rfl) (.nil)))))) (.nil))))
/-- yiq_to_rgb: 0=y 1=i 2=q 3=r 4=g 5=b -/
noncomputable def f1 : List MS := [.set 3 (.bin .Add (.bin .Add (.var 0) (.bin .Mult (.flt 0x3fee4cdbef721b32) (.var 1))) (.bin .Mult (.flt 0x3fe3f42ceedac0be) (.var 2))), .set 4 (.bin .Sub (.bin .Sub (.var 0) (.bin .Mult (.flt 0x3fd1961eec8cbb3a) (.var 1))) (.bin .Mult (.flt 0x3fe45794d16efff3) (.var 2))), .set 5 (.bin .Add (.bin .Sub (.var 0) (.bin .Mult (.flt 0x3ff1bc99b7dee436) (.var 1))) (.bin .Mult (.flt 0x3ffb5817a6224a7f) (.var 2))), .ite (.cmp .Lt (.var 3) (.flt 0x0000000000000000)) [.set 3 (.flt 0x0000000000000000)] [], .ite (.cmp .Lt (.var 4) (.flt 0x0000000000000000)) [.set 4 (.flt 0x0000000000000000)] [], .ite (.cmp .Lt (.var 5) (.flt 0x0000000000000000)) [.set 5 (.flt 0x0000000000000000)] [], .ite (.cmp .Gt (.var 3) (.flt 0x3ff0000000000000)) [.set 3 (.flt 0x3ff0000000000000)] [], .ite (.cmp .Gt (.var 4) (.flt 0x3ff0000000000000)) [.set 4 (.flt 0x3ff0000000000000)] [], .ite (.cmp .Gt (.var 5) (.flt 0x3ff0000000000000)) [.set 5 (.flt 0x3ff0000000000000)] [], .ret (.tup [.var 3, .var 4, .var 5])]
noncomputable def cf1 : Cx := ⟨scopeAt 2, [("y" : Str), ("i" : Str), ("q" : Str), ("r" : Str), ("g" : Str), ("b" : Str)]⟩
theorem tr_f1 (orc : Nat → List D → Option D) : TrSs ⟨gcs, fnNames, orc⟩ cf1 f1 (bodyAt 2) := .cons (.set rfl (.bin (.bin (.var _ rfl rfl) (.bin (.flt _ _ _) (.var _ rfl rfl))) (.bin (.flt _ _ _) (.var _ rfl rfl))) rfl) (.cons (.set rfl (.bin (.bin (.var _ rfl rfl) (.bin (.flt _ _ _) (.var _ rfl rfl))) (.bin (.flt _ _ _) (.var _ rfl rfl))) rfl) (.cons (.set rfl (.bin (.bin (.var _ rfl rfl) (.bin (.flt _ _ _) (.var _ rfl rfl))) (.bin (.flt _ _ _) (.var _ rfl rfl))) rfl) (.cons (.ite (.cmp (.var _ rfl rfl) (.flt _ _ _) rfl) (.cons (.set rfl (.flt _ _ _) rfl) (.nil)) (.nil)) (.cons (.ite (.cmp (.var _ rfl rfl) (.flt _ _ _) rfl) (.cons (.set rfl (.flt _ _ _) rfl) (.nil)) (.nil)) (.cons (.ite (.cmp (.var _ rfl rfl) (.flt _ _ _) rfl) (.cons (.set rfl (.flt _ _ _) rfl) (.nil)) (.nil)) (.cons (.ite (.cmp (.var _ rfl rfl) (.flt _ _ _) rfl) (.cons (.set rfl (.flt _ _ _) rfl) (.nil)) (.nil)) (.cons (.ite (.cmp (.var _ rfl rfl) (.flt _ _ _) rfl) (.cons (.set rfl (.flt _ _ _) rfl) (.nil)) (.nil)) (.cons (.ite (.cmp (.var _ rfl rfl) (.flt _ _ _) rfl) (.cons (.set rfl (.flt _ _ _) rfl) (.nil)) (.nil)) (.cons (.ret (.tup (.cons (.var _ rfl rfl) (.cons (.var _ rfl rfl) (.cons (.var _ rfl rfl) (.nil)))))) (.nil))))))))))
/-- rgb_to_hsv: 0=r 1=g 2=b 3=maxc 4=minc 5=rangec 6=v 7=s 8=rc 9=gc 10=bc 11=h -/
noncomputable def f2 : List MS := [.set 3 (.bi .max (.var 0) [.var 1, .var 2]), .set 4 (.bi .min (.var 0) [.var 1, .var 2]), .set 5 (.bin .Sub (.var 3) (.var 4)), .set 6 (.var 3), .ite (.cmp .Eq (.var 4) (.var 3)) [.ret (.tup [.flt 0x0000000000000000, .flt 0x0000000000000000, .var 6])] [], .set 7 (.bin .Div (.var 5) (.var 3)), .set 8 (.bin .Div (.bin .Sub (.var 3) (.var 0)) (.var 5)), .set 9 (.bin .Div (.bin .Sub (.var 3) (.var 1)) (.var 5)), .set 10 (.bin .Div (.bin .Sub (.var 3) (.var 2)) (.var 5)), .ite (.cmp .Eq (.var 0) (.var 3)) [.set 11 (.bin .Sub (.var 10) (.var 9))] [.ite (.cmp .Eq (.var 1) (.var 3)) [.set 11 (.bin .Sub (.bin .Add (.flt 0x4000000000000000) (.var 8)) (.var 10))] [.set 11 (.bin .Sub (.bin .Add (.flt 0x4010000000000000) (.var 9)) (.var 8))]], .set 11 (.bin .Mod (.bin .Div (.var 11) (.flt 0x4018000000000000)) (.flt 0x3ff0000000000000)), .ret (.tup [.var 11, .var 7, .var 6])]
noncomputable def cf2 : Cx := ⟨scopeAt 3, [("r" : Str), ("g" : Str), ("b" : Str), ("maxc" : Str), ("minc" : Str), ("rangec" : Str), ("v" : Str), ("s" : Str), ("rc" : Str), ("gc" : Str), ("bc" : Str), ("h" : Str)]⟩
theorem tr_f2 (orc : Nat → List D → Option D) : TrSs ⟨gcs, fnNames, orc⟩ cf2 f2 (bodyAt 3) := .cons (.set rfl (.bi rfl (.var _ rfl rfl) (.cons (.var _ rfl rfl) (.cons (.var _ rfl rfl) (.nil)))) rfl) (.cons (.set rfl (.bi rfl (.var _ rfl rfl) (.cons (.var _ rfl rfl) (.cons (.var _ rfl rfl) (.nil)))) rfl) (.cons (.set rfl (.bin (.var _ rfl rfl) (.var _ rfl rfl)) rfl) (.cons (.set rfl (.var _ rfl rfl) rfl) (.cons (.ite (.cmp (.var _ rfl rfl) (.var _ rfl rfl) rfl) (.cons (.ret (.tup (.cons (.flt _ _ _) (.cons (.flt _ _ _) (.cons (.var _ rfl rfl) (.nil)))))) (.nil)) (.nil)) (.cons (.set rfl (.bin (.var _ rfl rfl) (.var _ rfl rfl)) rfl) (.cons (.set rfl (.bin (.bin (.var _ rfl rfl) (.var _ rfl rfl)) (.var _ rfl rfl)) rfl) (.cons (.set rfl (.bin (.bin (.var _ rfl rfl) (.var _ rfl rfl)) (.var _ rfl rfl)) rfl) (.cons (.set rfl (.bin (.bin (.var _ rfl rfl) (.var _ rfl rfl)) (.var _ rfl rfl)) rfl) (.cons (.ite (.cmp (.var _ rfl rfl) (.var _ rfl rfl) rfl) (.cons (.set rfl (.bin (.var _ rfl rfl) (.var _ rfl rfl)) rfl) (.nil)) (.cons (.ite (.cmp (.var _ rfl rfl) (.var _ rfl rfl) rfl) (.cons (.set rfl (.bin (.bin (.flt _ _ _) (.var _ rfl rfl)) (.var _ rfl rfl)) rfl) (.nil)) (.cons (.set rfl (.bin (.bin (.flt _ _ _) (.var _ rfl rfl)) (.var _ rfl rfl)) rfl) (.nil))) (.nil))) (.cons (.set rfl (.bin (.bin (.var _ rfl rfl) (.flt _ _ _)) (.flt _ _ _)) rfl) (.cons (.ret (.tup (.cons (.var _ rfl rfl) (.cons (.var _ rfl rfl) (.cons (.var _ rfl rfl) (.nil)))))) (.nil))))))))))))
/-- hsv_to_rgb: 0=h 1=s 2=v 3=i 4=f 5=p 6=q 7=t -/
noncomputable def f3 : List MS := [.ite (.cmp .Eq (.var 1) (.flt 0x0000000000000000)) [.ret (.tup [.var 2, .var 2, .var 2])] [], .set 3 (.bi .int (.bin .Mult (.var 0) (.flt 0x4018000000000000)) []), .set 4 (.bin .Sub (.bin .Mult (.var 0) (.flt 0x4018000000000000)) (.var 3)), .set 5 (.bin .Mult (.var 2) (.bin .Sub (.flt 0x3ff0000000000000) (.var 1))), .set 6 (.bin .Mult (.var 2) (.bin .Sub (.flt 0x3ff0000000000000) (.bin .Mult (.var 1) (.var 4)))), .set 7 (.bin .Mult (.var 2) (.bin .Sub (.flt 0x3ff0000000000000) (.bin .Mult (.var 1) (.bin .Sub (.flt 0x3ff0000000000000) (.var 4))))), .set 3 (.bin .Mod (.var 3) (.int 6)), .ite (.cmp .Eq (.var 3) (.int 0)) [.ret (.tup [.var 2, .var 7, .var 5])] [], .ite (.cmp .Eq (.var 3) (.int 1)) [.ret (.tup [.var 6, .var 2, .var 5])] [], .ite (.cmp .Eq (.var 3) (.int 2)) [.ret (.tup [.var 5, .var 2, .var 7])] [], .ite (.cmp .Eq (.var 3) (.int 3)) [.ret (.tup [.var 5, .var 6, .var 2])] [], .ite (.cmp .Eq (.var 3) (.int 4)) [.ret (.tup [.var 7, .var 5, .var 2])] [], .ite (.cmp .Eq (.var 3) (.int 5)) [.ret (.tup [.var 2, .var 5, .var 6])] []]
noncomputable def cf3 : Cx := ⟨scopeAt 4, [("h" : Str), ("s" : Str), ("v" : Str), ("i" : Str), ("f" : Str), ("p" : Str), ("q" : Str), ("t" : Str)]⟩
theorem tr_f3 (orc : Nat → List D → Option D) : TrSs ⟨gcs, fnNames, orc⟩ cf3 f3 (bodyAt 4) := .cons (.ite (.cmp (.var _ rfl rfl) (.flt _ _ _) rfl) (.cons (.ret (.tup (.cons (.var _ rfl rfl) (.cons (.var _ rfl rfl) (.cons (.var _ rfl rfl) (.nil)))))) (.nil)) (.nil)) (.cons (.set rfl (.bi rfl (.bin (.var _ rfl rfl) (.flt _ _ _)) (.nil)) rfl) (.cons (.set rfl (.bin (.bin (.var _ rfl rfl) (.flt _ _ _)) (.var _ rfl rfl)) rfl) (.cons (.set rfl (.bin (.var _ rfl rfl) (.bin (.flt _ _ _) (.var _ rfl rfl))) rfl) (.cons (.set rfl (.bin (.var _ rfl rfl) (.bin (.flt _ _ _) (.bin (.var _ rfl rfl) (.var _ rfl rfl)))) rfl) (.cons (.set rfl (.bin (.var _ rfl rfl) (.bin (.flt _ _ _) (.bin (.var _ rfl rfl) (.bin (.flt _ _ _) (.var _ rfl rfl))))) rfl) (.cons (.set rfl (.bin (.var _ rfl rfl) (.int _ _ _)) rfl) (.cons (.ite (.cmp (.var _ rfl rfl) (.int _ _ _) rfl) (.cons (.ret (.tup (.cons (.var _ rfl rfl) (.cons (.var _ rfl rfl) (.cons (.var _ rfl rfl) (.nil)))))) (.nil)) (.nil)) (.cons (.ite (.cmp (.var _ rfl rfl) (.int _ _ _) rfl) (.cons (.ret (.tup (.cons (.var _ rfl rfl) (.cons (.var _ rfl rfl) (.cons (.var _ rfl rfl) (.nil)))))) (.nil)) (.nil)) (.cons (.ite (.cmp (.var _ rfl rfl) (.int _ _ _) rfl) (.cons (.ret (.tup (.cons (.var _ rfl rfl) (.cons (.var _ rfl rfl) (.cons (.var _ rfl rfl) (.nil)))))) (.nil)) (.nil)) (.cons (.ite (.cmp (.var _ rfl rfl) (.int _ _ _) rfl) (.cons (.ret (.tup (.cons (.var _ rfl rfl) (.cons (.var _ rfl rfl) (.cons (.var _ rfl rfl) (.nil)))))) (.nil)) (.nil)) (.cons (.ite (.cmp (.var _ rfl rfl) (.int _ _ _) rfl) (.cons (.ret (.tup (.cons (.var _ rfl rfl) (.cons (.var _ rfl rfl) (.cons (.var _ rfl rfl) (.nil)))))) (.nil)) (.nil)) (.cons (.ite (.cmp (.var _ rfl rfl) (.int _ _ _) rfl) (.cons (.ret (.tup (.cons (.var _ rfl rfl) (.cons (.var _ rfl rfl) (.cons (.var _ rfl rfl) (.nil)))))) (.nil)) (.nil)) (.nil)))))))))))))
/-- in_table_b1: 0=code -/
noncomputable def f4 : List MS := [.ret (.cmp .In (.bi .ord (.var 0) []) (.glob 0))]
noncomputable def cf4 : Cx := ⟨scopeAt 7, [("code" : Str)]⟩
theorem tr_f4 (orc : Nat → List D → Option D) : TrSs ⟨gcs, fnNames, orc⟩ cf4 f4 (bodyAt 7) := .cons (.ret (.cmp (.bi rfl (.var _ rfl rfl) (.nil)) (.glob _ rfl rfl rfl) rfl)) (.nil)
/-- map_table_b3: 0=code 1=r -/
noncomputable def f5 : List MS := [.set 1 (.meth .get (.glob 1) [.bi .ord (.var 0) []]), .ite (.cmp .IsNot (.var 1) (.none)) [.ret (.var 1)] [], .ret (.meth .lower (.var 0) [])]
noncomputable def cf5 : Cx := ⟨scopeAt 9, [("code" : Str), ("r" : Str)]⟩
theorem tr_f5 (orc : Nat → List D → Option D) : TrSs ⟨gcs, fnNames, orc⟩ cf5 f5 (bodyAt 9) := .cons (.set rfl (.meth (.glob _ rfl rfl rfl) (fun _ => rfl) rfl (by decide) (.cons (.bi rfl (.var _ rfl rfl) (.nil)) (.nil))) rfl) (.cons (.ite (.cmp (.var _ rfl rfl) (.none _ _) rfl) (.cons (.ret (.var _ rfl rfl)) (.nil)) (.nil)) (.cons (.ret (.meth (.var _ rfl rfl) (fun _ => rfl) rfl (by decide) (.nil))) (.nil)))
/-- in_table_c6: 0=code -/
noncomputable def f6 : List MS := [.ret (.cmp .In (.bi .ord (.var 0) []) (.glob 2))]
noncomputable def cf6 : Cx := ⟨scopeAt 11, [("code" : Str)]⟩
theorem tr_f6 (orc : Nat → List D → Option D) : TrSs ⟨gcs, fnNames, orc⟩ cf6 f6 (bodyAt 11) := .cons (.ret (.cmp (.bi rfl (.var _ rfl rfl) (.nil)) (.glob _ rfl rfl rfl) rfl)) (.nil)
/-- ISNONTERMINAL: 0=x -/
noncomputable def f7 : List MS := [.ret (.cmp .GtE (.var 0) (.glob 4))]
noncomputable def cf7 : Cx := ⟨scopeAt 64, [("x" : Str)]⟩
theorem tr_f7 (orc : Nat → List D → Option D) : TrSs ⟨gcs, fnNames, orc⟩ cf7 f7 (bodyAt 64) := .cons (.ret (.cmp (.var _ rfl rfl) (.glob _ rfl rfl rfl) rfl)) (.nil)
/-- ISEOF: 0=x -/
noncomputable def f8 : List MS := [.ret (.cmp .Eq (.var 0) (.glob 3))]
noncomputable def cf8 : Cx := ⟨scopeAt 65, [("x" : Str)]⟩
theorem tr_f8 (orc : Nat → List D → Option D) : TrSs ⟨gcs, fnNames, orc⟩ cf8 f8 (bodyAt 65) := .cons (.ret (.cmp (.var _ rfl rfl) (.glob _ rfl rfl rfl) rfl)) (.nil)
/-- _law_drawn: 0=code 1=first 2=second -/
noncomputable def f9 : List MS := [.unp [1, 2] (.sub (.list [.tup [.int 0, .int 1], .tup [.int 0, .int 2], .tup [.int 0, .int 3], .tup [.int 1, .int 2], .tup [.int 1, .int 3], .tup [.int 2, .int 3]]) (.bin .Mod (.var 0) (.int 6))), .ite (.cmp .Eq (.bin .Mod (.bin .FloorDiv (.var 0) (.int 6)) (.int 2)) (.int 1)) [.swap 1 2 (.var 2) (.var 1)] [], .ret (.tup [.var 1, .cmp .Eq (.bin .Mod (.bin .FloorDiv (.var 0) (.int 12)) (.int 6)) (.int 0), .var 2])]
noncomputable def cf9 : Cx := ⟨scopeAt 67, [("code" : Str), ("first" : Str), ("second" : Str)]⟩
theorem tr_f9 (orc : Nat → List D → Option D) : TrSs ⟨gcs, fnNames, orc⟩ cf9 f9 (bodyAt 67) := .cons (.unp (.cons (⟨_, _, rfl, rfl⟩) (.cons (⟨_, _, rfl, rfl⟩) (.nil))) (.sub (.list (.cons (.tup (.cons (.int _ _ _) (.cons (.int _ _ _) (.nil)))) (.cons (.tup (.cons (.int _ _ _) (.cons (.int _ _ _) (.nil)))) (.cons (.tup (.cons (.int _ _ _) (.cons (.int _ _ _) (.nil)))) (.cons (.tup (.cons (.int _ _ _) (.cons (.int _ _ _) (.nil)))) (.cons (.tup (.cons (.int _ _ _) (.cons (.int _ _ _) (.nil)))) (.cons (.tup (.cons (.int _ _ _) (.cons (.int _ _ _) (.nil)))) (.nil)))))))) (.bin (.var _ rfl rfl) (.int _ _ _))) rfl rfl) (.cons (.ite (.cmp (.bin (.bin (.var _ rfl rfl) (.int _ _ _)) (.int _ _ _)) (.int _ _ _) rfl) (.cons (.swap rfl rfl rfl rfl (.var _ rfl rfl) (.var _ rfl rfl) (fun env h1 h2 h3 => swap_ok env h1 h2 h3 rfl rfl rfl)) (.nil)) (.nil)) (.cons (.ret (.tup (.cons (.var _ rfl rfl) (.cons (.cmp (.bin (.bin (.var _ rfl rfl) (.int _ _ _)) (.int _ _ _)) (.int _ _ _) rfl) (.cons (.var _ rfl rfl) (.nil)))))) (.nil)))
/-- _law_typed: 0=codes 1=unseen 2=faces 3=pieces 4=code 5=first 6=alike 7=second 8=left 9=right 10=note -/
noncomputable def f10 : List MS := [.set 2 (.list [.int 97, .int 65, .int 119808, .int 119860, .int 119912, .int 120016, .int 120172, .int 120224, .int 120276, .int 120328, .int 120380, .int 120432]), .newl 3, .forr (.one 4) (.val (.var 0)) [.unp [5, 6, 7] (.call 9 (.var 4) []), .set 8 (.bi .chr (.bin .Add (.subv 2 (.bin .Mod (.bin .FloorDiv (.var 4) (.int 72)) (.int 12))) (.var 5)) []), .set 9 (.bi .chr (.bin .Add (.subv 2 (.bin .Mod (.bin .FloorDiv (.var 4) (.int 864)) (.int 12))) (.var 7)) []), .ite (.cmp .Eq (.bin .Mod (.bin .FloorDiv (.var 4) (.int 10368)) (.int 2)) (.int 1)) [.set 10 (.bin .Add (.ite (.val (.var 6)) (.str ("!=" : Str)) (.str ("==" : Str))) (.bi .chr (.bin .Add (.int 97) (.var 5)) [])), .set 9 (.bin .Add (.bin .Add (.bin .Add (.bin .Add (.bi .chr (.int 65529) []) (.var 9)) (.bi .chr (.int 65530) [])) (.var 10)) (.bi .chr (.int 65531) []))] [], .app 3 (.bin .Add (.bin .Add (.bin .Add (.bin .Add (.var 8) (.ite (.val (.var 6)) (.str ("=" : Str)) (.str ("!" : Str)))) (.var 1)) (.str ("=" : Str))) (.var 9))], .freeze 3, .ret (.meth .join (.str ("," : Str)) [.var 3])]
noncomputable def cf10 : Cx := ⟨scopeAt 68, [("codes" : Str), ("unseen" : Str), ("faces" : Str), ("pieces" : Str), ("code" : Str), ("first" : Str), ("alike" : Str), ("second" : Str), ("left" : Str), ("right" : Str), ("note" : Str)]⟩
theorem tr_f10 (orc : Nat → List D → Option D) : TrSs ⟨gcs, fnNames, orc⟩ cf10 f10 (bodyAt 68) := .cons (.set rfl (.list (.cons (.int _ _ _) (.cons (.int _ _ _) (.cons (.int _ _ _) (.cons (.int _ _ _) (.cons (.int _ _ _) (.cons (.int _ _ _) (.cons (.int _ _ _) (.cons (.int _ _ _) (.cons (.int _ _ _) (.cons (.int _ _ _) (.cons (.int _ _ _) (.cons (.int _ _ _) (.nil)))))))))))))) rfl) (.cons (.newl rfl) (.cons (.forr (.one _ rfl) (.val (.var _ rfl rfl) (fun _ _ => rfl)) (.cons (.unp (.cons (⟨_, _, rfl, rfl⟩) (.cons (⟨_, _, rfl, rfl⟩) (.cons (⟨_, _, rfl, rfl⟩) (.nil)))) (.call rfl rfl rfl (.var _ rfl rfl) (.nil)) rfl rfl) (.cons (.set rfl (.bi rfl (.bin (.subv rfl rfl (.bin (.bin (.var _ rfl rfl) (.int _ _ _)) (.int _ _ _))) (.var _ rfl rfl)) (.nil)) rfl) (.cons (.set rfl (.bi rfl (.bin (.subv rfl rfl (.bin (.bin (.var _ rfl rfl) (.int _ _ _)) (.int _ _ _))) (.var _ rfl rfl)) (.nil)) rfl) (.cons (.ite (.cmp (.bin (.bin (.var _ rfl rfl) (.int _ _ _)) (.int _ _ _)) (.int _ _ _) rfl) (.cons (.set rfl (.bin (.ite (.val (.var _ rfl rfl) (fun _ _ => rfl)) (.str _ _ _) (.str _ _ _)) (.bi rfl (.bin (.int _ _ _) (.var _ rfl rfl)) (.nil))) rfl) (.cons (.set rfl (.bin (.bin (.bin (.bin (.bi rfl (.int _ _ _) (.nil)) (.var _ rfl rfl)) (.bi rfl (.int _ _ _) (.nil))) (.var _ rfl rfl)) (.bi rfl (.int _ _ _) (.nil))) rfl) (.nil))) (.nil)) (.cons (.app rfl rfl (.bin (.bin (.bin (.bin (.var _ rfl rfl) (.ite (.val (.var _ rfl rfl) (fun _ _ => rfl)) (.str _ _ _) (.str _ _ _))) (.var _ rfl rfl)) (.str _ _ _)) (.var _ rfl rfl)) rfl) (.nil))))))) (.freeze (by decide) (.cons (.ret (.meth (.str _ _ _) (fun _ => rfl) rfl (by decide) (.cons (.var _ rfl rfl) (.nil)))) (.nil)))))
/-- _law_symbols: 0=text 1=signs 2=skipping 3=sign 4=plain 5=symbols 6=place 7=piece -/
noncomputable def f11 : List MS := [.newl 1, .set 2 (.bool false), .forr (.one 3) (.val (.var 0)) [.ite (.val (.call 6 (.var 3) [])) [.set 2 (.cmp .Eq (.var 3) (.bi .chr (.int 65530) []))] [.ite (.and [.not (.val (.var 2)), .not (.val (.call 4 (.var 3) []))]) [.app 1 (.call 5 (.var 3) [])] []]], .freeze 1, .set 4 (.meth .join (.str ("" : Str)) [.var 1]), .newl 5, .set 6 (.int 0), .whl 2000 (.cmp .Lt (.var 6) (.bi .len (.var 4) [])) [.set 7 (.slice (.var 4) (some (.var 6)) (some (.bin .Add (.var 6) (.int 2)))), .ite (.cmp .NotIn (.var 7) (.glob 5)) [.set 7 (.subv 4 (.var 6))] [], .aug 6 (.bi .len (.var 7) []), .app 5 (.meth .get (.glob 5) [.var 7, .bin .Sub (.bin .Add (.glob 4) (.bi .ord (.subv 7 (.int 0)) [])) (.int 97)])], .freeze 5, .ret (.bin .Add (.var 5) (.list [.int 0]))]
noncomputable def cf11 : Cx := ⟨scopeAt 69, [("text" : Str), ("signs" : Str), ("skipping" : Str), ("sign" : Str), ("plain" : Str), ("symbols" : Str), ("place" : Str), ("piece" : Str)]⟩
theorem tr_f11 (orc : Nat → List D → Option D) : TrSs ⟨gcs, fnNames, orc⟩ cf11 f11 (bodyAt 69) := .cons (.newl rfl) (.cons (.set rfl (.bool _ _ _) rfl) (.cons (.forr (.one _ rfl) (.val (.var _ rfl rfl) (fun _ _ => rfl)) (.cons (.ite (.val (.call rfl rfl rfl (.var _ rfl rfl) (.nil)) (fun _ _ => rfl)) (.cons (.set rfl (.cmp (.var _ rfl rfl) (.bi rfl (.int _ _ _) (.nil)) rfl) rfl) (.nil)) (.cons (.ite (.and (.cons (.not (.val (.var _ rfl rfl) (fun _ _ => rfl))) (.cons (.not (.val (.call rfl rfl rfl (.var _ rfl rfl) (.nil)) (fun _ _ => rfl))) (.nil)))) (.cons (.app rfl rfl (.call rfl rfl rfl (.var _ rfl rfl) (.nil)) rfl) (.nil)) (.nil)) (.nil))) (.nil))) (.freeze (by decide) (.cons (.set rfl (.meth (.str _ _ _) (fun _ => rfl) rfl (by decide) (.cons (.var _ rfl rfl) (.nil))) rfl) (.cons (.newl rfl) (.cons (.set rfl (.int _ _ _) rfl) (.cons (.whl (.cmp (.var _ rfl rfl) (.bi rfl (.var _ rfl rfl) (.nil)) rfl) (.cons (.set rfl (.slice (.var _ rfl rfl) (.some (.var _ rfl rfl)) (.some (.bin (.var _ rfl rfl) (.int _ _ _)))) rfl) (.cons (.ite (.cmp (.var _ rfl rfl) (.glob _ rfl rfl rfl) rfl) (.cons (.set rfl (.subv rfl rfl (.var _ rfl rfl)) rfl) (.nil)) (.nil)) (.cons (.aug rfl (.bi rfl (.var _ rfl rfl) (.nil))) (.cons (.app rfl rfl (.meth (.glob _ rfl rfl rfl) (fun _ => rfl) rfl (by decide) (.cons (.var _ rfl rfl) (.cons (.bin (.bin (.glob _ rfl rfl rfl) (.bi rfl (.subv rfl rfl (.int _ _ _)) (.nil))) (.int _ _ _)) (.nil)))) rfl) (.nil)))))) (.freeze (by decide) (.cons (.ret (.bin (.var _ rfl rfl) (.list (.cons (.int _ _ _) (.nil))))) (.nil))))))))))
/-- _law_statements: 0=symbols 1=statements 2=names 3=alike 4=symbol -/
noncomputable def f12 : List MS := [.newl 1, .newl 2, .set 3 (.bool false), .forr (.one 4) (.val (.var 0)) [.ite (.val (.call 7 (.var 4) [])) [.app 2 (.bin .Sub (.var 4) (.glob 4))] [.ite (.or [.val (.call 8 (.var 4) []), .cmp .Eq (.var 4) (.int 12)]) [.app 1 (.tup [.subv 2 (.neg (.int 2)), .var 3, .subv 2 (.neg (.int 1))])] [.set 3 (.cmp .Eq (.var 4) (.int 27))]]], .freeze 1, .ret (.var 1)]
noncomputable def cf12 : Cx := ⟨scopeAt 70, [("symbols" : Str), ("statements" : Str), ("names" : Str), ("alike" : Str), ("symbol" : Str)]⟩
theorem tr_f12 (orc : Nat → List D → Option D) : TrSs ⟨gcs, fnNames, orc⟩ cf12 f12 (bodyAt 70) := .cons (.newl rfl) (.cons (.newl rfl) (.cons (.set rfl (.bool _ _ _) rfl) (.cons (.forr (.one _ rfl) (.val (.var _ rfl rfl) (fun _ _ => rfl)) (.cons (.ite (.val (.call rfl rfl rfl (.var _ rfl rfl) (.nil)) (fun _ _ => rfl)) (.cons (.app rfl rfl (.bin (.var _ rfl rfl) (.glob _ rfl rfl rfl)) rfl) (.nil)) (.cons (.ite (.or (.cons (.val (.call rfl rfl rfl (.var _ rfl rfl) (.nil)) (fun _ _ => rfl)) (.cons (.cmp (.var _ rfl rfl) (.int _ _ _) rfl) (.nil)))) (.cons (.app rfl rfl (.tup (.cons (.subv rfl rfl (.neg (.int _ _ _))) (.cons (.var _ rfl rfl) (.cons (.subv rfl rfl (.neg (.int _ _ _))) (.nil))))) rfl) (.nil)) (.cons (.set rfl (.cmp (.var _ rfl rfl) (.int _ _ _) rfl) rfl) (.nil))) (.nil))) (.nil))) (.freeze (by decide) (.cons (.ret (.var _ rfl rfl)) (.nil))))))
/-- _law_sent: 0=corner 1=share 2=value 3=relays 4=red 5=green 6=blue 7=relay 8=luma 9=warm 10=cool 11=hue 12=full 13=level -/
noncomputable def f13 : List MS := [.unp [4, 5, 6] (.call 3 (.bin .Div (.var 0) (.flt 0x4018000000000000)) [.bin .Div (.var 1) (.flt 0x4020000000000000), .bin .Div (.var 2) (.flt 0x4020000000000000)]), .forr (.one 7) (.range (.var 3)) [.unp [8, 9, 10] (.call 0 (.var 4) [.var 5, .var 6]), .unp [4, 5, 6] (.call 1 (.var 8) [.neg (.var 9), .neg (.var 10)])], .unp [11, 12, 13] (.call 2 (.var 4) [.var 5, .var 6]), .ret (.tup [.bin .Mod (.bi .int (.bin .Add (.bin .Mult (.var 11) (.flt 0x40b7700000000000)) (.flt 0x3fe0000000000000)) []) (.int 6000), .bi .int (.bin .Add (.bin .Mult (.bin .Mult (.var 12) (.var 13)) (.flt 0x4050000000000000)) (.flt 0x3fe0000000000000)) [], .bi .int (.bin .Add (.bin .Mult (.var 13) (.flt 0x40b9000000000000)) (.flt 0x3fe0000000000000)) []])]
noncomputable def cf13 : Cx := ⟨scopeAt 71, [("corner" : Str), ("share" : Str), ("value" : Str), ("relays" : Str), ("red" : Str), ("green" : Str), ("blue" : Str), ("relay" : Str), ("luma" : Str), ("warm" : Str), ("cool" : Str), ("hue" : Str), ("full" : Str), ("level" : Str)]⟩
theorem tr_f13 (orc : Nat → List D → Option D) : TrSs ⟨gcs, fnNames, orc⟩ cf13 f13 (bodyAt 71) := .cons (.unp (.cons (⟨_, _, rfl, rfl⟩) (.cons (⟨_, _, rfl, rfl⟩) (.cons (⟨_, _, rfl, rfl⟩) (.nil)))) (.call rfl rfl rfl (.bin (.var _ rfl rfl) (.flt _ _ _)) (.cons (.bin (.var _ rfl rfl) (.flt _ _ _)) (.cons (.bin (.var _ rfl rfl) (.flt _ _ _)) (.nil)))) rfl rfl) (.cons (.forr (.one _ rfl) (.range _ _ rfl (.var _ rfl rfl)) (.cons (.unp (.cons (⟨_, _, rfl, rfl⟩) (.cons (⟨_, _, rfl, rfl⟩) (.cons (⟨_, _, rfl, rfl⟩) (.nil)))) (.call rfl rfl rfl (.var _ rfl rfl) (.cons (.var _ rfl rfl) (.cons (.var _ rfl rfl) (.nil)))) rfl rfl) (.cons (.unp (.cons (⟨_, _, rfl, rfl⟩) (.cons (⟨_, _, rfl, rfl⟩) (.cons (⟨_, _, rfl, rfl⟩) (.nil)))) (.call rfl rfl rfl (.var _ rfl rfl) (.cons (.neg (.var _ rfl rfl)) (.cons (.neg (.var _ rfl rfl)) (.nil)))) rfl rfl) (.nil)))) (.cons (.unp (.cons (⟨_, _, rfl, rfl⟩) (.cons (⟨_, _, rfl, rfl⟩) (.cons (⟨_, _, rfl, rfl⟩) (.nil)))) (.call rfl rfl rfl (.var _ rfl rfl) (.cons (.var _ rfl rfl) (.cons (.var _ rfl rfl) (.nil)))) rfl rfl) (.cons (.ret (.tup (.cons (.bin (.bi rfl (.bin (.bin (.var _ rfl rfl) (.flt _ _ _)) (.flt _ _ _)) (.nil)) (.int _ _ _)) (.cons (.bi rfl (.bin (.bin (.bin (.var _ rfl rfl) (.var _ rfl rfl)) (.flt _ _ _)) (.flt _ _ _)) (.nil)) (.cons (.bi rfl (.bin (.bin (.var _ rfl rfl) (.flt _ _ _)) (.flt _ _ _)) (.nil)) (.nil)))))) (.nil))))
/-- _law_due: 0=corner 1=share 2=value 3=relays 4=place 5=weight 6=level -/
noncomputable def f14 : List MS := [.set 4 (.bin .Mod (.var 0) (.int 6)), .set 5 (.bin .Add (.bin .Add (.ite (.cmp .In (.var 4) (.tup [.int 5, .int 0, .int 1])) (.int 30) (.int 0)) (.ite (.cmp .In (.var 4) (.tup [.int 1, .int 2, .int 3])) (.int 59) (.int 0))) (.ite (.cmp .In (.var 4) (.tup [.int 3, .int 4, .int 5])) (.int 11) (.int 0))), .set 6 (.ite (.cmp .Eq (.var 3) (.int 2)) (.bin .Mult (.int 800) (.var 2)) (.bin .Add (.bin .Mult (.bin .Mult (.int 100) (.var 2)) (.bin .Sub (.int 8) (.var 1))) (.bin .Mult (.bin .Mult (.bin .Mult (.int 2) (.var 2)) (.var 1)) (.var 5)))), .ret (.tup [.bin .Mult (.int 1000) (.bin .Mod (.bin .Add (.var 4) (.bin .Mult (.int 3) (.var 3))) (.int 6)), .bin .Mult (.var 2) (.var 1), .var 6])]
noncomputable def cf14 : Cx := ⟨scopeAt 72, [("corner" : Str), ("share" : Str), ("value" : Str), ("relays" : Str), ("place" : Str), ("weight" : Str), ("level" : Str)]⟩
theorem tr_f14 (orc : Nat → List D → Option D) : TrSs ⟨gcs, fnNames, orc⟩ cf14 f14 (bodyAt 72) := .cons (.set rfl (.bin (.var _ rfl rfl) (.int _ _ _)) rfl) (.cons (.set rfl (.bin (.bin (.ite (.cmp (.var _ rfl rfl) (.tup (.cons (.int _ _ _) (.cons (.int _ _ _) (.cons (.int _ _ _) (.nil))))) rfl) (.int _ _ _) (.int _ _ _)) (.ite (.cmp (.var _ rfl rfl) (.tup (.cons (.int _ _ _) (.cons (.int _ _ _) (.cons (.int _ _ _) (.nil))))) rfl) (.int _ _ _) (.int _ _ _))) (.ite (.cmp (.var _ rfl rfl) (.tup (.cons (.int _ _ _) (.cons (.int _ _ _) (.cons (.int _ _ _) (.nil))))) rfl) (.int _ _ _) (.int _ _ _))) rfl) (.cons (.set rfl (.ite (.cmp (.var _ rfl rfl) (.int _ _ _) rfl) (.bin (.int _ _ _) (.var _ rfl rfl)) (.bin (.bin (.bin (.int _ _ _) (.var _ rfl rfl)) (.bin (.int _ _ _) (.var _ rfl rfl))) (.bin (.bin (.bin (.int _ _ _) (.var _ rfl rfl)) (.var _ rfl rfl)) (.var _ rfl rfl)))) rfl) (.cons (.ret (.tup (.cons (.bin (.int _ _ _) (.bin (.bin (.var _ rfl rfl) (.bin (.int _ _ _) (.var _ rfl rfl))) (.int _ _ _))) (.cons (.bin (.var _ rfl rfl) (.var _ rfl rfl)) (.cons (.var _ rfl rfl) (.nil)))))) (.nil))))
/-- _law_seen: 0=figures 1=turn 2=relays 3=seen 4=i 5=figure 6=shown 7=lamp 8=told -/
noncomputable def f15 : List MS := [.newl 3, .forr (.one 4) (.range (.int 4)) [.set 5 (.bin .Mod (.bin .FloorDiv (.var 0) (.bin .Pow (.int 16) (.var 4))) (.int 16)), .newd 6, .forr (.one 7) (.val (.tup [.int 0, .int 2, .int 3, .int 4])) [.set 8 (.call 13 (.bin .Add (.var 7) (.var 1)) [.bin .Add (.bin .Mod (.var 5) (.int 4)) (.int 1), .bin .Add (.bin .FloorDiv (.var 5) (.int 4)) (.int 2), .var 2]), .ite (.cmp .NotEq (.var 8) (.call 14 (.bin .Add (.var 7) (.var 1)) [.bin .Add (.bin .Mod (.var 5) (.int 4)) (.int 1), .bin .Add (.bin .FloorDiv (.var 5) (.int 4)) (.int 2), .var 2])) [.ret (.list [])] [], .putd 6 (.var 7) (.subv 8 (.int 0))], .freeze 6, .app 3 (.var 6)], .freeze 3, .ret (.var 3)]
noncomputable def cf15 : Cx := ⟨scopeAt 73, [("figures" : Str), ("turn" : Str), ("relays" : Str), ("seen" : Str), ("i" : Str), ("figure" : Str), ("shown" : Str), ("lamp" : Str), ("told" : Str)]⟩
theorem tr_f15 (orc : Nat → List D → Option D) : TrSs ⟨gcs, fnNames, orc⟩ cf15 f15 (bodyAt 73) := .cons (.newl rfl) (.cons (.forr (.one _ rfl) (.range _ _ rfl (.int _ _ _)) (.cons (.set rfl (.bin (.bin (.var _ rfl rfl) (.bin (.int _ _ _) (.var _ rfl rfl))) (.int _ _ _)) rfl) (.cons (.newd rfl) (.cons (.forr (.one _ rfl) (.val (.tup (.cons (.int _ _ _) (.cons (.int _ _ _) (.cons (.int _ _ _) (.cons (.int _ _ _) (.nil)))))) (fun _ _ => rfl)) (.cons (.set rfl (.call rfl rfl rfl (.bin (.var _ rfl rfl) (.var _ rfl rfl)) (.cons (.bin (.bin (.var _ rfl rfl) (.int _ _ _)) (.int _ _ _)) (.cons (.bin (.bin (.var _ rfl rfl) (.int _ _ _)) (.int _ _ _)) (.cons (.var _ rfl rfl) (.nil))))) rfl) (.cons (.ite (.cmp (.var _ rfl rfl) (.call rfl rfl rfl (.bin (.var _ rfl rfl) (.var _ rfl rfl)) (.cons (.bin (.bin (.var _ rfl rfl) (.int _ _ _)) (.int _ _ _)) (.cons (.bin (.bin (.var _ rfl rfl) (.int _ _ _)) (.int _ _ _)) (.cons (.var _ rfl rfl) (.nil))))) rfl) (.cons (.ret (.list (.nil))) (.nil)) (.nil)) (.cons (.putd rfl rfl (.var _ rfl rfl) (.subv rfl rfl (.int _ _ _)) rfl) (.nil))))) (.freeze (by decide) (.cons (.app rfl rfl (.var _ rfl rfl) rfl) (.nil))))))) (.freeze (by decide) (.cons (.ret (.var _ rfl rfl)) (.nil))))
/-- _law_holds: 0=spots 1=statements 2=first 3=alike 4=second -/
noncomputable def f16 : List MS := [.forr (.tup [2, 3, 4]) (.val (.var 1)) [.ite (.cmp .NotEq (.cmp .Eq (.subv 0 (.var 2)) (.subv 0 (.var 4))) (.var 3)) [.ret (.bool false)] []], .ret (.bool true)]
noncomputable def cf16 : Cx := ⟨scopeAt 74, [("spots" : Str), ("statements" : Str), ("first" : Str), ("alike" : Str), ("second" : Str)]⟩
theorem tr_f16 (orc : Nat → List D → Option D) : TrSs ⟨gcs, fnNames, orc⟩ cf16 f16 (bodyAt 74) := .cons (.forr (.tup _ _ (.cons (⟨_, _, rfl, rfl⟩) (.cons (⟨_, _, rfl, rfl⟩) (.cons (⟨_, _, rfl, rfl⟩) (.nil))))) (.val (.var _ rfl rfl) (fun _ _ => rfl)) (.cons (.ite (.cmp (.cmp (.subv rfl rfl (.var _ rfl rfl)) (.subv rfl rfl (.var _ rfl rfl)) rfl) (.var _ rfl rfl) rfl) (.cons (.ret (.bool _ _ _)) (.nil)) (.nil)) (.nil))) (.cons (.ret (.bool _ _ _)) (.nil))
/-- _law_paintings: 0=lamps 1=seen 2=statements 3=count 4=two 5=three 6=four 7=spots -/
noncomputable def f17 : List MS := [.set 3 (.int 0), .forr (.one 4) (.val (.var 0)) [.forr (.one 5) (.val (.var 0)) [.forr (.one 6) (.val (.var 0)) [.set 7 (.list [.sub (.subv 1 (.int 0)) (.subv 0 (.neg (.int 1))), .sub (.subv 1 (.int 1)) (.var 4), .sub (.subv 1 (.int 2)) (.var 5), .sub (.subv 1 (.int 3)) (.var 6)]), .ite (.val (.call 16 (.var 7) [.var 2])) [.aug 3 (.int 1)] []]]], .ret (.bin .Mult (.var 3) (.bi .len (.var 0) []))]
noncomputable def cf17 : Cx := ⟨scopeAt 75, [("lamps" : Str), ("seen" : Str), ("statements" : Str), ("count" : Str), ("two" : Str), ("three" : Str), ("four" : Str), ("spots" : Str)]⟩
theorem tr_f17 (orc : Nat → List D → Option D) : TrSs ⟨gcs, fnNames, orc⟩ cf17 f17 (bodyAt 75) := .cons (.set rfl (.int _ _ _) rfl) (.cons (.forr (.one _ rfl) (.val (.var _ rfl rfl) (fun _ _ => rfl)) (.cons (.forr (.one _ rfl) (.val (.var _ rfl rfl) (fun _ _ => rfl)) (.cons (.forr (.one _ rfl) (.val (.var _ rfl rfl) (fun _ _ => rfl)) (.cons (.set rfl (.list (.cons (.sub (.subv rfl rfl (.int _ _ _)) (.subv rfl rfl (.neg (.int _ _ _)))) (.cons (.sub (.subv rfl rfl (.int _ _ _)) (.var _ rfl rfl)) (.cons (.sub (.subv rfl rfl (.int _ _ _)) (.var _ rfl rfl)) (.cons (.sub (.subv rfl rfl (.int _ _ _)) (.var _ rfl rfl)) (.nil)))))) rfl) (.cons (.ite (.val (.call rfl rfl rfl (.var _ rfl rfl) (.cons (.var _ rfl rfl) (.nil))) (fun _ _ => rfl)) (.cons (.aug rfl (.int _ _ _)) (.nil)) (.nil)) (.nil)))) (.nil))) (.nil))) (.cons (.ret (.bin (.var _ rfl rfl) (.bi rfl (.var _ rfl rfl) (.nil)))) (.nil)))
/-- _law_heads: 0=drawn 1=heads 2=first 3=alike 4=second 5=old 6=new -/
noncomputable def f18 : List MS := [.set 1 (.list [.int 0, .int 1, .int 2, .int 3]), .forr (.tup [2, 3, 4]) (.val (.var 0)) [.ite (.val (.var 3)) [.set 5 (.subv 1 (.var 2)), .set 6 (.subv 1 (.var 4)), .setc 1 (.ite (.cmp .Eq (.var 0) (.var 2)) (.var 1) (.var 0)) .one (.var 1) [] [6, 5]] []], .ret (.var 1)]
noncomputable def cf18 : Cx := ⟨scopeAt 76, [("drawn" : Str), ("heads" : Str), ("first" : Str), ("alike" : Str), ("second" : Str), ("old" : Str), ("new" : Str)]⟩
theorem tr_f18 (orc : Nat → List D → Option D) : TrSs ⟨gcs, fnNames, orc⟩ cf18 f18 (bodyAt 76) := .cons (.set rfl (.list (.cons (.int _ _ _) (.cons (.int _ _ _) (.cons (.int _ _ _) (.cons (.int _ _ _) (.nil)))))) rfl) (.cons (.forr (.tup _ _ (.cons (⟨_, _, rfl, rfl⟩) (.cons (⟨_, _, rfl, rfl⟩) (.cons (⟨_, _, rfl, rfl⟩) (.nil))))) (.val (.var _ rfl rfl) (fun _ _ => rfl)) (.cons (.ite (.val (.var _ rfl rfl) (fun _ _ => rfl)) (.cons (.set rfl (.subv rfl rfl (.var _ rfl rfl)) rfl) (.cons (.set rfl (.subv rfl rfl (.var _ rfl rfl)) rfl) (.cons (.setc rfl rfl rfl (by decide +kernel) (fnm := [("new" : Str), ("old" : Str)]) (.one _ _) (.var _ rfl rfl) (fun _ _ => rfl) (.nil) (.ite (.cmp (.var _ rfl rfl) (.var _ rfl rfl) rfl) (.var _ rfl rfl) (.var _ rfl rfl)) rfl (by decide +kernel) (by decide +kernel) (by decide +kernel) (by decide +kernel) (by decide +kernel) (.cons (⟨rfl, rfl, rfl⟩) (.cons (⟨rfl, rfl, rfl⟩) (.nil)))) (.nil)))) (.nil)) (.nil))) (.cons (.ret (.var _ rfl rfl)) (.nil)))
/-- _law_ways: 0=heads 1=drawn 2=unlike 3=ways 4=i 5=j 6=k 7=places 8=word 9=one 10=two -/
noncomputable def f19 : List MS := [.setc 2 (.tup [.subv 3 (.var 0), .subv 3 (.var 2)]) (.tup 3) (.var 1) [.not (.val (.var 1))] [0], .ite (.cmp .NotEq (.comp (.int 1) (.tup 2) (.var 2) [.cmp .Eq (.var 0) (.var 1)] []) (.list [])) [.ret (.int 0)] [], .news 3, .forr (.one 4) (.range (.int 4)) [.forr (.one 5) (.range (.int 4)) [.forr (.one 6) (.range (.int 4)) [.ite (.and [.cmp .NotEq (.var 4) (.var 5), .cmp .NotEq (.var 4) (.var 6), .cmp .NotEq (.var 5) (.var 6)]) [.set 7 (.list [.var 4, .var 5, .var 6, .bin .Sub (.bin .Sub (.bin .Sub (.int 6) (.var 4)) (.var 5)) (.var 6)]), .set 8 (.int 0), .forr (.tup [9, 10]) (.val (.var 2)) [.set 8 (.bin .Add (.bin .Mult (.int 2) (.var 8)) (.ite (.cmp .Lt (.subv 7 (.var 9)) (.subv 7 (.var 10))) (.int 1) (.int 0)))], .adds 3 (.var 8)] []]]], .freeze 3, .ret (.bi .len (.var 3) [])]
noncomputable def cf19 : Cx := ⟨scopeAt 77, [("heads" : Str), ("drawn" : Str), ("unlike" : Str), ("ways" : Str), ("i" : Str), ("j" : Str), ("k" : Str), ("places" : Str), ("word" : Str), ("one" : Str), ("two" : Str)]⟩
theorem tr_f19 (orc : Nat → List D → Option D) : TrSs ⟨gcs, fnNames, orc⟩ cf19 f19 (bodyAt 77) := .cons (.setc rfl rfl rfl (by decide +kernel) (fnm := [("heads" : Str)]) (.tup (.cons (⟨_, rfl⟩) (.cons (⟨_, rfl⟩) (.cons (⟨_, rfl⟩) (.nil)))) rfl) (.var _ rfl rfl) (fun _ _ => rfl) (.cons (.not (.val (.var _ rfl rfl) (fun _ _ => rfl))) (.nil)) (.tup (.cons (.subv rfl rfl (.var _ rfl rfl)) (.cons (.subv rfl rfl (.var _ rfl rfl)) (.nil)))) rfl (by decide +kernel) (by decide +kernel) (by decide +kernel) (by decide +kernel) (by decide +kernel) (.cons (⟨rfl, rfl, rfl⟩) (.nil))) (.cons (.ite (.cmp (.comp (fnm := []) (.tup (.cons (⟨_, rfl⟩) (.cons (⟨_, rfl⟩) (.nil))) rfl) (.var _ rfl rfl) (fun _ _ => rfl) (.cons (.cmp (.var _ rfl rfl) (.var _ rfl rfl) rfl) (.nil)) (.int _ _ _) rfl (by decide +kernel) (by decide +kernel) (by decide +kernel) (by decide +kernel) (by decide +kernel) (.nil)) (.list (.nil)) rfl) (.cons (.ret (.int _ _ _)) (.nil)) (.nil)) (.cons (.news rfl rfl) (.cons (.forr (.one _ rfl) (.range _ _ rfl (.int _ _ _)) (.cons (.forr (.one _ rfl) (.range _ _ rfl (.int _ _ _)) (.cons (.forr (.one _ rfl) (.range _ _ rfl (.int _ _ _)) (.cons (.ite (.and (.cons (.cmp (.var _ rfl rfl) (.var _ rfl rfl) rfl) (.cons (.cmp (.var _ rfl rfl) (.var _ rfl rfl) rfl) (.cons (.cmp (.var _ rfl rfl) (.var _ rfl rfl) rfl) (.nil))))) (.cons (.set rfl (.list (.cons (.var _ rfl rfl) (.cons (.var _ rfl rfl) (.cons (.var _ rfl rfl) (.cons (.bin (.bin (.bin (.int _ _ _) (.var _ rfl rfl)) (.var _ rfl rfl)) (.var _ rfl rfl)) (.nil)))))) rfl) (.cons (.set rfl (.int _ _ _) rfl) (.cons (.forr (.tup _ _ (.cons (⟨_, _, rfl, rfl⟩) (.cons (⟨_, _, rfl, rfl⟩) (.nil)))) (.val (.var _ rfl rfl) (fun _ _ => rfl)) (.cons (.set rfl (.bin (.bin (.int _ _ _) (.var _ rfl rfl)) (.ite (.cmp (.subv rfl rfl (.var _ rfl rfl)) (.subv rfl rfl (.var _ rfl rfl)) rfl) (.int _ _ _) (.int _ _ _))) rfl) (.nil))) (.cons (.adds rfl rfl (.var _ rfl rfl) rfl) (.nil))))) (.nil)) (.nil))) (.nil))) (.nil))) (.freeze (by decide) (.cons (.ret (.bi rfl (.var _ rfl rfl) (.nil))) (.nil))))))
/-- law: 0=script 1=codes 2=told 3=unseen 4=drawn 5=statements 6=seen 7=by_one 8=by_two 9=by_three 10=heads 11=left 12=ways 13=signed -/
noncomputable def f20 : List MS := [.setc 1 (.bin .Mod (.var 0) (.int 1000000)) .one (.slice (.var 0) none (some (.int 8))) [] [], .set 2 (.bin .Add (.var 1) (.slice (.list [.int 69173, .int 6, .int 14844, .int 909, .int 565, .int 7805]) (some (.bi .len (.var 1) [])) none)), .set 3 (.bi .chr (.sub (.list [.int 173, .int 847, .int 6156, .int 8205, .int 8288, .int 65039]) (.bin .Mod (.bin .FloorDiv (.subv 2 (.int 1)) (.int 2)) (.int 6))) []), .setc 4 (.call 9 (.var 0) []) .one (.slice (.var 2) (some (.int 2)) none) [] [], .set 5 (.call 12 (.call 11 (.call 10 (.slice (.var 2) (some (.int 2)) none) [.var 3]) []) []), .ite (.cmp .NotEq (.var 5) (.var 4)) [.ret (.bool false)] [], .set 6 (.call 15 (.subv 2 (.int 0)) [.bin .Mod (.bin .FloorDiv (.subv 2 (.int 0)) (.int 65536)) (.int 6), .bin .Add (.bin .Mod (.subv 2 (.int 1)) (.int 2)) (.int 1)]), .ite (.cmp .Eq (.var 6) (.list [])) [.ret (.bool false)] [], .set 7 (.call 17 (.list [.int 0]) [.var 6, .var 5]), .set 8 (.call 17 (.list [.int 0, .int 3]) [.var 6, .var 5]), .set 9 (.call 17 (.list [.int 0, .int 2, .int 4]) [.var 6, .var 5]), .set 10 (.call 18 (.var 4) []), .set 11 (.bi .len (.bi .set (.var 10) []) []), .set 12 (.call 19 (.var 10) [.var 4]), .set 13 (.ite (.cmp .Eq (.bin .Mod (.var 11) (.int 2)) (.int 0)) (.var 12) (.neg (.var 12))), .ret (.cmp .Eq (.var 13) (.bin .Sub (.bin .Add (.bin .Sub (.ite (.cmp .Eq (.var 11) (.int 4)) (.int 24) (.int 0)) (.var 9)) (.bin .Mult (.int 4) (.var 8))) (.bin .Mult (.int 6) (.var 7))))]
noncomputable def cf20 : Cx := ⟨scopeAt 78, [("script" : Str), ("codes" : Str), ("told" : Str), ("unseen" : Str), ("drawn" : Str), ("statements" : Str), ("seen" : Str), ("by_one" : Str), ("by_two" : Str), ("by_three" : Str), ("heads" : Str), ("left" : Str), ("ways" : Str), ("signed" : Str)]⟩
theorem tr_f20 (orc : Nat → List D → Option D) : TrSs ⟨gcs, fnNames, orc⟩ cf20 f20 (bodyAt 78) := .cons (.setc rfl rfl rfl (by decide +kernel) (fnm := []) (.one _ _) (.slice (.var _ rfl rfl) .none (.some (.int _ _ _))) (fun _ _ => rfl) (.nil) (.bin (.var _ rfl rfl) (.int _ _ _)) rfl (by decide +kernel) (by decide +kernel) (by decide +kernel) (by decide +kernel) (by decide +kernel) (.nil)) (.cons (.set rfl (.bin (.var _ rfl rfl) (.slice (.list (.cons (.int _ _ _) (.cons (.int _ _ _) (.cons (.int _ _ _) (.cons (.int _ _ _) (.cons (.int _ _ _) (.cons (.int _ _ _) (.nil)))))))) (.some (.bi rfl (.var _ rfl rfl) (.nil))) .none)) rfl) (.cons (.set rfl (.bi rfl (.sub (.list (.cons (.int _ _ _) (.cons (.int _ _ _) (.cons (.int _ _ _) (.cons (.int _ _ _) (.cons (.int _ _ _) (.cons (.int _ _ _) (.nil)))))))) (.bin (.bin (.subv rfl rfl (.int _ _ _)) (.int _ _ _)) (.int _ _ _))) (.nil)) rfl) (.cons (.setc rfl rfl rfl (by decide +kernel) (fnm := []) (.one _ _) (.slice (.var _ rfl rfl) (.some (.int _ _ _)) .none) (fun _ _ => rfl) (.nil) (.call rfl rfl rfl (.var _ rfl rfl) (.nil)) rfl (by decide +kernel) (by decide +kernel) (by decide +kernel) (by decide +kernel) (by decide +kernel) (.nil)) (.cons (.set rfl (.call rfl rfl rfl (.call rfl rfl rfl (.call rfl rfl rfl (.slice (.var _ rfl rfl) (.some (.int _ _ _)) .none) (.cons (.var _ rfl rfl) (.nil))) (.nil)) (.nil)) rfl) (.cons (.ite (.cmp (.var _ rfl rfl) (.var _ rfl rfl) rfl) (.cons (.ret (.bool _ _ _)) (.nil)) (.nil)) (.cons (.set rfl (.call rfl rfl rfl (.subv rfl rfl (.int _ _ _)) (.cons (.bin (.bin (.subv rfl rfl (.int _ _ _)) (.int _ _ _)) (.int _ _ _)) (.cons (.bin (.bin (.subv rfl rfl (.int _ _ _)) (.int _ _ _)) (.int _ _ _)) (.nil)))) rfl) (.cons (.ite (.cmp (.var _ rfl rfl) (.list (.nil)) rfl) (.cons (.ret (.bool _ _ _)) (.nil)) (.nil)) (.cons (.set rfl (.call rfl rfl rfl (.list (.cons (.int _ _ _) (.nil))) (.cons (.var _ rfl rfl) (.cons (.var _ rfl rfl) (.nil)))) rfl) (.cons (.set rfl (.call rfl rfl rfl (.list (.cons (.int _ _ _) (.cons (.int _ _ _) (.nil)))) (.cons (.var _ rfl rfl) (.cons (.var _ rfl rfl) (.nil)))) rfl) (.cons (.set rfl (.call rfl rfl rfl (.list (.cons (.int _ _ _) (.cons (.int _ _ _) (.cons (.int _ _ _) (.nil))))) (.cons (.var _ rfl rfl) (.cons (.var _ rfl rfl) (.nil)))) rfl) (.cons (.set rfl (.call rfl rfl rfl (.var _ rfl rfl) (.nil)) rfl) (.cons (.set rfl (.bi rfl (.bi rfl (.var _ rfl rfl) (.nil)) (.nil)) rfl) (.cons (.set rfl (.call rfl rfl rfl (.var _ rfl rfl) (.cons (.var _ rfl rfl) (.nil))) rfl) (.cons (.set rfl (.ite (.cmp (.bin (.var _ rfl rfl) (.int _ _ _)) (.int _ _ _) rfl) (.var _ rfl rfl) (.neg (.var _ rfl rfl))) rfl) (.cons (.ret (.cmp (.var _ rfl rfl) (.bin (.bin (.bin (.ite (.cmp (.var _ rfl rfl) (.int _ _ _) rfl) (.int _ _ _) (.int _ _ _)) (.var _ rfl rfl)) (.bin (.int _ _ _) (.var _ rfl rfl))) (.bin (.int _ _ _) (.var _ rfl rfl))) rfl)) (.nil))))))))))))))))
end Mine

namespace Mine
/-! M17: what the functions give, as the evaluator says -/
noncomputable def runF (P : Prg) (c : Cx) (ms : List MS) (k : Nat) (ds : List D) : Option D :=
  if ds.length = k then (match exL P ms (start c ds) with | some (.ret r) => some r | _ => none) else none
noncomputable def orc0 : Nat → List D → Option D := fun _ _ => none
noncomputable def P0 : Prg := ⟨gcs, fnNames, orc0⟩
noncomputable def orc1 : Nat → List D → Option D
  | 0, ds => runF P0 cf0 f0 3 ds
  | 1, ds => runF P0 cf1 f1 3 ds
  | 2, ds => runF P0 cf2 f2 3 ds
  | 3, ds => runF P0 cf3 f3 3 ds
  | 4, ds => runF P0 cf4 f4 1 ds
  | 5, ds => runF P0 cf5 f5 1 ds
  | 6, ds => runF P0 cf6 f6 1 ds
  | 7, ds => runF P0 cf7 f7 1 ds
  | 8, ds => runF P0 cf8 f8 1 ds
  | 9, ds => runF P0 cf9 f9 1 ds
  | 14, ds => runF P0 cf14 f14 4 ds
  | 16, ds => runF P0 cf16 f16 2 ds
  | 18, ds => runF P0 cf18 f18 1 ds
  | 19, ds => runF P0 cf19 f19 2 ds
  | _, _ => none
noncomputable def P1 : Prg := ⟨gcs, fnNames, orc1⟩
noncomputable def orc2 : Nat → List D → Option D
  | 10, ds => runF P1 cf10 f10 2 ds
  | 11, ds => runF P1 cf11 f11 1 ds
  | 12, ds => runF P1 cf12 f12 1 ds
  | 13, ds => runF P1 cf13 f13 4 ds
  | 17, ds => runF P1 cf17 f17 3 ds
  | i, ds => orc1 i ds
noncomputable def P2 : Prg := ⟨gcs, fnNames, orc2⟩
noncomputable def orc3 : Nat → List D → Option D
  | 15, ds => runF P2 cf15 f15 3 ds
  | i, ds => orc2 i ds
noncomputable def P3 : Prg := ⟨gcs, fnNames, orc3⟩
noncomputable def triOf : Option D → Option (Int × Int × Int)
  | some (.tup [.int a, .int b, .int d]) => some (a, b, d)
  | _ => none
theorem triOf_some {x : Option D} {a b d : Int} (h : triOf x = some (a, b, d)) : x = some (.tup [.int a, .int b, .int d]) := by
  cases x with
  | none => exact no_none h
  | some y => cases y with
    | tup l => cases l with
      | nil => exact no_none h
      | cons p l => cases p with
        | int p => cases l with
          | nil => exact no_none h
          | cons q l => cases q with
            | int q => cases l with
              | nil => exact no_none h
              | cons r l => cases r with
                | int r => cases l with
                  | cons _ _ => exact no_none h
                  | nil => cases some_inj h; rfl
                | _ => exact no_none h
            | _ => exact no_none h
        | _ => exact no_none h
    | _ => exact no_none h
noncomputable def sentOk (c s v r : Nat) : Bool :=
  match triOf (orc2 13 [.int c, .int s, .int v, .int r]) with
  | some (a, b, d) => (match triOf (orc1 14 [.int c, .int s, .int v, .int r]) with
    | some (a', b', d') => a == a' && b == b' && d == d' && a == 1000 * ((c % 6 + 3 * r) % 6 : Nat)
    | none => false)
  | none => false
theorem t1 : sentOk 3 2 4 1 = true := by decide +kernel
end Mine

namespace Mine
/-! M18: the evaluator, step by step; the drawn statement of one number -/
section
variable {P : Prg} {σ σ' : Sg}
theorem runF_ret {c : Cx} {ms : List MS} {k : Nat} {ds : List D} {r : D} (hk : ds.length = k) (h : exL P ms (start c ds) = some (.ret r)) : runF P c ms k ds = some r := by
  unfold runF; rw [if_pos hk, h]
theorem exL_next {m : MS} {ms : List MS} (h : exS P m σ = some (.next σ')) : exL P (m :: ms) σ = exL P ms σ' := by simp only [exL, h]
theorem exL_retn {m : MS} {ms : List MS} {d : D} (h : exS P m σ = some (.ret d)) : exL P (m :: ms) σ = some (.ret d) := by simp only [exL, h]
theorem exS_set {x : Nat} {e : ME} {d : D} (h : ev P e σ = some d) : exS P (.set x e) σ = some (.next (σ.set x (some (.val d)))) := by simp only [exS, h]
theorem exS_unp {xs : List Nat} {e : ME} {ds : List D} (h : ev P e σ = some (.tup ds)) (hl : ds.length = xs.length) : exS P (.unp xs e) σ = some (.next (setMany xs ds σ)) := by simp only [exS, h, if_pos hl]
theorem exS_itet {t : MT} {a b : List MS} (h : evT P t σ = some true) : exS P (.ite t a b) σ = exL P a σ := by simp only [exS, h]
theorem exS_itef {t : MT} {a b : List MS} (h : evT P t σ = some false) : exS P (.ite t a b) σ = exL P b σ := by simp only [exS, h]
theorem exS_ret {e : ME} {d : D} (h : ev P e σ = some d) : exS P (.ret e) σ = some (.ret d) := by simp only [exS, h]
theorem ev_bin {op : Operator} {a b : ME} {x y : D} (ha : ev P a σ = some x) (hb : ev P b σ = some y) : ev P (.bin op a b) σ = binop op x y := by simp only [ev, ha, hb]
theorem ev_cmp {op : CmpOp} {a b : ME} {x y : D} {r : Bool} (ha : ev P a σ = some x) (hb : ev P b σ = some y) (h : cmpop op x y = some r) : ev P (.cmp op a b) σ = some (.bool r) := by simp only [ev, ha, hb, h]
theorem evT_cmp {op : CmpOp} {a b : ME} {x y : D} (ha : ev P a σ = some x) (hb : ev P b σ = some y) : evT P (.cmp op a b) σ = cmpop op x y := by simp only [evT, ha, hb]
theorem ev_sub {a i : ME} {x y : D} (ha : ev P a σ = some x) (hb : ev P i σ = some y) : ev P (.sub a i) σ = subop x y := by simp only [ev, ha, hb]
theorem ev_subv {n : Nat} {i : ME} {k : Int} {d : D} (hi : ev P i σ = some (.int k)) (hn : σ[n]? = some (some (.val d))) : ev P (.subv n i) σ = subop d (.int k) := by simp only [ev, hi, hn]
theorem ev_subo {n : Nat} {i : ME} {k : Int} {ds : List D} (hi : ev P i σ = some (.int k)) (hn : σ[n]? = some (some (.own (.list ds)))) : ev P (.subv n i) σ = idx ds k := by simp only [ev, hi, hn]
theorem ev_call {f : Nat} {a : ME} {as : List ME} {x : D} {xs : List D} (ha : ev P a σ = some x) (hb : evs P as σ = some xs) : ev P (.call f a as) σ = P.orc f (x :: xs) := by simp only [ev, ha, hb]
theorem ev_bi {f : BI} {a : ME} {as : List ME} {x : D} {xs : List D} (ha : ev P a σ = some x) (hb : evs P as σ = some xs) : ev P (.bi f a as) σ = biop f (x :: xs) := by simp only [ev, ha, hb]
theorem evs_cons {a : ME} {as : List ME} {x : D} {xs : List D} (ha : ev P a σ = some x) (hb : evs P as σ = some xs) : evs P (a :: as) σ = some (x :: xs) := by simp only [evs, ha, hb]
theorem ev_tup {as : List ME} {xs : List D} (h : evs P as σ = some xs) (hl : xs.length ≤ 100000) : ev P (.tup as) σ = some (.tup xs) := by simp only [ev, h, if_pos hl]
theorem ev_list {as : List ME} {xs : List D} (h : evs P as σ = some xs) (hl : xs.length ≤ 100000) : ev P (.list as) σ = some (.list xs) := by simp only [ev, h, if_pos hl]
theorem exS_app {x : Nat} {e : ME} {ds : List D} {d : D} (ho : ownL σ x = some ds) (h : ev P e σ = some d) (hl : ds.length ≤ 100000) : exS P (.app x e) σ = some (.next (σ.set x (some (.own (.list (ds ++ [d])))))) := by simp only [exS, ho, h, if_pos hl]
theorem exS_forr {tg : MTg} {it : MI} {body : List MS} {ds : List D} (h : evI P tg it σ = some ds) : exS P (.forr tg it body) σ = forF (setTg tg) (exL P body) ds σ := by simp only [exS, h]
end
theorem binop_mod {a b : Int} (h : ¬ (b = 0 ∨ 1073741824 ≤ b.natAbs)) : binop .Mod (.int a) (.int b) = some (.int (a.fmod b)) := by
  show (if _ then none else some _) = _
  rw [if_neg h]
theorem binop_div {a b : Int} (h : ¬ (b = 0 ∨ 1073741824 ≤ b.natAbs)) : binop .FloorDiv (.int a) (.int b) = some (.int (a.fdiv b)) := by
  show (if _ then none else some _) = _
  rw [if_neg h]
theorem forF_fold {S O : Type} (mk : S → O → Sg) (step : S → D → S) (Inv : S → Prop) {g : D → Sg → Option Sg} {b : Sg → Option Out} : ∀ (ds : List D) (s : S) (o : O), Inv s →
    (∀ d ∈ ds, ∀ s o, Inv s → Inv (step s d) ∧ ∃ τ o', g d (mk s o) = some τ ∧ b τ = some (.next (mk (step s d) o'))) → ∃ o', Inv (ds.foldl step s) ∧ forF g b ds (mk s o) = some (.next (mk (ds.foldl step s) o'))
  | [], s, o, hi, _ => ⟨o, hi, rfl⟩
  | d :: ds, s, o, hi, h => by
    obtain ⟨hi', τ, o', e1, e2⟩ := h d (by simp) s o hi
    obtain ⟨o'', h1, h2⟩ := forF_fold mk step Inv ds (step s d) o' hi' fun d' hd' => h d' (by simp [hd'])
    exact ⟨o'', h1, by unfold forF; simp only [e1, e2]; exact h2⟩

abbrev Stm := Fin 4 × Bool × Fin 4
noncomputable def toD (s : Stm) : D := .tup [.int (s.1.val : Int), .bool s.2.1, .int (s.2.2.val : Int)]
noncomputable def pairP : Nat → Fin 4 × Fin 4
  | 0 => (0, 1) | 1 => (0, 2) | 2 => (0, 3) | 3 => (1, 2) | 4 => (1, 3) | _ => (2, 3)
noncomputable def drawnK (a b e : Int) : Stm :=
  if b = 1 then ((pairP a.toNat).2, e == 0, (pairP a.toNat).1) else ((pairP a.toNat).1, e == 0, (pairP a.toNat).2)
noncomputable def drawnP (c : Int) : Stm := drawnK (c.fmod 6) ((c.fdiv 6).fmod 2) ((c.fdiv 12).fmod 6)
theorem fmod_range (c : Int) {k : Int} (hk : 0 < k) : 0 ≤ c.fmod k ∧ c.fmod k < k := ⟨Int.fmod_nonneg_of_pos c hk, Int.fmod_lt_of_pos c hk⟩
theorem fmod_cases6 (c : Int) : c.fmod 6 = 0 ∨ c.fmod 6 = 1 ∨ c.fmod 6 = 2 ∨ c.fmod 6 = 3 ∨ c.fmod 6 = 4 ∨ c.fmod 6 = 5 := by
  have := fmod_range c (show (0 : Int) < 6 by decide); omega
theorem fmod_cases2 (c : Int) : c.fmod 2 = 0 ∨ c.fmod 2 = 1 := by
  have := fmod_range c (show (0 : Int) < 2 by decide); omega
noncomputable def pairsD : D := .list [.tup [.int 0, .int 1], .tup [.int 0, .int 2], .tup [.int 0, .int 3], .tup [.int 1, .int 2], .tup [.int 1, .int 3], .tup [.int 2, .int 3]]
theorem pair_at (c : Int) : subop pairsD (.int (c.fmod 6)) = some (.tup [.int ((pairP (c.fmod 6).toNat).1.val : Int), .int ((pairP (c.fmod 6).toNat).2.val : Int)]) := by
  rcases fmod_cases6 c with h | h | h | h | h | h <;> (rw [h]; rfl)
theorem spec9 (c : Int) : orc1 9 [.int c] = some (toD (drawnP c)) := by
  unfold drawnP
  refine runF_ret rfl ?_
  have s0 : start cf9 [.int c] = [some (.val (.int c)), none, none] := rfl
  rw [s0]
  generalize hp : pairP (c.fmod 6).toNat = pq
  have e1 : ev P0 (.sub (.list [.tup [.int 0, .int 1], .tup [.int 0, .int 2], .tup [.int 0, .int 3], .tup [.int 1, .int 2], .tup [.int 1, .int 3], .tup [.int 2, .int 3]]) (.bin .Mod (.var 0) (.int 6))) [some (.val (.int c)), none, none] = some (.tup [.int (pq.1.val : Int), .int (pq.2.val : Int)]) :=
    (show _ = subop pairsD (.int (c.fmod 6)) from rfl).trans ((pair_at c).trans (by rw [hp]))
  refine (exL_next (exS_unp e1 rfl)).trans ?_
  show exL P0 _ [some (.val (.int c)), some (.val (.int (pq.1.val : Int))), some (.val (.int (pq.2.val : Int)))] = _
  have fin : ∀ p q : Int, exL P0 [.ret (.tup [.var 1, .cmp .Eq (.bin .Mod (.bin .FloorDiv (.var 0) (.int 12)) (.int 6)) (.int 0), .var 2])] [some (.val (.int c)), some (.val (.int p)), some (.val (.int q))] =
      some (.ret (.tup [.int p, .bool ((c.fdiv 12).fmod 6 == 0), .int q])) := fun p q => rfl
  have e2 : ∀ σ : Sg, σ = [some (.val (.int c)), some (.val (.int (pq.1.val : Int))), some (.val (.int (pq.2.val : Int)))] → evT P0 (.cmp .Eq (.bin .Mod (.bin .FloorDiv (.var 0) (.int 6)) (.int 2)) (.int 1)) σ = some ((c.fdiv 6).fmod 2 == 1) := fun σ h => by subst h; rfl
  rcases fmod_cases2 (c.fdiv 6) with h | h
  · refine (exL_next (σ' := [some (.val (.int c)), some (.val (.int (pq.1.val : Int))), some (.val (.int (pq.2.val : Int)))]) ((exS_itef ((e2 _ rfl).trans (by rw [h]; rfl))).trans rfl)).trans ?_
    rw [fin, h]; unfold drawnK; rw [hp]; rfl
  · refine (exL_next (σ' := [some (.val (.int c)), some (.val (.int (pq.2.val : Int))), some (.val (.int (pq.1.val : Int)))]) ((exS_itet ((e2 _ rfl).trans (by rw [h]; rfl))).trans rfl)).trans ?_
    rw [fin, h]; unfold drawnK; rw [hp]; rfl
end Mine

namespace Mine
/-! M19: holds, paintings, heads, ways -/
theorem forF_cons {g : D → Sg → Option Sg} {b : Sg → Option Out} {d : D} {ds : List D} {σ τ : Sg} (h : g d σ = some τ) : forF g b (d :: ds) σ =
    (match b τ with
      | some (.next σ') => forF g b ds σ'
      | some (.ret r) => some (.ret r)
      | none => none) := by simp only [forF, h] <;> rfl
theorem evs_nil {P : Prg} {σ : Sg} : evs P [] σ = some [] := by simp only [evs]
theorem forF_foldN {S O X : Type} (mk : S → O → Sg) (step : S → X → S) (φ : X → D) (Inv : Nat → S → Prop) {g : D → Sg → Option Sg} {b : Sg → Option Out} : ∀ (xs : List X) (k : Nat) (s : S) (o : O), Inv k s →
    (∀ x ∈ xs, ∀ j s o, k ≤ j → j < k + xs.length → Inv j s → Inv (j + 1) (step s x) ∧ ∃ τ o', g (φ x) (mk s o) = some τ ∧ b τ = some (.next (mk (step s x) o'))) →
    Inv (k + xs.length) (xs.foldl step s) ∧ ∃ o', forF g b (xs.map φ) (mk s o) = some (.next (mk (xs.foldl step s) o'))
  | [], k, s, o, hi, _ => ⟨hi, o, rfl⟩
  | x :: xs, k, s, o, hi, h => by
    obtain ⟨hi', τ, o', e1, e2⟩ := h x (by simp) k s o (Nat.le_refl _) (by simp) hi
    obtain ⟨h1, o'', h2⟩ := forF_foldN mk step φ Inv xs (k + 1) (step s x) o' hi' fun x' hx' j s o hj hj' => h x' (by simp [hx']) j s o (by omega) (by simp; omega)
    refine ⟨by have e : k + (x :: xs).length = k + 1 + xs.length := by simp; omega
               rw [e]; exact h1, o'', ?_⟩
    show forF g b (φ x :: xs.map φ) _ = _
    unfold forF; simp only [e1, e2]; exact h2
/-- without an invariant -/
theorem forF_fold1 {S O X : Type} (mk : S → O → Sg) (step : S → X → S) (φ : X → D) {g : D → Sg → Option Sg} {b : Sg → Option Out} (xs : List X) (s : S) (o : O)
    (h : ∀ x ∈ xs, ∀ s o, ∃ τ o', g (φ x) (mk s o) = some τ ∧ b τ = some (.next (mk (step s x) o'))) :
    ∃ o', forF g b (xs.map φ) (mk s o) = some (.next (mk (xs.foldl step s) o')) :=
  (forF_foldN mk step φ (fun _ _ => True) xs 0 s o trivial fun x hx j s o _ _ _ => ⟨trivial, h x hx s o⟩).2

abbrev O1 := Option Slot
noncomputable def vi (i : Int) : O1 := some (.val (.int i))
noncomputable def vb (b : Bool) : O1 := some (.val (.bool b))
noncomputable def fourD (x : Fin 4 → Int) : D := .list [.int (x 0), .int (x 1), .int (x 2), .int (x 3)]
theorem four_at (x : Fin 4 → Int) (p : Fin 4) : subop (fourD x) (.int (p.val : Int)) = some (.int (x p)) := by
  match p with
  | 0 => rfl
  | 1 => rfl
  | 2 => rfl
  | 3 => rfl
/-- f16 -/
noncomputable def sat (x : Fin 4 → Int) (s : Stm) : Bool := (x s.1 == x s.2.2) == s.2.1
noncomputable def body16 : List MS := [.ite (.cmp .NotEq (.cmp .Eq (.subv 0 (.var 2)) (.subv 0 (.var 4))) (.var 3)) [.ret (.bool false)] []]
theorem body16_at (P : Prg) (x : Fin 4 → Int) (st : O1) (s : Stm) : exL P body16 [some (.val (fourD x)), st, vi s.1.val, vb s.2.1, vi s.2.2.val] =
    if sat x s = true then some (.next [some (.val (fourD x)), st, vi s.1.val, vb s.2.1, vi s.2.2.val]) else some (.ret (.bool false)) := by
  have e1 : ev P (.subv 0 (.var 2)) [some (.val (fourD x)), st, vi s.1.val, vb s.2.1, vi s.2.2.val] = some (.int (x s.1)) := (ev_subv (k := s.1.val) (d := fourD x) rfl rfl).trans (four_at x _)
  have e2 : ev P (.subv 0 (.var 4)) [some (.val (fourD x)), st, vi s.1.val, vb s.2.1, vi s.2.2.val] = some (.int (x s.2.2)) := (ev_subv (k := s.2.2.val) (d := fourD x) rfl rfl).trans (four_at x _)
  have e3 := ev_cmp (op := .Eq) e1 e2 (r := x s.1 == x s.2.2) rfl
  have e4 := evT_cmp (op := .NotEq) e3 (b := .var 3) (y := .bool s.2.1) rfl
  have e5 : cmpop .NotEq (.bool (x s.1 == x s.2.2)) (.bool s.2.1) = some (!sat x s) := rfl
  cases hs : sat x s with
  | true =>
    rw [if_pos rfl]
    exact exL_next ((exS_itef (e4.trans (e5.trans (by rw [hs]; rfl)))).trans rfl)
  | false =>
    rw [if_neg (by decide)]
    exact exL_retn ((exS_itet (e4.trans (e5.trans (by rw [hs]; rfl)))).trans rfl)
theorem loop16 (P : Prg) (x : Fin 4 → Int) (st : O1) : ∀ (ss : List Stm) (o2 o3 o4 : O1),
    (ss.all (sat x) = true → ∃ o2' o3' o4', forF (setTg (.tup [2, 3, 4])) (exL P body16) (ss.map toD) [some (.val (fourD x)), st, o2, o3, o4] = some (.next [some (.val (fourD x)), st, o2', o3', o4'])) ∧
    (ss.all (sat x) = false → forF (setTg (.tup [2, 3, 4])) (exL P body16) (ss.map toD) [some (.val (fourD x)), st, o2, o3, o4] = some (.ret (.bool false)))
  | [], o2, o3, o4 => ⟨fun _ => ⟨o2, o3, o4, rfl⟩, fun h => by cases h⟩
  | s :: ss, o2, o3, o4 => by
    have hb := body16_at P x st s
    have hg : setTg (.tup [2, 3, 4]) (toD s) [some (.val (fourD x)), st, o2, o3, o4] = some [some (.val (fourD x)), st, vi s.1.val, vb s.2.1, vi s.2.2.val] := rfl
    have hf : forF (setTg (.tup [2, 3, 4])) (exL P body16) ((s :: ss).map toD) [some (.val (fourD x)), st, o2, o3, o4] =
        (match exL P body16 [some (.val (fourD x)), st, vi s.1.val, vb s.2.1, vi s.2.2.val] with
          | some (.next σ') => forF (setTg (.tup [2, 3, 4])) (exL P body16) (ss.map toD) σ'
          | some (.ret r) => some (.ret r)
          | none => none) := by rw [List.map_cons]; exact forF_cons hg
    rw [hf, hb]
    obtain ⟨h1, h2⟩ := loop16 P x st ss (vi s.1.val) (vb s.2.1) (vi s.2.2.val)
    rw [List.all_cons]
    cases hs : sat x s with
    | true => rw [if_pos rfl]; exact ⟨fun h => h1 (by simpa using h), fun h => h2 (by simpa using h)⟩
    | false => rw [if_neg (by decide)]; exact ⟨fun h => by simp at h, fun _ => rfl⟩
theorem spec16 (x : Fin 4 → Int) (ss : List Stm) (hl : ss.length ≤ 100000) : orc1 16 [fourD x, .list (ss.map toD)] = some (.bool (ss.all (sat x))) := by
  refine runF_ret rfl ?_
  have s0 : start cf16 [fourD x, .list (ss.map toD)] = [some (.val (fourD x)), some (.val (.list (ss.map toD))), none, none, none] := rfl
  rw [s0]
  have ei : evI P0 (.tup [2, 3, 4]) (.val (.var 1)) [some (.val (fourD x)), some (.val (.list (ss.map toD))), none, none, none] = some (ss.map toD) := by
    show (if (ss.map toD).length ≤ 100000 then some (ss.map toD) else none) = _
    rw [if_pos (by simpa using hl)]
  obtain ⟨h1, h2⟩ := loop16 P0 x (some (.val (.list (ss.map toD)))) ss none none none
  cases h : ss.all (sat x) with
  | true =>
    obtain ⟨o2, o3, o4, e⟩ := h1 h
    exact (exL_next ((exS_forr ei).trans e)).trans rfl
  | false => exact exL_retn ((exS_forr ei).trans (h2 h))

/-- f17 -/
noncomputable def spotsP (l0 a b c : Int) (hue : Int → Int) : Fin 4 → Int
  | 0 => hue l0 | 1 => hue a | 2 => hue b | 3 => hue c
noncomputable def paintP (ls : List Int) (l0 : Int) (hue : Int → Int) (ss : List Stm) : Int :=
  ls.foldl (fun k a => ls.foldl (fun k b => ls.foldl (fun k c => if ss.all (sat (spotsP l0 a b c hue)) = true then k + 1 else k) k) k) 0
noncomputable def body17 : List MS := [.set 7 (.list [.sub (.subv 1 (.int 0)) (.subv 0 (.neg (.int 1))), .sub (.subv 1 (.int 1)) (.var 4), .sub (.subv 1 (.int 2)) (.var 5), .sub (.subv 1 (.int 3)) (.var 6)]), .ite (.val (.call 16 (.var 7) [.var 2])) [.aug 3 (.int 1)] []]
theorem body17_at {ls : List Int} {l0 : Int} {hue : Int → Int} {es : List (Int × Int)} {ss : List Stm} (h0 : idx (ls.map .int) (-1) = some (.int l0)) (hh : ∀ l ∈ ls, es.lookup l = some (hue l)) (hl0 : l0 ∈ ls) (hl : ss.length ≤ 100000)
    {a b c : Int} (ha : a ∈ ls) (hb : b ∈ ls) (hc : c ∈ ls) (k : Int) (o7 : O1) :
    exL P1 body17 [some (.val (.list (ls.map .int))), some (.val (.list [.dII es, .dII es, .dII es, .dII es])), some (.val (.list (ss.map toD))), vi k, vi a, vi b, vi c, o7] =
    some (.next [some (.val (.list (ls.map .int))), some (.val (.list [.dII es, .dII es, .dII es, .dII es])), some (.val (.list (ss.map toD))), vi (if ss.all (sat (spotsP l0 a b c hue)) = true then k + 1 else k), vi a, vi b, vi c, some (.val (fourD (spotsP l0 a b c hue)))]) := by
  generalize hσ : ([some (.val (.list (ls.map .int))), some (.val (.list [.dII es, .dII es, .dII es, .dII es])), some (.val (.list (ss.map toD))), vi k, vi a, vi b, vi c, o7] : Sg) = σ
  have sub : ∀ l, l ∈ ls → subop (.dII es) (.int l) = some (.int (hue l)) := fun l h => by
    show (match es.lookup l with | some i => some (D.int i) | none => none) = _
    rw [hh l h]
  have e0 : ev P1 (.sub (.subv 1 (.int 0)) (.subv 0 (.neg (.int 1)))) σ = some (.int (hue l0)) := by
    subst hσ
    refine (ev_sub (x := .dII es) (y := .int l0) rfl ?_).trans (sub l0 hl0)
    exact (ev_subv (k := -1) (d := .list (ls.map .int)) rfl rfl).trans h0
  have e1 : ev P1 (.sub (.subv 1 (.int 1)) (.var 4)) σ = some (.int (hue a)) := by
    subst hσ; exact (ev_sub (x := .dII es) (y := .int a) rfl rfl).trans (sub a ha)
  have e2 : ev P1 (.sub (.subv 1 (.int 2)) (.var 5)) σ = some (.int (hue b)) := by
    subst hσ; exact (ev_sub (x := .dII es) (y := .int b) rfl rfl).trans (sub b hb)
  have e3 : ev P1 (.sub (.subv 1 (.int 3)) (.var 6)) σ = some (.int (hue c)) := by
    subst hσ; exact (ev_sub (x := .dII es) (y := .int c) rfl rfl).trans (sub c hc)
  have e4 := ev_list (evs_cons e0 (evs_cons e1 (evs_cons e2 (evs_cons e3 evs_nil)))) (show 4 ≤ 100000 by decide)
  refine (exL_next (exS_set e4)).trans ?_
  subst hσ
  show exL P1 _ [some (.val (.list (ls.map .int))), some (.val (.list [.dII es, .dII es, .dII es, .dII es])), some (.val (.list (ss.map toD))), vi k, vi a, vi b, vi c, some (.val (fourD (spotsP l0 a b c hue)))] = _
  generalize hσ : ([some (.val (.list (ls.map .int))), some (.val (.list [.dII es, .dII es, .dII es, .dII es])), some (.val (.list (ss.map toD))), vi k, vi a, vi b, vi c, some (.val (fourD (spotsP l0 a b c hue)))] : Sg) = σ
  have e5 : ev P1 (.call 16 (.var 7) [.var 2]) σ = some (.bool (ss.all (sat (spotsP l0 a b c hue)))) := by
    subst hσ; exact (ev_call (x := fourD (spotsP l0 a b c hue)) (xs := [.list (ss.map toD)]) rfl rfl).trans (spec16 _ ss hl)
  have e6 : evT P1 (.val (.call 16 (.var 7) [.var 2])) σ = some (ss.all (sat (spotsP l0 a b c hue))) := by simp only [evT, e5]
  cases h : ss.all (sat (spotsP l0 a b c hue)) with
  | true =>
    rw [if_pos rfl]
    refine exL_next ((exS_itet (e6.trans (by rw [h]))).trans ?_)
    subst hσ; rfl
  | false =>
    rw [if_neg (by decide)]
    refine exL_next ((exS_itef (e6.trans (by rw [h]))).trans ?_)
    subst hσ; rfl
theorem spec17 {ls : List Int} {l0 : Int} {hue : Int → Int} {es : List (Int × Int)} {ss : List Stm} (h0 : idx (ls.map .int) (-1) = some (.int l0)) (hh : ∀ l ∈ ls, es.lookup l = some (hue l)) (hl0 : l0 ∈ ls) (hl : ss.length ≤ 100000) (hls : ls.length ≤ 100000) 
    (hsm : small (paintP ls l0 hue ss) = true) :
    orc2 17 [.list (ls.map .int), .list [.dII es, .dII es, .dII es, .dII es], .list (ss.map toD)] = some (.int (paintP ls l0 hue ss * ls.length)) := by
  refine runF_ret rfl ?_
  generalize hL : (some (.val (.list (ls.map .int))) : O1) = L
  generalize hE : (some (.val (.list [.dII es, .dII es, .dII es, .dII es])) : O1) = E
  generalize hT : (some (.val (.list (ss.map toD))) : O1) = T
  have s0 : start cf17 [.list (ls.map .int), .list [.dII es, .dII es, .dII es, .dII es], .list (ss.map toD)] = [L, E, T, none, none, none, none, none] := by subst hL hE hT; rfl
  rw [s0]
  have ei : ∀ (x : Nat) (o3 o4 o5 o6 o7 : O1), evI P1 (.one x) (.val (.var 0)) [L, E, T, o3, o4, o5, o6, o7] = some (ls.map .int) := fun x o3 o4 o5 o6 o7 => by
    subst hL
    show (if (ls.map D.int).length ≤ 100000 then some (ls.map D.int) else none) = _
    rw [if_pos (by simpa using hls)]
  have l3 : ∀ a ∈ ls, ∀ b ∈ ls, ∀ (k : Int) (o6 o7 : O1), ∃ o : O1 × O1, forF (setTg (.one 6)) (exL P1 body17) (ls.map .int) [L, E, T, vi k, vi a, vi b, o6, o7] =
      some (.next [L, E, T, vi (ls.foldl (fun k c => if ss.all (sat (spotsP l0 a b c hue)) = true then k + 1 else k) k), vi a, vi b, o.1, o.2]) := fun a ha b hb k o6 o7 =>
    forF_fold1 (fun (k : Int) (o : O1 × O1) => [L, E, T, vi k, vi a, vi b, o.1, o.2]) (fun k c => if ss.all (sat (spotsP l0 a b c hue)) = true then k + 1 else k) .int ls k (o6, o7) fun c hc k o =>
      ⟨[L, E, T, vi k, vi a, vi b, vi c, o.2], (vi c, some (.val (fourD (spotsP l0 a b c hue)))), rfl, by subst hL hE hT; exact body17_at h0 hh hl0 hl ha hb hc k o.2⟩
  have l2 : ∀ a ∈ ls, ∀ (k : Int) (o5 o6 o7 : O1), ∃ o : O1 × O1 × O1, forF (setTg (.one 5)) (exL P1 [.forr (.one 6) (.val (.var 0)) body17]) (ls.map .int) [L, E, T, vi k, vi a, o5, o6, o7] =
      some (.next [L, E, T, vi (ls.foldl (fun k b => ls.foldl (fun k c => if ss.all (sat (spotsP l0 a b c hue)) = true then k + 1 else k) k) k), vi a, o.1, o.2.1, o.2.2]) := fun a ha k o5 o6 o7 =>
    forF_fold1 (fun (k : Int) (o : O1 × O1 × O1) => [L, E, T, vi k, vi a, o.1, o.2.1, o.2.2]) (fun k b => ls.foldl (fun k c => if ss.all (sat (spotsP l0 a b c hue)) = true then k + 1 else k) k) .int ls k (o5, o6, o7) fun b hb k o => by
      obtain ⟨o', e⟩ := l3 a ha b hb k o.2.1 o.2.2
      exact ⟨[L, E, T, vi k, vi a, vi b, o.2.1, o.2.2], (vi b, o'), rfl, (exL_next ((exS_forr (ei 6 _ _ _ _ _)).trans e)).trans rfl⟩
  have l1 : ∀ (k : Int) (o4 o5 o6 o7 : O1), ∃ o : O1 × O1 × O1 × O1, forF (setTg (.one 4)) (exL P1 [.forr (.one 5) (.val (.var 0)) [.forr (.one 6) (.val (.var 0)) body17]]) (ls.map .int) [L, E, T, vi k, o4, o5, o6, o7] =
      some (.next [L, E, T, vi (ls.foldl (fun k a => ls.foldl (fun k b => ls.foldl (fun k c => if ss.all (sat (spotsP l0 a b c hue)) = true then k + 1 else k) k) k) k), o.1, o.2.1, o.2.2.1, o.2.2.2]) := fun k o4 o5 o6 o7 =>
    forF_fold1 (fun (k : Int) (o : O1 × O1 × O1 × O1) => [L, E, T, vi k, o.1, o.2.1, o.2.2.1, o.2.2.2]) (fun k a => ls.foldl (fun k b => ls.foldl (fun k c => if ss.all (sat (spotsP l0 a b c hue)) = true then k + 1 else k) k) k) .int ls k (o4, o5, o6, o7) fun a ha k o => by
      obtain ⟨o', e⟩ := l2 a ha k o.2.1 o.2.2.1 o.2.2.2
      exact ⟨[L, E, T, vi k, vi a, o.2.1, o.2.2.1, o.2.2.2], (vi a, o'), rfl, (exL_next ((exS_forr (ei 5 _ _ _ _ _)).trans e)).trans rfl⟩
  obtain ⟨o, e⟩ := l1 0 none none none none
  refine (exL_next (σ' := [L, E, T, vi 0, none, none, none, none]) rfl).trans ?_
  refine (exL_next ((exS_forr (ei 4 _ _ _ _ _)).trans e)).trans ?_
  refine exL_retn (exS_ret ((ev_bin (x := .int (paintP ls l0 hue ss)) (y := .int ls.length) rfl ?_).trans ?_))
  · subst hL
    show (if (ls.map D.int).length ≤ 100000 then some (D.int ((ls.map D.int).length : Nat)) else none) = _
    rw [if_pos (by simpa using hls), List.length_map]
  · show (if small _ = true then some _ else none) = _
    rw [if_pos hsm]
end Mine

namespace Mine
/-! M20: heads, ways -/
theorem ev_comp {P : Prg} {σ : Sg} {elt : ME} {tg : Tg} {it : ME} {ifs : List MT} {free : List Nat} {ds rs : List D} (hit : ev P it σ = some (.list ds)) (hl : ds.length ≤ 100000)
    (h : compF (compStep P elt tg ifs (free.map fun i => (σ[i]?).getD none)) ds = some rs) : ev P (.comp elt tg it ifs free) σ = some (.list rs) := by
  simp only [ev, hit, if_pos hl]
  change (match compF (compStep P elt tg ifs (free.map fun i => (σ[i]?).getD none)) ds with | some rs => some (D.list rs) | none => none) = _
  rw [h]
theorem compF_filterMap {X : Type} {f : D → Option (Option D)} {φ : X → D} {r : X → Option D} : ∀ {xs : List X}, (∀ x ∈ xs, f (φ x) = some (r x)) → compF f (xs.map φ) = some (xs.filterMap r)
  | [], _ => rfl
  | x :: xs, h => by
    have ih := compF_filterMap (f := f) (φ := φ) (r := r) (xs := xs) fun y hy => h y (by simp [hy])
    rw [List.map_cons, List.filterMap_cons]
    have h0 := h x (by simp)
    cases hr : r x with
    | none => rw [hr] at h0; simp only [compF, h0, ih]
    | some y => rw [hr] at h0; simp only [compF, h0, ih]
theorem exS_setc {P : Prg} {σ : Sg} {x : Nat} {elt : ME} {tg : Tg} {it : ME} {ifs : List MT} {free : List Nat} {d : D} (h : ev P (.comp elt tg it ifs free) σ = some d) :
    exS P (.setc x elt tg it ifs free) σ = some (.next (σ.set x (some (.val d)))) := by simp only [exS, h]

/-- f18 -/
noncomputable def headsD (h : Fin 4 → Fin 4) : D := fourD fun i => ((h i).val : Int)
noncomputable def merge (h : Fin 4 → Fin 4) (s : Stm) : Fin 4 → Fin 4 := if s.2.1 = true then fun i => if h i = h s.1 then h s.2.2 else h i else h
noncomputable def body18 : List MS := [.ite (.val (.var 3)) [.set 5 (.subv 1 (.var 2)), .set 6 (.subv 1 (.var 4)), .setc 1 (.ite (.cmp .Eq (.var 0) (.var 2)) (.var 1) (.var 0)) .one (.var 1) [] [6, 5]] []]
theorem elt18 (P : Prg) (x a b : Fin 4) : compStep P (.ite (.cmp .Eq (.var 0) (.var 2)) (.var 1) (.var 0)) .one [] [vi b.val, vi a.val] (.int (x.val : Int)) = some (some (.int (((if x = a then b else x) : Fin 4).val : Int))) := by
  have e : evT P (.cmp .Eq (.var 0) (.var 2)) [vi x.val, vi b.val, vi a.val] = some ((x.val : Int) == (a.val : Int)) := rfl
  have k : ev P (.ite (.cmp .Eq (.var 0) (.var 2)) (.var 1) (.var 0)) [vi x.val, vi b.val, vi a.val] = some (.int (((if x = a then b else x) : Fin 4).val : Int)) := by
    by_cases h : x = a
    · subst h
      simp only [ev, e, beq_self_eq_true, if_true]; rfl
    · have : ((x.val : Int) == (a.val : Int)) = false := by
        rw [beq_eq_false_iff_ne]; intro q; exact h (Fin.ext (by omega))
      simp only [ev, e, this, if_neg h]; rfl
  show (match ev P (.ite (.cmp .Eq (.var 0) (.var 2)) (.var 1) (.var 0)) [vi x.val, vi b.val, vi a.val] with | some r => some (some r) | none => none) = _
  rw [k]
theorem body18_at (P : Prg) (dr : O1) (h : Fin 4 → Fin 4) (s : Stm) (o5 o6 : O1) : ∃ o : O1 × O1, exL P body18 [dr, some (.val (headsD h)), vi s.1.val, vb s.2.1, vi s.2.2.val, o5, o6] =
    some (.next [dr, some (.val (headsD (merge h s))), vi s.1.val, vb s.2.1, vi s.2.2.val, o.1, o.2]) := by
  cases hs : s.2.1 with
  | false =>
    refine ⟨(o5, o6), (exL_next ((exS_itef (by rfl)).trans rfl)).trans ?_⟩
    unfold merge; rw [hs, if_neg (by decide)]; rfl
  | true =>
    refine ⟨(vi (h s.1).val, vi (h s.2.2).val), ?_⟩
    refine (exL_next (σ' := [dr, some (.val (headsD (merge h s))), vi s.1.val, vb true, vi s.2.2.val, vi (h s.1).val, vi (h s.2.2).val]) ((exS_itet (by rfl)).trans ?_)).trans rfl
    refine (exL_next (exS_set ((ev_subv (k := s.1.val) (d := headsD h) rfl rfl).trans (four_at _ _)))).trans ?_
    show exL P _ [dr, some (.val (headsD h)), vi s.1.val, vb true, vi s.2.2.val, vi (h s.1).val, o6] = _
    refine (exL_next (exS_set ((ev_subv (k := s.2.2.val) (d := headsD h) rfl rfl).trans (four_at _ _)))).trans ?_
    show exL P _ [dr, some (.val (headsD h)), vi s.1.val, vb true, vi s.2.2.val, vi (h s.1).val, vi (h s.2.2).val] = _
    refine (exL_next (exS_setc (ev_comp (ds := [.int (h 0).val, .int (h 1).val, .int (h 2).val, .int (h 3).val]) (rs := [.int (merge h s 0).val, .int (merge h s 1).val, .int (merge h s 2).val, .int (merge h s 3).val]) rfl (show 4 ≤ 100000 by decide) ?_))).trans rfl
    show compF (compStep P _ .one [] [vi (h s.2.2).val, vi (h s.1).val]) _ = _
    have k : ∀ i, compStep P (.ite (.cmp .Eq (.var 0) (.var 2)) (.var 1) (.var 0)) .one [] [vi (h s.2.2).val, vi (h s.1).val] (.int (h i).val) = some (some (.int (merge h s i).val)) := fun i => by
      rw [elt18]; unfold merge; rw [if_pos hs]
    simp only [compF, k]
theorem spec18 (ss : List Stm) (hl : ss.length ≤ 100000) : orc1 18 [.list (ss.map toD)] = some (headsD (ss.foldl merge id)) := by
  refine runF_ret rfl ?_
  generalize hT : (some (.val (.list (ss.map toD))) : O1) = T
  have s0 : start cf18 [.list (ss.map toD)] = [T, none, none, none, none, none, none] := by subst hT; rfl
  rw [s0]
  refine (exL_next (σ' := [T, some (.val (headsD id)), none, none, none, none, none]) rfl).trans ?_
  have ei : evI P0 (.tup [2, 3, 4]) (.val (.var 0)) [T, some (.val (headsD id)), none, none, none, none, none] = some (ss.map toD) := by
    subst hT
    show (if (ss.map toD).length ≤ 100000 then some (ss.map toD) else none) = _
    rw [if_pos (by simpa using hl)]
  obtain ⟨o, e⟩ := forF_fold1 (fun (h : Fin 4 → Fin 4) (o : O1 × O1 × O1 × O1 × O1) => ([T, some (.val (headsD h)), o.1, o.2.1, o.2.2.1, o.2.2.2.1, o.2.2.2.2] : Sg)) merge toD (g := setTg (.tup [2, 3, 4])) (b := exL P0 body18) ss id (none, none, none, none, none) fun s _ h o => by
    obtain ⟨o', e⟩ := body18_at P0 T h s o.2.2.2.1 o.2.2.2.2
    exact ⟨_, (vi s.1.val, vb s.2.1, vi s.2.2.val, o'.1, o'.2), rfl, e⟩
  refine (exL_next ((exS_forr ei).trans e)).trans ?_
  exact exL_retn (exS_ret rfl)

/-- f19 -/
abbrev Pr := Fin 4 × Fin 4
noncomputable def pairD (u : Pr) : D := .tup [.int (u.1.val : Int), .int (u.2.val : Int)]
noncomputable def ulist (h : Fin 4 → Fin 4) (ss : List Stm) : List Pr := ss.filterMap fun s => if s.2.1 = true then none else some (h s.1, h s.2.2)
theorem elt19 (P : Prg) (h : Fin 4 → Fin 4) (s : Stm) : compStep P (.tup [.subv 3 (.var 0), .subv 3 (.var 2)]) (.tup 3) [.not (.val (.var 1))] [some (.val (headsD h))] (toD s) =
    some (if s.2.1 = true then none else some (pairD (h s.1, h s.2.2))) := by
  have e1 : ev P (.subv 3 (.var 0)) [vi s.1.val, vb s.2.1, vi s.2.2.val, some (.val (headsD h))] = some (.int (h s.1).val) := (ev_subv (k := s.1.val) (d := headsD h) rfl rfl).trans (four_at _ _)
  have e2 : ev P (.subv 3 (.var 2)) [vi s.1.val, vb s.2.1, vi s.2.2.val, some (.val (headsD h))] = some (.int (h s.2.2).val) := (ev_subv (k := s.2.2.val) (d := headsD h) rfl rfl).trans (four_at _ _)
  have e3 := ev_tup (evs_cons e1 (evs_cons e2 evs_nil)) (show 2 ≤ 100000 by decide)
  have e4 : evAnd P [.not (.val (.var 1))] [vi s.1.val, vb s.2.1, vi s.2.2.val, some (.val (headsD h))] = some (!s.2.1) := by
    have : evT P (.not (.val (.var 1))) [vi s.1.val, vb s.2.1, vi s.2.2.val, some (.val (headsD h))] = some (!s.2.1) := rfl
    cases hs : s.2.1 <;> (rw [hs] at this; simp only [evAnd, this]; rfl)
  show (match evAnd P [.not (.val (.var 1))] [vi s.1.val, vb s.2.1, vi s.2.2.val, some (.val (headsD h))] with
    | some true => (match ev P (.tup [.subv 3 (.var 0), .subv 3 (.var 2)]) [vi s.1.val, vb s.2.1, vi s.2.2.val, some (.val (headsD h))] with | some r => some (some r) | none => none) | some false => some none | none => none) = _
  rw [e4, e3]
  cases hs : s.2.1 <;> rfl
theorem eltOne (P : Prg) (u : Pr) : compStep P (.int 1) (.tup 2) [.cmp .Eq (.var 0) (.var 1)] [] (pairD u) = some (if u.1 = u.2 then some (.int 1) else none) := by
  have e : evT P (.cmp .Eq (.var 0) (.var 1)) [vi u.1.val, vi u.2.val] = some ((u.1.val : Int) == (u.2.val : Int)) := rfl
  show (match evAnd P [.cmp .Eq (.var 0) (.var 1)] [vi u.1.val, vi u.2.val] with
    | some true => some (some (D.int 1)) | some false => some none | none => none) = _
  by_cases h : u.1 = u.2
  · have : ((u.1.val : Int) == (u.2.val : Int)) = true := by rw [h]; simp
    rw [if_pos h]; simp only [evAnd, e, this]
  · have : ((u.1.val : Int) == (u.2.val : Int)) = false := by rw [beq_eq_false_iff_ne]; intro q; exact h (Fin.ext (by omega))
    rw [if_neg h]; simp only [evAnd, e, this]
noncomputable def placesP (i j k : Int) : Fin 4 → Int
  | 0 => i | 1 => j | 2 => k | 3 => 6 - i - j - k
noncomputable def wordP (U : List Pr) (π : Fin 4 → Int) : Int := U.foldl (fun w u => 2 * w + if π u.1 < π u.2 then 1 else 0) 0
noncomputable def putW (ds : List Int) (k : Int) : List Int := if ds.any (· == k) = true then ds else ds ++ [k]
noncomputable def stepW (U : List Pr) (i j : Int) (ds : List Int) (k : Int) : List Int := if i ≠ j ∧ i ≠ k ∧ j ≠ k then putW ds (wordP U (placesP i j k)) else ds
noncomputable def r4 : List Int := [0, 1, 2, 3]
noncomputable def waysL (U : List Pr) : List Int := r4.foldl (fun ds i => r4.foldl (fun ds j => r4.foldl (stepW U i j) ds) ds) []
theorem putW_len (ds : List Int) (k : Int) : (putW ds k).length ≤ ds.length + 1 := by
  unfold putW; split <;> simp
theorem stepW_len (U : List Pr) (i j : Int) (ds : List Int) (k : Int) : (stepW U i j ds k).length ≤ ds.length + 1 := by
  unfold stepW; split
  · exact putW_len _ _
  · omega
noncomputable def wbody : List MS := [.set 8 (.bin .Add (.bin .Mult (.int 2) (.var 8)) (.ite (.cmp .Lt (.subv 7 (.var 9)) (.subv 7 (.var 10))) (.int 1) (.int 0)))]
theorem wbody_at (P : Prg) (c0 c1 c2 c3 c4 c5 c6 : O1) (π : Fin 4 → Int) (w : Int) (u : Pr) : exL P wbody [c0, c1, c2, c3, c4, c5, c6, some (.val (fourD π)), vi w, vi u.1.val, vi u.2.val] =
    some (.next [c0, c1, c2, c3, c4, c5, c6, some (.val (fourD π)), vi (2 * w + if π u.1 < π u.2 then 1 else 0), vi u.1.val, vi u.2.val]) := by
  generalize hσ : ([c0, c1, c2, c3, c4, c5, c6, some (.val (fourD π)), vi w, vi u.1.val, vi u.2.val] : Sg) = σ
  have e1 : ev P (.subv 7 (.var 9)) σ = some (.int (π u.1)) := by subst hσ; exact (ev_subv (k := u.1.val) (d := fourD π) rfl rfl).trans (four_at _ _)
  have e2 : ev P (.subv 7 (.var 10)) σ = some (.int (π u.2)) := by subst hσ; exact (ev_subv (k := u.2.val) (d := fourD π) rfl rfl).trans (four_at _ _)
  have e3 : evT P (.cmp .Lt (.subv 7 (.var 9)) (.subv 7 (.var 10))) σ = some (decide (π u.1 < π u.2)) := (evT_cmp (op := .Lt) e1 e2).trans rfl
  have e4 : ev P (.ite (.cmp .Lt (.subv 7 (.var 9)) (.subv 7 (.var 10))) (.int 1) (.int 0)) σ = some (.int (if π u.1 < π u.2 then 1 else 0)) := by
    by_cases h : π u.1 < π u.2
    · rw [if_pos h]; simp only [ev, e3, decide_eq_true h]
    · rw [if_neg h]; simp only [ev, e3, decide_eq_false h]
  have e5 : ev P (.bin .Mult (.int 2) (.var 8)) σ = some (.int (2 * w)) := by subst hσ; rfl
  have e6 : ev P (.bin .Add (.bin .Mult (.int 2) (.var 8)) (.ite (.cmp .Lt (.subv 7 (.var 9)) (.subv 7 (.var 10))) (.int 1) (.int 0))) σ = some (.int (2 * w + if π u.1 < π u.2 then 1 else 0)) := (ev_bin e5 e4).trans rfl
  refine (exL_next (exS_set e6)).trans ?_
  subst hσ; rfl
noncomputable def body19 : List MS := [.ite (.and [.cmp .NotEq (.var 4) (.var 5), .cmp .NotEq (.var 4) (.var 6), .cmp .NotEq (.var 5) (.var 6)]) [.set 7 (.list [.var 4, .var 5, .var 6, .bin .Sub (.bin .Sub (.bin .Sub (.int 6) (.var 4)) (.var 5)) (.var 6)]), .set 8 (.int 0), .forr (.tup [9, 10]) (.val (.var 2)) wbody, .adds 3 (.var 8)] []]
theorem body19_at (P : Prg) (c0 c1 : O1) (U : List Pr) (hU : U.length ≤ 100000) (ds : List Int) (hd : ds.length + 1 < scanBound) (i j k : Int) (o7 o8 o9 o10 : O1) :
    ∃ o : O1 × O1 × O1 × O1, exL P body19 [c0, c1, some (.val (.list (U.map pairD))), some (.own (.set ds)), vi i, vi j, vi k, o7, o8, o9, o10] =
      some (.next [c0, c1, some (.val (.list (U.map pairD))), some (.own (.set (stepW U i j ds k))), vi i, vi j, vi k, o.1, o.2.1, o.2.2.1, o.2.2.2]) := by
  generalize hT : (some (.val (.list (U.map pairD))) : O1) = T
  have t1 : evT P (.cmp .NotEq (.var 4) (.var 5)) [c0, c1, T, some (.own (.set ds)), vi i, vi j, vi k, o7, o8, o9, o10] = some (i != j) := rfl
  have t2 : evT P (.cmp .NotEq (.var 4) (.var 6)) [c0, c1, T, some (.own (.set ds)), vi i, vi j, vi k, o7, o8, o9, o10] = some (i != k) := rfl
  have t3 : evT P (.cmp .NotEq (.var 5) (.var 6)) [c0, c1, T, some (.own (.set ds)), vi i, vi j, vi k, o7, o8, o9, o10] = some (j != k) := rfl
  have t : evT P (.and [.cmp .NotEq (.var 4) (.var 5), .cmp .NotEq (.var 4) (.var 6), .cmp .NotEq (.var 5) (.var 6)]) [c0, c1, T, some (.own (.set ds)), vi i, vi j, vi k, o7, o8, o9, o10] = some (i != j && i != k && j != k) := by
    cases h1 : (i != j) <;> cases h2 : (i != k) <;> cases h3 : (j != k) <;> (rw [h1] at t1; rw [h2] at t2; rw [h3] at t3; simp only [evT, evAnd] at t1 t2 t3 ⊢; simp only [t1, t2, t3]; rfl)
  have hb : (i != j && i != k && j != k) = decide (i ≠ j ∧ i ≠ k ∧ j ≠ k) := by
    by_cases h1 : i = j <;> by_cases h2 : i = k <;> by_cases h3 : j = k <;> simp [h1, h2, h3]
  rw [hb] at t
  unfold stepW
  by_cases hc : i ≠ j ∧ i ≠ k ∧ j ≠ k
  · rw [if_pos hc]
    rw [decide_eq_true hc] at t
    have ei : evI P (.tup [9, 10]) (.val (.var 2)) [c0, c1, T, some (.own (.set ds)), vi i, vi j, vi k, some (.val (fourD (placesP i j k))), vi 0, o9, o10] = some (U.map pairD) := by
      subst hT
      show (if (U.map pairD).length ≤ 100000 then some (U.map pairD) else none) = _
      rw [if_pos (by simpa using hU)]
    obtain ⟨o, e⟩ := forF_fold1 (fun (w : Int) (o : O1 × O1) => ([c0, c1, T, some (.own (.set ds)), vi i, vi j, vi k, some (.val (fourD (placesP i j k))), vi w, o.1, o.2] : Sg)) (fun (w : Int) (u : Pr) => 2 * w + if placesP i j k u.1 < placesP i j k u.2 then 1 else 0) pairD (g := setTg (.tup [9, 10])) (b := exL P wbody) U 0 (o9, o10) fun u _ w o =>
      ⟨_, (vi u.1.val, vi u.2.val), rfl, wbody_at P c0 c1 T (some (.own (.set ds))) (vi i) (vi j) (vi k) (placesP i j k) w u⟩
    refine ⟨(some (.val (fourD (placesP i j k))), vi (wordP U (placesP i j k)), o.1, o.2), ?_⟩
    refine (exL_next (σ' := [c0, c1, T, some (.own (.set (putW ds (wordP U (placesP i j k))))), vi i, vi j, vi k, some (.val (fourD (placesP i j k))), vi (wordP U (placesP i j k)), o.1, o.2]) ((exS_itet t).trans ?_)).trans rfl
    refine (exL_next (σ' := [c0, c1, T, some (.own (.set ds)), vi i, vi j, vi k, some (.val (fourD (placesP i j k))), o8, o9, o10]) rfl).trans ?_
    refine (exL_next (σ' := [c0, c1, T, some (.own (.set ds)), vi i, vi j, vi k, some (.val (fourD (placesP i j k))), vi 0, o9, o10]) rfl).trans ?_
    refine (exL_next ((exS_forr ei).trans e)).trans ?_
    refine (exL_next (σ' := [c0, c1, T, some (.own (.set (putW ds (wordP U (placesP i j k))))), vi i, vi j, vi k, some (.val (fourD (placesP i j k))), vi (wordP U (placesP i j k)), o.1, o.2]) ?_).trans rfl
    show (if ds.length + 1 < scanBound then some (Out.next _) else none) = _
    rw [if_pos hd]; rfl
  · rw [if_neg hc]
    rw [decide_eq_false hc] at t
    exact ⟨(o7, o8, o9, o10), (exL_next ((exS_itef t).trans rfl)).trans rfl⟩
noncomputable def b19j : List MS := [.forr (.one 6) (.range (.int 4)) body19]
noncomputable def b19i : List MS := [.forr (.one 5) (.range (.int 4)) b19j]
theorem spec19 (h : Fin 4 → Fin 4) (ss : List Stm) (hl : ss.length ≤ 100000) : orc1 19 [headsD h, .list (ss.map toD)] =
    some (.int (if (ulist h ss).any (fun u => u.1 = u.2) = true then 0 else (waysL (ulist h ss)).length)) := by
  refine runF_ret rfl ?_
  generalize hT : (some (.val (.list (ss.map toD))) : O1) = T
  generalize hH : (some (.val (headsD h)) : O1) = H
  have s0 : start cf19 [headsD h, .list (ss.map toD)] = [H, T, none, none, none, none, none, none, none, none, none] := by subst hT hH; rfl
  rw [s0]
  have hUl : (ulist h ss).length ≤ 100000 := Nat.le_trans (List.length_filterMap_le _ _) hl
  have u1 : ev P0 (.comp (.tup [.subv 3 (.var 0), .subv 3 (.var 2)]) (.tup 3) (.var 1) [.not (.val (.var 1))] [0]) [H, T, none, none, none, none, none, none, none, none, none] = some (.list ((ulist h ss).map pairD)) := by
    subst hT hH
    refine ev_comp (ds := ss.map toD) rfl (by simpa using hl) ?_
    have := compF_filterMap (f := compStep P0 (.tup [.subv 3 (.var 0), .subv 3 (.var 2)]) (.tup 3) [.not (.val (.var 1))] [some (.val (headsD h))]) (φ := toD) (r := fun s => if s.2.1 = true then none else some (pairD (h s.1, h s.2.2))) (xs := ss) fun s _ => elt19 P0 h s
    refine this.trans ?_
    congr 1
    unfold ulist
    rw [List.map_filterMap]
    congr 1
    funext s
    split <;> rfl
  refine (exL_next (exS_setc u1)).trans ?_
  generalize hU : ulist h ss = U at hUl ⊢
  generalize hV : (some (.val (.list (U.map pairD))) : O1) = V
  show exL P0 _ [H, T, V, none, none, none, none, none, none, none, none] = _
  have o1 : ev P0 (.comp (.int 1) (.tup 2) (.var 2) [.cmp .Eq (.var 0) (.var 1)] []) [H, T, V, none, none, none, none, none, none, none, none] = some (.list ((U.filter fun u => u.1 = u.2).map fun _ => .int 1)) := by
    subst hV
    refine ev_comp (ds := U.map pairD) rfl (by simpa using hUl) ?_
    have := compF_filterMap (f := compStep P0 (.int 1) (.tup 2) [.cmp .Eq (.var 0) (.var 1)] []) (φ := pairD) (r := fun u => if u.1 = u.2 then some (.int 1) else none) (xs := U) fun u _ => eltOne P0 u
    refine this.trans ?_
    congr 1
    clear this hUl hU
    induction U with
    | nil => rfl
    | cons u U ih =>
      rw [List.filterMap_cons, List.filter_cons]
      by_cases hu : u.1 = u.2 <;> simp [hu, ih]
  have toPs1 : ∀ l : List Pr, toPs (l.map fun _ => D.int 1) = some ((l.map fun _ => (1 : Int)).map PyData.int) := by
    intro l
    induction l with
    | nil => rfl
    | cons x l ih => simp only [List.map_cons, toPs, toP, ih]
  have c1 : cmpop .NotEq (.list ((U.filter fun u => u.1 = u.2).map fun _ => .int 1)) (.list []) = some (U.any fun u => u.1 = u.2) := by
    show (match toPs ((U.filter fun u => u.1 = u.2).map fun _ => D.int 1), toPs [] with | some p, some q => if SeqAt.shaped (.list p) = true ∧ SeqAt.shaped (.list q) = true then some (!PyData.eqv (.list p) (.list q)) else none | _, _ => none) = _
    rw [toPs1]
    simp only [toPs]
    have sh : ∀ ns : List Int, SeqAt.shaped (.list (ns.map PyData.int)) = true := fun ns => by
      unfold SeqAt.shaped
      rw [Bool.and_eq_true]
      refine ⟨by simp only [PyData.canLay0, PyProof.Rows.canLayAll_ints], ?_⟩
      simp only [PyData.depth, PyProof.Rows.depthAll_ints]; rfl
    rw [if_pos ⟨sh _, sh []⟩]
    congr 1
    cases hf : U.filter fun u => u.1 = u.2 with
    | nil =>
      have : (U.any fun u => u.1 = u.2) = false := by
        rw [List.any_eq_false]; intro u hu hq
        have := List.filter_eq_nil_iff.mp hf u hu
        simp_all
      rw [this]; simp [PyData.eqv, PyData.eqvAll]
    | cons u l =>
      have : (U.any fun u => u.1 = u.2) = true := by
        rw [List.any_eq_true]
        have hu : u ∈ U.filter fun u => u.1 = u.2 := by rw [hf]; simp
        exact ⟨u, (List.mem_filter.mp hu).1, (List.mem_filter.mp hu).2⟩
      rw [this]; simp [PyData.eqv, PyData.eqvAll]
  have t1 : evT P0 (.cmp .NotEq (.comp (.int 1) (.tup 2) (.var 2) [.cmp .Eq (.var 0) (.var 1)] []) (.list [])) [H, T, V, none, none, none, none, none, none, none, none] = some (U.any fun u => u.1 = u.2) :=
    (evT_cmp o1 rfl).trans c1
  cases ha : U.any fun u => u.1 = u.2 with
  | true => rw [if_pos rfl]; exact exL_retn ((exS_itet (t1.trans (by rw [ha]))).trans rfl)
  | false =>
    rw [if_neg (by decide)]
    refine (exL_next ((exS_itef (t1.trans (by rw [ha]))).trans rfl)).trans ?_
    refine (exL_next (σ' := [H, T, V, some (.own (.set [])), none, none, none, none, none, none, none]) rfl).trans ?_
    have ei : ∀ (x : Nat) (σ : Sg), evI P0 (.one x) (.range (.int 4)) σ = some (r4.map .int) := fun x σ => rfl
    have lk : ∀ i j ds, ds.length ≤ 1000 → ∀ o6 o7 o8 o9 o10 : O1, ∃ o : O1 × O1 × O1 × O1 × O1, (r4.foldl (stepW U i j) ds).length ≤ ds.length + 4 ∧ forF (setTg (.one 6)) (exL P0 body19) (r4.map .int) [H, T, V, some (.own (.set ds)), vi i, vi j, o6, o7, o8, o9, o10] =
        some (.next [H, T, V, some (.own (.set (r4.foldl (stepW U i j) ds))), vi i, vi j, o.1, o.2.1, o.2.2.1, o.2.2.2.1, o.2.2.2.2]) := by
      intro i j ds hds o6 o7 o8 o9 o10
      obtain ⟨hI, o, e⟩ := forF_foldN (fun (ds : List Int) (o : O1 × O1 × O1 × O1 × O1) => ([H, T, V, some (.own (.set ds)), vi i, vi j, o.1, o.2.1, o.2.2.1, o.2.2.2.1, o.2.2.2.2] : Sg)) (stepW U i j) D.int (fun q s => s.length ≤ ds.length + q) (g := setTg (.one 6)) (b := exL P0 body19) r4 0 ds (o6, o7, o8, o9, o10) (Nat.le_refl _) fun k _ q s o _ hq hs => by
        have hq' : q < 4 := by simpa [r4] using hq
        obtain ⟨o', e⟩ := body19_at P0 H T U hUl s (by unfold scanBound; omega) i j k o.2.1 o.2.2.1 o.2.2.2.1 o.2.2.2.2
        refine ⟨by have := stepW_len U i j s k; omega, _, (vi k, o'), rfl, ?_⟩
        subst hV; exact e
      exact ⟨o, hI, e⟩
    have lj : ∀ i ds, ds.length ≤ 500 → ∀ o5 o6 o7 o8 o9 o10 : O1, ∃ o : O1 × O1 × O1 × O1 × O1 × O1, (r4.foldl (fun ds j => r4.foldl (stepW U i j) ds) ds).length ≤ ds.length + 16 ∧ forF (setTg (.one 5)) (exL P0 b19j) (r4.map .int) [H, T, V, some (.own (.set ds)), vi i, o5, o6, o7, o8, o9, o10] =
        some (.next [H, T, V, some (.own (.set (r4.foldl (fun ds j => r4.foldl (stepW U i j) ds) ds))), vi i, o.1, o.2.1, o.2.2.1, o.2.2.2.1, o.2.2.2.2.1, o.2.2.2.2.2]) := by
      intro i ds hds o5 o6 o7 o8 o9 o10
      obtain ⟨hI, o, e⟩ := forF_foldN (fun (ds : List Int) (o : O1 × O1 × O1 × O1 × O1 × O1) => ([H, T, V, some (.own (.set ds)), vi i, o.1, o.2.1, o.2.2.1, o.2.2.2.1, o.2.2.2.2.1, o.2.2.2.2.2] : Sg)) (fun ds j => r4.foldl (stepW U i j) ds) D.int (fun q s => s.length ≤ ds.length + 4 * q) (g := setTg (.one 5)) (b := exL P0 b19j) r4 0 ds (o5, o6, o7, o8, o9, o10) (Nat.le_refl _) fun j _ q s o _ hq hs => by
        have hq' : q < 4 := by simpa [r4] using hq
        obtain ⟨o', hl', e⟩ := lk i j s (by omega) o.2.1 o.2.2.1 o.2.2.2.1 o.2.2.2.2.1 o.2.2.2.2.2
        refine ⟨by omega, _, (vi j, o'), rfl, ?_⟩
        exact (exL_next ((exS_forr (ei _ _)).trans e)).trans rfl
      exact ⟨o, hI, e⟩
    have li : ∃ o : O1 × O1 × O1 × O1 × O1 × O1 × O1, (waysL U).length ≤ 64 ∧ forF (setTg (.one 4)) (exL P0 b19i) (r4.map .int) [H, T, V, some (.own (.set [])), none, none, none, none, none, none, none] =
        some (.next [H, T, V, some (.own (.set (waysL U))), o.1, o.2.1, o.2.2.1, o.2.2.2.1, o.2.2.2.2.1, o.2.2.2.2.2.1, o.2.2.2.2.2.2]) := by
      obtain ⟨hI, o, e⟩ := forF_foldN (fun (ds : List Int) (o : O1 × O1 × O1 × O1 × O1 × O1 × O1) => ([H, T, V, some (.own (.set ds)), o.1, o.2.1, o.2.2.1, o.2.2.2.1, o.2.2.2.2.1, o.2.2.2.2.2.1, o.2.2.2.2.2.2] : Sg)) (fun ds i => r4.foldl (fun ds j => r4.foldl (stepW U i j) ds) ds) D.int (fun q s => s.length ≤ 16 * q) (g := setTg (.one 4)) (b := exL P0 b19i) r4 0 [] (none, none, none, none, none, none, none) (Nat.le_refl _) fun i _ q s o _ hq hs => by
        have hq' : q < 4 := by simpa [r4] using hq
        obtain ⟨o', hl', e⟩ := lj i s (by omega) o.2.1 o.2.2.1 o.2.2.2.1 o.2.2.2.2.1 o.2.2.2.2.2.1 o.2.2.2.2.2.2
        refine ⟨by omega, _, (vi i, o'), rfl, ?_⟩
        exact (exL_next ((exS_forr (ei _ _)).trans e)).trans rfl
      exact ⟨o, hI, e⟩
    obtain ⟨o, hlen, e⟩ := li
    generalize waysL U = W at hlen e ⊢
    refine (exL_next ((exS_forr (ei _ _)).trans e)).trans ?_
    refine (exL_next (σ' := [H, T, V, some (.val (.set W)), o.1, o.2.1, o.2.2.1, o.2.2.2.1, o.2.2.2.2.1, o.2.2.2.2.2.1, o.2.2.2.2.2.2]) rfl).trans ?_
    refine exL_retn (exS_ret ?_)
    show (if W.length ≤ 4000 then some (D.int (W.length : Nat)) else none) = _
    rw [if_pos (by omega)]
end Mine

namespace Mine
/-! M21: the law of the chromatic number at one below nought, as plain counting -/
noncomputable def resp (h : Fin 4 → Fin 4) (x : Fin 4 → Int) : Prop := ∀ i j, h i = h j → x i = x j
theorem resp_merge (h : Fin 4 → Fin 4) (x : Fin 4 → Int) (s : Stm) : resp (merge h s) x ↔ resp h x ∧ (s.2.1 = true → x s.1 = x s.2.2) := by
  unfold merge
  by_cases hs : s.2.1 = true
  · rw [if_pos hs]
    constructor
    · intro r
      refine ⟨fun i j e => r i j (by simp only [e]), fun _ => r s.1 s.2.2 ?_⟩
      show (if h s.1 = h s.1 then h s.2.2 else h s.1) = (if h s.2.2 = h s.1 then h s.2.2 else h s.2.2)
      rw [if_pos rfl]; split <;> rfl
    · rintro ⟨r, q⟩ i j e
      have q := q hs
      simp only at e
      by_cases h1 : h i = h s.1 <;> by_cases h2 : h j = h s.1
      · exact r i j (h1.trans h2.symm)
      · rw [if_pos h1, if_neg h2] at e
        rw [r i s.1 h1, q, r s.2.2 j e]
      · rw [if_neg h1, if_pos h2] at e
        rw [r j s.1 h2, q, r i s.2.2 e]
      · rw [if_neg h1, if_neg h2] at e; exact r i j e
  · rw [if_neg hs]; exact ⟨fun r => ⟨r, fun q => absurd q hs⟩, fun r => r.1⟩
theorem resp_fold (x : Fin 4 → Int) : ∀ (ss : List Stm) (h : Fin 4 → Fin 4), resp (ss.foldl merge h) x ↔ resp h x ∧ ∀ s ∈ ss, s.2.1 = true → x s.1 = x s.2.2
  | [], h => by simp
  | s :: ss, h => by
    rw [List.foldl_cons, resp_fold x ss, resp_merge]
    simp only [List.mem_cons, forall_eq_or_imp]
    constructor
    · rintro ⟨⟨a, b⟩, c⟩; exact ⟨a, b, c⟩
    · rintro ⟨a, b, c⟩; exact ⟨⟨a, b⟩, c⟩
noncomputable def idem (h : Fin 4 → Fin 4) : Prop := ∀ i, h (h i) = h i
theorem idem_merge {h : Fin 4 → Fin 4} (k : idem h) (s : Stm) : idem (merge h s) := by
  intro i
  unfold merge
  by_cases hs : s.2.1 = true
  · simp only [if_pos hs]
    by_cases h1 : h i = h s.1
    · rw [if_pos h1, k s.2.2]; split <;> rfl
    · rw [if_neg h1, k i, if_neg h1]
  · simp only [if_neg hs]; exact k i
theorem idem_fold : ∀ (ss : List Stm) {h : Fin 4 → Fin 4}, idem h → idem (ss.foldl merge h)
  | [], _, k => k
  | s :: ss, _, k => idem_fold ss (idem_merge k s)
theorem all_sat (x : Fin 4 → Int) (ss : List Stm) : ss.all (sat x) = true ↔ resp (ss.foldl merge id) x ∧ ∀ u ∈ ulist (ss.foldl merge id) ss, x u.1 ≠ x u.2 := by
  have hi : idem (ss.foldl merge id) := idem_fold ss fun i => rfl
  rw [resp_fold]
  have r0 : resp id x := fun i j e => by have e : i = j := e; rw [e]
  generalize hh : ss.foldl merge id = h at hi ⊢
  have rr : (∀ s ∈ ss, s.2.1 = true → x s.1 = x s.2.2) → resp h x := fun q => by rw [← hh, resp_fold]; exact ⟨r0, q⟩
  rw [List.all_eq_true]
  constructor
  · intro a
    have al : ∀ s ∈ ss, s.2.1 = true → x s.1 = x s.2.2 := fun s hs q => by
      have := a s hs
      unfold sat at this; rw [q] at this; simpa using this
    refine ⟨⟨r0, al⟩, fun u hu => ?_⟩
    have r := rr al
    unfold ulist at hu
    obtain ⟨s, hs, e⟩ := List.mem_filterMap.mp hu
    split at e
    · cases e
    · rename_i hn; cases e
      have := a s hs
      unfold sat at this
      have hn : s.2.1 = false := by simpa using hn
      rw [hn] at this
      have hne : x s.1 ≠ x s.2.2 := by simpa using this
      have e1 : x (h s.1) = x s.1 := r _ _ (hi s.1)
      have e2 : x (h s.2.2) = x s.2.2 := r _ _ (hi s.2.2)
      rw [e1, e2]; exact hne
  · rintro ⟨⟨_, al⟩, un⟩ s hs
    have r := rr al
    unfold sat
    cases q : s.2.1 with
    | true => rw [al s hs q]; simp
    | false =>
      have : (h s.1, h s.2.2) ∈ ulist h ss := List.mem_filterMap.mpr ⟨s, hs, by rw [if_neg (by rw [q]; decide)]⟩
      have := un _ this
      have e1 : x (h s.1) = x s.1 := r _ _ (hi s.1)
      have e2 : x (h s.2.2) = x s.2.2 := r _ _ (hi s.2.2)
      rw [e1, e2] at this
      simpa using this

/-- only which pairs are unlike counts -/
noncomputable def all6 : List Pr := [(0, 1), (0, 2), (0, 3), (1, 2), (1, 3), (2, 3)]
noncomputable def maskOf (U : List Pr) (u : Pr) : Bool := U.any fun v => v == u || v == (u.2, u.1)
noncomputable def okM (h : Fin 4 → Fin 4) (m : Pr → Bool) (x : Fin 4 → Int) : Bool := all6.all fun u => (!(h u.1 == h u.2) || x u.1 == x u.2) && (!(m u) || !(x u.1 == x u.2))
theorem in6' : ∀ a b : Fin 4, a ≠ b → (a, b) ∈ all6 ∨ (b, a) ∈ all6 := by decide
theorem in6 : ∀ v : Pr, v.1 ≠ v.2 → v ∈ all6 ∨ (v.2, v.1) ∈ all6 := fun v h => in6' v.1 v.2 h
theorem mask_all {U : List Pr} (hU : U.any (fun u => u.1 = u.2) = false) {Q : Pr → Prop} (sym : ∀ u, Q u → Q (u.2, u.1)) : (∀ u ∈ U, Q u) ↔ ∀ u ∈ all6, maskOf U u = true → Q u := by
  constructor
  · intro a u hu hm
    unfold maskOf at hm
    obtain ⟨v, hv, e⟩ := List.any_eq_true.mp hm
    rw [Bool.or_eq_true, beq_iff_eq, beq_iff_eq] at e
    rcases e with e | e
    · exact e ▸ a v hv
    · have := sym _ (a v hv); rw [e] at this; exact this
  · intro a u hu
    have hne : u.1 ≠ u.2 := by have := List.any_eq_false.mp hU u hu; simpa using this
    rcases in6 u hne with h | h
    · exact a u h (List.any_eq_true.mpr ⟨u, hu, by simp⟩)
    · exact sym _ (a _ h (List.any_eq_true.mpr ⟨u, hu, by simp⟩))
theorem ok_eq (x : Fin 4 → Int) (ss : List Stm) (hU : (ulist (ss.foldl merge id) ss).any (fun u => u.1 = u.2) = false) : ss.all (sat x) = okM (ss.foldl merge id) (maskOf (ulist (ss.foldl merge id) ss)) x := by
  rw [Bool.eq_iff_iff, all_sat, mask_all hU (fun u h e => h e.symm)]
  generalize ss.foldl merge id = h
  unfold okM
  rw [List.all_eq_true]
  constructor
  · rintro ⟨r, q⟩ u hu
    rw [Bool.and_eq_true]
    refine ⟨?_, ?_⟩
    · by_cases e : h u.1 = h u.2
      · rw [r _ _ e]; simp
      · simp [e]
    · cases hm : maskOf (ulist h ss) u with
      | false => rfl
      | true => simpa using q u hu hm
  · intro a
    refine ⟨fun i j e => ?_, fun u hu hm => ?_⟩
    · by_cases hij : i = j
      · rw [hij]
      · rcases in6 (i, j) hij with h1 | h1
        · have := (Bool.and_eq_true_iff.mp (a (i, j) h1)).1
          simp only [e, beq_self_eq_true, Bool.not_true, Bool.false_or, beq_iff_eq] at this
          exact this
        · have := (Bool.and_eq_true_iff.mp (a (j, i) h1)).1
          simp only [e, beq_self_eq_true, Bool.not_true, Bool.false_or, beq_iff_eq] at this
          exact this.symm
    · have := (Bool.and_eq_true_iff.mp (a _ hu)).2
      simpa [hm] using this

/-- the words -/
theorem word_eq (π ρ : Fin 4 → Int) : ∀ (U : List Pr) (w v : Int), U.foldl (fun w u => 2 * w + if π u.1 < π u.2 then 1 else 0) w = U.foldl (fun w u => 2 * w + if ρ u.1 < ρ u.2 then 1 else 0) v ↔
    w = v ∧ ∀ u ∈ U, (π u.1 < π u.2 ↔ ρ u.1 < ρ u.2)
  | [], w, v => by simp
  | u :: U, w, v => by
    rw [List.foldl_cons, List.foldl_cons, word_eq π ρ U]
    simp only [List.mem_cons, forall_eq_or_imp]
    by_cases h1 : π u.1 < π u.2 <;> by_cases h2 : ρ u.1 < ρ u.2 <;> simp only [h1, h2, if_true, if_false, iff_true, iff_false, true_and, not_true, not_false_eq_true, false_and, and_false]
    · constructor
      · rintro ⟨a, b⟩; exact ⟨by omega, b⟩
      · rintro ⟨a, b⟩; exact ⟨by omega, b⟩
    · rintro ⟨a, b⟩; omega
    · rintro ⟨a, b⟩; omega
    · constructor
      · rintro ⟨a, b⟩; exact ⟨by omega, b⟩
      · rintro ⟨a, b⟩; exact ⟨by omega, b⟩
theorem wordP_eq (U : List Pr) (π ρ : Fin 4 → Int) : wordP U π = wordP U ρ ↔ ∀ u ∈ U, (π u.1 < π u.2 ↔ ρ u.1 < ρ u.2) := by
  unfold wordP; rw [word_eq]; simp
theorem dedup_len {α : Type} {f g : α → Int} : ∀ (L S : List α), (∀ x ∈ S ++ L, ∀ y ∈ S ++ L, f x = f y ↔ g x = g y) → (L.foldl (fun ds x => putW ds (f x)) (S.map f)).length = (L.foldl (fun ds x => putW ds (g x)) (S.map g)).length
  | [], S, _ => by simp
  | x :: L, S, h => by
    have e : (S.map f).any (· == f x) = (S.map g).any (· == g x) := by
      rw [List.any_map, List.any_map, Bool.eq_iff_iff, List.any_eq_true, List.any_eq_true]
      constructor
      · rintro ⟨y, hy, e⟩
        refine ⟨y, hy, ?_⟩
        have := (h y (by simp [hy]) x (by simp)).mp (by simpa using e)
        simpa using this
      · rintro ⟨y, hy, e⟩
        refine ⟨y, hy, ?_⟩
        have := (h y (by simp [hy]) x (by simp)).mpr (by simpa using e)
        simpa using this
    rw [List.foldl_cons, List.foldl_cons]
    unfold putW
    rw [e]
    split
    · exact dedup_len L S fun a ha b hb => h a (by simp at ha ⊢; rcases ha with q | q <;> simp [q]) b (by simp at hb ⊢; rcases hb with q | q <;> simp [q])
    · have e1 : S.map f ++ [f x] = (S ++ [x]).map f := by simp
      have e2 : S.map g ++ [g x] = (S ++ [x]).map g := by simp
      rw [e1, e2]
      exact dedup_len L (S ++ [x]) fun a ha b hb => h a (by simpa using ha) b (by simpa using hb)
noncomputable def perms : List (Int × Int × Int) := [(0, 1, 2), (0, 1, 3), (0, 2, 1), (0, 2, 3), (0, 3, 1), (0, 3, 2), (1, 0, 2), (1, 0, 3), (1, 2, 0), (1, 2, 3), (1, 3, 0), (1, 3, 2), (2, 0, 1), (2, 0, 3), (2, 1, 0), (2, 1, 3), (2, 3, 0), (2, 3, 1), (3, 0, 1), (3, 0, 2), (3, 1, 0), (3, 1, 2), (3, 2, 0), (3, 2, 1)]
noncomputable def piP (t : Int × Int × Int) : Fin 4 → Int := placesP t.1 t.2.1 t.2.2
theorem waysL_perms (U : List Pr) : waysL U = perms.foldl (fun ds t => putW ds (wordP U (piP t))) [] := by
  have s1 : ∀ i j k ds, (i ≠ j ∧ i ≠ k ∧ j ≠ k) → stepW U i j ds k = putW ds (wordP U (placesP i j k)) := fun i j k ds h => if_pos h
  have s2 : ∀ i j k ds, ¬ (i ≠ j ∧ i ≠ k ∧ j ≠ k) → stepW U i j ds k = ds := fun i j k ds h => if_neg h
  unfold waysL
  simp only [r4, perms, piP, List.foldl_cons, List.foldl_nil]
  repeat (first | rw [s2 _ _ _ _ (by decide)] | rw [s1 _ _ _ _ (by decide)])
theorem perm_inj : ∀ t ∈ perms, ∀ i j : Fin 4, i ≠ j → piP t i ≠ piP t j := by decide +kernel
theorem ways_mask {U : List Pr} (hU : U.any (fun u => u.1 = u.2) = false) : (waysL U).length = (waysL (all6.filter (maskOf U))).length := by
  rw [waysL_perms, waysL_perms]
  refine dedup_len (f := fun t => wordP U (piP t)) (g := fun t => wordP (all6.filter (maskOf U)) (piP t)) perms [] fun t ht t' ht' => ?_
  simp only [List.nil_append] at ht ht'
  rw [wordP_eq, wordP_eq]
  have key : ∀ u : Pr, u.1 ≠ u.2 → (piP t u.1 < piP t u.2 ↔ piP t' u.1 < piP t' u.2) → (piP t u.2 < piP t u.1 ↔ piP t' u.2 < piP t' u.1) := fun u hu h => by
    have a := perm_inj t ht _ _ hu; have b := perm_inj t' ht' _ _ hu; omega
  have := mask_all hU (Q := fun u => u.1 ≠ u.2 ∧ (piP t u.1 < piP t u.2 ↔ piP t' u.1 < piP t' u.2)) fun u h => ⟨fun e => h.1 e.symm, key u h.1 h.2⟩
  have hne : ∀ u ∈ U, u.1 ≠ u.2 := fun u hu => by have := List.any_eq_false.mp hU u hu; simpa using this
  have hne6 : ∀ u ∈ all6, u.1 ≠ u.2 := by decide
  constructor
  · intro a u hu
    obtain ⟨h1, h2⟩ := List.mem_filter.mp hu
    exact (this.mp (fun v hv => ⟨hne v hv, a v hv⟩) u h1 h2).2
  · intro a
    exact fun u hu => (this.mpr (fun v hv hm => ⟨hne6 v hv, a v (List.mem_filter.mpr ⟨hv, hm⟩)⟩) u hu).2
end Mine

namespace Mine
/-! M22: the finite look -/
noncomputable def paintM (ls : List Int) (l0 : Int) (h : Fin 4 → Fin 4) (m : Pr → Bool) : Int :=
  ls.foldl (fun k a => ls.foldl (fun k b => ls.foldl (fun k c => if okM h m (spotsP l0 a b c id) = true then k + 1 else k) k) k) 0
noncomputable def labels (h : Fin 4 → Fin 4) : List Int := dedup [((h 0).val : Int), ((h 1).val : Int), ((h 2).val : Int), ((h 3).val : Int)]
noncomputable def signedP (left : Nat) (W : Int) : Int := if left % 2 = 0 then W else -W
noncomputable def check (h : Fin 4 → Fin 4) (m : Pr → Bool) : Bool :=
  signedP (labels h).length ((waysL (all6.filter m)).length : Int) == (if (labels h).length = 4 then 24 else 0) - paintM [0, 2, 4] 4 h m * 3 + 4 * (paintM [0, 3] 3 h m * 2) - 6 * (paintM [0] 0 h m * 1)
noncomputable def hOf (a b c d : Fin 4) : Fin 4 → Fin 4
  | 0 => a | 1 => b | 2 => c | 3 => d
noncomputable def mOf (b1 b2 b3 b4 b5 b6 : Bool) (u : Pr) : Bool :=
  (u == (0, 1) && b1) || (u == (0, 2) && b2) || (u == (0, 3) && b3) || (u == (1, 2) && b4) || (u == (1, 3) && b5) || (u == (2, 3) && b6)
noncomputable def idemB (h : Fin 4 → Fin 4) : Bool := h (h 0) == h 0 && h (h 1) == h 1 && h (h 2) == h 2 && h (h 3) == h 3
noncomputable def suppB (h : Fin 4 → Fin 4) (m : Pr → Bool) : Bool := all6.all fun u => !(m u) || (h u.1 == u.1 && h u.2 == u.2)
noncomputable def all4 : List (Fin 4) := [0, 1, 2, 3]
noncomputable def bs : List Bool := [false, true]
noncomputable def masks (P : (Pr → Bool) → Bool) : Bool := bs.all fun b1 => bs.all fun b2 => bs.all fun b3 => bs.all fun b4 => bs.all fun b5 => bs.all fun b6 => P (mOf b1 b2 b3 b4 b5 b6)
noncomputable def checkA (a : Fin 4) : Bool := all4.all fun b => all4.all fun c => all4.all fun d => !(idemB (hOf a b c d)) || masks fun m => !(suppB (hOf a b c d) m) || check (hOf a b c d) m
theorem check0 : checkA 0 = true := by decide +kernel
theorem check1 : checkA 1 = true := by decide +kernel
theorem check2 : checkA 2 = true := by decide +kernel
theorem check3 : checkA 3 = true := by decide +kernel
end Mine

namespace Mine
/-! M23: the law of the paintings -/
theorem foldl_congr_mem {α β : Type} {f g : β → α → β} : ∀ (l : List α) (b : β), (∀ b, ∀ x ∈ l, f b x = g b x) → l.foldl f b = l.foldl g b
  | [], _, _ => rfl
  | x :: l, b, h => by
    rw [List.foldl_cons, List.foldl_cons, h b x (by simp)]
    exact foldl_congr_mem l _ fun b y hy => h b y (by simp [hy])
theorem foldl_same {α β : Type} {f : β → α → β} : ∀ (l : List α) (b : β), (∀ b, ∀ x ∈ l, f b x = b) → l.foldl f b = b
  | [], _, _ => rfl
  | x :: l, b, h => by
    rw [List.foldl_cons, h b x (by simp)]
    exact foldl_same l b fun b y hy => h b y (by simp [hy])
noncomputable def cnt (ls : List Int) (Q : Int → Int → Int → Bool) : Int := ls.foldl (fun k a => ls.foldl (fun k b => ls.foldl (fun k c => if Q a b c = true then k + 1 else k) k) k) 0
theorem cnt_congr {ls : List Int} {Q R : Int → Int → Int → Bool} (h : ∀ a ∈ ls, ∀ b ∈ ls, ∀ c ∈ ls, Q a b c = R a b c) : cnt ls Q = cnt ls R := by
  unfold cnt
  refine foldl_congr_mem _ _ fun k a ha => foldl_congr_mem _ _ fun k b hb => foldl_congr_mem _ _ fun k c hc => ?_
  rw [h a ha b hb c hc]
theorem cnt_zero {ls : List Int} {Q : Int → Int → Int → Bool} (h : ∀ a ∈ ls, ∀ b ∈ ls, ∀ c ∈ ls, Q a b c = false) : cnt ls Q = 0 := by
  unfold cnt
  refine foldl_same _ _ fun k a ha => foldl_same _ _ fun k b hb => foldl_same _ _ fun k c hc => ?_
  rw [h a ha b hb c hc]; rfl
theorem okM_hue {h : Fin 4 → Fin 4} {m : Pr → Bool} {hue : Int → Int} {ls : List Int} {l0 a b c : Int} (h0 : l0 ∈ ls) (ha : a ∈ ls) (hb : b ∈ ls) (hc : c ∈ ls) (inj : ∀ a ∈ ls, ∀ b ∈ ls, hue a = hue b → a = b) :
    okM h m (spotsP l0 a b c hue) = okM h m (spotsP l0 a b c id) := by
  have mem : ∀ i, spotsP l0 a b c id i ∈ ls := fun i => by
    match i with
    | 0 => exact h0
    | 1 => exact ha
    | 2 => exact hb
    | 3 => exact hc
  have val : ∀ i, spotsP l0 a b c hue i = hue (spotsP l0 a b c id i) := fun i => by
    match i with
    | 0 => rfl
    | 1 => rfl
    | 2 => rfl
    | 3 => rfl
  have e : ∀ i j, (spotsP l0 a b c hue i == spotsP l0 a b c hue j) = (spotsP l0 a b c id i == spotsP l0 a b c id j) := fun i j => by
    rw [val i, val j, Bool.eq_iff_iff, beq_iff_eq, beq_iff_eq]
    exact ⟨inj _ (mem i) _ (mem j), fun q => by rw [q]⟩
  unfold okM
  simp only [e]
theorem paint_mask {ss : List Stm} (hU : (ulist (ss.foldl merge id) ss).any (fun u => u.1 = u.2) = false) {ls : List Int} {l0 : Int} {hue : Int → Int} (h0 : l0 ∈ ls) (inj : ∀ a ∈ ls, ∀ b ∈ ls, hue a = hue b → a = b) :
    paintP ls l0 hue ss = paintM ls l0 (ss.foldl merge id) (maskOf (ulist (ss.foldl merge id) ss)) :=
  cnt_congr (Q := fun a b c => ss.all (sat (spotsP l0 a b c hue))) (R := fun a b c => okM (ss.foldl merge id) (maskOf (ulist (ss.foldl merge id) ss)) (spotsP l0 a b c id)) fun a ha b hb c hc => by
    rw [ok_eq _ ss hU, okM_hue h0 ha hb hc inj]
theorem paint_none {ss : List Stm} (hU : (ulist (ss.foldl merge id) ss).any (fun u => u.1 = u.2) = true) (ls : List Int) (l0 : Int) (hue : Int → Int) : paintP ls l0 hue ss = 0 :=
  cnt_zero (Q := fun a b c => ss.all (sat (spotsP l0 a b c hue))) fun a _ b _ c _ => by
    cases h : ss.all (sat (spotsP l0 a b c hue)) with
    | false => rfl
    | true =>
      obtain ⟨u, hu, e⟩ := List.any_eq_true.mp hU
      have := ((all_sat _ _).mp h).2 u hu
      exact absurd (by rw [of_decide_eq_true e]) this

theorem hOf_eq (h : Fin 4 → Fin 4) : h = hOf (h 0) (h 1) (h 2) (h 3) := by
  funext i
  match i with
  | 0 => rfl
  | 1 => rfl
  | 2 => rfl
  | 3 => rfl
theorem orSix0 (a b c d e f : Bool) : a = ((true && a) || (false && b) || (false && c) || (false && d) || (false && e) || (false && f)) := by simp
theorem orSix1 (a b c d e f : Bool) : b = ((false && a) || (true && b) || (false && c) || (false && d) || (false && e) || (false && f)) := by simp
theorem orSix2 (a b c d e f : Bool) : c = ((false && a) || (false && b) || (true && c) || (false && d) || (false && e) || (false && f)) := by simp
theorem orSix3 (a b c d e f : Bool) : d = ((false && a) || (false && b) || (false && c) || (true && d) || (false && e) || (false && f)) := by simp
theorem orSix4 (a b c d e f : Bool) : e = ((false && a) || (false && b) || (false && c) || (false && d) || (true && e) || (false && f)) := by simp
theorem orSix5 (a b c d e f : Bool) : f = ((false && a) || (false && b) || (false && c) || (false && d) || (false && e) || (true && f)) := by simp
theorem mOf_eq (m : Pr → Bool) : ∀ u ∈ all6, m u = mOf (m (0, 1)) (m (0, 2)) (m (0, 3)) (m (1, 2)) (m (1, 3)) (m (2, 3)) u := by
  intro u hu
  simp only [all6, List.mem_cons, List.not_mem_nil, or_false] at hu
  rcases hu with rfl | rfl | rfl | rfl | rfl | rfl
  · exact orSix0 _ _ _ _ _ _
  · exact orSix1 _ _ _ _ _ _
  · exact orSix2 _ _ _ _ _ _
  · exact orSix3 _ _ _ _ _ _
  · exact orSix4 _ _ _ _ _ _
  · exact orSix5 _ _ _ _ _ _
theorem okM_congr {h : Fin 4 → Fin 4} {m m' : Pr → Bool} (e : ∀ u ∈ all6, m u = m' u) : okM h m = okM h m' := by
  funext x
  unfold okM
  rw [Bool.eq_iff_iff, List.all_eq_true, List.all_eq_true]
  exact ⟨fun a u hu => by rw [← e u hu]; exact a u hu, fun a u hu => by rw [e u hu]; exact a u hu⟩
theorem check_congr {h : Fin 4 → Fin 4} {m m' : Pr → Bool} (e : ∀ u ∈ all6, m u = m' u) : check h m = check h m' := by
  unfold check paintM
  rw [okM_congr e, List.filter_congr e]
theorem mem_all4 : ∀ a : Fin 4, a ∈ all4 := by decide
theorem mem_bs : ∀ b : Bool, b ∈ bs := by decide
theorem checkA_all (a : Fin 4) : checkA a = true := by
  match a with
  | 0 => exact check0
  | 1 => exact check1
  | 2 => exact check2
  | 3 => exact check3
theorem check_holds (h : Fin 4 → Fin 4) (hi : idem h) (m : Pr → Bool) (hs : ∀ u ∈ all6, m u = true → h u.1 = u.1 ∧ h u.2 = u.2) : check h m = true := by
  rw [check_congr (mOf_eq m)]
  have s : suppB h (mOf (m (0, 1)) (m (0, 2)) (m (0, 3)) (m (1, 2)) (m (1, 3)) (m (2, 3))) = true := by
    unfold suppB
    rw [List.all_eq_true]
    intro u hu
    rw [← mOf_eq m u hu]
    cases q : m u with
    | false => rfl
    | true => obtain ⟨h1, h2⟩ := hs u hu q; simp [h1, h2]
  have i : idemB h = true := by unfold idemB; simp [hi 0, hi 1, hi 2, hi 3]
  have A := checkA_all (h 0)
  unfold checkA at A
  have B := List.all_eq_true.mp (List.all_eq_true.mp (List.all_eq_true.mp A (h 1) (mem_all4 _)) (h 2) (mem_all4 _)) (h 3) (mem_all4 _)
  rw [← hOf_eq h, i] at B
  simp only [Bool.not_true, Bool.false_or] at B
  unfold masks at B
  have C := List.all_eq_true.mp (List.all_eq_true.mp (List.all_eq_true.mp (List.all_eq_true.mp (List.all_eq_true.mp (List.all_eq_true.mp B (m (0, 1)) (mem_bs _)) (m (0, 2)) (mem_bs _)) (m (0, 3)) (mem_bs _)) (m (1, 2)) (mem_bs _)) (m (1, 3)) (mem_bs _)) (m (2, 3)) (mem_bs _)
  dsimp only at C
  rw [s] at C
  simpa using C
noncomputable def injB (h : Fin 4 → Fin 4) : Bool := !((labels h).length == 4) || all6.all fun u => !(h u.1 == h u.2)
theorem inj_all : (all4.all fun a => all4.all fun b => all4.all fun c => all4.all fun d => injB (hOf a b c d)) = true := by decide +kernel
theorem inj_of (h : Fin 4 → Fin 4) (h4 : (labels h).length = 4) {i j : Fin 4} (hij : i ≠ j) : h i ≠ h j := by
  have B := List.all_eq_true.mp (List.all_eq_true.mp (List.all_eq_true.mp (List.all_eq_true.mp inj_all (h 0) (mem_all4 _)) (h 1) (mem_all4 _)) (h 2) (mem_all4 _)) (h 3) (mem_all4 _)
  rw [← hOf_eq h] at B
  unfold injB at B
  rw [h4] at B
  simp only [beq_self_eq_true, Bool.not_true, Bool.false_or] at B
  rw [List.all_eq_true] at B
  rcases in6' i j hij with q | q
  · simpa using B _ q
  · have := B _ q; simp at this; exact fun e => this e.symm
theorem chrom (ss : List Stm) (hne : ∀ s ∈ ss, s.1 ≠ s.2.2) (hue : Int → Int) (inj : ∀ a ∈ ([0, 2, 3, 4] : List Int), ∀ b ∈ ([0, 2, 3, 4] : List Int), hue a = hue b → a = b) :
    signedP (labels (ss.foldl merge id)).length (if (ulist (ss.foldl merge id) ss).any (fun u => u.1 = u.2) = true then 0 else ((waysL (ulist (ss.foldl merge id) ss)).length : Int)) =
      (if (labels (ss.foldl merge id)).length = 4 then 24 else 0) - paintP [0, 2, 4] 4 hue ss * 3 + 4 * (paintP [0, 3] 3 hue ss * 2) - 6 * (paintP [0] 0 hue ss * 1) := by
  have hi : idem (ss.foldl merge id) := idem_fold ss fun i => rfl
  cases hU : (ulist (ss.foldl merge id) ss).any (fun u => u.1 = u.2) with
  | true =>
    rw [paint_none hU, paint_none hU, paint_none hU, if_pos rfl]
    have h4 : ¬ (labels (ss.foldl merge id)).length = 4 := fun h4 => by
      obtain ⟨u, hu, e⟩ := List.any_eq_true.mp hU
      unfold ulist at hu
      obtain ⟨s, hs, e'⟩ := List.mem_filterMap.mp hu
      split at e'
      · cases e'
      · cases e'
        exact inj_of _ h4 (hne s hs) (of_decide_eq_true e)
    rw [if_neg h4]
    unfold signedP; split <;> decide
  | false =>
    rw [if_neg (by decide)]
    have m3 : ∀ a ∈ ([0, 2, 4] : List Int), a ∈ ([0, 2, 3, 4] : List Int) := by decide
    have m2 : ∀ a ∈ ([0, 3] : List Int), a ∈ ([0, 2, 3, 4] : List Int) := by decide
    have m1 : ∀ a ∈ ([0] : List Int), a ∈ ([0, 2, 3, 4] : List Int) := by decide
    rw [paint_mask hU (by decide) fun a ha b hb => inj a (m3 a ha) b (m3 b hb), paint_mask hU (by decide) fun a ha b hb => inj a (m2 a ha) b (m2 b hb), paint_mask hU (by decide) fun a ha b hb => inj a (m1 a ha) b (m1 b hb), ways_mask hU]
    have := check_holds (ss.foldl merge id) hi (maskOf (ulist (ss.foldl merge id) ss)) fun u hu hm => by
      have key : ∀ v ∈ ulist (ss.foldl merge id) ss, (ss.foldl merge id) v.1 = v.1 ∧ (ss.foldl merge id) v.2 = v.2 := fun v hv => by
        unfold ulist at hv
        obtain ⟨s, hs, e'⟩ := List.mem_filterMap.mp hv
        split at e'
        · cases e'
        · cases e'; exact ⟨hi _, hi _⟩
      unfold maskOf at hm
      obtain ⟨v, hv, e⟩ := List.any_eq_true.mp hm
      rw [Bool.or_eq_true, beq_iff_eq, beq_iff_eq] at e
      rcases e with e | e
      · exact e ▸ key v hv
      · have k := key v hv
        rw [e] at k
        exact ⟨k.2, k.1⟩
    unfold check at this
    exact of_decide_eq_true (by simpa using this)
end Mine

namespace Mine
/-! M24: the colours: what was sent is what is due, in all cases -/
noncomputable def sent10 (s v r : Nat) : Bool := (List.range 10).all fun c => sentOk c s v r
theorem sent_121 : sent10 1 2 1 = true := by decide +kernel
theorem sent_221 : sent10 2 2 1 = true := by decide +kernel
theorem sent_321 : sent10 3 2 1 = true := by decide +kernel
theorem sent_421 : sent10 4 2 1 = true := by decide +kernel
theorem sent_131 : sent10 1 3 1 = true := by decide +kernel
theorem sent_231 : sent10 2 3 1 = true := by decide +kernel
theorem sent_331 : sent10 3 3 1 = true := by decide +kernel
theorem sent_431 : sent10 4 3 1 = true := by decide +kernel
theorem sent_141 : sent10 1 4 1 = true := by decide +kernel
theorem sent_241 : sent10 2 4 1 = true := by decide +kernel
theorem sent_341 : sent10 3 4 1 = true := by decide +kernel
theorem sent_441 : sent10 4 4 1 = true := by decide +kernel
theorem sent_151 : sent10 1 5 1 = true := by decide +kernel
theorem sent_251 : sent10 2 5 1 = true := by decide +kernel
theorem sent_351 : sent10 3 5 1 = true := by decide +kernel
theorem sent_451 : sent10 4 5 1 = true := by decide +kernel
theorem sent_122 : sent10 1 2 2 = true := by decide +kernel
theorem sent_222 : sent10 2 2 2 = true := by decide +kernel
theorem sent_322 : sent10 3 2 2 = true := by decide +kernel
theorem sent_422 : sent10 4 2 2 = true := by decide +kernel
theorem sent_132 : sent10 1 3 2 = true := by decide +kernel
theorem sent_232 : sent10 2 3 2 = true := by decide +kernel
theorem sent_332 : sent10 3 3 2 = true := by decide +kernel
theorem sent_432 : sent10 4 3 2 = true := by decide +kernel
theorem sent_142 : sent10 1 4 2 = true := by decide +kernel
theorem sent_242 : sent10 2 4 2 = true := by decide +kernel
theorem sent_342 : sent10 3 4 2 = true := by decide +kernel
theorem sent_442 : sent10 4 4 2 = true := by decide +kernel
theorem sent_152 : sent10 1 5 2 = true := by decide +kernel
theorem sent_252 : sent10 2 5 2 = true := by decide +kernel
theorem sent_352 : sent10 3 5 2 = true := by decide +kernel
theorem sent_452 : sent10 4 5 2 = true := by decide +kernel
theorem sent_all (s v r : Nat) (h1 : 1 ≤ s) (h2 : s ≤ 4) (h3 : 2 ≤ v) (h4 : v ≤ 5) (h5 : r = 1 ∨ r = 2) : sent10 s v r = true := by
  have hs : s = 1 ∨ s = 2 ∨ s = 3 ∨ s = 4 := by omega
  have hv : v = 2 ∨ v = 3 ∨ v = 4 ∨ v = 5 := by omega
  rcases h5 with rfl | rfl
  · rcases hv with rfl | rfl | rfl | rfl
    · rcases hs with rfl | rfl | rfl | rfl
      · exact sent_121
      · exact sent_221
      · exact sent_321
      · exact sent_421
    · rcases hs with rfl | rfl | rfl | rfl
      · exact sent_131
      · exact sent_231
      · exact sent_331
      · exact sent_431
    · rcases hs with rfl | rfl | rfl | rfl
      · exact sent_141
      · exact sent_241
      · exact sent_341
      · exact sent_441
    · rcases hs with rfl | rfl | rfl | rfl
      · exact sent_151
      · exact sent_251
      · exact sent_351
      · exact sent_451
  · rcases hv with rfl | rfl | rfl | rfl
    · rcases hs with rfl | rfl | rfl | rfl
      · exact sent_122
      · exact sent_222
      · exact sent_322
      · exact sent_422
    · rcases hs with rfl | rfl | rfl | rfl
      · exact sent_132
      · exact sent_232
      · exact sent_332
      · exact sent_432
    · rcases hs with rfl | rfl | rfl | rfl
      · exact sent_142
      · exact sent_242
      · exact sent_342
      · exact sent_442
    · rcases hs with rfl | rfl | rfl | rfl
      · exact sent_152
      · exact sent_252
      · exact sent_352
      · exact sent_452
end Mine

namespace Mine
/-! M25: what the sets show -/
theorem sent_at (c s v r : Nat) (hc : c < 10) (h1 : 1 ≤ s) (h2 : s ≤ 4) (h3 : 2 ≤ v) (h4 : v ≤ 5) (h5 : r = 1 ∨ r = 2) : ∃ b d : Int,
    orc2 13 [.int (c : Int), .int (s : Int), .int (v : Int), .int (r : Int)] = some (.tup [.int (1000 * (((c % 6 + 3 * r) % 6 : Nat) : Int)), .int b, .int d]) ∧
    orc1 14 [.int (c : Int), .int (s : Int), .int (v : Int), .int (r : Int)] = some (.tup [.int (1000 * (((c % 6 + 3 * r) % 6 : Nat) : Int)), .int b, .int d]) := by
  have h := List.all_eq_true.mp (sent_all s v r h1 h2 h3 h4 h5) c (List.mem_range.mpr hc)
  unfold sentOk at h
  cases e1 : triOf (orc2 13 [.int (c : Int), .int (s : Int), .int (v : Int), .int (r : Int)]) with
  | none => rw [e1] at h; cases h
  | some p => cases e2 : triOf (orc1 14 [.int (c : Int), .int (s : Int), .int (v : Int), .int (r : Int)]) with
    | none => rw [e1, e2] at h; cases h
    | some q =>
      obtain ⟨a, b, d⟩ := p
      obtain ⟨a', b', d'⟩ := q
      rw [e1, e2] at h
      simp only [Bool.and_eq_true, beq_iff_eq] at h
      obtain ⟨⟨⟨rfl, rfl⟩, rfl⟩, rfl⟩ := h
      exact ⟨b, d, triOf_some e1, triOf_some e2⟩
noncomputable def hueP (t r l : Nat) : Int := 1000 * ((((l + t) % 6 + 3 * r) % 6 : Nat) : Int)
noncomputable def callArgs : List ME := [.bin .Add (.bin .Mod (.var 5) (.int 4)) (.int 1), .bin .Add (.bin .FloorDiv (.var 5) (.int 4)) (.int 2), .var 2]
noncomputable def body15 : List MS := [.set 8 (.call 13 (.bin .Add (.var 7) (.var 1)) callArgs), .ite (.cmp .NotEq (.var 8) (.call 14 (.bin .Add (.var 7) (.var 1)) callArgs)) [.ret (.list [])] [], .putd 6 (.var 7) (.subv 8 (.int 0))]
theorem in15 (F : Int) (t r fn : Nat) (ht : t < 6) (hr : r = 1 ∨ r = 2) (hf : fn < 16) (l : Nat) (hl : l ≤ 4) (c3 c4 o8 : O1) (es : List (Int × Int)) (hes : es.any (fun kv => kv.1 = (l : Int)) = false ∧ es.length ≤ 100000) :
    ∃ o8', exL P2 body15 [vi F, vi t, vi r, c3, c4, vi fn, some (.own (.dII es)), vi l, o8] = some (.next [vi F, vi t, vi r, c3, c4, vi fn, some (.own (.dII (es ++ [((l : Int), hueP t r l)]))), vi l, o8']) := by
  obtain ⟨b, d, e1, e2⟩ := sent_at (l + t) (fn % 4 + 1) (fn / 4 + 2) r (by omega) (by omega) (by omega) (by omega) (by omega) hr
  have args : ∀ o8, evs P2 callArgs [vi F, vi t, vi r, c3, c4, vi fn, some (.own (.dII es)), vi l, o8] = some [.int ((fn % 4 + 1 : Nat) : Int), .int ((fn / 4 + 2 : Nat) : Int), .int (r : Int)] := fun o8 => by
    have m : Int.fmod (fn : Int) 4 = ((fn % 4 : Nat) : Int) := (Int.ofNat_fmod fn 4).symm
    have q : Int.fdiv (fn : Int) 4 = ((fn / 4 : Nat) : Int) := (Int.ofNat_fdiv fn 4).symm
    have : evs P2 callArgs [vi F, vi t, vi r, c3, c4, vi fn, some (.own (.dII es)), vi l, o8] = some [.int (Int.fmod (fn : Int) 4 + 1), .int (Int.fdiv (fn : Int) 4 + 2), .int (r : Int)] := rfl
    rw [this, m, q]; rfl
  have first : ∀ o8, ev P2 (.bin .Add (.var 7) (.var 1)) [vi F, vi t, vi r, c3, c4, vi fn, some (.own (.dII es)), vi l, o8] = some (.int ((l + t : Nat) : Int)) := fun o8 => by
    have : ev P2 (.bin .Add (.var 7) (.var 1)) [vi F, vi t, vi r, c3, c4, vi fn, some (.own (.dII es)), vi l, o8] = some (.int ((l : Int) + (t : Int))) := rfl
    rw [this]; rfl
  have c1 := (ev_call (P := P2) (f := 13) (first o8) (args o8)).trans e1
  refine ⟨some (.val (.tup [.int (hueP t r l), .int b, .int d])), (exL_next (exS_set c1)).trans ?_⟩
  show exL P2 _ [vi F, vi t, vi r, c3, c4, vi fn, some (.own (.dII es)), vi l, some (.val (.tup [.int (hueP t r l), .int b, .int d]))] = _
  generalize ho : (some (.val (.tup [.int (hueP t r l), .int b, .int d])) : O1) = o
  have c2 := (ev_call (P := P2) (f := 14) (first o) (args o)).trans (show orc2 14 _ = _ from e2)
  have c3' : cmpop .NotEq (.tup [.int (hueP t r l), .int b, .int d]) (.tup [.int (hueP t r l), .int b, .int d]) = some false := by
    show (if SeqAt.shaped (.tuple [.int (hueP t r l), .int b, .int d]) = true ∧ SeqAt.shaped (.tuple [.int (hueP t r l), .int b, .int d]) = true then some (!PyData.eqv (.tuple [.int (hueP t r l), .int b, .int d]) (.tuple [.int (hueP t r l), .int b, .int d])) else none) = _
    rw [if_pos ⟨rfl, rfl⟩]
    simp [PyData.eqv, PyData.eqvAll]
  refine (exL_next ((exS_itef ((evT_cmp (op := .NotEq) (x := .tup [.int (hueP t r l), .int b, .int d]) (by subst ho; rfl) c2).trans c3')).trans rfl)).trans ?_
  subst ho
  refine exL_next ?_ |>.trans rfl
  show (if es.any (fun kv => kv.1 = (l : Int)) = false ∧ es.length ≤ 100000 then some (Out.next _) else none) = _
  rw [if_pos hes]; rfl
noncomputable def lamps15 : List D := [.int 0, .int 2, .int 3, .int 4]
noncomputable def seenE (t r : Nat) : List (Int × Int) := [(0, hueP t r 0), (2, hueP t r 2), (3, hueP t r 3), (4, hueP t r 4)]
theorem loop15 (F : Int) (t r fn : Nat) (ht : t < 6) (hr : r = 1 ∨ r = 2) (hf : fn < 16) (c3 c4 o7 o8 : O1) :
    ∃ o7' o8', forF (setTg (.one 7)) (exL P2 body15) lamps15 [vi F, vi t, vi r, c3, c4, vi fn, some (.own (.dII [])), o7, o8] = some (.next [vi F, vi t, vi r, c3, c4, vi fn, some (.own (.dII (seenE t r))), o7', o8']) := by
  obtain ⟨a0, e0⟩ := in15 F t r fn ht hr hf 0 (by omega) c3 c4 o8 [] (by decide)
  obtain ⟨a1, e1⟩ := in15 F t r fn ht hr hf 2 (by omega) c3 c4 a0 [(0, hueP t r 0)] ⟨by simp, by simp⟩
  obtain ⟨a2, e2⟩ := in15 F t r fn ht hr hf 3 (by omega) c3 c4 a1 [(0, hueP t r 0), (2, hueP t r 2)] ⟨by simp, by simp⟩
  obtain ⟨a3, e3⟩ := in15 F t r fn ht hr hf 4 (by omega) c3 c4 a2 [(0, hueP t r 0), (2, hueP t r 2), (3, hueP t r 3)] ⟨by simp, by simp⟩
  refine ⟨vi 4, a3, ?_⟩
  unfold lamps15
  rw [forF_cons (τ := [vi F, vi t, vi r, c3, c4, vi fn, some (.own (.dII [])), vi ((0 : Nat) : Int), o8]) rfl, e0]
  dsimp only
  rw [forF_cons (τ := [vi F, vi t, vi r, c3, c4, vi fn, some (.own (.dII [(0, hueP t r 0)])), vi ((2 : Nat) : Int), a0]) rfl, e1]
  dsimp only
  rw [forF_cons (τ := [vi F, vi t, vi r, c3, c4, vi fn, some (.own (.dII [(0, hueP t r 0), (2, hueP t r 2)])), vi ((3 : Nat) : Int), a1]) rfl, e2]
  dsimp only
  rw [forF_cons (τ := [vi F, vi t, vi r, c3, c4, vi fn, some (.own (.dII [(0, hueP t r 0), (2, hueP t r 2), (3, hueP t r 3)])), vi ((4 : Nat) : Int), a2]) rfl, e3]
  rfl
noncomputable def outer15 : List MS := [.set 5 (.bin .Mod (.bin .FloorDiv (.var 0) (.bin .Pow (.int 16) (.var 4))) (.int 16)), .newd 6, .forr (.one 7) (.val (.tup [.int 0, .int 2, .int 3, .int 4])) body15, .freeze 6, .app 3 (.var 6)]
theorem turn15 (F : Int) (t r : Nat) (ht : t < 6) (hr : r = 1 ∨ r = 2) (i : Nat) (hi : i < 4) (ds : List D) (hds : ds.length ≤ 100000) (o5 o6 o7 o8 : O1) :
    ∃ o5' o6' o7' o8', exL P2 outer15 [vi F, vi t, vi r, some (.own (.list ds)), vi i, o5, o6, o7, o8] = some (.next [vi F, vi t, vi r, some (.own (.list (ds ++ [.dII (seenE t r)]))), vi i, o5', o6', o7', o8']) := by
  have e5 : ∃ fn : Nat, fn < 16 ∧ ev P2 (.bin .Mod (.bin .FloorDiv (.var 0) (.bin .Pow (.int 16) (.var 4))) (.int 16)) [vi F, vi t, vi r, some (.own (.list ds)), vi i, o5, o6, o7, o8] = some (.int (fn : Int)) := by
    have key : ∀ x : Int, ∃ fn : Nat, fn < 16 ∧ x.fmod 16 = (fn : Int) := fun x => by
      have := fmod_range x (show (0 : Int) < 16 by decide)
      exact ⟨(x.fmod 16).toNat, by omega, by omega⟩
    have hi : i = 0 ∨ i = 1 ∨ i = 2 ∨ i = 3 := by omega
    rcases hi with rfl | rfl | rfl | rfl
    · obtain ⟨fn, h, e⟩ := key (F.fdiv 1); exact ⟨fn, h, (show _ = some (D.int ((F.fdiv 1).fmod 16)) from rfl).trans (by rw [e])⟩
    · obtain ⟨fn, h, e⟩ := key (F.fdiv 16); exact ⟨fn, h, (show _ = some (D.int ((F.fdiv 16).fmod 16)) from rfl).trans (by rw [e])⟩
    · obtain ⟨fn, h, e⟩ := key (F.fdiv 256); exact ⟨fn, h, (show _ = some (D.int ((F.fdiv 256).fmod 16)) from rfl).trans (by rw [e])⟩
    · obtain ⟨fn, h, e⟩ := key (F.fdiv 4096); exact ⟨fn, h, (show _ = some (D.int ((F.fdiv 4096).fmod 16)) from rfl).trans (by rw [e])⟩
  obtain ⟨fn, hfn, e5⟩ := e5
  obtain ⟨o7', o8', el⟩ := loop15 F t r fn ht hr hfn (some (.own (.list ds))) (vi i) o7 o8
  refine ⟨vi fn, some (.val (.dII (seenE t r))), o7', o8', ?_⟩
  refine (exL_next (exS_set e5)).trans ?_
  refine (exL_next (σ' := [vi F, vi t, vi r, some (.own (.list ds)), vi i, vi fn, some (.own (.dII [])), o7, o8]) rfl).trans ?_
  refine (exL_next ((exS_forr (ds := lamps15) rfl).trans el)).trans ?_
  refine (exL_next (σ' := [vi F, vi t, vi r, some (.own (.list ds)), vi i, vi fn, some (.val (.dII (seenE t r))), o7', o8']) rfl).trans ?_
  exact (exL_next (exS_app (ds := ds) (d := .dII (seenE t r)) rfl rfl hds)).trans rfl
theorem spec15 (F : Int) (t r : Nat) (ht : t < 6) (hr : r = 1 ∨ r = 2) : orc3 15 [.int F, .int t, .int r] = some (.list [.dII (seenE t r), .dII (seenE t r), .dII (seenE t r), .dII (seenE t r)]) := by
  refine runF_ret rfl ?_
  have s0 : start cf15 [.int F, .int t, .int r] = [vi F, vi t, vi r, none, none, none, none, none, none] := rfl
  rw [s0]
  refine (exL_next (σ' := [vi F, vi t, vi r, some (.own (.list [])), none, none, none, none, none]) rfl).trans ?_
  generalize hE : D.dII (seenE t r) = E
  obtain ⟨a5, a6, a7, a8, ea⟩ := turn15 F t r ht hr 0 (by omega) [] (by decide) none none none none
  obtain ⟨b5, b6, b7, b8, eb⟩ := turn15 F t r ht hr 1 (by omega) [E] (by simp) a5 a6 a7 a8
  obtain ⟨c5, c6, c7, c8, ec⟩ := turn15 F t r ht hr 2 (by omega) [E, E] (by simp) b5 b6 b7 b8
  obtain ⟨d5, d6, d7, d8, ed⟩ := turn15 F t r ht hr 3 (by omega) [E, E, E] (by simp) c5 c6 c7 c8
  rw [hE] at ea eb ec ed
  have ef : forF (setTg (.one 4)) (exL P2 outer15) [.int 0, .int 1, .int 2, .int 3] [vi F, vi t, vi r, some (.own (.list [])), none, none, none, none, none] =
      some (.next [vi F, vi t, vi r, some (.own (.list [E, E, E, E])), vi ((3 : Nat) : Int), d5, d6, d7, d8]) := by
    rw [forF_cons (τ := [vi F, vi t, vi r, some (.own (.list [])), vi ((0 : Nat) : Int), none, none, none, none]) rfl, ea]
    dsimp only
    rw [forF_cons (τ := [vi F, vi t, vi r, some (.own (.list [E])), vi ((1 : Nat) : Int), a5, a6, a7, a8]) rfl, eb]
    dsimp only
    rw [forF_cons (τ := [vi F, vi t, vi r, some (.own (.list [E, E])), vi ((2 : Nat) : Int), b5, b6, b7, b8]) rfl, ec]
    dsimp only
    rw [forF_cons (τ := [vi F, vi t, vi r, some (.own (.list [E, E, E])), vi ((3 : Nat) : Int), c5, c6, c7, c8]) rfl, ed]
    rfl
  refine (exL_next ((exS_forr (ds := [.int 0, .int 1, .int 2, .int 3]) rfl).trans ef)).trans ?_
  refine (exL_next (σ' := [vi F, vi t, vi r, some (.val (.list [E, E, E, E])), vi ((3 : Nat) : Int), d5, d6, d7, d8]) rfl).trans ?_
  exact exL_retn (exS_ret rfl)
end Mine

namespace Mine
/-! M26: the typed text -/
noncomputable def mkS (l : List Nat) : Str := ⟨l.toArray⟩
theorem mkS_append (a b : List Nat) : mkS a ++ mkS b = mkS (a ++ b) := by
  show Str.append _ _ = _
  unfold Str.append mkS; simp
theorem mkS_length (a : List Nat) : (mkS a).length = a.length := by unfold mkS Str.length; simp
theorem add_str {P : Prg} {σ : Sg} {a b : ME} {x y : List Nat} (ha : ev P a σ = some (.str (mkS x))) (hb : ev P b σ = some (.str (mkS y))) (hl : x.length + y.length ≤ 100000) : ev P (.bin .Add a b) σ = some (.str (mkS (x ++ y))) := by
  refine (ev_bin ha hb).trans ?_
  show (if (mkS x).length + (mkS y).length ≤ 100000 then some (D.str (mkS x ++ mkS y)) else none) = _
  rw [mkS_length, mkS_length, if_pos hl, mkS_append]
noncomputable def face (k : Nat) : Nat := [97, 65, 119808, 119860, 119912, 120016, 120172, 120224, 120276, 120328, 120380, 120432].getD k 0
noncomputable def facesD : D := .list [.int 97, .int 65, .int 119808, .int 119860, .int 119912, .int 120016, .int 120172, .int 120224, .int 120276, .int 120328, .int 120380, .int 120432]
theorem face_at (x : Int) : ∃ k : Nat, k < 12 ∧ (x.fmod 12).toNat = k ∧ subop facesD (.int (x.fmod 12)) = some (.int (face k : Int)) := by
  have h := fmod_range x (show (0 : Int) < 12 by decide)
  generalize x.fmod 12 = y at h
  refine ⟨y.toNat, by omega, rfl, ?_⟩
  have : y = 0 ∨ y = 1 ∨ y = 2 ∨ y = 3 ∨ y = 4 ∨ y = 5 ∨ y = 6 ∨ y = 7 ∨ y = 8 ∨ y = 9 ∨ y = 10 ∨ y = 11 := by omega
  rcases this with rfl | rfl | rfl | rfl | rfl | rfl | rfl | rfl | rfl | rfl | rfl | rfl <;> rfl
theorem face_le : ∀ k < 12, face k ≤ 200000 := by decide
noncomputable def opL (al : Bool) : Nat := if al = true then 61 else 33
noncomputable def noteL (al : Bool) (p : Nat) (R : Nat) : List Nat := [65529, R, 65530, (if al = true then 33 else 61), 61, 97 + p, 65531]
noncomputable def fA (c : Int) : Nat := face ((c.fdiv 72).fmod 12).toNat
noncomputable def fB (c : Int) : Nat := face ((c.fdiv 864).fmod 12).toNat
noncomputable def pieceL (u : Nat) (c : Int) : List Nat :=
  [fA c + (drawnP c).1.val, opL (drawnP c).2.1, u, 61] ++ (if (c.fdiv 10368).fmod 2 = 1 then noteL (drawnP c).2.1 (drawnP c).1.val (fB c + (drawnP c).2.2.val) else [fB c + (drawnP c).2.2.val])
theorem chr_at {P : Prg} {σ : Sg} {a : ME} {k : Nat} (ha : ev P a σ = some (.int (k : Int))) (hk : k ≤ 1114111) : ev P (.bi .chr a []) σ = some (.str (mkS [k])) := by
  refine (ev_bi ha evs_nil).trans ?_
  show (if 0 ≤ (k : Int) ∧ (k : Int) ≤ 1114111 then some (D.str ⟨#[(k : Int).toNat]⟩) else none) = _
  rw [if_pos ⟨by omega, by omega⟩]; rfl
noncomputable def body10 : List MS := [.unp [5, 6, 7] (.call 9 (.var 4) []), .set 8 (.bi .chr (.bin .Add (.subv 2 (.bin .Mod (.bin .FloorDiv (.var 4) (.int 72)) (.int 12))) (.var 5)) []), .set 9 (.bi .chr (.bin .Add (.subv 2 (.bin .Mod (.bin .FloorDiv (.var 4) (.int 864)) (.int 12))) (.var 7)) []), .ite (.cmp .Eq (.bin .Mod (.bin .FloorDiv (.var 4) (.int 10368)) (.int 2)) (.int 1)) [.set 10 (.bin .Add (.ite (.val (.var 6)) (.str ("!=" : Str)) (.str ("==" : Str))) (.bi .chr (.bin .Add (.int 97) (.var 5)) [])), .set 9 (.bin .Add (.bin .Add (.bin .Add (.bin .Add (.bi .chr (.int 65529) []) (.var 9)) (.bi .chr (.int 65530) [])) (.var 10)) (.bi .chr (.int 65531) []))] [], .app 3 (.bin .Add (.bin .Add (.bin .Add (.bin .Add (.var 8) (.ite (.val (.var 6)) (.str ("=" : Str)) (.str ("!" : Str)))) (.var 1)) (.str ("=" : Str))) (.var 9))]
noncomputable def vs (l : List Nat) : O1 := some (.val (.str (mkS l)))
theorem body10_at (c0 : O1) (u : Nat) (c : Int) (ds : List D) (hds : ds.length ≤ 100000) (o5 o6 o7 o8 o9 o10 : O1) : ∃ o : O1 × O1 × O1 × O1 × O1 × O1,
    exL P1 body10 [c0, vs [u], some (.val facesD), some (.own (.list ds)), vi c, o5, o6, o7, o8, o9, o10] =
      some (.next [c0, vs [u], some (.val facesD), some (.own (.list (ds ++ [.str (mkS (pieceL u c))]))), vi c, o.1, o.2.1, o.2.2.1, o.2.2.2.1, o.2.2.2.2.1, o.2.2.2.2.2]) := by
  generalize hs : drawnP c = s
  have e0 : ev P1 (.call 9 (.var 4) []) [c0, vs [u], some (.val facesD), some (.own (.list ds)), vi c, o5, o6, o7, o8, o9, o10] = some (toD s) := by
    rw [← hs]; exact (ev_call (x := .int c) (xs := []) rfl rfl).trans (spec9 c)
  obtain ⟨kA, hkA, eA, fAe⟩ := face_at (c.fdiv 72)
  obtain ⟨kB, hkB, eB, fBe⟩ := face_at (c.fdiv 864)
  have leA := face_le kA hkA
  have leB := face_le kB hkB
  have hp := s.1.isLt
  have hq := s.2.2.isLt
  have hfA : fA c = face kA := by unfold fA; rw [eA]
  have hfB : fB c = face kB := by unfold fB; rw [eB]
  generalize hA : face kA + s.1.val = A
  generalize hB : face kB + s.2.2.val = B
  have e1 : ∀ o8 o9 o10, ev P1 (.bi .chr (.bin .Add (.subv 2 (.bin .Mod (.bin .FloorDiv (.var 4) (.int 72)) (.int 12))) (.var 5)) []) [c0, vs [u], some (.val facesD), some (.own (.list ds)), vi c, vi s.1.val, vb s.2.1, vi s.2.2.val, o8, o9, o10] = some (.str (mkS [A])) := fun o8 o9 o10 => by
    refine chr_at ((ev_bin ((ev_subv (k := (c.fdiv 72).fmod 12) (d := facesD) rfl rfl).trans fAe) (y := .int s.1.val) rfl).trans ?_) (by omega)
    show some (D.int ((face kA : Int) + (s.1.val : Int))) = _
    rw [← hA]; rfl
  have e2 : ∀ o8 o9 o10, ev P1 (.bi .chr (.bin .Add (.subv 2 (.bin .Mod (.bin .FloorDiv (.var 4) (.int 864)) (.int 12))) (.var 7)) []) [c0, vs [u], some (.val facesD), some (.own (.list ds)), vi c, vi s.1.val, vb s.2.1, vi s.2.2.val, o8, o9, o10] = some (.str (mkS [B])) := fun o8 o9 o10 => by
    refine chr_at ((ev_bin ((ev_subv (k := (c.fdiv 864).fmod 12) (d := facesD) rfl rfl).trans fBe) (y := .int s.2.2.val) rfl).trans ?_) (by omega)
    show some (D.int ((face kB : Int) + (s.2.2.val : Int))) = _
    rw [← hB]; rfl
  have last : ∀ (R : List Nat) (o10 : O1), R.length ≤ 10 → exL P1 [.app 3 (.bin .Add (.bin .Add (.bin .Add (.bin .Add (.var 8) (.ite (.val (.var 6)) (.str ("=" : Str)) (.str ("!" : Str)))) (.var 1)) (.str ("=" : Str))) (.var 9))]
      [c0, vs [u], some (.val facesD), some (.own (.list ds)), vi c, vi s.1.val, vb s.2.1, vi s.2.2.val, vs [A], vs R, o10] =
      some (.next [c0, vs [u], some (.val facesD), some (.own (.list (ds ++ [.str (mkS ([A, opL s.2.1, u, 61] ++ R))]))), vi c, vi s.1.val, vb s.2.1, vi s.2.2.val, vs [A], vs R, o10]) := fun R o10 hR => by
    generalize hσ : ([c0, vs [u], some (.val facesD), some (.own (.list ds)), vi c, vi s.1.val, vb s.2.1, vi s.2.2.val, vs [A], vs R, o10] : Sg) = σ
    have g1 : ev P1 (.ite (.val (.var 6)) (.str ("=" : Str)) (.str ("!" : Str))) σ = some (.str (mkS [opL s.2.1])) := by
      subst hσ; cases h : s.2.1 <;> rfl
    have g2 := add_str (P := P1) (σ := σ) (a := .var 8) (x := [A]) (by subst hσ; rfl) g1 (by simp)
    have g3 := add_str (b := .var 1) (y := [u]) g2 (by subst hσ; rfl) (by simp)
    have g4 := add_str (b := .str ("=" : Str)) (y := [61]) g3 (by subst hσ; rfl) (by simp)
    have g5 := add_str (b := .var 9) (y := R) g4 (by subst hσ; rfl) (by simp; omega)
    refine (exL_next (exS_app (ds := ds) (by subst hσ; rfl) g5 hds)).trans ?_
    subst hσ; rfl
  refine ⟨(vi s.1.val, vb s.2.1, vi s.2.2.val, vs [A], vs (if (c.fdiv 10368).fmod 2 = 1 then noteL s.2.1 s.1.val B else [B]), if (c.fdiv 10368).fmod 2 = 1 then vs [(if s.2.1 = true then 33 else 61), 61, 97 + s.1.val] else o10), ?_⟩
  refine (exL_next (exS_unp e0 rfl)).trans ?_
  show exL P1 _ [c0, vs [u], some (.val facesD), some (.own (.list ds)), vi c, vi s.1.val, vb s.2.1, vi s.2.2.val, o8, o9, o10] = _
  refine (exL_next (exS_set (e1 o8 o9 o10))).trans ?_
  show exL P1 _ [c0, vs [u], some (.val facesD), some (.own (.list ds)), vi c, vi s.1.val, vb s.2.1, vi s.2.2.val, vs [A], o9, o10] = _
  refine (exL_next (exS_set (e2 (vs [A]) o9 o10))).trans ?_
  show exL P1 _ [c0, vs [u], some (.val facesD), some (.own (.list ds)), vi c, vi s.1.val, vb s.2.1, vi s.2.2.val, vs [A], vs [B], o10] = _
  have t : evT P1 (.cmp .Eq (.bin .Mod (.bin .FloorDiv (.var 4) (.int 10368)) (.int 2)) (.int 1)) [c0, vs [u], some (.val facesD), some (.own (.list ds)), vi c, vi s.1.val, vb s.2.1, vi s.2.2.val, vs [A], vs [B], o10] = some ((c.fdiv 10368).fmod 2 == 1) := rfl
  have hpl : pieceL u c = [A, opL s.2.1, u, 61] ++ (if (c.fdiv 10368).fmod 2 = 1 then noteL s.2.1 s.1.val B else [B]) := by unfold pieceL; rw [hs, hfA, hfB, hA, hB]
  rw [hpl]
  by_cases hn : (c.fdiv 10368).fmod 2 = 1
  · rw [if_pos hn, if_pos hn]
    have note : exL P1 [.set 10 (.bin .Add (.ite (.val (.var 6)) (.str ("!=" : Str)) (.str ("==" : Str))) (.bi .chr (.bin .Add (.int 97) (.var 5)) [])), .set 9 (.bin .Add (.bin .Add (.bin .Add (.bin .Add (.bi .chr (.int 65529) []) (.var 9)) (.bi .chr (.int 65530) [])) (.var 10)) (.bi .chr (.int 65531) []))]
        [c0, vs [u], some (.val facesD), some (.own (.list ds)), vi c, vi s.1.val, vb s.2.1, vi s.2.2.val, vs [A], vs [B], o10] =
        some (.next [c0, vs [u], some (.val facesD), some (.own (.list ds)), vi c, vi s.1.val, vb s.2.1, vi s.2.2.val, vs [A], vs (noteL s.2.1 s.1.val B), vs [(if s.2.1 = true then 33 else 61), 61, 97 + s.1.val]]) := by
      generalize hσ : ([c0, vs [u], some (.val facesD), some (.own (.list ds)), vi c, vi s.1.val, vb s.2.1, vi s.2.2.val, vs [A], vs [B], o10] : Sg) = σ
      have g1 : ev P1 (.ite (.val (.var 6)) (.str ("!=" : Str)) (.str ("==" : Str))) σ = some (.str (mkS [(if s.2.1 = true then 33 else 61), 61])) := by
        subst hσ; cases h : s.2.1 <;> rfl
      have g2 : ev P1 (.bi .chr (.bin .Add (.int 97) (.var 5)) []) σ = some (.str (mkS [97 + s.1.val])) := chr_at (by subst hσ; rfl) (by omega)
      have g3 := add_str g1 g2 (by simp)
      refine (exL_next (exS_set g3)).trans ?_
      subst hσ
      show exL P1 _ [c0, vs [u], some (.val facesD), some (.own (.list ds)), vi c, vi s.1.val, vb s.2.1, vi s.2.2.val, vs [A], vs [B], vs [(if s.2.1 = true then 33 else 61), 61, 97 + s.1.val]] = _
      generalize hσ : ([c0, vs [u], some (.val facesD), some (.own (.list ds)), vi c, vi s.1.val, vb s.2.1, vi s.2.2.val, vs [A], vs [B], vs [(if s.2.1 = true then 33 else 61), 61, 97 + s.1.val]] : Sg) = σ
      have k1 : ev P1 (.bi .chr (.int 65529) []) σ = some (.str (mkS [65529])) := chr_at (k := 65529) (by subst hσ; rfl) (by decide)
      have k2 : ev P1 (.bi .chr (.int 65530) []) σ = some (.str (mkS [65530])) := chr_at (k := 65530) (by subst hσ; rfl) (by decide)
      have k3 : ev P1 (.bi .chr (.int 65531) []) σ = some (.str (mkS [65531])) := chr_at (k := 65531) (by subst hσ; rfl) (by decide)
      have h1 := add_str (b := .var 9) (y := [B]) k1 (by subst hσ; rfl) (by simp)
      have h2 := add_str h1 k2 (by simp)
      have h3 := add_str (b := .var 10) (y := [(if s.2.1 = true then 33 else 61), 61, 97 + s.1.val]) h2 (by subst hσ; rfl) (by simp)
      have h4 := add_str h3 k3 (by simp)
      refine (exL_next (exS_set h4)).trans ?_
      subst hσ; rfl
    refine (exL_next ((exS_itet (t.trans (by rw [hn]; rfl))).trans note)).trans ?_
    exact last _ _ (by simp [noteL])
  · rw [if_neg hn, if_neg hn]
    refine (exL_next ((exS_itef (t.trans (by have : ((c.fdiv 10368).fmod 2 == 1) = false := by simpa using hn
                                             rw [this]))).trans rfl)).trans ?_
    exact last _ _ (by simp)

noncomputable def textL (u : Nat) : List Int → List Nat
  | [] => []
  | [c] => pieceL u c
  | c :: d :: r => pieceL u c ++ 44 :: textL u (d :: r)
theorem glued_text (u : Nat) : ∀ cs : List Int, Str.join ("," : Str) (cs.map fun c => mkS (pieceL u c)) = mkS (textL u cs)
  | [] => rfl
  | [c] => rfl
  | c :: d :: r => by
    have ih := glued_text u (d :: r)
    show mkS (pieceL u c) ++ ("," : Str) ++ Str.join ("," : Str) ((d :: r).map fun c => mkS (pieceL u c)) = mkS (pieceL u c ++ 44 :: textL u (d :: r))
    rw [ih]
    have e : ("," : Str) = mkS [44] := rfl
    rw [e, mkS_append, mkS_append]; simp
theorem pieceL_len (u : Nat) (c : Int) : (pieceL u c).length ≤ 11 := by
  unfold pieceL noteL
  split <;> simp
theorem strsOf_map {X : Type} (f : X → Str) : ∀ l : List X, strsOf (l.map fun x => D.str (f x)) = some (l.map f)
  | [] => rfl
  | x :: l => by simp only [List.map_cons, strsOf, strsOf_map f l]
theorem ev_join {P : Prg} {σ : Sg} {a : ME} {sep : Str} {xs : List Str} (ha : ev P a σ = some (.list (xs.map .str))) (hs : sep.length ≤ 16) (hl : (xs.map fun (x : Str) => x.length).sum + xs.length ≤ 1048576) :
    ev P (.meth .join (.str sep) [a]) σ = some (.str (Str.join sep xs)) := by
  have : ev P (.meth .join (.str sep) [a]) σ = methop .join (.str sep) [.list (xs.map .str)] := by
    simp only [ev, evs, ha]
  rw [this]
  have e : strsOf (xs.map D.str) = some xs := by
    have := strsOf_map (fun x : Str => x) xs
    simpa using this
  show (match strsOf (xs.map D.str) with | some xs => if sep.length ≤ 16 ∧ (xs.map fun (x : Str) => x.length).sum + xs.length ≤ 1048576 then some (D.str (Txt.join sep xs)) else none | none => none) = _
  rw [e]
  dsimp only
  rw [if_pos ⟨hs, hl⟩]
  show some (D.str (Builtin.Str.glued sep xs)) = _
  rw [StrLaws.glued_eq_join]
theorem sum_le {X : Type} (f : X → Nat) (k : Nat) : ∀ l : List X, (∀ x ∈ l, f x ≤ k) → (l.map f).sum ≤ k * l.length
  | [], _ => by simp
  | x :: l, h => by
    have := sum_le f k l fun y hy => h y (by simp [hy])
    have := h x (by simp)
    simp only [List.map_cons, List.sum_cons, List.length_cons, Nat.mul_succ]; omega
theorem spec10 (u : Nat) (cs : List Int) (hl : cs.length ≤ 8) : orc2 10 [.list (cs.map .int), .str (mkS [u])] = some (.str (mkS (textL u cs))) := by
  refine runF_ret rfl ?_
  generalize hT : (some (.val (.list (cs.map .int))) : O1) = T
  have s0 : start cf10 [.list (cs.map .int), .str (mkS [u])] = [T, vs [u], none, none, none, none, none, none, none, none, none] := by subst hT; rfl
  rw [s0]
  refine (exL_next (σ' := [T, vs [u], some (.val facesD), none, none, none, none, none, none, none, none]) rfl).trans ?_
  refine (exL_next (σ' := [T, vs [u], some (.val facesD), some (.own (.list [])), none, none, none, none, none, none, none]) rfl).trans ?_
  have ei : evI P1 (.one 4) (.val (.var 0)) [T, vs [u], some (.val facesD), some (.own (.list [])), none, none, none, none, none, none, none] = some (cs.map .int) := by
    subst hT
    show (if (cs.map D.int).length ≤ 100000 then some (cs.map D.int) else none) = _
    rw [if_pos (by simp; omega)]
  obtain ⟨hI, o, e⟩ := forF_foldN (fun (ds : List D) (o : O1 × O1 × O1 × O1 × O1 × O1 × O1) => ([T, vs [u], some (.val facesD), some (.own (.list ds)), o.1, o.2.1, o.2.2.1, o.2.2.2.1, o.2.2.2.2.1, o.2.2.2.2.2.1, o.2.2.2.2.2.2] : Sg)) (fun ds c => ds ++ [.str (mkS (pieceL u c))]) D.int (fun q ds => ds.length = q) (g := setTg (.one 4)) (b := exL P1 body10) cs 0 [] (none, none, none, none, none, none, none) rfl fun c _ q ds o _ hq hd => by
    obtain ⟨o', e⟩ := body10_at T u c ds (by omega) o.2.1 o.2.2.1 o.2.2.2.1 o.2.2.2.2.1 o.2.2.2.2.2.1 o.2.2.2.2.2.2
    exact ⟨by simp [hd], _, (vi c, o'), rfl, e⟩
  have hfold : ∀ (cs : List Int) (ds : List D), cs.foldl (fun ds c => ds ++ [D.str (mkS (pieceL u c))]) ds = ds ++ (cs.map fun c => mkS (pieceL u c)).map D.str := by
    intro cs
    induction cs with
    | nil => intro ds; simp
    | cons c cs ih => intro ds; rw [List.foldl_cons, ih]; simp
  rw [hfold, List.nil_append] at e
  refine (exL_next ((exS_forr ei).trans e)).trans ?_
  generalize hX : cs.map (fun c => mkS (pieceL u c)) = xs at e ⊢
  refine (exL_next (σ' := [T, vs [u], some (.val facesD), some (.val (.list (xs.map .str))), o.1, o.2.1, o.2.2.1, o.2.2.2.1, o.2.2.2.2.1, o.2.2.2.2.2.1, o.2.2.2.2.2.2]) rfl).trans ?_
  refine exL_retn (exS_ret ?_)
  rw [← glued_text, hX]
  refine ev_join rfl (by decide) ?_
  rw [← hX, List.map_map, List.length_map]
  have := sum_le ((fun (x : Str) => x.length) ∘ fun c => mkS (pieceL u c)) 11 cs fun c _ => by
    show (mkS (pieceL u c)).length ≤ 11
    rw [mkS_length]; exact pieceL_len u c
  omega
end Mine

namespace Mine
/-! M27: the signs of the text -/
theorem spec6 (c : Nat) : orc1 6 [.str (mkS [c])] = some (.bool (c6.any (· == (c : Int)))) := rfl
theorem spec4 (c : Nat) : orc1 4 [.str (mkS [c])] = some (.bool (b1.any (· == (c : Int)))) := rfl
noncomputable def lowP (c : Nat) : Nat := match orc1 5 [.str (mkS [c])] with | some (.str x) => x.cps.getD 0 0 | _ => 0
noncomputable def isC6 (c : Nat) : Bool := c6.any (· == (c : Int))
noncomputable def isB1 (c : Nat) : Bool := b1.any (· == (c : Int))
noncomputable def Known (c : Nat) : Prop := isC6 c = true ∨ isB1 c = true ∨ orc1 5 [.str (mkS [c])] = some (.str (mkS [lowP c]))
noncomputable def goodChar (c d : Nat) : Bool := !(isC6 c) && !(isB1 c) && (match orc1 5 [.str (mkS [c])] with | some (.str x) => x == mkS [d] | _ => false)
theorem good_of {c d : Nat} (h : goodChar c d = true) : isC6 c = false ∧ isB1 c = false ∧ lowP c = d ∧ Known c := by
  unfold goodChar at h
  simp only [Bool.and_eq_true, Bool.not_eq_true'] at h
  obtain ⟨⟨h1, h2⟩, h3⟩ := h
  split at h3
  · rename_i x e
    have h3 : x = mkS [d] := by simpa using h3
    subst h3
    have hl : lowP c = d := by unfold lowP; rw [e]; rfl
    exact ⟨h1, h2, hl, .inr (.inr (by rw [e, hl]))⟩
  · cases h3
theorem good_faces : ((List.range 12).all fun k => (List.range 4).all fun p => goodChar (face k + p) (97 + p)) = true := by decide +kernel
theorem good_rest : (goodChar 61 61 && goodChar 33 33 && goodChar 44 44) = true := by decide +kernel
theorem good_face {k p : Nat} (hk : k < 12) (hp : p < 4) : goodChar (face k + p) (97 + p) = true :=
  List.all_eq_true.mp (List.all_eq_true.mp good_faces k (List.mem_range.mpr hk)) p (List.mem_range.mpr hp)
theorem good_letter {p : Nat} (hp : p < 4) : goodChar (97 + p) (97 + p) = true := good_face (k := 0) (by decide) hp
theorem good61 : goodChar 61 61 = true := by have := good_rest; simp only [Bool.and_eq_true] at this; exact this.1.1
theorem good33 : goodChar 33 33 = true := by have := good_rest; simp only [Bool.and_eq_true] at this; exact this.1.2
theorem good44 : goodChar 44 44 = true := by have := good_rest; simp only [Bool.and_eq_true] at this; exact this.2
theorem marks : isC6 65529 = true ∧ isC6 65530 = true ∧ isC6 65531 = true := by decide
noncomputable def unseenL : List Nat := [173, 847, 6156, 8205, 8288, 65039]
theorem unseen_ok : ∀ u ∈ unseenL, isC6 u = false ∧ isB1 u = true := by decide

noncomputable def st11 (s : List D × Bool) (c : Nat) : List D × Bool :=
  if isC6 c = true then (s.1, c == 65530) else if s.2 = false ∧ isB1 c = false then (s.1 ++ [.str (mkS [lowP c])], s.2) else s
noncomputable def body11 : List MS := [.ite (.val (.call 6 (.var 3) [])) [.set 2 (.cmp .Eq (.var 3) (.bi .chr (.int 65530) []))] [.ite (.and [.not (.val (.var 2)), .not (.val (.call 4 (.var 3) []))]) [.app 1 (.call 5 (.var 3) [])] []]]
theorem body11_at (T : O1) (s : List D × Bool) (hl : s.1.length ≤ 100000) (c : Nat) (hc : Known c) (o4 o5 o6 o7 : O1) :
    exL P1 body11 [T, some (.own (.list s.1)), vb s.2, vs [c], o4, o5, o6, o7] = some (.next [T, some (.own (.list (st11 s c).1)), vb (st11 s c).2, vs [c], o4, o5, o6, o7]) := by
  have e6 : evT P1 (.val (.call 6 (.var 3) [])) [T, some (.own (.list s.1)), vb s.2, vs [c], o4, o5, o6, o7] = some (isC6 c) := by
    have := (ev_call (P := P1) (f := 6) (a := .var 3) (as := []) (σ := [T, some (.own (.list s.1)), vb s.2, vs [c], o4, o5, o6, o7]) (x := .str (mkS [c])) (xs := []) rfl rfl).trans (spec6 c)
    simp only [evT, this]; rfl
  unfold st11
  cases h6 : isC6 c with
  | true =>
    rw [if_pos rfl]
    rw [h6] at e6
    refine (exL_next ((exS_itet e6).trans ?_)).trans rfl
    have : ev P1 (.cmp .Eq (.var 3) (.bi .chr (.int 65530) [])) [T, some (.own (.list s.1)), vb s.2, vs [c], o4, o5, o6, o7] = some (.bool (c == 65530)) := by
      have : ev P1 (.cmp .Eq (.var 3) (.bi .chr (.int 65530) [])) [T, some (.own (.list s.1)), vb s.2, vs [c], o4, o5, o6, o7] = some (.bool (mkS [c] == mkS [65530])) := rfl
      rw [this]
      congr 2
      rw [Bool.eq_iff_iff, beq_iff_eq, beq_iff_eq]
      unfold mkS
      constructor
      · intro h; injection h with h; simpa using h
      · intro h; rw [h]
    exact (exL_next (exS_set this)).trans rfl
  | false =>
    rw [if_neg (by decide)]
    rw [h6] at e6
    have e4 : evT P1 (.val (.call 4 (.var 3) [])) [T, some (.own (.list s.1)), vb s.2, vs [c], o4, o5, o6, o7] = some (isB1 c) := by
      have := (ev_call (P := P1) (f := 4) (a := .var 3) (as := []) (σ := [T, some (.own (.list s.1)), vb s.2, vs [c], o4, o5, o6, o7]) (x := .str (mkS [c])) (xs := []) rfl rfl).trans (spec4 c)
      simp only [evT, this]; rfl
    have e2 : evT P1 (.val (.var 2)) [T, some (.own (.list s.1)), vb s.2, vs [c], o4, o5, o6, o7] = some s.2 := rfl
    have ea : evT P1 (.and [.not (.val (.var 2)), .not (.val (.call 4 (.var 3) []))]) [T, some (.own (.list s.1)), vb s.2, vs [c], o4, o5, o6, o7] = some (decide (s.2 = false ∧ isB1 c = false)) := by
      cases h2 : s.2 <;> cases h4 : isB1 c <;> (rw [h2] at e2 e4; rw [h4] at e4; simp only [evT, evAnd] at e2 e4 ⊢; simp only [e2, e4]; rfl)
    by_cases hq : s.2 = false ∧ isB1 c = false
    · rw [if_pos hq]
      rw [decide_eq_true hq] at ea
      have e5 : ev P1 (.call 5 (.var 3) []) [T, some (.own (.list s.1)), vb s.2, vs [c], o4, o5, o6, o7] = some (.str (mkS [lowP c])) := by
        have := (ev_call (P := P1) (f := 5) (a := .var 3) (as := []) (σ := [T, some (.own (.list s.1)), vb s.2, vs [c], o4, o5, o6, o7]) (x := .str (mkS [c])) (xs := []) rfl rfl)
        rcases hc with h | h | h
        · rw [h6] at h; cases h
        · rw [hq.2] at h; cases h
        · exact this.trans h
      refine (exL_next ((exS_itef e6).trans ((exL_next ((exS_itet ea).trans ((exL_next (exS_app (ds := s.1) rfl e5 hl)).trans rfl))).trans rfl))).trans rfl
    · rw [if_neg hq]
      rw [decide_eq_false hq] at ea
      exact (exL_next ((exS_itef e6).trans ((exL_next ((exS_itef ea).trans rfl)).trans rfl))).trans rfl
theorem st11_len (s : List D × Bool) (c : Nat) : (st11 s c).1.length ≤ s.1.length + 1 := by
  unfold st11
  split
  · simp
  · split <;> simp
noncomputable def chrD (c : Nat) : D := .str (mkS [c])
theorem loop11 (T : O1) (cs : List Nat) (hk : ∀ c ∈ cs, Known c) (hl : cs.length ≤ 1000) (o4 o5 o6 o7 : O1) : ∃ o3, forF (setTg (.one 3)) (exL P1 body11) (cs.map chrD) [T, some (.own (.list [])), vb false, none, o4, o5, o6, o7] =
    some (.next [T, some (.own (.list (cs.foldl st11 ([], false)).1)), vb (cs.foldl st11 ([], false)).2, o3, o4, o5, o6, o7]) := by
  obtain ⟨_, o, e⟩ := forF_foldN (fun (s : List D × Bool) (o : O1) => ([T, some (.own (.list s.1)), vb s.2, o, o4, o5, o6, o7] : Sg)) st11 chrD (fun q s => s.1.length ≤ q) (g := setTg (.one 3)) (b := exL P1 body11) cs 0 ([], false) none (Nat.le_refl _) fun c hc q s o _ hq hs => by
    exact ⟨Nat.le_trans (st11_len s c) (by omega), _, vs [c], rfl, body11_at T s (by omega) c (hk c hc) o4 o5 o6 o7⟩
  exact ⟨o, e⟩

/-- what is left of the text -/
noncomputable def groupL (s : Stm) : List Nat := [97 + s.1.val, opL s.2.1, 61, 97 + s.2.2.val]
noncomputable def plainL : List Stm → List Nat
  | [] => []
  | [s] => groupL s
  | s :: t :: r => groupL s ++ 44 :: plainL (t :: r)
theorem st_good {c d : Nat} (h : goodChar c d = true) (ss : List D) : st11 (ss, false) c = (ss ++ [chrD d], false) := by
  obtain ⟨h1, h2, h3, _⟩ := good_of h
  unfold st11; rw [if_neg (by rw [h1]; decide), if_pos ⟨rfl, h2⟩, h3]; rfl
theorem st_skip {c d : Nat} (h : goodChar c d = true) (ss : List D) : st11 (ss, true) c = (ss, true) := by
  obtain ⟨h1, h2, h3, _⟩ := good_of h
  unfold st11; rw [if_neg (by rw [h1]; decide), if_neg (fun q => by cases q.1)]
theorem st_unseen {u : Nat} (h : u ∈ unseenL) (ss : List D) : st11 (ss, false) u = (ss, false) := by
  obtain ⟨h1, h2⟩ := unseen_ok u h
  unfold st11; rw [if_neg (by rw [h1]; decide), if_neg (fun q => by rw [h2] at q; cases q.2)]
theorem good_op (al : Bool) : goodChar (opL al) (opL al) = true := by cases al; exact good33; exact good61
theorem good_nop (al : Bool) : goodChar (if al = true then 33 else 61) (if al = true then 33 else 61) = true := by cases al; exact good61; exact good33
theorem face_ix (c : Int) : ((c.fmod 12).toNat) < 12 := by have := fmod_range c (show (0 : Int) < 12 by decide); omega
theorem piece_fold {u : Nat} (hu : u ∈ unseenL) (c : Int) (ss : List D) : (pieceL u c).foldl st11 (ss, false) = (ss ++ (groupL (drawnP c)).map chrD, false) := by
  have gA : goodChar (fA c + (drawnP c).1.val) (97 + (drawnP c).1.val) = true := good_face (face_ix _) (drawnP c).1.isLt
  have gB : goodChar (fB c + (drawnP c).2.2.val) (97 + (drawnP c).2.2.val) = true := good_face (face_ix _) (drawnP c).2.2.isLt
  have m29 : ∀ ss, st11 (ss, false) 65529 = (ss, false) := fun ss => by unfold st11; rw [if_pos marks.1]; rfl
  have m30 : ∀ ss, st11 (ss, false) 65530 = (ss, true) := fun ss => by unfold st11; rw [if_pos marks.2.1]; rfl
  have m31 : ∀ ss, st11 (ss, true) 65531 = (ss, false) := fun ss => by unfold st11; rw [if_pos marks.2.2]; rfl
  unfold pieceL groupL
  split
  · unfold noteL
    simp only [List.cons_append, List.nil_append, List.foldl_cons, List.foldl_nil, st_good gA, st_good (good_op _), st_unseen hu, st_good good61, m29, st_good gB, m30, st_skip (good_nop _), st_skip good61, st_skip (good_letter (drawnP c).1.isLt), m31]
    simp
  · simp only [List.cons_append, List.nil_append, List.foldl_cons, List.foldl_nil, st_good gA, st_good (good_op _), st_unseen hu, st_good good61, st_good gB]
    simp
theorem text_fold {u : Nat} (hu : u ∈ unseenL) : ∀ (cs : List Int) (ss : List D), (textL u cs).foldl st11 (ss, false) = (ss ++ (plainL (cs.map drawnP)).map chrD, false)
  | [], ss => by simp [textL, plainL]
  | [c], ss => by show (pieceL u c).foldl st11 (ss, false) = (ss ++ (groupL (drawnP c)).map chrD, false); exact piece_fold hu c ss
  | c :: d :: r, ss => by
    have ih := text_fold hu (d :: r)
    show (pieceL u c ++ 44 :: textL u (d :: r)).foldl st11 (ss, false) = (ss ++ (groupL (drawnP c) ++ 44 :: plainL ((d :: r).map drawnP)).map chrD, false)
    rw [List.foldl_append, piece_fold hu, List.foldl_cons, st_good good44, ih]
    simp
theorem piece_known {u : Nat} (hu : u ∈ unseenL) (c : Int) : ∀ x ∈ pieceL u c, Known x := by
  have gA : goodChar (fA c + (drawnP c).1.val) (97 + (drawnP c).1.val) = true := good_face (face_ix _) (drawnP c).1.isLt
  have gB : goodChar (fB c + (drawnP c).2.2.val) (97 + (drawnP c).2.2.val) = true := good_face (face_ix _) (drawnP c).2.2.isLt
  have kn : ∀ {c d : Nat}, goodChar c d = true → Known c := fun h => (good_of h).2.2.2
  have ku : Known u := .inr (.inl (unseen_ok u hu).2)
  intro x hx
  unfold pieceL at hx
  rcases List.mem_append.mp hx with hx | hx
  · simp only [List.mem_cons, List.not_mem_nil, or_false] at hx
    rcases hx with rfl | rfl | rfl | rfl
    · exact kn gA
    · exact kn (good_op _)
    · exact ku
    · exact kn good61
  · split at hx
    · unfold noteL at hx
      simp only [List.mem_cons, List.not_mem_nil, or_false] at hx
      rcases hx with rfl | rfl | rfl | rfl | rfl | rfl | rfl
      · exact .inl marks.1
      · exact kn gB
      · exact .inl marks.2.1
      · exact kn (good_nop _)
      · exact kn good61
      · exact kn (good_letter (drawnP c).1.isLt)
      · exact .inl marks.2.2
    · simp only [List.mem_cons, List.not_mem_nil, or_false] at hx
      subst hx; exact kn gB
theorem text_known {u : Nat} (hu : u ∈ unseenL) : ∀ (cs : List Int), ∀ x ∈ textL u cs, Known x
  | [], x, hx => by cases hx
  | [c], x, hx => piece_known hu c x hx
  | c :: d :: r, x, hx => by
    have hx : x ∈ pieceL u c ++ 44 :: textL u (d :: r) := hx
    rcases List.mem_append.mp hx with hx | hx
    · exact piece_known hu c x hx
    · rcases List.mem_cons.mp hx with rfl | hx
      · exact (good_of good44).2.2.2
      · exact text_known hu (d :: r) x hx
theorem text_len (u : Nat) : ∀ cs : List Int, (textL u cs).length ≤ 12 * cs.length
  | [] => by simp [textL]
  | [c] => by have := pieceL_len u c; show (pieceL u c).length ≤ 12 * 1; omega
  | c :: d :: r => by
    have ih := text_len u (d :: r)
    have := pieceL_len u c
    show (pieceL u c ++ 44 :: textL u (d :: r)).length ≤ _
    simp only [List.length_append, List.length_cons] at ih ⊢; omega
theorem plain_len : ∀ ss : List Stm, (plainL ss).length ≤ 5 * ss.length
  | [] => by simp [plainL]
  | [s] => by simp [plainL, groupL]
  | s :: t :: r => by
    have ih := plain_len (t :: r)
    show (groupL s ++ 44 :: plainL (t :: r)).length ≤ _
    simp only [List.length_append, List.length_cons, groupL, List.length_nil] at ih ⊢; omega
theorem join_chars : ∀ l : List Nat, Str.join ("" : Str) (l.map fun c => mkS [c]) = mkS l
  | [] => rfl
  | [c] => rfl
  | c :: d :: r => by
    have ih := join_chars (d :: r)
    show mkS [c] ++ ("" : Str) ++ Str.join ("" : Str) ((d :: r).map fun c => mkS [c]) = _
    rw [ih, show ("" : Str) = mkS [] from rfl, mkS_append, mkS_append]; rfl
end Mine

namespace Mine
/-! M28: the symbols -/
theorem indices_two {n len : Nat} (h : n + 2 ≤ len) : Builtin.Str.strSliceIndices (some (n : Int)) (some ((n : Int) + 2)) 1 len = [n, n + 1] := by
  have a : max (0 : Int) (min (n : Int) (len : Int)) = n := by omega
  have b : max (0 : Int) (min ((n : Int) + 2) (len : Int)) = (n : Int) + 2 := by omega
  have c : ¬ ((n : Int) < 0) := by omega
  have d : ¬ ((n : Int) + 2 < 0) := by omega
  unfold Builtin.Str.strSliceIndices sliceRange
  simp only [c, d, if_false, show (1 : Int) > 0 by decide, if_true, a, b, show (n : Int) < (n : Int) + 2 by omega]
  have e : (((n : Int) + 2 - n + 1 - 1) / 1).toNat = 2 := by rw [Int.ediv_one]; omega
  rw [e]
  show [((n : Int) + 1 * ((0 : Nat) : Int)).toNat, ((n : Int) + 1 * ((1 : Nat) : Int)).toNat] = _
  have e0 : ((n : Int) + 1 * ((0 : Nat) : Int)).toNat = n := by omega
  have e1 : ((n : Int) + 1 * ((1 : Nat) : Int)).toNat = n + 1 := by omega
  rw [e0, e1]
theorem indices_one {n len : Nat} (h : n + 1 = len) : Builtin.Str.strSliceIndices (some (n : Int)) (some ((n : Int) + 2)) 1 len = [n] := by
  have a : max (0 : Int) (min (n : Int) (len : Int)) = n := by omega
  have b : max (0 : Int) (min ((n : Int) + 2) (len : Int)) = (n : Int) + 1 := by omega
  have c : ¬ ((n : Int) < 0) := by omega
  have d : ¬ ((n : Int) + 2 < 0) := by omega
  unfold Builtin.Str.strSliceIndices sliceRange
  simp only [c, d, if_false, show (1 : Int) > 0 by decide, if_true, a, b, show (n : Int) < (n : Int) + 1 by omega]
  have e : (((n : Int) + 1 - n + 1 - 1) / 1).toNat = 1 := by rw [Int.ediv_one]; omega
  rw [e]
  show [((n : Int) + 1 * ((0 : Nat) : Int)).toNat] = _
  have e0 : ((n : Int) + 1 * ((0 : Nat) : Int)).toNat = n := by omega
  rw [e0]
theorem slice_two {pre post : List Nat} {x y : Nat} : Txt.slice (mkS (pre ++ x :: y :: post)) (some (pre.length : Int)) (some ((pre.length : Int) + 2)) = mkS [x, y] := by
  have hl : (mkS (pre ++ x :: y :: post)).length = pre.length + 2 + post.length := by rw [mkS_length]; simp; omega
  have g0 : (mkS (pre ++ x :: y :: post)).cps[pre.length]? = some x := by unfold mkS; simp
  have g1 : (mkS (pre ++ x :: y :: post)).cps[pre.length + 1]? = some y := by
    unfold mkS
    rw [List.getElem?_toArray, List.getElem?_append_right (by omega)]; simp
  unfold Txt.slice
  rw [hl, indices_two (by omega)]
  split
  · rename_i h
    simp at h
    obtain ⟨h1, h2⟩ : pre.length = 0 ∧ post.length = 0 := by omega
    have h1 := List.eq_nil_of_length_eq_zero h1
    have h2 := List.eq_nil_of_length_eq_zero h2
    subst h1; subst h2; rfl
  · simp [g0, g1, mkS]
theorem slice_one {pre : List Nat} {x : Nat} : Txt.slice (mkS (pre ++ [x])) (some (pre.length : Int)) (some ((pre.length : Int) + 2)) = mkS [x] := by
  have hl : (mkS (pre ++ [x])).length = pre.length + 1 := by rw [mkS_length]; simp
  have g0 : (mkS (pre ++ [x])).cps[pre.length]? = some x := by unfold mkS; simp
  unfold Txt.slice
  rw [hl, indices_one rfl]
  split
  · rename_i h
    simp at h
    subst h; rfl
  · simp [g0, mkS]
theorem item_at {pre post : List Nat} {x : Nat} : Txt.item (mkS (pre ++ x :: post)) (pre.length : Int) = mkS [x] := by
  have hl : (mkS (pre ++ x :: post)).length = pre.length + 1 + post.length := by rw [mkS_length]; simp; omega
  have g0 : (mkS (pre ++ x :: post)).cps[pre.length]? = some x := by unfold mkS; simp
  unfold Txt.item Txt.charAt
  have : seqIndex? (pre.length : Int) (mkS (pre ++ x :: post)).length = some pre.length := by
    unfold seqIndex?
    simp only [if_neg (show ¬ (pre.length : Int) < 0 by omega)]
    rw [hl, if_pos (by rw [Bool.and_eq_true, decide_eq_true_eq, decide_eq_true_eq]; constructor <;> omega)]
    simp
  rw [this]
  simp [g0, mkS]

noncomputable def whl11 : List MS := [.set 7 (.slice (.var 4) (some (.var 6)) (some (.bin .Add (.var 6) (.int 2)))), .ite (.cmp .NotIn (.var 7) (.glob 5)) [.set 7 (.subv 4 (.var 6))] [], .aug 6 (.bi .len (.var 7) []), .app 5 (.meth .get (.glob 5) [.var 7, .bin .Sub (.bin .Add (.glob 4) (.bi .ord (.subv 7 (.int 0)) [])) (.int 97)])]
noncomputable def tst11 : MT := .cmp .Lt (.var 6) (.bi .len (.var 4) [])
noncomputable def sg11 (T S sk o3 : O1) (X : List Nat) (ss : List D) (n : Nat) (o7 : O1) : Sg := [T, S, sk, o3, vs X, some (.own (.list ss)), vi n, o7]
theorem tst_at {T S sk o3 : O1} {X : List Nat} (hX : X.length ≤ 1000) (ss : List D) (n : Nat) (o7 : O1) : evT P1 tst11 (sg11 T S sk o3 X ss n o7) = some (decide (n < X.length)) := by
  have e : ev P1 (.bi .len (.var 4) []) (sg11 T S sk o3 X ss n o7) = some (.int (X.length : Int)) := by
    show (if (mkS X).length ≤ 100000 then some (D.int ((mkS X).length : Nat)) else none) = _
    rw [mkS_length, if_pos (by omega)]
  refine (evT_cmp (op := .Lt) (x := .int n) rfl e).trans ?_
  show some (decide ((n : Int) < (X.length : Int))) = _
  congr 1
  rw [Bool.eq_iff_iff, decide_eq_true_eq, decide_eq_true_eq]
  omega
/-- the end of a turn, once the piece is chosen -/
theorem fin11 {T S sk o3 : O1} {X : List Nat} (ss : List D) (hs : ss.length ≤ 100000) (n : Nat) (x : Nat) (r : List Nat) (hr : r.length ≤ 5) :
    exL P1 [.aug 6 (.bi .len (.var 7) []), .app 5 (.meth .get (.glob 5) [.var 7, .bin .Sub (.bin .Add (.glob 4) (.bi .ord (.subv 7 (.int 0)) [])) (.int 97)])] (sg11 T S sk o3 X ss n (vs (x :: r))) =
      some (.next (sg11 T S sk o3 X (ss ++ [.int ((exact.lookup (mkS (x :: r))).getD (256 + (x : Int) - 97))]) (n + (1 + r.length)) (vs (x :: r)))) := by
  have e1 : ev P1 (.bi .len (.var 7) []) (sg11 T S sk o3 X ss n (vs (x :: r))) = some (.int ((1 + r.length : Nat) : Int)) := by
    show (if (mkS (x :: r)).length ≤ 100000 then some (D.int ((mkS (x :: r)).length : Nat)) else none) = _
    rw [mkS_length, List.length_cons, if_pos (by omega), Nat.add_comm]
  have s1 : exS P1 (.aug 6 (.bi .len (.var 7) [])) (sg11 T S sk o3 X ss n (vs (x :: r))) = some (.next (sg11 T S sk o3 X ss (n + (1 + r.length)) (vs (x :: r)))) := by
    have v6 : Sg.val (sg11 T S sk o3 X ss n (vs (x :: r))) 6 = some (.int (n : Int)) := rfl
    simp only [exS, v6, e1]; rfl
  refine (exL_next s1).trans ?_
  have it0 : subop (.str (mkS (x :: r))) (.int 0) = some (.str (mkS [x])) := by
    show (if 0 ≤ (0 : Int) ∧ (0 : Int) < (mkS (x :: r)).length ∧ (0 : Int) ≤ 1000000 then some (D.str (Txt.item (mkS (x :: r)) 0)) else none) = _
    rw [if_pos ⟨by decide, by rw [mkS_length]; simp, by decide⟩]
    rw [show Txt.item (mkS (x :: r)) 0 = mkS [x] from item_at (pre := []) (post := r)]
  have e2 : ev P1 (.subv 7 (.int 0)) (sg11 T S sk o3 X ss (n + (1 + r.length)) (vs (x :: r))) = some (.str (mkS [x])) := (ev_subv (k := 0) (d := .str (mkS (x :: r))) rfl rfl).trans it0
  have e3 : ev P1 (.bi .ord (.subv 7 (.int 0)) []) (sg11 T S sk o3 X ss (n + (1 + r.length)) (vs (x :: r))) = some (.int (x : Int)) := (ev_bi e2 evs_nil).trans rfl
  have e4 : ev P1 (.bin .Sub (.bin .Add (.glob 4) (.bi .ord (.subv 7 (.int 0)) [])) (.int 97)) (sg11 T S sk o3 X ss (n + (1 + r.length)) (vs (x :: r))) = some (.int (256 + (x : Int) - 97)) :=
    (ev_bin ((ev_bin (x := .int 256) rfl e3).trans rfl) (y := .int 97) rfl).trans rfl
  have e5 : ev P1 (.meth .get (.glob 5) [.var 7, .bin .Sub (.bin .Add (.glob 4) (.bi .ord (.subv 7 (.int 0)) [])) (.int 97)]) (sg11 T S sk o3 X ss (n + (1 + r.length)) (vs (x :: r))) =
      some (.int ((exact.lookup (mkS (x :: r))).getD (256 + (x : Int) - 97))) := by
    have a : evs P1 [.var 7, .bin .Sub (.bin .Add (.glob 4) (.bi .ord (.subv 7 (.int 0)) [])) (.int 97)] (sg11 T S sk o3 X ss (n + (1 + r.length)) (vs (x :: r))) = some [.str (mkS (x :: r)), .int (256 + (x : Int) - 97)] :=
      evs_cons rfl (evs_cons e4 evs_nil)
    have g : ev P1 (.glob 5) (sg11 T S sk o3 X ss (n + (1 + r.length)) (vs (x :: r))) = some (.dSI exact) := rfl
    simp only [ev, a]
    rfl
  exact (exL_next (exS_app (ds := ss) rfl e5 hs)).trans rfl
theorem turn_one {T S sk o3 : O1} {pre post two : List Nat} {x : Nat} (hX : (pre ++ x :: post).length ≤ 1000) (ss : List D) (hs : ss.length ≤ 100000) (o7 : O1)
    (h2 : Txt.slice (mkS (pre ++ x :: post)) (some (pre.length : Int)) (some ((pre.length : Int) + 2)) = mkS two) (hno : exact.lookup (mkS two) = none) :
    exL P1 whl11 (sg11 T S sk o3 (pre ++ x :: post) ss pre.length o7) = some (.next (sg11 T S sk o3 (pre ++ x :: post) (ss ++ [.int ((exact.lookup (mkS [x])).getD (256 + (x : Int) - 97))]) (pre.length + 1) (vs [x]))) := by
  have e1 : ev P1 (.slice (.var 4) (some (.var 6)) (some (.bin .Add (.var 6) (.int 2)))) (sg11 T S sk o3 (pre ++ x :: post) ss pre.length o7) = some (.str (mkS two)) := by
    show (if (mkS (pre ++ x :: post)).length ≤ 100000 then some (D.str (Txt.slice (mkS (pre ++ x :: post)) (some (pre.length : Int)) (some ((pre.length : Int) + 2)))) else none) = _
    rw [mkS_length, if_pos (by omega), h2]
  refine (exL_next (exS_set e1)).trans ?_
  show exL P1 _ (sg11 T S sk o3 (pre ++ x :: post) ss pre.length (vs two)) = _
  have t : evT P1 (.cmp .NotIn (.var 7) (.glob 5)) (sg11 T S sk o3 (pre ++ x :: post) ss pre.length (vs two)) = some true := by
    have : evT P1 (.cmp .NotIn (.var 7) (.glob 5)) (sg11 T S sk o3 (pre ++ x :: post) ss pre.length (vs two)) = some (!(exact.lookup (mkS two)).isSome) := rfl
    rw [this, hno]; rfl
  have e2 : ev P1 (.subv 4 (.var 6)) (sg11 T S sk o3 (pre ++ x :: post) ss pre.length (vs two)) = some (.str (mkS [x])) := by
    refine (ev_subv (k := (pre.length : Int)) (d := .str (mkS (pre ++ x :: post))) rfl rfl).trans ?_
    show (if 0 ≤ (pre.length : Int) ∧ (pre.length : Int) < (mkS (pre ++ x :: post)).length ∧ (pre.length : Int) ≤ 1000000 then some (D.str (Txt.item (mkS (pre ++ x :: post)) (pre.length : Int))) else none) = _
    rw [if_pos ⟨by omega, by rw [mkS_length]; simp; omega, by simp at hX; omega⟩, item_at]
  refine (exL_next (σ' := sg11 T S sk o3 (pre ++ x :: post) ss pre.length (vs [x])) ((exS_itet t).trans ((exL_next (exS_set e2)).trans rfl))).trans ?_
  exact fin11 ss hs _ x [] (by simp)
theorem turn_two {T S sk o3 : O1} {pre post : List Nat} {x y : Nat} {v : Int} (hX : (pre ++ x :: y :: post).length ≤ 1000) (ss : List D) (hs : ss.length ≤ 100000) (o7 : O1) (hyes : exact.lookup (mkS [x, y]) = some v) :
    exL P1 whl11 (sg11 T S sk o3 (pre ++ x :: y :: post) ss pre.length o7) = some (.next (sg11 T S sk o3 (pre ++ x :: y :: post) (ss ++ [.int v]) (pre.length + 2) (vs [x, y]))) := by
  have e1 : ev P1 (.slice (.var 4) (some (.var 6)) (some (.bin .Add (.var 6) (.int 2)))) (sg11 T S sk o3 (pre ++ x :: y :: post) ss pre.length o7) = some (.str (mkS [x, y])) := by
    show (if (mkS (pre ++ x :: y :: post)).length ≤ 100000 then some (D.str (Txt.slice (mkS (pre ++ x :: y :: post)) (some (pre.length : Int)) (some ((pre.length : Int) + 2)))) else none) = _
    rw [mkS_length, if_pos (by omega), slice_two]
  refine (exL_next (exS_set e1)).trans ?_
  show exL P1 _ (sg11 T S sk o3 (pre ++ x :: y :: post) ss pre.length (vs [x, y])) = _
  have t : evT P1 (.cmp .NotIn (.var 7) (.glob 5)) (sg11 T S sk o3 (pre ++ x :: y :: post) ss pre.length (vs [x, y])) = some false := by
    have : evT P1 (.cmp .NotIn (.var 7) (.glob 5)) (sg11 T S sk o3 (pre ++ x :: y :: post) ss pre.length (vs [x, y])) = some (!(exact.lookup (mkS [x, y])).isSome) := rfl
    rw [this, hyes]; rfl
  refine (exL_next (σ' := sg11 T S sk o3 (pre ++ x :: y :: post) ss pre.length (vs [x, y])) ((exS_itef t).trans rfl)).trans ?_
  have := fin11 (T := T) (S := S) (sk := sk) (o3 := o3) (X := pre ++ x :: y :: post) ss hs pre.length x [y] (by simp)
  rw [hyes] at this
  exact this
theorem while_step {t : Sg → Option Bool} {b : Sg → Option Out} {k : Nat} {σ σ' : Sg} (h1 : t σ = some true) (h2 : b σ = some (.next σ')) : whileF t b (k + 1) σ = whileF t b k σ' := by
  simp only [whileF, h1, h2]
theorem while_end {t : Sg → Option Bool} {b : Sg → Option Out} {k : Nat} {σ : Sg} (h1 : t σ = some false) : whileF t b (k + 1) σ = some (.next σ) := by
  simp only [whileF, h1]

/-- what single pieces are -/
theorem no_letter : ∀ p < 4, ∀ y ∈ ([61, 33, 44] : List Nat), exact.lookup (mkS [97 + p, y]) = none := by decide +kernel
theorem no_alone : ∀ p < 4, exact.lookup (mkS [97 + p]) = none := by decide +kernel
theorem no_comma : ∀ p < 4, exact.lookup (mkS [44, 97 + p]) = none := by decide +kernel
theorem yes_comma : exact.lookup (mkS [44]) = some 12 := by decide +kernel
theorem yes_op (al : Bool) : exact.lookup (mkS [opL al, 61]) = some (if al = true then 27 else 28) := by cases al <;> decide +kernel
noncomputable def gsym (s : Stm) : List D := [.int (256 + (s.1.val : Int)), .int (if s.2.1 = true then 27 else 28), .int (256 + (s.2.2.val : Int))]
noncomputable def symsL : List Stm → List D
  | [] => []
  | [s] => gsym s
  | s :: t :: r => gsym s ++ .int 12 :: symsL (t :: r)
theorem plain_head (s : Stm) (r : List Stm) : ∃ post, plainL (s :: r) = (97 + s.1.val) :: post := by
  cases r with
  | nil => exact ⟨_, rfl⟩
  | cons t r => exact ⟨_, rfl⟩
theorem group_loop {T S sk o3 : O1} {pre post : List Nat} (s : Stm) (hX : (pre ++ groupL s ++ post).length ≤ 1000) (hpost : post = [] ∨ ∃ r, post = 44 :: r) (ss : List D) (hs : ss.length ≤ 1000) (o7 : O1) (k : Nat) :
    ∃ o7', whileF (evT P1 tst11) (exL P1 whl11) (k + 3) (sg11 T S sk o3 (pre ++ groupL s ++ post) ss pre.length o7) = whileF (evT P1 tst11) (exL P1 whl11) k (sg11 T S sk o3 (pre ++ groupL s ++ post) (ss ++ gsym s) (pre.length + 4) o7') := by
  have hp := s.1.isLt
  have hq := s.2.2.isLt
  have opm : opL s.2.1 ∈ ([61, 33, 44] : List Nat) := by cases s.2.1 <;> decide
  generalize hXX : pre ++ groupL s ++ post = X at hX ⊢
  have f1 : X = pre ++ (97 + s.1.val) :: (opL s.2.1) :: (61 :: (97 + s.2.2.val) :: post) := by rw [← hXX]; simp [groupL]
  have f2 : X = (pre ++ [97 + s.1.val]) ++ (opL s.2.1) :: 61 :: ((97 + s.2.2.val) :: post) := by rw [← hXX]; simp [groupL]
  have f3 : X = (pre ++ [97 + s.1.val, opL s.2.1, 61]) ++ (97 + s.2.2.val) :: post := by rw [← hXX]; simp [groupL]
  have hXl : X.length = pre.length + 4 + post.length := by rw [f1]; simp; omega
  have d1 : (exact.lookup (mkS [97 + s.1.val])).getD (256 + ((97 + s.1.val : Nat) : Int) - 97) = 256 + (s.1.val : Int) := by
    rw [no_alone _ hp]; simp; omega
  have d3 : (exact.lookup (mkS [97 + s.2.2.val])).getD (256 + ((97 + s.2.2.val : Nat) : Int) - 97) = 256 + (s.2.2.val : Int) := by
    rw [no_alone _ hq]; simp; omega
  have t1 := turn_one (T := T) (S := S) (sk := sk) (o3 := o3) (pre := pre) (x := 97 + s.1.val) (post := opL s.2.1 :: 61 :: (97 + s.2.2.val) :: post) (two := [97 + s.1.val, opL s.2.1]) (by rw [← f1]; exact hX) ss (by omega) o7 slice_two (no_letter _ hp _ opm)
  rw [← f1, d1] at t1
  have t2 := turn_two (T := T) (S := S) (sk := sk) (o3 := o3) (pre := pre ++ [97 + s.1.val]) (x := opL s.2.1) (y := 61) (post := (97 + s.2.2.val) :: post) (by rw [← f2]; exact hX) (ss ++ [.int (256 + (s.1.val : Int))]) (by simp; omega) (vs [97 + s.1.val]) (yes_op s.2.1)
  rw [← f2] at t2
  have l2 : (pre ++ [97 + s.1.val]).length = pre.length + 1 := by simp
  rw [l2] at t2
  have t3 : ∃ two, Txt.slice (mkS ((pre ++ [97 + s.1.val, opL s.2.1, 61]) ++ (97 + s.2.2.val) :: post)) (some ((pre ++ [97 + s.1.val, opL s.2.1, 61]).length : Int)) (some (((pre ++ [97 + s.1.val, opL s.2.1, 61]).length : Int) + 2)) = mkS two ∧ exact.lookup (mkS two) = none := by
    rcases hpost with rfl | ⟨r, rfl⟩
    · exact ⟨_, slice_one, no_alone _ hq⟩
    · exact ⟨_, slice_two, no_letter _ hq 44 (by decide)⟩
  obtain ⟨two, h2, hno⟩ := t3
  have t3 := turn_one (T := T) (S := S) (sk := sk) (o3 := o3) (pre := pre ++ [97 + s.1.val, opL s.2.1, 61]) (x := 97 + s.2.2.val) (post := post) (two := two) (by rw [← f3]; exact hX) (ss ++ [.int (256 + (s.1.val : Int))] ++ [.int (if s.2.1 = true then 27 else 28)]) (by simp; omega) (vs [opL s.2.1, 61]) h2 hno
  rw [← f3, d3] at t3
  have l3 : (pre ++ [97 + s.1.val, opL s.2.1, 61]).length = pre.length + 1 + 2 := by simp
  rw [l3] at t3
  refine ⟨vs [97 + s.2.2.val], ?_⟩
  rw [while_step ((tst_at hX _ _ _).trans (by rw [decide_eq_true (show pre.length < X.length by omega)])) t1]
  rw [while_step ((tst_at hX _ _ _).trans (by rw [decide_eq_true (show pre.length + 1 < X.length by omega)])) t2]
  rw [while_step ((tst_at hX _ _ _).trans (by rw [decide_eq_true (show pre.length + 1 + 2 < X.length by omega)])) t3]
  have : ss ++ [.int (256 + (s.1.val : Int))] ++ [.int (if s.2.1 = true then 27 else 28)] ++ [.int (256 + (s.2.2.val : Int))] = ss ++ gsym s := by simp [gsym]
  rw [this]
theorem tok_loop {T S sk o3 : O1} : ∀ (gs : List Stm) (hne : gs ≠ []) (pre : List Nat) (ss : List D) (o7 : O1) (k : Nat), (pre ++ plainL gs).length ≤ 1000 → ss.length + 4 * gs.length ≤ 1000 →
    ∃ o7', whileF (evT P1 tst11) (exL P1 whl11) (k + 4 * gs.length) (sg11 T S sk o3 (pre ++ plainL gs) ss pre.length o7) = some (.next (sg11 T S sk o3 (pre ++ plainL gs) (ss ++ symsL gs) (pre ++ plainL gs).length o7'))
  | [], hne, _, _, _, _, _, _ => absurd rfl hne
  | [s], _, pre, ss, o7, k, hX, hs => by
    have hX' : (pre ++ groupL s ++ []).length ≤ 1000 := by simpa [plainL] using hX
    obtain ⟨o7', e⟩ := group_loop (T := T) (S := S) (sk := sk) (o3 := o3) s hX' (.inl rfl) ss (by simp at hs; omega) o7 (k + 1)
    refine ⟨o7', ?_⟩
    have e1 : pre ++ plainL [s] = pre ++ groupL s ++ [] := by simp [plainL]
    have e2 : (pre ++ groupL s ++ []).length = pre.length + 4 := by simp [groupL]
    have ek : k + 4 * [s].length = k + 1 + 3 := by simp
    rw [e1, ek, e, while_end ((tst_at hX' _ _ _).trans (by rw [decide_eq_false (by omega)])), e2]
    rfl
  | s :: t :: r, _, pre, ss, o7, k, hX, hs => by
    have e1 : pre ++ plainL (s :: t :: r) = pre ++ groupL s ++ 44 :: plainL (t :: r) := by show pre ++ (groupL s ++ 44 :: plainL (t :: r)) = _; simp
    obtain ⟨o7', e⟩ := group_loop (T := T) (S := S) (sk := sk) (o3 := o3) (post := 44 :: plainL (t :: r)) s (by rw [← e1]; exact hX) (.inr ⟨_, rfl⟩) ss (by omega) o7 (k + 4 * (t :: r).length + 1)
    rw [← e1] at e
    obtain ⟨post, hpost⟩ := plain_head t r
    have f4 : pre ++ plainL (s :: t :: r) = (pre ++ groupL s) ++ 44 :: (97 + t.1.val) :: post := by rw [e1, hpost]
    have tc := turn_one (T := T) (S := S) (sk := sk) (o3 := o3) (pre := pre ++ groupL s) (x := 44) (post := (97 + t.1.val) :: post) (two := [44, 97 + t.1.val]) (by rw [← f4]; exact hX) (ss ++ gsym s) (by simp [gsym]; simp at hs; omega) o7' slice_two (no_comma _ t.1.isLt)
    rw [← f4, yes_comma] at tc
    have lg : (pre ++ groupL s).length = pre.length + 4 := by simp [groupL]
    rw [lg] at tc
    have f5 : pre ++ plainL (s :: t :: r) = (pre ++ groupL s ++ [44]) ++ plainL (t :: r) := by rw [e1]; simp
    obtain ⟨o7'', eh⟩ := tok_loop (T := T) (S := S) (sk := sk) (o3 := o3) (t :: r) (by simp) (pre ++ groupL s ++ [44]) (ss ++ gsym s ++ [.int 12]) (vs [44]) k (by rw [← f5]; exact hX) (by simp [gsym] at hs ⊢; omega)
    rw [← f5] at eh
    have lh : (pre ++ groupL s ++ [44]).length = pre.length + 4 + 1 := by simp [groupL]
    rw [lh] at eh
    refine ⟨o7'', ?_⟩
    have ek : k + 4 * (s :: t :: r).length = k + 4 * (t :: r).length + 1 + 3 := by simp; omega
    have hlt : pre.length + 4 < (pre ++ plainL (s :: t :: r)).length := by rw [f4]; simp [groupL]
    rw [ek, e, while_step ((tst_at hX _ _ _).trans (by rw [decide_eq_true hlt])) tc]
    simp only [Option.getD_some]
    rw [eh]
    have : ss ++ gsym s ++ [.int 12] ++ symsL (t :: r) = ss ++ symsL (s :: t :: r) := by show _ = ss ++ (gsym s ++ .int 12 :: symsL (t :: r)); simp
    rw [this]
theorem syms_len : ∀ gs : List Stm, (symsL gs).length ≤ 4 * gs.length
  | [] => by simp [symsL]
  | [s] => by simp [symsL, gsym]
  | s :: t :: r => by
    have ih := syms_len (t :: r)
    show (gsym s ++ .int 12 :: symsL (t :: r)).length ≤ _
    simp only [List.length_append, List.length_cons, gsym, List.length_nil] at ih ⊢; omega
theorem spec11 {u : Nat} (hu : u ∈ unseenL) (cs : List Int) (hne : cs ≠ []) (hl : cs.length ≤ 8) : orc2 11 [.str (mkS (textL u cs))] = some (.list (symsL (cs.map drawnP) ++ [.int 0])) := by
  refine runF_ret rfl ?_
  have s0 : start cf11 [.str (mkS (textL u cs))] = [vs (textL u cs), none, none, none, none, none, none, none] := rfl
  rw [s0]
  have tl := text_len u cs
  refine (exL_next (σ' := [vs (textL u cs), some (.own (.list [])), none, none, none, none, none, none]) rfl).trans ?_
  refine (exL_next (σ' := [vs (textL u cs), some (.own (.list [])), vb false, none, none, none, none, none]) rfl).trans ?_
  obtain ⟨o3, e⟩ := loop11 (vs (textL u cs)) (textL u cs) (text_known hu cs) (by omega) none none none none
  rw [text_fold hu cs []] at e
  have ei : evI P1 (.one 3) (.val (.var 0)) [vs (textL u cs), some (.own (.list [])), vb false, none, none, none, none, none] = some ((textL u cs).map chrD) := by
    show (if (mkS (textL u cs)).cps.size ≤ 100000 then some ((mkS (textL u cs)).cps.toList.map fun c => D.str ⟨#[c]⟩) else none) = _
    rw [if_pos (by have := mkS_length (textL u cs); unfold Str.length at this; omega)]
    rfl
  refine (exL_next ((exS_forr ei).trans e)).trans ?_
  generalize hg : cs.map drawnP = gs
  have hgl : gs.length = cs.length := by rw [← hg]; simp
  have hgn : gs ≠ [] := by rw [← hg]; simpa using hne
  simp only [List.nil_append]
  have hpl := plain_len gs
  have fr : (plainL gs).map chrD = ((plainL gs).map fun c => mkS [c]).map D.str := by simp [chrD]
  rw [fr]
  generalize hT : vs (textL u cs) = T
  refine (exL_next (σ' := [T, some (.val (.list (((plainL gs).map fun c => mkS [c]).map D.str))), vb false, o3, none, none, none, none]) rfl).trans ?_
  have ej : ev P1 (.meth .join (.str ("" : Str)) [.var 1]) [T, some (.val (.list (((plainL gs).map fun c => mkS [c]).map D.str))), vb false, o3, none, none, none, none] = some (.str (mkS (plainL gs))) := by
    rw [← join_chars]
    refine ev_join rfl (by decide) ?_
    rw [List.map_map, List.length_map]
    have := sum_le ((fun (x : Str) => x.length) ∘ fun c => mkS [c]) 1 (plainL gs) fun c _ => by
      show (mkS [c]).length ≤ 1
      rw [mkS_length]; simp
    omega
  refine (exL_next (exS_set ej)).trans ?_
  generalize hS : (some (.val (.list (((plainL gs).map fun c => mkS [c]).map D.str))) : O1) = S
  show exL P1 _ [T, S, vb false, o3, vs (plainL gs), none, none, none] = _
  refine (exL_next (σ' := [T, S, vb false, o3, vs (plainL gs), some (.own (.list [])), none, none]) rfl).trans ?_
  refine (exL_next (σ' := sg11 T S (vb false) o3 (plainL gs) [] 0 none) rfl).trans ?_
  obtain ⟨o7, ew⟩ := tok_loop (T := T) (S := S) (sk := vb false) (o3 := o3) gs hgn [] [] none (2000 - 4 * gs.length) (by simp; omega) (by simp; omega)
  have ek : 2000 - 4 * gs.length + 4 * gs.length = 2000 := by omega
  rw [ek] at ew
  simp only [List.nil_append, List.length_nil] at ew
  refine (exL_next (show exS P1 (.whl 2000 tst11 whl11) (sg11 T S (vb false) o3 (plainL gs) [] 0 none) = _ from (by simp only [exS]; exact ew))).trans ?_
  have hsl := syms_len gs
  refine (exL_next (σ' := [T, S, vb false, o3, vs (plainL gs), some (.val (.list (symsL gs))), vi (plainL gs).length, o7]) rfl).trans ?_
  refine exL_retn (exS_ret ?_)
  refine (ev_bin (x := .list (symsL gs)) (y := .list [.int 0]) rfl rfl).trans ?_
  show (if (symsL gs).length + [D.int 0].length ≤ 100000 then some (D.list (symsL gs ++ [D.int 0])) else none) = _
  rw [if_pos (by simp; omega)]
end Mine

namespace Mine
/-! M29: the statements -/
theorem spec7 (x : Int) : orc1 7 [.int x] = some (.bool (decide (x ≥ 256))) := rfl
theorem spec8 (x : Int) : orc1 8 [.int x] = some (.bool (x == 0)) := rfl
noncomputable def body12 : List MS := [.ite (.val (.call 7 (.var 4) [])) [.app 2 (.bin .Sub (.var 4) (.glob 4))] [.ite (.or [.val (.call 8 (.var 4) []), .cmp .Eq (.var 4) (.int 12)]) [.app 1 (.tup [.subv 2 (.neg (.int 2)), .var 3, .subv 2 (.neg (.int 1))])] [.set 3 (.cmp .Eq (.var 4) (.int 27))]]]
noncomputable def sg12 (T : O1) (sts names : List D) (al : Bool) (o : O1) : Sg := [T, some (.own (.list sts)), some (.own (.list names)), vb al, o]
theorem t7 (T : O1) (sts names : List D) (al : Bool) (x : Int) : evT P1 (.val (.call 7 (.var 4) [])) (sg12 T sts names al (vi x)) = some (decide (x ≥ 256)) := by
  have := (ev_call (P := P1) (f := 7) (a := .var 4) (as := []) (σ := sg12 T sts names al (vi x)) (x := .int x) (xs := []) rfl rfl).trans (spec7 x)
  simp only [evT, this]
theorem t8 (T : O1) (sts names : List D) (al : Bool) (x : Int) : evT P1 (.val (.call 8 (.var 4) [])) (sg12 T sts names al (vi x)) = some (x == 0) := by
  have := (ev_call (P := P1) (f := 8) (a := .var 4) (as := []) (σ := sg12 T sts names al (vi x)) (x := .int x) (xs := []) rfl rfl).trans (spec8 x)
  simp only [evT, this]
theorem letter12 (T : O1) (sts names : List D) (hn : names.length ≤ 100000) (al : Bool) (x : Int) (hx : 256 ≤ x) : exL P1 body12 (sg12 T sts names al (vi x)) = some (.next (sg12 T sts (names ++ [.int (x - 256)]) al (vi x))) := by
  refine exL_next ((exS_itet ((t7 ..).trans (by rw [decide_eq_true hx]))).trans ?_) |>.trans rfl
  exact (exL_next (exS_app (ds := names) (d := .int (x - 256)) rfl rfl hn)).trans rfl
theorem op12 (T : O1) (sts names : List D) (al : Bool) (x : Int) (h1 : ¬ x ≥ 256) (h2 : x ≠ 0) (h3 : x ≠ 12) : exL P1 body12 (sg12 T sts names al (vi x)) = some (.next (sg12 T sts names (x == 27) (vi x))) := by
  have h8 := t8 T sts names al x
  rw [show (x == 0) = false by simpa using h2] at h8
  have h12 : evT P1 (.cmp .Eq (.var 4) (.int 12)) (sg12 T sts names al (vi x)) = some (x == 12) := rfl
  rw [show (x == 12) = false by simpa using h3] at h12
  have ho : evT P1 (.or [.val (.call 8 (.var 4) []), .cmp .Eq (.var 4) (.int 12)]) (sg12 T sts names al (vi x)) = some false := by
    simp only [evT, evOr] at h8 h12 ⊢; simp only [h8, h12]
  refine exL_next ((exS_itef ((t7 ..).trans (by rw [decide_eq_false h1]))).trans ((exL_next ((exS_itef ho).trans ?_)).trans rfl)) |>.trans rfl
  rfl
theorem end12 (T : O1) (sts names : List D) (hs : sts.length ≤ 100000) (al : Bool) (x : Int) (h1 : x = 0 ∨ x = 12) {a b : D} (ha : idx names (-2) = some a) (hb : idx names (-1) = some b) :
    exL P1 body12 (sg12 T sts names al (vi x)) = some (.next (sg12 T (sts ++ [.tup [a, .bool al, b]]) names al (vi x))) := by
  have hx : ¬ x ≥ 256 := by omega
  have h8 := t8 T sts names al x
  have h12 : evT P1 (.cmp .Eq (.var 4) (.int 12)) (sg12 T sts names al (vi x)) = some (x == 12) := rfl
  have ho : evT P1 (.or [.val (.call 8 (.var 4) []), .cmp .Eq (.var 4) (.int 12)]) (sg12 T sts names al (vi x)) = some true := by
    simp only [evT, evOr] at h8 h12 ⊢
    rcases h1 with rfl | rfl
    · simp only [h8, h12]; rfl
    · simp only [h8, h12]; rfl
  have e1 : ev P1 (.subv 2 (.neg (.int 2))) (sg12 T sts names al (vi x)) = some a := (ev_subo (k := -2) (ds := names) rfl rfl).trans ha
  have e2 : ev P1 (.subv 2 (.neg (.int 1))) (sg12 T sts names al (vi x)) = some b := (ev_subo (k := -1) (ds := names) rfl rfl).trans hb
  have e3 := ev_tup (evs_cons e1 (evs_cons (a := .var 3) (x := .bool al) rfl (evs_cons e2 evs_nil))) (show 3 ≤ 100000 by decide)
  refine exL_next ((exS_itef ((t7 ..).trans (by rw [decide_eq_false hx]))).trans ((exL_next ((exS_itet ho).trans ?_)).trans rfl)) |>.trans rfl
  exact (exL_next (exS_app (ds := sts) rfl e3 hs)).trans rfl
theorem idx2 (ns : List D) (hn : ns.length ≤ 1000) (a b : D) : idx (ns ++ [a, b]) (-2) = some a := by
  unfold idx
  rw [if_neg (by simp; omega), if_neg (by decide), if_pos (by simp; omega)]
  have : ((-2 : Int) + ((ns ++ [a, b]).length : Nat)).toNat = ns.length := by simp; omega
  rw [this, List.getElem?_append_right (Nat.le_refl _)]; simp
theorem idx1 (ns : List D) (hn : ns.length ≤ 1000) (a b : D) : idx (ns ++ [a, b]) (-1) = some b := by
  unfold idx
  rw [if_neg (by simp; omega), if_neg (by decide), if_pos (by simp; omega)]
  have : ((-1 : Int) + ((ns ++ [a, b]).length : Nat)).toNat = ns.length + 1 := by simp; omega
  rw [this, List.getElem?_append_right (by omega)]; simp
theorem forF_next {g : D → Sg → Option Sg} {b : Sg → Option Out} {d : D} {ds : List D} {σ τ σ' : Sg} (h : g d σ = some τ) (h2 : b τ = some (.next σ')) : forF g b (d :: ds) σ = forF g b ds σ' := by
  rw [forF_cons h, h2]
theorem group12 (T : O1) (s : Stm) (e : Int) (he : e = 0 ∨ e = 12) (sts names : List D) (hs : sts.length ≤ 1000) (hn : names.length ≤ 1000) (al : Bool) (o : O1) (rest : List D) :
    forF (setTg (.one 4)) (exL P1 body12) (gsym s ++ .int e :: rest) (sg12 T sts names al o) = forF (setTg (.one 4)) (exL P1 body12) rest (sg12 T (sts ++ [toD s]) (names ++ [.int s.1.val, .int s.2.2.val]) s.2.1 (vi e)) := by
  have hp : (256 : Int) ≤ 256 + (s.1.val : Int) := by omega
  have hq : (256 : Int) ≤ 256 + (s.2.2.val : Int) := by omega
  have x1 : (256 + (s.1.val : Int) - 256) = s.1.val := by omega
  have x2 : (256 + (s.2.2.val : Int) - 256) = s.2.2.val := by omega
  unfold gsym
  simp only [List.cons_append, List.nil_append]
  rw [forF_next (τ := sg12 T sts names al (vi (256 + (s.1.val : Int)))) rfl (letter12 T sts names (by omega) al _ hp), x1]
  have ho := op12 T sts (names ++ [.int (s.1.val : Int)]) al (if s.2.1 = true then 27 else 28) (by split <;> decide) (by split <;> decide) (by split <;> decide)
  have hal : ((if s.2.1 = true then (27 : Int) else 28) == 27) = s.2.1 := by cases s.2.1 <;> rfl
  rw [hal] at ho
  rw [forF_next (τ := sg12 T sts (names ++ [.int (s.1.val : Int)]) al (vi (if s.2.1 = true then 27 else 28))) rfl ho]
  rw [forF_next (τ := sg12 T sts (names ++ [.int (s.1.val : Int)]) s.2.1 (vi (256 + (s.2.2.val : Int)))) rfl (letter12 T sts _ (by simp; omega) s.2.1 _ hq), x2]
  have hnm : names ++ [D.int (s.1.val : Int)] ++ [D.int (s.2.2.val : Int)] = names ++ [.int s.1.val, .int s.2.2.val] := by simp
  rw [hnm]
  rw [forF_next (τ := sg12 T sts (names ++ [.int (s.1.val : Int), .int (s.2.2.val : Int)]) s.2.1 (vi e)) rfl (end12 T sts _ (by omega) s.2.1 e he (idx2 names hn _ _) (idx1 names hn _ _))]
  rfl
theorem loop12 (T : O1) : ∀ (gs : List Stm), gs ≠ [] → ∀ (sts names : List D) (al : Bool) (o : O1), sts.length + gs.length ≤ 900 → names.length + 2 * gs.length ≤ 900 →
    ∃ names' al' o', forF (setTg (.one 4)) (exL P1 body12) (symsL gs ++ [.int 0]) (sg12 T sts names al o) = some (.next (sg12 T (sts ++ gs.map toD) names' al' o'))
  | [], h, _, _, _, _, _, _ => absurd rfl h
  | [s], _, sts, names, al, o, hs, hn => by
    refine ⟨names ++ [.int s.1.val, .int s.2.2.val], s.2.1, vi 0, ?_⟩
    show forF _ _ (gsym s ++ [.int 0]) _ = _
    rw [group12 T s 0 (.inl rfl) sts names (by omega) (by omega)]
    rfl
  | s :: t :: r, _, sts, names, al, o, hs, hn => by
    obtain ⟨n', a', o', e⟩ := loop12 T (t :: r) (by simp) (sts ++ [toD s]) (names ++ [.int s.1.val, .int s.2.2.val]) s.2.1 (vi 12) (by simp at hs ⊢; omega) (by simp at hn ⊢; omega)
    refine ⟨n', a', o', ?_⟩
    have : symsL (s :: t :: r) ++ [.int 0] = gsym s ++ .int 12 :: (symsL (t :: r) ++ [.int 0]) := by show (gsym s ++ .int 12 :: symsL (t :: r)) ++ [.int 0] = _; simp
    rw [this, group12 T s 12 (.inr rfl) sts names (by omega) (by omega), e]
    simp
theorem spec12 (gs : List Stm) (hne : gs ≠ []) (hl : gs.length ≤ 8) : orc2 12 [.list (symsL gs ++ [.int 0])] = some (.list (gs.map toD)) := by
  refine runF_ret rfl ?_
  generalize hT : (some (.val (.list (symsL gs ++ [.int 0]))) : O1) = T
  have s0 : start cf12 [.list (symsL gs ++ [.int 0])] = [T, none, none, none, none] := by subst hT; rfl
  rw [s0]
  have hsl := syms_len gs
  refine (exL_next (σ' := [T, some (.own (.list [])), none, none, none]) rfl).trans ?_
  refine (exL_next (σ' := [T, some (.own (.list [])), some (.own (.list [])), none, none]) rfl).trans ?_
  refine (exL_next (σ' := sg12 T [] [] false none) rfl).trans ?_
  have ei : evI P1 (.one 4) (.val (.var 0)) (sg12 T [] [] false none) = some (symsL gs ++ [.int 0]) := by
    subst hT
    show (if (symsL gs ++ [D.int 0]).length ≤ 100000 then some (symsL gs ++ [D.int 0]) else none) = _
    rw [if_pos (by simp; omega)]
  obtain ⟨n', a', o', e⟩ := loop12 T gs hne [] [] false none (by simp; omega) (by simp; omega)
  rw [List.nil_append] at e
  refine (exL_next ((exS_forr ei).trans e)).trans ?_
  refine (exL_next (σ' := [T, some (.val (.list (gs.map toD))), some (.own (.list n')), vb a', o']) rfl).trans ?_
  exact exL_retn (exS_ret rfl)
end Mine

namespace Mine
/-! M30: the law -/
theorem drawn_ne (c : Int) : (drawnP c).1 ≠ (drawnP c).2.2 := by
  have h : ∀ n, (pairP n).1 ≠ (pairP n).2 := fun n => by
    match n with
    | 0 => decide
    | 1 => decide
    | 2 => decide
    | 3 => decide
    | 4 => decide
    | n + 5 => exact (show ((2 : Fin 4)) ≠ 3 by decide)
  unfold drawnP drawnK
  split
  · exact fun e => h _ e.symm
  · exact h _
noncomputable def hueI (t r : Nat) (l : Int) : Int := hueP t r l.toNat
theorem hue_inj : ∀ t < 6, ∀ r ∈ ([1, 2] : List Nat), ∀ a ∈ ([0, 2, 3, 4] : List Int), ∀ b ∈ ([0, 2, 3, 4] : List Int), hueI t r a = hueI t r b → a = b := by decide +kernel
theorem fold_bound {α : Type} {f : Int → α → Int} {c : Int} (hc : 0 ≤ c) : ∀ (l : List α) (b : Int), (∀ b, ∀ x ∈ l, b ≤ f b x ∧ f b x ≤ b + c) → b ≤ l.foldl f b ∧ l.foldl f b ≤ b + c * l.length
  | [], b, _ => by simp
  | x :: l, b, h => by
    have h0 := h b x (by simp)
    have h1 := fold_bound hc l (f b x) fun b y hy => h b y (by simp [hy])
    rw [List.foldl_cons]
    have : c * ((x :: l).length : Int) = c * (l.length : Int) + c := by
      simp only [List.length_cons, Int.natCast_add, Int.mul_add]; simp
    simp only [List.length_cons] at this ⊢
    constructor
    · omega
    · rw [this]; omega
theorem paint_bound (ls : List Int) (hl : ls.length ≤ 3) (l0 : Int) (hue : Int → Int) (ss : List Stm) : 0 ≤ paintP ls l0 hue ss ∧ paintP ls l0 hue ss ≤ 27 := by
  have hn : (ls.length : Int) ≤ 3 := by omega
  have b3 : ∀ a b (k : Int), k ≤ ls.foldl (fun k c => if ss.all (sat (spotsP l0 a b c hue)) = true then k + 1 else k) k ∧ ls.foldl (fun k c => if ss.all (sat (spotsP l0 a b c hue)) = true then k + 1 else k) k ≤ k + 3 := fun a b k => by
    have := fold_bound (c := 1) (by decide) ls k (f := fun k c => if ss.all (sat (spotsP l0 a b c hue)) = true then k + 1 else k) fun b x _ => by split <;> omega
    omega
  have b2 : ∀ a (k : Int), k ≤ ls.foldl (fun k b => ls.foldl (fun k c => if ss.all (sat (spotsP l0 a b c hue)) = true then k + 1 else k) k) k ∧ ls.foldl (fun k b => ls.foldl (fun k c => if ss.all (sat (spotsP l0 a b c hue)) = true then k + 1 else k) k) k ≤ k + 9 := fun a k => by
    have := fold_bound (c := 3) (by decide) ls k (f := fun k b => ls.foldl (fun k c => if ss.all (sat (spotsP l0 a b c hue)) = true then k + 1 else k) k) fun k b _ => b3 a b k
    omega
  have := fold_bound (c := 9) (by decide) ls 0 (f := fun k a => ls.foldl (fun k b => ls.foldl (fun k c => if ss.all (sat (spotsP l0 a b c hue)) = true then k + 1 else k) k) k) fun k a _ => b2 a k
  unfold paintP
  omega
theorem small_of {x : Int} (h : 0 ≤ x ∧ x ≤ 27) : small x = true := by
  unfold small; rw [decide_eq_true_eq]; have : x.natAbs ≤ 27 := by omega
  exact Nat.lt_of_le_of_lt this (by decide)
theorem look_seen (t r : Nat) : ∀ l ∈ ([0, 2, 3, 4] : List Int), (seenE t r).lookup l = some (hueI t r l) := by
  intro l hl
  simp only [List.mem_cons, List.not_mem_nil, or_false] at hl
  rcases hl with rfl | rfl | rfl | rfl <;> rfl
noncomputable def dfl : List Int := [69173, 6, 14844, 909, 565, 7805]
noncomputable def codesP (script : List Int) : List Int := (script.take 8).map fun x => x.fmod 1000000
noncomputable def toldP (script : List Int) : List Int := codesP script ++ dfl.drop (codesP script).length
theorem told_shape (script : List Int) : ∃ t0 t1 rest, toldP script = t0 :: t1 :: rest ∧ rest ≠ [] ∧ rest.length ≤ 6 := by
  have hl : (codesP script).length ≤ 8 := by unfold codesP; simp; omega
  have hl6 : (toldP script).length = max (codesP script).length 6 := by unfold toldP dfl; simp; omega
  cases h : toldP script with
  | nil => rw [h] at hl6; simp at hl6; omega
  | cons t0 r =>
    cases r with
    | nil => rw [h] at hl6; simp at hl6; omega
    | cons t1 rest =>
      rw [h] at hl6
      simp only [List.length_cons] at hl6
      exact ⟨t0, t1, rest, rfl, fun e => by rw [e] at hl6; simp at hl6; omega, by omega⟩

theorem shaped_stms : ∀ gs : List Stm, ∃ ps, toPs (gs.map toD) = some ps ∧ PyData.canLayAll0 ps = true ∧ PyData.depthAll ps ≤ 1 ∧ PyData.eqvAll ps ps = true
  | [] => ⟨[], rfl, rfl, by decide, rfl⟩
  | s :: gs => by
    obtain ⟨ps, e, h1, h2, h3⟩ := shaped_stms gs
    refine ⟨.tuple [.int s.1.val, .bool s.2.1, .int s.2.2.val] :: ps, ?_, ?_, ?_, ?_⟩
    · have : toP (toD s) = some (.tuple [.int s.1.val, .bool s.2.1, .int s.2.2.val]) := rfl
      simp only [List.map_cons, toPs, this, e]
    · simp only [PyData.canLayAll0, PyData.canLay0, h1, Bool.and_self]
    · simp only [PyData.depthAll, PyData.depth]; omega
    · simp [PyData.eqvAll, PyData.eqv, h3]
theorem ne_self (gs : List Stm) : cmpop .NotEq (.list (gs.map toD)) (.list (gs.map toD)) = some false := by
  obtain ⟨ps, e, h1, h2, h3⟩ := shaped_stms gs
  show (match toPs (gs.map toD), toPs (gs.map toD) with | some p, some q => if SeqAt.shaped (.list p) = true ∧ SeqAt.shaped (.list q) = true then some (!PyData.eqv (.list p) (.list q)) else none | _, _ => none) = _
  rw [e]
  have sh : SeqAt.shaped (.list ps) = true := by
    unfold SeqAt.shaped
    rw [Bool.and_eq_true]
    refine ⟨by simp only [PyData.canLay0, h1], ?_⟩
    rw [decide_eq_true_eq]; simp only [PyData.depth]; omega
  dsimp only
  rw [if_pos ⟨sh, sh⟩]
  simp [PyData.eqv, h3]
theorem unseen_at (x : Int) : ∃ u ∈ unseenL, subop (.list [.int 173, .int 847, .int 6156, .int 8205, .int 8288, .int 65039]) (.int (x.fmod 6)) = some (.int (u : Nat)) := by
  rcases fmod_cases6 x with h | h | h | h | h | h <;> rw [h]
  · exact ⟨173, by decide, rfl⟩
  · exact ⟨847, by decide, rfl⟩
  · exact ⟨6156, by decide, rfl⟩
  · exact ⟨8205, by decide, rfl⟩
  · exact ⟨8288, by decide, rfl⟩
  · exact ⟨65039, by decide, rfl⟩
theorem spec9' (c : Int) : P3.orc 9 [.int c] = some (toD (drawnP c)) := spec9 c
theorem spec10' (u : Nat) (cs : List Int) (hl : cs.length ≤ 8) : P3.orc 10 [.list (cs.map .int), .str (mkS [u])] = some (.str (mkS (textL u cs))) := spec10 u cs hl
theorem spec11' {u : Nat} (hu : u ∈ unseenL) (cs : List Int) (hne : cs ≠ []) (hl : cs.length ≤ 8) : P3.orc 11 [.str (mkS (textL u cs))] = some (.list (symsL (cs.map drawnP) ++ [.int 0])) := spec11 hu cs hne hl
theorem spec12' (gs : List Stm) (hne : gs ≠ []) (hl : gs.length ≤ 8) : P3.orc 12 [.list (symsL gs ++ [.int 0])] = some (.list (gs.map toD)) := spec12 gs hne hl
theorem spec18' (ss : List Stm) (hl : ss.length ≤ 100000) : P3.orc 18 [.list (ss.map toD)] = some (headsD (ss.foldl merge id)) := spec18 ss hl
theorem spec19' (h : Fin 4 → Fin 4) (ss : List Stm) (hl : ss.length ≤ 100000) : P3.orc 19 [headsD h, .list (ss.map toD)] =
    some (.int (if (ulist h ss).any (fun u => u.1 = u.2) = true then 0 else (waysL (ulist h ss)).length)) := spec19 h ss hl
noncomputable def sg20 (S : O1) (o1 o2 o3 o4 o5 o6 o7 o8 o9 o10 o11 o12 o13 : O1) : Sg := [S, o1, o2, o3, o4, o5, o6, o7, o8, o9, o10, o11, o12, o13]
set_option maxHeartbeats 4000000 in
theorem law_true (script : List Int) (hsl : script.length ≤ 63) : runF P3 cf20 f20 1 [.list (script.map .int)] = some (.bool true) := by
  refine runF_ret rfl ?_
  generalize hS : (some (.val (.list (script.map .int))) : O1) = S
  have s0 : start cf20 [.list (script.map .int)] = sg20 S none none none none none none none none none none none none none := by subst hS; rfl
  rw [s0]
  -- codes
  have e1 : ev P3 (.comp (.bin .Mod (.var 0) (.int 1000000)) .one (.slice (.var 0) none (some (.int 8))) [] []) (sg20 S none none none none none none none none none none none none none) = some (.list ((codesP script).map .int)) := by
    subst hS
    refine ev_comp (ds := (script.take 8).map .int) ?_ (by simp; omega) ?_
    · show (if 0 ≤ (8 : Int) ∧ (script.map D.int).length ≤ 100000 then some (D.list ((script.map D.int).take (8 : Int).toNat)) else none) = _
      rw [if_pos ⟨by decide, by simp; omega⟩, ← List.map_take]; rfl
    · have := compF_filterMap (f := compStep P3 (.bin .Mod (.var 0) (.int 1000000)) .one [] []) (φ := D.int) (r := fun x => some (.int (x.fmod 1000000))) (xs := script.take 8) fun x _ => rfl
      refine this.trans ?_
      unfold codesP
      rw [List.map_map]
      congr 1
      induction script.take 8 with
      | nil => rfl
      | cons x l ih => rw [List.filterMap_cons, ih]; rfl
  refine (exL_next (exS_setc e1)).trans ?_
  have hcl : (codesP script).length ≤ 8 := by unfold codesP; simp; omega
  generalize hC : (some (.val (.list ((codesP script).map .int))) : O1) = C
  show exL P3 _ (sg20 S C none none none none none none none none none none none none) = _
  -- told
  have e2 : ev P3 (.bin .Add (.var 1) (.slice (.list [.int 69173, .int 6, .int 14844, .int 909, .int 565, .int 7805]) (some (.bi .len (.var 1) [])) none)) (sg20 S C none none none none none none none none none none none none) = some (.list ((toldP script).map .int)) := by
    subst hC
    have el : evO P3 (some (.bi .len (.var 1) [])) (sg20 S (some (.val (.list ((codesP script).map .int)))) none none none none none none none none none none none none) = some (some (((codesP script).length : Nat) : Int)) := by
      have : ev P3 (.bi .len (.var 1) []) (sg20 S (some (.val (.list ((codesP script).map .int)))) none none none none none none none none none none none none) = some (.int (((codesP script).length : Nat) : Int)) := by
        show (if ((codesP script).map D.int).length ≤ 100000 then some (D.int (((codesP script).map D.int).length : Nat)) else none) = _
        rw [if_pos (by simp; omega), List.length_map]
      simp only [evO, this]; rfl
    have es : ev P3 (.slice (.list [.int 69173, .int 6, .int 14844, .int 909, .int 565, .int 7805]) (some (.bi .len (.var 1) [])) none) (sg20 S (some (.val (.list ((codesP script).map .int)))) none none none none none none none none none none none none) = some (.list ((dfl.drop (codesP script).length).map .int)) := by
      have eh : ev P3 (.list [.int 69173, .int 6, .int 14844, .int 909, .int 565, .int 7805]) (sg20 S (some (.val (.list ((codesP script).map .int)))) none none none none none none none none none none none none) = some (.list (dfl.map .int)) := rfl
      have en : evO P3 none (sg20 S (some (.val (.list ((codesP script).map .int)))) none none none none none none none none none none none none) = some none := rfl
      have : ev P3 (.slice (.list [.int 69173, .int 6, .int 14844, .int 909, .int 565, .int 7805]) (some (.bi .len (.var 1) [])) none) (sg20 S (some (.val (.list ((codesP script).map .int)))) none none none none none none none none none none none none) = sliceop (.list (dfl.map .int)) (some (((codesP script).length : Nat) : Int)) none := by
        simp only [ev] at eh ⊢
        simp only [eh, el, en]
      rw [this]
      show (if 0 ≤ (((codesP script).length : Nat) : Int) ∧ (dfl.map D.int).length ≤ 100000 then some (D.list ((dfl.map D.int).drop (((codesP script).length : Nat) : Int).toNat)) else none) = _
      rw [if_pos ⟨by omega, by decide⟩, Int.toNat_natCast, ← List.map_drop]
    refine (ev_bin (x := .list ((codesP script).map .int)) rfl es).trans ?_
    show (if ((codesP script).map D.int).length + ((dfl.drop (codesP script).length).map D.int).length ≤ 100000 then some (D.list ((codesP script).map D.int ++ (dfl.drop (codesP script).length).map D.int)) else none) = _
    rw [if_pos (by simp [dfl]; omega), ← List.map_append]; rfl
  refine (exL_next (exS_set e2)).trans ?_
  obtain ⟨t0, t1, rest, ht, hrn, hrl⟩ := told_shape script
  rw [ht]
  generalize hT : (some (.val (.list ((t0 :: t1 :: rest).map .int))) : O1) = T
  show exL P3 _ (sg20 S C T none none none none none none none none none none none) = _
  -- unseen
  have at0 : ∀ o3 o4 o5 o6 o7 o8 o9 o10 o11 o12 o13, ev P3 (.subv 2 (.int 0)) (sg20 S C T o3 o4 o5 o6 o7 o8 o9 o10 o11 o12 o13) = some (.int t0) := fun o3 o4 o5 o6 o7 o8 o9 o10 o11 o12 o13 => by
    subst hT
    refine (ev_subv (k := 0) (d := .list ((t0 :: t1 :: rest).map .int)) rfl rfl).trans ?_
    show idx _ 0 = _
    unfold idx; rw [if_neg (by simp; omega), if_pos (by decide)]; rfl
  have at1 : ∀ o3 o4 o5 o6 o7 o8 o9 o10 o11 o12 o13, ev P3 (.subv 2 (.int 1)) (sg20 S C T o3 o4 o5 o6 o7 o8 o9 o10 o11 o12 o13) = some (.int t1) := fun o3 o4 o5 o6 o7 o8 o9 o10 o11 o12 o13 => by
    subst hT
    refine (ev_subv (k := 1) (d := .list ((t0 :: t1 :: rest).map .int)) rfl rfl).trans ?_
    show idx _ 1 = _
    unfold idx; rw [if_neg (by simp; omega), if_pos (by decide)]; rfl
  obtain ⟨u, hu, eu⟩ := unseen_at (t1.fdiv 2)
  have e3 : ev P3 (.bi .chr (.sub (.list [.int 173, .int 847, .int 6156, .int 8205, .int 8288, .int 65039]) (.bin .Mod (.bin .FloorDiv (.subv 2 (.int 1)) (.int 2)) (.int 6))) []) (sg20 S C T none none none none none none none none none none none) = some (.str (mkS [u])) := by
    refine chr_at ?_ (by have : ∀ u ∈ unseenL, u ≤ 1114111 := by decide
                         exact this u hu)
    exact (ev_sub (x := .list [.int 173, .int 847, .int 6156, .int 8205, .int 8288, .int 65039]) (y := .int ((t1.fdiv 2).fmod 6)) rfl ((ev_bin ((ev_bin (at1 ..) (y := .int 2) rfl).trans rfl) (y := .int 6) rfl).trans rfl)).trans eu
  refine (exL_next (exS_set e3)).trans ?_
  show exL P3 _ (sg20 S C T (vs [u]) none none none none none none none none none none) = _
  -- drawn
  have rest_at : ∀ o3 o4 o5 o6 o7 o8 o9 o10 o11 o12 o13, ev P3 (.slice (.var 2) (some (.int 2)) none) (sg20 S C T o3 o4 o5 o6 o7 o8 o9 o10 o11 o12 o13) = some (.list (rest.map .int)) := fun o3 o4 o5 o6 o7 o8 o9 o10 o11 o12 o13 => by
    subst hT
    show (if 0 ≤ (2 : Int) ∧ ((t0 :: t1 :: rest).map D.int).length ≤ 100000 then some (D.list (((t0 :: t1 :: rest).map D.int).drop (2 : Int).toNat)) else none) = _
    rw [if_pos ⟨by decide, by simp; omega⟩]; rfl
  generalize hg : rest.map drawnP = gs
  have hgl : gs.length ≤ 6 := by rw [← hg]; simpa using hrl
  have hgn : gs ≠ [] := by rw [← hg]; simpa using hrn
  have hne : ∀ s ∈ gs, s.1 ≠ s.2.2 := fun s hs => by
    rw [← hg] at hs
    obtain ⟨c, _, rfl⟩ := List.mem_map.mp hs
    exact drawn_ne c
  have e4 : ev P3 (.comp (.call 9 (.var 0) []) .one (.slice (.var 2) (some (.int 2)) none) [] []) (sg20 S C T (vs [u]) none none none none none none none none none none) = some (.list (gs.map toD)) := by
    refine ev_comp (ds := rest.map .int) (rest_at ..) (by simp; omega) ?_
    have := compF_filterMap (f := compStep P3 (.call 9 (.var 0) []) .one [] []) (φ := D.int) (r := fun c => some (toD (drawnP c))) (xs := rest) fun c _ => by
      show (match ev P3 (.call 9 (.var 0) []) [vi c] with | some r => some (some r) | none => none) = _
      have : ev P3 (.call 9 (.var 0) []) [vi c] = some (toD (drawnP c)) := (ev_call (P := P3) (f := 9) (x := .int c) (xs := []) rfl rfl).trans (spec9' c)
      rw [this]
    refine this.trans ?_
    rw [← hg, List.map_map]
    congr 1
    clear this e1 e2 e3 rest_at at0 at1 ht hT hrn hrl hg
    induction rest with
    | nil => rfl
    | cons x l ih => rw [List.filterMap_cons, ih]; rfl
  refine (exL_next (exS_setc e4)).trans ?_
  generalize hD : (some (.val (.list (gs.map toD))) : O1) = Dr
  show exL P3 _ (sg20 S C T (vs [u]) Dr none none none none none none none none none) = _
  -- statements
  have e5 : ev P3 (.call 12 (.call 11 (.call 10 (.slice (.var 2) (some (.int 2)) none) [.var 3]) []) []) (sg20 S C T (vs [u]) Dr none none none none none none none none none) = some (.list (gs.map toD)) := by
    have a10 := (ev_call (P := P3) (f := 10) (a := .slice (.var 2) (some (.int 2)) none) (as := [.var 3]) (σ := sg20 S C T (vs [u]) Dr none none none none none none none none none) (x := .list (rest.map .int)) (xs := [.str (mkS [u])]) (rest_at ..) rfl).trans (spec10' u rest (by omega))
    have a11 := (ev_call (P := P3) (f := 11) (as := []) (xs := []) a10 evs_nil).trans (spec11' hu rest hrn (by omega))
    rw [hg] at a11
    exact (ev_call (P := P3) (f := 12) (as := []) (xs := []) a11 evs_nil).trans (spec12' gs hgn (by omega))
  refine (exL_next (exS_set e5)).trans ?_
  rw [hD]
  show exL P3 _ (sg20 S C T (vs [u]) Dr Dr none none none none none none none none) = _
  have e6 : evT P3 (.cmp .NotEq (.var 5) (.var 4)) (sg20 S C T (vs [u]) Dr Dr none none none none none none none none) = some false := by
    subst hD
    exact (evT_cmp (op := .NotEq) (x := .list (gs.map toD)) (y := .list (gs.map toD)) rfl rfl).trans (ne_self gs)
  refine (exL_next (σ' := sg20 S C T (vs [u]) Dr Dr none none none none none none none none) ((exS_itef e6).trans rfl)).trans ?_
  -- seen
  have hturn := fmod_range (t0.fdiv 65536) (show (0 : Int) < 6 by decide)
  obtain ⟨t, ht6, htt⟩ : ∃ t : Nat, t < 6 ∧ (t0.fdiv 65536).fmod 6 = (t : Int) := ⟨((t0.fdiv 65536).fmod 6).toNat, by omega, by omega⟩
  obtain ⟨r, hr12, hrr⟩ : ∃ r : Nat, (r = 1 ∨ r = 2) ∧ t1.fmod 2 + 1 = (r : Int) := by
    rcases fmod_cases2 t1 with h | h
    · exact ⟨1, .inl rfl, by rw [h]; rfl⟩
    · exact ⟨2, .inr rfl, by rw [h]; rfl⟩
  have hr' : r ∈ ([1, 2] : List Nat) := by rcases hr12 with rfl | rfl <;> decide
  have e7 : ev P3 (.call 15 (.subv 2 (.int 0)) [.bin .Mod (.bin .FloorDiv (.subv 2 (.int 0)) (.int 65536)) (.int 6), .bin .Add (.bin .Mod (.subv 2 (.int 1)) (.int 2)) (.int 1)]) (sg20 S C T (vs [u]) Dr Dr none none none none none none none none) =
      some (.list [.dII (seenE t r), .dII (seenE t r), .dII (seenE t r), .dII (seenE t r)]) := by
    have x1 : ev P3 (.bin .Mod (.bin .FloorDiv (.subv 2 (.int 0)) (.int 65536)) (.int 6)) (sg20 S C T (vs [u]) Dr Dr none none none none none none none none) = some (.int (t : Int)) :=
      ((ev_bin (x := .int (t0.fdiv 65536)) ((ev_bin (at0 ..) (y := .int 65536) rfl).trans rfl) (y := .int 6) rfl).trans (show binop .Mod (.int (t0.fdiv 65536)) (.int 6) = some (.int ((t0.fdiv 65536).fmod 6)) from rfl)).trans (by rw [htt])
    have x2 : ev P3 (.bin .Add (.bin .Mod (.subv 2 (.int 1)) (.int 2)) (.int 1)) (sg20 S C T (vs [u]) Dr Dr none none none none none none none none) = some (.int (r : Int)) :=
      ((ev_bin (x := .int (t1.fmod 2)) ((ev_bin (at1 ..) (y := .int 2) rfl).trans rfl) (y := .int 1) rfl).trans (show binop .Add (.int (t1.fmod 2)) (.int 1) = some (.int (t1.fmod 2 + 1)) from rfl)).trans (by rw [hrr])
    exact (ev_call (P := P3) (f := 15) (at0 ..) (evs_cons x1 (evs_cons x2 evs_nil))).trans (spec15 t0 t r ht6 hr12)
  refine (exL_next (exS_set e7)).trans ?_
  generalize hE : (some (.val (.list [.dII (seenE t r), .dII (seenE t r), .dII (seenE t r), .dII (seenE t r)])) : O1) = E
  show exL P3 _ (sg20 S C T (vs [u]) Dr Dr E none none none none none none none) = _
  have e8 : evT P3 (.cmp .Eq (.var 6) (.list [])) (sg20 S C T (vs [u]) Dr Dr E none none none none none none none) = some false := by subst hE; rfl
  refine (exL_next (σ' := sg20 S C T (vs [u]) Dr Dr E none none none none none none none) ((exS_itef e8).trans rfl)).trans ?_
  -- paintings
  have b1 := paint_bound [0] (by decide) 0 (hueI t r) gs
  have b2 := paint_bound [0, 3] (by decide) 3 (hueI t r) gs
  have b3 := paint_bound [0, 2, 4] (by decide) 4 (hueI t r) gs
  have ev6 : ∀ o7 o8 o9 o10 o11 o12 o13, evs P3 [.var 6, .var 5] (sg20 S C T (vs [u]) Dr Dr E o7 o8 o9 o10 o11 o12 o13) = some [.list [.dII (seenE t r), .dII (seenE t r), .dII (seenE t r), .dII (seenE t r)], .list (gs.map toD)] := fun o7 o8 o9 o10 o11 o12 o13 => by
    subst hE hD; rfl
  have p1 := spec17 (ls := [0]) (l0 := 0) (hue := hueI t r) (es := seenE t r) (ss := gs) rfl (fun l hl => look_seen t r l (by simp at hl; simp [hl])) (by decide) (by omega) (by decide) (small_of b1)
  have p2 := spec17 (ls := [0, 3]) (l0 := 3) (hue := hueI t r) (es := seenE t r) (ss := gs) rfl (fun l hl => look_seen t r l (by simp at hl; rcases hl with rfl | rfl <;> decide)) (by decide) (by omega) (by decide) (small_of b2)
  have p3 := spec17 (ls := [0, 2, 4]) (l0 := 4) (hue := hueI t r) (es := seenE t r) (ss := gs) rfl (fun l hl => look_seen t r l (by simp at hl; rcases hl with rfl | rfl | rfl <;> decide)) (by decide) (by omega) (by decide) (small_of b3)
  generalize hB1 : paintP [0] 0 (hueI t r) gs = B1 at b1 p1
  generalize hB2 : paintP [0, 3] 3 (hueI t r) gs = B2 at b2 p2
  generalize hB3 : paintP [0, 2, 4] 4 (hueI t r) gs = B3 at b3 p3
  have q1 : ev P3 (.call 17 (.list [.int 0]) [.var 6, .var 5]) (sg20 S C T (vs [u]) Dr Dr E none none none none none none none) = some (.int (B1 * 1)) :=
    (ev_call (P := P3) (f := 17) (x := .list ([0].map .int)) rfl (ev6 ..)).trans p1
  refine (exL_next (exS_set q1)).trans ?_
  show exL P3 _ (sg20 S C T (vs [u]) Dr Dr E (vi (B1 * 1)) none none none none none none) = _
  have q2 : ev P3 (.call 17 (.list [.int 0, .int 3]) [.var 6, .var 5]) (sg20 S C T (vs [u]) Dr Dr E (vi (B1 * 1)) none none none none none none) = some (.int (B2 * 2)) :=
    (ev_call (P := P3) (f := 17) (x := .list ([0, 3].map .int)) rfl (ev6 ..)).trans p2
  refine (exL_next (exS_set q2)).trans ?_
  show exL P3 _ (sg20 S C T (vs [u]) Dr Dr E (vi (B1 * 1)) (vi (B2 * 2)) none none none none none) = _
  have q3 : ev P3 (.call 17 (.list [.int 0, .int 2, .int 4]) [.var 6, .var 5]) (sg20 S C T (vs [u]) Dr Dr E (vi (B1 * 1)) (vi (B2 * 2)) none none none none none) = some (.int (B3 * 3)) :=
    (ev_call (P := P3) (f := 17) (x := .list ([0, 2, 4].map .int)) rfl (ev6 ..)).trans p3
  refine (exL_next (exS_set q3)).trans ?_
  show exL P3 _ (sg20 S C T (vs [u]) Dr Dr E (vi (B1 * 1)) (vi (B2 * 2)) (vi (B3 * 3)) none none none none) = _
  -- heads
  have q4 : ev P3 (.call 18 (.var 4) []) (sg20 S C T (vs [u]) Dr Dr E (vi (B1 * 1)) (vi (B2 * 2)) (vi (B3 * 3)) none none none none) = some (headsD (gs.foldl merge id)) := by
    subst hD
    exact (ev_call (P := P3) (f := 18) (x := .list (gs.map toD)) (xs := []) rfl rfl).trans (spec18' gs (by omega))
  refine (exL_next (exS_set q4)).trans ?_
  have CH := chrom gs hne (hueI t r) (hue_inj t ht6 r hr')
  rw [hB1, hB2, hB3] at CH
  have q6' := spec19' (gs.foldl merge id) gs (by omega)
  generalize gs.foldl merge id = h at CH q6' ⊢
  show exL P3 _ (sg20 S C T (vs [u]) Dr Dr E (vi (B1 * 1)) (vi (B2 * 2)) (vi (B3 * 3)) (some (.val (headsD h))) none none none) = _
  have q5 : ev P3 (.bi .len (.bi .set (.var 10) []) []) (sg20 S C T (vs [u]) Dr Dr E (vi (B1 * 1)) (vi (B2 * 2)) (vi (B3 * 3)) (some (.val (headsD h))) none none none) = some (.int ((labels h).length : Int)) := by
    have a : ev P3 (.bi .set (.var 10) []) (sg20 S C T (vs [u]) Dr Dr E (vi (B1 * 1)) (vi (B2 * 2)) (vi (B3 * 3)) (some (.val (headsD h))) none none none) = some (.set (labels h)) := by
      refine (ev_bi (x := headsD h) (xs := []) rfl rfl).trans ?_
      show (if 4 + 1 < scanBound then some (D.set (labels h)) else none) = _
      rw [if_pos (by decide)]
    refine (ev_bi a evs_nil).trans ?_
    show (if (labels h).length ≤ 4000 then some (D.int ((labels h).length : Nat)) else none) = _
    have : (labels h).length ≤ 4 := by
      unfold labels dedup
      exact firstMet_length_le _ 4
    rw [if_pos (by omega)]
  refine (exL_next (exS_set q5)).trans ?_
  generalize (labels h).length = left at CH ⊢
  show exL P3 _ (sg20 S C T (vs [u]) Dr Dr E (vi (B1 * 1)) (vi (B2 * 2)) (vi (B3 * 3)) (some (.val (headsD h))) (vi left) none none) = _
  generalize (if (ulist h gs).any (fun u => u.1 = u.2) = true then (0 : Int) else ((waysL (ulist h gs)).length : Int)) = W at CH q6'
  have q6 : ev P3 (.call 19 (.var 10) [.var 4]) (sg20 S C T (vs [u]) Dr Dr E (vi (B1 * 1)) (vi (B2 * 2)) (vi (B3 * 3)) (some (.val (headsD h))) (vi left) none none) = some (.int W) := by
    subst hD
    exact (ev_call (P := P3) (f := 19) (x := headsD h) (xs := [.list (gs.map toD)]) rfl rfl).trans q6'
  refine (exL_next (exS_set q6)).trans ?_
  show exL P3 _ (sg20 S C T (vs [u]) Dr Dr E (vi (B1 * 1)) (vi (B2 * 2)) (vi (B3 * 3)) (some (.val (headsD h))) (vi left) (vi W) none) = _
  generalize hH : (some (.val (headsD h)) : O1) = H
  have q7 : ev P3 (.ite (.cmp .Eq (.bin .Mod (.var 11) (.int 2)) (.int 0)) (.var 12) (.neg (.var 12))) (sg20 S C T (vs [u]) Dr Dr E (vi (B1 * 1)) (vi (B2 * 2)) (vi (B3 * 3)) H (vi left) (vi W) none) = some (.int (signedP left W)) := by
    have a : evT P3 (.cmp .Eq (.bin .Mod (.var 11) (.int 2)) (.int 0)) (sg20 S C T (vs [u]) Dr Dr E (vi (B1 * 1)) (vi (B2 * 2)) (vi (B3 * 3)) H (vi left) (vi W) none) = some (Int.fmod (left : Int) 2 == 0) := rfl
    have m : Int.fmod (left : Int) 2 = ((left % 2 : Nat) : Int) := (Int.ofNat_fmod left 2).symm
    unfold signedP
    by_cases hm : left % 2 = 0
    · rw [m, hm] at a
      rw [if_pos hm]
      simp only [ev, a]; rfl
    · have : left % 2 = 1 := by omega
      rw [m, this] at a
      rw [if_neg hm]
      simp only [ev, a]; rfl
  refine (exL_next (exS_set q7)).trans ?_
  generalize signedP left W = V at CH
  show exL P3 _ (sg20 S C T (vs [u]) Dr Dr E (vi (B1 * 1)) (vi (B2 * 2)) (vi (B3 * 3)) H (vi left) (vi W) (vi V)) = _
  generalize hσ : sg20 S C T (vs [u]) Dr Dr E (vi (B1 * 1)) (vi (B2 * 2)) (vi (B3 * 3)) H (vi left) (vi W) (vi V) = σ
  have q8 : ev P3 (.ite (.cmp .Eq (.var 11) (.int 4)) (.int 24) (.int 0)) σ = some (.int (if left = 4 then 24 else 0)) := by
    have a : evT P3 (.cmp .Eq (.var 11) (.int 4)) σ = some ((left : Int) == 4) := by subst hσ; rfl
    by_cases h4 : left = 4
    · subst h4; simp only [ev, a]; rfl
    · have : ((left : Int) == 4) = false := by rw [beq_eq_false_iff_ne]; omega
      rw [this] at a
      rw [if_neg h4]; simp only [ev, a]
  have q9 := ((ev_bin (op := .Sub) q8 (b := .var 9) (y := .int (B3 * 3)) (by subst hσ; rfl)).trans (show _ = some (D.int ((if left = 4 then 24 else 0) - B3 * 3)) from rfl))
  have m4 : ev P3 (.bin .Mult (.int 4) (.var 8)) σ = some (.int (4 * (B2 * 2))) := by subst hσ; rfl
  have m6 : ev P3 (.bin .Mult (.int 6) (.var 7)) σ = some (.int (6 * (B1 * 1))) := by subst hσ; rfl
  have q10 := (ev_bin (op := .Add) q9 m4).trans (show _ = some (D.int ((if left = 4 then 24 else 0) - B3 * 3 + 4 * (B2 * 2))) from rfl)
  have q11 := (ev_bin (op := .Sub) q10 m6).trans (show _ = some (D.int ((if left = 4 then 24 else 0) - B3 * 3 + 4 * (B2 * 2) - 6 * (B1 * 1))) from rfl)
  have q12 := ev_cmp (op := .Eq) (a := .var 13) (x := .int V) (by subst hσ; rfl) q11 (r := true) (by
    show some (V == _) = _
    rw [CH]; simp)
  exact exL_retn (exS_ret q12)
end Mine

namespace Mine
/-! M31: the function objects (printed by gen2.py) -/
noncomputable def nameAt (k : Nat) : Str := match topBody[k]? with | some (.FunctionDef n _ _ _ _ _ _ _ _ _) => n | _ => ""
noncomputable def paramsAt (k : Nat) : Arguments := match topBody[k]? with | some (.FunctionDef _ a _ _ _ _ _ _ _ _) => a | _ => default
noncomputable def fscopeAt (k : Nat) : Scope := match topBody[k]? with | some (.FunctionDef _ _ _ _ _ _ sc _ _ _) => sc | _ => default
noncomputable def fdAt (k : Nat) (pm c' : Value) : FuncData := plainDef (nameAt k) (paramsAt k) (bodyAt k) (fscopeAt k) pm c'
theorem vals1 {vals : List Value} (h : vals.length = 1) : ∃ a, vals = [a] := by
  match vals, h with
  | [a], _ => exact ⟨a, rfl⟩
theorem valsS {vals : List Value} {n : Nat} (h : vals.length = n + 1) : ∃ a l, vals = a :: l ∧ l.length = n := by
  cases vals with
  | nil => cases h
  | cons a l => exact ⟨a, l, rfl, Nat.succ.inj h⟩
theorem vals2 {vals : List Value} (h : vals.length = 2) : ∃ a b, vals = [a, b] := by
  obtain ⟨a, l, rfl, h'⟩ := valsS h
  obtain ⟨b, rfl⟩ := vals1 h'
  exact ⟨a, b, rfl⟩
theorem vals3 {vals : List Value} (h : vals.length = 3) : ∃ a b c, vals = [a, b, c] := by
  obtain ⟨a, l, rfl, h'⟩ := valsS h
  obtain ⟨b, c, rfl⟩ := vals2 h'
  exact ⟨a, b, c, rfl⟩
theorem vals4 {vals : List Value} (h : vals.length = 4) : ∃ a b c d, vals = [a, b, c, d] := by
  obtain ⟨a, l, rfl, h'⟩ := valsS h
  obtain ⟨b, c, d, rfl⟩ := vals3 h'
  exact ⟨a, b, c, d, rfl⟩
section
variable {h : Heap} {pm : Value} {c' : Addr}
theorem fok_0 (hc : h.CodeRec (.ref c') (nameAt 1)) : FnOk cf0 (fdAt 1 pm (.ref c')) (bodyAt 1) [("r" : Str), ("g" : Str), ("b" : Str)] h where
  body := rfl
  names := rfl
  kind := rfl
  co := rfl
  gen := rfl
  clo := rfl
  glob := rfl
  blt := rfl
  code := hc
  pre := ⟨_, rfl⟩
  nd := by decide +kernel
  nm := by decide +kernel
  bind := fun vals hl => by
    obtain ⟨v0, v1, v2, rfl⟩ := vals3 hl
    rfl
theorem fok_1 (hc : h.CodeRec (.ref c') (nameAt 2)) : FnOk cf1 (fdAt 2 pm (.ref c')) (bodyAt 2) [("y" : Str), ("i" : Str), ("q" : Str)] h where
  body := rfl
  names := rfl
  kind := rfl
  co := rfl
  gen := rfl
  clo := rfl
  glob := rfl
  blt := rfl
  code := hc
  pre := ⟨_, rfl⟩
  nd := by decide +kernel
  nm := by decide +kernel
  bind := fun vals hl => by
    obtain ⟨v0, v1, v2, rfl⟩ := vals3 hl
    rfl
theorem fok_2 (hc : h.CodeRec (.ref c') (nameAt 3)) : FnOk cf2 (fdAt 3 pm (.ref c')) (bodyAt 3) [("r" : Str), ("g" : Str), ("b" : Str)] h where
  body := rfl
  names := rfl
  kind := rfl
  co := rfl
  gen := rfl
  clo := rfl
  glob := rfl
  blt := rfl
  code := hc
  pre := ⟨_, rfl⟩
  nd := by decide +kernel
  nm := by decide +kernel
  bind := fun vals hl => by
    obtain ⟨v0, v1, v2, rfl⟩ := vals3 hl
    rfl
theorem fok_3 (hc : h.CodeRec (.ref c') (nameAt 4)) : FnOk cf3 (fdAt 4 pm (.ref c')) (bodyAt 4) [("h" : Str), ("s" : Str), ("v" : Str)] h where
  body := rfl
  names := rfl
  kind := rfl
  co := rfl
  gen := rfl
  clo := rfl
  glob := rfl
  blt := rfl
  code := hc
  pre := ⟨_, rfl⟩
  nd := by decide +kernel
  nm := by decide +kernel
  bind := fun vals hl => by
    obtain ⟨v0, v1, v2, rfl⟩ := vals3 hl
    rfl
theorem fok_4 (hc : h.CodeRec (.ref c') (nameAt 7)) : FnOk cf4 (fdAt 7 pm (.ref c')) (bodyAt 7) [("code" : Str)] h where
  body := rfl
  names := rfl
  kind := rfl
  co := rfl
  gen := rfl
  clo := rfl
  glob := rfl
  blt := rfl
  code := hc
  pre := ⟨_, rfl⟩
  nd := by decide +kernel
  nm := by decide +kernel
  bind := fun vals hl => by
    obtain ⟨v0, rfl⟩ := vals1 hl
    rfl
theorem fok_5 (hc : h.CodeRec (.ref c') (nameAt 9)) : FnOk cf5 (fdAt 9 pm (.ref c')) (bodyAt 9) [("code" : Str)] h where
  body := rfl
  names := rfl
  kind := rfl
  co := rfl
  gen := rfl
  clo := rfl
  glob := rfl
  blt := rfl
  code := hc
  pre := ⟨_, rfl⟩
  nd := by decide +kernel
  nm := by decide +kernel
  bind := fun vals hl => by
    obtain ⟨v0, rfl⟩ := vals1 hl
    rfl
theorem fok_6 (hc : h.CodeRec (.ref c') (nameAt 11)) : FnOk cf6 (fdAt 11 pm (.ref c')) (bodyAt 11) [("code" : Str)] h where
  body := rfl
  names := rfl
  kind := rfl
  co := rfl
  gen := rfl
  clo := rfl
  glob := rfl
  blt := rfl
  code := hc
  pre := ⟨_, rfl⟩
  nd := by decide +kernel
  nm := by decide +kernel
  bind := fun vals hl => by
    obtain ⟨v0, rfl⟩ := vals1 hl
    rfl
theorem fok_7 (hc : h.CodeRec (.ref c') (nameAt 64)) : FnOk cf7 (fdAt 64 pm (.ref c')) (bodyAt 64) [("x" : Str)] h where
  body := rfl
  names := rfl
  kind := rfl
  co := rfl
  gen := rfl
  clo := rfl
  glob := rfl
  blt := rfl
  code := hc
  pre := ⟨_, rfl⟩
  nd := by decide +kernel
  nm := by decide +kernel
  bind := fun vals hl => by
    obtain ⟨v0, rfl⟩ := vals1 hl
    rfl
theorem fok_8 (hc : h.CodeRec (.ref c') (nameAt 65)) : FnOk cf8 (fdAt 65 pm (.ref c')) (bodyAt 65) [("x" : Str)] h where
  body := rfl
  names := rfl
  kind := rfl
  co := rfl
  gen := rfl
  clo := rfl
  glob := rfl
  blt := rfl
  code := hc
  pre := ⟨_, rfl⟩
  nd := by decide +kernel
  nm := by decide +kernel
  bind := fun vals hl => by
    obtain ⟨v0, rfl⟩ := vals1 hl
    rfl
theorem fok_9 (hc : h.CodeRec (.ref c') (nameAt 67)) : FnOk cf9 (fdAt 67 pm (.ref c')) (bodyAt 67) [("code" : Str)] h where
  body := rfl
  names := rfl
  kind := rfl
  co := rfl
  gen := rfl
  clo := rfl
  glob := rfl
  blt := rfl
  code := hc
  pre := ⟨_, rfl⟩
  nd := by decide +kernel
  nm := by decide +kernel
  bind := fun vals hl => by
    obtain ⟨v0, rfl⟩ := vals1 hl
    rfl
theorem fok_10 (hc : h.CodeRec (.ref c') (nameAt 68)) : FnOk cf10 (fdAt 68 pm (.ref c')) (bodyAt 68) [("codes" : Str), ("unseen" : Str)] h where
  body := rfl
  names := rfl
  kind := rfl
  co := rfl
  gen := rfl
  clo := rfl
  glob := rfl
  blt := rfl
  code := hc
  pre := ⟨_, rfl⟩
  nd := by decide +kernel
  nm := by decide +kernel
  bind := fun vals hl => by
    obtain ⟨v0, v1, rfl⟩ := vals2 hl
    rfl
theorem fok_11 (hc : h.CodeRec (.ref c') (nameAt 69)) : FnOk cf11 (fdAt 69 pm (.ref c')) (bodyAt 69) [("text" : Str)] h where
  body := rfl
  names := rfl
  kind := rfl
  co := rfl
  gen := rfl
  clo := rfl
  glob := rfl
  blt := rfl
  code := hc
  pre := ⟨_, rfl⟩
  nd := by decide +kernel
  nm := by decide +kernel
  bind := fun vals hl => by
    obtain ⟨v0, rfl⟩ := vals1 hl
    rfl
theorem fok_12 (hc : h.CodeRec (.ref c') (nameAt 70)) : FnOk cf12 (fdAt 70 pm (.ref c')) (bodyAt 70) [("symbols" : Str)] h where
  body := rfl
  names := rfl
  kind := rfl
  co := rfl
  gen := rfl
  clo := rfl
  glob := rfl
  blt := rfl
  code := hc
  pre := ⟨_, rfl⟩
  nd := by decide +kernel
  nm := by decide +kernel
  bind := fun vals hl => by
    obtain ⟨v0, rfl⟩ := vals1 hl
    rfl
theorem fok_13 (hc : h.CodeRec (.ref c') (nameAt 71)) : FnOk cf13 (fdAt 71 pm (.ref c')) (bodyAt 71) [("corner" : Str), ("share" : Str), ("value" : Str), ("relays" : Str)] h where
  body := rfl
  names := rfl
  kind := rfl
  co := rfl
  gen := rfl
  clo := rfl
  glob := rfl
  blt := rfl
  code := hc
  pre := ⟨_, rfl⟩
  nd := by decide +kernel
  nm := by decide +kernel
  bind := fun vals hl => by
    obtain ⟨v0, v1, v2, v3, rfl⟩ := vals4 hl
    rfl
theorem fok_14 (hc : h.CodeRec (.ref c') (nameAt 72)) : FnOk cf14 (fdAt 72 pm (.ref c')) (bodyAt 72) [("corner" : Str), ("share" : Str), ("value" : Str), ("relays" : Str)] h where
  body := rfl
  names := rfl
  kind := rfl
  co := rfl
  gen := rfl
  clo := rfl
  glob := rfl
  blt := rfl
  code := hc
  pre := ⟨_, rfl⟩
  nd := by decide +kernel
  nm := by decide +kernel
  bind := fun vals hl => by
    obtain ⟨v0, v1, v2, v3, rfl⟩ := vals4 hl
    rfl
theorem fok_15 (hc : h.CodeRec (.ref c') (nameAt 73)) : FnOk cf15 (fdAt 73 pm (.ref c')) (bodyAt 73) [("figures" : Str), ("turn" : Str), ("relays" : Str)] h where
  body := rfl
  names := rfl
  kind := rfl
  co := rfl
  gen := rfl
  clo := rfl
  glob := rfl
  blt := rfl
  code := hc
  pre := ⟨_, rfl⟩
  nd := by decide +kernel
  nm := by decide +kernel
  bind := fun vals hl => by
    obtain ⟨v0, v1, v2, rfl⟩ := vals3 hl
    rfl
theorem fok_16 (hc : h.CodeRec (.ref c') (nameAt 74)) : FnOk cf16 (fdAt 74 pm (.ref c')) (bodyAt 74) [("spots" : Str), ("statements" : Str)] h where
  body := rfl
  names := rfl
  kind := rfl
  co := rfl
  gen := rfl
  clo := rfl
  glob := rfl
  blt := rfl
  code := hc
  pre := ⟨_, rfl⟩
  nd := by decide +kernel
  nm := by decide +kernel
  bind := fun vals hl => by
    obtain ⟨v0, v1, rfl⟩ := vals2 hl
    rfl
theorem fok_17 (hc : h.CodeRec (.ref c') (nameAt 75)) : FnOk cf17 (fdAt 75 pm (.ref c')) (bodyAt 75) [("lamps" : Str), ("seen" : Str), ("statements" : Str)] h where
  body := rfl
  names := rfl
  kind := rfl
  co := rfl
  gen := rfl
  clo := rfl
  glob := rfl
  blt := rfl
  code := hc
  pre := ⟨_, rfl⟩
  nd := by decide +kernel
  nm := by decide +kernel
  bind := fun vals hl => by
    obtain ⟨v0, v1, v2, rfl⟩ := vals3 hl
    rfl
theorem fok_18 (hc : h.CodeRec (.ref c') (nameAt 76)) : FnOk cf18 (fdAt 76 pm (.ref c')) (bodyAt 76) [("drawn" : Str)] h where
  body := rfl
  names := rfl
  kind := rfl
  co := rfl
  gen := rfl
  clo := rfl
  glob := rfl
  blt := rfl
  code := hc
  pre := ⟨_, rfl⟩
  nd := by decide +kernel
  nm := by decide +kernel
  bind := fun vals hl => by
    obtain ⟨v0, rfl⟩ := vals1 hl
    rfl
theorem fok_19 (hc : h.CodeRec (.ref c') (nameAt 77)) : FnOk cf19 (fdAt 77 pm (.ref c')) (bodyAt 77) [("heads" : Str), ("drawn" : Str)] h where
  body := rfl
  names := rfl
  kind := rfl
  co := rfl
  gen := rfl
  clo := rfl
  glob := rfl
  blt := rfl
  code := hc
  pre := ⟨_, rfl⟩
  nd := by decide +kernel
  nm := by decide +kernel
  bind := fun vals hl => by
    obtain ⟨v0, v1, rfl⟩ := vals2 hl
    rfl
theorem fok_20 (hc : h.CodeRec (.ref c') (nameAt 78)) : FnOk cf20 (fdAt 78 pm (.ref c')) (bodyAt 78) [("script" : Str)] h where
  body := rfl
  names := rfl
  kind := rfl
  co := rfl
  gen := rfl
  clo := rfl
  glob := rfl
  blt := rfl
  code := hc
  pre := ⟨_, rfl⟩
  nd := by decide +kernel
  nm := by decide +kernel
  bind := fun vals hl => by
    obtain ⟨v0, rfl⟩ := vals1 hl
    rfl
end
noncomputable def ixOf : List Nat := [1, 2, 3, 4, 7, 9, 11, 64, 65, 67, 68, 69, 70, 71, 72, 73, 74, 75, 76, 77, 78]
noncomputable def FnAt (K : KM) (k : Nat) (v : Value) : Prop := ∃ a o pm c', v = .ref a ∧ K a = some o ∧ o.data = .func (fdAt k pm (.ref c')) ∧ ∀ h, Kn K h → h.CodeRec (.ref c') (nameAt k)
section
variable (prog : Program) (w : World)
/-- what the top leaves -/
structure Left (K : KM) (h : Heap) : Prop where
  ex : ∃ mg mb, h.Ns mainGlobals mg ∧ h.Ns builtinsNs mb ∧
    (∀ (i : Nat) (x : Str) (d : D), gcs[i]? = some (x, d) → ∃ v, mg x = some v ∧ Rep prog w K d v) ∧
    (∀ b : BI, mg b.name = none ∧ mb b.name = some b.val) ∧ (mg "range" = none ∧ mb "range" = some (.type "range")) ∧
    (∀ (i : Nat) (x : Str) (k : Nat), fnNames[i]? = some x → ixOf[i]? = some k → ∃ v, mg x = some v ∧ FnAt K k v)
  noLimit : h.NoLimit
  sm : ∃ o, h.get? sysModules = some o
  kn : Kn K h
end
section
variable {prog : Program} {w : World} {K : KM} {h : Heap}
theorem Left.gb (L : Left prog w K h) (orc : Nat → List D → Option D) (n : Nat)
    (spec : ∀ (i k : Nat) (a : Addr) (o : Obj) (pm : Value) (c' : Addr), ixOf[i]? = some k → h.get? a = some o → o.data = .func (fdAt k pm (.ref c')) → h.CodeRec (.ref c') (nameAt k) → FnSpec prog w ⟨gcs, fnNames, orc⟩ n K i a h) : GB prog w ⟨gcs, fnNames, orc⟩ n K h := by
  obtain ⟨mg, mb, h1, h2, h3, h4, h5, h6⟩ := L.ex
  refine ⟨⟨mg, mb, h1, h2, h3, h4, h5, fun i x hx => ?_⟩, L.noLimit, L.sm⟩
  have hi : i < 21 := by
    have := (List.getElem?_eq_some_iff.mp hx).1
    exact this
  obtain ⟨k, hk⟩ : ∃ k, ixOf[i]? = some k := ⟨ixOf[i]'hi, List.getElem?_eq_getElem _⟩
  obtain ⟨v, hv, a, o, pm, c', rfl, e1, e2, e3⟩ := h6 i x k hx hk
  exact ⟨a, o, _, K, hv, L.kn _ _ e1, e2, .refl K, spec i k a o pm c' hk (L.kn _ _ e1) e2 (e3 h L.kn)⟩
theorem FnSpec.vacuous {P : Prg} {n i : Nat} {a : Addr} (e : ∀ ds, P.orc i ds = none) : FnSpec prog w P n K i a h := fun ds r q => by rw [e ds] at q; cases q
theorem FnSpec.up {P P' : Prg} {n i : Nat} {a : Addr} (x : FnSpec prog w P n K i a h) (e : ∀ ds, P'.orc i ds = P.orc i ds) : FnSpec prog w P' (n + 1) K i a h :=
  fun ds r q A s vs K' k l kn R rs => x ds r ((e ds).symm.trans q) A s vs K' k l kn R.less rs
theorem fn_spec {P P' : Prg} {n i : Nat} {c : Cx} {ms : List MS} {body : List Stmt} (T : TrSs P c ms body) {fd : FuncData} {a : Addr} {o : Obj} {params : List Str}
    (F : FnOk c fd body params h) (ho : h.get? a = some o) (hd : o.data = .func fd) (gb : GB prog w P n K h) (e : ∀ ds, P'.orc i ds = runF P c ms params.length ds) : FnSpec prog w P' (n + 1) K i a h := by
  intro ds r q A s vs K' k l kn R rs
  rw [e ds] at q
  unfold runF at q
  split at q
  · rename_i hlen
    split at q
    · rename_i r' hex; cases q
      exact fn_sound T F ho hd gb hlen hex A s vs K' k l kn R rs
    · cases q
  · cases q
theorem gb0 (L : Left prog w K h) : GB prog w P0 0 K h := L.gb orc0 0 fun i k a o pm c' _ _ _ _ => FnSpec.vacuous fun _ => rfl
theorem sp1 (L : Left prog w K h) (i k : Nat) (a : Addr) (o : Obj) (pm : Value) (c' : Addr) (hk : ixOf[i]? = some k) (ho : h.get? a = some o) (hd : o.data = .func (fdAt k pm (.ref c'))) (hc : h.CodeRec (.ref c') (nameAt k)) : FnSpec prog w P1 1 K i a h := by
  match i, hk with
  | 0, hk =>
    have hk : some 1 = some k := hk
    cases hk
    exact fn_spec (tr_f0 orc0) (fok_0 hc) ho hd (gb0 L) (fun _ => rfl)
  | 1, hk =>
    have hk : some 2 = some k := hk
    cases hk
    exact fn_spec (tr_f1 orc0) (fok_1 hc) ho hd (gb0 L) (fun _ => rfl)
  | 2, hk =>
    have hk : some 3 = some k := hk
    cases hk
    exact fn_spec (tr_f2 orc0) (fok_2 hc) ho hd (gb0 L) (fun _ => rfl)
  | 3, hk =>
    have hk : some 4 = some k := hk
    cases hk
    exact fn_spec (tr_f3 orc0) (fok_3 hc) ho hd (gb0 L) (fun _ => rfl)
  | 4, hk =>
    have hk : some 7 = some k := hk
    cases hk
    exact fn_spec (tr_f4 orc0) (fok_4 hc) ho hd (gb0 L) (fun _ => rfl)
  | 5, hk =>
    have hk : some 9 = some k := hk
    cases hk
    exact fn_spec (tr_f5 orc0) (fok_5 hc) ho hd (gb0 L) (fun _ => rfl)
  | 6, hk =>
    have hk : some 11 = some k := hk
    cases hk
    exact fn_spec (tr_f6 orc0) (fok_6 hc) ho hd (gb0 L) (fun _ => rfl)
  | 7, hk =>
    have hk : some 64 = some k := hk
    cases hk
    exact fn_spec (tr_f7 orc0) (fok_7 hc) ho hd (gb0 L) (fun _ => rfl)
  | 8, hk =>
    have hk : some 65 = some k := hk
    cases hk
    exact fn_spec (tr_f8 orc0) (fok_8 hc) ho hd (gb0 L) (fun _ => rfl)
  | 9, hk =>
    have hk : some 67 = some k := hk
    cases hk
    exact fn_spec (tr_f9 orc0) (fok_9 hc) ho hd (gb0 L) (fun _ => rfl)
  | 10, hk =>
    have hk : some 68 = some k := hk
    cases hk
    exact FnSpec.vacuous fun _ => rfl
  | 11, hk =>
    have hk : some 69 = some k := hk
    cases hk
    exact FnSpec.vacuous fun _ => rfl
  | 12, hk =>
    have hk : some 70 = some k := hk
    cases hk
    exact FnSpec.vacuous fun _ => rfl
  | 13, hk =>
    have hk : some 71 = some k := hk
    cases hk
    exact FnSpec.vacuous fun _ => rfl
  | 14, hk =>
    have hk : some 72 = some k := hk
    cases hk
    exact fn_spec (tr_f14 orc0) (fok_14 hc) ho hd (gb0 L) (fun _ => rfl)
  | 15, hk =>
    have hk : some 73 = some k := hk
    cases hk
    exact FnSpec.vacuous fun _ => rfl
  | 16, hk =>
    have hk : some 74 = some k := hk
    cases hk
    exact fn_spec (tr_f16 orc0) (fok_16 hc) ho hd (gb0 L) (fun _ => rfl)
  | 17, hk =>
    have hk : some 75 = some k := hk
    cases hk
    exact FnSpec.vacuous fun _ => rfl
  | 18, hk =>
    have hk : some 76 = some k := hk
    cases hk
    exact fn_spec (tr_f18 orc0) (fok_18 hc) ho hd (gb0 L) (fun _ => rfl)
  | 19, hk =>
    have hk : some 77 = some k := hk
    cases hk
    exact fn_spec (tr_f19 orc0) (fok_19 hc) ho hd (gb0 L) (fun _ => rfl)
  | 20, hk =>
    have hk : some 78 = some k := hk
    cases hk
    exact FnSpec.vacuous fun _ => rfl
  | n + 21, hk => exact absurd (List.getElem?_eq_some_iff.mp hk).1 (by show ¬ (n + 21 < 21); omega)
theorem gb1 (L : Left prog w K h) : GB prog w P1 1 K h := L.gb orc1 1 (sp1 L)
theorem sp2 (L : Left prog w K h) (i k : Nat) (a : Addr) (o : Obj) (pm : Value) (c' : Addr) (hk : ixOf[i]? = some k) (ho : h.get? a = some o) (hd : o.data = .func (fdAt k pm (.ref c'))) (hc : h.CodeRec (.ref c') (nameAt k)) : FnSpec prog w P2 2 K i a h := by
  match i, hk with
  | 0, hk =>
    have hk : some 1 = some k := hk
    cases hk
    exact (sp1 L 0 1 a o pm c' rfl ho hd hc).up (fun _ => rfl)
  | 1, hk =>
    have hk : some 2 = some k := hk
    cases hk
    exact (sp1 L 1 2 a o pm c' rfl ho hd hc).up (fun _ => rfl)
  | 2, hk =>
    have hk : some 3 = some k := hk
    cases hk
    exact (sp1 L 2 3 a o pm c' rfl ho hd hc).up (fun _ => rfl)
  | 3, hk =>
    have hk : some 4 = some k := hk
    cases hk
    exact (sp1 L 3 4 a o pm c' rfl ho hd hc).up (fun _ => rfl)
  | 4, hk =>
    have hk : some 7 = some k := hk
    cases hk
    exact (sp1 L 4 7 a o pm c' rfl ho hd hc).up (fun _ => rfl)
  | 5, hk =>
    have hk : some 9 = some k := hk
    cases hk
    exact (sp1 L 5 9 a o pm c' rfl ho hd hc).up (fun _ => rfl)
  | 6, hk =>
    have hk : some 11 = some k := hk
    cases hk
    exact (sp1 L 6 11 a o pm c' rfl ho hd hc).up (fun _ => rfl)
  | 7, hk =>
    have hk : some 64 = some k := hk
    cases hk
    exact (sp1 L 7 64 a o pm c' rfl ho hd hc).up (fun _ => rfl)
  | 8, hk =>
    have hk : some 65 = some k := hk
    cases hk
    exact (sp1 L 8 65 a o pm c' rfl ho hd hc).up (fun _ => rfl)
  | 9, hk =>
    have hk : some 67 = some k := hk
    cases hk
    exact (sp1 L 9 67 a o pm c' rfl ho hd hc).up (fun _ => rfl)
  | 10, hk =>
    have hk : some 68 = some k := hk
    cases hk
    exact fn_spec (tr_f10 orc1) (fok_10 hc) ho hd (gb1 L) (fun _ => rfl)
  | 11, hk =>
    have hk : some 69 = some k := hk
    cases hk
    exact fn_spec (tr_f11 orc1) (fok_11 hc) ho hd (gb1 L) (fun _ => rfl)
  | 12, hk =>
    have hk : some 70 = some k := hk
    cases hk
    exact fn_spec (tr_f12 orc1) (fok_12 hc) ho hd (gb1 L) (fun _ => rfl)
  | 13, hk =>
    have hk : some 71 = some k := hk
    cases hk
    exact fn_spec (tr_f13 orc1) (fok_13 hc) ho hd (gb1 L) (fun _ => rfl)
  | 14, hk =>
    have hk : some 72 = some k := hk
    cases hk
    exact (sp1 L 14 72 a o pm c' rfl ho hd hc).up (fun _ => rfl)
  | 15, hk =>
    have hk : some 73 = some k := hk
    cases hk
    exact FnSpec.vacuous fun _ => rfl
  | 16, hk =>
    have hk : some 74 = some k := hk
    cases hk
    exact (sp1 L 16 74 a o pm c' rfl ho hd hc).up (fun _ => rfl)
  | 17, hk =>
    have hk : some 75 = some k := hk
    cases hk
    exact fn_spec (tr_f17 orc1) (fok_17 hc) ho hd (gb1 L) (fun _ => rfl)
  | 18, hk =>
    have hk : some 76 = some k := hk
    cases hk
    exact (sp1 L 18 76 a o pm c' rfl ho hd hc).up (fun _ => rfl)
  | 19, hk =>
    have hk : some 77 = some k := hk
    cases hk
    exact (sp1 L 19 77 a o pm c' rfl ho hd hc).up (fun _ => rfl)
  | 20, hk =>
    have hk : some 78 = some k := hk
    cases hk
    exact FnSpec.vacuous fun _ => rfl
  | n + 21, hk => exact absurd (List.getElem?_eq_some_iff.mp hk).1 (by show ¬ (n + 21 < 21); omega)
theorem gb2 (L : Left prog w K h) : GB prog w P2 2 K h := L.gb orc2 2 (sp2 L)
theorem sp3 (L : Left prog w K h) (i k : Nat) (a : Addr) (o : Obj) (pm : Value) (c' : Addr) (hk : ixOf[i]? = some k) (ho : h.get? a = some o) (hd : o.data = .func (fdAt k pm (.ref c'))) (hc : h.CodeRec (.ref c') (nameAt k)) : FnSpec prog w P3 3 K i a h := by
  match i, hk with
  | 0, hk =>
    have hk : some 1 = some k := hk
    cases hk
    exact (sp2 L 0 1 a o pm c' rfl ho hd hc).up (fun _ => rfl)
  | 1, hk =>
    have hk : some 2 = some k := hk
    cases hk
    exact (sp2 L 1 2 a o pm c' rfl ho hd hc).up (fun _ => rfl)
  | 2, hk =>
    have hk : some 3 = some k := hk
    cases hk
    exact (sp2 L 2 3 a o pm c' rfl ho hd hc).up (fun _ => rfl)
  | 3, hk =>
    have hk : some 4 = some k := hk
    cases hk
    exact (sp2 L 3 4 a o pm c' rfl ho hd hc).up (fun _ => rfl)
  | 4, hk =>
    have hk : some 7 = some k := hk
    cases hk
    exact (sp2 L 4 7 a o pm c' rfl ho hd hc).up (fun _ => rfl)
  | 5, hk =>
    have hk : some 9 = some k := hk
    cases hk
    exact (sp2 L 5 9 a o pm c' rfl ho hd hc).up (fun _ => rfl)
  | 6, hk =>
    have hk : some 11 = some k := hk
    cases hk
    exact (sp2 L 6 11 a o pm c' rfl ho hd hc).up (fun _ => rfl)
  | 7, hk =>
    have hk : some 64 = some k := hk
    cases hk
    exact (sp2 L 7 64 a o pm c' rfl ho hd hc).up (fun _ => rfl)
  | 8, hk =>
    have hk : some 65 = some k := hk
    cases hk
    exact (sp2 L 8 65 a o pm c' rfl ho hd hc).up (fun _ => rfl)
  | 9, hk =>
    have hk : some 67 = some k := hk
    cases hk
    exact (sp2 L 9 67 a o pm c' rfl ho hd hc).up (fun _ => rfl)
  | 10, hk =>
    have hk : some 68 = some k := hk
    cases hk
    exact (sp2 L 10 68 a o pm c' rfl ho hd hc).up (fun _ => rfl)
  | 11, hk =>
    have hk : some 69 = some k := hk
    cases hk
    exact (sp2 L 11 69 a o pm c' rfl ho hd hc).up (fun _ => rfl)
  | 12, hk =>
    have hk : some 70 = some k := hk
    cases hk
    exact (sp2 L 12 70 a o pm c' rfl ho hd hc).up (fun _ => rfl)
  | 13, hk =>
    have hk : some 71 = some k := hk
    cases hk
    exact (sp2 L 13 71 a o pm c' rfl ho hd hc).up (fun _ => rfl)
  | 14, hk =>
    have hk : some 72 = some k := hk
    cases hk
    exact (sp2 L 14 72 a o pm c' rfl ho hd hc).up (fun _ => rfl)
  | 15, hk =>
    have hk : some 73 = some k := hk
    cases hk
    exact fn_spec (tr_f15 orc2) (fok_15 hc) ho hd (gb2 L) (fun _ => rfl)
  | 16, hk =>
    have hk : some 74 = some k := hk
    cases hk
    exact (sp2 L 16 74 a o pm c' rfl ho hd hc).up (fun _ => rfl)
  | 17, hk =>
    have hk : some 75 = some k := hk
    cases hk
    exact (sp2 L 17 75 a o pm c' rfl ho hd hc).up (fun _ => rfl)
  | 18, hk =>
    have hk : some 76 = some k := hk
    cases hk
    exact (sp2 L 18 76 a o pm c' rfl ho hd hc).up (fun _ => rfl)
  | 19, hk =>
    have hk : some 77 = some k := hk
    cases hk
    exact (sp2 L 19 77 a o pm c' rfl ho hd hc).up (fun _ => rfl)
  | 20, hk =>
    have hk : some 78 = some k := hk
    cases hk
    exact FnSpec.vacuous fun _ => rfl
  | n + 21, hk => exact absurd (List.getElem?_eq_some_iff.mp hk).1 (by show ¬ (n + 21 < 21); omega)
theorem gb3 (L : Left prog w K h) : GB prog w P3 3 K h := L.gb orc3 3 (sp3 L)
/-- a call of the law -/
theorem law_call (L : Left prog w K h) {a : Addr} {o : Obj} {pm : Value} {c' : Addr} (ho : h.get? a = some o) (hd : o.data = .func (fdAt 78 pm (.ref c'))) (hc : h.CodeRec (.ref c') (nameAt 78)) (script : List Int) (hl : script.length ≤ 63) :
    ∀ (A : Around) (s : Shared) (v : Value) (K' : KM), (∀ b o, h.get? b = some o → s.heap.get? b = some o) → Le K K' → Kn K' s.heap → Room 4 A → Rep prog w K' (.list (script.map .int)) v →
    wpAny (model prog w) A (call (.ref a) [v]) (Good prog w K' s (.bool true)) (fun _ _ => False) s := by
  intro A s v K' k l kn R r
  have e := law_true script hl
  unfold runF at e
  rw [if_pos (show [D.list (script.map D.int)].length = 1 from rfl)] at e
  split at e
  · rename_i r' hex; cases e
    exact fn_sound (tr_f20 orc3) (fok_20 hc) ho hd (gb3 L) (ds := [.list (script.map .int)]) rfl hex A s [v] K' k l kn R (.cons r .nil)
  · cases e
end
end Mine

namespace Mine
/-! M32: the top of the text, statement by statement -/
inductive Item where
  | fn (k : Nat) | dat (d : D) | any
noncomputable def flatT (ts : List (Nat × Nat × Addr)) : List Value := ts.flatMap fun t => [rawInt t.1, rawInt t.2.1, .ref t.2.2]
theorem among_none {pos : Pos} : ∀ {ts : List (Nat × Nat × Addr)}, (∀ t ∈ ts, t.1 < pos.line) → codeAmong pos (flatT ts) = none
  | [], _ => rfl
  | t :: ts, h => by
    have ih := among_none (pos := pos) (ts := ts) fun t ht => h t (by simp [ht])
    have h0 := h t (by simp)
    show (if ((t.1 : Int) == (pos.line : Int) && (t.2.1 : Int) == (pos.col : Int)) = true then some _ else codeAmong pos (flatT ts)) = none
    have : ((t.1 : Int) == (pos.line : Int)) = false := by rw [beq_eq_false_iff_ne]; omega
    rw [this, Bool.false_and, if_neg (by decide)]
    exact ih
section
variable (prog : Program) (w : World)
noncomputable def Item.ok (K : KM) : Item → Value → Prop
  | .fn k, v => FnAt K k v
  | .dat d, v => Rep prog w K d v
  | .any, _ => True
noncomputable def Binds (mg₀ mg : Str → Option Value) (K : KM) (bs : List (Str × Item)) : Prop := ∀ x, match bs.lookup x with
  | some it => ∃ v, mg x = some v ∧ it.ok prog w K v
  | none => mg x = mg₀ x
noncomputable def BFacts (mg₀ mb : Str → Option Value) : Prop :=
  (∀ b : BI, mg₀ b.name = none ∧ mb b.name = some b.val) ∧ (mg₀ "range" = none ∧ mb "range" = some (.type "range")) ∧ (mg₀ "list" = none ∧ mb "list" = some (.type "list"))
structure HS (s₀ : Shared) (mg₀ : Str → Option Value) (c Pl : Addr) (s : Shared) (K : KM) (L : Nat) (bs : List (Str × Item)) : Prop where
  same : ∃ h tk, s = { s₀ with heap := h, toks := tk }
  ex : ∃ mg ts, s.heap.Main mg c Pl (flatT ts).toArray ∧ (∀ t ∈ ts, t.1 < L) ∧ Binds prog w mg₀ mg K bs
  keep : ∀ b o, b ≠ Pl → b ≠ mainGlobals → s₀.heap.get? b = some o → s.heap.get? b = some o
  kn : Kn K s.heap
  kG : K mainGlobals = none
  kP : K Pl = none
  big : ∃ o, s₀.heap.get? sysModules = some o
  mP : sysModules ≠ Pl
  blt : ∃ mb, s₀.heap.Ns builtinsNs mb ∧ BFacts mg₀ mb
  bP : builtinsNs ≠ Pl
end
section
variable {prog : Program} {w : World}
theorem FnAt.mono {K K' : KM} (l : Le K K') {k : Nat} {v : Value} (x : FnAt K k v) : FnAt K' k v := by
  obtain ⟨a, o, pm, c', h1, h2, h3, h4⟩ := x
  exact ⟨a, o, pm, c', h1, l _ _ h2, h3, fun h kn => h4 h (kn.le l)⟩
theorem Item.mono {K K' : KM} (l : Le K K') {it : Item} {v : Value} (x : it.ok prog w K v) : it.ok prog w K' v := by
  cases it with
  | fn k => exact FnAt.mono l x
  | dat d => exact Rep.mono l x
  | any => trivial
theorem Binds.cons {mg₀ mg : Str → Option Value} {K K' : KM} {bs : List (Str × Item)} (B : Binds prog w mg₀ mg K bs) (l : Le K K') {x : Str} {v : Value} {it : Item} (hv : it.ok prog w K' v) :
    Binds prog w mg₀ (fun y => if y = x then some v else mg y) K' ((x, it) :: bs) := by
  intro y
  have := B y
  by_cases hy : y = x
  · subst hy
    simp only [List.lookup_cons, beq_self_eq_true, if_true]
    exact ⟨v, rfl, hv⟩
  · have hb : (y == x) = false := by simpa using hy
    simp only [List.lookup_cons, hb, if_neg hy]
    cases hl : bs.lookup y with
    | none => rw [hl] at this; exact this
    | some it' => rw [hl] at this; obtain ⟨u, h1, h2⟩ := this; exact ⟨u, h1, Item.mono l h2⟩
theorem main_keeps {h h' : Heap} {mg : Str → Option Value} {c Pl : Addr} {ps : Array Value} (X : h.Main mg c Pl ps) (hk : ∀ b o, h.get? b = some o → h'.get? b = some o) : h'.Main mg c Pl ps := by
  obtain ⟨bm, o, hbm, hne0, hneG, hneP, hbo, hrest⟩ := X.bmod
  exact ⟨X.g.keeps hk, X.code.keeps hk, X.low, ⟨bm, o, hbm, hne0, hneG, hneP, hk _ _ hbo, hrest⟩⟩

theorem isCode_parts {h : Heap} {c Pl : Addr} {ps : Array Value} (x : h.IsCode c Pl ps) : ∃ o, h.get? Pl = some o := by
  obtain ⟨oc, vs, file, tf, flags, tg, inF, text, tt, op, e1, r1, r2, r3, r4, r5, r6, e2, r⟩ := x
  exact ⟨_, e2⟩

noncomputable def Runs (prog : Program) (w : World) (s₀ : Shared) (mg₀ : Str → Option Value) (c Pl F : Addr) (L : Nat) (bs : List (Str × Item)) (ss : List Stmt) (bs' : List (Str × Item)) : Prop :=
  ∀ (A : Around) (s : Shared) (K : KM) (Q : Flow → Shared → Prop) (E : Value → Shared → Prop), A.handled = none → HS prog w s₀ mg₀ c Pl s K L bs → (∀ s' K' L', HS prog w s₀ mg₀ c Pl s' K' L' bs' → Q .next s') → wpAny (model prog w) A (execs ss (mainEnv prog c F)) Q E s

variable {s₀ : Shared} {mg₀ : Str → Option Value} {c Pl F : Addr} {bs bs' : List (Str × Item)}
theorem runs_nil {L : Nat} : Runs prog w s₀ mg₀ c Pl F L bs [] bs := fun A s K Q E _ X h => wpAny_execs_nil (h s K L X)
theorem runs_val {L : Nat} {x : Str} {p' p : Pos} {value : Expr} {it : Item} {rest : List Stmt} (hmod : prog.main.scope.kind = .module) (hloc : prog.main.scope.names.lookup x = some .local) (hnb : x ≠ "__builtins__")
    (hs : swapsWith value (some (.Name x p')) p.line (mainEnv prog c F) = pure false)
    (hval : ∀ (A : Around) (s : Shared) (K : KM) (E : Value → Shared → Prop), A.handled = none → HS prog w s₀ mg₀ c Pl s K L bs → wpAny (model prog w) A (eval value (mainEnv prog c F)) (fun v s' => ∃ K', Ext K s K' s' ∧ it.ok prog w K' v) E s)
    (hr : Runs prog w s₀ mg₀ c Pl F L ((x, it) :: bs) rest bs') : Runs prog w s₀ mg₀ c Pl F L bs (.Assign [.Name x p'] value p :: rest) bs' := fun A s K Q E hh X h => by
  refine wpAny_execs_cons (wpAny_Assign_Name (wpAny_mono (hval A s K E hh X) (fun v s₁ h₁ => ?_) fun _ _ e => e) hs)
  obtain ⟨K', x₁, hv⟩ := h₁
  obtain ⟨mg, ts, hm, hts, hB⟩ := X.ex
  have hm₁ := main_keeps hm (Keeps.heap x₁.keeps)
  refine wpAny_storeName_local (env := mainEnv prog c F) hloc hm₁.g (fun h' hg' hs' => ?_)
    (by show (prog.main.scope.kind == .class || (prog.main.scope.kind == .module && mainGlobals != mainGlobals)) = false; rw [hmod]; rfl)
  obtain ⟨bm, o, hbm, hne0, hneG, hneP, hbo, hrest⟩ := hm₁.bmod
  obtain ⟨h₀, t₀, e₀⟩ := X.same
  obtain ⟨h₁, t₁, e₁, k₁⟩ := x₁.keeps
  have kG : K' mainGlobals = none := x₁.off X.kG hm.g.choose_spec.choose_spec.choose_spec.1
  have kP : K' Pl = none := by
    obtain ⟨op, hop⟩ := isCode_parts hm.code
    exact x₁.off X.kP hop
  have up : ∀ b o, b ≠ Pl → b ≠ mainGlobals → s₀.heap.get? b = some o → h'.get? b = some o := fun b o hP hG e => (hs'.2 _ hG).trans (Keeps.heap x₁.keeps b o (X.keep b o hP hG e))
  refine hr A _ K' Q E hh ⟨⟨h', _, by rw [e₁, e₀]⟩, ⟨fun y => if y = x then some v else mg y, ts, ?_, hts, hB.cons x₁.le hv⟩, up, ?_, kG, kP, X.big, X.mP, X.blt, X.bP⟩ h
  · exact ⟨hg', hm₁.code.sameBut hs' (Nat.ne_of_gt hm₁.low.1) (Nat.ne_of_gt hm₁.low.2), hm₁.low,
      ⟨bm, o, by simp only [Ne.symm hnb, if_false]; exact hbm, hne0, hneG, hneP, (hs'.2 _ hneG).trans hbo, hrest⟩⟩
  · exact fun b o e => (hs'.2 b (fun q => by have q : b = mainGlobals := q; rw [q, kG] at e; cases e)).trans (x₁.kn b o e)
theorem runs_def {L k : Nat} {name : Str} {params : Arguments} {body : List Stmt} {scope : Scope} {pos : Pos} {rest : List Stmt} (hmod : prog.main.scope.kind = .module)
    (hexec : PlainDefTree name params body scope pos) (hfree : ∀ x ∈ scope.names, x.2 ≠ .free) (hdoc : docOf body = none)
    (hloc : prog.main.scope.names.lookup name = some .local) (hq : qualnameIn { scope := prog.main.scope, locals := mainGlobals, globals := mainGlobals, cells := [] } name name = name)
    (hnb : name ≠ "__builtins__") (hL : L ≤ pos.line) (hat : (nameAt k, paramsAt k, bodyAt k, fscopeAt k) = (name, params, body, scope))
    (hr : Runs prog w s₀ mg₀ c Pl F (pos.line + 1) ((name, .fn k) :: bs) rest bs') : Runs prog w s₀ mg₀ c Pl F L bs (.FunctionDef name params body [] none [] scope none name pos :: rest) bs' := fun A s K Q E hh X h => by
  obtain ⟨mg, ts, hm, hts, hB⟩ := X.ex
  refine wpAny_execs_cons (wpAny_plainDefN hexec hfree hdoc hloc hq hm (fun a c' h' tk ha hm' hf hcd _ keep => ?_) hnb hmod (by
    exact among_none fun t ht => Nat.lt_of_lt_of_le (hts t ht) hL))
  obtain ⟨hc', hcode⟩ := hcd
  have hkP : ∀ b, s.heap.objs.size ≤ b → b ≠ Pl := fun b hb => by
    obtain ⟨op, hop⟩ := isCode_parts hm.code
    exact Nat.ne_of_gt (Nat.lt_of_lt_of_le (Heap.lt_size hop) hb)
  have hkG : ∀ b, s.heap.objs.size ≤ b → b ≠ mainGlobals := fun b hb => Nat.ne_of_gt (Nat.lt_of_lt_of_le hm.g.lt hb)
  have hK : ∀ b, s.heap.objs.size ≤ b → K b = none := fun b hb => X.kn.none_size hb
  have l : Le K (fun b => if b = a ∨ b = c' then h'.get? b else K b) := fun b o e => by
    dsimp only
    rw [if_neg (fun q => by rcases q with q | q <;> rw [q] at e; (rw [hK a ha] at e; cases e); (rw [hK c' hc'] at e; cases e))]
    exact e
  have kn' : Kn (fun b => if b = a ∨ b = c' then h'.get? b else K b) h' := fun b o e => by
    dsimp only at e
    split at e
    · exact e
    · exact keep b o (fun q => by rw [q, X.kP] at e; cases e) (fun q => by rw [q, X.kG] at e; cases e) (X.kn b o e)
  have fa : FnAt (fun b => if b = a ∨ b = c' then h'.get? b else K b) k (.ref a) := by
    refine ⟨a, _, (mg "__name__").getD .none, c', rfl, by dsimp only; rw [if_pos (.inl rfl)]; exact hf, ?_, fun h'' kh => ?_⟩
    · have e1 := congrArg (·.1) hat
      have e2 := congrArg (·.2.1) hat
      have e3 := congrArg (·.2.2.1) hat
      have e4 := congrArg (·.2.2.2) hat
      simp only at e1 e2 e3 e4
      unfold fdAt
      rw [e1, e2, e3, e4]
    · have e1 := congrArg (·.1) hat
      simp only at e1
      rw [e1]
      exact hcode.at fun o e => kh c' o (by dsimp only; rw [if_pos (.inr rfl)]; exact e)
  obtain ⟨h₀, t₀, e₀⟩ := X.same
  refine hr A _ _ Q E hh ⟨⟨h', tk, by rw [e₀]⟩, ⟨_, ts ++ [(pos.line, pos.col, c')], ?_, ?_, hB.cons l (it := .fn k) fa⟩, fun b o hP hG e => keep b o hP hG (X.keep b o hP hG e), kn', ?_, ?_, X.big, X.mP, X.blt, X.bP⟩ h
  · have : (flatT (ts ++ [(pos.line, pos.col, c')])).toArray = (flatT ts).toArray ++ #[rawInt pos.line, rawInt pos.col, .ref c'] := by
      unfold flatT; simp
    rw [this]; exact hm'
  · intro t ht
    rcases List.mem_append.mp ht with ht | ht
    · have := hts t ht; omega
    · simp only [List.mem_cons, List.not_mem_nil, or_false] at ht; subst ht; exact Nat.lt_succ_self _
  · rw [if_neg (fun q => by rcases q with q | q; exact hkG a ha q.symm; exact hkG c' hc' q.symm)]; exact X.kG
  · rw [if_neg (fun q => by rcases q with q | q; exact hkP a ha q.symm; exact hkP c' hc' q.symm)]; exact X.kP
end
end Mine

namespace Mine
/-! M33: long displays of dicts -/
section
variable {prog : Program} {w : World} {T : Type} [DecidableEq T] {knd : PySem.KeyKind prog w T} {A : Around} {E : Value → Shared → Prop} {s : Shared}
theorem findIdx_new {kvs : List (T × Value)} {k : T} (h : k ∉ kvs.map (·.1)) : (kvs.findIdx? fun kv => decide (kv.1 = k)) = none := by
  rw [List.findIdx?_eq_none_iff]
  intro kv hkv
  rw [decide_eq_false_iff_not]
  exact fun e => h (List.mem_map.mpr ⟨kv, hkv, e⟩)
theorem put_new {d : Addr} {kvs : List (T × Value)} {k : T} {key v : Value} {Q : Unit → Shared → Prop} (hkey : knd.is k key = true) (hm : s.heap.DictOf knd d kvs) (hnew : k ∉ kvs.map (·.1)) (hsz : kvs.length ≤ sizeLine)
    (hQ : ∀ h', h'.DictOf knd d (kvs ++ [(k, v)]) → Heap.SameBut d s.heap h' → Q () { s with heap := h' }) : wpAny (model prog w) A (dictPut d (knd.hash k) key v) Q E s := by
  obtain ⟨o, es, ep, ho, hc, hd, hk, hp, hn⟩ := hm
  have hes : es.size ≤ sizeLine := by
    have e1 := hp.length
    have e2 : es.toList.length = es.size := by simp
    omega
  have hidx : (es.findIdx? fun e => knd.is k e.key) = none := by
    have := hp.findIdx k
    rw [findIdx_new hnew] at this
    obtain ⟨l⟩ := es
    simpa using this
  unfold dictPut
  refine wpAny_bind (wpAny_dictFind_of hkey ho hd hk ?_)
  rw [hidx]
  refine wpAny_updateDictKeys (hz := hes) ho hd (hQ _ ⟨_, _, ep + 1, Heap.get?_update_self _ ho (Obj.isFreed_of_dict (Obj.data_mapDictKeys hd _)), hc.mapDictKeys _, Obj.data_mapDictKeys hd _, hk.push hkey _, ?_, ?_⟩ (Heap.SameBut.update ..))
  · have := hp.append hkey (knd.hash k) v
    obtain ⟨l⟩ := es
    simpa using this
  · rw [List.map_append]
    refine List.nodup_append.mpr ⟨hn, by simp, ?_⟩
    intro a ha b hb
    simp only [List.map_cons, List.map_nil, List.mem_singleton] at hb
    subst hb
    exact fun e => hnew (e ▸ ha)
theorem merge_new {d o : Addr} {kvs more : List (T × Value)} {Q : Unit → Shared → Prop} (hdo : d ≠ o) (hoS : (o == sysModules) = false) (hne : kvs ≠ [])
    (hd : s.heap.DictOf knd d kvs) (ho : s.heap.DictOf knd o more) (hnd : ((kvs ++ more).map (·.1)).Nodup) (hsz : kvs.length + more.length ≤ sizeLine)
    (hQ : ∀ h', h'.DictOf knd d (kvs ++ more) → Heap.SameBut d s.heap h' → Q () { s with heap := h' }) : wpAny (model prog w) A (mergeMapping d (.ref o) false) Q E s := by
  obtain ⟨od, esd, epd, hod, hcd, hdd, hkd, hpd, hndd⟩ := id hd
  obtain ⟨oo, eso, epo, hoo, hco, hdo', hko, hpo, hno⟩ := id ho
  have hlen : more.length = eso.size := by rw [← hpo.length]; simp
  unfold mergeMapping
  refine wpAny_bind (wpAny_isInstance ho.typeIs isSubtype_dict_dict ?_)
  simp only [if_true]
  refine wpAny_bind (wpAny_specialOf ho.typeIs F.slot_dict_iter.lookup (wpAny_bind (wpAny_pure ?_)))
  have hb : ((some (Value.builtin "dict.__iter__") : Option Value) == some (Value.builtin "dict.__iter__")) = true := by decide
  rw [hb]
  dsimp only
  rw [hoS]
  simp only [Bool.false_eq_true, if_false]
  refine wpAny_bind (wpAny_dictEntries hod hdd ?_)
  have hemp : esd.isEmpty = false := by
    cases q : esd.isEmpty with
    | false => rfl
    | true =>
      have h0 : esd = #[] := Array.isEmpty_iff.mp q
      have := hpd.length; rw [h0] at this
      exact absurd (List.length_eq_zero_iff.mp (by simpa using this.symm)) hne
  rw [hemp]
  simp only [Bool.false_eq_true, if_false]
  refine wpAny_bind (wpAny_dictEntries hoo hdo' ?_)
  refine wpAny_bind (wpAny_dictEpoch hoo hdo' ?_)
  refine wpAny_bind ?_
  refine wpAny_forIn_list _ (fun rest _ s' => ∃ h' i, s' = { s with heap := h' } ∧ rest = List.range' i (eso.size - i) ∧ i ≤ eso.size ∧ h'.DictOf knd d (kvs ++ more.take i) ∧ h'.get? o = some oo ∧ Heap.SameBut d s.heap h') _ ?_ ?_ _ _
    ⟨s.heap, 0, rfl, by rw [List.range_eq_range']; simp, Nat.zero_le _, by simpa using hd, hoo, Heap.SameBut.refl _ _⟩
  · rintro x rest b s' ⟨h', i, rfl, hr, hi, hd', hoo', hs'⟩
    have hlt : i < eso.size := by
      rcases Nat.lt_or_ge i eso.size with h | h
      · exact h
      · rw [Nat.sub_eq_zero_of_le h] at hr; simp at hr
    obtain ⟨rfl, hrest⟩ : x = i ∧ rest = List.range' (i + 1) (eso.size - (i + 1)) := by
      have e : eso.size - i = (eso.size - (i + 1)) + 1 := by omega
      rw [e, List.range'_succ] at hr
      injection hr with h1 h2
      exact ⟨h1, h2⟩
    refine wpAny_bind (wpAny_dictEntries hoo' hdo' ?_)
    rw [Array.getElem?_eq_getElem hlt]
    obtain ⟨kv, hkv⟩ : ∃ kv, more[x]? = some kv := ⟨more[x]'(by rw [hlen]; exact hlt), List.getElem?_eq_getElem _⟩
    obtain ⟨k, v⟩ := kv
    obtain ⟨hkey, hval⟩ := hpo.get? (e := eso[x]) (by simp [hlt]) hkv
    obtain ⟨k', hkey', hhash⟩ := hko eso[x] (Array.getElem_mem hlt)
    obtain rfl : k' = k := knd.inj _ _ _ hkey' hkey
    have hnew : k' ∉ (kvs ++ more.take x).map (·.1) := by
      intro hm
      have split : kvs ++ more = (kvs ++ more.take x) ++ (k', v) :: more.drop (x + 1) := by
        have : more = more.take x ++ (k', v) :: more.drop (x + 1) := by
          have h1 : x < more.length := by omega
          have h2 : more[x] = (k', v) := by rw [List.getElem?_eq_getElem h1] at hkv; exact Option.some.inj hkv
          rw [← h2, ← List.drop_eq_getElem_cons h1, List.take_append_drop]
        rw [List.append_assoc, ← this]
      rw [split, List.map_append, List.map_cons] at hnd
      have := (List.nodup_append.mp hnd).2.2 k' hm k' (by simp)
      exact this rfl
    have hsz' : (kvs ++ more.take x).length ≤ sizeLine := by rw [List.length_append, List.length_take]; omega
    show wpAny _ _ (holding [eso[x].key, eso[x].val] (dictPut d eso[x].hash eso[x].key eso[x].val) >>= _) _ _ _
    rw [hhash, hval]
    refine wpAny_bind (wpAny_holding (put_new hkey hd' hnew hsz' fun h'' hd'' hs'' => ?_))
    have hoo'' : h''.get? o = some oo := (hs''.2 o (Ne.symm hdo)).trans hoo'
    refine wpAny_bind (wpAny_dictEpoch hoo'' hdo' ?_)
    simp only [bne_self_eq_false, Bool.false_eq_true, if_false]
    refine wpAny_pure ⟨h'', x + 1, rfl, hrest, hlt, ?_, hoo'', hs'.trans hs''⟩
    have : more.take (x + 1) = more.take x ++ [(k', v)] := by rw [List.take_add_one, hkv]; rfl
    rw [this, ← List.append_assoc]; exact hd''
  · rintro b s' ⟨h', i, rfl, hr, hi, hd', hoo', hs'⟩
    have hin : i = eso.size := by
      rcases Nat.lt_or_ge i eso.size with h | h
      · have e : eso.size - i = (eso.size - (i + 1)) + 1 := by omega
        rw [e, List.range'_succ] at hr; exact nomatch hr
      · exact Nat.le_antisymm hi h
    refine wpAny_pure (hQ h' ?_ hs')
    rw [hin, ← hlen, List.take_length] at hd'; exact hd'
end
end Mine

namespace Mine
/-! M34: displays -/
noncomputable def Up (H h : Heap) : Prop := ∀ b o, H.get? b = some o → h.get? b = some o
section
variable {prog : Program} {w : World} {T : Type} [DecidableEq T] (knd : PySem.KeyKind prog w T)
noncomputable def PureE (prog : Program) (w : World) (H : Heap) (x : Sem Value) (P : Value → Prop) : Prop :=
  ∀ (A : Around) (s : Shared) (E : Value → Shared → Prop) (Q : Value → Shared → Prop), Up H s.heap → (∀ v tk, P v → Q v { s with toks := tk }) → wpAny (model prog w) A x Q E s
noncomputable def PairOk (H : Heap) (p : Sem Value × Sem Value) (e : T × (Value → Prop)) : Prop := PureE prog w H p.1 (fun v => knd.is e.1 v = true) ∧ PureE prog w H p.2 e.2
end
noncomputable def Fits {T : Type} (es : List (T × (Value → Prop))) (kvs : List (T × Value)) : Prop := All2 (fun e kv => kv.1 = e.1 ∧ e.2 kv.2) es kvs
theorem Fits.keys {T : Type} {es : List (T × (Value → Prop))} {kvs : List (T × Value)} (h : Fits es kvs) : kvs.map (·.1) = es.map (·.1) := by
  unfold Fits at h
  induction h with
  | nil => rfl
  | cons r _ ih => simp only [List.map_cons, r.1, ih]
theorem Fits.length {T : Type} {es : List (T × (Value → Prop))} {kvs : List (T × Value)} (h : Fits es kvs) : kvs.length = es.length := (All2.length h).symm
theorem Fits.append {T : Type} {es es' : List (T × (Value → Prop))} {kvs kvs' : List (T × Value)} (h : Fits es kvs) (h' : Fits es' kvs') : Fits (es ++ es') (kvs ++ kvs') := by
  unfold Fits at h
  induction h with
  | nil => exact h'
  | cons r _ ih => exact .cons r ih
section
variable {prog : Program} {w : World} {T : Type} [DecidableEq T] {knd : PySem.KeyKind prog w T} {A : Around} {E : Value → Shared → Prop} {H : Heap}
theorem pairs_eval : ∀ {ps : List (Sem Value × Sem Value)} {es : List (T × (Value → Prop))}, All2 (PairOk knd H) ps es → ∀ {s : Shared} {Q : List (Value × Value) → Shared → Prop}, Up H s.heap →
    (∀ vs kvs tk, Carries knd vs kvs → Fits es kvs → Q vs { s with toks := tk }) → wpAny (model prog w) A (evalPairs ps) Q E s
  | _, _, .nil, s, Q, _, hQ => evalPairs_nil (hQ [] [] s.toks trivial .nil)
  | _, _, .cons (b := e) ⟨h1, h2⟩ hs, s, Q, hH, hQ => by
    refine evalPairs_cons (h1 A s E _ hH fun v tk hv => h2 A _ E _ hH fun u tk' hu => ?_)
    refine pairs_eval hs hH fun vs kvs tk'' hc hf => ?_
    exact hQ ((v, u) :: vs) ((e.1, u) :: kvs) tk'' ⟨hv, rfl, hc⟩ (.cons ⟨rfl, hu⟩ hf)
theorem stored_new {kvs : List (T × Value)} {k : T} {v : Value} (h : k ∉ kvs.map (·.1)) : stored kvs k v = kvs ++ [(k, v)] := by
  unfold stored
  rw [if_neg]
  rw [List.any_eq_true]
  rintro ⟨kv, hkv, e⟩
  exact h (List.mem_map.mpr ⟨kv, hkv, of_decide_eq_true e⟩)
theorem sub_dict {ps : List (Sem Value × Sem Value)} {es : List (T × (Value → Prop))} (hp : All2 (PairOk knd H) ps es) (hlen : ps.length ≤ 100) (hnd : (es.map (·.1)).Nodup) {s : Shared} {Q : Addr → Shared → Prop} (hH : Up H s.heap)
    (hQ : ∀ h' tk kvs, Fits es kvs → h'.DictOf knd s.heap.objs.size kvs → Up s.heap h' → Q s.heap.objs.size { s with heap := h', toks := tk }) : wpAny (model prog w) A (subDict ps) Q E s := by
  have hl := hp.length
  by_cases h15 : ps.length ≤ 15
  · refine wpAny_subDict (knd := knd) h15 (pairs_eval hp (s := { s with heap := s.heap.push { cls := .type "dict", data := .dict #[] } }) (fun b o e => Heap.get?_push_of_some _ (hH b o e)) fun vs kvs tk hc hf => ?_)
    refine ⟨kvs, hc, Heap.DictOf.new _, fun h' hd hs => ?_⟩
    rw [merged_nil_of_nodup _ (by rw [hf.keys]; exact hnd)] at hd
    exact hQ h' _ kvs hf hd fun b o e => hs.extBut b o (Nat.ne_of_lt (Heap.lt_size e)) (Heap.get?_push_of_some _ e)
  · unfold subDict
    refine wpAny_bind (wpAny_alloc ?_)
    refine wpAny_bind (wpAny_holding ?_)
    rw [if_neg h15]
    refine wpAny_bind (wpAny_rule ?_)
    dsimp only
    refine wpAny_bind (wpAny_forIn_list _ (fun rest _ s' => ∃ h' tk done donees resties kvs, s' = { s with heap := h', toks := tk } ∧ ps = done ++ rest ∧ es = donees ++ resties ∧ All2 (PairOk knd H) rest resties ∧ Fits donees kvs ∧ h'.DictOf knd s.heap.objs.size kvs ∧ Up s.heap h') _ ?_ ?_ _ _
      ⟨_, s.toks, [], [], es, [], rfl, rfl, rfl, hp, .nil, Heap.DictOf.new _, fun b o e => Heap.get?_push_of_some _ e⟩)
    · rintro p rest b s' ⟨h', tk, done, donees, resties, kvs, rfl, hps, hes, hr, hf, hd, hu⟩
      obtain ⟨pk, pv⟩ := p
      cases hr with
      | cons h0 hr' =>
        rename_i e es'
        obtain ⟨h1, h2⟩ := h0
        have hH' : Up H h' := fun b o e => hu b o (hH b o e)
        refine wpAny_bind (h1 A _ E _ hH' fun v tk1 hv => ?_)
        refine wpAny_bind (wpAny_holding (h2 A _ E _ hH' fun u tk2 huu => ?_))
        have hnew : e.1 ∉ kvs.map (·.1) := by
          rw [hf.keys]
          rw [hes, List.map_append, List.map_cons] at hnd
          exact fun hm => (List.nodup_append.mp hnd).2.2 _ hm _ (by simp) rfl
        have hszz : kvs.length ≤ sizeLine := by
          have := hf.length
          have : donees.length ≤ 100 := by have := congrArg List.length hes; simp at this; omega
          rw [hf.length]; exact Nat.le_trans this (by decide)
        refine wpAny_bind (wpAny_holding (wpAny_dictSet_pairs (knd := knd) (hsz := hszz) hv hd fun h'' hd'' hs'' => ?_))
        · rw [stored_new hnew] at hd''
          refine wpAny_pure ⟨h'', _, done ++ [(pk, pv)], donees ++ [e], es', kvs ++ [(e.1, u)], rfl, by rw [hps]; simp, by rw [hes]; simp, hr', hf.append (.cons ⟨rfl, huu⟩ .nil), hd'', fun b o e' => ?_⟩
          exact hs''.extBut b o (Nat.ne_of_lt (Heap.lt_size e')) (hu b o e')
    · rintro b s' ⟨h', tk, done, donees, resties, kvs, rfl, hps, hes, hr, hf, hd, hu⟩
      cases hr
      rw [List.append_nil] at hes
      subst hes
      exact wpAny_pure (wpAny_pure (hQ h' tk kvs hf hd hu))

theorem wpAny_dictDisplay {ps : List (Sem Value × Sem Value)} {es : List (T × (Value → Prop))} (hp : All2 (PairOk knd H) ps es) (hne : ps ≠ []) (hlen : ps.length ≤ 2000) (hnd : (es.map (·.1)).Nodup) {s : Shared} (hH : Up H s.heap) (hbig : sysModules < s.heap.objs.size)
    {Q : Value → Shared → Prop} (hQ : ∀ h' tk kvs, Fits es kvs → h'.DictOf knd s.heap.objs.size kvs → Up s.heap h' → Q (.ref s.heap.objs.size) { s with heap := h', toks := tk }) :
    wpAny (model prog w) A (dictDisplay (ps.map fun p => (some p.1, p.2))) Q E s := by
  have flush : ∀ (run : List (Sem Value × Sem Value)) (res : List (T × (Value → Prop))) (main : Option Addr) (dones : List (T × (Value → Prop))) (rest : List (T × (Value → Prop))) (h : Heap) (tk : Nat) (R : Option Addr → Shared → Prop) (E : Value → Shared → Prop),
      All2 (PairOk knd H) run res → run.length ≤ 17 → es = dones ++ res ++ rest → Up s.heap h →
      (main = none ∧ dones = [] ∧ h = s.heap ∨ main = some s.heap.objs.size ∧ dones ≠ [] ∧ ∃ kvs, Fits dones kvs ∧ h.DictOf knd s.heap.objs.size kvs) →
      (∀ main' h' tk', Up s.heap h' → (main' = none ∧ dones ++ res = [] ∧ h' = s.heap ∨ main' = some s.heap.objs.size ∧ dones ++ res ≠ [] ∧ ∃ kvs, Fits (dones ++ res) kvs ∧ h'.DictOf knd s.heap.objs.size kvs) → R main' { s with heap := h', toks := tk' }) →
      wpAny (model prog w) A (do
        if run.isEmpty then return main
        match main with
        | none => return some (← subDict run)
        | some d =>
          let sub ← holding [.ref d] (subDict run)
          (holding [.ref d, .ref sub] (mergeMapping d (.ref sub) false)).onRaise fun x => do let _ ← holding [.ref d, x] (runValue (.builtin "proto.let_go" {}))
          return some d) R E { s with heap := h, toks := tk } := by
    intro run res main dones rest h tk R E hr hrl hes hu hm hR
    have hrl' := hr.length
    cases run with
    | nil =>
      cases hr
      refine wpAny_pure (hR main h tk hu ?_)
      simpa using hm
    | cons p run =>
      have hnd1 : ((dones ++ res).map (·.1)).Nodup := by
        rw [hes, List.map_append] at hnd; exact (List.nodup_append.mp hnd).1
      have hndr : (res.map (·.1)).Nodup := by
        rw [List.map_append] at hnd1; exact (List.nodup_append.mp hnd1).2.1
      have hrne : res ≠ [] := by rintro rfl; simp at hrl'
      have hH' : Up H h := fun b o e => hu b o (hH b o e)
      simp only [List.isEmpty_cons, Bool.false_eq_true, if_false]
      rcases hm with ⟨rfl, rfl, rfl⟩ | ⟨rfl, hdn, kvs, hf, hd⟩
      · refine wpAny_bind (sub_dict hr (by omega) hndr hH fun h' tk' kvs hf hd hu' => wpAny_pure (hR _ h' tk' hu' (.inr ⟨rfl, by simpa using hrne, kvs, by simpa using hf, hd⟩)))
      · refine wpAny_bind (wpAny_holding (sub_dict (s := { s with heap := h, toks := tk }) hr (by omega) hndr hH' fun h' tk' kvs' hf' hd' hu' => ?_))
        have hlt : s.heap.objs.size < h.objs.size := by
          obtain ⟨o, _, _, e, _⟩ := hd
          exact Heap.lt_size e
        have hd1 : h'.DictOf knd s.heap.objs.size kvs := hd.keep hu'
        have hkne : kvs ≠ [] := by rintro rfl; have := hf.length; simp at this; exact hdn (List.eq_nil_of_length_eq_zero this.symm)
        refine wpAny_bind (wpAny_onRaise (wpAny_holding (merge_new (knd := knd) (s := { s with heap := h', toks := tk' }) (Nat.ne_of_lt hlt) ?_ hkne hd1 hd' ?_ ?_ fun h'' hd'' hs'' => ?_)))
        · rw [beq_eq_false_iff_ne]; exact Ne.symm (Nat.ne_of_lt (Nat.lt_trans hbig hlt))
        · rw [List.map_append, hf.keys, hf'.keys, ← List.map_append]; exact hnd1
        · rw [hf.length, hf'.length]
          have : (dones ++ res).length ≤ 2000 := by
            have e1 := congrArg List.length hes
            have e2 := hp.length
            simp at e1 ⊢; omega
          rw [List.length_append] at this
          exact Nat.le_trans this (by decide)
        · refine wpAny_pure (hR _ h'' tk' (fun b o e => hs''.extBut b o (Nat.ne_of_lt (Heap.lt_size e)) (hu' b o (hu b o e))) (.inr ⟨rfl, by simp [hdn], kvs ++ kvs', hf.append hf', hd''⟩))
  unfold dictDisplay
  dsimp only
  refine wpAny_bind (wpAny_forIn_list _ (fun rest r s' => ∃ h' tk dones res resties ps', s' = { s with heap := h', toks := tk } ∧ rest = ps'.map (fun p : Sem Value × Sem Value => (some p.1, p.2)) ∧ es = dones ++ res ++ resties ∧ All2 (PairOk knd H) r.2 res ∧ All2 (PairOk knd H) ps' resties ∧ r.2.length < 17 ∧ Up s.heap h' ∧
      (r.1 = none ∧ dones = [] ∧ h' = s.heap ∨ r.1 = some s.heap.objs.size ∧ dones ≠ [] ∧ ∃ kvs, Fits dones kvs ∧ h'.DictOf knd s.heap.objs.size kvs)) _ ?_ ?_ _ _
      ⟨s.heap, s.toks, [], [], es, ps, rfl, rfl, rfl, .nil, hp, by decide, fun _ _ e => e, .inl ⟨rfl, rfl, rfl⟩⟩)
  · rintro x rest ⟨main, run⟩ s' ⟨h', tk, dones, res, resties, ps', rfl, hrest, hes, hr, hps, hl, hu, hm⟩
    have hl : run.length < 17 := hl
    cases ps' with
    | nil => simp at hrest
    | cons p ps' =>
      simp only [List.map_cons, List.cons.injEq] at hrest
      obtain ⟨rfl, rfl⟩ := hrest
      cases hps with
      | cons h0 hps' =>
        rename_i e es'
        have hr' : All2 (PairOk knd H) (run ++ [(p.1, p.2)]) (res ++ [e]) := all2_append hr h0
        have hes' : es = dones ++ (res ++ [e]) ++ es' := by rw [hes]; simp
        by_cases h17 : (run ++ [(p.1, p.2)]).length = 17
        · have hb : ((run ++ [(p.1, p.2)]).length == 17) = true := by simpa using h17
          simp only [hb, if_true]
          refine wpAny_bind (flush _ _ _ dones es' h' tk _ _ hr' (by omega) hes' hu hm fun main' h'' tk' hu' hm' => wpAny_pure ?_)
          refine ⟨h'', tk', dones ++ (res ++ [e]), [], es', ps', rfl, rfl, by rw [hes']; simp, .nil, hps', show 0 < 17 by decide, hu', ?_⟩
          exact hm'
        · have hb : ((run ++ [(p.1, p.2)]).length == 17) = false := by simpa using h17
          simp only [hb, Bool.false_eq_true, if_false]
          exact wpAny_pure ⟨h', tk, dones, res ++ [e], es', ps', rfl, rfl, hes', hr', hps', (by simp at h17 ⊢; omega : (run ++ [(p.1, p.2)]).length < 17), hu, hm⟩
  · rintro ⟨main, run⟩ s' ⟨h', tk, dones, res, resties, ps', rfl, hrest, hes, hr, hps, hl, hu, hm⟩
    have hl : run.length < 17 := hl
    have : ps' = [] := by cases ps' with | nil => rfl | cons _ _ => simp at hrest
    subst this
    cases hps
    refine wpAny_bind (flush _ _ _ dones [] h' tk _ _ hr (by omega) hes hu hm fun main' h'' tk' hu' hm' => ?_)
    rw [List.append_nil] at hes
    have hesne : es ≠ [] := by
      rintro rfl
      have := hp.length
      exact hne (List.eq_nil_of_length_eq_zero (by simpa using this))
    rcases hm' with ⟨_, h0, _⟩ | ⟨rfl, _, kvs, hf, hd⟩
    · exact absurd (hes.trans h0) hesne
    · rw [← hes] at hf
      exact wpAny_pure (hQ h'' tk' kvs hf hd hu')
end
end Mine

namespace Mine
/-! M35: a set of a range -/
theorem range_set : isSubtype (.type "range") (.type "set") = pure false := by rw [isSubtype_type]; kernel_rfl
theorem range_frozenset : isSubtype (.type "range") (.type "frozenset") = pure false := by rw [isSubtype_type]; kernel_rfl
section
variable {prog : Program} {w : World} {A : Around} {E : Value → Shared → Prop} {s : Shared}
set_option maxRecDepth 100000 in
set_option maxHeartbeats 3200000 in
theorem set_of_range {r : Addr} {a b : Int} {t u v : Tok} {n : Nat} {Q : Value → Shared → Prop}
    (hh : A.handled = none) (hr : IsRange s.heap r a b 1 t u v) (hsmall : Builtin.Range.small a b 1 = true) (hn : Builtin.Range.rangeSize a b 1 = n) (hb : n + 1 < scanBound)
    (h : ∀ (h' : Heap) (tk : Nat), h'.SetOf (intKind prog w) s.heap.objs.size (fun k' => (firstMet (fun i => a + i) n).any (· == k')) (firstMet (fun i => a + i) n).length →
      (∀ b o, b < s.heap.objs.size → s.heap.get? b = some o → h'.get? b = some o) → Q (.ref s.heap.objs.size) { s with heap := h', toks := tk }) :
    wpAny (model prog w) A (call (.type "set") [.ref r]) Q E s := by
  obtain ⟨c, tl, hmro⟩ := F.called_set.mro
  have hmade := F.called_set.made
  have hsub := F.called_set.sub
  refine wpAny_call (codeAny_of_tree ?_)
  show wpAny _ _ (callAny (.type "set") _) _ _ _
  refine wpAny_pure ⟨Code.quiet_builtin _ (by decide +kernel), codeAny_builtin F.entry_type_call ?_⟩
  rw [Around.under_plain (weight_type_call_type "set" [.ref r] []) rfl]
  have h1 := F.called_set.notType
  have h2 := F.called_set.canCreate
  have hct := F.typeCall_set_1 (.ref r)
  repeat (any_goals (first | assumption | wp_step))
  refine codeAny_mono (code_set_new_1 (.ref r) (E := E) (Q₁ := fun obj s₁ => ∃ led : Bool, obj = .ref s.heap.objs.size ∧ s₁ = { s with heap := s.heap.push { cls := .type "set", dict := none, data := .set #[] 0 (.fresh 0 0 led) } }) fun led => ⟨led, rfl, rfl⟩) fun r' s₁ hr' => ?_
  cases r' with
  | error e => exact hr'
  | ok fl =>
    cases fl with
    | ret obj =>
      obtain ⟨led, rfl, rfl⟩ := hr'
      generalize hH : s.heap.push { cls := .type "set", dict := none, data := .set #[] 0 (.fresh 0 0 led) } = H
      have hsz : H.objs.size = s.heap.objs.size + 1 := by rw [← hH, Heap.size_push]
      have hS : H.get? s.heap.objs.size = some { cls := .type "set", dict := none, data := .set #[] 0 (.fresh 0 0 led) } := hH ▸ Heap.get?_push_size _ rfl
      have hT : Shared.TypeIs { s with heap := H } (.ref s.heap.objs.size) "set" := ⟨_, hS, rfl⟩
      have hli := F.called_set.init.lookup
      have hbi := F.called_set.init.bind (.ref s.heap.objs.size)
      repeat (any_goals (first | assumption | wp_step))
      refine codeAny_mono (codeAny_call_builtin (R := wants (fun r s₂ => r = .none ∧ ∃ h' tk, s₂ = { s with heap := h', toks := tk } ∧
          h'.SetOf (intKind prog w) s.heap.objs.size (fun k' => (firstMet (fun i => a + i) n).any (· == k')) (firstMet (fun i => a + i) n).length ∧
          (∀ b o, b < s.heap.objs.size → s.heap.get? b = some o → h'.get? b = some o)) E) F.called_set.init.plain F.entry_set_init (check_set_init_1 hT ?_)) fun r₂ s₂ hr₂ => ?_
      · have hr1 : IsRange H r a b 1 t u v := by rw [← hH]; exact Heap.get?_push_of_some _ hr
        have hro := hr1
        unfold IsRange at hro
        have hsls := range_set
        have hslf := range_frozenset
        have hne : (Value.type "range" == Value.type "dict") = false := by decide
        unfold Builtin.«set.__init__» noKeywords Builtin.Frozenset.updateFrom
        generalize hPI : pyIter = PI
        wp_walk
        subst hPI
        refine wpAny_pyIter_range hr1 hsmall ?_
        refine wpAny_bind (wpAny_runValue ?_)
        have hh3 : A.in1.in1.in1.handled = none := by simp [hh]
        have hSf : s.heap.objs.size ∉ [H.objs.size] := by
          simp only [List.mem_cons, List.not_mem_nil, or_false]; omega
        refine codeAny_set_update_loopS ((Walks.range hh3 H.objs.size a 1 n).toS) s.heap.objs.size hSf (fun i => a + i) (fun i v ⟨t, e⟩ => ⟨t, by rw [e, Int.mul_one]⟩) hb (n - 0) 0 _ (by omega) (Nat.zero_le _) ?_ ?_ ?_
        · have e1 : (a + ((0 : Nat) : Int) * 1) = a := by simp
          have e2 : ((n : Int) - ((0 : Nat) : Int)) = Builtin.Range.rangeSize a b 1 := by rw [hn]; simp
          show IsRangeIter _ _ (a + ((0 : Nat) : Int) * 1) ((n : Int) - ((0 : Nat) : Int)) 1
          rw [e1, e2]
          exact Heap.get?_push_size _ rfl
        · have hget : (H.push { cls := .type "range_iterator", data := .fields #[rawInt a, rawInt (Builtin.Range.rangeSize a b 1), rawInt 1] }).get? s.heap.objs.size
              = some { cls := .type "set", dict := none, data := .set #[] 0 (.fresh 0 0 led) } := Heap.get?_push_of_some _ hS
          exact SetOf_congr ((setObjOf_fresh (knd := intKind prog w) led).setOf hget (by unfold scanBound; omega)) (fun _ => rfl) rfl
        · intro s' hm hS'
          obtain ⟨h', g', d', tk', os'⟩ := s'
          have eg : g' = s.gens := hm.gens
          have ed : d' = s.drawn := hm.drawn
          have eo : os' = s.os := hm.os
          subst eg; subst ed; subst eo
          show wpAny _ _ _ _ _ _
          refine wpAny_pure ?_
          show wpAny _ _ (ret Value.none) _ _ _
          refine wpAny_pure ⟨rfl, h', tk', rfl, hS', fun b o hb e => ?_⟩
          have hb1 : b ≠ s.heap.objs.size := Nat.ne_of_lt hb
          have hb2 : b ≠ H.objs.size := Nat.ne_of_lt (Nat.lt_of_lt_of_le hb (by omega))
          exact hm.heap b o (by simp only [List.mem_cons, List.not_mem_nil, or_false, not_or]; exact ⟨hb1, hb2⟩) (Heap.get?_push_of_some _ (hH ▸ Heap.get?_push_of_some _ e))
      · cases r₂ with
        | error e => exact hr₂
        | ok fl₂ =>
          cases fl₂ with
          | ret r =>
            obtain ⟨rfl, h', tk, rfl, hS', hk'⟩ := hr₂
            repeat (any_goals (first | assumption | wp_step))
            exact h _ _ hS' hk'
          | _ => exact hr₂.elim
    | _ => exact hr'.elim
end
end Mine

namespace Mine
/-! M36: the values of the top -/
section
variable {prog : Program} {w : World} {s₀ : Shared} {mg₀ : Str → Option Value} {c Pl F : Addr} {bs : List (Str × Item)} {L : Nat}
noncomputable def Val (prog : Program) (w : World) (s₀ : Shared) (mg₀ : Str → Option Value) (c Pl F : Addr) (L : Nat) (bs : List (Str × Item)) (value : Expr) (it : Item) : Prop :=
  ∀ (A : Around) (s : Shared) (K : KM) (E : Value → Shared → Prop), A.handled = none → HS prog w s₀ mg₀ c Pl s K L bs → wpAny (model prog w) A (eval value (mainEnv prog c F)) (fun v s' => ∃ K', Ext K s K' s' ∧ it.ok prog w K' v) E s
theorem val_int (i : Int) (k : Nat) (p : Pos) : Val prog w s₀ mg₀ c Pl F L bs (.Constant (.int i) k p) (.dat (.int i)) := fun A s K E _ X => wpAny_Constant_int ⟨K, .toks X.kn _, .int _ _⟩
theorem val_str (x : Str) (k : Nat) (p : Pos) : Val prog w s₀ mg₀ c Pl F L bs (.Constant (.str x) k p) .any := fun A s K E _ X => Calls.Constant_str ⟨K, .toks X.kn _, trivial⟩

/-- a built-in at the top -/
theorem name_builtin (hmod : prog.main.scope.kind = .module) {x : Str} {v : Value} (hx : bs.lookup x = none) (hd : notDebug x) {A : Around} {s : Shared} {K : KM} {E : Value → Shared → Prop} {Q : Value → Shared → Prop} {p : Pos}
    (X : HS prog w s₀ mg₀ c Pl s K L bs) (hb : ∀ mb, BFacts mg₀ mb → mg₀ x = none ∧ mb x = some v) {s' : Shared} (hs : ∀ b o, s.heap.get? b = some o → s'.heap.get? b = some o) (hQ : Q v s') : wpAny (model prog w) A (eval (.Name x p) (mainEnv prog c F)) Q E s' := by
  obtain ⟨mg, ts, hm, hts, hB⟩ := X.ex
  obtain ⟨mb, hn, hf⟩ := X.blt
  have hx' := hB x
  rw [hx] at hx'
  obtain ⟨h1, h2⟩ := hb mb hf
  have hbn : s.heap.Ns builtinsNs mb := hn.at' fun o e => X.keep _ o X.bP (by decide) e
  exact Calls.Name_module hmod rfl (Calls.loadGlobal_builtin (env := mainEnv prog c F) (hm.g.keeps hs) (hx'.trans h1) (hbn.keeps hs) h2 hQ) hd

theorem ints_args {env : Env} {A : Around} {E : Value → Shared → Prop} {M : Model} : ∀ {es : List Expr} {ns : List Int}, All2 (fun (e : Expr) (n : Int) => ∃ k p, e = .Constant (.int n) k p) es ns → ∀ {s : Shared} {pos : Pos} {Q : List Value → Shared → Prop},
    (∀ vs tk, IntsAre vs ns → Q vs { s with toks := tk }) → wpAny M A (spliced (backTo pos (starEach es env))) Q E s
  | _, _, .nil, s, pos, Q, hQ => args_nil (hQ [] s.toks .nil)
  | _, _, .cons (b := n) ⟨k, p, e⟩ hs, s, pos, Q, hQ => by
    subst e
    refine args_cons (wpAny_Constant_int ?_)
    exact ints_args hs fun vs tk hv => hQ _ tk (.cons n _ hv)
theorem ints_of_at : ∀ (vs : List Value) (f : Nat → Int), (∀ i v, vs[i]? = some v → ∃ t, v = Value.int (f i) t) → IntsAre vs ((List.range vs.length).map f)
  | [], _, _ => .nil
  | v :: vs, f, h => by
    obtain ⟨t, e⟩ := h 0 v rfl
    have ih := ints_of_at vs (fun i => f (i + 1)) fun i u hu => h (i + 1) u (by simpa using hu)
    subst e
    have e2 : (List.range (Value.int (f 0) t :: vs).length).map f = f 0 :: (List.range vs.length).map fun i => f (i + 1) := by
      rw [List.length_cons, List.range_succ_eq_map]; simp
    rw [e2]
    exact .cons _ _ ih
theorem intsAre_append {vs us : List Value} {ns ms : List Int} (h : IntsAre vs ns) (h' : IntsAre us ms) : IntsAre (vs ++ us) (ns ++ ms) := by
  induction h with
  | nil => exact h'
  | cons n t _ ih => exact .cons n t ih
theorem intsAre_length {vs : List Value} {ns : List Int} (h : IntsAre vs ns) : vs.length = ns.length := by
  induction h with
  | nil => rfl
  | cons n t _ ih => simp [ih]
/-- range(a, b) as an argument -/
theorem range_at (hmod : prog.main.scope.kind = .module) (hr : bs.lookup ("range" : Str) = none) {a b : Int} {k1 k2 : Nat} {q p p1 p2 : Pos} {A : Around} {s s' : Shared} {K : KM} {E : Value → Shared → Prop} {Q : Value → Shared → Prop} (X : HS prog w s₀ mg₀ c Pl s K L bs)
    (hs : ∀ b o, s.heap.get? b = some o → s'.heap.get? b = some o)
    (hQ : ∀ h' tk t u v, IsRange h' s'.heap.objs.size a b 1 t u v → (∀ b o, s'.heap.get? b = some o → h'.get? b = some o) → Q (.ref s'.heap.objs.size) { s' with heap := h', toks := tk }) :
    wpAny (model prog w) A (eval (.Call (.Name "range" q) [.Constant (.int a) k1 p1, .Constant (.int b) k2 p2] [] p) (mainEnv prog c F)) Q E s' := by
  refine Call_ (name_builtin hmod hr rfl X (fun mb hb => hb.2.1) hs ?_)
  refine PyProof.Rows.callWith_type1 (args_cons (wpAny_Constant_int (args_cons (wpAny_Constant_int (args_nil ?_))))) rfl rfl
  exact call_range_2 (hQ _ _ _ _ _ (IsRange.new ..) fun b o e => Heap.get?_push_of_some _ e)
theorem rep_set {K : KM} {h : Heap} {a : Addr} {xs : List Int} {o : Obj} (ho : h.get? a = some o) (x : h.SetOf (intKind prog w) a (fun k => xs.any (· == k)) xs.length) : Rep prog w (K.add a o) (.set xs) (.ref a) :=
  .set fun h' k' => setOf_at x fun o' e => by rw [ho] at e; cases e; exact k' _ _ (KM.add_self _ _ _)
theorem val_c6 (hmod : prog.main.scope.kind = .module) (hset : bs.lookup ("set" : Str) = none) (hr : bs.lookup ("range" : Str) = none) {k1 k2 : Nat} {q q' p p' p1 p2 : Pos} :
    Val prog w s₀ mg₀ c Pl F L bs (.Call (.Name "set" q) [.Call (.Name "range" q') [.Constant (.int 65529) k1 p1, .Constant (.int 65534) k2 p2] [] p'] [] p) (.dat (.set c6)) := fun A s K E hh X => by
  refine Call_ (name_builtin hmod hset rfl X (fun mb hb => hb.1 .set) (fun _ _ e => e) ?_)
  refine PyProof.Rows.callWith_type1 (args_cons (range_at hmod hr X (fun _ _ e => e) fun h' tk t u v hI hk => args_nil ?_)) rfl rfl
  refine set_of_range (n := 5) (s := { s with heap := h', toks := tk }) hh hI (small_one (by decide) (by decide) (by decide) (by decide)) (by rw [rangeSize_one]; rfl) (by decide) fun h'' tk' hS hk' => ?_
  have e : firstMet (fun i => (65529 : Int) + i) 5 = c6 := by decide
  rw [e] at hS
  have up : ∀ b o, s.heap.get? b = some o → h''.get? b = some o := fun b o e => hk' b o (Heap.lt_size (hk b o e)) (hk b o e)
  obtain ⟨o, _, _, _, ho, _⟩ := id hS
  have hnew : s.heap.get? h'.objs.size = none := by
    cases e : s.heap.get? h'.objs.size with
    | none => rfl
    | some o => exact absurd (Heap.lt_size (hk _ _ e)) (Nat.lt_irrefl _)
  exact ⟨_, Ext.one X.kn (t := tk') up hnew ho, rep_set ho hS⟩
theorem val_b1 (hmod : prog.main.scope.kind = .module) (hset : bs.lookup ("set" : Str) = none) (hr : bs.lookup ("range" : Str) = none) (hl : bs.lookup ("list" : Str) = none) {es : List Expr} {k1 k2 : Nat} {q q' q'' p p' p'' p1 p2 p3 p4 : Pos}
    (hes : All2 (fun (e : Expr) (n : Int) => ∃ k p, e = .Constant (.int n) k p) es [173, 847, 6150, 6155, 6156, 6157, 8203, 8204, 8205, 8288, 65279]) :
    Val prog w s₀ mg₀ c Pl F L bs (.Call (.Name "set" q) [.BinOp (.List es p3) .Add (.Call (.Name "list" q') [.Call (.Name "range" q'') [.Constant (.int 65024) k1 p1, .Constant (.int 65040) k2 p2] [] p''] [] p') p4] [] p) (.dat (.set b1)) := fun A s K E hh X => by
  refine Call_ (name_builtin hmod hset rfl X (fun mb hb => hb.1 .set) (fun _ _ e => e) ?_)
  refine PyProof.Rows.callWith_type1 (args_cons (wpAny_BinOp (wpAny_List (ints_args hes fun vs tk hv => ?_)))) rfl rfl
  have hvl := intsAre_length hv
  refine ⟨by rw [hvl]; decide, ?_⟩
  dsimp only
  generalize hH : s.heap.push { cls := Value.type "list", data := Data.seq vs.toArray } = H1
  have k1' : ∀ b o, s.heap.get? b = some o → H1.get? b = some o := fun b o e => hH ▸ Heap.get?_push_of_some _ e
  have hl1 : H1.get? s.heap.objs.size = some { cls := .type "list", data := .seq vs.toArray } := hH ▸ Heap.get?_push_size _ rfl
  refine Call_ (name_builtin hmod hl rfl X (fun mb hb => hb.2.2) k1' ?_)
  refine PyProof.Rows.callWith_type1 (args_cons (range_at hmod hr X k1' fun h2 tk2 t u v hI hk2 => args_nil ?_)) rfl rfl
  dsimp only at hI hk2
  refine call_list_range (n := 16) (s := { s with heap := h2, toks := tk2 }) hh hI (small_one (by decide) (by decide) (by decide) (by decide)) (by rw [rangeSize_one]; rfl) (by decide) fun h3 tk3 acc cc hk3 hl3 hacc => ?_
  dsimp only at hk3 hl3
  have hl1' : h3.get? s.heap.objs.size = some { cls := .type "list", data := .seq vs.toArray } := hk3 _ _ (hk2 _ _ hl1)
  have hsz : acc.size = 16 := hacc.1
  refine PySem.P.add_list (s := { s with heap := h3, toks := tk3 }) hl1' hl3 ?_ (by rw [List.size_toArray, hvl, hsz]; decide)
  refine args_nil ?_
  have hints : IntsAre (vs ++ acc.toList) ([173, 847, 6150, 6155, 6156, 6157, 8203, 8204, 8205, 8288, 65279] ++ (List.range 16).map fun (i : Nat) => (65024 : Int) + (i : Int) * 1) := by
    refine intsAre_append hv ?_
    have := ints_of_at acc.toList (fun (i : Nat) => (65024 : Int) + (i : Int) * 1) fun i v hv => hacc.2 i v (by simpa using hv)
    rw [Array.length_toList, hsz] at this
    exact this
  generalize hH4 : h3.push { cls := Value.type "list", data := Data.seq (vs.toArray ++ acc) } = H4
  have k4 : ∀ b o, h3.get? b = some o → H4.get? b = some o := fun b o e => hH4 ▸ Heap.get?_push_of_some _ e
  have hl4 : H4.get? h3.objs.size = some { cls := .type "list", data := .seq (vs.toArray ++ acc) } := hH4 ▸ Heap.get?_push_size _ rfl
  refine call_set_list (s := { s with heap := H4, toks := tk3 }) (items := vs.toArray ++ acc) (ns := [173, 847, 6150, 6155, 6156, 6157, 8203, 8204, 8205, 8288, 65279] ++ (List.range 16).map fun (i : Nat) => (65024 : Int) + (i : Int) * 1) hh ⟨_, hl4, rfl, _, rfl⟩ (by simpa using hints)
    (by rw [Array.size_append, List.size_toArray, hvl, hsz]; decide) fun h5 tk5 hS hk5 => ?_
  have hsize : (vs.toArray ++ acc).size = 27 := by rw [Array.size_append, List.size_toArray, hvl, hsz]; rfl
  rw [hsize] at hS
  have e : firstMet (fun i => ([173, 847, 6150, 6155, 6156, 6157, 8203, 8204, 8205, 8288, 65279] ++ (List.range 16).map fun (i : Nat) => (65024 : Int) + (i : Int) * 1).getD i 0) 27 = b1 := by decide +kernel
  rw [e] at hS
  have up4 : ∀ b o, s.heap.get? b = some o → H4.get? b = some o := fun b o e => k4 _ _ (hk3 _ _ (hk2 _ _ (k1' _ _ e)))
  have up : ∀ b o, s.heap.get? b = some o → h5.get? b = some o := fun b o e => hk5 b o (Heap.lt_size (up4 b o e)) (up4 b o e)
  obtain ⟨o, _, _, _, ho, _⟩ := id hS
  have hnew : s.heap.get? H4.objs.size = none := by
    cases e : s.heap.get? H4.objs.size with
    | none => rfl
    | some o => exact absurd (Heap.lt_size (up4 _ _ e)) (Nat.lt_irrefl _)
  exact ⟨_, Ext.one X.kn (t := tk5) up hnew ho, rep_set ho hS⟩
end
end Mine

namespace Mine
/-! M37: the two tables of the top -/
theorem valueAt_gen {T V : Type} [DecidableEq T] {R : V → Value → Prop} : ∀ {es : List (T × V)} {kvs : List (T × Value)}, All2 (fun (e : T × V) (kv : T × Value) => kv.1 = e.1 ∧ R e.2 kv.2) es kvs →
    (∀ k i, es.lookup k = some i → ∃ v, valueAt kvs k = some v ∧ R i v) ∧ (∀ k, es.lookup k = none → valueAt kvs k = none)
  | _, _, .nil => ⟨fun k i h => by simp at h, fun k _ => rfl⟩
  | _, _, .cons (a := e) (b := kv) ⟨h1, h2⟩ hs => by
    obtain ⟨p, q⟩ := valueAt_gen hs
    obtain ⟨ek, ei⟩ := e
    obtain ⟨k', v'⟩ := kv
    simp only at h1 h2
    subst h1
    refine ⟨fun k i h => ?_, fun k h => ?_⟩
    · rw [List.lookup_cons] at h
      unfold valueAt
      rw [List.find?_cons]
      by_cases hk : k = k'
      · subst hk
        simp at h ⊢
        subst h; exact h2
      · have : (k == k') = false := by simpa using hk
        rw [this] at h
        have hk' : decide (k' = k) = false := by simpa using fun e => hk e.symm
        simp only [hk']
        exact p k i h
    · rw [List.lookup_cons] at h
      unfold valueAt
      rw [List.find?_cons]
      by_cases hk : k = k'
      · subst hk
        simp at h
      · have : (k == k') = false := by simpa using hk
        rw [this] at h
        have hk' : decide (k' = k) = false := by simpa using fun e => hk e.symm
        simp only [hk']
        exact q k h
theorem fits_gen {T V : Type} {R : V → Value → Prop} : ∀ {es : List (T × V)} {kvs : List (T × Value)}, Fits (es.map fun p => (p.1, fun v => R p.2 v)) kvs → All2 (fun (e : T × V) (kv : T × Value) => kv.1 = e.1 ∧ R e.2 kv.2) es kvs
  | [], _, h => by cases h; exact .nil
  | e :: es, _, h => by cases h with | cons h0 hs => exact .cons h0 (fits_gen hs)

section
variable {prog : Program} {w : World} {env : Env} {pos : Pos} {H : Heap}
theorem intKey_some {k : Option Expr} {i : Int} (h : intKey k = some i) : ∃ a b, k = some (.Constant (.int i) a b) := by
  cases k with
  | none => exact no_none h
  | some e => cases e with
    | Constant c a b => cases c with
      | int j => obtain rfl := some_inj h; exact ⟨a, b, rfl⟩
      | _ => exact no_none h
    | _ => exact no_none h
theorem strVal_some {e : Expr} {x : Str} (h : strVal e = some x) : ∃ a b, e = .Constant (.str x) a b := by
  cases e with
  | Constant c a b => cases c with
    | str y => obtain rfl := some_inj h; exact ⟨a, b, rfl⟩
    | _ => exact no_none h
  | _ => exact no_none h
theorem b3_pairs : ∀ (ks : List (Option Expr)) (vs : List Expr), (isPairs ks vs).length = ks.length → ks.length = vs.length → All2 (PairOk (intKind prog w) H) (pairTrees ks vs env pos) ((isPairs ks vs).map fun p => (p.1, fun v => ∃ t, v = Value.str p.2 t)) := by
  intro ks
  induction ks with
  | nil => intro vs _ h2; obtain rfl : vs = [] := List.eq_nil_of_length_eq_zero h2.symm; exact .nil
  | cons k ks ih =>
    intro vs h1 h2
    cases vs with
    | nil => cases h2
    | cons v vs =>
      cases hk : intKey k with
      | none =>
        have e : isPairs (k :: ks) (v :: vs) = [] := by
          show (match intKey k with | some i => (match strVal v with | some x => (i, x) :: isPairs ks vs | none => []) | none => []) = _
          rw [hk]
        rw [e] at h1; cases h1
      | some i => cases hx : strVal v with
        | none =>
          have e : isPairs (k :: ks) (v :: vs) = [] := by
            show (match intKey k with | some i => (match strVal v with | some x => (i, x) :: isPairs ks vs | none => []) | none => []) = _
            rw [hk, hx]
          rw [e] at h1; cases h1
        | some x =>
          obtain ⟨ka, kb, rfl⟩ := intKey_some hk
          obtain ⟨va, vb, rfl⟩ := strVal_some hx
          show All2 _ ((eval (.Constant (.int i) ka kb) env, do let x ← eval (.Constant (.str x) va vb) env; standAt pos; pure x) :: pairTrees ks vs env pos) ((i, fun v => ∃ t, v = Value.str x t) :: (isPairs ks vs).map fun p => (p.1, fun v => ∃ t, v = Value.str p.2 t))
          have a1 : PureE prog w H (eval (.Constant (.int i) ka kb) env) (fun v => (intKind prog w).is i v = true) := fun A s E Q hH hQ => wpAny_Constant_int (hQ _ _ (intKind_is prog w _ _))
          have a2 : PureE prog w H (do let y ← eval (.Constant (.str x) va vb) env; standAt pos; pure y) (fun v => ∃ t, v = Value.str x t) := fun A s E Q hH hQ => wpAny_bind (Calls.Constant_str (wpAny_bind (wpAny_standAt (wpAny_pure (hQ _ _ ⟨_, rfl⟩)))))
          refine .cons ⟨a1, a2⟩ (ih vs (Nat.succ.inj h1) (Nat.succ.inj h2))
end
noncomputable def strKey : Option Expr → Option Str
  | some e => strVal e
  | none => none
noncomputable def nameVal : Expr → Option Str
  | .Name y _ => some y
  | _ => none
noncomputable def itemInt : Option Item → Option Int
  | some (.dat (.int i)) => some i
  | _ => none
noncomputable def snPair (bs : List (Str × Item)) (k : Option Expr) (v : Expr) : Option (Str × Int) :=
  match strKey k with
  | some x => (match nameVal v with
    | some y => (match itemInt (bs.lookup y) with | some i => (if (y == ("__debug__" : Str)) = true then none else some (x, i)) | none => none)
    | none => none)
  | none => none
noncomputable def snPairs (bs : List (Str × Item)) : List (Option Expr) → List Expr → List (Str × Int)
  | [], _ => []
  | k :: ks, vs => match vs with
    | [] => []
    | v :: vs => match snPair bs k v with
      | some p => p :: snPairs bs ks vs
      | none => []
theorem nameVal_some {e : Expr} {x : Str} (h : nameVal e = some x) : ∃ p, e = .Name x p := by
  cases e with
  | Name y p => obtain rfl := some_inj h; exact ⟨p, rfl⟩
  | _ => exact no_none h
theorem itemInt_some {o : Option Item} {i : Int} (h : itemInt o = some i) : o = some (.dat (.int i)) := by
  cases o with
  | none => exact no_none h
  | some it => cases it with
    | dat d => cases d with
      | int j => obtain rfl := some_inj h; rfl
      | _ => exact no_none h
    | _ => exact no_none h
theorem snPair_some {bs : List (Str × Item)} {k : Option Expr} {v : Expr} {x : Str} {i : Int} (h : snPair bs k v = some (x, i)) :
    ∃ ka kb y yp, k = some (.Constant (.str x) ka kb) ∧ v = .Name y yp ∧ bs.lookup y = some (.dat (.int i)) ∧ ¬ (y == ("__debug__" : Str)) = true := by
  unfold snPair at h
  cases hk : strKey k with
  | none => rw [hk] at h; cases h
  | some x' => cases hy : nameVal v with
    | none => rw [hk, hy] at h; cases h
    | some y => cases hi : itemInt (bs.lookup y) with
      | none => rw [hk, hy] at h; dsimp only at h; rw [hi] at h; cases h
      | some i' =>
        rw [hk, hy] at h; dsimp only at h; rw [hi] at h; dsimp only at h
        obtain ⟨hd, e⟩ := ite_inj' h
        cases e
        cases k with
        | none => cases hk
        | some ke =>
          obtain ⟨ka, kb, rfl⟩ := strVal_some hk
          obtain ⟨yp, rfl⟩ := nameVal_some hy
          exact ⟨ka, kb, y, yp, rfl, rfl, itemInt_some hi, hd⟩
section
variable {prog : Program} {w : World} {s₀ : Shared} {mg₀ : Str → Option Value} {c Pl F : Addr} {bs : List (Str × Item)} {L : Nat}
theorem exact_pairs (hmod : prog.main.scope.kind = .module) {s : Shared} {K : KM} (X : HS prog w s₀ mg₀ c Pl s K L bs) {pos : Pos} : ∀ (ks : List (Option Expr)) (vs : List Expr), (snPairs bs ks vs).length = ks.length → ks.length = vs.length →
    All2 (PairOk (PySem.strKind prog w) s.heap) (pairTrees ks vs (mainEnv prog c F) pos) ((snPairs bs ks vs).map fun p => (p.1, fun v => ∃ t, v = Value.int p.2 t)) := by
  intro ks
  induction ks with
  | nil => intro vs _ h2; obtain rfl : vs = [] := List.eq_nil_of_length_eq_zero h2.symm; exact .nil
  | cons k ks ih =>
    intro vs h1 h2
    cases vs with
    | nil => cases h2
    | cons v vs =>
      cases hk : snPair bs k v with
      | none =>
        have e : snPairs bs (k :: ks) (v :: vs) = [] := by
          show (match snPair bs k v with | some p => p :: snPairs bs ks vs | none => []) = _
          rw [hk]
        rw [e] at h1; cases h1
      | some p =>
        obtain ⟨x, i⟩ := p
        have e : snPairs bs (k :: ks) (v :: vs) = (x, i) :: snPairs bs ks vs := by
          show (match snPair bs k v with | some p => p :: snPairs bs ks vs | none => []) = _
          rw [hk]
        rw [e] at h1 ⊢
        obtain ⟨ka, kb, y, yp, rfl, rfl, hlk, hd⟩ := snPair_some hk
        show All2 _ ((eval (.Constant (.str x) ka kb) (mainEnv prog c F), do let x ← eval (.Name y yp) (mainEnv prog c F); standAt pos; pure x) :: pairTrees ks vs (mainEnv prog c F) pos) ((x, fun v => ∃ t, v = Value.int i t) :: (snPairs bs ks vs).map fun p => (p.1, fun v => ∃ t, v = Value.int p.2 t))
        have a1 : PureE prog w s.heap (eval (.Constant (.str x) ka kb) (mainEnv prog c F)) (fun v => (PySem.strKind prog w).is x v = true) := fun A s E Q hH hQ => Calls.Constant_str (hQ _ _ (by simp [PySem.strKind, Value.isStrOf]))
        refine .cons ⟨a1, (?_ : PureE prog w s.heap (do let y ← eval (.Name y yp) (mainEnv prog c F); standAt pos; pure y) (fun v => ∃ t, v = Value.int i t))⟩ (ih vs (Nat.succ.inj h1) (Nat.succ.inj h2))
        · intro A s' E Q hH hQ
          obtain ⟨mg, ts, hm, hts, hB⟩ := X.ex
          have hx := hB y
          rw [hlk] at hx
          obtain ⟨v, hv, hr⟩ := hx
          obtain ⟨t, rfl⟩ : ∃ t, v = .int i t := by exact hr.inv
          exact wpAny_bind (Calls.Name_module hmod rfl (Calls.loadGlobal_global (env := mainEnv prog c F) (hm.g.keeps hH) hv (wpAny_bind (wpAny_standAt (wpAny_pure (hQ _ s'.toks ⟨_, rfl⟩))))) (by simpa using hd))
theorem HS.bigger {s : Shared} {K : KM} (X : HS prog w s₀ mg₀ c Pl s K L bs) : sysModules < s.heap.objs.size := by
  obtain ⟨o, ho⟩ := X.big
  exact Heap.lt_size (X.keep _ o X.mP (by decide) ho)
theorem val_b3 {ks : List (Option Expr)} {vs : List Expr} {p : Pos} (h1 : (isPairs ks vs).length = ks.length) (h2 : ks.length = vs.length) (h3 : isPairs ks vs = b3) (h4 : (b3.map (·.1)).Nodup) (h5 : ks.length ≤ 2000) (h6 : ks.length ≠ 0) (h7 : ks.all (·.isSome) = true) :
    Val prog w s₀ mg₀ c Pl F L bs (.Dict ks vs p) (.dat (.dIS b3)) := fun A s K E hh X => by
  rw [arm_eval_Dict, zip_pairTrees ks vs _ _ h7 h2]
  refine wpAny_bind (wpAny_standAt ?_)
  have hl := pairTrees_length ks vs (mainEnv prog c F) p h7 h2
  have hp := b3_pairs (prog := prog) (w := w) (env := mainEnv prog c F) (pos := p) (H := s.heap) ks vs h1 h2
  rw [h3] at hp
  refine wpAny_dictDisplay hp (fun e => h6 (by rw [← hl, e]; rfl)) (by rw [hl]; exact h5) (by rw [List.map_map]; exact h4) (fun _ _ e => e) X.bigger fun h' tk kvs hf hd hu => ?_
  obtain ⟨o, _, _, ho, _⟩ := id hd
  have hne : (s.heap.objs.size == sysModules) = false := by
    have := X.bigger
    rw [beq_eq_false_iff_ne]; exact Nat.ne_of_gt this
  obtain ⟨q1, q2⟩ := valueAt_gen (R := fun x v => ∃ t, v = Value.str x t) (fits_gen (R := fun x v => ∃ t, v = Value.str x t) hf)
  refine ⟨K.add s.heap.objs.size o, Ext.one X.kn (t := tk) hu (by cases e : s.heap.get? s.heap.objs.size with | none => rfl | some o => exact absurd (Heap.lt_size e) (Nat.lt_irrefl _)) ho, .dIS (f := valueAt kvs) (fun h'' kn => (hd.at fun o' e => by rw [ho] at e; cases e; exact kn _ _ (KM.add_self _ _ _)).mapOf) hne (fun k i e => ?_) q2⟩
  obtain ⟨v, hv, t, rfl⟩ := q1 k i e
  exact ⟨t, hv⟩
theorem val_exact (hmod : prog.main.scope.kind = .module) {ks : List (Option Expr)} {vs : List Expr} {p : Pos} (h3 : snPairs bs ks vs = exact) (h1 : exact.length = ks.length) (h2 : ks.length = vs.length) (h4 : (exact.map (·.1)).Nodup) (h5 : ks.length ≤ 2000) (h6 : ks.length ≠ 0) (h7 : ks.all (·.isSome) = true) :
    Val prog w s₀ mg₀ c Pl F L bs (.Dict ks vs p) (.dat (.dSI exact)) := fun A s K E hh X => by
  rw [arm_eval_Dict, zip_pairTrees ks vs _ _ h7 h2]
  refine wpAny_bind (wpAny_standAt ?_)
  have hl := pairTrees_length ks vs (mainEnv prog c F) p h7 h2
  have hp := exact_pairs (F := F) hmod X (pos := p) ks vs (by rw [h3]; exact h1) h2
  rw [h3] at hp
  refine wpAny_dictDisplay hp (fun e => h6 (by rw [← hl, e]; rfl)) (by rw [hl]; exact h5) (by rw [List.map_map]; exact h4) (fun _ _ e => e) X.bigger fun h' tk kvs hf hd hu => ?_
  obtain ⟨o, _, _, ho, _⟩ := id hd
  have hne : (s.heap.objs.size == sysModules) = false := by
    have := X.bigger
    rw [beq_eq_false_iff_ne]; exact Nat.ne_of_gt this
  obtain ⟨q1, q2⟩ := valueAt_gen (R := fun x v => ∃ t, v = Value.int x t) (fits_gen (R := fun x v => ∃ t, v = Value.int x t) hf)
  refine ⟨K.add s.heap.objs.size o, Ext.one X.kn (t := tk) hu (by cases e : s.heap.get? s.heap.objs.size with | none => rfl | some o => exact absurd (Heap.lt_size e) (Nat.lt_irrefl _)) ho, .dSI (f := valueAt kvs) (fun h'' kn => (hd.at fun o' e => by rw [ho] at e; cases e; exact kn _ _ (KM.add_self _ _ _)).mapOf) hne (fun k i e => ?_) q2⟩
  obtain ⟨v, hv, t, rfl⟩ := q1 k i e
  exact ⟨t, hv⟩
end
end Mine

namespace Mine
/-! M38: the walk of the top (printed by gen3.py) -/
noncomputable def posAt (k : Nat) : Pos := match topBody[k]? with | some (.FunctionDef _ _ _ _ _ _ _ _ _ p) => p | _ => default
noncomputable def keysAt (k : Nat) : List (Option Expr) := match topBody[k]? with | some (.Assign _ (.Dict ks _ _) _) => ks | _ => []
noncomputable def valuesAt (k : Nat) : List Expr := match topBody[k]? with | some (.Assign _ (.Dict _ vs _) _) => vs | _ => []
noncomputable def dposAt (k : Nat) : Pos := match topBody[k]? with | some (.Assign _ (.Dict _ _ p) _) => p | _ => default
noncomputable def aposAt (k : Nat) : Pos := match topBody[k]? with | some (.Assign _ _ p) => p | _ => default
noncomputable def nposAt (k : Nat) : Pos := match topBody[k]? with | some (.Assign [.Name _ p] _ _) => p | _ => default
noncomputable def Fdk (k : Nat) : Prop := topBody.drop k = .FunctionDef (nameAt k) (paramsAt k) (bodyAt k) [] none [] (fscopeAt k) none (nameAt k) (posAt k) :: topBody.drop (k + 1)
abbrev thisProg : Program := PySem.Challenge.pw_re0172_01
section
variable {w : World} {s₀ : Shared} {mg₀ : Str → Option Value} {c Pl F : Addr}
/-- sealed: the elaborator would unfold these two down to the evaluator -/
structure RunsP (w : World) (s₀ : Shared) (mg₀ : Str → Option Value) (c Pl F : Addr) (L : Nat) (bs : List (Str × Item)) (ss : List Stmt) (bs' : List (Str × Item)) : Prop where
  out : Runs thisProg w s₀ mg₀ c Pl F L bs ss bs'
structure ValP (w : World) (s₀ : Shared) (mg₀ : Str → Option Value) (c Pl F : Addr) (L : Nat) (bs : List (Str × Item)) (value : Expr) (it : Item) : Prop where
  out : Val thisProg w s₀ mg₀ c Pl F L bs value it
theorem runs_fn {k L : Nat} {bs bs' : List (Str × Item)} {name : Str} (l : Nat) (he : Fdk k) (hn : nameAt k = name) (hl : (posAt k).line = l) (hx : PlainDefTree (nameAt k) (paramsAt k) (bodyAt k) (fscopeAt k) (posAt k)) (hfree : (fscopeAt k).names.all (fun x => !(x.2 == .free)) = true) (hdoc : docOf (bodyAt k) = none)
    (hloc : thisProg.main.scope.names.lookup name = some .local) (hnb : (name == "__builtins__") = false) (hL : L ≤ l) (hq : (qualnameIn { scope := thisProg.main.scope, locals := mainGlobals, globals := mainGlobals, cells := [] } name name == name) = true)
    (hr : RunsP w s₀ mg₀ c Pl F (l + 1) ((name, .fn k) :: bs) (topBody.drop (k + 1)) bs') : RunsP w s₀ mg₀ c Pl F L bs (topBody.drop k) bs' := by
  refine ⟨?_⟩
  have hr := hr.out
  rw [he]
  subst hn; subst hl
  exact runs_def (k := k) rfl hx (fun x hx' h => by have := List.all_eq_true.mp hfree x hx'; simp [h] at this) hdoc hloc (by simpa using hq) (by simpa using hnb) hL rfl hr
theorem runs_as {k L : Nat} {bs bs' : List (Str × Item)} {x : Str} {p' p : Pos} {value : Expr} {it : Item} (he : topBody.drop k = .Assign [.Name x p'] value p :: topBody.drop (k + 1)) (hloc : thisProg.main.scope.names.lookup x = some .local) (hnb : (x == "__builtins__") = false)
    (hs : swapsWith value (some (.Name x p')) p.line (mainEnv thisProg c F) = pure false) (hv : ValP w s₀ mg₀ c Pl F L bs value it)
    (hr : RunsP w s₀ mg₀ c Pl F L ((x, it) :: bs) (topBody.drop (k + 1)) bs') : RunsP w s₀ mg₀ c Pl F L bs (topBody.drop k) bs' := by
  refine ⟨?_⟩
  have hr := hr.out
  have hv := hv.out
  rw [he]
  exact runs_val rfl hloc (by simpa using hnb) hs hv hr
end
noncomputable def bs0 : List (Str × Item) := []
noncomputable abbrev bs1 : List (Str × Item) := ("__name__", .any) :: bs0
noncomputable abbrev bs2 : List (Str × Item) := ("rgb_to_yiq", .fn 1) :: bs1
noncomputable abbrev bs3 : List (Str × Item) := ("yiq_to_rgb", .fn 2) :: bs2
noncomputable abbrev bs4 : List (Str × Item) := ("rgb_to_hsv", .fn 3) :: bs3
noncomputable abbrev bs5 : List (Str × Item) := ("hsv_to_rgb", .fn 4) :: bs4
noncomputable abbrev bs6 : List (Str × Item) := ("__name__", .any) :: bs5
noncomputable abbrev bs7 : List (Str × Item) := ("b1_set", .dat (.set b1)) :: bs6
noncomputable abbrev bs8 : List (Str × Item) := ("in_table_b1", .fn 7) :: bs7
noncomputable abbrev bs9 : List (Str × Item) := ("b3_exceptions", .dat (.dIS b3)) :: bs8
noncomputable abbrev bs10 : List (Str × Item) := ("map_table_b3", .fn 9) :: bs9
noncomputable abbrev bs11 : List (Str × Item) := ("c6_set", .dat (.set c6)) :: bs10
noncomputable abbrev bs12 : List (Str × Item) := ("in_table_c6", .fn 11) :: bs11
noncomputable abbrev bs13 : List (Str × Item) := ("__name__", .any) :: bs12
noncomputable abbrev bs14 : List (Str × Item) := ("ENDMARKER", .dat (.int 0)) :: bs13
noncomputable abbrev bs15 : List (Str × Item) := ("LPAR", .dat (.int 7)) :: bs14
noncomputable abbrev bs16 : List (Str × Item) := ("RPAR", .dat (.int 8)) :: bs15
noncomputable abbrev bs17 : List (Str × Item) := ("LSQB", .dat (.int 9)) :: bs16
noncomputable abbrev bs18 : List (Str × Item) := ("RSQB", .dat (.int 10)) :: bs17
noncomputable abbrev bs19 : List (Str × Item) := ("COLON", .dat (.int 11)) :: bs18
noncomputable abbrev bs20 : List (Str × Item) := ("COMMA", .dat (.int 12)) :: bs19
noncomputable abbrev bs21 : List (Str × Item) := ("SEMI", .dat (.int 13)) :: bs20
noncomputable abbrev bs22 : List (Str × Item) := ("PLUS", .dat (.int 14)) :: bs21
noncomputable abbrev bs23 : List (Str × Item) := ("MINUS", .dat (.int 15)) :: bs22
noncomputable abbrev bs24 : List (Str × Item) := ("STAR", .dat (.int 16)) :: bs23
noncomputable abbrev bs25 : List (Str × Item) := ("SLASH", .dat (.int 17)) :: bs24
noncomputable abbrev bs26 : List (Str × Item) := ("VBAR", .dat (.int 18)) :: bs25
noncomputable abbrev bs27 : List (Str × Item) := ("AMPER", .dat (.int 19)) :: bs26
noncomputable abbrev bs28 : List (Str × Item) := ("LESS", .dat (.int 20)) :: bs27
noncomputable abbrev bs29 : List (Str × Item) := ("GREATER", .dat (.int 21)) :: bs28
noncomputable abbrev bs30 : List (Str × Item) := ("EQUAL", .dat (.int 22)) :: bs29
noncomputable abbrev bs31 : List (Str × Item) := ("DOT", .dat (.int 23)) :: bs30
noncomputable abbrev bs32 : List (Str × Item) := ("PERCENT", .dat (.int 24)) :: bs31
noncomputable abbrev bs33 : List (Str × Item) := ("LBRACE", .dat (.int 25)) :: bs32
noncomputable abbrev bs34 : List (Str × Item) := ("RBRACE", .dat (.int 26)) :: bs33
noncomputable abbrev bs35 : List (Str × Item) := ("EQEQUAL", .dat (.int 27)) :: bs34
noncomputable abbrev bs36 : List (Str × Item) := ("NOTEQUAL", .dat (.int 28)) :: bs35
noncomputable abbrev bs37 : List (Str × Item) := ("LESSEQUAL", .dat (.int 29)) :: bs36
noncomputable abbrev bs38 : List (Str × Item) := ("GREATEREQUAL", .dat (.int 30)) :: bs37
noncomputable abbrev bs39 : List (Str × Item) := ("TILDE", .dat (.int 31)) :: bs38
noncomputable abbrev bs40 : List (Str × Item) := ("CIRCUMFLEX", .dat (.int 32)) :: bs39
noncomputable abbrev bs41 : List (Str × Item) := ("LEFTSHIFT", .dat (.int 33)) :: bs40
noncomputable abbrev bs42 : List (Str × Item) := ("RIGHTSHIFT", .dat (.int 34)) :: bs41
noncomputable abbrev bs43 : List (Str × Item) := ("DOUBLESTAR", .dat (.int 35)) :: bs42
noncomputable abbrev bs44 : List (Str × Item) := ("PLUSEQUAL", .dat (.int 36)) :: bs43
noncomputable abbrev bs45 : List (Str × Item) := ("MINEQUAL", .dat (.int 37)) :: bs44
noncomputable abbrev bs46 : List (Str × Item) := ("STAREQUAL", .dat (.int 38)) :: bs45
noncomputable abbrev bs47 : List (Str × Item) := ("SLASHEQUAL", .dat (.int 39)) :: bs46
noncomputable abbrev bs48 : List (Str × Item) := ("PERCENTEQUAL", .dat (.int 40)) :: bs47
noncomputable abbrev bs49 : List (Str × Item) := ("AMPEREQUAL", .dat (.int 41)) :: bs48
noncomputable abbrev bs50 : List (Str × Item) := ("VBAREQUAL", .dat (.int 42)) :: bs49
noncomputable abbrev bs51 : List (Str × Item) := ("CIRCUMFLEXEQUAL", .dat (.int 43)) :: bs50
noncomputable abbrev bs52 : List (Str × Item) := ("LEFTSHIFTEQUAL", .dat (.int 44)) :: bs51
noncomputable abbrev bs53 : List (Str × Item) := ("RIGHTSHIFTEQUAL", .dat (.int 45)) :: bs52
noncomputable abbrev bs54 : List (Str × Item) := ("DOUBLESTAREQUAL", .dat (.int 46)) :: bs53
noncomputable abbrev bs55 : List (Str × Item) := ("DOUBLESLASH", .dat (.int 47)) :: bs54
noncomputable abbrev bs56 : List (Str × Item) := ("DOUBLESLASHEQUAL", .dat (.int 48)) :: bs55
noncomputable abbrev bs57 : List (Str × Item) := ("AT", .dat (.int 49)) :: bs56
noncomputable abbrev bs58 : List (Str × Item) := ("ATEQUAL", .dat (.int 50)) :: bs57
noncomputable abbrev bs59 : List (Str × Item) := ("RARROW", .dat (.int 51)) :: bs58
noncomputable abbrev bs60 : List (Str × Item) := ("ELLIPSIS", .dat (.int 52)) :: bs59
noncomputable abbrev bs61 : List (Str × Item) := ("COLONEQUAL", .dat (.int 53)) :: bs60
noncomputable abbrev bs62 : List (Str × Item) := ("EXCLAMATION", .dat (.int 54)) :: bs61
noncomputable abbrev bs63 : List (Str × Item) := ("NT_OFFSET", .dat (.int 256)) :: bs62
noncomputable abbrev bs64 : List (Str × Item) := ("EXACT_TOKEN_TYPES", .dat (.dSI exact)) :: bs63
noncomputable abbrev bs65 : List (Str × Item) := ("ISNONTERMINAL", .fn 64) :: bs64
noncomputable abbrev bs66 : List (Str × Item) := ("ISEOF", .fn 65) :: bs65
noncomputable abbrev bs67 : List (Str × Item) := ("__name__", .any) :: bs66
noncomputable abbrev bs68 : List (Str × Item) := ("_law_drawn", .fn 67) :: bs67
noncomputable abbrev bs69 : List (Str × Item) := ("_law_typed", .fn 68) :: bs68
noncomputable abbrev bs70 : List (Str × Item) := ("_law_symbols", .fn 69) :: bs69
noncomputable abbrev bs71 : List (Str × Item) := ("_law_statements", .fn 70) :: bs70
noncomputable abbrev bs72 : List (Str × Item) := ("_law_sent", .fn 71) :: bs71
noncomputable abbrev bs73 : List (Str × Item) := ("_law_due", .fn 72) :: bs72
noncomputable abbrev bs74 : List (Str × Item) := ("_law_seen", .fn 73) :: bs73
noncomputable abbrev bs75 : List (Str × Item) := ("_law_holds", .fn 74) :: bs74
noncomputable abbrev bs76 : List (Str × Item) := ("_law_paintings", .fn 75) :: bs75
noncomputable abbrev bs77 : List (Str × Item) := ("_law_heads", .fn 76) :: bs76
noncomputable abbrev bs78 : List (Str × Item) := ("_law_ways", .fn 77) :: bs77
noncomputable abbrev bs79 : List (Str × Item) := ("law", .fn 78) :: bs78
section
variable {w : World} {s₀ : Shared} {mg₀ : Str → Option Value} {c Pl F : Addr}
noncomputable def ascFrom : Int → List Int → Bool
  | _, [] => true
  | a, b :: l => decide (a < b) && ascFrom b l
noncomputable def asc : List Int → Bool
  | [] => true
  | a :: l => ascFrom a l
theorem ascFrom_lt : ∀ (l : List Int) (a : Int), ascFrom a l = true → ∀ x ∈ l, a < x
  | [], _, _ => fun x hx => nomatch hx
  | b :: l, a, h => fun x hx => by
    have h' : (decide (a < b) && ascFrom b l) = true := h
    rw [Bool.and_eq_true, decide_eq_true_eq] at h'
    cases hx with
    | head => exact h'.1
    | tail _ m => exact Int.lt_trans h'.1 (ascFrom_lt l b h'.2 x m)
theorem ascFrom_nodup : ∀ (l : List Int) (a : Int), ascFrom a l = true → (a :: l).Nodup
  | [], _, _ => by simp
  | b :: l, a, h => by
    have h' : (decide (a < b) && ascFrom b l) = true := h
    rw [Bool.and_eq_true, decide_eq_true_eq] at h'
    exact List.nodup_cons.mpr ⟨fun m => Int.lt_irrefl _ (ascFrom_lt (b :: l) a h a m), ascFrom_nodup l b h'.2⟩
theorem asc_nodup {l : List Int} (h : asc l = true) : l.Nodup := by
  cases l with
  | nil => simp
  | cons a l => exact ascFrom_nodup l a h
theorem q1 : (isPairs (keysAt 8) (valuesAt 8)).length = (keysAt 8).length := by kernel_rfl
theorem q2 : (keysAt 8).length = (valuesAt 8).length := by kernel_rfl
theorem q3 : isPairs (keysAt 8) (valuesAt 8) = b3 := by kernel_rfl
theorem q4 : (b3.map (·.1)).Nodup := asc_nodup (by decide +kernel)
theorem q5 : (keysAt 8).length ≤ 2000 := by decide +kernel
theorem q6 : (keysAt 8).length ≠ 0 := by decide +kernel
theorem q7 : (keysAt 8).all (·.isSome) = true := by kernel_rfl
theorem v8 {L : Nat} : ValP w s₀ mg₀ c Pl F L bs8 (.Dict (keysAt 8) (valuesAt 8) (dposAt 8)) (.dat (.dIS b3)) := ValP.mk <| @val_b3 thisProg w s₀ mg₀ c Pl F bs8 L (keysAt 8) (valuesAt 8) (dposAt 8) q1 q2 q3 q4 q5 q6 q7
theorem e3 : snPairs bs63 (keysAt 63) (valuesAt 63) = exact := by kernel_rfl
theorem e1 : exact.length = (keysAt 63).length := by kernel_rfl
theorem e2 : (keysAt 63).length = (valuesAt 63).length := by kernel_rfl
theorem e4 : (exact.map (·.1)).Nodup := by decide +kernel
theorem e5 : (keysAt 63).length ≤ 2000 := by decide +kernel
theorem e6 : (keysAt 63).length ≠ 0 := by decide +kernel
theorem e7 : (keysAt 63).all (·.isSome) = true := by kernel_rfl
theorem v63 {L : Nat} : ValP w s₀ mg₀ c Pl F L bs63 (.Dict (keysAt 63) (valuesAt 63) (dposAt 63)) (.dat (.dSI exact)) := ValP.mk <| @val_exact thisProg w s₀ mg₀ c Pl F bs63 L rfl (keysAt 63) (valuesAt 63) (dposAt 63) e3 e1 e2 e4 e5 e6 e7
theorem a8 : topBody.drop 8 = .Assign [.Name "b3_exceptions" (nposAt 8)] (.Dict (keysAt 8) (valuesAt 8) (dposAt 8)) (aposAt 8) :: topBody.drop (8 + 1) := by kernel_rfl
theorem a63 : topBody.drop 63 = .Assign [.Name "EXACT_TOKEN_TYPES" (nposAt 63)] (.Dict (keysAt 63) (valuesAt 63) (dposAt 63)) (aposAt 63) :: topBody.drop (63 + 1) := by kernel_rfl
theorem sw8 : swapsWith (.Dict (keysAt 8) (valuesAt 8) (dposAt 8)) (some (.Name "b3_exceptions" (nposAt 8))) (aposAt 8).line (mainEnv thisProg c F) = pure false := by kernel_rfl
theorem sw63 : swapsWith (.Dict (keysAt 63) (valuesAt 63) (dposAt 63)) (some (.Name "EXACT_TOKEN_TYPES" (nposAt 63))) (aposAt 63).line (mainEnv thisProg c F) = pure false := by kernel_rfl
theorem tp79 : RunsP w s₀ mg₀ c Pl F 243 bs79 (topBody.drop 79) bs79 := by
  have h : topBody.drop 79 = [] := by kernel_rfl
  rw [h]
  exact ⟨runs_nil⟩
theorem tp78 : RunsP w s₀ mg₀ c Pl F 228 bs78 (topBody.drop 78) bs79 :=
  runs_fn 242 (by unfold Fdk; kernel_rfl) (by kernel_rfl) (by kernel_rfl) (fun _ => by kernel_rfl) (by kernel_rfl) (by kernel_rfl) (by kernel_rfl) (by kernel_rfl) (by decide) (by kernel_rfl) tp79
theorem tp77 : RunsP w s₀ mg₀ c Pl F 220 bs77 (topBody.drop 77) bs79 :=
  runs_fn 227 (by unfold Fdk; kernel_rfl) (by kernel_rfl) (by kernel_rfl) (fun _ => by kernel_rfl) (by kernel_rfl) (by kernel_rfl) (by kernel_rfl) (by kernel_rfl) (by decide) (by kernel_rfl) tp78
theorem tp76 : RunsP w s₀ mg₀ c Pl F 211 bs76 (topBody.drop 76) bs79 :=
  runs_fn 219 (by unfold Fdk; kernel_rfl) (by kernel_rfl) (by kernel_rfl) (fun _ => by kernel_rfl) (by kernel_rfl) (by kernel_rfl) (by kernel_rfl) (by kernel_rfl) (by decide) (by kernel_rfl) tp77
theorem tp75 : RunsP w s₀ mg₀ c Pl F 206 bs75 (topBody.drop 75) bs79 :=
  runs_fn 210 (by unfold Fdk; kernel_rfl) (by kernel_rfl) (by kernel_rfl) (fun _ => by kernel_rfl) (by kernel_rfl) (by kernel_rfl) (by kernel_rfl) (by kernel_rfl) (by decide) (by kernel_rfl) tp76
theorem tp74 : RunsP w s₀ mg₀ c Pl F 194 bs74 (topBody.drop 74) bs79 :=
  runs_fn 205 (by unfold Fdk; kernel_rfl) (by kernel_rfl) (by kernel_rfl) (fun _ => by kernel_rfl) (by kernel_rfl) (by kernel_rfl) (by kernel_rfl) (by kernel_rfl) (by decide) (by kernel_rfl) tp75
theorem tp73 : RunsP w s₀ mg₀ c Pl F 189 bs73 (topBody.drop 73) bs79 :=
  runs_fn 193 (by unfold Fdk; kernel_rfl) (by kernel_rfl) (by kernel_rfl) (fun _ => by kernel_rfl) (by kernel_rfl) (by kernel_rfl) (by kernel_rfl) (by kernel_rfl) (by decide) (by kernel_rfl) tp74
theorem tp72 : RunsP w s₀ mg₀ c Pl F 182 bs72 (topBody.drop 72) bs79 :=
  runs_fn 188 (by unfold Fdk; kernel_rfl) (by kernel_rfl) (by kernel_rfl) (fun _ => by kernel_rfl) (by kernel_rfl) (by kernel_rfl) (by kernel_rfl) (by kernel_rfl) (by decide) (by kernel_rfl) tp73
theorem tp71 : RunsP w s₀ mg₀ c Pl F 170 bs71 (topBody.drop 71) bs79 :=
  runs_fn 181 (by unfold Fdk; kernel_rfl) (by kernel_rfl) (by kernel_rfl) (fun _ => by kernel_rfl) (by kernel_rfl) (by kernel_rfl) (by kernel_rfl) (by kernel_rfl) (by decide) (by kernel_rfl) tp72
theorem tp70 : RunsP w s₀ mg₀ c Pl F 152 bs70 (topBody.drop 70) bs79 :=
  runs_fn 169 (by unfold Fdk; kernel_rfl) (by kernel_rfl) (by kernel_rfl) (fun _ => by kernel_rfl) (by kernel_rfl) (by kernel_rfl) (by kernel_rfl) (by kernel_rfl) (by decide) (by kernel_rfl) tp71
theorem tp69 : RunsP w s₀ mg₀ c Pl F 140 bs69 (topBody.drop 69) bs79 :=
  runs_fn 151 (by unfold Fdk; kernel_rfl) (by kernel_rfl) (by kernel_rfl) (fun _ => by kernel_rfl) (by kernel_rfl) (by kernel_rfl) (by kernel_rfl) (by kernel_rfl) (by decide) (by kernel_rfl) tp70
theorem tp68 : RunsP w s₀ mg₀ c Pl F 135 bs68 (topBody.drop 68) bs79 :=
  runs_fn 139 (by unfold Fdk; kernel_rfl) (by kernel_rfl) (by kernel_rfl) (fun _ => by kernel_rfl) (by kernel_rfl) (by kernel_rfl) (by kernel_rfl) (by kernel_rfl) (by decide) (by kernel_rfl) tp69
theorem tp67 : RunsP w s₀ mg₀ c Pl F 132 bs67 (topBody.drop 67) bs79 :=
  runs_fn 134 (by unfold Fdk; kernel_rfl) (by kernel_rfl) (by kernel_rfl) (fun _ => by kernel_rfl) (by kernel_rfl) (by kernel_rfl) (by kernel_rfl) (by kernel_rfl) (by decide) (by kernel_rfl) tp68
theorem tp66 : RunsP w s₀ mg₀ c Pl F 132 bs66 (topBody.drop 66) bs79 :=
  runs_as (x := "__name__") rfl (by kernel_rfl) (by kernel_rfl) rfl ⟨val_str _ _ _⟩ tp67
theorem tp65 : RunsP w s₀ mg₀ c Pl F 130 bs65 (topBody.drop 65) bs79 :=
  runs_fn 131 (by unfold Fdk; kernel_rfl) (by kernel_rfl) (by kernel_rfl) (fun _ => by kernel_rfl) (by kernel_rfl) (by kernel_rfl) (by kernel_rfl) (by kernel_rfl) (by decide) (by kernel_rfl) tp66
theorem tp64 : RunsP w s₀ mg₀ c Pl F 76 bs64 (topBody.drop 64) bs79 :=
  runs_fn 129 (by unfold Fdk; kernel_rfl) (by kernel_rfl) (by kernel_rfl) (fun _ => by kernel_rfl) (by kernel_rfl) (by kernel_rfl) (by kernel_rfl) (by kernel_rfl) (by decide) (by kernel_rfl) tp65
theorem tp63 : RunsP w s₀ mg₀ c Pl F 76 bs63 (topBody.drop 63) bs79 :=
  @runs_as w s₀ mg₀ c Pl F 63 76 bs63 bs79 "EXACT_TOKEN_TYPES" (nposAt 63) (aposAt 63) (.Dict (keysAt 63) (valuesAt 63) (dposAt 63)) (.dat (.dSI exact)) a63 (by kernel_rfl) (by kernel_rfl) sw63 v63 tp64
theorem tp62 : RunsP w s₀ mg₀ c Pl F 76 bs62 (topBody.drop 62) bs79 :=
  runs_as (x := "NT_OFFSET") rfl (by kernel_rfl) (by kernel_rfl) rfl ⟨val_int _ _ _⟩ tp63
theorem tp61 : RunsP w s₀ mg₀ c Pl F 76 bs61 (topBody.drop 61) bs79 :=
  runs_as (x := "EXCLAMATION") rfl (by kernel_rfl) (by kernel_rfl) rfl ⟨val_int _ _ _⟩ tp62
theorem tp60 : RunsP w s₀ mg₀ c Pl F 76 bs60 (topBody.drop 60) bs79 :=
  runs_as (x := "COLONEQUAL") rfl (by kernel_rfl) (by kernel_rfl) rfl ⟨val_int _ _ _⟩ tp61
theorem tp59 : RunsP w s₀ mg₀ c Pl F 76 bs59 (topBody.drop 59) bs79 :=
  runs_as (x := "ELLIPSIS") rfl (by kernel_rfl) (by kernel_rfl) rfl ⟨val_int _ _ _⟩ tp60
theorem tp58 : RunsP w s₀ mg₀ c Pl F 76 bs58 (topBody.drop 58) bs79 :=
  runs_as (x := "RARROW") rfl (by kernel_rfl) (by kernel_rfl) rfl ⟨val_int _ _ _⟩ tp59
theorem tp57 : RunsP w s₀ mg₀ c Pl F 76 bs57 (topBody.drop 57) bs79 :=
  runs_as (x := "ATEQUAL") rfl (by kernel_rfl) (by kernel_rfl) rfl ⟨val_int _ _ _⟩ tp58
theorem tp56 : RunsP w s₀ mg₀ c Pl F 76 bs56 (topBody.drop 56) bs79 :=
  runs_as (x := "AT") rfl (by kernel_rfl) (by kernel_rfl) rfl ⟨val_int _ _ _⟩ tp57
theorem tp55 : RunsP w s₀ mg₀ c Pl F 76 bs55 (topBody.drop 55) bs79 :=
  runs_as (x := "DOUBLESLASHEQUAL") rfl (by kernel_rfl) (by kernel_rfl) rfl ⟨val_int _ _ _⟩ tp56
theorem tp54 : RunsP w s₀ mg₀ c Pl F 76 bs54 (topBody.drop 54) bs79 :=
  runs_as (x := "DOUBLESLASH") rfl (by kernel_rfl) (by kernel_rfl) rfl ⟨val_int _ _ _⟩ tp55
theorem tp53 : RunsP w s₀ mg₀ c Pl F 76 bs53 (topBody.drop 53) bs79 :=
  runs_as (x := "DOUBLESTAREQUAL") rfl (by kernel_rfl) (by kernel_rfl) rfl ⟨val_int _ _ _⟩ tp54
theorem tp52 : RunsP w s₀ mg₀ c Pl F 76 bs52 (topBody.drop 52) bs79 :=
  runs_as (x := "RIGHTSHIFTEQUAL") rfl (by kernel_rfl) (by kernel_rfl) rfl ⟨val_int _ _ _⟩ tp53
theorem tp51 : RunsP w s₀ mg₀ c Pl F 76 bs51 (topBody.drop 51) bs79 :=
  runs_as (x := "LEFTSHIFTEQUAL") rfl (by kernel_rfl) (by kernel_rfl) rfl ⟨val_int _ _ _⟩ tp52
theorem tp50 : RunsP w s₀ mg₀ c Pl F 76 bs50 (topBody.drop 50) bs79 :=
  runs_as (x := "CIRCUMFLEXEQUAL") rfl (by kernel_rfl) (by kernel_rfl) rfl ⟨val_int _ _ _⟩ tp51
theorem tp49 : RunsP w s₀ mg₀ c Pl F 76 bs49 (topBody.drop 49) bs79 :=
  runs_as (x := "VBAREQUAL") rfl (by kernel_rfl) (by kernel_rfl) rfl ⟨val_int _ _ _⟩ tp50
theorem tp48 : RunsP w s₀ mg₀ c Pl F 76 bs48 (topBody.drop 48) bs79 :=
  runs_as (x := "AMPEREQUAL") rfl (by kernel_rfl) (by kernel_rfl) rfl ⟨val_int _ _ _⟩ tp49
theorem tp47 : RunsP w s₀ mg₀ c Pl F 76 bs47 (topBody.drop 47) bs79 :=
  runs_as (x := "PERCENTEQUAL") rfl (by kernel_rfl) (by kernel_rfl) rfl ⟨val_int _ _ _⟩ tp48
theorem tp46 : RunsP w s₀ mg₀ c Pl F 76 bs46 (topBody.drop 46) bs79 :=
  runs_as (x := "SLASHEQUAL") rfl (by kernel_rfl) (by kernel_rfl) rfl ⟨val_int _ _ _⟩ tp47
theorem tp45 : RunsP w s₀ mg₀ c Pl F 76 bs45 (topBody.drop 45) bs79 :=
  runs_as (x := "STAREQUAL") rfl (by kernel_rfl) (by kernel_rfl) rfl ⟨val_int _ _ _⟩ tp46
theorem tp44 : RunsP w s₀ mg₀ c Pl F 76 bs44 (topBody.drop 44) bs79 :=
  runs_as (x := "MINEQUAL") rfl (by kernel_rfl) (by kernel_rfl) rfl ⟨val_int _ _ _⟩ tp45
theorem tp43 : RunsP w s₀ mg₀ c Pl F 76 bs43 (topBody.drop 43) bs79 :=
  runs_as (x := "PLUSEQUAL") rfl (by kernel_rfl) (by kernel_rfl) rfl ⟨val_int _ _ _⟩ tp44
theorem tp42 : RunsP w s₀ mg₀ c Pl F 76 bs42 (topBody.drop 42) bs79 :=
  runs_as (x := "DOUBLESTAR") rfl (by kernel_rfl) (by kernel_rfl) rfl ⟨val_int _ _ _⟩ tp43
theorem tp41 : RunsP w s₀ mg₀ c Pl F 76 bs41 (topBody.drop 41) bs79 :=
  runs_as (x := "RIGHTSHIFT") rfl (by kernel_rfl) (by kernel_rfl) rfl ⟨val_int _ _ _⟩ tp42
theorem tp40 : RunsP w s₀ mg₀ c Pl F 76 bs40 (topBody.drop 40) bs79 :=
  runs_as (x := "LEFTSHIFT") rfl (by kernel_rfl) (by kernel_rfl) rfl ⟨val_int _ _ _⟩ tp41
theorem tp39 : RunsP w s₀ mg₀ c Pl F 76 bs39 (topBody.drop 39) bs79 :=
  runs_as (x := "CIRCUMFLEX") rfl (by kernel_rfl) (by kernel_rfl) rfl ⟨val_int _ _ _⟩ tp40
theorem tp38 : RunsP w s₀ mg₀ c Pl F 76 bs38 (topBody.drop 38) bs79 :=
  runs_as (x := "TILDE") rfl (by kernel_rfl) (by kernel_rfl) rfl ⟨val_int _ _ _⟩ tp39
theorem tp37 : RunsP w s₀ mg₀ c Pl F 76 bs37 (topBody.drop 37) bs79 :=
  runs_as (x := "GREATEREQUAL") rfl (by kernel_rfl) (by kernel_rfl) rfl ⟨val_int _ _ _⟩ tp38
theorem tp36 : RunsP w s₀ mg₀ c Pl F 76 bs36 (topBody.drop 36) bs79 :=
  runs_as (x := "LESSEQUAL") rfl (by kernel_rfl) (by kernel_rfl) rfl ⟨val_int _ _ _⟩ tp37
theorem tp35 : RunsP w s₀ mg₀ c Pl F 76 bs35 (topBody.drop 35) bs79 :=
  runs_as (x := "NOTEQUAL") rfl (by kernel_rfl) (by kernel_rfl) rfl ⟨val_int _ _ _⟩ tp36
theorem tp34 : RunsP w s₀ mg₀ c Pl F 76 bs34 (topBody.drop 34) bs79 :=
  runs_as (x := "EQEQUAL") rfl (by kernel_rfl) (by kernel_rfl) rfl ⟨val_int _ _ _⟩ tp35
theorem tp33 : RunsP w s₀ mg₀ c Pl F 76 bs33 (topBody.drop 33) bs79 :=
  runs_as (x := "RBRACE") rfl (by kernel_rfl) (by kernel_rfl) rfl ⟨val_int _ _ _⟩ tp34
theorem tp32 : RunsP w s₀ mg₀ c Pl F 76 bs32 (topBody.drop 32) bs79 :=
  runs_as (x := "LBRACE") rfl (by kernel_rfl) (by kernel_rfl) rfl ⟨val_int _ _ _⟩ tp33
theorem tp31 : RunsP w s₀ mg₀ c Pl F 76 bs31 (topBody.drop 31) bs79 :=
  runs_as (x := "PERCENT") rfl (by kernel_rfl) (by kernel_rfl) rfl ⟨val_int _ _ _⟩ tp32
theorem tp30 : RunsP w s₀ mg₀ c Pl F 76 bs30 (topBody.drop 30) bs79 :=
  runs_as (x := "DOT") rfl (by kernel_rfl) (by kernel_rfl) rfl ⟨val_int _ _ _⟩ tp31
theorem tp29 : RunsP w s₀ mg₀ c Pl F 76 bs29 (topBody.drop 29) bs79 :=
  runs_as (x := "EQUAL") rfl (by kernel_rfl) (by kernel_rfl) rfl ⟨val_int _ _ _⟩ tp30
theorem tp28 : RunsP w s₀ mg₀ c Pl F 76 bs28 (topBody.drop 28) bs79 :=
  runs_as (x := "GREATER") rfl (by kernel_rfl) (by kernel_rfl) rfl ⟨val_int _ _ _⟩ tp29
theorem tp27 : RunsP w s₀ mg₀ c Pl F 76 bs27 (topBody.drop 27) bs79 :=
  runs_as (x := "LESS") rfl (by kernel_rfl) (by kernel_rfl) rfl ⟨val_int _ _ _⟩ tp28
theorem tp26 : RunsP w s₀ mg₀ c Pl F 76 bs26 (topBody.drop 26) bs79 :=
  runs_as (x := "AMPER") rfl (by kernel_rfl) (by kernel_rfl) rfl ⟨val_int _ _ _⟩ tp27
theorem tp25 : RunsP w s₀ mg₀ c Pl F 76 bs25 (topBody.drop 25) bs79 :=
  runs_as (x := "VBAR") rfl (by kernel_rfl) (by kernel_rfl) rfl ⟨val_int _ _ _⟩ tp26
theorem tp24 : RunsP w s₀ mg₀ c Pl F 76 bs24 (topBody.drop 24) bs79 :=
  runs_as (x := "SLASH") rfl (by kernel_rfl) (by kernel_rfl) rfl ⟨val_int _ _ _⟩ tp25
theorem tp23 : RunsP w s₀ mg₀ c Pl F 76 bs23 (topBody.drop 23) bs79 :=
  runs_as (x := "STAR") rfl (by kernel_rfl) (by kernel_rfl) rfl ⟨val_int _ _ _⟩ tp24
theorem tp22 : RunsP w s₀ mg₀ c Pl F 76 bs22 (topBody.drop 22) bs79 :=
  runs_as (x := "MINUS") rfl (by kernel_rfl) (by kernel_rfl) rfl ⟨val_int _ _ _⟩ tp23
theorem tp21 : RunsP w s₀ mg₀ c Pl F 76 bs21 (topBody.drop 21) bs79 :=
  runs_as (x := "PLUS") rfl (by kernel_rfl) (by kernel_rfl) rfl ⟨val_int _ _ _⟩ tp22
theorem tp20 : RunsP w s₀ mg₀ c Pl F 76 bs20 (topBody.drop 20) bs79 :=
  runs_as (x := "SEMI") rfl (by kernel_rfl) (by kernel_rfl) rfl ⟨val_int _ _ _⟩ tp21
theorem tp19 : RunsP w s₀ mg₀ c Pl F 76 bs19 (topBody.drop 19) bs79 :=
  runs_as (x := "COMMA") rfl (by kernel_rfl) (by kernel_rfl) rfl ⟨val_int _ _ _⟩ tp20
theorem tp18 : RunsP w s₀ mg₀ c Pl F 76 bs18 (topBody.drop 18) bs79 :=
  runs_as (x := "COLON") rfl (by kernel_rfl) (by kernel_rfl) rfl ⟨val_int _ _ _⟩ tp19
theorem tp17 : RunsP w s₀ mg₀ c Pl F 76 bs17 (topBody.drop 17) bs79 :=
  runs_as (x := "RSQB") rfl (by kernel_rfl) (by kernel_rfl) rfl ⟨val_int _ _ _⟩ tp18
theorem tp16 : RunsP w s₀ mg₀ c Pl F 76 bs16 (topBody.drop 16) bs79 :=
  runs_as (x := "LSQB") rfl (by kernel_rfl) (by kernel_rfl) rfl ⟨val_int _ _ _⟩ tp17
theorem tp15 : RunsP w s₀ mg₀ c Pl F 76 bs15 (topBody.drop 15) bs79 :=
  runs_as (x := "RPAR") rfl (by kernel_rfl) (by kernel_rfl) rfl ⟨val_int _ _ _⟩ tp16
theorem tp14 : RunsP w s₀ mg₀ c Pl F 76 bs14 (topBody.drop 14) bs79 :=
  runs_as (x := "LPAR") rfl (by kernel_rfl) (by kernel_rfl) rfl ⟨val_int _ _ _⟩ tp15
theorem tp13 : RunsP w s₀ mg₀ c Pl F 76 bs13 (topBody.drop 13) bs79 :=
  runs_as (x := "ENDMARKER") rfl (by kernel_rfl) (by kernel_rfl) rfl ⟨val_int _ _ _⟩ tp14
theorem tp12 : RunsP w s₀ mg₀ c Pl F 76 bs12 (topBody.drop 12) bs79 :=
  runs_as (x := "__name__") rfl (by kernel_rfl) (by kernel_rfl) rfl ⟨val_str _ _ _⟩ tp13
theorem tp11 : RunsP w s₀ mg₀ c Pl F 70 bs11 (topBody.drop 11) bs79 :=
  runs_fn 75 (by unfold Fdk; kernel_rfl) (by kernel_rfl) (by kernel_rfl) (fun _ => by kernel_rfl) (by kernel_rfl) (by kernel_rfl) (by kernel_rfl) (by kernel_rfl) (by decide) (by kernel_rfl) tp12
theorem tp10 : RunsP w s₀ mg₀ c Pl F 70 bs10 (topBody.drop 10) bs79 :=
  runs_as (x := "c6_set") rfl (by kernel_rfl) (by kernel_rfl) rfl ⟨val_c6 rfl (by kernel_rfl) (by kernel_rfl)⟩ tp11
theorem tp9 : RunsP w s₀ mg₀ c Pl F 67 bs9 (topBody.drop 9) bs79 :=
  runs_fn 69 (by unfold Fdk; kernel_rfl) (by kernel_rfl) (by kernel_rfl) (fun _ => by kernel_rfl) (by kernel_rfl) (by kernel_rfl) (by kernel_rfl) (by kernel_rfl) (by decide) (by kernel_rfl) tp10
theorem tp8 : RunsP w s₀ mg₀ c Pl F 67 bs8 (topBody.drop 8) bs79 :=
  @runs_as w s₀ mg₀ c Pl F 8 67 bs8 bs79 "b3_exceptions" (nposAt 8) (aposAt 8) (.Dict (keysAt 8) (valuesAt 8) (dposAt 8)) (.dat (.dIS b3)) a8 (by kernel_rfl) (by kernel_rfl) sw8 v8 tp9
theorem tp7 : RunsP w s₀ mg₀ c Pl F 44 bs7 (topBody.drop 7) bs79 :=
  runs_fn 66 (by unfold Fdk; kernel_rfl) (by kernel_rfl) (by kernel_rfl) (fun _ => by kernel_rfl) (by kernel_rfl) (by kernel_rfl) (by kernel_rfl) (by kernel_rfl) (by decide) (by kernel_rfl) tp8
theorem tp6 : RunsP w s₀ mg₀ c Pl F 44 bs6 (topBody.drop 6) bs79 :=
  runs_as (x := "b1_set") rfl (by kernel_rfl) (by kernel_rfl) rfl ⟨val_b1 rfl (by kernel_rfl) (by kernel_rfl) (by kernel_rfl) (.cons ⟨_, _, rfl⟩ (.cons ⟨_, _, rfl⟩ (.cons ⟨_, _, rfl⟩ (.cons ⟨_, _, rfl⟩ (.cons ⟨_, _, rfl⟩ (.cons ⟨_, _, rfl⟩ (.cons ⟨_, _, rfl⟩ (.cons ⟨_, _, rfl⟩ (.cons ⟨_, _, rfl⟩ (.cons ⟨_, _, rfl⟩ (.cons ⟨_, _, rfl⟩ (.nil))))))))))))⟩ tp7
theorem tp5 : RunsP w s₀ mg₀ c Pl F 44 bs5 (topBody.drop 5) bs79 :=
  runs_as (x := "__name__") rfl (by kernel_rfl) (by kernel_rfl) rfl ⟨val_str _ _ _⟩ tp6
theorem tp4 : RunsP w s₀ mg₀ c Pl F 25 bs4 (topBody.drop 4) bs79 :=
  runs_fn 43 (by unfold Fdk; kernel_rfl) (by kernel_rfl) (by kernel_rfl) (fun _ => by kernel_rfl) (by kernel_rfl) (by kernel_rfl) (by kernel_rfl) (by kernel_rfl) (by decide) (by kernel_rfl) tp5
theorem tp3 : RunsP w s₀ mg₀ c Pl F 8 bs3 (topBody.drop 3) bs79 :=
  runs_fn 24 (by unfold Fdk; kernel_rfl) (by kernel_rfl) (by kernel_rfl) (fun _ => by kernel_rfl) (by kernel_rfl) (by kernel_rfl) (by kernel_rfl) (by kernel_rfl) (by decide) (by kernel_rfl) tp4
theorem tp2 : RunsP w s₀ mg₀ c Pl F 3 bs2 (topBody.drop 2) bs79 :=
  runs_fn 7 (by unfold Fdk; kernel_rfl) (by kernel_rfl) (by kernel_rfl) (fun _ => by kernel_rfl) (by kernel_rfl) (by kernel_rfl) (by kernel_rfl) (by kernel_rfl) (by decide) (by kernel_rfl) tp3
theorem tp1 : RunsP w s₀ mg₀ c Pl F 0 bs1 (topBody.drop 1) bs79 :=
  runs_fn 2 (by unfold Fdk; kernel_rfl) (by kernel_rfl) (by kernel_rfl) (fun _ => by kernel_rfl) (by kernel_rfl) (by kernel_rfl) (by kernel_rfl) (by kernel_rfl) (by decide) (by kernel_rfl) tp2
theorem tp0 : RunsP w s₀ mg₀ c Pl F 0 bs0 (topBody.drop 0) bs79 :=
  runs_as (x := "__name__") rfl (by kernel_rfl) (by kernel_rfl) rfl ⟨val_str _ _ _⟩ tp1
theorem runs_top : Runs thisProg w s₀ mg₀ c Pl F 0 bs0 topBody bs79 := tp0.out
end
end Mine

namespace Mine
/-! M39: from a walk to the schedule -/
theorem runN_go {den : Code → Sem Fin} {p : Program} {w : World} : ∀ {n k : Nat} {s : Shared} {t : Thread} {σ : Shared} {τ : Thread} {s' : Shared} {t' : Thread}, k < n → PySem.runN den p w n s t = .running σ τ → PySem.runN den p w k s t = .running s' t' → ∃ s'' t'', step den p w s' t' = .go s'' t''
  | 0, _, _, _, _, _, _, _, h, _, _ => absurd h (Nat.not_lt_zero _)
  | n + 1, k, s, t, σ, τ, s', t', hk, h, h' => by
    simp only [PySem.runN] at h
    cases hs : step den p w s t with
    | halt o s₂ => rw [hs] at h; cases h
    | go s₂ t₂ =>
      rw [hs] at h
      cases k with
      | zero =>
        simp only [PySem.runN] at h'
        injection h' with e1 e2
        subst e1; subst e2
        exact ⟨_, _, hs⟩
      | succ k =>
        simp only [PySem.runN, hs] at h'
        exact runN_go (Nat.lt_of_succ_lt_succ hk) h h'
theorem sched_reach {p : Program} {w : World} {t : Sem Fin} {s₀ : Shared} (hz : s₀.asleep) {G : Shared → Prop} (hg : ∀ s, G s → s.gens = #[])
    (h : wpAny (model p w) callerA t (fun fin s' => fin = .done (.ret .none) ∧ G s') (fun _ _ => False) s₀) :
    ∃ n τ σ, schedN (denote table) p w n (.single s₀ ⟨t, .builtin "claim.caller" {}, default, []⟩) = .running (.single σ τ) ∧ through τ = true ∧ G σ ∧ σ.heap.life = s₀.heap.life := by
  have h1 := h (Ctx.of (.builtin "claim.caller" {}) []) default caller_in
  obtain ⟨n, s', σ, p', leaf, hr, hf, hl, _⟩ := wp_reaches_first h1
  rcases hl with ⟨a, rfl, rfl, hG⟩ | ⟨e, _, hF⟩
  · have hσ : σ = s' := Shared.eq_of_forget_eq hf (hg _ hG)
    subst hσ
    have h2 := wp_of_wpAny_done (R := fun _ s' => True ∧ leftWithCleanup s'.gens = false) caller_in (wpAny_mono h (fun fin s' q => ⟨_, q.1, trivial, by rw [hg _ q.2]; exact leftWithCleanup_false_of_bare (fun g hg => by simp at hg)⟩) fun _ _ q => q.elim) default
    obtain ⟨m, r, s₂, hm, _⟩ := (wp_iff_halts t (fun _ _ => True) _ _).mp h2
    obtain ⟨_, _, _, hcalm⟩ := runNI_real _ _ _ hm (outcomeOf_ends r)
    have hs := schedN_prefix (denote table) p w n s₀ ⟨t, .builtin "claim.caller" {}, default, []⟩ hz (fun k s₁ t₁ hk hrun => ⟨hcalm k s₁ t₁ hrun, by
      obtain ⟨_, _, e⟩ := runN_go hk hr hrun
      intro q
      exact absurd (e.symm.trans q) (by intro z; cases z)⟩)
    have hr' : PySem.runN (denote table) p w n s₀ ⟨t, .builtin "claim.caller" {}, default, []⟩ = _ := hr
    rw [hr'] at hs
    exact ⟨n, _, σ, hs, rfl, hG, runN_life_running hr'⟩
  · exact hF.elim
end Mine

namespace Mine
/-! M40: the top ran -/
section
variable (P : Params)
theorem bh_main : (boot_heap P).isNs mainGlobals = true := by kernel_rfl
theorem bh_blt : (boot_heap P).isNs builtinsNs = true := by kernel_rfl
theorem bh_st : (boot_heap P).isNs cStatics = true := by kernel_rfl
theorem bh_bm : (boot_heap P).bmainOk = true := by kernel_rfl
theorem bh_names : namesBound thisProg (boot_heap P) = true := by kernel_rfl
theorem bh_acc : (boot_heap P).accountedOkI (importedModules thisProg.main.body) = true := by kernel_rfl
theorem bh_sys : ((boot_heap P).get? sysModules).isSome = true := by kernel_rfl
theorem bh_view : (boot_heap P).bltView = bltViewBooted := by kernel_rfl
theorem bh_lim : (boot_heap P).nsMap cStatics "sys.recursionlimit" = none := by kernel_rfl
theorem bh_bi : ∀ b : BI, (boot_heap P).nsMap mainGlobals b.name = none ∧ (boot_heap P).nsMap builtinsNs b.name = some b.val
  | .len => ⟨by kernel_rfl, by kernel_rfl⟩
  | .chr => ⟨by kernel_rfl, by kernel_rfl⟩
  | .ord => ⟨by kernel_rfl, by kernel_rfl⟩
  | .int => ⟨by kernel_rfl, by kernel_rfl⟩
  | .max => ⟨by kernel_rfl, by kernel_rfl⟩
  | .min => ⟨by kernel_rfl, by kernel_rfl⟩
  | .set => ⟨by kernel_rfl, by kernel_rfl⟩
theorem bh_range : (boot_heap P).nsMap mainGlobals "range" = none ∧ (boot_heap P).nsMap builtinsNs "range" = some (.type "range") := ⟨by kernel_rfl, by kernel_rfl⟩
theorem bh_list : (boot_heap P).nsMap mainGlobals "list" = none ∧ (boot_heap P).nsMap builtinsNs "list" = some (.type "list") := ⟨by kernel_rfl, by kernel_rfl⟩
end
noncomputable def topTree (p : Program) : Sem Fin := do
  let code ← moduleCode p.main
  let frame ← newBodyFrame code mainNs mainNs
  let _ ← run (.body (behindTheImports p) { scope := p.main.scope, locals := mainNs, globals := mainNs, cells := [], code, frame := some frame })
  ret .none
theorem topStub_eq (p : Program) : topStub p = ⟨topTree p, .builtin "claim.caller" {}, default, []⟩ := rfl
theorem behind_top : behindTheImports thisProg = topBody := by kernel_rfl
theorem top_anns : hasAnns topBody = false := by kernel_rfl
theorem top_doc : docOf topBody = none := by kernel_rfl
section
variable {w : World} {s₀ : Shared}
noncomputable def mgB (w : World) : Str → Option Value := (boot_heap w.params).nsMap mainGlobals
theorem hs_start (hb : s₀.heap = boot_heap w.params) {h : Heap} {tk : Nat} {c Pl : Addr} (hk : ∀ b o, s₀.heap.get? b = some o → h.get? b = some o) (hc : s₀.heap.objs.size ≤ c) (hPl : s₀.heap.objs.size ≤ Pl) (hcode : h.IsCode c Pl #[]) :
    HS thisProg w s₀ (mgB w) c Pl { s₀ with heap := h, toks := tk } (fun _ => none) 0 bs0 := by
  have hG : s₀.heap.Ns mainGlobals (mgB w) := by rw [hb]; exact .of_isNs (bh_main _)
  have hB : s₀.heap.Ns builtinsNs ((boot_heap w.params).nsMap builtinsNs) := by rw [hb]; exact .of_isNs (bh_blt _)
  obtain ⟨bm, ob, e1, e2, e3, e4, e5, e6⟩ := Heap.bmainOk_spec (bh_bm w.params)
  rw [← hb] at e3
  obtain ⟨os, hos⟩ : ∃ o, s₀.heap.get? sysModules = some o := by rw [hb]; exact Option.isSome_iff_exists.mp (bh_sys _)
  have hlow := hG.lt
  refine ⟨⟨h, tk, rfl⟩, ⟨mgB w, [], ⟨hG.keeps hk, hcode, ⟨Nat.lt_of_lt_of_le hlow hc, Nat.lt_of_lt_of_le hlow hPl⟩, bm, ob, e1, e2, ?_, Nat.ne_of_lt (Nat.lt_of_lt_of_le (Heap.lt_size e3) hPl), hk _ _ e3, e4, e5, e6⟩, (fun t ht => by simp at ht), fun x => rfl⟩,
    fun b o _ _ e => hk b o e, (fun b o e => by cases e), rfl, rfl, ⟨os, hos⟩, Nat.ne_of_lt (Nat.lt_of_lt_of_le (Heap.lt_size hos) hPl), ⟨_, hB, bh_bi w.params, bh_range w.params, bh_list w.params⟩, Nat.ne_of_lt (Nat.lt_of_lt_of_le hB.lt hPl)⟩
  rintro rfl
  obtain ⟨o, es, ep, h1, h2, _⟩ := hG
  rw [h1] at e3; cases e3
  rw [h2] at e6; cases e6
theorem top_walk (hb : s₀.heap = boot_heap w.params) (hg : s₀.gens = #[]) : wpAny (model thisProg w) callerA (topTree thisProg)
    (fun fin s' => fin = .done (.ret .none) ∧ (s'.gens = #[] ∧ ∃ c Pl K L, s₀.heap.objs.size ≤ Pl ∧ HS thisProg w s₀ (mgB w) c Pl s' K L bs79)) (fun _ _ => False) s₀ := by
  have hG : s₀.heap.Ns mainGlobals (mgB w) := by rw [hb]; exact .of_isNs (bh_main _)
  unfold topTree
  refine wpAny_bind (wpAny_moduleCode fun c Pl h₁ tk₁ hk hc hPl hcode => ?_)
  unfold newBodyFrame
  refine wpAny_bind (wpAny_bind (wpAny_nsGet (hG.keeps hk) (wpAny_alloc ?_)))
  rw [behind_top]
  refine wpAny_bind (wpAny_run ?_)
  have hs := hs_start (tk := tk₁) hb (h := h₁.push { cls := .type "frame", slots := #[some (.ref c), some (.ref mainNs), some (.ref mainNs), none, some ((mgB w "__name__").getD .none), none, some (.ref builtinsNs)] }) (fun b o e => Heap.get?_push_of_some _ (hk b o e)) hc hPl (hcode.push _)
  refine codeAny_body top_anns top_doc (runs_top (F := h₁.objs.size) _ _ _ _ _ rfl hs fun s' K' L' X => ?_)
  refine wpAny_pure ⟨rfl, ?_, c, Pl, K', L', hPl, X⟩
  obtain ⟨_, _, e⟩ := X.same
  rw [e]; exact hg
end
end Mine

namespace Mine
/-! M41: what the top left -/
section
variable {w : World} {s₀ s : Shared} {c Pl : Addr} {K : KM} {L : Nat}
theorem hs_at (hPl : s₀.heap.objs.size ≤ Pl) (X : HS thisProg w s₀ (mgB w) c Pl s K L bs79) {b : Addr} (hb : b ≠ mainGlobals) : ∀ o, s₀.heap.get? b = some o → s.heap.get? b = some o :=
  fun o e => X.keep b o (Nat.ne_of_lt (Nat.lt_of_lt_of_le (Heap.lt_size e) hPl)) hb e
theorem get_same {h h' : Heap} {a : Addr} {o : Obj} (e : h.get? a = some o) (k : ∀ o, h.get? a = some o → h'.get? a = some o) : h'.get? a = h.get? a := (k o e).trans e.symm
theorem names79 : bs79.all (fun p => thisProg.boundNames.contains p.1) = true := by kernel_rfl
theorem laid79 : laidNames.all (fun x => (bs79.lookup x).isNone) = true := by kernel_rfl
theorem lookup_mem {α : Type} : ∀ {l : List (Str × α)} {x : Str} {a : α}, l.lookup x = some a → ∃ p ∈ l, p.1 = x
  | [], _, _, h => by simp at h
  | p :: l, x, a, h => by
    rw [List.lookup_cons] at h
    by_cases hx : (x == p.1) = true
    · exact ⟨p, by simp, (by simpa using hx : x = p.1).symm⟩
    · have : (x == p.1) = false := by simpa using hx
      rw [this] at h
      obtain ⟨q, hq, e⟩ := lookup_mem h
      exact ⟨q, List.mem_cons_of_mem _ hq, e⟩
theorem top_ran (hz : s₀.asleep) (hb : s₀.heap = boot_heap w.params) (hg : s₀.gens = #[]) :
    ∃ s₁, TopRan thisProg w s₀ s₁ ∧ s₁.asleep ∧ s₁.gens = #[] ∧ ∃ c Pl K L, s₀.heap.objs.size ≤ Pl ∧ HS thisProg w s₀ (mgB w) c Pl s₁ K L bs79 := by
  obtain ⟨n, τ, σ, hrun, hth, ⟨hgs, c, Pl, K, L, hPl, X⟩, hlife⟩ := sched_reach hz (fun _ h => h.1) (top_walk hb hg)
  have hG : s₀.heap.Ns mainGlobals (mgB w) := by rw [hb]; exact .of_isNs (bh_main _)
  have hB : s₀.heap.Ns builtinsNs ((boot_heap w.params).nsMap builtinsNs) := by rw [hb]; exact .of_isNs (bh_blt _)
  have hC : s₀.heap.Ns cStatics ((boot_heap w.params).nsMap cStatics) := by rw [hb]; exact .of_isNs (bh_st _)
  obtain ⟨mg, ts, hm, hts, hBd⟩ := X.ex
  have g1 : ∀ x, globalOf σ.heap x = mg x := fun x => Claim2Try.globalOf_of_ns hm.g x
  have g0 : ∀ x, globalOf s₀.heap x = mgB w x := fun x => Claim2Try.globalOf_of_ns hG x
  obtain ⟨oC, _, _, hoC, _⟩ := id hC
  have eC : σ.heap.get? cStatics = s₀.heap.get? cStatics := get_same hoC (hs_at hPl X (by decide))
  obtain ⟨oB, _, _, hoB, _⟩ := id hB
  have eB : σ.heap.get? builtinsNs = s₀.heap.get? builtinsNs := get_same hoB (hs_at hPl X (by decide))
  have eS : ∀ key, staticOf σ.heap key = staticOf s₀.heap key := fun key => by unfold staticOf; rw [eC]
  have mgx : ∀ x, bs79.lookup x = none → mg x = mgB w x := fun x hx => by
    have := hBd x
    rw [hx] at this; exact this
  refine ⟨σ, ⟨⟨n, τ, hrun, hth⟩, hlife, ?_, ?_, ?_, ?_, ?_, ?_, ?_, ?_, ?_, ?_⟩, Shared.asleep_of_life hlife hz, hgs, c, Pl, K, L, hPl, X⟩
  · obtain ⟨h', t', e⟩ := X.same
    exact Shared.rest_eq (by rw [e])
  · intro b o e hn
    exact hs_at hPl X (fun q => hn (.inl q)) o e
  · have h0 : staticsAccountedI s₀.heap (importedModules thisProg.main.body) := by rw [hb]; exact Heap.accountedI_of_ok (bh_acc _)
    intro key v hv
    have := h0 key v ((eS key).symm.trans hv)
    simpa only [eS] using this
  · exact fun key => .inl (eS key)
  · have hgm : σ.heap.Ns mainGlobals mg := hm.g
    obtain ⟨o, es, ep, h1, h2, h3, _⟩ := hgm
    exact ⟨o, es, ep, h1, h2, h3⟩
  · intro x hx
    have h0 : builtinsAsBooted s₀.heap := by rw [hb]; exact fun x hx => (Pin.builtinOf_eq (bh_blt _) x).trans (Heap.of_bltView (bh_blt _) (bh_view _) x hx)
    have : builtinOf σ.heap x = builtinOf s₀.heap x := by unfold builtinOf; rw [eB]
    exact this.trans (h0 x hx)
  · obtain ⟨bm, o, e1, _, _, _, e2, e3, e4, _⟩ := hm.bmod
    exact ⟨bm, o, (g1 _).trans e1, e2, e3, e4⟩
  · intro g hgm
    rw [hgs] at hgm; simp at hgm
  · intro x v hv
    rw [g1] at hv
    cases hl : bs79.lookup x with
    | none =>
      have h0 := names_of_bound (bh_names w.params)
      exact h0 x v (by rw [← hb]; exact (g0 x).trans ((mgx x hl).symm.trans hv))
    | some it =>
      obtain ⟨p, hp, rfl⟩ := lookup_mem hl
      exact .inr (by have := List.all_eq_true.mp names79 p hp; simpa using this)
  · intro x hx
    have := List.all_eq_true.mp laid79 x hx
    exact (g1 x).trans ((mgx x (by simpa using this)).trans (g0 x).symm)
end
end Mine

namespace Mine
/-! M42: the call of the law behind the top -/
noncomputable def isFn : Option Item → Nat → Bool
  | some (.fn k), j => k == j
  | _, _ => false
theorem isFn_eq {o : Option Item} {j : Nat} (h : isFn o j = true) : o = some (.fn j) := by
  match o with
  | some (.fn k) => have : k = j := by simpa [isFn] using h
                    rw [this]
  | some (.dat _) => cases h
  | some .any => cases h
  | none => cases h
theorem fns79 : (fnNames.zip ixOf).all (fun p => isFn (bs79.lookup p.1) p.2) = true := by kernel_rfl
theorem gcs79 : ∀ p ∈ gcs, bs79.lookup p.1 = some (.dat p.2) := by
  intro p hp
  simp only [gcs, List.mem_cons, List.not_mem_nil, or_false] at hp
  rcases hp with rfl | rfl | rfl | rfl | rfl | rfl <;> kernel_rfl
theorem bi79 : ∀ b : BI, bs79.lookup b.name = none
  | .len => by kernel_rfl
  | .chr => by kernel_rfl
  | .ord => by kernel_rfl
  | .int => by kernel_rfl
  | .max => by kernel_rfl
  | .min => by kernel_rfl
  | .set => by kernel_rfl
theorem range79 : bs79.lookup ("range" : Str) = none := by kernel_rfl
theorem law79 : bs79.lookup ("law" : Str) = some (.fn 78) := by kernel_rfl
theorem zip_mem {α β : Type} : ∀ {xs : List α} {ys : List β} {i : Nat} {x : α} {y : β}, xs[i]? = some x → ys[i]? = some y → (x, y) ∈ xs.zip ys
  | [], _, _, _, _, h, _ => by simp at h
  | _ :: _, [], _, _, _, _, h => by simp at h
  | a :: xs, b :: ys, 0, x, y, h, h' => by
    simp at h h'
    subst h; subst h'
    simp
  | a :: xs, b :: ys, i + 1, x, y, h, h' => by
    simp only [List.zip_cons_cons, List.mem_cons]
    exact .inr (zip_mem (by simpa using h) (by simpa using h'))
section
variable {w : World} {s₀ s : Shared} {c Pl : Addr} {K : KM} {L : Nat}
theorem left_of (hb : s₀.heap = boot_heap w.params) (hPl : s₀.heap.objs.size ≤ Pl) (X : HS thisProg w s₀ (mgB w) c Pl s K L bs79) : Left thisProg w K s.heap := by
  have hB : s₀.heap.Ns builtinsNs ((boot_heap w.params).nsMap builtinsNs) := by rw [hb]; exact .of_isNs (bh_blt _)
  have hC : s₀.heap.Ns cStatics ((boot_heap w.params).nsMap cStatics) := by rw [hb]; exact .of_isNs (bh_st _)
  obtain ⟨mg, ts, hm, hts, hBd⟩ := X.ex
  have mgx : ∀ x, bs79.lookup x = none → mg x = mgB w x := fun x hx => by
    have := hBd x
    rw [hx] at this; exact this
  have mgi : ∀ x it, bs79.lookup x = some it → ∃ v, mg x = some v ∧ it.ok thisProg w K v := fun x it hx => by
    have := hBd x
    rw [hx] at this; exact this
  refine ⟨⟨mg, (boot_heap w.params).nsMap builtinsNs, hm.g, hB.at' (hs_at hPl X (by decide)), ?_, ?_, ?_, ?_⟩, ⟨_, hC.at' (hs_at hPl X (by decide)), bh_lim _⟩, ?_, X.kn⟩
  · intro i x d hi
    exact mgi x (.dat d) (gcs79 (x, d) (List.mem_of_getElem? hi))
  · intro b
    exact ⟨(mgx _ (bi79 b)).trans (bh_bi w.params b).1, (bh_bi w.params b).2⟩
  · exact ⟨(mgx _ range79).trans (bh_range w.params).1, (bh_range w.params).2⟩
  · intro i x k hi hk
    have := List.all_eq_true.mp fns79 (x, k) (zip_mem hi hk)
    exact mgi x (.fn k) (isFn_eq this)
  · obtain ⟨o, ho⟩ := X.big
    exact ⟨o, hs_at hPl X (by decide) o ho⟩
theorem law_at (hb : s₀.heap = boot_heap w.params) (X : HS thisProg w s₀ (mgB w) c Pl s K L bs79) : ∃ mg a o pm c', s.heap.Ns mainGlobals mg ∧ mg "law" = some (.ref a) ∧ s.heap.get? a = some o ∧ o.data = .func (fdAt 78 pm (.ref c')) ∧ s.heap.CodeRec (.ref c') (nameAt 78) := by
  obtain ⟨mg, ts, hm, hts, hBd⟩ := X.ex
  have := hBd "law"
  rw [law79] at this
  obtain ⟨v, hv, a, o, pm, c', rfl, h2, h3, h4⟩ := this
  exact ⟨mg, a, o, pm, c', hm.g, hv, X.kn _ _ h2, h3, h4 _ X.kn⟩
end
end Mine

namespace Mine
/-! M43: the claim -/
abbrev thisLaw : OpenLaw := PySem.Challenge.rw_re0172_01
theorem no_false {P : Prop} (h : false = true) : P := nomatch h
theorem has_int {d : WData} (h : WShape.has [] d .int = true) : ∃ i, d = .int i := by
  cases d <;> first | exact ⟨_, rfl⟩ | exact no_false h
theorem has_items : ∀ {xs : List WData}, WShape.hasItems [] xs .int = true → ∃ ys : List Int, xs = ys.map .int
  | [], _ => ⟨[], rfl⟩
  | x :: xs, h => by
    have h' : (WShape.has [] x .int && WShape.hasItems [] xs .int) = true := h
    obtain ⟨h1, h2⟩ := Bool.and_eq_true_iff.mp h'
    obtain ⟨i, rfl⟩ := has_int h1
    obtain ⟨ys, rfl⟩ := has_items h2
    exact ⟨i :: ys, rfl⟩
theorem has_list {d : WData} (h : WShape.has [] d (.list .int) = true) : ∃ ys : List Int, d = .list (ys.map .int) := by
  cases d with
  | list xs =>
    have h' : (WShape.hasItems [] xs .int || false) = true := h
    rw [Bool.or_false] at h'
    obtain ⟨ys, rfl⟩ := has_items h'
    exact ⟨ys, rfl⟩
  | _ => exact no_false h
theorem pre_args {args : List WData} (h : thisLaw.row.toRowW.claim.pre args = true) : ∃ xs : List Int, args = [.list (xs.map .int)] ∧ xs.length ≤ 63 := by
  have h' : (WShape.hasAll [] args [.list .int] && thisLaw.pre.holds [] { args := args }) = true := h
  obtain ⟨h1, h2⟩ := Bool.and_eq_true_iff.mp h'
  cases args with
  | nil => exact no_false h1
  | cons d r => cases r with
    | cons _ _ => exact no_false ((Bool.and_false _).symm.trans h1)
    | nil =>
      have h1' : (WShape.has [] d (.list .int) && true) = true := h1
      obtain ⟨ys, rfl⟩ := has_list (Bool.and_eq_true_iff.mp h1').1
      refine ⟨ys, rfl, ?_⟩
      have h3 : (fun b : Bool => (WTm.and (.not (.lit (.bool b))) (.lit (.bool true))).holds [] { args := [] }) (decide ((63 : Int) < ((ys.map WData.int).length : Int))) = true := h2
      rw [List.length_map] at h3
      by_cases hl : (63 : Int) < (ys.length : Int)
      · rw [decide_eq_true hl] at h3; exact no_false h3
      · omega
theorem lay_ints {prog : Program} {w : World} {R : WRecords} {cl : Str → Option Addr} {P : Params} {ord : List DictEntry → List DictEntry} : ∀ (xs : List Int) (s : Shared), ∃ vs tk, layAllW R cl P ord (xs.map .int) s = some (vs, { s with toks := tk }) ∧ ∀ K, Reps prog w K (xs.map D.int) vs
  | [], s => ⟨[], s.toks, rfl, fun _ => .nil⟩
  | i :: xs, s => by
    obtain ⟨vs, tk, e, r⟩ := lay_ints (prog := prog) (w := w) (R := R) (cl := cl) (P := P) (ord := ord) xs { s with toks := s.toks + 1 }
    refine ⟨.int i s.toks :: vs, tk, ?_, fun K => .cons (.int _ _) (r K)⟩
    show (match layAllW R cl P ord (xs.map .int) { s with toks := s.toks + 1 } with | some r => some (Value.int i s.toks :: r.1, r.2) | none => none) = _
    rw [e]
theorem lay_list {prog : Program} {w : World} {R : WRecords} {cl : Str → Option Addr} {P : Params} {ord : List DictEntry → List DictEntry} (xs : List Int) (s : Shared) : ∃ vs tk, (∀ K, Reps prog w K (xs.map D.int) vs) ∧
    layAllW R cl P ord [.list (xs.map .int)] s = some ([.ref s.heap.objs.size], { s with heap := s.heap.push { cls := .type "list", data := .seq vs.toArray }, toks := tk }) := by
  obtain ⟨vs, tk, e, r⟩ := lay_ints (prog := prog) (w := w) (R := R) (cl := cl) (P := P) (ord := ord) xs s
  exact ⟨vs, tk, r, by simp only [layAllW, layW, e]⟩
end Mine

namespace Mine
/-! M44: the call from the claim's caller -/
noncomputable def lawTree (vs : List Value) : Sem Fin := do
  match ← nsGet mainNs thisLaw.row.name with
  | some f => do ret (← PySem.call f vs)
  | none => unsupported "claim.caller:no-such-global"
theorem callStub_eq : callStub thisLaw.row.name = fun vs => ⟨lawTree vs, .builtin "claim.caller" {}, default, []⟩ := rfl
theorem law_frees : frees thisLaw.row.toRowW = true := by kernel_rfl
section
variable {w : World} {s₀ s : Shared} {c Pl : Addr} {K : KM} {L : Nat}
theorem call_from {kept : Heap → Prop} {free : Addr → Prop} {gens : Prop} (hkept : ∀ h, kept h) (hz : s.asleep) (hg : s.gens = #[]) (hb : s₀.heap = boot_heap w.params) (hPl : s₀.heap.objs.size ≤ Pl) (X : HS thisProg w s₀ (mgB w) c Pl s K L bs79) :
    thisLaw.row.toRowW.claim.CallFrom (callStub thisLaw.row.name) w free gens kept s := by
  rw [callStub_eq]
  refine ClaimW.callFrom_of_specG (c := thisLaw.row.toRowW.claim) hz hg fun args hpre hlay ord hord => ?_
  obtain ⟨xs, rfl, hlen⟩ := pre_args hpre
  obtain ⟨vs, tk, hr, hlaid⟩ := lay_list (prog := thisProg) (w := w) (R := thisLaw.row.toRowW.claim.records) (cl := classAt s.heap) (P := w.params) (ord := ord) xs s
  refine ⟨_, _, hlaid, ?_⟩
  have keeps := layAllW_keeps _ _ _ hlaid
  obtain ⟨as, hrd, hin, hold⟩ := reads_layAllW hord _ _ _ hlaid hlay _ (fun _ _ e => e)
  have LD : Laid thisLaw.row.toRowW.claim.records w s _ [.list (xs.map .int)] [.ref s.heap.objs.size] as := ⟨⟨ord, hord, hlaid⟩, hrd, hin, hold, keeps, hg, rfl⟩
  obtain ⟨hsame, hu, ha, hap, hm⟩ := frees_parts law_frees
  have hi := ident_freeW hu ha hap
  have LF := left_of hb hPl X
  obtain ⟨mg, a, o, pm, c', hn, hmg, ho, hd, hcd⟩ := law_at hb X
  generalize hH : s.heap.push { cls := Value.type "list", data := Data.seq vs.toArray } = H at *
  have up : ∀ b o, s.heap.get? b = some o → H.get? b = some o := fun b o e => hH ▸ Heap.get?_push_of_some _ e
  have hnew : H.get? s.heap.objs.size = some { cls := .type "list", data := .seq vs.toArray } := hH ▸ Heap.get?_push_size _ rfl
  have hK0 : K s.heap.objs.size = none := X.kn.none_size (Nat.le_refl _)
  have hcall := law_call LF ho hd hcd xs hlen callerA { s with heap := H, toks := tk } (.ref s.heap.objs.size) (K.add s.heap.objs.size { cls := .type "list", data := .seq vs.toArray }) up (Le.add _ hK0) ((X.kn.keeps up).add hnew) ⟨by decide, by decide, by decide⟩
    (.list (KM.add_self _ _ _) (hr _))
  unfold lawTree
  refine wpAny_bind (wpAny_nsGet (hn.keeps up) ?_)
  have e : mg thisLaw.row.name = some (.ref a) := hmg
  rw [e]
  refine wpAny_bind (wpAny_mono hcall (fun v s' g => ?_) fun _ _ q => q.elim)
  refine wpAny_pure ⟨_, rfl, ?_⟩
  obtain ⟨K'', x, r⟩ := g
  cases r
  obtain ⟨h', t', e', k'⟩ := x.keeps
  have hpost : thisLaw.row.toRowW.claim.post [.list (xs.map .int)] (.bool true) [.list (xs.map .int)] = true := by
    show (WShape.has [] (.bool true) .bool && (WTm.eq .res (.lit (.bool true))).holds [] { args := [.list (xs.map .int)], res := some (.bool true), after := [.list (xs.map .int)] }) = true
    rw [Bool.and_eq_true_iff]
    exact ⟨by decide +kernel, by simp [WTm.holds, WTm.value, same]⟩
  have G : GoodWG thisLaw.row.toRowW.claim (classAt s.heap) (ExcName.means s.heap) [.list (xs.map .int)] { s with heap := H, toks := tk } (.ok (.ret (.bool true))) s' :=
    ⟨.inl ⟨_, .bool true, [], rfl, fun _ => rfl, .bool _, hpost, fun _ => ⟨List.nodup_nil, fun a h => by simp at h⟩⟩, .of_keep (Keeps.heap x.keeps), by rw [e'], .of_eq (by rw [e']; exact hg)⟩
  have z := G.laid (c := thisLaw.row.toRowW.claim) hsame rfl hi LD
  exact ⟨z.1, z.2.1, z.2.2, hkept _⟩
end
end Mine

namespace Mine
/-! M45: the whole -/
theorem law_params : paramsAt 78 = (paramsAt 78) := rfl
theorem law_theDef : thisProg.theDef "law" = some (paramsAt 78, bodyAt 78, fscopeAt 78) := by kernel_rfl
theorem law_name : nameAt 78 = "law" := by kernel_rfl
theorem law_dflt : (paramsAt 78).defaults = [] := by kernel_rfl
theorem law_kw : kwWritten? (paramsAt 78).kwonlyargs (paramsAt 78).kw_defaults = some [] := by kernel_rfl
section
variable {w : World} {s₀ s : Shared} {c Pl : Addr} {K : KM} {L : Nat}
theorem law_pinned (hb : s₀.heap = boot_heap w.params) (X : HS thisProg w s₀ (mgB w) c Pl s K L bs79) : isTheDefsW thisProg s.heap "law" := by
  obtain ⟨mg, a, o, pm, c', hn, hmg, ho, hd, hcd⟩ := law_at hb X
  exact ⟨a, o, _, _, _, _, (Claim2Try.globalOf_of_ns hn _).trans hmg, ho, hd, law_theDef, law_name, law_name, rfl, rfl, rfl, rfl, rfl, rfl, .inl ⟨law_dflt, rfl⟩, [], law_kw, .inl ⟨rfl, rfl⟩⟩
end
theorem law_opening : opening thisProg = plainProg thisProg.main.scope.names := by kernel_rfl
theorem law_fence : ∀ s, fenceModules? thisProg s = some s := fun s => by rfl
theorem law_bare : thisProg.bare := ⟨rfl, rfl, rfl, rfl, rfl, by kernel_rfl⟩
theorem law_opens : opensWell thisProg = true := by kernel_rfl
theorem looks_1 : sreFenced thisProg.main = true := by kernel_rfl
theorem looks_2 : ((moduleNames thisProg.main.body).isEmpty || lookedIntoSs (moduleNames thisProg.main.body) thisProg.main.body) = true := by kernel_rfl
theorem looks_3 : namesResolve thisProg = true := by kernel_rfl
theorem looks_4 : (thisProg.boundNames.all (fun n => !worldNames.contains n)) = true := by kernel_rfl
theorem reads_vars : readsOut thisProg thisProg.main.body "vars" = false := by kernel_rfl
theorem reads_dir : readsOut thisProg thisProg.main.body "dir" = false := by kernel_rfl
theorem reads_locals : readsOut thisProg thisProg.main.body "locals" = false := by kernel_rfl
theorem reads_none : (["vars", "dir", "locals"] : List Str).filter (readsOut thisProg thisProg.main.body) = [] := by
  rw [List.filter_cons_of_neg (by rw [reads_vars]; decide), List.filter_cons_of_neg (by rw [reads_dir]; decide), List.filter_cons_of_neg (by rw [reads_locals]; decide)]
  rfl
theorem looks_5 : (noRoadLSs { strict := !(importedModules thisProg.main.body).all cThrough.contains, foot := none, bare := (["vars", "dir", "locals"] : List Str).filter (readsOut thisProg thisProg.main.body) } thisProg.main.body) = true := by
  rw [reads_none]
  kernel_rfl
theorem looks_6 : (namesMeet thisProg thisProg.main.body fun _ n => attrL n) = true := by kernel_rfl
theorem law_looks : looksOpen thisProg = true := by
  unfold looksOpen
  rw [looks_1, looks_2, looks_3, looks_4, looks_5, looks_6]
  rfl
theorem law_rowSaid : thisLaw.row.wellSaid = true := by
  unfold OpenRow.wellSaid OpenRow.partSaid
  rw [show looksOpen thisLaw.row.prog = true from law_looks]
  kernel_rfl
theorem law_said : thisLaw.wellSaid = true := by
  unfold OpenLaw.wellSaid
  rw [law_rowSaid]
  kernel_rfl
theorem law_promised : thisLaw.row.toRowW.promised := ⟨[.list []], by kernel_rfl, by kernel_rfl⟩
theorem law_holds : thisLaw.Holds := by
  refine ⟨law_said, law_rowSaid, law_promised, ⟨law_bare, law_opens, rfl⟩, law_promised.witness, fun w => ?_⟩
  have h := boot_open (p := thisProg) (N := 600) law_opening (by decide +kernel) law_fence w
  rw [← table_eq_tree] at h
  obtain ⟨s₀, h2, hv⟩ := Option.map_eq_some_iff.mp h
  obtain ⟨s, h4, h5⟩ := Option.bind_eq_some_iff.mp h2
  have A := AfterImport.of_importEnds h4
  refine ⟨⟨s, A⟩, fun s' hs' => ?_⟩
  obtain rfl : s' = s := AfterImport.unique hs' A
  have z : s₀.asleep := Shared.asleep_of_life (fence_lifeW h5) A.life
  have hb : s₀.heap = boot_heap w.params := congrArg (·.1) hv
  have hg : s₀.gens = #[] := congrArg (·.2.1) hv
  obtain ⟨s₁, T, z₁, hg₁, c, Pl, K, L, hPl, X⟩ := top_ran z hb hg
  refine ⟨s₀, h5, hg, s₁, T, fun n hn => ?_, (fun x hx => nomatch hx), (fun x hx => nomatch hx), call_from (fun h q => nomatch q) z₁ hg₁ hb hPl X⟩
  have : n = "law" := by
    have hn' : n ∈ [("law" : Str)] := hn
    simpa using hn'
  subst this
  exact law_pinned hb X
end Mine

theorem PySem.Challenge.cw_re0172_01_holds : PySem.Challenge.rw_re0172_01.Holds := by
  exact Mine.law_holds
