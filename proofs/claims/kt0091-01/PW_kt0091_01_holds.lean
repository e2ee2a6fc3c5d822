import PyProof.Rows.All
import Wide.All
import OpenK.AllK
import Wide.FinOn
import Lean
import PySem.Challenge.RW_kt0091_01
set_option Elab.async false
set_option linter.all false
set_option bootstrap.genMatcherCode false
set_option genSizeOf false
set_option genInjectivity false
set_option compiler.extract_closed false

section
open PySem PySem.Calls PyProof.Rows
namespace Mine
local macro_rules | `(tactic| omega) => `(tactic| lia)


structure Box (p : Prop) : Prop where
  out : p


inductive SV where
  | none
  | bool (b : Bool)
  | int (i : Int)
  | str (s : Str)
  | val (v : Value)
  | gl (x : Str)
  | obj (i : Nat)
  | app (i : Nat)
  | book
  | lst (xs : List SV)
  | tup (xs : List SV)
  | any


noncomputable abbrev St := List (List SV)


structure Cx where
  prog : Program
  w : World
  h₀ : Heap
  mg : Str → Option Value
  mb : Str → Option Value
  os : OsState
  fixed : List (Addr × Obj)
  bk : Addr
  bi : Nat
  c : Addr
  P : Addr
  ps : Array Value
  hl : Option Addr

noncomputable abbrev Cx.M (V : Cx) : Model := model V.prog V.w


noncomputable def Lst (h : Heap) (a : Addr) (vs : List Value) : Prop := ∃ n, h.get? a = some { cls := .type "list", data := .seq vs.toArray n }
theorem Lst.isList {h : Heap} {a : Addr} {vs : List Value} (x : Lst h a vs) : h.IsList a vs.toArray := let ⟨n, e⟩ := x; ⟨_, e, rfl, n, rfl⟩

mutual
inductive Rep (V : Cx) (h : Heap) (α : List Addr) : Value → SV → Prop
  | none : Rep V h α .none .none
  | bool (b) : Rep V h α (.bool b) (.bool b)
  | int (i t) : Rep V h α (.int i t) (.int i)
  | str (s t) : Rep V h α (.str s t) (.str s)
  | val (v) : Rep V h α v (.val v)
  | gl (x v) : V.mg x = some v → Rep V h α v (.gl x)
  | obj (i a) : α[i]? = some a → Rep V h α (.ref a) (.obj i)
  | app (i a b o) : α[i]? = some a → h.get? b = some o → o.cls = .type "builtin_function_or_method" → o.data = .fields #[.builtin "list.append", .ref a] → b ∉ α → b ≠ V.P → Rep V h α (.ref b) (.app i)
  | book : Rep V h α (.ref V.bk) .book
  | lst (a vs xs) : Lst h a vs → a ∉ α → a ≠ V.P → Reps V h α vs xs → Rep V h α (.ref a) (.lst xs)
  | tup (a vs xs o n) : h.get? a = some o → o.cls = .type "tuple" → o.data = .seq vs.toArray n → a ∉ α → a ≠ V.P → Reps V h α vs xs → Rep V h α (.ref a) (.tup xs)
  | any (v) : Rep V h α v .any
inductive Reps (V : Cx) (h : Heap) (α : List Addr) : List Value → List SV → Prop
  | nil : Reps V h α [] []
  | cons (v x vs xs) : Rep V h α v x → Reps V h α vs xs → Reps V h α (v :: vs) (x :: xs)
end


noncomputable def RepI (V : Cx) (h : Heap) (α : List Addr) (v : Value) : SV → Prop
  | .none => v = .none
  | .bool b => v = .bool b
  | .int i => ∃ t, v = .int i t
  | .str s => ∃ t, v = .str s t
  | .val u => v = u
  | .gl x => V.mg x = some v
  | .obj i => ∃ a, v = .ref a ∧ α[i]? = some a
  | .app i => ∃ a b o, v = .ref b ∧ α[i]? = some a ∧ h.get? b = some o ∧ o.cls = .type "builtin_function_or_method" ∧ o.data = .fields #[.builtin "list.append", .ref a] ∧ b ∉ α ∧ b ≠ V.P
  | .book => v = .ref V.bk
  | .lst xs => ∃ a vs, v = .ref a ∧ Lst h a vs ∧ a ∉ α ∧ a ≠ V.P ∧ Reps V h α vs xs
  | .tup xs => ∃ a vs o n, v = .ref a ∧ h.get? a = some o ∧ o.cls = .type "tuple" ∧ o.data = .seq vs.toArray n ∧ a ∉ α ∧ a ≠ V.P ∧ Reps V h α vs xs
  | .any => True
noncomputable def RepsI (V : Cx) (h : Heap) (α : List Addr) (vs : List Value) : List SV → Prop
  | [] => vs = []
  | x :: xs => ∃ v us, vs = v :: us ∧ Rep V h α v x ∧ Reps V h α us xs
theorem Rep.inv {V : Cx} {h : Heap} {α : List Addr} {v : Value} {x : SV} (r : Rep V h α v x) : RepI V h α v x := by
  cases r with
  | none => rfl
  | bool b => rfl
  | int i t => exact ⟨t, rfl⟩
  | str s t => exact ⟨t, rfl⟩
  | val v => rfl
  | gl x v h => exact h
  | obj i a h => exact ⟨a, rfl, h⟩
  | app i a b o h1 h2 h3 h4 h5 h6 => exact ⟨a, b, o, rfl, h1, h2, h3, h4, h5, h6⟩
  | book => rfl
  | lst a vs xs h1 h2 h3 h4 => exact ⟨a, vs, rfl, h1, h2, h3, h4⟩
  | tup a vs xs o n h1 h2 h3 h4 h5 h6 => exact ⟨a, vs, o, n, rfl, h1, h2, h3, h4, h5, h6⟩
  | any v => trivial
theorem Reps.inv {V : Cx} {h : Heap} {α : List Addr} {vs : List Value} {xs : List SV} (r : Reps V h α vs xs) : RepsI V h α vs xs := by
  cases r with
  | nil => rfl
  | cons v x us xs h1 h2 => exact ⟨v, us, rfl, h1, h2⟩


noncomputable def Soft (o : Obj) : Prop := (∃ es ep, o.data = .dict es ep) ∨ (∃ v, o.data = .cell v) ∨ (o.cls ≠ .type "list" ∧ o.cls ≠ .type "tuple" ∧ o.cls ≠ .type "builtin_function_or_method")
theorem Soft.notSeq {o : Obj} (h : Soft o) (hc : o.cls = .type "list" ∨ o.cls = .type "tuple") {vs n} (hd : o.data = .seq vs n) : False := by
  rcases h with ⟨es, ep, e⟩ | ⟨v, e⟩ | ⟨h1, h2, h3⟩
  · rw [hd] at e; cases e
  · rw [hd] at e; cases e
  · exact hc.elim h1 h2
theorem Soft.notBm {o : Obj} (h : Soft o) (hc : o.cls = .type "builtin_function_or_method") {vs} (hd : o.data = .fields vs) : False := by
  rcases h with ⟨es, ep, e⟩ | ⟨v, e⟩ | ⟨h1, h2, h3⟩
  · rw [hd] at e; cases e
  · rw [hd] at e; cases e
  · exact h3 hc

theorem ne_hi {a P n : Nat} (h : n ≤ a) (l : P < n) : a ≠ P := fun e => Nat.lt_irrefl _ (Nat.lt_of_lt_of_le l (e ▸ h))


structure Step (V : Cx) (mods : List Addr) (α : List Addr) (s : Shared) (α' : List Addr) (s' : Shared) : Prop where
  kept : ∀ b o, s.heap.get? b = some o → b ∉ mods → b ∉ α → b ≠ V.P → s'.heap.get? b = some o
  size : s.heap.objs.size ≤ s'.heap.objs.size
  ext : ∃ new, α' = α ++ new ∧ ∀ a ∈ new, s.heap.objs.size ≤ a

theorem Step.refl {V : Cx} {mods α : List Addr} {s : Shared} : Step V mods α s α s :=
  ⟨fun _ _ e _ _ _ => e, Nat.le_refl _, [], by simp, by simp⟩

theorem Step.trans {V : Cx} {mods α β γ : List Addr} {s t u : Shared} (x : Step V mods α s β t) (y : Step V mods β t γ u) : Step V mods α s γ u := by
  obtain ⟨n1, e1, h1⟩ := x.ext
  obtain ⟨n2, e2, h2⟩ := y.ext
  refine ⟨fun b o e hm ha hp => y.kept b o (x.kept b o e hm ha hp) hm ?_ hp, Nat.le_trans x.size y.size, n1 ++ n2, by rw [e2, e1, List.append_assoc], ?_⟩
  · rw [e1, List.mem_append]
    rintro (hb | hb)
    · exact ha hb
    · exact absurd (Heap.lt_size e) (Nat.not_lt.mpr (h1 b hb))
  · intro a ha
    rcases List.mem_append.mp ha with h | h
    · exact h1 a h
    · exact Nat.le_trans x.size (h2 a h)

theorem Step.mods {V : Cx} {mods mods' α β : List Addr} {s t : Shared} (x : Step V mods α s β t) (h : ∀ a ∈ mods, a ∈ mods' ∨ s.heap.objs.size ≤ a) : Step V mods' α s β t :=
  ⟨fun b o e hm ha hp => x.kept b o e (fun hb => (h b hb).elim hm fun hs => absurd (Heap.lt_size e) (Nat.not_lt.mpr hs)) ha hp, x.size, x.ext⟩

theorem Step.idx {V : Cx} {mods α β : List Addr} {s t : Shared} (x : Step V mods α s β t) {i : Nat} {a : Addr} (e : α[i]? = some a) : β[i]? = some a := by
  obtain ⟨n1, e1, _⟩ := x.ext
  rw [e1, List.getElem?_append_left (by exact (List.getElem?_eq_some_iff.mp e).1)]
  exact e

theorem Step.notin {V : Cx} {mods α β : List Addr} {s t : Shared} (x : Step V mods α s β t) {a : Addr} {o : Obj} (e : s.heap.get? a = some o) (ha : a ∉ α) : a ∉ β := by
  obtain ⟨n1, e1, h1⟩ := x.ext
  rw [e1, List.mem_append]
  rintro (hb | hb)
  · exact ha hb
  · exact absurd (Heap.lt_size e) (Nat.not_lt.mpr (h1 a hb))

theorem Rep.step {V : Cx} {mods α β : List Addr} {s t : Shared} (x : Step V mods α s β t) (hm : ∀ a ∈ mods, ∀ o, s.heap.get? a = some o → Soft o) {v : Value} {y : SV} (r : Rep V s.heap α v y) : Rep V t.heap β v y :=
  Rep.rec (motive_1 := fun v y _ => Rep V t.heap β v y) (motive_2 := fun vs ys _ => Reps V t.heap β vs ys)
    .none .bool .int .str .val .gl (fun i a h => .obj i a (x.idx h)) (fun i a b o h e hc hd hb hp => .app i a b o (x.idx h) (x.kept b o e (fun q => (hm b q o e).notBm hc hd) hb hp) hc hd (x.notin e hb) hp) .book
    (fun a vs xs h ha hp _ ih => .lst a vs xs (h.imp fun n e => x.kept a _ e (fun q => (hm a q _ e).notSeq (.inl rfl) rfl) ha hp) (h.elim fun n e => x.notin e ha) hp ih)
    (fun a vs xs o n e hc hd ha hp _ ih => .tup a vs xs o n (x.kept a o e (fun q => (hm a q o e).notSeq (.inr hc) hd) ha hp) hc hd (x.notin e ha) hp ih) .any .nil (fun v y vs ys _ _ i1 i2 => .cons v y vs ys i1 i2) r
theorem Reps.step {V : Cx} {mods α β : List Addr} {s t : Shared} (x : Step V mods α s β t) (hm : ∀ a ∈ mods, ∀ o, s.heap.get? a = some o → Soft o) {vs : List Value} {ys : List SV} (r : Reps V s.heap α vs ys) : Reps V t.heap β vs ys := by
  induction ys generalizing vs with
  | nil => obtain rfl : vs = [] := r.inv; exact .nil
  | cons y ys ih => obtain ⟨v, us, rfl, hv, rs⟩ := r.inv; exact .cons v y us ys (hv.step x hm) (ih rs)

theorem Rep.go {V : Cx} {α β : List Addr} {s t : Shared} (x : Step V [] α s β t) {v y} (r : Rep V s.heap α v y) : Rep V t.heap β v y := r.step x (fun _ h => nomatch h)
theorem Reps.go {V : Cx} {α β : List Addr} {s t : Shared} (x : Step V [] α s β t) {v y} (r : Reps V s.heap α v y) : Reps V t.heap β v y := r.step x (fun _ h => nomatch h)

theorem Reps.length {V : Cx} {h : Heap} {α : List Addr} {vs ys} (r : Reps V h α vs ys) : vs.length = ys.length := by
  induction ys generalizing vs with
  | nil => obtain rfl : vs = [] := r.inv; rfl
  | cons y ys ih => obtain ⟨v, us, rfl, _, rs⟩ := r.inv; exact congrArg (· + 1) (ih rs)
theorem Reps.get {V : Cx} {h : Heap} {α : List Addr} {vs ys} (r : Reps V h α vs ys) {i : Nat} {y} (e : ys[i]? = some y) : ∃ v, vs[i]? = some v ∧ Rep V h α v y := by
  induction ys generalizing vs i with
  | nil => simp at e
  | cons z ys ih =>
    obtain ⟨v, us, rfl, hv, rs⟩ := r.inv
    cases i with
    | zero => exact ⟨v, rfl, (Option.some.inj e : z = y) ▸ hv⟩
    | succ i => exact ih rs e
theorem Reps.append {V : Cx} {h : Heap} {α : List Addr} {vs ys us zs} (r : Reps V h α vs ys) (q : Reps V h α us zs) : Reps V h α (vs ++ us) (ys ++ zs) := by
  induction ys generalizing vs with
  | nil => obtain rfl : vs = [] := r.inv; exact q
  | cons y ys ih => obtain ⟨v, ws, rfl, hv, rs⟩ := r.inv; exact .cons v y _ _ hv (ih rs)
theorem Reps.take {V : Cx} {h : Heap} {α : List Addr} {vs ys} (r : Reps V h α vs ys) (n : Nat) : Reps V h α (vs.take n) (ys.take n) := by
  induction ys generalizing vs n with
  | nil => obtain rfl : vs = [] := r.inv; rw [List.take_nil, List.take_nil]; exact .nil
  | cons y ys ih =>
    obtain ⟨v, us, rfl, hv, rs⟩ := r.inv
    cases n with
    | zero => exact .nil
    | succ n => exact .cons v y _ _ hv (ih rs n)
theorem Reps.drop {V : Cx} {h : Heap} {α : List Addr} {vs ys} (r : Reps V h α vs ys) (n : Nat) : Reps V h α (vs.drop n) (ys.drop n) := by
  induction ys generalizing vs n with
  | nil => obtain rfl : vs = [] := r.inv; rw [List.drop_nil, List.drop_nil]; exact .nil
  | cons y ys ih =>
    obtain ⟨v, us, rfl, hv, rs⟩ := r.inv
    cases n with
    | zero => exact .cons v y us ys hv rs
    | succ n => exact ih rs n
theorem Reps.reverse {V : Cx} {h : Heap} {α : List Addr} {vs ys} (r : Reps V h α vs ys) : Reps V h α vs.reverse ys.reverse := by
  induction ys generalizing vs with
  | nil => obtain rfl : vs = [] := r.inv; exact .nil
  | cons y ys ih => obtain ⟨v, us, rfl, hv, rs⟩ := r.inv; rw [List.reverse_cons, List.reverse_cons]; exact (ih rs).append (.cons _ _ _ _ hv .nil)

structure Sto (V : Cx) (α : List Addr) (st : St) (s : Shared) : Prop where
  old : ∀ b o, V.h₀.get? b = some o → b ≠ V.P → s.heap.get? b = some o
  tab : ∃ more, s.heap.TableAt V.c V.P (V.ps ++ more) ∧ s.heap.IsCode V.c V.P (V.ps ++ more)
  low : V.c < V.h₀.objs.size ∧ V.P < V.h₀.objs.size
  size : V.h₀.objs.size ≤ s.heap.objs.size
  os : s.os = V.os
  gens : s.gens = #[]
  len : α.length = st.length
  nd : α.Nodup
  hi : ∀ a ∈ α, V.h₀.objs.size ≤ a
  fix : ∀ p ∈ V.fixed, s.heap.get? p.1 = some p.2 ∧ p.1 ∉ α ∧ V.h₀.objs.size ≤ p.1
  cell : ∀ (i : Nat) (xs : List SV), st[i]? = some xs → ∃ a vs, α[i]? = some a ∧ Lst s.heap a vs ∧ Reps V s.heap α vs xs
  bkl : ∀ a, V.hl = some a → α[V.bi]? = some a


structure ModsOK (V : Cx) (mods α : List Addr) (s : Shared) : Prop where
  at' : ∀ a ∈ mods, V.h₀.objs.size ≤ a ∧ a ∉ α ∧ (∀ p ∈ V.fixed, p.1 ≠ a) ∧ ∀ o, s.heap.get? a = some o → Soft o
theorem ModsOK.nil {V : Cx} {α s} : ModsOK V [] α s := ⟨fun _ h => nomatch h⟩

structure Keep (mods : List Addr) (h h' : Heap) : Prop where
  kept : ∀ b o, h.get? b = some o → b ∉ mods → h'.get? b = some o
  size : h.objs.size ≤ h'.objs.size
theorem Keep.refl {mods h} : Keep mods h h := ⟨fun _ _ e _ => e, Nat.le_refl _⟩
theorem Keep.push {mods h} (o : Obj) : Keep mods h (h.push o) := ⟨fun _ _ e _ => Heap.get?_push_of_some o e, by rw [Heap.size_push]; omega⟩
theorem Keep.trans {mods h h' h''} (x : Keep mods h h') (y : Keep mods h' h'') : Keep mods h h'' := ⟨fun b o e hb => y.kept b o (x.kept b o e hb) hb, Nat.le_trans x.size y.size⟩
theorem Keep.same {a : Addr} {h h' : Heap} (x : Heap.SameBut a h h') : Keep [a] h h' := ⟨fun b o e hb => (x.2 b (by simpa using hb)).trans e, Nat.le_of_eq x.1.symm⟩
theorem Keep.more {mods mods' h h'} (x : Keep mods h h') (hs : ∀ a ∈ mods, a ∈ mods') : Keep mods' h h' := ⟨fun b o e hb => x.kept b o e fun q => hb (hs b q), x.size⟩
theorem Keep.ofAll {mods h h'} (k : ∀ b o, h.get? b = some o → h'.get? b = some o) (z : h.objs.size ≤ h'.objs.size) : Keep mods h h' := ⟨fun b o e _ => k b o e, z⟩

theorem isCode_of {h h' : Heap} {c P : Addr} {ps} (x : h.IsCode c P ps) (k : ∀ b o, h.get? b = some o → (b = c ∨ b = P) → h'.get? b = some o) : h'.IsCode c P ps := by
  obtain ⟨o, vs, file, tf, flags, tg, inF, text, tt, op, ho, hd, h11, h2, h7, h9, h10, hop, hpd, htr, hne⟩ := x
  exact ⟨o, vs, file, tf, flags, tg, inF, text, tt, op, k _ _ ho (.inl rfl), hd, h11, h2, h7, h9, h10, k _ _ hop (.inr rfl), hpd, htr, hne⟩
theorem tableAt_of {h h' : Heap} {c P : Addr} {ps} (x : h.TableAt c P ps) (k : ∀ b o, h.get? b = some o → (b = c ∨ b = P) → h'.get? b = some o) : h'.TableAt c P ps := by
  obtain ⟨⟨o, vs, e, r⟩, t⟩ := x
  exact ⟨⟨o, vs, k _ _ e (.inl rfl), r⟩, k _ _ t (.inr rfl)⟩

theorem Sto.keep {V : Cx} {mods α st} {s s' : Shared} (S : Sto V α st s) (K : Keep mods s.heap s'.heap) (hm : ModsOK V mods α s) (ho : s'.os = s.os) (hg : s'.gens = s.gens) :
    Sto V α st s' ∧ Step V mods α s α s' := by
  have X : Step V mods α s α s' := ⟨fun b o e hb _ _ => K.kept b o e hb, K.size, [], by simp, by simp⟩
  have old : ∀ b, b < V.h₀.objs.size → b ∉ mods := fun b hb hbm => Nat.lt_irrefl _ (Nat.lt_of_lt_of_le hb (hm.at' b hbm).1)
  refine ⟨⟨fun b o e hp => K.kept b o (S.old b o e hp) (old b (Heap.lt_size e)), ?_, S.low, Nat.le_trans S.size K.size, ho.trans S.os, hg.trans S.gens, S.len, S.nd, S.hi, ?_, ?_, S.bkl⟩, X⟩
  · obtain ⟨more, t, c⟩ := S.tab
    have k : ∀ b o, s.heap.get? b = some o → (b = V.c ∨ b = V.P) → s'.heap.get? b = some o := fun b o e hb => K.kept b o e (old b (by rcases hb with rfl | rfl; exact S.low.1; exact S.low.2))
    exact ⟨more, tableAt_of t k, isCode_of c k⟩
  · intro p hp
    obtain ⟨h1, h2, h3⟩ := S.fix p hp
    exact ⟨K.kept _ _ h1 fun q => (hm.at' _ q).2.2.1 p hp rfl, h2, h3⟩
  · intro i xs e
    obtain ⟨a, vs, ha, hl, hr⟩ := S.cell i xs e
    refine ⟨a, vs, ha, ?_, hr.step X fun a ha o e => (hm.at' a ha).2.2.2 o e⟩
    obtain ⟨n, eo⟩ := hl
    exact ⟨n, K.kept a _ eo fun q => (hm.at' a q).2.1 (List.mem_of_getElem? ha)⟩

theorem Sto.toks {V : Cx} {α st} {s : Shared} (S : Sto V α st s) (t : Nat) : Sto V α st { s with toks := t } ∧ Step V [] α s α { s with toks := t } :=
  S.keep (s' := { s with toks := t }) .refl .nil rfl rfl
theorem Sto.grow {V : Cx} {α st} {s : Shared} (S : Sto V α st s) {h' : Heap} (t : Nat) (k : ∀ b o, s.heap.get? b = some o → h'.get? b = some o) (z : s.heap.objs.size ≤ h'.objs.size) :
    Sto V α st { s with heap := h', toks := t } ∧ Step V [] α s α { s with heap := h', toks := t } :=
  S.keep (s' := { s with heap := h', toks := t }) (.ofAll k z) .nil rfl rfl


theorem Sto.new {V : Cx} {α st} {s : Shared} (S : Sto V α st s) {o : Obj} {n : Nat} {vs xs} (ho : o = { cls := .type "list", data := .seq vs.toArray n }) (hr : Reps V s.heap α vs xs) (t : Nat) :
    Sto V (α ++ [s.heap.objs.size]) (st ++ [xs]) { s with heap := s.heap.push o, toks := t } ∧ Step V [] α s (α ++ [s.heap.objs.size]) { s with heap := s.heap.push o, toks := t } ∧
      (α ++ [s.heap.objs.size])[st.length]? = some s.heap.objs.size := by
  have hfr : o.isFreed = false := by subst ho; rfl
  have S' := (S.grow t (h' := s.heap.push o) (fun b o' e => Heap.get?_push_of_some o e) (by rw [Heap.size_push]; omega)).1
  have X : Step V [] α s (α ++ [s.heap.objs.size]) { s with heap := s.heap.push o, toks := t } :=
    ⟨fun b o' e _ _ _ => Heap.get?_push_of_some o e, by show _ ≤ (s.heap.push o).objs.size; rw [Heap.size_push]; omega, [s.heap.objs.size], rfl, by simp⟩
  have low : ∀ b o', s.heap.get? b = some o' → b ≠ s.heap.objs.size := fun b o' e => Nat.ne_of_lt (Heap.lt_size e)
  have h0 := S.size
  refine ⟨⟨S'.old, S'.tab, S'.low, S'.size, S'.os, S'.gens, by simp [S.len], ?_, ?_, ?_, ?_, fun a e => X.idx (S.bkl a e)⟩, X, ?_⟩
  · rw [List.nodup_append]
    refine ⟨S.nd, by simp, fun a ha b hb => ?_⟩
    obtain ⟨i, hi⟩ := List.getElem?_of_mem ha
    have : i < st.length := by rw [← S.len]; exact (List.getElem?_eq_some_iff.mp hi).1
    obtain ⟨a', vs', ha', ⟨n', e'⟩, _⟩ := S.cell i st[i] (by simp [this])
    rw [hi] at ha'; cases ha'
    simp at hb; subst hb
    exact low _ _ e'
  · intro a ha
    rcases List.mem_append.mp ha with h | h
    · exact S.hi a h
    · simp at h; subst h; exact h0
  · intro p hp
    obtain ⟨h1, h2, h3⟩ := S'.fix p hp
    refine ⟨h1, ?_, h3⟩
    rw [List.mem_append]
    rintro (hb | hb)
    · exact h2 hb
    · simp at hb; exact low _ _ (S.fix p hp).1 hb
  · intro i ys e
    by_cases hi : i < st.length
    · rw [List.getElem?_append_left hi] at e
      obtain ⟨a, us, ha, hl, hr⟩ := S'.cell i ys e
      obtain ⟨a₀, us₀, ha₀, hl₀, hr₀⟩ := S.cell i ys e
      refine ⟨a₀, us₀, X.idx ha₀, ?_, hr₀.go X⟩
      obtain ⟨n', e'⟩ := hl₀
      exact ⟨n', Heap.get?_push_of_some o e'⟩
    · have : i = st.length := by
        have := (List.getElem?_eq_some_iff.mp e).1
        simp at this; omega
      subst this
      simp at e; subst e
      refine ⟨s.heap.objs.size, vs, by rw [← S.len]; simp, ⟨n, ho ▸ Heap.get?_push_size _ hfr⟩, hr.go X⟩
  · rw [← S.len]; simp


theorem Sto.set {V : Cx} {α st} {s : Shared} (S : Sto V α st s) {i : Nat} {a : Addr} {vs xs} {h' : Heap} (hi : i < st.length) (ha : α[i]? = some a) (hs : Heap.SameBut a s.heap h') (hl : Lst h' a vs) (hr : Reps V s.heap α vs xs) (t : Nat) :
    Sto V α (st.set i xs) { s with heap := h', toks := t } ∧ Step V [] α s α { s with heap := h', toks := t } := by
  have ham : a ∈ α := List.mem_of_getElem? ha
  have X : Step V [] α s α { s with heap := h', toks := t } :=
    ⟨fun b o e _ hb _ => (hs.2 b fun q => hb (q ▸ ham)).trans e, Nat.le_of_eq hs.1.symm, [], by simp, by simp⟩
  have hlo := S.hi a ham
  have k : ∀ b, b < V.h₀.objs.size → h'.get? b = s.heap.get? b := fun b hb => hs.2 b fun q => Nat.lt_irrefl _ (Nat.lt_of_lt_of_le (q ▸ hb) hlo)
  refine ⟨⟨fun b o e hp => (k b (Heap.lt_size e)).trans (S.old b o e hp), ?_, S.low, Nat.le_trans S.size X.size, S.os, S.gens, by simp [S.len], S.nd, S.hi, ?_, ?_, S.bkl⟩, X⟩
  · obtain ⟨more, t, c⟩ := S.tab
    have kk : ∀ b o, s.heap.get? b = some o → (b = V.c ∨ b = V.P) → h'.get? b = some o := fun b o e hb => (k b (by rcases hb with rfl | rfl; exact S.low.1; exact S.low.2)).trans e
    exact ⟨more, tableAt_of t kk, isCode_of c kk⟩
  · intro p hp
    obtain ⟨h1, h2, h3⟩ := S.fix p hp
    exact ⟨(hs.2 _ fun q => h2 (by rw [q]; exact ham)).trans h1, h2, h3⟩
  · intro j ys e
    by_cases hj : i = j
    · subst hj
      rw [List.getElem?_set_self hi] at e
      cases e
      exact ⟨a, vs, ha, hl, hr.go X⟩
    · rw [List.getElem?_set_ne hj] at e
      obtain ⟨b, us, hb, ⟨n, e'⟩, hrb⟩ := S.cell j ys e
      have : b ≠ a := by
        rintro rfl
        exact hj ((List.getElem?_inj (by rw [S.len]; exact hi) S.nd).mp (ha.trans hb.symm))
      exact ⟨b, us, hb, ⟨n, (hs.2 b this).trans e'⟩, hrb.go X⟩


mutual
inductive Fz (n : Nat) (st : St) : SV → SV → Prop
  | none : Fz n st .none .none
  | bool (b) : Fz n st (.bool b) (.bool b)
  | int (i) : Fz n st (.int i) (.int i)
  | str (s) : Fz n st (.str s) (.str s)
  | val (v) : Fz n st (.val v) (.val v)
  | gl (x) : Fz n st (.gl x) (.gl x)
  | obj (i) : i < n → Fz n st (.obj i) (.obj i)
  | app (i) : i < n → Fz n st (.app i) (.app i)
  | book : Fz n st .book .book
  | lst (xs ys) : Fzs n st xs ys → Fz n st (.lst xs) (.lst ys)
  | tup (xs ys) : Fzs n st xs ys → Fz n st (.tup xs) (.tup ys)
  | ice (i xs ys) : n ≤ i → st[i]? = some xs → Fzs n st xs ys → Fz n st (.obj i) (.lst ys)
  | any (x) : Fz n st x .any
inductive Fzs (n : Nat) (st : St) : List SV → List SV → Prop
  | nil : Fzs n st [] []
  | cons (x y xs ys) : Fz n st x y → Fzs n st xs ys → Fzs n st (x :: xs) (y :: ys)
end


noncomputable def Ice (V : Cx) (h : Heap) (α β : List Addr) (n : Nat) (st : St) : Prop :=
  ∀ (i : Nat) (xs : List SV), n ≤ i → st[i]? = some xs → ∃ a, (α ++ β)[i]? = some a ∧ a ∉ α ∧ a ≠ V.P ∧ ∃ vs : List Value, Lst h a vs ∧ Reps V h (α ++ β) vs xs

theorem Fz.sound {V : Cx} {h : Heap} {α β : List Addr} {st : St} (hc : Ice V h α β α.length st) {x y : SV} (z : Fz α.length st x y) {v : Value} (r : Rep V h (α ++ β) v x) : Rep V h α v y :=
  Fz.rec (motive_1 := fun x y _ => ∀ v, Rep V h (α ++ β) v x → Rep V h α v y) (motive_2 := fun xs ys _ => ∀ vs, Reps V h (α ++ β) vs xs → Reps V h α vs ys)
    (fun v r => by obtain rfl := r.inv; exact .none) (fun b v r => by obtain rfl := r.inv; exact .bool b) (fun i v r => by obtain ⟨t, rfl⟩ := r.inv; exact .int i t) (fun x v r => by obtain ⟨t, rfl⟩ := r.inv; exact .str x t)
    (fun u v r => by obtain rfl := r.inv; exact .val _) (fun x v r => .gl x v r.inv) (fun i hi v r => by obtain ⟨a, rfl, e⟩ := r.inv; exact .obj i a (by rwa [List.getElem?_append_left hi] at e))
    (fun i hi v r => by obtain ⟨a, b, o, rfl, e, h1, h2, h3, h4, h5⟩ := r.inv; exact .app i a b o (by rwa [List.getElem?_append_left hi] at e) h1 h2 h3 (fun q => h4 (List.mem_append_left _ q)) h5)
    (fun v r => by obtain rfl := r.inv; exact .book)
    (fun xs ys _ ih v r => by obtain ⟨a, vs, rfl, h1, h2, h3, r⟩ := r.inv; exact .lst a vs ys h1 (fun q => h2 (List.mem_append_left _ q)) h3 (ih vs r))
    (fun xs ys _ ih v r => by obtain ⟨a, vs, o, n, rfl, h1, h2, h3, h4, h5, r⟩ := r.inv; exact .tup a vs ys o n h1 h2 h3 (fun q => h4 (List.mem_append_left _ q)) h5 (ih vs r))
    (fun i xs ys hi e _ ih v r => by
      obtain ⟨a, h1, h2, h3, vs, h4, h5⟩ := hc i xs hi e
      obtain ⟨a', rfl, e'⟩ := r.inv
      rw [h1] at e'
      cases e'
      exact .lst a vs ys h4 h2 h3 (ih vs h5))
    (fun x v _ => .any v) (fun vs r => by obtain rfl := r.inv; exact .nil) (fun x y xs ys _ _ i1 i2 vs r => by obtain ⟨v, us, rfl, r1, r2⟩ := r.inv; exact .cons v y us ys (i1 v r1) (i2 us r2)) z v r
theorem Fzs.sound {V : Cx} {h : Heap} {α β : List Addr} {st : St} (hc : Ice V h α β α.length st) {xs ys : List SV} (z : Fzs α.length st xs ys) {vs : List Value} (r : Reps V h (α ++ β) vs xs) : Reps V h α vs ys :=
  Fzs.rec (motive_1 := fun x y _ => ∀ v, Rep V h (α ++ β) v x → Rep V h α v y) (motive_2 := fun xs ys _ => ∀ vs, Reps V h (α ++ β) vs xs → Reps V h α vs ys)
    (fun v r => by obtain rfl := r.inv; exact .none) (fun b v r => by obtain rfl := r.inv; exact .bool b) (fun i v r => by obtain ⟨t, rfl⟩ := r.inv; exact .int i t) (fun x v r => by obtain ⟨t, rfl⟩ := r.inv; exact .str x t)
    (fun u v r => by obtain rfl := r.inv; exact .val _) (fun x v r => .gl x v r.inv) (fun i hi v r => by obtain ⟨a, rfl, e⟩ := r.inv; exact .obj i a (by rwa [List.getElem?_append_left hi] at e))
    (fun i hi v r => by obtain ⟨a, b, o, rfl, e, h1, h2, h3, h4, h5⟩ := r.inv; exact .app i a b o (by rwa [List.getElem?_append_left hi] at e) h1 h2 h3 (fun q => h4 (List.mem_append_left _ q)) h5)
    (fun v r => by obtain rfl := r.inv; exact .book)
    (fun xs ys _ ih v r => by obtain ⟨a, vs, rfl, h1, h2, h3, r⟩ := r.inv; exact .lst a vs ys h1 (fun q => h2 (List.mem_append_left _ q)) h3 (ih vs r))
    (fun xs ys _ ih v r => by obtain ⟨a, vs, o, n, rfl, h1, h2, h3, h4, h5, r⟩ := r.inv; exact .tup a vs ys o n h1 h2 h3 (fun q => h4 (List.mem_append_left _ q)) h5 (ih vs r))
    (fun i xs ys hi e _ ih v r => by
      obtain ⟨a, h1, h2, h3, vs, h4, h5⟩ := hc i xs hi e
      obtain ⟨a', rfl, e'⟩ := r.inv
      rw [h1] at e'
      cases e'
      exact .lst a vs ys h4 h2 h3 (ih vs h5))
    (fun x v _ => .any v) (fun vs r => by obtain rfl := r.inv; exact .nil) (fun x y xs ys _ _ i1 i2 vs r => by obtain ⟨v, us, rfl, r1, r2⟩ := r.inv; exact .cons v y us ys (i1 v r1) (i2 us r2)) z vs r

theorem Rep.self {V : Cx} {h : Heap} {α : List Addr} {st : St} {v : Value} {x : SV} (r : Rep V h α v x) : Fz α.length st x x :=
  Rep.rec (motive_1 := fun _ x _ => Fz α.length st x x) (motive_2 := fun _ xs _ => Fzs α.length st xs xs)
    .none .bool (fun i _ => .int i) (fun s _ => .str s) .val (fun x _ _ => .gl x) (fun i _ e => .obj i (List.getElem?_eq_some_iff.mp e).1) (fun i _ _ _ e _ _ _ _ _ => .app i (List.getElem?_eq_some_iff.mp e).1) .book
    (fun _ _ xs _ _ _ _ ih => .lst xs xs ih) (fun _ _ xs _ _ _ _ _ _ _ _ ih => .tup xs xs ih) (fun _ => .any _) .nil (fun _ x _ xs _ _ i1 i2 => .cons x x xs xs i1 i2) r
theorem Reps.self {V : Cx} {h : Heap} {α : List Addr} {st : St} {vs : List Value} {xs : List SV} (r : Reps V h α vs xs) : Fzs α.length st xs xs :=
  Reps.rec (motive_1 := fun _ x _ => Fz α.length st x x) (motive_2 := fun _ xs _ => Fzs α.length st xs xs)
    .none .bool (fun i _ => .int i) (fun s _ => .str s) .val (fun x _ _ => .gl x) (fun i _ e => .obj i (List.getElem?_eq_some_iff.mp e).1) (fun i _ _ _ e _ _ _ _ _ => .app i (List.getElem?_eq_some_iff.mp e).1) .book
    (fun _ _ xs _ _ _ _ ih => .lst xs xs ih) (fun _ _ xs _ _ _ _ _ _ _ _ ih => .tup xs xs ih) (fun _ => .any _) .nil (fun _ x _ xs _ _ i1 i2 => .cons x x xs xs i1 i2) r

theorem Ice.nil {V : Cx} {h : Heap} {α β : List Addr} {n : Nat} : Ice V h α β n [] := fun _ _ _ e => by simp at e
theorem Sto.ice {V : Cx} {α β st} {s : Shared} (S : Sto V (α ++ β) st s) : Ice V s.heap α β α.length st := by
  intro i xs hi e
  obtain ⟨a, vs, ha, hl, hr⟩ := S.cell i xs e
  refine ⟨a, ha, fun hm => ?_, ?_, vs, hl, hr⟩
  · obtain ⟨j, hj⟩ := List.getElem?_of_mem hm
    have hj' := (List.getElem?_eq_some_iff.mp hj).1
    have := (List.getElem?_inj (by rw [List.length_append]; omega) S.nd).mp ((List.getElem?_append_left hj').trans (hj.trans ha.symm))
    omega
  · exact ne_hi (S.hi a (List.mem_of_getElem? ha)) S.low.2

theorem Sto.drop {V : Cx} {α β st ext} {s : Shared} (S : Sto V (α ++ β) (st ++ ext) s) (hl : α.length = st.length) (hw : ∀ (i : Nat) (xs : List SV), st[i]? = some xs → Fzs α.length [] xs xs) (hb : ∀ a, V.hl = some a → α[V.bi]? = some a) : Sto V α st s := by
  refine ⟨S.old, S.tab, S.low, S.size, S.os, S.gens, hl, (List.nodup_append.mp S.nd).1, fun a ha => S.hi a (List.mem_append_left _ ha), fun p hp => ?_, fun i xs e => ?_, hb⟩
  · obtain ⟨h1, h2, h3⟩ := S.fix p hp
    exact ⟨h1, fun q => h2 (List.mem_append_left _ q), h3⟩
  · have hi := (List.getElem?_eq_some_iff.mp e).1
    obtain ⟨a, vs, ha, hl', hr⟩ := S.cell i xs (by rw [List.getElem?_append_left hi]; exact e)
    rw [List.getElem?_append_left (by rw [hl]; exact hi)] at ha
    exact ⟨a, vs, ha, hl', Fzs.sound .nil (hw i xs e) hr⟩
theorem Sto.self {V : Cx} {α st} {s : Shared} (S : Sto V α st s) (i : Nat) (xs : List SV) (e : st[i]? = some xs) : Fzs α.length [] xs xs := by
  obtain ⟨a, vs, _, _, hr⟩ := S.cell i xs e
  exact hr.self

noncomputable def own (env : Env) : List Addr := env.locals :: env.cells.map (·.2)


structure Var (V : Cx) (ks : List (Str × NameKind)) (cd : Value) (env : Env) (loc : List (Str × SV)) (α : List Addr) (s : Shared) : Prop where
  names : env.scope.names = ks
  kind : env.scope.kind = .function
  glob : env.globals = mainGlobals
  blt : env.builtins = builtinsNs
  code : env.code = cd
  lo : ∀ a ∈ own env, V.h₀.objs.size ≤ a ∧ a ∉ α ∧ ∀ p ∈ V.fixed, p.1 ≠ a
  nd : (own env).Nodup
  ns : ∃ m, s.heap.Ns env.locals m ∧ ∀ x v, loc.lookup x = some v → ks.lookup x = some .local → ∃ u, m x = some u ∧ Rep V s.heap α u v
  cl : ∀ x v, loc.lookup x = some v → ks.lookup x = some .cell → ∃ c u, env.cells.lookup x = some c ∧ s.heap.IsCell c (some u) ∧ Rep V s.heap α u v
  cs : ∀ p ∈ env.cells, ∃ v, s.heap.IsCell p.2 v
  cn : ∀ x, ks.lookup x = some .cell → ∃ c, env.cells.lookup x = some c

theorem Var.modsOK {V : Cx} {ks cd env loc α s} (R : Var V ks cd env loc α s) : ModsOK V (own env) α s := by
  refine ⟨fun a ha => ⟨(R.lo a ha).1, (R.lo a ha).2.1, (R.lo a ha).2.2, fun o e => ?_⟩⟩
  rcases List.mem_cons.mp ha with rfl | ha
  · obtain ⟨m, ⟨o', es, ep, e', hd, _⟩, _⟩ := R.ns
    rw [e] at e'; cases e'
    exact .inl ⟨es, ep, hd⟩
  · obtain ⟨p, hp, rfl⟩ := List.mem_map.mp ha
    obtain ⟨v, o', e', hd⟩ := R.cs p hp
    rw [e] at e'; cases e'
    exact .inr (.inl ⟨v, hd⟩)

theorem Var.go {V : Cx} {ks cd env loc α β} {s t : Shared} (R : Var V ks cd env loc α s) {mods : List Addr} (X : Step V mods α s β t) (hn : ∀ a ∈ own env, a ∉ mods) (hlow : V.P < V.h₀.objs.size)
    (hs : ∀ a ∈ mods, ∀ o, s.heap.get? a = some o → Soft o) : Var V ks cd env loc β t := by
  have hk : ∀ a ∈ own env, ∀ o, s.heap.get? a = some o → t.heap.get? a = some o := fun a ha o e =>
    X.kept a o e (hn a ha) (R.lo a ha).2.1 (ne_hi (R.lo a ha).1 hlow)
  have hL : env.locals ∈ own env := List.mem_cons_self
  have hC : ∀ {c v}, c ∈ own env → s.heap.IsCell c v → t.heap.IsCell c v := fun hc ⟨o, e, d⟩ => ⟨o, hk _ hc o e, d⟩
  refine ⟨R.names, R.kind, R.glob, R.blt, R.code, fun a ha => ⟨(R.lo a ha).1, ?_, (R.lo a ha).2.2⟩, R.nd, ?_, ?_, ?_, R.cn⟩
  · rcases List.mem_cons.mp ha with rfl | ha'
    · obtain ⟨m, ⟨o', es, ep, e', hd, _⟩, _⟩ := R.ns
      exact X.notin e' (R.lo _ ha).2.1
    · obtain ⟨p, hp, rfl⟩ := List.mem_map.mp ha'
      obtain ⟨v, o', e', hd⟩ := R.cs p hp
      exact X.notin e' (R.lo _ ha).2.1
  · obtain ⟨m, ⟨o', es, ep, e', hd, r⟩, hv⟩ := R.ns
    refine ⟨m, ⟨o', es, ep, hk _ hL o' e', hd, r⟩, fun x v h1 h2 => ?_⟩
    obtain ⟨u, hu, hr⟩ := hv x v h1 h2
    exact ⟨u, hu, hr.step X hs⟩
  · intro x v h1 h2
    obtain ⟨c, u, hc, hi, hr⟩ := R.cl x v h1 h2
    exact ⟨c, u, hc, hC (List.mem_cons_of_mem _ (List.mem_map.mpr ⟨(x, c), mem_of_lookup hc, rfl⟩)) hi, hr.step X hs⟩
  · intro p hp
    obtain ⟨v, hv⟩ := R.cs p hp
    exact ⟨v, hC (List.mem_cons_of_mem _ (List.mem_map.mpr ⟨p, hp, rfl⟩)) hv⟩

theorem Var.step {V : Cx} {ks cd env loc α β} {s t : Shared} (R : Var V ks cd env loc α s) (X : Step V [] α s β t) (hlow : V.P < V.h₀.objs.size) : Var V ks cd env loc β t :=
  R.go X (fun _ _ h => nomatch h) hlow (fun _ h => nomatch h)

end Mine
end

section
open PySem PySem.Calls PyProof.Rows
namespace Mine
local macro_rules | `(tactic| omega) => `(tactic| lia)

structure Gm where
  n : Nat
  ks : List (Str × NameKind)
  cd : Value

structure Rm (A : Around) (n : Nat) : Prop where
  hd : A.handled = none
  dp : A.depth + n ≤ 900
  un : A.units + 10 * n ≤ 9000

noncomputable abbrev NoE : Value → Shared → Prop := fun _ _ => False
noncomputable abbrev Loc := List (Str × SV)

inductive Res (V : Cx) (α : List Addr) (s : Shared) (st : St) (v : SV) (u : Value) (s' : Shared) : Prop
  | mk (α' : List Addr) (X : Step V [] α s α' s') (S : Sto V α' st s') (r : Rep V s'.heap α' u v)
inductive ResB (V : Cx) (α : List Addr) (s : Shared) (st : St) (b : Bool) (b' : Bool) (s' : Shared) : Prop
  | mk (e : b' = b) (α' : List Addr) (X : Step V [] α s α' s') (S : Sto V α' st s')

noncomputable def EvOK (V : Cx) (G : Gm) (e : Expr) (loc : Loc) (st : St) (v : SV) (st' : St) : Prop :=
  Box (∀ (A : Around) (env : Env) (α : List Addr) (s : Shared), Rm A G.n → Sto V α st s → Var V G.ks G.cd env loc α s → wpAny V.M A (eval e env) (Res V α s st' v) NoE s)
noncomputable def TsOK (V : Cx) (G : Gm) (e : Expr) (loc : Loc) (st : St) (b : Bool) (st' : St) : Prop :=
  Box (∀ (A : Around) (env : Env) (α : List Addr) (s : Shared), Rm A G.n → Sto V α st s → Var V G.ks G.cd env loc α s → wpAny V.M A (isTrue e env (eval e env)) (ResB V α s st' b) NoE s)
noncomputable def Bin (V : Cx) (op : Operator) (a b : SV) (st : St) (c : SV) (st' : St) : Prop :=
  Box (∀ (A : Around) (α : List Addr) (s : Shared) (u v : Value), Sto V α st s → Rep V s.heap α u a → Rep V s.heap α v b → wpAny V.M A (binaryOp op u v) (Res V α s st' c) NoE s)
noncomputable def Cmp (V : Cx) (n : Nat) (op : CmpOp) (a b : SV) (st : St) (r : Bool) : Prop :=
  Box (∀ (A : Around) (α : List Addr) (s : Shared) (u v : Value), Rm A n → Sto V α st s → Rep V s.heap α u a → Rep V s.heap α v b → wpAny V.M A (compareOp op u v) (Res V α s st (.bool r)) NoE s)
noncomputable def Tru (V : Cx) (a : SV) (st : St) (b : Bool) : Prop :=
  Box (∀ (A : Around) (α : List Addr) (s : Shared) (u : Value), Sto V α st s → Rep V s.heap α u a → wpAny V.M A (truthy u) (ResB V α s st b) NoE s)

section
variable {V : Cx} {G : Gm} {loc : Loc} {st st₁ st₂ st₃ : St}

theorem Res.trans {α β : List Addr} {s t : Shared} {v : SV} (X : Step V [] α s β t) {u s'} (h : Res V β t st v u s') : Res V α s st v u s' := let ⟨γ, Y, S, R⟩ := h; ⟨γ, X.trans Y, S, R⟩
theorem ResB.trans {α β : List Addr} {s t : Shared} {v : Bool} (X : Step V [] α s β t) {u s'} (h : ResB V β t st v u s') : ResB V α s st v u s' := let ⟨e, γ, Y, S⟩ := h; ⟨e, γ, X.trans Y, S⟩
theorem Res.here {α : List Addr} {s : Shared} {v : SV} {u} (S : Sto V α st s) (R : Rep V s.heap α u v) : Res V α s st v u s := ⟨α, .refl, S, R⟩
theorem Res.toks {α : List Addr} {s : Shared} {v : SV} {u} (S : Sto V α st s) (R : Rep V s.heap α u v) (t : Nat) : Res V α s st v u { s with toks := t } :=
  ⟨α, (S.toks t).2, (S.toks t).1, R⟩


theorem wthen {A : Around} {α : List Addr} {s : Shared} {v w : SV} {m : Sem Value} {k : Value → Sem Value} (h : wpAny V.M A m (Res V α s st₁ v) NoE s)
    (hk : ∀ u β t, Step V [] α s β t → Sto V β st₁ t → Rep V t.heap β u v → wpAny V.M A (k u) (Res V β t st₂ w) NoE t) : wpAny V.M A (m >>= k) (Res V α s st₂ w) NoE s :=
  wpAny_bind (wpAny_mono h (fun u t ⟨β, X, S, R⟩ => wpAny_mono (hk u β t X S R) (fun _ _ z => z.trans X) fun _ _ e => e) fun _ _ e => e)

theorem EvOK.int {i : Int} {k pos} : EvOK V G (.Constant (.int i) k pos) loc st (.int i) st := Box.mk fun A env α s _ S _ =>
  wpAny_Constant_int ((Res.toks S (.int i _) _))
theorem EvOK.str {x : Str} {k pos} : EvOK V G (.Constant (.str x) k pos) loc st (.str x) st := Box.mk fun A env α s _ S _ =>
  Constant_str ((Res.toks S (.str x _) _))
theorem EvOK.none' {k pos} : EvOK V G (.Constant .none k pos) loc st .none st := Box.mk fun A env α s _ S _ => wpAny_pure (Res.here S .none)
theorem EvOK.bool {b : Bool} {k pos} : EvOK V G (.Constant (.bool b) k pos) loc st (.bool b) st := Box.mk fun A env α s _ S _ => wpAny_pure (Res.here S (.bool b))

theorem EvOK.bin {l r : Expr} {op pos} {a b c : SV} (hl : EvOK V G l loc st a st₁) (hr : EvOK V G r loc st₁ b st₂) (h : Bin V op a b st₂ c st₃) : EvOK V G (.BinOp l op r pos) loc st c st₃ :=
  Box.mk fun A env α s rm S R => wpAny_BinOp (wpAny_mono (hl.out A env α s rm S R) (fun u s₁ ⟨α₁, X₁, S₁, R₁⟩ =>
    wpAny_mono (hr.out A env α₁ s₁ rm S₁ (R.step X₁ S.low.2)) (fun v s₂ ⟨α₂, X₂, S₂, R₂⟩ => wpAny_mono (h.out A α₂ s₂ u v S₂ (R₁.go X₂) R₂) (fun _ _ z => (z.trans X₂).trans X₁) fun _ _ e => e) fun _ _ e => e) fun _ _ e => e)

theorem EvOK.cmp {l r : Expr} {op pos} {a b : SV} {c : Bool} (hl : EvOK V G l loc st a st₁) (hr : EvOK V G r loc st₁ b st₂) (h : Cmp V G.n op a b st₂ c) (hm : behindInMarks op r = false) :
    EvOK V G (.Compare l [op] [r] pos) loc st (.bool c) st₂ :=
  Box.mk fun A env α s rm S R => wpAny_Compare1 (hm := hm) (wpAny_mono (hl.out A env α s rm S R) (fun u s₁ ⟨α₁, X₁, S₁, R₁⟩ =>
    wpAny_mono (hr.out A env α₁ s₁ rm S₁ (R.step X₁ S.low.2)) (fun v s₂ ⟨α₂, X₂, S₂, R₂⟩ => wpAny_mono (h.out A α₂ s₂ u v rm S₂ (R₁.go X₂) R₂) (fun _ _ z => (z.trans X₂).trans X₁) fun _ _ e => e) fun _ _ e => e) fun _ _ e => e)

theorem TsOK.cmp {l r : Expr} {op pos} {a b : SV} {c : Bool} (hl : EvOK V G l loc st a st₁) (hr : EvOK V G r loc st₁ b st₂) (h : Cmp V G.n op a b st₂ c) (hm : behindInMarks op r = false) :
    TsOK V G (.Compare l [op] [r] pos) loc st c st₂ :=
  Box.mk fun A env α s rm S R => wpAny_isTrue_Compare1 (hm := hm) (wpAny_mono (hl.out A env α s rm S R) (fun u s₁ ⟨α₁, X₁, S₁, R₁⟩ =>
    wpAny_mono (hr.out A env α₁ s₁ rm S₁ (R.step X₁ S.low.2)) (fun v s₂ ⟨α₂, X₂, S₂, R₂⟩ => wpAny_mono (h.out A α₂ s₂ u v rm S₂ (R₁.go X₂) R₂) (fun w s₃ ⟨α₃, X₃, S₃, R₃⟩ => by
      obtain rfl := R₃.inv
      exact wpAny_truthy_bool ⟨rfl, α₃, X₁.trans (X₂.trans X₃), S₃⟩) fun _ _ e => e) fun _ _ e => e) fun _ _ e => e)

theorem TsOK.not {x : Expr} {pos} {b : Bool} (h : TsOK V G x loc st b st₁) : TsOK V G (.UnaryOp .Not x pos) loc st (!b) st₁ :=
  Box.mk fun A env α s rm S R => by
    rw [arm_isTrue_UnaryOp]
    exact wpAny_bind (wpAny_mono (h.out A env α s rm S R) (fun b' s' ⟨e, a, X, S⟩ => wpAny_pure ⟨by rw [e], a, X, S⟩) fun _ _ e => e)


theorem TsOK.plain {e : Expr} {a : SV} {b : Bool} (h : EvOK V G e loc st a st₁) (ht : Tru V a st₁ b)
    (he : ∀ env, isTrue e env (eval e env) = (do let v ← eval e env; standAt e.pos; holding [v] (truthy v))) : TsOK V G e loc st b st₁ :=
  Box.mk fun A env α s rm S R => isTrue_plain (he := he env) (wpAny_mono (h.out A env α s rm S R) (fun u s₁ ⟨α₁, X₁, S₁, R₁⟩ =>
    wpAny_mono (ht.out A α₁ s₁ u S₁ R₁) (fun _ _ z => z.trans X₁) fun _ _ e => e) fun _ _ e => e)

noncomputable def AllOK (V : Cx) (G : Gm) (op : BoolOp) (es : List Expr) (loc : Loc) (st : St) (b : Bool) (st' : St) : Prop :=
  Box (∀ (A : Around) (env : Env) (α : List Addr) (s : Shared), Rm A G.n → Sto V α st s → Var V G.ks G.cd env loc α s → wpAny V.M A (allTrue op es env) (ResB V α s st' b) NoE s)
theorem AllOK.nil {op : BoolOp} : AllOK V G op [] loc st (op == .And) st := Box.mk fun A env α s _ S _ => wpAny_pure ⟨rfl, α, .refl, S⟩
theorem AllOK.stop {op : BoolOp} {e : Expr} {es : List Expr} (h : TsOK V G e loc st (op == .Or) st₁) : AllOK V G op (e :: es) loc st (op == .Or) st₁ := Box.mk fun A env α s rm S R => by
  rw [arm_allTrue_cons]
  refine wpAny_bind (wpAny_mono (h.out A env α s rm S R) (fun b' s' hq_ => ?_) fun _ _ e => e)
  obtain ⟨e, a, X, S⟩ := hq_
  subst e
  cases op
  · exact wpAny_pure ⟨rfl, a, X, S⟩
  · exact wpAny_pure ⟨rfl, a, X, S⟩
theorem AllOK.go {op : BoolOp} {e : Expr} {es : List Expr} {b : Bool} (h : TsOK V G e loc st (op == .And) st₁) (hr : AllOK V G op es loc st₁ b st₂) : AllOK V G op (e :: es) loc st b st₂ := Box.mk fun A env α s rm S R => by
  rw [arm_allTrue_cons]
  refine wpAny_bind (wpAny_mono (h.out A env α s rm S R) (fun b' s' hq_ => ?_) fun _ _ e => e)
  obtain ⟨e, α₁, X₁, S₁⟩ := hq_
  subst e
  have := wpAny_mono (hr.out A env α₁ s' rm S₁ (R.step X₁ S.low.2)) (fun _ _ (z : ResB V α₁ s' st₂ b _ _) => z.trans X₁) fun _ _ e => e
  cases op <;> exact this
theorem TsOK.boolop {op : BoolOp} {es : List Expr} {pos} {b : Bool} (h : AllOK V G op es loc st b st₁) : TsOK V G (.BoolOp op es pos) loc st b st₁ := Box.mk fun A env α s rm S R => by
  rw [arm_isTrue_BoolOp]; exact h.out A env α s rm S R

theorem EvOK.ifexp_true {t a b : Expr} {pos} {v : SV} (ht : TsOK V G t loc st true st₁) (ha : EvOK V G a loc st₁ v st₂) : EvOK V G (.IfExp t a b pos) loc st v st₂ := Box.mk fun A env α s rm S R => by
  rw [arm_eval_IfExp]
  refine wpAny_bind (wpAny_mono (ht.out A env α s rm S R) (fun b' s' hq_ => ?_) fun _ _ e => e)
  obtain ⟨e, α₁, X₁, S₁⟩ := hq_
  subst e
  exact wpAny_mono (ha.out A env α₁ s' rm S₁ (R.step X₁ S.low.2)) (fun _ _ z => z.trans X₁) fun _ _ e => e
theorem EvOK.ifexp_false {t a b : Expr} {pos} {v : SV} (ht : TsOK V G t loc st false st₁) (hb : EvOK V G b loc st₁ v st₂) : EvOK V G (.IfExp t a b pos) loc st v st₂ := Box.mk fun A env α s rm S R => by
  rw [arm_eval_IfExp]
  refine wpAny_bind (wpAny_mono (ht.out A env α s rm S R) (fun b' s' hq_ => ?_) fun _ _ e => e)
  obtain ⟨e, α₁, X₁, S₁⟩ := hq_
  subst e
  exact wpAny_mono (hb.out A env α₁ s' rm S₁ (R.step X₁ S.low.2)) (fun _ _ z => z.trans X₁) fun _ _ e => e


noncomputable def BoOK (V : Cx) (G : Gm) (pos : Pos) (op : BoolOp) (es : List Expr) (loc : Loc) (st : St) (v : SV) (st' : St) : Prop :=
  Box (∀ (A : Around) (env : Env) (α : List Addr) (s : Shared), Rm A G.n → Sto V α st s → Var V G.ks G.cd env loc α s → wpAny V.M A (boolOp pos op (evalEach es env)) (Res V α s st' v) NoE s)
theorem BoOK.last {pos op} {e : Expr} {v : SV} (h : EvOK V G e loc st v st₁) : BoOK V G pos op [e] loc st v st₁ := Box.mk fun A env α s rm S R => h.out A env α s rm S R
theorem BoOK.stop {pos op} {e e' : Expr} {es : List Expr} {v : SV} (h : EvOK V G e loc st v st₁) (ht : Tru V v st₁ (op == .Or)) : BoOK V G pos op (e :: e' :: es) loc st v st₁ := Box.mk fun A env α s rm S R => by
  show wpAny V.M A (do
    let v ← eval e env
    standAt pos
    let t ← holding [v] (truthy v)
    match op, t with
    | .And, false | .Or, true => pure v
    | _, _ => boolOp pos op (evalEach (e' :: es) env)) _ _ _
  refine wthen (h.out A env α s rm S R) fun u β t X S' R' => ?_
  refine wpAny_bind (wpAny_standAt (wpAny_bind (wpAny_holding (wpAny_mono (ht.out A β t u S' R') (fun b' s' hq_ => ?_) fun _ _ e => e))))
  obtain ⟨e, α₁, X₁, S₁⟩ := hq_
  subst e
  cases op <;> exact wpAny_pure ⟨α₁, X₁, S₁, R'.go X₁⟩
theorem BoOK.go {pos op} {e e' : Expr} {es : List Expr} {v w : SV} (h : EvOK V G e loc st v st₁) (ht : Tru V v st₁ (op == .And)) (hr : BoOK V G pos op (e' :: es) loc st₁ w st₂) : BoOK V G pos op (e :: e' :: es) loc st w st₂ := Box.mk fun A env α s rm S R => by
  show wpAny V.M A (do
    let v ← eval e env
    standAt pos
    let t ← holding [v] (truthy v)
    match op, t with
    | .And, false | .Or, true => pure v
    | _, _ => boolOp pos op (evalEach (e' :: es) env)) _ _ _
  refine wthen (h.out A env α s rm S R) fun u β t X S' R' => ?_
  refine wpAny_bind (wpAny_standAt (wpAny_bind (wpAny_holding (wpAny_mono (ht.out A β t u S' R') (fun b' s' hq_ => ?_) fun _ _ e => e))))
  obtain ⟨e, α₁, X₁, S₁⟩ := hq_
  subst e
  have := wpAny_mono (hr.out A env α₁ s' rm S₁ (R.step (X.trans X₁) S.low.2)) (fun _ _ (z : Res V α₁ s' st₂ w _ _) => z.trans X₁) fun _ _ e => e
  cases op <;> exact this
theorem EvOK.boolop {op : BoolOp} {es : List Expr} {pos} {v : SV} (h : BoOK V G pos op es loc st v st₁) : EvOK V G (.BoolOp op es pos) loc st v st₁ := Box.mk fun A env α s rm S R => by
  rw [arm_eval_BoolOp]; exact h.out A env α s rm S R
end
end Mine
end

section
open PySem PySem.Calls PyProof.Rows
namespace Mine
local macro_rules | `(tactic| omega) => `(tactic| lia)


structure Pg (V : Cx) : Prop where
  ns : V.h₀.Ns mainGlobals V.mg
  nsb : V.h₀.Ns builtinsNs V.mb
  lim : V.h₀.NoLimit
  apart : V.P ≠ mainGlobals ∧ V.P ≠ builtinsNs ∧ V.P ≠ cStatics

theorem Sto.getOld {V : Cx} {α st s} (S : Sto V α st s) {a m} (h : V.h₀.Ns a m) (ne : V.P ≠ a) : s.heap.Ns a m :=
  let ⟨o, es, ep, e, r⟩ := h; ⟨o, es, ep, S.old _ _ e (Ne.symm ne), r⟩
theorem Sto.limit {V : Cx} {α st s} (S : Sto V α st s) (p : Pg V) : s.heap.NoLimit :=
  let ⟨mc, n, e⟩ := p.lim; ⟨mc, S.getOld n p.apart.2.2, e⟩

noncomputable def setL (x : Str) (v : SV) : Loc → Loc
  | [] => [(x, v)]
  | (y, w) :: l => if y == x then (x, v) :: l else (y, w) :: setL x v l
theorem setL_lookup (x : Str) (v : SV) (y : Str) : ∀ l : Loc, (setL x v l).lookup y = if y = x then some v else l.lookup y
  | [] => by
    by_cases h : y = x
    · subst h; simp [setL, List.lookup]
    · simp [setL, List.lookup, h, show (y == x) = false by simpa using h]
  | (z, w) :: l => by
    unfold setL
    by_cases hz : z = x
    · subst hz
      simp only [beq_self_eq_true, if_true, List.lookup_cons]
      by_cases h : y = z
      · subst h; simp
      · simp [h, show (y == z) = false by simpa using h]
    · simp only [show (z == x) = false by simpa using hz, Bool.false_eq_true, if_false, List.lookup_cons]
      by_cases h : y = z
      · subst h; simp [hz]
      · simp only [show (y == z) = false by simpa using h]
        exact setL_lookup x v y l

inductive Out where
  | next | brk | cont | ret (v : SV)

inductive OutRep (V : Cx) (h : Heap) (α : List Addr) : Flow → Out → Prop
  | next : OutRep V h α .next .next
  | brk : OutRep V h α .brk .brk
  | cont : OutRep V h α .cont .cont
  | ret (u v) : Rep V h α u v → OutRep V h α (.ret u) (.ret v)

inductive ResS (V : Cx) (G : Gm) (env : Env) (α : List Addr) (s : Shared) (loc : Loc) (st : St) (out : Out) (f : Flow) (s' : Shared) : Prop
  | mk (α' : List Addr) (X : Step V (own env) α s α' s') (S : Sto V α' st s') (R : Var V G.ks G.cd env loc α' s') (o : OutRep V s'.heap α' f out)
inductive ResU (V : Cx) (G : Gm) (env : Env) (α : List Addr) (s : Shared) (loc : Loc) (st : St) (u : Unit) (s' : Shared) : Prop
  | mk (α' : List Addr) (X : Step V (own env) α s α' s') (S : Sto V α' st s') (R : Var V G.ks G.cd env loc α' s')

noncomputable def StOK (V : Cx) (G : Gm) (x : Stmt) (loc : Loc) (st : St) (out : Out) (loc' : Loc) (st' : St) : Prop :=
  Box (∀ (A : Around) (env : Env) (α : List Addr) (s : Shared), Rm A G.n → Sto V α st s → Var V G.ks G.cd env loc α s → wpAny V.M A (exec x env) (ResS V G env α s loc' st' out) NoE s)
noncomputable def ExOK (V : Cx) (G : Gm) (xs : List Stmt) (loc : Loc) (st : St) (out : Out) (loc' : Loc) (st' : St) : Prop :=
  Box (∀ (A : Around) (env : Env) (α : List Addr) (s : Shared), Rm A G.n → Sto V α st s → Var V G.ks G.cd env loc α s → wpAny V.M A (execs xs env) (ResS V G env α s loc' st' out) NoE s)
noncomputable def AsOK (V : Cx) (G : Gm) (t : Expr) (v : SV) (loc : Loc) (st : St) (loc' : Loc) (st' : St) : Prop :=
  Box (∀ (A : Around) (env : Env) (α : List Addr) (s : Shared) (u : Value), Rm A G.n → Sto V α st s → Var V G.ks G.cd env loc α s → Rep V s.heap α u v → wpAny V.M A (assign t env u) (ResU V G env α s loc' st') NoE s)
noncomputable def SnOK (V : Cx) (G : Gm) (x : Str) (v : SV) (loc loc' : Loc) : Prop :=
  Box (∀ (A : Around) (env : Env) (st : St) (α : List Addr) (s : Shared) (u : Value), Sto V α st s → Var V G.ks G.cd env loc α s → Rep V s.heap α u v → wpAny V.M A (storeName env x u) (ResU V G env α s loc' st) NoE s)

section
variable {V : Cx} {G : Gm} {loc loc₁ loc₂ : Loc} {st st₁ st₂ st₃ : St}

theorem Step.up {mods : List Addr} {α β : List Addr} {s t : Shared} (X : Step V [] α s β t) : Step V mods α s β t := X.mods fun _ h => nomatch h

theorem ResS.trans {env : Env} {α β : List Addr} {s t : Shared} {out : Out} (X : Step V (own env) α s β t) {f s'} (h : ResS V G env β t loc st out f s') : ResS V G env α s loc st out f s' :=
  let ⟨γ, Y, S, R, o⟩ := h; ⟨γ, X.trans Y, S, R, o⟩
theorem ResU.trans {env : Env} {α β : List Addr} {s t : Shared} (X : Step V (own env) α s β t) {f s'} (h : ResU V G env β t loc st f s') : ResU V G env α s loc st f s' :=
  let ⟨γ, Y, S, R⟩ := h; ⟨γ, X.trans Y, S, R⟩


theorem EvOK.lcl {x : Str} {pos} {v : SV} (h : loc.lookup x = some v) (hk : G.ks.lookup x = some .local) (hd : (x == ("__debug__" : Str)) = false) : EvOK V G (.Name x pos) loc st v st := Box.mk fun A env α s _ S R => by
  obtain ⟨m, hn, hv⟩ := R.ns
  obtain ⟨u, hu, hr⟩ := hv x v h hk
  exact wpAny_Name (wpAny_loadName_local R.kind (by show env.scope.names.lookup x = _; rw [R.names]; exact hk) hn hu (Res.here S hr)) hd
theorem EvOK.cell {x : Str} {pos} {v : SV} (h : loc.lookup x = some v) (hk : G.ks.lookup x = some .cell) (hd : (x == ("__debug__" : Str)) = false) : EvOK V G (.Name x pos) loc st v st := Box.mk fun A env α s _ S R => by
  obtain ⟨c, u, hc, hi, hr⟩ := R.cl x v h hk
  exact wpAny_Name (wpAny_loadName_cell R.kind (by show env.scope.names.lookup x = _; rw [R.names]; exact hk) hc hi (Res.here S hr)) hd
theorem EvOK.gl {x : Str} {pos} {u : Value} (p : Pg V) (hm : V.mg x = some u) (hk : G.ks.lookup x = some .globalImplicit) (hd : (x == ("__debug__" : Str)) = false) : EvOK V G (.Name x pos) loc st (.gl x) st := Box.mk fun A env α s _ S R => by
  refine Name_function_global R.kind (by show env.scope.names.lookup x = _; rw [R.names]; exact hk) ?_ hd
  exact loadGlobal_global (by rw [R.glob]; exact S.getOld p.ns p.apart.1) hm (Res.here S (.gl x u hm))
theorem EvOK.bi {x : Str} {pos} {u : Value} (p : Pg V) (hm : V.mg x = none) (hb : V.mb x = some u) (hk : G.ks.lookup x = some .globalImplicit) (hd : (x == ("__debug__" : Str)) = false) :
    EvOK V G (.Name x pos) loc st (.val u) st := Box.mk fun A env α s _ S R => by
  refine Name_function_global R.kind (by show env.scope.names.lookup x = _; rw [R.names]; exact hk) ?_ hd
  exact loadGlobal_builtin (by rw [R.glob]; exact S.getOld p.ns p.apart.1) hm (by rw [R.blt]; exact S.getOld p.nsb p.apart.2.1) hb (Res.here S (.val u))
theorem EvOK.debug {pos} : EvOK V G (.Name "__debug__" pos) loc st (.bool true) st := Box.mk fun A env α s _ S R => by
  rw [arm_eval_Name]
  exact wpAny_bind (wpAny_standAt (wpAny_bind (wpAny_rule (wpAny_pure (Res.here S (.bool true))))))


theorem Var.put {env : Env} {α : List Addr} {s s' : Shared} (R : Var V G.ks G.cd env loc α s) (S : Sto V α st s) {a : Addr} (ha : a ∈ own env) (hs : Heap.SameBut a s.heap s'.heap) (ho : s'.os = s.os) (hg : s'.gens = s.gens) :
    Sto V α st s' ∧ Step V (own env) α s α s' :=
  S.keep ((Keep.same hs).more fun b hb => by simp at hb; subst hb; exact ha) R.modsOK ho hg

theorem SnOK.lcl {x : Str} {v : SV} (hk : G.ks.lookup x = some .local) : SnOK V G x v loc (setL x v loc) := Box.mk fun A env st α s u S R hr => by
  obtain ⟨m, hn, hv⟩ := R.ns
  refine wpAny_storeName_local (by show env.scope.names.lookup x = _; rw [R.names]; exact hk) hn (fun h' hn' hs' => ?_) (by rw [R.kind]; rfl)
  have z := R.put (s' := { s with heap := h', toks := s.toks + 1 }) S List.mem_cons_self hs' rfl rfl
  refine ⟨α, z.2, z.1, R.names, R.kind, R.glob, R.blt, R.code, R.lo, R.nd, ⟨_, hn', fun y w h1 h2 => ?_⟩, fun y w h1 h2 => ?_, fun p hp => ?_, R.cn⟩
  · rw [setL_lookup] at h1
    by_cases hy : y = x
    · subst hy
      rw [if_pos rfl] at h1; cases h1
      exact ⟨u, if_pos rfl, hr.step z.2 fun a ha o e => (R.modsOK.at' a ha).2.2.2 o e⟩
    · rw [if_neg hy] at h1
      obtain ⟨u', hu', hr'⟩ := hv y w h1 h2
      exact ⟨u', (if_neg hy).trans hu', hr'.step z.2 fun a ha o e => (R.modsOK.at' a ha).2.2.2 o e⟩
  · rw [setL_lookup, if_neg (by rintro rfl; rw [hk] at h2; cases h2)] at h1
    obtain ⟨c, u', hc, hi, hr'⟩ := R.cl y w h1 h2
    refine ⟨c, u', hc, hi.sameBut hs' ?_, hr'.step z.2 fun a ha o e => (R.modsOK.at' a ha).2.2.2 o e⟩
    have := (List.nodup_cons.mp R.nd).1
    rintro rfl
    exact this (List.mem_map.mpr ⟨(y, env.locals), mem_of_lookup hc, rfl⟩)
  · obtain ⟨w, hw⟩ := R.cs p hp
    refine ⟨w, hw.sameBut hs' ?_⟩
    have := (List.nodup_cons.mp R.nd).1
    intro e
    exact this (List.mem_map.mpr ⟨p, hp, e⟩)

theorem SnOK.cell {x : Str} {v : SV} (hk : G.ks.lookup x = some .cell) : SnOK V G x v loc (setL x v loc) := Box.mk fun A env st α s u S R hr => by
  obtain ⟨c, hc⟩ := R.cn x hk
  have hm := mem_of_lookup hc
  obtain ⟨v₀, hc₀⟩ := R.cs (x, c) hm
  refine wpAny_storeName_cell R.kind (by show env.scope.names.lookup x = _; rw [R.names]; exact hk) hc hc₀ fun h' hc' hs' => ?_
  have hco : c ∈ own env := List.mem_cons_of_mem _ (List.mem_map.mpr ⟨(x, c), hm, rfl⟩)
  have z := R.put (s' := { s with heap := h' }) S hco hs' rfl rfl
  have hnL : env.locals ≠ c := by
    have := (List.nodup_cons.mp R.nd).1
    rintro rfl
    exact this (List.mem_map.mpr ⟨(x, env.locals), hm, rfl⟩)
  have hnd := (List.nodup_cons.mp R.nd).2
  have inj : ∀ p q : Str × Addr, p ∈ env.cells → q ∈ env.cells → p.2 = q.2 → p = q := by
    intro p q hp hq e
    obtain ⟨i, hi⟩ := List.getElem?_of_mem hp
    obtain ⟨j, hj⟩ := List.getElem?_of_mem hq
    have h1 : (env.cells.map (·.2))[i]? = some p.2 := by rw [List.getElem?_map, hi]; rfl
    have h2 : (env.cells.map (·.2))[j]? = some q.2 := by rw [List.getElem?_map, hj]; rfl
    have := (List.getElem?_inj (List.getElem?_eq_some_iff.mp h1).1 hnd).mp (h1.trans (by rw [e]; exact h2.symm))
    subst this
    rw [hi] at hj; cases hj; rfl
  obtain ⟨m, hn, hv⟩ := R.ns
  refine ⟨α, z.2, z.1, R.names, R.kind, R.glob, R.blt, R.code, R.lo, R.nd, ⟨m, hn.sameBut hs' hnL, fun y w h1 h2 => ?_⟩, fun y w h1 h2 => ?_, fun p hp => ?_, R.cn⟩
  · rw [setL_lookup, if_neg (by rintro rfl; rw [hk] at h2; cases h2)] at h1
    obtain ⟨u', hu', hr'⟩ := hv y w h1 h2
    exact ⟨u', hu', hr'.step z.2 fun a ha o e => (R.modsOK.at' a ha).2.2.2 o e⟩
  · rw [setL_lookup] at h1
    by_cases hy : y = x
    · subst hy
      rw [if_pos rfl] at h1; cases h1
      exact ⟨c, u, hc, hc', hr.step z.2 fun a ha o e => (R.modsOK.at' a ha).2.2.2 o e⟩
    · rw [if_neg hy] at h1
      obtain ⟨c', u', hc'', hi, hr'⟩ := R.cl y w h1 h2
      refine ⟨c', u', hc'', hi.sameBut hs' ?_, hr'.step z.2 fun a ha o e => (R.modsOK.at' a ha).2.2.2 o e⟩
      rintro rfl
      exact hy (congrArg Prod.fst (inj (y, c') (x, c') (mem_of_lookup hc'') hm rfl))
  · obtain ⟨w, hw⟩ := R.cs p hp
    by_cases hpc : p.2 = c
    · rw [hpc]; exact ⟨_, hc'⟩
    · exact ⟨w, hw.sameBut hs' hpc⟩

theorem AsOK.name {x : Str} {pos} {v : SV} (h : SnOK V G x v loc loc₁) : AsOK V G (.Name x pos) v loc st loc₁ st := Box.mk fun A env α s u _ S R hr => by
  rw [arm_assign_Name]
  exact wpAny_bind (wpAny_standAt (wpAny_bindName (h.out A env st α s u S R hr)))


theorem ExOK.nil : ExOK V G [] loc st .next loc st := Box.mk fun A env α s _ S R => wpAny_execs_nil ⟨α, .refl, S, R, .next⟩
theorem ExOK.cons {x : Stmt} {xs : List Stmt} {out : Out} (h : StOK V G x loc st .next loc₁ st₁) (hr : ExOK V G xs loc₁ st₁ out loc₂ st₂) : ExOK V G (x :: xs) loc st out loc₂ st₂ := Box.mk fun A env α s rm S R =>
  wpAny_execs_cons (wpAny_mono (h.out A env α s rm S R) (fun f s₁ ⟨α₁, X₁, S₁, R₁, o⟩ => by
    cases o
    exact wpAny_mono (hr.out A env α₁ s₁ rm S₁ R₁) (fun _ _ z => z.trans X₁) fun _ _ e => e) fun _ _ e => e)
theorem ExOK.stop {x : Stmt} {xs : List Stmt} {out : Out} (h : StOK V G x loc st out loc₁ st₁) (ho : out ≠ .next) : ExOK V G (x :: xs) loc st out loc₁ st₁ := Box.mk fun A env α s rm S R =>
  wpAny_execs_cons (wpAny_mono (h.out A env α s rm S R) (fun f s₁ ⟨α₁, X₁, S₁, R₁, o⟩ => by
    cases o with
    | next => exact absurd rfl ho
    | brk => exact ⟨α₁, X₁, S₁, R₁, .brk⟩
    | cont => exact ⟨α₁, X₁, S₁, R₁, .cont⟩
    | ret u v r => exact ⟨α₁, X₁, S₁, R₁, .ret u v r⟩) fun _ _ e => e)

theorem StOK.assign {x : Str} {pos' pos} {value : Expr} {v : SV} (h : EvOK V G value loc st v st₁) (hn : SnOK V G x v loc loc₁) (hs : ∀ env : Env, swapsWith value (some (.Name x pos')) pos.line env = pure false) :
    StOK V G (.Assign [.Name x pos'] value pos) loc st .next loc₁ st₁ := Box.mk fun A env α s rm S R =>
  wpAny_Assign_Name (hs := hs env) (wpAny_mono (h.out A env α s rm S R) (fun u s₁ ⟨α₁, X₁, S₁, R₁⟩ =>
    wpAny_mono (hn.out A env st₁ α₁ s₁ u S₁ (R.step X₁ S.low.2) R₁) (fun _ s₂ ⟨α₂, X₂, S₂, R₂⟩ => ⟨α₂, X₁.up.trans X₂, S₂, R₂, .next⟩) fun _ _ e => e) fun _ _ e => e)

theorem StOK.if_true {t : Expr} {b o : List Stmt} {pos} {out : Out} (ht : TsOK V G t loc st true st₁) (h : ExOK V G b loc st₁ out loc₁ st₂) : StOK V G (.If t b o pos) loc st out loc₁ st₂ := Box.mk fun A env α s rm S R =>
  wpAny_If (wpAny_mono (ht.out A env α s rm S R) (fun b' s' ⟨e, α₁, X₁, S₁⟩ => by
    subst e
    exact wpAny_mono (h.out A env α₁ s' rm S₁ (R.step X₁ S.low.2)) (fun _ _ z => z.trans X₁.up) fun _ _ e => e) fun _ _ e => e)
theorem StOK.if_false {t : Expr} {b o : List Stmt} {pos} {out : Out} (ht : TsOK V G t loc st false st₁) (h : ExOK V G o loc st₁ out loc₁ st₂) : StOK V G (.If t b o pos) loc st out loc₁ st₂ := Box.mk fun A env α s rm S R =>
  wpAny_If (wpAny_mono (ht.out A env α s rm S R) (fun b' s' ⟨e, α₁, X₁, S₁⟩ => by
    subst e
    exact wpAny_mono (h.out A env α₁ s' rm S₁ (R.step X₁ S.low.2)) (fun _ _ z => z.trans X₁.up) fun _ _ e => e) fun _ _ e => e)
theorem StOK.ret {e : Expr} {pos} {v : SV} (h : EvOK V G e loc st v st₁) : StOK V G (.Return (some e) pos) loc st (.ret v) loc st₁ := Box.mk fun A env α s rm S R =>
  wpAny_Return_some (wpAny_mono (h.out A env α s rm S R) (fun u s₁ ⟨α₁, X₁, S₁, R₁⟩ => ⟨α₁, X₁.up, S₁, R.step X₁ S.low.2, .ret u v R₁⟩) fun _ _ e => e)
theorem StOK.cont {pos} : StOK V G (.Continue pos) loc st .cont loc st := Box.mk fun A env α s rm S R => fun _ _ _ => ⟨α, .refl, S, R, .cont⟩
theorem StOK.pass {pos} : StOK V G (.Pass pos) loc st .next loc st := Box.mk fun A env α s rm S R => wpAny_Pass ⟨α, .refl, S, R, .next⟩
theorem StOK.assert {t : Expr} {msg pos} (ht : TsOK V G t loc st true st₁) : StOK V G (.Assert t msg pos) loc st .next loc st₁ := Box.mk fun A env α s rm S R => by
  show wpAny _ _ (do
    standAt pos
    if ← isTrue t env (eval t env) then pure .next else assertFails t.pos (evalOpt msg env)) _ _ _
  refine wpAny_bind (wpAny_standAt (wpAny_bind (wpAny_mono (ht.out A env α s rm S R) (fun b' s' hq_ => ?_) fun _ _ e => e)))
  obtain ⟨e, α₁, X₁, S₁⟩ := hq_
  subst e
  exact wpAny_pure ⟨α₁, X₁.up, S₁, R.step X₁ S.low.2, .next⟩
end
end Mine
end

section
open PySem PySem.Calls PyProof.Rows
namespace Mine
local macro_rules | `(tactic| omega) => `(tactic| lia)

theorem runs_size {M : Model} {Γ : Ctx} {p : Pos} {t : Sem Fin} {fs : List Frame} {s s' : Shared} {e : End} (h : Runs M Γ p t fs s e s') : s.heap.objs.size ≤ s'.heap.objs.size := by
  induction h <;> (try simp only [Shared.setGen, Heap.size_push, Heap.size_after_update] at *) <;> omega
theorem wakes_size {M : Model} {Γ : Ctx} {p : Pos} {g : Nat} {r : Resume} {s s' : Shared} {res : GenResult} (h : Wakes M Γ p g r s res s') : s.heap.objs.size ≤ s'.heap.objs.size := by
  unfold Wakes at h
  split at h
  · exact h.elim
  · split at h
    · obtain ⟨e₁, s₁, hr, _, _, rfl⟩ := h; exact (runs_size hr : (s.setGen g .running).heap.objs.size ≤ s₁.heap.objs.size)
    · rw [h.2]; exact Nat.le_refl _
    · rw [h.2]; exact Nat.le_refl _
  · obtain ⟨e₁, s₁, hr, _, _, rfl⟩ := h; exact (runs_size hr : (s.setGen g .running).heap.objs.size ≤ s₁.heap.objs.size)
  · rw [h.2]; exact Nat.le_refl _
  · rw [h.2]; exact Nat.le_refl _
open Sem (wp)
theorem wp_size {α : Type} (M : Model) (Γ : Ctx) (n : Nat) (t : Sem α) : ∀ (Q : α → Pos → Shared → Prop) (E : Value → Pos → Shared → Prop) (p : Pos) (s : Shared), n ≤ s.heap.objs.size → wp M Γ t Q E p s →
    wp M Γ t (fun a p' s' => n ≤ s'.heap.objs.size ∧ Q a p' s') (fun e p' s' => n ≤ s'.heap.objs.size ∧ E e p' s') p s := by
  induction t with
  | pure a => intro Q E p s hn h; exact ⟨hn, h⟩
  | raise e => intro Q E p s hn h; exact ⟨hn, h⟩
  | unsupported _ => intro Q E p s _ h; exact h
  | finish _ => intro Q E p s _ h; exact h
  | rule _ k ih => intro Q E p s hn h; exact ih () Q E p s hn h
  | «at» p' k ih => intro Q E p s hn h; exact ih () Q E p' s hn h
  | load a _ k ih => intro Q E p s hn h; obtain ⟨o, ho, h⟩ := h; exact ⟨o, ho, ih o Q E p s hn h⟩
  | update a _ f k ih => intro Q E p s hn h; exact ⟨h.1, ih () Q E p _ (by show n ≤ (s.heap.update a f).objs.size; rw [Heap.size_after_update]; exact hn) h.2⟩
  | loadIfAlive a k ih => intro Q E p s hn h; exact ih _ Q E p s hn h
  | point _ k ih => intro Q E p s hn h; exact ih () Q E p s hn h
  | register _ _ => intro Q E p s _ h; exact h
  | alloc o k ih => intro Q E p s hn h; exact ih _ Q E p _ (by show n ≤ (s.heap.push o).objs.size; rw [Heap.size_push]; omega) h
  | fresh k ih => intro Q E p s hn h; exact ih _ Q E p _ hn h
  | ask k ih => intro Q E p s hn h; exact ih _ Q E p s hn h
  | choose src m k ih => intro Q E p s hn h; exact ⟨h.1, ih _ Q E p _ hn h.2⟩
  | os q _ k ih => intro Q E p s hn h; exact ih _ Q E p _ hn h
  | call c hd _ _ k ih => intro Q E p s hn h; obtain ⟨r, s', hr, h⟩ := h; exact ⟨r, s', hr, ih r Q E p s' (Nat.le_trans hn (runs_size hr)) h⟩
  | handled own k ih => intro Q E p s hn h; exact ih _ Q E p s hn h
  | genState g k ih => intro Q E p s hn h; obtain ⟨st, hs, h⟩ := h; exact ⟨st, hs, ih _ Q E p s hn h⟩
  | newGen c k ih => intro Q E p s hn h; exact ih _ Q E p _ hn h
  | resume g r _ k ih => intro Q E p s hn h; obtain ⟨res, s', hw, h⟩ := h; exact ⟨res, s', hw, ih res Q E p s' (Nat.le_trans hn (wakes_size hw)) h⟩
  | yield _ _ _ _ => intro Q E p s _ h; exact h
  | stack k ih => intro Q E p s hn h; exact ih _ Q E p s hn h
  | fork _ _ => intro Q E p s _ h; exact h
  | thread k ih => intro Q E p s hn h; exact ih _ Q E p s hn h
  | await _ _ _ _ _ => intro Q E p s _ h; exact h
theorem wsize {α : Type} {M : Model} {A : Around} {s : Shared} {t : Sem α} {Q : α → Shared → Prop} {E : Value → Shared → Prop} 
    (h : wpAny M A t (fun a s' => s.heap.objs.size ≤ s'.heap.objs.size → Q a s') (fun e s' => s.heap.objs.size ≤ s'.heap.objs.size → E e s') s) : wpAny M A t Q E s :=
  have k : wpAny M A t (fun a s' => s.heap.objs.size ≤ s'.heap.objs.size ∧ (s.heap.objs.size ≤ s'.heap.objs.size → Q a s')) (fun e s' => s.heap.objs.size ≤ s'.heap.objs.size ∧ (s.heap.objs.size ≤ s'.heap.objs.size → E e s')) s :=
    fun Γ p hΓ => wp_size M Γ _ t _ _ p s (Nat.le_refl _) (h Γ p hΓ)
  wpAny_mono k (fun _ _ x => x.2 x.1) (fun _ _ x => x.2 x.1)
end Mine
end

section
open PySem PySem.Calls PyProof.Rows
namespace Mine
local macro_rules | `(tactic| omega) => `(tactic| lia)

section
variable {prog : Program} {w : World} {A : Around} {R : Result → Shared → Prop} {s : Shared}
theorem noted_of {α : Type} {env : Env} {m : Sem α} {Q : α → Shared → Prop} {E : Value → Shared → Prop} (h : wpAny (model prog w) A m Q NoE s) : wpAny (model prog w) A m Q E s := wpAny_mono h (fun _ _ q => q) fun _ _ e => e.elim

theorem codeAny_while1 {test body orelse env} (h : wpAny (model prog w) A (isTrue test env (eval test env)) (fun b s₂ =>
        if b then wpAny (model prog w) A (execs body env) (fun f s₃ => match f with
            | .next | .cont => codeAny (model prog w) A (.whileLoop test body orelse env) R s₃
            | .brk => R (.ok .next) s₃
            | .ret v => R (.ok (.ret v)) s₃) NoE s₂
        else wpAny (model prog w) A (execs orelse env) (fun f s₃ => R (.ok f) s₃) NoE s₂) NoE s) : codeAny (model prog w) A (.whileLoop test body orelse env) R s := by
  refine codeAny_of_tree ?_
  show wpAny _ A ((whileTurn test body orelse env).onRaise (fun x => do noteFrame x env; theTreesLotGoes x)) _ _ s
  refine wpAny_noted (noted_of (env := env) ?_)
  simp only [whileTurn]
  refine wpAny_bind (wpAny_mono h (fun b s₂ h₂ => ?_) fun _ _ h' => h')
  cases b with
  | false =>
    simp only [Bool.false_eq_true, if_false] at h₂ ⊢
    exact wpAny_bind (wpAny_mono h₂ (fun f s₃ h₃ => wpAny_pure h₃) fun _ _ h' => h')
  | true =>
    simp only [if_true] at h₂ ⊢
    refine wpAny_bind (wpAny_mono h₂ (fun f s₃ h₃ => ?_) fun _ _ h' => h')
    cases f with
    | next => exact wpAny_pure ⟨rfl, h₃⟩
    | cont => exact wpAny_pure ⟨rfl, h₃⟩
    | brk => exact wpAny_pure h₃
    | ret v => exact wpAny_pure h₃

theorem codeAny_for1 {target it body orelse env} (h : wpAny (model prog w) A (pyNext it) (fun r s₁ => match r with
      | none => wpAny (model prog w) A (execs orelse env) (fun f s₃ => R (.ok f) s₃) NoE s₁
      | some v => wpAny (model prog w) A (letOwnedTupleGo target it v) (fun _ s₁' =>
          wpAny (model prog w) A (assign target env v) (fun _ s₂ => wpAny (model prog w) A (execs body env) (fun f s₃ => match f with
            | .next | .cont => codeAny (model prog w) A (.forLoop target it body orelse env) R s₃
            | .brk => R (.ok .next) s₃
            | .ret v => R (.ok (.ret v)) s₃) NoE s₂) NoE s₁') NoE s₁) NoE s) : codeAny (model prog w) A (.forLoop target it body orelse env) R s := by
  refine codeAny_of_tree ?_
  show wpAny _ A ((forTurn target it body orelse env).onRaise (fun x => do noteFrame x env; theTreesLotGoes x)) _ _ s
  refine wpAny_noted (noted_of (env := env) ?_)
  simp only [forTurn]
  refine wpAny_bind (wpAny_standAt (wpAny_bind (wpAny_onRaise (wpAny_mono h (fun r s₁ h₁ => ?_) fun _ _ h' => h'.elim))))
  cases r with
  | none => exact wpAny_pure ⟨rfl, codeAny_block (noted_of (env := env) h₁)⟩
  | some v =>
    refine wpAny_bind (wpAny_mono h₁ (fun _ s₁' h₁' => ?_) fun _ _ h' => h')
    refine wpAny_bind (wpAny_mono h₁' (fun _ s₂ h₂ => wpAny_bind (wpAny_mono h₂ (fun f s₃ h₃ => ?_) fun _ _ h' => h')) fun _ _ h' => h')
    cases f with
    | next => exact wpAny_pure ⟨rfl, h₃⟩
    | cont => exact wpAny_pure ⟨rfl, h₃⟩
    | brk => exact wpAny_pure h₃
    | ret v => exact wpAny_pure h₃
end

inductive ResC (V : Cx) (G : Gm) (env : Env) (mods : List Addr) (α : List Addr) (s : Shared) (loc : Loc) (st : St) (out : Out) (r : Result) (s' : Shared) : Prop
  | mk (f : Flow) (e : r = .ok f) (α' : List Addr) (X : Step V mods α s α' s') (S : Sto V α' st s') (R : Var V G.ks G.cd env loc α' s') (o : OutRep V s'.heap α' f out)


noncomputable def Out.loop : Out → Out
  | .ret v => .ret v
  | _ => .next
noncomputable def Out.goes : Out → Bool
  | .next | .cont => true
  | _ => false

noncomputable def WhOK (V : Cx) (G : Gm) (test : Expr) (body : List Stmt) (loc : Loc) (st : St) (out : Out) (loc' : Loc) (st' : St) : Prop :=
  Box (∀ (A : Around) (env : Env) (α : List Addr) (s : Shared), Rm A G.n → Sto V α st s → Var V G.ks G.cd env loc α s → codeAny V.M A (.whileLoop test body [] env) (ResC V G env (own env) α s loc' st' out) s)

section
variable {V : Cx} {G : Gm} {loc loc₁ loc₂ : Loc} {st st₁ st₂ st₃ : St}

theorem ResC.trans {env : Env} {mods α β : List Addr} {s t : Shared} {out : Out} (X : Step V mods α s β t) {f s'} (h : ResC V G env mods β t loc st out f s') : ResC V G env mods α s loc st out f s' :=
  let ⟨f, e, γ, Y, S, R, o⟩ := h; ⟨f, e, γ, X.trans Y, S, R, o⟩

theorem WhOK.stop {test : Expr} {body : List Stmt} (ht : TsOK V G test loc st false st₁) : WhOK V G test body loc st .next loc st₁ := Box.mk fun A env α s rm S R =>
  codeAny_while1 (wpAny_mono (ht.out A env α s rm S R) (fun b s₁ ⟨e, α₁, X₁, S₁⟩ => by
    subst e
    exact wpAny_execs_nil ⟨_, rfl, α₁, X₁.up, S₁, R.step X₁ S.low.2, .next⟩) fun _ _ e => e)
theorem WhOK.turn {test : Expr} {body : List Stmt} {o out : Out} {loc₃ : Loc} (ht : TsOK V G test loc st true st₁) (hb : ExOK V G body loc st₁ o loc₁ st₂) (ho : o.goes = true) (hr : WhOK V G test body loc₁ st₂ out loc₃ st₃) : WhOK V G test body loc st out loc₃ st₃ := Box.mk fun A env α s rm S R =>
  codeAny_while1 (wpAny_mono (ht.out A env α s rm S R) (fun b s₁ ⟨e, α₁, X₁, S₁⟩ => by
    subst e
    refine wpAny_mono (hb.out A env α₁ s₁ rm S₁ (R.step X₁ S.low.2)) (fun f s₂ hq_ => ?_) fun _ _ e => e
    obtain ⟨α₂, X₂, S₂, R₂, of⟩ := hq_
    have z := codeAny_mono (hr.out A env α₂ s₂ rm S₂ R₂) (fun _ _ z => z.trans (X₁.up.trans X₂))
    cases of with
    | next => exact z
    | cont => exact z
    | brk => cases ho
    | ret => cases ho) fun _ _ e => e)
theorem WhOK.leave {test : Expr} {body : List Stmt} {o : Out} (ht : TsOK V G test loc st true st₁) (hb : ExOK V G body loc st₁ o loc₁ st₂) (ho : o.goes = false) : WhOK V G test body loc st o.loop loc₁ st₂ := Box.mk fun A env α s rm S R =>
  codeAny_while1 (wpAny_mono (ht.out A env α s rm S R) (fun b s₁ ⟨e, α₁, X₁, S₁⟩ => by
    subst e
    refine wpAny_mono (hb.out A env α₁ s₁ rm S₁ (R.step X₁ S.low.2)) (fun f s₂ hq_ => ?_) fun _ _ e => e
    obtain ⟨α₂, X₂, S₂, R₂, of⟩ := hq_
    cases of with
    | next => cases ho
    | cont => cases ho
    | brk => exact ⟨_, rfl, α₂, X₁.up.trans X₂, S₂, R₂, .next⟩
    | ret u v r => exact ⟨_, rfl, α₂, X₁.up.trans X₂, S₂, R₂, .ret u v r⟩) fun _ _ e => e)
theorem StOK.while {test : Expr} {body : List Stmt} {pos} {out : Out} (h : WhOK V G test body loc st out loc₁ st₁) : StOK V G (.While test body [] pos) loc st out loc₁ st₁ := Box.mk fun A env α s rm S R =>
  wpAny_While (codeAny_mono (h.out A env α s rm S R) fun r s' ⟨f, e, a, X, S, R, o⟩ => by subst e; exact ⟨a, X, S, R, o⟩)


noncomputable def Feeds (V : Cx) (A : Around) (I : Addr) (Its mods : List Addr) (C : St → Prop) (target : Expr) : List SV → List Addr → Shared → Prop
  | [], α, s => ∀ α₁ st₁ s₁, Step V mods α s α₁ s₁ → Sto V α₁ st₁ s₁ → C st₁ → ModsOK V mods α₁ s₁ → (∀ a ∈ mods, ∃ o, s₁.heap.get? a = some o) → (∀ a ∈ Its, ∀ o, s₁.heap.get? a = some o → Soft o) ∧
      wpAny V.M A (pyNext (.ref I)) (fun r s₂ => r = none ∧ Step V Its α₁ s₁ α₁ s₂ ∧ Sto V α₁ st₁ s₂) NoE s₁
  | x :: xs, α, s => ∀ α₁ st₁ s₁, Step V mods α s α₁ s₁ → Sto V α₁ st₁ s₁ → C st₁ → ModsOK V mods α₁ s₁ → (∀ a ∈ mods, ∃ o, s₁.heap.get? a = some o) → (∀ a ∈ Its, ∀ o, s₁.heap.get? a = some o → Soft o) ∧
      wpAny V.M A (pyNext (.ref I)) (fun r s₂ => ∃ u, r = some u ∧
        wpAny V.M A (letOwnedTupleGo target (.ref I) u) (fun _ s₃ => Step V Its α₁ s₁ α₁ s₃ ∧ Sto V α₁ st₁ s₃ ∧ Rep V s₃.heap α₁ u x ∧ Feeds V A I Its mods C target xs α₁ s₃) NoE s₂) NoE s₁

noncomputable def FoOK (V : Cx) (G : Gm) (C : St → Prop) (target : Expr) (body : List Stmt) (xs : List SV) (loc : Loc) (st : St) (out : Out) (loc' : Loc) (st' : St) : Prop :=
  Box (∀ (A : Around) (env : Env) (α : List Addr) (s : Shared) (I : Addr) (Its : List Addr), Rm A G.n → Sto V α st s → Var V G.ks G.cd env loc α s → (∀ a ∈ Its, a ∉ own env) → Feeds V A I Its (own env) C target xs α s →
    codeAny V.M A (.forLoop target (.ref I) body [] env) (ResC V G env (Its ++ own env) α s loc' st' out) s)

theorem Step.mem {mods mods' α β : List Addr} {s t : Shared} (x : Step V mods α s β t) (h : ∀ a ∈ mods, a ∈ mods') : Step V mods' α s β t := x.mods fun a ha => .inl (h a ha)

theorem Var.ex {env : Env} {α : List Addr} {s : Shared} (R : Var V G.ks G.cd env loc α s) {a : Addr} (ha : a ∈ own env) : ∃ o, s.heap.get? a = some o := by
  rcases List.mem_cons.mp ha with rfl | ha
  · obtain ⟨m, ⟨o, es, ep, e, _⟩, _⟩ := R.ns
    exact ⟨o, e⟩
  · obtain ⟨p, hp, rfl⟩ := List.mem_map.mp ha
    obtain ⟨v, o, e, _⟩ := R.cs p hp
    exact ⟨o, e⟩

theorem FoOK.nil {C : St → Prop} {target : Expr} {body : List Stmt} (hC : C st) : FoOK V G C target body [] loc st .next loc st := Box.mk fun A env α s I Its rm S R hI hF => by
  obtain ⟨hs, hw⟩ := hF α st s .refl S hC R.modsOK (fun a ha => R.ex ha)
  refine codeAny_for1 (wpAny_mono hw (fun r s₁ hq_ => ?_) fun _ _ e => e)
  obtain ⟨e, X₁, S₁⟩ := hq_
  subst e
  exact wpAny_execs_nil ⟨_, rfl, α, X₁.mem (fun a h => List.mem_append_left _ h), S₁, R.go X₁ (fun a ha h => hI a h ha) S.low.2 hs, .next⟩

theorem FoOK.turn {C : St → Prop} {target : Expr} {body : List Stmt} {x : SV} {xs : List SV} {o out : Out} {loc₃ : Loc} (hC : C st) (ha : AsOK V G target x loc st loc₁ st₁) (hb : ExOK V G body loc₁ st₁ o loc₂ st₂) (ho : o.goes = true)
    (hr : FoOK V G C target body xs loc₂ st₂ out loc₃ st₃) : FoOK V G C target body (x :: xs) loc st out loc₃ st₃ := Box.mk fun A env α s I Its rm S R hI hF => by
  obtain ⟨hs, hw⟩ := hF α st s .refl S hC R.modsOK (fun a ha => R.ex ha)
  refine codeAny_for1 (wpAny_mono hw (fun r s₁' hq_ => ?_) fun _ _ e => e)
  obtain ⟨u, e, hl⟩ := hq_
  subst e
  refine wpAny_mono hl (fun _ s₁ hq_ => ?_) fun _ _ e => e
  obtain ⟨X₁, S₁, r₁, hF₁⟩ := hq_
  have R₁ := R.go X₁ (fun a ha h => hI a h ha) S.low.2 hs
  refine wpAny_mono (ha.out A env α s₁ u rm S₁ R₁ r₁) (fun _ s₂ hq_ => ?_) fun _ _ e => e
  obtain ⟨α₂, X₂, S₂, R₂⟩ := hq_
  refine wpAny_mono (hb.out A env α₂ s₂ rm S₂ R₂) (fun f s₃ hq_ => ?_) fun _ _ e => e
  obtain ⟨α₃, X₃, S₃, R₃, of⟩ := hq_
  have hF₃ : Feeds V A I Its (own env) C target xs α₃ s₃ := by
    have Y := X₂.trans X₃
    cases xs with
    | nil => exact fun α₄ st₄ s₄ Z S₄ c m ex => hF₁ α₄ st₄ s₄ (Y.trans Z) S₄ c m ex
    | cons y ys => exact fun α₄ st₄ s₄ Z S₄ c m ex => hF₁ α₄ st₄ s₄ (Y.trans Z) S₄ c m ex
  have X : Step V (Its ++ own env) α s α₃ s₃ := (X₁.mem (fun a h => List.mem_append_left _ h)).trans ((X₂.mem (fun a h => List.mem_append_right _ h)).trans (X₃.mem (fun a h => List.mem_append_right _ h)))
  have z := codeAny_mono (hr.out A env α₃ s₃ I Its rm S₃ R₃ hI hF₃) (fun _ _ z => z.trans X)
  cases of with
  | next => exact z
  | cont => exact z
  | brk => cases ho
  | ret => cases ho

theorem FoOK.leave {C : St → Prop} {target : Expr} {body : List Stmt} {x : SV} {xs : List SV} {o : Out} (hC : C st) (ha : AsOK V G target x loc st loc₁ st₁) (hb : ExOK V G body loc₁ st₁ o loc₂ st₂) (ho : o.goes = false) :
    FoOK V G C target body (x :: xs) loc st o.loop loc₂ st₂ := Box.mk fun A env α s I Its rm S R hI hF => by
  obtain ⟨hs, hw⟩ := hF α st s .refl S hC R.modsOK (fun a ha => R.ex ha)
  refine codeAny_for1 (wpAny_mono hw (fun r s₁' hq_ => ?_) fun _ _ e => e)
  obtain ⟨u, e, hl⟩ := hq_
  subst e
  refine wpAny_mono hl (fun _ s₁ hq_ => ?_) fun _ _ e => e
  obtain ⟨X₁, S₁, r₁, hF₁⟩ := hq_
  have R₁ := R.go X₁ (fun a ha h => hI a h ha) S.low.2 hs
  refine wpAny_mono (ha.out A env α s₁ u rm S₁ R₁ r₁) (fun _ s₂ hq_ => ?_) fun _ _ e => e
  obtain ⟨α₂, X₂, S₂, R₂⟩ := hq_
  refine wpAny_mono (hb.out A env α₂ s₂ rm S₂ R₂) (fun f s₃ hq_ => ?_) fun _ _ e => e
  obtain ⟨α₃, X₃, S₃, R₃, of⟩ := hq_
  have X : Step V (Its ++ own env) α s α₃ s₃ := (X₁.mem (fun a h => List.mem_append_left _ h)).trans ((X₂.mem (fun a h => List.mem_append_right _ h)).trans (X₃.mem (fun a h => List.mem_append_right _ h)))
  cases of with
  | next => cases ho
  | cont => cases ho
  | brk => exact ⟨_, rfl, α₃, X, S₃, R₃, .next⟩
  | ret u v r => exact ⟨_, rfl, α₃, X, S₃, R₃, .ret u v r⟩


noncomputable def HdOK (V : Cx) (G : Gm) (iter target : Expr) (loc : Loc) (st : St) (C : St → Prop) (xs : List SV) (st' : St) : Prop :=
  Box (∀ (A : Around) (env : Env) (α : List Addr) (s : Shared), Rm A G.n → Sto V α st s → Var V G.ks G.cd env loc α s →
    wpAny V.M A (eval iter env) (fun x s₁ => wpAny V.M A (pyIter x) (fun it s' => ∃ I Its α', it = .ref I ∧ Step V [] α s α' s' ∧ Sto V α' st' s' ∧ (∀ a ∈ Its, s.heap.objs.size ≤ a) ∧ Feeds V A I Its (own env) C target xs α' s') NoE s₁) NoE s)

theorem Var.lt {env : Env} {α : List Addr} {s : Shared} (R : Var V G.ks G.cd env loc α s) {a : Addr} (ha : a ∈ own env) : a < s.heap.objs.size := by
  rcases List.mem_cons.mp ha with rfl | ha
  · obtain ⟨m, hn, _⟩ := R.ns
    exact hn.lt
  · obtain ⟨p, hp, rfl⟩ := List.mem_map.mp ha
    obtain ⟨v, hv⟩ := R.cs p hp
    exact hv.lt

theorem StOK.for {iter target : Expr} {body : List Stmt} {pos} {C : St → Prop} {xs : List SV} {out : Out} (hh : HdOK V G iter target loc st C xs st₁) (hf : FoOK V G C target body xs loc st₁ out loc₂ st₂)
    (hs : ∀ env x, foldedSetIterable iter env x = pure x) : StOK V G (.For target iter body [] pos) loc st out loc₂ st₂ := Box.mk fun A env α s rm S R =>
  wpAny_For (wpAny_mono (hh.out A env α s rm S R) (fun x s₁ h₁ => wpAny_mono h₁ (fun it s₂ ⟨I, Its, α₂, e, X, S₂, hI, F⟩ => by
    subst e
    refine codeAny_mono (hf.out A env α₂ s₂ I Its rm S₂ (R.step X S.low.2) (fun a ha h => Nat.lt_irrefl _ (Nat.lt_of_lt_of_le (R.lt h) (hI a ha))) F) fun r s' ⟨f, e, α₃, Y, zS, zR, zo⟩ => ?_
    subst e
    have : Step V (own env) α s α₃ s' := (X.up (mods := Its ++ own env)).trans Y |>.mods fun a ha => by
      rcases List.mem_append.mp ha with ha | ha
      · exact .inr (hI a ha)
      · exact .inl ha
    exact ⟨α₃, this, zS, zR, zo⟩) fun _ _ e => e.elim) fun _ _ e => e.elim) (hs env)



noncomputable def Src (V : Cx) (C : St → Prop) (l : Addr) (all : List SV) (α : List Addr) (s : Shared) : Prop :=
  (l ∉ α ∧ l ≠ V.P ∧ ∃ vs : List Value, Lst s.heap l vs ∧ Reps V s.heap α vs all) ∨ (∃ i : Nat, α[i]? = some l ∧ ∀ st : St, C st → st[i]? = some all)
theorem Src.step {C : St → Prop} {l : Addr} {all : List SV} {mods α β : List Addr} {s t : Shared} (h : Src V C l all α s) (X : Step V mods α s β t) (hm : ∀ a ∈ mods, ∀ o, s.heap.get? a = some o → Soft o) : Src V C l all β t := by
  rcases h with ⟨h1, h2, vs, ⟨n, e⟩, hr⟩ | ⟨i, hi, hc⟩
  · exact .inl ⟨X.notin e h1, h2, vs, ⟨n, X.kept l _ e (fun q => (hm l q _ e).notSeq (.inl rfl) rfl) h1 h2⟩, hr.step X hm⟩
  · exact .inr ⟨i, X.idx hi, hc⟩
theorem Src.at {C : St → Prop} {l : Addr} {all : List SV} {α : List Addr} {s : Shared} (h : Src V C l all α s) (S : Sto V α st s) (hc : C st) : ∃ vs : List Value, s.heap.IsList l vs.toArray ∧ Reps V s.heap α vs all := by
  rcases h with ⟨h1, h2, h3⟩ | ⟨i, hi, hC⟩
  · obtain ⟨vs, hl, hr⟩ := h3
    exact ⟨vs, hl.isList, hr⟩
  · obtain ⟨a, vs, ha, hl, hr⟩ := S.cell i all (hC st hc)
    rw [hi] at ha; cases ha
    exact ⟨vs, hl.isList, hr⟩

theorem ModsOK.soft {mods α : List Addr} {s : Shared} (h : ModsOK V mods α s) : ∀ a ∈ mods, ∀ o, s.heap.get? a = some o → Soft o := fun a ha => (h.at' a ha).2.2.2

theorem soft_of_cls {o : Obj} {T : String} (h : o.cls = .type T) (h1 : T ≠ "list") (h2 : T ≠ "tuple") (h3 : T ≠ "builtin_function_or_method") : Soft o :=
  .inr (.inr ⟨by rw [h]; simpa using h1, by rw [h]; simpa using h2, by rw [h]; simpa using h3⟩)


theorem Sto.iter {α : List Addr} {s : Shared} (S : Sto V α st s) {I : Addr} {h' : Heap} (t : Nat) (hk : ∀ b o, b ≠ I → s.heap.get? b = some o → h'.get? b = some o) (hz : s.heap.objs.size ≤ h'.objs.size) (hlo : V.h₀.objs.size ≤ I) (hn : I ∉ α) (hfx : ∀ p ∈ V.fixed, p.1 ≠ I)
    (hs : ∀ o, s.heap.get? I = some o → Soft o) : Step V [I] α s α { s with heap := h', toks := t } ∧ Sto V α st { s with heap := h', toks := t } :=
  let z := S.keep (s' := { s with heap := h', toks := t }) (mods := [I]) ⟨fun b o e hb => hk b o (by simpa using hb) e, hz⟩ ⟨fun a ha => by simp at ha; subst ha; exact ⟨hlo, hn, hfx, hs⟩⟩ rfl rfl
  ⟨z.2, z.1⟩
theorem ModsOK.iter {mods α : List Addr} {s : Shared} (h : ModsOK V mods α s) {I : Addr} {h' : Heap} (t : Nat) (hk : ∀ b, b ∈ mods → h'.get? b = s.heap.get? b) : ModsOK V mods α { s with heap := h', toks := t } :=
  ⟨fun a ha => ⟨(h.at' a ha).1, (h.at' a ha).2.1, (h.at' a ha).2.2.1, fun o e => (h.at' a ha).2.2.2 o ((hk a ha).symm.trans e)⟩⟩

theorem letOwned_of {A : Around} {I : Addr} {u : Value} {target : Expr} {Q : Unit → Shared → Prop} {s : Shared} {o : Obj} {T : String} (ho : s.heap.get? I = some o) (hc : o.cls = .type T)
    (hT : (["enumerate", "zip", "dict_itemiterator", "dict_reverseitemiterator", "odict_iterator", "itertools.zip_longest", "itertools.pairwise"].contains T) = false) (hq : Q () s) : wpAny V.M A (letOwnedTupleGo target (.ref I) u) Q NoE s := by
  unfold letOwnedTupleGo
  split
  · split
    · rename_i r a e
      cases e
      refine wpAny_bind (wpAny_load ho ?_)
      split
      · split
        · rename_i h; rename_i e1 _; rw [hc] at e1; cases e1; rw [hT] at h; simp at h
        · exact wpAny_pure hq
      · exact wpAny_pure hq
    · exact wpAny_pure hq
  · split
    · rename_i r a e
      cases e
      refine wpAny_bind (wpAny_load ho ?_)
      split
      · split
        · rename_i h; rename_i e1 _; rw [hc] at e1; cases e1; rw [hT] at h; simp at h
        · exact wpAny_pure hq
      · exact wpAny_pure hq
    · exact wpAny_pure hq
  · exact wpAny_pure hq
theorem letOwned_list {A : Around} {I l : Addr} {k : Nat} {u : Value} {target : Expr} {Q : Unit → Shared → Prop} {s : Shared} (h : s.heap.IsListIter I l k) (hq : Q () s) : wpAny V.M A (letOwnedTupleGo target (.ref I) u) Q NoE s :=
  let ⟨_, ho, hc, _⟩ := h
  letOwned_of ho hc (by decide) hq

theorem feeds_list {A : Around} {I l : Addr} {mods : List Addr} {C : St → Prop} {target : Expr} {all : List SV} (hh : A.handled = none) (hIm : I ∉ mods) (hlo : V.h₀.objs.size ≤ I) (hfx : ∀ p ∈ V.fixed, p.1 ≠ I) (hP : V.P < V.h₀.objs.size) :
    ∀ (xs : List SV) (k : Nat) (α : List Addr) (s : Shared), all.drop k = xs → s.heap.IsListIter I l k → I ∉ α → ModsOK V mods α s → Src V C l all α s → Feeds V A I [I] mods C target xs α s := by
  intro xs
  induction xs with
  | nil =>
    intro k α s hk hI hIα hm hsrc α₁ st₁ s₁ X S₁ hC hm₁ hex
    obtain ⟨oi, hoi, hci, hdi⟩ := id hI
    have hI₁ : s₁.heap.IsListIter I l k := ⟨oi, X.kept I oi hoi hIm hIα (ne_hi hlo hP), hci, hdi⟩
    obtain ⟨vs, hl, hr⟩ := (hsrc.step X hm.soft).at S₁ hC
    have hsoft : ∀ o, s₁.heap.get? I = some o → Soft o := fun o e => by
      obtain ⟨o', e', hc', _⟩ := hI₁
      rw [e] at e'; cases e'
      exact soft_of_cls hc' (by decide) (by decide) (by decide)
    refine ⟨fun a ha => by simp at ha; subst ha; exact hsoft, wsize (wpAny_pyNext_list_end hh hI₁ hl ?_ fun h' hx hz => ?_)⟩
    · have : all.length ≤ k := List.drop_eq_nil_iff.mp hk
      simp [hr.length, this]
    · exact ⟨rfl, S₁.iter (I := I) (h' := h') s₁.toks (fun b o hb e => hx b o hb e) hz hlo (X.notin hoi hIα) hfx hsoft⟩
  | cons x xs ih =>
    intro k α s hk hI hIα hm hsrc α₁ st₁ s₁ X S₁ hC hm₁ hex
    obtain ⟨oi, hoi, hci, hdi⟩ := id hI
    have hI₁ : s₁.heap.IsListIter I l k := ⟨oi, X.kept I oi hoi hIm hIα (ne_hi hlo hP), hci, hdi⟩
    have hsrc₁ := hsrc.step X hm.soft
    obtain ⟨vs, hl, hr⟩ := hsrc₁.at S₁ hC
    have hsoft : ∀ o, s₁.heap.get? I = some o → Soft o := fun o e => by
      obtain ⟨o', e', hc', _⟩ := hI₁
      rw [e] at e'; cases e'
      exact soft_of_cls hc' (by decide) (by decide) (by decide)
    have hx : all[k]? = some x := by
      have : (all.drop k)[0]? = some x := by rw [hk]; rfl
      simpa using this
    obtain ⟨u, hu, hru⟩ := hr.get hx
    refine ⟨fun a ha => by simp at ha; subst ha; exact hsoft, wpAny_pyNext_list_item hI₁ hl (by simpa using hu) fun h' hI' hs' => ?_⟩
    have hIα₁ : I ∉ α₁ := X.notin hoi hIα
    have z := S₁.iter (I := I) (h' := h') s₁.toks (fun b o hb e => (hs'.2 b hb).trans e) (Nat.le_of_eq hs'.1.symm) hlo hIα₁ hfx hsoft
    refine ⟨u, rfl, letOwned_list hI' ⟨z.1, z.2, hru.step z.1 (fun a ha => by simp at ha; subst ha; exact hsoft), ?_⟩⟩
    exact ih (k + 1) α₁ { s₁ with heap := h' } (by rw [← List.drop_drop, hk]; rfl) hI' hIα₁ (hm₁.iter (I := I) s₁.toks fun b hb => hs'.2 b fun q => hIm (q ▸ hb)) (hsrc₁.step z.1 fun a ha => by simp at ha; subst ha; exact hsoft)
end
end Mine
end

section
open PySem PySem.Calls PyProof.Rows
namespace Mine
local macro_rules | `(tactic| omega) => `(tactic| lia)
section
variable {V : Cx} {G : Gm} {loc loc₁ loc₂ : Loc} {st st₁ st₂ st₃ : St}

theorem own_mods {env : Env} {α β : List Addr} {s s' : Shared} (R : Var V G.ks G.cd env loc α s) (X : Step V [] α s β s') (hlow : V.P < V.h₀.objs.size) : ModsOK V (own env) β s' := (R.step X hlow).modsOK


theorem head_list {A : Around} {env : Env} {α β : List Addr} {s s₁ : Shared} {l : Addr} {C : St → Prop} {target : Expr} {all : List SV} (hh : A.handled = none) (R : Var V G.ks G.cd env loc α s) (S : Sto V α st s) (X : Step V [] α s β s₁) (S₁ : Sto V β st₁ s₁)
    (hsrc : Src V C l all β s₁) (hc : C st₁) :
    wpAny V.M A (pyIter (.ref l)) (fun it s' => ∃ I Its α', it = .ref I ∧ Step V [] α s α' s' ∧ Sto V α' st₁ s' ∧ (∀ a ∈ Its, s.heap.objs.size ≤ a) ∧ Feeds V A I Its (own env) C target all α' s') NoE s₁ := by
  obtain ⟨vs, hl, hr⟩ := hsrc.at S₁ hc
  refine wpAny_pyIter_list hl ?_
  have z := S₁.grow (h' := s₁.heap.push { cls := .type "list_iterator", data := .fields #[.ref l, .int 0 0] }) s₁.toks (fun b o' e => Heap.get?_push_of_some _ e) (by rw [Heap.size_push]; omega)
  have hI : s₁.heap.objs.size ∉ own env := fun h => Nat.lt_irrefl _ (Nat.lt_of_lt_of_le (R.lt h) X.size)
  refine ⟨s₁.heap.objs.size, [s₁.heap.objs.size], β, rfl, X.trans z.2, z.1, fun a ha => by simp at ha; subst ha; exact X.size, feeds_list hh hI S₁.size (fun p hp e => ?_) S.low.2 all 0 β _ rfl ⟨_, Heap.get?_push_size _ rfl, rfl, rfl⟩ (fun h => ?_) (own_mods R (X.trans z.2) S.low.2) (hsrc.step z.2 fun _ h => nomatch h)⟩
  · exact Nat.lt_irrefl _ (e ▸ Heap.lt_size (S₁.fix p hp).1)
  · obtain ⟨i, hi⟩ := List.getElem?_of_mem h
    have hil := (List.getElem?_eq_some_iff.mp hi).1
    rw [S₁.len] at hil
    obtain ⟨a, vs', ha, ⟨o, eo⟩, _⟩ := S₁.cell i st₁[i] (by simp [hil])
    rw [hi] at ha; cases ha
    exact Nat.lt_irrefl _ (Heap.lt_size eo)

theorem HdOK.lst {iter target : Expr} {xs : List SV} (h : EvOK V G iter loc st (.lst xs) st₁) : HdOK V G iter target loc st (fun _ => True) xs st₁ := Box.mk fun A env α s rm S R =>
  wpAny_mono (h.out A env α s rm S R) (fun u s₁ ⟨β, X, S₁, r⟩ => by
    obtain ⟨a, vs, rfl, hl, h1, h2, hr⟩ := r.inv
    exact head_list rm.hd R S X S₁ (.inl ⟨h1, h2, vs, hl, hr⟩) trivial) fun _ _ e => e
theorem HdOK.obj {iter target : Expr} {i : Nat} {xs : List SV} (h : EvOK V G iter loc st (.obj i) st₁) (hx : st₁[i]? = some xs) : HdOK V G iter target loc st (fun st => st[i]? = some xs) xs st₁ := Box.mk fun A env α s rm S R =>
  wpAny_mono (h.out A env α s rm S R) (fun u s₁ ⟨β, X, S₁, r⟩ => by
    obtain ⟨a, rfl, e⟩ := r.inv
    exact head_list rm.hd R S X S₁ (.inr ⟨i, e, fun _ h => h⟩) hx) fun _ _ e => e


noncomputable def AssOK (V : Cx) (G : Gm) (ts : List Expr) (vs : List SV) (loc : Loc) (loc' : Loc) : Prop :=
  Box (∀ (A : Around) (env : Env) (st : St) (α : List Addr) (s : Shared) (us : List Value), Rm A G.n → Sto V α st s → Var V G.ks G.cd env loc α s → Reps V s.heap α us vs →
    wpAny V.M A (assignInOrder ((assignEach ts env).map (·.2)) us) (ResU V G env α s loc' st) NoE s)
theorem AssOK.nil : AssOK V G [] [] loc loc := Box.mk fun A env st α s us rm S R hr => by
  (first | obtain rfl := hr.inv | (obtain ⟨_, rfl⟩ := hr.inv) | (obtain ⟨_, rfl, _⟩ := hr.inv) | cases hr)
  exact wpAny_pure ⟨α, .refl, S, R⟩
theorem AssOK.cons {x : Str} {pos} {ts : List Expr} {v : SV} {vs : List SV} (h : SnOK V G x v loc loc₁) (hr : AssOK V G ts vs loc₁ loc₂) : AssOK V G (.Name x pos :: ts) (v :: vs) loc loc₂ := Box.mk fun A env st α s us rm S R r => by
  replace r := r.inv
  obtain ⟨u, us, hue, r, rs⟩ := r
  subst hue
  · show wpAny _ _ (do holding us (assign (.Name x pos) env u); assignInOrder ((assignEach ts env).map (·.2)) us) _ _ _
    refine wpAny_bind (wpAny_holding (wpAny_mono ((AsOK.name (st := st) h).out A env α s u rm S R r) (fun _ s₁ hq_ => ?_) fun _ _ e => e))
    obtain ⟨α₁, X₁, S₁, R₁⟩ := hq_
    exact wpAny_mono (hr.out A env st α₁ s₁ us rm S₁ R₁ (rs.step X₁ R.modsOK.soft)) (fun _ _ z => z.trans X₁) fun _ _ e => e
noncomputable def isNm : Expr → Bool
  | .Name _ _ => true
  | _ => false
theorem isNm_eq {t : Expr} (h : isNm t = true) : ∃ x pos, t = .Name x pos := by
  cases t <;> first | exact ⟨_, _, rfl⟩ | exact Bool.noConfusion (h : false = true)
theorem AssOK.len {ts : List Expr} (h : ts.all isNm = true) (env : Env) : (assignEach ts env).length = ts.length ∧ (assignEach ts env).findIdx? (·.1) = none := by
  induction ts with
  | nil => exact ⟨rfl, rfl⟩
  | cons t ts ih =>
    rw [List.all_cons, Bool.and_eq_true] at h
    obtain ⟨i1, i2⟩ := ih h.2
    obtain ⟨x, pos, e0⟩ := isNm_eq h.1
    subst e0
    have e : assignEach (.Name x pos :: ts) env = (false, assign (.Name x pos) env) :: assignEach ts env := rfl
    rw [e]
    exact ⟨by simp [i1], by simp [List.findIdx?_cons, i2]⟩


theorem Sto.ext {α : List Addr} {s : Shared} (S : Sto V α st s) {h' : Heap} (t : Nat) (hx : Heap.ExtBut s.heap.objs.size s.heap h') (hz : s.heap.objs.size ≤ h'.objs.size) : Sto V α st { s with heap := h', toks := t } ∧ Step V [] α s α { s with heap := h', toks := t } :=
  S.grow t (fun b o e => hx b o (Nat.ne_of_lt (Heap.lt_size e)) e) hz

theorem AsOK.tup {ts : List Expr} {k pos} {vs : List SV} (hn : ts.all isNm = true) (hl : ts.length = vs.length) (h : AssOK V G ts vs loc loc₁) : AsOK V G (.Tuple ts k pos) (.tup vs) loc st loc₁ st := Box.mk fun A env α s u rm S R r => by
  obtain ⟨a, us, o, n, rfl, e, hc, hd, h1, h2, hr⟩ := r.inv
  obtain ⟨l1, l2⟩ := AssOK.len hn env
  have hlen : (assignEach ts env).length = us.toArray.size := by rw [l1, hl]; simp [hr.length]
  rw [arm_assign_Tuple]
  refine wpAny_bind (wpAny_standAt ?_)
  unfold unpack
  rw [hlen, l2]
  refine wpAny_bind (wpAny_holding (wsize (wpAny_unpackItems_tuple rm.hd ⟨o, e, hc, n, hd⟩ fun h' hx hz => ?_)))
  have z := S.ext (h' := h') s.toks hx hz
  exact wpAny_mono (h.out A env st α _ us rm z.1 (R.step z.2 S.low.2) (hr.go z.2)) (fun _ _ y => y.trans z.2.up) fun _ _ e => e.elim

theorem StOK.asTup {ts : List Expr} {k tpos pos} {value : Expr} {v : SV} (hv : EvOK V G value loc st v st₁) (ha : AsOK V G (.Tuple ts k tpos) v loc st₁ loc₁ st₁)
    (hs : ∀ env, swapsWithSole [.Tuple ts k tpos] value pos.line env = pure false) (hw : ∀ env, swappedStores [.Tuple ts k tpos] value env = pure none) :
    StOK V G (.Assign [.Tuple ts k tpos] value pos) loc st .next loc₁ st₁ := Box.mk fun A env α s rm S R =>
  Assign_Tuple (hs := hs env) (hw := hw env) (wpAny_mono (hv.out A env α s rm S R) (fun u s₁ ⟨α₁, X₁, S₁, R₁⟩ =>
    wpAny_mono (ha.out A env α₁ s₁ u rm S₁ (R.step X₁ S.low.2) R₁) (fun _ s₂ ⟨α₂, X₂, S₂, R₂⟩ => ⟨α₂, X₁.up.trans X₂, S₂, R₂, .next⟩) fun _ _ e => e) fun _ _ e => e)


noncomputable def BnsOK (V : Cx) (G : Gm) (xs : List Str) (vs : List SV) (loc : Loc) (loc' : Loc) : Prop :=
  Box (∀ (A : Around) (env : Env) (st : St) (α : List Addr) (s : Shared) (us : List Value), Sto V α st s → Var V G.ks G.cd env loc α s → Reps V s.heap α us vs →
    wpAny V.M A (assignInOrder (xs.map fun n => bindName env n) us) (ResU V G env α s loc' st) NoE s)
theorem BnsOK.nil : BnsOK V G [] [] loc loc := Box.mk fun A env st α s us S R hr => by
  (first | obtain rfl := hr.inv | (obtain ⟨_, rfl⟩ := hr.inv) | (obtain ⟨_, rfl, _⟩ := hr.inv) | cases hr)
  exact wpAny_pure ⟨α, .refl, S, R⟩
theorem BnsOK.cons {x : Str} {xs : List Str} {v : SV} {vs : List SV} (h : SnOK V G x v loc loc₁) (hr : BnsOK V G xs vs loc₁ loc₂) : BnsOK V G (x :: xs) (v :: vs) loc loc₂ := Box.mk fun A env st α s us S R r => by
  replace r := r.inv
  obtain ⟨u, us, hue, r, rs⟩ := r
  subst hue
  · show wpAny _ _ (do holding us (bindName env x u); assignInOrder (xs.map fun n => bindName env n) us) _ _ _
    refine wpAny_bind (wpAny_holding (wpAny_bindName (wpAny_mono (h.out A env st α s u S R r) (fun _ s₁ hq_ => ?_) fun _ _ e => e)))
    obtain ⟨α₁, X₁, S₁, R₁⟩ := hq_
    exact wpAny_mono (hr.out A env st α₁ s₁ us S₁ R₁ (rs.step X₁ R.modsOK.soft)) (fun _ _ z => z.trans X₁) fun _ _ e => e
theorem StOK.asSwap {ts : List Expr} {k tpos pos} {value : Expr} {vs : List SV} {names : List Str} (hv : EvOK V G value loc st (.tup vs) st₁) (hl : names.length = vs.length) (ha : BnsOK V G names.reverse vs.reverse loc loc₁)
    (hs : ∀ env, swapsWithSole [.Tuple ts k tpos] value pos.line env = pure false)
    (hw : ∀ env : Env, env.scope.kind = .function → env.scope.names = G.ks → swappedStores [.Tuple ts k tpos] value env = pure (some names)) :
    StOK V G (.Assign [.Tuple ts k tpos] value pos) loc st .next loc₁ st₁ := Box.mk fun A env α s rm S R =>
  Assign_Tuple_swapped (hs := hs env) (hw := hw env R.kind R.names) (wpAny_mono (hv.out A env α s rm S R) (fun u s₁ ⟨α₁, X₁, S₁, R₁⟩ => by
    obtain ⟨a, us, o, n, rfl, e, hc, hd, h1, h2, hr⟩ := R₁.inv
    have hlen : names.length = us.toArray.size := by rw [hl]; simp [hr.length]
    rw [hlen]
    refine wsize (wpAny_unpackItems_tuple rm.hd ⟨o, e, hc, n, hd⟩ fun h' hx hz => ?_)
    have z := S₁.ext (h' := h') s₁.toks hx hz
    refine wpAny_mono (ha.out A env st₁ α₁ _ us.reverse z.1 (R.step (X₁.trans z.2) S.low.2) (hr.go z.2).reverse) (fun _ s₂ ⟨α₂, X₂, S₂, R₂⟩ => ⟨α₂, (X₁.trans z.2).up.trans X₂, S₂, R₂, .next⟩) fun _ _ e => e.elim) fun _ _ e => e)

inductive NoRef : SV → Prop
  | none : NoRef .none
  | bool (b) : NoRef (.bool b)
  | int (b) : NoRef (.int b)
  | str (b) : NoRef (.str b)
theorem StOK.expr {e : Expr} {pos} {v : SV} (h : EvOK V G e loc st v st₁) (hv : NoRef v) (hs : ∀ env, swapsWith e none pos.line env = pure false) : StOK V G (.Expr e pos) loc st .next loc st₁ := Box.mk fun A env α s rm S R =>
  wpAny_Expr (hs := hs env) (hi := by unfold interactive; rw [R.kind]; rfl) (wpAny_mono (h.out A env α s rm S R) (fun u s₁ ⟨α₁, X₁, S₁, R₁⟩ => by
    have z : ResS V G env α s loc st₁ .next .next s₁ := ⟨α₁, X₁.up, S₁, R.step X₁ S.low.2, .next⟩
    have q := R₁.inv
    cases hv <;> first | (obtain rfl := q; exact z) | (obtain ⟨_, rfl⟩ := q; exact z)) fun _ _ e => e)

theorem StOK.try_ {body : List Stmt} {hs : List ExceptHandler} {pos} {out : Out} (h : ExOK V G body loc st out loc₁ st₁) : StOK V G (.Try body hs [] [] pos) loc st out loc₁ st₁ := Box.mk fun A env α s rm S R => by
  show wpAny _ _ (do standAt pos; tryStmt false (execs body env) hs (execs [] env) [] env) _ _ _
  refine wpAny_bind (wpAny_standAt ?_)
  unfold tryStmt
  simp only [List.isEmpty_nil, if_true]
  refine wpAny_bind (wpAny_attempt (wpAny_mono (h.out A env α s rm S R) (fun f s₁ z => ?_) fun _ _ e => e.elim))
  cases f with
  | next => exact wpAny_execs_nil z
  | _ => exact wpAny_pure z

theorem StOK.aug {x : Str} {pos' pos} {op} {value : Expr} {v old r : SV} (ho : loc.lookup x = some old) (hk : G.ks.lookup x = some .local) (h : EvOK V G value loc st v st₁)
    (hi : ∀ (A : Around) (α : List Addr) (s : Shared) (u w : Value), Sto V α st₁ s → Rep V s.heap α u old → Rep V s.heap α w v → wpAny V.M A (inplaceOp op u w) (Res V α s st₂ r) NoE s)
    (hn : SnOK V G x r loc loc₁) : StOK V G (.AugAssign (.Name x pos') op value pos) loc st .next loc₁ st₂ := Box.mk fun A env α s rm S R => by
  obtain ⟨m, hns, hv⟩ := R.ns
  obtain ⟨u, hu, hr⟩ := hv x old ho hk
  refine wpAny_AugAssign_Name (wpAny_loadName_local R.kind (by show env.scope.names.lookup x = _; rw [R.names]; exact hk) hns hu ?_)
  refine wpAny_mono (h.out A env α s rm S R) (fun w s₂ hq_ => ?_) fun _ _ e => e
  obtain ⟨α₂, X₂, S₂, R₂⟩ := hq_
  refine wpAny_mono (hi A α₂ s₂ u w S₂ (hr.go X₂) R₂) (fun r s₃ hq_ => ?_) fun _ _ e => e
  obtain ⟨α₃, X₃, S₃, R₃⟩ := hq_
  have X := X₂.trans X₃
  exact wpAny_mono (hn.out A env st₂ α₃ s₃ r S₃ (R.step X S.low.2) R₃) (fun _ s₄ ⟨α₄, X₄, S₄, R₄⟩ => ⟨α₄, X.up.trans X₄, S₄, R₄, .next⟩) fun _ _ e => e
end
end Mine
end

section
open PySem PySem.Calls PyProof.Rows
namespace Mine
local macro_rules | `(tactic| omega) => `(tactic| lia)

inductive BReps (V : Cx) (h : Heap) (α : List Addr) : List (Str × Value) → Loc → Prop
  | nil : BReps V h α [] []
  | cons (n u v bs loc) : Rep V h α u v → BReps V h α bs loc → BReps V h α ((n, u) :: bs) ((n, v) :: loc)
theorem BReps.inv {V : Cx} {h : Heap} {α : List Addr} {bs : List (Str × Value)} (r : BReps V h α bs []) : bs = [] := by cases r; rfl
theorem BReps.icons {V : Cx} {h : Heap} {α : List Addr} {n : Str} {v : SV} {loc : Loc} {bs : List (Str × Value)} (r : BReps V h α bs ((n, v) :: loc)) : ∃ u us, bs = (n, u) :: us ∧ Rep V h α u v ∧ BReps V h α us loc := by
  cases r with | cons n u v bs loc r rs => exact ⟨u, bs, rfl, r, rs⟩
theorem BReps.go {V : Cx} {α β : List Addr} {s t : Shared} (X : Step V [] α s β t) {bs loc} (r : BReps V s.heap α bs loc) : BReps V t.heap β bs loc := by
  induction loc generalizing bs with
  | nil => obtain rfl := r.inv; exact .nil
  | cons p loc ih => obtain ⟨n, v⟩ := p; obtain ⟨u, us, rfl, hv, rs⟩ := r.icons; exact .cons n u v us loc (hv.go X) (ih rs)
theorem BReps.keys {V : Cx} {h α} {bs loc} (r : BReps V h α bs loc) : bs.map (·.1) = loc.map (·.1) := by
  induction loc generalizing bs with
  | nil => obtain rfl := r.inv; rfl
  | cons p loc ih => obtain ⟨n, v⟩ := p; obtain ⟨u, us, rfl, hv, rs⟩ := r.icons; exact congrArg (n :: ·) (ih rs)
theorem BReps.look {V : Cx} {h α} {x : Str} {bs loc} (r : BReps V h α bs loc) {v} (e : loc.lookup x = some v) : ∃ u, bs.lookup x = some u ∧ Rep V h α u v := by
  induction loc generalizing bs with
  | nil => cases e
  | cons p loc ih =>
    obtain ⟨n, w⟩ := p
    obtain ⟨u, us, rfl, hv, rs⟩ := r.icons
    rw [List.lookup_cons] at e ⊢
    cases hb : x == n with
    | true => rw [hb] at e; cases e; exact ⟨u, rfl, hv⟩
    | false => rw [hb] at e; exact ih rs e
theorem bindL_lookup {k : Str → Option NameKind} {x : Str} (hk : k x = some .local) : ∀ {bs : List (Str × Value)} (m : Str → Option Value), (bs.map (·.1)).Nodup → bindL k bs m x = (bs.lookup x).or (m x)
  | [], m, _ => by simp [bindL]
  | (n, v) :: r, m, hn => by
    rw [List.map_cons, List.nodup_cons] at hn
    unfold bindL
    rw [bindL_lookup hk _ hn.2, List.lookup_cons]
    by_cases hx : x = n
    · subst hx
      have : r.lookup x = none := by
        cases hq : r.lookup x with
        | none => rfl
        | some w => exact absurd (List.mem_map.mpr ⟨(x, w), mem_of_lookup hq, rfl⟩) hn.1
      simp [this, hk]
    · simp only [show (x == n) = false by simpa using hx]
      congr 1
      by_cases hl : k n = some .local
      · simp [hl, hx]
      · simp [hl]
theorem bindC_lookup {k : Str → Option NameKind} {x : Str} (hk : k x ≠ some .local) : ∀ {bs : List (Str × Value)} (m : Str → Option Value), (bs.map (·.1)).Nodup → bindC k bs m x = (bs.lookup x).or (m x)
  | [], m, _ => by simp [bindC]
  | (n, v) :: r, m, hn => by
    rw [List.map_cons, List.nodup_cons] at hn
    unfold bindC
    rw [bindC_lookup hk _ hn.2, List.lookup_cons]
    by_cases hx : x = n
    · subst hx
      have : r.lookup x = none := by
        cases hq : r.lookup x with
        | none => rfl
        | some w => exact absurd (List.mem_map.mpr ⟨(x, w), mem_of_lookup hq, rfl⟩) hn.1
      simp [this, hk]
    · simp only [show (x == n) = false by simpa using hx]
      congr 1
      by_cases hl : k n = some .local
      · simp [hl]
      · simp [hl, hx]


structure FnAt (V : Cx) (fd : FuncData) (a : Addr) (o : Obj) : Prop where
  get : V.h₀.get? a = some o
  data : o.data = .func fd
  rec' : V.h₀.CodeRec fd.code fd.qualname
  ne : a ≠ V.P
  glob : fd.globals = mainGlobals
  blt : fd.builtins = builtinsNs
  clo : fd.closure = []
  co : fd.scope.isCoroutine = false
  gen : fd.scope.isGenerator = false
  kind : fd.scope.kind = .function

noncomputable def Out.val : Out → SV
  | .ret v => v
  | _ => .none

noncomputable def CallOK (V : Cx) (n : Nat) (f : SV) (args : List SV) (kw : Loc) (st : St) (v : SV) (st' : St) : Prop :=
  Box (∀ (A : Around) (α : List Addr) (s : Shared) (fv : Value) (us : List Value) (ks : List (Str × Value)), Rm A n → Sto V α st s → Rep V s.heap α fv f → Reps V s.heap α us args → BReps V s.heap α ks kw → wpAny V.M A (call fv us ks) (Res V α s st' v) NoE s)


noncomputable def BindOK (V : Cx) (fd : FuncData) (args : List SV) (kw : Loc) (st : St) (loc : Loc) : Prop :=
  Box (∀ (A : Around) (α : List Addr) (s : Shared) (us : List Value) (ks : List (Str × Value)), Sto V α st s → Reps V s.heap α us args → BReps V s.heap α ks kw →
    wpAny V.M A (bindArgs fd ⟨us, ks⟩) (fun bs s' => Step V [] α s α s' ∧ Sto V α st s' ∧ BReps V s'.heap α bs loc) NoE s)

section
variable {V : Cx} {G : Gm} {loc loc₁ loc₂ : Loc} {st st₁ st₂ st₃ : St}

theorem Sto.codeRec {α s} (S : Sto V α st s) {cd q} (h : V.h₀.CodeRec cd q) (hne : ∀ c, cd = .ref c → c ≠ V.P) : s.heap.CodeRec cd q :=
  let ⟨c, o, vs, t, e, g, r⟩ := h; ⟨c, o, vs, t, e, S.old _ _ g (hne c e), r⟩

theorem mem_lookup_of_nodup {β : Type} {x : Str} {k : β} : ∀ {l : List (Str × β)}, (l.map (·.1)).Nodup → (x, k) ∈ l → l.lookup x = some k
  | [], _, h => nomatch h
  | (y, j) :: l, hn, h => by
    rw [List.map_cons, List.nodup_cons] at hn
    rw [List.lookup_cons]
    rcases List.mem_cons.mp h with e | h'
    · cases e; simp
    · have : x ≠ y := fun e => hn.1 (List.mem_map.mpr ⟨(x, k), h', e⟩)
      simp only [show (x == y) = false by simpa using this]
      exact mem_lookup_of_nodup hn.2 h'


theorem cellsFrom_has {x : Str} : ∀ (names : List (Str × NameKind)) (n : Nat) (acc : List (Str × Addr)), (names.lookup x = some .cell ∨ (acc.lookup x).isSome = true) → ((cellsFrom n names acc).lookup x).isSome = true
  | [], n, acc, h => by rcases h with h | h; simp at h; exact h
  | (y, k) :: r, n, acc, h => by
    unfold cellsFrom
    by_cases hk : k = .cell
    · subst hk
      rw [if_pos (by rfl)]
      refine cellsFrom_has r (n + 1) _ ?_
      rcases h with h | h
      · rw [List.lookup_cons] at h
        cases hb : x == y with
        | true => right; rw [List.lookup_cons, hb]; rfl
        | false => rw [hb] at h; exact .inl h
      · right
        rw [List.lookup_cons]
        cases hb : x == y with
        | true => rfl
        | false => exact h
    · rw [if_neg (by simpa using hk)]
      refine cellsFrom_has r n acc ?_
      rcases h with h | h
      · rw [List.lookup_cons] at h
        cases hb : x == y with
        | true => rw [hb] at h; cases h; exact absurd rfl hk
        | false => rw [hb] at h; exact .inl h
      · exact .inr h

theorem cellsFrom_nodup : ∀ (names : List (Str × NameKind)) (n : Nat) (acc : List (Str × Addr)), (names.map (·.1)).Nodup → (∀ y ∈ names.map (·.1), y ∉ acc.map (·.1)) → (acc.map (·.1)).Nodup → ((cellsFrom n names acc).map (·.1)).Nodup
  | [], n, acc, _, _, h => h
  | (y, k) :: r, n, acc, h1, h2, h3 => by
    rw [List.map_cons, List.nodup_cons] at h1
    unfold cellsFrom
    split
    · refine cellsFrom_nodup r (n + 1) _ h1.2 (fun z hz => ?_) ?_
      · rw [List.map_cons, List.mem_cons]
        rintro (e | e)
        · exact h1.1 (by rw [show y = z from e.symm]; exact hz)
        · exact h2 z (List.mem_cons_of_mem _ hz) e
      · rw [List.map_cons, List.nodup_cons]
        exact ⟨h2 y (List.mem_cons_self ..), h3⟩
    · exact cellsFrom_nodup r n acc h1.2 (fun z hz => h2 z (List.mem_cons_of_mem _ hz)) h3


noncomputable def IsFn (V : Cx) (f : SV) (a : Addr) : Prop := ∀ {h : Heap} {α : List Addr} {u : Value}, Rep V h α u f → u = .ref a
theorem IsFn.gl {x : Str} {a : Addr} (hm : V.mg x = some (.ref a)) : IsFn V (.gl x) a := fun r => by
  exact (Option.some.inj (hm.symm.trans r.inv)).symm
theorem IsFn.val {a : Addr} : IsFn V (.val (.ref a)) a := fun r => by (first | obtain rfl := r.inv | (obtain ⟨_, rfl⟩ := r.inv) | (obtain ⟨_, rfl, _⟩ := r.inv) | cases r); rfl


theorem enter_def {fd : FuncData} {a : Addr} {o : Obj} {n : Nat} {args : List SV} {kw : Loc} {body : List Stmt} (p : Pg V) (F : FnAt V fd a o) (hcode : ∀ c, fd.code = .ref c → c ≠ V.P) (hbody : fd.body = .stmts body)
    (hb : BindOK V fd args kw st loc) (hk : ∀ y ∈ loc.map (·.1), fd.scope.names.lookup y = some .local ∨ fd.scope.names.lookup y = some .cell) (hnd : (loc.map (·.1)).Nodup) (hsn : (fd.scope.names.map (·.1)).Nodup)
    {A : Around} {α : List Addr} {s : Shared} {us : List Value} {ks : List (Str × Value)} {Q : Value → Shared → Prop} (rm : Rm A (n + 1)) (S : Sto V α st s) (hr : Reps V s.heap α us args) (hkw : BReps V s.heap α ks kw)
    (hq : ∀ (env : Env) (s₂ : Shared), Rm (A.deeper env) n → Sto V α st s₂ → Var V fd.scope.names fd.code env loc α s₂ → (∀ b ∈ own env, s.heap.objs.size ≤ b) → Step V [] α s α s₂ →
      wpAny V.M (A.deeper env) (execs body env) (fun f s' => Q (match f with | .ret v => v | _ => .none) s') NoE s₂) : wpAny V.M A (call (.ref a) us ks) Q NoE s := by
  have ho : s.heap.get? a = some o := S.old _ _ F.get F.ne
  refine wpAny_call ?_
  refine codeAny_call_function (by have := rm.dp; show A.depth < 1000; omega) ho F.data F.co F.gen hbody (S.codeRec F.rec' hcode) ?_
  refine wpAny_mono (hb.out A.in1 α s us ks S hr hkw) (fun bs s₁ hq_ => ?_) fun _ _ e => e.elim
  obtain ⟨X₁, S₁, B₁⟩ := hq_
  rw [F.glob, F.clo, F.blt]
  have hkeys := B₁.keys
  refine wsize (wpAny_newFunctionEnv_cells F.kind (fun y hy => ?_) fun env he s₂ x₂ hz => ?_)
  · have : y.1 ∈ loc.map (·.1) := by rw [← hkeys]; exact List.mem_map.mpr ⟨y, hy, rfl⟩
    rcases hk _ this with h | h
    · exact .inl h
    · exact .inr ⟨h, cellsFrom_has _ _ _ (.inl h)⟩
  have e1 : env.scope = fd.scope := by rw [he]; rfl
  have e2 : env.locals = s₁.heap.objs.size := by rw [he]; rfl
  have e3 : env.globals = mainGlobals := by rw [he]; rfl
  have e4 : env.builtins = builtinsNs := by rw [he]; rfl
  have e5 : env.code = fd.code := by rw [he]; rfl
  have e6 : env.cells = cellsFrom (s₁.heap.objs.size + 1) fd.scope.names [] := by rw [he]; rfl
  clear he
  obtain ⟨h₂, tk₂, e⟩ := x₂.toInCall.same
  subst e
  have z := S₁.grow (h' := h₂) tk₂ x₂.toInCall.keep hz
  refine ⟨z.1.limit p, codeAny_func ?_⟩
  have L0 : ∀ b ∈ own env, s₁.heap.objs.size ≤ b := by
    intro b hb'
    rcases List.mem_cons.mp hb' with rfl | hb'
    · exact Nat.le_of_eq e2.symm
    · obtain ⟨q, hq, rfl⟩ := List.mem_map.mp hb'
      exact Nat.le_of_lt (e2 ▸ x₂.above q.1 q.2 hq)
  have hkind : ∀ y, env.kindOf y = fd.scope.names.lookup y := fun y => by show env.scope.names.lookup y = _; rw [e1]
  have B₂ := B₁.go z.2
  have hnd' : (bs.map (·.1)).Nodup := by rw [hkeys]; exact hnd
  have R : Var V fd.scope.names fd.code env loc α { s₁ with heap := h₂, toks := tk₂ } := by
    refine ⟨by rw [e1], by rw [e1]; exact F.kind, e3, e4, e5, fun b hb' => ⟨Nat.le_trans S₁.size (L0 b hb'), fun hα => ?_, fun q hq e => ?_⟩, ?_, ⟨_, x₂.toInCall.ns, fun y w h1 h2 => ?_⟩, fun y w h1 h2 => ?_, fun q hq => ?_, fun y hy => ?_⟩
    · obtain ⟨i, hi⟩ := List.getElem?_of_mem hα
      have hil := (List.getElem?_eq_some_iff.mp hi).1
      rw [S₁.len] at hil
      obtain ⟨a', vs', ha', ⟨o', eo⟩, _⟩ := S₁.cell i st[i] (by simp [hil])
      rw [hi] at ha'; cases ha'
      exact Nat.lt_irrefl _ (Nat.lt_of_lt_of_le (Heap.lt_size eo) (L0 b hb'))
    · exact Nat.lt_irrefl _ (Nat.lt_of_lt_of_le (Heap.lt_size (S₁.fix q hq).1) (e ▸ L0 b hb'))
    · refine List.nodup_cons.mpr ⟨fun hm => ?_, ?_⟩
      · obtain ⟨q, hq, e⟩ := List.mem_map.mp hm
        exact Nat.lt_irrefl _ (e ▸ x₂.above q.1 q.2 hq)
      · exact List.pairwise_map.mpr x₂.apart
    · obtain ⟨u, hu, hru⟩ := B₂.look h1
      have hl : env.kindOf y = some .local := (hkind y).trans h2
      exact ⟨u, by rw [bindL_lookup hl _ hnd', hu]; rfl, hru⟩
    · obtain ⟨u, hu, hru⟩ := B₂.look h1
      have hl : env.kindOf y = some .cell := (hkind y).trans h2
      have hc := cellsFrom_has (x := y) fd.scope.names (s₁.heap.objs.size + 1) [] (.inl h2)
      rw [← e6] at hc
      obtain ⟨c, hc⟩ := Option.isSome_iff_exists.mp hc
      refine ⟨c, u, hc, ?_, hru⟩
      have := x₂.cell y c hc
      rw [bindC_lookup (by rw [hl]; decide) _ hnd', hu] at this
      exact this
    · obtain ⟨n', c⟩ := q
      have hnn : (env.cells.map (·.1)).Nodup := by rw [e6]; exact cellsFrom_nodup _ _ _ hsn (fun _ _ h => nomatch h) List.nodup_nil
      exact ⟨_, x₂.cell n' c (mem_lookup_of_nodup hnn hq)⟩
    · have hc := cellsFrom_has (x := y) fd.scope.names (s₁.heap.objs.size + 1) [] (.inl hy)
      rw [← e6] at hc
      exact Option.isSome_iff_exists.mp hc
  have rm' : Rm (A.deeper env) n := ⟨rm.hd, by have := rm.dp; show A.depth + 1 + n ≤ 900; omega, by have := rm.un; show A.units + 3 + 10 * n ≤ 9000; omega⟩
  refine wpAny_mono (hq env _ rm' z.1 R (fun b hb' => Nat.le_trans X₁.size (L0 b hb')) (X₁.trans z.2)) (fun f s₃ h => ?_) fun _ _ e => e.elim
  cases f <;> exact h


theorem CallOK.def {f : SV} {fd : FuncData} {a : Addr} {o : Obj} {n : Nat} {args : List SV} {kw : Loc} {body : List Stmt} {out : Out} {st' : St} {ext : St} {v r : SV} (p : Pg V) (hfn : IsFn V f a) (F : FnAt V fd a o) (hcode : ∀ c, fd.code = .ref c → c ≠ V.P) (hbody : fd.body = .stmts body)
    (hb : BindOK V fd args kw st loc) (hk : ∀ y ∈ loc.map (·.1), fd.scope.names.lookup y = some .local ∨ fd.scope.names.lookup y = some .cell) (hnd : (loc.map (·.1)).Nodup) (hsn : (fd.scope.names.map (·.1)).Nodup)
    (hrun : ExOK V ⟨n, fd.scope.names, fd.code⟩ body loc st out loc₁ (st' ++ ext)) (hout : r = out.val)
    (hlen : st.length = st'.length) (hsm : ∀ (i : Nat) (xs : List SV), (∀ (j : Nat) (ys : List SV), st[j]? = some ys → Fzs st.length [] ys ys) → st'[i]? = some xs → Fzs st.length [] xs xs)
    (hfz : Fz st.length (st' ++ ext) r v) : CallOK V (n + 1) f args kw st v st' := Box.mk fun A α s fv us ks rm S hf hr hkw => by
  cases hfn hf
  refine enter_def p F hcode hbody hb hk hnd hsn rm S hr hkw fun env s₂ rm' S₂ R L0 X₂ => ?_
  refine wpAny_mono (hrun.out (A.deeper env) env α s₂ rm' S₂ R) (fun f s₃ hq_ => ?_) fun _ _ e => e
  obtain ⟨γ, X₃, S₃, R₃, of⟩ := hq_
  have X : Step V [] α s γ s₃ := (X₂.up.trans X₃).mods fun b hb' => .inr (L0 b hb')
  obtain ⟨new, e, hnew⟩ := X.ext
  subst e
  have hα : α.length = st.length := S.len
  have key : ∀ u : Value, Rep V s₃.heap (α ++ new) u r → Res V α s st' v u s₃ := fun u hr' => by
    refine ⟨α, ⟨X.kept, X.size, [], by simp, by simp⟩, S₃.drop (hα.trans hlen) (fun i xs e => ?_) S.bkl, ?_⟩
    · rw [hα]; exact hsm i xs (fun j ys e => by have := S.self j ys e; rwa [hα] at this) e
    · have := S₃.ice
      rw [← hα] at hfz
      exact Fz.sound this hfz hr'
  subst hout
  cases of with
  | next => exact key _ .none
  | brk => exact key _ .none
  | cont => exact key _ .none
  | ret u v r => exact key _ r
end
end Mine
end

section
open PySem PySem.Calls PyProof.Rows
namespace Mine
local macro_rules | `(tactic| omega) => `(tactic| lia)

inductive ResL (V : Cx) (α : List Addr) (s : Shared) (st : St) (vs : List SV) (us : List Value) (s' : Shared) : Prop
  | mk (α' : List Addr) (X : Step V [] α s α' s') (S : Sto V α' st s') (r : Reps V s'.heap α' us vs)
noncomputable def EvsOK (V : Cx) (G : Gm) (es : List Expr) (loc : Loc) (st : St) (vs : List SV) (st' : St) : Prop :=
  Box (∀ (A : Around) (env : Env) (pos : Pos) (α : List Addr) (s : Shared), Rm A G.n → Sto V α st s → Var V G.ks G.cd env loc α s → wpAny V.M A (spliced (backTo pos (starEach es env))) (ResL V α s st' vs) NoE s)

noncomputable def EvkOK (V : Cx) (G : Gm) (ks : List Keyword) (loc : Loc) (st : St) (kw : Loc) (st' : St) : Prop :=
  Box (∀ (A : Around) (env : Env) (pos : Pos) (α : List Addr) (s : Shared), Rm A G.n → Sto V α st s → Var V G.ks G.cd env loc α s →
    wpAny V.M A (evalAll ((backToKw pos (keywordEach ks env)).map (·.2))) (fun us s' => ∃ α', Step V [] α s α' s' ∧ Sto V α' st' s' ∧ BReps V s'.heap α' (((backToKw pos (keywordEach ks env)).filterMap (·.1)).zip us) kw) NoE s)

noncomputable def kwName : Keyword → Option Str
  | ⟨n, _, _⟩ => n
noncomputable def notStar : Expr → Bool
  | .Starred _ _ => false
  | _ => true

section
variable {V : Cx} {G : Gm} {loc loc₁ loc₂ : Loc} {st st₁ st₂ st₃ : St}

theorem starEach_cons {e : Expr} {es : List Expr} {env : Env} (h : notStar e = true) : starEach (e :: es) env = (false, eval e env) :: starEach es env := by
  cases e <;> first | rfl | (exact Bool.noConfusion (h : false = true))

theorem EvsOK.nil : EvsOK V G [] loc st [] st := Box.mk fun A env pos α s _ S R => wpAny_items_nil ⟨α, .refl, S, .nil⟩
theorem EvsOK.cons {e : Expr} {es : List Expr} {v : SV} {vs : List SV} (hs : notStar e = true) (h : EvOK V G e loc st v st₁) (hr : EvsOK V G es loc st₁ vs st₂) : EvsOK V G (e :: es) loc st (v :: vs) st₂ := Box.mk fun A env pos α s rm S R =>
  wpAny_items_cons (he := starEach_cons hs) (wpAny_mono (h.out A env α s rm S R) (fun u s₁ ⟨α₁, X₁, S₁, R₁⟩ =>
    wpAny_mono (hr.out A env pos α₁ s₁ rm S₁ (R.step X₁ S.low.2)) (fun us s₂ ⟨α₂, X₂, S₂, R₂⟩ => ⟨α₂, X₁.trans X₂, S₂, .cons _ _ _ _ (R₁.go X₂) R₂⟩) fun _ _ e => e) fun _ _ e => e)

theorem EvkOK.nil : EvkOK V G [] loc st [] st := Box.mk fun A env pos α s _ S R => wpAny_evalAll_nil ⟨α, .refl, S, .nil⟩
theorem EvkOK.one {n : Str} {e : Expr} {p} {v : SV} (h : EvOK V G e loc st v st₁) : EvkOK V G [⟨some n, e, p⟩] loc st [(n, v)] st₁ := Box.mk fun A env pos α s rm S R => by
  show wpAny _ _ (evalAll [do let v ← eval e env; standAt pos; pure v]) _ _ _
  refine wpAny_evalAll_cons (wpAny_bind (wpAny_mono (h.out A env α s rm S R) (fun u s₁ ⟨α₁, X₁, S₁, R₁⟩ => wpAny_bind (wpAny_standAt (wpAny_pure (wpAny_evalAll_nil ?_)))) fun _ _ e => e))
  exact ⟨α₁, X₁, S₁, .cons n u v [] [] R₁ .nil⟩

section
variable {M : Model} {A : Around} {E : Value → Shared → Prop} {s : Shared}
theorem evalArgs_gen {f : Value} {args : List (Bool × Sem Value)} {keywords : List (Option Str × Sem Value)} {Q : Args → Shared → Prop} (hs : args.all (fun x => !x.1) = true) (hall : keywords.all (·.1.isSome) = true)
    (h : wpAny M A (spliced args) (fun vs s₁ => wpAny M A (evalAll (keywords.map (·.2))) (fun ks s₂ => Q ⟨vs, (keywords.filterMap (·.1)).zip ks⟩ s₂) E s₁) E s) : wpAny M A (evalArgs f true args keywords) Q E s := by
  match args, hs with
  | [], _ =>
    exact evalArgs_kw_nil hall fun Γ p hΓ => (h Γ p hΓ) Γ p hΓ
  | (false, x) :: rest, _ => exact evalArgs_kw hall h
  | (true, x) :: rest, hs => exact absurd hs (by simp)
end

theorem back_all {es : List Expr} (h : es.all notStar = true) (env : Env) (pos : Pos) : (backTo pos (starEach es env)).all (fun x => !x.1) = true ∧ (backTo pos (starEach es env)).any (·.1) = false ∧ (backTo pos (starEach es env)).length = es.length := by
  induction es with
  | nil => exact ⟨rfl, rfl, rfl⟩
  | cons e es ih =>
    rw [List.all_cons, Bool.and_eq_true] at h
    obtain ⟨a, b, c⟩ := ih h.2
    rw [starEach_cons h.1]
    show ((false, _) :: backTo pos (starEach es env)).all _ = true ∧ ((false, _) :: backTo pos (starEach es env)).any _ = false ∧ ((false, _) :: backTo pos (starEach es env)).length = _
    exact ⟨by rw [List.all_cons, a]; rfl, by rw [List.any_cons, b]; rfl, by rw [List.length_cons, c, List.length_cons]⟩
theorem backKw_all {ks : List Keyword} (h : ks.all (fun k => (kwName k).isSome) = true) (env : Env) (pos : Pos) : (backToKw pos (keywordEach ks env)).all (·.1.isSome) = true := by
  induction ks with
  | nil => rfl
  | cons k ks ih =>
    rw [List.all_cons, Bool.and_eq_true] at h
    obtain ⟨n, e, p⟩ := k
    show ((n, _) :: backToKw pos (keywordEach ks env)).all _ = true
    rw [List.all_cons, ih h.2, Bool.and_true]; exact h.1


noncomputable def CwOK (V : Cx) (G : Gm) (f : SV) (first : List SV) (es : List Expr) (ks : List Keyword) (loc : Loc) (st : St) (v : SV) (st' : St) : Prop :=
  Box (∀ (A : Around) (env : Env) (pos pos' : Pos) (α : List Addr) (s : Shared) (fv : Value) (fs : List Value), Rm A G.n → Sto V α st s → Var V G.ks G.cd env loc α s → Rep V s.heap α fv f → Reps V s.heap α fs first →
    wpAny V.M A (callWith pos fv fs (backTo pos' (starEach es env)) (backToKw pos' (keywordEach ks env))) (Res V α s st' v) NoE s)

theorem CwOK.fn {f : SV} {fd : FuncData} {a : Addr} {o : Obj} {first : List SV} {es : List Expr} {ks : List Keyword} {vs : List SV} {kw : Loc} {v : SV} (hfn : IsFn V f a) (F : FnAt V fd a o) (hs : es.all notStar = true) (hk : ks.all (fun k => (kwName k).isSome) = true)
    (he : EvsOK V G es loc st vs st₁) (hkw : EvkOK V G ks loc st₁ kw st₂) (hc : CallOK V G.n f (first ++ vs) kw st₂ v st₃) : CwOK V G f first es ks loc st v st₃ := Box.mk fun A env pos pos' α s fv fs rm S R rf rfs => by
  cases hfn rf
  refine callWith_function_kw (o := o) (fd := fd) (evalArgs_gen (back_all hs env pos').1 (backKw_all hk env pos') ?_)
  refine wpAny_mono (he.out A env pos' α s rm S R) (fun us s₁ hq_ => ?_) fun _ _ e => e
  obtain ⟨α₁, X₁, S₁, R₁⟩ := hq_
  refine wpAny_mono (hkw.out A env pos' α₁ s₁ rm S₁ (R.step X₁ S.low.2)) (fun us' s₂ hq_ => ?_) fun _ _ e => e
  obtain ⟨α₂, X₂, S₂, R₂⟩ := hq_
  refine ⟨⟨S₂.old _ _ F.get F.ne, F.data⟩, ?_⟩
  refine wpAny_mono (hc.out A α₂ s₂ (.ref a) (fs ++ us) _ rm S₂ (rf.go (X₁.trans X₂)) ((rfs.go (X₁.trans X₂)).append (R₁.go X₂)) R₂) (fun _ _ z => z.trans (X₁.trans X₂)) fun _ _ e => e

theorem CwOK.bi {id : String} {first : List SV} {es : List Expr} {vs : List SV} {v : SV} (hs : es.all notStar = true) (he : EvsOK V G es loc st vs st₁) (hc : CallOK V G.n (.val (.builtin id)) (first ++ vs) [] st₁ v st₂) :
    CwOK V G (.val (.builtin id)) first es [] loc st v st₂ := Box.mk fun A env pos pos' α s fv fs rm S R rf rfs => by
  (first | obtain rfl := rf.inv | (obtain ⟨_, rfl⟩ := rf.inv) | (obtain ⟨_, rfl, _⟩ := rf.inv) | cases rf)
  refine callWith_builtin (back_all hs env pos').2.1 (evalArgs_gen (back_all hs env pos').1 rfl ?_)
  refine wpAny_mono (he.out A env pos' α s rm S R) (fun us s₁ ⟨α₁, X₁, S₁, R₁⟩ => wpAny_evalAll_nil ?_) fun _ _ e => e
  exact wpAny_mono (hc.out A α₁ s₁ _ (fs ++ us) [] rm S₁ (.val _) ((rfs.go X₁).append R₁) .nil) (fun _ _ z => z.trans X₁) fun _ _ e => e
theorem CwOK.ty {T : String} {first : List SV} {es : List Expr} {vs : List SV} {v : SV} (hs : es.all notStar = true) (he : EvsOK V G es loc st vs st₁) (hc : CallOK V G.n (.val (.type T)) (first ++ vs) [] st₁ v st₂) :
    CwOK V G (.val (.type T)) first es [] loc st v st₂ := Box.mk fun A env pos pos' α s fv fs rm S R rf rfs => by
  (first | obtain rfl := rf.inv | (obtain ⟨_, rfl⟩ := rf.inv) | (obtain ⟨_, rfl, _⟩ := rf.inv) | cases rf)
  refine PySem.callWith_type (back_all hs env pos').2.1 (evalArgs_gen (back_all hs env pos').1 rfl ?_)
  refine wpAny_mono (he.out A env pos' α s rm S R) (fun us s₁ ⟨α₁, X₁, S₁, R₁⟩ => wpAny_evalAll_nil ?_) fun _ _ e => e
  exact wpAny_mono (hc.out A α₁ s₁ _ (fs ++ us) [] rm S₁ (.val _) ((rfs.go X₁).append R₁) .nil) (fun _ _ z => z.trans X₁) fun _ _ e => e

theorem EvOK.call {x : Str} {p pos} {es : List Expr} {ks : List Keyword} {f v : SV} (hf : EvOK V G (.Name x p) loc st f st) (h : CwOK V G f [] es ks loc st v st₁) : EvOK V G (.Call (.Name x p) es ks pos) loc st v st₁ := Box.mk fun A env α s rm S R =>
  wpAny_Call_Name_kw (wpAny_mono (hf.out A env α s rm S R) (fun u s₁ ⟨α₁, X₁, S₁, R₁⟩ =>
    wpAny_mono (h.out A env pos pos α₁ s₁ u [] rm S₁ (R.step X₁ S.low.2) R₁ .nil) (fun _ _ z => z.trans X₁) fun _ _ e => e) fun _ _ e => e)


noncomputable def GmOK (V : Cx) (ov : SV) (name : Str) (st : St) (f : SV) (first : List SV) : Prop :=
  Box (∀ (A : Around) (α : List Addr) (s : Shared) (u : Value) (pl : Sem Bool), Sto V α st s → Rep V s.heap α u ov → wpAny V.M A (getMethod u name pl) (fun p s' => s' = s ∧ Rep V s.heap α p.1 f ∧ Reps V s.heap α p.2 first) NoE s)

theorem EvOK.meth {o : Expr} {name : Str} {apos pos} {es : List Expr} {ks : List Keyword} {ov f v : SV} {first : List SV} (ho : EvOK V G o loc st ov st₁) (hg : GmOK V ov name st₁ f first) (h : CwOK V G f first es ks loc st₁ v st₂)
    (hbase : ∀ env, attributeBase o name env (eval o env) = eval o env) (hs : es.all notStar = true) (hk : ks.all (fun k => (kwName k).isSome) = true) (hn : (decide (es.length + ks.length + (if ks.isEmpty then 0 else 1) < 30)) = true)
    (hline : (apos.endLine == pos.line) = true) : EvOK V G (.Call (.Attribute o name apos) es ks pos) loc st v st₂ := Box.mk fun A env α s rm S R => by
  rw [arm_eval_Call, hbase]
  refine wpAny_bind (wpAny_mono (ho.out A env α s rm S R) (fun u s₁ hq_ => ?_) fun _ _ e => e)
  obtain ⟨α₁, X₁, S₁, R₁⟩ := hq_
  refine wpAny_bind (wpAny_standAt ?_)
  have hke : ∀ ks : List Keyword, (backToKw pos (keywordEach ks env)).isEmpty = ks.isEmpty := fun ks => by
    cases ks with
    | nil => rfl
    | cons k ks => obtain ⟨n, e, p⟩ := k; rfl
  have hform : methodCallForm (es.length + ks.length) (backTo pos (starEach es env)) (backToKw pos (keywordEach ks env)) = true := by
    unfold methodCallForm
    rw [hke]
    exact Bool.and_eq_true_iff.mpr ⟨Bool.and_eq_true_iff.mpr ⟨(back_all hs env pos).1, backKw_all hk env pos⟩, hn⟩
  have hpos : methodCallPos true o env apos pos = pure pos := by unfold methodCallPos; simp [hline]
  unfold methodCall
  generalize hq : methodCallForm (es.length + ks.length) (backTo pos (starEach es env)) (backToKw pos (keywordEach ks env)) = q at hform ⊢
  subst hform
  refine wpAny_bind (wpAny_holding (wpAny_mono (hg.out A α₁ s₁ u _ S₁ R₁) (fun p s₂ hq_ => ?_) fun _ _ e => e))
  obtain ⟨e, rf, rfs⟩ := hq_
  subst e
  refine wpAny_bind (wpAny_of_eq hpos ?_)
  exact wpAny_mono (h.out A env pos pos α₁ s₂ p.1 p.2 rm S₁ (R.step X₁ S.low.2) rf rfs) (fun _ _ z => z.trans X₁) fun _ _ e => e

set_option maxRecDepth 100000 in
theorem GmOK.str {x : Str} {name : Str} {id : String} (h : ∀ (A : Around) (s : Shared) (t : Tok) (pl : Sem Bool) (Q : Value × List Value → Shared → Prop), Q (.builtin id, [.str x t]) s → wpAny V.M A (getMethod (.str x t) name pl) Q NoE s) :
    GmOK V (.str x) name st (.val (.builtin id)) [.str x] := Box.mk fun A α s u pl S r => by
  obtain ⟨t, rfl⟩ := r.inv
  refine h A s t pl _ ?_
  exact ⟨rfl, .val _, .cons _ _ _ _ (.str _ _) .nil⟩
end
end Mine
end

section
open PySem PySem.Calls PyProof.Rows
namespace Mine
local macro_rules | `(tactic| omega) => `(tactic| lia)

noncomputable def asL (st : St) : SV → Option (List SV)
  | .lst xs => some xs
  | .obj i => st[i]?
  | _ => none

section
variable {V : Cx} {G : Gm} {loc loc₁ loc₂ : Loc} {st st₁ st₂ st₃ : St}

theorem asL_lst {α : List Addr} {s : Shared} {u : Value} {a : SV} {xs : List SV} (S : Sto V α st s) (r : Rep V s.heap α u a) (h : asL st a = some xs) : ∃ l vs, u = .ref l ∧ Lst s.heap l vs ∧ Reps V s.heap α vs xs := by
  have q := r.inv
  cases a <;> simp [asL] at h
  case obj i =>
    obtain ⟨a, rfl, e⟩ := q
    obtain ⟨b, vs, hb, hl, hr⟩ := S.cell i xs h
    rw [e] at hb; cases hb
    exact ⟨_, vs, rfl, hl, hr⟩
  case lst ys =>
    subst h
    obtain ⟨a, vs, rfl, hl, _, _, hr⟩ := q
    exact ⟨_, vs, rfl, hl, hr⟩

theorem Sto.newAt {α : List Addr} {s : Shared} (S : Sto V α st s) : s.heap.objs.size ∉ α ∧ s.heap.objs.size ≠ V.P := by
  refine ⟨fun h => ?_, ne_hi S.size S.low.2⟩
  obtain ⟨i, hi⟩ := List.getElem?_of_mem h
  have hil := (List.getElem?_eq_some_iff.mp hi).1
  rw [S.len] at hil
  obtain ⟨a, vs', ha, ⟨n, eo⟩, _⟩ := S.cell i st[i] (by simp [hil])
  rw [hi] at ha; cases ha
  exact Nat.lt_irrefl _ (Heap.lt_size eo)

theorem Res.newLst {α : List Addr} {s : Shared} {o : Obj} {vs : List Value} {xs : List SV} {n : Nat} (S : Sto V α st s) (hr : Reps V s.heap α vs xs) (ho : o = { cls := .type "list", data := .seq vs.toArray n }) (t : Nat) :
    Res V α s st (.lst xs) (.ref s.heap.objs.size) { s with heap := s.heap.push o, toks := t } := by
  have z := S.grow (h' := s.heap.push o) t (fun b o' e => Heap.get?_push_of_some _ e) (by rw [Heap.size_push]; omega)
  refine ⟨α, z.2, z.1, .lst _ vs xs ⟨n, ?_⟩ S.newAt.1 S.newAt.2 (hr.go z.2)⟩
  subst ho
  exact Heap.get?_push_size _ rfl
theorem Res.newTup {α : List Addr} {s : Shared} {o : Obj} {vs : List Value} {xs : List SV} {n : Nat} (S : Sto V α st s) (hr : Reps V s.heap α vs xs) (ho : o = { cls := .type "tuple", data := .seq vs.toArray n }) (t : Nat) :
    Res V α s st (.tup xs) (.ref s.heap.objs.size) { s with heap := s.heap.push o, toks := t } := by
  have z := S.grow (h' := s.heap.push o) t (fun b o' e => Heap.get?_push_of_some _ e) (by rw [Heap.size_push]; omega)
  refine ⟨α, z.2, z.1, ?_⟩
  refine .tup (s.heap.objs.size) vs xs o n ?_ ?_ ?_ S.newAt.1 S.newAt.2 (hr.go z.2)
  · subst ho; exact Heap.get?_push_size _ rfl
  · subst ho; rfl
  · subst ho; rfl
theorem Res.newObj {α : List Addr} {s : Shared} {o : Obj} {vs : List Value} {xs : List SV} {n : Nat} (S : Sto V α st s) (hr : Reps V s.heap α vs xs) (ho : o = { cls := .type "list", data := .seq vs.toArray n }) (t : Nat) :
    Res V α s (st ++ [xs]) (.obj st.length) (.ref s.heap.objs.size) { s with heap := s.heap.push o, toks := t } := by
  obtain ⟨z1, z2, z3⟩ := S.new ho hr t
  exact ⟨_, z2, z1, .obj _ _ z3⟩


theorem Bin.addStr {x y : Str} (h : x.length + y.length ≤ sizeLine) : Bin V .Add (.str x) (.str y) st (.str (x ++ y)) st := Box.mk fun A α s u v S ru rv => by
  (first | obtain rfl := ru.inv | (obtain ⟨_, rfl⟩ := ru.inv) | (obtain ⟨_, rfl, _⟩ := ru.inv) | cases ru); (first | obtain rfl := rv.inv | (obtain ⟨_, rfl⟩ := rv.inv) | (obtain ⟨_, rfl, _⟩ := rv.inv) | cases rv)
  exact PyProof.Rows.add_str (hsz := h) fun t' tk => Res.toks S (.str _ _) tk
theorem Bin.addInt {x y : Int} : Bin V .Add (.int x) (.int y) st (.int (x + y)) st := Box.mk fun A α s u v S ru rv => by
  (first | obtain rfl := ru.inv | (obtain ⟨_, rfl⟩ := ru.inv) | (obtain ⟨_, rfl, _⟩ := ru.inv) | cases ru); (first | obtain rfl := rv.inv | (obtain ⟨_, rfl⟩ := rv.inv) | (obtain ⟨_, rfl, _⟩ := rv.inv) | cases rv)
  exact PyProof.Rows.add_int (Res.toks S (.int _ _) _)
theorem Bin.subInt {x y : Int} : Bin V .Sub (.int x) (.int y) st (.int (x - y)) st := Box.mk fun A α s u v S ru rv => by
  (first | obtain rfl := ru.inv | (obtain ⟨_, rfl⟩ := ru.inv) | (obtain ⟨_, rfl, _⟩ := ru.inv) | cases ru); (first | obtain rfl := rv.inv | (obtain ⟨_, rfl⟩ := rv.inv) | (obtain ⟨_, rfl, _⟩ := rv.inv) | cases rv)
  exact PyProof.Rows.sub_int (Res.toks S (.int _ _) _)
theorem Bin.modInt {x y : Int} (h : y ≠ 0) : Bin V .Mod (.int x) (.int y) st (.int (x.fmod y)) st := Box.mk fun A α s u v S ru rv => by
  (first | obtain rfl := ru.inv | (obtain ⟨_, rfl⟩ := ru.inv) | (obtain ⟨_, rfl, _⟩ := ru.inv) | cases ru); (first | obtain rfl := rv.inv | (obtain ⟨_, rfl⟩ := rv.inv) | (obtain ⟨_, rfl, _⟩ := rv.inv) | cases rv)
  exact PyProof.Rows.mod_int h (Res.toks S (.int _ _) _)
theorem Bin.divInt {x y : Int} (h : y ≠ 0) (hs : y.natAbs < 1073741824) : Bin V .FloorDiv (.int x) (.int y) st (.int (x.fdiv y)) st := Box.mk fun A α s u v S ru rv => by
  (first | obtain rfl := ru.inv | (obtain ⟨_, rfl⟩ := ru.inv) | (obtain ⟨_, rfl, _⟩ := ru.inv) | cases ru); (first | obtain rfl := rv.inv | (obtain ⟨_, rfl⟩ := rv.inv) | (obtain ⟨_, rfl, _⟩ := rv.inv) | cases rv)
  exact PyProof.Rows.floordiv_int (hp := .inl (PyProof.noPylong_small hs)) h (Res.toks S (.int _ _) _)
theorem Bin.powInt {x y : Int} (h : 0 ≤ y) (hs : (Builtin.Int.intBits x : Int) * y ≤ 2 ^ 27) : Bin V .Pow (.int x) (.int y) st (.int (x ^ y.toNat)) st := Box.mk fun A α s u v S ru rv => by
  (first | obtain rfl := ru.inv | (obtain ⟨_, rfl⟩ := ru.inv) | (obtain ⟨_, rfl, _⟩ := ru.inv) | cases ru); (first | obtain rfl := rv.inv | (obtain ⟨_, rfl⟩ := rv.inv) | (obtain ⟨_, rfl, _⟩ := rv.inv) | cases rv)
  exact PyProof.Rows.pow_int h hs (Res.toks S (.int _ _) _)
theorem Bin.mulStr {x : Str} {n : Int} (h : MulOk x n) : Bin V .Mult (.str x) (.int n) st (.str (Txt.mul x n)) st := Box.mk fun A α s u v S ru rv => by
  (first | obtain rfl := ru.inv | (obtain ⟨_, rfl⟩ := ru.inv) | (obtain ⟨_, rfl, _⟩ := ru.inv) | cases ru); (first | obtain rfl := rv.inv | (obtain ⟨_, rfl⟩ := rv.inv) | (obtain ⟨_, rfl, _⟩ := rv.inv) | cases rv)
  exact SB.mul h fun t' tk => Res.toks S (.str _ _) tk
theorem Bin.addLst {a b : SV} {xs ys : List SV} (ha : asL st a = some xs) (hb : asL st b = some ys) (h : xs.length + ys.length ≤ sizeLine) : Bin V .Add a b st (.lst (xs ++ ys)) st := Box.mk fun A α s u v S ru rv => by
  obtain ⟨l, vs, rfl, ⟨n, el⟩, hr⟩ := asL_lst S ru ha
  obtain ⟨m, ws, rfl, ⟨k, em⟩, hq⟩ := asL_lst S rv hb
  have e : vs.toArray ++ ws.toArray = (vs ++ ws).toArray := by simp
  refine concat_meets ⟨_, el, rfl⟩ ⟨_, em, rfl⟩ noFill_list_add seq_list_add PySem.F.slot_list_add PySem.F.entry_list_add (PySem.F.args_list_add_2 _ _)
    (list_addW l m vs.toArray ws.toArray n k none none #[] #[] (by simp [hr.length, hq.length]; exact h)) ⟨el, em, ?_⟩
  rw [e]
  exact Res.newLst (n := 0) S (hr.append hq) rfl _

theorem foldl_rep (k : Nat) (a b : Array Value) : (List.replicate k a).foldl (fun x y => x ++ y) b = b ++ (List.replicate k a.toList).flatten.toArray := by
  induction k generalizing b with
  | zero => simp
  | succ k ih =>
    rw [List.replicate_succ, List.foldl_cons, ih]
    apply Array.ext'
    simp [List.replicate_succ]
theorem Reps.rep {h : Heap} {α : List Addr} {vs : List Value} {xs : List SV} (r : Reps V h α vs xs) : ∀ k : Nat, Reps V h α (List.replicate k vs).flatten (List.replicate k xs).flatten
  | 0 => .nil
  | k + 1 => by
    rw [List.replicate_succ, List.replicate_succ, List.flatten_cons, List.flatten_cons]
    exact r.append (r.rep k)
theorem Bin.mulLst {a : SV} {xs : List SV} {x : Int} (ha : asL st a = some xs) (h0 : 0 ≤ x) (h1 : x < 2 ^ 20) (h2 : xs.length * x.toNat ≤ 2 ^ 24) : Bin V .Mult a (.int x) st (.lst (List.replicate x.toNat xs).flatten) st := Box.mk fun A α s u v S ru rv => by
  obtain ⟨l, vs, rfl, ⟨n, hl⟩, hr⟩ := asL_lst S ru ha
  obtain ⟨t, rfl⟩ := rv.inv
  have hsz : vs.toArray.size * x.toNat ≤ 2 ^ 24 := by simpa [hr.length] using h2
  refine wpAny_binaryOp_repeat_ref (T := "list") (U := "int") (by decide) ⟨_, hl, rfl⟩ (fun s' => typeIs_int s' x t) noFill_list_mul F.fills_int_mul F.slot_int_rmul repeat_list F.slot_int_index.lookup
    (call_meets F.slot_int_rmul (typeIs_int s x t) F.entry_int_rmul (F.args_int_rmul_2 _ _) (int___rmul___int_list x t l vs.toArray n)
      ⟨hl, rfl, ⟨_, hl, rfl⟩, call_meets F.slot_list_mul ⟨_, hl, rfl⟩ F.entry_list_mul (F.args_list_mul_2 _ _)
        (AutoListH.list___mul___list_int_3 l vs.toArray n x t (by simp [Builtin.List.listFitsIndex]; omega) (by omega) (by simp [Builtin.List.listTooLong, sizeLine]; simp at hsz; omega))
        ⟨hl, ?_⟩⟩)
  have e : List.foldl (fun x1 x2 : Array Value => x1 ++ x2) #[] (List.replicate (if vs.toArray.isEmpty = true then 0 else x.toNat) vs.toArray) = (List.replicate x.toNat vs).flatten.toArray := by
    rw [foldl_rep]
    cases vs with
    | nil => simp
    | cons v vs => simp
  rw [e]
  exact Res.newLst (n := 0) S (hr.rep _) rfl _
end
end Mine
end

section
open PySem PySem.Calls PyProof.Rows
namespace Mine
local macro_rules | `(tactic| omega) => `(tactic| lia)

mutual
inductive Pd (st : St) : SV → PyData → Prop
  | none : Pd st .none .none
  | bool (b) : Pd st (.bool b) (.bool b)
  | int (i) : Pd st (.int i) (.int i)
  | str (x) : Pd st (.str x) (.str x)
  | lst (xs ds) : Pds st xs ds → Pd st (.lst xs) (.list ds)
  | tup (xs ds) : Pds st xs ds → Pd st (.tup xs) (.tuple ds)
  | obj (i xs ds) : st[i]? = some xs → Pds st xs ds → Pd st (.obj i) (.list ds)
inductive Pds (st : St) : List SV → List PyData → Prop
  | nil : Pds st [] []
  | cons (x d xs ds) : Pd st x d → Pds st xs ds → Pds st (x :: xs) (d :: ds)
end

section
variable {V : Cx} {G : Gm} {loc loc₁ loc₂ : Loc} {st st₁ st₂ st₃ : St}

theorem Pd.reads {α : List Addr} {s : Shared} (S : Sto V α st s) {x : SV} {d : PyData} (h : Pd st x d) {u : Value} (r : Rep V s.heap α u x) : ∃ as, Reads s.heap u d as :=
  Pd.rec (motive_1 := fun x d _ => ∀ u, Rep V s.heap α u x → ∃ as, Reads s.heap u d as) (motive_2 := fun xs ds _ => ∀ us, Reps V s.heap α us xs → ∃ as, ReadsAll s.heap us ds as)
    (fun u r => by obtain rfl := r.inv; exact ⟨_, .none⟩) (fun b u r => by obtain rfl := r.inv; exact ⟨_, .bool b⟩) (fun i u r => by obtain ⟨t, rfl⟩ := r.inv; exact ⟨_, .int i t⟩) (fun x u r => by obtain ⟨t, rfl⟩ := r.inv; exact ⟨_, .str x t⟩)
    (fun xs ds _ ih u r => by obtain ⟨a, vs, rfl, h, _, _, r⟩ := r.inv; obtain ⟨n, e⟩ := h; obtain ⟨as, q⟩ := ih vs r; exact ⟨_, .list e rfl rfl (by simpa using q)⟩)
    (fun xs ds _ ih u r => by obtain ⟨a, vs, o, n, rfl, e, hc, hd, _, _, r⟩ := r.inv; obtain ⟨as, q⟩ := ih vs r; exact ⟨_, .tuple e hc hd (by simpa using q)⟩)
    (fun i xs ds hx _ ih u r => by
      obtain ⟨a, rfl, e⟩ := r.inv
      obtain ⟨b, vs, hb, hl, r⟩ := S.cell i xs hx
      obtain ⟨n, hl⟩ := hl
      rw [e] at hb; cases hb
      obtain ⟨as, q⟩ := ih vs r
      exact ⟨_, .list hl rfl rfl (by simpa using q)⟩)
    (fun us r => by obtain rfl := r.inv; exact ⟨_, .nil⟩) (fun x d xs ds _ _ i1 i2 us r => by obtain ⟨u, us, rfl, r1, r2⟩ := r.inv; obtain ⟨as, q⟩ := i1 u r1; obtain ⟨bs, p⟩ := i2 us r2; exact ⟨_, .cons q p⟩) h u r
theorem Pds.reads {α : List Addr} {s : Shared} (S : Sto V α st s) {xs : List SV} {ds : List PyData} (h : Pds st xs ds) {us : List Value} (r : Reps V s.heap α us xs) : ∃ as, ReadsAll s.heap us ds as :=
  Pds.rec (motive_1 := fun x d _ => ∀ u, Rep V s.heap α u x → ∃ as, Reads s.heap u d as) (motive_2 := fun xs ds _ => ∀ us, Reps V s.heap α us xs → ∃ as, ReadsAll s.heap us ds as)
    (fun u r => by obtain rfl := r.inv; exact ⟨_, .none⟩) (fun b u r => by obtain rfl := r.inv; exact ⟨_, .bool b⟩) (fun i u r => by obtain ⟨t, rfl⟩ := r.inv; exact ⟨_, .int i t⟩) (fun x u r => by obtain ⟨t, rfl⟩ := r.inv; exact ⟨_, .str x t⟩)
    (fun xs ds _ ih u r => by obtain ⟨a, vs, rfl, h, _, _, r⟩ := r.inv; obtain ⟨n, e⟩ := h; obtain ⟨as, q⟩ := ih vs r; exact ⟨_, .list e rfl rfl (by simpa using q)⟩)
    (fun xs ds _ ih u r => by obtain ⟨a, vs, o, n, rfl, e, hc, hd, _, _, r⟩ := r.inv; obtain ⟨as, q⟩ := ih vs r; exact ⟨_, .tuple e hc hd (by simpa using q)⟩)
    (fun i xs ds hx _ ih u r => by
      obtain ⟨a, rfl, e⟩ := r.inv
      obtain ⟨b, vs, hb, hl, r⟩ := S.cell i xs hx
      obtain ⟨n, hl⟩ := hl
      rw [e] at hb; cases hb
      obtain ⟨as, q⟩ := ih vs r
      exact ⟨_, .list hl rfl rfl (by simpa using q)⟩)
    (fun us r => by obtain rfl := r.inv; exact ⟨_, .nil⟩) (fun x d xs ds _ _ i1 i2 us r => by obtain ⟨u, us, rfl, r1, r2⟩ := r.inv; obtain ⟨as, q⟩ := i1 u r1; obtain ⟨bs, p⟩ := i2 us r2; exact ⟨_, .cons q p⟩) h us r

theorem rm_eq {A : Around} {n : Nat} (rm : Rm A n) : A.units + 64 < cLine := by have := rm.un; show _ < 9900; omega

theorem Cmp.eqD {n : Nat} {a b : SV} {da db : PyData} (ha : Pd st a da) (hb : Pd st b db) (h1 : SeqAt.shaped da = true) (h2 : SeqAt.shaped db = true) : Cmp V n .Eq a b st (PyData.eqv da db) := Box.mk fun A α s u v rm S ru rv => by
  obtain ⟨as, qa⟩ := ha.reads S ru
  obtain ⟨bs, qb⟩ := hb.reads S rv
  exact PyProof.Rows.eq_dataH qa qb h1 h2 (rm_eq rm) (Res.here S (.bool _))
theorem Cmp.neD {n : Nat} {a b : SV} {da db : PyData} (ha : Pd st a da) (hb : Pd st b db) (h1 : SeqAt.shaped da = true) (h2 : SeqAt.shaped db = true) : Cmp V n .NotEq a b st (!PyData.eqv da db) := Box.mk fun A α s u v rm S ru rv => by
  obtain ⟨as, qa⟩ := ha.reads S ru
  obtain ⟨bs, qb⟩ := hb.reads S rv
  exact PyProof.Rows.ne_dataH qa qb h1 h2 (rm_eq rm) (Res.here S (.bool _))
theorem Cmp.inD {n : Nat} {a b : SV} {d : PyData} {ds : List PyData} (ha : Pd st a d) (hb : Pd st b (.list ds) ∨ Pd st b (.tuple ds)) (h1 : PyData.canLayAll0 ds = true) (h2 : SeqAt.shaped d = true) :
    Cmp V n .In a b st (ds.any fun y => PyData.eqv y d) := Box.mk fun A α s u v rm S ru rv => by
  obtain ⟨as, qa⟩ := ha.reads S ru
  have hu : A.units + 1 + min (PyData.depthAll ds) d.depth < cLine := by
    have := SeqAt.depth_of_shaped h2
    have := Nat.min_le_right (PyData.depthAll ds) d.depth
    have := rm.un
    show _ < 9900; omega
  rcases hb with hb | hb
  · obtain ⟨bs, qb⟩ := hb.reads S rv
    exact SeqAt.in_list_reads qb qa h1 (SeqAt.canLay_of_shaped h2) hu (Res.here S (.bool _))
  · obtain ⟨bs, qb⟩ := hb.reads S rv
    exact SeqAt.in_tuple_reads qb qa h1 (SeqAt.canLay_of_shaped h2) hu (Res.here S (.bool _))
theorem Cmp.notInD {n : Nat} {a b : SV} {d : PyData} {ds : List PyData} (ha : Pd st a d) (hb : Pd st b (.list ds) ∨ Pd st b (.tuple ds)) (h1 : PyData.canLayAll0 ds = true) (h2 : SeqAt.shaped d = true) :
    Cmp V n .NotIn a b st (!ds.any fun y => PyData.eqv y d) := Box.mk fun A α s u v rm S ru rv => by
  obtain ⟨as, qa⟩ := ha.reads S ru
  have hu : A.units + 1 + min (PyData.depthAll ds) d.depth < cLine := by
    have := SeqAt.depth_of_shaped h2
    have := Nat.min_le_right (PyData.depthAll ds) d.depth
    have := rm.un
    show _ < 9900; omega
  rcases hb with hb | hb
  · obtain ⟨bs, qb⟩ := hb.reads S rv
    exact SeqAt.notIn_list_reads qb qa h1 (SeqAt.canLay_of_shaped h2) hu (Res.here S (.bool _))
  · obtain ⟨bs, qb⟩ := hb.reads S rv
    exact SeqAt.notIn_tuple_reads qb qa h1 (SeqAt.canLay_of_shaped h2) hu (Res.here S (.bool _))

theorem Cmp.eqStr {n : Nat} {x y : Str} : Cmp V n .Eq (.str x) (.str y) st (x == y) := Box.mk fun A α s u v rm S ru rv => by
  (first | obtain rfl := ru.inv | (obtain ⟨_, rfl⟩ := ru.inv) | (obtain ⟨_, rfl, _⟩ := ru.inv) | cases ru); (first | obtain rfl := rv.inv | (obtain ⟨_, rfl⟩ := rv.inv) | (obtain ⟨_, rfl, _⟩ := rv.inv) | cases rv); exact PyProof.Rows.eq_str (Res.here S (.bool _))
theorem Cmp.neStr {n : Nat} {x y : Str} : Cmp V n .NotEq (.str x) (.str y) st (x != y) := Box.mk fun A α s u v rm S ru rv => by
  (first | obtain rfl := ru.inv | (obtain ⟨_, rfl⟩ := ru.inv) | (obtain ⟨_, rfl, _⟩ := ru.inv) | cases ru); (first | obtain rfl := rv.inv | (obtain ⟨_, rfl⟩ := rv.inv) | (obtain ⟨_, rfl, _⟩ := rv.inv) | cases rv); exact PyProof.Rows.ne_str (Res.here S (.bool _))
theorem Cmp.eqInt {n : Nat} {x y : Int} : Cmp V n .Eq (.int x) (.int y) st (x == y) := Box.mk fun A α s u v rm S ru rv => by
  (first | obtain rfl := ru.inv | (obtain ⟨_, rfl⟩ := ru.inv) | (obtain ⟨_, rfl, _⟩ := ru.inv) | cases ru); (first | obtain rfl := rv.inv | (obtain ⟨_, rfl⟩ := rv.inv) | (obtain ⟨_, rfl, _⟩ := rv.inv) | cases rv); exact PyProof.Rows.eq_int (Res.here S (.bool _))
theorem Cmp.neInt {n : Nat} {x y : Int} : Cmp V n .NotEq (.int x) (.int y) st (x != y) := Box.mk fun A α s u v rm S ru rv => by
  (first | obtain rfl := ru.inv | (obtain ⟨_, rfl⟩ := ru.inv) | (obtain ⟨_, rfl, _⟩ := ru.inv) | cases ru); (first | obtain rfl := rv.inv | (obtain ⟨_, rfl⟩ := rv.inv) | (obtain ⟨_, rfl, _⟩ := rv.inv) | cases rv); exact PyProof.Rows.ne_int (Res.here S (.bool _))
theorem Cmp.ltInt {n : Nat} {x y : Int} : Cmp V n .Lt (.int x) (.int y) st (decide (x < y)) := Box.mk fun A α s u v rm S ru rv => by
  (first | obtain rfl := ru.inv | (obtain ⟨_, rfl⟩ := ru.inv) | (obtain ⟨_, rfl, _⟩ := ru.inv) | cases ru); (first | obtain rfl := rv.inv | (obtain ⟨_, rfl⟩ := rv.inv) | (obtain ⟨_, rfl, _⟩ := rv.inv) | cases rv); exact PyProof.Rows.lt_int (Res.here S (.bool _))
theorem Cmp.gtInt {n : Nat} {x y : Int} : Cmp V n .Gt (.int x) (.int y) st (decide (y < x)) := Box.mk fun A α s u v rm S ru rv => by
  (first | obtain rfl := ru.inv | (obtain ⟨_, rfl⟩ := ru.inv) | (obtain ⟨_, rfl, _⟩ := ru.inv) | cases ru); (first | obtain rfl := rv.inv | (obtain ⟨_, rfl⟩ := rv.inv) | (obtain ⟨_, rfl, _⟩ := rv.inv) | cases rv); exact PyProof.Rows.gt_int (Res.here S (.bool _))
theorem Cmp.geInt {n : Nat} {x y : Int} : Cmp V n .GtE (.int x) (.int y) st (decide (y ≤ x)) := Box.mk fun A α s u v rm S ru rv => by
  (first | obtain rfl := ru.inv | (obtain ⟨_, rfl⟩ := ru.inv) | (obtain ⟨_, rfl, _⟩ := ru.inv) | cases ru); (first | obtain rfl := rv.inv | (obtain ⟨_, rfl⟩ := rv.inv) | (obtain ⟨_, rfl, _⟩ := rv.inv) | cases rv); exact PyProof.Rows.ge_int (Res.here S (.bool _))
theorem Cmp.inStr {n : Nat} {x y : Str} : Cmp V n .In (.str y) (.str x) st (Txt.contains x y) := Box.mk fun A α s u v rm S ru rv => by
  (first | obtain rfl := ru.inv | (obtain ⟨_, rfl⟩ := ru.inv) | (obtain ⟨_, rfl, _⟩ := ru.inv) | cases ru); (first | obtain rfl := rv.inv | (obtain ⟨_, rfl⟩ := rv.inv) | (obtain ⟨_, rfl, _⟩ := rv.inv) | cases rv); exact PySem.P.in_str (Res.here S (.bool _))
theorem Cmp.notInStr {n : Nat} {x y : Str} : Cmp V n .NotIn (.str y) (.str x) st (!Txt.contains x y) := Box.mk fun A α s u v rm S ru rv => by
  (first | obtain rfl := ru.inv | (obtain ⟨_, rfl⟩ := ru.inv) | (obtain ⟨_, rfl, _⟩ := ru.inv) | cases ru); (first | obtain rfl := rv.inv | (obtain ⟨_, rfl⟩ := rv.inv) | (obtain ⟨_, rfl, _⟩ := rv.inv) | cases rv); exact PySem.P.notIn_str (Res.here S (.bool _))


theorem Tru.bool {b : Bool} : Tru V (.bool b) st b := Box.mk fun A α s u S r => by (first | obtain rfl := r.inv | (obtain ⟨_, rfl⟩ := r.inv) | (obtain ⟨_, rfl, _⟩ := r.inv) | cases r); exact wpAny_truthy_bool ⟨rfl, α, .refl, S⟩
theorem Tru.none' : Tru V .none st false := Box.mk fun A α s u S r => by (first | obtain rfl := r.inv | (obtain ⟨_, rfl⟩ := r.inv) | (obtain ⟨_, rfl, _⟩ := r.inv) | cases r); exact truthy_none ⟨rfl, α, .refl, S⟩
theorem Tru.str {x : Str} (h : (x.length : Int) < 2 ^ 63) : Tru V (.str x) st ((x.length : Int) != 0) := Box.mk fun A α s u S r => by
  (first | obtain rfl := r.inv | (obtain ⟨_, rfl⟩ := r.inv) | (obtain ⟨_, rfl, _⟩ := r.inv) | cases r)
  exact PySem.P.truthy_str (by omega) ⟨rfl, α, (S.toks _).2, (S.toks _).1⟩
theorem Tru.int {x : Int} : Tru V (.int x) st (x != 0) := Box.mk fun A α s u S r => by
  (first | obtain rfl := r.inv | (obtain ⟨_, rfl⟩ := r.inv) | (obtain ⟨_, rfl, _⟩ := r.inv) | cases r)
  exact PyProof.Rows.truthy_int ⟨rfl, α, .refl, S⟩
theorem Tru.lst {a : SV} {xs : List SV} (ha : asL st a = some xs) (h : (xs.length : Int) < 2 ^ 63) : Tru V a st (!xs.isEmpty) := Box.mk fun A α s u S r => by
  obtain ⟨l, vs, rfl, hl, hr⟩ := asL_lst S r ha
  have e : (!vs.toArray.isEmpty) = !xs.isEmpty := by
    cases xs with
    | nil => obtain rfl : vs = [] := hr.inv; rfl
    | cons x xs => obtain ⟨_, _, rfl, _⟩ := hr.inv; rfl
  refine wpAny_truthy_list hl.isList (by simp [hr.length]; exact h) ?_
  rw [e]
  exact ⟨rfl, α, (S.toks _).2, (S.toks _).1⟩


inductive NotNone : SV → Prop
  | bool (b) : NotNone (.bool b)
  | int (b) : NotNone (.int b)
  | str (b) : NotNone (.str b)
  | obj (b) : NotNone (.obj b)
  | lst (b) : NotNone (.lst b)
  | tup (b) : NotNone (.tup b)
theorem NotNone.ne {h : Heap} {α : List Addr} {u : Value} {a : SV} (n : NotNone a) (r : Rep V h α u a) : u ≠ .none := by
  rintro rfl
  have q := r.inv
  cases n
  · cases q
  · obtain ⟨_, e⟩ := q; cases e
  · obtain ⟨_, e⟩ := q; cases e
  · obtain ⟨_, e, _⟩ := q; cases e
  · obtain ⟨_, _, e, _⟩ := q; cases e
  · obtain ⟨_, _, _, _, e, _⟩ := q; cases e
theorem Cmp.isNone {n : Nat} : Cmp V n .Is .none .none st true := Box.mk fun A α s u v rm S ru rv => by
  (first | obtain rfl := ru.inv | (obtain ⟨_, rfl⟩ := ru.inv) | (obtain ⟨_, rfl, _⟩ := ru.inv) | cases ru); (first | obtain rfl := rv.inv | (obtain ⟨_, rfl⟩ := rv.inv) | (obtain ⟨_, rfl, _⟩ := rv.inv) | cases rv); exact PyProof.Rows.is_none_none (Res.here S (.bool _))
theorem Cmp.isNotNone {n : Nat} : Cmp V n .IsNot .none .none st false := Box.mk fun A α s u v rm S ru rv => by
  (first | obtain rfl := ru.inv | (obtain ⟨_, rfl⟩ := ru.inv) | (obtain ⟨_, rfl, _⟩ := ru.inv) | cases ru); (first | obtain rfl := rv.inv | (obtain ⟨_, rfl⟩ := rv.inv) | (obtain ⟨_, rfl, _⟩ := rv.inv) | cases rv); exact PyProof.Rows.isnot_none_none (Res.here S (.bool _))
theorem Cmp.isNone' {n : Nat} {a : SV} (h : NotNone a) : Cmp V n .Is a .none st false := Box.mk fun A α s u v rm S ru rv => by
  have := h.ne ru
  (first | obtain rfl := rv.inv | (obtain ⟨_, rfl⟩ := rv.inv) | (obtain ⟨_, rfl, _⟩ := rv.inv) | cases rv); exact PyProof.Rows.is_none_ne this (Res.here S (.bool _))
theorem Cmp.isNotNone' {n : Nat} {a : SV} (h : NotNone a) : Cmp V n .IsNot a .none st true := Box.mk fun A α s u v rm S ru rv => by
  have := h.ne ru
  (first | obtain rfl := rv.inv | (obtain ⟨_, rfl⟩ := rv.inv) | (obtain ⟨_, rfl, _⟩ := rv.inv) | cases rv); exact PyProof.Rows.isnot_none_ne this (Res.here S (.bool _))
theorem Cmp.isTy {n : Nat} {x y : String} : Cmp V n .Is (.val (.type x)) (.val (.type y)) st (Value.type x == Value.type y) := Box.mk fun A α s u v rm S ru rv => by
  (first | obtain rfl := ru.inv | (obtain ⟨_, rfl⟩ := ru.inv) | (obtain ⟨_, rfl, _⟩ := ru.inv) | cases ru); (first | obtain rfl := rv.inv | (obtain ⟨_, rfl⟩ := rv.inv) | (obtain ⟨_, rfl, _⟩ := rv.inv) | cases rv); exact wpAny_pure (Res.here S (.bool _))
theorem Cmp.isNotTy {n : Nat} {x y : String} : Cmp V n .IsNot (.val (.type x)) (.val (.type y)) st (!(Value.type x == Value.type y)) := Box.mk fun A α s u v rm S ru rv => by
  (first | obtain rfl := ru.inv | (obtain ⟨_, rfl⟩ := ru.inv) | (obtain ⟨_, rfl, _⟩ := ru.inv) | cases ru); (first | obtain rfl := rv.inv | (obtain ⟨_, rfl⟩ := rv.inv) | (obtain ⟨_, rfl, _⟩ := rv.inv) | cases rv); exact wpAny_pure (Res.here S (.bool _))
theorem Cmp.isObj {n i : Nat} : Cmp V n .Is (.obj i) (.obj i) st true := Box.mk fun A α s u v rm S ru rv => by
  obtain ⟨a, rfl, e⟩ := ru.inv
  obtain ⟨b, rfl, e'⟩ := rv.inv
  rw [e] at e'; cases e'
  show wpAny V.M A (do return Value.bool (← isSame (.ref a) (.ref a))) _ _ _
  unfold isSame
  simp only [beq_self_eq_true, if_true]
  exact wpAny_bind (wpAny_pure (wpAny_pure (Res.here S (.bool _))))
theorem Cmp.isNotObj {n i : Nat} : Cmp V n .IsNot (.obj i) (.obj i) st false := Box.mk fun A α s u v rm S ru rv => by
  obtain ⟨a, rfl, e⟩ := ru.inv
  obtain ⟨b, rfl, e'⟩ := rv.inv
  rw [e] at e'; cases e'
  show wpAny V.M A (do return Value.bool (!(← isSame (.ref a) (.ref a)))) _ _ _
  unfold isSame
  simp only [beq_self_eq_true, if_true]
  exact wpAny_bind (wpAny_pure (wpAny_pure (Res.here S (.bool _))))
theorem Cmp.isStrObj {n i : Nat} {x : Str} : Cmp V n .Is (.str x) (.obj i) st false := Box.mk fun A α s u v rm S ru rv => by
  (first | obtain rfl := ru.inv | (obtain ⟨_, rfl⟩ := ru.inv) | (obtain ⟨_, rfl, _⟩ := ru.inv) | cases ru); (obtain ⟨_, rfl, _⟩ := rv.inv); exact wpAny_pure (Res.here S (.bool _))
theorem Cmp.isNotStrObj {n i : Nat} {x : Str} : Cmp V n .IsNot (.str x) (.obj i) st true := Box.mk fun A α s u v rm S ru rv => by
  (first | obtain rfl := ru.inv | (obtain ⟨_, rfl⟩ := ru.inv) | (obtain ⟨_, rfl, _⟩ := ru.inv) | cases ru); (obtain ⟨_, rfl, _⟩ := rv.inv); exact wpAny_pure (Res.here S (.bool _))


theorem EvOK.lst {es : List Expr} {pos} {vs : List SV} (h : EvsOK V G es loc st vs st₁) (hz : vs.length ≤ sizeLine) : EvOK V G (.List es pos) loc st (.lst vs) st₁ := Box.mk fun A env α s rm S R => by
  rw [arm_eval_List]
  refine wpAny_bind (wpAny_standAt (wpAny_bind (wpAny_mono (h.out A env pos α s rm S R) (fun us s₁ hq_ => ?_) fun _ _ e => e)))
  obtain ⟨α₁, X₁, S₁, R₁⟩ := hq_
  exact wpAny_newList (hsz := by rw [R₁.length]; exact hz) ((Res.newLst (n := 0) S₁ R₁ rfl _).trans X₁)
theorem EvOK.lstObj {es : List Expr} {pos} {vs : List SV} (h : EvsOK V G es loc st vs st₁) (hz : vs.length ≤ sizeLine) : EvOK V G (.List es pos) loc st (.obj st₁.length) (st₁ ++ [vs]) := Box.mk fun A env α s rm S R => by
  rw [arm_eval_List]
  refine wpAny_bind (wpAny_standAt (wpAny_bind (wpAny_mono (h.out A env pos α s rm S R) (fun us s₁ hq_ => ?_) fun _ _ e => e)))
  obtain ⟨α₁, X₁, S₁, R₁⟩ := hq_
  exact wpAny_newList (hsz := by rw [R₁.length]; exact hz) ((Res.newObj (n := 0) S₁ R₁ rfl _).trans X₁)
theorem EvOK.tup {es : List Expr} {k pos} {vs : List SV} (h : EvsOK V G es loc st vs st₁) (hz : vs.length ≤ sizeLine) : EvOK V G (.Tuple es k pos) loc st (.tup vs) st₁ := Box.mk fun A env α s rm S R => by
  rw [arm_eval_Tuple]
  refine wpAny_bind (wpAny_standAt (wpAny_bind (wpAny_mono (h.out A env pos α s rm S R) (fun us s₁ hq_ => ?_) fun _ _ e => e)))
  obtain ⟨α₁, X₁, S₁, R₁⟩ := hq_
  exact wpAny_newTuple (hsz := by rw [R₁.length]; exact hz) ((Res.newTup (n := 0) S₁ R₁ rfl _).trans X₁)
theorem EvOK.neg {e : Expr} {pos} {x : Int} (h : EvOK V G e loc st (.int x) st₁) : EvOK V G (.UnaryOp .USub e pos) loc st (.int (-x)) st₁ := Box.mk fun A env α s rm S R => by
  rw [arm_eval_UnaryOp]
  refine wpAny_bind (wpAny_mono (h.out A env α s rm S R) (fun u s₁ hq_ => ?_) fun _ _ e => e)
  obtain ⟨α₁, X₁, S₁, R₁⟩ := hq_
  obtain ⟨t, rfl⟩ := R₁.inv
  exact wpAny_bind (wpAny_standAt (wpAny_holding (PyProof.Rows.neg_int ((Res.toks S₁ (.int _ _) _).trans X₁))))
end
end Mine
end

section
open PySem PySem.Calls PyProof.Rows
namespace Mine
local macro_rules | `(tactic| omega) => `(tactic| lia)
section
variable {V : Cx} {G : Gm} {loc loc₁ loc₂ : Loc} {st st₁ st₂ st₃ : St}

noncomputable def noSlice : Expr → Bool
  | .Slice _ _ _ _ => false
  | _ => true


noncomputable def Sub (V : Cx) (o i : SV) (st : St) (v : SV) : Prop :=
  Box (∀ (A : Around) (α : List Addr) (s : Shared) (u w : Value), Sto V α st s → Rep V s.heap α u o → Rep V s.heap α w i →
    ∃ T id, s.TypeIs u T ∧ typeLookup (.type T) "__getitem__" = pure (some (.builtin id)) ∧ wpAny V.M A (getItem u w) (Res V α s st v) NoE s)

theorem sub_plain {slice : Expr} (h : noSlice slice = true) (o i : Value) : subscripted slice false o i = operate [o, i] (getItem o i) := by
  cases slice <;> first | rfl | (exact Bool.noConfusion (h : false = true))

theorem EvOK.sub {value slice : Expr} {pos} {o i v : SV} (hv : EvOK V G value loc st o st₁) (hi : EvOK V G slice loc st₁ i st₂) (h : Sub V o i st₂ v) (hs : noSlice slice = true) : EvOK V G (.Subscript value slice pos) loc st v st₂ := Box.mk fun A env α s rm S R =>
  Subscript_ (wpAny_mono (hv.out A env α s rm S R) (fun u s₁ ⟨α₁, X₁, S₁, R₁⟩ =>
    wpAny_mono (hi.out A env α₁ s₁ rm S₁ (R.step X₁ S.low.2)) (fun w s₂ ⟨α₂, X₂, S₂, R₂⟩ => by
      obtain ⟨T, id, hT, hl, hg⟩ := h.out A α₂ s₂ u w S₂ (R₁.go X₂) R₂
      exact tail_any (prog := V.prog) hT hl (wpAny_mono hg (fun _ _ z => (z.trans X₂).trans X₁) fun _ _ e => e) (sub_plain hs u w)) fun _ _ e => e) fun _ _ e => e)

theorem Sub.str {x : Str} {i : Int} {c : Nat} (hr : (decide (i < -(2 ^ 63 : Int)) || decide (i ≥ 2 ^ 63)) = false) (hc : (seqIndex? i x.length).bind (x.cps[·]?) = some c) : Sub V (.str x) (.int i) st (.str ⟨#[c]⟩) := Box.mk fun A α s u w S ru rw => by
  (first | obtain rfl := ru.inv | (obtain ⟨_, rfl⟩ := ru.inv) | (obtain ⟨_, rfl, _⟩ := ru.inv) | cases ru); (first | obtain rfl := rw.inv | (obtain ⟨_, rfl⟩ := rw.inv) | (obtain ⟨_, rfl, _⟩ := rw.inv) | cases rw)
  exact ⟨"str", _, typeIs_str _ _ _, F.slot_str_getitem.lookup, PyProof.Rows.getItem_str hr hc (Res.toks S (.str _ _) _)⟩
theorem Sub.lst {a : SV} {xs : List SV} {k : Int} {v : SV} (ha : asL st a = some xs) (h0 : 0 ≤ k) (h1 : k < 2 ^ 63) (hx : xs[k.toNat]? = some v) : Sub V a (.int k) st v := Box.mk fun A α s u w S ru rw => by
  obtain ⟨l, vs, rfl, hl, hr⟩ := asL_lst S ru ha
  (first | obtain rfl := rw.inv | (obtain ⟨_, rfl⟩ := rw.inv) | (obtain ⟨_, rfl, _⟩ := rw.inv) | cases rw)
  obtain ⟨y, hy, hyr⟩ := hr.get hx
  exact ⟨"list", _, hl.isList.typeIs, slot_list_getitem.lookup, wpAny_getItem_list hl.isList h0 h1 (by simpa using hy) (Res.here S hyr)⟩
theorem Sub.tup {xs : List SV} {k : Int} {j : Nat} {v : SV} (h0 : -2 ^ 63 ≤ k) (h1 : k < 2 ^ 63) (hj : seqIndex? k xs.length = some j) (hx : xs[j]? = some v) : Sub V (.tup xs) (.int k) st v := Box.mk fun A α s u w S ru rw => by
  obtain ⟨a, vs, o, n, rfl, e, hc, hd, _, _, hr⟩ := ru.inv
  (first | obtain rfl := rw.inv | (obtain ⟨_, rfl⟩ := rw.inv) | (obtain ⟨_, rfl, _⟩ := rw.inv) | cases rw)
  obtain ⟨y, hy, hyr⟩ := hr.get hx
  refine ⟨"tuple", _, ⟨_, e, hc⟩, F.slot_tuple_getitem.lookup, ?_⟩
  exact PyProof.Rows.getItem_tuple (items := vs.toArray) (j := j) ⟨o, e, hc, n, hd⟩ h0 h1 (by simpa [hr.length] using hj) (by simpa using hy) (Res.here S hyr)
theorem Sub.lstNeg {a : SV} {xs : List SV} {k : Int} {v : SV} (ha : asL st a = some xs) (h0 : k < 0) (h1 : -(xs.length : Int) ≤ k) (h2 : -(2 ^ 63) ≤ k) (hx : xs[(k + xs.length).toNat]? = some v) : Sub V a (.int k) st v := Box.mk fun A α s u w S ru rw => by
  obtain ⟨l, vs, rfl, hl, hr⟩ := asL_lst S ru ha
  (first | obtain rfl := rw.inv | (obtain ⟨_, rfl⟩ := rw.inv) | (obtain ⟨_, rfl, _⟩ := rw.inv) | cases rw)
  obtain ⟨y, hy, hyr⟩ := hr.get hx
  exact ⟨"list", _, hl.isList.typeIs, slot_list_getitem.lookup, wpAny_getItem_list_neg hl.isList h0 (by simpa [hr.length] using h1) h2 (by simpa [hr.length] using hy) (Res.here S hyr)⟩


noncomputable def PtOK (V : Cx) (G : Gm) (e : Option Expr) (loc : Loc) (st : St) (p : Option Int) (st' : St) : Prop :=
  Box (∀ (A : Around) (env : Env) (α : List Addr) (s : Shared), Rm A G.n → Sto V α st s → Var V G.ks G.cd env loc α s → wpAny V.M A (evalPart e env) (fun u s' => IsPart u p ∧ ∃ α', Step V [] α s α' s' ∧ Sto V α' st' s') NoE s)
theorem PtOK.none' : PtOK V G none loc st none st := Box.mk fun A env α s rm S R => by
  rw [evalPart_none]
  exact wpAny_pure ⟨.none, α, .refl, S⟩
theorem PtOK.some' {e : Expr} {i : Int} (h : EvOK V G e loc st (.int i) st₁) : PtOK V G (some e) loc st (some i) st₁ := Box.mk fun A env α s rm S R => by
  refine wpAny_mono (h.out A env α s rm S R) (fun u s₁ hq_ => ?_) fun _ _ e => e
  obtain ⟨α₁, X₁, S₁, R₁⟩ := hq_
  obtain ⟨t, rfl⟩ := R₁.inv
  exact ⟨.int _ _, α₁, X₁, S₁⟩

theorem isPart_opt {u : Value} {p : Option Int} (h : IsPart u p) : ∃ l : Option (Int × Tok), u = partValue l ∧ l.map (·.1) = p := by
  cases h with
  | none => exact ⟨none, rfl, rfl⟩
  | int i t => exact ⟨some (i, t), rfl, rfl⟩


noncomputable def SubS (V : Cx) (o : SV) (lo hi : Option Int) (st : St) (v : SV) : Prop :=
  Box (∀ (A : Around) (α : List Addr) (s : Shared) (u : Value) (sl : Addr) (vl vu : Value), Sto V α st s → Rep V s.heap α u o → s.heap.IsSliceOf sl vl vu .none → IsPart vl lo → IsPart vu hi →
    ∃ T id, s.TypeIs u T ∧ typeLookup (.type T) "__getitem__" = pure (some (.builtin id)) ∧ wpAny V.M A (getItem u (.ref sl)) (Res V α s st v) NoE s)

theorem EvOK.slice {value : Expr} {lower upper : Option Expr} {p pos} {o v : SV} {lo hi : Option Int} (hv : EvOK V G value loc st o st₁) (hl : PtOK V G lower loc st₁ lo st₂) (hu : PtOK V G upper loc st₂ hi st₃) (h : SubS V o lo hi st₃ v) :
    EvOK V G (.Subscript value (.Slice lower upper none p) pos) loc st v st₃ := Box.mk fun A env α s rm S R =>
  Subscript_ (wpAny_mono (hv.out A env α s rm S R) (fun u s₁ ⟨α₁, X₁, S₁, R₁⟩ => by
    refine wpAny_Slice ?_
    refine wpAny_mono (hl.out A env α₁ s₁ rm S₁ (R.step X₁ S.low.2)) (fun vl s₂ hq_ => ?_) fun _ _ e => e
    obtain ⟨pl, α₂, X₂, S₂⟩ := hq_
    refine wpAny_mono (hu.out A env α₂ s₂ rm S₂ (R.step (X₁.trans X₂) S.low.2)) (fun vu s₃ hq_ => ?_) fun _ _ e => e
    obtain ⟨pu, α₃, X₃, S₃⟩ := hq_
    rw [evalPart_none]
    refine wpAny_pure ?_
    have z := S₃.grow (h' := s₃.heap.push { cls := .type "slice", data := .fields #[vl, vu, .none] }) s₃.toks (fun b o' e => Heap.get?_push_of_some _ e) (by rw [Heap.size_push]; omega)
    obtain ⟨T, id, hT, hlk, hg⟩ := h.out A α₃ _ u s₃.heap.objs.size vl vu z.1 (R₁.go (X₂.trans (X₃.trans z.2))) (Heap.IsSliceOf.new ..) pl pu
    refine tail_any (prog := V.prog) hT hlk (wpAny_mono hg (fun _ _ y => (((y.trans z.2).trans X₃).trans X₂).trans X₁) fun _ _ e => e) rfl) fun _ _ e => e)

theorem SubS.str {x : Str} {lo hi : Option Int} (hz : x.length ≤ sizeLine) : SubS V (.str x) lo hi st (.str (Txt.slice x lo hi)) := Box.mk fun A α s u sl vl vu S ru hs pl pu => by
  obtain ⟨t, rfl⟩ := ru.inv
  obtain ⟨l, rfl, rfl⟩ := isPart_opt pl
  obtain ⟨r, rfl, rfl⟩ := isPart_opt pu
  refine ⟨"str", _, typeIs_str _ _ _, F.slot_str_getitem.lookup, wpAny_getItem_str_slice (l := l) (u := r) (st := none) hs rfl ?_⟩
  exact post_val_or_str ⟨Nat.le_trans (Txt.slice_le x _ _) hz, fun t' k => Res.toks S (.str _ _) k⟩
theorem SubS.upto {a : SV} {xs : List SV} {k : Int} (ha : asL st a = some xs) (h0 : 0 ≤ k) (hz : xs.length ≤ sizeLine) : SubS V a none (some k) st (.lst (xs.take k.toNat)) := Box.mk fun A α s u sl vl vu S ru hs pl pu => by
  obtain ⟨l, vs, rfl, hl, hr⟩ := asL_lst S ru ha
  refine ⟨"list", _, hl.isList.typeIs, slot_list_getitem.lookup, wpAny_getItem_list_slice (hsz := by simp [hr.length]; exact hz) hl.isList hs pl pu .none (by simp) ?_⟩
  have e : slicePick vs.toArray none (some k) none = (vs.take k.toNat).toArray := by
    have := slicePick_upto' vs.toArray k.toNat
    rwa [show ((k.toNat : Nat) : Int) = k by omega] at this
  rw [e]
  exact Res.newLst (n := 0) S (hr.take _) rfl _
theorem SubS.all {a : SV} {xs : List SV} (ha : asL st a = some xs) (hz : xs.length ≤ sizeLine) : SubS V a none none st (.lst xs) := Box.mk fun A α s u sl vl vu S ru hs pl pu => by
  obtain ⟨l, vs, rfl, hl, hr⟩ := asL_lst S ru ha
  refine ⟨"list", _, hl.isList.typeIs, slot_list_getitem.lookup, wpAny_getItem_list_slice (hsz := by simp [hr.length]; exact hz) hl.isList hs pl pu .none (by simp) ?_⟩
  rw [slicePick_all]
  exact Res.newLst (n := 0) S hr rfl _
end
end Mine
end

section
open PySem PySem.Calls PyProof.Rows
set_option maxRecDepth 100000
namespace Mine
local macro_rules | `(tactic| omega) => `(tactic| lia)
open Builtin Builtin.Str Builtin.Int

theorem reps_strs {V : Cx} {h : Heap} {α : List Addr} : ∀ {ss : List Str} {vs : List Value}, Reps V h α vs (ss.map .str) → ∃ l : List (Str × Tok), vs = strValues l ∧ l.map (·.1) = ss := by
  intro ss
  induction ss with
  | nil => intro vs r; obtain rfl : vs = [] := r.inv; exact ⟨[], rfl, rfl⟩
  | cons x ss ih =>
    intro vs r
    obtain ⟨u, us, rfl, r, rs⟩ := (id r : Reps V h α vs (.str x :: ss.map .str)).inv
    obtain ⟨t, rfl⟩ := Rep.inv ‹Rep V h α u (.str x)›
    obtain ⟨l, e1, e2⟩ := ih rs
    exact ⟨(x, t) :: l, by rw [e1]; rfl, by rw [List.map_cons, e2]⟩
theorem strs_reps {V : Cx} {h : Heap} {α : List Addr} : ∀ (l : List (Str × Tok)), Reps V h α (strValues l) ((l.map (·.1)).map .str)
  | [] => .nil
  | (x, t) :: l => .cons _ _ _ _ (.str x t) (strs_reps l)

section
variable {V : Cx} {G : Gm} {loc loc₁ loc₂ : Loc} {st st₁ st₂ st₃ : St} {n : Nat}

theorem CallOK.lenStr {x : Str} (h : (x.length : Int) < 2 ^ 63) : CallOK V n (.val (.builtin "len")) [.str x] [] st (.int x.length) st := Box.mk fun A α s fv us ks rm S rf r rk => by
  (first | obtain rfl := rf.inv | (obtain ⟨_, rfl⟩ := rf.inv) | (obtain ⟨_, rfl, _⟩ := rf.inv) | cases rf); (first | obtain rfl := rk.inv | (obtain ⟨_, rfl⟩ := rk.inv) | (obtain ⟨_, rfl, _⟩ := rk.inv) | cases rk)
  obtain ⟨u, us, rfl, ru, rs⟩ := r.inv; (first | obtain rfl := rs.inv | (obtain ⟨_, rfl⟩ := rs.inv) | (obtain ⟨_, rfl, _⟩ := rs.inv) | cases rs); (first | obtain rfl := ru.inv | (obtain ⟨_, rfl⟩ := ru.inv) | (obtain ⟨_, rfl, _⟩ := ru.inv) | cases ru)
  exact PyProof.Rows.len_str (by omega) (Res.toks S (.int _ _) _)
theorem CallOK.lenLst {a : SV} {xs : List SV} (ha : asL st a = some xs) (h : (xs.length : Int) < 2 ^ 63) : CallOK V n (.val (.builtin "len")) [a] [] st (.int xs.length) st := Box.mk fun A α s fv us ks rm S rf r rk => by
  (first | obtain rfl := rf.inv | (obtain ⟨_, rfl⟩ := rf.inv) | (obtain ⟨_, rfl, _⟩ := rf.inv) | cases rf); (first | obtain rfl := rk.inv | (obtain ⟨_, rfl⟩ := rk.inv) | (obtain ⟨_, rfl, _⟩ := rk.inv) | cases rk)
  obtain ⟨u, us, rfl, ru, rs⟩ := r.inv
  (first | obtain rfl := rs.inv | (obtain ⟨_, rfl⟩ := rs.inv) | (obtain ⟨_, rfl, _⟩ := rs.inv) | cases rs)
  obtain ⟨l, vs, rfl, hl, hr⟩ := asL_lst S ru ha
  refine PyProof.Rows.len_list hl.isList (by simp [hr.length]; exact h) ?_
  have e : vs.toArray.size = xs.length := by simp [hr.length]
  rw [e]
  exact Res.toks S (.int _ _) _
theorem CallOK.isiStrBytes {x : Str} : CallOK V n (.val (.builtin "isinstance")) [.str x, .val (.type "bytes")] [] st (.bool false) st := Box.mk fun A α s fv us ks rm S rf r rk => by
  (first | obtain rfl := rf.inv | (obtain ⟨_, rfl⟩ := rf.inv) | (obtain ⟨_, rfl, _⟩ := rf.inv) | cases rf); (first | obtain rfl := rk.inv | (obtain ⟨_, rfl⟩ := rk.inv) | (obtain ⟨_, rfl, _⟩ := rk.inv) | cases rk)
  obtain ⟨u, us, rfl, ru, rs⟩ := r.inv; obtain ⟨u', us', rfl, ru', rs'⟩ := rs.inv
  (first | obtain rfl := rs'.inv | (obtain ⟨_, rfl⟩ := rs'.inv) | (obtain ⟨_, rfl, _⟩ := rs'.inv) | cases rs'); (first | obtain rfl := ru.inv | (obtain ⟨_, rfl⟩ := ru.inv) | (obtain ⟨_, rfl, _⟩ := ru.inv) | cases ru); (first | obtain rfl := ru'.inv | (obtain ⟨_, rfl⟩ := ru'.inv) | (obtain ⟨_, rfl, _⟩ := ru'.inv) | cases ru')
  exact IsiPair.str_bytes (Res.toks S (.bool _) _)
theorem CallOK.isiStrStr {x : Str} : CallOK V n (.val (.builtin "isinstance")) [.str x, .val (.type "str")] [] st (.bool true) st := Box.mk fun A α s fv us ks rm S rf r rk => by
  (first | obtain rfl := rf.inv | (obtain ⟨_, rfl⟩ := rf.inv) | (obtain ⟨_, rfl, _⟩ := rf.inv) | cases rf); (first | obtain rfl := rk.inv | (obtain ⟨_, rfl⟩ := rk.inv) | (obtain ⟨_, rfl, _⟩ := rk.inv) | cases rk)
  obtain ⟨u, us, rfl, ru, rs⟩ := r.inv; obtain ⟨u', us', rfl, ru', rs'⟩ := rs.inv
  (first | obtain rfl := rs'.inv | (obtain ⟨_, rfl⟩ := rs'.inv) | (obtain ⟨_, rfl, _⟩ := rs'.inv) | cases rs'); (first | obtain rfl := ru.inv | (obtain ⟨_, rfl⟩ := ru.inv) | (obtain ⟨_, rfl, _⟩ := ru.inv) | cases ru); (first | obtain rfl := ru'.inv | (obtain ⟨_, rfl⟩ := ru'.inv) | (obtain ⟨_, rfl, _⟩ := ru'.inv) | cases ru')
  exact IsiPair.str_str (Res.here S (.bool _))
theorem CallOK.strInt {i : Int} (h : i.natAbs.log2 < 1920) : CallOK V n (.val (.type "str")) [.int i] [] st (.str (Str.ofString (toString i))) st := Box.mk fun A α s fv us ks rm S rf r rk => by
  (first | obtain rfl := rf.inv | (obtain ⟨_, rfl⟩ := rf.inv) | (obtain ⟨_, rfl, _⟩ := rf.inv) | cases rf); (first | obtain rfl := rk.inv | (obtain ⟨_, rfl⟩ := rk.inv) | (obtain ⟨_, rfl, _⟩ := rk.inv) | cases rk)
  obtain ⟨u, us, rfl, ru, rs⟩ := r.inv; (first | obtain rfl := rs.inv | (obtain ⟨_, rfl⟩ := rs.inv) | (obtain ⟨_, rfl, _⟩ := rs.inv) | cases rs); (first | obtain rfl := ru.inv | (obtain ⟨_, rfl⟩ := ru.inv) | (obtain ⟨_, rfl, _⟩ := ru.inv) | cases ru)
  exact P.str_of_int h (Res.toks S (.str _ _) _)


theorem CallOK.gives1 {id name : String} {B : Builtin} {x : Str} {v : SV} (slot : Slot "str" name id) (entry : entryFor table id = some B) (args : ∀ a, argsOk id ⟨[a], []⟩)
    (h : ∀ (t : Tok), ∃ m, Gives (B ⟨[.str x t], []⟩) m ∧ ∀ (α : List Addr) (s : Shared), Sto V α st s → m.post (Res V α s st v) s) : CallOK V n (.val (.builtin id)) [.str x] [] st v st := Box.mk fun A α s fv us ks rm S rf r rk => by
  (first | obtain rfl := rf.inv | (obtain ⟨_, rfl⟩ := rf.inv) | (obtain ⟨_, rfl, _⟩ := rf.inv) | cases rf); (first | obtain rfl := rk.inv | (obtain ⟨_, rfl⟩ := rk.inv) | (obtain ⟨_, rfl, _⟩ := rk.inv) | cases rk)
  obtain ⟨u, us, rfl, ru, rs⟩ := r.inv
  (first | obtain rfl := rs.inv | (obtain ⟨_, rfl⟩ := rs.inv) | (obtain ⟨_, rfl, _⟩ := rs.inv) | cases rs)
  obtain ⟨t, rfl⟩ := ru.inv
  obtain ⟨m, g, hp⟩ := h t
  exact call_gives slot (typeIs_str _ _ _) entry (args _) g (hp α s S)
theorem CallOK.gives2 {id name : String} {B : Builtin} {x y : Str} {v : SV} (slot : Slot "str" name id) (entry : entryFor table id = some B) (args : ∀ a b, argsOk id ⟨[a, b], []⟩)
    (h : ∀ (t t' : Tok), ∃ m, Gives (B ⟨[.str x t, .str y t'], []⟩) m ∧ ∀ (α : List Addr) (s : Shared), Sto V α st s → m.post (Res V α s st v) s) : CallOK V n (.val (.builtin id)) [.str x, .str y] [] st v st := Box.mk fun A α s fv us ks rm S rf r rk => by
  (first | obtain rfl := rf.inv | (obtain ⟨_, rfl⟩ := rf.inv) | (obtain ⟨_, rfl, _⟩ := rf.inv) | cases rf); (first | obtain rfl := rk.inv | (obtain ⟨_, rfl⟩ := rk.inv) | (obtain ⟨_, rfl, _⟩ := rk.inv) | cases rk)
  obtain ⟨u, us, rfl, ru, rs⟩ := r.inv; obtain ⟨u', us', rfl, ru', rs'⟩ := rs.inv
  (first | obtain rfl := rs'.inv | (obtain ⟨_, rfl⟩ := rs'.inv) | (obtain ⟨_, rfl, _⟩ := rs'.inv) | cases rs')
  obtain ⟨t, rfl⟩ := ru.inv
  obtain ⟨t', rfl⟩ := ru'.inv
  obtain ⟨m, g, hp⟩ := h t t'
  exact call_gives slot (typeIs_str _ _ _) entry (args _ _) g (hp α s S)

theorem CallOK.upper {x : Str} (h : tooLong (Txt.upper x).length = false) : CallOK V n (.val (.builtin "str.upper")) [.str x] [] st (.str (Txt.upper x)) st :=
  CallOK.gives1 F.slot_str_upper F.entry_str_upper F.args_str_upper_1 fun t => ⟨_, gives_str_upper x t h, fun α s S => ⟨fit_le h, Res.toks S (.str _ _) _⟩⟩
theorem CallOK.lower {x : Str} (h : tooLong (Txt.lower x).length = false) : CallOK V n (.val (.builtin "str.lower")) [.str x] [] st (.str (Txt.lower x)) st :=
  CallOK.gives1 F.slot_str_lower F.entry_str_lower F.args_str_lower_1 fun t => ⟨_, gives_str_lower x t h, fun α s S => ⟨fit_le h, Res.toks S (.str _ _) _⟩⟩
theorem CallOK.startswith {x y : Str} : CallOK V n (.val (.builtin "str.startswith")) [.str x, .str y] [] st (.bool (Txt.startswith x y)) st :=
  CallOK.gives2 F.slot_str_startswith F.entry_str_startswith F.args_str_startswith_2 fun t t' => ⟨_, gives_str_startswith x y t t', fun α s S => Res.here S (.bool _)⟩
theorem CallOK.endswith {x y : Str} : CallOK V n (.val (.builtin "str.endswith")) [.str x, .str y] [] st (.bool (Txt.endswith x y)) st :=
  CallOK.gives2 F.slot_str_endswith F.entry_str_endswith F.args_str_endswith_2 fun t t' => ⟨_, gives_str_endswith x y t t', fun α s S => Res.here S (.bool _)⟩
theorem CallOK.rfind {x y : Str} : CallOK V n (.val (.builtin "str.rfind")) [.str x, .str y] [] st (.int (Txt.rfind x y)) st :=
  CallOK.gives2 F.slot_str_rfind F.entry_str_rfind F.args_str_rfind_2 fun t t' => ⟨_, gives_str_rfind x y t t', fun α s S => Res.toks S (.int _ _) _⟩
theorem CallOK.rstrip {x y : Str} (hz : x.length ≤ sizeLine) : CallOK V n (.val (.builtin "str.rstrip")) [.str x, .str y] [] st (.str (Txt.rstripChars x y)) st :=
  CallOK.gives2 F.slot_str_rstrip F.entry_str_rstrip F.args_str_rstrip_2 fun t t' => ⟨_, gives_str_rstrip_chars x y t t', fun α s S => post_val_or_made (fun _ => fits_stripped _ _ _ hz) fun t' k => Res.toks S (.str _ _) k⟩
theorem CallOK.join {x : Str} {a : SV} {ss : List Str} (ha : asL st a = some (ss.map .str)) (h : JoinOk x ss = true) : CallOK V n (.val (.builtin "str.join")) [.str x, a] [] st (.str (Txt.join x ss)) st := Box.mk fun A α s fv us ks rm S rf r rk => by
  (first | obtain rfl := rf.inv | (obtain ⟨_, rfl⟩ := rf.inv) | (obtain ⟨_, rfl, _⟩ := rf.inv) | cases rf); (first | obtain rfl := rk.inv | (obtain ⟨_, rfl⟩ := rk.inv) | (obtain ⟨_, rfl, _⟩ := rk.inv) | cases rk)
  obtain ⟨u, us, rfl, ru, rs⟩ := r.inv; obtain ⟨u', us', rfl, ru', rs'⟩ := rs.inv
  (first | obtain rfl := rs'.inv | (obtain ⟨_, rfl⟩ := rs'.inv) | (obtain ⟨_, rfl, _⟩ := rs'.inv) | cases rs')
  obtain ⟨t, rfl⟩ := ru.inv
  obtain ⟨l, vs, rfl, hl, hr⟩ := asL_lst S ru' ha
  obtain ⟨l', rfl, e⟩ := reps_strs hr
  exact SC.join hl.isList e h fun t' k => Res.toks S (.str _ _) k
theorem CallOK.split {x y : Str} (hy : (y.length == 0) = false) (hz : x.length ≤ sizeLine) (hz2 : (partsBetween x (occurrences x y 0 x.length (x.length + 1)) y.length).length ≤ sizeLine) :
    CallOK V n (.val (.builtin "str.split")) [.str x, .str y] [] st (.lst ((Txt.split x y).map .str)) st := Box.mk fun A α s fv us ks rm S rf r rk => by
  (first | obtain rfl := rf.inv | (obtain ⟨_, rfl⟩ := rf.inv) | (obtain ⟨_, rfl, _⟩ := rf.inv) | cases rf); (first | obtain rfl := rk.inv | (obtain ⟨_, rfl⟩ := rk.inv) | (obtain ⟨_, rfl, _⟩ := rk.inv) | cases rk)
  obtain ⟨u, us, rfl, ru, rs⟩ := r.inv; obtain ⟨u', us', rfl, ru', rs'⟩ := rs.inv
  (first | obtain rfl := rs'.inv | (obtain ⟨_, rfl⟩ := rs'.inv) | (obtain ⟨_, rfl, _⟩ := rs'.inv) | cases rs')
  obtain ⟨t, rfl⟩ := ru.inv
  obtain ⟨t', rfl⟩ := ru'.inv
  have fin : ∀ (l : List (Str × Tok)) (k : Nat), l.map (·.1) = Txt.split x y → Res V α s st (.lst ((Txt.split x y).map .str)) (.ref s.heap.objs.size) { s with heap := s.heap.push { cls := .type "list", data := .seq (strValues l).toArray }, toks := k } := fun l k e => by
    rw [← e]
    exact Res.newLst (n := 0) S (strs_reps l) rfl k
  cases h1 : (decide (x.length < y.length) || decide (Builtin.Str.strKind x < Builtin.Str.strKind y))
  · cases hf : (occurrences x y 0 x.length (x.length + 1)).isEmpty
    · refine call_meets F.slot_str_split (typeIs_str _ _ _) F.entry_str_split (F.args_str_split_2 _ _) (meets_str_split_sep x y t t' h1 hy hf hz hz2) ?_
      rw [strsFrom_eq]
      exact fin (numbered s.toks _) _ ((numbered_texts _ _).trans ((if_neg (ne_true_of_eq_false h1)).trans (if_neg (ne_true_of_eq_false hf))).symm)
    · refine call_meets F.slot_str_split (typeIs_str _ _ _) F.entry_str_split (F.args_str_split_2 _ _) (meets_str_split_not_found x y t t' h1 hy hf) ?_
      exact fin [(x, t)] s.toks ((if_neg (ne_true_of_eq_false h1)).trans (if_pos hf)).symm
  · refine call_meets F.slot_str_split (typeIs_str _ _ _) F.entry_str_split (F.args_str_split_2 _ _) (meets_str_split_cannot_occur x y t t' h1) ?_
    exact fin [(x, t)] s.toks (if_pos h1).symm
theorem CallOK.replaceNone {x y z : Str} (h : (occurrences x y 0 x.length (x.length + 1)).isEmpty = true) : CallOK V n (.val (.builtin "str.replace")) [.str x, .str y, .str z] [] st (.str x) st := Box.mk fun A α s fv us ks rm S rf r rk => by
  (first | obtain rfl := rf.inv | (obtain ⟨_, rfl⟩ := rf.inv) | (obtain ⟨_, rfl, _⟩ := rf.inv) | cases rf); (first | obtain rfl := rk.inv | (obtain ⟨_, rfl⟩ := rk.inv) | (obtain ⟨_, rfl, _⟩ := rk.inv) | cases rk)
  obtain ⟨u, us, rfl, ru, rs⟩ := r.inv; obtain ⟨u', us', rfl, ru', rs'⟩ := rs.inv; obtain ⟨u'', us'', rfl, ru'', rs''⟩ := rs'.inv
  (first | obtain rfl := rs''.inv | (obtain ⟨_, rfl⟩ := rs''.inv) | (obtain ⟨_, rfl, _⟩ := rs''.inv) | cases rs'')
  obtain ⟨t, rfl⟩ := ru.inv
  obtain ⟨t', rfl⟩ := ru'.inv
  obtain ⟨t'', rfl⟩ := ru''.inv
  refine call_gives F.slot_str_replace (typeIs_str _ _ _) F.entry_str_replace (F.args_str_replace_3 _ _ _) (gives_str_replace x y z t t' t'' (fun e => by rw [h] at e; cases e)) ?_
  rw [h]
  exact Res.here S (.str _ _)
end
end Mine
end

section
open PySem PySem.Calls PyProof.Rows
set_option maxRecDepth 100000
namespace Mine
local macro_rules | `(tactic| omega) => `(tactic| lia)
section
variable {V : Cx} {G : Gm} {loc loc₁ loc₂ : Loc} {st st₁ st₂ st₃ : St} {n : Nat}


theorem Sto.objAt {α : List Addr} {s : Shared} {u : Value} {i : Nat} {xs : List SV} (S : Sto V α st s) (r : Rep V s.heap α u (.obj i)) (h : st[i]? = some xs) :
    ∃ l vs, u = .ref l ∧ α[i]? = some l ∧ Lst s.heap l vs ∧ Reps V s.heap α vs xs ∧ i < st.length := by
  obtain ⟨a, hq, e⟩ := r.inv
  cases hq
  obtain ⟨b, vs, hb, hl, hr⟩ := S.cell i xs h
  rw [e] at hb; cases hb
  exact ⟨_, vs, rfl, e, hl, hr, (List.getElem?_eq_some_iff.mp h).1⟩

theorem append_at {A : Around} {α : List Addr} {s : Shared} {l : Addr} {vs : List Value} {xs : List SV} {u : Value} {v : SV} {i : Nat} (S : Sto V α st s) (hi : i < st.length) (ha : α[i]? = some l) (hl : Lst s.heap l vs) (hr : Reps V s.heap α vs xs) (r : Rep V s.heap α u v)
    (hz : xs.length ≤ sizeLine) : wpAny V.M A (call (.builtin "list.append") [.ref l, u]) (Res V α s (st.set i (xs ++ [v])) .none) NoE s := by
  refine wpAny_list_append_plain (hsz := by simp [hr.length]; exact hz) hl fun h' hp hs => ?_
  have hl' : Lst h' l (vs ++ [u]) := by
    obtain ⟨n, e⟩ := hp
    exact ⟨n, by rw [e]; simp⟩
  have z := S.set (h' := h') (xs := xs ++ [v]) hi ha hs hl' (hr.append (.cons _ _ _ _ r .nil)) s.toks
  exact ⟨α, z.2, z.1, .none⟩

theorem CallOK.append {i : Nat} {xs : List SV} {v : SV} (hx : st[i]? = some xs) (hz : xs.length ≤ sizeLine) : CallOK V n (.val (.builtin "list.append")) [.obj i, v] [] st .none (st.set i (xs ++ [v])) := Box.mk fun A α s fv us ks rm S rf r rk => by
  (first | obtain rfl := rf.inv | (obtain ⟨_, rfl⟩ := rf.inv) | (obtain ⟨_, rfl, _⟩ := rf.inv) | cases rf); (first | obtain rfl := rk.inv | (obtain ⟨_, rfl⟩ := rk.inv) | (obtain ⟨_, rfl, _⟩ := rk.inv) | cases rk)
  obtain ⟨u, us, rfl, ru, rs⟩ := r.inv; obtain ⟨u', us', rfl, ru', rs'⟩ := rs.inv
  (first | obtain rfl := rs'.inv | (obtain ⟨_, rfl⟩ := rs'.inv) | (obtain ⟨_, rfl, _⟩ := rs'.inv) | cases rs')
  obtain ⟨l, vs, rfl, ha, hl, hr, hi⟩ := S.objAt ru hx
  exact append_at S hi ha hl hr ru' hz

theorem CallOK.pop {i : Nat} {xs : List SV} {v : SV} (hx : st[i]? = some (xs ++ [v])) (hz : xs.length < sizeLine) : CallOK V n (.val (.builtin "list.pop")) [.obj i] [] st v (st.set i xs) := Box.mk fun A α s fv us ks rm S rf r rk => by
  (first | obtain rfl := rf.inv | (obtain ⟨_, rfl⟩ := rf.inv) | (obtain ⟨_, rfl, _⟩ := rf.inv) | cases rf); (first | obtain rfl := rk.inv | (obtain ⟨_, rfl⟩ := rk.inv) | (obtain ⟨_, rfl, _⟩ := rk.inv) | cases rk)
  obtain ⟨u, us, rfl, ru, rs⟩ := r.inv
  (first | obtain rfl := rs.inv | (obtain ⟨_, rfl⟩ := rs.inv) | (obtain ⟨_, rfl, _⟩ := rs.inv) | cases rs)
  obtain ⟨l, vs, rfl, ha, ⟨k, hl⟩, hr, hi⟩ := S.objAt ru hx
  have hlen : vs.length = xs.length + 1 := by rw [hr.length]; simp
  obtain ⟨y, hy, hyr⟩ := hr.get (i := xs.length) (y := v) (by simp)
  refine call_meets F.slot_list_pop ⟨_, hl, rfl⟩ F.entry_list_pop (F.args_list_pop_1 _) (MeetsSeq.list_pop_last l vs.toArray k y (by simpa [hlen] using hy) (by simp [hlen]; omega)) ⟨hl, ?_⟩
  have e1 : vs = vs.take xs.length ++ [y] := by
    have h1 := List.take_append_drop xs.length vs
    rw [List.drop_eq_getElem_cons (by omega), List.drop_eq_nil_of_le (by omega)] at h1
    rw [List.getElem?_eq_getElem (by omega)] at hy
    cases hy
    exact h1.symm
  have hr' : Reps V s.heap α (vs.take xs.length) xs := by simpa using hr.take xs.length
  have e2 : vs.toArray.eraseIdxIfInBounds (vs.toArray.size - 1) = (vs.take xs.length).toArray := by
    apply Array.ext'
    simp [Array.eraseIdxIfInBounds, hlen, List.eraseIdx_eq_take_drop_succ]
  have hs : Heap.SameBut l s.heap (s.heap.update l (Obj.mapSeq fun xs => xs.eraseIdxIfInBounds (vs.toArray.size - 1))) := Heap.SameBut.update ..
  have hl' : Lst (s.heap.update l (Obj.mapSeq fun xs => xs.eraseIdxIfInBounds (vs.toArray.size - 1))) l (vs.take xs.length) := by
    have q := IsL.update hl fun xs => xs.eraseIdxIfInBounds (vs.toArray.size - 1)
    rw [e2] at q
    exact ⟨_, q⟩
  have z := S.set (xs := xs) hi ha hs hl' hr' s.toks
  exact ⟨α, z.2, z.1, hyr.go z.2⟩

theorem GmOK.lst {a : SV} {xs : List SV} {name : Str} {id : String} (ha : asL st a = some xs) (slot : Slot "list" name id) (hty : typeOf (.builtin id) = pure (.type "method_descriptor")) : GmOK V a name st (.val (.builtin id)) [a] := Box.mk fun A α s u pl S r => by
  obtain ⟨l, vs, rfl, ⟨k, hl⟩, hr⟩ := asL_lst S r ha
  exact getMethod_list_of slot hty ⟨_, hl, rfl, k, rfl⟩ ⟨_, hl, rfl⟩ ⟨rfl, .val _, .cons _ _ _ _ r .nil⟩


theorem feeds_gen {A : Around} {I : Addr} {mods : List Addr} {C : St → Prop} {target : Expr} {all : List SV} {T : String} {It : Nat → Heap → Prop} {P : List Addr → Shared → Prop}
    (hT : (["enumerate", "zip", "dict_itemiterator", "dict_reverseitemiterator", "odict_iterator", "itertools.zip_longest", "itertools.pairwise"].contains T) = false ∧ T ≠ "list" ∧ T ≠ "tuple" ∧ T ≠ "builtin_function_or_method")
    (hcls : ∀ k h, It k h → ∃ o, h.get? I = some o ∧ o.cls = .type T) (hkeep : ∀ k h h', It k h → (∀ o, h.get? I = some o → h'.get? I = some o) → It k h')
    (hP : ∀ {m α β s t}, P α s → Step V m α s β t → (∀ a ∈ m, ∀ o, s.heap.get? a = some o → Soft o) → P β t)
    (hitem : ∀ (k : Nat) (x : SV) (α : List Addr) (st : St) (s : Shared), Sto V α st s → C st → It k s.heap → P α s → all[k]? = some x →
      wpAny V.M A (pyNext (.ref I)) (fun r s' => ∃ u h' t, r = some u ∧ s' = { s with heap := h', toks := t } ∧ It (k + 1) h' ∧ Heap.SameBut I s.heap h' ∧ Rep V s.heap α u x) NoE s)
    (hend : ∀ (k : Nat) (α : List Addr) (st : St) (s : Shared), Sto V α st s → C st → It k s.heap → P α s → k = all.length →
      wpAny V.M A (pyNext (.ref I)) (fun r s' => r = none ∧ ∃ h' t, s' = { s with heap := h', toks := t } ∧ Heap.ExtBut I s.heap h') NoE s)
    (hIm : I ∉ mods) (hlo : V.h₀.objs.size ≤ I) (hfx : ∀ p ∈ V.fixed, p.1 ≠ I) (hPl : V.P < V.h₀.objs.size) :
    ∀ (xs : List SV) (k : Nat) (α : List Addr) (s : Shared), k ≤ all.length → all.drop k = xs → It k s.heap → I ∉ α → ModsOK V mods α s → P α s → Feeds V A I [I] mods C target xs α s := by
  intro xs
  induction xs with
  | nil =>
    intro k α s hkl hk hI hIα hm hsrc α₁ st₁ s₁ X S₁ hC hm₁ hex
    obtain ⟨oi, hoi, hci⟩ := hcls k _ hI
    have hoi₁ := X.kept I oi hoi hIm hIα (ne_hi hlo hPl)
    have hI₁ : It k s₁.heap := hkeep _ _ _ hI fun o e => X.kept I o e hIm hIα (ne_hi hlo hPl)
    have hsoft : ∀ o, s₁.heap.get? I = some o → Soft o := fun o e => by
      rw [hoi₁] at e; cases e
      exact soft_of_cls hci hT.2.1 hT.2.2.1 hT.2.2.2
    refine ⟨fun a ha => by simp at ha; subst ha; exact hsoft, wsize (wpAny_mono (hend k α₁ st₁ s₁ S₁ hC hI₁ (hP hsrc X hm.soft) ?_) (fun r s' ⟨e, h', t, e', hx⟩ hz => ?_) fun _ _ e => e.elim)⟩
    · have : all.length ≤ k := List.drop_eq_nil_iff.mp hk
      omega
    · subst e'
      exact ⟨e, S₁.iter (I := I) (h' := h') t (fun b o hb e => hx b o hb e) hz hlo (X.notin hoi hIα) hfx hsoft⟩
  | cons x xs ih =>
    intro k α s hkl hk hI hIα hm hsrc α₁ st₁ s₁ X S₁ hC hm₁ hex
    obtain ⟨oi, hoi, hci⟩ := hcls k _ hI
    have hoi₁ := X.kept I oi hoi hIm hIα (ne_hi hlo hPl)
    have hI₁ : It k s₁.heap := hkeep _ _ _ hI fun o e => X.kept I o e hIm hIα (ne_hi hlo hPl)
    have hsrc₁ := hP hsrc X hm.soft
    have hsoft : ∀ o, s₁.heap.get? I = some o → Soft o := fun o e => by
      rw [hoi₁] at e; cases e
      exact soft_of_cls hci hT.2.1 hT.2.2.1 hT.2.2.2
    have hx : all[k]? = some x := by
      have : (all.drop k)[0]? = some x := by rw [hk]; rfl
      simpa using this
    have hlt := (List.getElem?_eq_some_iff.mp hx).1
    refine ⟨fun a ha => by simp at ha; subst ha; exact hsoft, wpAny_mono (hitem k x α₁ st₁ s₁ S₁ hC hI₁ hsrc₁ hx) (fun r s' hq_ => ?_) fun _ _ e => e⟩
    obtain ⟨u, h', t, e, e', hI', hs', hru⟩ := hq_
    subst e'
    have hIα₁ : I ∉ α₁ := X.notin hoi hIα
    have z := S₁.iter (I := I) (h' := h') t (fun b o hb e => (hs'.2 b hb).trans e) (Nat.le_of_eq hs'.1.symm) hlo hIα₁ hfx hsoft
    obtain ⟨o', ho', hc'⟩ := hcls _ _ hI'
    have hso : ∀ a ∈ [I], ∀ o, s₁.heap.get? a = some o → Soft o := fun a ha => by simp at ha; subst ha; exact hsoft
    refine ⟨u, e, letOwned_of (s := { s₁ with heap := h', toks := t }) ho' hc' hT.1 ⟨z.1, z.2, hru.step z.1 hso, ?_⟩⟩
    exact ih (k + 1) α₁ _ hlt (by rw [← List.drop_drop, hk]; rfl) hI' hIα₁ (hm₁.iter (I := I) t fun b hb => hs'.2 b fun q => hIm (q ▸ hb)) (hP hsrc₁ z.1 hso)


theorem head_gen {A : Around} {env : Env} {α β : List Addr} {s s₁ : Shared} {C : St → Prop} {target : Expr} {all : List SV} {T : String} {It : Addr → Nat → Heap → Prop} {P : List Addr → Shared → Prop} {o : Obj}
    (hT : (["enumerate", "zip", "dict_itemiterator", "dict_reverseitemiterator", "odict_iterator", "itertools.zip_longest", "itertools.pairwise"].contains T) = false ∧ T ≠ "list" ∧ T ≠ "tuple" ∧ T ≠ "builtin_function_or_method")
    (hcls : ∀ I k h, It I k h → ∃ o, h.get? I = some o ∧ o.cls = .type T) (hkeep : ∀ I k h h', It I k h → (∀ o, h.get? I = some o → h'.get? I = some o) → It I k h')
    (hP : ∀ {m α β s t}, P α s → Step V m α s β t → (∀ a ∈ m, ∀ o, s.heap.get? a = some o → Soft o) → P β t)
    (hitem : ∀ (I : Addr) (k : Nat) (x : SV) (α : List Addr) (st : St) (s : Shared), Sto V α st s → C st → It I k s.heap → P α s → all[k]? = some x →
      wpAny V.M A (pyNext (.ref I)) (fun r s' => ∃ u h' t, r = some u ∧ s' = { s with heap := h', toks := t } ∧ It I (k + 1) h' ∧ Heap.SameBut I s.heap h' ∧ Rep V s.heap α u x) NoE s)
    (hend : ∀ (I : Addr) (k : Nat) (α : List Addr) (st : St) (s : Shared), Sto V α st s → C st → It I k s.heap → P α s → k = all.length →
      wpAny V.M A (pyNext (.ref I)) (fun r s' => r = none ∧ ∃ h' t, s' = { s with heap := h', toks := t } ∧ Heap.ExtBut I s.heap h') NoE s)
    (R : Var V G.ks G.cd env loc α s) (S : Sto V α st s) (X : Step V [] α s β s₁) (S₁ : Sto V β st₁ s₁) (hsrc : P β s₁) (hc : C st₁) (ho : o.isFreed = false) (hI : It s₁.heap.objs.size 0 (s₁.heap.push o)) :
    ∃ I Its α', (Value.ref s₁.heap.objs.size) = .ref I ∧ Step V [] α s α' { s₁ with heap := s₁.heap.push o } ∧ Sto V α' st₁ { s₁ with heap := s₁.heap.push o } ∧ (∀ a ∈ Its, s.heap.objs.size ≤ a) ∧ Feeds V A I Its (own env) C target all α' { s₁ with heap := s₁.heap.push o } := by
  have z := S₁.grow (h' := s₁.heap.push o) s₁.toks (fun b o' e => Heap.get?_push_of_some _ e) (by rw [Heap.size_push]; omega)
  have hIn : s₁.heap.objs.size ∉ own env := fun h => Nat.lt_irrefl _ (Nat.lt_of_lt_of_le (R.lt h) X.size)
  refine ⟨s₁.heap.objs.size, [s₁.heap.objs.size], β, rfl, X.trans z.2, z.1, fun a ha => by simp at ha; subst ha; exact X.size, ?_⟩
  refine feeds_gen (It := It s₁.heap.objs.size) (P := P) hT (hcls _) (hkeep _) hP (hitem _) (hend _) hIn S₁.size (fun p hp e => ?_) S.low.2 all 0 β _ (Nat.zero_le _) rfl hI S₁.newAt.1 (own_mods R (X.trans z.2) S.low.2) (hP hsrc z.2 fun _ h => nomatch h)
  exact Nat.lt_irrefl _ (e ▸ Heap.lt_size (S₁.fix p hp).1)


theorem HdOK.tup {iter target : Expr} {xs : List SV} (h : EvOK V G iter loc st (.tup xs) st₁) : HdOK V G iter target loc st (fun _ => True) xs st₁ := Box.mk fun A env α s rm S R =>
  wpAny_mono (h.out A env α s rm S R) (fun u s₁ ⟨β, X, S₁, r⟩ => by
    obtain ⟨t, vs, o, n, hq, e, hc, hd, h1, h2, hr⟩ := r.inv
    cases hq
    have at' : ∀ {α : List Addr} {s : Shared}, Rep V s.heap α (.ref t) (.tup xs) → ∃ vs : List Value, s.heap.IsTuple t vs.toArray ∧ Reps V s.heap α vs xs := fun r => by
      obtain ⟨_, vs, o, n, hq, e, hc, hd, h1, h2, hr⟩ := r.inv
      cases hq
      exact ⟨vs, ⟨o, e, hc, n, hd⟩, hr⟩
    refine wpAny_pyIter_tuple ⟨o, e, hc, n, hd⟩ ?_
    refine head_gen (T := "tuple_iterator") (It := fun I k h => h.IsTupleIter I t k) (P := fun α s => Rep V s.heap α (.ref t) (.tup xs)) (by decide) (fun I k h x => let ⟨o, a, b, _⟩ := x; ⟨o, a, b⟩)
      (fun I k h h' x y => let ⟨o, a, b⟩ := x; ⟨o, y _ a, b⟩) (fun x y z => x.step y z) (fun I k x α st s S _ hI hP hx => ?_) (fun I k α st s S _ hI hP hk => ?_) R S X S₁ r trivial rfl ⟨_, Heap.get?_push_size _ rfl, rfl, rfl⟩
    · obtain ⟨vs, ht, hr⟩ := at' hP
      obtain ⟨v, hv, rv⟩ := hr.get hx
      exact wpAny_pyNext_tuple_item hI ht (by simpa using hv) fun h' hI' hs => ⟨v, h', s.toks, rfl, rfl, hI', hs, rv⟩
    · obtain ⟨vs, ht, hr⟩ := at' hP
      exact wpAny_pyNext_tuple_end rm.hd hI ht (by simp [hr.length, hk]) fun h' hx => ⟨rfl, h', s.toks, rfl, hx⟩) fun _ _ e => e


theorem HdOK.str {iter target : Expr} {x : Str} (h : EvOK V G iter loc st (.str x) st₁) (ha : x.cps.all (· < 128) = true) : HdOK V G iter target loc st (fun _ => True) (x.cps.toList.map fun c => .str ⟨#[c]⟩) st₁ := Box.mk fun A env α s rm S R => by
  refine wpAny_mono (h.out A env α s rm S R) (fun u s₁ hq_ => ?_) fun _ _ e => e
  obtain ⟨β, X, S₁, r⟩ := hq_
  obtain ⟨t, rfl⟩ := r.inv
  refine wpAny_pyIter_ascii ha ?_
  refine head_gen (T := "str_ascii_iterator") (It := fun I k h => h.IsStrIter I "str_ascii_iterator" x t k) (P := fun _ _ => True) (by decide) (fun I k h x => let ⟨o, a, b, _⟩ := x; ⟨o, a, b⟩)
    (fun I k h h' x y => let ⟨o, a, b⟩ := x; ⟨o, y _ a, b⟩) (fun x y z => trivial) (fun I k y α st s S _ hI hP hx => ?_) (fun I k α st s S _ hI hP hk => ?_) R S X S₁ trivial trivial rfl ⟨_, Heap.get?_push_size _ rfl, rfl, rfl⟩
  · rw [List.getElem?_map] at hx
    cases hc : x.cps.toList[k]? with
    | none => rw [hc] at hx; cases hx
    | some c =>
      rw [hc] at hx; cases hx
      exact wpAny_pyNext_ascii_item hI (by simpa using hc) fun h' hI' hs => ⟨_, h', _, rfl, rfl, hI', hs, .str _ _⟩
  · exact wpAny_pyNext_ascii_end rm.hd hI (by simp at hk; simp [hk]) fun h' hx => ⟨rfl, h', s.toks, rfl, hx⟩


theorem eval_call_ty {A : Around} {env : Env} {α : List Addr} {s : Shared} {x : Str} {p pos} {es : List Expr} {T : String} {vs : List SV} {Q : Value → Shared → Prop} (hf : EvOK V G (.Name x p) loc st (.val (.type T)) st) (hs : es.all notStar = true)
    (he : EvsOK V G es loc st vs st₁) (rm : Rm A G.n) (S : Sto V α st s) (R : Var V G.ks G.cd env loc α s)
    (h : ∀ us β s₁, Step V [] α s β s₁ → Sto V β st₁ s₁ → Reps V s₁.heap β us vs → wpAny V.M A (call (.type T) us) Q NoE s₁) : wpAny V.M A (eval (.Call (.Name x p) es [] pos) env) Q NoE s :=
  wpAny_Call_Name_kw (wpAny_mono (hf.out A env α s rm S R) (fun u s₁ ⟨α₁, X₁, S₁, R₁⟩ => by
    obtain rfl := R₁.inv
    refine PySem.callWith_type (back_all hs env pos).2.1 (evalArgs_gen (back_all hs env pos).1 rfl ?_)
    refine wpAny_mono (he.out A env pos α₁ s₁ rm S₁ (R.step X₁ S.low.2)) (fun us s₂ ⟨α₂, X₂, S₂, R₂⟩ => wpAny_evalAll_nil ?_) fun _ _ e => e
    exact h us α₂ s₂ (X₁.trans X₂) S₂ R₂) fun _ _ e => e)


theorem HdOK.rev {x : Str} {es : List Expr} {p pos} {target : Expr} {xs : List SV} (hf : EvOK V G (.Name x p) loc st (.val (.type "reversed")) st)
    (hs : es.all notStar = true) (he : EvsOK V G es loc st [.lst xs] st₁) : HdOK V G (.Call (.Name x p) es [] pos) target loc st (fun _ => True) xs.reverse st₁ := Box.mk fun A env α s rm S R =>
  eval_call_ty hf hs he rm S R fun us β s₁ X S₁ r => by
    replace r := r.inv; obtain ⟨u, us, rfl, r, rs⟩ := r
    (first | obtain rfl := rs.inv | (obtain ⟨_, rfl⟩ := rs.inv) | (obtain ⟨_, rfl, _⟩ := rs.inv) | cases rs)
    obtain ⟨l, vs, hq, hl, h1, h2, hr⟩ := r.inv
    cases hq
    have at' : ∀ {α : List Addr} {s : Shared}, Rep V s.heap α (.ref l) (.lst xs) → ∃ vs : List Value, s.heap.IsList l vs.toArray ∧ Reps V s.heap α vs xs := fun r => by
      obtain ⟨_, vs, hq, hl, h1, h2, hr⟩ := r.inv
      cases hq
      exact ⟨vs, hl.isList, hr⟩
    refine call_reversed_list hl.isList ?_
    refine wpAny_pyIter_revIter (i := (vs.toArray.size : Int) - 1) ⟨_, Heap.get?_push_size _ rfl, rfl, rfl⟩ ?_
    refine head_gen (T := "list_reverseiterator") (It := fun I k h => h.IsRevIter I l ((xs.length : Int) - 1 - k)) (P := fun α s => Rep V s.heap α (.ref l) (.lst xs)) (by decide) (fun I k h x => let ⟨o, a, b, _⟩ := x; ⟨o, a, b⟩)
      (fun I k h h' x y => let ⟨o, a, b⟩ := x; ⟨o, y _ a, b⟩) (fun x y z => x.step y z) (fun I k x α st s S _ hI hP hx => ?_) (fun I k α st s S _ hI hP hk => ?_) R S X S₁ r trivial rfl ⟨_, Heap.get?_push_size _ rfl, rfl, by simp [hr.length, revObj]⟩
    · obtain ⟨vs, ht, hr⟩ := at' hP
      have hk := (List.getElem?_eq_some_iff.mp hx).1
      rw [List.length_reverse] at hk
      rw [List.getElem?_reverse hk] at hx
      obtain ⟨v, hv, rv⟩ := hr.get hx
      refine wpAny_pyNext_rev_item (i := xs.length - 1 - k) (by rw [show ((xs.length - 1 - k : Nat) : Int) = (xs.length : Int) - 1 - k by omega]; exact hI) ht (by simpa using hv) fun h' hI' hs => ⟨v, h', s.toks, rfl, rfl, ?_, hs, rv⟩
      rw [show (xs.length : Int) - 1 - ((k + 1 : Nat) : Int) = ((xs.length - 1 - k : Nat) : Int) - 1 by omega]
      exact hI'
    · exact wpAny_pyNext_rev_end rm.hd (by rw [hk, List.length_reverse, show (xs.length : Int) - 1 - (xs.length : Int) = -1 by omega] at hI; exact hI) fun h' hx => ⟨rfl, h', s.toks, rfl, hx⟩


noncomputable def enumSV : Nat → List SV → List SV
  | _, [] => []
  | k, x :: xs => .tup [.int k, x] :: enumSV (k + 1) xs
theorem feeds_enum {A : Around} {e it l : Addr} {mods : List Addr} {C : St → Prop} {ts : List Expr} {tk tp} {all : List SV} (hh : A.handled = none) (hei : e ≠ it) (hm : e ∉ mods ∧ it ∉ mods) (hlo : V.h₀.objs.size ≤ e ∧ V.h₀.objs.size ≤ it) (hfx : ∀ p ∈ V.fixed, p.1 ≠ e ∧ p.1 ≠ it) (hP : V.P < V.h₀.objs.size) :
    ∀ (xs : List SV) (k : Nat) (α : List Addr) (s : Shared), all.drop k = xs → (∃ old, IsEnum s.heap e it (k : Int) old) → s.heap.IsListIter it l k → e ∉ α ∧ it ∉ α → ModsOK V mods α s → Src V C l all α s → Feeds V A e [e, it] mods C (.Tuple ts tk tp) (enumSV k xs) α s := by
  have soft : ∀ {s : Shared} {k : Nat}, (∃ old, IsEnum s.heap e it (k : Int) old) → s.heap.IsListIter it l k → ∀ a ∈ [e, it], ∀ o, s.heap.get? a = some o → Soft o := fun he hi a ha o ho => by
    obtain ⟨old, he⟩ := he
    obtain ⟨oi, hoi, hci, _⟩ := hi
    simp at ha
    rcases ha with rfl | rfl
    · rw [he] at ho; cases ho; exact soft_of_cls rfl (by decide) (by decide) (by decide)
    · rw [hoi] at ho; cases ho; exact soft_of_cls hci (by decide) (by decide) (by decide)
  have mk : ∀ {α : List Addr} {st : St} {s : Shared} {h' : Heap} (t : Nat), Sto V α st s → e ∉ α ∧ it ∉ α → (∀ a ∈ [e, it], ∀ o, s.heap.get? a = some o → Soft o) → (∀ b o, b ≠ e → b ≠ it → s.heap.get? b = some o → h'.get? b = some o) → s.heap.objs.size ≤ h'.objs.size →
      Sto V α st { s with heap := h', toks := t } ∧ Step V [e, it] α s α { s with heap := h', toks := t } := fun {α st s h'} t S ha hs hk hz =>
    S.keep (s' := { s with heap := h', toks := t }) (mods := [e, it]) ⟨fun b o x hb => hk b o (by simp at hb; exact hb.1) (by simp at hb; exact hb.2) x, hz⟩
      ⟨fun a h => by
        refine ⟨?_, ?_, ?_, hs a h⟩ <;> simp at h <;> rcases h with rfl | rfl
        · exact hlo.1
        · exact hlo.2
        · exact ha.1
        · exact ha.2
        · exact fun p hp => (hfx p hp).1
        · exact fun p hp => (hfx p hp).2⟩ rfl rfl
  intro xs
  induction xs with
  | nil =>
    intro k α s hk hE hI hα hmo hsrc α₁ st₁ s₁ X S₁ hC hm₁ hex
    obtain ⟨old, hE⟩ := hE
    obtain ⟨oi, hoi, hci⟩ := id hI
    have hE₁ : IsEnum s₁.heap e it (k : Int) old := X.kept e _ hE hm.1 hα.1 (ne_hi hlo.1 hP)
    have hI₁ : s₁.heap.IsListIter it l k := ⟨oi, X.kept it oi hoi hm.2 hα.2 (ne_hi hlo.2 hP), hci⟩
    obtain ⟨vs, hl, hr⟩ := (hsrc.step X hmo.soft).at S₁ hC
    have hs := soft ⟨old, hE₁⟩ hI₁
    refine ⟨hs, wsize (wpAny_pyNext_enum_end hh hE₁ hI₁ hl ?_ fun h' hx hz => ?_)⟩
    · have : all.length ≤ k := List.drop_eq_nil_iff.mp hk
      simp [hr.length, this]
    · have z := mk (h' := h') s₁.toks S₁ ⟨X.notin hE hα.1, X.notin hoi hα.2⟩ hs (fun b o _ hb x => hx b o hb x) hz
      exact ⟨rfl, z.2, z.1⟩
  | cons x xs ih =>
    intro k α s hk hE hI hα hmo hsrc α₁ st₁ s₁ X S₁ hC hm₁ hex
    obtain ⟨old, hE⟩ := hE
    obtain ⟨oi, hoi, hci⟩ := id hI
    have hE₁ : IsEnum s₁.heap e it (k : Int) old := X.kept e _ hE hm.1 hα.1 (ne_hi hlo.1 hP)
    have hI₁ : s₁.heap.IsListIter it l k := ⟨oi, X.kept it oi hoi hm.2 hα.2 (ne_hi hlo.2 hP), hci⟩
    have hsrc₁ := hsrc.step X hmo.soft
    obtain ⟨vs, hl, hr⟩ := hsrc₁.at S₁ hC
    have hs := soft ⟨old, hE₁⟩ hI₁
    have hx : all[k]? = some x := by
      have : (all.drop k)[0]? = some x := by rw [hk]; rfl
      simpa using this
    obtain ⟨u, hu, hru⟩ := hr.get hx
    have hα₁ : e ∉ α₁ ∧ it ∉ α₁ := ⟨X.notin hE hα.1, X.notin hoi hα.2⟩
    refine ⟨hs, wpAny_pyNext_enum_item hE₁ hI₁ hl (by simpa using hu) hei fun h' ho hI' ht hz hk' => ⟨_, rfl, ?_⟩⟩
    refine wpAny_letOwnedTupleGo_enum (s := { s₁ with heap := h', toks := s₁.toks + 1 }) ho fun h₂ he₂ hs₂ => ?_
    have hlt : e < s₁.heap.objs.size := Heap.lt_size hE₁
    have kk : ∀ b o, b ≠ e → b ≠ it → s₁.heap.get? b = some o → h₂.get? b = some o := fun b o h1 h2 x => (hs₂.2 b h1).trans (hk' b o h1 h2 x)
    have zz : s₁.heap.objs.size ≤ h₂.objs.size := by rw [hs₂.1]; show _ ≤ h'.objs.size; omega
    have z := mk (h' := h₂) (s₁.toks + 1) S₁ hα₁ hs kk zz
    have htup : h₂.get? s₁.heap.objs.size = some { cls := .type "tuple", data := .seq #[.int k s₁.toks, u] } := (hs₂.2 _ (Nat.ne_of_gt hlt)).trans ht
    have hI₂ : h₂.IsListIter it l (k + 1) := by
      obtain ⟨o, a, b⟩ := hI'
      exact ⟨o, (hs₂.2 _ (Ne.symm hei)).trans a, b⟩
    refine ⟨z.2, z.1, ?_, ?_⟩
    · exact .tup s₁.heap.objs.size [.int k s₁.toks, u] [.int k, x] { cls := .type "tuple", data := .seq #[.int k s₁.toks, u] } 0 htup rfl rfl S₁.newAt.1 S₁.newAt.2 (.cons _ _ _ _ (.int _ _) (.cons _ _ _ _ (hru.step z.2 hs) .nil))
    · refine ih (k + 1) α₁ _ (by rw [← List.drop_drop, hk]; rfl) ⟨u, he₂⟩ hI₂ hα₁ ⟨fun a ha => ⟨(hm₁.at' a ha).1, (hm₁.at' a ha).2.1, (hm₁.at' a ha).2.2.1, fun o ho => ?_⟩⟩ (hsrc₁.step z.2 hs)
      obtain ⟨o', ho'⟩ := hex a ha
      have q := kk a o' (fun e => hm.1 (e ▸ ha)) (fun e => hm.2 (e ▸ ha)) ho'
      have q2 : h₂.get? a = some o := ho
      rw [q] at q2
      exact (hm₁.at' a ha).2.2.2 o (ho'.trans q2)
theorem HdOK.enum {x : Str} {es : List Expr} {p pos} {ts : List Expr} {tk tp} {xs : List SV} (hf : EvOK V G (.Name x p) loc st (.val (.type "enumerate")) st)
    (hs : es.all notStar = true) (he : EvsOK V G es loc st [.lst xs] st₁) : HdOK V G (.Call (.Name x p) es [] pos) (.Tuple ts tk tp) loc st (fun _ => True) (enumSV 0 xs) st₁ := Box.mk fun A env α s rm S R =>
  eval_call_ty hf hs he rm S R fun us β s₁ X S₁ r => by
    replace r := r.inv; obtain ⟨u, us, rfl, r, rs⟩ := r
    (first | obtain rfl := rs.inv | (obtain ⟨_, rfl⟩ := rs.inv) | (obtain ⟨_, rfl, _⟩ := rs.inv) | cases rs)
    obtain ⟨l, vs, hq, hl, h1, h2, hr⟩ := r.inv
    cases hq
    refine call_enumerate_list hl.isList fun h' hE hI hz hk => ?_
    refine wpAny_pyIter_enum (s := { s₁ with heap := h' }) hE ?_
    have z := S₁.grow (h' := h') s₁.toks hk (by omega)
    have X' := X.trans z.2
    have hlt : ∀ a ∈ own env, a < s₁.heap.objs.size := fun a ha => Nat.lt_of_lt_of_le (R.lt ha) X.size
    have h0 := S₁.size
    refine ⟨s₁.heap.objs.size + 1, [s₁.heap.objs.size + 1, s₁.heap.objs.size], β, rfl, X', z.1, fun a ha => ?_, ?_⟩
    · have := X.size
      simp at ha
      rcases ha with rfl | rfl
      · exact Nat.le_succ_of_le this
      · exact this
    · refine feeds_enum (all := xs) rm.hd (fun e => absurd e (Nat.succ_ne_self _)) ⟨fun h => absurd (hlt _ h) (Nat.not_lt.mpr (Nat.le_succ _)), fun h => absurd (hlt _ h) (Nat.lt_irrefl _)⟩ ⟨Nat.le_succ_of_le h0, h0⟩ (fun p hp => ?_) S.low.2 xs 0 β _ rfl ⟨_, hE⟩ hI ⟨?_, S₁.newAt.1⟩ (own_mods R X' S.low.2) (.inl ?_)
      · have := Heap.lt_size (S₁.fix p hp).1
        exact ⟨Nat.ne_of_lt (Nat.lt_succ_of_lt this), Nat.ne_of_lt this⟩
      · intro h
        obtain ⟨i, hi⟩ := List.getElem?_of_mem h
        have hil := (List.getElem?_eq_some_iff.mp hi).1
        rw [S₁.len] at hil
        obtain ⟨a, vs', ha, ⟨n, eo⟩, _⟩ := S₁.cell i st₁[i] (by simp [hil])
        rw [hi] at ha; cases ha
        have := Heap.lt_size eo
        exact absurd this (Nat.not_lt.mpr (Nat.le_succ _))
      · obtain ⟨_, vs, hq, hl, h1, h2, hr⟩ := (r.go z.2).inv
        cases hq
        exact ⟨h1, h2, vs, hl, hr⟩
end
end Mine
end

section
open PySem PySem.Calls PyProof.Rows
set_option maxRecDepth 100000
namespace Mine
local macro_rules | `(tactic| omega) => `(tactic| lia)

section
variable {prog : Program} {w : World} {A : Around} {R : Result → Shared → Prop} {s : Shared}
noncomputable abbrev ifsSem (ifs : List Expr) (env : Env) : Sem Bool := forIn ifs true fun c r => if r = true then do let ok ← isTrue c env (eval c env); pure (ForInStep.yield ok) else pure (ForInStep.yield r)
theorem codeAny_comp1 {elt target iter : Expr} {ifs : List Expr} {scope : Scope} {pos : Pos} {it acc : Value} {env : Env}
    (h : wpAny (model prog w) A (pyNext it) (fun r s₁ => match r with
      | none => R (.ok .next) s₁
      | some v => wpAny (model prog w) A (letOwnedTupleGo target it v) (fun _ s₁' => wpAny (model prog w) A (assign target env v) (fun _ s₂ =>
          wpAny (model prog w) A (ifsSem ifs env) (fun ok s₃ =>
            if ok = true then wpAny (model prog w) A (eval elt env) (fun x s₄ =>
              wpAny (model prog w) A (call (.builtin "list.append") [acc, x]) (fun _ s₅ => codeAny (model prog w) A (.compLoop (.ListComp elt [⟨target, iter, ifs, 0⟩] scope pos) 0 it acc env) R s₅) NoE s₄) NoE s₃
            else codeAny (model prog w) A (.compLoop (.ListComp elt [⟨target, iter, ifs, 0⟩] scope pos) 0 it acc env) R s₃) NoE s₂) NoE s₁') NoE s₁) NoE s) :
    codeAny (model prog w) A (.compLoop (.ListComp elt [⟨target, iter, ifs, 0⟩] scope pos) 0 it acc env) R s := by
  refine codeAny_of_tree ?_
  show wpAny _ A ((compTurn (.ListComp elt [⟨target, iter, ifs, 0⟩] scope pos) 0 it acc env).onRaise (fun x => do noteFrame x env; theTreesLotGoes x)) _ _ s
  refine wpAny_noted (noted_of (env := env) ?_)
  rw [compTurn_list]
  refine wpAny_bind (wpAny_standAt (wpAny_bind (wpAny_mono h (fun r s₁ h₁ => ?_) fun _ _ h' => h')))
  cases r with
  | none => exact wpAny_pure h₁
  | some v =>
    refine wpAny_bind (wpAny_mono h₁ (fun _ s₁' h₁' => ?_) fun _ _ h' => h')
    refine wpAny_bind (wpAny_mono h₁' (fun _ s₂ h₂ => wpAny_bind (wpAny_mono h₂ (fun ok s₃ h₃ => ?_) fun _ _ h' => h')) fun _ _ h' => h')
    cases ok with
    | false => exact wpAny_pure ⟨rfl, h₃⟩
    | true =>
      exact wpAny_bind (wpAny_bind (wpAny_mono h₃ (fun x s₄ h₄ => wpAny_bind (wpAny_mono h₄ (fun _ s₅ h₅ => wpAny_pure (wpAny_pure ⟨rfl, h₅⟩)) fun _ _ h' => h')) fun _ _ h' => h'))
end


noncomputable def compKs (ks : List (Str × NameKind)) (names : List (Str × NameKind)) : List (Str × NameKind) := names.map fun (n, k) => if (k == .free && ks.lookup n == some .cell) then (n, .cell) else (n, k)
noncomputable def locC (ks : List (Str × NameKind)) (loc : Loc) : Loc := loc.filter fun p => ks.lookup p.1 == some .cell
theorem locC_lookup {ks : List (Str × NameKind)} {x : Str} : ∀ {loc : Loc} {v}, (locC ks loc).lookup x = some v → ks.lookup x = some .cell ∧ loc.lookup x = some v
  | [], v, h => by simp [locC] at h
  | (y, w) :: loc, v, h => by
    unfold locC at h
    rw [List.filter_cons] at h
    rw [List.lookup_cons]
    by_cases hy : x = y
    · subst hy
      by_cases hk : ks.lookup x = some .cell
      · simp [hk] at h ⊢; exact h
      · simp [hk] at h
        have := (locC_lookup (ks := ks) (loc := loc) h).1
        exact absurd this hk
    · simp only [show (x == y) = false by simpa using hy]
      split at h
      · rw [List.lookup_cons, show (x == y) = false by simpa using hy] at h
        exact locC_lookup h
      · exact locC_lookup h

section
variable {V : Cx} {G : Gm} {loc loc₁ loc₂ : Loc} {st st₁ st₂ st₃ : St}

theorem cells_inj {env : Env} {α : List Addr} {s : Shared} (R : Var V G.ks G.cd env loc α s) : ∀ p q : Str × Addr, p ∈ env.cells → q ∈ env.cells → p.2 = q.2 → p = q := by
  have hnd := (List.nodup_cons.mp R.nd).2
  intro p q hp hq e
  obtain ⟨i, hi⟩ := List.getElem?_of_mem hp
  obtain ⟨j, hj⟩ := List.getElem?_of_mem hq
  have h1 : (env.cells.map (·.2))[i]? = some p.2 := by rw [List.getElem?_map, hi]; rfl
  have h2 : (env.cells.map (·.2))[j]? = some q.2 := by rw [List.getElem?_map, hj]; rfl
  have := (List.getElem?_inj (List.getElem?_eq_some_iff.mp h1).1 hnd).mp (h1.trans (by rw [e]; exact h2.symm))
  subst this
  rw [hi] at hj; cases hj; rfl

theorem closure_loop {env : Env} : ∀ (names : List (Str × NameKind)) (cs : List (Str × Addr)), (names.map (·.1)).Nodup → (∀ x, (x, NameKind.free) ∈ names → ∃ c, env.cells.lookup x = some c) → (∀ p ∈ cs, p.1 ∉ names.map (·.1)) → (cs.map (·.1)).Nodup →
    ∃ cl, (forIn names cs (fun (x : Str × NameKind) (r : List (Str × Addr)) => (if (x.2 == NameKind.free) = true then do let c ← cellOf env x.1; pure (ForInStep.yield ((x.1, c) :: r)) else pure (ForInStep.yield r) : Sem (ForInStep (List (Str × Addr)))))) = (pure cl : Sem _) ∧
      (cl.map (·.1)).Nodup ∧ (∀ p ∈ cl, p ∈ cs ∨ (p ∈ env.cells)) ∧ (∀ x, (x, NameKind.free) ∈ names → cl.lookup x = env.cells.lookup x) ∧ (∀ x, x ∉ names.map (·.1) → cl.lookup x = cs.lookup x)
  | [], cs, _, _, _, hn => ⟨cs, rfl, hn, fun p h => .inl h, fun x h => (by cases h), fun _ _ => rfl⟩
  | (n, k) :: r, cs, hnd, hf, hcs, hn => by
    rw [List.map_cons, List.nodup_cons] at hnd
    rw [List.forIn_cons]
    have hf' : ∀ x, (x, NameKind.free) ∈ r → ∃ c, env.cells.lookup x = some c := fun x hx => hf x (List.mem_cons_of_mem _ hx)
    by_cases hk : k = .free
    · subst hk
      obtain ⟨c, hc⟩ := hf n List.mem_cons_self
      have hcell : cellOf env n = pure c := by unfold cellOf; rw [hc]
      have hn' : ((((n, c) :: cs : List (Str × Addr))).map (·.1)).Nodup := by
        rw [List.map_cons, List.nodup_cons]
        refine ⟨fun hm => ?_, hn⟩
        obtain ⟨p, hp, e⟩ := List.mem_map.mp hm
        exact hcs p hp (by rw [List.map_cons]; exact List.mem_cons.mpr (.inl e))
      have hcs' : ∀ p ∈ ((n, c) :: cs : List (Str × Addr)), p.1 ∉ r.map (·.1) := fun p hp => by
        rcases List.mem_cons.mp hp with e | hp
        · subst e; exact hnd.1
        · exact fun h => hcs p hp (by rw [List.map_cons]; exact List.mem_cons_of_mem _ h)
      obtain ⟨cl, e, a, b, d, f⟩ := closure_loop r ((n, c) :: cs) hnd.2 hf' hcs' hn'
      refine ⟨cl, ?_, a, fun p hp => ?_, fun x hx => ?_, fun x hx => ?_⟩
      · simp only [beq_self_eq_true, if_true, hcell, pure_bind]
        exact e
      · rcases b p hp with h | h
        · rcases List.mem_cons.mp h with e | h
          · subst e; exact .inr (mem_of_lookup hc)
          · exact .inl h
        · exact .inr h
      · rcases List.mem_cons.mp hx with e | hx
        · cases e
          rw [f n hnd.1, List.lookup_cons]
          simp [hc]
        · exact d x hx
      · rw [List.map_cons, List.mem_cons, not_or] at hx
        rw [f x hx.2, List.lookup_cons]
        simp only [show (x == n) = false by simpa using hx.1]
    · obtain ⟨cl, e, a, b, d, f⟩ := closure_loop r cs hnd.2 hf' (fun p hp h => hcs p hp (by rw [List.map_cons]; exact List.mem_cons_of_mem _ h)) hn
      refine ⟨cl, ?_, a, b, fun x hx => ?_, fun x hx => ?_⟩
      · simp only [show (k == NameKind.free) = false by simpa using hk, Bool.false_eq_true, if_false, pure_bind]
        exact e
      · rcases List.mem_cons.mp hx with e | hx
        · cases e; exact absurd rfl hk
        · exact d x hx
      · rw [List.map_cons, List.mem_cons, not_or] at hx
        exact f x hx.2

theorem closure_at {env : Env} {scope : Scope} (hnd : (scope.names.map (·.1)).Nodup) (hf : ∀ x, (x, NameKind.free) ∈ scope.names → ∃ c, env.cells.lookup x = some c) :
    ∃ cl, closureFor scope env = pure cl ∧ (cl.map (·.1)).Nodup ∧ (∀ p ∈ cl, p ∈ env.cells) ∧ (∀ x, (x, NameKind.free) ∈ scope.names → cl.lookup x = env.cells.lookup x) := by
  obtain ⟨cl, e, a, b, d, _⟩ := closure_loop (env := env) scope.names [] hnd hf (fun _ h => nomatch h) List.nodup_nil
  refine ⟨cl, ?_, a, fun p hp => (b p hp).elim (fun h => nomatch h) id, d⟩
  unfold closureFor
  refine Eq.trans ?_ e
  simp only [bind_pure]


theorem store_local {A : Around} {x : Str} {v : SV} (hk : G.ks.lookup x = some .local) {env : Env} {α : List Addr} {s : Shared} {u : Value} (S : Sto V α st s) (R : Var V G.ks G.cd env loc α s) (hr : Rep V s.heap α u v) :
    wpAny V.M A (storeName env x u) (fun _ s' => Step V [env.locals] α s α s' ∧ Sto V α st s' ∧ Var V G.ks G.cd env (setL x v loc) α s') NoE s := by
  obtain ⟨m, hn, hv⟩ := R.ns
  refine wpAny_storeName_local (by show env.scope.names.lookup x = _; rw [R.names]; exact hk) hn (fun h' hn' hs' => ?_) (by rw [R.kind]; rfl)
  have hm : ModsOK V [env.locals] α s := ⟨fun a ha => by simp at ha; subst ha; exact R.modsOK.at' _ List.mem_cons_self⟩
  have z := S.keep (s' := { s with heap := h', toks := s.toks + 1 }) (Keep.same hs') hm rfl rfl
  have hsoft := hm.soft
  refine ⟨z.2, z.1, R.names, R.kind, R.glob, R.blt, R.code, R.lo, R.nd, ⟨_, hn', fun y w h1 h2 => ?_⟩, fun y w h1 h2 => ?_, fun p hp => ?_, R.cn⟩
  · rw [setL_lookup] at h1
    by_cases hy : y = x
    · subst hy
      rw [if_pos rfl] at h1; cases h1
      exact ⟨u, if_pos rfl, hr.step z.2 hsoft⟩
    · rw [if_neg hy] at h1
      obtain ⟨u', hu', hr'⟩ := hv y w h1 h2
      exact ⟨u', (if_neg hy).trans hu', hr'.step z.2 hsoft⟩
  · rw [setL_lookup, if_neg (by rintro rfl; rw [hk] at h2; cases h2)] at h1
    obtain ⟨c, u', hc, hi, hr'⟩ := R.cl y w h1 h2
    refine ⟨c, u', hc, hi.sameBut hs' ?_, hr'.step z.2 hsoft⟩
    have := (List.nodup_cons.mp R.nd).1
    rintro rfl
    exact this (List.mem_map.mpr ⟨(y, env.locals), mem_of_lookup hc, rfl⟩)
  · obtain ⟨w, hw⟩ := R.cs p hp
    refine ⟨w, hw.sameBut hs' ?_⟩
    have := (List.nodup_cons.mp R.nd).1
    intro e
    exact this (List.mem_map.mpr ⟨p, hp, e⟩)


noncomputable def IfsOK (V : Cx) (G : Gm) (ifs : List Expr) (loc : Loc) (st : St) (b : Bool) : Prop :=
  Box (∀ (A : Around) (env : Env) (α : List Addr) (s : Shared), Rm A G.n → Sto V α st s → Var V G.ks G.cd env loc α s → wpAny V.M A (ifsSem ifs env) (ResB V α s st b) NoE s)
theorem IfsOK.nil : IfsOK V G [] loc st true := Box.mk fun A env α s _ S R => wpAny_tests_nil ⟨rfl, α, .refl, S⟩
theorem IfsOK.one {c : Expr} {b : Bool} (h : TsOK V G c loc st b st) : IfsOK V G [c] loc st b := Box.mk fun A env α s rm S R => wpAny_tests_one (h.out A env α s rm S R)


noncomputable def CpOK (V : Cx) (G : Gm) (C : St → Prop) (x : Str) (ifs : List Expr) (elt : Expr) (xs acc : List SV) (loc : Loc) (st : St) (res : List SV) : Prop :=
  Box (∀ (A : Around) (env : Env) (px : Pos) (iter : Expr) (scope : Scope) (pos : Pos) (α : List Addr) (s : Shared) (I D : Addr), Rm A G.n → Sto V α (st ++ [acc]) s → Var V G.ks G.cd env loc α s → I ∉ own env → α[st.length]? = some D → Feeds V A I [I] [env.locals] C (.Name x px) xs α s →
    codeAny V.M A (.compLoop (.ListComp elt [⟨.Name x px, iter, ifs, 0⟩] scope pos) 0 (.ref I) (.ref D) env) (fun r s' => r = .ok .next ∧ ∃ α', Step V [I, env.locals] α s α' s' ∧ Sto V α' (st ++ [res]) s' ∧ ∃ m, s'.heap.Ns env.locals m) s)

theorem CpOK.nil {C : St → Prop} {x : Str} {ifs : List Expr} {elt : Expr} {acc : List SV} (hC : C (st ++ [acc])) : CpOK V G C x ifs elt [] acc loc st acc := Box.mk fun A env px iter scope pos α s I D rm S R hI hD hF => by
  have hm : ModsOK V [env.locals] α s := ⟨fun a ha => by simp at ha; subst ha; exact R.modsOK.at' _ List.mem_cons_self⟩
  obtain ⟨hs, hw⟩ := hF α _ s .refl S hC hm (fun a ha => by simp at ha; subst ha; exact R.ex List.mem_cons_self)
  refine codeAny_comp1 (wpAny_mono hw (fun r s₁ hq_ => ?_) fun _ _ e => e)
  obtain ⟨e, X₁, S₁⟩ := hq_
  subst e
  have R₁ := R.go X₁ (fun a ha h => hI (by simp at h; exact h ▸ ha)) S.low.2 hs
  obtain ⟨m, hn, _⟩ := R₁.ns
  exact ⟨rfl, α, X₁.mem (fun a h => by simp at h; simp [h]), S₁, m, hn⟩

theorem CpOK.step {C : St → Prop} {x : Str} {ifs : List Expr} {elt : Expr} {y : SV} {xs acc acc' res : List SV} {b : Bool} (hk : G.ks.lookup x = some .local) (hC : C (st ++ [acc])) (hi : IfsOK V G ifs (setL x y loc) (st ++ [acc]) b)
    (he : if b = true then ∃ v, EvOK V G elt (setL x y loc) (st ++ [acc]) v (st ++ [acc]) ∧ acc' = acc ++ [v] ∧ acc.length ≤ sizeLine else acc' = acc)
    (hr : CpOK V G C x ifs elt xs acc' (setL x y loc) st res) : CpOK V G C x ifs elt (y :: xs) acc loc st res := Box.mk fun A env px iter scope pos α s I D rm S R hI hD hF => by
  have hm : ModsOK V [env.locals] α s := ⟨fun a ha => by simp at ha; subst ha; exact R.modsOK.at' _ List.mem_cons_self⟩
  obtain ⟨hs, hw⟩ := hF α _ s .refl S hC hm (fun a ha => by simp at ha; subst ha; exact R.ex List.mem_cons_self)
  refine codeAny_comp1 (wpAny_mono hw (fun r s₁' hq_ => ?_) fun _ _ e => e)
  obtain ⟨u, e, hl⟩ := hq_
  subst e
  refine wpAny_mono hl (fun _ s₁ hq_ => ?_) fun _ _ e => e
  obtain ⟨X₁, S₁, r₁, hF₁⟩ := hq_
  have R₁ := R.go X₁ (fun a ha h => hI (by simp at h; exact h ▸ ha)) S.low.2 hs
  rw [arm_assign_Name]
  refine wpAny_bind (wpAny_standAt (wpAny_bindName (wpAny_mono (store_local hk S₁ R₁ r₁) (fun _ s₂ hq_ => ?_) fun _ _ e => e)))
  obtain ⟨X₂, S₂, R₂⟩ := hq_
  refine wpAny_mono (hi.out A env α s₂ rm S₂ R₂) (fun b' s₃ hq_ => ?_) fun _ _ e => e
  obtain ⟨e, α₃, X₃, S₃⟩ := hq_
  subst e
  have R₃ := R₂.step X₃ S.low.2
  have fin : ∀ {α₄ : List Addr} {s₄ : Shared}, Step V [] α₃ s₃ α₄ s₄ → Sto V α₄ (st ++ [acc']) s₄ → codeAny V.M A (.compLoop (.ListComp elt [⟨.Name x px, iter, ifs, 0⟩] scope pos) 0 (.ref I) (.ref D) env) (fun r s' => r = .ok .next ∧ ∃ α', Step V [I, env.locals] α s α' s' ∧ Sto V α' (st ++ [res]) s' ∧ ∃ m, s'.heap.Ns env.locals m) s₄ := by
    intro α₄ s₄ X₄ S₄
    have Y : Step V [env.locals] α s₁ α₄ s₄ := X₂.trans ((X₃.trans X₄).up)
    have X : Step V [I, env.locals] α s α₄ s₄ := (X₁.mem (fun a h => by simp at h; simp [h])).trans (Y.mem (fun a h => by simp at h; simp [h]))
    have hF₄ : Feeds V A I [I] [env.locals] C (.Name x px) xs α₄ s₄ := by
      cases xs with
      | nil => exact fun α₅ st₅ s₅ Z S₅ c m ex => hF₁ α₅ st₅ s₅ (Y.trans Z) S₅ c m ex
      | cons y ys => exact fun α₅ st₅ s₅ Z S₅ c m ex => hF₁ α₅ st₅ s₅ (Y.trans Z) S₅ c m ex
    exact codeAny_mono (hr.out A env px iter scope pos α₄ s₄ I D rm S₄ (R₃.step X₄ S.low.2) hI ((X₂.trans (X₃.trans X₄).up).idx hD) hF₄) fun r s' ⟨e, α', Z, q⟩ => ⟨e, α', X.trans Z, q⟩
  cases b' with
  | false =>
    rw [if_neg Bool.false_ne_true] at he
    subst he
    exact fin .refl S₃
  | true =>
    rw [if_pos rfl] at he
    obtain ⟨v, hv, rfl, hz⟩ := he
    refine wpAny_mono (hv.out A env α₃ s₃ rm S₃ R₃) (fun u' s₄ hq_ => ?_) fun _ _ e => e
    obtain ⟨α₄, X₄, S₄, r₄⟩ := hq_
    have hD₄ : α₄[st.length]? = some D := ((X₂.trans (X₃.trans X₄).up)).idx hD
    obtain ⟨a, vs, ha, hl', hr'⟩ := S₄.cell st.length acc (by simp)
    rw [hD₄] at ha; cases ha
    refine wpAny_mono (append_at S₄ (by simp) hD₄ hl' hr' r₄ hz) (fun _ s₅ hq_ => ?_) fun _ _ e => e
    obtain ⟨α₅, X₅, S₅, _⟩ := hq_
    have e2 : (st ++ [acc]).set st.length (acc ++ [v]) = st ++ [acc ++ [v]] := by simp
    rw [e2] at S₅
    exact fin (X₄.trans X₅) S₅


mutual
noncomputable def calm (n : Nat) : SV → Bool
  | .obj i => decide (i < n)
  | .app i => decide (i < n)
  | .lst xs => calms n xs
  | .tup xs => calms n xs
  | _ => true
noncomputable def calms (n : Nat) : List SV → Bool
  | [] => true
  | x :: xs => calm n x && calms n xs
end
mutual
theorem calm.fz {n : Nat} {st : St} : ∀ {x : SV}, calm n x = true → Fz n st x x
  | .none, _ => .none
  | .bool b, _ => .bool b
  | .int i, _ => .int i
  | .str s, _ => .str s
  | .val v, _ => .val v
  | .gl x, _ => .gl x
  | .obj i, h => .obj i (by simpa [calm] using h)
  | .app i, h => .app i (by simpa [calm] using h)
  | .book, _ => .book
  | .lst xs, h => .lst xs xs (calms.fz (by simpa [calm] using h))
  | .tup xs, h => .tup xs xs (calms.fz (by simpa [calm] using h))
  | .any, _ => .any _
theorem calms.fz {n : Nat} {st : St} : ∀ {xs : List SV}, calms n xs = true → Fzs n st xs xs
  | [], _ => .nil
  | x :: xs, h => by
    rw [calms, Bool.and_eq_true] at h
    exact .cons x x xs xs (calm.fz h.1) (calms.fz h.2)
end


noncomputable def HdL (V : Cx) (st : St) (a : SV) (C : St → Prop) (xs : List SV) : Prop :=
  Box (∀ (α : List Addr) (s : Shared) (u : Value), Sto V α st s → Rep V s.heap α u a → ∃ l, u = .ref l ∧ Src V C l xs α s)
theorem HdL.lst {xs : List SV} : HdL V st (.lst xs) (fun _ => True) xs := Box.mk fun α s u S r => by
  obtain ⟨a, vs, rfl, hl, h1, h2, hr⟩ := r.inv
  exact ⟨a, rfl, .inl ⟨h1, h2, vs, hl, hr⟩⟩
theorem HdL.obj {i : Nat} {xs : List SV} : HdL V st (.obj i) (fun st => st[i]? = some xs) xs := Box.mk fun α s u S r => by
  obtain ⟨a, rfl, e⟩ := r.inv
  exact ⟨a, rfl, .inr ⟨i, e, fun _ h => h⟩⟩

theorem compKs_lookup {ks : List (Str × NameKind)} {x : Str} {k : NameKind} : ∀ {names : List (Str × NameKind)}, (compKs ks names).lookup x = some k → (names.lookup x = some k) ∨ (names.lookup x = some .free ∧ k = .cell ∧ ks.lookup x = some .cell)
  | [], h => by simp [compKs] at h
  | (y, j) :: names, h => by
    unfold compKs at h
    rw [List.map_cons] at h
    rw [List.lookup_cons]
    by_cases hy : x = y
    · subst hy
      simp only [beq_self_eq_true]
      dsimp only at h
      by_cases hc : (j == .free && ks.lookup x == some .cell) = true
      · rw [if_pos hc, List.lookup_cons] at h
        simp only [beq_self_eq_true, Option.some.injEq] at h
        rw [Bool.and_eq_true, beq_iff_eq, beq_iff_eq] at hc
        exact .inr ⟨by rw [hc.1], h.symm, hc.2⟩
      · rw [if_neg hc, List.lookup_cons] at h
        simp only [beq_self_eq_true, Option.some.injEq] at h
        exact .inl (by rw [h])
    · simp only [show (x == y) = false by simpa using hy]
      dsimp only at h
      split at h
      · rw [List.lookup_cons, show (x == y) = false by simpa using hy] at h
        exact compKs_lookup (names := names) h
      · rw [List.lookup_cons, show (x == y) = false by simpa using hy] at h
        exact compKs_lookup (names := names) h

theorem nodup_addr {cells : List (Str × Addr)} (inj : ∀ p q : Str × Addr, p ∈ cells → q ∈ cells → p.2 = q.2 → p = q) : ∀ (cl : List (Str × Addr)), (cl.map (·.1)).Nodup → (∀ p ∈ cl, p ∈ cells) → (cl.map (·.2)).Nodup
  | [], _, _ => List.nodup_nil
  | p :: cl, cn1, cn2 => by
    rw [List.map_cons, List.nodup_cons] at cn1 ⊢
    refine ⟨fun h => ?_, nodup_addr inj cl cn1.2 (fun q hq => cn2 q (List.mem_cons_of_mem _ hq))⟩
    obtain ⟨q, hq, e⟩ := List.mem_map.mp h
    have := inj q p (cn2 q (List.mem_cons_of_mem _ hq)) (cn2 p List.mem_cons_self) e
    subst this
    exact cn1.1 (List.mem_map.mpr ⟨q, hq, rfl⟩)

theorem comp_core {elt iter : Expr} {x : Str} {px : Pos} {ifs : List Expr} {scope : Scope} {pos p2 : Pos} {a : SV} {C : St → Prop} {xs res : List SV} (hi : EvOK V G iter loc st a st₁) (hh : HdL V st₁ a C xs)
    (hC : ∀ ys, C (st₁ ++ [ys])) (hkind : scope.kind = .function) (hnd : (scope.names.map (·.1)).Nodup) (hcell : ∀ y ∈ scope.names, y.2 ≠ .cell) (hloc : ∀ y ∈ scope.names, y.2 = .local → scope.names.lookup y.1 = some .local)
    (hfree : ∀ y, (y, NameKind.free) ∈ scope.names → G.ks.lookup y = some .cell)
    (hloop : CpOK V ⟨G.n, compKs G.ks scope.names, G.cd⟩ C x ifs elt xs [] (locC (compKs G.ks scope.names) loc) st₁ res) (hcalm : calms st₁.length res = true) (hs : ∀ env v, foldedSetIterable iter env v = pure v)
    {A : Around} {env : Env} {α : List Addr} {s : Shared} {use : Option (Value → Sem Unit)} {Q : Value → Shared → Prop} (rm : Rm A G.n) (S : Sto V α st s) (R : Var V G.ks G.cd env loc α s)
    (hq : ∀ (β : List Addr) (s' : Shared) (CC : Addr) (acc : Value), Step V [] α s β s' → Sto V β st₁ s' → Rep V s'.heap β acc (.lst res) → (∃ m, s'.heap.Ns CC m) → V.h₀.objs.size ≤ CC → CC ∉ β → (∀ p ∈ V.fixed, p.1 ≠ CC) → s.heap.objs.size ≤ CC →
      compPost V.M A NoE use Q acc CC (.ok .next) s') :
    wpAny V.M A (comprehension (.ListComp elt [⟨.Name x px, iter, ifs, 0⟩] scope pos) scope env p2 (newList []) false (eval iter env) use) Q NoE s := by
  obtain ⟨cl, hcl, cn1, cn2, cn3⟩ := closure_at (env := env) hnd (fun y hy => R.cn y (hfree y hy))
  refine wpAny_comprehension_free (use := use) rfl (hs env) hcl hkind hloc ?_
  refine wpAny_mono (hi.out A env α s rm S R) (fun u s₁ hq_ => ?_) fun _ _ e => e
  obtain ⟨β, X₁, S₁, r₁⟩ := hq_
  obtain ⟨l, rfl, hsrc⟩ := hh.out β s₁ u S₁ r₁
  have R₁ := R.step X₁ S.low.2
  have hc1 := hC []
  obtain ⟨vs, hl, hr⟩ : ∃ vs : List Value, s₁.heap.IsList l vs.toArray ∧ Reps V s₁.heap β vs xs := by
    rcases hsrc with ⟨h1, h2, vs, hl, hr⟩ | ⟨i, hi, hc⟩
    · exact ⟨vs, hl.isList, hr⟩
    · have hx := hc _ hc1
      have hil : i < st₁.length := by rw [← S₁.len]; exact (List.getElem?_eq_some_iff.mp hi).1
      rw [List.getElem?_append_left hil] at hx
      obtain ⟨a, vs, ha, hl, hr⟩ := S₁.cell i xs hx
      rw [hi] at ha; cases ha
      exact ⟨vs, hl.isList, hr⟩
  refine wpAny_pyIter_list hl ?_
  generalize hI : s₁.heap.objs.size = I
  have z := S₁.grow (h' := s₁.heap.push { cls := .type "list_iterator", data := .fields #[.ref l, .int 0 0] }) s₁.toks (fun b o' e => Heap.get?_push_of_some _ e) (by rw [Heap.size_push]; omega)
  generalize hs₂ : ({ s₁ with heap := s₁.heap.push { cls := .type "list_iterator", data := .fields #[.ref l, .int 0 0] } } : Shared) = s₂ at z ⊢
  have hIt : s₂.heap.IsListIter I l 0 := by rw [← hs₂, ← hI]; exact ⟨_, Heap.get?_push_size _ rfl, rfl, rfl⟩
  have hIβ : I ∉ β := hI ▸ S₁.newAt.1
  have hI2 : I < s₂.heap.objs.size := by rw [← hs₂, ← hI]; show _ < (s₁.heap.push _).objs.size; rw [Heap.size_push]; exact Nat.lt_succ_self _
  have X₂ := X₁.trans z.2
  have R₂ := R₁.step z.2 S.low.2
  have hsrc₂ := hsrc.step z.2 fun _ h => nomatch h
  refine wpAny_newList (items := []) (hsz := Nat.zero_le _) ?_
  obtain ⟨z1, z2, z3⟩ := z.1.new (o := { cls := .type "list", data := .seq ([] : List Value).toArray }) (n := 0) (vs := []) (xs := []) rfl .nil s₂.toks
  generalize hD : s₂.heap.objs.size = D at z1 z2 z3 ⊢
  generalize hs₃ : ({ s₂ with heap := s₂.heap.push { cls := .type "list", data := .seq ([] : List Value).toArray }, toks := s₂.toks } : Shared) = s₃ at z1 z2 z3
  have R₃ := R₂.step z2 S.low.2
  have hz3 : s₃.heap.objs.size = D + 1 := by rw [← hs₃, ← hD]; exact Heap.size_push ..
  refine wpAny_newFunctionEnv hcell (by intro y hy; simp at hy) (fun h₄ hns hsb => ?_) hkind
  generalize hCC : s₃.heap.objs.size = CC at hns hsb
  have hk4 : ∀ b o, s₃.heap.get? b = some o → h₄.get? b = some o := fun b o e => (hsb.2 b (fun q => Nat.lt_irrefl _ (Nat.lt_of_lt_of_le (q ▸ Heap.lt_size e) (Nat.le_of_eq hCC)))).trans (Heap.get?_push_of_some _ e)
  have hz4 : s₃.heap.objs.size ≤ h₄.objs.size := by rw [hsb.1, Heap.size_push]; omega
  have q := z1.grow (h' := h₄) s₃.toks hk4 hz4
  have X₃ := (X₂.trans z2).trans q.2
  have R₄ := R₃.step q.2 S.low.2
  have hcl2 : ∀ c ∈ cl.map (·.2), c ∈ own env := fun c hc => by
    obtain ⟨p, hp, rfl⟩ := List.mem_map.mp hc
    exact List.mem_cons_of_mem _ (List.mem_map.mpr ⟨p, cn2 p hp, rfl⟩)
  have hCg : ∀ c ∈ own env, c < CC := fun c hc => by rw [← hCC]; exact R₃.lt hc
  have hCh : V.h₀.objs.size ≤ CC := hCC ▸ z1.size
  have R₅ : Var V (compKs G.ks scope.names) G.cd (compEnvC scope cl CC env) (locC (compKs G.ks scope.names) loc) (β ++ [D]) { s₃ with heap := h₄, toks := s₃.toks } := by
    refine ⟨?_, hkind, R.glob, R.blt, R.code, fun c hc => ?_, ?_, ⟨_, hns, fun y v h1 h2 => ?_⟩, fun y v h1 h2 => ?_, fun p hp => R₄.cs p (cn2 p hp), fun y hy => ?_⟩
    · show (relabel scope env).names = _
      unfold relabel compKs
      simp only [R.kind, Env.kindOf, R.names, beq_self_eq_true, Bool.and_true]
    · rcases List.mem_cons.mp hc with e | hc
      · have e : c = CC := e
        subst e
        exact ⟨hCh, hCC ▸ z1.newAt.1, fun p hp e => Nat.lt_irrefl _ (e ▸ hCC ▸ Heap.lt_size (z1.fix p hp).1)⟩
      · exact R₄.lo c (hcl2 c hc)
    · refine List.nodup_cons.mpr ⟨fun h => Nat.lt_irrefl _ (hCg _ (hcl2 _ h)), ?_⟩
      show (cl.map (·.2)).Nodup
      exact nodup_addr (cells_inj R) cl cn1 cn2
    · have := (locC_lookup h1).1
      rw [h2] at this; cases this
    · obtain ⟨_, h1'⟩ := locC_lookup h1
      rcases compKs_lookup h2 with h | ⟨h, _, h3⟩
      · exact absurd rfl (hcell _ (mem_of_lookup h))
      · obtain ⟨c, u, hc, hi, hr⟩ := R₄.cl y v h1' h3
        exact ⟨c, u, (cn3 y (mem_of_lookup h)).trans hc, hi, hr⟩
    · rcases compKs_lookup hy with h | ⟨h, _, h3⟩
      · exact absurd rfl (hcell _ (mem_of_lookup h))
      · obtain ⟨c, hc⟩ := R.cn y h3
        exact ⟨c, (cn3 y (mem_of_lookup h)).trans hc⟩
  have hICC : I ≠ CC := fun e => by rw [e, ← hCC, hz3] at hI2; omega
  have hIown : I ∉ own (compEnvC scope cl CC env) := fun h => by
    rcases List.mem_cons.mp h with e | h
    · exact hICC e
    · have := R₁.lt (hcl2 _ h)
      rw [hI] at this
      exact Nat.lt_irrefl _ this
  have hIα : I ∉ β ++ [D] := fun h => by
    rcases List.mem_append.mp h with h | h
    · exact hIβ h
    · simp at h; exact Nat.lt_irrefl _ (h ▸ hD ▸ hI2)
  have hI₄ : h₄.IsListIter I l 0 := by
    obtain ⟨o, a, b⟩ := hIt
    refine ⟨o, hk4 _ _ (by rw [← hs₃]; exact Heap.get?_push_of_some _ a), b⟩
  have hsrc₄ := (hsrc₂.step z2 fun _ h => nomatch h).step q.2 fun _ h => nomatch h
  have hm₄ : ModsOK V [CC] (β ++ [D]) { s₃ with heap := h₄, toks := s₃.toks } := ⟨fun a ha => by simp at ha; subst ha; exact R₅.modsOK.at' _ List.mem_cons_self⟩
  have hF : Feeds V A I [I] [CC] C (.Name x px) xs (β ++ [D]) { s₃ with heap := h₄, toks := s₃.toks } :=
    feeds_list rm.hd (by simpa using hICC) (hI ▸ S₁.size) (fun p hp e => Nat.lt_irrefl _ (e ▸ hI ▸ Heap.lt_size (S₁.fix p hp).1)) S.low.2 xs 0 _ _ rfl hI₄ hIα hm₄ hsrc₄
  have hloop' : codeAny V.M A (.compLoop (.ListComp elt [⟨.Name x px, iter, ifs, 0⟩] scope pos) 0 (.ref I) (.ref D) (compEnvC scope cl CC env)) (compPost V.M A NoE use Q (.ref D) CC) { s₃ with heap := h₄, toks := s₃.toks } := by
    refine codeAny_mono (hloop.out A (compEnvC scope cl CC env) px iter scope pos _ _ I D rm q.1 R₅ hIown z3 hF) fun r s' ⟨e, α', Y, S', m, hn⟩ => ?_
    subst e
    have W : Step V [I, CC] α s α' s' := X₃.up.trans Y
    have hs1 := X₁.size
    have hCs : s.heap.objs.size ≤ CC := by rw [← hCC]; exact Nat.le_trans hs1 (Nat.le_trans z.2.size z2.size)
    have W' : Step V [] α s α' s' := W.mods fun a ha => .inr (by
      simp at ha
      rcases ha with rfl | rfl
      · rw [← hI]; exact hs1
      · exact hCs)
    obtain ⟨new, e1, _⟩ := (((z.2.trans z2).trans q.2).up (mods := [I, CC])).trans Y |>.ext
    have hDa : α'[st₁.length]? = some D := Y.idx z3
    have hCα : CC ∉ α' := fun h => by
      obtain ⟨new, e1, e2⟩ := Y.ext
      rw [e1] at h
      rcases List.mem_append.mp h with h | h
      · exact (R₅.lo CC List.mem_cons_self).2.1 h
      · have := e2 _ h
        have h5 : h₄.objs.size = CC + 1 := by rw [hsb.1, Heap.size_push, hCC]
        have h6 : h₄.objs.size ≤ CC := this
        omega
    subst e1
    refine hq β s' CC (.ref D) ⟨W'.kept, W'.size, X₁.ext⟩ (S'.drop S₁.len S₁.self S₁.bkl) ?_ ⟨m, hn⟩ hCh (fun h => hCα (List.mem_append_left _ h)) (R₅.lo CC List.mem_cons_self).2.2 hCs
    have ic := S'.ice
    refine Fz.sound ic (x := .obj st₁.length) (.ice st₁.length res res ?_ (by simp) ?_) (.obj _ _ hDa)
    · rw [S₁.len]; exact Nat.le_refl _
    · rw [S₁.len]; exact calms.fz hcalm
  exact codeAny_compStart_list hloop' (wpAny_pyIter_listiter hI₄ hloop')


theorem comp_gone {β : List Addr} {s' : Shared} {CC : Addr} {m : Str → Option Value} {h' : Heap} (S' : Sto V β st s') (hn : s'.heap.Ns CC m) (h0 : V.h₀.objs.size ≤ CC) (hα : CC ∉ β) (hf : ∀ p ∈ V.fixed, p.1 ≠ CC) (hs' : Heap.SameBut CC s'.heap h') :
    Sto V β st { s' with heap := h' } ∧ Step V [CC] β s' β { s' with heap := h' } := by
  have hm' : ModsOK V [CC] β s' := by
    obtain ⟨o', es, ep, e', hd, _⟩ := id hn
    refine ⟨fun a ha => ?_⟩
    have ha := List.mem_singleton.mp ha
    rw [ha]
    refine ⟨h0, hα, hf, fun o e => ?_⟩
    rw [show s'.heap.get? CC = some o' from e'] at e; cases e
    exact .inl ⟨es, ep, hd⟩
  exact S'.keep (s' := { s' with heap := h' }) (Keep.same hs') hm' rfl rfl

theorem EvOK.comp {elt iter : Expr} {x : Str} {px : Pos} {ifs : List Expr} {scope : Scope} {pos : Pos} {a : SV} {C : St → Prop} {xs res : List SV} (hi : EvOK V G iter loc st a st₁) (hh : HdL V st₁ a C xs)
    (hC : ∀ ys, C (st₁ ++ [ys])) (hkind : scope.kind = .function) (hnd : (scope.names.map (·.1)).Nodup) (hcell : ∀ y ∈ scope.names, y.2 ≠ .cell) (hloc : ∀ y ∈ scope.names, y.2 = .local → scope.names.lookup y.1 = some .local)
    (hfree : ∀ y, (y, NameKind.free) ∈ scope.names → G.ks.lookup y = some .cell)
    (hloop : CpOK V ⟨G.n, compKs G.ks scope.names, G.cd⟩ C x ifs elt xs [] (locC (compKs G.ks scope.names) loc) st₁ res) (hcalm : calms st₁.length res = true) (hs : ∀ env v, foldedSetIterable iter env v = pure v) :
    EvOK V G (.ListComp elt [⟨.Name x px, iter, ifs, 0⟩] scope pos) loc st (.lst res) st₁ := Box.mk fun A env α s rm S R => by
  rw [eval_ListComp]
  refine comp_core hi hh hC hkind hnd hcell hloc hfree hloop hcalm hs rm S R fun β s' CC acc X S' r hn h0 hα hf hsz => ?_
  obtain ⟨m, hn⟩ := hn
  refine ⟨m, hn, fun h' hs' => ?_⟩
  have z := comp_gone S' hn h0 hα hf hs'
  have hsoft : ∀ a ∈ [CC], ∀ o, s'.heap.get? a = some o → Soft o := fun a ha o e => by
    obtain ⟨o', es, ep, e', hd, _⟩ := id hn
    rw [List.mem_singleton.mp ha, e'] at e
    cases e
    exact .inl ⟨es, ep, hd⟩
  exact ⟨β, (X.up.trans z.2).mods fun a ha => .inr (by simp at ha; subst ha; exact hsz), z.1, r.step z.2 hsoft⟩


theorem StOK.asComp {elt iter : Expr} {x y : Str} {px py : Pos} {ifs : List Expr} {scope : Scope} {pos spos : Pos} {a : SV} {C : St → Prop} {xs res : List SV} (hi : EvOK V G iter loc st a st₁) (hh : HdL V st₁ a C xs)
    (hC : ∀ ys, C (st₁ ++ [ys])) (hkind : scope.kind = .function) (hnd : (scope.names.map (·.1)).Nodup) (hcell : ∀ y ∈ scope.names, y.2 ≠ .cell) (hloc : ∀ y ∈ scope.names, y.2 = .local → scope.names.lookup y.1 = some .local)
    (hfree : ∀ y, (y, NameKind.free) ∈ scope.names → G.ks.lookup y = some .cell)
    (hloop : CpOK V ⟨G.n, compKs G.ks scope.names, G.cd⟩ C x ifs elt xs [] (locC (compKs G.ks scope.names) loc) st₁ res) (hcalm : calms st₁.length res = true) (hs : ∀ env v, foldedSetIterable iter env v = pure v)
    (hk : G.ks.lookup y = some .local) (hl : (py.line == pos.line) = true) (hnot : (scope.names.any fun (n, k) => n == y && (k == .local || k == .cell)) = false) :
    StOK V G (.Assign [.Name y py] (.ListComp elt [⟨.Name x px, iter, ifs, 0⟩] scope pos) spos) loc st .next (setL y (.lst res) loc) st₁ := Box.mk fun A env α s rm S R => by
  have hsw : swapsWith (.ListComp elt [⟨.Name x px, iter, ifs, 0⟩] scope pos) (some (.Name y py)) spos.line env = pure true := by
    have h1 : env.kindOf y = some .local := by show env.scope.names.lookup y = _; rw [R.names]; exact hk
    have h2 : env.blockKind = .function := by unfold Env.blockKind; rw [R.kind]; rfl
    show pure (env.blockKind == .function && env.kindOf y == some .local && py.line == pos.line && !(scope.names.any fun (n, k) => n == y && (k == .local || k == .cell))) = (pure true : Sem Bool)
    rw [h1, h2, hl, hnot]; rfl
  rw [exec_Assign_Name_used _ _ _ _ hsw]
  refine wpAny_bind (wpAny_standAt (wpAny_bind ?_))
  rw [arm_evalThenUse_ListComp]
  refine wpAny_bind (comp_core (use := some (PySem.assign (Expr.Name y py) env)) hi hh hC hkind hnd hcell hloc hfree hloop hcalm hs rm S R fun β s' CC acc X S' r hn h0 hα hf hsz => ?_)
  obtain ⟨m, hn⟩ := hn
  have hCo : CC ∉ own env := fun h => Nat.lt_irrefl _ (Nat.lt_of_lt_of_le (R.lt h) hsz)
  refine wpAny_mono ((AsOK.name (st := st₁) (SnOK.lcl (v := .lst res) hk)).out A env β s' acc rm S' (R.step X S.low.2) r) (fun _ s'' hq_ => ?_) fun _ _ e => e
  obtain ⟨γ, Y, S'', R''⟩ := hq_
  have hn'' : s''.heap.Ns CC m := by
    obtain ⟨o, es, ep, e, r⟩ := hn
    exact ⟨o, es, ep, Y.kept CC o e hCo hα (ne_hi h0 S.low.2), r⟩
  have hCγ : CC ∉ γ := by
    obtain ⟨o, es, ep, e, _⟩ := hn
    exact Y.notin e hα
  refine ⟨m, hn'', fun h' hs' => ?_⟩
  have z := comp_gone S'' hn'' h0 hCγ hf hs'
  have hsoft : ∀ a ∈ [CC], ∀ o, s''.heap.get? a = some o → Soft o := fun a ha o e => by
    obtain ⟨o', es, ep, e', hd, _⟩ := id hn''
    rw [List.mem_singleton.mp ha, e'] at e
    cases e
    exact .inl ⟨es, ep, hd⟩
  refine wpAny_pure (wpAny_pure ⟨γ, ?_, z.1, R''.go z.2 (fun a ha h => hCo (List.mem_singleton.mp h ▸ ha)) S.low.2 hsoft, .next⟩)
  have W : Step V (CC :: own env) α s γ { s'' with heap := h' } := X.up.trans ((Y.mem (fun a h => List.mem_cons_of_mem _ h)).trans (z.2.mem (fun a h => by simp at h; simp [h])))
  exact W.mods fun a ha => by
    rcases List.mem_cons.mp ha with rfl | ha
    · exact .inr hsz
    · exact .inl ha
end
end Mine
end

section
open PySem PySem.Calls PyProof.Rows
set_option maxRecDepth 100000
namespace Mine
local macro_rules | `(tactic| omega) => `(tactic| lia)
section
variable {V : Cx} {G : Gm} {loc loc₁ loc₂ : Loc} {st st₁ st₂ st₃ : St} {n : Nat}

theorem CallOK.typeStr {x : Str} : CallOK V n (.val (.type "type")) [.str x] [] st (.val (.type "str")) st := Box.mk fun A α s fv us ks rm S rf r rk => by
  (first | obtain rfl := rf.inv | (obtain ⟨_, rfl⟩ := rf.inv) | (obtain ⟨_, rfl, _⟩ := rf.inv) | cases rf); (first | obtain rfl := rk.inv | (obtain ⟨_, rfl⟩ := rk.inv) | (obtain ⟨_, rfl, _⟩ := rk.inv) | cases rk)
  obtain ⟨u, us, rfl, ru, rs⟩ := r.inv
  (first | obtain rfl := rs.inv | (obtain ⟨_, rfl⟩ := rs.inv) | (obtain ⟨_, rfl, _⟩ := rs.inv) | cases rs)
  (first | obtain rfl := ru.inv | (obtain ⟨_, rfl⟩ := ru.inv) | (obtain ⟨_, rfl, _⟩ := ru.inv) | cases ru)
  exact call_type_of (typeIs_str _ _ _) (by decide) (Res.here S (.val _))
theorem CallOK.typeLst {a : SV} {xs : List SV} (ha : asL st a = some xs) : CallOK V n (.val (.type "type")) [a] [] st (.val (.type "list")) st := Box.mk fun A α s fv us ks rm S rf r rk => by
  (first | obtain rfl := rf.inv | (obtain ⟨_, rfl⟩ := rf.inv) | (obtain ⟨_, rfl, _⟩ := rf.inv) | cases rf); (first | obtain rfl := rk.inv | (obtain ⟨_, rfl⟩ := rk.inv) | (obtain ⟨_, rfl, _⟩ := rk.inv) | cases rk)
  obtain ⟨u, us, rfl, ru, rs⟩ := r.inv
  (first | obtain rfl := rs.inv | (obtain ⟨_, rfl⟩ := rs.inv) | (obtain ⟨_, rfl, _⟩ := rs.inv) | cases rs)
  obtain ⟨l, vs, rfl, hl, hr⟩ := asL_lst S ru ha
  exact call_type_of hl.isList.typeIs (by decide) (Res.here S (.val _))

theorem kind_iscn : builtinKind "issubclass.nested" = none := by decide +kernel
theorem plain_iscn : plainId "issubclass.nested" = true := by decide +kernel
theorem args_iscn_3 (a b c : Value) : argsOk "issubclass.nested" ⟨[a, b, c], []⟩ := by unfold argsOk; kernel_rfl
theorem ty_str : typeOf (.type "str") = pure (.type "type") := by kernel_rfl

section
variable {prog : Program} {w : World} {A : Around} {E : Value → Shared → Prop}
theorem iscn_str {k : Value} {dep : Int} {tk : Tok} {s : Shared} {Q : Fin → Shared → Prop} (hk : k = .int dep tk) (hq : Q (.done (.ret (.bool true))) s) :
    wpAny (model prog w) A (Builtin.«issubclass.nested» ⟨[.type "str", .type "str", k], []⟩) Q E s := by
  subst hk
  have hm := ty_str
  have hself := isSubtype_str_str
  have hty := F.isi_sub_tuple
  repeat (any_goals (first | assumption | (rw [if_pos hm]) | (rw [hself]) | wp_step))
theorem iscn_tup {tp : Addr} {o : Obj} {c : Value} {items : Array Value} {k : Nat} {tk : Tok} {s : Shared} {Q : Fin → Shared → Prop} (ho : s.heap.get? tp = some o) (hc : o.cls = .type "tuple") (hd : o.data = .seq items k) (hi : items.toList = [.type "str", c]) (hq : Q (.done (.ret (.bool true))) s) :
    wpAny (model prog w) A (Builtin.«issubclass.nested» ⟨[.type "str", .ref tp, .int 0 tk], []⟩) Q E s := by
  obtain ⟨h, g, d, t, os⟩ := s
  have hT2 : (⟨h, g, d, t, os⟩ : Shared).TypeIs (.ref tp) "tuple" := ⟨_, ho, hc⟩
  have f1 := F.isi_sub_tuple
  obtain ⟨cls, dict, data, slots⟩ := o
  simp only at hc hd
  subst hc hd
  repeat (any_goals (first | assumption | wp_step))
  refine wpAny_arrayLoop ?_
  simp only [Option.getD_some, hi]
  rw [List.forIn_cons]
  refine wpAny_bind (wpAny_bind (call_function_meets (S := fun _ R s => R (.ok (.ret (.bool true))) s) kind_iscn plain_iscn F.entry_issubclass_nested (args_iscn_3 _ _ _) (.of_wp fun prog w A R s h => iscn_str rfl ⟨_, rfl, h⟩) ?_))
  show wpAny _ _ (truthy (.bool true) >>= _) _ _ _
  refine wpAny_bind (m := truthy (.bool true)) (wpAny_pure ?_)
  refine wpAny_bind (wpAny_pure (wpAny_pure (wpAny_pure ?_)))
  exact wpAny_pure hq
end

theorem CallOK.iscStr {c : SV} : CallOK V n (.val (.builtin "issubclass")) [.val (.type "str"), .tup [.val (.type "str"), c]] [] st (.bool true) st := Box.mk fun A α s fv us ks rm S rf r rk => by
  (first | obtain rfl := rf.inv | (obtain ⟨_, rfl⟩ := rf.inv) | (obtain ⟨_, rfl, _⟩ := rf.inv) | cases rf); (first | obtain rfl := rk.inv | (obtain ⟨_, rfl⟩ := rk.inv) | (obtain ⟨_, rfl, _⟩ := rk.inv) | cases rk)
  obtain ⟨u, us, rfl, ru, rs⟩ := r.inv; obtain ⟨u', us', rfl, ru', rs'⟩ := rs.inv
  (first | obtain rfl := rs'.inv | (obtain ⟨_, rfl⟩ := rs'.inv) | (obtain ⟨_, rfl, _⟩ := rs'.inv) | cases rs'); (first | obtain rfl := ru.inv | (obtain ⟨_, rfl⟩ := ru.inv) | (obtain ⟨_, rfl, _⟩ := ru.inv) | cases ru)
  obtain ⟨a, vs, o, n, rfl, e, hc, hd, h1, h2, hr⟩ := ru'.inv
  obtain ⟨u1, us1, rfl, r1, rs1⟩ := hr.inv; obtain ⟨u2, us2, rfl, r2, rs2⟩ := rs1.inv
  (first | obtain rfl := rs2.inv | (obtain ⟨_, rfl⟩ := rs2.inv) | (obtain ⟨_, rfl, _⟩ := rs2.inv) | cases rs2); (first | obtain rfl := r1.inv | (obtain ⟨_, rfl⟩ := r1.inv) | (obtain ⟨_, rfl, _⟩ := r1.inv) | cases r1)
  refine call_issubclass (S := fun _ R s' => s'.heap.get? a = some o ∧ R (.ok (.ret (.bool true))) s') (fun prog w A R s' hs => issubclass_outer (iscn_tup hs.1 hc hd rfl hs.2)) ⟨e, Res.here S (.bool _)⟩

theorem ints_reps {h : Heap} {α : List Addr} : ∀ {ns : List Int} {vs : List Value}, Reps V h α vs (ns.map .int) → ∃ xs : List (Int × Tok), vs = xs.map (fun p => .int p.1 p.2) ∧ xs.map (·.1) = ns := by
  intro ns
  induction ns with
  | nil => intro vs r; obtain rfl : vs = [] := r.inv; exact ⟨[], rfl, rfl⟩
  | cons x ns ih =>
    intro vs r
    obtain ⟨u, us, rfl, r, rs⟩ := (id r : Reps V h α vs (.int x :: ns.map .int)).inv
    obtain ⟨t, rfl⟩ := Rep.inv ‹Rep V h α u (.int x)›
    obtain ⟨l, e1, e2⟩ := ih rs
    exact ⟨(x, t) :: l, by rw [e1]; rfl, by rw [List.map_cons, e2]⟩

theorem CallOK.minInts {a : SV} {ns : List Int} {m : Int} (ha : asL st a = some (ns.map .int)) (hm : m ∈ ns) (hmin : ∀ x ∈ ns, m ≤ x) : CallOK V n (.val (.builtin "min")) [a] [] st (.int m) st := Box.mk fun A α s fv us ks rm S rf r rk => by
  (first | obtain rfl := rf.inv | (obtain ⟨_, rfl⟩ := rf.inv) | (obtain ⟨_, rfl, _⟩ := rf.inv) | cases rf); (first | obtain rfl := rk.inv | (obtain ⟨_, rfl⟩ := rk.inv) | (obtain ⟨_, rfl, _⟩ := rk.inv) | cases rk)
  obtain ⟨u, us, rfl, ru, rs⟩ := r.inv
  (first | obtain rfl := rs.inv | (obtain ⟨_, rfl⟩ := rs.inv) | (obtain ⟨_, rfl, _⟩ := rs.inv) | cases rs)
  obtain ⟨l, vs, rfl, hl, hr⟩ := asL_lst S ru ha
  obtain ⟨xs, rfl, rfl⟩ := ints_reps hr
  have e : (xs.map (fun p => Value.int p.1 p.2)).toArray = intItems xs.toArray := by simp [intItems]
  have hl' := hl.isList
  rw [e] at hl'
  have hne : 0 < xs.length := by
    cases xs with
    | nil => cases hm
    | cons => simp
  refine wsize (min_intList rm.hd hl' (by simpa using hne) fun v h' tk hv hk hz => ?_)
  obtain ⟨t, rfl⟩ := intItems_at hv
  obtain ⟨h1, h2⟩ := argBest_lt (numAt xs.toArray) (xs.toArray.size - 1)
  have hns : xs.map (·.1) = xs.toArray.toList.map (·.1) := rfl
  have hsz : 0 < xs.toArray.size := by simpa using hne
  have hM : numAt xs.toArray (argBest (fun i j => decide (numAt xs.toArray i < numAt xs.toArray j)) (xs.toArray.size - 1)) = m := by
    refine Int.le_antisymm ?_ (hmin _ ?_)
    · rw [hns] at hm
      obtain ⟨j, hj, rfl⟩ := mem_getD hm
      rw [List.length_map, Array.length_toList] at hj
      rw [← numAt_eq]; exact h2 j (by omega)
    · rw [hns, numAt_eq]; exact getD_mem (by rw [List.length_map, Array.length_toList]; omega)
  rw [hM]
  have z := S.grow (h' := h') tk hk hz
  exact ⟨α, z.2, z.1, .int _ _⟩


theorem EvOK.listRange {x y : Str} {p p2 pos pos2} {es : List Expr} {a b : Int} {ns : List Int} (hx : EvOK V G (.Name x p) loc st (.val (.type "list")) st) (hy : EvOK V G (.Name y p2) loc st (.val (.type "range")) st) (hs : es.all notStar = true)
    (he : EvsOK V G es loc st [.int a, .int b] st₁) (hn : ns = (List.range (b - a).toNat).map fun (i : Nat) => a + i) (hsm : Builtin.Range.small a b 1 = true) (hlen : (b - a).toNat ≤ 2 ^ 24) :
    EvOK V G (.Call (.Name x p) [.Call (.Name y p2) es [] pos2] [] pos) loc st (.lst (ns.map .int)) st₁ := Box.mk fun A env α s rm S R =>
  wpAny_Call_Name_kw (wpAny_mono (hx.out A env α s rm S R) (fun u s₁ ⟨α₁, X₁, S₁, R₁⟩ => by
    obtain rfl := R₁.inv
    have hst : [Expr.Call (.Name y p2) es [] pos2].all notStar = true := rfl
    refine PySem.callWith_type (back_all hst env pos).2.1 (evalArgs_gen (back_all hst env pos).1 rfl ?_)
    refine wpAny_items_cons (he := starEach_cons rfl) (eval_call_ty hy hs he rm S₁ (R.step X₁ S.low.2) fun us β s₂ X₂ S₂ r => ?_)
    obtain ⟨u, us, rfl, r1, rs⟩ := r.inv; obtain ⟨u2, us2, rfl, r2, rs2⟩ := rs.inv
    (first | obtain rfl := rs2.inv | (obtain ⟨_, rfl⟩ := rs2.inv) | (obtain ⟨_, rfl, _⟩ := rs2.inv) | cases rs2)
    obtain ⟨t1, rfl⟩ := r1.inv; obtain ⟨t2, rfl⟩ := r2.inv
    refine call_range_2 ?_
    refine wpAny_items_nil ?_
    refine wpAny_evalAll_nil ?_
    have z := S₂.grow (h' := s₂.heap.push { cls := .type "range", data := .fields #[.int a t1, .int b t2, .int 1 s₂.toks] }) (s₂.toks + 1) (fun b o' e => Heap.get?_push_of_some _ e) (by rw [Heap.size_push]; omega)
    have hsz : Builtin.Range.rangeSize a b 1 = ((b - a).toNat : Int) := by rw [rangeSize_one]; split <;> omega
    refine wsize (call_list_range (s := { s₂ with heap := s₂.heap.push { cls := .type "range", data := .fields #[.int a t1, .int b t2, .int 1 s₂.toks] }, toks := s₂.toks + 1 }) rm.hd (IsRange.new ..) hsm hsz hlen fun h' tk acc c' hk hl hi hz => ?_)
    have q := z.1.grow (h' := h') tk hk hz
    refine ⟨β, X₁.trans (X₂.trans (z.2.trans q.2)), q.1, .lst _ acc.toList _ ⟨c', by simpa using hl⟩ z.1.newAt.1 z.1.newAt.2 ?_⟩
    subst hn
    obtain ⟨hi1, hi2⟩ := hi
    have key : ∀ (l : List Value) (k : Nat), (∀ (j : Nat) (v : Value), l[j]? = some v → ∃ t, v = .int (a + ((k + j : Nat) : Int) * 1) t) → Reps V h' β l (((List.range' k l.length).map fun (i : Nat) => a + (i : Int)).map .int) := by
      intro l
      induction l with
      | nil => exact fun _ _ => .nil
      | cons v l ih =>
        intro k h
        obtain ⟨t, e⟩ := h 0 v rfl
        rw [List.length_cons, List.range'_succ, List.map_cons, List.map_cons]
        refine .cons _ _ _ _ ?_ (ih (k + 1) fun j w hw => ?_)
        · rw [e, show a + ((k + 0 : Nat) : Int) * 1 = a + (k : Int) by omega]; exact .int _ _
        · obtain ⟨t, e⟩ := h (j + 1) w hw
          exact ⟨t, by rw [e, show k + (j + 1) = k + 1 + j by omega]⟩
    have := key acc.toList 0 fun j v hv => by
      obtain ⟨t, e⟩ := hi2 j v (by simpa using hv)
      exact ⟨t, by rw [e, Nat.zero_add]⟩
    rw [show acc.toList.length = (b - a).toNat by simpa using hi1, ← List.range_eq_range'] at this
    exact this) fun _ _ e => e)

theorem Reps.set' {h : Heap} {α : List Addr} {t : Value} {v : SV} (rt : Rep V h α t v) {vs : List Value} {xs : List SV} (r : Reps V h α vs xs) (j : Nat) : Reps V h α (vs.set j t) (xs.set j v) := by
  induction xs generalizing vs j with
  | nil => obtain rfl : vs = [] := r.inv; exact .nil
  | cons x xs ih =>
    obtain ⟨u, us, rfl, hv, rs⟩ := r.inv
    cases j with
    | zero => exact .cons _ _ _ _ rt rs
    | succ j => exact .cons _ _ _ _ hv (ih rs j)


theorem set_at {A : Around} {α : List Addr} {s : Shared} {i : Nat} {xs : List SV} {k : Int} {u w t : Value} {v : SV} (S : Sto V α st s) (ru : Rep V s.heap α u (.obj i)) (hx : st[i]? = some xs) (rw' : Rep V s.heap α w (.int k)) (rt : Rep V s.heap α t v) (h0 : 0 ≤ k) (h1 : k < xs.length) (hz : xs.length ≤ sizeLine) :
    wpAny V.M A (setItem u w t) (fun _ s' => ∃ α', Step V [] α s α' s' ∧ Sto V α' (st.set i (xs.set k.toNat v)) s') NoE s := by
  obtain ⟨l, vs, rfl, ha, hl, hr, hi⟩ := S.objAt ru hx
  obtain ⟨tk, rfl⟩ := rw'.inv
  obtain ⟨n, ho⟩ := hl
  have hT := (show s.heap.IsList l vs.toArray from ⟨_, ho, rfl, n, rfl⟩).typeIs
  have hlen := hr.length
  have hsz : xs.length < 2 ^ 63 := Nat.lt_of_le_of_lt hz (by decide)
  have hfit : k < 2 ^ 63 := by omega
  clear hsz
  unfold setItem
  try with_reducible refine wpAny_holding ?_
  first | refine wpAny_bind (wpAny_pure ?_) | skip
  refine wpAny_bind (wpAny_sequenceKey hT (by decide) ?_)
  refine wpAny_bind (wpAny_callSpecial?_slot (name := Str.ofString "__setitem__") hT slot_list_setitem
    (wpAny_call_entry slot_list_setitem hT entry_list_setitem ?_ (args_list_setitem _ _ _)))
  show wpAny _ _ (Builtin.List.listSubscript? (.int k tk) >>= _) _ _ s
  refine wpAny_bind (wpAny_listSubscript_int (fitsIndex_of h0 hfit) ?_)
  clear hfit
  obtain ⟨j, rfl⟩ := Int.eq_ofNat_of_zero_le h0
  have hj : j < vs.length := by omega
  have hx' : vs.toArray[j]? = some vs[j] := by simp [hj]
  show wpAny _ _ ((seqItemAt l j >>= fun r => pure (r.map (j, ·))) >>= _) _ _ s
  refine wpAny_bind (wpAny_bind (wpAny_seqItemAt ho rfl (wpAny_pure ?_)))
  rw [hx']
  show wpAny _ _ (setSeqItemAt l j t >>= _) _ _ s
  have hfin : Lst (s.heap.update l (Obj.mapSeq (·.setIfInBounds j t))) l (vs.set j t) := by
    have q := IsL.update ho fun ys => ys.setIfInBounds j t
    have e : vs.toArray.setIfInBounds j t = (vs.set j t).toArray := by simp
    rw [e] at q
    exact ⟨_, q⟩
  have hr2 : Reps V s.heap α (vs.set j t) (xs.set j v) := by
    exact Reps.set' rt hr j
  have z := S.set (h' := s.heap.update l (Obj.mapSeq (·.setIfInBounds j t))) (xs := xs.set j v) hi ha (Heap.SameBut.update ..) hfin hr2 s.toks
  refine wpAny_bind (wpAny_setSeqItemAt ho rfl ?_)
  first
    | exact wpAny_bind (wpAny_pure (wpAny_pure ⟨.none, rfl, wpAny_pure ⟨α, z.2, z.1⟩⟩))
    | exact wpAny_pure ⟨.none, rfl, wpAny_pure ⟨α, z.2, z.1⟩⟩
end
end Mine
end

section
open PySem PySem.Calls PyProof.Rows
set_option maxRecDepth 100000
namespace Mine
local macro_rules | `(tactic| omega) => `(tactic| lia)


noncomputable def pBody (l : List Stmt) (i : Nat) : List Stmt := match l[i]? with
  | some (.FunctionDef _ _ body _ _ _ _ _ _ _) => body
  | _ => []
noncomputable def pScope (l : List Stmt) (i : Nat) : Scope := match l[i]? with
  | some (.FunctionDef _ _ _ _ _ _ scope _ _ _) => scope
  | _ => default
noncomputable def pPar (l : List Stmt) (i : Nat) : Arguments := match l[i]? with
  | some (.FunctionDef _ args _ _ _ _ _ _ _ _) => args
  | _ => default
noncomputable def top : List Stmt := PySem.Challenge.pw_kt0091_01.main.body
noncomputable def clsBody : List Stmt := match top[7]? with
  | some (Stmt.ClassDef _ _ _ body _ _ _ _ _ _ _) => body
  | _ => []

structure Fn (V : Cx) (a : Addr) (names : List Str) (body : List Stmt) (scope : Scope) : Prop where
  ex : ∃ fd o, FnAt V fd a o ∧ (∀ c, fd.code = .ref c → c ≠ V.P) ∧ fd.body = .stmts body ∧ fd.scope = scope ∧ ∀ us : List Value, us.length = names.length → bindArgs fd ⟨us, []⟩ = pure (names.zip us)

section
variable {V : Cx} {G : Gm} {loc loc₁ loc₂ : Loc} {st st₁ st₂ st₃ : St} {n : Nat}

theorem zip_breps {h : Heap} {α : List Addr} {ns : List Str} {us : List Value} {vs : List SV} (r : Reps V h α us vs) : BReps V h α (ns.zip us) (ns.zip vs) := by
  induction vs generalizing ns us with
  | nil => obtain rfl : us = [] := r.inv; rw [List.zip_nil_right, List.zip_nil_right]; exact .nil
  | cons v vs ih =>
    obtain ⟨u, us, rfl, r1, rs⟩ := r.inv
    cases ns with
    | nil => exact .nil
    | cons n ns => exact .cons n u v _ _ r1 (ih rs)


theorem CallOK.plain {f : SV} {a : Addr} {names : List Str} {body : List Stmt} {scope : Scope} {args : List SV} {out : Out} {ext : St} {v r : SV} (p : Pg V) (hfn : IsFn V f a) (F : Fn V a names body scope) (hl : args.length = names.length)
    (hk : (names.all fun y => scope.names.lookup y == some .local || scope.names.lookup y == some .cell) = true) (hnd : names.Nodup) (hsn : (scope.names.map (·.1)).Nodup)
    (hrun : ∀ cd : Value, ExOK V ⟨n, scope.names, cd⟩ body (names.zip args) st out [] (st ++ ext)) (hout : r = out.val)
    (hfz : Fz st.length (st ++ ext) r v) : CallOK V (n + 1) f args [] st v st := by
  obtain ⟨fd, o, Fa, hc, hb, hs, hbind⟩ := F.ex
  subst hs
  have hmap : (names.zip args).map (·.1) = names := List.map_fst_zip (Nat.le_of_eq hl.symm)
  refine CallOK.def (loc := names.zip args) p hfn Fa hc hb (.mk fun A α s us ks S hr hkw => ?_) (fun y hy => ?_) (by rw [hmap]; exact hnd) hsn (hrun fd.code) hout rfl (fun i xs h e => h i xs e) hfz
  · (first | obtain rfl := hkw.inv | (obtain ⟨_, rfl⟩ := hkw.inv) | (obtain ⟨_, rfl, _⟩ := hkw.inv) | cases hkw)
    refine wpAny_of_eq (hbind us (by rw [hr.length, hl])) ⟨.refl, S, zip_breps hr⟩
  · rw [hmap] at hy
    have := List.all_eq_true.mp hk y hy
    rw [Bool.or_eq_true, beq_iff_eq, beq_iff_eq] at this
    exact this


structure Gb (V : Cx) : Prop where
  pg : Pg V
  len_ : V.mg "len" = none ∧ V.mb "len" = some (.builtin "len")
  isinstance_ : V.mg "isinstance" = none ∧ V.mb "isinstance" = some (.builtin "isinstance")
  bytes_ : V.mg "bytes" = none ∧ V.mb "bytes" = some (.type "bytes")
  str_ : V.mg "str" = none ∧ V.mb "str" = some (.type "str")
  type_ : V.mg "type" = none ∧ V.mb "type" = some (.type "type")
  issubclass_ : V.mg "issubclass" = none ∧ V.mb "issubclass" = some (.builtin "issubclass")
  list_ : V.mg "list" = none ∧ V.mb "list" = some (.type "list")
  range_ : V.mg "range" = none ∧ V.mb "range" = some (.type "range")
  min_ : V.mg "min" = none ∧ V.mb "min" = some (.builtin "min")
  reversed_ : V.mg "reversed" = none ∧ V.mb "reversed" = some (.type "reversed")
  enumerate_ : V.mg "enumerate" = none ∧ V.mb "enumerate" = some (.type "enumerate")
theorem EvOK.bi_len {pos} (g : Gb V) (hk : G.ks.lookup ("len" : Str) = some .globalImplicit) : EvOK V G (.Name "len" pos) loc st (.val (.builtin "len")) st := EvOK.bi g.pg g.len_.1 g.len_.2 hk (by kernel_rfl)
theorem EvOK.bi_isinstance {pos} (g : Gb V) (hk : G.ks.lookup ("isinstance" : Str) = some .globalImplicit) : EvOK V G (.Name "isinstance" pos) loc st (.val (.builtin "isinstance")) st := EvOK.bi g.pg g.isinstance_.1 g.isinstance_.2 hk (by kernel_rfl)
theorem EvOK.bi_bytes {pos} (g : Gb V) (hk : G.ks.lookup ("bytes" : Str) = some .globalImplicit) : EvOK V G (.Name "bytes" pos) loc st (.val (.type "bytes")) st := EvOK.bi g.pg g.bytes_.1 g.bytes_.2 hk (by kernel_rfl)
theorem EvOK.bi_str {pos} (g : Gb V) (hk : G.ks.lookup ("str" : Str) = some .globalImplicit) : EvOK V G (.Name "str" pos) loc st (.val (.type "str")) st := EvOK.bi g.pg g.str_.1 g.str_.2 hk (by kernel_rfl)
theorem EvOK.bi_type {pos} (g : Gb V) (hk : G.ks.lookup ("type" : Str) = some .globalImplicit) : EvOK V G (.Name "type" pos) loc st (.val (.type "type")) st := EvOK.bi g.pg g.type_.1 g.type_.2 hk (by kernel_rfl)
theorem EvOK.bi_issubclass {pos} (g : Gb V) (hk : G.ks.lookup ("issubclass" : Str) = some .globalImplicit) : EvOK V G (.Name "issubclass" pos) loc st (.val (.builtin "issubclass")) st := EvOK.bi g.pg g.issubclass_.1 g.issubclass_.2 hk (by kernel_rfl)
theorem EvOK.bi_list {pos} (g : Gb V) (hk : G.ks.lookup ("list" : Str) = some .globalImplicit) : EvOK V G (.Name "list" pos) loc st (.val (.type "list")) st := EvOK.bi g.pg g.list_.1 g.list_.2 hk (by kernel_rfl)
theorem EvOK.bi_range {pos} (g : Gb V) (hk : G.ks.lookup ("range" : Str) = some .globalImplicit) : EvOK V G (.Name "range" pos) loc st (.val (.type "range")) st := EvOK.bi g.pg g.range_.1 g.range_.2 hk (by kernel_rfl)
theorem EvOK.bi_min {pos} (g : Gb V) (hk : G.ks.lookup ("min" : Str) = some .globalImplicit) : EvOK V G (.Name "min" pos) loc st (.val (.builtin "min")) st := EvOK.bi g.pg g.min_.1 g.min_.2 hk (by kernel_rfl)
theorem EvOK.bi_reversed {pos} (g : Gb V) (hk : G.ks.lookup ("reversed" : Str) = some .globalImplicit) : EvOK V G (.Name "reversed" pos) loc st (.val (.type "reversed")) st := EvOK.bi g.pg g.reversed_.1 g.reversed_.2 hk (by kernel_rfl)
theorem EvOK.bi_enumerate {pos} (g : Gb V) (hk : G.ks.lookup ("enumerate" : Str) = some .globalImplicit) : EvOK V G (.Name "enumerate" pos) loc st (.val (.type "enumerate")) st := EvOK.bi g.pg g.enumerate_.1 g.enumerate_.2 hk (by kernel_rfl)

theorem lookup_hit {x : Str} {v : SV} {l : Loc} : List.lookup x ((x, v) :: l) = some v := by simp [List.lookup]
theorem lookup_miss {x y : Str} {v w : SV} {l : Loc} (h : (x == y) = false) (hr : List.lookup x l = some v) : List.lookup x ((y, w) :: l) = some v := by rw [List.lookup_cons, h]; exact hr


theorem StOK.if_t {t : Expr} {b o : List Stmt} {pos} {out : Out} {r : Bool} (ht : TsOK V G t loc st r st₁) (hr : r = true) (h : ExOK V G b loc st₁ out loc₁ st₂) : StOK V G (.If t b o pos) loc st out loc₁ st₂ := .if_true (hr ▸ ht) h
theorem StOK.if_f {t : Expr} {b o : List Stmt} {pos} {out : Out} {r : Bool} (ht : TsOK V G t loc st r st₁) (hr : r = false) (h : ExOK V G o loc st₁ out loc₁ st₂) : StOK V G (.If t b o pos) loc st out loc₁ st₂ := .if_false (hr ▸ ht) h
theorem TsOK.call {f : Expr} {es ks pos} {a : SV} {b : Bool} (h : EvOK V G (.Call f es ks pos) loc st a st₁) (ht : Tru V a st₁ b) : TsOK V G (.Call f es ks pos) loc st b st₁ := .plain h ht fun _ => rfl
theorem TsOK.name {x pos} {a : SV} {b : Bool} (h : EvOK V G (.Name x pos) loc st a st₁) (ht : Tru V a st₁ b) : TsOK V G (.Name x pos) loc st b st₁ := .plain h ht fun _ => rfl


noncomputable def IsDef (V : Cx) (x : Str) (names : List Str) (body : List Stmt) (scope : Scope) : Prop := ∃ a, V.mg x = some (.ref a) ∧ Fn V a names body scope
theorem CwOK.gf {x : Str} {names body scope} {first : List SV} {es : List Expr} {vs : List SV} {v : SV} (hd : IsDef V x names body scope) (hs : es.all notStar = true) (he : EvsOK V G es loc st vs st₁) (hc : CallOK V G.n (.gl x) (first ++ vs) [] st₁ v st₂) :
    CwOK V G (.gl x) first es [] loc st v st₂ := by
  obtain ⟨a, hm, fd, o, F, _⟩ := hd
  exact CwOK.fn (kw := []) (IsFn.gl hm) F hs rfl he .nil hc
theorem EvOK.gf {x : Str} {pos} {names body scope} (p : Pg V) (hd : IsDef V x names body scope) (hk : G.ks.lookup x = some .globalImplicit) (hx : (x == ("__debug__" : Str)) = false) : EvOK V G (.Name x pos) loc st (.gl x) st := by
  obtain ⟨a, hm, _⟩ := hd
  exact EvOK.gl p hm hk hx
theorem CallOK.gf {x : Str} {names : List Str} {body : List Stmt} {scope : Scope} {args : List SV} {out : Out} {ext : St} {v r : SV} (p : Pg V) (hd : IsDef V x names body scope) (hl : args.length = names.length)
    (hk : (names.all fun y => scope.names.lookup y == some .local || scope.names.lookup y == some .cell) = true) (hnd : names.Nodup) (hsn : (scope.names.map (·.1)).Nodup)
    (hrun : ∀ cd : Value, ExOK V ⟨n, scope.names, cd⟩ body (names.zip args) st out [] (st ++ ext)) (hout : r = out.val)
    (hfz : Fz st.length (st ++ ext) r v) : CallOK V (n + 1) (.gl x) args [] st v st := by
  obtain ⟨a, hm, F⟩ := hd
  exact CallOK.plain p (IsFn.gl hm) F hl hk hnd hsn hrun hout hfz

theorem CwOK.bi0 {id : String} {es : List Expr} {vs : List SV} {v : SV} (hs : es.all notStar = true) (he : EvsOK V G es loc st vs st₁) (hc : CallOK V G.n (.val (.builtin id)) vs [] st₁ v st₂) : CwOK V G (.val (.builtin id)) [] es [] loc st v st₂ := .bi hs he hc
theorem CwOK.bi1 {id : String} {a : SV} {es : List Expr} {vs : List SV} {v : SV} (hs : es.all notStar = true) (he : EvsOK V G es loc st vs st₁) (hc : CallOK V G.n (.val (.builtin id)) (a :: vs) [] st₁ v st₂) : CwOK V G (.val (.builtin id)) [a] es [] loc st v st₂ := .bi hs he hc
theorem CwOK.ty0 {T : String} {es : List Expr} {vs : List SV} {v : SV} (hs : es.all notStar = true) (he : EvsOK V G es loc st vs st₁) (hc : CallOK V G.n (.val (.type T)) vs [] st₁ v st₂) : CwOK V G (.val (.type T)) [] es [] loc st v st₂ := .ty hs he hc
theorem CwOK.gf0 {x : Str} {names body scope} {es : List Expr} {vs : List SV} {v : SV} (hd : IsDef V x names body scope) (hs : es.all notStar = true) (he : EvsOK V G es loc st vs st₁) (hc : CallOK V G.n (.gl x) vs [] st₁ v st₂) : CwOK V G (.gl x) [] es [] loc st v st₂ := .gf hd hs he hc

theorem EvOK.lclA {x : Str} {pos} {v : SV} (hk : G.ks.lookup x = some .local) (hd : (x == ("__debug__" : Str)) = false) (h : loc.lookup x = some v) : EvOK V G (.Name x pos) loc st v st := .lcl h hk hd
theorem EvOK.cellA {x : Str} {pos} {v : SV} (hk : G.ks.lookup x = some .cell) (hd : (x == ("__debug__" : Str)) = false) (h : loc.lookup x = some v) : EvOK V G (.Name x pos) loc st v st := .cell h hk hd


inductive LSub (l : Loc) : Loc → Prop
  | nil : LSub l []
  | cons {k v l'} : l.lookup k = some v → LSub l l' → LSub l ((k, v) :: l')
theorem LSub.of_eq {l : Loc} {l' : Loc} (h : (l'.map fun p => l.lookup p.1) = l'.map fun p => some p.2) : LSub l l' := by
  induction l' with
  | nil => exact .nil
  | cons p l' ih =>
    rw [List.map_cons, List.map_cons, List.cons.injEq] at h
    exact .cons h.1 (ih h.2)
theorem LSub.look {l : Loc} : ∀ {l'}, LSub l l' → ∀ {x v}, l'.lookup x = some v → l.lookup x = some v
  | _, .nil, x, v, h => by simp at h
  | _, .cons (k := k) (v := w) h r, x, v, e => by
    rw [List.lookup_cons] at e
    by_cases hx : x = k
    · subst hx; simp at e; subst e; exact h
    · simp only [show (x == k) = false by simpa using hx] at e
      exact r.look e
theorem Var.sub {ks cd env} {l l' : Loc} {α : List Addr} {s : Shared} (R : Var V ks cd env l α s) (h : LSub l l') : Var V ks cd env l' α s :=
  { R with ns := let ⟨m, hn, hv⟩ := R.ns; ⟨m, hn, fun x v e k => hv x v (h.look e) k⟩, cl := fun x v e k => R.cl x v (h.look e) k }
theorem ExOK.sub {b : List Stmt} {l l' loc' : Loc} {out : Out} (h : LSub l l') (x : ExOK V G b l' st out loc' st₁) : ExOK V G b l st out loc' st₁ := Box.mk fun A env α s rm S R => x.out A env α s rm S (R.sub h)
theorem WhOK.sub {t : Expr} {b : List Stmt} {l l' loc' : Loc} {out : Out} (h : LSub l l') (x : WhOK V G t b l' st out loc' st₁) : WhOK V G t b l st out loc' st₁ := Box.mk fun A env α s rm S R => x.out A env α s rm S (R.sub h)
theorem FoOK.sub {C : St → Prop} {t : Expr} {b : List Stmt} {xs : List SV} {l l' loc' : Loc} {out : Out} (h : LSub l l') (x : FoOK V G C t b xs l' st out loc' st₁) : FoOK V G C t b xs l st out loc' st₁ := Box.mk fun A env α s I Its rm S R => x.out A env α s I Its rm S (R.sub h)
theorem EvOK.sub' {e : Expr} {l l' : Loc} {v : SV} (h : LSub l l') (x : EvOK V G e l' st v st₁) : EvOK V G e l st v st₁ := Box.mk fun A env α s rm S R => x.out A env α s rm S (R.sub h)
theorem CpOK.sub {C : St → Prop} {x : Str} {ifs : List Expr} {elt : Expr} {xs acc res : List SV} {l l' : Loc} (h : LSub l l') (c : CpOK V G C x ifs elt xs acc l' st res) : CpOK V G C x ifs elt xs acc l st res := Box.mk fun A env px iter scope pos α s I D rm S R => c.out A env px iter scope pos α s I D rm S (R.sub h)

theorem lookup_set_hit {x : Str} {v : SV} {l : Loc} : List.lookup x (setL x v l) = some v := by rw [setL_lookup, if_pos rfl]
theorem lookup_set_miss {x y : Str} {v w : SV} {l : Loc} (h : (x == y) = false) (hr : List.lookup x l = some v) : List.lookup x (setL y w l) = some v := by
  rw [setL_lookup, if_neg (by simpa using h)]; exact hr


theorem ExOK.ret' {e : Expr} {pos} {xs : List Stmt} {v : SV} (h : EvOK V G e loc st v st₁) : ExOK V G (.Return (some e) pos :: xs) loc st (.ret v) loc st₁ := .stop (.ret h) (fun h => nomatch h)
theorem ExOK.cont' {pos} {xs : List Stmt} : ExOK V G (.Continue pos :: xs) loc st .cont loc st := .stop .cont (fun h => nomatch h)
theorem ExOK.asg {x : Str} {pos' pos} {value : Expr} {xs : List Stmt} {v : SV} {out : Out} (h : EvOK V G value loc st v st₁) (hs : ∀ env : Env, swapsWith value (some (.Name x pos')) pos.line env = pure false) (hn : SnOK V G x v loc loc₁)
    (hr : ExOK V G xs loc₁ st₁ out loc₂ st₂) : ExOK V G (.Assign [.Name x pos'] value pos :: xs) loc st out loc₂ st₂ := .cons (.assign h hn hs) hr
theorem ExOK.asgL {x : Str} {pos' pos} {value : Expr} {xs : List Stmt} {v : SV} {out : Out} (hk : G.ks.lookup x = some .local) (h : EvOK V G value loc st v st₁) (hs : ∀ env : Env, swapsWith value (some (.Name x pos')) pos.line env = pure false)
    (hr : ExOK V G xs (setL x v loc) st₁ out loc₂ st₂) : ExOK V G (.Assign [.Name x pos'] value pos :: xs) loc st out loc₂ st₂ := .asg h hs (.lcl hk) hr
theorem ExOK.asgC {x : Str} {pos' pos} {value : Expr} {xs : List Stmt} {v : SV} {out : Out} (hk : G.ks.lookup x = some .cell) (h : EvOK V G value loc st v st₁) (hs : ∀ env : Env, swapsWith value (some (.Name x pos')) pos.line env = pure false)
    (hr : ExOK V G xs (setL x v loc) st₁ out loc₂ st₂) : ExOK V G (.Assign [.Name x pos'] value pos :: xs) loc st out loc₂ st₂ := .asg h hs (.cell hk) hr

theorem ExOK.if_t {t : Expr} {b o xs : List Stmt} {pos} {out : Out} {r : Bool} (ht : TsOK V G t loc st r st₁) (hr : r = true) (h : ExOK V G b loc st₁ .next loc₁ st₂) (hx : ExOK V G xs loc₁ st₂ out loc₂ st₃) : ExOK V G (.If t b o pos :: xs) loc st out loc₂ st₃ := .cons (.if_t ht hr h) hx
theorem ExOK.if_f {t : Expr} {b o xs : List Stmt} {pos} {out : Out} {r : Bool} (ht : TsOK V G t loc st r st₁) (hr : r = false) (h : ExOK V G o loc st₁ .next loc₁ st₂) (hx : ExOK V G xs loc₁ st₂ out loc₂ st₃) : ExOK V G (.If t b o pos :: xs) loc st out loc₂ st₃ := .cons (.if_f ht hr h) hx
theorem ExOK.if_tE {t : Expr} {b o xs : List Stmt} {pos} {out : Out} {r : Bool} (ht : TsOK V G t loc st r st₁) (hr : r = true) (h : ExOK V G b loc st₁ out loc₁ st₂) (hn : out ≠ .next) : ExOK V G (.If t b o pos :: xs) loc st out loc₁ st₂ := .stop (.if_t ht hr h) hn
theorem ExOK.if_fE {t : Expr} {b o xs : List Stmt} {pos} {out : Out} {r : Bool} (ht : TsOK V G t loc st r st₁) (hr : r = false) (h : ExOK V G o loc st₁ out loc₁ st₂) (hn : out ≠ .next) : ExOK V G (.If t b o pos :: xs) loc st out loc₁ st₂ := .stop (.if_f ht hr h) hn

theorem ExOK.if_no {t : Expr} {b xs : List Stmt} {pos} {out : Out} {r : Bool} (ht : TsOK V G t loc st r st₁) (hr : r = false) (hx : ExOK V G xs loc st₁ out loc₂ st₃) : ExOK V G (.If t b [] pos :: xs) loc st out loc₂ st₃ := .if_f ht hr .nil hx
theorem ExOK.expr' {e : Expr} {pos} {xs : List Stmt} {v : SV} {out : Out} (h : EvOK V G e loc st v st₁) (hv : NoRef v) (hs : ∀ env, swapsWith e none pos.line env = pure false) (hx : ExOK V G xs loc st₁ out loc₂ st₂) : ExOK V G (.Expr e pos :: xs) loc st out loc₂ st₂ := .cons (.expr h hv hs) hx
theorem ExOK.aug' {x : Str} {pos' pos} {op} {value : Expr} {xs : List Stmt} {v old r : SV} {out : Out} (hk : G.ks.lookup x = some .local) (ho : loc.lookup x = some old) (h : EvOK V G value loc st v st₁)
    (hi : ∀ (A : Around) (α : List Addr) (s : Shared) (u w : Value), Sto V α st₁ s → Rep V s.heap α u old → Rep V s.heap α w v → wpAny V.M A (inplaceOp op u w) (Res V α s st₂ r) NoE s)
    (hx : ExOK V G xs (setL x r loc) st₂ out loc₂ st₃) : ExOK V G (.AugAssign (.Name x pos') op value pos :: xs) loc st out loc₂ st₃ := .cons (.aug ho hk h hi (.lcl hk)) hx
theorem ExOK.for' {iter target : Expr} {body xs : List Stmt} {pos} {C : St → Prop} {ys : List SV} {out : Out} (hs : ∀ env x, foldedSetIterable iter env x = pure x) (hh : HdOK V G iter target loc st C ys st₁) (hf : FoOK V G C target body ys loc st₁ .next loc₁ st₂)
    (hx : ExOK V G xs loc₁ st₂ out loc₂ st₃) : ExOK V G (.For target iter body [] pos :: xs) loc st out loc₂ st₃ := .cons (.for hh hf hs) hx
theorem ExOK.while' {test : Expr} {body xs : List Stmt} {pos} {out : Out} (h : WhOK V G test body loc st .next loc₁ st₁) (hx : ExOK V G xs loc₁ st₁ out loc₂ st₂) : ExOK V G (.While test body [] pos :: xs) loc st out loc₂ st₂ := .cons (.while h) hx


theorem AllOK.and1 {e : Expr} {es : List Expr} {b c : Bool} (h : TsOK V G e loc st b st₁) (hr : b = true → AllOK V G .And es loc st₁ c st₁) (h0 : b = false → c = false) : AllOK V G .And (e :: es) loc st c st₁ := by
  cases b with
  | true => exact .go h (hr rfl)
  | false => rw [h0 rfl]; exact .stop (op := .And) h
theorem AllOK.or1 {e : Expr} {es : List Expr} {b c : Bool} (h : TsOK V G e loc st b st₁) (hr : b = false → AllOK V G .Or es loc st₁ c st₁) (h0 : b = true → c = true) : AllOK V G .Or (e :: es) loc st c st₁ := by
  cases b with
  | false => exact .go h (hr rfl)
  | true => rw [h0 rfl]; exact .stop (op := .Or) h
theorem TsOK.and2 {e f : Expr} {pos} {b c : Bool} (h : TsOK V G e loc st b st₁) (hr : b = true → TsOK V G f loc st₁ c st₁) : TsOK V G (.BoolOp .And [e, f] pos) loc st (b && c) st₁ := by
  refine .boolop (.and1 h (fun e => ?_) (fun e => by rw [e]; rfl))
  subst e
  exact .and1 (c := c) (hr rfl) (fun e => by subst e; exact AllOK.nil) (fun e => e)
theorem TsOK.or2 {e f : Expr} {pos} {b c : Bool} (h : TsOK V G e loc st b st₁) (hr : b = false → TsOK V G f loc st₁ c st₁) : TsOK V G (.BoolOp .Or [e, f] pos) loc st (b || c) st₁ := by
  refine .boolop (.or1 h (fun e => ?_) (fun e => by rw [e]; rfl))
  subst e
  exact .or1 (c := c) (hr rfl) (fun e => by subst e; exact AllOK.nil) (fun e => e)
theorem EvOK.and2 {e f : Expr} {pos} {b c : Bool} (h : EvOK V G e loc st (.bool b) st₁) (hr : b = true → EvOK V G f loc st₁ (.bool c) st₁) : EvOK V G (.BoolOp .And [e, f] pos) loc st (.bool (b && c)) st₁ := by
  refine .boolop ?_
  cases b with
  | true => exact .go h .bool (.last (hr rfl))
  | false => exact .stop h .bool
theorem EvOK.or2 {e f : Expr} {pos} {b c : Bool} (h : EvOK V G e loc st (.bool b) st₁) (hr : b = false → EvOK V G f loc st₁ (.bool c) st₁) : EvOK V G (.BoolOp .Or [e, f] pos) loc st (.bool (b || c)) st₁ := by
  refine .boolop ?_
  cases b with
  | false => exact .go h .bool (.last (hr rfl))
  | true => exact .stop h .bool

theorem EvOK.orStr {e f : Expr} {pos} {x y : Str} (h : EvOK V G e loc st (.str x) st₁) (hl : (x.length : Int) < 2 ^ 63) (hr : EvOK V G f loc st₁ (.str y) st₁) : EvOK V G (.BoolOp .Or [e, f] pos) loc st (.str (if x.length = 0 then y else x)) st₁ := by
  refine .boolop ?_
  by_cases hx : x.length = 0
  · rw [if_pos hx]
    refine .go h ?_ (.last hr)
    have := Tru.str (V := V) (st := st₁) hl
    rw [hx] at this
    exact this
  · rw [if_neg hx]
    refine .stop h ?_
    have := Tru.str (V := V) (st := st₁) hl
    have e : ((x.length : Int) != 0) = (BoolOp.Or == BoolOp.Or) := by
      simp; omega
    rw [e] at this
    exact this
theorem EvOK.if' {t a b : Expr} {pos} {r : Bool} {v w : SV} (ht : TsOK V G t loc st r st₁) (ha : r = true → EvOK V G a loc st₁ v st₁) (hb : r = false → EvOK V G b loc st₁ w st₁) : EvOK V G (.IfExp t a b pos) loc st (if r = true then v else w) st₁ := by
  cases r with
  | true => exact .ifexp_true ht (ha rfl)
  | false => exact .ifexp_false ht (hb rfl)

theorem GmOK.strM {x : Str} {name : Str} {id : String} (slot : Slot "str" name id) (hty : typeOf (.builtin id) = pure (.type "method_descriptor")) : GmOK V (.str x) name st (.val (.builtin id)) [.str x] :=
  GmOK.str fun A s t pl Q h => getMethod_builtin (typeIs_str _ _ _) F.plainAttrs_str slot hty (fun a e => nomatch e) h
theorem GmOK.s_rfind {x : Str} : GmOK V (.str x) "rfind" st (.val (.builtin "str.rfind")) [.str x] := GmOK.strM F.slot_str_rfind F.type_str_rfind
theorem GmOK.s_rstrip {x : Str} : GmOK V (.str x) "rstrip" st (.val (.builtin "str.rstrip")) [.str x] := GmOK.strM F.slot_str_rstrip F.type_str_rstrip
theorem GmOK.s_upper {x : Str} : GmOK V (.str x) "upper" st (.val (.builtin "str.upper")) [.str x] := GmOK.strM F.slot_str_upper F.type_str_upper
theorem GmOK.s_lower {x : Str} : GmOK V (.str x) "lower" st (.val (.builtin "str.lower")) [.str x] := GmOK.strM F.slot_str_lower F.type_str_lower
theorem GmOK.s_join {x : Str} : GmOK V (.str x) "join" st (.val (.builtin "str.join")) [.str x] := GmOK.strM F.slot_str_join F.type_str_join
theorem GmOK.s_split {x : Str} : GmOK V (.str x) "split" st (.val (.builtin "str.split")) [.str x] := GmOK.strM F.slot_str_split F.type_str_split
theorem GmOK.s_startswith {x : Str} : GmOK V (.str x) "startswith" st (.val (.builtin "str.startswith")) [.str x] := GmOK.strM F.slot_str_startswith F.type_str_startswith
theorem GmOK.s_endswith {x : Str} : GmOK V (.str x) "endswith" st (.val (.builtin "str.endswith")) [.str x] := GmOK.strM F.slot_str_endswith F.type_str_endswith
theorem GmOK.s_translate {x : Str} : GmOK V (.str x) "translate" st (.val (.builtin "str.translate")) [.str x] := GmOK.strM F.slot_str_translate F.type_str_translate
theorem GmOK.s_replace {x : Str} : GmOK V (.str x) "replace" st (.val (.builtin "str.replace")) [.str x] := GmOK.strM F.slot_str_replace F.type_str_replace
theorem GmOK.o_append {i : Nat} {xs : List SV} (h : st[i]? = some xs) : GmOK V (.obj i) "append" st (.val (.builtin "list.append")) [.obj i] := GmOK.lst (a := .obj i) h F.slot_list_append F.type_list_append
theorem GmOK.o_pop {i : Nat} {xs : List SV} (h : st[i]? = some xs) : GmOK V (.obj i) "pop" st (.val (.builtin "list.pop")) [.obj i] := GmOK.lst (a := .obj i) h F.slot_list_pop F.type_list_pop

theorem ExOK.forget {b : List Stmt} {out : Out} (h : ExOK V G b loc st out loc₁ st₁) : ExOK V G b loc st out [] st₁ := Box.mk fun A env α s rm S R =>
  wpAny_mono (h.out A env α s rm S R) (fun _ _ ⟨β, X, S', R', o⟩ => ⟨β, X, S', R'.sub .nil, o⟩) fun _ _ e => e
theorem ExOK.retN {e : Expr} {pos} {xs : List Stmt} {v : SV} (h : EvOK V G e loc st v st₁) : ExOK V G (.Return (some e) pos :: xs) loc st (.ret v) [] st₁ := (ExOK.ret' h).forget
theorem ExOK.nilN : ExOK V G [] loc st .next [] st := ExOK.nil.forget

theorem TsOK.or3 {e f g : Expr} {pos} {b c d : Bool} (h : TsOK V G e loc st b st₁) (hr : b = false → TsOK V G f loc st₁ c st₁) (hq : b = false → c = false → TsOK V G g loc st₁ d st₁) : TsOK V G (.BoolOp .Or [e, f, g] pos) loc st (b || c || d) st₁ := by
  refine .boolop (.or1 h (fun e => ?_) (fun e => by rw [e]; rfl))
  subst e
  refine .or1 (hr rfl) (fun e => ?_) (fun e => by rw [e]; rfl)
  subst e
  exact .or1 (c := d) (hq rfl rfl) (fun e => by subst e; exact AllOK.nil) (fun e => e)
theorem MulOk.slash {n : Int} (h0 : 0 ≤ n) (h : n ≤ 1000) : MulOk ("/" : Str) n := by
  have e : ("/" : Str).length = 1 := by decide +kernel
  refine ⟨by simp; omega, fun h1 h2 => ?_, fun h1 h2 => ?_⟩
  · rw [e]
    have : (1 : Int) ≤ (2 ^ 63 - 1) / n := (Int.le_ediv_iff_mul_le (by omega)).mpr (by omega)
    have e1 : ((1 : Nat) : Int) = 1 := rfl
    rw [e1]
    exact Int.not_lt.mpr this
  · rw [e]
    unfold Builtin.Str.tooLong
    simp only [sizeLine]
    simp; omega
theorem obj_at {st : St} {xs : List SV} : (st ++ [xs])[st.length]? = some xs := by simp
theorem obj_set {st : St} {xs ys : List SV} : (st ++ [xs]).set st.length ys = st ++ [ys] := by simp

theorem AssOK.consL {x : Str} {pos} {ts : List Expr} {v : SV} {vs : List SV} (hk : G.ks.lookup x = some .local) (hr : AssOK V G ts vs (setL x v loc) loc₂) : AssOK V G (.Name x pos :: ts) (v :: vs) loc loc₂ := .cons (.lcl hk) hr
theorem ExOK.tup' {ts : List Expr} {k tpos pos} {value : Expr} {xs : List Stmt} {vs : List SV} {out : Out} (hs : ∀ env, swapsWithSole [.Tuple ts k tpos] value pos.line env = pure false) (hw : ∀ env, swappedStores [.Tuple ts k tpos] value env = pure none) (hn : ts.all isNm = true)
    (hv : EvOK V G value loc st (.tup vs) st₁) (hl : ts.length = vs.length) (ha : AssOK V G ts vs loc loc₁) (hx : ExOK V G xs loc₁ st₁ out loc₂ st₂) : ExOK V G (.Assign [.Tuple ts k tpos] value pos :: xs) loc st out loc₂ st₂ :=
  .cons (.asTup hv (.tup hn hl ha) hs hw) hx
theorem AsOK.lcl {x : Str} {pos} {v : SV} (hk : G.ks.lookup x = some .local) : AsOK V G (.Name x pos) v loc st (setL x v loc) st := .name (.lcl hk)
theorem AsOK.cel {x : Str} {pos} {v : SV} (hk : G.ks.lookup x = some .cell) : AsOK V G (.Name x pos) v loc st (setL x v loc) st := .name (.cell hk)
noncomputable def fTarget (l : List Stmt) (i : Nat) : Expr := match l[i]? with
  | some (.For t _ _ _ _) => t
  | _ => default
noncomputable def fBody (l : List Stmt) (i : Nat) : List Stmt := match l[i]? with
  | some (.For _ _ b _ _) => b
  | some (.While _ b _ _) => b
  | some (.If _ b _ _) => b
  | _ => []
noncomputable def fElse (l : List Stmt) (i : Nat) : List Stmt := match l[i]? with
  | some (.If _ _ b _) => b
  | _ => []
noncomputable def fTest (l : List Stmt) (i : Nat) : Expr := match l[i]? with
  | some (.While t _ _ _) => t
  | some (.If t _ _ _) => t
  | _ => default
end
end Mine
end

section
open PySem PySem.Calls PyProof.Rows
set_option maxRecDepth 100000
set_option maxHeartbeats 1000000
namespace Mine
local macro_rules | `(tactic| omega) => `(tactic| lia)

local macro_rules | `(tactic| tm_at "lk") => `(tactic| repeat' (with_reducible first | exact lookup_hit | exact lookup_set_hit | (apply lookup_miss; kernel_rfl!) | (apply lookup_set_miss; kernel_rfl!)))
local macro_rules | `(tactic| tm_at "ls") => `(tactic| first | (with_reducible apply LSub.of_eq; kernel_rfl!) | repeat' (with_reducible first | exact LSub.nil | (apply LSub.cons; tm_at "lk")))
local macro_rules | `(tactic| tm_at "nm") => `(tactic| with_reducible first
  | exact EvOK.bi_len (by assumption) (by kernel_rfl!)
  | exact EvOK.bi_isinstance (by assumption) (by kernel_rfl!)
  | exact EvOK.bi_bytes (by assumption) (by kernel_rfl!)
  | exact EvOK.bi_str (by assumption) (by kernel_rfl!)
  | exact EvOK.bi_type (by assumption) (by kernel_rfl!)
  | exact EvOK.bi_issubclass (by assumption) (by kernel_rfl!)
  | exact EvOK.bi_list (by assumption) (by kernel_rfl!)
  | exact EvOK.bi_range (by assumption) (by kernel_rfl!)
  | exact EvOK.bi_min (by assumption) (by kernel_rfl!)
  | exact EvOK.bi_reversed (by assumption) (by kernel_rfl!)
  | exact EvOK.bi_enumerate (by assumption) (by kernel_rfl!)
  | exact EvOK.debug
  | (apply EvOK.lclA; kernel_rfl!; kernel_rfl!; tm_at "lk")
  | (apply EvOK.cellA; kernel_rfl!; kernel_rfl!; tm_at "lk")
  | refine EvOK.gf (Gb.pg (by assumption)) (by assumption) (by kernel_rfl!) (by kernel_rfl!))
local macro_rules | `(tactic| tm_at "ev") => `(tactic| with_reducible first
  | (show EvOK _ _ (Expr.Name _ _) _ _ _ _; tm_at "nm")
  | exact EvOK.int | exact EvOK.str | exact EvOK.none' | exact EvOK.bool | apply EvOK.bin | apply EvOK.cmp
  | (show EvOK _ _ (Expr.Call (Expr.Name _ _) _ _ _) _ _ _ _; apply EvOK.call)
  | (show EvOK _ _ (Expr.Call (Expr.Attribute _ _ _) _ _ _) _ _ _ _; apply EvOK.meth)
  | apply EvOK.slice | apply EvOK.sub | apply EvOK.tup | apply EvOK.lst | apply EvOK.neg)
local macro_rules | `(tactic| tm_at "ts") => `(tactic| with_reducible first | apply TsOK.cmp | apply TsOK.not | (show TsOK _ _ (Expr.Call _ _ _ _) _ _ _ _; apply TsOK.call) | (show TsOK _ _ (Expr.Name _ _) _ _ _ _; apply TsOK.name))
local macro_rules | `(tactic| tm_at "cw") => `(tactic| first
  | ((with_reducible show CwOK _ _ (SV.val (Value.builtin _)) [] _ _ _ _ _ _); (with_reducible apply CwOK.bi0))
  | ((with_reducible show CwOK _ _ (SV.val (Value.builtin _)) [_] _ _ _ _ _ _); (with_reducible apply CwOK.bi1))
  | ((with_reducible show CwOK _ _ (SV.val (Value.type _)) [] _ _ _ _ _ _); (with_reducible apply CwOK.ty0))
  | ((with_reducible show CwOK _ _ (SV.gl _) [] _ _ _ _ _ _); (with_reducible apply CwOK.gf0 (by assumption))))
local macro_rules | `(tactic| tm_at "ex") => `(tactic| first
  | (with_reducible first | exact ExOK.nil | exact ExOK.nilN)
  | ((with_reducible show ExOK _ _ (Stmt.Return (some _) _ :: _) _ _ _ _ _); (with_reducible first | apply ExOK.retN | apply ExOK.ret'))
  | ((with_reducible show ExOK _ _ (Stmt.Continue _ :: _) _ _ _ _ _); (with_reducible exact ExOK.cont'))
  | ((with_reducible show ExOK _ _ (Stmt.Assign [Expr.Tuple _ _ _] (Expr.Call _ _ _ _) _ :: _) _ _ _ _ _); (with_reducible apply ExOK.tup'))
  | ((with_reducible show ExOK _ _ (Stmt.Expr _ _ :: _) _ _ _ _ _); (with_reducible apply ExOK.expr'))
  | ((with_reducible show ExOK _ _ (Stmt.Assign [Expr.Name _ _] _ _ :: _) _ _ _ _ _); (fail_if_success (with_reducible show ExOK _ _ (Stmt.Assign _ (Expr.ListComp _ _ _ _) _ :: _) _ _ _ _ _)); (fail_if_success (with_reducible show ExOK _ _ (Stmt.Assign _ (Expr.List [] _) _ :: _) _ _ _ _ _));
     first | ((with_reducible apply ExOK.asgL); kernel_rfl!) | ((with_reducible apply ExOK.asgC); kernel_rfl!)))
local macro_rules | `(tactic| tm_at "leaf") => `(tactic| with_reducible first
  | exact Bin.addInt | exact Bin.subInt | exact Tru.bool | exact Tru.none' | exact NoRef.none
  | exact Cmp.eqStr | exact Cmp.neStr | exact Cmp.eqInt | exact Cmp.neInt | exact Cmp.ltInt | exact Cmp.gtInt | exact Cmp.geInt | exact Cmp.inStr | exact Cmp.notInStr)
local macro_rules | `(tactic| tm_at "leaf2") => `(tactic| with_reducible first
  | apply Bin.addStr | apply SubS.str | apply Bin.mulStr | apply Tru.str)
local macro_rules | `(tactic| tm_at "sd") => `(tactic| first
  | ((with_reducible intro env); (with_reducible show swapsWithSole _ _ _ _ = _); rfl) | ((with_reducible intro env); (with_reducible show swappedStores _ _ _ = _); rfl)
  | ((with_reducible show List.length (_ :: _) = List.length (_ :: _)); rfl)
  | ((with_reducible show List.length _ ≤ sizeLine); exact Nat.le_of_ble_eq_true rfl)
  | ((with_reducible show (_ : Bool) = true); kernel_rfl!) | ((with_reducible show (_ : Bool) = false); kernel_rfl!)
  | ((with_reducible intro env); (with_reducible show PySem.swapsWith _ _ _ _ = _); rfl) | ((with_reducible intro env v); (with_reducible show foldedSetIterable _ _ _ = _); rfl) | ((with_reducible intro env); (with_reducible show attributeBase _ _ _ _ = _); rfl))
local macro_rules | `(tactic| tm_at "gm") => `(tactic| with_reducible first
  | exact GmOK.s_rfind | exact GmOK.s_rstrip | exact GmOK.s_upper | exact GmOK.s_lower | exact GmOK.s_join | exact GmOK.s_split | exact GmOK.s_startswith | exact GmOK.s_endswith | exact GmOK.s_translate | exact GmOK.s_replace | apply GmOK.o_append | apply GmOK.o_pop)
local macro_rules | `(tactic| tm_at "bi") => `(tactic| with_reducible first
  | apply CallOK.lenStr | exact CallOK.rfind | apply CallOK.rstrip | apply CallOK.upper | apply CallOK.lower | exact CallOK.startswith | exact CallOK.endswith | apply CallOK.join | apply CallOK.split | apply CallOK.append | apply CallOK.pop | exact CallOK.isiStrBytes | exact CallOK.isiStrStr | exact CallOK.iscStr | exact CallOK.typeStr | apply CallOK.strInt)
local macro_rules | `(tactic| tm_at "go") => `(tactic| repeat' (first
  | ((with_reducible show EvOK _ _ _ _ _ _ _); tm_at "ev")
  | ((with_reducible show TsOK _ _ _ _ _ _ _); tm_at "ts")
  | ((with_reducible show EvsOK _ _ _ _ _ _ _); (with_reducible first | exact EvsOK.nil | apply EvsOK.cons))
  | ((with_reducible show CwOK _ _ _ _ _ _ _ _ _ _); tm_at "cw")
  | ((with_reducible show PtOK _ _ _ _ _ _ _); (with_reducible first | exact PtOK.none' | apply PtOK.some'))
  | ((with_reducible show ExOK _ _ _ _ _ _ _ _); tm_at "ex")
  | ((with_reducible show CallOK _ _ (SV.gl _) _ _ _ _ _); tm_at "call")
  | ((with_reducible show CallOK _ _ (SV.val _) _ _ _ _ _); tm_at "bi")
  | ((with_reducible show GmOK _ _ _ _ _ _); tm_at "gm")
  | ((with_reducible show AssOK _ _ _ _ _ _); (with_reducible first | exact AssOK.nil | ((apply AssOK.consL); kernel_rfl!)))
  | tm_at "leaf" | tm_at "sd" | tm_at "leaf2"))

section
noncomputable abbrev D_get_sep (V : Cx) := IsDef V "_get_sep" ["path"] (pBody top 26) (pScope top 26)
noncomputable abbrev D_fspath (V : Cx) := IsDef V "fspath" ["path"] (pBody top 22) (pScope top 22)
noncomputable abbrev D_splitroot (V : Cx) := IsDef V "splitroot" ["p"] (pBody top 28) (pScope top 28)
noncomputable abbrev D_dirname (V : Cx) := IsDef V "dirname" ["p"] (pBody top 29) (pScope top 29)
noncomputable abbrev D_normpath (V : Cx) := IsDef V "normpath" ["path"] (pBody top 30) (pScope top 30)

noncomputable def sroot (x : Str) : Str × Str :=
  if Txt.slice x none (some 1) != "/" then ("", x)
  else if Txt.slice x (some 1) (some 2) != "/" || Txt.slice x (some 2) (some 3) == "/" then ("/", Txt.slice x (some 1) none)
  else (Txt.slice x none (some 2), Txt.slice x (some 2) none)
section
variable {V : Cx} {G : Gm} {loc loc₁ loc₂ : Loc} {st st₁ st₂ st₃ : St} {n : Nat}
theorem get_sep_ok {x : Str} (gb : Gb V) (d : D_get_sep V) : CallOK V (n + 1) (.gl "_get_sep") [.str x] [] st (.str "/") st := by
  refine CallOK.gf gb.pg d rfl (by kernel_rfl) (by decide +kernel) (by decide +kernel) (ext := []) (out := .ret (.str "/")) (fun cd => ?_) rfl (.str _)
  simp only [List.append_nil, List.zip_cons_cons, List.zip_nil_right]
  show ExOK _ _ (_ :: _) _ _ _ _ _
  apply ExOK.if_fE
  · tm_at "go"
  · rfl
  · tm_at "go"
  · exact fun h => nomatch h
local macro_rules | `(tactic| tm_at "call") => `(tactic| with_reducible exact get_sep_ok (by assumption) (by assumption))
theorem fspath_ok {x : Str} (gb : Gb V) (d : D_fspath V) : CallOK V (n + 1) (.gl "fspath") [.str x] [] st (.str x) st := by
  refine CallOK.gf gb.pg d rfl (by kernel_rfl) (by decide +kernel) (by decide +kernel) (ext := []) (out := .ret (.str x)) (fun cd => ?_) rfl (.str _)
  simp only [List.append_nil, List.zip_cons_cons, List.zip_nil_right]
  show ExOK _ _ (_ :: _) _ _ _ _ _
  tm_at "go"
  apply ExOK.if_tE
  · tm_at "go"
    all_goals (first | decide | skip)
  · rfl
  · tm_at "go"
  · exact fun h => nomatch h
local macro_rules | `(tactic| tm_at "call") => `(tactic| with_reducible exact fspath_ok (by assumption) (by assumption))
theorem splitroot_ok {x : Str} (gb : Gb V) (d : D_splitroot V) (df : D_fspath V) (hz : x.length ≤ sizeLine) : CallOK V (n + 2) (.gl "splitroot") [.str x] [] st (.tup [.str "", .str (sroot x).1, .str (sroot x).2]) st := by
  refine CallOK.gf gb.pg d rfl (by kernel_rfl) (by decide +kernel) (by decide +kernel) (ext := []) (out := .ret (.tup [.str "", .str (sroot x).1, .str (sroot x).2])) (fun cd => ?_) rfl (calm.fz rfl)
  simp only [List.append_nil, List.zip_cons_cons, List.zip_nil_right]
  show ExOK _ _ (_ :: _) _ _ _ _ _
  tm_at "go"
  apply ExOK.if_f
  · tm_at "go"
  · rfl
  · tm_at "go"
  cases h1 : Txt.slice x none (some 1) != "/" with
  | true =>
    have e : sroot x = (("" : Str), x) := by unfold sroot; rw [h1]; rfl
    rw [e]
    apply ExOK.if_tE
    · tm_at "go"
      all_goals (first | exact hz | skip)
    · exact h1
    · tm_at "go"
      all_goals (first | decide | skip)
    · exact fun h => nomatch h
  | false =>
    apply ExOK.if_fE
    · tm_at "go"
      all_goals (first | exact hz | skip)
    · exact h1
    · cases h2 : Txt.slice x (some 1) (some 2) != "/" || Txt.slice x (some 2) (some 3) == "/" with
      | true =>
        have e : sroot x = (("/" : Str), Txt.slice x (some 1) none) := by unfold sroot; rw [h1, h2]; rfl
        rw [e]
        apply ExOK.if_tE
        · apply TsOK.or2
          · tm_at "go"
            all_goals (first | exact hz | skip)
          · intro _
            tm_at "go"
            all_goals (first | exact hz | skip)
        · exact h2
        · tm_at "go"
          all_goals (first | decide | exact hz | skip)
        · exact fun h => nomatch h
      | false =>
        have e : sroot x = (Txt.slice x none (some 2), Txt.slice x (some 2) none) := by unfold sroot; rw [h1, h2]; rfl
        rw [e]
        apply ExOK.if_fE
        · apply TsOK.or2
          · tm_at "go"
            all_goals (first | exact hz | skip)
          · intro _
            tm_at "go"
            all_goals (first | exact hz | skip)
        · exact h2
        · tm_at "go"
          all_goals (first | decide | exact hz | skip)
        · exact fun h => nomatch h
    · exact fun h => nomatch h


noncomputable def dirn (x : Str) : Str :=
  let i := Txt.rfind x "/" + 1
  let head := Txt.slice x none (some i)
  if head.length ≠ 0 ∧ head != Txt.mul "/" head.length then Txt.rstripChars head "/" else head
local macro_rules | `(tactic| tm_at "call") => `(tactic| with_reducible apply splitroot_ok (by assumption) (by assumption) (by assumption))
theorem dirname_ok {x : Str} (gb : Gb V) (d : D_dirname V) (df : D_fspath V) (dg : D_get_sep V) (hz : x.length ≤ 1000) : CallOK V (n + 2) (.gl "dirname") [.str x] [] st (.str (dirn x)) st := by
  have hs : (Txt.slice x none (some (Txt.rfind x "/" + 1))).length ≤ x.length := Txt.slice_le x _ _
  refine CallOK.gf gb.pg d rfl (by kernel_rfl) (by decide +kernel) (by decide +kernel) (ext := []) (out := .ret (.str (dirn x))) (fun cd => ?_) rfl (calm.fz rfl)
  simp only [List.append_nil, List.zip_cons_cons, List.zip_nil_right]
  show ExOK _ _ (_ :: _) _ _ _ _ _
  tm_at "go"
  · show _ ≤ (16777216 : Nat)
    omega
  obtain ⟨head, hH⟩ : ∃ h, Txt.slice x none (some (Txt.rfind x "/" + 1)) = h := ⟨_, rfl⟩
  rw [hH] at hs ⊢
  have hl0 : (head.length : Int) < 2 ^ 63 := by omega
  have hm : MulOk ("/" : Str) head.length := MulOk.slash (by omega) (by omega)
  cases hc : (((head.length : Int) != 0) && (head != Txt.mul "/" head.length)) with
  | true =>
    have e : dirn x = Txt.rstripChars head "/" := by
      unfold dirn
      simp only [hH]
      rw [Bool.and_eq_true] at hc
      rw [if_pos ⟨by simpa using hc.1, hc.2⟩]
    rw [e]
    apply ExOK.if_t
    · apply TsOK.and2
      · tm_at "go"
        exact hl0
      · intro _
        tm_at "go"
        · exact hl0
        · exact hm
    · exact hc
    · tm_at "go"
      show _ ≤ (16777216 : Nat)
      omega
    · tm_at "go"
  | false =>
    have e : dirn x = head := by
      unfold dirn
      simp only [hH]
      refine if_neg fun h => ?_
      rw [Bool.and_eq_false_iff] at hc
      rcases hc with hc | hc
      · simp at hc; exact h.1 hc
      · rw [h.2] at hc; cases hc
    rw [e]
    apply ExOK.if_no
    · apply TsOK.and2
      · tm_at "go"
        exact hl0
      · intro _
        tm_at "go"
        · exact hl0
        · exact hm
    · exact hc
    · tm_at "go"
end
end

section
noncomputable def nstep (r : Str) (acc : List Str) (c : Str) : List Str :=
  if c.length = 0 ∨ c = "." then acc
  else if c ≠ ".." ∨ (r.length = 0 ∧ acc = []) ∨ acc.getLast? = some (".." : Str) then acc ++ [c]
  else acc.dropLast
noncomputable def normp (x : Str) : Str :=
  if x.length = 0 then "." else
  let r := (sroot x).1
  let nc := (Txt.split (sroot x).2 "/").foldl (nstep r) []
  let p := r ++ Txt.join "/" nc
  if p.length = 0 then "." else p
local macro_rules | `(tactic| tm_at "call") => `(tactic| with_reducible exact get_sep_ok (by assumption) (by assumption))
local macro_rules | `(tactic| tm_at "call") => `(tactic| with_reducible exact fspath_ok (by assumption) (by assumption))
local macro_rules | `(tactic| tm_at "call") => `(tactic| with_reducible apply splitroot_ok (by assumption) (by assumption) (by assumption))
section
variable {V : Cx} {G : Gm} {loc loc₁ loc₂ : Loc} {st st₁ st₂ st₃ : St} {n : Nat}
noncomputable abbrev normL (r : Str) (k : Nat) : Loc := [("initial_slashes", .str r), ("sep", .str "/"), ("dot", .str "."), ("dotdot", .str ".."), ("new_comps", .obj k)]
theorem norm_turn {m : Nat} {cd : Value} {r c : Str} {acc : List Str} (gb : Gb V) (hr : r.length ≤ 1000) (hc1 : c.length ≤ 1000) (hl : acc.length ≤ 2000) :
    ∃ o : Out, o.goes = true ∧ ExOK V ⟨m, (pScope top 30).names, cd⟩ (fBody (pBody top 30) 6) (setL "comp" (.str c) (normL r st.length)) (st ++ [acc.map .str]) o (setL "comp" (.str c) (normL r st.length)) (st ++ [(nstep r acc c).map .str]) := by
  have hZ : sizeLine = 16777216 := rfl
  by_cases h1 : c.length = 0 ∨ c = "."
  · have e : nstep r acc c = acc := by unfold nstep; rw [if_pos h1]
    rw [e]
    refine ⟨.cont, rfl, ?_⟩
    show ExOK _ _ (_ :: _) _ _ _ _ _
    apply ExOK.if_tE
    · apply TsOK.or2
      · tm_at "go"
        omega
      · intro _
        tm_at "go"
    · rcases h1 with h | h
      · simp [h]
      · subst h; simp
    · tm_at "go"
    · exact fun h => nomatch h
  · have hA : asL (st ++ [acc.map SV.str]) (.obj st.length) = some (acc.map .str) := obj_at
    have hla : ((acc.map SV.str).length : Int) < 2 ^ 63 := by rw [List.length_map]; omega
    have first : ∀ {xs : List Stmt} {out : Out} {loc' : Loc} {st' : St}, ExOK V ⟨m, (pScope top 30).names, cd⟩ (fBody (pBody top 30) 6).tail (setL "comp" (.str c) (normL r st.length)) (st ++ [acc.map .str]) out loc' st' →
        ExOK V ⟨m, (pScope top 30).names, cd⟩ (fBody (pBody top 30) 6) (setL "comp" (.str c) (normL r st.length)) (st ++ [acc.map .str]) out loc' st' := by
      intro xs out loc' st' h
      show ExOK _ _ (_ :: _) _ _ _ _ _
      refine ExOK.if_no (r := !((c.length : Int) != 0) || c == ".") ?_ ?_ h
      · apply TsOK.or2
        · tm_at "go"
          omega
        · intro _
          tm_at "go"
      · rw [not_or] at h1
        simp only [Bool.or_eq_false_iff]
        refine ⟨by simpa using h1.1, by simpa using h1.2⟩
    have test : ∀ b, b = ((c != ".." || (!((r.length : Int) != 0) && !(!(acc.map SV.str).isEmpty)) || (!(acc.map SV.str).isEmpty && (acc.getLast? == some (".." : Str))))) →
        TsOK V ⟨m, (pScope top 30).names, cd⟩ (fTest (fBody (pBody top 30) 6) 1) (setL "comp" (.str c) (normL r st.length)) (st ++ [acc.map .str]) b (st ++ [acc.map .str]) := by
      intro b hb
      subst hb
      show TsOK _ _ (Expr.BoolOp _ [_, _, _] _) _ _ _ _
      apply TsOK.or3
      · tm_at "go"
      · intro _
        apply TsOK.and2
        · tm_at "go"
          omega
        · intro _
          apply TsOK.not
          apply TsOK.name
          · tm_at "go"
          · exact Tru.lst hA hla
      · intro _ _
        apply TsOK.and2
        · apply TsOK.name
          · tm_at "go"
          · exact Tru.lst hA hla
        · intro hne
          rcases List.eq_nil_or_concat acc with h | ⟨init, l, h⟩
          · subst h; simp at hne
          · subst h
            have e : (init ++ [l]).getLast? = some l := by simp
            rw [List.concat_eq_append, e]
            show TsOK _ _ _ _ _ (l == ("..":Str)) _
            apply TsOK.cmp
            · apply EvOK.sub
              · tm_at "go"
              · tm_at "go"
              · have e4 : ((init ++ [l]).map SV.str).length = init.length + 1 := by simp
                refine Sub.lstNeg (v := .str l) (xs := (init ++ [l]).map SV.str) obj_at (by omega) ?_ (by omega) ?_
                · rw [e4]; omega
                · rw [e4, show ((-1 : Int) + ((init.length + 1 : Nat) : Int)).toNat = init.length by omega]
                  simp
              · rfl
            · tm_at "go"
            · exact Cmp.eqStr
            · rfl
    by_cases h2 : c ≠ ".." ∨ (r.length = 0 ∧ acc = []) ∨ acc.getLast? = some (".." : Str)
    · have e : nstep r acc c = acc ++ [c] := by unfold nstep; rw [if_neg h1, if_pos h2]
      have e3 : (acc ++ [c]).map SV.str = acc.map .str ++ [.str c] := by simp
      rw [e, e3]
      refine ⟨.next, rfl, first (xs := []) ?_⟩
      show ExOK _ _ (_ :: _) _ _ _ _ _
      refine ExOK.if_t (test true ?_) rfl ?_ .nil
      · symm
        simp only [Bool.or_eq_true, Bool.and_eq_true]
        rcases h2 with h | ⟨h, h'⟩ | h
        · left; left; simpa using h
        · left; right; subst h'; simp [h]
        · right
          refine ⟨?_, by rw [h]; simp⟩
          cases acc with
          | nil => simp at h
          | cons => simp
      · show ExOK _ _ (_ :: _) _ _ _ _ _
        apply ExOK.expr'
        · apply EvOK.meth
          · tm_at "go"
          · exact GmOK.o_append obj_at
          · apply CwOK.bi1
            · rfl
            · tm_at "go"
            · have q := CallOK.append (V := V) (n := m) (st := st ++ [acc.map SV.str]) (i := st.length) (v := .str c) obj_at (by rw [List.length_map]; omega)
              rw [obj_set] at q
              exact q
          · exact fun _ => rfl
          · rfl
          · rfl
          · rfl
          · rfl
        · exact NoRef.none
        · exact fun _ => rfl
        · exact .nil
    · have e : nstep r acc c = acc.dropLast := by unfold nstep; rw [if_neg h1, if_neg h2]
      rw [e]
      refine ⟨.next, rfl, first (xs := []) ?_⟩
      show ExOK _ _ (_ :: _) _ _ _ _ _
      rw [not_or, not_or] at h2
      have ht : TsOK V ⟨m, (pScope top 30).names, cd⟩ (fTest (fElse (fBody (pBody top 30) 6) 1) 0) (setL "comp" (.str c) (normL r st.length)) (st ++ [acc.map .str]) (!(acc.map SV.str).isEmpty) (st ++ [acc.map .str]) := by
        show TsOK _ _ (Expr.Name _ _) _ _ _ _
        apply TsOK.name
        · tm_at "go"
        · exact Tru.lst hA hla
      refine ExOK.if_f (test false ?_) rfl ?_ .nil
      · symm
        simp only [Bool.or_eq_false_iff, Bool.and_eq_false_iff]
        refine ⟨⟨by simpa using h2.1, ?_⟩, ?_⟩
        · by_cases hr0 : r.length = 0
          · right
            have : acc ≠ [] := fun h => h2.2.1 ⟨hr0, h⟩
            cases acc with
            | nil => exact absurd rfl this
            | cons => simp
          · left; simp; exact hr0
        · right
          simpa using h2.2.2
      · show ExOK _ _ (_ :: _) _ _ _ _ _
        rcases List.eq_nil_or_concat acc with h | ⟨init, l, h⟩
        · subst h
          exact ExOK.if_f ht rfl .nil .nil
        · rw [List.concat_eq_append] at h
          subst h
          rw [List.dropLast_concat]
          refine ExOK.if_t ht (by simp) ?_ .nil
          show ExOK _ _ (_ :: _) _ _ _ _ _
          apply ExOK.expr'
          · apply EvOK.meth
            · tm_at "go"
            · exact GmOK.o_pop obj_at
            · apply CwOK.bi1
              · rfl
              · tm_at "go"
              · have q := CallOK.pop (V := V) (n := m) (st := st ++ [(init ++ [l]).map SV.str]) (i := st.length) (xs := init.map .str) (v := .str l) (by rw [obj_at, List.map_append]; rfl) (by rw [List.length_map]; simp at hl; omega)
                rw [obj_set] at q
                exact q
            · exact fun _ => rfl
            · rfl
            · rfl
            · rfl
            · rfl
          · exact NoRef.str _
          · exact fun _ => rfl
          · exact .nil
theorem norm_loop {m : Nat} {cd : Value} {r : Str} (gb : Gb V) (hr : r.length ≤ 1000) : ∀ (cs acc : List Str), (∀ c ∈ cs, c.length ≤ 1000) → acc.length + cs.length ≤ 2000 →
    FoOK V ⟨m, (pScope top 30).names, cd⟩ (fun _ => True) (fTarget (pBody top 30) 6) (fBody (pBody top 30) 6) (cs.map .str) (normL r st.length) (st ++ [acc.map .str]) .next (normL r st.length) (st ++ [(cs.foldl (nstep r) acc).map .str])
  | [], acc, _, _ => .nil trivial
  | c :: cs, acc, hc, hl => by
    have ih := norm_loop (m := m) (cd := cd) gb hr cs (nstep r acc c) (fun d hd => hc d (List.mem_cons_of_mem _ hd)) (by
      have : (nstep r acc c).length ≤ acc.length + 1 := by unfold nstep; split <;> (try split) <;> simp <;> omega
      simp at hl; omega)
    rw [List.map_cons, List.foldl_cons]
    obtain ⟨o, ho, ht⟩ := norm_turn (m := m) (cd := cd) (st := st) (acc := acc) gb hr (hc c List.mem_cons_self) (by omega)
    refine FoOK.turn trivial (AsOK.lcl (by kernel_rfl)) ht ho (FoOK.sub ?_ ih)
    tm_at "ls"
theorem nstep_mem {r : Str} : ∀ (cs acc : List Str), (∀ c ∈ cs.foldl (nstep r) acc, c ∈ acc ∨ c ∈ cs) ∧ (cs.foldl (nstep r) acc).length ≤ acc.length + cs.length
  | [], acc => ⟨fun c h => .inl h, by simp⟩
  | d :: cs, acc => by
    obtain ⟨a, b⟩ := nstep_mem (r := r) cs (nstep r acc d)
    have hl : (nstep r acc d).length ≤ acc.length + 1 := by unfold nstep; split <;> (try split) <;> simp <;> omega
    refine ⟨fun c h => ?_, by rw [List.foldl_cons, List.length_cons]; omega⟩
    rw [List.foldl_cons] at h
    rcases a c h with h | h
    · unfold nstep at h
      split at h
      · exact .inl h
      · split at h
        · rcases List.mem_append.mp h with h | h
          · exact .inl h
          · simp at h; subst h; exact .inr List.mem_cons_self
        · exact .inl (List.dropLast_subset _ h)
    · exact .inr (List.mem_cons_of_mem _ h)
theorem foldl_len {B k : Nat} : ∀ (l : List Str) (s : Nat), (∀ x ∈ l, x.length ≤ B) → l.foldl (fun a x => a + x.length + k) s ≤ s + l.length * (B + k)
  | [], s, _ => by simp
  | x :: l, s, h => by
    have h1 := h x List.mem_cons_self
    have ih := foldl_len (B := B) (k := k) l (s + x.length + k) (fun y hy => h y (List.mem_cons_of_mem _ hy))
    rw [List.foldl_cons, List.length_cons, Nat.succ_mul]
    omega
theorem joinOk_of {sep : Str} {l : List Str} {B N : Nat} (h : ∀ x ∈ l, x.length ≤ B) (hn : l.length ≤ N) (hb : N * (B + sep.length) ≤ 16777216) : JoinOk sep l = true := by
  unfold JoinOk Builtin.Str.tooLong
  have := foldl_len (k := sep.length) l 0 h
  have h2 : l.length * (B + sep.length) ≤ N * (B + sep.length) := Nat.mul_le_mul_right _ hn
  have e : l.toArray.foldl (fun a x => a + x.length + sep.length) 0 = l.foldl (fun a x => a + x.length + sep.length) 0 := by simp
  rw [e]
  simp only [sizeLine]
  simp
  omega
theorem sum_len {B : Nat} : ∀ (l : List Str), (∀ x ∈ l, x.length ≤ B) → (l.map (·.length)).sum ≤ l.length * B
  | [], _ => by simp
  | x :: l, h => by
    have h1 := h x List.mem_cons_self
    have ih := sum_len l fun y hy => h y (List.mem_cons_of_mem _ hy)
    rw [List.map_cons, List.sum_cons, List.length_cons, Nat.succ_mul]
    omega
theorem join_len {sep : Str} {l : List Str} {B N : Nat} (h : ∀ x ∈ l, x.length ≤ B) (hn : l.length ≤ N) : (Txt.join sep l).length ≤ N * (B + sep.length) := by
  have h1 := StrLaws.join_length_le sep l
  have h2 := sum_len l h
  have h3 : l.length * B ≤ N * B := Nat.mul_le_mul_right _ hn
  have h4 : l.length * sep.length ≤ N * sep.length := Nat.mul_le_mul_right _ hn
  have e : Txt.join sep l = Str.join sep l := StrLaws.glued_eq_join sep l
  rw [e]
  rw [Nat.mul_add]
  omega
open Builtin.Str in
theorem split_len {x y : Str} : (∀ p ∈ Txt.split x y, p.length ≤ x.length) ∧ (Txt.split x y).length ≤ x.length + 2 ∧ (partsBetween x (occurrences x y 0 x.length (x.length + 1)) y.length).length ≤ x.length + 2 := by
  have hp : (partsBetween x (occurrences x y 0 x.length (x.length + 1)) y.length).length ≤ x.length + 2 := by
    rw [length_partsBetween]
    have := StrLaws.occ_length_le x y 0 x.length (x.length + 1)
    omega
  have hm : ∀ p ∈ partsBetween x (occurrences x y 0 x.length (x.length + 1)) y.length, p.length ≤ x.length := by
    intro p hp
    unfold partsBetween at hp
    obtain ⟨⟨i, j⟩, _, rfl⟩ := List.mem_map.mp hp
    show (x.cps.extract i j).size ≤ x.cps.size
    simp
    omega
  have key : Txt.split x y = [x] ∨ Txt.split x y = partsBetween x (occurrences x y 0 x.length (x.length + 1)) y.length := by
    unfold Txt.split
    split
    · exact .inl rfl
    · split
      · exact .inl rfl
      · exact .inr rfl
  rcases key with e | e
  · rw [e]; exact ⟨by simp, by simp, hp⟩
  · rw [e]; exact ⟨hm, hp, hp⟩
theorem normpath_ok {x : Str} (gb : Gb V) (d : D_normpath V) (df : D_fspath V) (ds : D_splitroot V) (hz : x.length ≤ 1000) : CallOK V (n + 3) (.gl "normpath") [.str x] [] st (.str (normp x)) st := by
  by_cases hx : x.length = 0
  · refine CallOK.gf gb.pg d rfl (by kernel_rfl) (by decide +kernel) (by decide +kernel) (ext := []) (out := .ret (.str (normp x))) (fun cd => ?_) rfl (calm.fz rfl)
    have e : normp x = "." := by unfold normp; rw [if_pos hx]
    rw [e]
    simp only [List.append_nil, List.zip_cons_cons, List.zip_nil_right]
    show ExOK _ _ (_ :: _) _ _ _ _ _
    tm_at "go"
    apply ExOK.if_f
    · tm_at "go"
    · rfl
    · tm_at "go"
    apply ExOK.if_tE
    · tm_at "go"
      omega
    · simp; exact hx
    · tm_at "go"
    · exact fun h => nomatch h
  · refine CallOK.gf gb.pg d rfl (by kernel_rfl) (by decide +kernel) (by decide +kernel) (ext := [((Txt.split (sroot x).2 "/").foldl (nstep (sroot x).1) []).map .str]) (out := .ret (.str (normp x))) (fun cd => ?_) rfl (calm.fz rfl)
    simp only [List.append_nil, List.zip_cons_cons, List.zip_nil_right]
    show ExOK _ _ (_ :: _) _ _ _ _ _
    tm_at "go"
    apply ExOK.if_f
    · tm_at "go"
    · rfl
    · tm_at "go"
    apply ExOK.if_no
    · tm_at "go"
      omega
    · simp; exact hx
    have hr1 : (sroot x).1.length ≤ 1000 ∧ (sroot x).2.length ≤ 1000 := by
      unfold sroot
      have s1 := Txt.slice_le x (some 1) none
      have s2 := Txt.slice_le x none (some 2)
      have s3 := Txt.slice_le x (some 2) none
      have e0 : ("" : Str).length = 0 := by decide +kernel
      have e1 : ("/" : Str).length = 1 := by decide +kernel
      split
      · exact ⟨by show ("" : Str).length ≤ 1000; omega, hz⟩
      · split
        · exact ⟨by show ("/" : Str).length ≤ 1000; omega, by show (Txt.slice x (some 1) none).length ≤ 1000; omega⟩
        · exact ⟨by show (Txt.slice x none (some 2)).length ≤ 1000; omega, by show (Txt.slice x (some 2) none).length ≤ 1000; omega⟩
    obtain ⟨p1, p2, p3⟩ := split_len (x := (sroot x).2) (y := "/")
    obtain ⟨q1, q2⟩ := nstep_mem (r := (sroot x).1) (Txt.split (sroot x).2 "/") []
    have hpl : ∀ c ∈ Txt.split (sroot x).2 "/", c.length ≤ 1000 := fun c hc => Nat.le_trans (p1 c hc) hr1.2
    have hql : ∀ c ∈ (Txt.split (sroot x).2 "/").foldl (nstep (sroot x).1) [], c.length ≤ 1000 := fun c hc => by
      rcases q1 c hc with h | h
      · cases h
      · exact hpl c h
    have hqn : ((Txt.split (sroot x).2 "/").foldl (nstep (sroot x).1) []).length ≤ 1002 := by simp at q2; omega
    have e1 : ("/" : Str).length = 1 := by decide +kernel
    have hj := join_len (sep := ("/" : Str)) hql hqn
    rw [e1] at hj
    have hZ : sizeLine = 16777216 := rfl
    tm_at "go"
    · omega
    · omega
    · omega
    · apply ExOK.asgL
      · kernel_rfl!
      · apply EvOK.lstObj
        · exact EvsOK.nil
        · exact Nat.zero_le _
      · exact fun _ => rfl
      · apply ExOK.for'
        · exact fun _ _ => rfl
        · apply HdOK.lst
          tm_at "go"
        · refine FoOK.sub ?_ (norm_loop (r := (sroot x).1) (acc := []) (cs := Txt.split (sroot x).2 "/") gb hr1.1 hpl (by simp; omega))
          tm_at "ls"
        · apply ExOK.asgL
          · kernel_rfl!
          · tm_at "go"
          · exact fun _ => rfl
          · apply ExOK.asgL
            · kernel_rfl!
            · apply EvOK.bin
              · tm_at "go"
              · apply EvOK.meth
                · tm_at "go"
                · exact GmOK.s_join
                · apply CwOK.bi1
                  · rfl
                  · tm_at "go"
                  · exact CallOK.join obj_at (joinOk_of hql hqn (by rw [e1]; omega))
                · exact fun _ => rfl
                · rfl
                · rfl
                · rfl
                · rfl
              · exact Bin.addStr (by omega)
            · exact fun _ => rfl
            · have e : SV.str (normp x) = .str (if ((sroot x).1 ++ Txt.join "/" ((Txt.split (sroot x).2 "/").foldl (nstep (sroot x).1) [])).length = 0 then (".":Str) else (sroot x).1 ++ Txt.join "/" ((Txt.split (sroot x).2 "/").foldl (nstep (sroot x).1) [])) := by
                unfold normp; rw [if_neg hx]
              rw [e]
              apply ExOK.retN
              apply EvOK.orStr
              · tm_at "go"
              · have : ((sroot x).1 ++ Txt.join "/" ((Txt.split (sroot x).2 "/").foldl (nstep (sroot x).1) [])).length = (sroot x).1.length + (Txt.join "/" ((Txt.split (sroot x).2 "/").foldl (nstep (sroot x).1) [])).length := Str.length_append ..
                rw [this]; omega
              · tm_at "go"
end
end

section
noncomputable abbrev D_fits (V : Cx) := IsDef V "_law_fits" ["part", "sign"] (pBody top 35) (pScope top 35)
noncomputable abbrev D_most (V : Cx) := IsDef V "_law_first_of_most" ["found"] (pBody top 38) (pScope top 38)
noncomputable abbrev D_either (V : Cx) := IsDef V "_law_either" ["text"] (pBody top 34) (pScope top 34)
noncomputable abbrev D_names (V : Cx) := IsDef V "_law_names" ["lead", "row"] (pBody top 33) (pScope top 33)
noncomputable abbrev D_way (V : Cx) := IsDef V "_law_way" ["n"] (pBody top 32) (pScope top 32)

theorem at_str {V : Cx} {st : St} {x : Str} {i c : Nat} (hi : i < 1000) (h : x.cps[i]? = some c) : Sub V (.str x) (.int (i : Int)) st (.str ⟨#[c]⟩) := by
  refine Sub.str (by simp; omega) ?_
  have hl : i < x.length := (Array.getElem?_eq_some_iff.mp h).1
  have e : seqIndex? (i : Int) x.length = some i := by
    unfold seqIndex?
    simp
    omega
  rw [e]
  exact h


noncomputable def fitsL (part sign : Str) (c0 c1 : Nat) : Bool :=
  if (⟨#[c0]⟩ : Str) == "\\" then sign == Txt.slice part (some 1) none
  else if (⟨#[c0]⟩ : Str) != "[" then sign == part && !Txt.contains ".]-^~ " sign
  else if (⟨#[c1]⟩ : Str) == "\\" then sign == Txt.slice part (some 2) (some (-1))
  else Txt.contains (Txt.slice part (some 1) (some (-1))) sign && sign != "["
section
variable {V : Cx} {G : Gm} {loc loc₁ loc₂ : Loc} {st st₁ st₂ st₃ : St} {n : Nat}
theorem fits_ok {part sign : Str} {c0 c1 : Nat} (gb : Gb V) (d : D_fits V) (h0 : part.cps[0]? = some c0) (h1 : (⟨#[c0]⟩ : Str) = "[" → part.cps[1]? = some c1) (hz : part.length ≤ 1000) :
    CallOK V (n + 1) (.gl "_law_fits") [.str part, .str sign] [] st (.bool (fitsL part sign c0 c1)) st := by
  have hZ : sizeLine = 16777216 := rfl
  refine CallOK.gf gb.pg d rfl (by kernel_rfl) (by decide +kernel) (by decide +kernel) (ext := []) (out := .ret (.bool (fitsL part sign c0 c1))) (fun cd => ?_) rfl (calm.fz rfl)
  simp only [List.append_nil, List.zip_cons_cons, List.zip_nil_right]
  show ExOK _ _ (_ :: _) _ _ _ _ _
  cases e0 : ((⟨#[c0]⟩ : Str) == "\\") with
  | true =>
    apply ExOK.if_tE
    · tm_at "go"
      exact at_str (i := 0) (by omega) h0
      tm_at "go"
    · exact e0
    · have e : fitsL part sign c0 c1 = (sign == Txt.slice part (some 1) none) := by unfold fitsL; rw [e0]; rfl
      rw [e]
      tm_at "go"
      omega
    · exact fun h => nomatch h
  | false =>
    apply ExOK.if_no
    · tm_at "go"
      exact at_str (i := 0) (by omega) h0
      tm_at "go"
    · exact e0
    cases e1 : ((⟨#[c0]⟩ : Str) != "[") with
    | true =>
      have e : fitsL part sign c0 c1 = (sign == part && !Txt.contains ".]-^~ " sign) := by unfold fitsL; rw [e0, e1]; rfl
      rw [e]
      apply ExOK.if_tE
      · tm_at "go"
        exact at_str (i := 0) (by omega) h0
        tm_at "go"
      · exact e1
      · apply ExOK.retN
        apply EvOK.and2
        · tm_at "go"
        · intro _
          tm_at "go"
      · exact fun h => nomatch h
    | false =>
      have h1' := h1 (by simpa using e1)
      apply ExOK.if_no
      · tm_at "go"
        exact at_str (i := 0) (by omega) h0
        tm_at "go"
      · exact e1
      cases e2 : ((⟨#[c1]⟩ : Str) == "\\") with
      | true =>
        have e : fitsL part sign c0 c1 = (sign == Txt.slice part (some 2) (some (-1))) := by unfold fitsL; rw [e0, e1, e2]; rfl
        rw [e]
        apply ExOK.if_tE
        · tm_at "go"
          exact at_str (i := 1) (by omega) h1'
          tm_at "go"
        · exact e2
        · tm_at "go"
          omega
        · exact fun h => nomatch h
      | false =>
        have e : fitsL part sign c0 c1 = (Txt.contains (Txt.slice part (some 1) (some (-1))) sign && sign != "[") := by unfold fitsL; rw [e0, e1, e2]; rfl
        rw [e]
        apply ExOK.if_no
        · tm_at "go"
          exact at_str (i := 1) (by omega) h1'
          tm_at "go"
        · exact e2
        apply ExOK.retN
        apply EvOK.and2
        · tm_at "go"
          omega
        · intro _
          tm_at "go"


noncomputable def most : Option (Int × Str) → List (Int × Str) → Option (Int × Str)
  | b, [] => b
  | none, p :: l => most (some p) l
  | some b, p :: l => if b.1 < p.1 then most (some p) l else most (some b) l
noncomputable abbrev bestSV : Option (Int × Str) → SV
  | none => .none
  | some p => .tup [.int p.1, .str p.2]
noncomputable abbrev optSV : Option Str → SV
  | none => .none
  | some x => .str x
noncomputable abbrev pairSV (p : Int × Str) : SV := .tup [.int p.1, .str p.2]
noncomputable abbrev mostL (k : Nat) (b : Option (Int × Str)) : Loc := [("found", .obj k), ("best", bestSV b)]
theorem Cmp.isNoneOpt {b : Option (Int × Str)} : Cmp V n .Is (bestSV b) .none st b.isNone := by
  cases b with
  | none => exact Cmp.isNone
  | some p => exact Cmp.isNone' (.tup _)
theorem most_loop {m : Nat} {cd : Value} {k : Nat} {C : St → Prop} (gb : Gb V) (hC : C st) : ∀ (l : List (Int × Str)) (b : Option (Int × Str)),
    FoOK V ⟨m, (pScope top 38).names, cd⟩ C (fTarget (pBody top 38) 1) (fBody (pBody top 38) 1) (l.map pairSV) (mostL k b) st .next (mostL k (most b l)) st
  | [], b => by cases b <;> exact .nil hC
  | p :: l, b => by
    have sz : AsOK V ⟨m, (pScope top 38).names, cd⟩ (fTarget (pBody top 38) 1) (pairSV p) (mostL k b) st (setL "value" (.str p.2) (setL "size" (.int p.1) (mostL k b))) st := by
      refine AsOK.tup rfl rfl ?_
      tm_at "go"
    have go : ∀ b', ExOK V ⟨m, (pScope top 38).names, cd⟩ (fBody (pBody top 38) 1) (setL "value" (.str p.2) (setL "size" (.int p.1) (mostL k b))) st .next (setL "best" (bestSV b') (setL "value" (.str p.2) (setL "size" (.int p.1) (mostL k b)))) st →
        most b (p :: l) = most b' l → FoOK V ⟨m, (pScope top 38).names, cd⟩ C (fTarget (pBody top 38) 1) (fBody (pBody top 38) 1) ((p :: l).map pairSV) (mostL k b) st .next (mostL k (most b (p :: l))) st := by
      intro b' h e
      rw [List.map_cons, e]
      refine FoOK.turn hC sz h rfl (FoOK.sub ?_ (most_loop gb hC l b'))
      tm_at "ls"
    cases b with
    | none =>
      refine go (some p) ?_ rfl
      show ExOK _ _ (_ :: _) _ _ _ _ _
      apply ExOK.if_t
      · apply TsOK.or2 (b := true) (c := true)
        · tm_at "go"
          exact Cmp.isNone
        · intro h; cases h
      · rfl
      · tm_at "go"
      · tm_at "go"
    | some q =>
      have ht : TsOK V ⟨m, (pScope top 38).names, cd⟩ (fTest (fBody (pBody top 38) 1) 0) (setL "value" (.str p.2) (setL "size" (.int p.1) (mostL k (some q)))) st (false || decide (q.1 < p.1)) st := by
        show TsOK _ _ (Expr.BoolOp _ [_, _] _) _ _ _ _
        apply TsOK.or2
        · tm_at "go"
          exact Cmp.isNone' (.tup _)
        · intro _
          apply TsOK.cmp
          · tm_at "go"
          · apply EvOK.sub
            · tm_at "go"
            · tm_at "go"
            · exact Sub.tup (v := .int q.1) (j := 0) (by decide) (by decide) rfl rfl
            · rfl
          · exact Cmp.gtInt
          · rfl
      by_cases hq : q.1 < p.1
      · refine go (some p) ?_ (by rw [most, if_pos hq])
        show ExOK _ _ (_ :: _) _ _ _ _ _
        refine ExOK.if_t ht (by simpa using hq) ?_ .nil
        tm_at "go"
      · rw [List.map_cons, show most (some q) (p :: l) = most (some q) l by rw [most, if_neg hq]]
        refine FoOK.turn hC sz (o := .next) (loc₂ := setL "value" (.str p.2) (setL "size" (.int p.1) (mostL k (some q)))) ?_ rfl (FoOK.sub ?_ (most_loop gb hC l (some q)))
        · show ExOK _ _ (_ :: _) _ _ _ _ _
          exact ExOK.if_no ht (by simpa using hq) .nil
        · tm_at "ls"
theorem most_ok {k : Nat} {l : List (Int × Str)} (gb : Gb V) (d : D_most V) (hk : st[k]? = some (l.map pairSV)) : CallOK V (n + 1) (.gl "_law_first_of_most") [.obj k] [] st (optSV ((most none l).map (·.2))) st := by
  refine CallOK.gf gb.pg d rfl (by kernel_rfl) (by decide +kernel) (by decide +kernel) (ext := []) (out := .ret (optSV ((most none l).map (·.2)))) (fun cd => ?_) rfl (calm.fz (by cases most none l <;> rfl))
  simp only [List.append_nil, List.zip_cons_cons, List.zip_nil_right]
  show ExOK _ _ (_ :: _) _ _ _ _ _
  tm_at "go"
  apply ExOK.for'
  · exact fun _ _ => rfl
  · apply HdOK.obj
    · tm_at "go"
    · exact hk
  · refine FoOK.sub ?_ (most_loop (k := k) gb hk l none)
    tm_at "ls"
  · cases h : most none l with
    | none =>
      apply ExOK.retN
      refine EvOK.ifexp_true (st₁ := st) ?_ ?_
      · apply TsOK.cmp
        · tm_at "go"
        · tm_at "go"
        · exact Cmp.isNone
        · rfl
      · exact EvOK.none'
    | some p =>
      apply ExOK.retN
      refine EvOK.ifexp_false (st₁ := st) ?_ ?_
      · apply TsOK.cmp
        · tm_at "go"
        · tm_at "go"
        · exact Cmp.isNone' (.tup _)
        · rfl
      · apply EvOK.sub
        · tm_at "go"
        · tm_at "go"
        · exact Sub.tup (v := .str p.2) (j := 1) (by decide) (by decide) rfl rfl
        · rfl


noncomputable def either1 (s : Str) : Str :=
  if Txt.lower s != Txt.upper s then "[" ++ Txt.lower s ++ Txt.upper s ++ "]"
  else if Txt.contains "*?[" s then "[" ++ s ++ "]"
  else s
noncomputable def eitherF (w s : Str) : Str :=
  if Txt.lower s != Txt.upper s then w ++ "[" ++ Txt.lower s ++ Txt.upper s ++ "]"
  else if Txt.contains "*?[" s then w ++ "[" ++ s ++ "]"
  else w ++ s
noncomputable abbrev eitherL (text w : Str) : Loc := [("text", .str text), ("written", .str w)]
theorem either_loop {m : Nat} {cd : Value} {text : Str} (gb : Gb V) : ∀ (l : List Str) (w : Str), (∀ s ∈ l, (Txt.lower s).length ≤ 1 ∧ (Txt.upper s).length ≤ 1 ∧ s.length ≤ 1) → w.length + 4 * l.length ≤ 10000 →
    FoOK V ⟨m, (pScope top 34).names, cd⟩ (fun _ => True) (fTarget (pBody top 34) 1) (fBody (pBody top 34) 1) (l.map .str) (eitherL text w) st .next (eitherL text (l.foldl eitherF w)) st
  | [], w, _, _ => .nil trivial
  | s :: l, w, hs, hl => by
    have hZ : sizeLine = 16777216 := rfl
    obtain ⟨a1, a2, a3⟩ := hs s List.mem_cons_self
    rw [List.length_cons] at hl
    have eb : ("[" : Str).length = 1 := by decide +kernel
    have ec : ("]" : Str).length = 1 := by decide +kernel
    have la : ∀ x y : Str, (x ++ y).length = x.length + y.length := fun x y => Str.length_append ..
    have go : ∀ w', ExOK V ⟨m, (pScope top 34).names, cd⟩ (fBody (pBody top 34) 1) (setL "sign" (.str s) (eitherL text w)) st .next (setL "written" (.str w') (setL "sign" (.str s) (eitherL text w))) st → eitherF w s = w' → w'.length ≤ w.length + 4 →
        FoOK V ⟨m, (pScope top 34).names, cd⟩ (fun _ => True) (fTarget (pBody top 34) 1) (fBody (pBody top 34) 1) ((s :: l).map .str) (eitherL text w) st .next (eitherL text ((s :: l).foldl eitherF w)) st := by
      intro w' h e hw
      rw [List.map_cons, List.foldl_cons, e]
      refine FoOK.turn trivial (AsOK.lcl (by kernel_rfl)) h rfl (FoOK.sub ?_ (either_loop gb l w' (fun d hd => hs d (List.mem_cons_of_mem _ hd)) (by omega)))
      tm_at "ls"
    have fu : Builtin.Str.tooLong (Txt.lower s).length = false ∧ Builtin.Str.tooLong (Txt.upper s).length = false := by
      unfold Builtin.Str.tooLong; simp only [hZ]; simp; omega
    cases h1 : Txt.lower s != Txt.upper s with
    | true =>
      refine go (w ++ "[" ++ Txt.lower s ++ Txt.upper s ++ "]") ?_ (by unfold eitherF; rw [h1]; rfl) (by simp only [la]; omega)
      show ExOK _ _ (_ :: _) _ _ _ _ _
      apply ExOK.if_t
      · tm_at "go"
        · exact fu.1
        · exact fu.2
      · exact h1
      · tm_at "go"
        · (try simp only [la]); omega
        · exact fu.1
        · (try simp only [la]); omega
        · exact fu.2
        · (try simp only [la]); omega
        · (try simp only [la]); omega
      · tm_at "go"
    | false =>
      cases h2 : Txt.contains "*?[" s with
      | true =>
        refine go (w ++ "[" ++ s ++ "]") ?_ (by unfold eitherF; rw [h1, h2]; rfl) (by simp only [la]; omega)
        show ExOK _ _ (_ :: _) _ _ _ _ _
        apply ExOK.if_f
        · tm_at "go"
          · exact fu.1
          · exact fu.2
        · exact h1
        · apply ExOK.if_t
          · tm_at "go"
          · exact h2
          · tm_at "go"
            · (try simp only [la]); omega
            · (try simp only [la]); omega
            · (try simp only [la]); omega
          · tm_at "go"
        · tm_at "go"
      | false =>
        refine go (w ++ s) ?_ (by unfold eitherF; rw [h1, h2]; rfl) (by simp only [la]; omega)
        show ExOK _ _ (_ :: _) _ _ _ _ _
        apply ExOK.if_f
        · tm_at "go"
          · exact fu.1
          · exact fu.2
        · exact h1
        · apply ExOK.if_f
          · tm_at "go"
          · exact h2
          · tm_at "go"
            · (try simp only [la]); omega
          · tm_at "go"
        · tm_at "go"
noncomputable abbrev signs (x : Str) : List Str := x.cps.toList.map fun c => ⟨#[c]⟩
theorem either_ok {x : Str} (gb : Gb V) (d : D_either V) (hz : x.length ≤ 1000) (ha : x.cps.all (· < 128) = true) (hs : ∀ s ∈ signs x, (Txt.lower s).length ≤ 1 ∧ (Txt.upper s).length ≤ 1 ∧ s.length ≤ 1) :
    CallOK V (n + 1) (.gl "_law_either") [.str x] [] st (.str ((signs x).foldl eitherF "")) st := by
  refine CallOK.gf gb.pg d rfl (by kernel_rfl) (by decide +kernel) (by decide +kernel) (ext := []) (out := .ret (.str ((signs x).foldl eitherF ""))) (fun cd => ?_) rfl (calm.fz rfl)
  simp only [List.append_nil, List.zip_cons_cons, List.zip_nil_right]
  show ExOK _ _ (_ :: _) _ _ _ _ _
  tm_at "go"
  apply ExOK.for'
  · exact fun _ _ => rfl
  · apply HdOK.str
    · tm_at "go"
    · exact ha
  · have e : (x.cps.toList.map fun c => SV.str ⟨#[c]⟩) = (signs x).map .str := by unfold signs; rw [List.map_map]; rfl
    rw [e]
    have e0 : ("" : Str).length = 0 := by decide +kernel
    have e1 : (signs x).length = x.length := by unfold signs; simp; rfl
    refine FoOK.sub ?_ (either_loop (text := x) gb (signs x) "" hs (by rw [e0, e1]; omega))
    tm_at "ls"
  · tm_at "go"
end
end

section
theorem canLay_strs : ∀ l : List Str, (∀ x ∈ l, PyData.strOk x = true) → PyData.canLayAll0 (l.map .str) = true ∧ PyData.depthAll (l.map .str) ≤ 1
  | [], _ => by constructor <;> decide
  | x :: l, h => by
    obtain ⟨a, b⟩ := canLay_strs l fun y hy => h y (List.mem_cons_of_mem _ hy)
    constructor
    · simp only [List.map_cons, PyData.canLayAll0, PyData.canLay0, a, h x List.mem_cons_self]; rfl
    · simp only [List.map_cons, PyData.depthAll, PyData.depth]
      omega
section
variable {V : Cx} {G : Gm} {loc loc₁ loc₂ : Loc} {st st₁ st₂ st₃ : St} {n : Nat}
noncomputable def nmStep (p : Nat × List Str) (c : Str) : Nat × List Str :=
  if c = ".." then (p.1 + 1, p.2) else if c ≠ "" ∧ c ≠ "." then (if 0 < p.1 then (p.1 - 1, p.2) else (p.1, c :: p.2)) else p
noncomputable def nmOf (lead : Nat) (row : List Str) : List Str :=
  let p := row.reverse.foldl nmStep (0, [])
  if lead = 0 then List.replicate p.1 (".." : Str) ++ p.2 else p.2
noncomputable def rootOf : Nat → Str
  | 0 => ""
  | 1 => "/"
  | 2 => "//"
  | _ => "/"
noncomputable abbrev namL (lead : Nat) (row : List Str) (p : Nat × List Str) : Loc := [("lead", .int lead), ("row", .lst (row.map .str)), ("owed", .int p.1), ("names", .lst (p.2.map .str))]
theorem nm_loop {m : Nat} {cd : Value} {lead : Nat} {row : List Str} (gb : Gb V) : ∀ (l : List Str) (p : Nat × List Str), p.2.length + l.length ≤ 1000 →
    FoOK V ⟨m, (pScope top 33).names, cd⟩ (fun _ => True) (fTarget (pBody top 33) 2) (fBody (pBody top 33) 2) (l.map .str) (namL lead row p) st .next (namL lead row (l.foldl nmStep p)) st
  | [], p, _ => .nil trivial
  | c :: l, p, hl => by
    have hZ : sizeLine = 16777216 := rfl
    rw [List.length_cons] at hl
    have go : ∀ loc', ExOK V ⟨m, (pScope top 33).names, cd⟩ (fBody (pBody top 33) 2) (setL "piece" (.str c) (namL lead row p)) st .next loc' st → LSub loc' (namL lead row (nmStep p c)) → (nmStep p c).2.length ≤ p.2.length + 1 →
        FoOK V ⟨m, (pScope top 33).names, cd⟩ (fun _ => True) (fTarget (pBody top 33) 2) (fBody (pBody top 33) 2) ((c :: l).map .str) (namL lead row p) st .next (namL lead row ((c :: l).foldl nmStep p)) st := by
      intro loc' h hs hw
      rw [List.map_cons, List.foldl_cons]
      exact FoOK.turn trivial (AsOK.lcl (by kernel_rfl)) h rfl (FoOK.sub hs (nm_loop gb l _ (by omega)))
    by_cases h1 : c = ".."
    · have e : nmStep p c = (p.1 + 1, p.2) := by unfold nmStep; rw [if_pos h1]
      refine go (setL "owed" (.int (p.1 + 1)) (setL "piece" (.str c) (namL lead row p))) ?_ (by rw [e]; show LSub _ (namL lead row (p.1 + 1, p.2)); rw [show ((p.1 : Int) + 1) = ((p.1 + 1 : Nat) : Int) by omega]; tm_at "ls") (by rw [e]; exact Nat.le_succ _)
      show ExOK _ _ (_ :: _) _ _ _ _ _
      apply ExOK.if_t
      · tm_at "go"
      · simp [h1]
      · tm_at "go"
      · tm_at "go"
    · have b1 : (c == (".." : Str)) = false := by simpa using h1
      by_cases h2 : c ≠ "" ∧ c ≠ "."
      · have b2 : (c != ("" : Str) && c != ".") = true := by simpa using h2
        by_cases h3 : 0 < p.1
        · have e : nmStep p c = (p.1 - 1, p.2) := by unfold nmStep; rw [if_neg h1, if_pos h2, if_pos h3]
          refine go (setL "owed" (.int (p.1 - 1)) (setL "piece" (.str c) (namL lead row p))) ?_ (by rw [e]; show LSub _ (namL lead row (p.1 - 1, p.2)); rw [show ((p.1 : Int) - 1) = ((p.1 - 1 : Nat) : Int) by omega]; tm_at "ls") (by rw [e]; exact Nat.le_succ _)
          show ExOK _ _ (_ :: _) _ _ _ _ _
          apply ExOK.if_f
          · tm_at "go"
          · exact b1
          · apply ExOK.if_t
            · apply TsOK.and2
              · tm_at "go"
              · intro _
                tm_at "go"
            · exact b2
            · apply ExOK.if_t
              · tm_at "go"
              · simpa using h3
              · tm_at "go"
              · tm_at "go"
            · tm_at "go"
          · tm_at "go"
        · have e : nmStep p c = (p.1, c :: p.2) := by unfold nmStep; rw [if_neg h1, if_pos h2, if_neg h3]
          refine go (setL "names" (.lst ([.str c] ++ p.2.map .str)) (setL "piece" (.str c) (namL lead row p))) ?_ (by rw [e]; show LSub (setL "names" (.lst ((c :: p.2).map .str)) _) _; tm_at "ls") (by rw [e]; exact Nat.le_refl _)
          show ExOK _ _ (_ :: _) _ _ _ _ _
          apply ExOK.if_f
          · tm_at "go"
          · exact b1
          · apply ExOK.if_t
            · apply TsOK.and2
              · tm_at "go"
              · intro _
                tm_at "go"
            · exact b2
            · apply ExOK.if_f
              · tm_at "go"
              · simpa using h3
              · apply ExOK.asgL
                · kernel_rfl!
                · apply EvOK.bin
                  · tm_at "go"
                  · tm_at "go"
                  · refine Bin.addLst (xs := [.str c]) (ys := p.2.map .str) rfl rfl ?_
                    simp; omega
                · exact fun _ => rfl
                · tm_at "go"
              · tm_at "go"
            · tm_at "go"
          · tm_at "go"
      · have b2 : (c != ("" : Str) && c != ".") = false := by
          rw [Bool.and_eq_false_iff]
          by_cases h : c = ""
          · left; simp [h]
          · right
            have : c = "." := by
              by_cases h' : c = "."
              · exact h'
              · exact absurd ⟨h, h'⟩ h2
            simp [this]
        have e : nmStep p c = p := by unfold nmStep; rw [if_neg h1, if_neg h2]
        refine go (setL "piece" (.str c) (namL lead row p)) ?_ (by rw [e]; tm_at "ls") (by rw [e]; exact Nat.le_succ _)
        show ExOK _ _ (_ :: _) _ _ _ _ _
        apply ExOK.if_f
        · tm_at "go"
        · exact b1
        · apply ExOK.if_f
          · apply TsOK.and2
            · tm_at "go"
            · intro _
              tm_at "go"
          · exact b2
          · tm_at "go"
          · tm_at "go"
        · tm_at "go"

theorem nm_len : ∀ (l : List Str) (p : Nat × List Str), (l.foldl nmStep p).2.length ≤ p.2.length + l.length ∧ (l.foldl nmStep p).1 ≤ p.1 + l.length
  | [], p => by simp
  | c :: l, p => by
    obtain ⟨a, b⟩ := nm_len l (nmStep p c)
    have : (nmStep p c).2.length ≤ p.2.length + 1 ∧ (nmStep p c).1 ≤ p.1 + 1 := by
      unfold nmStep
      split
      · exact ⟨Nat.le_succ _, Nat.le_refl _⟩
      · split
        · split
          · exact ⟨Nat.le_succ _, by show p.1 - 1 ≤ _; omega⟩
          · exact ⟨Nat.le_refl _, Nat.le_succ _⟩
        · exact ⟨Nat.le_succ _, Nat.le_succ _⟩
    rw [List.foldl_cons, List.length_cons]
    omega
theorem calms_strs (n : Nat) : ∀ l : List Str, calms n (l.map .str) = true
  | [] => rfl
  | x :: l => by rw [List.map_cons, calms, calms_strs n l]; rfl
theorem calm_tup2 (n : Nat) (x : Str) (l : List Str) : calm n (.tup [.str x, .lst (l.map .str)]) = true := by
  show (true && (calms n (l.map .str) && true)) = true
  rw [calms_strs]; rfl
set_option maxHeartbeats 2000000 in
theorem names_ok {lead : Nat} {row : List Str} (gb : Gb V) (d : D_names V) (hl : lead < 4) (hr : row.length ≤ 100) : CallOK V (n + 1) (.gl "_law_names") [.int lead, .lst (row.map .str)] [] st (.tup [.str (rootOf lead), .lst ((nmOf lead row).map .str)]) st := by
  refine CallOK.gf gb.pg d rfl (by kernel_rfl) (by decide +kernel) (by decide +kernel) (ext := []) (out := .ret (.tup [.str (rootOf lead), .lst ((nmOf lead row).map .str)])) (fun cd => ?_) rfl (calm.fz (calm_tup2 _ _ _))
  have hZ : sizeLine = 16777216 := rfl
  obtain ⟨k1, k2⟩ := nm_len row.reverse (0, [])
  simp only [List.length_nil, List.length_reverse, Nat.zero_add] at k1 k2
  simp only [List.append_nil, List.zip_cons_cons, List.zip_nil_right]
  show ExOK _ _ (_ :: _) _ _ _ _ _
  tm_at "go"
  apply ExOK.asgL
  · kernel_rfl!
  · tm_at "go"
  · exact fun _ => rfl
  apply ExOK.for'
  · exact fun _ _ => rfl
  · refine HdOK.rev (xs := row.map .str) (st₁ := st) ?_ rfl ?_
    · tm_at "go"
    · tm_at "go"
  · rw [← List.map_reverse]
    refine FoOK.sub ?_ (nm_loop (row := row) (lead := lead) gb row.reverse (0, []) (by simp; omega))
    show LSub _ [("lead", SV.int lead), ("row", .lst (row.map .str)), ("owed", .int 0), ("names", .lst [])]
    tm_at "ls"
  obtain ⟨o, ns, ho⟩ : ∃ o ns, row.reverse.foldl nmStep (0, []) = (o, ns) := ⟨_, _, rfl⟩
  rw [ho] at k1 k2 ⊢
  replace k1 : ns.length ≤ row.length := k1
  replace k2 : o ≤ row.length := k2
  have ret : ∀ (ns : List Str) (loc : Loc), LSub loc [("lead", .int lead), ("names", .lst (ns.map .str))] →
      ExOK V ⟨n, (pScope top 33).names, cd⟩ [(pBody top 33)[4]?.getD default] loc st (.ret (.tup [.str (rootOf lead), .lst (ns.map .str)])) [] st := by
    intro ns loc hsub
    refine ExOK.sub hsub ?_
    show ExOK _ _ (Stmt.Return (some (Expr.Tuple [Expr.Subscript _ _ _, _] _ _)) _ :: _) _ _ _ _ _
    apply ExOK.retN
    apply EvOK.tup
    · apply EvsOK.cons
      · rfl
      · apply EvOK.sub
        · tm_at "go"
        · tm_at "go"
        · refine Sub.lst rfl (by omega) (by omega) ?_
          rw [show ((lead : Int)).toNat = lead by omega]
          match lead, hl with
          | 0, _ => rfl
          | 1, _ => rfl
          | 2, _ => rfl
          | 3, _ => rfl
        · rfl
      · tm_at "go"
    · exact Nat.le_of_ble_eq_true rfl
  by_cases h0 : lead = 0
  · have e : nmOf lead row = List.replicate o (".." : Str) ++ ns := by unfold nmOf; rw [if_pos h0, ho]
    rw [e]
    have eo : ((o : Nat) : Int).toNat = o := by omega
    apply ExOK.if_t
    · tm_at "go"
    · simp [h0]
    · apply ExOK.asgL
      · kernel_rfl!
      · apply EvOK.bin
        · apply EvOK.bin
          · tm_at "go"
          · tm_at "go"
          · refine Bin.mulLst (xs := [.str ".."]) rfl (by omega) (by omega) (by rw [eo]; show 1 * o ≤ _; omega)
        · tm_at "go"
        · refine Bin.addLst (xs := (List.replicate (o : Int).toNat [SV.str ".."]).flatten) (ys := ns.map .str) rfl rfl ?_
          rw [eo]
          simp
          omega
      · exact fun _ => rfl
      · tm_at "go"
    · refine ret _ _ ?_
      have e2 : (List.replicate (o : Int).toNat [SV.str ".."]).flatten ++ ns.map SV.str = (List.replicate o (".." : Str) ++ ns).map .str := by
        rw [List.map_append, List.map_replicate, eo]
        congr 1
        clear ret eo e ho
        induction o with
        | zero => rfl
        | succ k ih => rw [List.replicate_succ, List.flatten_cons, ih (by omega), List.replicate_succ]; rfl
      rw [e2]
      tm_at "ls"
  · have e : nmOf lead row = ns := by unfold nmOf; rw [if_neg h0, ho]
    rw [e]
    apply ExOK.if_no
    · tm_at "go"
    · simp; omega
    refine ret ns (namL lead row (o, ns)) ?_
    tm_at "ls"
end
end

section
noncomputable def isSC : Expr → Bool
  | .Constant (.str _) _ _ => true
  | _ => false
noncomputable def strC : Expr → Str
  | .Constant (.str x) _ _ => x
  | _ => ""
noncomputable def wordsX : List Expr := match (pBody top 32)[0]? with
  | some (Stmt.Assign _ (Expr.List es _) _) => es
  | _ => []
noncomputable def wordsL : List Str := wordsX.map strC

noncomputable def wayLoop (ws : List Str) : Nat → Nat → List Str → List Str
  | 0, _, acc => acc
  | f + 1, n, acc => if 0 < n ∧ acc.length < 3 then wayLoop ws f (n / 24) (acc ++ [(ws[n % 24]?).getD ""]) else acc
noncomputable def wayRow (n : Nat) : List Str :=
  let r := wayLoop wordsL 3 (n / 4) []
  if r.head? = some ("" : Str) then "." :: r.tail else r
theorem words_len : wordsL.length = 24 := by decide +kernel
section
variable {V : Cx} {G : Gm} {loc loc₁ loc₂ : Loc} {st st₁ st₂ st₃ : St} {n : Nat}
theorem EvsOK.consts : ∀ {es : List Expr}, es.all isSC = true → EvsOK V G es loc st ((es.map strC).map .str) st
  | [], _ => .nil
  | e :: es, h => by
    rw [List.all_cons, Bool.and_eq_true] at h
    cases e with
    | Constant c k pos =>
      cases c with
      | str x => exact .cons rfl .str (EvsOK.consts h.2)
      | _ => exact Bool.noConfusion (h.1 : false = true)
    | _ => exact Bool.noConfusion (h.1 : false = true)
theorem EvsOK.constsW {es : List Expr} {ws : List Str} (h : es.all isSC = true) (hw : es.map strC = ws) : EvsOK V G es loc st (ws.map .str) st := hw ▸ EvsOK.consts h
theorem WhOK.weak {t : Expr} {b : List Stmt} {out : Out} (h : LSub loc₁ loc₂) (x : WhOK V G t b loc st out loc₁ st₁) : WhOK V G t b loc st out loc₂ st₁ := Box.mk fun A env α s rm S R =>
  codeAny_mono (x.out A env α s rm S R) fun _ _ ⟨f, e, α', X, S', R', o⟩ => ⟨f, e, α', X, S', R'.sub h, o⟩
theorem ExOK.item {o i value : Expr} {pos' pos} {xs : List Stmt} {k : Nat} {ys : List SV} {j : Int} {v : SV} {out : Out} (hs : ∀ env, swapsWith value (some (.Subscript o i pos')) pos.line env = pure false) (hv : EvOK V G value loc st v st) (ho : EvOK V G o loc st (.obj k) st)
    (hi : EvOK V G i loc st (.int j) st) (hx : st[k]? = some ys) (h0 : 0 ≤ j) (h1 : j < ys.length) (hz : ys.length ≤ sizeLine) (hr : ExOK V G xs loc (st.set k (ys.set j.toNat v)) out loc₁ st₁) : ExOK V G (.Assign [.Subscript o i pos'] value pos :: xs) loc st out loc₁ st₁ :=
  .cons (loc₁ := loc) (.mk fun A env α s rm S R => by
    refine wpAny_Assign_Subscript (hs := hs env) (wpAny_mono (hv.out A env α s rm S R) (fun t s₁ hq_ => ?_) fun _ _ e => e)
    obtain ⟨α₁, X₁, S₁, R₁⟩ := hq_
    refine wpAny_mono (ho.out A env α₁ s₁ rm S₁ (R.step X₁ S.low.2)) (fun u s₂ hq_ => ?_) fun _ _ e => e
    obtain ⟨α₂, X₂, S₂, R₂⟩ := hq_
    refine wpAny_mono (hi.out A env α₂ s₂ rm S₂ (R.step (X₁.trans X₂) S.low.2)) (fun w s₃ hq_ => ?_) fun _ _ e => e
    obtain ⟨α₃, X₃, S₃, R₃⟩ := hq_
    refine wpAny_mono (set_at S₃ (R₂.go X₃) hx R₃ (R₁.go (X₂.trans X₃)) h0 h1 hz) (fun _ s₄ hq_ => ?_) fun _ _ e => e
    obtain ⟨α₄, X₄, S₄⟩ := hq_
    have X := X₁.trans (X₂.trans (X₃.trans X₄))
    exact ⟨α₄, X.up, S₄, R.step X S.low.2, .next⟩) hr

theorem fmod_nat (a b : Nat) : ((a : Int).fmod (b : Int)) = ((a % b : Nat) : Int) := by
  rw [Int.fmod_eq_emod_of_nonneg _ (by omega)]; rfl
theorem fdiv_nat (a b : Nat) : ((a : Int).fdiv (b : Int)) = ((a / b : Nat) : Int) := by
  rw [Int.fdiv_eq_ediv_of_nonneg _ (by omega)]; rfl
noncomputable abbrev wayL (ws : List Str) (lead n k : Nat) : Loc := [("words", .lst (ws.map .str)), ("lead", .int lead), ("n", .int n), ("row", .obj k)]
theorem way_loop {m : Nat} {cd : Value} {lead : Nat} {ws : List Str} (hws : ws.length = 24) (gb : Gb V) : ∀ (f n : Nat) (acc : List Str), acc.length + f = 3 →
    WhOK V ⟨m, (pScope top 32).names, cd⟩ (fTest (pBody top 32) 4) (fBody (pBody top 32) 4) (wayL ws lead n st.length) (st ++ [acc.map .str]) .next [("lead", .int lead), ("row", .obj st.length)] (st ++ [(wayLoop ws f n acc).map .str]) := by
  intro f
  induction f with
  | zero =>
    intro n acc hl
    show WhOK _ _ _ _ _ _ _ _ (st ++ [acc.map .str])
    refine WhOK.weak (loc₁ := wayL ws lead n st.length) (by tm_at "ls") (WhOK.stop ?_)
    show TsOK _ _ (Expr.BoolOp _ [_, _] _) _ _ _ _
    have e : (decide ((0:Int) < n) && decide (((acc.map SV.str).length : Int) < 3)) = false := by
      rw [Bool.and_eq_false_iff]; right; simp; omega
    rw [← e]
    apply TsOK.and2
    · tm_at "go"
    · intro _
      apply TsOK.cmp
      · apply EvOK.call
        · tm_at "go"
        · apply CwOK.bi0
          · rfl
          · tm_at "go"
          · exact CallOK.lenLst (xs := acc.map .str) obj_at (by simp; omega)
      · tm_at "go"
      · exact Cmp.ltInt
      · rfl
  | succ f ih =>
    intro n acc hl
    have ht : TsOK V ⟨m, (pScope top 32).names, cd⟩ (fTest (pBody top 32) 4) (wayL ws lead n st.length) (st ++ [acc.map .str]) (decide ((0:Int) < n) && decide (((acc.map SV.str).length : Int) < 3)) (st ++ [acc.map .str]) := by
      show TsOK _ _ (Expr.BoolOp _ [_, _] _) _ _ _ _
      apply TsOK.and2
      · tm_at "go"
      · intro _
        apply TsOK.cmp
        · apply EvOK.call
          · tm_at "go"
          · apply CwOK.bi0
            · rfl
            · tm_at "go"
            · exact CallOK.lenLst (xs := acc.map .str) obj_at (by simp; omega)
        · tm_at "go"
        · exact Cmp.ltInt
        · rfl
    by_cases hc : 0 < n ∧ acc.length < 3
    · have e : (decide ((0:Int) < n) && decide (((acc.map SV.str).length : Int) < 3)) = true := by
        rw [Bool.and_eq_true]; simp; omega
      rw [e] at ht
      rw [wayLoop, if_pos hc]
      have hw : n % 24 < ws.length := by rw [hws]; exact Nat.mod_lt _ (by decide)
      refine WhOK.turn (o := .next) (loc₁ := setL "n" (.int ((n / 24 : Nat) : Int)) (wayL ws lead n st.length)) ht ?_ rfl (WhOK.sub (by tm_at "ls") (ih (n / 24) (acc ++ [(ws[n % 24]?).getD ""]) (by simp; omega)))
      show ExOK _ _ (_ :: _) _ _ _ _ _
      apply ExOK.expr'
      · apply EvOK.meth
        · tm_at "go"
        · exact GmOK.o_append obj_at
        · apply CwOK.bi1
          · rfl
          · apply EvsOK.cons
            · rfl
            · apply EvOK.sub
              · tm_at "go"
              · apply EvOK.bin
                · tm_at "go"
                · tm_at "go"
                · exact Bin.modInt (by decide)
              · refine Sub.lst (v := .str ((ws[n % 24]?).getD "")) rfl ?_ ?_ ?_
                · have : (n : Int).fmod 24 = ((n % 24 : Nat) : Int) := fmod_nat n 24
                  omega
                · have : (n : Int).fmod 24 = ((n % 24 : Nat) : Int) := fmod_nat n 24
                  omega
                · have : (n : Int).fmod 24 = ((n % 24 : Nat) : Int) := fmod_nat n 24
                  rw [show ((n : Int).fmod 24).toNat = n % 24 by omega]
                  rw [List.getElem?_map, List.getElem?_eq_getElem hw]; rfl
              · rfl
            · tm_at "go"
          · have q := CallOK.append (V := V) (n := m) (st := st ++ [acc.map SV.str]) (i := st.length) (v := .str ((ws[n % 24]?).getD "")) obj_at (by rw [List.length_map]; have hZ : sizeLine = 16777216 := rfl; omega)
            rw [obj_set] at q
            exact q
        · exact fun _ => rfl
        · rfl
        · rfl
        · rfl
        · rfl
      · exact NoRef.none
      · exact fun _ => rfl
      · have e3 : (acc ++ [(ws[n % 24]?).getD ""]).map SV.str = acc.map .str ++ [.str ((ws[n % 24]?).getD "")] := by simp
        rw [e3]
        have e4 : ((n / 24 : Nat) : Int) = (n : Int).fdiv 24 := (fdiv_nat n 24).symm
        rw [e4]
        apply ExOK.asgL
        · kernel_rfl!
        · apply EvOK.bin
          · tm_at "go"
          · tm_at "go"
          · exact Bin.divInt (by decide) (by decide)
        · exact fun _ => rfl
        · exact .nil
    · have e : (decide ((0:Int) < n) && decide (((acc.map SV.str).length : Int) < 3)) = false := by
        rw [Bool.and_eq_false_iff]; simp; omega
      rw [e] at ht
      rw [wayLoop, if_neg hc]
      exact WhOK.weak (loc₁ := wayL ws lead n st.length) (by tm_at "ls") (WhOK.stop ht)

theorem Pds.strs : ∀ l : List Str, Pds st (l.map .str) (l.map .str)
  | [] => .nil
  | x :: l => .cons _ _ _ _ (.str x) (Pds.strs l)
theorem shaped_strs {l : List Str} (h : ∀ x ∈ l, PyData.strOk x = true) : SeqAt.shaped (.list (l.map .str)) = true := by
  obtain ⟨a, b⟩ := canLay_strs l h
  unfold SeqAt.shaped
  simp only [PyData.canLay0, PyData.depth, a]
  simp; omega
theorem words_ok : wordsL.all PyData.strOk = true := by decide +kernel
theorem wayLoop_mem {ws : List Str} : ∀ (f n : Nat) (acc : List Str), ∀ x ∈ wayLoop ws f n acc, x ∈ acc ∨ x ∈ ws ∨ x = ""
  | 0, n, acc, x, h => .inl h
  | f + 1, n, acc, x, h => by
    rw [wayLoop] at h
    split at h
    · rcases wayLoop_mem f _ _ x h with h | h
      · rcases List.mem_append.mp h with h | h
        · exact .inl h
        · right
          simp only [List.mem_singleton] at h
          cases hw : ws[n % 24]? with
          | none => right; rw [h, hw]; rfl
          | some y => left; rw [h, hw]; exact List.mem_of_getElem? hw
      · exact .inr h
    · exact .inl h
theorem way_ok {k : Nat} (gb : Gb V) (d : D_way V) : CallOK V (n + 1) (.gl "_law_way") [.int k] [] st (.tup [.int ((k % 4 : Nat) : Int), .lst ((wayRow k).map .str)]) st := by
  obtain ⟨row, hrow⟩ : ∃ row, wayRow k = row := ⟨_, rfl⟩
  rw [hrow]
  obtain ⟨ws, hws, hwl⟩ : ∃ ws, wordsL = ws ∧ ws.length = 24 := ⟨_, rfl, words_len⟩
  refine CallOK.gf gb.pg d rfl (by kernel_rfl) (by decide +kernel) (by decide +kernel) (ext := [row.map .str]) (out := .ret (.tup [.int ((k % 4 : Nat) : Int), .obj st.length])) (fun cd => ?_) rfl ?_
  rotate_left
  · refine .tup _ _ (.cons _ _ _ _ (.int _) (.cons _ _ _ _ (.ice st.length _ _ (Nat.le_refl _) obj_at (calms.fz (calms_strs _ _))) .nil))
  have hZ : sizeLine = 16777216 := rfl
  simp only [List.zip_cons_cons, List.zip_nil_right]
  show ExOK _ _ (_ :: _) _ _ _ _ _
  refine ExOK.asgL (v := .lst (ws.map .str)) (st₁ := st) (by kernel_rfl) (EvOK.lst (vs := ws.map .str) ?_ ?_) (fun _ => rfl) ?_
  · subst hws
    exact EvsOK.constsW (by kernel_rfl) (by kernel_rfl)
  · rw [List.length_map, hwl]; decide
  have e1 : ((k % 4 : Nat) : Int) = (k : Int).fmod 4 := (fmod_nat k 4).symm
  apply ExOK.asgL
  · kernel_rfl!
  · apply EvOK.bin
    · tm_at "go"
    · tm_at "go"
    · exact Bin.modInt (by decide)
  · exact fun _ => rfl
  apply ExOK.asgL
  · kernel_rfl!
  · apply EvOK.bin
    · tm_at "go"
    · tm_at "go"
    · exact Bin.divInt (by decide) (by decide)
  · exact fun _ => rfl
  apply ExOK.asgL
  · kernel_rfl!
  · apply EvOK.lstObj
    · exact EvsOK.nil
    · exact Nat.zero_le _
  · exact fun _ => rfl
  have e2 : (k : Int).fdiv 4 = ((k / 4 : Nat) : Int) := fdiv_nat k 4
  rw [← e1, e2]
  apply ExOK.while'
  · refine WhOK.sub ?_ (way_loop (lead := k % 4) hwl gb 3 (k / 4) [] rfl)
    tm_at "ls"
  unfold wayRow at hrow
  rw [hws] at hrow
  obtain ⟨r, hr⟩ : ∃ r, wayLoop ws 3 (k / 4) [] = r := ⟨_, rfl⟩
  rw [hr] at hrow ⊢
  have hlen : r.length ≤ 3 := by
    have : ∀ (f n : Nat) (acc : List Str), acc.length + f ≤ 3 → (wayLoop ws f n acc).length ≤ 3 := by
      intro f
      induction f with
      | zero => intro n acc h; exact h
      | succ f ih =>
        intro n acc h
        rw [wayLoop]
        split
        · exact ih _ _ (by simp; omega)
        · omega
    rw [← hr]
    exact this 3 _ [] (by simp)
  have hok : ∀ x ∈ r, PyData.strOk x = true := by
    intro x hx
    rw [← hr] at hx
    rcases wayLoop_mem _ _ _ x hx with h | h | h
    · cases h
    · subst hws
      exact List.all_eq_true.mp words_ok x h
    · subst h; decide +kernel
  have test : TsOK V ⟨n, (pScope top 32).names, cd⟩ (fTest (pBody top 32) 5) [("lead", .int ((k % 4 : Nat) : Int)), ("row", .obj st.length)] (st ++ [r.map .str]) (r.head? == some ("" : Str)) (st ++ [r.map .str]) := by
    show TsOK _ _ (Expr.Compare _ _ _ _) _ _ _ _
    have e : (r.head? == some ("" : Str)) = PyData.eqv (.list ((r.take 1).map .str)) (.list [.str ""]) := by
      cases r with
      | nil => rfl
      | cons x r =>
        show (some x == some ("" : Str)) = (x == "" && true)
        rw [Bool.and_true]; rfl
    rw [e]
    apply TsOK.cmp
    · apply EvOK.slice
      · tm_at "go"
      · tm_at "go"
      · tm_at "go"
      · exact SubS.upto (xs := r.map .str) obj_at (by omega) (by rw [List.length_map]; omega)
    · tm_at "go"
    · refine Cmp.eqD (da := .list ((r.take 1).map .str)) ?_ ?_ ?_ ?_
      · show Pd _ (.lst ((r.map SV.str).take 1)) _
        rw [← List.map_take]
        exact .lst _ _ (Pds.strs _)
      · exact .lst _ _ (.cons _ _ _ _ (.str _) .nil)
      · exact shaped_strs fun x hx => hok x (List.mem_of_mem_take hx)
      · decide +kernel
    · rfl
  have fin : ∀ (st' : St) (loc : Loc), LSub loc [("lead", .int ((k % 4 : Nat) : Int)), ("row", .obj st.length)] → ExOK V ⟨n, (pScope top 32).names, cd⟩ [(pBody top 32)[6]?.getD default] loc st' (.ret (.tup [.int ((k % 4 : Nat) : Int), .obj st.length])) [] st' := by
    intro st' loc h
    refine ExOK.sub h ?_
    show ExOK _ _ (Stmt.Return _ _ :: _) _ _ _ _ _
    tm_at "go"
  by_cases hh : r.head? = some ("" : Str)
  · rw [if_pos hh] at hrow
    rw [← hrow]
    obtain ⟨t, rfl⟩ : ∃ t, r = ("" : Str) :: t := by
      cases r with
      | nil => cases hh
      | cons x t => simp at hh; exact ⟨t, by rw [hh]⟩
    refine ExOK.if_t test (by rw [hh]; exact beq_self_eq_true _) ?_ (fin _ _ ?_) (loc₁ := [("lead", .int ((k % 4 : Nat) : Int)), ("row", .obj st.length)])
    · show ExOK _ _ (Stmt.Assign [Expr.Subscript _ _ _] _ _ :: _) _ _ _ _ _
      refine ExOK.item (k := st.length) (ys := ((("" : Str) :: t)).map .str) (j := 0) (v := .str ".") (fun _ => rfl) ?_ ?_ ?_ obj_at (by omega) (by simp) (by rw [List.length_map]; omega) ?_
      · tm_at "go"
      · tm_at "go"
      · tm_at "go"
      · rw [obj_set]
        exact .nil
    · tm_at "ls"
  · rw [if_neg hh] at hrow
    rw [← hrow]
    refine ExOK.if_no test (by simpa using hh) (fin _ _ ?_)
    tm_at "ls"
end
end

section
noncomputable def cElt : Stmt → Expr
  | Stmt.Assign _ (Expr.ListComp e _ _ _) _ => e
  | _ => default
noncomputable def cIfs : Stmt → List Expr
  | Stmt.Assign _ (Expr.ListComp _ [⟨_, _, ifs, _⟩] _ _) _ => ifs
  | _ => []
noncomputable def cScope : Stmt → Scope
  | Stmt.Assign _ (Expr.ListComp _ _ s _) _ => s
  | _ => default
noncomputable def takeSt : Stmt := ((fElse (fBody (pBody top 36) 1) 1)[0]?).getD default
noncomputable abbrev takeKs : List (Str × NameKind) := compKs (pScope top 36).names (cScope takeSt).names
noncomputable def sgn (x : Str) (i : Nat) : Nat := (x.cps[i]?).getD 0

noncomputable def fitAt (text p : Str) (i : Nat) : Bool := fitsL p ⟨#[sgn text i]⟩ (sgn p 0) (sgn p 1)

noncomputable def takeStep (text : Str) (ends : List Nat) : Option Str → List Nat
  | none => match ends.min? with
    | none => []
    | some m => (List.range (text.length + 1 - m)).map (m + ·)
  | some p => (ends.filter fun i => decide (i < text.length) && fitAt text p i).map (· + 1)
noncomputable abbrev D_takes (V : Cx) := IsDef V "_law_takes" ["parts", "star", "text"] (pBody top 36) (pScope top 36)
noncomputable def PartOk (p : Str) : Prop := 0 < p.length ∧ ((⟨#[sgn p 0]⟩ : Str) = "[" → 1 < p.length) ∧ p.length ≤ 1000
theorem sgn_at {x : Str} {i : Nat} (h : i < x.length) : x.cps[i]? = some (sgn x i) := by
  unfold sgn
  have h' : i < x.cps.size := h
  rw [Array.getElem?_eq_getElem h']; rfl
section
variable {V : Cx} {G : Gm} {loc loc₁ loc₂ : Loc} {st st₁ st₂ st₃ : St} {n : Nat}
noncomputable abbrev natsSV (l : List Nat) : List SV := l.map fun (i : Nat) => SV.int (i : Int)
local macro_rules | `(tactic| tm_at "call") => `(tactic| with_reducible apply fits_ok (by assumption) (by assumption))
theorem take_comp {cd : Value} {text p : Str} (gb : Gb V) (df : D_fits V) (hp : PartOk p) (ht : text.length ≤ 900) : ∀ (ends acc : List Nat), acc.length + ends.length ≤ 10000 →
    CpOK V ⟨n + 1, takeKs, cd⟩ (fun _ => True) "at" (cIfs takeSt) (cElt takeSt) (natsSV ends) (natsSV acc) [("text", .str text), ("part", .str p)] st (natsSV (acc ++ (ends.filter fun i => decide (i < text.length) && fitAt text p i).map (· + 1)))
  | [], acc, _ => by
    rw [List.filter_nil, List.map_nil, List.append_nil]
    exact .nil trivial
  | i :: ends, acc, hl => by
    have hZ : sizeLine = 16777216 := rfl
    rw [List.length_cons] at hl
    have test : IfsOK V ⟨n + 1, takeKs, cd⟩ (cIfs takeSt) (setL "at" (.int i) [("text", .str text), ("part", .str p)]) (st ++ [natsSV acc]) (decide (i < text.length) && fitAt text p i) := by
      show IfsOK _ _ [Expr.BoolOp _ [_, _] _] _ _ _
      apply IfsOK.one
      have e : decide (i < text.length) = decide ((i : Int) < (text.length : Int)) := by simp
      rw [e]
      apply TsOK.and2
      · tm_at "go"
        omega
      · intro h
        have hi : i < text.length := by simpa using h
        tm_at "go"
        · exact at_str (by omega) (sgn_at hi)
        · exact sgn_at hp.1
        · exact fun h => sgn_at (hp.2.1 h)
        · exact hp.2.2
        · exact Tru.bool
    cases hb : decide (i < text.length) && fitAt text p i with
    | true =>
      rw [hb] at test
      have e1 : ((i :: ends).filter fun i => decide (i < text.length) && fitAt text p i) = i :: ends.filter fun i => decide (i < text.length) && fitAt text p i := List.filter_cons_of_pos (by simpa using hb)
      have e2 : natsSV acc ++ [SV.int ((i : Int) + 1)] = natsSV (acc ++ [i + 1]) := by simp
      rw [e1, List.map_cons, show acc ++ (i + 1) :: (ends.filter fun i => decide (i < text.length) && fitAt text p i).map (· + 1) = (acc ++ [i + 1]) ++ (ends.filter fun i => decide (i < text.length) && fitAt text p i).map (· + 1) by simp]
      refine CpOK.step (by kernel_rfl) trivial test (acc' := natsSV (acc ++ [i + 1])) ?_ (CpOK.sub ?_ (take_comp gb df hp ht ends (acc ++ [i + 1]) (by simp; omega)))
      · rw [if_pos rfl]
        refine ⟨.int ((i : Int) + 1), ?_, e2.symm, by simp; omega⟩
        show EvOK _ _ (Expr.BinOp _ _ _ _) _ _ _ _
        tm_at "go"
      · tm_at "ls"
    | false =>
      rw [hb] at test
      have e1 : ((i :: ends).filter fun i => decide (i < text.length) && fitAt text p i) = ends.filter fun i => decide (i < text.length) && fitAt text p i := List.filter_cons_of_neg (by simpa using hb)
      rw [e1]
      refine CpOK.step (by kernel_rfl) trivial test (acc' := natsSV acc) ?_ (CpOK.sub ?_ (take_comp gb df hp ht ends acc (by omega)))
      · rw [if_neg Bool.false_ne_true]
      · tm_at "ls"

theorem canLay_ints : ∀ l : List Nat, PyData.canLayAll0 (l.map fun (i : Nat) => PyData.int i) = true ∧ PyData.depthAll (l.map fun (i : Nat) => PyData.int i) ≤ 1
  | [] => by constructor <;> decide
  | x :: l => by
    obtain ⟨a, b⟩ := canLay_ints l
    constructor
    · simp only [List.map_cons, PyData.canLayAll0, PyData.canLay0, a]; rfl
    · simp only [List.map_cons, PyData.depthAll, PyData.depth]
      omega
theorem Pds.ints : ∀ l : List Nat, Pds st (natsSV l) (l.map fun (i : Nat) => PyData.int i)
  | [] => .nil
  | x :: l => .cons _ _ _ _ (.int x) (Pds.ints l)
theorem shaped_ints (l : List Nat) : SeqAt.shaped (.list (l.map fun (i : Nat) => PyData.int i)) = true := by
  obtain ⟨a, b⟩ := canLay_ints l
  unfold SeqAt.shaped
  simp only [PyData.canLay0, PyData.depth, a]
  simp; omega
noncomputable abbrev partSV (k : Nat) : Option Str → SV
  | none => .obj k
  | some p => .str p
noncomputable def takeRun (text : Str) : List (Option Str) → List Nat → Option (List Nat)
  | [], ends => some ends
  | p :: ps, ends => if ends = [] then none else takeRun text ps (takeStep text ends p)
noncomputable abbrev takeL (k : Nat) (text : Str) (ends : List Nat) : Loc := [("star", .obj k), ("text", .str text), ("ends", .lst (natsSV ends))]
theorem take_empty {m : Nat} {cd : Value} {ends : List Nat} (gb : Gb V) (h : List.lookup ("ends" : Str) loc = some (.lst (natsSV ends))) :
    TsOK V ⟨m, (pScope top 36).names, cd⟩ (fTest (fBody (pBody top 36) 1) 0) loc st ends.isEmpty st := by
  show TsOK _ _ (Expr.Compare _ _ _ _) _ _ _ _
  have e : ends.isEmpty = PyData.eqv (.list (ends.map fun (i : Nat) => PyData.int i)) (.list []) := by
    cases ends <;> rfl
  rw [e]
  apply TsOK.cmp
  · apply EvOK.lclA
    · kernel_rfl!
    · kernel_rfl!
    · exact h
  · tm_at "go"
  · exact Cmp.eqD (.lst _ _ (Pds.ints _)) (.lst _ _ .nil) (shaped_ints _) (by decide +kernel)
  · rfl

theorem lookup_locC {ks : List (Str × NameKind)} {x : Str} {v : SV} (hk : ks.lookup x = some .cell) : ∀ {loc : Loc}, loc.lookup x = some v → (locC ks loc).lookup x = some v
  | [], h => by simp at h
  | (y, w) :: loc, h => by
    unfold locC
    rw [List.filter_cons]
    rw [List.lookup_cons] at h
    by_cases hy : x = y
    · subst hy
      simp only [beq_self_eq_true] at h
      simp [hk, List.lookup_cons, h]
    · simp only [show (x == y) = false by simpa using hy] at h
      have ih := lookup_locC hk h
      split
      · rw [List.lookup_cons, show (x == y) = false by simpa using hy]; exact ih
      · exact ih
theorem min_spec {ends : List Nat} {m : Nat} (h : ends.min? = some m) : m ∈ ends ∧ ∀ x ∈ ends, m ≤ x := by
  exact ⟨List.min?_mem h, fun x hx => (List.le_min?_iff h).mp (Nat.le_refl _) x hx⟩
theorem take_turn {cd : Value} {text : Str} {k : Nat} (gb : Gb V) (df : D_fits V) (ht : text.length ≤ 900) {q : Option Str} (hq : ∀ p, q = some p → PartOk p) {ends : List Nat} (he : ends ≠ []) (hl : ends.length ≤ 901) (hb : ∀ x ∈ ends, x ≤ text.length) :
    ∃ loc', ExOK V ⟨n + 1, (pScope top 36).names, cd⟩ (fBody (pBody top 36) 1) (setL "part" (partSV k q) (takeL k text ends)) st .next loc' st ∧ LSub loc' (takeL k text (takeStep text ends q)) := by
  have hZ : sizeLine = 16777216 := rfl
  have hne : ends.isEmpty = false := by simpa using he
  cases q with
  | none =>
    cases hm : ends.min? with
    | none => exact absurd (List.min?_eq_none_iff.mp hm) he
    | some m =>
      obtain ⟨m1, m2⟩ := min_spec hm
      refine ⟨setL "ends" (.lst (natsSV (takeStep text ends none))) (setL "part" (.obj k) (takeL k text ends)), ?_, by tm_at "ls"⟩
      show ExOK _ _ (_ :: _) _ _ _ _ _
      refine ExOK.if_no (take_empty gb (by tm_at "lk")) hne ?_
      refine ExOK.if_t (r := true) (st₁ := st) ?_ rfl ?_ .nil
      · apply TsOK.cmp
        · tm_at "go"
        · tm_at "go"
        · exact Cmp.isObj
        · rfl
      · refine ExOK.asgL (by kernel_rfl) ?_ (fun _ => rfl) .nil
        have e : natsSV (takeStep text ends none) = (((List.range (((text.length : Int) + 1) - m).toNat).map fun (i : Nat) => (m : Int) + i)).map .int := by
          unfold takeStep
          rw [hm, show (((text.length : Int) + 1) - (m : Int)).toNat = text.length + 1 - m by omega]
          simp
        rw [e]
        refine EvOK.listRange (a := (m : Int)) (b := (text.length : Int) + 1) ?_ ?_ rfl ?_ rfl ?_ (by omega)
        · tm_at "go"
        · tm_at "go"
        · apply EvsOK.cons
          · rfl
          · apply EvOK.call
            · tm_at "go"
            · apply CwOK.bi0
              · rfl
              · tm_at "go"
              · refine CallOK.minInts (ns := ends.map fun (i : Nat) => (i : Int)) ?_ ?_ ?_
                · show some (natsSV ends) = _
                  rw [List.map_map]; rfl
                · exact List.mem_map.mpr ⟨m, m1, rfl⟩
                · intro x hx
                  obtain ⟨y, hy, rfl⟩ := List.mem_map.mp hx
                  have := m2 y hy
                  omega
          · tm_at "go"
            omega
        · have : m ≤ text.length := hb m m1
          unfold Builtin.Range.small Builtin.Range.rangeFitsLong
          rw [rangeSize_one]
          have e3 : (if (m : Int) < (text.length : Int) + 1 then (text.length : Int) + 1 - m else 0) = ((text.length + 1 - m : Nat) : Int) := by split <;> omega
          rw [e3]
          simp only [Bool.and_eq_true, Bool.or_eq_true, decide_eq_true_eq]
          refine ⟨⟨⟨⟨⟨by omega, by omega⟩, ⟨by omega, by omega⟩⟩, ⟨by decide, by decide⟩⟩, ⟨by omega, by omega⟩⟩, .inr ?_⟩
          rw [if_pos (by decide)]
          simp only [Bool.and_eq_true, decide_eq_true_eq]
          exact ⟨by omega, by omega⟩
  | some p =>
    have hp := hq p rfl
    refine ⟨setL "ends" (.lst (natsSV (takeStep text ends (some p)))) (setL "part" (.str p) (takeL k text ends)), ?_, by tm_at "ls"⟩
    show ExOK _ _ (_ :: _) _ _ _ _ _
    refine ExOK.if_no (take_empty gb (by tm_at "lk")) hne ?_
    refine ExOK.if_f (r := false) (st₁ := st) ?_ rfl ?_ .nil
    · apply TsOK.cmp
      · tm_at "go"
      · tm_at "go"
      · exact Cmp.isStrObj
      · rfl
    · have hc := take_comp (st := st) (n := n) (cd := cd) gb df hp ht ends [] (by simp; omega)
      rw [List.nil_append] at hc
      refine ExOK.cons ?_ .nil
      refine StOK.asComp (a := .lst (natsSV ends)) (st₁ := st) (C := fun _ => True) (xs := natsSV ends) ?_ .lst (fun _ => trivial) rfl (by decide +kernel) (by decide +kernel) (by decide +kernel) ?_ (CpOK.sub ?_ hc) ?_ (fun _ _ => rfl) (by kernel_rfl) (by kernel_rfl) (by kernel_rfl)
      · tm_at "go"
      · intro y hy
        have : (cScope takeSt).names.all (fun z => z.2 != .free || (pScope top 36).names.lookup z.1 == some .cell) = true := by decide +kernel
        have := List.all_eq_true.mp this (y, .free) hy
        simpa using this
      · refine LSub.cons (lookup_locC (by kernel_rfl) ?_) (LSub.cons (lookup_locC (by kernel_rfl) ?_) .nil)
        · tm_at "lk"
        · tm_at "lk"
      · have : ∀ l : List Nat, calms st.length (natsSV l) = true := fun l => by
          induction l with
          | nil => rfl
          | cons x l ih => show (true && calms st.length (natsSV l)) = true; rw [ih]; rfl
        exact this _

theorem takeStep_b {text : Str} {ends : List Nat} (q : Option Str) (ht : text.length ≤ 900) (hl : ends.length ≤ 901) (hb : ∀ x ∈ ends, x ≤ text.length) : (takeStep text ends q).length ≤ 901 ∧ ∀ x ∈ takeStep text ends q, x ≤ text.length := by
  cases q with
  | none =>
    unfold takeStep
    cases hm : ends.min? with
    | none => simp
    | some m =>
      obtain ⟨m1, m2⟩ := min_spec hm
      have := hb m m1
      refine ⟨by simp; omega, fun x hx => ?_⟩
      obtain ⟨i, hi, rfl⟩ := List.mem_map.mp hx
      rw [List.mem_range] at hi
      omega
  | some p =>
    unfold takeStep
    refine ⟨?_, fun x hx => ?_⟩
    · rw [List.length_map]
      exact Nat.le_trans (List.length_filter_le _ _) hl
    · obtain ⟨i, hi, rfl⟩ := List.mem_map.mp hx
      have := (List.mem_filter.mp hi).2
      rw [Bool.and_eq_true, decide_eq_true_eq] at this
      omega
theorem take_loop {cd : Value} {text : Str} {k : Nat} (gb : Gb V) (df : D_fits V) (ht : text.length ≤ 900) : ∀ (ps : List (Option Str)) (ends : List Nat), (∀ p, some p ∈ ps → PartOk p) → ends.length ≤ 901 → (∀ x ∈ ends, x ≤ text.length) →
    (∀ e, takeRun text ps ends = some e → FoOK V ⟨n + 1, (pScope top 36).names, cd⟩ (fun _ => True) (fTarget (pBody top 36) 1) (fBody (pBody top 36) 1) (ps.map (partSV k)) (takeL k text ends) st .next (takeL k text e) st) ∧
    (takeRun text ps ends = none → FoOK V ⟨n + 1, (pScope top 36).names, cd⟩ (fun _ => True) (fTarget (pBody top 36) 1) (fBody (pBody top 36) 1) (ps.map (partSV k)) (takeL k text ends) st (.ret (.bool false)) [] st)
  | [], ends, _, _, _ => ⟨fun e h => (by cases h; exact .nil trivial), fun h => (by cases h)⟩
  | q :: ps, ends, hp, hl, hb => by
    by_cases he : ends = []
    · refine ⟨fun e h => (by rw [takeRun, if_pos he] at h; cases h), fun _ => ?_⟩
      rw [List.map_cons]
      refine FoOK.leave (o := .ret (.bool false)) (loc₁ := setL "part" (partSV k q) (takeL k text ends)) (st₁ := st) trivial (AsOK.cel (by kernel_rfl)) ?_ rfl
      show ExOK _ _ (_ :: _) _ _ _ _ _
      refine ExOK.if_tE (take_empty gb (by tm_at "lk")) (by simpa using he) ?_ (fun h => nomatch h)
      tm_at "go"
    · obtain ⟨b1, b2⟩ := takeStep_b q ht hl hb
      obtain ⟨i1, i2⟩ := take_loop (cd := cd) (k := k) gb df ht ps (takeStep text ends q) (fun p h => hp p (List.mem_cons_of_mem _ h)) b1 b2
      obtain ⟨loc', t1, t2⟩ := take_turn (cd := cd) (n := n) (st := st) (k := k) gb df ht (q := q) (fun p h => hp p (h ▸ List.mem_cons_self)) he hl hb
      rw [List.map_cons]
      refine ⟨fun e h => ?_, fun h => ?_⟩
      · rw [takeRun, if_neg he] at h
        exact FoOK.turn trivial (AsOK.cel (by kernel_rfl)) t1 rfl (FoOK.sub t2 (i1 e h))
      · rw [takeRun, if_neg he] at h
        exact FoOK.turn trivial (AsOK.cel (by kernel_rfl)) t1 rfl (FoOK.sub t2 (i2 h))

noncomputable def takes (text : Str) (parts : List (Option Str)) : Bool := match takeRun text parts [0] with
  | none => false
  | some e => (e.map fun (i : Nat) => PyData.int i).any fun y => PyData.eqv y (.int text.length)
theorem takes_ok {text : Str} {parts : List (Option Str)} {k : Nat} (gb : Gb V) (d : D_takes V) (df : D_fits V) (ht : text.length ≤ 900) (hp : ∀ p, some p ∈ parts → PartOk p) :
    CallOK V (n + 2) (.gl "_law_takes") [.lst (parts.map (partSV k)), .obj k, .str text] [] st (.bool (takes text parts)) st := by
  have hZ : sizeLine = 16777216 := rfl
  refine CallOK.gf gb.pg d rfl (by kernel_rfl) (by decide +kernel) (by decide +kernel) (ext := []) (out := .ret (.bool (takes text parts))) (fun cd => ?_) rfl (calm.fz rfl)
  simp only [List.append_nil, List.zip_cons_cons, List.zip_nil_right]
  show ExOK _ _ (_ :: _) _ _ _ _ _
  obtain ⟨t1, t2⟩ := take_loop (cd := cd) (n := n) (st := st) (k := k) gb df ht parts [0] hp (by simp) (by simp)
  tm_at "go"
  cases hr : takeRun text parts [0] with
  | none =>
    have e : takes text parts = false := by unfold takes; rw [hr]
    rw [e]
    refine ExOK.stop (StOK.for (C := fun _ => True) (HdOK.lst ?_) (FoOK.sub ?_ (t2 hr)) (fun _ _ => rfl)) (fun h => nomatch h)
    · tm_at "go"
    · show LSub _ [("star", SV.obj k), ("text", .str text), ("ends", .lst [.int 0])]
      tm_at "ls"
  | some e =>
    have e' : takes text parts = (e.map fun (i : Nat) => PyData.int i).any fun y => PyData.eqv y (.int text.length) := by unfold takes; rw [hr]
    rw [e']
    refine ExOK.for' (C := fun _ => True) (fun _ _ => rfl) (HdOK.lst ?_) (FoOK.sub ?_ (t1 e hr)) ?_
    · tm_at "go"
    · show LSub _ [("star", SV.obj k), ("text", .str text), ("ends", .lst [.int 0])]
      tm_at "ls"
    · show ExOK _ _ (Stmt.Return (some (Expr.Compare _ _ _ _)) _ :: _) _ _ _ _ _
      apply ExOK.retN
      apply EvOK.cmp
      · tm_at "go"
        omega
      · tm_at "go"
      · exact Cmp.inD (.int _) (.inl (.lst _ _ (Pds.ints _))) (canLay_ints _).1 (by rfl)
      · rfl
end
end

section
noncomputable def IsDefB (V : Cx) (x : Str) (body : List Stmt) (scope : Scope) (B : FuncData → Prop) : Prop :=
  ∃ a fd o, V.mg x = some (.ref a) ∧ FnAt V fd a o ∧ (∀ c, fd.code = .ref c → c ≠ V.P) ∧ fd.body = .stmts body ∧ fd.scope = scope ∧ B fd
section
variable {V : Cx} {G : Gm} {loc loc₁ loc₂ : Loc} {st st₁ st₂ st₃ : St} {n : Nat}
theorem CallOK.gfB {x : Str} {body : List Stmt} {scope : Scope} {B : FuncData → Prop} {args : List SV} {kw : Loc} {out : Out} {ext : St} {v r : SV} (p : Pg V) (hd : IsDefB V x body scope B) (hb : ∀ fd, B fd → BindOK V fd args kw st loc)
    (hk : (loc.all fun y => scope.names.lookup y.1 == some .local || scope.names.lookup y.1 == some .cell) = true) (hnd : (loc.map (·.1)).Nodup) (hsn : (scope.names.map (·.1)).Nodup)
    (hrun : ∀ cd : Value, ExOK V ⟨n, scope.names, cd⟩ body loc st out [] (st ++ ext)) (hout : r = out.val) (hfz : Fz st.length (st ++ ext) r v) : CallOK V (n + 1) (.gl x) args kw st v st := by
  obtain ⟨a, fd, o, hm, Fa, hc, hbo, hs, hB⟩ := hd
  subst hs
  refine CallOK.def (loc := loc) p (IsFn.gl hm) Fa hc hbo (hb fd hB) (fun y hy => ?_) hnd hsn (hrun fd.code) hout rfl (fun i xs h e => h i xs e) hfz
  obtain ⟨q, hq, rfl⟩ := List.mem_map.mp hy
  have := List.all_eq_true.mp hk q hq
  rw [Bool.or_eq_true, beq_iff_eq, beq_iff_eq] at this
  exact this
theorem Step.eq {mods α β : List Addr} {s t : Shared} (X : Step V mods α s β t) (S : Sto V α st s) (S' : Sto V β st t) : β = α := by
  obtain ⟨new, e, _⟩ := X.ext
  have h1 := S.len
  have h2 := S'.len
  rw [e, List.length_append] at h2
  have : new = [] := List.eq_nil_of_length_eq_zero (by omega)
  rw [e, this, List.append_nil]

noncomputable def BindVar (a p : Str) (fd : FuncData) : Prop := ∀ u v : Value, bindArgs fd ⟨[u, v], []⟩ = (newTuple [v] >>= fun t => pure [(a, u), (p, t)])
theorem BindVar.ok {a p : Str} {fd : FuncData} {x y : SV} (h : BindVar a p fd) : BindOK V fd [x, y] [] st [(a, x), (p, .tup [y])] := .mk fun A α s us ks S hr hkw => by
  (first | obtain rfl := hkw.inv | (obtain ⟨_, rfl⟩ := hkw.inv) | (obtain ⟨_, rfl, _⟩ := hkw.inv) | cases hkw)
  obtain ⟨u, us, rfl, ru, rs⟩ := hr.inv; obtain ⟨v, us', rfl, rv, rs'⟩ := rs.inv
  (first | obtain rfl := rs'.inv | (obtain ⟨_, rfl⟩ := rs'.inv) | (obtain ⟨_, rfl, _⟩ := rs'.inv) | cases rs')
  rw [h u v]
  refine wpAny_bind (wpAny_newTuple (hsz := Nat.le_of_ble_eq_true rfl) ?_)
  refine wpAny_pure ?_
  obtain ⟨β, X, S', R⟩ := Res.newTup (n := 0) S (.cons _ _ _ _ rv .nil) (o := { cls := .type "tuple", data := .seq [v].toArray }) rfl s.toks
  cases X.eq S S'
  exact ⟨X, S', .cons _ _ _ _ _ (ru.go X) (.cons _ _ _ _ _ R .nil)⟩
end
end

section
noncomputable abbrev D_join (V : Cx) := IsDefB V "join" (pBody top 27) (pScope top 27) (BindVar "a" "p")
noncomputable def join2 (x y : Str) : Str := if Txt.startswith y "/" || x.length == 0 then y else if Txt.endswith x "/" then x ++ y else x ++ ("/" ++ y)
section
variable {V : Cx} {G : Gm} {loc loc₁ loc₂ : Loc} {st st₁ st₂ st₃ : St} {n : Nat}
local macro_rules | `(tactic| tm_at "call") => `(tactic| with_reducible exact get_sep_ok (by assumption) (by assumption))
local macro_rules | `(tactic| tm_at "call") => `(tactic| with_reducible exact fspath_ok (by assumption) (by assumption))
theorem join_ok {x y : Str} (gb : Gb V) (d : D_join V) (df : D_fspath V) (dg : D_get_sep V) (hx : x.length ≤ 1000) (hy : y.length ≤ 1000) : CallOK V (n + 2) (.gl "join") [.str x, .str y] [] st (.str (join2 x y)) st := by
  have hZ : sizeLine = 16777216 := rfl
  refine CallOK.gfB gb.pg d (fun fd B => B.ok) (by kernel_rfl) (show [("a" : Str), "p"].Nodup by decide +kernel) (by decide +kernel) (ext := []) (out := .ret (.str (join2 x y))) (fun cd => ?_) rfl (calm.fz rfl)
  simp only [List.append_nil]
  show ExOK _ _ (_ :: _) _ _ _ _ _
  tm_at "go"
  have iadd : ∀ {a b : Str}, a.length + b.length ≤ 16777216 → ∀ (A : Around) (α : List Addr) (s : Shared) (u w : Value), Sto V α st s → Rep V s.heap α u (.str a) → Rep V s.heap α w (.str b) → wpAny V.M A (inplaceOp .Add u w) (Res V α s st (.str (a ++ b))) NoE s := by
    intro a b h A α s u w S ru rw
    (first | obtain rfl := ru.inv | (obtain ⟨_, rfl⟩ := ru.inv) | (obtain ⟨_, rfl, _⟩ := ru.inv) | cases ru); (first | obtain rfl := rw.inv | (obtain ⟨_, rfl⟩ := rw.inv) | (obtain ⟨_, rfl, _⟩ := rw.inv) | cases rw)
    exact PyProof.Rows.iadd_str (hsz := h) fun t' tk => Res.toks S (.str _ _) tk
  have e1 : ("/" : Str).length = 1 := by decide +kernel
  have la : ∀ x y : Str, (x ++ y).length = x.length + y.length := fun x y => Str.length_append ..
  refine ExOK.cons (loc₁ := [("path", .str (join2 x y))]) (st₁ := st) (StOK.try_ (ExOK.for' (C := fun _ => True) (st₁ := st) (loc₁ := [("path", .str (join2 x y))]) (fun _ _ => rfl) (HdOK.tup (xs := [.str y]) ?_) ?_ .nil)) ?_
  · tm_at "go"
  · have body : ∀ loc, LSub loc [("sep", .str "/"), ("path", .str x), ("b", .str y)] → ∃ loc', ExOK V ⟨n + 1, (pScope top 27).names, cd⟩ (fBody (match (pBody top 27)[3]? with | some (Stmt.Try b _ _ _ _) => b | _ => []) 0) loc st .next loc' st ∧ LSub loc' [("path", .str (join2 x y))] := by
      intro loc hs
      cases h1 : (Txt.startswith y "/" || x.length == 0) with
      | true =>
        have e : join2 x y = y := by unfold join2; rw [h1]; rfl
        rw [e]
        refine ⟨setL "path" (.str y) (setL "b" (.str y) [("sep", .str "/"), ("path", .str x), ("b", .str y)]), ExOK.sub hs ?_, by tm_at "ls"⟩
        show ExOK _ _ (_ :: _) _ _ _ _ _
        tm_at "go"
        refine ExOK.if_t (r := Txt.startswith y "/" || !((x.length : Int) != 0)) (st₁ := st) ?_ (by rw [Bool.or_eq_true] at h1 ⊢; rcases h1 with h | h; exact .inl h; right; simpa using h) ?_ .nil
        · apply TsOK.or2
          · tm_at "go"
          · intro _
            tm_at "go"
            omega (config := {})
        · tm_at "go"
      | false =>
        have hr : (Txt.startswith y "/" || !((x.length : Int) != 0)) = false := by
          rw [Bool.or_eq_false_iff] at h1 ⊢
          exact ⟨h1.1, by simpa using h1.2⟩
        have test : TsOK V ⟨n + 1, (pScope top 27).names, cd⟩ (fTest (fBody (match (pBody top 27)[3]? with | some (Stmt.Try b _ _ _ _) => b | _ => []) 0) 1) (setL "b" (.str y) [("sep", .str "/"), ("path", .str x), ("b", .str y)]) st (Txt.startswith y "/" || !((x.length : Int) != 0)) st := by
          show TsOK _ _ (Expr.BoolOp _ [_, _] _) _ _ _ _
          apply TsOK.or2
          · tm_at "go"
          · intro _
            tm_at "go"
            omega (config := {})
        cases h2 : Txt.endswith x "/" with
        | true =>
          have e : join2 x y = x ++ y := by unfold join2; rw [h1, h2]; rfl
          rw [e]
          refine ⟨setL "path" (.str (x ++ y)) (setL "b" (.str y) [("sep", .str "/"), ("path", .str x), ("b", .str y)]), ExOK.sub hs ?_, by tm_at "ls"⟩
          show ExOK _ _ (_ :: _) _ _ _ _ _
          tm_at "go"
          refine ExOK.if_f test hr (ExOK.if_t (r := true) (st₁ := st) ?_ rfl ?_ .nil) .nil
          · rw [← h2]
            tm_at "go"
          · refine ExOK.aug' (st₁ := st) (by kernel_rfl) (by tm_at "lk") ?_ (iadd (by omega (config := {}))) .nil
            tm_at "go"
        | false =>
          have e : join2 x y = x ++ ("/" ++ y) := by unfold join2; rw [h1, h2]; rfl
          rw [e]
          refine ⟨setL "path" (.str (x ++ ("/" ++ y))) (setL "b" (.str y) [("sep", .str "/"), ("path", .str x), ("b", .str y)]), ExOK.sub hs ?_, by tm_at "ls"⟩
          show ExOK _ _ (_ :: _) _ _ _ _ _
          tm_at "go"
          refine ExOK.if_f test hr (ExOK.if_f (r := false) (st₁ := st) ?_ rfl ?_ .nil) .nil
          · rw [← h2]
            tm_at "go"
          · refine ExOK.aug' (st₁ := st) (v := .str ("/" ++ y)) (by kernel_rfl) (by tm_at "lk") ?_ (iadd (by rw [la]; omega (config := {}))) .nil
            tm_at "go"
            omega (config := {})
    obtain ⟨loc', t1, t2⟩ := body (setL "b" (.str y) (setL "path" (.str x) (setL "sep" (.str "/") (setL "a" (.str x) [("a", .str x), ("p", .tup [.str y])])))) (by tm_at "ls")
    exact FoOK.turn trivial (AsOK.lcl (by kernel_rfl)) t1 rfl (FoOK.sub t2 (.nil trivial))
  · tm_at "go"
end
end

section
theorem sre_step_failed {m : Sre.M} (ha : m.answer = some false) (hf : m.frames = []) (ho : m.outcome = none) : m.step = { m with outcome := some .failed } := by
  unfold Sre.M.step
  rw [ho, ha, hf]
  rfl
theorem sre_run_failed {m : Sre.M} (ha : m.answer = some false) (hf : m.frames = []) (ho : m.outcome = none) : m.runFor 4 = { m with outcome := some .failed } := by
  have h1 := sre_step_failed ha hf ho
  have h2 : ∀ k, Sre.M.runFor k { m with outcome := some .failed } = { m with outcome := some .failed } := fun k => by
    cases k with
    | zero => rfl
    | succ k => rfl
  show (if m.outcome.isSome then m else Sre.M.runFor 3 m.step) = _
  rw [ho, h1]
  exact h2 3
section
variable {M : Model} {A : Around} {E : Value → Shared → Prop} {s : Shared}
open Builtin.Re
theorem wp_rules {Q : PUnit → Shared → Prop} (c : Nat → Bool) (f : Nat → String) (h : Q PUnit.unit s) : ∀ l : List Nat, wpAny M A (forIn l PUnit.unit fun i _ => if c i = true then (do rule (f i); pure (ForInStep.yield PUnit.unit)) else pure (ForInStep.yield PUnit.unit)) Q E s
  | [] => wpAny_pure h
  | i :: l => by
    rw [List.forIn_cons]
    refine wpAny_bind ?_
    split
    · exact wpAny_bind (wpAny_rule (wpAny_pure (wp_rules c f h l)))
    · exact wpAny_pure (wp_rules c f h l)
theorem wp_reRun_failed {m : Sre.M} {Q : Option Sre.M → Shared → Prop} (ha : m.answer = some false) (hf : m.frames = []) (ho : m.outcome = none) (h : Q none s) : wpAny M A (reRunToEnd m) Q E s := by
  unfold reRunToEnd
  have e : reDrive (2 ^ 64) m = pure { m with outcome := some .failed } := by
    rw [show (2 ^ 64 : Nat) = (2 ^ 64 - 1) + 1 by decide]
    unfold reDrive reTurnSteps
    rw [sre_run_failed ha hf ho]
    rfl
  rw [e]
  refine wpAny_bind (wpAny_pure ?_)
  refine wpAny_bind ?_
  first
  | exact wp_rules (fun i => Sre.Seen.has m.seen i) (fun i => Sre.names.getD i "") (wpAny_pure h) _
  | (refine wp_rules (fun i => Sre.Seen.has m.seen i) (fun i => Sre.names.getD i "") ?_ _; exact wpAny_pure h)
end
end

section
theorem admitted_none {m : Sre.M} (h : ∀ i seen, i < m.lim → ∃ seen', Sre.inSet m.code (m.text.getD i 0) m.code.size 5 true seen = .ok (false, seen')) : ∀ fuel s seen, ∃ seen', m.admitted fuel s seen = .ok (none, seen')
  | 0, s, seen => ⟨seen, rfl⟩
  | fuel + 1, s, seen => by
    unfold Sre.M.admitted
    split
    · exact ⟨seen, rfl⟩
    · rename_i hs
      obtain ⟨seen', e⟩ := h s seen (by omega)
      rw [e]
      exact admitted_none h fuel (s + 1) seen'
theorem attempt_none {m : Sre.M} {s : Nat} {first : Bool} (hf : m.hasFirstSet = true) (h : ∀ i seen, i < m.lim → ∃ seen', Sre.inSet m.code (m.text.getD i 0) m.code.size 5 true seen = .ok (false, seen')) : ∃ seen', m.attemptFrom s first = ({ m with seen := seen' }).say false := by
  obtain ⟨seen', e⟩ := admitted_none h (m.lim + 1 - s) s m.seen
  refine ⟨seen', ?_⟩
  unfold Sre.M.attemptFrom
  rw [hf, e]
  rfl
noncomputable def firstSet (code : Array Nat) : Bool := (match Sre.ops[code.getD 0 0]? with | some .INFO => true | _ => false) && code.getD 2 0 == 4
theorem attempt_at {code text : Array Nat} {lim : Nat} (hf : firstSet code = true) (h : ∀ i seen, i < lim → ∃ seen', Sre.inSet code (text.getD i 0) code.size 5 true seen = .ok (false, seen')) (m : Sre.M) (hc : m.code = code) (ht : m.text = text) (hl : m.lim = lim)
    (hfr : m.frames = []) (ho : m.outcome = none) : (m.attemptFrom 0 true).answer = some false ∧ (m.attemptFrom 0 true).frames = [] ∧ (m.attemptFrom 0 true).outcome = none := by
  subst hc ht hl
  obtain ⟨seen', e⟩ := attempt_none (m := m) (s := 0) (first := true) hf h
  rw [e]
  exact ⟨rfl, hfr, ho⟩
theorem search_none {code text : Array Nat} {groups lim : Nat} (hf : firstSet code = true) (h : ∀ i seen, i < lim → ∃ seen', Sre.inSet code (text.getD i 0) code.size 5 true seen = .ok (false, seen')) :
    (Sre.forSearch code text groups 0 lim false).answer = some false ∧ (Sre.forSearch code text groups 0 lim false).frames = [] ∧ (Sre.forSearch code text groups 0 lim false).outcome = none := by
  unfold Sre.forSearch
  dsimp only
  split
  · exact ⟨rfl, rfl, rfl⟩
  · exact attempt_at hf h _ rfl rfl rfl rfl rfl
end

section
theorem plainAttrs_pat : PlainAttrs "re.Pattern" :=
  ⟨⟨"object.__getattribute__", by rw [typeLookup_type, builtinLookup_eq_fast]; kernel_rfl, by decide +kernel⟩, by rw [typeLookup_type, builtinLookup_eq_fast]; kernel_rfl⟩
theorem owner_pat : Manifest.owners.lookup "re.Pattern" = some Manifest.sig_re_Pattern := by kernel_rfl
theorem slot_pat_search : Slot "re.Pattern" "search" "re.Pattern.search" :=
  .of (owner := "re.Pattern") (n := "search") (by rw [typeLookup_type, builtinLookup_eq_fast]; kernel_rfl) (by decide +kernel) (by decide +kernel) (by decide +kernel)
    (by first | exact .inl (by decide +kernel) | exact .inr (by decide +kernel)) (by rw [isSubtype_type]; kernel_rfl)
theorem type_pat_search : typeOf (.builtin "re.Pattern.search") = pure (.type "method_descriptor") := by show builtinType _ = _; rw [builtinType_eq_fast]; kernel_rfl
theorem entry_pat_search : entryFor table "re.Pattern.search" = some Builtin.«re.Pattern.search» := entryFor_of_tree (by kernel_rfl)
theorem args_pat_search_2 (a b : Value) : argsOk "re.Pattern.search" ⟨[a, b], []⟩ := by
  unfold argsOk; kernel_rfl
end

section
structure PatAt (h : Heap) (a : Addr) (code : Array Nat) : Prop where
  ex : ∃ o fs c oc ws k, h.get? a = some o ∧ o.cls = .type "re.Pattern" ∧ o.dict = none ∧ o.data = .fields fs ∧ fs.getD 5 .none = .ref c ∧ Builtin.Re.reRawNat (fs.getD 6 .none) = 0 ∧
    h.get? c = some oc ∧ oc.data = .seq ws k ∧ (ws.map Builtin.Re.reRawOf).map (·.toNat) = code
noncomputable def IsPat (V : Cx) (x : Str) (code : Array Nat) : Prop :=
  ∃ a o fs c oc ws k, V.mg x = some (.ref a) ∧ V.h₀.get? a = some o ∧ a ≠ V.P ∧ o.cls = .type "re.Pattern" ∧ o.dict = none ∧ o.data = .fields fs ∧ fs.getD 5 .none = .ref c ∧ Builtin.Re.reRawNat (fs.getD 6 .none) = 0 ∧
    V.h₀.get? c = some oc ∧ c ≠ V.P ∧ oc.data = .seq ws k ∧ (ws.map Builtin.Re.reRawOf).map (·.toNat) = code
theorem reNamed_1 {id f : String} {v : Value} : Builtin.Re.reNamed id f ["string", "pos", "endpos"] 1 [v] [] = pure [some v, none, none] := by rfl
section
variable {V : Cx} {G : Gm} {loc loc₁ loc₂ : Loc} {st st₁ st₂ st₃ : St} {n : Nat}
theorem IsPat.at {x : Str} {code : Array Nat} (hp : IsPat V x code) {α : List Addr} {s : Shared} (S : Sto V α st s) {u : Value} (r : Rep V s.heap α u (.gl x)) : ∃ a, u = .ref a ∧ PatAt s.heap a code := by
  obtain ⟨a, o, fs, c, oc, ws, k, hm, ho, hna, hcl, hdi, hd, h5, h6, hoc, hnc, hdc, hcode⟩ := hp
  exact ⟨a, IsFn.gl hm r, o, fs, c, oc, ws, k, S.old _ _ ho hna, hcl, hdi, hd, h5, h6, S.old _ _ hoc hnc, hdc, hcode⟩
theorem textOf_str {M : Model} {A : Around} {E : Value → Shared → Prop} {s : Shared} {t : Str} {tk : Tok} {Q : Array Nat × Nat → Shared → Prop} (h : Q (t.cps, 0) s) : wpAny M A (Builtin.Re.reTextOf (.str t tk)) Q E s := wpAny_pure h
theorem reTarget_at {M : Model} {A : Around} {E : Value → Shared → Prop} {s : Shared} {a : Addr} {code : Array Nat} {id f : String} {t : Str} {tk : Tok} {Q : Builtin.Re.ReTarget → Shared → Prop} (P : PatAt s.heap a code)
    (h : ∀ T : Builtin.Re.ReTarget, T.pattern = .ref a → T.string = .str t tk → T.code = code → T.text = t.cps → T.kind = 0 → T.pos = 0 → T.lim = min (2 ^ 63 - 1) t.cps.size → Q T s) : wpAny M A (Builtin.Re.reTarget id f ⟨[.ref a, .str t tk], []⟩) Q E s := by
  obtain ⟨o, fs, c, oc, ws, k, ho, hcl, hdi, hd, h5, h6, hoc, hdc, hcode⟩ := P
  unfold Builtin.Re.reTarget
  dsimp only
  rw [reNamed_1]
  refine wpAny_bind (wpAny_pure ?_)
  dsimp only
  refine wpAny_bind (wpAny_pure ?_)
  refine wpAny_bind (wpAny_pure ?_)
  refine wpAny_bind (wpAny_fieldsOf ho hd ?_)
  refine wpAny_bind (textOf_str ?_)
  dsimp only
  rw [h6, h5]
  refine wpAny_bind (wpAny_pure ?_)
  unfold Builtin.Re.reRawItems
  refine wpAny_bind (wpAny_bind (wpAny_seqItems hoc hdc ?_))
  refine wpAny_pure (wpAny_pure (h _ rfl rfl ?_ rfl rfl ?_ ?_))
  · exact hcode
  · simp
  · simp
theorem CallOK.search {x t : Str} {code : Array Nat} (hp : IsPat V x code) (hf : firstSet code = true) (hl : t.length < 1000000) (h : ∀ i seen, i < t.length → ∃ seen', Sre.inSet code (t.cps.getD i 0) code.size 5 true seen = .ok (false, seen')) :
    CallOK V n (.val (.builtin "re.Pattern.search")) [.gl x, .str t] [] st .none st := .mk fun A α s fv us ks rm S rf r rk => by
  (first | obtain rfl := rf.inv | (obtain ⟨_, rfl⟩ := rf.inv) | (obtain ⟨_, rfl, _⟩ := rf.inv) | cases rf); (first | obtain rfl := rk.inv | (obtain ⟨_, rfl⟩ := rk.inv) | (obtain ⟨_, rfl, _⟩ := rk.inv) | cases rk)
  obtain ⟨u, us, rfl, ru, rs⟩ := r.inv; obtain ⟨v, us', rfl, rv, rs'⟩ := rs.inv
  (first | obtain rfl := rs'.inv | (obtain ⟨_, rfl⟩ := rs'.inv) | (obtain ⟨_, rfl, _⟩ := rs'.inv) | cases rs')
  obtain ⟨tk, rfl⟩ := rv.inv
  obtain ⟨a, rfl, P⟩ := hp.at S ru
  obtain ⟨o, _, _, _, _, _, ho, hcl, hdi, _⟩ := id P.ex
  refine wpAny_call_entry slot_pat_search ⟨o, ho, hcl⟩ entry_pat_search ?_ (args_pat_search_2 _ _)
  unfold Builtin.«re.Pattern.search»
  refine wpAny_bind (reTarget_at P fun T e1 e2 e3 e4 e5 e6 e7 => ?_)
  have e7' : T.lim = t.length := by
    rw [e7]
    have : t.cps.size < 1000000 := hl
    show min (2 ^ 63 - 1) t.cps.size = t.cps.size
    omega
  have h' : ∀ i seen, i < T.lim → ∃ seen', Sre.inSet T.code (T.text.getD i 0) T.code.size 5 true seen = .ok (false, seen') := by
    rw [e3, e4, e7']; exact h
  obtain ⟨a1, a2, a3⟩ := search_none (groups := T.groups) (by rw [e3]; exact hf) h'
  rw [e6]
  unfold Builtin.Re.reAnswer
  refine wpAny_bind (wp_reRun_failed a1 a2 a3 ?_)
  exact wpAny_pure ⟨.none, rfl, Res.here S .none⟩
theorem GmOK.p_search {x : Str} {code : Array Nat} (hp : IsPat V x code) : GmOK V (.gl x) "search" st (.val (.builtin "re.Pattern.search")) [.gl x] := .mk fun A α s u pl S r => by
  obtain ⟨a, rfl, P⟩ := hp.at S r
  obtain ⟨o, _, _, _, _, _, ho, hcl, hdi, _⟩ := id P.ex
  refine getMethod_builtin ⟨o, ho, hcl⟩ plainAttrs_pat slot_pat_search type_pat_search ?_ ⟨rfl, .val _, .cons _ _ _ _ r .nil⟩
  intro b e
  cases e
  exact ⟨o, ho, hdi⟩
end
end

section
open PySem.W in

structure Hd (V : Cx) (K : Frag) (C : Addr) : Prop where
  X : K.In V.h₀
  XP : K.lookup V.P = none
  ga : findIn K (.ref C) "__getattribute__" = some (some (.builtin "object.__getattribute__"))
  gt : findIn K (.ref C) "__getattr__" = some none
  nq : noSeq K C = true

structure IsM (V : Cx) (K : PySem.W.Frag) (C : Addr) (name : Str) (f : Addr) (body : List Stmt) (scope : Scope) (B : FuncData → Prop) : Prop where
  fn : PySem.W.findIn K (.ref C) name = some (some (.ref f))
  ty : PySem.W.typeIn K (.ref f) = some (.type "function")
  nh : name ≠ "_headers"
  ex : ∃ fd o, FnAt V fd f o ∧ (∀ c, fd.code = .ref c → c ≠ V.P) ∧ fd.body = .stmts body ∧ fd.scope = scope ∧ B fd

structure Bk (V : Cx) (K : PySem.W.Frag) (C dx : Addr) (od : Obj) (l : Addr) : Prop where
  hd : Hd V K C
  fi : (V.bk, PySem.W.instObj C dx) ∈ V.fixed
  fd : (dx, od) ∈ V.fixed
  es : ∃ hsh t n, od.data = .dict #[⟨hsh, .str "_headers" t, .ref l⟩] n
  fo : PySem.W.findObj K C (some od) "_headers" = some (.value (.ref l))
  hl : V.hl = some l
section
variable {V : Cx} {G : Gm} {loc loc₁ loc₂ : Loc} {st st₁ st₂ st₃ : St} {n : Nat} {K : PySem.W.Frag} {C dx l f : Addr} {od : Obj}
open PySem.W
theorem Hd.In (H : Hd V K C) {α : List Addr} {s : Shared} (S : Sto V α st s) : K.In s.heap := fun a o e => S.old a o (H.X a o e) (by rintro rfl; rw [H.XP] at e; cases e)
theorem Bk.inst (b : Bk V K C dx od l) {α : List Addr} {s : Shared} (S : Sto V α st s) : InstAt s.heap V.bk (instObj C dx) C (some od) := ⟨(S.fix _ b.fi).1, rfl, rfl, (S.fix _ b.fd).1⟩
theorem Bk.shadow (b : Bk V K C dx od l) {name : Str} (h : name ≠ "_headers") : shadowIn (some od) name = some false := by
  obtain ⟨hsh, t, n, e⟩ := b.es
  have q : (("_headers" : Str) == name) = false := by simpa using Ne.symm h
  unfold shadowIn lookIn
  simp only [e]
  have : List.find? (fun e : DictEntry => e.key.isStr name) [⟨hsh, .str "_headers" t, .ref l⟩] = none := by
    rw [List.find?_cons_of_neg (by show ¬ (("_headers" : Str) == name) = true; rw [q]; decide)]; rfl
  rw [this]
  rfl
theorem GmOK.bookM {name : Str} {body scope B} (b : Bk V K C dx od l) (hm : IsM V K C name f body scope B) : GmOK V .book name st (.val (.ref f)) [.book] := .mk fun A α s u pl S r => by
  (first | obtain rfl := r.inv | (obtain ⟨_, rfl⟩ := r.inv) | (obtain ⟨_, rfl, _⟩ := r.inv) | cases r)
  exact method_fn (b.hd.In S) (b.inst S) b.hd.ga b.hd.gt hm.fn hm.ty (b.shadow hm.nh) ⟨rfl, .val _, .cons _ _ _ _ .book .nil⟩
theorem EvOK.attrH {o : Expr} {pos} (b : Bk V K C dx od l) (ho : EvOK V G o loc st .book st₁)
    (he : ∀ env, eval (.Attribute o "_headers" pos) env = (do
      let o' ← eval o env
      standAt pos.atName
      let r ← holding [o'] (getAttr o' "_headers" true)
      letTemporaryGo o o' r
      pure r)) : EvOK V G (.Attribute o "_headers" pos) loc st (.obj V.bi) st₁ := .mk fun A env α s rm S R => by
  refine Attribute_any_ (he := he env) (wpAny_mono (ho.out A env α s rm S R) (fun u s₁ hq_ => ?_) fun _ _ e => e)
  obtain ⟨β, X, S₁, r⟩ := hq_
  (first | obtain rfl := r.inv | (obtain ⟨_, rfl⟩ := r.inv) | (obtain ⟨_, rfl, _⟩ := r.inv) | cases r)
  refine get_value (b.hd.In S₁) (b.inst S₁) b.hd.ga b.fo rfl ?_
  exact (Res.toks S₁ (.obj _ _ (S₁.bkl l b.hl)) _).trans X
theorem CallOK.meth {body : List Stmt} {scope : Scope} {name : Str} {B : FuncData → Prop} {args : List SV} {kw : Loc} {out : Out} {ext st' : St} {v r : SV} (p : Pg V) (hd : IsM V K C name f body scope B) (hb : ∀ fd, B fd → BindOK V fd args kw st loc)
    (hk : (loc.all fun y => scope.names.lookup y.1 == some .local || scope.names.lookup y.1 == some .cell) = true) (hnd : (loc.map (·.1)).Nodup) (hsn : (scope.names.map (·.1)).Nodup)
    (hrun : ∀ cd : Value, ExOK V ⟨n, scope.names, cd⟩ body loc st out [] (st' ++ ext)) (hout : r = out.val)  (hlen : st.length = st'.length) (hsm : ∀ (i : Nat) (xs : List SV), (∀ (j : Nat) (ys : List SV), st[j]? = some ys → Fzs st.length [] ys ys) → st'[i]? = some xs → Fzs st.length [] xs xs)
    (hfz : Fz st.length (st' ++ ext) r v) : CallOK V (n + 1) (.val (.ref f)) args kw st v st' := by
  obtain ⟨fd, o, Fa, hc, hbo, hs, hB⟩ := hd.ex
  subst hs
  refine CallOK.def (loc := loc) p IsFn.val Fa hc hbo (hb fd hB) (fun y hy => ?_) hnd hsn (hrun fd.code) hout hlen hsm hfz
  obtain ⟨q, hq, rfl⟩ := List.mem_map.mp hy
  have := List.all_eq_true.mp hk q hq
  rw [Bool.or_eq_true, beq_iff_eq, beq_iff_eq] at this
  exact this
theorem CwOK.meth {name : Str} {body scope B} {first : List SV} {es : List Expr} {ks : List Keyword} {vs : List SV} {kw : Loc} {v : SV} (hm : IsM V K C name f body scope B) (hs : es.all notStar = true) (hk : ks.all (fun k => (kwName k).isSome) = true)
    (he : EvsOK V G es loc st vs st₁) (hkw : EvkOK V G ks loc st₁ kw st₂) (hc : CallOK V G.n (.val (.ref f)) (first ++ vs) kw st₂ v st₃) : CwOK V G (.val (.ref f)) first es ks loc st v st₃ := by
  obtain ⟨fd, o, Fa, _⟩ := hm.ex
  exact CwOK.fn IsFn.val Fa hs hk he hkw hc
end
end

section
noncomputable def outB (code : Array Nat) (c : Nat) (seen : Sre.Seen) : Bool := match Sre.inSet code c code.size 5 true seen with
  | .ok (b, _) => !b
  | .error _ => false
theorem out_of {code : Array Nat} {c : Nat} {seen : Sre.Seen} (h : outB code c seen = true) : ∃ seen', Sre.inSet code c code.size 5 true seen = .ok (false, seen') := by
  unfold outB at h
  cases e : Sre.inSet code c code.size 5 true seen with
  | error m => rw [e] at h; cases h
  | ok p =>
    rw [e] at h
    obtain ⟨b, s⟩ := p
    cases b with
    | false => exact ⟨s, rfl⟩
    | true => cases h
noncomputable def codeN : Array Nat := #[14, 10, 4, 1, 1, 22, 0, 31, 16, 127, 0, 13, 7, 22, 0, 31, 16, 127, 0, 1]
noncomputable def codeV : Array Nat := #[14, 14, 4, 1, 1, 9, 4294966783, 0, 0, 2147483648, 0, 0, 0, 0, 0, 13, 11, 9, 4294966783, 0, 0, 2147483648, 0, 0, 0, 0, 0, 1]
noncomputable def codeT : Array Nat := #[14, 14, 4, 1, 1, 9, 0, 64, 0, 1342177280, 0, 0, 0, 0, 0, 17, 0, 13, 11, 9, 0, 64, 0, 1342177280, 0, 0, 0, 0, 0, 17, 1, 1]

noncomputable def Clean (x : Str) : Prop := ∀ c ∈ x.cps, 32 ≤ c ∧ c < 127
theorem clean_code (seen : Sre.Seen) : ((List.range 127).all fun c => Nat.blt c 32 || (outB codeN c seen && outB codeV c seen)) = true := by kernel_rfl
theorem Clean.at {x : Str} (h : Clean x) {i : Nat} (hi : i < x.length) : (∀ seen, ∃ seen', Sre.inSet codeN (x.cps.getD i 0) codeN.size 5 true seen = .ok (false, seen')) ∧ ∀ seen, ∃ seen', Sre.inSet codeV (x.cps.getD i 0) codeV.size 5 true seen = .ok (false, seen') := by
  have hi' : i < x.cps.size := hi
  have e : x.cps.getD i 0 = x.cps[i] := by simp [Array.getD, hi']
  rw [e]
  have hm := h x.cps[i] (Array.getElem_mem hi')
  have key : ∀ seen, outB codeN x.cps[i] seen = true ∧ outB codeV x.cps[i] seen = true := fun seen => by
    have := List.all_eq_true.mp (clean_code seen) x.cps[i] (List.mem_range.mpr hm.2)
    rcases (Bool.or_eq_true _ _).mp this with h1 | h1
    · exact absurd (Nat.le_of_ble_eq_true h1) (Nat.not_lt.mpr hm.1)
    · exact Bool.and_eq_true_iff.mp h1
  exact ⟨fun seen => out_of (key seen).1, fun seen => out_of (key seen).2⟩
theorem first_codes : firstSet codeN = true ∧ firstSet codeV = true ∧ firstSet codeT = true := by decide +kernel

noncomputable def BindConv (fd : FuncData) : Prop := ∀ u v w : Value, bindArgs fd ⟨[u, v], [(("name" : Str), w)]⟩ = (pure [(("self" : Str), u), ("value", v), ("name", w)] : Sem (List (Str × Value)))

structure Cv (V : Cx) : Prop where
  gb : Gb V
  pn : IsPat V "_name_disallowed_re" codeN
  pv : IsPat V "_value_disallowed_re" codeV
noncomputable abbrev M_conv (V : Cx) (K : PySem.W.Frag) (C f : Addr) := IsM V K C "_convert_string_type" f (pBody clsBody 1) (pScope clsBody 1) BindConv
section
variable {V : Cx} {G : Gm} {loc loc₁ loc₂ : Loc} {st st₁ st₂ st₃ : St} {n : Nat} {K : PySem.W.Frag} {C dx l f : Addr} {od : Obj}
theorem EvOK.glPat {x : Str} {pos} {code : Array Nat} (p : Pg V) (hp : IsPat V x code) (hk : G.ks.lookup x = some .globalImplicit) (hd : (x == ("__debug__" : Str)) = false) : EvOK V G (.Name x pos) loc st (.gl x) st := by
  obtain ⟨a, _, _, _, _, _, _, hm, _⟩ := hp
  exact EvOK.gl p hm hk hd
theorem BindConv.ok {fd : FuncData} {x y z : SV} (h : BindConv fd) : BindOK V fd [x, y] [("name", z)] st [("self", x), ("value", y), ("name", z)] := .mk fun A α s us ks S hr hkw => by
  obtain ⟨u, us, rfl, ru, rs⟩ := hr.inv; obtain ⟨v, us', rfl, rv, rs'⟩ := rs.inv
  (first | obtain rfl := rs'.inv | (obtain ⟨_, rfl⟩ := rs'.inv) | (obtain ⟨_, rfl, _⟩ := rs'.inv) | cases rs')
  obtain ⟨w, ws, rfl, rw1, rws⟩ := hkw.icons
  obtain rfl := rws.inv
  exact wpAny_of_eq (h u v w) ⟨.refl, S, .cons _ _ _ _ _ ru (.cons _ _ _ _ _ rv (.cons _ _ _ _ _ rw1 .nil))⟩
theorem conv_ok {x : Str} {b : Bool} {ov : SV} (cv : Cv V) (hm : M_conv V K C f) (hc : Clean x) (hl : x.length < 1000000) : CallOK V (n + 1) (.val (.ref f)) [ov, .str x] [("name", .bool b)] st (.str x) st := by
  have gb := cv.gb
  have hfn := first_codes
  refine CallOK.meth (loc := [("self", ov), ("value", .str x), ("name", .bool b)]) gb.pg hm (fun fd h => h.ok) (by kernel_rfl) (show [("self" : Str), "value", "name"].Nodup by decide +kernel) (by decide +kernel) (ext := []) (out := .ret (.str x)) (fun cd => ?_) rfl rfl (fun i xs h e => h i xs e) (calm.fz rfl)
  simp only [List.append_nil]
  show ExOK _ _ (_ :: _) _ _ _ _ _
  have go : ∀ (pt : Str) (code : Array Nat), IsPat V pt code → firstSet code = true → (∀ i seen, i < x.length → ∃ seen', Sre.inSet code (x.cps.getD i 0) code.size 5 true seen = .ok (false, seen')) →
      ExOK V ⟨n, (pScope clsBody 1).names, cd⟩ (fBody (pBody clsBody 1) 0).tail (setL "regex" (.gl pt) [("self", ov), ("value", .str x), ("name", .bool b)]) st (.ret (.str x)) [] st := by
    intro pt code hp hf hi
    show ExOK _ _ (_ :: _) _ _ _ _ _
    apply ExOK.if_no
    · apply TsOK.call
      · apply EvOK.meth
        · tm_at "go"
        · exact GmOK.p_search hp
        · apply CwOK.bi1
          · rfl
          · tm_at "go"
          · exact CallOK.search hp hf hl hi
        · exact fun _ => rfl
        · rfl
        · rfl
        · rfl
        · rfl
      · exact Tru.none'
    · rfl
    · tm_at "go"
  apply ExOK.if_tE
  · tm_at "go"
    exact Cmp.isTy
  · rfl
  · show ExOK _ _ (_ :: _) _ _ _ _ _
    cases b with
    | true =>
      apply ExOK.asgL
      · kernel_rfl!
      · apply EvOK.ifexp_true
        · apply TsOK.name
          · tm_at "go"
          · exact Tru.bool
        · exact EvOK.glPat gb.pg cv.pn (by kernel_rfl) (by kernel_rfl)
      · exact fun _ => rfl
      · exact go _ _ cv.pn hfn.1 fun i seen hi => (hc.at hi).1 seen
    | false =>
      apply ExOK.asgL
      · kernel_rfl!
      · apply EvOK.ifexp_false
        · apply TsOK.name
          · tm_at "go"
          · exact Tru.bool
        · exact EvOK.glPat gb.pg cv.pv (by kernel_rfl) (by kernel_rfl)
      · exact fun _ => rfl
      · exact go _ _ cv.pv hfn.2.1 fun i seen hi => (hc.at hi).2 seen
  · exact fun h => nomatch h
end
end

section
noncomputable def BindN (V : Cx) (names : List Str) (fd : FuncData) : Prop := ∀ us : List Value, us.length = names.length → ∀ {M : Model} {A : Around} {E : Value → Shared → Prop} {s : Shared} {Q : List (Str × Value) → Shared → Prop}, (∀ b o, V.h₀.get? b = some o → b ≠ V.P → s.heap.get? b = some o) → Q (names.zip us) s → wpAny M A (bindArgs fd ⟨us, []⟩) Q E s
noncomputable def BindD (V : Cx) (names : List Str) (d : Str) (fd : FuncData) : Prop := ∀ us : List Value, us.length = names.length → ∀ {M : Model} {A : Around} {E : Value → Shared → Prop} {s : Shared} {Q : List (Str × Value) → Shared → Prop}, (∀ b o, V.h₀.get? b = some o → b ≠ V.P → s.heap.get? b = some o) → Q (names.zip us ++ [(d, .none)]) s → wpAny M A (bindArgs fd ⟨us, []⟩) Q E s
noncomputable abbrev ss (p : Str × Str) : SV := .tup [.str p.1, .str p.2]

noncomputable def getL (x : Str) (hs : List (Str × Str)) : Option Str := (hs.find? fun p => Txt.lower p.1 == Txt.lower x).map (·.2)

noncomputable def delL (x : Str) (hs : List (Str × Str)) : List (Str × Str) := hs.filter fun p => Txt.lower p.1 != Txt.lower x
structure HsOk (hs : List (Str × Str)) : Prop where
  len : hs.length ≤ 1000
  each : ∀ p ∈ hs, p.1.length ≤ 1000
structure NmOk (x : Str) : Prop where
  len : x.length ≤ 1000
  cl : Clean x
  low : Clean (Txt.lower x)
section
variable {V : Cx} {G : Gm} {loc loc₁ loc₂ : Loc} {st st₁ st₂ st₃ : St} {n : Nat} {K : PySem.W.Frag} {C dx l f g : Addr} {od : Obj}
theorem breps_app {h : Heap} {α : List Addr} {bs loc cs loc'} (r : BReps V h α bs loc) (q : BReps V h α cs loc') : BReps V h α (bs ++ cs) (loc ++ loc') := by
  induction loc generalizing bs with
  | nil => obtain rfl := r.inv; exact q
  | cons p loc ih => obtain ⟨n, v⟩ := p; obtain ⟨u, us, rfl, r1, rs⟩ := r.icons; exact .cons n u v _ _ r1 (ih rs)
theorem BindN.ok {names : List Str} {fd : FuncData} {args : List SV} (h : BindN V names fd) (hl : args.length = names.length) : BindOK V fd args [] st (names.zip args) := .mk fun A α s us ks S hr hkw => by
  (first | obtain rfl := hkw.inv | (obtain ⟨_, rfl⟩ := hkw.inv) | (obtain ⟨_, rfl, _⟩ := hkw.inv) | cases hkw)
  exact h us (by rw [hr.length, hl]) S.old ⟨.refl, S, zip_breps hr⟩
theorem BindD.ok {names : List Str} {d : Str} {fd : FuncData} {args : List SV} (h : BindD V names d fd) (hl : args.length = names.length) : BindOK V fd args [] st (names.zip args ++ [(d, .none)]) := .mk fun A α s us ks S hr hkw => by
  (first | obtain rfl := hkw.inv | (obtain ⟨_, rfl⟩ := hkw.inv) | (obtain ⟨_, rfl, _⟩ := hkw.inv) | cases hkw)
  exact h us (by rw [hr.length, hl]) S.old ⟨.refl, S, breps_app (zip_breps hr) (.cons _ _ _ _ _ .none .nil)⟩
noncomputable abbrev M_get (V : Cx) (K : PySem.W.Frag) (C f : Addr) := IsM V K C "get" f (pBody clsBody 8) (pScope clsBody 8) (BindD V ["self", "name"] "default")

theorem EvOK.conv {o e : Expr} {apos pos kp kq} {b : Bool} {x : Str} (bk : Bk V K C dx od l) (cv : Cv V) (hm : M_conv V K C f) (hn : 1 ≤ G.n) (ho : EvOK V G o loc st .book st) (he : EvOK V G e loc st (.str x) st₁) (hc : Clean x) (hl : x.length < 1000000)
    (hbase : ∀ env, attributeBase o "_convert_string_type" env (eval o env) = eval o env) (hs : notStar e = true) (hline : (apos.endLine == pos.line) = true) :
    EvOK V G (.Call (.Attribute o "_convert_string_type" apos) [e] [⟨some "name", .Constant (.bool b) 0 kp, kq⟩] pos) loc st (.str x) st₁ := by
  obtain ⟨m, ks, cd⟩ := G
  obtain ⟨k, rfl⟩ : ∃ k, m = k + 1 := ⟨m - 1, by have : 1 ≤ m := hn; omega⟩
  refine EvOK.meth ho (GmOK.bookM bk hm) (CwOK.meth hm ?_ rfl (.cons hs he .nil) (.one .bool) (conv_ok cv hm hc hl)) hbase ?_ rfl rfl hline
  · simp [hs]
  · simp [hs]
noncomputable abbrev getLc (x low : Str) : Loc := [("self", .book), ("name", .str low), ("default", .none)]
theorem get_loop {cd : Value} {x : Str} {m : Nat} (gb : Gb V) (hx : x.length ≤ 1000) {hs0 : List SV} (hB : st[V.bi]? = some hs0) : ∀ (hs : List (Str × Str)), (∀ p ∈ hs, p.1.length ≤ 1000) →
    (∀ v, getL x hs = some v → FoOK V ⟨m, (pScope clsBody 8).names, cd⟩ (fun st => st[V.bi]? = some hs0) (fTarget (pBody clsBody 8) 1) (fBody (pBody clsBody 8) 1) (hs.map ss) (getLc x (Txt.lower x)) st (.ret (.str v)) [] st) ∧
    (getL x hs = none → FoOK V ⟨m, (pScope clsBody 8).names, cd⟩ (fun st => st[V.bi]? = some hs0) (fTarget (pBody clsBody 8) 1) (fBody (pBody clsBody 8) 1) (hs.map ss) (getLc x (Txt.lower x)) st .next (getLc x (Txt.lower x)) st)
  | [], _ => ⟨fun v h => (by cases h), fun _ => .nil hB⟩
  | p :: hs, hz => by
    obtain ⟨i1, i2⟩ := get_loop (cd := cd) (m := m) gb hx hB hs (fun q hq => hz q (List.mem_cons_of_mem _ hq))
    have hp := hz p List.mem_cons_self
    have sz : AsOK V ⟨m, (pScope clsBody 8).names, cd⟩ (fTarget (pBody clsBody 8) 1) (ss p) (getLc x (Txt.lower x)) st (setL "v" (.str p.2) (setL "k" (.str p.1) (getLc x (Txt.lower x)))) st := by
      refine AsOK.tup rfl rfl ?_
      tm_at "go"
    have fl : Builtin.Str.tooLong (Txt.lower p.1).length = false := fit_lower (by omega)
    have test : TsOK V ⟨m, (pScope clsBody 8).names, cd⟩ (fTest (fBody (pBody clsBody 8) 1) 0) (setL "v" (.str p.2) (setL "k" (.str p.1) (getLc x (Txt.lower x)))) st (Txt.lower p.1 == Txt.lower x) st := by
      show TsOK _ _ (Expr.Compare _ _ _ _) _ _ _ _
      tm_at "go"
      exact fl
    rw [List.map_cons]
    cases hb : Txt.lower p.1 == Txt.lower x with
    | true =>
      have e : getL x (p :: hs) = some p.2 := by unfold getL; rw [List.find?_cons_of_pos (by simpa using hb)]; rfl
      rw [e]
      refine ⟨fun v h => ?_, fun h => (by cases h)⟩
      cases h
      refine FoOK.leave (o := .ret (.str p.2)) hB sz ?_ rfl
      show ExOK _ _ (_ :: _) _ _ _ _ _
      refine ExOK.if_tE test hb ?_ (fun h => nomatch h)
      tm_at "go"
    | false =>
      have e : getL x (p :: hs) = getL x hs := by unfold getL; rw [List.find?_cons_of_neg (by simp [hb])]
      rw [e]
      have t1 : ExOK V ⟨m, (pScope clsBody 8).names, cd⟩ (fBody (pBody clsBody 8) 1) (setL "v" (.str p.2) (setL "k" (.str p.1) (getLc x (Txt.lower x)))) st .next (setL "v" (.str p.2) (setL "k" (.str p.1) (getLc x (Txt.lower x)))) st := by
        show ExOK _ _ (_ :: _) _ _ _ _ _
        exact ExOK.if_no test hb .nil
      refine ⟨fun v h => FoOK.turn hB sz t1 rfl (FoOK.sub ?_ (i1 v h)), fun h => FoOK.turn hB sz t1 rfl (FoOK.sub ?_ (i2 h))⟩
      · tm_at "ls"
      · tm_at "ls"
theorem get_ok {x : Str} {hs : List (Str × Str)} (bk : Bk V K C dx od l) (cv : Cv V) (hm : M_conv V K C f) (hg : M_get V K C g) (hx : NmOk x) (hh : HsOk hs) (hB : st[V.bi]? = some (hs.map ss)) :
    CallOK V (n + 2) (.val (.ref g)) [.book, .str x] [] st (optSV (getL x hs)) st := by
  have gb := cv.gb
  refine CallOK.meth (loc := [("self", .book), ("name", .str x), ("default", .none)]) gb.pg hg (fun fd h => h.ok rfl) (by kernel_rfl) (show [("self" : Str), "name", "default"].Nodup by decide +kernel) (by decide +kernel) (ext := []) (out := .ret (optSV (getL x hs))) (fun cd => ?_) rfl rfl (fun i xs h e => h i xs e)
    (calm.fz (by cases getL x hs <;> rfl))
  simp only [List.append_nil]
  show ExOK _ _ (_ :: _) _ _ _ _ _
  have fl : Builtin.Str.tooLong (Txt.lower x).length = false := fit_lower (by have := hx.len; omega)
  have fz : (Txt.lower x).length < 1000000 := by have := len_lower x; have := hx.len; omega
  obtain ⟨t1, t2⟩ := get_loop (cd := cd) (m := n + 1) (x := x) (st := st) gb hx.len hB hs hh.each
  apply ExOK.asgL
  · kernel_rfl!
  · refine EvOK.conv (st₁ := st) bk cv hm (Nat.le_add_left 1 n) ?_ ?_ hx.low fz (fun _ => rfl) rfl rfl
    · tm_at "go"
    · tm_at "go"
      exact fl
  · exact fun _ => rfl
  · cases hr : getL x hs with
    | some v =>
      refine ExOK.stop (StOK.for (C := fun st => st[V.bi]? = some (hs.map ss)) (st₁ := st) (HdOK.obj (i := V.bi) ?_ hB) (FoOK.sub ?_ (t1 v hr)) (fun _ _ => rfl)) (fun h => nomatch h)
      · refine EvOK.attrH bk ?_ (fun _ => rfl)
        tm_at "go"
      · tm_at "ls"
    | none =>
      refine ExOK.for' (C := fun st => st[V.bi]? = some (hs.map ss)) (st₁ := st) (fun _ _ => rfl) (HdOK.obj (i := V.bi) ?_ hB) (FoOK.sub ?_ (t2 hr)) ?_
      · refine EvOK.attrH bk ?_ (fun _ => rfl)
        tm_at "go"
      · tm_at "ls"
      · tm_at "go"
end
end

section
section
variable {V : Cx} {G : Gm} {loc loc₁ loc₂ : Loc} {st st₁ st₂ st₃ : St} {n : Nat} {K : PySem.W.Frag} {C dx l f g : Addr} {od : Obj}

theorem setSlice_all {A : Around} {s : Shared} {l sl w : Addr} {vs ws : List Value} {Q : Unit → Shared → Prop} (hl : Lst s.heap l vs) (hw : Lst s.heap w ws) (hne : l ≠ w) (hs : s.heap.IsSliceOf sl .none .none .none) (hz : vs.length + ws.length ≤ sizeLine)
    (h : ∀ h', Lst h' l ws → Heap.SameBut l s.heap h' → Q () { s with heap := h' }) : wpAny V.M A (setItem (.ref l) (.ref sl) (.ref w)) Q NoE s := by
  obtain ⟨n, ho⟩ := hl
  obtain ⟨k, hwo⟩ := hw
  obtain ⟨os, hos, hcs, hds⟩ := id hs
  have hT := (show s.heap.IsList l vs.toArray from ⟨_, ho, rfl, n, rfl⟩).typeIs
  have hTs : s.TypeIs (.ref sl) "slice" := ⟨os, hos, hcs⟩
  have hTw := (show s.heap.IsList w ws.toArray from ⟨_, hwo, rfl, k, rfl⟩).typeIs
  unfold setItem
  try with_reducible refine wpAny_holding ?_
  first | refine wpAny_bind (wpAny_pure ?_) | skip
  refine wpAny_bind (wpAny_sequenceKey hT (by decide) ?_)
  refine wpAny_bind (wpAny_callSpecial?_slot (name := Str.ofString "__setitem__") hT slot_list_setitem
    (wpAny_call_entry slot_list_setitem hT entry_list_setitem ?_ (args_list_setitem _ _ _)))
  show wpAny _ _ (Builtin.List.listSubscript? (.ref sl) >>= _) _ _ s
  refine wpAny_bind ?_
  unfold Builtin.List.listSubscript?
  refine wpAny_bind (wpAny_specialOf hTs slice_no_index ?_)
  simp only [Option.isNone_none, if_true]
  refine wpAny_pure ?_
  show wpAny _ _ (typeOf (.ref sl) >>= _) _ _ s
  refine wpAny_bind (wpAny_typeOf hTs ?_)
  rw [if_neg (by decide)]
  rw [listSliceParts_eq]
  refine wpAny_bind (wpAny_bind (wpAny_field hos hds (x := .none) rfl (wpAny_bind (wpAny_listPart .none ?_))))
  rw [if_neg (by decide)]
  refine wpAny_bind (wpAny_field hos hds (x := .none) rfl (wpAny_bind (wpAny_listPart .none ?_)))
  refine wpAny_bind (wpAny_field hos hds (x := .none) rfl (wpAny_bind (wpAny_listPart .none (wpAny_pure ?_))))
  have hsr : Builtin.List.listSameRef (.ref l) (.ref w) = false := by show (l == w) = false; simpa using hne
  rw [hsr]
  refine wpAny_bind (m := Builtin.List.listAllItems (.ref w) _) ?_
  unfold Builtin.List.listAllItems
  refine wpAny_bind (wpAny_typeOf hTw ?_)
  rw [if_pos (by decide)]
  unfold Builtin.List.listItems
  refine wpAny_bind (wpAny_seqItems hwo rfl (wpAny_pure ?_))
  refine wpAny_bind (wpAny_bind (wpAny_seqItems ho rfl (wpAny_pure ?_)))
  refine wpAny_bind (wpAny_of_eq (sliceIndices_raw none none none vs.toArray.size (by simp)) ?_)
  show wpAny _ _ (if ((1 : Int) == 1) = true then _ else _) _ _ _
  rw [if_pos (by decide)]
  refine wpAny_bind (wpAny_rule ?_)
  have e0 : Builtin.List.listTooLong (vs.toArray.size + ws.toArray.size) = false := by unfold Builtin.List.listTooLong; simp; exact hz
  rw [e0, if_neg (by decide)]
  have e1 : sliceBounds none none none vs.toArray.size = ((0 : Int), (vs.toArray.size : Int), 1) := by simp [sliceBounds]
  rw [e1]
  have hl' := IsL.update (h := s.heap) (l := l) (items := vs.toArray) (n := n) ho fun xs => xs.extract 0 (Int.toNat 0) ++ ws.toArray ++ xs.extract (Int.toNat (max 0 (vs.toArray.size : Int)))
  have e2 : (vs.toArray.extract 0 (Int.toNat 0) ++ ws.toArray ++ vs.toArray.extract (Int.toNat (max 0 (vs.toArray.size : Int)))) = ws.toArray := by
    apply Array.ext'
    simp
  rw [e2] at hl'
  refine wpAny_bind (wpAny_updateSeq ho rfl ?_ (by simp; omega) (by rw [e2]; simp; omega))
  refine wpAny_bind (wpAny_letGo ?_)
  exact wpAny_pure ⟨.none, rfl, wpAny_pure (h _ ⟨_, hl'⟩ (Heap.SameBut.update ..))⟩


theorem ExOK.setAll {o value : Expr} {p pos' pos} {xs : List Stmt} {i : Nat} {ys zs : List SV} {out : Out} (hv : EvOK V G value loc st (.lst zs) st₁) (ho : EvOK V G o loc st₁ (.obj i) st₁) (hi : st₁[i]? = some ys) (hz : ys.length + zs.length ≤ sizeLine)
    (hs : ∀ env, swapsWith value (some (.Subscript o (.Slice none none none p) pos')) pos.line env = pure false) (hr : ExOK V G xs loc (st₁.set i zs) out loc₁ st₂) : ExOK V G (.Assign [.Subscript o (.Slice none none none p) pos'] value pos :: xs) loc st out loc₁ st₂ :=
  .cons (loc₁ := loc) (.mk fun A env α s rm S R => by
    refine wpAny_Assign_Subscript (hs := hs env) (wpAny_mono (hv.out A env α s rm S R) (fun t s₁ hq_ => ?_) fun _ _ e => e)
    obtain ⟨α₁, X₁, S₁, R₁⟩ := hq_
    refine wpAny_mono (ho.out A env α₁ s₁ rm S₁ (R.step X₁ S.low.2)) (fun u s₂ hq_ => ?_) fun _ _ e => e
    obtain ⟨α₂, X₂, S₂, R₂⟩ := hq_
    refine wpAny_Slice ?_
    rw [evalPart_none]
    refine wpAny_pure (wpAny_pure (wpAny_pure ?_))
    have z := S₂.grow (h' := s₂.heap.push { cls := .type "slice", data := .fields #[.none, .none, .none] }) s₂.toks (fun b o' e => Heap.get?_push_of_some _ e) (by rw [Heap.size_push]; omega)
    obtain ⟨l, vs, rfl, ha, hl, hr, hil⟩ := z.1.objAt (R₂.go z.2) hi
    obtain ⟨w, ws, rfl, hw, hwa, hwp, hwr⟩ := ((R₁.go X₂).go z.2).inv
    · have hne : l ≠ w := fun e => hwa (e ▸ List.mem_of_getElem? ha)
      refine setSlice_all hl hw hne (Heap.IsSliceOf.new ..) (by rw [hr.length, hwr.length]; exact hz) fun h' hl' hs' => ?_
      have q := z.1.set (h' := h') (xs := zs) hil ha hs' hl' hwr s₂.toks
      have X := X₁.trans (X₂.trans (z.2.trans q.2))
      exact ⟨α₂, X.up, q.1, R.step X S.low.2, .next⟩) hr
theorem calms_ss (m : Nat) : ∀ hs : List (Str × Str), calms m (hs.map ss) = true
  | [] => rfl
  | p :: hs => by
    rw [List.map_cons, calms, calms_ss m hs]; rfl

theorem set_small {hs : List (Str × Str)} {k : Nat} (i : Nat) (xs : List SV) (h : ∀ (j : Nat) (ys : List SV), st[j]? = some ys → Fzs st.length [] ys ys) (e : (st.set k (hs.map ss))[i]? = some xs) : Fzs st.length [] xs xs := by
  rw [List.getElem?_set] at e
  split at e
  · split at e
    · cases e; exact calms.fz (calms_ss _ _)
    · cases e
  · exact h i xs e
noncomputable abbrev dSt : Stmt := ((pBody clsBody 4)[1]?).getD default
noncomputable abbrev dKs : List (Str × NameKind) := compKs (pScope clsBody 4).names (cScope dSt).names
theorem del_comp {cd : Value} {x : Str} {C : St → Prop} (gb : Gb V) (hC : ∀ ys, C (st ++ [ys])) : ∀ (hs acc : List (Str × Str)), (∀ p ∈ hs, p.1.length ≤ 1000) → acc.length + hs.length ≤ 10000 →
    CpOK V ⟨n, dKs, cd⟩ C "kv" (cIfs dSt) (cElt dSt) (hs.map ss) (acc.map ss) [("name", .str (Txt.lower x))] st ((acc ++ delL x hs).map ss)
  | [], acc, _, _ => by
    show CpOK _ _ _ _ _ _ _ _ _ _ ((acc ++ []).map ss)
    rw [List.append_nil]
    exact .nil (hC _)
  | p :: hs, acc, hp, hl => by
    have hZ : sizeLine = 16777216 := rfl
    rw [List.length_cons] at hl
    have fl : Builtin.Str.tooLong (Txt.lower p.1).length = false := fit_lower (by have := hp p List.mem_cons_self; omega)
    have test : IfsOK V ⟨n, dKs, cd⟩ (cIfs dSt) (setL "kv" (ss p) [("name", .str (Txt.lower x))]) (st ++ [acc.map ss]) (Txt.lower p.1 != Txt.lower x) := by
      show IfsOK _ _ [Expr.Compare _ _ _ _] _ _ _
      apply IfsOK.one
      apply TsOK.cmp
      · apply EvOK.meth
        · apply EvOK.sub
          · tm_at "go"
          · tm_at "go"
          · exact Sub.tup (v := .str p.1) (j := 0) (by decide) (by decide) rfl rfl
          · rfl
        · exact GmOK.s_lower
        · apply CwOK.bi1
          · rfl
          · tm_at "go"
          · exact CallOK.lower fl
        · exact fun _ => rfl
        · rfl
        · rfl
        · rfl
        · rfl
      · tm_at "go"
      · exact Cmp.neStr
      · rfl
    rw [List.map_cons]
    cases hb : Txt.lower p.1 != Txt.lower x with
    | true =>
      rw [hb] at test
      have e1 : delL x (p :: hs) = p :: delL x hs := List.filter_cons_of_pos (by simpa using hb)
      have e2 : acc.map ss ++ [ss p] = (acc ++ [p]).map ss := by simp
      rw [e1, show acc ++ p :: delL x hs = (acc ++ [p]) ++ delL x hs by simp]
      refine CpOK.step (by kernel_rfl) (hC _) test (acc' := (acc ++ [p]).map ss) ?_ (CpOK.sub ?_ (del_comp gb hC hs (acc ++ [p]) (fun q hq => hp q (List.mem_cons_of_mem _ hq)) (by simp; omega)))
      · rw [if_pos rfl]
        refine ⟨ss p, ?_, e2.symm, by simp; omega⟩
        show EvOK _ _ (Expr.Name _ _) _ _ _ _
        tm_at "go"
      · tm_at "ls"
    | false =>
      rw [hb] at test
      have e1 : delL x (p :: hs) = delL x hs := List.filter_cons_of_neg (by simpa using hb)
      rw [e1]
      refine CpOK.step (by kernel_rfl) (hC _) test (acc' := acc.map ss) ?_ (CpOK.sub ?_ (del_comp gb hC hs acc (fun q hq => hp q (List.mem_cons_of_mem _ hq)) (by omega)))
      · rw [if_neg Bool.false_ne_true]
      · tm_at "ls"
noncomputable abbrev M_del (V : Cx) (K : PySem.W.Frag) (C f : Addr) := IsM V K C "__delitem__" f (pBody clsBody 4) (pScope clsBody 4) (BindN V ["self", "name"])
theorem getApp {i : Nat} {xs ys : List SV} (h : st[i]? = some xs) : (st ++ [ys])[i]? = some xs := by
  rw [List.getElem?_append_left (List.getElem?_eq_some_iff.mp h).1]; exact h
theorem del_ok {x : Str} {hs : List (Str × Str)} (bk : Bk V K C dx od l) (cv : Cv V) (hm : M_conv V K C f) (hg : M_del V K C g) (hx : NmOk x) (hh : HsOk hs) (hB : st[V.bi]? = some (hs.map ss)) :
    CallOK V (n + 2) (.val (.ref g)) [.book, .str x] [] st .none (st.set V.bi ((delL x hs).map ss)) := by
  have gb := cv.gb
  have hZ : sizeLine = 16777216 := rfl
  refine CallOK.meth (st' := st.set V.bi ((delL x hs).map ss)) (loc := [("self", .book), ("name", .str x)]) gb.pg hg (fun fd h => h.ok rfl) (by kernel_rfl) (show [("self" : Str), "name"].Nodup by decide +kernel) (by decide +kernel) (ext := []) (out := .next) (fun cd => ?_) rfl (by simp) set_small .none
  simp only [List.append_nil]
  show ExOK _ _ (_ :: _) _ _ _ _ _
  have fl : Builtin.Str.tooLong (Txt.lower x).length = false := fit_lower (by have := hx.len; omega)
  have fz : (Txt.lower x).length < 1000000 := by have := len_lower x; have := hx.len; omega
  have hc := del_comp (C := fun st => st[V.bi]? = some (hs.map ss)) (st := st) (n := n + 1) (cd := cd) (x := x) gb (fun ys => getApp hB) hs [] hh.each (by have := hh.len; simp; omega)
  rw [List.nil_append] at hc
  have hdl : (delL x hs).length ≤ hs.length := List.length_filter_le _ _
  apply ExOK.asgC
  · kernel_rfl!
  · refine EvOK.conv (st₁ := st) bk cv hm (Nat.le_add_left 1 n) ?_ ?_ hx.low fz (fun _ => rfl) rfl rfl
    · tm_at "go"
    · tm_at "go"
      exact fl
  · exact fun _ => rfl
  · refine ExOK.setAll (ys := hs.map ss) (st₁ := st) (zs := (delL x hs).map ss) ?_ ?_ hB (by have := hh.len; simp; omega) (fun _ => rfl) .nilN
    · refine EvOK.comp (a := .obj V.bi) (st₁ := st) (C := fun st => st[V.bi]? = some (hs.map ss)) (xs := hs.map ss) ?_ .obj (fun ys => getApp hB) rfl (by decide +kernel) (by decide +kernel) (by decide +kernel) ?_ (CpOK.sub ?_ hc) (calms_ss _ _) (fun _ _ => rfl)
      · refine EvOK.attrH bk ?_ (fun _ => rfl)
        tm_at "go"
      · intro y hy
        have : (cScope dSt).names.all (fun z => z.2 != .free || (pScope clsBody 4).names.lookup z.1 == some .cell) = true := by decide +kernel
        have := List.all_eq_true.mp this (y, .free) hy
        simpa using this
      · refine LSub.cons (lookup_locC (by kernel_rfl) ?_) .nil
        tm_at "lk"
    · refine EvOK.attrH bk ?_ (fun _ => rfl)
      tm_at "go"
end
end

section
section
variable {V : Cx} {G : Gm} {loc loc₁ loc₂ : Loc} {st st₁ st₂ st₃ : St} {n : Nat} {K : PySem.W.Frag} {C dx l f g gd gs : Addr} {od : Obj}

theorem CallOK.gfS {x : Str} {names : List Str} {body : List Stmt} {scope : Scope} {args : List SV} {out : Out} {ext st' : St} {v r : SV} (p : Pg V) (hd : IsDef V x names body scope) (hl : args.length = names.length)
    (hk : (names.all fun y => scope.names.lookup y == some .local || scope.names.lookup y == some .cell) = true) (hnd : names.Nodup) (hsn : (scope.names.map (·.1)).Nodup)
    (hrun : ∀ cd : Value, ExOK V ⟨n, scope.names, cd⟩ body (names.zip args) st out [] (st' ++ ext)) (hout : r = out.val) (hlen : st.length = st'.length) (hsm : ∀ (i : Nat) (xs : List SV), (∀ (j : Nat) (ys : List SV), st[j]? = some ys → Fzs st.length [] ys ys) → st'[i]? = some xs → Fzs st.length [] xs xs)
    (hfz : Fz st.length (st' ++ ext) r v) : CallOK V (n + 1) (.gl x) args [] st v st' := by
  obtain ⟨a, hm, fd, o, Fa, hc, hb, hs, hbind⟩ := hd
  subst hs
  have hmap : (names.zip args).map (·.1) = names := List.map_fst_zip (Nat.le_of_eq hl.symm)
  refine CallOK.def (loc := names.zip args) p (IsFn.gl hm) Fa hc hb (.mk fun A α s us ks S hr hkw => ?_) (fun y hy => ?_) (by rw [hmap]; exact hnd) hsn (hrun fd.code) hout hlen hsm hfz
  · (first | obtain rfl := hkw.inv | (obtain ⟨_, rfl⟩ := hkw.inv) | (obtain ⟨_, rfl, _⟩ := hkw.inv) | cases hkw)
    refine wpAny_of_eq (hbind us (by rw [hr.length, hl])) ⟨.refl, S, zip_breps hr⟩
  · rw [hmap] at hy
    have := List.all_eq_true.mp hk y hy
    rw [Bool.or_eq_true, beq_iff_eq, beq_iff_eq] at this
    exact this

theorem ExOK.push {o a b : Expr} {ap ap2 tp cp pos : Pos} {tk : Nat} {x y : Str} {hs : List (Str × Str)} {xs : List Stmt} {out : Out} (bk : Bk V K C dx od l) (ho : EvOK V G o loc st .book st) (ha : EvOK V G a loc st (.str x) st) (hb : EvOK V G b loc st (.str y) st)
    (hB : st[V.bi]? = some (hs.map ss)) (hz : hs.length ≤ 10000) (hna : notStar a = true) (hnb : notStar b = true) 
    (he : ∀ env, eval (.Attribute o "_headers" ap) env = (do
      let o' ← eval o env
      standAt ap.atName
      let r ← holding [o'] (getAttr o' "_headers" true)
      letTemporaryGo o o' r
      pure r))
    (hbase : ∀ env, attributeBase (.Attribute o "_headers" ap) "append" env (eval (.Attribute o "_headers" ap) env) = eval (.Attribute o "_headers" ap) env) (hline : (ap2.endLine == cp.line) = true)
    (hs' : ∀ env, swapsWith (.Call (.Attribute (.Attribute o "_headers" ap) "append" ap2) [.Tuple [a, b] tk tp] [] cp) none pos.line env = pure false)
    (hx : ExOK V G xs loc (st.set V.bi ((hs ++ [(x, y)]).map ss)) out loc₁ st₂) : ExOK V G (.Expr (.Call (.Attribute (.Attribute o "_headers" ap) "append" ap2) [.Tuple [a, b] tk tp] [] cp) pos :: xs) loc st out loc₁ st₂ := by
  have hZ : sizeLine = 16777216 := rfl
  refine ExOK.expr' (v := .none) (st₁ := st.set V.bi ((hs ++ [(x, y)]).map ss)) ?_ .none hs' hx
  refine EvOK.meth (EvOK.attrH bk ho he) (GmOK.o_append hB) (CwOK.bi1 rfl (.cons rfl (EvOK.tup (.cons hna ha (.cons hnb hb .nil)) (by show 2 ≤ _; omega)) .nil) ?_) hbase rfl rfl rfl hline
  have q := CallOK.append (V := V) (n := G.n) (st := st) (i := V.bi) (v := ss (x, y)) hB (by simp; omega)
  rw [List.map_append]
  exact q
noncomputable abbrev M_items (V : Cx) (K : PySem.W.Frag) (C f : Addr) := IsM V K C "items" f (pBody clsBody 11) (pScope clsBody 11) (BindN V ["self"])
theorem items_ok {hs : List (Str × Str)} (bk : Bk V K C dx od l) (cv : Cv V) (hm : M_items V K C f) (hh : HsOk hs) (hB : st[V.bi]? = some (hs.map ss)) : CallOK V (n + 1) (.val (.ref f)) [.book] [] st (.lst (hs.map ss)) st := by
  have gb := cv.gb
  have hZ : sizeLine = 16777216 := rfl
  refine CallOK.meth (loc := [("self", .book)]) gb.pg hm (fun fd h => h.ok rfl) (by kernel_rfl) (show [("self" : Str)].Nodup by decide +kernel) (by decide +kernel) (ext := []) (out := .ret (.lst (hs.map ss))) (fun cd => ?_) rfl rfl (fun i xs h e => h i xs e) (calm.fz (calms_ss _ _))
  simp only [List.append_nil]
  show ExOK _ _ (_ :: _) _ _ _ _ _
  apply ExOK.retN
  refine EvOK.slice (st₁ := st) (st₂ := st) (st₃ := st) (lo := none) (hi := none) (o := .obj V.bi) ?_ ?_ ?_ ?_
  · refine EvOK.attrH (st₁ := st) bk ?_ (fun _ => rfl)
    tm_at "go"
  · exact PtOK.none'
  · exact PtOK.none'
  · exact SubS.all (show asL st (.obj V.bi) = some (hs.map ss) from hB) (by have := hh.len; simp; omega)
noncomputable abbrev M_setdefault (V : Cx) (K : PySem.W.Frag) (C f : Addr) := IsM V K C "setdefault" f (pBody clsBody 15) (pScope clsBody 15) (BindN V ["self", "name", "value"])

noncomputable def sdfL (x y : Str) (hs : List (Str × Str)) : List (Str × Str) := match getL x hs with
  | none => hs ++ [(x, y)]
  | some _ => hs
theorem set_same {i : Nat} {xs : List SV} (h : st[i]? = some xs) : st.set i xs = st := by
  obtain ⟨hi, e⟩ := List.getElem?_eq_some_iff.mp h
  subst e
  exact List.set_getElem_self hi
theorem setdefault_ok {x y : Str} {hs : List (Str × Str)} {fs : Addr} (bk : Bk V K C dx od l) (cv : Cv V) (hm : M_conv V K C f) (hg : M_get V K C g) (hs' : M_setdefault V K C fs) (hx : NmOk x) (hy : Clean y) (hyl : y.length ≤ 1000) (hh : HsOk hs) (hB : st[V.bi]? = some (hs.map ss)) :
    CallOK V (n + 3) (.val (.ref fs)) [.book, .str x, .str y] [] st (.str ((getL x hs).getD y)) (st.set V.bi ((sdfL x y hs).map ss)) := by
  have gb := cv.gb
  have hZ : sizeLine = 16777216 := rfl
  have hxl := hx.len
  refine CallOK.meth (st' := st.set V.bi ((sdfL x y hs).map ss)) (loc := [("self", .book), ("name", .str x), ("value", .str y)]) gb.pg hs' (fun fd h => h.ok rfl) (by kernel_rfl) (show [("self" : Str), "name", "value"].Nodup by decide +kernel) (by decide +kernel) (ext := []) (out := .ret (.str ((getL x hs).getD y))) (fun cd => ?_) rfl (by simp) set_small (.str _)
  simp only [List.append_nil]
  show ExOK _ _ (_ :: _) _ _ _ _ _
  have hgc : CallOK V (n + 2) (.val (.ref g)) [.book, .str x] [] st (optSV (getL x hs)) st := get_ok bk cv hm hg hx hh hB
  apply ExOK.asgL
  · kernel_rfl!
  · refine EvOK.meth (st₁ := st) ?_ (GmOK.bookM bk hg) (CwOK.meth (kw := []) hg rfl rfl (vs := [.str x]) (st₁ := st) (st₂ := st) ?_ .nil hgc) (fun _ => rfl) rfl rfl rfl rfl
    · tm_at "go"
    · tm_at "go"
  · exact fun _ => rfl
  · cases hr : getL x hs with
    | none =>
      have e : sdfL x y hs = hs ++ [(x, y)] := by unfold sdfL; rw [hr]
      rw [e]
      show ExOK _ _ (_ :: _) _ _ (Out.ret (SV.str y)) _ _
      apply ExOK.if_tE
      · apply TsOK.cmp
        · tm_at "go"
        · tm_at "go"
        · exact Cmp.isNone
        · rfl
      · rfl
      · show ExOK _ _ (_ :: _) _ _ _ _ _
        refine ExOK.push (x := x) (y := y) bk ?_ ?_ ?_ hB (by have := hh.len; omega) rfl rfl (fun _ => rfl) (fun _ => rfl) rfl (fun _ => rfl) ?_
        · tm_at "go"
        · refine EvOK.conv (st₁ := st) bk cv hm (Nat.le_add_left 1 _) ?_ ?_ hx.cl (by omega) (fun _ => rfl) rfl rfl
          · tm_at "go"
          · tm_at "go"
        · refine EvOK.conv (st₁ := st) bk cv hm (Nat.le_add_left 1 _) ?_ ?_ hy (by omega) (fun _ => rfl) rfl rfl
          · tm_at "go"
          · tm_at "go"
        · tm_at "go"
      · exact fun h => nomatch h
    | some v =>
      have e : st.set V.bi ((sdfL x y hs).map ss) = st := by
        unfold sdfL; rw [hr]
        exact set_same hB
      rw [e]
      show ExOK _ _ (_ :: _) _ _ (Out.ret (SV.str v)) _ _
      apply ExOK.if_fE
      · apply TsOK.cmp
        · tm_at "go"
        · tm_at "go"
        · exact Cmp.isNone' (.str _)
        · rfl
      · rfl
      · tm_at "go"
      · exact fun h => nomatch h

theorem setItem_book {A : Around} {s : Shared} {α : List Addr} {i v : Value} {body scope B} {Q : Unit → Shared → Prop} (bk : Bk V K C dx od l) (hm : IsM V K C "__setitem__" f body scope B) (S : Sto V α st s) (h : wpAny V.M A (call (.ref f) [.ref V.bk, i, v]) (fun _ s' => Q () s') NoE s) :
    wpAny V.M A (setItem (.ref V.bk) i v) Q NoE s := by
  have X := bk.hd.In S
  have I := bk.inst S
  unfold setItem sequenceKey
  refine wpAny_holding (wpAny_bind (wpAny_bind (I.type.here ?_)))
  refine wpAny_bind ((PySem.W.anyM_none X bk.hd.nq).here ?_)
  rw [if_pos (show (!false) = true from rfl)]
  exact wpAny_pure (wpAny_bind (PySem.W.special_fn X I hm.fn hm.ty (wpAny_mono h (fun _ _ z => wpAny_pure z) fun _ _ z => z)))
theorem delItem_book {A : Around} {s : Shared} {α : List Addr} {i : Value} {body scope B} {Q : Unit → Shared → Prop} (bk : Bk V K C dx od l) (hm : IsM V K C "__delitem__" f body scope B) (S : Sto V α st s) (h : wpAny V.M A (call (.ref f) [.ref V.bk, i]) (fun _ s' => Q () s') NoE s) :
    wpAny V.M A (delItem (.ref V.bk) i) Q NoE s := by
  have X := bk.hd.In S
  have I := bk.inst S
  unfold delItem sequenceKey
  refine wpAny_holding (wpAny_bind (wpAny_bind (I.type.here ?_)))
  refine wpAny_bind ((PySem.W.anyM_none X bk.hd.nq).here ?_)
  rw [if_pos (show (!false) = true from rfl)]
  exact wpAny_pure (wpAny_bind (PySem.W.special_fn X I hm.fn hm.ty (wpAny_mono h (fun _ _ z => wpAny_pure z) fun _ _ z => z)))
theorem ExOK.delBook {o i : Expr} {p pos} {xs : List Stmt} {iv r : SV} {body scope B} {out : Out} (bk : Bk V K C dx od l) (hm : IsM V K C "__delitem__" g body scope B) (ho : EvOK V G o loc st .book st) (hi : EvOK V G i loc st iv st) (hc : CallOK V G.n (.val (.ref g)) [.book, iv] [] st r st₁)
    (hx : ExOK V G xs loc st₁ out loc₁ st₂) : ExOK V G (.Delete [.Subscript o i p] pos :: xs) loc st out loc₁ st₂ :=
  .cons (loc₁ := loc) (.mk fun A env α s rm S R => by
    refine wpAny_Delete (wpAny_deleteEach_cons ?_)
    rw [arm_delete_Subscript]
    refine wpAny_bind (wpAny_mono (ho.out A env α s rm S R) (fun u s₁ hq_ => ?_) fun _ _ e => e)
    obtain ⟨α₁, X₁, S₁, R₁⟩ := hq_
    refine wpAny_bind (wpAny_holding (wpAny_mono (hi.out A env α₁ s₁ rm S₁ (R.step X₁ S.low.2)) (fun w s₂ hq_ => ?_) fun _ _ e => e))
    obtain ⟨α₂, X₂, S₂, R₂⟩ := hq_
    refine wpAny_bind (wpAny_standAt (wpAny_bind (wpAny_holding ?_)))
    obtain rfl := R₁.inv
    · refine delItem_book bk hm S₂ (wpAny_mono (hc.out A α₂ s₂ _ _ _ rm S₂ (.val _) (.cons _ _ _ _ .book (.cons _ _ _ _ R₂ .nil)) .nil) (fun _ s₃ hq_ => ?_) fun _ _ e => e)
      obtain ⟨α₃, X₃, S₃, _⟩ := hq_
      have X := X₁.trans (X₂.trans X₃)
      exact wpAny_release (wpAny_deleteEach_nil ⟨α₃, X.up, S₃, R.step X S.low.2, .next⟩)) hx
theorem ExOK.setBook {o i value : Expr} {p pos} {xs : List Stmt} {iv v r : SV} {body scope B} {out : Out} (bk : Bk V K C dx od l) (hm : IsM V K C "__setitem__" g body scope B) (hv : EvOK V G value loc st v st) (ho : EvOK V G o loc st .book st) (hi : EvOK V G i loc st iv st)
    (hs : ∀ env, swapsWith value (some (.Subscript o i p)) pos.line env = pure false) (hc : CallOK V G.n (.val (.ref g)) [.book, iv, v] [] st r st₁)
    (hx : ExOK V G xs loc st₁ out loc₁ st₂) : ExOK V G (.Assign [.Subscript o i p] value pos :: xs) loc st out loc₁ st₂ :=
  .cons (loc₁ := loc) (.mk fun A env α s rm S R => by
    refine wpAny_Assign_Subscript (hs := hs env) (wpAny_mono (hv.out A env α s rm S R) (fun t s₁ hq_ => ?_) fun _ _ e => e)
    obtain ⟨α₁, X₁, S₁, R₁⟩ := hq_
    refine wpAny_mono (ho.out A env α₁ s₁ rm S₁ (R.step X₁ S.low.2)) (fun u s₂ hq_ => ?_) fun _ _ e => e
    obtain ⟨α₂, X₂, S₂, R₂⟩ := hq_
    refine wpAny_mono (hi.out A env α₂ s₂ rm S₂ (R.step (X₁.trans X₂) S.low.2)) (fun w s₃ hq_ => ?_) fun _ _ e => e
    obtain ⟨α₃, X₃, S₃, R₃⟩ := hq_
    obtain rfl := R₂.inv
    · refine setItem_book bk hm S₃ (wpAny_mono (hc.out A α₃ s₃ _ _ _ rm S₃ (.val _) (.cons _ _ _ _ .book (.cons _ _ _ _ R₃ (.cons _ _ _ _ (R₁.go (X₂.trans X₃)) .nil))) .nil) (fun _ s₄ hq_ => ?_) fun _ _ e => e)
      obtain ⟨α₄, X₄, S₄, _⟩ := hq_
      have X := X₁.trans (X₂.trans (X₃.trans X₄))
      exact ⟨α₄, X.up, S₄, R.step X S.low.2, .next⟩) hx
noncomputable abbrev M_set (V : Cx) (K : PySem.W.Frag) (C f : Addr) := IsM V K C "__setitem__" f (pBody clsBody 3) (pScope clsBody 3) (BindN V ["self", "name", "val"])
theorem HsOk.del {hs : List (Str × Str)} (h : HsOk hs) (x : Str) : HsOk (delL x hs) := ⟨Nat.le_trans (List.length_filter_le _ _) h.len, fun p hp => h.each p ((List.mem_filter.mp hp).1)⟩
theorem setitem_ok {x y : Str} {hs : List (Str × Str)} (bk : Bk V K C dx od l) (cv : Cv V) (hm : M_conv V K C f) (hd : M_del V K C gd) (hg : M_set V K C gs) (hx : NmOk x) (hy : Clean y) (hyl : y.length ≤ 1000) (hh : HsOk hs) (hB : st[V.bi]? = some (hs.map ss)) :
    CallOK V (n + 3) (.val (.ref gs)) [.book, .str x, .str y] [] st .none (st.set V.bi ((delL x hs ++ [(x, y)]).map ss)) := by
  have gb := cv.gb
  have hxl := hx.len
  refine CallOK.meth (st' := st.set V.bi ((delL x hs ++ [(x, y)]).map ss)) (loc := [("self", .book), ("name", .str x), ("val", .str y)]) gb.pg hg (fun fd h => h.ok rfl) (by kernel_rfl) (show [("self" : Str), "name", "val"].Nodup by decide +kernel) (by decide +kernel) (ext := []) (out := .next) (fun cd => ?_) rfl (by simp) set_small .none
  simp only [List.append_nil]
  show ExOK _ _ (_ :: _) _ _ _ _ _
  have hdc : CallOK V (n + 2) (.val (.ref gd)) [.book, .str x] [] st .none (st.set V.bi ((delL x hs).map ss)) := del_ok bk cv hm hd hx hh hB
  have hi : V.bi < st.length := (List.getElem?_eq_some_iff.mp hB).1
  refine ExOK.delBook (iv := .str x) bk hd ?_ ?_ hdc ?_
  · tm_at "go"
  · tm_at "go"
  · show ExOK _ _ (_ :: _) _ _ _ _ _
    have e : st.set V.bi ((delL x hs ++ [(x, y)]).map ss) = (st.set V.bi ((delL x hs).map ss)).set V.bi ((delL x hs ++ [(x, y)]).map ss) := by rw [List.set_set]
    rw [e]
    refine ExOK.push (x := x) (y := y) bk ?_ ?_ ?_ (by rw [List.getElem?_set_self hi]) (by have := (hh.del x).len; omega) rfl rfl (fun _ => rfl) (fun _ => rfl) rfl (fun _ => rfl) .nilN
    · tm_at "go"
    · refine EvOK.conv (st₁ := st.set V.bi ((delL x hs).map ss)) bk cv hm (Nat.le_add_left 1 _) ?_ ?_ hx.cl (by omega) (fun _ => rfl) rfl rfl
      · tm_at "go"
      · tm_at "go"
    · refine EvOK.conv (st₁ := st.set V.bi ((delL x hs).map ss)) bk cv hm (Nat.le_add_left 1 _) ?_ ?_ hy (by omega) (fun _ => rfl) rfl rfl
      · tm_at "go"
      · tm_at "go"
noncomputable abbrev D_store (V : Cx) := IsDef V "_law_store" ["book", "text", "value"] (pBody top 37) (pScope top 37)
theorem store_ok {x y : Str} {hs : List (Str × Str)} (bk : Bk V K C dx od l) (cv : Cv V) (hm : M_conv V K C f) (hd : M_del V K C gd) (hg : M_set V K C gs) (d : D_store V) (hx : NmOk x) (hy : Clean y) (hyl : y.length ≤ 1000) (hh : HsOk hs) (hB : st[V.bi]? = some (hs.map ss)) :
    CallOK V (n + 4) (.gl "_law_store") [.book, .str x, .str y] [] st .none (st.set V.bi ((delL x hs ++ [(x, y)]).map ss)) := by
  have gb := cv.gb
  have hsc : ∀ cd : Value, ExOK V ⟨n + 3, (pScope top 37).names, cd⟩ (pBody top 37) [("book", .book), ("text", .str x), ("value", .str y)] st .next [] ((st.set V.bi ((delL x hs ++ [(x, y)]).map ss)) ++ []) := by
    intro cd
    simp only [List.append_nil]
    show ExOK _ _ (_ :: _) _ _ _ _ _
    refine ExOK.setBook (iv := .str x) (v := .str y) bk hg ?_ ?_ ?_ (fun _ => rfl) (setitem_ok bk cv hm hd hg hx hy hyl hh hB) .nilN
    · tm_at "go"
    · tm_at "go"
    · tm_at "go"
  exact CallOK.gfS gb.pg d rfl (by kernel_rfl) (by decide +kernel) (by decide +kernel) hsc rfl (by simp) set_small .none
end
end

section
noncomputable def Cx.re (V : Cx) (F : List (Addr × Obj)) (b : Addr) (i : Nat) (L : Option Addr) : Cx := { V with fixed := F, bk := b, bi := i, hl := L }
mutual
noncomputable def nb : SV → Bool
  | .book => false
  | .lst xs => nbs xs
  | .tup xs => nbs xs
  | _ => true
noncomputable def nbs : List SV → Bool
  | [] => true
  | x :: xs => nb x && nbs xs
end
section
variable {V : Cx} {F : List (Addr × Obj)} {b : Addr} {i : Nat} {L : Option Addr} {h : Heap} {α : List Addr}
theorem Rep.re {v : Value} {x : SV} (r : Rep V h α v x) : (b = V.bk ∨ nb x = true) → Rep (V.re F b i L) h α v x :=
  Rep.rec (V := V) (h := h) (α := α) (motive_1 := fun v x _ => (b = V.bk ∨ nb x = true) → Rep (V.re F b i L) h α v x) (motive_2 := fun vs xs _ => (b = V.bk ∨ nbs xs = true) → Reps (V.re F b i L) h α vs xs)
    (fun _ => .none) (fun b _ => .bool b) (fun i t _ => .int i t) (fun s t _ => .str s t) (fun v _ => .val v) (fun x v h _ => .gl x v h) (fun i a h _ => .obj i a h) (fun i a b o h e hc hd hb hp _ => .app i a b o h e hc hd hb hp)
    (fun e => by rcases e with e | e; (subst e; exact .book); cases e)
    (fun a vs xs hl ha hp _ ih e => .lst a vs xs hl ha hp (ih (e.imp id (by simp [nb])))) (fun a vs xs o n ho hc hd ha hp _ ih e => .tup a vs xs o n ho hc hd ha hp (ih (e.imp id (by simp [nb])))) (fun v _ => .any v)
    (fun _ => .nil) (fun v x vs xs _ _ i1 i2 e => .cons v x vs xs (i1 (e.imp id (by simp [nbs]; intro h _; exact h))) (i2 (e.imp id (by simp [nbs])))) r
theorem Reps.re {vs : List Value} {xs : List SV} (r : Reps V h α vs xs) (e : b = V.bk ∨ nbs xs = true) : Reps (V.re F b i L) h α vs xs := by
  induction xs generalizing vs with
  | nil => obtain rfl : vs = [] := r.inv; exact .nil
  | cons x xs ih => obtain ⟨v, us, rfl, hv, rs⟩ := r.inv; exact .cons v x us xs (hv.re (e.imp id (by simp [nbs]; intro h _; exact h))) (ih rs (e.imp id (by simp [nbs])))
theorem Cx.re_back : (V.re F b i L).re V.fixed V.bk V.bi V.hl = V := rfl
theorem BReps.re {bs : List (Str × Value)} {loc : Loc} (r : BReps V h α bs loc) : BReps (V.re F V.bk i L) h α bs loc := by
  induction loc generalizing bs with
  | nil => obtain rfl := r.inv; exact .nil
  | cons p loc ih => obtain ⟨n, v⟩ := p; obtain ⟨u, us, rfl, hv, rs⟩ := r.icons; exact .cons n u v us loc (hv.re (.inl rfl)) (ih rs)
variable {mods β : List Addr} {s t : Shared} {st : St}
theorem Step.re (X : Step V mods α s β t) : Step (V.re F b i L) mods α s β t := ⟨X.kept, X.size, X.ext⟩
theorem Step.back (X : Step (V.re F b i L) mods α s β t) : Step V mods α s β t := ⟨X.kept, X.size, X.ext⟩
theorem Sto.re (S : Sto V α st s) (hF : ∀ p ∈ F, s.heap.get? p.1 = some p.2 ∧ p.1 ∉ α ∧ V.h₀.objs.size ≤ p.1) (hb : b = V.bk ∨ ∀ xs ∈ st, nbs xs = true) (hL : ∀ a, L = some a → α[i]? = some a) : Sto (V.re F b i L) α st s :=
  ⟨S.old, S.tab, S.low, S.size, S.os, S.gens, S.len, S.nd, S.hi, hF, fun j xs e => by
    obtain ⟨a, vs, h1, h2, h3⟩ := S.cell j xs e
    exact ⟨a, vs, h1, h2, h3.re (hb.imp id fun q => q xs (List.mem_of_getElem? e))⟩, hL⟩

theorem Sto.hold {p : Addr × Obj} (S : Sto V α st s) (h1 : s.heap.get? p.1 = some p.2) (h2 : p.1 ∉ α) (h3 : V.h₀.objs.size ≤ p.1) : Sto (V.re (p :: V.fixed) V.bk V.bi V.hl) α st s :=
  S.re (fun q hq => by
    rcases List.mem_cons.mp hq with rfl | hq
    · exact ⟨h1, h2, h3⟩
    · exact S.fix q hq) (.inl rfl) S.bkl
theorem Sto.unhold (S : Sto (V.re F V.bk V.bi V.hl) α st s) (hs : ∀ p ∈ V.fixed, p ∈ F) : Sto V α st s :=
  ⟨S.old, S.tab, S.low, S.size, S.os, S.gens, S.len, S.nd, S.hi, fun p hp => S.fix p (hs p hp), fun j xs e => by
    obtain ⟨a, vs, h1, h2, h3⟩ := S.cell j xs e
    have := Reps.re (V := V.re F V.bk V.bi V.hl) (F := V.fixed) (b := V.bk) (i := V.bi) (L := V.hl) h3 (.inl rfl)
    exact ⟨a, vs, h1, h2, this⟩, S.bkl⟩
theorem FnAt.re {fd : FuncData} {a : Addr} {o : Obj} (x : FnAt V fd a o) : FnAt (V.re F b i L) fd a o := ⟨x.get, x.data, x.rec', x.ne, x.glob, x.blt, x.clo, x.co, x.gen, x.kind⟩
theorem Pg.re (p : Pg V) : Pg (V.re F b i L) := ⟨p.ns, p.nsb, p.lim, p.apart⟩
theorem Gb.re (g : Gb V) : Gb (V.re F b i L) := ⟨g.pg.re, g.len_, g.isinstance_, g.bytes_, g.str_, g.type_, g.issubclass_, g.list_, g.range_, g.min_, g.reversed_, g.enumerate_⟩
theorem Cv.re (c : Cv V) : Cv (V.re F b i L) := ⟨c.gb.re, c.pn, c.pv⟩
end

theorem enter_codeX {V : Cx} {st : St} {fd : FuncData} {a : Addr} {o : Obj} {n : Nat} {args : List SV} {kw : Loc} {body : List Stmt} {loc : List (Addr × Obj) → Loc} {PF : List (Addr × Obj) → Prop} (p : Pg V) (Fa : FnAt V fd a o) (hcode : ∀ c, fd.code = .ref c → c ≠ V.P) (hbody : fd.body = .stmts body)
    (hb : ∀ (A : Around) (α : List Addr) (s : Shared) (us : List Value) (ks : List (Str × Value)), Sto V α st s → Reps V s.heap α us args → BReps V s.heap α ks kw →
      wpAny V.M A (bindArgs fd ⟨us, ks⟩) (fun bs s' => ∃ F, PF F ∧ Step V [] α s α s' ∧ Sto (V.re F V.bk V.bi V.hl) α st s' ∧ BReps V s'.heap α bs (loc F)) NoE s)
    (hk : ∀ F, ∀ y ∈ (loc F).map (·.1), fd.scope.names.lookup y = some .local ∨ fd.scope.names.lookup y = some .cell) (hnd : ∀ F, ((loc F).map (·.1)).Nodup) (hsn : (fd.scope.names.map (·.1)).Nodup)
    {A : Around} {α : List Addr} {s : Shared} {us : List Value} {ks : List (Str × Value)} {Q : Result → Shared → Prop} (rm : Rm A (n + 1)) (S : Sto V α st s) (hr : Reps V s.heap α us args) (hkw : BReps V s.heap α ks kw)
    (hq : ∀ (F : List (Addr × Obj)) (env : Env) (s₂ : Shared), PF F → Rm (A.deeper env) n → Sto (V.re F V.bk V.bi V.hl) α st s₂ → Var (V.re F V.bk V.bi V.hl) fd.scope.names fd.code env (loc F) α s₂ → (∀ b ∈ own env, s.heap.objs.size ≤ b) → Step V [] α s α s₂ →
      wpAny V.M (A.deeper env) (execs body env) (fun f s' => Q (.ok (.ret (match f with | .ret v => v | _ => .none))) s') NoE s₂) : codeAny V.M A (.call (.ref a) ⟨us, ks⟩) Q s := by
  have ho : s.heap.get? a = some o := S.old _ _ Fa.get Fa.ne
  refine codeAny_call_function (by have := rm.dp; show A.depth < 1000; omega) ho Fa.data Fa.co Fa.gen hbody (S.codeRec Fa.rec' hcode) ?_
  refine wpAny_mono (hb A.in1 α s us ks S hr hkw) (fun bs s₁ hq_ => ?_) fun _ _ e => e.elim
  obtain ⟨F, hPF, X₁, S₁, B₁⟩ := hq_
  rw [Fa.glob, Fa.clo, Fa.blt]
  have hkeys := B₁.keys
  refine wsize (wpAny_newFunctionEnv_cells Fa.kind (fun y hy => ?_) fun env he s₂ x₂ hz => ?_)
  · have : y.1 ∈ (loc F).map (·.1) := by rw [← hkeys]; exact List.mem_map.mpr ⟨y, hy, rfl⟩
    rcases hk F _ this with h | h
    · exact .inl h
    · exact .inr ⟨h, cellsFrom_has _ _ _ (.inl h)⟩
  have e1 : env.scope = fd.scope := by rw [he]; rfl
  have e2 : env.locals = s₁.heap.objs.size := by rw [he]; rfl
  have e3 : env.globals = mainGlobals := by rw [he]; rfl
  have e4 : env.builtins = builtinsNs := by rw [he]; rfl
  have e5 : env.code = fd.code := by rw [he]; rfl
  have e6 : env.cells = cellsFrom (s₁.heap.objs.size + 1) fd.scope.names [] := by rw [he]; rfl
  clear he
  obtain ⟨h₂, tk₂, e⟩ := x₂.toInCall.same
  subst e
  have z := S₁.grow (h' := h₂) tk₂ x₂.toInCall.keep hz
  refine ⟨z.1.limit (p.re), codeAny_func ?_⟩
  have L0 : ∀ b ∈ own env, s₁.heap.objs.size ≤ b := by
    intro b hb'
    rcases List.mem_cons.mp hb' with rfl | hb'
    · exact Nat.le_of_eq e2.symm
    · obtain ⟨q, hq, rfl⟩ := List.mem_map.mp hb'
      exact Nat.le_of_lt (e2 ▸ x₂.above q.1 q.2 hq)
  have hkind : ∀ y, env.kindOf y = fd.scope.names.lookup y := fun y => by show env.scope.names.lookup y = _; rw [e1]
  have B₂ := (B₁.re (F := F) (i := V.bi) (L := V.hl)).go z.2
  have hnd' : (bs.map (·.1)).Nodup := by rw [hkeys]; exact hnd F
  have R : Var (V.re F V.bk V.bi V.hl) fd.scope.names fd.code env (loc F) α { s₁ with heap := h₂, toks := tk₂ } := by
    refine ⟨by rw [e1], by rw [e1]; exact Fa.kind, e3, e4, e5, fun b hb' => ⟨Nat.le_trans S₁.size (L0 b hb'), fun hα => ?_, fun q hq e => ?_⟩, ?_, ⟨_, x₂.toInCall.ns, fun y w h1 h2 => ?_⟩, fun y w h1 h2 => ?_, fun q hq => ?_, fun y hy => ?_⟩
    · obtain ⟨i, hi⟩ := List.getElem?_of_mem hα
      have hil := (List.getElem?_eq_some_iff.mp hi).1
      rw [S₁.len] at hil
      obtain ⟨a', vs', ha', ⟨o', eo⟩, _⟩ := S₁.cell i st[i] (by simp [hil])
      rw [hi] at ha'; cases ha'
      exact Nat.lt_irrefl _ (Nat.lt_of_lt_of_le (Heap.lt_size eo) (L0 b hb'))
    · exact Nat.lt_irrefl _ (Nat.lt_of_lt_of_le (Heap.lt_size (S₁.fix q hq).1) (e ▸ L0 b hb'))
    · refine List.nodup_cons.mpr ⟨fun hm => ?_, ?_⟩
      · obtain ⟨q, hq, e⟩ := List.mem_map.mp hm
        exact Nat.lt_irrefl _ (e ▸ x₂.above q.1 q.2 hq)
      · exact List.pairwise_map.mpr x₂.apart
    · obtain ⟨u, hu, hru⟩ := B₂.look h1
      have hl : env.kindOf y = some .local := (hkind y).trans h2
      exact ⟨u, by rw [bindL_lookup hl _ hnd', hu]; rfl, hru⟩
    · obtain ⟨u, hu, hru⟩ := B₂.look h1
      have hl : env.kindOf y = some .cell := (hkind y).trans h2
      have hc := cellsFrom_has (x := y) fd.scope.names (s₁.heap.objs.size + 1) [] (.inl h2)
      rw [← e6] at hc
      obtain ⟨c, hc⟩ := Option.isSome_iff_exists.mp hc
      refine ⟨c, u, hc, ?_, hru⟩
      have := x₂.cell y c hc
      rw [bindC_lookup (by rw [hl]; decide) _ hnd', hu] at this
      exact this
    · obtain ⟨n', c⟩ := q
      have hnn : (env.cells.map (·.1)).Nodup := by rw [e6]; exact cellsFrom_nodup _ _ _ hsn (fun _ _ h => nomatch h) List.nodup_nil
      exact ⟨_, x₂.cell n' c (mem_lookup_of_nodup hnn hq)⟩
    · have hc := cellsFrom_has (x := y) fd.scope.names (s₁.heap.objs.size + 1) [] (.inl hy)
      rw [← e6] at hc
      exact Option.isSome_iff_exists.mp hc
  have rm' : Rm (A.deeper env) n := ⟨rm.hd, by have := rm.dp; show A.depth + 1 + n ≤ 900; omega, by have := rm.un; show A.units + 3 + 10 * n ≤ 9000; omega⟩
  refine wpAny_mono (hq F env _ hPF rm' z.1 R (fun b hb' => Nat.le_trans X₁.size (L0 b hb')) (X₁.trans z.2.back)) (fun f s₃ h => ?_) fun _ _ e => e.elim
  cases f <;> exact h
theorem enter_defX {V : Cx} {st : St} {fd : FuncData} {a : Addr} {o : Obj} {n : Nat} {args : List SV} {kw : Loc} {body : List Stmt} {loc : List (Addr × Obj) → Loc} {PF : List (Addr × Obj) → Prop} (p : Pg V) (Fa : FnAt V fd a o) (hcode : ∀ c, fd.code = .ref c → c ≠ V.P) (hbody : fd.body = .stmts body)
    (hb : ∀ (A : Around) (α : List Addr) (s : Shared) (us : List Value) (ks : List (Str × Value)), Sto V α st s → Reps V s.heap α us args → BReps V s.heap α ks kw →
      wpAny V.M A (bindArgs fd ⟨us, ks⟩) (fun bs s' => ∃ F, PF F ∧ Step V [] α s α s' ∧ Sto (V.re F V.bk V.bi V.hl) α st s' ∧ BReps V s'.heap α bs (loc F)) NoE s)
    (hk : ∀ F, ∀ y ∈ (loc F).map (·.1), fd.scope.names.lookup y = some .local ∨ fd.scope.names.lookup y = some .cell) (hnd : ∀ F, ((loc F).map (·.1)).Nodup) (hsn : (fd.scope.names.map (·.1)).Nodup)
    {A : Around} {α : List Addr} {s : Shared} {us : List Value} {ks : List (Str × Value)} {Q : Value → Shared → Prop} (rm : Rm A (n + 1)) (S : Sto V α st s) (hr : Reps V s.heap α us args) (hkw : BReps V s.heap α ks kw)
    (hq : ∀ (F : List (Addr × Obj)) (env : Env) (s₂ : Shared), PF F → Rm (A.deeper env) n → Sto (V.re F V.bk V.bi V.hl) α st s₂ → Var (V.re F V.bk V.bi V.hl) fd.scope.names fd.code env (loc F) α s₂ → (∀ b ∈ own env, s.heap.objs.size ≤ b) → Step V [] α s α s₂ →
      wpAny V.M (A.deeper env) (execs body env) (fun f s' => Q (match f with | .ret v => v | _ => .none) s') NoE s₂) : wpAny V.M A (call (.ref a) us ks) Q NoE s :=
  wpAny_call (enter_codeX p Fa hcode hbody hb hk hnd hsn rm S hr hkw hq)
end

section
noncomputable abbrev eDict : Obj := { cls := .type "dict", data := .dict #[] }
section
variable {V : Cx} {G : Gm} {loc loc₁ loc₂ : Loc} {st st₁ st₂ st₃ : St} {n : Nat} {K : PySem.W.Frag} {C dx l f g : Addr} {od : Obj}
theorem eval_meth0 {A : Around} {env : Env} {α : List Addr} {s : Shared} {o : Expr} {name : Str} {apos pos : Pos} {ov : SV} {id : String} {first : List SV} {Q : Value → Shared → Prop} (ho : EvOK V G o loc st ov st₁) (hg : GmOK V ov name st₁ (.val (.builtin id)) first)
    (hbase : ∀ env, attributeBase o name env (eval o env) = eval o env) (hline : (apos.endLine == pos.line) = true) (rm : Rm A G.n) (S : Sto V α st s) (R : Var V G.ks G.cd env loc α s)
    (h : ∀ us β s₁, Step V [] α s β s₁ → Sto V β st₁ s₁ → Reps V s₁.heap β us first → wpAny V.M A (call (.builtin id) us) Q NoE s₁) : wpAny V.M A (eval (.Call (.Attribute o name apos) [] [] pos) env) Q NoE s := by
  rw [arm_eval_Call, hbase]
  refine wpAny_bind (wpAny_mono (ho.out A env α s rm S R) (fun u s₁ hq_ => ?_) fun _ _ e => e)
  obtain ⟨α₁, X₁, S₁, R₁⟩ := hq_
  refine wpAny_bind (wpAny_standAt ?_)
  have hpos : methodCallPos true o env apos pos = pure pos := by unfold methodCallPos; simp [hline]
  unfold methodCall
  have hform : methodCallForm (0 + 0) (backTo pos (starEach [] env)) (backToKw pos (keywordEach [] env)) = true := rfl
  generalize hq : methodCallForm _ (backTo pos (starEach [] env)) (backToKw pos (keywordEach [] env)) = q
  have hq' : q = true := hq.symm.trans hform
  subst hq'
  refine wpAny_bind (wpAny_holding (wpAny_mono (hg.out A α₁ s₁ u _ S₁ R₁) (fun p s₂ hq_ => ?_) fun _ _ e => e))
  obtain ⟨e, rf, rfs⟩ := hq_
  subst e
  refine wpAny_bind (wpAny_of_eq hpos ?_)
  obtain ⟨p1, p2⟩ := p
  dsimp only at rf rfs ⊢
  (first | obtain rfl := rf.inv | (obtain ⟨_, rfl⟩ := rf.inv) | (obtain ⟨_, rfl, _⟩ := rf.inv) | cases rf)
  refine callWith_builtin rfl (evalArgs_gen rfl rfl (wpAny_items_nil (wpAny_evalAll_nil ?_)))
  have := h p2 α₁ s₂ X₁ S₁ rfs
  simpa using this
theorem dictAt_empty {h : Heap} {d : Addr} (e : h.get? d = some eDict) : h.DictAt (strKind V.prog V.w) d [] 0 := ⟨eDict, #[], e, ⟨rfl, rfl, rfl⟩, rfl, by intro e h; simp at h, by first | exact .nil | trivial | constructor, List.nodup_nil⟩
theorem GmOK.d_items {d : Addr} (hf : (d, eDict) ∈ V.fixed) : GmOK V (.val (.ref d)) "items" st (.val (.builtin "dict.items")) [.val (.ref d)] := .mk fun A α s u pl S r => by
  (first | obtain rfl := r.inv | (obtain ⟨_, rfl⟩ := r.inv) | (obtain ⟨_, rfl, _⟩ := r.inv) | cases r)
  exact getMethod_builtin ⟨_, (S.fix _ hf).1, rfl⟩ F.plainAttrs_dict F.slot_dict_items F.type_dict_items (fun a e => by cases e; exact ⟨_, (S.fix _ hf).1, rfl⟩) ⟨rfl, .val _, .cons _ _ _ _ (.val _) .nil⟩
theorem HdOK.items0 {o : Expr} {apos pos : Pos} {target : Expr} {d : Addr} (hf : (d, eDict) ∈ V.fixed) (hs : (d == sysModules) = false) (ho : EvOK V G o loc st (.val (.ref d)) st) (hbase : ∀ env, attributeBase o "items" env (eval o env) = eval o env) (hline : (apos.endLine == pos.line) = true) :
    HdOK V G (.Call (.Attribute o "items" apos) [] [] pos) target loc st (fun _ => True) [] st := .mk fun A env α s rm S R => by
  refine eval_meth0 ho (GmOK.d_items hf) hbase hline rm S R fun us β s₁ X S₁ r => ?_
  replace r := r.inv; obtain ⟨u, us, rfl, r, rs⟩ := r
  (first | obtain rfl := rs.inv | (obtain ⟨_, rfl⟩ := rs.inv) | (obtain ⟨_, rfl, _⟩ := rs.inv) | cases rs)
  (first | obtain rfl := r.inv | (obtain ⟨_, rfl⟩ := r.inv) | (obtain ⟨_, rfl, _⟩ := r.inv) | cases r)
  have hd₁ := (S₁.fix _ hf).1
  refine call_meetsIn F.slot_dict_items ⟨_, hd₁, rfl⟩ F.entry_dict_items (F.args_dict_items_1 _) (meets_dict_items (strKind V.prog V.w) d hs) ⟨⟨[], by
    obtain ⟨o, es, r⟩ := dictAt_empty (V := V) hd₁
    exact ⟨o, es, 0, r⟩⟩, ?_⟩
  have z := S₁.grow (h' := s₁.heap.push { cls := .type "dict_items", data := .fields #[.ref d] }) s₁.toks (fun b o' e => Heap.get?_push_of_some _ e) (by rw [Heap.size_push]; omega)
  have hd₂ := (z.1.fix _ hf).1
  refine wpAny_pyIter_items (knd := strKind V.prog V.w) (kvs := []) (ep := 0) (s := { s₁ with heap := s₁.heap.push { cls := .type "dict_items", data := .fields #[.ref d] } }) (d := d) ⟨_, Heap.get?_push_size _ rfl, rfl, rfl⟩ (dictAt_empty (V := V) hd₂) ?_
  dsimp only
  generalize hs₂ : ({ s₁ with heap := s₁.heap.push { cls := .type "dict_items", data := .fields #[.ref d] } } : Shared) = s₂ at z hd₂
  have e2 : s₁.heap.push { cls := .type "dict_items", data := .fields #[.ref d] } = s₂.heap := by rw [← hs₂]
  rw [e2]
  generalize hob : ({ cls := .type "dict_itemiterator", data := .fields #[.none, .bool false, .ref d, .int 0 0, .int (([] : List (Str × Value)).length) 0, .int ((0 : Nat) : Int) 0, .none, .none] } : Obj) = ob
  have q := z.1.grow (h' := s₂.heap.push ob) s₂.toks (fun b o' e => Heap.get?_push_of_some _ e) (by rw [Heap.size_push]; omega)
  have X' := X.trans (z.2.trans q.2)
  have hI0 : IsItemIter (s₂.heap.push ob) s₂.heap.objs.size d 0 (([] : List (Str × Value)).length) 0 .none .none := by
    subst hob
    exact Heap.get?_push_size _ rfl
  have hsz : s.heap.objs.size ≤ s₂.heap.objs.size := Nat.le_trans X.size z.2.size
  refine ⟨s₂.heap.objs.size, [s₂.heap.objs.size], β, rfl, ?_, ?_, fun a ha => by simp at ha; subst ha; exact hsz, ?_⟩
  · have := X'
    rw [← hs₂] at this ⊢
    exact this
  · have := q.1
    rw [← hs₂] at this ⊢
    exact this
  · intro α₁ st₁ s₃ Y S₃ _ hm hex
    have hIo : s₂.heap.objs.size ∉ own env := fun h => Nat.lt_irrefl _ (Nat.lt_of_lt_of_le (R.lt h) hsz)
    have hI1 : IsItemIter s₃.heap s₂.heap.objs.size d 0 (([] : List (Str × Value)).length) 0 .none .none := Y.kept _ _ hI0 hIo z.1.newAt.1 z.1.newAt.2
    have hd₃ := (S₃.fix _ hf).1
    have hsoft : ∀ o, s₃.heap.get? s₂.heap.objs.size = some o → Soft o := fun o e => by
      rw [hI1] at e; cases e; exact soft_of_cls rfl (by decide) (by decide) (by decide)
    refine ⟨fun a ha => by simp at ha; subst ha; exact hsoft, wsize (wpAny_pyNext_items_end (knd := strKind V.prog V.w) (kvs := []) rm.hd hI1 (dictAt_empty (V := V) hd₃) rfl fun h' hx hz => ?_)⟩
    have w := S₃.iter (I := s₂.heap.objs.size) (h' := h') s₃.toks (fun b o hb e => hx b o hb e) hz z.1.size (Y.notin hI0 z.1.newAt.1) (fun p hp e => Nat.lt_irrefl _ (e ▸ Heap.lt_size (z.1.fix p hp).1)) hsoft
    exact ⟨rfl, w.1, w.2⟩

variable {F : List (Addr × Obj)}
theorem Hd.re {b : Addr} {i : Nat} {L : Option Addr} (x : Hd V K C) : Hd (V.re F b i L) K C := ⟨x.X, x.XP, x.ga, x.gt, x.nq⟩
theorem IsM.re {b : Addr} {i : Nat} {L : Option Addr} {name body scope B} (x : IsM V K C name f body scope B) : IsM (V.re F b i L) K C name f body scope B :=
  ⟨x.fn, x.ty, x.nh, let ⟨fd, o, Fa, r⟩ := x.ex; ⟨fd, o, Fa.re, r⟩⟩
theorem Bk.re (x : Bk V K C dx od l) (h : ∀ p ∈ V.fixed, p ∈ F) : Bk (V.re F V.bk V.bi V.hl) K C dx od l := ⟨x.hd.re, h _ x.fi, h _ x.fd, x.es, x.fo, x.hl⟩

noncomputable def BindKw (V : Cx) (fd : FuncData) : Prop := ∀ u v w : Value, ∀ {M : Model} {A : Around} {E : Value → Shared → Prop} {s : Shared} {Q : List (Str × Value) → Shared → Prop}, (∀ b o, V.h₀.get? b = some o → b ≠ V.P → s.heap.get? b = some o) →
  Q [("self", u), ("_name", v), ("_value", w), ("_params", .ref s.heap.objs.size)] { s with heap := s.heap.push eDict } → wpAny M A (bindArgs fd ⟨[u, v, w], []⟩) Q E s
noncomputable abbrev M_add (V : Cx) (K : PySem.W.Frag) (C f : Addr) := IsM V K C "add_header" f (pBody clsBody 16) (pScope clsBody 16) (BindKw V)
noncomputable abbrev addL (x y : Str) (d : Addr) : Loc := [("self", .book), ("_name", .str x), ("_value", .str y), ("_params", .val (.ref d))]

theorem add_body {cd : Value} {x y : Str} {hs : List (Str × Str)} {d : Addr} (bk : Bk V K C dx od l) (cv : Cv V) (hm : M_conv V K C f) (hx : NmOk x) (hy : Clean y) (hyl : y.length ≤ 1000) (hh : HsOk hs) (hB : st[V.bi]? = some (hs.map ss)) (hf : (d, eDict) ∈ V.fixed) (hd : (d == sysModules) = false) :
    ExOK V ⟨n + 1, (pScope clsBody 16).names, cd⟩ (pBody clsBody 16) (addL x y d) st .next [] (st.set V.bi ((hs ++ [(x, y)]).map ss) ++ [[.str y]]) := by
  have gb := cv.gb
  have hxl := hx.len
  have hZ : sizeLine = 16777216 := rfl
  have hi : V.bi < st.length := (List.getElem?_eq_some_iff.mp hB).1
  show ExOK _ _ (_ :: _) _ _ _ _ _
  apply ExOK.asgL
  · kernel_rfl!
  · exact EvOK.lstObj .nil (by show 0 ≤ _; omega)
  · exact fun _ => rfl
  · refine ExOK.if_t (r := true) (st₁ := st ++ [[]]) (st₂ := st ++ [[.str y]]) (loc₁ := setL "_value" (.str y) (setL "parts" (.obj st.length) (addL x y d))) ?_ rfl ?_ ?_
    · apply TsOK.cmp
      · tm_at "go"
      · tm_at "go"
      · exact Cmp.isNotNone' (.str _)
      · rfl
    · show ExOK _ _ (_ :: _) _ _ _ _ _
      apply ExOK.asgL
      · kernel_rfl!
      · refine EvOK.conv (st₁ := st ++ [[]]) bk cv hm (Nat.le_add_left 1 n) ?_ ?_ hy (by omega) (fun _ => rfl) rfl rfl
        · tm_at "go"
        · tm_at "go"
      · exact fun _ => rfl
      · apply ExOK.expr'
        · apply EvOK.meth
          · tm_at "go"
          · exact GmOK.o_append obj_at
          · apply CwOK.bi1
            · rfl
            · tm_at "go"
            · have q := CallOK.append (V := V) (n := n + 1) (st := st ++ [[]]) (i := st.length) (v := .str y) obj_at (by show 0 ≤ _; omega)
              rw [obj_set] at q
              exact q
          · exact fun _ => rfl
          · rfl
          · rfl
          · rfl
          · rfl
        · exact NoRef.none
        · exact fun _ => rfl
        · exact .nil
    · refine ExOK.for' (C := fun _ => True) (st₁ := st ++ [[.str y]]) (ys := []) (fun _ _ => rfl) (HdOK.items0 hf hd ?_ (fun _ => rfl) rfl) (.nil trivial) ?_
      · tm_at "go"
      · have e : st.set V.bi ((hs ++ [(x, y)]).map ss) ++ [[SV.str y]] = (st ++ [[SV.str y]]).set V.bi ((hs ++ [(x, y)]).map ss) := by rw [List.set_append_left _ _ hi]
        rw [e]
        show ExOK _ _ (_ :: _) _ _ _ _ _
        have ej : Txt.join ("; " : Str) [y] = y := by
          have : Txt.join ("; " : Str) [y] = Str.join "; " [y] := StrLaws.glued_eq_join _ _
          rw [this]; rfl
        refine ExOK.push (x := x) (y := y) bk ?_ ?_ ?_ (getApp hB) (by have := hh.len; omega) rfl rfl (fun _ => rfl) (fun _ => rfl) rfl (fun _ => rfl) .nilN
        · tm_at "go"
        · refine EvOK.conv (st₁ := st ++ [[SV.str y]]) bk cv hm (Nat.le_add_left 1 n) ?_ ?_ hx.cl (by omega) (fun _ => rfl) rfl rfl
          · tm_at "go"
          · tm_at "go"
        · apply EvOK.meth
          · tm_at "go"
          · exact GmOK.s_join
          · apply CwOK.bi1
            · rfl
            · tm_at "go"
            · have q := CallOK.join (V := V) (n := n + 1) (st := st ++ [[SV.str y]]) (x := ("; " : Str)) (a := .obj st.length) (ss := [y]) (by show (st ++ [[SV.str y]])[st.length]? = _; rw [obj_at]; rfl) (joinOk_of (B := 1000) (N := 1) (by intro z hz; simp at hz; subst hz; exact hyl) (by simp) (by rw [show ("; " : Str).length = 2 by decide +kernel]; omega))
              rw [ej] at q
              exact q
          · exact fun _ => rfl
          · rfl
          · rfl
          · rfl
          · rfl
theorem add_ok {x y : Str} {hs : List (Str × Str)} (bk : Bk V K C dx od l) (cv : Cv V) (hm : M_conv V K C f) (hg : M_add V K C g) (hx : NmOk x) (hy : Clean y) (hyl : y.length ≤ 1000) (hh : HsOk hs) (hB : st[V.bi]? = some (hs.map ss)) (hsy : sysModules < V.h₀.objs.size) :
    CallOK V (n + 2) (.val (.ref g)) [.book, .str x, .str y] [] st .none (st.set V.bi ((hs ++ [(x, y)]).map ss)) := .mk fun A α s fv us ks rm S hf hr hkw => by
  cases hf
  obtain ⟨fd, o, Fa, hc, hbo, hsc, hB'⟩ := hg.ex
  have gb := cv.gb
  have hkk : ∀ y ∈ [("self" : Str), "_name", "_value", "_params"], (pScope clsBody 16).names.lookup y = some .local ∨ (pScope clsBody 16).names.lookup y = some .cell := by
    have : ([("self" : Str), "_name", "_value", "_params"].all fun y => (pScope clsBody 16).names.lookup y == some .local || (pScope clsBody 16).names.lookup y == some .cell) = true := by kernel_rfl
    intro y hy
    have := List.all_eq_true.mp this y hy
    rw [Bool.or_eq_true, beq_iff_eq, beq_iff_eq] at this
    exact this
  refine enter_defX (loc := fun F => match F with | (d, _) :: _ => addL x y d | [] => []) (PF := fun F => ∃ d, F = (d, eDict) :: V.fixed ∧ V.h₀.objs.size ≤ d) gb.pg Fa hc hbo ?_ ?_ ?_ (by rw [hsc]; decide +kernel) rm S hr hkw ?_
  · intro A α s us ks S hr hkw
    (first | obtain rfl := hkw.inv | (obtain ⟨_, rfl⟩ := hkw.inv) | (obtain ⟨_, rfl, _⟩ := hkw.inv) | cases hkw)
    obtain ⟨u, us, rfl, r1, rs⟩ := hr.inv; obtain ⟨u2, us2, rfl, r2, rs⟩ := rs.inv; obtain ⟨u3, us3, rfl, r3, rs⟩ := rs.inv
    (first | obtain rfl := rs.inv | (obtain ⟨_, rfl⟩ := rs.inv) | (obtain ⟨_, rfl, _⟩ := rs.inv) | cases rs)
    refine hB' u u2 u3 S.old ?_
    have z := S.grow (h' := s.heap.push eDict) s.toks (fun b o' e => Heap.get?_push_of_some _ e) (by rw [Heap.size_push]; omega)
    refine ⟨(s.heap.objs.size, eDict) :: V.fixed, ⟨_, rfl, S.size⟩, z.2, z.1.hold (Heap.get?_push_size _ rfl) S.newAt.1 S.size, ?_⟩
    exact .cons _ _ _ _ _ (r1.go z.2) (.cons _ _ _ _ _ (r2.go z.2) (.cons _ _ _ _ _ (r3.go z.2) (.cons _ _ _ _ _ (.val _) .nil)))
  · intro F y hy
    rw [hsc]
    match F with
    | [] => cases hy
    | (d, _) :: _ => exact hkk y hy
  · intro F
    match F with
    | [] => exact List.nodup_nil
    | (d, _) :: _ => show [("self" : Str), "_name", "_value", "_params"].Nodup; decide +kernel
  · rintro F env s₂ ⟨d, rfl, hd⟩ rm' S₂ R L0 X₂
    dsimp only at R
    have hsub : ∀ p ∈ V.fixed, p ∈ (d, eDict) :: V.fixed := fun p hp => List.mem_cons_of_mem _ hp
    have hdd : (d == sysModules) = false := by
      have : d ≠ sysModules := fun e => by rw [e] at hd; exact Nat.lt_irrefl _ (Nat.lt_of_lt_of_le hsy hd)
      simpa using this
    have body := add_body (V := V.re ((d, eDict) :: V.fixed) V.bk V.bi V.hl) (cd := fd.code) (n := n) (bk.re hsub) cv.re hm.re hx hy hyl hh hB List.mem_cons_self hdd
    rw [hsc] at R
    refine wpAny_mono (body.out (A.deeper env) env α s₂ rm' S₂ R) (fun f s₃ hq_ => ?_) fun _ _ e => e
    obtain ⟨γ, X₃, S₃, R₃, of⟩ := hq_
    cases of
    have X : Step V [] α s γ s₃ := (X₂.up.trans X₃.back).mods fun b hb' => .inr (L0 b hb')
    obtain ⟨new, e, hnew⟩ := X.ext
    subst e
    have hα : α.length = st.length := S.len
    refine ⟨α, ⟨X.kept, X.size, [], by simp, by simp⟩, (S₃.unhold hsub).drop (hα.trans (by simp)) (fun i xs e => ?_) S.bkl, .none⟩
    rw [hα]; exact set_small i xs (fun j ys e => by have := S.self j ys e; rwa [hα] at this) e
end
end

section
structure Mk (V : Cx) (K : PySem.W.Frag) (C fI : Addr) : Prop where
  hd : Hd V K C
  mks : PySem.W.makesIn K C = true
  ini : PySem.W.findIn K (.ref C) "__init__" = some (some (.ref fI))
  ity : PySem.W.typeIn K (.ref fI) = some (.type "function")
  st : PySem.W.findIn K (.ref C) "__setattr__" = some (some (.builtin "object.__setattr__"))
  po : PySem.W.plainOver K C = true
  tk : PySem.W.takerIn K C "_headers" = some none
  hd' : (PySem.W.clsIn K C).any (·.hasDict) = true
  kp : PySem.W.keepIn K (.ref C) = true
  ex : ∃ fd o, FnAt V fd fI o ∧ (∀ c, fd.code = .ref c → c ≠ V.P) ∧ fd.body = .stmts (pBody clsBody 0) ∧ fd.scope = pScope clsBody 0 ∧ BindD V ["self"] "headers" fd

theorem OutRep.nx {V : Cx} {h : Heap} {α : List Addr} {f : Flow} (o : OutRep V h α f .next) : f = .next := by cases o; rfl
noncomputable def HdDict (od : Obj) (l : Addr) : Prop := ∃ hsh t n, od.data = .dict #[⟨hsh, .str "_headers" t, .ref l⟩] n

inductive ResBook (V : Cx) (C : Addr) (α : List Addr) (s : Shared) (st : St) (u : Value) (s' : Shared) : Prop
  | mk (α' : List Addr) (x dx : Addr) (od : Obj) (l : Addr) (h1 : u = .ref x) (h2 : Step V [] α s α' s') (h3 : Sto V α' (st ++ [[]]) s') (h4 : α'[st.length]? = some l) (h5 : s'.heap.get? x = some (PySem.W.instObj C dx)) (h6 : s'.heap.get? dx = some od)
    (h7 : x ∉ α') (h8 : dx ∉ α') (h9 : V.h₀.objs.size ≤ x) (h10 : V.h₀.objs.size ≤ dx) (h11 : HdDict od l) (h12 : s.heap.objs.size ≤ x) (h13 : s.heap.objs.size ≤ dx)
section
variable {V : Cx} {G : Gm} {loc loc₁ loc₂ : Loc} {st st₁ st₂ st₃ : St} {n : Nat} {K : PySem.W.Frag} {C dx l f fI : Addr} {od : Obj}
open PySem.W
theorem rm_tcall {A : Around} {m : Nat} {C : Addr} {rest : List Value} {kw : List (Str × Value)} (rm : Rm A (m + 1)) : Rm (A.under (.builtin "type.__call__" ⟨.ref C :: rest, kw⟩)) m := by
  have h1 : (Code.builtin "type.__call__" ⟨.ref C :: rest, kw⟩).weight = 1 := by
    unfold Code.weight Code.isGuard Code.isCreation Code.isCaller
    have : guardIds.contains "type.__call__" = false := by decide +kernel
    simp only [this]
    rfl
  have h2 : (Code.builtin "type.__call__" ⟨.ref C :: rest, kw⟩).cUnits = 1 := rfl
  exact ⟨rm.hd, by have := rm.dp; show A.depth + _ + m ≤ 900; rw [h1]; omega, by have := rm.un; show A.units + _ + 10 * m ≤ 9000; rw [h2]; omega⟩

theorem setHeaders {A : Around} {s : Shared} {α : List Addr} {x dx l : Addr} {Q : Unit → Shared → Prop} (k : Mk V K C fI) (S : Sto V α st s) (hx : s.heap.get? x = some (instObj C dx)) (hd : s.heap.get? dx = some eDict)
    (h : ∀ h' od tk, HdDict od l → h'.get? dx = some od → Heap.SameBut dx s.heap h' → Q () { s with heap := h', toks := tk }) :
    wpAny V.M A (setAttr (.ref x) "_headers" (.ref l)) Q NoE s := by
  have X := k.hd.In S
  have I : InstAt s.heap x (instObj C dx) C (some eDict) := ⟨hx, rfl, rfl, hd⟩
  obtain ⟨hh, g, d, t, os⟩ := s
  dsimp only at X I hx hd h
  refine set_plain (s := ⟨hh, g, d, t, os⟩) X I k.st ?_
  refine osa_open (s := ⟨hh, g, d, t + 1, os⟩) X I k.po k.tk fun b => ?_
  obtain ⟨cd, hc, hd'⟩ := any_some k.hd'
  refine wpAny_bind (wpAny_pure (wpAny_bind (wpAny_bind (wpAny_loadPart (s := ⟨hh, g, d, t + 1, os⟩) hx (wpAny_bind ((looks_clsIn X hc).here ?_))))))
  rw [hd']
  refine wpAny_pure (a := some dx) (wpAny_bind (wpAny_pure (wpAny_bind ?_)))
  unfold nsSet
  refine wpAny_bind (wpAny_bind (wpAny_askSetting (wpAny_pure (wpAny_bind (wpAny_mkText (wpAny_bind (wpAny_loadPart (s := ⟨hh, g, d, t + 1 + 1, os⟩) hd ?_)))))))
  dsimp only
  rw [aRefKeyMayBeTheName_at]
  have c : ((!(#[] : Array DictEntry).any (fun x => Value.isStr (DictEntry.key x) (Str.ofString "_headers"))) && (#[] : Array DictEntry).any (fun x => DictEntry.refKey x)) = false := by simp
  rw [c, if_neg Bool.false_ne_true]
  refine wpAny_updatePart (s := ⟨hh, g, d, t + 1 + 1, os⟩) hd ?_
  have D' := Heap.get?_update_self (Obj.putName "_headers" (PyData.keyHash V.w.params "_headers") (.str "_headers" (t + 1)) (.ref l)) hd rfl
  refine wpAny_bind (wpAny_lookBehind (s := ⟨_, g, d, t + 1 + 1, os⟩) D' (pastItsLine_dict (by show 1 ≤ _; rw [sizeLine_eq]; omega)) ?_)
  exact wpAny_pure (h _ _ _ ⟨_, _, _, rfl⟩ D' (Heap.SameBut.update ..))

theorem EvOK.use {e : Expr} {v : SV} (h : EvOK V G e loc st v st₁) {A : Around} {env : Env} {α : List Addr} {s : Shared} (rm : Rm A G.n) (S : Sto V α st s) (R : Var V G.ks G.cd env loc α s) {Q : Value → Shared → Prop}
    (hq : ∀ u β t, Step V [] α s β t → Sto V β st₁ t → Rep V t.heap β u v → Q u t) : wpAny V.M A (eval e env) Q NoE s :=
  wpAny_mono (h.out A env α s rm S R) (fun u t ⟨β, X, S', r⟩ => hq u β t X S' r) fun _ _ e => e
theorem Var.unhold {ks cd env} {F : List (Addr × Obj)} {α : List Addr} {s : Shared} (R : Var (V.re F V.bk V.bi V.hl) ks cd env loc α s) (hs : ∀ p ∈ V.fixed, p ∈ F) : Var V ks cd env loc α s := by
  have cast : ∀ {u : Value} {x : SV}, Rep (V.re F V.bk V.bi V.hl) s.heap α u x → Rep V s.heap α u x := fun r => Rep.re (V := V.re F V.bk V.bi V.hl) (F := V.fixed) (b := V.bk) (i := V.bi) (L := V.hl) r (.inl rfl)
  refine ⟨R.names, R.kind, R.glob, R.blt, R.code, fun a ha => ⟨(R.lo a ha).1, (R.lo a ha).2.1, fun p hp => (R.lo a ha).2.2 p (hs p hp)⟩, R.nd, ?_, fun x v h1 h2 => ?_, R.cs, R.cn⟩
  · obtain ⟨m, hn, hv⟩ := R.ns
    exact ⟨m, hn, fun x v h1 h2 => let ⟨u, hu, hr⟩ := hv x v h1 h2; ⟨u, hu, cast hr⟩⟩
  · obtain ⟨c, u, hc, hi, hr⟩ := R.cl x v h1 h2
    exact ⟨c, u, hc, hi, cast hr⟩
noncomputable abbrev iSt (i : Nat) : Stmt := ((pBody clsBody 0)[i]?).getD default
theorem iBody : pBody clsBody 0 = [iSt 0, iSt 1, iSt 2, iSt 3] := rfl
theorem init_1 {cd : Value} {x : SV} (gb : Gb V) : StOK V ⟨n, (pScope clsBody 0).names, cd⟩ (iSt 0) [("self", x), ("headers", .none)] st .next (setL "headers" (.obj st.length) [("self", x), ("headers", .none)]) (st ++ [[]]) := by
  show StOK _ _ (Stmt.Assign [Expr.Name _ _] (Expr.IfExp _ _ _ _) _) _ _ _ _ _
  refine StOK.assign (EvOK.ifexp_false (st₁ := st) ?_ (EvOK.lstObj .nil (Nat.zero_le _))) (SnOK.lcl (by kernel_rfl)) (fun _ => rfl)
  apply TsOK.cmp
  · tm_at "go"
  · tm_at "go"
  · exact Cmp.isNotNone
  · rfl
theorem init_2 {cd : Value} {x : SV} (gb : Gb V) : StOK V ⟨n, (pScope clsBody 0).names, cd⟩ (iSt 1) (setL "headers" (.obj st.length) [("self", x), ("headers", .none)]) (st ++ [[]]) .next (setL "headers" (.obj st.length) [("self", x), ("headers", .none)]) (st ++ [[]]) := by
  show StOK _ _ (Stmt.If _ _ _ _) _ _ _ _ _
  refine StOK.if_f (r := false) (st₁ := st ++ [[]]) ?_ rfl .nil
  have e : (!(Value.type "list" == Value.type "list")) = false := by decide
  rw [← e]
  apply TsOK.cmp
  · apply EvOK.call
    · tm_at "go"
    · apply CwOK.ty0
      · rfl
      · tm_at "go"
      · exact CallOK.typeLst (xs := []) obj_at
  · tm_at "go"
  · exact Cmp.isNotTy
  · rfl
theorem init_4 {cd : Value} {x : SV} (gb : Gb V) : StOK V ⟨n, (pScope clsBody 0).names, cd⟩ (iSt 3) (setL "headers" (.obj st.length) [("self", x), ("headers", .none)]) (st ++ [[]]) .next (setL "headers" (.obj st.length) [("self", x), ("headers", .none)]) (st ++ [[]]) := by
  show StOK _ _ (Stmt.If _ _ _ _) _ _ _ _ _
  refine StOK.if_t (r := true) (st₁ := st ++ [[]]) ?_ rfl ?_
  · exact TsOK.plain (EvOK.bool (b := true)) .bool (fun _ => rfl)
  · show ExOK _ _ (_ :: _) _ _ _ _ _
    refine ExOK.for' (C := fun st' => st'[st.length]? = some []) (st₁ := st ++ [[]]) (ys := []) (fun _ _ => rfl) (HdOK.obj ?_ obj_at) (.nil obj_at) .nil
    tm_at "go"
set_option maxHeartbeats 2000000 in
theorem make_book {A : Around} {α : List Addr} {s : Shared} (gb : Gb V) (k : Mk V K C fI) (rm : Rm A (n + 3)) (S : Sto V α st s) : wpAny V.M A (call (.ref C) []) (ResBook V C α s st) NoE s := by
  obtain ⟨fd, o, Fa, hc, hbo, hsc, hB⟩ := k.ex
  have X := k.hd.In S
  have hsz := S.size
  have hfx : ∀ p ∈ V.fixed, p.1 < s.heap.objs.size := fun p hp => Heap.lt_size (S.fix p hp).1
  have hna := S.newAt.1
  have z := S.grow (h' := (s.heap.push eDict).push (instObj C s.heap.objs.size)) s.toks (fun b o' e => Heap.get?_push_of_some _ (Heap.get?_push_of_some _ e)) (by rw [Heap.size_push, Heap.size_push]; omega)
  have hdx : ((s.heap.push eDict).push (instObj C s.heap.objs.size)).get? s.heap.objs.size = some eDict := Heap.get?_push_of_some _ (Heap.get?_push_size _ rfl)
  have hx : ((s.heap.push eDict).push (instObj C s.heap.objs.size)).get? (s.heap.objs.size + 1) = some (instObj C s.heap.objs.size) := by
    have := Heap.get?_push_size (s.heap.push eDict) (o := instObj C s.heap.objs.size) rfl
    rwa [Heap.size_push] at this
  have hxa : s.heap.objs.size + 1 ∉ α := fun h => by
    obtain ⟨i, hi⟩ := List.getElem?_of_mem h
    have hil := (List.getElem?_eq_some_iff.mp hi).1
    rw [S.len] at hil
    obtain ⟨a, vs', ha, ⟨m, eo⟩, _⟩ := S.cell i st[i] (by simp [hil])
    rw [hi] at ha; cases ha
    exact Nat.lt_irrefl _ (Nat.lt_of_succ_lt (Heap.lt_size eo))
  have hs0 := X
  generalize hdxe : s.heap.objs.size = dx at *
  generalize hxe : dx + 1 = x at *
  have hne : x ≠ dx := fun e => Nat.succ_ne_self dx (hxe.trans e)
  have S' := z.1.re (F := (x, instObj C dx) :: (dx, eDict) :: V.fixed) (b := V.bk) (i := V.bi) (L := V.hl) (fun q hq => by
    rcases List.mem_cons.mp hq with rfl | hq
    · exact ⟨hx, hxa, by dsimp only; omega⟩
    · rcases List.mem_cons.mp hq with rfl | hq
      · exact ⟨hdx, hna, hsz⟩
      · exact z.1.fix q hq) (.inl rfl) z.1.bkl
  have hsub : ∀ p ∈ V.fixed, p ∈ (x, instObj C dx) :: (dx, eDict) :: V.fixed := fun p hp => List.mem_cons_of_mem _ (List.mem_cons_of_mem _ hp)
  refine wpAny_call ?_
  have key : codeAny V.M (A.under (.builtin "type.__call__" ⟨[.ref C], []⟩)) (.call (.ref fI) ⟨[.ref x], []⟩) (InitBack x (fun r s' => match r with | .ok (.ret v) => ResBook V C α s st v s' | .ok _ => False | .error e => NoE e s')) { s with heap := (s.heap.push eDict).push (instObj C dx), toks := s.toks } := by
    refine enter_codeX (V := V.re ((x, instObj C dx) :: (dx, eDict) :: V.fixed) V.bk V.bi V.hl) (loc := fun _ => [("self", .val (.ref x)), ("headers", .none)]) (args := [.val (.ref x)]) (kw := []) (PF := fun F => F = (x, instObj C dx) :: (dx, eDict) :: V.fixed) gb.pg.re Fa.re hc hbo ?_ ?_ ?_ (by rw [hsc]; decide +kernel) (rm_tcall rm) S' (.cons _ _ _ _ (.val _) .nil) .nil ?_
    · intro A α s us ks S hr hkw
      (first | obtain rfl := hkw.inv | (obtain ⟨_, rfl⟩ := hkw.inv) | (obtain ⟨_, rfl, _⟩ := hkw.inv) | cases hkw)
      refine hB us (by rw [hr.length]; rfl) S.old ⟨_, rfl, .refl, S, ?_⟩
      exact breps_app (zip_breps (ns := [("self" : Str)]) hr) (.cons _ _ _ _ _ .none .nil)
    · intro F y hy
      rw [hsc]
      have : ([("self" : Str), "headers"].all fun y => (pScope clsBody 0).names.lookup y == some .local || (pScope clsBody 0).names.lookup y == some .cell) = true := by kernel_rfl
      have := List.all_eq_true.mp this y hy
      rw [Bool.or_eq_true, beq_iff_eq, beq_iff_eq] at this
      exact this
    · intro F
      show [("self" : Str), "headers"].Nodup
      decide +kernel
    · rintro F env s₂ rfl rm' S₂ R L0 X₂
      rw [hsc] at R
      rw [iBody]
      refine wpAny_execs_cons (wpAny_mono ((init_1 (n := n + 1) (cd := fd.code) gb.re).out _ env α s₂ rm' S₂ R) (fun f s₃ hq_ => ?_) fun _ _ e => e)
      obtain ⟨α₃, X₃, S₃, R₃, o⟩ := hq_
      obtain rfl := o.nx
      refine wpAny_execs_cons (wpAny_mono ((init_2 (n := n + 1) (cd := fd.code) gb.re).out _ env α₃ s₃ rm' S₃ R₃) (fun f s₄ hq_ => ?_) fun _ _ e => e)
      obtain ⟨α₄, X₄, S₄, R₄, o⟩ := hq_
      obtain rfl := o.nx
      refine wpAny_execs_cons ?_
      show wpAny _ _ (exec (Stmt.Assign [Expr.Attribute _ _ _] _ _) env) _ _ _
      have lk1 : EvOK (V.re ((x, instObj C dx) :: (dx, eDict) :: V.fixed) V.bk V.bi V.hl) ⟨n + 1, (pScope clsBody 0).names, fd.code⟩ (Expr.Name "headers" ⟨32, 24, 32, 31⟩) (setL "headers" (.obj st.length) [("self", .val (.ref x)), ("headers", .none)]) (st ++ [[]]) (.obj st.length) (st ++ [[]]) := by
        tm_at "go"
      refine plainObj_wpAny_Assign_Attribute (EvOK.use (G := ⟨n + 1, (pScope clsBody 0).names, fd.code⟩) (loc := setL "headers" (.obj st.length) [("self", .val (.ref x)), ("headers", .none)]) (st := st ++ [[]]) (st₁ := st ++ [[]]) (v := .obj st.length) ?_ rm' S₄ R₄ fun u α₅ s₅ X₅ S₅ r₅ => ?_) rfl
      · clear lk1; tm_at "go"
      have R₅ := R₄.step X₅ S₄.low.2
      refine EvOK.use (G := ⟨n + 1, (pScope clsBody 0).names, fd.code⟩) (loc := setL "headers" (.obj st.length) [("self", .val (.ref x)), ("headers", .none)]) (st := st ++ [[]]) (st₁ := st ++ [[]]) (v := .val (.ref x)) ?_ rm' S₅ R₅ fun u' α₆ s₆ X₆ S₆ r₆ => ?_
      · clear lk1; tm_at "go"
      have R₆ := R₅.step X₆ S₅.low.2
      obtain rfl := r₆.inv
      obtain ⟨l, rfl, hl⟩ := (r₅.go X₆).inv
      have hx₆ := (S₆.fix (x, instObj C dx) List.mem_cons_self)
      have hd₆ := (S₆.fix (dx, eDict) (List.mem_cons_of_mem _ List.mem_cons_self))
      have Sb := S₆.unhold hsub
      show wpAny V.M _ _ _ _ _
      refine setHeaders k Sb hx₆.1 hd₆.1 fun h₇ od tk hod hget hsb => ?_
      have hdown : dx ∉ own env := fun h => (R₆.lo _ h).2.2 (dx, eDict) (List.mem_cons_of_mem _ List.mem_cons_self) rfl
      have hxown : x ∉ own env := fun h => (R₆.lo _ h).2.2 (x, instObj C dx) List.mem_cons_self rfl
      have hsoft : ∀ a ∈ [dx], ∀ o, s₆.heap.get? a = some o → Soft o := fun a ha o e => by
        obtain rfl := List.mem_singleton.mp ha
        rw [hd₆.1] at e; cases e
        exact .inl ⟨_, _, rfl⟩
      have q := Sb.keep (s' := { s₆ with heap := h₇, toks := tk }) (mods := [dx]) (Keep.same hsb) ⟨fun a ha => ⟨by obtain rfl := List.mem_singleton.mp ha; exact hsz, by obtain rfl := List.mem_singleton.mp ha; exact hd₆.2.1, fun p hp e => by obtain rfl := List.mem_singleton.mp ha; exact Nat.lt_irrefl _ (e ▸ hfx p hp), hsoft a ha⟩⟩ rfl rfl
      have R₇ : Var V (pScope clsBody 0).names fd.code env (setL "headers" (.obj st.length) [("self", .val (.ref x)), ("headers", .none)]) α₆ { s₆ with heap := h₇, toks := tk } := (R₆.unhold hsub).go q.2 (fun a ha h => by obtain rfl := List.mem_singleton.mp h; exact hdown ha) S.low.2 hsoft
      refine wpAny_execs_cons (wpAny_mono ((init_4 (V := V) (n := n + 1) (cd := fd.code) (x := .val (.ref x)) gb).out _ env α₆ _ rm' q.1 R₇) (fun f s₈ hq_ => ?_) fun _ _ e => e)
      obtain ⟨α₈, X₈, S₈, R₈, o⟩ := hq_
      obtain rfl := o.nx
      refine wpAny_execs_nil ⟨rfl, ?_⟩
      have XX : Step V (dx :: own env) α s α₈ s₈ := by
        have y1 : Step V (dx :: own env) α s α s₂ := (z.2.trans X₂.back).up
        have y2 : Step V (own env) α s₂ α₆ s₆ := X₃.back.trans (X₄.back.trans (X₅.back.up.trans X₆.back.up))
        exact y1.trans ((y2.mem (fun a h => List.mem_cons_of_mem _ h)).trans ((q.2.mem (fun a h => by simp at h; simp [h])).trans (X₈.mem (fun a h => List.mem_cons_of_mem _ h))))
      have hx₈ : s₈.heap.get? x = some (instObj C dx) := X₈.kept x _ (q.2.kept x _ hx₆.1 (by simpa using hne) hx₆.2.1 (ne_hi hx₆.2.2 S.low.2)) hxown hx₆.2.1 (ne_hi hx₆.2.2 S.low.2)
      have hd₈ : s₈.heap.get? dx = some od := X₈.kept dx od hget hdown hd₆.2.1 (ne_hi hsz S.low.2)
      refine ⟨α₈, x, dx, od, l, rfl, XX.mods fun a ha => .inr ?_, S₈, X₈.idx hl, hx₈, hd₈, X₈.notin (q.2.kept x _ hx₆.1 (by simpa using hne) hx₆.2.1 (ne_hi hx₆.2.2 S.low.2)) hx₆.2.1, X₈.notin hget hd₆.2.1, hx₆.2.2, hsz, hod, ?_, ?_⟩
      · rcases List.mem_cons.mp ha with rfl | ha
        · omega
        · have := L0 a ha
          have h2 : (s.heap.push eDict).objs.size ≤ ((s.heap.push eDict).push (instObj C dx)).objs.size := by rw [Heap.size_push (s.heap.push eDict)]; omega
          rw [Heap.size_push] at h2
          have h3 : ((s.heap.push eDict).push (instObj C dx)).objs.size ≤ a := this
          omega
      · omega
      · omega
  obtain ⟨h, g, d, t, os⟩ := s
  dsimp only at hdxe key X
  have := make_core (prog := V.prog) (w := V.w) (A := A) (C := C) (R := fun r s' => match r with | .ok (.ret v) => ResBook V C α ⟨h, g, d, t, os⟩ st v s' | .ok _ => False | .error e => NoE e s') (h := h) (g := g) (d := d) (t := t) (os := os) (rest := []) (kw := []) (makes_of X k.mks) (looks_findIn X k.ini) (fun self => bind_fn X self k.ity) (.inl rfl) (by
    rw [hdxe, hxe]
    exact key)
  exact this
end
end

section
namespace Ap
theorem slot_get : Slot "method_descriptor" "__get__" "method_descriptor.__get__" :=
  .of (owner := "method_descriptor") (n := "__get__") (by rw [typeLookup_type, builtinLookup_eq_fast]; kernel_rfl) (by decide +kernel) (by decide +kernel) (by decide +kernel)
    (by first | exact .inl (by decide +kernel) | exact .inr (by decide +kernel)) (by rw [isSubtype_type]; kernel_rfl)
theorem entry_get : entryFor table "method_descriptor.__get__" = some Builtin.«method_descriptor.__get__» := entryFor_of_tree (by kernel_rfl)
theorem args_get (a b c : Value) : argsOk "method_descriptor.__get__" ⟨[a, b, c], []⟩ := by unfold argsOk; kernel_rfl
theorem no_set : typeLookup (.type "method_descriptor") "__set__" = pure none := by rw [typeLookup_type, builtinLookup_eq_fast]; kernel_rfl
theorem no_del : typeLookup (.type "method_descriptor") "__delete__" = pure none := by rw [typeLookup_type, builtinLookup_eq_fast]; kernel_rfl
theorem no_hook : typeLookup (.type "list") "__getattr__" = pure none := by rw [typeLookup_type, builtinLookup_eq_fast]; kernel_rfl
theorem owner_app : (".".intercalate ("list.append".cutAt '.').dropLast) = "list" := by
  have e0 : "list.append".cutAt '.' = ["list", "append"] := by first | rfl | decide +kernel
  rw [e0]; decide +kernel
theorem sub_list : isSubtype (.type "list") (.type (".".intercalate ("list.append".cutAt '.').dropLast)) = pure true := by rw [owner_app, isSubtype_type]; kernel_rfl
noncomputable abbrev bnd (a : Addr) : Obj := { cls := .type "builtin_function_or_method", data := .fields #[.builtin "list.append", .ref a] }
section
variable {prog : Program} {w : World} {A : Around} {E : Value → Shared → Prop} {h : Heap} {g : Array GenState} {d : Drawn} {t : Nat} {os : OsState} {a : Addr} {vs : Array Value} {n : Nat}
theorem get_list {R : Result → Shared → Prop} (hx : h.get? a = some { cls := .type "list", data := .seq vs n }) (hq : R (.ok (.ret (.ref h.objs.size))) ⟨h.push (bnd a), g, d, t, os⟩) :
    codeAny (model prog w) A (.call (.builtin "method_descriptor.__get__") ⟨[.builtin "list.append", .ref a, .type "list"], []⟩) R ⟨h, g, d, t, os⟩ := by
  have hT : (⟨h, g, d, t, os⟩ : Shared).TypeIs (.ref a) "list" := ⟨_, hx, rfl⟩
  have hT5 : (⟨h, g, d, t, os⟩ : Shared).TypeIs (.builtin "list.append") "method_descriptor" := F.type_list_append
  have f8 := sub_list
  refine codeAny_call_builtin slot_get.plain entry_get (slot_get.check _ _ _ _ _ _ _ _ hT5 (args_get _ _ _) ?_)
  repeat (any_goals (first | assumption | wp_step))
theorem get_entry {tk : Tok} {Q : Fin → Shared → Prop} (hx : h.get? a = some { cls := .type "list", data := .seq vs n }) (hq : Q (.done (.ret (.ref h.objs.size))) ⟨h.push (bnd a), g, d, t, os⟩) :
    wpAny (model prog w) A (Builtin.«object.__getattribute__» ⟨[.ref a, .str "append" tk], []⟩) Q E ⟨h, g, d, t, os⟩ := by
  have hT : (⟨h, g, d, t, os⟩ : Shared).TypeIs (.ref a) "list" := ⟨_, hx, rfl⟩
  have hT5 : (⟨h, g, d, t, os⟩ : Shared).TypeIs (.builtin "list.append") "method_descriptor" := F.type_list_append
  have f4 := F.slot_list_append.lookup
  have f5 := F.type_list_append
  have f6 := slot_get.lookup
  have f7 := no_set
  have f8 := no_del
  repeat (any_goals (first | assumption | wp_step))
  all_goals (first | exact get_list hx hq | (refine get_list hx ?_; repeat (any_goals (first | assumption | wp_step))))
theorem call_ga {tk : Tok} {R : Result → Shared → Prop} (hx : h.get? a = some { cls := .type "list", data := .seq vs n }) (hq : R (.ok (.ret (.ref h.objs.size))) ⟨h.push (bnd a), g, d, t, os⟩) :
    codeAny (model prog w) A (.call (.builtin "list.__getattribute__") ⟨[.ref a, .str "append" tk], []⟩) R ⟨h, g, d, t, os⟩ :=
  codeAny_call_builtin F.slot_list_getattribute.plain F.entry_list_ga (F.slot_list_getattribute.check _ _ _ _ _ _ _ _ (show (⟨h, g, d, t, os⟩ : Shared).TypeIs (.ref a) "list" from ⟨_, hx, rfl⟩) (F.args_list_getattribute_2 _ _) (get_entry hx hq))
theorem attr_app {Q : Value → Shared → Prop} (hx : h.get? a = some { cls := .type "list", data := .seq vs n }) (hq : Q (.ref h.objs.size) ⟨h.push (bnd a), g, d, t + 1, os⟩) : wpAny (model prog w) A (getAttr (.ref a) "append" true) Q E ⟨h, g, d, t, os⟩ := by
  have hT : (⟨h, g, d, t + 1, os⟩ : Shared).TypeIs (.ref a) "list" := ⟨_, hx, rfl⟩
  have f2 := F.slot_list_getattribute.lookup
  have f3 := F.slot_list_getattribute.bind (.ref a)
  unfold getAttr
  refine wpAny_bind (wpAny_mkText ?_)
  repeat (any_goals (first | assumption | wp_step))
  refine call_ga hx ?_
  exact wpAny_pure hq
end
end Ap
end

section
section
variable {V : Cx} {G : Gm} {loc loc₁ loc₂ : Loc} {st st₁ st₂ st₃ : St} {n : Nat}

theorem EvOK.attrApp {o : Expr} {pos} {i : Nat} {xs : List SV} (ho : EvOK V G o loc st (.obj i) st) (hx : st[i]? = some xs)
    (he : ∀ env, eval (.Attribute o "append" pos) env = (do
      let o' ← eval o env
      standAt pos.atName
      let r ← holding [o'] (getAttr o' "append" true)
      letTemporaryGo o o' r
      pure r)) : EvOK V G (.Attribute o "append" pos) loc st (.app i) st := .mk fun A env α s rm S R => by
  refine Attribute_any_ (he := he env) (wpAny_mono (ho.out A env α s rm S R) (fun u s₁ hq_ => ?_) fun _ _ e => e)
  obtain ⟨β, X, S₁, r⟩ := hq_
  obtain ⟨l, vs, rfl, ha, ⟨m, hl⟩, hr, hi⟩ := S₁.objAt r hx
  obtain ⟨h, g, d, t, os⟩ := s₁
  refine Ap.attr_app hl ?_
  have z := S₁.grow (h' := h.push (Ap.bnd l)) (t + 1) (fun b o' e => Heap.get?_push_of_some _ e) (by show h.objs.size ≤ (h.push _).objs.size; rw [Heap.size_push]; omega)
  exact ⟨β, X.trans z.2, z.1, .app i l _ (Ap.bnd l) ha (Heap.get?_push_size _ rfl) rfl rfl S₁.newAt.1 S₁.newAt.2⟩
theorem check_app {M : Model} {A : Around} {E : Value → Shared → Prop} {h : Heap} {g : Array GenState} {d : Drawn} {t : Nat} {os : OsState} {a : Addr} {v : Value} {vs : Array Value} {n : Nat} {Q : Unit → Shared → Prop} (hx : h.get? a = some { cls := .type "list", data := .seq vs n }) (hq : Q () ⟨h, g, d, t, os⟩) :
    wpAny M A (checkBoundCall "list.append" ⟨[.ref a, v], []⟩) Q E ⟨h, g, d, t, os⟩ := by
  have hT : (⟨h, g, d, t, os⟩ : Shared).TypeIs (.ref a) "list" := ⟨_, hx, rfl⟩
  have f1 : isSubtype (.type "list") (.type "module") = pure false := by rw [isSubtype_type]; kernel_rfl!
  have f2 : isSubtype (.type "list") (.type "type") = pure false := by rw [isSubtype_type]; kernel_rfl!
  have k1 : ∃ sig, Manifest.signature? "list.append" = some sig ∧ Bind.checkArgs "list.append" { sig with full := toString (Bind.lastOf "list") ++ toString "." ++ toString (Bind.lastOf "list.append") } ⟨[.ref a, v], []⟩ = pure () := by
    refine ⟨_, by first | rfl | kernel_rfl!, ?_⟩
    kernel_rfl!
  have k2 : builtinKind "list.append" = some .method := by decide +kernel
  have k3 : Manifest.varargsMethods.contains "list.append" = false := by decide +kernel
  obtain ⟨sig, k1, k1'⟩ := k1
  unfold checkBoundCall
  simp only [k1, k2, k3]
  repeat (any_goals (first | assumption | wp_step))
theorem quiet_app {as : Args} : (Code.builtin "list.append" as).quiet = true := Code.quiet_builtin _ (by decide +kernel)
theorem plain_app : plainId "list.append" = true := by decide +kernel

theorem CwOK.app {e : Expr} {i : Nat} {xs : List SV} {v : SV} (hs : notStar e = true) (he : EvOK V G e loc st v st₁) (hx : st₁[i]? = some xs) (hz : xs.length ≤ sizeLine) : CwOK V G (.app i) [] [e] [] loc st .none (st₁.set i (xs ++ [v])) := .mk fun A env pos pos' α s fv fs rm S R rf rfs => by
  obtain rfl := rfs.inv
  obtain ⟨a, b, o, rfl, hia, hob, hoc, hod, hbn, hbP⟩ := rf.inv
  have hp := (back_all (es := [e]) (by simp [hs]) env pos')
  unfold callWith
  refine wpAny_bind (wpAny_holding (evalArgs_gen hp.1 rfl (wpAny_mono ((EvsOK.cons hs he .nil).out A env pos' α s rm S R) (fun us s₁ ⟨α₁, X₁, S₁, R₁⟩ => wpAny_evalAll_nil ?_) fun _ _ e => e)))
  obtain ⟨u, us, rfl, ru, rs⟩ := R₁.inv
  (first | obtain rfl := rs.inv | (obtain ⟨_, rfl⟩ := rs.inv) | (obtain ⟨_, rfl, _⟩ := rs.inv) | cases rs)
  refine wpAny_bind (wpAny_standAt ?_)
  simp only [hp.2.1]
  have rf₁ := rf.go X₁
  obtain ⟨a', b₁, o', hbe, hia', hob', hoc', hod', hbn', hbP'⟩ := rf₁.inv
  obtain rfl := Value.ref.inj hbe
  obtain ⟨oc, odi, oda, osl⟩ := o'
  dsimp only at hoc' hod'
  subst hoc' hod'
  refine wpAny_bind (m := keeperOf (.ref b)) ?_
  unfold keeperOf
  refine wpAny_bind (wpAny_load hob' ?_)
  simp only [show (Value.type "builtin_function_or_method" != Value.type "method") = true by decide, show (Value.type "builtin_function_or_method" == Value.type "builtin_function_or_method" || Value.type "builtin_function_or_method" == Value.type "method-wrapper") = true by decide, if_true]
  refine wpAny_pure ?_
  have run : wpAny V.M A (call (.ref b) [u]) (Res V α₁ s₁ (st₁.set i (xs ++ [v])) .none) NoE s₁ := by
    obtain ⟨b', vs, hb', hl, hr⟩ := S₁.cell i xs hx
    rw [hia'] at hb'; cases hb'
    obtain ⟨k, hl⟩ := hl
    refine wpAny_call (codeAny_of_tree ?_)
    show wpAny _ A.in1 (callAny (.ref b) ⟨[u], []⟩) _ _ s₁
    simp only [callAny]
    refine wpAny_bind (wpAny_load hob' ?_)
    simp only [show (Value.type "builtin_function_or_method" == Value.type "method" || Value.type "builtin_function_or_method" == Value.type "builtin_function_or_method" || Value.type "builtin_function_or_method" == Value.type "method-wrapper") = true by decide, if_true]
    refine PySem.W.KFB.if_so (by decide) ?_
    refine wpAny_bind ?_
    obtain ⟨hh, g, d, t, os⟩ := s₁
    refine check_app hl ?_
    generalize (⟨hh, g, d, t, os⟩ : Shared) = s₁ at *
    refine wpAny_bind (wpAny_pure (wpAny_pure ?_))
    refine ⟨quiet_app, codeAny_builtin entry_list_append ?_⟩
    show wpAny _ _ (updateSeq a' (·.push u) >>= fun _ => ret .none) _ _ s₁
    refine wpAny_bind (wpAny_updateSeq hl rfl ?_ (by simp [hr.length]; exact hz) (by simp [hr.length]; exact hz))
    have hi := (List.getElem?_eq_some_iff.mp hx).1
    have hl' : Lst (s₁.heap.update a' (Obj.mapSeq (·.push u))) a' (vs ++ [u]) := by
      have q := IsL.update (h := s₁.heap) (l := a') (items := vs.toArray) (n := k) hl (·.push u)
      have e : vs.toArray.push u = (vs ++ [u]).toArray := by simp
      rw [e] at q
      exact ⟨_, q⟩
    have z := S₁.set (xs := xs ++ [v]) hi hia' (Heap.SameBut.update ..) hl' (hr.append (.cons _ _ _ _ ru .nil)) s₁.toks
    exact wpAny_pure ⟨α₁, z.2, z.1, .none⟩
  exact wpAny_bind (wpAny_mono run (fun r s₂ hr => wpAny_bind (wpAny_holding (wpAny_point (wpAny_pure (hr.trans X₁))))) fun _ _ e => e)

theorem EvOK.fstr {a b x y : Str} {e : Expr} {pa pb pf p : Pos} {ka kb : Nat} (he : EvOK V G e loc st (.str x) st₁) (hz : a.length + x.length + b.length ≤ sizeLine) :
    EvOK V G (.JoinedStr [.Constant (.str a) ka pa, .FormattedValue e (-1) none pf, .Constant (.str b) kb pb] p) loc st (.str (a ++ x ++ b)) st₁ := .mk fun A env α s rm S R => by
  have la : ∀ x y : Str, (x ++ y).length = x.length + y.length := fun x y => Str.length_append ..
  have e0 : ∀ z : Str, Str.empty ++ z = z := fun z => by
    show (⟨#[] ++ z.cps⟩ : Str) = z
    rw [Array.empty_append]
  refine JoinedStr_many (joinParts_cons (Constant_str ?_))
  have z := S.toks (s.toks + 1)
  refine ⟨by rw [e0]; omega, joinParts_cons (FormattedValue_plain ?_)⟩
  rw [e0]
  refine wpAny_mono (he.out A env α _ rm z.1 (R.step z.2 S.low.2)) (fun u s₁ hq_ => ?_) fun _ _ e => e.elim
  obtain ⟨β, X, S₁, r⟩ := hq_
  obtain ⟨t, rfl⟩ := r.inv
  refine formatField_str (fun t' tk => ⟨by rw [la]; omega, joinParts_cons (Constant_str ?_)⟩) (by omega)
  refine ⟨by rw [la, la]; omega, joinParts_nil ?_ (by rw [la, la]; omega)⟩
  exact ⟨β, z.2.trans (X.trans (S₁.toks _).2), (S₁.toks _).1, .str _ _⟩
end
end

section
noncomputable def IsTab (V : Cx) (x : Str) (f : Int → Option Value) : Prop := ∃ d, V.mg x = some (.ref d) ∧ V.h₀.MapOf (intKind V.prog V.w) d f ∧ d ≠ V.P ∧ (d == sysModules) = false
section
variable {V : Cx} {G : Gm} {loc loc₁ loc₂ : Loc} {st st₁ st₂ st₃ : St} {n : Nat}
theorem IsTab.at {x : Str} {f : Int → Option Value} (h : IsTab V x f) {α : List Addr} {s : Shared} (S : Sto V α st s) {u : Value} (r : Rep V s.heap α u (.gl x)) : ∃ d, u = .ref d ∧ s.heap.MapOf (intKind V.prog V.w) d f ∧ (d == sysModules) = false := by
  obtain ⟨d, hm, ⟨o, es, ep, ho, q⟩, hne, hs⟩ := h
  exact ⟨d, IsFn.gl hm r, ⟨o, es, ep, S.old _ _ ho hne, q⟩, hs⟩
theorem getItem_hit {A : Around} {s : Shared} {d : Addr} {f : Int → Option Value} {k : Int} {t : Tok} {v : Value} {Q : Value → Shared → Prop} {E : Value → Shared → Prop} (hm : s.heap.MapOf (intKind V.prog V.w) d f) (hv : f k = some v) (h : ∀ tk, Q v { s with toks := tk }) : wpAny V.M A (getItem (.ref d) (.int k t)) Q E s := by
  unfold getItem
  try with_reducible refine wpAny_holding ?_
  refine wpAny_bind (wpAny_sequenceKey hm.typeIs (by decide) ?_)
  refine wpAny_bind (wpAny_callSpecial?_slot (name := Str.ofString "__getitem__") hm.typeIs slot_dict_getitem
    (wpAny_call_entry slot_dict_getitem hm.typeIs entry_dict_getitem ?_ (args_dict_getitem _ _)))
  show wpAny _ _ (dictGet d (.int k t) >>= _) _ _ s
  refine wpAny_bind (wpAny_dictGet_of (knd := intKind V.prog V.w) (k := k) (by simp [intKind, Value.isInt]) hm ?_)
  rw [hv]
  exact wpAny_pure ⟨v, rfl, wpAny_pure (h _)⟩
theorem look_hit {A : Around} {s : Shared} {d : Addr} {f : Int → Option Value} {c : Nat} {x : Str} {tk : Tok} {Q : Builtin.Str.Mapped → Shared → Prop} {E : Value → Shared → Prop} (hm : s.heap.MapOf (intKind V.prog V.w) d f) (hv : f (c : Int) = some (.str x tk)) (h : ∀ tk, Q (.text x) { s with toks := tk }) :
    wpAny V.M A (Builtin.Str.tableLookup (.ref d) c) Q E s := by
  unfold Builtin.Str.tableLookup
  refine wpAny_bind (wpAny_attempt (wpAny_bind (wpAny_mkInt (getItem_hit (s := { s with toks := s.toks + 1 }) hm hv fun tk' => ?_))))
  exact wpAny_bind (wpAny_pure (wpAny_bind (wpAny_pure (wpAny_pure (h tk')))))
theorem look_miss {A : Around} {s : Shared} {d : Addr} {f : Int → Option Value} {c : Nat} {Q : Builtin.Str.Mapped → Shared → Prop} {E : Value → Shared → Prop} (hh : A.handled = none) (hd : (d == sysModules) = false) (hm : s.heap.MapOf (intKind V.prog V.w) d f) (hv : f (c : Int) = none)
    (h : ∀ h' tk, (∀ b o, s.heap.get? b = some o → h'.get? b = some o) → Q .keep { s with heap := h', toks := tk }) :
    wpAny V.M A (Builtin.Str.tableLookup (.ref d) c) Q E s := by
  unfold Builtin.Str.tableLookup
  refine wpAny_bind (wpAny_attempt (wpAny_bind (wpAny_mkInt (wpAny_getItem_missing_of (s := { s with toks := s.toks + 1 }) (knd := intKind V.prog V.w) (k := (c : Int)) (by simp [intKind, Value.isInt]) hd hh hm hv fun h' e ne => ?_))))
  obtain ⟨hk, _, o, av, ho, hc, _⟩ := ne
  refine wpAny_bind (wpAny_isInstance (T := "KeyError") (b := true) ⟨o, ho, hc⟩ (by rw [isSubtype_type]; kernel_rfl!) ?_)
  exact wpAny_bind (wpAny_rule (wpAny_pure (h h' _ hk)))

noncomputable def esc (f : Int → Option Value) (c : Nat) : Str := match f (c : Int) with
  | some (.str x _) => x
  | _ => ⟨#[c]⟩
theorem CallOK.translate {c : Nat} {x : Str} {f : Int → Option Value} (hx : IsTab V x f) (hc : c < 128) (hf : f (c : Int) = none ∨ ∃ y tk, f (c : Int) = some (.str y tk) ∧ y.length = 2) :
    CallOK V n (.val (.builtin "str.translate")) [.str ⟨#[c]⟩, .gl x] [] st (.str (esc f c)) st := .mk fun A α s fv us ks rm S rf r rk => by
  (first | obtain rfl := rf.inv | (obtain ⟨_, rfl⟩ := rf.inv) | (obtain ⟨_, rfl, _⟩ := rf.inv) | cases rf); (first | obtain rfl := rk.inv | (obtain ⟨_, rfl⟩ := rk.inv) | (obtain ⟨_, rfl, _⟩ := rk.inv) | cases rk)
  obtain ⟨u, us, rfl, ru, rs⟩ := r.inv; obtain ⟨v, us', rfl, rv, rs'⟩ := rs.inv
  (first | obtain rfl := rs'.inv | (obtain ⟨_, rfl⟩ := rs'.inv) | (obtain ⟨_, rfl, _⟩ := rs'.inv) | cases rs')
  obtain ⟨t, rfl⟩ := ru.inv
  obtain ⟨d, rfl, hm, hds⟩ := hx.at S rv
  refine wpAny_call_entry F.slot_str_translate (typeIs_str _ _ _) F.entry_str_translate ?_ (F.args_str_translate_2 _ _)
  unfold Builtin.«str.translate»
  refine wpAny_bind (m := Builtin.Str.strOneArg _ _) (wpAny_pure ?_)
  dsimp only
  have hlen : (Str.length (⟨#[c]⟩ : Str) == 0) = false := rfl
  rw [hlen, if_neg Bool.false_ne_true]
  have hfast : Array.all (#[c] : Array Nat) (fun x => decide (x < 128)) = true := by simp [hc]
  rw [hfast, ← Array.forIn_toList]
  show wpAny _ _ (forIn [c] _ _ >>= _) _ _ _
  rw [List.forIn_cons]
  have ht0 : Builtin.Str.tooLong 0 = false := by decide
  refine wpAny_bind ?_
  refine wpAny_bind ?_
  dsimp only
  rw [ht0, if_neg Bool.false_ne_true, if_pos rfl]
  show wpAny _ _ (Builtin.Str.tableLookup (.ref d) c >>= _) _ _ _
  rcases hf with hf | ⟨y, tk, hf, hy⟩
  · have e : esc f c = ⟨#[c]⟩ := by unfold esc; rw [hf]
    rw [e]
    refine wpAny_bind (wsize (look_miss rm.hd hds hm hf fun h' tk hk hz => ?_))
    refine wpAny_bind (wpAny_pure ?_)
    refine wpAny_pure (a := ForInStep.yield ([(⟨#[c]⟩ : Str)], 0 + 1, true, [(c, some c)], false)) ?_
    refine wpAny_pure (a := ([(⟨#[c]⟩ : Str)], 0 + 1, true, [(c, some c)], false)) ?_
    have z := S.grow (h' := h') (tk + 1) hk hz
    have ht : Builtin.Str.tooLong (0 + 1) = false := by decide
    dsimp only
    rw [ht, if_neg Bool.false_ne_true]
    have ep : (⟨List.foldl (fun acc p => acc ++ Str.cps p) #[] (List.reverse [(⟨#[c]⟩ : Str)])⟩ : Str) = ⟨#[c]⟩ := rfl
    rw [ep]
    refine wpAny_bind (wpAny_mkStr ?_ (by show 1 ≤ _; rw [sizeLine_eq]; omega))
    exact wpAny_pure ⟨_, rfl, α, z.2, z.1, .str _ _⟩
  · have e : esc f c = y := by unfold esc; rw [hf]
    rw [e]
    refine wpAny_bind (look_hit hm hf fun tk => ?_)
    have h1 : (Str.length y == 1 && Array.all (Str.cps y) fun x => decide (x < 128)) = false := by rw [hy]; rfl
    dsimp only
    rw [h1, if_neg Bool.false_ne_true]
    refine wpAny_bind (wpAny_pure ?_)
    dsimp only
    refine wpAny_bind (wpAny_rule ?_)
    rw [if_neg Bool.false_ne_true]
    refine wpAny_bind (look_hit (s := { s with toks := tk }) hm hf fun tk' => ?_)
    refine wpAny_pure (a := ForInStep.yield ([y], 0 + y.length, false, [], false)) ?_
    refine wpAny_pure (a := ([y], 0 + y.length, false, [], false)) ?_
    have ht : Builtin.Str.tooLong (0 + y.length) = false := by rw [hy]; decide
    dsimp only
    rw [ht, if_neg Bool.false_ne_true]
    have ep : (⟨List.foldl (fun acc p => acc ++ Str.cps p) #[] (List.reverse [y])⟩ : Str) = y := by
      show (⟨#[] ++ y.cps⟩ : Str) = y
      rw [Array.empty_append]
    rw [ep]
    refine wpAny_bind (wpAny_mkStr ?_ (by rw [hy, sizeLine_eq]; omega))
    exact wpAny_pure ⟨_, rfl, Res.toks S (.str _ _) _⟩
end
end

section
noncomputable abbrev D_escape (V : Cx) := IsDef V "escape" ["pattern"] (pBody top 11) (pScope top 11)
section
variable {V : Cx} {G : Gm} {loc loc₁ loc₂ : Loc} {st st₁ st₂ st₃ : St} {n : Nat}
theorem escape_ok {c : Nat} {f : Int → Option Value} (gb : Gb V) (d : D_escape V) (hx : IsTab V "_special_chars_map" f) (hc : c < 128) (hf : f (c : Int) = none ∨ ∃ y tk, f (c : Int) = some (.str y tk) ∧ y.length = 2) :
    CallOK V (n + 1) (.gl "escape") [.str ⟨#[c]⟩] [] st (.str (esc f c)) st := by
  refine CallOK.gf gb.pg d rfl (by kernel_rfl) (by decide +kernel) (by decide +kernel) (ext := []) (out := .ret (.str (esc f c))) (fun cd => ?_) rfl (.str _)
  simp only [List.append_nil, List.zip_cons_cons, List.zip_nil_right]
  show ExOK _ _ (_ :: _) _ _ _ _ _
  apply ExOK.if_tE
  · tm_at "go"
  · rfl
  · show ExOK _ _ (Stmt.Return (some (Expr.Call (Expr.Attribute _ _ _) _ _ _)) _ :: _) _ _ _ _ _
    apply ExOK.retN
    apply EvOK.meth
    · tm_at "go"
    · exact GmOK.s_translate
    · apply CwOK.bi1
      · rfl
      · apply EvsOK.cons
        · rfl
        · obtain ⟨d, hm, _⟩ := id hx
          exact EvOK.gl gb.pg hm (by kernel_rfl) (by kernel_rfl)
        · exact .nil
      · exact CallOK.translate hx hc hf
    · exact fun _ => rfl
    · rfl
    · rfl
    · rfl
    · rfl
  · exact fun h => nomatch h

theorem Sto.tabs {α : List Addr} {s : Shared} (S : Sto V α st s) {h' : Heap} (t : Nat) (hx : Heap.ExtBut V.P s.heap h') (hz : s.heap.objs.size ≤ h'.objs.size) (ht : ∃ more, h'.TableAt V.c V.P (V.ps ++ more) ∧ h'.IsCode V.c V.P (V.ps ++ more)) :
    Sto V α st { s with heap := h', toks := t } ∧ Step V [] α s α { s with heap := h', toks := t } := by
  have X : Step V [] α s α { s with heap := h', toks := t } := ⟨fun b o e _ _ hP => hx b o hP e, hz, [], by simp, by simp⟩
  refine ⟨⟨fun b o e hP => hx b o hP (S.old b o e hP), ht, S.low, Nat.le_trans S.size hz, S.os, S.gens, S.len, S.nd, S.hi, fun p hp => ?_, fun i xs e => ?_, S.bkl⟩, X⟩
  · obtain ⟨h1, h2, h3⟩ := S.fix p hp
    exact ⟨hx _ _ (ne_hi h3 S.low.2) h1, h2, h3⟩
  · obtain ⟨a, vs, h1, ⟨m, h2⟩, h3⟩ := S.cell i xs e
    exact ⟨a, vs, h1, ⟨m, hx _ _ (ne_hi (S.hi a (List.mem_of_getElem? h1)) S.low.2) h2⟩, h3.go X⟩
end
end

section
structure Lm (V : Cx) : Prop where
  bm : ∃ bm ob, V.mg "__builtins__" = some (.ref bm) ∧ bm ≠ builtinsNs ∧ bm ≠ V.P ∧ V.h₀.get? bm = some ob ∧ ob.cls = .type "module" ∧ ob.dict = some builtinsNs ∧ ob.data = .plain
section
variable {V : Cx} {G : Gm} {loc loc₁ loc₂ : Loc} {st st₁ st₂ st₃ : St} {n : Nat}

theorem code_at {A : Around} {α : List Addr} {s : Shared} {env : Env} {pos : Pos} {fl : Nat} {name qual : Str} {p : Arguments} {scope : Scope} {body : FuncBody} {Q : Value → Shared → Prop} (S : Sto V α st s) (hc : env.code = .ref V.c)
    (h : ∀ cv h' tk, Sto V α st { s with heap := h', toks := tk } → Step V [] α s α { s with heap := h', toks := tk } → Q cv { s with heap := h', toks := tk }) : wpAny V.M A (functionCode env pos fl name qual p scope body) Q NoE s := by
  obtain ⟨more, ht, hco⟩ := S.tab
  cases hnf : codeAmong pos (V.ps ++ more).toList with
  | none =>
    refine wsize (wpAny_functionCodeX hc hco ht hnf fun c' h' tk hx _ _ hi _ htb _ hz => ?_)
    have z := S.tabs (h' := h') tk hx hz ⟨more ++ #[rawInt pos.line, rawInt pos.col, .ref c'], by rw [← Array.append_assoc]; exact htb, by rw [← Array.append_assoc]; exact hi⟩
    exact h _ h' tk z.1 z.2
  | some cv =>
    obtain ⟨o, vs, file, tf, flags, tg, inF, text, tt, op, ho, hd, h11, h2, h7, h9, h10, hop, hpd, htr, hne⟩ := hco
    unfold functionCode codeAt
    rw [hc, if_neg (show ¬ ((Value.ref V.c == Value.none) = true) from Bool.false_ne_true)]
    refine wpAny_bind (wpAny_fieldsOf ho hd ?_)
    rw [h11]
    refine wpAny_bind (wpAny_fieldsOf hop hpd ?_)
    rw [hnf]
    exact wpAny_pure (h cv s.heap s.toks S .refl)
noncomputable abbrev fnObj (fd : FuncData) : Obj := { cls := .type "function", data := .func fd }
theorem lambda_raw {A : Around} {env : Env} {α : List Addr} {s : Shared} {args : Arguments} {body : Expr} {scope : Scope} {pos : Pos} {Q : Value → Shared → Prop} (p : Pg V) (lm : Lm V) (S : Sto V α st s) (hc : env.code = .ref V.c) (hg : env.globals = mainGlobals)
    (hd : defaultsOf args env = ([], [])) (hcl : closureFor scope env = pure [])
    (h : ∀ fa h' tk fd, Sto V α st { s with heap := h', toks := tk } → Step V [] α s α { s with heap := h', toks := tk } → h'.get? fa = some (fnObj fd) → fa ∉ α → fa ≠ V.P → Q (.ref fa) { s with heap := h', toks := tk }) :
    wpAny V.M A (eval (.Lambda args body scope pos) env) Q NoE s := by
  rw [arm_eval_Lambda, hd]
  refine wpAny_bind (wpAny_pure ?_)
  refine wpAny_bind (wpAny_holding (wpAny_pure ?_))
  unfold makeFunction
  rw [List.zip_nil_right]
  refine wpAny_bind (wpAny_pure ?_)
  refine wpAny_bind (wpAny_pure ?_)
  refine wpAny_bind (wpAny_pure ?_)
  rw [hcl]
  refine wpAny_bind (wpAny_pure ?_)
  refine wpAny_bind (wpAny_pure ?_)
  refine wpAny_bind (code_at S hc fun cv h₁ tk₁ S₁ X₁ => ?_)
  obtain ⟨bm, ob, hbm, hne0, hneP, hbo, hcls, hdict, hdata⟩ := lm.bm
  have hns := S₁.getOld p.ns p.apart.1
  rw [hg]
  refine wpAny_bind (wpAny_builtinsFor hns hbm hne0 (S₁.old _ _ hbo hneP) hcls hdict hdata ?_)
  refine wpAny_bind (wpAny_nsGet hns ?_)
  refine wpAny_bind (wpAny_pure ?_)
  refine wpAny_newObj_type ?_ (by size_fits)
  have z : ∀ fd : FuncData, _ := fun fd => S₁.grow (h' := h₁.push (fnObj fd)) tk₁ (fun b o' e => Heap.get?_push_of_some _ e) (by show h₁.objs.size ≤ (h₁.push _).objs.size; rw [Heap.size_push]; omega)
  exact h h₁.objs.size _ tk₁ _ (z _).1 (X₁.trans (z _).2) (Heap.get?_push_size _ rfl) S₁.newAt.1 S₁.newAt.2
theorem reNamed_2 {id f : String} {v w : Value} : Builtin.Re.reNamed id f ["repl", "string", "count"] 2 [v, w] [] = pure [some v, some w, none] := by rfl
theorem reWhole_at {M : Model} {A : Around} {E : Value → Shared → Prop} {s : Shared} {a : Addr} {code : Array Nat} {t : Str} {tk : Tok} {Q : Builtin.Re.ReTarget → Shared → Prop} (P : PatAt s.heap a code)
    (h : ∀ T : Builtin.Re.ReTarget, T.code = code → T.text = t.cps → T.kind = 0 → T.lim = t.cps.size → Q T s) : wpAny M A (Builtin.Re.reWholeTarget (.ref a) (.str t tk)) Q E s := by
  obtain ⟨o, fs, c, oc, ws, k, ho, hcl, hdi, hd, h5, h6, hoc, hdc, hcode⟩ := P
  unfold Builtin.Re.reWholeTarget
  refine wpAny_bind (wpAny_fieldsOf ho hd ?_)
  refine wpAny_bind (textOf_str ?_)
  dsimp only
  rw [h6, h5]
  refine wpAny_bind (wpAny_pure ?_)
  unfold Builtin.Re.reRawItems
  refine wpAny_bind (wpAny_bind (wpAny_seqItems hoc hdc ?_))
  exact wpAny_pure (wpAny_pure (h _ hcode rfl rfl rfl))
theorem slot_pat_sub : Slot "re.Pattern" "sub" "re.Pattern.sub" :=
  .of (owner := "re.Pattern") (n := "sub") (by rw [typeLookup_type, builtinLookup_eq_fast]; kernel_rfl) (by decide +kernel) (by decide +kernel) (by decide +kernel)
    (by first | exact .inl (by decide +kernel) | exact .inr (by decide +kernel)) (by rw [isSubtype_type]; kernel_rfl)
theorem type_pat_sub : typeOf (.builtin "re.Pattern.sub") = pure (.type "method_descriptor") := by show builtinType _ = _; rw [builtinType_eq_fast]; kernel_rfl
theorem entry_pat_sub : entryFor table "re.Pattern.sub" = some Builtin.«re.Pattern.sub» := entryFor_of_tree (by kernel_rfl)
theorem entry_pat_loop : entryFor table "re.Pattern.sub.loop" = some Builtin.«re.Pattern.sub.loop» := entryFor_of_tree (by kernel_rfl)
theorem plain_pat_loop : plainId "re.Pattern.sub.loop" = true := by decide +kernel
theorem args_pat_sub_3 (a b c : Value) : argsOk "re.Pattern.sub" ⟨[a, b, c], []⟩ := by unfold argsOk; kernel_rfl
theorem PatAt.keeps {h h' : Heap} {a : Addr} {code : Array Nat} (P : PatAt h a code) (k : ∀ b o, h.get? b = some o → h'.get? b = some o) : PatAt h' a code := by
  obtain ⟨o, fs, c, oc, ws, m, ho, hcl, hdi, hd, h5, h6, hoc, hdc, hcode⟩ := P
  exact ⟨o, fs, c, oc, ws, m, k _ _ ho, hcl, hdi, hd, h5, h6, k _ _ hoc, hdc, hcode⟩
theorem fn_call : ∃ r, typeLookup (.type "function") "__call__" = pure (some r) := ⟨.builtin "function.__call__", by rw [typeLookup_type, builtinLookup_eq_fast]; kernel_rfl!⟩
theorem CallOK.joinAt {A : Around} {s : Shared} {t : Str} {tk tk' : Tok} {l : Addr} {m : Nat} {Q : Value → Shared → Prop} (hL : s.heap.get? l = some { cls := .type "list", data := .seq #[.str t tk] m }) (hz : t.length ≤ 1000000) (h : ∀ t' k, Q (.str t t') { s with toks := k }) :
    wpAny V.M A (call (.builtin "str.join") [.str "" tk', .ref l]) Q NoE s := by
  have ej : Txt.join ("" : Str) [t] = t := by
    have : Txt.join ("" : Str) [t] = Str.join "" [t] := StrLaws.glued_eq_join _ _
    rw [this]; rfl
  refine SC.join (D := l) (l := [(t, tk)]) (texts := [t]) ⟨_, hL, rfl, m, rfl⟩ rfl (joinOk_of (B := 1000000) (N := 1) (by intro z hz'; simp at hz'; subst hz'; exact hz) (by simp) (by rw [show ("" : Str).length = 0 by decide +kernel]; omega)) fun t' k => ?_
  rw [ej]
  exact h t' k
theorem call_sub {A : Around} {α : List Addr} {s : Shared} {a fa : Addr} {fd : FuncData} {code : Array Nat} {t : Str} {tk : Tok} {Q : Value → Shared → Prop} (S : Sto V α st s) (P : PatAt s.heap a code) (hf : s.heap.get? fa = some (fnObj fd)) (hs : firstSet code = true) (hl : 0 < t.length ∧ t.length < 1000000)
    (hn : ∀ i seen, i < t.length → ∃ seen', Sre.inSet code (t.cps.getD i 0) code.size 5 true seen = .ok (false, seen'))
    (h : ∀ u s', Res V α s st (.str t) u s' → Q u s') : wpAny V.M A (call (.builtin "re.Pattern.sub") [.ref a, .ref fa, .str t tk]) Q NoE s := by
  obtain ⟨o, _, _, _, _, _, ho, hcl, hdi, _⟩ := id P.ex
  refine wpAny_call (codeAny_call_builtin slot_pat_sub.plain entry_pat_sub (slot_pat_sub.check _ _ _ _ _ _ _ _ ⟨o, ho, hcl⟩ (args_pat_sub_3 _ _ _) ?_))
  unfold Builtin.«re.Pattern.sub» Builtin.Re.reSubstitute
  dsimp only
  rw [reNamed_2]
  refine wpAny_bind (wpAny_pure ?_)
  dsimp only
  refine wpAny_bind (wpAny_pure ?_)
  obtain ⟨r, hr⟩ := fn_call
  refine wpAny_bind (wpAny_specialOf (T := "function") ⟨_, hf, rfl⟩ hr ?_)
  have hir : Option.isSome (some r) = true := rfl
  rw [if_pos hir]
  refine wpAny_bind (wpAny_pure ?_)
  rw [if_pos hir]
  refine wpAny_bind (wpAny_pure ?_)
  refine wpAny_bind (wpAny_holding (reWhole_at P fun T _ _ _ _ => ?_))
  dsimp only
  rw [if_pos (by decide)]
  refine wpAny_bind ?_
  unfold Builtin.Re.reNotHeld
  refine wpAny_bind (wpAny_isInstance (T := "str") (b := false) (typeIs_str _ _ _) (by rw [isSubtype_type]; kernel_rfl!) ?_)
  rw [if_neg Bool.false_ne_true]
  refine wpAny_pure ?_
  refine wpAny_bind (wpAny_newList (items := []) (hsz := Nat.zero_le _) ?_)
  refine wpAny_pure ⟨plainId_quiet plain_pat_loop _, codeAny_builtin entry_pat_loop ?_⟩
  rw [Around.under_plainId plain_pat_loop _]
  unfold Builtin.«re.Pattern.sub.loop»
  have hk1 : ∀ b o, s.heap.get? b = some o → (s.heap.push { cls := .type "list", data := .seq #[] }).get? b = some o := fun b o e => Heap.get?_push_of_some _ e
  have P' := P.keeps hk1
  have hL : (s.heap.push { cls := .type "list", data := .seq #[] }).get? s.heap.objs.size = some { cls := .type "list", data := .seq #[] } := Heap.get?_push_size _ rfl
  have z1 := S.grow (h' := s.heap.push { cls := .type "list", data := .seq #[] }) s.toks hk1 (by rw [Heap.size_push]; omega)
  have hnew := S.newAt
  have hne : ∀ b o, s.heap.get? b = some o → b ≠ s.heap.objs.size := fun b o e => Nat.ne_of_lt (Heap.lt_size e)
  have hge := S.size
  generalize s.heap.push { cls := .type "list", data := .seq #[] } = h₁ at *
  generalize s.heap.objs.size = l at *
  dsimp only [rawInt]
  refine wpAny_bind (reWhole_at (s := { s with heap := h₁ }) P' fun T e1 e2 e3 e4 => ?_)
  rw [if_neg (by decide)]
  rw [if_neg (by decide)]
  unfold Builtin.Re.reNextFound
  have e4' : T.lim = t.length := e4
  obtain ⟨a1, a2, a3⟩ := search_none (code := T.code) (text := T.text) (groups := T.groups) (lim := T.lim) (by rw [e1]; exact hs) (by rw [e1, e2, e4']; exact hn)
  refine wpAny_bind (wp_reRun_failed a1 a2 a3 ?_)
  dsimp only
  have hlt : t.length < 1000000 := hl.2
  rw [if_pos (by rw [e4']; exact hl.1)]
  unfold Builtin.Re.reSlice
  rw [e3, e2, if_pos (by decide), if_pos (by decide)]
  have et : (⟨t.cps.extract (Int.toNat 0) T.lim⟩ : Str) = t := by
    rw [e4]
    apply Str.ext'
    simp
  have e0 : (⟨t.cps.extract 0 0⟩ : Str) = "" := by
    apply Str.ext'
    simp
    rfl
  rw [et, e0]
  refine wpAny_bind (wpAny_mkStr ?_ (by rw [sizeLine_eq]; omega))
  have hL2 := Heap.get?_update_self (h := h₁) (a := l) (Obj.mapSeq (·.push (.str t s.toks))) hL rfl
  refine wpAny_bind (wpAny_updateSeq (s := { s with heap := h₁, toks := s.toks + 1 }) hL rfl ?_ (by simp) (by simp))
  refine wpAny_bind (wpAny_mkStr ?_ (by show 0 ≤ _; omega))
  refine wpAny_bind (wpAny_seqItems hL2 rfl ?_)
  rw [if_neg (by simp)]
  refine wpAny_bind ?_
  refine wpAny_mono (CallOK.joinAt (t := t) (s := { s with heap := h₁.update l (Obj.mapSeq (·.push (.str t s.toks))), toks := s.toks + 1 + 1 }) hL2 (by omega) fun t' k => ?_) (fun _ _ z => z) fun _ _ e => e.elim
  refine wpAny_pure (h _ _ ?_)
  have hup : Heap.SameBut l h₁ (h₁.update l (Obj.mapSeq (·.push (.str t s.toks)))) := Heap.SameBut.update ..
  have z := S.grow (h' := h₁.update l (Obj.mapSeq (·.push (.str t s.toks)))) k (fun b o e => (hup.2 b (hne b o e)).trans (hk1 b o e)) (by rw [hup.1]; exact z1.2.size)
  exact ⟨α, z.2, z.1, .str _ _⟩
end
end

section
section
variable {V : Cx} {G : Gm} {loc loc₁ loc₂ : Loc} {st st₁ st₂ st₃ : St} {n : Nat}
theorem GmOK.p_sub {x : Str} {code : Array Nat} (hp : IsPat V x code) : GmOK V (.gl x) "sub" st (.val (.builtin "re.Pattern.sub")) [.gl x] := .mk fun A α s u pl S r => by
  obtain ⟨a, rfl, P⟩ := hp.at S r
  obtain ⟨o, _, _, _, _, _, ho, hcl, hdi, _⟩ := id P.ex
  refine getMethod_builtin ⟨o, ho, hcl⟩ plainAttrs_pat slot_pat_sub type_pat_sub ?_ ⟨rfl, .val _, .cons _ _ _ _ r .nil⟩
  intro b e
  cases e
  exact ⟨o, ho, hdi⟩
theorem EvOK.subLam {x : Str} {pp apos pos lpos : Pos} {la : Arguments} {lb : Expr} {ls : Scope} {e : Expr} {t : Str} {code : Array Nat} (p : Pg V) (lm : Lm V) (hp : IsPat V x code) (hx : EvOK V G (.Name x pp) loc st (.gl x) st) (hcd : G.cd = .ref V.c) (hd : ∀ env, defaultsOf la env = ([], [])) (hcl : ∀ env, closureFor ls env = pure [])
    (hne : notStar e = true) (he : EvOK V G e loc st (.str t) st) (hf : firstSet code = true) (hl : 0 < t.length ∧ t.length < 1000000) (hn : ∀ i seen, i < t.length → ∃ seen', Sre.inSet code (t.cps.getD i 0) code.size 5 true seen = .ok (false, seen'))
    (hbase : ∀ env, attributeBase (.Name x pp) "sub" env (eval (.Name x pp) env) = eval (.Name x pp) env) (hline : (apos.endLine == pos.line) = true) :
    EvOK V G (.Call (.Attribute (.Name x pp) "sub" apos) [.Lambda la lb ls lpos, e] [] pos) loc st (.str t) st := .mk fun A env α s rm S R => by
  rw [arm_eval_Call, hbase]
  refine wpAny_bind (wpAny_mono (hx.out A env α s rm S R) (fun u s₁ hq_ => ?_) fun _ _ e => e)
  obtain ⟨α₁, X₁, S₁, R₁⟩ := hq_
  refine wpAny_bind (wpAny_standAt ?_)
  have hpos : methodCallPos true (.Name x pp) env apos pos = pure pos := by unfold methodCallPos; simp [hline]
  unfold methodCall
  have hall : [Expr.Lambda la lb ls lpos, e].all notStar = true := by rw [List.all_cons, List.all_cons, hne]; rfl
  have hform : methodCallForm ([Expr.Lambda la lb ls lpos, e].length + ([] : List Keyword).length) (backTo pos (starEach [.Lambda la lb ls lpos, e] env)) (backToKw pos (keywordEach [] env)) = true := by
    unfold methodCallForm
    rw [(back_all hall env pos).1]
    rfl
  generalize hq : methodCallForm _ (backTo pos (starEach [.Lambda la lb ls lpos, e] env)) (backToKw pos (keywordEach [] env)) = q
  have hq' : q = true := hq.symm.trans hform
  subst hq'
  refine wpAny_bind (wpAny_holding (wpAny_mono ((GmOK.p_sub hp).out A α₁ s₁ u _ S₁ R₁) (fun q s₂ hq_ => ?_) fun _ _ e => e))
  obtain ⟨e, rf, rfs⟩ := hq_
  subst e
  refine wpAny_bind (wpAny_of_eq hpos ?_)
  obtain ⟨p1, p2⟩ := q
  dsimp only at rf rfs ⊢
  (first | obtain rfl := rf.inv | (obtain ⟨_, rfl⟩ := rf.inv) | (obtain ⟨_, rfl, _⟩ := rf.inv) | cases rf)
  obtain ⟨v, vs, rfl, rv, rvs⟩ := rfs.inv
  obtain rfl := rvs.inv
  refine callWith_builtin (back_all hall env pos).2.1 (evalArgs_gen (back_all hall env pos).1 rfl ?_)
  have R₂ := R.step X₁ S.low.2
  refine wpAny_items_cons (he := starEach_cons rfl) (lambda_raw p lm S₁ (R₂.code.trans hcd) R₂.glob (hd env) (hcl env) fun fa h' tk fd S₃ X₃ hfa hfn hfP => ?_)
  refine wpAny_items_cons (he := starEach_cons hne) (wpAny_mono (he.out A env α₁ _ rm S₃ (R₂.step X₃ S.low.2)) (fun w s₄ ⟨α₄, X₄, S₄, R₄⟩ => wpAny_items_nil (wpAny_evalAll_nil ?_)) fun _ _ e => e)
  obtain ⟨tk4, rfl⟩ := R₄.inv
  obtain ⟨a, rfl, P⟩ := hp.at S₄ (rv.go (X₃.trans X₄))
  have hfa₄ := X₄.kept fa _ hfa (fun h => nomatch h) hfn hfP
  exact call_sub S₄ P hfa₄ hf hl hn fun u s' r => r.trans (X₁.trans (X₃.trans X₄))
end
end

section
structure BoxOk (x q : Str) : Prop where
  len : 0 < x.length ∧ x.length ≤ 2
  nb : ∀ (t c : Nat), x.cps[t]? = some c → c ≠ 93
  first : ∃ c, x.cps[0]? = some c ∧ c ≠ 33 ∧ (⟨#[c]⟩ : Str) ≠ "!" ∧ (⟨#[c]⟩ : Str) ≠ "]" ∧ SeqAt.shaped (.str ⟨#[c]⟩) = true ∧ q = (if ([PyData.str "^", .str "["].any fun y => PyData.eqv y (.str ⟨#[c]⟩)) = true then "[" ++ ("\\" ++ x) ++ "]" else "[" ++ x ++ "]")
  dash : Txt.contains x "-" = false
  bs : (Builtin.Str.occurrences x "\\" 0 x.length (x.length + 1)).isEmpty = true
  tw : ∀ i seen, i < x.length → ∃ seen', Sre.inSet codeT (x.cps.getD i 0) codeT.size 5 true seen = .ok (false, seen')
  ne : x ≠ "!"
noncomputable abbrev trL (pat : Str) (k r i : Nat) : Loc := [("pat", .str pat), ("STAR", .obj k), ("QUESTION_MARK", .str "."), ("res", .obj r), ("add", .app r), ("i", .int i), ("n", .int (pat.length : Nat))]
noncomputable abbrev trBody : List Stmt := fBody (pBody top 13) 3
noncomputable abbrev trTest : Expr := fTest (pBody top 13) 3

structure Tr (V : Cx) (f : Int → Option Value) : Prop where
  gb : Gb V
  es : D_escape V
  tab : IsTab V "_special_chars_map" f
  tw : IsPat V "_twin_re_1" codeT
  lm : Lm V
section
variable {V : Cx} {G : Gm} {loc loc₁ loc₂ : Loc} {st st₁ st₂ st₃ : St} {n : Nat}
theorem tr_test {m : Nat} {pat : Str} {k i : Nat} {S0 : St} : TsOK V ⟨m, (pScope top 13).names, .ref V.c⟩ trTest (trL pat k st.length i) S0 (decide ((i : Int) < (pat.length : Nat))) S0 := by
  show TsOK _ _ (Expr.Compare _ _ _ _) _ _ _ _
  tm_at "go"

theorem tr_read {m : Nat} {pat : Str} {k i c : Nat} {S0 S1 : St} {out : Out} {loc' : Loc} (gb : Gb V) (hi : i < 1000) (hc : pat.cps[i]? = some c) 
    (h : ExOK V ⟨m, (pScope top 13).names, .ref V.c⟩ [trBody[2]?.getD default] (setL "i" (.int ((i + 1 : Nat) : Int)) (setL "c" (.str ⟨#[c]⟩) (trL pat k st.length i))) S0 out loc' S1) :
    ExOK V ⟨m, (pScope top 13).names, .ref V.c⟩ trBody (trL pat k st.length i) S0 out loc' S1 := by
  show ExOK _ _ (_ :: _ :: _ :: _) _ _ _ _ _
  apply ExOK.asgL
  · kernel_rfl!
  · apply EvOK.sub
    · tm_at "go"
    · tm_at "go"
    · exact at_str hi hc
    · rfl
  · exact fun _ => rfl
  · apply ExOK.asgL
    · kernel_rfl!
    · tm_at "go"
    · exact fun _ => rfl
    · rw [show ((i : Int) + 1) = ((i + 1 : Nat) : Int) by omega]
      exact h
theorem EvOK.add {e : Expr} {p pos} {r : Nat} {xs : List SV} {v : SV} (ha : EvOK V G (.Name "add" p) loc (st ++ [xs]) (.app r) (st ++ [xs])) (he : EvOK V G e loc (st ++ [xs]) v (st ++ [xs])) (hr : r = st.length) (hs : notStar e = true) (hz : xs.length ≤ 10000) : EvOK V G (.Call (.Name "add" p) [e] [] pos) loc (st ++ [xs]) .none (st ++ [xs ++ [v]]) := by
  subst hr
  have hZ : sizeLine = 16777216 := rfl
  have q := CwOK.app (V := V) (G := G) (loc := loc) (e := e) (i := st.length) (xs := xs) (v := v) (st := st ++ [xs]) (st₁ := st ++ [xs]) hs he obj_at (by omega)
  rw [obj_set] at q
  exact EvOK.call ha q

theorem tr_sign {pat : Str} {k i c : Nat} {f : Int → Option Value} {parts : List SV} (tr : Tr V f) (hi : i < 1000) (hc : pat.cps[i]? = some c) (h128 : c < 128) (hf : f (c : Int) = none ∨ ∃ y tk, f (c : Int) = some (.str y tk) ∧ y.length = 2)
    (h1 : (⟨#[c]⟩ : Str) ≠ "*") (h2 : (⟨#[c]⟩ : Str) ≠ "?") (h3 : (⟨#[c]⟩ : Str) ≠ "[") (hz : parts.length ≤ 10000) :
    ∃ loc', ExOK V ⟨n + 1, (pScope top 13).names, .ref V.c⟩ trBody (trL pat k st.length i) (st ++ [parts]) .next loc' (st ++ [parts ++ [.str (esc f c)]]) ∧ LSub loc' (trL pat k st.length (i + 1)) := by
  have gb := tr.gb
  refine ⟨setL "i" (.int ((i + 1 : Nat) : Int)) (setL "c" (.str ⟨#[c]⟩) (trL pat k st.length i)), tr_read gb hi hc ?_, by tm_at "ls"⟩
  show ExOK _ _ (_ :: _) _ _ _ _ _
  apply ExOK.if_f
  · tm_at "go"
  · simpa using h1
  · apply ExOK.if_f
    · tm_at "go"
    · simpa using h2
    · apply ExOK.if_f
      · tm_at "go"
      · simpa using h3
      · apply ExOK.expr'
        · apply EvOK.add
          · tm_at "go"
          · apply EvOK.call
            · exact EvOK.gf gb.pg tr.es (by kernel_rfl) (by kernel_rfl)
            · apply CwOK.gf0 tr.es
              · rfl
              · tm_at "go"
              · exact escape_ok gb tr.es tr.tab h128 hf
          · rfl
          · rfl
          · exact hz
        · exact NoRef.none
        · exact fun _ => rfl
        · exact .nil
      · exact .nil
    · exact .nil
  · exact .nil

theorem tr_star {pat : Str} {k i : Nat} {f : Int → Option Value} {parts : List SV} {p : Str} (tr : Tr V f) (hi : i < 1000) (hc : pat.cps[i]? = some 42) (hz : parts.length ≤ 9999) :
    ∃ loc', ExOK V ⟨n + 1, (pScope top 13).names, .ref V.c⟩ trBody (trL pat k st.length i) (st ++ [parts ++ [.str p]]) .next loc' (st ++ [parts ++ [.str p] ++ [.obj k]]) ∧ LSub loc' (trL pat k st.length (i + 1)) := by
  have gb := tr.gb
  refine ⟨setL "i" (.int ((i + 1 : Nat) : Int)) (setL "c" (.str ⟨#[42]⟩) (trL pat k st.length i)), tr_read gb hi hc ?_, by tm_at "ls"⟩
  show ExOK _ _ (_ :: _) _ _ _ _ _
  apply ExOK.if_t
  · tm_at "go"
  · decide +kernel
  · refine ExOK.if_t (r := true) (st₁ := st ++ [parts ++ [.str p]]) (st₂ := st ++ [parts ++ [.str p] ++ [.obj k]]) (loc₁ := setL "i" (.int ((i + 1 : Nat) : Int)) (setL "c" (.str ⟨#[42]⟩) (trL pat k st.length i))) ?_ rfl ?_ .nil
    · show TsOK _ _ (Expr.BoolOp _ [_, _] _) _ _ _ _
      refine TsOK.or2 (b := false) (c := true) ?_ fun _ => ?_
      · have e : (!(!(parts ++ [SV.str p]).isEmpty)) = false := by simp
        rw [← e]
        apply TsOK.not
        apply TsOK.name
        · tm_at "go"
        · exact Tru.lst obj_at (by simp; omega)
      · apply TsOK.cmp
        · apply EvOK.sub
          · tm_at "go"
          · tm_at "go"
          · refine Sub.lstNeg (v := .str p) (xs := parts ++ [.str p]) obj_at (by omega) (by simp; omega) (by omega) ?_
            have e4 : (parts ++ [SV.str p]).length = parts.length + 1 := by simp
            rw [e4, show ((-1 : Int) + ((parts.length + 1 : Nat) : Int)).toNat = parts.length by omega]
            simp
          · rfl
        · tm_at "go"
        · exact Cmp.isNotStrObj
        · rfl
    · show ExOK _ _ (_ :: _) _ _ _ _ _
      apply ExOK.expr'
      · apply EvOK.add
        · tm_at "go"
        · tm_at "go"
        · rfl
        · rfl
        · simp; omega
      · exact NoRef.none
      · exact fun _ => rfl
      · exact .nil
  · exact .nil
end
end

section
noncomputable abbrev jL (pat : Str) (k r i j : Nat) : Loc := [("pat", .str pat), ("STAR", .obj k), ("QUESTION_MARK", .str "."), ("res", .obj r), ("add", .app r), ("i", .int i), ("n", .int (pat.length : Nat)), ("j", .int (j : Nat))]
noncomputable abbrev sL (pat : Str) (k r i : Nat) (x : Str) : Loc := [("pat", .str pat), ("STAR", .obj k), ("QUESTION_MARK", .str "."), ("res", .obj r), ("add", .app r), ("i", .int i), ("n", .int (pat.length : Nat)), ("stuff", .str x)]
theorem LSub.trans {l l' : Loc} (h : LSub l l') : ∀ {l'' : Loc}, LSub l' l'' → LSub l l''
  | _, .nil => .nil
  | _, .cons e r => .cons (h.look e) (h.trans r)
theorem TsOK.sub' {V : Cx} {G : Gm} {e : Expr} {l l' : Loc} {b : Bool} {st st₁ : St} (h : LSub l l') (x : TsOK V G e l' st b st₁) : TsOK V G e l st b st₁ := Box.mk fun A env α s rm S R => x.out A env α s rm S (R.sub h)
noncomputable abbrev boxSt : List Stmt := fBody (fElse (fElse [trBody[2]?.getD default] 0) 0) 0
section
variable {V : Cx} {G : Gm} {loc loc₁ loc₂ : Loc} {st st₁ st₂ st₃ : St} {n : Nat}
theorem box_while {m : Nat} {pat : Str} {k r i : Nat} {S0 : St} (gb : Gb V) (hp : pat.length ≤ 900) : ∀ (t j : Nat), (∀ u, u < t → ∃ c, pat.cps[j + u]? = some c ∧ (⟨#[c]⟩ : Str) ≠ "]") → pat.cps[j + t]? = some 93 →
    WhOK V ⟨m, (pScope top 13).names, .ref V.c⟩ (fTest boxSt 3) (fBody boxSt 3) (jL pat k r i j) S0 .next (jL pat k r i (j + t)) S0 := by
  have test : ∀ (j c : Nat), pat.cps[j]? = some c → TsOK V ⟨m, (pScope top 13).names, .ref V.c⟩ (fTest boxSt 3) (jL pat k r i j) S0 (decide ((j : Int) < (pat.length : Nat)) && ((⟨#[c]⟩ : Str) != "]")) S0 := by
    intro j c hc
    have hj : j < pat.length := (Array.getElem?_eq_some_iff.mp hc).1
    show TsOK _ _ (Expr.BoolOp _ [_, _] _) _ _ _ _
    apply TsOK.and2
    · tm_at "go"
    · intro _
      apply TsOK.cmp
      · apply EvOK.sub
        · tm_at "go"
        · tm_at "go"
        · exact at_str (by omega) hc
        · rfl
      · tm_at "go"
      · exact Cmp.neStr
      · rfl
  intro t
  induction t with
  | zero =>
    intro j _ he
    have ht := test j 93 he
    have e : ((⟨#[93]⟩ : Str) != "]") = false := by decide +kernel
    rw [e, Bool.and_false] at ht
    exact WhOK.stop ht
  | succ t ih =>
    intro j hu he
    obtain ⟨c, hc, hne⟩ := hu 0 (by omega)
    rw [Nat.add_zero] at hc
    have hj : j < pat.length := (Array.getElem?_eq_some_iff.mp hc).1
    have ht := test j c hc
    have e : (decide ((j : Int) < (pat.length : Nat)) && ((⟨#[c]⟩ : Str) != "]")) = true := by
      rw [Bool.and_eq_true]
      exact ⟨by simpa using hj, by simpa using hne⟩
    rw [e] at ht
    have ih' := ih (j + 1) (fun u hu' => by
      have := hu (u + 1) (by omega)
      rwa [show j + (u + 1) = j + 1 + u by omega] at this) (by rwa [show j + (t + 1) = j + 1 + t by omega] at he)
    rw [show j + (t + 1) = j + 1 + t by omega]
    refine WhOK.turn (o := .next) (loc₁ := setL "j" (.int ((j + 1 : Nat) : Int)) (jL pat k r i j)) ht ?_ rfl (WhOK.sub (by tm_at "ls") ih')
    show ExOK _ _ (_ :: _) _ _ _ _ _
    rw [show ((j + 1 : Nat) : Int) = (j : Int) + 1 by omega]
    apply ExOK.asgL
    · kernel_rfl!
    · tm_at "go"
    · exact fun _ => rfl
    · exact .nil

theorem box_rest {pat : Str} {k i j : Nat} {f : Int → Option Value} {parts : List SV} {x q : Str} (tr : Tr V f) (hp : pat.length ≤ 900) (hj : j < pat.length) (hs : Txt.slice pat (some (i : Int)) (some (j : Int)) = x) (hx : BoxOk x q) (hz : parts.length ≤ 10000) :
    ∃ loc', ExOK V ⟨n + 1, (pScope top 13).names, .ref V.c⟩ [boxSt[4]?.getD default] (jL pat k st.length i j) (st ++ [parts]) .next loc' (st ++ [parts ++ [.str q]]) ∧ LSub loc' (trL pat k st.length (j + 1)) := by
  have gb := tr.gb
  have hZ : sizeLine = 16777216 := rfl
  obtain ⟨h0, h2⟩ := hx.len
  obtain ⟨c, hc, hc33, hce, hcb, hsh, hq⟩ := hx.first
  have la : ∀ x y : Str, (x ++ y).length = x.length + y.length := fun x y => Str.length_append ..
  have eb : ("[" : Str).length = 1 := by decide +kernel
  have ec : ("]" : Str).length = 1 := by decide +kernel
  have ed : ("\\" : Str).length = 1 := by decide +kernel
  have last : ∀ (y : Str) (l : Loc), l.lookup ("stuff" : Str) = some (.str y) → l.lookup ("add" : Str) = some (.app st.length) → y.length ≤ 3 →
      ExOK V ⟨n + 1, (pScope top 13).names, .ref V.c⟩ [(fElse (fElse (fElse [boxSt[4]?.getD default] 0) 4) 0)[1]?.getD default] l (st ++ [parts]) .next l (st ++ [parts ++ [.str ("[" ++ y ++ "]")]]) := by
    intro y l h1 h2 h3
    show ExOK _ _ (_ :: _) _ _ _ _ _
    apply ExOK.expr'
    · apply EvOK.add
      · exact EvOK.lclA (by kernel_rfl) (by kernel_rfl) h2
      · refine EvOK.fstr (x := y) (y := y) ?_ ?_
        · exact EvOK.lclA (by kernel_rfl) (by kernel_rfl) h1
        · omega
      · rfl
      · rfl
      · exact hz
    · exact NoRef.none
    · exact fun _ => rfl
    · exact .nil
  have hl0 : ((x.length : Int) != 0) = true := by simp; omega
  let L : Loc := setL "i" (.int ((j + 1 : Nat) : Int)) (setL "stuff" (.str x) (setL "stuff" (.str x) (setL "stuff" (.str x) (jL pat k st.length i j))))
  have hL : LSub L (sL pat k st.length (j + 1) x) := by tm_at "ls"
  obtain ⟨y, loc2, hy, hl2, hqy, hyl⟩ : ∃ (y : Str) (loc2 : Loc), StOK V ⟨n + 1, (pScope top 13).names, .ref V.c⟩ ((fElse (fElse (fElse [boxSt[4]?.getD default] 0) 4) 0)[0]?.getD default) (sL pat k st.length (j + 1) x) (st ++ [parts]) .next loc2 (st ++ [parts]) ∧ LSub loc2 (sL pat k st.length (j + 1) y) ∧ q = "[" ++ y ++ "]" ∧ y.length ≤ 3 := by
    have t0 : TsOK V ⟨n + 1, (pScope top 13).names, .ref V.c⟩ (fTest [(fElse (fElse (fElse [boxSt[4]?.getD default] 0) 4) 0)[0]?.getD default] 0) (sL pat k st.length (j + 1) x) (st ++ [parts]) ((⟨#[c]⟩ : Str) == "!") (st ++ [parts]) := by
      show TsOK _ _ (Expr.Compare _ _ _ _) _ _ _ _
      apply TsOK.cmp
      · apply EvOK.sub
        · tm_at "go"
        · tm_at "go"
        · exact at_str (i := 0) (by omega) hc
        · rfl
      · tm_at "go"
      · exact Cmp.eqStr
      · rfl
    have t1 : TsOK V ⟨n + 1, (pScope top 13).names, .ref V.c⟩ (fTest (fElse [(fElse (fElse (fElse [boxSt[4]?.getD default] 0) 4) 0)[0]?.getD default] 0) 0) (sL pat k st.length (j + 1) x) (st ++ [parts]) ([PyData.str "^", .str "["].any fun y => PyData.eqv y (.str ⟨#[c]⟩)) (st ++ [parts]) := by
      show TsOK _ _ (Expr.Compare _ _ _ _) _ _ _ _
      apply TsOK.cmp
      · apply EvOK.sub
        · tm_at "go"
        · tm_at "go"
        · exact at_str (i := 0) (by omega) hc
        · rfl
      · tm_at "go"
      · exact Cmp.inD (ds := [PyData.str "^", .str "["]) (.str _) (.inr (.tup _ _ (.cons _ _ _ _ (.str _) (.cons _ _ _ _ (.str _) .nil)))) (by decide +kernel) hsh
      · rfl
    cases hb : ([PyData.str "^", .str "["].any fun y => PyData.eqv y (.str ⟨#[c]⟩)) with
    | true =>
      rw [hb] at t1 hq
      refine ⟨"\\" ++ x, setL "stuff" (.str ("\\" ++ x)) (sL pat k st.length (j + 1) x), ?_, by tm_at "ls", hq, by rw [la]; omega⟩
      show StOK _ _ (Stmt.If _ _ _ _) _ _ _ _ _
      refine StOK.if_f t0 (by simpa using hce) (ExOK.if_t t1 rfl ?_ .nil)
      tm_at "go"
      omega
    | false =>
      rw [hb] at t1 hq
      refine ⟨x, sL pat k st.length (j + 1) x, ?_, by tm_at "ls", hq, by omega⟩
      show StOK _ _ (Stmt.If _ _ _ _) _ _ _ _ _
      exact StOK.if_f t0 (by simpa using hce) (ExOK.if_f t1 rfl .nil .nil)
  subst hqy
  refine ⟨loc2, ?_, hl2.trans (by tm_at "ls")⟩
  show ExOK _ _ (_ :: _) _ _ _ _ _
  refine ExOK.if_f (r := false) (st₁ := st ++ [parts]) ?_ rfl ?_ .nil
  · have e : decide ((pat.length : Int) ≤ (j : Int)) = false := by simpa using hj
    rw [← e]
    show TsOK _ _ (Expr.Compare _ _ _ _) _ _ _ _
    tm_at "go"
  show ExOK _ _ (_ :: _) _ _ _ _ _
  refine ExOK.asgL (v := .str x) (st₁ := st ++ [parts]) (by kernel_rfl) ?_ (fun _ => rfl) ?_
  · rw [← hs]
    show EvOK _ _ (Expr.Subscript _ (Expr.Slice _ _ _ _) _) _ _ _ _
    tm_at "go"
    omega
  refine ExOK.if_t (r := true) (st₁ := st ++ [parts]) (st₂ := st ++ [parts]) (loc₁ := setL "stuff" (.str x) (setL "stuff" (.str x) (jL pat k st.length i j))) ?_ rfl ?_ ?_
  · have e : (!Txt.contains x "-") = true := by rw [hx.dash]; rfl
    rw [← e]
    show TsOK _ _ (Expr.Compare _ _ _ _) _ _ _ _
    tm_at "go"
  · show ExOK _ _ (_ :: _) _ _ _ _ _
    refine ExOK.asgL (v := .str x) (st₁ := st ++ [parts]) (by kernel_rfl) ?_ (fun _ => rfl) .nil
    apply EvOK.meth
    · tm_at "go"
    · exact GmOK.s_replace
    · apply CwOK.bi1
      · rfl
      · tm_at "go"
      · exact CallOK.replaceNone hx.bs
    · exact fun _ => rfl
    · rfl
    · rfl
    · rfl
    · rfl
  refine ExOK.asgL (v := .str x) (st₁ := st ++ [parts]) (by kernel_rfl) ?_ (fun _ => rfl) ?_
  · refine EvOK.subLam gb.pg tr.lm tr.tw (EvOK.glPat gb.pg tr.tw (by kernel_rfl) (by kernel_rfl)) rfl (fun _ => rfl) (fun _ => rfl) rfl ?_ first_codes.2.2 ⟨h0, by omega⟩ hx.tw (fun _ => rfl) rfl
    tm_at "go"
  refine ExOK.asgL (v := .int ((j : Int) + 1)) (st₁ := st ++ [parts]) (by kernel_rfl) ?_ (fun _ => rfl) ?_
  · tm_at "go"
  rw [show ((j : Int) + 1) = ((j + 1 : Nat) : Int) by omega]
  refine ExOK.if_f (r := false) (st₁ := st ++ [parts]) ?_ rfl ?_ .nil
  · have e : (!((x.length : Int) != 0)) = false := by rw [hl0]; rfl
    rw [← e]
    show TsOK _ _ (Expr.UnaryOp _ _ _) _ _ _ _
    tm_at "go"
    omega
  show ExOK _ _ (_ :: _) _ _ _ _ _
  refine ExOK.if_f (r := x == "!") (st₁ := st ++ [parts]) ?_ (by simpa using hx.ne) ?_ .nil
  · tm_at "go"
  refine ExOK.sub (l' := sL pat k st.length (j + 1) x) (by tm_at "ls") ?_
  refine ExOK.cons hy ?_
  exact last y loc2 (hl2.look (by tm_at "lk")) (hl2.look (by tm_at "lk")) hyl
end
end

section
inductive Atom where
  | sign (c : Nat)
  | box (x q : Str)
noncomputable def Atom.txt : Atom → List Nat
  | .sign c => [c]
  | .box x _ => 91 :: (x.cps.toList ++ [93])
noncomputable def Atom.part (f : Int → Option Value) : Atom → Str
  | .sign c => esc f c
  | .box _ q => q
noncomputable def AtomOk (f : Int → Option Value) : Atom → Prop
  | .sign c => c < 128 ∧ (f (c : Int) = none ∨ ∃ y tk, f (c : Int) = some (.str y tk) ∧ y.length = 2) ∧ (⟨#[c]⟩ : Str) ≠ "*" ∧ (⟨#[c]⟩ : Str) ≠ "?" ∧ (⟨#[c]⟩ : Str) ≠ "["
  | .box x q => BoxOk x q

theorem slice_nat (x : Str) (lo hi : Option Nat) : Txt.slice x (Option.map (fun (a : Nat) => (a : Int)) lo) (Option.map (fun (a : Nat) => (a : Int)) hi) = ⟨((x.cps.toList.drop (lo.getD 0)).take (hi.getD x.length - lo.getD 0)).toArray⟩ := by
  have hx : x.cps.toList.length = x.length := by simp; rfl
  have e : Builtin.Str.strSliceIndices (Option.map (fun (a : Nat) => (a : Int)) lo) (Option.map (fun (a : Nat) => (a : Int)) hi) 1 x.length = (List.range (min (hi.getD x.length) x.length - min (lo.getD 0) x.length)).map (min (lo.getD 0) x.length + ·) := by
    have clip : ∀ (a : Nat), (max 0 (min (if (a : Int) < 0 then (a : Int) + (x.length : Nat) else a) (x.length : Nat)) : Int) = ((min a x.length : Nat) : Int) := fun a => by
      rw [if_neg (by omega)]; omega
    rw [← sliceRange_one]
    unfold Builtin.Str.strSliceIndices
    cases lo with
    | none =>
      cases hi with
      | none =>
        show sliceRange 0 (x.length : Nat) 1 = sliceRange ((min 0 x.length : Nat) : Int) ((min x.length x.length : Nat) : Int) 1
        rw [Nat.min_self, Nat.zero_min]; rfl
      | some b =>
        show sliceRange 0 (max 0 (min (if (b : Int) < 0 then (b : Int) + (x.length : Nat) else b) (x.length : Nat))) 1 = sliceRange ((min 0 x.length : Nat) : Int) ((min b x.length : Nat) : Int) 1
        rw [clip, Nat.zero_min]; rfl
    | some a =>
      cases hi with
      | none =>
        show sliceRange (max 0 (min (if (a : Int) < 0 then (a : Int) + (x.length : Nat) else a) (x.length : Nat))) (x.length : Nat) 1 = sliceRange ((min a x.length : Nat) : Int) ((min x.length x.length : Nat) : Int) 1
        rw [clip, Nat.min_self]
      | some b =>
        show sliceRange (max 0 (min (if (a : Int) < 0 then (a : Int) + (x.length : Nat) else a) (x.length : Nat))) (max 0 (min (if (b : Int) < 0 then (b : Int) + (x.length : Nat) else b) (x.length : Nat))) 1 = sliceRange ((min a x.length : Nat) : Int) ((min b x.length : Nat) : Int) 1
        rw [clip, clip]
  have key : ((List.range (min (hi.getD x.length) x.length - min (lo.getD 0) x.length)).map (min (lo.getD 0) x.length + ·)).filterMap (x.cps[·]?) = (x.cps.toList.drop (lo.getD 0)).take (hi.getD x.length - lo.getD 0) := by
    rw [pick_run]
    by_cases ha : lo.getD 0 ≤ x.length
    · rw [Nat.min_eq_left ha]
      by_cases hb : hi.getD x.length ≤ x.length
      · rw [Nat.min_eq_left hb]
      · rw [Nat.min_eq_right (by omega), List.take_of_length_le (by rw [List.length_drop, hx]; omega), List.take_of_length_le (by rw [List.length_drop, hx]; omega)]
    · rw [List.drop_eq_nil_of_le (by rw [hx]; omega), List.drop_eq_nil_of_le (by rw [hx]; omega)]
      simp
  unfold Txt.slice
  rw [e, key]
  split
  · rename_i hq
    simp only [List.length_map, List.length_range, Bool.and_eq_true, beq_iff_eq] at hq
    have hq2 := hq.2
    apply Str.ext'
    apply Array.ext'
    show x.cps.toList = (x.cps.toList.drop (lo.getD 0)).take (hi.getD x.length - lo.getD 0)
    by_cases h0 : x.length = 0
    · have : x.cps.toList = [] := List.eq_nil_of_length_eq_zero (by rw [hx]; exact h0)
      rw [this]; simp
    · have h1 : lo.getD 0 = 0 := by omega
      rw [h1, List.drop_zero, List.take_of_length_le (by rw [hx]; omega)]
  · rfl
theorem slice_mid {x : Str} {l1 l2 l3 : List Nat} (h : x.cps.toList = l1 ++ l2 ++ l3) : Txt.slice x (some (l1.length : Int)) (some ((l1.length + l2.length : Nat) : Int)) = ⟨l2.toArray⟩ := by
  have := slice_nat x (some l1.length) (some (l1.length + l2.length))
  refine Eq.trans this ?_
  simp only [Option.getD_some]
  rw [h, List.append_assoc, List.drop_append_of_le_length (Nat.le_refl _), List.drop_length, List.nil_append, show l1.length + l2.length - l1.length = l2.length by omega, List.take_left]
theorem at_mid {x : Str} {l1 l2 l3 : List Nat} (h : x.cps.toList = l1 ++ l2 ++ l3) {t : Nat} (ht : t < l2.length) : x.cps[l1.length + t]? = l2[t]? := by
  rw [← Array.getElem?_toList, h, List.append_assoc, List.getElem?_append_right (by omega), show l1.length + t - l1.length = t by omega, List.getElem?_append_left ht]
section
variable {V : Cx} {G : Gm} {loc loc₁ loc₂ : Loc} {st st₁ st₂ st₃ : St} {n : Nat}
theorem tr_box {pat : Str} {k : Nat} {f : Int → Option Value} {parts : List SV} {x q : Str} {pre post : List Nat} (tr : Tr V f) (hp : pat.length ≤ 900) (h : pat.cps.toList = pre ++ (91 :: (x.cps.toList ++ [93])) ++ post) (hx : BoxOk x q) (hz : parts.length ≤ 10000) :
    ∃ loc', ExOK V ⟨n + 1, (pScope top 13).names, .ref V.c⟩ trBody (trL pat k st.length pre.length) (st ++ [parts]) .next loc' (st ++ [parts ++ [.str q]]) ∧ LSub loc' (trL pat k st.length (pre.length + x.length + 2)) := by
  have gb := tr.gb
  obtain ⟨h0, h2⟩ := hx.len
  obtain ⟨c, hc, hc33, hce, hcb, hsh, hq⟩ := hx.first
  have hxl : x.cps.toList.length = x.length := by simp; rfl
  have hlen : pat.length = pre.length + (x.length + 2) + post.length := by
    have : pat.cps.toList.length = pat.length := by simp; rfl
    rw [← this, h]
    simp
    have : x.cps.size = x.length := rfl
    omega
  have hl2 : (91 :: (x.cps.toList ++ [93])).length = x.length + 2 := by simp; rfl
  have hat : ∀ t, t < x.length + 2 → pat.cps[pre.length + t]? = (91 :: (x.cps.toList ++ [93]))[t]? := fun t ht => at_mid h (by rw [hl2]; exact ht)
  have c0 : pat.cps[pre.length]? = some 91 := by have := hat 0 (by omega); simpa using this
  have cx : ∀ t, t < x.length → pat.cps[pre.length + 1 + t]? = x.cps[t]? := fun t ht => by
    have := hat (t + 1) (by omega)
    rw [show pre.length + 1 + t = pre.length + (t + 1) by omega, this]
    rw [List.getElem?_cons_succ, List.getElem?_append_left (by rw [hxl]; exact ht), Array.getElem?_toList]
  have ce : pat.cps[pre.length + 1 + x.length]? = some 93 := by
    have := hat (x.length + 1) (by omega)
    rw [show pre.length + 1 + x.length = pre.length + (x.length + 1) by omega, this]
    rw [List.getElem?_cons_succ, List.getElem?_append_right (by rw [hxl]; exact Nat.le_refl _), hxl, Nat.sub_self]; rfl
  have hsl : Txt.slice pat (some ((pre.length + 1 : Nat) : Int)) (some ((pre.length + 1 + x.length : Nat) : Int)) = x := by
    have h' : pat.cps.toList = (pre ++ [91]) ++ x.cps.toList ++ ([93] ++ post) := by rw [h]; simp
    have := slice_mid h'
    rw [show (pre ++ [91] : List Nat).length = pre.length + 1 by simp, hxl] at this
    rw [this]
  have c1 : pat.cps[pre.length + 1]? = some c := by have := cx 0 h0; rw [Nat.add_zero] at this; rw [this]; exact hc
  obtain ⟨loc', hr, hls⟩ := box_rest (n := n) (st := st) (k := k) (i := pre.length + 1) (j := pre.length + 1 + x.length) (parts := parts) tr hp (by omega) hsl hx hz
  have hw := box_while (V := V) (m := n + 1) (pat := pat) (k := k) (r := st.length) (i := pre.length + 1) (S0 := st ++ [parts]) gb hp x.length (pre.length + 1) (fun u hu => by
    have hu' := cx u hu
    obtain ⟨d, hd⟩ : ∃ d, x.cps[u]? = some d := ⟨x.cps[u]'hu, Array.getElem?_eq_getElem hu⟩
    refine ⟨d, hu'.trans hd, fun e => hx.nb u d hd ?_⟩
    have e93 : ("]" : Str) = ⟨#[93]⟩ := by decide +kernel
    rw [e93] at e
    have := congrArg Str.cps e
    have : (#[d] : Array Nat) = #[93] := this
    simpa using this) ce
  refine ⟨loc', tr_read gb (by omega) c0 ?_, by rw [show pre.length + x.length + 2 = pre.length + 1 + x.length + 1 by omega]; exact hls⟩
  show ExOK _ _ (_ :: _) _ _ _ _ _
  refine ExOK.if_f (r := (⟨#[91]⟩ : Str) == "*") (st₁ := st ++ [parts]) (loc₁ := loc') (st₂ := st ++ [parts ++ [.str q]]) ?_ (by decide +kernel) ?_ .nil
  · tm_at "go"
  show ExOK _ _ (_ :: _) _ _ _ _ _
  refine ExOK.if_f (r := (⟨#[91]⟩ : Str) == "?") (st₁ := st ++ [parts]) (loc₁ := loc') (st₂ := st ++ [parts ++ [.str q]]) ?_ (by decide +kernel) ?_ .nil
  · tm_at "go"
  show ExOK _ _ (_ :: _) _ _ _ _ _
  refine ExOK.if_t (r := (⟨#[91]⟩ : Str) == "[") (st₁ := st ++ [parts]) (loc₁ := loc') (st₂ := st ++ [parts ++ [.str q]]) ?_ (by decide +kernel) ?_ .nil
  · tm_at "go"
  show ExOK _ _ (_ :: _) _ _ _ _ _
  refine ExOK.asgL (v := .int ((pre.length + 1 : Nat) : Int)) (st₁ := st ++ [parts]) (by kernel_rfl) ?_ (fun _ => rfl) ?_
  · tm_at "go"
  refine ExOK.sub (l' := jL pat k st.length (pre.length + 1) (pre.length + 1)) (by tm_at "ls") ?_
  refine ExOK.if_no (r := decide (((pre.length + 1 : Nat) : Int) < (pat.length : Nat)) && ((⟨#[c]⟩ : Str) == "!")) (st₁ := st ++ [parts]) ?_ ?_ ?_
  · apply TsOK.and2
    · tm_at "go"
    · intro _
      apply TsOK.cmp
      · apply EvOK.sub
        · tm_at "go"
        · tm_at "go"
        · exact at_str (by omega) c1
        · rfl
      · tm_at "go"
      · exact Cmp.eqStr
      · rfl
  · rw [Bool.and_eq_false_iff]; right; simpa using hce
  refine ExOK.if_no (r := decide (((pre.length + 1 : Nat) : Int) < (pat.length : Nat)) && ((⟨#[c]⟩ : Str) == "]")) (st₁ := st ++ [parts]) ?_ ?_ ?_
  · apply TsOK.and2
    · tm_at "go"
    · intro _
      apply TsOK.cmp
      · apply EvOK.sub
        · tm_at "go"
        · tm_at "go"
        · exact at_str (by omega) c1
        · rfl
      · tm_at "go"
      · exact Cmp.eqStr
      · rfl
  · rw [Bool.and_eq_false_iff]; right; simpa using hcb
  exact ExOK.while' hw hr
end
end

section
noncomputable def IsDefC (V : Cx) (x : Str) (names : List Str) (body : List Stmt) (scope : Scope) : Prop :=
  ∃ a fd o, V.mg x = some (.ref a) ∧ FnAt V fd a o ∧ fd.code = .ref V.c ∧ V.c ≠ V.P ∧ fd.body = .stmts body ∧ fd.scope = scope ∧ ∀ us : List Value, us.length = names.length → bindArgs fd ⟨us, []⟩ = pure (names.zip us)
noncomputable abbrev D_translate (V : Cx) := IsDefC V "_translate" ["pat", "STAR", "QUESTION_MARK"] (pBody top 13) (pScope top 13)
section
variable {V : Cx} {G : Gm} {loc loc₁ loc₂ : Loc} {st st₁ st₂ st₃ : St} {n : Nat}
theorem CallOK.gfC {x : Str} {names : List Str} {body : List Stmt} {scope : Scope} {args : List SV} {out : Out} {ext : St} {v r : SV} (p : Pg V) (hd : IsDefC V x names body scope) (hl : args.length = names.length)
    (hk : (names.all fun y => scope.names.lookup y == some .local || scope.names.lookup y == some .cell) = true) (hnd : names.Nodup) (hsn : (scope.names.map (·.1)).Nodup)
    (hrun : ExOK V ⟨n, scope.names, .ref V.c⟩ body (names.zip args) st out [] (st ++ ext)) (hout : r = out.val)
    (hfz : Fz st.length (st ++ ext) r v) : CallOK V (n + 1) (.gl x) args [] st v st := by
  obtain ⟨a, fd, o, hm, Fa, hc, hcP, hb, hs, hbind⟩ := hd
  subst hs
  have hmap : (names.zip args).map (·.1) = names := List.map_fst_zip (Nat.le_of_eq hl.symm)
  refine CallOK.def (loc := names.zip args) p (IsFn.gl hm) Fa (fun c e => by rw [hc] at e; cases e; exact hcP) hb (.mk fun A α s us ks S hr hkw => ?_) (fun y hy => ?_) (by rw [hmap]; exact hnd) hsn (by rw [hc]; exact hrun) hout rfl (fun i xs h e => h i xs e) hfz
  · (first | obtain rfl := hkw.inv | (obtain ⟨_, rfl⟩ := hkw.inv) | (obtain ⟨_, rfl, _⟩ := hkw.inv) | cases hkw)
    refine wpAny_of_eq (hbind us (by rw [hr.length, hl])) ⟨.refl, S, zip_breps hr⟩
  · rw [hmap] at hy
    have := List.all_eq_true.mp hk y hy
    rw [Bool.or_eq_true, beq_iff_eq, beq_iff_eq] at this
    exact this
theorem tr_atom {pat : Str} {k : Nat} {f : Int → Option Value} {parts : List SV} {a : Atom} {pre post : List Nat} (tr : Tr V f) (hp : pat.length ≤ 900) (h : pat.cps.toList = pre ++ a.txt ++ post) (ha : AtomOk f a) (hz : parts.length ≤ 10000) :
    ∃ loc', ExOK V ⟨n + 1, (pScope top 13).names, .ref V.c⟩ trBody (trL pat k st.length pre.length) (st ++ [parts]) .next loc' (st ++ [parts ++ [.str (a.part f)]]) ∧ LSub loc' (trL pat k st.length (pre ++ a.txt).length) := by
  have hpl : pat.cps.toList.length = pat.length := by simp; rfl
  cases a with
  | sign c =>
    obtain ⟨h1, h2, h3, h4, h5⟩ := ha
    have hc : pat.cps[pre.length]? = some c := by
      have := at_mid h (t := 0) (by show 0 < 1; omega)
      rw [Nat.add_zero] at this
      rw [this]; rfl
    have hi : pre.length < 900 := by
      have := (Array.getElem?_eq_some_iff.mp hc).1
      have : pre.length < pat.length := this
      omega
    rw [show (pre ++ (Atom.sign c).txt).length = pre.length + 1 by simp [Atom.txt]]
    exact tr_sign tr (by omega) hc h1 h2 h3 h4 h5 hz
  | box x q =>
    rw [show (pre ++ (Atom.box x q).txt).length = pre.length + x.length + 2 by simp [Atom.txt]; show _ = pre.length + x.cps.size + 2; omega]
    exact tr_box tr hp h ha hz
theorem tr_loop {pat : Str} {k : Nat} {f : Int → Option Value} {tail : List Nat} {L' : Loc} {S' : St} (tr : Tr V f) (hp : pat.length ≤ 900) : ∀ (as : List Atom) (pre : List Nat) (parts : List SV), (∀ a ∈ as, AtomOk f a) → pat.cps.toList = pre ++ as.flatMap Atom.txt ++ tail → parts.length + as.length ≤ 9000 →
    WhOK V ⟨n + 1, (pScope top 13).names, .ref V.c⟩ trTest trBody (trL pat k st.length (pre ++ as.flatMap Atom.txt).length) (st ++ [parts ++ as.map fun a => .str (a.part f)]) .next L' S' →
    WhOK V ⟨n + 1, (pScope top 13).names, .ref V.c⟩ trTest trBody (trL pat k st.length pre.length) (st ++ [parts]) .next L' S'
  | [], pre, parts, _, _, _, hf => by simpa using hf
  | a :: as, pre, parts, ha, h, hz, hf => by
    rw [List.length_cons] at hz
    have h' : pat.cps.toList = pre ++ a.txt ++ (as.flatMap Atom.txt ++ tail) := by rw [h]; simp
    obtain ⟨loc', hx, hs⟩ := tr_atom (n := n) (st := st) (k := k) (parts := parts) tr hp h' (ha a List.mem_cons_self) (by omega)
    have hne : 0 < a.txt.length := by cases a <;> simp [Atom.txt]
    have hlt : pre.length < pat.length := by
      have hpl : pat.cps.toList.length = pat.length := by simp; rfl
      rw [← hpl, h']
      simp only [List.length_append]
      omega
    have ht := tr_test (V := V) (m := n + 1) (pat := pat) (k := k) (st := st) (i := pre.length) (S0 := st ++ [parts])
    have e : decide ((pre.length : Int) < (pat.length : Nat)) = true := by simpa using hlt
    rw [e] at ht
    refine WhOK.turn (o := .next) ht hx rfl (WhOK.sub hs ?_)
    refine tr_loop (tail := tail) tr hp as (pre ++ a.txt) (parts ++ [.str (a.part f)]) (fun b hb => ha b (List.mem_cons_of_mem _ hb)) (by rw [h]; simp) (by simp; omega) ?_
    simpa using hf

noncomputable def trParts (f : Int → Option Value) (as : List Atom) (star : Bool) : List (Option Str) := (as.map fun a => some (a.part f)) ++ (if star = true then [none] else [])
theorem translate_ok {pat : Str} {k : Nat} {f : Int → Option Value} {as : List Atom} {star : Bool} (tr : Tr V f) (d : D_translate V) (hk : k < st.length) (hp : pat.length ≤ 900) (h : pat.cps.toList = as.flatMap Atom.txt ++ (if star = true then [42] else [])) (ha : ∀ a ∈ as, AtomOk f a) (hne : as ≠ []) :
    CallOK V (n + 2) (.gl "_translate") [.str pat, .obj k, .str "."] [] st (.lst ((trParts f as star).map (partSV k))) st := by
  have gb := tr.gb
  have hpl : pat.cps.toList.length = pat.length := by simp; rfl
  have hal : as.length ≤ 900 := by
    have : ∀ as : List Atom, as.length ≤ (as.flatMap Atom.txt).length := fun as => by
      induction as with
      | nil => simp
      | cons a as ih =>
        have hne : 0 < a.txt.length := by cases a <;> simp [Atom.txt]
        rw [List.flatMap_cons, List.length_append, List.length_cons]
        omega
    have h1 := this as
    have h2 : (as.flatMap Atom.txt).length ≤ pat.length := by rw [← hpl, h]; simp
    omega
  have hZ : sizeLine = 16777216 := rfl
  refine CallOK.gfC gb.pg d rfl (by kernel_rfl) (by decide +kernel) (by decide +kernel) (ext := [(trParts f as star).map (partSV k)]) (out := .ret (.obj st.length)) ?_ rfl ?_
  · simp only [List.zip_cons_cons, List.zip_nil_right]
    show ExOK _ _ (_ :: _) _ _ _ _ _
    refine ExOK.asgL (v := .obj st.length) (st₁ := st ++ [[]]) (by kernel_rfl) (EvOK.lstObj .nil (Nat.zero_le _)) (fun _ => rfl) ?_
    refine ExOK.asgL (v := .app st.length) (st₁ := st ++ [[]]) (by kernel_rfl) (EvOK.attrApp (xs := []) ?_ obj_at (fun _ => rfl)) (fun _ => rfl) ?_
    · tm_at "go"
    refine ExOK.cons (loc₁ := setL "i" (.int ((0 : Nat) : Int)) (setL "n" (.int (pat.length : Nat)) (setL "add" (.app st.length) (setL "res" (.obj st.length) [("pat", .str pat), ("STAR", .obj k), ("QUESTION_MARK", .str ".")])))) (st₁ := st ++ [[]]) ?_ ?_
    · show StOK _ _ (Stmt.Assign [Expr.Tuple [Expr.Name _ _, Expr.Name _ _] _ _] (Expr.Tuple [_, _] _ _) _) _ _ _ _ _
      refine StOK.asSwap (vs := [.int ((0 : Nat) : Int), .int (pat.length : Nat)]) (names := ["i", "n"]) (st₁ := st ++ [[]]) ?_ rfl ?_ (fun _ => rfl) ?_
      · show EvOK _ _ _ _ _ (.tup [.int 0, .int (pat.length : Nat)]) _
        tm_at "go"
        omega
      · exact BnsOK.cons (SnOK.lcl (by kernel_rfl)) (BnsOK.cons (SnOK.lcl (by kernel_rfl)) .nil)
      · intro env h1 h2
        have hb : env.blockKind = .function := by unfold Env.blockKind; rw [h1]; rfl
        have kx : env.kindOf "i" = some .local := by show env.scope.names.lookup _ = _; rw [h2]; kernel_rfl
        have ky : env.kindOf "n" = some .local := by show env.scope.names.lookup _ = _; rw [h2]; kernel_rfl
        unfold swappedStores
        dsimp only
        rw [hb, if_neg (by decide), if_neg (by decide)]
        simp only [List.filterMap_cons, List.filterMap_nil, kx, ky]
        first | rfl | kernel_rfl!
    refine ExOK.while' (st₁ := st ++ [(trParts f as star).map (partSV k)]) (loc₁ := trL pat k st.length pat.length) (WhOK.sub (l' := trL pat k st.length 0) (by tm_at "ls") ?_) ?_
    · have hl := tr_loop (n := n) (V := V) (st := st) (k := k) (tail := if star = true then [42] else []) (L' := trL pat k st.length pat.length) (S' := st ++ [(trParts f as star).map (partSV k)]) tr hp as [] [] ha (by rw [h]; rfl) (by simp; omega)
      refine hl ?_
      have stop : ∀ S0 : St, WhOK V ⟨n + 1, (pScope top 13).names, .ref V.c⟩ trTest trBody (trL pat k st.length pat.length) S0 .next (trL pat k st.length pat.length) S0 := fun S0 => by
        have ht := tr_test (V := V) (m := n + 1) (pat := pat) (k := k) (st := st) (i := pat.length) (S0 := S0)
        have e : decide (((pat.length : Nat) : Int) < (pat.length : Nat)) = false := by simp
        rw [e] at ht
        exact WhOK.stop ht
      cases star with
      | false =>
        have e1 : ([] ++ as.flatMap Atom.txt).length = pat.length := by rw [← hpl, h]; simp
        have e2 : ([] ++ as.map fun a => SV.str (a.part f)) = (trParts f as false).map (partSV k) := by
          unfold trParts; simp
        rw [e1, e2]
        exact stop _
      | true =>
        have e1 : ([] ++ as.flatMap Atom.txt).length + 1 = pat.length := by rw [← hpl, h]; simp
        obtain ⟨init, a, rfl⟩ : ∃ init a, as = init ++ [a] := by
          rcases List.eq_nil_or_concat as with h | ⟨init, a, h⟩
          · exact absurd h hne
          · exact ⟨init, a, by rw [h, List.concat_eq_append]⟩
        have e2 : ([] ++ (init ++ [a]).map fun a => SV.str (a.part f)) = (init.map fun a => SV.str (a.part f)) ++ [.str (a.part f)] := by simp
        have e3 : (trParts f (init ++ [a]) true).map (partSV k) = (init.map fun a => SV.str (a.part f)) ++ [.str (a.part f)] ++ [.obj k] := by
          unfold trParts; simp
        rw [e2, e3]
        have hc : pat.cps[([] ++ (init ++ [a]).flatMap Atom.txt).length]? = some 42 := by
          have h' : pat.cps.toList = ([] ++ (init ++ [a]).flatMap Atom.txt) ++ [42] ++ [] := by rw [h]; simp
          have := at_mid h' (t := 0) (by show 0 < 1; omega)
          rw [Nat.add_zero] at this
          rw [this]; rfl
        obtain ⟨loc', hx, hs⟩ := tr_star (n := n) (st := st) (k := k) (parts := init.map fun a => SV.str (a.part f)) (p := a.part f) tr (by omega) hc (by simp at hal; simp; omega)
        have ht := tr_test (V := V) (m := n + 1) (pat := pat) (k := k) (st := st) (i := ([] ++ (init ++ [a]).flatMap Atom.txt).length) (S0 := st ++ [(init.map fun a => SV.str (a.part f)) ++ [.str (a.part f)]])
        have e : decide (((([] ++ (init ++ [a]).flatMap Atom.txt).length : Nat) : Int) < (pat.length : Nat)) = true := by
          have : ([] ++ (init ++ [a]).flatMap Atom.txt).length < pat.length := by omega
          exact decide_eq_true (Int.ofNat_lt.mpr this)
        rw [e] at ht
        rw [e1] at hs
        exact WhOK.turn (o := .next) ht hx rfl (WhOK.sub hs (stop _))
    · show ExOK _ _ (_ :: _) _ _ _ _ _
      refine ExOK.cons (StOK.assert (st₁ := st ++ [(trParts f as star).map (partSV k)]) ?_) ?_
      · have e : ((pat.length : Nat) : Int) == ((pat.length : Nat) : Int) := by simp
        have e : (((pat.length : Nat) : Int) == ((pat.length : Nat) : Int)) = true := by simp
        rw [← e]
        show TsOK _ _ (Expr.Compare _ _ _ _) _ _ _ _
        tm_at "go"
      · tm_at "go"
  · refine .ice st.length _ _ (Nat.le_refl _) obj_at ?_
    have : ∀ l : List (Option Str), calms st.length (l.map (partSV k)) = true := fun l => by
      induction l with
      | nil => rfl
      | cons p l ih =>
        rw [List.map_cons, calms, ih, Bool.and_true]
        cases p with
        | none => simpa [calm] using hk
        | some p => rfl
    exact calms.fz (this _)
end
end

section
noncomputable def xElt : Expr → Expr
  | .ListComp e _ _ _ => e
  | _ => default
noncomputable def xIfs : Expr → List Expr
  | .ListComp _ [⟨_, _, ifs, _⟩] _ _ => ifs
  | _ => []
noncomputable def xScope : Expr → Scope
  | .ListComp _ _ s _ => s
  | _ => default
noncomputable def sVal : Stmt → Expr
  | .Assign _ v _ => v
  | _ => default
section
variable {V : Cx} {G : Gm} {loc loc₁ loc₂ : Loc} {st st₁ st₂ st₃ : St} {n : Nat}
theorem cp_gen {C : St → Prop} {x : Str} {ifs : List Expr} {elt : Expr} (hk : G.ks.lookup x = some .local) (hsub : ∀ y, LSub (setL x y loc) loc) (hC : ∀ ys, C (st ++ [ys])) (b : SV → Bool) (g : SV → SV) : ∀ (xs acc : List SV), (∀ y ∈ xs, ∀ acc, IfsOK V G ifs (setL x y loc) (st ++ [acc]) (b y)) →
    (∀ y ∈ xs, b y = true → ∀ acc, EvOK V G elt (setL x y loc) (st ++ [acc]) (g y) (st ++ [acc])) → acc.length + xs.length ≤ 100000 → CpOK V G C x ifs elt xs acc loc st (acc ++ (xs.filter b).map g)
  | [], acc, _, _, _ => by
    rw [List.filter_nil, List.map_nil, List.append_nil]
    exact .nil (hC _)
  | y :: xs, acc, hi, he, hl => by
    have hZ : sizeLine = 16777216 := rfl
    rw [List.length_cons] at hl
    have test := hi y List.mem_cons_self acc
    cases hb : b y with
    | true =>
      rw [hb] at test
      rw [List.filter_cons_of_pos hb, List.map_cons, show acc ++ g y :: (xs.filter b).map g = (acc ++ [g y]) ++ (xs.filter b).map g by simp]
      refine CpOK.step hk (hC _) test (acc' := acc ++ [g y]) ?_ (CpOK.sub (hsub y) (cp_gen hk hsub hC b g xs (acc ++ [g y]) (fun z hz => hi z (List.mem_cons_of_mem _ hz)) (fun z hz => he z (List.mem_cons_of_mem _ hz)) (by simp; omega)))
      rw [if_pos rfl]
      exact ⟨g y, he y List.mem_cons_self hb acc, rfl, by omega⟩
    | false =>
      rw [hb] at test
      rw [List.filter_cons_of_neg (by simp [hb])]
      refine CpOK.step hk (hC _) test (acc' := acc) ?_ (CpOK.sub (hsub y) (cp_gen hk hsub hC b g xs acc (fun z hz => hi z (List.mem_cons_of_mem _ hz)) (fun z hz => he z (List.mem_cons_of_mem _ hz)) (by omega)))
      rw [if_neg Bool.false_ne_true]

theorem EvOK.compMap {elt iter : Expr} {x : Str} {px : Pos} {scope : Scope} {pos : Pos} {xs : List SV} (g : SV → SV) (hi : EvOK V G iter loc st (.lst xs) st₁) (hkind : scope.kind = .function) (hnd : (scope.names.map (·.1)).Nodup) (hcell : ∀ y ∈ scope.names, y.2 ≠ .cell) (hloc : ∀ y ∈ scope.names, y.2 = .local → scope.names.lookup y.1 = some .local)
    (hfree : ∀ y, (y, NameKind.free) ∈ scope.names → G.ks.lookup y = some .cell) (hk : (compKs G.ks scope.names).lookup x = some .local) (he : ∀ y ∈ xs, ∀ acc, EvOK V ⟨G.n, compKs G.ks scope.names, G.cd⟩ elt (setL x y []) (st₁ ++ [acc]) (g y) (st₁ ++ [acc])) (hl : xs.length ≤ 100000) (hcalm : calms st₁.length (xs.map g) = true)
    (hs : ∀ env v, foldedSetIterable iter env v = pure v) : EvOK V G (.ListComp elt [⟨.Name x px, iter, [], 0⟩] scope pos) loc st (.lst (xs.map g)) st₁ := by
  have hc := cp_gen (V := V) (G := ⟨G.n, compKs G.ks scope.names, G.cd⟩) (loc := []) (st := st₁) (C := fun _ => True) (ifs := []) (elt := elt) hk (fun _ => .nil) (fun _ => trivial) (fun _ => true) g xs [] (fun _ _ _ => IfsOK.nil) (fun y hy _ acc => he y hy acc) (by simpa using hl)
  have e : [] ++ (xs.filter fun _ => true).map g = xs.map g := by rw [List.filter_eq_self.mpr (fun _ _ => rfl), List.nil_append]
  rw [e] at hc
  exact EvOK.comp hi .lst (fun _ => trivial) hkind hnd hcell hloc hfree (CpOK.sub .nil hc) hcalm hs
end


structure Ln where
  slot : List Str
  text : Str
  value : Str
  spelled : Str
  lead : Nat
  row : List Str
  ex : List (Option Str)
  un : List (Option Str)
noncomputable abbrev strsSV (l : List Str) : List SV := l.map .str
noncomputable abbrev lnSV (k : Nat) (l : Ln) : SV := .tup [.lst (strsSV l.slot), .str l.text, .str l.value, .str l.spelled, .int (l.lead : Nat), .lst (strsSV l.row), .lst (l.ex.map (partSV k)), .lst (l.un.map (partSV k))]
noncomputable abbrev lawBody : List Stmt := fBody (pBody top 39) 3
noncomputable abbrev lawKs : List (Str × NameKind) := (pScope top 39).names
noncomputable abbrev lawL (k : Nat) (ls : List Ln) : Loc := [("star", .obj k), ("book", .book), ("lines", .lst (ls.map (lnSV k)))]

noncomputable def mkP (r : Str) (ns : List Str) : Str := if (r ++ Txt.join "/" ns).length = 0 then "." else r ++ Txt.join "/" ns
noncomputable def spell (lead : Nat) (row : List Str) : Str := Txt.mul "/" (lead : Nat) ++ Txt.join "/" row
structure Way where
  lead : Nat
  row : List Str
  sp : Str
noncomputable abbrev way0 (n : Nat) : Way := ⟨n / 6 % 4, wayRow (n / 6), spell (n / 6 % 4) (wayRow (n / 6))⟩
noncomputable def wayB (b : Ln) (w : Way) : Way := ⟨if w.lead = 0 then b.lead else w.lead, if w.lead = 0 then b.row.map Txt.upper ++ w.row else w.row, join2 (Txt.upper b.spelled) w.sp⟩
noncomputable abbrev wyL (k : Nat) (ls : List Ln) (p n : Nat) (w : Way) : Loc := [("star", .obj k), ("book", .book), ("lines", .lst (ls.map (lnSV k))), ("place", .int (p : Nat)), ("n", .int (n : Nat)), ("kind", .int ((n % 6 : Nat) : Int)), ("lead", .int (w.lead : Nat)), ("row", .lst (strsSV w.row)), ("spelled", .str w.sp)]
section
variable {V : Cx} {G : Gm} {loc loc₁ loc₂ : Loc} {st st₁ st₂ st₃ : St} {m : Nat}
theorem way_loop_b {ws : List Str} (hw : ws.length = 24) : ∀ (f n : Nat) (acc : List Str), (wayLoop ws f n acc).length ≤ max acc.length 3 ∧ ∀ w ∈ wayLoop ws f n acc, w ∈ acc ∨ w ∈ ws
  | 0, n, acc => ⟨by unfold wayLoop; omega, fun w h => .inl h⟩
  | f + 1, n, acc => by
    unfold wayLoop
    by_cases hc : 0 < n ∧ acc.length < 3
    · rw [if_pos hc]
      obtain ⟨a, b⟩ := way_loop_b hw f (n / 24) (acc ++ [(ws[n % 24]?).getD ""])
      refine ⟨by simp at a; omega, fun w h => ?_⟩
      rcases b w h with h | h
      · rcases List.mem_append.mp h with h | h
        · exact .inl h
        · right
          simp at h; subst h
          have : n % 24 < ws.length := by rw [hw]; exact Nat.mod_lt _ (by decide)
          rw [List.getElem?_eq_getElem this]
          exact List.getElem_mem _
      · exact .inr h
    · rw [if_neg hc]
      exact ⟨by omega, fun w h => .inl h⟩
theorem way_row_b (n : Nat) : (wayRow n).length ≤ 3 ∧ (∀ w ∈ wayRow n, w ∈ wordsL) ∧ (wayRow n).head? ≠ some ("" : Str) := by
  obtain ⟨a, b⟩ := way_loop_b words_len 3 (n / 4) []
  have hdot : (".":Str) ∈ wordsL := by decide +kernel
  unfold wayRow
  dsimp only
  split
  · rename_i h
    obtain ⟨x, l, e⟩ : ∃ x l, wayLoop wordsL 3 (n / 4) [] = x :: l := by
      cases hq : wayLoop wordsL 3 (n / 4) [] with
      | nil => rw [hq] at h; cases h
      | cons x l => exact ⟨x, l, rfl⟩
    rw [e] at a b ⊢
    refine ⟨by simpa using a, fun w hw => ?_, by simp; decide +kernel⟩
    rcases List.mem_cons.mp hw with rfl | hw
    · exact hdot
    · exact (b w (List.mem_cons_of_mem _ hw)).elim (fun h => nomatch h) id
  · rename_i h
    exact ⟨by simpa using a, fun w hw => (b w hw).elim (fun h => nomatch h) id, h⟩
theorem words_small : ∀ w ∈ wordsL, w.length ≤ 4 := by
  have : wordsL.all (fun w => decide (w.length ≤ 4)) = true := by decide +kernel
  intro w hw
  simpa using List.all_eq_true.mp this w hw
theorem slash_mul {n : Nat} (h : n < 4) : Txt.mul "/" (n : Nat) = ⟨(List.replicate n 47).toArray⟩ := by
  match n, h with
  | 0, _ => decide +kernel
  | 1, _ => decide +kernel
  | 2, _ => decide +kernel
  | 3, _ => decide +kernel
theorem slash_len {n : Nat} (h : n < 4) : (Txt.mul "/" (n : Nat)).length = n := by
  rw [slash_mul h]
  show (List.replicate n 47).toArray.size = n
  simp
theorem spell_len (n : Nat) : (way0 n).sp.length ≤ 20 := by
  obtain ⟨a, b, _⟩ := way_row_b (n / 6)
  have h1 := join_len (sep := ("/" : Str)) (l := wayRow (n / 6)) (B := 4) (N := 3) (fun x hx => words_small x (b x hx)) a
  have e1 : ("/" : Str).length = 1 := by decide +kernel
  rw [e1] at h1
  have h2 : (Txt.mul "/" ((n / 6 % 4 : Nat) : Int)).length = n / 6 % 4 := slash_len (Nat.mod_lt _ (by decide))
  show (Txt.mul "/" ((n / 6 % 4 : Nat) : Int) ++ Txt.join "/" (wayRow (n / 6))).length ≤ 20
  rw [Str.length_append, h2]
  have := Nat.mod_lt (n / 6) (show 0 < 4 by decide)
  omega

theorem law_h0 {cd : Value} {k : Nat} {ls : List Ln} {p N : Int} {q n : Nat} {out : Out} {loc' : Loc} {st' : St} (gb : Gb V) (dw : D_way V) (hn : N.fmod (10 ^ 9) = (n : Nat)) (hq : p = (q : Nat))
    (h : ExOK V ⟨m + 5, lawKs, cd⟩ (lawBody.drop 4) (wyL k ls q n (way0 n)) st out loc' st') :
    ExOK V ⟨m + 5, lawKs, cd⟩ lawBody (setL "number" (.int N) (setL "place" (.int p) (lawL k ls))) st out loc' st' := by
  subst hq
  have hZ : sizeLine = 16777216 := rfl
  obtain ⟨a, b, _⟩ := way_row_b (n / 6)
  show ExOK _ _ (_ :: _ :: _ :: _ :: _) _ _ _ _ _
  refine ExOK.asgL (v := .int (n : Nat)) (st₁ := st) (by kernel_rfl) ?_ (fun _ => rfl) ?_
  · rw [← hn]
    apply EvOK.bin
    · tm_at "go"
    · apply EvOK.bin
      · tm_at "go"
      · tm_at "go"
      · exact Bin.powInt (by decide) (by decide +kernel)
    · exact Bin.modInt (by decide)
  refine ExOK.asgL (v := .int ((n % 6 : Nat) : Int)) (st₁ := st) (by kernel_rfl) ?_ (fun _ => rfl) ?_
  · rw [← fmod_nat n 6]
    apply EvOK.bin
    · tm_at "go"
    · tm_at "go"
    · exact Bin.modInt (by decide)
  refine ExOK.tup' (vs := [.int ((n / 6 % 4 : Nat) : Int), .lst ((wayRow (n / 6)).map .str)]) (st₁ := st) (loc₁ := setL "row" (.lst ((wayRow (n / 6)).map .str)) (setL "lead" (.int ((n / 6 % 4 : Nat) : Int)) (setL "kind" (.int ((n % 6 : Nat) : Int)) (setL "n" (.int (n : Nat)) (setL "number" (.int N) (setL "place" (.int (q : Nat)) (lawL k ls))))))) (fun _ => rfl) (fun _ => rfl) rfl ?_ rfl ?_ ?_
  · apply EvOK.call
    · exact EvOK.gf gb.pg dw (by kernel_rfl) (by kernel_rfl)
    · apply CwOK.gf0 dw
      · rfl
      · apply EvsOK.cons
        · rfl
        · apply EvOK.bin
          · tm_at "go"
          · tm_at "go"
          · exact Bin.divInt (by decide) (by decide)
        · exact .nil
      · rw [show ((n : Nat) : Int).fdiv 6 = ((n / 6 : Nat) : Int) from fdiv_nat n 6]
        exact way_ok gb dw
  · tm_at "go"
  refine ExOK.asgL (v := .str (way0 n).sp) (st₁ := st) (by kernel_rfl) ?_ (fun _ => rfl) ?_
  · show EvOK _ _ (Expr.BinOp (Expr.BinOp _ _ _ _) _ _ _) _ _ (.str (Txt.mul "/" ((n / 6 % 4 : Nat) : Int) ++ Txt.join "/" (wayRow (n / 6)))) _
    have hj := join_len (sep := ("/" : Str)) (l := wayRow (n / 6)) (B := 4) (N := 3) (fun x hx => words_small x (b x hx)) a
    have e1 : ("/" : Str).length = 1 := by decide +kernel
    rw [e1] at hj
    have h2 : (Txt.mul "/" ((n / 6 % 4 : Nat) : Int)).length = n / 6 % 4 := slash_len (Nat.mod_lt _ (by decide))
    have h3 := Nat.mod_lt (n / 6) (show 0 < 4 by decide)
    apply EvOK.bin
    · apply EvOK.bin
      · tm_at "go"
      · tm_at "go"
      · exact Bin.mulStr (MulOk.slash (by omega) (by omega))
    · apply EvOK.meth
      · tm_at "go"
      · exact GmOK.s_join
      · apply CwOK.bi1
        · rfl
        · tm_at "go"
        · exact CallOK.join rfl (joinOk_of (B := 4) (N := 3) (fun x hx => words_small x (b x hx)) a (by rw [e1]; omega))
      · exact fun _ => rfl
      · rfl
      · rfl
      · rfl
      · rfl
    · exact Bin.addStr (by rw [h2]; omega)
  exact ExOK.sub (by tm_at "ls") h

theorem law_h1no {cd : Value} {k : Nat} {ls : List Ln} {q n : Nat} {w : Way} {out : Out} {loc' : Loc} {st' : St} (gb : Gb V) (hn : ¬ n % 6 > 3)
    (h : ExOK V ⟨m + 5, lawKs, cd⟩ (lawBody.drop 5) (wyL k ls q n w) st out loc' st') : ExOK V ⟨m + 5, lawKs, cd⟩ (lawBody.drop 4) (wyL k ls q n w) st out loc' st' := by
  show ExOK _ _ (_ :: _) _ _ _ _ _
  refine ExOK.if_no (r := decide ((3 : Int) < ((n % 6 : Nat) : Int))) (st₁ := st) ?_ (decide_eq_false (by omega)) h
  tm_at "go"
noncomputable abbrev baseSt : List Stmt := fBody lawBody 4
noncomputable abbrev wbL (k : Nat) (ls : List Ln) (p n : Nat) (w : Way) (b : Ln) : Loc := [("star", .obj k), ("book", .book), ("lines", .lst (ls.map (lnSV k))), ("place", .int (p : Nat)), ("n", .int (n : Nat)), ("kind", .int ((n % 6 : Nat) : Int)), ("lead", .int (w.lead : Nat)), ("row", .lst (strsSV w.row)), ("spelled", .str w.sp), ("base", lnSV k b)]
theorem Sub.ln {k : Nat} {b : Ln} {i : Int} {j : Nat} {v : SV} (h0 : -2 ^ 63 ≤ i) (h1 : i < 2 ^ 63) (hj : seqIndex? i 8 = some j) (hx : (match lnSV k b with | .tup xs => xs | _ => [])[j]? = some v) : Sub V (lnSV k b) (.int i) st v := Sub.tup h0 h1 hj hx
set_option maxHeartbeats 2000000 in
theorem law_h1yes {cd : Value} {k : Nat} {ls : List Ln} {q n : Nat} {w : Way} {b : Ln} {out : Out} {loc' : Loc} {st' : St} (gb : Gb V) (dj : D_join V) (df : D_fspath V) (dg : D_get_sep V) (hn : n % 6 > 3) (hk : k < st.length) (hb : ls[(n / 24 + n / 576 + n % 6) % ls.length]? = some b) (hls : ls.length ≤ 1000) (hbs : b.spelled.length ≤ 100) (hbr : b.row.length ≤ 100 ∧ ∀ x ∈ b.row, x.length ≤ 100) (hw : w.sp.length ≤ 100 ∧ w.row.length ≤ 100)
    (h : ExOK V ⟨m + 5, lawKs, cd⟩ (lawBody.drop 5) (wyL k ls q n (wayB b w)) st out loc' st') : ExOK V ⟨m + 5, lawKs, cd⟩ (lawBody.drop 4) (wyL k ls q n w) st out loc' st' := by
  have hZ : sizeLine = 16777216 := rfl
  have hi : (n / 24 + n / 576 + n % 6) % ls.length < ls.length := (List.getElem?_eq_some_iff.mp hb).1
  have hl0 : ls.length ≠ 0 := by omega
  have hul : (Txt.upper b.spelled).length ≤ 300 := by have := len_upper b.spelled; omega
  have fu : Builtin.Str.tooLong (Txt.upper b.spelled).length = false := fit_upper (by omega)
  show ExOK _ _ (_ :: _) _ _ _ _ _
  have body : ∃ loc2, ExOK V ⟨m + 5, lawKs, cd⟩ baseSt (wyL k ls q n w) st .next loc2 st ∧ LSub loc2 (wyL k ls q n (wayB b w)) := by
    have tl : ∃ loc2, ExOK V ⟨m + 5, lawKs, cd⟩ (baseSt.drop 2) (wbL k ls q n ⟨w.lead, w.row, (wayB b w).sp⟩ b) st .next loc2 st ∧ LSub loc2 (wyL k ls q n (wayB b w)) := by
      by_cases hl : w.lead = 0
      · have ew : wayB b w = ⟨b.lead, b.row.map Txt.upper ++ w.row, (wayB b w).sp⟩ := by unfold wayB; rw [if_pos hl, if_pos hl]
        obtain ⟨sp, hsp⟩ : ∃ sp, (wayB b w).sp = sp := ⟨_, rfl⟩
        rw [ew, hsp]
        refine ⟨setL "lead" (.int (b.lead : Nat)) (setL "row" (.lst (strsSV (b.row.map Txt.upper ++ w.row))) (wbL k ls q n ⟨w.lead, w.row, sp⟩ b)), ?_, by tm_at "ls"⟩
        show ExOK _ _ (_ :: _) _ _ _ _ _
        refine ExOK.if_t (r := (((w.lead : Nat) : Int) == 0)) (st₁ := st) (st₂ := st) (loc₁ := setL "lead" (.int (b.lead : Nat)) (setL "row" (.lst (strsSV (b.row.map Txt.upper ++ w.row))) (wbL k ls q n ⟨w.lead, w.row, sp⟩ b))) ?_ (by simp [hl]) ?_ .nil
        · tm_at "go"
        show ExOK _ _ (_ :: _) _ _ _ _ _
        refine ExOK.cons ?_ .nil
        show StOK _ _ (Stmt.Assign [Expr.Tuple [Expr.Name _ _, Expr.Name _ _] _ _] (Expr.Tuple [_, _] _ _) _) _ _ _ _ _
        refine StOK.asSwap (vs := [.int (b.lead : Nat), .lst (strsSV (b.row.map Txt.upper ++ w.row))]) (names := ["lead", "row"]) (st₁ := st) ?_ rfl ?_ (fun _ => rfl) ?_
        · apply EvOK.tup
          · apply EvsOK.cons
            · rfl
            · apply EvOK.sub
              · tm_at "go"
              · tm_at "go"
              · exact Sub.ln (j := 4) (by decide) (by decide) rfl rfl
              · rfl
            · apply EvsOK.cons
              · rfl
              · have el : strsSV (b.row.map Txt.upper ++ w.row) = (strsSV b.row).map (fun y => match y with | .str x => .str (Txt.upper x) | y => y) ++ strsSV w.row := by
                  unfold strsSV
                  rw [List.map_append, List.map_map, List.map_map]
                  rfl
                rw [el]
                apply EvOK.bin
                · refine EvOK.compMap (st₁ := st) (xs := strsSV b.row) (fun y => match y with | .str x => .str (Txt.upper x) | y => y) ?_ rfl (by decide +kernel) (by decide +kernel) (by decide +kernel) ?_ (by kernel_rfl) ?_ (by simp; omega) ?_ (fun _ _ => rfl)
                  · apply EvOK.sub
                    · tm_at "go"
                    · tm_at "go"
                    · exact Sub.ln (j := 5) (by decide) (by decide) rfl rfl
                    · rfl
                  · intro y hy
                    have : (xScope (match (fBody (baseSt.drop 2) 0)[0]? with | some (Stmt.Assign _ (Expr.Tuple [_, Expr.BinOp l _ _ _] _ _) _) => l | _ => default)).names.all (fun z => z.2 != .free || lawKs.lookup z.1 == some .cell) = true := by decide +kernel
                    have := List.all_eq_true.mp this (y, .free) hy
                    simpa using this
                  · intro y hy acc
                    obtain ⟨x, hx, rfl⟩ := List.mem_map.mp hy
                    have hxl := hbr.2 x hx
                    have fx : Builtin.Str.tooLong (Txt.upper x).length = false := fit_upper (by omega)
                    show EvOK _ _ _ _ _ (.str (Txt.upper x)) _
                    show EvOK _ _ (Expr.Call (Expr.Attribute _ _ _) _ _ _) _ _ _ _
                    tm_at "go"
                    exact fx
                  · have : ∀ l : List Str, calms st.length ((strsSV l).map (fun y => match y with | .str x => .str (Txt.upper x) | y => y)) = true := fun l => by
                      induction l with
                      | nil => rfl
                      | cons x l ih => show (true && calms st.length ((strsSV l).map _)) = true; rw [ih]; rfl
                    exact this _
                · tm_at "go"
                · exact Bin.addLst rfl rfl (by have := hbr.1; have := hw.2; simp; omega)
              · exact .nil
          · show 2 ≤ _; omega
        · exact BnsOK.cons (SnOK.lcl (by kernel_rfl)) (BnsOK.cons (SnOK.lcl (by kernel_rfl)) .nil)
        · intro env h1 h2
          have hb : env.blockKind = .function := by unfold Env.blockKind; rw [h1]; rfl
          have kx : env.kindOf "lead" = some .local := by show env.scope.names.lookup _ = _; rw [h2]; kernel_rfl
          have ky : env.kindOf "row" = some .local := by show env.scope.names.lookup _ = _; rw [h2]; kernel_rfl
          unfold swappedStores
          dsimp only
          rw [hb, if_neg (by decide), if_neg (by decide)]
          simp only [List.filterMap_cons, List.filterMap_nil, kx, ky]
          first | rfl | kernel_rfl!
      · have ew : wayB b w = ⟨w.lead, w.row, (wayB b w).sp⟩ := by unfold wayB; rw [if_neg hl, if_neg hl]
        obtain ⟨sp, hsp⟩ : ∃ sp, (wayB b w).sp = sp := ⟨_, rfl⟩
        rw [ew, hsp]
        refine ⟨wbL k ls q n ⟨w.lead, w.row, sp⟩ b, ?_, by tm_at "ls"⟩
        show ExOK _ _ (_ :: _) _ _ _ _ _
        refine ExOK.if_no (r := (((w.lead : Nat) : Int) == 0)) (st₁ := st) ?_ (by simp; exact hl) .nil
        tm_at "go"
    obtain ⟨loc2, t1, t2⟩ := tl
    refine ⟨loc2, ?_, t2⟩
    show ExOK _ _ (_ :: _) _ _ _ _ _
    refine ExOK.asgL (v := lnSV k b) (st₁ := st) (by kernel_rfl) ?_ (fun _ => rfl) ?_
    · apply EvOK.sub
      · tm_at "go"
      · refine EvOK.bin (a := .int ((n / 24 + n / 576 + n % 6 : Nat) : Int)) (b := .int (ls.length : Nat)) (c := .int (((n / 24 + n / 576 + n % 6) % ls.length : Nat) : Int)) (st₁ := st) (st₂ := st) ?_ ?_ ?_
        · rw [show ((n / 24 + n / 576 + n % 6 : Nat) : Int) = ((n / 24 : Nat) : Int) + ((n / 576 : Nat) : Int) + ((n % 6 : Nat) : Int) by omega]
          rw [← fdiv_nat n 24, ← fdiv_nat n 576]
          apply EvOK.bin
          · apply EvOK.bin
            · apply EvOK.bin
              · tm_at "go"
              · tm_at "go"
              · exact Bin.divInt (by decide) (by decide)
            · apply EvOK.bin
              · tm_at "go"
              · tm_at "go"
              · exact Bin.divInt (by decide) (by decide)
            · exact Bin.addInt
          · tm_at "go"
          · exact Bin.addInt
        · apply EvOK.call
          · tm_at "go"
          · apply CwOK.bi0
            · rfl
            · tm_at "go"
            · have q := CallOK.lenLst (V := V) (n := m + 5) (st := st) (a := .lst (ls.map (lnSV k))) (xs := ls.map (lnSV k)) rfl (by simp; omega)
              rwa [List.length_map] at q
        · rw [← fmod_nat]
          exact Bin.modInt (by omega)
      · refine Sub.lst (v := lnSV k b) rfl (by omega) (by omega) ?_
        rw [show ((((n / 24 + n / 576 + n % 6) % ls.length : Nat) : Int)).toNat = (n / 24 + n / 576 + n % 6) % ls.length by omega, List.getElem?_map, hb]
        rfl
      · rfl
    refine ExOK.asgL (v := .str (wayB b w).sp) (st₁ := st) (by kernel_rfl) ?_ (fun _ => rfl) ?_
    · show EvOK _ _ (Expr.Call (Expr.Name _ _) _ _ _) _ _ (.str (join2 (Txt.upper b.spelled) w.sp)) _
      apply EvOK.call
      · obtain ⟨a, fd, o, hm, _⟩ := id dj
        exact EvOK.gl gb.pg hm (by kernel_rfl) (by kernel_rfl)
      · obtain ⟨a, fd, o, hm, Fa, _⟩ := id dj
        refine CwOK.fn (kw := []) (IsFn.gl hm) Fa rfl rfl (vs := [.str (Txt.upper b.spelled), .str w.sp]) (st₁ := st) (st₂ := st) ?_ .nil (join_ok gb dj df dg (by omega) (by omega))
        apply EvsOK.cons
        · rfl
        · apply EvOK.meth
          · apply EvOK.sub
            · tm_at "go"
            · tm_at "go"
            · exact Sub.ln (j := 3) (by decide) (by decide) rfl rfl
            · rfl
          · exact GmOK.s_upper
          · apply CwOK.bi1
            · rfl
            · tm_at "go"
            · exact CallOK.upper fu
          · exact fun _ => rfl
          · rfl
          · rfl
          · rfl
          · rfl
        · tm_at "go"
    exact ExOK.sub (by tm_at "ls") t1
  obtain ⟨loc2, b1, b2⟩ := body
  refine ExOK.if_t (r := decide ((3 : Int) < ((n % 6 : Nat) : Int))) (st₁ := st) (st₂ := st) (loc₁ := loc2) ?_ (decide_eq_true (by omega)) b1 (ExOK.sub b2 h)
  tm_at "go"
end
end

section
noncomputable def slotP (r : Str) (ns : List Str) : List Str := r :: ns.map Txt.lower
noncomputable abbrev txL (k : Nat) (ls : List Ln) (p n : Nat) (w : Way) (text : Str) (slot : List Str) : Loc := [("star", .obj k), ("book", .book), ("lines", .lst (ls.map (lnSV k))), ("place", .int (p : Nat)), ("kind", .int ((n % 6 : Nat) : Int)), ("lead", .int (w.lead : Nat)), ("row", .lst (strsSV w.row)), ("spelled", .str w.sp), ("text", .str text), ("slot", .lst (strsSV slot))]
theorem root_small (n : Nat) : (rootOf n).length ≤ 2 := by
  unfold rootOf
  split <;> decide +kernel
section
variable {V : Cx} {G : Gm} {loc loc₁ loc₂ : Loc} {st st₁ st₂ st₃ : St} {m : Nat}
set_option maxHeartbeats 2000000 in
theorem law_h2 {cd : Value} {k : Nat} {ls : List Ln} {q n : Nat} {w : Way} {out : Out} {loc' : Loc} {st' : St} (gb : Gb V) (dn : D_names V) (dp : D_normpath V) (df : D_fspath V) (ds : D_splitroot V) (hl : w.lead < 4) (hr : w.row.length ≤ 100) (hs : w.sp.length ≤ 1000) (hns : (nmOf w.lead w.row).length ≤ 100 ∧ ∀ x ∈ nmOf w.lead w.row, x.length ≤ 100) (hP : normp w.sp = mkP (rootOf w.lead) (nmOf w.lead w.row))
    (h : ExOK V ⟨m + 5, lawKs, cd⟩ (lawBody.drop 9) (txL k ls q n w (mkP (rootOf w.lead) (nmOf w.lead w.row)) (slotP (rootOf w.lead) (nmOf w.lead w.row))) st out loc' st') : ExOK V ⟨m + 5, lawKs, cd⟩ (lawBody.drop 5) (wyL k ls q n w) st out loc' st' := by
  have hZ : sizeLine = 16777216 := rfl
  have hrs := root_small w.lead
  have e1 : ("/" : Str).length = 1 := by decide +kernel
  have hj := join_len (sep := ("/" : Str)) hns.2 hns.1
  rw [e1] at hj
  have la : ∀ x y : Str, (x ++ y).length = x.length + y.length := fun x y => Str.length_append ..
  have hcall : CallOK V (m + 5) (.gl "_law_names") [.int (w.lead : Nat), .lst (strsSV w.row)] [] st (.tup [.str (rootOf w.lead), .lst ((nmOf w.lead w.row).map .str)]) st := names_ok (n := m + 4) gb dn hl hr
  generalize rootOf w.lead = r at *
  generalize nmOf w.lead w.row = ns at *
  show ExOK _ _ (_ :: _) _ _ _ _ _
  refine ExOK.tup' (vs := [.str r, .lst (ns.map .str)]) (st₁ := st) (loc₁ := setL "names" (.lst (ns.map .str)) (setL "root" (.str r) (wyL k ls q n w))) (fun _ => rfl) (fun _ => rfl) rfl ?_ rfl ?_ ?_
  · apply EvOK.call
    · exact EvOK.gf gb.pg dn (by kernel_rfl) (by kernel_rfl)
    · apply CwOK.gf0 dn
      · rfl
      · tm_at "go"
      · exact hcall
  · tm_at "go"
  refine ExOK.asgL (v := .str (mkP r ns)) (st₁ := st) (by kernel_rfl) ?_ (fun _ => rfl) ?_
  · rw [← hP]
    apply EvOK.call
    · exact EvOK.gf gb.pg dp (by kernel_rfl) (by kernel_rfl)
    · apply CwOK.gf0 dp
      · rfl
      · tm_at "go"
      · exact normpath_ok gb dp df ds hs
  have hmk : EvOK V ⟨m + 5, lawKs, cd⟩ (match fTest lawBody 7 with | .Compare _ _ [e] _ => e | _ => default) (setL "text" (.str (mkP r ns)) (setL "names" (.lst (ns.map .str)) (setL "root" (.str r) (wyL k ls q n w)))) st (.str (mkP r ns)) st := by
    have em : mkP r ns = (if (r ++ Txt.join "/" ns).length = 0 then ("." : Str) else r ++ Txt.join "/" ns) := rfl
    rw [em]
    show EvOK _ _ (Expr.BoolOp _ [_, _] _) _ _ _ _
    apply EvOK.orStr
    · apply EvOK.bin
      · tm_at "go"
      · apply EvOK.meth
        · tm_at "go"
        · exact GmOK.s_join
        · apply CwOK.bi1
          · rfl
          · tm_at "go"
          · exact CallOK.join rfl (joinOk_of hns.2 hns.1 (by rw [e1]; omega (config := {})))
        · exact fun _ => rfl
        · rfl
        · rfl
        · rfl
        · rfl
      · exact Bin.addStr (by omega (config := {}))
    · rw [la]; omega (config := {})
    · tm_at "go"
  refine ExOK.if_no (r := mkP r ns != mkP r ns) (st₁ := st) ?_ (by simp) ?_
  · apply TsOK.cmp
    · tm_at "go"
    · exact hmk
    · exact Cmp.neStr
    · rfl
  refine ExOK.asgC (v := .lst (strsSV (slotP r ns))) (st₁ := st) (by kernel_rfl) ?_ (fun _ => rfl) (ExOK.sub (by tm_at "ls") h)
  have el : strsSV (slotP r ns) = [.str r] ++ (strsSV ns).map (fun y => match y with | .str x => .str (Txt.lower x) | y => y) := by
    unfold strsSV slotP
    rw [List.map_cons, List.map_map, List.map_map]
    rfl
  rw [el]
  apply EvOK.bin
  · tm_at "go"
  · refine EvOK.compMap (st₁ := st) (xs := strsSV ns) (fun y => match y with | .str x => .str (Txt.lower x) | y => y) ?_ rfl (by decide +kernel) (by decide +kernel) (by decide +kernel) ?_ (by kernel_rfl) ?_ (by simp; omega (config := {})) ?_ (fun _ _ => rfl)
    · tm_at "go"
    · intro y hy
      have : (xScope (match sVal (lawBody[8]?.getD default) with | Expr.BinOp _ _ r _ => r | _ => default)).names.all (fun z => z.2 != .free || lawKs.lookup z.1 == some .cell) = true := by decide +kernel
      have := List.all_eq_true.mp this (y, .free) hy
      simpa using this
    · intro y hy acc
      obtain ⟨x, hx, rfl⟩ := List.mem_map.mp hy
      have hxl := hns.2 x hx
      have fx : Builtin.Str.tooLong (Txt.lower x).length = false := fit_lower (by omega (config := {}))
      show EvOK _ _ (Expr.Call (Expr.Attribute _ _ _) _ _ _) _ _ (.str (Txt.lower x)) _
      tm_at "go"
      exact fx
    · have : ∀ l : List Str, calms st.length ((strsSV l).map (fun y => match y with | .str x => .str (Txt.lower x) | y => y)) = true := fun l => by
        induction l with
        | nil => rfl
        | cons x l ih => show (true && calms st.length ((strsSV l).map _)) = true; rw [ih]; rfl
      exact this _
  · exact Bin.addLst rfl rfl (by simp; omega (config := {}))
end
end

section
section
variable {V : Cx} {G : Gm} {loc loc₁ loc₂ : Loc} {st st₁ st₂ st₃ : St} {n m : Nat}
theorem cp_x {X : Type} (e : X → SV) {C : St → Prop} {x : Str} {ifs : List Expr} {elt : Expr} (hk : G.ks.lookup x = some .local) (hsub : ∀ y, LSub (setL x y loc) loc) (hC : ∀ ys, C (st ++ [ys])) (b : X → Bool) (g : X → SV) : ∀ (xs : List X) (acc : List SV), (∀ y ∈ xs, ∀ acc, IfsOK V G ifs (setL x (e y) loc) (st ++ [acc]) (b y)) →
    (∀ y ∈ xs, b y = true → ∀ acc, EvOK V G elt (setL x (e y) loc) (st ++ [acc]) (g y) (st ++ [acc])) → acc.length + xs.length ≤ 100000 → CpOK V G C x ifs elt (xs.map e) acc loc st (acc ++ (xs.filter b).map g)
  | [], acc, _, _, _ => by
    rw [List.filter_nil, List.map_nil, List.map_nil, List.append_nil]
    exact .nil (hC _)
  | y :: xs, acc, hi, he, hl => by
    have hZ : sizeLine = 16777216 := rfl
    rw [List.length_cons] at hl
    have test := hi y List.mem_cons_self acc
    rw [List.map_cons]
    cases hb : b y with
    | true =>
      rw [hb] at test
      rw [List.filter_cons_of_pos hb, List.map_cons, show acc ++ g y :: (xs.filter b).map g = (acc ++ [g y]) ++ (xs.filter b).map g by simp]
      refine CpOK.step hk (hC _) test (acc' := acc ++ [g y]) ?_ (CpOK.sub (hsub (e y)) (cp_x e hk hsub hC b g xs (acc ++ [g y]) (fun z hz => hi z (List.mem_cons_of_mem _ hz)) (fun z hz => he z (List.mem_cons_of_mem _ hz)) (by simp; omega)))
      rw [if_pos rfl]
      exact ⟨g y, he y List.mem_cons_self hb acc, rfl, by omega⟩
    | false =>
      rw [hb] at test
      rw [List.filter_cons_of_neg (by simp [hb])]
      refine CpOK.step hk (hC _) test (acc' := acc) ?_ (CpOK.sub (hsub (e y)) (cp_x e hk hsub hC b g xs acc (fun z hz => hi z (List.mem_cons_of_mem _ hz)) (fun z hz => he z (List.mem_cons_of_mem _ hz)) (by omega)))
      rw [if_neg Bool.false_ne_true]
theorem eqv_strs : ∀ l r : List Str, PyData.eqvAll (l.map .str) (r.map .str) = (l == r)
  | [], [] => rfl
  | [], _ :: _ => rfl
  | _ :: _, [] => rfl
  | x :: l, y :: r => by
    show (PyData.eqv (.str x) (.str y) && PyData.eqvAll (l.map .str) (r.map .str)) = (x == y && l == r)
    rw [eqv_strs l r]; rfl
theorem Cmp.eqStrs {l r : List Str} (hl : ∀ x ∈ l, PyData.strOk x = true) (hr : ∀ x ∈ r, PyData.strOk x = true) : Cmp V n .Eq (.lst (strsSV l)) (.lst (strsSV r)) st (l == r) := by
  have q := Cmp.eqD (V := V) (n := n) (st := st) (a := .lst (strsSV l)) (b := .lst (strsSV r)) (da := .list (l.map .str)) (db := .list (r.map .str)) (.lst _ _ (Pds.strs l)) (.lst _ _ (Pds.strs r)) (shaped_strs hl) (shaped_strs hr)
  rwa [show PyData.eqv (.list (l.map .str)) (.list (r.map .str)) = (l == r) from eqv_strs l r] at q
theorem Cmp.neStrs {l r : List Str} (hl : ∀ x ∈ l, PyData.strOk x = true) (hr : ∀ x ∈ r, PyData.strOk x = true) : Cmp V n .NotEq (.lst (strsSV l)) (.lst (strsSV r)) st (l != r) := by
  have q := Cmp.neD (V := V) (n := n) (st := st) (a := .lst (strsSV l)) (b := .lst (strsSV r)) (da := .list (l.map .str)) (db := .list (r.map .str)) (.lst _ _ (Pds.strs l)) (.lst _ _ (Pds.strs r)) (shaped_strs hl) (shaped_strs hr)
  rwa [show PyData.eqv (.list (l.map .str)) (.list (r.map .str)) = (l == r) from eqv_strs l r] at q
theorem calms_parts {k m : Nat} (hk : k < m) : ∀ l : List (Option Str), calms m (l.map (partSV k)) = true
  | [] => rfl
  | none :: l => by show (decide (k < m) && calms m (l.map (partSV k))) = true; rw [calms_parts hk l]; simpa using hk
  | some x :: l => by show (true && calms m (l.map (partSV k))) = true; rw [calms_parts hk l]; rfl
theorem calm_ln {k m : Nat} (hk : k < m) (l : Ln) : calm m (lnSV k l) = true := by
  show (calms m (strsSV l.slot) && (true && (true && (true && (true && (calms m (strsSV l.row) && (calms m (l.ex.map (partSV k)) && (calms m (l.un.map (partSV k)) && true)))))))) = true
  rw [calms_strs, calms_strs, calms_parts hk, calms_parts hk]; rfl
theorem calms_ln {k m : Nat} (hk : k < m) : ∀ ls : List Ln, calms m (ls.map (lnSV k)) = true
  | [] => rfl
  | l :: ls => by show (calm m (lnSV k l) && calms m (ls.map (lnSV k))) = true; rw [calm_ln hk l, calms_ln hk ls]; rfl
noncomputable abbrev stB : List Stmt := fBody lawBody 9
noncomputable abbrev cKs (s : Stmt) : List (Str × NameKind) := compKs lawKs (cScope s).names

theorem here_cp {cd : Value} {k : Nat} {ls : List Ln} {slot : List Str} (gb : Gb V) (hs : ∀ x ∈ slot, PyData.strOk x = true) (hl : ∀ l ∈ ls, ∀ x ∈ l.slot, PyData.strOk x = true) (hz : ls.length ≤ 1000) : 
    CpOK V ⟨m, cKs (stB[1]?.getD default), cd⟩ (fun _ => True) "line" (cIfs (stB[1]?.getD default)) (cElt (stB[1]?.getD default)) (ls.map (lnSV k)) [] [("slot", .lst (strsSV slot))] st ((ls.filter fun l => l.slot == slot).map (lnSV k)) := by
  refine cp_x (lnSV k) (loc := [("slot", .lst (strsSV slot))]) (st := st) (by kernel_rfl) (fun y => by tm_at "ls") (fun _ => trivial) (fun l => l.slot == slot) (lnSV k) ls [] (fun l hm acc => ?_) (fun l hm hb acc => ?_) (by simp; omega)
  · show IfsOK _ _ [Expr.Compare _ _ _ _] _ _ _
    apply IfsOK.one
    apply TsOK.cmp
    · apply EvOK.sub
      · tm_at "go"
      · tm_at "go"
      · exact Sub.ln (j := 0) (by decide) (by decide) rfl rfl
      · rfl
    · tm_at "go"
    · exact Cmp.eqStrs (hl l hm) hs
    · rfl
  · show EvOK _ _ (Expr.Name _ _) _ _ _ _
    tm_at "go"
noncomputable abbrev valP (q : Nat) : Str := if q % 4 = 2 then "" else Str.ofString (toString ((q : Nat) : Int))
noncomputable abbrev vaL (k : Nat) (ls : List Ln) (p n : Nat) (w : Way) (text : Str) (slot : List Str) (hr : List Ln) : Loc := [("star", .obj k), ("book", .book), ("lines", .lst (ls.map (lnSV k))), ("place", .int (p : Nat)), ("kind", .int ((n % 6 : Nat) : Int)), ("lead", .int (w.lead : Nat)), ("row", .lst (strsSV w.row)), ("spelled", .str w.sp), ("text", .str text), ("slot", .lst (strsSV slot)), ("value", .str (valP p)), ("here", .lst (hr.map (lnSV k)))]
theorem law_b0 {cd : Value} {k : Nat} {ls : List Ln} {q n : Nat} {w : Way} {text : Str} {slot : List Str} {out : Out} {loc' : Loc} {st' : St} (gb : Gb V) (hk : k < st.length) (hq : q ≤ 100) (hs : ∀ x ∈ slot, PyData.strOk x = true) (hl : ∀ l ∈ ls, ∀ x ∈ l.slot, PyData.strOk x = true) (hz : ls.length ≤ 1000)
    (h : ExOK V ⟨m, lawKs, cd⟩ (stB.drop 2) (vaL k ls q n w text slot (ls.filter fun l => l.slot == slot)) st out loc' st') : ExOK V ⟨m, lawKs, cd⟩ stB (txL k ls q n w text slot) st out loc' st' := by
  show ExOK _ _ (_ :: _ :: _) _ _ _ _ _
  refine ExOK.asgL (v := .str (valP q)) (st₁ := st) (by kernel_rfl) ?_ (fun _ => rfl) ?_
  · have e : SV.str (valP q) = if (((q % 4 : Nat) : Int) == 2) = true then SV.str "" else SV.str (Str.ofString (toString ((q : Nat) : Int))) := by
      unfold valP
      by_cases h2 : q % 4 = 2
      · rw [if_pos h2, if_pos (by rw [h2]; rfl)]
      · rw [if_neg h2, if_neg (by simp; omega)]
    rw [e]
    show EvOK _ _ (Expr.IfExp _ _ _ _) _ _ _ _
    apply EvOK.if'
    · refine TsOK.cmp (a := .int ((q % 4 : Nat) : Int)) (b := .int 2) (st₁ := st) (st₂ := st) ?_ ?_ ?_ ?_
      · rw [← fmod_nat q 4]
        apply EvOK.bin
        · tm_at "go"
        · tm_at "go"
        · exact Bin.modInt (by decide)
      · tm_at "go"
      · exact Cmp.eqInt
      · rfl
    · intro _
      tm_at "go"
    · intro _
      tm_at "go"
      have : ((q : Int).natAbs) = q := by omega
      rw [this]
      exact Nat.lt_of_le_of_lt (Nat.log2_le_self q) (by omega)
  refine ExOK.cons (loc₁ := setL "here" (.lst ((ls.filter fun l => l.slot == slot).map (lnSV k))) (setL "value" (.str (valP q)) (txL k ls q n w text slot))) (st₁ := st) ?_ (ExOK.sub (by tm_at "ls") h)
  refine StOK.asComp (a := .lst (ls.map (lnSV k))) (st₁ := st) (C := fun _ => True) (xs := ls.map (lnSV k)) ?_ .lst (fun _ => trivial) rfl (by decide +kernel) (by decide +kernel) (by decide +kernel) ?_ (CpOK.sub ?_ (here_cp gb hs hl hz)) (calms_ln hk _) (fun _ _ => rfl) (by kernel_rfl) (by kernel_rfl) (by kernel_rfl)
  · tm_at "go"
  · intro y hy
    have : (cScope (stB[1]?.getD default)).names.all (fun z => z.2 != .free || lawKs.lookup z.1 == some .cell) = true := by decide +kernel
    have := List.all_eq_true.mp this (y, .free) hy
    simpa using this
  · refine LSub.cons (lookup_locC (by kernel_rfl) ?_) .nil
    tm_at "lk"
end
end

section
structure LnOk (l : Ln) : Prop where
  slot : ∀ x ∈ l.slot, PyData.strOk x = true
  text : PyData.strOk l.text = true
  value : PyData.strOk l.value = true
  spelled : PyData.strOk l.spelled = true
  row : ∀ x ∈ l.row, PyData.strOk x = true
  ex : ∀ p, some p ∈ l.ex → PyData.strOk p = true
  un : ∀ p, some p ∈ l.un → PyData.strOk p = true
noncomputable def partD : Option Str → PyData
  | none => .list [.str "any run"]
  | some p => .str p
noncomputable def lnD (l : Ln) : PyData := .tuple [.list (l.slot.map .str), .str l.text, .str l.value, .str l.spelled, .int (l.lead : Nat), .list (l.row.map .str), .list (l.ex.map partD), .list (l.un.map partD)]

structure Bp (V : Cx) (K : PySem.W.Frag) (C dx l : Addr) (od : Obj) (fc fg fd fs fa fe fi : Addr) : Prop where
  bk : Bk V K C dx od l
  cv : Cv V
  hc : M_conv V K C fc
  hg : M_get V K C fg
  hd : M_del V K C fd
  hs : M_set V K C fs
  ha : M_add V K C fa
  he : M_setdefault V K C fe
  hi : M_items V K C fi
  ds : D_store V
  sy : sysModules < V.h₀.objs.size
section
variable {V : Cx} {G : Gm} {loc loc₁ loc₂ : Loc} {st st₁ st₂ st₃ : St} {n m : Nat} {K : PySem.W.Frag} {C dx l : Addr} {od : Obj} {fc fg fd fs fa fe fi : Addr}
theorem Pds.map {X : Type} {f : X → SV} {g : X → PyData} : ∀ (l : List X), (∀ x ∈ l, Pd st (f x) (g x)) → Pds st (l.map f) (l.map g)
  | [], _ => .nil
  | x :: l, h => .cons _ _ _ _ (h x List.mem_cons_self) (Pds.map l fun y hy => h y (List.mem_cons_of_mem _ hy))
theorem canLay_map {X : Type} {g : X → PyData} {d : Nat} : ∀ (l : List X), (∀ x ∈ l, PyData.canLay0 (g x) = true ∧ PyData.depth (g x) ≤ d) → PyData.canLayAll0 (l.map g) = true ∧ PyData.depthAll (l.map g) ≤ d
  | [], _ => ⟨rfl, Nat.zero_le _⟩
  | x :: l, h => by
    obtain ⟨a, b⟩ := canLay_map l fun y hy => h y (List.mem_cons_of_mem _ hy)
    obtain ⟨c, e⟩ := h x List.mem_cons_self
    constructor
    · simp only [List.map_cons, PyData.canLayAll0, a, c]; rfl
    · simp only [List.map_cons, PyData.depthAll]
      omega
theorem Pd.part {k : Nat} (hk : st[k]? = some [SV.str "any run"]) : ∀ p : Option Str, Pd st (partSV k p) (partD p)
  | Option.none => .obj _ _ _ hk (.cons _ _ _ _ (.str _) .nil)
  | Option.some p => .str p
theorem canLay_parts (l : List (Option Str)) (h : ∀ p, some p ∈ l → PyData.strOk p = true) : PyData.canLayAll0 (l.map partD) = true ∧ PyData.depthAll (l.map partD) ≤ 1 := by
  refine canLay_map l fun p hp => ?_
  cases p with
  | none => exact ⟨by decide +kernel, by decide +kernel⟩
  | some p => exact ⟨h p hp, Nat.zero_le _⟩
theorem Pd.ln {k : Nat} (hk : st[k]? = some [SV.str "any run"]) (l : Ln) : Pd st (lnSV k l) (lnD l) :=
  .tup _ _ (.cons _ _ _ _ (.lst _ _ (Pds.strs _)) (.cons _ _ _ _ (.str _) (.cons _ _ _ _ (.str _) (.cons _ _ _ _ (.str _) (.cons _ _ _ _ (.int _) (.cons _ _ _ _ (.lst _ _ (Pds.strs _)) (.cons _ _ _ _ (.lst _ _ (Pds.map _ fun p _ => Pd.part hk p)) (.cons _ _ _ _ (.lst _ _ (Pds.map _ fun p _ => Pd.part hk p)) .nil))))))))
theorem canLay_ln {l : Ln} (h : LnOk l) : PyData.canLay0 (lnD l) = true ∧ PyData.depth (lnD l) ≤ 3 := by
  obtain ⟨a1, a2⟩ := canLay_strs l.slot h.slot
  obtain ⟨b1, b2⟩ := canLay_strs l.row h.row
  obtain ⟨c1, c2⟩ := canLay_parts l.ex h.ex
  obtain ⟨d1, d2⟩ := canLay_parts l.un h.un
  unfold lnD
  constructor
  · simp only [PyData.canLay0, PyData.canLayAll0, a1, b1, c1, d1, h.text, h.value, h.spelled]; rfl
  · simp only [PyData.depth, PyData.depthAll]
    omega
theorem shaped_of {ds : List PyData} {d : Nat} (h : PyData.canLayAll0 ds = true ∧ PyData.depthAll ds ≤ d) (hd : d < 64) : SeqAt.shaped (.list ds) = true := by
  unfold SeqAt.shaped
  simp only [PyData.canLay0, PyData.depth, h.1]
  simp; omega
theorem lines_D {k : Nat} (hk : st[k]? = some [SV.str "any run"]) {ls : List Ln} (h : ∀ l ∈ ls, LnOk l) : Pd st (.lst (ls.map (lnSV k))) (.list (ls.map lnD)) ∧ SeqAt.shaped (.list (ls.map lnD)) = true :=
  ⟨.lst _ _ (Pds.map _ fun l _ => Pd.ln hk l), shaped_of (canLay_map ls fun l hl => canLay_ln (h l hl)) (by decide)⟩
theorem eqv_nil {ds : List PyData} : PyData.eqv (.list ds) (.list []) = ds.isEmpty := by cases ds <;> rfl
theorem Cmp.eqNoLines {k : Nat} (hk : st[k]? = some [SV.str "any run"]) {ls : List Ln} (h : ∀ l ∈ ls, LnOk l) : Cmp V n .Eq (.lst (ls.map (lnSV k))) (.lst []) st ls.isEmpty := by
  obtain ⟨a, b⟩ := lines_D hk h
  have q := Cmp.eqD (V := V) (n := n) a (.lst [] [] .nil) b (by decide)
  rw [eqv_nil] at q
  simpa using q
theorem Cmp.neNoLines {k : Nat} (hk : st[k]? = some [SV.str "any run"]) {ls : List Ln} (h : ∀ l ∈ ls, LnOk l) : Cmp V n .NotEq (.lst (ls.map (lnSV k))) (.lst []) st (!ls.isEmpty) := by
  obtain ⟨a, b⟩ := lines_D hk h
  have q := Cmp.neD (V := V) (n := n) a (.lst [] [] .nil) b (by decide)
  rw [eqv_nil] at q
  simpa using q
theorem ss_D (hs : List (Str × Str)) (h : ∀ p ∈ hs, PyData.strOk p.1 = true ∧ PyData.strOk p.2 = true) : Cmp V n .NotEq (.lst (hs.map ss)) (.lst (hs.map ss)) st false := by
  have p : Pd st (.lst (hs.map ss)) (.list (hs.map fun p => PyData.tuple [.str p.1, .str p.2])) := .lst _ _ (Pds.map _ fun p _ => .tup _ _ (.cons _ _ _ _ (.str _) (.cons _ _ _ _ (.str _) .nil)))
  have c := canLay_map (g := fun p : Str × Str => PyData.tuple [.str p.1, .str p.2]) (d := 1) hs fun p hp => by
    obtain ⟨a, b⟩ := h p hp
    constructor
    · simp only [PyData.canLay0, PyData.canLayAll0, a, b]; rfl
    · simp only [PyData.depth, PyData.depthAll]; omega
  have z := shaped_of c (by decide)
  have q := Cmp.neD (V := V) (n := n) p p z z
  rwa [SeqAt.eqv_refl _ (SeqAt.canLay_of_shaped z)] at q

noncomputable def deedH (kind : Nat) (x y : Str) (hs : List (Str × Str)) : List (Str × Str) := if kind = 0 then hs ++ [(x, y)] else if kind = 1 then delL x hs ++ [(x, y)] else sdfL x y hs
noncomputable def deedL (kind : Nat) (slot : List Str) (ls : List Ln) : List Ln := if kind = 1 then ls.filter (fun l => l.slot != slot) else ls
theorem filt_cp {cd : Value} {k : Nat} {ls : List Ln} {slot : List Str} (gb : Gb V) (hs : ∀ x ∈ slot, PyData.strOk x = true) (hl : ∀ l ∈ ls, ∀ x ∈ l.slot, PyData.strOk x = true) (hz : ls.length ≤ 1000) (s : Stmt) (hsd : s = ((match (stB[2]?.getD default) with | .If _ _ [.If _ b _ _] _ => b | _ => [])[1]?).getD default) : 
    CpOK V ⟨m, cKs s, cd⟩ (fun _ => True) "line" (cIfs s) (cElt s) (ls.map (lnSV k)) [] [("slot", .lst (strsSV slot))] st ((ls.filter fun l => l.slot != slot).map (lnSV k)) := by
  subst hsd
  refine cp_x (lnSV k) (loc := [("slot", .lst (strsSV slot))]) (st := st) (by kernel_rfl) (fun y => by tm_at "ls") (fun _ => trivial) (fun l => l.slot != slot) (lnSV k) ls [] (fun l hm acc => ?_) (fun l hm hb acc => ?_) (by simp; omega)
  · show IfsOK _ _ [Expr.Compare _ _ _ _] _ _ _
    apply IfsOK.one
    apply TsOK.cmp
    · apply EvOK.sub
      · tm_at "go"
      · tm_at "go"
      · exact Sub.ln (j := 0) (by decide) (by decide) rfl rfl
      · rfl
    · tm_at "go"
    · exact Cmp.neStrs (hl l hm) hs
    · rfl
  · show EvOK _ _ (Expr.Name _ _) _ _ _ _
    tm_at "go"
end
end

section
section
variable {V : Cx} {G : Gm} {loc loc₁ loc₂ : Loc} {st st₁ st₂ st₃ : St} {n m : Nat} {K : PySem.W.Frag} {C dx l : Addr} {od : Obj} {fc fg fd fs fa fe fi : Addr}
theorem set_ne {k i : Nat} {xs ys : List SV} (h : st[k]? = some xs) (hne : k ≠ i) : (st.set i ys)[k]? = some xs := by
  rw [List.getElem?_set]
  rw [if_neg (Ne.symm hne)]; exact h
theorem deedL_sub {kind : Nat} {slot : List Str} {ls : List Ln} : ∀ l ∈ deedL kind slot ls, l ∈ ls := by
  unfold deedL
  split
  · intro l hl; exact (List.mem_filter.mp hl).1
  · exact fun _ h => h

theorem law_b1 {cd : Value} {k : Nat} {ls hr : List Ln} {hs : List (Str × Str)} {q n : Nat} {w : Way} {text : Str} {slot : List Str} {out : Out} {loc' : Loc} {st' : St} (bp : Bp V K C dx l od fc fg fd fs fa fe fi) (hk : st[k]? = some [SV.str "any run"]) (hkb : k ≠ V.bi) (hB : st[V.bi]? = some (hs.map ss)) (hh : HsOk hs) (hx : NmOk text) (hy : Clean (valP q)) (hyl : (valP q).length ≤ 1000)
    (hn : n % 6 < 3) (hsl : ∀ x ∈ slot, PyData.strOk x = true) (hl : ∀ l ∈ ls, LnOk l) (hrl : ∀ l ∈ hr, LnOk l) (hz : ls.length ≤ 1000) (hv : n % 6 = 2 → (getL text hs).getD (valP q) = (hr.head?.map (·.value)).getD (valP q))
    (h : ExOK V ⟨m + 5, lawKs, cd⟩ (stB.drop 3) (vaL k (deedL (n % 6) slot ls) q n w text slot hr) (st.set V.bi ((deedH (n % 6) text (valP q) hs).map ss)) out loc' st') : ExOK V ⟨m + 5, lawKs, cd⟩ (stB.drop 2) (vaL k ls q n w text slot hr) st out loc' st' := by
  have hkl : k < st.length := (List.getElem?_eq_some_iff.mp hk).1
  have gb := bp.cv.gb
  have ds := bp.ds
  show ExOK _ _ (_ :: _) _ _ _ _ _
  by_cases h0 : n % 6 = 0
  · have e1 : deedL (n % 6) slot ls = ls := by unfold deedL; rw [if_neg (by omega)]
    have e2 : deedH (n % 6) text (valP q) hs = hs ++ [(text, valP q)] := by unfold deedH; rw [if_pos h0]
    rw [e1, e2] at h
    refine ExOK.if_t (r := (((n % 6 : Nat) : Int) == 0)) (st₁ := st) (st₂ := st.set V.bi ((hs ++ [(text, valP q)]).map ss)) (loc₁ := vaL k ls q n w text slot hr) ?_ (by simp [h0]) ?_ h
    · tm_at "go"
    · show ExOK _ _ [_] _ _ _ _ _
      refine ExOK.expr' (v := .none) (st₁ := st.set V.bi ((hs ++ [(text, valP q)]).map ss)) ?_ .none (fun _ => rfl) .nil
      refine EvOK.meth (st₁ := st) ?_ (GmOK.bookM bp.bk bp.ha) (CwOK.meth (kw := []) bp.ha rfl rfl (vs := [.str text, .str (valP q)]) (st₁ := st) (st₂ := st) ?_ .nil (add_ok bp.bk bp.cv bp.hc bp.ha hx hy hyl hh hB bp.sy)) (fun _ => rfl) rfl rfl rfl rfl
      · tm_at "go"
      · tm_at "go"
  · by_cases h1 : n % 6 = 1
    · have e1 : deedL (n % 6) slot ls = ls.filter (fun l => l.slot != slot) := by unfold deedL; rw [if_pos h1]
      have e2 : deedH (n % 6) text (valP q) hs = delL text hs ++ [(text, valP q)] := by unfold deedH; rw [if_neg h0, if_pos h1]
      rw [e1, e2] at h
      refine ExOK.if_f (r := (((n % 6 : Nat) : Int) == 0)) (st₁ := st) (st₂ := st.set V.bi ((delL text hs ++ [(text, valP q)]).map ss)) (loc₁ := vaL k (ls.filter (fun l => l.slot != slot)) q n w text slot hr) ?_ (by simp; omega) ?_ h
      · tm_at "go"
      · show ExOK _ _ [_] _ _ _ _ _
        refine ExOK.if_t (r := (((n % 6 : Nat) : Int) == 1)) (st₁ := st) (st₂ := st.set V.bi ((delL text hs ++ [(text, valP q)]).map ss)) (loc₁ := vaL k (ls.filter (fun l => l.slot != slot)) q n w text slot hr) ?_ (by simp; omega) ?_ .nil
        · tm_at "go"
        show ExOK _ _ [_, _] _ _ _ _ _
        refine ExOK.expr' (v := .none) (st₁ := st.set V.bi ((delL text hs ++ [(text, valP q)]).map ss)) ?_ .none (fun _ => rfl) ?_
        · apply EvOK.call
          · exact EvOK.gf gb.pg ds (by kernel_rfl) (by kernel_rfl)
          · apply CwOK.gf0 ds
            · rfl
            · tm_at "go"
            · exact store_ok (n := m + 1) bp.bk bp.cv bp.hc bp.hd bp.hs ds hx hy hyl hh hB
        refine ExOK.cons (loc₁ := setL "lines" (.lst ((ls.filter fun l => l.slot != slot).map (lnSV k))) (vaL k ls q n w text slot hr)) (st₁ := st.set V.bi ((delL text hs ++ [(text, valP q)]).map ss)) ?_ (ExOK.sub (l' := vaL k (ls.filter (fun l => l.slot != slot)) q n w text slot hr) (by tm_at "ls") .nil)
        refine StOK.asComp (a := .lst (ls.map (lnSV k))) (st₁ := st.set V.bi ((delL text hs ++ [(text, valP q)]).map ss)) (C := fun _ => True) (xs := ls.map (lnSV k)) ?_ .lst (fun _ => trivial) rfl (by decide +kernel) (by decide +kernel) (by decide +kernel) ?_ (CpOK.sub ?_ (filt_cp gb hsl (fun l h => (hl l h).slot) hz _ rfl)) (calms_ln (by rw [List.length_set]; exact hkl) _) (fun _ _ => rfl) (by kernel_rfl) (by kernel_rfl) (by kernel_rfl)
        · tm_at "go"
        · intro y hy
          have : (cScope (((match (stB[2]?.getD default) with | .If _ _ [.If _ b _ _] _ => b | _ => [])[1]?).getD default)).names.all (fun z => z.2 != .free || lawKs.lookup z.1 == some .cell) = true := by decide +kernel
          have := List.all_eq_true.mp this (y, .free) hy
          simpa using this
        · refine LSub.cons (lookup_locC (by kernel_rfl) ?_) .nil
          tm_at "lk"
    · have h2 : n % 6 = 2 := by omega
      have e1 : deedL (n % 6) slot ls = ls := by unfold deedL; rw [if_neg h1]
      have e2 : deedH (n % 6) text (valP q) hs = sdfL text (valP q) hs := by unfold deedH; rw [if_neg h0, if_neg h1]
      rw [e1, e2] at h
      have hk' : (st.set V.bi ((sdfL text (valP q) hs).map ss))[k]? = some [SV.str "any run"] := set_ne hk hkb
      refine ExOK.if_f (r := (((n % 6 : Nat) : Int) == 0)) (st₁ := st) (st₂ := st.set V.bi ((sdfL text (valP q) hs).map ss)) (loc₁ := vaL k ls q n w text slot hr) ?_ (by simp; omega) ?_ h
      · tm_at "go"
      · show ExOK _ _ [_] _ _ _ _ _
        refine ExOK.if_f (r := (((n % 6 : Nat) : Int) == 1)) (st₁ := st) (st₂ := st.set V.bi ((sdfL text (valP q) hs).map ss)) (loc₁ := vaL k ls q n w text slot hr) ?_ (by simp; omega) ?_ .nil
        · tm_at "go"
        show ExOK _ _ [_] _ _ _ _ _
        refine ExOK.if_no (r := ((getL text hs).getD (valP q) != (hr.head?.map (·.value)).getD (valP q))) (st₁ := st.set V.bi ((sdfL text (valP q) hs).map ss)) ?_ (by rw [hv h2]; simp) .nil
        refine TsOK.cmp (a := .str ((getL text hs).getD (valP q))) (b := .str ((hr.head?.map (·.value)).getD (valP q))) (st₁ := st.set V.bi ((sdfL text (valP q) hs).map ss)) (st₂ := st.set V.bi ((sdfL text (valP q) hs).map ss)) ?_ ?_ Cmp.neStr rfl
        · refine EvOK.meth (st₁ := st) ?_ (GmOK.bookM bp.bk bp.he) (CwOK.meth (kw := []) bp.he rfl rfl (vs := [.str text, .str (valP q)]) (st₁ := st) (st₂ := st) ?_ .nil (setdefault_ok (n := m + 2) bp.bk bp.cv bp.hc bp.hg bp.he hx hy hyl hh hB)) (fun _ => rfl) rfl rfl rfl rfl
          · tm_at "go"
          · tm_at "go"
        · cases hr with
          | nil =>
            show EvOK _ _ (Expr.IfExp _ _ _ _) _ _ (.str (valP q)) _
            refine EvOK.ifexp_false (st₁ := st.set V.bi ((sdfL text (valP q) hs).map ss)) ?_ ?_
            · have qq := Cmp.neNoLines (V := V) (n := m + 5) hk' (ls := []) (by intro l h; cases h)
              refine TsOK.cmp (a := .lst ([].map (lnSV k))) (b := .lst []) (st₁ := st.set V.bi ((sdfL text (valP q) hs).map ss)) (st₂ := st.set V.bi ((sdfL text (valP q) hs).map ss)) ?_ ?_ qq rfl
              · tm_at "go"
              · tm_at "go"
            · tm_at "go"
          | cons r hr =>
            show EvOK _ _ (Expr.IfExp _ _ _ _) _ _ (.str r.value) _
            refine EvOK.ifexp_true (st₁ := st.set V.bi ((sdfL text (valP q) hs).map ss)) ?_ ?_
            · have qq := Cmp.neNoLines (V := V) (n := m + 5) hk' (ls := r :: hr) hrl
              refine TsOK.cmp (a := .lst ((r :: hr).map (lnSV k))) (b := .lst []) (st₁ := st.set V.bi ((sdfL text (valP q) hs).map ss)) (st₂ := st.set V.bi ((sdfL text (valP q) hs).map ss)) ?_ ?_ qq rfl
              · tm_at "go"
              · tm_at "go"
            · refine EvOK.sub (o := lnSV k r) (i := .int 2) (st₁ := st.set V.bi ((sdfL text (valP q) hs).map ss)) (st₂ := st.set V.bi ((sdfL text (valP q) hs).map ss)) ?_ ?_ ?_ ?_
              · apply EvOK.sub
                · tm_at "go"
                · tm_at "go"
                · exact Sub.lst (v := lnSV k r) rfl (by omega) (by omega) rfl
                · rfl
              · tm_at "go"
              · exact Sub.ln (j := 2) (by decide) (by decide) rfl rfl
              · rfl
end
end

section
structure BarOk (f : Int → Option Value) (text : Str) (as as' : List Atom) : Prop where
  len : text.length ≤ 800
  ascii : text.cps.all (· < 128) = true
  sg : ∀ s ∈ signs text, (Txt.lower s).length ≤ 1 ∧ (Txt.upper s).length ≤ 1 ∧ s.length ≤ 1
  bl : ((signs text).foldl eitherF "").length ≤ 800
  e1 : ((signs text).foldl eitherF "").cps.toList = as.flatMap Atom.txt
  e2 : (join2 ((signs text).foldl eitherF "") "*").cps.toList = as'.flatMap Atom.txt ++ [42]
  ok1 : ∀ a ∈ as, AtomOk f a
  ok2 : ∀ a ∈ as', AtomOk f a
  ne1 : as ≠ []
  ne2 : as' ≠ []
noncomputable abbrev newLn (f : Int → Option Value) (as as' : List Atom) (q : Nat) (w : Way) (text : Str) (slot : List Str) : Ln := ⟨slot, text, valP q, w.sp, w.lead, w.row, trParts f as false, trParts f as' true⟩
noncomputable def nextL (kind : Nat) (hr ls : List Ln) (new : Ln) : List Ln := if kind < 2 ∨ hr = [] then ls ++ [new] else ls
section
variable {V : Cx} {G : Gm} {loc loc₁ loc₂ : Loc} {st st₁ st₂ st₃ : St} {n m : Nat} {K : PySem.W.Frag} {C dx l : Addr} {od : Obj} {fc fg fd fs fa fe fi : Addr} {f : Int → Option Value}
theorem law_b2 {cd : Value} {k : Nat} {ls hr : List Ln} {q n : Nat} {w : Way} {text : Str} {slot : List Str} {as as' : List Atom} {out : Out} {loc' : Loc} {st' : St} (tr : Tr V f) (dt : D_translate V) (de : D_either V) (dj : D_join V) (df : D_fspath V) (dg : D_get_sep V) (hb : BarOk f text as as') (hk : st[k]? = some [SV.str "any run"]) (hrl : ∀ l ∈ hr, LnOk l) (hz : ls.length ≤ 1000)
    (h : ExOK V ⟨m + 5, lawKs, cd⟩ (stB.drop 4) (lawL k (nextL (n % 6) hr ls (newLn f as as' q w text slot))) st out loc' st') : ExOK V ⟨m + 5, lawKs, cd⟩ (stB.drop 3) (vaL k ls q n w text slot hr) st out loc' st' := by
  have hkl : k < st.length := (List.getElem?_eq_some_iff.mp hk).1
  have gb := tr.gb
  have hZ : sizeLine = 16777216 := rfl
  show ExOK _ _ (_ :: _) _ _ _ _ _
  have test : TsOK V ⟨m + 5, lawKs, cd⟩ (fTest stB 3) (vaL k ls q n w text slot hr) st (decide (((n % 6 : Nat) : Int) < 2) || hr.isEmpty) st := by
    show TsOK _ _ (Expr.BoolOp _ [_, _] _) _ _ _ _
    apply TsOK.or2
    · tm_at "go"
    · intro _
      refine TsOK.cmp (a := .lst (hr.map (lnSV k))) (b := .lst []) (st₁ := st) (st₂ := st) ?_ ?_ (Cmp.eqNoLines hk hrl) rfl
      · tm_at "go"
      · tm_at "go"
  by_cases hc : n % 6 < 2 ∨ hr = []
  · have e1 : nextL (n % 6) hr ls (newLn f as as' q w text slot) = ls ++ [newLn f as as' q w text slot] := by unfold nextL; rw [if_pos hc]
    rw [e1] at h
    have ht : (decide (((n % 6 : Nat) : Int) < 2) || hr.isEmpty) = true := by
      rcases hc with hc | hc
      · rw [show decide (((n % 6 : Nat) : Int) < 2) = true from decide_eq_true (by omega)]; rfl
      · rw [hc]; simp
    obtain ⟨E, hE⟩ : ∃ E, (signs text).foldl eitherF "" = E := ⟨_, rfl⟩
    have hbl := hb.bl
    have he1 := hb.e1
    have he2 := hb.e2
    rw [hE] at hbl he1 he2
    have hjl : (join2 E "*").length ≤ 900 := by
      have e0 : ("*" : Str).length = 1 := by decide +kernel
      have e2 : ("/" : Str).length = 1 := by decide +kernel
      unfold join2
      repeat' split
      all_goals (simp only [Str.length_append, e0, e2]; try omega)
    refine ExOK.if_t (st₂ := st) (loc₁ := lawL k (ls ++ [newLn f as as' q w text slot])) test ht ?_ h
    show ExOK _ _ (_ :: _ :: _ :: _ :: _) _ _ _ _ _
    refine ExOK.asgL (v := .str E) (st₁ := st) (by kernel_rfl) ?_ (fun _ => rfl) ?_
    · rw [← hE]
      apply EvOK.call
      · exact EvOK.gf gb.pg de (by kernel_rfl) (by kernel_rfl)
      · apply CwOK.gf0 de
        · rfl
        · tm_at "go"
        · exact either_ok (n := m + 4) gb de (by have := hb.len; omega) hb.ascii hb.sg
    refine ExOK.asgL (v := .lst ((trParts f as false).map (partSV k))) (st₁ := st) (by kernel_rfl) ?_ (fun _ => rfl) ?_
    · obtain ⟨a, fd, o, hm, Fa, _⟩ := id dt
      apply EvOK.call
      · exact EvOK.gl gb.pg hm (by kernel_rfl) (by kernel_rfl)
      · refine CwOK.fn (kw := []) (IsFn.gl hm) Fa rfl rfl (vs := [.str E, .obj k, .str "."]) (st₁ := st) (st₂ := st) ?_ .nil (translate_ok (n := m + 3) (star := false) tr dt hkl (by omega) (by rw [he1]; simp) hb.ok1 hb.ne1)
        tm_at "go"
    refine ExOK.asgL (v := .lst ((trParts f as' true).map (partSV k))) (st₁ := st) (by kernel_rfl) ?_ (fun _ => rfl) ?_
    · obtain ⟨a, fd, o, hm, Fa, _⟩ := id dt
      apply EvOK.call
      · exact EvOK.gl gb.pg hm (by kernel_rfl) (by kernel_rfl)
      · refine CwOK.fn (kw := []) (IsFn.gl hm) Fa rfl rfl (vs := [.str (join2 E "*"), .obj k, .str "."]) (st₁ := st) (st₂ := st) ?_ .nil (translate_ok (n := m + 3) (star := true) tr dt hkl hjl (by rw [he2]; simp) hb.ok2 hb.ne2)
        apply EvsOK.cons
        · rfl
        · apply EvOK.call
          · obtain ⟨a, fd, o, hm, _⟩ := id dj
            exact EvOK.gl gb.pg hm (by kernel_rfl) (by kernel_rfl)
          · obtain ⟨a, fd, o, hm, Fa, _⟩ := id dj
            refine CwOK.fn (kw := []) (IsFn.gl hm) Fa rfl rfl (vs := [.str E, .str "*"]) (st₁ := st) (st₂ := st) ?_ .nil (join_ok (n := m + 3) gb dj df dg (by omega) (by decide +kernel))
            tm_at "go"
        · tm_at "go"
    refine ExOK.asgL (v := .lst ((ls ++ [newLn f as as' q w text slot]).map (lnSV k))) (st₁ := st) (by kernel_rfl) ?_ (fun _ => rfl) (ExOK.sub (l' := lawL k (ls ++ [newLn f as as' q w text slot])) (by tm_at "ls") .nil)
    rw [List.map_append]
    refine EvOK.bin (a := .lst (ls.map (lnSV k))) (b := .lst [lnSV k (newLn f as as' q w text slot)]) (st₁ := st) (st₂ := st) ?_ ?_ (Bin.addLst rfl rfl (by simp; omega))
    · tm_at "go"
    · show EvOK _ _ (Expr.List [Expr.Tuple _ _ _] _) _ _ _ _
      tm_at "go"
  · have e1 : nextL (n % 6) hr ls (newLn f as as' q w text slot) = ls := by unfold nextL; rw [if_neg hc]
    rw [e1] at h
    have ht : (decide (((n % 6 : Nat) : Int) < 2) || hr.isEmpty) = false := by
      rw [show decide (((n % 6 : Nat) : Int) < 2) = false from decide_eq_false (by omega)]
      cases hr with
      | nil => exact absurd (.inr rfl) hc
      | cons => rfl
    exact ExOK.if_no test ht (ExOK.sub (by tm_at "ls") h)
theorem pair_cp {cd : Value} {k : Nat} {ls : List Ln} (gb : Gb V) (hz : ls.length ≤ 2000) (s : Expr) (hs : s = (match fTest stB 4 with | .Compare _ _ [e] _ => e | _ => default)) : 
    CpOK V ⟨m, compKs lawKs (xScope s).names, cd⟩ (fun _ => True) "line" [] (xElt s) (ls.map (lnSV k)) [] [] st ((ls.map fun l => (l.text, l.value)).map ss) := by
  subst hs
  have q := cp_x (V := V) (G := ⟨m, compKs lawKs (xScope (match fTest stB 4 with | .Compare _ _ [e] _ => e | _ => default)).names, cd⟩) (C := fun _ => True) (x := "line") (ifs := []) (elt := xElt (match fTest stB 4 with | .Compare _ _ [e] _ => e | _ => default)) (lnSV k) (loc := []) (st := st) (by kernel_rfl) (fun y => by tm_at "ls") (fun _ => trivial) (fun l => true) (fun l => ss (l.text, l.value)) ls [] (fun l hm acc => IfsOK.nil) (fun l hm hb acc => ?_) (by simp; omega)
  · rw [List.nil_append, List.filter_eq_self.mpr (fun _ _ => rfl)] at q
    rw [List.map_map]
    exact q
  · show EvOK _ _ (Expr.Tuple [_, _] _ _) _ _ (.tup [_, _]) _
    apply EvOK.tup
    · apply EvsOK.cons
      · rfl
      · apply EvOK.sub
        · tm_at "go"
        · tm_at "go"
        · exact Sub.ln (j := 1) (by decide) (by decide) rfl rfl
        · rfl
      · apply EvsOK.cons
        · rfl
        · apply EvOK.sub
          · tm_at "go"
          · tm_at "go"
          · exact Sub.ln (j := 2) (by decide) (by decide) rfl rfl
          · rfl
        · exact .nil
    · show 2 ≤ _; decide
theorem law_b3 {cd : Value} {k : Nat} {ls : List Ln} {hs : List (Str × Str)} (bp : Bp V K C dx l od fc fg fd fs fa fe fi) (hB : st[V.bi]? = some (hs.map ss)) (hh : HsOk hs) (hk : k < st.length) (hz : ls.length ≤ 2000) (he : hs = ls.map fun l => (l.text, l.value)) (hl : ∀ l ∈ ls, LnOk l) : ExOK V ⟨m + 5, lawKs, cd⟩ (stB.drop 4) (lawL k ls) st .next (lawL k ls) st := by
  have gb := bp.cv.gb
  show ExOK _ _ (_ :: _) _ _ _ _ _
  have c : Cmp V (m + 5) .NotEq (.lst (hs.map ss)) (.lst (hs.map ss)) st false := ss_D hs (by
    intro p hp
    rw [he] at hp
    obtain ⟨l, h1, rfl⟩ := List.mem_map.mp hp
    exact ⟨(hl l h1).text, (hl l h1).value⟩)
  refine ExOK.if_no (r := false) (st₁ := st) ?_ rfl .nil
  refine TsOK.cmp (a := .lst (hs.map ss)) (b := .lst (hs.map ss)) (st₁ := st) (st₂ := st) ?_ ?_ c rfl
  · refine EvOK.meth (st₁ := st) ?_ (GmOK.bookM bp.bk bp.hi) (CwOK.meth (kw := []) bp.hi rfl rfl (vs := []) (st₁ := st) (st₂ := st) .nil .nil (items_ok (n := m + 4) bp.bk bp.cv bp.hi hh hB)) (fun _ => rfl) rfl rfl rfl rfl
    tm_at "go"
  · rw [he]
    refine EvOK.comp (a := .lst (ls.map (lnSV k))) (st₁ := st) (C := fun _ => True) (xs := ls.map (lnSV k)) ?_ .lst (fun _ => trivial) rfl (by decide +kernel) (by decide +kernel) (by decide +kernel) ?_ (CpOK.sub .nil (pair_cp gb hz _ rfl)) (calms_ss _ _) (fun _ _ => rfl)
    · tm_at "go"
    · intro y hy
      have : (xScope (match fTest stB 4 with | .Compare _ _ [e] _ => e | _ => default)).names.all (fun z => z.2 != .free || lawKs.lookup z.1 == some .cell) = true := by decide +kernel
      have := List.all_eq_true.mp this (y, .free) hy
      simpa using this
end
end

section
noncomputable abbrev quB : List Stmt := fElse lawBody 9
noncomputable abbrev quL (k : Nat) (ls : List Ln) (text : Str) (slot : List Str) (here : Str) (found : Option Str) : Loc := [("star", .obj k), ("book", .book), ("lines", .lst (ls.map (lnSV k))), ("text", .str text), ("slot", .lst (strsSV slot)), ("here", .str here), ("found", optSV found)]

inductive Climb (hs : List (Str × Str)) : Str → Option Str → Prop
  | hit {x : Str} {v : Str} : NmOk x → getL x hs = some v → Climb hs x (some v)
  | top {x : Str} : NmOk x → getL x hs = none → dirn x = x → Climb hs x none
  | up {x : Str} {r : Option Str} : NmOk x → getL x hs = none → dirn x ≠ x → Climb hs (dirn x) r → Climb hs x r
theorem Climb.nm {hs : List (Str × Str)} {x : Str} {r : Option Str} (h : Climb hs x r) : NmOk x := by cases h <;> assumption
section
variable {V : Cx} {G : Gm} {loc loc₁ loc₂ : Loc} {st st₁ st₂ st₃ : St} {n m : Nat} {K : PySem.W.Frag} {C dx l : Addr} {od : Obj} {fc fg fd fs fa fe fi : Addr}
theorem Cmp.isNoneO {b : Option Str} : Cmp V n .Is (optSV b) .none st b.isNone := by
  cases b with
  | none => exact Cmp.isNone
  | some p => exact Cmp.isNone' (.str p)
theorem Cmp.neOpt {b : Option Str} : Cmp V n .NotEq (optSV b) (optSV b) st false := by
  cases b with
  | none =>
    have q := Cmp.neD (V := V) (n := n) (st := st) Pd.none Pd.none (by decide) (by decide)
    exact q
  | some p =>
    have q := Cmp.neStr (V := V) (n := n) (st := st) (x := p) (y := p)
    rwa [show (p != p) = false by simp] at q
theorem book_get {e : Expr} {p1 p2 p3 : Pos} {x : Str} {hs : List (Str × Str)} (hp : (p2.endLine == p3.line) = true) (bp : Bp V K C dx l od fc fg fd fs fa fe fi) (hk : G.ks.lookup ("book" : Str) = some .local) (hn : ∃ m, G.n = m + 2) (hb : loc.lookup ("book" : Str) = some .book) (he : EvOK V G e loc st (.str x) st) (hs' : notStar e = true) (hB : st[V.bi]? = some (hs.map ss)) (hh : HsOk hs) (hx : NmOk x) : EvOK V G (.Call (.Attribute (.Name "book" p1) "get" p2) [e] [] p3) loc st (optSV (getL x hs)) st := by
  have gb := bp.cv.gb
  obtain ⟨m, hn⟩ := hn
  refine EvOK.meth (st₁ := st) ?_ (GmOK.bookM bp.bk bp.hg) (CwOK.meth (kw := []) bp.hg (by simp [hs']) rfl (vs := [.str x]) (st₁ := st) (st₂ := st) ?_ .nil (by rw [hn]; exact get_ok (n := m) bp.bk bp.cv bp.hc bp.hg hx hh hB)) (fun _ => rfl) (by simp [hs']) rfl rfl hp
  · exact EvOK.lclA hk (by decide +kernel) hb
  · exact .cons hs' he .nil
theorem climb_loop {cd : Value} {k : Nat} {ls : List Ln} {text : Str} {slot : List Str} {hs : List (Str × Str)} (bp : Bp V K C dx l od fc fg fd fs fa fe fi) (dd : D_dirname V) (df : D_fspath V) (dg : D_get_sep V) (hB : st[V.bi]? = some (hs.map ss)) (hh : HsOk hs) : ∀ {here : Str} {r : Option Str}, Climb hs here r →
    ∃ h', WhOK V ⟨m + 5, lawKs, cd⟩ (fTest quB 2) (fBody quB 2) (quL k ls text slot here (getL here hs)) st .next (quL k ls text slot h' r) st := by
  have gb := bp.cv.gb
  have test : ∀ here : Str, NmOk here → TsOK V ⟨m + 5, lawKs, cd⟩ (fTest quB 2) (quL k ls text slot here (getL here hs)) st ((getL here hs).isNone && (dirn here != here)) st := by
    intro here hx
    show TsOK _ _ (Expr.BoolOp _ [_, _] _) _ _ _ _
    apply TsOK.and2
    · refine TsOK.cmp (a := optSV (getL here hs)) (b := .none) (st₁ := st) (st₂ := st) ?_ ?_ Cmp.isNoneO rfl
      · tm_at "go"
      · tm_at "go"
    · intro _
      refine TsOK.cmp (a := .str (dirn here)) (b := .str here) (st₁ := st) (st₂ := st) ?_ ?_ Cmp.neStr rfl
      · apply EvOK.call
        · exact EvOK.gf gb.pg dd (by kernel_rfl) (by kernel_rfl)
        · apply CwOK.gf0 dd
          · rfl
          · tm_at "go"
          · exact dirname_ok (n := m + 3) gb dd df dg hx.len
      · tm_at "go"
  intro here r h
  induction h with
  | @hit x v hx hg =>
    refine ⟨x, ?_⟩
    have t := test x hx
    rw [hg] at t
    rw [hg]
    exact WhOK.stop t
  | @top x hx hg hd =>
    refine ⟨x, ?_⟩
    have t := test x hx
    rw [hg, hd] at t
    rw [hg]
    rw [show ((none : Option Str).isNone && (x != x)) = false by simp] at t
    exact WhOK.stop t
  | @up x r hx hg hd hc ih =>
    obtain ⟨h', ih⟩ := ih
    refine ⟨h', ?_⟩
    have t := test x hx
    rw [hg] at t
    rw [hg]
    rw [show ((none : Option Str).isNone && (dirn x != x)) = true by simpa using hd] at t
    refine WhOK.turn (o := .next) (loc₁ := quL k ls text slot (dirn x) (getL (dirn x) hs)) (st₂ := st) t ?_ rfl ih
    show ExOK _ _ [_, _] _ _ _ _ _
    refine ExOK.asgL (v := .str (dirn x)) (st₁ := st) (by kernel_rfl) ?_ (fun _ => rfl) ?_
    · apply EvOK.call
      · exact EvOK.gf gb.pg dd (by kernel_rfl) (by kernel_rfl)
      · apply CwOK.gf0 dd
        · rfl
        · tm_at "go"
        · exact dirname_ok (n := m + 3) gb dd df dg hx.len
    refine ExOK.asgL (v := optSV (getL (dirn x) hs)) (st₁ := st) (by kernel_rfl) ?_ (fun _ => rfl) (ExOK.sub (l' := quL k ls text slot (dirn x) (getL (dirn x) hs)) (by tm_at "ls") .nil)
    exact book_get rfl bp (by kernel_rfl) ⟨m + 3, rfl⟩ (by tm_at "lk") (by tm_at "go") rfl hB hh hc.nm
end
end

section
noncomputable abbrev qlL (k : Nat) (ls : List Ln) (text : Str) (slot : List Str) (found : Option Str) (t : Nat) : Loc := [("star", .obj k), ("book", .book), ("lines", .lst (ls.map (lnSV k))), ("text", .str text), ("slot", .lst (strsSV slot)), ("found", optSV found), ("taken", .obj t), ("above", .obj (t + 1))]
noncomputable abbrev qnL (k : Nat) (ls : List Ln) (text : Str) (slot : List Str) (found : Option Str) (t : Nat) (l : Ln) : Loc := [("star", .obj k), ("book", .book), ("lines", .lst (ls.map (lnSV k))), ("text", .str text), ("slot", .lst (strsSV slot)), ("found", optSV found), ("taken", .obj t), ("above", .obj (t + 1)), ("line", lnSV k l)]
noncomputable def apartB (text : Str) (l : Ln) : Bool := l.text == "/" && Txt.slice text none (some 2) == "//"
noncomputable def takenB (text : Str) (l : Ln) : Bool := takes text l.ex || (!(apartB text l) && takes text l.un)
noncomputable def aboveB (slot : List Str) (l : Ln) : Bool := l.slot == slot.take l.slot.length && (l.slot != [("" : Str)] || slot == [("" : Str)])
noncomputable abbrev tkP (l : Ln) : Int × Str := ((l.text.length : Nat), l.value)
noncomputable abbrev abP (l : Ln) : Int × Str := ((l.slot.length : Nat), l.value)
structure LnQ (l : Ln) : Prop where
  ex : ∀ p, some p ∈ l.ex → PartOk p
  un : ∀ p, some p ∈ l.un → PartOk p
  sl : l.slot.length ≤ 1000
  tl : l.text.length ≤ 1000
noncomputable abbrev quF : List Stmt := fBody quB 5
section
variable {V : Cx} {G : Gm} {loc loc₁ loc₂ : Loc} {st st₁ st₂ st₃ : St} {n m : Nat}
theorem two_t {T A : List SV} : (st ++ [T, A])[st.length]? = some T := by simp
theorem two_a {T A : List SV} : (st ++ [T, A])[st.length + 1]? = some A := by simp
theorem two_st {T A X : List SV} : (st ++ [T, A]).set st.length X = st ++ [X, A] := by simp
theorem two_sa {T A X : List SV} : (st ++ [T, A]).set (st.length + 1) X = st ++ [T, X] := by simp

theorem turn_t {cd : Value} {k : Nat} {ls : List Ln} {text : Str} {slot : List Str} {found : Option Str} {T A : List (Int × Str)} {l : Ln} {out : Out} {loc' : Loc} {st' : St} (gb : Gb V) (dt : D_takes V) (df : D_fits V) (ht : text.length ≤ 900) (hq : LnQ l) (hz : T.length ≤ 1000)
    (h : ExOK V ⟨m + 5, lawKs, cd⟩ (quF.drop 2) (qnL k ls text slot found st.length l) (st ++ [((T ++ ([l].filter (takenB text)).map tkP).map pairSV), (A.map pairSV)]) out loc' st') :
    ExOK V ⟨m + 5, lawKs, cd⟩ quF (qnL k ls text slot found st.length l) (st ++ [(T.map pairSV), (A.map pairSV)]) out loc' st' := by
  have hZ : sizeLine = 16777216 := rfl
  have hsl : Txt.slice text none (some 2) = Txt.slice text none (some 2) := rfl
  show ExOK _ _ (_ :: _ :: _) _ _ _ _ _
  refine ExOK.asgL (v := .bool (apartB text l)) (st₁ := st ++ [(T.map pairSV), (A.map pairSV)]) (by kernel_rfl) ?_ (fun _ => rfl) ?_
  · show EvOK _ _ (Expr.BoolOp _ [_, _] _) _ _ _ _
    apply EvOK.and2
    · apply EvOK.cmp
      · apply EvOK.sub
        · tm_at "go"
        · tm_at "go"
        · exact Sub.ln (j := 1) (by decide) (by decide) rfl rfl
        · rfl
      · tm_at "go"
      · exact Cmp.eqStr
      · rfl
    · intro _
      apply EvOK.cmp
      · apply EvOK.slice
        · tm_at "go"
        · tm_at "go"
        · tm_at "go"
        · exact SubS.str (by omega)
      · tm_at "go"
      · exact Cmp.eqStr
      · rfl
  have test : TsOK V ⟨m + 5, lawKs, cd⟩ (fTest quF 1) (setL "apart" (.bool (apartB text l)) (qnL k ls text slot found st.length l)) (st ++ [(T.map pairSV), (A.map pairSV)]) (takenB text l) (st ++ [(T.map pairSV), (A.map pairSV)]) := by
    show TsOK _ _ (Expr.BoolOp _ [_, _] _) _ _ _ _
    apply TsOK.or2
    · apply TsOK.call
      · apply EvOK.call
        · exact EvOK.gf gb.pg dt (by kernel_rfl) (by kernel_rfl)
        · apply CwOK.gf0 dt
          · rfl
          · apply EvsOK.cons
            · rfl
            · apply EvOK.sub
              · tm_at "go"
              · tm_at "go"
              · exact Sub.ln (j := 6) (v := .lst (l.ex.map (partSV k))) (by decide) (by decide) rfl rfl
              · rfl
            · tm_at "go"
          · exact takes_ok (n := m + 3) gb dt df ht hq.ex
      · exact Tru.bool
    · intro _
      show TsOK _ _ (Expr.BoolOp _ [_, _] _) _ _ _ _
      apply TsOK.and2
      · apply TsOK.not
        apply TsOK.name
        · tm_at "go"
        · exact Tru.bool
      · intro _
        apply TsOK.call
        · apply EvOK.call
          · exact EvOK.gf gb.pg dt (by kernel_rfl) (by kernel_rfl)
          · apply CwOK.gf0 dt
            · rfl
            · apply EvsOK.cons
              · rfl
              · apply EvOK.sub
                · tm_at "go"
                · tm_at "go"
                · exact Sub.ln (j := 7) (v := .lst (l.un.map (partSV k))) (by decide) (by decide) rfl rfl
                · rfl
              · tm_at "go"
            · exact takes_ok (n := m + 3) gb dt df ht hq.un
        · exact Tru.bool
  have hs : LSub (setL "apart" (.bool (apartB text l)) (qnL k ls text slot found st.length l)) (qnL k ls text slot found st.length l) := by tm_at "ls"
  cases hb : takenB text l with
  | false =>
    rw [hb] at test
    rw [List.filter_cons_of_neg (by simp [hb]), List.filter_nil, List.map_nil, List.append_nil] at h
    exact ExOK.if_no test rfl (ExOK.sub hs h)
  | true =>
    rw [hb] at test
    rw [List.filter_cons_of_pos hb, List.filter_nil, List.map_cons, List.map_nil] at h
    refine ExOK.if_t (st₂ := st ++ [((T ++ [tkP l]).map pairSV), (A.map pairSV)]) (loc₁ := setL "apart" (.bool (apartB text l)) (qnL k ls text slot found st.length l)) test rfl ?_ (ExOK.sub hs h)
    show ExOK _ _ [_] _ _ _ _ _
    refine ExOK.expr' (v := .none) (st₁ := st ++ [((T ++ [tkP l]).map pairSV), (A.map pairSV)]) ?_ .none (fun _ => rfl) .nil
    apply EvOK.meth
    · tm_at "go"
    · exact GmOK.o_append two_t
    · apply CwOK.bi1
      · rfl
      · apply EvsOK.cons
        · rfl
        · show EvOK _ _ (Expr.Tuple [_, _] _ _) _ _ (pairSV (tkP l)) _
          apply EvOK.tup
          · apply EvsOK.cons
            · rfl
            · apply EvOK.call
              · tm_at "go"
              · apply CwOK.bi0
                · rfl
                · apply EvsOK.cons
                  · rfl
                  · apply EvOK.sub
                    · tm_at "go"
                    · tm_at "go"
                    · exact Sub.ln (j := 1) (by decide) (by decide) rfl rfl
                    · rfl
                  · exact .nil
                · exact CallOK.lenStr (by have := hq.tl; omega)
            · apply EvsOK.cons
              · rfl
              · apply EvOK.sub
                · tm_at "go"
                · tm_at "go"
                · exact Sub.ln (j := 2) (by decide) (by decide) rfl rfl
                · rfl
              · exact .nil
          · show 2 ≤ _; decide
        · exact .nil
      · have q := CallOK.append (V := V) (n := m + 5) (st := st ++ [(T.map pairSV), (A.map pairSV)]) (i := st.length) (v := pairSV (tkP l)) two_t (by rw [List.length_map]; omega)
        rw [two_st] at q
        rw [List.map_append]
        exact q
    · exact fun _ => rfl
    · rfl
    · rfl
    · rfl
    · rfl
end
end

section
section
variable {V : Cx} {G : Gm} {loc loc₁ loc₂ : Loc} {st st₁ st₂ st₃ : St} {n m : Nat} {K : PySem.W.Frag} {C dx l : Addr} {od : Obj} {fc fg fd fs fa fe fi : Addr}
theorem strOk_nil : ∀ x ∈ [("" : Str)], PyData.strOk x = true := by
  intro x hx; simp at hx; subst hx; decide +kernel

theorem turn_a {cd : Value} {k : Nat} {ls : List Ln} {text : Str} {slot : List Str} {found : Option Str} {T : List SV} {A : List (Int × Str)} {l : Ln} (gb : Gb V) (hq : LnQ l) (ho : LnOk l) (hsl : ∀ x ∈ slot, PyData.strOk x = true) (hsz : slot.length ≤ 1000) (hz : A.length ≤ 1000) :
    ExOK V ⟨m + 5, lawKs, cd⟩ (quF.drop 2) (qnL k ls text slot found st.length l) (st ++ [T, (A.map pairSV)]) .next (qnL k ls text slot found st.length l) (st ++ [T, ((A ++ ([l].filter (aboveB slot)).map abP).map pairSV)]) := by
  have hZ : sizeLine = 16777216 := rfl
  obtain ⟨S0, hS⟩ : ∃ S0, st ++ [T, (A.map pairSV)] = S0 := ⟨_, rfl⟩
  have hl1 := hq.sl
  have len0 : ∀ {p q r s t : Pos} {e : Expr}, e = Expr.Call (.Name "len" p) [.Subscript (.Name "line" q) (.Constant (.int 0) 0 r) s] [] t → EvOK V ⟨m + 5, lawKs, cd⟩ e (qnL k ls text slot found st.length l) S0 (.int (l.slot.length : Nat)) S0 := by
    rintro p q r s t e rfl
    apply EvOK.call
    · tm_at "go"
    · apply CwOK.bi0
      · rfl
      · apply EvsOK.cons
        · rfl
        · apply EvOK.sub
          · tm_at "go"
          · tm_at "go"
          · exact Sub.ln (j := 0) (v := .lst (strsSV l.slot)) (by decide) (by decide) rfl rfl
          · rfl
        · exact .nil
      · have q := CallOK.lenLst (V := V) (n := m + 5) (st := S0) (a := .lst (strsSV l.slot)) (xs := strsSV l.slot) rfl (by simp; omega)
        rwa [List.length_map] at q
  have at0 : ∀ {q r s : Pos} {e : Expr}, e = Expr.Subscript (.Name "line" q) (.Constant (.int 0) 0 r) s → EvOK V ⟨m + 5, lawKs, cd⟩ e (qnL k ls text slot found st.length l) S0 (.lst (strsSV l.slot)) S0 := by
    rintro q r s e rfl
    apply EvOK.sub
    · tm_at "go"
    · tm_at "go"
    · exact Sub.ln (j := 0) (v := .lst (strsSV l.slot)) (by decide) (by decide) rfl rfl
    · rfl
  have htk : ∀ x ∈ slot.take l.slot.length, PyData.strOk x = true := fun x hx => hsl x (List.mem_of_mem_take hx)
  have test : TsOK V ⟨m + 5, lawKs, cd⟩ (fTest quF 2) (qnL k ls text slot found st.length l) S0 (aboveB slot l) S0 := by
    show TsOK _ _ (Expr.BoolOp _ [_, _] _) _ _ _ _
    apply TsOK.and2
    · refine TsOK.cmp (a := .lst (strsSV l.slot)) (b := .lst (strsSV (slot.take l.slot.length))) (st₁ := S0) (st₂ := S0) (at0 rfl) ?_ (Cmp.eqStrs ho.slot htk) rfl
      have q := SubS.upto (V := V) (st := S0) (a := .lst (strsSV slot)) (xs := strsSV slot) (k := (l.slot.length : Nat)) rfl (by omega) (by rw [List.length_map]; omega)
      rw [show ((l.slot.length : Nat) : Int).toNat = l.slot.length by omega, ← List.map_take] at q
      apply EvOK.slice
      · tm_at "go"
      · tm_at "go"
      · exact PtOK.some' (len0 rfl)
      · exact q
    · intro _
      show TsOK _ _ (Expr.BoolOp _ [_, _] _) _ _ _ _
      apply TsOK.or2
      · refine TsOK.cmp (a := .lst (strsSV l.slot)) (b := .lst (strsSV [("" : Str)])) (st₁ := S0) (st₂ := S0) (at0 rfl) ?_ (Cmp.neStrs ho.slot strOk_nil) rfl
        show EvOK _ _ (Expr.List _ _) _ _ (.lst [.str ""]) _
        tm_at "go"
      · intro _
        refine TsOK.cmp (a := .lst (strsSV slot)) (b := .lst (strsSV [("" : Str)])) (st₁ := S0) (st₂ := S0) ?_ ?_ (Cmp.eqStrs hsl strOk_nil) rfl
        · tm_at "go"
        · show EvOK _ _ (Expr.List _ _) _ _ (.lst [.str ""]) _
          tm_at "go"
  cases hb : aboveB slot l with
  | false =>
    rw [hb] at test
    rw [List.filter_cons_of_neg (by simp [hb]), List.filter_nil, List.map_nil, List.append_nil, hS]
    exact ExOK.if_no test rfl .nil
  | true =>
    rw [hb] at test
    rw [List.filter_cons_of_pos hb, List.filter_nil, List.map_cons, List.map_nil]
    rw [hS]
    refine ExOK.if_t (st₂ := st ++ [T, ((A ++ [abP l]).map pairSV)]) (loc₁ := qnL k ls text slot found st.length l) test rfl ?_ .nil
    show ExOK _ _ [_] _ _ _ _ _
    refine ExOK.expr' (v := .none) (st₁ := st ++ [T, ((A ++ [abP l]).map pairSV)]) ?_ .none (fun _ => rfl) .nil
    refine EvOK.meth (ov := .obj (st.length + 1)) (st₁ := S0) (f := .val (.builtin "list.append")) (first := [.obj (st.length + 1)]) ?_ ?_ ?_ ?_ rfl rfl rfl rfl
    · tm_at "go"
    · exact GmOK.o_append (xs := A.map pairSV) (by rw [← hS]; exact two_a)
    · apply CwOK.bi1
      · rfl
      · apply EvsOK.cons
        · rfl
        · show EvOK _ _ (Expr.Tuple [_, _] _ _) _ _ (pairSV (abP l)) _
          apply EvOK.tup
          · apply EvsOK.cons
            · rfl
            · exact len0 rfl
            · apply EvsOK.cons
              · rfl
              · apply EvOK.sub
                · tm_at "go"
                · tm_at "go"
                · exact Sub.ln (j := 2) (by decide) (by decide) rfl rfl
                · rfl
              · exact .nil
          · show 2 ≤ _; decide
        · exact .nil
      · have q := CallOK.append (V := V) (n := m + 5) (st := st ++ [T, (A.map pairSV)]) (i := st.length + 1) (v := pairSV (abP l)) two_a (by rw [List.length_map]; omega)
        rw [two_sa, hS] at q
        rw [List.map_append]
        exact q
    · exact fun _ => rfl
theorem line_loop {cd : Value} {k : Nat} {ls : List Ln} {text : Str} {slot : List Str} {found : Option Str} (gb : Gb V) (dt : D_takes V) (df : D_fits V) (ht : text.length ≤ 900) (hsl : ∀ x ∈ slot, PyData.strOk x = true) (hsz : slot.length ≤ 1000) : ∀ (xs : List Ln) (T A : List (Int × Str)), (∀ l ∈ xs, LnQ l ∧ LnOk l) → T.length + xs.length ≤ 1000 → A.length + xs.length ≤ 1000 →
    FoOK V ⟨m + 5, lawKs, cd⟩ (fun _ => True) (fTarget quB 5) quF (xs.map (lnSV k)) (qlL k ls text slot found st.length) (st ++ [(T.map pairSV), (A.map pairSV)]) .next (qlL k ls text slot found st.length) (st ++ [((T ++ (xs.filter (takenB text)).map tkP).map pairSV), ((A ++ (xs.filter (aboveB slot)).map abP).map pairSV)])
  | [], T, A, _, _, _ => by
    simp only [List.filter_nil, List.map_nil, List.append_nil]
    exact .nil trivial
  | l :: xs, T, A, hl, h1, h2 => by
    rw [List.length_cons] at h1 h2
    obtain ⟨hq, ho⟩ := hl l List.mem_cons_self
    have b1 : (([l].filter (takenB text)).map tkP).length ≤ 1 := by rw [List.length_map]; exact List.length_filter_le ..
    have b2 : (([l].filter (aboveB slot)).map abP).length ≤ 1 := by rw [List.length_map]; exact List.length_filter_le ..
    have ih := line_loop (cd := cd) (k := k) (ls := ls) (found := found) gb dt df ht hsl hsz xs (T ++ ([l].filter (takenB text)).map tkP) (A ++ ([l].filter (aboveB slot)).map abP) (fun y hy => hl y (List.mem_cons_of_mem _ hy)) (by rw [List.length_append]; omega) (by rw [List.length_append]; omega)
    have e1 : (T ++ ([l].filter (takenB text)).map tkP) ++ (xs.filter (takenB text)).map tkP = T ++ ((l :: xs).filter (takenB text)).map tkP := by
      rw [List.append_assoc, ← List.map_append, ← List.filter_append]; rfl
    have e2 : (A ++ ([l].filter (aboveB slot)).map abP) ++ (xs.filter (aboveB slot)).map abP = A ++ ((l :: xs).filter (aboveB slot)).map abP := by
      rw [List.append_assoc, ← List.map_append, ← List.filter_append]; rfl
    rw [e1, e2] at ih
    rw [List.map_cons]
    refine FoOK.turn (o := .next) (loc₁ := setL "line" (lnSV k l) (qlL k ls text slot found st.length)) (loc₂ := qnL k ls text slot found st.length l) trivial (AsOK.lcl (by kernel_rfl)) (ExOK.sub (l' := qnL k ls text slot found st.length l) (by tm_at "ls") (turn_t gb dt df ht hq (by omega) (turn_a gb hq ho hsl hsz (by omega)))) rfl (FoOK.sub (by tm_at "ls") ih)
end
end

section
section
variable {V : Cx} {G : Gm} {loc loc₁ loc₂ : Loc} {st st₁ st₂ st₃ : St} {n m : Nat} {K : PySem.W.Frag} {C dx l : Addr} {od : Obj} {fc fg fd fs fa fe fi : Addr}
theorem law_q {cd : Value} {k q n : Nat} {w : Way} {ls : List Ln} {hs : List (Str × Str)} {text : Str} {slot : List Str} {r : Option Str} (bp : Bp V K C dx l od fc fg fd fs fa fe fi) (dd : D_dirname V) (df : D_fspath V) (dg : D_get_sep V) (dt : D_takes V) (dfi : D_fits V) (dm : D_most V) (hB : st[V.bi]? = some (hs.map ss)) (hh : HsOk hs) (hc : Climb hs text r) (ht : text.length ≤ 900) (hsl : ∀ x ∈ slot, PyData.strOk x = true) (hsz : slot.length ≤ 1000) (hl : ∀ l ∈ ls, LnQ l ∧ LnOk l) (hz : ls.length ≤ 1000)
    (ha : (most none ((ls.filter (aboveB slot)).map abP)).map (·.2) = r) (htk : (most none ((ls.filter (takenB text)).map tkP)).map (·.2) = r) :
    ∃ st', ExOK V ⟨m + 5, lawKs, cd⟩ quB (txL k ls q n w text slot) st .next (lawL k ls) (st ++ st') := by
  have hZ : sizeLine = 16777216 := rfl
  have gb := bp.cv.gb
  have hx := hc.nm
  obtain ⟨h', hw⟩ := climb_loop (m := m) (cd := cd) (k := k) (ls := ls) (text := text) (slot := slot) bp dd df dg hB hh hc
  refine ⟨[(((ls.filter (takenB text)).map tkP).map pairSV), (((ls.filter (aboveB slot)).map abP).map pairSV)], ?_⟩
  show ExOK _ _ (_ :: _ :: _ :: _ :: _ :: _ :: _) _ _ _ _ _
  refine ExOK.asgL (v := .str text) (st₁ := st) (by kernel_rfl) (by tm_at "go") (fun _ => rfl) ?_
  refine ExOK.asgL (v := optSV (getL text hs)) (st₁ := st) (by kernel_rfl) (book_get rfl bp (by kernel_rfl) ⟨m + 3, rfl⟩ (by tm_at "lk") (by tm_at "go") rfl hB hh hx) (fun _ => rfl) ?_
  refine ExOK.while' (WhOK.sub (by tm_at "ls") hw) ?_
  refine ExOK.asgL (v := .obj st.length) (st₁ := st ++ [[]]) (by kernel_rfl) (EvOK.lstObj .nil (Nat.zero_le _)) (fun _ => rfl) ?_
  refine ExOK.asgL (v := .obj (st ++ [[]]).length) (st₁ := (st ++ [[]]) ++ [[]]) (by kernel_rfl) (EvOK.lstObj .nil (Nat.zero_le _)) (fun _ => rfl) ?_
  have hloop := line_loop (V := V) (st := st) (m := m) (cd := cd) (k := k) (ls := ls) (text := text) (slot := slot) (found := r) gb dt dfi ht hsl hsz ls [] [] hl (by simpa using hz) (by simpa using hz)
  rw [List.nil_append, List.nil_append] at hloop
  generalize (ls.filter (takenB text)).map tkP = T at *
  generalize (ls.filter (aboveB slot)).map abP = A at *
  have es : (st ++ [[]]) ++ [[]] = st ++ [(([] : List (Int × Str)).map pairSV), (([] : List (Int × Str)).map pairSV)] := by simp
  rw [es]
  have el : (st ++ [([] : List SV)]).length = st.length + 1 := by simp
  rw [el]
  refine ExOK.for' (st₁ := st ++ [(([] : List (Int × Str)).map pairSV), (([] : List (Int × Str)).map pairSV)]) (st₂ := st ++ [(T.map pairSV), (A.map pairSV)]) (loc₁ := qlL k ls text slot r st.length) (fun _ _ => rfl) (HdOK.lst (by tm_at "go")) (FoOK.sub (by tm_at "ls") hloop) ?_
  refine ExOK.if_no (r := false || false) (st₁ := st ++ [(T.map pairSV), (A.map pairSV)]) ?_ rfl (ExOK.sub (by tm_at "ls") .nil)
  have one : ∀ {i : Nat} {X : List (Int × Str)} {x : Str} {p q t : Pos} {e : Expr}, e = Expr.Call (.Name "_law_first_of_most" p) [.Name x q] [] t → (st ++ [(T.map pairSV), (A.map pairSV)])[i]? = some (X.map pairSV) → lawKs.lookup x = some .local → (x == ("__debug__" : Str)) = false → List.lookup x (qlL k ls text slot r st.length) = some (.obj i) → (most none X).map (·.2) = r → EvOK V ⟨m + 5, lawKs, cd⟩ e (qlL k ls text slot r st.length) (st ++ [(T.map pairSV), (A.map pairSV)]) (optSV r) (st ++ [(T.map pairSV), (A.map pairSV)]) := by
    rintro i X x p q t e rfl hi hk hd hlo hm
    have qq := most_ok (V := V) (n := m + 4) gb dm hi
    rw [hm] at qq
    apply EvOK.call
    · exact EvOK.gf gb.pg dm (by kernel_rfl) (by kernel_rfl)
    · apply CwOK.gf0 dm
      · rfl
      · exact EvsOK.cons rfl (EvOK.lclA hk hd hlo) .nil
      · exact qq
  show TsOK _ _ (Expr.BoolOp _ [_, _] _) _ _ _ _
  apply TsOK.or2
  · refine TsOK.cmp (a := optSV r) (b := optSV r) (st₁ := st ++ [(T.map pairSV), (A.map pairSV)]) (st₂ := st ++ [(T.map pairSV), (A.map pairSV)]) ?_ ?_ Cmp.neOpt rfl
    · tm_at "go"
    · exact one rfl two_a (by kernel_rfl) (by decide +kernel) (by tm_at "lk") ha
  · intro _
    refine TsOK.cmp (a := optSV r) (b := optSV r) (st₁ := st ++ [(T.map pairSV), (A.map pairSV)]) (st₂ := st ++ [(T.map pairSV), (A.map pairSV)]) ?_ ?_ Cmp.neOpt rfl
    · tm_at "go"
    · exact one rfl two_t (by kernel_rfl) (by decide +kernel) (by tm_at "lk") htk
end
end

section
noncomputable abbrev hsOf (ls : List Ln) : List (Str × Str) := ls.map fun l => (l.text, l.value)
structure LsOk (ls : List Ln) : Prop where
  len : ls.length ≤ 900
  q : ∀ l ∈ ls, LnQ l
  o : ∀ l ∈ ls, LnOk l
  sp : ∀ l ∈ ls, l.spelled.length ≤ 100
  row : ∀ l ∈ ls, l.row.length ≤ 100 ∧ ∀ x ∈ l.row, x.length ≤ 100
theorem LsOk.hs {ls : List Ln} (h : LsOk ls) : HsOk (hsOf ls) := ⟨by have := h.len; simp; omega, fun p hp => by
  obtain ⟨l, h1, rfl⟩ := List.mem_map.mp hp
  exact (h.q l h1).tl⟩

structure WayFit (w : Way) : Prop where
  lead : w.lead < 4
  row : w.row.length ≤ 100
  sp : w.sp.length ≤ 1000
  ns : (nmOf w.lead w.row).length ≤ 100 ∧ ∀ x ∈ nmOf w.lead w.row, x.length ≤ 100
  norm : normp w.sp = mkP (rootOf w.lead) (nmOf w.lead w.row)
  sok : ∀ x ∈ slotP (rootOf w.lead) (nmOf w.lead w.row), PyData.strOk x = true
noncomputable abbrev wText (w : Way) : Str := mkP (rootOf w.lead) (nmOf w.lead w.row)
noncomputable abbrev wSlot (w : Way) : List Str := slotP (rootOf w.lead) (nmOf w.lead w.row)
noncomputable abbrev hereL (ls : List Ln) (slot : List Str) : List Ln := ls.filter fun l => l.slot == slot

noncomputable def WayIs (ls : List Ln) (n : Nat) (w : Way) : Prop := (¬ n % 6 > 3 ∧ w = way0 n) ∨ (n % 6 > 3 ∧ ∃ b, ls[(n / 24 + n / 576 + n % 6) % ls.length]? = some b ∧ w = wayB b (way0 n))
inductive Turn (f : Int → Option Value) (q n : Nat) (ls : List Ln) : List Ln → Prop
  | deed {as as' : List Atom} : n % 6 < 3 → WayFit (way0 n) → NmOk (wText (way0 n)) → Clean (valP q) → (valP q).length ≤ 1000 → BarOk f (wText (way0 n)) as as' →
      (n % 6 = 2 → (getL (wText (way0 n)) (hsOf ls)).getD (valP q) = ((hereL ls (wSlot (way0 n))).head?.map (·.value)).getD (valP q)) →
      deedH (n % 6) (wText (way0 n)) (valP q) (hsOf ls) = hsOf (nextL (n % 6) (hereL ls (wSlot (way0 n))) (deedL (n % 6) (wSlot (way0 n)) ls) (newLn f as as' q (way0 n) (wText (way0 n)) (wSlot (way0 n)))) →
      Turn f q n ls (nextL (n % 6) (hereL ls (wSlot (way0 n))) (deedL (n % 6) (wSlot (way0 n)) ls) (newLn f as as' q (way0 n) (wText (way0 n)) (wSlot (way0 n))))
  | ask {w : Way} {r : Option Str} : ¬ n % 6 < 3 → WayIs ls n w → WayFit w → (wText w).length ≤ 900 → Climb (hsOf ls) (wText w) r →
      (most none ((ls.filter (aboveB (wSlot w))).map abP)).map (·.2) = r → (most none ((ls.filter (takenB (wText w))).map tkP)).map (·.2) = r → Turn f q n ls ls

structure Dfs (V : Cx) (f : Int → Option Value) : Prop where
  tr : Tr V f
  dt : D_translate V
  de : D_either V
  dj : D_join V
  df : D_fspath V
  dg : D_get_sep V
  dd : D_dirname V
  dp : D_normpath V
  dsr : D_splitroot V
  dn : D_names V
  dw : D_way V
  dk : D_takes V
  dfi : D_fits V
  dm : D_most V
section
variable {V : Cx} {G : Gm} {loc loc₁ loc₂ : Loc} {st st₁ st₂ st₃ : St} {n m : Nat} {K : PySem.W.Frag} {C dx l : Addr} {od : Obj} {fc fg fd fs fa fe fi : Addr} {f : Int → Option Value}
theorem set_hit {i : Nat} {ys : List SV} (h : i < st.length) : (st.set i ys)[i]? = some ys := List.getElem?_set_self h
theorem deedL_len {kind : Nat} {slot : List Str} {ls : List Ln} : (deedL kind slot ls).length ≤ ls.length := by
  unfold deedL
  split
  · exact List.length_filter_le ..
  · exact Nat.le_refl _
theorem law_turn {cd : Value} {k q n : Nat} {N : Int} {ls ls' : List Ln} (bp : Bp V K C dx l od fc fg fd fs fa fe fi) (D : Dfs V f) (hN : N.fmod (10 ^ 9) = (n : Nat)) (hq : q ≤ 100) (hk : st[k]? = some [SV.str "any run"]) (hkb : k ≠ V.bi) (hB : st[V.bi]? = some ((hsOf ls).map ss)) (hls : LsOk ls) (hls' : LsOk ls') (t : Turn f q n ls ls') :
    ∃ st', ExOK V ⟨m + 5, lawKs, cd⟩ lawBody (setL "number" (.int N) (setL "place" (.int (q : Nat)) (lawL k ls))) st .next (lawL k ls') st' ∧ st'[k]? = some [SV.str "any run"] ∧ st'[V.bi]? = some ((hsOf ls').map ss) := by
  have gb := D.tr.gb
  have hkl : k < st.length := (List.getElem?_eq_some_iff.mp hk).1
  cases t with
  | @deed as as' hn wf hx hy hyl hb hv he =>
    have hsl := wf.sok
    refine ⟨st.set V.bi ((hsOf (nextL (n % 6) (hereL ls (wSlot (way0 n))) (deedL (n % 6) (wSlot (way0 n)) ls) (newLn f as as' q (way0 n) (wText (way0 n)) (wSlot (way0 n))))).map ss), ?_, set_ne hk hkb, ?_⟩
    · have h4 := law_b3 (m := m) (cd := cd) (k := k) (st := st.set V.bi ((hsOf (nextL (n % 6) (hereL ls (wSlot (way0 n))) (deedL (n % 6) (wSlot (way0 n)) ls) (newLn f as as' q (way0 n) (wText (way0 n)) (wSlot (way0 n))))).map ss)) bp (set_hit (by exact (List.getElem?_eq_some_iff.mp hB).1)) hls'.hs (by rw [List.length_set]; exact hkl) (by have := hls'.len; omega) rfl hls'.o
      refine law_h0 gb D.dw hN rfl (law_h1no gb (by omega) (law_h2 gb D.dn D.dp D.df D.dsr wf.lead wf.row wf.sp wf.ns wf.norm ?_))
      show ExOK _ _ (_ :: _) _ _ _ _ _
      refine ExOK.if_t (r := decide (((n % 6 : Nat) : Int) < 3)) (st₁ := st) (st₂ := st.set V.bi ((hsOf (nextL (n % 6) (hereL ls (wSlot (way0 n))) (deedL (n % 6) (wSlot (way0 n)) ls) (newLn f as as' q (way0 n) (wText (way0 n)) (wSlot (way0 n))))).map ss)) (loc₁ := lawL k (nextL (n % 6) (hereL ls (wSlot (way0 n))) (deedL (n % 6) (wSlot (way0 n)) ls) (newLn f as as' q (way0 n) (wText (way0 n)) (wSlot (way0 n))))) ?_ (decide_eq_true (by omega)) ?_ .nil
      · tm_at "go"
      · refine law_b0 gb hkl hq hsl (fun l h => (hls.o l h).slot) (by have := hls.len; omega) (law_b1 bp hk hkb hB hls.hs hx hy hyl hn hsl hls.o (fun l h => hls.o l (List.mem_filter.mp h).1) (by have := hls.len; omega) hv ?_)
        rw [he]
        refine law_b2 D.tr D.dt D.de D.dj D.df D.dg hb (set_ne hk hkb) (fun l h => hls.o l (List.mem_filter.mp h).1) ?_ h4
        have := hls.len
        exact Nat.le_trans deedL_len (by omega)
    · exact set_hit (List.getElem?_eq_some_iff.mp hB).1
  | @ask w r hn hw wf ht hc ha htk =>
    obtain ⟨st', hq'⟩ := law_q (V := V) (m := m) (cd := cd) (k := k) (q := q) (n := n) (w := w) (ls := ls) bp D.dd D.df D.dg D.dk D.dfi D.dm hB hls.hs hc ht wf.sok (by have := wf.ns.1; simp [slotP]; omega) (fun l h => ⟨hls.q l h, hls.o l h⟩) (by have := hls.len; omega) ha htk
    refine ⟨st ++ st', ?_, ?_, ?_⟩
    · refine law_h0 gb D.dw hN rfl ?_
      have tail : ExOK V ⟨m + 5, lawKs, cd⟩ (lawBody.drop 5) (wyL k ls q n w) st .next (lawL k ls) (st ++ st') := by
        refine law_h2 gb D.dn D.dp D.df D.dsr wf.lead wf.row wf.sp wf.ns wf.norm ?_
        show ExOK _ _ (_ :: _) _ _ _ _ _
        refine ExOK.if_f (r := decide (((n % 6 : Nat) : Int) < 3)) (st₁ := st) (st₂ := st ++ st') (loc₁ := lawL k ls) ?_ (decide_eq_false (by omega)) hq' .nil
        tm_at "go"
      rcases hw with ⟨h1, rfl⟩ | ⟨h1, b, hb, rfl⟩
      · exact law_h1no gb h1 tail
      · have hbm : b ∈ ls := List.mem_of_getElem? hb
        obtain ⟨r1, _⟩ := way_row_b (n / 6)
        have hsp := spell_len n
        exact law_h1yes gb D.dj D.df D.dg h1 hkl hb (by have := hls.len; omega) (hls.sp b hbm) (hls.row b hbm) ⟨by omega, by show (wayRow (n / 6)).length ≤ 100; omega⟩ tail
    · rw [List.getElem?_append_left hkl]; exact hk
    · rw [List.getElem?_append_left (List.getElem?_eq_some_iff.mp hB).1]; exact hB
end
end

section
inductive Run (f : Int → Option Value) : Nat → List Int → List Ln → Prop
  | nil (q ls) : Run f q [] ls
  | cons {q n : Nat} {N : Int} {Ns : List Int} {ls ls' : List Ln} : N.fmod (10 ^ 9) = (n : Nat) → Turn f q n ls ls' → LsOk ls' → Run f (q + 1) Ns ls' → Run f q (N :: Ns) ls
noncomputable abbrev lawSt : List Stmt := pBody top 39
section
variable {V : Cx} {G : Gm} {loc loc₁ loc₂ : Loc} {st st₁ st₂ st₃ : St} {n m : Nat} {K : PySem.W.Frag} {C dx l : Addr} {od : Obj} {fc fg fd fs fa fe fi : Addr} {f : Int → Option Value}
theorem law_loop {cd : Value} {k : Nat} (bp : Bp V K C dx l od fc fg fd fs fa fe fi) (D : Dfs V f) (hkb : k ≠ V.bi) : ∀ (Ns : List Int) (q : Nat) (ls : List Ln) (st : St), Run f q Ns ls → q + Ns.length ≤ 100 → LsOk ls → st[k]? = some [SV.str "any run"] → st[V.bi]? = some ((hsOf ls).map ss) →
    ∃ ls' st', FoOK V ⟨m + 5, lawKs, cd⟩ (fun _ => True) (fTarget lawSt 3) lawBody (enumSV q (Ns.map .int)) (lawL k ls) st .next (lawL k ls') st'
  | [], q, ls, st, _, _, _, _, _ => ⟨ls, st, .nil trivial⟩
  | N :: Ns, q, ls, st, .cons (n := n) (ls' := ls') hN t hls' hr, hq, hls, hk, hB => by
    rw [List.length_cons] at hq
    obtain ⟨st1, h1, k1, b1⟩ := law_turn (m := m) (cd := cd) bp D hN (by omega : q ≤ 100) hk hkb hB hls hls' t
    obtain ⟨ls2, st2, h2⟩ := law_loop (cd := cd) bp D hkb Ns (q + 1) ls' st1 hr (by omega) hls' k1 b1
    refine ⟨ls2, st2, ?_⟩
    rw [List.map_cons, enumSV]
    refine FoOK.turn (o := .next) (loc₁ := setL "number" (.int N) (setL "place" (.int (q : Nat)) (lawL k ls))) (st₁ := st) trivial ?_ h1 rfl h2
    refine AsOK.tup rfl rfl ?_
    tm_at "go"
theorem law_tail {cd : Value} {k : Nat} {script : List Int} (bp : Bp V K C dx l od fc fg fd fs fa fe fi) (D : Dfs V f) (hkb : k ≠ V.bi) (hz : script.length ≤ 63) (hr : Run f 0 ([30, 52] ++ script.take 6) []) (hk : st[k]? = some [SV.str "any run"]) (hB : st[V.bi]? = some []) :
    ∃ st', ExOK V ⟨m + 5, lawKs, cd⟩ (lawSt.drop 2) [("script", .lst (script.map .int)), ("star", .obj k), ("book", .book)] st (.ret (.bool true)) [] st' := by
  have hZ : sizeLine = 16777216 := rfl
  have gb := D.tr.gb
  have hl0 : LsOk [] := ⟨Nat.zero_le _, by simp, by simp, by simp, by simp⟩
  obtain ⟨ls', st', hl⟩ := law_loop (m := m) (cd := cd) bp D hkb _ 0 [] st hr (by simp; omega) hl0 hk hB
  refine ⟨st', ?_⟩
  show ExOK _ _ (_ :: _ :: _ :: _) _ _ _ _ _
  refine ExOK.asgL (v := .lst (([] : List Ln).map (lnSV k))) (st₁ := st) (by kernel_rfl) (by show EvOK _ _ _ _ _ (.lst []) _; tm_at "go") (fun _ => rfl) ?_
  refine ExOK.for' (st₁ := st) (st₂ := st') (loc₁ := lawL k ls') (fun _ _ => rfl) (HdOK.enum (xs := ([30, 52] ++ script.take 6).map .int) (by tm_at "go") rfl ?_) ?_ ?_
  · refine EvsOK.cons rfl ?_ .nil
    rw [List.map_append]
    refine EvOK.bin (a := .lst [.int 30, .int 52]) (b := .lst ((script.take 6).map .int)) (st₁ := st) (st₂ := st) ?_ ?_ (Bin.addLst rfl rfl (by simp; omega))
    · tm_at "go"
    · rw [List.map_take]
      have q := SubS.upto (V := V) (st := st) (a := .lst (script.map .int)) (xs := script.map .int) (k := 6) rfl (by omega) (by simp; omega)
      apply EvOK.slice
      · tm_at "go"
      · tm_at "go"
      · tm_at "go"
      · exact q
  · refine FoOK.sub (l' := lawL k []) (by tm_at "ls") ?_
    exact hl
  · tm_at "go"
end
end

section
noncomputable abbrev cl (x : Str) : List Nat := x.cps.toList
noncomputable def mkS (l : List Nat) : Str := ⟨l.toArray⟩
theorem cl_ext {x y : Str} (h : cl x = cl y) : x = y := Str.ext' (Array.toList_inj.mp h)
theorem cl_mk (l : List Nat) : cl (mkS l) = l := rfl
theorem mk_cl (x : Str) : mkS (cl x) = x := rfl
theorem cl_app (x y : Str) : cl (x ++ y) = cl x ++ cl y := by
  show (x.cps ++ y.cps).toList = _
  rw [Array.toList_append]
theorem len_cl (x : Str) : (cl x).length = x.length := rfl
theorem cl_slash : cl "/" = [47] := by decide +kernel
theorem cl_empty : cl "" = [] := by decide +kernel
theorem cl_dot : cl "." = [46] := by decide +kernel
theorem cl_nil {x : Str} : x.length = 0 ↔ cl x = [] := by rw [← len_cl, List.length_eq_zero_iff]
noncomputable def jn : List (List Nat) → List Nat
  | [] => []
  | [x] => x
  | x :: y :: r => x ++ 47 :: jn (y :: r)
theorem cl_join : ∀ l : List Str, cl (Txt.join "/" l) = jn (l.map cl)
  | [] => by decide +kernel
  | [x] => by
    show cl (Builtin.Str.glued "/" [x]) = _
    rw [StrLaws.glued_eq_join]; rfl
  | x :: y :: r => by
    have ih := cl_join (y :: r)
    show cl (Builtin.Str.glued "/" (x :: y :: r)) = _
    have ih' : cl (Builtin.Str.glued "/" (y :: r)) = jn ((y :: r).map cl) := ih
    rw [StrLaws.glued_eq_join] at ih' ⊢
    show cl (x ++ "/" ++ Str.join "/" (y :: r)) = _
    rw [cl_app, cl_app, ih', cl_slash]
    show (cl x ++ [47]) ++ jn ((y :: r).map cl) = cl x ++ 47 :: jn ((y :: r).map cl)
    simp

noncomputable def lo (c : Nat) : Nat := if 65 ≤ c ∧ c ≤ 90 then c + 32 else c
noncomputable def up (c : Nat) : Nat := if 97 ≤ c ∧ c ≤ 122 then c - 32 else c
theorem lowerOf_lo {c : Nat} (h : c < 128) : Unicode.lowerOf c = [lo c] := (by decide +kernel : ∀ c, c < 128 → Unicode.lowerOf c = [lo c]) c h
theorem upperOf_up {c : Nat} (h : c < 128) : Unicode.upperOf c = [up c] := (by decide +kernel : ∀ c, c < 128 → Unicode.upperOf c = [up c]) c h
theorem placed_map {x : Str} {f : Nat → Nat → List Nat} {g : Nat → Nat} (h : ∀ i c, x.cps[i]? = some c → f i c = [g c]) : (⟨PySem.placed x f⟩ : Str) = mkS ((cl x).map g) := by
  have e : (x.cps.mapIdx fun i c => (f i c).toArray) = x.cps.map fun c => #[g c] := by
    apply Array.ext
    · simp
    · intro i h1 h2
      have hi : i < x.cps.size := by simpa using h1
      rw [Array.getElem_mapIdx, Array.getElem_map, h i _ (Array.getElem?_eq_getElem hi)]
  show (⟨(x.cps.mapIdx fun i c => (f i c).toArray).flatten⟩ : Str) = _
  rw [e]
  apply cl_ext
  rw [cl_mk]
  show ((x.cps.map fun c => #[g c]).flatten).toList = _
  rw [Array.toList_flatten]
  rw [Array.toList_map]
  show _ = List.map g x.cps.toList
  generalize x.cps.toList = l
  induction l with
  | nil => rfl
  | cons c l ih => simpa using ih
theorem cl_lower {x : Str} (h : ∀ c ∈ cl x, c < 128) : cl (Txt.lower x) = (cl x).map lo := by
  have e : Txt.lower x = mkS ((cl x).map lo) := by
    refine placed_map (g := lo) fun i c hc => ?_
    have hc' : c < 128 := h c (Array.mem_toList_iff.mpr (Array.mem_of_getElem? hc))
    unfold Unicode.lowerAt
    rw [hc]
    dsimp only
    rw [if_neg (by
      rw [Bool.and_eq_true, not_and]
      intro q
      have := eq_of_beq q
      omega)]
    exact lowerOf_lo hc'
  rw [e, cl_mk]
theorem cl_upper {x : Str} (h : ∀ c ∈ cl x, c < 128) : cl (Txt.upper x) = (cl x).map up := by
  have e : Txt.upper x = mkS ((cl x).map up) := placed_map (g := up) fun i c hc => upperOf_up (h c (Array.mem_toList_iff.mpr (Array.mem_of_getElem? hc)))
  rw [e, cl_mk]

noncomputable def spl : List Nat → List (List Nat)
  | [] => [[]]
  | c :: l => if c = 47 then [] :: spl l else match spl l with
    | [] => [[c]]
    | p :: ps => (c :: p) :: ps
theorem spl_ne : ∀ l, spl l ≠ []
  | [] => by simp [spl]
  | c :: l => by
    unfold spl
    split
    · simp
    · split <;> simp
theorem spl_free : ∀ {a : List Nat}, 47 ∉ a → spl a = [a]
  | [], _ => rfl
  | c :: a, h => by
    have hc : c ≠ 47 := fun e => h (by simp [e])
    rw [spl, if_neg hc, spl_free (a := a) (fun e => h (List.mem_cons_of_mem _ e))]
theorem spl_app : ∀ (a b : List Nat), spl (a ++ 47 :: b) = spl a ++ spl b
  | [], b => by
    show spl (47 :: b) = [] :: spl b
    rw [spl, if_pos rfl]
  | c :: a, b => by
    have ih := spl_app a b
    show spl (c :: (a ++ 47 :: b)) = spl (c :: a) ++ spl b
    rw [spl, spl, ih]
    split
    · rfl
    · cases h : spl a with
      | nil => exact absurd h (spl_ne a)
      | cons p ps => rfl
theorem spl_jn : ∀ {ps : List (List Nat)}, ps ≠ [] → (∀ p ∈ ps, 47 ∉ p) → spl (jn ps) = ps
  | [], h, _ => absurd rfl h
  | [x], _, h => by
    show spl x = [x]
    exact spl_free (h x (by simp))
  | x :: y :: r, _, h => by
    show spl (x ++ 47 :: jn (y :: r)) = x :: y :: r
    rw [spl_app, spl_free (h x (by simp)), spl_jn (ps := y :: r) (by simp) (fun p hp => h p (List.mem_cons_of_mem _ hp))]
    rfl
theorem split_spl (x : Str) : Txt.split x "/" = (spl (cl x)).map mkS := by
  have e : ("/" : Str) = ⟨#[47]⟩ := by decide +kernel
  have h1 : Str.join "/" (Txt.split x "/") = x := StrLaws.join_split x "/"
  have h2 : ∀ p ∈ Txt.split x "/", 47 ∉ cl p := by rw [e]; exact StrLaws.split_free x 47
  have hne : Txt.split x "/" ≠ [] := by
    unfold Txt.split
    split
    · simp
    · split
      · simp
      · rw [StrLaws.partsBetween_eq]
        obtain ⟨p, r, h⟩ := StrLaws.partsFrom_ne x ("/" : Str).length 0 (Builtin.Str.occurrences x "/" 0 x.length (x.length + 1))
        rw [h]; simp
  have h3 : cl x = jn ((Txt.split x "/").map cl) := by
    rw [← cl_join]
    show cl x = cl (Builtin.Str.glued "/" (Txt.split x "/"))
    rw [StrLaws.glued_eq_join, h1]
  rw [h3, spl_jn (by simpa using hne) (by
    intro p hp
    obtain ⟨q, hq, rfl⟩ := List.mem_map.mp hp
    exact h2 q hq), List.map_map]
  exact (List.map_id _).symm

noncomputable def pcs (l : List Nat) : List (List Nat) := (spl l).filter (· ≠ [])
theorem pcs_app (a b : List Nat) : pcs (a ++ 47 :: b) = pcs a ++ pcs b := by unfold pcs; rw [spl_app, List.filter_append]
theorem pcs_slash (b : List Nat) : pcs (47 :: b) = pcs b := by
  have := pcs_app [] b
  rwa [List.nil_append] at this
theorem pcs_end (a : List Nat) : pcs (a ++ [47]) = pcs a := by
  rw [pcs_app]
  have : pcs [] = [] := rfl
  rw [this, List.append_nil]
theorem pcs_jn {ps : List (List Nat)} (h : ∀ p ∈ ps, 47 ∉ p) : pcs (jn ps) = ps.filter (· ≠ []) := by
  cases ps with
  | nil => rfl
  | cons p ps => unfold pcs; rw [spl_jn (by simp) h]
end

section
noncomputable def rt (l : List Nat) : List Nat := if l.take 1 ≠ [47] then [] else if (l.drop 1).take 1 ≠ [47] ∨ (l.drop 2).take 1 = [47] then [47] else [47, 47]
theorem mkS_inj {a b : List Nat} : mkS a = mkS b ↔ a = b := ⟨fun h => by have := congrArg cl h; exact this, fun h => by rw [h]⟩
theorem mkS_slash : mkS [47] = "/" := cl_ext (by rw [cl_slash]; rfl)
theorem mkS_nil : mkS [] = "" := cl_ext (by rw [cl_empty]; rfl)
theorem sl_mk (x : Str) (a b : Option Nat) : Txt.slice x (Option.map (fun (a : Nat) => (a : Int)) a) (Option.map (fun (a : Nat) => (a : Int)) b) = mkS (((cl x).drop (a.getD 0)).take (b.getD x.length - a.getD 0)) := slice_nat x a b
theorem sroot_rt (x : Str) : (sroot x).1 = mkS (rt (cl x)) ∧ pcs (cl (sroot x).2) = pcs (cl x) := by
  have s01 : Txt.slice x none (some 1) = mkS ((cl x).take 1) := sl_mk x none (some 1)
  have s12 : Txt.slice x (some 1) (some 2) = mkS (((cl x).drop 1).take 1) := sl_mk x (some 1) (some 2)
  have s23 : Txt.slice x (some 2) (some 3) = mkS (((cl x).drop 2).take 1) := sl_mk x (some 2) (some 3)
  have s02 : Txt.slice x none (some 2) = mkS ((cl x).take 2) := sl_mk x none (some 2)
  have s1 : Txt.slice x (some 1) none = mkS (((cl x).drop 1).take (x.length - 1)) := sl_mk x (some 1) none
  have s2 : Txt.slice x (some 2) none = mkS (((cl x).drop 2).take (x.length - 2)) := sl_mk x (some 2) none
  have t1 : ((cl x).drop 1).take (x.length - 1) = (cl x).drop 1 := by rw [← len_cl, ← List.length_drop, List.take_length]
  have t2 : ((cl x).drop 2).take (x.length - 2) = (cl x).drop 2 := by rw [← len_cl, ← List.length_drop, List.take_length]
  unfold sroot rt
  rw [s01, s12, s23, s02, s1, s2, t1, t2, ← mkS_slash]
  by_cases h1 : (cl x).take 1 = [47]
  · rw [if_neg (show ¬ ((mkS ((cl x).take 1) != mkS [47]) = true) by rw [h1]; simp), if_neg (show ¬ ((cl x).take 1 ≠ [47]) from fun h => h h1)]
    have hx : cl x = 47 :: (cl x).drop 1 := by
      rw [← List.singleton_append, ← h1, List.take_append_drop]
    by_cases h2 : ((cl x).drop 1).take 1 ≠ [47] ∨ ((cl x).drop 2).take 1 = [47]
    · rw [if_pos (show ((mkS (((cl x).drop 1).take 1) != mkS [47]) || (mkS (((cl x).drop 2).take 1) == mkS [47])) = true by
        rw [Bool.or_eq_true, bne_iff_ne, beq_iff_eq]
        rcases h2 with h | h
        · exact .inl fun e => h (mkS_inj.mp e)
        · exact .inr (by rw [h])), if_pos h2]
      refine ⟨rfl, ?_⟩
      dsimp only
      rw [cl_mk]
      conv => rhs; rw [hx]
      rw [pcs_slash]
    · rw [if_neg (show ¬ (((mkS (((cl x).drop 1).take 1) != mkS [47]) || (mkS (((cl x).drop 2).take 1) == mkS [47])) = true) by
        rw [Bool.or_eq_true, bne_iff_ne, beq_iff_eq]
        rintro (h | h)
        · exact h2 (.inl fun e => h (by rw [e]))
        · exact h2 (.inr (mkS_inj.mp h))), if_neg h2]
      have h3 : ((cl x).drop 1).take 1 = [47] := Classical.byContradiction fun e => h2 (.inl e)
      have hx2 : (cl x).drop 1 = 47 :: (cl x).drop 2 := by
        have := List.take_append_drop 1 ((cl x).drop 1)
        rw [h3, List.drop_drop] at this
        exact this.symm
      have e2 : cl x = 47 :: 47 :: (cl x).drop 2 := by rw [← hx2]; exact hx
      refine ⟨?_, ?_⟩
      · dsimp only
        rw [mkS_inj]
        conv => lhs; rw [e2]
        rfl
      · dsimp only
        rw [cl_mk]
        conv => rhs; rw [e2]
        rw [pcs_slash, pcs_slash]
  · rw [if_pos (by
      rw [bne_iff_ne]
      exact fun e => h1 (mkS_inj.mp e)), if_pos h1]
    exact ⟨mkS_nil.symm, rfl⟩
theorem nstep_nil (r : Str) (acc : List Str) : nstep r acc (mkS []) = acc := by
  unfold nstep
  rw [if_pos (.inl rfl)]
theorem foldl_skip (r : Str) : ∀ (l : List (List Nat)) (acc : List Str), (l.map mkS).foldl (nstep r) acc = ((l.filter (· ≠ [])).map mkS).foldl (nstep r) acc
  | [], acc => rfl
  | p :: l, acc => by
    by_cases h : p = []
    · subst h
      rw [List.filter_cons_of_neg (by simp), List.map_cons, List.foldl_cons, nstep_nil, foldl_skip r l acc]
    · rw [List.filter_cons_of_pos (by simpa using h), List.map_cons, List.map_cons, List.foldl_cons, List.foldl_cons, foldl_skip r l]
theorem normp_eq (x : Str) : normp x = mkP (mkS (rt (cl x))) (((pcs (cl x)).map mkS).foldl (nstep (mkS (rt (cl x)))) []) := by
  obtain ⟨h1, h2⟩ := sroot_rt x
  unfold normp mkP
  by_cases h0 : x.length = 0
  · rw [if_pos h0]
    have e : cl x = [] := cl_nil.mp h0
    rw [e]
    rfl
  · rw [if_neg h0]
    dsimp only
    rw [h1, split_spl, foldl_skip, ← h2]
    rfl

theorem len0 {c : Str} : c.length = 0 ↔ c = "" := by
  rw [cl_nil]
  constructor
  · intro h; exact cl_ext (by rw [h, cl_empty])
  · rintro rfl; exact cl_empty
noncomputable def nmS (l : List Str) : Nat × List Str := l.foldr (fun c p => nmStep p c) (0, [])
theorem nmS_cons (c : Str) (l : List Str) : nmS (c :: l) = nmStep (nmS l) c := rfl
theorem nm_fold {r : Str} : ∀ (l : List Str) (k : Nat) (acc : List Str), (".." : Str) ∉ acc → (r.length ≠ 0 → k = 0) →
    l.foldl (nstep r) (List.replicate k (".." : Str) ++ acc) = (if r.length = 0 then List.replicate (k + ((nmS l).1 - acc.length)) (".." : Str) else []) ++ acc.take (acc.length - (nmS l).1) ++ (nmS l).2
  | [], k, acc, hacc, hk => by
    show List.replicate k (".." : Str) ++ acc = (if r.length = 0 then List.replicate (k + (0 - acc.length)) (".." : Str) else []) ++ acc.take (acc.length - 0) ++ []
    rw [List.append_nil, Nat.sub_zero, List.take_length]
    split
    · rw [show k + (0 - acc.length) = k by omega]
    · rename_i h
      rw [hk h]; rfl
  | c :: l, k, acc, hacc, hk => by
    rw [List.foldl_cons, nmS_cons]
    by_cases h0 : c = "" ∨ c = "."
    · have e1 : nstep r (List.replicate k (".." : Str) ++ acc) c = List.replicate k (".." : Str) ++ acc := by
        unfold nstep
        rw [if_pos (by rcases h0 with h | h; exact .inl (len0.mpr h); exact .inr h)]
      have e2 : nmStep (nmS l) c = nmS l := by
        unfold nmStep
        rw [if_neg (by rcases h0 with h | h <;> (rw [h]; decide +kernel)), if_neg (by rintro ⟨a, b⟩; rcases h0 with h | h; exact a h; exact b h)]
      rw [e1, e2]
      exact nm_fold l k acc hacc hk
    · rw [not_or] at h0
      have n0 : ¬ (c.length = 0 ∨ c = ".") := by rintro (h | h); exact h0.1 (len0.mp h); exact h0.2 h
      by_cases h1 : c = ".."
      · have e2 : nmStep (nmS l) c = ((nmS l).1 + 1, (nmS l).2) := by unfold nmStep; rw [if_pos h1]
        rw [e2]
        rcases List.eq_nil_or_concat acc with ha | ⟨init, y, ha⟩
        · subst ha
          rw [List.append_nil]
          by_cases hr : r.length = 0
          · have e1 : nstep r (List.replicate k (".." : Str)) c = List.replicate (k + 1) (".." : Str) := by
              unfold nstep
              rw [if_neg n0, if_pos, h1, List.replicate_succ']
              right
              cases k with
              | zero => exact .inl ⟨hr, rfl⟩
              | succ k => right; rw [List.replicate_succ']; simp
            have ih := nm_fold (r := r) l (k + 1) [] (by simp) (fun h => absurd hr h)
            rw [List.append_nil] at ih
            rw [e1, ih, if_pos hr, if_pos hr]
            simp only [List.length_nil, List.take_nil, Nat.sub_zero, List.append_nil]
            rw [show k + 1 + (nmS l).1 = k + ((nmS l).1 + 1) by omega]
          · have k0 := hk hr
            subst k0
            have e1 : nstep r (List.replicate 0 (".." : Str)) c = [] := by
              unfold nstep
              rw [if_neg n0, if_neg]
              · rfl
              · rintro (h | h | h)
                · exact h h1
                · exact hr h.1
                · cases h
            have ih := nm_fold (r := r) l 0 [] (by simp) (fun _ => rfl)
            rw [e1]
            have e3 : List.replicate 0 (".." : Str) ++ [] = [] := rfl
            rw [e3] at ih
            rw [ih, if_neg hr, if_neg hr]
            simp only [List.length_nil, List.take_nil]
        · rw [List.concat_eq_append] at ha
          subst ha
          have hy : y ≠ ".." := fun e => hacc (by simp [e])
          have e1 : nstep r (List.replicate k (".." : Str) ++ (init ++ [y])) c = List.replicate k (".." : Str) ++ init := by
            unfold nstep
            rw [if_neg n0, if_neg]
            · rw [← List.append_assoc, List.dropLast_concat]
            · rintro (h | h | h)
              · exact h h1
              · have := h.2; simp at this
              · rw [← List.append_assoc, List.getLast?_concat] at h
                exact hy (by injection h)
          rw [e1, nm_fold l k init (fun h => hacc (List.mem_append_left _ h)) hk]
          have hl : (init ++ [y]).length = init.length + 1 := by simp
          dsimp only
          rw [hl, show init.length + 1 - ((nmS l).1 + 1) = init.length - (nmS l).1 by omega, show (nmS l).1 + 1 - (init.length + 1) = (nmS l).1 - init.length by omega, List.take_append_of_le_length (by omega)]
      · have e1 : nstep r (List.replicate k (".." : Str) ++ acc) c = List.replicate k (".." : Str) ++ (acc ++ [c]) := by
          unfold nstep
          rw [if_neg n0, if_pos (.inl h1), List.append_assoc]
        rw [e1, nm_fold l k (acc ++ [c]) (by
          intro h
          rcases List.mem_append.mp h with h | h
          · exact hacc h
          · simp at h; exact h1 h.symm) hk]
        have hl : (acc ++ [c]).length = acc.length + 1 := by simp
        rw [hl]
        by_cases ho : 0 < (nmS l).1
        · have e2 : nmStep (nmS l) c = ((nmS l).1 - 1, (nmS l).2) := by unfold nmStep; rw [if_neg h1, if_pos h0, if_pos ho]
          rw [e2]
          dsimp only
          rw [show (nmS l).1 - (acc.length + 1) = (nmS l).1 - 1 - acc.length by omega, show acc.length + 1 - (nmS l).1 = acc.length - ((nmS l).1 - 1) by omega, List.take_append_of_le_length (by omega)]
        · have e2 : nmStep (nmS l) c = ((nmS l).1, c :: (nmS l).2) := by unfold nmStep; rw [if_neg h1, if_pos h0, if_neg ho]
          rw [e2]
          dsimp only
          have o0 : (nmS l).1 = 0 := by omega
          rw [o0, show acc.length + 1 - 0 = (acc ++ [c]).length by simp, List.take_length]
          simp
theorem nmOf_fold {r : Str} {lead : Nat} (h : r.length = 0 ↔ lead = 0) (row : List Str) : row.foldl (nstep r) [] = nmOf lead row := by
  have q := nm_fold (r := r) row 0 [] (by simp) (fun _ => rfl)
  have e : row.reverse.foldl nmStep (0, []) = nmS row := by
    unfold nmS
    rw [List.foldl_reverse]
  unfold nmOf
  dsimp only
  rw [e]
  rw [List.replicate_zero, List.nil_append] at q
  rw [q]
  simp only [List.take_nil, List.length_nil, Nat.sub_zero, Nat.zero_add, List.append_nil]
  by_cases hl : lead = 0
  · rw [if_pos hl, if_pos (h.mpr hl)]
  · rw [if_neg hl, if_neg (fun e => hl (h.mp e)), List.nil_append]
end

section
noncomputable def al : List Nat := [65, 97, 66, 98, 45, 42, 63, 91, 93, 33, 92, 94, 126, 32, 46, 47]
theorem al_128 : ∀ c ∈ al, c < 128 := by decide
theorem al_lo : ∀ c ∈ al, lo c ∈ al := by decide
theorem al_up : ∀ c ∈ al, up c ∈ al := by decide
theorem lo_slash : ∀ c ∈ al, (lo c = 47 ↔ c = 47) := by decide
theorem up_slash : ∀ c ∈ al, (up c = 47 ↔ c = 47) := by decide
theorem lo_dot : ∀ c ∈ al, (lo c = 46 ↔ c = 46) := by decide
theorem lo_up : ∀ c ∈ al, lo (up c) = lo c := by decide
theorem al_cl : ∀ c ∈ al, 32 ≤ c ∧ c < 127 := by decide
noncomputable def Al (x : Str) : Prop := ∀ c ∈ cl x, c ∈ al
theorem Al.b {x : Str} (h : Al x) : ∀ c ∈ cl x, c < 128 := fun c hc => al_128 c (h c hc)
theorem Al.lower {x : Str} (h : Al x) : Al (Txt.lower x) := by
  intro c hc
  rw [cl_lower h.b] at hc
  obtain ⟨d, hd, rfl⟩ := List.mem_map.mp hc
  exact al_lo d (h d hd)
theorem Al.upper {x : Str} (h : Al x) : Al (Txt.upper x) := by
  intro c hc
  rw [cl_upper h.b] at hc
  obtain ⟨d, hd, rfl⟩ := List.mem_map.mp hc
  exact al_up d (h d hd)
theorem Al.clean {x : Str} (h : Al x) : Clean x := fun c hc => al_cl c (h c (Array.mem_toList_iff.mpr hc))
theorem Al.strOk {x : Str} (h : Al x) : PyData.strOk x = true := by
  unfold PyData.strOk
  rw [Array.all_eq_true']
  intro c hc
  have := al_128 c (h c (Array.mem_toList_iff.mpr hc))
  simp; omega
theorem Al.app {x y : Str} (hx : Al x) (hy : Al y) : Al (x ++ y) := by
  intro c hc
  rw [cl_app] at hc
  rcases List.mem_append.mp hc with h | h
  · exact hx c h
  · exact hy c h

structure Pl (x : Str) : Prop where
  al : Al x
  ns : 47 ∉ cl x
theorem words_pl : ∀ w ∈ wordsL, Pl w := by
  have : wordsL.all (fun w => (cl w).all fun c => al.contains c && c != 47) = true := by decide +kernel
  intro w hw
  have h := List.all_eq_true.mp this w hw
  refine ⟨fun c hc => ?_, fun hc => ?_⟩
  · have := List.all_eq_true.mp h c hc
    rw [Bool.and_eq_true] at this
    simpa using this.1
  · have := List.all_eq_true.mp h 47 hc
    simp at this
theorem Pl.upper {x : Str} (h : Pl x) : Pl (Txt.upper x) := ⟨h.al.upper, fun hc => by
  rw [cl_upper h.al.b] at hc
  obtain ⟨d, hd, e⟩ := List.mem_map.mp hc
  exact h.ns ((up_slash d (h.al d hd)).mp e ▸ hd)⟩
theorem Pl.lower {x : Str} (h : Pl x) : Pl (Txt.lower x) := ⟨h.al.lower, fun hc => by
  rw [cl_lower h.al.b] at hc
  obtain ⟨d, hd, e⟩ := List.mem_map.mp hc
  exact h.ns ((lo_slash d (h.al d hd)).mp e ▸ hd)⟩
theorem root_len {n : Nat} (h : n < 4) : (rootOf n).length = 0 ↔ n = 0 := by
  match n, h with
  | 0, _ => decide +kernel
  | 1, _ => decide +kernel
  | 2, _ => decide +kernel
  | 3, _ => decide +kernel
theorem rt_rep {n : Nat} (h : n < 4) {j : List Nat} (hj : j.head? ≠ some 47) : rt (List.replicate n 47 ++ j) = cl (rootOf n) := by
  have e0 : cl (rootOf 0) = [] := by decide +kernel
  have e1 : cl (rootOf 1) = [47] := by decide +kernel
  have e2 : cl (rootOf 2) = [47, 47] := by decide +kernel
  have e3 : cl (rootOf 3) = [47] := by decide +kernel
  cases j with
  | nil =>
    match n, h with
    | 0, _ => rw [e0]; decide
    | 1, _ => rw [e1]; decide
    | 2, _ => rw [e2]; decide
    | 3, _ => rw [e3]; decide
  | cons c j =>
    have hc : c ≠ 47 := fun e => hj (by rw [e]; rfl)
    match n, h with
    | 0, _ => rw [e0]; simp [rt, hc]
    | 1, _ => rw [e1]; simp [rt, List.replicate, hc]
    | 2, _ => rw [e2]; simp [rt, List.replicate, hc]
    | 3, _ => rw [e3]; simp [rt, List.replicate]
theorem pcs_rep (n : Nat) (j : List Nat) : pcs (List.replicate n 47 ++ j) = pcs j := by
  induction n with
  | zero => rfl
  | succ n ih => rw [List.replicate_succ, List.cons_append, pcs_slash, ih]
theorem jn_head {row : List Str} (h : ∀ p ∈ row, 47 ∉ cl p) (h0 : row.head? ≠ some ("" : Str)) : (jn (row.map cl)).head? ≠ some 47 := by
  have one : ∀ p ∈ row, (cl p).head? ≠ some 47 := fun p hp e => h p hp (List.mem_of_head? e)
  match row, h0, one with
  | [], _, _ => simp [jn]
  | [x], _, one => exact one x (by simp)
  | x :: y :: r, h0, one =>
    show (cl x ++ 47 :: jn ((y :: r).map cl)).head? ≠ some 47
    cases hx : cl x with
    | nil => exact absurd (by rw [cl_ext (hx.trans cl_empty.symm)]; rfl) h0
    | cons c t =>
      have := one x (by simp)
      rw [hx] at this
      simpa using this
theorem fold_pcs (r : Str) {row : List Str} (h : ∀ p ∈ row, 47 ∉ cl p) : ((pcs (jn (row.map cl))).map mkS).foldl (nstep r) [] = row.foldl (nstep r) [] := by
  rw [pcs_jn (by
    intro p hp
    obtain ⟨q, hq, rfl⟩ := List.mem_map.mp hp
    exact h q hq), ← foldl_skip, List.map_map]
  congr 1
  exact List.map_id _
theorem cl_spell {lead : Nat} (h : lead < 4) (row : List Str) : cl (spell lead row) = List.replicate lead 47 ++ jn (row.map cl) := by
  unfold spell
  rw [cl_app, cl_join, slash_mul h]
theorem norm_spell {lead : Nat} {row : List Str} (hl : lead < 4) (h : ∀ p ∈ row, 47 ∉ cl p) (h0 : row.head? ≠ some ("" : Str)) : normp (spell lead row) = mkP (rootOf lead) (nmOf lead row) := by
  rw [normp_eq, cl_spell hl, rt_rep hl (jn_head h h0), pcs_rep, mk_cl, fold_pcs _ h, nmOf_fold (root_len hl)]

theorem starts_slash (x : Str) : Txt.startswith x "/" = ((cl x).head? == some 47) := by
  have e1 : ("/" : Str).length = 1 := by decide +kernel
  have key := StrLaws.subAt_one x 47 0
  have e : ("/" : Str) = ⟨#[47]⟩ := by decide +kernel
  have hh : (cl x)[0]? = (cl x).head? := by cases cl x <;> rfl
  rw [Bool.eq_iff_iff, beq_iff_eq, ← hh]
  unfold Txt.startswith
  rw [e, Bool.and_eq_true, decide_eq_true_eq]
  exact key
theorem ends_slash (x : Str) : Txt.endswith x "/" = ((cl x).getLast? == some 47) := by
  have e : ("/" : Str) = ⟨#[47]⟩ := by decide +kernel
  have key := StrLaws.subAt_one x 47 (x.length - 1)
  have hl : (⟨#[47]⟩ : Str).length = 1 := rfl
  have hh : (cl x)[x.length - 1]? = (cl x).getLast? := by rw [List.getLast?_eq_getElem?]; rfl
  rw [Bool.eq_iff_iff, beq_iff_eq, ← hh]
  unfold Txt.endswith
  rw [e, Bool.and_eq_true, decide_eq_true_eq, hl]
  rw [hl] at key
  constructor
  · rintro ⟨h1, h2⟩
    exact key.mp ⟨by omega, h2⟩
  · intro h
    obtain ⟨h1, h2⟩ := key.mpr h
    exact ⟨by omega, h2⟩
theorem cl_join2 (x y : Str) : cl (join2 x y) = if (cl y).head? = some 47 ∨ cl x = [] then cl y else if (cl x).getLast? = some 47 then cl x ++ cl y else cl x ++ 47 :: cl y := by
  unfold join2
  rw [starts_slash, ends_slash]
  have b1 : (((cl y).head? == some 47) || x.length == 0) = decide ((cl y).head? = some 47 ∨ cl x = []) := by
    rw [Bool.eq_iff_iff, Bool.or_eq_true, decide_eq_true_eq, beq_iff_eq, beq_iff_eq, cl_nil]
  have b2 : ((cl x).getLast? == some 47) = decide ((cl x).getLast? = some 47) := by
    rw [Bool.eq_iff_iff, decide_eq_true_eq, beq_iff_eq]
  rw [b1, b2]
  by_cases h1 : (cl y).head? = some 47 ∨ cl x = []
  · rw [if_pos h1, decide_eq_true h1, if_pos rfl]
  · rw [if_neg h1, decide_eq_false h1, if_neg (by decide)]
    by_cases h2 : (cl x).getLast? = some 47
    · rw [if_pos h2, decide_eq_true h2, if_pos rfl, cl_app]
    · rw [if_neg h2, decide_eq_false h2, if_neg (by decide), cl_app, cl_app, cl_slash]; rfl
theorem up_jn : ∀ row : List Str, (∀ p ∈ row, Al p) → (jn (row.map cl)).map up = jn ((row.map Txt.upper).map cl)
  | [], _ => rfl
  | [x], h => by
    show (cl x).map up = cl (Txt.upper x)
    rw [cl_upper (h x (by simp)).b]
  | x :: y :: r, h => by
    have ih := up_jn (y :: r) (fun p hp => h p (List.mem_cons_of_mem _ hp))
    show (cl x ++ 47 :: jn ((y :: r).map cl)).map up = cl (Txt.upper x) ++ 47 :: jn (((y :: r).map Txt.upper).map cl)
    rw [List.map_append, List.map_cons, ih, cl_upper (h x (by simp)).b]
    rfl
theorem Al.spell {lead : Nat} {row : List Str} (hl : lead < 4) (h : ∀ p ∈ row, Al p) : Al (spell lead row) := by
  intro c hc
  rw [cl_spell hl] at hc
  rcases List.mem_append.mp hc with h1 | h1
  · have := List.eq_of_mem_replicate h1; subst this; decide
  · have : ∀ row : List Str, (∀ p ∈ row, Al p) → ∀ c ∈ jn (row.map cl), c ∈ al := fun row => by
      induction row with
      | nil => intro _ c hc; cases hc
      | cons x r ih =>
        intro h c hc
        cases r with
        | nil => exact h x (by simp) c hc
        | cons y r =>
          have hc' : c ∈ cl x ++ 47 :: jn ((y :: r).map cl) := hc
          rcases List.mem_append.mp hc' with h1 | h1
          · exact h x (by simp) c h1
          · rcases List.mem_cons.mp h1 with rfl | h1
            · decide
            · exact ih (fun p hp => h p (List.mem_cons_of_mem _ hp)) c h1
    exact this row h c h1
theorem getLast_rep {n : Nat} (h : n ≠ 0) : (List.replicate n 47).getLast? = some 47 := by
  cases n with
  | zero => exact absurd rfl h
  | succ n => rw [List.replicate_succ']; simp
theorem norm_join {bl : Nat} {brow row : List Str} (hbl : bl < 4) (hb : ∀ p ∈ brow, Pl p) (hb0 : brow.head? ≠ some ("" : Str)) (hr : ∀ p ∈ row, Pl p) (hr0 : row.head? ≠ some ("" : Str)) :
    normp (join2 (Txt.upper (spell bl brow)) (spell 0 row)) = mkP (rootOf bl) (nmOf bl (brow.map Txt.upper ++ row)) := by
  have hbu : ∀ p ∈ brow.map Txt.upper, 47 ∉ cl p := by
    intro p hp
    obtain ⟨q, hq, rfl⟩ := List.mem_map.mp hp
    exact (hb q hq).upper.ns
  have hbu0 : (brow.map Txt.upper).head? ≠ some ("" : Str) := by
    cases brow with
    | nil => simp
    | cons x r =>
      intro e
      have e' : Txt.upper x = "" := by simpa using e
      have := congrArg cl e'
      rw [cl_upper (hb x (by simp)).al.b, cl_empty, List.map_eq_nil_iff] at this
      exact hb0 (by rw [cl_ext (this.trans cl_empty.symm)]; rfl)
  have hrn : ∀ p ∈ row, 47 ∉ cl p := fun p hp => (hr p hp).ns
  have hU : cl (Txt.upper (spell bl brow)) = List.replicate bl 47 ++ jn ((brow.map Txt.upper).map cl) := by
    rw [cl_upper (Al.spell hbl fun p hp => (hb p hp).al).b, cl_spell hbl, List.map_append, up_jn brow (fun p hp => (hb p hp).al), List.map_replicate]
    rfl
  have hY : cl (spell 0 row) = jn (row.map cl) := by rw [cl_spell (by decide)]; rfl
  have hy := jn_head hrn hr0
  have hu := jn_head hbu hbu0
  have hall : ∀ p ∈ brow.map Txt.upper ++ row, 47 ∉ cl p := by
    intro p hp
    rcases List.mem_append.mp hp with h | h
    · exact hbu p h
    · exact hrn p h
  have key : rt (cl (join2 (Txt.upper (spell bl brow)) (spell 0 row))) = cl (rootOf bl) ∧ pcs (cl (join2 (Txt.upper (spell bl brow)) (spell 0 row))) = pcs (jn ((brow.map Txt.upper ++ row).map cl)) := by
    have e0 : pcs (jn ((brow.map Txt.upper ++ row).map cl)) = pcs (jn ((brow.map Txt.upper).map cl)) ++ pcs (jn (row.map cl)) := by
      have q : ∀ l : List Str, (∀ p ∈ l, 47 ∉ cl p) → ∀ p ∈ l.map cl, 47 ∉ p := fun l h p hp => by
        obtain ⟨q, hq, rfl⟩ := List.mem_map.mp hp
        exact h q hq
      rw [pcs_jn (q _ hall), pcs_jn (q _ hbu), pcs_jn (q _ hrn), List.map_append, List.filter_append]
    rw [cl_join2, hU, hY, e0]
    generalize hj : jn ((brow.map Txt.upper).map cl) = j at *
    by_cases h1 : (jn (row.map cl)).head? = some 47 ∨ List.replicate bl 47 ++ j = []
    · rw [if_pos h1]
      rcases h1 with h | h
      · exact absurd h hy
      · obtain ⟨h2, h3⟩ := List.append_eq_nil_iff.mp h
        have : bl = 0 := by
          cases bl with
          | zero => rfl
          | succ n => simp at h2
        subst this
        subst h3
        have q := rt_rep (n := 0) (by decide) hy
        exact ⟨q, by show _ = pcs [] ++ _; rfl⟩
    · rw [if_neg h1]
      rw [not_or] at h1
      cases j with
      | nil =>
        rw [List.append_nil]
        have hb1 : bl ≠ 0 := by rintro rfl; exact h1.2 rfl
        rw [if_pos (getLast_rep hb1)]
        refine ⟨rt_rep hbl hy, ?_⟩
        rw [pcs_rep]
        rfl
      | cons c j =>
        have hc : ∀ t : List Nat, (c :: j ++ t).head? ≠ some 47 := fun t => by simpa using hu
        by_cases h2 : (List.replicate bl 47 ++ c :: j).getLast? = some 47
        · rw [if_pos h2, List.append_assoc]
          refine ⟨rt_rep hbl (hc _), ?_⟩
          rw [pcs_rep]
          rcases List.eq_nil_or_concat (c :: j) with h3 | ⟨init, y, h3⟩
          · cases h3
          · rw [List.concat_eq_append] at h3
            rw [h3] at h2 ⊢
            rw [← List.append_assoc, List.getLast?_concat] at h2
            have : y = 47 := by injection h2
            subst this
            rw [List.append_assoc, pcs_end]
            exact pcs_app init _
        · rw [if_neg h2, List.append_assoc]
          refine ⟨rt_rep hbl (hc _), ?_⟩
          rw [pcs_rep]
          exact pcs_app _ _
  rw [normp_eq, key.1, key.2, mk_cl, fold_pcs _ hall, nmOf_fold (root_len hbl)]
end

section
theorem lo_jn : ∀ row : List Str, (∀ p ∈ row, Al p) → (jn (row.map cl)).map lo = jn ((row.map Txt.lower).map cl)
  | [], _ => rfl
  | [x], h => by
    show (cl x).map lo = cl (Txt.lower x)
    rw [cl_lower (h x (by simp)).b]
  | x :: y :: r, h => by
    have ih := lo_jn (y :: r) (fun p hp => h p (List.mem_cons_of_mem _ hp))
    show (cl x ++ 47 :: jn ((y :: r).map cl)).map lo = cl (Txt.lower x) ++ 47 :: jn (((y :: r).map Txt.lower).map cl)
    rw [List.map_append, List.map_cons, ih, cl_lower (h x (by simp)).b]
    rfl

structure Nm1 (x : Str) : Prop where
  pl : Pl x
  ne : cl x ≠ []
  nd : cl x ≠ [46]
theorem Nm1.lower {x : Str} (h : Nm1 x) : Nm1 (Txt.lower x) := ⟨h.pl.lower, fun e => by
  rw [cl_lower h.pl.al.b, List.map_eq_nil_iff] at e
  exact h.ne e, fun e => by
  rw [cl_lower h.pl.al.b] at e
  match hx : cl x, e with
  | [c], e =>
    have hc : c ∈ al := h.pl.al c (by rw [hx]; simp)
    have : lo c = 46 := by simpa using e
    exact h.nd (by rw [hx, (lo_dot c hc).mp this])
  | [], e => cases e
  | _ :: _ :: _, e => simp at e⟩
noncomputable def Vn (ns : List Str) : Prop := ∀ x ∈ ns, Nm1 x
theorem Vn.lower {ns : List Str} (h : Vn ns) : Vn (ns.map Txt.lower) := by
  intro x hx
  obtain ⟨y, hy, rfl⟩ := List.mem_map.mp hx
  exact (h y hy).lower
theorem Vn.ns {ns : List Str} (h : Vn ns) : ∀ p ∈ ns, 47 ∉ cl p := fun p hp => (h p hp).pl.ns
theorem Vn.al {ns : List Str} (h : Vn ns) : ∀ p ∈ ns, Al p := fun p hp => (h p hp).pl.al
theorem Vn.head {ns : List Str} (h : Vn ns) : ns.head? ≠ some ("" : Str) := by
  intro e
  exact (h "" (List.mem_of_head? e)).ne cl_empty
theorem Vn.jn_nil {ns : List Str} (h : Vn ns) (e : jn (ns.map cl) = []) : ns = [] := by
  match ns, h, e with
  | [], _, _ => rfl
  | [x], h, e => exact absurd e (h x (by simp)).ne
  | x :: y :: r, h, e =>
    have e' : cl x ++ 47 :: jn ((y :: r).map cl) = [] := e
    simp at e'
theorem cl_mkP (r : Str) (ns : List Str) : cl (mkP r ns) = if cl r ++ jn (ns.map cl) = [] then [46] else cl r ++ jn (ns.map cl) := by
  unfold mkP
  by_cases h : cl r ++ jn (ns.map cl) = []
  · rw [if_pos h, if_pos (cl_nil.mpr (by rw [cl_app, cl_join]; exact h)), cl_dot]
  · rw [if_neg h, if_neg (fun e => h (by have := cl_nil.mp e; rwa [cl_app, cl_join] at this)), cl_app, cl_join]
theorem root_rep {n : Nat} (h : n < 4) : ∃ k, k < 3 ∧ cl (rootOf n) = List.replicate k 47 ∧ rootOf k = rootOf n := by
  match n, h with
  | 0, _ => exact ⟨0, by decide, by decide +kernel, rfl⟩
  | 1, _ => exact ⟨1, by decide, by decide +kernel, rfl⟩
  | 2, _ => exact ⟨2, by decide, by decide +kernel, rfl⟩
  | 3, _ => exact ⟨1, by decide, by decide +kernel, rfl⟩
theorem decode {n : Nat} (hn : n < 4) {ns : List Str} (h : Vn ns) : rt (cl (mkP (rootOf n) ns)) = cl (rootOf n) ∧ (pcs (cl (mkP (rootOf n) ns))).filter (· ≠ [46]) = ns.map cl := by
  obtain ⟨k, hk, ek, er⟩ := root_rep hn
  rw [cl_mkP]
  split
  · rename_i e
    obtain ⟨e1, e2⟩ := List.append_eq_nil_iff.mp e
    rw [e1, h.jn_nil e2]
    exact ⟨by decide, by decide⟩
  · rw [ek]
    refine ⟨?_, ?_⟩
    · rw [rt_rep (by omega) (jn_head h.ns h.head), er, ek]
    · rw [pcs_rep, pcs_jn (by
        intro p hp
        obtain ⟨q, hq, rfl⟩ := List.mem_map.mp hp
        exact h.ns q hq), List.filter_filter, List.filter_eq_self]
      intro p hp
      obtain ⟨q, hq, rfl⟩ := List.mem_map.mp hp
      rw [Bool.and_eq_true, decide_eq_true_eq, decide_eq_true_eq]
      exact ⟨(h q hq).nd, (h q hq).ne⟩
theorem map_cl_inj {a b : List Str} (h : a.map cl = b.map cl) : a = b := by
  induction a generalizing b with
  | nil => cases b with
    | nil => rfl
    | cons => cases h
  | cons x a ih => cases b with
    | nil => cases h
    | cons y b =>
      rw [List.map_cons, List.map_cons, List.cons.injEq] at h
      rw [cl_ext h.1, ih h.2]
theorem mkP_inj {n m : Nat} (hn : n < 4) (hm : m < 4) {a b : List Str} (ha : Vn a) (hb : Vn b) (h : mkP (rootOf n) a = mkP (rootOf m) b) : rootOf n = rootOf m ∧ a = b := by
  obtain ⟨x1, x2⟩ := decode hn ha
  obtain ⟨y1, y2⟩ := decode hm hb
  rw [h] at x1 x2
  exact ⟨cl_ext (x1.symm.trans y1), map_cl_inj (x2.symm.trans y2)⟩
theorem Al.root {n : Nat} (h : n < 4) : Al (rootOf n) := by
  obtain ⟨k, _, e, _⟩ := root_rep h
  intro c hc
  rw [e] at hc
  rw [List.eq_of_mem_replicate hc]; decide
theorem Al.jn : ∀ row : List Str, (∀ p ∈ row, Al p) → ∀ c ∈ jn (row.map cl), c ∈ al
  | [], _, c, hc => by cases hc
  | [x], h, c, hc => h x (by simp) c hc
  | x :: y :: r, h, c, hc => by
    have hc' : c ∈ cl x ++ 47 :: Mine.jn ((y :: r).map cl) := hc
    rcases List.mem_append.mp hc' with h1 | h1
    · exact h x (by simp) c h1
    · rcases List.mem_cons.mp h1 with rfl | h1
      · decide
      · exact Al.jn (y :: r) (fun p hp => h p (List.mem_cons_of_mem _ hp)) c h1
theorem Al.mkP {n : Nat} (hn : n < 4) {ns : List Str} (h : ∀ p ∈ ns, Al p) : Al (mkP (rootOf n) ns) := by
  intro c hc
  rw [cl_mkP] at hc
  split at hc
  · simp at hc; subst hc; decide
  · rcases List.mem_append.mp hc with h1 | h1
    · exact Al.root hn c h1
    · exact Al.jn ns h c h1
theorem lower_mkP {n : Nat} (hn : n < 4) {ns : List Str} (h : Vn ns) : Txt.lower (mkP (rootOf n) ns) = mkP (rootOf n) (ns.map Txt.lower) := by
  apply cl_ext
  obtain ⟨k, _, e, _⟩ := root_rep hn
  rw [cl_lower (Al.mkP hn h.al).b, cl_mkP, cl_mkP, ← lo_jn ns h.al]
  have hr : (cl (rootOf n)).map lo = cl (rootOf n) := by rw [e, List.map_replicate]; rfl
  by_cases h0 : cl (rootOf n) ++ jn (ns.map cl) = []
  · obtain ⟨h1, h2⟩ := List.append_eq_nil_iff.mp h0
    rw [if_pos h0, h2, h1]; rfl
  · rw [if_neg h0, if_neg, List.map_append, hr]
    intro h1
    obtain ⟨h1, h2⟩ := List.append_eq_nil_iff.mp h1
    rw [List.map_eq_nil_iff] at h2
    exact h0 (by rw [h1, h2]; rfl)

theorem slot_iff {n m : Nat} (hn : n < 4) (hm : m < 4) {a b : List Str} (ha : Vn a) (hb : Vn b) : Txt.lower (mkP (rootOf n) a) = Txt.lower (mkP (rootOf m) b) ↔ slotP (rootOf n) a = slotP (rootOf m) b := by
  rw [lower_mkP hn ha, lower_mkP hm hb]
  constructor
  · intro h
    obtain ⟨e1, e2⟩ := mkP_inj hn hm ha.lower hb.lower h
    unfold slotP
    rw [e1, e2]
  · intro h
    unfold slotP at h
    rw [List.cons.injEq] at h
    rw [h.1, h.2]

theorem nst_mem (r : Str) : ∀ (l acc : List Str), (l.foldl (nstep r) acc).length ≤ acc.length + l.length ∧ ∀ x ∈ l.foldl (nstep r) acc, x ∈ acc ∨ (x ∈ l ∧ x.length ≠ 0 ∧ x ≠ ".")
  | [], acc => ⟨Nat.le_refl _, fun x h => .inl h⟩
  | c :: l, acc => by
    have hc : (nstep r acc c).length ≤ acc.length + 1 ∧ ∀ x ∈ nstep r acc c, x ∈ acc ∨ (x = c ∧ x.length ≠ 0 ∧ x ≠ ".") := by
      unfold nstep
      split
      · exact ⟨Nat.le_succ _, fun x h => .inl h⟩
      · rename_i h
        rw [not_or] at h
        split
        · refine ⟨by simp, fun x hx => ?_⟩
          rcases List.mem_append.mp hx with h1 | h1
          · exact .inl h1
          · have : x = c := by simpa using h1
            subst this
            exact .inr ⟨rfl, h.1, h.2⟩
        · exact ⟨by simp; omega, fun x hx => .inl (List.dropLast_subset _ hx)⟩
    obtain ⟨a, b⟩ := nst_mem r l (nstep r acc c)
    refine ⟨by rw [List.foldl_cons, List.length_cons]; omega, fun x hx => ?_⟩
    rcases b x hx with h | h
    · rcases hc.2 x h with h | ⟨rfl, h1, h2⟩
      · exact .inl h
      · exact .inr ⟨by simp, h1, h2⟩
    · exact .inr ⟨List.mem_cons_of_mem _ h.1, h.2⟩
theorem nm_vn {lead : Nat} (hl : lead < 4) {row : List Str} (h : ∀ p ∈ row, Pl p) : Vn (nmOf lead row) ∧ (nmOf lead row).length ≤ row.length ∧ ∀ x ∈ nmOf lead row, x ∈ row := by
  rw [← nmOf_fold (root_len hl)]
  obtain ⟨a, b⟩ := nst_mem (rootOf lead) row []
  refine ⟨fun x hx => ?_, by simpa using a, fun x hx => (b x hx).elim (fun h => nomatch h) (·.1)⟩
  rcases b x hx with h | ⟨h1, h2, h3⟩
  · cases h
  · exact ⟨h x h1, fun e => h2 (cl_nil.mpr e), fun e => h3 (cl_ext (e.trans cl_dot.symm))⟩

structure Wo (w : Way) : Prop where
  lead : w.lead < 4
  pl : ∀ p ∈ w.row, Pl p
  len : ∀ p ∈ w.row, p.length ≤ 4
  row : w.row.length ≤ 6
  sp : w.sp.length ≤ 100
  norm : normp w.sp = mkP (rootOf w.lead) (nmOf w.lead w.row)
theorem Wo.vn {w : Way} (h : Wo w) : Vn (nmOf w.lead w.row) := (nm_vn h.lead h.pl).1
theorem Wo.text_len {w : Way} (h : Wo w) : (wText w).length ≤ 40 := by
  obtain ⟨a, b, c⟩ := nm_vn h.lead h.pl
  have hj := join_len (sep := ("/" : Str)) (l := nmOf w.lead w.row) (B := 4) (N := 6) (fun x hx => h.len x (c x hx)) (Nat.le_trans b h.row)
  have e1 : ("/" : Str).length = 1 := by decide +kernel
  have e2 : ("." : Str).length = 1 := by decide +kernel
  have hr := root_small w.lead
  rw [e1] at hj
  show (mkP _ _).length ≤ 40
  unfold mkP
  split
  · omega
  · rw [Str.length_append]; omega
theorem Wo.al {w : Way} (h : Wo w) : Al (wText w) := Al.mkP h.lead h.vn.al
theorem Al.slot {n : Nat} (hn : n < 4) {ns : List Str} (h : Vn ns) : ∀ x ∈ slotP (rootOf n) ns, Al x := by
  intro x hx
  rcases List.mem_cons.mp hx with rfl | hx
  · exact Al.root hn
  · obtain ⟨y, hy, rfl⟩ := List.mem_map.mp hx
    exact (h y hy).pl.al.lower
theorem Wo.fit {w : Way} (h : Wo w) : WayFit w := by
  obtain ⟨a, b, c⟩ := nm_vn h.lead h.pl
  exact ⟨h.lead, by have := h.row; omega, by have := h.sp; omega, ⟨by have := h.row; omega, fun x hx => by have := h.len x (c x hx); omega⟩, h.norm, fun x hx => (Al.slot h.lead a x hx).strOk⟩
theorem row_pl (n : Nat) : ∀ p ∈ wayRow n, Pl p := fun p hp => words_pl p ((way_row_b n).2.1 p hp)
theorem Wo.zero (n : Nat) : Wo (way0 n) := by
  obtain ⟨a, b, c⟩ := way_row_b (n / 6)
  have hl : n / 6 % 4 < 4 := Nat.mod_lt _ (by decide)
  exact ⟨hl, row_pl _, fun p hp => words_small p (b p hp), by show (wayRow (n / 6)).length ≤ 6; omega, by have := spell_len n; omega, norm_spell hl (fun p hp => (row_pl _ p hp).ns) c⟩
theorem up_len {x : Str} (h : Al x) : (Txt.upper x).length = x.length := by rw [← len_cl, cl_upper h.b, List.length_map, len_cl]
theorem join2_len (x y : Str) : (join2 x y).length ≤ x.length + y.length + 1 := by
  have := congrArg List.length (cl_join2 x y)
  rw [len_cl] at this
  have hx := len_cl x
  have hy := len_cl y
  rw [this]
  split
  · omega
  · split
    · rw [List.length_append]; omega
    · rw [List.length_append, List.length_cons]; omega
theorem Wo.base {b : Ln} {n k : Nat} (h1 : b.lead = (way0 k).lead) (h2 : b.row = (way0 k).row) (h3 : b.spelled = (way0 k).sp) : Wo (wayB b (way0 n)) := by
  obtain ⟨a, bw, c⟩ := way_row_b (n / 6)
  obtain ⟨a', bw', c'⟩ := way_row_b (k / 6)
  have hl : k / 6 % 4 < 4 := Nat.mod_lt _ (by decide)
  have hn : n / 6 % 4 < 4 := Nat.mod_lt _ (by decide)
  have hal : Al (spell (k / 6 % 4) (wayRow (k / 6))) := Al.spell hl fun p hp => (row_pl _ p hp).al
  have hsl : (spell (k / 6 % 4) (wayRow (k / 6))).length ≤ 20 := spell_len k
  have hsn : (spell (n / 6 % 4) (wayRow (n / 6))).length ≤ 20 := spell_len n
  have hj := join2_len (Txt.upper (spell (k / 6 % 4) (wayRow (k / 6)))) (spell (n / 6 % 4) (wayRow (n / 6)))
  rw [up_len hal] at hj
  unfold wayB
  rw [h1, h2, h3]
  dsimp only [way0]
  by_cases h0 : n / 6 % 4 = 0
  · rw [if_pos h0, if_pos h0]
    refine ⟨hl, ?_, ?_, by simp; omega, by show (join2 _ _).length ≤ 100; omega, ?_⟩
    · intro p hp
      rcases List.mem_append.mp hp with h | h
      · obtain ⟨q, hq, rfl⟩ := List.mem_map.mp h
        exact (row_pl _ q hq).upper
      · exact row_pl _ p h
    · intro p hp
      rcases List.mem_append.mp hp with h | h
      · obtain ⟨q, hq, rfl⟩ := List.mem_map.mp h
        rw [up_len (row_pl _ q hq).al]
        exact words_small q (bw' q hq)
      · exact words_small p (bw p h)
    · show normp (join2 _ (spell (n / 6 % 4) (wayRow (n / 6)))) = _
      rw [h0]
      exact norm_join hl (row_pl _) c' (row_pl _) c
  · rw [if_neg h0, if_neg h0]
    refine ⟨hn, row_pl _, fun p hp => words_small p (bw p hp), by show (wayRow (n / 6)).length ≤ 6; omega, by show (join2 _ _).length ≤ 100; omega, ?_⟩
    show normp (join2 _ _) = _
    have e : join2 (Txt.upper (spell (k / 6 % 4) (wayRow (k / 6)))) (spell (n / 6 % 4) (wayRow (n / 6))) = spell (n / 6 % 4) (wayRow (n / 6)) := by
      apply cl_ext
      rw [cl_join2, if_pos]
      left
      rw [cl_spell hn]
      cases hq : n / 6 % 4 with
      | zero => exact absurd hq h0
      | succ t => rw [List.replicate_succ]; rfl
    rw [e]
    exact norm_spell hn (fun p hp => (row_pl _ p hp).ns) c
end

section
theorem rfind_at {x : Str} {P Q : List Nat} (h : cl x = P ++ Q) (hq : 47 ∉ Q) (hp : P = [] ∨ P.getLast? = some 47) : Txt.rfind x "/" + 1 = (P.length : Nat) := by
  have e : ("/" : Str) = ⟨#[47]⟩ := by decide +kernel
  have at_iff : ∀ i, StrLaws.At x "/" x.length i ↔ (cl x)[i]? = some 47 := fun i => by rw [e]; exact StrLaws.subAt_one x 47 i
  have last : P ≠ [] → (cl x)[P.length - 1]? = some 47 := fun hne => by
    have hl := hp.resolve_left hne
    rw [List.getLast?_eq_getElem?] at hl
    rw [h, List.getElem?_append_left (by have := List.length_pos_iff.mpr hne; omega)]
    exact hl
  unfold Txt.rfind
  rcases StrLaws.last_spec x "/" with ⟨h1, h2⟩ | ⟨i, h1, h2, h3⟩
  · rw [h1]
    have hp0 : P = [] := Classical.byContradiction fun hne => h2 _ ((at_iff _).mpr (last hne))
    rw [hp0]; rfl
  · rw [h1]
    have hi := (at_iff i).mp h2
    have hlt : i < P.length := by
      refine Classical.byContradiction fun hn => ?_
      rw [h, List.getElem?_append_right (by omega)] at hi
      exact hq (List.mem_of_getElem? hi)
    have hne : P ≠ [] := by rintro rfl; simp at hlt
    have : ¬ i < P.length - 1 := fun hn => h3 _ hn ((at_iff _).mpr (last hne))
    dsimp only
    omega
theorem mul_all (n : Int) : ∀ c ∈ cl (Txt.mul "/" n), c = 47 := by
  unfold Txt.mul
  split
  · intro c hc; cases hc
  · split
    · intro c hc; rw [cl_slash] at hc; simpa using hc
    · have : ∀ (k : Nat) (acc : Array Nat), (∀ c ∈ acc.toList, c = 47) → ∀ c ∈ ((List.replicate k ("/" : Str).cps).foldl (· ++ ·) acc).toList, c = 47 := fun k => by
        induction k with
        | zero => intro acc h; exact h
        | succ k ih =>
          intro acc h
          rw [List.replicate_succ, List.foldl_cons]
          refine ih _ fun c hc => ?_
          rw [Array.toList_append] at hc
          rcases List.mem_append.mp hc with h1 | h1
          · exact h c h1
          · have : c ∈ cl "/" := h1
            rw [cl_slash] at this; simpa using this
      exact this n.toNat #[] (by simp)
theorem rstrip_one {A : List Nat} (h : A.getLast? ≠ some 47) : Txt.rstripChars (mkS (A ++ [47])) "/" = mkS A := by
  apply cl_ext
  unfold Txt.rstripChars
  rw [stripBy_eq]
  show (Builtin.Str.strSub _ _ _).cps.toList = A
  rw [StrLaws.strSub_toList]
  have lo0 : stripLo ("/" : Str).cps.contains false (mkS (A ++ [47])) = 0 := rfl
  rw [lo0]
  have hi : stripHi ("/" : Str).cps.contains true (mkS (A ++ [47])) 0 = A.length := by
    have hs : ∀ c, ("/" : Str).cps.contains c = (c == 47) := fun c => by
      have : ("/" : Str).cps = #[47] := by decide +kernel
      rw [this]
      show Array.contains #[47] c = _
      rw [Bool.eq_iff_iff]
      simp
    show (mkS (A ++ [47])).length - (List.takeWhile _ (List.drop 0 (A ++ [47])).reverse).length = A.length
    have hl : (mkS (A ++ [47])).length = A.length + 1 := by rw [← len_cl, cl_mk]; simp
    rw [hl, List.drop_zero, List.reverse_append, List.reverse_cons, List.reverse_nil, List.nil_append, List.singleton_append, List.takeWhile_cons, hs]
    rw [if_pos (by decide)]
    have : List.takeWhile (("/" : Str).cps.contains) A.reverse = [] := by
      cases hr : A.reverse with
      | nil => rfl
      | cons c t =>
        rw [List.takeWhile_cons, hs, if_neg]
        intro e
        have hc : c = 47 := by simpa using e
        rw [List.getLast?_eq_head?_reverse, hr] at h
        exact h (by rw [hc]; rfl)
    rw [this]
    simp
  rw [hi]
  show List.take (A.length - 0) (List.drop 0 (A ++ [47])) = A
  simp
theorem dirn_of {x : Str} {P Q : List Nat} (h : cl x = P ++ Q) (hq : 47 ∉ Q) (hp : P = [] ∨ P.getLast? = some 47) :
    dirn x = if P.length ≠ 0 ∧ mkS P != Txt.mul "/" (P.length : Nat) then Txt.rstripChars (mkS P) "/" else mkS P := by
  unfold dirn
  rw [rfind_at h hq hp]
  have e : Txt.slice x none (some ((P.length : Nat) : Int)) = mkS P := by
    have := sl_mk x none (some P.length)
    rw [show Option.map (fun (a : Nat) => (a : Int)) none = none from rfl, show Option.map (fun (a : Nat) => (a : Int)) (some P.length) = some ((P.length : Nat) : Int) from rfl] at this
    rw [this, h]
    show mkS (List.take (P.length - 0) (List.drop 0 (P ++ Q))) = mkS P
    rw [List.drop_zero, Nat.sub_zero, List.take_left]
  dsimp only
  rw [e]
  rfl
theorem jn_snoc : ∀ (ps : List (List Nat)) (p : List Nat), ps ≠ [] → jn (ps ++ [p]) = jn ps ++ 47 :: p
  | [], _, h => absurd rfl h
  | [x], p, _ => rfl
  | x :: y :: r, p, _ => by
    show x ++ 47 :: jn (y :: r ++ [p]) = (x ++ 47 :: jn (y :: r)) ++ 47 :: p
    rw [jn_snoc (y :: r) p (by simp)]
    simp
theorem jn_last {ns : List Str} (h : Vn ns) (hne : ns ≠ []) : jn (ns.map cl) ≠ [] ∧ (jn (ns.map cl)).getLast? ≠ some 47 := by
  rcases List.eq_nil_or_concat ns with e | ⟨init, c, e⟩
  · exact absurd e hne
  · rw [List.concat_eq_append] at e
    subst e
    have hc := h c (by simp)
    have hl : (cl c).getLast? ≠ some 47 := fun e => hc.pl.ns (List.mem_of_getLast? e)
    rw [List.map_append, List.map_cons, List.map_nil]
    by_cases hi : init = []
    · subst hi
      exact ⟨hc.ne, hl⟩
    · rw [jn_snoc _ _ (by simpa using hi)]
      refine ⟨by simp, ?_⟩
      rw [List.getLast?_append]
      cases hx : cl c with
      | nil => exact absurd hx hc.ne
      | cons a t =>
        rw [hx] at hl
        rw [List.getLast?_cons_cons]
        cases hq : (a :: t).getLast? with
        | none => simp at hq
        | some z => rw [hq] at hl; simpa using hl
theorem dirn_snoc {n : Nat} (hn : n < 4) {init : List Str} {c : Str} (h : Vn (init ++ [c])) : dirn (mkP (rootOf n) (init ++ [c])) = if init = [] ∧ n = 0 then ("" : Str) else mkP (rootOf n) init := by
  obtain ⟨k, hk, ek, er⟩ := root_rep hn
  have hc := h c (by simp)
  have hk0 : k = 0 ↔ n = 0 := by
    rw [← root_len hn, cl_nil, ek]
    cases k with
    | zero => simp
    | succ k => simp
  by_cases hi : init = []
  · subst hi
    rw [List.nil_append] at h ⊢
    have ex : cl (mkP (rootOf n) [c]) = List.replicate k 47 ++ cl c := by
      rw [cl_mkP, ek, if_neg]
      · rfl
      · intro e
        exact hc.ne (List.append_eq_nil_iff.mp e).2
    rw [dirn_of ex hc.pl.ns (by
      by_cases h0 : k = 0
      · left; rw [h0]; rfl
      · right; exact getLast_rep h0)]
    have hm : Txt.mul "/" (k : Nat) = mkS (List.replicate k 47) := slash_mul (by omega)
    rw [List.length_replicate, hm, if_neg (by
      rintro ⟨_, h2⟩
      simp at h2)]
    by_cases h0 : n = 0
    · rw [if_pos ⟨rfl, h0⟩, hk0.mpr h0]
      exact mkS_nil
    · rw [if_neg (fun e => h0 e.2)]
      apply cl_ext
      rw [cl_mk, cl_mkP, ek, if_neg]
      · show _ = _ ++ []
        rw [List.append_nil]
      · intro e
        have := (List.append_eq_nil_iff.mp e).1
        cases k with
        | zero => exact h0 (hk0.mp rfl)
        | succ k => simp at this
  · rw [if_neg (fun e => hi e.1)]
    have hv : Vn init := fun x hx => h x (List.mem_append_left _ hx)
    obtain ⟨l1, l2⟩ := jn_last hv hi
    have ex : cl (mkP (rootOf n) (init ++ [c])) = (List.replicate k 47 ++ jn (init.map cl) ++ [47]) ++ cl c := by
      rw [cl_mkP, ek, List.map_append, List.map_cons, List.map_nil, jn_snoc _ _ (by simpa using hi), if_neg (by simp)]
      simp
    rw [dirn_of ex hc.pl.ns (.inr (by simp)), if_pos]
    · rw [rstrip_one]
      · apply cl_ext
        rw [cl_mk, cl_mkP, ek, if_neg]
        intro e
        exact l1 (List.append_eq_nil_iff.mp e).2
      · rw [List.getLast?_append]
        cases hq : (jn (init.map cl)).getLast? with
        | none => rw [List.getLast?_eq_none_iff] at hq; exact absurd hq l1
        | some z => rw [hq] at l2; simpa using l2
    · refine ⟨by simp, ?_⟩
      rw [bne_iff_ne]
      intro e
      have e1 := congrArg cl e
      rw [cl_mk] at e1
      obtain ⟨x, hx⟩ : ∃ x r, init = x :: r := by cases init with | nil => exact absurd rfl hi | cons x r => exact ⟨x, r, rfl⟩
      obtain ⟨z, hz⟩ : ∃ z, (jn (init.map cl)).getLast? = some z := by
        cases hq : (jn (init.map cl)).getLast? with
        | none => rw [List.getLast?_eq_none_iff] at hq; exact absurd hq l1
        | some z => exact ⟨z, rfl⟩
      have hm : z ∈ List.replicate k 47 ++ jn (init.map cl) ++ [47] := List.mem_append_left _ (List.mem_append_right _ (List.mem_of_getLast? hz))
      rw [e1] at hm
      have := mul_all _ z hm
      rw [hz, this] at l2
      exact l2 rfl
theorem dirn_dot : dirn "." = "" := by decide +kernel
theorem dirn_empty : dirn "" = "" := by decide +kernel
theorem mkP_root {n : Nat} (hn : n < 4) : mkP (rootOf n) [] = if n = 0 then ("." : Str) else rootOf n := by
  match n, hn with
  | 0, _ => decide +kernel
  | 1, _ => decide +kernel
  | 2, _ => decide +kernel
  | 3, _ => decide +kernel
theorem dirn_root {n : Nat} (hn : n < 4) (h0 : n ≠ 0) : dirn (mkP (rootOf n) []) = mkP (rootOf n) [] := by
  match n, hn, h0 with
  | 1, _, _ => decide +kernel
  | 2, _, _ => decide +kernel
  | 3, _, _ => decide +kernel
  | 0, _, h => exact absurd rfl h
end

section
theorem most_keep {b : Int × Str} : ∀ (L : List (Int × Str)), (∀ p ∈ L, p.1 ≤ b.1) → most (some b) L = some b
  | [], _ => rfl
  | p :: L, h => by
    have hp := h p (by simp)
    rw [most, if_neg (by omega)]
    exact most_keep L fun q hq => h q (List.mem_cons_of_mem _ hq)
theorem most_find {M : Int} {p : Int × Str} : ∀ (L : List (Int × Str)) (b : Option (Int × Str)), (∀ q ∈ L, q.1 ≤ M) → (∀ x, b = some x → x.1 < M) → L.find? (fun q => q.1 == M) = some p → most b L = some p
  | [], b, _, _, h => by cases h
  | q :: L, b, hL, hb, h => by
    have hq := hL q (by simp)
    by_cases e : q.1 = M
    · rw [List.find?_cons_of_pos (by simpa using e)] at h
      have hqp : q = p := by injection h
      subst hqp
      cases b with
      | none => rw [most]; exact most_keep L fun r hr => by have := hL r (List.mem_cons_of_mem _ hr); omega
      | some x =>
        have := hb x rfl
        rw [most, if_pos (by omega)]
        exact most_keep L fun r hr => by have := hL r (List.mem_cons_of_mem _ hr); omega
    · rw [List.find?_cons_of_neg (by simpa using e)] at h
      cases b with
      | none => rw [most]; exact most_find L _ (fun r hr => hL r (List.mem_cons_of_mem _ hr)) (fun x hx => by cases hx; omega) h
      | some x =>
        have := hb x rfl
        rw [most]
        split
        · exact most_find L _ (fun r hr => hL r (List.mem_cons_of_mem _ hr)) (fun y hy => by cases hy; omega) h
        · exact most_find L _ (fun r hr => hL r (List.mem_cons_of_mem _ hr)) (fun y hy => by cases hy; omega) h

theorem most_alike {X : Type} (a b : X → Int) (v : X → Str) : ∀ (L : List X) (x : Option X), (∀ y z, (y ∈ L ∨ x = some y) → (z ∈ L ∨ x = some z) → (a y < a z ↔ b y < b z)) →
    (most (x.map fun y => (a y, v y)) (L.map fun y => (a y, v y))).map (·.2) = (most (x.map fun y => (b y, v y)) (L.map fun y => (b y, v y))).map (·.2)
  | [], x, _ => by cases x <;> rfl
  | y :: L, x, h => by
    rw [List.map_cons, List.map_cons]
    cases x with
    | none =>
      show (most (some (a y, v y)) (L.map fun y => (a y, v y))).map (·.2) = (most (some (b y, v y)) (L.map fun y => (b y, v y))).map (·.2)
      exact most_alike a b v L (some y) fun z w hz hw => h z w (by
        rcases hz with hz | hz
        · exact .inl (List.mem_cons_of_mem _ hz)
        · cases hz; exact .inl (by simp)) (by
        rcases hw with hw | hw
        · exact .inl (List.mem_cons_of_mem _ hw)
        · cases hw; exact .inl (by simp))
    | some x =>
      have hxy := h x y (.inr rfl) (.inl (by simp))
      show (if a x < a y then most (some (a y, v y)) (L.map fun y => (a y, v y)) else most (some (a x, v x)) (L.map fun y => (a y, v y))).map (·.2) = (if b x < b y then most (some (b y, v y)) (L.map fun y => (b y, v y)) else most (some (b x, v x)) (L.map fun y => (b y, v y))).map (·.2)
      by_cases hc : a x < a y
      · rw [if_pos hc, if_pos (hxy.mp hc)]
        exact most_alike a b v L (some y) fun z w hz hw => h z w (by
          rcases hz with hz | hz
          · exact .inl (List.mem_cons_of_mem _ hz)
          · cases hz; exact .inl (by simp)) (by
          rcases hw with hw | hw
          · exact .inl (List.mem_cons_of_mem _ hw)
          · cases hw; exact .inl (by simp))
      · rw [if_neg hc, if_neg (fun e => hc (hxy.mpr e))]
        exact most_alike a b v L (some x) fun z w hz hw => h z w (by
          rcases hz with hz | hz
          · exact .inl (List.mem_cons_of_mem _ hz)
          · exact .inr hz) (by
          rcases hw with hw | hw
          · exact .inl (List.mem_cons_of_mem _ hw)
          · exact .inr hw)

structure LnS (l : Ln) : Prop where
  ex : ∃ m ms, m < 4 ∧ Vn ms ∧ l.text = mkP (rootOf m) ms ∧ l.slot = slotP (rootOf m) ms
theorem getL_here {n : Nat} (hn : n < 4) {ns : List Str} (h : Vn ns) : ∀ {ls : List Ln}, (∀ l ∈ ls, LnS l) → getL (mkP (rootOf n) ns) (hsOf ls) = (hereL ls (slotP (rootOf n) ns)).head?.map (·.value)
  | [], _ => rfl
  | l :: ls, hl => by
    obtain ⟨m, ms, hm, hv, e1, e2⟩ := (hl l (by simp)).ex
    have ih := getL_here hn h (ls := ls) fun x hx => hl x (List.mem_cons_of_mem _ hx)
    unfold getL at ih ⊢
    show Option.map _ (List.find? _ ((l.text, l.value) :: hsOf ls)) = _
    by_cases e : l.slot = slotP (rootOf n) ns
    · rw [List.find?_cons_of_pos (by
        rw [beq_iff_eq]
        show Txt.lower l.text = _
        rw [e1, slot_iff hm hn hv h, ← e2, e])]
      show some l.value = Option.map _ (List.head? (List.filter _ (l :: ls)))
      rw [List.filter_cons_of_pos (by simpa using e)]
      rfl
    · rw [List.find?_cons_of_neg (by
        rw [beq_iff_eq]
        show ¬ Txt.lower l.text = _
        rw [e1, slot_iff hm hn hv h, ← e2]; exact e)]
      show _ = Option.map _ (List.head? (List.filter _ (l :: ls)))
      rw [List.filter_cons_of_neg (by simpa using e)]
      exact ih
theorem lower_ne {n : Nat} (hn : n < 4) {ns : List Str} (h : Vn ns) : Txt.lower (mkP (rootOf n) ns) ≠ Txt.lower "" := by
  intro e
  have := congrArg cl e
  rw [cl_lower (Al.mkP hn h.al).b, cl_lower (by rw [cl_empty]; simp), cl_empty, List.map_nil, List.map_eq_nil_iff, cl_mkP] at this
  split at this
  · cases this
  · rename_i q; exact q this
theorem getL_empty : ∀ {ls : List Ln}, (∀ l ∈ ls, LnS l) → getL "" (hsOf ls) = none
  | [], _ => rfl
  | l :: ls, hl => by
    obtain ⟨m, ms, hm, hv, e1, e2⟩ := (hl l (by simp)).ex
    have ih := getL_empty (ls := ls) fun x hx => hl x (List.mem_cons_of_mem _ hx)
    unfold getL at ih ⊢
    show Option.map _ (List.find? _ ((l.text, l.value) :: hsOf ls)) = _
    rw [List.find?_cons_of_neg (by
      rw [beq_iff_eq]
      show ¬ Txt.lower l.text = _
      rw [e1]; exact lower_ne hm hv)]
    exact ih
theorem Al.nm {x : Str} (h : Al x) (hl : x.length ≤ 1000) : NmOk x := ⟨hl, h.clean, h.lower.clean⟩
theorem Al.empty : Al "" := by intro c hc; rw [cl_empty] at hc; cases hc
theorem climb_empty {ls : List Ln} (hl : ∀ l ∈ ls, LnS l) : Climb (hsOf ls) "" none := .top (Al.nm Al.empty (by decide +kernel)) (getL_empty hl) dirn_empty

noncomputable def nearest (ls : List Ln) (slot : List Str) : Option Str := (most none ((ls.filter (aboveB slot)).map abP)).map (·.2)
theorem above_le {slot : List Str} {l : Ln} (h : aboveB slot l = true) : l.slot.length ≤ slot.length := by
  unfold aboveB at h
  rw [Bool.and_eq_true, beq_iff_eq] at h
  have := congrArg List.length h.1
  rw [List.length_take] at this
  omega
theorem above_full {slot : List Str} {l : Ln} : (aboveB slot l && (l.slot.length == slot.length)) = (l.slot == slot) := by
  rw [Bool.eq_iff_iff, Bool.and_eq_true, beq_iff_eq, beq_iff_eq]
  constructor
  · rintro ⟨h1, h2⟩
    unfold aboveB at h1
    rw [Bool.and_eq_true, beq_iff_eq, h2, List.take_length] at h1
    exact h1.1
  · intro h
    refine ⟨?_, by rw [h]⟩
    unfold aboveB
    rw [h, List.take_length]
    simp
    exact (Classical.em _).symm
theorem nearest_hit {ls : List Ln} {slot : List Str} {l : Ln} (h : (hereL ls slot).head? = some l) : nearest ls slot = some l.value := by
  have e : ((ls.filter (aboveB slot)).map abP).find? (fun q => q.1 == ((slot.length : Nat) : Int)) = some (abP l) := by
    rw [List.find?_map, List.find?_filter]
    have : (fun a : Ln => decide (aboveB slot a = true ∧ ((fun q : Int × Str => q.1 == ((slot.length : Nat) : Int)) ∘ abP) a = true)) = fun a => a.slot == slot := by
      funext a
      rw [← above_full, Bool.eq_iff_iff, decide_eq_true_eq, Bool.and_eq_true]
      show (_ ∧ (((a.slot.length : Nat) : Int) == ((slot.length : Nat) : Int)) = true) ↔ _
      rw [beq_iff_eq, beq_iff_eq]
      constructor
      · rintro ⟨a, b⟩; exact ⟨a, by omega⟩
      · rintro ⟨a, b⟩; exact ⟨a, by omega⟩
    rw [this, ← List.head?_filter, h]
    rfl
  unfold nearest
  rw [most_find _ none (M := ((slot.length : Nat) : Int)) (fun q hq => by
    obtain ⟨a, ha, rfl⟩ := List.mem_map.mp hq
    have := above_le (List.mem_filter.mp ha).2
    show ((a.slot.length : Nat) : Int) ≤ _
    omega) (fun x hx => by cases hx) e]
  rfl
theorem no_here {ls : List Ln} {slot : List Str} (h : (hereL ls slot).head? = none) : ∀ l ∈ ls, l.slot ≠ slot := by
  intro l hl e
  rw [List.head?_eq_none_iff] at h
  have : l ∈ hereL ls slot := List.mem_filter.mpr ⟨hl, by simpa using e⟩
  rw [h] at this
  cases this
theorem root_ne {n : Nat} (hn : n < 4) : rootOf n = ("" : Str) ↔ n = 0 := by
  rw [← root_len hn, len0]
theorem climb_path {n : Nat} (hn : n < 4) {ls : List Ln} (hl : ∀ l ∈ ls, LnS l) : ∀ (k : Nat) (ns : List Str), ns.length = k → Vn ns → k ≤ 6 → (∀ x ∈ ns, x.length ≤ 4) → Climb (hsOf ls) (mkP (rootOf n) ns) (nearest ls (slotP (rootOf n) ns)) := by
  intro k
  induction k with
  | zero =>
    intro ns hk hv h6 h4
    have hnm : NmOk (mkP (rootOf n) ns) := Al.nm (Al.mkP hn hv.al) (by
      rw [List.length_eq_zero_iff.mp hk, mkP_root hn]
      have hr := root_small n
      have e2 : ("." : Str).length = 1 := by decide +kernel
      split <;> omega)
    have hg := getL_here hn hv hl
    cases hh : (hereL ls (slotP (rootOf n) ns)).head? with
    | some l =>
      rw [hh] at hg
      rw [nearest_hit hh]
      exact .hit hnm hg
    | none =>
      rw [hh] at hg
      have hno := no_here hh
      have hns := List.length_eq_zero_iff.mp hk
      subst hns
      have : nearest ls (slotP (rootOf n) []) = none := by
        have e : ls.filter (aboveB (slotP (rootOf n) [])) = [] := by
          rw [List.filter_eq_nil_iff]
          intro l hm hab
          have h1 := above_le hab
          obtain ⟨m, ms, _, _, _, e2⟩ := (hl l hm).ex
          have h2 : l.slot.length = (slotP (rootOf n) []).length := by
            rw [e2] at h1 ⊢
            simp [slotP] at h1 ⊢
            exact h1
          have := above_full (slot := slotP (rootOf n) []) (l := l)
          rw [hab, h2] at this
          exact hno l hm (by simpa using this)
        unfold nearest
        rw [e]; rfl
      rw [this]
      by_cases h0 : n = 0
      · subst h0
        have et : mkP (rootOf 0) [] = "." := by rw [mkP_root (by decide)]; rfl
        rw [et] at hnm hg ⊢
        exact .up hnm hg (by rw [dirn_dot]; decide +kernel) (by rw [dirn_dot]; exact climb_empty hl)
      · exact .top hnm hg (dirn_root hn h0)
  | succ k ih =>
    intro ns hk hv h6 h4
    rcases List.eq_nil_or_concat ns with e | ⟨init, c, e⟩
    · subst e; simp at hk
    rw [List.concat_eq_append] at e
    subst e
    have hki : init.length = k := by simpa using hk
    have hvi : Vn init := fun x hx => hv x (List.mem_append_left _ hx)
    have hnm : NmOk (mkP (rootOf n) (init ++ [c])) := Al.nm (Al.mkP hn hv.al) (by
      have hj := join_len (sep := ("/" : Str)) (l := init ++ [c]) (B := 4) (N := 6) h4 (by omega)
      have e1 : ("/" : Str).length = 1 := by decide +kernel
      have e2 : ("." : Str).length = 1 := by decide +kernel
      have hr := root_small n
      rw [e1] at hj
      unfold mkP
      split
      · omega
      · rw [Str.length_append]; omega)
    have hg := getL_here hn hv hl
    cases hh : (hereL ls (slotP (rootOf n) (init ++ [c]))).head? with
    | some l =>
      rw [hh] at hg
      rw [nearest_hit hh]
      exact .hit hnm hg
    | none =>
      rw [hh] at hg
      have hno := no_here hh
      have hd := dirn_snoc hn hv
      have hs : slotP (rootOf n) (init ++ [c]) = slotP (rootOf n) init ++ [Txt.lower c] := by simp [slotP]
      have hne : dirn (mkP (rootOf n) (init ++ [c])) ≠ mkP (rootOf n) (init ++ [c]) := by
        intro e
        have hlen : (cl (dirn (mkP (rootOf n) (init ++ [c])))).length < (cl (mkP (rootOf n) (init ++ [c]))).length := by
          rw [hd]
          have hcne := (hv c (by simp)).ne
          have hcl : 0 < (cl c).length := List.length_pos_iff.mpr hcne
          split
          · rw [cl_empty, cl_mkP]
            split
            · simp
            · rename_i q; exact List.length_pos_iff.mpr q
          · rename_i hq
            by_cases hi : init = []
            · subst hi
              have h0 : n ≠ 0 := fun e => hq ⟨rfl, e⟩
              have hj : jn (List.map cl ([] ++ [c])) = cl c := rfl
              rw [mkP_root hn, if_neg h0, cl_mkP, hj, if_neg (fun e => hcne (List.append_eq_nil_iff.mp e).2), List.length_append]
              omega
            · obtain ⟨l1, l2⟩ := jn_last hvi hi
              rw [cl_mkP, cl_mkP, if_neg (fun e => l1 (List.append_eq_nil_iff.mp e).2), List.map_append, List.map_cons, List.map_nil, jn_snoc _ _ (by simpa using hi), if_neg (by simp)]
              simp only [List.length_append, List.length_cons]
              omega
        rw [e] at hlen
        omega
      refine .up hnm hg hne ?_
      rw [hd]
      by_cases hc : init = [] ∧ n = 0
      · rw [if_pos hc]
        obtain ⟨h1, h2⟩ := hc
        subst h1; subst h2
        have : nearest ls (slotP (rootOf 0) ([] ++ [c])) = none := by
          have e : ls.filter (aboveB (slotP (rootOf 0) ([] ++ [c]))) = [] := by
            rw [List.filter_eq_nil_iff]
            intro l hm hab
            obtain ⟨m, ms, _, _, _, e2⟩ := (hl l hm).ex
            have hfull := above_full (slot := slotP (rootOf 0) ([] ++ [c])) (l := l)
            have hle := above_le hab
            unfold aboveB at hab
            rw [Bool.and_eq_true, beq_iff_eq, Bool.or_eq_true, bne_iff_ne, beq_iff_eq] at hab
            obtain ⟨h1, h2⟩ := hab
            have hsl : (slotP (rootOf 0) ([] ++ [c])).length = 2 := rfl
            have hpos : 0 < l.slot.length := by rw [e2]; simp [slotP]
            rcases (by omega : l.slot.length = 1 ∨ l.slot.length = 2) with h3 | h3
            · rw [h3] at h1
              have h1' : l.slot = [("" : Str)] := h1
              rcases h2 with h2 | h2
              · exact h2 h1'
              · have := congrArg List.length h2
                simp [slotP] at this
            · rw [h3] at h1
              exact hno l hm h1
          unfold nearest
          rw [e]; rfl
        rw [this]
        exact climb_empty hl
      · rw [if_neg hc]
        have hsne : slotP (rootOf n) init ≠ [("" : Str)] := by
          intro e
          unfold slotP at e
          rw [List.cons.injEq] at e
          exact hc ⟨by simpa using e.2, (root_ne hn).mp e.1⟩
        have : nearest ls (slotP (rootOf n) (init ++ [c])) = nearest ls (slotP (rootOf n) init) := by
          have e : ls.filter (aboveB (slotP (rootOf n) (init ++ [c]))) = ls.filter (aboveB (slotP (rootOf n) init)) := by
            apply List.filter_congr
            intro l hm
            have hn1 := hno l hm
            rw [hs] at hn1 ⊢
            rw [Bool.eq_iff_iff]
            unfold aboveB
            rw [Bool.and_eq_true, Bool.and_eq_true, beq_iff_eq, beq_iff_eq, Bool.or_eq_true, Bool.or_eq_true, bne_iff_ne, beq_iff_eq, beq_iff_eq]
            have hne2 : slotP (rootOf n) init ++ [Txt.lower c] ≠ [("" : Str)] := by
              intro e
              have := congrArg List.length e
              simp [slotP] at this
            constructor
            · rintro ⟨h1, h2⟩
              refine ⟨?_, .inl (h2.resolve_right hne2)⟩
              have hlen : l.slot.length ≤ (slotP (rootOf n) init).length := by
                refine Classical.byContradiction fun hgt => ?_
                rw [List.take_of_length_le (by simp; omega)] at h1
                exact hn1 h1
              rwa [List.take_append_of_le_length hlen] at h1
            · rintro ⟨h1, h2⟩
              refine ⟨?_, .inl (h2.resolve_right hsne)⟩
              have hlen : l.slot.length ≤ (slotP (rootOf n) init).length := by
                have := congrArg List.length h1
                rw [List.length_take] at this
                omega
              rwa [List.take_append_of_le_length hlen]
          unfold nearest
          rw [e]
        rw [this]
        exact ih init hki hvi (by omega) (fun x hx => h4 x (List.mem_append_left _ hx))
end

section
noncomputable def lettr (c : Nat) : Bool := c == 65 || c == 97 || c == 66 || c == 98
noncomputable def starry (c : Nat) : Bool := c == 42 || c == 63 || c == 91
noncomputable def specl (c : Nat) : Bool := c == 45 || c == 93 || c == 92 || c == 94 || c == 126 || c == 32 || c == 46
noncomputable def atomOf (c : Nat) : Atom := if lettr c = true then .box (mkS [lo c, up c]) (mkS [91, lo c, up c, 93]) else if c = 91 then .box (mkS [91]) (mkS [91, 92, 91, 93]) else if starry c = true then .box (mkS [c]) (mkS [91, c, 93]) else .sign c
noncomputable def escV (c : Nat) : Str := if specl c = true then mkS [92, c] else mkS [c]
noncomputable def partV (c : Nat) : Str := match atomOf c with
  | .box _ q => q
  | .sign c => escV c

structure FOk (f : Int → Option Value) : Prop where
  e : ∀ c ∈ al, starry c = false → esc f c = escV c
  o : ∀ c ∈ al, f (c : Int) = none ∨ ∃ y tk, f (c : Int) = some (.str y tk) ∧ y.length = 2
noncomputable def underL (t : List Nat) : List Nat := if t.getLast? = some 47 then t else t ++ [47]
noncomputable abbrev atomsOf (t : List Nat) : List Atom := t.map atomOf
theorem either_one : ∀ c ∈ al, cl (eitherF "" ⟨#[c]⟩) = (atomOf c).txt := by decide +kernel
theorem either_app (w s : Str) : cl (eitherF w s) = cl w ++ cl (eitherF "" s) := by
  unfold eitherF
  split
  · simp only [cl_app, cl_empty]; simp
  · split
    · simp only [cl_app, cl_empty]; simp
    · simp only [cl_app, cl_empty]; simp
theorem either_fold : ∀ (t : List Nat) (w : Str), (∀ c ∈ t, c ∈ al) → cl ((t.map fun c => (⟨#[c]⟩ : Str)).foldl eitherF w) = cl w ++ (atomsOf t).flatMap Atom.txt
  | [], w, _ => by simp
  | c :: t, w, h => by
    rw [List.map_cons, List.foldl_cons, either_fold t _ (fun d hd => h d (List.mem_cons_of_mem _ hd)), either_app, either_one c (h c (by simp)), List.append_assoc]
    rfl
theorem either_cl {x : Str} (h : Al x) : cl ((signs x).foldl eitherF "") = (atomsOf (cl x)).flatMap Atom.txt := by
  rw [either_fold (cl x) "" h, cl_empty, List.nil_append]
theorem shaped_one {c : Nat} (h : c < 128) : SeqAt.shaped (.str ⟨#[c]⟩) = true := (by decide +kernel : ∀ c, c < 128 → SeqAt.shaped (.str ⟨#[c]⟩) = true) c h
theorem box_two {a b : Nat} (h : (a = 97 ∧ b = 65) ∨ (a = 98 ∧ b = 66)) : BoxOk (mkS [a, b]) (mkS [91, a, b, 93]) := by
  have nb : ∀ a b : Nat, a ≠ 93 → b ≠ 93 → ∀ (t c : Nat), (mkS [a, b]).cps[t]? = some c → c ≠ 93 := by
    intro a b h1 h2 t c hc
    have : c ∈ [a, b] := Array.mem_toList_iff.mpr (Array.mem_of_getElem? hc)
    rcases List.mem_cons.mp this with rfl | h
    · exact h1
    · simp at h; subst h; exact h2
  rcases h with ⟨rfl, rfl⟩ | ⟨rfl, rfl⟩
  · refine ⟨by decide +kernel, nb _ _ (by decide) (by decide), ⟨97, by decide +kernel, by decide, by decide +kernel, by decide +kernel, by decide +kernel, by decide +kernel⟩, by decide +kernel, by decide +kernel, fun i seen hi => ?_, by decide +kernel⟩
    have hi' : i < 2 := hi
    match i, hi' with
    | 0, _ => exact ⟨_, rfl⟩
    | 1, _ => exact ⟨_, rfl⟩
  · refine ⟨by decide +kernel, nb _ _ (by decide) (by decide), ⟨98, by decide +kernel, by decide, by decide +kernel, by decide +kernel, by decide +kernel, by decide +kernel⟩, by decide +kernel, by decide +kernel, fun i seen hi => ?_, by decide +kernel⟩
    have hi' : i < 2 := hi
    match i, hi' with
    | 0, _ => exact ⟨_, rfl⟩
    | 1, _ => exact ⟨_, rfl⟩
theorem box_one {a : Nat} {q : Str} (h : (a = 42 ∧ q = mkS [91, 42, 93]) ∨ (a = 63 ∧ q = mkS [91, 63, 93]) ∨ (a = 91 ∧ q = mkS [91, 92, 91, 93])) : BoxOk (mkS [a]) q := by
  have nb : ∀ a : Nat, a ≠ 93 → ∀ (t c : Nat), (mkS [a]).cps[t]? = some c → c ≠ 93 := by
    intro a h1 t c hc
    have : c ∈ [a] := Array.mem_toList_iff.mpr (Array.mem_of_getElem? hc)
    simp at this; subst this; exact h1
  rcases h with ⟨rfl, rfl⟩ | ⟨rfl, rfl⟩ | ⟨rfl, rfl⟩
  · refine ⟨by decide +kernel, nb _ (by decide), ⟨42, by decide +kernel, by decide, by decide +kernel, by decide +kernel, by decide +kernel, by decide +kernel⟩, by decide +kernel, by decide +kernel, fun i seen hi => ?_, by decide +kernel⟩
    have hi' : i < 1 := hi
    match i, hi' with
    | 0, _ => exact ⟨_, rfl⟩
  · refine ⟨by decide +kernel, nb _ (by decide), ⟨63, by decide +kernel, by decide, by decide +kernel, by decide +kernel, by decide +kernel, by decide +kernel⟩, by decide +kernel, by decide +kernel, fun i seen hi => ?_, by decide +kernel⟩
    have hi' : i < 1 := hi
    match i, hi' with
    | 0, _ => exact ⟨_, rfl⟩
  · refine ⟨by decide +kernel, nb _ (by decide), ⟨91, by decide +kernel, by decide, by decide +kernel, by decide +kernel, by decide +kernel, by decide +kernel⟩, by decide +kernel, by decide +kernel, fun i seen hi => ?_, by decide +kernel⟩
    have hi' : i < 1 := hi
    match i, hi' with
    | 0, _ => exact ⟨_, rfl⟩
theorem atom_ok {f : Int → Option Value} (hf : FOk f) {c : Nat} (hc : c ∈ al) : AtomOk f (atomOf c) := by
  have two : ∀ c ∈ al, lettr c = true → (lo c = 97 ∧ up c = 65) ∨ (lo c = 98 ∧ up c = 66) := by decide
  have one : ∀ c ∈ al, starry c = true → c ≠ 91 → c = 42 ∨ c = 63 := by decide
  have non : ∀ c ∈ al, starry c ≠ true → (⟨#[c]⟩ : Str) ≠ "*" ∧ (⟨#[c]⟩ : Str) ≠ "?" ∧ (⟨#[c]⟩ : Str) ≠ "[" := by decide +kernel
  unfold atomOf
  split
  · rename_i h; exact box_two (two c hc h)
  · split
    · rename_i h; exact box_one (.inr (.inr ⟨rfl, rfl⟩))
    · split
      · rename_i h1 h
        rcases one c hc h h1 with rfl | rfl
        · exact box_one (.inl ⟨rfl, rfl⟩)
        · exact box_one (.inr (.inl ⟨rfl, rfl⟩))
      · rename_i h
        exact ⟨al_128 c hc, hf.o c hc, non c hc h⟩
theorem atom_part {f : Int → Option Value} (hf : FOk f) {c : Nat} (hc : c ∈ al) : (atomOf c).part f = partV c := by
  unfold partV
  have : ∀ c, ∃ a, atomOf c = a ∧ (∀ d, a = .sign d → d = c ∧ starry c = false) := by
    intro c
    refine ⟨_, rfl, fun d h => ?_⟩
    unfold atomOf at h
    split at h
    · cases h
    · split at h
      · cases h
      · split at h
        · cases h
        · rename_i hs
          cases h; exact ⟨rfl, by simpa using hs⟩
  obtain ⟨a, h1, h2⟩ := this c
  rw [h1]
  cases a with
  | box x q => rfl
  | sign d =>
    obtain ⟨e1, e2⟩ := h2 d rfl
    rw [e1]; exact hf.e c hc e2
theorem part_ok : ∀ c ∈ al, 0 < (partV c).length ∧ ((⟨#[sgn (partV c) 0]⟩ : Str) = "[" → 1 < (partV c).length) ∧ (partV c).length ≤ 1000 := by decide +kernel
theorem part_al : ∀ c ∈ al, PyData.strOk (partV c) = true := by decide +kernel
theorem fit_lo : ∀ c ∈ al, ∀ s ∈ al, fitsL (partV c) ⟨#[s]⟩ (sgn (partV c) 0) (sgn (partV c) 1) = (lo c == lo s) := by decide +kernel
theorem either_low : ∀ c ∈ al, (Txt.lower ⟨#[c]⟩).length ≤ 1 ∧ (Txt.upper ⟨#[c]⟩).length ≤ 1 ∧ (⟨#[c]⟩ : Str).length ≤ 1 := by decide +kernel
theorem atom_len : ∀ c ∈ al, (atomOf c).txt.length ≤ 4 ∧ (atomOf c).txt ≠ [] ∧ ((atomOf c).txt.getLast? = some 47 ↔ c = 47) := by decide +kernel
theorem flat_len : ∀ t : List Nat, (∀ c ∈ t, c ∈ al) → ((atomsOf t).flatMap Atom.txt).length ≤ 4 * t.length
  | [], _ => Nat.le_refl _
  | c :: t, h => by
    have ih := flat_len t fun d hd => h d (List.mem_cons_of_mem _ hd)
    have := (atom_len c (h c (by simp))).1
    show ((atomOf c).txt ++ (atomsOf t).flatMap Atom.txt).length ≤ _
    rw [List.length_append, List.length_cons]
    omega
theorem flat_last {t : List Nat} (h : ∀ c ∈ t, c ∈ al) : ((atomsOf t).flatMap Atom.txt).getLast? = some 47 ↔ t.getLast? = some 47 := by
  rcases List.eq_nil_or_concat t with e | ⟨i, c, e⟩
  · subst e; simp
  · rw [List.concat_eq_append] at e
    subst e
    obtain ⟨_, h2, h3⟩ := atom_len c (h c (by simp))
    have e2 : (atomsOf (i ++ [c])).flatMap Atom.txt = (atomsOf i).flatMap Atom.txt ++ (atomOf c).txt := by simp [atomsOf]
    rw [e2, List.getLast?_append, List.getLast?_concat]
    cases hq : (atomOf c).txt.getLast? with
    | none => rw [List.getLast?_eq_none_iff] at hq; exact absurd hq h2
    | some z =>
      rw [hq] at h3
      simp only [Option.some_or]
      rw [h3]; simp
theorem bar_ok {f : Int → Option Value} (hf : FOk f) {x : Str} (h : Al x) (hne : cl x ≠ []) (hl : x.length ≤ 150) : BarOk f x (atomsOf (cl x)) (atomsOf (underL (cl x))) := by
  have hE := either_cl h
  have hfl := flat_len (cl x) h
  rw [len_cl] at hfl
  have hEl : ((signs x).foldl eitherF "").length ≤ 600 := by rw [← len_cl, hE]; omega
  have hu : ∀ c ∈ underL (cl x), c ∈ al := by
    intro c hc
    unfold underL at hc
    split at hc
    · exact h c hc
    · rcases List.mem_append.mp hc with h1 | h1
      · exact h c h1
      · simp at h1; subst h1; decide
  refine ⟨by omega, ?_, ?_, by omega, hE, ?_, ?_, ?_, by simpa [atomsOf] using hne, ?_⟩
  · rw [Array.all_eq_true']
    intro c hc
    simpa using h.b c (Array.mem_toList_iff.mpr hc)
  · intro s hs
    obtain ⟨c, hc, rfl⟩ := List.mem_map.mp hs
    exact either_low c (h c hc)
  · have hs : cl "*" = [42] := by decide +kernel
    have hEne : (atomsOf (cl x)).flatMap Atom.txt ≠ [] := by
      cases hx : cl x with
      | nil => exact absurd hx hne
      | cons c t =>
        have := (atom_len c (h c (by rw [hx]; simp))).2.1
        show (atomOf c).txt ++ _ ≠ []
        intro e
        exact this (List.append_eq_nil_iff.mp e).1
    show cl (join2 _ _) = _
    rw [cl_join2, hs, hE, if_neg (by rintro (h | h); cases h; exact hEne h)]
    unfold underL
    by_cases h47 : (cl x).getLast? = some 47
    · rw [if_pos ((flat_last h).mpr h47), if_pos h47]
    · rw [if_neg (fun e => h47 ((flat_last h).mp e)), if_neg h47]
      have : (atomsOf (cl x ++ [47])).flatMap Atom.txt = (atomsOf (cl x)).flatMap Atom.txt ++ [47] := by
        rw [show atomsOf (cl x ++ [47]) = atomsOf (cl x) ++ [atomOf 47] by simp [atomsOf], List.flatMap_append]
        rfl
      rw [this]
      simp
  · intro a ha
    obtain ⟨c, hc, rfl⟩ := List.mem_map.mp ha
    exact atom_ok hf (h c hc)
  · intro a ha
    obtain ⟨c, hc, rfl⟩ := List.mem_map.mp ha
    exact atom_ok hf (hu c hc)
  · intro e
    rw [List.map_eq_nil_iff] at e
    unfold underL at e
    split at e
    · exact hne e
    · simp at e
end

section
noncomputable def endsB (text : Str) (e : List Nat) : Bool := (e.map fun (i : Nat) => PyData.int i).any fun y => PyData.eqv y (.int text.length)
noncomputable def tk (text : Str) (rest : List (Option Str)) (ends : List Nat) : Bool := match takeRun text rest ends with
  | none => false
  | some e => endsB text e
theorem takes_tk (text : Str) (ps : List (Option Str)) : takes text ps = tk text ps [0] := rfl
theorem endsB_iff (text : Str) (e : List Nat) : endsB text e = true ↔ text.length ∈ e := by
  unfold endsB
  rw [List.any_eq_true]
  constructor
  · rintro ⟨y, hy, h⟩
    obtain ⟨i, hi, rfl⟩ := List.mem_map.mp hy
    have : ((i : Nat) : Int) = ((text.length : Nat) : Int) := by
      have h' : (((i : Nat) : Int) == ((text.length : Nat) : Int)) = true := h
      exact eq_of_beq h'
    have : i = text.length := by omega
    subst this; exact hi
  · intro h
    refine ⟨_, List.mem_map.mpr ⟨text.length, h, rfl⟩, ?_⟩
    show (((text.length : Nat) : Int) == ((text.length : Nat) : Int)) = true
    simp
theorem tk_none (text : Str) (rest : List (Option Str)) : tk text rest [] = false := by
  cases rest with
  | nil => rfl
  | cons p ps => rfl
theorem tk_some (text p : Str) (rest : List (Option Str)) (i : Nat) : tk text (some p :: rest) [i] = (decide (i < text.length) && fitAt text p i && tk text rest [i + 1]) := by
  have e : tk text (some p :: rest) [i] = tk text rest (takeStep text [i] (some p)) := by
    unfold tk
    rw [takeRun, if_neg (by simp)]
  rw [e, takeStep]
  cases hb : decide (i < text.length) && fitAt text p i with
  | true =>
    rw [List.filter_cons_of_pos (by exact hb)]
    rfl
  | false =>
    rw [List.filter_cons_of_neg (by rw [hb]; decide), List.filter_nil, List.map_nil, tk_none]
    rfl
theorem drop_sgn {text : Str} {i : Nat} (h : i < text.length) : (cl text).drop i = sgn text i :: (cl text).drop (i + 1) := by
  have h' : i < (cl text).length := h
  rw [List.drop_eq_getElem_cons h']
  congr 1
  have := sgn_at h
  have h2 : (cl text)[i]? = some (sgn text i) := by rw [← this]; simp
  rw [List.getElem?_eq_getElem h'] at h2
  injection h2
theorem tk_run {text : Str} (ht : Al text) (rest : List (Option Str)) : ∀ (cs : List Nat) (i : Nat), (∀ c ∈ cs, c ∈ al) → i ≤ text.length →
    tk text ((cs.map fun c => some (partV c)) ++ rest) [i] = ((cs.map lo).isPrefixOf (((cl text).drop i).map lo) && tk text rest [i + cs.length])
  | [], i, _, _ => by simp
  | c :: cs, i, h, hi => by
    rw [List.map_cons, List.cons_append, tk_some]
    by_cases hlt : i < text.length
    · rw [tk_run ht rest cs (i + 1) (fun d hd => h d (List.mem_cons_of_mem _ hd)) hlt, drop_sgn hlt, List.map_cons, List.map_cons, List.isPrefixOf]
      have hs : sgn text i ∈ al := by
        have : (cl text)[i]? = some (sgn text i) := by rw [← sgn_at hlt]; simp
        exact ht _ (List.mem_of_getElem? this)
      have hf : fitAt text (partV c) i = (lo c == lo (sgn text i)) := fit_lo c (h c (by simp)) _ hs
      rw [hf, decide_eq_true hlt, List.length_cons, show i + 1 + cs.length = i + (cs.length + 1) by omega, Bool.true_and, Bool.and_assoc]
    · have hd : (cl text).drop i = [] := List.drop_eq_nil_of_le (by rw [len_cl]; omega)
      rw [decide_eq_false hlt, hd, List.map_nil, List.map_cons]
      rfl
theorem prefix_len {a b : List Nat} (h : a.isPrefixOf b = true) : a.length ≤ b.length := (List.isPrefixOf_iff_prefix.mp h).length_le
theorem takes_exact {text : Str} (ht : Al text) {cs : List Nat} (hc : ∀ c ∈ cs, c ∈ al) : takes text (cs.map fun c => some (partV c)) = (cs.map lo == (cl text).map lo) := by
  have q := tk_run ht [] cs 0 hc (Nat.zero_le _)
  rw [List.append_nil, List.drop_zero, Nat.zero_add] at q
  rw [takes_tk, q]
  have e : tk text [] [cs.length] = decide (cs.length = text.length) := by
    rw [Bool.eq_iff_iff, decide_eq_true_eq]
    show endsB text [cs.length] = true ↔ _
    rw [endsB_iff]
    simp [eq_comm]
  rw [e, Bool.eq_iff_iff, Bool.and_eq_true, decide_eq_true_eq, beq_iff_eq]
  constructor
  · rintro ⟨h1, h2⟩
    exact (List.isPrefixOf_iff_prefix.mp h1).eq_of_length (by rw [List.length_map, List.length_map, len_cl]; exact h2)
  · intro h
    refine ⟨by rw [h]; exact List.isPrefixOf_iff_prefix.mpr (List.prefix_refl _), ?_⟩
    have := congrArg List.length h
    rwa [List.length_map, List.length_map, len_cl] at this
theorem takes_under {text : Str} (ht : Al text) {cs : List Nat} (hc : ∀ c ∈ cs, c ∈ al) : takes text ((cs.map fun c => some (partV c)) ++ [none]) = (cs.map lo).isPrefixOf ((cl text).map lo) := by
  have q := tk_run ht [none] cs 0 hc (Nat.zero_le _)
  rw [List.drop_zero, Nat.zero_add] at q
  rw [takes_tk, q]
  cases hb : (cs.map lo).isPrefixOf ((cl text).map lo) with
  | false => rfl
  | true =>
    have hl := prefix_len hb
    rw [List.length_map, List.length_map, len_cl] at hl
    rw [Bool.true_and]
    have e : tk text [none] [cs.length] = endsB text ((List.range (text.length + 1 - cs.length)).map (cs.length + ·)) := rfl
    rw [e, endsB_iff]
    refine List.mem_map.mpr ⟨text.length - cs.length, by simp; omega, by omega⟩
theorem parts_of {f : Int → Option Value} (hf : FOk f) {cs : List Nat} (hc : ∀ c ∈ cs, c ∈ al) (star : Bool) : trParts f (atomsOf cs) star = (cs.map fun c => some (partV c)) ++ (if star = true then [none] else []) := by
  unfold trParts
  rw [List.map_map]
  congr 1
  apply List.map_congr_left
  intro c h
  show some ((atomOf c).part f) = _
  rw [atom_part hf (hc c h)]
theorem under_al {t : List Nat} (h : ∀ c ∈ t, c ∈ al) : ∀ c ∈ underL t, c ∈ al := by
  intro c hc
  unfold underL at hc
  split at hc
  · exact h c hc
  · rcases List.mem_append.mp hc with h1 | h1
    · exact h c h1
    · simp at h1; subst h1; decide
theorem under_lo {t : List Nat} (h : ∀ c ∈ t, c ∈ al) : (underL t).map lo = underL (t.map lo) := by
  have e : (t.map lo).getLast? = some 47 ↔ t.getLast? = some 47 := by
    rw [List.getLast?_map]
    cases hq : t.getLast? with
    | none => simp
    | some z =>
      have := lo_slash z (h z (List.mem_of_getLast? hq))
      simpa using this
  unfold underL
  by_cases h1 : t.getLast? = some 47
  · rw [if_pos h1, if_pos (e.mpr h1)]
  · rw [if_neg h1, if_neg (fun q => h1 (e.mp q)), List.map_append]; rfl
theorem jn_app : ∀ (a b : List (List Nat)), a ≠ [] → b ≠ [] → jn (a ++ b) = jn a ++ 47 :: jn b
  | [], _, h, _ => absurd rfl h
  | [x], y :: r, _, _ => rfl
  | [x], [], _, h => absurd rfl h
  | x :: y :: r, b, _, hb => by
    show x ++ 47 :: jn (y :: r ++ b) = (x ++ 47 :: jn (y :: r)) ++ 47 :: jn b
    rw [jn_app (y :: r) b (by simp) hb]
    simp
theorem decode2 {n : Nat} (hn : n < 4) {ns : List Str} (h : Vn ns) (hne : cl (rootOf n) ++ jn (ns.map cl) ≠ []) : pcs (cl (mkP (rootOf n) ns)) = ns.map cl := by
  obtain ⟨k, hk, ek, er⟩ := root_rep hn
  rw [cl_mkP, if_neg hne, ek, pcs_rep, pcs_jn (by
    intro p hp
    obtain ⟨q, hq, rfl⟩ := List.mem_map.mp hp
    exact h.ns q hq), List.filter_eq_self]
  intro p hp
  obtain ⟨q, hq, rfl⟩ := List.mem_map.mp hp
  rw [decide_eq_true_eq]
  exact (h q hq).ne

theorem under_iff {m n : Nat} (hm : m < 4) (hn : n < 4) {a b : List Str} (ha : Vn a) (hb : Vn b) (hap : ¬ (cl (mkP (rootOf m) a) = [47] ∧ (cl (mkP (rootOf n) b)).take 2 = [47, 47])) (h : (underL (cl (mkP (rootOf m) a))).isPrefixOf (cl (mkP (rootOf n) b)) = true) :
    rootOf m = rootOf n ∧ a <+: b ∧ (a ≠ [] ∨ m ≠ 0) := by
  obtain ⟨t, ht⟩ := List.isPrefixOf_iff_prefix.mp h
  obtain ⟨k, hk, ek, er⟩ := root_rep hm
  obtain ⟨k', hk', ek', er'⟩ := root_rep hn
  have d1 := (decode hn hb).1
  have hbe : cl (mkP (rootOf n) b) ≠ [46] → cl (rootOf n) ++ jn (b.map cl) ≠ [] := fun h e => h (by rw [cl_mkP, if_pos e])
  by_cases ha0 : a = []
  · subst ha0
    by_cases hm0 : m = 0
    · subst hm0
      have e : cl (mkP (rootOf 0) []) = [46] := by rw [mkP_root (by decide)]; exact cl_dot
      have eu : underL [46] = [46, 47] := by decide
      rw [e, eu] at ht
      have ht' : cl (mkP (rootOf n) b) = [46] ++ 47 :: t := ht.symm
      have d2 := decode2 hn hb (hbe (by rw [ht']; simp))
      rw [ht', pcs_app] at d2
      have hmem : [46] ∈ b.map cl := by
        rw [← d2]
        have : pcs [46] = [[46]] := by decide
        rw [this]; simp
      obtain ⟨q, hq, e⟩ := List.mem_map.mp hmem
      exact absurd e (hb q hq).nd
    · have k0 : k ≠ 0 := by
        rintro rfl
        exact hm0 ((root_len hm).mp (cl_nil.mpr ek))
      have e : cl (mkP (rootOf m) []) = List.replicate k 47 := by
        rw [mkP_root hm, if_neg hm0, ek]
      rw [e] at ht hap
      have eu : underL (List.replicate k 47) = List.replicate k 47 := by unfold underL; rw [if_pos (getLast_rep k0)]
      rw [eu] at ht
      refine ⟨?_, List.nil_prefix, .inr hm0⟩
      have hx := jn_head hb.ns hb.head
      have hcl : cl (mkP (rootOf n) b) = List.replicate k' 47 ++ jn (b.map cl) := by
        rw [cl_mkP, ek', if_neg]
        rw [← ek']
        apply hbe
        rw [← ht]
        intro e
        cases k with
        | zero => exact k0 rfl
        | succ k => rw [List.replicate_succ] at e; simp at e
      have kk : k = k' := by
        rw [hcl] at ht hap
        generalize jn (b.map cl) = j at hx ht hap
        obtain rfl | rfl : k = 1 ∨ k = 2 := by omega
        · obtain rfl | rfl | rfl : k' = 0 ∨ k' = 1 ∨ k' = 2 := by omega
          · exact absurd (by simp at ht; rw [← ht]; rfl) hx
          · rfl
          · exact absurd ⟨rfl, rfl⟩ hap
        · obtain rfl | rfl | rfl : k' = 0 ∨ k' = 1 ∨ k' = 2 := by omega
          · exact absurd (by simp [List.replicate] at ht; rw [← ht]; rfl) hx
          · exact absurd (by simp [List.replicate] at ht; rw [← ht]; rfl) hx
          · rfl
      rw [← er, ← er', kk]
  · obtain ⟨l1, l2⟩ := jn_last ha ha0
    have hj := jn_head ha.ns ha.head
    have e : cl (mkP (rootOf m) a) = List.replicate k 47 ++ jn (a.map cl) := by
      rw [cl_mkP, ek, if_neg]
      intro e; exact l1 (List.append_eq_nil_iff.mp e).2
    have el : (List.replicate k 47 ++ jn (a.map cl)).getLast? ≠ some 47 := by
      rw [List.getLast?_append]
      cases hq : (jn (a.map cl)).getLast? with
      | none => rw [List.getLast?_eq_none_iff] at hq; exact absurd hq l1
      | some z => rw [hq] at l2; simpa using l2
    have eu : underL (List.replicate k 47 ++ jn (a.map cl)) = List.replicate k 47 ++ (jn (a.map cl) ++ [47]) := by unfold underL; rw [if_neg el, List.append_assoc]
    rw [e, eu] at ht
    have ht' : cl (mkP (rootOf n) b) = List.replicate k 47 ++ (jn (a.map cl) ++ 47 :: t) := by rw [← ht]; simp
    have hh : (jn (a.map cl) ++ 47 :: t).head? ≠ some 47 := by
      cases hq : jn (a.map cl) with
      | nil => exact absurd hq l1
      | cons c j => rw [hq] at hj; simpa using hj
    rw [ht', rt_rep (by omega) hh, er] at d1
    have d2 := decode2 hn hb (hbe (by
      rw [ht']
      intro e
      have hlen := congrArg List.length e
      have hpos := List.length_pos_iff.mpr l1
      simp at hlen
      omega))
    rw [ht', pcs_rep, pcs_app, pcs_jn (by
      intro p hp
      obtain ⟨q, hq, rfl⟩ := List.mem_map.mp hp
      exact ha.ns q hq), List.filter_eq_self.mpr (by
      intro p hp
      obtain ⟨q, hq, rfl⟩ := List.mem_map.mp hp
      rw [decide_eq_true_eq]
      exact (ha q hq).ne)] at d2
    refine ⟨cl_ext d1, ?_, .inl ha0⟩
    have : a = b.take a.length := by
      apply map_cl_inj
      rw [List.map_take, ← d2]
      simp
    rw [this]
    exact List.take_prefix _ _
theorem under_of {m : Nat} (hm : m < 4) {a d : List Str} (ha : Vn a) (hb : Vn (a ++ d)) (hd : d ≠ []) (h : a ≠ [] ∨ m ≠ 0) : (underL (cl (mkP (rootOf m) a))).isPrefixOf (cl (mkP (rootOf m) (a ++ d))) = true ∧ ¬ (cl (mkP (rootOf m) a) = [47] ∧ (cl (mkP (rootOf m) (a ++ d))).take 2 = [47, 47]) := by
  obtain ⟨k, hk, ek, er⟩ := root_rep hm
  have hvd : Vn d := fun x hx => hb x (List.mem_append_right _ hx)
  obtain ⟨m1, m2⟩ := jn_last hvd hd
  have hdh := jn_head hvd.ns hvd.head
  have ecl : cl (mkP (rootOf m) (a ++ d)) = List.replicate k 47 ++ jn ((a ++ d).map cl) := by
    rw [cl_mkP, ek, if_neg]
    intro e
    exact (jn_last hb (by simp [hd])).1 (List.append_eq_nil_iff.mp e).2
  by_cases ha0 : a = []
  · subst ha0
    have hm0 : m ≠ 0 := h.resolve_left (fun h => h rfl)
    have k0 : k ≠ 0 := by
      rintro rfl
      exact hm0 ((root_len hm).mp (cl_nil.mpr ek))
    have e : cl (mkP (rootOf m) []) = List.replicate k 47 := by rw [mkP_root hm, if_neg hm0, ek]
    have eu : underL (List.replicate k 47) = List.replicate k 47 := by unfold underL; rw [if_pos (getLast_rep k0)]
    rw [ecl, e, eu]
    refine ⟨List.isPrefixOf_iff_prefix.mpr (List.prefix_append _ _), ?_⟩
    rintro ⟨h1, h2⟩
    have : k = 1 := by have := congrArg List.length h1; simpa using this
    subst this
    rw [List.nil_append] at h2
    cases hq : jn (d.map cl) with
    | nil => exact m1 hq
    | cons c j =>
      rw [hq] at hdh h2
      simp [List.replicate] at h2
      exact hdh (by rw [h2]; rfl)
  · obtain ⟨l1, l2⟩ := jn_last ha ha0
    have e : cl (mkP (rootOf m) a) = List.replicate k 47 ++ jn (a.map cl) := by
      rw [cl_mkP, ek, if_neg]
      intro e; exact l1 (List.append_eq_nil_iff.mp e).2
    have el : (List.replicate k 47 ++ jn (a.map cl)).getLast? ≠ some 47 := by
      rw [List.getLast?_append]
      cases hq : (jn (a.map cl)).getLast? with
      | none => rw [List.getLast?_eq_none_iff] at hq; exact absurd hq l1
      | some z => rw [hq] at l2; simpa using l2
    have eu : underL (List.replicate k 47 ++ jn (a.map cl)) = List.replicate k 47 ++ jn (a.map cl) ++ [47] := by unfold underL; rw [if_neg el]
    rw [ecl, e, eu]
    refine ⟨List.isPrefixOf_iff_prefix.mpr ⟨jn (d.map cl), ?_⟩, ?_⟩
    · rw [List.map_append, jn_app _ _ (by simpa using ha0) (by simpa using hd)]
      simp
    · rintro ⟨h1, _⟩
      rw [h1] at el
      exact el rfl
end

section
theorem lo_rep : ∀ (t : List Nat) (k : Nat), (∀ c ∈ t, c ∈ al) → (t.map lo = List.replicate k 47 ↔ t = List.replicate k 47)
  | [], k, _ => by simp
  | c :: t, 0, _ => by simp
  | c :: t, k + 1, h => by
    rw [List.map_cons, List.replicate_succ, List.cons.injEq, List.cons.injEq, lo_rep t k (fun d hd => h d (List.mem_cons_of_mem _ hd)), lo_slash c (h c (by simp))]

structure LnT (f : Int → Option Value) (l : Ln) (m : Nat) (ms : List Str) : Prop where
  hm : m < 4
  vn : Vn ms
  text : l.text = mkP (rootOf m) ms
  slot : l.slot = slotP (rootOf m) ms
  ex : l.ex = trParts f (atomsOf (cl l.text)) false
  un : l.un = trParts f (atomsOf (underL (cl l.text))) true
theorem above_iff {m n : Nat} {l : Ln} {ms ns : List Str} (hs : l.slot = slotP (rootOf m) ms) : aboveB (slotP (rootOf n) ns) l = true ↔ (rootOf m = rootOf n ∧ ms.map Txt.lower <+: ns.map Txt.lower) ∧ ((rootOf m ≠ "" ∨ ms ≠ []) ∨ (rootOf n = "" ∧ ns = [])) := by
  unfold aboveB
  rw [hs, Bool.and_eq_true, beq_iff_eq, Bool.or_eq_true, bne_iff_ne, beq_iff_eq]
  have e1 : slotP (rootOf m) ms = (slotP (rootOf n) ns).take (slotP (rootOf m) ms).length ↔ rootOf m = rootOf n ∧ ms.map Txt.lower <+: ns.map Txt.lower := by
    rw [List.prefix_iff_eq_take]
    unfold slotP
    rw [List.length_cons, List.take_succ_cons, List.cons.injEq]
  have e2 : ∀ (r : Str) (l : List Str), slotP r l = [("" : Str)] ↔ r = "" ∧ l = [] := fun r l => by
    unfold slotP
    rw [List.cons.injEq, List.map_eq_nil_iff]
  rw [e1, e2, Ne, e2, Classical.not_and_iff_not_or_not]
theorem taken_above {f : Int → Option Value} (hf : FOk f) {l : Ln} {m n : Nat} {ms ns : List Str} (h : LnT f l m ms) (hn : n < 4) (hv : Vn ns) : takenB (mkP (rootOf n) ns) l = aboveB (slotP (rootOf n) ns) l := by
  have hm := h.hm
  have hta : Al (mkP (rootOf n) ns) := Al.mkP hn hv.al
  have hla : Al l.text := by rw [h.text]; exact Al.mkP hm h.vn.al
  have e1 : (cl l.text).map lo = cl (mkP (rootOf m) (ms.map Txt.lower)) := by rw [← lower_mkP hm h.vn, ← h.text, cl_lower hla.b]
  have e2 : (cl (mkP (rootOf n) ns)).map lo = cl (mkP (rootOf n) (ns.map Txt.lower)) := by rw [← lower_mkP hn hv, cl_lower hta.b]
  have hex : takes (mkP (rootOf n) ns) l.ex = (cl (mkP (rootOf m) (ms.map Txt.lower)) == cl (mkP (rootOf n) (ns.map Txt.lower))) := by
    rw [h.ex, parts_of hf hla false, if_neg (by decide), List.append_nil, takes_exact hta hla, e1, e2]
  have hun : takes (mkP (rootOf n) ns) l.un = (underL (cl (mkP (rootOf m) (ms.map Txt.lower)))).isPrefixOf (cl (mkP (rootOf n) (ns.map Txt.lower))) := by
    rw [h.un, parts_of hf (under_al hla) true, if_pos rfl, takes_under hta (under_al hla), under_lo hla, e1, e2]
  have hap : apartB (mkP (rootOf n) ns) l = true ↔ (cl (mkP (rootOf m) (ms.map Txt.lower)) = [47] ∧ (cl (mkP (rootOf n) (ns.map Txt.lower))).take 2 = [47, 47]) := by
    unfold apartB
    have s02 : Txt.slice (mkP (rootOf n) ns) none (some 2) = mkS ((cl (mkP (rootOf n) ns)).take 2) := sl_mk _ none (some 2)
    have hss : ("//" : Str) = mkS [47, 47] := by decide +kernel
    rw [s02, Bool.and_eq_true, beq_iff_eq, beq_iff_eq, hss, mkS_inj, ← mkS_slash, ← e1, ← e2, ← List.map_take]
    have r1 := lo_rep (cl l.text) 1 hla
    have r2 := lo_rep ((cl (mkP (rootOf n) ns)).take 2) 2 (fun c hc => hta c (List.mem_of_mem_take hc))
    have r1' : (cl l.text).map lo = [47] ↔ cl l.text = [47] := r1
    have r2' : ((cl (mkP (rootOf n) ns)).take 2).map lo = [47, 47] ↔ (cl (mkP (rootOf n) ns)).take 2 = [47, 47] := r2
    rw [r1', r2']
    constructor
    · rintro ⟨a, b⟩; exact ⟨by rw [a]; rfl, b⟩
    · rintro ⟨a, b⟩; exact ⟨cl_ext a, b⟩
  have hrm := root_ne hm
  have hrn := root_ne hn
  have hva := h.vn.lower
  have hvb := hv.lower
  have lm : ms.map Txt.lower = [] ↔ ms = [] := List.map_eq_nil_iff
  have ln : ns.map Txt.lower = [] ↔ ns = [] := List.map_eq_nil_iff
  have lm' : ms ≠ [] ↔ ms.map Txt.lower ≠ [] := not_congr lm.symm
  rw [Bool.eq_iff_iff, above_iff h.slot, lm', ← ln]
  unfold takenB
  rw [hex, hun, Bool.or_eq_true, Bool.and_eq_true, Bool.not_eq_true', ← Bool.not_eq_true, hap, beq_iff_eq]
  generalize ms.map Txt.lower = a at *
  generalize ns.map Txt.lower = b at *
  constructor
  · rintro (h1 | ⟨h1, h2⟩)
    · obtain ⟨r, e⟩ := mkP_inj hm hn hva hvb (cl_ext h1)
      subst e
      refine ⟨⟨r, List.prefix_refl _⟩, ?_⟩
      by_cases h0 : rootOf n = "" ∧ a = []
      · exact .inr h0
      · rw [Classical.not_and_iff_not_or_not] at h0
        rw [r]; exact .inl h0
    · obtain ⟨r, p, q⟩ := under_iff hm hn hva hvb h1 h2
      refine ⟨⟨r, p⟩, .inl ?_⟩
      rcases q with q | q
      · exact .inr q
      · exact .inl fun e => q (hrm.mp e)
  · rintro ⟨⟨r, p⟩, q⟩
    obtain ⟨d, hd⟩ := p
    by_cases hd0 : d = []
    · subst hd0
      rw [List.append_nil] at hd
      left
      rw [r, hd]
    · right
      have hq : a ≠ [] ∨ m ≠ 0 := by
        rcases q with (q | q) | q
        · exact .inr fun e => q (hrm.mpr e)
        · exact .inl q
        · rw [q.2] at hd
          exact absurd (List.append_eq_nil_iff.mp hd).2 hd0
      rw [← hd] at hvb ⊢
      obtain ⟨u1, u2⟩ := under_of hm hva hvb hd0 hq
      rw [← r]
      exact ⟨u2, u1⟩

theorem size_mono {m : Nat} (hm : m < 4) {b : List Str} (hb : Vn b) {i j : Nat} (hij : i < j) (hj : j ≤ b.length) (h0 : i ≠ 0 ∨ m ≠ 0) : (mkP (rootOf m) (b.take i)).length < (mkP (rootOf m) (b.take j)).length := by
  obtain ⟨k, hk, ek, er⟩ := root_rep hm
  obtain ⟨d, hd⟩ : ∃ d, b.take j = b.take i ++ d := by
    refine ⟨(b.take j).drop i, ?_⟩
    have := List.take_append_drop i (b.take j)
    rw [List.take_take, Nat.min_eq_left (by omega)] at this
    exact this.symm
  have hdne : d ≠ [] := by
    rintro rfl
    have := congrArg List.length hd
    rw [List.append_nil, List.length_take, List.length_take] at this
    omega
  have hvj : Vn (b.take j) := fun x hx => hb x (List.mem_of_mem_take hx)
  have hvi : Vn (b.take i) := fun x hx => hb x (List.mem_of_mem_take hx)
  have hvd : Vn d := fun x hx => hvj x (by rw [hd]; exact List.mem_append_right _ hx)
  have hjd := (jn_last hvd hdne).1
  have hdl := List.length_pos_iff.mpr hjd
  rw [← len_cl, ← len_cl, hd]
  by_cases hi : b.take i = []
  · rw [hi, List.nil_append]
    have i0 : i = 0 := by
      have := congrArg List.length hi
      rw [List.length_take, List.length_nil] at this
      omega
    have m0 := h0.resolve_left (fun h => h i0)
    rw [mkP_root hm, if_neg m0, cl_mkP, if_neg (fun e => hjd (List.append_eq_nil_iff.mp e).2), List.length_append]
    omega
  · have hji := (jn_last hvi hi).1
    rw [cl_mkP, cl_mkP, if_neg (fun e => hji (List.append_eq_nil_iff.mp e).2), List.map_append, jn_app _ _ (by simpa using hi) (by simpa using hdne), if_neg (by simp)]
    simp only [List.length_append, List.length_cons]
    omega
theorem lower_len {x : Str} (h : Al x) : (Txt.lower x).length = x.length := by rw [← len_cl, cl_lower h.b, List.length_map, len_cl]
theorem taken_most {f : Int → Option Value} (hf : FOk f) {ls : List Ln} (hl : ∀ l ∈ ls, ∃ m ms, LnT f l m ms) {n : Nat} (hn : n < 4) {ns : List Str} (hv : Vn ns) : (most none ((ls.filter (takenB (mkP (rootOf n) ns))).map tkP)).map (·.2) = nearest ls (slotP (rootOf n) ns) := by
  have e : ls.filter (takenB (mkP (rootOf n) ns)) = ls.filter (aboveB (slotP (rootOf n) ns)) := by
    apply List.filter_congr
    intro l hm
    obtain ⟨m, ms, h⟩ := hl l hm
    exact taken_above hf h hn hv
  rw [e]
  unfold nearest
  refine most_alike (fun l : Ln => ((l.text.length : Nat) : Int)) (fun l : Ln => ((l.slot.length : Nat) : Int)) (·.value) _ none fun y z hy hz => ?_
  have hy := hy.resolve_right (fun h => by cases h)
  have hz := hz.resolve_right (fun h => by cases h)
  have info : ∀ l ∈ ls.filter (aboveB (slotP (rootOf n) ns)), ∃ i, i ≤ (ns.map Txt.lower).length ∧ l.slot.length = i + 1 ∧ l.text.length = (mkP (rootOf n) ((ns.map Txt.lower).take i)).length ∧ (i ≠ 0 ∨ n ≠ 0 ∨ ns = []) := by
    intro l h
    obtain ⟨hm, hab⟩ := List.mem_filter.mp h
    obtain ⟨m, ms, ht⟩ := hl l hm
    obtain ⟨⟨r, p⟩, q⟩ := (above_iff ht.slot).mp hab
    have hla : Al (mkP (rootOf m) ms) := Al.mkP ht.hm ht.vn.al
    refine ⟨ms.length, ?_, ?_, ?_, ?_⟩
    · have := p.length_le
      rwa [List.length_map] at this
    · rw [ht.slot]; simp [slotP]
    · rw [ht.text, ← lower_len hla, lower_mkP ht.hm ht.vn, r]
      rw [List.prefix_iff_eq_take, List.length_map] at p
      rw [← p]
    · rcases q with (q | q) | q
      · right; left
        intro e
        rw [r] at q
        exact q ((root_ne hn).mpr e)
      · left; intro e; exact q (List.length_eq_zero_iff.mp e)
      · exact .inr (.inr q.2)
  obtain ⟨i, i1, i2, i3, i4⟩ := info y hy
  obtain ⟨j, j1, j2, j3, j4⟩ := info z hz
  rw [i2, i3, j2, j3]
  have key : ∀ {i j : Nat}, i < j → j ≤ (ns.map Txt.lower).length → (i ≠ 0 ∨ n ≠ 0 ∨ ns = []) → (mkP (rootOf n) ((ns.map Txt.lower).take i)).length < (mkP (rootOf n) ((ns.map Txt.lower).take j)).length := by
    intro i j hij hj h
    refine size_mono hn hv.lower hij hj ?_
    rcases h with h | h | h
    · exact .inl h
    · exact .inr h
    · rw [h] at hj
      simp at hj
      omega
  rcases Nat.lt_trichotomy i j with h | h | h
  · have := key h j1 i4
    constructor
    · intro _; omega
    · intro _; omega
  · subst h
    constructor <;> intro h <;> omega
  · have := key h i1 j4
    constructor <;> intro h <;> omega
end

section
noncomputable def lnOf (f : Int → Option Value) (q n : Nat) : Ln := newLn f (atomsOf (cl (wText (way0 n)))) (atomsOf (underL (cl (wText (way0 n))))) q (way0 n) (wText (way0 n)) (wSlot (way0 n))
noncomputable def LnF (f : Int → Option Value) (l : Ln) : Prop := ∃ q n, q ≤ 20 ∧ l = lnOf f q n
theorem text_ne {w : Way} (h : Wo w) : cl (wText w) ≠ [] := by
  intro e
  rw [cl_mkP] at e
  split at e
  · cases e
  · rename_i q; exact q e
theorem LnF.t {f : Int → Option Value} {l : Ln} (h : LnF f l) : ∃ m ms, LnT f l m ms := by
  obtain ⟨q, n, _, rfl⟩ := h
  have w := Wo.zero n
  exact ⟨(way0 n).lead, nmOf (way0 n).lead (way0 n).row, w.lead, w.vn, rfl, rfl, rfl, rfl⟩
theorem LnF.s {f : Int → Option Value} {l : Ln} (h : LnF f l) : LnS l := by
  obtain ⟨m, ms, t⟩ := h.t
  exact ⟨m, ms, t.hm, t.vn, t.text, t.slot⟩
theorem parts_in {f : Int → Option Value} (hf : FOk f) {cs : List Nat} (hc : ∀ c ∈ cs, c ∈ al) {star : Bool} {p : Str} (h : some p ∈ trParts f (atomsOf cs) star) : ∃ c ∈ al, p = partV c := by
  rw [parts_of hf hc] at h
  rcases List.mem_append.mp h with h | h
  · obtain ⟨c, h1, h2⟩ := List.mem_map.mp h
    exact ⟨c, hc c h1, by injection h2 with h2; exact h2.symm⟩
  · split at h
    · simp at h
    · cases h
theorem val_ok : ∀ q, q ≤ 20 → (valP q).length ≤ 1000 ∧ (cl (valP q)).all (fun c => decide (32 ≤ c ∧ c < 127)) = true ∧ PyData.strOk (valP q) = true := by
  have : ∀ q, q < 21 → (valP q).length ≤ 1000 ∧ (cl (valP q)).all (fun c => decide (32 ≤ c ∧ c < 127)) = true ∧ PyData.strOk (valP q) = true := by decide +kernel
  intro q h
  exact this q (by omega)
theorem val_clean {q : Nat} (h : q ≤ 20) : Clean (valP q) := fun c hc => by
  have := List.all_eq_true.mp (val_ok q h).2.1 c (Array.mem_toList_iff.mpr hc)
  simpa using this
theorem LnF.q {f : Int → Option Value} (hf : FOk f) {l : Ln} (h : LnF f l) : LnQ l := by
  obtain ⟨q, n, _, rfl⟩ := h
  have w := Wo.zero n
  obtain ⟨a, b, c⟩ := nm_vn w.lead w.pl
  refine ⟨fun p hp => ?_, fun p hp => ?_, ?_, by have := w.text_len; show (wText (way0 n)).length ≤ 1000; omega⟩
  · obtain ⟨c, hc, rfl⟩ := parts_in hf w.al hp
    exact part_ok c hc
  · obtain ⟨c, hc, rfl⟩ := parts_in hf (under_al w.al) hp
    exact part_ok c hc
  · have := w.row
    show (slotP (rootOf (way0 n).lead) (nmOf (way0 n).lead (way0 n).row)).length ≤ 1000
    unfold slotP
    rw [List.length_cons, List.length_map]
    omega
theorem LnF.o {f : Int → Option Value} (hf : FOk f) {l : Ln} (h : LnF f l) : LnOk l := by
  obtain ⟨q, n, hq, rfl⟩ := h
  have w := Wo.zero n
  have hal : Al (spell (n / 6 % 4) (wayRow (n / 6))) := Al.spell (Nat.mod_lt _ (by decide)) fun p hp => (row_pl _ p hp).al
  refine ⟨fun x hx => (Al.slot w.lead w.vn x hx).strOk, w.al.strOk, (val_ok q hq).2.2, hal.strOk, fun x hx => (w.pl x hx).al.strOk, fun p hp => ?_, fun p hp => ?_⟩
  · obtain ⟨c, hc, rfl⟩ := parts_in hf w.al hp
    exact part_al c hc
  · obtain ⟨c, hc, rfl⟩ := parts_in hf (under_al w.al) hp
    exact part_al c hc
theorem lsOk {f : Int → Option Value} (hf : FOk f) {ls : List Ln} (h : ∀ l ∈ ls, LnF f l) (hl : ls.length ≤ 900) : LsOk ls := by
  refine ⟨hl, fun l hm => (h l hm).q hf, fun l hm => (h l hm).o hf, fun l hm => ?_, fun l hm => ?_⟩
  · obtain ⟨q, n, hq, rfl⟩ := h l hm
    exact (Wo.zero n).sp
  · obtain ⟨q, n, hq, rfl⟩ := h l hm
    have w := Wo.zero n
    exact ⟨by have := w.row; show (way0 n).row.length ≤ 100; omega, fun x hx => by have := w.len x hx; omega⟩
theorem del_hs {n : Nat} (hn : n < 4) {ns : List Str} (hv : Vn ns) {ls : List Ln} (h : ∀ l ∈ ls, LnS l) : delL (mkP (rootOf n) ns) (hsOf ls) = hsOf (ls.filter fun l => l.slot != slotP (rootOf n) ns) := by
  unfold delL hsOf
  rw [List.filter_map]
  congr 1
  apply List.filter_congr
  intro l hm
  obtain ⟨m, ms, h1, h2, h3, h4⟩ := (h l hm).ex
  show (Txt.lower l.text != Txt.lower (mkP (rootOf n) ns)) = (l.slot != slotP (rootOf n) ns)
  rw [Bool.eq_iff_iff, bne_iff_ne, bne_iff_ne, Ne, Ne, h3, h4, slot_iff h1 hn h2 hv]
theorem deed_hs {f : Int → Option Value} {q n : Nat} {ls : List Ln} (h : ∀ l ∈ ls, LnS l) (hk : n % 6 < 3) : deedH (n % 6) (wText (way0 n)) (valP q) (hsOf ls) = hsOf (nextL (n % 6) (hereL ls (wSlot (way0 n))) (deedL (n % 6) (wSlot (way0 n)) ls) (lnOf f q n)) := by
  have w := Wo.zero n
  have hg := getL_here w.lead w.vn h
  unfold deedH nextL deedL
  by_cases h0 : n % 6 = 0
  · rw [if_pos h0, if_neg (show ¬ n % 6 = 1 by omega), if_pos (show n % 6 < 2 ∨ _ from .inl (by omega))]
    unfold hsOf
    rw [List.map_append]
    rfl
  · rw [if_neg h0]
    by_cases h1 : n % 6 = 1
    · rw [if_pos h1, if_pos h1, if_pos (show n % 6 < 2 ∨ _ from .inl (by omega)), del_hs w.lead w.vn h]
      unfold hsOf
      rw [List.map_append]
      rfl
    · rw [if_neg h1, if_neg h1]
      unfold sdfL
      cases hh : hereL ls (wSlot (way0 n)) with
      | nil =>
        have hg' : getL (wText (way0 n)) (hsOf ls) = none := by rw [hg, hh]; rfl
        rw [hg', if_pos (.inr rfl)]
        unfold hsOf
        rw [List.map_append]
        rfl
      | cons l r =>
        have hg' : getL (wText (way0 n)) (hsOf ls) = some l.value := by rw [hg, hh]; rfl
        rw [hg', if_neg (by rintro (h | h); omega; cases h)]
theorem turn_ok {f : Int → Option Value} (hf : FOk f) {q n : Nat} {ls : List Ln} (hq : q ≤ 20) (h : ∀ l ∈ ls, LnF f l) (hne : n % 6 < 3 ∨ ls ≠ []) : ∃ ls', Turn f q n ls ls' ∧ (∀ l ∈ ls', LnF f l) ∧ ls'.length ≤ ls.length + 1 ∧ ls' ≠ [] := by
  have hs : ∀ l ∈ ls, LnS l := fun l hm => (h l hm).s
  by_cases hk : n % 6 < 3
  · have w := Wo.zero n
    have hg := getL_here w.lead w.vn hs
    have hdl : ∀ l ∈ deedL (n % 6) (wSlot (way0 n)) ls, l ∈ ls := deedL_sub
    have hdn := deedL_len (kind := n % 6) (slot := wSlot (way0 n)) (ls := ls)
    refine ⟨nextL (n % 6) (hereL ls (wSlot (way0 n))) (deedL (n % 6) (wSlot (way0 n)) ls) (lnOf f q n), .deed hk w.fit (Al.nm w.al (by have := w.text_len; omega)) (val_clean hq) (val_ok q hq).1 (bar_ok hf w.al (text_ne w) (by have := w.text_len; omega)) (fun _ => by rw [hg]) (deed_hs hs hk), ?_, ?_, ?_⟩
    · intro l hl
      unfold nextL at hl
      split at hl
      · rcases List.mem_append.mp hl with hl | hl
        · exact h l (hdl l hl)
        · have : l = lnOf f q n := by simpa using hl
          exact ⟨q, n, hq, this⟩
      · exact h l (hdl l hl)
    · unfold nextL
      split
      · rw [List.length_append, List.length_singleton]; omega
      · omega
    · unfold nextL
      split
      · simp
      · rename_i hc
        rw [not_or] at hc
        intro e
        apply hc.2
        have : deedL (n % 6) (wSlot (way0 n)) ls = ls := by unfold deedL; rw [if_neg (by omega)]
        rw [this] at e
        rw [e]; rfl
  · have hne := hne.resolve_left hk
    have ask : ∀ w, Wo w → WayIs ls n w → Turn f q n ls ls := by
      intro w wo wi
      obtain ⟨a, b, c⟩ := nm_vn wo.lead wo.pl
      have hc := climb_path wo.lead hs (nmOf w.lead w.row).length (nmOf w.lead w.row) rfl wo.vn (by have := wo.row; omega) (fun x hx => wo.len x (c x hx))
      exact .ask hk wi wo.fit (by have := wo.text_len; omega) hc rfl (taken_most hf (fun l hl => (h l hl).t) wo.lead wo.vn)
    refine ⟨ls, ?_, h, Nat.le_succ _, hne⟩
    by_cases h3 : n % 6 > 3
    · have hpos : 0 < ls.length := List.length_pos_iff.mpr hne
      have hi : (n / 24 + n / 576 + n % 6) % ls.length < ls.length := Nat.mod_lt _ hpos
      have hb := List.getElem?_eq_getElem hi
      obtain ⟨q', k, _, e⟩ := h _ (List.getElem_mem hi)
      exact ask _ (Wo.base (n := n) (k := k) (by rw [e]; rfl) (by rw [e]; rfl) (by rw [e]; rfl)) (.inr ⟨h3, _, hb, rfl⟩)
    · exact ask _ (Wo.zero n) (.inl ⟨h3, rfl⟩)
theorem fmod_to (N : Int) : N.fmod (10 ^ 9) = ((N.fmod (10 ^ 9)).toNat : Nat) := by
  have : 0 ≤ N.fmod (10 ^ 9) := Int.fmod_nonneg_of_pos N (by decide)
  omega
theorem run_ok {f : Int → Option Value} (hf : FOk f) : ∀ (Ns : List Int) (q : Nat) (ls : List Ln), (∀ l ∈ ls, LnF f l) → q + Ns.length ≤ 20 → ls.length + Ns.length ≤ 900 → ls ≠ [] → Run f q Ns ls
  | [], q, ls, _, _, _, _ => .nil q ls
  | N :: Ns, q, ls, h, hq, hl, hne => by
    rw [List.length_cons] at hq hl
    obtain ⟨ls', t, h', hl', hne'⟩ := turn_ok hf (q := q) (n := (N.fmod (10 ^ 9)).toNat) (by omega) h (.inr hne)
    exact .cons (fmod_to N) t (lsOk hf h' (by omega)) (run_ok hf Ns (q + 1) ls' h' (by omega) (by omega) hne')
theorem run_law {f : Int → Option Value} (hf : FOk f) (script : List Int) : Run f 0 ([30, 52] ++ script.take 6) [] := by
  obtain ⟨ls', t, h', hl', hne'⟩ := turn_ok hf (q := 0) (n := 30) (ls := []) (by omega) (by simp) (.inl (by decide))
  have hl : ((52 : Int) :: script.take 6).length ≤ 7 := by simp; omega
  have h1 : ls'.length ≤ 1 := by simpa using hl'
  exact .cons (n := 30) (by decide) t (lsOk hf h' (by omega)) (run_ok hf (52 :: script.take 6) 1 ls' h' (by omega) (by omega) hne')
end

section
section
variable {V : Cx} {F : List (Addr × Obj)} {b : Addr} {i : Nat} {L : Option Addr} {h : Heap} {α : List Addr}
theorem Fn.re {a : Addr} {names body scope} (x : Fn V a names body scope) : Fn (V.re F b i L) a names body scope := let ⟨fd, o, Fa, r⟩ := x.ex; ⟨⟨fd, o, Fa.re, r⟩⟩
theorem IsDef.re {x : Str} {names body scope} (d : IsDef V x names body scope) : IsDef (V.re F b i L) x names body scope := let ⟨a, hm, q⟩ := d; ⟨a, hm, q.re⟩
theorem IsDefC.re {x : Str} {names body scope} (d : IsDefC V x names body scope) : IsDefC (V.re F b i L) x names body scope := let ⟨a, fd, o, hm, Fa, r⟩ := d; ⟨a, fd, o, hm, Fa.re, r⟩
theorem Lm.re (x : Lm V) : Lm (V.re F b i L) := ⟨x.bm⟩
theorem Tr.re {f} (x : Tr V f) : Tr (V.re F b i L) f := ⟨x.gb.re, x.es.re, x.tab, x.tw, x.lm.re⟩
theorem Var.re {ks cd env} {loc : Loc} {s : Shared} (R : Var V ks cd env loc α s) (h1 : ∀ a ∈ own env, ∀ p ∈ F, p.1 ≠ a) (h2 : ∀ p ∈ loc, nb p.2 = true) : Var (V.re F b i L) ks cd env loc α s := by
  have look : ∀ {x : Str} {v : SV}, loc.lookup x = some v → nb v = true := fun {x v} h => h2 (x, v) (mem_of_lookup h)
  refine ⟨R.names, R.kind, R.glob, R.blt, R.code, fun a ha => ⟨(R.lo a ha).1, (R.lo a ha).2.1, h1 a ha⟩, R.nd, ?_, fun x v e1 e2 => ?_, R.cs, R.cn⟩
  · obtain ⟨m, hn, hv⟩ := R.ns
    refine ⟨m, hn, fun x v e1 e2 => ?_⟩
    obtain ⟨u, hu, hr⟩ := hv x v e1 e2
    exact ⟨u, hu, hr.re (.inr (look e1))⟩
  · obtain ⟨c, u, hc, hu, hr⟩ := R.cl x v e1 e2
    exact ⟨c, u, hc, hu, hr.re (.inr (look e1))⟩
end

structure LTop (V : Cx) (K : PySem.W.Frag) (C fI fc fg fd fs fa fe fi : Addr) (f : Int → Option Value) (a : Addr) : Prop where
  D : Dfs V f
  cv : Cv V
  mb : Mk V K C fI
  hc : M_conv V K C fc
  hg : M_get V K C fg
  hd : M_del V K C fd
  hs : M_set V K C fs
  ha : M_add V K C fa
  he : M_setdefault V K C fe
  hi : M_items V K C fi
  ds : D_store V
  sy : sysModules < V.h₀.objs.size
  fo : ∀ (od : Obj) (l : Addr), HdDict od l → PySem.W.findObj K C (some od) "_headers" = some (.value (.ref l))
  cls : V.mg "Headers" = some (.ref C)
  law : Fn V a ["script"] lawSt (pScope top 39)
  ok : FOk f
section
variable {V : Cx} {K : PySem.W.Frag} {C fI fc fg fd fs fa fe fi : Addr} {f : Int → Option Value} {a : Addr} {m : Nat}
open PySem.W
theorem Dfs.re {F b i L} (x : Dfs V f) : Dfs (V.re F b i L) f :=
  ⟨x.tr.re, x.dt.re, x.de.re, let ⟨a, fd, o, hm, Fa, r⟩ := x.dj; ⟨a, fd, o, hm, Fa.re, r⟩, x.df.re, x.dg.re, x.dd.re, x.dp.re, x.dsr.re, x.dn.re, x.dw.re, x.dk.re, x.dfi.re, x.dm.re⟩

noncomputable def Fin (V : Cx) (v : Value) (s' : Shared) : Prop := v = .bool true ∧ ∃ F b i L α st, Sto (V.re F b i L) α st s'
theorem law_call {A : Around} {s : Shared} {sl : Addr} {script : List Int} (T : LTop V K C fI fc fg fd fs fa fe fi f a) (hbi : V.bi = 1) (hhl : V.hl = none) (rm : Rm A (m + 6)) (S : Sto V [] [] s) (hz : script.length ≤ 63) (hr : Rep V s.heap [] (.ref sl) (.lst (script.map .int))) : wpAny V.M A (call (.ref a) [.ref sl]) (Fin V) NoE s := by
  obtain ⟨fd0, o, Fa, hcd, hbo, hsc, hbind⟩ := T.law.ex
  have gb := T.D.tr.gb
  have hnames : fd0.scope.names = lawKs := by rw [hsc]
  refine enter_def (st := []) (args := [.lst (script.map .int)]) (kw := []) (loc := [("script", .lst (script.map .int))]) (n := m + 5) gb.pg Fa hcd hbo (.mk fun A α s us ks S hr hkw => ?_) ?_ (show [("script" : Str)].Nodup by decide +kernel) (by rw [hnames]; decide +kernel) rm S (.cons _ _ _ _ hr .nil) .nil fun env s₂ rm' S₂ R₂ L0 X₂ => ?_
  · (first | obtain rfl := hkw.inv | (obtain ⟨_, rfl⟩ := hkw.inv) | (obtain ⟨_, rfl, _⟩ := hkw.inv) | cases hkw)
    refine wpAny_of_eq (hbind us (by rw [hr.length]; rfl)) ⟨.refl, S, zip_breps (ns := ["script"]) hr⟩
  · intro y hy
    have : y = "script" := by simpa using hy
    subst this
    left
    rw [hnames]
    kernel_rfl
  rw [hnames] at R₂
  show wpAny V.M (A.deeper env) (execs (_ :: _ :: _) env) _ NoE s₂
  have h0 : StOK V ⟨m + 5, lawKs, fd0.code⟩ (lawSt[0]?.getD default) [("script", .lst (script.map .int))] [] .next [("script", .lst (script.map .int)), ("star", .obj 0)] [[SV.str "any run"]] := by
    show StOK _ _ (Stmt.Assign [Expr.Name _ _] (Expr.List [_] _) _) _ _ _ _ _
    refine StOK.assign (v := .obj 0) (st₁ := [[SV.str "any run"]]) ?_ (SnOK.lcl (loc := [("script", .lst (script.map .int))]) (by kernel_rfl)) (fun _ => rfl)
    exact EvOK.lstObj (st₁ := []) (.cons rfl (by tm_at "go") .nil) (by decide)
  refine wpAny_execs_cons (wpAny_mono (h0.out _ env [] s₂ rm' S₂ R₂) (fun f s₃ hq_ => ?_) fun _ _ e => e)
  obtain ⟨α₃, X₃, S₃, R₃, o3⟩ := hq_
  obtain rfl := o3.nx
  refine wpAny_execs_cons ?_
  show wpAny _ _ (exec (Stmt.Assign [Expr.Name _ _] (Expr.Call (Expr.Name _ _) [] [] _) _) env) _ _ _
  have hH : EvOK V ⟨m + 5, lawKs, fd0.code⟩ (match (lawSt[1]?.getD default) with | .Assign _ (.Call n _ _ _) _ => n | _ => default) [("script", .lst (script.map .int)), ("star", .obj 0)] [[SV.str "any run"]] (.gl "Headers") [[SV.str "any run"]] := EvOK.gl gb.pg T.cls (by kernel_rfl) (by kernel_rfl)
  refine wpAny_Assign_Name (hs := rfl) (wpAny_Call_Name_kw (wpAny_mono (hH.out _ env α₃ s₃ rm' S₃ R₃) (fun u s₄ hq_ => ?_) fun _ _ e => e))
  obtain ⟨α₄, X₄, S₄, r₄⟩ := hq_
  have hu : u = .ref C := by
    have h := r₄.inv
    exact (Option.some.inj (T.cls.symm.trans h)).symm
  subst hu
  have R₄ := R₃.step X₄ S₃.low.2
  refine callWith_K0 (T.mb.hd.In S₄) T.mb.kp (wpAny_mono (make_book (n := m + 2) gb T.mb rm' S₄) (fun u s₅ hq_ => ?_) fun _ _ e => e)
  obtain ⟨α₅, x, dx, od, l, hux, X₅, S₅, hl, hx, hdx, hxα, hdα, hx0, hdx0, hod, hxs, hdxs⟩ := hq_
  subst hux
  have R₅ := R₄.step X₅ S₄.low.2
  have hown : ∀ a ∈ own env, a < s₄.heap.objs.size := fun a ha => R₄.lt ha
  have S₆ : Sto (V.re [(x, instObj C dx), (dx, od)] x 1 (some l)) α₅ ([[SV.str "any run"]] ++ [[]]) s₅ := S₅.re (by
    intro p hp
    simp at hp
    rcases hp with rfl | rfl
    · exact ⟨hx, hxα, hx0⟩
    · exact ⟨hdx, hdα, hdx0⟩) (.inr (by
    intro xs hxs
    simp at hxs
    rcases hxs with rfl | rfl <;> rfl)) (by
    intro b hb
    cases hb
    exact hl)
  have R₆ : Var (V.re [(x, instObj C dx), (dx, od)] x 1 (some l)) lawKs fd0.code env [("script", .lst (script.map .int)), ("star", .obj 0)] α₅ s₅ := R₅.re (by
    intro b hb p hp
    have := hown b hb
    simp at hp
    rcases hp with rfl | rfl
    · exact fun e => Nat.lt_irrefl _ (Nat.lt_of_lt_of_le this (e ▸ hxs))
    · exact fun e => Nat.lt_irrefl _ (Nat.lt_of_lt_of_le this (e ▸ hdxs))) (by
    intro p hp
    simp at hp
    rcases hp with rfl | rfl
    · have : ∀ l : List Int, nbs (l.map .int) = true := fun l => by
        induction l with
        | nil => rfl
        | cons i l ih => show (true && nbs (l.map .int)) = true; rw [ih]; rfl
      exact this script
    · rfl)
  have bk : Bk (V.re [(x, instObj C dx), (dx, od)] x 1 (some l)) K C dx od l := ⟨T.mb.hd.re, List.mem_cons_self, List.mem_cons_of_mem _ List.mem_cons_self, hod, T.fo od l hod, rfl⟩
  have bp : Bp (V.re [(x, instObj C dx), (dx, od)] x 1 (some l)) K C dx l od fc fg fd fs fa fe fi := ⟨bk, T.cv.re, T.hc.re, T.hg.re, T.hd.re, T.hs.re, T.ha.re, T.he.re, T.hi.re, T.ds.re, T.sy⟩
  refine wpAny_mono ((SnOK.lcl (V := V.re [(x, instObj C dx), (dx, od)] x 1 (some l)) (G := ⟨m + 5, lawKs, fd0.code⟩) (v := .book) (by kernel_rfl)).out (A.deeper env) env _ α₅ s₅ (.ref x) S₆ R₆ .book) (fun _ s₆ hq_ => ?_) fun _ _ e => e
  obtain ⟨α₆, X₆, S₇, R₇⟩ := hq_
  obtain ⟨st', tail⟩ := law_tail (m := m) (cd := fd0.code) (k := 0) (script := script) (st := [[SV.str "any run"]] ++ [[]]) bp T.D.re (by show (0 : Nat) ≠ 1; decide) hz (run_law T.ok script) rfl rfl
  refine wpAny_mono (tail.out _ env α₆ s₆ rm' S₇ R₇) (fun f s₈ hq_ => ?_) fun _ _ e => e
  obtain ⟨α₈, X₈, S₈, R₈, o8⟩ := hq_
  cases o8 with
  | ret u v r =>
    (first | obtain rfl := r.inv | (obtain ⟨_, rfl⟩ := r.inv) | (obtain ⟨_, rfl, _⟩ := r.inv) | cases r)
    exact ⟨rfl, _, _, _, _, _, _, S₈⟩
end
end

section
open PySem.W
theorem any_of {α : Type} {o : Option α} {p : α → Bool} (h : o.any p = true) : ∃ x, o = some x ∧ p x = true := by
  cases o with
  | none => cases h
  | some x => exact ⟨x, rfl, h⟩
noncomputable def asRef : Value → Option Addr | .ref a => some a | _ => none
noncomputable def asStr : Value → Option Str | .str s _ => some s | _ => none
noncomputable def asInt : Value → Option Int | .int i _ => some i | _ => none
noncomputable def asBool : Value → Option Bool | .bool b => some b | _ => none
noncomputable def asTy : Value → Option String | .type t => some t | _ => none
noncomputable def asFn : Data → Option FuncData | .func fd => some fd | _ => none
noncomputable def asFields : Data → Option (Array Value) | .fields vs => some vs | _ => none
noncomputable def asSeq : Data → Option (Array Value) | .seq vs _ => some vs | _ => none
noncomputable def asDict : Data → Option (Array DictEntry) | .dict es _ => some es | _ => none
theorem asRef_of {v : Value} {a : Addr} (h : asRef v = some a) : v = .ref a := by cases v <;> first | (cases h; rfl) | cases h
theorem asStr_of {v : Value} {a : Str} (h : asStr v = some a) : ∃ t, v = .str a t := by cases v <;> first | (cases h; exact ⟨_, rfl⟩) | cases h
theorem asInt_of {v : Value} {a : Int} (h : asInt v = some a) : ∃ t, v = .int a t := by cases v <;> first | (cases h; exact ⟨_, rfl⟩) | cases h
theorem asBool_of {v : Value} {a : Bool} (h : asBool v = some a) : v = .bool a := by cases v <;> first | (cases h; rfl) | cases h
theorem asTy_of {v : Value} {a : String} (h : asTy v = some a) : v = .type a := by cases v <;> first | (cases h; rfl) | cases h
theorem asFn_of {d : Data} {a : FuncData} (h : asFn d = some a) : d = .func a := by cases d <;> first | (cases h; rfl) | cases h
theorem asFields_of {d : Data} {a : Array Value} (h : asFields d = some a) : d = .fields a := by cases d <;> first | (cases h; rfl) | cases h
theorem asSeq_of {d : Data} {a : Array Value} (h : asSeq d = some a) : ∃ n, d = .seq a n := by cases d <;> first | (cases h; exact ⟨_, rfl⟩) | cases h
theorem asDict_of {d : Data} {a : Array DictEntry} (h : asDict d = some a) : ∃ n, d = .dict a n := by cases d <;> first | (cases h; exact ⟨_, rfl⟩) | cases h
theorem ty_of {v : Value} {x : String} (h : (asTy v).any (· == x) = true) : v = .type x := by
  obtain ⟨t, h1, h2⟩ := any_of h
  rw [asTy_of h1, eq_of_beq h2]
theorem ref_of {v : Value} {x : Addr} (h : (asRef v).any (· == x) = true) : v = .ref x := by
  obtain ⟨t, h1, h2⟩ := any_of h
  rw [asRef_of h1, eq_of_beq h2]
noncomputable def fnIn (K : Frag) (a : Addr) : Option FuncData := (K.lookup a).bind fun o => asFn o.data
noncomputable def recIn (K : Frag) (cd : Value) (q : Str) : Bool := (asRef cd).any fun c => (K.lookup c).any fun o => (asFields o.data).any fun vs => (vs[1]?).any fun v => (asStr v).any (· == q)
noncomputable def codeNe (P : Addr) (cd : Value) : Bool := match asRef cd with
  | some c => c != P
  | none => true
noncomputable def isFun : ScopeKind → Bool | .function => true | _ => false
theorem isFun_of {k : ScopeKind} (h : isFun k = true) : k = .function := by cases k <;> first | rfl | cases h
noncomputable def fnOk (K : Frag) (P a : Addr) (fd : FuncData) : Bool := a != P && (recIn K fd.code fd.qualname && (codeNe P fd.code && (fd.globals == mainGlobals && (fd.builtins == builtinsNs && (fd.closure.isEmpty && (!fd.scope.isCoroutine && (!fd.scope.isGenerator && isFun fd.scope.kind)))))))

noncomputable abbrev cut (K : Frag) (P : Addr) : Frag := K.filter fun p => p.1 != P
theorem cut_lookup {P a : Addr} {o : Obj} : ∀ {K : Frag}, (cut K P).lookup a = some o → K.lookup a = some o ∧ a ≠ P
  | [], h => by cases h
  | (b, x) :: K, h => by
    by_cases hb : b = P
    · subst hb
      rw [cut, List.filter_cons_of_neg (by simp)] at h
      obtain ⟨h1, h2⟩ := cut_lookup (K := K) h
      refine ⟨?_, h2⟩
      rw [List.lookup_cons, show (a == b) = false by simpa using h2]
      exact h1
    · rw [cut, List.filter_cons_of_pos (by simpa using hb), List.lookup_cons] at h
      rw [List.lookup_cons]
      cases hc : a == b with
      | true =>
        rw [hc] at h
        have : a = b := eq_of_beq hc
        subst this
        exact ⟨h, hb⟩
      | false =>
        rw [hc] at h
        exact cut_lookup (K := K) h
theorem cut_none {P : Addr} : ∀ {K : Frag}, (cut K P).lookup P = none
  | [] => rfl
  | (b, x) :: K => by
    by_cases hb : b = P
    · subst hb
      rw [cut, List.filter_cons_of_neg (by simp)]
      exact cut_none (K := K)
    · rw [cut, List.filter_cons_of_pos (by simpa using hb), List.lookup_cons, show (P == b) = false by simpa using Ne.symm hb]
      exact cut_none (K := K)
theorem cut_in {K : Frag} {P : Addr} {h : Heap} (X : K.In h) : (cut K P).In h := fun a o e => X a o (cut_lookup e).1
section
variable {V : Cx} {K : Frag} {a : Addr} {fd : FuncData} {names : List Str} {body : List Stmt} {scope : Scope}
theorem fnAt_of (X : K.In V.h₀) (h : fnIn K a = some fd) (hk : fnOk K V.P a fd = true) : ∃ o, FnAt V fd a o ∧ ∀ c, fd.code = .ref c → c ≠ V.P := by
  obtain ⟨o, ho, h⟩ := Option.bind_eq_some_iff.mp h
  unfold fnOk at hk
  simp only [Bool.and_eq_true, bne_iff_ne, beq_iff_eq, Bool.not_eq_true'] at hk
  obtain ⟨h1, h2, h3, h4, h5, h6, h7, h8, h9⟩ := hk
  refine ⟨o, ⟨X _ _ ho, asFn_of h, ?_, h1, h4, h5, List.isEmpty_iff.mp h6, h7, h8, isFun_of h9⟩, fun c hc => ?_⟩
  · obtain ⟨c, c1, h2⟩ := any_of h2
    obtain ⟨o2, o1, h2⟩ := any_of h2
    obtain ⟨vs, v1, h2⟩ := any_of h2
    obtain ⟨v, w1, h2⟩ := any_of h2
    obtain ⟨q', q1, h2⟩ := any_of h2
    obtain ⟨t, e⟩ := asStr_of q1
    exact ⟨c, _, vs, t, asRef_of c1, X _ _ o1, asFields_of v1, by rw [w1, e, eq_of_beq h2]⟩
  · rw [hc] at h3
    exact bne_iff_ne.mp (h3 : (c != V.P) = true)
theorem fn_of (X : K.In V.h₀) (h : fnIn K a = some fd) (hk : fnOk K V.P a fd = true) (hb : fd.body = .stmts body) (hs : fd.scope = scope) (hbind : ∀ us : List Value, us.length = names.length → bindArgs fd ⟨us, []⟩ = pure (names.zip us)) : Fn V a names body scope := by
  obtain ⟨o, Fa, hc⟩ := fnAt_of X h hk
  exact ⟨⟨fd, o, Fa, hc, hb, hs, hbind⟩⟩
theorem def_of {x : Str} (X : K.In V.h₀) (G : V.h₀.Ns mainGlobals V.mg) (hn : nsIn K mainGlobals x = some (some (.ref a))) (h : fnIn K a = some fd) (hk : fnOk K V.P a fd = true) (hb : fd.body = .stmts body) (hs : fd.scope = scope) (hbind : ∀ us : List Value, us.length = names.length → bindArgs fd ⟨us, []⟩ = pure (names.zip us)) : IsDef V x names body scope :=
  ⟨a, mg_of X G hn, fn_of X h hk hb hs hbind⟩
theorem meth_of {C : Addr} {name : Str} {B : FuncData → Prop} (X : K.In V.h₀) (hn : findIn K (.ref C) name = some (some (.ref a))) (ht : typeIn K (.ref a) = some (.type "function")) (hne : (name == ("_headers" : Str)) = false) (h : fnIn K a = some fd) (hk : fnOk K V.P a fd = true) (hb : fd.body = .stmts body) (hs : fd.scope = scope) (hB : B fd) : IsM V K C name a body scope B := by
  obtain ⟨o, Fa, hc⟩ := fnAt_of X h hk
  exact ⟨hn, ht, by simpa using hne, fd, o, Fa, hc, hb, hs, hB⟩
theorem bindN_of (hbind : ∀ us : List Value, us.length = names.length → bindArgs fd ⟨us, []⟩ = pure (names.zip us)) : BindN V names fd := by
  intro us hl M A E s Q _ hq
  rw [hbind us hl]
  exact wpAny_pure hq
theorem bindD_of {d : Str} (X : K.In V.h₀) (XP : K.lookup V.P = none) (hbind : ∀ us : List Value, us.length = names.length → ∀ S, peek K S (bindArgs fd ⟨us, []⟩) = some (names.zip us ++ [(d, .none)])) : BindD V names d fd := by
  intro us hl M A E s Q hh hq
  have Xs : K.In s.heap := fun b o e => hh b o (X b o e) (by rintro rfl; rw [XP] at e; cases e)
  exact kp_binds Xs (hbind us hl) M A E Q hq
theorem bindKw_of (hbind : ∀ u v w : Value, bindArgs fd ⟨[u, v, w], []⟩ = (alloc { cls := .type "dict", data := .dict #[] } >>= fun d => pure [(("self" : Str), u), ("_name", v), ("_value", w), ("_params", .ref d)])) : BindKw V fd := by
  intro u v w M A E s Q hh hq
  rw [hbind u v w]
  exact wpAny_bind (wpAny_alloc (wpAny_pure hq))
noncomputable def patIn (K : Frag) (P a : Addr) (code : Array Nat) : Bool := (K.lookup a).any fun o => (asTy o.cls).any (· == "re.Pattern") && (o.dict.isNone && (a != P && ((asFields o.data).any fun fs => (Builtin.Re.reRawNat (fs.getD 6 .none) == 0) && ((asRef (fs.getD 5 .none)).any fun c => c != P && ((K.lookup c).any fun oc => (asSeq oc.data).any fun ws => (ws.map Builtin.Re.reRawOf).map (·.toNat) == code)))))
theorem pat_of {x : Str} {code : Array Nat} (X : K.In V.h₀) (G : V.h₀.Ns mainGlobals V.mg) (hn : nsIn K mainGlobals x = some (some (.ref a))) (h : patIn K V.P a code = true) : IsPat V x code := by
  obtain ⟨o, ho, h⟩ := any_of h
  obtain ⟨h1, h⟩ := Bool.and_eq_true_iff.mp h
  obtain ⟨h2, h⟩ := Bool.and_eq_true_iff.mp h
  obtain ⟨h3, h⟩ := Bool.and_eq_true_iff.mp h
  obtain ⟨fs, f1, h⟩ := any_of h
  obtain ⟨h4, h⟩ := Bool.and_eq_true_iff.mp h
  obtain ⟨c, c1, h⟩ := any_of h
  obtain ⟨h5, h⟩ := Bool.and_eq_true_iff.mp h
  obtain ⟨oc, o1, h⟩ := any_of h
  obtain ⟨ws, w1, h⟩ := any_of h
  obtain ⟨k, w2⟩ := asSeq_of w1
  exact ⟨a, o, fs, c, oc, ws, k, mg_of X G hn, X _ _ ho, bne_iff_ne.mp h3, ty_of h1, Option.isNone_iff_eq_none.mp h2, asFields_of f1, asRef_of c1, eq_of_beq h4, X _ _ o1, bne_iff_ne.mp h5, w2, eq_of_beq h⟩
noncomputable def tabIn (K : Frag) (a : Addr) : Option (Array DictEntry) := (K.lookup a).bind fun o => (asDict o.data).bind fun es => if ((asTy o.cls).any (· == "dict") && (o.dict.isNone && (o.slots.isEmpty && es.all fun e => (asInt e.key).any fun i => e.hash == hashInt i))) = true then some es else none
theorem tab_of {x : Str} {es : Array DictEntry} (X : K.In V.h₀) (G : V.h₀.Ns mainGlobals V.mg) (hn : nsIn K mainGlobals x = some (some (.ref a))) (h : tabIn K a = some es) (hP : (a == V.P) = false) (hs : (a == sysModules) = false) : IsTab V x (fun k => findBy Value.isInt es k) := by
  obtain ⟨o, ho, h⟩ := Option.bind_eq_some_iff.mp h
  obtain ⟨es', e1, h⟩ := Option.bind_eq_some_iff.mp h
  obtain ⟨n, e2⟩ := asDict_of e1
  by_cases hc : ((asTy o.cls).any (· == "dict") && (o.dict.isNone && (o.slots.isEmpty && es'.all fun e => (asInt e.key).any fun i => e.hash == hashInt i))) = true
  · rw [if_pos hc] at h
    cases h
    obtain ⟨h1, hc⟩ := Bool.and_eq_true_iff.mp hc
    obtain ⟨h2, hc⟩ := Bool.and_eq_true_iff.mp hc
    obtain ⟨h3, h4⟩ := Bool.and_eq_true_iff.mp hc
    refine ⟨a, mg_of X G hn, ⟨o, es, n, X _ _ ho, ⟨ty_of h1, Option.isNone_iff_eq_none.mp h2, by simpa using h3⟩, e2, ?_, fun _ => rfl⟩, by simpa using hP, hs⟩
    intro e he
    obtain ⟨i, i1, i2⟩ := any_of (Array.all_eq_true'.mp h4 e he)
    obtain ⟨t, hk⟩ := asInt_of i1
    refine ⟨i, ?_, eq_of_beq i2⟩
    rw [hk]
    show Value.isInt i (.int i t) = true
    simp [Value.isInt]
  · rw [if_neg hc] at h
    cases h
noncomputable def codeIn (K : Frag) (c P : Addr) : Bool := (K.lookup c).any fun o => (asTy o.cls).any (· == "code") && ((asFields o.data).any fun vs => ((vs[11]?).any fun v => (asRef v).any (· == P)) && ((asRef (vs.getD 11 .none)).any (· == P) && ((asStr (vs.getD 18 .none)).any (fun _ => true) && ((asInt (vs.getD 7 .none)).any (fun _ => true) && ((asBool (vs.getD 9 .none)).any (fun _ => true) && ((asInt (vs.getD 10 .none)).any (fun _ => true) && (c != P)))))))
theorem code_of {h : Heap} {c P : Addr} (X : K.In h) (hP : K.lookup P = some { cls := .none, data := .fields #[] }) (hc : codeIn K c P = true) : h.TableAt c P #[] ∧ h.IsCode c P #[] := by
  obtain ⟨o, ho, hc⟩ := any_of hc
  obtain ⟨h1, hc⟩ := Bool.and_eq_true_iff.mp hc
  obtain ⟨vs, v1, hc⟩ := any_of hc
  obtain ⟨h2, hc⟩ := Bool.and_eq_true_iff.mp hc
  obtain ⟨h3, hc⟩ := Bool.and_eq_true_iff.mp hc
  obtain ⟨h4, hc⟩ := Bool.and_eq_true_iff.mp hc
  obtain ⟨h5, hc⟩ := Bool.and_eq_true_iff.mp hc
  obtain ⟨h6, hc⟩ := Bool.and_eq_true_iff.mp hc
  obtain ⟨h7, h8⟩ := Bool.and_eq_true_iff.mp hc
  obtain ⟨v, e2, h2⟩ := any_of h2
  obtain ⟨f, f1, _⟩ := any_of h4
  obtain ⟨tf, f2⟩ := asStr_of f1
  obtain ⟨i, i1, _⟩ := any_of h5
  obtain ⟨ti, i2⟩ := asInt_of i1
  obtain ⟨b, b1, _⟩ := any_of h6
  obtain ⟨j, j1, _⟩ := any_of h7
  obtain ⟨tj, j2⟩ := asInt_of j1
  have hd := asFields_of v1
  exact ⟨⟨⟨o, vs, X _ _ ho, ty_of h1, hd, by rw [e2, ref_of h2]⟩, X _ _ hP⟩, ⟨o, vs, f, tf, i, ti, b, j, tj, _, X _ _ ho, hd, ref_of h3, f2, i2, asBool_of b1, j2, X _ _ hP, rfl, trivial, bne_iff_ne.mp h8⟩⟩
end
end

section
open PySem.W

structure FnF (K : Frag) (a : Addr) (body : List Stmt) (scope : Scope) : Prop where
  h : (fnIn K a).isSome = true
  ok : fnOk K 207 a ((fnIn K a).get h) = true
  body : ((fnIn K a).get h).body = .stmts body
  sc : ((fnIn K a).get h).scope = scope
structure DefF (K : Frag) (a : Addr) (x : Str) (names : List Str) (body : List Stmt) (scope : Scope) : Prop where
  f : FnF K a body scope
  nm : nsIn K mainGlobals x = some (some (.ref a))
  bd : ∀ us : List Value, us.length = names.length → bindArgs ((fnIn K a).get f.h) ⟨us, []⟩ = pure (names.zip us)
structure MetF (K : Frag) (C a : Addr) (name : Str) (body : List Stmt) (scope : Scope) (B : FuncData → Prop) : Prop where
  f : FnF K a body scope
  fn : findIn K (.ref C) name = some (some (.ref a))
  ty : typeIn K (.ref a) = some (.type "function")
  nh : (name == ("_headers" : Str)) = false
  bd : B ((fnIn K a).get f.h)

noncomputable def BindP (K : Frag) (names : List Str) (d : Str) (fd : FuncData) : Prop := ∀ us : List Value, us.length = names.length → ∀ S, peek K S (bindArgs fd ⟨us, []⟩) = some (names.zip us ++ [(d, .none)])
noncomputable def BindZ (names : List Str) (fd : FuncData) : Prop := ∀ us : List Value, us.length = names.length → bindArgs fd ⟨us, []⟩ = pure (names.zip us)
noncomputable def BindK (fd : FuncData) : Prop := ∀ u v w : Value, bindArgs fd ⟨[u, v, w], []⟩ = (alloc { cls := .type "dict", data := .dict #[] } >>= fun d => pure [(("self" : Str), u), ("_name", v), ("_value", w), ("_params", .ref d)])
structure BiF (K : Frag) (x : Str) : Prop where
  nm : nsIn K mainGlobals x = some none
structure KF (K : Frag) : Prop where
  escape : DefF K 205 "escape" ["pattern"] (pBody top 11) (pScope top 11)
  fspath : DefF K 285 "fspath" ["path"] (pBody top 22) (pScope top 22)
  get_sep : DefF K 299 "_get_sep" ["path"] (pBody top 26) (pScope top 26)
  splitroot : DefF K 313 "splitroot" ["p"] (pBody top 28) (pScope top 28)
  dirname : DefF K 320 "dirname" ["p"] (pBody top 29) (pScope top 29)
  normpath : DefF K 327 "normpath" ["path"] (pBody top 30) (pScope top 30)
  way : DefF K 334 "_law_way" ["n"] (pBody top 32) (pScope top 32)
  names : DefF K 341 "_law_names" ["lead", "row"] (pBody top 33) (pScope top 33)
  either : DefF K 348 "_law_either" ["text"] (pBody top 34) (pScope top 34)
  fits : DefF K 355 "_law_fits" ["part", "sign"] (pBody top 35) (pScope top 35)
  takes : DefF K 360 "_law_takes" ["parts", "star", "text"] (pBody top 36) (pScope top 36)
  store : DefF K 367 "_law_store" ["book", "text", "value"] (pBody top 37) (pScope top 37)
  most : DefF K 374 "_law_first_of_most" ["found"] (pBody top 38) (pScope top 38)
  law : DefF K 379 "law" ["script"] (pBody top 39) (pScope top 39)
  join : FnF K 306 (pBody top 27) (pScope top 27)
  joinN : nsIn K mainGlobals "join" = some (some (.ref 306))
  joinB : BindVar "a" "p" ((fnIn K 306).get join.h)
  trans : DefF K 212 "_translate" ["pat", "STAR", "QUESTION_MARK"] (pBody top 13) (pScope top 13)
  transC : ((fnIn K 212).get trans.f.h).code = .ref 211
  bi : ([("len" : Str), "isinstance", "bytes", "str", "type", "issubclass", "list", "range", "min", "reversed", "enumerate"].all fun x => match nsIn K mainGlobals x with | some none => true | _ => false) = true
  ga : findIn K (.ref 184) "__getattribute__" = some (some (.builtin "object.__getattribute__"))
  gt : findIn K (.ref 184) "__getattr__" = some none
  nq : noSeq K 184 = true
  mks : makesIn K 184 = true
  ini : findIn K (.ref 184) "__init__" = some (some (.ref 76))
  ity : typeIn K (.ref 76) = some (.type "function")
  st : findIn K (.ref 184) "__setattr__" = some (some (.builtin "object.__setattr__"))
  po : plainOver K 184 = true
  tk : takerIn K 184 "_headers" = some none
  hd' : (clsIn K 184).any (·.hasDict) = true
  kp : keepIn K (.ref 184) = true
  init : FnF K 76 (pBody clsBody 0) (pScope clsBody 0)
  initB : BindP K ["self"] "headers" ((fnIn K 76).get init.h)
  conv : MetF K 184 83 "_convert_string_type" (pBody clsBody 1) (pScope clsBody 1) BindConv
  get : MetF K 184 131 "get" (pBody clsBody 8) (pScope clsBody 8) (BindP K ["self", "name"] "default")
  del : MetF K 184 102 "__delitem__" (pBody clsBody 4) (pScope clsBody 4) (BindZ ["self", "name"])
  set : MetF K 184 97 "__setitem__" (pBody clsBody 3) (pScope clsBody 3) (BindZ ["self", "name", "val"])
  items : MetF K 184 148 "items" (pBody clsBody 11) (pScope clsBody 11) (BindZ ["self"])
  setd : MetF K 184 174 "setdefault" (pBody clsBody 15) (pScope clsBody 15) (BindZ ["self", "name", "value"])
  add : MetF K 184 181 "add_header" (pBody clsBody 16) (pScope clsBody 16) BindK
  pn : patIn K 207 48 codeN = true
  pnN : nsIn K mainGlobals "_name_disallowed_re" = some (some (.ref 48))
  pv : patIn K 207 53 codeV = true
  pvN : nsIn K mainGlobals "_value_disallowed_re" = some (some (.ref 53))
  pt : patIn K 207 193 codeT = true
  ptN : nsIn K mainGlobals "_twin_re_1" = some (some (.ref 193))
  tab : (tabIn K 195).isSome = true
  tabN : nsIn K mainGlobals "_special_chars_map" = some (some (.ref 195))
  tabE : (al.all fun c => starry c || esc (fun k => findBy Value.isInt ((tabIn K 195).get tab) k) c == escV c) = true
  tabO : (al.all fun c => match findBy Value.isInt ((tabIn K 195).get tab) ((c : Nat) : Int) with | none => true | some (.str y _) => y.length == 2 | _ => false) = true
  bmN : nsIn K mainGlobals "__builtins__" = some (some (.ref 4))
  cls : nsIn K mainGlobals "Headers" = some (some (.ref 184))
  fo : ∀ (od : Obj) (l : Addr), HdDict od l → findObj K 184 (some od) "_headers" = some (.value (.ref l))
end

section
open PySem.W
section
variable {V : Cx} {K : Frag}
theorem DefF.d {a : Addr} {x : Str} {names : List Str} {body : List Stmt} {scope : Scope} (d : DefF K a x names body scope) (hP : V.P = 207) (X : K.In V.h₀) (G : V.h₀.Ns mainGlobals V.mg) : IsDef V x names body scope :=
  def_of X G d.nm (Option.some_get d.f.h).symm (by rw [hP]; exact d.f.ok) d.f.body d.f.sc d.bd
theorem MetF.m {C a : Addr} {name : Str} {body : List Stmt} {scope : Scope} {B B' : FuncData → Prop} (d : MetF K C a name body scope B) (hP : V.P = 207) (X : K.In V.h₀) (hB : ∀ fd, B fd → B' fd) : IsM V K C name a body scope B' :=
  meth_of X d.fn d.ty d.nh (Option.some_get d.f.h).symm (by rw [hP]; exact d.f.ok) d.f.body d.f.sc (hB _ d.bd)
theorem boot_bi : (([("len" : Str), "isinstance", "issubclass", "min"].all fun x => bootBuiltins x == some (.builtin x.toString)) && ([("bytes" : Str), "str", "type", "list", "range", "reversed", "enumerate"].all fun x => bootBuiltins x == some (.type x.toString))) = true := by decide +kernel
theorem ltop_of (kf : KF K) (hP : V.P = 207) (hc : V.c = 211) (X : K.In V.h₀) (XP : K.lookup V.P = none) (G : V.h₀.Ns mainGlobals V.mg) (GB : V.h₀.Ns builtinsNs V.mb) (hl : V.h₀.NoLimit) (hb : ∀ x : Str, x ≠ "__name__" → V.mb x = bootBuiltins x) (hbm : ∃ bm ob, V.mg "__builtins__" = some (.ref bm) ∧ bm ≠ builtinsNs ∧ V.h₀.get? bm = some ob ∧ ob.cls = .type "module" ∧ ob.dict = some builtinsNs ∧ ob.data = .plain) (hz : 380 < V.h₀.objs.size) :
    LTop V K 184 76 83 131 102 97 181 174 148 (fun k => findBy Value.isInt ((tabIn K 195).get kf.tab) k) 379 := by
  have pg : Pg V := ⟨G, GB, hl, by rw [hP]; decide, by rw [hP]; decide, by rw [hP]; decide⟩
  have nn : ∀ x ∈ [("len" : Str), "isinstance", "bytes", "str", "type", "issubclass", "list", "range", "min", "reversed", "enumerate"], V.mg x = none := by
    intro x hx
    have := List.all_eq_true.mp kf.bi x hx
    refine mg_none_of X G ?_
    split at this
    · assumption
    · cases this
  have gb : Gb V := by
    refine ⟨pg, ⟨nn _ (by simp), ?_⟩, ⟨nn _ (by simp), ?_⟩, ⟨nn _ (by simp), ?_⟩, ⟨nn _ (by simp), ?_⟩, ⟨nn _ (by simp), ?_⟩, ⟨nn _ (by simp), ?_⟩, ⟨nn _ (by simp), ?_⟩, ⟨nn _ (by simp), ?_⟩, ⟨nn _ (by simp), ?_⟩, ⟨nn _ (by simp), ?_⟩, ⟨nn _ (by simp), ?_⟩⟩
    all_goals (rw [hb _ (by decide +kernel)]; kernel_rfl!)
  have es : IsDef V "escape" ["pattern"] (pBody top 11) (pScope top 11) := kf.escape.d hP X G
  have bm4 : V.mg "__builtins__" = some (.ref 4) := mg_of X G kf.bmN
  have lm : Lm V := by
    obtain ⟨bm, ob, h1, h2, h3, h4, h5, h6⟩ := hbm
    refine ⟨bm, ob, h1, h2, ?_, h3, h4, h5, h6⟩
    rw [bm4] at h1
    cases h1
    rw [hP]; decide
  have pt : IsPat V "_twin_re_1" codeT := pat_of X G kf.ptN (by rw [hP]; exact kf.pt)
  have tb : IsTab V "_special_chars_map" (fun k => findBy Value.isInt ((tabIn K 195).get kf.tab) k) := tab_of X G kf.tabN (Option.some_get kf.tab).symm (by rw [hP]; decide) (by decide)
  have tr : Tr V (fun k => findBy Value.isInt ((tabIn K 195).get kf.tab) k) := ⟨gb, es, tb, pt, lm⟩
  have cv : Cv V := ⟨gb, pat_of X G kf.pnN (by rw [hP]; exact kf.pn), pat_of X G kf.pvN (by rw [hP]; exact kf.pv)⟩
  have dt : D_translate V := by
    obtain ⟨o, Fa, hcd⟩ := fnAt_of (V := V) X (Option.some_get kf.trans.f.h).symm (by rw [hP]; exact kf.trans.f.ok)
    exact ⟨212, _, o, mg_of X G kf.trans.nm, Fa, by rw [hc]; exact kf.transC, by rw [hc, hP]; decide, kf.trans.f.body, kf.trans.f.sc, kf.trans.bd⟩
  have dj : D_join V := by
    obtain ⟨o, Fa, hcd⟩ := fnAt_of (V := V) X (Option.some_get kf.join.h).symm (by rw [hP]; exact kf.join.ok)
    exact ⟨306, _, o, mg_of X G kf.joinN, Fa, hcd, kf.join.body, kf.join.sc, kf.joinB⟩
  have hd : Hd V K 184 := ⟨X, XP, kf.ga, kf.gt, kf.nq⟩
  have mk : Mk V K 184 76 := by
    obtain ⟨o, Fa, hcd⟩ := fnAt_of (V := V) X (Option.some_get kf.init.h).symm (by rw [hP]; exact kf.init.ok)
    exact ⟨hd, kf.mks, kf.ini, kf.ity, kf.st, kf.po, kf.tk, kf.hd', kf.kp, _, o, Fa, hcd, kf.init.body, kf.init.sc, bindD_of X XP kf.initB⟩
  refine ⟨⟨tr, dt, kf.either.d hP X G, dj, kf.fspath.d hP X G, kf.get_sep.d hP X G, kf.dirname.d hP X G, kf.normpath.d hP X G, kf.splitroot.d hP X G, kf.names.d hP X G, kf.way.d hP X G, kf.takes.d hP X G, kf.fits.d hP X G, kf.most.d hP X G⟩, cv, mk,
    kf.conv.m hP X fun _ h => h, kf.get.m hP X fun _ h => bindD_of X XP h, kf.del.m hP X fun _ h => bindN_of h, kf.set.m hP X fun _ h => bindN_of h, kf.add.m hP X fun _ h => bindKw_of h, kf.setd.m hP X fun _ h => bindN_of h, kf.items.m hP X fun _ h => bindN_of h, kf.store.d hP X G, Nat.lt_trans (by decide) hz, kf.fo, mg_of X G kf.cls, ?_, ?_⟩
  · exact fn_of X (Option.some_get kf.law.f.h).symm (by rw [hP]; exact kf.law.f.ok) kf.law.f.body kf.law.f.sc kf.law.bd
  · refine ⟨fun c hc hs => ?_, fun c hc => ?_⟩
    · have := List.all_eq_true.mp kf.tabE c hc
      rw [hs, Bool.false_or, beq_iff_eq] at this
      exact this
    · have := List.all_eq_true.mp kf.tabO c hc
      split at this
      · rename_i h; exact .inl h
      · rename_i y t h; exact .inr ⟨y, t, h, eq_of_beq this⟩
      · cases this
end
theorem ints_repsJ {V : Cx} {h : Heap} {α : List Addr} {vs : List Value} {ns : List Int} (r : IntsAre vs ns) : Reps V h α vs (ns.map .int) := by
  induction r with
  | nil => exact .nil
  | cons n t r ih => exact .cons _ _ _ _ (.int n t) ih
theorem join_law {K : Frag} {p : Program} {loose : List Str} {mean : ExcName → Option Value} {mg mb : Str → Option Value} {prog : Program} {w : World} {s₁ : Shared} {script : List Int} {vs : List Value} (kf : KF (cut K 207)) (hP : K.lookup 207 = some { cls := .none, data := .fields #[] }) (hc : codeIn K 211 207 = true) (KX : K.In s₁.heap)
    (T : Top p loose mean mg mb s₁.heap) (hg : s₁.gens = #[]) (hsz : s₁.heap.objs.size = 380 + 1) (hI : IntsAre vs script) (ho : s₁.heap.get? 380 = some { cls := .type "list", data := .seq vs.toArray }) (hz : script.length ≤ 63) :
    wpAny (model prog w) callerA (call (.ref 379) [.ref 380]) (fun v s' => v = .bool true ∧ OldK s₁.heap s'.heap ∧ s'.os = s₁.os ∧ s'.gens = #[]) NoE s₁ := by
  let V : Cx := { prog := prog, w := w, h₀ := s₁.heap, mg := mg, mb := mb, os := s₁.os, fixed := [], bk := 0, bi := 1, c := 211, P := 207, ps := #[], hl := none }
  obtain ⟨c1, c2⟩ := code_of KX hP hc
  have L : LTop V (cut K 207) 184 76 83 131 102 97 181 174 148 (fun k => findBy Value.isInt ((tabIn (cut K 207) 195).get kf.tab) k) 379 :=
    ltop_of (V := V) kf rfl rfl (cut_in KX) cut_none T.g T.b T.nolimit T.builtins T.bmain (by show 380 < s₁.heap.objs.size; omega)
  have S : Sto V [] [] s₁ := ⟨fun _ _ e _ => e, ⟨#[], c1, c2⟩, ⟨by show 211 < s₁.heap.objs.size; omega, by show 207 < s₁.heap.objs.size; omega⟩, Nat.le_refl _, rfl, hg, rfl, .nil, by simp, (by intro p hp; cases hp), (by intro i xs e; simp at e), (by intro a e; cases e)⟩
  have rm : Rm callerA (10 + 6) := ⟨rfl, by show 1 + claimMargin + 16 ≤ 900; decide, by show 4 + 160 ≤ 9000; decide⟩
  refine wpAny_mono (law_call (m := 10) L rfl rfl rm S hz (.lst 380 vs _ ⟨0, ho⟩ (by simp) (by show (380 : Nat) ≠ 207; decide) (ints_repsJ hI))) (fun v s' ⟨hv, F, b, i, L', α, st, S'⟩ => ⟨hv, ?_, S'.os, S'.gens⟩) fun _ _ e => e
  obtain ⟨more, m1, m2⟩ := S'.tab
  refine ⟨fun b o e => ?_, fun b o e => ?_⟩
  · by_cases hb : b = 207
    · subst hb
      have e₀ : o = { cls := .none, data := .fields #[] } := Option.some.inj (e.symm.trans c1.2)
      subst e₀
      exact .inr (.inl ⟨c1.isCodeTable, rfl, #[], more, rfl, m1.2⟩)
    · exact .inl (S'.old b o e hb)
  · by_cases hb : b = 207
    · subst hb; exact ⟨_, m1.2⟩
    · exact ⟨o, S'.old b o e hb⟩
end

section
open PySem.W
noncomputable def oFn (K : Frag) (a : Addr) := (fnIn K a).map fun fd => (fnOk K 207 a fd, fd.body, fd.scope)
noncomputable def oB1 (K : Frag) (a : Addr) := (fnIn K a).map fun fd => fun (u : Value) => bindArgs fd ⟨[u], []⟩
noncomputable def oB2 (K : Frag) (a : Addr) := (fnIn K a).map fun fd => fun (u v : Value) => bindArgs fd ⟨[u, v], []⟩
noncomputable def oB3 (K : Frag) (a : Addr) := (fnIn K a).map fun fd => fun (u v w : Value) => bindArgs fd ⟨[u, v, w], []⟩
noncomputable def oP1 (K : Frag) (a : Addr) := (fnIn K a).map fun fd => fun (u : Value) (S : Setting) => peek K S (bindArgs fd ⟨[u], []⟩)
noncomputable def oP2 (K : Frag) (a : Addr) := (fnIn K a).map fun fd => fun (u v : Value) (S : Setting) => peek K S (bindArgs fd ⟨[u, v], []⟩)
noncomputable def oC (K : Frag) (a : Addr) := (fnIn K a).map fun fd => fun (u v w : Value) => bindArgs fd ⟨[u, v], [(("name" : Str), w)]⟩
section
variable {K : Frag} {a : Addr} {fd : FuncData} {m n o d : Str} {body : List Stmt} {scope : Scope}
theorem getB {β : Type} {F : FuncData → β} {v : β} (h : (fnIn K a).map F = some v) (hs : (fnIn K a).isSome = true) : F ((fnIn K a).get hs) = v := by
  obtain ⟨fd, hf, e⟩ := Option.map_eq_some_iff.mp h
  have g : (fnIn K a).get hs = fd := by simp only [hf, Option.get_some]
  rw [g]; exact e
theorem FnF.of (h : oFn K a = some (true, .stmts body, scope)) : FnF K a body scope := by
  have hs : (fnIn K a).isSome = true := by
    obtain ⟨fd, hf, e⟩ := Option.map_eq_some_iff.mp h
    rw [hf]; rfl
  have e := getB h hs
  obtain ⟨e1, e⟩ := Prod.mk.inj e
  obtain ⟨e2, e3⟩ := Prod.mk.inj e
  exact ⟨hs, e1, e2, e3⟩
theorem len2 {us : List Value} (h : us.length = 2) : ∃ u v, us = [u, v] := by
  cases us with
  | nil => cases h
  | cons u us =>
    obtain ⟨v, rfl⟩ := List.length_eq_one_iff.mp (Nat.succ.inj h)
    exact ⟨u, v, rfl⟩
theorem len3 {us : List Value} (h : us.length = 3) : ∃ u v w, us = [u, v, w] := by
  cases us with
  | nil => cases h
  | cons u us =>
    obtain ⟨v, w, rfl⟩ := len2 (Nat.succ.inj h)
    exact ⟨u, v, w, rfl⟩
theorem z1 (h : (fun (u : Value) => bindArgs fd ⟨[u], []⟩) = fun u => pure [(m, u)]) : BindZ [m] fd := by
  intro us hl; obtain ⟨u, rfl⟩ := List.length_eq_one_iff.mp hl; exact congrFun h u
theorem z2 (h : (fun (u v : Value) => bindArgs fd ⟨[u, v], []⟩) = fun u v => pure [(m, u), (n, v)]) : BindZ [m, n] fd := by
  intro us hl; obtain ⟨u, v, rfl⟩ := len2 hl; exact congrFun (congrFun h u) v
theorem z3 (h : (fun (u v w : Value) => bindArgs fd ⟨[u, v, w], []⟩) = fun u v w => pure [(m, u), (n, v), (o, w)]) : BindZ [m, n, o] fd := by
  intro us hl; obtain ⟨u, v, w, rfl⟩ := len3 hl; exact congrFun (congrFun (congrFun h u) v) w
theorem p1 (h : (fun (u : Value) (S : Setting) => peek K S (bindArgs fd ⟨[u], []⟩)) = fun u _ => some [(m, u), (d, .none)]) : BindP K [m] d fd := by
  intro us hl S; obtain ⟨u, rfl⟩ := List.length_eq_one_iff.mp hl; exact congrFun (congrFun h u) S
theorem p2 (h : (fun (u v : Value) (S : Setting) => peek K S (bindArgs fd ⟨[u, v], []⟩)) = fun u v _ => some [(m, u), (n, v), (d, .none)]) : BindP K [m, n] d fd := by
  intro us hl S; obtain ⟨u, v, rfl⟩ := len2 hl; exact congrFun (congrFun (congrFun h u) v) S
theorem tabF {β γ : Type} {F : Array DictEntry → β × γ} {x : β} {y : γ} (h : (tabIn K 195).map F = some (x, y)) : ∃ hs : (tabIn K 195).isSome = true, (F ((tabIn K 195).get hs)).1 = x ∧ (F ((tabIn K 195).get hs)).2 = y := by
  obtain ⟨es, hf, e⟩ := Option.map_eq_some_iff.mp h
  have hs : (tabIn K 195).isSome = true := by rw [hf]; rfl
  have g : (tabIn K 195).get hs = es := by simp only [hf, Option.get_some]
  exact ⟨hs, by rw [g, e], by rw [g, e]⟩
end
noncomputable def obs0 (K : Frag) := ((oFn K 205), (nsIn K mainGlobals "escape"), (oB1 K 205), (oFn K 285), (nsIn K mainGlobals "fspath"), (oB1 K 285), (oFn K 299), (nsIn K mainGlobals "_get_sep"))
noncomputable def obs1 (K : Frag) := ((oB1 K 299), (oFn K 313), (nsIn K mainGlobals "splitroot"), (oB1 K 313), (oFn K 320), (nsIn K mainGlobals "dirname"), (oB1 K 320), (oFn K 327))
noncomputable def obs2 (K : Frag) := ((nsIn K mainGlobals "normpath"), (oB1 K 327), (oFn K 334), (nsIn K mainGlobals "_law_way"), (oB1 K 334), (oFn K 341), (nsIn K mainGlobals "_law_names"), (oB2 K 341))
noncomputable def obs3 (K : Frag) := ((oFn K 348), (nsIn K mainGlobals "_law_either"), (oB1 K 348), (oFn K 355), (nsIn K mainGlobals "_law_fits"), (oB2 K 355), (oFn K 360), (nsIn K mainGlobals "_law_takes"))
noncomputable def obs4 (K : Frag) := ((oB3 K 360), (oFn K 367), (nsIn K mainGlobals "_law_store"), (oB3 K 367), (oFn K 374), (nsIn K mainGlobals "_law_first_of_most"), (oB1 K 374), (oFn K 379))
noncomputable def obs5 (K : Frag) := ((nsIn K mainGlobals "law"), (oB1 K 379), (oFn K 212), (nsIn K mainGlobals "_translate"), (oB3 K 212), (oFn K 306), (nsIn K mainGlobals "join"), (oB2 K 306))
noncomputable def obs6 (K : Frag) := (((fnIn K 212).map (·.code)), (([("len" : Str), "isinstance", "bytes", "str", "type", "issubclass", "list", "range", "min", "reversed", "enumerate"].all fun x => match nsIn K mainGlobals x with | some none => true | _ => false)), (findIn K (.ref 184) "__getattribute__"), (findIn K (.ref 184) "__getattr__"), (noSeq K 184), (makesIn K 184), (findIn K (.ref 184) "__init__"), (typeIn K (.ref 76)))
noncomputable def obs7 (K : Frag) := ((findIn K (.ref 184) "__setattr__"), (plainOver K 184), (takerIn K 184 "_headers"), ((clsIn K 184).any (·.hasDict)), (keepIn K (.ref 184)), (oFn K 76), (oP1 K 76), (oFn K 83))
noncomputable def obs8 (K : Frag) := ((findIn K (.ref 184) "_convert_string_type"), (typeIn K (.ref 83)), (oC K 83), (oFn K 131), (findIn K (.ref 184) "get"), (typeIn K (.ref 131)), (oP2 K 131), (oFn K 102))
noncomputable def obs9 (K : Frag) := ((findIn K (.ref 184) "__delitem__"), (typeIn K (.ref 102)), (oB2 K 102), (oFn K 97), (findIn K (.ref 184) "__setitem__"), (typeIn K (.ref 97)), (oB3 K 97), (oFn K 148))
noncomputable def obs10 (K : Frag) := ((findIn K (.ref 184) "items"), (typeIn K (.ref 148)), (oB1 K 148), (oFn K 174), (findIn K (.ref 184) "setdefault"), (typeIn K (.ref 174)), (oB3 K 174), (oFn K 181))
noncomputable def obs11 (K : Frag) := ((findIn K (.ref 184) "add_header"), (typeIn K (.ref 181)), (oB3 K 181), (patIn K 207 48 codeN), (nsIn K mainGlobals "_name_disallowed_re"), (patIn K 207 53 codeV), (nsIn K mainGlobals "_value_disallowed_re"), (patIn K 207 193 codeT))
noncomputable def obs12 (K : Frag) := ((nsIn K mainGlobals "_twin_re_1"), ((tabIn K 195).map fun es => ((al.all fun c => starry c || esc (fun k => findBy Value.isInt es k) c == escV c), (al.all fun c => match findBy Value.isInt es ((c : Nat) : Int) with | none => true | some (.str y _) => y.length == 2 | _ => false))), (nsIn K mainGlobals "_special_chars_map"), (nsIn K mainGlobals "__builtins__"), (nsIn K mainGlobals "Headers"), (fun (c : Value) (d : Option Addr) (sl : Array (Option Value)) (hsh : Int) (t : Tok) (n : Nat) (l : Addr) => findObj K 184 (some ⟨c, d, .dict #[⟨hsh, .str "_headers" t, .ref l⟩] n, sl⟩) "_headers"))
noncomputable def valOf {β : Sort _} (_ : β) (v : β) := v
noncomputable def value0 := valOf (obs0 []) ((some (true, .stmts (pBody top 11), pScope top 11)), (some (some (.ref 205))), (some fun u => pure [(("pattern" : Str), u)]), (some (true, .stmts (pBody top 22), pScope top 22)), (some (some (.ref 285))), (some fun u => pure [(("path" : Str), u)]), (some (true, .stmts (pBody top 26), pScope top 26)), (some (some (.ref 299))))
noncomputable def value1 := valOf (obs1 []) ((some fun u => pure [(("path" : Str), u)]), (some (true, .stmts (pBody top 28), pScope top 28)), (some (some (.ref 313))), (some fun u => pure [(("p" : Str), u)]), (some (true, .stmts (pBody top 29), pScope top 29)), (some (some (.ref 320))), (some fun u => pure [(("p" : Str), u)]), (some (true, .stmts (pBody top 30), pScope top 30)))
noncomputable def value2 := valOf (obs2 []) ((some (some (.ref 327))), (some fun u => pure [(("path" : Str), u)]), (some (true, .stmts (pBody top 32), pScope top 32)), (some (some (.ref 334))), (some fun u => pure [(("n" : Str), u)]), (some (true, .stmts (pBody top 33), pScope top 33)), (some (some (.ref 341))), (some fun u v => pure [(("lead" : Str), u), (("row" : Str), v)]))
noncomputable def value3 := valOf (obs3 []) ((some (true, .stmts (pBody top 34), pScope top 34)), (some (some (.ref 348))), (some fun u => pure [(("text" : Str), u)]), (some (true, .stmts (pBody top 35), pScope top 35)), (some (some (.ref 355))), (some fun u v => pure [(("part" : Str), u), (("sign" : Str), v)]), (some (true, .stmts (pBody top 36), pScope top 36)), (some (some (.ref 360))))
noncomputable def value4 := valOf (obs4 []) ((some fun u v w => pure [(("parts" : Str), u), (("star" : Str), v), (("text" : Str), w)]), (some (true, .stmts (pBody top 37), pScope top 37)), (some (some (.ref 367))), (some fun u v w => pure [(("book" : Str), u), (("text" : Str), v), (("value" : Str), w)]), (some (true, .stmts (pBody top 38), pScope top 38)), (some (some (.ref 374))), (some fun u => pure [(("found" : Str), u)]), (some (true, .stmts (pBody top 39), pScope top 39)))
noncomputable def value5 := valOf (obs5 []) ((some (some (.ref 379))), (some fun u => pure [(("script" : Str), u)]), (some (true, .stmts (pBody top 13), pScope top 13)), (some (some (.ref 212))), (some fun u v w => pure [(("pat" : Str), u), (("STAR" : Str), v), (("QUESTION_MARK" : Str), w)]), (some (true, .stmts (pBody top 27), pScope top 27)), (some (some (.ref 306))), (some fun u v => (newTuple [v] >>= fun t => pure [(("a" : Str), u), ("p", t)])))
noncomputable def value6 := valOf (obs6 []) ((some (.ref 211)), (true), (some (some (.builtin "object.__getattribute__"))), (some none), (true), (true), (some (some (.ref 76))), (some (.type "function")))
noncomputable def value7 := valOf (obs7 []) ((some (some (.builtin "object.__setattr__"))), (true), (some none), (true), (true), (some (true, .stmts (pBody clsBody 0), pScope clsBody 0)), (some fun u _ => some [(("self" : Str), u), ("headers", Value.none)]), (some (true, .stmts (pBody clsBody 1), pScope clsBody 1)))
noncomputable def value8 := valOf (obs8 []) ((some (some (.ref 83))), (some (.type "function")), (some fun u v w => pure [(("self" : Str), u), ("value", v), ("name", w)]), (some (true, .stmts (pBody clsBody 8), pScope clsBody 8)), (some (some (.ref 131))), (some (.type "function")), (some fun u v _ => some [(("self" : Str), u), (("name" : Str), v), ("default", Value.none)]), (some (true, .stmts (pBody clsBody 4), pScope clsBody 4)))
noncomputable def value9 := valOf (obs9 []) ((some (some (.ref 102))), (some (.type "function")), (some fun u v => pure [(("self" : Str), u), (("name" : Str), v)]), (some (true, .stmts (pBody clsBody 3), pScope clsBody 3)), (some (some (.ref 97))), (some (.type "function")), (some fun u v w => pure [(("self" : Str), u), (("name" : Str), v), (("val" : Str), w)]), (some (true, .stmts (pBody clsBody 11), pScope clsBody 11)))
noncomputable def value10 := valOf (obs10 []) ((some (some (.ref 148))), (some (.type "function")), (some fun u => pure [(("self" : Str), u)]), (some (true, .stmts (pBody clsBody 15), pScope clsBody 15)), (some (some (.ref 174))), (some (.type "function")), (some fun u v w => pure [(("self" : Str), u), (("name" : Str), v), (("value" : Str), w)]), (some (true, .stmts (pBody clsBody 16), pScope clsBody 16)))
noncomputable def value11 := valOf (obs11 []) ((some (some (.ref 181))), (some (.type "function")), (some fun u v w => (alloc { cls := .type "dict", data := .dict #[] } >>= fun d => pure [(("self" : Str), u), ("_name", v), ("_value", w), ("_params", .ref d)])), (true), (some (some (.ref 48))), (true), (some (some (.ref 53))), (true))
noncomputable def value12 := valOf (obs12 []) ((some (some (.ref 193))), (some (true, true)), (some (some (.ref 195))), (some (some (.ref 4))), (some (some (.ref 184))), (fun _ _ _ _ _ _ l => some (.value (.ref l))))
theorem kf_of {K : Frag} (y0 : obs0 K = value0) (y1 : obs1 K = value1) (y2 : obs2 K = value2) (y3 : obs3 K = value3) (y4 : obs4 K = value4) (y5 : obs5 K = value5) (y6 : obs6 K = value6) (y7 : obs7 K = value7) (y8 : obs8 K = value8) (y9 : obs9 K = value9) (y10 : obs10 K = value10) (y11 : obs11 K = value11) (y12 : obs12 K = value12) : KF K :=
  {
    escape := ⟨.of (congrArg (fun x => x.1) y0), (congrArg (fun x => x.2.1) y0), z1 (getB (congrArg (fun x => x.2.2.1) y0) (FnF.of (congrArg (fun x => x.1) y0)).h)⟩
    fspath := ⟨.of (congrArg (fun x => x.2.2.2.1) y0), (congrArg (fun x => x.2.2.2.2.1) y0), z1 (getB (congrArg (fun x => x.2.2.2.2.2.1) y0) (FnF.of (congrArg (fun x => x.2.2.2.1) y0)).h)⟩
    get_sep := ⟨.of (congrArg (fun x => x.2.2.2.2.2.2.1) y0), (congrArg (fun x => x.2.2.2.2.2.2.2) y0), z1 (getB (congrArg (fun x => x.1) y1) (FnF.of (congrArg (fun x => x.2.2.2.2.2.2.1) y0)).h)⟩
    splitroot := ⟨.of (congrArg (fun x => x.2.1) y1), (congrArg (fun x => x.2.2.1) y1), z1 (getB (congrArg (fun x => x.2.2.2.1) y1) (FnF.of (congrArg (fun x => x.2.1) y1)).h)⟩
    dirname := ⟨.of (congrArg (fun x => x.2.2.2.2.1) y1), (congrArg (fun x => x.2.2.2.2.2.1) y1), z1 (getB (congrArg (fun x => x.2.2.2.2.2.2.1) y1) (FnF.of (congrArg (fun x => x.2.2.2.2.1) y1)).h)⟩
    normpath := ⟨.of (congrArg (fun x => x.2.2.2.2.2.2.2) y1), (congrArg (fun x => x.1) y2), z1 (getB (congrArg (fun x => x.2.1) y2) (FnF.of (congrArg (fun x => x.2.2.2.2.2.2.2) y1)).h)⟩
    way := ⟨.of (congrArg (fun x => x.2.2.1) y2), (congrArg (fun x => x.2.2.2.1) y2), z1 (getB (congrArg (fun x => x.2.2.2.2.1) y2) (FnF.of (congrArg (fun x => x.2.2.1) y2)).h)⟩
    names := ⟨.of (congrArg (fun x => x.2.2.2.2.2.1) y2), (congrArg (fun x => x.2.2.2.2.2.2.1) y2), z2 (getB (congrArg (fun x => x.2.2.2.2.2.2.2) y2) (FnF.of (congrArg (fun x => x.2.2.2.2.2.1) y2)).h)⟩
    either := ⟨.of (congrArg (fun x => x.1) y3), (congrArg (fun x => x.2.1) y3), z1 (getB (congrArg (fun x => x.2.2.1) y3) (FnF.of (congrArg (fun x => x.1) y3)).h)⟩
    fits := ⟨.of (congrArg (fun x => x.2.2.2.1) y3), (congrArg (fun x => x.2.2.2.2.1) y3), z2 (getB (congrArg (fun x => x.2.2.2.2.2.1) y3) (FnF.of (congrArg (fun x => x.2.2.2.1) y3)).h)⟩
    takes := ⟨.of (congrArg (fun x => x.2.2.2.2.2.2.1) y3), (congrArg (fun x => x.2.2.2.2.2.2.2) y3), z3 (getB (congrArg (fun x => x.1) y4) (FnF.of (congrArg (fun x => x.2.2.2.2.2.2.1) y3)).h)⟩
    store := ⟨.of (congrArg (fun x => x.2.1) y4), (congrArg (fun x => x.2.2.1) y4), z3 (getB (congrArg (fun x => x.2.2.2.1) y4) (FnF.of (congrArg (fun x => x.2.1) y4)).h)⟩
    most := ⟨.of (congrArg (fun x => x.2.2.2.2.1) y4), (congrArg (fun x => x.2.2.2.2.2.1) y4), z1 (getB (congrArg (fun x => x.2.2.2.2.2.2.1) y4) (FnF.of (congrArg (fun x => x.2.2.2.2.1) y4)).h)⟩
    law := ⟨.of (congrArg (fun x => x.2.2.2.2.2.2.2) y4), (congrArg (fun x => x.1) y5), z1 (getB (congrArg (fun x => x.2.1) y5) (FnF.of (congrArg (fun x => x.2.2.2.2.2.2.2) y4)).h)⟩
    trans := ⟨.of (congrArg (fun x => x.2.2.1) y5), (congrArg (fun x => x.2.2.2.1) y5), z3 (getB (congrArg (fun x => x.2.2.2.2.1) y5) (FnF.of (congrArg (fun x => x.2.2.1) y5)).h)⟩
    join := .of (congrArg (fun x => x.2.2.2.2.2.1) y5)
    joinN := (congrArg (fun x => x.2.2.2.2.2.2.1) y5)
    joinB := fun u v => congrFun (congrFun (getB (congrArg (fun x => x.2.2.2.2.2.2.2) y5) (FnF.of (congrArg (fun x => x.2.2.2.2.2.1) y5)).h) u) v
    transC := getB (congrArg (fun x => x.1) y6) (FnF.of (congrArg (fun x => x.2.2.1) y5)).h
    bi := (congrArg (fun x => x.2.1) y6)
    ga := (congrArg (fun x => x.2.2.1) y6)
    gt := (congrArg (fun x => x.2.2.2.1) y6)
    nq := (congrArg (fun x => x.2.2.2.2.1) y6)
    mks := (congrArg (fun x => x.2.2.2.2.2.1) y6)
    ini := (congrArg (fun x => x.2.2.2.2.2.2.1) y6)
    ity := (congrArg (fun x => x.2.2.2.2.2.2.2) y6)
    st := (congrArg (fun x => x.1) y7)
    po := (congrArg (fun x => x.2.1) y7)
    tk := (congrArg (fun x => x.2.2.1) y7)
    hd' := (congrArg (fun x => x.2.2.2.1) y7)
    kp := (congrArg (fun x => x.2.2.2.2.1) y7)
    init := .of (congrArg (fun x => x.2.2.2.2.2.1) y7)
    initB := p1 (getB (congrArg (fun x => x.2.2.2.2.2.2.1) y7) (FnF.of (congrArg (fun x => x.2.2.2.2.2.1) y7)).h)
    conv := ⟨.of (congrArg (fun x => x.2.2.2.2.2.2.2) y7), (congrArg (fun x => x.1) y8), (congrArg (fun x => x.2.1) y8), by decide +kernel, fun u v w => congrFun (congrFun (congrFun (getB (congrArg (fun x => x.2.2.1) y8) (FnF.of (congrArg (fun x => x.2.2.2.2.2.2.2) y7)).h) u) v) w⟩
    get := ⟨.of (congrArg (fun x => x.2.2.2.1) y8), (congrArg (fun x => x.2.2.2.2.1) y8), (congrArg (fun x => x.2.2.2.2.2.1) y8), by decide +kernel, p2 (getB (congrArg (fun x => x.2.2.2.2.2.2.1) y8) (FnF.of (congrArg (fun x => x.2.2.2.1) y8)).h)⟩
    del := ⟨.of (congrArg (fun x => x.2.2.2.2.2.2.2) y8), (congrArg (fun x => x.1) y9), (congrArg (fun x => x.2.1) y9), by decide +kernel, z2 (getB (congrArg (fun x => x.2.2.1) y9) (FnF.of (congrArg (fun x => x.2.2.2.2.2.2.2) y8)).h)⟩
    set := ⟨.of (congrArg (fun x => x.2.2.2.1) y9), (congrArg (fun x => x.2.2.2.2.1) y9), (congrArg (fun x => x.2.2.2.2.2.1) y9), by decide +kernel, z3 (getB (congrArg (fun x => x.2.2.2.2.2.2.1) y9) (FnF.of (congrArg (fun x => x.2.2.2.1) y9)).h)⟩
    items := ⟨.of (congrArg (fun x => x.2.2.2.2.2.2.2) y9), (congrArg (fun x => x.1) y10), (congrArg (fun x => x.2.1) y10), by decide +kernel, z1 (getB (congrArg (fun x => x.2.2.1) y10) (FnF.of (congrArg (fun x => x.2.2.2.2.2.2.2) y9)).h)⟩
    setd := ⟨.of (congrArg (fun x => x.2.2.2.1) y10), (congrArg (fun x => x.2.2.2.2.1) y10), (congrArg (fun x => x.2.2.2.2.2.1) y10), by decide +kernel, z3 (getB (congrArg (fun x => x.2.2.2.2.2.2.1) y10) (FnF.of (congrArg (fun x => x.2.2.2.1) y10)).h)⟩
    add := ⟨.of (congrArg (fun x => x.2.2.2.2.2.2.2) y10), (congrArg (fun x => x.1) y11), (congrArg (fun x => x.2.1) y11), by decide +kernel, fun u v w => congrFun (congrFun (congrFun (getB (congrArg (fun x => x.2.2.1) y11) (FnF.of (congrArg (fun x => x.2.2.2.2.2.2.2) y10)).h) u) v) w⟩
    pn := (congrArg (fun x => x.2.2.2.1) y11)
    pnN := (congrArg (fun x => x.2.2.2.2.1) y11)
    pv := (congrArg (fun x => x.2.2.2.2.2.1) y11)
    pvN := (congrArg (fun x => x.2.2.2.2.2.2.1) y11)
    pt := (congrArg (fun x => x.2.2.2.2.2.2.2) y11)
    ptN := (congrArg (fun x => x.1) y12)
    tab := (tabF (congrArg (fun x => x.2.1) y12)).choose
    tabE := (tabF (congrArg (fun x => x.2.1) y12)).choose_spec.1
    tabO := (tabF (congrArg (fun x => x.2.1) y12)).choose_spec.2
    tabN := (congrArg (fun x => x.2.2.1) y12)
    bmN := (congrArg (fun x => x.2.2.2.1) y12)
    cls := (congrArg (fun x => x.2.2.2.2.1) y12)
    fo := by rintro ⟨c, d, data, sl⟩ l ⟨hsh, t, n, e⟩; cases e; exact congrFun (congrFun (congrFun (congrFun (congrFun (congrFun (congrFun (congrArg (fun x => x.2.2.2.2.2) y12) c) d) sl) hsh) t) n) l
  }

noncomputable def fragA : Nat → List Obj → Frag
  | _, [] => []
  | i, o :: os => match alive o with
    | some o' => (i, o') :: fragA (i + 1) os
    | none => fragA (i + 1) os
theorem fragA_look : ∀ {os : List Obj} {i a : Nat} {o : Obj}, (fragA i os).lookup a = some o → ∃ j x, a = i + j ∧ os[j]? = some x ∧ alive x = some o
  | [], _, _, _, h => by cases h
  | x :: os, i, a, o, h => by
    have next : (fragA (i + 1) os).lookup a = some o → ∃ j y, a = i + j ∧ (x :: os)[j]? = some y ∧ alive y = some o := fun h => by
      obtain ⟨j, y, e1, e2, e3⟩ := fragA_look h
      exact ⟨j + 1, y, by omega, by simpa using e2, e3⟩
    unfold fragA at h
    cases ha : alive x with
    | none => rw [ha] at h; exact next h
    | some x' =>
      rw [ha] at h
      dsimp only at h
      rw [List.lookup_cons] at h
      cases hc : a == i with
      | true => rw [hc] at h; exact ⟨0, x, eq_of_beq hc, rfl, ha.trans h⟩
      | false => rw [hc] at h; exact next h
noncomputable def fragH (h : Heap) : Frag := fragA 0 h.objs.toList
theorem fragH_in (h : Heap) : (fragH h).In h := by
  intro a o e
  obtain ⟨j, x, rfl, e2, e3⟩ := fragA_look e
  rw [Nat.zero_add]
  unfold Heap.get?
  rw [Array.getElem?_toList] at e2
  rw [e2]
  obtain ⟨c, d, dt, sl⟩ := x
  cases dt <;> first | exact e3 | cases e3
noncomputable def obsF (n : Nat) (K₀ K : Frag) := (n, K₀.lookup 207, codeIn K₀ 211 207, obs0 K, obs1 K, obs2 K, obs3 K, obs4 K, obs5 K, obs6 K, obs7 K, obs8 K, obs9 K, obs10 K, obs11 K, obs12 K)
noncomputable def obsS (s : Shared) := obsF s.heap.objs.size (fragH s.heap) (cut (fragH s.heap) 207)
noncomputable def valS := valOf (obsF 0 [] []) (380, some { cls := .none, data := .fields #[] }, true, value0, value1, value2, value3, value4, value5, value6, value7, value8, value9, value10, value11, value12)
theorem facts_of {s : Shared} (y : obsS s = valS) : s.heap.objs.size = 380 ∧ (fragH s.heap).lookup 207 = some { cls := .none, data := .fields #[] } ∧ codeIn (fragH s.heap) 211 207 = true ∧ KF (cut (fragH s.heap) 207) := by
  have y := (y : obsF _ _ _ = _)
  obtain ⟨a, y⟩ := Prod.mk.inj y
  obtain ⟨b, y⟩ := Prod.mk.inj y
  obtain ⟨c, y⟩ := Prod.mk.inj y
  obtain ⟨y0, y⟩ := Prod.mk.inj y
  obtain ⟨y1, y⟩ := Prod.mk.inj y
  obtain ⟨y2, y⟩ := Prod.mk.inj y
  obtain ⟨y3, y⟩ := Prod.mk.inj y
  obtain ⟨y4, y⟩ := Prod.mk.inj y
  obtain ⟨y5, y⟩ := Prod.mk.inj y
  obtain ⟨y6, y⟩ := Prod.mk.inj y
  obtain ⟨y7, y⟩ := Prod.mk.inj y
  obtain ⟨y8, y⟩ := Prod.mk.inj y
  obtain ⟨y9, y⟩ := Prod.mk.inj y
  obtain ⟨y10, y⟩ := Prod.mk.inj y
  obtain ⟨y11, y⟩ := Prod.mk.inj y
  exact ⟨a, b, c, kf_of y0 y1 y2 y3 y4 y5 y6 y7 y8 y9 y10 y11 y⟩
end

section
open PySem.W

noncomputable def layT : List Obj → BT → Nat → Option BT
  | [], t, _ => some t
  | o :: os, t, n => match ((t.ins n o).get n).isSome with
    | true => layT os (t.ins n o) (n + 1)
    | false => none
theorem layT_of : ∀ (os : List Obj) (t t' : BT) (n : Nat) (life : Life), layT os t n = some t' → (absHeap t' (n + os.length) life).objs.toList = (absHeap t n life).objs.toList ++ os
  | [], t, t', n, life, h => by cases h; simp
  | o :: os, t, t', n, life, h => by
    unfold layT at h
    cases g : ((t.ins n o).get n).isSome with
    | false => rw [g] at h; cases h
    | true =>
      rw [g] at h
      have e := layT_of os _ _ _ life h
      rw [List.length_cons, show n + (os.length + 1) = n + 1 + os.length by omega, e, absHeap_ins g]
      simp [Heap.push]
noncomputable def asT (s : Shared) : Option SharedT := (layT s.heap.objs.toList .nil 0).map fun t => ⟨t, s.heap.objs.size, s.heap.life, s.gens, s.drawn, s.toks, s.os⟩
theorem asT_of {s : Shared} {t : SharedT} (h : asT s = some t) : t.abs = s := by
  obtain ⟨⟨⟨os⟩, life⟩, gens, drawn, toks, o⟩ := s
  obtain ⟨b, hb, rfl⟩ := Option.map_eq_some_iff.mp h
  have e := layT_of _ _ _ _ life hb
  have z : (absHeap b os.length life) = ⟨⟨os⟩, life⟩ := by
    show Heap.mk _ _ = _
    congr 1
    apply Array.toList_inj.mp
    rw [Nat.zero_add] at e
    refine e.trans ?_
    rfl
  show (⟨absHeap b os.length life, gens, drawn, toks, o⟩ : Shared) = _
  rw [z]
noncomputable def topRunQ (tb : String → Option Builtin) (p : Program) (w : World) (n₀ : Nat) (ann : Option Value) : Nat → SharedT → Thread → Option SharedT
  | 0, _, _ => none
  | n + 1, s, t => match through t with
    | true => some s
    | false => match Fast.tw6613529449190102663 n₀ ann t with
      | false => none
      | true => match Fast.tw10156331382660048174 (Fast.tw11892475500146522536 tb) p w s t with
        | some (s', t') => topRunQ tb p w n₀ ann n s' t'
        | none => none
theorem topRunQ_of {tb : String → Option Builtin} {p : Program} {w : World} {n₀ : Nat} {ann : Option Value} : ∀ {n : Nat} {s s' : SharedT} {t : Thread}, topRunQ tb p w n₀ ann n s t = some s' → topRun tb p w n₀ ann n s.abs t = some s'.abs
  | 0, _, _, _, h => by cases h
  | n + 1, s, s', t, h => by
    unfold topRunQ at h
    unfold topRun
    rw [← Fast.te6613529449190102663, ← Fast.te10156331382660048174, ← Fast.te11892475500146522536] at h
    cases ht : through t with
    | true => rw [ht] at h; cases h; rfl
    | false =>
      rw [ht] at h
      cases hk : stepOk n₀ ann t with
      | false => rw [hk] at h; cases h
      | true =>
        rw [hk] at h
        cases hs : stepT (denote tb) p w s t with
        | none => rw [hs] at h; cases h
        | some r => obtain ⟨s₂, t₂⟩ := r; rw [hs] at h; rw [stepT_spec hs]; exact topRunQ_of h
noncomputable def topFromQ (p : Program) (w : World) (N : Nat) (s₀ : Shared) : Option SharedT :=
  match s₀.heap.isNs mainGlobals && s₀.gens.size == 0 with
  | true => (asT s₀).bind fun t₀ => (topRunQ Fast.tw14364793385576792824 p w s₀.heap.objs.size (s₀.heap.nsMap mainGlobals "__annotations__") N t₀ (topStub p)).bind fun t₁ => match staticsOk (importedModules p.main.body) s₀.heap t₁.abs.heap && namesBound p t₁.abs.heap && gensDone t₁.abs && laidKept s₀.heap t₁.abs.heap with
      | true => some t₁
      | false => none
  | false => none
theorem topFromQ_of {p : Program} {w : World} {N : Nat} {s₀ : Shared} {t₁ : SharedT} (h : topFromQ p w N s₀ = some t₁) : topFrom treeTable p w N s₀ = some t₁.abs := by
  unfold topFromQ at h
  unfold topFrom
  cases hb : s₀.heap.isNs mainGlobals && s₀.gens.size == 0 with
  | false => rw [hb] at h; cases h
  | true =>
    rw [hb] at h
    obtain ⟨t₀, h0, h⟩ := Option.bind_eq_some_iff.mp h
    obtain ⟨t₂, h1, h⟩ := Option.bind_eq_some_iff.mp h
    have e := topRunQ_of h1
    rw [asT_of h0, ← Fast.te14364793385576792824] at e
    dsimp only
    rw [e]
    dsimp only [Option.bind_some]
    cases hc : staticsOk (importedModules p.main.body) s₀.heap t₂.abs.heap && namesBound p t₂.abs.heap && gensDone t₂.abs && laidKept s₀.heap t₂.abs.heap with
    | false => rw [hc] at h; cases h
    | true => rw [hc] at h; cases h; rfl
noncomputable def fencedQ (p : Program) (w : World) (N : Nat) : Option Shared :=
  (Fast.tw10274390034422433532 Fast.tw14364793385576792824 (opening p) w N (Fast.tw1435165496053646825 (opening p)).1 (Fast.tw1435165496053646825 (opening p)).2).bind (Fast.tw14289696077712309145 p)
theorem fencedQ_eq (p : Program) (w : World) (N : Nat) : fencedQ p w N = fencedOpening treeTable p w N := by
  unfold fencedQ fencedOpening
  rw [← Fast.te10274390034422433532, ← Fast.te14364793385576792824, ← Fast.te1435165496053646825, ← Fast.te14289696077712309145]
noncomputable abbrev SideQ (p q : Program) (loose mods : List Str) (Xt : Shared → Bool) {α : Type} (Yf : Shared → α) (Ya : World → α) (N : Nat) (w : World) : Prop :=
  ((fencedQ p w N).bind fun s₀ => (topFromQ p w N s₀).map fun t => (Fast.tw4187177175401517315 q loose mods Xt true t.abs, Yf t.abs)) = some (openGood q loose, Ya w)
theorem left_of {p q : Program} {loose : List Str} {Xt : Shared → Bool} {α : Type} {Yf : Shared → α} {Ya : World → α} {N : Nat} (h : ∀ w, SideQ p q loose (importedModules p.main.body) Xt Yf Ya N w) : LeftO p q loose Xt Yf Ya N := fun w => by
  have h := h w
  unfold SideQ at h
  rw [fencedQ_eq] at h
  obtain ⟨s₀, h0, h⟩ := Option.bind_eq_some_iff.mp h
  obtain ⟨t, h1, h⟩ := Option.map_eq_some_iff.mp h
  unfold openEnds
  rw [h0, Option.bind_some, topFromQ_of h1, Option.map_some]
  rw [← Fast.te4187177175401517315] at h
  exact congrArg some h
end

section
open PySem.W

noncomputable def lawView : Program := view PySem.Challenge.pw_kt0091_01 [0, 39]
noncomputable def lawLoose : List Str := ["_wall", "tspecials", "_name_disallowed_re", "_value_disallowed_re", "_formatparam", "Headers", "_twin_re_1", "_special_chars_map", "escape", "_translate", "_plain_name", "ABCMeta", "_ABCLike", "_abc_plain_meta", "fspath", "_check_arg_types", "_get_sep", "join", "splitroot", "dirname", "normpath", "_law_way", "_law_names", "_law_either", "_law_fits", "_law_takes", "_law_store", "_law_first_of_most"]
noncomputable abbrev TopAt (w : World) : Prop := SideQ PySem.Challenge.pw_kt0091_01 lawView lawLoose (importedModules PySem.Challenge.pw_kt0091_01.main.body) (fun _ => true) obsS (fun _ => valS) 7236 w
theorem side_ff : ∀ w : World, TopAt ((w.withFollow "special-get-raises" false).withFollow "comprehension-iter-twice" false) := fun w => by delta TopAt SideQ; kernel_rfl
theorem side_tf : ∀ w : World, TopAt ((w.withFollow "special-get-raises" true).withFollow "comprehension-iter-twice" false) := fun w => by delta TopAt SideQ; kernel_rfl
theorem side_ft : ∀ w : World, TopAt ((w.withFollow "special-get-raises" false).withFollow "comprehension-iter-twice" true) := fun w => by delta TopAt SideQ; kernel_rfl
theorem side_tt : ∀ w : World, TopAt ((w.withFollow "special-get-raises" true).withFollow "comprehension-iter-twice" true) := fun w => by delta TopAt SideQ; kernel_rfl
theorem sides : ∀ w : World, TopAt w := byRow2 "comprehension-iter-twice" (P := TopAt)
  (byRow2 "special-get-raises" (P := fun w => TopAt (w.withFollow "comprehension-iter-twice" false)) side_ff side_tf)
  (byRow2 "special-get-raises" (P := fun w => TopAt (w.withFollow "comprehension-iter-twice" true)) side_ft side_tt)
theorem left_top : LeftO PySem.Challenge.pw_kt0091_01 lawView lawLoose (fun _ => true) obsS (fun _ => valS) 7236 := left_of sides
end

end Mine
end

open PySem PySem.W PySem.W.X PyProof.Rows
set_option maxRecDepth 100000 in
set_option maxHeartbeats 0 in
theorem PySem.Challenge.cw_kt0091_01_holds : PySem.Challenge.rw_kt0091_01.Holds := by
  w_on
  refine holds_law (l := PySem.Challenge.rw_kt0091_01) (by kernel_rfl) fun said => ?_
  refine holds_openX (q := Mine.lawView) (loose := Mine.lawLoose) (Xt := fun _ => true) (XP := fun _ _ => True) (Yf := Mine.obsS) (Ya := fun _ => Mine.valS) (N := 7236) Mine.left_top (fun _ _ => trivial) (fun _ _ _ _ _ => trivial) (by rfl) (by rfl) (by rfl) (fun s e => recFacts_nil rfl) (by rfl) (by first | assumption | decide +kernel) (by decide +kernel) ⟨rfl, rfl, rfl, rfl, rfl, by decide +kernel⟩ ?hw ?hc
  case hw => w_witness2
  case hc =>
    intro w s₀ s₁ mg mb G y fa o pm cd doc dV kV ho hd hcd hD hmg hg args vals as L hpre hlay hrd hwl hlo
    obtain ⟨hn, h207, h211, kf⟩ := Mine.facts_of y
    have KX : (Mine.fragH s₀.heap).In s₁.heap := (Mine.fragH_in _).keeps L.keeps
    refine Ground.open G ?_
    intro T B D TE TW
    wrow_args hpre hlay hrd hwl hlo
    obtain ⟨hat, hsz⟩ := script_at L
    rw [hn] at hat hsz
    subst hat
    have hf : some (Value.ref 379) = some (Value.ref fa) := (mg_of (Mine.cut_in KX) T.g kf.law.nm).symm.trans hmg
    have hf' := Value.ref.inj (Option.some.inj hf)
    subst hf'
    clear hd hcd hD ho hmg B D TE TW y G hf
    refine wpAny_mono (Mine.join_law kf h207 h211 KX T hg hsz (by assumption) (script_obj L (by assumption)) (by omega)) (fun v s' ⟨hv, hold, hos, hge⟩ => ?jfin) (fun _ _ e => e.elim)
    case jfin =>
      subst hv
      refine ⟨.inl ⟨.bool true, _, [], rfl, raisesW_false (by wrow_none_raised), readsW_of_reads (.bool true), ?_, unshared_nil⟩, hold, hos, AllBare.of_eq hge⟩
      exact postW_of (by wrow_shape) (by wtm_val) (by str_meet; first | done | w_fin)
