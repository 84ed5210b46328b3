
import PyProof.Rows.All
import Wide.All
import OpenK.AllK
import Wide.FinOn
import Lean
import PySem.Challenge.RW_ta0023_01
section -- M1
open PySem PySem.W PyProof.Rows
set_option Elab.async false
namespace Mine

inductive D where
  | none
  | bool (b : Bool)
  | int (i : Int)
  | flt (x : UInt64)
  | bytes (l : List UInt8)
  | tup (ds : List D)
  | list (ds : List D)
  | clo (f : Addr)

mutual
inductive Rep (h : Heap) : Value → D → Prop
  | none : Rep h .none .none
  | bool (b : Bool) : Rep h (.bool b) (.bool b)
  | int (i : Int) (t : Tok) : Rep h (.int i t) (.int i)
  | flt (x : UInt64) (t : Tok) : Rep h (.float x t) (.flt x)
  | bytes (l : List UInt8) (t : Tok) : Rep h (.bytes l.toArray t) (.bytes l)
  | tup {a : Addr} {vs : List Value} {ds : List D} : h.IsTuple a vs.toArray → RepL h vs ds → Rep h (.ref a) (.tup ds)
  | list {a : Addr} {vs : List Value} {ds : List D} : h.PlainList a vs.toArray → RepL h vs ds → Rep h (.ref a) (.list ds)
  | clo {f : Addr} {o : Obj} {fd : FuncData} : h.get? f = some o → o.data = .func fd → Rep h (.ref f) (.clo f)
inductive RepL (h : Heap) : List Value → List D → Prop
  | nil : RepL h [] []
  | cons {v : Value} {vs : List Value} {d : D} {ds : List D} : Rep h v d → RepL h vs ds → RepL h (v :: vs) (d :: ds)
end

noncomputable def isTab (o : Obj) : Prop := o.cls = .none ∧ ∃ vs, o.data = .fields vs

noncomputable def isCode (o : Obj) : Prop := ∃ vs q t, o.data = .fields vs ∧ vs[1]? = some (.str q t)
structure TInv where
  base : Heap
  ok : Heap → Prop
  keeps : ∀ h h', (∀ b o, h.get? b = some o → isTab o ∨ isCode o → h'.get? b = some o) → ok h → ok h'

structure Ext (I : TInv) (h h' : Heap) : Prop where
  keep : ∀ b o, h.get? b = some o → ¬ isTab o → (∀ es ep, o.data ≠ .dict es ep) → h'.get? b = some o
  dict : ∀ b o es ep, h.get? b = some o → o.data = .dict es ep → ∃ o', h'.get? b = some o' ∧ o'.data = o.data
  there : ∀ b o, h.get? b = some o → ∃ o', h'.get? b = some o'
  code : ∀ b o, h.get? b = some o → isCode o → h'.get? b = some o
  tabs : I.ok h → I.ok h'
  old : ∀ b o, I.base.get? b = some o → h.get? b = some o → h'.get? b = some o

theorem Ext.refl {I : TInv} (h : Heap) : Ext I h h := ⟨fun _ _ e _ _ => e, fun _ o _ _ e _ => ⟨o, e, rfl⟩, fun _ o e => ⟨o, e⟩, fun _ _ e _ => e, id, fun _ _ _ e => e⟩
theorem Ext.trans {I : TInv} {h h' h'' : Heap} (x : Ext I h h') (y : Ext I h' h'') : Ext I h h'' :=
  ⟨fun b o e n nd => y.keep b o (x.keep b o e n nd) n nd, fun b o es ep e d => let ⟨o', e', d'⟩ := x.dict b o es ep e d; let ⟨o'', e'', d''⟩ := y.dict b o' es ep e' (d'.trans d); ⟨o'', e'', d''.trans d'⟩, fun b o e => let ⟨o', e'⟩ := x.there b o e; y.there b o' e', fun b o e c => y.code b o (x.code b o e c) c, fun t => y.tabs (x.tabs t), fun b o q e => y.old b o q (x.old b o q e)⟩
theorem Ext.of {I : TInv} {h h' : Heap} (k : ∀ b o, h.get? b = some o → h'.get? b = some o) : Ext I h h' :=
  ⟨fun b o e _ _ => k b o e, fun b o _ _ e _ => ⟨o, k b o e, rfl⟩, fun b o e => ⟨o, k b o e⟩, fun b o e _ => k b o e, I.keeps h h' fun b o e _ => k b o e, fun b o _ e => k b o e⟩
theorem Ext.push {I : TInv} (h : Heap) (o : Obj) : Ext I h (h.push o) := .of fun _ _ e => Heap.get?_push_of_some _ e
theorem Ext.but {I : TInv} {h h1 h2 : Heap} (x : Ext I h h1) (l : List Addr) (hl : ∀ a ∈ l, h.get? a = none) (hn : ∀ a ∈ l, ∀ o, h1.get? a = some o → ¬ (isTab o ∨ isCode o))
    (k : ∀ b o, b ∉ l → h1.get? b = some o → h2.get? b = some o) : Ext I h h2 := by
  have nl : ∀ b o, h.get? b = some o → b ∉ l := fun b o e q => by rw [hl b q] at e; cases e
  refine ⟨fun b o e n nd => k b o (nl b o e) (x.keep b o e n nd), fun b o es ep e d => (let ⟨o', e', d'⟩ := x.dict b o es ep e d; ⟨o', k b o' (nl b o e) e', d'⟩), fun b o e => ?_, fun b o e c => k b o (nl b o e) (x.code b o e c), fun t => I.keeps h1 h2 (fun b o e r => k b o (fun q => hn b q o e r) e) (x.tabs t), fun b o q e => k b o (nl b o e) (x.old b o q e)⟩
  obtain ⟨o', e'⟩ := x.there b o e
  exact ⟨o', k b o' (nl b o e) e'⟩
theorem not_rec {o : Obj} (h : ∀ vs, o.data ≠ .fields vs) : ¬ (isTab o ∨ isCode o) := fun t => t.elim (fun ⟨_, vs, e⟩ => h vs e) fun ⟨vs, _, _, e, _⟩ => h vs e
theorem Ext.but1 {I : TInv} {h h1 h2 : Heap} (x : Ext I h h1) {a : Addr} (hl : h.get? a = none) {o : Obj} (ho : h1.get? a = some o) (hn : ¬ (isTab o ∨ isCode o))
    (k : Heap.SameBut a h1 h2) : Ext I h h2 :=
  x.but [a] (by simpa using hl) (by intro b hb o' e; simp at hb; subst hb; rw [ho] at e; cases e; exact hn) fun b o e q => (k.2 b (by simpa using e)).trans q
theorem Ext.get {I : TInv} {h h' : Heap} (x : Ext I h h') {b : Addr} {o : Obj} (e : h.get? b = some o) (n : ∀ vs, o.data ≠ .fields vs) (nd : ∀ es ep, o.data ≠ .dict es ep) : h'.get? b = some o :=
  x.keep b o e (fun t => let ⟨_, vs, q⟩ := t; n vs q) nd
theorem Ext.ns {I : TInv} {h h' : Heap} (x : Ext I h h') {a m} (n : h.Ns a m) : h'.Ns a m :=
  let ⟨o, es, ep, e, hd, r⟩ := n; let ⟨o', e', d'⟩ := x.dict a o es ep e hd; ⟨o', es, ep, e', d'.trans hd, r⟩
theorem Ext.isTuple {I : TInv} {h h' : Heap} (x : Ext I h h') {a vs} (n : h.IsTuple a vs) : h'.IsTuple a vs :=
  let ⟨o, e, hc, k, hd⟩ := n; ⟨o, x.get e (fun vs q => by rw [hd] at q; cases q) (fun _ _ q => by rw [hd] at q; cases q), hc, k, hd⟩
theorem Ext.isList {I : TInv} {h h' : Heap} (x : Ext I h h') {a vs} (n : h.IsList a vs) : h'.IsList a vs :=
  let ⟨o, e, hc, k, hd⟩ := n; ⟨o, x.get e (fun vs q => by rw [hd] at q; cases q) (fun _ _ q => by rw [hd] at q; cases q), hc, k, hd⟩
theorem Ext.plainList {I : TInv} {h h' : Heap} (x : Ext I h h') {a vs} (n : h.PlainList a vs) : h'.PlainList a vs :=
  let ⟨k, e⟩ := n; ⟨k, x.get e (fun vs q => by cases q) (fun _ _ q => by cases q)⟩
theorem Ext.isCell {I : TInv} {h h' : Heap} (x : Ext I h h') {a v} (n : h.IsCell a v) : h'.IsCell a v :=
  let ⟨o, e, hd⟩ := n; ⟨o, x.get e (fun vs q => by rw [hd] at q; cases q) (fun _ _ q => by rw [hd] at q; cases q), hd⟩
theorem Ext.codeRec {I : TInv} {h h' : Heap} (x : Ext I h h') {c : Value} {q : Str} (r : h.CodeRec c q) : h'.CodeRec c q :=
  let ⟨a, o, vs, t, e, g, d, v⟩ := r; ⟨a, o, vs, t, e, x.code a o g ⟨vs, q, t, d, v⟩, d, v⟩
theorem Ext.fresh {I : TInv} {h h' : Heap} (x : Ext I h h') {a : Addr} (n : h'.get? a = none) : h.get? a = none := by
  cases q : h.get? a with
  | none => rfl
  | some o => obtain ⟨o', e⟩ := x.there a o q; rw [n] at e; cases e
theorem Rep.ext {I : TInv} {h h' : Heap} (x : Ext I h h') {v : Value} {d : D} (r : Rep h v d) : Rep h' v d :=
  Rep.rec (motive_1 := fun v d _ => Rep h' v d) (motive_2 := fun vs ds _ => RepL h' vs ds) .none .bool .int .flt .bytes (fun ht _ r => .tup (x.isTuple ht) r) (fun hl _ r => .list (x.plainList hl) r)
    (fun hg hd => .clo (x.get hg (fun vs q => by rw [hd] at q; cases q) (fun _ _ q => by rw [hd] at q; cases q)) hd) .nil (fun _ _ r rs => .cons r rs) r
theorem RepL.ext {I : TInv} {h h' : Heap} (x : Ext I h h') {vs : List Value} {ds : List D} (r : RepL h vs ds) : RepL h' vs ds :=
  RepL.rec (motive_1 := fun v d _ => Rep h' v d) (motive_2 := fun vs ds _ => RepL h' vs ds) .none .bool .int .flt .bytes (fun ht _ r => .tup (x.isTuple ht) r) (fun hl _ r => .list (x.plainList hl) r)
    (fun hg hd => .clo (x.get hg (fun vs q => by rw [hd] at q; cases q) (fun _ _ q => by rw [hd] at q; cases q)) hd) .nil (fun _ _ r rs => .cons r rs) r
noncomputable def Inv (h : Heap) (v : Value) : D → Prop
  | .none => v = .none
  | .bool b => v = .bool b
  | .int i => ∃ t, v = .int i t
  | .flt x => ∃ t, v = .float x t
  | .bytes l => ∃ t, v = .bytes l.toArray t
  | .tup ds => ∃ a vs, v = .ref a ∧ h.IsTuple a vs.toArray ∧ RepL h vs ds
  | .list ds => ∃ a vs, v = .ref a ∧ h.PlainList a vs.toArray ∧ RepL h vs ds
  | .clo f => v = .ref f ∧ ∃ o fd, h.get? f = some o ∧ o.data = .func fd
theorem Rep.inv {h : Heap} {v : Value} {d : D} (r : Rep h v d) : Inv h v d :=
  Rep.rec (motive_1 := fun v d _ => Inv h v d) (motive_2 := fun _ _ _ => True) rfl (fun _ => rfl) (fun _ t => ⟨t, rfl⟩) (fun _ t => ⟨t, rfl⟩) (fun _ t => ⟨t, rfl⟩) (fun ht r _ => ⟨_, _, rfl, ht, r⟩) (fun ht r _ => ⟨_, _, rfl, ht, r⟩)
    (fun hg hd => ⟨rfl, _, _, hg, hd⟩) trivial (fun _ _ _ _ => trivial) r
noncomputable def InvL (h : Heap) (vs : List Value) : List D → Prop
  | [] => vs = []
  | d :: ds => ∃ v ws, vs = v :: ws ∧ Rep h v d ∧ RepL h ws ds
theorem RepL.inv {h : Heap} {vs : List Value} {ds : List D} (r : RepL h vs ds) : InvL h vs ds :=
  RepL.rec (motive_1 := fun _ _ _ => True) (motive_2 := fun vs ds _ => InvL h vs ds) trivial (fun _ => trivial) (fun _ _ => trivial) (fun _ _ => trivial) (fun _ _ => trivial) (fun _ _ _ => trivial) (fun _ _ _ => trivial) (fun _ _ => trivial) rfl
    (fun r rs _ _ => ⟨_, _, rfl, r, rs⟩) r
theorem RepL.ind {h : Heap} {P : List Value → List D → Prop} (nil : P [] []) (cons : ∀ {v vs d ds}, Rep h v d → RepL h vs ds → P vs ds → P (v :: vs) (d :: ds)) {vs : List Value} {ds : List D} (r : RepL h vs ds) : P vs ds :=
  RepL.rec (motive_1 := fun _ _ _ => True) (motive_2 := fun vs ds _ => P vs ds) trivial (fun _ => trivial) (fun _ _ => trivial) (fun _ _ => trivial) (fun _ _ => trivial) (fun _ _ _ => trivial) (fun _ _ _ => trivial) (fun _ _ => trivial) nil
    (fun r rs _ ih => cons r rs ih) r

theorem RepL.length {h : Heap} {vs : List Value} {ds : List D} (r : RepL h vs ds) : vs.length = ds.length :=
  r.ind (P := fun vs ds => vs.length = ds.length) rfl fun _ _ e => congrArg Nat.succ e
theorem RepL.append {h : Heap} {vs ws : List Value} {ds es : List D} (r : RepL h vs ds) (k : RepL h ws es) : RepL h (vs ++ ws) (ds ++ es) :=
  r.ind (P := fun vs ds => RepL h (vs ++ ws) (ds ++ es)) k fun r _ i => .cons r i
theorem RepL.one {h : Heap} {v : Value} {d : D} (r : Rep h v d) : RepL h [v] [d] := .cons r .nil
theorem RepL.get {h : Heap} {vs : List Value} {ds : List D} (r : RepL h vs ds) : ∀ {k : Nat} {d : D}, ds[k]? = some d → ∃ v, vs[k]? = some v ∧ Rep h v d :=
  r.ind (P := fun vs ds => ∀ {k : Nat} {d : D}, ds[k]? = some d → ∃ v, vs[k]? = some v ∧ Rep h v d) (fun e => by cases e) fun r _ i => fun {k} _ e => by
    cases k with
    | zero => cases e; exact ⟨_, rfl, r⟩
    | succ k => exact i e
theorem RepL.get' {h : Heap} {vs : List Value} {ds : List D} (r : RepL h vs ds) : ∀ {k : Nat} {v : Value}, vs[k]? = some v → ∃ d, ds[k]? = some d ∧ Rep h v d :=
  r.ind (P := fun vs ds => ∀ {k : Nat} {v : Value}, vs[k]? = some v → ∃ d, ds[k]? = some d ∧ Rep h v d) (fun e => by cases e) fun r _ i => fun {k} _ e => by
    cases k with
    | zero => cases e; exact ⟨_, rfl, r⟩
    | succ k => exact i e
theorem RepL.take {h : Heap} {vs : List Value} {ds : List D} (n : Nat) (r : RepL h vs ds) : RepL h (vs.take n) (ds.take n) :=
  r.ind (P := fun vs ds => ∀ n, RepL h (vs.take n) (ds.take n)) (fun n => by cases n <;> exact .nil) (fun r _ i n => by
    cases n with
    | zero => exact .nil
    | succ n => exact .cons r (i n)) n
theorem RepL.reverse {h : Heap} {vs : List Value} {ds : List D} (r : RepL h vs ds) : RepL h vs.reverse ds.reverse :=
  r.ind (P := fun vs ds => RepL h vs.reverse ds.reverse) .nil fun r _ i => by rw [List.reverse_cons, List.reverse_cons]; exact i.append (.one r)

mutual
noncomputable def D.lf : D → Bool
  | .none => true
  | .bool _ => true
  | .int _ => true
  | .flt _ => true
  | .bytes _ => true
  | .tup ds => D.lfs ds
  | .list _ => false
  | .clo _ => false
noncomputable def D.lfs : List D → Bool
  | [] => true
  | d :: ds => d.lf && D.lfs ds
end

theorem Rep.lf_keep {h h' : Heap} (k : ∀ a vs, h.IsTuple a vs → h'.IsTuple a vs) {v : Value} {d : D} (r : Rep h v d) : d.lf = true → Rep h' v d :=
  Rep.rec (motive_1 := fun v d _ => d.lf = true → Rep h' v d) (motive_2 := fun vs ds _ => D.lfs ds = true → RepL h' vs ds) (fun _ => .none) (fun b _ => .bool b) (fun i t _ => .int i t) (fun i t _ => .flt i t) (fun i t _ => .bytes i t)
    (fun ht _ i e => .tup (k _ _ ht) (i e)) (fun _ _ _ e => Bool.noConfusion e) (fun _ _ e => Bool.noConfusion e) (fun _ => .nil) (fun _ _ i j e => by
      obtain ⟨a, b⟩ := (Bool.and_eq_true ..).mp e
      exact .cons (i a) (j b)) r
theorem RepL.lf_keep {h h' : Heap} (k : ∀ a vs, h.IsTuple a vs → h'.IsTuple a vs) {vs : List Value} {ds : List D} (r : RepL h vs ds) : D.lfs ds = true → RepL h' vs ds :=
  r.ind (P := fun vs ds => D.lfs ds = true → RepL h' vs ds) (fun _ => .nil) fun r _ i e => by
    obtain ⟨a, b⟩ := (Bool.and_eq_true ..).mp e
    exact .cons (r.lf_keep k a) (i b)

theorem list_ne_tuple {h : Heap} {a : Addr} {xs ys : Array Value} (x : h.IsList a xs) (y : h.IsTuple a ys) : False := by
  obtain ⟨o, ho, hc, _⟩ := x
  obtain ⟨o', ho', hc', _⟩ := y
  rw [ho] at ho'
  cases ho'
  rw [hc] at hc'
  injection hc' with e
  exact absurd e (by decide)
end Mine
end

section -- X1
open PySem PySem.W PyProof.Rows
set_option Elab.async false
set_option linter.unusedVariables false
namespace Mine
open PySem.SeqAt PySem.Calls
section
variable {prog : Program} {w : World} {A : Around} {E : Value → Shared → Prop} {s : Shared}
theorem gives_contains {b : Array UInt8} {t u : Tok} {n : Int} (h0 : 0 ≤ n) (h1 : n < 256) : Gives (Builtin.«bytes.__contains__» ⟨[.bytes b t, .int n u], []⟩) (.val (.bool (b.contains n.toNat.toUInt8))) := by
  refine .of_wp fun M A E s Q hq => ?_
  show wpAny M A (Builtin.Bytes.containsIn "bytes.__contains__" (.bytes b t) (.int n u) >>= fun r => _) _ E s
  refine wpAny_bind ?_
  unfold Builtin.Bytes.containsIn
  refine wpAny_bind (wpAny_attempt (wpAny_of_eq (rfl : asIndex (.int n u) = pure n) ?_))
  refine wpAny_bind (wpAny_of_eq KBy.buffer_eq ?_)
  show wpAny M A (if (decide (n < 0) || decide (n ≥ 256)) = true then _ else _) _ E s
  rw [if_neg (by simp; (first | lia | omega))]
  exact wpAny_pure (wpAny_pure ⟨_, rfl, hq⟩)
theorem in_bytes {b : Array UInt8} {t u : Tok} {n : Int} {Q : Value → Shared → Prop} (h0 : 0 ≤ n) (h1 : n < 256) (h : Q (.bool (b.contains n.toNat.toUInt8)) s) : wpAny (model prog w) A (compareOp .In (.int n u) (.bytes b t)) Q E s :=
  in_gives (typeIs_bytes s b t) FB.slot_bytes_contains FB.entry_bytes_contains (FB.args_bytes_contains_2 _ _) (gives_contains h0 h1) h
end
end Mine
end

section -- X2
open PySem PySem.W PyProof.Rows
set_option Elab.async false
set_option linter.unusedVariables false
namespace Mine
open PySem.SeqAt PySem.Calls
section
variable {prog : Program} {w : World} {A : Around} {E : Value → Shared → Prop} {s : Shared}
theorem adjust_to {b n : Nat} (h : b < n) : Builtin.Slice.sliceAdjust none (some (b : Int)) 1 (n : Int) = (0, (b : Int)) := by
  unfold Builtin.Slice.sliceAdjust
  have h1 : ¬ ((1 : Int) < 0) := by (first | lia | omega)
  have h2 : ¬ ((b : Int) < 0) := by (first | lia | omega)
  simp only [h1, h2, if_false]
  congr 1
  (first | lia | omega)
theorem places_to (b : Nat) : Builtin.Slice.slicePlaces 0 (b : Int) 1 = b := by
  unfold Builtin.Slice.slicePlaces
  have h1 : (1 : Int) > 0 := by (first | lia | omega)
  simp only [h1, if_true, Int.ediv_one]
  split <;> (first | lia | omega)
theorem applied_to {sl : Addr} {b n : Nat} {u : Tok} {Q : Int × Int × Nat → Shared → Prop} (hs : s.heap.IsSliceOf sl .none (.int b u) .none) (hb : b < n) (h : Q (0, 1, b) s) :
    wpAny (model prog w) A (Builtin.Slice.sliceApplied (.ref sl) (pure (n : Int))) Q E s := by
  obtain ⟨os, hos, hcs, hds⟩ := id hs
  unfold Builtin.Slice.sliceApplied Builtin.Slice.sliceFields
  refine wpAny_bind (wpAny_bind (wpAny_field hos hds (x := .none) rfl (wpAny_bind (wpAny_field hos hds (x := .int b u) rfl (wpAny_bind (wpAny_field hos hds (x := .none) rfl (wpAny_pure ?_)))))))
  refine wpAny_bind (slicePart_none ?_)
  show wpAny _ _ (if ((1 : Int) == 0) = true then _ else _) _ _ s
  rw [if_neg (by decide)]
  refine wpAny_bind (slicePart_none (wpAny_bind (slicePart_int (wpAny_bind (wpAny_pure ?_)))))
  show wpAny _ _ (match Builtin.Slice.sliceAdjust none (some (b : Int)) 1 (n : Int) with | (lo, hi) => pure (lo, (1 : Int), Builtin.Slice.slicePlaces lo hi 1)) _ _ s
  rw [adjust_to hb]
  show wpAny _ _ (pure ((0 : Int), (1 : Int), Builtin.Slice.slicePlaces 0 (b : Int) 1)) _ _ s
  rw [places_to b]
  exact wpAny_pure h
theorem pick_to (xs : Array Value) (b : Nat) : ((List.range b).filterMap fun (k : Nat) => xs[((0 : Int) + (k : Int) * 1).toNat]?).toArray = (xs.toList.take b).toArray := by
  have e : (fun (k : Nat) => xs[((0 : Int) + (k : Int) * 1).toNat]?) = fun k => xs[0 + k]? := by
    funext k
    have : ((0 : Int) + (k : Int) * 1).toNat = 0 + k := by (first | lia | omega)
    rw [this]
  rw [e]
  have := pick_run xs 0 b
  rw [List.filterMap_map] at this
  have e2 : ((fun x => xs[x]?) ∘ fun x => 0 + x) = fun k => xs[0 + k]? := rfl
  rw [e2] at this
  rw [this, List.drop_zero]
theorem getItem_tuple_to {t sl : Addr} {items : Array Value} {b : Nat} {u : Tok} {Q : Value → Shared → Prop} (ht : IsTup s.heap t items) (hs : s.heap.IsSliceOf sl .none (.int b u) .none) (hb : b < items.size)
    (h : Q (.ref s.heap.objs.size) { s with heap := s.heap.push { cls := .type "tuple", data := .seq (items.toList.take b).toArray } })
    (hsz : items.size ≤ sizeLine) : wpAny (model prog w) A (getItem (.ref t) (.ref sl)) Q E s := by
  have htake : sizeOk (.seq (items.toList.take b).toArray) := by
    show (items.toList.take b).toArray.size ≤ sizeLine
    rw [List.size_toArray, List.length_take, Array.length_toList]
    (first | lia | omega)
  obtain ⟨os, hos, hcs, hds⟩ := id hs
  have hTs : s.TypeIs (.ref sl) "slice" := ⟨os, hos, hcs⟩
  unfold getItem
  try with_reducible refine wpAny_holding ?_
  first | refine wpAny_bind (wpAny_pure ?_) | skip
  refine wpAny_bind (wpAny_sequenceKey ht.typeIs (by decide) ?_)
  refine wpAny_bind (wpAny_callSpecial?_slot (name := Str.ofString "__getitem__") ht.typeIs slot_tuple_getitem
    (wpAny_call_entry slot_tuple_getitem ht.typeIs entry_tuple_getitem ?_ (args_tuple_getitem _ _)))
  show wpAny _ _ (Builtin.Tuple.tupleItemsOf (.ref t) >>= _) _ _ s
  refine wpAny_bind (tupleItemsOf_ ht ?_)
  refine wpAny_bind (wpAny_typeOf hTs ?_)
  rw [if_pos (by decide)]
  refine wpAny_bind (applied_to hs hb ?_)
  have hno : ¬ (((0 : Int) == 0 && (1 : Int) == 1 && b == items.size) = true) := by
    have : (b == items.size) = false := by rw [beq_eq_false_iff_ne]; (first | lia | omega)
    rw [this]; simp
  show wpAny _ _ (if ((0 : Int) == 0 && (1 : Int) == 1 && b == items.size) = true then _ else _) _ _ s
  rw [if_neg hno, pick_to items b]
  first
    | exact wpAny_bind (m := Builtin.Tuple.tupleExact _) (wpAny_newObj_type (wpAny_pure ⟨_, rfl, wpAny_pure h⟩) htake)
    | exact wpAny_bind (m := Builtin.Tuple.tupleExact _) (wpAny_newObj_type (wpAny_bind (wpAny_pure (wpAny_pure ⟨_, rfl, wpAny_pure h⟩))) htake)
    | exact wpAny_bind (wpAny_bind (m := Builtin.Tuple.tupleExact _) (wpAny_newObj_type (wpAny_pure (wpAny_pure ⟨_, rfl, wpAny_pure h⟩)) htake))
    | exact wpAny_bind (wpAny_bind (m := Builtin.Tuple.tupleExact _) (wpAny_newObj_type (wpAny_pure ⟨_, rfl, wpAny_pure h⟩) htake))
end
end Mine
end

section -- X3
open PySem PySem.W PyProof.Rows
set_option Elab.async false
set_option linter.unusedVariables false
namespace Mine
open PySem.SeqAt PySem.Calls PySem.Spec
section
variable {prog : Program} {w : World} {A : Around} {E : Value → Shared → Prop} {s : Shared} {t : Addr}
theorem max_intTup {xs : Array (Int × Tok)} {Q : Value → Shared → Prop} (hh : A.handled = none) (ht : s.heap.IsTuple t (intItems xs)) (hne : 0 < xs.size)
    (h : ∀ v h' tk, (intItems xs)[argBest (fun i j => decide (numAt xs i > numAt xs j)) (xs.size - 1)]? = some v → (∀ b o, s.heap.get? b = some o → h'.get? b = some o) → Q v { s with heap := h', toks := tk }) :
    wpAny (model prog w) A (call (.builtin "max") [.ref t]) Q E s := by
  obtain ⟨o, ho, hc, n, hd⟩ := id ht
  have hn : t ≠ s.heap.objs.size := Nat.ne_of_lt (Heap.lt_size ho)
  refine call_max_walk (wpAny_pyIter_tuple ht ?_)
  refine ⟨_, _, _, _, _, _, _, rfl, Walks.tuple (A := A.in1) hh s.heap.objs.size t hn (intItems xs), ⟨⟨_, Heap.get?_push_size _ rfl, rfl, rfl⟩, ht.at fun o e => Heap.get?_push_of_some _ e⟩, fun b hb => ?_, by simpa [intItems] using hne, CmpOf.ints_gt (numAt xs) (fun _ _ => intItems_at), fun v h' tk hP hk => ?_⟩
  · rcases List.mem_cons.mp hb with rfl | hb
    · exact Heap.lt_size (Heap.get?_push_size _ rfl)
    · obtain rfl := List.mem_singleton.mp hb
      exact Heap.lt_size (Heap.get?_push_of_some _ ho)
  · exact h v h' tk (by simpa [intItems] using hP) fun b o e => hk b o (fun hb => absurd (Heap.lt_size e) ((List.mem_singleton.mp hb) ▸ Nat.lt_irrefl _)) (Heap.get?_push_of_some _ e)
theorem max_tup {vs : List Value} {ns : List Int} {Q : Value → Shared → Prop} (hh : A.handled = none) (hl : s.heap.IsTuple t vs.toArray) (hi : IntsAre vs ns) (hne : 0 < ns.length)
    (h : ∀ h' M (u : Tok) tk, (∀ b o, s.heap.get? b = some o → h'.get? b = some o) → M ∈ ns → (∀ a, a ∈ ns → a ≤ M) → Q (.int M u) { s with heap := h', toks := tk }) :
    wpAny (model prog w) A (call (.builtin "max") [.ref t]) Q E s := by
  obtain ⟨xs, e⟩ := hi.allInts.items
  have hns : ns = xs.toList.map (·.1) := by
    rw [← hi.numsOf, ← nums_intItems, ← e]
  have hsz : 0 < xs.size := by
    have h3 := hne; rw [hns, List.length_map, Array.length_toList] at h3; exact h3
  rw [e] at hl
  refine max_intTup hh hl hsz fun v h' tk hv hk => ?_
  obtain ⟨t, rfl⟩ := intItems_at hv
  obtain ⟨h1, h2⟩ := argBest_gt (numAt xs) (xs.size - 1)
  refine h _ _ t tk hk ?_ fun a ha => ?_
  · rw [hns, numAt_eq]; exact getD_mem (by rw [List.length_map, Array.length_toList]; (first | lia | omega))
  · rw [hns] at ha
    obtain ⟨j, hj, rfl⟩ := mem_getD ha
    rw [List.length_map, Array.length_toList] at hj
    rw [← numAt_eq]; exact h2 j (by (first | lia | omega))
end
theorem tm_mul (l : Addr) (items : Array Value) (n : Nat) (d : Option Addr) (sl : Array (Option Value)) (x : Int) (u : Tok) (h0 : 2 ≤ x) (h1 : x ≤ 1000) (hs : items.size = 1) :
    Meets (Builtin.«tuple.__mul__» ⟨[.ref l, .int x u], []⟩) (fun _ R s => s.heap.get? l = some { cls := .type "tuple", dict := d, data := .seq items n, slots := sl } ∧ R (.ok (.ret (Value.ref s.heap.objs.size))) { s with heap := s.heap.push { cls := Value.type "tuple", data := Data.seq (List.foldl (fun x1 x2 => x1 ++ x2) #[] (List.replicate x.toNat items)) }, toks := s.toks }) := by
  refine .of_wp fun prog w A R s h => ?_
  obtain ⟨hl, h⟩ := h
  show wpAny _ _ (asIndex (.int x u) >>= _) _ _ s
  refine wpAny_bind (wpAny_of_eq (rfl : asIndex (.int x u) = pure x) ?_)
  show wpAny _ _ (if (decide (x < -(2 ^ 63)) || decide (x ≥ 2 ^ 63)) = true then _ else _) _ _ s
  rw [if_neg (by simp; (first | lia | omega))]
  refine wpAny_bind (tupleItemsOf_ ⟨_, hl, rfl, n, rfl⟩ ?_)
  show wpAny _ _ (if (items.isEmpty || x == 1) = true then _ else _) _ _ s
  have e1 : items.isEmpty = false := by
    unfold Array.isEmpty
    rw [hs]; rfl
  rw [if_neg (by rw [e1]; simp; (first | lia | omega))]
  show wpAny _ _ (if (decide (x ≤ 0) || items.isEmpty) = true then _ else _) _ _ s
  rw [if_neg (by rw [e1]; simp; (first | lia | omega))]
  show wpAny _ _ (if (items.size : Int) * x > (2 ^ 63 - 1) / 8 then _ else _) _ _ s
  rw [if_neg (by rw [hs]; (first | lia | omega))]
  show wpAny _ _ (if Builtin.Tuple.tupleTooMany (items.size * x) = true then _ else _) _ _ s
  rw [if_neg (by rw [hs]; unfold Builtin.Tuple.tupleTooMany; simp [sizeLine_eq]; (first | lia | omega))]
  have hf : sizeOk (Data.seq (List.foldl (fun x1 x2 => x1 ++ x2) #[] (List.replicate x.toNat items))) := by
    rw [listMul_foldl]
    show (_ : Array Value).size ≤ sizeLine
    rw [sizeLine_eq]
    have : items.toList.length = 1 := by rw [Array.length_toList]; exact hs
    simp [hs]
    (first | lia | omega)
  exact wpAny_bind (wpAny_newObj_type (wpAny_pure ⟨_, rfl, h⟩) hf)
theorem tm_rmul (a : Int) (t : Tok) (l : Addr) (items : Array Value) (n : Nat) (d : Option Addr) (sl : Array (Option Value)) :
    Meets (Builtin.«int.__rmul__» ⟨[.int a t, .ref l], []⟩) (fun _ R s => s.heap.get? l = some { cls := .type "tuple", dict := d, data := .seq items n, slots := sl } ∧ R (.ok (.ret Value.notImplemented)) s) :=
  .of_wp fun prog w A R s h => by obtain ⟨hp, g, d, tk, os⟩ := s; obtain ⟨hl, h⟩ := h; wp_walk; exact ⟨_, rfl, h⟩
theorem noFill_tuple_mul : fillsNumberSlot (.type "tuple") "mul" = pure false :=
  PySem.fillsNumberSlot_seq (id := "tuple.__mul__") (r := some (.builtin "tuple.__rmul__")) F.slot_tuple_mul.lookup (by decide +kernel) F.slot_tuple_rmul.lookup (by decide +kernel)
theorem repeat_tuple : seqRepeat? (.type "tuple") = pure (some (.builtin "tuple.__mul__")) := by
  unfold seqRepeat?
  rw [PySem.seqSlot_of (T := "tuple") (name := "__mul__") (id := "tuple.__mul__") F.slot_tuple_mul.lookup (by decide +kernel), PySem.seqSlot_of (T := "tuple") (name := "__rmul__") (id := "tuple.__rmul__") F.slot_tuple_rmul.lookup (by decide +kernel)]
  rfl
end Mine
end

section -- M2
open PySem PySem.W PyProof.Rows
set_option Elab.async false
set_option linter.unusedVariables false
namespace Mine

structure AOK (k : Nat) (A : Around) : Prop where
  hd : A.handled = none
  dp : A.depth + k < 900
  un : A.units + 8 * k + 200 < 9900

theorem AOK.deeper {k : Nat} {A : Around} (h : AOK (k + 1) A) (env : Env) : AOK k (A.deeper env) := by
  refine ⟨h.hd, ?_, ?_⟩
  · have := h.dp; show A.depth + 1 + k < 900; (first | lia | omega)
  · have := h.un; show A.units + 3 + 8 * k + 200 < 9900; (first | lia | omega)
noncomputable def FreshV (h : Heap) (v : Value) (d : D) : Prop := d.lf = true ∨ ∃ a, v = .ref a ∧ h.get? a = none

inductive EvP (I : TInv) (s : Shared) (fr : Bool) (Q : D → Prop) (v : Value) (s' : Shared) : Prop
  | mk (h' : Heap) (tk : Nat) (d : D) (e : s' = { s with heap := h', toks := tk }) (x : Ext I s.heap h') (r : Rep h' v d) (f : fr = true → FreshV s.heap v d) (q : Q d)

section
variable {I : TInv} {s : Shared} {Q : D → Prop}
theorem evp_int {fr : Bool} {i : Int} {t : Tok} {tk : Nat} (h : Q (.int i)) : EvP I s fr Q (.int i t) { s with toks := tk } :=
  ⟨s.heap, tk, _, rfl, .refl _, .int i t, fun _ => .inl rfl, h⟩
theorem evp_flt {fr : Bool} {i : UInt64} {t : Tok} {tk : Nat} (h : Q (.flt i)) : EvP I s fr Q (.float i t) { s with toks := tk } :=
  ⟨s.heap, tk, _, rfl, .refl _, .flt i t, fun _ => .inl rfl, h⟩
theorem evp_bytes {fr : Bool} {l : List UInt8} {b : Array UInt8} {t : Tok} {tk : Nat} (e : b = l.toArray) (h : Q (.bytes l)) : EvP I s fr Q (.bytes b t) { s with toks := tk } :=
  ⟨s.heap, tk, _, rfl, .refl _, e ▸ .bytes l t, fun _ => .inl rfl, h⟩
theorem evp_bool {fr : Bool} {b : Bool} (h : Q (.bool b)) : EvP I s fr Q (.bool b) s :=
  ⟨s.heap, s.toks, _, rfl, .refl _, .bool b, fun _ => .inl rfl, h⟩
theorem evp_list {fr : Bool} {vs : List Value} {ds : List D} {o : Obj} {tk : Nat} {k : Nat} (hd : o = { cls := .type "list", data := .seq vs.toArray k }) (r : RepL s.heap vs ds) (h : Q (.list ds)) : EvP I s fr Q (.ref s.heap.objs.size) { s with heap := s.heap.push o, toks := tk } :=
  ⟨_, tk, _, rfl, .push _ _, .list ⟨k, by subst hd; exact Heap.get?_push_size _ rfl⟩ (r.ext (.push (I := I) _ _)), fun _ => .inr ⟨_, rfl, Heap.get?_none_of_le (Nat.le_refl _)⟩, h⟩
theorem evp_tup {fr : Bool} {vs : List Value} {ds : List D} {o : Obj} {tk : Nat} (hc : o.cls = .type "tuple") {k : Nat} (hd : o.data = .seq vs.toArray k) (r : RepL s.heap vs ds) (h : Q (.tup ds)) : EvP I s fr Q (.ref s.heap.objs.size) { s with heap := s.heap.push o, toks := tk } :=
  ⟨_, tk, _, rfl, .push _ _, .tup ⟨o, Heap.get?_push_size _ (by rw [Obj.isFreed_of_seq hd]), hc, k, hd⟩ (r.ext (.push (I := I) _ _)), fun _ => .inr ⟨_, rfl, Heap.get?_none_of_le (Nat.le_refl _)⟩, h⟩
end

noncomputable def sm (a : Int) : Prop := a.natAbs < 1606938044258990275541962092341162602522202993782792835301376
theorem intBits_sm {a : Int} (h : sm a) : Builtin.Int.intBits a ≤ 200 := intBits_le (show a.natAbs < 2 ^ 200 from h)
theorem sm_1023 {a : Int} (h : sm a) : a.natAbs < 2 ^ 1023 := Nat.lt_of_lt_of_le h (by decide +kernel)
theorem sm_log {b : Int} (h0 : b ≠ 0) (h : sm b) : b.natAbs.log2 < 200 := (Nat.log2_lt (by (first | lia | omega))).mpr h

noncomputable def addVC (a b : D) (Q : D → Prop) : Prop := match a with
  | .int a => (match b with
    | .int b => Q (.int (a + b))
    | .flt b => sm a ∧ Q (.flt (Float64.add (Float64.ofInt a) b))
    | _ => False)
  | .flt a => (match b with
    | .flt b => Q (.flt (Float64.add a b))
    | .int b => sm b ∧ Q (.flt (Float64.add a (Float64.ofInt b)))
    | _ => False)
  | .bytes a => (match b with
    | .bytes b => a.length + b.length ≤ 10000 ∧ Q (.bytes (a ++ b))
    | _ => False)
  | .list a => (match b with
    | .list b => a.length + b.length ≤ 10000 ∧ Q (.list (a ++ b))
    | _ => False)
  | _ => False
noncomputable def subVC (a b : D) (Q : D → Prop) : Prop := match a with
  | .int a => (match b with
    | .int b => Q (.int (a - b))
    | .flt b => sm a ∧ Q (.flt (Float64.sub (Float64.ofInt a) b))
    | _ => False)
  | .flt a => (match b with
    | .flt b => Q (.flt (Float64.sub a b))
    | .int b => sm b ∧ Q (.flt (Float64.sub a (Float64.ofInt b)))
    | _ => False)
  | _ => False
noncomputable def multVC (a b : D) (Q : D → Prop) : Prop := match a with
  | .int a => (match b with
    | .int b => (a.natAbs < 18446744073709551616 ∨ b.natAbs < 18446744073709551616) ∧ Q (.int (a * b))
    | .flt b => sm a ∧ Q (.flt (Float64.mul (Float64.ofInt a) b))
    | _ => False)
  | .flt a => (match b with
    | .flt b => Q (.flt (Float64.mul a b))
    | .int b => sm b ∧ Q (.flt (Float64.mul a (Float64.ofInt b)))
    | _ => False)
  | .list a => (match b with
    | .int n => a.length = 1 ∧ -1000 ≤ n ∧ n ≤ 1000 ∧ Q (.list (List.replicate n.toNat a).flatten)
    | _ => False)
  | .tup a => (match b with
    | .int n => a.length = 1 ∧ 2 ≤ n ∧ n ≤ 1000 ∧ Q (.tup (List.replicate n.toNat a).flatten)
    | _ => False)
  | _ => False
noncomputable def divVC (a b : D) (Q : D → Prop) : Prop := match a with
  | .int a => (match b with
    | .int b => b ≠ 0 ∧ sm a ∧ Q (.flt (Float64.ofFrac (decide (a < 0) != decide (b < 0)) a.natAbs b.natAbs))
    | _ => False)
  | .flt a => (match b with
    | .flt b => ¬ Float64.isZero b = true ∧ Q (.flt (Float64.div a b))
    | _ => False)
  | _ => False
noncomputable def modVC (a b : D) (Q : D → Prop) : Prop := match a with
  | .int a => (match b with
    | .int b => b ≠ 0 ∧ Q (.int (a.fmod b))
    | _ => False)
  | .flt a => (match b with
    | .flt b => ¬ Float64.isZero b = true ∧ Q (.flt (Float64.divmod a b).2)
    | _ => False)
  | _ => False
noncomputable def iiVC (a b : D) (K : Int → Int → Prop) : Prop := match a with
  | .int a => (match b with
    | .int b => K a b
    | _ => False)
  | _ => False
noncomputable def binVC (op : Operator) (a b : D) (Q : D → Prop) : Prop := match op with
  | .Add => addVC a b Q
  | .Sub => subVC a b Q
  | .Mult => multVC a b Q
  | .Div => divVC a b Q
  | .Mod => modVC a b Q
  | .FloorDiv => iiVC a b fun a b => b ≠ 0 ∧ sm b ∧ Q (.int (a.fdiv b))
  | .Pow => iiVC a b fun a b => 0 ≤ b ∧ b ≤ 1000 ∧ sm a ∧ Q (.int (a ^ b.toNat))
  | .LShift => iiVC a b fun a b => 0 ≤ b ∧ b ≤ 1000 ∧ sm a ∧ Q (.int (a * 2 ^ b.toNat))
  | .RShift => iiVC a b fun a b => 0 ≤ b ∧ Q (.int (a.fdiv (2 ^ b.toNat)))
  | .BitXor => iiVC a b fun a b => Q (.int (Builtin.bitXor a b))
  | _ => False

section
variable {prog : Program} {w : World} {A : Around} {E : Value → Shared → Prop} {I : TInv} {s : Shared} {va vb : Value} {a b : D} {Q : D → Prop}

theorem repL_replicate {h : Heap} {vs : List Value} {ds : List D} (r : RepL h vs ds) : ∀ n : Nat, RepL h (List.replicate n vs).flatten (List.replicate n ds).flatten
  | 0 => .nil
  | n + 1 => by simp only [List.replicate_succ, List.flatten_cons]; exact r.append (repL_replicate r n)
theorem iiVC.out {K : Int → Int → Prop} (h : iiVC a b K) (ra : Rep s.heap va a) (rb : Rep s.heap vb b) : ∃ i j t u, va = .int i t ∧ vb = .int j u ∧ K i j := by
  cases a with
  | int i =>
    cases b with
    | int j =>
      obtain ⟨t, rfl⟩ := ra.inv
      obtain ⟨u, rfl⟩ := rb.inv
      exact ⟨i, j, t, u, rfl, rfl, h⟩
    | _ => exact h.elim
  | _ => exact h.elim
theorem list_cat {la lb : Addr} {vs ws : List Value} {ds es : List D} (hl : s.heap.PlainList la vs.toArray) (hb : s.heap.PlainList lb ws.toArray) (r : RepL s.heap vs ds) (q : RepL s.heap ws es) (h1 : ds.length + es.length ≤ 10000) (h : Q (.list (ds ++ es))) :
    wpAny (model prog w) A (binaryOp .Add (.ref la) (.ref lb)) (EvP I s true Q) E s := by
  obtain ⟨n, ho⟩ := hl
  obtain ⟨n2, ho2⟩ := hb
  have l1 := r.length
  have l2 := q.length
  refine concat_meets ⟨_, ho, rfl⟩ ⟨_, ho2, rfl⟩ noFill_list_add seq_list_add PySem.F.slot_list_add PySem.F.entry_list_add (PySem.F.args_list_add_2 _ _) (list_addW _ _ _ _ n n2 _ _ _ _ (by rw [sizeLine_eq]; simp; (first | lia | omega))) ⟨ho, ho2, ?_⟩
  exact evp_list (k := 0) (by simp) (r.append q) h
theorem list_rep {la : Addr} {vs : List Value} {ds : List D} {x : Int} {u : Tok} (hl : s.heap.PlainList la vs.toArray) (r : RepL s.heap vs ds) (h1 : ds.length = 1) (h2 : -1000 ≤ x) (h3 : x ≤ 1000) (h4 : Q (.list (List.replicate x.toNat ds).flatten)) :
    wpAny (model prog w) A (binaryOp .Mult (.ref la) (.int x u)) (EvP I s true Q) E s := by
  obtain ⟨k, ho⟩ := hl
  have l1 := r.length
  have hsz' : vs.toArray.size * x.toNat ≤ 1000 := by
    have : vs.toArray.size = 1 := by simp; (first | lia | omega)
    rw [this]; (first | lia | omega)
  refine wpAny_binaryOp_repeat_ref (T := "list") (U := "int") (by decide) ⟨_, ho, rfl⟩ (fun s' => typeIs_int s' x u) noFill_list_mul F.fills_int_mul F.slot_int_rmul repeat_list F.slot_int_index.lookup
    (call_meets F.slot_int_rmul (typeIs_int s x u) F.entry_int_rmul (F.args_int_rmul_2 _ _) (lm_int_rmul_list_any x u _ vs.toArray k _ _)
      ⟨ho, rfl, ⟨_, ho, rfl⟩, call_meets F.slot_list_mul ⟨_, ho, rfl⟩ F.entry_list_mul (F.args_list_mul_2 _ _)
        (lm_list_mul_any _ vs.toArray k _ _ x u (by simp [Builtin.List.listFitsIndex]; (first | lia | omega)) (by (first | lia | omega)) (by unfold Builtin.List.listTooLong; simp only [decide_eq_true_eq, sizeLine_eq, gt_iff_lt, Nat.not_lt]; (first | lia | omega)))
        ⟨ho, ?_⟩⟩)
  rw [listMul_foldl_if]
  exact evp_list rfl (repL_replicate r _) h4
theorem tup_rep {la : Addr} {vs : List Value} {ds : List D} {x : Int} {u : Tok} (hl : s.heap.IsTuple la vs.toArray) (r : RepL s.heap vs ds) (h1 : ds.length = 1) (h2 : 2 ≤ x) (h3 : x ≤ 1000) (h4 : Q (.tup (List.replicate x.toNat ds).flatten)) :
    wpAny (model prog w) A (binaryOp .Mult (.ref la) (.int x u)) (EvP I s true Q) E s := by
  obtain ⟨o, ho, hc, k, hd⟩ := id hl
  obtain ⟨cls, dd, data, sl⟩ := o
  simp only at hc hd
  subst hc hd
  have l1 : vs.toArray.size = 1 := r.length.trans h1
  refine wpAny_binaryOp_repeat_ref (T := "tuple") (U := "int") (by decide) ⟨_, ho, rfl⟩ (fun s' => typeIs_int s' x u) noFill_tuple_mul F.fills_int_mul F.slot_int_rmul repeat_tuple F.slot_int_index.lookup
    (call_meets F.slot_int_rmul (typeIs_int s x u) F.entry_int_rmul (F.args_int_rmul_2 _ _) (tm_rmul x u _ vs.toArray k _ _)
      ⟨ho, rfl, ⟨_, ho, rfl⟩, call_meets F.slot_tuple_mul ⟨_, ho, rfl⟩ F.entry_tuple_mul (F.args_tuple_mul_2 _ _) (tm_mul _ vs.toArray k _ _ x u h2 h3 l1) ⟨ho, ?_⟩⟩)
  rw [listMul_foldl]
  exact evp_tup rfl (k := 0) rfl (repL_replicate r _) h4
theorem add_sound (ra : Rep s.heap va a) (rb : Rep s.heap vb b) (h : addVC a b Q) : wpAny (model prog w) A (binaryOp .Add va vb) (EvP I s true Q) E s := by
  cases a with
  | int a =>
    obtain ⟨t, rfl⟩ := ra.inv
    cases b with
    | int b => obtain ⟨u, rfl⟩ := rb.inv; exact add_int (evp_int h)
    | flt b => obtain ⟨u, rfl⟩ := rb.inv; exact add_if_fits (sm_1023 h.1) (evp_flt h.2)
    | _ => exact h.elim
  | flt a =>
    obtain ⟨t, rfl⟩ := ra.inv
    cases b with
    | int b => obtain ⟨u, rfl⟩ := rb.inv; exact add_fi_fits (sm_1023 h.1) (evp_flt h.2)
    | flt b => obtain ⟨u, rfl⟩ := rb.inv; exact add_float (evp_flt h)
    | _ => exact h.elim
  | bytes a =>
    obtain ⟨t, rfl⟩ := ra.inv
    cases b with
    | bytes b => obtain ⟨u, rfl⟩ := rb.inv; have h1 := h.1; exact KBy.add_bytes (by simp; (first | lia | omega)) fun t' k => evp_bytes (by simp) h.2
    | _ => exact h.elim
  | list a =>
    obtain ⟨la, vs, rfl, hl, r⟩ := ra.inv
    cases b with
    | list b => obtain ⟨lb, ws, rfl, hb, q⟩ := rb.inv; exact list_cat hl hb r q h.1 h.2
    | _ => exact h.elim
  | _ => exact h.elim
theorem sub_sound (ra : Rep s.heap va a) (rb : Rep s.heap vb b) (h : subVC a b Q) : wpAny (model prog w) A (binaryOp .Sub va vb) (EvP I s true Q) E s := by
  cases a with
  | int a =>
    obtain ⟨t, rfl⟩ := ra.inv
    cases b with
    | int b => obtain ⟨u, rfl⟩ := rb.inv; exact sub_int (evp_int h)
    | flt b => obtain ⟨u, rfl⟩ := rb.inv; exact sub_if_fits (sm_1023 h.1) (evp_flt h.2)
    | _ => exact h.elim
  | flt a =>
    obtain ⟨t, rfl⟩ := ra.inv
    cases b with
    | int b => obtain ⟨u, rfl⟩ := rb.inv; exact sub_fi_fits (sm_1023 h.1) (evp_flt h.2)
    | flt b => obtain ⟨u, rfl⟩ := rb.inv; exact sub_float (evp_flt h)
    | _ => exact h.elim
  | _ => exact h.elim
theorem mult_sound (ra : Rep s.heap va a) (rb : Rep s.heap vb b) (h : multVC a b Q) : wpAny (model prog w) A (binaryOp .Mult va vb) (EvP I s true Q) E s := by
  cases a with
  | int a =>
    obtain ⟨t, rfl⟩ := ra.inv
    cases b with
    | int b => obtain ⟨u, rfl⟩ := rb.inv; exact mul_int (evp_int h.2) (h.1.elim (fun q => IntMulOk.of_left (intBits_le q)) fun q => IntMulOk.of_right (intBits_le q))
    | flt b => obtain ⟨u, rfl⟩ := rb.inv; exact mul_if_fits (sm_1023 h.1) (evp_flt h.2)
    | _ => exact h.elim
  | flt a =>
    obtain ⟨t, rfl⟩ := ra.inv
    cases b with
    | int b => obtain ⟨u, rfl⟩ := rb.inv; exact mul_fi_fits (sm_1023 h.1) (evp_flt h.2)
    | flt b => obtain ⟨u, rfl⟩ := rb.inv; exact mul_float (evp_flt h)
    | _ => exact h.elim
  | list a =>
    obtain ⟨la, vs, rfl, hl, r⟩ := ra.inv
    cases b with
    | int b => obtain ⟨u, rfl⟩ := rb.inv; exact list_rep hl r h.1 h.2.1 h.2.2.1 h.2.2.2
    | _ => exact h.elim
  | tup a =>
    obtain ⟨la, vs, rfl, hl, r⟩ := ra.inv
    cases b with
    | int b => obtain ⟨u, rfl⟩ := rb.inv; exact tup_rep hl r h.1 h.2.1 h.2.2.1 h.2.2.2
    | _ => exact h.elim
  | _ => exact h.elim
theorem div_sound (hA : A.handled = none) (ra : Rep s.heap va a) (rb : Rep s.heap vb b) (h : divVC a b Q) : wpAny (model prog w) A (binaryOp .Div va vb) (EvP I s true Q) E s := by
  cases a with
  | int a =>
    obtain ⟨t, rfl⟩ := ra.inv
    cases b with
    | int b => obtain ⟨u, rfl⟩ := rb.inv; exact PySem.Flt.div_ii_fits hA (sm_1023 h.2.1) (fun e => absurd e h.1) fun _ _ => evp_flt h.2.2
    | _ => exact h.elim
  | flt a =>
    obtain ⟨t, rfl⟩ := ra.inv
    cases b with
    | flt b => obtain ⟨u, rfl⟩ := rb.inv; exact truediv_float_or hA (fun e => absurd e h.1) fun _ => evp_flt h.2
    | _ => exact h.elim
  | _ => exact h.elim
theorem mod_sound (hA : A.handled = none) (ra : Rep s.heap va a) (rb : Rep s.heap vb b) (h : modVC a b Q) : wpAny (model prog w) A (binaryOp .Mod va vb) (EvP I s true Q) E s := by
  cases a with
  | int a =>
    obtain ⟨t, rfl⟩ := ra.inv
    cases b with
    | int b => obtain ⟨u, rfl⟩ := rb.inv; exact mod_int h.1 (evp_int h.2)
    | _ => exact h.elim
  | flt a =>
    obtain ⟨t, rfl⟩ := ra.inv
    cases b with
    | flt b => obtain ⟨u, rfl⟩ := rb.inv; exact PySem.Flt.mod_ff hA (fun e => absurd e h.1) fun _ => evp_flt h.2
    | _ => exact h.elim
  | _ => exact h.elim
theorem pow_fits {i j : Int} (h0 : 0 ≤ j) (h1 : j ≤ 1000) (h2 : sm i) : (Builtin.Int.intBits i : Int) * j ≤ 2 ^ 27 :=
  Int.le_trans (Int.mul_le_mul (Int.ofNat_le.mpr (intBits_sm h2)) h1 h0 (by decide)) (by decide)
theorem bin_sound {op : Operator} (hA : A.handled = none) (ra : Rep s.heap va a) (rb : Rep s.heap vb b) (h : binVC op a b Q) : wpAny (model prog w) A (binaryOp op va vb) (EvP I s true Q) E s := by
  cases op with
  | Add => exact add_sound ra rb h
  | Sub => exact sub_sound ra rb h
  | Mult => exact mult_sound ra rb h
  | Div => exact div_sound hA ra rb h
  | Mod => exact mod_sound hA ra rb h
  | FloorDiv => obtain ⟨i, j, t, u, rfl, rfl, k⟩ := iiVC.out h ra rb; exact floordiv_int k.1 (evp_int k.2.2) (Or.inl (PyProof.noPylong_of_log2 (Nat.lt_trans (sm_log k.1 k.2.1) (by decide))))
  | Pow => obtain ⟨i, j, t, u, rfl, rfl, k⟩ := iiVC.out h ra rb; exact pow_int k.1 (pow_fits k.1 k.2.1 k.2.2.1) (evp_int k.2.2.2)
  | LShift => obtain ⟨i, j, t, u, rfl, rfl, k⟩ := iiVC.out h ra rb; exact lshift_int k.1 (by have := intBits_sm k.2.2.1; have := k.2.1; (first | lia | omega)) (evp_int k.2.2.2)
  | RShift => obtain ⟨i, j, t, u, rfl, rfl, k⟩ := iiVC.out h ra rb; exact rshift_int k.1 (evp_int k.2)
  | BitXor => obtain ⟨i, j, t, u, rfl, rfl, k⟩ := iiVC.out h ra rb; exact xor_int (evp_int k)
  | _ => exact h.elim
end
end Mine
end

section -- M3
open PySem PySem.W PyProof.Rows
set_option Elab.async false
set_option linter.unusedVariables false
namespace Mine
open PySem.SeqAt

mutual
noncomputable def eqD : D → D → Bool
  | .none, e => (match e with
    | .none => true
    | _ => false)
  | .bool a, e => (match e with
    | .bool b => a == b
    | _ => false)
  | .int a, e => (match e with
    | .int b => a == b
    | .flt b => Float64.cmpInt b a == some Ordering.eq
    | _ => false)
  | .flt a, e => (match e with
    | .int b => Float64.cmpInt a b == some Ordering.eq
    | .flt b => Float64.cmp a b == some Ordering.eq
    | _ => false)
  | .bytes a, e => (match e with
    | .bytes b => a == b
    | _ => false)
  | .tup a, e => (match e with
    | .tup b => eqDs a b
    | _ => false)
  | .list a, e => (match e with
    | .list b => eqDs a b
    | _ => false)
  | .clo _, _ => false
noncomputable def eqDs : List D → List D → Bool
  | [], bs => bs.isEmpty
  | a :: as, bs => (match bs with
    | [] => false
    | b :: bs => eqD a b && eqDs as bs)
end
mutual
noncomputable def eqOK : D → D → Bool
  | .none, e => (match e with
    | .none => true
    | .tup _ => true
    | _ => false)
  | .bool _, e => (match e with
    | .bool _ => true
    | _ => false)
  | .int _, e => (match e with
    | .int _ => true
    | .flt _ => true
    | _ => false)
  | .flt _, e => (match e with
    | .int _ => true
    | _ => false)
  | .tup a, e => (match e with
    | .none => true
    | .tup b => eqOKs a b
    | _ => false)
  | .list a, e => (match e with
    | .list b => eqOKs a b
    | _ => false)
  | .bytes _, _ => false
  | .clo _, _ => false
noncomputable def eqOKs : List D → List D → Bool
  | [], _ => true
  | a :: as, bs => (match bs with
    | [] => true
    | b :: bs => eqOK a b && eqOKs as bs)
end
mutual
noncomputable def D.dep : D → Nat
  | .tup ds => D.deps ds + 1
  | .list ds => D.deps ds + 1
  | _ => 0
noncomputable def D.deps : List D → Nat
  | [] => 0
  | d :: ds => max d.dep (D.deps ds)
end

noncomputable def eqJ (ds es : List D) (j : Nat) : Bool := match ds[j]? with
  | some d => (match es[j]? with
    | some e => eqD d e
    | none => true)
  | none => true
theorem eqJ_all (ds : List D) : ∀ es : List D, ((List.range (min ds.length es.length)).all (eqJ ds es) && ds.length == es.length) = eqDs ds es := by
  induction ds with
  | nil => intro es; cases es <;> rfl
  | cons d ds ih =>
    intro es
    cases es with
    | nil => rfl
    | cons e es =>
      have ih := ih es
      rw [List.length_cons, List.length_cons, Nat.succ_min_succ, List.range_succ_eq_map, List.all_cons, List.all_map]
      show (eqD d e && (List.range (min ds.length es.length)).all (eqJ ds es) && (ds.length + 1 == es.length + 1)) = (eqD d e && eqDs ds es)
      rw [← ih, Bool.and_assoc, show (ds.length + 1 == es.length + 1) = (ds.length == es.length) by rw [Bool.eq_iff_iff, beq_iff_eq, beq_iff_eq, Nat.add_right_cancel_iff]]
theorem eqDs_len (ds : List D) : ∀ es : List D, ds.length ≠ es.length → eqDs ds es = false := by
  induction ds with
  | nil => intro es h; cases es with
    | nil => exact absurd rfl h
    | cons => rfl
  | cons d ds ih => intro es h; cases es with
    | nil => rfl
    | cons e es => show (eqD d e && eqDs ds es) = false; rw [ih es fun q => h (congrArg Nat.succ q), Bool.and_false]
theorem eqOKs_at {ds : List D} : ∀ {es : List D}, eqOKs ds es = true → ∀ {j : Nat} {d e : D}, ds[j]? = some d → es[j]? = some e → eqOK d e = true := by
  induction ds with
  | nil => intro es _ j d e h; cases h
  | cons a as ih =>
    intro es h j d e h1 h2
    cases es with
    | nil => cases h2
    | cons b bs =>
      obtain ⟨x, y⟩ := (Bool.and_eq_true ..).mp h
      cases j with
      | zero => cases h1; cases h2; exact x
      | succ j => exact ih y h1 h2
theorem deps_at {ds : List D} : ∀ {j : Nat} {d : D}, ds[j]? = some d → d.dep ≤ D.deps ds := by
  induction ds with
  | nil => intro j d h; cases h
  | cons a as ih =>
    intro j d h
    cases j with
    | zero => cases h; exact Nat.le_max_left ..
    | succ j => exact Nat.le_trans (ih h) (Nat.le_max_right ..)
theorem eqD_refl {d : D} : eqOK d d = true → eqD d d = true :=
  D.rec (motive_1 := fun d => eqOK d d = true → eqD d d = true) (motive_2 := fun ds => eqOKs ds ds = true → eqDs ds ds = true) (fun _ => rfl) (fun b _ => by show (b == b) = true; exact beq_self_eq_true b) (fun b _ => by show (b == b) = true; exact beq_self_eq_true b)
    (fun _ e => Bool.noConfusion e) (fun _ e => Bool.noConfusion e) (fun _ i e => i e) (fun _ i e => i e) (fun _ e => Bool.noConfusion e) (fun _ => rfl) (fun _ _ i j e => by
      obtain ⟨x, y⟩ := (Bool.and_eq_true ..).mp e
      exact (Bool.and_eq_true ..).mpr ⟨i x, j y⟩) d

noncomputable def datO (f : Value → D) (a : Addr) (o : Obj) : D := match o.data with
  | .seq xs _ => (match Classical.propDecidable (o.cls = .type "tuple") with
    | .isTrue _ => .tup (xs.toList.map f)
    | .isFalse _ => .list (xs.toList.map f))
  | _ => .clo a
noncomputable def dat (h : Heap) : Nat → Value → D
  | 0, _ => .none
  | n + 1, v => match v with
    | .bool b => .bool b
    | .int i _ => .int i
    | .float x _ => .flt x
    | .bytes b _ => .bytes b.toList
    | .ref a => (match h.get? a with
      | some o => datO (dat h n) a o
      | none => .none)
    | _ => .none
theorem datO_tup {f : Value → D} {a : Addr} {o : Obj} {xs : Array Value} {n : Nat} (hc : o.cls = .type "tuple") (hd : o.data = .seq xs n) : datO f a o = .tup (xs.toList.map f) := by
  unfold datO
  rw [hd]
  show (match Classical.propDecidable (o.cls = .type "tuple") with | .isTrue _ => D.tup (xs.toList.map f) | .isFalse _ => D.list (xs.toList.map f)) = _
  cases Classical.propDecidable (o.cls = .type "tuple") with
  | isTrue _ => rfl
  | isFalse q => exact absurd hc q
theorem datO_list {f : Value → D} {a : Addr} {o : Obj} {xs : Array Value} {n : Nat} (hc : o.cls = .type "list") (hd : o.data = .seq xs n) : datO f a o = .list (xs.toList.map f) := by
  unfold datO
  rw [hd]
  show (match Classical.propDecidable (o.cls = .type "tuple") with | .isTrue _ => D.tup (xs.toList.map f) | .isFalse _ => D.list (xs.toList.map f)) = _
  cases Classical.propDecidable (o.cls = .type "tuple") with
  | isTrue q => rw [hc] at q; injection q with q; exact absurd q (by decide)
  | isFalse q => rfl
theorem Rep.dat {h : Heap} {v : Value} {d : D} (r : Rep h v d) : ∀ {n}, d.dep < n → dat h n v = d :=
  Rep.rec (motive_1 := fun v d _ => ∀ {n}, d.dep < n → Mine.dat h n v = d) (motive_2 := fun vs ds _ => ∀ {n}, D.deps ds < n → vs.map (Mine.dat h n) = ds)
    (fun {n} l => by cases n with | zero => cases l | succ n => rfl) (fun b {n} l => by cases n with | zero => cases l | succ n => rfl) (fun i t {n} l => by cases n with | zero => cases l | succ n => rfl)
    (fun i t {n} l => by cases n with | zero => cases l | succ n => rfl) (fun i t {n} l => by cases n with | zero => cases l | succ n => rfl)
    (fun {a vs ds} ht _ i {n} l => by
      cases n with
      | zero => cases l
      | succ n =>
        obtain ⟨o, ho, hc, k, hd⟩ := ht
        show (match h.get? a with | some o => datO (Mine.dat h n) a o | Option.none => D.none) = _
        rw [ho]
        exact (datO_tup hc hd).trans (congrArg D.tup (i (Nat.lt_of_succ_lt_succ l))))
    (fun {a vs ds} ht _ i {n} l => by
      cases n with
      | zero => cases l
      | succ n =>
        obtain ⟨k, ho⟩ := ht
        show (match h.get? a with | some o => datO (Mine.dat h n) a o | Option.none => D.none) = _
        rw [ho]
        exact (datO_list rfl rfl).trans (congrArg D.list (i (Nat.lt_of_succ_lt_succ l))))
    (fun {f o fd} ho hd {n} l => by
      cases n with
      | zero => cases l
      | succ n =>
        show (match h.get? f with | some o => datO (Mine.dat h n) f o | Option.none => D.none) = _
        rw [ho]
        show datO _ f o = _
        unfold datO
        rw [hd])
    (fun {n} _ => rfl) (fun {v vs d ds} _ _ i j {n} l => List.cons_eq_cons.mpr ⟨i (Nat.lt_of_le_of_lt (Nat.le_max_left ..) l), j (Nat.lt_of_le_of_lt (Nat.le_max_right ..) l)⟩) r
theorem Rep.uniq {h : Heap} {v : Value} {d e : D} (r : Rep h v d) (q : Rep h v e) : d = e :=
  (r.dat (Nat.lt_succ_of_le (Nat.le_max_left d.dep e.dep))).symm.trans (q.dat (Nat.lt_succ_of_le (Nat.le_max_right ..)))

section
variable {s : Shared} {A : Around}
theorem eqAt_flt_int (a : UInt64) (t : Tok) (b : Int) (u : Tok) (A : Around) : EqAt A s (.float a t) (.int b u) (Float64.cmpInt a b == some Ordering.eq) := fun prog w E Q h => by
  unfold eqBool
  refine wpAny_holding ?_
  refine wpAny_ite_split (fun hab => nomatch eq_of_beq hab) (fun _ => ?_)
  exact wpAny_bind (eq_fi (wpAny_truthy_bool h))
theorem eqAt_int_flt (a : UInt64) (t : Tok) (b : Int) (u : Tok) (A : Around) : EqAt A s (.int b u) (.float a t) (Float64.cmpInt a b == some Ordering.eq) := fun prog w E Q h => by
  unfold eqBool
  refine wpAny_holding ?_
  refine wpAny_ite_split (fun hab => nomatch eq_of_beq hab) (fun _ => ?_)
  exact wpAny_bind (eq_if (wpAny_truthy_bool h))
theorem rep_items {h : Heap} {vs ws : List Value} {ds es : List D} (r : RepL h vs ds) (q : RepL h ws es) {P : Value → Value → Bool → Prop} (hp : ∀ (j : Nat) (v w : Value) (d e : D), ds[j]? = some d → es[j]? = some e → Rep h v d → Rep h w e → P v w (eqD d e)) :
    ∀ j (h1 : j < vs.toArray.size) (h2 : j < ws.toArray.size), P vs.toArray[j] ws.toArray[j] (eqJ ds es j) := fun j h1 h2 => by
  have e1 : vs[j]? = some vs.toArray[j] := by simp at h1; simp [h1]
  have e2 : ws[j]? = some ws.toArray[j] := by simp at h2; simp [h2]
  obtain ⟨d, e3, r3⟩ := r.get' e1
  obtain ⟨e, e4, r4⟩ := q.get' e2
  have : eqJ ds es j = eqD d e := by unfold eqJ; rw [e3, e4]
  rw [this]
  exact hp j _ _ d e e3 e4 r3 r4
theorem sizes_tup {vs ws : List Value} {ds es : List D} (e1 : vs.length = ds.length) (e2 : ws.length = es.length) : ((List.range (min (List.toArray vs).size (List.toArray ws).size)).all (eqJ ds es) && (List.toArray vs).size == (List.toArray ws).size) = eqDs ds es := by
  rw [← eqJ_all, List.size_toArray, List.size_toArray, e1, e2]
theorem sizes_list {vs ws : List Value} {ds es : List D} (e1 : vs.length = ds.length) (e2 : ws.length = es.length) (e : vs.length = ws.length) : (List.range (List.toArray vs).size).all (eqJ ds es) = eqDs ds es := by
  rw [← sizes_tup e1 e2, List.size_toArray, List.size_toArray, e, Nat.min_self, beq_self_eq_true, Bool.and_true]
theorem eqAt_rep : ∀ (n : Nat) (A : Around) (d e : D) (v w : Value), d.dep ≤ n → A.units + n < cLine → Rep s.heap v d → Rep s.heap w e → eqOK d e = true → EqAt A s v w (eqD d e) := by
  intro n
  induction n with
  | zero =>
    intro A d e v w hn hu r q ok
    have lt := hu
    cases d with
    | none =>
      cases r.inv
      cases e with
      | none => cases q.inv; exact EqAt.same _
      | tup ds => obtain ⟨a, vs, rfl, hq, _⟩ := q.inv; exact EqAt.none_tuple hq (by (first | lia | omega))
      | _ => exact Bool.noConfusion ok
    | bool b =>
      cases r.inv
      cases e with
      | bool c => cases q.inv; exact EqAt.bool_bool _ _
      | _ => exact Bool.noConfusion ok
    | int i =>
      obtain ⟨t, rfl⟩ := r.inv
      cases e with
      | int i => obtain ⟨u, rfl⟩ := q.inv; exact EqAt.int_int _ _ _ _
      | flt x => obtain ⟨u, rfl⟩ := q.inv; exact eqAt_int_flt _ _ _ _ _
      | _ => exact Bool.noConfusion ok
    | flt x =>
      obtain ⟨t, rfl⟩ := r.inv
      cases e with
      | int i => obtain ⟨u, rfl⟩ := q.inv; exact eqAt_flt_int _ _ _ _ _
      | _ => exact Bool.noConfusion ok
    | tup ds => exact absurd hn (Nat.not_succ_le_zero _)
    | list ds => exact absurd hn (Nat.not_succ_le_zero _)
    | _ => exact Bool.noConfusion ok
  | succ n ih =>
    intro A d e v w hn hu r q ok
    have down : d.dep = 0 → EqAt A s v w (eqD d e) := fun z => ih A d e v w (z ▸ Nat.zero_le _) (by (first | lia | omega)) r q ok
    cases d with
    | tup ds =>
      obtain ⟨a, vs, rfl, ht, rs⟩ := r.inv
      cases e with
      | none => cases q.inv; exact EqAt.tuple_none ht (by (first | lia | omega))
      | tup es =>
        obtain ⟨b, ws, rfl, ht', qs⟩ := q.inv
        by_cases hab : a = b
        · subst hab
          cases r.uniq q
          rw [eqD_refl ok]
          exact EqAt.same _
        · refine EqAt.of_refs hab ?_
          have z := RcAt.tuples (A := A) ht ht' (by (first | lia | omega)) (rep_items rs qs (P := fun v w b => EqAt A.in1 s v w b) fun j v w d e e3 e4 r3 r4 => ih A.in1 d e v w (Nat.le_trans (deps_at e3) (Nat.le_of_succ_le_succ hn)) (by show A.units + 1 + n < cLine; (first | lia | omega)) r3 r4 (eqOKs_at ok e3 e4))
          rw [sizes_tup rs.length qs.length] at z
          exact z
      | _ => exact Bool.noConfusion ok
    | list ds =>
      obtain ⟨a, vs, rfl, ht, rs⟩ := r.inv
      cases e with
      | list es =>
        obtain ⟨b, ws, rfl, ht', qs⟩ := q.inv
        by_cases hab : a = b
        · subst hab
          cases r.uniq q
          rw [eqD_refl ok]
          exact EqAt.same _
        · refine EqAt.of_refs hab ?_
          show RcAt A s _ _ (eqDs ds es)
          by_cases hl : vs.length = ws.length
          · have z := RcAt.lists (A := A) ht.isList ht'.isList (by simpa using hl) (by (first | lia | omega)) (rep_items rs qs (P := fun v w b => EqAt A.in1 s v w b) fun j v w d e e3 e4 r3 r4 => ih A.in1 d e v w (Nat.le_trans (deps_at e3) (Nat.le_of_succ_le_succ hn)) (by show A.units + 1 + n < cLine; (first | lia | omega)) r3 r4 (eqOKs_at ok e3 e4))
            rw [sizes_list rs.length qs.length hl] at z
            exact z
          · rw [eqDs_len _ _ (by rw [← rs.length, ← qs.length]; exact hl)]
            exact RcAt.lists_lengths ht.isList ht'.isList (by simpa using hl) (by (first | lia | omega))
      | _ => exact Bool.noConfusion ok
    | _ => exact down rfl
end
end Mine
end

section -- M4
open PySem PySem.W PyProof.Rows
set_option Elab.async false
set_option linter.unusedVariables false
namespace Mine
open PySem.SeqAt PySem.Calls

noncomputable def cmpOK (d e : D) : Bool := match d with
  | .flt _ => (match e with
    | .flt _ => true
    | .int _ => true
    | _ => false)
  | .bytes _ => (match e with
    | .bytes _ => true
    | _ => false)
  | _ => eqOK d e
noncomputable def anyD (ds : List D) (x : D) (Q : Bool → Prop) : Prop := ds.all (fun d => eqOK d x) = true ∧ D.deps ds ≤ 60 ∧ Q (ds.any fun d => eqD d x)
noncomputable def inVC (a b : D) (Q : Bool → Prop) : Prop := match b with
  | .list ds => (match a with
    | .none => anyD ds .none Q
    | _ => False)
  | .bytes l => (match a with
    | .int n => 0 ≤ n ∧ n < 256 ∧ Q (l.contains n.toNat.toUInt8)
    | _ => False)
  | _ => False
noncomputable def cmpVC (op : CmpOp) (a b : D) (Q : Bool → Prop) : Prop := match op with
  | .Eq => cmpOK a b = true ∧ a.dep ≤ 60 ∧ Q (eqD a b)
  | .NotEq => cmpOK a b = true ∧ a.dep ≤ 60 ∧ Q (!eqD a b)
  | .Lt => iiVC a b fun a b => Q (decide (a < b))
  | .LtE => iiVC a b fun a b => Q (decide (a ≤ b))
  | .Gt => iiVC a b fun a b => Q (decide (b < a))
  | .GtE => iiVC a b fun a b => Q (decide (b ≤ a))
  | .In => inVC a b Q
  | _ => False

section
variable {prog : Program} {w : World} {A : Around} {E : Value → Shared → Prop} {s : Shared}

theorem rc_rep {d e : D} {v u : Value} (hn : d.dep ≤ 60) (hu : A.units + 100 < cLine) (r : Rep s.heap v d) (q : Rep s.heap u e) (ok : cmpOK d e = true) : RcAt A s v u (eqD d e) ∧ RcNeAt A s v u (!eqD d e) := by
  have items : ∀ {vs ws : List Value} {ds es : List D}, D.deps ds ≤ 60 → RepL s.heap vs ds → RepL s.heap ws es → eqOKs ds es = true → ∀ j (h1 : j < vs.toArray.size) (h2 : j < ws.toArray.size), EqAt A.in1 s vs.toArray[j] ws.toArray[j] (eqJ ds es j) := fun hn rs qs ok =>
    rep_items rs qs (P := fun v w b => EqAt A.in1 s v w b) fun j v w d e e3 e4 r3 r4 => eqAt_rep 60 A.in1 d e v w (Nat.le_trans (deps_at e3) hn) (by show A.units + 1 + 60 < cLine; (first | lia | omega)) r3 r4 (eqOKs_at ok e3 e4)
  have hu2 : A.units + 2 < cLine := by (first | lia | omega)
  cases d with
  | none =>
    cases r.inv
    cases e with
    | none => cases q.inv; exact ⟨RcAt.none_none, RcNeAt.none_none⟩
    | tup ds => obtain ⟨a, vs, rfl, hq, _⟩ := q.inv; exact ⟨RcAt.none_tuple hq (by (first | lia | omega)), RcNeAt.none_tuple hq (by (first | lia | omega))⟩
    | _ => exact Bool.noConfusion ok
  | bool b =>
    cases r.inv
    cases e with
    | bool c => cases q.inv; exact ⟨RcAt.bool_bool _ _, RcNeAt.bool_bool _ _⟩
    | _ => exact Bool.noConfusion ok
  | int i =>
    obtain ⟨t, rfl⟩ := r.inv
    cases e with
    | int i => obtain ⟨u, rfl⟩ := q.inv; exact ⟨RcAt.int_int _ _ _ _, RcNeAt.int_int _ _ _ _⟩
    | flt x => obtain ⟨u, rfl⟩ := q.inv; exact ⟨fun prog w E Q h => eq_if h, fun prog w E Q h => ne_if h⟩
    | _ => exact Bool.noConfusion ok
  | flt x =>
    obtain ⟨t, rfl⟩ := r.inv
    cases e with
    | int i => obtain ⟨u, rfl⟩ := q.inv; exact ⟨fun prog w E Q h => eq_fi h, fun prog w E Q h => ne_fi h⟩
    | flt y => obtain ⟨u, rfl⟩ := q.inv; exact ⟨fun prog w E Q h => PySem.AutoFloatOps.eq_0 h, fun prog w E Q h => PySem.AutoFloatOps.ne_0 h⟩
    | _ => exact Bool.noConfusion ok
  | bytes l =>
    obtain ⟨t, rfl⟩ := r.inv
    cases e with
    | bytes l' =>
      obtain ⟨u, rfl⟩ := q.inv
      exact ⟨fun prog w E Q h => eq_bytes (by simpa [eqD] using h), fun prog w E Q h => ne_bytes (by simpa [eqD, bne] using h)⟩
    | _ => exact Bool.noConfusion ok
  | clo f => exact Bool.noConfusion ok
  | tup ds =>
    obtain ⟨a, vs, rfl, ht, rs⟩ := r.inv
    cases e with
    | none => cases q.inv; exact ⟨RcAt.tuple_none ht (by (first | lia | omega)), RcNeAt.tuple_none ht (by (first | lia | omega))⟩
    | tup es =>
      obtain ⟨b, ws, rfl, ht', qs⟩ := q.inv
      have it := items (Nat.le_of_succ_le hn) rs qs ok
      have z := RcAt.tuples (A := A) ht ht' (by (first | lia | omega)) it
      have z' := RcNeAt.tuples (A := A) ht ht' (by (first | lia | omega)) it
      rw [sizes_tup rs.length qs.length] at z z'
      exact ⟨z, z'⟩
    | _ => exact Bool.noConfusion ok
  | list ds =>
    obtain ⟨a, vs, rfl, ht, rs⟩ := r.inv
    cases e with
    | list es =>
      obtain ⟨b, ws, rfl, ht', qs⟩ := q.inv
      show RcAt A s _ _ (eqDs ds es) ∧ RcNeAt A s _ _ (!eqDs ds es)
      by_cases hl : vs.length = ws.length
      · have it := items (Nat.le_of_succ_le hn) rs qs ok
        have z := RcAt.lists (A := A) ht.isList ht'.isList (by simpa using hl) (by (first | lia | omega)) it
        have z' := RcNeAt.lists (A := A) ht.isList ht'.isList (by simpa using hl) (by (first | lia | omega)) it
        rw [sizes_list rs.length qs.length hl] at z z'
        exact ⟨z, z'⟩
      · rw [eqDs_len _ _ (by rw [← rs.length, ← qs.length]; exact hl)]
        exact ⟨RcAt.lists_lengths ht.isList ht'.isList (by simpa using hl) (by (first | lia | omega)), RcNeAt.lists_lengths ht.isList ht'.isList (by simpa using hl) (by (first | lia | omega))⟩
    | _ => exact Bool.noConfusion ok

noncomputable def isX (h : Heap) (x : D) (y : Value) : Bool := match Classical.propDecidable (∃ d, Rep h y d ∧ eqD d x = true) with
  | .isTrue _ => true
  | .isFalse _ => false
theorem isX_eq {h : Heap} {x : D} {y : Value} {d : D} (r : Rep h y d) : isX h x y = eqD d x := by
  unfold isX
  cases Classical.propDecidable (∃ d, Rep h y d ∧ eqD d x = true) with
  | isTrue q => obtain ⟨d', r', e⟩ := q; rw [r.uniq r']; exact e.symm
  | isFalse q => exact (Bool.eq_false_iff.mpr fun e => q ⟨d, r, e⟩).symm
theorem any_rep {h : Heap} {x : D} {vs : List Value} {ds : List D} (r : RepL h vs ds) : vs.any (isX h x) = ds.any fun d => eqD d x :=
  r.ind (P := fun vs ds => vs.any (isX h x) = ds.any fun d => eqD d x) rfl fun r _ i => by rw [List.any_cons, List.any_cons, i, isX_eq r]
theorem eqAt_item {x : D} {u : Value} {vs : List Value} {ds : List D} (hu : A.units + 100 < cLine) (rb : RepL s.heap vs ds) (rx : Rep s.heap u x) (h1 : ds.all (fun d => eqOK d x) = true) (h2 : D.deps ds ≤ 60) {y : Value} (hy : y ∈ vs) : EqAt A.in1 s y u (isX s.heap x y) := by
  obtain ⟨j, hj⟩ := List.mem_iff_getElem?.mp hy
  obtain ⟨d, e, r⟩ := rb.get' hj
  rw [isX_eq r]
  exact eqAt_rep 60 A.in1 d x y u (Nat.le_trans (deps_at e) h2) (by show A.units + 1 + 60 < cLine; (first | lia | omega)) r rx (List.all_eq_true.mp h1 d (List.mem_of_getElem? e))
theorem cmp_sound {op : CmpOp} {va vb : Value} {a b : D} {Q : Bool → Prop} {K : Value → Shared → Prop} (hu : A.units + 100 < cLine) (ra : Rep s.heap va a) (rb : Rep s.heap vb b) (h : cmpVC op a b Q) (hK : ∀ c, Q c → K (.bool c) s) :
    wpAny (model prog w) A (compareOp op va vb) K E s := by
  cases op with
  | Eq => exact (rc_rep h.2.1 hu ra rb h.1).1 prog w E K (hK _ h.2.2)
  | NotEq => exact (rc_rep h.2.1 hu ra rb h.1).2 prog w E K (hK _ h.2.2)
  | Lt => obtain ⟨i, j, t, u, rfl, rfl, k⟩ := iiVC.out h ra rb; exact P.lt_int (hK _ k)
  | LtE => obtain ⟨i, j, t, u, rfl, rfl, k⟩ := iiVC.out h ra rb; exact P.le_int (hK _ k)
  | Gt => obtain ⟨i, j, t, u, rfl, rfl, k⟩ := iiVC.out h ra rb; exact P.gt_int (hK _ k)
  | GtE => obtain ⟨i, j, t, u, rfl, rfl, k⟩ := iiVC.out h ra rb; exact P.ge_int (hK _ k)
  | In =>
    cases b with
    | list ds =>
      obtain ⟨lb, vs, rfl, hl, rs⟩ := rb.inv
      cases a with
      | none =>
        cases ra.inv
        refine in_listAt (isX s.heap .none) hl.isList (fun y hy => eqAt_item hu rs .none h.1 h.2.1 (List.mem_toArray.mp hy)) ?_
        rw [List.any_toArray, any_rep rs]
        exact hK _ h.2.2
      | _ => exact h.elim
    | bytes l =>
      obtain ⟨t, rfl⟩ := rb.inv
      cases a with
      | int n =>
        obtain ⟨u, rfl⟩ := ra.inv
        refine in_bytes h.1 h.2.1 ?_
        rw [List.contains_toArray]
        exact hK _ h.2.2
      | _ => exact h.elim
    | _ => exact h.elim
  | _ => exact h.elim
end

noncomputable def unVC (op : UnaryOp) (a : D) (Q : D → Prop) : Prop := match a with
  | .int a => (match op with
    | .USub => Q (.int (-a))
    | .Invert => Q (.int (-a - 1))
    | _ => False)
  | _ => False
noncomputable def truVC (a : D) (Q : Bool → Prop) : Prop := match a with
  | .none => Q false
  | .bool b => Q b
  | .int a => Q (a != 0)
  | .list ds => ds.length ≤ 10000 ∧ Q (!ds.isEmpty)
  | _ => False

section
variable {prog : Program} {w : World} {A : Around} {E : Value → Shared → Prop} {I : TInv} {s : Shared}
theorem un_sound {op : UnaryOp} {va : Value} {a : D} {Q : D → Prop} (ra : Rep s.heap va a) (h : unVC op a Q) : wpAny (model prog w) A (unaryOp op va) (EvP I s true Q) E s := by
  cases a with
  | int a =>
    obtain ⟨t, rfl⟩ := ra.inv
    cases op with
    | USub => exact neg_int (evp_int h)
    | Invert => exact invert_int (evp_int h)
    | _ => exact h.elim
  | _ => exact h.elim
theorem tru_sound {va : Value} {a : D} {Q : Bool → Prop} {K : Bool → Shared → Prop} (ra : Rep s.heap va a) (h : truVC a Q) (hK : ∀ c tk, Q c → K c { s with toks := tk }) : wpAny (model prog w) A (truthy va) K E s := by
  cases a with
  | none => cases ra.inv; exact truthy_none (hK _ s.toks h)
  | bool b => cases ra.inv; exact wpAny_truthy_bool (hK _ s.toks h)
  | int a => obtain ⟨t, rfl⟩ := ra.inv; exact truthy_int (hK _ s.toks h)
  | list ds =>
    obtain ⟨la, vs, rfl, hl, rs⟩ := ra.inv
    have := rs.length
    have h1 := h.1
    refine wpAny_truthy_list hl.isList (by simp; (first | lia | omega)) ?_
    have e : (!vs.toArray.isEmpty) = !ds.isEmpty := by
      cases vs with
      | nil => cases ds with
        | nil => rfl
        | cons => cases this
      | cons => cases ds with
        | nil => cases this
        | cons => rfl
    rw [e]
    exact hK _ _ h.2
  | _ => exact h.elim
end

noncomputable def idxOK (k : Int) (n : Nat) : Prop := -(n : Int) ≤ k ∧ k < n ∧ n ≤ 10000
noncomputable def idx (k : Int) (n : Nat) : Nat := if k < 0 then (k + n).toNat else k.toNat
noncomputable def itemAt (i : D) (ds : List D) (Q : D → Prop) : Prop := match i with
  | .int k => idxOK k ds.length ∧ Q (ds.getD (idx k ds.length) .none)
  | _ => False
noncomputable def itemVC (c i : D) (Q : D → Prop) : Prop := match c with
  | .list ds => itemAt i ds Q
  | .tup ds => itemAt i ds Q
  | _ => False
theorem idx_lt {k : Int} {n : Nat} (h : idxOK k n) : idx k n < n := by
  unfold idx; obtain ⟨a, b, c⟩ := h; split <;> (first | lia | omega)
section
variable {prog : Program} {w : World} {A : Around} {E : Value → Shared → Prop} {I : TInv} {s : Shared}
theorem subscripted_ops (slice : Expr) (o i : Value) : ∃ ops, subscripted slice false o i = operate ops (getItem o i) := by
  cases slice with
  | Slice l u st p => cases st with
    | none => exact ⟨_, rfl⟩
    | some e => exact ⟨_, rfl⟩
  | _ => exact ⟨_, rfl⟩
theorem itemAt.out {vi : Value} {i : D} {vs : List Value} {ds : List D} {Q : D → Prop} (h : itemAt i ds Q) (ri : Rep s.heap vi i) (rs : RepL s.heap vs ds) :
    ∃ k t v, vi = .int k t ∧ idxOK k vs.length ∧ vs[idx k vs.length]? = some v ∧ EvP I s false Q v s := by
  cases i with
  | int k =>
    obtain ⟨t, rfl⟩ := ri.inv
    have hlt := idx_lt h.1
    obtain ⟨v, ev, rv⟩ := rs.get (k := idx k ds.length) (d := ds.getD (idx k ds.length) .none) (by rw [List.getD_eq_getElem?_getD, List.getElem?_eq_getElem hlt]; rfl)
    rw [← rs.length] at ev
    exact ⟨k, t, v, rfl, rs.length ▸ h.1, ev, s.heap, s.toks, _, rfl, .refl _, rv, (fun e => by cases e), h.2⟩
  | _ => exact h.elim
theorem item_sound {value slice : Expr} {vc vi : Value} {c i : D} {Q : D → Prop} (rc : Rep s.heap vc c) (ri : Rep s.heap vi i) (h : itemVC c i Q) : wpAny (model prog w) A (subscriptTail value slice vc vi) (EvP I s false Q) E s := by
  obtain ⟨ops, hops⟩ := subscripted_ops slice vc vi
  cases c with
  | list ds =>
    obtain ⟨la, vs, rfl, hl, rs⟩ := rc.inv
    obtain ⟨k, t, v, rfl, ok, ev, fin⟩ := itemAt.out (I := I) h ri rs
    have hl := hl.isList
    obtain ⟨o1, o2, o3⟩ := ok
    by_cases hk : k < 0
    · refine tail_any hl.typeIs slot_list_getitem.lookup (wpAny_getItem_list_neg hl hk (by simp; (first | lia | omega)) (by (first | lia | omega)) ?_ fin) hops
      have : (k + (vs.toArray.size : Int)).toNat = idx k vs.length := by unfold idx; rw [if_pos hk]; rfl
      rw [this, List.getElem?_toArray]; exact ev
    · refine tail_any hl.typeIs slot_list_getitem.lookup (wpAny_getItem_list hl (by (first | lia | omega)) (by (first | lia | omega)) ?_ fin) hops
      have : k.toNat = idx k vs.length := by unfold idx; rw [if_neg hk]
      rw [this, List.getElem?_toArray]; exact ev
  | tup ds =>
    obtain ⟨la, vs, rfl, hl, rs⟩ := rc.inv
    obtain ⟨k, t, v, rfl, ok, ev, fin⟩ := itemAt.out (I := I) h ri rs
    have ht : PyProof.Rows.IsTup s.heap la vs.toArray := hl
    obtain ⟨o1, o2, o3⟩ := ok
    refine tail_any ht.typeIs slot_tuple_getitem.lookup (PyProof.Rows.getItem_tuple ht (by (first | lia | omega)) (by (first | lia | omega)) (j := idx k vs.length) ?_ (by rw [List.getElem?_toArray]; exact ev) fin) hops
    unfold seqIndex? idx
    by_cases hk : k < 0
    · rw [if_pos hk, if_pos hk]; simp; (first | lia | omega)
    · rw [if_neg hk, if_neg hk]; simp; (first | lia | omega)
  | _ => exact h.elim
end
end Mine
end

section -- M5
open PySem PySem.W PyProof.Rows
set_option Elab.async false
set_option linter.unusedVariables false
namespace Mine
open PySem.SeqAt PySem.Calls

inductive Bi where
  | max | min | sum | len | abs | divmod | sorted | isinstance | int | tuple | range | reversed
noncomputable def Bi.val : Bi → Value
  | .max => .builtin "max"
  | .min => .builtin "min"
  | .sum => .builtin "sum"
  | .len => .builtin "len"
  | .abs => .builtin "abs"
  | .divmod => .builtin "divmod"
  | .sorted => .builtin "sorted"
  | .isinstance => .builtin "isinstance"
  | .int => .type "int"
  | .tuple => .type "tuple"
  | .range => .type "range"
  | .reversed => .type "reversed"

noncomputable def ints? : List D → Option (List Int)
  | [] => some []
  | .int i :: r => (ints? r).map (i :: ·)
  | _ :: _ => none
theorem intsAre_of {h : Heap} {vs : List Value} {ds : List D} (r : RepL h vs ds) : ∀ {ns : List Int}, ints? ds = some ns → IntsAre vs ns :=
  r.ind (P := fun vs ds => ∀ {ns : List Int}, ints? ds = some ns → IntsAre vs ns) (fun e => by cases e; exact .nil) fun {v vs d ds} r _ i {ns} e => by
    cases d with
    | int x =>
      obtain ⟨t, rfl⟩ := r.inv
      obtain ⟨ns, e1, rfl⟩ := Option.map_eq_some_iff.mp e
      exact .cons x t (i e1)
    | _ => cases e
theorem ints2 {vs : List Value} {a b : Int} (h : IntsAre vs [a, b]) : ∃ t u, vs = [.int a t, .int b u] := by
  cases h with | cons _ t h => cases h with | cons _ u h => cases h; exact ⟨t, u, rfl⟩
theorem ints3 {vs : List Value} {a b c : Int} (h : IntsAre vs [a, b, c]) : ∃ t u v, vs = [.int a t, .int b u, .int c v] := by
  cases h with | cons _ t h => obtain ⟨u, v, rfl⟩ := ints2 h; exact ⟨t, u, v, rfl⟩

noncomputable def intsVC (ds : List D) (K : List Int → Prop) : Prop := match ints? ds with
  | some ns => K ns
  | none => False
noncomputable def maxN (ns : List Int) (Q : D → Prop) : Prop := match ns with
  | [a, b, c] => Q (.int (if b > a then (if c > b then c else b) else (if c > a then c else a)))
  | [a, b] => Q (.int (if b > a then b else a))
  | _ => False
noncomputable def maxT (d : D) (Q : D → Prop) : Prop := match d with
  | .tup es => ∃ ns, ints? es = some ns ∧ 0 < ns.length ∧ ∀ M, M ∈ ns → (∀ a, a ∈ ns → a ≤ M) → Q (.int M)
  | _ => False
noncomputable def maxVC (ds : List D) (Q : D → Prop) : Prop := match ds with
  | [] => False
  | d :: r => (match r with
    | [] => maxT d Q
    | e :: r => intsVC (d :: e :: r) fun ns => maxN ns Q)
noncomputable def minN (ns : List Int) (Q : D → Prop) : Prop := match ns with
  | [a, b, c] => Q (.int (if b < a then (if c < b then c else b) else (if c < a then c else a)))
  | [a, b] => Q (.int (if b < a then b else a))
  | _ => False
noncomputable def divmodN (ns : List Int) (Q : D → Prop) : Prop := match ns with
  | [a, b] => b ≠ 0 ∧ sm b ∧ Q (.tup [.int (a.fdiv b), .int (a.fmod b)])
  | _ => False
noncomputable def oneVC (ds : List D) (K : D → Prop) : Prop := match ds with
  | [d] => K d
  | _ => False
noncomputable def sumD (d : D) (Q : D → Prop) : Prop := match d with
  | .list ds => ∃ ns, ints? ds = some ns ∧ Q (.int ns.sum)
  | .tup ds => ∃ ns, ints? ds = some ns ∧ Q (.int ns.sum)
  | _ => False
noncomputable def lenD (d : D) (Q : D → Prop) : Prop := match d with
  | .list ds => ds.length ≤ 10000 ∧ Q (.int ds.length)
  | .tup ds => ds.length ≤ 10000 ∧ Q (.int ds.length)
  | .bytes l => l.length ≤ 10000 ∧ Q (.int l.length)
  | _ => False
noncomputable def absD (d : D) (Q : D → Prop) : Prop := match d with
  | .int a => Q (.int (if a < 0 then -a else a))
  | _ => False
noncomputable def intD (d : D) (Q : D → Prop) : Prop := match d with
  | .int a => Q (.int a)
  | .flt x => Float64.isFinite x = true ∧ Q (.int (PySem.Flt.toInt Float64.truncOf x))
  | _ => False
noncomputable def tupD (d : D) (Q : D → Prop) : Prop := match d with
  | .list ds => ds.length ≤ 10000 ∧ Q (.tup ds)
  | _ => False
noncomputable def biVC (b : Bi) (ds : List D) (Q : D → Prop) : Prop := match b with
  | .max => maxVC ds Q
  | .min => intsVC ds fun ns => minN ns Q
  | .divmod => intsVC ds fun ns => divmodN ns Q
  | .sum => oneVC ds fun d => sumD d Q
  | .len => oneVC ds fun d => lenD d Q
  | .abs => oneVC ds fun d => absD d Q
  | .int => oneVC ds fun d => intD d Q
  | .tuple => oneVC ds fun d => tupD d Q
  | _ => False

section
variable {prog : Program} {w : World} {A : Around} {E : Value → Shared → Prop} {I : TInv} {s : Shared} {Q : D → Prop}
theorem evp_grown {fr : Bool} {h' : Heap} {tk : Nat} {v : Value} {d : D} (k : ∀ b o, s.heap.get? b = some o → h'.get? b = some o) (r : Rep h' v d) (lf : d.lf = true) (q : Q d) : EvP I s fr Q v { s with heap := h', toks := tk } :=
  ⟨h', tk, d, rfl, .of k, r, fun _ => .inl lf, q⟩
theorem evp_grown_int {fr : Bool} {h' : Heap} {tk : Nat} {i : Int} {t : Tok} (k : ∀ b o, s.heap.get? b = some o → h'.get? b = some o) (q : Q (.int i)) : EvP I s fr Q (.int i t) { s with heap := h', toks := tk } :=
  evp_grown k (.int i t) rfl q
theorem intsVC.out {vs : List Value} {ds : List D} {K : List Int → Prop} (h : intsVC ds K) (r : RepL s.heap vs ds) : ∃ ns, IntsAre vs ns ∧ K ns := by
  unfold intsVC at h
  cases e : ints? ds with
  | none => rw [e] at h; exact h.elim
  | some ns => rw [e] at h; exact ⟨ns, intsAre_of r e, h⟩
theorem oneVC.out {vs : List Value} {ds : List D} {K : D → Prop} (h : oneVC ds K) (r : RepL s.heap vs ds) : ∃ v d, vs = [v] ∧ Rep s.heap v d ∧ K d := by
  cases ds with
  | nil => exact h.elim
  | cons d ds => cases ds with
    | nil =>
      obtain ⟨v, ws, rfl, r1, q⟩ := r.inv
      cases q.inv
      exact ⟨v, d, rfl, r1, h⟩
    | cons => exact h.elim
theorem maxN_sound {vs : List Value} {ns : List Int} (hA : A.handled = none) (hi : IntsAre vs ns) (h : maxN ns Q) : wpAny (model prog w) A (call (.builtin "max") vs) (EvP I s true Q) E s := by
  match ns with
  | [a, b, c] =>
    obtain ⟨t, u, v, rfl⟩ := ints3 hi
    refine max_three_ints hA fun h' tk k => ?_
    (repeat' split) <;> exact evp_grown_int k (by simpa [maxN, *] using h)
  | [a, b] =>
    obtain ⟨t, u, rfl⟩ := ints2 hi
    refine max_two_ints hA fun h' tk k => ?_
    (repeat' split) <;> exact evp_grown_int k (by simpa [maxN, *] using h)
  | [] => exact h.elim
  | [_] => exact h.elim
  | _ :: _ :: _ :: _ :: _ => exact h.elim
theorem maxVC_sound {vs : List Value} {ds : List D} (hA : A.handled = none) (r : RepL s.heap vs ds) (h : maxVC ds Q) : wpAny (model prog w) A (call (.builtin "max") vs) (EvP I s true Q) E s := by
  cases ds with
  | nil => exact h.elim
  | cons d ds => cases ds with
    | nil =>
      obtain ⟨v, ws, rfl, r1, q⟩ := r.inv
      cases q.inv
      cases d with
      | tup es =>
        obtain ⟨la, vs, rfl, hl, rs⟩ := r1.inv
        obtain ⟨ns, e, h0, hq⟩ := h
        exact max_tup hA hl (intsAre_of rs e) h0 fun h' M u tk k m1 m2 => evp_grown_int k (hq M m1 m2)
      | _ => exact h.elim
    | cons => obtain ⟨ns, hi, k⟩ := intsVC.out h r; exact maxN_sound hA hi k
theorem minN_sound {vs : List Value} {ns : List Int} (hA : A.handled = none) (hi : IntsAre vs ns) (h : minN ns Q) : wpAny (model prog w) A (call (.builtin "min") vs) (EvP I s true Q) E s := by
  match ns with
  | [a, b, c] =>
    obtain ⟨t, u, v, rfl⟩ := ints3 hi
    refine min_three_ints hA fun h' tk k => ?_
    (repeat' split) <;> exact evp_grown_int k (by simpa [minN, *] using h)
  | [a, b] =>
    obtain ⟨t, u, rfl⟩ := ints2 hi
    refine min_two_ints hA fun h' tk k => ?_
    (repeat' split) <;> exact evp_grown_int k (by simpa [minN, *] using h)
  | [] => exact h.elim
  | [_] => exact h.elim
  | _ :: _ :: _ :: _ :: _ => exact h.elim
theorem divmodN_sound {vs : List Value} {ns : List Int} (hi : IntsAre vs ns) (h : divmodN ns Q) : wpAny (model prog w) A (call (.builtin "divmod") vs) (EvP I s true Q) E s := by
  match ns with
  | [a, b] =>
    obtain ⟨t, u, rfl⟩ := ints2 hi
    refine divmod_int h.1 ?_ (Or.inl (PyProof.noPylong_of_log2 (Nat.lt_trans (sm_log h.1 h.2.1) (by decide))))
    exact evp_tup (s := s) (vs := [_, _]) (k := 0) rfl rfl (.cons (.int _ _) (.cons (.int _ _) .nil)) h.2.2
  | [] => exact h.elim
  | [_] => exact h.elim
  | _ :: _ :: _ :: _ => exact h.elim
theorem sum_ints {l : Addr} {vs : List Value} {ns : List Int} {Q : Value → Shared → Prop} (hh : A.handled = none) (hl : s.heap.IsList l vs.toArray) (hi : IntsAre vs ns)
    (h : ∀ h' tk t', (∀ b o, s.heap.get? b = some o → h'.get? b = some o) → Q (.int ns.sum t') { s with heap := h', toks := tk }) :
    wpAny (model prog w) A (call (.builtin "sum") [.ref l]) Q E s := by
  obtain ⟨xs, e⟩ := hi.allInts.items
  have e2 : numsOf (intItems xs).toList = ns := by rw [← e]; exact hi.numsOf
  rw [nums_intItems] at e2
  rw [e] at hl
  refine sum_intListG hh hl fun h' tk t' k => ?_
  rw [preSum_eq, List.take_of_length_le (by simp), e2]
  exact h h' tk t' k
theorem sum_intsT {l : Addr} {vs : List Value} {ns : List Int} {Q : Value → Shared → Prop} (hh : A.handled = none) (hl : s.heap.IsTuple l vs.toArray) (hi : IntsAre vs ns)
    (h : ∀ h' tk t', (∀ b o, s.heap.get? b = some o → h'.get? b = some o) → Q (.int ns.sum t') { s with heap := h', toks := tk }) :
    wpAny (model prog w) A (call (.builtin "sum") [.ref l]) Q E s := by
  obtain ⟨xs, e⟩ := hi.allInts.items
  have e2 : numsOf (intItems xs).toList = ns := by rw [← e]; exact hi.numsOf
  rw [nums_intItems] at e2
  rw [e] at hl
  refine ktm_sumG hh hl fun h' tk t' k => ?_
  rw [preSum_eq, List.take_of_length_le (by simp), e2]
  exact h h' tk t' k

theorem intD_sound {v : Value} {d : D} (hA : A.handled = none) (r : Rep s.heap v d) (h : intD d Q) : wpAny (model prog w) A (call (.type "int") [v]) (EvP I s true Q) E s := by
  cases d with
  | int a => obtain ⟨t, rfl⟩ := r.inv; exact call_int_int (evp_int h)
  | flt x =>
    obtain ⟨t, rfl⟩ := r.inv
    have hf := h.1
    refine PySem.Flt.call_int_float3 hA (fun e => ?_) (fun e => ?_) (fun _ => evp_int h.2)
    · exfalso
      revert hf e; unfold Float64.isFinite Float64.isNaN; split <;> simp_all
    · exfalso
      revert hf e; unfold Float64.isFinite Float64.isInf; split <;> simp_all
  | _ => exact h.elim
theorem sumD_sound {v : Value} {d : D} (hA : A.handled = none) (r : Rep s.heap v d) (h : sumD d Q) : wpAny (model prog w) A (call (.builtin "sum") [v]) (EvP I s true Q) E s := by
  cases d with
  | list ds =>
    obtain ⟨la, vs, rfl, hl, rs⟩ := r.inv
    obtain ⟨ns, e, q⟩ := h
    exact sum_ints hA hl.isList (intsAre_of rs e) fun h' tk t' k => evp_grown_int k q
  | tup ds =>
    obtain ⟨la, vs, rfl, hl, rs⟩ := r.inv
    obtain ⟨ns, e, q⟩ := h
    exact sum_intsT hA hl (intsAre_of rs e) fun h' tk t' k => evp_grown_int k q
  | _ => exact h.elim
theorem lenD_sound {v : Value} {d : D} (r : Rep s.heap v d) (h : lenD d Q) : wpAny (model prog w) A (call (.builtin "len") [v]) (EvP I s true Q) E s := by
  cases d with
  | list ds =>
    obtain ⟨la, vs, rfl, hl, rs⟩ := r.inv
    obtain ⟨h1, h⟩ := h
    rw [← rs.length] at h1 h
    exact call_len_list hl.isList (by simp; (first | lia | omega)) (evp_int h)
  | tup ds =>
    obtain ⟨la, vs, rfl, hl, rs⟩ := r.inv
    obtain ⟨h1, h⟩ := h
    rw [← rs.length] at h1 h
    exact PyProof.Rows.len_tuple (show PyProof.Rows.IsTup s.heap _ _ from hl) (by simp; (first | lia | omega)) (evp_int h)
  | bytes l =>
    obtain ⟨t, rfl⟩ := r.inv
    obtain ⟨h1, h⟩ := h
    exact len_bytes (by simp; (first | lia | omega)) (evp_int h)
  | _ => exact h.elim
theorem tupD_sound {v : Value} {d : D} (r : Rep s.heap v d) (h : tupD d Q) : wpAny (model prog w) A (call (.type "tuple") [v]) (EvP I s true Q) E s := by
  cases d with
  | list ds =>
    obtain ⟨la, vs, rfl, hl, rs⟩ := r.inv
    have e := rs.length
    have h1 := h.1
    refine call_tuple_list hl.isList (fun h' k => ?_) (by rw [sizeLine_eq]; simp; (first | lia | omega))
    have x : Ext I s.heap h' := .of k
    exact ⟨_, _, _, rfl, x.trans (.push _ _), .tup ⟨_, Heap.get?_push_size _ rfl, rfl, 0, rfl⟩ ((rs.ext x).ext (.push (I := I) _ _)), fun _ => .inr ⟨_, rfl, x.fresh (Heap.get?_none_of_le (Nat.le_refl _))⟩, h.2⟩
  | _ => exact h.elim
theorem bi_sound {b : Bi} {vs : List Value} {ds : List D} (hA : A.handled = none) (r : RepL s.heap vs ds) (h : biVC b ds Q) : wpAny (model prog w) A (call b.val vs) (EvP I s true Q) E s := by
  cases b with
  | max => exact maxVC_sound hA r h
  | min => obtain ⟨ns, hi, k⟩ := intsVC.out h r; exact minN_sound hA hi k
  | divmod => obtain ⟨ns, hi, k⟩ := intsVC.out h r; exact divmodN_sound hi k
  | sum => obtain ⟨v, d, rfl, r, k⟩ := oneVC.out h r; exact sumD_sound hA r k
  | len => obtain ⟨v, d, rfl, r, k⟩ := oneVC.out h r; exact lenD_sound r k
  | int => obtain ⟨v, d, rfl, r, k⟩ := oneVC.out h r; exact intD_sound hA r k
  | tuple => obtain ⟨v, d, rfl, r, k⟩ := oneVC.out h r; exact tupD_sound r k
  | abs =>
    obtain ⟨v, d, rfl, r, k⟩ := oneVC.out h r
    cases d with
    | int a => obtain ⟨t, rfl⟩ := r.inv; exact call_abs_int fun u tk => evp_int k
    | _ => exact k.elim
  | _ => exact h.elim
end
end Mine
end

section -- M6
open PySem PySem.W PyProof.Rows
set_option Elab.async false
set_option linter.unusedVariables false
namespace Mine
open PySem.SeqAt PySem.Calls

noncomputable abbrev St := List (Str × D)
noncomputable abbrev Nm := List (Str × NameKind)
noncomputable abbrev Spec := List D → (D → Prop) → Prop
inductive G where
  | bi (b : Bi)
  | fn (f : Addr) (sp : Spec)
  | cint (i : Int)
structure Cx where
  gl : List (Str × G)
  clo : Option (Addr × Spec) := none
  dz : Option Addr := none

noncomputable def iteP (b : Bool) (P Q : Prop) : Prop := match b with
  | true => P
  | false => Q
theorem iteP_intro {b : Bool} {P Q : Prop} (h1 : b = true → P) (h2 : b = false → Q) : iteP b P Q := by cases b; exact h2 rfl; exact h1 rfl

noncomputable def ifB (b : Bool) (P : Prop) : Prop := match b with
  | true => P
  | false => False
noncomputable def noStar : List Expr → Bool
  | [] => true
  | .Starred .. :: _ => false
  | _ :: r => noStar r
noncomputable def notSetB : Expr → Bool
  | .Set .. => false
  | _ => true
noncomputable def argsVC : List ((D → Prop) → Prop) → (List D → Prop) → Prop
  | [], Q => Q []
  | x :: r, Q => x fun d => argsVC r fun ds => Q (d :: ds)
noncomputable def andVC : List ((D → Prop) → Prop) → (D → Prop) → Prop
  | [], _ => False
  | [x], Q => x Q
  | x :: r, Q => x fun d => truVC d fun t => iteP t (andVC r Q) (Q d)
noncomputable def allVC : List ((Bool → Prop) → Prop) → (Bool → Prop) → Prop
  | [], Q => Q true
  | x :: r, Q => x fun t => iteP t (allVC r Q) (Q false)
noncomputable def anyVC : List ((Bool → Prop) → Prop) → (Bool → Prop) → Prop
  | [], Q => Q false
  | x :: r, Q => x fun t => iteP t (Q true) (anyVC r Q)

noncomputable def constVC (c : Const) (Q : D → Prop) : Prop := match c with
  | .none => Q .none
  | .bool b => Q (.bool b)
  | .int i => Q (.int i)
  | .float x => Q (.flt x)
  | .bytes l => Q (.bytes l)
  | _ => False

noncomputable def partD : D → Option (Option Int)
  | .none => some none
  | .int i => some (some i)
  | _ => none
noncomputable def pick (ds : List D) (lo hi st : Option Int) : List D :=
  (sliceRange (sliceBounds lo hi st ds.length).1 (sliceBounds lo hi st ds.length).2.1 (sliceBounds lo hi st ds.length).2.2).filterMap (ds[·]?)
noncomputable def pickB (l : List UInt8) (lo hi : Option Int) : List UInt8 := (KBy.picked l.toArray lo hi).toList
noncomputable def toVC (ds : List D) (hi : Option Int) (Q : D → Prop) : Prop := match hi with
  | some b => 0 ≤ b ∧ b < ds.length ∧ ds.length ≤ 10000 ∧ Q (.tup (ds.take b.toNat))
  | none => False
noncomputable def sliceVC (c lo hi st : D) (Q : D → Prop) : Prop := match partD lo with
  | some lo => (match partD hi with
    | some hi => (match partD st with
      | some st => (match c with
        | .list ds => st ≠ some 0 ∧ ds.length ≤ 10000 ∧ Q (.list (pick ds lo hi st))
        | .tup ds => lo = none ∧ st = none ∧ toVC ds hi Q
        | .bytes l => st = none ∧ l.length ≤ 10000 ∧ KBy.whole l.toArray lo hi = false ∧ (pickB l lo hi).length ≤ 10000 ∧ Q (.bytes (pickB l lo hi))
        | _ => False)
      | none => False)
    | none => False)
  | none => False

noncomputable def relN (nm names : Nm) : Nm := names.map fun (n, k) => if (k == .free && nm.lookup n == some .cell) then (n, .cell) else (n, k)
noncomputable def compOK (nm : Nm) (st : St) (scope : Scope) (x : Str) : Bool :=
  scope.kind == .function && scope.names.lookup x == some .local && (scope.names.lookup ("__debug__" : Str)).isNone && (scope.names.lookup ("__classdict__" : Str)).isNone &&
  scope.names.all fun (n, k) => match k with
    | .local => scope.names.lookup n == some .local
    | .free => nm.lookup n == some .cell && (st.lookup n).isSome && scope.names.lookup n == some .free
    | .globalImplicit => true
    | _ => false
noncomputable def compSt (st : St) (scope : Scope) (x : Str) (d : D) : St := (x, d) :: st.filter fun p => scope.names.lookup p.1 == some .free

noncomputable def itemsOf (d : D) (K : List D → Prop) : Prop := match d with
  | .list ds => K ds
  | .tup ds => K ds
  | .bytes l => K (l.map fun b => .int b.toNat)
  | _ => False
noncomputable def rangeD (n : Nat) : List D := (List.range n).map fun (i : Nat) => D.int (i : Int)
noncomputable def globVC (C : Cx) (nm : Nm) (st : St) (f : Str) : Option G := match st.lookup f with
  | some _ => none
  | none => if nm.lookup f == some .globalImplicit then C.gl.lookup f else none
noncomputable def biN (b : Bi) : Nat := match b with
  | .range => 1
  | .reversed => 2
  | .int => 3
  | _ => 0
noncomputable def biT (n : Nat) : Bi := match n with
  | 1 => .range
  | 2 => .reversed
  | _ => .int
theorem biT_biN {b : Bi} (h : (biN b != 0) = true) : biT (biN b) = b := by cases b <;> first | rfl | cases h
noncomputable def biEq (b b' : Bi) : Bool := biN b != 0 && biN b == biN b'
theorem biEq_out {b b' : Bi} (h : biEq b b' = true) : b' = b := by
  obtain ⟨h1, h2⟩ := (Bool.and_eq_true ..).mp h
  have e : biN b = biN b' := eq_of_beq h2
  exact (biT_biN (e ▸ h1)).symm.trans (e ▸ biT_biN h1)
noncomputable def biIs (b : Bi) (g : Option G) : Bool := match g with
  | some g => (match g with
    | .bi b' => biEq b b'
    | _ => false)
  | none => false
noncomputable def isRange (C : Cx) (nm : Nm) (st : St) (f : Str) : Bool := biIs .range (globVC C nm st f)
noncomputable def rangeN (d : D) (K : List D → Prop) : Prop := match d with
  | .int i => -100000 ≤ i ∧ i ≤ 10000 ∧ K (rangeD i.toNat)
  | _ => False
inductive EV where
  | name (x : Str) (p : Pos)
  | const (c : Const) (k : Nat) (p : Pos)
  | tup (ts : List Expr) (k : Nat) (p : Pos)
  | call (f : Expr) (args : List Expr) (kws : List Keyword) (p : Pos)
  | attr (v : Expr) (m : Str) (p : Pos)
  | cmp (l : Expr) (ops : List CmpOp) (cs : List Expr) (p : Pos)
  | other
noncomputable def view (e : Expr) : EV := match e with
  | .Name x p => .name x p
  | .Constant c k p => .const c k p
  | .Tuple ts k p => .tup ts k p
  | .Call f args kws p => .call f args kws p
  | .Attribute v m p => .attr v m p
  | .Compare l ops cs p => .cmp l ops cs p
  | _ => .other
noncomputable def back (v : EV) (e : Expr) : Expr := match v with
  | .name x p => .Name x p
  | .const c k p => .Constant c k p
  | .tup ts k p => .Tuple ts k p
  | .call f args kws p => .Call f args kws p
  | .attr v m p => .Attribute v m p
  | .cmp l ops cs p => .Compare l ops cs p
  | .other => e
theorem view_back (e : Expr) : back (view e) e = e := by cases e <;> rfl
noncomputable def one? {α : Type} (l : List α) : Option α := match l with
  | [] => none
  | a :: r => (match r with
    | [] => some a
    | _ :: _ => none)
theorem one?_out {α : Type} {l : List α} {a : α} (h : one? l = some a) : l = [a] := by
  cases l with
  | nil => cases h
  | cons b r => cases r with
    | nil => cases h; rfl
    | cons => cases h
theorem opt_bind {α β : Type} {o : Option α} {f : α → Option β} {b : β} (h : o.bind f = some b) : ∃ a, o = some a ∧ f a = some b := by
  cases o with
  | none => cases h
  | some a => exact ⟨a, rfl, h⟩
theorem if_some {β : Type} {c : Bool} {a b : β} (h : (if c = true then some a else none) = some b) : c = true ∧ a = b := by
  cases c with
  | true => exact ⟨rfl, Option.some.inj h⟩
  | false => cases h
noncomputable def onName {β : Type} (e : Expr) (g : Str → Option β) : Option β := match view e with
  | .name x _ => g x
  | _ => none
noncomputable def onConst {β : Type} (e : Expr) (g : Const → Option β) : Option β := match view e with
  | .const c _ _ => g c
  | _ => none
noncomputable def onCall {β : Type} (e : Expr) (g : Expr → List Expr → List Keyword → Pos → Option β) : Option β := match view e with
  | .call f args kws p => g f args kws p
  | _ => none
noncomputable def onAttr {β : Type} (e : Expr) (g : Expr → Str → Pos → Option β) : Option β := match view e with
  | .attr v m p => g v m p
  | _ => none
section
variable {β : Type} {e : Expr} {b : β}
theorem onName_out {g : Str → Option β} (h : onName e g = some b) : ∃ x p, e = .Name x p ∧ g x = some b := by
  unfold onName at h
  have bk := view_back e
  generalize view e = v at h bk
  cases v with
  | name x p => exact ⟨x, p, bk.symm, h⟩
  | _ => cases h
theorem onConst_out {g : Const → Option β} (h : onConst e g = some b) : ∃ c k p, e = .Constant c k p ∧ g c = some b := by
  unfold onConst at h
  have bk := view_back e
  generalize view e = v at h bk
  cases v with
  | const c k p => exact ⟨c, k, p, bk.symm, h⟩
  | _ => cases h
theorem onCall_out {g : Expr → List Expr → List Keyword → Pos → Option β} (h : onCall e g = some b) : ∃ f args kws p, e = .Call f args kws p ∧ g f args kws p = some b := by
  unfold onCall at h
  have bk := view_back e
  generalize view e = v at h bk
  cases v with
  | call f args kws p => exact ⟨f, args, kws, p, bk.symm, h⟩
  | _ => cases h
theorem onAttr_out {g : Expr → Str → Pos → Option β} (h : onAttr e g = some b) : ∃ v m p, e = .Attribute v m p ∧ g v m p = some b := by
  unfold onAttr at h
  have bk := view_back e
  generalize view e = v at h bk
  cases v with
  | attr v m p => exact ⟨v, m, p, bk.symm, h⟩
  | _ => cases h
end
noncomputable def name? (e : Expr) : Option Str := onName e some
theorem name?_out {e : Expr} {x : Str} (h : name? e = some x) : ∃ p, e = .Name x p := by
  obtain ⟨y, p, rfl, h⟩ := onName_out h
  cases h; exact ⟨p, rfl⟩
noncomputable def noKw (kws : List Keyword) : Bool := kws.isEmpty
theorem noKw_out {kws : List Keyword} (h : noKw kws = true) : kws = [] := List.isEmpty_iff.mp h
noncomputable def call1 (e : Expr) : Option (Str × Expr) := onCall e fun f args kws _ => (name? f).bind fun f => (one? args).bind fun a => if noKw kws = true then some (f, a) else none
theorem call1_out {e a : Expr} {f : Str} (h : call1 e = some (f, a)) : ∃ p pos, e = .Call (.Name f p) [a] [] pos := by
  obtain ⟨g, args, kws, pos, rfl, h⟩ := onCall_out h
  obtain ⟨f', h1, h⟩ := opt_bind h
  obtain ⟨a', h2, h⟩ := opt_bind h
  obtain ⟨h3, h⟩ := if_some h
  obtain ⟨p, rfl⟩ := name?_out h1
  cases one?_out h2; cases noKw_out h3; cases h
  exact ⟨p, pos, rfl⟩
noncomputable def iterVC (C : Cx) (nm : Nm) (st : St) (ev : Expr → (D → Prop) → Prop) (iter : Expr) (K : List D → Prop) : Prop := match call1 iter with
  | some p => iteP (isRange C nm st p.1) (noStar [p.2] = true ∧ ev p.2 fun d => rangeN d K) (ev iter fun d => itemsOf d K)
  | none => ev iter fun d => itemsOf d K

noncomputable def compVC (f : D → (D → Prop) → Prop) (t : D → (Bool → Prop) → Prop) : List D → List D → (List D → Prop) → Prop
  | [], acc, Q => Q acc
  | d :: r, acc, Q => t d fun b => iteP b (f d fun e => e.lf = true ∧ compVC f t r (acc ++ [e]) Q) (compVC f t r acc Q)

noncomputable def meth0VC (m : Str) (o : D) (Q : D → Prop) : Prop := match o with
  | .int a => m = Str.ofString "bit_length" ∧ Q (.int (Builtin.Int.intBits a))
  | _ => False
noncomputable def indexVC (ds : List D) (d : D) (Q : D → Prop) : Prop :=
  ds.all (fun e => eqOK e d) = true ∧ D.deps ds ≤ 60 ∧ ds.length ≤ 10000 ∧ ∃ j : Nat, (ds.findIdx? fun e => eqD e d) = some j ∧ Q (.int j)

noncomputable def freshE (e : Expr) : Bool := match e with
  | .ListComp .. => true
  | .List .. => true
  | .BinOp .. => true
  | .Call .. => true
  | .Subscript _ i _ => (match i with
    | .Slice .. => true
    | _ => false)
  | _ => false

noncomputable def nameVC (C : Cx) (nm : Nm) (st : St) (x : Str) (Q : D → Prop) : Prop := match st.lookup x with
  | some d => Q d
  | none => (match globVC C nm st x with
    | some g => (match g with
      | .cint i => Q (.int i)
      | _ => False)
    | none => False)
noncomputable def isIntD (d : D) (Q : D → Prop) : Prop := match d with
  | .int _ => Q (.bool true)
  | _ => False
noncomputable def isiVC (C : Cx) (nm : Nm) (st : St) (ev : Expr → (D → Prop) → Prop) (args : List Expr) (Q : D → Prop) : Prop := match args with
  | [] => False
  | a :: r => (match r with
    | [] => False
    | t :: r => (match r with
      | [] => (match t with
        | .Name t _ => biIs .int (globVC C nm st t) = true ∧ ev a fun d => isIntD d Q
        | _ => False)
      | _ :: _ => False))
noncomputable def argsOf (ev : Expr → (D → Prop) → Prop) (args : List Expr) (K : List D → Prop) : Prop := ifB (noStar args) (argsVC (args.map ev) K)
noncomputable def callN (C : Cx) (nm : Nm) (st : St) (ev : Expr → (D → Prop) → Prop) (f : Str) (args : List Expr) (Q : D → Prop) : Prop := match globVC C nm st f with
  | some g => (match g with
    | .bi b => (match b with
      | .isinstance => isiVC C nm st ev args Q
      | b => argsOf ev args fun ds => biVC b ds Q)
    | .fn _ sp => argsOf ev args fun ds => sp ds Q
    | .cint _ => False)
  | none => (match st.lookup f with
    | some d => (match d with
      | .clo g => (match C.clo with
        | some p => g = p.1 ∧ argsOf ev args fun ds => p.2 ds Q
        | none => False)
      | _ => False)
    | none => False)
noncomputable def listD (d : D) (K : List D → Prop) : Prop := match d with
  | .list ds => K ds
  | _ => False
noncomputable def callM (st : St) (ev : Expr → (D → Prop) → Prop) (v : Expr) (m : Str) (args : List Expr) (Q : D → Prop) : Prop := match v with
  | .Name x _ => (match st.lookup x with
    | some d => (match args with
      | [] => meth0VC m d Q
      | e :: r => (match r with
        | [] => ifB (noStar [e]) (listD d fun ds => m = Str.ofString "index" ∧ ev e fun v => indexVC ds v Q)
        | _ :: _ => False))
    | none => False)
  | _ => False
noncomputable def callVC (C : Cx) (nm : Nm) (st : St) (ev : Expr → (D → Prop) → Prop) (f : Expr) (args : List Expr) (kws : List Keyword) (pos : Pos) (Q : D → Prop) : Prop := match kws with
  | [] => (match f with
    | .Name f _ => callN C nm st ev f args Q
    | .Attribute v m apos => ifB (apos.endLine == pos.line) (callM st ev v m args Q)
    | _ => False)
  | _ :: _ => False
noncomputable def chainVC (ev : Expr → (D → Prop) → Prop) (l : Expr) (ops : List CmpOp) (cs : List Expr) (Q : Bool → Prop) : Prop := match ops with
  | [] => False
  | op :: ops => (match cs with
    | [] => False
    | c :: cs => (match ops with
      | [] => (match cs with
        | [] => ifB (notSetB c) (ev l fun a => ev c fun b => cmpVC op a b Q)
        | _ :: _ => False)
      | op' :: ops => (match ops with
        | [] => (match cs with
          | [] => False
          | c' :: cs => (match cs with
            | [] => ifB (notSetB c') (ev l fun a => ev c fun b => cmpVC op a b fun t => iteP t (ev c' fun d => cmpVC op' b d Q) (Q false))
            | _ :: _ => False))
        | _ :: _ => False)))
noncomputable def optVC (ev : Expr → (D → Prop) → Prop) (o : Option Expr) (K : D → Prop) : Prop := match o with
  | some e => ev e K
  | none => K .none
noncomputable def subsVC (ev : Expr → (D → Prop) → Prop) (v i : Expr) (Q : D → Prop) : Prop := match i with
  | .Slice lo hi step _ => ev v fun c => optVC ev lo fun l => optVC ev hi fun h => optVC ev step fun s => sliceVC c l h s Q
  | _ => ev v fun c => ev i fun k => itemVC c k Q
noncomputable def testVC' (evT : Expr → St → (Bool → Prop) → Prop) (st : St) (scope : Scope) (x : Str) (ifs : List Expr) (d : D) (K : Bool → Prop) : Prop := match ifs with
  | [] => K true
  | c :: r => (match r with
    | [] => evT c (compSt st scope x d) K
    | _ :: _ => False)
noncomputable def genVC (C : Cx) (nm : Nm) (st : St) (ev : Expr → (D → Prop) → Prop) (evF : Expr → St → (D → Prop) → Prop) (evT : Expr → St → (Bool → Prop) → Prop) (elt : Expr) (gens : List Comprehension) (scope : Scope) (Q : D → Prop) : Prop := match gens with
  | [] => False
  | g :: gs => (match gs with
    | [] => (match g.target with
      | .Name x _ => (compOK nm st scope x && g.is_async == 0) = true ∧ iterVC C nm st ev g.iter fun items =>
          items.length ≤ 10000 ∧ compVC (fun d K => evF elt (compSt st scope x d) K) (testVC' evT st scope x g.ifs) items [] fun ds => Q (.list ds)
      | _ => False)
    | _ :: _ => False)
noncomputable def boolVC (ev : Expr → (D → Prop) → Prop) (op : BoolOp) (vs : List Expr) (Q : D → Prop) : Prop := match op with
  | .And => andVC (vs.map ev) Q
  | .Or => False

mutual
noncomputable def vcE (C : Cx) : Nat → Nm → Expr → St → (D → Prop) → Prop
  | 0, _, _, _, _ => False
  | n + 1, nm, e, st, Q => match e with
    | .Constant c _ _ => constVC c Q
    | .Name x _ => nameVC C nm st x Q
    | .BoolOp op vs _ => boolVC (fun v K => vcE C n nm v st K) op vs Q
    | .BinOp l op r _ => vcE C n nm l st fun a => vcE C n nm r st fun b => binVC op a b Q
    | .UnaryOp op x _ => vcE C n nm x st fun a => unVC op a Q
    | .IfExp t b o _ => vcT C n nm t st fun c => iteP c (vcE C n nm b st Q) (vcE C n nm o st Q)
    | .Compare l ops cs _ => chainVC (fun v K => vcE C n nm v st K) l ops cs fun b => Q (.bool b)
    | .Call f args kws pos => callVC C nm st (fun v K => vcE C n nm v st K) f args kws pos Q
    | .Subscript v i _ => subsVC (fun v K => vcE C n nm v st K) v i Q
    | .Tuple es _ _ => argsOf (fun v K => vcE C n nm v st K) es fun ds => ds.length ≤ 100 ∧ Q (.tup ds)
    | .List es _ => argsOf (fun v K => vcE C n nm v st K) es fun ds => ds.length ≤ 100 ∧ Q (.list ds)
    | .ListComp elt gens scope _ => genVC C nm st (fun v K => vcE C n nm v st K) (fun e st K => vcE C n (relN nm scope.names) e st K) (fun e st K => vcT C n (relN nm scope.names) e st K) elt gens scope Q
    | _ => False
noncomputable def vcT (C : Cx) : Nat → Nm → Expr → St → (Bool → Prop) → Prop
  | 0, _, _, _, _ => False
  | n + 1, nm, e, st, Q => match e with
    | .UnaryOp op x _ => (match op with
      | .Not => vcT C n nm x st fun b => Q (!b)
      | _ => False)
    | .BoolOp op vs _ => (match op with
      | .And => allVC (vs.map fun v K => vcT C n nm v st K) Q
      | .Or => anyVC (vs.map fun v K => vcT C n nm v st K) Q)
    | .Compare l ops cs _ => chainVC (fun v K => vcE C n nm v st K) l ops cs Q
    | .Name x p => vcE C n nm (.Name x p) st fun d => truVC d Q
    | .Call f args kws p => vcE C n nm (.Call f args kws p) st fun d => truVC d Q
    | .Subscript v i p => vcE C n nm (.Subscript v i p) st fun d => truVC d Q
    | _ => False
end
end Mine
end

section -- M7
open PySem PySem.W PyProof.Rows
set_option Elab.async false
set_option linter.unusedVariables false
namespace Mine
open PySem.SeqAt PySem.Calls

inductive After (I : TInv) (s s' : Shared) : Prop
  | mk (h' : Heap) (tk : Nat) (e : s' = { s with heap := h', toks := tk }) (x : Ext I s.heap h')
theorem After.refl {I : TInv} (s : Shared) : After I s s := ⟨_, _, rfl, .refl _⟩
theorem After.ext {I : TInv} {s s' : Shared} (x : After I s s') : Ext I s.heap s'.heap := by obtain ⟨h', tk, rfl, e⟩ := x; exact e
theorem After.trans {I : TInv} {s s' s'' : Shared} (x : After I s s') (y : After I s' s'') : After I s s'' := by
  obtain ⟨h', tk, rfl, e⟩ := x
  obtain ⟨h'', tk', rfl, e'⟩ := y
  exact ⟨_, _, rfl, e.trans e'⟩
theorem After.push {I : TInv} (s : Shared) (o : Obj) (tk : Nat) : After I s { s with heap := s.heap.push o, toks := tk } := ⟨_, _, rfl, .push _ _⟩
inductive EvX (I : TInv) (s : Shared) (fr : Bool) (Q : D → Prop) (v : Value) (s' : Shared) : Prop
  | mk (a : After I s s') (d : D) (r : Rep s'.heap v d) (f : fr = true → FreshV s.heap v d) (q : Q d)
theorem EvP.out {I : TInv} {s : Shared} {fr : Bool} {Q : D → Prop} {v : Value} {s' : Shared} (h : EvP I s fr Q v s') : EvX I s fr Q v s' := by
  obtain ⟨h', tk, d, e, x, r, f, q⟩ := h
  subst e
  exact ⟨⟨h', tk, rfl, x⟩, d, r, f, q⟩
theorem EvP.of {I : TInv} {s : Shared} {fr : Bool} {Q : D → Prop} {v : Value} {s' : Shared} (a : After I s s') (d : D) (r : Rep s'.heap v d) (f : fr = true → FreshV s.heap v d) (q : Q d) : EvP I s fr Q v s' := by
  obtain ⟨h', tk, e, x⟩ := a
  subst e
  exact ⟨h', tk, d, rfl, x, r, f, q⟩
theorem FreshV.ext {I : TInv} {h h' : Heap} (x : Ext I h h') {v : Value} {d : D} (f : FreshV h' v d) : FreshV h v d := f.imp id fun ⟨a, e, n⟩ => ⟨a, e, x.fresh n⟩
theorem EvP.after {I : TInv} {s s' : Shared} (x : After I s s') {fr : Bool} {Q : D → Prop} {v : Value} {s'' : Shared} (h : EvP I s' fr Q v s'') : EvP I s fr Q v s'' := by
  obtain ⟨y, d, r, f, q⟩ := h.out
  exact .of (x.trans y) d r (fun e => (f e).ext x.ext) q
noncomputable def PinOK (o : Obj) : Prop := ¬ (isTab o ∨ isCode o) ∧ (∀ v, o.data ≠ .cell v) ∧ ∀ es ep, o.data ≠ .dict es ep
inductive IterOf (prog : Program) (w : World) (I : TInv) (A : Around) (h₀ : Heap) (src : Value) (it : Value) (items : List D) (s : Shared) : Prop
  | mk (Ia : Addr) (fp wr : List Addr) (P : Nat → Value → Prop) (St : Nat → Heap → Prop) (e : it = .ref Ia) (W : Walks prog w A Ia fp wr items.length P St) (st : St 0 s.heap) (lt : ∀ b ∈ fp, b < s.heap.objs.size) (new : ∀ b ∈ wr, h₀.get? b = none)
    (pin : ∀ i h, St i h → ∀ b ∈ fp, ∃ o, h.get? b = some o ∧ PinOK o) (fld : ∀ i h, St i h → ∀ b ∈ wr, ∀ o, h.get? b = some o → ∃ vs, o.data = .fields vs) (src : ∀ b ∈ fp, h₀.get? b = none ∨ src = .ref b)
    (item : ∀ i v, i < items.length → P i v → ∃ d, items[i]? = some d ∧ Rep h₀ v d)

theorem pinAt {h : Heap} {b : Addr} (x : ∃ o, h.get? b = some o ∧ PinOK o) {o : Obj} (e : h.get? b = some o) : PinOK o := by
  obtain ⟨o', e', p⟩ := x
  rw [e] at e'; cases e'; exact p
theorem notTup {h : Heap} {b : Addr} (x : ∀ o, h.get? b = some o → ∃ vs, o.data = .fields vs) (vs : Array Value) : ¬ h.IsTuple b vs := fun ⟨o, e, _, k, d⟩ => by
  obtain ⟨vs', d'⟩ := x o e
  rw [d] at d'; cases d'
theorem ne_code {o : Obj} {vs : Array Value} {cls : String} (hc : o.cls = .type cls) (hd : o.data = .fields vs) (h1 : ∀ q t, vs[1]? ≠ some (.str q t)) : ¬ (isTab o ∨ isCode o) := by
  rintro (⟨e, _⟩ | ⟨vs', q, t, e, e2⟩)
  · rw [hc] at e; cases e
  · rw [hd] at e; injection e with e; subst e; exact h1 q t e2

theorem mem1 {b x : Addr} (h : b ∈ [x]) : b = x := by cases h with | head => rfl | tail _ h => cases h
theorem mem2 {b x y : Addr} (h : b ∈ [x, y]) : b = x ∨ b = y := by cases h with | head => exact .inl rfl | tail _ h => exact .inr (mem1 h)
theorem push_lt {h : Heap} {o : Obj} {b : Addr} (e : b = h.objs.size ∨ b < h.objs.size) : b < (h.push o).objs.size := by
  rw [Heap.size_push]
  rcases e with e | e
  · rw [e]; exact Nat.lt_succ_self _
  · exact Nat.lt_succ_of_lt e
section
variable {prog : Program} {w : World} {A : Around} {E : Value → Shared → Prop} {I : TInv} {s : Shared}

theorem walks_bytes (hh : A.handled = none) (Ia : Addr) (l : List UInt8) (t : Tok) : Walks prog w A Ia [Ia] [Ia] l.length (fun i v => ∃ c u, l[i]? = some c ∧ v = .int (c.toNat : Int) u) (fun i h => KBw.IsBytesIter h Ia l.toArray t i) where
  sub := fun _ hb => hb
  frame := fun i h h' st hk => let ⟨o, ho, r⟩ := st; ⟨o, hk Ia (by simp) o ho, r⟩
  item := fun i s Q E hi st hQ => by
    refine KBw.next_item st (c := l[i]) (by simp [hi]) fun h' hit' hs' => ?_
    exact hQ _ h' _ ⟨l[i], _, by simp [hi], rfl⟩ hit' fun b o hb e => hs'.extBut b o (fun h => hb (by simp [h])) e
  done := fun s Q E st hQ => KBw.next_end hh st (by simp) fun h' he' => hQ h' s.toks fun b o hb e => he' b o (fun h => hb (by simp [h])) e
  self := fun _ _ _ _ st hQ => KBw.pyIter_self st hQ

theorem iter_seq {a : Addr} {ds : List D} {n : Nat} {vs : List Value} {cls : String} {St : Nat → Heap → Prop} (lt : a < s.heap.objs.size) (en : n = ds.length) (rs : RepL s.heap vs ds)
    (W : Walks prog w A s.heap.objs.size [s.heap.objs.size, a] [s.heap.objs.size] n (fun i v => vs.toArray[i]? = some v) St) {o : Obj} (h0 : St 0 (s.heap.push o))
    (hs : ∀ i h, St i h → (∃ o vs, h.get? s.heap.objs.size = some o ∧ o.cls = .type cls ∧ o.data = .fields vs ∧ ∀ q t, vs[1]? ≠ some (.str q t)) ∧ ∃ o vs k, h.get? a = some o ∧ o.data = .seq vs k) :
    IterOf prog w I A s.heap (.ref a) (.ref s.heap.objs.size) ds { s with heap := s.heap.push o } := by
  have fresh : s.heap.get? s.heap.objs.size = none := Heap.get?_none_of_le (Nat.le_refl _)
  subst en
  refine ⟨_, _, _, _, _, rfl, W, h0, fun b hb => push_lt ((mem2 hb).imp id fun e => by rw [e]; exact lt), fun b hb => by rw [mem1 hb]; exact fresh, fun i h' st b hb => ?_, fun i h' st b hb o ho => ?_,
    fun b hb => (mem2 hb).imp (fun e => by rw [e]; exact fresh) fun e => by rw [e], fun i v _ hv => rs.get' (by rw [List.getElem?_toArray] at hv; exact hv)⟩
  · obtain ⟨⟨o1, vs1, e1, c1, d1, n1⟩, o2, vs2, k2, e2, d2⟩ := hs i h' st
    rcases mem2 hb with e | e
    · rw [e]; exact ⟨o1, e1, ne_code c1 d1 n1, (fun v q => by rw [d1] at q; cases q), fun es ep q => by rw [d1] at q; cases q⟩
    · rw [e]; exact ⟨o2, e2, not_rec (fun vs q => by rw [d2] at q; cases q), (fun v q => by rw [d2] at q; cases q), fun es ep q => by rw [d2] at q; cases q⟩
  · obtain ⟨⟨o1, vs1, e1, c1, d1, n1⟩, _⟩ := hs i h' st
    rw [mem1 hb, e1] at ho; cases ho; exact ⟨_, d1⟩
theorem iter_sound {v : Value} {d : D} {K : List D → Prop} (hh : A.handled = none) (r : Rep s.heap v d) (h : itemsOf d K) :
    wpAny (model prog w) A (pyIter v) (fun it s' => After I s s' ∧ ∃ items, IterOf prog w I A s.heap v it items s' ∧ K items) E s := by
  cases d with
  | list ds =>
    obtain ⟨a, vs, rfl, hl, rs⟩ := r.inv
    have hl := hl.isList
    have lt : a < s.heap.objs.size := let ⟨o, ho, _⟩ := hl; Heap.lt_size ho
    refine wpAny_pyIter_list hl ⟨.push _ _ _, ds, ?_, h⟩
    refine iter_seq (cls := "list_iterator") lt (by rw [← rs.length]; simp) rs (Walks.list (prog := prog) (w := w) hh s.heap.objs.size a (Nat.ne_of_lt lt) vs.toArray) ⟨⟨_, Heap.get?_push_size _ rfl, rfl, rfl⟩, (Ext.push (I := I) _ _).isList hl⟩ ?_
    rintro i h' ⟨⟨o1, e1, c1, d1⟩, o2, e2, c2, n2, d2⟩
    exact ⟨⟨o1, _, e1, c1, d1, by simp⟩, o2, _, _, e2, d2⟩
  | tup ds =>
    obtain ⟨a, vs, rfl, hl, rs⟩ := r.inv
    have lt : a < s.heap.objs.size := let ⟨o, ho, _⟩ := hl; Heap.lt_size ho
    refine wpAny_pyIter_tuple hl ⟨.push _ _ _, ds, ?_, h⟩
    refine iter_seq (cls := "tuple_iterator") lt (by rw [← rs.length]; simp) rs (Walks.tuple (prog := prog) (w := w) hh s.heap.objs.size a (Nat.ne_of_lt lt) vs.toArray) ⟨⟨_, Heap.get?_push_size _ rfl, rfl, rfl⟩, (Ext.push (I := I) _ _).isTuple hl⟩ ?_
    rintro i h' ⟨⟨o1, e1, c1, d1⟩, o2, e2, c2, n2, d2⟩
    exact ⟨⟨o1, _, e1, c1, d1, by simp⟩, o2, _, _, e2, d2⟩
  | bytes l =>
    obtain ⟨t, rfl⟩ := r.inv
    have fresh : s.heap.get? s.heap.objs.size = none := Heap.get?_none_of_le (Nat.le_refl _)
    refine KBw.pyIter_bytes ⟨.push _ _ _, _, ?_, h⟩
    have W := walks_bytes (prog := prog) (w := w) hh s.heap.objs.size l t
    rw [show l.length = (l.map fun b => D.int b.toNat).length by rw [List.length_map]] at W
    refine ⟨_, _, _, _, _, rfl, W, ⟨_, Heap.get?_push_size _ rfl, rfl, rfl⟩, fun b hb => push_lt (.inl (mem1 hb)), fun b hb => by rw [mem1 hb]; exact fresh, ?_, ?_, fun b hb => by rw [mem1 hb]; exact .inl fresh, ?_⟩
    · rintro i h' ⟨o1, e1, c1, d1⟩ b hb
      rw [mem1 hb]
      exact ⟨o1, e1, ne_code c1 d1 (by simp), (fun v q => by rw [d1] at q; cases q), fun es ep q => by rw [d1] at q; cases q⟩
    · rintro i h' ⟨o1, e1, c1, d1⟩ b hb o ho
      rw [mem1 hb, e1] at ho; cases ho; exact ⟨_, d1⟩
    · rintro i v _ ⟨c, u, e, rfl⟩
      exact ⟨_, by rw [List.getElem?_map, e]; rfl, .int _ u⟩
  | _ => exact h.elim

theorem range_sound {n : Int} {t : Tok} {K : List D → Prop} (hh : A.handled = none) (hn : n ≤ 10000) (h : K (rangeD n.toNat)) {lo : -100000 ≤ n} :
    wpAny (model prog w) A (call (.type "range") [.int n t]) (fun v s₁ => After I s s₁ ∧ wpAny (model prog w) A (pyIter v) (fun it s' => After I s s' ∧ ∃ items, (∀ src, IterOf prog w I A s.heap src it items s') ∧ K items) E s₁) E s := by
  have fresh : s.heap.get? s.heap.objs.size = none := Heap.get?_none_of_le (Nat.le_refl _)
  refine call_range_1 ⟨.push _ _ _, ?_⟩
  refine wpAny_pyIter_range (IsRange.new ..) (small_one (by decide) (by decide) (by (first | lia | omega)) (by (first | lia | omega))) ?_
  have hsz : Builtin.Range.rangeSize 0 n 1 = (n.toNat : Int) := by rw [rangeSize_one]; split <;> (first | lia | omega)
  refine ⟨(After.push _ _ _).trans (After.push _ _ _), _, fun src => ?_, h⟩
  have W := Walks.range (prog := prog) (w := w) (A := A) hh (s.heap.push { cls := .type "range", data := .fields #[.int 0 s.toks, .int n t, .int 1 (s.toks + 1)] }).objs.size 0 1 n.toNat
  have en : (rangeD n.toNat).length = n.toNat := by simp [rangeD]
  rw [← en] at W
  refine ⟨_, _, _, _, _, rfl, W, ?_, ?_, ?_, ?_, ?_, ?_, ?_⟩
  · have e1 : (0 + ((0 : Nat) : Int) * 1) = 0 := by simp
    have e2 : ((n.toNat : Int) - ((0 : Nat) : Int)) = Builtin.Range.rangeSize 0 n 1 := by rw [hsz]; simp
    rw [en, e1, e2]
    exact Heap.get?_push_size _ rfl
  · intro b hb; exact push_lt (.inl (mem1 hb))
  · intro b hb; rw [mem1 hb]; exact Heap.get?_none_of_le (by rw [Heap.size_push]; (first | lia | omega))
  · intro i h' st b hb
    have e1 : h'.get? _ = some _ := st
    rw [mem1 hb]
    refine ⟨_, e1, ne_code rfl rfl (by simp [rawInt]), (fun v q => by cases q), fun es ep q => by cases q⟩
  · intro i h' st b hb o ho
    have e1 : h'.get? _ = some _ := st
    rw [mem1 hb, e1] at ho; cases ho; exact ⟨_, rfl⟩
  · intro b hb; rw [mem1 hb]; exact .inl (Heap.get?_none_of_le (by rw [Heap.size_push]; (first | lia | omega)))
  · rintro i v hi ⟨u, rfl⟩
    have hi : i < n.toNat := by simpa [rangeD] using hi
    exact ⟨.int i, by simp [rangeD, hi], by simpa using Rep.int (h := _) (i : Int) u⟩
end
end Mine
end

section -- M8
open PySem PySem.W PyProof.Rows
set_option Elab.async false
set_option linter.unusedVariables false
namespace Mine
open PySem.SeqAt PySem.Calls

noncomputable def DFr (I : TInv) (h : Heap) : List Env → Prop
  | [] => True
  | env :: r => env.scope.kind ≠ .module ∧ (∃ L o es ep, env.frame = some L ∧ h.get? L = some o ∧ o.data = .dict es ep ∧ I.base.get? L = none) ∧ DFr I h r
theorem DFr.of {I : TInv} {h h' : Heap} (k : ∀ b o es ep, h.get? b = some o → o.data = .dict es ep → ∃ o' es' ep', h'.get? b = some o' ∧ o'.data = .dict es' ep') : ∀ {l : List Env}, DFr I h l → DFr I h' l
  | [], _ => trivial
  | env :: r, ⟨a, ⟨L, o, es, ep, e1, e2, e3, e4⟩, f⟩ => let ⟨o', es', ep', f1, f2⟩ := k L o es ep e2 e3; ⟨a, ⟨L, o', es', ep', e1, f1, f2, e4⟩, DFr.of k f⟩
theorem DFr.fun {I : TInv} {h base : Heap} : ∀ {l : List Env}, DFr I h l → (∀ env ∈ l, ∀ L, env.frame = some L → base.get? L = none) → h.FunFrames base l
  | [], _, _ => trivial
  | env :: r, ⟨a, ⟨L, o, es, ep, e1, e2, e3, e4⟩, f⟩, n => ⟨a, ⟨L, o, e1, n env (List.mem_cons_self ..) L e1, e2, fun vs q => by rw [e3] at q; cases q⟩, DFr.fun f fun x hx => n x (List.mem_cons_of_mem _ hx)⟩
theorem DFr.at {I : TInv} {h : Heap} {l : List Env} (d : DFr I h l) : ∀ env ∈ l, ∀ L, env.frame = some L → ∃ o es ep, h.get? L = some o ∧ o.data = .dict es ep ∧ I.base.get? L = none := by
  induction l with
  | nil => intro env hm; cases hm
  | cons x r ih =>
    intro env hm L' hL
    obtain ⟨a, ⟨L, o, es, ep, e1, e2, e3, e4⟩, f⟩ := d
    rcases List.mem_cons.mp hm with rfl | hm
    · rw [e1] at hL; cases hL; exact ⟨o, es, ep, e2, e3, e4⟩
    · exact ih f env hm L' hL
noncomputable def Low (I : TInv) (h : Heap) : Prop := ∀ b, h.get? b = none → I.base.get? b = none
theorem Low.ext {I : TInv} {h h' : Heap} (x : Ext I h h') (l : Low I h) : Low I h' := fun b n => l b (x.fresh n)
noncomputable def FrOK (I : TInv) (A : Around) (h : Heap) : Prop := ∃ fr, A.frames = some fr ∧ DFr I h fr ∧ Low I h
noncomputable def GoodF (prog : Program) (w : World) (I : TInv) (B : Heap) (k : Nat) (f : Addr) (sp : Spec) : Prop :=
  (∃ o fd, B.get? f = some o ∧ o.data = .func fd) ∧
  ∀ (A : Around) (vs : List Value) (ds : List D) (Q : D → Prop) (E : Value → Shared → Prop) (s : Shared), Ext I B s.heap → I.ok s.heap → AOK k A → FrOK I A s.heap → RepL s.heap vs ds → sp ds Q →
    wpAny (model prog w) A (call (.ref f) vs) (EvP I s true Q) E s

structure CGood (prog : Program) (w : World) (I : TInv) (B : Heap) (mg mb : Str → Option Value) (C : Cx) (k : Nat) : Prop where
  g : B.Ns mainGlobals mg
  b : B.Ns builtinsNs mb
  bi : ∀ x b, C.gl.lookup x = some (.bi b) → mg x = none ∧ mb x = some b.val
  fn : ∀ x f sp, C.gl.lookup x = some (.fn f sp) → mg x = some (.ref f) ∧ GoodF prog w I B k f sp
  ci : ∀ x i, C.gl.lookup x = some (.cint i) → ∃ t, mg x = some (.int i t)
  dbg : ∀ x g, C.gl.lookup x = some g → (x == ("__debug__" : Str)) = false
  clo : ∀ f sp, C.clo = some (f, sp) → GoodF prog w I B k f sp

noncomputable def VarAt (env : Env) (nm : Nm) (m : Str → Option Value) (h : Heap) (x : Str) (d : D) : Prop :=
  (nm.lookup x = some .local ∧ ∃ v, m x = some v ∧ Rep h v d) ∨
  ((nm.lookup x = some .cell ∨ nm.lookup x = some .free) ∧ ∃ c v, env.cells.lookup x = some c ∧ h.IsCell c (some v) ∧ Rep h v d)

structure Fm (I : TInv) (B : Heap) (k : Nat) (A : Around) (env : Env) (nm : Nm) (st : St) (h : Heap) : Prop where
  ext : Ext I B h
  tab : I.ok h
  room : AOK k A
  fr : FrOK I A h
  names : env.scope.names = nm
  kind : env.scope.kind = .function
  gl : env.globals = mainGlobals
  bt : env.builtins = builtinsNs
  dbg : nm.lookup ("__debug__" : Str) = none
  cdt : nm.lookup ("__classdict__" : Str) = none
  ns : ∃ m, h.Ns env.locals m ∧ ∀ x d, st.lookup x = some d → VarAt env nm m h x d

theorem VarAt.ext {I : TInv} {env : Env} {nm : Nm} {m : Str → Option Value} {h h' : Heap} (x : Ext I h h') {y : Str} {d : D} (v : VarAt env nm m h y d) : VarAt env nm m h' y d :=
  v.imp (fun ⟨a, v, b, r⟩ => ⟨a, v, b, r.ext x⟩) fun ⟨a, c, v, b, e, r⟩ => ⟨a, c, v, b, x.isCell e, r.ext x⟩
theorem FrOK.ext {I : TInv} {A : Around} {h h' : Heap} (x : Ext I h h') (f : FrOK I A h) : FrOK I A h' := let ⟨fr, e, g, l⟩ := f; ⟨fr, e, g.of (fun b o es ep e d => let ⟨o', e', d'⟩ := x.dict b o es ep e d; ⟨o', es, ep, e', d'.trans d⟩), l.ext x⟩
theorem Fm.to {I : TInv} {B : Heap} {k : Nat} {A : Around} {env : Env} {nm : Nm} {st : St} {h h' : Heap} (F : Fm I B k A env nm st h) (x : Ext I h h') : Fm I B k A env nm st h' :=
  ⟨F.ext.trans x, x.tabs F.tab, F.room, F.fr.ext x, F.names, F.kind, F.gl, F.bt, F.dbg, F.cdt, let ⟨m, n, r⟩ := F.ns; ⟨m, x.ns n, fun y d e => (r y d e).ext x⟩⟩
theorem Fm.kindOf {I : TInv} {B : Heap} {k : Nat} {A : Around} {env : Env} {nm : Nm} {st : St} {h : Heap} (F : Fm I B k A env nm st h) (x : Str) : env.kindOf x = nm.lookup x := by
  unfold Env.kindOf; rw [F.names]
theorem Fm.no {I : TInv} {B : Heap} {k : Nat} {A : Around} {env : Env} {nm : Nm} {st : St} {h : Heap} (F : Fm I B k A env nm st h) {x : Str} {q : NameKind} (e : nm.lookup x = some q) : (x == ("__debug__" : Str)) = false := by
  cases hx : (x == ("__debug__" : Str)) with
  | false => rfl
  | true => have := F.dbg; rw [← beq_iff_eq.mp hx, e] at this; cases this

section
variable {prog : Program} {w : World} {I : TInv} {B : Heap} {mg mb : Str → Option Value} {C : Cx} {k : Nat} {A : Around} {env : Env} {nm : Nm} {st : St} {s : Shared} {E : Value → Shared → Prop}

theorem name_sound {x : Str} {p : Pos} {d : D} {Q : D → Prop} (F : Fm I B k A env nm st s.heap) (e : st.lookup x = some d) (q : Q d) : wpAny (model prog w) A (eval (.Name x p) env) (EvP I s false Q) E s := by
  obtain ⟨m, hn, hv⟩ := F.ns
  rcases hv x d e with ⟨a, v, b, r⟩ | ⟨a, c, v, b, hc, r⟩
  · exact wpAny_Name (wpAny_loadName_local F.kind ((F.kindOf x).trans a) hn b ⟨_, _, d, rfl, .refl _, r, (fun e => by cases e), q⟩) (F.no a)
  · rcases a with a | a
    · exact wpAny_Name (wpAny_loadName_cell F.kind ((F.kindOf x).trans a) b hc ⟨_, _, d, rfl, .refl _, r, (fun e => by cases e), q⟩) (F.no a)
    · have hx : (x == ("__classdict__" : Str)) = false := by
        cases hx : (x == ("__classdict__" : Str)) with
        | false => rfl
        | true => have := F.cdt; rw [← beq_iff_eq.mp hx, a] at this; cases this
      exact wpAny_Name (wpAny_loadName_free F.kind ((F.kindOf x).trans a) b hc ⟨_, _, d, rfl, .refl _, r, (fun e => by cases e), q⟩ hx) (F.no a)

noncomputable def G.val : G → Value → Prop
  | .bi b, v => v = b.val
  | .fn f _, v => v = .ref f
  | .cint i, v => ∃ t, v = .int i t
theorem glob_sound {x : Str} {p : Pos} {g : G} {Q : Value → Shared → Prop} (H : CGood prog w I B mg mb C k) (F : Fm I B k A env nm st s.heap) (e : globVC C nm st x = some g) (q : ∀ v, g.val v → Q v s) : wpAny (model prog w) A (eval (.Name x p) env) Q E s := by
  unfold globVC at e
  split at e
  · cases e
  · rename_i hs
    split at e
    · rename_i hk
      have hk : nm.lookup x = some .globalImplicit := by simpa using hk
      have hg := F.ext.ns H.g
      have hb := F.ext.ns H.b
      rw [← F.gl] at hg
      rw [← F.bt] at hb
      refine Name_function_global F.kind ((F.kindOf x).trans hk) ?_ (H.dbg x g e)
      cases g with
      | bi b => exact loadGlobal_builtin hg (H.bi x b e).1 hb (H.bi x b e).2 (q _ rfl)
      | fn f sp => exact loadGlobal_global hg (H.fn x f sp e).1 (q _ rfl)
      | cint i => obtain ⟨t, ht⟩ := H.ci x i e; exact loadGlobal_global hg ht (q _ ⟨t, rfl⟩)
    · cases e

theorem starEach_cons {e : Expr} {rest : List Expr} (h : noStar (e :: rest) = true) : starEach (e :: rest) env = (false, eval e env) :: starEach rest env := by
  cases e <;> first | rfl | (simp [noStar] at h)
theorem noStar_tail {e : Expr} {rest : List Expr} (h : noStar (e :: rest) = true) : noStar rest = true := by
  cases e <;> first | exact h | (simp [noStar] at h)
theorem trees_eq (pos : Pos) : ∀ {es : List Expr}, noStar es = true → backTo pos (starEach es env) = es.map fun e => (false, eval e env)
  | [], _ => rfl
  | e :: r, h => by
    rw [starEach_cons h]
    have ih := trees_eq pos (noStar_tail h)
    unfold backTo at ih ⊢
    rw [List.map_cons, ih]
    rfl
theorem trees_plain {es : List Expr} : (es.map fun e => ((false, eval e env) : Bool × Sem Value)).any (·.1) = false := by
  induction es with
  | nil => rfl
  | cons e r ih => rw [List.map_cons, List.any_cons, ih]; rfl

noncomputable def Snd (prog : Program) (w : World) (I : TInv) (B : Heap) (k : Nat) (C : Cx) (n : Nat) : Prop :=
  (∀ (nm : Nm) (e : Expr) (st : St) (Q : D → Prop) (A : Around) (env : Env) (s : Shared) (E : Value → Shared → Prop), vcE C n nm e st Q → Fm I B k A env nm st s.heap → wpAny (model prog w) A (eval e env) (EvP I s (freshE e) Q) E s) ∧
  (∀ (nm : Nm) (e : Expr) (st : St) (Q : Bool → Prop) (A : Around) (env : Env) (s : Shared) (E : Value → Shared → Prop), vcT C n nm e st Q → Fm I B k A env nm st s.heap → wpAny (model prog w) A (isTrue e env (eval e env)) (fun b s' => After I s s' ∧ Q b) E s)

theorem args_sound {n : Nat} (S : Snd prog w I B k C n) : ∀ {es : List Expr} {Q : List D → Prop} {s : Shared}, argsVC (es.map fun v K => vcE C n nm v st K) Q → Fm I B k A env nm st s.heap →
    wpAny (model prog w) A (spliced (es.map fun e => (false, eval e env))) (fun vs s' => After I s s' ∧ ∃ ds, RepL s'.heap vs ds ∧ Q ds) E s
  | [], Q, s, h, F => spliced_nil ⟨.refl _, [], .nil, h⟩
  | e :: r, Q, s, h, F => by
    refine spliced_cons (wpAny_mono (S.1 nm e st _ A env s E h F) (fun v s₁ h₁ => ?_) fun _ _ x => x)
    obtain ⟨a, d, rd, _, q⟩ := h₁.out
    refine wpAny_mono (args_sound S q (F.to a.ext)) (fun vs s₂ h₂ => ?_) fun _ _ x => x
    obtain ⟨a', ds, rs, q'⟩ := h₂
    exact ⟨a.trans a', d :: ds, .cons (rd.ext a'.ext) rs, q'⟩
theorem evalArgs_sound {n : Nat} (S : Snd prog w I B k C n) {f : Value} {es : List Expr} {Q : List D → Prop} (h : argsVC (es.map fun v K => vcE C n nm v st K) Q) (F : Fm I B k A env nm st s.heap) :
    wpAny (model prog w) A (evalArgs f true (es.map fun e => (false, eval e env)) []) (fun a s' => ∃ vs, a = ⟨vs, []⟩ ∧ After I s s' ∧ ∃ ds, RepL s'.heap vs ds ∧ Q ds) E s := by
  cases es with
  | nil => exact PySem.evalArgs_none ⟨[], rfl, .refl _, [], .nil, h⟩
  | cons e r => exact evalArgs_plain (wpAny_mono (args_sound S h F) (fun vs s₁ h₁ => ⟨vs, rfl, h₁⟩) fun _ _ x => x)
end
end Mine
end

section -- M9
open PySem PySem.W PyProof.Rows
set_option Elab.async false
set_option linter.unusedVariables false
namespace Mine
open PySem.SeqAt PySem.Calls

noncomputable def relK (o : Option NameKind) : Option NameKind → Option NameKind
  | some .free => if o == some .cell then some .cell else some .free
  | o => o
theorem lookup_relN (nm : Nm) : ∀ (names : Nm) (x : Str), (relN nm names).lookup x = relK (nm.lookup x) (names.lookup x)
  | [], x => by simp [relN, relK]
  | (n, k) :: r, x => by
    have ih := lookup_relN nm r x
    unfold relN at ih ⊢
    rw [List.map_cons]
    dsimp only at ih ⊢
    cases hx : x == n with
    | true =>
      have hxn : x = n := beq_iff_eq.mp hx
      subst hxn
      by_cases hc : (k == NameKind.free && nm.lookup x == some .cell) = true
      · rw [if_pos hc]
        simp only [Bool.and_eq_true] at hc
        have hk : k = .free := beq_iff_eq.mp hc.1
        subst hk
        simp [List.lookup_cons, relK, hc.2]
      · rw [if_neg hc]
        simp only [List.lookup_cons, beq_self_eq_true]
        cases k <;> first | rfl | (simp only [beq_self_eq_true, Bool.true_and] at hc; simp [relK, hc])
    | false =>
      by_cases hc : (k == NameKind.free && nm.lookup n == some .cell) = true
      · rw [if_pos hc]; simp only [List.lookup_cons, hx]; exact ih
      · rw [if_neg hc]; simp only [List.lookup_cons, hx]; exact ih

theorem lookup_filter {P : Str → Bool} : ∀ (st : St) (y : Str), (st.filter fun p => P p.1).lookup y = if P y then st.lookup y else none
  | [], y => by simp
  | (n, d) :: r, y => by
    have ih := lookup_filter (P := P) r y
    rw [List.filter_cons]
    cases hx : y == n with
    | true =>
      have e : y = n := beq_iff_eq.mp hx
      subst e
      cases hp : P y with
      | true => simp
      | false => rw [if_neg (by simp)]; rw [ih, hp]; simp
    | false =>
      cases hp : P n with
      | true => rw [if_pos rfl]; simp only [List.lookup_cons, hx]; exact ih
      | false => rw [if_neg (by simp)]; simp only [List.lookup_cons, hx]; exact ih

theorem lookup_mem {α : Type} {x : Str} {v : α} : ∀ {l : List (Str × α)}, l.lookup x = some v → (x, v) ∈ l
  | [], h => by simp at h
  | (n, k) :: r, h => by
    rw [List.lookup_cons] at h
    cases hx : x == n with
    | true => rw [hx] at h; have e : x = n := beq_iff_eq.mp hx; subst e; cases h; exact .head _
    | false => rw [hx] at h; exact .tail _ (lookup_mem h)

noncomputable def clOf (env : Env) : Nm → List (Str × Addr) → List (Str × Addr)
  | [], acc => acc
  | (n, k) :: r, acc => clOf env r (if k == .free then (n, (env.cells.lookup n).getD 0) :: acc else acc)
theorem clOf_mem {env : Env} : ∀ {names : Nm} {acc : List (Str × Addr)} {p : Str × Addr}, p ∈ clOf env names acc → p ∈ acc ∨ p.2 = (env.cells.lookup p.1).getD 0
  | [], _, _, h => .inl h
  | (n, k) :: r, acc, p, h => by
    rcases clOf_mem (names := r) h with h | h
    · by_cases hk : (k == NameKind.free) = true
      · rw [if_pos hk] at h
        rcases List.mem_cons.mp h with rfl | h
        · exact .inr rfl
        · exact .inl h
      · rw [if_neg hk] at h; exact .inl h
    · exact .inr h
theorem clOf_keep {env : Env} : ∀ {names : Nm} {acc : List (Str × Addr)} {p : Str × Addr}, p ∈ acc → p ∈ clOf env names acc
  | [], _, _, h => h
  | (n, k) :: r, acc, p, h => clOf_keep (names := r) (by split; exact .tail _ h; exact h)
theorem clOf_has {env : Env} : ∀ {names : Nm} {acc : List (Str × Addr)} {n : Str}, (n, NameKind.free) ∈ names → (n, (env.cells.lookup n).getD 0) ∈ clOf env names acc
  | (m, k) :: r, acc, n, h => by
    rcases List.mem_cons.mp h with e | h
    · cases e; exact clOf_keep (names := r) (by simp)
    · exact clOf_has (names := r) h
theorem lookup_some_of_mem {α : Type} {x : Str} {v : α} : ∀ {l : List (Str × α)}, (x, v) ∈ l → ∃ u, l.lookup x = some u
  | (n, k) :: r, h => by
    rw [List.lookup_cons]
    cases hx : x == n with
    | true => exact ⟨_, rfl⟩
    | false =>
      rcases List.mem_cons.mp h with e | h
      · cases e; simp at hx
      · exact lookup_some_of_mem h
theorem clOf_lookup {env : Env} {names : Nm} {n : Str} {c : Addr} (h : (n, NameKind.free) ∈ names) (hc : env.cells.lookup n = some c) : (clOf env names []).lookup n = some c := by
  obtain ⟨u, e⟩ := lookup_some_of_mem (clOf_has (env := env) (acc := []) h)
  rcases clOf_mem (lookup_mem e) with q | q
  · cases q
  · rw [e]; simp only at q; rw [q, hc]; rfl

theorem closure_go (env : Env) : ∀ (names : Nm) (acc : List (Str × Addr)), (∀ n, (n, NameKind.free) ∈ names → (env.cells.lookup n).isSome = true) →
    (forIn names acc fun (x : Str × NameKind) cs => if (x.2 == .free) = true then do let a ← cellOf env x.1; pure (ForInStep.yield ((x.1, a) :: cs)) else pure (ForInStep.yield cs) : Sem (List (Str × Addr))) = pure (clOf env names acc)
  | [], acc, _ => rfl
  | (n, k) :: r, acc, h => by
    rw [List.forIn_cons]
    by_cases hk : (k == NameKind.free) = true
    · have e : k = .free := beq_iff_eq.mp hk
      subst e
      have := h n (.head _)
      obtain ⟨c, hc⟩ := Option.isSome_iff_exists.mp this
      have e1 : cellOf env n = pure c := by unfold cellOf; rw [hc]
      simp only [beq_self_eq_true, if_true, e1, pure_bind]
      rw [closure_go env r _ fun n hn => h n (.tail _ hn)]
      simp [clOf, hc]
    · simp only [hk, Bool.false_eq_true, if_false, pure_bind]
      rw [closure_go env r _ fun n hn => h n (.tail _ hn)]
      simp [clOf, hk]
theorem closure_eq {env : Env} {scope : Scope} (h : ∀ n, (n, NameKind.free) ∈ scope.names → (env.cells.lookup n).isSome = true) : closureFor scope env = pure (clOf env scope.names []) := by
  have := closure_go env scope.names [] h
  unfold closureFor
  simp only [] at this ⊢
  rw [show (forIn scope.names ([] : List (Str × Addr)) fun (x : Str × NameKind) cs => if (x.2 == .free) = true then do let a ← cellOf env x.1; pure (ForInStep.yield ((x.1, a) :: cs)) else pure (ForInStep.yield cs) : Sem (List (Str × Addr))) = pure (clOf env scope.names []) from this]
  rfl

theorem but_tuple {h1 h2 : Heap} {l : List Addr} (k : ∀ b o, b ∉ l → h1.get? b = some o → h2.get? b = some o) (n : ∀ a ∈ l, ∀ vs, ¬ h1.IsTuple a vs) : ∀ a vs, h1.IsTuple a vs → h2.IsTuple a vs :=
  fun a vs ht => by
    have nl : a ∉ l := fun q => n a q vs ht
    obtain ⟨o, ho, r⟩ := ht
    exact ⟨o, k a o nl ho, r⟩
theorem ns_tuple {h : Heap} {a : Addr} {m : Str → Option Value} (n : h.Ns a m) (vs : Array Value) : ¬ h.IsTuple a vs := fun ⟨o, ho, _, k, hd⟩ => by
  obtain ⟨o', es, ep, ho', hd', _⟩ := n
  rw [ho] at ho'; cases ho'; rw [hd] at hd'; cases hd'

section
variable {prog : Program} {w : World} {I : TInv} {B : Heap} {k : Nat} {A : Around} {env : Env} {nm : Nm} {st : St} {s : Shared} {E : Value → Shared → Prop}

structure CompOK (nm : Nm) (st : St) (scope : Scope) (x : Str) : Prop where
  kind : scope.kind = .function
  x : scope.names.lookup x = some .local
  dbg : scope.names.lookup ("__debug__" : Str) = none
  cdt : scope.names.lookup ("__classdict__" : Str) = none
  loc : ∀ y ∈ scope.names, y.2 = .local → scope.names.lookup y.1 = some .local
  cell : ∀ y ∈ scope.names, y.2 ≠ .cell
  free : ∀ n, (n, NameKind.free) ∈ scope.names → nm.lookup n = some .cell ∧ (st.lookup n).isSome = true
theorem compOK_iff {scope : Scope} {x : Str} (h : compOK nm st scope x = true) : CompOK nm st scope x := by
  unfold compOK at h
  simp only [Bool.and_eq_true, List.all_eq_true] at h
  obtain ⟨⟨⟨⟨h1, h2⟩, h3⟩, h4⟩, h5⟩ := h
  refine ⟨by simpa using h1, by simpa using h2, by simpa using h3, by simpa using h4, fun y hy e => ?_, fun y hy e => ?_, fun n hn => ?_⟩
  · have := h5 y hy; rw [e] at this; simpa using this
  · have := h5 y hy; rw [e] at this; simp at this
  · have := h5 _ hn; simp only [Bool.and_eq_true] at this; exact ⟨by simpa using this.1.1, by simpa using this.1.2⟩

theorem Fm.cells {scope : Scope} {x : Str} (F : Fm I B k A env nm st s.heap) (ok : CompOK nm st scope x) : ∀ n, (n, NameKind.free) ∈ scope.names → (env.cells.lookup n).isSome = true := fun n hn => by
  obtain ⟨a, b⟩ := ok.free n hn
  obtain ⟨d, e⟩ := Option.isSome_iff_exists.mp b
  obtain ⟨m, _, hv⟩ := F.ns
  rcases hv n d e with ⟨q, _⟩ | ⟨_, c, v, q, _⟩
  · rw [a] at q; cases q
  · rw [q]; rfl

theorem Fm.comp {scope : Scope} {x : Str} {C : Addr} {h : Heap} {m : Str → Option Value} {v : Value} {d : D} (F : Fm I B k A env nm st h) (ok : CompOK nm st scope x) (hn : h.Ns C m) (hx : m x = some v) (r : Rep h v d) :
    Fm I B k A (compEnvC scope (clOf env scope.names []) C env) (relN nm scope.names) (compSt st scope x d) h := by
  have hnames : (compEnvC scope (clOf env scope.names []) C env).scope.names = relN nm scope.names := by
    show scope.names.map _ = scope.names.map _
    refine List.map_congr_left fun y _ => ?_
    obtain ⟨n, q⟩ := y
    have e1 : env.kindOf n = nm.lookup n := F.kindOf n
    simp only [F.kind, e1, beq_self_eq_true, Bool.and_true]
  refine ⟨F.ext, F.tab, F.room, F.fr, hnames, ok.kind, F.gl, F.bt, ?_, ?_, m, hn, fun y e hy => ?_⟩
  · rw [lookup_relN, ok.dbg]; rfl
  · rw [lookup_relN, ok.cdt]; rfl
  · unfold compSt at hy
    rw [List.lookup_cons] at hy
    cases hyx : y == x with
    | true =>
      rw [hyx] at hy
      cases hy
      have e : y = x := beq_iff_eq.mp hyx
      subst e
      exact .inl ⟨by rw [lookup_relN, ok.x]; rfl, v, hx, r⟩
    | false =>
      rw [hyx] at hy
      simp only at hy
      rw [lookup_filter (P := fun z => scope.names.lookup z == some .free)] at hy
      split at hy
      · rename_i hf
        have hf : scope.names.lookup y = some .free := by simpa using hf
        have hmem := lookup_mem hf
        obtain ⟨a, b⟩ := ok.free y hmem
        obtain ⟨m₀, _, hv⟩ := F.ns
        rcases hv y e hy with ⟨q, _⟩ | ⟨_, c, u, q, hc, ru⟩
        · rw [a] at q; cases q
        · exact .inr ⟨.inl (by rw [lookup_relN, hf, a]; rfl), c, u, clOf_lookup hmem q, hc, ru⟩
      · cases hy
end
end Mine
end

section -- M10
open PySem PySem.W PyProof.Rows
set_option Elab.async false
set_option linter.unusedVariables false
namespace Mine
open PySem.SeqAt PySem.Calls

theorem lfs_append {ds es : List D} (h : D.lfs ds = true) (h' : D.lfs es = true) : D.lfs (ds ++ es) = true := by
  induction ds with
  | nil => exact h'
  | cons d ds ih =>
    simp only [D.lfs, Bool.and_eq_true, List.cons_append] at h ⊢
    exact ⟨h.1, ih h.2⟩
theorem lfs_one {d : D} (h : d.lf = true) : D.lfs [d] = true := by simp [D.lfs, h]

section
variable {prog : Program} {w : World} {I : TInv} {B : Heap} {k : Nat} {A : Around} {env : Env} {nm : Nm} {st : St} {E : Value → Shared → Prop} {C : Cx} {n : Nat}

noncomputable abbrev testVC (C : Cx) (n : Nat) (nm : Nm) (st : St) (scope : Scope) (x : Str) (ifs : List Expr) : D → (Bool → Prop) → Prop := testVC' (fun e st K => vcT C n (relN nm scope.names) e st K) st scope x ifs

inductive CmI (I : TInv) (h₀ : Heap) (s₂ : Shared) (items : List D) (f : D → (D → Prop) → Prop) (t : D → (Bool → Prop) → Prop) (Qd : List D → Prop) (Dl Cl : Addr) (St' : Nat → Heap → Prop) (q : Nat) (s' : Shared) : Prop
  | mk (h' : Heap) (tk : Nat) (m' : Str → Option Value) (ys : List Value) (ds : List D) (i : Nat) (e : s' = { s₂ with heap := h', toks := tk }) (st : St' i h') (hl : h'.PlainList Dl (List.toArray ys)) (rp : RepL h' ys ds) (lf : D.lfs ds = true) (ns : h'.Ns Cl m')
    (le : i ≤ items.length) (eq : q = items.length + 1 - i) (dl : ds.length ≤ i) (x : Ext I h₀ h') (vc : compVC f t (items.drop i) ds Qd)

theorem comp_core (S : Snd prog w I B k C n) {scope : Scope} {elt iter : Expr} {x : Str} {px pos : Pos} {ifs : List Expr} {s₂ : Shared} {h₀ : Heap} {src it : Value} {items : List D} {Qd : List D → Prop} {RR : Value → Addr → Result → Shared → Prop}
    (ok : CompOK nm st scope x) (F : Fm I B k A env nm st h₀) (x₀ : Ext I h₀ s₂.heap) (W₀ : IterOf prog w I A h₀ src it items s₂) (hlen : items.length ≤ 10000)
    (vc : compVC (fun d K => vcE C n (relN nm scope.names) elt (compSt st scope x d) K) (testVC C n nm st scope x ifs) items [] Qd)
    (hRR : ∀ D₁ C₁ h' tk m' vs ds, s₂.heap.get? D₁ = none → s₂.heap.get? C₁ = none → D₁ ≠ C₁ → h'.Ns C₁ m' → h'.PlainList D₁ (List.toArray vs) → RepL h' vs ds → D.lfs ds = true → Ext I h₀ h' → Qd ds →
      RR (.ref D₁) C₁ (.ok .next) { s₂ with heap := h', toks := tk }) :
    wpAny (model prog w) A (newList []) (fun acc s₃ => wpAny (model prog w) A (newFunctionEnv scope env.globals (clOf env scope.names []) [] env.qual none .none (some env)) (fun cenv s₄ =>
      codeAny (model prog w) A (.compStart (.ListComp elt [⟨.Name x px, iter, ifs, 0⟩] scope pos) 0 it acc { cenv with scope := relabel scope env }) (RR acc cenv.locals) s₄) E s₃) E s₂ := by
  obtain ⟨Ia, fp, wr, P, St', rfl, W, hst, hfp, hwr, hrec, hnt, _, hP⟩ := W₀
  refine wpAny_newObj_type (wpAny_newFunctionEnv ok.cell (by intro y hy; simp at hy) (fun h₁ hns₁ hsb₁ => ?_) ok.kind) (by rw [sizeOk]; simp)
  dsimp only at hns₁ hsb₁ ⊢
  generalize hH2 : s₂.heap.push { cls := .type "list", dict := none, data := .seq ([] : List Value).toArray } = H2 at hns₁ hsb₁ ⊢
  have hC : H2.objs.size = s₂.heap.objs.size + 1 := by rw [← hH2, Heap.size_push]
  have hDC : s₂.heap.objs.size ≠ H2.objs.size := by rw [hC]; exact Nat.ne_of_lt (Nat.lt_succ_self _)
  have below : ∀ b, b < s₂.heap.objs.size → b ≠ H2.objs.size ∧ b ≠ s₂.heap.objs.size := fun b hb => ⟨by rw [hC]; exact Nat.ne_of_lt (Nat.lt_succ_of_lt hb), Nat.ne_of_lt hb⟩
  have hDf : s₂.heap.objs.size ∉ fp := fun hm => Nat.lt_irrefl _ (hfp _ hm)
  have hCf : H2.objs.size ∉ fp := fun hm => by have := hfp _ hm; rw [hC] at this; exact Nat.lt_irrefl _ (Nat.lt_of_succ_lt this)
  have old : ∀ b o, s₂.heap.get? b = some o → h₁.get? b = some o := fun b o e => hsb₁.extBut b o (below b (Heap.lt_size e)).1 (Heap.get?_push_of_some _ (hH2 ▸ Heap.get?_push_of_some _ e))
  have hacc : h₁.PlainList s₂.heap.objs.size #[] := ⟨_, hsb₁.extBut _ _ hDC (Heap.get?_push_of_some _ (hH2 ▸ Heap.get?_push_size _ rfl))⟩
  have hst₁ : St' 0 h₁ := W.frame _ _ _ hst fun b _ o e => old b o e
  have fresh : ∀ a, s₂.heap.objs.size ≤ a → s₂.heap.get? a = none := fun a ha => Heap.get?_none_of_le ha
  have fD := x₀.fresh (fresh _ (Nat.le_refl s₂.heap.objs.size))
  have fC := x₀.fresh (fresh H2.objs.size (by rw [hC]; exact Nat.le_succ _))
  have x₁ : Ext I h₀ h₁ := x₀.trans (.of old)
  have hp : ((compEnvC scope (clOf env scope.names []) H2.objs.size env).scope.kind == .class || ((compEnvC scope (clOf env scope.names []) H2.objs.size env).scope.kind == .module && (compEnvC scope (clOf env scope.names []) H2.objs.size env).locals != (compEnvC scope (clOf env scope.names []) H2.objs.size env).globals)) = false := by
    simp [compEnvC, relabel, ok.kind]
  have hx : (compEnvC scope (clOf env scope.names []) H2.objs.size env).kindOf x = some .local := lookup_relabel_local ok.x
  have hCw : H2.objs.size ∉ wr := fun h => hCf (W.sub _ h)
  have hDw : s₂.heap.objs.size ∉ wr := fun h => hDf (W.sub _ h)
  have loop : ∀ s₃ : Shared, s₃ = { s₂ with heap := h₁, toks := s₂.toks + ([] : List (Str × Value)).length } →
      codeAny (model prog w) A (.compLoop (.ListComp elt [⟨.Name x px, iter, ifs, 0⟩] scope pos) 0 (.ref Ia) (.ref s₂.heap.objs.size) (compEnvC scope (clOf env scope.names []) H2.objs.size env))
        (RR (.ref s₂.heap.objs.size) H2.objs.size) s₃ := by
    rintro s₃ rfl
    refine codeAny_compLoop_tests
      (CmI I h₀ s₂ items (fun d K => vcE C n (relN nm scope.names) elt (compSt st scope x d) K) (testVC C n nm st scope x ifs) Qd s₂.heap.objs.size H2.objs.size St') ?_ (items.length + 1)
      ⟨h₁, _, _, [], [], 0, rfl, hst₁, hacc, .nil, rfl, hns₁, Nat.zero_le _, rfl, Nat.le_refl _, x₁, by simpa using vc⟩
    rintro q s' ⟨H, tk, m', ys, ds, i, rfl, hst', hacc', hrep, hlf, hn', hi, rfl, hds, hext, hvc⟩
    by_cases hlt : i < items.length
    · refine W.item i _ _ _ hlt hst' fun v ha tka hPv hsta hka => ?_
      have xa : Ext I h₀ ha := hext.but wr hwr (fun a hw o e => (pinAt (hrec i H hst' a (W.sub a hw)) e).1) hka
      have na : ha.Ns H2.objs.size m' := hn'.at' fun o e => hka _ o hCw e
      refine wpAny_assign_Name (wpAny_storeName_local hx na (fun hb nb sb => ?_) hp)
      have nb : hb.Ns H2.objs.size (fun y => if y = x then some v else m' y) := nb
      have sb : Heap.SameBut H2.objs.size ha hb := sb
      obtain ⟨oC, _, _, hoC, hdC, _⟩ := id na
      have xb : Ext I h₀ hb := xa.but1 fC hoC (not_rec fun vs e => by rw [hdC] at e; cases e) sb
      have stb : St' (i + 1) hb := W.frame _ _ _ hsta fun b hbf o e => sb.extBut b o (fun h => hCf (h ▸ hbf)) e
      have accb : hb.PlainList s₂.heap.objs.size (List.toArray ys) := (hacc'.at fun o e => hka _ o hDw e).at fun o e => sb.extBut _ o hDC e
      have keepT : ∀ a vs, H.IsTuple a vs → hb.IsTuple a vs := fun a vs ht => but_tuple (l := [H2.objs.size]) (fun b o hb' e => sb.extBut b o (by simpa using hb') e) (fun a ha' vs => by rw [mem1 ha']; exact ns_tuple na vs) a vs
        (but_tuple hka (fun b hb => notTup (hnt i H hst' b hb)) a vs ht)
      have repb : RepL hb ys ds := hrep.lf_keep keepT hlf
      obtain ⟨d, hd, rd₀⟩ := hP i v hlt hPv
      have rd : Rep hb v d := rd₀.ext xb
      have hdrop : items.drop i = d :: items.drop (i + 1) := by
        obtain ⟨h1, h2⟩ := List.getElem?_eq_some_iff.mp hd
        rw [List.drop_eq_getElem_cons h1, h2]
      rw [hdrop, compVC] at hvc
      have Fb : ∀ h', Ext I hb h' → Fm I B k A (compEnvC scope (clOf env scope.names []) H2.objs.size env) (relN nm scope.names) (compSt st scope x d) h' := fun h' y => (F.to (xb.trans y)).comp ok (y.ns nb) (by simp) (rd.ext y)
      have stay : ∀ h', Ext I hb h' → St' (i + 1) h' ∧ h'.PlainList s₂.heap.objs.size (List.toArray ys) ∧ RepL h' ys ds ∧ h'.Ns H2.objs.size (fun y => if y = x then some v else m' y) := fun h' y =>
        ⟨W.frame _ _ _ stb fun b hbf o e => y.keep b o e (fun t => (pinAt (hrec (i + 1) hb stb b hbf) e).1 (.inl t)) (pinAt (hrec (i + 1) hb stb b hbf) e).2.2, y.plainList accb, repb.ext y, y.ns nb⟩
      have tests : ∀ (K : Bool → Prop), testVC C n nm st scope x ifs d K → ∀ E', wpAny (model prog w) A (forIn ifs true fun c r => if r = true then do let ok ← isTrue c (compEnvC scope (clOf env scope.names []) H2.objs.size env) (eval c (compEnvC scope (clOf env scope.names []) H2.objs.size env)); pure (ForInStep.yield ok) else pure (ForInStep.yield r))
          (fun b s' => After I { s₂ with heap := hb, toks := tka + 1 } s' ∧ K b) E' { s₂ with heap := hb, toks := tka + 1 } := fun K hK E' => by
        cases ifs with
        | nil => exact wpAny_tests_nil ⟨.refl _, hK⟩
        | cons c r => cases r with
          | nil => exact wpAny_tests_one (S.2 _ _ _ K A _ _ E' hK (Fb hb (.refl _)))
          | cons => exact hK.elim
      refine wpAny_mono (tests _ hvc _) (fun b s₃ h₃ => ?_) fun _ _ x => x
      obtain ⟨a₃, hq⟩ := h₃
      obtain ⟨hc, tkc, rfl, yc⟩ := a₃
      have yc : Ext I hb hc := yc
      cases b with
      | false =>
        simp only [Bool.false_eq_true, if_false]
        obtain ⟨z1, z2, z3, z4⟩ := stay hc yc
        exact ⟨_, by (first | lia | omega), hc, tkc, _, ys, ds, i + 1, rfl, z1, z2, z3, hlf, z4, hlt, rfl, by (first | lia | omega), xb.trans yc, hq⟩
      | true =>
        simp only [if_true]
        refine wpAny_mono (S.1 _ elt _ _ A _ _ _ hq (Fb hc yc)) (fun y s₄ h₄ => ?_) fun _ _ x => x
        obtain ⟨⟨hd', tkd, rfl, yd⟩, e, re, _, hlfe, hvc'⟩ := h₄.out
        have yd : Ext I hb hd' := yc.trans yd
        have re : Rep hd' y e := re
        obtain ⟨z1, z2, z3, z4⟩ := stay hd' yd
        have hsz : (List.toArray ys).size ≤ sizeLine := by rw [sizeLine_eq]; simp; have := z3.length; (first | lia | omega)
        refine wpAny_list_append_plain (hsz := hsz) z2 fun he hl₅ hs₅ => ?_
        have hs₅ : Heap.SameBut s₂.heap.objs.size hd' he := hs₅
        have keepT' : ∀ a vs, hd'.IsTuple a vs → he.IsTuple a vs := fun a vs ht => but_tuple (l := [s₂.heap.objs.size]) (fun b o hb' e => hs₅.extBut b o (by simpa using hb') e) (fun a ha' vs ht' => by rw [mem1 ha'] at ht'; exact list_ne_tuple z2.isList ht') a vs ht
        obtain ⟨kk, ez⟩ := id z2
        have xe : Ext I h₀ he := (xb.trans yd).but1 fD ez (not_rec fun vs e => by cases e) hs₅
        refine ⟨_, by (first | lia | omega), he, tkd, _, ys ++ [y], ds ++ [e], i + 1, rfl, W.frame _ _ _ z1 fun b hbf o e => hs₅.extBut b o (fun h => hDf (h ▸ hbf)) e, by simpa using hl₅, (z3.lf_keep keepT' hlf).append (.one (re.lf_keep keepT' hlfe)), lfs_append hlf (lfs_one hlfe), z4.sameBut hs₅ (Ne.symm hDC), hlt, rfl, ?_, xe, hvc'⟩
        rw [List.length_append, List.length_singleton]; (first | lia | omega)
    · have hin : i = items.length := by (first | lia | omega)
      subst hin
      refine W.done _ _ _ hst' fun ha tka hka => ?_
      rw [List.drop_eq_nil_of_le (Nat.le_refl _), compVC] at hvc
      have xa : Ext I h₀ ha := hext.but wr hwr (fun a hw o e => (pinAt (hrec _ H hst' a (W.sub a hw)) e).1) hka
      refine hRR _ _ ha tka m' ys ds (fresh _ (Nat.le_refl _)) (fresh _ (by rw [hC]; exact Nat.le_succ _)) hDC (hn'.at' fun o e => hka _ o hCw e) (hacc'.at fun o e => hka _ o hDw e) (hrep.lf_keep (but_tuple hka (fun b hb => notTup (hnt _ H hst' b hb))) hlf) hlf xa hvc
  exact codeAny_compStart_list (loop _ rfl) (W.self 0 _ _ _ hst₁ (loop _ rfl))
end
end Mine
end

section -- M11
open PySem PySem.W PyProof.Rows
set_option Elab.async false
set_option linter.unusedVariables false
namespace Mine
open PySem.SeqAt PySem.Calls

theorem iteP_true {b : Bool} {P Q : Prop} (h : iteP b P Q) (e : b = true) : P := by subst e; exact h
theorem iteP_false {b : Bool} {P Q : Prop} (h : iteP b P Q) (e : b = false) : Q := by subst e; exact h
theorem ifB_out {b : Bool} {P : Prop} (h : ifB b P) : b = true ∧ P := by cases b; exact h.elim; exact ⟨rfl, h⟩

theorem pick_rep {h : Heap} {vs : List Value} {ds : List D} (r : RepL h vs ds) (lo hi st : Option Int) : RepL h (slicePick vs.toArray lo hi st).toList (pick ds lo hi st) := by
  have e : vs.toArray.size = ds.length := r.length
  unfold slicePick pick
  rw [e]
  generalize sliceRange (sliceBounds lo hi st ds.length).1 (sliceBounds lo hi st ds.length).2.1 (sliceBounds lo hi st ds.length).2.2 = is
  show RepL h (is.filterMap (vs.toArray[·]?)) (is.filterMap (ds[·]?))
  induction is with
  | nil => exact .nil
  | cons i is ih =>
    rw [List.filterMap_cons, List.filterMap_cons, List.getElem?_toArray]
    cases hd : ds[i]? with
    | none =>
      rw [List.getElem?_eq_none_iff.mpr (r.length ▸ List.getElem?_eq_none_iff.mp hd)]; exact ih
    | some d =>
      obtain ⟨v, ev, rv⟩ := r.get hd
      rw [ev]
      exact .cons rv ih

section
variable {prog : Program} {w : World} {I : TInv} {B : Heap} {mg mb : Str → Option Value} {C : Cx} {k : Nat} {A : Around} {env : Env} {nm : Nm} {st : St} {s : Shared} {E : Value → Shared → Prop} {n : Nat}

theorem const_sound {c : Const} {kk : Nat} {p : Pos} {Q : D → Prop} {fr : Bool} (h : constVC c Q) : wpAny (model prog w) A (eval (.Constant c kk p) env) (EvP I s fr Q) E s := by
  cases c with
  | none => exact Constant_none ⟨_, _, _, rfl, .refl _, .none, fun _ => .inl rfl, h⟩
  | bool => exact Constant_bool (evp_bool h)
  | int => exact wpAny_Constant_int (evp_int h)
  | float => exact fun _ _ _ => evp_flt (tk := s.toks + 1) (t := s.toks) h
  | bytes => exact Constant_bytes (evp_bytes rfl h)
  | _ => exact h.elim

theorem part_of {v : Value} {d : D} {o : Option Int} (r : Rep s.heap v d) (e : partD d = some o) : IsPart v o := by
  cases d with
  | none => cases r.inv; cases e; exact .none
  | int i => obtain ⟨t, rfl⟩ := r.inv; cases e; exact .int _ _
  | _ => cases e
theorem slice_sound {slice value : Expr} {vc vl vu vk : Value} {c lo hi stp : D} {Q : D → Prop} (rc : Rep s.heap vc c) (rl : Rep s.heap vl lo) (ru : Rep s.heap vu hi) (rk : Rep s.heap vk stp) (h : sliceVC c lo hi stp Q) :
    wpAny (model prog w) A (subscriptTail value slice vc (.ref s.heap.objs.size)) (EvP I s true Q) E { s with heap := s.heap.push { cls := .type "slice", data := .fields #[vl, vu, vk] } } := by
  obtain ⟨ops, hops⟩ := subscripted_ops slice vc (.ref s.heap.objs.size)
  unfold sliceVC at h
  cases e1 : partD lo with
  | none => rw [e1] at h; exact h.elim
  | some l' =>
  cases e2 : partD hi with
  | none => rw [e1, e2] at h; exact h.elim
  | some u' =>
  cases e3 : partD stp with
  | none => rw [e1, e2, e3] at h; exact h.elim
  | some k' =>
  rw [e1, e2, e3] at h
  cases c with
  | list ds =>
    obtain ⟨h0, hl, hq⟩ := h
    obtain ⟨a, vs, rfl, hp, rs⟩ := rc.inv
    have el := rs.length
    have hp' := (Ext.push (I := I) s.heap { cls := .type "slice", data := .fields #[vl, vu, vk] }).isList hp.isList
    refine tail_any (s := { s with heap := s.heap.push { cls := .type "slice", data := .fields #[vl, vu, vk] } }) hp'.typeIs slot_list_getitem.lookup (wpAny_getItem_list_slice hp' (Heap.IsSliceOf.new _ _ _ _) (part_of rl e1) (part_of ru e2) (part_of rk e3) h0 ?_ (by simp; rw [sizeLine_eq]; (first | lia | omega))) hops
    refine EvP.after (s' := { s with heap := s.heap.push { cls := .type "slice", data := .fields #[vl, vu, vk] } }) (After.push s _ _) ?_
    exact evp_list (s := { s with heap := s.heap.push { cls := .type "slice", data := .fields #[vl, vu, vk] } }) (k := 0) (vs := (slicePick vs.toArray l' u' k').toList) (by simp) ((pick_rep rs _ _ _).ext (.push (I := I) _ _)) hq
  | tup ds =>
    obtain ⟨h0, h1, hq⟩ := h
    subst h0 h1
    obtain ⟨a, vs, rfl, hp, rs⟩ := rc.inv
    have el := rs.length
    have ek : vk = .none := by cases part_of rk e3; rfl
    have ea : vl = .none := by cases part_of rl e1; rfl
    subst ek ea
    cases u' with
    | none => exact hq.elim
    | some b =>
      obtain ⟨q0, q1, q2, hq⟩ := hq
      obtain ⟨b, rfl⟩ := Int.eq_ofNat_of_zero_le q0
      have hb : b < vs.toArray.size := by rw [List.size_toArray, el]; exact Int.ofNat_lt.mp q1
      cases part_of ru e2 with | int _ u =>
      have hp' := (Ext.push (I := I) s.heap { cls := .type "slice", data := .fields #[.none, .int b u, .none] }).isTuple hp
      refine tail_any (s := { s with heap := s.heap.push { cls := .type "slice", data := .fields #[.none, .int b u, .none] } }) (IsTup.typeIs hp') slot_tuple_getitem.lookup (getItem_tuple_to hp' (Heap.IsSliceOf.new _ _ _ _) hb ?_ (by rw [List.size_toArray, el, sizeLine_eq]; (first | lia | omega))) hops
      refine EvP.after (s' := { s with heap := s.heap.push { cls := .type "slice", data := .fields #[.none, .int b u, .none] } }) (After.push s _ _) ?_
      exact evp_tup (s := { s with heap := s.heap.push { cls := .type "slice", data := .fields #[.none, .int b u, .none] } }) rfl (k := 0) (vs := vs.take b) rfl ((rs.take b).ext (.push (I := I) _ _)) hq
  | bytes l =>
    obtain ⟨h0, hl, hw, hsz, hq⟩ := h
    obtain ⟨t, rfl⟩ := rc.inv
    subst h0
    have ek : vk = .none := by cases part_of rk e3; rfl
    subst ek
    have hT : ({ s with heap := s.heap.push { cls := .type "slice", data := .fields #[vl, vu, .none] } } : Shared).TypeIs (.bytes l.toArray t) "bytes" := rfl
    refine tail_any (s := { s with heap := s.heap.push { cls := .type "slice", data := .fields #[vl, vu, .none] } }) hT FB.slot_bytes_getitem.lookup
      (getItem_meets hT (by decide) FB.slot_bytes_getitem FB.entry_bytes_getitem (FB.args_bytes_getitem_2 _ _) (KBy.meets_slice l.toArray t _ (part_of rl e1) (part_of ru e2) hw)
        ⟨Heap.IsSliceOf.new _ _ _ _, by rw [sizeLine_eq]; unfold pickB at hsz; simp at hsz; (first | lia | omega), ?_⟩) hops
    refine EvP.after (s' := { s with heap := s.heap.push { cls := .type "slice", data := .fields #[vl, vu, .none] } }) (After.push s _ _) ?_
    exact evp_bytes (s := { s with heap := s.heap.push { cls := .type "slice", data := .fields #[vl, vu, .none] } }) (by simp [pickB]) hq
  | _ => exact h.elim

theorem opt_sound (S : Snd prog w I B k C n) {lo : Option Expr} {K : D → Prop} (h : optVC (fun v K => vcE C n nm v st K) lo K) (F : Fm I B k A env nm st s.heap) :
    wpAny (model prog w) A (evalPart lo env) (fun v s' => After I s s' ∧ ∃ d, Rep s'.heap v d ∧ K d) E s := by
  cases lo with
  | none => exact wpAny_pure ⟨.refl _, .none, .none, h⟩
  | some e =>
    refine wpAny_mono (S.1 nm e st K A env s E h F) (fun v s₁ h₁ => ?_) fun _ _ x => x
    obtain ⟨a, d, r, _, q⟩ := h₁.out
    exact ⟨a, d, r, q⟩

theorem and_sound (S : Snd prog w I B k C n) {p : Pos} : ∀ {vs : List Expr} {Q : D → Prop} {s : Shared}, andVC (vs.map fun v K => vcE C n nm v st K) Q → Fm I B k A env nm st s.heap → wpAny (model prog w) A (eval (.BoolOp .And vs p) env) (EvP I s false Q) E s
  | [], Q, s, h, F => h.elim
  | [e], Q, s, h, F => BoolOp_one (wpAny_mono (S.1 nm e st Q A env s E h F) (fun v s₁ h₁ => by obtain ⟨a, d, r, _, q⟩ := h₁.out; exact .of a d r (fun e => by cases e) q) fun _ _ x => x)
  | e :: e' :: r, Q, s, h, F => by
    refine BoolOp_and (wpAny_mono (S.1 nm e st _ A env s E h F) (fun v s₁ h₁ => ?_) fun _ _ x => x)
    obtain ⟨a, d, rd, _, q⟩ := h₁.out
    refine tru_sound rd q fun c tk hc => ?_
    have a' : After I s { s₁ with toks := tk } := a.trans ⟨s₁.heap, tk, rfl, .refl _⟩
    cases c with
    | false =>
      simp only [Bool.false_eq_true, if_false]
      exact .of a' d rd (fun e => by cases e) hc
    | true =>
      simp only [if_true]
      exact wpAny_mono (and_sound S (vs := e' :: r) (s := { s₁ with toks := tk }) hc (F.to a.ext)) (fun v s₂ h₂ => EvP.after a' h₂) fun _ _ x => x
theorem all_sound (S : Snd prog w I B k C n) {p : Pos} {whole : Sem Value} : ∀ {vs : List Expr} {Q : Bool → Prop} {s : Shared}, allVC (vs.map fun v K => vcT C n nm v st K) Q → Fm I B k A env nm st s.heap → wpAny (model prog w) A (isTrue (.BoolOp .And vs p) env whole) (fun b s' => After I s s' ∧ Q b) E s
  | [], Q, s, h, F => isTrue_and_nil ⟨.refl _, h⟩
  | e :: r, Q, s, h, F => by
    refine isTrue_and (wpAny_mono (S.2 nm e st _ A env s E h F) (fun b s₁ h₁ => ?_) fun _ _ x => x)
    obtain ⟨a, q⟩ := h₁
    cases b with
    | false => simp only [Bool.false_eq_true, if_false]; exact ⟨a, q⟩
    | true =>
      simp only [if_true]
      exact wpAny_mono (all_sound S (vs := r) q (F.to a.ext)) (fun b s₂ h₂ => ⟨a.trans h₂.1, h₂.2⟩) fun _ _ x => x
theorem any_sound (S : Snd prog w I B k C n) {p : Pos} {whole : Sem Value} : ∀ {vs : List Expr} {Q : Bool → Prop} {s : Shared}, anyVC (vs.map fun v K => vcT C n nm v st K) Q → Fm I B k A env nm st s.heap → wpAny (model prog w) A (isTrue (.BoolOp .Or vs p) env whole) (fun b s' => After I s s' ∧ Q b) E s
  | [], Q, s, h, F => isTrue_or_nil ⟨.refl _, h⟩
  | e :: r, Q, s, h, F => by
    refine isTrue_or (wpAny_mono (S.2 nm e st _ A env s E h F) (fun b s₁ h₁ => ?_) fun _ _ x => x)
    obtain ⟨a, q⟩ := h₁
    cases b with
    | true => simp only [if_true]; exact ⟨a, q⟩
    | false =>
      simp only [Bool.false_eq_true, if_false]
      exact wpAny_mono (any_sound S (vs := r) q (F.to a.ext)) (fun b s₂ h₂ => ⟨a.trans h₂.1, h₂.2⟩) fun _ _ x => x

theorem notSet {e : Expr} (h : notSetB e = true) (op : CmpOp) : behindInMarks op e = false := by
  cases e <;> first | rfl | (simp [notSetB] at h)
end
end Mine
end

section -- M12
open PySem PySem.W PyProof.Rows
set_option Elab.async false
set_option linter.unusedVariables false
namespace Mine
open PySem.SeqAt PySem.Calls

section
variable {prog : Program} {w : World} {I : TInv} {B : Heap} {mg mb : Str → Option Value} {C : Cx} {k : Nat} {A : Around} {env : Env} {nm : Nm} {st : St} {s : Shared} {E : Value → Shared → Prop} {n : Nat}

theorem Fm.un (F : Fm I B k A env nm st s.heap) : A.units + 100 < cLine := by have := F.room.un; rw [cLine_is]; (first | lia | omega)
theorem evp_bool_after {fr : Bool} {Q : D → Prop} {s' : Shared} {b : Bool} (a : After I s s') (q : Q (.bool b)) : EvP I s fr Q (.bool b) s' := by
  exact .of a _ (.bool b) (fun _ => .inl rfl) q

theorem one (S : Snd prog w I B k C n) {e : Expr} {Q : D → Prop} {K : Value → Shared → Prop} (h : vcE C n nm e st Q) (F : Fm I B k A env nm st s.heap)
    (hK : ∀ v s' d, After I s s' → Rep s'.heap v d → Fm I B k A env nm st s'.heap → Q d → K v s') : wpAny (model prog w) A (eval e env) K E s :=
  wpAny_mono (S.1 nm e st Q A env s E h F) (fun v s₁ h₁ => by obtain ⟨a, d, r, _, q⟩ := h₁.out; exact hK v s₁ d a r (F.to a.ext) q) fun _ _ x => x

theorem call_bi (S : Snd prog w I B k C n) (H : CGood prog w I B mg mb C k) {f : Str} {p pos : Pos} {b : Bi} {args : List Expr} {Q : D → Prop} (hg : globVC C nm st f = some (.bi b)) (hs : noStar args = true)
    (h : argsVC (args.map fun v K => vcE C n nm v st K) fun ds => biVC b ds Q) (F : Fm I B k A env nm st s.heap) : wpAny (model prog w) A (eval (.Call (.Name f p) args [] pos) env) (EvP I s true Q) E s := by
  refine Call_Name (trees_eq pos hs) (glob_sound H F hg fun v hv => ?_)
  cases hv
  have fin : wpAny (model prog w) A (evalArgs b.val true (args.map fun e => (false, eval e env)) []) (fun a s₁ => wpAny (model prog w) A (call b.val ([] ++ a.pos) a.kw) (EvP I s true Q) E s₁) E s := by
    refine wpAny_mono (evalArgs_sound S h F) (fun a s₁ h₁ => ?_) fun _ _ x => x
    obtain ⟨vs, rfl, ha, ds, r, q⟩ := h₁
    exact wpAny_mono (bi_sound (I := I) F.room.hd r q) (fun v s₂ h₂ => EvP.after ha h₂) fun _ _ x => x
  cases b with
  | max => exact callWith_builtin trees_plain fin
  | min => exact callWith_builtin trees_plain fin
  | sum => exact callWith_builtin trees_plain fin
  | len => exact callWith_builtin trees_plain fin
  | abs => exact callWith_builtin trees_plain fin
  | divmod => exact callWith_builtin trees_plain fin
  | sorted => exact callWith_builtin trees_plain fin
  | isinstance => exact callWith_builtin trees_plain fin
  | int => exact PyProof.Rows.callWith_type trees_plain fin
  | tuple => exact PyProof.Rows.callWith_type trees_plain fin
  | range => exact PyProof.Rows.callWith_type trees_plain fin
  | reversed => exact PyProof.Rows.callWith_type trees_plain fin

theorem call_fn (S : Snd prog w I B k C n) {g : Addr} {sp : Spec} (hgood : GoodF prog w I B k g sp) {f : Str} {p pos : Pos} {args : List Expr} {Q : D → Prop} (hs : noStar args = true)
    (hev : ∀ K : Value → Shared → Prop, K (.ref g) s → wpAny (model prog w) A (eval (.Name f p) env) K E s)
    (h : argsVC (args.map fun v K => vcE C n nm v st K) fun ds => sp ds Q) (F : Fm I B k A env nm st s.heap) : wpAny (model prog w) A (eval (.Call (.Name f p) args [] pos) env) (EvP I s true Q) E s := by
  refine Call_Name (trees_eq pos hs) (hev _ ?_)
  obtain ⟨⟨o, fd, ho, hd⟩, hc⟩ := hgood
  refine callWith_function (o := o) (fd := fd) (wpAny_mono (evalArgs_sound S h F) (fun a s₁ h₁ => ?_) fun _ _ x => x)
  obtain ⟨vs, rfl, ha, ds, r, q⟩ := h₁
  have F₁ := F.to ha.ext
  refine ⟨⟨F₁.ext.get ho (fun vs e => by rw [hd] at e; cases e) (fun _ _ e => by rw [hd] at e; cases e), hd⟩, ?_⟩
  exact wpAny_mono (hc A vs ds Q E s₁ F₁.ext F₁.tab F₁.room F₁.fr r q) (fun v s₂ h₂ => EvP.after ha h₂) fun _ _ x => x

theorem list_index {a : Addr} {vs : List Value} {ds : List D} {x : D} {v : Value} {j : Nat} {Q : Value → Shared → Prop} (hu : A.units + 100 < cLine) (hl : s.heap.PlainList a vs.toArray) (rs : RepL s.heap vs ds) (rx : Rep s.heap v x)
    (hok : ds.all (fun e => eqOK e x) = true) (hdep : D.deps ds ≤ 60) (hlen : ds.length ≤ 10000) (hj : (ds.findIdx? fun e => eqD e x) = some j) (h : Q (.int j s.toks) { s with toks := s.toks + 1 }) :
    wpAny (model prog w) A (call (.builtin "list.index") [.ref a, v]) Q E s := by
  obtain ⟨kk, ho⟩ := hl
  have el := rs.length
  obtain ⟨hjl, hjt, hjn⟩ := List.findIdx?_eq_some_iff_getElem.mp hj
  have at' : ∀ i (hi : i < vs.toArray.size) (hd : i < ds.length), isX s.heap x vs.toArray[i] = eqD ds[i] x := fun i hi hd => by
    obtain ⟨u, h1, r⟩ := rs.get (List.getElem?_eq_getElem hd)
    have : vs.toArray[i] = u := by
      have := List.getElem?_eq_getElem (l := vs) (i := i) (by simpa using hi)
      rw [h1] at this
      exact (Option.some.inj this).symm
    rw [this, isX_eq r]
  refine call_meets PySem.F.slot_list_index ⟨_, ho, rfl⟩ PySem.F.entry_list_index (PySem.F.args_list_index_2 _ _)
    (list_indexAt a vs.toArray kk none #[] v (isX s.heap x) j (by simp; (first | lia | omega)) (by (first | lia | omega)) ?_ ?_) ⟨ho, fun y hy => eqAt_item hu rs rx hok hdep (List.mem_toArray.mp hy), h⟩
  · rw [at' j (by simp; (first | lia | omega)) hjl]; exact hjt
  · intro m hm hmj
    rw [at' m hm (by simp at hm; (first | lia | omega))]
    exact Bool.not_eq_true _ ▸ hjn m hmj

theorem meth0_sound {x m : Str} {xp apos pos : Pos} {d : D} {Q : D → Prop} (h2 : (apos.endLine == pos.line) = true) (hd : st.lookup x = some d) (h : meth0VC m d Q) (F : Fm I B k A env nm st s.heap) :
    wpAny (model prog w) A (eval (.Call (.Attribute (.Name x xp) m apos) [] [] pos) env) (EvP I s true Q) E s := by
  cases d with
  | int a =>
    obtain ⟨rfl, hq⟩ := h
    refine wpAny_Call_method (T := "int") (id := "int.bit_length") rfl (by rfl) h2 PySem.F.plainAttrs_int PySem.F.slot_int_bit_length PySem.F.type_int_bit_length ?_
    refine wpAny_mono (name_sound (Q := fun d => d = .int a) F hd rfl) (fun v s₁ h₁ => ?_) fun _ _ x => x
    obtain ⟨ha, d', r, _, rfl⟩ := h₁.out
    obtain ⟨t, rfl⟩ := r.inv
    refine ⟨typeIs_int _ _ _, (fun _ e => by cases e), ?_⟩
    refine callWith_builtin rfl (PySem.evalArgs_none ?_)
    exact call_int_bit_length (EvP.after ha (evp_int hq))
  | _ => exact h.elim
theorem index_sound (S : Snd prog w I B k C n) {x : Str} {e : Expr} {xp apos pos : Pos} {ds : List D} {Q : D → Prop} (hs : noStar [e] = true) (h2 : (apos.endLine == pos.line) = true) (hd : st.lookup x = some (.list ds))
    (h : vcE C n nm e st fun v => indexVC ds v Q) (F : Fm I B k A env nm st s.heap) :
    wpAny (model prog w) A (eval (.Call (.Attribute (.Name x xp) (Str.ofString "index") apos) [e] [] pos) env) (EvP I s true Q) E s := by
  refine wpAny_Call_method (T := "list") (id := "list.index") rfl (by rw [trees_eq pos hs]; rfl) h2 PySem.F.plainAttrs_list PySem.F.slot_list_index PySem.F.type_list_index ?_
  refine wpAny_mono (name_sound (Q := fun d => d = .list ds) F hd rfl) (fun v s₁ h₁ => ?_) fun _ _ x => x
  obtain ⟨ha, d', r, _, rfl⟩ := h₁.out
  obtain ⟨a, vs, rfl, hl, rs⟩ := r.inv
  obtain ⟨kk, ho⟩ := id hl
  refine ⟨⟨_, ho, rfl⟩, (fun a' e => by cases e; exact ⟨_, ho, rfl⟩), ?_⟩
  rw [trees_eq pos hs]
  refine callWith_builtin trees_plain (wpAny_mono (evalArgs_sound S (es := [e]) (Q := fun es => oneVC es fun v => indexVC ds v Q) h (F.to ha.ext)) (fun a s₂ h₂ => ?_) fun _ _ x => x)
  obtain ⟨ws, rfl, hb, es, rw', hv⟩ := h₂
  obtain ⟨v, d, rfl, rv, c1, c2, c3, j, c4, c5⟩ := oneVC.out hv rw'
  exact list_index F.un (hb.ext.plainList hl) (rs.ext hb.ext) rv c1 c2 c3 c4 (EvP.after ha (EvP.after hb (evp_int c5)))
end
end Mine
end

section -- M13
open PySem PySem.W PyProof.Rows
set_option Elab.async false
set_option linter.unusedVariables false
namespace Mine
open PySem.SeqAt PySem.Calls

theorem foldedNot {e : Expr} (h : notSetB e = true) (env : Env) (x : Value) : foldedSetIterable e env x = pure x := by
  cases e <;> first | rfl | exact Bool.noConfusion h
theorem vcE_notSet {C : Cx} {n : Nat} {nm : Nm} {e : Expr} {st : St} {Q : D → Prop} (h : vcE C n nm e st Q) : notSetB e = true := by
  cases n with
  | zero => exact h.elim
  | succ n => cases e <;> first | rfl | exact h.elim

section
variable {prog : Program} {w : World} {I : TInv} {B : Heap} {mg mb : Str → Option Value} {C : Cx} {k : Nat} {A : Around} {env : Env} {nm : Nm} {st : St} {s : Shared} {E : Value → Shared → Prop} {n : Nat}

theorem tuple_sound (S : Snd prog w I B k C n) {es : List Expr} {kk : Nat} {pos : Pos} {Q : D → Prop} (hs : noStar es = true) (h : argsVC (es.map fun v K => vcE C n nm v st K) fun ds => ds.length ≤ 100 ∧ Q (.tup ds)) (F : Fm I B k A env nm st s.heap) :
    wpAny (model prog w) A (eval (.Tuple es kk pos) env) (EvP I s false Q) E s := by
  refine Tuple_ ?_
  rw [trees_eq pos hs]
  refine wpAny_mono (args_sound S h F) (fun vs s₁ h₁ => ?_) fun _ _ x => x
  obtain ⟨a, ds, r, hl, q⟩ := h₁
  have := r.length
  refine wpAny_newTuple (EvP.after a ?_) (by rw [sizeLine_eq]; (first | lia | omega))
  exact evp_tup (k := 0) (tk := s₁.toks) rfl rfl r q
theorem listD_sound (S : Snd prog w I B k C n) {es : List Expr} {pos : Pos} {Q : D → Prop} (hs : noStar es = true) (h : argsVC (es.map fun v K => vcE C n nm v st K) fun ds => ds.length ≤ 100 ∧ Q (.list ds)) (F : Fm I B k A env nm st s.heap) :
    wpAny (model prog w) A (eval (.List es pos) env) (EvP I s true Q) E s := by
  refine List_ ?_
  rw [trees_eq pos hs]
  refine wpAny_mono (args_sound S h F) (fun vs s₁ h₁ => ?_) fun _ _ x => x
  obtain ⟨a, ds, r, hl, q⟩ := h₁
  have := r.length
  refine wpAny_newList (EvP.after a ?_) (by rw [sizeLine_eq]; (first | lia | omega))
  exact evp_list (k := 0) (tk := s₁.toks) rfl r q

theorem globVC_is {b : Bi} {f : Str} (h : biIs b (globVC C nm st f) = true) : globVC C nm st f = some (.bi b) := by
  cases e : globVC C nm st f with
  | none => rw [e] at h; cases h
  | some g =>
    rw [e] at h
    cases g with
    | bi b' => rw [biEq_out h]
    | _ => cases h

noncomputable abbrev ItP (prog : Program) (w : World) (I : TInv) (A : Around) (E : Value → Shared → Prop) (s : Shared) (K : List D → Prop) (x : Value) (s₁ : Shared) : Prop :=
  wpAny (model prog w) A (pyIter x) (fun it s₂ => After I s s₂ ∧ ∃ h₀ items, Ext I s.heap h₀ ∧ Ext I h₀ s₂.heap ∧ IterOf prog w I A h₀ x it items s₂ ∧ K items) E s₁
theorem range_vc (S : Snd prog w I B k C n) (H : CGood prog w I B mg mb C k) {f : Str} {p pos : Pos} {arg : Expr} {K : List D → Prop} (hb : isRange C nm st f = true) (hs : noStar [arg] = true) (h : vcE C n nm arg st fun d => rangeN d K) (F : Fm I B k A env nm st s.heap) :
    wpAny (model prog w) A (eval (.Call (.Name f p) [arg] [] pos) env) (ItP prog w I A E s K) E s := by
  refine Call_Name (trees_eq pos hs) (glob_sound H F (globVC_is hb) fun v hv => ?_)
  cases hv
  refine PyProof.Rows.callWith_type trees_plain (wpAny_mono (evalArgs_sound S (es := [arg]) (Q := fun ds => oneVC ds fun d => rangeN d K) h F) (fun a s₁ h₁ => ?_) fun _ _ x => x)
  obtain ⟨vs, rfl, ha, ds, r, q⟩ := h₁
  obtain ⟨v, d, rfl, r, q⟩ := oneVC.out q r
  cases d with
  | int i =>
    obtain ⟨t, rfl⟩ := r.inv
    refine wpAny_mono (range_sound (I := I) F.room.hd q.2.1 q.2.2 (lo := q.1)) (fun v s₂ h₂ => ?_) fun _ _ x => x
    refine wpAny_mono h₂.2 (fun it s₃ h₃ => ?_) fun _ _ x => x
    obtain ⟨a', items, W, hk⟩ := h₃
    exact ⟨ha.trans a', s₁.heap, items, ha.ext, a'.ext, W _, hk⟩
  | _ => exact q.elim
theorem seq_vc (S : Snd prog w I B k C n) {iter : Expr} {K : List D → Prop} (h : vcE C n nm iter st fun d => itemsOf d K) (F : Fm I B k A env nm st s.heap) : wpAny (model prog w) A (eval iter env) (ItP prog w I A E s K) E s :=
  one S h F fun v s₁ d a r F₁ q => wpAny_mono (iter_sound (I := I) F.room.hd r q) (fun it s₂ h₂ => by
    obtain ⟨a', items, W, hk⟩ := h₂
    exact ⟨a.trans a', s₁.heap, items, a.ext, a'.ext, W, hk⟩) fun _ _ x => x
theorem iterVC.out {ev : Expr → (D → Prop) → Prop} {iter : Expr} {K : List D → Prop} (h : iterVC C nm st ev iter K) :
    (∃ f p a pos, iter = .Call (.Name f p) [a] [] pos ∧ isRange C nm st f = true ∧ noStar [a] = true ∧ ev a fun d => rangeN d K) ∨ ev iter fun d => itemsOf d K := by
  unfold iterVC at h
  cases e : call1 iter with
  | none => rw [e] at h; exact .inr h
  | some q =>
    rw [e] at h
    obtain ⟨f, a⟩ := q
    obtain ⟨p, pos, rfl⟩ := call1_out e
    have h : iteP (isRange C nm st f) (noStar [a] = true ∧ ev a fun d => rangeN d K) (ev (.Call (.Name f p) [a] [] pos) fun d => itemsOf d K) := h
    cases hb : isRange C nm st f with
    | false => rw [hb] at h; exact .inr h
    | true => rw [hb] at h; exact .inl ⟨f, p, a, pos, rfl, hb, h.1, h.2⟩
theorem iter_vc (S : Snd prog w I B k C n) (H : CGood prog w I B mg mb C k) {iter : Expr} {K : List D → Prop} (h : iterVC C nm st (fun e K => vcE C n nm e st K) iter K) (F : Fm I B k A env nm st s.heap) :
    wpAny (model prog w) A (eval iter env) (ItP prog w I A E s K) E s := by
  rcases iterVC.out h with ⟨f, p, a, pos, rfl, hb, hs, h⟩ | h
  · exact range_vc S H hb hs h F
  · exact seq_vc S h F
theorem iterVC_notSet {iter : Expr} {K : List D → Prop} (h : iterVC C nm st (fun e K => vcE C n nm e st K) iter K) : notSetB iter = true := by
  rcases iterVC.out h with ⟨f, p, a, pos, rfl, _⟩ | h
  · rfl
  · exact vcE_notSet h
end
end Mine
end

section -- M14
open PySem PySem.W PyProof.Rows
set_option Elab.async false
set_option linter.unusedVariables false
namespace Mine
open PySem.SeqAt PySem.Calls

section
variable {prog : Program} {w : World} {I : TInv} {B : Heap} {mg mb : Str → Option Value} {C : Cx} {k : Nat} {A : Around} {env : Env} {nm : Nm} {st : St} {s : Shared} {E : Value → Shared → Prop} {n : Nat}

theorem comp_left {h₀ h' h'' : Heap} {s₂h : Heap} {D₁ C₁ : Addr} {m' : Str → Option Value} {vs : List Value} {ds : List D} (x₀ : Ext I h₀ s₂h) (fd : s₂h.get? D₁ = none) (fc : s₂h.get? C₁ = none) (hdc : D₁ ≠ C₁) (hn : h'.Ns C₁ m')
    (hl : h'.PlainList D₁ (List.toArray vs)) (rs : RepL h' vs ds) (hlf : D.lfs ds = true) (x : Ext I h₀ h') (sb : Heap.SameBut C₁ h' h'') : Ext I h₀ h'' ∧ Rep h'' (.ref D₁) (.list ds) := by
  obtain ⟨oC, _, _, hoC, hdC, _⟩ := id hn
  refine ⟨x.but1 (x₀.fresh fc) hoC (not_rec fun vs e => by rw [hdC] at e; cases e) sb, ?_⟩
  refine .list (hl.at fun o e => sb.extBut _ o hdc e) (rs.lf_keep (fun a vs ht => ?_) hlf)
  exact but_tuple (l := [C₁]) (fun b o hb' e => sb.extBut b o (by simpa using hb') e) (fun a ha' vs => by rw [mem1 ha']; exact ns_tuple hn vs) a vs ht

theorem comp_any (S : Snd prog w I B k C n) (H : CGood prog w I B mg mb C k) {elt iter : Expr} {x : Str} {px pos : Pos} {ifs : List Expr} {scope : Scope} {Qd : List D → Prop} {use : Option (Value → Sem Unit)} {Q : Value → Shared → Prop}
    (hok : compOK nm st scope x = true)
    (h : iterVC C nm st (fun e K => vcE C n nm e st K) iter fun items => items.length ≤ 10000 ∧ compVC (fun d K => vcE C n (relN nm scope.names) elt (compSt st scope x d) K) (testVC C n nm st scope x ifs) items [] Qd)
    (F : Fm I B k A env nm st s.heap)
    (hRR : ∀ D₁ C₁ s' m' vs ds s₂ h₀, After I s s₂ → Ext I s.heap h₀ → Ext I h₀ s₂.heap → s₂.heap.get? D₁ = none → s₂.heap.get? C₁ = none → D₁ ≠ C₁ → s'.heap.Ns C₁ m' → s'.heap.PlainList D₁ (List.toArray vs) → RepL s'.heap vs ds → D.lfs ds = true → Ext I h₀ s'.heap →
      (∃ h tk, s' = { s₂ with heap := h, toks := tk }) → Qd ds → compPost (model prog w) A E use Q (.ref D₁) C₁ (.ok .next) s') :
    wpAny (model prog w) A (comprehension (.ListComp elt [⟨.Name x px, iter, ifs, 0⟩] scope pos) scope env (firstIterPos [⟨.Name x px, iter, ifs, 0⟩] pos) (newList []) false (eval iter env) use) Q E s := by
  have ok := compOK_iff hok
  refine wpAny_comprehension_free (g := ⟨.Name x px, iter, ifs, 0⟩) (gs := []) rfl (foldedNot (iterVC_notSet h) env) (closure_eq (F.cells ok)) ok.kind ok.loc ?_
  refine wpAny_mono (iter_vc S H h F) (fun v s₁ h₁ => ?_) fun _ _ x => x
  refine wpAny_mono h₁ (fun it s₂ h₂ => ?_) fun _ _ x => x
  obtain ⟨a, h₀, items, x₁, x₂, W, hl, hv⟩ := h₂
  exact comp_core (RR := compPost (model prog w) A E use Q) S ok (F.to x₁) x₂ W hl hv fun D₁ C₁ h' tk m' vs ds e1 e2 e3 e4 e5 e6 e7 e8 e9 =>
    hRR D₁ C₁ _ m' vs ds s₂ h₀ a x₁ x₂ e1 e2 e3 e4 e5 e6 e7 e8 ⟨_, _, rfl⟩ e9

theorem comp_sound (S : Snd prog w I B k C n) (H : CGood prog w I B mg mb C k) {elt iter : Expr} {x : Str} {px pos : Pos} {ifs : List Expr} {scope : Scope} {Q : D → Prop}
    (hok : compOK nm st scope x = true)
    (h : iterVC C nm st (fun e K => vcE C n nm e st K) iter fun items => items.length ≤ 10000 ∧ compVC (fun d K => vcE C n (relN nm scope.names) elt (compSt st scope x d) K) (testVC C n nm st scope x ifs) items [] fun ds => Q (.list ds))
    (F : Fm I B k A env nm st s.heap) : wpAny (model prog w) A (eval (.ListComp elt [⟨.Name x px, iter, ifs, 0⟩] scope pos) env) (EvP I s true Q) E s := by
  rw [eval_ListComp]
  refine comp_any S H hok h F fun D₁ C₁ s' m' vs ds s₂ h₀ a x₁ x₂ e1 e2 e3 e4 e5 e6 e7 e8 e9 e10 => ?_
  refine ⟨m', e4, fun h'' sb => ?_⟩
  obtain ⟨y, r⟩ := comp_left x₂ e1 e2 e3 e4 e5 e6 e7 e8 sb
  obtain ⟨hh, tk, rfl⟩ := e9
  obtain ⟨h2, tk2, rfl, z⟩ := a
  exact ⟨h'', tk, _, rfl, x₁.trans y, r, fun _ => .inr ⟨D₁, rfl, (x₁.trans x₂).fresh e1⟩, e10⟩

theorem evp_fr {fr fr' : Bool} {Q : D → Prop} {v : Value} {s' : Shared} (i : fr' = true → fr = true) (h : EvP I s fr Q v s') : EvP I s fr' Q v s' := by
  obtain ⟨a, d, r, f, q⟩ := h.out
  exact .of a d r (fun e => f (i e)) q
theorem mono_fr {m : Sem Value} {fr fr' : Bool} {Q : D → Prop} (i : fr' = true → fr = true) (h : wpAny (model prog w) A m (EvP I s fr Q) E s) : wpAny (model prog w) A m (EvP I s fr' Q) E s :=
  wpAny_mono h (fun _ _ x => evp_fr i x) fun _ _ x => x

theorem lastMarks_two {op op' : CmpOp} {c c' : Expr} (h : notSetB c' = true) : lastMarks [op, op'] [c, c'] = false := by
  simp [lastMarks, notSet h]

theorem cmp2 (S : Snd prog w I B k C n) {l c c' : Expr} {op op' : CmpOp} {pos : Pos} {Q : D → Prop} (hs : notSetB c' = true)
    (h : vcE C n nm l st fun a => vcE C n nm c st fun b => cmpVC op a b fun t => iteP t (vcE C n nm c' st fun d => cmpVC op' b d fun u => Q (.bool u)) (Q (.bool false))) (F : Fm I B k A env nm st s.heap) :
    wpAny (model prog w) A (eval (.Compare l [op, op'] [c, c'] pos) env) (EvP I s false Q) E s := by
  refine Compare_chain (one S h F fun v s₁ d a r F₁ q => ?_) (lastMarks_two hs)
  refine chain_link (one S q F₁ fun v' s₂ d' a' r' F₂ q' => ?_)
  refine cmp_sound F₂.un (r.ext a'.ext) r' q' fun t ht => wpAny_truthy_bool ?_
  cases t with
  | false => simp only [Bool.false_eq_true, if_false]; exact EvP.after a (EvP.after a' (evp_bool ht))
  | true =>
    simp only [if_true]
    refine chain_last (one S ht F₂ fun v'' s₃ d'' a'' r'' F₃ q'' => ?_)
    exact cmp_sound F₃.un (r'.ext a''.ext) r'' q'' fun u hu => EvP.after a (EvP.after a' (EvP.after a'' (evp_bool hu)))
theorem cmp2_true (S : Snd prog w I B k C n) {l c c' : Expr} {op op' : CmpOp} {pos : Pos} {whole : Sem Value} {Q : Bool → Prop} (hs : notSetB c' = true)
    (h : vcE C n nm l st fun a => vcE C n nm c st fun b => cmpVC op a b fun t => iteP t (vcE C n nm c' st fun d => cmpVC op' b d Q) (Q false)) (F : Fm I B k A env nm st s.heap) :
    wpAny (model prog w) A (isTrue (.Compare l [op, op'] [c, c'] pos) env whole) (fun b s' => After I s s' ∧ Q b) E s := by
  refine isTrue_chain (one S h F fun v s₁ d a r F₁ q => ?_) (lastMarks_two hs)
  refine test_link (one S q F₁ fun v' s₂ d' a' r' F₂ q' => ?_)
  refine cmp_sound F₂.un (r.ext a'.ext) r' q' fun t ht => wpAny_truthy_bool ?_
  cases t with
  | false => simp only [Bool.false_eq_true, if_false]; exact ⟨a.trans a', ht⟩
  | true =>
    simp only [if_true]
    refine test_last (one S ht F₂ fun v'' s₃ d'' a'' r'' F₃ q'' => ?_)
    exact cmp_sound F₃.un (r'.ext a''.ext) r'' q'' fun u hu => wpAny_truthy_bool ⟨a.trans (a'.trans a''), hu⟩

theorem subscript_sound (S : Snd prog w I B k C n) {v i : Expr} {pos : Pos} {Q : D → Prop} (h : vcE C n nm v st fun c => vcE C n nm i st fun k => itemVC c k Q) (F : Fm I B k A env nm st s.heap) :
    wpAny (model prog w) A (eval (.Subscript v i pos) env) (EvP I s false Q) E s :=
  Subscript_ (one S h F fun v s₁ d a r F₁ q => one S q F₁ fun v' s₂ d' a' r' F₂ q' =>
    wpAny_mono (item_sound (I := I) (r.ext a'.ext) r' q') (fun _ _ x => EvP.after a (EvP.after a' x)) fun _ _ x => x)

theorem subs_sound (S : Snd prog w I B k C n) {v : Expr} {lo hi step : Option Expr} {pos p : Pos} {Q : D → Prop}
    (h : vcE C n nm v st fun c =>
        optVC (fun v K => vcE C n nm v st K) lo fun l => optVC (fun v K => vcE C n nm v st K) hi fun h => optVC (fun v K => vcE C n nm v st K) step fun s => sliceVC c l h s Q) (F : Fm I B k A env nm st s.heap) :
    wpAny (model prog w) A (eval (.Subscript v (.Slice lo hi step p) pos) env) (EvP I s true Q) E s := by
  refine Subscript_ (one S h F fun v s₁ d a r F₁ q => ?_)
  refine wpAny_Slice (wpAny_mono (opt_sound S q F₁) (fun vl s₂ h₂ => ?_) fun _ _ x => x)
  obtain ⟨a₂, dl, rl, q₂⟩ := h₂
  have F₂ := F₁.to a₂.ext
  refine wpAny_mono (opt_sound S q₂ F₂) (fun vh s₃ h₃ => ?_) fun _ _ x => x
  obtain ⟨a₃, dh, rh, q₃⟩ := h₃
  have F₃ := F₂.to a₃.ext
  refine wpAny_mono (opt_sound S q₃ F₃) (fun vs s₄ h₄ => ?_) fun _ _ x => x
  obtain ⟨a₄, dk, rk, q₄⟩ := h₄
  have A4 := a₂.trans (a₃.trans a₄)
  refine wpAny_mono (slice_sound (I := I) (r.ext A4.ext) (rl.ext (a₃.trans a₄).ext) (rh.ext a₄.ext) rk q₄) (fun _ _ x => EvP.after a (EvP.after A4 x)) fun _ _ x => x

theorem isint_sound (S : Snd prog w I B k C n) (H : CGood prog w I B mg mb C k) {a : Expr} {f t : Str} {p p' pos : Pos} {Q : D → Prop} (hf : globVC C nm st f = some (.bi .isinstance)) (ht : globVC C nm st t = some (.bi .int)) (hs : noStar [a] = true)
    (h : vcE C n nm a st fun d => isIntD d Q) (F : Fm I B k A env nm st s.heap) : wpAny (model prog w) A (eval (.Call (.Name f p) [a, .Name t p'] [] pos) env) (EvP I s true Q) E s := by
  refine Call_Name (trees_eq pos (by cases a <;> first | rfl | exact Bool.noConfusion hs)) (glob_sound H F hf fun v hv => ?_)
  cases hv
  refine callWith_builtin trees_plain (evalArgs_plain ?_)
  refine spliced_cons (one S h F fun v s₁ d a r F₁ q => ?_)
  refine spliced_cons (glob_sound H F₁ ht fun v' hv' => spliced_nil ?_)
  cases hv'
  cases d with
  | int i =>
    obtain ⟨t, rfl⟩ := r.inv
    exact call_isinstance_yes (typeIs_int _ _ _) meta_int sub_int_int (EvP.after a (evp_bool q))
  | _ => exact q.elim
end
end Mine
end

section -- M15
open PySem PySem.W PyProof.Rows
set_option Elab.async false
set_option linter.unusedVariables false
namespace Mine
open PySem.SeqAt PySem.Calls

section
variable {prog : Program} {w : World} {I : TInv} {B : Heap} {mg mb : Str → Option Value} {C : Cx} {k : Nat} {A : Around} {env : Env} {nm : Nm} {st : St} {s : Shared} {E : Value → Shared → Prop} {n : Nat}

theorem isTrue_of (S : Snd prog w I B k C n) {e : Expr} {Q : Bool → Prop} (h : vcE C n nm e st fun d => truVC d Q) (F : Fm I B k A env nm st s.heap)
    (he : isTrue e env (eval e env) = (do let v ← eval e env; standAt e.pos; holding [v] (truthy v)) := by rfl) : wpAny (model prog w) A (isTrue e env (eval e env)) (fun b s' => After I s s' ∧ Q b) E s := by
  refine wpAny_isTrue_value (one S h F fun v s₁ d a r F₁ q => ?_) he
  exact tru_sound r q fun c tk hc => ⟨a.trans ⟨_, tk, rfl, .refl _⟩, hc⟩

theorem vcE_noStar {e : Expr} {Q : D → Prop} (h : vcE C n nm e st Q) : noStar [e] = true := by
  cases n with
  | zero => exact h.elim
  | succ n => cases e <;> first | rfl | exact h.elim
theorem name_val {x : Str} {p : Pos} {d : D} (F : Fm I B k A env nm st s.heap) (e : st.lookup x = some d) : ∃ v, Rep s.heap v d ∧ ∀ K : Value → Shared → Prop, K v s → wpAny (model prog w) A (eval (.Name x p) env) K E s := by
  obtain ⟨m, hn, hv⟩ := F.ns
  rcases hv x d e with ⟨a, v, b, r⟩ | ⟨a, c, v, b, hc, r⟩
  · exact ⟨v, r, fun K hK => wpAny_Name (wpAny_loadName_local F.kind ((F.kindOf x).trans a) hn b hK) (F.no a)⟩
  · rcases a with a | a
    · exact ⟨v, r, fun K hK => wpAny_Name (wpAny_loadName_cell F.kind ((F.kindOf x).trans a) b hc hK) (F.no a)⟩
    · have hx : (x == ("__classdict__" : Str)) = false := by
        cases hx : (x == ("__classdict__" : Str)) with
        | false => rfl
        | true => have := F.cdt; rw [← beq_iff_eq.mp hx, a] at this; cases this
      exact ⟨v, r, fun K hK => wpAny_Name (wpAny_loadName_free F.kind ((F.kindOf x).trans a) b hc hK hx) (F.no a)⟩

theorem argsOf.out {ev : Expr → (D → Prop) → Prop} {es : List Expr} {K : List D → Prop} (h : argsOf ev es K) : noStar es = true ∧ argsVC (es.map ev) K := ifB_out h
theorem chain_out {ev : Expr → (D → Prop) → Prop} {l : Expr} {ops : List CmpOp} {cs : List Expr} {Q : Bool → Prop} (h : chainVC ev l ops cs Q) :
    (∃ op c, ops = [op] ∧ cs = [c] ∧ notSetB c = true ∧ ev l fun a => ev c fun b => cmpVC op a b Q) ∨
    ∃ op op' c c', ops = [op, op'] ∧ cs = [c, c'] ∧ notSetB c' = true ∧ ev l fun a => ev c fun b => cmpVC op a b fun t => iteP t (ev c' fun d => cmpVC op' b d Q) (Q false) := by
  cases ops with
  | nil => exact h.elim
  | cons op ops => cases cs with
    | nil => exact h.elim
    | cons c cs => cases ops with
      | nil => cases cs with
        | nil => exact .inl ⟨op, c, rfl, rfl, ifB_out h⟩
        | cons => exact h.elim
      | cons op' ops => cases ops with
        | nil => cases cs with
          | nil => exact h.elim
          | cons c' cs => cases cs with
            | nil => exact .inr ⟨op, op', c, c', rfl, rfl, ifB_out h⟩
            | cons => exact h.elim
        | cons => exact h.elim
theorem snd_T (S : Snd prog w I B k C n) {e : Expr} {Q : Bool → Prop} (h : vcT C (n + 1) nm e st Q) (F : Fm I B k A env nm st s.heap) :
    wpAny (model prog w) A (isTrue e env (eval e env)) (fun b s' => After I s s' ∧ Q b) E s := by
  cases e with
  | UnaryOp op x p => cases op with
    | Not => exact isTrue_not (wpAny_mono (S.2 _ _ _ _ A env s E h F) (fun b s₁ h₁ => h₁) fun _ _ x => x)
    | _ => exact h.elim
  | BoolOp op vs p => cases op with
    | And => exact all_sound S h F
    | Or => exact any_sound S h F
  | Compare l ops cs p =>
    rcases chain_out h with ⟨op, c, rfl, rfl, hn, h⟩ | ⟨op, op', c, c', rfl, rfl, hn, h⟩
    · refine wpAny_isTrue_Compare1 (one S h F fun v s₁ d a r F₁ q => one S q F₁ fun v' s₂ d' a' r' F₂ q' => ?_) (notSet hn _)
      exact cmp_sound F₂.un (r.ext a'.ext) r' q' fun t ht => wpAny_truthy_bool ⟨a.trans a', ht⟩
    · exact cmp2_true S hn h F
  | Name => exact isTrue_of S h F
  | Call => exact isTrue_of S h F
  | Subscript => exact isTrue_of S h F
  | _ => exact h.elim

theorem isi_sound (S : Snd prog w I B k C n) (H : CGood prog w I B mg mb C k) {f : Str} {p pos : Pos} {args : List Expr} {Q : D → Prop} (hf : globVC C nm st f = some (.bi .isinstance)) (h : isiVC C nm st (fun v K => vcE C n nm v st K) args Q) (F : Fm I B k A env nm st s.heap) :
    wpAny (model prog w) A (eval (.Call (.Name f p) args [] pos) env) (EvP I s true Q) E s := by
  cases args with
  | nil => exact h.elim
  | cons a r => cases r with
    | nil => exact h.elim
    | cons t r => cases r with
      | nil => cases t with
        | Name t p' => exact isint_sound S H hf (globVC_is h.1) (vcE_noStar h.2) h.2 F
        | _ => exact h.elim
      | cons => exact h.elim
theorem callN_sound (S : Snd prog w I B k C n) (H : CGood prog w I B mg mb C k) {f : Str} {p pos : Pos} {args : List Expr} {Q : D → Prop} (h : callN C nm st (fun v K => vcE C n nm v st K) f args Q) (F : Fm I B k A env nm st s.heap) :
    wpAny (model prog w) A (eval (.Call (.Name f p) args [] pos) env) (EvP I s true Q) E s := by
  unfold callN at h
  cases hf : globVC C nm st f with
  | some g =>
    rw [hf] at h
    cases g with
    | bi b =>
      cases b with
      | isinstance => exact isi_sound S H hf h F
      | _ => exact call_bi S H hf (argsOf.out h).1 (argsOf.out h).2 F
    | fn g sp => exact call_fn S (H.fn _ _ _ (by unfold globVC at hf; split at hf; cases hf; split at hf; exact hf; cases hf)).2 (argsOf.out h).1 (fun K hK => glob_sound H F hf fun v hv => by cases hv; exact hK) (argsOf.out h).2 F
    | cint => exact h.elim
  | none =>
    rw [hf] at h
    cases hd : st.lookup f with
    | none => rw [hd] at h; exact h.elim
    | some d =>
      rw [hd] at h
      cases d with
      | clo g =>
        cases hc : C.clo with
        | none => simp only [hc] at h
        | some q =>
          simp only [hc] at h
          obtain ⟨rfl, h⟩ := h
          refine call_fn S (H.clo _ _ hc) (argsOf.out h).1 (fun K hK => ?_) (argsOf.out h).2 F
          obtain ⟨v, r, hv⟩ := name_val (prog := prog) (w := w) (E := E) F hd
          obtain ⟨rfl, _⟩ := r.inv
          exact hv K hK
      | _ => exact h.elim
theorem callM_sound (S : Snd prog w I B k C n) {v : Expr} {m : Str} {apos pos : Pos} {args : List Expr} {Q : D → Prop} (hp : (apos.endLine == pos.line) = true) (h : callM st (fun v K => vcE C n nm v st K) v m args Q) (F : Fm I B k A env nm st s.heap) :
    wpAny (model prog w) A (eval (.Call (.Attribute v m apos) args [] pos) env) (EvP I s true Q) E s := by
  cases v with
  | Name x p =>
    cases hd : st.lookup x with
    | none => simp only [callM, hd] at h
    | some d =>
      simp only [callM, hd] at h
      cases args with
      | nil => exact meth0_sound hp hd h F
      | cons e r => cases r with
        | nil =>
          obtain ⟨hs, h⟩ := ifB_out h
          cases d with
          | list ds => obtain ⟨e1, h2⟩ := h; rw [e1]; exact index_sound S hs hp hd h2 F
          | _ => exact h.elim
        | cons => exact h.elim
  | _ => exact h.elim
theorem gen_sound (S : Snd prog w I B k C n) (H : CGood prog w I B mg mb C k) {elt : Expr} {gens : List Comprehension} {scope : Scope} {pos : Pos} {Q : D → Prop}
    (h : genVC C nm st (fun v K => vcE C n nm v st K) (fun e st K => vcE C n (relN nm scope.names) e st K) (fun e st K => vcT C n (relN nm scope.names) e st K) elt gens scope Q) (F : Fm I B k A env nm st s.heap) :
    wpAny (model prog w) A (eval (.ListComp elt gens scope pos) env) (EvP I s true Q) E s := by
  cases gens with
  | nil => exact h.elim
  | cons g gs => cases gs with
    | nil =>
      obtain ⟨t, iter, ifs, ia⟩ := g
      cases t with
      | Name x px =>
        obtain ⟨h1, h2⟩ := h
        obtain ⟨ok, e⟩ := (Bool.and_eq_true ..).mp h1
        have e : ia = 0 := by simpa using e
        subst e
        exact comp_sound S H ok h2 F
      | _ => exact h.elim
    | cons => exact h.elim
theorem subsVC_sound (S : Snd prog w I B k C n) {v i : Expr} {pos : Pos} {Q : D → Prop} (h : subsVC (fun v K => vcE C n nm v st K) v i Q) (F : Fm I B k A env nm st s.heap) : wpAny (model prog w) A (eval (.Subscript v i pos) env) (EvP I s (freshE (.Subscript v i pos)) Q) E s := by
  cases i with
  | Slice => exact subs_sound S h F
  | _ => exact subscript_sound S h F
theorem snd_E (H : CGood prog w I B mg mb C k) (S : Snd prog w I B k C n) {e : Expr} {Q : D → Prop} (h : vcE C (n + 1) nm e st Q) (F : Fm I B k A env nm st s.heap) :
    wpAny (model prog w) A (eval e env) (EvP I s (freshE e) Q) E s := by
  cases e with
  | Constant => exact const_sound h
  | Name x p =>
    have h : nameVC C nm st x Q := h
    unfold nameVC at h
    cases hd : st.lookup x with
    | some d => rw [hd] at h; exact name_sound F hd h
    | none =>
      rw [hd] at h
      cases hg : globVC C nm st x with
      | none => simp only [hg] at h
      | some g =>
        simp only [hg] at h
        cases g with
        | cint i => exact glob_sound H F hg fun v hv => by obtain ⟨t, rfl⟩ := hv; exact evp_int h
        | _ => exact h.elim
  | BoolOp op vs p => cases op with
    | And => exact and_sound S h F
    | Or => exact h.elim
  | BinOp l op r p => exact wpAny_BinOp (one S h F fun v s₁ d a r F₁ q => one S q F₁ fun v' s₂ d' a' r' F₂ q' =>
      wpAny_mono (bin_sound (I := I) F₂.room.hd (r.ext a'.ext) r' q') (fun _ _ x => EvP.after a (EvP.after a' x)) fun _ _ x => x)
  | UnaryOp op x p => exact mono_fr (fun e => by cases e) (UnaryOp_ (one S h F fun v s₁ d a r F₁ q => wpAny_mono (un_sound (I := I) r q) (fun _ _ x => EvP.after a x) fun _ _ x => x))
  | IfExp t b o p =>
    refine IfExp_ (wpAny_mono (S.2 _ _ _ _ A env s E h F) (fun b s₁ h₁ => ?_) fun _ _ x => x)
    obtain ⟨a, q⟩ := h₁
    cases b with
    | true => exact wpAny_mono (mono_fr (fun e => by cases e) (S.1 _ _ _ _ A env s₁ E q (F.to a.ext))) (fun _ _ x => EvP.after a x) fun _ _ x => x
    | false => exact wpAny_mono (mono_fr (fun e => by cases e) (S.1 _ _ _ _ A env s₁ E q (F.to a.ext))) (fun _ _ x => EvP.after a x) fun _ _ x => x
  | Compare l ops cs p =>
    rcases chain_out h with ⟨op, c, rfl, rfl, hn, h⟩ | ⟨op, op', c, c', rfl, rfl, hn, h⟩
    · refine wpAny_Compare1 (one S h F fun v s₁ d a r F₁ q => one S q F₁ fun v' s₂ d' a' r' F₂ q' => ?_) (notSet hn _)
      exact cmp_sound F₂.un (r.ext a'.ext) r' q' fun t ht => evp_bool_after (a.trans a') ht
    · exact cmp2 S hn h F
  | Call f args kws p => cases kws with
    | nil => cases f with
      | Name => exact callN_sound S H h F
      | Attribute v m apos => exact callM_sound S (ifB_out h).1 (ifB_out h).2 F
      | _ => exact h.elim
    | cons => exact h.elim
  | Subscript v i p => exact subsVC_sound S h F
  | Tuple => exact tuple_sound S (argsOf.out h).1 (argsOf.out h).2 F
  | List => exact listD_sound S (argsOf.out h).1 (argsOf.out h).2 F
  | ListComp => exact gen_sound S H h F
  | _ => exact h.elim
theorem snd_all (H : CGood prog w I B mg mb C k) : ∀ n, Snd prog w I B k C n
  | 0 => ⟨fun _ _ _ _ _ _ _ _ h _ => h.elim, fun _ _ _ _ _ _ _ _ h _ => h.elim⟩
  | n + 1 => ⟨fun _ _ _ _ _ _ _ _ h F => snd_E H (snd_all H n) h F, fun _ _ _ _ _ _ _ _ h F => snd_T (snd_all H n) h F⟩
end
end Mine
end

section -- M16
open PySem PySem.W PyProof.Rows
set_option Elab.async false
set_option linter.unusedVariables false
namespace Mine
open PySem.SeqAt PySem.Calls

noncomputable abbrev Va := Str → Option Value
noncomputable def Flat (d : D) : Prop := d.lf = true ∨ (∃ ds, d = .list ds ∧ D.lfs ds = true) ∨ ∃ g, d = .clo g

structure Chg (b : Addr) (h h' : Heap) : Prop where
  same : Heap.SameBut b h h'
  old : ∃ o, h.get? b = some o ∧ (∀ vs, o.data ≠ .fields vs) ∧ (∀ fd, o.data ≠ .func fd) ∧ ∀ vs, ¬ h.IsTuple b vs
  new : ∀ o es ep, h.get? b = some o → o.data = .dict es ep → ∃ o' es' ep', h'.get? b = some o' ∧ o'.data = .dict es' ep'

theorem Chg.get {b : Addr} {h h' : Heap} (c : Chg b h h') {a : Addr} {o : Obj} (n : a ≠ b) (e : h.get? a = some o) : h'.get? a = some o := (c.same.2 a n).trans e
theorem Chg.tuple {b : Addr} {h h' : Heap} (c : Chg b h h') (a : Addr) (vs : Array Value) (t : h.IsTuple a vs) : h'.IsTuple a vs := by
  obtain ⟨o, _, _, _, n⟩ := c.old
  have ne : a ≠ b := fun e => n vs (e ▸ t)
  obtain ⟨o', e, r⟩ := t
  exact ⟨o', c.get ne e, r⟩
theorem Chg.rep {b : Addr} {h h' : Heap} (c : Chg b h h') {v : Value} {d : D} (f : Flat d) (hv : ∀ ds, d = .list ds → v ≠ .ref b) (r : Rep h v d) : Rep h' v d := by
  rcases f with f | ⟨ds, rfl, f⟩ | ⟨g, rfl⟩
  · exact r.lf_keep c.tuple f
  · cases r with | @list a vs _ hl rs =>
    refine .list (hl.at fun o e => c.get (fun q => hv ds rfl (by rw [q])) e) (rs.lf_keep c.tuple f)
  · cases r with | clo hg hd =>
    obtain ⟨o, ho, _, nf, _⟩ := c.old
    exact .clo (c.get (fun q => by rw [q, ho] at hg; cases hg; exact nf _ hd) hg) hd
theorem Chg.ext {I : TInv} {b : Addr} {h₀ h h' : Heap} (c : Chg b h h') (x : Ext I h₀ h) (n : h₀.get? b = none) : Ext I h₀ h' := by
  obtain ⟨o, ho, nf, _⟩ := c.old
  exact x.but1 n ho (not_rec nf) c.same
theorem Chg.ok {I : TInv} {b : Addr} {h h' : Heap} (c : Chg b h h') (x : I.ok h) : I.ok h' := by
  obtain ⟨o, ho, nf, _⟩ := c.old
  refine I.keeps h h' (fun a o' e t => c.get (fun q => ?_) e) x
  rw [q, ho] at e; cases e
  exact not_rec nf t
theorem Chg.frames {b : Addr} {h h' : Heap} (c : Chg b h h') {I : TInv} {l : List Env} (f : DFr I h l) : DFr I h' l := f.of fun a o es ep e d => by
  by_cases q : a = b
  · subst q; exact c.new o es ep e d
  · exact ⟨o, es, ep, c.get q e, d⟩
theorem Chg.fr {b : Addr} {h h' : Heap} (c : Chg b h h') {I : TInv} {A : Around} (f : FrOK I A h) (l : Low I h') : FrOK I A h' := let ⟨fr, e, g, _⟩ := f; ⟨fr, e, c.frames g, l⟩
theorem Chg.ns {b : Addr} {h h' : Heap} {m m' : Va} (hn : h.Ns b m) (hn' : h'.Ns b m') (s : Heap.SameBut b h h') : Chg b h h' := by
  obtain ⟨o, es, ep, ho, hd, _⟩ := id hn
  obtain ⟨o', es', ep', ho', hd', _⟩ := hn'
  exact ⟨s, ⟨o, ho, (fun vs e => by rw [hd] at e; cases e), (fun fd e => by rw [hd] at e; cases e), ns_tuple hn⟩, fun _ _ _ _ _ => ⟨o', es', ep', ho', hd'⟩⟩
theorem Chg.cell {b : Addr} {h h' : Heap} {m m' : Option Value} (hn : h.IsCell b m) (hn' : h'.IsCell b m') (s : Heap.SameBut b h h') : Chg b h h' := by
  obtain ⟨o, ho, hd⟩ := id hn
  obtain ⟨o', ho', hd'⟩ := hn'
  refine ⟨s, ⟨o, ho, (fun vs e => by rw [hd] at e; cases e), (fun fd e => by rw [hd] at e; cases e), fun vs ht => ?_⟩, fun o2 es ep e d => by rw [ho] at e; cases e; rw [hd] at d; cases d⟩
  obtain ⟨o2, e2, _, k, d2⟩ := ht
  rw [ho] at e2; cases e2; rw [hd] at d2; cases d2
theorem Chg.list {b : Addr} {h h' : Heap} {m m' : Array Value} (hn : h.PlainList b m) (hn' : h'.PlainList b m') (s : Heap.SameBut b h h') : Chg b h h' := by
  obtain ⟨k, ho⟩ := id hn
  obtain ⟨k', ho'⟩ := hn'
  exact ⟨s, ⟨_, ho, (fun vs e => by cases e), (fun fd e => by cases e), fun vs ht => list_ne_tuple hn.isList ht⟩, fun o2 es ep e d => by rw [ho] at e; cases e; cases d⟩

structure Fh (env : Env) (nm : Nm) (va : Va) (h : Heap) : Prop where
  ns : ∃ m, h.Ns env.locals m ∧ ∀ x, nm.lookup x = some .local → m x = va x
  cl : ∀ x c, nm.lookup x = some .cell ∨ nm.lookup x = some .free → env.cells.lookup x = some c → h.IsCell c (va x)
structure Fx (I : TInv) (B : Heap) (k : Nat) (A : Around) (env : Env) (nm : Nm) (h₀ : Heap) : Prop where
  base : Ext I B h₀
  room : AOK k A
  names : env.scope.names = nm
  kind : env.scope.kind = .function
  gl : env.globals = mainGlobals
  bt : env.builtins = builtinsNs
  dbg : nm.lookup ("__debug__" : Str) = none
  cdt : nm.lookup ("__classdict__" : Str) = none
  loc : h₀.get? env.locals = none
  cel : ∀ x c, nm.lookup x = some .cell → env.cells.lookup x = some c → h₀.get? c = none
  inj : ∀ x y c, env.cells.lookup x = some c → env.cells.lookup y = some c → x = y
  has : ∀ x, nm.lookup x = some .cell ∨ nm.lookup x = some .free → ∃ c, env.cells.lookup x = some c
  top : ∃ outer, A.frames = some (env :: outer)
  frm : env.frame = some env.locals
  low : Low I h₀

structure Fs (I : TInv) (B : Heap) (k : Nat) (A : Around) (env : Env) (nm : Nm) (h₀ : Heap) (P : Addr → Prop) (K : Heap) (va : Va) (st : St) (own : List Str) (h : Heap) : Prop where
  sx : Fx I B k A env nm h₀
  tab : I.ok h
  fr : FrOK I A h
  ext : Ext I h₀ h
  fh : Fh env nm va h
  vars : ∀ x d, st.lookup x = some d → Flat d ∧ (nm.lookup x = some .local ∨ nm.lookup x = some .cell ∨ nm.lookup x = some .free) ∧ ∃ v, va x = some v ∧ Rep h v d
  pk : ∀ a, P a → ∃ o, K.get? a = some o ∧ h.get? a = some o ∧ ¬ isTab o ∧ (∀ v, o.data ≠ .cell v) ∧ ∀ es ep, o.data ≠ .dict es ep
  own : ∀ x ∈ own, ∀ ds, st.lookup x = some (.list ds) → ∃ a, va x = some (.ref a) ∧ h₀.get? a = none ∧ ¬ P a ∧ ∀ y es, y ≠ x → st.lookup y = some (.list es) → va y ≠ some (.ref a)

section
variable {prog : Program} {w : World} {I : TInv} {B : Heap} {k : Nat} {A : Around} {env : Env} {nm : Nm} {h₀ : Heap} {P : Addr → Prop} {K : Heap} {va : Va} {st : St} {own : List Str} {h h' : Heap} {s : Shared} {E : Value → Shared → Prop}

theorem Fh.ext (f : Fh env nm va h) (x : Ext I h h') : Fh env nm va h' := ⟨let ⟨m, n, e⟩ := f.ns; ⟨m, x.ns n, e⟩, fun y c a b => x.isCell (f.cl y c a b)⟩
theorem Fs.fm (F : Fs I B k A env nm h₀ P K va st own h) : Fm I B k A env nm st h := by
  obtain ⟨m, hn, hm⟩ := F.fh.ns
  refine ⟨F.sx.base.trans F.ext, F.tab, F.sx.room, F.fr, F.sx.names, F.sx.kind, F.sx.gl, F.sx.bt, F.sx.dbg, F.sx.cdt, m, hn, fun x d e => ?_⟩
  obtain ⟨_, hk, v, hv, r⟩ := F.vars x d e
  rcases hk with q | q
  · exact .inl ⟨q, v, (hm x q).trans hv, r⟩
  · obtain ⟨c, hc⟩ := F.sx.has x q
    exact .inr ⟨q, c, v, hc, hv ▸ F.fh.cl x c q hc, r⟩
theorem Fs.to (F : Fs I B k A env nm h₀ P K va st own h) (x : Ext I h h') : Fs I B k A env nm h₀ P K va st own h' := by
  refine ⟨F.sx, x.tabs F.tab, F.fr.ext x, F.ext.trans x, F.fh.ext x, fun y d e => ?_, fun a p => ?_, F.own⟩
  · obtain ⟨f, q, v, hv, r⟩ := F.vars y d e
    exact ⟨f, q, v, hv, r.ext x⟩
  · obtain ⟨o, e1, e2, e3⟩ := F.pk a p
    exact ⟨o, e1, x.keep a o e2 e3.1 e3.2.2, e3⟩
theorem Fs.live (F : Fs I B k A env nm h₀ P K va st own h) {y : Str} {es : List D} {a : Addr} (e : st.lookup y = some (.list es)) (v : va y = some (.ref a)) : h.get? a ≠ none := by
  obtain ⟨_, _, v', hv', r⟩ := F.vars y _ e
  rw [v] at hv'; cases hv'
  cases r with | list hl _ => obtain ⟨k, ho⟩ := hl; rw [ho]; exact fun e => by cases e

noncomputable def upd (va : Va) (x : Str) (v : Value) : Va := fun y => if y = x then some v else va y
theorem upd_same {va : Va} {x : Str} {v : Value} : upd va x v x = some v := by simp [upd]
theorem upd_ne {va : Va} {x y : Str} {v : Value} (h : y ≠ x) : upd va x v y = va y := by simp [upd, h]
theorem lookup_cons_ne {st : St} {x y : Str} {d : D} (h : y ≠ x) : List.lookup y ((x, d) :: st) = st.lookup y := by
  rw [List.lookup_cons]
  have : (y == x) = false := by simpa using h
  rw [this]
theorem lookup_cons_same {st : St} {x : Str} {d : D} : List.lookup x ((x, d) :: st) = some d := by
  rw [List.lookup_cons]; simp

noncomputable def NewList (h₀ : Heap) (P : Addr → Prop) (va : Va) (st : St) (x : Str) (v : Value) : Prop :=
  ∃ a, v = .ref a ∧ h₀.get? a = none ∧ ¬ P a ∧ ∀ y es, y ≠ x → st.lookup y = some (.list es) → va y ≠ some (.ref a)
noncomputable def without (x : Str) (own : List Str) : List Str := own.filter fun y => y != x
noncomputable def withOwn (fresh : Bool) (x : Str) (own : List Str) : List Str := if fresh then x :: without x own else without x own
theorem mem_without {x y : Str} {own : List Str} (h : y ∈ without x own) : y ∈ own ∧ y ≠ x := by
  unfold without at h
  rw [List.mem_filter] at h
  exact ⟨h.1, by simpa using h.2⟩

theorem Fs.stored (F : Fs I B k A env nm h₀ P K va st own h) {x : Str} {v : Value} {d : D} {b : Addr} (c : Chg b h h') (hb0 : h₀.get? b = none) (hbd : (∃ u, h.IsCell b u) ∨ ∃ m, h.Ns b m) (hf : Fh env nm (upd va x v) h')
    (hk : nm.lookup x = some .local ∨ nm.lookup x = some .cell) (r : Rep h v d) (fl : Flat d) (new : d.lf = false → NewList h₀ P va st x v) :
    Fs I B k A env nm h₀ P K (upd va x v) ((x, d) :: st) (withOwn (!d.lf) x own) h' := by
  have nl : ∀ vs, ¬ h.PlainList b vs := fun vs ⟨k, e⟩ => by
    rcases hbd with ⟨u, o, ho, hd⟩ | ⟨m, o, es, ep, ho, hd, _⟩ <;> (rw [ho] at e; cases e; cases hd)
  have keepR : ∀ {v : Value} {d : D}, Flat d → Rep h v d → Rep h' v d := fun f r => c.rep f (fun ds e q => by subst e; subst q; cases r with | list hl _ => exact nl _ hl) r
  refine ⟨F.sx, c.ok F.tab, c.fr F.fr (F.sx.low.ext (c.ext F.ext hb0)), c.ext F.ext hb0, hf, fun y e hy => ?_, fun a p => ?_, fun y hy ds e => ?_⟩
  · by_cases q : y = x
    · subst q
      rw [lookup_cons_same] at hy; cases hy
      exact ⟨fl, hk.imp id .inl, v, upd_same, keepR fl r⟩
    · rw [lookup_cons_ne q] at hy
      obtain ⟨f, q', v', hv', r'⟩ := F.vars y e hy
      exact ⟨f, q', v', (upd_ne q).trans hv', keepR f r'⟩
  · obtain ⟨o, e1, e2, e3, e4, e5⟩ := F.pk a p
    refine ⟨o, e1, c.get (fun q => ?_) e2, e3, e4, e5⟩
    subst q
    rcases hbd with ⟨u, o', ho, hd⟩ | ⟨m, o', es, ep, ho, hd, _⟩ <;> (rw [ho] at e2; cases e2)
    · exact e4 _ hd
    · exact e5 _ _ hd
  · by_cases q : y = x
    · subst q
      rw [lookup_cons_same] at e; cases e
      obtain ⟨a, rfl, n1, n2, n3⟩ := new rfl
      refine ⟨a, upd_same, n1, n2, fun z es hz e' => ?_⟩
      rw [lookup_cons_ne hz] at e'
      rw [upd_ne hz]; exact n3 z es hz e'
    · have hy' : y ∈ own := by
        unfold withOwn at hy
        split at hy
        · rcases List.mem_cons.mp hy with e | e
          · exact (q e).elim
          · exact (mem_without e).1
        · exact (mem_without hy).1
      rw [lookup_cons_ne q] at e
      obtain ⟨a, e1, e2, e3, e4⟩ := F.own y hy' ds e
      refine ⟨a, (upd_ne q).trans e1, e2, e3, fun z es hz e' => ?_⟩
      by_cases q' : z = x
      · subst q'
        rw [upd_same]
        rw [lookup_cons_same] at e'; cases e'
        obtain ⟨a', rfl, n1, n2, n3⟩ := new rfl
        intro e; cases e
        exact n3 y ds q (by assumption) e1
      · rw [lookup_cons_ne q'] at e'
        rw [upd_ne q']; exact e4 z es hz e'

theorem store_sound {A' : Around} (F : Fs I B k A env nm h₀ P K va st own s.heap) {x : Str} {v : Value} {d : D} {Q : Unit → Shared → Prop} (hk : nm.lookup x = some .local ∨ nm.lookup x = some .cell) (r : Rep s.heap v d) (fl : Flat d)
    (new : d.lf = false → NewList h₀ P va st x v)
    (h : ∀ h' tk, Fs I B k A env nm h₀ P K (upd va x v) ((x, d) :: st) (withOwn (!d.lf) x own) h' → (∀ {v : Value} {d : D}, Flat d → Rep s.heap v d → Rep h' v d) → (∀ a, s.heap.get? a = none → h'.get? a = none) → (∀ a m, a ≠ env.locals → s.heap.Ns a m → h'.Ns a m) → (∀ b o, s.heap.get? b = some o → (∀ es ep, o.data ≠ .dict es ep) → (∀ v, o.data ≠ .cell v) → h'.get? b = some o) → Q () { s with heap := h', toks := tk }) :
    wpAny (model prog w) A' (storeName env x v) Q E s := by
  obtain ⟨m, hn, hm⟩ := F.fh.ns
  have kindOf : ∀ y, env.kindOf y = nm.lookup y := fun y => by unfold Env.kindOf; rw [F.sx.names]
  have keepR : ∀ {b : Addr} {h' : Heap}, Chg b s.heap h' → ((∃ u, s.heap.IsCell b u) ∨ ∃ m, s.heap.Ns b m) → ∀ {v : Value} {d : D}, Flat d → Rep s.heap v d → Rep h' v d := fun c hbd v d f r => by
    refine c.rep f (fun ds e q => ?_) r
    subst e; subst q
    cases r with | list hl _ =>
    obtain ⟨k, e⟩ := hl
    rcases hbd with ⟨u, o, ho, hd⟩ | ⟨m, o, es, ep, ho, hd, _⟩ <;> (rw [ho] at e; cases e; cases hd)
  have none' : ∀ {b : Addr} {h' : Heap}, Chg b s.heap h' → ∀ a, s.heap.get? a = none → h'.get? a = none := fun {b h'} c a e => by
    by_cases q : a = b
    · subst q; obtain ⟨o, ho, _⟩ := c.old; rw [ho] at e; cases e
    · exact (c.same.2 a q).trans e
  rcases hk with hk | hk
  · refine wpAny_storeName_local ((kindOf x).trans hk) hn (fun h' hn' sb => ?_) (by simp [F.sx.kind])
    have c := Chg.ns hn hn' sb
    refine h h' _ (F.stored c F.sx.loc (.inr ⟨m, hn⟩) ⟨⟨_, hn', fun y hy => ?_⟩, fun y cc hy hc => ?_⟩ (.inl hk) r fl new) (keepR c (.inr ⟨m, hn⟩)) (none' c) (fun a m ne n => n.sameBut sb ne) (fun b o e nd _ => c.get (fun q => by
      obtain ⟨o2, _, _, ho2, hd2, _⟩ := hn
      rw [q, ho2] at e; cases e; exact nd _ _ hd2) e)
    · simp only [upd]; split
      · rfl
      · exact hm y hy
    · have hyx : y ≠ x := fun e => by subst e; rw [hk] at hy; rcases hy with e | e <;> cases e
      rw [upd_ne hyx]
      obtain ⟨o, ho, hd⟩ := F.fh.cl y cc hy hc
      refine ⟨o, c.get (fun e => ?_) ho, hd⟩
      subst e
      obtain ⟨o2, _, _, ho2, hd2, _⟩ := hn
      rw [ho] at ho2; cases ho2; rw [hd] at hd2; cases hd2
  · obtain ⟨cc, hc⟩ := F.sx.has x (.inl hk)
    have hcell := F.fh.cl x cc (.inl hk) hc
    refine wpAny_storeName_cell F.sx.kind ((kindOf x).trans hk) hc hcell (fun h' hn' sb => ?_)
    have c := Chg.cell hcell hn' sb
    refine h h' s.toks (F.stored c (F.sx.cel x cc hk hc) (.inl ⟨_, hcell⟩) ⟨⟨m, hn.sameBut sb (fun e => ?_), fun y hy => ?_⟩, fun y c' hy hc' => ?_⟩ (.inr hk) r fl new) (keepR c (.inl ⟨_, hcell⟩)) (none' c) (fun a m ne n => n.sameBut sb (fun e => by
      obtain ⟨o, ho, hd⟩ := hcell
      obtain ⟨o2, _, _, ho2, hd2, _⟩ := n
      rw [e, ho] at ho2; cases ho2; rw [hd] at hd2; cases hd2)) (fun b o e _ nc => c.get (fun q => by
      obtain ⟨o2, ho2, hd2⟩ := hcell
      rw [q, ho2] at e; cases e; exact nc _ hd2) e)
    · obtain ⟨o, ho, hd⟩ := hcell
      obtain ⟨o2, _, _, ho2, hd2, _⟩ := hn
      rw [e, ho] at ho2; cases ho2; rw [hd] at hd2; cases hd2
    · have hyx : y ≠ x := fun e => by subst e; rw [hk] at hy; cases hy
      rw [upd_ne hyx]; exact hm y hy
    · by_cases hyx : y = x
      · subst hyx
        rw [hc] at hc'; cases hc'
        rw [upd_same]; exact hn'
      · rw [upd_ne hyx]
        obtain ⟨o, ho, hd⟩ := F.fh.cl y c' hy hc'
        exact ⟨o, c.get (fun e => hyx (F.sx.inj y x cc (e ▸ hc') hc)) ho, hd⟩
end
end Mine
end

section -- M17
open PySem PySem.W PyProof.Rows
set_option Elab.async false
set_option linter.unusedVariables false
namespace Mine
open PySem.SeqAt PySem.Calls

noncomputable def namesOf : List Expr → Option (List Str)
  | [] => some []
  | e :: r => (name? e).bind fun x => (namesOf r).map (x :: ·)
noncomputable def lfsD (d : D) : Bool := match d with
  | .list ds => D.lfs ds
  | _ => false
noncomputable def storB (e : Expr) (d : D) : Bool := d.lf || (freshE e && lfsD d)
noncomputable def allStor : List Expr → List D → Bool
  | [], ds => ds.isEmpty
  | e :: es, ds => (match ds with
    | [] => false
    | d :: ds => storB e d && allStor es ds)
noncomputable def asg1 (nm : Nm) (x : Str) : Bool := nm.lookup x == some .local || nm.lookup x == some .cell
noncomputable def nodupB : List Str → Bool
  | [] => true
  | x :: r => !r.contains x && nodupB r
noncomputable def asgOK (nm : Nm) (xs : List Str) : Bool := xs.all (asg1 nm) && nodupB xs
noncomputable def stAll : List (Str × D) → St → St
  | [], st => st
  | p :: r, st => stAll r (p :: st)
noncomputable def ownAll : List (Str × D) → List Str → List Str
  | [], ow => ow
  | p :: r, ow => ownAll r (withOwn (!p.2.lf) p.1 ow)
noncomputable def lineOf (ts : List Expr) : Nat := (ts.head?.map (·.pos.line)).getD 0
noncomputable def swapNames (nm : Nm) (ts : List Expr) : List Str := ts.filterMap fun
    | .Name id pos => if nm.lookup id == some .local && pos.line == lineOf ts then some id else none
    | _ => none
noncomputable def swB (nm : Nm) (ts vs : List Expr) : Option (Option (List Str)) :=
  if !(ts.length == 2 || ts.length == 3) || vs.length != ts.length then some none
  else if (swapNames nm ts).length != ts.length || (swapNames nm ts).eraseDups.length != (swapNames nm ts).length then some none
  else if vs.all (foldedForSure 8) then some none
  else if vs.all (constantsAlone 8) then none
  else some (some (swapNames nm ts))
noncomputable def isTupleB (e : Expr) : Bool := match view e with
  | .tup .. => true
  | _ => false
noncomputable def compKind (e : Expr) : Bool := match e with
  | .SetComp .. => true
  | .DictComp .. => true
  | _ => false

noncomputable def isRev (C : Cx) (nm : Nm) (st : St) (f : Str) : Bool := biIs .reversed (globVC C nm st f)
noncomputable def nlD (d : D) (K : List D → Prop) : Prop := match d with
  | .tup ds => K ds
  | .bytes l => K (l.map fun b => .int b.toNat)
  | _ => False
noncomputable def seqD (d : D) (K : List D → Prop) : Prop := match d with
  | .tup ds => K ds
  | .list ds => K ds
  | _ => False
noncomputable def nameIt (st : St) (e : Expr) (K : Str → D → Prop) : Prop := match view e with
  | .name y _ => (match st.lookup y with
    | some d => K y d
    | none => False)
  | _ => False
noncomputable def forVC (C : Cx) (nm : Nm) (st : St) (ow : List Str) (ev : Expr → (D → Prop) → Prop) (iter : Expr) (K : List D → List Str → Prop) : Prop := match view iter with
  | .name y _ => (match st.lookup y with
    | some d => itemsOf d fun items => K items (without y ow)
    | none => False)
  | _ => (match call1 iter with
    | some p => iteP (isRev C nm st p.1) (nameIt st p.2 fun y d => listD d fun ds => K ds.reverse (without y ow))
        (iteP (isRange C nm st p.1) (noStar [p.2] = true ∧ ev p.2 fun d => rangeN d fun items => K items ow) (ev iter fun d => nlD d fun items => K items ow))
    | none => ev iter fun d => nlD d fun items => K items ow)

noncomputable def mutVC (m : Str) (x : Str) (ds : List D) (args : List Expr) (ev : Expr → (D → Prop) → Prop) (K : D → Prop) : Prop := match args with
  | [] => m = Str.ofString "reverse" ∧ ds.length ≤ 10000 ∧ K (.list ds.reverse)
  | e :: r => (match r with
    | [] => m = Str.ofString "append" ∧ noStar [e] = true ∧ ev e fun d => d.lf = true ∧ ds.length ≤ 10000 ∧ K (.list (ds ++ [d]))
    | _ :: _ => False)

noncomputable abbrev Kst := St → List Str → Prop
noncomputable def SubSt (st' st : St) : Prop := ∀ x d, st'.lookup x = some d → st.lookup x = some d
noncomputable def up (K : Kst) : Kst := fun st ow => ∃ st', SubSt st' st ∧ K st' ow
theorem SubSt.nil {st : St} : SubSt [] st := fun _ _ e => by cases e
theorem SubSt.cons {st st' : St} {x : Str} {d : D} (h : st.lookup x = some d) (r : SubSt st' st) : SubSt ((x, d) :: st') st := fun y e q => by
  by_cases hy : y = x
  · subst hy; rw [lookup_cons_same] at q; cases q; exact h
  · rw [lookup_cons_ne hy] at q; exact r y e q
noncomputable def tgtVC (nm : Nm) (st : St) (ow : List Str) (tgt : Expr) (d : D) (K : Kst) : Prop := match view tgt with
  | .name x _ => asg1 nm x = true ∧ d.lf = true ∧ K ((x, d) :: st) (without x ow)
  | .tup ts _ _ => (match namesOf ts with
    | some xs => ifB (asgOK nm xs) (seqD d fun ds => ds.length = xs.length ∧ D.lfs ds = true ∧ K (stAll (xs.zip ds) st) (ownAll (xs.zip ds) ow))
    | none => False)
  | _ => False

noncomputable def cNone (c : Const) : Option Unit := match c with
  | .none => some ()
  | _ => none
noncomputable def isNoneE (e : Expr) : Bool := (onConst e cNone).isSome
noncomputable def handVC (nm : Nm) (st : St) (ow : List Str) (hb : List Stmt) (K : Kst) (R : D → Prop) : Prop := match one? hb with
  | some s => (match s with
    | .Assign ts v _ => (match one? ts with
      | some t => (match name? t with
        | some x => (isNoneE v && asg1 nm x) = true ∧ K ((x, .none) :: st) (without x ow)
        | none => False)
      | none => False)
    | _ => False)
  | none => False

noncomputable def retB (d : D) (x : Str) (ow : List Str) : Bool := match d with
  | .list _ => ow.contains x
  | d => d.lf
noncomputable def tgtB (e : Expr) : Bool := match view e with
  | .name .. => true
  | .tup .. => true
  | _ => false
noncomputable def retE (ev : Expr → (D → Prop) → Prop) (e : Expr) (R : D → Prop) : Prop := ev e fun d => (d.lf || freshE e) = true ∧ R d
noncomputable def retVC (st : St) (ow : List Str) (ev : Expr → (D → Prop) → Prop) (e : Option Expr) (R : D → Prop) : Prop := match e with
  | none => R .none
  | some e => (match view e with
    | .name x _ => (match st.lookup x with
      | some d => retB d x ow = true ∧ R d
      | none => retE ev e R)
    | _ => retE ev e R)
noncomputable def dispVC (nm : Nm) (st : St) (ow : List Str) (ev : Expr → (D → Prop) → Prop) (ts es : List Expr) (K : Kst) : Prop := match namesOf ts with
  | some xs => (match swB nm ts es with
    | some sw => ifB (asgOK nm xs && noStar es) (argsVC (es.map ev) fun ds => (allStor es ds && ds.length == xs.length) = true ∧ ds.length ≤ 100 ∧
        K (stAll (if sw.isSome then (xs.zip ds).reverse else xs.zip ds) st) (ownAll (if sw.isSome then (xs.zip ds).reverse else xs.zip ds) ow))
    | none => False)
  | none => False
noncomputable def asgVC (nm : Nm) (st : St) (ow : List Str) (ev : Expr → (D → Prop) → Prop) (t value : Expr) (K : Kst) : Prop := match view t with
  | .name x _ => ifB (asg1 nm x && !compKind value) (ev value fun d => storB value d = true ∧ K ((x, d) :: st) (withOwn (!d.lf) x ow))
  | .tup ts _ _ => (match view value with
    | .tup es _ _ => dispVC nm st ow ev ts es K
    | _ => ifB (!compKind value) (ev value fun d => tgtVC nm st ow (.Tuple ts 0 default) d K))
  | _ => False
noncomputable def meth? (e : Expr) : Option (Str × Str × List Expr) := onCall e fun f args kws cpos => onAttr f fun v m apos => (name? v).bind fun x => if noKw kws && apos.endLine == cpos.line then some (x, m, args) else none
noncomputable def exprVC (st : St) (ow : List Str) (ev : Expr → (D → Prop) → Prop) (e : Expr) (K : Kst) : Prop := match meth? e with
  | some p => ifB (ow.contains p.1) (match st.lookup p.1 with
    | some d => listD d fun ds => mutVC p.2.1 p.1 ds p.2.2 ev fun d => K ((p.1, d) :: st) ow
    | none => False)
  | none => False
structure TryP where
  tgt : Expr
  f : Str
  a : Expr
  b : Expr
  more : List Stmt
  zd : Str
  hb : List Stmt
noncomputable def two? {α : Type} (l : List α) : Option (α × α) := match l with
  | [] => none
  | a :: r => (one? r).bind fun b => some (a, b)
noncomputable def call2 (e : Expr) : Option (Str × Expr × Expr) := onCall e fun f args kws _ => (name? f).bind fun f => (two? args).bind fun a => if noKw kws = true then some (f, a) else none
noncomputable def hand? (h : ExceptHandler) : Option (Str × List Stmt) := match h with
  | .ExceptHandler t n hb _ => (match n with
    | some _ => none
    | none => (match t with
      | some t => (name? t).bind fun z => some (z, hb)
      | none => none))
noncomputable def asg? (s : Stmt) : Option (Expr × Str × Expr × Expr) := match s with
  | .Assign ts v _ => (one? ts).bind fun t => (call2 v).bind fun p => some (t, p)
  | _ => none
noncomputable def try? (body : List Stmt) (hs : List ExceptHandler) (o f : List Stmt) : Option TryP := match body with
  | [] => none
  | s :: more => (asg? s).bind fun p => (one? hs).bind fun h => (hand? h).bind fun q => if o.isEmpty && f.isEmpty then some ⟨p.1, p.2.1, p.2.2.1, p.2.2.2, more, q.1, q.2⟩ else none
noncomputable def dzVC (ds : List D) (H : Prop) (N : Prop) : Prop := match ds with
  | [] => False
  | d :: r => (match r with
    | [] => False
    | e :: r => (match r with
      | [] => (match d with
        | .int _ => (match e with
          | .int v => iteP (v == 0) H N
          | _ => False)
        | _ => False)
      | _ :: _ => False))
noncomputable def tryVC (C : Cx) (nm : Nm) (st : St) (ow : List Str) (ev : Expr → (D → Prop) → Prop) (p : TryP) (K : Kst) (R : D → Prop) (N : Kst) : Prop :=
  p.zd = Str.ofString "ZeroDivisionError" ∧ tgtB p.tgt = true ∧ (nm.lookup p.zd == some .globalImplicit && (st.lookup p.zd).isNone) = true ∧ (match globVC C nm st p.f with
    | some g => (match g with
      | .fn g sp => C.dz = some g ∧ noStar [p.a, p.b] = true ∧ argsVC ([p.a, p.b].map ev) fun ds => dzVC ds (handVC nm st ow p.hb K R) (sp ds fun d => tgtVC nm st ow p.tgt d N)
      | _ => False)
    | none => False)
noncomputable def vcB (C : Cx) : Nat → Nm → List Stmt → St → List Str → Kst → Kst → (D → Prop) → Prop
  | 0, _, _, _, _, _, _, _ => False
  | n + 1, nm, ss, st, ow, K, Bk, R => match ss with
    | [] => K st ow
    | s :: rest => (match s with
      | .Return e _ => retVC st ow (fun v K => vcE C n nm v st K) e R
      | .Break _ => Bk st ow
      | .If test body orelse _ => vcT C n nm test st fun b => iteP b (vcB C n nm body st ow (fun st ow => vcB C n nm rest st ow K Bk R) Bk R) (vcB C n nm orelse st ow (fun st ow => vcB C n nm rest st ow K Bk R) Bk R)
      | .Assign ts value _ => (match one? ts with
        | some t => asgVC nm st ow (fun v K => vcE C n nm v st K) t value fun st ow => vcB C n nm rest st ow K Bk R
        | none => False)
      | .Expr e _ => exprVC st ow (fun v K => vcE C n nm v st K) e fun st ow => vcB C n nm rest st ow K Bk R
      | .For t iter body orelse _ => ifB orelse.isEmpty (match name? t with
        | some x => ifB (asg1 nm x) (forVC C nm st ow (fun e K => vcE C n nm e st K) iter fun items ow' => D.lfs items = true ∧ ∃ Inv : List D → Kst, up (Inv items) st ow' ∧
          (∀ d r st₁ ow₁, Inv (d :: r) st₁ ow₁ → vcB C n nm body ((x, d) :: st₁) (without x ow₁) (up (Inv r)) (fun st ow => vcB C n nm rest st ow K Bk R) R) ∧
          ∀ st₁ ow₁, Inv [] st₁ ow₁ → vcB C n nm rest st₁ ow₁ K Bk R)
        | none => False)
      | .While test body orelse _ => ifB orelse.isEmpty (∃ Inv : Nat → Kst, (∃ m, up (Inv m) st ow) ∧ ∀ m st₁ ow₁, Inv m st₁ ow₁ → vcT C n nm test st₁ fun b => iteP b
          (vcB C n nm body st₁ ow₁ (fun st₂ ow₂ => ∃ m', m' < m ∧ up (Inv m') st₂ ow₂) (fun st ow => vcB C n nm rest st ow K Bk R) R) (vcB C n nm rest st₁ ow₁ K Bk R))
      | .Try body hs o f _ => (match try? body hs o f with
        | some p => tryVC C nm st ow (fun e K => vcE C n nm e st K) p (fun st ow => vcB C n nm rest st ow K Bk R) R fun st ow => vcB C n nm p.more st ow (fun st ow => vcB C n nm rest st ow K Bk R) Bk R
        | none => False)
      | _ => False)

theorem isNoneE_out {e : Expr} (h : isNoneE e = true) : ∃ k p, e = .Constant .none k p := by
  obtain ⟨u, h⟩ := Option.isSome_iff_exists.mp h
  obtain ⟨c, k, p, rfl, h⟩ := onConst_out h
  cases c with
  | none => exact ⟨k, p, rfl⟩
  | _ => cases h
theorem meth?_out {e : Expr} {q : Str × Str × List Expr} (h : meth? e = some q) : ∃ xp apos cpos, e = .Call (.Attribute (.Name q.1 xp) q.2.1 apos) q.2.2 [] cpos ∧ (apos.endLine == cpos.line) = true := by
  obtain ⟨f, args, kws, cpos, rfl, h⟩ := onCall_out h
  obtain ⟨v, m, apos, rfl, h⟩ := onAttr_out h
  obtain ⟨x, h1, h⟩ := opt_bind h
  obtain ⟨h5, h6⟩ := if_some h
  obtain ⟨p, rfl⟩ := name?_out h1
  obtain ⟨h7, h8⟩ := (Bool.and_eq_true ..).mp h5
  cases noKw_out h7
  subst h6
  exact ⟨p, apos, cpos, rfl, h8⟩
theorem two?_out {α : Type} {l : List α} {q : α × α} (h : two? l = some q) : l = [q.1, q.2] := by
  cases l with
  | nil => cases h
  | cons a r =>
    obtain ⟨b, h1, h⟩ := opt_bind h
    cases one?_out h1; cases h; rfl
theorem call2_out {e : Expr} {q : Str × Expr × Expr} (h : call2 e = some q) : ∃ p pos, e = .Call (.Name q.1 p) [q.2.1, q.2.2] [] pos := by
  obtain ⟨f, args, kws, pos, rfl, h⟩ := onCall_out h
  obtain ⟨x, h1, h⟩ := opt_bind h
  obtain ⟨y, h2, h⟩ := opt_bind h
  obtain ⟨h3, h6⟩ := if_some h
  obtain ⟨p, rfl⟩ := name?_out h1
  cases two?_out h2; cases noKw_out h3
  subst h6
  exact ⟨p, pos, rfl⟩
theorem hand?_out {h : ExceptHandler} {q : Str × List Stmt} (e : hand? h = some q) : ∃ p pos, h = .ExceptHandler (some (.Name q.1 p)) none q.2 pos := by
  cases h with
  | ExceptHandler t n hb pos => cases n with
    | some => cases e
    | none => cases t with
      | none => cases e
      | some t =>
        obtain ⟨z, h1, h⟩ := opt_bind (show Option.bind _ _ = some _ from e)
        cases Option.some.inj h
        obtain ⟨p, rfl⟩ := name?_out h1
        exact ⟨p, pos, rfl⟩
theorem asg?_out {s : Stmt} {q : Expr × Str × Expr × Expr} (h : asg? s = some q) : ∃ p1 p2 p3, s = .Assign [q.1] (.Call (.Name q.2.1 p1) [q.2.2.1, q.2.2.2] [] p2) p3 := by
  unfold asg? at h
  split at h
  · obtain ⟨t, h1, h⟩ := opt_bind h
    obtain ⟨r, h2, h⟩ := opt_bind h
    cases Option.some.inj h
    obtain ⟨p1, p2, rfl⟩ := call2_out h2
    cases one?_out h1
    exact ⟨p1, p2, _, rfl⟩
  · cases h
theorem try?_out {body : List Stmt} {hs : List ExceptHandler} {o f : List Stmt} {q : TryP} (h : try? body hs o f = some q) :
    ∃ p1 p2 p3 p4 p5, body = .Assign [q.tgt] (.Call (.Name q.f p1) [q.a, q.b] [] p2) p3 :: q.more ∧ hs = [.ExceptHandler (some (.Name q.zd p4)) none q.hb p5] ∧ o = [] ∧ f = [] := by
  cases body with
  | nil => cases h
  | cons s more =>
    obtain ⟨p, h1, h⟩ := opt_bind (show Option.bind _ _ = some _ from h)
    obtain ⟨hd, h2, h⟩ := opt_bind (show Option.bind _ _ = some _ from h)
    obtain ⟨r, h3, h⟩ := opt_bind (show Option.bind _ _ = some _ from h)
    obtain ⟨h5, h6⟩ := if_some (show (if _ = true then some _ else none) = some _ from h)
    obtain ⟨p1, p2, p3, rfl⟩ := asg?_out h1
    obtain ⟨p4, p5, rfl⟩ := hand?_out h3
    cases one?_out h2
    subst h6
    obtain ⟨e1, e2⟩ := (Bool.and_eq_true ..).mp h5
    exact ⟨p1, p2, p3, p4, p5, rfl, rfl, List.isEmpty_iff.mp e1, List.isEmpty_iff.mp e2⟩
end Mine
end

section -- M18
open PySem PySem.W PyProof.Rows
set_option Elab.async false
set_option linter.unusedVariables false
namespace Mine
open PySem.SeqAt PySem.Calls

inductive FreshL (I : TInv) : Heap → Heap → List Expr → List Value → List D → Prop
  | nil (h : Heap) {h' : Heap} (x : Ext I h h') : FreshL I h h' [] [] []
  | cons {h h₁ h' : Heap} {e : Expr} {v : Value} {d : D} {es : List Expr} {vs : List Value} {ds : List D} (f : freshE e = true → FreshV h v d) (x : Ext I h h₁) (r : Rep h₁ v d) (rest : FreshL I h₁ h' es vs ds) : FreshL I h h' (e :: es) (v :: vs) (d :: ds)

section
variable {prog : Program} {w : World} {I : TInv} {B : Heap} {C : Cx} {k : Nat} {A : Around} {env : Env} {nm : Nm} {h₀ : Heap} {P : Addr → Prop} {Kp : Heap} {va : Va} {st : St} {own : List Str} {h h' : Heap} {s : Shared} {E : Value → Shared → Prop} {n : Nat}

theorem FreshL.more {h h' h'' : Heap} {es : List Expr} {vs : List Value} {ds : List D} (f : FreshL I h h' es vs ds) (y : Ext I h' h'') : FreshL I h h'' es vs ds := by
  induction f with
  | nil _ x => exact .nil _ (x.trans y)
  | cons f x r _ ih => exact .cons f x r (ih y)

theorem args_fresh (S : Snd prog w I B k C n) : ∀ {es : List Expr} {Q : List D → Prop} {s : Shared}, argsVC (es.map fun v K => vcE C n nm v st K) Q → Fm I B k A env nm st s.heap →
    wpAny (model prog w) A (spliced (es.map fun e => (false, eval e env))) (fun vs s' => After I s s' ∧ ∃ ds, RepL s'.heap vs ds ∧ FreshL I s.heap s'.heap es vs ds ∧ Q ds) E s
  | [], Q, s, h, F => spliced_nil ⟨.refl _, [], .nil, .nil _ (.refl _), h⟩
  | e :: r, Q, s, h, F => by
    refine spliced_cons (wpAny_mono (S.1 nm e st _ A env s E h F) (fun v s₁ h₁ => ?_) fun _ _ x => x)
    obtain ⟨a, d, rd, fr, q⟩ := h₁.out
    refine wpAny_mono (args_fresh S q (F.to a.ext)) (fun vs s₂ h₂ => ?_) fun _ _ x => x
    obtain ⟨a', ds, rs, fl, q'⟩ := h₂
    exact ⟨a.trans a', d :: ds, .cons (rd.ext a'.ext) rs, .cons fr a.ext rd fl, q'⟩

structure Item where
  x : Str
  v : Value
  d : D
noncomputable def Item.p (i : Item) : Str × D := (i.x, i.d)
structure ItemOK (nm : Nm) (h₀ : Heap) (P : Addr → Prop) (va : Va) (st : St) (h : Heap) (i : Item) : Prop where
  k : asg1 nm i.x = true
  r : Rep h i.v i.d
  f : i.d.lf = true ∨ ∃ ds, i.d = .list ds ∧ D.lfs ds = true
  n : i.d.lf = false → NewList h₀ P va st i.x i.v
noncomputable def Apart (is : List Item) : Prop := is.Pairwise fun i j => i.x ≠ j.x ∧ (i.d.lf = false → j.d.lf = false → i.v ≠ j.v)

theorem asg1_kind {x : Str} (h : asg1 nm x = true) : nm.lookup x = some .local ∨ nm.lookup x = some .cell := by
  unfold asg1 at h
  simpa using h
theorem flat_of {d : D} (f : d.lf = true ∨ ∃ ds, d = .list ds ∧ D.lfs ds = true) : Flat d := f.imp id .inl

noncomputable def StOK (prog : Program) (w : World) (A : Around) (E : Value → Shared → Prop) (env : Env) (t : Value → Sem Unit) (x : Str) : Prop :=
  ∀ (v : Value) (Q : Unit → Shared → Prop) (s : Shared), wpAny (model prog w) A (storeName env x v) Q E s → wpAny (model prog w) A (t v) Q E s
noncomputable def StL (prog : Program) (w : World) (A : Around) (E : Value → Shared → Prop) (env : Env) : List (Value → Sem Unit) → List Str → Prop
  | [], [] => True
  | t :: ts, x :: xs => StOK prog w A E env t x ∧ StL prog w A E env ts xs
  | _, _ => False
theorem stores_sound {A' : Around} : ∀ {ts : List (Value → Sem Unit)} {is : List Item} {va : Va} {st : St} {own : List Str} {s : Shared} {Q : Unit → Shared → Prop}, StL prog w A' E env ts (is.map (·.x)) → Fs I B k A env nm h₀ P Kp va st own s.heap →
    (∀ i ∈ is, ItemOK nm h₀ P va st s.heap i) → Apart is →
    (∀ h' tk va', Fs I B k A env nm h₀ P Kp va' (stAll (is.map Item.p) st) (ownAll (is.map Item.p) own) h' → Q () { s with heap := h', toks := tk }) →
    wpAny (model prog w) A' (assignInOrder ts (is.map (·.v))) Q E s
  | [], [], va, st, own, s, Q, _, F, _, _, h => wpAny_pure (h s.heap s.toks va F)
  | _ :: _, [], _, _, _, _, _, hts, _, _, _, _ => hts.elim
  | [], _ :: _, _, _, _, _, _, hts, _, _, _, _ => hts.elim
  | t :: ts, i :: is, va, st, own, s, Q, ⟨hmk, hts⟩, F, ok, ap, h => by
    have oi := ok i (List.mem_cons_self ..)
    obtain ⟨ap1, ap2⟩ := List.pairwise_cons.mp ap
    refine wpAny_bind (wpAny_holding (hmk _ _ _ (store_sound F (asg1_kind oi.k) oi.r (flat_of oi.f) oi.n fun h' tk F' keep nn _ _ => ?_)))
    refine stores_sound hts F' (fun j hj => ?_) ap2 fun h'' tk'' va' F'' => h h'' tk'' va' F''
    have oj := ok j (List.mem_cons_of_mem _ hj)
    have aj := ap1 j hj
    refine ⟨oj.k, keep (flat_of oj.f) oj.r, oj.f, fun lf => ?_⟩
    obtain ⟨a, ha, n1, n2, n3⟩ := oj.n lf
    refine ⟨a, ha, n1, n2, fun y es hy e => ?_⟩
    by_cases q : y = i.x
    · subst q
      rw [upd_same]
      rw [lookup_cons_same] at e
      have ed : i.d = .list es := by simpa using e
      intro e'
      have e' : i.v = .ref a := by simpa using e'
      exact aj.2 (by rw [ed]; rfl) lf (e'.trans ha.symm)
    · rw [upd_ne q]
      rw [lookup_cons_ne q] at e
      exact n3 y es hy e

theorem Fs.newList (F : Fs I B k A env nm h₀ P Kp va st own h) {x : Str} {v : Value} {d : D} (f : FreshV h v d) (l : d.lf = false) : NewList h₀ P va st x v := by
  rcases f with f | ⟨a, rfl, hn⟩
  · rw [f] at l; cases l
  · refine ⟨a, rfl, F.ext.fresh hn, fun p => ?_, fun y es _ e q => F.live e q hn⟩
    obtain ⟨o, _, e, _⟩ := F.pk a p
    rw [hn] at e; cases e

theorem names_st {ts : List Expr} : ∀ {xs : List Str}, namesOf ts = some xs → StL prog w A E env ((assignEach ts env).map (·.2)) xs ∧ (assignEach ts env).length = ts.length ∧ xs.length = ts.length ∧ (assignEach ts env).findIdx? (·.1) = none := by
  induction ts with
  | nil => intro xs h; cases h; exact ⟨trivial, rfl, rfl, rfl⟩
  | cons t ts ih =>
    intro xs h
    obtain ⟨x, h1, h⟩ := opt_bind (show Option.bind _ _ = some _ from h)
    obtain ⟨p, rfl⟩ := name?_out h1
    obtain ⟨r, hr, rfl⟩ := Option.map_eq_some_iff.mp h
    obtain ⟨i1, i2, i3, i4⟩ := ih hr
    refine ⟨⟨fun v Q s h => PySem.wpAny_assign_Name h, i1⟩, congrArg Nat.succ i2, congrArg Nat.succ i3, ?_⟩
    show List.findIdx? _ ((false, _) :: assignEach ts env) = none
    rw [List.findIdx?_cons]; simp [i4]
theorem swap_names {ts : List Expr} {L : Nat} : ∀ {xs : List Str}, namesOf ts = some xs → (ts.filterMap fun
    | .Name id pos => if nm.lookup id == some .local && pos.line == L then some id else none
    | _ => none).length = ts.length → (ts.filterMap fun
    | .Name id pos => if nm.lookup id == some .local && pos.line == L then some id else none
    | _ => none) = xs := by
  induction ts with
  | nil => intro xs h _; cases h; rfl
  | cons t ts ih =>
    intro xs h hl
    obtain ⟨x, h1, h⟩ := opt_bind (show Option.bind _ _ = some _ from h)
    obtain ⟨p, rfl⟩ := name?_out h1
    obtain ⟨r, hr, rfl⟩ := Option.map_eq_some_iff.mp h
    rw [List.filterMap_cons] at hl ⊢
    by_cases c : (nm.lookup x == some .local && p.line == L) = true
    · simp only [c, if_true, List.length_cons] at hl ⊢
      rw [ih hr (Nat.succ.inj hl)]
    · simp only [c, List.length_cons, Bool.false_eq_true, if_false] at hl
      exact absurd hl (Nat.ne_of_lt (Nat.lt_succ_of_le (List.length_filterMap_le ..)))

theorem unpack_sound {v : Value} {ds : List D} {d : D} {m : Nat} {Q : List Value → Shared → Prop} (hh : A.handled = none) (r : Rep s.heap v d) (hd : d = .tup ds ∨ d = .list ds) (hn : m = ds.length)
    (h : ∀ vs s', After I s s' → RepL s'.heap vs ds → Q vs s') : wpAny (model prog w) A (unpackItems v m none) Q E s := by
  have nx : ∀ h', Heap.ExtBut s.heap.objs.size s.heap h' → Ext I s.heap h' := fun h' x => .of fun b o e => x b o (Nat.ne_of_lt (Heap.lt_size e)) e
  rcases hd with rfl | rfl
  · obtain ⟨a, vs, rfl, ht, rs⟩ := r.inv
    rw [show m = vs.toArray.size from hn.trans rs.length.symm]
    exact unpackItems_tuple hh ht fun h' x => h vs _ ⟨h', s.toks, rfl, nx h' x⟩ (rs.ext (nx h' x))
  · obtain ⟨a, vs, rfl, hl, rs⟩ := r.inv
    rw [show m = vs.toArray.size from hn.trans rs.length.symm]
    exact kun_itemsOf hh hl.isList fun h' x => h vs _ ⟨h', s.toks, rfl, nx h' x⟩ (rs.ext (nx h' x))
end
end Mine
end

section -- M19
open PySem PySem.W PyProof.Rows
set_option Elab.async false
set_option linter.unusedVariables false
namespace Mine
open PySem.SeqAt PySem.Calls

section
variable {prog : Program} {w : World} {I : TInv} {B : Heap} {mg mb : Str → Option Value} {C : Cx} {k : Nat} {A : Around} {env : Env} {nm : Nm} {h₀ : Heap} {P : Addr → Prop} {Kp : Heap} {va : Va} {st : St} {own : List Str} {h h' : Heap} {s : Shared} {E : Value → Shared → Prop} {n : Nat}

noncomputable def Nx (I : TInv) (B : Heap) (k : Nat) (A : Around) (env : Env) (nm : Nm) (h₀ : Heap) (P : Addr → Prop) (Kp : Heap) (K : Kst) (s : Shared) (f : Flow) (s' : Shared) : Prop :=
  f = .next ∧ ∃ h' tk va st own, s' = { s with heap := h', toks := tk } ∧ Fs I B k A env nm h₀ P Kp va st own h' ∧ K st own

noncomputable def mkItems : List Str → List Value → List D → List Item
  | x :: xs, v :: vs, d :: ds => ⟨x, v, d⟩ :: mkItems xs vs ds
  | _, _, _ => []
theorem mkItems_p : ∀ {xs : List Str} {vs : List Value} {ds : List D}, vs.length = ds.length → (mkItems xs vs ds).map Item.p = xs.zip ds
  | [], _, _, _ => by simp [mkItems]
  | _ :: _, [], [], _ => by simp [mkItems]
  | x :: xs, v :: vs, d :: ds, h => by
    simp only [mkItems, List.map_cons, List.zip_cons_cons]
    rw [mkItems_p (by simpa using h)]; rfl
theorem mkItems_v : ∀ {xs : List Str} {vs : List Value} {ds : List D}, vs.length = ds.length → ds.length = xs.length → (mkItems xs vs ds).map (·.v) = vs ∧ (mkItems xs vs ds).map (·.x) = xs
  | [], vs, ds, h, h' => by
    have e : ds = [] := List.length_eq_zero_iff.mp (by simpa using h')
    subst e
    have e : vs = [] := List.length_eq_zero_iff.mp (by simpa using h)
    subst e
    simp [mkItems]
  | x :: xs, [], ds, h, h' => by simp at h h'; (first | lia | omega)
  | x :: xs, v :: vs, [], h, h' => by simp at h
  | x :: xs, v :: vs, d :: ds, h, h' => by
    obtain ⟨a, b⟩ := mkItems_v (xs := xs) (vs := vs) (ds := ds) (by simpa using h) (by simpa using h')
    simp [mkItems, a, b]
theorem mkItems_mem : ∀ {xs : List Str} {vs : List Value} {ds : List D} {i : Item}, i ∈ mkItems xs vs ds → i.x ∈ xs ∧ i.v ∈ vs ∧ i.d ∈ ds
  | x :: xs, v :: vs, d :: ds, i, h => by
    rcases List.mem_cons.mp h with rfl | h
    · simp
    · obtain ⟨a, b, c⟩ := mkItems_mem h
      exact ⟨List.mem_cons_of_mem _ a, List.mem_cons_of_mem _ b, List.mem_cons_of_mem _ c⟩
  | [], _, _, _, h => by simp [mkItems] at h
  | _ :: _, [], _, _, h => by simp [mkItems] at h
  | _ :: _, _ :: _, [], _, h => by simp [mkItems] at h

theorem nodup_cons {x : Str} {xs : List Str} (h : nodupB (x :: xs) = true) : x ∉ xs ∧ nodupB xs = true := by
  simp only [nodupB, Bool.and_eq_true] at h
  exact ⟨by simpa using h.1, h.2⟩

theorem items_plain : ∀ {xs : List Str} {vs : List Value} {ds : List D}, (∀ x ∈ xs, asg1 nm x = true) → nodupB xs = true → RepL h vs ds → D.lfs ds = true →
    (∀ i ∈ mkItems xs vs ds, ItemOK nm h₀ P va st h i) ∧ Apart (mkItems xs vs ds)
  | [], _, _, _, _, _, _ => by simp [mkItems, Apart]
  | _ :: _, _, _, _, _, .nil, _ => by simp [mkItems, Apart]
  | x :: xs, v :: vs, d :: ds, ha, hn, .cons r rs, hl => by
    simp only [D.lfs, Bool.and_eq_true] at hl
    obtain ⟨n1, n2⟩ := nodup_cons hn
    obtain ⟨a, b⟩ := items_plain (fun y hy => ha y (List.mem_cons_of_mem _ hy)) n2 rs hl.2
    refine ⟨fun i hi => ?_, List.pairwise_cons.mpr ⟨fun j hj => ?_, b⟩⟩
    · rcases List.mem_cons.mp hi with rfl | hi
      · exact ⟨ha _ (List.mem_cons_self ..), r, .inl hl.1, fun e => by rw [show d.lf = true from hl.1] at e; cases e⟩
      · exact a i hi
    · refine ⟨fun e => n1 ?_, fun e _ => by rw [show d.lf = true from hl.1] at e; cases e⟩
      have := (mkItems_mem hj).1
      rw [← show x = j.x from e] at this; exact this

theorem lf_of_storB {e : Expr} {d : D} (h : storB e d = true) : d.lf = true ∨ (freshE e = true ∧ ∃ ds, d = .list ds ∧ D.lfs ds = true) := by
  unfold storB at h
  rcases Bool.or_eq_true _ _ |>.mp h with h | h
  · exact .inl h
  · obtain ⟨a, b⟩ := Bool.and_eq_true _ _ |>.mp h
    cases d <;> first | (cases b; done) | exact .inr ⟨a, _, rfl, b⟩

theorem items_fresh (F : Fs I B k A env nm h₀ P Kp va st own h) : ∀ {h₁ : Heap} {es : List Expr} {xs : List Str} {vs : List Value} {ds : List D} {h₂ : Heap}, (∀ x ∈ xs, asg1 nm x = true) → nodupB xs = true → RepL h₂ vs ds → Ext I h h₁ → FreshL I h₁ h₂ es vs ds → allStor es ds = true →
    (∀ i ∈ mkItems xs vs ds, ItemOK nm h₀ P va st h₂ i ∧ (i.d.lf = false → ∃ a, i.v = .ref a ∧ h₁.get? a = none)) ∧ Apart (mkItems xs vs ds) := by
  intro h₁ es xs vs ds h₂ ha hn rr y fl hl
  induction fl generalizing xs with
  | nil => cases xs <;> simp [mkItems, Apart]
  | @cons h₁ hm h₂ e v d es vs ds fr x₁ r₁ rest ih =>
    cases xs with
    | nil => simp [mkItems, Apart]
    | cons x xs =>
      cases rr with
      | cons r rs =>
        simp only [allStor, Bool.and_eq_true] at hl
        obtain ⟨n1, n2⟩ := nodup_cons hn
        obtain ⟨a, b⟩ := ih (fun y hy => ha y (List.mem_cons_of_mem _ hy)) n2 rs (y.trans x₁) hl.2
        have hs := lf_of_storB hl.1
        have fresh : d.lf = false → FreshV h₁ v d := fun l => by
          rcases hs with hs | ⟨hs, _⟩
          · rw [hs] at l; cases l
          · exact fr hs
        refine ⟨fun i hi => ?_, List.pairwise_cons.mpr ⟨fun j hj => ?_, b⟩⟩
        · rcases List.mem_cons.mp hi with rfl | hi
          · refine ⟨⟨ha _ (List.mem_cons_self ..), r, hs.imp id (·.2), fun l => F.newList ((fresh l).ext y) l⟩, fun l => ?_⟩
            rcases fresh l with q | q
            · rw [show d.lf = true from q] at l; cases l
            · exact q
          · obtain ⟨a1, a2⟩ := a i hi
            refine ⟨a1, fun l => ?_⟩
            obtain ⟨c, e1, e2⟩ := a2 l
            exact ⟨c, e1, x₁.fresh e2⟩
        · refine ⟨fun e => n1 ?_, fun l1 l2 e => ?_⟩
          · have := (mkItems_mem hj).1
            rw [← show x = j.x from e] at this; exact this
          · obtain ⟨c, e1, e2⟩ := (a j hj).2 l2
            have e : v = j.v := e
            rcases hs with q | ⟨_, es', q, _⟩
            · rw [show d.lf = true from q] at l1; cases l1
            · subst q
              rw [e1] at e; subst e
              cases r₁ with | list hl' _ =>
              obtain ⟨k, hk⟩ := hl'
              rw [e2] at hk; cases hk
end
end Mine
end

section -- M20
open PySem PySem.W PyProof.Rows
set_option Elab.async false
set_option linter.unusedVariables false
namespace Mine
open PySem.SeqAt PySem.Calls

section
variable {prog : Program} {w : World} {I : TInv} {B : Heap} {mg mb : Str → Option Value} {C : Cx} {k : Nat} {A : Around} {env : Env} {nm : Nm} {h₀ : Heap} {P : Addr → Prop} {Kp : Heap} {va : Va} {st : St} {own : List Str} {h h' : Heap} {s : Shared} {E : Value → Shared → Prop} {n : Nat}

theorem Nx.intro {K : Kst} {h' : Heap} {tk : Nat} {va : Va} {st : St} {own : List Str} (F : Fs I B k A env nm h₀ P Kp va st own h') (q : K st own) : Nx I B k A env nm h₀ P Kp K s .next { s with heap := h', toks := tk } := ⟨rfl, h', tk, va, st, own, rfl, F, q⟩
theorem Nx.after {K : Kst} {f : Flow} {s₁ s' : Shared} (a : After I s s₁) (x : Nx I B k A env nm h₀ P Kp K s₁ f s') : Nx I B k A env nm h₀ P Kp K s f s' := by
  obtain ⟨h1, t1, rfl, _⟩ := a
  obtain ⟨rfl, h', tk, va, st, own, rfl, F, q⟩ := x
  exact Nx.intro F q

theorem asgOK_out {xs : List Str} (h : asgOK nm xs = true) : (∀ x ∈ xs, asg1 nm x = true) ∧ nodupB xs = true := by
  unfold asgOK at h
  simp only [Bool.and_eq_true, List.all_eq_true] at h
  exact h

theorem tup_core {A' : Around} (F : Fs I B k A env nm h₀ P Kp va st own s.heap) {ts : List Expr} {kk : Nat} {tp : Pos} {xs : List Str} {v : Value} {ds : List D} {K : Kst} (hx : namesOf ts = some xs) (ho : asgOK nm xs = true) (q1 : ds.length = xs.length) (q2 : D.lfs ds = true) (q3 : K (stAll (xs.zip ds) st) (ownAll (xs.zip ds) own))
    (hu : ∀ Q : List Value → Shared → Prop, (∀ vs s', After I s s' → RepL s'.heap vs ds → Q vs s') → wpAny (model prog w) A' (unpackItems v ds.length none) Q E s) : wpAny (model prog w) A' (assign (.Tuple ts kk tp) env v) (fun _ s' => Nx I B k A env nm h₀ P Kp K s .next s') E s := by
  obtain ⟨ha, hn⟩ := asgOK_out ho
  obtain ⟨n1, n2, n3, n4⟩ := names_st (prog := prog) (w := w) (A := A') (E := E) (env := env) hx
  rw [arm_assign_Tuple]
  refine wpAny_bind (wpAny_standAt ?_)
  unfold unpack
  rw [n4, show (assignEach ts env).length = ds.length by rw [n2, ← n3, q1]]
  refine wpAny_bind (wpAny_holding (hu _ fun vs s₁ a rs => ?_))
  have F₁ := F.to a.ext
  obtain ⟨i1, i2⟩ := items_plain (h₀ := h₀) (P := P) (va := va) (st := st) ha hn rs q2
  obtain ⟨m1, m2⟩ := mkItems_v (xs := xs) rs.length q1
  have hs := stores_sound (A := A) (A' := A') (E := E) (ts := (assignEach ts env).map (·.2)) (is := mkItems xs vs ds) (Q := fun _ s' => Nx I B k A env nm h₀ P Kp K s .next s') (by rw [m2]; exact n1) F₁ i1 i2 fun h' tk va' F' => by
    rw [mkItems_p rs.length] at F'
    exact Nx.after a (Nx.intro F' q3)
  rw [m1] at hs
  exact hs
theorem tup_sound (F : Fs I B k A env nm h₀ P Kp va st own s.heap) {ts : List Expr} {kk : Nat} {tp : Pos} {xs : List Str} {v : Value} {d : D} {ds : List D} {K : Kst} (r : Rep s.heap v d) (hx : namesOf ts = some xs) (ho : asgOK nm xs = true) (hd : d = .tup ds ∨ d = .list ds)
    (q1 : ds.length = xs.length) (q2 : D.lfs ds = true) (q3 : K (stAll (xs.zip ds) st) (ownAll (xs.zip ds) own)) : wpAny (model prog w) A (assign (.Tuple ts kk tp) env v) (fun _ s' => Nx I B k A env nm h₀ P Kp K s .next s') E s :=
  tup_core F hx ho q1 q2 q3 fun Q h => unpack_sound (I := I) F.sx.room.hd r hd rfl h
theorem tgt_sound (F : Fs I B k A env nm h₀ P Kp va st own s.heap) {tgt : Expr} {v : Value} {d : D} {K : Kst} (r : Rep s.heap v d) (h : tgtVC nm st own tgt d K) :
    wpAny (model prog w) A (assign tgt env v) (fun _ s' => Nx I B k A env nm h₀ P Kp K s .next s') E s := by
  unfold tgtVC at h
  have bk := view_back tgt
  generalize view tgt = tv at h bk
  cases tv with
  | name x p =>
    obtain ⟨h1, h2, h3⟩ := h
    rw [← show Expr.Name x p = tgt from bk]
    refine PySem.wpAny_assign_Name (store_sound F (asg1_kind h1) r (.inl h2) (fun e => by rw [h2] at e; cases e) fun h' tk F' _ _ _ _ => ?_)
    rw [h2] at F'
    exact Nx.intro F' h3
  | tup ts kk tp =>
    rw [← show Expr.Tuple ts kk tp = tgt from bk]
    dsimp only at h
    cases hx : namesOf ts with
    | none => rw [hx] at h; exact h.elim
    | some xs =>
      rw [hx] at h
      obtain ⟨ho, h⟩ := ifB_out h
      cases d with
      | tup ds => exact tup_sound F r hx ho (.inl rfl) h.1 h.2.1 h.2.2
      | list ds => exact tup_sound F r hx ho (.inr rfl) h.1 h.2.1 h.2.2
      | _ => exact h.elim
  | _ => exact h.elim

theorem assign_tup_sound (S : Snd prog w I B k C n) (F : Fs I B k A env nm h₀ P Kp va st own s.heap) {ts : List Expr} {kk : Nat} {tp pos : Pos} {value : Expr} {K : Kst} (hv : isTupleB value = false)
    (h : vcE C n nm value st fun d => tgtVC nm st own (.Tuple ts 0 default) d K) : wpAny (model prog w) A (exec (.Assign [.Tuple ts kk tp] value pos) env) (Nx I B k A env nm h₀ P Kp K s) E s := by
  refine PyProof.Rows.Assign_Tuple (one S h F.fm fun v s₁ d a r F₁ q => ?_) (by cases value <;> rfl) (by cases value <;> first | rfl | cases hv)
  have q : tgtVC nm st own (.Tuple ts kk tp) d K := q
  refine wpAny_mono (tgt_sound (F.to a.ext) r q) (fun _ s₂ h₂ => Nx.after a h₂) fun _ _ x => x

theorem blockKind_fn (hk : env.scope.kind = .function) : env.blockKind = .function := by simp [Env.blockKind, hk, ScopeKind.isAnnotationScope]

theorem noStar_any : ∀ {vs : List Expr}, noStar vs = true → (vs.any fun | .Starred .. => true | _ => false) = false
  | [], _ => rfl
  | v :: vs, h => by
    rw [List.any_cons, noStar_any (noStar_tail h)]
    cases v <;> first | rfl | (simp [noStar] at h)

theorem sw_chain {σ β : Type} {c0 k st c2 c3 c4 : Bool} {x : σ} {r : Option σ} {P : Option σ → β} {z : β} (hk : k = false) (hs : st = false)
    (h : (if c0 = true then some none else if c2 = true then some none else if c3 = true then some none else if c4 = true then none else some (some x)) = some r) :
    (if (c0 || k) = true then P none else if st = true then P none else if c2 = true then P none else if c3 = true then P none else if c4 = true then z else P (some x)) = P r := by
  subst hk hs
  cases c0 with
  | true => cases h; rfl
  | false => cases c2 with
    | true => cases h; rfl
    | false => cases c3 with
      | true => cases h; rfl
      | false => cases c4 with
        | true => cases h
        | false => cases h; rfl
theorem swapped_eq (Fx : Fx I B k A env nm h₀) {ts vs : List Expr} {xs : List Str} {kk kv : Nat} {tp vp : Pos} {sw : Option (List Str)} (hx : namesOf ts = some xs) (hs : noStar vs = true) (h : swB nm ts vs = some sw) :
    swappedStores [.Tuple ts kk tp] (.Tuple vs kv vp) env = pure sw := by
  have kd : ∀ y, env.kindOf y = nm.lookup y := fun y => by unfold Env.kindOf; rw [Fx.names]
  have e : swapNames nm ts = ts.filterMap fun
    | .Name id pos => if env.kindOf id == some .local && pos.line == (ts.head?.map (·.pos.line)).getD 0 then some id else none
    | _ => none := by
    unfold swapNames lineOf
    congr 1
    funext t
    cases t <;> first | rfl | (simp only [kd])
  unfold swB at h
  rw [e] at h
  unfold swappedStores
  dsimp only
  rw [blockKind_fn Fx.kind]
  exact sw_chain rfl (noStar_any hs) h
end
end Mine
end

section -- M21
open PySem PySem.W PyProof.Rows
set_option Elab.async false
set_option linter.unusedVariables false
namespace Mine
open PySem.SeqAt PySem.Calls

section
variable {prog : Program} {w : World} {I : TInv} {B : Heap} {mg mb : Str → Option Value} {C : Cx} {k : Nat} {A : Around} {env : Env} {nm : Nm} {h₀ : Heap} {P : Addr → Prop} {Kp : Heap} {va : Va} {st : St} {own : List Str} {h h' : Heap} {s : Shared} {E : Value → Shared → Prop} {n : Nat}

theorem Apart.reverse {is : List Item} (h : Apart is) : Apart is.reverse := by
  unfold Apart at h ⊢
  rw [List.pairwise_reverse]
  exact h.imp fun {a b} q => ⟨fun e => q.1 e.symm, fun l1 l2 e => q.2 l2 l1 e.symm⟩

theorem bind_st : ∀ (xs : List Str), StL prog w A E env (xs.map fun n => bindName env n) xs
  | [] => trivial
  | x :: xs => ⟨fun v Q s h => PyProof.Rows.bindName_ h, bind_st xs⟩

theorem namesOf_length {ts : List Expr} : ∀ {xs : List Str}, namesOf ts = some xs → xs.length = ts.length := by
  induction ts with
  | nil => intro xs h; cases h; rfl
  | cons t ts ih =>
    intro xs h
    obtain ⟨x, h1, h⟩ := opt_bind (show Option.bind _ _ = some _ from h)
    obtain ⟨r, hr, rfl⟩ := Option.map_eq_some_iff.mp h
    exact congrArg Nat.succ (ih hr)

theorem swB_names {ts vs : List Expr} {xs names : List Str} (hx : namesOf ts = some xs) (h : swB nm ts vs = some (some names)) : names = xs := by
  unfold swB at h
  split at h
  · cases h
  · split at h
    · cases h
    · rename_i c
      split at h
      · cases h
      · split at h
        · cases h
        · cases h
          simp only [Bool.or_eq_true, not_or] at c
          have := c.1
          exact swap_names hx (Classical.byContradiction fun ne => this (bne_iff_ne.mpr ne))

theorem display_sound (S : Snd prog w I B k C n) (F : Fs I B k A env nm h₀ P Kp va st own s.heap) {ts es : List Expr} {xs : List Str} {sw : Option (List Str)} {kk kv : Nat} {tp vp pos : Pos} {K : Kst} (hx : namesOf ts = some xs) (hsw : swB nm ts es = some sw)
    (ho : asgOK nm xs = true) (hs : noStar es = true)
    (h : argsVC (es.map fun v K => vcE C n nm v st K) fun ds => (allStor es ds && ds.length == xs.length) = true ∧ ds.length ≤ 100 ∧
              K (stAll (if sw.isSome then (xs.zip ds).reverse else xs.zip ds) st) (ownAll (if sw.isSome then (xs.zip ds).reverse else xs.zip ds) own)) :
    wpAny (model prog w) A (exec (.Assign [.Tuple ts kk tp] (.Tuple es kv vp) pos) env) (Nx I B k A env nm h₀ P Kp K s) E s := by
  obtain ⟨ha, hn⟩ := asgOK_out ho
  have ev : ∀ {KQ : Value → Shared → Prop}, (∀ (vs : List Value) (ds : List D) (s₁ : Shared) (t : Addr), After I s s₁ → s₁.heap.IsTuple t vs.toArray → RepL s₁.heap vs ds → FreshL I s.heap s₁.heap es vs ds → ((allStor es ds && ds.length == xs.length) = true ∧ ds.length ≤ 100 ∧
              K (stAll (if sw.isSome then (xs.zip ds).reverse else xs.zip ds) st) (ownAll (if sw.isSome then (xs.zip ds).reverse else xs.zip ds) own)) → KQ (.ref t) s₁) → wpAny (model prog w) A (eval (.Tuple es kv vp) env) KQ E s := fun {KQ} hK => by
    refine Tuple_ ?_
    rw [trees_eq vp hs]
    refine wpAny_mono (args_fresh S h F.fm) (fun vs s₁ h₁ => ?_) fun _ _ x => x
    obtain ⟨a, ds, r, fl, q⟩ := h₁
    have := r.length
    refine wpAny_newTuple (hK vs ds _ _ (a.trans (.push _ _ s₁.toks)) ?_ (r.ext (.push (I := I) _ _)) (fl.more (.push _ _)) q) (by rw [sizeLine_eq]; omega)
    exact ⟨_, Heap.get?_push_size _ rfl, rfl, _, rfl⟩
  have un : ∀ (vs : List Value) (ds : List D) (s₁ : Shared) (t : Addr) (m : Nat) (Q : List Value → Shared → Prop), s₁.heap.IsTuple t vs.toArray → RepL s₁.heap vs ds → m = ds.length → (∀ s₂, After I s₁ s₂ → Q vs s₂) → wpAny (model prog w) A (unpackItems (.ref t) m none) Q E s₁ := fun vs ds s₁ t m Q ht r hm hQ => by
    have e : m = vs.toArray.size := by rw [hm, ← r.length]; simp
    rw [e]
    refine unpackItems_tuple F.sx.room.hd ht fun h' x => ?_
    rw [show vs.toArray.toList = vs by simp]
    exact hQ _ ⟨h', s₁.toks, rfl, .of fun b o e => x b o (Nat.ne_of_lt (Heap.lt_size e)) e⟩
  have lenx := namesOf_length hx
  have done : ∀ (vs : List Value) (ds : List D) (s₂ : Shared) (ts' : List (Value → Sem Unit)), After I s s₂ → RepL s₂.heap vs ds → FreshL I s.heap s₂.heap es vs ds → ((allStor es ds && ds.length == xs.length) = true ∧ ds.length ≤ 100 ∧
              K (stAll (if sw.isSome then (xs.zip ds).reverse else xs.zip ds) st) (ownAll (if sw.isSome then (xs.zip ds).reverse else xs.zip ds) own)) →
        (sw = none → StL prog w A E env ts' xs → wpAny (model prog w) A (assignInOrder ts' vs) (fun _ => Nx I B k A env nm h₀ P Kp K s .next) E s₂) ∧
        (sw.isSome = true → StL prog w A E env ts' xs.reverse → wpAny (model prog w) A (assignInOrder ts' vs.reverse) (fun _ => Nx I B k A env nm h₀ P Kp K s .next) E s₂) := by
    rintro vs ds s₂ ts' a r fl ⟨q1, q2, q3⟩
    simp only [Bool.and_eq_true] at q1
    have lds : ds.length = xs.length := by simpa using q1.2
    have F₂ := F.to a.ext
    obtain ⟨i1, i2⟩ := items_fresh F ha hn r (.refl _) fl q1.1
    obtain ⟨m1, m2⟩ := mkItems_v (xs := xs) r.length lds
    refine ⟨fun e hst => ?_, fun e hst => ?_⟩
    · subst e
      simp only [Option.isSome_none, Bool.false_eq_true, if_false] at q3
      have := stores_sound (E := E) (ts := ts') (is := mkItems xs vs ds) (Q := fun _ => Nx I B k A env nm h₀ P Kp K s .next) (by rw [m2]; exact hst) F₂ (fun i hi => (i1 i hi).1) i2 fun h' tk va' F' => by
          rw [mkItems_p r.length] at F'
          exact Nx.after a (Nx.intro F' q3)
      rw [m1] at this
      exact this
    · rw [e] at q3
      simp only [if_true] at q3
      have := stores_sound (E := E) (ts := ts') (is := (mkItems xs vs ds).reverse) (Q := fun _ => Nx I B k A env nm h₀ P Kp K s .next) (by rw [List.map_reverse, m2]; exact hst) F₂ (fun i hi => (i1 i (List.mem_reverse.mp hi)).1) i2.reverse fun h' tk va' F' => by
          rw [List.map_reverse, mkItems_p r.length] at F'
          exact Nx.after a (Nx.intro F' q3)
      rw [List.map_reverse, m1] at this
      exact this
  cases sw with
  | none =>
    refine PyProof.Rows.Assign_Tuple (ev fun vs ds s₁ t a ht r fl q => ?_) rfl (swapped_eq F.sx hx hs hsw)
    rw [arm_assign_Tuple]
    refine wpAny_bind (wpAny_standAt ?_)
    unfold unpack
    obtain ⟨n1, n2, n3, n4⟩ := names_st (prog := prog) (w := w) (A := A) (E := E) (env := env) hx
    rw [n4]
    have lds : ds.length = xs.length := by have := q.1; simp only [Bool.and_eq_true] at this; simpa using this.2
    refine wpAny_bind (wpAny_holding (un vs ds s₁ t _ _ ht r (by rw [n2, ← n3, lds]) fun s₂ a₂ => ?_))
    exact (done vs ds s₂ _ (a.trans a₂) (r.ext a₂.ext) (fl.more a₂.ext) q).1 rfl n1
  | some names =>
    have en := swB_names hx hsw
    subst en
    refine PyProof.Rows.Assign_Tuple_swapped (ev fun vs ds s₁ t a ht r fl q => ?_) rfl (swapped_eq F.sx hx hs hsw)
    have lds : ds.length = names.length := by have := q.1; simp only [Bool.and_eq_true] at this; simpa using this.2
    refine un vs ds s₁ t _ _ ht r lds.symm fun s₂ a₂ => ?_
    exact (done vs ds s₂ _ (a.trans a₂) (r.ext a₂.ext) (fl.more a₂.ext) q).2 rfl (bind_st _)
end
end Mine
end

section -- M22
open PySem PySem.W PyProof.Rows
set_option Elab.async false
set_option linter.unusedVariables false
namespace Mine
open PySem.SeqAt PySem.Calls

section
variable {prog : Program} {w : World} {I : TInv} {B : Heap} {mg mb : Str → Option Value} {C : Cx} {k : Nat} {A : Around} {env : Env} {nm : Nm} {h₀ : Heap} {P : Addr → Prop} {Kp : Heap} {va : Va} {st : St} {own : List Str} {h h' : Heap} {s : Shared} {E : Value → Shared → Prop} {n : Nat}

theorem FrOK.ne (f : FrOK I A h) {b : Addr} (n : h.get? b = none) : ∀ fr, A.frames = some fr → ∀ e ∈ fr, e.frame ≠ some b := by
  obtain ⟨fr', e', g, _⟩ := f
  intro fr e x hx q
  rw [e'] at e; cases e
  obtain ⟨o, _, _, ho, _⟩ := g.at x hx b q
  rw [n] at ho; cases ho
theorem funFrames_but {h h' : Heap} {b : Addr} (sb : Heap.SameBut b h h') : ∀ {l : List Env}, DFr I h l → (∀ e ∈ l, e.frame ≠ some b) → DFr I h' l
  | [], _, _ => trivial
  | e :: r, ⟨k, ⟨L, o, es, ep, e1, e2, e3⟩, f⟩, ne => ⟨k, ⟨L, o, es, ep, e1, (sb.2 L (fun q => ne e (List.mem_cons_self ..) (by rw [e1, q]))).trans e2, e3⟩, funFrames_but sb f fun x hx => ne x (List.mem_cons_of_mem _ hx)⟩

theorem Fs.drop (F : Fs I B k A env nm h₀ P Kp va st own h) {b : Addr} {m : Va} (hn : h.Ns b m) (sb : Heap.SameBut b h h') (h0 : h₀.get? b = none) (hl : b ≠ env.locals) (hf : ∀ fr, A.frames = some fr → ∀ e ∈ fr, e.frame ≠ some b) :
    Fs I B k A env nm h₀ P Kp va st own h' := by
  obtain ⟨ob, es, ep, hob, hdb, _⟩ := id hn
  have ne : ∀ {a : Addr} {o : Obj}, h.get? a = some o → (∀ es ep, o.data ≠ .dict es ep) → a ≠ b := fun e nd q => by
    subst q; rw [hob] at e; cases e; exact nd _ _ hdb
  have get : ∀ {a : Addr} {o : Obj}, h.get? a = some o → a ≠ b → h'.get? a = some o := fun e n => (sb.2 _ n).trans e
  have tup : ∀ a vs, h.IsTuple a vs → h'.IsTuple a vs := fun a vs ⟨o, e, c, k, d⟩ => ⟨o, get e (ne e fun _ _ q => by rw [d] at q; cases q), c, k, d⟩
  have rep : ∀ {v : Value} {d : D}, Flat d → Rep h v d → Rep h' v d := fun {v d} f r => by
    rcases f with f | ⟨ds, rfl, f⟩ | ⟨g, rfl⟩
    · exact r.lf_keep tup f
    · cases r with | list hl' rs =>
      obtain ⟨k, e⟩ := hl'
      exact .list ⟨k, get e (ne e fun _ _ q => by cases q)⟩ (rs.lf_keep tup f)
    · cases r with | clo hg hd => exact .clo (get hg (ne hg fun _ _ q => by rw [hd] at q; cases q)) hd
  refine ⟨F.sx, ?_, ?_, ?_, ⟨?_, fun x c hk hc => ?_⟩, fun x d e => ?_, fun a p => ?_, F.own⟩
  · exact I.keeps h h' (fun a o e t => get e (fun q => by subst q; rw [hob] at e; cases e; exact not_rec (fun vs q => by rw [hdb] at q; cases q) t)) F.tab
  · obtain ⟨fr, e, g, _⟩ := F.fr
    exact ⟨fr, e, funFrames_but sb g (hf fr e), F.sx.low.ext (F.ext.but1 h0 hob (not_rec fun vs q => by rw [hdb] at q; cases q) sb)⟩
  · exact F.ext.but1 h0 hob (not_rec fun vs q => by rw [hdb] at q; cases q) sb
  · obtain ⟨m', n', e⟩ := F.fh.ns
    exact ⟨m', n'.sameBut sb (Ne.symm hl), e⟩
  · obtain ⟨o, e, d⟩ := F.fh.cl x c hk hc
    exact ⟨o, get e (ne e fun _ _ q => by rw [d] at q; cases q), d⟩
  · obtain ⟨f, q, v, hv, r⟩ := F.vars x d e
    exact ⟨f, q, v, hv, rep f r⟩
  · obtain ⟨o, e1, e2, e3, e4, e5⟩ := F.pk a p
    exact ⟨o, e1, get e2 (ne e2 e5), e3, e4, e5⟩

theorem assign_one (S : Snd prog w I B k C n) (F : Fs I B k A env nm h₀ P Kp va st own s.heap) {x : Str} {p pos : Pos} {value : Expr} {K : Kst} (ha : asg1 nm x = true) (hs : swapsWith value (some (.Name x p)) pos.line env = pure false)
    (h : vcE C n nm value st fun d => storB value d = true ∧ K ((x, d) :: st) (withOwn (!d.lf) x own)) : wpAny (model prog w) A (exec (.Assign [.Name x p] value pos) env) (Nx I B k A env nm h₀ P Kp K s) E s := by
  refine PySem.wpAny_Assign_Name (wpAny_mono (S.1 nm value st _ A env s E h F.fm) (fun v s₁ h₁ => ?_) fun _ _ x => x) hs
  obtain ⟨a, d, r, fr, q1, q2⟩ := h₁.out
  have F₁ := F.to a.ext
  have hd := lf_of_storB q1
  refine store_sound F₁ (asg1_kind ha) r (hd.imp id fun e => .inl e.2) (fun l => ?_) fun h' tk F' _ _ _ _ => Nx.after a (Nx.intro F' q2)
  rcases hd with q | ⟨q, _⟩
  · rw [q] at l; cases l
  · obtain ⟨a', e1, n1, n2, n3⟩ := F.newList (x := x) (fr q) l
    exact ⟨a', e1, n1, n2, n3⟩

theorem assign_swap (S : Snd prog w I B k C n) (H : CGood prog w I B mg mb C k) (F : Fs I B k A env nm h₀ P Kp va st own s.heap) {x y : Str} {p py pos vpos : Pos} {elt iter : Expr} {ifs : List Expr} {scope : Scope} {K : Kst} {Qd : List D → Prop} (ha : asg1 nm x = true)
    (hs : swapsWith (.ListComp elt [⟨.Name y py, iter, ifs, 0⟩] scope vpos) (some (.Name x p)) pos.line env = pure true) (hok : compOK nm st scope y = true)
    (h : iterVC C nm st (fun e K => vcE C n nm e st K) iter fun items => items.length ≤ 10000 ∧ compVC (fun d K => vcE C n (relN nm scope.names) elt (compSt st scope y d) K) (testVC C n nm st scope y ifs) items [] Qd) (hQ : ∀ ds, Qd ds → K ((x, .list ds) :: st) (withOwn true x own)) :
    wpAny (model prog w) A (exec (.Assign [.Name x p] (.ListComp elt [⟨.Name y py, iter, ifs, 0⟩] scope vpos) pos) env) (Nx I B k A env nm h₀ P Kp K s) E s := by
  rw [exec_Assign_Name_used _ _ _ _ hs]
  refine wpAny_bind (wpAny_standAt (wpAny_bind ?_))
  show wpAny _ A (do let _ ← comprehension (.ListComp elt [⟨.Name y py, iter, ifs, 0⟩] scope vpos) scope env _ (newList []) false (eval iter env) (some (assign (.Name x p) env))) _ _ s
  refine wpAny_bind (wpAny_mono (comp_any (use := some (assign (.Name x p) env)) (Q := fun _ s' => Nx I B k A env nm h₀ P Kp K s .next s') S H hok h F.fm ?_) (fun _ s' hq => wpAny_pure (wpAny_pure hq)) fun _ _ e => e)
  intro D₁ C₁ s' m' vs ds s₂ hx a x₁ x₂ e1 e2 e3 e4 e5 e6 e7 e8 e9 e10
  obtain ⟨hh, tk, rfl⟩ := e9
  have fresh1 : s.heap.get? D₁ = none := (x₁.trans x₂).fresh e1
  have fresh2 : s.heap.get? C₁ = none := (x₁.trans x₂).fresh e2
  have F' := F.to (x₁.trans e8)
  have hfl : Flat (.list ds) := .inr (.inl ⟨ds, rfl, e7⟩)
  refine PySem.wpAny_assign_Name (store_sound F' (asg1_kind ha) (.list e5 e6) hfl (fun l => ?_) fun h' tk' F'' _ _ nsk _ => ?_)
  · obtain ⟨a', e1', n1, n2, n3⟩ := F.newList (x := x) (v := .ref D₁) (.inr ⟨D₁, rfl, fresh1⟩) l
    exact ⟨a', e1', n1, n2, n3⟩
  · have hl : C₁ ≠ env.locals := fun q => by
      obtain ⟨m, hn, _⟩ := F.fh.ns
      have := hn.lt
      obtain ⟨o, _, _, ho, _⟩ := hn
      rw [← q, fresh2] at ho; cases ho
    refine ⟨m', nsk C₁ m' hl e4, fun h'' sb => ?_⟩
    have F3 := F''.drop (nsk C₁ m' hl e4) sb (F.ext.fresh fresh2) hl (F.fr.ne fresh2)
    obtain ⟨h2, tk2, rfl, z⟩ := a
    exact Nx.intro F3 (hQ _ e10)
end
end Mine
end

section -- M23
open PySem PySem.W PyProof.Rows
set_option Elab.async false
set_option linter.unusedVariables false
namespace Mine
open PySem.SeqAt PySem.Calls

section
variable {prog : Program} {w : World} {I : TInv} {B : Heap} {mg mb : Str → Option Value} {C : Cx} {k : Nat} {A : Around} {env : Env} {nm : Nm} {h₀ : Heap} {P : Addr → Prop} {Kp : Heap} {va : Va} {st : St} {own : List Str} {h h' : Heap} {s : Shared} {E : Value → Shared → Prop} {n : Nat}

theorem Fs.mutated (F : Fs I B k A env nm h₀ P Kp va st own h) {x : Str} {ds ds' : List D} {a : Addr} {vs vs' : List Value} (hx : x ∈ own) (hd : st.lookup x = some (.list ds)) (hv : va x = some (.ref a)) (hl : h.PlainList a (List.toArray vs))
    (hl' : h'.PlainList a (List.toArray vs')) (sb : Heap.SameBut a h h') (rs : RepL h vs' ds') (lf : D.lfs ds' = true) : Fs I B k A env nm h₀ P Kp va ((x, .list ds') :: st) own h' := by
  have c := Chg.list hl hl' sb
  obtain ⟨a', e1, n1, n2, n3⟩ := F.own x hx ds hd
  rw [hv] at e1; cases e1
  obtain ⟨ka, hka⟩ := id hl
  have kind : (nm.lookup x = some .local ∨ nm.lookup x = some .cell ∨ nm.lookup x = some .free) := (F.vars x _ hd).2.1
  refine ⟨F.sx, c.ok F.tab, c.fr F.fr (F.sx.low.ext (c.ext F.ext n1)), c.ext F.ext n1, ⟨?_, fun y cc hk hc => ?_⟩, fun y d e => ?_, fun b p => ?_, fun y hy es e => ?_⟩
  · obtain ⟨m, hn, e⟩ := F.fh.ns
    refine ⟨m, hn.sameBut sb (fun q => ?_), e⟩
    obtain ⟨o, es, ep, ho, hd, _⟩ := hn
    rw [q, hka] at ho; cases ho; cases hd
  · obtain ⟨o, e, d⟩ := F.fh.cl y cc hk hc
    exact ⟨o, c.get (fun q => by rw [q, hka] at e; cases e; cases d) e, d⟩
  · by_cases q : y = x
    · subst q
      rw [lookup_cons_same] at e; cases e
      exact ⟨.inr (.inl ⟨ds', rfl, lf⟩), kind, _, hv, .list hl' (rs.lf_keep c.tuple lf)⟩
    · rw [lookup_cons_ne q] at e
      obtain ⟨f, kk, v, hv', r⟩ := F.vars y d e
      exact ⟨f, kk, v, hv', c.rep f (fun es ed ev => n3 y es q (ed ▸ e) (by rw [hv', ev])) r⟩
  · obtain ⟨o, e1, e2, e3⟩ := F.pk b p
    exact ⟨o, e1, c.get (fun q => n2 (q ▸ p)) e2, e3⟩
  · by_cases q : y = x
    · subst q
      refine ⟨a, hv, n1, n2, fun z es' hz e' => ?_⟩
      rw [lookup_cons_ne hz] at e'
      exact n3 z es' hz e'
    · rw [lookup_cons_ne q] at e
      obtain ⟨b, f1, f2, f3, f4⟩ := F.own y hy es e
      refine ⟨b, f1, f2, f3, fun z es' hz e' => ?_⟩
      by_cases q' : z = x
      · subst q'; exact f4 z ds hz hd
      · rw [lookup_cons_ne q'] at e'
        exact f4 z es' hz e'

theorem mapSeq_plain (f : Array Value → Array Value) (its : Array Value) (n : Nat) : ∃ n', Obj.mapSeq f { cls := .type "list", data := .seq its n } = { cls := .type "list", data := .seq (f its) n' } := ⟨_, by simp [Obj.mapSeq]; rfl⟩
theorem plain_upd {a : Addr} {its : Array Value} {n : Nat} (f : Array Value → Array Value) (ho : h.get? a = some { cls := .type "list", data := .seq its n }) : (h.update a (Obj.mapSeq f)).PlainList a (f its) := by
  obtain ⟨n', e⟩ := mapSeq_plain f its n
  exact ⟨n', by rw [Heap.get?_update_self _ ho (by rw [e]; rfl), e]⟩

theorem Fs.name {A' : Around} (F : Fs I B k A env nm h₀ P Kp va st own s.heap) {x : Str} {p : Pos} {d : D} {v : Value} {KQ : Value → Shared → Prop} (e : st.lookup x = some d) (hv : va x = some v) (hK : KQ v s) : wpAny (model prog w) A' (eval (.Name x p) env) KQ E s := by
  obtain ⟨_, q, _⟩ := F.vars x d e
  have kd : ∀ y, env.kindOf y = nm.lookup y := fun y => by unfold Env.kindOf; rw [F.sx.names]
  rcases q with a | a | a
  · obtain ⟨m, hn, hm⟩ := F.fh.ns
    exact wpAny_Name (wpAny_loadName_local F.sx.kind ((kd x).trans a) hn ((hm x a).trans hv) hK) (F.fm.no a)
  · obtain ⟨c, hc⟩ := F.sx.has x (.inl a)
    have := F.fh.cl x c (.inl a) hc
    rw [hv] at this
    exact wpAny_Name (wpAny_loadName_cell F.sx.kind ((kd x).trans a) hc this hK) (F.fm.no a)
  · obtain ⟨c, hc⟩ := F.sx.has x (.inr a)
    have := F.fh.cl x c (.inr a) hc
    rw [hv] at this
    have hx : (x == ("__classdict__" : Str)) = false := by
      cases hx : (x == ("__classdict__" : Str)) with
      | false => rfl
      | true => have := F.sx.cdt; rw [← beq_iff_eq.mp hx, a] at this; cases this
    exact wpAny_Name (wpAny_loadName_free F.sx.kind ((kd x).trans a) hc this hK hx) (F.fm.no a)

theorem lfs_iff {ds : List D} : D.lfs ds = true ↔ ∀ d, d ∈ ds → d.lf = true := by
  induction ds with
  | nil => exact ⟨fun _ d h => (by cases h), fun _ => rfl⟩
  | cons d ds ih => exact ((Bool.and_eq_true ..).to_iff.trans (and_congr Iff.rfl ih)).trans (List.forall_mem_cons (p := fun d => D.lf d = true)).symm
section
variable {x m : Str} {xp apos cpos pos : Pos} {ds : List D} {a : Addr} {vs : List Value} {K : Kst}
theorem append_sound (S : Snd prog w I B k C n) (F : Fs I B k A env nm h₀ P Kp va st own s.heap) (hx : x ∈ own) (hline : (apos.endLine == cpos.line) = true) (hd : st.lookup x = some (.list ds)) (hv : va x = some (.ref a)) (hl : s.heap.PlainList a vs.toArray) (rs : RepL s.heap vs ds) (lfs : D.lfs ds = true) (hi : interactive env = false)
    {e : Expr} (hs : noStar [e] = true) (h : vcE C n nm e st fun d => d.lf = true ∧ ds.length ≤ 10000 ∧ K ((x, .list (ds ++ [d])) :: st) own) :
    wpAny (model prog w) A (exec (.Expr (.Call (.Attribute (.Name x xp) (Str.ofString "append") apos) [e] [] cpos) pos) env) (Nx I B k A env nm h₀ P Kp K s) E s := by
  obtain ⟨kk, ho⟩ := id hl
  have el := rs.length
  refine wpAny_Expr_any ?_ hi rfl
  refine wpAny_Call_method (T := "list") (id := "list.append") rfl (by rw [trees_eq cpos hs]; rfl) hline PySem.F.plainAttrs_list PySem.F.slot_list_append PySem.F.type_list_append ?_
  refine F.name hd hv ⟨⟨_, ho, rfl⟩, (fun a' e => by cases e; exact ⟨_, ho, rfl⟩), ?_⟩
  rw [trees_eq cpos hs]
  refine callWith_builtin trees_plain (wpAny_mono (evalArgs_sound S (es := [e]) (Q := fun es => oneVC es fun d => d.lf = true ∧ ds.length ≤ 10000 ∧ K ((x, .list (ds ++ [d])) :: st) own) h F.fm) (fun aa s₂ h₂ => ?_) fun _ _ x => x)
  obtain ⟨ws, rfl, hb, es, rw', q⟩ := h₂
  obtain ⟨u, d, rfl, rv, q1, q2, q3⟩ := oneVC.out q rw'
  have F₂ := F.to hb.ext
  refine wpAny_list_append_plain (items := vs.toArray) (hb.ext.plainList hl) (fun h' hl' sb => Nx.after hb (Nx.intro (F₂.mutated (vs' := vs ++ [u]) hx hd hv (hb.ext.plainList hl) (by simpa using hl') sb ((rs.ext hb.ext).append (.one rv)) (lfs_append lfs (lfs_one q1))) q3)) (by rw [sizeLine_eq]; simp; (first | lia | omega))
theorem lfs_sub {es ds : List D} (h : D.lfs ds = true) (s : ∀ d ∈ es, d ∈ ds) : D.lfs es = true := lfs_iff.mpr fun d hd => lfs_iff.mp h d (s d hd)
theorem reverse_sound (F : Fs I B k A env nm h₀ P Kp va st own s.heap) (hx : x ∈ own) (hline : (apos.endLine == cpos.line) = true) (hd : st.lookup x = some (.list ds)) (hv : va x = some (.ref a)) (hl : s.heap.PlainList a vs.toArray) (rs : RepL s.heap vs ds) (lfs : D.lfs ds = true) (hi : interactive env = false)
    (q2 : ds.length ≤ 10000) (q3 : K ((x, .list ds.reverse) :: st) own) :
    wpAny (model prog w) A (exec (.Expr (.Call (.Attribute (.Name x xp) (Str.ofString "reverse") apos) [] [] cpos) pos) env) (Nx I B k A env nm h₀ P Kp K s) E s := by
  obtain ⟨kk, ho⟩ := id hl
  have el := rs.length
  refine wpAny_Expr_any ?_ hi rfl
  refine wpAny_Call_method (T := "list") (id := "list.reverse") rfl rfl hline PySem.F.plainAttrs_list PySem.F.slot_list_reverse PySem.F.type_list_reverse ?_
  refine F.name hd hv ⟨⟨_, ho, rfl⟩, (fun a' e => by cases e; exact ⟨_, ho, rfl⟩), ?_⟩
  exact PySem.P.reverse_list (items := vs.toArray) (n := kk) ho (Nx.intro (F.mutated (vs' := vs.reverse) hx hd hv hl (by simpa using plain_upd (fun x => x.reverse) ho) (Heap.SameBut.update ..) rs.reverse (lfs_sub lfs fun d => List.mem_reverse.mp)) q3) (by rw [sizeLine_eq]; simp; (first | lia | omega))
end
theorem mut_sound (S : Snd prog w I B k C n) (F : Fs I B k A env nm h₀ P Kp va st own s.heap) {x m : Str} {xp apos cpos pos : Pos} {args : List Expr} {ds : List D} {K : Kst} (hx : x ∈ own) (hline : (apos.endLine == cpos.line) = true) (hd : st.lookup x = some (.list ds))
    (h : mutVC m x ds args (fun e K => vcE C n nm e st K) fun d => K ((x, d) :: st) own) (hi : interactive env = false) :
    wpAny (model prog w) A (exec (.Expr (.Call (.Attribute (.Name x xp) m apos) args [] cpos) pos) env) (Nx I B k A env nm h₀ P Kp K s) E s := by
  obtain ⟨hf, _, v, hv, r⟩ := F.vars x _ hd
  obtain ⟨a, vs, rfl, hl, rs⟩ := r.inv
  have lfs : D.lfs ds = true := by
    rcases hf with q | ⟨ds', q, l⟩ | ⟨g, q⟩
    · cases q
    · cases q; exact l
    · cases q
  cases args with
  | nil =>
    obtain ⟨e, q2, q3⟩ := h
    rw [e]; exact reverse_sound F hx hline hd hv hl rs lfs hi q2 q3
  | cons e r => cases r with
    | nil =>
      obtain ⟨e1, hs, h⟩ := h
      rw [e1]
      exact append_sound S F hx hline hd hv hl rs lfs hi hs h
    | cons => exact h.elim
end
end Mine
end

section -- M24
open PySem PySem.W PyProof.Rows
set_option Elab.async false
set_option linter.unusedVariables false
namespace Mine
open PySem.SeqAt PySem.Calls

section
variable {prog : Program} {w : World} {I : TInv} {B : Heap} {mg mb : Str → Option Value} {C : Cx} {k : Nat} {A : Around} {env : Env} {nm : Nm} {h₀ : Heap} {P : Addr → Prop} {Kp : Heap} {va : Va} {st : St} {own : List Str} {h h' : Heap} {s : Shared} {E : Value → Shared → Prop} {n : Nat}

inductive Goes (prog : Program) (w : World) (I : TInv) (A : Around) (va : Va) (st : St) (own : List Str) (K : List D → List Str → Prop) (s : Shared) (it : Value) (s₂ : Shared) : Prop
  | mk (a : After I s s₂) (h₁ : Heap) (src : Value) (items : List D) (own' : List Str) (x₁ : Ext I s.heap h₁) (x₂ : Ext I h₁ s₂.heap) (W : IterOf prog w I A h₁ src it items s₂) (k : K items own') (sub : ∀ y ∈ own', y ∈ own)
    (ne : ∀ y ∈ own', ∀ ds, st.lookup y = some (.list ds) → va y ≠ some src)

theorem Fs.notList (F : Fs I B k A env nm h₀ P Kp va st own h) {v : Value} (hv : ∀ a vs, v = .ref a → ¬ h.PlainList a vs) : ∀ y ∈ own, ∀ ds, st.lookup y = some (.list ds) → va y ≠ some v := fun y _ ds e q => by
  obtain ⟨_, _, v', hv', r⟩ := F.vars y _ e
  rw [q] at hv'; cases hv'
  cases r with | list hl _ => exact hv _ _ rfl hl
theorem rep_notList {v : Value} {d : D} (r : Rep h v d) (hd : ∀ ds, d ≠ .list ds) : ∀ a vs, v = .ref a → ¬ h.PlainList a vs := fun a vs e hl => by
  subst e
  cases r with
  | list _ _ => exact hd _ rfl
  | tup ht _ => exact list_ne_tuple hl.isList ht
  | clo hg hf => obtain ⟨k, e⟩ := hl; rw [e] at hg; cases hg; cases hf

theorem Goes.of (F : Fs I B k A env nm h₀ P Kp va st own s.heap) {s₁ s₂ : Shared} {K : List D → List Str → Prop} {it v : Value} {own' : List Str} (ha : After I s s₁) (hs : ∀ y ∈ own', y ∈ own) (hv : ∀ y ∈ own', ∀ ds, st.lookup y = some (.list ds) → va y ≠ some v)
    (h : After I s₁ s₂ ∧ ∃ items, IterOf prog w I A s₁.heap v it items s₂ ∧ K items own') : Goes prog w I A va st own K s it s₂ := by
  obtain ⟨a', items, W, hk⟩ := h
  exact ⟨ha.trans a', s₁.heap, v, items, own', ha.ext, a'.ext, W, hk, hs, hv⟩
theorem nl_sound (S : Snd prog w I B k C n) (F : Fs I B k A env nm h₀ P Kp va st own s.heap) {iter : Expr} {K : List D → List Str → Prop} (h : vcE C n nm iter st fun d => nlD d fun items => K items own) :
    wpAny (model prog w) A (eval iter env) (fun x s₁ => wpAny (model prog w) A (pyIter x) (Goes prog w I A va st own K s) E s₁) E s :=
  one S h F.fm fun v s₁ d a r F₁ q => by
    have Fs₁ := F.to a.ext
    have hd : itemsOf d (fun items => K items own) ∧ ∀ ds, d ≠ .list ds := by
      cases d with
      | tup ds => exact ⟨q, fun _ e => by cases e⟩
      | bytes l => exact ⟨q, fun _ e => by cases e⟩
      | _ => exact q.elim
    exact wpAny_mono (iter_sound (I := I) (K := fun items => K items own) F.sx.room.hd r hd.1) (fun it s₂ h₂ => Goes.of F a (fun _ h => h) (Fs₁.notList (rep_notList r hd.2)) h₂) fun _ _ x => x
theorem rng_sound (S : Snd prog w I B k C n) (H : CGood prog w I B mg mb C k) (F : Fs I B k A env nm h₀ P Kp va st own s.heap) {f : Str} {p pos : Pos} {arg : Expr} {K : List D → List Str → Prop} (hb : isRange C nm st f = true) (hs : noStar [arg] = true) (h : vcE C n nm arg st fun d => rangeN d fun items => K items own) :
    wpAny (model prog w) A (eval (.Call (.Name f p) [arg] [] pos) env) (fun x s₁ => wpAny (model prog w) A (pyIter x) (Goes prog w I A va st own K s) E s₁) E s := by
  refine Call_Name (trees_eq pos hs) (glob_sound H F.fm (globVC_is hb) fun v hv => ?_)
  cases hv
  refine PyProof.Rows.callWith_type trees_plain (wpAny_mono (evalArgs_sound S (es := [arg]) (Q := fun ds => oneVC ds fun d => rangeN d fun items => K items own) h F.fm) (fun a s₁ h₁ => ?_) fun _ _ x => x)
  obtain ⟨vs, rfl, ha, ds, r, q⟩ := h₁
  obtain ⟨v, d, rfl, r, q⟩ := oneVC.out q r
  cases d with
  | int i =>
    obtain ⟨t, rfl⟩ := r.inv
    refine wpAny_mono (range_sound (I := I) (K := fun items => K items own) F.sx.room.hd q.2.1 q.2.2 (lo := q.1)) (fun v s₂ h₂ => wpAny_mono h₂.2 (fun it s₃ h₃ => ?_) fun _ _ x => x) fun _ _ x => x
    obtain ⟨a', items, W, hk⟩ := h₃
    exact Goes.of F ha (fun _ h => h) (F.notList fun a vs (e : Value.none = _) => by cases e) ⟨a', items, W _, hk⟩
  | _ => exact q.elim

theorem without_out (F : Fs I B k A env nm h₀ P Kp va st own h) {y : Str} {d : D} {v : Value} (hd : st.lookup y = some d) (hv : va y = some v) (r : Rep h v d) : ∀ z ∈ without y own, ∀ ds, st.lookup z = some (.list ds) → va z ≠ some v := fun z hz ds e => by
  obtain ⟨hz, ne⟩ := mem_without hz
  by_cases hl : ∃ es, d = .list es
  · obtain ⟨es, rfl⟩ := hl
    obtain ⟨a, e1, _, _, e4⟩ := F.own z hz ds e
    intro q
    rw [e1] at q; cases q
    exact e4 y es (Ne.symm ne) hd hv
  · exact F.notList (rep_notList r fun ds e => hl ⟨ds, e⟩) z hz ds e

theorem rev_sound (H : CGood prog w I B mg mb C k) (F : Fs I B k A env nm h₀ P Kp va st own s.heap) {f y : Str} {p q pos : Pos} {ds : List D} {K : List D → List Str → Prop} (hb : isRev C nm st f = true) (hd : st.lookup y = some (.list ds)) (h : K ds.reverse (without y own)) :
    wpAny (model prog w) A (eval (.Call (.Name f p) [.Name y q] [] pos) env) (fun x s₁ => wpAny (model prog w) A (pyIter x) (Goes prog w I A va st own K s) E s₁) E s := by
  obtain ⟨_, _, v, hv, r⟩ := F.vars y _ hd
  have rr := r
  obtain ⟨a, vs, rfl, hl, rs⟩ := r.inv
  refine Call_Name (trees_eq pos rfl) (glob_sound H F.fm (globVC_is hb) fun g hg => ?_)
  cases hg
  refine PyProof.Rows.callWith_type trees_plain (evalArgs_plain (spliced_cons (F.name hd hv (spliced_nil ?_))))
  refine call_reversed_list hl.isList ?_
  have lt : a < s.heap.objs.size := let ⟨o, ho⟩ := hl; Heap.lt_size ho
  have hit : (s.heap.push (revObj a ((vs.toArray.size : Int) - 1))).IsRevIter s.heap.objs.size a ((vs.toArray.size : Int) - 1) := ⟨_, Heap.get?_push_size _ rfl, rfl, rfl⟩
  refine wpAny_pyIter_revIter hit ⟨.push _ _ s.toks, s.heap, .ref a, ds.reverse, _, .refl _, .push _ _, ?_, h, fun _ h => (mem_without h).1, without_out F hd hv rr⟩
  have W := Walks.listRev (prog := prog) (w := w) (A := A) F.sx.room.hd s.heap.objs.size a (Nat.ne_of_lt lt) vs.toArray
  have en : vs.toArray.size = ds.reverse.length := by rw [List.length_reverse, ← rs.length]; simp
  rw [en] at W
  have fresh : s.heap.get? s.heap.objs.size = none := Heap.get?_none_of_le (Nat.le_refl _)
  refine ⟨_, _, _, _, _, rfl, W, ⟨Nat.zero_le _, ?_, (Ext.push (I := I) _ _).isList hl.isList⟩, ?_, ?_, ?_, ?_, ?_, ?_⟩
  · rw [← en]; simpa using hit
  · intro b hb; exact push_lt ((mem2 hb).imp id fun e => by rw [e]; exact lt)
  · intro b hb; rw [mem1 hb]; exact fresh
  · rintro i h' ⟨_, ⟨o1, e1, c1, d1⟩, o2, e2, c2, n2, d2⟩ b hb
    rcases mem2 hb with rfl | rfl
    · exact ⟨o1, e1, ne_code c1 d1 (by simp [rawInt]), (fun v q => by rw [d1] at q; cases q), fun es ep q => by rw [d1] at q; cases q⟩
    · exact ⟨o2, e2, not_rec (fun vs q => by rw [d2] at q; cases q), (fun v q => by rw [d2] at q; cases q), fun es ep q => by rw [d2] at q; cases q⟩
  · rintro i h' ⟨_, ⟨o1, e1, c1, d1⟩, _⟩ b hb o ho
    rw [mem1 hb, e1] at ho; cases ho; exact ⟨_, d1⟩
  · intro b hb; exact (mem2 hb).imp (fun e => by rw [e]; exact fresh) fun e => by rw [e]
  · intro i v hi hv
    rw [← en] at hi hv
    have hi : i < vs.length := by simpa using hi
    have hv' : vs[vs.length - 1 - i]? = some v := by simpa using hv
    obtain ⟨d, e, rd⟩ := rs.get' hv'
    refine ⟨d, ?_, rd⟩
    have hlen := rs.length
    rw [List.getElem?_reverse (by (first | lia | omega)), ← hlen]
    exact e

theorem for_iter (S : Snd prog w I B k C n) (H : CGood prog w I B mg mb C k) (F : Fs I B k A env nm h₀ P Kp va st own s.heap) {iter : Expr} {K : List D → List Str → Prop} (h : forVC C nm st own (fun e K => vcE C n nm e st K) iter K) :
    wpAny (model prog w) A (eval iter env) (fun x s₁ => wpAny (model prog w) A (pyIter x) (Goes prog w I A va st own K s) E s₁) E s ∧ notSetB iter = true := by
  have other : (match call1 iter with
    | some p => iteP (isRev C nm st p.1) (nameIt st p.2 fun y d => listD d fun ds => K ds.reverse (without y own))
        (iteP (isRange C nm st p.1) (noStar [p.2] = true ∧ vcE C n nm p.2 st fun d => rangeN d fun items => K items own) (vcE C n nm iter st fun d => nlD d fun items => K items own))
    | none => vcE C n nm iter st fun d => nlD d fun items => K items own) → wpAny (model prog w) A (eval iter env) (fun x s₁ => wpAny (model prog w) A (pyIter x) (Goes prog w I A va st own K s) E s₁) E s ∧ notSetB iter = true := fun h => by
    cases e : call1 iter with
    | none => rw [e] at h; exact ⟨nl_sound S F h, vcE_notSet h⟩
    | some q =>
      rw [e] at h
      obtain ⟨f, a⟩ := q
      obtain ⟨p, pos, rfl⟩ := call1_out e
      refine ⟨?_, rfl⟩
      have h : iteP (isRev C nm st f) (nameIt st a fun y d => listD d fun ds => K ds.reverse (without y own))
        (iteP (isRange C nm st f) (noStar [a] = true ∧ vcE C n nm a st fun d => rangeN d fun items => K items own) (vcE C n nm (.Call (.Name f p) [a] [] pos) st fun d => nlD d fun items => K items own)) := h
      cases hb : isRev C nm st f with
      | true =>
        rw [hb] at h
        have h : nameIt st a fun y d => listD d fun ds => K ds.reverse (without y own) := h
        unfold nameIt at h
        have bk := view_back a
        generalize view a = av at h bk
        cases av with
        | name y q =>
          rw [← show Expr.Name y q = a from bk]
          cases hd : st.lookup y with
          | none => simp only [hd] at h
          | some d =>
            simp only [hd] at h
            cases d with
            | list ds => exact rev_sound H F hb hd h
            | _ => exact h.elim
        | _ => exact h.elim
      | false =>
        rw [hb] at h
        cases hr : isRange C nm st f with
        | true => rw [hr] at h; exact rng_sound S H F hr h.1 h.2
        | false => rw [hr] at h; exact nl_sound S F h
  unfold forVC at h
  have bk := view_back iter
  cases hv : view iter with
  | name y p =>
    rw [hv] at h bk
    have e : Expr.Name y p = iter := bk
    cases hd : st.lookup y with
    | none => simp only [hd] at h
    | some d =>
      simp only [hd] at h
      obtain ⟨_, _, v, hv, r⟩ := F.vars y d hd
      rw [← e]
      exact ⟨F.name hd hv (wpAny_mono (iter_sound (I := I) (K := fun items => K items (without y own)) F.sx.room.hd r h) (fun it s₂ h₂ => Goes.of F (.refl _) (fun _ h => (mem_without h).1) (without_out F hd hv r) h₂) fun _ _ x => x), rfl⟩
  | _ => rw [hv] at h; exact other h
end
end Mine
end

section -- M25
open PySem PySem.W PyProof.Rows
set_option Elab.async false
set_option linter.unusedVariables false
namespace Mine
open PySem.SeqAt PySem.Calls

section
variable {prog : Program} {w : World} {I : TInv} {B : Heap} {mg mb : Str → Option Value} {C : Cx} {k : Nat} {A : Around} {env : Env} {nm : Nm} {h₀ : Heap} {P : Addr → Prop} {Kp : Heap} {va : Va} {st : St} {own : List Str} {h h' : Heap} {s : Shared} {E : Value → Shared → Prop} {n : Nat}

noncomputable def OutK (h₀ : Heap) (K Bk : Kst) (R : D → Prop) (h' : Heap) (st : St) (own : List Str) (f : Flow) : Prop := match f with
  | .next => K st own
  | .brk => Bk st own
  | .cont => False
  | .ret v => ∃ d, Rep h' v d ∧ FreshV h₀ v d ∧ R d
inductive OutP (I : TInv) (B : Heap) (k : Nat) (A : Around) (env : Env) (nm : Nm) (h₀ : Heap) (P : Addr → Prop) (Kp : Heap) (K Bk : Kst) (R : D → Prop) (s : Shared) (f : Flow) (s' : Shared) : Prop
  | mk (h' : Heap) (tk : Nat) (va : Va) (st : St) (own : List Str) (e : s' = { s with heap := h', toks := tk }) (F : Fs I B k A env nm h₀ P Kp va st own h') (q : OutK h₀ K Bk R h' st own f)
theorem OutP.after {K Bk : Kst} {R : D → Prop} {f : Flow} {s₁ s' : Shared} (a : ∃ h' tk, s₁ = { s with heap := h', toks := tk }) (x : OutP I B k A env nm h₀ P Kp K Bk R s₁ f s') : OutP I B k A env nm h₀ P Kp K Bk R s f s' := by
  obtain ⟨h1, t1, rfl⟩ := a
  obtain ⟨h', tk, va, st, own, rfl, F, q⟩ := x
  exact ⟨h', tk, va, st, own, rfl, F, q⟩

noncomputable def BSnd (prog : Program) (w : World) (I : TInv) (B : Heap) (k : Nat) (C : Cx) (n : Nat) : Prop :=
  ∀ (nm : Nm) (ss : List Stmt) (st : St) (own : List Str) (K Bk : Kst) (R : D → Prop) (A : Around) (env : Env) (s : Shared) (E : Value → Shared → Prop) (h₀ : Heap) (P : Addr → Prop) (Kp : Heap) (va : Va),
    vcB C n nm ss st own K Bk R → Fs I B k A env nm h₀ P Kp va st own s.heap → wpAny (model prog w) A (execs ss env) (OutP I B k A env nm h₀ P Kp K Bk R s) E s

theorem Fs.moved (F : Fs I B k A env nm h₀ P Kp va st own h) {wr : List Addr} (hk : ∀ b o, b ∉ wr → h.get? b = some o → h'.get? b = some o) (hw : ∀ b ∈ wr, ∀ o, h.get? b = some o → (∃ vs, o.data = .fields vs) ∧ PinOK o)
    (h0 : ∀ b ∈ wr, h₀.get? b = none) (hP : ∀ b ∈ wr, ¬ P b) : Fs I B k A env nm h₀ P Kp va st own h' := by
  have get : ∀ {a : Addr} {o : Obj}, h.get? a = some o → (∀ vs, o.data ≠ .fields vs) → h'.get? a = some o := fun {a o} e nf => hk a o (fun q => by obtain ⟨⟨vs, d⟩, _⟩ := hw a q o e; exact nf vs d) e
  have tup : ∀ a vs, h.IsTuple a vs → h'.IsTuple a vs := fun a vs ⟨o, e, c, k, d⟩ => ⟨o, get e (fun _ q => by rw [d] at q; cases q), c, k, d⟩
  have rep : ∀ {v : Value} {d : D}, Flat d → Rep h v d → Rep h' v d := fun {v d} f r => by
    rcases f with f | ⟨ds, rfl, f⟩ | ⟨g, rfl⟩
    · exact r.lf_keep tup f
    · obtain ⟨a, vs, rfl, ⟨k, e⟩, rs⟩ := r.inv
      exact .list ⟨k, get e (fun _ q => by cases q)⟩ (rs.lf_keep tup f)
    · obtain ⟨rfl, o, fd, hg, hd⟩ := r.inv
      exact .clo (get hg (fun _ q => by rw [hd] at q; cases q)) hd
  refine ⟨F.sx, ?_, ?_, ?_, ⟨?_, fun x c hk' hc => ?_⟩, fun x d e => ?_, fun a p => ?_, F.own⟩
  · exact I.keeps h h' (fun a o e t => hk a o (fun q => (hw a q o e).2.1 t) e) F.tab
  · obtain ⟨fr, e, g, _⟩ := F.fr
    refine ⟨fr, e, g.of (fun b o es ep e d => ⟨o, es, ep, get e (fun _ q => by rw [d] at q; cases q), d⟩), F.sx.low.ext (F.ext.but wr h0 (fun a ha o e => (hw a ha o e).2.1) hk)⟩
  · exact F.ext.but wr h0 (fun a ha o e => (hw a ha o e).2.1) hk
  · obtain ⟨m', n', e⟩ := F.fh.ns
    obtain ⟨o, es, ep, ho, hd, r⟩ := n'
    exact ⟨m', ⟨o, es, ep, get ho (fun _ q => by rw [hd] at q; cases q), hd, r⟩, e⟩
  · obtain ⟨o, e, d⟩ := F.fh.cl x c hk' hc
    exact ⟨o, get e (fun _ q => by rw [d] at q; cases q), d⟩
  · obtain ⟨f, q, v, hv, r⟩ := F.vars x d e
    exact ⟨f, q, v, hv, rep f r⟩
  · obtain ⟨o, e1, e2, e3⟩ := F.pk a p
    exact ⟨o, e1, hk a o (fun q => hP a q p) e2, e3⟩

theorem Fs.pin (F : Fs I B k A env nm h₀ P Kp va st own h) {S : Addr → Prop} (hp : ∀ b, S b → ∃ o, h.get? b = some o ∧ PinOK o) (ho : ∀ y ∈ own, ∀ ds, st.lookup y = some (.list ds) → ∀ b, S b → va y ≠ some (.ref b)) :
    Fs I B k A env nm h₀ (fun a => P a ∨ S a) h va st own h := by
  refine ⟨F.sx, F.tab, F.fr, F.ext, F.fh, F.vars, fun a p => ?_, fun y hy ds e => ?_⟩
  · rcases p with p | p
    · obtain ⟨o, e1, e2, e3⟩ := F.pk a p
      exact ⟨o, e2, e2, e3⟩
    · obtain ⟨o, e, q1, q2, q3⟩ := hp a p
      exact ⟨o, e, e, fun t => q1 (.inl t), q2, q3⟩
  · obtain ⟨a, e1, e2, e3, e4⟩ := F.own y hy ds e
    exact ⟨a, e1, e2, fun q => q.elim e3 fun q => ho y hy ds e a q e1, e4⟩
theorem Fs.unpin {h₁ : Heap} {va₁ : Va} {st₁ : St} {own₁ : List Str} (F₁ : Fs I B k A env nm h₀ P Kp va₁ st₁ own₁ h₁) {S : Addr → Prop} (F : Fs I B k A env nm h₀ (fun a => P a ∨ S a) h₁ va st own h) :
    Fs I B k A env nm h₀ P Kp va st own h ∧ (∀ y ∈ own, ∀ ds, st.lookup y = some (.list ds) → ∀ b, S b → va y ≠ some (.ref b)) ∧ ∀ b, S b → ∀ o, h₁.get? b = some o → h.get? b = some o := by
  refine ⟨⟨F.sx, F.tab, F.fr, F.ext, F.fh, F.vars, fun a p => ?_, fun y hy ds e => ?_⟩, fun y hy ds e b hb q => ?_, fun b hb o e => ?_⟩
  · obtain ⟨o, e1, e2, e3⟩ := F.pk a (.inl p)
    obtain ⟨o', f1, f2, f3⟩ := F₁.pk a p
    rw [e1] at f2; cases f2
    exact ⟨o, f1, e2, e3⟩
  · obtain ⟨a, e1, e2, e3, e4⟩ := F.own y hy ds e
    exact ⟨a, e1, e2, fun q => e3 (.inl q), e4⟩
  · obtain ⟨a, e1, e2, e3, e4⟩ := F.own y hy ds e
    rw [e1] at q; cases q
    exact e3 (.inr hb)
  · obtain ⟨o', e1, e2, _⟩ := F.pk b (.inr hb)
    rw [e] at e1; cases e1; exact e2

theorem Fs.sub {h : Heap} (F : Fs I B k A env nm h₀ P Kp va st own h) {st' : St} (q : SubSt st' st) : Fs I B k A env nm h₀ P Kp va st' own h := by
  refine ⟨F.sx, F.tab, F.fr, F.ext, F.fh, fun x d e => F.vars x d (q x d e), F.pk, fun x hx ds e => ?_⟩
  obtain ⟨a, e1, e2, e3, e4⟩ := F.own x hx ds (q x _ e)
  exact ⟨a, e1, e2, e3, fun y es ne e' => e4 y es ne (q y _ e')⟩

inductive FoI (I : TInv) (B : Heap) (k : Nat) (A : Around) (env : Env) (nm : Nm) (h₀ : Heap) (P : Addr → Prop) (Kp : Heap) (s : Shared) (items : List D) (Inv : List D → Kst) (fp : List Addr) (h₁ : Heap) (St' : Nat → Heap → Prop) (q : Nat) (s' : Shared) : Prop
  | mk (h' : Heap) (tk : Nat) (va : Va) (st : St) (ow : List Str) (i : Nat) (e : s' = { s with heap := h', toks := tk }) (ht : St' i h') (F : Fs I B k A env nm h₀ P Kp va st ow h') (inv : Inv (items.drop i) st ow)
    (ne : ∀ y ∈ ow, ∀ ds, st.lookup y = some (.list ds) → ∀ b ∈ fp, va y ≠ some (.ref b)) (tup : ∀ a vs, h₁.IsTuple a vs → h'.IsTuple a vs) (le : i ≤ items.length) (eq : q = items.length + 1 - i)

theorem for_loop (T : BSnd prog w I B k C n) (F : Fs I B k A env nm h₀ P Kp va st own s.heap) {x : Str} {px : Pos} {body : List Stmt} (ha_ : asg1 nm x = true) {Inv : List D → Kst} {Kg : List D → List Str → Prop} {it : Value} {s₂ : Shared} {Bk' : Kst} {R : D → Prop} {RR : Result → Shared → Prop}
    (hG : Goes prog w I A va st own Kg s it s₂)
    (hKg : ∀ items own', Kg items own' → D.lfs items = true ∧ up (Inv items) st own')
    (hbody : ∀ d r st₁ ow₁, Inv (d :: r) st₁ ow₁ → vcB C n nm body ((x, d) :: st₁) (without x ow₁) (up (Inv r)) Bk' R)
    (hnext : ∀ h' tk va st own, Fs I B k A env nm h₀ P Kp va st own h' → Inv [] st own → RR (.ok .next) { s with heap := h', toks := tk })
    (hbrk : ∀ h' tk va st own, Fs I B k A env nm h₀ P Kp va st own h' → Bk' st own → RR (.ok .next) { s with heap := h', toks := tk })
    (hret : ∀ h' tk va st own v d, Fs I B k A env nm h₀ P Kp va st own h' → Rep h' v d → FreshV h₀ v d → R d → RR (.ok (.ret v)) { s with heap := h', toks := tk }) :
    codeAny (model prog w) A (.forLoop (.Name x px) it body [] env) RR s₂ := by
  obtain ⟨aft, h₁, src, items, own', x₁, x₂, W₀, hk, hsub, hsrc⟩ := hG
  obtain ⟨lfi, st0, sub0, hinv⟩ := hKg _ _ hk
  obtain ⟨Ia, fp, wr, Pw, St', rfl, W, hst, hfp, hwr, hrec, hnt, hfs, hP⟩ := W₀
  obtain ⟨hh, tk0, rfl, _⟩ := aft
  have F₁ : Fs I B k A env nm h₀ P Kp va st own h₁ := F.to x₁
  have F₂ : Fs I B k A env nm h₀ P Kp va st own' hh := by
    have F₂ := F₁.to x₂
    exact ⟨F₂.sx, F₂.tab, F₂.fr, F₂.ext, F₂.fh, F₂.vars, F₂.pk, fun y hy => F₂.own y (hsub y hy)⟩
  have own0 : ∀ y ∈ own', ∀ ds, st.lookup y = some (.list ds) → ∀ b ∈ fp, va y ≠ some (.ref b) := fun y hy ds e b hb q => by
    rcases hfs b hb with f | f
    · exact F₁.live e q f
    · exact hsrc y hy ds e (f ▸ q)
  have h0wr : ∀ b ∈ wr, h₀.get? b = none := fun b hb => F₁.ext.fresh (hwr b hb)
  have hPwr : ∀ b ∈ wr, ¬ P b := fun b hb p => by
    obtain ⟨o, _, e, _⟩ := F₁.pk b p
    rw [hwr b hb] at e; cases e
  refine codeAny_forLoop (FoI I B k A env nm h₀ P Kp s items Inv fp h₁ St') ?_ (items.length + 1)
    ⟨hh, tk0, va, st0, own', 0, rfl, hst, F₂.sub sub0, by simpa using hinv, (fun y hy ds e => own0 y hy ds (sub0 y _ e)), fun _ _ t => x₂.isTuple t, Nat.zero_le _, rfl⟩
  rintro q s' ⟨H, tk, va₁, st₁, ow, i, rfl, hst', F', hin, hown, htup, hi, rfl⟩
  have mv : ∀ ha : Heap, (∀ b o, b ∉ wr → H.get? b = some o → ha.get? b = some o) → Fs I B k A env nm h₀ P Kp va₁ st₁ ow ha ∧ (∀ a vs, H.IsTuple a vs → ha.IsTuple a vs) := fun ha hka =>
    ⟨F'.moved hka (fun b hb o e => ⟨hnt i H hst' b hb o e, pinAt (hrec i H hst' b (W.sub b hb)) e⟩) h0wr hPwr, but_tuple hka fun b hb => notTup (hnt i H hst' b hb)⟩
  by_cases hlt : i < items.length
  · refine W.item i _ _ _ hlt hst' fun v ha tka hPv hsta hka => ?_
    obtain ⟨Fa, ta⟩ := mv ha hka
    obtain ⟨d, hd, rd₁⟩ := hP i v hlt hPv
    have lfd : d.lf = true := lfs_iff.mp lfi d (List.mem_of_getElem? hd)
    have rd : Rep ha v d := rd₁.lf_keep (fun a vs t => ta a vs (htup a vs t)) lfd
    have hdrop : items.drop i = d :: items.drop (i + 1) := by
      obtain ⟨h1, h2⟩ := List.getElem?_eq_some_iff.mp hd
      rw [List.drop_eq_getElem_cons h1, h2]
    rw [hdrop] at hin
    have Fp := Fa.pin (S := fun b => b ∈ fp ∨ ∃ vs, ha.IsTuple b vs) (fun b hb => by
      rcases hb with hb | ⟨vs, o, e, _, kk, hd⟩
      · exact hrec (i + 1) ha hsta b hb
      · exact ⟨o, e, not_rec (fun vs q => by rw [hd] at q; cases q), (fun v q => by rw [hd] at q; cases q), fun es ep q => by rw [hd] at q; cases q⟩) (fun y hy ds e b hb q => by
      rcases hb with hb | ⟨vs, ht⟩
      · exact hown y hy ds e b hb q
      · obtain ⟨_, _, v', hv', r⟩ := Fa.vars y _ e
        rw [q] at hv'; cases hv'
        obtain ⟨a, ws, e, hl, _⟩ := r.inv
        cases e
        exact list_ne_tuple hl.isList ht)
    refine PySem.wpAny_assign_Name (store_sound Fp (asg1_kind ha_) rd (.inl lfd) (fun e => by rw [lfd] at e; cases e) fun h₃ tk₃ F₃ _ _ _ _ => ?_)
    rw [lfd] at F₃
    have F₃ : Fs I B k A env nm h₀ (fun a => P a ∨ (a ∈ fp ∨ ∃ vs, ha.IsTuple a vs)) ha (upd va₁ x v) ((x, d) :: st₁) (without x ow) h₃ := F₃
    refine wpAny_mono (T nm body _ _ _ _ _ A env { s with heap := h₃, toks := tk₃ } _ h₀ _ ha _ (hbody d _ st₁ ow hin) F₃) (fun f s₄ h₄ => ?_) fun _ _ x => x
    obtain ⟨h₅, tk₅, va₅, st₅, ow₅, rfl, F₅, hf⟩ := h₄
    obtain ⟨F₆, own₆, keep₆⟩ := Fa.unpin F₅
    cases f with
    | next => obtain ⟨st₆, sub₆, hf⟩ := hf; exact ⟨items.length + 1 - (i + 1), by (first | lia | omega), h₅, tk₅, va₅, st₆, ow₅, i + 1, rfl, W.frame _ _ _ hsta fun b hb o e => keep₆ b (.inl hb) o e, F₆.sub sub₆, hf, fun y hy ds e b hb => own₆ y hy ds (sub₆ y _ e) b (.inl hb), fun a vs t => by
        have t' := ta a vs (htup a vs t)
        obtain ⟨o, e, r⟩ := id t'
        exact ⟨o, keep₆ a (.inr ⟨vs, t'⟩) o e, r⟩, hlt, rfl⟩
    | brk => exact hbrk _ _ _ _ _ F₆ hf
    | cont => exact hf.elim
    | ret u => obtain ⟨d', q1, q2, q3⟩ := hf; exact hret _ _ _ _ _ _ _ F₆ q1 q2 q3
  · have hin' : i = items.length := by (first | lia | omega)
    subst hin'
    refine W.done _ _ _ hst' fun ha tka hka => ?_
    obtain ⟨Fa, ta⟩ := mv ha hka
    rw [List.drop_eq_nil_of_le (Nat.le_refl _)] at hin
    exact wpAny_execs_nil (hnext _ _ _ _ _ Fa hin)
end
end Mine
end

section -- M26
open PySem PySem.W PyProof.Rows
set_option Elab.async false
set_option linter.unusedVariables false
namespace Mine
open PySem.SeqAt PySem.Calls

section
variable {prog : Program} {w : World} {I : TInv} {B : Heap} {mg mb : Str → Option Value} {C : Cx} {k : Nat} {A : Around} {env : Env} {nm : Nm} {h₀ : Heap} {P : Addr → Prop} {Kp : Heap} {va : Va} {st : St} {own : List Str} {h h' : Heap} {s : Shared} {E : Value → Shared → Prop} {n : Nat}

noncomputable def TSnd (prog : Program) (w : World) (I : TInv) (B : Heap) (k : Nat) (C : Cx) (n : Nat) : Prop :=
  ∀ (nm : Nm) (body : List Stmt) (hs : List ExceptHandler) (o f : List Stmt) (p : Pos) (rest : List Stmt) (st : St) (own : List Str) (K Bk : Kst) (R : D → Prop) (A : Around) (env : Env) (s : Shared) (E : Value → Shared → Prop) (h₀ : Heap) (P : Addr → Prop) (Kp : Heap) (va : Va),
    vcB C (n + 1) nm (.Try body hs o f p :: rest) st own K Bk R → Fs I B k A env nm h₀ P Kp va st own s.heap → wpAny (model prog w) A (execs (.Try body hs o f p :: rest) env) (OutP I B k A env nm h₀ P Kp K Bk R s) E s

theorem cons_next (T : BSnd prog w I B k C n) {stm : Stmt} {rest : List Stmt} {K Bk : Kst} {R : D → Prop} {K' : Kst} (h : wpAny (model prog w) A (exec stm env) (Nx I B k A env nm h₀ P Kp K' s) E s)
    (hr : ∀ st ow, K' st ow → vcB C n nm rest st ow K Bk R) : wpAny (model prog w) A (execs (stm :: rest) env) (OutP I B k A env nm h₀ P Kp K Bk R s) E s := by
  refine wpAny_execs_cons (wpAny_mono h (fun f s₁ h₁ => ?_) fun _ _ x => x)
  obtain ⟨rfl, h', tk, va, st, own, rfl, F, q⟩ := h₁
  exact wpAny_mono (T nm rest st own K Bk R A env { s with heap := h', toks := tk } E h₀ P Kp va (hr _ _ q) F) (fun f s₂ h₂ => OutP.after ⟨h', tk, rfl⟩ h₂) fun _ _ x => x

theorem cons_out (T : BSnd prog w I B k C n) {stm : Stmt} {rest : List Stmt} {K Bk : Kst} {R : D → Prop} (h : wpAny (model prog w) A (exec stm env) (OutP I B k A env nm h₀ P Kp (fun st ow => vcB C n nm rest st ow K Bk R) Bk R s) E s) :
    wpAny (model prog w) A (execs (stm :: rest) env) (OutP I B k A env nm h₀ P Kp K Bk R s) E s := by
  refine wpAny_execs_cons (wpAny_mono h (fun f s₁ h₁ => ?_) fun _ _ x => x)
  obtain ⟨h', tk, va, st, own, rfl, F, q⟩ := h₁
  cases f with
  | next => exact wpAny_mono (T nm rest st own K Bk R A env { s with heap := h', toks := tk } E h₀ P Kp va q F) (fun f s₂ h₂ => OutP.after ⟨h', tk, rfl⟩ h₂) fun _ _ x => x
  | brk => exact ⟨h', tk, va, st, own, rfl, F, q⟩
  | cont => exact q.elim
  | ret v => exact ⟨h', tk, va, st, own, rfl, F, q⟩

theorem Fs.fresh (F : Fs I B k A env nm h₀ P Kp va st own h) {v : Value} {d : D} (f : FreshV h v d) : FreshV h₀ v d := f.ext F.ext
theorem Fs.interactive (F : Fs I B k A env nm h₀ P Kp va st own h) : interactive env = false := by simp [PySem.interactive, F.sx.kind]

theorem ret_expr (S : Snd prog w I B k C n) (F : Fs I B k A env nm h₀ P Kp va st own s.heap) {e : Expr} {p : Pos} {K Bk : Kst} {R : D → Prop} (h : vcE C n nm e st fun d => (d.lf || freshE e) = true ∧ R d) :
    wpAny (model prog w) A (exec (.Return (some e) p) env) (OutP I B k A env nm h₀ P Kp K Bk R s) E s := by
  refine wpAny_Return_some (wpAny_mono (S.1 nm e st _ A env s E h F.fm) (fun v s₁ h₁ => ?_) fun _ _ x => x)
  obtain ⟨a, d, r, fr, q1, q2⟩ := h₁.out
  have F₁ := F.to a.ext
  obtain ⟨h', tk, rfl, x⟩ := a
  refine ⟨h', tk, va, st, own, rfl, F₁, d, r, ?_, q2⟩
  cases hl : d.lf with
  | true => exact .inl hl
  | false =>
    rw [hl] at q1
    exact F.fresh (fr (by simpa using q1))

theorem swaps_other {value : Expr} {t : Option Expr} {l : Nat} (h : ∀ elt gens sc p, value ≠ .ListComp elt gens sc p) (hc : compKind value = false) : swapsWith value t l env = pure false := by
  cases value <;> first | rfl | exact (h _ _ _ _ rfl).elim | cases hc
theorem listcomp_inv {elt : Expr} {gens : List Comprehension} {scope : Scope} {vpos : Pos} {Q : D → Prop} (h : vcE C n nm (.ListComp elt gens scope vpos) st Q) : ∃ m x px iter ifs, n = m + 1 ∧ gens = [⟨.Name x px, iter, ifs, 0⟩] ∧ compOK nm st scope x = true ∧
    iterVC C nm st (fun e K => vcE C m nm e st K) iter fun items => items.length ≤ 10000 ∧ compVC (fun d K => vcE C m (relN nm scope.names) elt (compSt st scope x d) K) (testVC C m nm st scope x ifs) items [] fun ds => Q (.list ds) := by
  cases n with
  | zero => exact h.elim
  | succ m => cases gens with
    | nil => exact h.elim
    | cons g gs => cases gs with
      | nil =>
        obtain ⟨t, iter, ifs, ia⟩ := g
        cases t with
        | Name x px =>
          obtain ⟨h1, h2⟩ := h
          obtain ⟨ok, e⟩ := (Bool.and_eq_true ..).mp h1
          have e : ia = 0 := by simpa using e
          subst e
          exact ⟨m, x, px, iter, ifs, rfl, rfl, ok, h2⟩
        | _ => exact h.elim
      | cons => exact h.elim
theorem assign_any (S : Snd prog w I B k C n) (H : CGood prog w I B mg mb C k) (F : Fs I B k A env nm h₀ P Kp va st own s.heap) {x : Str} {p pos : Pos} {value : Expr} {K : Kst} (ha : asg1 nm x = true) (hc : compKind value = false)
    (h : vcE C n nm value st fun d => storB value d = true ∧ K ((x, d) :: st) (withOwn (!d.lf) x own)) : wpAny (model prog w) A (exec (.Assign [.Name x p] value pos) env) (Nx I B k A env nm h₀ P Kp K s) E s := by
  by_cases hl : ∃ elt gens scope vpos, value = .ListComp elt gens scope vpos
  · obtain ⟨elt, gens, scope, vpos, rfl⟩ := hl
    cases hb : (env.blockKind == .function && env.kindOf x == some .local && p.line == vpos.line && !(scope.names.any fun (n, k) => n == x && (k == .local || k == .cell))) with
    | false => exact assign_one S F ha (by show pure _ = pure _; exact congrArg pure hb) h
    | true =>
      have hs : swapsWith (.ListComp elt gens scope vpos) (some (.Name x p)) pos.line env = pure true := by show pure _ = pure _; exact congrArg pure hb
      obtain ⟨m, y, py, iter, ifs, rfl, rfl, h1, h2⟩ := listcomp_inv h
      exact assign_swap (snd_all H m) H F ha hs h1 h2 fun ds q => q.2
  · exact assign_one S F ha (swaps_other (fun elt gens sc p e => hl ⟨_, _, _, _, e⟩) hc) h

section
variable {rest : List Stmt} {K Bk : Kst} {R : D → Prop}
theorem ret_sound (S : Snd prog w I B k C n) (F : Fs I B k A env nm h₀ P Kp va st own s.heap) {e : Option Expr} {p : Pos} (h : retVC st own (fun v K => vcE C n nm v st K) e R) :
    wpAny (model prog w) A (exec (.Return e p) env) (OutP I B k A env nm h₀ P Kp K Bk R s) E s := by
  cases e with
  | none => exact wpAny_Return_none ⟨s.heap, s.toks, va, st, own, rfl, F, .none, .none, .inl rfl, h⟩
  | some e =>
    unfold retVC at h
    have bk := view_back e
    cases hv : view e with
    | name x xp =>
      rw [hv] at bk
      cases hd : st.lookup x with
      | none => simp only [hv, hd] at h; exact ret_expr S F h
      | some d =>
        simp only [hv, hd] at h
        rw [← show Expr.Name x xp = e from bk]
        obtain ⟨q1, q2⟩ := h
        obtain ⟨hf, _, v, hv, r⟩ := F.vars x d hd
        refine wpAny_Return_some (F.name hd hv ⟨s.heap, s.toks, va, st, own, rfl, F, d, r, ?_, q2⟩)
        rcases hf with q | ⟨ds, rfl, _⟩ | ⟨g, rfl⟩
        · exact .inl q
        · obtain ⟨a, e1, e2, _⟩ := F.own x (by simpa [retB] using q1) ds hd
          rw [hv] at e1; cases e1
          exact .inr ⟨a, rfl, e2⟩
        · cases q1
    | _ => simp only [hv] at h; exact ret_expr S F h
theorem asg_sound (T : BSnd prog w I B k C n) (S : Snd prog w I B k C n) (H : CGood prog w I B mg mb C k) (F : Fs I B k A env nm h₀ P Kp va st own s.heap) {t value : Expr} {ap : Pos} (h : asgVC nm st own (fun v K => vcE C n nm v st K) t value fun st ow => vcB C n nm rest st ow K Bk R) :
    wpAny (model prog w) A (execs (.Assign [t] value ap :: rest) env) (OutP I B k A env nm h₀ P Kp K Bk R s) E s := by
  unfold asgVC at h
  have bk := view_back t
  generalize view t = tv at h bk
  cases tv with
  | name x p =>
    rw [← show Expr.Name x p = t from bk]
    obtain ⟨ho, h⟩ := ifB_out h
    obtain ⟨h1, h2⟩ := (Bool.and_eq_true ..).mp ho
    exact cons_next T (assign_any (K := fun st ow => vcB C n nm rest st ow K Bk R) S H F h1 (by simpa using h2) h) fun _ _ q => q
  | tup ts kk tp =>
    rw [← show Expr.Tuple ts kk tp = t from bk]
    dsimp only at h
    have other : isTupleB value = false → ifB (!compKind value) (vcE C n nm value st fun d => tgtVC nm st own (.Tuple ts 0 default) d fun st ow => vcB C n nm rest st ow K Bk R) →
        wpAny (model prog w) A (execs (.Assign [.Tuple ts kk tp] value ap :: rest) env) (OutP I B k A env nm h₀ P Kp K Bk R s) E s := fun hv h =>
      cons_next T (assign_tup_sound (K := fun st ow => vcB C n nm rest st ow K Bk R) S F hv (ifB_out h).2) fun _ _ q => q
    have bv := view_back value
    cases hv : view value with
    | tup es kv vp =>
      rw [hv] at h bv
      rw [← show Expr.Tuple es kv vp = value from bv]
      have h : dispVC nm st own (fun v K => vcE C n nm v st K) ts es fun st ow => vcB C n nm rest st ow K Bk R := h
      unfold dispVC at h
      cases hx : namesOf ts with
      | none => rw [hx] at h; exact h.elim
      | some xs =>
        cases hw : swB nm ts es with
        | none => simp only [hx, hw] at h
        | some sw =>
          simp only [hx, hw] at h
          obtain ⟨ho, h⟩ := ifB_out h
          obtain ⟨h1, h2⟩ := (Bool.and_eq_true ..).mp ho
          exact cons_next T (display_sound (K := fun st ow => vcB C n nm rest st ow K Bk R) S F hx hw h1 h2 h) fun _ _ q => q
    | _ => rw [hv] at h; exact other (by unfold isTupleB; rw [hv]) h
  | _ => exact h.elim
theorem expr_sound (T : BSnd prog w I B k C n) (S : Snd prog w I B k C n) (F : Fs I B k A env nm h₀ P Kp va st own s.heap) {e : Expr} {pos : Pos} (h : exprVC st own (fun v K => vcE C n nm v st K) e fun st ow => vcB C n nm rest st ow K Bk R) :
    wpAny (model prog w) A (execs (.Expr e pos :: rest) env) (OutP I B k A env nm h₀ P Kp K Bk R s) E s := by
  unfold exprVC at h
  cases hm : meth? e with
  | none => rw [hm] at h; exact h.elim
  | some q =>
    simp only [hm] at h
    obtain ⟨xp, apos, cpos, rfl, hl⟩ := meth?_out hm
    obtain ⟨ho, h⟩ := ifB_out h
    cases hd : st.lookup q.1 with
    | none => simp only [hd] at h
    | some d =>
      simp only [hd] at h
      cases d with
      | list ds => exact cons_next T (mut_sound (K := fun st ow => vcB C n nm rest st ow K Bk R) S F (by simpa using ho) hl hd h F.interactive) fun _ _ q => q
      | _ => exact h.elim
theorem if_sound (T : BSnd prog w I B k C n) (S : Snd prog w I B k C n) (F : Fs I B k A env nm h₀ P Kp va st own s.heap) {test : Expr} {body orelse : List Stmt} {ip : Pos} {K : Kst}
    (h : vcT C n nm test st fun b => iteP b (vcB C n nm body st own K Bk R) (vcB C n nm orelse st own K Bk R)) :
    wpAny (model prog w) A (exec (.If test body orelse ip) env) (OutP I B k A env nm h₀ P Kp K Bk R s) E s := by
  refine wpAny_If (wpAny_mono (S.2 nm test st _ A env s E h F.fm) (fun b s₁ h₁ => ?_) fun _ _ x => x)
  obtain ⟨a, q⟩ := h₁
  have F₁ := F.to a.ext
  obtain ⟨h', tk, rfl, x⟩ := a
  cases b with
  | true => exact wpAny_mono (T nm body st own _ Bk R A env { s with heap := h', toks := tk } E h₀ P Kp va q F₁) (fun f s₂ h₂ => OutP.after ⟨h', tk, rfl⟩ h₂) fun _ _ x => x
  | false => exact wpAny_mono (T nm orelse st own _ Bk R A env { s with heap := h', toks := tk } E h₀ P Kp va q F₁) (fun f s₂ h₂ => OutP.after ⟨h', tk, rfl⟩ h₂) fun _ _ x => x
theorem for_sound (T : BSnd prog w I B k C n) (S : Snd prog w I B k C n) (H : CGood prog w I B mg mb C k) (F : Fs I B k A env nm h₀ P Kp va st own s.heap) {x : Str} {xp fp : Pos} {iter : Expr} {body : List Stmt} (ho : asg1 nm x = true)
    (h : forVC C nm st own (fun e K => vcE C n nm e st K) iter fun items ow' => D.lfs items = true ∧ ∃ Inv : List D → Kst, up (Inv items) st ow' ∧
          (∀ d r st₁ ow₁, Inv (d :: r) st₁ ow₁ → vcB C n nm body ((x, d) :: st₁) (without x ow₁) (up (Inv r)) (fun st ow => vcB C n nm rest st ow K Bk R) R) ∧
          ∀ st₁ ow₁, Inv [] st₁ ow₁ → vcB C n nm rest st₁ ow₁ K Bk R) :
    wpAny (model prog w) A (exec (.For (.Name x xp) iter body [] fp) env) (OutP I B k A env nm h₀ P Kp (fun st ow => vcB C n nm rest st ow K Bk R) Bk R s) E s := by
  have fi := for_iter (E := E) S H F h
  refine wpAny_For (wpAny_mono fi.1 (fun v s₁ h₁ => wpAny_mono h₁ (fun it s₂ hG => ?_) fun _ _ x => x) fun _ _ x => x) (foldedNot fi.2 env)
  obtain ⟨aft, h₁, src, items, own', x₁, x₂, W, ⟨lf, Inv, i0, ib, ie⟩, hsub, hsrc⟩ := hG
  exact for_loop T F (Kg := fun it ow => it = items ∧ ow = own') (Inv := Inv) (R := R) ho ⟨aft, h₁, src, items, own', x₁, x₂, W, ⟨rfl, rfl⟩, hsub, hsrc⟩ (fun _ _ e => by rw [e.1, e.2]; exact ⟨lf, i0⟩) ib
    (fun h' tk va st own F' q => ⟨h', tk, va, st, own, rfl, F', ie _ _ q⟩) (fun h' tk va st own F' q => ⟨h', tk, va, st, own, rfl, F', q⟩) fun h' tk va st own v d F' r f q => ⟨h', tk, va, st, own, rfl, F', d, r, f, q⟩
inductive WhI (I : TInv) (B : Heap) (k : Nat) (A : Around) (env : Env) (nm : Nm) (h₀ : Heap) (P : Addr → Prop) (Kp : Heap) (Inv : Nat → Kst) (s : Shared) (q : Nat) : Shared → Prop
  | mk {h' : Heap} {tk : Nat} {va : Va} {st : St} {ow : List Str} (F : Fs I B k A env nm h₀ P Kp va st ow h') (i : Inv q st ow) : WhI I B k A env nm h₀ P Kp Inv s q { s with heap := h', toks := tk }
theorem while_sound (T : BSnd prog w I B k C n) (S : Snd prog w I B k C n) (F : Fs I B k A env nm h₀ P Kp va st own s.heap) {test : Expr} {body : List Stmt} {wp : Pos} {K : Kst}
    (h : ∃ Inv : Nat → Kst, (∃ m, up (Inv m) st own) ∧ ∀ m st₁ ow₁, Inv m st₁ ow₁ → vcT C n nm test st₁ fun b => iteP b
          (vcB C n nm body st₁ ow₁ (fun st₂ ow₂ => ∃ m', m' < m ∧ up (Inv m') st₂ ow₂) K R) (K st₁ ow₁)) :
    wpAny (model prog w) A (exec (.While test body [] wp) env) (OutP I B k A env nm h₀ P Kp K Bk R s) E s := by
  obtain ⟨Inv, ⟨q0, st0, sub0, i0⟩, hst⟩ := h
  refine wpAny_While (codeAny_whileLoop (WhI I B k A env nm h₀ P Kp Inv s) ?_ q0 (.mk (F.sub sub0) i0))
  intro q s' hw
  cases hw with | @mk h' tk va' st' ow' F' hi =>
  refine wpAny_mono (S.2 nm test st' _ A env { s with heap := h', toks := tk } _ (hst q st' ow' hi) F'.fm) (fun b s₁ h₁ => ?_) fun _ _ x => x
  obtain ⟨a, hq⟩ := h₁
  have F₁ := F'.to a.ext
  obtain ⟨h₂, tk₂, rfl, x⟩ := a
  cases b with
  | false => exact wpAny_execs_nil ⟨h₂, tk₂, va', st', ow', rfl, F₁, hq⟩
  | true =>
    refine wpAny_mono (T nm body st' ow' _ _ R A env { s with heap := h₂, toks := tk₂ } _ h₀ P Kp va' hq F₁) (fun f s₃ h₃ => ?_) fun _ _ x => x
    obtain ⟨h₄, tk₄, va₄, st₄, ow₄, rfl, F₄, hf⟩ := h₃
    cases f with
    | next => obtain ⟨m', lt, st₅, sub₅, im⟩ := hf; exact ⟨m', lt, .mk (F₄.sub sub₅) im⟩
    | brk => exact ⟨h₄, tk₄, va₄, st₄, ow₄, rfl, F₄, hf⟩
    | cont => exact hf.elim
    | ret v => exact ⟨h₄, tk₄, va₄, st₄, ow₄, rfl, F₄, hf⟩
end
theorem stm_one (H : CGood prog w I B mg mb C k) (HT : TSnd prog w I B k C n) (T : BSnd prog w I B k C n) : BSnd prog w I B k C (n + 1) := fun nm ss st own K Bk R A env s E h₀ P Kp va h F => by
  have S := snd_all H n (prog := prog) (w := w) (I := I) (B := B)
  cases ss with
  | nil => exact wpAny_execs_nil ⟨s.heap, s.toks, va, st, own, rfl, F, h⟩
  | cons s1 rest => cases s1 with
    | Return e p => exact cons_out T (ret_sound S F h)
    | Break => exact cons_out T (wpAny_Break ⟨s.heap, s.toks, va, st, own, rfl, F, h⟩)
    | If => exact cons_out T (if_sound T S F h)
    | Assign ts value ap =>
      have h : (match one? ts with
        | some t => asgVC nm st own (fun v K => vcE C n nm v st K) t value fun st ow => vcB C n nm rest st ow K Bk R
        | none => False) := h
      cases ht : one? ts with
      | none => rw [ht] at h; exact h.elim
      | some t => rw [ht] at h; rw [one?_out ht]; exact asg_sound T S H F h
    | Expr => exact expr_sound T S F h
    | For t iter body orelse fp =>
      obtain ⟨ho, h2⟩ := ifB_out h
      rw [List.isEmpty_iff.mp ho]
      cases ht : name? t with
      | none => simp only [ht] at h2
      | some x =>
        simp only [ht] at h2
        obtain ⟨px, rfl⟩ := name?_out ht
        exact cons_out T (for_sound T S H F (ifB_out h2).1 (ifB_out h2).2)
    | While test body orelse wp =>
      obtain ⟨ho, h⟩ := ifB_out h
      rw [List.isEmpty_iff.mp ho]
      exact cons_out T (while_sound T S F h)
    | Try => exact HT _ _ _ _ _ _ _ _ _ _ _ _ _ _ _ _ _ _ _ _ h F
    | _ => exact h.elim
theorem stm_zero : BSnd prog w I B k C 0 := fun _ _ _ _ _ _ _ _ _ _ _ _ _ _ _ h _ => h.elim
end
end Mine
end

section -- M27
open PySem PySem.W PyProof.Rows
set_option Elab.async false
set_option linter.unusedVariables false
namespace Mine
open PySem.SeqAt PySem.Calls

noncomputable def flatB : D → Bool
  | .list ds => D.lfs ds
  | d => d.lf
theorem flatB_flat {d : D} (h : flatB d = true) : Flat d := by
  cases d <;> first | exact .inl h | exact .inr (.inl ⟨_, rfl, h⟩)
noncomputable def okNames (nm : Nm) (xs : List Str) : Bool :=
  (nm.lookup ("__debug__" : Str)).isNone && (nm.lookup ("__classdict__" : Str)).isNone && (nm.all fun p => p.2 != .free) && xs.all (asg1 nm)

structure FnOK (I : TInv) (B : Heap) (f : Addr) (fd : FuncData) (body : List Stmt) (nm : Nm) (xs : List Str) : Prop where
  obj : ∃ o, B.get? f = some o ∧ o.data = .func fd
  lim : B.NoLimit
  code : B.CodeRec fd.code fd.qualname
  body : fd.body = .stmts body
  names : fd.scope.names = nm
  kind : fd.scope.kind = .function
  co : fd.scope.isCoroutine = false
  gen : fd.scope.isGenerator = false
  gl : fd.globals = mainGlobals
  bt : fd.builtins = builtinsNs
  clo : fd.closure = []
  bind : ∀ vs : List Value, vs.length = xs.length → bindArgs fd ⟨vs, []⟩ = pure (xs.zip vs)
  ok : okNames nm xs = true

theorem bindL_eq {K : Str → Option NameKind} {x : Str} (hx : K x = some .local) : ∀ (bs : List (Str × Value)) (m : Va), bindL K bs m x = (bs.reverse.lookup x).or (m x)
  | [], m => rfl
  | (n, v) :: r, m => by
    rw [bindL, bindL_eq hx r, List.reverse_cons, List.lookup_append]
    by_cases e : x = n
    · subst e
      rw [if_pos hx]
      simp [List.lookup_cons]
    · have hb : (x == n) = false := by simpa using e
      simp only [List.lookup_cons, hb, List.lookup_nil]
      split <;> simp [e]
theorem bindC_eq {K : Str → Option NameKind} {x : Str} (hx : K x ≠ some .local) : ∀ (bs : List (Str × Value)) (m : Va), bindC K bs m x = (bs.reverse.lookup x).or (m x)
  | [], m => rfl
  | (n, v) :: r, m => by
    rw [bindC, bindC_eq hx r, List.reverse_cons, List.lookup_append]
    by_cases e : x = n
    · subst e
      rw [if_neg hx]
      simp [List.lookup_cons]
    · have hb : (x == n) = false := by simpa using e
      simp only [List.lookup_cons, hb, List.lookup_nil]
      split <;> simp [e]

theorem zip_rep {h : Heap} {y : Str} : ∀ {xs : List Str} {vs : List Value} {ds : List D}, RepL h vs ds → (∀ d, (xs.zip ds).reverse.lookup y = some d → ∃ v, (xs.zip vs).reverse.lookup y = some v ∧ Rep h v d ∧ d ∈ ds ∧ y ∈ xs) ∧ ((xs.zip ds).reverse.lookup y = none → (xs.zip vs).reverse.lookup y = none)
  | [], _, _, _ => by simp
  | _ :: _, _, _, .nil => by simp
  | x :: xs, v :: vs, d :: ds, .cons r rs => by
    obtain ⟨i1, i2⟩ := zip_rep (y := y) (xs := xs) rs
    simp only [List.zip_cons_cons, List.reverse_cons, List.lookup_append]
    refine ⟨fun e he => ?_, fun he => ?_⟩
    · cases hl : (xs.zip ds).reverse.lookup y with
      | some d' =>
        rw [hl] at he
        have : d' = e := by simpa using he
        subst this
        obtain ⟨u, h1, h2, h3, h4⟩ := i1 d' hl
        exact ⟨u, by rw [h1]; rfl, h2, List.mem_cons_of_mem _ h3, List.mem_cons_of_mem _ h4⟩
      | none =>
        rw [hl] at he
        rw [i2 hl]
        simp only [Option.none_or, List.lookup_cons, List.lookup_nil] at he ⊢
        cases hb : y == x with
        | true =>
          rw [hb] at he
          have : d = e := by simpa using he
          subst this
          exact ⟨v, rfl, r, List.mem_cons_self .., by rw [beq_iff_eq.mp hb]; exact List.mem_cons_self ..⟩
        | false => rw [hb] at he; cases he
    · cases hl : (xs.zip ds).reverse.lookup y with
      | some d' => rw [hl] at he; cases he
      | none =>
        rw [hl] at he
        rw [i2 hl]
        simp only [Option.none_or, List.lookup_cons, List.lookup_nil] at he ⊢
        cases hb : y == x with
        | true => rw [hb] at he; cases he
        | false => rfl

theorem cellsFrom_acc {x : Str} : ∀ (names : Nm) (n : Nat) (acc : List (Str × Addr)), (acc.lookup x).isSome = true → ((cellsFrom n names acc).lookup x).isSome = true
  | [], _, _, h => h
  | (y, q) :: r, n, acc, h => by
    unfold cellsFrom
    split
    · refine cellsFrom_acc r _ _ ?_
      rw [List.lookup_cons]
      split <;> first | rfl | exact h
    · exact cellsFrom_acc r _ _ h
theorem cellsFrom_has {x : Str} : ∀ (names : Nm) (n : Nat) (acc : List (Str × Addr)), (x, NameKind.cell) ∈ names → ((cellsFrom n names acc).lookup x).isSome = true
  | (y, q) :: r, n, acc, h => by
    unfold cellsFrom
    rcases List.mem_cons.mp h with e | h
    · cases e
      rw [if_pos (by decide)]
      exact cellsFrom_acc r _ _ (by simp [List.lookup_cons])
    · split <;> exact cellsFrom_has r _ _ h

theorem AOK.more {k k' : Nat} {A : Around} (h : AOK k' A) (le : k ≤ k') : AOK k A := ⟨h.hd, by have := h.dp; (first | lia | omega), by have := h.un; (first | lia | omega)⟩
theorem GoodF.more {prog : Program} {w : World} {I : TInv} {B : Heap} {k k' : Nat} {f : Addr} {sp : Spec} (h : GoodF prog w I B k f sp) (le : k ≤ k') : GoodF prog w I B k' f sp :=
  ⟨h.1, fun A vs ds Q E s x t a fr r q => h.2 A vs ds Q E s x t (a.more le) fr r q⟩
section
variable {prog : Program} {w : World} {I : TInv} {B : Heap} {mg mb : Str → Option Value} {C : Cx} {k : Nat} {A : Around} {nm : Nm} {s : Shared} {E : Value → Shared → Prop}

theorem call_of {f : Addr} {fd : FuncData} {body : List Stmt} {xs : List Str} {vs : List Value} {ds : List D} {Q : Value → Shared → Prop} (O : FnOK I B f fd body nm xs) (x : Ext I B s.heap) (t : I.ok s.heap) (a : AOK (k + 1) A) (fr : FrOK I A s.heap) (r : RepL s.heap vs ds)
    (v1 : ds.length = xs.length) (v2 : ds.all flatB = true)
    (hb : ∀ h₁ tk₁ va, Fs I B k (A.deeper (callEnvC fd s.heap.objs.size f)) (callEnvC fd s.heap.objs.size f) nm s.heap (fun _ => False) s.heap va (xs.zip ds).reverse [] h₁ →
      wpAny (model prog w) (A.deeper (callEnvC fd s.heap.objs.size f)) (execs body (callEnvC fd s.heap.objs.size f)) (fun fl s' => Q (match fl with | .ret v => v | _ => .none) s')
        (fun e s' => wpAny (model prog w) (A.deeper (callEnvC fd s.heap.objs.size f)) (leaving (callEnvC fd s.heap.objs.size f) e) (fun _ s'' => E e s'') (fun e' s'' => E e' s'') s') { s with heap := h₁, toks := tk₁ }) :
    wpAny (model prog w) A (call (.ref f) vs) Q E s := by
  obtain ⟨o, ho, hd⟩ := O.obj
  have ok := O.ok
  unfold okNames at ok
  simp only [Bool.and_eq_true, List.all_eq_true] at ok
  obtain ⟨⟨⟨k1, k2⟩, k3⟩, k4⟩ := ok
  have lv : vs.length = xs.length := r.length.trans v1
  have hgo : s.heap.get? f = some o := x.get ho (fun vs e => by rw [hd] at e; cases e) (fun _ _ e => by rw [hd] at e; cases e)
  have hlim : s.heap.NoLimit := let ⟨mc, n1, n2⟩ := O.lim; ⟨mc, x.ns n1, n2⟩
  have hcode : s.heap.CodeRec fd.code fd.qualname := x.codeRec O.code
  have kindOf : ∀ y, (callEnvC fd s.heap.objs.size f).kindOf y = nm.lookup y := fun y => by
    show fd.scope.names.lookup y = _; rw [O.names]
  refine wpAny_runValue (codeAny_call_cells (by have := a.dp; show A.depth < 1000; (first | lia | omega)) hgo hd hlim hcode O.body (O.bind vs lv) O.clo (fun y hy => ?_) (fun s₁ ic => ?_) O.co O.gen O.kind)
  · have hm : y.1 ∈ xs := (List.of_mem_zip (show (y.1, y.2) ∈ xs.zip vs from hy)).1
    rcases asg1_kind (k4 _ hm) with e | e
    · exact .inl (by rw [O.names]; exact e)
    · exact .inr ⟨by rw [O.names]; exact e, cellsFrom_has _ _ _ (by rw [O.names]; exact lookup_mem e)⟩
  · obtain ⟨⟨⟨h₁, tk₁, rfl⟩, ns, keep, above⟩, cell, apart, cab⟩ := ic
    have above : s.heap.objs.size ≤ (callEnvC fd s.heap.objs.size f).locals := above
    have x₁ : Ext I s.heap h₁ := .of keep
    have r₁ := r.ext x₁
    refine hb h₁ tk₁ _ (show Fs I B k (A.deeper (callEnvC fd s.heap.objs.size f)) (callEnvC fd s.heap.objs.size f) nm s.heap (fun _ => False) s.heap
        (fun y => if nm.lookup y = some .local then bindL (callEnvC fd s.heap.objs.size f).kindOf (xs.zip vs) (fun _ => none) y else bindC (callEnvC fd s.heap.objs.size f).kindOf (xs.zip vs) (fun _ => none) y) (xs.zip ds).reverse [] h₁ from by
      refine ⟨⟨x, a.deeper _, O.names, O.kind, O.gl, O.bt, by simpa using k1, by simpa using k2, Heap.get?_none_of_le above, fun y c _ hc => ?_, fun y z c hy hz => ?_, fun y hy => ?_, let ⟨fr', e, _⟩ := fr; ⟨fr', Around.frames_deeper e⟩, rfl, (let ⟨_, _, _, lw⟩ := fr; lw)⟩, x₁.tabs t, ?_, x₁, ⟨⟨_, ns, fun y hy => ?_⟩, fun y c hy hc => ?_⟩, fun y d e => ?_, fun _ p => p.elim, fun _ hy => by cases hy⟩
      · have c1 : (callEnvC fd s.heap.objs.size f).locals < c := cab y c (mem_of_lookup hc)
        exact Heap.get?_none_of_le (Nat.le_trans above (Nat.le_of_lt c1))
      · exact name_of_addr apart (mem_of_lookup hy) (mem_of_lookup hz)
      · rcases hy with e | e
        · exact Option.isSome_iff_exists.mp (cellsFrom_has _ _ _ (by rw [O.names]; exact lookup_mem e))
        · have q := k3 _ (lookup_mem e)
          exact absurd q (show ¬ (NameKind.free != NameKind.free) = true by decide)
      · obtain ⟨fr', e, g, lw⟩ := fr
        obtain ⟨o', es, ep, ho', hd', _⟩ := id ns
        exact ⟨_, Around.frames_deeper e, ⟨by show fd.scope.kind ≠ _; rw [O.kind]; decide, ⟨_, o', es, ep, rfl, ho', hd', lw _ (Heap.get?_none_of_le above)⟩, g.of fun b o es ep e d => ⟨o, es, ep, keep b o e, d⟩⟩, lw.ext x₁⟩
      · simp only [hy, if_true]
      · have := cell y c hc
        have hn : nm.lookup y ≠ some .local := by rcases hy with e | e <;> rw [e] <;> intro q <;> cases q
        simp only [hn, if_false]
        exact this
      · obtain ⟨v, e1, e2, e3, e4⟩ := (zip_rep (y := y) (xs := xs) r₁).1 d e
        refine ⟨flatB_flat (List.all_eq_true.mp v2 d e3), ?_, v, ?_, e2⟩
        · rcases asg1_kind (k4 _ e4) with e | e
          · exact .inl e
          · exact .inr (.inl e)
        · split
          · rename_i hl
            rw [bindL_eq ((kindOf y).trans hl), e1]; rfl
          · rename_i hl
            rw [bindC_eq (by rw [kindOf]; exact hl), e1]; rfl)
theorem goodF_of {f : Addr} {fd : FuncData} {body : List Stmt} {xs : List Str} {sp : Spec} {n : Nat} (O : FnOK I B f fd body nm xs) (T : BSnd prog w I B k C n)
    (vc : ∀ ds Q, sp ds Q → ds.length = xs.length ∧ ds.all flatB = true ∧ vcB C n nm body (xs.zip ds).reverse [] (fun _ _ => Q .none) (fun _ _ => False) Q) : GoodF prog w I B (k + 1) f sp := by
  obtain ⟨o, ho, hd⟩ := O.obj
  refine ⟨⟨o, fd, ho, hd⟩, fun A vs ds Q E s x t a fr r q => ?_⟩
  obtain ⟨v1, v2, v3⟩ := vc ds Q q
  refine call_of O x t a fr r v1 v2 fun h₁ tk₁ va F => ?_
  refine wpAny_mono (T nm body _ _ _ _ Q _ _ { s with heap := h₁, toks := tk₁ } _ s.heap _ s.heap _ v3 F) (fun f' s' h' => ?_) fun _ _ y => y
  obtain ⟨h₂, tk₂, va₂, st₂, ow₂, rfl, F₂, hf⟩ := h'
  cases f' with
  | next => exact ⟨h₂, tk₂, .none, rfl, F₂.ext, .none, fun _ => .inl rfl, hf⟩
  | brk => exact hf.elim
  | cont => exact hf.elim
  | ret v => obtain ⟨d, q1, q2, q3⟩ := hf; exact ⟨h₂, tk₂, d, rfl, F₂.ext, q1, fun _ => q2, q3⟩
end
end Mine
end

section -- H1
open PySem PySem.W PyProof.Rows
set_option Elab.async false
set_option linter.unusedVariables false
namespace Mine
open PySem.SeqAt PySem.Calls

noncomputable def F2 (h : Heap) (e : Addr) : Prop := ∃ o vs, h.get? e = some o ∧ o.data = .fields vs ∧ vs[2]? = some .none
theorem F2.keep {h h' : Heap} {e : Addr} (x : F2 h e) (k : ∀ o, h.get? e = some o → h'.get? e = some o) : F2 h' e := by
  obtain ⟨o, vs, a, b, c⟩ := x
  exact ⟨o, vs, k o a, b, c⟩
theorem not_rec_ne {h : Heap} {a b : Addr} {o oa : Obj} {vs : Array Value} (ha : h.get? a = some oa) (hd : oa.data = .fields vs) (hb : h.get? b = some o) (hn : ∀ vs, o.data ≠ .fields vs) : b ≠ a := fun q => by
  rw [q, ha] at hb; cases hb; exact hn vs hd

section
variable {M : Model} {A : Around} {E : Value → Shared → Prop} {s : Shared}
theorem entry2 {base : Heap} {env : Env} {outer : List Env} {L e : Addr} {oe : Obj} {vs : Array Value} {head a0 : Value} {hadNext : Bool} {Q : Unit → Shared → Prop}
    (hfr : A.frames = some (env :: outer)) (hl : s.heap.FunFrames base (env :: outer)) (hf : env.frame = some L) (he : s.heap.get? e = some oe) (hkb : base.StaysIn s.heap) (hen : base.get? e = none) (hd : oe.data = .fields vs) (hsz : 1 < vs.size) (h0 : vs[0]? = some a0) (h2 : vs[2]? = some .none)
    (h : ∀ h', Heap.NotedW base (env :: outer) e oe.cls a0 (rawInt L) s.heap h' → F2 h' e → Q () { s with heap := h' }) :
    wpAny M A (do let a ← frameOf env; let pl ← entryPlaceOf L hadNext; let b ← EntryCells.newEntry head a .none (rawInt L) .none pl; setField (.ref e) 1 b) Q E s := by
  have apart : e ∉ (env :: outer).filterMap (·.frame) := fun hm => by
    obtain ⟨_, o, ho, hnf⟩ := hl.mem hm
    rw [he] at ho; cases ho; exact hnf vs hd
  refine wpAny_bind (wpAny_frameOf_fun hfr hl hf fun g hs => wpAny_bind (wpAny_entryPlaceOf fun pl hpl => ?_))
  unfold EntryCells.newEntry newFields
  refine wpAny_bind (wpAny_newObj_type ?_ (hpl.sizeOk5 _ _ _ _ _))
  have heg : g.get? e = some oe := (hs.2.1 e apart).trans he
  have kb : base.StaysIn g := fun b o hbo => (hs.2.1 b fun hm => by rw [(hl.mem hm).1] at hbo; cases hbo).trans (hkb b o hbo)
  generalize hob : ({ cls := .type "traceback", dict := none, data := .fields ([head, .ref L, .none, rawInt L, .none] ++ (if pl.isEmpty then List.replicate 6 Value.none else pl)).toArray } : Obj) = ob
  have hobd : ob.data = .fields ([head, .ref L, .none, rawInt L, .none] ++ (if pl.isEmpty then List.replicate 6 Value.none else pl)).toArray := by rw [← hob]
  have hobf : ob.isFreed = false := Obj.isFreed_of_fields hobd
  have hep : (g.push ob).get? e = some oe := Heap.get?_push_of_some _ heg
  refine wpAny_setField hep hd hsz (h _ ?_ ?_)
  · have ne : g.objs.size ≠ e := Nat.ne_of_gt (Heap.lt_size heg)
    have hd3 := Obj.data_mapFields hd (·.setIfInBounds 1 (Value.ref g.objs.size))
    have keep : ∀ b o, b ≠ e → g.get? b = some o → ((g.push ob).update e (Obj.mapFields (·.setIfInBounds 1 (Value.ref g.objs.size)))).get? b = some o := fun b o hbe hb => by
      rw [Heap.get?_update_other _ _ (Ne.symm hbe)]; exact Heap.get?_push_of_some _ hb
    refine ⟨fun b o hbo => keep b o (fun q => by rw [q, hen] at hbo; cases hbo) (kb b o hbo), hl.of_keeps fun b o hb hnf => ?_, ?_, fun b o hb hnf => ?_⟩
    · obtain ⟨sl, q⟩ := hs.2.2 b o hb
      exact ⟨_, keep b _ (not_rec_ne he hd hb hnf) q, rfl⟩
    · exact ⟨_, _, g.objs.size, ob, _, Heap.get?_update_self _ hep (Obj.isFreed_of_fields hd3), ⟨Obj.cls_mapFields _ _, by rw [Array.getElem?_setIfInBounds_ne (by decide)]; exact h0⟩, hd3, by simp [hsz], kb.fresh, ne,
        (Heap.get?_update_other _ _ (Ne.symm ne)).trans (Heap.get?_push_size g hobf), hobd, by simp⟩
    · obtain ⟨sl, q⟩ := hs.2.2 b o hb
      exact ⟨sl, keep b _ (not_rec_ne he hd hb hnf) q⟩
  · have hd3 := Obj.data_mapFields hd (·.setIfInBounds 1 (Value.ref g.objs.size))
    exact ⟨_, _, Heap.get?_update_self _ hep (Obj.isFreed_of_fields hd3), hd3, by rw [Array.getElem?_setIfInBounds_ne (by decide)]; exact h2⟩
theorem place2 {base : Heap} {l : List Env} {T : Addr} {oT : Obj} {ts : Array Value} {v : Value} {Q : Unit → Shared → Prop} (hT : s.heap.get? T = some oT) (hdT : oT.data = .fields ts) (h3 : 3 < ts.size) (hl : s.heap.FunFrames base l) (hkb : base.StaysIn s.heap) (hnT : base.get? T = none)
    (h : ∀ h', base.StaysIn h' → h'.FunFrames base l → (∀ b o, b ≠ T → s.heap.get? b = some o → h'.get? b = some o) → (∃ o ts, h'.get? T = some o ∧ o.data = .fields ts ∧ ts[3]? = some v) → Q () { s with heap := h' }) :
    wpAny M A (setField (.ref T) 3 v) Q E s := by
  have keep : ∀ b o, b ≠ T → s.heap.get? b = some o → (s.heap.update T (Obj.mapFields (·.setIfInBounds 3 v))).get? b = some o := fun b o hb e => (Heap.get?_update_other _ _ (Ne.symm hb)).trans e
  have hd := Obj.data_mapFields hdT (·.setIfInBounds 3 v)
  exact wpAny_setField hT hdT h3 (h _ (fun b o hb => keep b o (fun q => by rw [q, hnT] at hb; cases hb) (hkb b o hb)) (hl.of_keeps fun b o hb hnf => ⟨o, keep b o (not_rec_ne hT hdT hb hnf) hb, rfl⟩) keep
    ⟨_, _, Heap.get?_update_self _ hT (Obj.isFreed_of_fields hd), hd, by simp [h3]⟩)
theorem setFlight2 {base : Heap} {l : List Env} {e : Addr} {cls a0 fl : Value} {Q : Unit → Shared → Prop} (hkb : base.StaysIn s.heap) (hl : s.heap.FunFrames base l) (ht : s.heap.TracedAtW base e cls a0 fl) (x : F2 s.heap e)
    (h : ∀ h', base.StaysIn h' → h'.FunFrames base l → h'.TracedW base e cls a0 → F2 h' e → (∀ b o, s.heap.get? b = some o → (∀ vs, o.data ≠ .fields vs) → h'.get? b = some o) → Q () { s with heap := h' }) :
    wpAny M A (setFlight (.ref e) none) Q E s := by
  obtain ⟨oe, vs, T, oT, ts, he, hc, hd, h1, hnT, hTe, hT, hdT, h3⟩ := ht
  unfold setFlight
  refine wpAny_bind (wpAny_field he hd h1 ?_)
  rw [if_pos (show (Value.ref T != Value.none) = true from by simp)]
  refine place2 hT hdT (Array.getElem?_eq_some_iff.mp h3).1 hl hkb hnT fun h' k1 k2 k3 ⟨o, ts', e1, e2, e3⟩ => h h' k1 k2 ⟨oe, vs, T, o, ts', k3 e oe (Ne.symm hTe) he, hc, hd, h1, hnT, hTe, e1, e2, e3⟩ (x.keep fun o q => k3 e o (Ne.symm hTe) q) fun b o hb hnf => k3 b o (not_rec_ne hT hdT hb hnf) hb
theorem noteFrame2 {base : Heap} {env : Env} {outer : List Env} {L e : Addr} {cls a0 : Value} {Q : Unit → Shared → Prop} (hfr : A.frames = some (env :: outer)) (hl : s.heap.FunFrames base (env :: outer)) (hf : env.frame = some L) (ht : s.heap.TracedW base e cls a0) (x : F2 s.heap e) (hkb : base.StaysIn s.heap) (hen : base.get? e = none)
    (h : ∀ h', Heap.NotedW base (env :: outer) e cls a0 (rawInt L) s.heap h' → F2 h' e → Q () { s with heap := h' }) : wpAny M A (noteFrame (.ref e) env) Q E s := by
  obtain ⟨oe, vs, T, oT, ts, he, ⟨hcls, h0⟩, hd, h1, hnT, hTe, hT, hdT, h3⟩ := ht
  subst hcls
  have h2 : vs[2]? = some .none := by
    obtain ⟨o, vs', a, b, c⟩ := x
    rw [he] at a; cases a; rw [hd] at b; cases b; exact c
  unfold noteFrame
  simp only [hf]
  refine wpAny_bind (wpAny_field he hd h1 ?_)
  rw [if_pos (show (Value.ref T != Value.none) = true from by simp)]
  refine wpAny_bind (wpAny_field hT hdT h3 ?_)
  rw [if_neg (show ¬ ((Value.none == rawInt L) = true) from by simp [rawInt])]
  refine wpAny_bind (place2 (v := .none) hT hdT (Array.getElem?_eq_some_iff.mp h3).1 hl hkb hnT fun h₁ k1 k2 k3 _ => ?_)
  exact entry2 (s := { s with heap := h₁ }) hfr k2 hf (k3 e oe (Ne.symm hTe) he) k1 hen hd (Array.getElem?_eq_some_iff.mp h1).1 h0 h2 fun h' ⟨x1, x2, x3, x4⟩ f => h h' ⟨x1, x2, x3, fun b o hb hnf => x4 b o (k3 b o (not_rec_ne hT hdT hb hnf) hb) hnf⟩ f
theorem leaving2 {base : Heap} {env : Env} {outer : List Env} {L e : Addr} {oe : Obj} {vs : Array Value} {a0 : Value} {Q : Unit → Shared → Prop} (hfr : A.frames = some (env :: outer)) (hl : s.heap.FunFrames base (env :: outer)) (hf : env.frame = some L)
    (he : s.heap.get? e = some oe) (hkb : base.StaysIn s.heap) (hen : base.get? e = none) (hd : oe.data = .fields vs) (h1 : vs[1]? = some .none) (h0 : vs[0]? = some a0) (h2 : vs[2]? = some .none)
    (h : ∀ h', Heap.LeftW base (env :: outer) e oe.cls a0 s.heap h' → F2 h' e → Q () { s with heap := h' }) : wpAny M A (leaving env (.ref e)) Q E s := by
  unfold leaving noteFrame
  simp only [hf]
  refine wpAny_bind (wpAny_bind (wpAny_field he hd h1 ?_))
  rw [if_neg (by decide)]
  exact entry2 hfr hl hf he hkb hen hd (Array.getElem?_eq_some_iff.mp h1).1 h0 h2 fun h₁ ⟨x1, x2, x3, x4⟩ f => setFlight2 (s := { s with heap := h₁ }) x1 x2 x3 f fun h' y1 y2 y3 y4 y5 => h h' ⟨y1, y2, y3, fun b o hb hnf => by
    obtain ⟨sl, q⟩ := x4 b o hb hnf
    exact ⟨sl, y5 b _ q hnf⟩⟩ y4
end
end Mine
end

section -- H2
open PySem PySem.W PyProof.Rows
set_option Elab.async false
set_option linter.unusedVariables false
namespace Mine
open PySem.SeqAt PySem.Calls

section
variable {prog : Program} {w : World} {A : Around} {E : Value → Shared → Prop} {s : Shared}
end
end Mine
end

section -- M28
open PySem PySem.W PyProof.Rows
set_option Elab.async false
set_option linter.unusedVariables false
namespace Mine
open PySem.SeqAt PySem.Calls

noncomputable def Raised (I : TInv) (A : Around) (h : Heap) (e : Addr) (h' : Heap) : Prop :=
  ∃ fr Bs a0 hm, A.frames = some fr ∧ Ext I h hm ∧ DFr I hm fr ∧ Heap.FlyingW Bs fr e (.type "ZeroDivisionError") a0 h' ∧ (∀ b o, hm.get? b = some o → ((∀ es ep, o.data ≠ .dict es ep) ∨ h.get? b ≠ none) → (∀ env ∈ fr, env.frame ≠ some b) → Bs.get? b = some o) ∧ hm.UpToSlots h' ∧ F2 h' e
noncomputable def GoodZ (prog : Program) (w : World) (I : TInv) (B : Heap) (k : Nat) (f : Addr) : Prop :=
  ∀ (A : Around) (vs : List Value) (a : Int) (Q E : Value → Shared → Prop) (s : Shared), Ext I B s.heap → I.ok s.heap → AOK k A → FrOK I A s.heap → RepL s.heap vs [.int a, .int 0] →
    (∀ h' tk e, Raised I A s.heap e h' → E (.ref e) { s with heap := h', toks := tk }) → wpAny (model prog w) A (call (.ref f) vs) Q E s

theorem ext_slots {I : TInv} {h hm h' Bs : Heap} {fr : List Env} (x : Ext I h hm) (d : DFr I hm fr) (hB : ∀ b o, hm.get? b = some o → ((∀ es ep, o.data ≠ .dict es ep) ∨ h.get? b ≠ none) → (∀ env ∈ fr, env.frame ≠ some b) → Bs.get? b = some o)
    (st : Bs.StaysIn h') (sl : hm.UpToSlots h') : Ext I h h' := by
  have get : ∀ b o, hm.get? b = some o → (∀ es ep, o.data ≠ .dict es ep) → h'.get? b = some o := fun b o e nd => st b o (hB b o e (.inl nd) fun env he q => by
    obtain ⟨o', es, ep, e', d', _⟩ := d.at env he b q
    rw [e] at e'; cases e'; exact nd es ep d')
  refine ⟨fun b o e nt nd => get b o (x.keep b o e nt nd) nd, fun b o es ep e hd => ?_, fun b o e => ?_, fun b o e c => get b o (x.code b o e c) (fun es ep q => by obtain ⟨vs, _, _, d, _⟩ := c; rw [q] at d; cases d), fun t => I.keeps hm h' (fun b o e r => get b o e fun es ep q => ?_) (x.tabs t), fun b o q e => st b o (hB b o (x.old b o q e) (.inr (by rw [e]; exact fun q => by cases q)) fun env he q' => by
    obtain ⟨_, _, _, _, _, n⟩ := d.at env he b q'
    rw [q] at n; cases n)⟩
  · obtain ⟨o', e', d'⟩ := x.dict b o es ep e hd
    obtain ⟨s', e''⟩ := sl b o' e' (fun vs q => by rw [d', hd] at q; cases q)
    exact ⟨_, e'', d'⟩
  · obtain ⟨o', e'⟩ := x.there b o e
    by_cases hd : ∃ es ep, o'.data = .dict es ep
    · obtain ⟨es, ep, hd⟩ := hd
      obtain ⟨s', e''⟩ := sl b o' e' (fun vs q => by rw [hd] at q; cases q)
      exact ⟨_, e''⟩
    · exact ⟨o', get b o' e' fun es ep q => hd ⟨es, ep, q⟩⟩
  · rcases r with ⟨_, vs, q'⟩ | ⟨vs, _, _, q', _⟩ <;> (rw [q'] at q; cases q)

section
variable {prog : Program} {w : World} {I : TInv} {B : Heap} {mg mb : Str → Option Value} {C : Cx} {k : Nat} {A : Around} {env : Env} {nm : Nm} {h₀ : Heap} {P : Addr → Prop} {Kp : Heap} {va : Va} {st : St} {own : List Str} {s : Shared} {E : Value → Shared → Prop} {n : Nat}

theorem glob_name {x : Str} {p : Pos} {v : Value} {KQ : Value → Shared → Prop} (H : CGood prog w I B mg mb C k) {A' : Around} (F : Fm I B k A env nm st s.heap) (hn : nm.lookup x = some .globalImplicit) (hx : (x == ("__debug__" : Str)) = false) (hg : mg x = none) (hb : mb x = some v) (q : KQ v s) :
    wpAny (model prog w) A' (eval (.Name x p) env) KQ E s := by
  have h1 := F.ext.ns H.g
  have h2 := F.ext.ns H.b
  rw [← F.gl] at h1
  rw [← F.bt] at h2
  exact Name_function_global F.kind ((F.kindOf x).trans hn) (loadGlobal_builtin h1 hg h2 hb q) hx

theorem goodZ_of (H : CGood prog w I B mg mb C k) {f : Addr} {fd : FuncData} {test : Expr} {zd : Str} {np rp ip : Pos} {orelse rest : List Stmt} {x y : Str} (O : FnOK I B f fd (.If test [.Raise (some (.Name zd np)) none rp] orelse ip :: rest) nm [x, y])
    (hz1 : nm.lookup zd = some .globalImplicit) (hz2 : (zd == ("__debug__" : Str)) = false) (hz3 : mg zd = none) (hz4 : mb zd = some (.type "ZeroDivisionError"))
    (vt : ∀ a : Int, vcT C n nm test [(y, .int 0), (x, .int a)] fun b => b = true) : GoodZ prog w I B (k + 1) f := fun A vs a Q E s xB t aok fr r hE => by
  refine call_of O xB t aok fr r rfl rfl fun h₁ tk₁ va F => ?_
  obtain ⟨outer, hfr⟩ := F.sx.top
  obtain ⟨fr', hA, _⟩ := fr
  have eo : outer = fr' := by rw [Around.frames_deeper hA] at hfr; simpa using hfr.symm
  subst eo
  refine wpAny_execs_cons (wpAny_If (wpAny_mono ((snd_all H n).2 nm test _ _ _ _ { s with heap := h₁, toks := tk₁ } _ (vt a) F.fm) (fun b s₂ h₂ => ?_) fun _ _ x => x))
  obtain ⟨a₂, rfl⟩ := h₂
  simp only [if_true]
  have F₂ := F.to a₂.ext
  refine wpAny_execs_cons (PyProof.Rows.Raise_classB F₂.sx.room.hd excClass_ZeroDivisionError (by first | exact sub_self_ZeroDivisionError | kernel_rfl | (rw [isSubtype_type]; kernel_rfl)) (glob_name H F₂.fm hz1 hz2 hz3 hz4 ⟨rfl, rfl⟩) fun h₃ e hx => ?_)
  obtain ⟨frs, e1, dfr, _⟩ := F₂.fr
  rw [hfr] at e1; cases e1
  obtain ⟨ob, tp, he, hcls, hd⟩ := hx.there
  let fs := (callEnvC fd s.heap.objs.size f :: outer).filterMap (·.frame)
  have hin : ∀ env ∈ (callEnvC fd s.heap.objs.size f :: outer), ∀ b, env.frame = some b → b ∈ fs := fun env he b hb => List.mem_filterMap.mpr ⟨env, he, hb⟩
  have hen : (hideAll s₂.heap fs).get? e = none := by
    cases q : (hideAll s₂.heap fs).get? e with
    | none => rfl
    | some o => have := of_hideAll _ q; rw [hx.new] at this; cases this
  have dfr₃ : DFr I h₃ (callEnvC fd s.heap.objs.size f :: outer) := dfr.of fun b o es ep e d => ⟨o, es, ep, hx.keeps b o e, d⟩
  obtain ⟨h2, t2, rfl, x2⟩ := a₂
  refine leaving2 (a0 := tp) hfr (dfr₃.fun fun env he b hb => hideAll_none _ (hin env he b hb)) F.sx.frm he (fun b o hb => hx.keeps b o (of_hideAll _ hb)) hen hd rfl rfl rfl fun h' hL f2 => ?_
  obtain ⟨k1, ⟨_, _, k2⟩, k3, k4⟩ := hL
  have k4 : h₃.UpToSlots h' := k4
  refine hE h' t2 e ⟨outer, _, tp, h2, hA, F₂.ext, dfr.2.2, ⟨k1, hen, k2, by rw [← hcls]; exact k3⟩, ?_, (Heap.UpToSlots.of_keeps hx.keeps).trans k4, f2⟩
  intro b o e hd' hn
  refine hideAll_get _ e fun hm => ?_
  obtain ⟨env, he, hf⟩ := List.mem_filterMap.mp hm
  rcases List.mem_cons.mp he with rfl | he
  · have hb : b = (callEnvC fd s.heap.objs.size f).locals := by rw [F.sx.frm] at hf; exact (Option.some.inj hf).symm
    rcases hd' with nd | nn
    · obtain ⟨_, ⟨L, o', es, ep, f1, f2, f3, _⟩, _⟩ := dfr
      rw [F.sx.frm] at f1; cases f1
      rw [hb] at e
      have f2 : h2.get? _ = some o' := f2
      rw [e] at f2; cases f2
      exact nd es ep f3
    · exact nn (hb ▸ F.sx.loc)
  · exact hn env he hf
end
end Mine
end

section -- M29
open PySem PySem.W PyProof.Rows
set_option Elab.async false
set_option linter.unusedVariables false
namespace Mine
open PySem.SeqAt PySem.Calls

theorem zd_base : isSubtype (.type "ZeroDivisionError") (.type "BaseException") = pure true := by rw [isSubtype_type]; kernel_rfl
theorem zd_self : isSubtype (.type "ZeroDivisionError") (.type "ZeroDivisionError") = pure true := by rw [isSubtype_type]; kernel_rfl
theorem zd_tuple : isSubtype (.type ((Manifest.find? "ZeroDivisionError").elim "type" fun x => x.metatype)) (.type "tuple") = pure false := by rw [isSubtype_type]; kernel_rfl

section
variable {prog : Program} {w : World} {I : TInv} {B : Heap} {mg mb : Str → Option Value} {C : Cx} {k : Nat} {A : Around} {env : Env} {nm : Nm} {h₀ : Heap} {P : Addr → Prop} {Kp : Heap} {va : Va} {st : St} {own : List Str} {s : Shared} {E : Value → Shared → Prop} {n : Nat}

theorem catch_sound (H : CGood prog w I B mg mb C k) (F : Fs I B k A env nm h₀ P Kp va st own s.heap) {e : Addr} {h' : Heap} {tk : Nat} (R : Raised I A s.heap e h') {zd : Str} {np pos : Pos} {b₀ : Stmt} {suite : List Stmt} {rest : List ExceptHandler} {Q : Flow → Shared → Prop}
    (hz1 : nm.lookup zd = some .globalImplicit) (hz2 : (zd == ("__debug__" : Str)) = false) (hz3 : mg zd = none) (hz4 : mb zd = some (.type "ZeroDivisionError"))
    (hk : ∀ h₆, Fs I B k A env nm h₀ P Kp va st own h₆ → F2 h₆ e → wpAny (model prog w) (A.mark (some (.ref e))) (execs (b₀ :: suite) env) Q (fun _ _ => False) { s with heap := h₆, toks := tk }) :
    wpAny (model prog w) A (noteFrame (.ref e) env) (fun _ s₂ => wpAny (model prog w) A (setFlight (.ref e) none) (fun _ s₃ =>
      wpAny (model prog w) A (handleBy (.ref e) env (.ExceptHandler (some (.Name zd np)) none (b₀ :: suite) pos :: rest)) Q E s₃) E s₂) E { s with heap := h', toks := tk } := by
  obtain ⟨outer, hfr⟩ := F.sx.top
  obtain ⟨fr, Bs, a0, hm, hA, x, d, ⟨g1, g2, g3, g4⟩, hB, sl, f₀⟩ := R
  rw [hfr] at hA; cases hA
  refine noteFrame2 (s := { s with heap := h', toks := tk }) hfr g3 F.sx.frm g4 f₀ g1 g2 fun h₄ ⟨i1, i2, i3, sm₄⟩ f₄ => ?_
  refine setFlight2 (s := { s with heap := h₄, toks := tk }) i1 i2 i3 f₄ fun h₅ j1 j2 j3 f₅ j5 => ?_
  have sm₄ : h'.UpToSlots h₄ := sm₄
  have sm₅ : h₄.UpToSlots h₅ := fun b o hb hn => ⟨o.slots, j5 b o hb hn⟩
  have x₅ := ext_slots x d hB j1 (sl.trans (sm₄.trans sm₅))
  have F₅ := F.to x₅
  obtain ⟨ob, hob, hobc⟩ := j3.at.there
  refine PySem.wpAny_handleBy_builtin (s := { s with heap := h₅, toks := tk }) (X := "ZeroDivisionError") (T := "ZeroDivisionError") (b := true) zd_base zd_tuple zd_self (glob_name (s := { s with heap := h₅, toks := tk }) H F₅.fm hz1 hz2 hz3 hz4 ⟨rfl, ⟨ob, hob, hobc⟩, ?_⟩)
  simp only [if_true]
  refine setFlight2 (s := { s with heap := h₅, toks := tk }) j1 j2 j3.at f₅ fun h₆ l1 l2 l3 f₆ l5 => ?_
  have sm₆ : h₅.UpToSlots h₆ := fun b o hb hn => ⟨o.slots, l5 b o hb hn⟩
  exact wpAny_mono (hk h₆ (F.to (ext_slots x d hB l1 (sl.trans (sm₄.trans (sm₅.trans sm₆))))) f₆) (fun _ _ x => x) fun _ _ x => x.elim
end
end Mine
namespace Mine
open PySem.SeqAt PySem.Calls
section
variable {prog : Program} {w : World} {I : TInv} {B : Heap} {mg mb : Str → Option Value} {C : Cx} {k : Nat} {A : Around} {env : Env} {nm : Nm} {h₀ : Heap} {P : Addr → Prop} {Kp : Heap} {va : Va} {st : St} {own : List Str} {s : Shared} {E : Value → Shared → Prop} {n : Nat}

theorem hand_sound (F : Fs I B k A env nm h₀ P Kp va st own s.heap) {x : Addr} (f : F2 s.heap x) {hb : List Stmt} {K Bk : Kst} {R : D → Prop} (h : handVC nm st own hb K R) :
    wpAny (model prog w) (A.mark (some (.ref x))) (execs hb env) (OutP I B k A env nm h₀ P Kp K Bk R s) (fun _ _ => False) s := by
  unfold handVC at h
  cases h1 : one? hb with
  | none => rw [h1] at h; exact h.elim
  | some s1 =>
    rw [h1] at h
    rw [one?_out h1]
    cases s1 with
    | Assign ts v p =>
      dsimp only at h
      cases h2 : one? ts with
      | none => rw [h2] at h; exact h.elim
      | some t =>
        rw [h2] at h
        rw [one?_out h2]
        dsimp only at h
        cases h3 : name? t with
        | none =>
          rw [h3] at h; exact h.elim
        | some x =>
          rw [h3] at h
          obtain ⟨px, rfl⟩ := name?_out h3
          obtain ⟨q1, q2⟩ := h
          obtain ⟨q3, q4⟩ := (Bool.and_eq_true ..).mp q1
          obtain ⟨k1, p1, rfl⟩ := isNoneE_out q3
          refine wpAny_execs_cons (PySem.wpAny_Assign_Name (Constant_none (store_sound F (asg1_kind q4) .none (.inl rfl) (fun e => by cases e) fun h' tk F' _ _ _ _ => ?_)) rfl)
          exact wpAny_execs_nil ⟨h', tk, _, _, _, rfl, F', q2⟩
    | _ => exact h.elim

theorem assign_exec {tgt f : Expr} {args : List Expr} {kw : List Keyword} {cp pos : Pos} {Q : Flow → Shared → Prop} (ht : ∃ x p, tgt = .Name x p ∨ ∃ ts kk, tgt = .Tuple ts kk p)
    (h : wpAny (model prog w) A (eval (.Call f args kw cp) env) (fun v s₁ => wpAny (model prog w) A (assign tgt env v) (fun _ s₂ => Q .next s₂) E s₁) E s) : wpAny (model prog w) A (exec (.Assign [tgt] (.Call f args kw cp) pos) env) Q E s := by
  refine wpAny_Assign_stores (wpAny_mono h (fun v s₁ h₁ => ?_) fun _ _ x => x) rfl ?_
  · obtain ⟨x, p, rfl | ⟨ts, kk, rfl⟩⟩ := ht <;> exact h₁
  · obtain ⟨x, p, rfl | ⟨ts, kk, rfl⟩⟩ := ht <;> rfl

theorem tgt_kind {tgt : Expr} (h : tgtB tgt = true) : ∃ x p, tgt = .Name x p ∨ ∃ ts kk, tgt = .Tuple ts kk p := by
  unfold tgtB at h
  have bk := view_back tgt
  generalize view tgt = v at h bk
  cases v with
  | name x p => exact ⟨x, p, .inl bk.symm⟩
  | tup ts kk p => exact ⟨default, p, .inr ⟨ts, kk, bk.symm⟩⟩
  | _ => cases h

structure DZ (prog : Program) (w : World) (I : TInv) (B : Heap) (mg mb : Str → Option Value) (C : Cx) (k : Nat) : Prop where
  g : mg (Str.ofString "ZeroDivisionError") = none
  b : mb (Str.ofString "ZeroDivisionError") = some (.type "ZeroDivisionError")
  z : ∀ f, C.dz = some f → GoodZ prog w I B k f

theorem dzVC.out {ds : List D} {H N : Prop} (h : dzVC ds H N) : ∃ u v, ds = [.int u, .int v] ∧ iteP (v == 0) H N := by
  cases ds with
  | nil => exact h.elim
  | cons d r => cases r with
    | nil => exact h.elim
    | cons e r => cases r with
      | nil => cases d with
        | int u => cases e with
          | int v => exact ⟨u, v, rfl, h⟩
          | _ => exact h.elim
        | _ => exact h.elim
      | cons => exact h.elim
theorem fn_of_vc {f : Str} {g : Addr} {sp : Spec} (h : globVC C nm st f = some (.fn g sp)) : C.gl.lookup f = some (.fn g sp) := by
  unfold globVC at h
  split at h
  · cases h
  · split at h
    · exact h
    · cases h
theorem After.keep {s s₁ : Shared} (a : After I s s₁) : ∃ h' tk, s₁ = { s with heap := h', toks := tk } := by
  obtain ⟨h', tk, e, _⟩ := a
  exact ⟨h', tk, e⟩
theorem try_mid (H : CGood prog w I B mg mb C k) (Z : DZ prog w I B mg mb C k) {n : Nat} (S : Snd prog w I B k C n) (F : Fs I B k A env nm h₀ P Kp va st own s.heap) {tgt a b : Expr} {f : Str} {p1 p2 p3 p4 p5 p6 : Pos} {more hb : List Stmt} {g : Addr} {sp : Spec} {Hd : Prop} {K2 : Kst} {O : Flow → Shared → Prop}
    (ht : tgtB tgt = true) (hz : nm.lookup (Str.ofString "ZeroDivisionError") = some NameKind.globalImplicit) (hf : globVC C nm st f = some (.fn g sp)) (hdz : C.dz = some g) (hs : noStar [a, b] = true)
    (hv : argsVC ([a, b].map fun v K => vcE C n nm v st K) fun ds => dzVC ds Hd (sp ds fun d => tgtVC nm st own tgt d K2))
    (hh : Hd → hb ≠ [] ∧ ∀ h₆ tk e, Fs I B k A env nm h₀ P Kp va st own h₆ → F2 h₆ e → wpAny (model prog w) (A.mark (some (.ref e))) (execs hb env) O (fun _ _ => False) { s with heap := h₆, toks := tk })
    (hm : ∀ E h' tk va' st' own', Fs I B k A env nm h₀ P Kp va' st' own' h' → K2 st' own' → wpAny (model prog w) A (execs more env) O E { s with heap := h', toks := tk }) :
    wpAny (model prog w) A (exec (.Try (.Assign [tgt] (.Call (.Name f p1) [a, b] [] p2) p3 :: more) [.ExceptHandler (some (.Name (Str.ofString "ZeroDivisionError") p4)) none hb p5] [] [] p6) env) O E s := by
  obtain ⟨⟨o, fd, ho, hd⟩, hc⟩ := (H.fn f g sp (fn_of_vc hf)).2
  refine PySem.wpAny_Try_except (wpAny_execs_cons (assign_exec (tgt_kind ht) ?_))
  refine Call_Name (trees_eq p2 hs) (glob_sound H F.fm hf fun v hv' => ?_)
  cases hv'
  refine callWith_function (o := o) (fd := fd) (wpAny_mono (evalArgs_sound S hv F.fm) (fun aa s₁ h₁ => ?_) fun _ _ x => x)
  obtain ⟨vs, rfl, ha, ds, r, q⟩ := h₁
  have F₁ := F.to ha.ext
  obtain ⟨h1, t1, rfl⟩ := ha.keep
  refine ⟨⟨F₁.fm.ext.get ho (fun vs e => by rw [hd] at e; cases e) (fun _ _ e => by rw [hd] at e; cases e), hd⟩, ?_⟩
  obtain ⟨u, v, rfl, q⟩ := dzVC.out q
  cases hv0 : (v == 0) with
  | true =>
    have e0 : v = 0 := by simpa using hv0
    subst e0
    obtain ⟨ne, hh⟩ := hh (iteP_true q rfl)
    cases hb with
    | nil => exact absurd rfl ne
    | cons b₀ suite =>
      exact Z.z g hdz A vs u _ _ _ F₁.fm.ext F₁.tab F₁.sx.room F₁.fr r fun h' tk e R' => catch_sound H F₁ R' hz (by decide) Z.g Z.b fun h₆ F₆ f₆ => hh h₆ tk _ F₆ f₆
  | false =>
    refine wpAny_mono (hc A vs _ _ _ _ F₁.fm.ext F₁.tab F₁.sx.room F₁.fr r (iteP_false q hv0)) (fun v' s₂ h₂ => ?_) fun _ _ x => x
    obtain ⟨a₂, d, rd, _, q₂⟩ := h₂.out
    obtain ⟨h2, t2, rfl⟩ := a₂.keep
    refine wpAny_mono (tgt_sound (F₁.to a₂.ext) rd q₂) (fun _ s₃ h₃ => ?_) fun _ _ x => x
    obtain ⟨_, h', tk, va', st', own', rfl, F₃, q₃⟩ := h₃
    refine wpAny_mono (hm _ h' tk va' st' own' F₃ q₃) (fun fl s₄ h₄ => ?_) fun _ _ x => x
    cases fl with
    | next => exact wpAny_execs_nil h₄
    | brk => exact h₄
    | cont => exact h₄
    | ret v => exact h₄
theorem handVC_ne {hb : List Stmt} {K : Kst} {R : D → Prop} (h : handVC nm st own hb K R) : hb ≠ [] := fun e => by subst e; exact h.elim
theorem try_core (H : CGood prog w I B mg mb C k) (Z : DZ prog w I B mg mb C k) {n : Nat} (T : BSnd prog w I B k C n) (F : Fs I B k A env nm h₀ P Kp va st own s.heap) {tgt a b : Expr} {f : Str} {p1 p2 p3 p4 p5 p6 : Pos} {more rest hb : List Stmt} {g : Addr} {sp : Spec} {K Bk : Kst} {R : D → Prop}
    (ht : tgtB tgt = true) (hz : (nm.lookup (Str.ofString "ZeroDivisionError") == some NameKind.globalImplicit && (st.lookup (Str.ofString "ZeroDivisionError")).isNone) = true) (hf : globVC C nm st f = some (.fn g sp)) (hdz : C.dz = some g) (hs : noStar [a, b] = true)
    (hv : argsVC ([a, b].map fun v K => vcE C n nm v st K) fun ds => dzVC ds (handVC nm st own hb (fun st ow => vcB C n nm rest st ow K Bk R) R)
                  (sp ds fun d => tgtVC nm st own tgt d fun st ow => vcB C n nm more st ow (fun st ow => vcB C n nm rest st ow K Bk R) Bk R)) :
    wpAny (model prog w) A (execs (.Try (.Assign [tgt] (.Call (.Name f p1) [a, b] [] p2) p3 :: more) [.ExceptHandler (some (.Name (Str.ofString "ZeroDivisionError") p4)) none hb p5] [] [] p6 :: rest) env) (OutP I B k A env nm h₀ P Kp K Bk R s) E s :=
  cons_out T (try_mid H Z (snd_all H n) F ht (by simpa using ((Bool.and_eq_true ..).mp hz).1) hf hdz hs hv
    (fun q => ⟨handVC_ne q, fun h₆ tk e F₆ f₆ => wpAny_mono (hand_sound (Bk := Bk) (s := { s with heap := h₆, toks := tk }) F₆ f₆ q) (fun fl s' h' => OutP.after ⟨h₆, tk, rfl⟩ h') fun _ _ x => x⟩)
    fun E h' tk va' st' own' F₃ q₃ => wpAny_mono (T nm more st' own' _ Bk R A env { s with heap := h', toks := tk } _ h₀ P Kp va' q₃ F₃) (fun fl s₄ h₄ => OutP.after ⟨h', tk, rfl⟩ h₄) fun _ _ x => x)

theorem try_sound (H : CGood prog w I B mg mb C k) (Z : DZ prog w I B mg mb C k) {n : Nat} (T : BSnd prog w I B k C n) : TSnd prog w I B k C n := by
  intro nm body hs o f p rest st own K Bk R A env s E h₀ P Kp va h F
  have h : (match try? body hs o f with
        | some p => tryVC C nm st own (fun e K => vcE C n nm e st K) p (fun st ow => vcB C n nm rest st ow K Bk R) R fun st ow => vcB C n nm p.more st ow (fun st ow => vcB C n nm rest st ow K Bk R) Bk R
        | none => False) := h
  cases ht : try? body hs o f with
  | none => rw [ht] at h; exact h.elim
  | some q =>
    rw [ht] at h
    obtain ⟨p1, p2, p3, p4, p5, rfl, rfl, rfl, rfl⟩ := try?_out ht
    obtain ⟨e, h1, h2, h3⟩ := h
    rw [e] at h2 ⊢
    cases hf : globVC C nm st q.f with
    | none => rw [hf] at h3; exact h3.elim
    | some g =>
      rw [hf] at h3
      cases g with
      | fn g sp => exact try_core H Z T F h1 h2 hf h3.1 h3.2.1 h3.2.2
      | _ => exact h3.elim
theorem try_none (hz : C.dz = none) {n : Nat} : TSnd prog w I B k C n := by
  intro nm body hs o f p rest st own K Bk R A env s E h₀ P Kp va h F
  have h : (match try? body hs o f with
        | some p => tryVC C nm st own (fun e K => vcE C n nm e st K) p (fun st ow => vcB C n nm rest st ow K Bk R) R fun st ow => vcB C n nm p.more st ow (fun st ow => vcB C n nm rest st ow K Bk R) Bk R
        | none => False) := h
  cases ht : try? body hs o f with
  | none => rw [ht] at h; exact h.elim
  | some q =>
    rw [ht] at h
    obtain ⟨e, h1, h2, h3⟩ := h
    cases hf : globVC C nm st q.f with
    | none => rw [hf] at h3; exact h3.elim
    | some g =>
      rw [hf] at h3
      cases g with
      | fn g sp => have := h3.1; rw [hz] at this; cases this
      | _ => exact h3.elim

theorem stm_try (H : CGood prog w I B mg mb C k) (Z : DZ prog w I B mg mb C k) (n : Nat) : BSnd prog w I B k C n := by
  induction n with
  | zero => exact stm_zero
  | succ n ih => exact stm_one H (try_sound H Z ih) ih
theorem stm_plain (H : CGood prog w I B mg mb C k) (hz : C.dz = none) (n : Nat) : BSnd prog w I B k C n := by
  induction n with
  | zero => exact stm_zero
  | succ n ih => exact stm_one H (try_none hz) ih
end
end Mine
end

section -- M30
open PySem PySem.W PyProof.Rows
set_option Elab.async false
set_option linter.unusedVariables false
namespace Mine
open PySem.SeqAt PySem.Calls

structure Tb where
  P : Addr
  c : Addr
  pos : Pos
  qual : Str
noncomputable def Tb.ok (t : Tb) (h : Heap) : Prop := h.get? t.P = some (tabObj #[]) ∨ ∃ c', h.get? t.P = some (tabObj #[rawInt t.pos.line, rawInt t.pos.col, .ref c']) ∧ h.CodeRec (.ref c') t.qual
noncomputable def tbI (bs : Heap) (l : List Tb) : TInv where
  base := bs
  ok h := ∀ t ∈ l, t.ok h ∧ bs.get? t.P = none
  keeps h h' k x := fun t ht => by
    refine ⟨?_, (x t ht).2⟩
    rcases (x t ht).1 with e | ⟨c', e, o, oc, vs, tt, e1, e2, e3, e4⟩
    · exact .inl (k _ _ e (.inl ⟨rfl, _, rfl⟩))
    · exact .inr ⟨c', k _ _ e (.inl ⟨rfl, _, rfl⟩), o, oc, vs, tt, e1, k _ _ e2 (.inr ⟨vs, _, tt, e3, e4⟩), e3, e4⟩

section
variable {prog : Program} {w : World} {bs : Heap} {l : List Tb} {B : Heap} {mg mb : Str → Option Value} {C : Cx} {k : Nat} {A : Around} {env : Env} {nm : Nm} {h₀ : Heap} {P : Addr → Prop} {Kp : Heap} {va : Va} {st : St} {own : List Str} {s : Shared} {E : Value → Shared → Prop} {n : Nat}

theorem CodeHd.ext {I : TInv} {h h' : Heap} {c P : Addr} (x : Ext I h h') (H : CodeHd h c P) : CodeHd h' c P := by
  have e : h'.get? c = h.get? c := by
    obtain ⟨o, vs, _, _, _, _, _, _, _, e, hc, hd, _⟩ := H
    exact (x.keep c o e (fun t => by have := t.1; rw [hc] at this; cases this) (fun es ep q => by rw [hd] at q; cases q)).trans e.symm
  unfold CodeHd at *
  rw [e]
  exact H
theorem builtinsAt_ext {I : TInv} {h h' : Heap} {mg : Va} {Pl : Addr} (x : Ext I h h') (H : h.BuiltinsAt mg Pl) : h'.BuiltinsAt mg Pl :=
  let ⟨bm, o, a, b, c, d, e, f, g, i⟩ := H
  ⟨bm, o, a, b, c, d, x.keep bm o e (fun t => by have := t.1; rw [f] at this; cases this) (fun es ep q => by rw [i] at q; cases q), f, g, i⟩

theorem pair_ne {t t' : Tb} : ∀ {l : List Tb}, (l.Pairwise fun a b => a.P ≠ b.P) → t ∈ l → t' ∈ l → t' ≠ t → t'.P ≠ t.P
  | y :: ys, hP, ht, ht', q => by
    obtain ⟨h1, h2⟩ := List.pairwise_cons.mp hP
    rcases List.mem_cons.mp ht with rfl | g <;> rcases List.mem_cons.mp ht' with rfl | g'
    · exact (q rfl).elim
    · exact fun e => h1 _ g' e.symm
    · exact h1 _ g
    · exact pair_ne h2 g g' q
theorem def_sound (H : CGood prog w (tbI bs l) B mg mb C k) {t : Tb} (ht : t ∈ l) (hP : l.Pairwise fun a b => a.P ≠ b.P) (hc : CodeHd B t.c t.P) (hgP : mainGlobals ≠ t.P) (hb : B.BuiltinsAt mg t.P) (hcode : env.code = .ref t.c)
    (F : Fs (tbI bs l) B k A env nm h₀ P Kp va st own s.heap) {name : Str} {params : Arguments} {body : List Stmt} {scope : Scope} {Q : Flow → Shared → Prop} {pos : Pos} (hpos : pos.line = t.pos.line ∧ pos.col = t.pos.col) (hq : qualnameIn env name name = t.qual)
    (hd0 : params.defaults = []) (hk0 : params.kw_defaults = []) (han : annTrees params none env = [])
    (hclo : ∀ n, (n, NameKind.free) ∈ scope.names → (env.cells.lookup n).isSome = true) (hk : nm.lookup name = some .local ∨ nm.lookup name = some .cell)
    (h : ∀ h' tk g o doc pm ctv c', Fs (tbI bs l) B k A env nm h₀ P Kp (upd va name (.ref g)) ((name, .clo g) :: st) (name :: without name own) h' → h'.get? g = some o → o.data = .func (fnX name t.qual params body scope (clOf env scope.names []) .none .none doc pm none (.ref c') ctv) →
      h'.CodeRec (.ref c') t.qual → (∀ {v : Value} {d : D}, Flat d → Rep s.heap v d → Rep h' v d) → Q .next { s with heap := h', toks := tk }) :
    wpAny (model prog w) A (exec (.FunctionDef name params body [] none [] scope none name pos) env) Q E s := by
  refine nestDef_K hd0 hk0 han ?_
  rw [hq]
  have xb := F.sx.base.trans F.ext
  have hgs := xb.ns H.g
  have hC := CodeHd.ext xb hc
  have hB := builtinsAt_ext xb hb
  have fin : ∀ (hm : Heap) (tk : Tok) (doc ctv : Value) (c' : Addr), Ext (tbI bs l) s.heap hm → hm.CodeRec (.ref c') t.qual →
      wpAny (model prog w) A (storeName env name (.ref hm.objs.size)) (fun _ s'' => Q .next s'') E { s with heap := hm.push (fnMade name t.qual params body scope (clOf env scope.names []) doc ((mg "__name__").getD .none) c' ctv), toks := tk } := fun hm tk doc ctv c' xm hcr => by
    have xp : Ext (tbI bs l) hm (hm.push (fnMade name t.qual params body scope (clOf env scope.names []) doc ((mg "__name__").getD .none) c' ctv)) := .push _ _
    have F₂ := F.to (xm.trans xp)
    have hg : (hm.push (fnMade name t.qual params body scope (clOf env scope.names []) doc ((mg "__name__").getD .none) c' ctv)).get? hm.objs.size = some (fnMade name t.qual params body scope (clOf env scope.names []) doc ((mg "__name__").getD .none) c' ctv) := Heap.get?_push_size _ rfl
    have fresh : s.heap.get? hm.objs.size = none := xm.fresh (Heap.get?_none_of_le (Nat.le_refl _))
    refine store_sound (s := { s with heap := _, toks := tk }) F₂ hk (.clo hg rfl) (.inr (.inr ⟨_, rfl⟩)) (fun _ => ?_) fun h' tk' F' keep _ _ oth => ?_
    · obtain ⟨a', e1, n1, n2, n3⟩ := F.newList (x := name) (v := .ref hm.objs.size) (d := .clo hm.objs.size) (.inr ⟨_, rfl, fresh⟩) rfl
      exact ⟨a', e1, n1, n2, n3⟩
    · have hcr' : h'.CodeRec (.ref c') t.qual := by
        obtain ⟨o, oc, vs, tt, e1, e2, e3, e4⟩ := hcr
        exact ⟨o, oc, vs, tt, e1, oth o oc (Heap.get?_push_of_some _ e2) (fun es ep q => by rw [e3] at q; cases q) (fun v q => by rw [e3] at q; cases q), e3, e4⟩
      exact h h' tk' hm.objs.size _ doc _ ctv c' F' (oth _ _ hg (fun es ep q => by cases q) (fun v q => by cases q)) rfl hcr' fun f r => keep f (r.ext (xm.trans xp))
  have hcl := closure_eq (env := env) (scope := scope) hclo
  have bn := (F.tab t ht).2
  rcases (F.tab t ht).1 with e | ⟨c', e, hcr⟩
  · refine makeFunction_K hcl F.sx.gl hgs hcode hC e trivial rfl hgP hB fun c' ctv doc hm tk hx hlo hhi hcr hent => fin hm tk doc ctv c' ?_ hcr
    refine ⟨fun b o eb nt nd => hx b o (fun q => ?_) eb, fun b o es ep eb d => ⟨o, hx b o (fun q => ?_) eb, rfl⟩, fun b o eb => ?_, fun b o eb cd => hx b o (fun q => ?_) eb, fun _ => ?_, fun b o q eb => hx b o (fun q' => by rw [q'] at q; rw [show (tbI bs l).base = bs from rfl, bn] at q; cases q) eb⟩
    · rw [q, e] at eb; cases eb; exact nt ⟨rfl, _, rfl⟩
    · rw [q, e] at eb; cases eb; cases d
    · by_cases q : b = t.P
      · rw [q]; exact ⟨_, hent⟩
      · exact ⟨o, hx b o q eb⟩
    · rw [q, e] at eb; cases eb
      obtain ⟨vs, q', tt, d, v⟩ := cd
      have : vs = #[] := by injection d with d; exact d.symm
      subst this
      simp at v
    · intro t' ht'
      refine ⟨?_, (F.tab t' ht').2⟩
      by_cases q : t' = t
      · subst q
        refine .inr ⟨c', ?_, hcr⟩
        rw [hent, hpos.1, hpos.2]; rfl
      · have hne : t'.P ≠ t.P := pair_ne hP ht ht' q
        rcases (F.tab t' ht').1 with e' | ⟨c'', e', o, oc, vs, tt, e1, e2, e3, e4⟩
        · exact .inl (hx _ _ hne e')
        · refine .inr ⟨c'', hx _ _ hne e', o, oc, vs, tt, e1, hx _ _ (fun q => ?_) e2, e3, e4⟩
          rw [q, e] at e2; cases e2
          have : vs = #[] := by injection e3 with d; exact d.symm
          subst this
          simp at e4
  · refine makeFunction_hit (cv := .ref c') hcl F.sx.gl hgs hcode hC e trivial ?_ hB fun ctv doc hm tk hx hsz => fin hm tk doc ctv c' (.of hx) (hcr.keeps hx)
    simp [codeAmong, rawInt, hpos.1, hpos.2]
end
end Mine
end

section -- M31
open PySem PySem.W PyProof.Rows
set_option Elab.async false
set_option linter.unusedVariables false
namespace Mine
open PySem.SeqAt PySem.Calls

noncomputable def okClo (nm : Nm) (xs : List Str) : Bool :=
  (nm.lookup ("__debug__" : Str)).isNone && (nm.lookup ("__classdict__" : Str)).isNone && (nm.all fun p => p.2 != .cell) && xs.all fun x => nm.lookup x == some .local
structure CloOK (B : Heap) (g : Addr) (fd : FuncData) (body : List Stmt) (nm : Nm) (xs : List Str) (fv : St) (ct : Va) : Prop where
  obj : ∃ o, B.get? g = some o ∧ o.data = .func fd
  lim : B.NoLimit
  code : B.CodeRec fd.code fd.qualname
  body : fd.body = .stmts body
  names : fd.scope.names = nm
  kind : fd.scope.kind = .function
  co : fd.scope.isCoroutine = false
  gen : fd.scope.isGenerator = false
  gl : fd.globals = mainGlobals
  bt : fd.builtins = builtinsNs
  bind : ∀ vs : List Value, vs.length = xs.length → bindArgs fd ⟨vs, []⟩ = pure (xs.zip vs)
  ok : okClo nm xs = true
  fre : ∀ x, nm.lookup x = some .free → ∃ c, fd.closure.lookup x = some c
  cel : ∀ x c, nm.lookup x = some .free → fd.closure.lookup x = some c → B.IsCell c (ct x)
  inj : ∀ x y c, fd.closure.lookup x = some c → fd.closure.lookup y = some c → x = y
  fvs : ∀ x d, fv.lookup x = some d → nm.lookup x = some .free ∧ Flat d ∧ ∃ v, ct x = some v ∧ Rep B v d

theorem AOK.depth {k : Nat} {A : Around} (a : AOK k A) : A.depth < recursionLimit := by have := a.dp; show A.depth < 1000; (first | lia | omega)

section
variable {prog : Program} {w : World} {I : TInv} {B B' : Heap} {mg mb : Str → Option Value} {C : Cx} {k : Nat} {A : Around} {nm : Nm} {s : Shared} {E : Value → Shared → Prop}

theorem call_clo {g : Addr} {fd : FuncData} {body : List Stmt} {xs : List Str} {fv : St} {ct : Va} {vs : List Value} {ds : List D} {Q : Value → Shared → Prop} (O : CloOK B g fd body nm xs fv ct) (x : Ext I B s.heap) (t : I.ok s.heap) (a : AOK (k + 1) A) (fr : FrOK I A s.heap) (r : RepL s.heap vs ds)
    (v1 : ds.length = xs.length) (v2 : ds.all flatB = true)
    (hb : ∀ h₁ tk₁ va, Fs I B k (A.deeper (callEnv fd s.heap.objs.size g)) (callEnv fd s.heap.objs.size g) nm s.heap (fun _ => False) s.heap va ((xs.zip ds).reverse ++ fv) [] h₁ → (∀ b o, s.heap.get? b = some o → h₁.get? b = some o) → (∀ y, nm.lookup y = some .free → va y = ct y) →
      wpAny (model prog w) (A.deeper (callEnv fd s.heap.objs.size g)) (execs body (callEnv fd s.heap.objs.size g)) (fun fl s' => Q (match fl with | .ret v => v | _ => .none) s')
        (fun e s' => wpAny (model prog w) (A.deeper (callEnv fd s.heap.objs.size g)) (leaving (callEnv fd s.heap.objs.size g) e) (fun _ s'' => E e s'') (fun e' s'' => E e' s'') s') { s with heap := h₁, toks := tk₁ }) :
    wpAny (model prog w) A (call (.ref g) vs) Q E s := by
  obtain ⟨o, ho, hd⟩ := O.obj
  have ok := O.ok
  unfold okClo at ok
  simp only [Bool.and_eq_true, List.all_eq_true] at ok
  obtain ⟨⟨⟨k1, k2⟩, k3⟩, k4⟩ := ok
  have k4 : ∀ y ∈ xs, nm.lookup y = some .local := fun y hy => by simpa using k4 y hy
  have lv : vs.length = xs.length := r.length.trans v1
  have hgo : s.heap.get? g = some o := x.get ho (fun vs e => by rw [hd] at e; cases e) (fun _ _ e => by rw [hd] at e; cases e)
  have hlim : s.heap.NoLimit := let ⟨mc, n1, n2⟩ := O.lim; ⟨mc, x.ns n1, n2⟩
  have ncell : ∀ y, nm.lookup y ≠ some .cell := fun y e => absurd (k3 _ (lookup_mem e)) (show ¬ (NameKind.cell != NameKind.cell) = true by decide)
  refine wpAny_runValue (codeAny_call_def a.depth hgo hd hlim (x.codeRec O.code) O.body (.of_eq (O.bind vs lv)) (fun y hy e => ?_) (fun y hy => ?_) (fun h₁ ns keep => ?_) O.co O.gen O.kind)
  · have := k3 y (by rw [← O.names]; exact hy)
    rw [e] at this; exact absurd this (by decide)
  · rw [O.names]; exact k4 _ (List.of_mem_zip (show (y.1, y.2) ∈ xs.zip vs from hy)).1
  · have x₁ : Ext I s.heap h₁ := .of keep
    have r₁ := r.ext x₁
    refine hb h₁ _ (fun y => if nm.lookup y = some .local then (xs.zip vs).reverse.lookup y else ct y) ?_ keep (fun y hy => if_neg (by rw [hy]; intro q; cases q))
    refine ⟨⟨x, a.deeper _, O.names, O.kind, O.gl, O.bt, by simpa using k1, by simpa using k2, Heap.get?_none_of_le (Nat.le_refl _), fun y c hy _ => absurd hy (ncell y), O.inj, fun y hy => ?_, let ⟨fr', e, _⟩ := fr; ⟨fr', Around.frames_deeper e⟩, rfl, (let ⟨_, _, _, lw⟩ := fr; lw)⟩, x₁.tabs t, ?_, x₁, ⟨⟨_, ns, fun y hy => ?_⟩, fun y c hy hc => ?_⟩, fun y d e => ?_, fun _ p => p.elim, fun _ hy => by cases hy⟩
    · rcases hy with e | e
      · exact absurd e (ncell y)
      · exact O.fre y e
    · obtain ⟨fr', e, g', lw⟩ := fr
      obtain ⟨o', es, ep, ho', hd', _⟩ := id ns
      exact ⟨_, Around.frames_deeper e, ⟨by show fd.scope.kind ≠ _; rw [O.kind]; decide, ⟨_, o', es, ep, rfl, ho', hd', lw _ (Heap.get?_none_of_le (Nat.le_refl _))⟩, g'.of fun b o es ep e d => ⟨o, es, ep, keep b o e, d⟩⟩, lw.ext x₁⟩
    · simp only [hy, if_true]
    · have hf : nm.lookup y = some .free := hy.elim (fun e => absurd e (ncell y)) id
      have hn : nm.lookup y ≠ some .local := by rw [hf]; intro q; cases q
      simp only [hn, if_false]
      exact x₁.isCell (x.isCell (O.cel y c hf hc))
    · rw [List.lookup_append] at e
      cases hl : (xs.zip ds).reverse.lookup y with
      | some d' =>
        rw [hl] at e
        have : d' = d := by simpa using e
        subst this
        obtain ⟨v, e1, e2, e3, e4⟩ := (zip_rep (y := y) (xs := xs) r₁).1 d' hl
        exact ⟨flatB_flat (List.all_eq_true.mp v2 d' e3), .inl (k4 y e4), v, by simp only [k4 y e4, if_true]; exact e1, e2⟩
      | none =>
        rw [hl] at e
        obtain ⟨f1, f2, v, f3, f4⟩ := O.fvs y d (by simpa using e)
        have hn : nm.lookup y ≠ some .local := by rw [f1]; intro q; cases q
        exact ⟨f2, .inr (.inr f1), v, by simp only [hn, if_false]; exact f3, (f4.ext x).ext x₁⟩

theorem goodF_clo {g : Addr} {fd : FuncData} {body : List Stmt} {xs : List Str} {fv : St} {ct : Va} {sp : Spec} {n : Nat} (O : CloOK B g fd body nm xs fv ct) (T : BSnd prog w I B k C n)
    (vc : ∀ ds Q, sp ds Q → ds.length = xs.length ∧ ds.all flatB = true ∧ vcB C n nm body ((xs.zip ds).reverse ++ fv) [] (fun _ _ => Q .none) (fun _ _ => False) Q) : GoodF prog w I B (k + 1) g sp := by
  obtain ⟨o, ho, hd⟩ := O.obj
  refine ⟨⟨o, fd, ho, hd⟩, fun A vs ds Q E s x t a fr r q => ?_⟩
  obtain ⟨v1, v2, v3⟩ := vc ds Q q
  refine call_clo O x t a fr r v1 v2 fun h₁ tk₁ va F _ _ => ?_
  refine wpAny_mono (T nm body _ _ _ _ Q _ _ { s with heap := h₁, toks := tk₁ } _ s.heap _ s.heap _ v3 F) (fun f' s' h' => ?_) fun _ _ y => y
  obtain ⟨h₂, tk₂, va₂, st₂, ow₂, rfl, F₂, hf⟩ := h'
  cases f' with
  | next => exact ⟨h₂, tk₂, .none, rfl, F₂.ext, .none, fun _ => .inl rfl, hf⟩
  | brk => exact hf.elim
  | cont => exact hf.elim
  | ret v => obtain ⟨d, q1, q2, q3⟩ := hf; exact ⟨h₂, tk₂, d, rfl, F₂.ext, q1, fun _ => q2, q3⟩

theorem GoodF.base {f : Addr} {sp : Spec} (x : Ext I B B') (h : GoodF prog w I B k f sp) : GoodF prog w I B' k f sp := by
  obtain ⟨⟨o, fd, ho, hd⟩, hc⟩ := h
  exact ⟨⟨o, fd, x.get ho (fun vs e => by rw [hd] at e; cases e) (fun _ _ e => by rw [hd] at e; cases e), hd⟩, fun A vs ds Q E s y t a fr r q => hc A vs ds Q E s (x.trans y) t a fr r q⟩
theorem CGood.base (x : Ext I B B') (H : CGood prog w I B mg mb C k) : CGood prog w I B' mg mb C k :=
  ⟨x.ns H.g, x.ns H.b, H.bi, fun y f sp e => ⟨(H.fn y f sp e).1, (H.fn y f sp e).2.base x⟩, H.ci, H.dbg, fun f sp e => (H.clo f sp e).base x⟩
theorem CGood.more {k' : Nat} (le : k ≤ k') (H : CGood prog w I B mg mb C k) : CGood prog w I B mg mb C k' :=
  ⟨H.g, H.b, H.bi, fun y f sp e => ⟨(H.fn y f sp e).1, (H.fn y f sp e).2.more le⟩, H.ci, H.dbg, fun f sp e => (H.clo f sp e).more le⟩
end
end Mine
end

section -- M32
open PySem PySem.W PyProof.Rows
set_option Elab.async false
set_option linter.unusedVariables false
namespace Mine
open PySem.SeqAt PySem.Calls

theorem clOf_names {env : Env} : ∀ {names : Nm} {acc : List (Str × Addr)} {p : Str × Addr}, p ∈ clOf env names acc → p ∈ acc ∨ (p.1, NameKind.free) ∈ names
  | [], _, _, h => .inl h
  | (n, k) :: r, acc, p, h => by
    rcases clOf_names (names := r) h with h | h
    · by_cases hk : (k == NameKind.free) = true
      · rw [if_pos hk] at h
        rcases List.mem_cons.mp h with rfl | h
        · refine .inr ?_
          have : k = .free := by simpa using hk
          subst this; exact List.mem_cons_self ..
        · exact .inl h
      · rw [if_neg hk] at h; exact .inl h
    · exact .inr (List.mem_cons_of_mem _ h)
theorem clOf_val {env : Env} {names : Nm} {x : Str} {c : Addr} (hf : ∀ n, (n, NameKind.free) ∈ names → (env.cells.lookup n).isSome = true) (h : (clOf env names []).lookup x = some c) : env.cells.lookup x = some c := by
  have hm := lookup_mem h
  have hx : (x, NameKind.free) ∈ names := (clOf_names hm).elim (fun e => by cases e) id
  rcases clOf_mem hm with e | e
  · cases e
  · obtain ⟨c', hc'⟩ := Option.isSome_iff_exists.mp (hf x hx)
    have e : c = (env.cells.lookup x).getD 0 := e
    rw [hc'] at e ⊢
    exact congrArg some (by simpa using e.symm)
noncomputable def okNest (nm : Nm) (names : Nm) : Bool := names.all fun p => p.2 != .free || nm.lookup p.1 == some .cell
theorem okNest_at {nm names : Nm} (h : okNest nm names = true) {x : Str} (hx : (x, NameKind.free) ∈ names) : nm.lookup x = some .cell := by
  have := List.all_eq_true.mp h _ hx
  simpa using this
noncomputable def fvOf (names : Nm) (st : St) : St := st.filter fun p => names.lookup p.1 == some .free

section
variable {prog : Program} {w : World} {bs : Heap} {l : List Tb} {B : Heap} {mg mb : Str → Option Value} {C : Cx} {k : Nat} {A : Around} {env : Env} {nm : Nm} {h₀ : Heap} {P : Addr → Prop} {Kp : Heap} {va : Va} {st : St} {own : List Str} {s : Shared} {E : Value → Shared → Prop} {n : Nat}

theorem clo_ok {h' : Heap} (F : Fs (tbI bs l) B k A env nm h₀ P Kp va st own h') (hlim : B.NoLimit) {g : Addr} {o : Obj} {name qual : Str} {params : Arguments} {body : List Stmt} {scope : Scope} {doc pm ctv : Value} {c' : Addr} {xs : List Str}
    (hg : h'.get? g = some o) (hd : o.data = .func (fnX name qual params body scope (clOf env scope.names []) .none .none doc pm none (.ref c') ctv)) (hcr : h'.CodeRec (.ref c') qual) (hn : okNest nm scope.names = true)
    (hk : scope.kind = .function) (hco : scope.isCoroutine = false) (hgen : scope.isGenerator = false) (hok : okClo scope.names xs = true)
    (hb : ∀ vs : List Value, vs.length = xs.length → bindArgs (fnX name qual params body scope (clOf env scope.names []) .none .none doc pm none (.ref c') ctv) ⟨vs, []⟩ = pure (xs.zip vs)) :
    CloOK h' g (fnX name qual params body scope (clOf env scope.names []) .none .none doc pm none (.ref c') ctv) body scope.names xs (fvOf scope.names st) va := by
  have xb := F.sx.base.trans F.ext
  have hcells : ∀ n, (n, NameKind.free) ∈ scope.names → (env.cells.lookup n).isSome = true := fun n hm => Option.isSome_iff_exists.mpr (F.sx.has n (.inl (okNest_at hn hm)))
  refine ⟨⟨o, hg, hd⟩, let ⟨mc, n1, n2⟩ := hlim; ⟨mc, xb.ns n1, n2⟩, hcr, rfl, rfl, hk, hco, hgen, rfl, rfl, hb, hok, fun x hx => ?_, fun x c hx hc => ?_, fun x y c hx hy => ?_, fun x d e => ?_⟩
  · obtain ⟨c, hc⟩ := F.sx.has x (.inl (okNest_at hn (lookup_mem hx)))
    exact ⟨c, clOf_lookup (lookup_mem hx) hc⟩
  · exact F.fh.cl x c (.inl (okNest_at hn (lookup_mem hx))) (clOf_val hcells hc)
  · exact F.sx.inj x y c (clOf_val hcells hx) (clOf_val hcells hy)
  · unfold fvOf at e
    rw [lookup_filter (P := fun z => scope.names.lookup z == some .free)] at e
    split at e
    · rename_i hf
      obtain ⟨f, _, v, hv, r⟩ := F.vars x d e
      exact ⟨by simpa using hf, f, v, hv, r⟩
    · cases e

theorem goodF_nest (H : CGood prog w (tbI bs l) B mg mb C k) {t : Tb} (ht : t ∈ l) (hP : l.Pairwise fun a b => a.P ≠ b.P) (hc : CodeHd B t.c t.P) (hgP : mainGlobals ≠ t.P) (hbt : B.BuiltinsAt mg t.P) {f : Addr} {fd : FuncData} (hcode : fd.code = .ref t.c)
    {name : Str} {params : Arguments} {ibody : List Stmt} {scope : Scope} {pos rp : Pos} {e : Expr} {xs xs' : List Str} (O : FnOK (tbI bs l) B f fd (.FunctionDef name params ibody [] none [] scope none name pos :: [.Return (some e) rp]) nm xs)
    (hpos : pos.line = t.pos.line ∧ pos.col = t.pos.col) (hq : ∀ env : Env, env.qual = fd.qualname ++ ".<locals>." → env.scope = fd.scope → qualnameIn env name name = t.qual)
    (hd0 : params.defaults = []) (hk0 : params.kw_defaults = []) (han : ∀ env, annTrees params none env = [])
    (hk : nm.lookup name = some .local ∨ nm.lookup name = some .cell) (hn : okNest nm scope.names = true) (hik : scope.kind = .function) (hico : scope.isCoroutine = false) (higen : scope.isGenerator = false) (hiok : okClo scope.names xs' = true)
    (hib : ∀ (cl : List (Str × Addr)) (doc pm cdv ct : Value) (vs : List Value), vs.length = xs'.length → bindArgs (fnX name t.qual params ibody scope cl .none .none doc pm none cdv ct) ⟨vs, []⟩ = pure (xs'.zip vs))
    {sp : Spec} {N J : Nat} (hz : C.dz = none) {spi : List D → Nat → Spec}
    (vi : ∀ ds Q, sp ds Q → ∀ g j ds' Q', spi ds (j + 1) ds' Q' → ds'.length = xs'.length ∧ ds'.all flatB = true ∧
      vcB { C with clo := some (g, spi ds j) } N scope.names ibody ((xs'.zip ds').reverse ++ fvOf scope.names ((name, .clo g) :: (xs.zip ds).reverse)) [] (fun _ _ => Q' .none) (fun _ _ => False) Q')
    (v0 : ∀ ds ds' Q', ¬ spi ds 0 ds' Q')
    (vr : ∀ ds Q, sp ds Q → ds.length = xs.length ∧ ds.all flatB = true ∧ ∀ g, vcE { C with clo := some (g, spi ds J) } N nm e ((name, .clo g) :: (xs.zip ds).reverse) fun d => d.lf = true ∧ Q d) : GoodF prog w (tbI bs l) B (k + J + 1) f sp := by
  obtain ⟨o, ho, hd⟩ := O.obj
  refine ⟨⟨o, fd, ho, hd⟩, fun A vs ds Q E s x tb a fr r q => ?_⟩
  obtain ⟨v1, v2, v3⟩ := vr ds Q q
  refine call_of O x tb a fr r v1 v2 fun h₁ tk₁ va F => ?_
  have H' := H.more (k' := k + J) (Nat.le_add_right ..)
  refine wpAny_execs_cons (def_sound H' ht hP hc hgP hbt (by exact hcode) (s := { s with heap := h₁, toks := tk₁ }) F hpos (hq _ rfl rfl) hd0 hk0 (han _) (fun n hm => Option.isSome_iff_exists.mpr (F.sx.has n (.inl (okNest_at hn hm)))) hk ?_)
  intro h₂ tk₂ g og doc pm ctv c' F₂ hg hgd hcr _
  have O' := clo_ok F₂ O.lim hg hgd hcr hn hik hico higen hiok (hib _ doc pm _ ctv)
  have xb := F₂.sx.base.trans F₂.ext
  have lev : ∀ j, GoodF prog w (tbI bs l) h₂ (k + j) g (spi ds j) := fun j => by
    induction j with
    | zero => exact ⟨O'.obj.imp fun o q => ⟨_, q⟩, fun _ _ ds' Q' _ _ _ _ _ _ _ q => (v0 ds ds' Q' q).elim⟩
    | succ j ih =>
      have Hj : CGood prog w (tbI bs l) h₂ mg mb { C with clo := some (g, spi ds j) } (k + j) := by
        have := (H.more (k' := k + j) (Nat.le_add_right ..)).base xb
        exact ⟨this.g, this.b, this.bi, this.fn, this.ci, this.dbg, fun f' sp' e => by cases e; exact ih⟩
      exact goodF_clo O' (stm_plain Hj hz N) (fun ds' Q' q' => vi ds Q q g j ds' Q' q')
  have HJ : CGood prog w (tbI bs l) h₂ mg mb { C with clo := some (g, spi ds J) } (k + J) := by
    have := H'.base xb
    exact ⟨this.g, this.b, this.bi, this.fn, this.ci, this.dbg, fun f' sp' e => by cases e; exact lev J⟩
  have Fm₂ : Fm (tbI bs l) h₂ (k + J) (A.deeper (callEnvC fd s.heap.objs.size f)) (callEnvC fd s.heap.objs.size f) nm ((name, .clo g) :: (xs.zip ds).reverse) h₂ := by
    have := F₂.fm
    exact ⟨.refl _, this.tab, this.room, this.fr, this.names, this.kind, this.gl, this.bt, this.dbg, this.cdt, this.ns⟩
  refine wpAny_execs_cons (wpAny_Return_some (wpAny_mono ((snd_all HJ N).1 nm e _ _ _ _ { s with heap := h₂, toks := tk₂ } _ (v3 g) Fm₂) (fun v s₃ h₃ => ?_) fun _ _ x => x))
  obtain ⟨⟨h₄, tk₄, rfl, x₄⟩, d, rd, _, hl, hQ⟩ := h₃.out
  exact ⟨h₄, tk₄, d, rfl, F₂.ext.trans x₄, rd, fun _ => .inl hl, hQ⟩
end
end Mine
end

section -- Q0
open PySem PySem.W PyProof.Rows
set_option Elab.async false
set_option linter.unusedVariables false
namespace Mine
open PySem.SeqAt PySem.Calls

theorem all_c {α : Type} {p : α → Prop} {a : α} {l : List α} (h : p a) (r : ∀ x ∈ l, p x) : ∀ x ∈ a :: l, p x := List.forall_mem_cons.mpr ⟨h, r⟩
theorem all_n {α : Type} {p : α → Prop} : ∀ x ∈ ([] : List α), p x := fun _ h => nomatch h
noncomputable def prg : Program := PySem.Challenge.pw_ta0023_01
noncomputable def stm (i : Nat) : Stmt := (prg.main.body.drop i).headD default
noncomputable def dfOf (s : Stmt) (pm cd : Value) : FuncData := match s with
  | .FunctionDef n ps b _ _ _ sc _ _ _ => docDef n ps b sc pm cd .none
  | _ => default
noncomputable def dfBd (s : Stmt) : List Stmt := match s with
  | .FunctionDef _ _ b _ _ _ _ _ _ _ => b
  | _ => []
noncomputable def dfSc (s : Stmt) : Scope := match s with
  | .FunctionDef _ _ _ _ _ _ sc _ _ _ => sc
  | _ => default
noncomputable def isDf (s : Stmt) : Bool := match s with
  | .FunctionDef .. => true
  | _ => false
noncomputable def fdOf (i : Nat) (pm cd : Value) : FuncData := dfOf (stm i) pm cd
noncomputable def bdOf (i : Nat) : List Stmt := dfBd (stm i)
noncomputable def scOf (i : Nat) : Scope := dfSc (stm i)
noncomputable def nmOf (i : Nat) : Nm := (scOf i).names

noncomputable def FnAt (B : Heap) (i a : Nat) (pm : Value) : Prop := (∃ o, B.get? a = some o ∧ o.data = .func (fdOf i pm (.ref (a - 1)))) ∧ B.CodeRec (.ref (a - 1)) (fdOf i pm (.ref (a - 1))).qualname
noncomputable def places : List (Nat × Nat) := [(2, 21), (4, 35), (5, 42), (6, 49), (7, 56), (9, 63), (10, 70), (12, 77), (14, 84), (15, 91), (16, 96), (17, 103), (18, 108), (19, 115), (20, 122)]
noncomputable def Lib (pm : Nat → Value) (B : Heap) : Prop := ∀ p ∈ places, FnAt B p.1 p.2 (pm p.1)

theorem ar_z {p : List Value → Prop} (h : p []) (vs : List Value) (e : vs.length = 0) : p vs := by
  rw [List.length_eq_zero_iff.mp e]; exact h
theorem ar_s {n : Nat} {p : List Value → Prop} (h : ∀ a vs, vs.length = n → p (a :: vs)) (vs : List Value) (e : vs.length = n + 1) : p vs := by
  cases vs with
  | nil => cases e
  | cons a r => exact h a r (Nat.succ.inj e)
theorem arity1 {p : List Value → Prop} (h : ∀ a, p [a]) (vs : List Value) (e : vs.length = 1) : p vs := ar_s (p := p) (fun a => ar_z (p := fun r => p (a :: r)) (h a)) vs e
theorem arity2 {p : List Value → Prop} (h : ∀ a b, p [a, b]) (vs : List Value) (e : vs.length = 2) : p vs := ar_s (p := p) (fun a => arity1 (p := fun r => p (a :: r)) (h a)) vs e
theorem arity3 {p : List Value → Prop} (h : ∀ a b c, p [a, b, c]) (vs : List Value) (e : vs.length = 3) : p vs := ar_s (p := p) (fun a => arity2 (p := fun r => p (a :: r)) (h a)) vs e
theorem isDf_out {s : Stmt} (h : isDf s = true) : ∃ n ps b d1 d2 d3 sc d4 d5 d6, s = .FunctionDef n ps b d1 d2 d3 sc d4 d5 d6 := by
  unfold isDf at h
  split at h
  · exact ⟨_, _, _, _, _, _, _, _, _, _, rfl⟩
  · cases h
noncomputable def fnB (i : Nat) (xs : List Str) : Bool := isDf (stm i) && (scOf i).kind == .function && !(scOf i).isCoroutine && !(scOf i).isGenerator && okNames (nmOf i) xs
theorem fn_ok {I : TInv} {B : Heap} {i a : Nat} {pm : Value} {xs : List Str} (h : FnAt B i a pm) (L : B.NoLimit) (hb : ∀ vs : List Value, vs.length = xs.length → bindArgs (fdOf i pm (.ref (a - 1))) ⟨vs, []⟩ = pure (xs.zip vs)) (q : fnB i xs = true) :
    FnOK I B a (fdOf i pm (.ref (a - 1))) (bdOf i) (nmOf i) xs := by
  obtain ⟨⟨o, ho, hd⟩, hc⟩ := h
  unfold fnB at q
  unfold fdOf at hb hd hc ⊢
  unfold nmOf scOf bdOf at *
  generalize stm i = s at *
  obtain ⟨n, ps, b, d1, d2, d3, sc, d4, d5, d6, rfl⟩ := isDf_out (s := s) (by
    cases e : isDf s with
    | true => rfl
    | false => rw [e] at q; cases q)
  simp only [Bool.and_eq_true, Bool.not_eq_true', beq_iff_eq] at q
  obtain ⟨⟨⟨⟨_, q1⟩, q2⟩, q3⟩, q4⟩ := q
  exact ⟨⟨o, ho, hd⟩, L, hc, rfl, rfl, q1, q2, q3, rfl, rfl, rfl, hb, q4⟩
end Mine
end

section -- Q3a
open PySem PySem.W PyProof.Rows
set_option Elab.async false
set_option linter.unusedVariables false
namespace Mine
open PySem.SeqAt PySem.Calls
noncomputable abbrev S (s : String) : Str := Str.ofString s
section
variable {prog : Program} {w : World} {bs : Heap} {l : List Tb} {pm : Nat → Value} {B : Heap}
theorem ok_near (X : Lib pm B) (L : B.NoLimit) : FnOK (tbI bs l) B 91 (fdOf 15 (pm 15) (.ref 90)) (bdOf 15) (nmOf 15) [S "part"] :=
  fn_ok (X (15, 91) (by decide)) L (arity1 fun a => rfl) rfl
theorem idx_ok {k : Int} {n : Nat} (h : (decide (-(n : Int) ≤ k) && decide (k < n) && decide (n ≤ 10000)) = true) : idxOK k n := by
  simp only [Bool.and_eq_true, decide_eq_true_eq] at h
  exact ⟨h.1.1, h.1.2, h.2⟩
end
end Mine
end

section -- M33
open PySem PySem.W PyProof.Rows
set_option Elab.async false
set_option linter.unusedVariables false
namespace Mine
open PySem.SeqAt PySem.Calls

theorem wp_app {M : Model} {Γ : Ctx} {env : Env} {q : List Stmt} {QQ : Flow → Pos → Shared → Prop} {EE : Value → Pos → Shared → Prop} : ∀ (P : List Stmt) (pos : Pos) (s : Shared),
    Sem.wp M Γ (execs P env) (fun f p' s' => match f with | .next => Sem.wp M Γ (execs q env) QQ EE p' s' | f => QQ f p' s') EE pos s → Sem.wp M Γ (execs (P ++ q) env) QQ EE pos s
  | [], pos, s, h => h
  | st :: P, pos, s, h => by
    rw [execs_cons, Sem.wp_bind'] at h
    rw [List.cons_append, execs_cons, Sem.wp_bind']
    refine Sem.wp_mono M Γ _ (fun f p' s' h' => ?_) (fun _ _ _ x => x) _ _ h
    cases f with
    | next => exact wp_app P p' s' h'
    | brk => exact h'
    | cont => exact h'
    | ret v => exact h'
theorem execs_app {M : Model} {A : Around} {env : Env} {P q : List Stmt} {Q : Flow → Shared → Prop} {E : Value → Shared → Prop} {s : Shared}
    (h : wpAny M A (execs P env) (fun f s' => match f with | .next => wpAny M A (execs q env) Q E s' | f => Q f s') E s) : wpAny M A (execs (P ++ q) env) Q E s := fun Γ p hΓ => by
  refine wp_app P p s (Sem.wp_mono M Γ _ (fun f p' s' h' => ?_) (fun _ _ _ x => x) _ _ (h Γ p hΓ))
  cases f with
  | next => exact h' Γ p' hΓ
  | brk => exact h'
  | cont => exact h'
  | ret v => exact h'

noncomputable def away (h : Heap) (a : Addr) : Heap := hideAll h [a]
theorem away_ne {h : Heap} {a b : Addr} {o : Obj} (e : h.get? b = some o) (n : b ≠ a) : (away h a).get? b = some o := hideAll_get _ e (by simpa using n)
theorem away_of {h : Heap} {a b : Addr} {o : Obj} (e : (away h a).get? b = some o) : h.get? b = some o := of_hideAll _ e
theorem away_self {h : Heap} {a : Addr} : (away h a).get? a = none := hideAll_none _ (by simp)
theorem away_at {h : Heap} {a b : Addr} {o : Obj} (e : (away h a).get? b = some o) : b ≠ a := fun q => by rw [q, away_self] at e; cases e

section
variable {prog : Program} {w : World} {I : TInv} {B : Heap} {k : Nat} {A : Around} {env : Env} {nm : Nm} {h₀ h h' h'' : Heap} {P : Addr → Prop} {Kp : Heap} {va : Va} {st : St} {own : List Str}

theorem ext_away {a : Addr} (nl : ∀ o, h.get? a = some o → ¬ (isTab o ∨ isCode o)) : Ext I (away h a) h :=
  ⟨fun b o e _ _ => away_of e, fun b o es ep e _ => ⟨o, away_of e, rfl⟩, fun b o e => ⟨o, away_of e⟩, fun b o e _ => away_of e, fun t => I.keeps _ _ (fun b o e _ => away_of e) t, fun b o _ e => away_of e⟩
theorem ok_away {a : Addr} (nl : ∀ o, h.get? a = some o → ¬ (isTab o ∨ isCode o)) (t : I.ok h) : I.ok (away h a) :=
  I.keeps _ _ (fun b o e r => away_ne e fun q => by rw [q] at e; exact nl o e r) t
theorem Ext.away2 {a : Addr} (x : Ext I (away h a) h') (y : Ext I (away h' a) h'') (nl : ∀ o, h'.get? a = some o → ¬ (isTab o ∨ isCode o)) : Ext I (away h a) h'' := by
  refine ⟨fun b o e nt nd => y.keep b o (away_ne (x.keep b o e nt nd) (away_at e)) nt nd, fun b o es ep e d => ?_, fun b o e => ?_, fun b o e c => y.code b o (away_ne (x.code b o e c) (away_at e)) c, fun t => y.tabs (ok_away nl (x.tabs t)), fun b o q e => y.old b o q (away_ne (x.old b o q e) (away_at e))⟩
  · obtain ⟨o', e', d'⟩ := x.dict b o es ep e d
    obtain ⟨o'', e'', d''⟩ := y.dict b o' es ep (away_ne e' (away_at e)) (d'.trans d)
    exact ⟨o'', e'', d''.trans d'⟩
  · obtain ⟨o', e'⟩ := x.there b o e
    exact y.there b o' (away_ne e' (away_at e))
theorem list_nr {a : Addr} {vs : Array Value} (l : h.PlainList a vs) : ∀ o, h.get? a = some o → ¬ (isTab o ∨ isCode o) := fun o e => by
  obtain ⟨k, e'⟩ := l
  rw [e'] at e; cases e
  exact not_rec fun vs q => by cases q
end
end Mine
end

section -- M34
open PySem PySem.W PyProof.Rows
set_option Elab.async false
set_option linter.unusedVariables false
namespace Mine
open PySem.SeqAt PySem.Calls

section
variable {prog : Program} {w : World} {I : TInv} {B : Heap} {k : Nat} {A : Around} {env : Env} {nm : Nm} {h₀ h h' h'' : Heap} {P : Addr → Prop} {Kp : Heap} {va : Va} {st : St} {own : List Str}

theorem away_none {a b : Addr} (e : h.get? b = none) : (away h a).get? b = none := by
  cases q : (away h a).get? b with
  | none => rfl
  | some o => rw [away_of q] at e; cases e
theorem Fs.away (F : Fs I B k A env nm h₀ P Kp va st own h) {a : Addr} (nl : ∀ o, h₀.get? a = some o → ¬ (isTab o ∨ isCode o)) (hb : B.get? a = none) (hbI : I.base.get? a = none) : Fs I B k A env nm (away h₀ a) P Kp va st own h := by
  have sx := F.sx
  refine ⟨⟨?_, sx.room, sx.names, sx.kind, sx.gl, sx.bt, sx.dbg, sx.cdt, away_none sx.loc, fun x c h1 h2 => away_none (sx.cel x c h1 h2), sx.inj, sx.has, sx.top, sx.frm, fun b n => by
    by_cases q : b = a
    · rw [q]; exact hbI
    · cases e : h₀.get? b with
      | none => exact sx.low b e
      | some o => rw [away_ne e q] at n; cases n⟩, F.tab, F.fr, (ext_away nl).trans F.ext, F.fh, F.vars, F.pk, fun y hy ds e => ?_⟩
  · have ne : ∀ {b : Addr} {o : Obj}, B.get? b = some o → b ≠ a := fun e q => by rw [q, hb] at e; cases e
    have x := sx.base
    refine ⟨fun b o e nt nd => away_ne (x.keep b o e nt nd) (ne e), fun b o es ep e d => ?_, fun b o e => ?_, fun b o e c => away_ne (x.code b o e c) (ne e), fun t => ok_away nl (x.tabs t), fun b o q e => away_ne (x.old b o q e) (ne e)⟩
    · obtain ⟨o', e', d'⟩ := x.dict b o es ep e d; exact ⟨o', away_ne e' (ne e), d'⟩
    · obtain ⟨o', e'⟩ := x.there b o e; exact ⟨o', away_ne e' (ne e)⟩
  · obtain ⟨b, e1, e2, e3, e4⟩ := F.own y hy ds e
    exact ⟨b, e1, away_none e2, e3, e4⟩

structure Past (I : TInv) (a : Addr) (h h' : Heap) : Prop where
  x : Ext I (away h a) h'
  l : ∃ vs, h.PlainList a vs
theorem Past.tuple {a : Addr} (p : Past I a h h') (b : Addr) (vs : Array Value) (t : h.IsTuple b vs) : h'.IsTuple b vs := by
  obtain ⟨ws, hl⟩ := p.l
  obtain ⟨o, e, c, k, d⟩ := id t
  refine p.x.isTuple ⟨o, away_ne e (fun q => ?_), c, k, d⟩
  subst q; exact list_ne_tuple hl.isList t
theorem Past.rep {a : Addr} (p : Past I a h h') {v : Value} {d : D} (f : Flat d) (hv : ∀ ds, d = .list ds → v ≠ .ref a) (r : Rep h v d) : Rep h' v d := by
  obtain ⟨ws, kl, hl⟩ := p.l
  rcases f with f | ⟨ds, rfl, f⟩ | ⟨g, rfl⟩
  · exact r.lf_keep p.tuple f
  · cases r with | @list b vs _ hl' rs =>
    obtain ⟨k, e⟩ := hl'
    exact .list (p.x.plainList ⟨k, away_ne e (fun q => hv ds rfl (by rw [q]))⟩) (rs.lf_keep p.tuple f)
  · cases r with | clo hg hd =>
    refine .clo (p.x.get (away_ne hg fun q => ?_) (fun vs e => by rw [hd] at e; cases e) (fun _ _ e => by rw [hd] at e; cases e)) hd
    rw [q, hl] at hg; cases hg; cases hd
theorem Past.common {a : Addr} (p : Past I a h h') (F : Fs I B k A env nm h₀ P Kp va st own h) (h0 : h₀.get? a = none) :
    I.ok h' ∧ FrOK I A h' ∧ Ext I h₀ h' ∧ Fh env nm va h' := by
  obtain ⟨ws, kl, hl⟩ := p.l
  have nr := list_nr (h := h) ⟨kl, hl⟩
  have ne : ∀ {b : Addr} {o : Obj}, h.get? b = some o → (∀ its k, o.data ≠ .seq its k) → b ≠ a := fun e nd q => by rw [q, hl] at e; cases e; exact nd _ _ rfl
  have ne0 : ∀ {b : Addr} {o : Obj}, h₀.get? b = some o → b ≠ a := fun e q => by rw [q, h0] at e; cases e
  refine ⟨p.x.tabs (ok_away nr F.tab), ?_, ?_, ?_, fun x c hk hc => ?_⟩
  · obtain ⟨fr, e, g, lw⟩ := F.fr
    refine ⟨fr, e, g.of fun b o es ep e d => ?_, fun b n => ?_⟩
    rotate_left
    · have n2 := p.x.fresh n
      by_cases q : b = a
      · rw [q]; exact F.sx.low a h0
      · cases e : h.get? b with
        | none => exact lw b e
        | some o => rw [away_ne e q] at n2; cases n2
    obtain ⟨o', e', d'⟩ := p.x.dict b o es ep (away_ne e (ne e fun its k q => by rw [d] at q; cases q)) d
    exact ⟨o', es, ep, e', d'.trans d⟩
  · have x := F.ext
    refine ⟨fun b o e nt nd => p.x.keep b o (away_ne (x.keep b o e nt nd) (ne0 e)) nt nd, fun b o es ep e d => ?_, fun b o e => ?_, fun b o e c => p.x.code b o (away_ne (x.code b o e c) (ne0 e)) c, fun t => p.x.tabs (ok_away nr (x.tabs t)), fun b o q e => p.x.old b o q (away_ne (x.old b o q e) (ne0 e))⟩
    · obtain ⟨o', e', d'⟩ := x.dict b o es ep e d
      obtain ⟨o'', e'', d''⟩ := p.x.dict b o' es ep (away_ne e' (ne0 e)) (d'.trans d)
      exact ⟨o'', e'', d''.trans d'⟩
    · obtain ⟨o', e'⟩ := x.there b o e
      exact p.x.there b o' (away_ne e' (ne0 e))
  · obtain ⟨m, hn, hm⟩ := F.fh.ns
    obtain ⟨o, es, ep, ho, hd, r⟩ := hn
    exact ⟨m, p.x.ns ⟨o, es, ep, away_ne ho (ne ho fun its k q => by rw [hd] at q; cases q), hd, r⟩, hm⟩
  · obtain ⟨o, e, d⟩ := F.fh.cl x c hk hc
    exact p.x.isCell ⟨o, away_ne e (ne e fun its k q => by rw [d] at q; cases q), d⟩

theorem Fs.past (F : Fs I B k A env nm h₀ P Kp va st own h) {a : Addr} (p : Past I a h h') (h0 : h₀.get? a = none) (hP : ¬ P a) (hv : ∀ y es, st.lookup y = some (.list es) → va y ≠ some (.ref a)) : Fs I B k A env nm h₀ P Kp va st own h' := by
  obtain ⟨c1, c2, c3, c4⟩ := p.common F h0
  refine ⟨F.sx, c1, c2, c3, c4, fun y d e => ?_, fun b pb => ?_, F.own⟩
  · obtain ⟨f, q, v, e1, r⟩ := F.vars y d e
    exact ⟨f, q, v, e1, p.rep f (fun es ed ev => hv y es (ed ▸ e) (by rw [e1, ev])) r⟩
  · obtain ⟨o, e1, e2, e3⟩ := F.pk b pb
    exact ⟨o, e1, p.x.keep b o (away_ne e2 fun q => hP (q ▸ pb)) e3.1 e3.2.2, e3⟩
theorem Fs.pastOwn (F : Fs I B k A env nm h₀ P Kp va st own h) {a : Addr} {x : Str} {ds ds' : List D} {vs' : List Value} (p : Past I a h h') (hx : x ∈ own) (hd : st.lookup x = some (.list ds)) (hv : va x = some (.ref a)) (hl' : h'.PlainList a (List.toArray vs')) (rs : RepL h' vs' ds') (lf : D.lfs ds' = true) :
    Fs I B k A env nm h₀ P Kp va ((x, .list ds') :: st) own h' := by
  obtain ⟨a', e1, n1, n2, n3⟩ := F.own x hx ds hd
  rw [hv] at e1; cases e1
  obtain ⟨c1, c2, c3, c4⟩ := p.common F n1
  have kind := (F.vars x _ hd).2.1
  refine ⟨F.sx, c1, c2, c3, c4, fun y d e => ?_, fun b pb => ?_, fun y hy es e => ?_⟩
  · by_cases q : y = x
    · subst q
      rw [lookup_cons_same] at e; cases e
      exact ⟨.inr (.inl ⟨ds', rfl, lf⟩), kind, _, hv, .list hl' rs⟩
    · rw [lookup_cons_ne q] at e
      obtain ⟨f, kk, v, hv', r⟩ := F.vars y d e
      exact ⟨f, kk, v, hv', p.rep f (fun es ed ev => n3 y es q (ed ▸ e) (by rw [hv', ev])) r⟩
  · obtain ⟨o, e1, e2, e3⟩ := F.pk b pb
    exact ⟨o, e1, p.x.keep b o (away_ne e2 fun q => n2 (q ▸ pb)) e3.1 e3.2.2, e3⟩
  · by_cases q : y = x
    · subst q
      refine ⟨a, hv, n1, n2, fun z es' hz e' => ?_⟩
      rw [lookup_cons_ne hz] at e'
      exact n3 z es' hz e'
    · rw [lookup_cons_ne q] at e
      obtain ⟨b, f1, f2, f3, f4⟩ := F.own y hy es e
      refine ⟨b, f1, f2, f3, fun z es' hz e' => ?_⟩
      by_cases q' : z = x
      · subst q'; exact f4 z ds hz hd
      · rw [lookup_cons_ne q'] at e'
        exact f4 z es' hz e'
end
end Mine
end

section -- N1
open PySem PySem.W PyProof.Rows
set_option Elab.async false
namespace Mine
noncomputable def digs (n : Nat) : Nat → Int → List Int
  | 0, _ => []
  | k + 1, a => a % 2 ^ n :: digs n k (a / 2 ^ n)
noncomputable def dval (n : Nat) : List Int → Int
  | [] => 0
  | x :: xs => x + dval n xs * 2 ^ n
theorem digs_length (n : Nat) : ∀ (k : Nat) (a : Int), (digs n k a).length = k
  | 0, _ => rfl
  | k + 1, a => by simp [digs, digs_length n k]
theorem p2 (n : Nat) : (0 : Int) < 2 ^ n := Int.pow_pos (by decide)
theorem digs_app (n : Nat) : ∀ (a b : Nat) (x : Int), digs n (a + b) x = digs n a x ++ digs n b (x / 2 ^ (n * a))
  | 0, b, x => by simp [digs]
  | a + 1, b, x => by
    rw [Nat.add_right_comm, digs, digs, digs_app n a b, List.cons_append, Int.ediv_ediv_of_nonneg (Int.le_of_lt (p2 n)), Nat.mul_succ, Nat.add_comm (n * a), Int.pow_add]
theorem mod_div {x p q : Int} (hp : 0 < p) : x % (p * q) / p = x / p % q := by
  rw [Int.emod_def x (p * q), Int.emod_def (x / p) q, ← Int.ediv_ediv_of_nonneg (Int.le_of_lt hp), Int.mul_assoc, Int.sub_eq_add_neg, ← Int.mul_neg, Int.add_mul_ediv_left _ _ (Int.ne_of_gt hp), ← Int.sub_eq_add_neg]
theorem digs_mod (n : Nat) : ∀ (a : Nat) (x : Int), digs n a (x % 2 ^ (n * a)) = digs n a x
  | 0, x => rfl
  | a + 1, x => by
    have e : (2 : Int) ^ (n * (a + 1)) = 2 ^ n * 2 ^ (n * a) := by rw [Nat.mul_succ, Nat.add_comm, Int.pow_add]
    rw [digs, digs, e, Int.emod_emod_of_dvd _ (Int.dvd_mul_right _ _)]
    rw [mod_div (p2 n), digs_mod n a]
theorem digs_lt (n : Nat) : ∀ (k : Nat) (a : Int), ∀ x ∈ digs n k a, 0 ≤ x ∧ x < 2 ^ n
  | k + 1, a, x, h => by
    rcases List.mem_cons.mp h with rfl | h
    · exact ⟨Int.emod_nonneg _ (Int.ne_of_gt (p2 n)), Int.emod_lt_of_pos _ (p2 n)⟩
    · exact digs_lt n k _ x h
theorem nat_and_high (x s : Nat) : x &&& (x / 2 ^ s * 2 ^ s) = x / 2 ^ s * 2 ^ s := by
  rw [← Nat.shiftRight_eq_div_pow, ← Nat.shiftLeft_eq]
  apply Nat.eq_of_testBit_eq
  intro i
  rw [Nat.testBit_and, Nat.testBit_shiftLeft, Nat.testBit_shiftRight]
  by_cases h : s ≤ i
  · simp [h, show s + (i - s) = i by (first | lia | omega)]
  · simp [h]
theorem xor_low {x : Int} (hx : 0 ≤ x) (s : Nat) : Builtin.bitXor x (x.fdiv (2 ^ s) * 2 ^ s) = x % 2 ^ s := by
  have hp := p2 s
  have e1 : x.fdiv (2 ^ s) = x / 2 ^ s := Int.fdiv_eq_ediv_of_nonneg _ (Int.le_of_lt hp)
  rw [bitXor_and, e1]
  obtain ⟨m, rfl⟩ := Int.eq_ofNat_of_zero_le hx
  have e2 : ((m : Int) / 2 ^ s * 2 ^ s) = ((m / 2 ^ s * 2 ^ s : Nat) : Int) := by
    rw [Int.natCast_mul, Int.natCast_ediv, Int.natCast_pow]; rfl
  have e3 : Builtin.bitAnd (m : Int) ((m : Int) / 2 ^ s * 2 ^ s) = (m : Int) / 2 ^ s * 2 ^ s := by
    rw [e2]
    unfold Builtin.bitAnd
    rw [decide_eq_true (Int.natCast_nonneg m), decide_eq_true (Int.natCast_nonneg _)]
    show ((m &&& (m / 2 ^ s * 2 ^ s) : Nat) : Int) = _
    rw [nat_and_high]
  rw [e3, Int.emod_def, Int.mul_comm ((m : Int) / 2 ^ s)]
  (first | lia | omega)
theorem dval_digs (n : Nat) : ∀ (k : Nat) (a : Int), 0 ≤ a → a < 2 ^ (n * k) → dval n (digs n k a) = a
  | 0, a, h1, h2 => by simp at h2; simp [digs, dval]; (first | lia | omega)
  | k + 1, a, h1, h2 => by
    have e : (2 : Int) ^ (n * (k + 1)) = 2 ^ n * 2 ^ (n * k) := by rw [Nat.mul_succ, Nat.add_comm, Int.pow_add]
    have h3 : a / 2 ^ n < 2 ^ (n * k) := by
      rw [e] at h2
      exact Int.ediv_lt_of_lt_mul (p2 n) (by rw [Int.mul_comm]; exact h2)
    rw [digs, dval, dval_digs n k _ (Int.ediv_nonneg h1 (Int.le_of_lt (p2 n))) h3, Int.mul_comm]
    have := Int.emod_add_mul_ediv a (2 ^ n)
    (first | lia | omega)
theorem dval_append (n : Nat) : ∀ (xs ys : List Int), dval n (xs ++ ys) = dval n xs + dval n ys * 2 ^ (n * xs.length)
  | [], ys => by simp [dval]
  | x :: xs, ys => by
    simp only [List.cons_append, dval, dval_append n xs ys, List.length_cons, Nat.mul_succ, Int.pow_add]
    grind
theorem dval_lt (n : Nat) : ∀ {xs : List Int}, (∀ x ∈ xs, 0 ≤ x ∧ x < 2 ^ n) → 0 ≤ dval n xs ∧ dval n xs < 2 ^ (n * xs.length)
  | [], _ => by simp [dval]
  | x :: xs, h => by
    obtain ⟨h1, h2⟩ := h x (List.mem_cons_self ..)
    obtain ⟨i1, i2⟩ := dval_lt n (xs := xs) fun y hy => h y (List.mem_cons_of_mem _ hy)
    have p : (0 : Int) < 2 ^ n := Int.pow_pos (by decide)
    simp only [dval, List.length_cons, Nat.mul_succ, Int.pow_add]
    refine ⟨Int.add_nonneg h1 (Int.mul_nonneg i1 (Int.le_of_lt p)), ?_⟩
    have i3 : dval n xs + 1 ≤ 2 ^ (n * xs.length) := i2
    have := Int.mul_le_mul_of_nonneg_right i3 (Int.le_of_lt p)
    rw [Int.add_mul] at this
    (first | lia | omega)

end Mine
end

section -- Q3b
open PySem PySem.W PyProof.Rows
set_option Elab.async false
set_option linter.unusedVariables false
namespace Mine
open PySem.SeqAt PySem.Calls

structure DgOK (n : Nat) (xs : List Int) : Prop where
  n1 : 1 ≤ n
  len : n * xs.length ≤ 200
  dig : ∀ x ∈ xs, 0 ≤ x ∧ x < 2 ^ n
noncomputable def spD2i : Spec := fun ds Q => ∃ (xs : List Int) (n : Nat), ds = [.list (xs.map .int), .int n] ∧ DgOK n xs ∧ Q (.int (dval n xs))
noncomputable def spIn (ds : List D) (j : Nat) : Spec := fun ds' Q => ∃ (xs : List Int) (n L R : Nat), ds = [.list (xs.map .int), .int n] ∧ DgOK n xs ∧ ds' = [.int L, .int R] ∧ L < R ∧ R ≤ xs.length ∧ R - L ≤ j ∧ Q (.int (dval n ((xs.drop L).take (R - L))))

theorem DgOK.len' {n : Nat} {xs : List Int} (h : DgOK n xs) : xs.length ≤ 200 := Nat.le_trans (Nat.le_mul_of_pos_left _ h.n1) h.len

theorem sub_lt {n : Nat} {xs : List Int} (h : DgOK n xs) (i m : Nat) : 0 ≤ dval n ((xs.drop i).take m) ∧ dval n ((xs.drop i).take m) < 2 ^ 200 := by
  obtain ⟨a, b⟩ := dval_lt n (xs := (xs.drop i).take m) fun x hx => h.dig x (List.mem_of_mem_drop (List.mem_of_mem_take hx))
  refine ⟨a, Int.lt_of_lt_of_le b ?_⟩
  have : n * ((xs.drop i).take m).length ≤ 200 := Nat.le_trans (Nat.mul_le_mul_left n (by simp; omega)) h.len
  exact_mod_cast Nat.pow_le_pow_right (by decide) this
theorem sm_of {a : Int} (h1 : 0 ≤ a) (h2 : a < 2 ^ 200) : sm a := by
  unfold sm
  have : (2 : Int) ^ 200 = 1606938044258990275541962092341162602522202993782792835301376 := by decide
  (first | lia | omega)
theorem halves {n : Nat} {xs : List Int} {L M R : Nat} (h1 : L ≤ M) (h2 : M ≤ R) (h3 : R ≤ xs.length) :
    dval n ((xs.drop M).take (R - M)) * 2 ^ (n * (M - L)) + dval n ((xs.drop L).take (M - L)) = dval n ((xs.drop L).take (R - L)) := by
  have e : R - L = (M - L) + (R - M) := by rw [Nat.add_comm, Nat.sub_add_sub_cancel h2 h1]
  have e2 : List.drop (M - L) (List.drop L xs) = List.drop M xs := by rw [List.drop_drop, Nat.add_sub_of_le h1]
  have e3 : ((xs.drop L).take (M - L)).length = M - L := by rw [List.length_take, List.length_drop]; exact Nat.min_eq_left (Nat.sub_le_sub_right (Nat.le_trans h2 h3) L)
  rw [e, List.take_add, e2, dval_append, e3, Int.add_comm]

noncomputable def dfBody : List Stmt → List Stmt
  | .FunctionDef _ _ b _ _ _ _ _ _ _ :: _ => b
  | _ => []
noncomputable def dfScope : List Stmt → Scope
  | .FunctionDef _ _ _ _ _ _ s _ _ _ :: _ => s
  | _ => default

theorem vi_d2i (C : Cx) (ds : List D) (g : Addr) (j : Nat) (ds' : List D) (Q' : D → Prop) (h : spIn ds (j + 1) ds' Q') :
    vcB { C with clo := some (g, spIn ds j) } 40 (dfScope (bdOf 5)).names (dfBody (bdOf 5)) (([S "L", S "R"].zip ds').reverse ++ fvOf (dfScope (bdOf 5)).names ((S "inner", .clo g) :: ([S "digits", S "n"].zip ds).reverse)) [] (fun _ _ => Q' .none) (fun _ _ => False) Q' := by
  obtain ⟨xs, n, L, R, rfl, ok, rfl, h1, h2, h3, hQ⟩ := h
  conv => whnf
  refine ⟨rfl, Nat.le_of_ble_eq_true rfl, ?_⟩
  have lenm : (List.map D.int xs).length = xs.length := List.length_map _
  have l200 := ok.len'
  refine iteP_intro (fun hc => ?_) (fun hc => ?_)
  · have hc : (L : Int) + 1 = R := by simpa [eqD] using hc
    conv => whnf
    refine ⟨⟨by (first | lia | omega), by rw [lenm]; (first | lia | omega), by rw [lenm]; (first | lia | omega)⟩, ?_⟩
    have e : (List.map D.int xs).getD (idx ↑L (List.map D.int xs).length) .none = .int (dval n (List.take (R - L) (List.drop L xs))) := by
      have hL : L < xs.length := by (first | lia | omega)
      have e1 : R - L = 1 := by (first | lia | omega)
      have e2 : idx (↑L) (List.map D.int xs).length = L := by unfold idx; rw [if_neg (by (first | lia | omega))]; rfl
      have e3 : List.take 1 (List.drop L xs) = [xs[L]] := by rw [List.drop_eq_getElem_cons hL]; rfl
      rw [e1, e2, e3]
      simp [dval, List.getD_eq_getElem?_getD, hL]
    show (D.lf _ || _) = true ∧ Q' _
    rw [e]
    exact ⟨rfl, hQ⟩
  · have hc : ¬ (L : Int) + 1 = R := by simpa [eqD] using hc
    conv => whnf
    refine ⟨by decide, ?_⟩
    conv => whnf
    refine ⟨rfl, ?_⟩
    conv => whnf
    have nsm : (n : Int).natAbs < 18446744073709551616 := by have := ok.len; have := ok.n1; have : n ≤ 200 := Nat.le_trans (Nat.le_mul_of_pos_right n (by (first | lia | omega))) ok.len; (first | lia | omega)
    refine ⟨.inr nsm, ?_⟩
    conv => whnf
    refine ⟨rfl, ?_⟩
    conv => whnf
    refine ⟨rfl, ?_⟩
    conv => whnf
    have hM : ((L : Int) + R).fdiv (2 ^ Int.toNat 1) = ((L + R) / 2 : Nat) := by
      show Int.fdiv _ 2 = _
      rw [Int.fdiv_eq_ediv_of_nonneg _ (by decide)]; (first | lia | omega)
    rw [hM]
    have m1 : L < (L + R) / 2 := by (first | lia | omega)
    have m2 : (L + R) / 2 < R := by (first | lia | omega)
    generalize (L + R) / 2 = M at m1 m2
    refine ⟨xs, n, M, R, rfl, ok, rfl, m2, h2, by (first | lia | omega), ?_⟩
    conv => whnf
    have sh : ((M : Int) - L) * n = ((n * (M - L) : Nat) : Int) := by
      rw [Nat.mul_comm, Int.natCast_mul, Int.ofNat_sub (Nat.le_of_lt m1)]
    have sl : n * (M - L) ≤ 200 := Nat.le_trans (Nat.mul_le_mul_left n (by (first | lia | omega))) ok.len
    obtain ⟨s1, s2⟩ := sub_lt ok M (R - M)
    rw [sh]
    refine ⟨by (first | lia | omega), by (first | lia | omega), sm_of s1 s2, ?_⟩
    conv => whnf
    refine ⟨rfl, ?_⟩
    conv => whnf
    refine ⟨xs, n, L, M, rfl, ok, rfl, m1, by (first | lia | omega), by (first | lia | omega), ?_⟩
    conv => whnf
    refine ⟨rfl, ?_⟩
    rw [← halves (Nat.le_of_lt m1) (Nat.le_of_lt m2) h2] at hQ
    exact hQ

noncomputable def posOf : List Stmt → Pos
  | .FunctionDef _ _ _ _ _ _ _ _ _ p :: _ => p
  | _ => default
noncomputable def retOf : List Stmt → Expr
  | [_, .Return (some e) _] => e
  | _ => .Constant .none 0 default
noncomputable def cxLen : Cx := { gl := [(S "len", .bi .len)] }
theorem vr_d2i (ds : List D) (Q : D → Prop) (h : spD2i ds Q) : ds.length = 2 ∧ ds.all flatB = true ∧
    ∀ g, vcE { cxLen with clo := some (g, spIn ds 200) } 40 (nmOf 5) (retOf (bdOf 5)) ((S "inner", .clo g) :: ([S "digits", S "n"].zip ds).reverse) fun d => d.lf = true ∧ Q d := by
  obtain ⟨xs, n, rfl, ok, hQ⟩ := h
  have lfs : D.lfs (xs.map D.int) = true := lfs_iff.mpr fun d hd => by obtain ⟨x, _, rfl⟩ := List.mem_map.mp hd; rfl
  have lenm : (List.map D.int xs).length = xs.length := List.length_map _
  have l200 := ok.len'
  refine ⟨rfl, by show (D.lfs _ && true) = true; rw [lfs]; rfl, fun g => ?_⟩
  conv => whnf
  refine ⟨by rw [lenm]; (first | lia | omega), ?_⟩
  refine iteP_intro (fun hc => ?_) (fun hc => ?_)
  · have hne : 0 < xs.length := by cases xs <;> first | (simp at hc; done) | simp
    conv => whnf
    refine ⟨rfl, ?_⟩
    conv => whnf
    refine ⟨by rw [lenm]; (first | lia | omega), ?_⟩
    conv => whnf
    refine ⟨xs, n, 0, xs.length, rfl, ok, by rw [lenm]; rfl, hne, Nat.le_refl _, by (first | lia | omega), rfl, ?_⟩
    simpa using hQ
  · have hne : xs = [] := by cases xs <;> first | rfl | (simp at hc; done)
    subst hne
    conv => whnf
    exact ⟨rfl, hQ⟩

section
variable {prog : Program} {w : World} {bs : Heap} {l : List Tb} {pm : Nat → Value} {B : Heap} {mg mb : Str → Option Value}
noncomputable def tbD : Tb := ⟨37, 41, posOf (bdOf 5), S "_digits2int.<locals>.inner"⟩
theorem ok_d2i (X : Lib pm B) (L : B.NoLimit) : FnOK (tbI bs l) B 42 (fdOf 5 (pm 5) (.ref 41)) (bdOf 5) (nmOf 5) [S "digits", S "n"] :=
  fn_ok (X (5, 42) (by decide)) L (arity2 fun a b => rfl) rfl
theorem good_d2i (X : Lib pm B) (L : B.NoLimit) (H : CGood prog w (tbI bs l) B mg mb cxLen 0) (ht : tbD ∈ l) (hP : l.Pairwise fun a b => a.P ≠ b.P) (hc : CodeHd B 41 37) (hbt : B.BuiltinsAt mg 37) : GoodF prog w (tbI bs l) B 201 42 spD2i := by
  refine goodF_nest H ht hP hc (show mainGlobals ≠ 37 by decide) hbt (f := 42) (fd := fdOf 5 (pm 5) (.ref 41)) rfl (nm := (nmOf 5)) (xs := [S "digits", S "n"]) (xs' := [S "L", S "R"]) (ok_d2i X L) ⟨rfl, rfl⟩ (fun env h1 h2 => ?_) rfl rfl (fun _ => rfl) (.inr rfl) rfl rfl rfl rfl rfl
    (fun cl doc pm cdv ct vs h => ?_) (sp := spD2i) (N := 40) (J := 200) rfl (spi := spIn) (fun ds Q _ g j ds' Q' h => ?_) (fun ds ds' Q' h => ?_) vr_d2i
  · unfold qualnameIn Env.kindOf
    rw [h2, h1]
    rfl
  · exact arity2 (p := fun vs => bindArgs _ ⟨vs, []⟩ = pure (List.zip _ vs)) (fun a b => rfl) vs h
  · have := vi_d2i  cxLen ds g j ds' Q' h
    obtain ⟨xs, n, L, R, _, _, rfl, _⟩ := h
    exact ⟨rfl, rfl, this⟩
  · obtain ⟨xs, n, L, R, _, _, _, h1, _, h2, _⟩ := h
    (first | lia | omega)
end
end Mine
end

section -- M35
open PySem PySem.W PyProof.Rows
set_option Elab.async false
set_option linter.unusedVariables false
namespace Mine
open PySem.SeqAt PySem.Calls

section
variable {prog : Program} {w : World} {A : Around} {E : Value → Shared → Prop} {s : Shared}
theorem setItem_plain {l : Addr} {vs : List Value} {j : Nat} {k : Int} {t : Tok} {v : Value} {Q : Unit → Shared → Prop} (hl : s.heap.PlainList l (List.toArray vs)) (hk : k = j) (hj : j < vs.length) (hz : vs.length ≤ 10000)
    (hQ : ∀ h', h'.PlainList l (List.toArray (vs.set j v)) → Heap.SameBut l s.heap h' → Q () { s with heap := h' }) : wpAny (model prog w) A (setItem (.ref l) (.int k t) v) Q E s := by
  have h0 : 0 ≤ k := by (first | lia | omega)
  have hfit : k < 2 ^ 63 := by (first | lia | omega)
  obtain ⟨n, ho⟩ := id hl
  have hlist := hl.isList
  have hj' : j < (List.toArray vs).size := by simpa using hj
  have hx' : (List.toArray vs)[j]? = some (List.toArray vs)[j] := Array.getElem?_eq_getElem hj'
  have hd : ({ cls := .type "list", data := .seq (List.toArray vs) n } : Obj).data = .seq (List.toArray vs) n := rfl
  have fin : (s.heap.update l (Obj.mapSeq (·.setIfInBounds j v))).PlainList l (List.toArray (vs.set j v)) := by
    have := plain_upd (fun x => x.setIfInBounds j v) ho
    simpa using this
  unfold setItem
  try with_reducible refine wpAny_holding ?_
  first | refine wpAny_bind (wpAny_pure ?_) | skip
  refine wpAny_bind (wpAny_sequenceKey hlist.typeIs (by decide) ?_)
  refine wpAny_bind (wpAny_callSpecial?_slot (name := Str.ofString "__setitem__") hlist.typeIs slot_list_setitem (wpAny_call_entry slot_list_setitem hlist.typeIs entry_list_setitem ?_ (args_list_setitem _ _ _)))
  show wpAny _ _ (Builtin.List.listSubscript? (.int k t) >>= _) _ _ s
  refine wpAny_bind (wpAny_listSubscript_int (fitsIndex_of h0 hfit) ?_)
  clear hfit h0
  subst hk
  show wpAny _ _ ((seqItemAt l j >>= fun r => pure (r.map (j, ·))) >>= _) _ _ s
  refine wpAny_bind (wpAny_bind (wpAny_seqItemAt ho hd (wpAny_pure ?_)))
  rw [hx']
  show wpAny _ _ (setSeqItemAt l j v >>= _) _ _ s
  refine wpAny_bind (wpAny_setSeqItemAt ho hd ?_)
  first
    | exact wpAny_bind (wpAny_pure (wpAny_pure ⟨.none, rfl, wpAny_pure (hQ _ fin (Heap.SameBut.update ..))⟩))
    | exact wpAny_pure ⟨.none, rfl, wpAny_pure (hQ _ fin (Heap.SameBut.update ..))⟩
end
end Mine
end

section -- M36
open PySem PySem.W PyProof.Rows
set_option Elab.async false
set_option linter.unusedVariables false
namespace Mine
open PySem.SeqAt PySem.Calls

noncomputable def put (n : Nat) (its : List Int) (x : Int) (L R : Nat) : List Int := its.take L ++ digs n (R - L) x ++ its.drop R
noncomputable def GoodM (prog : Program) (w : World) (I : TInv) (B : Heap) (k : Nat) (g al : Addr) (n j : Nat) : Prop :=
  (∃ o fd, B.get? g = some o ∧ o.data = .func fd) ∧
  ∀ (A : Around) (vs vs0 : List Value) (x : Int) (L R : Nat) (its : List Int) (Q E : Value → Shared → Prop) (s : Shared), Ext I B s.heap → I.ok s.heap → AOK k A → FrOK I A s.heap → RepL s.heap vs [.int x, .int L, .int R] →
    s.heap.PlainList al (List.toArray vs0) → RepL s.heap vs0 (its.map .int) → L < R → R ≤ its.length → its.length ≤ 200 → R - L ≤ j → 0 ≤ x → x < 2 ^ (n * (R - L)) → n * its.length ≤ 200 →
    (∀ h' tk vs', Past I al s.heap h' → h'.PlainList al (List.toArray vs') → RepL h' vs' ((put n its x L R).map .int) → Q .none { s with heap := h', toks := tk }) → wpAny (model prog w) A (call (.ref g) vs) Q E s

noncomputable def noLists (st : St) : Bool := st.all fun p => match p.2 with
  | .list _ => false
  | _ => true
theorem noLists_at {st : St} (h : noLists st = true) {y : Str} {es : List D} (e : st.lookup y = some (.list es)) : False := by
  have := List.all_eq_true.mp h _ (lookup_mem e)
  simp at this

section
variable {prog : Program} {w : World} {I : TInv} {B : Heap} {mg mb : Str → Option Value} {C : Cx} {k : Nat} {A : Around} {env : Env} {nm : Nm} {h₀ : Heap} {P : Addr → Prop} {Kp : Heap} {va : Va} {st : St} {own : List Str} {s : Shared} {E : Value → Shared → Prop} {N : Nat}

theorem call_m (S : Snd prog w I B k C N) (F : Fs I B k A env nm h₀ P Kp va st own s.heap) {B2 : Heap} (hB : Ext I B2 s.heap) {g al : Addr} {n j : Nat} (G : GoodM prog w I B2 k g al n j) {f : Str} {p1 p2 p3 : Pos} {args : List Expr} {x : Int} {L R : Nat} {its : List Int} {vs0 : List Value} {Q : Flow → Shared → Prop}
    (hf : st.lookup f = some (.clo g)) (hs : noStar args = true) (ha : argsVC (args.map fun v K => vcE C N nm v st K) fun ds => ds = [.int x, .int L, .int R])
    (hl : s.heap.PlainList al (List.toArray vs0)) (rl : RepL s.heap vs0 (its.map .int)) (h1 : L < R) (h2 : R ≤ its.length) (h3 : its.length ≤ 200) (h4 : R - L ≤ j) (h5 : 0 ≤ x) (h6 : x < 2 ^ (n * (R - L))) (h7 : n * its.length ≤ 200)
    (hQ : ∀ h' tk vs', Past I al s.heap h' → h'.PlainList al (List.toArray vs') → RepL h' vs' ((put n its x L R).map .int) → Q .next { s with heap := h', toks := tk }) :
    wpAny (model prog w) A (exec (.Expr (.Call (.Name f p1) args [] p2) p3) env) Q E s := by
  refine wpAny_Expr_any ?_ F.interactive rfl
  obtain ⟨_, _, v, hv, r⟩ := F.vars f _ hf
  cases r with | clo _ _ =>
  refine Call_Name (trees_eq p2 hs) (F.name hf hv ?_)
  obtain ⟨⟨o, fd, ho, hd⟩, hc⟩ := G
  refine callWith_function (o := o) (fd := fd) (wpAny_mono (evalArgs_sound S ha F.fm) (fun aa s₁ h₁ => ?_) fun _ _ x => x)
  obtain ⟨vs, rfl, a, ds, rd, rfl⟩ := h₁
  have F₁ := F.to a.ext
  refine ⟨⟨(hB.trans a.ext).get ho (fun vs e => by rw [hd] at e; cases e) (fun _ _ e => by rw [hd] at e; cases e), hd⟩, ?_⟩
  have hl₁ := a.ext.plainList hl
  refine hc A vs vs0 x L R its _ _ s₁ (hB.trans a.ext) F₁.tab F₁.sx.room F₁.fr rd hl₁ (rl.ext a.ext) h1 h2 h3 h4 h5 h6 h7 fun h' tk vs' p l' r' => ?_
  obtain ⟨ha', tka, rfl, xa⟩ := a
  refine hQ h' tk vs' ⟨?_, ⟨_, hl⟩⟩ l' r'
  have := p.x
  exact Ext.away2 ((ext_away (list_nr hl)).trans xa) p.x (list_nr hl₁)
end
end Mine
end

section -- M37
open PySem PySem.W PyProof.Rows
set_option Elab.async false
set_option linter.unusedVariables false
namespace Mine
open PySem.SeqAt PySem.Calls

theorem put_one {n : Nat} {its : List Int} {x : Int} {L : Nat} (h : L < its.length) (h1 : 0 ≤ x) (h2 : x < 2 ^ n) : put n its x L (L + 1) = its.set L x := by
  unfold put
  rw [show L + 1 - L = 1 by (first | lia | omega)]
  simp only [digs]
  rw [Int.emod_eq_of_lt h1 h2, List.set_eq_take_append_cons_drop, if_pos h]
  simp
theorem put_two {n : Nat} {its : List Int} {x : Int} {L M R : Nat} (h1 : L < M) (h2 : M < R) (h3 : R ≤ its.length) : put n (put n its (x % 2 ^ (n * (M - L))) L M) (x / 2 ^ (n * (M - L))) M R = put n its x L R := by
  have e : R - L = (M - L) + (R - M) := by (first | lia | omega)
  unfold put
  rw [e, digs_app, digs_mod]
  have l1 : (List.take L its ++ digs n (M - L) x).length = M := by simp [digs_length]; (first | lia | omega)
  have t1 : List.take M (List.take L its ++ digs n (M - L) x ++ List.drop M its) = List.take L its ++ digs n (M - L) x := by
    rw [List.take_append_of_le_length (by (first | lia | omega)), List.take_of_length_le (by (first | lia | omega))]
  have d1 : List.drop R (List.take L its ++ digs n (M - L) x ++ List.drop M its) = List.drop R its := by
    rw [List.drop_append, l1, List.drop_of_length_le (by (first | lia | omega)), List.nil_append, List.drop_drop]
    congr 1; (first | lia | omega)
  rw [t1, d1]
  simp only [List.append_assoc]
theorem put_length {n : Nat} {its : List Int} {x : Int} {L R : Nat} (h1 : L ≤ R) (h3 : R ≤ its.length) : (put n its x L R).length = its.length := by
  unfold put
  simp [digs_length]; (first | lia | omega)
end Mine
end

section -- M38
open PySem PySem.W PyProof.Rows
set_option Elab.async false
set_option linter.unusedVariables false
namespace Mine
open PySem.SeqAt PySem.Calls

section
variable {prog : Program} {w : World} {I : TInv} {B : Heap} {mg mb : Str → Option Value} {C : Cx} {k : Nat} {nm : Nm} {N : Nat}

theorem ints_any {h h' : Heap} : ∀ {xs : List Int} {vs : List Value}, RepL h vs (xs.map .int) → RepL h' vs (xs.map .int)
  | [], _, r => by cases r; exact .nil
  | x :: xs, _, .cons r rs => by cases r; exact .cons (.int _ _) (ints_any rs)

theorem ints_set {h h' : Heap} {x : Int} {t : Tok} : ∀ {xs : List Int} {vs : List Value} {L : Nat}, RepL h vs (xs.map .int) → RepL h' (vs.set L (.int x t)) ((xs.set L x).map .int)
  | [], _, _, r => by cases r; exact .nil
  | y :: xs, _, 0, .cons r rs => .cons (.int _ _) (ints_any rs)
  | y :: xs, _, L + 1, .cons r rs => by cases r; exact .cons (.int _ _) (ints_set rs)

theorem inner_step (H : CGood prog w I B mg mb C k) (hz : C.dz = none) {g al : Addr} {fd : FuncData} {n j : Nat} {fv : St} {ct : Va} {ad lN xN rN iN : Str} {test : Expr} {p1 p2 p3 p4 p5 p6 p7 q1 q2 q3 q4 q5 q6 : Pos} {s1 s2 s3 s4 : Stmt} {as bs : List Expr}
    (O : CloOK B g fd (.If test [.Assign [.Subscript (.Name ad p1) (.Name lN p2) p3] (.Name xN p4) p5, .Return none p6] [] p7 :: s1 :: s2 :: s3 :: s4 ::
      [.Expr (.Call (.Name iN q1) as [] q2) q3, .Expr (.Call (.Name iN q4) bs [] q5) q6]) nm [xN, lN, rN] fv ct)
    (hal : B.get? al = none) (hbI : I.base.get? al = none) (had : nm.lookup ad = some .free) (hct : ct ad = some (.ref al)) (has : noStar as = true) (hbs : noStar bs = true) (G : GoodM prog w I B k g al n j)
    (hl : ∀ a b c : D, ([(rN, a), (lN, b), (xN, c)] ++ fv).lookup lN = some b) (hx : ∀ a b c : D, ([(rN, a), (lN, b), (xN, c)] ++ fv).lookup xN = some c) (hcd : (ad == ("__classdict__" : Str)) = false)
    (v1 : ∀ (x : Int) (L : Nat), vcT C N nm test ([(rN, .int ((L : Int) + 1)), (lN, .int L), (xN, .int x)] ++ fv) fun b => b = true)
    (v2 : ∀ (x : Int) (L M R : Nat), L < M → M < R → M = (L + R) / 2 → 0 ≤ x → x < 2 ^ (n * (R - L)) → n * (R - L) ≤ 200 →
      vcB C N nm (.If test [.Assign [.Subscript (.Name ad p1) (.Name lN p2) p3] (.Name xN p4) p5, .Return none p6] [] p7 :: s1 :: s2 :: s3 :: [s4]) ([(rN, .int R), (lN, .int L), (xN, .int x)] ++ fv) []
        (fun st ow => st.lookup iN = some (.clo g) ∧ noLists st = true ∧ argsVC (as.map fun v K => vcE C N nm v st K) (fun ds => ds = [.int (x % 2 ^ (n * (M - L))), .int L, .int M]) ∧
          argsVC (bs.map fun v K => vcE C N nm v st K) (fun ds => ds = [.int (x / 2 ^ (n * (M - L))), .int M, .int R])) (fun _ _ => False) (fun _ => False)) :
    GoodM prog w I B (k + 1) g al n (j + 1) := by
  refine ⟨O.obj.imp fun o q => ⟨_, q⟩, fun A vs vs0 x L R its Q E s xB t a fr r hpl rl h1 h2 h3 h4 h5 h6 h7 hQ => ?_⟩
  have S := snd_all H N (prog := prog) (w := w) (I := I) (B := B)
  have T := stm_plain H hz N (prog := prog) (w := w) (I := I)
  refine call_clo O xB t a fr r rfl rfl fun h₁ tk₁ va F keep hva => ?_
  have hpl₁ : h₁.PlainList al (List.toArray vs0) := hpl.at fun o e => keep _ o e
  have x₁ : Ext I s.heap h₁ := .of keep
  have rl₁ := rl.ext x₁
  have F' := F.away (a := al) (list_nr hpl) hal hbI
  by_cases hc : L + 1 = R
  · subst hc
    have e1 : n * (L + 1 - L) = n := by rw [show L + 1 - L = 1 by (first | lia | omega), Nat.mul_one]
    rw [e1] at h6
    have F0 := F.fm
    refine wpAny_execs_cons (wpAny_If (wpAny_mono (S.2 nm test _ _ _ _ { s with heap := h₁, toks := tk₁ } _ (v1 x L) F.fm) (fun b s₂ h₂ => ?_) fun _ _ x => x))
    obtain ⟨a₂, rfl⟩ := h₂
    simp only [if_true]
    have F₂ := F.to a₂.ext
    obtain ⟨h₂, tk₂, rfl, x₂⟩ := a₂
    have hpl₂ : h₂.PlainList al (List.toArray vs0) := x₂.plainList hpl₁
    have len0 : vs0.length = its.length := by have := rl.length; simpa using this
    have kd : ∀ y, (callEnv fd s.heap.objs.size g).kindOf y = nm.lookup y := fun y => by unfold Env.kindOf; rw [F.sx.names]
    obtain ⟨_, _, vx, hvx, rx⟩ := F₂.vars xN _ (hx _ _ _)
    obtain ⟨_, _, vl, hvl, rl'⟩ := F₂.vars lN _ (hl _ _ _)
    cases rl' with | int _ tl =>
    cases rx with | int _ tx =>
    obtain ⟨c, hcl⟩ := F₂.sx.has ad (.inr had)
    have hcell := F₂.fh.cl ad c (.inr had) hcl
    rw [hva ad had, hct] at hcell
    have hcell : h₂.IsCell c (some (.ref al)) := hcell
    refine wpAny_execs_cons (PySem.wpAny_Assign_Subscript (F₂.name (s := { s with heap := h₂, toks := tk₂ }) (hx _ _ _) hvx ?_) rfl)
    refine wpAny_Name (wpAny_loadName_free F₂.sx.kind ((kd ad).trans had) hcl hcell ?_ hcd) (F₂.fm.no had)
    refine F₂.name (s := { s with heap := h₂, toks := tk₂ }) (hl _ _ _) hvl ?_
    refine setItem_plain (s := { s with heap := h₂, toks := tk₂ }) hpl₂ rfl (by (first | lia | omega)) (by (first | lia | omega)) fun h₃ l₃ sb => ?_
    have xa := ((ext_away (a := al) (list_nr hpl)).trans F₂.ext)
    have xa₃ : Ext I (away s.heap al) h₃ := by
      obtain ⟨kk, e⟩ := id hpl₂
      exact xa.but1 away_self e (not_rec fun vs q => by cases q) sb
    refine wpAny_execs_cons (wpAny_Return_none ?_)
    refine hQ h₃ tk₂ _ ⟨xa₃, ⟨_, hpl⟩⟩ l₃ ?_
    rw [put_one (by (first | lia | omega)) h5 h6]
    exact ints_set rl
  · have m1 : L < (L + R) / 2 := by (first | lia | omega)
    have m2 : (L + R) / 2 < R := by (first | lia | omega)
    have vv := v2 x L ((L + R) / 2) R m1 m2 rfl h5 h6 (Nat.le_trans (Nat.mul_le_mul_left n (by (first | lia | omega))) h7)
    generalize (L + R) / 2 = M at m1 m2 vv
    have Fp := F'.pin (S := fun b => b = al) (fun b hb => by
      obtain ⟨kk, e⟩ := id hpl₁
      exact ⟨_, hb ▸ e, not_rec (fun vs q => by cases q), (fun v q => by cases q), fun es ep q => by cases q⟩) (fun y hy => by cases hy)
    refine execs_app (P := _ :: s1 :: s2 :: s3 :: [s4]) (wpAny_mono (T nm _ _ _ _ _ _ _ _ { s with heap := h₁, toks := tk₁ } _ _ _ _ va vv Fp) (fun f s₂ h₂ => ?_) fun _ _ x => x)
    obtain ⟨h₂, tk₂, va₂, st₂, ow₂, rfl, F₂, hf⟩ := h₂
    obtain ⟨F₃, _, keep₃⟩ := F'.unpin F₂
    cases f with
    | brk => exact hf.elim
    | cont => exact hf.elim
    | ret v => obtain ⟨d, _, _, q⟩ := hf; exact q.elim
    | next =>
      obtain ⟨k1, k2, k3, k4⟩ := hf
      have nl : ∀ y es, st₂.lookup y = some (.list es) → va₂ y ≠ some (.ref al) := fun y es e => (noLists_at k2 e).elim
      have hpl₂ : h₂.PlainList al (List.toArray vs0) := hpl₁.at fun o e => keep₃ al rfl o e
      have pw : (2 : Int) ^ (n * (R - L)) = 2 ^ (n * (M - L)) * 2 ^ (n * (R - M)) := by rw [← Int.pow_add, ← Nat.mul_add]; congr 2; (first | lia | omega)
      have lo1 : 0 ≤ x % 2 ^ (n * (M - L)) := Int.emod_nonneg _ (Int.ne_of_gt (Mine.p2 _))
      have lo2 : x % 2 ^ (n * (M - L)) < 2 ^ (n * (M - L)) := Int.emod_lt_of_pos _ (Mine.p2 _)
      have up1 : 0 ≤ x / 2 ^ (n * (M - L)) := Int.ediv_nonneg h5 (Int.le_of_lt (Mine.p2 _))
      have up2 : x / 2 ^ (n * (M - L)) < 2 ^ (n * (R - M)) := Int.ediv_lt_of_lt_mul (Mine.p2 _) (by rw [Int.mul_comm, ← pw]; exact h6)
      refine wpAny_execs_cons (call_m (s := { s with heap := h₂, toks := tk₂ }) S F₃ F₃.fm.ext G k1 has k3 hpl₂ (ints_any rl) m1 (by (first | lia | omega)) h3 (by (first | lia | omega)) lo1 lo2 h7 fun h₄ tk₄ vs4 p4 l4 r4 => ?_)
      have F₄ := F₃.past p4 away_self (fun q => q.elim) nl
      have le4 := put_length (n := n) (its := its) (x := x % 2 ^ (n * (M - L))) (L := L) (R := M) (by (first | lia | omega)) (by (first | lia | omega))
      refine wpAny_execs_cons (call_m (s := { s with heap := h₄, toks := tk₄ }) S F₄ F₄.fm.ext G k1 hbs k4 l4 r4 m2 (by (first | lia | omega)) (by (first | lia | omega)) (by (first | lia | omega)) up1 up2 (by rw [le4]; exact h7) fun h₅ tk₅ vs5 p5 l5 r5 => ?_)
      refine wpAny_execs_nil ?_
      rw [put_two m1 m2 h2] at r5
      have F₅ := F₄.past p5 away_self (fun q => q.elim) nl
      exact hQ h₅ tk₅ vs5 ⟨F₅.ext, ⟨_, hpl⟩⟩ l5 r5
end
end Mine
end

section -- M39
open PySem PySem.W PyProof.Rows
set_option Elab.async false
set_option linter.unusedVariables false
namespace Mine
open PySem.SeqAt PySem.Calls

theorem Past.repAway {h : Heap} {al : Addr} {ws : Array Value} (hl : h.PlainList al ws) {v : Value} {d : D} (f : d.lf = true ∨ ∃ g, d = .clo g) (r : Rep h v d) : Rep (away h al) v d := by
  obtain ⟨kl, e0⟩ := id hl
  rcases f with f | ⟨g, rfl⟩
  · refine r.lf_keep (fun a vs t => ?_) f
    obtain ⟨o, e, c, k, d⟩ := id t
    exact ⟨o, away_ne e (fun q => by subst q; exact list_ne_tuple hl.isList t), c, k, d⟩
  · cases r with | clo hg hd =>
    exact .clo (away_ne hg fun q => by rw [q, e0] at hg; cases hg; cases hd) hd

theorem CloOK.away {h : Heap} {g al : Addr} {fd : FuncData} {body : List Stmt} {nm : Nm} {xs : List Str} {fv fv' : St} {ct : Va} {ws : Array Value} (O : CloOK h g fd body nm xs fv ct) (hl : h.PlainList al ws)
    (hf : ∀ x d, fv'.lookup x = some d → fv.lookup x = some d ∧ (d.lf = true ∨ ∃ g, d = .clo g)) : CloOK (away h al) g fd body nm xs fv' ct := by
  obtain ⟨kl, e0⟩ := id hl
  have ne : ∀ {b : Addr} {o : Obj}, h.get? b = some o → (∀ its k, o.data ≠ .seq its k) → b ≠ al := fun e nd q => by rw [q, e0] at e; cases e; exact nd _ _ rfl
  refine ⟨?_, ?_, ?_, O.body, O.names, O.kind, O.co, O.gen, O.gl, O.bt, O.bind, O.ok, O.fre, fun x c hx hc => ?_, O.inj, fun x d e => ?_⟩
  · obtain ⟨o, e, d⟩ := O.obj
    exact ⟨o, away_ne e (ne e fun _ _ q => by rw [d] at q; cases q), d⟩
  · obtain ⟨mc, ⟨o, es, ep, e, d, r⟩, n2⟩ := O.lim
    exact ⟨mc, ⟨o, es, ep, away_ne e (ne e fun _ _ q => by rw [d] at q; cases q), d, r⟩, n2⟩
  · obtain ⟨c, o, vs, t, e1, e2, e3, e4⟩ := O.code
    exact ⟨c, o, vs, t, e1, away_ne e2 (ne e2 fun _ _ q => by rw [e3] at q; cases q), e3, e4⟩
  · obtain ⟨o, e, d⟩ := O.cel x c hx hc
    exact ⟨o, away_ne e (ne e fun _ _ q => by rw [d] at q; cases q), d⟩
  · obtain ⟨e1, e2⟩ := hf x d e
    obtain ⟨f1, f2, v, f3, f4⟩ := O.fvs x d e1
    exact ⟨f1, f2, v, f3, Past.repAway hl e2 f4⟩
end Mine
end

section -- M40
open PySem PySem.W PyProof.Rows
set_option Elab.async false
set_option linter.unusedVariables false
namespace Mine
open PySem.SeqAt PySem.Calls

section
variable {prog : Program} {w : World} {base : Heap} {l : List Tb} {B : Heap} {mg mb : Str → Option Value} {C : Cx} {k : Nat} {nm : Nm} {N : Nat}

noncomputable def nd (a : Int) (n : Nat) : Nat := (Builtin.Int.intBits a + n - 1) / n

theorem base_away {I : TInv} {B h : Heap} {al : Addr} (x : Ext I B h) (hb : B.get? al = none) (nl : ∀ o, h.get? al = some o → ¬ (isTab o ∨ isCode o)) : Ext I B (away h al) := by
  have ne : ∀ {b : Addr} {o : Obj}, B.get? b = some o → b ≠ al := fun e q => by rw [q, hb] at e; cases e
  refine ⟨fun b o e nt nd => away_ne (x.keep b o e nt nd) (ne e), fun b o es ep e d => ?_, fun b o e => ?_, fun b o e c => away_ne (x.code b o e c) (ne e), fun t => ok_away nl (x.tabs t), fun b o q e => away_ne (x.old b o q e) (ne e)⟩
  · obtain ⟨o', e', d'⟩ := x.dict b o es ep e d; exact ⟨o', away_ne e' (ne e), d'⟩
  · obtain ⟨o', e'⟩ := x.there b o e; exact ⟨o', away_ne e' (ne e)⟩

theorem lf_ints (xs : List Int) : D.lfs (xs.map D.int) = true := lfs_iff.mpr fun d hd => by obtain ⟨x, _, rfl⟩ := List.mem_map.mp hd; rfl

theorem goodF_writes (H : CGood prog w (tbI base l) B mg mb C k) (hz : C.dz = none) {t : Tb} (ht : t ∈ l) (hP : l.Pairwise fun a b => a.P ≠ b.P) (hc : CodeHd B t.c t.P) (hgP : mainGlobals ≠ t.P) (hbt : B.BuiltinsAt mg t.P) {f : Addr} {fd : FuncData} (hcode : fd.code = .ref t.c)
    {iN ad aN nN lN xN rN : Str} {params : Arguments} {scope : Scope} {pos : Pos} {s0 : Stmt} {test2 test : Expr} {args as bs : List Expr} {c1 c2 c3 r1 r2 i1 p1 p2 p3 p4 p5 p6 p7 q1 q2 q3 q4 q5 q6 : Pos} {s1 s2 s3 s4 : Stmt} {ibody : List Stmt}
    (hib0 : ibody = .If test [.Assign [.Subscript (.Name ad p1) (.Name lN p2) p3] (.Name xN p4) p5, .Return none p6] [] p7 :: s1 :: s2 :: s3 :: s4 ::
      [.Expr (.Call (.Name iN q1) as [] q2) q3, .Expr (.Call (.Name iN q4) bs [] q5) q6])
    (O : FnOK (tbI base l) B f fd [s0, .FunctionDef iN params ibody [] none [] scope none iN pos, .If test2 [.Expr (.Call (.Name iN c1) args [] c2) c3] [] i1, .Return (some (.Name ad r1)) r2] nm [aN, nN])
    (hpos : pos.line = t.pos.line ∧ pos.col = t.pos.col) (hq : ∀ env : Env, env.qual = fd.qualname ++ ".<locals>." → env.scope = fd.scope → qualnameIn env iN iN = t.qual)
    (hd0 : params.defaults = []) (hk0 : params.kw_defaults = []) (han : ∀ env, annTrees params none env = [])
    (hk : nm.lookup iN = some .local ∨ nm.lookup iN = some .cell) (hn : okNest nm scope.names = true) (hik : scope.kind = .function) (hico : scope.isCoroutine = false) (higen : scope.isGenerator = false) (hiok : okClo scope.names [xN, lN, rN] = true)
    (hib : ∀ (cl : List (Str × Addr)) (doc pm cdv ct : Value) (vs : List Value), vs.length = 3 → bindArgs (fnX iN t.qual params ibody scope cl .none .none doc pm none cdv ct) ⟨vs, []⟩ = pure ([xN, lN, rN].zip vs))
    (had : scope.names.lookup ad = some .free) (hne : iN ≠ ad) (has : noStar as = true) (hbs : noStar bs = true) (har : noStar args = true) (hcd : (ad == ("__classdict__" : Str)) = false)
    (hl : ∀ (a b c : D) (fv : St), ([(rN, a), (lN, b), (xN, c)] ++ fv).lookup lN = some b) (hx : ∀ (a b c : D) (fv : St), ([(rN, a), (lN, b), (xN, c)] ++ fv).lookup xN = some c)
    {fvs : Nat → Addr → St} (hfv : ∀ (g : Addr) (n : Nat) (a : Int) (x : Str) (d : D), (fvs n g).lookup x = some d → (fvOf scope.names ((iN, .clo g) :: (ad, .list (List.replicate (nd a n) (.int 0))) :: [(nN, .int n), (aN, .int a)])).lookup x = some d ∧ (d.lf = true ∨ ∃ g, d = .clo g))
    {ok : Int → Nat → Prop} (hok : ∀ a n, ok a n → 1 ≤ n ∧ nd a n ≤ 200 ∧ 0 ≤ a ∧ a < 2 ^ (n * nd a n) ∧ n * nd a n ≤ 200)
    (v0 : ∀ a n, ok a n → vcB C N nm [s0] [(nN, .int n), (aN, .int a)] [] (fun st ow => st = (ad, .list (List.replicate (nd a n) (.int 0))) :: [(nN, .int n), (aN, .int a)] ∧ ow = [ad]) (fun _ _ => False) (fun _ => False))
    (v1 : ∀ (n : Nat) (g : Addr) (x : Int) (L : Nat), vcT C N scope.names test ([(rN, .int ((L : Int) + 1)), (lN, .int L), (xN, .int x)] ++ fvs n g) fun b => b = true)
    (v2 : ∀ (a : Int) (n : Nat), ok a n → ∀ (g : Addr) (x : Int) (L M R : Nat), L < M → M < R → M = (L + R) / 2 → 0 ≤ x → x < 2 ^ (n * (R - L)) → n * (R - L) ≤ 200 →
      vcB C N scope.names (.If test [.Assign [.Subscript (.Name ad p1) (.Name lN p2) p3] (.Name xN p4) p5, .Return none p6] [] p7 :: s1 :: s2 :: s3 :: [s4]) ([(rN, .int R), (lN, .int L), (xN, .int x)] ++ fvs n g) []
        (fun st ow => st.lookup iN = some (.clo g) ∧ noLists st = true ∧ argsVC (as.map fun v K => vcE C N scope.names v st K) (fun ds => ds = [.int (x % 2 ^ (n * (M - L))), .int L, .int M]) ∧
          argsVC (bs.map fun v K => vcE C N scope.names v st K) (fun ds => ds = [.int (x / 2 ^ (n * (M - L))), .int M, .int R])) (fun _ _ => False) (fun _ => False))
    (v3 : ∀ a n, ok a n → ∀ g, vcT C N nm test2 ((iN, .clo g) :: (ad, .list (List.replicate (nd a n) (.int 0))) :: [(nN, .int n), (aN, .int a)]) fun b => b = decide (nd a n ≠ 0))
    (v4 : ∀ a n, ok a n → ∀ g, argsVC (args.map fun v K => vcE C N nm v ((iN, .clo g) :: (ad, .list (List.replicate (nd a n) (.int 0))) :: [(nN, .int n), (aN, .int a)]) K) fun ds => ds = [.int a, .int ((0 : Nat) : Int), .int ((nd a n : Nat) : Int)])
    : GoodF prog w (tbI base l) B (k + 201) f (fun ds Q => ∃ (a : Int) (n : Nat), ds = [.int a, .int n] ∧ ok a n ∧ Q (.list ((digs n (nd a n) a).map .int))) := by
  obtain ⟨o, ho, hd⟩ := O.obj
  refine ⟨⟨o, fd, ho, hd⟩, fun A vs ds Q E s x tb a fr r q => ?_⟩
  obtain ⟨av, n, rfl, hoka, hQ⟩ := q
  obtain ⟨n1, n2, n3, n4, n5⟩ := hok av n hoka
  refine call_of (k := k + 200) O x tb a fr r rfl rfl fun h₁ tk₁ va F => ?_
  have H' := H.more (k' := k + 200) (Nat.le_add_right ..)
  have S := snd_all H' N (prog := prog) (w := w) (B := B)
  have T := stm_plain H' hz N (prog := prog) (w := w)
  have F : Fs (tbI base l) B (k + 200) (A.deeper (callEnvC fd s.heap.objs.size f)) (callEnvC fd s.heap.objs.size f) nm s.heap (fun _ => False) s.heap va [(nN, .int n), (aN, .int av)] [] h₁ := F
  refine execs_app (P := [s0]) (wpAny_mono (T nm _ _ _ _ _ _ _ _ { s with heap := h₁, toks := tk₁ } _ _ _ _ va (v0 av n hoka) F) (fun f1 s₂ h₂ => ?_) fun _ _ x => x)
  obtain ⟨h₂, tk₂, va₂, st₂, ow₂, rfl, F₂, hf⟩ := h₂
  cases f1 with
  | brk => exact hf.elim
  | cont => exact hf.elim
  | ret v => obtain ⟨d, _, _, q⟩ := hf; exact q.elim
  | next =>
    obtain ⟨rfl, rfl⟩ := hf
    refine wpAny_execs_cons (def_sound H' ht hP hc hgP hbt (by exact hcode) (s := { s with heap := h₂, toks := tk₂ }) F₂ hpos (hq _ rfl rfl) hd0 hk0 (han _) (fun n hm => Option.isSome_iff_exists.mpr (F₂.sx.has n (.inl (okNest_at hn hm)))) hk ?_)
    intro h₃ tk₃ g og doc pm ctv c' F₃ hg hgd hcr _
    have O' := clo_ok F₃ O.lim hg hgd hcr hn hik hico higen hiok (hib _ doc pm _ ctv)
    have ado : ad ∈ iN :: without iN [ad] := List.mem_cons_of_mem _ (List.mem_filter.mpr ⟨List.mem_singleton.mpr rfl, by simpa using fun e => hne e.symm⟩)
    have adl : List.lookup ad ((iN, D.clo g) :: (ad, .list (List.replicate (nd av n) (.int 0))) :: [(nN, .int n), (aN, .int av)]) = some (.list (List.replicate (nd av n) (.int 0))) := by
      rw [lookup_cons_ne (Ne.symm hne)]; exact lookup_cons_same
    obtain ⟨al, va3, al0, _, _⟩ := F₃.own ad ado _ adl
    obtain ⟨_, _, v, hv, rl⟩ := F₃.vars ad _ adl
    rw [va3] at hv; cases hv
    cases rl with | @list _ vs0 _ hpl rs0 =>
    have xb := F₃.sx.base.trans F₃.ext
    have hbn : B.get? al = none := F₃.sx.base.fresh al0
    have xB2 : Ext (tbI base l) B (away h₃ al) := base_away xb hbn (list_nr hpl)
    have OA := O'.away (fv' := fvs n g) hpl (hfv g n av)
    subst hib0
    have lev : ∀ j, GoodM prog w (tbI base l) (away h₃ al) (k + j) g al n j := fun j => by
      induction j with
      | zero => exact ⟨OA.obj.imp fun o q => ⟨_, q⟩, fun A vs vs0 x L R its Q E s _ _ _ _ _ _ _ h1 _ _ h4 _ _ _ _ => absurd h1 (by omega)⟩
      | succ j ih =>
        have Hj := (H.more (k' := k + j) (Nat.le_add_right ..)).base xB2
        exact inner_step Hj hz OA away_self (F₃.sx.low al al0) had va3 has hbs ih (fun a b c => hl a b c _) (fun a b c => hx a b c _) hcd (fun x L => v1 n g x L) (fun x L M R => v2 av n hoka g x L M R)
    have rep0 : (List.replicate (nd av n) (D.int 0)) = (List.replicate (nd av n) (0 : Int)).map .int := by rw [List.map_replicate]
    have fin : ∀ (h' : Heap) (tk : Tok) (ds : List D) (st : St) (ow : List Str) (E' : Value → Shared → Prop), D.lfs ds = true → Q (.list ds) → st.lookup ad = some (.list ds) →
        Fs (tbI base l) B (k + 200) (A.deeper (callEnvC fd s.heap.objs.size f)) (callEnvC fd s.heap.objs.size f) nm s.heap (fun _ => False) s.heap (upd va₂ iN (.ref g)) st ow h' →
        wpAny (model prog w) (A.deeper (callEnvC fd s.heap.objs.size f)) (execs [.Return (some (.Name ad r1)) r2] (callEnvC fd s.heap.objs.size f))
          (fun fl s' => EvP (tbI base l) s true Q (match fl with | .ret v => v | _ => .none) s') E' { s with heap := h', toks := tk } := fun h' tk ds st ow E' lf hq e F' => by
      obtain ⟨_, _, v, hv, rl⟩ := F'.vars ad _ e
      have hv' := hv
      rw [va3] at hv; cases hv
      exact wpAny_execs_cons (wpAny_Return_some (F'.name (s := { s with heap := h', toks := tk }) e hv' ⟨h', tk, _, rfl, F'.ext, rl, fun _ => .inr ⟨al, rfl, al0⟩, hq⟩))
    refine wpAny_execs_cons (wpAny_If (wpAny_mono (S.2 nm test2 _ _ _ _ { s with heap := h₃, toks := tk₃ } _ (v3 av n hoka g) F₃.fm) (fun b s₄ h₄ => ?_) fun _ _ x => x))
    obtain ⟨a₄, rfl⟩ := h₄
    have F₄ := F₃.to a₄.ext
    obtain ⟨h₄, tk₄, rfl, x₄⟩ := a₄
    by_cases hz0 : nd av n = 0
    · simp only [hz0, ne_eq, not_true_eq_false, decide_false, Bool.false_eq_true, if_false]
      refine wpAny_execs_nil ?_
      refine fin h₄ tk₄ _ _ _ _ ?_ ?_ adl F₄
      · rw [rep0]; exact lf_ints _
      · rw [hz0] at hQ ⊢; exact hQ
    · simp only [hz0, ne_eq, not_false_eq_true, decide_true, if_true]
      have hpl₄ : h₄.PlainList al (List.toArray vs0) := x₄.plainList hpl
      rw [rep0] at rs0
      have len : (List.replicate (nd av n) (0 : Int)).length = nd av n := List.length_replicate
      refine wpAny_execs_cons (call_m (s := { s with heap := h₄, toks := tk₄ }) (n := n) (al := al) (g := g) S F₄ ((ext_away (list_nr hpl)).trans x₄) (lev 200) lookup_cons_same har (v4 av n hoka g) hpl₄ (ints_any rs0) (Nat.pos_of_ne_zero hz0) (by rw [len]; exact Nat.le_refl _) (by rw [len]; exact n2) (by omega) n3 (by simpa using n4) (by rw [len]; exact n5) fun h₅ tk₅ vs5 p5 l5 r5 => ?_)
      have nr : ∀ o, h₄.get? al = some o → ¬ (isTab o ∨ isCode o) := list_nr hpl₄
      have ado4 : al = al := rfl
      have F₅ := F₄.pastOwn p5 ado adl va3 l5 r5 (lf_ints _)
      have pe : put n (List.replicate (nd av n) 0) av 0 (nd av n) = digs n (nd av n) av := by
        unfold put; simp
      rw [pe] at F₅
      exact wpAny_execs_nil (fin h₅ tk₅ _ _ _ _ (lf_ints _) hQ lookup_cons_same F₅)
end
end Mine
end

section -- Q3c
open PySem PySem.W PyProof.Rows
set_option Elab.async false
set_option linter.unusedVariables false
namespace Mine
open PySem.SeqAt PySem.Calls

noncomputable def okDg (a : Int) (n : Nat) : Prop := 1 ≤ n ∧ n ≤ 100 ∧ 0 ≤ a ∧ Builtin.Int.intBits a ≤ 100
theorem nd_le {a : Int} {n : Nat} (h : 1 ≤ n) : n * nd a n < Builtin.Int.intBits a + n := by
  unfold nd
  have := Nat.div_mul_le_self (Builtin.Int.intBits a + n - 1) n
  rw [Nat.mul_comm] at this
  omega
theorem nd_ge {a : Int} {n : Nat} (h : 1 ≤ n) : Builtin.Int.intBits a ≤ n * nd a n := by
  unfold nd
  have := Nat.lt_mul_div_succ (Builtin.Int.intBits a + n - 1) (show 0 < n by (first | lia | omega))
  rw [Nat.mul_add] at this
  (first | lia | omega)
theorem nd_lt {a : Int} {n : Nat} (h : okDg a n) : a < 2 ^ (n * nd a n) := by
  have := (PySem.intBits_le_iff (x := a) (m := n * nd a n)).mp (nd_ge h.1)
  have h0 := h.2.2.1
  have : (a.natAbs : Int) < ((2 ^ (n * nd a n) : Nat) : Int) := by exact_mod_cast this
  push_cast at this
  (first | lia | omega)
theorem nd_zero {a : Int} {n : Nat} (h : okDg a n) : nd a n ≠ 0 ↔ a ≠ 0 := by
  constructor
  · intro q e
    subst e
    apply q
    unfold nd
    have : Builtin.Int.intBits 0 = 0 := rfl
    rw [this]
    exact Nat.div_eq_of_lt (by have := h.1; (first | lia | omega))
  · intro q e
    have := nd_lt h
    rw [e] at this
    have := h.2.2.1
    have h1 : (2 : Int) ^ (n * 0) = 1 := by simp
    (first | lia | omega)
noncomputable def spI2d : Spec := fun ds Q => ∃ (a : Int) (n : Nat), ds = [.int a, .int n] ∧ okDg a n ∧ Q (.list ((digs n (nd a n) a).map .int))

section
variable {prog : Program} {w : World} {bs : Heap} {l : List Tb} {pm : Nat → Value} {B : Heap} {mg mb : Str → Option Value}
noncomputable def tbI2 : Tb := ⟨30, 34, posOf ((bdOf 4).drop 1), S "_int2digits.<locals>.inner"⟩
theorem ok_i2d (X : Lib pm B) (L : B.NoLimit) : FnOK (tbI bs l) B 35 (fdOf 4 (pm 4) (.ref 34)) (bdOf 4) (nmOf 4) [S "a", S "n"] :=
  fn_ok (X (4, 35) (by decide)) L (arity2 fun a b => rfl) rfl
theorem good_i2d (X : Lib pm B) (L : B.NoLimit) (H : CGood prog w (tbI bs l) B mg mb cxLen 0) (ht : tbI2 ∈ l) (hP : l.Pairwise fun a b => a.P ≠ b.P) (hc : CodeHd B 34 30) (hbt : B.BuiltinsAt mg 30) : GoodF prog w (tbI bs l) B 201 35 spI2d := by
  have z := goodF_writes H rfl ht hP hc (show mainGlobals ≠ 30 by decide) hbt (f := 35) (fd := fdOf 4 (pm 4) (.ref 34)) rfl (iN := S "inner") (ad := S "a_digits") (aN := S "a") (nN := S "n") (lN := S "L") (xN := S "x") (rN := S "R")
    (hib0 := rfl) (O := ok_i2d X L) (nm := (nmOf 4)) (N := 40) ⟨rfl, rfl⟩ (fun env h1 h2 => by unfold qualnameIn Env.kindOf; rw [h2, h1]; rfl) rfl rfl (fun _ => rfl) (.inr rfl) rfl rfl rfl rfl rfl
    (fun cl doc pm cdv ct vs h => arity3 (p := fun vs => bindArgs _ ⟨vs, []⟩ = pure (List.zip _ vs)) (fun a b c => rfl) vs h) rfl (by decide) rfl rfl rfl rfl
    (fun a b c fv => rfl) (fun a b c fv => rfl) (fvs := fun n g => [(S "inner", .clo g), (S "n", .int n)]) (fun g n a x d e => ?_) (ok := okDg) (fun a n h => ?_) ?_ ?_ ?_ ?_ ?_
  · exact z
  · have : x = S "inner" ∨ x = S "n" := by
      by_cases h1 : x = S "inner"
      · exact .inl h1
      · by_cases h2 : x = S "n"
        · exact .inr h2
        · rw [lookup_cons_ne h1, lookup_cons_ne h2] at e; cases e
    rcases this with rfl | rfl
    · cases e; exact ⟨rfl, .inr ⟨_, rfl⟩⟩
    · cases e; exact ⟨rfl, .inl rfl⟩
  · obtain ⟨h1, h2, h3, h4⟩ := id h
    have b1 := nd_le (a := a) h1
    have b2 : nd a n ≤ n * nd a n := Nat.le_mul_of_pos_left _ h1
    exact ⟨h1, by (first | lia | omega), h3, nd_lt h, by (first | lia | omega)⟩
  · intro a n h
    obtain ⟨h1, h2, h3, h4⟩ := id h
    have b1 := nd_le (a := a) h1
    have b2 : nd a n ≤ n * nd a n := Nat.le_mul_of_pos_left _ h1
    conv => whnf
    refine ⟨by decide, ?_⟩
    conv => whnf
    refine ⟨rfl, ?_⟩
    conv => whnf
    have sn : sm n := by unfold sm; (first | lia | omega)
    refine ⟨by (first | lia | omega), sn, ?_⟩
    conv => whnf
    have e : ((Builtin.Int.intBits a : Int) + n - 1).fdiv n = (nd a n : Nat) := by
      rw [Int.fdiv_eq_ediv_of_nonneg _ (by (first | lia | omega))]
      unfold nd
      rw [show (Builtin.Int.intBits a : Int) + n - 1 = ((Builtin.Int.intBits a + n - 1 : Nat) : Int) by (first | lia | omega)]
      rfl
    have e' : ((Builtin.Int.intBits a : Int) + n - 1).fdiv n = (nd a n : Nat) := e
    rw [e]
    refine ⟨rfl, by (first | lia | omega), by (first | lia | omega), ?_⟩
    have e2 : (List.replicate (nd a n : Int).toNat [D.int 0]).flatten = List.replicate (nd a n) (.int 0) := by
      rw [Int.toNat_natCast, List.flatten_replicate_singleton]
    rw [e2]
    conv => whnf
    have lf : D.lfs (List.replicate (nd a n) (D.int 0)) = true := lfs_iff.mpr fun d hd => by rw [List.eq_of_mem_replicate hd]; rfl
    refine ⟨lf, ?_⟩
    conv => whnf
    exact ⟨rfl, rfl⟩
  · intro n g x L
    conv => whnf
    exact ⟨rfl, Nat.le_of_ble_eq_true rfl, by simp [eqD]⟩
  · intro a n h g x L M R m1 m2 hM h5 h6 h7
    obtain ⟨h1, h2, h3, h4⟩ := id h
    conv => whnf
    refine ⟨rfl, Nat.le_of_ble_eq_true rfl, ?_⟩
    refine iteP_intro (fun hc => ?_) (fun hc => ?_)
    · have hc : (L : Int) + 1 = R := by simpa [eqD] using hc
      (first | lia | omega)
    · conv => whnf
      refine ⟨by decide, ?_⟩
      conv => whnf
      refine ⟨rfl, ?_⟩
      conv => whnf
      refine ⟨.inr (by (first | lia | omega)), ?_⟩
      conv => whnf
      refine ⟨rfl, ?_⟩
      have hM' : ((L : Int) + R).fdiv (2 ^ Int.toNat 1) = (M : Nat) := by
        show Int.fdiv _ 2 = _
        rw [Int.fdiv_eq_ediv_of_nonneg _ (by decide)]; (first | lia | omega)
      have sh : ((M : Int) - L) * n = ((n * (M - L) : Nat) : Int) := by
        rw [Nat.mul_comm, Int.natCast_mul, Int.ofNat_sub (Nat.le_of_lt m1)]
      rw [hM', sh]
      have sl : n * (M - L) ≤ 200 := Nat.le_trans (Nat.mul_le_mul_left n (by (first | lia | omega))) h7
      conv => whnf
      refine ⟨by (first | lia | omega), ?_⟩
      conv => whnf
      refine ⟨rfl, ?_⟩
      conv => whnf
      have q1 : x.fdiv (2 ^ Int.toNat ((n * (M - L) : Nat) : Int)) = x / 2 ^ (n * (M - L)) := by
        rw [Int.toNat_natCast, Int.fdiv_eq_ediv_of_nonneg _ (Int.le_of_lt (Mine.p2 _))]
      have q2 : Builtin.bitXor x (x / 2 ^ (n * (M - L)) * 2 ^ Int.toNat ((n * (M - L) : Nat) : Int)) = x % 2 ^ (n * (M - L)) := by
        rw [Int.toNat_natCast, ← xor_low h5, Int.fdiv_eq_ediv_of_nonneg _ (Int.le_of_lt (Mine.p2 _))]
      rw [q1]
      have q3 : sm (x / 2 ^ (n * (M - L))) := by
        have u1 : 0 ≤ x / 2 ^ (n * (M - L)) := Int.ediv_nonneg h5 (Int.le_of_lt (Mine.p2 _))
        have u2 : x / 2 ^ (n * (M - L)) ≤ x := Int.ediv_le_self _ h5
        have u3 : (2 : Int) ^ (n * (R - L)) ≤ 2 ^ 200 := by exact_mod_cast Nat.pow_le_pow_right (by decide) h7
        exact sm_of u1 (Int.lt_of_le_of_lt u2 (Int.lt_of_lt_of_le h6 u3))
      refine ⟨by (first | lia | omega), by (first | lia | omega), q3, ?_⟩
      conv => whnf
      refine ⟨rfl, ?_⟩
      rw [q2]
      conv => whnf
      refine ⟨rfl, ?_⟩
      conv => whnf
      refine ⟨rfl, ?_, ?_⟩
      · conv => whnf
      · conv => whnf
  · intro a n h g
    have nz := nd_zero h
    conv => whnf
    by_cases e : a = 0
    · have := (not_congr nz).mpr (fun q => q e)
      simp [e] at this ⊢; exact this
    · have := nz.mpr e
      simp [e, this]
  · intro a n h g
    obtain ⟨h1, h2, h3, h4⟩ := id h
    have b1 := nd_le (a := a) h1
    have b2 : nd a n ≤ n * nd a n := Nat.le_mul_of_pos_left _ h1
    conv => whnf
    refine ⟨by rw [List.length_replicate]; (first | lia | omega), ?_⟩
    conv => whnf
    show [D.int a, D.int 0, D.int (List.replicate (nd a n) (D.int 0)).length] = _
    rw [List.length_replicate]
    rfl
end
end Mine
end

section -- Q3d
open PySem PySem.W PyProof.Rows
set_option Elab.async false
set_option linter.unusedVariables false
namespace Mine
open PySem.SeqAt PySem.Calls

noncomputable def cxDiv : Cx := { gl := [(S "_DIV_LIMIT", .cint 4000), (S "divmod", .bi .divmod)] }
noncomputable def sp2n1 : Spec := fun ds Q => ∃ a b n : Int, ds = [.int a, .int b, .int n] ∧ (Builtin.Int.intBits a : Int) - n ≤ 4000 ∧ b ≠ 0 ∧ sm b ∧ Q (.tup [.int (a.fdiv b), .int (a.fmod b)])

section
variable {prog : Program} {w : World} {bs : Heap} {l : List Tb} {pm : Nat → Value} {B : Heap} {mg mb : Str → Option Value}
theorem ok_2n1 (X : Lib pm B) (L : B.NoLimit) : FnOK (tbI bs l) B 21 (fdOf 2 (pm 2) (.ref 20)) (bdOf 2) (nmOf 2) [S "a", S "b", S "n"] :=
  fn_ok (X (2, 21) (by decide)) L (arity3 fun a b c => rfl) rfl
theorem good_2n1 (X : Lib pm B) (L : B.NoLimit) {k : Nat} (H : CGood prog w (tbI bs l) B mg mb cxDiv k) : GoodF prog w (tbI bs l) B (k + 1) 21 sp2n1 := by
  refine goodF_of (ok_2n1 X L) (stm_plain H rfl 40) fun ds Q q => ?_
  obtain ⟨a, b, n, rfl, h1, h2, h3, hQ⟩ := q
  refine ⟨rfl, rfl, ?_⟩
  conv => whnf
  refine ⟨rfl, ?_⟩
  conv => whnf
  rw [decide_eq_true h1]
  conv => whnf
  refine ⟨h2, h3, ?_⟩
  conv => whnf
  exact ⟨rfl, hQ⟩

noncomputable def cxPos : Cx := { gl := [(S "_int2digits", .fn 35 spI2d), (S "reversed", .bi .reversed), (S "_div2n1n", .fn 21 sp2n1), (S "_digits2int", .fn 42 spD2i)] }
noncomputable def okPos (a b : Int) : Prop := 0 ≤ a ∧ 0 < b ∧ Builtin.Int.intBits a ≤ 100 ∧ Builtin.Int.intBits b ≤ 100
noncomputable def spPos : Spec := fun ds Q => ∃ a b : Int, ds = [.int a, .int b] ∧ okPos a b ∧ Q (.tup [.int (a / b), .int (a % b)])
structure DivInv (a b : Int) (n k j : Nat) (r : Int) (qs : List Int) : Prop where
  r0 : 0 ≤ r
  r1 : r < b
  len : qs.length + j = k
  dig : ∀ q ∈ qs, 0 ≤ q ∧ q < 2 ^ n
  val : dval n qs.reverse * b + r = a / 2 ^ (n * j)
theorem bits_lt {a : Int} (h : 0 ≤ a) : a < 2 ^ (Builtin.Int.intBits a) := by
  have := (PySem.intBits_le_iff (x := a) (m := Builtin.Int.intBits a)).mp (Nat.le_refl _)
  have : (a.natAbs : Int) < ((2 ^ Builtin.Int.intBits a : Nat) : Int) := by exact_mod_cast this
  push_cast at this
  (first | lia | omega)
theorem bits_pos {a : Int} (h : 0 < a) : 1 ≤ Builtin.Int.intBits a := by
  have := bits_lt (Int.le_of_lt h)
  rcases Nat.eq_zero_or_pos (Builtin.Int.intBits a) with e | e
  · rw [e] at this; (first | lia | omega)
  · exact e
theorem divInv_start {a b : Int} (h : okPos a b) : DivInv a b (Builtin.Int.intBits b) (nd a (Builtin.Int.intBits b)) (nd a (Builtin.Int.intBits b)) 0 [] := by
  obtain ⟨h1, h2, h3, h4⟩ := h
  have dg : okDg a (Builtin.Int.intBits b) := ⟨bits_pos h2, h4, h1, h3⟩
  refine ⟨Int.le_refl _, h2, by simp, (fun q hq => by cases hq), ?_⟩
  rw [Int.ediv_eq_zero_of_lt h1 (nd_lt dg)]
  simp [dval]
theorem divInv_step {a b r : Int} {n k j : Nat} {qs : List Int} (hb : b < 2 ^ n) (h : DivInv a b n k (j + 1) r qs) :
    DivInv a b n k j ((r * 2 ^ n + a / 2 ^ (n * j) % 2 ^ n) % b) (qs ++ [(r * 2 ^ n + a / 2 ^ (n * j) % 2 ^ n) / b]) ∧ 0 ≤ r * 2 ^ n + a / 2 ^ (n * j) % 2 ^ n ∧ r * 2 ^ n + a / 2 ^ (n * j) % 2 ^ n < b * 2 ^ n := by
  have p := Mine.p2 n
  have d0 : 0 ≤ a / 2 ^ (n * j) % 2 ^ n := Int.emod_nonneg _ (Int.ne_of_gt p)
  have d1 : a / 2 ^ (n * j) % 2 ^ n < 2 ^ n := Int.emod_lt_of_pos _ p
  have b0 : 0 < b := Int.lt_of_le_of_lt h.r0 h.r1
  have x0 : 0 ≤ r * 2 ^ n := Int.mul_nonneg h.r0 (Int.le_of_lt p)
  have x1 : (r + 1) * 2 ^ n ≤ b * 2 ^ n := Int.mul_le_mul_of_nonneg_right (by have := h.r1; (first | lia | omega)) (Int.le_of_lt p)
  have x2 : (r + 1) * 2 ^ n = r * 2 ^ n + 2 ^ n := by rw [Int.add_mul, Int.one_mul]
  refine ⟨⟨Int.emod_nonneg _ (Int.ne_of_gt b0), Int.emod_lt_of_pos _ b0, ?_, ?_, ?_⟩, by (first | lia | omega), by (first | lia | omega)⟩
  · have := h.len; simp; (first | lia | omega)
  · intro q hq
    rcases List.mem_append.mp hq with hq | hq
    · exact h.dig q hq
    · rw [List.mem_singleton.mp hq]
      exact ⟨Int.ediv_nonneg (by (first | lia | omega)) (Int.le_of_lt b0), Int.ediv_lt_of_lt_mul b0 (by rw [Int.mul_comm (2 ^ n)]; (first | lia | omega))⟩
  · have e1 : a / 2 ^ (n * j) / 2 ^ n = a / 2 ^ (n * (j + 1)) := by
      rw [Int.ediv_ediv_of_nonneg (Int.le_of_lt (Mine.p2 _)), ← Int.pow_add, Nat.mul_succ]
    have e2 := Int.mul_ediv_add_emod (a / 2 ^ (n * j)) (2 ^ n)
    have e3 := Int.mul_ediv_add_emod (r * 2 ^ n + a / 2 ^ (n * j) % 2 ^ n) b
    rw [e1, ← h.val] at e2
    rw [List.reverse_append]
    generalize a / 2 ^ (n * j) % 2 ^ n = d at *
    generalize a / 2 ^ (n * j) = A at *
    generalize (r * 2 ^ n + d) / b = q at *
    generalize (r * 2 ^ n + d) % b = s at *
    have e4 : dval n ([q].reverse ++ qs.reverse) = q + dval n qs.reverse * 2 ^ n := by
      rw [dval_append]; simp [dval]
    rw [e4]
    generalize dval n qs.reverse = V at *
    generalize (2 : Int) ^ n = T at *
    grind
theorem divInv_end {a b r : Int} {n k : Nat} {qs : List Int} (h : DivInv a b n k 0 r qs) : dval n qs.reverse = a / b ∧ r = a % b := by
  have v := h.val
  have e : (2 : Int) ^ (n * 0) = 1 := by simp
  rw [e, Int.ediv_one] at v
  have b0 : 0 < b := Int.lt_of_le_of_lt h.r0 h.r1
  rw [← v]
  constructor
  · rw [Int.add_comm, Int.add_mul_ediv_right _ _ (Int.ne_of_gt b0), Int.ediv_eq_zero_of_lt h.r0 h.r1, Int.zero_add]
  · rw [Int.add_comm, Int.add_mul_emod_self_right, Int.emod_eq_of_lt h.r0 h.r1]
theorem digs_rev (a : Int) (n j : Nat) : ((digs n (j + 1) a).map D.int).reverse = .int (a / 2 ^ (n * j) % 2 ^ n) :: ((digs n j a).map D.int).reverse := by
  rw [digs_app n j 1 a, List.map_append, List.reverse_append]
  rfl
theorem ok_pos (X : Lib pm B) (L : B.NoLimit) : FnOK (tbI bs l) B 49 (fdOf 6 (pm 6) (.ref 48)) (bdOf 6) (nmOf 6) [S "a", S "b"] :=
  fn_ok (X (6, 49) (by decide)) L (arity2 fun a b => rfl) rfl
theorem good_pos (X : Lib pm B) (L : B.NoLimit) {k : Nat} (H : CGood prog w (tbI bs l) B mg mb cxPos k) : GoodF prog w (tbI bs l) B (k + 1) 49 spPos := by
  refine goodF_of (ok_pos X L) (stm_plain H rfl 40) fun ds Q q => ?_
  obtain ⟨a, b, rfl, h, hQ⟩ := q
  refine ⟨rfl, rfl, ?_⟩
  conv => whnf
  refine ⟨rfl, ?_⟩
  conv => whnf
  refine ⟨rfl, ?_⟩
  conv => whnf
  have h' := h
  obtain ⟨h1, h2, h3, h4⟩ := h'
  have n1 := bits_pos h2
  have dg : okDg a (Builtin.Int.intBits b) := ⟨n1, h4, h1, h3⟩
  have hb := bits_lt (Int.le_of_lt h2)
  have start := divInv_start h
  have b1 := nd_le (a := a) n1
  generalize Builtin.Int.intBits b = n at *
  have b2 : nd a n ≤ n * nd a n := Nat.le_mul_of_pos_left _ n1
  refine ⟨a, n, rfl, dg, ?_⟩
  generalize nd a n = kk at *
  have lfd : D.lfs ((digs n kk a).map D.int) = true := lf_ints _
  conv => whnf
  refine ⟨lfd, ?_⟩
  conv => whnf
  refine ⟨rfl, ?_⟩
  conv => whnf
  refine ⟨Nat.zero_le _, ?_⟩
  conv => whnf
  refine ⟨rfl, ?_⟩
  conv => whnf
  refine ⟨?_, fun rem st ow => ∃ j r qs, rem = ((digs n j a).map D.int).reverse ∧ st = [(S "q_digits", .list (qs.map .int)), (S "r", .int r), (S "n", .int n), (S "b", .int b)] ∧ ow = [S "q_digits"] ∧ DivInv a b n kk j r qs, ?_, ?_, ?_⟩
  · rw [← List.map_reverse]; exact lf_ints _
  · exact ⟨_, .cons rfl (.cons rfl (.cons rfl (.cons rfl .nil))), kk, 0, [], rfl, rfl, rfl, start⟩
  · rintro d rem _ _ ⟨j, r, qs, e, rfl, rfl, inv⟩
    cases j with
    | zero => simp [digs] at e
    | succ j =>
      rw [digs_rev] at e
      injection e with e1 e2
      subst e1; subst e2
      obtain ⟨st1, p1, p2⟩ := divInv_step hb inv
      generalize a / 2 ^ (n * j) % 2 ^ n = d at *
      conv => whnf
      have r0 := inv.r0
      have r1 := inv.r1
      have t100 : (2 : Int) ^ n ≤ 2 ^ 100 := by exact_mod_cast Nat.pow_le_pow_right (by decide) h4
      have smb : sm b := sm_of (Int.le_of_lt h2) (Int.lt_of_lt_of_le hb (Int.le_trans t100 (by decide)))
      have smr : sm r := sm_of r0 (Int.lt_trans r1 (Int.lt_of_lt_of_le hb (Int.le_trans t100 (by decide))))
      refine ⟨by (first | lia | omega), by (first | lia | omega), smr, ?_⟩
      conv => whnf
      have e1 : r * 2 ^ Int.toNat (n : Int) + d = r * 2 ^ n + d := by rw [Int.toNat_natCast]
      rw [e1]
      generalize r * 2 ^ n + d = y at *
      have yb : Builtin.Int.intBits y ≤ 200 := PySem.intBits_le_iff.mpr (by
        have u1 : b * 2 ^ n ≤ 2 ^ 100 * 2 ^ 100 := Int.mul_le_mul (Int.le_of_lt (Int.lt_of_lt_of_le hb t100)) t100 (Int.le_of_lt (Mine.p2 _)) (by decide)
        have u2 : (2 : Int) ^ 100 * 2 ^ 100 = ((2 ^ 200 : Nat) : Int) := by decide
        rw [u2] at u1
        generalize 2 ^ 200 = T at *
        (first | lia | omega))
      refine ⟨y, b, n, rfl, by (first | lia | omega), Int.ne_of_gt h2, smb, ?_⟩
      rw [Int.fdiv_eq_ediv_of_nonneg _ (Int.le_of_lt h2), Int.fmod_eq_emod_of_nonneg _ (Int.le_of_lt h2)]
      conv => whnf
      refine ⟨rfl, rfl, ?_⟩
      conv => whnf
      have ql : qs.length ≤ kk := by have := inv.len; (first | lia | omega)
      refine ⟨rfl, rfl, ?_⟩
      conv => whnf
      refine ⟨rfl, ?_⟩
      conv => whnf
      refine ⟨by rw [List.length_map]; (first | lia | omega), ?_⟩
      have e2 : qs.map D.int ++ [D.int (y / b)] = (qs ++ [y / b]).map D.int := by simp
      rw [e2]
      conv => whnf
      exact ⟨_, .cons rfl (.cons rfl (.cons rfl (.cons rfl .nil))), j, _, _, rfl, rfl, rfl, st1⟩
  · rintro _ _ ⟨j, r, qs, e, rfl, rfl, inv⟩
    have e : j = 0 := by
      have := congrArg List.length e
      simp [digs_length] at this; (first | lia | omega)
    subst e
    obtain ⟨f1, f2⟩ := divInv_end inv
    conv => whnf
    have ql : qs.length = kk := by have := inv.len; (first | lia | omega)
    refine ⟨rfl, by rw [List.length_map]; (first | lia | omega), ?_⟩
    rw [← List.map_reverse]
    conv => whnf
    refine ⟨qs.reverse, n, rfl, ⟨n1, by rw [List.length_reverse]; rw [ql]; (first | lia | omega), fun x hx => inv.dig x (List.mem_reverse.mp hx)⟩, ?_⟩
    rw [f1, f2]
    conv => whnf
    refine ⟨rfl, ?_⟩
    conv => whnf
    refine ⟨Nat.le_of_ble_eq_true rfl, ?_⟩
    conv => whnf
    exact ⟨rfl, hQ⟩
end

end Mine
end

section -- M41
open PySem PySem.W PyProof.Rows
set_option Elab.async false
set_option linter.unusedVariables false
namespace Mine
open PySem.SeqAt PySem.Calls

section
variable {prog : Program} {w : World} {I : TInv} {B : Heap} {mg mb : Str → Option Value} {k : Nat} {l : List (Str × G)} {z : Option Addr}
theorem CGood.nil (g : B.Ns mainGlobals mg) (b : B.Ns builtinsNs mb) : CGood prog w I B mg mb { gl := [], dz := z } k :=
  ⟨g, b, (fun _ _ e => by cases e), (fun _ _ _ e => by cases e), (fun _ _ e => by cases e), (fun _ _ e => by cases e), (fun _ _ e => by cases e)⟩
theorem lk_cons {x y : Str} {g g' : G} {l : List (Str × G)} (e : List.lookup y ((x, g) :: l) = some g') : (y = x ∧ g = g') ∨ l.lookup y = some g' := by
  rw [List.lookup_cons] at e
  split at e
  · rename_i h; exact .inl ⟨by simpa using h, by simpa using e⟩
  · exact .inr e
theorem CGood.addBi (H : CGood prog w I B mg mb { gl := l, dz := z } k) {x : Str} {b : Bi} (h1 : mg x = none) (h2 : mb x = some b.val) (h3 : (x == ("__debug__" : Str)) = false) : CGood prog w I B mg mb { gl := (x, .bi b) :: l, dz := z } k :=
  ⟨H.g, H.b, (fun y b' e => by rcases lk_cons e with ⟨rfl, q⟩ | q; · cases q; exact ⟨h1, h2⟩
                               · exact H.bi y b' q), (fun y f sp e => by rcases lk_cons e with ⟨rfl, q⟩ | q; · cases q
                                                                         · exact H.fn y f sp q), (fun y i e => by rcases lk_cons e with ⟨rfl, q⟩ | q; · cases q
                                                                                                                  · exact H.ci y i q), (fun y g e => by rcases lk_cons e with ⟨rfl, q⟩ | q; · exact h3
                                                                                                                                                        · exact H.dbg y g q), (fun _ _ e => by cases e)⟩
theorem CGood.addFn (H : CGood prog w I B mg mb { gl := l, dz := z } k) {x : Str} {f : Addr} {sp : Spec} (h1 : mg x = some (.ref f)) (h2 : GoodF prog w I B k f sp) (h3 : (x == ("__debug__" : Str)) = false) : CGood prog w I B mg mb { gl := (x, .fn f sp) :: l, dz := z } k :=
  ⟨H.g, H.b, (fun y b' e => by rcases lk_cons e with ⟨rfl, q⟩ | q; · cases q
                               · exact H.bi y b' q), (fun y f sp e => by rcases lk_cons e with ⟨rfl, q⟩ | q; · cases q; exact ⟨h1, h2⟩
                                                                         · exact H.fn y f sp q), (fun y i e => by rcases lk_cons e with ⟨rfl, q⟩ | q; · cases q
                                                                                                                  · exact H.ci y i q), (fun y g e => by rcases lk_cons e with ⟨rfl, q⟩ | q; · exact h3
                                                                                                                                                        · exact H.dbg y g q), (fun _ _ e => by cases e)⟩
theorem CGood.addInt (H : CGood prog w I B mg mb { gl := l, dz := z } k) {x : Str} {i : Int} (h1 : ∃ t, mg x = some (.int i t)) (h3 : (x == ("__debug__" : Str)) = false) : CGood prog w I B mg mb { gl := (x, .cint i) :: l, dz := z } k :=
  ⟨H.g, H.b, (fun y b' e => by rcases lk_cons e with ⟨rfl, q⟩ | q; · cases q
                               · exact H.bi y b' q), (fun y f sp e => by rcases lk_cons e with ⟨rfl, q⟩ | q; · cases q
                                                                         · exact H.fn y f sp q), (fun y i e => by rcases lk_cons e with ⟨rfl, q⟩ | q; · cases q; exact h1
                                                                                                                  · exact H.ci y i q), (fun y g e => by rcases lk_cons e with ⟨rfl, q⟩ | q; · exact h3
                                                                                                                                                        · exact H.dbg y g q), (fun _ _ e => by cases e)⟩
end
end Mine
end

section -- Q3e
open PySem PySem.W PyProof.Rows
set_option Elab.async false
set_option linter.unusedVariables false
namespace Mine
open PySem.SeqAt PySem.Calls

noncomputable def okDm (a b : Int) : Prop := a.natAbs < 2 ^ 99 ∧ b.natAbs < 2 ^ 99
noncomputable def spDm (c : Int → Int → Prop) : Spec := fun ds Q => ∃ a b : Int, ds = [.int a, .int b] ∧ okDm a b ∧ b ≠ 0 ∧ c a b ∧ Q (.tup [.int (a.fdiv b), .int (a.fmod b)])
noncomputable def cxDm (c : Int → Int → Prop) (z : Option Addr) : Cx := { gl := [(S "int_divmod", .fn 56 (spDm c)), (S "_divmod_pos", .fn 49 spPos)], dz := z }

theorem neg_both {a b : Int} (h : b < 0) : (-a).fdiv (-b) = a.fdiv b ∧ -((-a).fmod (-b)) = a.fmod b := by
  refine ⟨Int.neg_fdiv_neg a b, ?_⟩
  have e1 := Int.mul_fdiv_add_fmod (-a) (-b)
  have e2 := Int.mul_fdiv_add_fmod a b
  rw [Int.neg_fdiv_neg] at e1
  generalize (-a).fmod (-b) = r at *
  generalize a.fmod b = s at *
  generalize a.fdiv b = q at *
  have : -b * q = -(b * q) := Int.neg_mul ..
  (first | lia | omega)
theorem not_one {a b : Int} (h : 0 < b) : -((-a - 1).fdiv b) - 1 = a.fdiv b ∧ b + (-((-a - 1).fmod b) - 1) = a.fmod b := by
  rw [Int.fdiv_eq_ediv_of_nonneg _ (Int.le_of_lt h), Int.fdiv_eq_ediv_of_nonneg _ (Int.le_of_lt h), Int.fmod_eq_emod_of_nonneg _ (Int.le_of_lt h), Int.fmod_eq_emod_of_nonneg _ (Int.le_of_lt h)]
  have e1 := Int.mul_ediv_add_emod (-a - 1) b
  have l1 := Int.emod_nonneg (-a - 1) (Int.ne_of_gt h)
  have l2 := Int.emod_lt_of_pos (-a - 1) h
  generalize (-a - 1) / b = q at *
  generalize (-a - 1) % b = r at *
  have e : a = (b - 1 - r) + b * (-q - 1) := by
    have : b * (-q - 1) = -(b * q) - b := by rw [Int.mul_sub, Int.mul_neg, Int.mul_one]
    (first | lia | omega)
  constructor
  · rw [e, Int.add_mul_ediv_left _ _ (Int.ne_of_gt h), Int.ediv_eq_zero_of_lt (by (first | lia | omega)) (by (first | lia | omega))]; (first | lia | omega)
  · rw [e, Int.add_mul_emod_self_left, Int.emod_eq_of_lt (by (first | lia | omega)) (by (first | lia | omega))]; (first | lia | omega)
theorem bits100 {a : Int} (h : a.natAbs < 2 ^ 99) : Builtin.Int.intBits a ≤ 100 := PySem.intBits_le_iff.mpr (Nat.lt_trans h (by decide))

section
variable {prog : Program} {w : World} {bs : Heap} {l : List Tb} {pm : Nat → Value} {B : Heap} {mg mb : Str → Option Value}
theorem ok_dm (X : Lib pm B) (L : B.NoLimit) : FnOK (tbI bs l) B 56 (fdOf 7 (pm 7) (.ref 55)) (bdOf 7) (nmOf 7) [S "a", S "b"] :=
  fn_ok (X (7, 56) (by decide)) L (arity2 fun a b => rfl) rfl
theorem step_dm (X : Lib pm B) (L : B.NoLimit) {k : Nat} {c c0 : Int → Int → Prop} (H : CGood prog w (tbI bs l) B mg mb (cxDm c0 none) k)
    (h1 : ∀ a b, c a b → b < 0 → c0 (-a) (-b)) (h2 : ∀ a b, c a b → 0 < b → a < 0 → c0 (-a - 1) b) : GoodF prog w (tbI bs l) B (k + 1) 56 (spDm c) := by
  refine goodF_of (ok_dm X L) (stm_plain H rfl 40) fun ds Q q => ?_
  obtain ⟨a, b, rfl, ⟨oa, ob⟩, hb, hc, hQ⟩ := q
  refine ⟨rfl, rfl, ?_⟩
  conv => whnf
  refine ⟨rfl, Nat.le_of_ble_eq_true rfl, ?_⟩
  refine iteP_intro (fun hc => ?_) (fun hc1 => ?_)
  · exact (hb (by simpa [eqD] using hc)).elim
  · conv => whnf
    by_cases hn : b < 0
    · rw [decide_eq_true hn]
      conv => whnf
      refine ⟨-a, -b, rfl, ⟨by rw [Int.natAbs_neg]; exact oa, by rw [Int.natAbs_neg]; exact ob⟩, by (first | lia | omega), h1 a b hc hn, ?_⟩
      obtain ⟨e1, e2⟩ := neg_both (a := a) hn
      rw [e1]
      conv => whnf
      refine ⟨rfl, rfl, ?_⟩
      conv => whnf
      refine ⟨Nat.le_of_ble_eq_true rfl, ?_⟩
      conv => whnf
      rw [← e2] at hQ
      exact ⟨rfl, hQ⟩
    · rw [decide_eq_false hn]
      conv => whnf
      by_cases hm : a < 0
      · rw [decide_eq_true hm]
        conv => whnf
        have b0 : 0 < b := by (first | lia | omega)
        refine ⟨-a - 1, b, rfl, ⟨by (first | lia | omega), ob⟩, by (first | lia | omega), h2 a b hc b0 hm, ?_⟩
        obtain ⟨e1, e2⟩ := not_one (a := a) b0
        conv => whnf
        refine ⟨rfl, rfl, ?_⟩
        conv => whnf
        refine ⟨Nat.le_of_ble_eq_true rfl, ?_⟩
        conv => whnf
        rw [← e1, ← e2] at hQ
        exact ⟨rfl, hQ⟩
      · rw [decide_eq_false hm]
        conv => whnf
        have b0 : 0 < b := by (first | lia | omega)
        refine ⟨a, b, rfl, ⟨by (first | lia | omega), b0, bits100 oa, bits100 ob⟩, ?_⟩
        rw [Int.fdiv_eq_ediv_of_nonneg _ (Int.le_of_lt b0), Int.fmod_eq_emod_of_nonneg _ (Int.le_of_lt b0)] at hQ
        conv => whnf
        exact ⟨rfl, hQ⟩
theorem good_dm (X : Lib pm B) (L : B.NoLimit) {k : Nat} (hm : mg (S "int_divmod") = some (.ref 56)) (H : CGood prog w (tbI bs l) B mg mb { gl := [(S "_divmod_pos", .fn 49 spPos)] } k) : GoodF prog w (tbI bs l) B (k + 3) 56 (spDm fun _ _ => True) := by
  have G0 : GoodF prog w (tbI bs l) B k 56 (spDm fun _ _ => False) := ⟨let ⟨o, ho, hd⟩ := (ok_dm (bs := bs) (l := l) X L).obj; ⟨o, _, ho, hd⟩, fun A vs ds Q E s _ _ _ _ _ q => by obtain ⟨a, b, _, _, _, q, _⟩ := q; exact q.elim⟩
  have G1 := step_dm X L (k := k) (c := fun a b => 0 ≤ a ∧ 0 < b) (c0 := fun _ _ => False) (H.addFn hm G0 rfl) (fun a b h1 h2 => by (first | lia | omega)) (fun a b h1 h2 h3 => by (first | lia | omega))
  have G2 := step_dm X L (k := k + 1) (c := fun a b => 0 < b) (c0 := fun a b => 0 ≤ a ∧ 0 < b) ((H.more (Nat.le_add_right ..)).addFn hm G1 rfl) (fun a b h1 h2 => by (first | lia | omega)) (fun a b h1 h2 h3 => by (first | lia | omega))
  exact step_dm X L (k := k + 2) (c := fun a b => True) (c0 := fun a b => 0 < b) ((H.more (Nat.le_add_right ..)).addFn hm G2 rfl) (fun a b h1 h2 => by (first | lia | omega)) (fun a b h1 h2 h3 => by (first | lia | omega))
theorem goodZ_dm (X : Lib pm B) (L : B.NoLimit) {k : Nat} (H : CGood prog w (tbI bs l) B mg mb { gl := [] } k) (hz3 : mg (S "ZeroDivisionError") = none) (hz4 : mb (S "ZeroDivisionError") = some (.type "ZeroDivisionError")) : GoodZ prog w (tbI bs l) B (k + 1) 56 := by
  refine goodZ_of (n := 40) H (ok_dm X L) (zd := S "ZeroDivisionError") rfl rfl hz3 hz4 fun a => ?_
  conv => whnf
  exact ⟨rfl, Nat.le_of_ble_eq_true rfl, rfl⟩
end
end Mine
end

section -- Q3f
open PySem PySem.W PyProof.Rows
set_option Elab.async false
set_option linter.unusedVariables false
namespace Mine
open PySem.SeqAt PySem.Calls

noncomputable def apB (d : Int) : UInt8 := (65 + d).toNat.toUInt8
noncomputable def apL (a : Int) : List UInt8 := ((digs 4 (nd a 4) a).map apB).reverse
noncomputable def alphaB : List UInt8 := [65, 66, 67, 68, 69, 70, 71, 72, 73, 74, 75, 76, 77, 78, 79, 80]
noncomputable def spAP : Spec := fun ds Q => ∃ a : Int, ds = [.int a] ∧ a.natAbs < 2 ^ 99 ∧ Q (.bytes (apL a.natAbs))
noncomputable def cxAP : Cx := { gl := [(S "int", .bi .int), (S "abs", .bi .abs), (S "divmod", .bi .divmod)] }
theorem ap_tab : ∀ n : Nat, n < 16 → KBy.whole alphaB.toArray (some (n : Int)) (some ((n : Int) + 1)) = false ∧ pickB alphaB (some (n : Int)) (some ((n : Int) + 1)) = [apB n] := by decide +kernel
theorem ap_slice {d : Int} (h0 : 0 ≤ d) (h1 : d < 16) : KBy.whole alphaB.toArray (some d) (some (d + 1)) = false ∧ pickB alphaB (some d) (some (d + 1)) = [apB d] := by
  obtain ⟨n, rfl⟩ := Int.eq_ofNat_of_zero_le h0
  exact ap_tab n (Int.ofNat_lt.mp h1)
theorem zero_iff {a : Int} (h0 : 0 ≤ a) {j : Nat} : a / 2 ^ (4 * j) = 0 ↔ nd a 4 ≤ j := by
  have p := Mine.p2 (4 * j)
  have b := PySem.intBits_le_iff (x := a) (m := 4 * j)
  have c : a / 2 ^ (4 * j) = 0 ↔ a < 2 ^ (4 * j) := by
    constructor
    · intro e
      have := Int.lt_ediv_add_one_mul_self a p
      rw [e] at this; (first | lia | omega)
    · exact fun h => Int.ediv_eq_zero_of_lt h0 h
  rw [c]
  have d : a < 2 ^ (4 * j) ↔ a.natAbs < 2 ^ (4 * j) := by
    have e : (((2 ^ (4 * j) : Nat)) : Int) = 2 ^ (4 * j) := by push_cast; rfl
    rw [← e]
    (first | lia | omega)
  rw [d, ← b]
  unfold nd
  (first | lia | omega)
theorem digs_succ (a : Int) (n j : Nat) : digs n (j + 1) a = digs n j a ++ [a / 2 ^ (n * j) % 2 ^ n] := by
  rw [digs_app n j 1 a]; rfl

section
variable {prog : Program} {w : World} {bs : Heap} {l : List Tb} {pm : Nat → Value} {B : Heap} {mg mb : Str → Option Value}
theorem ok_ap (X : Lib pm B) (L : B.NoLimit) : FnOK (tbI bs l) B 77 (fdOf 12 (pm 12) (.ref 76)) (bdOf 12) (nmOf 12) [S "num"] :=
  fn_ok (X (12, 77) (by decide)) L (arity1 fun a => rfl) rfl
theorem good_ap (X : Lib pm B) (L : B.NoLimit) {k : Nat} (H : CGood prog w (tbI bs l) B mg mb cxAP k) : GoodF prog w (tbI bs l) B (k + 1) 77 spAP := by
  refine goodF_of (ok_ap X L) (stm_plain H rfl 40) fun ds Q q => ?_
  obtain ⟨a, rfl, ha, hQ⟩ := q
  refine ⟨rfl, rfl, ?_⟩
  conv => whnf
  refine ⟨rfl, ?_⟩
  conv => whnf
  refine ⟨rfl, ?_⟩
  conv => whnf
  refine ⟨rfl, ?_⟩
  have e : (if a < 0 then -a else a) = (a.natAbs : Int) := by split <;> (first | lia | omega)
  rw [e]
  have h0 : (0 : Int) ≤ a.natAbs := Int.natCast_nonneg _
  have hb : nd (a.natAbs : Int) 4 ≤ 100 := by
    have := bits100 (a := (a.natAbs : Int)) (by (first | lia | omega))
    unfold nd; (first | lia | omega)
  generalize (a.natAbs : Int) = x at *
  conv => whnf
  refine ⟨fun m st ow => ∃ j, j + m = nd x 4 ∧ st = [(S "num", .int (x / 2 ^ (4 * j))), (S "val", .bytes ((digs 4 j x).map apB).reverse), (S "AP", .bytes alphaB)] ∧ ow = [], ?_, ?_⟩
  · exact ⟨nd x 4, _, .cons (by simp) (.cons rfl (.cons rfl .nil)), 0, by (first | lia | omega), rfl, rfl⟩
  · rintro m _ _ ⟨j, hj, rfl, rfl⟩
    have zi := zero_iff h0 (j := j)
    have d0 : 0 ≤ x / 2 ^ (4 * j) % 16 := Int.emod_nonneg _ (by decide)
    have d1 : x / 2 ^ (4 * j) % 16 < 16 := Int.emod_lt_of_pos _ (by decide)
    have dv : x / 2 ^ (4 * j) / 16 = x / 2 ^ (4 * (j + 1)) := by
      rw [Int.ediv_ediv_of_nonneg (Int.le_of_lt (Mine.p2 _)), Nat.mul_succ, Int.pow_add]; rfl
    have ds := digs_succ x 4 j
    rw [show (2 : Int) ^ 4 = 16 from rfl] at ds
    conv => whnf
    by_cases hz : x / 2 ^ (4 * j) = 0
    · have e : (x / 2 ^ (4 * j) != 0) = false := by rw [hz]; rfl
      rw [e]
      conv => whnf
      have ej : j = nd x 4 := by have := zi.mp hz; (first | lia | omega)
      subst ej
      exact ⟨rfl, hQ⟩
    · have e : (x / 2 ^ (4 * j) != 0) = true := by simpa using hz
      rw [e]
      have jl : j < nd x 4 := by have := (not_congr zi).mp hz; (first | lia | omega)
      conv => whnf
      refine ⟨by decide, show (16 : Nat) < _ by decide, ?_⟩
      rw [Int.fdiv_eq_ediv_of_nonneg _ (by decide), Int.fmod_eq_emod_of_nonneg _ (by decide), dv]
      generalize x / 2 ^ (4 * j) % 16 = d at *
      obtain ⟨s1, s2⟩ := ap_slice d0 d1
      conv => whnf
      refine ⟨rfl, rfl, ?_⟩
      conv => whnf
      refine ⟨rfl, Nat.le_of_ble_eq_true rfl, s1, ?_, ?_⟩
      · show (pickB alphaB _ _).length ≤ 10000
        rw [s2]; exact Nat.le_of_ble_eq_true rfl
      · show vcE _ _ _ _ _ _
        rw [s2]
        conv => whnf
        have len : (List.map apB (digs 4 j x)).reverse.length = j := by rw [List.length_reverse, List.length_map, digs_length]
        refine ⟨by rw [len]; show 1 + j ≤ 10000; (first | lia | omega), ?_⟩
        have e2 : [apB d] ++ ((digs 4 j x).map apB).reverse = ((digs 4 (j + 1) x).map apB).reverse := by rw [ds]; simp
        rw [e2]
        conv => whnf
        refine ⟨rfl, ?_⟩
        conv => whnf
        exact ⟨nd x 4 - (j + 1), by (first | lia | omega), _, .cons rfl (.cons rfl (.cons rfl .nil)), j + 1, by (first | lia | omega), rfl, rfl⟩
end
end Mine
end

section -- F1
open PySem
set_option Elab.async false
set_option linter.unusedVariables false
namespace Mine
open PySem.Float64

theorem dist_lo {W X r B : Nat} (m : X + r = W) (c : 2 * r ≤ B) : 2 * dist W X ≤ B := by unfold dist; (first | lia | omega)
theorem dist_hi {W X r B : Nat} (m : X + r = W) (l : r < B) (c : ¬ 2 * r ≤ B) : 2 * dist W (X + B) ≤ B := by unfold dist; (first | lia | omega)
theorem dist_end {d W B E : Nat} (h : 2 * d ≤ B) (a : 2 ^ 52 * B ≤ W) : 2 ^ 53 * d ≤ W + E := by (first | lia | omega)
theorem near_one {W D : Nat} (hD : 0 < D) : ∃ t', 2 ^ 53 * dist W (D * V t') ≤ W + 2 ^ 53 * D := by
  by_cases h : W < 2 ^ 52 * D
  · refine ⟨W / D, ?_⟩
    have q : W / D < 2 ^ 52 := Nat.div_lt_of_lt_mul (by rw [Nat.mul_comm]; exact h)
    have e : V (W / D) = W / D := by
      have := V_at (k := 0) (q := W / D) (by (first | lia | omega)) (.inr rfl)
      simpa using this
    rw [e]
    have m := Nat.div_add_mod W D
    have l := Nat.mod_lt W hD
    have : dist W (D * (W / D)) ≤ D := by unfold dist; (first | lia | omega)
    exact Nat.le_trans (Nat.mul_le_mul_left _ this) (Nat.le_add_left _ _)
  · have h : 2 ^ 52 * D ≤ W := Nat.le_of_not_lt h
    have w1 : 2 ^ 52 ≤ W / D := (Nat.le_div_iff_mul_le hD).mpr h
    have w0 : W / D ≠ 0 := by (first | lia | omega)
    have l0 := Nat.log2_self_le w0
    have l1 := (Nat.log2_lt w0 (k := (W / D).log2 + 1)).mp (by (first | lia | omega))
    have l2 : 52 ≤ (W / D).log2 := (Nat.le_log2 w0).mpr w1
    obtain ⟨k, hk⟩ : ∃ k, (W / D).log2 = 52 + k := ⟨(W / D).log2 - 52, by (first | lia | omega)⟩
    rw [hk] at l0 l1
    have p : 0 < 2 ^ k := Nat.two_pow_pos k
    have e1 : (2 : Nat) ^ (52 + k) = 2 ^ 52 * 2 ^ k := Nat.pow_add ..
    have e2 : (2 : Nat) ^ (52 + k + 1) = 2 ^ 53 * 2 ^ k := by rw [show 52 + k + 1 = 53 + k by (first | lia | omega)]; exact Nat.pow_add ..
    rw [e1] at l0
    rw [e2] at l1
    have a1 : 2 ^ 52 * 2 ^ k * D ≤ W := (Nat.le_div_iff_mul_le hD).mp l0
    have a2 : W < 2 ^ 53 * 2 ^ k * D := (Nat.div_lt_iff_lt_mul hD).mp l1
    have a1' : 2 ^ 52 * (D * 2 ^ k) ≤ W := by rw [Nat.mul_comm D, ← Nat.mul_assoc]; exact a1
    have a2' : W < 2 ^ 53 * (D * 2 ^ k) := by rw [Nat.mul_comm D, ← Nat.mul_assoc]; exact a2
    have bp : 0 < D * 2 ^ k := Nat.mul_pos hD p
    have q1 : W / (D * 2 ^ k) < 2 ^ 53 := (Nat.div_lt_iff_lt_mul bp).mpr a2'
    have q0 : 2 ^ 52 ≤ W / (D * 2 ^ k) := (Nat.le_div_iff_mul_le bp).mpr a1'
    have m := Nat.div_add_mod W (D * 2 ^ k)
    have l := Nat.mod_lt W bp
    by_cases c : 2 * (W % (D * 2 ^ k)) ≤ D * 2 ^ k
    · refine ⟨k * 2 ^ 52 + W / (D * 2 ^ k), ?_⟩
      rw [V_at (by (first | lia | omega)) (.inl q0)]
      have e : D * (W / (D * 2 ^ k) * 2 ^ k) = D * 2 ^ k * (W / (D * 2 ^ k)) := by rw [Nat.mul_comm (W / _), Nat.mul_assoc]
      rw [e]
      exact dist_end (dist_lo m c) a1'
    · refine ⟨k * 2 ^ 52 + (W / (D * 2 ^ k) + 1), ?_⟩
      rw [V_at (by (first | lia | omega)) (.inl (by (first | lia | omega)))]
      have e : D * ((W / (D * 2 ^ k) + 1) * 2 ^ k) = D * 2 ^ k * (W / (D * 2 ^ k)) + D * 2 ^ k := by
        rw [Nat.mul_comm (_ + 1), ← Nat.mul_assoc, Nat.mul_add, Nat.mul_one]
      rw [e]
      exact dist_end (dist_hi m l c) a1'

noncomputable def Fin (x : UInt64) : Prop := ∃ a m e, decode x = .fin a m e
theorem Fin.isFinite {x : UInt64} (h : Fin x) : isFinite x = true := by obtain ⟨a, m, e, h⟩ := h; unfold Float64.isFinite; rw [h]

theorem big_lt : 2 * 2 ^ 2000 < (2 ^ 54 - 1) * (2 : Nat) ^ 2045 := by decide +kernel
theorem right_core {r : UInt64} {neg : Bool} {W D : Nat} (h : Right r neg W D) (hD : 0 < D) (hW : W ≤ D * 2 ^ 2000) :
    Fin r ∧ ∃ v : Nat, val r = sgn neg v ∧ 2 ^ 53 * dist W (D * v) ≤ W + 2 ^ 53 * D ∧ ∀ t', dist W (D * v) ≤ dist W (D * V t') := by
  obtain ⟨t, rfl, le, over, near⟩ := h
  have lt : t < infMag := by
    have : ¬ D * ((2 ^ 54 - 1) * 2 ^ 2045) ≤ 2 * W := fun q => absurd (Nat.le_of_mul_le_mul_left (Nat.le_trans q (Nat.le_trans (Nat.mul_le_mul_left 2 hW) (Nat.le_of_eq (Nat.mul_left_comm 2 D (2 ^ 2000))))) hD) (Nat.not_le.mpr big_lt)
    have ne := fun q => this (over.mp q)
    (first | lia | omega)
  obtain ⟨m, e, hd, hv⟩ := decode_pack neg lt
  refine ⟨⟨_, _, _, hd⟩, V t, val_pack neg lt, ?_, fun t' => (near lt t').1⟩
  obtain ⟨t', ht'⟩ := near_one (W := W) hD
  exact Nat.le_trans (Nat.mul_le_mul_left _ (near lt t').1) ht'
end Mine
end

section -- F2
open PySem
set_option Elab.async false
set_option linter.unusedVariables false
namespace Mine
open PySem.Float64

noncomputable def KN : Nat := 2 ^ 1074
theorem KN_pos : 0 < KN := Nat.two_pow_pos _
theorem KN_big : 2 ^ 300 ≤ KN := by unfold KN; decide +kernel
theorem KN_top : 2 * (2 ^ 100 * KN) ≤ 1 * 2 ^ 2000 := by unfold KN; decide +kernel
theorem KN_top2 : (2 ^ 100 * KN) * (2 ^ 100 * KN) ≤ KN * 2 ^ 2000 := by unfold KN; decide +kernel
theorem KN_top3 : 2 ^ 100 * KN * 1 ≤ 2 ^ 2000 := by unfold KN; decide +kernel
theorem KN_top4 : (2 ^ 100 * KN) * KN ≤ 6 * KN * 2 ^ 2000 := by unfold KN; decide +kernel
noncomputable def eta : Rat := (KN : Rat)⁻¹
noncomputable def fv (x : UInt64) : Rat := (val x : Rat) * eta
theorem K_pos : (0 : Rat) < (KN : Rat) := by exact_mod_cast KN_pos
theorem eta_pos : 0 < eta := Rat.inv_pos.mpr K_pos
theorem eta_K : (KN : Rat) * eta = 1 := Rat.mul_inv_cancel _ (Rat.ne_of_gt K_pos)
theorem eta_small : eta * 2037035976334486086268445688409378161051468393665936250636140449354381299763336706183397376 ≤ 1 := by
  have h : (((2 ^ 300 : Nat)) : Rat) ≤ (KN : Rat) := by exact_mod_cast KN_big
  have h2 := Rat.mul_le_mul_of_nonneg_left h (Rat.le_of_lt eta_pos)
  have h3 := eta_K
  have e : (((2 ^ 300 : Nat)) : Rat) = 2037035976334486086268445688409378161051468393665936250636140449354381299763336706183397376 := by norm_cast
  rw [e] at h2
  grind

noncomputable def Rnd (r : UInt64) (X : Rat) : Prop := Fin r ∧ (0 ≤ X → 0 ≤ fv r) ∧ ∀ M : Rat, -M ≤ X → X ≤ M → X - (M / 9007199254740992 + eta) ≤ fv r ∧ fv r ≤ X + (M / 9007199254740992 + eta)

theorem right_int {r : UInt64} {neg : Bool} {W D : Nat} (h : Right r neg W D) (hD : 0 < D) (hW : W ≤ D * 2 ^ 2000) :
    Fin r ∧ 9007199254740992 * (val r * D - sgn neg W) ≤ W + 9007199254740992 * D ∧ -((W : Int) + 9007199254740992 * D) ≤ 9007199254740992 * (val r * D - sgn neg W) ∧ (0 ≤ sgn neg W → 0 ≤ val r) := by
  obtain ⟨f, v, e, h, ex⟩ := right_core h hD hW
  have ex0 : W = 0 → v = 0 := fun q => by
    have := ex 0
    rw [V_zero, q] at this
    have : D * v = 0 := by unfold dist at this; (first | lia | omega)
    rcases Nat.mul_eq_zero.mp this with h | h
    · (first | lia | omega)
    · exact h
  refine ⟨f, ?_⟩
  rw [e]
  have e2 : sgn neg v * (D : Int) = sgn neg (D * v) := by
    unfold sgn; cases neg <;> simp [Int.mul_comm, Int.mul_neg]
  rw [e2]
  have h : 9007199254740992 * dist W (D * v) ≤ W + 9007199254740992 * D := h
  refine (and_assoc.mp ⟨?_, fun q => ?_⟩)
  · generalize D * v = Z at *
    unfold dist at h
    unfold sgn
    cases neg <;> simp <;> (first | lia | omega)
  · unfold sgn at *
    cases neg with
    | false => simp
    | true =>
      simp only [if_true] at q ⊢
      have := ex0 (by (first | lia | omega))
      (first | lia | omega)

theorem err_hi {R S W D p e X M : Rat} (hp : 0 ≤ p) (hD : D * p = e) (h : 9007199254740992 * (R * D - S) ≤ W + 9007199254740992 * D) (hX : X = S * p) (hM : W * p ≤ M) : R * e ≤ X + (M / 9007199254740992 + e) := by
  have := Rat.mul_le_mul_of_nonneg_right h hp
  subst hX; subst hD
  grind
theorem err_lo {R S W D p e X M : Rat} (hp : 0 ≤ p) (hD : D * p = e) (h : -(W + 9007199254740992 * D) ≤ 9007199254740992 * (R * D - S)) (hX : X = S * p) (hM : W * p ≤ M) : X - (M / 9007199254740992 + e) ≤ R * e := by
  have := Rat.mul_le_mul_of_nonneg_right h hp
  subst hX; subst hD
  grind
theorem rnd_of {r : UInt64} {neg : Bool} {W D : Nat} {X p : Rat} (h : Right r neg W D) (hD : 0 < D) (hW : W ≤ D * 2 ^ 2000) (hp : 0 < p) (hDp : (D : Rat) * p = eta) (hX : X = (sgn neg W : Int) * p) : Rnd r X := by
  obtain ⟨f, h1, h2, h3⟩ := right_int h hD hW
  refine ⟨f, fun q => ?_, fun M m1 m2 => ?_⟩
  · have z : 0 ≤ sgn neg W := by
      rcases Int.lt_or_le (sgn neg W) 0 with q2 | q2
      · have q3 : ((sgn neg W : Int) : Rat) < 0 := by exact_mod_cast q2
        have := Rat.mul_lt_mul_of_pos_right q3 hp
        grind
      · exact q2
    have z2 : (0 : Rat) ≤ ((val r : Int) : Rat) := by exact_mod_cast h3 z
    exact Rat.mul_nonneg z2 (Rat.le_of_lt eta_pos)
  have hM : (W : Rat) * p ≤ M := by
    rw [hX] at m1 m2
    unfold sgn at m1 m2
    cases neg with
    | true =>
      simp only [if_true] at m1 m2
      rw [Rat.intCast_neg, Rat.intCast_natCast] at m1
      grind
    | false =>
      simp only [Bool.false_eq_true, if_false] at m1 m2
      rw [Rat.intCast_natCast] at m2
      exact m2
  have h1' : ((9007199254740992 * (val r * D - sgn neg W) : Int) : Rat) ≤ ((W + 9007199254740992 * D : Int) : Rat) := Rat.intCast_le_intCast.mpr h1
  have h2' : ((-(W + 9007199254740992 * D) : Int) : Rat) ≤ ((9007199254740992 * (val r * D - sgn neg W) : Int) : Rat) := Rat.intCast_le_intCast.mpr h2
  push_cast at h1' h2'
  refine ⟨?_, ?_⟩
  · exact err_lo (Rat.le_of_lt hp) hDp h2' hX hM
  · exact err_hi (Rat.le_of_lt hp) hDp h1' hX hM
end Mine
end

section -- F3
open PySem
set_option Elab.async false
set_option linter.unusedVariables false
namespace Mine
open PySem.Float64

noncomputable def Bd (q : Rat) : Prop := -1267650600228229401496703205376 ≤ q ∧ q ≤ 1267650600228229401496703205376
theorem KN_is : (2 : Nat) ^ 1074 = KN := by unfold KN; exact Eq.refl _
theorem val_fv (x : UInt64) : (val x : Rat) = fv x * (KN : Rat) := by
  unfold fv
  have := eta_K
  grind
theorem bd_nat {x : UInt64} (h : Bd (fv x)) : (val x).natAbs ≤ 2 ^ 100 * KN := by
  have k := K_pos
  obtain ⟨h1, h2⟩ := h
  have a1 := Rat.mul_le_mul_of_nonneg_right h1 (Rat.le_of_lt k)
  have a2 := Rat.mul_le_mul_of_nonneg_right h2 (Rat.le_of_lt k)
  rw [← val_fv] at a1 a2
  have e1 : ((-(1267650600228229401496703205376 * (KN : Int)) : Int) : Rat) ≤ ((val x : Int) : Rat) := by push_cast; grind
  have e2 : ((val x : Int) : Rat) ≤ ((1267650600228229401496703205376 * (KN : Int) : Int) : Rat) := by push_cast; exact a2
  have e1 := Rat.intCast_le_intCast.mp e1
  have e2 := Rat.intCast_le_intCast.mp e2
  rw [show (2 : Nat) ^ 100 = 1267650600228229401496703205376 from rfl]
  omega
theorem fv_zero (b : Bool) : Fin (zero b) ∧ fv (zero b) = 0 := by
  have e : val (zero b) = 0 := by cases b <;> decide +kernel
  refine ⟨?_, by unfold fv; rw [e]; simp⟩
  obtain ⟨m, e, h, _⟩ := decode_pack b (t := 0) (by decide)
  exact ⟨_, _, _, h⟩
theorem rnd_zero (b : Bool) {X : Rat} (h : X = 0) : Rnd (zero b) X := by
  obtain ⟨f, z⟩ := fv_zero b
  have := eta_pos
  refine ⟨f, fun _ => by rw [z]; exact Rat.le_refl, fun M m1 m2 => ?_⟩
  rw [z]; subst h
  grind
theorem sgn_dec (S : Int) : sgn (decide (S < 0)) S.natAbs = S := by
  unfold sgn
  by_cases h : S < 0
  · simp [h]; omega
  · simp [h]; omega
theorem add_rnd {x y : UInt64} (hx : Fin x) (hy : Fin y) (bx : Bd (fv x)) (by' : Bd (fv y)) : Rnd (add x y) (fv x + fv y) := by
  obtain ⟨a, m, e, hx⟩ := hx
  obtain ⟨b, k, f, hy⟩ := hy
  obtain ⟨h0, h1⟩ := add_right hx hy
  have e1 : fv x + fv y = ((val x + val y : Int) : Rat) * eta := by unfold fv; push_cast; grind
  by_cases hz : val x + val y = 0
  · rw [h0 hz]
    exact rnd_zero _ (by rw [e1, hz]; simp)
  · refine rnd_of (h1 hz) (by decide) ?_ eta_pos (by simp) (by rw [sgn_dec]; exact e1)
    have n1 := bd_nat bx
    have n2 := bd_nat by'
    have : (val x + val y).natAbs ≤ 2 * (2 ^ 100 * KN) := by
      generalize 2 ^ 100 * KN = T at *
      omega
    exact Nat.le_trans this KN_top
theorem sub_rnd {x y : UInt64} (hx : Fin x) (hy : Fin y) (bx : Bd (fv x)) (by' : Bd (fv y)) : Rnd (sub x y) (fv x - fv y) := by
  obtain ⟨a, m, e, hx⟩ := hx
  obtain ⟨b, k, f, hy⟩ := hy
  obtain ⟨h0, h1⟩ := sub_right hx hy
  have e1 : fv x - fv y = ((val x - val y : Int) : Rat) * eta := by unfold fv; push_cast; grind
  by_cases hz : val x - val y = 0
  · rw [h0 hz]
    exact rnd_zero _ (by rw [e1, hz]; simp)
  · refine rnd_of (h1 hz) (by decide) ?_ eta_pos (by simp) (by rw [sgn_dec]; exact e1)
    have n1 := bd_nat bx
    have n2 := bd_nat by'
    have : (val x - val y).natAbs ≤ 2 * (2 ^ 100 * KN) := by
      generalize 2 ^ 100 * KN = T at *
      omega
    exact Nat.le_trans this KN_top
theorem mul_rnd {x y : UInt64} (hx : Fin x) (hy : Fin y) (bx : Bd (fv x)) (by' : Bd (fv y)) : Rnd (mul x y) (fv x * fv y) := by
  obtain ⟨a, m, e, hx⟩ := hx
  obtain ⟨b, k, f, hy⟩ := hy
  have h := mul_right hx hy
  rw [KN_is] at h
  have ep := eta_pos
  refine rnd_of (p := eta * eta) h KN_pos ?_ (Rat.mul_pos ep ep) ?_ ?_
  · exact Nat.le_trans (Nat.mul_le_mul (bd_nat bx) (bd_nat by')) KN_top2
  · have := eta_K; grind
  · have e2 : sgn (a != b) ((val x).natAbs * (val y).natAbs) = val x * val y := by
      rw [val_natAbs hx, val_natAbs hy, val_eq hx, val_eq hy]
      generalize m * 2 ^ (e + 1074).toNat = u
      generalize k * 2 ^ (f + 1074).toNat = v
      unfold sgn
      cases a <;> cases b <;> simp [Int.mul_neg, Int.neg_mul]
    rw [e2]
    unfold fv; push_cast; grind
theorem div_rnd {x y : UInt64} (hx : Fin x) (hy : Fin y) (bx : Bd (fv x)) (hq : val y = 6 * (KN : Int)) : Rnd (div x y) (fv x / 6) := by
  obtain ⟨a, m, e, hx⟩ := hx
  obtain ⟨b, k, f, hy⟩ := hy
  have k0 := KN_pos
  have hk : k ≠ 0 := fun q => by
    subst q
    rw [val_eq hy] at hq
    unfold sgn at hq
    cases b <;> simp at hq <;> omega
  have hb : b = false := by
    cases b with
    | false => rfl
    | true =>
      rw [val_eq hy] at hq
      unfold sgn at hq
      simp only [if_true] at hq
      omega
  have h := div_right hx hy hk
  have hn : (val y).natAbs = 6 * KN := by rw [hq]; omega
  rw [hn, KN_is] at h
  have ep := eta_pos
  refine rnd_of (p := eta * eta / 6) h (by omega) ?_ (by have := Rat.mul_pos ep ep; grind) ?_ ?_
  · exact Nat.le_trans (Nat.mul_le_mul_right _ (bd_nat bx)) KN_top4
  · push_cast; have := eta_K; grind
  · have e2 : sgn (a != b) ((val x).natAbs * KN) = val x * (KN : Int) := by
      rw [val_natAbs hx, val_eq hx, hb]
      generalize m * 2 ^ (e + 1074).toNat = u
      unfold sgn
      cases a <;> simp [Int.neg_mul]
    rw [e2]
    have := eta_K
    unfold fv; push_cast; grind
theorem frac_rnd {n d : Nat} (hd : 0 < d) (hn : n ≤ 2 ^ 100) : Rnd (ofFrac false n d) ((n : Rat) / (d : Rat)) := by
  have h := ofFrac_right (neg := false) (n := n) (d := d) (W := n * KN) (D := d) hd (by rw [KN_is]) hd
  have dp : (0 : Rat) < (d : Rat) := by exact_mod_cast hd
  have ep := eta_pos
  have hdi := Rat.mul_inv_cancel (d : Rat) (Rat.ne_of_gt dp)
  refine rnd_of (p := eta * (d : Rat)⁻¹) h hd ?_ (Rat.mul_pos ep (Rat.inv_pos.mpr dp)) (by grind) ?_
  · have : n * KN ≤ 2 ^ 100 * KN * 1 := by rw [Nat.mul_one]; exact Nat.mul_le_mul_right _ hn
    exact Nat.le_trans this (Nat.le_trans KN_top3 (Nat.le_mul_of_pos_left _ hd))
  · unfold sgn
    simp only [Bool.false_eq_true, if_false]
    push_cast
    have := eta_K
    rw [Rat.div_def]
    grind
end Mine
end

section -- F4
open PySem
set_option Elab.async false
set_option linter.unusedVariables false
namespace Mine
open PySem.Float64

theorem rep (q : Nat) (hq : q ≤ 2 ^ 53) : ∀ k, ∃ t, V t = q * 2 ^ k := by
  intro k
  induction k generalizing q with
  | zero => exact ⟨0 * 2 ^ 52 + q, by rw [V_at hq (.inr rfl)]⟩
  | succ k ih =>
    by_cases h : 2 ^ 52 ≤ q
    · exact ⟨(k + 1) * 2 ^ 52 + q, V_at hq (.inl h)⟩
    · obtain ⟨t, ht⟩ := ih (2 * q) (by (first | lia | omega))
      exact ⟨t, by rw [ht, Nat.pow_succ, Nat.mul_comm 2 q, Nat.mul_assoc, Nat.mul_comm 2]⟩
theorem right_exact {r : UInt64} {neg : Bool} {W : Nat} (h : Right r neg W 1) (hW : W ≤ 2 ^ 2000) (hr : ∃ t, V t = W) : Fin r ∧ val r = sgn neg W := by
  obtain ⟨f, v, e, _, ex⟩ := right_core h (by decide) (by rw [Nat.one_mul]; exact hW)
  obtain ⟨t, ht⟩ := hr
  have := ex t
  rw [ht] at this
  have e2 : v = W := by unfold dist at this; (first | lia | omega)
  subst e2
  exact ⟨f, e⟩
theorem ofInt_exact {i : Int} (hi : i.natAbs ≤ 2 ^ 53) : Fin (ofInt i) ∧ fv (ofInt i) = (i : Rat) := by
  have h := ofInt_right i
  rw [KN_is] at h
  obtain ⟨f, e⟩ := right_exact h (Nat.le_trans (Nat.mul_le_mul_right _ hi) (by unfold KN; decide +kernel)) (by rw [← KN_is]; exact rep _ hi 1074)
  refine ⟨f, ?_⟩
  have e2 : sgn (decide (i < 0)) (i.natAbs * KN) = i * (KN : Int) := by
    unfold sgn
    by_cases c : i < 0
    · simp only [c, decide_true, if_true, Int.natCast_mul]
      rw [show (i.natAbs : Int) = -i by (first | lia | omega), Int.neg_mul, Int.neg_neg]
    · simp only [c, decide_false, Bool.false_eq_true, if_false, Int.natCast_mul]
      rw [show (i.natAbs : Int) = i by (first | lia | omega)]
  unfold fv
  rw [e, e2]
  push_cast
  have := eta_K
  grind
end Mine
end

section -- F5
open PySem
set_option Elab.async false
set_option linter.unusedVariables false
namespace Mine
open PySem.Float64

theorem fv_nonneg {x : UInt64} : 0 ≤ fv x ↔ 0 ≤ val x := by
  have h : fv x * (KN : Rat) = (val x : Rat) := (val_fv x).symm
  constructor
  · intro q
    have : (0 : Rat) ≤ ((val x : Int) : Rat) := by rw [← h]; exact Rat.mul_nonneg q (Rat.le_of_lt K_pos)
    exact_mod_cast this
  · intro q
    have : (0 : Rat) ≤ ((val x : Int) : Rat) := by exact_mod_cast q
    exact Rat.mul_nonneg this (Rat.le_of_lt eta_pos)
theorem trunc_spec {x : UInt64} (hx : Fin x) (h0 : 0 ≤ fv x) : ∃ n : Nat, PySem.Flt.toInt truncOf x = (n : Int) ∧ (n : Rat) ≤ fv x ∧ fv x < (n : Rat) + 1 := by
  have v0 := fv_nonneg.mp h0
  obtain ⟨a, m, e, hd⟩ := hx
  have hv := val_eq hd
  have ht : PySem.Flt.toInt truncOf x = truncOf a m e := by unfold PySem.Flt.toInt; rw [hd]
  have core : ∃ n : Nat, truncOf a m e = (n : Int) ∧ (n : Int) * (KN : Int) ≤ val x ∧ val x < ((n : Int) + 1) * (KN : Int) := by
    have kp := KN_pos
    have he := decode_ge hd
    cases a with
    | true =>
      have p : 0 < 2 ^ (e + 1074).toNat := Nat.two_pow_pos _
      have z : m * 2 ^ (e + 1074).toNat = 0 := by
        rw [hv] at v0; unfold sgn at v0
        simp only [if_true] at v0
        (first | lia | omega)
      have m0 : m = 0 := by rcases Nat.mul_eq_zero.mp z with h | h <;> (first | lia | omega)
      subst m0
      refine ⟨0, ?_, ?_, ?_⟩
      · unfold truncOf ceilOf floorOf sgn
        simp
      · rw [hv]; unfold sgn; simp
      · rw [hv]; unfold sgn; simp; (first | lia | omega)
    | false =>
      have hv : val x = ((m * 2 ^ (e + 1074).toNat : Nat) : Int) := by rw [hv]; rfl
      by_cases c : 0 ≤ e
      · refine ⟨m * 2 ^ e.toNat, ?_, ?_, ?_⟩
        · unfold truncOf floorOf sgn
          simp [c]
        all_goals
          rw [hv, show (e + 1074).toNat = e.toNat + 1074 by (first | lia | omega), Nat.pow_add, KN_is]
          push_cast
          generalize (2 : Int) ^ e.toNat = T
          generalize (m : Int) = M
          have : (0 : Int) < (KN : Int) := by exact_mod_cast kp
          grind
      · have c2 : ¬ e ≥ 0 := c
        obtain ⟨j, hj⟩ : ∃ j : Nat, e = -(j : Int) := ⟨(-e).toNat, by (first | lia | omega)⟩
        have j1 : j ≤ 1074 := by (first | lia | omega)
        refine ⟨m / 2 ^ j, ?_, ?_⟩
        · unfold truncOf floorOf sgn
          simp only [Bool.false_eq_true, if_false, c2]
          rw [hj, Int.neg_neg, Int.toNat_natCast, Int.fdiv_eq_ediv_of_nonneg _ (Int.le_of_lt (Int.pow_pos (by decide)))]
          push_cast
          rfl
        · have e1 : (e + 1074).toNat = 1074 - j := by (first | lia | omega)
          have e2 : KN = 2 ^ j * 2 ^ (1074 - j) := by rw [← Nat.pow_add, show j + (1074 - j) = 1074 by (first | lia | omega), KN_is]
          rw [hv, e1]
          have md := Nat.div_add_mod m (2 ^ j)
          have ml := Nat.mod_lt m (Nat.two_pow_pos j)
          have u1 : m / 2 ^ j * KN ≤ m * 2 ^ (1074 - j) := by
            rw [e2, ← Nat.mul_assoc]
            exact Nat.mul_le_mul_right _ (Nat.div_mul_le_self m _)
          have u2 : m * 2 ^ (1074 - j) < (m / 2 ^ j + 1) * KN := by
            rw [e2, ← Nat.mul_assoc]
            refine Nat.mul_lt_mul_of_pos_right ?_ (Nat.two_pow_pos _)
            rw [Nat.add_mul, Nat.one_mul, Nat.mul_comm]; (first | lia | omega)
          exact ⟨by exact_mod_cast u1, by exact_mod_cast u2⟩
  obtain ⟨n, h1, h2, h3⟩ := core
  refine ⟨n, ht.trans h1, ?_, ?_⟩
  · have r : (((n : Int) * (KN : Int) : Int) : Rat) ≤ ((val x : Int) : Rat) := by exact_mod_cast h2
    rw [val_fv] at r
    push_cast at r
    exact Rat.le_of_mul_le_mul_right r K_pos
  · have r : ((val x : Int) : Rat) < ((((n : Int) + 1) * (KN : Int) : Int) : Rat) := by exact_mod_cast h3
    rw [val_fv] at r
    push_cast at r
    exact Rat.lt_of_mul_lt_mul_right r (Rat.le_of_lt K_pos)
end Mine
end

section -- F6
open PySem
set_option Elab.async false
set_option linter.unusedVariables false
namespace Mine
open PySem.Float64

theorem decode_lt {x : UInt64} {a : Bool} {m : Nat} {e : Int} (h : decode x = .fin a m e) : m < 2 ^ 53 := by
  unfold decode at h
  simp only at h
  split at h
  · split at h <;> cases h
  · split at h
    · cases h; exact Nat.lt_trans (Nat.mod_lt _ (by decide)) (by decide)
    · cases h
      have := Nat.mod_lt x.toNat (show 0 < 2 ^ 52 by decide)
      (first | lia | omega)
theorem rep_val {x : UInt64} (h : Fin x) : ∃ t, V t = (val x).natAbs := by
  obtain ⟨a, m, e, h⟩ := h
  rw [val_natAbs h]
  exact rep m (Nat.le_of_lt (decode_lt h)) _
theorem fin_zero {x : UInt64} (h : Fin x) : isZero x = true ↔ val x = 0 := by
  obtain ⟨a, m, e, h⟩ := h
  have p : 0 < 2 ^ (e + 1074).toNat := Nat.two_pow_pos _
  have n := val_natAbs h
  unfold isZero
  rw [h]
  cases m with
  | zero => simp at n; simp [n]
  | succ m =>
    have : 0 < (m + 1) * 2 ^ (e + 1074).toNat := Nat.mul_pos (by (first | lia | omega)) p
    simp only [Bool.false_eq_true, false_iff]
    (first | lia | omega)
theorem cmp_val {x y : UInt64} (hx : Fin x) (hy : Fin y) : cmp x y = some (compare (val x) (val y)) := by
  obtain ⟨_, _, _, hx⟩ := hx
  obtain ⟨_, _, _, hy⟩ := hy
  exact cmp_right hx hy
noncomputable def oneF : UInt64 := 4607182418800017408
theorem one_decode : decode oneF = .fin false (2 ^ 52) (-52) := by kernel_rfl
theorem one_fin : Fin oneF := ⟨_, _, _, one_decode⟩
theorem one_val : val oneF = (KN : Int) := by
  rw [val_eq one_decode]
  unfold sgn
  simp only [Bool.false_eq_true, if_false]
  rw [show (-52 + 1074 : Int).toNat = 1022 from rfl, ← Nat.pow_add, show 52 + 1022 = 1074 from rfl, KN_is]
theorem fv_one : fv oneF = 1 := by
  unfold fv; rw [one_val]; push_cast; exact eta_K
theorem exp_split {e g : Int} (h1 : g ≤ e) (h2 : -1074 ≤ g) : (e + 1074).toNat = (e - g).toNat + (g + 1074).toNat := by (first | lia | omega)
theorem fmod_one {x : UInt64} (hx : Fin x) (h : (val x).natAbs < KN) : Fin (fmod x oneF) ∧ val (fmod x oneF) = val x := by
  have hr := rep_val hx
  obtain ⟨a, m, e, hd⟩ := hx
  have he := decode_ge hd
  have hn := val_natAbs hd
  have hg : -1074 ≤ min e (-52) := Int.le_min.mpr ⟨he, by decide⟩
  have e1 : (e + 1074).toNat = (e - min e (-52)).toNat + (min e (-52) + 1074).toNat := exp_split (Int.min_le_left ..) hg
  have e2 : (1022 : Nat) = (-52 - min e (-52)).toNat + (min e (-52) + 1074).toNat := exp_split (e := -52) (Int.min_le_right ..) hg
  have lt : m * 2 ^ (e - min e (-52)).toNat < 2 ^ 52 * 2 ^ (-52 - min e (-52)).toNat := by
    have k : KN = 2 ^ 52 * 2 ^ 1022 := by rw [← Nat.pow_add, show 52 + 1022 = 1074 from rfl, KN_is]
    have e3 : (2 : Nat) ^ (1022 : Nat) = 2 ^ (-52 - min e (-52)).toNat * 2 ^ (min e (-52) + 1074).toNat := by rw [← Nat.pow_add, ← e2]
    rw [hn, k, e3, e1, Nat.pow_add, ← Nat.mul_assoc, ← Nat.mul_assoc] at h
    exact Nat.lt_of_mul_lt_mul_right h
  have hf : fmod x oneF = ofBin a (m * 2 ^ (e - min e (-52)).toNat) (min e (-52)) := by
    unfold fmod
    rw [hd, one_decode]
    simp only
    rw [if_neg (by decide)]
    unfold align sgn
    simp only [Bool.false_eq_true, if_false, Int.toNat_natCast]
    rw [Nat.mod_eq_of_lt lt]
  have R : Right (fmod x oneF) a (val x).natAbs 1 := by
    rw [hf]
    have := shift_one (m * 2 ^ (e - min e (-52)).toNat) (min e (-52)) 1074 hg
    have g2 : (shift (m * 2 ^ (e - min e (-52)).toNat) 1 (min e (-52))).1 * 2 ^ 1074 * 1 = (val x).natAbs * (shift (m * 2 ^ (e - min e (-52)).toNat) 1 (min e (-52))).2 := by
      rw [Nat.mul_one, this, hn, e1, Nat.pow_add, Nat.mul_assoc m]
      rfl
    exact ofFrac_right (shift_pos _ _ _ (by decide)) g2 (by decide)
  obtain ⟨f, v⟩ := right_exact R (Nat.le_trans (Nat.le_of_lt h) (by unfold KN; decide +kernel)) hr
  refine ⟨f, ?_⟩
  rw [v, hn, val_eq hd]
end Mine
end

section -- F7
open PySem
set_option Elab.async false
set_option linter.unusedVariables false
namespace Mine
open PySem.Float64

theorem const_val {x : UInt64} {m j : Nat} (h : decode x = .fin false m (-(j : Int))) (hj : j ≤ 1074) (n : Nat) (hn : m = n * 2 ^ j) : Fin x ∧ val x = n * (KN : Int) ∧ fv x = (n : Rat) := by
  have v : val x = n * (KN : Int) := by
    rw [val_eq h]
    unfold sgn
    simp only [Bool.false_eq_true, if_false]
    rw [show (-(j : Int) + 1074).toNat = 1074 - j by (first | lia | omega), hn, Nat.mul_assoc, ← Nat.pow_add, show j + (1074 - j) = 1074 by (first | lia | omega), KN_is]
    push_cast; rfl
  refine ⟨⟨_, _, _, h⟩, v, ?_⟩
  unfold fv; rw [v]; push_cast
  have := eta_K
  grind
theorem two_fl : Fin 4611686018427387904 ∧ fv 4611686018427387904 = 2 := by
  have h : decode 4611686018427387904 = .fin false 4503599627370496 (-((51 : Nat) : Int)) := by kernel_rfl
  obtain ⟨a, _, b⟩ := const_val h (by decide) 2 (by decide)
  exact ⟨a, b⟩
theorem four_fl : Fin 4616189618054758400 ∧ fv 4616189618054758400 = 4 := by
  have h : decode 4616189618054758400 = .fin false 4503599627370496 (-((50 : Nat) : Int)) := by kernel_rfl
  obtain ⟨a, _, b⟩ := const_val h (by decide) 4 (by decide)
  exact ⟨a, b⟩
theorem six_fl : Fin 4618441417868443648 ∧ val 4618441417868443648 = 6 * (KN : Int) ∧ fv 4618441417868443648 = 6 := by
  have h : decode 4618441417868443648 = .fin false 6755399441055744 (-((50 : Nat) : Int)) := by kernel_rfl
  exact const_val h (by decide) 6 (by decide)

theorem lt_zero {x : UInt64} (h : Fin x) : lt x (zero false) = decide (val x < 0) := by
  unfold lt
  rw [cmp_val h (fv_zero false).1]
  have e : val (zero false) = 0 := by decide +kernel
  rw [e]
  rcases Int.lt_trichotomy (val x) 0 with q | q | q
  · rw [Int.compare_eq_lt.mpr q]; simp [q]
  · rw [q]; rfl
  · rw [Int.compare_eq_gt.mpr q]; simp; (first | lia | omega)
theorem val_lt_KN {x : UInt64} (h1 : -1 < fv x) (h2 : fv x < 1) : (val x).natAbs < KN := by
  have a1 := Rat.mul_lt_mul_of_pos_right h1 K_pos
  have a2 := Rat.mul_lt_mul_of_pos_right h2 K_pos
  rw [← val_fv] at a1 a2
  have e1 : ((-(KN : Int) : Int) : Rat) < ((val x : Int) : Rat) := by push_cast; grind
  have e2 : ((val x : Int) : Rat) < (((KN : Int) : Int) : Rat) := by push_cast; grind
  have e1 := Rat.intCast_lt_intCast.mp e1
  have e2 := Rat.intCast_lt_intCast.mp e2
  (first | lia | omega)
theorem mod_one {x : UInt64} (hx : Fin x) (h1 : -1 < fv x) (h2 : fv x < 1) : Fin (divmod x oneF).2 ∧ (0 ≤ fv x → fv (divmod x oneF).2 = fv x) ∧ (fv x < 0 → Rnd (divmod x oneF).2 (fv x + 1)) := by
  obtain ⟨f, v⟩ := fmod_one hx (val_lt_KN h1 h2)
  have fe : fv (fmod x oneF) = fv x := by unfold fv; rw [v]
  have dm : (divmod x oneF).2 = (if isZero (fmod x oneF) then copysign (zero false) oneF else if lt oneF (zero false) != lt (fmod x oneF) (zero false) then add (fmod x oneF) oneF else fmod x oneF) := by
    unfold divmod
    simp only
    split
    · rfl
    · split <;> rfl
  have cs : copysign (zero false) oneF = zero false := by decide +kernel
  have l1 : lt oneF (zero false) = false := by decide +kernel
  rw [dm, lt_zero f, v, cs, l1]
  by_cases hz : val x = 0
  · rw [if_pos ((fin_zero f).mpr (v.trans hz))]
    obtain ⟨z1, z2⟩ := fv_zero false
    have e : fv x = 0 := by unfold fv; rw [hz]; simp
    exact ⟨z1, fun _ => by rw [z2, e], fun q => by rw [e] at q; exact absurd q (by decide)⟩
  · rw [if_neg (by rw [fin_zero f, v]; exact hz)]
    by_cases hn : val x < 0
    · have e : decide (val x < 0) = true := by simpa using hn
      rw [e, if_pos (by decide)]
      have bx : Bd (fv (fmod x oneF)) := by rw [fe]; unfold Bd; grind
      have b1 : Bd (fv oneF) := by rw [fv_one]; unfold Bd; grind
      have r := add_rnd f one_fin bx b1
      rw [fe, fv_one] at r
      refine ⟨r.1, fun q => ?_, fun _ => r⟩
      have := fv_nonneg.mp q
      (first | lia | omega)
    · have e : decide (val x < 0) = false := by simpa using hn
      rw [e, if_neg (by decide)]
      refine ⟨f, fun _ => fe, fun q => ?_⟩
      have : 0 ≤ fv x := fv_nonneg.mpr (by (first | lia | omega))
      grind
noncomputable def Ap (x : UInt64) (q e : Rat) : Prop := Fin x ∧ q - e ≤ fv x ∧ fv x ≤ q + e
theorem Rnd.ap {r : UInt64} {X : Rat} (h : Rnd r X) {M e : Rat} (h1 : -M ≤ X) (h2 : X ≤ M) (he : M / 9007199254740992 + 1 / 1000000000000000000000000 ≤ e) : Ap r X e := by
  obtain ⟨f, _, b⟩ := h
  obtain ⟨b1, b2⟩ := b M h1 h2
  have := eta_small
  refine ⟨f, ?_, ?_⟩ <;> grind
end Mine
end

section -- F8
open PySem
set_option Elab.async false
set_option linter.unusedVariables false
namespace Mine
open PySem.Float64

noncomputable def dR : Nat → Rat → Rat
  | 0, _ => 0
  | 1, F => F
  | 2, _ => 1
  | 3, _ => 1
  | 4, F => 1 - F
  | _, _ => 0
noncomputable def dG : Nat → Rat → Rat
  | 0, F => 1 - F
  | 1, _ => 0
  | 2, _ => 0
  | 3, F => F
  | 4, _ => 1
  | _, _ => 1
noncomputable def dB : Nat → Rat → Rat
  | 0, _ => 1
  | 1, _ => 1
  | 2, F => 1 - F
  | 3, _ => 0
  | 4, _ => 0
  | _, F => F

noncomputable def fr (n d : Int) : UInt64 := ofFrac (decide (n < 0) != decide (d < 0)) n.natAbs d.natAbs
theorem fr_rnd {n d : Int} (hn : 0 ≤ n) (hd : 0 < d) (hb : n ≤ 1099511627776) {q : Rat} (hq : q * (d : Rat) = (n : Rat)) : Rnd (fr n d) q := by
  have e1 : decide (n < 0) = false := by simpa using hn
  have e2 : decide (d < 0) = false := by simp; (first | lia | omega)
  unfold fr
  rw [e1, e2]
  have h := frac_rnd (n := n.natAbs) (d := d.natAbs) (by (first | lia | omega)) (Nat.le_trans (show n.natAbs ≤ 1099511627776 by (first | lia | omega)) (by decide))
  have dp : (0 : Rat) < (d : Rat) := by exact_mod_cast hd
  have c1 : ((n.natAbs : Nat) : Rat) = (n : Rat) := by
    have : ((n.natAbs : Int) : Rat) = (n : Rat) := by rw [show (n.natAbs : Int) = n by (first | lia | omega)]
    exact_mod_cast this
  have c2 : ((d.natAbs : Nat) : Rat) = (d : Rat) := by
    have : ((d.natAbs : Int) : Rat) = (d : Rat) := by rw [show (d.natAbs : Int) = d by (first | lia | omega)]
    exact_mod_cast this
  rw [c1, c2] at h
  have : (n : Rat) / (d : Rat) = q := by
    have hdi := Rat.mul_inv_cancel (d : Rat) (Rat.ne_of_gt dp)
    rw [Rat.div_def]
    grind
  rw [this] at h
  exact h

noncomputable def hueF (r g b M D : Int) : UInt64 :=
  (divmod (div (if r = M then sub (fr (M - b) D) (fr (M - g) D) else if g = M then sub (add 4611686018427387904 (fr (M - r) D)) (fr (M - b) D) else sub (add 4616189618054758400 (fr (M - g) D)) (fr (M - r) D)) 4618441417868443648) oneF).2

noncomputable def HueOK (hx : UInt64) (H : Rat) : Prop := Fin hx ∧ 0 ≤ fv hx ∧ H - 1 / 70368744177664 ≤ 6 * fv hx ∧ 6 * fv hx ≤ H + 1 / 70368744177664
theorem hue_end {x : UInt64} {H : Rat} (hx : Fin x) (h0 : 0 ≤ H) (h1 : H ≤ 11 / 2) (he : H - 1 / 281474976710656 ≤ fv x) (he2 : fv x ≤ H + 1 / 281474976710656) (hz : 0 ≤ fv x) :
    HueOK (divmod (div x 4618441417868443648) oneF).2 H := by
  obtain ⟨s1, s2, s3⟩ := six_fl
  have bx : Bd (fv x) := by unfold Bd; grind
  have r := div_rnd (y := 4618441417868443648) hx s1 bx s2
  obtain ⟨f, b1, b2⟩ := r.ap (M := 1) (e := 1 / 4503599627370496) (by grind) (by grind) (by grind)
  obtain ⟨f1, f2, f3⟩ := r
  have nn : 0 ≤ fv (div x 4618441417868443648) := f2 (by grind)
  obtain ⟨m1, m2, m3⟩ := mod_one f (by grind) (by grind)
  have e := m2 nn
  refine ⟨m1, by rw [e]; exact nn, ?_, ?_⟩ <;> rw [e] <;> grind
theorem hue_end2 {x : UInt64} {H : Rat} (hx : Fin x) (h0 : 11 / 2 ≤ H ∨ H ≤ 6) (h1 : 5 ≤ H) (h2 : H ≤ 6 - 1 / 1099511627776) (he : H - 6 - 1 / 281474976710656 ≤ fv x) (he2 : fv x ≤ H - 6 + 1 / 281474976710656) :
    HueOK (divmod (div x 4618441417868443648) oneF).2 H := by
  obtain ⟨s1, s2, s3⟩ := six_fl
  have bx : Bd (fv x) := by unfold Bd; grind
  have r := div_rnd (y := 4618441417868443648) hx s1 bx s2
  obtain ⟨f, z, b1⟩ := r.ap (M := 1) (e := 1 / 4503599627370496) (by grind) (by grind) (by grind)
  have nn : fv (div x 4618441417868443648) < 0 := by grind
  obtain ⟨m1, m2, m3⟩ := mod_one f (by grind) (by grind)
  have e := m3 nn
  obtain ⟨g1, g2, g3⟩ := e.ap (M := 1) (e := 1 / 4503599627370496) (by grind) (by grind) (by grind)
  refine ⟨m1, e.2.1 (by grind), ?_, ?_⟩ <;> grind
end Mine
end

section -- F9
open PySem
set_option Elab.async false
set_option linter.unusedVariables false
namespace Mine
open PySem.Float64

theorem frac_of {n d : Int} (hn : 0 ≤ n) (hd : n ≤ d) (hp : 0 < d) : ∃ q : Rat, q * (d : Rat) = (n : Rat) ∧ 0 ≤ q ∧ q ≤ 1 ∧ (n = d → q = 1) ∧ (n = 0 → q = 0) ∧ (n < d → d ≤ 1099511627776 → q ≤ 1 - 1 / 1099511627776) := by
  have dp : (0 : Rat) < (d : Rat) := by exact_mod_cast hp
  have hdi := Rat.mul_inv_cancel (d : Rat) (Rat.ne_of_gt dp)
  have ip := Rat.inv_pos.mpr dp
  have n0 : (0 : Rat) ≤ (n : Rat) := by exact_mod_cast hn
  have n1 : (n : Rat) ≤ (d : Rat) := by exact_mod_cast hd
  have p1 := Rat.mul_nonneg n0 (Rat.le_of_lt ip)
  have p2 := Rat.mul_le_mul_of_nonneg_right n1 (Rat.le_of_lt ip)
  refine ⟨(n : Rat) * (d : Rat)⁻¹, by grind, p1, by grind, fun e => by rw [e]; exact hdi, fun e => by rw [e, Rat.intCast_zero, Rat.zero_mul], fun lt hb => ?_⟩
  have l1 : (n : Rat) + 1 ≤ (d : Rat) := by exact_mod_cast (show n + 1 ≤ d by (first | lia | omega))
  have l2 : (d : Rat) ≤ 1099511627776 := by
    have := Rat.intCast_le_intCast.mpr hb
    rwa [Rat.intCast_ofNat] at this
  have p3 := Rat.mul_le_mul_of_nonneg_right l1 (Rat.le_of_lt ip)
  have p4 := Rat.mul_le_mul_of_nonneg_right l2 (Rat.le_of_lt ip)
  grind

structure HsvH (r g b M D : Int) (hx : UInt64) (k : Nat) (F : Rat) : Prop where
  k6 : k < 6
  F0 : 0 ≤ F
  F1 : F ≤ 1
  er : (D : Rat) * dR k F = ((M - r : Int) : Rat)
  eg : (D : Rat) * dG k F = ((M - g : Int) : Rat)
  eb : (D : Rat) * dB k F = ((M - b : Int) : Rat)
  hue : HueOK hx ((k : Rat) + F)
  k5 : k = 5 → F < 1

theorem frq {n d : Int} (hn : 0 ≤ n) (hd : n ≤ d) (hp : 0 < d) (hb : d ≤ 1099511627776) : ∃ q : Rat, (d : Rat) * q = ((n : Int) : Rat) ∧ 0 ≤ q ∧ q ≤ 1 ∧ (n = d → q = 1) ∧ (n = 0 → q = 0) ∧ (n < d → q ≤ 1 - 1 / 1099511627776) ∧ Ap (fr n d) q (1 / 4503599627370496) := by
  obtain ⟨q, h1, h2, h3, h4, h5, h6⟩ := frac_of hn hd hp
  exact ⟨q, (Rat.mul_comm ..).trans h1, h2, h3, h4, h5, fun l => h6 l hb, (fr_rnd hn hp (Int.le_trans hd hb) h1).ap (M := 1) (Rat.le_trans (by decide +kernel) h2) h3 (by decide +kernel)⟩
theorem Ap.bd {x : UInt64} {q e : Rat} (h : Ap x q e) (e1 : e ≤ 1) (q0 : -8 ≤ q) (q1 : q ≤ 8) : Bd (fv x) := by
  obtain ⟨_, h1, h2⟩ := h
  unfold Bd; grind
theorem Ap.sub {x y : UInt64} {p q e e' : Rat} (hx : Ap x p e) (hy : Ap y q e') (he : e ≤ 1 / 562949953421312) (he' : e' ≤ 1 / 562949953421312) (p0 : -4 ≤ p) (p1 : p ≤ 5) (q0 : 0 ≤ q) (q1 : q ≤ 1) : Ap (sub x y) (p - q) (e + e' + 7 / 9007199254740992) := by
  have r := sub_rnd hx.1 hy.1 (hx.bd (by grind) (by grind) (by grind)) (hy.bd (by grind) (by grind) (by grind))
  obtain ⟨fx, x1, x2⟩ := hx
  obtain ⟨fy, y1, y2⟩ := hy
  obtain ⟨f, l, h⟩ := r.ap (M := 6) (e := 7 / 9007199254740992) (by grind) (by grind) (by grind)
  exact ⟨f, by grind, by grind⟩
theorem Ap.addC {c x : UInt64} {C p : Rat} (hc : Fin c) (vc : fv c = C) (c0 : 0 ≤ C) (c1 : C ≤ 4) (hx : Ap x p (1 / 4503599627370496)) (p0 : 0 ≤ p) (p1 : p ≤ 1) : Ap (add c x) (C + p) (9 / 9007199254740992) := by
  have r := add_rnd hc hx.1 (by rw [vc]; unfold Bd; grind) (hx.bd (by grind) (by grind) (by grind))
  rw [vc] at r
  obtain ⟨fx, x1, x2⟩ := hx
  obtain ⟨f, l, h⟩ := r.ap (M := 6) (e := 7 / 9007199254740992) (by grind) (by grind) (by grind)
  exact ⟨f, by grind, by grind⟩
theorem hue_add {c x y : UInt64} {C p q : Rat} (hc : Fin c) (vc : fv c = C) (c0 : 2 ≤ C) (c1 : C ≤ 4) (hx : Ap x p (1 / 4503599627370496)) (p0 : 0 ≤ p) (p1 : p ≤ 1) (hy : Ap y q (1 / 4503599627370496)) (q0 : 0 ≤ q) (q1 : q ≤ 1) :
    HueOK (divmod (div (sub (add c x) y) 4618441417868443648) oneF).2 (C + p - q) := by
  obtain ⟨f, l, h⟩ := (Ap.addC hc vc (Rat.le_trans (by decide) c0) c1 hx p0 p1).sub hy (by grind) (by grind) (by grind) (by grind) q0 q1
  exact hue_end f (by grind) (by grind) (by grind) (by grind) (by grind)
theorem hue_sub {x y : UInt64} {p q : Rat} (hx : Ap x p (1 / 4503599627370496)) (hp : p = 1) (hy : Ap y q (1 / 4503599627370496)) (q0 : 0 ≤ q) (q1 : q ≤ 1) (hl : fv y ≤ fv x) :
    HueOK (divmod (div (sub x y) 4618441417868443648) oneF).2 (1 - q) := by
  subst hp
  have r := sub_rnd hx.1 hy.1 (hx.bd (by decide +kernel) (by decide +kernel) (by decide +kernel)) (hy.bd (by decide +kernel) (by grind) (by grind))
  obtain ⟨f, l, h⟩ := hx.sub hy (by decide +kernel) (by decide +kernel) (by decide +kernel) (by decide +kernel) q0 q1
  exact hue_end f (by grind) (by grind) (by grind) (by grind) (r.2.1 (by grind))
theorem hue_sub2 {x y : UInt64} {p q : Rat} (hx : Ap x p (1 / 4503599627370496)) (p0 : 0 ≤ p) (p1 : p ≤ 1 - 1 / 1099511627776) (hy : Ap y q (1 / 4503599627370496)) (hq : q = 1) :
    HueOK (divmod (div (sub x y) 4618441417868443648) oneF).2 (5 + p) := by
  subst hq
  obtain ⟨f, l, h⟩ := hx.sub hy (by decide +kernel) (by decide +kernel) (by grind) (by grind) (by decide +kernel) (by decide +kernel)
  exact hue_end2 f (.inr (by grind)) (by grind) (by grind) (by grind) (by grind)
theorem flip (q : Rat) : 1 - (1 - q) = q := by grind
theorem flip0 {q : Rat} (h : q ≤ 1) : 0 ≤ 1 - q := by grind
theorem flip1 {q : Rat} (h : 0 ≤ q) : 1 - q ≤ 1 := by grind
theorem at_flip {d n q : Rat} (h : d * q = n) : d * (1 - (1 - q)) = n := by rw [flip]; exact h
theorem at_eq {d n q t : Rat} (h : d * q = n) (e : q = t) : d * t = n := e ▸ h

theorem rgb_float {r g b M m D : Int} (hr0 : m ≤ r) (hg0 : m ≤ g) (hb0 : m ≤ b) (hr1 : r ≤ M) (hg1 : g ≤ M) (hb1 : b ≤ M) (hm : 0 ≤ m) (hM : M ≤ 1099511627776) (hD : D = M - m) (hp : 0 < D)
    (top : r = M ∨ g = M ∨ b = M) (bot : r = m ∨ g = m ∨ b = m) : ∃ k F, HsvH r g b M D (hueF r g b M D) k F := by
  have le : ∀ {x : Int}, m ≤ x → M - x ≤ D := fun h => hD ▸ Int.sub_le_sub_left h M
  have lt : ∀ {x : Int}, m ≤ x → x ≠ m → M - x < D := fun h n => hD ▸ Int.sub_lt_sub_left (Std.lt_of_le_of_ne h (Ne.symm n)) M
  have eq : ∀ {x : Int}, x = m → M - x = D := fun h => by rw [h, hD]
  have ez : ∀ {x : Int}, x = M → M - x = 0 := fun h => by rw [h, Int.sub_self]
  have nm : ∀ {x : Int}, x = M → x ≠ m := fun h e => by
    rw [← h, e, Int.sub_self] at hD
    rw [hD] at hp
    exact Int.lt_irrefl _ hp
  have dl : D ≤ 1099511627776 := hD ▸ Int.le_trans (Int.sub_le_self M hm) hM
  obtain ⟨rq, r1, r2, r3, r4, r5, r6, ra⟩ := frq (Int.sub_nonneg_of_le hr1) (le hr0) hp dl
  obtain ⟨gq, g1, g2, g3, g4, g5, g6, ga⟩ := frq (Int.sub_nonneg_of_le hg1) (le hg0) hp dl
  obtain ⟨bq, b1, b2, b3, b4, b5, b6, ba⟩ := frq (Int.sub_nonneg_of_le hb1) (le hb0) hp dl
  unfold hueF
  by_cases c1 : r = M
  · rw [if_pos c1]
    have rq0 := at_eq r1 (r5 (ez c1))
    by_cases c2 : b = m
    · refine ⟨0, 1 - gq, by decide, flip0 g3, flip1 g2, rq0, at_flip g1, at_eq b1 (b4 (eq c2)), ?_, fun q => by cases q⟩
      have h := hue_sub ba (b4 (eq c2)) ga g2 g3 (by
        by_cases c3 : g = m
        · rw [c2, c3]; exact Rat.le_refl
        · have := g6 (lt hg0 c3)
          have e := b4 (eq c2)
          have h1 := ba.2.1
          have h2 := ga.2.2
          clear r1 r2 r3 r4 r5 r6 ra g1 g2 g3 g4 g5 g6 ga b1 b2 b3 b4 b5 b6 ba rq0
          grind)
      rw [show ((0 : Nat) : Rat) + (1 - gq) = 1 - gq by exact Rat.zero_add _]
      exact h
    · have gm : g = m := bot.elim (fun h => absurd h (nm c1)) fun h => h.elim id fun h => absurd h c2
      refine ⟨5, bq, by decide, b2, b3, rq0, at_eq g1 (g4 (eq gm)), b1, hue_sub2 ba b2 (b6 (lt hb0 c2)) ga (g4 (eq gm)), fun _ => ?_⟩
      have := b6 (lt hb0 c2)
      clear r1 r2 r3 r4 r5 r6 ra g1 g2 g3 g4 g5 g6 ga b1 b2 b3 b4 b5 b6 ba rq0
      grind
  · rw [if_neg c1]
    by_cases c2 : g = M
    · rw [if_pos c2]
      have gq0 := at_eq g1 (g5 (ez c2))
      obtain ⟨t1, t2⟩ := two_fl
      have h := hue_add t1 t2 (by decide) (by decide) ra r2 r3 ba b2 b3
      by_cases c3 : b = m
      · refine ⟨1, rq, by decide, r2, r3, r1, gq0, at_eq b1 (b4 (eq c3)), ?_, fun q => by cases q⟩
        rw [b4 (eq c3), show (2 : Rat) + rq - 1 = ((1 : Nat) : Rat) + rq by grind] at h
        exact h
      · have rm : r = m := bot.elim id fun h => h.elim (fun h => absurd h (nm c2)) fun h => absurd h c3
        refine ⟨2, 1 - bq, by decide, flip0 b3, flip1 b2, at_eq r1 (r4 (eq rm)), gq0, at_flip b1, ?_, fun q => by cases q⟩
        rw [r4 (eq rm), show (2 : Rat) + 1 - bq = ((2 : Nat) : Rat) + (1 - bq) by grind] at h
        exact h
    · rw [if_neg c2]
      have bM : b = M := top.elim (fun h => absurd h c1) fun h => h.elim (fun h => absurd h c2) id
      have bq0 := at_eq b1 (b5 (ez bM))
      obtain ⟨t1, t2⟩ := four_fl
      have h := hue_add t1 t2 (by decide) (by decide) ga g2 g3 ra r2 r3
      by_cases c3 : r = m
      · refine ⟨3, gq, by decide, g2, g3, at_eq r1 (r4 (eq c3)), g1, bq0, ?_, fun q => by cases q⟩
        rw [r4 (eq c3), show (4 : Rat) + gq - 1 = ((3 : Nat) : Rat) + gq by grind] at h
        exact h
      · have gm : g = m := bot.elim (fun h => absurd h c3) fun h => h.elim id fun h => absurd h (nm bM)
        refine ⟨4, 1 - rq, by decide, flip0 r3, flip1 r2, at_flip r1, at_eq g1 (g4 (eq gm)), bq0, ?_, fun q => by cases q⟩
        rw [g4 (eq gm), show (4 : Rat) + 1 - rq = ((4 : Nat) : Rat) + (1 - rq) by grind] at h
        exact h
end Mine
end

section -- F10
open PySem
set_option Elab.async false
set_option linter.unusedVariables false
namespace Mine
open PySem.Float64

theorem Ap.grow {x : UInt64} {X e e' : Rat} (h : Ap x X e) (l : e ≤ e') : Ap x X e' := ⟨h.1, by have := h.2.1; grind, by have := h.2.2; grind⟩
theorem near_float {x : UInt64} {c : Int} (h : Ap x (c : Rat) (1 / 8)) (h0 : 0 ≤ c) (h1 : c ≤ 1099511627776) : isFinite (add (mul (ofInt 2) x) (ofInt 1)) = true ∧ (PySem.Flt.toInt truncOf (add (mul (ofInt 2) x) (ofInt 1))).fdiv 2 = c := by
  obtain ⟨f, l, u⟩ := h
  have c0 : (0 : Rat) ≤ (c : Rat) := by exact_mod_cast h0
  have c1 : (c : Rat) ≤ 1099511627776 := by
    have := Rat.intCast_le_intCast.mpr h1
    rwa [Rat.intCast_ofNat] at this
  obtain ⟨f2, v2⟩ := ofInt_exact (i := 2) (by decide)
  obtain ⟨f1, v1⟩ := ofInt_exact (i := 1) (by decide)
  rw [Rat.intCast_ofNat] at v2
  rw [Rat.intCast_one] at v1
  have bx : Bd (fv x) := by unfold Bd; grind
  have m := mul_rnd f2 f (by rw [v2]; unfold Bd; grind) bx
  rw [v2] at m
  obtain ⟨mf, ml, mu⟩ := m.ap (M := 4398046511104) (e := 1 / 1024) (by grind) (by grind) (by grind)
  have a := add_rnd mf f1 (by unfold Bd; grind) (by rw [v1]; unfold Bd; grind)
  rw [v1] at a
  obtain ⟨af, al, au⟩ := a.ap (M := 4398046511104) (e := 1 / 1024) (by grind) (by grind) (by grind)
  refine ⟨af.isFinite, ?_⟩
  obtain ⟨n, e, n1, n2⟩ := trunc_spec af (by grind)
  rw [e, Int.fdiv_eq_ediv_of_nonneg _ (by decide)]
  have p1 : (n : Rat) < 2 * (c : Rat) + 2 := by grind
  have p2 : 2 * (c : Rat) < (n : Rat) + 1 := by grind
  have q1 : (((n : Int) : Int) : Rat) < ((2 * c + 2 : Int) : Rat) := by push_cast; exact p1
  have q2 : ((2 * c : Int) : Rat) < (((n : Int) + 1 : Int) : Rat) := by push_cast; exact p2
  have q1 := Rat.intCast_lt_intCast.mp q1
  have q2 := Rat.intCast_lt_intCast.mp q2
  (first | lia | omega)

theorem chan_float {v : Int} {y : UInt64} {Y : Rat} (h0 : 0 ≤ v) (h1 : v ≤ 1099511627776) (h : Ap y Y (1 / 281474976710656)) (y0 : -1 ≤ Y) (y1 : Y ≤ 2) : Ap (mul (ofInt v) y) ((v : Rat) * Y) (1 / 64) := by
  obtain ⟨f, l, u⟩ := h
  have c0 : (0 : Rat) ≤ (v : Rat) := by exact_mod_cast h0
  have c1 : (v : Rat) ≤ 1099511627776 := by
    have := Rat.intCast_le_intCast.mpr h1
    rwa [Rat.intCast_ofNat] at this
  obtain ⟨f1, v1⟩ := ofInt_exact (i := v) (by (first | lia | omega))
  have bx : Bd (fv y) := by unfold Bd; grind
  have m := mul_rnd f1 f (by rw [v1]; unfold Bd; grind) bx
  rw [v1] at m
  have u1 := Rat.mul_le_mul_of_nonneg_left u c0
  have u2 := Rat.mul_le_mul_of_nonneg_left l c0
  have w1 := Rat.mul_le_mul_of_nonneg_left y0 c0
  have w2 := Rat.mul_le_mul_of_nonneg_left y1 c0
  obtain ⟨mf, ml, mu⟩ := m.ap (M := 4398046511104) (e := 1 / 1024) (by grind) (by grind) (by grind)
  exact ⟨mf, by grind, by grind⟩

theorem lt6 : ∀ j < 6, j = 0 ∨ j = 1 ∨ j = 2 ∨ j = 3 ∨ j = 4 ∨ j = 5 := by decide
noncomputable def Lp (X : Nat → Rat → Rat) : Prop := (∀ j a b e, 0 ≤ e → a ≤ b + e → b ≤ a + e → X j a ≤ X j b + e) ∧ ∀ j < 6, X j 1 = X ((j + 1) % 6) 0
theorem lp_c {c e : Rat} (h : 0 ≤ e) : c ≤ c + e := by grind
theorem lp_f {a b e : Rat} (h : b ≤ a + e) : 1 - a ≤ 1 - b + e := by grind
theorem oz : (1 : Rat) - 1 = 0 := by grind
theorem zo : (1 : Rat) - 0 = 1 := by grind
theorem lpR : Lp dR := by
  refine ⟨fun j a b e h h1 h2 => ?_, fun j hj => ?_⟩
  · match j with
    | 0 => exact lp_c h
    | 1 => exact h1
    | 2 => exact lp_c h
    | 3 => exact lp_c h
    | 4 => exact lp_f h2
    | n + 5 => exact lp_c h
  · rcases lt6 j hj with rfl | rfl | rfl | rfl | rfl | rfl <;> first | rfl | exact oz | exact zo.symm
theorem lpG : Lp dG := by
  refine ⟨fun j a b e h h1 h2 => ?_, fun j hj => ?_⟩
  · match j with
    | 0 => exact lp_f h2
    | 1 => exact lp_c h
    | 2 => exact lp_c h
    | 3 => exact h1
    | 4 => exact lp_c h
    | n + 5 => exact lp_c h
  · rcases lt6 j hj with rfl | rfl | rfl | rfl | rfl | rfl <;> first | rfl | exact oz | exact zo.symm
theorem lpB : Lp dB := by
  refine ⟨fun j a b e h h1 h2 => ?_, fun j hj => ?_⟩
  · match j with
    | 0 => exact lp_c h
    | 1 => exact lp_c h
    | 2 => exact lp_f h2
    | 3 => exact lp_c h
    | 4 => exact lp_c h
    | n + 5 => exact h1
  · rcases lt6 j hj with rfl | rfl | rfl | rfl | rfl | rfl <;> first | rfl | exact oz | exact zo.symm
theorem Lp.step {X : Nat → Rat → Rat} (L : Lp X) (k : Nat) : X (k % 6) 1 = X ((k + 1) % 6) 0 := by
  rw [L.2 _ (Nat.mod_lt _ (by decide)), Nat.mod_add_mod]
theorem near2 {x y z e f g : Rat} (h1 : x ≤ y + e) (h2 : y ≤ z + f) (h : e + f ≤ 2 * g) : x ≤ z + 2 * g := by grind
theorem Lp.up {X : Nat → Rat → Rat} (L : Lp X) {k : Nat} {f F e : Rat} (f0 : 0 ≤ f) (F1 : F ≤ 1) (h : 1 + f ≤ F + e) : X ((k + 1) % 6) f ≤ X (k % 6) F + 2 * e ∧ X (k % 6) F ≤ X ((k + 1) % 6) f + 2 * e := by
  have a : f ≤ e := by grind
  have b : 1 ≤ F + e := by grind
  have e0 : 0 ≤ e := by grind
  have c : (0 : Rat) ≤ f + e := by grind
  have d : f ≤ 0 + e := by grind
  have g : F ≤ 1 + e := by grind
  have q : e + e ≤ 2 * e := by grind
  exact ⟨near2 (L.1 _ f 0 e e0 d c) (L.step k ▸ L.1 _ 1 F e e0 b g) q, near2 (L.1 _ F 1 e e0 g b) ((L.step k).symm ▸ L.1 _ 0 f e e0 c d) q⟩
theorem low2 {x y e : Rat} (h : x ≤ y + 2 * e) : x - 2 * e ≤ y := by grind
theorem Lp.near {X : Nat → Rat → Rat} (L : Lp X) {n k : Nat} {f F e : Rat} (f0 : 0 ≤ f) (f1 : f ≤ 1) (F0 : 0 ≤ F) (F1 : F ≤ 1) (e0 : 0 ≤ e) (h1 : (n : Rat) + f ≤ (k : Rat) + F + e) (h2 : (k : Rat) + F - e ≤ (n : Rat) + f)
    (hc : n = k + 1 ∨ n = k ∨ k = n + 1) : X (k % 6) F - 2 * e ≤ X (n % 6) f ∧ X (n % 6) f ≤ X (k % 6) F + 2 * e := by
  rcases hc with rfl | rfl | rfl
  · have h : 1 + f ≤ F + e := by push_cast at h1; grind
    obtain ⟨a, b⟩ := L.up (k := k) f0 F1 h
    exact ⟨low2 b, a⟩
  · have a : f ≤ F + e := by grind
    have b : F ≤ f + e := by grind
    have d : e ≤ 2 * e := by grind
    have q : e + 0 ≤ 2 * e := by grind
    have z : ∀ x : Rat, x ≤ x + 0 := fun x => by grind
    exact ⟨low2 (near2 (L.1 _ F f e e0 b a) (z _) q), near2 (L.1 _ f F e e0 a b) (z _) q⟩
  · have h : 1 + F ≤ f + e := by push_cast at h2; grind
    obtain ⟨a, b⟩ := L.up (k := n) F0 f1 h
    exact ⟨low2 a, b⟩
theorem cont_cases {n k : Nat} {f F e : Rat} (f0 : 0 ≤ f) (f1 : f ≤ 1) (F0 : 0 ≤ F) (F1 : F ≤ 1) (e1 : e ≤ 1 / 4) (h1 : (n : Rat) + f ≤ (k : Rat) + F + e) (h2 : (k : Rat) + F - e ≤ (n : Rat) + f) :
    n = k + 1 ∨ n = k ∨ k = n + 1 := by
  have a1 : (n : Rat) < (k : Rat) + 2 := by grind
  have a2 : (k : Rat) < (n : Rat) + 2 := by grind
  have b1 : n < k + 2 := by
    have : ((n : Nat) : Rat) < ((k + 2 : Nat) : Rat) := by push_cast; exact a1
    exact Rat.natCast_lt_natCast.mp this
  have b2 : k < n + 2 := by
    have : ((k : Nat) : Rat) < ((n + 2 : Nat) : Rat) := by push_cast; exact a2
    exact Rat.natCast_lt_natCast.mp this
  rcases Nat.lt_trichotomy n k with h | h | h
  · exact .inr (.inr (Nat.le_antisymm (Nat.le_of_lt_succ b2) h))
  · exact .inr (.inl h)
  · exact .inl (Nat.le_antisymm (Nat.le_of_lt_succ b1) h)
theorem cont {n k : Nat} {f F e : Rat} (f0 : 0 ≤ f) (f1 : f ≤ 1) (F0 : 0 ≤ F) (F1 : F ≤ 1) (e0 : 0 ≤ e) (e1 : e ≤ 1 / 4) (h1 : (n : Rat) + f ≤ (k : Rat) + F + e) (h2 : (k : Rat) + F - e ≤ (n : Rat) + f) :
    (dR (k % 6) F - 2 * e ≤ dR (n % 6) f ∧ dR (n % 6) f ≤ dR (k % 6) F + 2 * e) ∧ (dG (k % 6) F - 2 * e ≤ dG (n % 6) f ∧ dG (n % 6) f ≤ dG (k % 6) F + 2 * e) ∧ (dB (k % 6) F - 2 * e ≤ dB (n % 6) f ∧ dB (n % 6) f ≤ dB (k % 6) F + 2 * e) := by
  have hc := cont_cases f0 f1 F0 F1 e1 h1 h2
  exact ⟨lpR.near f0 f1 F0 F1 e0 h1 h2 hc, lpG.near f0 f1 F0 F1 e0 h1 h2 hc, lpB.near f0 f1 F0 F1 e0 h1 h2 hc⟩
end Mine
end

section -- F11
open PySem
set_option Elab.async false
set_option linter.unusedVariables false
namespace Mine
open PySem.Float64

noncomputable def NearV (d : D) (y : Rat) : Prop := (∃ i : Int, d = .int i ∧ y - 1 / 16 ≤ (i : Rat) ∧ (i : Rat) ≤ y + 1 / 16) ∨ ∃ x, d = .flt x ∧ Ap x y (1 / 16)
noncomputable def TurnOK (hx : UInt64) (H : Rat) : Prop := Fin hx ∧ 0 ≤ fv hx ∧ H - 1 / 17592186044416 ≤ 6 * fv hx ∧ 6 * fv hx ≤ H + 1 / 17592186044416
theorem close {W d d' x v : Rat} (w0 : 0 ≤ W) (w1 : W ≤ 68719476736) (a1 : d' - 1 / 2199023255552 ≤ d) (a2 : d ≤ d' + 1 / 2199023255552) (h1 : v - W * d - 1 / 64 ≤ x) (h2 : x ≤ v - W * d + 1 / 64) : v - W * d' - 1 / 16 ≤ x ∧ x ≤ v - W * d' + 1 / 16 := by
  have p1 := Rat.mul_le_mul_of_nonneg_left a1 w0
  have p2 := Rat.mul_le_mul_of_nonneg_left a2 w0
  grind
theorem mul_ap2 {s f : UInt64} {S X : Rat} (hs : Ap s S (1 / 1125899906842624)) (s0 : 0 ≤ S) (s1 : S ≤ 1) (hf : Ap f X (1 / 2251799813685248)) (x0 : 0 ≤ X) (x1 : X ≤ 1) : Ap (mul s f) (S * X) (1 / 281474976710656 - 1 / 1125899906842624) := by
  obtain ⟨sf, sl, sh⟩ := hs
  obtain ⟨ff, fl, fh⟩ := hf
  have m := mul_rnd sf ff (by unfold Bd; grind) (by unfold Bd; grind)
  have e1 : 0 ≤ (fv s - (S - 1 / 1125899906842624)) * (fv f + 1 / 2251799813685248) := Rat.mul_nonneg (by grind) (by grind)
  have e2 : 0 ≤ ((S + 1 / 1125899906842624) - fv s) * (fv f + 1 / 2251799813685248) := Rat.mul_nonneg (by grind) (by grind)
  have e3 : 0 ≤ S * (fv f - (X - 1 / 2251799813685248)) := Rat.mul_nonneg s0 (by grind)
  have e4 : 0 ≤ S * ((X + 1 / 2251799813685248) - fv f) := Rat.mul_nonneg s0 (by grind)
  have e5 : 0 ≤ S * X := Rat.mul_nonneg s0 x0
  have e6 : 0 ≤ S * (1 - X) := Rat.mul_nonneg s0 (by grind)
  obtain ⟨mf, ml, mu⟩ := m.ap (M := 2) (e := 1 / 2251799813685248) (by grind) (by grind) (by grind)
  exact ⟨mf, by grind, by grind⟩
theorem sub_one {x : UInt64} {X : Rat} (hx : Ap x X (1 / 281474976710656 - 1 / 1125899906842624)) (x0 : 0 ≤ X) (x1 : X ≤ 1) : Ap (sub oneF x) (1 - X) (1 / 281474976710656) := by
  obtain ⟨f, l, u⟩ := hx
  have m := sub_rnd one_fin f (by rw [fv_one]; unfold Bd; grind) (by unfold Bd; grind)
  rw [fv_one] at m
  obtain ⟨mf, ml, mu⟩ := m.ap (M := 5 / 4) (e := 1 / 1125899906842624 ) (by grind) (by grind) (by grind)
  exact ⟨mf, by grind, by grind⟩
noncomputable def hsvOut (n : Nat) (v : Int) (p q t : UInt64) : List D := match n % 6 with
  | 0 => [.int v, .flt t, .flt p]
  | 1 => [.flt q, .int v, .flt p]
  | 2 => [.flt p, .int v, .flt t]
  | 3 => [.flt p, .flt q, .int v]
  | 4 => [.flt t, .flt p, .int v]
  | _ => [.int v, .flt p, .flt q]
theorem sixth (n : Nat) : n % 6 = 0 ∨ n % 6 = 1 ∨ n % 6 = 2 ∨ n % 6 = 3 ∨ n % 6 = 4 ∨ n % 6 = 5 := lt6 _ (Nat.mod_lt _ (by decide))

structure Ch (x : UInt64) (V W d : Rat) : Prop where
  f : Fin x
  l : V - W * d - 1 / 64 ≤ fv x
  u : fv x ≤ V - W * d + 1 / 64
theorem Ch.of {x : UInt64} {V W d Z : Rat} (h : Ap x Z (1 / 64)) (e : Z = V - W * d) : Ch x V W d := by
  subst e
  exact ⟨h.1, h.2.1, h.2.2⟩
theorem Ch.near {x : UInt64} {V W d d' : Rat} (h : Ch x V W d) (w0 : 0 ≤ W) (w1 : W ≤ 68719476736) (c : d' - 1 / 2199023255552 ≤ d ∧ d ≤ d' + 1 / 2199023255552) : NearV (.flt x) (V - W * d') :=
  .inr ⟨_, rfl, h.f, (close w0 w1 c.1 c.2 h.l h.u).1, (close w0 w1 c.1 c.2 h.l h.u).2⟩
theorem int_near {v : Int} {W d' : Rat} (w0 : 0 ≤ W) (w1 : W ≤ 68719476736) (c : d' - 1 / 2199023255552 ≤ 0 ∧ 0 ≤ d' + 1 / 2199023255552) : NearV (.int v) ((v : Rat) - W * d') := by
  obtain ⟨a, b⟩ := close (v := (v : Rat)) (x := (v : Rat)) w0 w1 c.1 c.2 (by grind) (by grind)
  exact .inl ⟨_, rfl, a, b⟩
theorem hsv_out {n : Nat} {v : Int} {W Y ar ag ab : Rat} {p q t : UInt64} (w0 : 0 ≤ W) (w1 : W ≤ 68719476736) (P : Ch p (v : Rat) W 1) (Q : Ch q (v : Rat) W Y) (T : Ch t (v : Rat) W (1 - Y))
    (cr : ar - 1 / 2199023255552 ≤ dR (n % 6) Y ∧ dR (n % 6) Y ≤ ar + 1 / 2199023255552) (cg : ag - 1 / 2199023255552 ≤ dG (n % 6) Y ∧ dG (n % 6) Y ≤ ag + 1 / 2199023255552) (cb : ab - 1 / 2199023255552 ≤ dB (n % 6) Y ∧ dB (n % 6) Y ≤ ab + 1 / 2199023255552) :
    ∃ d1 d2 d3, hsvOut n v p q t = [d1, d2, d3] ∧ NearV d1 ((v : Rat) - W * ar) ∧ NearV d2 ((v : Rat) - W * ag) ∧ NearV d3 ((v : Rat) - W * ab) := by
  unfold hsvOut
  rcases sixth n with z | z | z | z | z | z <;> rw [z] at cr cg cb ⊢
  · exact ⟨_, _, _, rfl, int_near w0 w1 cr, T.near w0 w1 cg, P.near w0 w1 cb⟩
  · exact ⟨_, _, _, rfl, Q.near w0 w1 cr, int_near w0 w1 cg, P.near w0 w1 cb⟩
  · exact ⟨_, _, _, rfl, P.near w0 w1 cr, int_near w0 w1 cg, T.near w0 w1 cb⟩
  · exact ⟨_, _, _, rfl, P.near w0 w1 cr, Q.near w0 w1 cg, int_near w0 w1 cb⟩
  · exact ⟨_, _, _, rfl, T.near w0 w1 cr, P.near w0 w1 cg, int_near w0 w1 cb⟩
  · exact ⟨_, _, _, rfl, int_near w0 w1 cr, P.near w0 w1 cg, Q.near w0 w1 cb⟩
theorem hsv_tail' {n k : Nat} {s f : UInt64} {v : Int} {F S Y : Rat} (hs : Ap s S (1 / 1125899906842624)) (s0 : 0 ≤ S) (s1 : S ≤ 1) (v0 : 0 ≤ v) (v1 : v ≤ 68719476736) (y0 : 0 ≤ Y) (y1 : Y ≤ 1) (fY : Ap f Y (1 / 4503599627370496)) (ff : Fin f) (f0 : 0 ≤ fv f) (sf : Rnd (sub oneF f) (1 - fv f))
    (c : (dR (k % 6) F - 1 / 2199023255552 ≤ dR (n % 6) Y ∧ dR (n % 6) Y ≤ dR (k % 6) F + 1 / 2199023255552) ∧ (dG (k % 6) F - 1 / 2199023255552 ≤ dG (n % 6) Y ∧ dG (n % 6) Y ≤ dG (k % 6) F + 1 / 2199023255552) ∧ (dB (k % 6) F - 1 / 2199023255552 ≤ dB (n % 6) Y ∧ dB (n % 6) Y ≤ dB (k % 6) F + 1 / 2199023255552)) :
    ∃ d1 d2 d3, hsvOut n v (mul (ofInt v) (sub oneF s)) (mul (ofInt v) (sub oneF (mul s f))) (mul (ofInt v) (sub oneF (mul s (sub oneF f)))) = [d1, d2, d3] ∧
        NearV d1 ((v : Rat) - (v : Rat) * S * dR (k % 6) F) ∧ NearV d2 ((v : Rat) - (v : Rat) * S * dG (k % 6) F) ∧ NearV d3 ((v : Rat) - (v : Rat) * S * dB (k % 6) F) := by
  have v0' : (0 : Rat) ≤ (v : Rat) := by exact_mod_cast v0
  have v1' : (v : Rat) ≤ 68719476736 := by
    have := Rat.intCast_le_intCast.mpr v1
    rwa [Rat.intCast_ofNat] at this
  have w0 : 0 ≤ (v : Rat) * S := Rat.mul_nonneg v0' s0
  have w1 : (v : Rat) * S ≤ 68719476736 := by
    have := Rat.mul_le_mul_of_nonneg_left s1 v0'
    grind
  have sy0 : 0 ≤ S * Y := Rat.mul_nonneg s0 y0
  have sy1 : 0 ≤ S * (1 - Y) := Rat.mul_nonneg s0 (by grind)
  obtain ⟨_, fl, fu⟩ := id fY
  obtain ⟨a1, a2, a3⟩ := sf.ap (M := 1) (e := 1 / 4503599627370496) (by grind) (by grind) (by grind)
  have fZ : Ap (sub oneF f) (1 - Y) (1 / 2251799813685248) := ⟨a1, by grind, by grind⟩
  have p1 := chan_float v0 (by (first | lia | omega)) (sub_one (Ap.grow hs (by grind)) s0 s1) (by grind) (by grind)
  have q1 := chan_float v0 (by (first | lia | omega)) (sub_one (mul_ap2 hs s0 s1 (Ap.grow fY (by grind)) y0 y1) sy0 (by grind)) (by grind) (by grind)
  have t1 := chan_float v0 (by (first | lia | omega)) (sub_one (mul_ap2 hs s0 s1 fZ (by grind) (by grind)) sy1 (by grind)) (by grind) (by grind)
  exact hsv_out w0 w1 (Ch.of p1 (by grind)) (Ch.of q1 (by grind)) (Ch.of t1 (by grind)) c.1 c.2.1 c.2.2
theorem hsv_float {h s : UInt64} {v : Int} {k : Nat} {F S : Rat} (hh : TurnOK h ((k : Rat) + F)) (hk : k ≤ 30) (F0 : 0 ≤ F) (F1 : F ≤ 1) (hs : Ap s S (1 / 1125899906842624)) (s0 : 0 ≤ S) (s1 : S ≤ 1) (v0 : 0 ≤ v) (v1 : v ≤ 68719476736) :
    ∃ n : Nat, PySem.Flt.toInt truncOf (mul h 4618441417868443648) = (n : Int) ∧ isFinite (mul h 4618441417868443648) = true ∧ n ≤ 40 ∧
      ∃ d1 d2 d3, hsvOut n v (mul (ofInt v) (sub oneF s)) (mul (ofInt v) (sub oneF (mul s (sub (mul h 4618441417868443648) (ofInt n))))) (mul (ofInt v) (sub oneF (mul s (sub oneF (sub (mul h 4618441417868443648) (ofInt n)))))) = [d1, d2, d3] ∧
        NearV d1 ((v : Rat) - (v : Rat) * S * dR (k % 6) F) ∧ NearV d2 ((v : Rat) - (v : Rat) * S * dG (k % 6) F) ∧ NearV d3 ((v : Rat) - (v : Rat) * S * dB (k % 6) F) := by
  obtain ⟨hf, h0, hl, hu⟩ := hh
  have k1 : (k : Rat) ≤ 30 := by
    have : ((k : Nat) : Rat) ≤ ((30 : Nat) : Rat) := Rat.natCast_le_natCast.mpr hk
    simpa using this
  have k0 : (0 : Rat) ≤ (k : Rat) := Rat.natCast_nonneg
  obtain ⟨f6, _, v6⟩ := six_fl
  have m := mul_rnd hf f6 (by unfold Bd; grind) (by rw [v6]; unfold Bd; grind)
  rw [v6] at m
  have x0 : 0 ≤ fv (mul h 4618441417868443648) := m.2.1 (by grind)
  obtain ⟨xf, xl, xu⟩ := m.ap (M := 32) (e := 1 / 140737488355328) (by grind) (by grind) (by grind)
  obtain ⟨n, e, n1, n2⟩ := trunc_spec xf x0
  have n40 : n ≤ 40 := by
    have : ((n : Nat) : Rat) < ((41 : Nat) : Rat) := by
      have : (n : Rat) < 41 := by grind
      simpa using this
    have := Rat.natCast_lt_natCast.mp this
    (first | lia | omega)
  refine ⟨n, e, xf.isFinite, n40, ?_⟩
  obtain ⟨nf, nv⟩ := ofInt_exact (i := (n : Int)) (by (first | lia | omega))
  rw [Rat.intCast_natCast] at nv
  have n0 : (0 : Rat) ≤ (n : Rat) := Rat.natCast_nonneg
  have sb := sub_rnd xf nf (by unfold Bd; grind) (by rw [nv]; unfold Bd; grind)
  rw [nv] at sb
  have f0 : 0 ≤ fv (sub (mul h 4618441417868443648) (ofInt n)) := sb.2.1 (by grind)
  have fa := sb.ap (M := 1) (e := 1 / 4503599627370496) (by grind) (by grind) (by grind)
  obtain ⟨ff, fl, fu⟩ := fa
  -- the exact place in the sector
  have c := cont (n := n) (k := k) (f := fv (mul h 4618441417868443648) - (n : Rat)) (F := F) (e := 1 / 4398046511104) (by grind) (by grind) F0 F1 (by grind) (by grind) (by grind) (by grind)
  have y0 : 0 ≤ fv (mul h 4618441417868443648) - (n : Rat) := by grind
  have y1 : fv (mul h 4618441417868443648) - (n : Rat) ≤ 1 := by grind
  rw [show (2 : Rat) * (1 / 4398046511104) = 1 / 2199023255552 by decide +kernel] at c
  have fY : Ap (sub (mul h 4618441417868443648) (ofInt n)) (fv (mul h 4618441417868443648) - (n : Rat)) (1 / 4503599627370496) := ⟨ff, fl, fu⟩
  have sf := sub_rnd one_fin ff (by rw [fv_one]; unfold Bd; grind) (by unfold Bd; grind)
  rw [fv_one] at sf
  exact hsv_tail' hs s0 s1 v0 v1 y0 y1 fY ff f0 sf c
end Mine
end

section -- Q3g
open PySem PySem.W PyProof.Rows
set_option Elab.async false
set_option linter.unusedVariables false
namespace Mine
open PySem.SeqAt PySem.Calls

noncomputable def max3 (a b c : Int) : Int := if b > a then (if c > b then c else b) else (if c > a then c else a)
noncomputable def min3 (a b c : Int) : Int := if b < a then (if c < b then c else b) else (if c < a then c else a)
noncomputable def ShareOK (sx : UInt64) (M m : Int) : Prop := ∃ q : Rat, q * (M : Rat) = ((M - m : Int) : Rat) ∧ 0 ≤ q ∧ q ≤ 1 ∧ Ap sx q (1 / 1125899906842624) ∧ 0 < fv sx
theorem share_ok {M m : Int} (h0 : 0 ≤ m) (h1 : m < M) (h2 : M ≤ 1099511627776) : ShareOK (fr (M - m) M) M m := by
  obtain ⟨q, e, q0, q1, _, _, _⟩ := frac_of (n := M - m) (d := M) (Int.sub_nonneg_of_le (Int.le_of_lt h1)) (Int.sub_le_self M h0) (Int.lt_of_le_of_lt h0 h1)
  have R := fr_rnd (n := M - m) (d := M) (Int.sub_nonneg_of_le (Int.le_of_lt h1)) (Int.lt_of_le_of_lt h0 h1) (Int.le_trans (Int.sub_le_self M h0) h2) e
  obtain ⟨f, l, u⟩ := R.ap (M := 1) (e := 1 / 4503599627370496) (by grind) (by grind) (by grind)
  have l1 : (1 : Rat) ≤ ((M - m : Int) : Rat) := by exact_mod_cast (show 1 ≤ M - m by (first | lia | omega))
  have l2 : (M : Rat) ≤ 1099511627776 := by
    have := Rat.intCast_le_intCast.mpr h2
    rwa [Rat.intCast_ofNat] at this
  have l3 := Rat.mul_le_mul_of_nonneg_left l2 q0
  exact ⟨q, e, q0, q1, ⟨f, by grind, by grind⟩, by grind⟩
theorem mx2 (a c : Int) : a ≤ (if c > a then c else a) ∧ c ≤ (if c > a then c else a) ∧ (a = (if c > a then c else a) ∨ c = (if c > a then c else a)) := by
  by_cases h : c > a
  · rw [if_pos h]; exact ⟨Int.le_of_lt h, Int.le_refl _, .inr rfl⟩
  · rw [if_neg h]; exact ⟨Int.le_refl _, Int.not_lt.mp h, .inl rfl⟩
theorem mn2 (a c : Int) : (if c < a then c else a) ≤ a ∧ (if c < a then c else a) ≤ c ∧ (a = (if c < a then c else a) ∨ c = (if c < a then c else a)) := by
  by_cases h : c < a
  · rw [if_pos h]; exact ⟨Int.le_of_lt h, Int.le_refl _, .inr rfl⟩
  · rw [if_neg h]; exact ⟨Int.le_refl _, Int.not_lt.mp h, .inl rfl⟩
theorem max3_spec (a b c : Int) : a ≤ max3 a b c ∧ b ≤ max3 a b c ∧ c ≤ max3 a b c ∧ (a = max3 a b c ∨ b = max3 a b c ∨ c = max3 a b c) := by
  unfold max3
  by_cases h : b > a
  · rw [if_pos h]
    obtain ⟨h1, h2, h3⟩ := mx2 b c
    exact ⟨Int.le_trans (Int.le_of_lt h) h1, h1, h2, .inr h3⟩
  · rw [if_neg h]
    obtain ⟨h1, h2, h3⟩ := mx2 a c
    exact ⟨h1, Int.le_trans (Int.not_lt.mp h) h1, h2, h3.imp id .inr⟩
theorem min3_spec (a b c : Int) : min3 a b c ≤ a ∧ min3 a b c ≤ b ∧ min3 a b c ≤ c ∧ (a = min3 a b c ∨ b = min3 a b c ∨ c = min3 a b c) := by
  unfold min3
  by_cases h : b < a
  · rw [if_pos h]
    obtain ⟨h1, h2, h3⟩ := mn2 b c
    exact ⟨Int.le_trans h1 (Int.le_of_lt h), h1, h2, .inr h3⟩
  · rw [if_neg h]
    obtain ⟨h1, h2, h3⟩ := mn2 a c
    exact ⟨h1, Int.le_trans h1 (Int.not_lt.mp h), h2, h3.imp id .inr⟩
theorem pt60 {a : Int} (h0 : 0 ≤ a) (h1 : a ≤ 1099511627776) : a.natAbs < 2 ^ 60 := by (first | lia | omega)
theorem df60 {a b : Int} (h0 : 0 ≤ a) (h : a ≤ b) (h1 : b ≤ 1099511627776) : (b - a).natAbs < 2 ^ 60 := by (first | lia | omega)
theorem nz6 : ¬ Float64.isZero 4618441417868443648 = true := by decide +kernel
theorem nz1 : ¬ Float64.isZero 4607182418800017408 = true := by decide +kernel
theorem sm40 {a : Int} (h : a.natAbs < 2 ^ 60) : sm a := Nat.lt_trans h (by decide)
noncomputable def cxRgb : Cx := { gl := [(S "max", .bi .max), (S "min", .bi .min)] }
section
variable {prog : Program} {w : World} {bs : Heap} {l : List Tb} {pm : Nat → Value} {B : Heap} {mg mb : Str → Option Value}
theorem ok_rgb (X : Lib pm B) (L : B.NoLimit) : FnOK (tbI bs l) B 63 (fdOf 9 (pm 9) (.ref 62)) (bdOf 9) (nmOf 9) [S "r", S "g", S "b"] :=
  fn_ok (X (9, 63) (by decide)) L (arity3 fun a b c => rfl) rfl
noncomputable def spRgb : Spec := fun ds Q => ∃ r g b : Int, ds = [.int r, .int g, .int b] ∧ (0 ≤ r ∧ 0 ≤ g ∧ 0 ≤ b ∧ r ≤ 1099511627776 ∧ g ≤ 1099511627776 ∧ b ≤ 1099511627776) ∧
  (min3 r g b = max3 r g b → Q (.tup [.flt 0, .flt 0, .int (max3 r g b)])) ∧
  (min3 r g b ≠ max3 r g b → ∀ hx sx k F, HsvH r g b (max3 r g b) (max3 r g b - min3 r g b) hx k F → ShareOK sx (max3 r g b) (min3 r g b) → Q (.tup [.flt hx, .flt sx, .int (max3 r g b)]))
theorem good_rgb (X : Lib pm B) (L : B.NoLimit) {k : Nat} (H : CGood prog w (tbI bs l) B mg mb cxRgb k) : GoodF prog w (tbI bs l) B (k + 1) 63 spRgb := by
  refine goodF_of (ok_rgb X L) (stm_plain H rfl 40) fun ds Q q => ?_
  obtain ⟨r, g, b, rfl, h, hQ⟩ := q
  refine ⟨rfl, rfl, ?_⟩
  conv => whnf
  refine ⟨rfl, ?_⟩
  conv => whnf
  refine ⟨rfl, ?_⟩
  conv => whnf
  refine ⟨rfl, ?_⟩
  conv => whnf
  refine ⟨rfl, ?_⟩
  change vcB cxRgb 36 _ _ [(Str.ofString "v", D.int (max3 r g b)), (Str.ofString "rangec", D.int (max3 r g b - min3 r g b)), (Str.ofString "minc", D.int (min3 r g b)), (Str.ofString "maxc", D.int (max3 r g b)), (Str.ofString "b", D.int b), (Str.ofString "g", D.int g), (Str.ofString "r", D.int r)] _ _ _ _
  obtain ⟨x1, x2, x3, x4⟩ := max3_spec r g b
  obtain ⟨y1, y2, y3, y4⟩ := min3_spec r g b
  generalize max3 r g b = M at *
  generalize min3 r g b = m at *
  conv => whnf
  refine ⟨rfl, Nat.le_of_ble_eq_true rfl, ?_⟩
  refine iteP_intro (fun hc => ?_) (fun hc => ?_)
  · have hc : m = M := by simpa [eqD] using hc
    conv => whnf
    refine ⟨Nat.le_of_ble_eq_true rfl, ?_⟩
    conv => whnf
    exact ⟨rfl, hQ.1 hc⟩
  · have hc : m ≠ M := by simpa [eqD] using hc
    conv => whnf
    obtain ⟨z1, z2, z3, z4, z5, z6⟩ := h
    have m0 : 0 ≤ m := y4.elim (fun e => e ▸ z1) fun e => e.elim (fun e => e ▸ z2) fun e => e ▸ z3
    have M1 : M ≤ 1099511627776 := x4.elim (fun e => e ▸ z4) fun e => e.elim (fun e => e ▸ z5) fun e => e ▸ z6
    have ml : m < M := Std.lt_of_le_of_ne (Int.le_trans y1 x1) hc
    have hp : 0 < M - m := Int.sub_pos_of_lt ml
    obtain ⟨k, F, H⟩ := rgb_float (r := r) (g := g) (b := b) y1 y2 y3 x1 x2 x3 m0 M1 rfl hp x4 y4
    have SH := share_ok (M := M) (m := m) m0 ml M1
    have hq := fun hx e => hQ.2 hc hx _ k F e SH
    have k1 : M ≠ 0 := Int.ne_of_gt (Int.lt_of_le_of_lt m0 ml)
    have k2 : M - m ≠ 0 := Int.ne_of_gt hp
    have s1 := sm40 (pt60 (Int.le_of_lt (Int.lt_of_le_of_lt m0 ml)) M1)
    have s2 := sm40 (df60 m0 (Int.le_of_lt ml) M1)
    have s3 := sm40 (df60 z1 x1 M1)
    have s4 := sm40 (df60 z2 x2 M1)
    have s5 := sm40 (df60 z3 x3 M1)
    refine ⟨by assumption, by assumption, ?_⟩
    conv => whnf
    refine ⟨rfl, ?_⟩
    conv => whnf
    refine ⟨by assumption, by assumption, ?_⟩
    conv => whnf
    refine ⟨rfl, ?_⟩
    conv => whnf
    refine ⟨by assumption, by assumption, ?_⟩
    conv => whnf
    refine ⟨rfl, ?_⟩
    conv => whnf
    refine ⟨by assumption, by assumption, ?_⟩
    conv => whnf
    refine ⟨rfl, ?_⟩
    conv => whnf
    refine ⟨rfl, Nat.le_of_ble_eq_true rfl, ?_⟩
    refine iteP_intro (fun hc => ?_) (fun hc => ?_)
    · have hc : r = M := by simpa [eqD] using hc
      unfold hueF at H
      rw [if_pos hc] at H
      have hq := hq _ H
      conv => whnf
      refine ⟨rfl, ?_⟩
      conv => whnf
      refine ⟨nz6, ?_⟩
      conv => whnf
      refine ⟨nz1, ?_⟩
      conv => whnf
      refine ⟨rfl, ?_⟩
      conv => whnf
      refine ⟨Nat.le_of_ble_eq_true rfl, ?_⟩
      conv => whnf
      exact ⟨rfl, hq⟩
    · have c1 : ¬ r = M := by simpa [eqD] using hc
      conv => whnf
      refine ⟨rfl, Nat.le_of_ble_eq_true rfl, ?_⟩
      refine iteP_intro (fun hc => ?_) (fun hc => ?_)
      · have c2 : g = M := by simpa [eqD] using hc
        unfold hueF at H
        rw [if_neg c1, if_pos c2] at H
        have hq := hq _ H
        conv => whnf
        refine ⟨rfl, ?_⟩
        conv => whnf
        refine ⟨nz6, ?_⟩
        conv => whnf
        refine ⟨nz1, ?_⟩
        conv => whnf
        refine ⟨rfl, ?_⟩
        conv => whnf
        refine ⟨Nat.le_of_ble_eq_true rfl, ?_⟩
        conv => whnf
        exact ⟨rfl, hq⟩
      · have c2 : ¬ g = M := by simpa [eqD] using hc
        unfold hueF at H
        rw [if_neg c1, if_neg c2] at H
        have hq := hq _ H
        conv => whnf
        refine ⟨rfl, ?_⟩
        conv => whnf
        refine ⟨nz6, ?_⟩
        conv => whnf
        refine ⟨nz1, ?_⟩
        conv => whnf
        refine ⟨rfl, ?_⟩
        conv => whnf
        refine ⟨Nat.le_of_ble_eq_true rfl, ?_⟩
        conv => whnf
        exact ⟨rfl, hq⟩
end
end Mine
end

section -- Q3h
open PySem PySem.W PyProof.Rows
set_option Elab.async false
set_option linter.unusedVariables false
namespace Mine
open PySem.SeqAt PySem.Calls

theorem eq_zero_no {s : UInt64} (h : Fin s) (p : 0 < fv s) : eqD (.flt s) (.flt 0) = false := by
  show (Float64.cmp s 0 == some Ordering.eq) = false
  have z : (0 : UInt64) = Float64.zero false := by decide
  rw [z, cmp_val h (fv_zero false).1]
  have e : Float64.val (Float64.zero false) = 0 := by decide +kernel
  rw [e]
  have : Float64.val s ≠ 0 := fun q => by
    unfold fv at p
    rw [q, Rat.intCast_zero, Rat.zero_mul] at p
    exact absurd p (by decide)
  cases hc : compare (Float64.val s) 0 with
  | lt => rfl
  | gt => rfl
  | eq => exact absurd (Int.compare_eq_eq.mp hc) this

theorem fmod6 {n j : Nat} (z : n % 6 = j) : (n : Int).fmod 6 = (j : Int) := by
  rw [Int.fmod_eq_emod_of_nonneg _ (by decide), ← z]; rfl
theorem nat60 {n : Nat} (h : n ≤ 40) : (n : Int).natAbs < 2 ^ 60 := Nat.lt_of_le_of_lt h (by decide)
noncomputable def cxInt : Cx := { gl := [(S "int", .bi .int)] }
noncomputable def spHsv : Spec := fun ds Q => (∃ h v, ds = [.flt h, .flt 0, .int v] ∧ Q (.tup [.int v, .int v, .int v])) ∨
  ∃ h s v k F q, ds = [.flt h, .flt s, .int v] ∧ TurnOK h (((k : Nat) : Rat) + F) ∧ k ≤ 30 ∧ 0 ≤ F ∧ F ≤ 1 ∧ Ap s q (1 / 1125899906842624) ∧ 0 < fv s ∧ 0 ≤ q ∧ q ≤ 1 ∧ 0 ≤ v ∧ v ≤ 68719476736 ∧
    ∀ d1 d2 d3, NearV d1 ((v : Rat) - (v : Rat) * q * dR (k % 6) F) → NearV d2 ((v : Rat) - (v : Rat) * q * dG (k % 6) F) → NearV d3 ((v : Rat) - (v : Rat) * q * dB (k % 6) F) → Q (.tup [d1, d2, d3])
section
variable {prog : Program} {w : World} {bs : Heap} {l : List Tb} {pm : Nat → Value} {B : Heap} {mg mb : Str → Option Value}
theorem ok_hsv (X : Lib pm B) (L : B.NoLimit) : FnOK (tbI bs l) B 70 (fdOf 10 (pm 10) (.ref 69)) (bdOf 10) (nmOf 10) [S "h", S "s", S "v"] :=
  fn_ok (X (10, 70) (by decide)) L (arity3 fun a b c => rfl) rfl
theorem hsv_tail {n : Nat} {v : Int} {P X T f h : UInt64} {sd d1 d2 d3 : D} {Q : D → Prop} (eo : hsvOut n v P X T = [d1, d2, d3]) (hq : Q (.tup [d1, d2, d3])) :
    vcB cxInt 33 (nmOf 10) ((bdOf 10).drop 7) [(S "i", .int ((n : Int).fmod 6)), (S "t", .flt T), (S "q", .flt X), (S "p", .flt P), (S "f", .flt f), (S "i", .int n), (S "v", .int v), (S "s", sd), (S "h", .flt h)] [] (fun _ _ => Q .none) (fun _ _ => False) Q := by
  rcases sixth n with z | z | z | z | z | z
  · have zj : (n : Int).fmod 6 = 0 := fmod6 z
    unfold hsvOut at eo
    rw [z] at eo
    cases eo
    rw [zj]
    iterate 1 ((conv => whnf); refine ⟨rfl, Nat.le_of_ble_eq_true rfl, ?_⟩)
    conv => whnf
    refine ⟨Nat.le_of_ble_eq_true rfl, ?_⟩
    conv => whnf
    exact ⟨rfl, hq⟩
  · have zj : (n : Int).fmod 6 = 1 := fmod6 z
    unfold hsvOut at eo
    rw [z] at eo
    cases eo
    rw [zj]
    iterate 2 ((conv => whnf); refine ⟨rfl, Nat.le_of_ble_eq_true rfl, ?_⟩)
    conv => whnf
    refine ⟨Nat.le_of_ble_eq_true rfl, ?_⟩
    conv => whnf
    exact ⟨rfl, hq⟩
  · have zj : (n : Int).fmod 6 = 2 := fmod6 z
    unfold hsvOut at eo
    rw [z] at eo
    cases eo
    rw [zj]
    iterate 3 ((conv => whnf); refine ⟨rfl, Nat.le_of_ble_eq_true rfl, ?_⟩)
    conv => whnf
    refine ⟨Nat.le_of_ble_eq_true rfl, ?_⟩
    conv => whnf
    exact ⟨rfl, hq⟩
  · have zj : (n : Int).fmod 6 = 3 := fmod6 z
    unfold hsvOut at eo
    rw [z] at eo
    cases eo
    rw [zj]
    iterate 4 ((conv => whnf); refine ⟨rfl, Nat.le_of_ble_eq_true rfl, ?_⟩)
    conv => whnf
    refine ⟨Nat.le_of_ble_eq_true rfl, ?_⟩
    conv => whnf
    exact ⟨rfl, hq⟩
  · have zj : (n : Int).fmod 6 = 4 := fmod6 z
    unfold hsvOut at eo
    rw [z] at eo
    cases eo
    rw [zj]
    iterate 5 ((conv => whnf); refine ⟨rfl, Nat.le_of_ble_eq_true rfl, ?_⟩)
    conv => whnf
    refine ⟨Nat.le_of_ble_eq_true rfl, ?_⟩
    conv => whnf
    exact ⟨rfl, hq⟩
  · have zj : (n : Int).fmod 6 = 5 := fmod6 z
    unfold hsvOut at eo
    rw [z] at eo
    cases eo
    rw [zj]
    iterate 6 ((conv => whnf); refine ⟨rfl, Nat.le_of_ble_eq_true rfl, ?_⟩)
    conv => whnf
    refine ⟨Nat.le_of_ble_eq_true rfl, ?_⟩
    conv => whnf
    exact ⟨rfl, hq⟩
theorem hsv_vc {ds : List D} {Q : D → Prop} (q : spHsv ds Q) : ds.length = 3 ∧ ds.all flatB = true ∧ vcB cxInt 40 (nmOf 10) (bdOf 10) ([S "h", S "s", S "v"].zip ds).reverse [] (fun _ _ => Q .none) (fun _ _ => False) Q := by
  rcases q with ⟨h, v, rfl, hQ⟩ | ⟨h, s, v, k, F, S, rfl, hh, hk, F0, F1, hs, sp, s0, s1, v0, v1, hQ⟩
  · refine ⟨rfl, rfl, ?_⟩
    conv => whnf
    refine ⟨rfl, Nat.le_of_ble_eq_true rfl, ?_⟩
    rw [show eqD (.flt 0) (.flt 0) = true by decide +kernel]
    conv => whnf
    refine ⟨Nat.le_of_ble_eq_true rfl, ?_⟩
    conv => whnf
    exact ⟨rfl, hQ⟩
  · refine ⟨rfl, rfl, ?_⟩
    conv => whnf
    refine ⟨rfl, Nat.le_of_ble_eq_true rfl, ?_⟩
    rw [eq_zero_no hs.1 sp]
    obtain ⟨n, e, fx, n40, d1, d2, d3, eo, h1, h2, h3⟩ := hsv_float hh hk F0 F1 hs s0 s1 v0 v1
    have hq := hQ d1 d2 d3 h1 h2 h3
    have sv : sm v := sm40 (pt60 v0 (Int.le_trans v1 (by decide)))
    conv => whnf
    refine ⟨fx, ?_⟩
    conv => whnf
    refine ⟨rfl, ?_⟩
    conv => whnf
    rw [e]
    refine ⟨sm40 (nat60 n40), ?_⟩
    conv => whnf
    refine ⟨rfl, ?_⟩
    conv => whnf
    refine ⟨sv, ?_⟩
    conv => whnf
    refine ⟨rfl, ?_⟩
    conv => whnf
    refine ⟨sv, ?_⟩
    conv => whnf
    refine ⟨rfl, ?_⟩
    conv => whnf
    refine ⟨sv, ?_⟩
    conv => whnf
    refine ⟨rfl, ?_⟩
    conv => whnf
    refine ⟨by decide, ?_⟩
    conv => whnf
    refine ⟨rfl, ?_⟩
    exact hsv_tail eo hq
end
end Mine
end

section -- F12
open PySem
set_option Elab.async false
set_option linter.unusedVariables false
namespace Mine
open PySem.Float64

noncomputable def NearI (d : D) (c : Int) : Prop := d = .int c ∨ ∃ x, d = .flt x ∧ Ap x (c : Rat) (1 / 8)
theorem NearV.int {d : D} {y : Rat} {c : Int} (h : NearV d y) (e : y = (c : Rat)) : NearI d c := by
  subst e
  rcases h with ⟨i, rfl, h1, h2⟩ | ⟨x, rfl, h⟩
  · left
    have a1 : ((c : Int) : Rat) < ((i + 1 : Int) : Rat) := by push_cast; grind
    have a2 : ((i : Int) : Rat) < ((c + 1 : Int) : Rat) := by push_cast; grind
    have a1 := Rat.intCast_lt_intCast.mp a1
    have a2 := Rat.intCast_lt_intCast.mp a2
    rw [show i = c by (first | lia | omega)]
  · exact .inr ⟨x, rfl, h.grow (by grind)⟩
theorem part_back {M c D : Int} {q d : Rat} (hq : q * (M : Rat) = ((D : Int) : Rat)) (hd : (D : Rat) * d = ((M - c : Int) : Rat)) : (M : Rat) - (M : Rat) * q * d = (c : Rat) := by
  push_cast at hd
  have : (M : Rat) * q * d = (M : Rat) - (c : Rat) := by rw [Rat.mul_comm (M : Rat), hq, hd]
  grind
end Mine
end

section -- Q3i
open PySem PySem.W PyProof.Rows
set_option Elab.async false
set_option linter.unusedVariables false
namespace Mine
open PySem.SeqAt PySem.Calls

noncomputable def spNear : Spec := fun ds Q => ∃ d c, ds = [d] ∧ NearI d c ∧ 0 ≤ c ∧ c ≤ 1099511627776 ∧ Q (.int c)
section
variable {prog : Program} {w : World} {bs : Heap} {l : List Tb} {pm : Nat → Value} {B : Heap} {mg mb : Str → Option Value}
theorem good_near (X : Lib pm B) (L : B.NoLimit) {k : Nat} (H : CGood prog w (tbI bs l) B mg mb cxInt k) : GoodF prog w (tbI bs l) B (k + 1) 91 spNear := by
  refine goodF_of (ok_near X L) (stm_plain H rfl 40) fun ds Q q => ?_
  obtain ⟨d, c, rfl, h, h0, h1, hQ⟩ := q
  rcases h with rfl | ⟨x, rfl, h⟩
  · refine ⟨rfl, rfl, ?_⟩
    conv => whnf
    refine ⟨.inl (by decide), ?_⟩
    conv => whnf
    refine ⟨by decide, show (2 : Nat) < _ by decide, ?_⟩
    have e : (2 * c + 1).fdiv 2 = c := by rw [Int.fdiv_eq_ediv_of_nonneg _ (by decide)]; (first | lia | omega)
    conv => whnf
    refine ⟨rfl, ?_⟩
    rw [e]
    exact hQ
  · refine ⟨rfl, rfl, ?_⟩
    obtain ⟨e1, e2⟩ := near_float h h0 h1
    conv => whnf
    refine ⟨show (2 : Nat) < _ by decide, ?_⟩
    conv => whnf
    refine ⟨show (1 : Nat) < _ by decide, ?_⟩
    conv => whnf
    refine ⟨e1, ?_⟩
    conv => whnf
    refine ⟨by decide, show (2 : Nat) < _ by decide, ?_⟩
    conv => whnf
    refine ⟨rfl, ?_⟩
    rw [e2]
    exact hQ
end
end Mine
end

section -- M42
open PySem PySem.W PyProof.Rows
set_option Elab.async false
set_option linter.unusedVariables false
namespace Mine
open PySem.SeqAt PySem.Calls

theorem cellsFrom_apart : ∀ (names : Nm) (n : Nat) (acc : List (Str × Addr)), (∀ p ∈ acc, p.2 < n) → (acc.Pairwise fun x y => x.2 ≠ y.2) → (cellsFrom n names acc).Pairwise fun x y => x.2 ≠ y.2
  | [], _, _, _, h => h
  | (y, q) :: r, n, acc, hl, h => by
    unfold cellsFrom
    split
    · refine cellsFrom_apart r _ _ (fun p hp => ?_) (List.pairwise_cons.mpr ⟨fun p hp e => ?_, h⟩)
      · rcases List.mem_cons.mp hp with rfl | hp
        · exact Nat.lt_succ_self _
        · exact Nat.lt_succ_of_lt (hl p hp)
      · have e : n = p.2 := e
        exact absurd (hl p hp) (by rw [← e]; exact Nat.lt_irrefl _)
    · exact cellsFrom_apart r _ _ hl h
theorem cellsAre_at {cm : Str → Option Value} {cs : List (Str × Addr)} {cells : List (Addr × Obj)} (H : CellsAre cm cs cells) : ∀ {x : Str} {c : Addr}, (x, c) ∈ cs → ∃ o, (c, o) ∈ cells ∧ o.data = .cell (cm x) := by
  induction H with
  | nil => intro x c h; cases h
  | cons h r ih =>
    intro x c hm
    rcases List.mem_cons.mp hm with e | hm
    · cases e; exact ⟨_, List.mem_cons_self .., h⟩
    · obtain ⟨o, h1, h2⟩ := ih hm
      exact ⟨o, List.mem_cons_of_mem _ h1, h2⟩

section
variable {prog : Program} {w : World} {l : List Tb} {B h : Heap}

theorem fs_open {L fa a : Addr} {name x : Str} {scope : Scope} {cd : Value} {m : Str → Option Value} {cm : Str → Option Value} {cells news : List (Addr × Obj)} {k : Nat} {vs : List Value} {ns : List Int}
    (F : Fr B L h m) (N : News B L h news) (X0 : CellsAre cm (cellsFrom (L + 1) scope.names []) cells) (hs : ∀ p ∈ cells, p ∈ news) (hcm : ∀ y, scope.names.lookup y = some .cell → cm y = none)
    (hk : scope.kind = .function) (hn : okNames scope.names [] = true) (hx : scope.names.lookup x = some .local) (hm : m x = some (.ref a)) (hl : B.PlainList a vs.toArray) (hI : IntsAre vs ns)
    (ht : ∀ t ∈ l, (t.P, tabObj #[]) ∈ news) (hkk : k ≤ 500) :
    Fs (tbI B l) B k (callerA.deeper (envOfC name scope L fa cd)) (envOfC name scope L fa cd) scope.names B (fun _ => False) B (fun y => if scope.names.lookup y = some .local then m y else none) [(x, .list (ns.map .int))] [] h := by
  unfold okNames at hn
  simp only [Bool.and_eq_true, List.all_nil, and_true] at hn
  obtain ⟨⟨k1, k2⟩, k3⟩ := hn
  have xB : Ext (tbI B l) B h := .of F.keep
  have low : Low (tbI B l) B := fun b n => n
  have cel : ∀ y c, (cellsFrom (L + 1) scope.names []).lookup y = some c → B.get? c = none ∧ ∃ o, h.get? c = some o ∧ o.data = .cell (cm y) := fun y c e => by
    obtain ⟨o, h1, h2⟩ := cellsAre_at X0 (mem_of_lookup e)
    have := N _ (hs _ h1)
    exact ⟨this.2.2, o, this.1, h2⟩
  have rl : ∀ {vs : List Value} {ns : List Int}, IntsAre vs ns → RepL h vs (ns.map .int) := fun hI => by
    induction hI with
    | nil => exact .nil
    | cons n t _ ih => exact .cons (.int n t) ih
  have ncell : ∀ y, scope.names.lookup y ≠ some .free := fun y e => by
    have := List.all_eq_true.mp k3 _ (lookup_mem e)
    exact absurd this (show ¬ (NameKind.free != NameKind.free) = true by decide)
  refine ⟨⟨.refl _, ⟨rfl, ?_, ?_⟩, rfl, hk, rfl, rfl, by simpa using k1, by simpa using k2, Heap.get?_none_of_le F.above, fun y c _ hc => (cel y c hc).1, fun y z c hy hz => ?_, fun y hy => ?_, ⟨[], rfl⟩, rfl, low⟩, fun t htl => ?_, ⟨_, rfl, ⟨?_, ?_, trivial⟩, low.ext xB⟩, xB, ⟨⟨m, F.ns, fun y hy => ?_⟩, fun y c hy hc => ?_⟩, fun y d e => ?_, fun _ p => p.elim, fun _ hy => by cases hy⟩
  · show 1 + claimMargin + 1 + k < 900
    unfold claimMargin; (first | lia | omega)
  · show 4 + 3 + 8 * k + 200 < 9900
    (first | lia | omega)
  · exact name_of_addr (cellsFrom_apart scope.names (L + 1) [] (fun p hp => by cases hp) .nil) (mem_of_lookup hy) (mem_of_lookup hz)
  · rcases hy with e | e
    · exact Option.isSome_iff_exists.mp (cellsFrom_has _ _ _ (lookup_mem e))
    · exact absurd e (ncell y)
  · have := N _ (ht t htl)
    exact ⟨.inl this.1, this.2.2⟩
  · show scope.kind ≠ _
    rw [hk]; decide
  · obtain ⟨o, es, ep, ho, hd, _⟩ := F.ns
    exact ⟨L, o, es, ep, rfl, ho, hd, Heap.get?_none_of_le F.above⟩
  · simp only [hy, if_true]
  · have hf : scope.names.lookup y = some .cell := hy.elim id fun e => absurd e (ncell y)
    obtain ⟨_, o, e1, e2⟩ := cel y c hc
    rw [hcm y hf] at e2
    have : scope.names.lookup y ≠ some .local := by rw [hf]; intro q; cases q
    simp only [this, if_false]
    exact ⟨o, e1, e2⟩
  · by_cases q : y = x
    · subst q
      rw [lookup_cons_same] at e; cases e
      refine ⟨.inr (.inl ⟨_, rfl, lf_ints _⟩), .inl hx, .ref a, ?_, ?_⟩
      · simp only [hx, if_true]; exact hm
      · exact .list (hl.at fun o e => F.keep _ o e) (rl hI)
    · rw [lookup_cons_ne q] at e; cases e
end
end Mine
end

section -- QJ1
open PySem PySem.W PyProof.Rows
set_option Elab.async false
set_option linter.unusedVariables false
namespace Mine
open PySem.SeqAt PySem.Calls

noncomputable def glTab : List (Str × Value) := [(S "_div2n1n", .ref 21), (S "_int2digits", .ref 35), (S "_digits2int", .ref 42), (S "_divmod_pos", .ref 49), (S "int_divmod", .ref 56), (S "rgb_to_hsv", .ref 63), (S "hsv_to_rgb", .ref 70), (S "Int2AP", .ref 77), (S "_law_corner", .ref 84), (S "_law_near", .ref 91), (S "_law_told", .ref 96), (S "_law_turned", .ref 103), (S "_law_light", .ref 108), (S "_law_read", .ref 115), (S "_law_total", .ref 122)]
noncomputable def glNone : List Str := [S "len", S "divmod", S "reversed", S "ZeroDivisionError", S "abs", S "int", S "min", S "max", S "tuple", S "range", S "sum", S "isinstance"]
structure Gl (pm : Nat → Value) (B : Heap) (mg mb : Str → Option Value) : Prop where
  X : Lib pm B
  L : B.NoLimit
  g : B.Ns mainGlobals mg
  b : B.Ns builtinsNs mb
  bt : ∀ x : Str, x ≠ "__name__" → mb x = bootBuiltins x
  bm : ∃ bm ob, mg "__builtins__" = some (.ref bm) ∧ bm ≠ builtinsNs ∧ B.get? bm = some ob ∧ ob.cls = .type "module" ∧ ob.dict = some builtinsNs ∧ ob.data = .plain
  tf : ∀ p ∈ glTab, mg p.1 = some p.2
  tn : ∀ x ∈ glNone, mg x = none
  dl : ∃ t, mg (S "_DIV_LIMIT") = some (.int 4000 t)
theorem Gl.at {pm : Nat → Value} {B : Heap} {mg mb : Str → Option Value} (H : Gl pm B mg mb) {x : Str} {v : Value} (h : glTab.lookup x = some v) : mg x = some v := H.tf _ (lookup_mem h)
theorem Gl.no {pm : Nat → Value} {B : Heap} {mg mb : Str → Option Value} (H : Gl pm B mg mb) {x : Str} (h : glNone.contains x = true) : mg x = none := H.tn _ (List.contains_iff_mem.mp h)
theorem Gl.bat {pm : Nat → Value} {B : Heap} {mg mb : Str → Option Value} (H : Gl pm B mg mb) {Pl : Addr} (n : B.get? Pl = none) : B.BuiltinsAt mg Pl := by
  obtain ⟨bm, ob, h1, h2, h3, h4, h5, h6⟩ := H.bm
  refine ⟨bm, ob, h1, h2, fun q => ?_, fun q => ?_, h3, h4, h5, h6⟩
  · obtain ⟨o, es, ep, ho, hd, _⟩ := H.g
    rw [q, ho] at h3; cases h3; rw [hd] at h6; cases h6
  · rw [q, n] at h3; cases h3
theorem GoodZ.more {prog : Program} {w : World} {I : TInv} {B : Heap} {k k' : Nat} {f : Addr} (h : GoodZ prog w I B k f) (le : k ≤ k') : GoodZ prog w I B k' f :=
  fun A vs a Q E s x t ao fr r q => h A vs a Q E s x t (ao.more le) fr r q
section
variable {prog : Program} {w : World} {bs : Heap} {l : List Tb} {pm : Nat → Value} {B : Heap} {mg mb : Str → Option Value} {I : TInv} {k : Nat} {gl : List (Str × G)} {z : Option Addr}
theorem Gl.nil (H : Gl pm B mg mb) : CGood prog w I B mg mb { gl := [], dz := z } k := .nil H.g H.b
theorem Gl.bi (H : Gl pm B mg mb) (C : CGood prog w I B mg mb { gl := gl, dz := z } k) (x : Str) (b : Bi) (h1 : glNone.contains x = true) (h2 : bootBuiltins x = some b.val) (h3 : (x == ("__debug__" : Str)) = false) (h4 : (x == ("__name__" : Str)) = false) : CGood prog w I B mg mb { gl := (x, .bi b) :: gl, dz := z } k :=
  C.addBi (H.no h1) ((H.bt x (by simpa using h4)).trans h2) h3
theorem Gl.fn (H : Gl pm B mg mb) (C : CGood prog w I B mg mb { gl := gl, dz := z } k) (x : Str) {f : Addr} {sp : Spec} (h1 : glTab.lookup x = some (.ref f)) (G : GoodF prog w I B k f sp) (h3 : (x == ("__debug__" : Str)) = false) : CGood prog w I B mg mb { gl := (x, .fn f sp) :: gl, dz := z } k :=
  C.addFn (H.at h1) G h3
theorem Gl.lim (H : Gl pm B mg mb) (C : CGood prog w I B mg mb { gl := gl, dz := z } k) : CGood prog w I B mg mb { gl := (S "_DIV_LIMIT", .cint 4000) :: gl, dz := z } k :=
  C.addInt H.dl rfl

end
end Mine
end

section -- QJ3
open PySem PySem.W PyProof.Rows
set_option Elab.async false
set_option linter.unusedVariables false
namespace Mine
open PySem.SeqAt PySem.Calls

theorem plain_of {P : Params} {h : Heap} {a : Addr} {d : WData} {its : Array Value} {xs : List PyData} (w : Well P h (.ref a) d) (e : d = ofPy (.list xs)) (l : h.IsList a its) : h.PlainList a its := by
  cases w with
  | list hg _ =>
    obtain ⟨o, ho, hc, n, hd⟩ := l
    rw [hg] at ho; cases ho
    simp only at hd
    injection hd with e1 e2
    exact ⟨_, by rw [hg, e1]⟩
  | _ => simp [ofPy] at e
theorem plain_ghost {h₁ : Heap} {tabs : List (Addr × Addr)} {a : Addr} {its : Array Value} (hT : TabsAt tabs h₁) (p : h₁.PlainList a its) : (ghostOf h₁ tabs).PlainList a its := by
  obtain ⟨n, e⟩ := p
  exact ⟨n, ghost_get hT e (fun q => by cases q)⟩
theorem post_true (l : OpenLaw) (a b : List WData) : l.row.claim.post a (.bool true) b = true := by
  simp [OpenLaw.row, RowW.claim, WShape.has, WTm.holds, WTm.value, WShape.arms, PySem.W.same]
theorem Tb.grown {t : Tb} {h : Heap} (x : t.ok h) : GrownAt t.P h := by
  rcases x with e | ⟨c', e, _⟩
  · exact ⟨_, e⟩
  · exact ⟨_, e⟩
section
variable {prog : Program} {w : World} {l : List Tb} {B : Heap} {mg mb : Str → Option Value} {C : Cx} {k n : Nat} {A : Around} {s : Shared} {E : Value → Shared → Prop}
theorem run_law {env : Env} {nm : Nm} {body : List Stmt} {va : Va} {st : St} {Q : Flow → Shared → Prop} (T : BSnd prog w (tbI B l) B k C n)
    (F : Fs (tbI B l) B k A env nm B (fun _ => False) B va st [] s.heap)
    (vc : vcB C n nm body st [] (fun _ _ => False) (fun _ _ => False) (fun d => d = .bool true))
    (hQ : ∀ h' tk, (∀ b o, B.get? b = some o → h'.get? b = some o) → (∀ t ∈ l, GrownAt t.P h') → Q (.ret (.bool true)) { s with heap := h', toks := tk }) :
    wpAny (model prog w) A (execs body env) Q E s := by
  refine wpAny_mono (T nm body _ _ _ _ _ _ _ s _ B _ B _ vc F) (fun f s' h' => ?_) fun _ _ y => y
  obtain ⟨h₂, tk₂, va₂, st₂, ow₂, rfl, F₂, hf⟩ := h'
  cases f with
  | next => exact hf.elim
  | brk => exact hf.elim
  | cont => exact hf.elim
  | ret v =>
    obtain ⟨d, q1, q2, rfl⟩ := hf
    cases q1
    exact hQ h₂ tk₂ (fun b o e => F₂.ext.old b o e e) fun t ht => Tb.grown (F₂.tab t ht).1
end
noncomputable def modOf (i : Nat) : Value := if i < 8 then .str (S "cpy313._pylong") 187 else if i < 11 then .str (S "cpy313.colorsys") 269 else if i < 13 then .str (S "cpy313.imaplib") 303 else .str (S "law_ta0023_01") 315
theorem fn_at {B : Heap} {K : Frag} (X : K.In B) {i a : Nat} {pm : Value} {vs : Array Value} {t : Tok} (h1 : (K.lookup a).map (·.data) = some (.func (fdOf i pm (.ref (a - 1))))) (h2 : (K.lookup (a - 1)).map (·.data) = some (.fields vs))
    (h3 : vs[1]? = some (.str (fdOf i pm (.ref (a - 1))).qualname t)) : FnAt B i a pm :=
  (Option.map_eq_some_iff.mp h1).elim fun o h => (Option.map_eq_some_iff.mp h2).elim fun oc h' => ⟨⟨o, X a o h.1, h.2⟩, _, oc, vs, t, rfl, X _ oc h'.1, h'.2, h3⟩
theorem gl_make {K : Frag} {B : Heap} {mg mb : Str → Option Value} {p : Program} {loose : List Str} {mean : ExcName → Option Value} {t : Tok} (X : K.In B) (T : Top p loose mean mg mb B) (t0 : ∀ p ∈ glTab, nsIn K mainGlobals p.1 = some (some p.2)) (t1 : ∀ x ∈ glNone, nsIn K mainGlobals x = some none)
    (t2 : nsIn K mainGlobals (S "_DIV_LIMIT") = some (some (.int 4000 t))) (fs : Lib modOf B) : Gl modOf B mg mb :=
  ⟨fs, T.nolimit, T.g, T.b, T.builtins, T.bmain, fun p hp => mg_of X T.g (t0 p hp), fun x hx => mg_none_of X T.g (t1 x hx), t, mg_of X T.g t2⟩
end Mine
end

section -- Q3j
open PySem PySem.W PyProof.Rows
set_option Elab.async false
set_option linter.unusedVariables false
namespace Mine
open PySem.Float64
theorem int_rat {M : Int} (h0 : 0 ≤ M) (h1 : M ≤ 68719476736) : (0 : Rat) ≤ (M : Rat) ∧ (M : Rat) ≤ 68719476736 ∧ Fin (ofInt M) ∧ fv (ofInt M) = (M : Rat) := by
  have c1 := Rat.intCast_le_intCast.mpr h1
  rw [Rat.intCast_ofNat] at c1
  obtain ⟨f, v⟩ := ofInt_exact (i := M) (by (first | lia | omega))
  exact ⟨by exact_mod_cast h0, c1, f, v⟩
theorem times_near {x : UInt64} {q : Rat} {M c : Int} (h : Ap x q (1 / 35184372088832)) (q0 : 0 ≤ q) (q1 : q ≤ 6) (h0 : 0 ≤ M) (h1 : M ≤ 68719476736) (e : (M : Rat) * q = (c : Rat)) : NearI (.flt (mul x (ofInt M))) c := by
  obtain ⟨c0, c1, f1, v1⟩ := int_rat h0 h1
  have bx := h.bd (by grind) (by grind) (by grind)
  obtain ⟨fx, lx, ux⟩ := h
  have m := mul_rnd fx f1 bx (by rw [v1]; unfold Bd; grind)
  rw [v1] at m
  have u1 := Rat.mul_le_mul_of_nonneg_right ux c0
  have u2 := Rat.mul_le_mul_of_nonneg_right lx c0
  have w1 := Rat.mul_le_mul_of_nonneg_right q0 c0
  have w2 := Rat.mul_le_mul_of_nonneg_right q1 c0
  obtain ⟨mf, ml, mu⟩ := m.ap (M := 549755813888) (e := 1 / 1024) (by grind) (by grind) (by grind)
  exact .inr ⟨_, rfl, mf, by grind, by grind⟩
theorem share_near {sx : UInt64} {M m : Int} (h : ShareOK sx M m) (h0 : 0 ≤ M) (h1 : M ≤ 68719476736) : NearI (.flt (mul sx (ofInt M))) (M - m) := by
  obtain ⟨q, e, q0, q1, a, _⟩ := h
  exact times_near (a.grow (by grind)) q0 (by grind) h0 h1 ((Rat.mul_comm ..).trans e)
theorem six_ap {hx : UInt64} {H : Rat} (h : HueOK hx H) (h0 : 0 ≤ H) (h1 : H ≤ 6) : Ap (mul (ofInt 6) hx) H (1 / 35184372088832) := by
  obtain ⟨f, z, l, u⟩ := h
  obtain ⟨f6, v6⟩ := ofInt_exact (i := 6) (by decide)
  rw [Rat.intCast_ofNat] at v6
  have m := mul_rnd f6 f (by rw [v6]; unfold Bd; grind) (by unfold Bd; grind)
  rw [v6] at m
  obtain ⟨mf, ml, mu⟩ := m.ap (M := 8) (e := 1 / 281474976710656) (by grind) (by grind) (by grind)
  exact ⟨mf, by grind, by grind⟩
theorem place_near {hx : UInt64} {H : Rat} {D p : Int} (h : HueOK hx H) (h0 : 0 ≤ H) (h1 : H ≤ 6) (d0 : 0 ≤ D) (d1 : D ≤ 68719476736) (e : (D : Rat) * H = (p : Rat)) : NearI (.flt (mul (mul (ofInt 6) hx) (ofInt D))) p :=
  times_near (six_ap h h0 h1) h0 h1 d0 d1 e
theorem zero_ap : Ap 0 0 (1 / 35184372088832) := by
  obtain ⟨f0, v0⟩ := fv_zero false
  have z : (0 : UInt64) = zero false := by decide
  rw [z]
  exact ⟨f0, by rw [v0]; grind, by rw [v0]; grind⟩
theorem zero_times {M : Int} (h0 : 0 ≤ M) (h1 : M ≤ 68719476736) : NearI (.flt (mul 0 (ofInt M))) 0 :=
  times_near zero_ap (by decide) (by decide) h0 h1 (by rw [Rat.mul_zero]; rfl)
theorem zero_place : NearI (.flt (mul (mul (ofInt 6) 0) (ofInt 0))) 0 := by
  obtain ⟨f6, v6⟩ := ofInt_exact (i := 6) (by decide)
  rw [Rat.intCast_ofNat] at v6
  obtain ⟨f0, l0, u0⟩ := zero_ap
  have m := mul_rnd f6 f0 (by rw [v6]; unfold Bd; grind) (by unfold Bd; grind)
  rw [v6] at m
  obtain ⟨mf, ml, mu⟩ := m.ap (M := 1) (e := 1 / 281474976710656) (by grind) (by grind) (by grind)
  obtain ⟨g0, w0⟩ := ofInt_exact (i := 0) (by decide)
  rw [Rat.intCast_zero] at w0
  have n := mul_rnd mf g0 (by unfold Bd; grind) (by rw [w0]; unfold Bd; grind)
  rw [w0, Rat.mul_zero] at n
  obtain ⟨nf, nl, nu⟩ := n.ap (M := 1) (e := 1 / 281474976710656) (by grind) (by grind) (by grind)
  exact .inr ⟨_, rfl, nf, by rw [Rat.intCast_zero]; grind, by rw [Rat.intCast_zero]; grind⟩
end Mine
end

section -- P1
open PySem PySem.W PyProof.Rows
set_option Elab.async false
set_option linter.unusedVariables false
namespace Mine
open PySem.SeqAt PySem.Calls

theorem comp_map {f : D → (D → Prop) → Prop} {g : D → D} : ∀ {items acc : List D} {Q : List D → Prop}, (∀ d ∈ items, ∀ K : D → Prop, K (g d) → f d K) → (∀ d ∈ items, (g d).lf = true) → Q (acc ++ items.map g) → compVC f (fun _ K => K true) items acc Q
  | [], acc, Q, _, _, h => by simpa [compVC] using h
  | d :: r, acc, Q, hf, hl, h => by
    show (f d fun e => e.lf = true ∧ compVC f (fun _ K => K true) r (acc ++ [e]) Q)
    refine hf d (List.mem_cons_self ..) _ ⟨hl d (List.mem_cons_self ..), ?_⟩
    refine comp_map (items := r) (fun e he => hf e (List.mem_cons_of_mem _ he)) (fun e he => hl e (List.mem_cons_of_mem _ he)) ?_
    simpa using h
noncomputable def gInt (g : Int → Int) : D → D
  | .int x => .int (g x)
  | d => d
theorem comp_ints {f : D → (D → Prop) → Prop} (g : Int → Int) {xs : List Int} {Q : List D → Prop} (hf : ∀ (x : Int) (K : D → Prop), K (.int (g x)) → f (.int x) K) (h : Q ((xs.map g).map .int)) : compVC f (fun _ K => K true) (xs.map .int) [] Q := by
  refine comp_map (g := gInt g) (fun d hd K hK => ?_) (fun d hd => ?_) ?_
  · obtain ⟨x, _, rfl⟩ := List.mem_map.mp hd; exact hf x K hK
  · obtain ⟨x, _, rfl⟩ := List.mem_map.mp hd; rfl
  · have e : List.map (gInt g) (xs.map D.int) = (xs.map g).map D.int := by rw [List.map_map, List.map_map]; rfl
    rw [List.nil_append, e]; exact h
theorem ints_map (xs : List Int) : ints? (xs.map .int) = some xs := by
  induction xs with
  | nil => rfl
  | cons x xs ih => show (ints? (xs.map .int)).map _ = _; rw [ih]; rfl
theorem ints_repr {h : Heap} : ∀ xs : List Int, RepL h (xs.map fun i => Value.int i 0) (xs.map .int)
  | [] => .nil
  | x :: xs => .cons (.int x 0) (ints_repr xs)
theorem pick_ints (xs : List Int) (lo hi st : Option Int) : ∃ ys : List Int, pick (xs.map D.int) lo hi st = ys.map D.int ∧ ys.length ≤ xs.length := by
  have e : pick (xs.map .int) lo hi st = ((sliceRange (sliceBounds lo hi st xs.length).1 (sliceBounds lo hi st xs.length).2.1 (sliceBounds lo hi st xs.length).2.2).filterMap (xs[·]?)).map .int := by
    unfold pick
    rw [List.length_map, List.map_filterMap]
    congr 1
    funext i
    rw [List.getElem?_map]
  refine ⟨_, e, ?_⟩
  have r := (pick_rep (ints_repr (h := default) xs) lo hi st).length
  rw [e, List.length_map] at r
  rw [← r]
  have := slicePick_size_le (xs.map fun i => Value.int i 0).toArray lo hi st
  simpa using this
end Mine
end

section -- P4
open PySem PySem.W PyProof.Rows
set_option Elab.async false
set_option linter.unusedVariables false
namespace Mine
open PySem.SeqAt PySem.Calls

theorem range_step {n j : Nat} {d : D} {rem : List D} (e : d :: rem = (rangeD n).drop j) : j < n ∧ d = .int j ∧ rem = (rangeD n).drop (j + 1) := by
  have len : (rangeD n).length = n := by simp [rangeD]
  have hj : j < n := by
    rcases Nat.lt_or_ge j n with h | h
    · exact h
    · rw [List.drop_eq_nil_of_le (by rw [len]; exact h)] at e; cases e
  rw [List.drop_eq_getElem_cons (by rw [len]; exact hj)] at e
  injection e with e1 e2
  exact ⟨hj, by rw [e1]; simp [rangeD], e2⟩
theorem range_end {n j : Nat} (e : ([] : List D) = (rangeD n).drop j) : n ≤ j := by
  have len : (rangeD n).length = n := by simp [rangeD]
  have := congrArg List.length e
  rw [List.length_drop, len, List.length_nil] at this
  (first | lia | omega)
noncomputable def forBody : List Stmt → Nat → List Stmt
  | .For _ _ b _ _ :: _, 0 => b
  | .For .. :: r, n + 1 => forBody r n
  | _ :: r, n => forBody r n
  | [], _ => []
noncomputable def All2 (R : D → D → Prop) : List D → List D → Prop
  | [], [] => True
  | a :: as, b :: bs => R a b ∧ All2 R as bs
  | _, _ => False
theorem fmod_bd {a m : Int} (h : 0 < m) : 0 ≤ a.fmod m ∧ a.fmod m < m := by
  rw [Int.fmod_eq_emod_of_nonneg _ (Int.le_of_lt h)]
  exact ⟨Int.emod_nonneg _ (Int.ne_of_gt h), Int.emod_lt_of_pos _ h⟩
theorem vcB_nil {C : Cx} {n : Nat} {nm : Nm} {st : St} {ow : List Str} {K Bk : Kst} {R : D → Prop} (h : K st ow) : vcB C (n + 1) nm [] st ow K Bk R := h
end Mine
end

section -- QP2
open PySem PySem.W PyProof.Rows
set_option Elab.async false
set_option linter.unusedVariables false
namespace Mine
open PySem.SeqAt PySem.Calls

theorem apB_nat {d : Int} (h0 : 0 ≤ d) (h1 : d < 16) : ((apB d).toNat : Int) = 65 + d := by
  unfold apB
  have e : ((65 + d).toNat.toUInt8).toNat = (65 + d).toNat % 256 := UInt8.toNat_ofNat'
  rw [e, Nat.mod_eq_of_lt (by (first | lia | omega))]
  (first | lia | omega)
theorem ap_items {xs : List Int} (h : ∀ x ∈ xs, 0 ≤ x ∧ x < 16) : ((xs.map apB).map fun b => D.int b.toNat) = (xs.map (65 + ·)).map D.int := by
  rw [List.map_map, List.map_map]
  refine List.map_congr_left fun x hx => ?_
  obtain ⟨h0, h1⟩ := h x hx
  show D.int ((apB x).toNat : Int) = D.int (65 + x)
  rw [apB_nat h0 h1]
theorem digs_16 (k : Nat) (a : Int) : ∀ x ∈ digs 4 k a, 0 ≤ x ∧ x < 16 := fun x hx => digs_lt 4 k a x hx
theorem ap_len (a : Int) : (apL a).length = nd a 4 := by unfold apL; rw [List.length_reverse, List.length_map, digs_length]
theorem ap_rev (a : Int) : apL a = ((digs 4 (nd a 4) a).reverse).map apB := by unfold apL; rw [List.map_reverse]
theorem nd_lt16 {a : Int} (h0 : 0 ≤ a) (k : Nat) (h : a < 2 ^ (4 * k)) : nd a 4 ≤ k := by
  refine (zero_iff h0).mp (Int.ediv_eq_zero_of_lt h0 h)

theorem eqDs_ints : ∀ xs : List Int, eqDs (xs.map .int) (xs.map .int) = true
  | [] => rfl
  | x :: xs => by show (x == x && eqDs (xs.map .int) (xs.map .int)) = true; rw [eqDs_ints xs]; simp
theorem eqOKs_ints : ∀ xs ys : List Int, eqOKs (xs.map .int) (ys.map .int) = true
  | [], _ => rfl
  | _ :: _, [] => rfl
  | x :: xs, y :: ys => by show (true && eqOKs (xs.map .int) (ys.map .int)) = true; rw [eqOKs_ints xs ys]; rfl
theorem deps_ints : ∀ xs : List Int, D.deps (xs.map .int) = 0
  | [] => rfl
  | x :: xs => by show max 0 (D.deps (xs.map .int)) = 0; rw [deps_ints xs]; rfl
end Mine
end

section -- R1
open PySem PySem.W PyProof.Rows
set_option Elab.async false
set_option linter.unusedVariables false
namespace Mine
noncomputable def un : Nat → Int × Int
  | 0 => (1, 0)
  | 1 => (0, 1)
  | 2 => (-1, 1)
  | 3 => (-1, 0)
  | 4 => (0, -1)
  | _ => (1, -1)
noncomputable def trn (p : Int × Int) (k : Nat) : Int × Int := (p.1 * (un k).1 - p.2 * (un k).2, p.1 * (un k).2 + p.2 * (un k).1 + p.2 * (un k).2)
noncomputable def odT (d : Nat) : Nat := [0, 1, 1, 0, 1, 0, 0, 1, 1, 0, 0, 1, 0, 1, 1, 0].getD d 0
noncomputable def hdT (d : Nat) : Nat := [0, 1, 5, 0, 1, 2, 0, 1, 5, 0, 4, 5, 0, 1, 5, 0].getD d 0
noncomputable def mkT (d : Nat) : Int × Int := [(0, 0), (1, 0), (1, 1), (2, 0), (3, 0), (3, 1), (2, 2), (3, 2), (3, 3), (4, 2), (5, 2), (5, 1), (6, 0), (7, 0), (7, 1), (8, 0)].getD d (0, 0)
noncomputable abbrev Rd := (Int × Int) × Nat
noncomputable def stp (s : Rd) (d : Nat) : Rd := ((9 * s.1.1 + (trn (mkT d) s.2).1, 9 * s.1.2 + (trn (mkT d) s.2).2), (s.2 + hdT d) % 6)
noncomputable def rd : Nat → Nat → Rd
  | 0, _ => ((0, 0), 0)
  | k + 1, n => stp (rd k (n / 16)) (n % 16)
noncomputable def odK : Nat → Nat → Nat
  | 0, _ => 0
  | k + 1, n => (odK k (n / 16) + odT (n % 16)) % 2
theorem rd_h : ∀ (k n : Nat), (rd k n).2 < 6
  | 0, _ => Nat.zero_lt_succ _
  | k + 1, n => Nat.mod_lt _ (by decide)
theorem odK_lt : ∀ (k n : Nat), odK k n < 2
  | 0, _ => Nat.zero_lt_succ _
  | k + 1, n => Nat.mod_lt _ (by decide)
theorem m16 (n : Nat) : n % 16 < 16 := Nat.mod_lt _ (by decide)
theorem hd_od : ∀ d < 16, hdT d = (4 * (d % 3) + 3 * odT d) % 6 := by decide +kernel
theorem head_tab : ∀ p < 3, ∀ q < 3, ∀ u < 2, ∀ v < 2, ((4 * p + 3 * u) % 6 + (4 * q + 3 * v) % 6) % 6 = (4 * ((p + q) % 3) + 3 * ((u + v) % 2)) % 6 := by decide +kernel
theorem odT_lt : ∀ d < 16, odT d < 2 := by decide +kernel
theorem rd_head : ∀ (k n : Nat), n < 16 ^ k → (rd k n).2 = (4 * (n % 3) + 3 * odK k n) % 6
  | 0, n, h => by
    have : n = 0 := by simpa using h
    subst this; rfl
  | k + 1, n, h => by
    have ih := rd_head k (n / 16) (Nat.div_lt_of_lt_mul (by rw [Nat.mul_comm, ← Nat.pow_succ]; exact h))
    have e : n % 3 = (n / 16 % 3 + n % 16 % 3) % 3 := by clear ih h; (first | lia | omega)
    show ((rd k (n / 16)).2 + hdT (n % 16)) % 6 = (4 * (n % 3) + 3 * ((odK k (n / 16) + odT (n % 16)) % 2)) % 6
    rw [ih, hd_od _ (m16 n), e]
    exact head_tab _ (Nat.mod_lt _ (by decide)) _ (Nat.mod_lt _ (by decide)) _ (odK_lt _ _) _ (odT_lt _ (m16 n))
theorem trn_add (p q : Int × Int) (k : Nat) : trn (p.1 + q.1, p.2 + q.2) k = ((trn p k).1 + (trn q k).1, (trn p k).2 + (trn q k).2) := by
  unfold trn
  refine Prod.ext ?_ ?_ <;> simp only [Int.add_mul] <;> (first | lia | omega)
theorem mk_next : ∀ h < 6, ∀ d < 15, (trn (mkT (d + 1)) h) = ((trn (mkT d) h).1 + (un ((h + hdT d) % 6)).1, (trn (mkT d) h).2 + (un ((h + hdT d) % 6)).2) := by decide +kernel
theorem mk_last : ∀ h < 6, (9 * (un h).1, 9 * (un h).2) = ((trn (mkT 15) h).1 + (un ((h + hdT 15) % 6)).1, (trn (mkT 15) h).2 + (un ((h + hdT 15) % 6)).2) := by decide +kernel
theorem mk_none : ∀ h < 6, trn (mkT 0) h = (0, 0) := by decide +kernel
noncomputable def padd (p q : Int × Int) : Int × Int := (p.1 + q.1, p.2 + q.2)
theorem stp_next {s : Rd} (h : s.2 < 6) {d : Nat} (hd : d < 15) : (stp s (d + 1)).1 = padd (stp s d).1 (un (stp s d).2) := by
  show (9 * s.1.1 + (trn (mkT (d + 1)) s.2).1, 9 * s.1.2 + (trn (mkT (d + 1)) s.2).2) = (9 * s.1.1 + (trn (mkT d) s.2).1 + (un ((s.2 + hdT d) % 6)).1, 9 * s.1.2 + (trn (mkT d) s.2).2 + (un ((s.2 + hdT d) % 6)).2)
  rw [mk_next _ h _ hd, Int.add_assoc, Int.add_assoc]
theorem stp_last {s s' : Rd} (h : s.2 < 6) (h' : s'.2 < 6) (e : s'.1 = padd s.1 (un s.2)) : (stp s' 0).1 = padd (stp s 15).1 (un (stp s 15).2) := by
  show (9 * s'.1.1 + (trn (mkT 0) s'.2).1, 9 * s'.1.2 + (trn (mkT 0) s'.2).2) = (9 * s.1.1 + (trn (mkT 15) s.2).1 + (un ((s.2 + hdT 15) % 6)).1, 9 * s.1.2 + (trn (mkT 15) s.2).2 + (un ((s.2 + hdT 15) % 6)).2)
  rw [mk_none _ h', e, Int.add_assoc, Int.add_assoc]
  obtain ⟨e1, e2⟩ := Prod.mk.inj (mk_last _ h)
  rw [← e1, ← e2]
  show (9 * (s.1.1 + (un s.2).1) + 0, 9 * (s.1.2 + (un s.2).2) + 0) = _
  rw [Int.add_zero, Int.add_zero, Int.mul_add, Int.mul_add]
theorem rd_next : ∀ (k n : Nat), n + 1 < 16 ^ k → (rd k (n + 1)).1 = padd (rd k n).1 (un (rd k n).2)
  | 0, n, h => absurd h (by simp)
  | k + 1, n, h => by
    have hh := rd_h k (n / 16)
    show (stp (rd k ((n + 1) / 16)) ((n + 1) % 16)).1 = padd (stp (rd k (n / 16)) (n % 16)).1 (un (stp (rd k (n / 16)) (n % 16)).2)
    rcases Nat.lt_or_ge (n % 16) 15 with c | c
    · have e1 : (n + 1) / 16 = n / 16 := by (first | lia | omega)
      have e2 : (n + 1) % 16 = n % 16 + 1 := by (first | lia | omega)
      rw [e1, e2]
      exact stp_next hh c
    · have e1 : (n + 1) / 16 = n / 16 + 1 := by (first | lia | omega)
      have e2 : (n + 1) % 16 = 0 := by (first | lia | omega)
      have e3 : n % 16 = 15 := by (first | lia | omega)
      rw [e1, e2, e3]
      exact stp_last hh (rd_h _ _) (rd_next k (n / 16) (by rw [Nat.pow_succ] at h; (first | lia | omega)))

noncomputable def c1T (h : Nat) : Int := [0, 0, 0, 1, 1, 1].getD h 0
noncomputable def c2T (h : Nat) : Int := [0, 1, 2, 1, 0, 0].getD h 0
noncomputable def c3T (h : Nat) : Int := [0, 0, 1, 1, 1, 0].getD h 0
noncomputable def coneB (h d : Nat) : Bool :=
  decide (c1T ((h + hdT d) % 6) ≤ 9 * c1T h + (trn (mkT d) h).2) && decide (c2T ((h + hdT d) % 6) ≤ 9 * c2T h + (trn (mkT d) h).1 - (trn (mkT d) h).2) &&
  decide (c3T ((h + hdT d) % 6) ≤ 9 * c3T h + (trn (mkT d) h).1 + (trn (mkT d) h).2) && decide ((trn (mkT d) h).1 + (trn (mkT d) h).2 ≤ 8) && decide (d = 0 ∨ c3T ((0 + hdT d) % 6) + 1 ≤ (trn (mkT d) 0).1 + (trn (mkT d) 0).2)
theorem cone_all : ∀ h < 6, ∀ d < 16, coneB h d = true := by decide +kernel
structure Cone (h d : Nat) : Prop where
  a1 : c1T ((h + hdT d) % 6) ≤ 9 * c1T h + (trn (mkT d) h).2
  a2 : c2T ((h + hdT d) % 6) ≤ 9 * c2T h + (trn (mkT d) h).1 - (trn (mkT d) h).2
  a3 : c3T ((h + hdT d) % 6) ≤ 9 * c3T h + (trn (mkT d) h).1 + (trn (mkT d) h).2
  a4 : (trn (mkT d) h).1 + (trn (mkT d) h).2 ≤ 8
  a5 : d = 0 ∨ c3T ((0 + hdT d) % 6) + 1 ≤ (trn (mkT d) 0).1 + (trn (mkT d) 0).2
theorem cone {h d : Nat} (hh : h < 6) (hd : d < 16) : Cone h d := by
  have e := cone_all h hh d hd
  unfold coneB at e
  simp only [Bool.and_eq_true, decide_eq_true_eq] at e
  obtain ⟨⟨⟨⟨a, b⟩, c⟩, d⟩, f⟩ := e
  exact ⟨a, b, c, d, f⟩
theorem c_pos : ∀ h < 6, 0 ≤ c1T h ∧ 0 ≤ c2T h ∧ 0 ≤ c3T h := by decide +kernel
structure InC (s : Rd) (k : Nat) : Prop where
  y : c1T s.2 ≤ s.1.2
  xy : c2T s.2 ≤ s.1.1 - s.1.2
  up : s.1.1 + s.1.2 < 9 ^ k
theorem rd_in : ∀ (k n : Nat), InC (rd k n) k
  | 0, _ => ⟨by show c1T 0 ≤ 0; decide, by show c2T 0 ≤ (0 - 0 : Int); decide, by show (0 + 0 : Int) < 9 ^ 0; decide⟩
  | k + 1, n => by
    obtain ⟨y, xy, up⟩ := rd_in k (n / 16)
    obtain ⟨a1, a2, _, a4, _⟩ := cone (rd_h k (n / 16)) (m16 n)
    refine ⟨?_, ?_, ?_⟩
    · show c1T (((rd k (n / 16)).2 + hdT (n % 16)) % 6) ≤ 9 * (rd k (n / 16)).1.2 + _
      (first | lia | omega)
    · show c2T (((rd k (n / 16)).2 + hdT (n % 16)) % 6) ≤ 9 * (rd k (n / 16)).1.1 + _ - (9 * (rd k (n / 16)).1.2 + _)
      (first | lia | omega)
    · show 9 * (rd k (n / 16)).1.1 + _ + (9 * (rd k (n / 16)).1.2 + _) < 9 ^ (k + 1)
      rw [Int.pow_succ]
      (first | lia | omega)
theorem rd_zero : ∀ k, rd k 0 = ((0, 0), 0)
  | 0 => rfl
  | k + 1 => by
    show stp (rd k 0) 0 = _
    rw [rd_zero k]
    decide
theorem rd_pos : ∀ (k n : Nat), n < 16 ^ k → 0 < n → c3T (rd k n).2 + 1 ≤ (rd k n).1.1 + (rd k n).1.2
  | 0, n, h, p => absurd h (by simp; (first | lia | omega))
  | k + 1, n, h, p => by
    have hl : n / 16 < 16 ^ k := Nat.div_lt_of_lt_mul (by rw [Nat.mul_comm, ← Nat.pow_succ]; exact h)
    obtain ⟨_, _, a3, _, a5⟩ := cone (rd_h k (n / 16)) (m16 n)
    show c3T (((rd k (n / 16)).2 + hdT (n % 16)) % 6) + 1 ≤ 9 * (rd k (n / 16)).1.1 + _ + (9 * (rd k (n / 16)).1.2 + _)
    rcases Nat.eq_zero_or_pos (n / 16) with z | z
    · rw [z, rd_zero]
      have d0 : n % 16 ≠ 0 := by (first | lia | omega)
      have a := a5.resolve_left d0
      show c3T ((0 + hdT (n % 16)) % 6) + 1 ≤ 9 * 0 + (trn (mkT (n % 16)) 0).1 + (9 * 0 + (trn (mkT (n % 16)) 0).2)
      (first | lia | omega)
    · have ih := rd_pos k (n / 16) hl z
      (first | lia | omega)
theorem rd_low : ∀ (j k n : Nat), n < 16 ^ k → 16 ^ j ≤ n → c3T (rd k n).2 + 9 ^ j ≤ (rd k n).1.1 + (rd k n).1.2
  | 0, k, n, h, p => rd_pos k n h p
  | j + 1, 0, n, h, p => absurd (Nat.lt_of_le_of_lt p h) (by simp)
  | j + 1, k + 1, n, h, p => by
    have hl : n / 16 < 16 ^ k := Nat.div_lt_of_lt_mul (by rw [Nat.mul_comm, ← Nat.pow_succ]; exact h)
    have pl : 16 ^ j ≤ n / 16 := (Nat.le_div_iff_mul_le (by decide)).mpr (by rw [← Nat.pow_succ]; exact p)
    have ih := rd_low j k (n / 16) hl pl
    obtain ⟨_, _, a3, _, _⟩ := cone (rd_h k (n / 16)) (m16 n)
    show c3T (((rd k (n / 16)).2 + hdT (n % 16)) % 6) + 9 ^ (j + 1) ≤ 9 * (rd k (n / 16)).1.1 + _ + (9 * (rd k (n / 16)).1.2 + _)
    rw [Int.pow_succ]
    (first | lia | omega)
theorem rd_more : ∀ (k n : Nat), n < 16 ^ k → ∀ j, rd (k + j) n = rd k n
  | 0, n, h, j => by
    have : n = 0 := by simpa using h
    rw [this, rd_zero, rd_zero]
  | k + 1, n, h, j => by
    have hl : n / 16 < 16 ^ k := Nat.div_lt_of_lt_mul (by rw [Nat.mul_comm, ← Nat.pow_succ]; exact h)
    rw [Nat.add_right_comm]
    show stp (rd (k + j) (n / 16)) (n % 16) = stp (rd k (n / 16)) (n % 16)
    rw [rd_more k _ hl]
noncomputable def fitB (H d e : Nat) : Bool :=
  let p := trn (mkT d) ((H + 6 - hdT d) % 6)
  let q := trn (mkT e) ((H + 6 - hdT e) % 6)
  decide ((p.1 - q.1) % 9 = 0 ∧ (p.2 - q.2) % 9 = 0)
theorem fit_all : ∀ H < 6, ∀ d < 16, ∀ e < 16, fitB H d e = true → d = e := by decide +kernel
theorem head_back : ∀ h < 6, ∀ d < 16, ((h + hdT d) % 6 + 6 - hdT d) % 6 = h := by decide +kernel
theorem stp_fit (s : Rd) (hs : s.2 < 6) {d e : Nat} (hd : d < 16) (he : e < 16) (h1 : ((stp s d).1.1 - (trn (mkT e) (((stp s d).2 + 6 - hdT e) % 6)).1) % 9 = 0) (h2 : ((stp s d).1.2 - (trn (mkT e) (((stp s d).2 + 6 - hdT e) % 6)).2) % 9 = 0) : d = e := by
  refine fit_all (stp s d).2 (Nat.mod_lt _ (by decide)) d hd e he ?_
  have hb : ((stp s d).2 + 6 - hdT d) % 6 = s.2 := head_back _ hs d hd
  unfold fitB
  rw [hb]
  refine decide_eq_true ⟨?_, ?_⟩
  · have h1 : (9 * s.1.1 + (trn (mkT d) s.2).1 - (trn (mkT e) (((stp s d).2 + 6 - hdT e) % 6)).1) % 9 = 0 := h1
    show ((trn (mkT d) s.2).1 - _) % 9 = 0
    (first | lia | omega)
  · have h2 : (9 * s.1.2 + (trn (mkT d) s.2).2 - (trn (mkT e) (((stp s d).2 + 6 - hdT e) % 6)).2) % 9 = 0 := h2
    show ((trn (mkT d) s.2).2 - _) % 9 = 0
    (first | lia | omega)
end Mine
end

section -- R0
open PySem PySem.W PyProof.Rows
set_option Elab.async false
set_option linter.unusedVariables false
namespace Mine
open PySem.SeqAt PySem.Calls
theorem iteP_no {b : Bool} {P Q : Prop} (h : b = false) (k : Q) : iteP b P Q := by subst h; exact k
theorem iteP_yes {b : Bool} {P Q : Prop} (h : b = true) (k : P) : iteP b P Q := by subst h; exact k
theorem vc_sub {C : Cx} {nm : Nm} {st : St} {n : Nat} {v i : Expr} {p : Pos} {Q : D → Prop} (hn : ∀ K, subsVC (fun v K => vcE C n nm v st K) v i K = (vcE C n nm v st fun c => vcE C n nm i st fun k => itemVC c k K))
    (k : vcE C n nm v st fun c => vcE C n nm i st fun k => itemVC c k Q) : vcE C (n + 1) nm (.Subscript v i p) st Q := by
  show subsVC _ v i Q
  rw [hn]
  exact k
theorem vcB_retS {C : Cx} {nm : Nm} {st : St} {ow : List Str} {n : Nat} {v i : Expr} {p p' : Pos} {K Bk : Kst} {R : D → Prop} (h : vcE C n nm (.Subscript v i p) st fun d => (d.lf || freshE (.Subscript v i p)) = true ∧ R d) :
    vcB C (n + 1) nm [.Return (some (.Subscript v i p)) p'] st ow K Bk R := h
theorem vcB_asgS {C : Cx} {nm : Nm} {st : St} {ow : List Str} {n : Nat} {v i : Expr} {p p' p'' : Pos} {ts : List Expr} {tk : Nat} {rest : List Stmt} {K Bk : Kst} {R : D → Prop}
    (h : vcE C n nm (.Subscript v i p) st fun d => tgtVC nm st ow (.Tuple ts 0 default) d fun st ow => vcB C n nm rest st ow K Bk R) :
    vcB C (n + 1) nm (.Assign [.Tuple ts tk p''] (.Subscript v i p) p' :: rest) st ow K Bk R := h
theorem vcB_asgT {C : Cx} {nm : Nm} {st : St} {ow : List Str} {n : Nat} {ts es : List Expr} {tk ek : Nat} {p p' p'' : Pos} {rest : List Stmt} {K Bk : Kst} {R : D → Prop} {xs : List Str} {sw : Option (List Str)} (h1 : namesOf ts = some xs) (h2 : swB nm ts es = some sw) (h3 : (asgOK nm xs && noStar es) = true)
    (k : argsVC (es.map fun v K => vcE C n nm v st K) fun ds => (allStor es ds && ds.length == xs.length) = true ∧ ds.length ≤ 100 ∧ vcB C n nm rest (stAll (if sw.isSome then (xs.zip ds).reverse else xs.zip ds) st) (ownAll (if sw.isSome then (xs.zip ds).reverse else xs.zip ds) ow) K Bk R) :
    vcB C (n + 1) nm (.Assign [.Tuple ts tk p''] (.Tuple es ek p) p' :: rest) st ow K Bk R := by
  show dispVC nm st ow (fun v K => vcE C n nm v st K) ts es fun st ow => vcB C n nm rest st ow K Bk R
  unfold dispVC
  rw [h1]
  simp only [h2, h3]
  exact k
theorem args4 {ev : Expr → (D → Prop) → Prop} {a b c d : Expr} {K : List D → Prop} (h : ev a fun w => ev b fun x => ev c fun y => ev d fun z => K [w, x, y, z]) : argsVC ([a, b, c, d].map ev) K := h
theorem args3 {ev : Expr → (D → Prop) → Prop} {a b c : Expr} {K : List D → Prop} (h : ev a fun w => ev b fun x => ev c fun y => K [w, x, y]) : argsVC ([a, b, c].map ev) K := h
theorem args2 {ev : Expr → (D → Prop) → Prop} {a b : Expr} {K : List D → Prop} (h : ev a fun w => ev b fun x => K [w, x]) : argsVC ([a, b].map ev) K := h
noncomputable def subV (e : Expr) : Expr := match e with
  | .Subscript v _ _ => v
  | _ => default
noncomputable def subI (e : Expr) : Expr := match e with
  | .Subscript _ i _ => i
  | _ => default
noncomputable def retX (s : Stmt) : Expr := match s with
  | .Return e _ => e.getD default
  | _ => default
noncomputable def asgX (s : Stmt) : Expr := match s with
  | .Assign _ e _ => e
  | _ => default
end Mine
end

section -- R2
open PySem PySem.W PyProof.Rows
set_option Elab.async false
set_option linter.unusedVariables false
namespace Mine
open PySem.SeqAt PySem.Calls
noncomputable abbrev Col : Type := Int × Int × Int
noncomputable def cD (c : Col) : D := .tup [.int c.1, .int c.2.1, .int c.2.2]
noncomputable def cor : Nat → Col
  | 0 => (1, 0, 0)
  | 1 => (1, 1, 0)
  | 2 => (0, 1, 0)
  | 3 => (0, 1, 1)
  | 4 => (0, 0, 1)
  | _ => (1, 0, 1)
noncomputable def cx0 : Cx := { gl := [] }
noncomputable def spCor : Spec := fun ds Q => ∃ (k : Int) (j : Nat), ds = [.int k] ∧ j < 6 ∧ k.fmod 6 = j ∧ Q (cD (cor j))
noncomputable def small (x : Int) : Prop := x.natAbs < 2 ^ 60
noncomputable def spTrn : Spec := fun ds Q => ∃ (x y k : Int) (j : Nat), ds = [.int x, .int y, .int k] ∧ j < 6 ∧ k.fmod 6 = j ∧ Q (.tup [.int (trn (x, y) j).1, .int (trn (x, y) j).2])
noncomputable def tot (n h t : Int) : Int := n + (if t % 2 = 0 then n / 2 + n % 2 * (1 - h % 2) else n - (n / 2 + n % 2 * (1 - h % 2)))
noncomputable def spTot : Spec := fun ds Q => ∃ n h t : Int, ds = [.int n, .int h, .int t] ∧ Q (.int (tot n h t))
section
variable {prog : Program} {w : World} {bs : Heap} {l : List Tb} {pm : Nat → Value} {B : Heap} {mg mb : Str → Option Value}
theorem ok_cor (X : Lib pm B) (L : B.NoLimit) : FnOK (tbI bs l) B 84 (fdOf 14 (pm 14) (.ref 83)) (bdOf 14) (nmOf 14) [S "k"] :=
  fn_ok (X (14, 84) (by decide)) L (arity1 fun a => rfl) rfl
theorem cor_at {j : Nat} (hj : j < 6) {Q : D → Prop} (h : Q (cD (cor j))) : itemVC (.list [cD (cor 0), cD (cor 1), cD (cor 2), cD (cor 3), cD (cor 4), cD (cor 5)]) (.int (j : Int)) Q := by
  rcases lt6 j hj with rfl | rfl | rfl | rfl | rfl | rfl
  all_goals exact ⟨idx_ok rfl, h⟩
noncomputable def eCor : Expr := retX ((bdOf 14).headD default)
theorem b_cor : ∃ p p', bdOf 14 = [.Return (some (.Subscript (subV eCor) (subI eCor) p)) p'] := ⟨_, _, rfl⟩
theorem l_cor {k : Int} {K : D → Prop} (h : K (.list [cD (cor 0), cD (cor 1), cD (cor 2), cD (cor 3), cD (cor 4), cD (cor 5)])) : vcE cx0 38 (nmOf 14) (subV eCor) [(S "k", .int k)] K := by
  iterate 14 (first
      | (refine And.intro (by exact Nat.le_of_ble_eq_true rfl) ?_)
      | (conv => whnf))
  exact h
theorem good_cor (X : Lib pm B) (L : B.NoLimit) {k : Nat} (H : CGood prog w (tbI bs l) B mg mb cx0 k) : GoodF prog w (tbI bs l) B (k + 1) 84 spCor := by
  refine goodF_of (ok_cor X L) (stm_plain H rfl 40) fun ds Q q => ?_
  obtain ⟨k, j, rfl, hj, hk, hQ⟩ := q
  refine ⟨rfl, rfl, ?_⟩
  obtain ⟨p, p', e⟩ := b_cor
  rw [e]
  refine vcB_retS ?_
  refine vc_sub (fun K => rfl) (l_cor ?_)
  conv => whnf
  refine ⟨by decide, ?_⟩
  rw [hk]
  exact cor_at hj ⟨rfl, hQ⟩
theorem ok_trn (X : Lib pm B) (L : B.NoLimit) : FnOK (tbI bs l) B 103 (fdOf 17 (pm 17) (.ref 102)) (bdOf 17) (nmOf 17) [S "x", S "y", S "k"] :=
  fn_ok (X (17, 103) (by decide)) L (arity3 fun a b c => rfl) rfl
noncomputable def unD (j : Nat) : D := .tup [.int (un j).1, .int (un j).2]
theorem un_at {j : Nat} (hj : j < 6) {Q : D → Prop} (h : Q (unD j)) : itemVC (.list [unD 0, unD 1, unD 2, unD 3, unD 4, unD 5]) (.int (j : Int)) Q := by
  rcases lt6 j hj with rfl | rfl | rfl | rfl | rfl | rfl
  all_goals exact ⟨idx_ok rfl, h⟩
noncomputable def eTrn : Expr := asgX ((bdOf 17).headD default)
noncomputable def tupX (e : Expr) : List Expr := match e with
  | .Tuple ts _ _ => ts
  | _ => []
noncomputable def tgtX (s : Stmt) : Expr := match s with
  | .Assign ts _ _ => ts.headD default
  | _ => default
theorem b_trn : ∃ k p p' p'', bdOf 17 = .Assign [.Tuple (tupX (tgtX ((bdOf 17).headD default))) k p''] (.Subscript (subV eTrn) (subI eTrn) p) p' :: (bdOf 17).drop 1 := ⟨_, _, _, _, rfl⟩
theorem l_trn {x y k : Int} {K : D → Prop} (h : K (.list [unD 0, unD 1, unD 2, unD 3, unD 4, unD 5])) : vcE cx0 38 (nmOf 17) (subV eTrn) [(S "k", .int k), (S "y", .int y), (S "x", .int x)] K := by
  iterate 14 (first
      | (refine And.intro (by exact Nat.le_of_ble_eq_true rfl) ?_)
      | (conv => whnf))
  exact h
theorem trn_vc {j : Nat} {x y k : Int} (hj : j < 6) (hk : k.fmod 6 = j) {Q Q' : D → Prop} {B' : Kst} (hQ : Q (.tup [.int (trn (x, y) j).1, .int (trn (x, y) j).2])) :
    vcB cx0 39 (nmOf 17) ((bdOf 17).drop 1) [(S "v", .int (un j).2), (S "u", .int (un j).1), (S "k", .int k), (S "y", .int y), (S "x", .int x)] [] (fun _ _ => Q' .none) B' Q := by
  have b : ∀ j < 6, (un j).1.natAbs < 18446744073709551616 ∧ (un j).2.natAbs < 18446744073709551616 := by decide +kernel
  obtain ⟨b1, b2⟩ := b j hj
  iterate 20 (first
      | (refine And.intro (by first | exact rfl | exact .inr b1 | exact .inr b2 | exact Nat.le_of_ble_eq_true rfl) ?_)
      | (conv => whnf))
  exact hQ
theorem good_trn (X : Lib pm B) (L : B.NoLimit) {k : Nat} (H : CGood prog w (tbI bs l) B mg mb cx0 k) : GoodF prog w (tbI bs l) B (k + 1) 103 spTrn := by
  refine goodF_of (ok_trn X L) (stm_plain H rfl 40) fun ds Q q => ?_
  obtain ⟨x, y, k, j, rfl, hj, hk, hQ⟩ := q
  refine ⟨rfl, rfl, ?_⟩
  obtain ⟨kk, p, p', p'', e⟩ := b_trn
  rw [e]
  refine vcB_asgS ?_
  refine vc_sub (fun K => rfl) (l_trn ?_)
  conv => whnf
  refine ⟨by decide, ?_⟩
  rw [hk]
  refine un_at hj ?_
  exact ⟨rfl, rfl, trn_vc hj hk hQ⟩
theorem ok_tot (X : Lib pm B) (L : B.NoLimit) : FnOK (tbI bs l) B 122 (fdOf 20 (pm 20) (.ref 121)) (bdOf 20) (nmOf 20) [S "n", S "head", S "turn"] :=
  fn_ok (X (20, 122) (by decide)) L (arity3 fun a b c => rfl) rfl
theorem good_tot (X : Lib pm B) (L : B.NoLimit) {k : Nat} (H : CGood prog w (tbI bs l) B mg mb cx0 k) : GoodF prog w (tbI bs l) B (k + 1) 122 spTot := by
  refine goodF_of (ok_tot X L) (stm_plain H rfl 40) fun ds Q q => ?_
  obtain ⟨n, h, t, rfl, hQ⟩ := q
  refine ⟨rfl, rfl, ?_⟩
  have s2 : sm 2 := sm40 (by decide)
  have m0 : ∀ x : Int, x.fmod 2 = x % 2 := fun x => Int.fmod_eq_emod_of_nonneg _ (by decide)
  have d0 : ∀ x : Int, x.fdiv 2 = x / 2 := fun x => Int.fdiv_eq_ediv_of_nonneg _ (by decide)
  have b1 : (n.fmod 2).natAbs < 18446744073709551616 := by rw [m0]; (first | lia | omega)
  iterate 20 (first
      | (refine And.intro (by first | exact rfl | exact s2 | exact .inl b1 | exact (by decide) | exact Nat.le_of_ble_eq_true rfl) ?_)
      | (conv => whnf))
  have h2 : t.fmod 2 = 0 ∨ t.fmod 2 = 1 := by rw [m0]; exact Int.emod_two_eq t
  unfold tot at hQ
  rw [← m0, ← m0 n, ← m0 h, ← d0] at hQ
  rcases h2 with e | e
  · rw [e] at hQ ⊢
    refine ⟨idx_ok rfl, ?_⟩
    conv => whnf
    exact ⟨rfl, hQ⟩
  · rw [e] at hQ ⊢
    refine ⟨idx_ok rfl, ?_⟩
    conv => whnf
    exact ⟨rfl, hQ⟩
end
end Mine
end

section -- R3
open PySem PySem.W PyProof.Rows
set_option Elab.async false
set_option linter.unusedVariables false
namespace Mine
open PySem.SeqAt PySem.Calls PySem.Float64
noncomputable def spHsv1 : Spec := fun ds Q => spHsv ds Q ∨ (∃ h v, ds = [.flt h, .int 0, .int v] ∧ Q (.tup [.int v, .int v, .int v])) ∨
  ∃ (h : UInt64) (k : Nat), ds = [.flt h, .int 1, .int 1] ∧ TurnOK h (k : Rat) ∧ k ≤ 30 ∧ ∀ d1 d2 d3, NearI d1 (cor (k % 6)).1 → NearI d2 (cor (k % 6)).2.1 → NearI d3 (cor (k % 6)).2.2 → Q (.tup [d1, d2, d3])
theorem cor_d : ∀ k < 6, (1 : Rat) - 1 * 1 * dR k 0 = ((cor k).1 : Rat) ∧ (1 : Rat) - 1 * 1 * dG k 0 = ((cor k).2.1 : Rat) ∧ (1 : Rat) - 1 * 1 * dB k 0 = ((cor k).2.2 : Rat) := by
  intro k hk
  rcases lt6 k hk with rfl | rfl | rfl | rfl | rfl | rfl <;> decide +kernel
theorem one_ap : Ap (ofInt 1) 1 (1 / 1125899906842624) := by
  obtain ⟨f1, v1⟩ := ofInt_exact (i := 1) (by decide)
  rw [Rat.intCast_one] at v1
  exact ⟨f1, by rw [v1]; grind, by rw [v1]; grind⟩
section
variable {prog : Program} {w : World} {bs : Heap} {l : List Tb} {pm : Nat → Value} {B : Heap} {mg mb : Str → Option Value}
theorem hsv_one {h : UInt64} {k : Nat} {Q : D → Prop} (hh : TurnOK h (k : Rat)) (hk : k ≤ 30) (hQ : ∀ d1 d2 d3, NearI d1 (cor (k % 6)).1 → NearI d2 (cor (k % 6)).2.1 → NearI d3 (cor (k % 6)).2.2 → Q (.tup [d1, d2, d3])) :
    vcB cxInt 40 (nmOf 10) (bdOf 10) [(S "v", .int 1), (S "s", .int 1), (S "h", .flt h)] [] (fun _ _ => Q .none) (fun _ _ => False) Q := by
  have s1 : sm 1 := sm40 (by decide)
  obtain ⟨n, e, fx, n40, d1, d2, d3, eo, h1, h2, h3⟩ := hsv_float (F := 0) (S := 1) (v := 1) (by rw [Rat.add_zero]; exact hh) hk (by decide) (by decide) one_ap (by decide) (by decide) (by decide) (by decide)
  obtain ⟨c1, c2, c3⟩ := cor_d (k % 6) (Nat.mod_lt _ (by decide))
  rw [Rat.intCast_one] at h1 h2 h3
  have hq := hQ d1 d2 d3 (h1.int c1) (h2.int c2) (h3.int c3)
  clear hQ h1 h2 h3 c1 c2 c3
  conv => whnf
  refine ⟨rfl, Nat.le_of_ble_eq_true rfl, ?_⟩
  rw [show eqD (.int 1) (.flt 0) = false by decide +kernel]
  conv => whnf
  refine ⟨fx, ?_⟩
  conv => whnf
  refine ⟨rfl, ?_⟩
  conv => whnf
  rw [e]
  refine ⟨sm40 (nat60 n40), ?_⟩
  iterate 12 ((conv => whnf); refine And.intro (by first | exact s1 | exact rfl | exact (by decide : (6 : Int) ≠ 0)) ?_)
  exact hsv_tail eo hq
theorem hsv_grey {h : UInt64} {v : Int} {Q : D → Prop} (hQ : Q (.tup [.int v, .int v, .int v])) :
    vcB cxInt 40 (nmOf 10) (bdOf 10) [(S "v", .int v), (S "s", .int 0), (S "h", .flt h)] [] (fun _ _ => Q .none) (fun _ _ => False) Q := by
  conv => whnf
  refine ⟨rfl, Nat.le_of_ble_eq_true rfl, ?_⟩
  rw [show eqD (.int 0) (.flt 0) = true by decide +kernel]
  conv => whnf
  refine ⟨Nat.le_of_ble_eq_true rfl, ?_⟩
  conv => whnf
  exact ⟨rfl, hQ⟩
theorem good_hsv1 (X : Lib pm B) (L : B.NoLimit) {k : Nat} (H : CGood prog w (tbI bs l) B mg mb cxInt k) : GoodF prog w (tbI bs l) B (k + 1) 70 spHsv1 := by
  refine goodF_of (ok_hsv X L) (stm_plain H rfl 40) fun ds Q q => ?_
  rcases q with q | ⟨h, v, rfl, hQ⟩ | ⟨h, k, rfl, hh, hk, hQ⟩
  · exact hsv_vc q
  · exact ⟨rfl, rfl, hsv_grey hQ⟩
  · exact ⟨rfl, rfl, hsv_one hh hk hQ⟩
end
end Mine
end

section -- R4
open PySem PySem.W PyProof.Rows
set_option Elab.async false
set_option linter.unusedVariables false
namespace Mine
open PySem.SeqAt PySem.Calls PySem.Float64

noncomputable def dI : Nat → Int → Int → Int × Int × Int
  | 0, D, t => (0, D - t, D)
  | 1, D, t => (t, 0, D)
  | 2, D, t => (D, 0, D - t)
  | 3, D, t => (D, t, 0)
  | 4, D, t => (D - t, D, 0)
  | _, D, t => (0, D, t)
theorem ratI {x y : Int} (h : (x : Rat) = (y : Rat)) : x = y := by exact_mod_cast h
theorem t_of {D t : Int} {F : Rat} (d0 : 0 < D) (F0 : 0 ≤ F) (F1 : F ≤ 1) (e : (D : Rat) * F = (t : Rat)) : 0 ≤ t ∧ t ≤ D ∧ (F < 1 → t < D) := by
  have dp : (0 : Rat) < (D : Rat) := by exact_mod_cast d0
  have l := Rat.mul_le_mul_of_nonneg_left F0 (Rat.le_of_lt dp)
  have u := Rat.mul_le_mul_of_nonneg_left F1 (Rat.le_of_lt dp)
  rw [e] at l u
  rw [Rat.mul_zero] at l
  rw [Rat.mul_one] at u
  refine ⟨by exact_mod_cast l, by exact_mod_cast u, fun h => ?_⟩
  have v := Rat.mul_lt_mul_of_pos_left h dp
  rw [e, Rat.mul_one] at v
  exact_mod_cast v
structure PlaceI (r g b M D : Int) (k : Nat) (t : Int) : Prop where
  k6 : k < 6
  t0 : 0 ≤ t
  t1 : t ≤ D
  k5 : k = 5 → t < D
  e : (M - r, M - g, M - b) = dI k D t
theorem flipI {D c : Int} {F : Rat} (e : (D : Rat) * (1 - F) = ((c : Int) : Rat)) : (D : Rat) * F = ((D - c : Int) : Rat) := by push_cast; grind
theorem oneI {D c : Int} (e : (D : Rat) * 1 = ((c : Int) : Rat)) : c = D := ratI (by rw [Rat.mul_one] at e; exact e.symm)
theorem zeroI {D c : Int} (e : (D : Rat) * 0 = ((c : Int) : Rat)) : c = 0 := ratI (by rw [Rat.mul_zero] at e; rw [← e]; rfl)
theorem ddI (D c : Int) : D - (D - c) = c := by (first | lia | omega)
theorem mkI {r g b M D : Int} {k : Nat} {F : Rat} {t : Int} (d0 : 0 < D) (F0 : 0 ≤ F) (F1 : F ≤ 1) (k6 : k < 6) (k5 : k = 5 → F < 1) (e : (D : Rat) * F = (t : Rat)) (h : (M - r, M - g, M - b) = dI k D t) : ∃ t : Int, (D : Rat) * F = (t : Rat) ∧ PlaceI r g b M D k t :=
  ⟨t, e, k6, (t_of d0 F0 F1 e).1, (t_of d0 F0 F1 e).2.1, fun q => (t_of d0 F0 F1 e).2.2 (k5 q), h⟩
theorem place_of {r g b M D : Int} {hx : UInt64} {k : Nat} {F : Rat} (h : HsvH r g b M D hx k F) (d0 : 0 < D) : ∃ t : Int, (D : Rat) * F = (t : Rat) ∧ PlaceI r g b M D k t := by
  obtain ⟨k6, F0, F1, er, eg, eb, _, k5⟩ := h
  rcases lt6 k k6 with rfl | rfl | rfl | rfl | rfl | rfl
  · exact mkI d0 F0 F1 k6 k5 (flipI eg) (by show _ = (_, _, _); rw [zeroI er, oneI eb, ddI])
  · exact mkI d0 F0 F1 k6 k5 er (by show _ = (_, _, _); rw [zeroI eg, oneI eb])
  · exact mkI d0 F0 F1 k6 k5 (flipI eb) (by show _ = (_, _, _); rw [zeroI eg, oneI er, ddI])
  · exact mkI d0 F0 F1 k6 k5 eg (by show _ = (_, _, _); rw [zeroI eb, oneI er])
  · exact mkI d0 F0 F1 k6 k5 (flipI er) (by show _ = (_, _, _); rw [zeroI eb, oneI eg, ddI])
  · exact mkI d0 F0 F1 k6 k5 eb (by show _ = (_, _, _); rw [zeroI er, oneI eg])

noncomputable def spTold : Spec := fun ds Q => ∃ r g b : Int, ds = [.tup [.int r, .int g, .int b]] ∧ (0 ≤ r ∧ 0 ≤ g ∧ 0 ≤ b ∧ r ≤ 68719476736 ∧ g ≤ 68719476736 ∧ b ≤ 68719476736) ∧
  (min3 r g b = max3 r g b → Q (.tup [.int (max3 r g b), .int 0, .int 0, .bool true, .flt 0])) ∧
  (min3 r g b ≠ max3 r g b → ∀ k t hx F, PlaceI r g b (max3 r g b) (max3 r g b - min3 r g b) k t → ((max3 r g b - min3 r g b : Int) : Rat) * F = (t : Rat) → HueOK hx ((k : Rat) + F) →
    Q (.tup [.int (max3 r g b), .int (max3 r g b - min3 r g b), .int (k * (max3 r g b - min3 r g b) + t), .bool true, .flt hx]))
theorem turn_same {hx : UInt64} {H : Rat} (h : HueOK hx H) : TurnOK hx H := by
  obtain ⟨f, z, l, u⟩ := h
  exact ⟨f, z, by grind, by grind⟩
noncomputable def cxTold : Cx := { gl := [(S "rgb_to_hsv", .fn 63 spRgb), (S "tuple", .bi .tuple), (S "_law_near", .fn 91 spNear), (S "hsv_to_rgb", .fn 70 spHsv1)] }
noncomputable def told1 : List Stmt := (bdOf 16).drop 1
theorem told_grey {M : Int} {Q : D → Prop} (M0 : 0 ≤ M) (M1 : M ≤ 68719476736) (hQ : Q (.tup [.int M, .int 0, .int 0, .bool true, .flt 0])) :
    [D.flt 0, D.flt 0, D.int M].length = 3 ∧ D.lfs [D.flt 0, D.flt 0, D.int M] = true ∧
    vcB cxTold 39 (nmOf 16) told1 [(S "value", .int M), (S "share", .flt 0), (S "hue", .flt 0), (S "parts", .tup [.int M, .int M, .int M])] [] (fun _ _ => Q .none) (fun _ _ => False) Q := by
  have w1 := Int.le_trans M1 (show (68719476736 : Int) ≤ 1099511627776 by decide)
  refine ⟨rfl, rfl, ?_⟩
  have sv : sm M := sm40 (pt60 M0 (Int.le_trans M1 (by decide)))
  conv => whnf
  refine ⟨sv, ?_⟩
  conv => whnf
  refine ⟨_, 0, rfl, zero_times M0 M1, by decide, by decide, ?_⟩
  conv => whnf
  refine ⟨rfl, ?_⟩
  conv => whnf
  refine ⟨rfl, ?_⟩
  conv => whnf
  refine .inl (.inl ⟨_, _, rfl, ?_⟩)
  conv => whnf
  refine ⟨Nat.le_of_ble_eq_true rfl, ?_⟩
  conv => whnf
  refine ⟨_, M, rfl, .inl rfl, M0, w1, ?_⟩
  conv => whnf
  refine ⟨rfl, ?_⟩
  conv => whnf
  refine ⟨_, M, rfl, .inl rfl, M0, w1, ?_⟩
  conv => whnf
  refine ⟨rfl, ?_⟩
  conv => whnf
  refine ⟨_, M, rfl, .inl rfl, M0, w1, ?_⟩
  conv => whnf
  refine ⟨rfl, ?_⟩
  conv => whnf
  refine ⟨Nat.le_of_ble_eq_true rfl, ?_⟩
  conv => whnf
  refine ⟨rfl, ?_⟩
  conv => whnf
  refine ⟨sm40 (by decide), ?_⟩
  conv => whnf
  refine ⟨sm40 (by decide), ?_⟩
  conv => whnf
  refine ⟨_, 0, rfl, zero_place, by decide, by decide, ?_⟩
  conv => whnf
  refine ⟨rfl, Nat.le_of_ble_eq_true rfl, ?_⟩
  have e : eqD (.tup [.int M, .int M, .int M]) (.tup [.int M, .int M, .int M]) = true := eqDs_ints [M, M, M]
  conv => whnf
  refine ⟨Nat.le_of_ble_eq_true rfl, rfl, ?_⟩
  change Q (.tup [.int M, .int 0, .int 0, .bool (eqD (.tup [.int M, .int M, .int M]) (.tup [.int M, .int M, .int M])), .flt 0])
  rw [e]
  exact hQ
theorem told_coloured {r g b M m : Int} {hx sx : UInt64} {k : Nat} {F : Rat} {Q : D → Prop} (M0 : 0 ≤ M) (M1 : M ≤ 68719476736) (m0 : 0 ≤ m) (hl : m < M) (z1 : 0 ≤ r) (z2 : 0 ≤ g) (z3 : 0 ≤ b) (z4 : r ≤ 68719476736) (z5 : g ≤ 68719476736) (z6 : b ≤ 68719476736)
    (HH : HsvH r g b M (M - m) hx k F) (SH : ShareOK sx M m) (hQ : ∀ k t hx F, PlaceI r g b M (M - m) k t → ((M - m : Int) : Rat) * F = (t : Rat) → HueOK hx ((k : Rat) + F) → Q (.tup [.int M, .int (M - m), .int (k * (M - m) + t), .bool true, .flt hx])) :
    [D.flt hx, D.flt sx, D.int M].length = 3 ∧ D.lfs [D.flt hx, D.flt sx, D.int M] = true ∧
    vcB cxTold 39 (nmOf 16) told1 [(S "value", .int M), (S "share", .flt sx), (S "hue", .flt hx), (S "parts", .tup [.int r, .int g, .int b])] [] (fun _ _ => Q .none) (fun _ _ => False) Q := by
  refine ⟨rfl, rfl, ?_⟩
  have n40 : ∀ {v : Int}, 0 ≤ v → v ≤ 68719476736 → v ≤ 1099511627776 := fun _ h => Int.le_trans h (by decide)
  have d0 : 0 < M - m := Int.sub_pos_of_lt hl
  have D1 : M - m ≤ 68719476736 := Int.le_trans (Int.sub_le_self M m0) M1
  obtain ⟨t, et, P⟩ := place_of HH d0
  obtain ⟨k6, F0, F1, er, eg, eb, hue, _⟩ := HH
  have hq := hQ k t hx F P et hue
  have sh := share_near SH M0 M1
  obtain ⟨q, q1, q2, q3, q4, q5⟩ := SH
  have k0 : (0 : Rat) ≤ (k : Rat) := Rat.natCast_nonneg
  have k5 : (k : Rat) ≤ 5 := by
    have : ((k : Nat) : Rat) ≤ ((5 : Nat) : Rat) := Rat.natCast_le_natCast.mpr (Nat.le_of_lt_succ k6)
    simpa using this
  have H0 : (0 : Rat) ≤ k + F := by grind
  have H1 : (k : Rat) + F ≤ 6 := by grind
  have PN := place_near (p := k * (M - m) + t) hue H0 H1 (Int.le_of_lt d0) D1 (by rw [Rat.mul_add, et]; push_cast; grind)
  have p0 : 0 ≤ (k : Int) * (M - m) + t := Int.add_nonneg (Int.mul_nonneg (Int.natCast_nonneg k) (Int.le_of_lt d0)) P.t0
  have p1 : (k : Int) * (M - m) + t ≤ 1099511627776 := by
    have h5 : (k : Int) ≤ 5 := Int.ofNat_le.mpr (Nat.le_of_lt_succ k6)
    have := Int.mul_le_mul h5 D1 (Int.le_of_lt d0) (by decide)
    have t1 := P.t1
    clear hq hQ P PN
    (first | lia | omega)
  have sv : sm M := sm40 (pt60 M0 (Int.le_trans M1 (by decide)))
  conv => whnf
  refine ⟨sv, ?_⟩
  conv => whnf
  refine ⟨_, M - m, rfl, sh, Int.le_of_lt d0, n40 (Int.le_of_lt d0) D1, ?_⟩
  conv => whnf
  refine ⟨rfl, ?_⟩
  conv => whnf
  refine ⟨rfl, ?_⟩
  conv => whnf
  refine .inl (.inr ⟨_, _, M, k, F, q, rfl, turn_same hue, Nat.le_trans (Nat.le_of_lt k6) (by decide), F0, F1, q4, q5, q2, q3, M0, M1, fun d1 d2 d3 n1 n2 n3 => ?_⟩)
  rw [Nat.mod_eq_of_lt k6] at n1 n2 n3
  have n1 := n1.int (part_back q1 er)
  have n2 := n2.int (part_back q1 eg)
  have n3 := n3.int (part_back q1 eb)
  conv => whnf
  refine ⟨Nat.le_of_ble_eq_true rfl, ?_⟩
  conv => whnf
  refine ⟨_, r, rfl, n1, z1, n40 z1 z4, ?_⟩
  conv => whnf
  refine ⟨rfl, ?_⟩
  conv => whnf
  refine ⟨_, g, rfl, n2, z2, n40 z2 z5, ?_⟩
  conv => whnf
  refine ⟨rfl, ?_⟩
  conv => whnf
  refine ⟨_, b, rfl, n3, z3, n40 z3 z6, ?_⟩
  conv => whnf
  refine ⟨rfl, ?_⟩
  conv => whnf
  refine ⟨Nat.le_of_ble_eq_true rfl, ?_⟩
  conv => whnf
  refine ⟨rfl, ?_⟩
  conv => whnf
  refine ⟨sm40 (by decide), ?_⟩
  conv => whnf
  refine ⟨sm40 (pt60 (Int.le_of_lt d0) (Int.le_trans D1 (by decide))), ?_⟩
  conv => whnf
  refine ⟨_, _, rfl, PN, p0, p1, ?_⟩
  conv => whnf
  refine ⟨rfl, Nat.le_of_ble_eq_true rfl, ?_⟩
  have e : eqD (.tup [.int r, .int g, .int b]) (.tup [.int r, .int g, .int b]) = true := eqDs_ints [r, g, b]
  conv => whnf
  refine ⟨Nat.le_of_ble_eq_true rfl, rfl, ?_⟩
  change Q (.tup [_, _, _, .bool (eqD (.tup [.int r, .int g, .int b]) (.tup [.int r, .int g, .int b])), _])
  rw [e]
  exact hq
section
variable {prog : Program} {w : World} {bs : Heap} {l : List Tb} {pm : Nat → Value} {B : Heap} {mg mb : Str → Option Value}
theorem ok_told (X : Lib pm B) (L : B.NoLimit) : FnOK (tbI bs l) B 96 (fdOf 16 (pm 16) (.ref 95)) (bdOf 16) (nmOf 16) [S "parts"] :=
  fn_ok (X (16, 96) (by decide)) L (arity1 fun a => rfl) rfl
theorem good_told (X : Lib pm B) (L : B.NoLimit) {k : Nat} (H : CGood prog w (tbI bs l) B mg mb cxTold k) : GoodF prog w (tbI bs l) B (k + 1) 96 spTold := by
  refine goodF_of (ok_told X L) (stm_plain H rfl 40) fun ds Q q => ?_
  obtain ⟨r, g, b, rfl, ⟨z1, z2, z3, z4, z5, z6⟩, hG, hQ⟩ := q
  refine ⟨rfl, rfl, ?_⟩
  have w4 := Int.le_trans z4 (show (68719476736 : Int) ≤ 1099511627776 by decide)
  have w5 := Int.le_trans z5 (show (68719476736 : Int) ≤ 1099511627776 by decide)
  have w6 := Int.le_trans z6 (show (68719476736 : Int) ≤ 1099511627776 by decide)
  conv => whnf
  refine ⟨idx_ok rfl, ?_⟩
  conv => whnf
  refine ⟨idx_ok rfl, ?_⟩
  conv => whnf
  refine ⟨idx_ok rfl, ?_⟩
  conv => whnf
  refine ⟨r, g, b, rfl, ⟨z1, z2, z3, w4, w5, w6⟩, ?_, ?_⟩
  · intro hg
    have hG := hG hg
    obtain ⟨x1, x2, x3, x4⟩ := max3_spec r g b
    obtain ⟨y1, y2, y3, y4⟩ := min3_spec r g b
    have er : r = max3 r g b := Int.le_antisymm x1 (hg ▸ y1)
    have eg : g = max3 r g b := Int.le_antisymm x2 (hg ▸ y2)
    have eb : b = max3 r g b := Int.le_antisymm x3 (hg ▸ y3)
    rw [← er] at hG ⊢
    have eg : g = r := eg.trans er.symm
    have eb : b = r := eb.trans er.symm
    clear hQ
    subst eg eb
    exact told_grey z1 z4 hG
  · intro hg hx sx k F HH SH
    obtain ⟨x1, x2, x3, x4⟩ := max3_spec r g b
    obtain ⟨y1, y2, y3, y4⟩ := min3_spec r g b
    have M0 : 0 ≤ max3 r g b := Int.le_trans z1 x1
    have M1 : max3 r g b ≤ 68719476736 := x4.elim (fun e => e ▸ z4) fun e => e.elim (fun e => e ▸ z5) fun e => e ▸ z6
    have m0 : 0 ≤ min3 r g b := y4.elim (fun e => e ▸ z1) fun e => e.elim (fun e => e ▸ z2) fun e => e ▸ z3
    have hl : min3 r g b < max3 r g b := Std.lt_of_le_of_ne (Int.le_trans y1 x1) hg
    exact told_coloured (M := max3 r g b) (m := min3 r g b) M0 M1 m0 hl z1 z2 z3 z4 z5 z6 HH SH (hQ hg)
end
end Mine
end

section -- R5
open PySem PySem.W PyProof.Rows
set_option Elab.async false
set_option linter.unusedVariables false
namespace Mine
noncomputable def dgN : Nat → Nat → List Nat
  | 0, _ => []
  | k + 1, n => n % 16 :: dgN k (n / 16)
theorem digs_nat : ∀ k n : Nat, digs 4 k (n : Int) = (dgN k n).map fun d : Nat => (d : Int)
  | 0, _ => rfl
  | k + 1, n => by
    have e1 : (n : Int) % 2 ^ 4 = ((n % 16 : Nat) : Int) := by (first | lia | omega)
    have e2 : (n : Int) / 2 ^ 4 = ((n / 16 : Nat) : Int) := by (first | lia | omega)
    show (n : Int) % 2 ^ 4 :: digs 4 k ((n : Int) / 2 ^ 4) = _
    rw [e1, e2, digs_nat k]
    rfl
theorem dgN_lt : ∀ (k n d : Nat), d ∈ dgN k n → d < 16
  | 0, _, _, h => by cases h
  | k + 1, n, d, h => by
    rcases List.mem_cons.mp h with rfl | h
    · exact m16 n
    · exact dgN_lt k _ d h
theorem dgN_len : ∀ k n : Nat, (dgN k n).length = k
  | 0, _ => rfl
  | k + 1, n => congrArg Nat.succ (dgN_len k _)
theorem rd_dg : ∀ k n : Nat, rd k n = (dgN k n).reverse.foldl stp ((0, 0), 0)
  | 0, _ => rfl
  | k + 1, n => by
    show stp (rd k (n / 16)) (n % 16) = (n % 16 :: dgN k (n / 16)).reverse.foldl stp _
    rw [List.reverse_cons, List.foldl_append, ← rd_dg k]
    rfl
theorem odK_sum : ∀ k n : Nat, odK k n = ((dgN k n).map odT).sum % 2
  | 0, _ => rfl
  | k + 1, n => by
    show (odK k (n / 16) + odT (n % 16)) % 2 = (odT (n % 16) + ((dgN k (n / 16)).map odT).sum) % 2
    rw [odK_sum k, Nat.add_comm (odT _), Nat.mod_add_mod]
theorem odK_zero : ∀ k, odK k 0 = 0
  | 0 => rfl
  | k + 1 => by
    show (odK k 0 + odT 0) % 2 = 0
    rw [odK_zero k]; rfl
theorem odK_more : ∀ (k n : Nat), n < 16 ^ k → ∀ j, odK (k + j) n = odK k n
  | 0, n, h, j => by
    have : n = 0 := by simpa using h
    rw [this, odK_zero, odK_zero]
  | k + 1, n, h, j => by
    have hl : n / 16 < 16 ^ k := Nat.div_lt_of_lt_mul (by rw [Nat.mul_comm, ← Nat.pow_succ]; exact h)
    rw [Nat.add_right_comm]
    show (odK (k + j) (n / 16) + odT (n % 16)) % 2 = (odK k (n / 16) + odT (n % 16)) % 2
    rw [odK_more k _ hl]
noncomputable def nl (n : Nat) : Nat := nd (n : Int) 4
theorem pow_16 (k : Nat) : ((16 ^ k : Nat) : Int) = 2 ^ (4 * k) := by rw [Int.pow_mul]; push_cast; rfl
theorem nl_lt (n : Nat) : n < 16 ^ nl n := by
  have z := (zero_iff (Int.natCast_nonneg n) (j := nl n)).mpr (Nat.le_refl _)
  have := Int.lt_ediv_add_one_mul_self (n : Int) (Mine.p2 (4 * nl n))
  rw [z, ← pow_16] at this
  (first | lia | omega)
theorem nl_le {n k : Nat} (h : n < 16 ^ k) : nl n ≤ k :=
  nd_lt16 (Int.natCast_nonneg n) k (by rw [← pow_16]; exact Int.ofNat_lt.mpr h)
theorem nl_ge {n : Nat} (h : 0 < n) : nl n ≠ 0 ∧ 16 ^ (nl n - 1) ≤ n := by
  have h0 : nl n ≠ 0 := fun e => by
    have := nl_lt n
    rw [e] at this
    (first | lia | omega)
  refine ⟨h0, Nat.le_of_not_lt fun q => ?_⟩
  have := nl_le q
  (first | lia | omega)
theorem rd_nl {n k : Nat} (h : n < 16 ^ k) : rd (nl n) n = rd k n := by
  have e : k = nl n + (k - nl n) := by have := nl_le h; (first | lia | omega)
  rw [e, rd_more _ _ (nl_lt n)]
theorem odK_nl {n k : Nat} (h : n < 16 ^ k) : odK (nl n) n = odK k n := by
  have e : k = nl n + (k - nl n) := by have := nl_le h; (first | lia | omega)
  rw [e, odK_more _ _ (nl_lt n)]
theorem ap_word (n : Nat) : (apL (n : Int)).map (fun b => D.int b.toNat) = ((dgN (nl n) n).reverse.map fun d : Nat => D.int (65 + d)) := by
  rw [ap_rev, ap_items (fun x hx => digs_16 _ _ x (List.mem_reverse.mp hx)), digs_nat]
  show (((dgN (nl n) n).map _).reverse.map _).map _ = _
  rw [← List.map_reverse, List.map_map, List.map_map]
  rfl
end Mine
end

section -- R6
open PySem PySem.W PyProof.Rows
set_option Elab.async false
set_option linter.unusedVariables false
namespace Mine
open PySem.SeqAt PySem.Calls PySem.Float64
noncomputable def cxLight : Cx := { gl := [(S "int_divmod", .fn 56 (spDm fun _ _ => True)), (S "isinstance", .bi .isinstance), (S "int", .bi .int), (S "len", .bi .len), (S "Int2AP", .fn 77 spAP), (S "tuple", .bi .tuple), (S "_law_near", .fn 91 spNear), (S "hsv_to_rgb", .fn 70 spHsv1), (S "_law_corner", .fn 84 spCor)] }
theorem at_range (f : Nat → D) {m d : Nat} (h : d < m) (hm : m ≤ 10000) {i : Int} (e : i = d) : idxOK i ((List.range m).map f).length ∧ ((List.range m).map f).getD (idx i ((List.range m).map f).length) .none = f d := by
  subst e
  have l : ((List.range m).map f).length = m := by rw [List.length_map, List.length_range]
  have ix : idx (d : Int) m = d := by unfold idx; rw [if_neg (by (first | lia | omega))]; rfl
  rw [l, ix]
  refine ⟨⟨by (first | lia | omega), by (first | lia | omega), hm⟩, ?_⟩
  rw [List.getD_eq_getElem?_getD, List.getElem?_map, List.getElem?_range h]
  rfl
structure HuesOK (hs : List D) : Prop where
  e : ∃ f : Nat → UInt64, hs = (List.range 6).map (fun j => .flt (f j)) ∧ ∀ j < 6, HueOK (f j) (j : Rat)
theorem HuesOK.get {hs : List D} (H : HuesOK hs) {j : Nat} (hj : j < 6) : ∃ h, HueOK h (j : Rat) ∧ ∀ i : Int, i = j → idxOK i hs.length ∧ hs.getD (idx i hs.length) .none = .flt h := by
  obtain ⟨f, rfl, h⟩ := H
  exact ⟨f j, h j hj, fun i e => at_range (fun j => .flt (f j)) hj (by decide) e⟩
theorem rat6 {j : Nat} (h : j < 6) : (0 : Rat) ≤ (j : Rat) ∧ (j : Rat) ≤ 5 := by
  refine ⟨Rat.natCast_nonneg, ?_⟩
  have : ((j : Nat) : Rat) ≤ ((5 : Nat) : Rat) := Rat.natCast_le_natCast.mpr (Nat.le_of_lt_succ h)
  simpa using this
theorem bd_4 {v : Rat} (h0 : 0 ≤ v) (h1 : v ≤ 4) : Bd v := by unfold Bd; grind
theorem hue_le {x : UInt64} {a : Rat} (h : HueOK x a) (a5 : a ≤ 5) : fv x ≤ 1 := by
  obtain ⟨_, _, _, u⟩ := h
  grind
theorem le_4 {u v : Rat} (h : u ≤ 3) (k : v ≤ 1) : u + v ≤ 4 := by grind
theorem m4_le {u : Rat} (h : 0 ≤ u) : -4 ≤ u := by grind
theorem ap_4 : (4 : Rat) / 9007199254740992 + 1 / 1000000000000000000000000 ≤ 1 / 1125899906842624 := by decide +kernel
theorem add_ap {x y : UInt64} (fx : Fin x) (fy : Fin y) (x0 : 0 ≤ fv x) (x3 : fv x ≤ 3) (y0 : 0 ≤ fv y) (y1 : fv y ≤ 1) : Ap (add x y) (fv x + fv y) (1 / 1125899906842624) ∧ 0 ≤ fv (add x y) := by
  have l4 := le_4 x3 y1
  have p : 0 ≤ fv x + fv y := Rat.add_nonneg x0 y0
  have m := add_rnd fx fy (bd_4 x0 (Rat.le_trans x3 (by decide))) (bd_4 y0 (Rat.le_trans y1 (by decide)))
  exact ⟨m.ap (M := 4) (m4_le p) l4 ap_4, m.2.1 p⟩
theorem sum_lin {X Y Z U T a b c : Rat} (lx : a - 1 / 70368744177664 ≤ 6 * X) (ux : 6 * X ≤ a + 1 / 70368744177664) (ly : b - 1 / 70368744177664 ≤ 6 * Y) (uy : 6 * Y ≤ b + 1 / 70368744177664) (lz : c - 1 / 70368744177664 ≤ 6 * Z) (uz : 6 * Z ≤ c + 1 / 70368744177664)
    (ml : X + Y - 1 / 1125899906842624 ≤ U) (mu : U ≤ X + Y + 1 / 1125899906842624) (ql : U + Z - 1 / 1125899906842624 ≤ T) (qu : T ≤ U + Z + 1 / 1125899906842624) : a + b + c - 1 / 17592186044416 ≤ 6 * T ∧ 6 * T ≤ a + b + c + 1 / 17592186044416 := by
  constructor <;> grind
theorem le_3 {X Y U : Rat} (h1 : X ≤ 1) (h2 : Y ≤ 1) (mu : U ≤ X + Y + 1 / 1125899906842624) : U ≤ 3 := by grind
theorem hue_sum {x y z : UInt64} {a b c : Nat} (hx : HueOK x (a : Rat)) (hy : HueOK y (b : Rat)) (hz : HueOK z (c : Rat)) (ha : a < 6) (hb : b < 6) (hc : c < 6) : TurnOK (add (add x y) z) (((a + b + c : Nat)) : Rat) := by
  have x1 := hue_le hx (rat6 ha).2
  have y1 := hue_le hy (rat6 hb).2
  have z1 := hue_le hz (rat6 hc).2
  obtain ⟨fx, zx, lx, ux⟩ := hx
  obtain ⟨fy, zy, ly, uy⟩ := hy
  obtain ⟨fz, zz, lz, uz⟩ := hz
  obtain ⟨⟨mf, ml, mu⟩, m0⟩ := add_ap fx fy zx (Rat.le_trans x1 (by decide)) zy y1
  obtain ⟨⟨qf, ql, qu⟩, q0⟩ := add_ap mf fz m0 (le_3 x1 y1 mu) zz z1
  have s := sum_lin lx ux ly uy lz uz ml mu ql qu
  have e : (((a + b + c : Nat)) : Rat) = (a : Rat) + b + c := by push_cast; rfl
  rw [e]
  exact ⟨qf, q0, s.1, s.2⟩
noncomputable def dvN (n : Int) : Nat → Int × Int
  | 0 => (n, 3)
  | 1 => (-n - 1, 3)
  | 2 => (n, -3)
  | _ => (-n, -3)
noncomputable def thN (r : Int) : Nat → Int
  | 0 => r
  | 1 => -r - 1
  | 2 => r
  | _ => -r
theorem lt4 : ∀ j < 4, j = 0 ∨ j = 1 ∨ j = 2 ∨ j = 3 := by decide
structure DvOK (n : Int) (dv dr th : Int) : Prop where
  ne : dr ≠ 0
  e : dv.fdiv dr * dr + dv.fmod dr = dv
  lo : 0 ≤ dv.fmod dr * dr
  hi : dv.fmod dr * dr < 9
  third : (4 * th).fmod 6 = 4 * (n % 3) % 6
  ok : okDm dv dr
  dr3 : dr.natAbs ≤ 3
  thb : th.natAbs < 10
theorem f3 (a : Int) : a.fdiv 3 = a / 3 ∧ a.fmod 3 = a % 3 ∧ a.fdiv (-3) = (-a) / 3 ∧ a.fmod (-3) = -((-a) % 3) := by
  obtain ⟨e1, e2⟩ := neg_both (a := a) (b := -3) (by decide)
  refine ⟨Int.fdiv_eq_ediv_of_nonneg _ (by decide), Int.fmod_eq_emod_of_nonneg _ (by decide), ?_, ?_⟩
  · rw [← e1]; exact Int.fdiv_eq_ediv_of_nonneg _ (by decide)
  · rw [← e2]; exact congrArg _ (Int.fmod_eq_emod_of_nonneg _ (by decide))
theorem ok99 {a b : Int} (h1 : a.natAbs < 2 ^ 40) (h2 : b.natAbs < 2 ^ 40) : okDm a b := ⟨Nat.lt_trans h1 (by decide), Nat.lt_trans h2 (by decide)⟩
theorem d3p (a : Int) : a / 3 * 3 + a % 3 = a ∧ 0 ≤ a % 3 * 3 ∧ a % 3 * 3 < 9 ∧ 0 ≤ a % 3 ∧ a % 3 < 3 := by (first | lia | omega)
theorem th_mod {r n : Int} (h : (r - n) % 3 = 0) : 4 * r % 6 = 4 * (n % 3) % 6 := by (first | lia | omega)
theorem dv_p {n dv th : Int} (h : (th - n) % 3 = 0) (hb : th.natAbs < 10) (hd : dv.natAbs < 2 ^ 40) : DvOK n dv 3 th := by
  obtain ⟨a, b, _, _⟩ := f3 dv
  obtain ⟨p1, p2, p3, _⟩ := d3p dv
  exact ⟨by decide, by rw [a, b]; exact p1, by rw [b]; exact p2, by rw [b]; exact p3, (Int.fmod_eq_emod_of_nonneg _ (by decide)).trans (th_mod h), ok99 hd (by decide), by decide, hb⟩
theorem dv_n {n dv th : Int} (h : (th - n) % 3 = 0) (hb : th.natAbs < 10) (hd : dv.natAbs < 2 ^ 40) : DvOK n dv (-3) th := by
  obtain ⟨_, _, a, b⟩ := f3 dv
  obtain ⟨p1, p2, p3, _⟩ := d3p (-dv)
  have q : -((-dv) % 3) * (-3) = (-dv) % 3 * 3 := Int.neg_mul_neg ..
  exact ⟨by decide, by rw [a, b]; (first | lia | omega), by rw [b, q]; exact p2, by rw [b, q]; exact p3, (Int.fmod_eq_emod_of_nonneg _ (by decide)).trans (th_mod h), ok99 hd (by decide), by decide, hb⟩
theorem th_bd {r : Int} (h0 : 0 ≤ r) (h1 : r < 3) : r.natAbs < 10 ∧ (-r - 1).natAbs < 10 ∧ (-r).natAbs < 10 := by (first | lia | omega)
theorem m3_bd (m : Int) : (m % 3).natAbs < 10 ∧ (-(m % 3) - 1).natAbs < 10 ∧ (-(m % 3)).natAbs < 10 := th_bd (Int.emod_nonneg _ (by decide)) (Int.emod_lt_of_pos _ (by decide))
theorem th_a {n m : Int} (e : (m - n) % 3 = 0) : (m % 3 - n) % 3 = 0 ∧ (m % 3).natAbs < 10 := ⟨(Int.emod_sub_emod ..).trans e, (m3_bd m).1⟩
theorem th_b {n m : Int} (e : (-1 - n - m) % 3 = 0) : (-(m % 3) - 1 - n) % 3 = 0 ∧ (-(m % 3) - 1).natAbs < 10 := by
  refine ⟨?_, (m3_bd m).2.1⟩
  rw [show -(m % 3) - 1 - n = -1 - n - m % 3 by (first | lia | omega), Int.sub_emod_emod]
  exact e
theorem th_c {n m : Int} (e : (-n - m) % 3 = 0) : (-(m % 3) - n) % 3 = 0 ∧ (-(m % 3)).natAbs < 10 := by
  refine ⟨?_, (m3_bd m).2.2⟩
  rw [show -(m % 3) - n = -n - m % 3 by (first | lia | omega), Int.sub_emod_emod]
  exact e
theorem dv_ok {n : Int} (h0 : 0 ≤ n) (h1 : n < 268435456) {j : Nat} (hj : j < 4) : DvOK n (dvN n j).1 (dvN n j).2 (thN ((dvN n j).1.fmod (dvN n j).2) j) := by
  have b0 : n.natAbs < 2 ^ 40 := by (first | lia | omega)
  have b1 : (-n - 1).natAbs < 2 ^ 40 := by (first | lia | omega)
  have b2 : (-n).natAbs < 2 ^ 40 := by rw [Int.natAbs_neg]; exact b0
  clear h0 h1
  rcases lt4 j hj with rfl | rfl | rfl | rfl
  · show DvOK n n 3 (n.fmod 3)
    rw [(f3 n).2.1]
    obtain ⟨p, q⟩ := th_a (n := n) (m := n) (by rw [Int.sub_self]; rfl)
    exact dv_p p q b0
  · show DvOK n (-n - 1) 3 (-(-n - 1).fmod 3 - 1)
    rw [(f3 (-n - 1)).2.1]
    obtain ⟨p, q⟩ := th_b (n := n) (m := -n - 1) (by rw [show -1 - n - (-n - 1) = 0 by (first | lia | omega)]; rfl)
    exact dv_p p q b1
  · show DvOK n n (-3) (n.fmod (-3))
    rw [(f3 n).2.2.2]
    obtain ⟨p, q⟩ := th_c (n := n) (m := -n) (by rw [Int.sub_self]; rfl)
    exact dv_n p q b0
  · show DvOK n (-n) (-3) (-(-n).fmod (-3))
    rw [(f3 (-n)).2.2.2, Int.neg_neg, Int.neg_neg]
    obtain ⟨p, q⟩ := th_a (n := n) (m := n) (by rw [Int.sub_self]; rfl)
    exact dv_n p q b2

section
variable {prog : Program} {w : World} {bs : Heap} {l : List Tb} {pm : Nat → Value} {B : Heap} {mg mb : Str → Option Value}
theorem ok_light (X : Lib pm B) (L : B.NoLimit) : FnOK (tbI bs l) B 108 (fdOf 18 (pm 18) (.ref 107)) (bdOf 18) (nmOf 18) [S "n", S "turn", S "hues"] :=
  fn_ok (X (18, 108) (by decide)) L (arity3 fun a b c => rfl) rfl
end
noncomputable def two (p : Int × Int) : D := .tup [.int p.1, .int p.2]
noncomputable def eLi : Expr := asgX ((bdOf 18).headD default)
theorem b_light : ∃ k p p' p'', bdOf 18 = .Assign [.Tuple (tupX (tgtX ((bdOf 18).headD default))) k p''] (.Subscript (subV eLi) (subI eLi) p) p' :: (bdOf 18).drop 1 := ⟨_, _, _, _, rfl⟩
theorem light_l {n t : Int} {hs : List D} {K : D → Prop} (h : K (.list [two (dvN n 0), two (dvN n 1), two (dvN n 2), two (dvN n 3)])) :
    vcE cxLight 38 (nmOf 18) (subV eLi) [(S "hues", .list hs), (S "turn", .int t), (S "n", .int n)] K := by
  iterate 10 (first
      | (refine And.intro (by exact Nat.le_of_ble_eq_true rfl) ?_)
      | (conv => whnf))
  exact h
theorem dv_at {n : Int} {j : Nat} (hj : j < 4) {Q : D → Prop} (h : Q (two (dvN n j))) : itemVC (.list [two (dvN n 0), two (dvN n 1), two (dvN n 2), two (dvN n 3)]) (.int (j : Int)) Q := by
  rcases lt4 j hj with rfl | rfl | rfl | rfl
  all_goals exact ⟨idx_ok rfl, h⟩
theorem light_0 {n : Nat} {t : Int} {hs : List D} {K Bk : Kst} {R : D → Prop}
    (h : vcB cxLight 39 (nmOf 18) ((bdOf 18).drop 1) [(S "divisor", .int (dvN n (n % 4)).2), (S "dividend", .int (dvN n (n % 4)).1), (S "hues", .list hs), (S "turn", .int t), (S "n", .int n)] [] K Bk R) :
    vcB cxLight 40 (nmOf 18) (bdOf 18) [(S "hues", .list hs), (S "turn", .int t), (S "n", .int n)] [] K Bk R := by
  obtain ⟨kk, p, p', p'', e⟩ := b_light
  have hk : (n : Int).fmod 4 = ((n % 4 : Nat) : Int) := Int.fmod_eq_emod_of_nonneg _ (by decide)
  rw [e]
  refine vcB_asgS ?_
  refine vc_sub (fun K => rfl) (light_l ?_)
  conv => whnf
  refine ⟨by decide, ?_⟩
  rw [hk]
  refine dv_at (Nat.mod_lt _ (by decide)) ?_
  exact ⟨rfl, rfl, h⟩
theorem light_1 {n : Int} {dv dr th t : Int} {hs : List D} {K Bk : Kst} {R : D → Prop} (O : DvOK n dv dr th)
    (h : vcB cxLight 37 (nmOf 18) ((bdOf 18).drop 3) [(S "rest", .int (dv.fmod dr)), (S "quotient", .int (dv.fdiv dr)), (S "divisor", .int dr), (S "dividend", .int dv), (S "hues", .list hs), (S "turn", .int t), (S "n", .int n)] [] K Bk R) :
    vcB cxLight 39 (nmOf 18) ((bdOf 18).drop 1) [(S "divisor", .int dr), (S "dividend", .int dv), (S "hues", .list hs), (S "turn", .int t), (S "n", .int n)] [] K Bk R := by
  obtain ⟨ne, e, lo, hi, _, ok, dr3, _⟩ := O
  conv => whnf
  refine ⟨_, _, rfl, ok, ne, trivial, ?_⟩
  conv => whnf
  refine ⟨rfl, rfl, ?_⟩
  refine And.intro rfl ?_
  have b3 : dr.natAbs < 18446744073709551616 := Nat.lt_of_le_of_lt dr3 (by decide)
  conv => whnf
  refine And.intro (.inr b3) ?_
  conv => whnf
  refine ⟨rfl, Nat.le_of_ble_eq_true rfl, ?_⟩
  have q1 : (!eqD (.int (dv.fdiv dr * dr + dv.fmod dr)) (.int dv)) = false := by
    show (!(_ == _)) = false
    rw [e, beq_self_eq_true]; rfl
  rw [q1]
  conv => whnf
  refine And.intro (.inr b3) ?_
  conv => whnf
  rw [decide_eq_true lo]
  conv => whnf
  rw [decide_eq_true hi]
  exact h
theorem th_at {r : Int} {j : Nat} (hj : j < 4) {Q : D → Prop} (h : Q (.int (thN r j))) : itemVC (.list [.int r, .int (-r - 1), .int r, .int (-r)]) (.int (j : Int)) Q := by
  rcases lt4 j hj with rfl | rfl | rfl | rfl
  all_goals exact ⟨idx_ok rfl, h⟩
theorem light_2 {n : Nat} {q r dr dv t : Int} {hs : List D} {K Bk : Kst} {R : D → Prop}
    (h : vcB cxLight 36 (nmOf 18) ((bdOf 18).drop 4) [(S "third", .int (thN r (n % 4))), (S "rest", .int r), (S "quotient", .int q), (S "divisor", .int dr), (S "dividend", .int dv), (S "hues", .list hs), (S "turn", .int t), (S "n", .int n)] [] K Bk R) :
    vcB cxLight 37 (nmOf 18) ((bdOf 18).drop 3) [(S "rest", .int r), (S "quotient", .int q), (S "divisor", .int dr), (S "dividend", .int dv), (S "hues", .list hs), (S "turn", .int t), (S "n", .int n)] [] K Bk R := by
  have hk : (n : Int).fmod 4 = ((n % 4 : Nat) : Int) := Int.fmod_eq_emod_of_nonneg _ (by decide)
  conv => whnf
  refine ⟨Nat.le_of_ble_eq_true rfl, ?_⟩
  conv => whnf
  refine ⟨by decide, ?_⟩
  rw [hk]
  refine th_at (Nat.mod_lt _ (by decide)) ?_
  exact ⟨rfl, h⟩
theorem comp_filter {f : D → (D → Prop) → Prop} {t : D → (Bool → Prop) → Prop} {p : D → Bool} : ∀ {items acc : List D} {Q : List D → Prop}, (∀ d ∈ items, d.lf = true ∧ (∀ K : D → Prop, K d → f d K) ∧ ∀ K : Bool → Prop, K (p d) → t d K) → Q (acc ++ items.filter p) → compVC f t items acc Q
  | [], acc, Q, _, h => by simpa [compVC] using h
  | d :: r, acc, Q, a, h => by
    obtain ⟨l, hf, ht⟩ := a d (List.mem_cons_self ..)
    have ar := fun e he => a e (List.mem_cons_of_mem _ he)
    show t d fun b => iteP b (f d fun e => e.lf = true ∧ compVC f t r (acc ++ [e]) Q) (compVC f t r acc Q)
    refine ht _ ?_
    cases hp : p d with
    | true => exact hf _ ⟨l, comp_filter ar (by rw [List.filter_cons_of_pos hp] at h; simpa using h)⟩
    | false => exact comp_filter ar (by rw [List.filter_cons_of_neg (by rw [hp]; decide)] at h; exact h)
end Mine
end

section -- R7
open PySem PySem.W PyProof.Rows
set_option Elab.async false
set_option linter.unusedVariables false
namespace Mine
open PySem.SeqAt PySem.Calls PySem.Float64
noncomputable def oddB : List UInt8 := [66, 67, 69, 72, 73, 76, 78, 79]
noncomputable def oddD (d : D) : Bool := match d with
  | .int i => oddB.contains i.toNat.toUInt8
  | _ => false
theorem odd_let : ∀ d < 16, oddD (.int (65 + (d : Nat))) = decide (odT d = 1) ∧ odT d < 2 := by decide +kernel
theorem odd_len : ∀ l : List Nat, (∀ d ∈ l, d < 16) → ((l.map fun d : Nat => D.int (65 + d)).filter oddD).length = (l.map odT).sum
  | [], _ => rfl
  | d :: l, h => by
    have ih := odd_len l fun e he => h e (List.mem_cons_of_mem _ he)
    obtain ⟨e, lt⟩ := odd_let d (h d (List.mem_cons_self ..))
    rw [List.map_cons, List.map_cons, List.sum_cons, ← ih]
    rcases (show odT d = 0 ∨ odT d = 1 by (first | lia | omega)) with z | z
    · rw [List.filter_cons_of_neg (by rw [e, z]; decide), z, Nat.zero_add]
    · rw [List.filter_cons_of_pos (by rw [e, z]; decide), z, List.length_cons, Nat.add_comm]
theorem odd_word (n : Nat) : (((dgN (nl n) n).reverse.map fun d : Nat => D.int (65 + d)).filter oddD).length = ((dgN (nl n) n).map odT).sum := by
  rw [odd_len _ fun d h => dgN_lt _ _ d (List.mem_reverse.mp h), List.map_reverse, List.sum_reverse]
theorem sgn_at {n : Int} {Q : D → Prop} (hk : n.fmod 2 = 0 ∨ n.fmod 2 = 1) (h : ∀ a : Int, a.natAbs = n.natAbs → Q (.int a)) : itemVC (.list [.int n, .int (-n)]) (.int (n.fmod 2)) Q := by
  rcases hk with e | e <;> rw [e]
  · exact ⟨idx_ok rfl, h n rfl⟩
  · exact ⟨idx_ok rfl, h (-n) (Int.natAbs_neg n)⟩
theorem light_3 {n : Nat} {th r q dr dv t : Int} {hs : List D} {K Bk : Kst} {R : D → Prop} (hn : n < 16 ^ 7)
    (h : vcB cxLight 35 (nmOf 18) ((bdOf 18).drop 5) [(S "odd", .int (odK 7 n : Nat)), (S "third", .int th), (S "rest", .int r), (S "quotient", .int q), (S "divisor", .int dr), (S "dividend", .int dv), (S "hues", .list hs), (S "turn", .int t), (S "n", .int n)] [] K Bk R) :
    vcB cxLight 36 (nmOf 18) ((bdOf 18).drop 4) [(S "third", .int th), (S "rest", .int r), (S "quotient", .int q), (S "divisor", .int dr), (S "dividend", .int dv), (S "hues", .list hs), (S "turn", .int t), (S "n", .int n)] [] K Bk R := by
  have hk : (n : Int).fmod 2 = 0 ∨ (n : Int).fmod 2 = 1 := by rw [Int.fmod_eq_emod_of_nonneg _ (by decide)]; exact Int.emod_two_eq _
  conv => whnf
  refine ⟨rfl, ?_⟩
  conv => whnf
  refine ⟨Nat.le_of_ble_eq_true rfl, ?_⟩
  conv => whnf
  refine ⟨by decide, ?_⟩
  refine sgn_at hk fun a ha => ?_
  have ha : a.natAbs = n := ha
  conv => whnf
  refine ⟨a, rfl, by rw [ha]; exact Nat.lt_trans hn (by decide), ?_⟩
  rw [ha]
  conv => whnf
  rw [ap_word]
  have l1 : (List.map (fun d : Nat => D.int (65 + d)) (dgN (nl n) n).reverse).length ≤ 7 := by
    rw [List.length_map, List.length_reverse, dgN_len]
    exact nl_le hn
  refine ⟨Nat.le_trans l1 (by decide), comp_filter (p := oddD) (fun d hd => ?_) ?_⟩
  · obtain ⟨x, hx, rfl⟩ := List.mem_map.mp hd
    have x16 := dgN_lt _ _ x (List.mem_reverse.mp hx)
    refine ⟨rfl, fun K k => ?_, fun K k => ?_⟩
    · conv => whnf
      exact k
    · conv => whnf
      exact ⟨by (first | lia | omega), by (first | lia | omega), k⟩
  · have l2 : ([] ++ List.filter oddD (List.map (fun d : Nat => D.int (65 + d)) (dgN (nl n) n).reverse)).length ≤ 10000 := Nat.le_trans (List.length_filter_le _ _) (Nat.le_trans l1 (by decide))
    have l3 : ((([] ++ List.filter oddD (List.map (fun d : Nat => D.int (65 + d)) (dgN (nl n) n).reverse)).length : Nat) : Int).fmod 2 = (odK 7 n : Nat) := by
      rw [Int.fmod_eq_emod_of_nonneg _ (by decide), List.nil_append, odd_word, ← odK_nl hn, odK_sum]
      rfl
    conv => whnf
    refine ⟨l2, ?_⟩
    conv => whnf
    refine ⟨by decide, ?_⟩
    rw [l3]
    conv => whnf
    exact ⟨rfl, h⟩
end Mine
end

section -- R8
open PySem PySem.W PyProof.Rows
set_option Elab.async false
set_option linter.unusedVariables false
namespace Mine
open PySem.SeqAt PySem.Calls PySem.Float64
theorem cor_bd : ∀ j < 6, (0 ≤ (cor j).1 ∧ (cor j).1 ≤ 1) ∧ (0 ≤ (cor j).2.1 ∧ (cor j).2.1 ≤ 1) ∧ (0 ≤ (cor j).2.2 ∧ (cor j).2.2 ≤ 1) := by decide +kernel
noncomputable def liSt (n t : Nat) (th r q dr dv : Int) (hs : List D) (o : Nat) : St := [(S "odd", .int (o : Nat)), (S "third", .int th), (S "rest", .int r), (S "quotient", .int q), (S "divisor", .int dr), (S "dividend", .int dv), (S "hues", .list hs), (S "turn", .int (t : Nat)), (S "n", .int (n : Nat))]
theorem light_4 {n t o c : Nat} {th r q dr dv : Int} {hs : List D} {K Bk : Kst} {R : D → Prop} (H : HuesOK hs) (ho : o < 2) (ht : t < 6) (hc : c < 6) (e : (4 * th).fmod 6 = c)
    (h : ∀ x, TurnOK x ((c + 3 * o + t : Nat) : Rat) → vcB cxLight 34 (nmOf 18) ((bdOf 18).drop 6) ((S "hue", .flt x) :: liSt n t th r q dr dv hs o) [] K Bk R) :
    vcB cxLight 35 (nmOf 18) ((bdOf 18).drop 5) (liSt n t th r q dr dv hs o) [] K Bk R := by
  obtain ⟨h1, a1, g1⟩ := H.get hc
  obtain ⟨h2, a2, g2⟩ := H.get (j := 3 * o) (by (first | lia | omega))
  obtain ⟨h3, a3, g3⟩ := H.get ht
  have T := hue_sum a1 a2 a3 hc (by (first | lia | omega)) ht
  have h := h _ T
  conv => whnf
  refine ⟨.inl (by decide), ?_⟩
  conv => whnf
  refine ⟨by decide, ?_⟩
  conv => whnf
  refine ⟨(g1 _ e).1, ?_⟩
  rw [(g1 _ e).2]
  conv => whnf
  refine ⟨.inl (by decide), ?_⟩
  conv => whnf
  have e2 : 3 * (o : Int) = ((3 * o : Nat) : Int) := by push_cast; rfl
  refine ⟨(g2 _ e2).1, ?_⟩
  rw [(g2 _ e2).2]
  conv => whnf
  refine ⟨(g3 _ rfl).1, ?_⟩
  rw [(g3 _ rfl).2]
  conv => whnf
  exact ⟨rfl, h⟩
theorem light_5 {n t o c : Nat} {th r q dr dv : Int} {hs : List D} {x : UInt64} {K Bk : Kst} {R : D → Prop} (ho : o < 2) (ht : t < 6) (hc : c < 6) (T : TurnOK x ((c + 3 * o + t : Nat) : Rat))
    (h : vcB cxLight 33 (nmOf 18) ((bdOf 18).drop 7) ((S "painted", cD (cor ((c + 3 * o + t) % 6))) :: (S "hue", .flt x) :: liSt n t th r q dr dv hs o) [] K Bk R) :
    vcB cxLight 34 (nmOf 18) ((bdOf 18).drop 6) ((S "hue", .flt x) :: liSt n t th r q dr dv hs o) [] K Bk R := by
  obtain ⟨⟨z1, w1⟩, ⟨z2, w2⟩, ⟨z3, w3⟩⟩ := cor_bd ((c + 3 * o + t) % 6) (Nat.mod_lt _ (by decide))
  have l : ∀ {v : Int}, v ≤ 1 → v ≤ 1099511627776 := fun h => Int.le_trans h (by decide)
  conv => whnf
  refine ⟨rfl, ?_⟩
  conv => whnf
  refine .inr (.inr ⟨_, _, rfl, T, by (first | lia | omega), fun d1 d2 d3 n1 n2 n3 => ?_⟩)
  conv => whnf
  refine ⟨Nat.le_of_ble_eq_true rfl, ?_⟩
  conv => whnf
  refine ⟨_, _, rfl, n1, z1, l w1, ?_⟩
  conv => whnf
  refine ⟨rfl, ?_⟩
  conv => whnf
  refine ⟨_, _, rfl, n2, z2, l w2, ?_⟩
  conv => whnf
  refine ⟨rfl, ?_⟩
  conv => whnf
  refine ⟨_, _, rfl, n3, z3, l w3, ?_⟩
  conv => whnf
  refine ⟨rfl, ?_⟩
  conv => whnf
  refine ⟨Nat.le_of_ble_eq_true rfl, ?_⟩
  conv => whnf
  exact ⟨rfl, h⟩
theorem light_6 {n t o c : Nat} {th r q dr dv : Int} {hs : List D} {x : UInt64} {K Bk : Kst} {R : D → Prop} (ho : o < 2) (ht : t < 6) (hc : c < 6) (e : (4 * th).fmod 6 = c) (hR : R (cD (cor ((c + 3 * o + t) % 6)))) :
    vcB cxLight 33 (nmOf 18) ((bdOf 18).drop 7) ((S "painted", cD (cor ((c + 3 * o + t) % 6))) :: (S "hue", .flt x) :: liSt n t th r q dr dv hs o) [] K Bk R := by
  have e6 : (4 * th + 3 * (o : Int) + (t : Int)).fmod 6 = ((c + 3 * o + t) % 6 : Nat) := by
    rw [Int.fmod_eq_emod_of_nonneg _ (by decide)] at *
    (first | lia | omega)
  conv => whnf
  refine ⟨.inl (by decide), ?_⟩
  conv => whnf
  refine ⟨.inl (by decide), ?_⟩
  conv => whnf
  refine ⟨_, _, rfl, Nat.mod_lt _ (by decide), e6, ?_⟩
  generalize (c + 3 * o + t) % 6 = j at *
  conv => whnf
  refine ⟨rfl, Nat.le_of_ble_eq_true rfl, ?_⟩
  have q1 : eqD (cD (cor j)) (cD (cor j)) = true := eqDs_ints [(cor j).1, (cor j).2.1, (cor j).2.2]
  rw [q1]
  conv => whnf
  exact ⟨rfl, hR⟩
noncomputable def spLight : Spec := fun ds Q => ∃ (n t : Nat) (hs : List D), ds = [.int n, .int t, .list hs] ∧ n < 16 ^ 7 ∧ t < 6 ∧ HuesOK hs ∧ Q (cD (cor (((rd 7 n).2 + t) % 6)))
theorem head_eq {n t : Nat} (hn : n < 16 ^ 7) : (4 * (n % 3) % 6 + 3 * odK 7 n + t) % 6 = ((rd 7 n).2 + t) % 6 := by
  rw [rd_head 7 n hn]
  generalize odK 7 n = o
  generalize n % 3 = u
  clear hn
  (first | lia | omega)
section
variable {prog : Program} {w : World} {bs : Heap} {l : List Tb} {pm : Nat → Value} {B : Heap} {mg mb : Str → Option Value}
theorem good_light (X : Lib pm B) (L : B.NoLimit) {k : Nat} (H : CGood prog w (tbI bs l) B mg mb cxLight k) : GoodF prog w (tbI bs l) B (k + 1) 108 spLight := by
  refine goodF_of (ok_light X L) (stm_plain H rfl 40) fun ds Q q => ?_
  obtain ⟨n, t, hs, rfl, hn, ht, HH, hQ⟩ := q
  have O := dv_ok (n := n) (Int.natCast_nonneg n) (by (first | lia | omega)) (j := n % 4) (Nat.mod_lt _ (by decide))
  have ec : (4 * thN ((dvN n (n % 4)).1.fmod (dvN n (n % 4)).2) (n % 4)).fmod 6 = ((4 * (n % 3) % 6 : Nat) : Int) := O.third.trans (by push_cast; rfl)
  rw [← head_eq hn] at hQ
  have ho := odK_lt 7 n
  have hc : 4 * (n % 3) % 6 < 6 := Nat.mod_lt _ (by decide)
  have fl : [D.int n, D.int t, D.list hs].all flatB = true := by
    obtain ⟨f, rfl, _⟩ := HH
    rfl
  exact ⟨rfl, fl, light_0 (light_1 O (light_2 (light_3 hn (light_4 HH ho ht hc ec fun x T => light_5 ho ht hc T (light_6 ho ht hc ec hQ)))))⟩
end
end Mine
end

section -- R9
open PySem PySem.W PyProof.Rows
set_option Elab.async false
set_option linter.unusedVariables false
namespace Mine
open PySem.SeqAt PySem.Calls
noncomputable def cxRead : Cx := { gl := [(S "Int2AP", .fn 77 spAP), (S "_law_turned", .fn 103 spTrn)] }
noncomputable def marksD : List D := (List.range 16).map fun d => two (mkT d)
noncomputable def headsD : List D := (List.range 16).map fun d => D.int (hdT d : Nat)
noncomputable def rdD (s : Rd) : D := .tup [.int s.1.1, .int s.1.2, .int (s.2 : Nat)]
noncomputable def spRead : Spec := fun ds Q => ∃ n : Nat, ds = [.int n, .list marksD, .list headsD] ∧ n < 16 ^ 7 ∧ Q (rdD (rd 7 n))
theorem letter_at (f : Nat → D) {d : Nat} (h : d < 16) {i : Int} (e : i = d) : idxOK i ((List.range 16).map f).length ∧ ((List.range 16).map f).getD (idx i ((List.range 16).map f).length) .none = f d := at_range f h (by decide) e
inductive RdI (n : Nat) (items : List D) : St → List Str → Prop
  | mk (pre rest : List Nat) (x y : Int) (h : Nat) (e1 : items = rest.map fun d : Nat => D.int (65 + d)) (e2 : pre ++ rest = (dgN (nl n) n).reverse) (e3 : pre.foldl stp ((0, 0), 0) = ((x, y), h)) (h6 : h < 6) (lt : ∀ d ∈ rest, d < 16) :
    RdI n items [(S "head", .int (h : Nat)), (S "y", .int y), (S "x", .int x), (S "heads", .list headsD), (S "marks", .list marksD), (S "n", .int (n : Nat))] []
section
variable {prog : Program} {w : World} {bs : Heap} {l : List Tb} {pm : Nat → Value} {B : Heap} {mg mb : Str → Option Value}
theorem ok_read (X : Lib pm B) (L : B.NoLimit) : FnOK (tbI bs l) B 115 (fdOf 19 (pm 19) (.ref 114)) (bdOf 19) (nmOf 19) [S "n", S "marks", S "heads"] :=
  fn_ok (X (19, 115) (by decide)) L (arity3 fun a b c => rfl) rfl
end
theorem read_step {n d h : Nat} {x y : Int} {Q Bk : Kst} {R : D → Prop} (hd : d < 16) (h6 : h < 6)
    (hQ : ∀ st, SubSt [(S "head", .int ((h + hdT d) % 6 : Nat)), (S "y", .int (9 * y + (trn (mkT d) h).2)), (S "x", .int (9 * x + (trn (mkT d) h).1)), (S "heads", .list headsD), (S "marks", .list marksD), (S "n", .int (n : Nat))] st → Q st []) :
    vcB cxRead 38 (nmOf 19) (forBody (bdOf 19) 0) [(S "sign", .int (65 + d)), (S "head", .int (h : Nat)), (S "y", .int y), (S "x", .int x), (S "heads", .list headsD), (S "marks", .list marksD), (S "n", .int (n : Nat))] [] Q Bk R := by
  have e65 : (65 : Int) + (d : Int) - 65 = (d : Int) := by (first | lia | omega)
  have h1 : idxOK (65 + (d : Int) - 65) marksD.length ∧ marksD.getD (idx (65 + (d : Int) - 65) marksD.length) .none = two (mkT d) := letter_at (fun d => two (mkT d)) hd e65
  have h2 : idxOK (65 + (d : Int) - 65) headsD.length ∧ headsD.getD (idx (65 + (d : Int) - 65) headsD.length) .none = .int (hdT d : Nat) := letter_at (fun d => D.int (hdT d : Nat)) hd e65
  have fm : ((h : Nat) : Int).fmod 6 = (h : Nat) := by rw [Int.fmod_eq_emod_of_nonneg _ (by decide)]; (first | lia | omega)
  have fa : ((h : Nat) + (hdT d : Nat) : Int).fmod 6 = (((h + hdT d) % 6 : Nat) : Int) := by rw [Int.fmod_eq_emod_of_nonneg _ (by decide)]; push_cast; rfl
  conv => whnf
  refine ⟨h1.1, ?_⟩
  rw [h1.2]
  conv => whnf
  refine ⟨idx_ok rfl, ?_⟩
  conv => whnf
  refine ⟨h1.1, ?_⟩
  rw [h1.2]
  conv => whnf
  refine ⟨idx_ok rfl, ?_⟩
  conv => whnf
  refine ⟨_, _, _, h, rfl, h6, fm, ?_⟩
  conv => whnf
  refine ⟨rfl, rfl, ?_⟩
  conv => whnf
  refine ⟨.inl (by decide), ?_⟩
  conv => whnf
  refine ⟨.inl (by decide), ?_⟩
  conv => whnf
  refine ⟨h2.1, ?_⟩
  rw [h2.2]
  conv => whnf
  refine ⟨by decide, ?_⟩
  rw [fa]
  conv => whnf
  refine ⟨rfl, Nat.le_of_ble_eq_true rfl, ?_⟩
  refine vcB_nil ?_
  exact hQ _ (.cons rfl (.cons rfl (.cons rfl (.cons rfl (.cons rfl (.cons rfl .nil))))))
theorem read_vc {n : Nat} (hn : n < 16 ^ 7) {Q : D → Prop} (hQ : Q (rdD (rd 7 n))) :
    vcB cxRead 40 (nmOf 19) (bdOf 19) [(S "heads", .list headsD), (S "marks", .list marksD), (S "n", .int (n : Nat))] [] (fun _ _ => Q .none) (fun _ _ => False) Q := by
  conv => whnf
  refine ⟨rfl, Nat.le_of_ble_eq_true rfl, ?_⟩
  conv => whnf
  refine ⟨n, rfl, Nat.lt_trans hn (by decide), ?_⟩
  rw [Int.natAbs_natCast]
  conv => whnf
  rw [ap_word]
  have lf : ∀ l : List Nat, D.lfs (l.map fun d : Nat => D.int (65 + d)) = true := fun l => by
    induction l with
    | nil => rfl
    | cons a r ih => exact ih
  refine ⟨lf _, fun items st ow => RdI n items st ow, ⟨_, .cons rfl (.cons rfl (.cons rfl (.cons rfl (.cons rfl (.cons rfl .nil))))), .mk [] _ 0 0 0 rfl rfl rfl (by decide) fun d hd => dgN_lt _ _ d (List.mem_reverse.mp hd)⟩, ?_, ?_⟩
  · intro d r st ow hI
    generalize he : d :: r = items at hI
    cases hI with
    | mk pre rest x y h e1 e2 e3 h6 lt =>
      rw [← he] at e1
      cases rest with
      | nil => cases e1
      | cons e rest =>
        injection e1 with e4 e5
        subst e4 e5
        refine read_step (lt e (List.mem_cons_self ..)) h6 fun st' sub => ?_
        exact ⟨_, sub, .mk (pre ++ [e]) rest _ _ _ rfl (by rw [List.append_assoc]; exact e2) (by rw [List.foldl_append, e3]; rfl) (Nat.mod_lt _ (by decide)) fun d hd => lt d (List.mem_cons_of_mem _ hd)⟩
  · intro st ow hI
    generalize he : ([] : List D) = items at hI
    cases hI with
    | mk pre rest x y h e1 e2 e3 h6 lt =>
      rw [← he] at e1
      cases rest with
      | cons => cases e1
      | nil =>
        rw [List.append_nil] at e2
        have e := rd_dg (nl n) n
        rw [← e2, e3, rd_nl hn] at e
        rw [e] at hQ
        conv => whnf
        refine ⟨Nat.le_of_ble_eq_true rfl, ?_⟩
        conv => whnf
        exact ⟨rfl, hQ⟩
section
variable {prog : Program} {w : World} {bs : Heap} {l : List Tb} {pm : Nat → Value} {B : Heap} {mg mb : Str → Option Value}
theorem good_read (X : Lib pm B) (L : B.NoLimit) {k : Nat} (H : CGood prog w (tbI bs l) B mg mb cxRead k) : GoodF prog w (tbI bs l) B (k + 1) 115 spRead := by
  refine goodF_of (ok_read X L) (stm_plain H rfl 40) fun ds Q q => ?_
  obtain ⟨n, rfl, hn, hQ⟩ := q
  exact ⟨rfl, rfl, read_vc hn hQ⟩
end
end Mine
end

section -- QJ2
open PySem PySem.W PyProof.Rows
set_option Elab.async false
set_option linter.unusedVariables false
namespace Mine
open PySem.SeqAt PySem.Calls
section
variable {prog : Program} {w : World} {bs : Heap} {l : List Tb} {pm : Nat → Value} {B : Heap} {mg mb : Str → Option Value}
noncomputable def cxLaw : Cx := { gl := [(S "sum", .bi .sum), (S "len", .bi .len), (S "range", .bi .range), (S "max", .bi .max), (S "rgb_to_hsv", .fn 63 spRgb), (S "hsv_to_rgb", .fn 70 spHsv1), (S "_law_told", .fn 96 spTold), (S "_law_corner", .fn 84 spCor), (S "_law_turned", .fn 103 spTrn),
  (S "_law_light", .fn 108 spLight), (S "_law_read", .fn 115 spRead), (S "_law_total", .fn 122 spTot), (S "Int2AP", .fn 77 spAP), (S "int_divmod", .fn 56 (spDm fun _ _ => True)), (S "_digits2int", .fn 42 spD2i), (S "_int2digits", .fn 35 spI2d)], dz := some 56 }
theorem contracts (H : Gl pm B mg mb) (ht1 : tbD ∈ l) (ht2 : tbI2 ∈ l) (hP : l.Pairwise fun a b => a.P ≠ b.P) (c1 : CodeHd B 41 37) (c2 : CodeHd B 34 30) (n1 : B.get? 37 = none) (n2 : B.get? 30 = none) :
    CGood prog w (tbI bs l) B mg mb cxLaw 230 ∧ DZ prog w (tbI bs l) B mg mb cxLaw 230 := by
  have len : ∀ k, CGood prog w (tbI bs l) B mg mb cxLen k := fun k => H.bi H.nil (S "len") .len rfl rfl rfl rfl
  have d2i := good_d2i H.X H.L (len 0) ht1 hP c1 (H.bat n1)
  have i2d := good_i2d H.X H.L (len 0) ht2 hP c2 (H.bat n2)
  have c2n : CGood prog w (tbI bs l) B mg mb cxDiv 201 := H.lim (H.bi H.nil (S "divmod") .divmod rfl rfl rfl rfl)
  have n2n := good_2n1 H.X H.L c2n
  have cpos : CGood prog w (tbI bs l) B mg mb cxPos 202 := H.fn (H.bi (H.fn (H.fn H.nil (S "_digits2int") rfl (d2i.more (by decide)) rfl) (S "_div2n1n") rfl n2n rfl) (S "reversed") .reversed rfl rfl rfl rfl) (S "_int2digits") rfl (i2d.more (by decide)) rfl
  have pos := good_pos H.X H.L cpos
  have dm := good_dm H.X H.L (k := 203) (H.at rfl) (H.fn H.nil (S "_divmod_pos") rfl pos rfl)
  have hz3 : mg (S "ZeroDivisionError") = none := H.no rfl
  have hz4 : mb (S "ZeroDivisionError") = some (.type "ZeroDivisionError") := (H.bt _ (by decide)).trans rfl
  have zdm := goodZ_dm (prog := prog) (w := w) (bs := bs) (l := l) H.X H.L (k := 205) H.nil hz3 hz4
  have cap : CGood prog w (tbI bs l) B mg mb cxAP 206 := H.bi (H.bi (H.bi H.nil (S "divmod") .divmod rfl rfl rfl rfl) (S "abs") .abs rfl rfl rfl rfl) (S "int") .int rfl rfl rfl rfl
  have ap := good_ap H.X H.L cap
  have crgb : CGood prog w (tbI bs l) B mg mb cxRgb 206 := H.bi (H.bi H.nil (S "min") .min rfl rfl rfl rfl) (S "max") .max rfl rfl rfl rfl
  have rgb := good_rgb H.X H.L crgb
  have cint : CGood prog w (tbI bs l) B mg mb cxInt 206 := H.bi H.nil (S "int") .int rfl rfl rfl rfl
  have hsv := good_hsv1 H.X H.L cint
  have near := good_near H.X H.L cint
  have ctold : CGood prog w (tbI bs l) B mg mb cxTold 207 := H.fn (H.bi (H.fn (H.fn H.nil (S "hsv_to_rgb") rfl hsv rfl) (S "_law_near") rfl near rfl) (S "tuple") .tuple rfl rfl rfl rfl) (S "rgb_to_hsv") rfl rgb rfl
  have told := good_told H.X H.L ctold
  have cor := good_cor (bs := bs) (l := l) (prog := prog) (w := w) H.X H.L (k := 206) H.nil
  have trn := good_trn (bs := bs) (l := l) (prog := prog) (w := w) H.X H.L (k := 206) H.nil
  have tot := good_tot (bs := bs) (l := l) (prog := prog) (w := w) H.X H.L (k := 206) H.nil
  have clight : CGood prog w (tbI bs l) B mg mb cxLight 210 := H.fn (H.bi (H.bi (H.bi (H.fn (H.bi (H.fn (H.fn (H.fn (H.nil) (S "_law_corner") rfl (cor.more (by decide)) rfl) (S "hsv_to_rgb") rfl (hsv.more (by decide)) rfl) (S "_law_near") rfl (near.more (by decide)) rfl) (S "tuple") .tuple rfl rfl rfl rfl) (S "Int2AP") rfl (ap.more (by decide)) rfl) (S "len") .len rfl rfl rfl rfl) (S "int") .int rfl rfl rfl rfl) (S "isinstance") .isinstance rfl rfl rfl rfl) (S "int_divmod") rfl (dm.more (by decide)) rfl
  have lig := good_light H.X H.L clight
  have cread : CGood prog w (tbI bs l) B mg mb cxRead 210 := H.fn (H.fn (H.nil) (S "_law_turned") rfl (trn.more (by decide)) rfl) (S "Int2AP") rfl (ap.more (by decide)) rfl
  have rea := good_read H.X H.L cread
  refine ⟨?_, hz3, hz4, fun f e => by cases e; exact zdm.more (by decide)⟩
  exact H.bi (H.bi (H.bi (H.bi (H.fn (H.fn (H.fn (H.fn (H.fn (H.fn (H.fn (H.fn (H.fn (H.fn (H.fn (H.fn (H.nil) (S "_int2digits") rfl (i2d.more (by decide)) rfl) (S "_digits2int") rfl (d2i.more (by decide)) rfl) (S "int_divmod") rfl (dm.more (by decide)) rfl) (S "Int2AP") rfl (ap.more (by decide)) rfl) (S "_law_total") rfl (tot.more (by decide)) rfl) (S "_law_read") rfl (rea.more (by decide)) rfl) (S "_law_light") rfl (lig.more (by decide)) rfl) (S "_law_turned") rfl (trn.more (by decide)) rfl) (S "_law_corner") rfl (cor.more (by decide)) rfl) (S "_law_told") rfl (told.more (by decide)) rfl) (S "hsv_to_rgb") rfl (hsv.more (by decide)) rfl) (S "rgb_to_hsv") rfl (rgb.more (by decide)) rfl) (S "max") .max rfl rfl rfl rfl) (S "range") .range rfl rfl rfl rfl) (S "len") .len rfl rfl rfl rfl) (S "sum") .sum rfl rfl rfl rfl
end
end Mine
end

section -- R10
open PySem PySem.W PyProof.Rows
set_option Elab.async false
set_option linter.unusedVariables false
namespace Mine
noncomputable def addC (a b : Col) : Col := (a.1 + b.1, a.2.1 + b.2.1, a.2.2 + b.2.2)
noncomputable def hdN (n : Nat) : Nat := (rd 7 n).2
noncomputable def mixN (t : Nat) : Nat → Col
  | 0 => (0, 0, 0)
  | n + 1 => addC (mixN t n) (cor ((hdN n + t) % 6))
theorem cor_un : ∀ j < 6, (cor j).1 - (cor j).2.1 = (un j).1 ∧ (cor j).2.1 - (cor j).2.2 = (un j).2 := by decide +kernel
theorem trn_un : ∀ j < 6, ∀ t < 6, trn (un j) t = un ((j + t) % 6) := by decide +kernel
theorem trn_zero : ∀ t < 6, trn (0, 0) t = (0, 0) := by decide +kernel
theorem mix_trn {t : Nat} (ht : t < 6) : ∀ n : Nat, n < 16 ^ 7 → ((mixN t n).1 - (mixN t n).2.1, (mixN t n).2.1 - (mixN t n).2.2) = trn (rd 7 n).1 t
  | 0, _ => by
    rw [rd_zero, trn_zero t ht]; rfl
  | n + 1, h => by
    have ih := mix_trn ht n (by (first | lia | omega))
    have e1 : (mixN t n).1 - (mixN t n).2.1 = (trn (rd 7 n).1 t).1 := congrArg Prod.fst ih
    have e2 : (mixN t n).2.1 - (mixN t n).2.2 = (trn (rd 7 n).1 t).2 := congrArg Prod.snd ih
    have hh := rd_h 7 n
    obtain ⟨u1, u2⟩ := cor_un ((hdN n + t) % 6) (Nat.mod_lt _ (by decide))
    rw [rd_next 7 n h]
    show _ = trn ((rd 7 n).1.1 + (un (rd 7 n).2).1, (rd 7 n).1.2 + (un (rd 7 n).2).2) t
    rw [trn_add, trn_un _ hh t ht]
    show ((mixN t n).1 + (cor ((hdN n + t) % 6)).1 - ((mixN t n).2.1 + (cor ((hdN n + t) % 6)).2.1), (mixN t n).2.1 + (cor ((hdN n + t) % 6)).2.1 - ((mixN t n).2.2 + (cor ((hdN n + t) % 6)).2.2)) = _
    show _ = ((trn (rd 7 n).1 t).1 + (un ((hdN n + t) % 6)).1, (trn (rd 7 n).1 t).2 + (un ((hdN n + t) % 6)).2)
    rw [← e1, ← e2, ← u1, ← u2]
    refine Prod.ext ?_ ?_
    · show _ + _ - (_ + _) = _ - _ + (_ - _); (first | lia | omega)
    · show _ + _ - (_ + _) = _ - _ + (_ - _); (first | lia | omega)
theorem od_pair : ∀ d < 16, d % 2 = 0 → odT d + odT (d + 1) = 1 := by decide +kernel
theorem par_tab : ∀ c < 2, ∀ a < 2, ∀ b < 2, a + b = 1 → (c + a) % 2 + (c + b) % 2 = 1 := by decide +kernel
theorem odT_lt' : ∀ d < 17, odT d < 2 := by decide +kernel
theorem od_even : ∀ (k n : Nat), n % 2 = 0 → 0 < k → odK k n + odK k (n + 1) = 1
  | 0, _, _, h => absurd h (by decide)
  | k + 1, n, h, _ => by
    have h2 : n % 16 % 2 = 0 := by (first | lia | omega)
    have h15 : n % 16 < 15 := by (first | lia | omega)
    have e1 : (n + 1) / 16 = n / 16 := by (first | lia | omega)
    have e2 : (n + 1) % 16 = n % 16 + 1 := by (first | lia | omega)
    show (odK k (n / 16) + odT (n % 16)) % 2 + (odK k ((n + 1) / 16) + odT ((n + 1) % 16)) % 2 = 1
    rw [e1, e2]
    exact par_tab _ (odK_lt _ _) _ (odT_lt' _ (Nat.lt_succ_of_lt (m16 n))) _ (odT_lt' _ (Nat.succ_lt_succ (m16 n))) (od_pair _ (m16 n) h2)
theorem cor_sum : ∀ j < 6, (cor j).1 + (cor j).2.1 + (cor j).2.2 = 1 + (j % 2 : Nat) := by decide +kernel
theorem hd_par {n : Nat} (h : n < 16 ^ 7) : hdN n % 2 = odK 7 n := by
  have l := odK_lt 7 n
  unfold hdN
  rw [rd_head 7 n h]
  (first | lia | omega)
noncomputable def sumC (c : Col) : Int := c.1 + c.2.1 + c.2.2
noncomputable def cnt (n o : Int) : Int := n / 2 + n % 2 * (1 - o)
theorem cnt_step {n o o' : Int} (h : n % 2 = 0 → o + o' = 1) : cnt (n + 1) o' = cnt n o + o := by
  unfold cnt
  rcases Int.emod_two_eq n with q | q
  · have h := h q
    rw [q, show (n + 1) % 2 = 1 by (first | lia | omega), Int.zero_mul, Int.one_mul]; (first | lia | omega)
  · rw [q, show (n + 1) % 2 = 0 by (first | lia | omega), Int.zero_mul, Int.one_mul]; (first | lia | omega)
theorem tot_cnt (n h t : Int) : tot n h t = n + (if t % 2 = 0 then cnt n (h % 2) else n - cnt n (h % 2)) := rfl
theorem par_sum {a t : Nat} {o : Int} (h : ((a : Nat) : Int) % 2 = o) : (((a + t) % 6 % 2 : Nat) : Int) = if ((t : Nat) : Int) % 2 = 0 then o else 1 - o := by
  split <;> (first | lia | omega)
theorem mix_tot {t : Nat} (ht : t < 6) : ∀ n : Nat, n < 16 ^ 7 → sumC (mixN t n) = tot n (hdN n) t
  | 0, _ => by
    show (0 : Int) + 0 + 0 = tot 0 _ _
    rw [tot_cnt]
    unfold cnt
    split <;> (first | lia | omega)
  | n + 1, h => by
    have ih := mix_tot ht n (by (first | lia | omega))
    have p1 : ((hdN n : Nat) : Int) % 2 = (odK 7 n : Nat) := by rw [← hd_par (n := n) (by (first | lia | omega))]; rfl
    have p2 : ((hdN (n + 1) : Nat) : Int) % 2 = (odK 7 (n + 1) : Nat) := by rw [← hd_par h]; rfl
    have ev : (n : Int) % 2 = 0 → ((odK 7 n : Nat) : Int) + (odK 7 (n + 1) : Nat) = 1 := fun q => by
      have := od_even 7 n (by (first | lia | omega)) (by decide)
      (first | lia | omega)
    have cs := cor_sum ((hdN n + t) % 6) (Nat.mod_lt _ (by decide))
    have e : sumC (mixN t (n + 1)) = sumC (mixN t n) + (1 + ((hdN n + t) % 6 % 2 : Nat)) := by
      rw [← cs]
      show _ + _ + (_ + _) + (_ + _) = (_ + _ + _) + (_ + _ + _)
      (first | lia | omega)
    have c := cnt_step ev
    rw [e, ih, tot_cnt, tot_cnt, p1, p2, par_sum p1, show ((n + 1 : Nat) : Int) = (n : Int) + 1 from by push_cast; rfl, c]
    clear e ih cs h p1 p2 ev c
    split <;> (first | lia | omega)
end Mine
end

section -- R11
open PySem PySem.W PyProof.Rows
set_option Elab.async false
set_option linter.unusedVariables false
namespace Mine
theorem mix_bd (t : Nat) : ∀ n : Nat, (0 ≤ (mixN t n).1 ∧ (mixN t n).1 ≤ n) ∧ (0 ≤ (mixN t n).2.1 ∧ (mixN t n).2.1 ≤ n) ∧ (0 ≤ (mixN t n).2.2 ∧ (mixN t n).2.2 ≤ n)
  | 0 => ⟨⟨Int.le_refl _, Int.le_refl _⟩, ⟨Int.le_refl _, Int.le_refl _⟩, Int.le_refl _, Int.le_refl _⟩
  | n + 1 => by
    obtain ⟨⟨a1, a2⟩, ⟨b1, b2⟩, c1, c2⟩ := mix_bd t n
    obtain ⟨⟨d1, d2⟩, ⟨e1, e2⟩, f1, f2⟩ := cor_bd ((hdN n + t) % 6) (Nat.mod_lt _ (by decide))
    have q : ((n + 1 : Nat) : Int) = (n : Int) + 1 := by push_cast; rfl
    rw [q]
    exact ⟨⟨Int.add_nonneg a1 d1, Int.add_le_add a2 d2⟩, ⟨Int.add_nonneg b1 e1, Int.add_le_add b2 e2⟩, Int.add_nonneg c1 f1, Int.add_le_add c2 f2⟩
theorem max_is {a b c M : Int} (h1 : a ≤ M) (h2 : b ≤ M) (h3 : c ≤ M) (h : M = a ∨ M = b ∨ M = c) : max3 a b c = M := by
  obtain ⟨x1, x2, x3, x4⟩ := max3_spec a b c
  refine Int.le_antisymm (x4.elim (fun e => e ▸ h1) fun e => e.elim (fun e => e ▸ h2) fun e => e ▸ h3) ?_
  rcases h with rfl | rfl | rfl
  · exact x1
  · exact x2
  · exact x3
theorem min_is {a b c M : Int} (h1 : M ≤ a) (h2 : M ≤ b) (h3 : M ≤ c) (h : M = a ∨ M = b ∨ M = c) : min3 a b c = M := by
  obtain ⟨x1, x2, x3, x4⟩ := min3_spec a b c
  refine Int.le_antisymm ?_ (x4.elim (fun e => e ▸ h1) fun e => e.elim (fun e => e ▸ h2) fun e => e ▸ h3)
  rcases h with rfl | rfl | rfl
  · exact x1
  · exact x2
  · exact x3
structure ColT (c : Col) (t : Nat) (x y : Int) : Prop where
  M : ∃ M, max3 c.1 c.2.1 c.2.2 = M ∧ max3 c.1 c.2.2 c.2.1 = M ∧ (M = c.1 ∨ M = c.2.1 ∨ M = c.2.2) ∧ c.1 ≤ M ∧ c.2.1 ≤ M ∧ c.2.2 ≤ M
  m : max3 c.1 c.2.1 c.2.2 - min3 c.1 c.2.1 c.2.2 = x + y
  m' : max3 c.1 c.2.2 c.2.1 - min3 c.1 c.2.2 c.2.1 = x + y
  e : (max3 c.1 c.2.1 c.2.2 - c.1, max3 c.1 c.2.1 c.2.2 - c.2.1, max3 c.1 c.2.1 c.2.2 - c.2.2) = dI t (x + y) y
structure DiOK (a : Int × Int × Int) (dd : Int) : Prop where
  b : (0 ≤ a.1 ∧ a.1 ≤ dd) ∧ (0 ≤ a.2.1 ∧ a.2.1 ≤ dd) ∧ (0 ≤ a.2.2 ∧ a.2.2 ≤ dd)
  z : a.1 = 0 ∨ a.2.1 = 0 ∨ a.2.2 = 0
  d : a.1 = dd ∨ a.2.1 = dd ∨ a.2.2 = dd
theorem di_ok {dd y : Int} (h0 : 0 ≤ y) (h1 : y ≤ dd) : ∀ t < 6, DiOK (dI t dd y) dd := by
  have d0 := Int.le_trans h0 h1
  have r := Int.le_refl dd
  have s0 : 0 ≤ dd - y := Int.sub_nonneg_of_le h1
  have s1 : dd - y ≤ dd := Int.sub_le_self dd h0
  intro t ht
  rcases lt6 t ht with rfl | rfl | rfl | rfl | rfl | rfl
  · exact ⟨⟨⟨Int.le_refl _, d0⟩, ⟨s0, s1⟩, d0, r⟩, .inl rfl, .inr (.inr rfl)⟩
  · exact ⟨⟨⟨h0, h1⟩, ⟨Int.le_refl _, d0⟩, d0, r⟩, .inr (.inl rfl), .inr (.inr rfl)⟩
  · exact ⟨⟨⟨d0, r⟩, ⟨Int.le_refl _, d0⟩, s0, s1⟩, .inr (.inl rfl), .inl rfl⟩
  · exact ⟨⟨⟨d0, r⟩, ⟨h0, h1⟩, Int.le_refl _, d0⟩, .inr (.inr rfl), .inl rfl⟩
  · exact ⟨⟨⟨s0, s1⟩, ⟨d0, r⟩, Int.le_refl _, d0⟩, .inr (.inr rfl), .inr (.inl rfl)⟩
  · exact ⟨⟨⟨Int.le_refl _, d0⟩, ⟨d0, r⟩, h0, h1⟩, .inl rfl, .inr (.inl rfl)⟩
theorem di_trn {x y : Int} : ∀ t < 6, (trn (x, y) t).1 = (dI t (x + y) y).2.1 - (dI t (x + y) y).1 ∧ (trn (x, y) t).2 = (dI t (x + y) y).2.2 - (dI t (x + y) y).2.1 := by
  intro t ht
  have e : ∀ t, trn (x, y) t = (x * (un t).1 - y * (un t).2, x * (un t).2 + y * (un t).1 + y * (un t).2) := fun _ => rfl
  rcases lt6 t ht with rfl | rfl | rfl | rfl | rfl | rfl <;> rw [e] <;> simp only [un, dI] <;> constructor <;> (first | lia | omega)
theorem colT {r g b x y : Int} {t : Nat} (ht : t < 6) (hy : 0 ≤ y) (hx : y ≤ x) (u : r - g = (trn (x, y) t).1) (v : g - b = (trn (x, y) t).2) : ColT (r, g, b) t x y := by
  obtain ⟨t1, t2⟩ := di_trn (x := x) (y := y) t ht
  obtain ⟨⟨⟨a1, a2⟩, ⟨b1, b2⟩, c1, c2⟩, z, d⟩ := di_ok (dd := x + y) hy (by (first | lia | omega)) t ht
  rw [t1] at u
  rw [t2] at v
  generalize hd : dI t (x + y) y = q at *
  obtain ⟨q1, q2, q3⟩ := q
  simp only at *
  have er : r = (r + q1) - q1 := by (first | lia | omega)
  have eg : g = (r + q1) - q2 := by (first | lia | omega)
  have eb : b = (r + q1) - q3 := by (first | lia | omega)
  generalize r + q1 = M at er eg eb
  subst er eg eb
  clear u v t1 t2 hy hx
  have h1 : M - q1 ≤ M := by (first | lia | omega)
  have h2 : M - q2 ≤ M := by (first | lia | omega)
  have h3 : M - q3 ≤ M := by (first | lia | omega)
  have h4 : M = M - q1 ∨ M = M - q2 ∨ M = M - q3 := z.imp (fun z => by rw [z, Int.sub_zero]) fun z => z.imp (fun z => by rw [z, Int.sub_zero]) fun z => by rw [z, Int.sub_zero]
  have k1 : M - (x + y) ≤ M - q1 := by (first | lia | omega)
  have k2 : M - (x + y) ≤ M - q2 := by (first | lia | omega)
  have k3 : M - (x + y) ≤ M - q3 := by (first | lia | omega)
  have k4 : M - (x + y) = M - q1 ∨ M - (x + y) = M - q2 ∨ M - (x + y) = M - q3 := d.imp (fun d => by rw [d]) fun d => d.imp (fun d => by rw [d]) fun d => by rw [d]
  have m1 := max_is h1 h2 h3 h4
  have m2 := max_is h1 h3 h2 (h4.imp id Or.symm)
  have m3 := min_is k1 k2 k3 k4
  have m4 := min_is k1 k3 k2 (k4.imp id Or.symm)
  have ds : M - (M - (x + y)) = x + y := ddI M (x + y)
  refine ⟨⟨M, m1, m2, h4, h1, h2, h3⟩, ?_, ?_, ?_⟩
  · show max3 (M - q1) (M - q2) (M - q3) - min3 (M - q1) (M - q2) (M - q3) = _
    rw [m1, m3]; exact ds
  · show max3 (M - q1) (M - q3) (M - q2) - min3 (M - q1) (M - q3) (M - q2) = _
    rw [m2, m4]; exact ds
  · show (max3 (M - q1) (M - q2) (M - q3) - (M - q1), max3 (M - q1) (M - q2) (M - q3) - (M - q2), max3 (M - q1) (M - q2) (M - q3) - (M - q3)) = _
    rw [m1, ddI, ddI, ddI, hd]
noncomputable def pfI (a : Int × Int × Int) (dd : Int) : Int :=
  if a.1 = 0 then (if a.2.2 = dd then dd - a.2.1 else 5 * dd + a.2.2) else if a.2.1 = 0 then (if a.2.2 = dd then dd + a.1 else 3 * dd - a.2.2) else (if a.1 = dd then 3 * dd + a.2.1 else 5 * dd - a.1)
theorem place_f {dd s : Int} {k : Nat} (d0 : 0 < dd) (hk : k < 6) (s0 : 0 ≤ s) (s1 : s ≤ dd) (h5 : k = 5 → s < dd) : (k : Int) * dd + s = pfI (dI k dd s) dd := by
  rcases lt6 k hk with rfl | rfl | rfl | rfl | rfl | rfl <;> simp only [dI, pfI] <;> push_cast <;> (repeat' split) <;> (first | lia | omega)
theorem place_uniq {dd s s' : Int} {k k' : Nat} (d0 : 0 < dd) (hk : k < 6) (hk' : k' < 6) (s0 : 0 ≤ s) (s1 : s ≤ dd) (s0' : 0 ≤ s') (s1' : s' ≤ dd) (h5 : k = 5 → s < dd) (h5' : k' = 5 → s' < dd) (e : dI k dd s = dI k' dd s') : (k : Int) * dd + s = (k' : Int) * dd + s' := by
  rw [place_f d0 hk s0 s1 h5, place_f d0 hk' s0' s1' h5', e]
end Mine
end

section -- R12
open PySem PySem.W PyProof.Rows
set_option Elab.async false
set_option linter.unusedVariables false
namespace Mine
theorem told_place {c : Col} {t : Nat} {x y : Int} (C : ColT c t x y) (ht : t < 6) (hy : 0 ≤ y) (hx : y ≤ x) (d0 : 0 < x + y) {k : Nat} {s : Int} (P : PlaceI c.1 c.2.1 c.2.2 (max3 c.1 c.2.1 c.2.2) (x + y) k s) : (k : Int) * (x + y) + s = t * (x + y) + y :=
  place_uniq d0 P.k6 ht P.t0 P.t1 hy (by (first | lia | omega)) P.k5 (fun _ => by (first | lia | omega)) (P.e.symm.trans C.e)
theorem mirror {D y a1 a2 a3 : Int} {t : Nat} (ht : t < 6) (e : (a1, a2, a3) = dI t D y) : (a1, a3, a2) = dI (5 - t) D (D - y) := by
  rcases lt6 t ht with rfl | rfl | rfl | rfl | rfl | rfl
  · have e : (a1, a2, a3) = (0, D - y, D) := e
    obtain ⟨e1, e2⟩ := Prod.mk.inj e
    obtain ⟨e2, e3⟩ := Prod.mk.inj e2
    show (a1, a3, a2) = (0, D, D - y)
    rw [e1, e2, e3]
  · have e : (a1, a2, a3) = (y, 0, D) := e
    obtain ⟨e1, e2⟩ := Prod.mk.inj e
    obtain ⟨e2, e3⟩ := Prod.mk.inj e2
    show (a1, a3, a2) = (D - (D - y), D, 0)
    rw [e1, e2, e3, ddI]
  · have e : (a1, a2, a3) = (D, 0, D - y) := e
    obtain ⟨e1, e2⟩ := Prod.mk.inj e
    obtain ⟨e2, e3⟩ := Prod.mk.inj e2
    show (a1, a3, a2) = (D, D - y, 0)
    rw [e1, e2, e3]
  · have e : (a1, a2, a3) = (D, y, 0) := e
    obtain ⟨e1, e2⟩ := Prod.mk.inj e
    obtain ⟨e2, e3⟩ := Prod.mk.inj e2
    show (a1, a3, a2) = (D, 0, D - (D - y))
    rw [e1, e2, e3, ddI]
  · have e : (a1, a2, a3) = (D - y, D, 0) := e
    obtain ⟨e1, e2⟩ := Prod.mk.inj e
    obtain ⟨e2, e3⟩ := Prod.mk.inj e2
    show (a1, a3, a2) = (D - y, 0, D)
    rw [e1, e2, e3]
  · have e : (a1, a2, a3) = (0, D, y) := e
    obtain ⟨e1, e2⟩ := Prod.mk.inj e
    obtain ⟨e2, e3⟩ := Prod.mk.inj e2
    show (a1, a3, a2) = (0, D - (D - y), D)
    rw [e1, e2, e3, ddI]
theorem fmod_is {a m r c : Int} (e : a = r + m * c) (h0 : 0 ≤ r) (h1 : r < m) : a.fmod m = r := by
  rw [Int.fmod_eq_emod_of_nonneg _ (by (first | lia | omega)), e, Int.add_mul_emod_self_left, Int.emod_eq_of_lt h0 h1]
theorem fdiv_is {a m r c : Int} (e : a = r + m * c) (h0 : 0 ≤ r) (h1 : r < m) : a.fdiv m = c := by
  rw [Int.fdiv_eq_ediv_of_nonneg _ (by (first | lia | omega)), e, Int.add_mul_ediv_left _ _ (by (first | lia | omega)), Int.ediv_eq_zero_of_lt h0 h1, Int.zero_add]
theorem t_le {t : Nat} (ht : t < 6) {D : Int} (d0 : 0 < D) : 0 ≤ (t : Int) * D ∧ (t : Int) * D ≤ 5 * D := ⟨Int.mul_nonneg (Int.natCast_nonneg t) (Int.le_of_lt d0), Int.mul_le_mul_of_nonneg_right (by (first | lia | omega)) (Int.le_of_lt d0)⟩
theorem oth_0 (d : Int) (h : 0 < d) : (-(((0 : Nat) : Int) * d + 0)).fmod (6 * d) = ((0 : Nat) : Int) * d + 0 := by
  rw [show ((0 : Nat) : Int) * d + 0 = 0 by push_cast; (first | lia | omega)]
  exact Int.zero_fmod _
theorem oth_1 {T d y : Int} (p : 0 < T + y) (q : T ≤ 5 * d) (r : y ≤ d) : (-(T + y)).fmod (6 * d) = 5 * d - T + (d - y) := fmod_is (c := -1) (by (first | lia | omega)) (by (first | lia | omega)) (by (first | lia | omega))
theorem five_sub {t : Nat} (ht : t < 6) (d : Int) : ((5 - t : Nat) : Int) * d = 5 * d - (t : Int) * d := by
  rw [show ((5 - t : Nat) : Int) = 5 - (t : Int) by (first | lia | omega), Int.sub_mul]
theorem tp_pos {t : Nat} {d y : Int} (d0 : 0 < d) (hy : 0 ≤ y) (z : ¬ (t = 0 ∧ y = 0)) : 0 < (t : Int) * d + y := by
  rcases Nat.eq_zero_or_pos t with rfl | q
  · have : y ≠ 0 := fun q => z ⟨rfl, q⟩
    push_cast; (first | lia | omega)
  · have a := Int.mul_le_mul_of_nonneg_right (show (1 : Int) ≤ (t : Int) by (first | lia | omega)) (Int.le_of_lt d0)
    generalize (t : Int) * d = T at *
    clear z
    (first | lia | omega)
theorem told_other {c : Col} {t : Nat} {x y : Int} (C : ColT c t x y) (ht : t < 6) (hy : 0 ≤ y) (hx : y ≤ x) (d0 : 0 < x + y) {k : Nat} {s : Int} (P : PlaceI c.1 c.2.2 c.2.1 (max3 c.1 c.2.2 c.2.1) (x + y) k s) :
    (-((t : Int) * (x + y) + y)).fmod (6 * (x + y)) = (k : Int) * (x + y) + s := by
  obtain ⟨⟨M, q1, q2, _⟩, _, _, e⟩ := C
  have pe := P.e
  rw [q2] at pe
  rw [q1] at e
  have me := mirror ht e
  by_cases z : t = 0 ∧ y = 0
  · obtain ⟨rfl, rfl⟩ := z
    have e0 : (M - c.1, M - c.2.2, M - c.2.1) = dI 0 (x + 0) 0 := by
      simp only [dI, Prod.mk.injEq] at e ⊢
      obtain ⟨a, b, d⟩ := e
      refine ⟨a, ?_, ?_⟩ <;> (first | lia | omega)
    have := place_uniq d0 P.k6 (k' := 0) (by decide) P.t0 P.t1 (s' := 0) (by decide) (by (first | lia | omega)) P.k5 (fun q => by cases q) (pe.symm.trans e0)
    rw [this]
    exact oth_0 _ d0
  · have yd : y < x + y := by (first | lia | omega)
    have this := place_uniq d0 P.k6 (k' := 5 - t) (Nat.lt_of_le_of_lt (Nat.sub_le ..) (by decide)) P.t0 P.t1 (s' := x + y - y) (Int.sub_nonneg_of_le (Int.le_of_lt yd)) (Int.sub_le_self _ hy) P.k5 (fun q => Int.sub_lt_self _ (Std.lt_of_le_of_ne hy fun q' => z ⟨by (first | lia | omega), q'.symm⟩)) (pe.symm.trans me)
    rw [this, five_sub ht]
    exact oth_1 (tp_pos d0 hy z) (t_le ht d0).2 (Int.le_of_lt yd)
theorem in_xy (n : Nat) : 0 ≤ (rd 7 n).1.2 ∧ (rd 7 n).1.2 ≤ (rd 7 n).1.1 := by
  obtain ⟨a, b, _⟩ := rd_in 7 n
  obtain ⟨p, q, _⟩ := c_pos _ (rd_h 7 n)
  constructor <;> (first | lia | omega)
theorem sum_lt {n : Nat} (h : n < 16 ^ 7) : (rd 7 n).1.1 + (rd 7 n).1.2 < 9 ^ nl n := by
  rw [← rd_nl h]; exact (rd_in (nl n) n).up
theorem sum_ge {n : Nat} (h : n < 16 ^ 7) (p : 0 < n) : 9 ^ (nl n - 1) ≤ (rd 7 n).1.1 + (rd 7 n).1.2 := by
  have := rd_low (nl n - 1) 7 n h (nl_ge p).2
  obtain ⟨_, _, q⟩ := c_pos _ (rd_h 7 n)
  (first | lia | omega)
theorem sum_pos {n : Nat} (h : n < 16 ^ 7) (p : 0 < n) : 0 < (rd 7 n).1.1 + (rd 7 n).1.2 := by
  have := rd_low 0 7 n h p
  obtain ⟨_, _, q⟩ := c_pos _ (rd_h 7 n)
  (first | lia | omega)
theorem beyond {t : Nat} (ht : t < 6) {x y : Int} (hy : 0 ≤ y) (hx : y ≤ x) (d0 : 0 < x + y) :
    (y < x → (2 * ((t : Int) * (x + y) + y)).fdiv (x + y) = 2 * t ∧ (2 * ((t : Int) * (x + y) + y)).fmod (x + y) = 2 * y) ∧ (¬ y < x → (2 * ((t : Int) * (x + y) + y)).fdiv (x + y) = 2 * t + 1 ∧ (2 * ((t : Int) * (x + y) + y)).fmod (x + y) = 0) := by
  have e : ∀ D : Int, 2 * ((t : Int) * D + y) = 2 * y + D * (2 * t) := fun D => by grind
  constructor
  · intro h
    exact ⟨fdiv_is (e _) (by (first | lia | omega)) (by (first | lia | omega)), fmod_is (e _) (by (first | lia | omega)) (by (first | lia | omega))⟩
  · intro h
    have e2 : 2 * ((t : Int) * (x + y) + y) = 0 + (x + y) * (2 * t + 1) := by rw [e, Int.mul_add (x + y)]; (first | lia | omega)
    exact ⟨fdiv_is e2 (by (first | lia | omega)) (by (first | lia | omega)), fmod_is e2 (by (first | lia | omega)) (by (first | lia | omega))⟩
theorem white_is {t n : Nat} (ht : t < 6) (h : n < 16 ^ 7) : (tot n (hdN n) t - (trn (rd 7 n).1 t).1 - 2 * (trn (rd 7 n).1 t).2).fdiv 3 = (mixN t n).2.2 ∧ (tot n (hdN n) t - (trn (rd 7 n).1 t).1 - 2 * (trn (rd 7 n).1 t).2).fmod 3 = 0 ∧
    (mixN t n).2.2 + (trn (rd 7 n).1 t).2 + (trn (rd 7 n).1 t).1 = (mixN t n).1 ∧ (mixN t n).2.2 + (trn (rd 7 n).1 t).2 = (mixN t n).2.1 := by
  have a := mix_trn ht n h
  have a1 : (mixN t n).1 - (mixN t n).2.1 = (trn (rd 7 n).1 t).1 := congrArg Prod.fst a
  have a2 : (mixN t n).2.1 - (mixN t n).2.2 = (trn (rd 7 n).1 t).2 := congrArg Prod.snd a
  have b : (mixN t n).1 + (mixN t n).2.1 + (mixN t n).2.2 = tot n (hdN n) t := mix_tot ht n h
  rw [← a1, ← a2, ← b]
  have e : (mixN t n).1 + (mixN t n).2.1 + (mixN t n).2.2 - ((mixN t n).1 - (mixN t n).2.1) - 2 * ((mixN t n).2.1 - (mixN t n).2.2) = 0 + 3 * (mixN t n).2.2 := by (first | lia | omega)
  exact ⟨fdiv_is e (by decide) (by decide), fmod_is e (by decide) (by decide), by (first | lia | omega), by (first | lia | omega)⟩
theorem mix_colT {t n : Nat} (ht : t < 6) (h : n < 16 ^ 7) : ColT (mixN t n) t (rd 7 n).1.1 (rd 7 n).1.2 := by
  obtain ⟨i1, i2⟩ := in_xy n
  have a := mix_trn ht n h
  exact colT (r := (mixN t n).1) (g := (mixN t n).2.1) (b := (mixN t n).2.2) ht i1 i2 (congrArg Prod.fst a) (congrArg Prod.snd a)
end Mine
end

section -- QL1
open PySem PySem.W PyProof.Rows
set_option Elab.async false
set_option linter.unusedVariables false
namespace Mine
open PySem.SeqAt PySem.Calls
noncomputable def s2 (ns cs : List Int) (N t : Nat) : St := [(S "turn", .int (t : Nat)), (S "number", .int (N : Nat)), (S "cells", .list (cs.map .int)), (S "script", .list (ns.map .int))]
theorem nat_of {a : Int} {m : Nat} (h0 : 0 ≤ a) (h1 : a < m) : ∃ n : Nat, a = n ∧ n < m := by
  obtain ⟨n, rfl⟩ := Int.eq_ofNat_of_zero_le h0
  exact ⟨n, rfl, by (first | lia | omega)⟩
theorem law_0 (ns : List Int) (hl : ns.length ≤ 63) {K Bk : Kst} {R : D → Prop}
    (h : ∀ cs N t, N < 16 ^ 6 → t < 6 → vcB cxLaw 77 (nmOf 21) ((bdOf 21).drop 3) (s2 ns cs N t) [S "cells"] K Bk R) : vcB cxLaw 80 (nmOf 21) (bdOf 21) [(S "script", .list (ns.map .int))] [] K Bk R := by
  conv => whnf
  have lm : (ns.map D.int).length = ns.length := List.length_map _
  refine ⟨(fun q => by cases q), by rw [lm]; (first | lia | omega), ?_⟩
  obtain ⟨cells, ec, lc⟩ := pick_ints ns none (some 60) none
  rw [ec]
  conv => whnf
  refine ⟨lf_ints _, ?_⟩
  conv => whnf
  refine ⟨rfl, ?_⟩
  conv => whnf
  obtain ⟨y1, e1, l1⟩ := pick_ints cells (some 0) none (some 2)
  refine ⟨(by decide), by rw [List.length_map]; (first | lia | omega), ?_⟩
  rw [e1]
  conv => whnf
  refine ⟨by rw [List.length_map]; (first | lia | omega), ?_⟩
  refine comp_ints (fun x => x.fmod (16 ^ 6)) (fun x K hK => ?_) ?_
  · conv => whnf
    refine ⟨(by decide), (by decide), sm40 (by decide), ?_⟩
    conv => whnf
    refine ⟨(by decide), ?_⟩
    exact hK
  conv => whnf
  refine ⟨_, ints_map _, ?_⟩
  generalize (List.map (fun x : Int => x.fmod (16 ^ 6)) y1).sum = s1
  conv => whnf
  refine ⟨(by decide), (by decide), sm40 (by decide), ?_⟩
  conv => whnf
  refine ⟨(by decide), ?_⟩
  conv => whnf
  refine ⟨rfl, ?_⟩
  obtain ⟨hn0, hn1⟩ := fmod_bd (a := 3166 + s1) (m := 16 ^ Int.toNat 6) (by decide)
  obtain ⟨N, eN, hN⟩ := nat_of (m := 16 ^ 6) hn0 hn1
  rw [eN]
  conv => whnf
  refine ⟨by rw [List.length_map]; (first | lia | omega), ?_⟩
  conv => whnf
  refine ⟨rfl, ?_⟩
  conv => whnf
  obtain ⟨y2, e2, l2⟩ := pick_ints cells (some 1) none (some 2)
  refine ⟨(by decide), by rw [List.length_map]; (first | lia | omega), ?_⟩
  rw [e2]
  conv => whnf
  refine ⟨by rw [List.length_map]; (first | lia | omega), ?_⟩
  refine comp_ints (fun x => x.fmod 6) (fun x K hK => ?_) ?_
  · conv => whnf
    refine ⟨(by decide), ?_⟩
    exact hK
  conv => whnf
  refine ⟨_, ints_map _, ?_⟩
  generalize (List.map (fun x : Int => x.fmod 6) y2).sum = s2
  conv => whnf
  refine ⟨(by decide), ?_⟩
  obtain ⟨ht0, ht1⟩ := fmod_bd (a := 5 + ((cells.map D.int).length : Int) + s2) (m := 6) (by decide)
  obtain ⟨t, et, ht⟩ := nat_of (m := 6) ht0 ht1
  rw [et]
  conv => whnf
  refine ⟨rfl, ?_⟩
  exact h cells N t hN ht
end Mine
end

section -- QL2
open PySem PySem.W PyProof.Rows
set_option Elab.async false
set_option linter.unusedVariables false
namespace Mine
open PySem.SeqAt PySem.Calls
theorem comp_rel {f : D → (D → Prop) → Prop} (R : D → D → Prop) (hl : ∀ d g, R d g → g.lf = true) : ∀ {items acc : List D} {Q : List D → Prop}, (∀ d ∈ items, ∀ K : D → Prop, (∀ g, R d g → K g) → f d K) → (∀ gs, All2 R items gs → Q (acc ++ gs)) → compVC f (fun _ K => K true) items acc Q
  | [], acc, Q, _, h => by
    have := h [] trivial
    rw [List.append_nil] at this
    exact this
  | d :: r, acc, Q, hf, h => by
    show (f d fun e => e.lf = true ∧ compVC f (fun _ K => K true) r (acc ++ [e]) Q)
    refine hf d (List.mem_cons_self ..) _ fun g hg => ⟨hl d g hg, comp_rel R hl (fun e he => hf e (List.mem_cons_of_mem _ he)) fun gs a => ?_⟩
    have := h (g :: gs) ⟨hg, a⟩
    rwa [List.append_assoc]
theorem range_mem {n : Nat} {d : D} (h : d ∈ rangeD n) : ∃ j, j < n ∧ d = .int (j : Nat) := by
  obtain ⟨j, hj, rfl⟩ := List.mem_map.mp h
  exact ⟨j, List.mem_range.mp hj, rfl⟩
theorem comp_nat {f : D → (D → Prop) → Prop} {n : Nat} (g : Nat → D) {Q : List D → Prop} (hf : ∀ j < n, ∀ K : D → Prop, K (g j) → f (.int (j : Nat)) K) (hl : ∀ j < n, (g j).lf = true) (h : Q ((List.range n).map g)) : compVC f (fun _ K => K true) (rangeD n) [] Q := by
  refine comp_rel (fun d e => ∃ j < n, d = .int (j : Nat) ∧ e = g j) (fun d e q => ?_) (fun d hd K hK => ?_) fun gs a => ?_
  · obtain ⟨j, hj, _, rfl⟩ := q; exact hl j hj
  · obtain ⟨j, hj, rfl⟩ := range_mem hd
    exact hf j hj K (hK _ ⟨j, hj, rfl, rfl⟩)
  · have key : ∀ (l : List Nat) (gs : List D), All2 (fun d e => ∃ j < n, d = .int (j : Nat) ∧ e = g j) (l.map fun i : Nat => D.int (i : Int)) gs → gs = l.map g := by
      intro l
      induction l with
      | nil => intro gs a; cases gs with
        | nil => rfl
        | cons => exact a.elim
      | cons i l ih => intro gs a; cases gs with
        | nil => exact a.elim
        | cons e gs =>
          obtain ⟨⟨j, _, e1, e2⟩, a⟩ := a
          have : j = i := by injection e1 with e1; (first | lia | omega)
          rw [ih gs a, e2, this]; rfl
    rw [List.nil_append, key _ gs a]; exact h
noncomputable def rowD (j : Nat) (hx : UInt64) : D := .tup [.int 1, .int 1, .int (j : Nat), .bool true, .flt hx]
theorem cor_mm : ∀ j < 6, max3 (cor j).1 (cor j).2.1 (cor j).2.2 = 1 ∧ min3 (cor j).1 (cor j).2.1 (cor j).2.2 = 0 ∧ (1 - (cor j).1, 1 - (cor j).2.1, 1 - (cor j).2.2) = dI j 1 0 := by decide +kernel
theorem cor_told {j : Nat} (hj : j < 6) {Q : D → Prop} (h : ∀ hx, HueOK hx (j : Rat) → Q (rowD j hx)) : spTold [cD (cor j)] Q := by
  obtain ⟨⟨z1, w1⟩, ⟨z2, w2⟩, ⟨z3, w3⟩⟩ := cor_bd j hj
  obtain ⟨m1, m2, e⟩ := cor_mm j hj
  have l : ∀ {v : Int}, v ≤ 1 → v ≤ 68719476736 := fun h => Int.le_trans h (by decide)
  refine ⟨_, _, _, rfl, ⟨z1, z2, z3, l w1, l w2, l w3⟩, fun q => ?_, fun _ k t hx F P et H => ?_⟩
  · rw [m1, m2] at q; exact absurd q (by decide)
  · rw [m1, m2] at P et ⊢
    have P : PlaceI (cor j).1 (cor j).2.1 (cor j).2.2 1 1 k t := P
    have u := place_uniq (dd := 1) (by decide) P.k6 hj P.t0 P.t1 (s' := 0) (by decide) (by decide) P.k5 (fun _ => by decide) (P.e.symm.trans e)
    have e2 : (k : Int) * (1 - 0) + t = (j : Nat) := by
      have : (j : Int) * 1 + 0 = (j : Int) := by (first | lia | omega)
      exact u.trans this
    rw [e2]
    refine h hx ?_
    have et : (1 : Rat) * F = (t : Rat) := by
      have : ((1 - 0 : Int) : Rat) = 1 := by decide
      rw [this] at et; exact et
    have q : (k : Rat) + F = (j : Rat) := by
      have u2 : (k : Int) + t = (j : Nat) := by (first | lia | omega)
      have u3 : ((k : Int) : Rat) + (t : Rat) = ((j : Int) : Rat) := by exact_mod_cast u2
      have : F = (t : Rat) := by rw [← et, Rat.one_mul]
      rw [this]
      exact_mod_cast u3
    rw [← q]; exact H
noncomputable def isRow (d g : D) : Prop := ∃ j hx, j < 6 ∧ d = .int (j : Nat) ∧ HueOK hx (j : Rat) ∧ g = rowD j hx
theorem row_at : ∀ {l : List Nat} {gs : List D}, All2 isRow (l.map fun i : Nat => D.int (i : Int)) gs → ∃ hs : List UInt64, gs = List.zipWith rowD l hs ∧ hs.length = l.length ∧ ∀ (k j : Nat) (h : UInt64), l[k]? = some j → hs[k]? = some h → HueOK h (j : Rat)
  | [], gs, a => by
    cases gs with
    | nil => exact ⟨[], rfl, rfl, fun _ _ _ h => by cases h⟩
    | cons => exact a.elim
  | j :: l, gs, a => by
    cases gs with
    | nil => exact a.elim
    | cons g gs =>
      obtain ⟨⟨j', hx, _, e1, H, rfl⟩, a⟩ := a
      obtain ⟨hs, rfl, e2, h⟩ := row_at a
      have : j' = j := by injection e1 with e1; (first | lia | omega)
      subst this
      refine ⟨hx :: hs, rfl, congrArg Nat.succ e2, fun k j h' q1 q2 => ?_⟩
      cases k with
      | zero => cases q1; cases q2; exact H
      | succ k => exact h k j h' q1 q2
theorem rows_of {gs : List D} (a : All2 isRow (rangeD 6) gs) : ∃ f : Nat → UInt64, gs = (List.range 6).map (fun j => rowD j (f j)) ∧ ∀ j < 6, HueOK (f j) (j : Rat) := by
  obtain ⟨hs, rfl, e, h⟩ := row_at (l := List.range 6) a
  have e : hs.length = 6 := e
  refine ⟨fun j => hs.getD j 0, ?_, fun j hj => ?_⟩
  · refine List.ext_getElem? fun k => ?_
    rw [List.getElem?_zipWith, List.getElem?_map]
    rcases Nat.lt_or_ge k 6 with q | q
    · have q' : k < hs.length := e ▸ q
      have g : hs.getD k 0 = hs[k] := by rw [List.getD_eq_getElem?_getD, List.getElem?_eq_getElem q']; rfl
      rw [List.getElem?_range q, List.getElem?_eq_getElem q']
      show some (rowD k hs[k]) = some (rowD k (hs.getD k 0))
      rw [g]
    · rw [List.getElem?_eq_none (by rw [List.length_range]; exact q)]; rfl
  · have q : j < hs.length := e ▸ hj
    refine h j j _ (List.getElem?_range hj) ?_
    show hs[j]? = some (hs.getD j 0)
    rw [List.getD_eq_getElem?_getD, List.getElem?_eq_getElem q]; rfl
noncomputable def hueD (r : D) : D := match r with
  | .tup ds => ds.getD 4 .none
  | _ => .none
noncomputable def s3 (ns cs : List Int) (N t : Nat) (rs : List D) : St := (S "rows", .list rs) :: s2 ns cs N t
theorem law_1 {ns cs : List Int} {N t : Nat} {K Bk : Kst} {R : D → Prop}
    (h : ∀ rs, All2 isRow (rangeD 6) rs → vcB cxLaw 76 (nmOf 21) ((bdOf 21).drop 4) (s3 ns cs N t rs) [S "rows", S "cells"] K Bk R) : vcB cxLaw 77 (nmOf 21) ((bdOf 21).drop 3) (s2 ns cs N t) [S "cells"] K Bk R := by
  conv => whnf
  refine ⟨rfl, rfl, ?_⟩
  conv => whnf
  refine ⟨by decide, by decide, ?_⟩
  conv => whnf
  refine ⟨by decide, comp_rel isRow (fun d g q => ?_) (fun d hd K hK => ?_) fun gs a => ?_⟩
  · obtain ⟨_, _, _, _, _, rfl⟩ := q; rfl
  · obtain ⟨j, hj, rfl⟩ := range_mem hd
    have e6 : ((j : Nat) : Int).fmod 6 = (j : Nat) := by rw [Int.fmod_eq_emod_of_nonneg _ (by decide)]; (first | lia | omega)
    conv => whnf
    refine ⟨_, j, rfl, hj, e6, ?_⟩
    exact cor_told hj fun hx H => hK _ ⟨j, hx, hj, rfl, H, rfl⟩
  · have lf : D.lfs gs = true := by
      obtain ⟨_, rfl, _⟩ := rows_of a
      rfl
    rw [List.nil_append]
    conv => whnf
    refine ⟨lf, ?_⟩
    exact h gs a
theorem rows_mem : ∀ {ds gs : List D}, All2 isRow ds gs → ∀ g ∈ gs, ∃ j hx, g = rowD j hx
  | [], [], _, g, h => by cases h
  | d :: ds, e :: gs, a, g, h => by
    rcases List.mem_cons.mp h with rfl | h
    · obtain ⟨⟨j, hx, _, _, _, e⟩, _⟩ := a; exact ⟨j, hx, e⟩
    · exact rows_mem a.2 g h
noncomputable def take4 (r : D) : D := match r with
  | .tup ds => .tup (ds.take 4)
  | _ => .none
noncomputable def row4 (j : Nat) : D := .tup [.int 1, .int 1, .int (j : Nat), .bool true]
noncomputable def s4 (ns cs : List Int) (N t : Nat) (rs hs : List D) : St := (S "hues", .list hs) :: s3 ns cs N t rs
theorem law_2 {ns cs : List Int} {N t : Nat} {rs : List D} {K Bk : Kst} {R : D → Prop} (a : All2 isRow (rangeD 6) rs)
    (h : ∀ hs, HuesOK hs → vcB cxLaw 74 (nmOf 21) ((bdOf 21).drop 6) (s4 ns cs N t rs hs) [S "hues", S "rows", S "cells"] K Bk R) : vcB cxLaw 76 (nmOf 21) ((bdOf 21).drop 4) (s3 ns cs N t rs) [S "rows", S "cells"] K Bk R := by
  obtain ⟨f, rfl, H⟩ := rows_of a
  have hh := h _ ⟨f, rfl, H⟩
  conv => whnf
  refine ⟨rfl, ?_⟩
  have mem := rows_mem a
  conv => whnf
  refine ⟨Nat.le_of_ble_eq_true rfl, ?_⟩
  refine comp_map (g := take4) (fun d hd K hK => ?_) (fun d hd => ?_) ?_
  · obtain ⟨j, hx, rfl⟩ := mem d hd
    conv => whnf
    refine ⟨rfl, rfl, ?_⟩
    conv => whnf
    refine ⟨by decide, ?_⟩
    exact ⟨(by decide : (4 : Int) < 5), Nat.le_of_ble_eq_true rfl, hK⟩
  · obtain ⟨j, hx, rfl⟩ := mem d hd
    rfl
  conv => whnf
  refine ⟨rfl, rfl, ?_⟩
  conv => whnf
  refine ⟨by decide, by decide, ?_⟩
  conv => whnf
  refine ⟨by decide, comp_nat row4 (fun j hj K hK => ?_) (fun j hj => rfl) ?_⟩
  · conv => whnf
    exact ⟨Nat.le_of_ble_eq_true rfl, hK⟩
  have q1 : (!eqD (.list ([] ++ List.map take4 ((List.range 6).map fun j => rowD j (f j)))) (.list (List.map row4 (List.range 6)))) = false := rfl
  conv => whnf
  refine ⟨rfl, Nat.le_of_ble_eq_true rfl, ?_⟩
  refine iteP_no q1 ?_
  conv => whnf
  refine ⟨rfl, ?_⟩
  conv => whnf
  refine ⟨Nat.le_of_ble_eq_true rfl, ?_⟩
  refine comp_map (g := hueD) (fun d hd K hK => ?_) (fun d hd => ?_) ?_
  · obtain ⟨j, hx, rfl⟩ := mem d hd
    conv => whnf
    exact ⟨idx_ok rfl, hK⟩
  · obtain ⟨j, hx, rfl⟩ := mem d hd
    rfl
  conv => whnf
  exact ⟨rfl, hh⟩
end Mine
end

section -- QL3
open PySem PySem.W PyProof.Rows
set_option Elab.async false
set_option linter.unusedVariables false
namespace Mine
open PySem.SeqAt PySem.Calls
noncomputable def liD (n : Nat) : D := cD (cor (hdN n))
noncomputable def beD (N t n : Nat) : D := cD (cor ((hdN (N + n) + t) % 6))
noncomputable def liL : List D := (List.range 16).map liD
noncomputable def beL (N t : Nat) : List D := (List.range 3).map (beD N t)
noncomputable def s5 (ns cs : List Int) (N t : Nat) (rs hs : List D) : St := (S "behind", .list (beL N t)) :: (S "lights", .list liL) :: s4 ns cs N t rs hs
theorem lf_map {α : Type} {f : α → D} (h : ∀ a, (f a).lf = true) : ∀ l : List α, D.lfs (l.map f) = true
  | [] => rfl
  | a :: l => by show ((f a).lf && D.lfs (l.map f)) = true; rw [h a, lf_map h l]; rfl
theorem deps_le {l : List D} (h : ∀ d ∈ l, d.dep ≤ 1) : D.deps l ≤ 1 := by
  induction l with
  | nil => exact Nat.zero_le _
  | cons d l ih => exact Nat.max_le.mpr ⟨h d (List.mem_cons_self ..), ih fun e he => h e (List.mem_cons_of_mem _ he)⟩
theorem lb_mem {N t : Nat} {d : D} (h : d ∈ liL ++ beL N t) : ∃ c, d = cD c := by
  rcases List.mem_append.mp h with h | h
  · obtain ⟨n, _, rfl⟩ := List.mem_map.mp h; exact ⟨_, rfl⟩
  · obtain ⟨n, _, rfl⟩ := List.mem_map.mp h; exact ⟨_, rfl⟩
theorem hdN_lt (n : Nat) : hdN n < 6 := rd_h 7 n
theorem law_3 {ns cs : List Int} {N t : Nat} {rs hs : List D} {K Bk : Kst} {R : D → Prop} (hN : N < 16 ^ 6) (ht : t < 6) (H : HuesOK hs)
    (h : vcB cxLaw 71 (nmOf 21) ((bdOf 21).drop 9) (s5 ns cs N t rs hs) [S "behind", S "lights", S "hues", S "rows", S "cells"] K Bk R) : vcB cxLaw 74 (nmOf 21) ((bdOf 21).drop 6) (s4 ns cs N t rs hs) [S "hues", S "rows", S "cells"] K Bk R := by
  conv => whnf
  refine ⟨rfl, rfl, ?_⟩
  conv => whnf
  refine ⟨by decide, by decide, ?_⟩
  conv => whnf
  refine ⟨by decide, comp_nat liD (fun j hj K hK => ?_) (fun j hj => rfl) ?_⟩
  · conv => whnf
    refine ⟨j, 0, hs, rfl, by (first | lia | omega), by decide, H, ?_⟩
    have e : ((rd 7 j).2 + 0) % 6 = hdN j := Nat.mod_eq_of_lt (rd_h 7 j)
    rw [e]
    exact hK
  conv => whnf
  refine ⟨lf_map (fun a => rfl) _, ?_⟩
  conv => whnf
  refine ⟨rfl, rfl, ?_⟩
  conv => whnf
  refine ⟨by decide, by decide, ?_⟩
  conv => whnf
  refine ⟨by decide, comp_nat (beD N t) (fun j hj K hK => ?_) (fun j hj => rfl) ?_⟩
  · conv => whnf
    exact ⟨N + j, t, hs, by push_cast; rfl, by (first | lia | omega), ht, H, hK⟩
  conv => whnf
  refine ⟨lf_map (fun a => rfl) _, ?_⟩
  conv => whnf
  refine ⟨by rw [List.length_map, List.length_map, List.length_range, List.length_range]; decide, ?_⟩
  conv => whnf
  refine ⟨List.all_eq_true.mpr (fun d hd => by obtain ⟨c, rfl⟩ := lb_mem hd; rfl), Nat.le_trans (deps_le fun d hd => by obtain ⟨c, rfl⟩ := lb_mem hd; exact Nat.le_refl _) (by decide), ?_⟩
  have q : ((liL ++ beL N t).any fun d => eqD d .none) = false := List.any_eq_false.mpr fun d hd => by obtain ⟨c, rfl⟩ := lb_mem hd; exact Bool.false_ne_true
  refine iteP_no q ?_
  exact h
end Mine
end

section -- QL4
open PySem PySem.W PyProof.Rows
set_option Elab.async false
set_option linter.unusedVariables false
namespace Mine
open PySem.SeqAt PySem.Calls
noncomputable def coD (j : Nat) : D := cD (cor j)
noncomputable def coL : List D := (List.range 6).map coD
noncomputable def s6 (ns cs : List Int) (N t : Nat) (rs hs : List D) : St := (S "heads", .list headsD) :: (S "y", .int 0) :: (S "x", .int 0) :: (S "marks", .list []) :: (S "corners", .list coL) :: s5 ns cs N t rs hs
theorem idx_cor : ∀ j < 6, (coL.all fun e => eqOK e (coD j)) = true ∧ (coL.findIdx? fun e => eqD e (coD j)) = some j := by
  intro j hj
  rcases lt6 j hj with rfl | rfl | rfl | rfl | rfl | rfl <;> exact ⟨rfl, rfl⟩
theorem hd_16 : ∀ n < 16, hdN n = hdT n := by decide +kernel
noncomputable def headD (d : D) : D := match coL.findIdx? (fun e => eqD e d) with
  | some j => .int (j : Nat)
  | none => .none
theorem heads_eq : liL.map headD = headsD := by
  unfold liL headsD
  rw [List.map_map]
  refine List.map_congr_left fun n hn => ?_
  have h16 := List.mem_range.mp hn
  show headD (coD (hdN n)) = _
  unfold headD
  rw [(idx_cor _ (hdN_lt n)).2, hd_16 n h16]
noncomputable def st9 : Stmt := ((bdOf 21).drop 9).headD default
noncomputable def e9 (i : Nat) : Expr := (tupX (asgX st9)).getD i default
theorem b_9 : ∃ k p p' k' p'', (bdOf 21).drop 9 = .Assign [.Tuple (tupX (tgtX st9)) k p''] (.Tuple [e9 0, e9 1, e9 2, e9 3] k' p) p' :: (bdOf 21).drop 10 := ⟨_, _, _, _, _, rfl⟩
theorem law_4a {ns cs : List Int} {N t : Nat} {rs hs : List D} {Q : D → Prop} (h : Q (.list coL)) : vcE cxLaw 70 (nmOf 21) (e9 0) (s5 ns cs N t rs hs) Q := by
  conv => whnf
  refine ⟨rfl, rfl, ?_⟩
  conv => whnf
  refine ⟨by decide, by decide, ?_⟩
  conv => whnf
  refine ⟨by decide, comp_nat coD (fun j hj K hK => ?_) (fun j hj => rfl) ?_⟩
  · have e6 : ((j : Nat) : Int).fmod 6 = (j : Nat) := by rw [Int.fmod_eq_emod_of_nonneg _ (by decide)]; (first | lia | omega)
    conv => whnf
    exact ⟨_, j, rfl, hj, e6, hK⟩
  exact h
theorem n_9 : namesOf (tupX (tgtX st9)) = some [S "corners", S "marks", S "x", S "y"] := rfl
theorem w_9 : swB (nmOf 21) (tupX (tgtX st9)) [e9 0, e9 1, e9 2, e9 3] = some none := rfl
theorem nil_9 {st : St} {Q : D → Prop} (h : Q (.list [])) : vcE cxLaw 70 (nmOf 21) (e9 1) st Q := ⟨Nat.le_of_ble_eq_true rfl, h⟩
noncomputable def s6' (ns cs : List Int) (N t : Nat) (rs hs : List D) : St := (S "y", .int 0) :: (S "x", .int 0) :: (S "marks", .list []) :: (S "corners", .list coL) :: s5 ns cs N t rs hs
theorem law_4b {ns cs : List Int} {N t : Nat} {rs hs : List D} {K Bk : Kst} {R : D → Prop}
    (h : vcB cxLaw 70 (nmOf 21) ((bdOf 21).drop 10) (s6' ns cs N t rs hs) [S "marks", S "corners", S "behind", S "lights", S "hues", S "rows", S "cells"] K Bk R) : vcB cxLaw 71 (nmOf 21) ((bdOf 21).drop 9) (s5 ns cs N t rs hs) [S "behind", S "lights", S "hues", S "rows", S "cells"] K Bk R := by
  obtain ⟨k, p, p', k', p'', e⟩ := b_9
  rw [e]
  exact vcB_asgT n_9 w_9 rfl (args4 (law_4a (nil_9 ⟨rfl, Nat.le_of_ble_eq_true rfl, h⟩)))
end Mine
end

section -- QL5
open PySem PySem.W PyProof.Rows
set_option Elab.async false
set_option linter.unusedVariables false
namespace Mine
open PySem.SeqAt PySem.Calls
theorem co_mem {d : D} (h : d ∈ coL) : ∃ c, d = cD c := by
  obtain ⟨n, _, rfl⟩ := List.mem_map.mp h; exact ⟨_, rfl⟩
theorem law_4c {ns cs : List Int} {N t : Nat} {rs hs : List D} {K Bk : Kst} {R : D → Prop}
    (h : vcB cxLaw 69 (nmOf 21) ((bdOf 21).drop 11) (s6 ns cs N t rs hs) [S "heads", S "marks", S "corners", S "behind", S "lights", S "hues", S "rows", S "cells"] K Bk R) : vcB cxLaw 70 (nmOf 21) ((bdOf 21).drop 10) (s6' ns cs N t rs hs) [S "marks", S "corners", S "behind", S "lights", S "hues", S "rows", S "cells"] K Bk R := by
  have dp : D.deps coL ≤ 60 := Nat.le_trans (deps_le fun d hd => by obtain ⟨c, rfl⟩ := co_mem hd; exact Nat.le_refl _) (by decide)
  conv => whnf
  refine ⟨rfl, ?_⟩
  conv => whnf
  refine ⟨Nat.le_of_ble_eq_true rfl, ?_⟩
  refine comp_map (g := headD) (fun d hd K hK => ?_) (fun d hd => ?_) ?_
  · obtain ⟨n, _, rfl⟩ := List.mem_map.mp hd
    obtain ⟨i1, i2⟩ := idx_cor _ (hdN_lt n)
    have e : headD (liD n) = .int (hdN n : Nat) := by
      show headD (coD (hdN n)) = _
      unfold headD
      rw [i2]
    rw [e] at hK
    conv => whnf
    refine ⟨rfl, ?_⟩
    conv => whnf
    exact ⟨i1, dp, Nat.le_of_ble_eq_true rfl, _, i2, hK⟩
  · obtain ⟨n, _, rfl⟩ := List.mem_map.mp hd
    show (headD (coD (hdN n))).lf = true
    unfold headD
    rw [(idx_cor _ (hdN_lt n)).2]
    rfl
  rw [List.nil_append, heads_eq]
  conv => whnf
  exact ⟨rfl, h⟩
noncomputable def mkE (j : Nat) : Int × Int := if j = 16 then (9, 0) else mkT j
theorem mkE_next : ∀ j < 16, mkE (j + 1) = ((mkE j).1 + (cor (hdT j)).1 - (cor (hdT j)).2.1, (mkE j).2 + (cor (hdT j)).2.1 - (cor (hdT j)).2.2) ∧ mkE j = mkT j := by decide +kernel
noncomputable def maD (j : Nat) : D := two (mkT j)
noncomputable def ow11 : List Str := [S "heads", S "marks", S "corners", S "behind", S "hues", S "rows", S "cells"]
noncomputable def sB (N t : Nat) (hs : List D) : St := [(S "heads", .list headsD), (S "behind", .list (beL N t)), (S "hues", .list hs), (S "turn", .int (t : Nat)), (S "number", .int (N : Nat))]
inductive MkI (N t : Nat) (hs : List D) (items : List D) : St → List Str → Prop
  | mk (j : Nat) (hj : j ≤ 16) (e : items = liL.drop j) :
    MkI N t hs items ((S "y", .int (mkE j).2) :: (S "x", .int (mkE j).1) :: (S "marks", .list ((List.range j).map maD)) :: sB N t hs) ow11
theorem li_step {j : Nat} {d : D} {rem : List D} (e : d :: rem = liL.drop j) : j < 16 ∧ d = liD j ∧ rem = liL.drop (j + 1) := by
  have len : liL.length = 16 := by simp [liL]
  have hj : j < 16 := by
    rcases Nat.lt_or_ge j 16 with h | h
    · exact h
    · rw [List.drop_eq_nil_of_le (by rw [len]; exact h)] at e; cases e
  rw [List.drop_eq_getElem_cons (by rw [len]; exact hj)] at e
  injection e with e1 e2
  exact ⟨hj, by rw [e1]; simp [liL], e2⟩
theorem li_end {j : Nat} (hj : j ≤ 16) (e : ([] : List D) = liL.drop j) : j = 16 := by
  have len : liL.length = 16 := by simp [liL]
  have := congrArg List.length e
  rw [List.length_drop, len, List.length_nil] at this
  (first | lia | omega)
theorem mark_step {N t j : Nat} {hs : List D} {Q Bk : Kst} {R : D → Prop} (hj : j < 16)
    (hQ : ∀ st, SubSt ((S "y", .int (mkE (j + 1)).2) :: (S "x", .int (mkE (j + 1)).1) :: (S "marks", .list ((List.range (j + 1)).map maD)) :: sB N t hs) st → Q st ow11) :
    vcB cxLaw 68 (nmOf 21) (forBody (bdOf 21) 0) ((S "light", liD j) :: (S "y", .int (mkE j).2) :: (S "x", .int (mkE j).1) :: (S "marks", .list ((List.range j).map maD)) :: sB N t hs) ow11 Q Bk R := by
  obtain ⟨e1, e2⟩ := mkE_next j hj
  have e3 : hdN j = hdT j := hd_16 j hj
  have em : D.list ((List.range j).map maD ++ [.tup [.int (mkE j).1, .int (mkE j).2]]) = .list ((List.range (j + 1)).map maD) := by
    rw [List.range_succ, List.map_append, e2]; rfl
  have ex : (mkE j).1 + (cor (hdN j)).1 - (cor (hdN j)).2.1 = (mkE (j + 1)).1 := by rw [e1, e3]
  have ey : (mkE j).2 + (cor (hdN j)).2.1 - (cor (hdN j)).2.2 = (mkE (j + 1)).2 := by rw [e1, e3]
  conv => whnf
  refine ⟨rfl, rfl, ?_⟩
  conv => whnf
  refine ⟨Nat.le_of_ble_eq_true rfl, rfl, by rw [List.length_map, List.length_range]; (first | lia | omega), ?_⟩
  conv => whnf
  refine ⟨idx_ok rfl, ?_⟩
  conv => whnf
  refine ⟨idx_ok rfl, ?_⟩
  conv => whnf
  refine ⟨idx_ok rfl, ?_⟩
  conv => whnf
  refine ⟨idx_ok rfl, ?_⟩
  conv => whnf
  refine ⟨rfl, Nat.le_of_ble_eq_true rfl, ?_⟩
  refine vcB_nil ?_
  exact hQ _ (.cons (congrArg (fun x => some (D.int x)) ey) (.cons (congrArg (fun x => some (D.int x)) ex) (.cons (congrArg some em) (.cons rfl (.cons rfl (.cons rfl (.cons rfl (.cons rfl .nil))))))))
theorem law_5 {ns cs : List Int} {N t : Nat} {rs hs : List D} {K Bk : Kst} {R : D → Prop}
    (h : vcB cxLaw 68 (nmOf 21) ((bdOf 21).drop 12) ((S "y", .int 0) :: (S "x", .int 9) :: (S "marks", .list marksD) :: sB N t hs) ow11 K Bk R) : vcB cxLaw 69 (nmOf 21) ((bdOf 21).drop 11) (s6 ns cs N t rs hs) [S "heads", S "marks", S "corners", S "behind", S "lights", S "hues", S "rows", S "cells"] K Bk R := by
  conv => whnf
  refine ⟨lf_map (fun a => rfl) _, fun items st ow => MkI N t hs items st ow, ⟨_, ?_, .mk 0 (by decide) rfl⟩, ?_, ?_⟩
  · exact .cons rfl (.cons rfl (.cons rfl (.cons rfl (.cons rfl (.cons rfl (.cons rfl (.cons rfl .nil)))))))
  · intro d r st ow hI
    generalize he : d :: r = items at hI
    cases hI with
    | mk j hj e =>
      rw [← he] at e
      obtain ⟨hj, rfl, er⟩ := li_step e
      exact mark_step hj fun st sub => ⟨_, sub, .mk (j + 1) hj er⟩
  · intro st ow hI
    generalize he : ([] : List D) = items at hI
    cases hI with
    | mk j hj e =>
      rw [← he] at e
      have := li_end hj e
      subst this
      exact h
end Mine
end

section -- QL6
open PySem PySem.W PyProof.Rows
set_option Elab.async false
set_option linter.unusedVariables false
namespace Mine
open PySem.SeqAt PySem.Calls
noncomputable def s12 (N t : Nat) (hs : List D) : St := (S "y", .int 0) :: (S "x", .int 9) :: (S "marks", .list marksD) :: sB N t hs
noncomputable def s14 (N t : Nat) (hs : List D) : St := (S "v", .int (trn (rd 7 N).1 t).2) :: (S "u", .int (trn (rd 7 N).1 t).1) :: (S "head", .int (hdN N : Nat)) :: (S "y", .int (rd 7 N).1.2) :: (S "x", .int (rd 7 N).1.1) :: s12 N t hs
theorem law_6 {N t : Nat} {hs : List D} {K Bk : Kst} {R : D → Prop} (hN : N < 16 ^ 6) (ht : t < 6)
    (h : vcB cxLaw 66 (nmOf 21) ((bdOf 21).drop 14) (s14 N t hs) ow11 K Bk R) : vcB cxLaw 68 (nmOf 21) ((bdOf 21).drop 12) (s12 N t hs) ow11 K Bk R := by
  have fm : ((t : Nat) : Int).fmod 6 = (t : Nat) := by rw [Int.fmod_eq_emod_of_nonneg _ (by decide)]; (first | lia | omega)
  conv => whnf
  refine ⟨N, rfl, by (first | lia | omega), ?_⟩
  conv => whnf
  refine ⟨rfl, rfl, ?_⟩
  conv => whnf
  refine ⟨_, _, _, t, rfl, ht, fm, ?_⟩
  conv => whnf
  exact ⟨rfl, rfl, h⟩
noncomputable def s16 (N t : Nat) (hs : List D) : St := (S "rest", .int 0) :: (S "white", .int (mixN t N).2.2) :: s14 N t hs
theorem law_7 {N t : Nat} {hs : List D} {K Bk : Kst} {R : D → Prop} (hN : N < 16 ^ 6) (ht : t < 6)
    (h : vcB cxLaw 65 (nmOf 21) ((bdOf 21).drop 15) (s16 N t hs) ow11 K Bk R) : vcB cxLaw 66 (nmOf 21) ((bdOf 21).drop 14) (s14 N t hs) ow11 K Bk R := by
  obtain ⟨w1, w2, _, _⟩ := white_is (n := N) ht (by (first | lia | omega))
  obtain ⟨_, _, b1, b2⟩ := mix_bd t N
  have w3 : tot N (hdN N) t - (trn (rd 7 N).1 t).1 - 2 * (trn (rd 7 N).1 t).2 = 3 * (mixN t N).2.2 := by
    have e := Int.mul_fdiv_add_fmod (tot N (hdN N) t - (trn (rd 7 N).1 t).1 - 2 * (trn (rd 7 N).1 t).2) 3
    rw [w1, w2] at e
    (first | lia | omega)
  conv => whnf
  refine ⟨_, _, _, rfl, ?_⟩
  conv => whnf
  refine ⟨.inl (by decide), ?_⟩
  conv => whnf
  refine ⟨_, _, rfl, ?_, by decide, trivial, ?_⟩
  · rw [w3]; exact ok99 (by (first | lia | omega)) (by decide)
  rw [w1, w2]
  conv => whnf
  exact ⟨rfl, rfl, h⟩
theorem law_8 {N t : Nat} {hs : List D} {K Bk : Kst} {R : D → Prop} (hN : N < 16 ^ 6) (ht : t < 6) (H : HuesOK hs)
    (h : vcB cxLaw 64 (nmOf 21) ((bdOf 21).drop 16) (s16 N t hs) ow11 K Bk R) : vcB cxLaw 65 (nmOf 21) ((bdOf 21).drop 15) (s16 N t hs) ow11 K Bk R := by
  obtain ⟨_, _, b1, b2⟩ := mix_bd t N
  obtain ⟨hx, _, g⟩ := H.get ht
  unfold s16 at *
  generalize (mixN t N).2.2 = W at *
  have w0 : W ≤ 1099511627776 := by (first | lia | omega)
  have m1 : max3 W W W = W := max_is (Int.le_refl _) (Int.le_refl _) (Int.le_refl _) (.inl rfl)
  have m2 : min3 W W W = W := min_is (Int.le_refl _) (Int.le_refl _) (Int.le_refl _) (.inl rfl)
  have q1 : (!eqD (.int 0) (.int 0)) = false := rfl
  have q2 : (!eqD (.tup [.flt 0, .flt 0, .int W]) (.tup [.int 0, .int 0, .int W])) = false := by
    show (!(eqD (.flt 0) (.int 0) && (eqD (.flt 0) (.int 0) && ((W == W) && true)))) = false
    rw [beq_self_eq_true, show eqD (.flt 0) (.int 0) = true by decide +kernel]; rfl
  have q3 : (!eqD (.tup [.int W, .int W, .int W]) (.tup [.int W, .int W, .int W])) = false := by
    rw [show eqD (.tup [.int W, .int W, .int W]) (.tup [.int W, .int W, .int W]) = true from eqDs_ints [W, W, W]]; rfl
  conv => whnf
  refine ⟨rfl, Nat.le_of_ble_eq_true rfl, ?_⟩
  refine iteP_no q1 ?_
  conv => whnf
  refine ⟨_, _, _, rfl, ⟨b1, b1, b1, w0, w0, w0⟩, fun _ => ?_, fun hc => absurd (m2.trans m1.symm) hc⟩
  rw [m1]
  conv => whnf
  refine ⟨Nat.le_of_ble_eq_true rfl, ?_⟩
  conv => whnf
  refine ⟨rfl, Nat.le_of_ble_eq_true rfl, ?_⟩
  refine iteP_no q2 ?_
  conv => whnf
  refine ⟨(g _ rfl).1, ?_⟩
  rw [(g _ rfl).2]
  conv => whnf
  refine .inr (.inl ⟨_, _, rfl, ?_⟩)
  conv => whnf
  refine ⟨Nat.le_of_ble_eq_true rfl, ?_⟩
  conv => whnf
  refine ⟨rfl, by decide, by decide, ?_⟩
  conv => whnf
  refine ⟨rfl, Nat.le_of_ble_eq_true rfl, ?_⟩
  refine iteP_no q3 ?_
  exact h
noncomputable def s17 (N t : Nat) (hs : List D) : St := (S "mix", cD (mixN t N)) :: s16 N t hs
theorem law_9 {N t : Nat} {hs : List D} {K Bk : Kst} {R : D → Prop} (hN : N < 16 ^ 6) (ht : t < 6)
    (h : vcB cxLaw 63 (nmOf 21) ((bdOf 21).drop 17) (s17 N t hs) ow11 K Bk R) : vcB cxLaw 64 (nmOf 21) ((bdOf 21).drop 16) (s16 N t hs) ow11 K Bk R := by
  obtain ⟨_, _, w1, w2⟩ := white_is (n := N) ht (by (first | lia | omega))
  conv => whnf
  refine ⟨Nat.le_of_ble_eq_true rfl, ?_⟩
  rw [w1, w2]
  conv => whnf
  exact ⟨rfl, h⟩
end Mine
end

section -- QL7
open PySem PySem.W PyProof.Rows
set_option Elab.async false
set_option linter.unusedVariables false
namespace Mine
open PySem.SeqAt PySem.Calls
noncomputable def toldD (M dd p : Int) (hx : UInt64) : D := .tup [.int M, .int dd, .int p, .bool true, .flt hx]
noncomputable def mM (N t : Nat) : Int := max3 (mixN t N).1 (mixN t N).2.1 (mixN t N).2.2
noncomputable def mD (N : Nat) : Int := (rd 7 N).1.1 + (rd 7 N).1.2
noncomputable def mP (N t : Nat) : Int := (t : Int) * mD N + (rd 7 N).1.2
noncomputable def mX (N : Nat) : Int := if 6 * mD N > 1 then 6 * mD N else 1
noncomputable def swC (c : Col) : Col := (c.1, c.2.2, c.2.1)
theorem told_any {c : Col} {dd p : Int} {Q : D → Prop} (b : (0 ≤ c.1 ∧ c.1 ≤ 68719476736) ∧ (0 ≤ c.2.1 ∧ c.2.1 ≤ 68719476736) ∧ (0 ≤ c.2.2 ∧ c.2.2 ≤ 68719476736)) (e : max3 c.1 c.2.1 c.2.2 - min3 c.1 c.2.1 c.2.2 = dd) (d0 : dd = 0 → p = 0)
    (k : 0 < dd → ∀ k s, PlaceI c.1 c.2.1 c.2.2 (max3 c.1 c.2.1 c.2.2) dd k s → (k : Int) * dd + s = p) (dn : 0 ≤ dd) (h : ∀ hx, Q (toldD (max3 c.1 c.2.1 c.2.2) dd p hx)) : spTold [cD c] Q := by
  obtain ⟨⟨z1, w1⟩, ⟨z2, w2⟩, z3, w3⟩ := b
  refine ⟨_, _, _, rfl, ⟨z1, z2, z3, w1, w2, w3⟩, fun q => ?_, fun q k' t hx F P _ _ => ?_⟩
  · have hD : dd = 0 := by rw [← e, q, Int.sub_self]
    have h0 := h 0
    rw [d0 hD, hD] at h0
    exact h0
  · rw [e] at P ⊢
    have pos : 0 < dd := by
      rcases Int.lt_or_eq_of_le dn with h | h
      · exact h
      · exact absurd (by (first | lia | omega)) q
    rw [k pos k' t P]
    exact h hx
theorem bd36 {v : Int} {N : Nat} (hN : N < 16 ^ 6) (h : v ≤ N) : v ≤ 68719476736 := by (first | lia | omega)
theorem told_mix {N t : Nat} (hN : N < 16 ^ 6) (ht : t < 6) {Q : D → Prop} (h : ∀ hx, Q (toldD (mM N t) (mD N) (mP N t) hx)) : spTold [cD (mixN t N)] Q := by
  obtain ⟨⟨a1, a2⟩, ⟨b1, b2⟩, c1, c2⟩ := mix_bd t N
  have C := mix_colT (n := N) ht (by (first | lia | omega))
  obtain ⟨i1, i2⟩ := in_xy N
  refine told_any ⟨⟨a1, bd36 hN a2⟩, ⟨b1, bd36 hN b2⟩, c1, bd36 hN c2⟩ C.m (fun q => ?_) (fun d0 k s P => told_place C ht i1 i2 d0 P) (by (first | lia | omega)) h
  show (t : Int) * ((rd 7 N).1.1 + (rd 7 N).1.2) + (rd 7 N).1.2 = 0
  rw [q]; (first | lia | omega)
theorem mix_sw {N t : Nat} (hN : N < 16 ^ 6) (ht : t < 6) : max3 (mixN t N).1 (mixN t N).2.2 (mixN t N).2.1 = mM N t := by
  obtain ⟨M, q1, q2, _⟩ := (mix_colT (n := N) ht (by (first | lia | omega))).M
  exact q2.trans q1.symm
theorem told_mix' {N t : Nat} (hN : N < 16 ^ 6) (ht : t < 6) {Q : D → Prop} (h : ∀ hx, Q (toldD (mM N t) (mD N) ((-mP N t).fmod (mX N)) hx)) : spTold [cD (swC (mixN t N))] Q := by
  obtain ⟨⟨a1, a2⟩, ⟨b1, b2⟩, c1, c2⟩ := mix_bd t N
  have C := mix_colT (n := N) ht (by (first | lia | omega))
  obtain ⟨i1, i2⟩ := in_xy N
  refine told_any (c := swC (mixN t N)) (p := (-mP N t).fmod (mX N)) ⟨⟨a1, bd36 hN a2⟩, ⟨c1, bd36 hN c2⟩, b1, bd36 hN b2⟩ C.m' (fun q => ?_) (fun d0 k s P => ?_) (by (first | lia | omega)) (fun hx => ?_)
  · have q : mD N = 0 := q
    have y0 : (rd 7 N).1.2 = 0 := by unfold mD at q; (first | lia | omega)
    show (-((t : Int) * mD N + (rd 7 N).1.2)).fmod (mX N) = 0
    rw [q, y0, Int.mul_zero]
    exact Int.zero_fmod _
  · have e := told_other C ht i1 i2 d0 P
    have d0 : 0 < mD N := d0
    show _ = (-mP N t).fmod (mX N)
    unfold mX
    rw [if_pos (by (first | lia | omega))]
    exact e.symm
  · have e := mix_sw hN ht
    have hh := h hx
    rw [← e] at hh
    exact hh
noncomputable def st17 : Stmt := ((bdOf 21).drop 17).headD default
noncomputable def e17 (i : Nat) : Expr := (tupX (asgX st17)).getD i default
theorem b_17 : ∃ k p p' k' p'', (bdOf 21).drop 17 = .Assign [.Tuple (tupX (tgtX st17)) k p''] (.Tuple [e17 0, e17 1] k' p) p' :: (bdOf 21).drop 18 := ⟨_, _, _, _, _, rfl⟩
theorem n_17 : namesOf (tupX (tgtX st17)) = some [S "told", S "other"] := rfl
theorem w_17 : ∃ sw, swB (nmOf 21) (tupX (tgtX st17)) [e17 0, e17 1] = some sw ∧ sw.isSome = true := ⟨_, rfl, rfl⟩
theorem law_10a {N t : Nat} {hs : List D} {Q : D → Prop} (h : spTold [cD (mixN t N)] Q) : vcE cxLaw 62 (nmOf 21) (e17 0) (s17 N t hs) Q := h
theorem law_10b {N t : Nat} {hs : List D} {Q : D → Prop} (h : spTold [cD (swC (mixN t N))] Q) : vcE cxLaw 62 (nmOf 21) (e17 1) (s17 N t hs) Q := by
  conv => whnf
  refine ⟨idx_ok rfl, ?_⟩
  conv => whnf
  refine ⟨idx_ok rfl, ?_⟩
  conv => whnf
  refine ⟨idx_ok rfl, ?_⟩
  conv => whnf
  refine ⟨Nat.le_of_ble_eq_true rfl, ?_⟩
  exact h
theorem law_10 {N t : Nat} {hs : List D} {K Bk : Kst} {R : D → Prop} (hN : N < 16 ^ 6) (ht : t < 6)
    (h : ∀ h1 h2, vcB cxLaw 62 (nmOf 21) ((bdOf 21).drop 18) ((S "told", toldD (mM N t) (mD N) (mP N t) h1) :: (S "other", toldD (mM N t) (mD N) ((-mP N t).fmod (mX N)) h2) :: s17 N t hs) ow11 K Bk R) : vcB cxLaw 63 (nmOf 21) ((bdOf 21).drop 17) (s17 N t hs) ow11 K Bk R := by
  obtain ⟨k, p, p', k', p'', e⟩ := b_17
  obtain ⟨sw, e1, e2⟩ := w_17
  rw [e]
  refine vcB_asgT n_17 e1 rfl (args2 (law_10a (told_mix hN ht fun h1 => law_10b (told_mix' hN ht fun h2 => ⟨rfl, Nat.le_of_ble_eq_true rfl, ?_⟩))))
  rw [e2]
  exact h h1 h2
noncomputable def s19 (N t : Nat) (hs : List D) (h1 h2 : UInt64) : St := (S "place", .int (mP N t)) :: (S "spread", .int (mD N)) :: (S "value", .int (mM N t)) :: (S "told", toldD (mM N t) (mD N) (mP N t) h1) :: (S "other", toldD (mM N t) (mD N) ((-mP N t).fmod (mX N)) h2) :: s17 N t hs
theorem law_11 {N t : Nat} {hs : List D} {h1 h2 : UInt64} {K Bk : Kst} {R : D → Prop}
    (h : vcB cxLaw 61 (nmOf 21) ((bdOf 21).drop 19) (s19 N t hs h1 h2) ow11 K Bk R) : vcB cxLaw 62 (nmOf 21) ((bdOf 21).drop 18) ((S "told", toldD (mM N t) (mD N) (mP N t) h1) :: (S "other", toldD (mM N t) (mD N) ((-mP N t).fmod (mX N)) h2) :: s17 N t hs) ow11 K Bk R := by
  conv => whnf
  refine ⟨rfl, rfl, ?_⟩
  conv => whnf
  refine ⟨by decide, ?_⟩
  conv => whnf
  refine ⟨(by decide : (3 : Int) < 5), Nat.le_of_ble_eq_true rfl, ?_⟩
  exact ⟨rfl, rfl, h⟩
theorem law_12 {N t : Nat} {hs : List D} {h1 h2 : UInt64} {K Bk : Kst} {R : D → Prop} (hN : N < 16 ^ 6) (ht : t < 6)
    (h : vcB cxLaw 60 (nmOf 21) ((bdOf 21).drop 20) (s19 N t hs h1 h2) ow11 K Bk R) : vcB cxLaw 61 (nmOf 21) ((bdOf 21).drop 19) (s19 N t hs h1 h2) ow11 K Bk R := by
  obtain ⟨M, q1, _, q2, q3, q4, q5⟩ := (mix_colT (n := N) ht (by (first | lia | omega))).M
  have q1 : mM N t = M := q1
  have hm : ∀ M', M' ∈ [(mixN t N).1, (mixN t N).2.1, (mixN t N).2.2] → (∀ a, a ∈ [(mixN t N).1, (mixN t N).2.1, (mixN t N).2.2] → a ≤ M') → M' = mM N t := by
    intro M' m1 m2
    rw [q1]
    refine Int.le_antisymm ?_ ?_
    · rcases List.mem_cons.mp m1 with rfl | m1
      · exact q3
      · rcases List.mem_cons.mp m1 with rfl | m1
        · exact q4
        · rcases List.mem_cons.mp m1 with rfl | m1
          · exact q5
          · cases m1
    · rcases q2 with e | e | e <;> rw [e]
      · exact m2 _ (List.mem_cons_self ..)
      · exact m2 _ (List.mem_cons_of_mem _ (List.mem_cons_self ..))
      · exact m2 _ (List.mem_cons_of_mem _ (List.mem_cons_of_mem _ (List.mem_cons_self ..)))
  unfold s19 toldD at *
  generalize hP : (-mP N t).fmod (mX N) = P' at *
  conv => whnf
  refine ⟨_, rfl, Nat.zero_lt_succ _, fun M' m1 m2 => ?_⟩
  rw [hm M' m1 m2]
  have f1 : (!eqD (.int (mM N t)) (.int (mM N t))) = false := by
    show (!(_ == _)) = false
    rw [beq_self_eq_true]; rfl
  conv => whnf
  refine ⟨rfl, Nat.le_of_ble_eq_true rfl, ?_⟩
  refine iteP_no f1 ?_
  conv => whnf
  refine ⟨idx_ok rfl, ?_⟩
  conv => whnf
  refine ⟨rfl, rfl, ?_⟩
  conv => whnf
  refine ⟨by decide, ?_⟩
  conv => whnf
  refine ⟨(by decide : (4 : Int) < 5), Nat.le_of_ble_eq_true rfl, ?_⟩
  conv => whnf
  refine ⟨.inl (by decide), ?_⟩
  conv => whnf
  have m0 : mX N ≠ 0 := by unfold mX; split <;> (first | lia | omega)
  have f2 : (!eqD (.tup [.int (mM N t), .int (mD N), .int P', .bool true]) (.tup [.int (mM N t), .int (mD N), .int ((-mP N t).fmod (mX N)), .bool true])) = false := by
    rw [hP]
    show (!((_ == _) && ((_ == _) && ((_ == _) && (true && true))))) = false
    rw [beq_self_eq_true, beq_self_eq_true, beq_self_eq_true]; rfl
  refine ⟨m0, ?_⟩
  conv => whnf
  refine ⟨Nat.le_of_ble_eq_true rfl, ?_⟩
  conv => whnf
  refine ⟨rfl, Nat.le_of_ble_eq_true rfl, ?_⟩
  refine iteP_no f2 ?_
  exact h
end Mine
end

section -- QL8
open PySem PySem.W PyProof.Rows
set_option Elab.async false
set_option linter.unusedVariables false
namespace Mine
open PySem.SeqAt PySem.Calls
noncomputable def dueD (N t : Nat) : D := if (rd 7 N).1.2 < (rd 7 N).1.1 then two (2 * (t : Int), 2 * (rd 7 N).1.2) else two (2 * (t : Int) + 1, 0)
noncomputable def beyD (N t : Nat) : D := if N = 0 then .none else dueD N t
theorem mD_zero {N : Nat} (hN : N < 16 ^ 6) : (mD N = 0 ↔ N = 0) ∧ 0 ≤ mD N ∧ mD N < 531441 := by
  obtain ⟨i1, i2⟩ := in_xy N
  refine ⟨⟨fun h => ?_, fun h => ?_⟩, by unfold mD; (first | lia | omega), ?_⟩
  · rcases Nat.eq_zero_or_pos N with z | z
    · exact z
    · have := sum_pos (n := N) (by (first | lia | omega)) z
      unfold mD at h; (first | lia | omega)
  · subst h
    unfold mD
    rw [rd_zero]; rfl
  · have := sum_lt (n := N) (by (first | lia | omega))
    have l := nl_le hN
    have p : 9 ^ nl N ≤ 9 ^ 6 := Nat.pow_le_pow_right (by decide) l
    have e : ((9 ^ nl N : Nat) : Int) = 9 ^ nl N := by push_cast; rfl
    unfold mD
    (first | lia | omega)
theorem bey_eq {N t : Nat} (hN : N < 16 ^ 6) (ht : t < 6) (p : 0 < N) : D.tup [.int ((2 * mP N t).fdiv (mD N)), .int ((2 * mP N t).fmod (mD N))] = beyD N t := by
  obtain ⟨i1, i2⟩ := in_xy N
  obtain ⟨b1, b2⟩ := beyond ht i1 i2 (sum_pos (n := N) (by (first | lia | omega)) p)
  unfold beyD dueD
  rw [if_neg (by (first | lia | omega))]
  show D.tup [.int ((2 * ((t : Int) * ((rd 7 N).1.1 + (rd 7 N).1.2) + (rd 7 N).1.2)).fdiv ((rd 7 N).1.1 + (rd 7 N).1.2)), .int ((2 * ((t : Int) * ((rd 7 N).1.1 + (rd 7 N).1.2) + (rd 7 N).1.2)).fmod ((rd 7 N).1.1 + (rd 7 N).1.2))] = _
  by_cases h : (rd 7 N).1.2 < (rd 7 N).1.1
  · rw [if_pos h, (b1 h).1, (b1 h).2]; rfl
  · rw [if_neg h, (b2 h).1, (b2 h).2]; rfl
theorem mP_bd {N t : Nat} (hN : N < 16 ^ 6) (ht : t < 6) : 0 ≤ mP N t ∧ mP N t ≤ 4000000 := by
  obtain ⟨i1, i2⟩ := in_xy N
  obtain ⟨_, d0, d1⟩ := mD_zero hN
  have a : (t : Int) * mD N ≤ 5 * mD N := Int.mul_le_mul_of_nonneg_right (by (first | lia | omega)) d0
  have b : 0 ≤ (t : Int) * mD N := Int.mul_nonneg (Int.natCast_nonneg t) d0
  unfold mP
  unfold mD at *
  constructor <;> (first | lia | omega)
theorem law_13 {N t : Nat} {hs : List D} {h1 h2 : UInt64} {K Bk : Kst} {R : D → Prop} (hN : N < 16 ^ 6) (ht : t < 6)
    (h : vcB cxLaw 59 (nmOf 21) ((bdOf 21).drop 21) ((S "beyond", beyD N t) :: s19 N t hs h1 h2) ow11 K Bk R) : vcB cxLaw 60 (nmOf 21) ((bdOf 21).drop 20) (s19 N t hs h1 h2) ow11 K Bk R := by
  obtain ⟨p0, p1⟩ := mP_bd hN ht
  obtain ⟨z, d0, d1⟩ := mD_zero hN
  conv => whnf
  refine ⟨rfl, rfl, rfl, ?_⟩
  conv => whnf
  refine ⟨rfl, rfl, ?_⟩
  conv => whnf
  refine ⟨.inl (by decide), ?_⟩
  conv => whnf
  refine iteP_intro (fun hz => ?_) fun hz => ?_
  · have hz : mD N = 0 := eq_of_beq hz
    have e : beyD N t = .none := if_pos (z.mp hz)
    rw [e] at h
    conv => whnf
    exact ⟨rfl, h⟩
  · have hz : mD N ≠ 0 := fun q => by rw [q] at hz; cases hz
    have p : 0 < N := Nat.pos_of_ne_zero fun q => hz (z.mpr q)
    rw [← bey_eq hN ht p] at h
    conv => whnf
    refine ⟨_, _, rfl, ok99 (by (first | lia | omega)) (by (first | lia | omega)), hz, trivial, ?_⟩
    conv => whnf
    exact ⟨rfl, rfl, h⟩
noncomputable def s21 (N t : Nat) (hs : List D) (h1 h2 : UInt64) : St := (S "due", dueD N t) :: (S "beyond", beyD N t) :: s19 N t hs h1 h2
theorem law_14 {N t : Nat} {hs : List D} {h1 h2 : UInt64} {K Bk : Kst} {R : D → Prop}
    (h : vcB cxLaw 58 (nmOf 21) ((bdOf 21).drop 22) (s21 N t hs h1 h2) ow11 K Bk R) : vcB cxLaw 59 (nmOf 21) ((bdOf 21).drop 21) ((S "beyond", beyD N t) :: s19 N t hs h1 h2) ow11 K Bk R := by
  unfold s21 dueD at h
  generalize beyD N t = by' at *
  conv => whnf
  refine iteP_intro (fun hc => ?_) fun hc => ?_
  · rw [if_pos (of_decide_eq_true hc)] at h
    conv => whnf
    refine ⟨.inl (by decide), ?_⟩
    conv => whnf
    refine ⟨.inl (by decide), ?_⟩
    conv => whnf
    refine ⟨Nat.le_of_ble_eq_true rfl, ?_⟩
    conv => whnf
    exact ⟨rfl, h⟩
  · rw [if_neg (of_decide_eq_false hc)] at h
    conv => whnf
    refine ⟨.inl (by decide), ?_⟩
    conv => whnf
    refine ⟨Nat.le_of_ble_eq_true rfl, ?_⟩
    conv => whnf
    exact ⟨rfl, h⟩
end Mine
end

section -- QL9
open PySem PySem.W PyProof.Rows
set_option Elab.async false
set_option linter.unusedVariables false
namespace Mine
open PySem.SeqAt PySem.Calls
noncomputable def s22 (N t : Nat) (hs : List D) (h1 h2 : UInt64) : St := (S "a", .int (rd 7 N).1.1) :: (S "b", .int (rd 7 N).1.2) :: (S "letters", .int (nl N : Nat)) :: s21 N t hs h1 h2
theorem law_15 {N t : Nat} {hs : List D} {h1 h2 : UInt64} {K Bk : Kst} {R : D → Prop} (hN : N < 16 ^ 6) (ht : t < 6)
    (h : vcB cxLaw 57 (nmOf 21) ((bdOf 21).drop 23) (s22 N t hs h1 h2) ow11 K Bk R) : vcB cxLaw 58 (nmOf 21) ((bdOf 21).drop 22) (s21 N t hs h1 h2) ow11 K Bk R := by
  have ea : ((t : Int) + 1) * mD N - mP N t = (rd 7 N).1.1 := by
    unfold mP
    rw [Int.add_mul, Int.one_mul]
    unfold mD; (first | lia | omega)
  have eb : mP N t - (t : Int) * mD N = (rd 7 N).1.2 := by unfold mP; (first | lia | omega)
  unfold s22 at h
  rw [← ea, ← eb] at h
  conv => whnf
  refine ⟨.inl (by (first | lia | omega)), ?_⟩
  conv => whnf
  refine ⟨.inl (by (first | lia | omega)), ?_⟩
  conv => whnf
  refine ⟨_, rfl, by rw [Int.natAbs_natCast]; exact Nat.lt_trans hN (by decide), ?_⟩
  rw [Int.natAbs_natCast]
  have la : (apL (N : Int)).length = nl N := ap_len _
  conv => whnf
  refine ⟨by rw [la]; exact Nat.le_trans (nl_le hN) (by decide), ?_⟩
  rw [la]
  conv => whnf
  refine ⟨rfl, Nat.le_of_ble_eq_true rfl, ?_⟩
  exact h
theorem due_ok (N t : Nat) : cmpOK (dueD N t) (dueD N t) = true ∧ (dueD N t).dep ≤ 60 ∧ (!eqD (dueD N t) (dueD N t)) = false := by
  have q : ∀ a b : Int, eqD (two (a, b)) (two (a, b)) = true := fun a b => eqDs_ints [a, b]
  unfold dueD
  split
  · exact ⟨rfl, Nat.le_of_ble_eq_true rfl, by rw [q]; rfl⟩
  · exact ⟨rfl, Nat.le_of_ble_eq_true rfl, by rw [q]; rfl⟩
theorem law_16 {N t : Nat} {hs : List D} {h1 h2 : UInt64} {K Bk : Kst} {R : D → Prop}
    (h : vcB cxLaw 56 (nmOf 21) ((bdOf 21).drop 24) (s22 N t hs h1 h2) ow11 K Bk R) : vcB cxLaw 57 (nmOf 21) ((bdOf 21).drop 23) (s22 N t hs h1 h2) ow11 K Bk R := by
  have f : (!eqD (.tup [.int (rd 7 N).1.1, .int (rd 7 N).1.2]) (.tup [.int (rd 7 N).1.1, .int (rd 7 N).1.2])) = false := by
    rw [show eqD (.tup [.int (rd 7 N).1.1, .int (rd 7 N).1.2]) (.tup [.int (rd 7 N).1.1, .int (rd 7 N).1.2]) = true from eqDs_ints [(rd 7 N).1.1, (rd 7 N).1.2]]; rfl
  conv => whnf
  refine ⟨rfl, Nat.le_of_ble_eq_true rfl, ?_⟩
  refine iteP_intro (fun hz => ?_) fun hz => ?_
  · have hz : N ≠ 0 := fun q => by subst q; cases hz
    have e : beyD N t = dueD N t := if_neg hz
    obtain ⟨d1, d2, d3⟩ := due_ok N t
    conv => whnf
    rw [e]
    refine ⟨d1, d2, ?_⟩
    refine iteP_no d3 ?_
    conv => whnf
    refine ⟨Nat.le_of_ble_eq_true rfl, ?_⟩
    conv => whnf
    refine ⟨Nat.le_of_ble_eq_true rfl, ?_⟩
    conv => whnf
    refine ⟨rfl, Nat.le_of_ble_eq_true rfl, ?_⟩
    refine iteP_no f ?_
    exact h
  · have hz : N = 0 := by
      have hz : ((N : Int) != 0) = false := hz
      have := bne_eq_false_iff_eq.mp hz
      (first | lia | omega)
    have e : beyD N t = .none := if_pos hz
    conv => whnf
    rw [e]
    refine ⟨rfl, Nat.le_of_ble_eq_true rfl, ?_⟩
    refine iteP_no rfl ?_
    conv => whnf
    refine ⟨Nat.le_of_ble_eq_true rfl, ?_⟩
    conv => whnf
    refine ⟨Nat.le_of_ble_eq_true rfl, ?_⟩
    conv => whnf
    refine ⟨rfl, Nat.le_of_ble_eq_true rfl, ?_⟩
    refine iteP_no f ?_
    exact h
theorem nine {N : Nat} (hN : N < 16 ^ 6) : ((9 : Int) ^ nl N).fdiv 9 ≤ mD N ∧ mD N < (9 : Int) ^ nl N := by
  refine ⟨?_, sum_lt (by (first | lia | omega))⟩
  rw [Int.fdiv_eq_ediv_of_nonneg _ (by decide)]
  rcases Nat.eq_zero_or_pos N with z | z
  · subst z
    have : nl 0 = 0 := Nat.le_zero.mp (nl_le (k := 0) (by decide))
    rw [this]
    exact (mD_zero hN).2.1
  · obtain ⟨n0, _⟩ := nl_ge z
    have g := sum_ge (n := N) (by (first | lia | omega)) z
    have e : nl N = (nl N - 1) + 1 := by (first | lia | omega)
    rw [e, Int.pow_succ, Int.mul_ediv_cancel _ (by decide)]
    exact g
theorem law_17 {N t : Nat} {hs : List D} {h1 h2 : UInt64} {K Bk : Kst} {R : D → Prop} (hN : N < 16 ^ 6)
    (h : vcB cxLaw 55 (nmOf 21) ((bdOf 21).drop 25) (s22 N t hs h1 h2) ow11 K Bk R) : vcB cxLaw 56 (nmOf 21) ((bdOf 21).drop 24) (s22 N t hs h1 h2) ow11 K Bk R := by
  obtain ⟨n1, n2⟩ := nine hN
  have l := nl_le hN
  conv => whnf
  refine ⟨by (first | lia | omega), by (first | lia | omega), sm40 (by decide), ?_⟩
  conv => whnf
  refine ⟨by decide, sm40 (by decide), ?_⟩
  conv => whnf
  refine iteP_yes (decide_eq_true n1) ?_
  conv => whnf
  refine ⟨by (first | lia | omega), by (first | lia | omega), sm40 (by decide), ?_⟩
  conv => whnf
  refine iteP_no (congrArg Bool.not (decide_eq_true n2)) ?_
  exact h
end Mine
end

section -- QLA
open PySem PySem.W PyProof.Rows
set_option Elab.async false
set_option linter.unusedVariables false
namespace Mine
open PySem.SeqAt PySem.Calls
noncomputable def ow25 : List Str := [S "heads", S "marks", S "corners", S "hues", S "rows", S "cells"]
noncomputable def sF (N t : Nat) : St := [(S "a", .int (rd 7 N).1.1), (S "b", .int (rd 7 N).1.2), (S "marks", .list marksD), (S "heads", .list headsD), (S "behind", .list (beL N t)), (S "turn", .int (t : Nat))]
noncomputable def sI (N t m : Nat) : St := (S "mix", cD (mixN t m)) :: (S "number", .int (m : Nat)) :: sF N t
theorem beh_step {N t m : Nat} {Q Bk : Kst} {R : D → Prop} (ht : t < 6) (hm : m + 1 < 16 ^ 7)
    (hQ : ∀ st, SubSt (sI N t (m + 1)) st → Q st ow25) :
    vcB cxLaw 54 (nmOf 21) (forBody (bdOf 21) 1) ((S "light", cD (cor ((hdN m + t) % 6))) :: sI N t m) ow25 Q Bk R := by
  have fm : ((t : Nat) : Int).fmod 6 = (t : Nat) := by rw [Int.fmod_eq_emod_of_nonneg _ (by decide)]; (first | lia | omega)
  have e1 : ((m : Nat) : Int) + 1 = ((m + 1 : Nat) : Int) := by push_cast; rfl
  have tr := mix_trn ht (m + 1) hm
  have to : sumC (mixN t (m + 1)) = tot ((m + 1 : Nat) : Int) (hdN (m + 1)) t := mix_tot ht (m + 1) hm
  conv => whnf
  rw [e1]
  refine ⟨rfl, ?_⟩
  conv => whnf
  refine ⟨idx_ok rfl, ?_⟩
  conv => whnf
  refine ⟨idx_ok rfl, ?_⟩
  conv => whnf
  refine ⟨idx_ok rfl, ?_⟩
  conv => whnf
  refine ⟨idx_ok rfl, ?_⟩
  conv => whnf
  refine ⟨idx_ok rfl, ?_⟩
  conv => whnf
  refine ⟨idx_ok rfl, ?_⟩
  conv => whnf
  refine ⟨Nat.le_of_ble_eq_true rfl, ?_⟩
  conv => whnf
  refine ⟨rfl, ?_⟩
  conv => whnf
  refine ⟨m + 1, rfl, hm, ?_⟩
  conv => whnf
  refine ⟨rfl, rfl, ?_⟩
  conv => whnf
  refine ⟨_, _, _, t, rfl, ht, fm, ?_⟩
  conv => whnf
  refine ⟨idx_ok rfl, ?_⟩
  conv => whnf
  refine ⟨idx_ok rfl, ?_⟩
  conv => whnf
  refine ⟨idx_ok rfl, ?_⟩
  conv => whnf
  refine ⟨idx_ok rfl, ?_⟩
  conv => whnf
  refine ⟨Nat.le_of_ble_eq_true rfl, ?_⟩
  conv => whnf
  refine ⟨rfl, Nat.le_of_ble_eq_true rfl, ?_⟩
  have f1 : (!eqD (two (trn (rd 7 (m + 1)).1 t)) (two ((mixN t (m + 1)).1 - (mixN t (m + 1)).2.1, (mixN t (m + 1)).2.1 - (mixN t (m + 1)).2.2))) = false := by
    rw [tr, show eqD (two (trn (rd 7 (m + 1)).1 t)) (two (trn (rd 7 (m + 1)).1 t)) = true from eqDs_ints [_, _]]; rfl
  refine iteP_no f1 ?_
  conv => whnf
  refine ⟨_, rfl, ?_⟩
  conv => whnf
  refine ⟨_, _, _, rfl, ?_⟩
  conv => whnf
  refine ⟨rfl, Nat.le_of_ble_eq_true rfl, ?_⟩
  have f2 : (!eqD (.int ([(mixN t (m + 1)).1, (mixN t (m + 1)).2.1, (mixN t (m + 1)).2.2].sum)) (.int (tot ((m + 1 : Nat) : Int) (hdN (m + 1)) t))) = false := by
    have e : [(mixN t (m + 1)).1, (mixN t (m + 1)).2.1, (mixN t (m + 1)).2.2].sum = sumC (mixN t (m + 1)) := by
      unfold sumC
      rw [List.sum_cons, List.sum_cons, List.sum_cons, List.sum_nil]
      (first | lia | omega)
    rw [e, to]
    show (!(_ == _)) = false
    rw [beq_self_eq_true]; rfl
  refine iteP_no f2 ?_
  refine vcB_nil ?_
  exact hQ _ (.cons rfl (.cons rfl (.cons rfl (.cons rfl (.cons rfl (.cons rfl (.cons rfl (.cons rfl .nil))))))))
inductive BhI (N t : Nat) (items : List D) : St → List Str → Prop
  | mk (j : Nat) (hj : j ≤ 3) (e : items = (beL N t).drop j) : BhI N t items (sI N t (N + j)) ow25
theorem be_step {N t j : Nat} {d : D} {rem : List D} (e : d :: rem = (beL N t).drop j) : j < 3 ∧ d = beD N t j ∧ rem = (beL N t).drop (j + 1) := by
  have len : (beL N t).length = 3 := by simp [beL]
  have hj : j < 3 := by
    rcases Nat.lt_or_ge j 3 with h | h
    · exact h
    · rw [List.drop_eq_nil_of_le (by rw [len]; exact h)] at e; cases e
  rw [List.drop_eq_getElem_cons (by rw [len]; exact hj)] at e
  injection e with e1 e2
  exact ⟨hj, by rw [e1]; simp [beL], e2⟩
theorem be_end {N t j : Nat} (hj : j ≤ 3) (e : ([] : List D) = (beL N t).drop j) : j = 3 := by
  have len : (beL N t).length = 3 := by simp [beL]
  have := congrArg List.length e
  rw [List.length_drop, len, List.length_nil] at this
  (first | lia | omega)
theorem law_18 {N t : Nat} {hs : List D} {h1 h2 : UInt64} {K Bk : Kst} {R : D → Prop} (hN : N < 16 ^ 6) (ht : t < 6)
    (h : vcB cxLaw 54 (nmOf 21) ((bdOf 21).drop 26) (sI N t (N + 3)) ow25 K Bk R) : vcB cxLaw 55 (nmOf 21) ((bdOf 21).drop 25) (s22 N t hs h1 h2) ow11 K Bk R := by
  conv => whnf
  refine ⟨lf_map (fun a => rfl) _, fun items st ow => BhI N t items st ow, ⟨_, ?_, .mk 0 (by decide) rfl⟩, ?_, ?_⟩
  · exact .cons rfl (.cons rfl (.cons rfl (.cons rfl (.cons rfl (.cons rfl (.cons rfl (.cons rfl .nil)))))))
  · intro d r st ow hI
    generalize he : d :: r = items at hI
    cases hI with
    | mk j hj e =>
      rw [← he] at e
      obtain ⟨hj, rfl, er⟩ := be_step e
      exact beh_step ht (by (first | lia | omega)) fun st sub => ⟨_, sub, .mk (j + 1) hj er⟩
  · intro st ow hI
    generalize he : ([] : List D) = items at hI
    cases hI with
    | mk j hj e =>
      rw [← he] at e
      have := be_end hj e
      subst this
      exact h
end Mine
end

section -- R13
open PySem PySem.W PyProof.Rows
set_option Elab.async false
set_option linter.unusedVariables false
namespace Mine
theorem rd7_step {M : Nat} (hM : M < 16 ^ 7) : rd 7 M = stp (rd 7 (M / 16)) (M % 16) := by
  show stp (rd 6 (M / 16)) (M % 16) = _
  rw [rd_more 6 (M / 16) (by (first | lia | omega)) 1]
noncomputable def stN (M e : Nat) : Nat := (hdN M + 6 - hdT e) % 6
theorem stN_lt (M e : Nat) : stN M e < 6 := Nat.mod_lt _ (by decide)
theorem hdT_lt : ∀ e < 16, hdT e < 6 := by decide +kernel
theorem fit_yes {M : Nat} (hM : M < 16 ^ 7) : stN M (M % 16) = hdN (M / 16) ∧ (trn (mkT (M % 16)) (stN M (M % 16))).1 - (rd 7 M).1.1 = -(9 * (rd 7 (M / 16)).1.1) ∧ (trn (mkT (M % 16)) (stN M (M % 16))).2 - (rd 7 M).1.2 = -(9 * (rd 7 (M / 16)).1.2) := by
  have e := rd7_step hM
  have hs : stN M (M % 16) = hdN (M / 16) := by
    unfold stN hdN
    rw [e]
    exact head_back _ (rd_h 7 _) _ (m16 M)
  refine ⟨hs, ?_, ?_⟩
  · rw [hs, e]
    show _ - (9 * (rd 7 (M / 16)).1.1 + (trn (mkT (M % 16)) (hdN (M / 16))).1) = _
    (first | lia | omega)
  · rw [hs, e]
    show _ - (9 * (rd 7 (M / 16)).1.2 + (trn (mkT (M % 16)) (hdN (M / 16))).2) = _
    (first | lia | omega)
theorem fit_no {M e : Nat} (hM : M < 16 ^ 7) (he : e < 16) (ne : e ≠ M % 16) : ¬ (((rd 7 M).1.1 - (trn (mkT e) (stN M e)).1) % 9 = 0 ∧ ((rd 7 M).1.2 - (trn (mkT e) (stN M e)).2) % 9 = 0) := by
  rintro ⟨h1, h2⟩
  have q := rd7_step hM
  unfold stN hdN at h1 h2
  rw [q] at h1 h2
  exact ne (stp_fit (rd 7 (M / 16)) (rd_h 7 _) (m16 M) he h1 h2).symm
theorem dgN_succ : ∀ j n : Nat, dgN (j + 1) n = dgN j n ++ [n / 16 ^ j % 16]
  | 0, n => by
    show [n % 16] = [n / 16 ^ 0 % 16]
    rw [Nat.pow_zero, Nat.div_one]
  | j + 1, n => by
    show n % 16 :: dgN (j + 1) (n / 16) = n % 16 :: dgN j (n / 16) ++ _
    rw [dgN_succ j (n / 16), Nat.div_div_eq_div_mul, Nat.pow_succ, Nat.mul_comm 16]
    rfl
theorem div_step (n j : Nat) : n / 16 ^ (j + 1) = n / 16 ^ j / 16 := by rw [Nat.div_div_eq_div_mul, Nat.pow_succ]
theorem left_iff {n j : Nat} (hj : j ≤ nl n) : (n / 16 ^ j = 0 → j = nl n) ∧ (n / 16 ^ j ≠ 0 → j + 1 ≤ nl n) := by
  have p : 0 < 16 ^ j := Nat.pow_pos (by decide)
  constructor
  · intro h
    have l : n < 16 ^ j := by
      have := Nat.lt_mul_div_succ n p
      rw [h] at this
      (first | lia | omega)
    have := nl_le l
    (first | lia | omega)
  · intro h
    rcases Nat.lt_or_ge j (nl n) with q | q
    · exact q
    · have e : j = nl n := Nat.le_antisymm hj q
      have := nl_lt n
      rw [← e] at this
      exact absurd (Nat.div_eq_of_lt this) h
theorem sub6 {h e : Nat} (hh : h < 6) (he : e < 6) : ((h : Int) - (e : Int)).fmod 6 = ((h + 6 - e) % 6 : Nat) := by
  rw [Int.fmod_eq_emod_of_nonneg _ (by decide)]
  (first | lia | omega)
theorem fdiv_n9 (a : Int) : (-(9 * a)).fdiv 9 = -a ∧ (-(9 * a)).fmod 9 = 0 ∧ (-(9 * a)).fdiv (-9) = a ∧ (-(9 * a)).fmod (-9) = 0 := by
  have e1 : (-(9 * a)) = 0 + 9 * (-a) := by (first | lia | omega)
  obtain ⟨n1, n2⟩ := neg_both (a := -(9 * a)) (b := -9) (by decide)
  have e2 : - -(9 * a) = 0 + 9 * a := by (first | lia | omega)
  refine ⟨fdiv_is e1 (by decide) (by decide), fmod_is e1 (by decide) (by decide), ?_, ?_⟩
  · rw [← n1]; exact fdiv_is e2 (by decide) (by decide)
  · rw [← n2]; rw [show (- -9 : Int) = 9 by decide, fmod_is e2 (by decide) (by decide)]; rfl
end Mine
end

section -- QLB
open PySem PySem.W PyProof.Rows
set_option Elab.async false
set_option linter.unusedVariables false
namespace Mine
open PySem.SeqAt PySem.Calls
noncomputable def natD (n : Nat) : D := .int n
noncomputable def ow27 : List Str := [S "word", S "heads", S "marks", S "corners", S "hues", S "rows", S "cells"]
noncomputable def ow28 : List Str := [S "fits", S "word", S "heads", S "marks", S "corners", S "hues", S "rows", S "cells"]
noncomputable def sL (N M : Nat) (ws : List D) : St := [(S "head", .int (hdN M : Nat)), (S "word", .list ws), (S "a", .int (rd 7 M).1.1), (S "b", .int (rd 7 M).1.2), (S "number", .int (N : Nat)), (S "marks", .list marksD), (S "heads", .list headsD)]
noncomputable def entD (M : Nat) : D := .tup [.int (M % 16 : Nat), two (-(rd 7 (M / 16)).1.1, 0), two ((rd 7 (M / 16)).1.2, 0), .int (hdN (M / 16) : Nat)]
noncomputable def fitsL (M i : Nat) : List D := if i ≤ M % 16 then [] else [entD M]
theorem fits_next {M e : Nat} : fitsL M (e + 1) = fitsL M e ++ (if e = M % 16 then [entD M] else []) := by
  unfold fitsL
  by_cases h : e = M % 16
  · rw [if_neg (by (first | lia | omega)), if_pos (by (first | lia | omega)), if_pos h]; rfl
  · rw [if_neg h, List.append_nil]
    by_cases q : e ≤ M % 16
    · rw [if_pos q, if_pos (by (first | lia | omega))]
    · rw [if_neg q, if_neg (by (first | lia | omega))]
theorem fit_iff {M e : Nat} (hM : M < 16 ^ 7) (he : e < 16) : (e = M % 16 → ((rd 7 M).1.1 - (trn (mkT e) (stN M e)).1).fmod 9 = 0 ∧ ((rd 7 M).1.2 - (trn (mkT e) (stN M e)).2).fmod 9 = 0) ∧ (((rd 7 M).1.1 - (trn (mkT e) (stN M e)).1).fmod 9 = 0 → ((rd 7 M).1.2 - (trn (mkT e) (stN M e)).2).fmod 9 = 0 → e = M % 16) := by
  have m9 : ∀ x : Int, x.fmod 9 = x % 9 := fun x => Int.fmod_eq_emod_of_nonneg _ (by decide)
  rw [m9, m9]
  constructor
  · rintro rfl
    obtain ⟨_, a, b⟩ := fit_yes hM
    constructor <;> (first | lia | omega)
  · intro h1 h2
    exact Classical.byContradiction fun q => fit_no hM he q ⟨h1, h2⟩
theorem rd_bd (n : Nat) : 0 ≤ (rd 7 n).1.2 ∧ (rd 7 n).1.2 ≤ 4782969 ∧ 0 ≤ (rd 7 n).1.1 ∧ (rd 7 n).1.1 ≤ 4782969 := by
  obtain ⟨i1, i2⟩ := in_xy n
  have u := (rd_in 7 n).up
  (first | lia | omega)
noncomputable def inB : List Stmt := forBody (forBody (bdOf 21) 2) 0
theorem fit_skip {M e : Nat} (q : e ≠ M % 16) : fitsL M (e + 1) = fitsL M e := by rw [fits_next, if_neg q, List.append_nil]
theorem fit_len {M e : Nat} : (fitsL M e).length ≤ 10000 := by unfold fitsL; split <;> exact Nat.le_of_ble_eq_true rfl
theorem fit_last {M e : Nat} (hM : M < 16 ^ 7) (q : e = M % 16) : fitsL M (e + 1) = fitsL M e ++ [.tup [.int (e : Nat), .tup [.int (-(rd 7 (M / 16)).1.1), .int 0], .tup [.int (rd 7 (M / 16)).1.2, .int 0], .int (stN M e : Nat)]] := by
  rw [fits_next, if_pos q, q, (fit_yes hM).1]; rfl
theorem fit_d1 {M e : Nat} (hM : M < 16 ^ 7) (q : e = M % 16) : (trn ((mkT e).1, (mkT e).2) (stN M e)).1 - (rd 7 M).1.1 = -(9 * (rd 7 (M / 16)).1.1) := by rw [q]; exact (fit_yes hM).2.1
theorem fit_d2 {M e : Nat} (hM : M < 16 ^ 7) (q : e = M % 16) : (trn ((mkT e).1, (mkT e).2) (stN M e)).2 - (rd 7 M).1.2 = -(9 * (rd 7 (M / 16)).1.2) := by rw [q]; exact (fit_yes hM).2.2
theorem ok_9 {x : Int} (h : 0 ≤ x ∧ x ≤ 4782969) : okDm (-(9 * x)) 9 ∧ okDm (-(9 * x)) (-9) := ⟨ok99 (by (first | lia | omega)) (by decide), ok99 (by (first | lia | omega)) (by decide)⟩
theorem fm_nn {n : Nat} (h : n < 6) : ((n : Nat) : Int).fmod 6 = (n : Nat) := by rw [Int.fmod_eq_emod_of_nonneg _ (by decide)]; (first | lia | omega)
theorem fit_step {N M e : Nat} {ws : List D} {Q Bk : Kst} {R : D → Prop} (hM : M < 16 ^ 6) (he : e < 16)
    (hQ : ∀ st, SubSt ((S "fits", .list (fitsL M (e + 1))) :: sL N M ws) st → Q st ow28) :
    vcB cxLaw 49 (nmOf 21) inB ((S "letter", .int (e : Nat)) :: (S "fits", .list (fitsL M e)) :: sL N M ws) ow28 Q Bk R := by
  have e0 : ((e : Nat) : Int) = e := rfl
  have h1 : idxOK (e : Int) marksD.length ∧ marksD.getD (idx (e : Int) marksD.length) .none = two (mkT e) := letter_at (fun d => two (mkT d)) he rfl
  have h2 : idxOK (e : Int) headsD.length ∧ headsD.getD (idx (e : Int) headsD.length) .none = .int (hdT e : Nat) := letter_at (fun d => D.int (hdT d : Nat)) he rfl
  have s6 := sub6 (hdN_lt M) (hdT_lt e he)
  have h7 : M < 16 ^ 7 := Nat.lt_trans hM (by decide)
  conv => whnf
  refine ⟨h2.1, ?_⟩
  rw [h2.2]
  conv => whnf
  refine ⟨by decide, ?_⟩
  rw [s6]
  conv => whnf
  refine ⟨rfl, ?_⟩
  conv => whnf
  refine ⟨h1.1, ?_⟩
  rw [h1.2]
  conv => whnf
  refine ⟨idx_ok rfl, ?_⟩
  conv => whnf
  refine ⟨h1.1, ?_⟩
  rw [h1.2]
  conv => whnf
  refine ⟨idx_ok rfl, ?_⟩
  conv => whnf
  refine ⟨_, _, _, stN M e, rfl, stN_lt M e, fm_nn (stN_lt M e), ?_⟩
  conv => whnf
  refine ⟨rfl, rfl, ?_⟩
  conv => whnf
  refine ⟨by decide, ?_⟩
  conv => whnf
  refine ⟨rfl, Nat.le_of_ble_eq_true rfl, ?_⟩
  refine iteP_intro (fun c1 => ?_) fun c1 => ?_
  · have c1 : ((rd 7 M).1.1 - (trn (mkT e) (stN M e)).1).fmod 9 = 0 := eq_of_beq c1
    conv => whnf
    refine ⟨by decide, ?_⟩
    conv => whnf
    refine ⟨rfl, Nat.le_of_ble_eq_true rfl, ?_⟩
    refine iteP_intro (fun c2 => ?_) fun c2 => ?_
    · have c2 : ((rd 7 M).1.2 - (trn (mkT e) (stN M e)).2).fmod 9 = 0 := eq_of_beq c2
      have q := (fit_iff h7 he).2 c1 c2
      have y2 := fit_d1 h7 q
      have y3 := fit_d2 h7 q
      have B := rd_bd (M / 16)
      have n1 := fdiv_n9 (rd 7 (M / 16)).1.1
      have n3 := fdiv_n9 (rd 7 (M / 16)).1.2
      rw [fit_last h7 q] at hQ
      conv => whnf
      refine ⟨rfl, rfl, ?_⟩
      conv => whnf
      refine ⟨_, _, rfl, ?_, by decide, trivial, ?_⟩
      · rw [y2]; exact (ok_9 B.2.2).1
      rw [y2, n1.1, n1.2.1]
      conv => whnf
      refine ⟨_, _, rfl, ?_, by decide, trivial, ?_⟩
      · rw [y3]; exact (ok_9 ⟨B.1, B.2.1⟩).2
      rw [y3, n3.2.2.1, n3.2.2.2]
      conv => whnf
      refine ⟨Nat.le_of_ble_eq_true rfl, rfl, fit_len, ?_⟩
      exact hQ _ (.cons rfl (.cons rfl (.cons rfl (.cons rfl (.cons rfl (.cons rfl (.cons rfl (.cons rfl .nil))))))))
    · have q : e ≠ M % 16 := fun q => by
        have := ((fit_iff h7 he).1 q).2
        have c2 : (((rd 7 M).1.2 - (trn (mkT e) (stN M e)).2).fmod 9 == 0) = false := c2
        rw [this] at c2; cases c2
      rw [fit_skip q] at hQ
      exact hQ _ (.cons rfl (.cons rfl (.cons rfl (.cons rfl (.cons rfl (.cons rfl (.cons rfl (.cons rfl .nil))))))))
  · have q : e ≠ M % 16 := fun q => by
      have := ((fit_iff h7 he).1 q).1
      have c1 : (((rd 7 M).1.1 - (trn (mkT e) (stN M e)).1).fmod 9 == 0) = false := c1
      rw [this] at c1; cases c1
    rw [fit_skip q] at hQ
    exact hQ _ (.cons rfl (.cons rfl (.cons rfl (.cons rfl (.cons rfl (.cons rfl (.cons rfl (.cons rfl .nil))))))))
inductive FitI (N M : Nat) (ws : List D) (items : List D) : St → List Str → Prop
  | mk (i : Nat) (hi : i ≤ 16) (e : items = (rangeD 16).drop i) : FitI N M ws items ((S "fits", .list (fitsL M i)) :: sL N M ws) ow28
noncomputable def stB : List Stmt := forBody (bdOf 21) 2
theorem down_fit {N M : Nat} {ws : List D} {d : D} {K Bk : Kst} {R : D → Prop} (hM : M < 16 ^ 6)
    (h : vcB cxLaw 49 (nmOf 21) (stB.drop 3) ((S "fits", .list [entD M]) :: sL N M ws) ow28 K Bk R) :
    vcB cxLaw 50 (nmOf 21) (stB.drop 2) ((S "fits", .list []) :: (S "step", d) :: sL N M ws) ow28 K Bk R := by
  conv => whnf
  refine ⟨rfl, ?_⟩
  conv => whnf
  refine ⟨by decide, by decide, ?_⟩
  conv => whnf
  refine ⟨rfl, fun items st ow => FitI N M ws items st ow, ⟨_, ?_, .mk 0 (by decide) rfl⟩, ?_, ?_⟩
  · exact .cons (congrArg (fun x => some (D.list x)) (if_pos (Nat.zero_le _)).symm) (.cons rfl (.cons rfl (.cons rfl (.cons rfl (.cons rfl (.cons rfl (.cons rfl .nil)))))))
  · intro d r st ow hI
    generalize he : d :: r = items at hI
    cases hI with
    | mk i hi e =>
      rw [← he] at e
      obtain ⟨hj, rfl, er⟩ := range_step e
      exact fit_step hM hj fun st sub => ⟨_, sub, .mk (i + 1) hj er⟩
  · intro st ow hI
    generalize he : ([] : List D) = items at hI
    cases hI with
    | mk i hi e =>
      rw [← he] at e
      have := range_end e
      have i16 : i = 16 := Nat.le_antisymm hi this
      subst i16
      have ef : fitsL M 16 = [entD M] := if_neg (by have := m16 M; (first | lia | omega))
      rw [ef]
      exact h
end Mine
end

section -- QLC
open PySem PySem.W PyProof.Rows
set_option Elab.async false
set_option linter.unusedVariables false
namespace Mine
open PySem.SeqAt PySem.Calls
theorem down_rest {N M : Nat} {ws : List D} {K Bk : Kst} {R : D → Prop} (hw : ws.length ≤ 10)
    (hQ : ∀ st, SubSt (sL N (M / 16) (ws ++ [natD (M % 16)])) st → K st ow28) :
    vcB cxLaw 49 (nmOf 21) (stB.drop 3) ((S "fits", .list [entD M]) :: sL N M ws) ow28 K Bk R := by
  have ea : - -(rd 7 (M / 16)).1.1 = (rd 7 (M / 16)).1.1 := Int.neg_neg _
  conv => whnf
  refine ⟨Nat.le_of_ble_eq_true rfl, ?_⟩
  conv => whnf
  refine ⟨rfl, Nat.le_of_ble_eq_true rfl, ?_⟩
  refine iteP_no rfl ?_
  conv => whnf
  refine ⟨idx_ok rfl, ?_⟩
  conv => whnf
  refine ⟨idx_ok rfl, ?_⟩
  conv => whnf
  refine ⟨idx_ok rfl, ?_⟩
  conv => whnf
  refine ⟨rfl, Nat.le_of_ble_eq_true rfl, ?_⟩
  refine iteP_no rfl ?_
  conv => whnf
  refine ⟨idx_ok rfl, ?_⟩
  conv => whnf
  refine ⟨idx_ok rfl, ?_⟩
  conv => whnf
  refine ⟨idx_ok rfl, ?_⟩
  conv => whnf
  refine ⟨rfl, Nat.le_of_ble_eq_true rfl, ?_⟩
  refine iteP_no rfl ?_
  conv => whnf
  refine ⟨idx_ok rfl, ?_⟩
  conv => whnf
  refine ⟨rfl, rfl, ?_⟩
  conv => whnf
  refine ⟨idx_ok rfl, ?_⟩
  conv => whnf
  refine ⟨idx_ok rfl, ?_⟩
  conv => whnf
  refine ⟨rfl, Nat.le_of_ble_eq_true rfl, ?_⟩
  conv => whnf
  refine ⟨rfl, rfl, ?_⟩
  conv => whnf
  refine ⟨rfl, by (first | lia | omega), ?_⟩
  exact hQ _ (.cons rfl (.cons rfl (.cons (congrArg (fun x => some (D.int x)) ea) (.cons rfl (.cons rfl (.cons rfl (.cons rfl .nil)))))))
theorem down_open {N M : Nat} {ws : List D} {d : D} {ow : List Str} {K Bk : Kst} {R : D → Prop} (ho : ow = ow27 ∨ ow = ow28) (hM : M < 16 ^ 6) (h0 : M = 0 → Bk ((S "step", d) :: sL N M ws) ow)
    (h : M ≠ 0 → vcB cxLaw 50 (nmOf 21) (stB.drop 2) ((S "fits", .list []) :: (S "step", d) :: sL N M ws) ow28 K Bk R) :
    vcB cxLaw 52 (nmOf 21) stB ((S "step", d) :: sL N M ws) ow K Bk R := by
  conv => whnf
  refine ⟨Nat.le_of_ble_eq_true rfl, ?_⟩
  conv => whnf
  refine ⟨Nat.le_of_ble_eq_true rfl, ?_⟩
  conv => whnf
  refine ⟨rfl, Nat.le_of_ble_eq_true rfl, ?_⟩
  have e : eqD (.tup [.int (rd 7 M).1.1, .int (rd 7 M).1.2]) (.tup [.int 0, .int 0]) = ((rd 7 M).1.1 == 0 && ((rd 7 M).1.2 == 0 && true)) := rfl
  by_cases z : M = 0
  · have q : eqD (.tup [.int (rd 7 M).1.1, .int (rd 7 M).1.2]) (.tup [.int 0, .int 0]) = true := by
      rw [e, z, rd_zero]; rfl
    exact iteP_yes q (h0 z)
  · have q : eqD (.tup [.int (rd 7 M).1.1, .int (rd 7 M).1.2]) (.tup [.int 0, .int 0]) = false := by
      have p := sum_pos (n := M) (by (first | lia | omega)) (Nat.pos_of_ne_zero z)
      obtain ⟨i1, i2⟩ := in_xy M
      rw [e]
      have : ((rd 7 M).1.1 == 0) = false := beq_false_of_ne (by (first | lia | omega))
      rw [this]; rfl
    refine iteP_no q ?_
    conv => whnf
    refine ⟨Nat.le_of_ble_eq_true rfl, ?_⟩
    conv => whnf
    rcases ho with rfl | rfl
    · exact ⟨rfl, h z⟩
    · exact ⟨rfl, h z⟩
noncomputable def wsN (N j : Nat) : List D := (dgN j N).map natD
theorem ws_next (N j : Nat) : wsN N j ++ [natD (N / 16 ^ j % 16)] = wsN N (j + 1) := by
  unfold wsN
  rw [dgN_succ, List.map_append]; rfl
inductive DnI (N : Nat) (items : List D) : St → List Str → Prop
  | mk (j : Nat) (ow : List Str) (hj : j ≤ nl N) (e : items = (rangeD 8).drop j) (ho : ow = ow27 ∨ ow = ow28) : DnI N items (sL N (N / 16 ^ j) (wsN N j)) ow
end Mine
end

section -- QLD
open PySem PySem.W PyProof.Rows
set_option Elab.async false
set_option linter.unusedVariables false
namespace Mine
open PySem.SeqAt PySem.Calls
noncomputable def st26 : Stmt := ((bdOf 21).drop 26).headD default
noncomputable def e26 (i : Nat) : Expr := (tupX (asgX st26)).getD i default
theorem b_26 : ∃ k p p' k' p'', (bdOf 21).drop 26 = .Assign [.Tuple (tupX (tgtX st26)) k p''] (.Tuple [e26 0, e26 1, e26 2] k' p) p' :: (bdOf 21).drop 27 := ⟨_, _, _, _, _, rfl⟩
theorem n_26 : namesOf (tupX (tgtX st26)) = some [S "number", S "word", S "head"] := rfl
theorem w_26 : swB (nmOf 21) (tupX (tgtX st26)) [e26 0, e26 1, e26 2] = some none := rfl
theorem head_sub {h t : Nat} (hh : h < 6) (ht : t < 6) : (((h + t) % 6 : Nat) : Int) - (t : Int) = ((h + t) % 6 : Nat) - (t : Int) ∧ ((((h + t) % 6 : Nat) : Int) - (t : Int)).fmod 6 = (h : Nat) := by
  refine ⟨rfl, ?_⟩
  rw [Int.fmod_eq_emod_of_nonneg _ (by decide)]
  (first | lia | omega)
theorem e26_2 {N t : Nat} {Q : D → Prop} (ht : t < 6) (h : Q (.int (hdN N : Nat))) : vcE cxLaw 53 (nmOf 21) (e26 2) (sI N t (N + 3)) Q := by
  have e0 : beD N t 0 = cD (cor ((hdN N + t) % 6)) := rfl
  obtain ⟨_, hs⟩ := head_sub (hdN_lt N) ht
  conv => whnf
  refine ⟨idx_ok rfl, ?_⟩
  rw [show (beL N t).getD (idx 0 (beL N t).length) .none = cD (cor ((hdN N + t) % 6)) from rfl]
  simp only [List.map_nil, argsVC]
  refine cor_told (j := (hdN N + t) % 6) (Nat.mod_lt _ (by decide)) fun hx H => ?_
  conv => whnf
  refine ⟨idx_ok rfl, ?_⟩
  conv => whnf
  refine ⟨by decide, ?_⟩
  have h' := h
  rw [← hs] at h'
  exact h'
theorem e26_0 {N t : Nat} {Q : D → Prop} (h : Q (.int (N : Nat))) : vcE cxLaw 53 (nmOf 21) (e26 0) (sI N t (N + 3)) Q := by
  have e3 : (((N + 3 : Nat)) : Int) - 3 = (N : Nat) := by push_cast; (first | lia | omega)
  have h' := h
  rw [← e3] at h'
  exact h'
theorem nil_26 {st : St} {Q : D → Prop} (h : Q (.list [])) : vcE cxLaw 53 (nmOf 21) (e26 1) st Q := ⟨Nat.le_of_ble_eq_true rfl, h⟩
theorem law_19 {N t : Nat} {K Bk : Kst} {R : D → Prop} (ht : t < 6)
    (h : vcB cxLaw 53 (nmOf 21) ((bdOf 21).drop 27) ((S "head", .int (hdN N : Nat)) :: (S "word", .list []) :: (S "number", .int (N : Nat)) :: sI N t (N + 3)) ow27 K Bk R) : vcB cxLaw 54 (nmOf 21) ((bdOf 21).drop 26) (sI N t (N + 3)) ow25 K Bk R := by
  obtain ⟨k, p, p', k', p'', e⟩ := b_26
  rw [e]
  exact vcB_asgT n_26 w_26 rfl (args3 (e26_0 (nil_26 (e26_2 ht ⟨rfl, Nat.le_of_ble_eq_true rfl, h⟩))))
end Mine
end

section -- QLE
open PySem PySem.W PyProof.Rows
set_option Elab.async false
set_option linter.unusedVariables false
namespace Mine
open PySem.SeqAt PySem.Calls
theorem ws_len (N j : Nat) : (wsN N j).length = j := by unfold wsN; rw [List.length_map, dgN_len]
theorem law_20 {N t : Nat} {K Bk : Kst} {R : D → Prop} (hN : N < 16 ^ 6)
    (h : ∀ d ow, (ow = ow27 ∨ ow = ow28) → vcB cxLaw 52 (nmOf 21) ((bdOf 21).drop 28) ((S "step", d) :: sL N 0 (wsN N (nl N))) ow K Bk R) :
    vcB cxLaw 53 (nmOf 21) ((bdOf 21).drop 27) ((S "head", .int (hdN N : Nat)) :: (S "word", .list []) :: (S "number", .int (N : Nat)) :: sI N t (N + 3)) ow27 K Bk R := by
  have l6 := nl_le hN
  conv => whnf
  refine ⟨rfl, ?_⟩
  conv => whnf
  refine ⟨by decide, by decide, ?_⟩
  conv => whnf
  refine ⟨rfl, fun items st ow => DnI N items st ow, ⟨_, ?_, .mk 0 ow27 (Nat.zero_le _) rfl (.inl rfl)⟩, ?_, ?_⟩
  · rw [Nat.pow_zero, Nat.div_one]
    exact .cons rfl (.cons rfl (.cons rfl (.cons rfl (.cons rfl (.cons rfl (.cons rfl .nil))))))
  · intro d r st ow hI
    generalize he : d :: r = items at hI
    cases hI with
    | mk j ow hj e ho =>
      rw [← he] at e
      obtain ⟨hj8, rfl, er⟩ := range_step e
      obtain ⟨z0, z1⟩ := left_iff hj
      have hM : N / 16 ^ j < 16 ^ 6 := Nat.lt_of_le_of_lt (Nat.div_le_self ..) hN
      have w : without (S "step") ow = ow := by rcases ho with rfl | rfl <;> rfl
      show vcB cxLaw 52 (nmOf 21) stB ((S "step", .int (j : Nat)) :: sL N (N / 16 ^ j) (wsN N j)) (without (S "step") ow) _ _ R
      rw [w]
      refine down_open ho hM (fun z => ?_) fun z => down_fit hM (down_rest (by rw [ws_len]; (first | lia | omega)) fun st sub => ?_)
      · rw [z, z0 z]
        exact h _ ow ho
      · rw [ws_next, ← div_step] at sub
        exact ⟨_, sub, .mk (j + 1) ow28 (z1 z) er (.inr rfl)⟩
  · intro st ow hI
    generalize he : ([] : List D) = items at hI
    cases hI with
    | mk j ow hj e ho =>
      rw [← he] at e
      have := range_end e
      (first | lia | omega)
end Mine
end

section -- QLF
open PySem PySem.W PyProof.Rows
set_option Elab.async false
set_option linter.unusedVariables false
namespace Mine
open PySem.SeqAt PySem.Calls
noncomputable def dsN (N : Nat) : List Int := digs 4 (nl N) (N : Int)
theorem ds_ws (N : Nat) : wsN N (nl N) = (dsN N).map .int := by
  unfold wsN dsN
  rw [digs_nat, List.map_map]; rfl
theorem ok_dg {N : Nat} (hN : N < 16 ^ 6) : okDg (N : Int) 4 := by
  refine ⟨by decide, by decide, Int.natCast_nonneg N, ?_⟩
  refine (PySem.intBits_le_iff (x := (N : Int)) (m := 100)).mpr ?_
  rw [Int.natAbs_natCast]
  exact Nat.lt_trans hN (by decide)
theorem lt_pw (N : Nat) : (N : Int) < 2 ^ (4 * nl N) := by
  rw [← pow_16]; exact Int.ofNat_lt.mpr (nl_lt N)
theorem law_21 {N : Nat} {d : D} {ow : List Str} {K Bk : Kst} {R : D → Prop} (ho : ow = ow27 ∨ ow = ow28) (hN : N < 16 ^ 6) (hR : R (.bool true)) :
    vcB cxLaw 52 (nmOf 21) ((bdOf 21).drop 28) ((S "step", d) :: sL N 0 (wsN N (nl N))) ow K Bk R := by
  have l6 := nl_le hN
  have okd := ok_dg hN
  have len : (dsN N).length = nl N := digs_length ..
  have dg : DgOK 4 (dsN N) := ⟨by decide, by rw [len]; (first | lia | omega), fun x hx => digs_lt 4 _ _ x hx⟩
  have vl : dval 4 (dsN N) = (N : Int) := dval_digs 4 (nl N) N (Int.natCast_nonneg N) (lt_pw N)
  have ea : digs 4 (nd (N : Int) 4) (N : Int) = dsN N := rfl
  rw [ds_ws]
  generalize hx : dsN N = xs at *
  have eo := eqOKs_ints xs xs
  have dp : (D.list (xs.map .int)).dep ≤ 60 := by show D.deps (xs.map .int) + 1 ≤ 60; rw [deps_ints]; decide
  have q1 : (!eqD (.list (xs.map .int)) (.list (xs.map .int))) = false := by
    rw [show eqD (.list (xs.map .int)) (.list (xs.map .int)) = true from eqDs_ints xs]; rfl
  have q2 : (!eqD (.int (dval 4 xs)) (.int (N : Nat))) = false := by
    rw [vl]
    show (!(_ == _)) = false
    rw [beq_self_eq_true]; rfl
  conv => whnf
  refine ⟨_, 4, rfl, okd, ?_⟩
  rw [ea]
  conv => whnf
  refine ⟨lf_ints xs, ?_⟩
  conv => whnf
  refine ⟨eo, dp, ?_⟩
  refine iteP_no q1 ?_
  conv => whnf
  refine ⟨xs, 4, rfl, dg, ?_⟩
  conv => whnf
  refine ⟨rfl, Nat.le_of_ble_eq_true rfl, ?_⟩
  refine iteP_no q2 ?_
  conv => whnf
  refine ⟨eo, dp, ?_⟩
  refine iteP_no q1 ?_
  conv => whnf
  refine ⟨rfl, rfl, ?_⟩
  conv => whnf
  refine ⟨rfl, by rw [List.length_map, len]; (first | lia | omega), ?_⟩
  have em : xs.map D.int ++ [.int 1] = (xs ++ [1]).map .int := by rw [List.map_append]; rfl
  rw [em]
  have dg' : DgOK 4 (xs ++ [1]) := ⟨by decide, by rw [List.length_append, len]; show 4 * (nl N + 1) ≤ 200; (first | lia | omega), fun x hx => (List.mem_append.mp hx).elim (dg.dig x) fun h => by cases List.mem_singleton.mp h; decide⟩
  have vl' : dval 4 (xs ++ [1]) = (N : Int) + 16 ^ nl N := by
    rw [dval_append, vl, len]
    have : (2 : Int) ^ (4 * nl N) = 16 ^ nl N := by rw [← pow_16]; push_cast; rfl
    rw [this]
    show (N : Int) + (1 + 0 * 2 ^ 4) * 16 ^ nl N = _
    (first | lia | omega)
  have q3 : eqD (.list (xs.map .int)) (.list (xs.map .int)) = true := eqDs_ints xs
  conv => whnf
  refine ⟨_, 4, rfl, okd, ?_⟩
  rw [ea]
  conv => whnf
  refine ⟨eo, dp, ?_⟩
  refine iteP_yes q3 ?_
  conv => whnf
  refine ⟨xs ++ [1], 4, rfl, dg', ?_⟩
  conv => whnf
  refine ⟨by rw [List.length_map, len]; (first | lia | omega), ?_⟩
  rw [List.length_map, len]
  conv => whnf
  refine ⟨by (first | lia | omega), by (first | lia | omega), sm40 (by decide), ?_⟩
  conv => whnf
  refine ⟨rfl, Nat.le_of_ble_eq_true rfl, ?_⟩
  have q4 : eqD (.int (dval 4 (xs ++ [1]))) (.int ((N : Int) + 16 ^ nl N)) = true := by
    rw [vl']
    exact beq_self_eq_true _
  exact ⟨rfl, Eq.mpr (congrArg (fun b => R (.bool b)) q4) hR⟩
theorem vc_law (ns : List Int) (hl : ns.length ≤ 63) : vcB cxLaw 80 (nmOf 21) (bdOf 21) [(S "script", .list (ns.map .int))] [] (fun _ _ => False) (fun _ _ => False) (fun d => d = .bool true) :=
  law_0 ns hl fun cs N t hN ht => law_1 fun rs a => law_2 a fun hs H => law_3 hN ht H (law_4b (law_4c (law_5 (law_6 hN ht (law_7 hN ht (law_8 hN ht H (law_9 hN ht (law_10 hN ht fun h1 h2 => law_11 (law_12 hN ht (law_13 hN ht (law_14 (law_15 hN ht (law_16 (law_17 hN (law_18 hN ht (law_19 ht (law_20 hN fun d ow ho => law_21 ho hN rfl)))))))))))))))))
end Mine
end

section -- QJ4
open PySem PySem.W PyProof.Rows
set_option Elab.async false
set_option linter.unusedVariables false
namespace Mine
open PySem.SeqAt PySem.Calls
section
variable {w : World} {s : Shared} {B : Heap} {mg mb : Str → Option Value} {L fa a : Addr} {cd : Value} {name : Str} {m cm : Str → Option Value} {cells news : List (Addr × Obj)} {vs : List Value} {ns : List Int} {prog : Program} {E : Value → Shared → Prop} {Q : Flow → Shared → Prop}
  {pm : Nat → Value}
theorem end_01 (H : Gl pm B mg mb) (c1 : CodeHd B 41 37) (c2 : CodeHd B 34 30) (n1 : B.get? 37 = none) (n2 : B.get? 30 = none)
    (F : Fr B L s.heap m) (N : News B L s.heap news) (X0 : CellsAre cm (cellsFrom (L + 1) (nmOf 21) []) cells) (hs : ∀ p ∈ cells, p ∈ news) (hcm : cm = fun _ => none)
    (t1 : (37, tabObj #[]) ∈ news) (t2 : (30, tabObj #[]) ∈ news) (hm : m (S "script") = some (.ref a)) (hl : B.PlainList a vs.toArray) (hI : IntsAre vs ns) (hlen : ns.length ≤ 63)
    (hQ : ∀ h' tk, (∀ b o, B.get? b = some o → h'.get? b = some o) → GrownAll [(41, 37), (34, 30)] h' → Q (.ret (.bool true)) { s with heap := h', toks := tk }) :
    wpAny (model prog w) (callerA.deeper (envOfC name (scOf 21) L fa cd)) (execs (bdOf 21) (envOfC name (scOf 21) L fa cd)) Q E s := by
  have hP : [tbD, tbI2].Pairwise fun a b => a.P ≠ b.P := by
    refine .cons (fun b hb => ?_) (.cons (fun b hb => by cases hb) .nil)
    rcases List.mem_cons.mp hb with rfl | hb
    · show (37 : Nat) ≠ 30
      decide
    · cases hb
  have CG := contracts (prog := prog) (w := w) (bs := B) (l := [tbD, tbI2]) H (List.mem_cons_self ..) (List.mem_cons_of_mem _ (List.mem_cons_self ..)) hP c1 c2 n1 n2
  have FS := fs_open (l := [tbD, tbI2]) (name := name) (fa := fa) (cd := cd) (x := S "script") (k := 230) (scope := (scOf 21)) F N X0 hs (fun y _ => by rw [hcm]) rfl rfl rfl hm hl hI
    (fun t ht => by
      rcases List.mem_cons.mp ht with rfl | ht
      · exact t1
      · rcases List.mem_cons.mp ht with rfl | ht
        · exact t2
        · cases ht) (by decide)
  exact run_law (stm_try CG.1 CG.2 80) FS (vc_law ns hlen) fun h' tk k g => hQ h' tk k ⟨g _ (List.mem_cons_self ..), g _ (List.mem_cons_of_mem _ (List.mem_cons_self ..)), trivial⟩
end
end Mine
end

section -- QJ5
open PySem PySem.W PyProof.Rows
namespace Mine
noncomputable def hd.tw17311223219408574766 : Unit := ()
noncomputable def hd.tw17087091549796120035 : Unit := ()
noncomputable def hd.tw15616948245753086127 : Unit := ()
noncomputable def hd.tw978945382295711627 : Unit := ()
noncomputable def hd.tw6293948785866598258 : Unit := ()
noncomputable def hd.tw5961118342813265553 : Unit := ()
noncomputable def hd.tw5148922909946612681 : Unit := ()
noncomputable def hd.tw14620637471214046174 : Unit := ()
noncomputable def hd.tw3259873300814134281 : Unit := ()
noncomputable def hd.tw11117797201346649052 : Unit := ()
noncomputable def hd.tw18322514126500204803 : Unit := ()
noncomputable def hd.tw8343274005884668182 : Unit := ()
noncomputable def hd.tw13330244855972007585 : Unit := ()
noncomputable def hd.tw2114630138375439770 : Unit := ()
noncomputable def hd.tw7752767780024739350 : Unit := ()
noncomputable def hd.tw5373601922739893978 : Unit := ()
noncomputable def hd.tw11893437276241958245 : Unit := ()
noncomputable def hd.tw11953376511379268794 : Unit := ()
noncomputable def hd.tw18300207936620678264 : Unit := ()
noncomputable def hd.tw12173100003817136821 : Unit := ()
noncomputable def hd.tw4115565904173853331 : Unit := ()
noncomputable def hd.tw10111801491309104144 : Unit := ()
noncomputable def hd.tw12901994302517312135 : Unit := ()
noncomputable def hd.tw2195365466389143174 : Unit := ()
noncomputable def hd.tw13225837485096350037 : Unit := ()
noncomputable def hd.tw16037735763661986305 : Unit := ()
noncomputable def hd.tw9421340871869096474 : Unit := ()
noncomputable def hd.tw701787995468756871 : Unit := ()
noncomputable def hd.tw7914949630228597729 : Unit := ()
noncomputable def hd.tw16056359734778111409 : Unit := ()
noncomputable def hd.tw9277588360372424766 : Unit := ()
noncomputable def hd.tw5978321128707920903 : Unit := ()
noncomputable def hd.tw6060742912462422084 : Unit := ()
noncomputable def hd.tw5791856155091588825 : Unit := ()
noncomputable def hd.tw10258999931320997221 : Unit := ()
noncomputable def hd.tw10170382586518783626 : Unit := ()
noncomputable def hd.tw17673860158736603733 : Unit := ()
noncomputable def hd.tw4225703048834024713 : Unit := ()
noncomputable def hd.tw16945582573551092051 : Unit := ()
noncomputable def hd.tw15527848837575444561 : Unit := ()
noncomputable def hd.tw10727248033764811480 : Unit := ()
noncomputable def hd.tw4272726840584523970 : Unit := ()
noncomputable def hd.tw12487502673411948298 : Unit := ()
noncomputable def hd.tw16828841361933241965 : Unit := ()
noncomputable def hd.tw15595854959937240912 : Unit := ()
noncomputable def hd.tw17950676927832955104 : Unit := ()
noncomputable def hd.tw10458740792067480800 : Unit := ()
noncomputable def hd.tw3219085151875037572 : Unit := ()
noncomputable def hd.tw16091413853298234908 : Unit := ()
noncomputable def hd.tw6820862383352777685 : Unit := ()
noncomputable def hd.tw8716120427605611371 : Unit := ()
noncomputable def hd.tw16245587957171850501 : Unit := ()
noncomputable def hd.tw6276725880618359904 : Unit := ()
noncomputable def hd.tw9170477692918782315 : Unit := ()
noncomputable def hd.tw18103342009636024947 : Unit := ()
noncomputable def hd.tw15967140613478806237 : Unit := ()
noncomputable def hd.tw16194383521188589630 : Unit := ()
noncomputable def hd.tw11210553801493137410 : Unit := ()
noncomputable def hd.tw1413172679324656950 : Unit := ()
noncomputable def hd.tw9719896912496429819 : Unit := ()
noncomputable def hd.tw16259696140248634718 : Unit := ()
noncomputable def hd.tw15089522573102190283 : Unit := ()
noncomputable def hd.tw11917015161858427179 : Unit := ()
noncomputable def hd.tw464777395874653626 : Unit := ()
noncomputable def hd.tw17672654358674132775 : Unit := ()
noncomputable def hd.tw13267510147771200024 : Unit := ()
noncomputable def hd.tw1514493916014076288 : Unit := ()
noncomputable def hd.tw5511420028821071320 : Unit := ()
noncomputable def hd.tw6411954120941647267 : Unit := ()
noncomputable def hd.tw6555240042291301478 : Unit := ()
noncomputable def hd.tw922143313871775805 : Unit := ()
noncomputable def hd.tw10792051664901133789 : Unit := ()
noncomputable def hd.tw11232374478483605306 : Unit := ()
noncomputable def hd.tw9960721518486171458 : Unit := ()
noncomputable def hd.tw1097998534492414930 : Unit := ()
noncomputable def hd.tw15564728929539428999 : Unit := ()
noncomputable def hd.tw1997569388931296116 : Unit := ()
noncomputable def hd.tw4402725079659364252 : Unit := ()
noncomputable def hd.tw8458067239894703972 : Unit := ()
noncomputable def hd.tw8226494294326810461 : Unit := ()
noncomputable def hd.tw15790720579355451973 : Unit := ()
noncomputable def hd.tw3451239065008710300 : Unit := ()
noncomputable def hd.tw11319097763535126812 : Unit := ()
noncomputable def hd.tw15759970867653108152 : Unit := ()
noncomputable def hd.tw6407587892757256292 : Unit := ()
noncomputable def hd.tw4086058157674990017 : Unit := ()
noncomputable def hd.tw9673543361469618366 : Unit := ()
noncomputable def hd.tw8457440626546761165 : Unit := ()
noncomputable def hd.tw6082411064634330575 : Unit := ()
noncomputable def hd.tw3571134770919094901 : Unit := ()
noncomputable def hd.tw16240987189780228909 : Unit := ()
noncomputable def hd.tw7754304195085646258 : Unit := ()
noncomputable def hd.tw7269190750281295013 : Unit := ()
noncomputable def hd.tw3493717111155160527 : Unit := ()
noncomputable def hd.tw22551697357593593 : Unit := ()
noncomputable def hd.tw6291416237084387574 : Unit := ()
noncomputable def hd.tw6767318904944593275 : Unit := ()
noncomputable def hd.tw10601615944963115059 : Unit := ()
noncomputable def hd.tw7296583596125217682 : Unit := ()
noncomputable def hd.tw12271959270614036898 : Unit := ()
noncomputable def hd.tw17177331786930743035 : Unit := ()
noncomputable def hd.tw17542962492245011380 : Unit := ()
noncomputable def hd.tw5631631786602558770 : Unit := ()
noncomputable def hd.tw3229955645248102723 : Unit := ()
noncomputable def hd.tw2068664650715991707 : Unit := ()
noncomputable def hd.tw5190246844813560578 : Unit := ()
noncomputable def hd.tw14103535550066685397 : Unit := ()
noncomputable def hd.tw26425463804135960 : Unit := ()
noncomputable def hd.tw3350844169311001129 : Unit := ()
noncomputable def hd.tw16432713993328977331 : Unit := ()
noncomputable def hd.tw7028611270464810887 : Unit := ()
noncomputable def hd.tw6305734824756694309 : Unit := ()
noncomputable def hd.tw12023040214023829324 : Unit := ()
set_option maxRecDepth 100000 in
set_option maxHeartbeats 8000000 in
theorem hd : PySem.Challenge.rw_ta0023_01.Holds := by
  w_on; o_law; k_head; (case hw => w_witness2)
  k_go0
  rename_i w1 _ hI _ hc _ _ _ _ _ _ _ _ _ _ _ _ X0 X' T' _ F' _ N' _
  have pl := plain_ghost (by assumption) (plain_of w1 rfl (by assumption))
  have H := gl_make X' T' (all_c rfl (all_c rfl (all_c rfl (all_c rfl (all_c rfl (all_c rfl (all_c rfl (all_c rfl (all_c rfl (all_c rfl (all_c rfl (all_c rfl (all_c rfl (all_c rfl (all_c rfl all_n))))))))))))))) (all_c rfl (all_c rfl (all_c rfl (all_c rfl (all_c rfl (all_c rfl (all_c rfl (all_c rfl (all_c rfl (all_c rfl (all_c rfl (all_c rfl all_n)))))))))))) rfl (all_c (fn_at X' rfl rfl rfl) (all_c (fn_at X' rfl rfl rfl) (all_c (fn_at X' rfl rfl rfl) (all_c (fn_at X' rfl rfl rfl) (all_c (fn_at X' rfl rfl rfl) (all_c (fn_at X' rfl rfl rfl) (all_c (fn_at X' rfl rfl rfl) (all_c (fn_at X' rfl rfl rfl) (all_c (fn_at X' rfl rfl rfl) (all_c (fn_at X' rfl rfl rfl) (all_c (fn_at X' rfl rfl rfl) (all_c (fn_at X' rfl rfl rfl) (all_c (fn_at X' rfl rfl rfl) (all_c (fn_at X' rfl rfl rfl) (all_c (fn_at X' rfl rfl rfl) all_n)))))))))))))))
  refine end_01 H (by assumption) (by assumption) (hideAll_none _ (by decide)) (hideAll_none _ (by decide)) F' N' X0 (fun p hp => ?_) ?_ ?_ ?_ ?_ pl hI (by (first | lia | omega)) (fun h' tk k g => ?_)
  · refine List.mem_of_mem_take (i := 4) ?_
    exact hp
  · rfl
  · simp
  · simp
  · rfl
  · exact ⟨⟨.inl ⟨.bool true, .bool true, [], rfl, fun _ => rfl, .bool true, post_true _ _ _, fun _ => ⟨.nil, fun _ h => by cases h⟩⟩, k, rfl, (by assumption)⟩, g⟩
end Mine
end

theorem PySem.Challenge.cw_ta0023_01_holds : PySem.Challenge.rw_ta0023_01.Holds :=
  Mine.hd
