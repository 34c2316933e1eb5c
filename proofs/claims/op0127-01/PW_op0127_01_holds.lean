import PyProof.Rows.All
import Wide.All
import OpenK.AllK
import Wide.FinOn
import Lean
import PySem.Challenge.RW_op0127_01
set_option Elab.async false
set_option bootstrap.genMatcherCode false
set_option genInjectivity false
set_option backward.eqns.nonrecursive false
set_option backward.eqns.deepRecursiveSplit false
set_option genSizeOf false
set_option genSizeOfSpec false
set_option linter.all false
set_option maxRecDepth 100000
set_option maxHeartbeats 8000000
section
open PySem PySem.W PyProof.Rows PySem.Calls
section
namespace Mine
@[irreducible] def pg : Program := PySem.Challenge.pw_op0127_01
theorem pg_eq : pg = PySem.Challenge.pw_op0127_01 := by unfold pg; rfl
noncomputable abbrev mgB (h : Heap) : Str → Option Value := h.nsMap mainGlobals
noncomputable abbrev mbB (h : Heap) : Str → Option Value := h.nsMap builtinsNs
noncomputable abbrev KeptS (h h' : Heap) : Prop := ∀ b o, h.get? b = some o → h'.get? b = some o
noncomputable def Kept (h h' : Heap) : Prop := ∀ b o, h.get? b = some o → ∃ sl, h'.get? b = some { o with slots := sl } ∧ ((∀ es ep, o.data ≠ .dict es ep) ∨ b < 176 → sl = o.slots)
theorem Kept.at {h h' : Heap} (k : Kept h h') {b : Addr} {o : Obj} (e : h.get? b = some o) (n : ∀ es ep, o.data ≠ .dict es ep) : h'.get? b = some o := by
  obtain ⟨sl, x, y⟩ := k b o e
  rw [y (.inl n)] at x; exact x
theorem KeptS.w {h h' : Heap} (k : KeptS h h') : Kept h h' := fun b o e => ⟨o.slots, k b o e, fun _ => rfl⟩
theorem Kept.refl (h : Heap) : Kept h h := KeptS.w fun _ _ e => e
theorem Kept.trans {a b c : Heap} (x : Kept a b) (y : Kept b c) : Kept a c := fun p o e => by
  obtain ⟨sl, x1, x2⟩ := x p o e
  obtain ⟨sl', y1, y2⟩ := y p _ x1
  exact ⟨sl', y1, fun n => (y2 n).trans (x2 n)⟩
theorem Kept.push (h : Heap) (o : Obj) : Kept h (h.push o) := KeptS.w fun _ _ e => Heap.get?_push_of_some _ e
theorem Kept.size {h h' : Heap} (k : Kept h h') {b : Addr} {o : Obj} (e : h.get? b = some o) : b < h'.objs.size := let ⟨_, x, _⟩ := k _ _ e; Heap.lt_size x
theorem Kept.none {h h' : Heap} (k : Kept h h') {b : Addr} (e : h'.get? b = Option.none) : h.get? b = Option.none := by
  cases x : h.get? b with
  | none => rfl
  | some o => obtain ⟨_, y, _⟩ := k _ _ x; rw [e] at y; cases y
theorem Kept.buts {h₀ h h' : Heap} {wr : List Addr} (k : Kept h₀ h) (kb : ∀ b o, b ∉ wr → h.get? b = some o → h'.get? b = some o) (n : ∀ a ∈ wr, h₀.get? a = Option.none) : Kept h₀ h' := fun b o e =>
  let ⟨sl, x, y⟩ := k b o e
  ⟨sl, kb b _ (fun m => by have := n b m; rw [e] at this; cases this) x, y⟩
theorem Kept.but {h₀ h h' : Heap} {a : Addr} (k : Kept h₀ h) (kb : ∀ b o, b ≠ a → h.get? b = some o → h'.get? b = some o) (n : h₀.get? a = Option.none) : Kept h₀ h' :=
  k.buts (wr := [a]) (fun b o m e => kb b o (fun q => m (q ▸ List.mem_singleton.mpr rfl)) e) fun b m => by rw [List.mem_singleton.mp m]; exact n
theorem Kept.same {h₀ h h' : Heap} {a : Addr} (k : Kept h₀ h) (kb : Heap.SameBut a h h') (n : h₀.get? a = Option.none) : Kept h₀ h' := k.but (fun b o hb e => (kb.2 b hb).trans e) n
noncomputable def KeptB (ms : List Addr) (h h' : Heap) : Prop := ∀ b o, b ∉ ms → h.get? b = some o → ∃ sl, h'.get? b = some { o with slots := sl } ∧ ((∀ es ep, o.data ≠ .dict es ep) ∨ b < 176 → sl = o.slots)
theorem Kept.b {h h' : Heap} (k : Kept h h') (ms : List Addr) : KeptB ms h h' := fun b o _ e => k b o e
theorem KeptB.kept {h h' : Heap} (k : KeptB [] h h') : Kept h h' := fun b o e => k b o (fun m => nomatch m) e
theorem KeptB.then {ms : List Addr} {a b c : Heap} (x : KeptB ms a b) (y : Kept b c) : KeptB ms a c := fun p o m e => by
  obtain ⟨sl, x1, x2⟩ := x p o m e
  obtain ⟨sl', y1, y2⟩ := y p _ x1
  exact ⟨sl', y1, fun n => (y2 n).trans (x2 n)⟩
theorem KeptB.buts {h₀ h h' : Heap} {ms wr : List Addr} (k : KeptB ms h₀ h) (kb : ∀ b o, b ∉ wr → h.get? b = some o → h'.get? b = some o) (n : ∀ a ∈ wr, h₀.get? a = Option.none ∨ a ∈ ms) : KeptB ms h₀ h' := fun b o m e =>
  let ⟨sl, x, y⟩ := k b o m e
  ⟨sl, kb b _ (fun q => by rcases n b q with r | r; · rw [e] at r; cases r
                           · exact m r) x, y⟩
theorem KeptB.butsW {h₀ h h' : Heap} {ms wr : List Addr} (k : KeptB ms h₀ h) (kb : KeptB wr h h') (n : ∀ a ∈ wr, h₀.get? a = Option.none ∨ a ∈ ms) : KeptB ms h₀ h' := fun b o m e => by
  obtain ⟨sl, x1, x2⟩ := k b o m e
  obtain ⟨sl', y1, y2⟩ := kb b _ (fun q => by rcases n b q with r | r; · rw [e] at r; cases r
                                              · exact m r) x1
  exact ⟨sl', y1, fun n => (y2 n).trans (x2 n)⟩
theorem KeptB.but {h₀ h h' : Heap} {ms : List Addr} {a : Addr} (k : KeptB ms h₀ h) (kb : ∀ b o, b ≠ a → h.get? b = some o → h'.get? b = some o) (n : h₀.get? a = Option.none ∨ a ∈ ms) : KeptB ms h₀ h' :=
  k.buts (wr := [a]) (fun b o m e => kb b o (fun q => m (q ▸ List.mem_singleton.mpr rfl)) e) fun b m => by rw [List.mem_singleton.mp m]; exact n
theorem KeptB.same {h₀ h h' : Heap} {ms : List Addr} {a : Addr} (k : KeptB ms h₀ h) (kb : Heap.SameBut a h h') (n : h₀.get? a = Option.none ∨ a ∈ ms) : KeptB ms h₀ h' := k.but (fun b o hb e => (kb.2 b hb).trans e) n
theorem KeptB.none {h h' : Heap} {ms : List Addr} (k : KeptB ms h h') {b : Addr} (m : b ∉ ms) (e : h'.get? b = Option.none) : h.get? b = Option.none := by
  cases x : h.get? b with
  | none => rfl
  | some o => obtain ⟨_, y, _⟩ := k _ _ m x; rw [e] at y; cases y
theorem Kept.ns {h h' : Heap} (k : Kept h h') {a : Addr} {m : Str → Option Value} (n : h.Ns a m) : h'.Ns a m := by
  obtain ⟨o, es, ep, e, d, r⟩ := n
  obtain ⟨sl, x, _⟩ := k _ _ e
  exact ⟨_, es, ep, x, d, r⟩
theorem Kept.cell {h h' : Heap} (k : Kept h h') {c : Addr} {v : Option Value} (x : h.IsCell c v) : h'.IsCell c v := by
  obtain ⟨o, e, d⟩ := x
  exact ⟨o, k.at e (fun _ _ q => by rw [d] at q; cases q), d⟩
inductive Keeps (s s' : Shared) : Prop
  | mk (h' : Heap) (tk : Nat) (e : s' = { s with heap := h', toks := tk }) (k : Kept s.heap h')
theorem Keeps.of {s s' : Shared} (x : PySem.Keeps s s') : Keeps s s' := let ⟨h, t, e, k⟩ := x; ⟨h, t, e, KeptS.w k⟩
inductive D where
  | none
  | bool (b : Bool)
  | int (i : Int)
  | str (x : Str)
  | list (ds : List D)
  | tup (ds : List D)
  | ml (i : Nat)
  | bm (i : Nat)
  deriving Inhabited
noncomputable def bmObj (a : Addr) : Obj := { cls := .type "builtin_function_or_method", data := .fields #[.builtin "list.append", .ref a] }
noncomputable def Still (o : Obj) : Prop := (∃ xs n, o.data = .seq xs n) ∨ ∃ a, o = bmObj a
noncomputable abbrev PL (h : Heap) (a : Addr) (vs : List Value) : Prop := h.PlainList a vs.toArray
noncomputable def PT (h : Heap) (a : Addr) (vs : List Value) : Prop := ∃ n, h.get? a = some { cls := .type "tuple", data := .seq vs.toArray n }
theorem PL.kept {h h' : Heap} {a : Addr} {vs : List Value} (x : PL h a vs) (k : Kept h h') : PL h' a vs := let ⟨n, e⟩ := x; ⟨n, k.at e (fun _ _ q => nomatch q)⟩
theorem PT.kept {h h' : Heap} {a : Addr} {vs : List Value} (x : PT h a vs) (k : Kept h h') : PT h' a vs := let ⟨n, e⟩ := x; ⟨n, k.at e (fun _ _ q => nomatch q)⟩
theorem PL.typ {s : Shared} {a : Addr} {vs : List Value} (x : PL s.heap a vs) : s.TypeIs (.ref a) "list" := x.isList.typeIs
theorem PT.isTuple {h : Heap} {a : Addr} {vs : List Value} (x : PT h a vs) : h.IsTuple a vs.toArray := let ⟨n, e⟩ := x; ⟨_, e, rfl, n, rfl⟩
theorem PL.inj {h : Heap} {a : Addr} {vs ws : List Value} (x : PL h a vs) (y : PL h a ws) : vs = ws := by
  obtain ⟨n, e⟩ := x; obtain ⟨m, f⟩ := y
  rw [e] at f
  injection f with f; injection f with _ _ f _; injection f with f _
  exact congrArg Array.toList f
theorem PL.lt {h : Heap} {a : Addr} {vs : List Value} (x : PL h a vs) : a < h.objs.size := let ⟨_, e⟩ := x; Heap.lt_size e
theorem PT.lt {h : Heap} {a : Addr} {vs : List Value} (x : PT h a vs) : a < h.objs.size := let ⟨_, e⟩ := x; Heap.lt_size e
structure Av where
  av : List Addr
  fs : List Env
structure Ad where
  own : List Addr
  av : Av
noncomputable def Ad.all (x : Ad) : List Addr := x.own ++ x.av.av
noncomputable def Ad.add (x : Ad) (a : Addr) : Ad := ⟨x.own ++ [a], x.av⟩
noncomputable def Ad.off (x : Ad) (a : Addr) : Ad := ⟨x.own, ⟨a :: x.av.av, x.av.fs⟩⟩
theorem Ad.mem_add {x : Ad} {a b : Addr} : b ∈ (x.add a).all ↔ b ∈ x.all ∨ b = a := by
  unfold Ad.all Ad.add; simp only [List.mem_append, List.mem_singleton]; exact ⟨fun h => by rcases h with (h | h) | h <;> simp [h], fun h => by rcases h with (h | h) | h <;> simp [h]⟩
theorem Ad.mem_off {x : Ad} {a b : Addr} : b ∈ (x.off a).all ↔ b ∈ x.all ∨ b = a := by
  unfold Ad.all Ad.off; simp only [List.mem_append, List.mem_cons]; exact ⟨fun h => by rcases h with h | h | h <;> simp [h], fun h => by rcases h with (h | h) | h <;> simp [h]⟩
mutual
noncomputable def Rep (ad : Ad) (h : Heap) : D → Value → Prop
  | .none, v => v = .none
  | .bool b, v => v = .bool b
  | .int i, v => ∃ t, v = .int i t
  | .str x, v => ∃ t, v = .str x t
  | .list ds, v => ∃ a vs, v = .ref a ∧ a ∉ ad.all ∧ PL h a vs ∧ Reps ad h ds vs
  | .tup ds, v => ∃ a vs, v = .ref a ∧ a ∉ ad.all ∧ PT h a vs ∧ Reps ad h ds vs
  | .ml i, v => ∃ a, v = .ref a ∧ ad.own[i]? = some a
  | .bm i, v => ∃ m a, v = .ref m ∧ m ∉ ad.all ∧ h.get? m = some (bmObj a) ∧ ad.own[i]? = some a
noncomputable def Reps (ad : Ad) (h : Heap) : List D → List Value → Prop
  | [], vs => vs = []
  | d :: ds, vs => ∃ v r, vs = v :: r ∧ Rep ad h d v ∧ Reps ad h ds r
end
theorem qReps0 {ad : Ad} {h : Heap} {vs : List Value} : Reps ad h [] vs = (vs = []) := rfl
theorem qReps1 {ad : Ad} {h : Heap} {vs : List Value} {d : D} {ds : List D} : Reps ad h (d :: ds) vs = ∃ v r, vs = v :: r ∧ Rep ad h d v ∧ Reps ad h ds r := rfl
theorem qRep0 {ad : Ad} {h : Heap} {v : Value} : Rep ad h .none v = (v = .none) := rfl
theorem qRep1 {ad : Ad} {h : Heap} {v : Value} {b : Bool} : Rep ad h (.bool b) v = (v = .bool b) := rfl
theorem qRep2 {ad : Ad} {h : Heap} {v : Value} {i : Int} : Rep ad h (.int i) v = ∃ t, v = .int i t := rfl
theorem qRep3 {ad : Ad} {h : Heap} {v : Value} {x : Str} : Rep ad h (.str x) v = ∃ t, v = .str x t := rfl
theorem qRep4 {ad : Ad} {h : Heap} {v : Value} {ds : List D} : Rep ad h (.list ds) v = ∃ a vs, v = .ref a ∧ a ∉ ad.all ∧ PL h a vs ∧ Reps ad h ds vs := rfl
theorem qRep5 {ad : Ad} {h : Heap} {v : Value} {ds : List D} : Rep ad h (.tup ds) v = ∃ a vs, v = .ref a ∧ a ∉ ad.all ∧ PT h a vs ∧ Reps ad h ds vs := rfl
theorem qRep6 {ad : Ad} {h : Heap} {v : Value} {i : Nat} : Rep ad h (.ml i) v = ∃ a, v = .ref a ∧ ad.own[i]? = some a := rfl
theorem qRep7 {ad : Ad} {h : Heap} {v : Value} {i : Nat} : Rep ad h (.bm i) v = ∃ m a, v = .ref m ∧ m ∉ ad.all ∧ h.get? m = some (bmObj a) ∧ ad.own[i]? = some a := rfl
noncomputable def SK (ad : List Addr) (h h' : Heap) : Prop := ∀ b o, b ∉ ad → h.get? b = some o → Still o → h'.get? b = some o
theorem Still.nd {o : Obj} (x : Still o) (es : Array DictEntry) (ep : Nat) : o.data ≠ .dict es ep := by
  rcases x with ⟨xs, n, q⟩ | ⟨a, rfl⟩
  · rw [q]; exact fun x => nomatch x
  · exact fun x => nomatch x
theorem Kept.sk {h h' : Heap} (k : Kept h h') (ad : List Addr) : SK ad h h' := fun b o _ e q => k.at e (Still.nd q)
theorem SK.trans {ad : List Addr} {a b c : Heap} (x : SK ad a b) (y : SK ad b c) : SK ad a c := fun p o n e q => y p o n (x p o n e q) q
theorem SK.pl {ad : List Addr} {h h' : Heap} (k : SK ad h h') {a : Addr} {vs : List Value} (n : a ∉ ad) (x : PL h a vs) : PL h' a vs := let ⟨m, e⟩ := x; ⟨m, k _ _ n e (.inl ⟨_, _, rfl⟩)⟩
theorem SK.pt {ad : List Addr} {h h' : Heap} (k : SK ad h h') {a : Addr} {vs : List Value} (n : a ∉ ad) (x : PT h a vs) : PT h' a vs := let ⟨m, e⟩ := x; ⟨m, k _ _ n e (.inl ⟨_, _, rfl⟩)⟩
mutual
theorem Rep.sk {ad : Ad} {h h' : Heap} (k : SK ad.all h h') : ∀ (d : D) (v : Value), Rep ad h d v → Rep ad h' d v
  | .none, v, r => by simp only [qRep0, qRep1, qRep2, qRep3, qRep4, qRep5, qRep6, qRep7] at r ⊢; exact r
  | .bool b, v, r => by simp only [qRep0, qRep1, qRep2, qRep3, qRep4, qRep5, qRep6, qRep7] at r ⊢; exact r
  | .int i, v, r => by simp only [qRep0, qRep1, qRep2, qRep3, qRep4, qRep5, qRep6, qRep7] at r ⊢; exact r
  | .str x, v, r => by simp only [qRep0, qRep1, qRep2, qRep3, qRep4, qRep5, qRep6, qRep7] at r ⊢; exact r
  | .ml i, v, r => by simp only [qRep0, qRep1, qRep2, qRep3, qRep4, qRep5, qRep6, qRep7] at r ⊢; exact r
  | .bm i, v, r => by
    simp only [qRep0, qRep1, qRep2, qRep3, qRep4, qRep5, qRep6, qRep7] at r ⊢
    obtain ⟨m, a, e, n, p, q⟩ := r
    exact ⟨m, a, e, n, k _ _ n p (.inr ⟨a, rfl⟩), q⟩
  | .list ds, v, r => by
    simp only [qRep0, qRep1, qRep2, qRep3, qRep4, qRep5, qRep6, qRep7] at r ⊢
    obtain ⟨a, vs, e, n, p, q⟩ := r
    exact ⟨a, vs, e, n, k.pl n p, Reps.sk k ds vs q⟩
  | .tup ds, v, r => by
    simp only [qRep0, qRep1, qRep2, qRep3, qRep4, qRep5, qRep6, qRep7] at r ⊢
    obtain ⟨a, vs, e, n, p, q⟩ := r
    exact ⟨a, vs, e, n, k.pt n p, Reps.sk k ds vs q⟩
theorem Reps.sk {ad : Ad} {h h' : Heap} (k : SK ad.all h h') : ∀ (ds : List D) (vs : List Value), Reps ad h ds vs → Reps ad h' ds vs
  | [], vs, r => by simp only [qReps0, qReps1] at r ⊢; exact r
  | d :: ds, vs, r => by
    simp only [qReps0, qReps1] at r ⊢
    obtain ⟨v, w, e, p, q⟩ := r
    exact ⟨v, w, e, Rep.sk k d v p, Reps.sk k ds w q⟩
end
theorem Rep.kept {ad : Ad} {h h' : Heap} {d : D} {v : Value} (r : Rep ad h d v) (k : Kept h h') : Rep ad h' d v := Rep.sk (k.sk ad.all) d v r
theorem Reps.kept {ad : Ad} {h h' : Heap} {d : List D} {v : List Value} (r : Reps ad h d v) (k : Kept h h') : Reps ad h' d v := Reps.sk (k.sk ad.all) d v r
mutual
theorem Rep.ad {ad ad' : Ad} {h : Heap} (f : ∀ (i : Nat) (a : Addr), ad.own[i]? = some a → ad'.own[i]? = some a) (g : ∀ (a : Addr) (o : Obj), h.get? a = some o → a ∉ ad.all → a ∉ ad'.all) : ∀ (d : D) (v : Value), Rep ad h d v → Rep ad' h d v
  | .none, v, r => by simp only [qRep0, qRep1, qRep2, qRep3, qRep4, qRep5, qRep6, qRep7] at r ⊢; exact r
  | .bool b, v, r => by simp only [qRep0, qRep1, qRep2, qRep3, qRep4, qRep5, qRep6, qRep7] at r ⊢; exact r
  | .int i, v, r => by simp only [qRep0, qRep1, qRep2, qRep3, qRep4, qRep5, qRep6, qRep7] at r ⊢; exact r
  | .str x, v, r => by simp only [qRep0, qRep1, qRep2, qRep3, qRep4, qRep5, qRep6, qRep7] at r ⊢; exact r
  | .ml i, v, r => by
    simp only [qRep0, qRep1, qRep2, qRep3, qRep4, qRep5, qRep6, qRep7] at r ⊢
    obtain ⟨a, e, q⟩ := r
    exact ⟨a, e, f i a q⟩
  | .bm i, v, r => by
    simp only [qRep0, qRep1, qRep2, qRep3, qRep4, qRep5, qRep6, qRep7] at r ⊢
    obtain ⟨m, a, e, n, p, q⟩ := r
    exact ⟨m, a, e, g m _ p n, p, f i a q⟩
  | .list ds, v, r => by
    simp only [qRep0, qRep1, qRep2, qRep3, qRep4, qRep5, qRep6, qRep7] at r ⊢
    obtain ⟨a, vs, e, n, p, q⟩ := r
    exact ⟨a, vs, e, let ⟨_, k⟩ := p; g a _ k n, p, Reps.ad f g ds vs q⟩
  | .tup ds, v, r => by
    simp only [qRep0, qRep1, qRep2, qRep3, qRep4, qRep5, qRep6, qRep7] at r ⊢
    obtain ⟨a, vs, e, n, p, q⟩ := r
    exact ⟨a, vs, e, let ⟨_, k⟩ := p; g a _ k n, p, Reps.ad f g ds vs q⟩
theorem Reps.ad {ad ad' : Ad} {h : Heap} (f : ∀ (i : Nat) (a : Addr), ad.own[i]? = some a → ad'.own[i]? = some a) (g : ∀ (a : Addr) (o : Obj), h.get? a = some o → a ∉ ad.all → a ∉ ad'.all) : ∀ (ds : List D) (vs : List Value), Reps ad h ds vs → Reps ad' h ds vs
  | [], vs, r => by simp only [qReps0, qReps1] at r ⊢; exact r
  | d :: ds, vs, r => by
    simp only [qReps0, qReps1] at r ⊢
    obtain ⟨v, w, e, p, q⟩ := r
    exact ⟨v, w, e, Rep.ad f g d v p, Reps.ad f g ds w q⟩
end
theorem Rep.off {ad : Ad} {h : Heap} {d : D} {v : Value} {a : Addr} (r : Rep ad h d v) (n : h.get? a = none) : Rep (ad.off a) h d v :=
  Rep.ad (ad := ad) (ad' := ad.off a) (fun _ _ e => e) (fun b o e m => by rw [Ad.mem_off]; exact fun q => q.elim m (fun w => by rw [w, n] at e; cases e)) d v r
theorem Rep.on {ad : Ad} {h : Heap} {d : D} {v : Value} {a : Addr} (r : Rep (ad.off a) h d v) : Rep ad h d v :=
  Rep.ad (ad := ad.off a) (ad' := ad) (fun _ _ e => e) (fun b o e m q => m (Ad.mem_off.mpr (.inl q))) d v r
theorem Reps.on {ad : Ad} {h : Heap} {d : List D} {v : List Value} {a : Addr} (r : Reps (ad.off a) h d v) : Reps ad h d v :=
  Reps.ad (ad := ad.off a) (ad' := ad) (fun _ _ e => e) (fun b o e m q => m (Ad.mem_off.mpr (.inl q))) d v r
theorem Rep.add {ad : Ad} {h : Heap} {d : D} {v : Value} {a : Addr} (r : Rep ad h d v) (n : h.get? a = none) : Rep (ad.add a) h d v :=
  Rep.ad (ad := ad) (ad' := ad.add a) (fun i b e => by
    show (ad.own ++ [a])[i]? = _
    rw [List.getElem?_append_left (by obtain ⟨w, _⟩ := List.getElem?_eq_some_iff.mp e; exact w)]; exact e) (fun b o e m => by rw [Ad.mem_add]; exact fun q => q.elim m (fun w => by rw [w, n] at e; cases e)) d v r
theorem Reps.off {ad : Ad} {h : Heap} {d : List D} {v : List Value} {a : Addr} (r : Reps ad h d v) (n : h.get? a = none) : Reps (ad.off a) h d v :=
  Reps.ad (ad := ad) (ad' := ad.off a) (fun _ _ e => e) (fun b o e m => by rw [Ad.mem_off]; exact fun q => q.elim m (fun w => by rw [w, n] at e; cases e)) d v r
theorem Reps.add {ad : Ad} {h : Heap} {d : List D} {v : List Value} {a : Addr} (r : Reps ad h d v) (n : h.get? a = none) : Reps (ad.add a) h d v :=
  Reps.ad (ad := ad) (ad' := ad.add a) (fun i b e => by
    show (ad.own ++ [a])[i]? = _
    rw [List.getElem?_append_left (by obtain ⟨w, _⟩ := List.getElem?_eq_some_iff.mp e; exact w)]; exact e) (fun b o e m => by rw [Ad.mem_add]; exact fun q => q.elim m (fun w => by rw [w, n] at e; cases e)) d v r
theorem Reps.length {ad : Ad} {h : Heap} : ∀ {ds : List D} {vs : List Value}, Reps ad h ds vs → vs.length = ds.length
  | [], vs, r => by simp only [qReps0, qReps1] at r; subst r; rfl
  | d :: ds, vs, r => by
    simp only [qReps0, qReps1] at r
    obtain ⟨v, w, rfl, _, q⟩ := r
    simp [Reps.length q]
theorem Reps.get {ad : Ad} {h : Heap} : ∀ {ds : List D} {vs : List Value} {i : Nat} {d : D}, Reps ad h ds vs → ds[i]? = some d → ∃ v, vs[i]? = some v ∧ Rep ad h d v
  | [], vs, i, d, r, e => by simp at e
  | c :: ds, vs, i, d, r, e => by
    simp only [qReps0, qReps1] at r
    obtain ⟨v, w, rfl, p, q⟩ := r
    cases i with
    | zero => simp at e; subst e; exact ⟨v, by simp, p⟩
    | succ i => simp at e; obtain ⟨u, x, y⟩ := Reps.get q e; exact ⟨u, by simpa using x, y⟩
theorem Reps.append {ad : Ad} {h : Heap} : ∀ {ds es : List D} {vs ws : List Value}, Reps ad h ds vs → Reps ad h es ws → Reps ad h (ds ++ es) (vs ++ ws)
  | [], es, vs, ws, r, q => by simp only [qReps0, qReps1] at r; subst r; exact q
  | d :: ds, es, vs, ws, r, q => by
    simp only [qReps0, qReps1] at r
    obtain ⟨v, w, rfl, p, p'⟩ := r
    simp only [List.cons_append, qReps0, qReps1]
    exact ⟨v, w ++ ws, rfl, p, Reps.append p' q⟩
theorem Reps.cons {ad : Ad} {h : Heap} {d : D} {ds : List D} {v : Value} {vs : List Value} (p : Rep ad h d v) (q : Reps ad h ds vs) : Reps ad h (d :: ds) (v :: vs) := by
  simp only [qReps0, qReps1]; exact ⟨v, vs, rfl, p, q⟩
theorem Reps.nil {ad : Ad} {h : Heap} : Reps ad h [] [] := by simp only [qReps0, qReps1]
theorem Reps.nil_iff {ad : Ad} {h : Heap} {vs : List Value} (r : Reps ad h [] vs) : vs = [] := by simpa only [qReps0, qReps1] using r
theorem Reps.snoc {ad : Ad} {h : Heap} {d : D} {ds : List D} {v : Value} {vs : List Value} (q : Reps ad h ds vs) (p : Rep ad h d v) : Reps ad h (ds ++ [d]) (vs ++ [v]) := q.append (Reps.cons p Reps.nil)
theorem Reps.drop {ad : Ad} {h : Heap} : ∀ (n : Nat) {ds : List D} {vs : List Value}, Reps ad h ds vs → Reps ad h (ds.drop n) (vs.drop n)
  | 0, ds, vs, r => by simpa using r
  | n + 1, [], vs, r => by simp only [qReps0, qReps1] at r; subst r; simp only [List.drop_nil]; exact Reps.nil
  | n + 1, d :: ds, vs, r => by
    simp only [qReps0, qReps1] at r
    obtain ⟨v, w, rfl, _, q⟩ := r
    simpa using Reps.drop n q
theorem Reps.take {ad : Ad} {h : Heap} : ∀ (n : Nat) {ds : List D} {vs : List Value}, Reps ad h ds vs → Reps ad h (ds.take n) (vs.take n)
  | 0, ds, vs, r => by simp only [List.take_zero]; exact Reps.nil
  | n + 1, [], vs, r => by simp only [qReps0, qReps1] at r; subst r; simp only [List.take_nil]; exact Reps.nil
  | n + 1, d :: ds, vs, r => by
    simp only [qReps0, qReps1] at r
    obtain ⟨v, w, rfl, p, q⟩ := r
    simpa using Reps.cons p (Reps.take n q)
theorem Reps.set {ad : Ad} {h : Heap} : ∀ (i : Nat) {ds : List D} {vs : List Value} {d : D} {v : Value}, Reps ad h ds vs → Rep ad h d v → Reps ad h (ds.set i d) (vs.set i v)
  | _, [], vs, d, v, r, _ => by simp only [qReps0, qReps1] at r; subst r; simp only [List.set_nil]; exact Reps.nil
  | 0, c :: ds, vs, d, v, r, p => by
    simp only [qReps0, qReps1] at r
    obtain ⟨u, w, rfl, _, q⟩ := r
    simpa using Reps.cons p q
  | i + 1, c :: ds, vs, d, v, r, p => by
    simp only [qReps0, qReps1] at r
    obtain ⟨u, w, rfl, p', q⟩ := r
    simpa using Reps.cons p' (Reps.set i q p)
theorem Reps.replicate {ad : Ad} {h : Heap} {d : D} {v : Value} (p : Rep ad h d v) : ∀ n : Nat, Reps ad h (List.replicate n d) (List.replicate n v)
  | 0 => Reps.nil
  | n + 1 => by rw [List.replicate_succ, List.replicate_succ]; exact Reps.cons p (Reps.replicate p n)
theorem keeps_refl (s : Shared) : Keeps s s := ⟨s.heap, s.toks, rfl, Kept.refl _⟩
theorem keeps_trans {a b c : Shared} (x : Keeps a b) (y : Keeps b c) : Keeps a c := by
  obtain ⟨h, t, rfl, k⟩ := x
  obtain ⟨h', t', rfl, k'⟩ := y
  exact ⟨h', t', rfl, k.trans k'⟩
theorem keeps_kept {a b : Shared} (x : Keeps a b) : Kept a.heap b.heap := by obtain ⟨h, t, rfl, k⟩ := x; exact k
theorem keeps_mk {s : Shared} {h' : Heap} {t : Nat} (k : Kept s.heap h') : Keeps s { s with heap := h', toks := t } := ⟨h', t, rfl, k⟩
theorem keeps_tok (s : Shared) (t : Nat) : Keeps s { s with toks := t } := ⟨s.heap, t, rfl, Kept.refl _⟩
theorem keeps_push (s : Shared) (o : Obj) : Keeps s { s with heap := s.heap.push o } := ⟨_, s.toks, rfl, Kept.push _ _⟩
theorem kept_le {h h' : Heap} (k : Kept h h') (hs : h.objs.size ≤ h'.objs.size) : Kept h h' ∧ h.objs.size ≤ h'.objs.size := ⟨k, hs⟩
end Mine
end
section
namespace Mine
noncomputable def fi (x : Str) : List Str → Option Nat
  | [] => none
  | y :: r => if x = y then some 0 else (fi x r).map (· + 1)
theorem fi_inj {x y : Str} : ∀ {cx : List Str} {i : Nat}, fi x cx = some i → fi y cx = some i → x = y
  | [], _, h, _ => by simp [fi] at h
  | z :: r, i, h, k => by
    unfold fi at h k
    by_cases hx : x = z
    · rw [if_pos hx] at h
      by_cases hy : y = z
      · rw [hx, hy]
      · rw [if_neg hy] at k
        obtain ⟨j, _, e⟩ := Option.map_eq_some_iff.mp k
        injection h with h
        omega
    · rw [if_neg hx] at h
      obtain ⟨j, h1, e⟩ := Option.map_eq_some_iff.mp h
      by_cases hy : y = z
      · rw [if_pos hy] at k
        injection k with k
        omega
      · rw [if_neg hy] at k
        obtain ⟨j', k1, e'⟩ := Option.map_eq_some_iff.mp k
        have : j = j' := by lia
        subst this
        exact fi_inj h1 k1
theorem fi_lt {x : Str} : ∀ {cx : List Str} {i : Nat}, fi x cx = some i → i < cx.length
  | [], _, h => by simp [fi] at h
  | z :: r, i, h => by
    unfold fi at h
    by_cases hx : x = z
    · rw [if_pos hx] at h; injection h with h; subst h; simp
    · rw [if_neg hx] at h
      obtain ⟨j, h1, e⟩ := Option.map_eq_some_iff.mp h
      have := fi_lt h1
      simp; omega
noncomputable def Loc (env : Env) (h : Heap) (x : Str) (v : Value) : Prop :=
  (env.kindOf x = some .local ∧ ∃ m, h.Ns env.locals m ∧ m x = some v) ∨ ((env.kindOf x = some .cell ∨ env.kindOf x = some .free) ∧ ∃ c, env.cells.lookup x = some c ∧ h.IsCell c (some v))
structure ER (env : Env) (cx : List Str) (ρ : List (Option D)) (ad : Ad) (h : Heap) : Prop where
  kind : env.scope.kind = .function
  ns : ∃ m, h.Ns env.locals m
  var : ∀ x i d, fi x cx = some i → ρ[i]? = some (some d) → ∃ v, Loc env h x v ∧ Rep ad h d v
  cells : ∀ x, env.kindOf x = some .cell ∨ env.kindOf x = some .free → ∃ c, env.cells.lookup x = some c ∧ ∃ v, h.IsCell c v
  apart : env.cells.Pairwise fun x y => x.2 ≠ y.2
  glob : env.globals = mainGlobals
  bns : env.builtins = builtinsNs
theorem Loc.kept {env : Env} {h h' : Heap} {x : Str} {v : Value} (l : Loc env h x v) (k : Kept h h') : Loc env h' x v := by
  rcases l with ⟨a, m, b, c⟩ | ⟨a, c, b, d⟩
  · exact .inl ⟨a, m, k.ns b, c⟩
  · exact .inr ⟨a, c, b, k.cell d⟩
theorem ER.kept {env : Env} {cx : List Str} {ρ : List (Option D)} {ad : Ad} {h h' : Heap} (r : ER env cx ρ ad h) (k : Kept h h') : ER env cx ρ ad h' where
  kind := r.kind
  ns := let ⟨m, e⟩ := r.ns; ⟨m, k.ns e⟩
  var := fun x i d a b => let ⟨v, l, q⟩ := r.var x i d a b; ⟨v, l.kept k, q.kept k⟩
  cells := fun x a => let ⟨c, b, v, e⟩ := r.cells x a; ⟨c, b, v, k.cell e⟩
  apart := r.apart
  glob := r.glob
  bns := r.bns
noncomputable def plainName (x : Str) : Bool := !(x == ("__debug__" : Str)) && !(x == ("__classdict__" : Str))
theorem Loc.load {M : Model} {A : Around} {E : Value → Shared → Prop} {s : Shared} {env : Env} {x : Str} {v : Value} {Q : Value → Shared → Prop} (hk : env.scope.kind = .function) (l : Loc env s.heap x v)
    (hn : plainName x = true) (h : Q v s) : wpAny M A (loadName env x) Q E s := by
  unfold plainName at hn
  simp only [Bool.and_eq_true, Bool.not_eq_true'] at hn
  rcases l with ⟨a, m, b, c⟩ | ⟨a | a, c, b, d⟩
  · exact wpAny_loadName_local hk a b c h
  · exact wpAny_loadName_cell hk a b d h
  · exact wpAny_loadName_free hk a b d h hn.2
theorem Loc.name {M : Model} {A : Around} {E : Value → Shared → Prop} {s : Shared} {env : Env} {x : Str} {pos : Pos} {v : Value} {Q : Value → Shared → Prop} (hk : env.scope.kind = .function) (l : Loc env s.heap x v)
    (hn : plainName x = true) (h : Q v s) : wpAny M A (eval (.Name x pos) env) Q E s :=
  wpAny_Name (l.load hk hn h) (by unfold plainName at hn; simp only [Bool.and_eq_true, Bool.not_eq_true'] at hn; exact hn.1)
noncomputable def Kd (h h' : Heap) : Prop := ∀ b o, h.get? b = some o → (∀ es ep, o.data ≠ .dict es ep) → (∀ v, o.data ≠ .cell v) → h'.get? b = some o
theorem Kd.sk {ad : List Addr} {h h' : Heap} (k : Kd h h') : SK ad h h' := fun b o _ e q => by
  rcases q with ⟨xs, n, q⟩ | ⟨a, rfl⟩
  · exact k b o e (fun es ep x => by rw [q] at x; cases x) (fun v x => by rw [q] at x; cases x)
  · exact k b _ e (fun es ep x => by cases x) (fun v x => by cases x)
theorem Kept.kd {h h' : Heap} (k : Kept h h') : Kd h h' := fun b o e n _ => k.at e n
theorem Kd.trans {a b c : Heap} (x : Kd a b) (y : Kd b c) : Kd a c := fun p o e f g => y p o (x p o e f g) f g
theorem sk_ns {h h' : Heap} {a : Addr} {m : Str → Option Value} (n : h.Ns a m) (k : Heap.SameBut a h h') : Kd h h' := fun b o e q _ => by
  obtain ⟨o', es, ep, e', d, _⟩ := n
  refine (k.2 b ?_).trans e
  rintro rfl
  rw [e] at e'; cases e'
  exact q _ _ d
theorem sk_cell {h h' : Heap} {a : Addr} {v : Option Value} (n : h.IsCell a v) (k : Heap.SameBut a h h') : Kd h h' := fun b o e _ q => by
  obtain ⟨o', e', d⟩ := n
  refine (k.2 b ?_).trans e
  rintro rfl
  rw [e] at e'; cases e'
  exact q _ d
noncomputable def Dk (h h' : Heap) : Prop := ∀ b o es ep, h.get? b = some o → o.data = .dict es ep → ∃ o' es' ep', h'.get? b = some o' ∧ o'.data = .dict es' ep'
theorem Kept.dk {h h' : Heap} (k : Kept h h') : Dk h h' := fun b o es ep e d => let ⟨_, x, _⟩ := k b o e; ⟨_, es, ep, x, d⟩
theorem Dk.trans {a b c : Heap} (x : Dk a b) (y : Dk b c) : Dk a c := fun p o es ep e d => let ⟨_, _, _, e', d'⟩ := x p o es ep e d; y p _ _ _ e' d'
theorem Dk.of {h h' : Heap} {a : Addr} (k : ∀ b o, b ≠ a → h.get? b = some o → h'.get? b = some o) (n : (∀ o es ep, h.get? a = some o → o.data ≠ .dict es ep) ∨ ∃ m, h'.Ns a m) : Dk h h' := fun b o es ep e d => by
  by_cases hb : b = a
  · subst hb
    rcases n with n | ⟨m, o', es', ep', x, y, _⟩
    · exact absurd d (n o es ep e)
    · exact ⟨o', es', ep', x, y⟩
  · exact ⟨o, es, ep, k b o hb e, d⟩
theorem Dk.ns {h h' : Heap} {a : Addr} {m : Str → Option Value} (n : h'.Ns a m) (k : Heap.SameBut a h h') : Dk h h' := Dk.of (fun b o hb e => (k.2 b hb).trans e) (.inr ⟨m, n⟩)
theorem Dk.cel {h h' : Heap} {a : Addr} {v : Option Value} (n : h.IsCell a v) (k : Heap.SameBut a h h') : Dk h h' := Dk.of (fun b o hb e => (k.2 b hb).trans e) (.inl fun o es ep e d => by
  obtain ⟨o', e', d'⟩ := n
  rw [e] at e'; cases e'
  rw [d] at d'; cases d')
noncomputable def FrF (base h : Heap) (l : List Env) : Prop := ∀ env ∈ l, env.scope.kind ≠ .module ∧ ∃ L o es ep, env.frame = some L ∧ base.get? L = none ∧ h.get? L = some o ∧ o.data = .dict es ep
theorem FrF.dk {base h h' : Heap} {l : List Env} (x : FrF base h l) (k : Dk h h') : FrF base h' l := fun env m =>
  let ⟨a, L, o, es, ep, b, c, d, e⟩ := x env m
  let ⟨o', es', ep', d', e'⟩ := k L o es ep d e
  ⟨a, L, o', es', ep', b, c, d', e'⟩
theorem ns_ne_cell {h : Heap} {a c : Addr} {m : Str → Option Value} {v : Option Value} (n : h.Ns a m) (k : h.IsCell c v) : a ≠ c := by
  rintro rfl
  obtain ⟨o', es, ep, e', d, _⟩ := n
  obtain ⟨o, e, q⟩ := k
  rw [e] at e'; cases e'
  rw [q] at d; cases d
theorem lookup_mem {β : Type} {x : Str} {c : β} : ∀ {l : List (Str × β)}, l.lookup x = some c → (x, c) ∈ l
  | [], h => by simp at h
  | (y, b) :: r, h => by
    rw [List.lookup_cons] at h
    cases e : x == y with
    | true =>
      rw [e] at h
      have : x = y := eq_of_beq e
      subst this
      injection h with h; subst h; exact .head _
    | false => rw [e] at h; exact .tail _ (lookup_mem h)
theorem pw_ne {x y : Str} {c c' : Addr} {l : List (Str × Addr)} (p : l.Pairwise fun x y => x.2 ≠ y.2) (h : (x, c) ∈ l) (k : (y, c') ∈ l) (n : x ≠ y) : c ≠ c' := by
  rintro rfl
  induction l with
  | nil => cases h
  | cons z r ih =>
    rw [List.pairwise_cons] at p
    rcases List.mem_cons.mp h with rfl | h'
    · rcases List.mem_cons.mp k with e | k'
      · cases e; exact n rfl
      · exact p.1 _ k' rfl
    · rcases List.mem_cons.mp k with rfl | k'
      · exact p.1 _ h' rfl
      · exact ih p.2 h' k'
theorem ER.store {M : Model} {A : Around} {E : Value → Shared → Prop} {s : Shared} {env : Env} {cx : List Str} {ρ : List (Option D)} {ad : Ad} {x : Str} {i : Nat} {v : Value} {d : D} {Q : Unit → Shared → Prop}
    (r : ER env cx ρ ad s.heap) (hi : fi x cx = some i) (hk : env.kindOf x = some .local ∨ env.kindOf x = some .cell) (p : Rep ad s.heap d v)
    (h : ∀ h' tk a, ER env cx (ρ.set i (some d)) ad h' → (a = env.locals ∨ (env.kindOf x = some .cell ∧ env.cells.lookup x = some a)) → Heap.SameBut a s.heap h' → Kd s.heap h' → Dk s.heap h' → Q () { s with heap := h', toks := tk }) :
    wpAny M A (storeName env x v) Q E s := by
  have kd : (env.scope.kind == .class || (env.scope.kind == .module && env.locals != env.globals)) = false := by rw [r.kind]; rfl
  obtain ⟨m, hn⟩ := r.ns
  rcases hk with hl | hc
  · refine wpAny_storeName_local hl hn (fun h' hn' hs => ?_) kd
    refine h h' _ _ ⟨r.kind, ⟨_, hn'⟩, fun y j e a b => ?_, fun y a => ?_, r.apart, r.glob, r.bns⟩ (.inl rfl) hs (sk_ns hn hs) (Dk.ns hn' hs)
    · by_cases hy : y = x
      · subst hy
        rw [hi] at a; injection a with a; subst a
        have : e = d := by
          rw [List.getElem?_set] at b
          split at b
          · split at b
            · injection b with b; injection b with b; exact b.symm
            · cases b
          · rename_i q; exact absurd rfl q
        subst this
        exact ⟨v, .inl ⟨hl, _, hn', by simp⟩, Rep.sk (sk_ns hn hs).sk _ _ p⟩
      · have hj : i ≠ j := fun q => hy (fi_inj a (q ▸ hi))
        rw [List.getElem?_set_ne hj] at b
        obtain ⟨u, l, q⟩ := r.var y j e a b
        refine ⟨u, ?_, Rep.sk (sk_ns hn hs).sk _ _ q⟩
        rcases l with ⟨a', m', b', c'⟩ | ⟨a', c, b', c'⟩
        · refine .inl ⟨a', _, hn', ?_⟩
          rw [if_neg hy]
          obtain ⟨o1, es1, ep1, q1, q2, q3, q4⟩ := b'
          obtain ⟨o2, es2, ep2, w1, w2, w3, w4⟩ := hn
          rw [q1] at w1; injection w1 with w1; subst w1
          rw [q2] at w2; injection w2 with w2 w2'; subst w2
          rw [← w4 y, q4 y]; exact c'
        · exact .inr ⟨a', c, b', c'.sameBut hs (Ne.symm (ns_ne_cell hn c'))⟩
    · obtain ⟨c, b, u, e⟩ := r.cells y a
      exact ⟨c, b, u, e.sameBut hs (Ne.symm (ns_ne_cell hn e))⟩
  · obtain ⟨c, hcl, v₀, hcv⟩ := r.cells x (.inl hc)
    refine wpAny_storeName_cell r.kind hc hcl hcv (fun h' hc' hs => ?_)
    have hLc := ns_ne_cell hn hcv
    refine h h' _ _ ⟨r.kind, ⟨_, hn.sameBut hs hLc⟩, fun y j e a b => ?_, fun y a => ?_, r.apart, r.glob, r.bns⟩ (.inr ⟨hc, hcl⟩) hs (sk_cell hcv hs) (Dk.cel hcv hs)
    · by_cases hy : y = x
      · subst hy
        rw [hi] at a; injection a with a; subst a
        have : e = d := by
          rw [List.getElem?_set] at b
          split at b
          · split at b
            · injection b with b; injection b with b; exact b.symm
            · cases b
          · rename_i q; exact absurd rfl q
        subst this
        exact ⟨v, .inr ⟨.inl hc, c, hcl, hc'⟩, Rep.sk (sk_cell hcv hs).sk _ _ p⟩
      · have hj : i ≠ j := fun q => hy (fi_inj a (q ▸ hi))
        rw [List.getElem?_set_ne hj] at b
        obtain ⟨u, l, q⟩ := r.var y j e a b
        refine ⟨u, ?_, Rep.sk (sk_cell hcv hs).sk _ _ q⟩
        rcases l with ⟨a', m', b', c'⟩ | ⟨a', c₂, b', c'⟩
        · exact .inl ⟨a', m', b'.sameBut hs (ns_ne_cell b' hcv), c'⟩
        · exact .inr ⟨a', c₂, b', c'.sameBut hs (pw_ne r.apart (lookup_mem b') (lookup_mem hcl) hy)⟩
    · obtain ⟨c₂, b, u, e⟩ := r.cells y a
      by_cases hy : c₂ = c
      · subst hy; exact ⟨c₂, b, _, hc'⟩
      · exact ⟨c₂, b, u, e.sameBut hs hy⟩
end Mine
end
section
namespace Mine
noncomputable def gd {α : Type} (b : Bool) (x : Option α) : Option α := match b with
  | true => x
  | false => none
noncomputable def alt {α : Type} (a b : Option α) : Option α := match a with
  | some x => some x
  | none => b
noncomputable def fst {α : Type} : List (Option α) → Option α
  | [] => none
  | a :: r => alt a (fst r)
noncomputable def AllS {α : Type} (y : α) (P : Prop) : List (Option α) → Prop
  | [] => True
  | a :: r => (a = some y → P) ∧ AllS y P r
theorem gd_el {α : Type} {P : Prop} {b : Bool} {x : Option α} {y : α} (h : gd b x = some y) (k : b = true → x = some y → P) : P := by
  cases b with
  | true => exact k rfl h
  | false => cases h
theorem fst_el {α : Type} {P : Prop} {y : α} : ∀ {l : List (Option α)}, fst l = some y → AllS y P l → P
  | none :: r, h, k => fst_el (l := r) h k.2
  | some _ :: _, h, k => k.1 h
theorem alt_last {α : Type} {a : Option α} {y : α} (h : alt a (fst []) = some y) : a = some y := by
  cases a with
  | some x => exact h
  | none => cases h
theorem bs {α β : Type} {a : Option α} {x : α} {f : α → Option β} (h : a = some x) : a.bind f = f x := by rw [h]; rfl
theorem if_is {α : Type} {c : Prop} [Decidable c] {x : Option α} {y : α} (h : (if c then x else none) = some y) : c ∧ x = some y := by
  by_cases q : c
  · rw [if_pos q] at h; exact ⟨q, h⟩
  · rw [if_neg q] at h; cases h
theorem alt_n {α : Type} {a : Option α} {y : α} (h : alt a none = some y) : a = some y := by
  cases a with
  | some x => exact h
  | none => cases h
theorem alt_two {α : Type} {a b : Option α} {y : α} (h : alt a b = some y) : fst [a, b] = some y := by
  cases a with
  | some x => exact h
  | none => cases b with
    | some x => exact h
    | none => cases h
theorem bd_el {α β : Type} {P : Prop} {a : Option α} {f : α → Option β} {y : β} (h : a.bind f = some y) (k : ∀ x, a = some x → f x = some y → P) : P := by
  cases a with
  | some x => exact k x rfl h
  | none => cases h
theorem mp_el {α β : Type} {P : β → Prop} {a : Option α} {f : α → β} {y : β} (h : a.map f = some y) (k : ∀ x, a = some x → P (f x)) : P y := by
  cases a with
  | some x => cases h; exact k x rfl
  | none => cases h
theorem so_el {α : Type} {P : α → Prop} {x y : α} (h : some x = some y) (k : P x) : P y := by cases h; exact k
theorem di_el {β : Type} {P : Prop} {c : Prop} [Decidable c] {f : c → Option β} {y : β} (h : (if h : c then f h else none) = some y) (k : ∀ q : c, f q = some y → P) : P := by
  by_cases q : c
  · rw [dif_pos q] at h; exact k q h
  · rw [dif_neg q] at h; cases h
noncomputable def one {α : Type} (l : List α) : Option α := match l with
  | [] => none
  | x :: r => gd r.isEmpty (some x)
theorem one_el {α : Type} {P : List α → Prop} {l : List α} {x : α} (h : one l = some x) (k : P [x]) : P l := by
  cases l with
  | nil => cases h
  | cons a r => cases r with
    | nil => cases h; exact k
    | cons _ _ => cases h
theorem em_el {α : Type} {P : List α → Prop} {l : List α} (h : l.isEmpty = true) (k : P []) : P l := by
  cases l with
  | nil => exact k
  | cons _ _ => cases h
theorem and_l {a b : Bool} (h : (a && b) = true) : a = true := by
  cases a with
  | true => rfl
  | false => cases h
theorem and_r {a b : Bool} (h : (a && b) = true) : b = true := by
  cases a with
  | true => exact h
  | false => cases h
noncomputable def dBoolOp {β : Type} (z : Expr) (K : PySem.BoolOp → List Expr → Pos → Option β) : Option β := if h : z.ctorIdx = 0 then PySem.Expr.BoolOp.elim (motive_1 := fun _ => Option β) z h K else none
theorem dBoolOp_el {β : Type} {P : Expr → Prop} {z : Expr} {K : PySem.BoolOp → List Expr → Pos → Option β} {y : β} (h : dBoolOp z K = some y) (kk : ∀ op es p, K op es p = some y → P (.BoolOp op es p)) : P z :=
  di_el h fun u h => PySem.Expr.BoolOp.elim (motive_1 := fun z => ∀ u : z.ctorIdx = 0, PySem.Expr.BoolOp.elim (motive_1 := fun _ => Option β) z u K = some y → P z) z u (fun op es p _ h => kk op es p h) u h
noncomputable def dBinOp {β : Type} (z : Expr) (K : Expr → Operator → Expr → Pos → Option β) : Option β := if h : z.ctorIdx = 2 then PySem.Expr.BinOp.elim (motive_1 := fun _ => Option β) z h K else none
theorem dBinOp_el {β : Type} {P : Expr → Prop} {z : Expr} {K : Expr → Operator → Expr → Pos → Option β} {y : β} (h : dBinOp z K = some y) (kk : ∀ l op r p, K l op r p = some y → P (.BinOp l op r p)) : P z :=
  di_el h fun u h => PySem.Expr.BinOp.elim (motive_1 := fun z => ∀ u : z.ctorIdx = 2, PySem.Expr.BinOp.elim (motive_1 := fun _ => Option β) z u K = some y → P z) z u (fun l op r p _ h => kk l op r p h) u h
noncomputable def dUnaryOp {β : Type} (z : Expr) (K : PySem.UnaryOp → Expr → Pos → Option β) : Option β := if h : z.ctorIdx = 3 then PySem.Expr.UnaryOp.elim (motive_1 := fun _ => Option β) z h K else none
theorem dUnaryOp_el {β : Type} {P : Expr → Prop} {z : Expr} {K : PySem.UnaryOp → Expr → Pos → Option β} {y : β} (h : dUnaryOp z K = some y) (kk : ∀ op a p, K op a p = some y → P (.UnaryOp op a p)) : P z :=
  di_el h fun u h => PySem.Expr.UnaryOp.elim (motive_1 := fun z => ∀ u : z.ctorIdx = 3, PySem.Expr.UnaryOp.elim (motive_1 := fun _ => Option β) z u K = some y → P z) z u (fun op a p _ h => kk op a p h) u h
noncomputable def dListComp {β : Type} (z : Expr) (K : Expr → List Comprehension → Scope → Pos → Option β) : Option β := if h : z.ctorIdx = 8 then PySem.Expr.ListComp.elim (motive_1 := fun _ => Option β) z h K else none
theorem dListComp_el {β : Type} {P : Expr → Prop} {z : Expr} {K : Expr → List Comprehension → Scope → Pos → Option β} {y : β} (h : dListComp z K = some y) (kk : ∀ a g sc p, K a g sc p = some y → P (.ListComp a g sc p)) : P z :=
  di_el h fun u h => PySem.Expr.ListComp.elim (motive_1 := fun z => ∀ u : z.ctorIdx = 8, PySem.Expr.ListComp.elim (motive_1 := fun _ => Option β) z u K = some y → P z) z u (fun a g sc p _ h => kk a g sc p h) u h
noncomputable def dCompare {β : Type} (z : Expr) (K : Expr → List CmpOp → List Expr → Pos → Option β) : Option β := if h : z.ctorIdx = 15 then PySem.Expr.Compare.elim (motive_1 := fun _ => Option β) z h K else none
theorem dCompare_el {β : Type} {P : Expr → Prop} {z : Expr} {K : Expr → List CmpOp → List Expr → Pos → Option β} {y : β} (h : dCompare z K = some y) (kk : ∀ l ops rs p, K l ops rs p = some y → P (.Compare l ops rs p)) : P z :=
  di_el h fun u h => PySem.Expr.Compare.elim (motive_1 := fun z => ∀ u : z.ctorIdx = 15, PySem.Expr.Compare.elim (motive_1 := fun _ => Option β) z u K = some y → P z) z u (fun l ops rs p _ h => kk l ops rs p h) u h
noncomputable def dCall {β : Type} (z : Expr) (K : Expr → List Expr → List Keyword → Pos → Option β) : Option β := if h : z.ctorIdx = 16 then PySem.Expr.Call.elim (motive_1 := fun _ => Option β) z h K else none
theorem dCall_el {β : Type} {P : Expr → Prop} {z : Expr} {K : Expr → List Expr → List Keyword → Pos → Option β} {y : β} (h : dCall z K = some y) (kk : ∀ f as kw p, K f as kw p = some y → P (.Call f as kw p)) : P z :=
  di_el h fun u h => PySem.Expr.Call.elim (motive_1 := fun z => ∀ u : z.ctorIdx = 16, PySem.Expr.Call.elim (motive_1 := fun _ => Option β) z u K = some y → P z) z u (fun f as kw p _ h => kk f as kw p h) u h
noncomputable def dConstant {β : Type} (z : Expr) (K : Const → Nat → Pos → Option β) : Option β := if h : z.ctorIdx = 19 then PySem.Expr.Constant.elim (motive_1 := fun _ => Option β) z h K else none
theorem dConstant_el {β : Type} {P : Expr → Prop} {z : Expr} {K : Const → Nat → Pos → Option β} {y : β} (h : dConstant z K = some y) (kk : ∀ c k p, K c k p = some y → P (.Constant c k p)) : P z :=
  di_el h fun u h => PySem.Expr.Constant.elim (motive_1 := fun z => ∀ u : z.ctorIdx = 19, PySem.Expr.Constant.elim (motive_1 := fun _ => Option β) z u K = some y → P z) z u (fun c k p _ h => kk c k p h) u h
noncomputable def dAttribute {β : Type} (z : Expr) (K : Expr → Str → Pos → Option β) : Option β := if h : z.ctorIdx = 20 then PySem.Expr.Attribute.elim (motive_1 := fun _ => Option β) z h K else none
theorem dAttribute_el {β : Type} {P : Expr → Prop} {z : Expr} {K : Expr → Str → Pos → Option β} {y : β} (h : dAttribute z K = some y) (kk : ∀ o m p, K o m p = some y → P (.Attribute o m p)) : P z :=
  di_el h fun u h => PySem.Expr.Attribute.elim (motive_1 := fun z => ∀ u : z.ctorIdx = 20, PySem.Expr.Attribute.elim (motive_1 := fun _ => Option β) z u K = some y → P z) z u (fun o m p _ h => kk o m p h) u h
noncomputable def dSubscript {β : Type} (z : Expr) (K : Expr → Expr → Pos → Option β) : Option β := if h : z.ctorIdx = 21 then PySem.Expr.Subscript.elim (motive_1 := fun _ => Option β) z h K else none
theorem dSubscript_el {β : Type} {P : Expr → Prop} {z : Expr} {K : Expr → Expr → Pos → Option β} {y : β} (h : dSubscript z K = some y) (kk : ∀ a b p, K a b p = some y → P (.Subscript a b p)) : P z :=
  di_el h fun u h => PySem.Expr.Subscript.elim (motive_1 := fun z => ∀ u : z.ctorIdx = 21, PySem.Expr.Subscript.elim (motive_1 := fun _ => Option β) z u K = some y → P z) z u (fun a b p _ h => kk a b p h) u h
noncomputable def dName {β : Type} (z : Expr) (K : Str → Pos → Option β) : Option β := if h : z.ctorIdx = 23 then PySem.Expr.Name.elim (motive_1 := fun _ => Option β) z h K else none
theorem dName_el {β : Type} {P : Expr → Prop} {z : Expr} {K : Str → Pos → Option β} {y : β} (h : dName z K = some y) (kk : ∀ x p, K x p = some y → P (.Name x p)) : P z :=
  di_el h fun u h => PySem.Expr.Name.elim (motive_1 := fun z => ∀ u : z.ctorIdx = 23, PySem.Expr.Name.elim (motive_1 := fun _ => Option β) z u K = some y → P z) z u (fun x p _ h => kk x p h) u h
noncomputable def dList {β : Type} (z : Expr) (K : List Expr → Pos → Option β) : Option β := if h : z.ctorIdx = 24 then PySem.Expr.List.elim (motive_1 := fun _ => Option β) z h K else none
theorem dList_el {β : Type} {P : Expr → Prop} {z : Expr} {K : List Expr → Pos → Option β} {y : β} (h : dList z K = some y) (kk : ∀ es p, K es p = some y → P (.List es p)) : P z :=
  di_el h fun u h => PySem.Expr.List.elim (motive_1 := fun z => ∀ u : z.ctorIdx = 24, PySem.Expr.List.elim (motive_1 := fun _ => Option β) z u K = some y → P z) z u (fun es p _ h => kk es p h) u h
noncomputable def dTuple {β : Type} (z : Expr) (K : List Expr → Nat → Pos → Option β) : Option β := if h : z.ctorIdx = 25 then PySem.Expr.Tuple.elim (motive_1 := fun _ => Option β) z h K else none
theorem dTuple_el {β : Type} {P : Expr → Prop} {z : Expr} {K : List Expr → Nat → Pos → Option β} {y : β} (h : dTuple z K = some y) (kk : ∀ es k p, K es k p = some y → P (.Tuple es k p)) : P z :=
  di_el h fun u h => PySem.Expr.Tuple.elim (motive_1 := fun z => ∀ u : z.ctorIdx = 25, PySem.Expr.Tuple.elim (motive_1 := fun _ => Option β) z u K = some y → P z) z u (fun es k p _ h => kk es k p h) u h
noncomputable def dSlice {β : Type} (z : Expr) (K : Option Expr → Option Expr → Option Expr → Pos → Option β) : Option β := if h : z.ctorIdx = 26 then PySem.Expr.Slice.elim (motive_1 := fun _ => Option β) z h K else none
theorem dSlice_el {β : Type} {P : Expr → Prop} {z : Expr} {K : Option Expr → Option Expr → Option Expr → Pos → Option β} {y : β} (h : dSlice z K = some y) (kk : ∀ lo hi st p, K lo hi st p = some y → P (.Slice lo hi st p)) : P z :=
  di_el h fun u h => PySem.Expr.Slice.elim (motive_1 := fun z => ∀ u : z.ctorIdx = 26, PySem.Expr.Slice.elim (motive_1 := fun _ => Option β) z u K = some y → P z) z u (fun lo hi st p _ h => kk lo hi st p h) u h
noncomputable def sReturn {β : Type} (z : Stmt) (K : Option Expr → Pos → Option β) : Option β := if h : z.ctorIdx = 3 then PySem.Stmt.Return.elim (motive_2 := fun _ => Option β) z h K else none
theorem sReturn_el {β : Type} {P : Stmt → Prop} {z : Stmt} {K : Option Expr → Pos → Option β} {y : β} (h : sReturn z K = some y) (kk : ∀ e p, K e p = some y → P (.Return e p)) : P z :=
  di_el h fun u h => PySem.Stmt.Return.elim (motive_2 := fun z => ∀ u : z.ctorIdx = 3, PySem.Stmt.Return.elim (motive_2 := fun _ => Option β) z u K = some y → P z) z u (fun e p _ h => kk e p h) u h
noncomputable def sAssign {β : Type} (z : Stmt) (K : List Expr → Expr → Pos → Option β) : Option β := if h : z.ctorIdx = 5 then PySem.Stmt.Assign.elim (motive_2 := fun _ => Option β) z h K else none
theorem sAssign_el {β : Type} {P : Stmt → Prop} {z : Stmt} {K : List Expr → Expr → Pos → Option β} {y : β} (h : sAssign z K = some y) (kk : ∀ ts e p, K ts e p = some y → P (.Assign ts e p)) : P z :=
  di_el h fun u h => PySem.Stmt.Assign.elim (motive_2 := fun z => ∀ u : z.ctorIdx = 5, PySem.Stmt.Assign.elim (motive_2 := fun _ => Option β) z u K = some y → P z) z u (fun ts e p _ h => kk ts e p h) u h
noncomputable def sAugAssign {β : Type} (z : Stmt) (K : Expr → Operator → Expr → Pos → Option β) : Option β := if h : z.ctorIdx = 7 then PySem.Stmt.AugAssign.elim (motive_2 := fun _ => Option β) z h K else none
theorem sAugAssign_el {β : Type} {P : Stmt → Prop} {z : Stmt} {K : Expr → Operator → Expr → Pos → Option β} {y : β} (h : sAugAssign z K = some y) (kk : ∀ t op e p, K t op e p = some y → P (.AugAssign t op e p)) : P z :=
  di_el h fun u h => PySem.Stmt.AugAssign.elim (motive_2 := fun z => ∀ u : z.ctorIdx = 7, PySem.Stmt.AugAssign.elim (motive_2 := fun _ => Option β) z u K = some y → P z) z u (fun t op e p _ h => kk t op e p h) u h
noncomputable def sFor {β : Type} (z : Stmt) (K : Expr → Expr → List Stmt → List Stmt → Pos → Option β) : Option β := if h : z.ctorIdx = 9 then PySem.Stmt.For.elim (motive_2 := fun _ => Option β) z h K else none
theorem sFor_el {β : Type} {P : Stmt → Prop} {z : Stmt} {K : Expr → Expr → List Stmt → List Stmt → Pos → Option β} {y : β} (h : sFor z K = some y) (kk : ∀ t it b el p, K t it b el p = some y → P (.For t it b el p)) : P z :=
  di_el h fun u h => PySem.Stmt.For.elim (motive_2 := fun z => ∀ u : z.ctorIdx = 9, PySem.Stmt.For.elim (motive_2 := fun _ => Option β) z u K = some y → P z) z u (fun t it b el p _ h => kk t it b el p h) u h
noncomputable def sWhile {β : Type} (z : Stmt) (K : Expr → List Stmt → List Stmt → Pos → Option β) : Option β := if h : z.ctorIdx = 11 then PySem.Stmt.While.elim (motive_2 := fun _ => Option β) z h K else none
theorem sWhile_el {β : Type} {P : Stmt → Prop} {z : Stmt} {K : Expr → List Stmt → List Stmt → Pos → Option β} {y : β} (h : sWhile z K = some y) (kk : ∀ c b el p, K c b el p = some y → P (.While c b el p)) : P z :=
  di_el h fun u h => PySem.Stmt.While.elim (motive_2 := fun z => ∀ u : z.ctorIdx = 11, PySem.Stmt.While.elim (motive_2 := fun _ => Option β) z u K = some y → P z) z u (fun c b el p _ h => kk c b el p h) u h
noncomputable def sIf {β : Type} (z : Stmt) (K : Expr → List Stmt → List Stmt → Pos → Option β) : Option β := if h : z.ctorIdx = 12 then PySem.Stmt.If.elim (motive_2 := fun _ => Option β) z h K else none
theorem sIf_el {β : Type} {P : Stmt → Prop} {z : Stmt} {K : Expr → List Stmt → List Stmt → Pos → Option β} {y : β} (h : sIf z K = some y) (kk : ∀ c a b p, K c a b p = some y → P (.If c a b p)) : P z :=
  di_el h fun u h => PySem.Stmt.If.elim (motive_2 := fun z => ∀ u : z.ctorIdx = 12, PySem.Stmt.If.elim (motive_2 := fun _ => Option β) z u K = some y → P z) z u (fun c a b p _ h => kk c a b p h) u h
noncomputable def sRaise {β : Type} (z : Stmt) (K : Option Expr → Option Expr → Pos → Option β) : Option β := if h : z.ctorIdx = 16 then PySem.Stmt.Raise.elim (motive_2 := fun _ => Option β) z h K else none
theorem sRaise_el {β : Type} {P : Stmt → Prop} {z : Stmt} {K : Option Expr → Option Expr → Pos → Option β} {y : β} (h : sRaise z K = some y) (kk : ∀ a b p, K a b p = some y → P (.Raise a b p)) : P z :=
  di_el h fun u h => PySem.Stmt.Raise.elim (motive_2 := fun z => ∀ u : z.ctorIdx = 16, PySem.Stmt.Raise.elim (motive_2 := fun _ => Option β) z u K = some y → P z) z u (fun a b p _ h => kk a b p h) u h
noncomputable def sExpr {β : Type} (z : Stmt) (K : Expr → Pos → Option β) : Option β := if h : z.ctorIdx = 24 then PySem.Stmt.Expr.elim (motive_2 := fun _ => Option β) z h K else none
theorem sExpr_el {β : Type} {P : Stmt → Prop} {z : Stmt} {K : Expr → Pos → Option β} {y : β} (h : sExpr z K = some y) (kk : ∀ e p, K e p = some y → P (.Expr e p)) : P z :=
  di_el h fun u h => PySem.Stmt.Expr.elim (motive_2 := fun z => ∀ u : z.ctorIdx = 24, PySem.Stmt.Expr.elim (motive_2 := fun _ => Option β) z u K = some y → P z) z u (fun e p _ h => kk e p h) u h
noncomputable def sBreak {β : Type} (z : Stmt) (K : Pos → Option β) : Option β := if h : z.ctorIdx = 26 then PySem.Stmt.Break.elim (motive_2 := fun _ => Option β) z h K else none
theorem sBreak_el {β : Type} {P : Stmt → Prop} {z : Stmt} {K : Pos → Option β} {y : β} (h : sBreak z K = some y) (kk : ∀ p, K p = some y → P (.Break p)) : P z :=
  di_el h fun u h => PySem.Stmt.Break.elim (motive_2 := fun z => ∀ u : z.ctorIdx = 26, PySem.Stmt.Break.elim (motive_2 := fun _ => Option β) z u K = some y → P z) z u (fun p _ h => kk p h) u h
noncomputable def sContinue {β : Type} (z : Stmt) (K : Pos → Option β) : Option β := if h : z.ctorIdx = 27 then PySem.Stmt.Continue.elim (motive_2 := fun _ => Option β) z h K else none
theorem sContinue_el {β : Type} {P : Stmt → Prop} {z : Stmt} {K : Pos → Option β} {y : β} (h : sContinue z K = some y) (kk : ∀ p, K p = some y → P (.Continue p)) : P z :=
  di_el h fun u h => PySem.Stmt.Continue.elim (motive_2 := fun z => ∀ u : z.ctorIdx = 27, PySem.Stmt.Continue.elim (motive_2 := fun _ => Option β) z u K = some y → P z) z u (fun p _ h => kk p h) u h
end Mine
end
section
namespace Mine
inductive B1 where
  | len | sum | min | max | sorted | chr
  deriving DecidableEq, Inhabited
inductive M1 where
  | join | split | endswith
  deriving DecidableEq, Inhabited
inductive M0 where
  | splitlines | rstrip
  deriving DecidableEq, Inhabited
mutual
inductive PX where
  | var (i : Nat)
  | glob (i : Nat)
  | lit (d : D)
  | bin (op : Operator) (a b : PX)
  | cmp (op : CmpOp) (a b : PX)
  | and (es : List PX)
  | or (es : List PX)
  | not (a : PX)
  | neg (a : PX)
  | idx (a b : PX)
  | slc (a lo hi st : PX)
  | b1 (f : B1) (a : PX)
  | int2 (a b : PX)
  | call (k : Nat) (args : List PX)
  | meth1 (m : M1) (o a : PX)
  | meth0 (m : M0) (o : PX)
  | trans (o a : PX)
  | list (es : List PX)
  | tup (es : List PX)
  | comp (mask : List Bool) (k : Nat) (it : PI) (c : PC)
inductive PI where
  | rng (as : List PX)
  | seq (e : PX)
inductive PC where
  | fin (sl : Nat) (conds : List PX) (elt : PX)
  | nest (sl : Nat) (conds : List PX) (it : PI) (c : PC)
end
noncomputable def gnames : List Str := ["hexdigits", "CRLF", "_QUOPRI_BODY_ENCODE_MAP"]
noncomputable def fnames : List Str := ["unquote", "body_encode", "decode", "heappush", "heappop", "_siftdown", "_siftup", "sorted_list_difference", "_law_numbers", "_law_octet", "_law_sign", "_law_breaks", "_law_fits", "_law_noted", "_law_moved",
  "_law_fewest", "_law_spelled", "_law_apart", "_law_told", "_law_holds", "quote"]
noncomputable def bnames : List (Str × B1) := [("len", .len), ("sum", .sum), ("min", .min), ("max", .max), ("sorted", .sorted), ("chr", .chr)]
noncomputable def bid : B1 → String
  | .len => "len" | .sum => "sum" | .min => "min" | .max => "max" | .sorted => "sorted" | .chr => "chr"
noncomputable def mname : List (Str × M1) := [("join", .join), ("split", .split), ("endswith", .endswith)]
noncomputable def m0name : List (Str × M0) := [("splitlines", .splitlines), ("rstrip", .rstrip)]
noncomputable def nameOf (g : Comprehension) : Option Str := dName g.target fun x _ => some x
noncomputable def relabelL (nm : List (Str × NameKind)) (l : List (Str × NameKind)) : List (Str × NameKind) := l.map fun (n, k) => if k == .free && nm.lookup n == some .cell then (n, .cell) else (n, k)
noncomputable def compOk (nm : List (Str × NameKind)) (sc : Scope) (xs : List Str) : Bool :=
  sc.kind == .function && (sc.names.all fun (y, k) => k != .local || sc.names.lookup y == some .local) &&
  (xs.all fun x => sc.names.lookup x == some .local || sc.names.lookup x == some .cell) && decide xs.Nodup && decide (sc.names.map (·.1)).Nodup &&
  (sc.names.all fun (y, k) => k != .free || ((nm.lookup y == some .cell || nm.lookup y == some .free) && sc.names.lookup y == some .free && !(xs.contains y)))
structure TR where
  x : List (Str × NameKind) → List Str → Expr → Option PX
  l : List (Str × NameKind) → List Str → List Expr → Option (List PX)
  o : List (Str × NameKind) → List Str → Option Expr → Option PX
  i : List (Str × NameKind) → List Str → Expr → Option PI
  c : List (Str × NameKind) → List Str → Str → List Expr → List Comprehension → Expr → Option PC
noncomputable def litD : Const → Option D
  | .none => some .none
  | .bool b => some (.bool b)
  | .int i => some (.int i)
  | .str x => some (.str x)
  | _ => none
noncomputable def unF : UnaryOp → Option (PX → PX)
  | .Not => some .not
  | .USub => some .neg
  | _ => none
noncomputable def boF : PySem.BoolOp → List PX → PX
  | .And => .and
  | .Or => .or
section
variable (nm : List (Str × NameKind)) (cx : List Str) (T : Expr → Option PX) (TL : List Expr → Option (List PX)) (TO : Option Expr → Option PX) (e : Expr)
noncomputable def glN (f : Str) : Bool := plainName f && (fi f cx).isNone && nm.lookup f == some .globalImplicit
noncomputable def xLit : Option PX := dConstant e fun c _ _ => (litD c).map .lit
noncomputable def xVar : Option PX := dName e fun x _ => gd (plainName x) ((fi x cx).map .var)
noncomputable def xGlob : Option PX := dName e fun x _ => gd (glN nm cx x) ((fi x gnames).map .glob)
noncomputable def xBin : Option PX := dBinOp e fun l op r _ => (T l).bind fun a => (T r).map fun b => .bin op a b
noncomputable def xCmp : Option PX := dCompare e fun l ops rs _ => (one ops).bind fun op => (one rs).bind fun r => gd (!behindInMarks op r) ((T l).bind fun a => (T r).map fun b => .cmp op a b)
noncomputable def xBool : Option PX := dBoolOp e fun op es _ => (TL es).map (boF op)
noncomputable def xUn : Option PX := dUnaryOp e fun op a _ => (unF op).bind fun f => (T a).map f
noncomputable def xSlc : Option PX := dSubscript e fun a b _ => dSlice b fun lo hi st _ => (T a).bind fun x => (TO lo).bind fun l => (TO hi).bind fun h => (TO st).map fun s => .slc x l h s
noncomputable def xIdx : Option PX := dSubscript e fun a b _ => (T a).bind fun x => (T b).map fun y => .idx x y
noncomputable def xList : Option PX := dList e fun es _ => (TL es).map .list
noncomputable def xTup : Option PX := dTuple e fun es _ _ => (TL es).map .tup
noncomputable def xB1 : Option PX := dCall e fun f as kw _ => dName f fun f _ => gd (kw.isEmpty && glN nm cx f) ((bnames.lookup f).bind fun b => (one as).bind fun a => (T a).map (.b1 b))
noncomputable def two (T : Expr → Option PX) (as : List Expr) : Option PX := match as with
  | [] => none
  | a :: r => (one r).bind fun b => (T a).bind fun x => (T b).map fun y => .int2 x y
noncomputable def xInt : Option PX := dCall e fun f as kw _ => dName f fun f _ => gd (kw.isEmpty && glN nm cx f && f == ("int" : Str)) (two T as)
noncomputable def xFn : Option PX := dCall e fun f as kw _ => dName f fun f _ => gd (kw.isEmpty && glN nm cx f && !as.isEmpty) ((fi f fnames).bind fun k => (TL as).map (.call k))
noncomputable def xM1 : Option PX := dCall e fun f as kw p => dAttribute f fun o m q => gd (kw.isEmpty && q.endLine == p.line) ((mname.lookup m).bind fun b => (one as).bind fun a => (T o).bind fun x => (T a).map fun y => .meth1 b x y)
noncomputable def xM0 : Option PX := dCall e fun f as kw p => dAttribute f fun o m q => gd (kw.isEmpty && q.endLine == p.line && as.isEmpty) ((m0name.lookup m).bind fun b => (T o).map fun x => .meth0 b x)
noncomputable def xTr : Option PX := dCall e fun f as kw p => dAttribute f fun o m q => gd (kw.isEmpty && q.endLine == p.line && m == ("translate" : Str)) ((one as).bind fun a => (T o).bind fun x => (T a).map fun y => .trans x y)
end
noncomputable def xCompG (R : TR) (nm : List (Str × NameKind)) (cx : List Str) (sc : Scope) (elt : Expr) (g : Comprehension) (r : List Comprehension) : Option PX := (nameOf g).bind fun x =>
  gd (g.is_async == 0 && compOk nm sc (x :: r.filterMap nameOf)) ((R.c (relabelL nm sc.names) ((x :: r.filterMap nameOf) ++ cx) x g.ifs r elt).bind fun c => (R.i nm cx g.iter).map fun i =>
    .comp (cx.map fun y => sc.names.lookup y == some .free) (x :: r.filterMap nameOf).length i c)
noncomputable def xComp (R : TR) (nm : List (Str × NameKind)) (cx : List Str) (e : Expr) : Option PX := dListComp e fun elt gens sc _ => match gens with
  | [] => none
  | g :: r => xCompG R nm cx sc elt g r
noncomputable def stepX (R : TR) (nm : List (Str × NameKind)) (cx : List Str) (e : Expr) : Option PX :=
  fst [xLit e, xVar cx e, xGlob nm cx e, xBin (R.x nm cx) e, xCmp (R.x nm cx) e, xBool (R.l nm cx) e, xUn (R.x nm cx) e, xSlc (R.x nm cx) (R.o nm cx) e, xIdx (R.x nm cx) e,
    xList (R.l nm cx) e, xTup (R.l nm cx) e, xB1 nm cx (R.x nm cx) e, xInt nm cx (R.x nm cx) e, xFn nm cx (R.l nm cx) e, xM1 (R.x nm cx) e, xM0 (R.x nm cx) e, xTr (R.x nm cx) e, xComp R nm cx e]
noncomputable def stepL (R : TR) (nm : List (Str × NameKind)) (cx : List Str) : List Expr → Option (List PX)
  | [] => some []
  | e :: r => (R.x nm cx e).bind fun a => (R.l nm cx r).map fun b => a :: b
noncomputable def stepO (R : TR) (nm : List (Str × NameKind)) (cx : List Str) : Option Expr → Option PX
  | none => some (.lit .none)
  | some e => R.x nm cx e
noncomputable def iRng (R : TR) (nm : List (Str × NameKind)) (cx : List Str) (e : Expr) : Option PI := dCall e fun f as kw _ => dName f fun f _ => gd (kw.isEmpty && glN nm cx f && f == ("range" : Str)) ((R.l nm cx as).map .rng)
noncomputable def stepI (R : TR) (nm : List (Str × NameKind)) (cx : List Str) (e : Expr) : Option PI := alt (iRng R nm cx e) ((R.x nm cx e).map .seq)
noncomputable def stepC (R : TR) (nm : List (Str × NameKind)) (cx : List Str) (x : Str) (ifs : List Expr) (gens : List Comprehension) (elt : Expr) : Option PC := (fi x cx).bind fun sl => (R.l nm cx ifs).bind fun cs => match gens with
  | [] => (R.x nm cx elt).map fun b => .fin sl cs b
  | g :: r => (nameOf g).bind fun y => gd (g.is_async == 0) ((R.i nm cx g.iter).bind fun i => (R.c nm cx y g.ifs r elt).map fun c => .nest sl cs i c)
noncomputable def TRn : Nat → TR
  | 0 => ⟨fun _ _ _ => none, fun _ _ _ => none, fun _ _ _ => none, fun _ _ _ => none, fun _ _ _ _ _ _ => none⟩
  | n + 1 => ⟨stepX (TRn n), stepL (TRn n), stepO (TRn n), stepI (TRn n), stepC (TRn n)⟩
noncomputable def tr (nm : List (Str × NameKind)) (n : Nat) : List Str → Expr → Option PX := (TRn n).x nm
noncomputable def trL (nm : List (Str × NameKind)) (n : Nat) : List Str → List Expr → Option (List PX) := (TRn n).l nm
noncomputable def trO (nm : List (Str × NameKind)) (n : Nat) : List Str → Option Expr → Option PX := (TRn n).o nm
noncomputable def trI (nm : List (Str × NameKind)) (n : Nat) : List Str → Expr → Option PI := (TRn n).i nm
noncomputable def trC (nm : List (Str × NameKind)) (n : Nat) : List Str → Str → List Expr → List Comprehension → Expr → Option PC := (TRn n).c nm
noncomputable def lim : Nat := 100000
noncomputable def lst (μ : List (List D)) : D → Option (List D)
  | .list ds => some ds
  | .ml i => μ[i]?
  | _ => none
noncomputable def lst0 : D → Option (List D)
  | .list ds => some ds
  | _ => none
noncomputable def truthD (μ : List (List D)) : D → Option Bool
  | .none => some false
  | .bool b => some b
  | .int i => some (i != 0)
  | .str x => if x.length ≤ lim then some (x.length != 0) else none
  | .list ds => if ds.length ≤ lim then some (!ds.isEmpty) else none
  | .ml i => match μ[i]? with
    | some ds => if ds.length ≤ lim then some (!ds.isEmpty) else none
    | none => none
  | _ => none
noncomputable def intD : D → Option Int
  | .int i => some i
  | _ => none
noncomputable def strD : D → Option Str
  | .str i => some i
  | _ => none
noncomputable def mapO {α β : Type} (f : α → Option β) : List α → Option (List β)
  | [] => some []
  | x :: r => match f x with
    | none => none
    | some y => match mapO f r with
      | none => none
      | some ys => some (y :: ys)
theorem qmapO0 {α β : Type} {f : α → Option β} : mapO f [] = some [] := rfl
theorem qmapO1 {α β : Type} {f : α → Option β} {x : α} {r : List α} : mapO f (x :: r) = match f x with
    | none => none
    | some y => match mapO f r with
      | none => none
      | some ys => some (y :: ys) := rfl
noncomputable def gInts (ds : List D) : Option (List Int) := mapO intD ds
noncomputable def gStrs (ds : List D) : Option (List Str) := mapO strD ds
noncomputable def eq0 : D → D → Option Bool
  | .int a, .int b => some (a == b)
  | .str a, .str b => some (a == b)
  | _, _ => none
noncomputable def eqLst (f : D → D → Option Bool) : List D → List D → Option Bool
  | [], [] => some true
  | x :: xs, y :: ys => match f x y, eqLst f xs ys with
    | some a, some b => some (a && b)
    | _, _ => none
  | _, _ => none
theorem qeqLst0 {f : D → D → Option Bool} : eqLst f [] [] = some true := rfl
theorem qeqLst1 {f : D → D → Option Bool} {x y : D} {xs ys : List D} : eqLst f (x :: xs) (y :: ys) = match f x y, eqLst f xs ys with
    | some a, some b => some (a && b)
    | _, _ => none := rfl
theorem qeqLst2 {f : D → D → Option Bool} {y : D} {ys : List D} : eqLst f [] (y :: ys) = none := rfl
theorem qeqLst3 {f : D → D → Option Bool} {y : D} {ys : List D} : eqLst f (y :: ys) [] = none := rfl
noncomputable def eqN (f : D → D → Option Bool) : D → D → Option Bool
  | .list xs, .list ys => if xs.length == ys.length then eqLst f xs ys else some false
  | .tup xs, .tup ys => if xs.length == ys.length then eqLst f xs ys else none
  | x, y => f x y
noncomputable def eqD : D → D → Option Bool := eqN (eqN eq0)
noncomputable def ltI : List Int → List Int → Bool
  | _, [] => false
  | [], _ :: _ => true
  | x :: xs, y :: ys => if x = y then ltI xs ys else decide (x < y)
theorem qltI0 {x : Int} {xs : List Int} : ltI (x :: xs) [] = false := rfl
theorem qltI1  : ltI [] [] = false := rfl
theorem qltI2 {y : Int} {ys : List Int} : ltI [] (y :: ys) = true := rfl
theorem qltI3 {x y : Int} {xs ys : List Int} : ltI (x :: xs) (y :: ys) = if x = y then ltI xs ys else decide (x < y) := rfl
noncomputable def binI (op : Operator) (a b : Int) : Option D := match op with
  | .Add => some (.int (a + b))
  | .Sub => some (.int (a - b))
  | .FloorDiv => if 0 < b && b < 1000 then some (.int (a.fdiv b)) else none
  | .Mod => if 0 < b && b < 1000 then some (.int (a.fmod b)) else none
  | .RShift => if b == 1 && -lim ≤ a && a ≤ lim then some (.int (a.fdiv 2)) else none
  | .Mult => if -lim ≤ b && b ≤ lim then some (.int (a * b)) else none
  | _ => none
noncomputable def isAdd (op : Operator) : Bool := match op with
  | .Add => true
  | _ => false
noncomputable def isMul (op : Operator) : Bool := match op with
  | .Mult => true
  | _ => false
noncomputable def binD (μ : List (List D)) (op : Operator) (x y : D) : Option D := match x with
  | .int a => match y with
    | .int b => binI op a b
    | _ => none
  | .str x => match y with
    | .str y => gd (isAdd op) (if x.length + y.length ≤ lim then some (.str (x ++ y)) else none)
    | _ => none
  | .list xs => match y with
    | .list ys => gd (isAdd op) (if xs.length + ys.length ≤ lim then some (.list (xs ++ ys)) else none)
    | .int n => match xs with
      | x :: r => gd (r.isEmpty && isMul op) (if 0 ≤ n && n ≤ lim then some (.list (List.replicate n.toNat x)) else none)
      | [] => none
    | _ => none
  | _ => none
noncomputable def cmpI (op : CmpOp) (a b : Int) : Option Bool := match op with
  | .Eq => some (a == b)
  | .NotEq => some (a != b)
  | .Lt => some (decide (a < b))
  | .LtE => some (decide (a ≤ b))
  | .Gt => some (decide (b < a))
  | .GtE => some (decide (b ≤ a))
  | _ => none
noncomputable def cmpS (op : CmpOp) (a b : Str) : Option Bool := match op with
  | .Eq => some (a == b)
  | .NotEq => some (a != b)
  | .In => some (Txt.contains b a)
  | .NotIn => some (!Txt.contains b a)
  | _ => none
noncomputable def cmpL (op : CmpOp) (a b : List D) : Option D := match op with
  | .Eq => (eqD (.list a) (.list b)).map .bool
  | .NotEq => (eqD (.list a) (.list b)).map fun x => .bool (!x)
  | .Lt => match gInts a with
    | some x => match gInts b with
      | some y => some (.bool (ltI x y))
      | none => none
    | none => none
  | _ => none
noncomputable def cmpT (op : CmpOp) (a b : List D) : Option D := match op with
  | .Eq => (eqD (.tup a) (.tup b)).map .bool
  | .NotEq => (eqD (.tup a) (.tup b)).map fun x => .bool (!x)
  | _ => none
noncomputable def cmpD (μ : List (List D)) (op : CmpOp) (x y : D) : Option D := match x with
  | .int a => match y with
    | .int b => (cmpI op a b).map .bool
    | _ => none
  | .str a => match y with
    | .str b => (cmpS op a b).map .bool
    | _ => none
  | .list a => match y with
    | .list b => cmpL op a b
    | _ => none
  | .tup a => match y with
    | .tup b => cmpT op a b
    | _ => none
  | _ => none
noncomputable def idxD (μ : List (List D)) (x y : D) : Option D := match y with
  | .int i => match x with
    | .str x => if -lim ≤ i && i ≤ lim then (Txt.charAt x i).map fun c => .str ⟨#[c]⟩ else none
    | d => if 0 ≤ i && i ≤ lim then (lst μ d).bind (·[i.toNat]?) else if i == -1 then (lst μ d).bind (·.getLast?) else none
  | _ => none
noncomputable def optI : D → Option (Option Int)
  | .none => some none
  | .int i => some (some i)
  | _ => none
noncomputable def everyI (k : Int) (n : Nat) : List Nat := sliceRange (sliceBounds (some k) none (some 9) n).1 (sliceBounds (some k) none (some 9) n).2.1 (sliceBounds (some k) none (some 9) n).2.2
noncomputable def isNn : D → Bool
  | .none => true
  | _ => false
noncomputable def slcL (ds : List D) (lo hi : D) : Option D := match optI lo with
  | none => none
  | some l => match optI hi with
    | none => none
    | some h => if ds.length ≤ lim && 0 ≤ l.getD 0 && l.getD 0 ≤ lim && 0 ≤ h.getD 0 && h.getD 0 ≤ lim then some (.list ((ds.take ((h.map Int.toNat).getD ds.length)).drop (l.getD 0).toNat)) else none
noncomputable def slc9D (ds : List D) (lo hi : D) (j : Int) : Option D := match lo with
  | .int k => gd (isNn hi && j == 9) (if ds.length ≤ lim && 0 ≤ k && k ≤ lim then some (.list ((everyI k ds.length).filterMap (ds[·]?))) else none)
  | _ => none
noncomputable def slcD (μ : List (List D)) (x lo hi st : D) : Option D := match x with
  | .str x => match st with
    | .none => match optI lo with
      | none => none
      | some l => match optI hi with
        | none => none
        | some h => if x.length ≤ lim && (l.getD 0).natAbs ≤ lim && (h.getD 0).natAbs ≤ lim then some (.str (Txt.slice x l h)) else none
    | _ => none
  | .list ds => match st with
    | .none => slcL ds lo hi
    | .int j => slc9D ds lo hi j
    | _ => none
  | _ => none
noncomputable def minI : List Int → Option Int
  | [] => none
  | x :: r => some (r.foldl min x)
noncomputable def maxI : List Int → Option Int
  | [] => none
  | x :: r => some (r.foldl max x)
noncomputable def runC {α : Type} (lt : Nat → Nat → Bool) (n : Nat) : KasT α → Option α
  | .ret a => some a
  | .ask i j k => if i < n ∧ j < n then runC lt n (k (lt i j)) else none
theorem qrunC0 {α : Type} {lt : Nat → Nat → Bool} {n : Nat} {a : α} : runC lt n (.ret a) = some a := rfl
theorem qrunC1 {α : Type} {lt : Nat → Nat → Bool} {n i j : Nat} {k : Bool → KasT α} : runC lt n (.ask i j k) = if i < n ∧ j < n then runC lt n (k (lt i j)) else none := rfl
noncomputable def sortD (xss : List (List Int)) (ds : List D) : Option (List D) :=
  if ds.length < 2 then some ds else
  if ds.length < 64 then (runC (fun i j => ltI (xss.getD i []) (xss.getD j [])) ds.length (kas_sort ds.length)).bind fun p => mapO (fun i => ds[i]?) p.toList else none
noncomputable def intsL : D → Option (List Int)
  | .list ds => gInts ds
  | _ => none
noncomputable def ofI (xs : List Int) : D := .list (xs.map .int)
noncomputable def b1D (μ : List (List D)) (f : B1) (x : D) : Option D := match f with
  | .len => match x with
    | .str x => if x.length ≤ lim then some (.int x.length) else none
    | d => (lst μ d).bind fun ds => if ds.length ≤ lim then some (.int ds.length) else none
  | .sum => ((lst μ x).bind gInts).map fun xs => .int xs.sum
  | .min => ((lst0 x).bind fun ds => (gInts ds).bind minI).map .int
  | .max => ((lst0 x).bind fun ds => (gInts ds).bind maxI).map .int
  | .chr => match x with
    | .int i => if 0 ≤ i && i < 256 then some (.str ⟨#[i.toNat]⟩) else none
    | _ => none
  | .sorted => ((lst0 x).bind fun ds => (mapO intsL ds).bind fun xss => sortD xss ds).map .list
noncomputable def hexv (c : Nat) : Option Nat := if 48 ≤ c && c ≤ 57 then some (c - 48) else if 65 ≤ c && c ≤ 70 then some (c - 55) else none
noncomputable def hex2 : List Nat → Option Nat
  | [] => none
  | a :: r => match r with
    | [] => none
    | b :: r => (hexv a).bind fun p => (hexv b).bind fun q => if r.isEmpty then some (p * 16 + q) else none
noncomputable def int2D (x y : D) : Option D := match x with
  | .str x => match y with
    | .int j => if j == 16 then (hex2 x.cps.toList).map fun (n : Nat) => .int n else none
    | _ => none
  | _ => none
noncomputable def trStr (tab : List D) (cs : List Nat) : Option (List Nat) := match cs with
  | [] => some []
  | c :: r => match tab[c]? with
    | some (.str y) => (trStr tab r).map (y.cps.toList ++ ·)
    | _ => none
theorem qtrStr0 {tab : List D} : trStr tab [] = some [] := rfl
theorem qtrStr1 {tab : List D} {c : Nat} {r : List Nat} : trStr tab (c :: r) = match tab[c]? with
    | some (.str y) => (trStr tab r).map (y.cps.toList ++ ·)
    | _ => none := rfl
noncomputable def shrt : D → Bool
  | .str y => y.length ≤ 3
  | _ => false
noncomputable def transD (x y : D) : Option D := match x with
  | .str x => match y with
    | .list tab => if x.length ≤ 1000 && 0 < x.length && tab.length == 256 && (tab.all shrt) then (trStr tab x.cps.toList).map fun r => .str ⟨r.toArray⟩ else none
    | _ => none
  | _ => none
noncomputable def meth1D (μ : List (List D)) (m : M1) (x y : D) : Option D := match x with
  | .str x => match m with
    | .join => ((lst μ y).bind gStrs).bind fun xs => if x.length ≤ 3 && xs.length ≤ 1000 && (xs.all fun x => x.length ≤ 1000) then some (.str (Str.join x xs)) else none
    | .split => match y with
      | .str sep => if x.length ≤ lim && 0 < sep.length then some (.list ((Txt.split x sep).map .str)) else none
      | _ => none
    | .endswith => match y with
      | .str y => some (.bool (Txt.endswith x y))
      | _ => none
  | _ => none
noncomputable def meth0D (m : M0) (x : D) : Option D := match x with
  | .str x => if x.length ≤ lim then some (match m with
    | .splitlines => .list ((Txt.lines x).map .str)
    | .rstrip => .str (Txt.rstrip x)) else none
  | _ => none
noncomputable def rangeI : List Int → Option (List D)
  | [] => none
  | a :: r => match r with
    | [] => if -lim ≤ a && a ≤ lim then some ((List.range a.toNat).map fun (i : Nat) => .int i) else none
    | b :: r => match r with
      | [] => if -lim ≤ a && a ≤ lim && -lim ≤ b && b ≤ lim then some ((List.range (b - a).toNat).map fun (i : Nat) => .int (a + i)) else none
      | c :: r => if r.isEmpty && c == -1 && -lim ≤ a && a ≤ lim && -lim ≤ b && b ≤ lim then some ((List.range (a - b).toNat).map fun (i : Nat) => .int (a - i)) else none
noncomputable def rangeD (ds : List D) : Option (List D) := (gInts ds).bind rangeI
noncomputable def collectM (f : D → Option (List D)) : List D → Option (List D)
  | [] => some []
  | x :: r => match f x with
    | none => none
    | some a => match collectM f r with
      | none => none
      | some b => some (a ++ b)
theorem qcollectM0 {f : D → Option (List D)} : collectM f [] = some [] := rfl
theorem qcollectM1 {f : D → Option (List D)} {x : D} {r : List D} : collectM f (x :: r) = match f x with
    | none => none
    | some a => match collectM f r with
      | none => none
      | some b => some (a ++ b) := rfl
noncomputable def maskR : List Bool → List (Option D) → List (Option D)
  | b :: m, r :: ρ => (if b then r else none) :: maskR m ρ
  | _, _ => []
theorem qmaskR0 {b : Bool} {m : List Bool} {r : Option D} {ρ : List (Option D)} : maskR (b :: m) (r :: ρ) = (if b then r else none) :: maskR m ρ := rfl
theorem qmaskR1 {ρ : List (Option D)} : maskR [] ρ = [] := rfl
theorem qmaskR2 {b : Bool} {m : List Bool} : maskR (b :: m) [] = [] := rfl
noncomputable abbrev T (l : List Nat) : Str := ⟨l.toArray⟩
noncomputable abbrev tD (l : List Nat) : D := .str (T l)
noncomputable def hexs : List Nat := [48, 49, 50, 51, 52, 53, 54, 55, 56, 57, 97, 98, 99, 100, 101, 102, 65, 66, 67, 68, 69, 70]
noncomputable def hxc (n : Nat) : Nat := if n < 10 then 48 + n else 55 + n
noncomputable def qmap (c : Nat) : List Nat := if c = 9 ∨ c = 10 ∨ c = 13 ∨ (32 ≤ c ∧ c ≤ 126 ∧ c ≠ 61) then [c] else [61, hxc (c / 16), hxc (c % 16)]
noncomputable def qtab : List D := (List.range 256).map fun c => tD (qmap c)
noncomputable def Gv : List D := [tD hexs, tD [13, 10], .list qtab]
mutual
noncomputable def ev (F : Nat → List D → Option D) (μ : List (List D)) : List (Option D) → PX → Option D
  | ρ, .var i => (ρ[i]?).bind id
  | _, .glob i => Gv[i]?
  | _, .lit d => some d
  | ρ, .bin op a b => (ev F μ ρ a).bind fun x => (ev F μ ρ b).bind fun y => binD μ op x y
  | ρ, .cmp op a b => (ev F μ ρ a).bind fun x => (ev F μ ρ b).bind fun y => cmpD μ op x y
  | ρ, .and es => evAnd F μ ρ es
  | ρ, .or es => evOr F μ ρ es
  | ρ, .not a => (ev F μ ρ a).bind fun x => (truthD μ x).map fun b => .bool (!b)
  | ρ, .neg a => (ev F μ ρ a).bind fun x => (intD x).map fun i => .int (-i)
  | ρ, .idx a b => (ev F μ ρ a).bind fun x => (ev F μ ρ b).bind fun y => idxD μ x y
  | ρ, .slc a lo hi st => (ev F μ ρ a).bind fun x => (ev F μ ρ lo).bind fun l => (ev F μ ρ hi).bind fun h => (ev F μ ρ st).bind fun k => slcD μ x l h k
  | ρ, .b1 f a => (ev F μ ρ a).bind fun x => b1D μ f x
  | ρ, .int2 a b => (ev F μ ρ a).bind fun x => (ev F μ ρ b).bind fun y => int2D x y
  | ρ, .call k es => (evL F μ ρ es).bind fun ds => F k ds
  | ρ, .meth1 m o a => (ev F μ ρ o).bind fun x => (ev F μ ρ a).bind fun y => meth1D μ m x y
  | ρ, .meth0 m o => (ev F μ ρ o).bind fun x => meth0D m x
  | ρ, .trans o a => (ev F μ ρ o).bind fun x => (ev F μ ρ a).bind fun y => transD x y
  | ρ, .list es => (evL F μ ρ es).bind fun ds => if ds.length ≤ lim then some (.list ds) else none
  | ρ, .tup es => (evL F μ ρ es).bind fun ds => if ds.length ≤ lim then some (.tup ds) else none
  | ρ, .comp mask k it c => (evI F μ ρ it).bind fun xs => (evC F μ (List.replicate k none ++ maskR mask ρ) c xs).bind fun zs => if zs.length ≤ lim then some (.list zs) else none
noncomputable def evL (F : Nat → List D → Option D) (μ : List (List D)) : List (Option D) → List PX → Option (List D)
  | _, [] => some []
  | ρ, e :: r => (ev F μ ρ e).bind fun d => (evL F μ ρ r).bind fun ds => some (d :: ds)
noncomputable def evAnd (F : Nat → List D → Option D) (μ : List (List D)) : List (Option D) → List PX → Option D
  | _, [] => none
  | ρ, e :: r => match ev F μ ρ e with
    | none => none
    | some d => match r with
      | [] => some d
      | _ :: _ => match truthD μ d with
        | none => none
        | some false => some d
        | some true => evAnd F μ ρ r
noncomputable def evOr (F : Nat → List D → Option D) (μ : List (List D)) : List (Option D) → List PX → Option D
  | _, [] => none
  | ρ, e :: r => match ev F μ ρ e with
    | none => none
    | some d => match r with
      | [] => some d
      | _ :: _ => match truthD μ d with
        | none => none
        | some true => some d
        | some false => evOr F μ ρ r
noncomputable def evT (F : Nat → List D → Option D) (μ : List (List D)) : List (Option D) → List PX → Option Bool
  | _, [] => some true
  | ρ, e :: r => match ev F μ ρ e with
    | none => none
    | some d => match truthD μ d with
      | none => none
      | some false => some false
      | some true => evT F μ ρ r
noncomputable def evI (F : Nat → List D → Option D) (μ : List (List D)) : List (Option D) → PI → Option (List D)
  | ρ, .rng es => (evL F μ ρ es).bind rangeD
  | ρ, .seq e => (ev F μ ρ e).bind lst0
noncomputable def evC (F : Nat → List D → Option D) (μ : List (List D)) : List (Option D) → PC → List D → Option (List D)
  | ρ, .fin sl conds elt, xs => collectM (fun x => match evT F μ (ρ.set sl (some x)) conds with
      | none => none
      | some false => some []
      | some true => (ev F μ (ρ.set sl (some x)) elt).map ([·])) xs
  | ρ, .nest sl conds it c, xs => collectM (fun x => match evT F μ (ρ.set sl (some x)) conds with
      | none => none
      | some false => some []
      | some true => (evI F μ (ρ.set sl (some x)) it).bind fun ys => evC F μ (ρ.set sl (some x)) c ys) xs
end
theorem qevOr0 {F : Nat → List D → Option D} {μ : List (List D)} {ρ : List (Option D)} : evOr F μ ρ [] = none := rfl
theorem qevOr1 {F : Nat → List D → Option D} {μ : List (List D)} {ρ : List (Option D)} {e : PX} {r : List PX} : evOr F μ ρ (e :: r) = match ev F μ ρ e with
    | none => none
    | some d => match r with
      | [] => some d
      | _ :: _ => match truthD μ d with
        | none => none
        | some true => some d
        | some false => evOr F μ ρ r := rfl
theorem qevAnd0 {F : Nat → List D → Option D} {μ : List (List D)} {ρ : List (Option D)} : evAnd F μ ρ [] = none := rfl
theorem qevAnd1 {F : Nat → List D → Option D} {μ : List (List D)} {ρ : List (Option D)} {e : PX} {r : List PX} : evAnd F μ ρ (e :: r) = match ev F μ ρ e with
    | none => none
    | some d => match r with
      | [] => some d
      | _ :: _ => match truthD μ d with
        | none => none
        | some false => some d
        | some true => evAnd F μ ρ r := rfl
theorem qevC0 {F : Nat → List D → Option D} {μ : List (List D)} {ρ : List (Option D)} {sl : Nat} {conds : List PX} {elt : PX} {xs : List D} : evC F μ ρ (.fin sl conds elt) xs = collectM (fun x => match evT F μ (ρ.set sl (some x)) conds with
      | none => none
      | some false => some []
      | some true => (ev F μ (ρ.set sl (some x)) elt).map ([·])) xs := rfl
theorem qevC1 {F : Nat → List D → Option D} {μ : List (List D)} {ρ : List (Option D)} {sl : Nat} {conds : List PX} {it : PI} {c : PC} {xs : List D} : evC F μ ρ (.nest sl conds it c) xs = collectM (fun x => match evT F μ (ρ.set sl (some x)) conds with
      | none => none
      | some false => some []
      | some true => (evI F μ (ρ.set sl (some x)) it).bind fun ys => evC F μ (ρ.set sl (some x)) c ys) xs := rfl
theorem qevT0 {F : Nat → List D → Option D} {μ : List (List D)} {ρ : List (Option D)} : evT F μ ρ [] = some true := rfl
theorem qevT1 {F : Nat → List D → Option D} {μ : List (List D)} {ρ : List (Option D)} {e : PX} {r : List PX} : evT F μ ρ (e :: r) = match ev F μ ρ e with
    | none => none
    | some d => match truthD μ d with
      | none => none
      | some false => some false
      | some true => evT F μ ρ r := rfl
end Mine
end
section
namespace Mine
noncomputable def fk (f : Str) : Bool := (bnames.lookup f).isSome || f == ("int" : Str) || (fi f fnames).isSome
inductive Shp : Expr → Prop
  | const (c k p) : Shp (.Constant c k p)
  | name (x p) : Shp (.Name x p)
  | bin (l op r p) : Shp (.BinOp l op r p)
  | cmp (l op r p) : Shp (.Compare l [op] [r] p)
  | bool (op es p) : Shp (.BoolOp op es p)
  | un (op a p) : Shp (.UnaryOp op a p)
  | sub (a b p) : Shp (.Subscript a b p)
  | list (es p) : Shp (.List es p)
  | tup (es k p) : Shp (.Tuple es k p)
  | calln (f q as p) : fk f = true → Shp (.Call (.Name f q) as [] p)
  | calla (o m q as p) : Shp (.Call (.Attribute o m q) as [] p)
  | comp (a g sc p) : Shp (.ListComp a g sc p)
theorem two_el {P : List Expr → PX → Prop} {T : Expr → Option PX} {as : List Expr} {px : PX} (h : two T as = some px) (k : ∀ a b pa pb, T a = some pa → T b = some pb → P [a, b] (.int2 pa pb)) : P as px := by
  cases as with
  | nil => cases h
  | cons a r => exact bd_el (show (one r).bind (fun b => (T a).bind fun x => (T b).map fun y => PX.int2 x y) = some px from h) fun b hb h => one_el (P := fun r => P (a :: r) px) hb (bd_el h fun x h1 h => mp_el (P := P [a, b]) h fun y h2 => k a b x y h1 h2)
theorem fk1 {f : Str} {b : B1} (h : bnames.lookup f = some b) : fk f = true := by unfold fk; rw [h]; rfl
theorem fk2 {f : Str} (h : (f == ("int" : Str)) = true) : fk f = true := by unfold fk; rw [h, Bool.or_true]; rfl
theorem fk3 {f : Str} {k : Nat} (h : fi f fnames = some k) : fk f = true := by unfold fk; rw [h]; exact Bool.or_true _
theorem shp {nm : List (Str × NameKind)} {m : Nat} {cx : List Str} {e : Expr} {px : PX} (h : tr nm m cx e = some px) : Shp e := by
  cases m with
  | zero => cases h
  | succ m =>
  exact fst_el (P := Shp e) (show stepX (TRn m) nm cx e = some px from h) ⟨
    fun h => dConstant_el h fun c k p _ => .const c k p,
    fun h => dName_el h fun x p _ => .name x p,
    fun h => dName_el h fun x p _ => .name x p,
    fun h => dBinOp_el h fun l op r p _ => .bin l op r p,
    fun h => dCompare_el h fun l ops rs p h => bd_el h fun op h1 h => bd_el h fun r h2 _ => one_el (P := fun ops => Shp (.Compare l ops rs p)) h1 (one_el (P := fun rs => Shp (.Compare l [op] rs p)) h2 (.cmp l op r p)),
    fun h => dBoolOp_el h fun op es p _ => .bool op es p,
    fun h => dUnaryOp_el h fun op a p _ => .un op a p,
    fun h => dSubscript_el h fun a b p _ => .sub a b p,
    fun h => dSubscript_el h fun a b p _ => .sub a b p,
    fun h => dList_el h fun es p _ => .list es p,
    fun h => dTuple_el h fun es k p _ => .tup es k p,
    fun h => dCall_el h fun f as kw p h => dName_el (P := fun f => Shp (.Call f as kw p)) h fun f q h => gd_el h fun c h => em_el (P := fun kw => Shp (.Call (.Name f q) as kw p)) (and_l c) (bd_el h fun b hb _ => .calln f q as p (fk1 hb)),
    fun h => dCall_el h fun f as kw p h => dName_el (P := fun f => Shp (.Call f as kw p)) h fun f q h => gd_el h fun c h => em_el (P := fun kw => Shp (.Call (.Name f q) as kw p)) (and_l (and_l c)) (.calln f q as p (fk2 (and_r c))),
    fun h => dCall_el h fun f as kw p h => dName_el (P := fun f => Shp (.Call f as kw p)) h fun f q h => gd_el h fun c h => em_el (P := fun kw => Shp (.Call (.Name f q) as kw p)) (and_l (and_l c)) (bd_el h fun b hb _ => .calln f q as p (fk3 hb)),
    fun h => dCall_el h fun f as kw p h => dAttribute_el (P := fun f => Shp (.Call f as kw p)) h fun o m q h => gd_el h fun c h => em_el (P := fun kw => Shp (.Call (.Attribute o m q) as kw p)) (and_l c) (.calla o m q as p),
    fun h => dCall_el h fun f as kw p h => dAttribute_el (P := fun f => Shp (.Call f as kw p)) h fun o m q h => gd_el h fun c h => em_el (P := fun kw => Shp (.Call (.Attribute o m q) as kw p)) (and_l (and_l c)) (.calla o m q as p),
    fun h => dCall_el h fun f as kw p h => dAttribute_el (P := fun f => Shp (.Call f as kw p)) h fun o m q h => gd_el h fun c h => em_el (P := fun kw => Shp (.Call (.Attribute o m q) as kw p)) (and_l (and_l c)) (.calla o m q as p),
    fun h => dListComp_el h fun a g sc p _ => .comp a g sc p, trivial⟩
theorem tr_comp' {nm : List (Str × NameKind)} {m : Nat} {cx : List Str} {elt : Expr} {x : Str} {p : Pos} {it : Expr} {ifs : List Expr} {r : List Comprehension} {sc : Scope} {pos : Pos} {px : PX} {P : PX → Prop} (h : tr nm (m + 1) cx (.ListComp elt (⟨.Name x p, it, ifs, 0⟩ :: r) sc pos) = some px)
    (k : ∀ c i, compOk nm sc (x :: r.filterMap nameOf) = true → trC (relabelL nm sc.names) m ((x :: r.filterMap nameOf) ++ cx) x ifs r elt = some c → trI nm m cx it = some i →
      P (.comp (cx.map fun y => sc.names.lookup y == some .free) (x :: r.filterMap nameOf).length i c)) : P px :=
  gd_el (show gd (compOk nm sc (x :: r.filterMap nameOf)) (((TRn m).c (relabelL nm sc.names) ((x :: r.filterMap nameOf) ++ cx) x ifs r elt).bind fun c => ((TRn m).i nm cx it).map fun i => .comp (cx.map fun y => sc.names.lookup y == some .free) (x :: r.filterMap nameOf).length i c) = some px from alt_last h) fun c h =>
    bd_el h fun pc h1 h => mp_el (P := P) h fun i h2 => k pc i c h1 h2
theorem tr_comp {nm : List (Str × NameKind)} {m : Nat} {cx : List Str} {elt : Expr} {gens : List Comprehension} {sc : Scope} {pos : Pos} {px : PX} {P : List Comprehension → PX → Prop} (h : tr nm (m + 1) cx (.ListComp elt gens sc pos) = some px)
    (k : ∀ x p it ifs r c i, compOk nm sc (x :: r.filterMap nameOf) = true → trC (relabelL nm sc.names) m ((x :: r.filterMap nameOf) ++ cx) x ifs r elt = some c → trI nm m cx it = some i →
      P (⟨.Name x p, it, ifs, 0⟩ :: r) (.comp (cx.map fun y => sc.names.lookup y == some .free) (x :: r.filterMap nameOf).length i c)) : P gens px := by
  cases gens with
  | nil => cases (show (none : Option PX) = some px from alt_last h)
  | cons g r =>
    obtain ⟨t, it, ifs, a⟩ := g
    refine bd_el (show xCompG (TRn m) nm cx sc elt ⟨t, it, ifs, a⟩ r = some px from alt_last h) fun x hx h => gd_el h fun c h => bd_el h fun pc h1 h => mp_el (P := P _) h fun i h2 => ?_
    refine dName_el (P := fun t => P (⟨t, it, ifs, a⟩ :: r) _) (show dName t _ = some x from hx) fun y p e => ?_
    cases e
    have ha : a = 0 := eq_of_beq (and_l c)
    subst ha
    exact k x p it ifs r pc i (and_r c) h1 h2
theorem fm_cons (y : Str) (p : Pos) (it : Expr) (ifs : List Expr) (k : Int) (r : List Comprehension) : (⟨.Name y p, it, ifs, k⟩ :: r : List Comprehension).filterMap nameOf = y :: r.filterMap nameOf := rfl
theorem trC_nil {nm : List (Str × NameKind)} {m : Nat} {cx : List Str} {x : Str} {ifs : List Expr} {elt : Expr} {c : PC} {P : PC → Prop} (h : trC nm (m + 1) cx x ifs [] elt = some c) (k : ∀ sl cs pe, fi x cx = some sl → trL nm m cx ifs = some cs → tr nm m cx elt = some pe → P (.fin sl cs pe)) : P c :=
  bd_el (show (fi x cx).bind (fun sl => ((TRn m).l nm cx ifs).bind fun cs => ((TRn m).x nm cx elt).map fun b => PC.fin sl cs b) = some c from h) fun sl h0 h => bd_el h fun cs h1 h => mp_el (P := P) h fun pe h2 => k sl cs pe h0 h1 h2
theorem trC_cons {nm : List (Str × NameKind)} {m : Nat} {cx : List Str} {x : Str} {ifs ifs' : List Expr} {elt t it : Expr} {a : Int} {r : List Comprehension} {c : PC} {P : Expr → Int → PC → Prop} (h : trC nm (m + 1) cx x ifs (⟨t, it, ifs', a⟩ :: r) elt = some c)
    (k : ∀ sl cs y p i c', fi x cx = some sl → trL nm m cx ifs = some cs → trI nm m cx it = some i → trC nm m cx y ifs' r elt = some c' → P (.Name y p) 0 (.nest sl cs i c')) : P t a c :=
  bd_el (show (fi x cx).bind (fun sl => ((TRn m).l nm cx ifs).bind fun cs => (dName t fun y _ => some y).bind fun y => gd (a == 0) (((TRn m).i nm cx it).bind fun i => ((TRn m).c nm cx y ifs' r elt).map fun c => PC.nest sl cs i c)) = some c from h) fun sl h0 h => bd_el h fun cs h1 h => bd_el h fun y hy h => gd_el h fun ha h => bd_el h fun i h2 h =>
    mp_el (P := P t a) h fun c' h3 => dName_el (P := fun t => P t a _) hy fun y' p e => by
      cases e
      have ha : a = 0 := eq_of_beq ha
      subst ha
      exact k sl cs y p i c' h0 h1 h2 h3
end Mine
end
section
namespace Mine
structure Amb (base : Heap) (ad : Ad) (μ : List (List D)) (h : Heap) : Prop where
  keep : Kept base h
  there : ∀ a ∈ ad.all, ∃ o, h.get? a = some o ∧ ∃ xs m, o.data = .seq xs m
  new : ∀ a ∈ ad.all, base.get? a = none
  mu : ∀ (i : Nat) (a : Addr) (ds : List D), ad.own[i]? = some a → μ[i]? = some ds → ∃ vs, PL h a vs ∧ Reps ad h ds vs
  nd : ad.own.Nodup
  fr : FrF base h ad.av.fs
theorem Amb.kept {base : Heap} {ad : Ad} {μ : List (List D)} {h h' : Heap} (x : Amb base ad μ h) (k : Kept h h') : Amb base ad μ h' :=
  ⟨x.keep.trans k, fun a m => let ⟨o, e, xs, n, q⟩ := x.there a m; ⟨o, k.at e (fun _ _ z => by rw [q] at z; cases z), xs, n, q⟩, x.new, fun i a ds e f => let ⟨vs, p, q⟩ := x.mu i a ds e f; ⟨vs, p.kept k, q.kept k⟩, x.nd, x.fr.dk k.dk⟩
theorem Amb.fresh {base : Heap} {ad : Ad} {μ : List (List D)} {h : Heap} (x : Amb base ad μ h) {a : Addr} (f : h.get? a = none) : a ∉ ad.all := fun m => by
  obtain ⟨o, e, _⟩ := x.there a m
  rw [f] at e; cases e
theorem fresh_size (h : Heap) : h.get? h.objs.size = none := by
  cases e : h.get? h.objs.size with
  | none => rfl
  | some o => exact absurd (Heap.lt_size e) (Nat.lt_irrefl _)
structure AOK (n : Nat) (A : Around) : Prop where
  hh : A.handled = none
  dep : A.depth + n < 900
  un : A.units + 10 * n < 400
theorem AOK.units {n : Nat} {A : Around} (x : AOK n A) : A.units < cLine := by
  have := x.un
  unfold cLine
  omega
theorem AOK.room {n : Nat} {A : Around} (x : AOK n A) : A.depth < recursionLimit := by
  have := x.dep
  unfold recursionLimit
  omega
theorem AOK.less {n m : Nat} {A : Around} (x : AOK n A) (h : m ≤ n) : AOK m A := ⟨x.hh, by have := x.dep; omega, by have := x.un; omega⟩
section
variable {w : World} {A : Around} {s : Shared} {base : Heap} {ad : Ad} {μ : List (List D)}
noncomputable abbrev NoE : Value → Shared → Prop := fun _ _ => False
noncomputable abbrev Is (ad : Ad) (s : Shared) (d : D) : Value → Shared → Prop := fun v s' => Keeps s s' ∧ Rep ad s'.heap d v
theorem rep_int {ad : Ad} {h : Heap} {i : Int} {t : Tok} : Rep ad h (.int i) (.int i t) := by simp only [qRep0, qRep1, qRep2, qRep3, qRep4, qRep5, qRep6, qRep7]; exact ⟨t, rfl⟩
theorem rep_str {ad : Ad} {h : Heap} {i : Str} {t : Tok} : Rep ad h (.str i) (.str i t) := by simp only [qRep0, qRep1, qRep2, qRep3, qRep4, qRep5, qRep6, qRep7]; exact ⟨t, rfl⟩
theorem rep_bool {ad : Ad} {h : Heap} {i : Bool} : Rep ad h (.bool i) (.bool i) := by simp only [qRep0, qRep1, qRep2, qRep3, qRep4, qRep5, qRep6, qRep7]
theorem rep_none {ad : Ad} {h : Heap} : Rep ad h .none .none := by simp only [qRep0, qRep1, qRep2, qRep3, qRep4, qRep5, qRep6, qRep7]
theorem of_int {ad : Ad} {h : Heap} {i : Int} {v : Value} (r : Rep ad h (.int i) v) : ∃ t, v = .int i t := by simpa only [qRep0, qRep1, qRep2, qRep3, qRep4, qRep5, qRep6, qRep7] using r
theorem of_str {ad : Ad} {h : Heap} {i : Str} {v : Value} (r : Rep ad h (.str i) v) : ∃ t, v = .str i t := by simpa only [qRep0, qRep1, qRep2, qRep3, qRep4, qRep5, qRep6, qRep7] using r
theorem of_bool {ad : Ad} {h : Heap} {i : Bool} {v : Value} (r : Rep ad h (.bool i) v) : v = .bool i := by simpa only [qRep0, qRep1, qRep2, qRep3, qRep4, qRep5, qRep6, qRep7] using r
theorem of_none {ad : Ad} {h : Heap} {v : Value} (r : Rep ad h .none v) : v = .none := by simpa only [qRep0, qRep1, qRep2, qRep3, qRep4, qRep5, qRep6, qRep7] using r
theorem of_list {ad : Ad} {h : Heap} {ds : List D} {v : Value} (r : Rep ad h (.list ds) v) : ∃ a vs, v = .ref a ∧ a ∉ ad.all ∧ PL h a vs ∧ Reps ad h ds vs := by simpa only [qRep0, qRep1, qRep2, qRep3, qRep4, qRep5, qRep6, qRep7] using r
theorem of_tup {ad : Ad} {h : Heap} {ds : List D} {v : Value} (r : Rep ad h (.tup ds) v) : ∃ a vs, v = .ref a ∧ a ∉ ad.all ∧ PT h a vs ∧ Reps ad h ds vs := by simpa only [qRep0, qRep1, qRep2, qRep3, qRep4, qRep5, qRep6, qRep7] using r
theorem rep_list {ad : Ad} {h : Heap} {ds : List D} {a : Addr} {vs : List Value} (n : a ∉ ad.all) (p : PL h a vs) (q : Reps ad h ds vs) : Rep ad h (.list ds) (.ref a) := by simp only [qRep0, qRep1, qRep2, qRep3, qRep4, qRep5, qRep6, qRep7]; exact ⟨a, vs, rfl, n, p, q⟩
theorem rep_tup {ad : Ad} {h : Heap} {ds : List D} {a : Addr} {vs : List Value} (n : a ∉ ad.all) (p : PT h a vs) (q : Reps ad h ds vs) : Rep ad h (.tup ds) (.ref a) := by simp only [qRep0, qRep1, qRep2, qRep3, qRep4, qRep5, qRep6, qRep7]; exact ⟨a, vs, rfl, n, p, q⟩
theorem of_lst (am : Amb base ad μ s.heap) {d : D} {ds : List D} {v : Value} (e : lst μ d = some ds) (r : Rep ad s.heap d v) : ∃ a vs, v = .ref a ∧ PL s.heap a vs ∧ Reps ad s.heap ds vs := by
  cases d with
  | list xs => simp only [lst, Option.some.injEq] at e; subst e; obtain ⟨a, vs, h1, _, h2, h3⟩ := of_list r; exact ⟨a, vs, h1, h2, h3⟩
  | ml i =>
    simp only [lst] at e
    simp only [qRep0, qRep1, qRep2, qRep3, qRep4, qRep5, qRep6, qRep7] at r
    obtain ⟨a, h1, h2⟩ := r
    obtain ⟨vs, p, q⟩ := am.mu i a ds h2 e
    exact ⟨a, vs, h1, p, q⟩
  | _ => simp [lst] at e
theorem pl_push (h : Heap) (vs : List Value) : PL (h.push { cls := .type "list", data := .seq vs.toArray }) h.objs.size vs := ⟨0, Heap.get?_push_size _ rfl⟩
theorem pt_push (h : Heap) (vs : List Value) : PT (h.push { cls := .type "tuple", data := .seq vs.toArray }) h.objs.size vs := ⟨0, Heap.get?_push_size _ rfl⟩
theorem is_new (am : Amb base ad μ s.heap) {ds : List D} {vs : List Value} (q : Reps ad s.heap ds vs) : Is ad s (.list ds) (.ref s.heap.objs.size) { s with heap := s.heap.push { cls := .type "list", data := .seq vs.toArray } } :=
  ⟨keeps_push _ _, rep_list (am.fresh (fresh_size _)) (pl_push _ _) (q.kept (Kept.push _ _))⟩
theorem list_add {l b : Addr} {vs ws : List Value} {Q : Value → Shared → Prop} {E : Value → Shared → Prop} (hl : PL s.heap l vs) (hb : PL s.heap b ws) (hsz : vs.length + ws.length ≤ sizeLine)
    (h : Q (.ref s.heap.objs.size) { s with heap := s.heap.push { cls := .type "list", data := .seq (vs ++ ws).toArray } }) : wpAny (model pg w) A (binaryOp .Add (.ref l) (.ref b)) Q E s := by
  obtain ⟨n, ho⟩ := hl
  obtain ⟨n2, ho2⟩ := hb
  have e : vs.toArray ++ ws.toArray = (vs ++ ws).toArray := by simp
  refine concat_meets ⟨_, ho, rfl⟩ ⟨_, ho2, rfl⟩ noFill_list_add seq_list_add PySem.F.slot_list_add PySem.F.entry_list_add (PySem.F.args_list_add_2 _ _) (list_addW l b vs.toArray ws.toArray n n2 none none #[] #[] (by simpa using hsz)) ⟨ho, ho2, ?_⟩
  rw [e]; exact h
theorem fold_rep (x : Value) : ∀ (n : Nat) (acc : Array Value), List.foldl (fun x1 x2 => x1 ++ x2) acc (List.replicate n #[x]) = acc ++ (List.replicate n x).toArray
  | 0, acc => by simp
  | n + 1, acc => by rw [List.replicate_succ, List.foldl_cons, fold_rep x n]; apply Array.ext'; simp [List.replicate_succ]
theorem list_mul {l : Addr} {y : Value} {x : Int} {u : Tok} {Q : Value → Shared → Prop} {E : Value → Shared → Prop} (hl : PL s.heap l [y]) (h0 : 0 ≤ x) (h1 : x ≤ 100000)
    (h : Q (.ref s.heap.objs.size) { s with heap := s.heap.push { cls := .type "list", data := .seq (List.replicate x.toNat y).toArray } }) : wpAny (model pg w) A (binaryOp .Mult (.ref l) (.int x u)) Q E s := by
  obtain ⟨k, hl⟩ := hl
  refine wpAny_binaryOp_repeat_ref (T := "list") (U := "int") (by decide) ⟨_, hl, rfl⟩ (fun s' => typeIs_int s' x u) noFill_list_mul F.fills_int_mul F.slot_int_rmul repeat_list F.slot_int_index.lookup
    (call_meets F.slot_int_rmul (typeIs_int s x u) F.entry_int_rmul (F.args_int_rmul_2 _ _) (int___rmul___int_list x u l [y].toArray k)
      ⟨hl, rfl, ⟨_, hl, rfl⟩, call_meets F.slot_list_mul ⟨_, hl, rfl⟩ F.entry_list_mul (F.args_list_mul_2 _ _)
        (AutoListH.list___mul___list_int_3 l [y].toArray k x u (by simp [Builtin.List.listFitsIndex]; omega) (by show ¬ ([y].toArray.size * x.toNat > _); simp only [List.size_toArray, List.length_singleton]; omega) (by simp [Builtin.List.listTooLong, sizeLine]; omega))
        ⟨hl, ?_⟩⟩)
  have e := fold_rep y x.toNat #[]
  simp only [Array.empty_append] at e
  rw [← e] at h
  simpa using h
theorem small_div (a b : Int) (h0 : 0 < b) (h1 : b < 1000) : Builtin.divisionGoesByPylong a b = false := by
  unfold Builtin.divisionGoesByPylong
  dsimp only
  rw [Bool.and_eq_false_iff]
  left
  rw [decide_eq_false_iff_not]
  have : b.natAbs.log2 < 10 := by
    rw [Nat.log2_lt (by omega)]
    omega
  split <;> omega
theorem isAdd_is {op : Operator} (h : isAdd op = true) : op = .Add := by cases op <;> first | rfl | cases h
theorem isMul_is {op : Operator} (h : isMul op = true) : op = .Mult := by cases op <;> first | rfl | cases h
theorem lim_line {n : Nat} (h : n ≤ lim) : n ≤ sizeLine := Nat.le_trans h (by rw [sizeLine_eq]; decide)
theorem bin_op (am : Amb base ad μ s.heap) {op : Operator} {x y d : D} {v u : Value} (e : binD μ op x y = some d) (p : Rep ad s.heap x v) (q : Rep ad s.heap y u) :
    wpAny (model pg w) A (binaryOp op v u) (Is ad s d) NoE s := by
  cases x with
  | int a =>
    cases y with
    | int b =>
      obtain ⟨t, rfl⟩ := of_int p
      obtain ⟨t', rfl⟩ := of_int q
      cases op with
      | Add => cases e; exact add_int ⟨keeps_tok _ _, rep_int⟩
      | Sub => cases e; exact sub_int ⟨keeps_tok _ _, rep_int⟩
      | FloorDiv =>
        obtain ⟨hc, e⟩ := if_is e
        cases e
        simp only [Bool.and_eq_true, decide_eq_true_eq] at hc
        exact floordiv_int (by omega) ⟨keeps_tok _ _, rep_int⟩ (.inl (small_div _ _ (by omega) (by omega)))
      | Mod =>
        obtain ⟨hc, e⟩ := if_is e
        cases e
        simp only [Bool.and_eq_true, decide_eq_true_eq] at hc
        exact mod_int' (by omega) ⟨keeps_tok _ _, rep_int⟩
      | RShift =>
        obtain ⟨hc, e⟩ := if_is e
        cases e
        have hb : b = 1 := eq_of_beq (and_l (and_l hc))
        subst hb
        exact rshift_int (by omega) ⟨keeps_tok _ _, rep_int⟩
      | Mult =>
        obtain ⟨hc, e⟩ := if_is e
        cases e
        simp only [Bool.and_eq_true, decide_eq_true_eq] at hc
        unfold lim at hc
        exact PyProof.Rows.mul_int ⟨keeps_tok _ _, rep_int⟩ (PySem.IntMulOk.of_right (PySem.intBits_le_64 (by omega) (by omega)))
      | _ => cases e
    | _ => cases e
  | str x =>
    cases y with
    | str y =>
      obtain ⟨t, rfl⟩ := of_str p
      obtain ⟨t', rfl⟩ := of_str q
      refine gd_el e fun ha e => ?_
      obtain ⟨hc, e⟩ := if_is e
      cases e
      obtain rfl := isAdd_is ha
      exact add_str (fun t' tk => ⟨keeps_tok _ _, rep_str⟩) (lim_line hc)
    | _ => cases e
  | list xs =>
    obtain ⟨a, vs, rfl, _, pl, rs⟩ := of_list p
    cases y with
    | list ys =>
      obtain ⟨b, ws, rfl, _, pl', rs'⟩ := of_list q
      refine gd_el e fun ha e => ?_
      obtain ⟨hc, e⟩ := if_is e
      cases e
      obtain rfl := isAdd_is ha
      exact list_add pl pl' (by rw [rs.length, rs'.length]; exact lim_line hc) (is_new am (rs.append rs'))
    | int n =>
      obtain ⟨t', rfl⟩ := of_int q
      cases xs with
      | nil => cases e
      | cons z r =>
        refine gd_el e fun ha e => ?_
        obtain ⟨hc, e⟩ := if_is e
        cases e
        obtain rfl := isMul_is (and_r ha)
        obtain rfl := List.isEmpty_iff.mp (and_l ha)
        have h1 := of_decide_eq_true (and_l hc)
        have h2 := of_decide_eq_true (and_r hc)
        simp only [qReps0, qReps1] at rs
        obtain ⟨v, r, rfl, rp, rfl⟩ := rs
        unfold lim at h2
        exact list_mul pl h1 (by omega) (is_new am (Reps.replicate rp _))
    | _ => cases e
  | _ => cases e
end
end Mine
end
section
namespace Mine
mutual
noncomputable def noMl : D → Bool
  | .list ds => noMls ds
  | .tup ds => noMls ds
  | .ml _ => false
  | .bm _ => false
  | _ => true
noncomputable def noMls : List D → Bool
  | [] => true
  | d :: ds => noMl d && noMls ds
end
theorem qnoMls0  : noMls [] = true := rfl
theorem qnoMls1 {d : D} {ds : List D} : noMls (d :: ds) = (noMl d && noMls ds) := rfl
theorem qnoMl0 {ds : List D} : noMl (.list ds) = noMls ds := rfl
theorem qnoMl1 {ds : List D} : noMl (.tup ds) = noMls ds := rfl
theorem qnoMl2 {i : Nat} : noMl (.ml i) = false := rfl
theorem qnoMl3 {i : Nat} : noMl (.bm i) = false := rfl
theorem qnoMl4  : noMl .none = true := rfl
theorem qnoMl5 {b : Bool} : noMl (.bool b) = true := rfl
theorem qnoMl6 {i : Int} : noMl (.int i) = true := rfl
theorem qnoMl7 {x : Str} : noMl (.str x) = true := rfl
noncomputable def Sup (ad : Ad) (h : Heap) (as : List Addr) : Prop := ∀ a ∈ as, a ∉ ad.all ∧ ∃ o, h.get? a = some o ∧ ∃ xs n, o.data = .seq xs n
noncomputable def SupTo (as : List Addr) (h : Heap) (ad' : Ad) (h' : Heap) : Prop := ∀ a ∈ as, a ∉ ad'.all ∧ h'.get? a = h.get? a
mutual
theorem Rep.sup {ad : Ad} {h : Heap} : ∀ (d : D) (v : Value), noMl d = true → Rep ad h d v → ∃ as, Sup ad h as ∧ ∀ ad' h', SupTo as h ad' h' → Rep ad' h' d v
  | .none, v, _, r => ⟨[], (fun _ m => nomatch m), fun _ _ _ => by simp only [qRep0, qRep1, qRep2, qRep3, qRep4, qRep5, qRep6, qRep7] at r ⊢; exact r⟩
  | .bool b, v, _, r => ⟨[], (fun _ m => nomatch m), fun _ _ _ => by simp only [qRep0, qRep1, qRep2, qRep3, qRep4, qRep5, qRep6, qRep7] at r ⊢; exact r⟩
  | .int i, v, _, r => ⟨[], (fun _ m => nomatch m), fun _ _ _ => by simp only [qRep0, qRep1, qRep2, qRep3, qRep4, qRep5, qRep6, qRep7] at r ⊢; exact r⟩
  | .str x, v, _, r => ⟨[], (fun _ m => nomatch m), fun _ _ _ => by simp only [qRep0, qRep1, qRep2, qRep3, qRep4, qRep5, qRep6, qRep7] at r ⊢; exact r⟩
  | .ml i, v, n, r => by simp [qnoMl0, qnoMl1, qnoMl2, qnoMl3, qnoMl4, qnoMl5, qnoMl6, qnoMl7] at n
  | .bm i, v, n, r => by simp [qnoMl0, qnoMl1, qnoMl2, qnoMl3, qnoMl4, qnoMl5, qnoMl6, qnoMl7] at n
  | .list ds, v, n, r => by
    obtain ⟨a, vs, rfl, na, pl, rs⟩ := of_list r
    obtain ⟨as, s1, s2⟩ := Reps.sup ds vs (by simpa [qnoMl0, qnoMl1, qnoMl2, qnoMl3, qnoMl4, qnoMl5, qnoMl6, qnoMl7] using n) rs
    obtain ⟨m, e⟩ := pl
    refine ⟨a :: as, fun b hb => ?_, fun ad' h' q => ?_⟩
    · rcases List.mem_cons.mp hb with rfl | hb
      · exact ⟨na, _, e, _, _, rfl⟩
      · exact s1 b hb
    · obtain ⟨q1, q2⟩ := q a (.head _)
      exact rep_list q1 ⟨m, q2.trans e⟩ (s2 ad' h' fun b hb => q b (.tail _ hb))
  | .tup ds, v, n, r => by
    obtain ⟨a, vs, rfl, na, pl, rs⟩ := of_tup r
    obtain ⟨as, s1, s2⟩ := Reps.sup ds vs (by simpa [qnoMl0, qnoMl1, qnoMl2, qnoMl3, qnoMl4, qnoMl5, qnoMl6, qnoMl7] using n) rs
    obtain ⟨m, e⟩ := pl
    refine ⟨a :: as, fun b hb => ?_, fun ad' h' q => ?_⟩
    · rcases List.mem_cons.mp hb with rfl | hb
      · exact ⟨na, _, e, _, _, rfl⟩
      · exact s1 b hb
    · obtain ⟨q1, q2⟩ := q a (.head _)
      exact rep_tup q1 ⟨m, q2.trans e⟩ (s2 ad' h' fun b hb => q b (.tail _ hb))
theorem Reps.sup {ad : Ad} {h : Heap} : ∀ (ds : List D) (vs : List Value), noMls ds = true → Reps ad h ds vs → ∃ as, Sup ad h as ∧ ∀ ad' h', SupTo as h ad' h' → Reps ad' h' ds vs
  | [], vs, _, r => ⟨[], (fun _ m => nomatch m), fun _ _ _ => by simp only [qReps0, qReps1] at r ⊢; exact r⟩
  | d :: ds, vs, n, r => by
    simp only [qReps0, qReps1] at r
    obtain ⟨v, us, rfl, p, q⟩ := r
    simp only [qnoMls0, qnoMls1, Bool.and_eq_true] at n
    obtain ⟨as, s1, s2⟩ := Rep.sup d v n.1 p
    obtain ⟨bs, t1, t2⟩ := Reps.sup ds us n.2 q
    refine ⟨as ++ bs, fun b hb => ?_, fun ad' h' q => Reps.cons (s2 ad' h' fun b hb => q b (List.mem_append_left _ hb)) (t2 ad' h' fun b hb => q b (List.mem_append_right _ hb))⟩
    rcases List.mem_append.mp hb with hb | hb
    · exact s1 b hb
    · exact t1 b hb
end
end Mine
end
section
namespace Mine
open PySem.SeqAt PySem.MeetsSeq PySem.MeetsSeq2 PySem.MeetsSeq3
open PySem.AutoSeq1 (wpAny_loadPart')
theorem mapO_length {α β : Type} {f : α → Option β} : ∀ {l : List α} {r : List β}, mapO f l = some r → r.length = l.length
  | [], r, h => by simp only [qmapO0, qmapO1, Option.some.injEq] at h; subst h; rfl
  | x :: l, r, h => by
    simp only [qmapO0, qmapO1] at h
    split at h
    · cases h
    · split at h
      · cases h
      · rename_i h2
        injection h with h; subst h
        simp [mapO_length h2]
theorem mapO_get {α β : Type} {f : α → Option β} : ∀ {l : List α} {r : List β} {i : Nat} {y : β}, mapO f l = some r → r[i]? = some y → ∃ x, l[i]? = some x ∧ f x = some y
  | [], r, i, y, h, e => by simp only [qmapO0, qmapO1, Option.some.injEq] at h; subst h; simp at e
  | x :: l, r, i, y, h, e => by
    simp only [qmapO0, qmapO1] at h
    split at h
    · cases h
    · split at h
      · cases h
      · rename_i h1 _ _ h2
        injection h with h; subst h
        cases i with
        | zero => simp at e; subst e; exact ⟨x, by simp, h1⟩
        | succ i => simp at e; obtain ⟨z, a, b⟩ := mapO_get h2 e; exact ⟨z, by simpa using a, b⟩
theorem gInts_val {ad : Ad} {h : Heap} : ∀ {ds : List D} {xs : List Int} {vs : List Value}, gInts ds = some xs → Reps ad h ds vs → IntsAre vs xs
  | [], xs, vs, e, r => by simp only [gInts, qmapO0, qmapO1, Option.some.injEq] at e; subst e; simp only [qReps0, qReps1] at r; subst r; exact .nil
  | d :: ds, xs, vs, e, r => by
    simp only [gInts, qmapO0, qmapO1] at e
    simp only [qReps0, qReps1] at r
    obtain ⟨v, r', rfl, p, q⟩ := r
    split at e
    · cases e
    · split at e
      · cases e
      · rename_i h1 _ _ h2
        injection e with e; subst e
        cases d <;> simp only [intD, Option.some.injEq, reduceCtorEq] at h1
        subst h1
        obtain ⟨t, rfl⟩ := of_int p
        exact .cons _ t (gInts_val h2 q)
section
variable {w : World} {A : Around} {s : Shared} {base : Heap} {ad : Ad} {μ : List (List D)}
structure EqOK (f : D → D → Option Bool) (ad : Ad) (A : Around) (s : Shared) : Prop where
  eq : ∀ x y v u b, f x y = some b → Rep ad s.heap x v → Rep ad s.heap y u → EqAt A s v u b
  same : ∀ x y v b, f x y = some b → Rep ad s.heap x v → Rep ad s.heap y v → b = true
theorem eqOK0 : EqOK eq0 ad A s where
  eq := fun x y v u b e p q => by
    unfold eq0 at e
    split at e
    · injection e with e; subst e
      obtain ⟨t, rfl⟩ := of_int p; obtain ⟨t', rfl⟩ := of_int q
      exact (EqGives.int _ _ _ _).at A s
    · injection e with e; subst e
      obtain ⟨t, rfl⟩ := of_str p; obtain ⟨t', rfl⟩ := of_str q
      exact (eqGives_str _ _ _ _).at A s
    · cases e
  same := fun x y v b e p q => by
    unfold eq0 at e
    split at e
    · injection e with e; subst e
      obtain ⟨t, rfl⟩ := of_int p; obtain ⟨t', h⟩ := of_int q
      cases h; simp
    · injection e with e; subst e
      obtain ⟨t, rfl⟩ := of_str p; obtain ⟨t', h⟩ := of_str q
      cases h; simp
    · cases e
theorem eqLst_at {f : D → D → Option Bool} : ∀ {xs ys : List D} {b : Bool}, eqLst f xs ys = some b → xs.length = ys.length ∧ ∃ e : Nat → Bool, (∀ i x y, xs[i]? = some x → ys[i]? = some y → f x y = some (e i)) ∧ (List.range xs.length).all e = b
  | [], [], b, h => by simp only [qeqLst0, qeqLst1, qeqLst2, qeqLst3, Option.some.injEq] at h; subst h; exact ⟨rfl, fun _ => true, fun i x y a => by simp at a, rfl⟩
  | x :: xs, y :: ys, b, h => by
    simp only [qeqLst0, qeqLst1, qeqLst2, qeqLst3] at h
    split at h
    · rename_i a c h1 h2
      injection h with h; subst h
      obtain ⟨l, e, h3, h4⟩ := eqLst_at h2
      refine ⟨by simp [l], fun i => match i with | 0 => a | i + 1 => e i, fun i => ?_, ?_⟩
      · cases i with
        | zero => intro x' y' p q; simp at p q; subst p; subst q; exact h1
        | succ i => intro x' y' p q; simp at p q; exact h3 i x' y' p q
      · rw [List.length_cons, List.range_succ_eq_map, List.all_cons, List.all_map]
        show (a && (List.range xs.length).all e) = _
        rw [h4]
    · cases h
  | [], _ :: _, b, h => by simp [qeqLst0, qeqLst1, qeqLst2, qeqLst3] at h
  | _ :: _, [], b, h => by simp [qeqLst0, qeqLst1, qeqLst2, qeqLst3] at h
theorem eqLst_same {f : D → D → Option Bool} {s : Shared} (H : ∀ x y v b, f x y = some b → Rep ad s.heap x v → Rep ad s.heap y v → b = true) : ∀ {xs ys : List D} {vs : List Value} {b : Bool}, eqLst f xs ys = some b → Reps ad s.heap xs vs → Reps ad s.heap ys vs → b = true
  | [], [], vs, b, h, _, _ => by simp only [qeqLst0, qeqLst1, qeqLst2, qeqLst3, Option.some.injEq] at h; exact h.symm
  | x :: xs, y :: ys, vs, b, h, p, q => by
    simp only [qeqLst0, qeqLst1, qeqLst2, qeqLst3] at h
    simp only [qReps0, qReps1] at p q
    obtain ⟨v, r, rfl, p1, p2⟩ := p
    obtain ⟨v', r', e, q1, q2⟩ := q
    injection e with e1 e2; subst e1; subst e2
    split at h
    · rename_i a c h1 h2
      injection h with h; subst h
      rw [H _ _ _ _ h1 p1 q1, eqLst_same H h2 p2 q2]; rfl
    · cases h
  | [], _ :: _, _, b, h, _, _ => by simp [qeqLst0, qeqLst1, qeqLst2, qeqLst3] at h
  | _ :: _, [], _, b, h, _, _ => by simp [qeqLst0, qeqLst1, qeqLst2, qeqLst3] at h
theorem items_eq {f : D → D → Option Bool} {xs ys : List D} {vs ws : List Value} {e : Nat → Bool} (H : EqOK f ad A s) (h : ∀ i x y, xs[i]? = some x → ys[i]? = some y → f x y = some (e i)) (p : Reps ad s.heap xs vs) (q : Reps ad s.heap ys ws) :
    ∀ j (h1 : j < vs.toArray.size) (h2 : j < ws.toArray.size), EqAt A s vs.toArray[j] ws.toArray[j] (e j) := fun j h1 h2 => by
  have l1 := p.length; have l2 := q.length
  simp only [List.size_toArray] at h1 h2
  have hx : xs[j]? = some xs[j] := List.getElem?_eq_getElem (by omega)
  have hy : ys[j]? = some ys[j] := List.getElem?_eq_getElem (by omega)
  obtain ⟨v, a1, a2⟩ := p.get hx
  obtain ⟨u, b1, b2⟩ := q.get hy
  have e1 : vs.toArray[j] = v := by
    have := List.getElem?_eq_getElem h1
    rw [a1] at this; injection this with this; simpa using this.symm
  have e2 : ws.toArray[j] = u := by
    have := List.getElem?_eq_getElem h2
    rw [b1] at this; injection this with this; simpa using this.symm
  rw [e1, e2]
  exact H.eq _ _ _ _ _ (h j _ _ hx hy) a2 b2
theorem rc_list {f : D → D → Option Bool} {xs ys : List D} {vs ws : List Value} {a b : Addr} {r : Bool} (H : EqOK f ad A.in1 s) (hu : A.units < cLine) (h : (if xs.length == ys.length then eqLst f xs ys else some false) = some r)
    (pa : PL s.heap a vs) (pb : PL s.heap b ws) (p : Reps ad s.heap xs vs) (q : Reps ad s.heap ys ws) : RcAt A s (.ref a) (.ref b) r ∧ RcNeAt A s (.ref a) (.ref b) (!r) := by
  have l1 := p.length; have l2 := q.length
  split at h
  · rename_i hl
    obtain ⟨l, e, h3, h4⟩ := eqLst_at h
    have hs : vs.toArray.size = ws.toArray.size := by simp; omega
    have he : (List.range vs.toArray.size).all e = r := by rw [List.size_toArray, l1]; exact h4
    have i1 := RcAt.lists pa.isList pb.isList hs hu (items_eq H h3 p q)
    have i2 := RcNeAt.lists pa.isList pb.isList hs hu (items_eq H h3 p q)
    rw [he] at i1 i2
    exact ⟨i1, i2⟩
  · rename_i hl
    injection h with h; subst h
    have hs : (vs.toArray.size != ws.toArray.size) = true := by
      simp only [List.size_toArray, bne_iff_ne, ne_eq]
      simp only [beq_iff_eq] at hl
      omega
    exact ⟨RcAt.lists_lengths pa.isList pb.isList hs hu, RcNeAt.lists_lengths pa.isList pb.isList hs hu⟩
theorem rc_tup {f : D → D → Option Bool} {xs ys : List D} {vs ws : List Value} {a b : Addr} {r : Bool} (H : EqOK f ad A.in1 s) (hu : A.units < cLine) (hl : xs.length = ys.length) (h : eqLst f xs ys = some r)
    (pa : PT s.heap a vs) (pb : PT s.heap b ws) (p : Reps ad s.heap xs vs) (q : Reps ad s.heap ys ws) : RcAt A s (.ref a) (.ref b) r ∧ RcNeAt A s (.ref a) (.ref b) (!r) := by
  have l1 := p.length; have l2 := q.length
  obtain ⟨l, e, h3, h4⟩ := eqLst_at h
  have i1 := RcAt.tuples pa.isTuple pb.isTuple hu (items_eq H h3 p q)
  have i2 := RcNeAt.tuples pa.isTuple pb.isTuple hu (items_eq H h3 p q)
  have hz : ((List.range (min vs.toArray.size ws.toArray.size)).all e && vs.toArray.size == ws.toArray.size) = r := by
    simp only [List.size_toArray]
    rw [l1, l2, ← hl, Nat.min_self, h4]; simp
  rw [hz] at i1 i2
  exact ⟨i1, i2⟩
theorem eqN_list {f : D → D → Option Bool} {xs ys : List D} : eqN f (.list xs) (.list ys) = if xs.length == ys.length then eqLst f xs ys else some false := rfl
theorem eqN_tup {f : D → D → Option Bool} {xs ys : List D} : eqN f (.tup xs) (.tup ys) = if xs.length == ys.length then eqLst f xs ys else none := rfl
theorem eqOKN {f : D → D → Option Bool} (H : EqOK f ad A.in1 s) (H0 : EqOK f ad A s) (hu : A.units < cLine) : EqOK (eqN f) ad A s where
  eq := fun x y v u b e p q => by
    unfold eqN at e
    split at e
    · obtain ⟨a, vs, rfl, _, pa, p'⟩ := of_list p
      obtain ⟨c, ws, rfl, _, pb, q'⟩ := of_list q
      by_cases hac : a = c
      · subst hac
        have := pa.inj pb; subst this
        have : b = true := by
          split at e
          · exact eqLst_same H.same e p' q'
          · rename_i hl
            have l1 := p'.length; have l2 := q'.length
            exact absurd (by simp; omega) hl
        subst this
        exact EqAt.same _
      · exact EqAt.of_refs hac (rc_list H hu e pa pb p' q').1
    · obtain ⟨a, vs, rfl, _, pa, p'⟩ := of_tup p
      obtain ⟨c, ws, rfl, _, pb, q'⟩ := of_tup q
      split at e
      · rename_i hl
        by_cases hac : a = c
        · subst hac
          have : vs = ws := by
            obtain ⟨n, e1⟩ := pa; obtain ⟨m, e2⟩ := pb
            rw [e1] at e2; injection e2 with e2; injection e2 with _ _ e2 _; injection e2 with e2 _
            exact congrArg Array.toList e2
          subst this
          have : b = true := eqLst_same H.same e p' q'
          subst this
          exact EqAt.same _
        · exact EqAt.of_refs hac (rc_tup H hu (by simpa using hl) e pa pb p' q').1
      · cases e
    · exact H0.eq _ _ _ _ _ e p q
  same := fun x y v b e p q => by
    unfold eqN at e
    split at e
    · obtain ⟨a, vs, rfl, _, pa, p'⟩ := of_list p
      obtain ⟨c, ws, h, _, pb, q'⟩ := of_list q
      injection h with h; subst h
      have := pa.inj pb; subst this
      split at e
      · exact eqLst_same H.same e p' q'
      · rename_i hl
        have l1 := p'.length; have l2 := q'.length
        exact absurd (by simp; omega) hl
    · obtain ⟨a, vs, rfl, _, pa, p'⟩ := of_tup p
      obtain ⟨c, ws, h, _, pb, q'⟩ := of_tup q
      injection h with h; subst h
      have : vs = ws := by
        obtain ⟨n, e1⟩ := pa; obtain ⟨m, e2⟩ := pb
        rw [e1] at e2; injection e2 with e2; injection e2 with _ _ e2 _; injection e2 with e2 _
        exact congrArg Array.toList e2
      subst this
      split at e
      · exact eqLst_same H.same e p' q'
      · cases e
    · exact H0.same _ _ _ _ e p q
theorem eqOK1 (hu : A.units + 3 < cLine) : EqOK (eqN eq0) ad A s := eqOKN eqOK0 eqOK0 (by omega)
theorem lt_loopAt (l b : Addr) (items items2 : Array Value) (n n2 : Nat) (xs ys : List Int) (k : Nat) :
    ∀ (i : Nat), items.size - i = k → i ≤ items.size → i ≤ items2.size → IntsAre (items.toList.drop i) xs → IntsAre (items2.toList.drop i) ys → Meets (Builtin.«list.__eq__.loop» ⟨[.ref l, .ref b, rawInt i, rawInt 0], []⟩)
      (fun A R s => s.heap.get? l = some { cls := .type "list", dict := none, data := .seq items n, slots := #[] } ∧ s.heap.get? b = some { cls := .type "list", dict := none, data := .seq items2 n2, slots := #[] } ∧
        R (.ok (.ret (.bool (ltI xs ys)))) s) := by
  induction k generalizing xs ys with
  | zero =>
    intro i hk hi0 hi' h1 h2 pg w A R s h
    obtain ⟨hp, g, d, tk, os⟩ := s; obtain ⟨hl, hb, h⟩ := h
    wp_walk using wpAny_loadPart' hl, wpAny_loadPart' hb
    have hi1 : items[((i : Nat) : Int).toNat]? = none := by simp; omega
    rw [hi1]
    wp_walk using wpAny_loadPart' hl, wpAny_loadPart' hb
    have hx : xs = [] := by
      have := h1.length
      have e : (items.toList.drop i).length = 0 := by simp; omega
      rw [e] at this
      exact List.length_eq_zero_iff.mp this.symm
    subst hx
    show R (.ok (.ret (.bool (decide (items.size < items2.size))))) _
    have hy : ltI [] ys = decide (items.size < items2.size) := by
      have l2 := h2.length
      have e : (items2.toList.drop i).length = items2.size - i := by simp
      cases ys with
      | nil => simp only [qltI0, qltI1, qltI2, qltI3]; simp at l2; symm; simp; omega
      | cons y r => simp only [qltI0, qltI1, qltI2, qltI3]; simp at l2; symm; simp; omega
    rw [← hy]; exact h
  | succ k ih =>
    intro i hk hi0 hi' h1 h2 pg w A R s h
    obtain ⟨hp, g, d, tk, os⟩ := s; obtain ⟨hl, hb, h⟩ := h
    wp_walk using wpAny_loadPart' hl, wpAny_loadPart' hb
    have hlt : i < items.size := by omega
    have hi1 : items[((i : Nat) : Int).toNat]? = some items[i] := by simp [hlt]
    have hd1 : items.toList.drop i = items[i] :: items.toList.drop (i + 1) := by simp [List.drop_eq_getElem_cons, hlt]
    rw [hd1] at h1
    obtain ⟨x, xs', t, ex, hit, h1'⟩ : ∃ x xs' t, xs = x :: xs' ∧ items[i] = .int x t ∧ IntsAre (items.toList.drop (i + 1)) xs' := by
      generalize items[i] = v at h1
      generalize items.toList.drop (i + 1) = r at h1
      cases h1 with
      | cons n t hh => exact ⟨n, _, t, rfl, rfl, hh⟩
    subst ex
    rw [hi1]
    by_cases hlt2 : i < items2.size
    · have hi2 : items2[((i : Nat) : Int).toNat]? = some items2[i] := by simp [hlt2]
      have hd2 : items2.toList.drop i = items2[i] :: items2.toList.drop (i + 1) := by simp [List.drop_eq_getElem_cons, hlt2]
      rw [hd2] at h2
      obtain ⟨y, ys', t', ey, hjt, h2'⟩ : ∃ x xs' t, ys = x :: xs' ∧ items2[i] = .int x t ∧ IntsAre (items2.toList.drop (i + 1)) xs' := by
        generalize items2[i] = v at h2
        generalize items2.toList.drop (i + 1) = r at h2
        cases h2 with
        | cons n t hh => exact ⟨n, _, t, rfl, rfl, hh⟩
      subst ey
      have hc : ((i : Int) + 1) = ((i + 1 : Nat) : Int) := by push_cast; rfl
      rw [hi2, hit, hjt]
      refine wpAny_bind ((EqGives.int x y t t').at _ _ pg w _ _ ?_)
      by_cases hxy : x = y
      · subst hxy
        have hb' : (x == x) = true := by simp
        rw [hb']
        wp_walk
        rw [hc]
        refine ⟨plainId_quiet plain_eq_loop _, codeAny_builtin entry_eq_loop ?_⟩
        rw [Around.under_plainId plain_eq_loop _]
        refine ih xs' ys' (i + 1) (by omega) (by omega) (by omega) h1' h2' pg w A R _ ⟨hl, hb, ?_⟩
        simpa [qltI0, qltI1, qltI2, qltI3] using h
      · have hb' : (x == y) = false := by simpa using hxy
        rw [hb']
        wp_walk using wpAny_loadPart' hl, wpAny_loadPart' hb
        rw [hi1, hi2, hit, hjt]
        refine wpAny_bind ?_
        refine lt_int ?_
        simp only [qltI0, qltI1, qltI2, qltI3, hxy, if_false] at h
        exact wpAny_pure h
    · have hi2 : items2[((i : Nat) : Int).toNat]? = none := by simp; omega
      have hy : ys = [] := by
        have := h2.length
        have e : (items2.toList.drop i).length = 0 := by simp; omega
        rw [e] at this
        exact List.length_eq_zero_iff.mp this.symm
      subst hy
      rw [hi2]
      wp_walk using wpAny_loadPart' hl, wpAny_loadPart' hb
      show R (.ok (.ret (.bool (decide (items.size < items2.size))))) _
      have : decide (items.size < items2.size) = false := by simp; omega
      rw [this]
      simpa [qltI0, qltI1, qltI2, qltI3] using h
theorem list_ltAt (l b : Addr) (items items2 : Array Value) (n n2 : Nat) (xs ys : List Int) (h1 : IntsAre items.toList xs) (h2 : IntsAre items2.toList ys) :
    Meets (Builtin.«list.__lt__» ⟨[.ref l, .ref b], []⟩)
      (fun A R s => s.heap.get? l = some { cls := .type "list", dict := none, data := .seq items n, slots := #[] } ∧ s.heap.get? b = some { cls := .type "list", dict := none, data := .seq items2 n2, slots := #[] } ∧
        R (.ok (.ret (.bool (ltI xs ys)))) s) := by
  intro pg w A R s h
  obtain ⟨hp, g, d, tk, os⟩ := s; obtain ⟨hl, hb, h⟩ := h
  have f3 := AutoSeq1.sub_list_list
  wp_walk using wpAny_loadPart' hl, wpAny_loadPart' hb
  exact ⟨plainId_quiet plain_eq_loop _, codeAny_builtin entry_eq_loop (by
    rw [Around.under_plainId plain_eq_loop _]
    exact lt_loopAt l b items items2 n n2 xs ys _ 0 rfl (Nat.zero_le _) (Nat.zero_le _) (by simpa using h1) (by simpa using h2) pg w A R _ ⟨hl, hb, h⟩)⟩
theorem lt_lists {l b : Addr} {vs ws : List Value} {xs ys : List Int} {Q : Value → Shared → Prop} {E : Value → Shared → Prop} (hl : PL s.heap l vs) (hb : PL s.heap b ws) (h1 : IntsAre vs xs) (h2 : IntsAre ws ys) (hu : A.units < cLine)
    (h : Q (.bool (ltI xs ys)) s) : wpAny (model pg w) A (richCompare .Lt (.ref l) (.ref b)) Q E s := by
  obtain ⟨n, hl⟩ := hl
  obtain ⟨m, hb⟩ := hb
  exact richCompare_meets_room (op := .Lt) ⟨_, hl, rfl⟩ ⟨_, hb, rfl⟩ F.slot_list_lt F.entry_list_lt (F.args_list_lt_2 _ _) (list_ltAt l b vs.toArray ws.toArray n m xs ys h1 h2)
    ⟨hl, hb, show Value.bool (ltI xs ys) ≠ Value.notImplemented ∧ Q (.bool (ltI xs ys)) s from ⟨(fun x => nomatch x), h⟩⟩ hu
end
end Mine
end
section
namespace Mine
open PySem.SeqAt PySem.MeetsSeq PySem.MeetsSeq2 PySem.MeetsSeq3
open PySem.AutoSeq1 (wpAny_loadPart')
theorem is_bool {ad : Ad} {s : Shared} {b : Bool} : Is ad s (.bool b) (.bool b) s := ⟨keeps_refl _, rep_bool⟩
section
variable {w : World} {A : Around} {s : Shared} {base : Heap} {ad : Ad} {μ : List (List D)}
theorem cmp_op (hu : A.units + 10 < cLine) {op : CmpOp} {x y d : D} {v u : Value} (e : cmpD μ op x y = some d) (p : Rep ad s.heap x v) (q : Rep ad s.heap y u) :
    wpAny (model pg w) A (compareOp op v u) (Is ad s d) NoE s := by
  have H : EqOK (eqN eq0) ad A.in1 s := eqOK1 (by show A.units + 1 + 3 < cLine; omega)
  cases x with
  | int a =>
    cases y with
    | int b =>
      obtain ⟨t, rfl⟩ := of_int p; obtain ⟨t', rfl⟩ := of_int q
      cases op with
      | Eq => cases e; exact eq_int is_bool
      | NotEq => cases e; exact ne_int is_bool
      | Lt => cases e; exact lt_int is_bool
      | LtE => cases e; exact le_int is_bool
      | Gt => cases e; exact gt_int is_bool
      | GtE => cases e; exact ge_int is_bool
      | _ => cases e
    | _ => cases e
  | str a =>
    cases y with
    | str b =>
      obtain ⟨t, rfl⟩ := of_str p; obtain ⟨t', rfl⟩ := of_str q
      cases op with
      | Eq => cases e; exact eq_str is_bool
      | NotEq => cases e; exact ne_str is_bool
      | In => cases e; exact SB.contains is_bool
      | NotIn => cases e; exact SB.notContains is_bool
      | _ => cases e
    | _ => cases e
  | list a =>
    cases y with
    | list b =>
      obtain ⟨l, vs, rfl, _, pa, p'⟩ := of_list p
      obtain ⟨c, ws, rfl, _, pb, q'⟩ := of_list q
      cases op with
      | Eq => exact mp_el (P := fun d => wpAny _ _ _ (Is ad s d) _ _) e fun b e' => (rc_list H (by omega) e' pa pb p' q').1 pg w NoE _ is_bool
      | NotEq => exact mp_el (P := fun d => wpAny _ _ _ (Is ad s d) _ _) e fun b e' => (rc_list H (by omega) e' pa pb p' q').2 pg w NoE _ is_bool
      | Lt =>
        cases h1 : gInts a with
        | none => simp only [cmpD, cmpL, h1] at e; cases e
        | some xs => cases h2 : gInts b with
          | none => simp only [cmpD, cmpL, h1, h2] at e; cases e
          | some ys =>
            simp only [cmpD, cmpL, h1, h2] at e
            cases e
            exact cmp_ofLt (lt_lists pa pb (gInts_val h1 p') (gInts_val h2 q') (by omega) is_bool)
      | _ => cases e
    | _ => cases e
  | tup a =>
    cases y with
    | tup b =>
      obtain ⟨l, vs, rfl, _, pa, p'⟩ := of_tup p
      obtain ⟨c, ws, rfl, _, pb, q'⟩ := of_tup q
      have ht : ∀ {r : Bool}, eqD (.tup a) (.tup b) = some r → a.length = b.length ∧ eqLst (eqN eq0) a b = some r := fun {r} e' => by
        unfold eqD at e'; rw [eqN_tup] at e'
        obtain ⟨hl, e'⟩ := if_is e'
        exact ⟨eq_of_beq hl, e'⟩
      cases op with
      | Eq => exact mp_el (P := fun d => wpAny _ _ _ (Is ad s d) _ _) e fun b e' => (rc_tup H (by omega) (ht e').1 (ht e').2 pa pb p' q').1 pg w NoE _ is_bool
      | NotEq => exact mp_el (P := fun d => wpAny _ _ _ (Is ad s d) _ _) e fun b e' => (rc_tup H (by omega) (ht e').1 (ht e').2 pa pb p' q').2 pg w NoE _ is_bool
      | _ => cases e
    | _ => cases e
  | _ => cases e
theorem getLast_get {α : Type} {l : List α} {x : α} (h : l.getLast? = some x) : 0 < l.length ∧ l[l.length - 1]? = some x := by
  rw [List.getLast?_eq_getElem?] at h
  exact ⟨by obtain ⟨h1, _⟩ := List.getElem?_eq_some_iff.mp h; omega, h⟩
theorem seqIndex_last (n : Nat) (h : 0 < n) : seqIndex? (-1) n = some (n - 1) := by
  unfold seqIndex?
  simp only [show ((-1 : Int) < 0) from by decide, if_true]
  rw [if_pos (by simp; omega)]
  congr 1; omega
theorem getItem_last {l : Addr} {vs : List Value} {t : Tok} {x : Value} {Q : Value → Shared → Prop} {E : Value → Shared → Prop} (hl : PL s.heap l vs) (hx : vs.getLast? = some x) (h : Q x s) : wpAny (model pg w) A (getItem (.ref l) (.int (-1) t)) Q E s := by
  obtain ⟨n, ho⟩ := hl
  obtain ⟨h0, hx⟩ := getLast_get hx
  have hT : s.TypeIs (.ref l) "list" := ⟨_, ho, rfl⟩
  unfold PySem.getItem
  try with_reducible refine wpAny_holding ?_
  first | refine wpAny_bind (wpAny_pure ?_) | skip
  refine wpAny_bind (wpAny_sequenceKey hT (by decide) ?_)
  refine wpAny_bind (wpAny_callSpecial?_slot (name := Str.ofString "__getitem__") hT slot_list_getitem
    (wpAny_call_entry slot_list_getitem hT entry_list_getitem ?_ (args_list_getitem _ _)))
  show wpAny _ _ (Builtin.List.listSubscript? (.int (-1) t) >>= _) _ _ s
  refine wpAny_bind (wpAny_listSubscript_int (by decide) ?_)
  show wpAny _ _ ((Builtin.List.listItems (.ref l) >>= fun xs => pure ((seqIndex? (-1) xs.size).bind fun j => xs[j]?.map (j, ·))) >>= _) _ _ s
  refine wpAny_bind (wpAny_bind (listItems_at ho rfl (wpAny_pure ?_)))
  have e : ((seqIndex? (-1) vs.toArray.size).bind fun j => vs.toArray[j]?.map (j, ·)) = some (vs.length - 1, x) := by
    rw [List.size_toArray, seqIndex_last _ h0]
    simp only [Option.bind_some, List.getElem?_toArray, hx, Option.map_some]
  rw [e]
  first
    | exact wpAny_bind (wpAny_pure (wpAny_pure ⟨x, rfl, wpAny_pure h⟩))
    | exact wpAny_pure ⟨x, rfl, wpAny_pure h⟩
theorem subs (c : Expr) (o i : Value) : ∃ ops, subscripted c false o i = operate ops (PySem.getItem o i) := by
  cases c with
  | Slice lo hi st p => cases st with
    | none => exact ⟨_, rfl⟩
    | some _ => exact ⟨_, rfl⟩
  | _ => exact ⟨_, rfl⟩
theorem idx_op (am : Amb base ad μ s.heap) {x y d : D} {v u : Value} {value slice : Expr} (e : idxD μ x y = some d) (p : Rep ad s.heap x v) (q : Rep ad s.heap y u) :
    wpAny (model pg w) A (subscriptTail value slice v u) (Is ad s d) NoE s := by
  have hs : ∀ o i, ∃ ops, subscripted slice false o i = operate ops (PySem.getItem o i) := subs slice
  cases y with
  | int i =>
    obtain ⟨t', rfl⟩ := of_int q
    have hd : ((if 0 ≤ i && i ≤ lim then (lst μ x).bind (·[i.toNat]?) else if i == -1 then (lst μ x).bind (·.getLast?) else none) = some d) → wpAny (model pg w) A (subscriptTail value slice v (.int i t')) (Is ad s d) NoE s := fun e => by
      by_cases hc : (0 ≤ i && i ≤ lim) = true
      · rw [if_pos hc] at e
        refine bd_el e fun ds h1 h2 => ?_
        obtain ⟨a, vs, rfl, pa, rs⟩ := of_lst am h1 p
        obtain ⟨y, g1, g2⟩ := rs.get h2
        obtain ⟨ops, hs⟩ := hs (.ref a) (.int i t')
        simp only [Bool.and_eq_true, decide_eq_true_eq] at hc
        exact tail_any pa.typ slot_list_getitem.lookup (wpAny_getItem_list pa.isList hc.1 (by unfold lim at hc; omega) (by simpa using g1) ⟨keeps_refl _, g2⟩) hs
      · rw [if_neg hc] at e
        obtain ⟨hc, e⟩ := if_is e
        obtain rfl : i = -1 := eq_of_beq hc
        refine bd_el e fun ds h1 h2 => ?_
        obtain ⟨a, vs, rfl, pa, rs⟩ := of_lst am h1 p
        obtain ⟨_, h2⟩ := getLast_get h2
        obtain ⟨y, g1, g2⟩ := rs.get h2
        obtain ⟨ops, hs⟩ := hs (.ref a) (.int (-1) t')
        refine tail_any pa.typ slot_list_getitem.lookup (getItem_last pa (x := y) ?_ ⟨keeps_refl _, g2⟩) hs
        rw [List.getLast?_eq_getElem?, rs.length]; exact g1
    cases x with
    | str z =>
      obtain ⟨t, rfl⟩ := of_str p
      obtain ⟨hc, e⟩ := if_is e
      simp only [Bool.and_eq_true, decide_eq_true_eq] at hc
      refine mp_el (P := fun d => wpAny _ _ _ (Is ad s d) _ _) e fun c h1 => ?_
      obtain ⟨ops, hs⟩ := hs (.str z t) (.int i t')
      refine tail_any (typeIs_str _ _ _) F.slot_str_getitem.lookup (SB.getItem (by unfold fitsSsize; unfold lim at hc; simp; omega) (by rw [h1]; rfl) ?_) hs
      have e2 : Txt.item z i = ⟨#[c]⟩ := by unfold Txt.item; rw [h1]; rfl
      rw [e2]
      exact ⟨keeps_tok _ _, rep_str⟩
    | _ => exact hd e
  | _ => cases e
end
end Mine
end
section
namespace Mine
theorem pick_min {α : Type} (l : List α) (a b : Nat) : (l.drop (min a l.length)).take (min b l.length - min a l.length) = (l.take b).drop a := by
  rw [List.drop_take]
  rcases Nat.le_total a l.length with h | h
  · rw [Nat.min_eq_left h]
    refine List.take_eq_take_iff.mpr ?_
    rw [List.length_drop, ← Nat.sub_min_sub_right, Nat.min_assoc, Nat.min_self]
  · rw [Nat.min_eq_right h, List.drop_eq_nil_of_le (Nat.le_refl _), List.drop_eq_nil_of_le h, List.take_nil, List.take_nil]
theorem clip_lo {n : Nat} (lo : Option Int) (h : 0 ≤ lo.getD 0) : lo.elim 0 (clipAt n) = min (lo.getD 0).toNat n := by
  cases lo with
  | none => exact (Nat.zero_min n).symm
  | some a =>
    obtain ⟨k, rfl⟩ := Int.eq_ofNat_of_zero_le h
    exact clipAt_nat n k
theorem clip_hi {n : Nat} (hi : Option Int) (h : 0 ≤ hi.getD 0) : hi.elim n (clipAt n) = min ((hi.map Int.toNat).getD n) n := by
  cases hi with
  | none => exact (Nat.min_self n).symm
  | some a =>
    obtain ⟨k, rfl⟩ := Int.eq_ofNat_of_zero_le h
    exact clipAt_nat n k
theorem slicePick_nat (vs : List Value) (lo hi : Option Int) (h0 : 0 ≤ lo.getD 0) (h1 : 0 ≤ hi.getD 0) :
    slicePick vs.toArray lo hi none = ((vs.take ((hi.map Int.toNat).getD vs.length)).drop (lo.getD 0).toNat).toArray := by
  rw [slicePick_plain, List.size_toArray, List.toList_toArray, clip_lo lo h0, clip_hi hi h1, pick_min]
theorem Reps.pick {ad : Ad} {h : Heap} {ds : List D} {vs : List Value} (r : Reps ad h ds vs) : ∀ (is : List Nat), Reps ad h (is.filterMap (ds[·]?)) (is.filterMap (vs[·]?))
  | [] => Reps.nil
  | i :: is => by
    have ih := Reps.pick r is
    cases e : ds[i]? with
    | none =>
      have e' : vs[i]? = none := by
        rw [List.getElem?_eq_none_iff] at e ⊢
        have := r.length; lia
      rw [List.filterMap_cons_none e, List.filterMap_cons_none e']; exact ih
    | some d =>
      obtain ⟨v, e', p⟩ := r.get e
      rw [List.filterMap_cons_some e, List.filterMap_cons_some e']; exact Reps.cons p ih
section
variable {w : World} {A : Around} {s : Shared} {base : Heap} {ad : Ad} {μ : List (List D)}
theorem of_optI {ad : Ad} {h : Heap} {d : D} {l : Option Int} {v : Value} (e : optI d = some l) (r : Rep ad h d v) : IsPart v l ∧ ∃ p : Option (Int × Tok), v = partValue p ∧ p.map (·.1) = l := by
  cases d with
  | none => simp only [optI, Option.some.injEq] at e; subst e; rw [of_none r]; exact ⟨.none, none, rfl, rfl⟩
  | int i => simp only [optI, Option.some.injEq] at e; subst e; obtain ⟨t, rfl⟩ := of_int r; exact ⟨.int i t, some (i, t), rfl, rfl⟩
  | _ => simp [optI] at e
theorem str_slice {x : Str} {t : Tok} {a : Addr} {p1 p2 : Option (Int × Tok)} {Q : Value → Shared → Prop} {E : Value → Shared → Prop} (hs : s.heap.get? a = some { cls := .type "slice", data := .fields #[partValue p1, partValue p2, .none] })
    (hsz : x.length ≤ sizeLine) (h : ∀ t' k, Q (.str (Txt.slice x (p1.map (·.1)) (p2.map (·.1))) t') { s with toks := k }) : wpAny (model pg w) A (PySem.getItem (.str x t) (.ref a)) Q E s := by
  cases p1 with
  | none => cases p2 with
    | none => exact wpAny_getItem_str_slice (l := none) (u := none) (st := none) ⟨_, hs, rfl, rfl⟩ rfl (post_val_or_str ⟨Nat.le_trans (Txt.slice_le x _ _) hsz, fun t' k => h t' k⟩)
    | some q => exact wpAny_getItem_str_slice (l := none) (u := some (q.1, q.2)) (st := none) ⟨_, hs, rfl, rfl⟩ rfl (post_val_or_str ⟨Nat.le_trans (Txt.slice_le x _ _) hsz, fun t' k => h t' k⟩)
  | some p => cases p2 with
    | none => exact wpAny_getItem_str_slice (l := some (p.1, p.2)) (u := none) (st := none) ⟨_, hs, rfl, rfl⟩ rfl (post_val_or_str ⟨Nat.le_trans (Txt.slice_le x _ _) hsz, fun t' k => h t' k⟩)
    | some q => exact wpAny_getItem_str_slice (l := some (p.1, p.2)) (u := some (q.1, q.2)) (st := none) ⟨_, hs, rfl, rfl⟩ rfl (post_val_or_str ⟨Nat.le_trans (Txt.slice_le x _ _) hsz, fun t' k => h t' k⟩)
theorem isNn_is {d : D} (h : isNn d = true) : d = .none := by cases d <;> first | rfl | cases h
theorem slc_op (am : Amb base ad μ s.heap) {x lo hi st d : D} {v vl vh vk : Value} {sl : Addr} (e : slcD μ x lo hi st = some d) (p : Rep ad s.heap x v) (pl : Rep ad s.heap lo vl) (ph : Rep ad s.heap hi vh) (pk : Rep ad s.heap st vk)
    (hs : s.heap.get? sl = some { cls := .type "slice", data := .fields #[vl, vh, vk] }) : wpAny (model pg w) A (PySem.getItem v (.ref sl)) (Is ad s d) NoE s := by
  cases x with
  | str x =>
    cases st with
    | none =>
      obtain ⟨t, rfl⟩ := of_str p
      have := of_none pk; subst this
      cases h1 : optI lo with
      | none => simp only [slcD, h1] at e; cases e
      | some l => cases h2 : optI hi with
        | none => simp only [slcD, h1, h2] at e; cases e
        | some h =>
          simp only [slcD, h1, h2] at e
          obtain ⟨hc, e⟩ := if_is e
          cases e
          obtain ⟨_, p1, rfl, e1⟩ := of_optI h1 pl
          obtain ⟨_, p2, rfl, e2⟩ := of_optI h2 ph
          subst e1; subst e2
          exact str_slice hs (lim_line (of_decide_eq_true (and_l (and_l hc)))) fun t' k => ⟨keeps_tok _ _, rep_str⟩
    | _ => cases e
  | list ds =>
    obtain ⟨a, vs, rfl, _, pa, rs⟩ := of_list p
    cases st with
    | none =>
      have := of_none pk; subst this
      cases h1 : optI lo with
      | none => simp only [slcD, slcL, h1] at e; cases e
      | some l => cases h2 : optI hi with
        | none => simp only [slcD, slcL, h1, h2] at e; cases e
        | some h =>
          simp only [slcD, slcL, h1, h2] at e
          obtain ⟨hc, e⟩ := if_is e
          cases e
          refine wpAny_getItem_list_slice pa.isList ⟨_, hs, rfl, rfl⟩ (of_optI h1 pl).1 (of_optI h2 ph).1 .none (by simp) ?_ (by rw [List.size_toArray, rs.length]; exact lim_line (of_decide_eq_true (and_l (and_l (and_l (and_l hc))))))
          rw [slicePick_nat _ _ _ (of_decide_eq_true (and_r (and_l (and_l (and_l hc))))) (of_decide_eq_true (and_r (and_l hc)))]
          refine is_new am ?_
          rw [rs.length]
          exact (rs.take _).drop _
    | int j =>
      cases lo with
      | int k =>
        refine gd_el e fun ha e => ?_
        obtain ⟨hc, e⟩ := if_is e
        cases e
        obtain rfl : j = 9 := eq_of_beq (and_r ha)
        have := of_none (isNn_is (and_l ha) ▸ ph); subst this
        obtain ⟨t1, rfl⟩ := of_int pl
        obtain ⟨t2, rfl⟩ := of_int pk
        refine wpAny_getItem_list_slice pa.isList ⟨_, hs, rfl, rfl⟩ (.int _ _) .none (.int _ _) (by simp) ?_ (by rw [List.size_toArray, rs.length]; exact lim_line (of_decide_eq_true (and_l (and_l hc))))
        have hp : ∀ k, slicePick vs.toArray (some k) none (some 9) = ((everyI k vs.length).filterMap (vs[·]?)).toArray := fun k => by
          unfold slicePick everyI
          simp only [List.size_toArray, List.getElem?_toArray]
        rw [hp]
        refine is_new am ?_
        rw [rs.length]
        exact rs.pick _
      | _ => cases e
    | _ => cases e
  | _ => cases e
theorem isEmpty_eq {ds : List D} {vs : List Value} (l : vs.length = ds.length) : (!vs.toArray.isEmpty) = !ds.isEmpty := by
  cases ds <;> cases vs <;> simp_all
theorem truth_op (am : Amb base ad μ s.heap) {d : D} {b : Bool} {v : Value} (e : truthD μ d = some b) (p : Rep ad s.heap d v) :
    wpAny (model pg w) A (truthy v) (fun c s' => c = b ∧ Keeps s s') NoE s := by
  cases d with
  | none => simp only [truthD, Option.some.injEq] at e; subst e; rw [of_none p]; exact truthy_none ⟨rfl, keeps_refl _⟩
  | bool c => simp only [truthD, Option.some.injEq] at e; subst e; rw [of_bool p]; exact wpAny_truthy_bool ⟨rfl, keeps_refl _⟩
  | int i => simp only [truthD, Option.some.injEq] at e; subst e; obtain ⟨t, rfl⟩ := of_int p; exact PyProof.Rows.truthy_int ⟨rfl, keeps_refl _⟩
  | str x =>
    simp only [truthD] at e
    split at e
    · rename_i hc
      injection e with e; subst e; obtain ⟨t, rfl⟩ := of_str p
      unfold lim at hc
      refine PySem.P.truthy_str (by lia) ⟨?_, keeps_tok _ _⟩
      rw [Bool.eq_iff_iff]; simp
    · cases e
  | list ds =>
    simp only [truthD] at e
    split at e
    · rename_i hc
      injection e with e; subst e
      unfold lim at hc
      obtain ⟨a, vs, rfl, _, pa, rs⟩ := of_list p
      have l := rs.length
      exact wpAny_truthy_list pa.isList (by simp; lia) ⟨isEmpty_eq l, keeps_tok _ _⟩
    · cases e
  | ml i =>
    simp only [truthD] at e
    split at e
    · rename_i ds h1
      split at e
      · rename_i hc
        injection e with e; subst e
        unfold lim at hc
        obtain ⟨a, vs, rfl, pa, rs⟩ := of_lst am (by simpa only [lst] using h1) p
        have l := rs.length
        exact wpAny_truthy_list pa.isList (by simp; lia) ⟨isEmpty_eq l, keeps_tok _ _⟩
      · cases e
    · cases e
  | tup _ => simp [truthD] at e
  | bm _ => simp [truthD] at e
theorem minI_spec {xs : List Int} {m : Int} (e : minI xs = some m) {M : Int} (h1 : M ∈ xs) (h2 : ∀ a ∈ xs, M ≤ a) : M = m := by
  cases xs with
  | nil => cases h1
  | cons x r =>
    simp only [minI, Option.some.injEq] at e
    have key : ∀ (r : List Int) (x : Int), r.foldl min x ∈ x :: r ∧ ∀ a ∈ x :: r, r.foldl min x ≤ a := by
      intro r
      induction r with
      | nil => intro x; exact ⟨by simp, by simp⟩
      | cons y r ih =>
        intro x
        obtain ⟨i1, i2⟩ := ih (min x y)
        rw [List.foldl_cons]
        constructor
        · rcases List.mem_cons.mp i1 with h | h
          · rw [h]
            rcases (by lia : min x y = x ∨ min x y = y) with h | h <;> rw [h] <;> simp
          · simp [h]
        · intro a ha
          have hm := i2 (min x y) (by simp)
          rcases List.mem_cons.mp ha with rfl | ha
          · lia
          · rcases List.mem_cons.mp ha with rfl | ha
            · lia
            · exact i2 a (by simp [ha])
    obtain ⟨k1, k2⟩ := key r x
    rw [e] at k1 k2
    have := h2 m k1
    have := k2 M h1
    lia
theorem maxI_spec {xs : List Int} {m : Int} (e : maxI xs = some m) {M : Int} (h1 : M ∈ xs) (h2 : ∀ a ∈ xs, a ≤ M) : M = m := by
  cases xs with
  | nil => cases h1
  | cons x r =>
    simp only [maxI, Option.some.injEq] at e
    have key : ∀ (r : List Int) (x : Int), r.foldl max x ∈ x :: r ∧ ∀ a ∈ x :: r, a ≤ r.foldl max x := by
      intro r
      induction r with
      | nil => intro x; exact ⟨by simp, by simp⟩
      | cons y r ih =>
        intro x
        obtain ⟨i1, i2⟩ := ih (max x y)
        rw [List.foldl_cons]
        constructor
        · rcases List.mem_cons.mp i1 with h | h
          · rw [h]
            rcases (by lia : max x y = x ∨ max x y = y) with h | h <;> rw [h] <;> simp
          · simp [h]
        · intro a ha
          have hm := i2 (max x y) (by simp)
          rcases List.mem_cons.mp ha with rfl | ha
          · lia
          · rcases List.mem_cons.mp ha with rfl | ha
            · lia
            · exact i2 a (by simp [ha])
    obtain ⟨k1, k2⟩ := key r x
    rw [e] at k1 k2
    have := h2 m k1
    have := k2 M h1
    lia
theorem nonempty_of_some {α : Type} {xs : List Int} {m : Int} (e : minI xs = some m ∨ maxI xs = some m) : 0 < xs.length := by
  cases xs with
  | nil => rcases e with e | e <;> simp [minI, maxI] at e
  | cons x r => simp
theorem sum_op (hh : A.handled = none) {l : Addr} {vs : List Value} {xs : List Int} (hl : PL s.heap l vs) (hi : IntsAre vs xs) :
    wpAny (model pg w) A (call (.builtin "sum") [.ref l]) (Is ad s (.int xs.sum)) NoE s := by
  obtain ⟨ys, e⟩ := hi.allInts.items
  have hns : xs = ys.toList.map (·.1) := by rw [← hi.numsOf, ← nums_intItems, ← e]
  refine sum_intListG hh (by rw [← e]; exact hl.isList) fun h' tk t' hk => ⟨keeps_mk (KeptS.w hk), ?_⟩
  rw [preSum_eq, List.take_of_length_le (by simp), ← hns]
  exact rep_int
theorem min_op (hh : A.handled = none) {l : Addr} {vs : List Value} {xs : List Int} {m : Int} (hl : PL s.heap l vs) (hi : IntsAre vs xs) (em : minI xs = some m) :
    wpAny (model pg w) A (call (.builtin "min") [.ref l]) (Is ad s (.int m)) NoE s := by
  obtain ⟨ys, e⟩ := hi.allInts.items
  have hns : xs = ys.toList.map (·.1) := by rw [← hi.numsOf, ← nums_intItems, ← e]
  have hne := nonempty_of_some (α := Unit) (.inl em)
  have hsz : 0 < ys.size := by rw [hns, List.length_map, Array.length_toList] at hne; exact hne
  refine min_intList hh (by rw [← e]; exact hl.isList) hsz fun v h' tk hv hk => ⟨keeps_mk (KeptS.w hk), ?_⟩
  obtain ⟨t, rfl⟩ := intItems_at hv
  obtain ⟨h1, h2⟩ := argBest_lt (numAt ys) (ys.size - 1)
  have : numAt ys (argBest (fun i j => decide (numAt ys i < numAt ys j)) (ys.size - 1)) = m := by
    refine minI_spec em ?_ fun a ha => ?_
    · rw [hns, numAt_eq]; exact getD_mem (by rw [List.length_map, Array.length_toList]; lia)
    · rw [hns] at ha
      obtain ⟨j, hj, rfl⟩ := mem_getD ha
      rw [List.length_map, Array.length_toList] at hj
      rw [← numAt_eq]; exact h2 j (by lia)
  rw [this]; exact rep_int
theorem max_op (hh : A.handled = none) {l : Addr} {vs : List Value} {xs : List Int} {m : Int} (hl : PL s.heap l vs) (hi : IntsAre vs xs) (em : maxI xs = some m) :
    wpAny (model pg w) A (call (.builtin "max") [.ref l]) (Is ad s (.int m)) NoE s := by
  obtain ⟨ys, e⟩ := hi.allInts.items
  have hns : xs = ys.toList.map (·.1) := by rw [← hi.numsOf, ← nums_intItems, ← e]
  have hne := nonempty_of_some (α := Unit) (.inr em)
  have hsz : 0 < ys.size := by rw [hns, List.length_map, Array.length_toList] at hne; exact hne
  refine max_intList hh (by rw [← e]; exact hl.isList) hsz fun v h' tk hv hk => ⟨keeps_mk (KeptS.w hk), ?_⟩
  obtain ⟨t, rfl⟩ := intItems_at hv
  obtain ⟨h1, h2⟩ := argBest_gt (numAt ys) (ys.size - 1)
  have : numAt ys (argBest (fun i j => decide (numAt ys i > numAt ys j)) (ys.size - 1)) = m := by
    refine maxI_spec em ?_ fun a ha => ?_
    · rw [hns, numAt_eq]; exact getD_mem (by rw [List.length_map, Array.length_toList]; lia)
    · rw [hns] at ha
      obtain ⟨j, hj, rfl⟩ := mem_getD ha
      rw [List.length_map, Array.length_toList] at hj
      rw [← numAt_eq]; exact h2 j (by lia)
  rw [this]; exact rep_int
end
end Mine
end
section
namespace Mine
noncomputable def ad0 : Ad := ⟨[], ⟨[], []⟩⟩
structure Glo (base : Heap) : Prop where
  hi : ∀ L, base.get? L = none → 176 ≤ L
  g : base.Ns mainGlobals (mgB base)
  b : base.Ns builtinsNs (mbB base)
  gv : ∀ i x d, fi x gnames = some i → Gv[i]? = some d → ∃ v, (mgB base) x = some v ∧ Rep ad0 base d v
  bi : ∀ x f, bnames.lookup x = some f → (mgB base) x = none ∧ (mbB base) x = some (.builtin (bid f))
  int : (mgB base) ("int" : Str) = none ∧ (mbB base) ("int" : Str) = some (.type "int")
  rng : (mgB base) ("range" : Str) = none ∧ (mbB base) ("range" : Str) = some (.type "range")
  zip : (mgB base) ("zip" : Str) = none ∧ (mbB base) ("zip" : Str) = some (.type "zip")
  ixe : (mgB base) ("IndexError" : Str) = none ∧ (mbB base) ("IndexError" : Str) = some (.type "IndexError")
noncomputable def FnOK (w : World) (base : Heap) (n : Nat) (a : Addr) (f : List D → Option D) : Prop :=
  ∀ (A : Around) (s : Shared) (ad : Ad) (vs : List Value) (ds : List D) (d : D), AOK n A → A.frames = some ad.av.fs → FrF base s.heap ad.av.fs → Kept base s.heap → (∀ x ∈ ad.all, base.get? x = none ∧ ∃ o, s.heap.get? x = some o ∧ ∃ xs m, o.data = .seq xs m) → Reps ad s.heap ds vs → f ds = some d →
    wpAny (model pg w) A (call (.ref a) vs) (Is ad s d) NoE s
structure Wd (w : World) (base : Heap) (F : Nat → List D → Option D) (n : Nat) : Prop where
  glo : Glo base
  fns : ∀ k x, fi x fnames = some k → ∃ a o fd, (mgB base) x = some (.ref a) ∧ base.get? a = some o ∧ o.data = .func fd ∧ FnOK w base n a (F k)
noncomputable def isNewE (e : Expr) : Bool := e.ctorIdx == 8 || e.ctorIdx == 24
noncomputable abbrev IsN (ad : Ad) (s : Shared) (d : D) (e : Expr) : Value → Shared → Prop := fun v s' => Is ad s d v s' ∧ (isNewE e = true → ∃ a ds vs, v = .ref a ∧ d = .list ds ∧ s.heap.get? a = none ∧ PL s'.heap a vs ∧ Reps (ad.off a) s'.heap ds vs)
theorem IsN.old {ad : Ad} {s s' : Shared} {d : D} {e : Expr} {v : Value} (h : Is ad s d v s') (n : isNewE e = false) : IsN ad s d e v s' := ⟨h, fun q => by rw [n] at q; cases q⟩
noncomputable def plainArgs (es : List Expr) (env : Env) : List (Bool × Sem Value) := es.map fun e => (false, eval e env)
noncomputable def noStar : List Expr → Bool
  | [] => true
  | e :: r => e.ctorIdx != 22 && noStar r
theorem starEach_cons {env : Env} {e : Expr} {r : List Expr} (h : (e.ctorIdx != 22) = true) : starEach (e :: r) env = (false, eval e env) :: starEach r env := by
  cases e <;> first | rfl | cases h
theorem backTo_plain {pos : Pos} {env : Env} : ∀ {es : List Expr}, noStar es = true → backTo pos (starEach es env) = plainArgs es env
  | [], _ => rfl
  | e :: r, h => by
    rw [starEach_cons (and_l h)]
    exact congrArg ((false, eval e env) :: ·) (backTo_plain (and_r h))
theorem plainArgs_any (es : List Expr) (env : Env) : (plainArgs es env).any (·.1) = false := by
  induction es with
  | nil => rfl
  | cons e r ih => simp only [plainArgs, List.map_cons, List.any_cons, Bool.false_or] at ih ⊢; exact ih
section
variable {w : World} {base : Heap} {F : Nat → List D → Option D} {n : Nat} {A : Around} {ad : Ad} {μ : List (List D)}
structure Snd (w : World) (base : Heap) (F : Nat → List D → Option D) (A : Around) (ad : Ad) (μ : List (List D)) (m : Nat) : Prop where
  fr : A.frames = some ad.av.fs
  ex : ∀ (env : Env) (cx : List Str) (ρ : List (Option D)) (s : Shared) (e : Expr) (px : PX) (d : D), ER env cx ρ ad s.heap → Amb base ad μ s.heap → tr env.scope.names m cx e = some px → ev F μ ρ px = some d →
    wpAny (model pg w) A (eval e env) (IsN ad s d e) NoE s
  tru : ∀ (env : Env) (cx : List Str) (ρ : List (Option D)) (s : Shared) (e : Expr) (px : PX) (d : D) (b : Bool), ER env cx ρ ad s.heap → Amb base ad μ s.heap → tr env.scope.names m cx e = some px → ev F μ ρ px = some d → truthD μ d = some b →
    wpAny (model pg w) A (isTrue e env (eval e env)) (fun c s' => c = b ∧ Keeps s s') NoE s
  li : ∀ (env : Env) (cx : List Str) (ρ : List (Option D)) (s : Shared) (es : List Expr) (px : List PX) (ds : List D), ER env cx ρ ad s.heap → Amb base ad μ s.heap → trL env.scope.names m cx es = some px → evL F μ ρ px = some ds →
    wpAny (model pg w) A (spliced (plainArgs es env)) (fun vs s' => Keeps s s' ∧ Reps ad s'.heap ds vs) NoE s
  st : ∀ (nm : List (Str × NameKind)) (cx : List Str) (es : List Expr) (px : List PX), trL nm m cx es = some px → noStar es = true ∧ px.length = es.length
  op : ∀ (env : Env) (cx : List Str) (ρ : List (Option D)) (s : Shared) (e : Option Expr) (px : PX) (d : D), ER env cx ρ ad s.heap → Amb base ad μ s.heap → trO env.scope.names m cx e = some px → ev F μ ρ px = some d →
    wpAny (model pg w) A (valueOrNone (evalOpt e env)) (Is ad s d) NoE s
  an : ∀ (env : Env) (cx : List Str) (ρ : List (Option D)) (s : Shared) (es : List Expr) (px : List PX) (d : D) (pos : Pos), ER env cx ρ ad s.heap → Amb base ad μ s.heap → trL env.scope.names m cx es = some px → evAnd F μ ρ px = some d →
    wpAny (model pg w) A (boolOp pos .And (evalEach es env)) (Is ad s d) NoE s
  orr : ∀ (env : Env) (cx : List Str) (ρ : List (Option D)) (s : Shared) (es : List Expr) (px : List PX) (d : D) (pos : Pos), ER env cx ρ ad s.heap → Amb base ad μ s.heap → trL env.scope.names m cx es = some px → evOr F μ ρ px = some d →
    wpAny (model pg w) A (boolOp pos .Or (evalEach es env)) (Is ad s d) NoE s
  tan : ∀ (env : Env) (cx : List Str) (ρ : List (Option D)) (s : Shared) (es : List Expr) (px : List PX) (d : D) (b : Bool), ER env cx ρ ad s.heap → Amb base ad μ s.heap → trL env.scope.names m cx es = some px → evAnd F μ ρ px = some d → truthD μ d = some b →
    wpAny (model pg w) A (allTrue .And es env) (fun c s' => c = b ∧ Keeps s s') NoE s
  tor : ∀ (env : Env) (cx : List Str) (ρ : List (Option D)) (s : Shared) (es : List Expr) (px : List PX) (d : D) (b : Bool), ER env cx ρ ad s.heap → Amb base ad μ s.heap → trL env.scope.names m cx es = some px → evOr F μ ρ px = some d → truthD μ d = some b →
    wpAny (model pg w) A (allTrue .Or es env) (fun c s' => c = b ∧ Keeps s s') NoE s
theorem mono' {α : Type} {M : Model} {A : Around} {s : Shared} {t : Sem α} {Q Q' : α → Shared → Prop} {E : Value → Shared → Prop} (h : wpAny M A t Q NoE s) (hQ : ∀ a s, Q a s → Q' a s) : wpAny M A t Q' E s := wpAny_mono h hQ fun _ _ f => f.elim
theorem glob_name {env : Env} {cx : List Str} {ρ : List (Option D)} {s : Shared} {x : Str} {pos : Pos} {v : Value} {Q : Value → Shared → Prop} {E : Value → Shared → Prop} (gl : Glo base) (r : ER env cx ρ ad s.heap) (am : Amb base ad μ s.heap)
    (hn : plainName x = true) (hk : env.scope.names.lookup x = some .globalImplicit) (hv : (mgB base) x = some v) (h : Q v s) : wpAny (model pg w) A (eval (.Name x pos) env) Q E s :=
  Name_function_global r.kind hk (loadGlobal_global (by rw [r.glob]; exact am.keep.ns gl.g) hv h) (by unfold plainName at hn; simp only [Bool.and_eq_true, Bool.not_eq_true'] at hn; exact hn.1)
theorem boot_name {env : Env} {cx : List Str} {ρ : List (Option D)} {s : Shared} {x : Str} {pos : Pos} {v : Value} {Q : Value → Shared → Prop} {E : Value → Shared → Prop} (gl : Glo base) (r : ER env cx ρ ad s.heap) (am : Amb base ad μ s.heap)
    (hn : plainName x = true) (hk : env.scope.names.lookup x = some .globalImplicit) (hv : (mgB base) x = none ∧ (mbB base) x = some v) (h : Q v s) : wpAny (model pg w) A (eval (.Name x pos) env) Q E s :=
  Name_function_global r.kind hk (loadGlobal_builtin (by rw [r.glob]; exact am.keep.ns gl.g) hv.1 (by rw [r.bns]; exact am.keep.ns gl.b) hv.2 h) (by unfold plainName at hn; simp only [Bool.and_eq_true, Bool.not_eq_true'] at hn; exact hn.1)
theorem rep_base (am : Amb base ad μ h) {d : D} {v : Value} (r : Rep ad0 base d v) : Rep ad base d v := by
  have key : ∀ (d : D) (v : Value), Rep ad0 base d v → Rep ad base d v := by
    intro d
    induction d using D.rec (motive_2 := fun ds => ∀ vs, Reps ad0 base ds vs → Reps ad base ds vs) with
    | none => intro v r; simpa only [qRep0, qRep1, qRep2, qRep3, qRep4, qRep5, qRep6, qRep7] using r
    | bool b => intro v r; simpa only [qRep0, qRep1, qRep2, qRep3, qRep4, qRep5, qRep6, qRep7] using r
    | int b => intro v r; simpa only [qRep0, qRep1, qRep2, qRep3, qRep4, qRep5, qRep6, qRep7] using r
    | str b => intro v r; simpa only [qRep0, qRep1, qRep2, qRep3, qRep4, qRep5, qRep6, qRep7] using r
    | ml i => intro v r; simp [qRep0, qRep1, qRep2, qRep3, qRep4, qRep5, qRep6, qRep7, ad0] at r
    | bm i => intro v r; simp [qRep0, qRep1, qRep2, qRep3, qRep4, qRep5, qRep6, qRep7, ad0] at r
    | list ds ih =>
      intro v r
      obtain ⟨a, vs, rfl, _, pa, rs⟩ := of_list r
      refine rep_list (fun hm => ?_) pa (ih vs rs)
      obtain ⟨n, e⟩ := pa
      rw [am.new a hm] at e; cases e
    | tup ds ih =>
      intro v r
      obtain ⟨a, vs, rfl, _, pa, rs⟩ := of_tup r
      refine rep_tup (fun hm => ?_) pa (ih vs rs)
      obtain ⟨n, e⟩ := pa
      rw [am.new a hm] at e; cases e
    | nil => rename_i vs r; simpa only [qReps0, qReps1] using r
    | cons d ds ih1 ih2 =>
      rename_i vs r
      simp only [qReps0, qReps1] at r ⊢
      obtain ⟨v, w, e, p, q⟩ := r
      exact ⟨v, w, e, ih1 v p, ih2 w q⟩
  exact key d v r
end
end Mine
end
section
namespace Mine
section
variable {w : World} {base : Heap} {A : Around} {ad : Ad} {μ : List (List D)} {s : Shared}
theorem run_wp {α : Type} {cmp : Nat → Nat → (Bool → Shared → Prop) → Shared → Prop} {lt : Nat → Nat → Bool} {n : Nat} {s : Shared} (H : ∀ i j C, i < n → j < n → C (lt i j) s → cmp i j C s) : ∀ (t : KasT α) {a : α} {Q : α → Shared → Prop}, runC lt n t = some a → Q a s → t.kasWp cmp Q s
  | .ret a, b, Q, e, h => by
    simp only [qrunC0, qrunC1, Option.some.injEq] at e
    subst e; exact h
  | .ask i j k, b, Q, e, h => by
    simp only [qrunC0, qrunC1] at e
    split at e
    · rename_i hc
      exact H i j _ hc.1 hc.2 (run_wp H (k (lt i j)) e h)
    · cases e
theorem lt_key {l b : Addr} {vs ws : List Value} {xs ys : List Int} {Q : Bool → Shared → Prop} {E : Value → Shared → Prop} (hl : PL s.heap l vs) (hb : PL s.heap b ws) (h1 : IntsAre vs xs) (h2 : IntsAre ws ys) (hu : A.units < cLine)
    (h : Q (ltI xs ys) s) : wpAny (model pg w) A (keyLt' oneType' (.ref l) (.ref b)) Q E s := by
  obtain ⟨n, hl⟩ := hl
  obtain ⟨m, hb⟩ := hb
  rw [keyLt'_oneType, oneLt'_eq]
  simp -iota only [if_true]
  refine wpAny_bind (wpAny_cRoomFor hu ?_)
  refine wpAny_bind (wpAny_callSpecialIfBound?_slot ⟨_, hl, rfl⟩ F.slot_list_lt (call_meets F.slot_list_lt ⟨_, hl, rfl⟩ F.entry_list_lt (F.args_list_lt_2 _ _) (list_ltAt l b vs.toArray ws.toArray n m xs ys h1 h2) ⟨hl, hb, ?_⟩))
  exact wpAny_truthy_bool h
theorem reps_pick {ad : Ad} {h : Heap} {ds : List D} {vs : List Value} (r : Reps ad h ds vs) : ∀ {is : List Nat} {es : List D}, mapO (fun i => ds[i]?) is = some es → Reps ad h es (is.map fun i => vs.getD i Value.none)
  | [], es, e => by simp only [qmapO0, qmapO1, Option.some.injEq] at e; subst e; exact Reps.nil
  | i :: is, es, e => by
    simp only [qmapO0, qmapO1] at e
    split at e
    · cases e
    · split at e
      · cases e
      · rename_i d hd _ _ h2
        injection e with e; subst e
        obtain ⟨v, hv, rv⟩ := r.get hd
        have : vs.getD i Value.none = v := by simp [hv]
        rw [List.map_cons, this]
        exact Reps.cons rv (reps_pick r h2)
theorem sort_go {a : Addr} {n : Nat} {ds es : List D} {xss : List (List Int)} {vs : List Value} {P : PySem.Fin → Shared → Prop} {E : Value → Shared → Prop} (hA : A.units < cLine) (e : mapO intsL ds = some xss) (e2 : sortD xss ds = some es) (ho : s.heap.get? a = some (seqObj "list" vs.toArray n))
    (rs : ∀ h', (∀ b o, b ≠ a → s.heap.get? b = some o → h'.get? b = some o) → Reps ad h' ds vs)
    (h : ∀ h' ws, (∀ b o, b ≠ a → s.heap.get? b = some o → h'.get? b = some o) → PL h' a ws → Reps ad h' es ws → P (.done (.ret .none)) { s with heap := h' }) :
    wpAny (model pg w) A (Builtin.«list.sort» ⟨[.ref a], []⟩) P E s := by
  have ha : a < s.heap.objs.size := Heap.lt_size ho
  have s1 := Heap.SameBut.update s.heap a (Obj.mapSeq fun _ => (#[] : Array Value))
  obtain ⟨e1, ho1⟩ : ∃ e1, (s.heap.update a (Obj.mapSeq fun _ => (#[] : Array Value))).get? a = some (seqObj "list" #[] e1) := ⟨_, get?_update_seq ho fun _ => #[]⟩
  have hlen : vs.length = ds.length := (rs s.heap fun _ _ _ x => x).length
  have hz : vs.length < 64 := by
    unfold sortD at e2
    split at e2
    · omega
    · split at e2
      · omega
      · cases e2
  rw [list_sort_plain]
  refine wpAny_bind (listItems_at ho rfl ?_)
  refine wpAny_bind (listUpdate_at ho rfl ?_ (by rw [List.size_toArray, sizeLine_eq]; omega) (Nat.zero_le _))
  refine wpAny_bind (seqEpoch_at ho1 rfl ?_)
  refine wpAny_bind (wpAny_newTuple ?_ (by show vs.length ≤ _; rw [sizeLine_eq]; omega))
  refine wpAny_bind (wpAny_newList ?_ (Nat.zero_le _))
  refine wpAny_holding ?_
  obtain ⟨H, hH⟩ : ∃ H, H = ((s.heap.update a (Obj.mapSeq fun _ => (#[] : Array Value))).push (seqObj "tuple" vs.toArray 0)).push (seqObj "list" #[] 0) := ⟨_, rfl⟩
  have kH : ∀ b o, b ≠ a → s.heap.get? b = some o → H.get? b = some o := fun b o hb x => by
    rw [hH]
    exact Heap.get?_push_of_some _ (Heap.get?_push_of_some _ ((s1.2 b hb).trans x))
  have oH : H.get? a = some (seqObj "list" #[] e1) := by
    rw [hH]; exact Heap.get?_push_of_some _ (Heap.get?_push_of_some _ ho1)
  show wpAny (model pg w) A _ P E { s with heap := ((s.heap.update a (Obj.mapSeq fun _ => (#[] : Array Value))).push (seqObj "tuple" vs.toArray 0)).push (seqObj "list" #[] 0) }
  rw [← hH]
  dsimp only
  have endd : ∀ ws, (∀ h', (∀ b o, b ≠ a → s.heap.get? b = some o → h'.get? b = some o) → Reps ad h' es ws) → P (.done (.ret .none)) { s with heap := H.update a (Obj.mapSeq fun _ => List.toArray ws) } := fun ws rws => by
    have s2 := Heap.SameBut.update H a (Obj.mapSeq fun _ => List.toArray ws)
    have sk : ∀ b o, b ≠ a → s.heap.get? b = some o → (H.update a (Obj.mapSeq fun _ => List.toArray ws)).get? b = some o := fun b o hb x => (s2.2 b hb).trans (kH b o hb x)
    exact h _ ws sk ⟨_, get?_update_seq oH fun _ => List.toArray ws⟩ (rws _ sk)
  have hsz : vs.toArray.size = vs.length := by simp
  by_cases h2 : ds.length < 2
  · have h2' : vs.toArray.size < 2 := by omega
    have he : es = ds := by unfold sortD at e2; rw [if_pos h2] at e2; injection e2 with e2; exact e2.symm
    subst he
    rw [if_pos h2', if_pos h2']
    refine wpAny_bind (wpAny_pure ?_)
    rw [StateT.run_pure]
    refine wpAny_bind (wpAny_pure ?_)
    dsimp only
    have hout : (arrOf (SortSt.mk' general' (vs.toArray.zip vs.toArray) #[] 7 none)).map (·.2) = List.toArray vs := by
      show (pairsOf vs).map (·.2) = _
      apply Array.toList_inj.mp
      rw [Array.toList_map, pairsOf_toList]
      simp only [List.map_snd_zip (Nat.le_refl _)]
    rw [hout]
    refine wpAny_bind (seqEpoch_at oH rfl ?_)
    refine wpAny_bind (listUpdate_at oH rfl ?_ (Nat.zero_le _) (by rw [sizeLine_eq]; omega))
    simp only [bne_self_eq_false, Bool.false_eq_true, if_false]
    exact wpAny_pure (endd vs rs)
  · have h2' : ¬ vs.toArray.size < 2 := by omega
    unfold sortD at e2
    rw [if_neg h2, if_pos (by omega)] at e2
    obtain ⟨p, hp, e3⟩ := Option.bind_eq_some_iff.mp e2
    rw [if_neg h2', if_neg h2']
    have item : ∀ i, i < vs.length → ∃ l us, vs[i]? = some (Value.ref l) ∧ PL H l us ∧ IntsAre us (xss.getD i []) ∧ xss[i]?.isSome := by
      intro i hi
      have hi' : i < xss.length := by rw [mapO_length e]; omega
      obtain ⟨d, h1, h3⟩ := mapO_get e (List.getElem?_eq_getElem hi')
      obtain ⟨v, h4, h5⟩ := (rs H kH).get h1
      cases d <;> simp only [intsL, reduceCtorEq] at h3
      rename_i es'
      obtain ⟨l, us, rfl, _, pl, rr⟩ := of_list h5
      refine ⟨l, us, h4, pl, ?_, by simp [hi']⟩
      have := gInts_val h3 rr
      rw [List.getD_eq_getElem?_getD, List.getElem?_eq_getElem hi']
      exact this
    have tyH : ∀ v ∈ vs, Looks (model pg w) H (typeOf v) (Value.type "list") := by
      intro v hv
      obtain ⟨i, hi, rfl⟩ := List.mem_iff_getElem.mp hv
      obtain ⟨l, us, e1, q1, _, _⟩ := item i hi
      rw [List.getElem?_eq_getElem hi] at e1
      injection e1 with e1
      rw [e1]
      obtain ⟨_, q1⟩ := q1
      exact fun A Q E s k q => wpAny_typeOf (T := "list") ⟨_, k _ _ q1, rfl⟩ q
    refine wpAny_bind (kas_kind (by omega) tyH rfl rfl ?_)
    have est : SortSt.mk' oneType' (vs.toArray.zip vs.toArray) #[] 7 none = kas_st oneType' (pairsOf vs) (List.toArray (List.range vs.length)) := by
      have e := kas_range (pairsOf vs)
      rw [pairsOf_size] at e
      show SortSt.mk' oneType' (pairsOf vs) #[] 7 none = SortSt.mk' oneType' ((List.toArray (List.range vs.length)).map (kas_item (pairsOf vs))) #[] 7 none
      rw [e]
    have ask : (kas_sort vs.length).kasWp (kas_cmp pg w A oneType' (pairsOf vs)) (fun p' s' => p' = p ∧ s' = { s with heap := H }) { s with heap := H } := by
      rw [← kas_ask_eq]
      refine run_wp (lt := fun i j => ltI (xss.getD i []) (xss.getD j [])) (n := ds.length) (fun i j C hi hj hC => ?_) (kas_sort vs.length) (a := p) (by rw [hlen]; exact hp) ⟨rfl, rfl⟩
      obtain ⟨l, us, a1, a2, a3, _⟩ := item i (by omega)
      obtain ⟨l', us', b1, b2, b3, _⟩ := item j (by omega)
      unfold kas_ask
      rw [List.getD_eq_getElem?_getD, a1, List.getD_eq_getElem?_getD, b1]
      exact lt_key (s := { s with heap := H }) a2 b2 a3 b3 hA hC
    have run := kas_runs (E := E) (Q := fun _ st' s' => ∃ p' : Array Nat, p'.size = vs.length ∧ arrOf st' = p'.map (kas_item (pairsOf vs)) ∧ failedOf st' = none ∧ (p' = p ∧ s' = { s with heap := H }))
      (by omega) hz (fun p' st' s' a1 a2 a3 a4 => ⟨p', a1, a2, a3, a4⟩) ask
    rw [← est] at run
    refine wpAny_bind (wpAny_mono run ?_ fun _ _ e => e)
    rintro ⟨⟨⟩, st'⟩ s' ⟨p', hps, har, hf, rfl, rfl⟩
    dsimp only
    have hout : (arrOf st').map (·.2) = List.toArray (p'.toList.map fun i => vs.getD i Value.none) := by
      apply Array.toList_inj.mp
      rw [har, Array.map_map, Array.toList_map]
      exact List.map_congr_left fun i _ => by show (kas_item (pairsOf vs) i).2 = _; rw [kas_item_eq]
    have r3 : ∀ h', (∀ b o, b ≠ a → s.heap.get? b = some o → h'.get? b = some o) → Reps ad h' es (p'.toList.map fun i => vs.getD i Value.none) := fun h' q => reps_pick (rs h' q) e3
    have hl3 := mapO_length e3
    rw [hout]
    refine wpAny_bind (seqEpoch_at oH rfl ?_)
    refine wpAny_bind (listUpdate_at oH rfl ?_ (Nat.zero_le _) ?_)
    · rw [hf]
      simp only [bne_self_eq_false, Bool.false_eq_true, if_false]
      exact wpAny_pure (endd _ r3)
    · rw [List.size_toArray, List.length_map, Array.length_toList, hps, sizeLine_eq]; omega
theorem sorted_op (hA : AOK 1 A) (am : Amb base ad μ s.heap) {ds es : List D} {xss : List (List Int)} {v : Value} (e : mapO intsL ds = some xss) (e2 : sortD xss ds = some es) (p : Rep ad s.heap (.list ds) v) :
    wpAny (model pg w) A (call (.builtin "sorted") [v]) (Is ad s (.list es)) NoE s := by
  obtain ⟨l, vs, rfl, _, pl, rs⟩ := of_list p
  have hlen : vs.length = ds.length := rs.length
  have hz : vs.length < 64 := by
    unfold sortD at e2
    split at e2
    · omega
    · split at e2
      · omega
      · cases e2
  have hl := pl.isList
  refine Calls.call_function_entry kind_sorted plain_sorted entry_sorted (args_sorted1 _) ?_
  unfold Builtin.«sorted»
  refine wpAny_bind (m := checkCount "sorted" 1 1 _) (wpAny_pure ?_)
  refine wpAny_bind (collect_list hl ?_ (by rw [sizeLine_eq]; omega))
  refine wpAny_bind (wpAny_newList ?_ (by rw [sizeLine_eq]; omega))
  have hsz : ((s.heap.push (seqObj "list" #[] 0)).update s.heap.objs.size (Obj.mapSeq (· ++ vs.toArray))).objs.size = s.heap.objs.size + 1 := by
    rw [Heap.size_update, size_push']
  obtain ⟨H, hH⟩ : ∃ H, H = (((s.heap.push (seqObj "list" #[] 0)).update s.heap.objs.size (Obj.mapSeq (· ++ vs.toArray))).push (seqObj "list" vs.toArray 0)) := ⟨_, rfl⟩
  have hoL : H.get? (s.heap.objs.size + 1) = some (seqObj "list" vs.toArray 0) := by
    rw [hH, ← hsz]; exact Heap.get?_push_size _ rfl
  have keep : KeptS s.heap H := fun b o q => by
    have hlt : b < s.heap.objs.size := Heap.lt_size q
    rw [hH, Heap.get?_push_ne _ _ _ (by rw [hsz]; exact Nat.ne_of_lt (Nat.lt_succ_of_lt hlt)), Heap.get?_update_ne _ _ _ _ (Nat.ne_of_lt hlt), Heap.get?_push_ne _ _ _ (Nat.ne_of_lt hlt)]
    exact q
  show wpAny _ _ _ _ _ { s with heap := ((s.heap.push (seqObj "list" #[] 0)).update s.heap.objs.size (Obj.mapSeq (· ++ vs.toArray))).push (seqObj "list" vs.toArray 0) }
  rw [← hH, hsz]
  have off : ∀ h', (∀ b o, b ≠ s.heap.objs.size + 1 → H.get? b = some o → h'.get? b = some o) → Kept s.heap h' := fun h' q => KeptS.w fun b o x =>
    q b o (fun hb => absurd (hb ▸ Heap.lt_size x) (Nat.not_lt.mpr (Nat.le_succ _))) (keep b o x)
  refine wpAny_bind (wpAny_holding (wpAny_call_entry slot_list_sort ⟨_, hoL, rfl⟩ entry_list_sort (sort_go (ad := ad) (s := { s with heap := H }) ?_ e e2 hoL (fun h' q => rs.kept (off h' q)) fun h' ws q pl' r' => ⟨_, rfl, wpAny_pure ⟨_, rfl, ?_⟩⟩) (args_list_sort _)))
  · have := hA.un
    show A.units + 1 + 1 < cLine
    unfold cLine; omega
  · refine ⟨keeps_mk (off h' q), rep_list (am.fresh ?_) pl' r'⟩
    cases x : s.heap.get? (s.heap.objs.size + 1) with
    | none => rfl
    | some o => exact absurd (Heap.lt_size x) (Nat.not_lt.mpr (Nat.le_succ _))
end
end Mine
end
section
namespace Mine
theorem args_init3 (a b c : Value) : argsOk "object.__init__" ⟨[a, b, c], []⟩ := by
  unfold argsOk; rw [signature?_of (id := "object.__init__") (n := ['_', '_', 't', 'i', 'n', 'i', '_', '_']) (o := ['t', 'c', 'e', 'j', 'b', 'o']) (by kernel_rfl) F.owner_object]; kernel_rfl
theorem tcall_int2 (a b : Value) : checkTypeCall "int" ⟨[a, b], []⟩ = pure () := by kernel_rfl
theorem ncall_int2 (a b : Value) : checkBuiltinCall "int.__new__" ⟨[.type "int", a, b], []⟩ = pure () := by kernel_rfl
noncomputable def hxd (p : Nat) : Nat := if p < 10 then 48 + p else 55 + p
theorem hexv_is {a p : Nat} (h : hexv a = some p) : p < 16 ∧ a = hxd p := by
  unfold hexv at h
  by_cases c : (48 ≤ a && a ≤ 57) = true
  · rw [if_pos c] at h
    cases h
    have c1 := of_decide_eq_true (and_l c)
    have c2 := of_decide_eq_true (and_r c)
    have hp : a - 48 < 10 := by omega
    exact ⟨Nat.lt_of_lt_of_le hp (by decide), by unfold hxd; rw [if_pos hp]; omega⟩
  · rw [if_neg c] at h
    obtain ⟨c, h⟩ := if_is h
    cases h
    have c1 := of_decide_eq_true (and_l c)
    have c2 := of_decide_eq_true (and_r c)
    have hp : ¬ a - 55 < 10 := by omega
    exact ⟨by omega, by unfold hxd; rw [if_neg hp]; omega⟩
theorem num_all : (List.range 16).map (fun p => (List.range 16).map fun q => (int_private% "readNumeral") 0 16 [hxd p, hxd q]) = (List.range 16).map fun p => (List.range 16).map fun q => (int_private% "Numeral.value") ((p * 16 + q : Nat) : Int) := by kernel_rfl!
theorem seen_all : ((List.range 16).all fun p => (List.range 16).all fun q => ([hxd p, hxd q].takeWhile (· != 0)) == [hxd p, hxd q] && #[hxd p, hxd q].all (· < 128)) = true := by decide +kernel
theorem map_at {α : Type} {f g : Nat → α} {n k : Nat} (h : (List.range n).map f = (List.range n).map g) (hk : k < n) : f k = g k := List.map_inj_left.mp h k (List.mem_range.mpr hk)
theorem numeral_hex {a b p q : Nat} (ha : hexv a = some p) (hb : hexv b = some q) : (int_private% "readNumeral") 0 16 [a, b] = (int_private% "Numeral.value") ((p * 16 + q : Nat) : Int) := by
  obtain ⟨h1, rfl⟩ := hexv_is ha
  obtain ⟨h2, rfl⟩ := hexv_is hb
  exact map_at (map_at num_all h1) h2
theorem seen_hex {a b p q : Nat} (ha : hexv a = some p) (hb : hexv b = some q) : ([a, b].takeWhile (· != 0)) = [a, b] ∧ (#[a, b].all (· < 128)) = true := by
  obtain ⟨h1, rfl⟩ := hexv_is ha
  obtain ⟨h2, rfl⟩ := hexv_is hb
  have h := List.all_eq_true.mp (List.all_eq_true.mp seen_all _ (List.mem_range.mpr h1)) _ (List.mem_range.mpr h2)
  exact ⟨eq_of_beq (and_l h), and_r h⟩
theorem wp_text16 {M : Model} {A : Around} {E : Value → Shared → Prop} {s : Shared} {Q : Value → Shared → Prop} {v : Value} {text : List Nat} {n : Int}
    (hs : (text.takeWhile (· != 0)).length ≤ 640) (hr : (int_private% "readNumeral") 0 16 (text.takeWhile (· != 0)) = (int_private% "Numeral.value") n)
    (ha : ((text.takeWhile (· != 0)).length == text.length) = true) (h : Q (.int n s.toks) { s with toks := s.toks + 1 }) :
    wpAny M A ((int_private% "intFromText") v text 16) Q E s := by
  obtain ⟨hp, g, d, tk, os⟩ := s
  repeat (any_goals (first
    | assumption
    | (with_reducible refine wpAny_ite_true (decide_eq_true hs) ?_)
    | (with_reducible refine wpAny_ite_true (decide_eq_true ha) ?_)
    | wp_step))
  all_goals (try rw [hr])
  all_goals (try dsimp only)
  repeat (any_goals (first
    | assumption
    | (with_reducible refine wpAny_ite_true (decide_eq_true hs) ?_)
    | (with_reducible refine wpAny_ite_true (decide_eq_true ha) ?_)
    | wp_step))
structure Hid (p : Prop) : Prop where
  out : p
theorem wp_hex {M : Model} {A : Around} {E : Value → Shared → Prop} {s : Shared} {Q : Value → Shared → Prop} {v : Value} {a b : Nat} {n : Int} (h1 : (int_private% "readNumeral") 0 16 [a, b] = (int_private% "Numeral.value") n)
    (h2 : ([a, b].takeWhile (· != 0)) = [a, b] ∧ (#[a, b].all (· < 128)) = true) (h : Q (.int n s.toks) { s with toks := s.toks + 1 }) :
    wpAny M A ((int_private% "intFromText") v (if (({ cps := #[a, b] } : PySem.Str).cps.all fun x => decide (x < 128)) = true then ({ cps := #[a, b] } : PySem.Str).cps.toList else Unicode.numberText ({ cps := #[a, b] } : PySem.Str).cps.toList) (Int.toNat 16)) Q E s := by
  rw [if_pos h2.2]
  exact wp_text16 (text := [a, b]) (by rw [h2.1]; exact Nat.le_of_ble_eq_true rfl) (by rw [h2.1]; exact h1) (by rw [h2.1]; rfl) h
theorem gives_hex {a b : Nat} {u t : Tok} {p q : Nat} (ha : hexv a = some p) (hb : hexv b = some q) : Gives (Builtin.«int.__new__» ⟨[.type "int", .str ⟨#[a, b]⟩ u, .int 16 t], []⟩) (.int ((p * 16 + q : Nat) : Int)) :=
  .of_wp fun M A E s Q h => by
    obtain ⟨hp, g, d, tk, os⟩ := s
    have f1 := F.conv_sub_int
    have f2 := F.madeHere_int
    have hk := Hid.mk (And.intro (numeral_hex ha hb) (seen_hex ha hb))
    clear ha hb
    repeat (any_goals (first
      | assumption
      | ((with_reducible show wpAny _ _ ((int_private% "intFromText") _ _ _) _ _ _); refine wp_hex hk.out.1 hk.out.2 ?_)
      | wp_step))
    all_goals first | exact ⟨_, rfl, h⟩ | skip
section
variable {w : World} {base : Heap} {A : Around} {ad : Ad} {s : Shared}
theorem int2_op {x y d : D} {v u : Value} (e : int2D x y = some d) (p : Rep ad s.heap x v) (q : Rep ad s.heap y u) : wpAny (model pg w) A (call (.type "int") [v, u]) (Is ad s d) NoE s := by
  cases x with
  | str x =>
    cases y with
    | int j =>
      obtain ⟨t, rfl⟩ := of_str p
      obtain ⟨t', rfl⟩ := of_int q
      obtain ⟨hj, e⟩ := if_is e
      obtain rfl : j = 16 := eq_of_beq hj
      obtain ⟨⟨cs⟩⟩ := x
      refine mp_el (P := fun d => wpAny _ _ _ (Is ad s d) _ _) e fun n h => ?_
      have h : hex2 cs = some n := h
      match cs, h with
      | a :: b :: r, h =>
        refine bd_el h fun i hi h => bd_el h fun j hj h => ?_
        obtain ⟨hr, h⟩ := if_is h
        cases h
        obtain rfl := List.isEmpty_iff.mp hr
        exact callType_new F.called_int F.newNe_int (tcall_int2 _ _) (ncall_int2 _ _) (fun obj => args_init3 obj _ _) F.entry_int_new (gives_hex hi hj).meets (show (Made.int _).post _ s from ⟨rfl, keeps_tok _ _, rep_int⟩)
    | _ => cases e
  | _ => cases e
end
end Mine
end
section
namespace Mine
section
variable {w : World} {base : Heap} {A : Around} {ad : Ad} {μ : List (List D)} {s : Shared}
open Builtin Builtin.Str in
theorem lookup_tab {pr : Program} {l : Addr} {vs : List Value} {c : Nat} {y : Str} {t : Tok} {Q : Mapped → Shared → Prop} {E : Value → Shared → Prop} (hl : PL s.heap l vs) (hv : vs[c]? = some (.str y t)) (hc : c < 256) (h : ∀ tk, Q (.text y) { s with toks := tk }) :
    wpAny (model pr w) A (tableLookup (.ref l) c) Q E s := by
  unfold tableLookup
  refine wpAny_bind (wpAny_attempt (wpAny_bind (wpAny_mkInt ?_)))
  refine wpAny_getItem_list (x := .str y t) (s := { s with toks := _ }) hl.isList (by omega) (by omega) (by simpa using hv) ?_
  dsimp only
  refine wpAny_bind (wpAny_pure ?_)
  dsimp only
  refine wpAny_bind (wpAny_pure ?_)
  exact wpAny_pure (h _)
noncomputable def flP (ps : List Str) : List Nat := (ps.reverse.foldl (fun acc p => acc ++ p.cps) (#[] : Array Nat)).toList
theorem flP_cons (p : Str) (ps : List Str) : flP (p :: ps) = flP ps ++ p.cps.toList := by
  unfold flP; rw [List.reverse_cons, List.foldl_append]; simp
structure TrI (tab : List D) (r : List Nat) (s₀ : Shared) (rest : List Nat) (b : List Str × Nat × Bool × List (Nat × Option Nat) × Bool) (s : Shared) : Prop where
  sh : ∃ k, s = { s₀ with toks := k }
  dr : b.2.2.2.2 = false
  tx : ∃ r', trStr tab rest = some r' ∧ flP b.1 ++ r' = r
  len : (flP b.1).length = b.2.1
  tot : b.2.1 + 3 * rest.length ≤ 3000
  kn : ∀ c a, b.2.2.2.1.lookup c = some a → ∃ d, a = some d ∧ tab[c]? = some (.str ⟨#[d]⟩)
theorem tr_loop {M : Model} {A : Around} {E : Value → Shared → Prop} {tab : List D} {r cs : List Nat} {s₀ : Shared} {Q : (List Str × Nat × Bool × List (Nat × Option Nat) × Bool) → Shared → Prop} {fa : Bool} {k₀ : Nat}
    (f : Nat → (List Str × Nat × Bool × List (Nat × Option Nat) × Bool) → Sem (ForInStep (List Str × Nat × Bool × List (Nat × Option Nat) × Bool)))
    (turn : ∀ c rest pieces total fast known k y, tab[c]? = some (.str y) → total ≤ 3000 → (∀ c a, known.lookup c = some a → ∃ d, a = some d ∧ tab[c]? = some (.str ⟨#[d]⟩)) →
      (∀ z fl kn n k, z.cps = y.cps → n = y.length → (∀ c a, kn.lookup c = some a → ∃ d, a = some d ∧ tab[c]? = some (.str ⟨#[d]⟩)) → TrI tab r s₀ rest (z :: pieces, total + n, fl, kn, false) { s₀ with toks := k }) →
      wpAny M A (f c (pieces, total, fast, known, false)) (fun r' s' => match r' with | .yield b' => TrI tab r s₀ rest b' s' | .done b' => Q b' s') E { s₀ with toks := k })
    (fin : ∀ pieces total fast known k, flP pieces = r → (flP pieces).length = total → total ≤ 3000 → Q (pieces, total, fast, known, false) { s₀ with toks := k }) (e1 : trStr tab cs = some r) (hl : cs.length ≤ 1000) (hy : ∀ y, .str y ∈ tab → y.length ≤ 3) :
    wpAny M A (forIn cs.toArray ([], 0, fa, [], false) f) Q E { s₀ with toks := k₀ } := by
  refine MeetsSeq2.wpAny_forIn_array f (TrI tab r s₀) Q (fun c rest b s'' I => ?_) (fun b s'' I => ?_) _ _ ⟨⟨_, rfl⟩, rfl, ⟨r, by rw [List.toList_toArray]; exact e1, rfl⟩, rfl, by rw [List.toList_toArray]; dsimp only; omega, fun c a q => nomatch q⟩
  · obtain ⟨pieces, total, fast, known, drop⟩ := b
    obtain ⟨⟨k, rfl⟩, hd, ⟨r', q1, q2⟩, hl, ht, hk⟩ := I
    dsimp only at hd ht hl hk q2
    subst hd
    cases hy' : tab[c]? with
    | none => simp only [qtrStr0, qtrStr1, hy'] at q1; cases q1
    | some d => cases d with
      | str y =>
        simp only [qtrStr0, qtrStr1, hy'] at q1
        refine mp_el (P := fun r' => flP pieces ++ r' = r → _) q1 (fun r2 q3 q4 => ?_) q2
        have h3 := hy y (List.mem_of_getElem? hy')
        rw [List.length_cons] at ht
        refine wpAny_mono (turn c rest pieces total fast known k y hy' (by omega) hk fun z fl kn n k hz hn hkn => ⟨⟨_, rfl⟩, rfl, ⟨r2, q3, ?_⟩, ?_, ?_, hkn⟩) (fun r' s' q => by cases r' <;> exact q) (fun _ _ q => q)
        · dsimp only
          rw [flP_cons, hz, List.append_assoc]; exact q4
        · dsimp only
          rw [flP_cons, hz, List.length_append, hl, hn]; rfl
        · dsimp only; omega
      | _ => simp only [qtrStr0, qtrStr1, hy'] at q1; cases q1
  · obtain ⟨pieces, total, fast, known, drop⟩ := b
    obtain ⟨⟨k, rfl⟩, hd, ⟨r', q1, q2⟩, hl, ht, hk⟩ := I
    dsimp only at hd ht hl hk q2
    subst hd
    cases q1
    rw [List.append_nil] at q2
    exact fin pieces total fast known k q2 hl (by rw [List.length_nil] at ht; omega)
theorem shrt_is {d : D} (h : shrt d = true) {y : Str} (e : d = .str y) : y.length ≤ 3 := by subst e; exact of_decide_eq_true h
theorem one_sign {y : Str} (h : (y.length == 1) = true) : ∃ d, y = ⟨#[d]⟩ := by
  obtain ⟨⟨ys⟩⟩ := y
  have h1 : ys.length = 1 := eq_of_beq h
  match ys, h1 with
  | [d], _ => exact ⟨d, rfl⟩
theorem not_long {n : Nat} (h : n ≤ 3000) : Builtin.Str.tooLong n = false := by
  unfold Builtin.Str.tooLong; rw [decide_eq_false_iff_not, sizeLine_eq]; omega
theorem tr_flat {ps : List Str} {r : List Nat} (h : flP ps = r) : (ps.reverse.foldl (fun acc p => acc ++ p.cps) (#[] : Array Nat)) = r.toArray := Array.toList_inj.mp (by rw [List.toList_toArray]; exact h)
theorem wp_neg {α : Type} {M : Model} {A : Around} {c : Bool} {x y : Sem α} {Q : α → Shared → Prop} {E : Value → Shared → Prop} {s : Shared} (h : c = false) (k : wpAny M A y Q E s) : wpAny M A (if c = true then x else y) Q E s := by
  subst h; exact k
theorem wp_pos {α : Type} {M : Model} {A : Around} {c : Bool} {x y : Sem α} {Q : α → Shared → Prop} {E : Value → Shared → Prop} {s : Shared} (h : c = true) (k : wpAny M A x Q E s) : wpAny M A (if c = true then x else y) Q E s := by
  subst h; exact k
theorem trans_op (am : Amb base ad μ s.heap) (hA : AOK 1 A) {x y d : D} {v u : Value} (e : transD x y = some d) (p : Rep ad s.heap x v) (q : Rep ad s.heap y u) :
    wpAny (model pg w) A (call (.builtin "str.translate") [v, u]) (Is ad s d) NoE s := by
  cases x with
  | str x =>
    cases y with
    | list tab =>
      obtain ⟨t, rfl⟩ := of_str p
      obtain ⟨l, vs, rfl, _, pl, rs⟩ := of_list q
      obtain ⟨hc, e⟩ := if_is e
      refine mp_el (P := fun d => wpAny _ _ _ (Is ad s d) _ _) e fun r e1 => ?_
      have hx := of_decide_eq_true (and_l (and_l (and_l hc)))
      have h0 := of_decide_eq_true (and_r (and_l (and_l hc)))
      have htab : tab.length = 256 := eq_of_beq (and_r (and_l hc))
      have hsh := List.all_eq_true.mp (and_r hc)
      have hsh' : ∀ y, .str y ∈ tab → y.length ≤ 3 := fun y m => shrt_is (hsh _ m) rfl
      refine call_meets F.slot_str_translate (typeIs_str _ _ _) F.entry_str_translate (F.args_str_translate_2 _ _) (S := fun A R s' => s' = s ∧ ∀ t k, R (.ok (.ret (.str ⟨r.toArray⟩ t))) { s with toks := k }) ?_ ⟨rfl, fun t k => ⟨keeps_tok _ _, rep_str⟩⟩
      refine .of_wp fun pg w A R s' h => ?_
      obtain ⟨rfl, h⟩ := h
      obtain ⟨⟨cs⟩⟩ := x
      refine wpAny_bind ?_
      show wpAny _ _ (pure _) _ _ _
      refine wpAny_pure (wp_neg (beq_false_of_ne (Nat.ne_of_gt h0)) ?_)
      refine wpAny_bind (tr_loop (tab := tab) (r := r) (cs := cs) (s₀ := s') (k₀ := s'.toks) _ (fun c rest pieces total fast known k y hy ht hk step => ?_) (fun pieces total fast known k e2 hl ht => ?_) e1 hx hsh')
      · refine wp_neg (not_long ht) ?_
        obtain ⟨v, hv, rv⟩ := rs.get hy
        obtain ⟨t', rfl⟩ := of_str rv
        have hcl : c < 256 := htab ▸ (List.getElem?_eq_some_iff.mp hy).1
        cases fast with
        | false =>
          exact wp_neg rfl (wpAny_bind (lookup_tab (s := { s' with toks := k }) pl hv hcl fun tk => wpAny_pure (step y false known _ tk rfl rfl hk)))
        | true =>
          refine wp_pos rfl ?_
          cases hkl : known.lookup c with
          | some a =>
            obtain ⟨d, rfl, hd⟩ := hk _ _ hkl
            rw [hy] at hd
            cases hd
            exact wpAny_bind (wpAny_pure (wpAny_pure (step _ _ _ _ _ rfl rfl hk)))
          | none =>
            refine wpAny_bind (lookup_tab (s := { s' with toks := k }) pl hv hcl fun tk => ?_)
            dsimp only
            cases hone : (y.length == 1 && y.cps.all fun x => decide (x < 128)) with
            | true =>
              simp only [if_true]
              obtain ⟨d, rfl⟩ := one_sign (and_l hone)
              refine wpAny_bind (wpAny_pure (wpAny_pure (step _ _ _ _ _ rfl rfl fun c' a' q => ?_)))
              rw [List.lookup_cons] at q
              cases hc' : c' == c with
              | true => rw [hc'] at q; cases q; obtain rfl := eq_of_beq hc'; exact ⟨d, rfl, hy⟩
              | false => rw [hc'] at q; exact hk _ _ q
            | false =>
              simp only [Bool.false_eq_true, if_false]
              refine wpAny_bind (wpAny_pure ?_)
              dsimp only
              exact wpAny_bind (wpAny_rule (wpAny_bind (lookup_tab (s := { s' with toks := tk }) pl hv hcl fun tk => wpAny_pure (step y false known _ tk rfl rfl hk))))
      · refine wp_neg (not_long ht) ?_
        rw [tr_flat e2]
        refine wpAny_bind (wpAny_mkStr (wpAny_pure ⟨_, rfl, h _ _⟩) ?_)
        show r.toArray.size ≤ _
        rw [List.size_toArray, sizeLine_eq, ← e2]; omega
    | _ => cases e
  | _ => cases e
end
end Mine
end
section
namespace Mine
section
variable {w : World} {base : Heap} {F : Nat → List D → Option D} {n : Nat} {A : Around} {ad : Ad} {μ : List (List D)} {s : Shared}
theorem lst0_is {x : D} {ds : List D} (h : lst0 x = some ds) : x = .list ds := by cases x <;> first | (cases h; done) | (cases h; rfl)
theorem b1_op (hA : AOK 1 A) (am : Amb base ad μ s.heap) {f : B1} {x d : D} {v : Value} (e : b1D μ f x = some d) (p : Rep ad s.heap x v) : wpAny (model pg w) A (call (.builtin (bid f)) [v]) (Is ad s d) NoE s := by
  cases f with
  | len =>
    have hd : (lst μ x).bind (fun ds => if ds.length ≤ lim then some (D.int ds.length) else none) = some d → wpAny (model pg w) A (call (.builtin "len") [v]) (Is ad s d) NoE s := fun e =>
      bd_el e fun ds h1 h2 => by
        obtain ⟨hc, h2⟩ := if_is h2
        cases h2
        obtain ⟨a, vs, rfl, pa, rs⟩ := of_lst am h1 p
        unfold lim at hc
        refine len_list pa.isList (by simp [rs.length]; omega) ⟨keeps_tok _ _, ?_⟩
        rw [List.size_toArray, rs.length]; exact rep_int
    cases x with
    | str x =>
      obtain ⟨t, rfl⟩ := of_str p
      obtain ⟨hc, e⟩ := if_is e
      cases e
      unfold lim at hc
      exact PyProof.Rows.len_str (by omega) ⟨keeps_tok _ _, rep_int⟩
    | _ => exact hd e
  | sum =>
    refine mp_el (P := fun d => wpAny _ _ _ (Is ad s d) _ _) e fun xs h1 => bd_el h1 fun ds h2 h3 => ?_
    obtain ⟨a, vs, rfl, pa, rs⟩ := of_lst am h2 p
    exact sum_op hA.hh pa (gInts_val h3 rs)
  | min =>
    refine mp_el (P := fun d => wpAny _ _ _ (Is ad s d) _ _) e fun m h1 => bd_el h1 fun ds h2 h3 => bd_el h3 fun xs h3 h4 => ?_
    obtain ⟨a, vs, rfl, _, pa, rs⟩ := of_list (lst0_is h2 ▸ p)
    exact min_op hA.hh pa (gInts_val h3 rs) h4
  | max =>
    refine mp_el (P := fun d => wpAny _ _ _ (Is ad s d) _ _) e fun m h1 => bd_el h1 fun ds h2 h3 => bd_el h3 fun xs h3 h4 => ?_
    obtain ⟨a, vs, rfl, _, pa, rs⟩ := of_list (lst0_is h2 ▸ p)
    exact max_op hA.hh pa (gInts_val h3 rs) h4
  | chr =>
    cases x with
    | int i =>
      obtain ⟨t, rfl⟩ := of_int p
      obtain ⟨hc, e⟩ := if_is e
      cases e
      exact chr_of_range (of_decide_eq_true (and_l hc)) (by have := of_decide_eq_true (and_r hc); omega) ⟨keeps_tok _ _, rep_str⟩
    | _ => cases e
  | sorted =>
    refine mp_el (P := fun d => wpAny _ _ _ (Is ad s d) _ _) e fun es h1 => bd_el h1 fun ds h2 h3 => bd_el h3 fun xss h3 h4 => ?_
    exact sorted_op hA am h3 h4 (lst0_is h2 ▸ p)
theorem gStrs_val {ad : Ad} {h : Heap} : ∀ {ds : List D} {xs : List Str} {vs : List Value}, gStrs ds = some xs → Reps ad h ds vs → StrsAre vs xs
  | [], xs, vs, e, r => by simp only [gStrs, qmapO0, qmapO1, Option.some.injEq] at e; subst e; simp only [qReps0, qReps1] at r; subst r; exact .nil
  | d :: ds, xs, vs, e, r => by
    simp only [gStrs, qmapO0, qmapO1] at e
    simp only [qReps0, qReps1] at r
    obtain ⟨v, r', rfl, p, q⟩ := r
    split at e
    · cases e
    · split at e
      · cases e
      · rename_i h1 _ _ h2
        injection e with e; subst e
        cases d <;> simp only [strD, Option.some.injEq, reduceCtorEq] at h1
        subst h1
        obtain ⟨t, rfl⟩ := of_str p
        exact .cons _ t (gStrs_val h2 q)
theorem reps_strs {ad : Ad} {h : Heap} : ∀ {vs : List Value} {xs : List Str}, StrsAre vs xs → Reps ad h (xs.map .str) vs
  | _, _, .nil => Reps.nil
  | _, _, .cons x t r => Reps.cons rep_str (reps_strs r)
noncomputable def mid : M1 → String
  | .join => "str.join" | .split => "str.split" | .endswith => "str.endswith"
noncomputable def m0id : M0 → String
  | .splitlines => "str.splitlines" | .rstrip => "str.rstrip"
theorem strs_values (l : List (Str × Tok)) : StrsAre (strValues l) (l.map (·.1)) := by
  induction l with
  | nil => exact .nil
  | cons p r ih => exact .cons p.1 p.2 ih
theorem new_strs (am : Amb base ad μ s.heap) {l : List (Str × Tok)} {xs : List Str} {k : Nat} (e : l.map (·.1) = xs) :
    Is ad s (.list (xs.map .str)) (.ref s.heap.objs.size) { s with heap := s.heap.push { cls := .type "list", data := .seq (strValues l).toArray }, toks := k } :=
  ⟨keeps_mk (Kept.push _ _), rep_list (am.fresh (fresh_size _)) (pl_push _ _) (by rw [← e]; exact (reps_strs (strs_values l)))⟩
theorem lines_op (am : Amb base ad μ s.heap) {x : Str} {t : Tok} (hsz : x.length ≤ 100000) : wpAny (model pg w) A (call (.builtin "str.splitlines") [.str x t]) (Is ad s (.list ((Txt.lines x).map .str))) NoE s := by
  have h2 := lineCuts_le x
  refine call_meets F.slot_str_splitlines (typeIs_str _ _ _) F.entry_str_splitlines (F.args_str_splitlines_1 _) (meets_str_splitlines x t (by rw [sizeLine_eq]; omega) (by rw [sizeLine_eq]; omega)) ?_
  cases hw : lineCuts x == [(0, x.length)]
  · simp only [Bool.false_eq_true, if_false]
    rw [strsFrom_eq]
    exact new_strs am ((numbered_texts _ _).trans (if_neg (ne_true_of_eq_false hw)).symm)
  · simp only [if_true]
    exact new_strs am (l := [(x, t)]) (k := s.toks) (if_pos hw).symm
open PySem.Builtin PySem.Builtin.Str in
theorem split_op (am : Amb base ad μ s.heap) {x y : Str} {t u : Tok} (hsz : x.length ≤ 100000) (hy : (y.length == 0) = false) : wpAny (model pg w) A (call (.builtin "str.split") [.str x t, .str y u]) (Is ad s (.list ((Txt.split x y).map .str))) NoE s := by
  have hn : (partsBetween x (occurrences x y 0 x.length (x.length + 1)) y.length).length ≤ sizeLine := by
    rw [length_partsBetween, sizeLine_eq]
    have e1 := StrLaws.occ_length_le x y 0 x.length (x.length + 1)
    omega
  cases h1 : (decide (x.length < y.length) || decide (strKind x < strKind y))
  · cases hf : (occurrences x y 0 x.length (x.length + 1)).isEmpty
    · refine call_meets F.slot_str_split (typeIs_str _ _ _) F.entry_str_split (F.args_str_split_2 _ _) (meets_str_split_sep x y t u h1 hy hf (by rw [sizeLine_eq]; omega) hn) ?_
      show wants _ _ _ { s with toks := _, heap := s.heap.push { cls := .type "list", data := .seq (strsFrom s.toks (partsBetween x (occurrences x y 0 x.length (x.length + 1)) y.length)).toArray } }
      rw [strsFrom_eq]
      exact new_strs am ((numbered_texts _ _).trans ((if_neg (ne_true_of_eq_false h1)).trans (if_neg (ne_true_of_eq_false hf))).symm)
    · exact call_meets F.slot_str_split (typeIs_str _ _ _) F.entry_str_split (F.args_str_split_2 _ _) (meets_str_split_not_found x y t u h1 hy hf)
        (new_strs am (l := [(x, t)]) (k := s.toks) ((if_neg (ne_true_of_eq_false h1)).trans (if_pos hf)).symm)
  · exact call_meets F.slot_str_split (typeIs_str _ _ _) F.entry_str_split (F.args_str_split_2 _ _) (meets_str_split_cannot_occur x y t u h1)
      (new_strs am (l := [(x, t)]) (k := s.toks) (if_pos h1).symm)
theorem sum_le {xs : List Str} {m : Nat} (h : (xs.all fun x => decide (x.length ≤ m)) = true) : (xs.map (·.length)).sum ≤ xs.length * m := by
  induction xs with
  | nil => simp
  | cons x r ih =>
    simp only [List.all_cons, Bool.and_eq_true, decide_eq_true_eq] at h
    have := ih h.2
    simp only [List.map_cons, List.sum_cons, List.length_cons, Nat.succ_mul]
    omega
theorem meth1_op (am : Amb base ad μ s.heap) {m : M1} {x y d : D} {v u : Value} (e : meth1D μ m x y = some d) (p : Rep ad s.heap x v) (q : Rep ad s.heap y u) :
    wpAny (model pg w) A (call (.builtin (mid m)) [v, u]) (Is ad s d) NoE s := by
  cases x with
  | str x =>
    obtain ⟨t, rfl⟩ := of_str p
    cases m with
    | join =>
      refine bd_el e fun xs h1 h2 => bd_el h1 fun ds h3 h4 => ?_
      obtain ⟨a, vs, rfl, pa, rs⟩ := of_lst am h3 q
      obtain ⟨hc, h2⟩ := if_is h2
      cases h2
      have hs := sum_le (and_r hc)
      have c1 := of_decide_eq_true (and_l (and_l hc))
      have c2 := of_decide_eq_true (and_r (and_l hc))
      refine join_list pa.isList (gStrs_val h4 rs) ?_ fun t' k => ⟨keeps_tok _ _, ?_⟩
      · have h5 := Nat.mul_le_mul c2 c1
        have h6 : xs.length * 1000 ≤ 1000 * 1000 := Nat.mul_le_mul_right _ c2
        omega
      · rw [show ∀ sep xs, Txt.join sep xs = Str.join sep xs from StrLaws.glued_eq_join]
        exact rep_str
    | split =>
      cases y with
      | str y =>
        obtain ⟨t', rfl⟩ := of_str q
        obtain ⟨hc, e⟩ := if_is e
        cases e
        exact split_op am (of_decide_eq_true (and_l hc)) (by have := of_decide_eq_true (and_r hc); simp; omega)
      | _ => cases e
    | endswith =>
      cases y with
      | str y =>
        obtain ⟨t', rfl⟩ := of_str q
        cases e
        exact SC.endswith ⟨keeps_refl _, rep_bool⟩
      | _ => cases e
  | _ => cases e
theorem meth0_op (am : Amb base ad μ s.heap) {m : M0} {x d : D} {v : Value} (e : meth0D m x = some d) (p : Rep ad s.heap x v) :
    wpAny (model pg w) A (call (.builtin (m0id m)) [v]) (Is ad s d) NoE s := by
  cases x with
  | str x =>
    obtain ⟨t, rfl⟩ := of_str p
    obtain ⟨hc, e⟩ := if_is e
    cases e
    cases m with
    | splitlines => exact lines_op am hc
    | rstrip => exact SC.rstrip (fun t' k => ⟨keeps_tok _ _, rep_str⟩) (lim_line hc)
  | _ => cases e
end
end Mine
end
section
namespace Mine
section
variable {w : World} {base : Heap} {F : Nat → List D → Option D} {n : Nat} {A : Around} {ad : Ad} {μ : List (List D)}
theorem ER.up {env : Env} {cx : List Str} {ρ : List (Option D)} {s s' : Shared} (r : ER env cx ρ ad s.heap) (k : Keeps s s') : ER env cx ρ ad s'.heap := r.kept (keeps_kept k)
theorem Amb.up {s s' : Shared} (r : Amb base ad μ s.heap) (k : Keeps s s') : Amb base ad μ s'.heap := r.kept (keeps_kept k)
theorem Rep.up {s s' : Shared} {d : D} {v : Value} (r : Rep ad s.heap d v) (k : Keeps s s') : Rep ad s'.heap d v := r.kept (keeps_kept k)
theorem Reps.up {s s' : Shared} {d : List D} {v : List Value} (r : Reps ad s.heap d v) (k : Keeps s s') : Reps ad s'.heap d v := r.kept (keeps_kept k)
theorem Is.after {s s₁ s₂ : Shared} {d : D} {v : Value} (k : Keeps s s₁) (h : Is ad s₁ d v s₂) : Is ad s d v s₂ := ⟨keeps_trans k h.1, h.2⟩
theorem call_args {env : Env} {s : Shared} {es : List Expr} {ds : List D} {f : Value} {Q : Args → Shared → Prop}
    (h : wpAny (model pg w) A (spliced (plainArgs es env)) (fun vs s' => Keeps s s' ∧ Reps ad s'.heap ds vs) NoE s) (hne : es ≠ []) (hQ : ∀ vs s', Keeps s s' → Reps ad s'.heap ds vs → Q ⟨vs, []⟩ s') :
    wpAny (model pg w) A (evalArgs f true (plainArgs es env) []) Q NoE s := by
  cases es with
  | nil => exact absurd rfl hne
  | cons e r => exact evalArgs_plain (mono' h fun vs s' q => hQ vs s' q.1 q.2)
theorem trL_cons {nm : List (Str × NameKind)} {m : Nat} {cx : List Str} {e : Expr} {r : List Expr} {px : List PX} (h : trL nm (m + 1) cx (e :: r) = some px) : ∃ p1 p2, tr nm m cx e = some p1 ∧ trL nm m cx r = some p2 ∧ px = p1 :: p2 :=
  bd_el (show ((TRn m).x nm cx e).bind (fun a => ((TRn m).l nm cx r).map fun b => a :: b) = some px from h) fun p1 h1 h => mp_el (P := fun px => ∃ p1 p2, tr nm m cx e = some p1 ∧ trL nm m cx r = some p2 ∧ px = p1 :: p2) h fun p2 h2 => ⟨p1, p2, h1, h2, rfl⟩
theorem noStar_of {nm : List (Str × NameKind)} {m : Nat} {cx : List Str} {e : Expr} {px : PX} (h : tr nm m cx e = some px) : ∀ r, noStar (e :: r) = noStar r := by
  cases shp h <;> exact fun _ => rfl
theorem snd_li (H : Snd w base F A ad μ m) {env : Env} {cx : List Str} {ρ : List (Option D)} {s : Shared} {es : List Expr} {px : List PX} {ds : List D} (r : ER env cx ρ ad s.heap) (am : Amb base ad μ s.heap)
    (ht : trL env.scope.names (m + 1) cx es = some px) (he : evL F μ ρ px = some ds) : wpAny (model pg w) A (spliced (plainArgs es env)) (fun vs s' => Keeps s s' ∧ Reps ad s'.heap ds vs) NoE s := by
  cases es with
  | nil =>
    cases ht
    cases he
    exact spliced_nil ⟨keeps_refl _, Reps.nil⟩
  | cons e r' =>
    obtain ⟨p1, p2, h1, h2, rfl⟩ := trL_cons ht
    refine bd_el he fun d1 e1 he => bd_el he fun d2 e2 he => ?_
    cases he
    refine spliced_cons (mono' (H.ex env cx ρ s e p1 d1 r am h1 e1) fun v s₁ q => ?_)
    refine mono' (H.li env cx ρ s₁ r' p2 d2 (r.up q.1.1) (am.up q.1.1) h2 e2) fun vs s₂ q' => ?_
    exact ⟨keeps_trans q.1.1 q'.1, Reps.cons (q.1.2.up q'.1) q'.2⟩
theorem snd_st (H : Snd w base F A ad μ m) {nm : List (Str × NameKind)} {cx : List Str} {es : List Expr} {px : List PX} (ht : trL nm (m + 1) cx es = some px) : noStar es = true ∧ px.length = es.length := by
  cases es with
  | nil => cases ht; exact ⟨rfl, rfl⟩
  | cons e r' =>
    obtain ⟨p1, p2, h1, h2, rfl⟩ := trL_cons ht
    have := H.st nm cx r' p2 h2
    exact ⟨(noStar_of h1 r').trans this.1, congrArg (· + 1) this.2⟩
theorem snd_an (H : Snd w base F A ad μ m) {env : Env} {cx : List Str} {ρ : List (Option D)} {s : Shared} {es : List Expr} {px : List PX} {d : D} {pos : Pos} (r : ER env cx ρ ad s.heap) (am : Amb base ad μ s.heap)
    (ht : trL env.scope.names (m + 1) cx es = some px) (he : evAnd F μ ρ px = some d) : wpAny (model pg w) A (boolOp pos .And (evalEach es env)) (Is ad s d) NoE s := by
  cases es with
  | nil =>
    cases ht
    cases he
  | cons e r' =>
    obtain ⟨p1, p2, h1, h2, rfl⟩ := trL_cons ht
    have hlen := (H.st _ _ _ _ h2).2
    simp only [qevAnd0, qevAnd1] at he
    split at he
    · cases he
    · rename_i d1 e1
      cases r' with
      | nil =>
        have : p2 = [] := List.length_eq_zero_iff.mp hlen
        subst this
        simp only [Option.some.injEq] at he; subst he
        exact mono' (H.ex env cx ρ s e p1 d1 r am h1 e1) fun v s₁ q => q.1
      | cons e2 r2 =>
        cases p2 with
        | nil => simp at hlen
        | cons q2 qr =>
          simp only at he
          show wpAny _ _ (eval e env >>= fun v => standAt pos >>= fun _ => holding [v] (truthy v) >>= fun t => match BoolOp.And, t with | .And, false | .Or, true => pure v | _, _ => boolOp pos .And (evalEach (e2 :: r2) env)) _ _ _
          refine wpAny_bind (mono' (H.ex env cx ρ s e p1 d1 r am h1 e1) fun v s₁ q => ?_)
          refine wpAny_bind (wpAny_standAt (wpAny_bind (wpAny_holding ?_)))
          split at he
          · cases he
          · rename_i ht
            injection he with he; subst he
            refine mono' (truth_op (am.up q.1.1) ht q.1.2) fun c s₂ q2 => ?_
            obtain ⟨rfl, k⟩ := q2
            exact wpAny_pure ⟨keeps_trans q.1.1 k, q.1.2.up k⟩
          · rename_i ht
            refine mono' (truth_op (am.up q.1.1) ht q.1.2) fun c s₂ q2 => ?_
            obtain ⟨rfl, k⟩ := q2
            have k' := keeps_trans q.1.1 k
            exact mono' (H.an env cx ρ s₂ _ _ d pos (r.up k') (am.up k') h2 he) fun v s₃ q3 => q3.after k'
theorem snd_or (H : Snd w base F A ad μ m) {env : Env} {cx : List Str} {ρ : List (Option D)} {s : Shared} {es : List Expr} {px : List PX} {d : D} {pos : Pos} (r : ER env cx ρ ad s.heap) (am : Amb base ad μ s.heap)
    (ht : trL env.scope.names (m + 1) cx es = some px) (he : evOr F μ ρ px = some d) : wpAny (model pg w) A (boolOp pos .Or (evalEach es env)) (Is ad s d) NoE s := by
  cases es with
  | nil =>
    cases ht
    cases he
  | cons e r' =>
    obtain ⟨p1, p2, h1, h2, rfl⟩ := trL_cons ht
    have hlen := (H.st _ _ _ _ h2).2
    simp only [qevOr0, qevOr1] at he
    split at he
    · cases he
    · rename_i d1 e1
      cases r' with
      | nil =>
        have : p2 = [] := List.length_eq_zero_iff.mp hlen
        subst this
        simp only [Option.some.injEq] at he; subst he
        exact mono' (H.ex env cx ρ s e p1 d1 r am h1 e1) fun v s₁ q => q.1
      | cons e2 r2 =>
        cases p2 with
        | nil => simp at hlen
        | cons q2 qr =>
          simp only at he
          show wpAny _ _ (eval e env >>= fun v => standAt pos >>= fun _ => holding [v] (truthy v) >>= fun t => match BoolOp.Or, t with | .And, false | .Or, true => pure v | _, _ => boolOp pos .Or (evalEach (e2 :: r2) env)) _ _ _
          refine wpAny_bind (mono' (H.ex env cx ρ s e p1 d1 r am h1 e1) fun v s₁ q => ?_)
          refine wpAny_bind (wpAny_standAt (wpAny_bind (wpAny_holding ?_)))
          split at he
          · cases he
          · rename_i ht
            injection he with he; subst he
            refine mono' (truth_op (am.up q.1.1) ht q.1.2) fun c s₂ q2 => ?_
            obtain ⟨rfl, k⟩ := q2
            exact wpAny_pure ⟨keeps_trans q.1.1 k, q.1.2.up k⟩
          · rename_i ht
            refine mono' (truth_op (am.up q.1.1) ht q.1.2) fun c s₂ q2 => ?_
            obtain ⟨rfl, k⟩ := q2
            have k' := keeps_trans q.1.1 k
            exact mono' (H.orr env cx ρ s₂ _ _ d pos (r.up k') (am.up k') h2 he) fun v s₃ q3 => q3.after k'
theorem snd_tan (H : Snd w base F A ad μ m) {env : Env} {cx : List Str} {ρ : List (Option D)} {s : Shared} {es : List Expr} {px : List PX} {d : D} {b : Bool} (r : ER env cx ρ ad s.heap) (am : Amb base ad μ s.heap)
    (ht : trL env.scope.names (m + 1) cx es = some px) (he : evAnd F μ ρ px = some d) (hb : truthD μ d = some b) : wpAny (model pg w) A (allTrue .And es env) (fun c s' => c = b ∧ Keeps s s') NoE s := by
  cases es with
  | nil =>
    cases ht
    cases he
  | cons e r' =>
    obtain ⟨p1, p2, h1, h2, rfl⟩ := trL_cons ht
    have hlen := (H.st _ _ _ _ h2).2
    simp only [qevAnd0, qevAnd1] at he
    show wpAny _ _ (isTrue e env (eval e env) >>= fun t => match BoolOp.And, t with | .And, false => pure false | .Or, true => pure true | _, _ => allTrue .And r' env) _ _ _
    split at he
    · cases he
    · rename_i d1 e1
      cases r' with
      | nil =>
        have : p2 = [] := List.length_eq_zero_iff.mp hlen
        subst this
        simp only [Option.some.injEq] at he; subst he
        refine wpAny_bind (mono' (H.tru env cx ρ s e p1 d1 b r am h1 e1 hb) fun c s₁ q => ?_)
        obtain ⟨rfl, k⟩ := q
        cases c with
        | false => exact wpAny_pure ⟨rfl, k⟩
        | true => exact wpAny_pure ⟨rfl, k⟩
      | cons e2 r2 =>
        cases p2 with
        | nil => simp at hlen
        | cons q2 qr =>
          simp only at he
          split at he
          · cases he
          · rename_i ht
            injection he with he; subst he
            rw [ht] at hb; injection hb with hb; subst hb
            refine wpAny_bind (mono' (H.tru env cx ρ s e p1 d1 false r am h1 e1 ht) fun c s₁ q => ?_)
            obtain ⟨rfl, k⟩ := q
            exact wpAny_pure ⟨rfl, k⟩
          · rename_i ht
            refine wpAny_bind (mono' (H.tru env cx ρ s e p1 d1 true r am h1 e1 ht) fun c s₁ q => ?_)
            obtain ⟨rfl, k⟩ := q
            exact mono' (H.tan env cx ρ s₁ _ _ d b (r.up k) (am.up k) h2 he hb) fun c s₃ q3 => ⟨q3.1, keeps_trans k q3.2⟩
theorem snd_tor (H : Snd w base F A ad μ m) {env : Env} {cx : List Str} {ρ : List (Option D)} {s : Shared} {es : List Expr} {px : List PX} {d : D} {b : Bool} (r : ER env cx ρ ad s.heap) (am : Amb base ad μ s.heap)
    (ht : trL env.scope.names (m + 1) cx es = some px) (he : evOr F μ ρ px = some d) (hb : truthD μ d = some b) : wpAny (model pg w) A (allTrue .Or es env) (fun c s' => c = b ∧ Keeps s s') NoE s := by
  cases es with
  | nil =>
    cases ht
    cases he
  | cons e r' =>
    obtain ⟨p1, p2, h1, h2, rfl⟩ := trL_cons ht
    have hlen := (H.st _ _ _ _ h2).2
    simp only [qevOr0, qevOr1] at he
    show wpAny _ _ (isTrue e env (eval e env) >>= fun t => match BoolOp.Or, t with | .And, false => pure false | .Or, true => pure true | _, _ => allTrue .Or r' env) _ _ _
    split at he
    · cases he
    · rename_i d1 e1
      cases r' with
      | nil =>
        have : p2 = [] := List.length_eq_zero_iff.mp hlen
        subst this
        simp only [Option.some.injEq] at he; subst he
        refine wpAny_bind (mono' (H.tru env cx ρ s e p1 d1 b r am h1 e1 hb) fun c s₁ q => ?_)
        obtain ⟨rfl, k⟩ := q
        cases c with
        | false => exact wpAny_pure ⟨rfl, k⟩
        | true => exact wpAny_pure ⟨rfl, k⟩
      | cons e2 r2 =>
        cases p2 with
        | nil => simp at hlen
        | cons q2 qr =>
          simp only at he
          split at he
          · cases he
          · rename_i ht
            injection he with he; subst he
            rw [ht] at hb; injection hb with hb; subst hb
            refine wpAny_bind (mono' (H.tru env cx ρ s e p1 d1 true r am h1 e1 ht) fun c s₁ q => ?_)
            obtain ⟨rfl, k⟩ := q
            exact wpAny_pure ⟨rfl, k⟩
          · rename_i ht
            refine wpAny_bind (mono' (H.tru env cx ρ s e p1 d1 false r am h1 e1 ht) fun c s₁ q => ?_)
            obtain ⟨rfl, k⟩ := q
            exact mono' (H.tor env cx ρ s₁ _ _ d b (r.up k) (am.up k) h2 he hb) fun c s₃ q3 => ⟨q3.1, keeps_trans k q3.2⟩
theorem snd_op (H : Snd w base F A ad μ m) {env : Env} {cx : List Str} {ρ : List (Option D)} {s : Shared} {e : Option Expr} {px : PX} {d : D} (r : ER env cx ρ ad s.heap) (am : Amb base ad μ s.heap)
    (ht : trO env.scope.names (m + 1) cx e = some px) (he : ev F μ ρ px = some d) : wpAny (model pg w) A (valueOrNone (evalOpt e env)) (Is ad s d) NoE s := by
  cases e with
  | none =>
    cases ht
    cases he
    exact wpAny_pure ⟨keeps_refl _, rep_none⟩
  | some e => exact mono' (H.ex env cx ρ s _ px d r am ht he) fun v s₁ q => q.1
end
end Mine
end
section
namespace Mine
theorem kwE {env : Env} : keywordEach [] env = [] := rfl
section
variable {w : World} {base : Heap} {F : Nat → List D → Option D} {n : Nat} {A : Around} {ad : Ad} {μ : List (List D)}
theorem aok_units {n : Nat} (hA : AOK (n + 1) A) : A.units + 10 < cLine := by
  have := hA.un
  unfold cLine
  lia
theorem aok_one {n : Nat} (hA : AOK (n + 1) A) : AOK 1 A := hA.less (by lia)
theorem call_name {env : Env} {s : Shared} {f : Str} {p pos : Pos} {args : List Expr} {Q : Value → Shared → Prop} (hs : noStar args = true)
    (h : wpAny (model pg w) A (eval (.Name f p) env) (fun fv s₁ => wpAny (model pg w) A (callWith pos fv [] (plainArgs args env) []) Q NoE s₁) NoE s) : wpAny (model pg w) A (eval (.Call (.Name f p) args [] pos) env) Q NoE s :=
  Call_Name (backTo_plain hs) h
theorem ex_call {env : Env} {cx : List Str} {ρ : List (Option D)} {s : Shared} {f : Str} {p pos : Pos} {args : List Expr} {px : List PX} {ds : List D} {d : D} {k : Nat} (W : Wd w base F n) (hA : AOK (n + 1) A) (H : Snd w base F A ad μ m) (r : ER env cx ρ ad s.heap) (am : Amb base ad μ s.heap)
    (hn : plainName f = true) (hk : env.scope.names.lookup f = some .globalImplicit) (hf : fi f fnames = some k) (hne : args ≠ []) (ht : trL env.scope.names m cx args = some px) (he : evL F μ ρ px = some ds) (hd : F k ds = some d) :
    wpAny (model pg w) A (eval (.Call (.Name f p) args [] pos) env) (Is ad s d) NoE s := by
  obtain ⟨a, o, fd, h1, h2, h3, h4⟩ := W.fns k f hf
  refine call_name (H.st _ _ _ _ ht).1 (glob_name W.glo r am hn hk h1 (callWith_function (o := o) (fd := fd) ?_))
  refine call_args (H.li env cx ρ s args px ds r am ht he) hne fun vs s₁ k₁ rs => ⟨⟨?_, h3⟩, ?_⟩
  · exact (am.up k₁).keep.at h2 (fun _ _ q => by rw [h3] at q; cases q)
  · exact mono' (h4 A s₁ ad vs ds d (hA.less (by omega)) H.fr (am.up k₁).fr (am.up k₁).keep (fun x hx => ⟨am.new x hx, (am.up k₁).there x hx⟩) rs hd) fun v s₂ q => q.after k₁
theorem ex_b1 {env : Env} {cx : List Str} {ρ : List (Option D)} {s : Shared} {f : Str} {b : B1} {p pos : Pos} {a : Expr} {px : PX} {x d : D} (W : Wd w base F n) (hA : AOK (n + 1) A) (H : Snd w base F A ad μ m) (r : ER env cx ρ ad s.heap) (am : Amb base ad μ s.heap)
    (hn : plainName f = true) (hk : env.scope.names.lookup f = some .globalImplicit) (hf : bnames.lookup f = some b) (hst : noStar [a] = true) (ht : tr env.scope.names m cx a = some px) (he : ev F μ ρ px = some x) (hd : b1D μ b x = some d) :
    wpAny (model pg w) A (eval (.Call (.Name f p) [a] [] pos) env) (Is ad s d) NoE s := by
  refine call_name hst (boot_name W.glo r am hn hk (W.glo.bi f b hf) (callWith_builtin (plainArgs_any _ _) ?_))
  refine evalArgs_plain (spliced_cons (mono' (H.ex env cx ρ s a px x r am ht he) fun v s₁ q => spliced_nil ?_))
  exact mono' (b1_op (aok_one hA) (am.up q.1.1) hd q.1.2) fun v s₂ q' => q'.after q.1.1
theorem ex_int2 {env : Env} {cx : List Str} {ρ : List (Option D)} {s : Shared} {p pos : Pos} {a b : Expr} {px py : PX} {x y d : D} (W : Wd w base F n) (hA : AOK (n + 1) A) (H : Snd w base F A ad μ m) (r : ER env cx ρ ad s.heap) (am : Amb base ad μ s.heap)
    (hn : plainName ("int" : Str) = true) (hk : env.scope.names.lookup ("int" : Str) = some .globalImplicit) (hst : noStar [a, b] = true) (ht : tr env.scope.names m cx a = some px) (he : ev F μ ρ px = some x) (ht' : tr env.scope.names m cx b = some py) (he' : ev F μ ρ py = some y) (hd : int2D x y = some d) :
    wpAny (model pg w) A (eval (.Call (.Name ("int" : Str) p) [a, b] [] pos) env) (Is ad s d) NoE s := by
  refine call_name hst (boot_name W.glo r am hn hk W.glo.int (PyProof.Rows.callWith_type (plainArgs_any _ _) ?_))
  refine evalArgs_plain (spliced_cons (mono' (H.ex env cx ρ s a px x r am ht he) fun v s₁ q => ?_))
  refine spliced_cons (mono' (H.ex env cx ρ s₁ b py y (r.up q.1.1) (am.up q.1.1) ht' he') fun u s₂ q' => spliced_nil ?_)
  exact mono' (int2_op hd (q.1.2.up q'.1.1) q'.1.2) fun v s₃ q'' => q''.after (keeps_trans q.1.1 q'.1.1)
theorem meth_call {env : Env} {s : Shared} {o : Expr} {name : Str} {apos pos : Pos} {args : List Expr} {x : Str} {id : String} {Q : Value → Shared → Prop} (hst : noStar args = true) (hl : args.length < 5) (hline : (apos.endLine == pos.line) = true)
    (slot : Slot "str" name id) (ty : typeOf (.builtin id) = pure (.type "method_descriptor")) (ho : attributeBase o name env (eval o env) = eval o env)
    (h : wpAny (model pg w) A (eval o env) (fun ov s₁ => (∃ t, ov = .str x t) ∧ wpAny (model pg w) A (callWith pos (.builtin id) [ov] (plainArgs args env) []) Q NoE s₁) NoE s) :
    wpAny (model pg w) A (eval (.Call (.Attribute o name apos) args [] pos) env) Q NoE s := by
  refine wpAny_Call_method ho ?_ hline F.plainAttrs_str slot ty (mono' h fun ov s₁ q => ?_)
  · rw [backTo_plain hst]
    have : (plainArgs args env).all (fun x => !x.1) = true := by
      have := plainArgs_any args env
      rw [List.any_eq_false] at this
      rw [List.all_eq_true]
      intro y hy
      simpa using this y hy
    rw [this]
    simp [backToKw, kwE]
    omega
  · obtain ⟨⟨t, rfl⟩, q⟩ := q
    rw [backTo_plain hst]
    exact ⟨typeIs_str _ _ _, (fun _ e => nomatch e), q⟩
theorem attr_base {env : Env} {o : Expr} {name : Str} {nm : List (Str × NameKind)} {m : Nat} {cx : List Str} {px : PX} (ht : tr nm m cx o = some px) : attributeBase o name env (eval o env) = eval o env := by
  cases shp ht with
  | calln f q as p hf =>
    have hs : (f == ("super" : Str)) = false := by
      cases h : f == ("super" : Str) with
      | false => rfl
      | true => rw [eq_of_beq h] at hf; exact absurd hf (by decide +kernel)
    cases as with
    | cons _ _ => rfl
    | nil =>
      have hb : (f != ("super" : Str)) = true := by unfold bne; rw [hs]; rfl
      exact if_pos (by simp only [hb, Bool.true_or])
  | _ => rfl
theorem getItem_slice {env : Env} {cx : List Str} {ρ : List (Option D)} {s : Shared} {a : Expr} {lo hi st : Option Expr} {p pos : Pos} {pa pl ph pk : PX} {x l h k d : D} (H : Snd w base F A ad μ m) (r : ER env cx ρ ad s.heap) (am : Amb base ad μ s.heap)
    (ta : tr env.scope.names m cx a = some pa) (tl : trO env.scope.names m cx lo = some pl) (th : trO env.scope.names m cx hi = some ph) (tk : trO env.scope.names m cx st = some pk)
    (ea : ev F μ ρ pa = some x) (el : ev F μ ρ pl = some l) (eh : ev F μ ρ ph = some h) (ek : ev F μ ρ pk = some k) (hd : slcD μ x l h k = some d) :
    wpAny (model pg w) A (eval (.Subscript a (.Slice lo hi st p) pos) env) (Is ad s d) NoE s := by
  refine Subscript_ (mono' (H.ex env cx ρ s a pa x r am ta ea) fun v s₁ q => ?_)
  show wpAny _ _ (valueOrNone (evalOpt lo env) >>= fun vl => holding [vl] (valueOrNone (evalOpt hi env)) >>= fun vh => holding [vl, vh] (valueOrNone (evalOpt st env)) >>= fun vk => newFields "slice" [vl, vh, vk]) _ _ _
  have k1 := q.1.1
  refine wpAny_bind (mono' (H.op env cx ρ s₁ lo pl l (r.up k1) (am.up k1) tl el) fun vl s₂ q2 => ?_)
  have k2 := keeps_trans k1 q2.1
  refine wpAny_bind (wpAny_holding (mono' (H.op env cx ρ s₂ hi ph h (r.up k2) (am.up k2) th eh) fun vh s₃ q3 => ?_))
  have k3 := keeps_trans k2 q3.1
  refine wpAny_bind (wpAny_holding (mono' (H.op env cx ρ s₃ st pk k (r.up k3) (am.up k3) tk ek) fun vk s₄ q4 => ?_))
  have k4 := keeps_trans k3 q4.1
  refine wpAny_newObj_type ?_ (by show [vl, vh, vk].toArray.size ≤ _; simp [sizeLine_eq])
  have kp := keeps_push s₄ { cls := .type "slice", data := .fields [vl, vh, vk].toArray }
  have hv : Rep ad (s₄.heap.push { cls := .type "slice", data := .fields [vl, vh, vk].toArray }) x v := ((q.1.2.up (keeps_trans q2.1 (keeps_trans q3.1 q4.1))).up kp)
  obtain ⟨ops, hs⟩ : ∃ ops, subscripted (.Slice lo hi st p) false v (.ref s₄.heap.objs.size) = operate ops (PySem.getItem v (.ref s₄.heap.objs.size)) := subs _ _ _
  have key : wpAny (model pg w) A (PySem.getItem v (.ref s₄.heap.objs.size)) (Is ad s d) NoE { s₄ with heap := s₄.heap.push { cls := .type "slice", data := .fields [vl, vh, vk].toArray } } :=
    mono' (slc_op ((am.up k4).up kp) hd hv (((q2.2.up q3.1).up q4.1).up kp) ((q3.2.up q4.1).up kp) (q4.2.up kp) (Heap.get?_push_size _ rfl)) fun v' s₅ q5 => q5.after (keeps_trans k4 kp)
  cases x with
  | str y => obtain ⟨t, rfl⟩ := of_str hv; exact tail_any (typeIs_str _ _ _) PySem.F.slot_str_getitem.lookup key hs
  | list ds => obtain ⟨a', vs, rfl, _, pa', _⟩ := of_list hv; exact tail_any (PL.typ (s := { s₄ with heap := _ }) pa') slot_list_getitem.lookup key hs
  | _ => cases hd
end
end Mine
end
section
namespace Mine
section
variable {w : World} {base : Heap} {F : Nat → List D → Option D} {n : Nat} {A : Around} {ad : Ad} {μ : List (List D)}
theorem meth1_slot {name : Str} {b : M1} (h : mname.lookup name = some b) : Slot "str" name (mid b) ∧ typeOf (.builtin (mid b)) = pure (.type "method_descriptor") := by
  have := lookup_mem h
  simp only [mname, List.mem_cons, Prod.mk.injEq, List.not_mem_nil, or_false] at this
  rcases this with ⟨rfl, rfl⟩ | ⟨rfl, rfl⟩ | ⟨rfl, rfl⟩
  · exact ⟨F.slot_str_join, F.type_str_join⟩
  · exact ⟨F.slot_str_split, F.type_str_split⟩
  · exact ⟨F.slot_str_endswith, F.type_str_endswith⟩
theorem meth0_slot {name : Str} {b : M0} (h : m0name.lookup name = some b) : Slot "str" name (m0id b) ∧ typeOf (.builtin (m0id b)) = pure (.type "method_descriptor") := by
  have := lookup_mem h
  simp only [m0name, List.mem_cons, Prod.mk.injEq, List.not_mem_nil, or_false] at this
  rcases this with ⟨rfl, rfl⟩ | ⟨rfl, rfl⟩
  · exact ⟨F.slot_str_splitlines, F.type_str_splitlines⟩
  · exact ⟨F.slot_str_rstrip, F.type_str_rstrip⟩
theorem trans_slot : Slot "str" ("translate" : Str) "str.translate" ∧ typeOf (.builtin "str.translate") = pure (.type "method_descriptor") := ⟨F.slot_str_translate, F.type_str_translate⟩
theorem meth1_str {m : M1} {x y d : D} (h : meth1D μ m x y = some d) : ∃ z, x = .str z := by
  cases x <;> first | exact ⟨_, rfl⟩ | cases h
theorem meth0_str {m : M0} {x d : D} (h : meth0D m x = some d) : ∃ z, x = .str z := by
  cases x <;> first | exact ⟨_, rfl⟩ | cases h
theorem trans_str {x y d : D} (h : transD x y = some d) : ∃ z, x = .str z := by
  cases x <;> first | exact ⟨_, rfl⟩ | cases h
noncomputable def CompOK (w : World) (base : Heap) (F : Nat → List D → Option D) (A : Around) (ad : Ad) (μ : List (List D)) (m : Nat) : Prop :=
  ∀ (env : Env) (cx : List Str) (ρ : List (Option D)) (s : Shared) (elt : Expr) (gens : List Comprehension) (sc : Scope) (pos : Pos) (px : PX) (d : D), ER env cx ρ ad s.heap → Amb base ad μ s.heap → tr env.scope.names m cx (.ListComp elt gens sc pos) = some px → ev F μ ρ px = some d →
    wpAny (model pg w) A (eval (.ListComp elt gens sc pos) env) (IsN ad s d (.ListComp elt gens sc pos)) NoE s
theorem ev2_el {P : Prop} {ρ : List (Option D)} {a b : PX} {f : D → D → Option D} {d : D} (he : ((ev F μ ρ a).bind fun x => (ev F μ ρ b).bind fun y => f x y) = some d) (k : ∀ x y, ev F μ ρ a = some x → ev F μ ρ b = some y → f x y = some d → P) : P :=
  bd_el he fun x h1 he => bd_el he fun y h2 he => k x y h1 h2 he
theorem ev1_el {P : Prop} {ρ : List (Option D)} {a : PX} {f : D → Option D} {d : D} (he : (ev F μ ρ a).bind f = some d) (k : ∀ x, ev F μ ρ a = some x → f x = some d → P) : P := bd_el he k
theorem evL_el {P : Prop} {ρ : List (Option D)} {a : List PX} {f : List D → Option D} {d : D} (he : (evL F μ ρ a).bind f = some d) (k : ∀ x, evL F μ ρ a = some x → f x = some d → P) : P := bd_el he k
noncomputable abbrev XS (w : World) (F : Nat → List D → Option D) (A : Around) (ad : Ad) (μ : List (List D)) (env : Env) (ρ : List (Option D)) (s : Shared) (d : D) (px : PX) (e : Expr) : Prop := isNewE e = false ∧ (ev F μ ρ px = some d → wpAny (model pg w) A (eval e env) (Is ad s d) NoE s)
section
variable {env : Env} {cx : List Str} {ρ : List (Option D)} {s : Shared} {e : Expr} {px : PX} {d : D}
theorem xs_mk (hn : isNewE e = false) (h : ev F μ ρ px = some d → wpAny (model pg w) A (eval e env) (Is ad s d) NoE s) : XS w F A ad μ env ρ s d px e := ⟨hn, h⟩
theorem xs_two {C : Value → Value → Sem Value} (H : Snd w base F A ad μ m) (r : ER env cx ρ ad s.heap) (am : Amb base ad μ s.heap) {a b : Expr} {pa pb : PX} {x y : D} {Q : Value → Shared → Prop} (h1 : tr env.scope.names m cx a = some pa) (h2 : tr env.scope.names m cx b = some pb) (ex : ev F μ ρ pa = some x) (ey : ev F μ ρ pb = some y)
    (k : ∀ v u s₂, Keeps s s₂ → Amb base ad μ s₂.heap → Rep ad s₂.heap x v → Rep ad s₂.heap y u → wpAny (model pg w) A (C v u) Q NoE s₂) : wpAny (model pg w) A (eval a env) (fun v s₁ => wpAny (model pg w) A (eval b env) (fun u s₂ => wpAny (model pg w) A (C v u) Q NoE s₂) NoE s₁) NoE s :=
  mono' (H.ex env cx ρ s a pa x r am h1 ex) fun v s₁ q => mono' (H.ex env cx ρ s₁ b pb y (r.up q.1.1) (am.up q.1.1) h2 ey) fun u s₂ q' =>
    let k' := keeps_trans q.1.1 q'.1.1
    k v u s₂ k' (am.up k') (q.1.2.up q'.1.1) q'.1.2
theorem int_is {d : D} {j : Int} (h : intD d = some j) : d = .int j := by cases d <;> first | (cases h; done) | (cases h; rfl)
theorem s_lit (h : xLit e = some px) : XS w F A ad μ env ρ s d px e :=
  dConstant_el (P := fun e => XS w F A ad μ env ρ s d px e) h fun c k p h => by
    cases c with
    | none => cases h; exact xs_mk rfl fun he => by cases he; exact wpAny_pure ⟨keeps_refl _, rep_none⟩
    | bool b => cases h; exact xs_mk rfl fun he => by cases he; exact wpAny_pure ⟨keeps_refl _, rep_bool⟩
    | int i => cases h; exact xs_mk rfl fun he => by cases he; exact wpAny_mkInt ⟨keeps_tok _ _, rep_int⟩
    | str x => cases h; exact xs_mk rfl fun he => by cases he; exact fun Γ p _ => ⟨keeps_tok _ _, rep_str⟩
    | _ => cases h
theorem s_var (r : ER env cx ρ ad s.heap) (h : xVar cx e = some px) : XS w F A ad μ env ρ s d px e :=
  dName_el (P := fun e => XS w F A ad μ env ρ s d px e) h fun x p h => gd_el h fun hn h => mp_el (P := fun px => XS w F A ad μ env ρ s d px _) h fun i hi => xs_mk rfl fun he =>
    bd_el (show (ρ[i]?).bind id = some d from he) fun d' h1 h2 => by
      cases (show d' = some d from h2)
      obtain ⟨v, l, q⟩ := r.var _ i d hi h1
      exact l.name r.kind hn ⟨keeps_refl _, q⟩
theorem gl_is {f : Str} {nm : List (Str × NameKind)} (h : glN nm cx f = true) : plainName f = true ∧ nm.lookup f = some .globalImplicit := ⟨and_l (and_l h), eq_of_beq (and_r h)⟩
theorem s_glob (W : Wd w base F n) (r : ER env cx ρ ad s.heap) (am : Amb base ad μ s.heap) (h : xGlob env.scope.names cx e = some px) : XS w F A ad μ env ρ s d px e :=
  dName_el (P := fun e => XS w F A ad μ env ρ s d px e) h fun x p h => gd_el h fun hn h => mp_el (P := fun px => XS w F A ad μ env ρ s d px _) h fun i hi => xs_mk rfl fun he => by
    obtain ⟨v, h1, h2⟩ := W.glo.gv i _ d hi he
    exact glob_name W.glo r am (gl_is hn).1 (gl_is hn).2 h1 ⟨keeps_refl _, (rep_base am h2).kept am.keep⟩
theorem s_bin (H : Snd w base F A ad μ m) (r : ER env cx ρ ad s.heap) (am : Amb base ad μ s.heap) (h : xBin (tr env.scope.names m cx) e = some px) : XS w F A ad μ env ρ s d px e :=
  dBinOp_el (P := fun e => XS w F A ad μ env ρ s d px e) h fun l op r' p h => bd_el h fun pa h1 h => mp_el (P := fun px => XS w F A ad μ env ρ s d px _) h fun pb h2 => xs_mk rfl fun he => ev2_el (f := binD μ op) he fun x y ex ey he =>
    wpAny_BinOp (xs_two H r am h1 h2 ex ey fun v u s₂ k am' p q => mono' (bin_op am' he p q) fun v s₃ q'' => q''.after k)
theorem s_cmp (hA : AOK (n + 1) A) (H : Snd w base F A ad μ m) (r : ER env cx ρ ad s.heap) (am : Amb base ad μ s.heap) (h : xCmp (tr env.scope.names m cx) e = some px) : XS w F A ad μ env ρ s d px e :=
  dCompare_el (P := fun e => XS w F A ad μ env ρ s d px e) h fun l ops rs p h => bd_el h fun op o1 h => bd_el h fun r' o2 h => gd_el h fun hb h =>
    one_el (P := fun ops => XS w F A ad μ env ρ s d px (.Compare l ops rs p)) o1 (one_el (P := fun rs => XS w F A ad μ env ρ s d px (.Compare l [op] rs p)) o2
      (bd_el h fun pa h1 h => mp_el (P := fun px => XS w F A ad μ env ρ s d px _) h fun pb h2 => xs_mk rfl fun he => ev2_el (f := cmpD μ op) he fun x y ex ey he =>
        wpAny_Compare1 (xs_two H r am h1 h2 ex ey fun v u s₂ k am' p q => mono' (cmp_op (aok_units hA) he p q) fun v s₃ q'' => q''.after k) (by simpa using hb)))
theorem s_bool (H : Snd w base F A ad μ m) (r : ER env cx ρ ad s.heap) (am : Amb base ad μ s.heap) (h : xBool (trL env.scope.names m cx) e = some px) : XS w F A ad μ env ρ s d px e :=
  dBoolOp_el (P := fun e => XS w F A ad μ env ρ s d px e) h fun op es p h => mp_el (P := fun px => XS w F A ad μ env ρ s d px _) h fun ps h1 => xs_mk rfl fun he => by
    cases op with
    | And => exact H.an env cx ρ s _ ps d _ r am h1 he
    | Or => exact H.orr env cx ρ s _ ps d _ r am h1 he
theorem s_un (H : Snd w base F A ad μ m) (r : ER env cx ρ ad s.heap) (am : Amb base ad μ s.heap) (h : xUn (tr env.scope.names m cx) e = some px) : XS w F A ad μ env ρ s d px e :=
  dUnaryOp_el (P := fun e => XS w F A ad μ env ρ s d px e) h fun op a p h => bd_el h fun f hf h => mp_el (P := fun px => XS w F A ad μ env ρ s d px _) h fun pa h1 => xs_mk rfl fun he => by
    cases op with
    | Not =>
      cases hf
      refine ev1_el (f := fun x => (truthD μ x).map fun b => D.bool (!b)) he fun x ex he => mp_el (P := fun d => wpAny _ _ _ (Is ad s d) _ _) he fun b hb => ?_
      refine UnaryOp_ (mono' (H.ex env cx ρ s _ pa x r am h1 ex) fun v s₁ q => not_of (mono' (truth_op (am.up q.1.1) hb q.1.2) fun c s₂ q2 => ?_))
      obtain ⟨rfl, k⟩ := q2
      exact ⟨keeps_trans q.1.1 k, rep_bool⟩
    | USub =>
      cases hf
      refine ev1_el (f := fun x => (intD x).map fun i => D.int (-i)) he fun x ex he => mp_el (P := fun d => wpAny _ _ _ (Is ad s d) _ _) he fun i hi => ?_
      refine UnaryOp_ (mono' (H.ex env cx ρ s _ pa _ r am h1 ex) fun v s₁ q => ?_)
      obtain ⟨t, rfl⟩ := of_int (int_is hi ▸ q.1.2)
      exact PyProof.Rows.neg_int ⟨keeps_trans q.1.1 (keeps_tok _ _), rep_int⟩
    | _ => cases hf
theorem s_slc (H : Snd w base F A ad μ m) (r : ER env cx ρ ad s.heap) (am : Amb base ad μ s.heap) (h : xSlc (tr env.scope.names m cx) (trO env.scope.names m cx) e = some px) : XS w F A ad μ env ρ s d px e :=
  dSubscript_el (P := fun e => XS w F A ad μ env ρ s d px e) h fun a b p h => dSlice_el (P := fun b => XS w F A ad μ env ρ s d px (.Subscript a b p)) h fun lo hi st q h => bd_el h fun p1 h1 h => bd_el h fun p2 h2 h => bd_el h fun p3 h3 h =>
    mp_el (P := fun px => XS w F A ad μ env ρ s d px _) h fun p4 h4 => xs_mk rfl fun he => ev1_el (f := fun x => (ev F μ ρ p2).bind fun l => (ev F μ ρ p3).bind fun h => (ev F μ ρ p4).bind fun k => slcD μ x l h k) he fun x e1 he =>
      ev1_el (f := fun l => (ev F μ ρ p3).bind fun h => (ev F μ ρ p4).bind fun k => slcD μ x l h k) he fun l e2 he => ev2_el (f := fun h k => slcD μ x l h k) he fun h k e3 e4 he => getItem_slice H r am h1 h2 h3 h4 e1 e2 e3 e4 he
theorem s_idx (H : Snd w base F A ad μ m) (r : ER env cx ρ ad s.heap) (am : Amb base ad μ s.heap) (h : xIdx (tr env.scope.names m cx) e = some px) : XS w F A ad μ env ρ s d px e :=
  dSubscript_el (P := fun e => XS w F A ad μ env ρ s d px e) h fun a b p h => bd_el h fun pa h1 h => mp_el (P := fun px => XS w F A ad μ env ρ s d px _) h fun pb h2 => xs_mk rfl fun he => ev2_el (f := idxD μ) he fun x y ex ey he =>
    Subscript_ (xs_two H r am h1 h2 ex ey fun v u s₂ k am' p q => mono' (idx_op am' he p q) fun v s₃ q'' => q''.after k)
theorem s_tup (H : Snd w base F A ad μ m) (r : ER env cx ρ ad s.heap) (am : Amb base ad μ s.heap) (h : xTup (trL env.scope.names m cx) e = some px) : XS w F A ad μ env ρ s d px e :=
  dTuple_el (P := fun e => XS w F A ad μ env ρ s d px e) h fun es k p h => mp_el (P := fun px => XS w F A ad μ env ρ s d px _) h fun ps h1 => xs_mk rfl fun he => evL_el (f := fun ds => if ds.length ≤ lim then some (D.tup ds) else none) he fun ds e1 he => by
    obtain ⟨hlen, he⟩ := if_is he
    cases he
    refine Tuple_ ?_
    rw [backTo_plain (H.st _ _ _ _ h1).1]
    refine mono' (H.li env cx ρ s _ ps ds r am h1 e1) fun vs s₁ q => wpAny_newTuple ⟨keeps_trans q.1 (keeps_push _ _), ?_⟩ (by rw [q.2.length]; exact lim_line hlen)
    exact rep_tup ((am.up q.1).fresh (fresh_size _)) (pt_push _ _) (q.2.kept (Kept.push _ _))
theorem s_b1 (W : Wd w base F n) (hA : AOK (n + 1) A) (H : Snd w base F A ad μ m) (r : ER env cx ρ ad s.heap) (am : Amb base ad μ s.heap) (h : xB1 env.scope.names cx (tr env.scope.names m cx) e = some px) : XS w F A ad μ env ρ s d px e :=
  dCall_el (P := fun e => XS w F A ad μ env ρ s d px e) h fun f as kw p h => dName_el (P := fun f => XS w F A ad μ env ρ s d px (.Call f as kw p)) h fun f q h => gd_el h fun hc h => bd_el h fun b hb h => bd_el h fun a ha h =>
    em_el (P := fun kw => XS w F A ad μ env ρ s d px (.Call (.Name f q) as kw p)) (and_l hc) (one_el (P := fun as => XS w F A ad μ env ρ s d px (.Call (.Name f q) as [] p)) ha
      (mp_el (P := fun px => XS w F A ad μ env ρ s d px _) h fun pa h1 => xs_mk rfl fun he => ev1_el (f := b1D μ b) he fun x ex he => ex_b1 W hA H r am (gl_is (and_r hc)).1 (gl_is (and_r hc)).2 hb (noStar_of h1 []) h1 ex he))
theorem s_int (W : Wd w base F n) (hA : AOK (n + 1) A) (H : Snd w base F A ad μ m) (r : ER env cx ρ ad s.heap) (am : Amb base ad μ s.heap) (h : xInt env.scope.names cx (tr env.scope.names m cx) e = some px) : XS w F A ad μ env ρ s d px e :=
  dCall_el (P := fun e => XS w F A ad μ env ρ s d px e) h fun f as kw p h => dName_el (P := fun f => XS w F A ad μ env ρ s d px (.Call f as kw p)) h fun f q h => gd_el h fun hc h => two_el (P := fun as px => XS w F A ad μ env ρ s d px (.Call (.Name f q) as kw p)) h fun a b pa pb h1 h2 =>
    em_el (P := fun kw => XS w F A ad μ env ρ s d (.int2 pa pb) (.Call (.Name f q) [a, b] kw p)) (and_l (and_l hc)) (xs_mk rfl fun he => ev2_el (f := int2D) he fun x y ex ey he => by
      have hf : f = ("int" : Str) := eq_of_beq (and_r hc)
      subst hf
      exact ex_int2 W hA H r am (gl_is (and_r (and_l hc))).1 (gl_is (and_r (and_l hc))).2 ((noStar_of h1 _).trans (noStar_of h2 [])) h1 ex h2 ey he)
theorem s_fn (W : Wd w base F n) (hA : AOK (n + 1) A) (H : Snd w base F A ad μ m) (r : ER env cx ρ ad s.heap) (am : Amb base ad μ s.heap) (h : xFn env.scope.names cx (trL env.scope.names m cx) e = some px) : XS w F A ad μ env ρ s d px e :=
  dCall_el (P := fun e => XS w F A ad μ env ρ s d px e) h fun f as kw p h => dName_el (P := fun f => XS w F A ad μ env ρ s d px (.Call f as kw p)) h fun f q h => gd_el h fun hc h => bd_el h fun k hk h =>
    em_el (P := fun kw => XS w F A ad μ env ρ s d px (.Call (.Name f q) as kw p)) (and_l (and_l hc)) (mp_el (P := fun px => XS w F A ad μ env ρ s d px _) h fun ps h1 => xs_mk rfl fun he => evL_el (f := F k) he fun ds e1 he =>
      ex_call W hA H r am (gl_is (and_r (and_l hc))).1 (gl_is (and_r (and_l hc))).2 hk (fun q => by rw [q] at hc; exact absurd (and_r hc) (by decide)) h1 e1 he)
theorem s_m1 (H : Snd w base F A ad μ m) (r : ER env cx ρ ad s.heap) (am : Amb base ad μ s.heap) (h : xM1 (tr env.scope.names m cx) e = some px) : XS w F A ad μ env ρ s d px e :=
  dCall_el (P := fun e => XS w F A ad μ env ρ s d px e) h fun f as kw p h => dAttribute_el (P := fun f => XS w F A ad μ env ρ s d px (.Call f as kw p)) h fun o nm q h => gd_el h fun hc h => bd_el h fun b hb h => bd_el h fun a ha h =>
    em_el (P := fun kw => XS w F A ad μ env ρ s d px (.Call (.Attribute o nm q) as kw p)) (and_l hc) (one_el (P := fun as => XS w F A ad μ env ρ s d px (.Call (.Attribute o nm q) as [] p)) ha
      (bd_el h fun p1 h1 h => mp_el (P := fun px => XS w F A ad μ env ρ s d px _) h fun p2 h2 => xs_mk rfl fun he => ev2_el (f := meth1D μ b) he fun x y ex ey he => by
        obtain ⟨z, rfl⟩ := meth1_str he
        refine meth_call (x := z) (noStar_of h2 []) (Nat.le_of_ble_eq_true rfl) (and_r hc) (meth1_slot hb).1 (meth1_slot hb).2 (attr_base h1) (mono' (H.ex env cx ρ s _ p1 _ r am h1 ex) fun v s₁ q => ⟨of_str q.1.2, ?_⟩)
        refine callWith_builtin (plainArgs_any _ _) (evalArgs_plain (spliced_cons (mono' (H.ex env cx ρ s₁ _ p2 y (r.up q.1.1) (am.up q.1.1) h2 ey) fun u s₂ q' => spliced_nil ?_)))
        have k := keeps_trans q.1.1 q'.1.1
        exact mono' (meth1_op (am.up k) he (q.1.2.up q'.1.1) q'.1.2) fun v s₃ q'' => q''.after k))
theorem s_m0 (H : Snd w base F A ad μ m) (r : ER env cx ρ ad s.heap) (am : Amb base ad μ s.heap) (h : xM0 (tr env.scope.names m cx) e = some px) : XS w F A ad μ env ρ s d px e :=
  dCall_el (P := fun e => XS w F A ad μ env ρ s d px e) h fun f as kw p h => dAttribute_el (P := fun f => XS w F A ad μ env ρ s d px (.Call f as kw p)) h fun o nm q h => gd_el h fun hc h => bd_el h fun b hb h =>
    em_el (P := fun kw => XS w F A ad μ env ρ s d px (.Call (.Attribute o nm q) as kw p)) (and_l (and_l hc)) (em_el (P := fun as => XS w F A ad μ env ρ s d px (.Call (.Attribute o nm q) as [] p)) (and_r hc)
      (mp_el (P := fun px => XS w F A ad μ env ρ s d px _) h fun p1 h1 => xs_mk rfl fun he => ev1_el (f := meth0D b) he fun x ex he => by
        obtain ⟨z, rfl⟩ := meth0_str he
        refine meth_call (x := z) rfl (Nat.le_of_ble_eq_true rfl) (and_r (and_l hc)) (meth0_slot hb).1 (meth0_slot hb).2 (attr_base h1) (mono' (H.ex env cx ρ s _ p1 _ r am h1 ex) fun v s₁ q => ⟨of_str q.1.2, ?_⟩)
        refine callWith_builtin (plainArgs_any _ _) (PyProof.Rows.evalArgs_none ?_)
        exact mono' (meth0_op (am.up q.1.1) he q.1.2) fun v s₃ q'' => q''.after q.1.1))
theorem s_tr (hA : AOK (n + 1) A) (H : Snd w base F A ad μ m) (r : ER env cx ρ ad s.heap) (am : Amb base ad μ s.heap) (h : xTr (tr env.scope.names m cx) e = some px) : XS w F A ad μ env ρ s d px e :=
  dCall_el (P := fun e => XS w F A ad μ env ρ s d px e) h fun f as kw p h => dAttribute_el (P := fun f => XS w F A ad μ env ρ s d px (.Call f as kw p)) h fun o nm q h => gd_el h fun hc h => bd_el h fun a ha h =>
    em_el (P := fun kw => XS w F A ad μ env ρ s d px (.Call (.Attribute o nm q) as kw p)) (and_l (and_l hc)) (one_el (P := fun as => XS w F A ad μ env ρ s d px (.Call (.Attribute o nm q) as [] p)) ha
      (bd_el h fun p1 h1 h => mp_el (P := fun px => XS w F A ad μ env ρ s d px _) h fun p2 h2 => xs_mk rfl fun he => ev2_el (f := transD) he fun x y ex ey he => by
        have hm : nm = ("translate" : Str) := eq_of_beq (and_r hc)
        subst hm
        obtain ⟨z, rfl⟩ := trans_str he
        refine meth_call (x := z) (noStar_of h2 []) (Nat.le_of_ble_eq_true rfl) (and_r (and_l hc)) trans_slot.1 trans_slot.2 (attr_base h1) (mono' (H.ex env cx ρ s _ p1 _ r am h1 ex) fun v s₁ q => ⟨of_str q.1.2, ?_⟩)
        refine callWith_builtin (plainArgs_any _ _) (evalArgs_plain (spliced_cons (mono' (H.ex env cx ρ s₁ _ p2 y (r.up q.1.1) (am.up q.1.1) h2 ey) fun u s₂ q' => spliced_nil ?_)))
        have k := keeps_trans q.1.1 q'.1.1
        exact mono' (trans_op (am.up k) (aok_one hA) he (q.1.2.up q'.1.1) q'.1.2) fun v s₃ q'' => q''.after k))
theorem s_list (H : Snd w base F A ad μ m) (r : ER env cx ρ ad s.heap) (am : Amb base ad μ s.heap) (h : xList (trL env.scope.names m cx) e = some px) (he : ev F μ ρ px = some d) : wpAny (model pg w) A (eval e env) (IsN ad s d e) NoE s :=
  dList_el (P := fun e => wpAny (model pg w) A (eval e env) (IsN ad s d e) NoE s) h fun es p h => mp_el (P := fun px => ev F μ ρ px = some d → wpAny (model pg w) A (eval (.List es p) env) (IsN ad s d (.List es p)) NoE s) h (fun ps h1 he => evL_el (f := fun ds => if ds.length ≤ lim then some (D.list ds) else none) he fun ds e1 he => by
    obtain ⟨hlen, he⟩ := if_is he
    cases he
    refine List_ ?_
    rw [backTo_plain (H.st _ _ _ _ h1).1]
    refine mono' (H.li env cx ρ s es ps ds r am h1 e1) fun vs s₁ q => wpAny_newList ⟨(is_new (am.up q.1) q.2).after q.1, fun _ => ⟨_, ds, vs, rfl, rfl, ?_, pl_push _ _, (q.2.off (fresh_size _)).kept (Kept.push _ _)⟩⟩ (by rw [q.2.length]; exact lim_line hlen)
    cases hq : s.heap.get? s₁.heap.objs.size with
    | none => rfl
    | some o => exact absurd ((keeps_kept q.1).size hq) (Nat.lt_irrefl _)) he
theorem xs_n (h : XS w F A ad μ env ρ s d px e) (he : ev F μ ρ px = some d) : wpAny (model pg w) A (eval e env) (IsN ad s d e) NoE s := mono' (h.2 he) fun v s' q => IsN.old q h.1
theorem snd_ex (W : Wd w base F n) (hA : AOK (n + 1) A) (H : Snd w base F A ad μ m) (HC : CompOK w base F A ad μ (m + 1)) (r : ER env cx ρ ad s.heap) (am : Amb base ad μ s.heap)
    (ht : tr env.scope.names (m + 1) cx e = some px) (he : ev F μ ρ px = some d) : wpAny (model pg w) A (eval e env) (IsN ad s d e) NoE s :=
  fst_el (P := wpAny (model pg w) A (eval e env) (IsN ad s d e) NoE s) (show stepX (TRn m) env.scope.names cx e = some px from ht) ⟨
    fun h => xs_n (s_lit h) he, fun h => xs_n (s_var r h) he, fun h => xs_n (s_glob W r am h) he, fun h => xs_n (s_bin H r am h) he, fun h => xs_n (s_cmp hA H r am h) he, fun h => xs_n (s_bool H r am h) he, fun h => xs_n (s_un H r am h) he,
    fun h => xs_n (s_slc H r am h) he, fun h => xs_n (s_idx H r am h) he, fun h => s_list H r am h he, fun h => xs_n (s_tup H r am h) he, fun h => xs_n (s_b1 W hA H r am h) he, fun h => xs_n (s_int W hA H r am h) he, fun h => xs_n (s_fn W hA H r am h) he,
    fun h => xs_n (s_m1 H r am h) he, fun h => xs_n (s_m0 H r am h) he, fun h => xs_n (s_tr hA H r am h) he,
    fun h => dListComp_el (P := fun e => tr env.scope.names (m + 1) cx e = some px → wpAny (model pg w) A (eval e env) (IsN ad s d e) NoE s) h (fun a g sc p _ ht => HC env cx ρ s a g sc p px d r am ht he) ht, trivial⟩
end
end
end Mine
end
section
namespace Mine
section
variable {w : World} {base : Heap} {F : Nat → List D → Option D} {n : Nat} {A : Around} {ad : Ad} {μ : List (List D)}
theorem snd_tru (hex : ∀ (env : Env) (cx : List Str) (ρ : List (Option D)) (s : Shared) (e : Expr) (px : PX) (d : D), ER env cx ρ ad s.heap → Amb base ad μ s.heap → tr env.scope.names (m + 1) cx e = some px → ev F μ ρ px = some d →
    wpAny (model pg w) A (eval e env) (IsN ad s d e) NoE s) (hA : AOK (n + 1) A) (H : Snd w base F A ad μ m) {env : Env} {cx : List Str} {ρ : List (Option D)} {s : Shared} {e : Expr} {px : PX} {d : D} {b : Bool} (r : ER env cx ρ ad s.heap) (am : Amb base ad μ s.heap)
    (ht : tr env.scope.names (m + 1) cx e = some px) (he : ev F μ ρ px = some d) (hb : truthD μ d = some b) : wpAny (model pg w) A (isTrue e env (eval e env)) (fun c s' => c = b ∧ Keeps s s') NoE s := by
  have plain : isTrue e env (eval e env) = (do let v ← eval e env; standAt e.pos; holding [v] (truthy v)) → wpAny (model pg w) A (isTrue e env (eval e env)) (fun c s' => c = b ∧ Keeps s s') NoE s := fun hp =>
    isTrue_plain (mono' (hex env cx ρ s e px d r am ht he) fun v s₁ q => mono' (truth_op (am.up q.1.1) hb q.1.2) fun c s₂ q2 => ⟨q2.1, keeps_trans q.1.1 q2.2⟩) hp
  cases shp ht with
  | un op x pos =>
    cases op with
    | Not =>
      refine mp_el (P := fun px => ev F μ ρ px = some d → _) (show (tr env.scope.names m cx x).map PX.not = some px from alt_n (show alt (xUn (tr env.scope.names m cx) (.UnaryOp .Not x pos)) none = some px from ht)) (fun p1 h1 he => ?_) he
      refine ev1_el (f := fun x => (truthD μ x).map fun b => D.bool (!b)) he fun y ey he => mp_el (P := fun d => truthD μ d = some b → _) he (fun c hc hb => ?_) hb
      cases hb
      refine isTrue_not (mono' (H.tru env cx ρ s x p1 y c r am h1 ey hc) fun c' s' q => ?_)
      obtain ⟨rfl, k⟩ := q
      exact ⟨rfl, k⟩
    | _ => exact plain rfl
  | bool op es pos =>
    refine mp_el (P := fun px => ev F μ ρ px = some d → _) (show (trL env.scope.names m cx es).map (boF op) = some px from alt_n (show alt (xBool (trL env.scope.names m cx) (.BoolOp op es pos)) none = some px from ht)) (fun p1 h1 he => ?_) he
    cases op with
    | And => exact wpAny_isTrue_BoolOp (H.tan env cx ρ s es p1 d b r am h1 he hb)
    | Or => exact wpAny_isTrue_BoolOp (H.tor env cx ρ s es p1 d b r am h1 he hb)
  | cmp l op c pos =>
    refine gd_el (show gd (!behindInMarks op c) ((tr env.scope.names m cx l).bind fun a => (tr env.scope.names m cx c).map fun b => PX.cmp op a b) = some px from alt_n (show alt (xCmp (tr env.scope.names m cx) (.Compare l [op] [c] pos)) none = some px from ht)) fun hbm h =>
      bd_el h fun p1 h1 h => mp_el (P := fun px => ev F μ ρ px = some d → _) h (fun p2 h2 he => ev2_el (f := cmpD μ op) he fun x y ex ey he => ?_) he
    refine wpAny_isTrue_Compare1 (xs_two H r am h1 h2 ex ey fun v u s₂ k am' p q => ?_) (by simpa using hbm)
    refine mono' (cmp_op (aok_units hA) he p q) fun v s₃ q'' => ?_
    have k' := keeps_trans k q''.1
    exact mono' (truth_op (am.up k') hb q''.2) fun c s₂ q2 => ⟨q2.1, keeps_trans k' q2.2⟩
  | _ => exact plain rfl
end
end Mine
end
section
namespace Mine
noncomputable def NotNs (o : Obj) : Prop := (∀ es ep, o.data ≠ .dict es ep) ∧ ∀ v, o.data ≠ .cell v
theorem still_notNs {o : Obj} (q : Still o) : NotNs o := by
  rcases q with ⟨xs, m, q⟩ | ⟨a, rfl⟩
  · exact ⟨fun es ep x => (by rw [q] at x; cases x), fun v x => (by rw [q] at x; cases x)⟩
  · exact ⟨fun es ep x => (by cases x), fun v x => (by cases x)⟩
noncomputable def Kx (av : List Addr) (h h' : Heap) : Prop := ∀ b o, b ∉ av → h.get? b = some o → NotNs o → h'.get? b = some o
theorem Kept.kx {h h' : Heap} (k : Kept h h') (av : List Addr) : Kx av h h' := fun b o _ e q => k.at e q.1
theorem Kd.kx {h h' : Heap} (k : Kd h h') (av : List Addr) : Kx av h h' := fun b o _ e n => k b o e n.1 n.2
theorem Kx.trans {av : List Addr} {a b c : Heap} (x : Kx av a b) (y : Kx av b c) : Kx av a c := fun p o n e f => y p o n (x p o n e f) f
theorem Kx.sk {av : List Addr} {h h' : Heap} (k : Kx av h h') : SK av h h' := fun b o n e q => by
  exact k b o n e (still_notNs q)
theorem Kx.more {av av' : List Addr} {h h' : Heap} (k : Kx av h h') (s : ∀ a ∈ av, a ∈ av') : Kx av' h h' := fun b o n e f => k b o (fun m => n (s b m)) e f
theorem kx_but {h h' : Heap} {a : Addr} {av : List Addr} (k : Heap.SameBut a h h') (m : a ∈ av) : Kx av h h' := fun b o n e _ => (k.2 b (fun q => n (q ▸ m))).trans e
noncomputable def IsIt (o : Obj) : Prop := (∃ vs, o.data = .fields vs) ∧ o.cls ≠ .type "builtin_function_or_method"
theorem isIt_not {o : Obj} (h : IsIt o) (q : Still o) : False := by
  obtain ⟨⟨vs, d⟩, c⟩ := h
  rcases q with ⟨xs, m, q⟩ | ⟨a, rfl⟩
  · rw [d] at q; cases q
  · exact c rfl
structure Itr (w : World) (A : Around) (ad : Ad) (I : Addr) (fp : List Addr) (xs : List D) (P : Nat → Value → Prop) (St : Nat → Heap → Prop) (h : Heap) : Prop where
  W : Walks pg w A I fp [I] xs.length P St
  st : St 0 h
  rep : ∀ (i : Nat) d v, xs[i]? = some d → P i v → Rep ad h d v
  off : ∀ b ∈ fp, b ∉ ad.all
  obj : ∀ i h, St i h → ∀ b ∈ fp, ∃ o, h.get? b = some o ∧ NotNs o
  fld : ∀ i h, St i h → ∃ o, h.get? I = some o ∧ IsIt o
  sup : noMls xs = true → ∃ as, Sup ad h as ∧ ∀ ad' h', SupTo as h ad' h' → ∀ (i : Nat) d v, xs[i]? = some d → P i v → Rep ad' h' d v
inductive ItrR (w : World) (A : Around) (ad : Ad) (s : Shared) (xs : List D) (it : Value) (s₂ : Shared) : Prop
  | mk (I : Addr) (fp : List Addr) (P : Nat → Value → Prop) (St : Nat → Heap → Prop) (e : it = .ref I) (k : Keeps s s₂) (n : s.heap.get? I = none) (r : Itr w A ad I fp xs P St s₂.heap)
theorem Itr.keep {w : World} {A : Around} {ad : Ad} {I : Addr} {fp : List Addr} {xs : List D} {P : Nat → Value → Prop} {St : Nat → Heap → Prop} {h₀ h h' : Heap} {i : Nat} {av : List Addr} (x : Itr w A ad I fp xs P St h₀) (st : St i h)
    (k : Kx av h h') (n : ∀ b ∈ fp, b ∉ av) : St i h' :=
  x.W.frame i h h' st fun b hb o e => by
    obtain ⟨o', e', q⟩ := x.obj i h st b hb
    rw [e] at e'; injection e' with e'; subst e'
    exact k b o (n b hb) e q
noncomputable def Kc (h h' : Heap) : Prop := ∀ b o, h.get? b = some o → (∃ es ep, o.data = .dict es ep) ∨ (∃ v, o.data = .cell v) → h'.get? b = some o
theorem Kc.ns {h h' : Heap} (k : Kc h h') {a : Addr} {m : Str → Option Value} (n : h.Ns a m) : h'.Ns a m := by
  obtain ⟨o, es, ep, e, d, r⟩ := n
  exact ⟨o, es, ep, k a o e (.inl ⟨_, _, d⟩), d, r⟩
theorem Kc.cell {h h' : Heap} (k : Kc h h') {a : Addr} {v : Option Value} (n : h.IsCell a v) : h'.IsCell a v := by
  obtain ⟨o, e, d⟩ := n
  exact ⟨o, k a o e (.inr ⟨_, d⟩), d⟩
theorem ER.keep {env : Env} {cx : List Str} {ρ : List (Option D)} {ad : Ad} {h h' : Heap} (r : ER env cx ρ ad h) (k : Kc h h') (q : SK ad.all h h') : ER env cx ρ ad h' where
  kind := r.kind
  ns := let ⟨m, e⟩ := r.ns; ⟨m, k.ns e⟩
  var := fun x i d a b => by
    obtain ⟨v, l, p⟩ := r.var x i d a b
    refine ⟨v, ?_, Rep.sk q _ _ p⟩
    rcases l with ⟨a, m, b, c⟩ | ⟨a, c, b, d⟩
    · exact .inl ⟨a, m, k.ns b, c⟩
    · exact .inr ⟨a, c, b, k.cell d⟩
  cells := fun x a => let ⟨c, b, v, e⟩ := r.cells x a; ⟨c, b, v, k.cell e⟩
  apart := r.apart
  glob := r.glob
  bns := r.bns
noncomputable def Nc (h h' : Heap) : Prop := (∀ a m, h.Ns a m → h'.Ns a m) ∧ ∀ c v, h.IsCell c v → h'.IsCell c v
theorem ER.keepN {env : Env} {cx : List Str} {ρ : List (Option D)} {ad : Ad} {h h' : Heap} (r : ER env cx ρ ad h) (k : Nc h h') (q : SK ad.all h h') : ER env cx ρ ad h' where
  kind := r.kind
  ns := let ⟨m, e⟩ := r.ns; ⟨m, k.1 _ _ e⟩
  var := fun x i d a b => by
    obtain ⟨v, l, p⟩ := r.var x i d a b
    refine ⟨v, ?_, Rep.sk q _ _ p⟩
    rcases l with ⟨a, m, b, c⟩ | ⟨a, c, b, d⟩
    · exact .inl ⟨a, m, k.1 _ _ b, c⟩
    · exact .inr ⟨a, c, b, k.2 _ _ d⟩
  cells := fun x a => let ⟨c, b, v, e⟩ := r.cells x a; ⟨c, b, v, k.2 _ _ e⟩
  apart := r.apart
  glob := r.glob
  bns := r.bns
theorem KeptB.nc {h h' : Heap} {a : Addr} {vs : List Value} (k : KeptB [a] h h') (pl : PL h a vs) : Nc h h' ∧ Dk h h' := by
  have ne : ∀ b o, h.get? b = some o → (∃ es ep, o.data = .dict es ep) ∨ (∃ v, o.data = .cell v) → b ∉ [a] := fun b o e q m => by
    rw [List.mem_singleton.mp m] at e
    obtain ⟨m, e'⟩ := pl
    rw [e] at e'; injection e' with e'; subst e'
    rcases q with ⟨_, _, q⟩ | ⟨_, q⟩ <;> cases q
  refine ⟨⟨fun b m n => ?_, fun c v n => ?_⟩, fun b o es ep e d => ?_⟩
  · obtain ⟨o, es, ep, e, d, r⟩ := n
    obtain ⟨sl, x, _⟩ := k b o (ne b o e (.inl ⟨_, _, d⟩)) e
    exact ⟨_, es, ep, x, d, r⟩
  · obtain ⟨o, e, d⟩ := n
    obtain ⟨sl, x, _⟩ := k c o (ne c o e (.inr ⟨_, d⟩)) e
    exact ⟨_, x, d⟩
  · obtain ⟨sl, x, _⟩ := k b o (ne b o e (.inl ⟨_, _, d⟩)) e
    exact ⟨_, es, ep, x, d⟩
theorem KeptB.at {h h' : Heap} {ms : List Addr} (k : KeptB ms h h') {b : Addr} {o : Obj} (m : b ∉ ms) (e : h.get? b = some o) (n : ∀ es ep, o.data ≠ .dict es ep) : h'.get? b = some o := by
  obtain ⟨sl, x, y⟩ := k b o m e
  rw [y (.inl n)] at x; exact x
theorem Amb.sk0 {base : Heap} {ad : Ad} {μ : List (List D)} {h h' : Heap} (x : Amb base ad μ h) (k : SK [] h h') (kb : Kept base h') (dk : Dk h h') : Amb base ad μ h' :=
  ⟨kb, fun a m => let ⟨o, e, q⟩ := x.there a m; ⟨o, k a o (by simp) e (.inl q), q⟩, x.new, fun i a ds e f => let ⟨vs, p, q⟩ := x.mu i a ds e f; ⟨vs, k.pl (by simp) p, Reps.sk (fun b o _ e f => k b o (by simp) e f) _ _ q⟩, x.nd, x.fr.dk dk⟩
theorem Amb.sk1 {base : Heap} {ad : Ad} {μ : List (List D)} {h h' : Heap} (x : Amb base ad μ h) (k : SK [] h h') (kb : Kept base h') (fr : FrF base h' ad.av.fs) : Amb base ad μ h' :=
  ⟨kb, fun a m => let ⟨o, e, q⟩ := x.there a m; ⟨o, k a o (by simp) e (.inl q), q⟩, x.new, fun i a ds e f => let ⟨vs, p, q⟩ := x.mu i a ds e f; ⟨vs, k.pl (by simp) p, Reps.sk (fun b o _ e f => k b o (by simp) e f) _ _ q⟩, x.nd, fr⟩
theorem Kc.dk {h h' : Heap} (k : Kc h h') : Dk h h' := fun b o es ep e d => ⟨o, es, ep, k b o e (.inl ⟨_, _, d⟩), d⟩
theorem step_keep {h h' : Heap} {I : Addr} (f : ∃ o, h.get? I = some o ∧ IsIt o) (k : ∀ b o, b ∉ [I] → h.get? b = some o → h'.get? b = some o) : Kc h h' ∧ SK [] h h' := by
  obtain ⟨oI, eI, hI⟩ := f
  constructor
  · intro b o e q
    refine k b o (fun m => ?_) e
    rw [List.mem_singleton.mp m, eI] at e; injection e with e; subst e
    obtain ⟨⟨vs, dI⟩, _⟩ := hI
    rw [dI] at q
    rcases q with ⟨_, _, q⟩ | ⟨_, q⟩ <;> cases q
  · intro b o _ e q
    refine k b o (fun m => ?_) e
    rw [List.mem_singleton.mp m, eI] at e; injection e with e; subst e
    exact isIt_not hI q
theorem list_keep {h h' : Heap} {a : Addr} {vs : List Value} (f : PL h a vs) (k : Heap.SameBut a h h') : Kc h h' ∧ SK [a] h h' := by
  obtain ⟨m, e'⟩ := f
  constructor
  · intro b o e q
    refine (k.2 b ?_).trans e
    rintro rfl
    rw [e] at e'; injection e' with e'; subst e'
    rcases q with ⟨_, _, q⟩ | ⟨_, q⟩ <;> cases q
  · intro b o hn e q
    exact (k.2 b fun m => hn (List.mem_singleton.mpr m)).trans e
theorem Amb.app {base : Heap} {ad : Ad} {μ : List (List D)} {h h' : Heap} {a : Addr} {vs : List Value} (x : Amb base (ad.off a) μ h) (na : a ∉ ad.all) (k : Heap.SameBut a h h') (p : PL h' a vs) (kb : Kept base h') (dk : Dk h h') : Amb base (ad.off a) μ h' := by
  refine ⟨kb, fun b m => ?_, x.new, fun i b ds e f => ?_, x.nd, FrF.dk (l := ad.av.fs) x.fr dk⟩
  · by_cases hb : b = a
    · subst hb; obtain ⟨m, e⟩ := p; exact ⟨_, e, _, _, rfl⟩
    · obtain ⟨o, e, q⟩ := x.there b m
      exact ⟨o, (k.2 b hb).trans e, q⟩
  · obtain ⟨us, q, r⟩ := x.mu i b ds e f
    have hb : b ≠ a := by
      rintro rfl
      exact na (List.mem_append_left _ (List.mem_of_getElem? e))
    refine ⟨us, let ⟨m, w⟩ := q; ⟨m, (k.2 b hb).trans w⟩, Reps.sk (fun c o n w _ => (k.2 c ?_).trans w) _ _ r⟩
    rintro rfl
    exact n (Ad.mem_off.mpr (.inr rfl))
section
variable {w : World} {base : Heap} {F : Nat → List D → Option D} {n : Nat} {A : Around} {ad : Ad} {μ : List (List D)}
theorem rawInt_zero : rawInt 0 = Value.int 0 0 := rfl
theorem notNs_fields {c : Value} {d : Option Addr} {vs : Array Value} {sl : Array (Option Value)} : NotNs { cls := c, dict := d, data := .fields vs, slots := sl } := ⟨fun _ _ e => (nomatch e), fun _ e => (nomatch e)⟩
theorem notNs_seq {o : Obj} {xs : Array Value} {m : Nat} (h : o.data = .seq xs m) : NotNs o := ⟨fun _ _ e => (by rw [h] at e; cases e), fun _ e => (by rw [h] at e; cases e)⟩
theorem itr_list (hh : A.handled = none) {s : Shared} {a : Addr} {vs : List Value} {ds : List D} (am : Amb base ad μ s.heap) (na : a ∉ ad.all) (pl : PL s.heap a vs) (rs : Reps ad s.heap ds vs) :
    wpAny (model pg w) A (pyIter (.ref a)) (fun it s₂ => ItrR w A ad s ds it s₂) NoE s := by
  refine wpAny_pyIter_list pl.isList ?_
  have k := keeps_push s { cls := .type "list_iterator", data := .fields #[.ref a, .int 0 0] }
  have hne : a ≠ s.heap.objs.size := fun e => Nat.lt_irrefl _ (e ▸ pl.lt)
  have hlen : vs.toArray.size = ds.length := by simpa using rs.length
  refine ⟨_, [s.heap.objs.size, a], _, _, rfl, k, fresh_size _, hlen ▸ Walks.list hh s.heap.objs.size a hne vs.toArray, ⟨⟨_, Heap.get?_push_size _ rfl, rfl, rfl⟩, (pl.kept (keeps_kept k)).isList⟩, ?_, ?_, ?_, fun i h st => ?_, fun nm => ?_⟩
  · intro i d v e1 e2
    obtain ⟨u, e3, r⟩ := rs.get e1
    have : u = v := by
      have e2' : vs[i]? = some v := by simpa using e2
      rw [e3] at e2'; injection e2'
    subst this
    exact r.up k
  · intro b hb
    simp only [List.mem_cons, List.not_mem_nil, or_false] at hb
    rcases hb with rfl | rfl
    · exact am.fresh (fresh_size _)
    · exact na
  · intro i h st b hb
    simp only [List.mem_cons, List.not_mem_nil, or_false] at hb
    rcases hb with rfl | rfl
    · obtain ⟨o, e, _, d⟩ := st.1
      exact ⟨o, e, fun _ _ x => (by rw [d] at x; cases x), fun _ x => (by rw [d] at x; cases x)⟩
    · obtain ⟨o, e, _, m, d⟩ := st.2
      exact ⟨o, e, notNs_seq d⟩
  · obtain ⟨o, e, c, d⟩ := st.1
    exact ⟨o, e, ⟨_, d⟩, by rw [c]; decide⟩
  · obtain ⟨as, s1, s2⟩ := Reps.sup ds vs nm (rs.up k)
    refine ⟨as, s1, fun ad' h' q i d v e1 e2 => ?_⟩
    obtain ⟨u, e3, r⟩ := (s2 ad' h' q).get e1
    have : u = v := by
      have e2' : vs[i]? = some v := by simpa using e2
      rw [e3] at e2'; injection e2'
    subst this
    exact r
theorem itr_range (hh : A.handled = none) {s : Shared} {r : Addr} {a b c : Int} {t u v : Tok} {n : Nat} {xs : List D} (am : Amb base ad μ s.heap) (hr : IsRange s.heap r a b c t u v) (hsm : Builtin.Range.small a b c = true) (hn : Builtin.Range.rangeSize a b c = (n : Int))
    (hx : xs = (List.range n).map fun (i : Nat) => .int (a + i * c)) :
    wpAny (model pg w) A (pyIter (.ref r)) (fun it s₂ => ItrR w A ad s xs it s₂) NoE s := by
  refine wpAny_pyIter_range hr hsm ?_
  have k := keeps_push s { cls := .type "range_iterator", data := .fields #[rawInt a, rawInt (Builtin.Range.rangeSize a b c), rawInt c] }
  have hlen : xs.length = n := by rw [hx]; simp
  refine ⟨_, [s.heap.objs.size], _, _, rfl, k, fresh_size _, hlen ▸ Walks.range hh s.heap.objs.size a c n, ?_, ?_, ?_, ?_, fun i h st => ⟨_, st, ⟨_, rfl⟩, show Value.type "range_iterator" ≠ _ by decide⟩, fun _ => ⟨[], (fun _ m => nomatch m), fun ad' h' _ i d v e1 e2 => ?_⟩⟩
  · show IsRangeIter _ _ _ _ _
    rw [show a + ((0 : Nat) : Int) * c = a by simp, hlen, show (n : Int) - ((0 : Nat) : Int) = n by simp, ← hn]
    exact Heap.get?_push_size _ rfl
  · intro i d v e1 ⟨t, e2⟩
    subst e2
    rw [hx, List.getElem?_map] at e1
    obtain ⟨j, e3, e4⟩ := Option.map_eq_some_iff.mp e1
    obtain ⟨e5, e6⟩ := List.getElem?_eq_some_iff.mp e3
    simp at e6
    subst e6; subst e4
    exact rep_int
  · intro b hb
    simp only [List.mem_cons, List.not_mem_nil, or_false] at hb
    subst hb
    exact am.fresh (fresh_size _)
  · intro i h st b hb
    simp only [List.mem_cons, List.not_mem_nil, or_false] at hb
    subst hb
    exact ⟨_, st, notNs_fields⟩
  · obtain ⟨t, e2⟩ := e2
    subst e2
    rw [hx, List.getElem?_map] at e1
    obtain ⟨j, e3, e4⟩ := Option.map_eq_some_iff.mp e1
    obtain ⟨e5, e6⟩ := List.getElem?_eq_some_iff.mp e3
    simp at e6
    subst e6; subst e4
    exact rep_int
theorem rangeSize_up (a b : Int) : Builtin.Range.rangeSize a b 1 = ((b - a).toNat : Int) := by
  rw [rangeSize_one]; split <;> omega
theorem rangeSize_down (a b : Int) : Builtin.Range.rangeSize a b (-1) = ((a - b).toNat : Int) := by
  unfold Builtin.Range.rangeSize
  simp only [show ¬ (-1 : Int) > 0 by decide, if_false]
  split <;> simp <;> omega
theorem small_down {a b : Int} (h1 : -100000 ≤ a) (h2 : a ≤ 100000) (h3 : -100000 ≤ b) (h4 : b ≤ 100000) : Builtin.Range.small a b (-1) = true := by
  unfold Builtin.Range.small
  rw [rangeSize_down]
  simp only [Builtin.Range.rangeFitsLong, Bool.and_eq_true, Bool.or_eq_true, decide_eq_true_eq, beq_iff_eq, show ¬ (-1 : Int) > 0 by decide, if_false]
  omega
theorem itr_rng (hh : A.handled = none) {s : Shared} {ds xs : List D} {vs : List Value} (am : Amb base ad μ s.heap) (rs : Reps ad s.heap ds vs) (hx : rangeD ds = some xs) :
    wpAny (model pg w) A (call (.type "range") vs) (fun xv s₁ => wpAny (model pg w) A (pyIter xv) (fun it s₂ => ItrR w A ad s xs it s₂) NoE s₁) NoE s := by
  have fin : ∀ (s₁ : Shared) (r : Addr) (a b c : Int) (t u v : Tok) (n : Nat), Keeps s s₁ → IsRange s₁.heap r a b c t u v → Builtin.Range.small a b c = true → Builtin.Range.rangeSize a b c = (n : Int) → (xs = (List.range n).map fun (i : Nat) => .int (a + i * c)) →
      wpAny (model pg w) A (pyIter (.ref r)) (fun it s₂ => ItrR w A ad s xs it s₂) NoE s₁ := by
    intro s₁ r a b c t u v n k hr hs hn hx
    refine mono' (itr_range hh (am.up k) hr hs hn hx) fun it s₂ q => ?_
    obtain ⟨I, fp, P, St, rfl, k2, hI, itr⟩ := q
    refine ⟨I, fp, P, St, rfl, keeps_trans k k2, ?_, itr⟩
    cases e : s.heap.get? I with
    | none => rfl
    | some o => have := (keeps_kept k).none hI; rw [e] at this; cases this
  refine bd_el hx fun is hi hx => ?_
  have hv := gInts_val hi rs
  cases hv with
  | nil => cases hx
  | cons a t1 hv =>
    cases hv with
    | nil =>
      obtain ⟨hc, hx⟩ := if_is hx
      cases hx
      simp only [Bool.and_eq_true, decide_eq_true_eq] at hc
      unfold lim at hc
      refine call_range_1 (fin _ _ 0 a 1 _ _ _ a.toNat (keeps_mk (Kept.push _ _)) (IsRange.new ..) (small_one (by decide) (by decide) (by omega) (by omega)) ((rangeSize_up 0 a).trans (by simp)) ?_)
      exact List.map_congr_left fun i _ => by rw [Int.zero_add, Int.mul_one]
    | cons b t2 hv =>
      cases hv with
      | nil =>
        obtain ⟨hc, hx⟩ := if_is hx
        cases hx
        simp only [Bool.and_eq_true, decide_eq_true_eq] at hc
        unfold lim at hc
        refine call_range_2 (fin _ _ a b 1 _ _ _ (b - a).toNat (keeps_mk (Kept.push _ _)) (IsRange.new ..) (small_one (by omega) (by omega) (by omega) (by omega)) (rangeSize_up a b) ?_)
        exact List.map_congr_left fun i _ => by rw [Int.mul_one]
      | @cons c t3 vs3 ns3 hv =>
        obtain ⟨hc, hx2⟩ := if_is (show (if ns3.isEmpty && c == -1 && -lim ≤ a && a ≤ lim && -lim ≤ b && b ≤ lim then some ((List.range (a - b).toNat).map fun (i : Nat) => D.int (a - i)) else none) = some xs from hx)
        have hr := List.isEmpty_iff.mp (and_l (and_l (and_l (and_l (and_l hc)))))
        subst hr
        cases hv
        cases hx2
        have hm : c = -1 := eq_of_beq (and_r (and_l (and_l (and_l (and_l hc)))))
        subst hm
        simp only [Bool.and_eq_true, decide_eq_true_eq] at hc
        unfold lim at hc
        refine call_range_3 (by decide) (fin _ _ a b (-1) _ _ _ (a - b).toNat (keeps_mk (Kept.push _ _)) (IsRange.new ..) (small_down (by omega) (by omega) (by omega) (by omega)) (rangeSize_down a b) ?_) ?_
        · refine List.map_congr_left fun i _ => ?_
          congr 1
          lia
        · exact Or.inl (PyProof.noPylong_small (by lia))
theorem rng_name : plainName ("range" : Str) = true := by decide +kernel
theorem pi_iter (W : Wd w base F n) (hA : AOK (n + 1) A) (H : Snd w base F A ad μ m) {env : Env} {cx : List Str} {ρ : List (Option D)} {s : Shared} {e : Expr} {pi : PI} {xs : List D} (r : ER env cx ρ ad s.heap) (am : Amb base ad μ s.heap)
    (ht : trI env.scope.names (m + 1) cx e = some pi) (he : evI F μ ρ pi = some xs) :
    wpAny (model pg w) A (eval e env) (fun xv s₁ => wpAny (model pg w) A (pyIter xv) (fun it s₂ => ItrR w A ad s xs it s₂) NoE s₁) NoE s := by
  have fresh : ∀ {s s₁ : Shared} {I : Addr}, Keeps s s₁ → s₁.heap.get? I = none → s.heap.get? I = none := fun {s s₁ I} k hI => by
    cases e : s.heap.get? I with
    | none => rfl
    | some o => have := (keeps_kept k).none hI; rw [e] at this; cases this
  have seq : ∀ px, tr env.scope.names m cx e = some px → pi = .seq px → wpAny (model pg w) A (eval e env) (fun xv s₁ => wpAny (model pg w) A (pyIter xv) (fun it s₂ => ItrR w A ad s xs it s₂) NoE s₁) NoE s := by
    rintro px h1 rfl
    refine bd_el he fun d1 e1 he => ?_
    refine mono' (H.ex env cx ρ s e px _ r am h1 e1) fun v s₁ q => ?_
    obtain ⟨a, vs, rfl, na, pl, rs⟩ := of_list (lst0_is he ▸ q.1.2)
    refine mono' (itr_list hA.hh (am.up q.1.1) na pl rs) fun it s₂ q2 => ?_
    obtain ⟨I, fp, P, St, rfl, k2, hI, itr⟩ := q2
    exact ⟨I, fp, P, St, rfl, keeps_trans q.1.1 k2, fresh q.1.1 hI, itr⟩
  refine fst_el (P := wpAny _ _ _ _ _ _) (show fst [iRng (TRn m) env.scope.names cx e, (tr env.scope.names m cx e).map .seq] = some pi from alt_two ht) ⟨fun h => ?_, fun h => mp_el (P := fun pi' => pi' = pi → _) h (fun px h1 e => seq px h1 e.symm) rfl, trivial⟩
  refine dCall_el (P := fun e => wpAny (model pg w) A (eval e env) _ NoE s) h fun f args kw pos h₁ => dName_el (P := fun f => wpAny (model pg w) A (eval (.Call f args kw pos) env) _ NoE s) h₁ fun f p h₂ => gd_el h₂ fun hc h₃ => em_el (P := fun kw => wpAny (model pg w) A (eval (.Call (.Name f p) args kw pos) env) _ NoE s) (and_l (and_l hc)) ?_
  have hf : f = ("range" : Str) := eq_of_beq (and_r hc)
  subst hf
  refine mp_el (P := fun pi => evI F μ ρ pi = some xs → _) h₃ (fun pxs h1 he => bd_el (show (evL F μ ρ pxs).bind rangeD = some xs from he) fun ds e1 e2 => ?_) he
  refine call_name (H.st _ _ _ _ h1).1 (boot_name W.glo r am rng_name (gl_is (and_r (and_l hc))).2 W.glo.rng (PyProof.Rows.callWith_type (plainArgs_any _ _) ?_))
  have main := H.li env cx ρ s args pxs ds r am h1 e1
  have hne : args ≠ [] := by
    rintro rfl
    have := (H.st _ _ _ _ h1).2
    have hp : pxs = [] := List.length_eq_zero_iff.mp this
    subst hp
    cases e1
    cases e2
  refine call_args main hne fun vs s₁ k₁ rs => ?_
  refine mono' (itr_rng hA.hh (am.up k₁) rs e2) fun xv s₂ q => ?_
  refine mono' q fun it s₃ q2 => ?_
  obtain ⟨I, fp, P, St, rfl, k2, hI, itr⟩ := q2
  exact ⟨I, fp, P, St, rfl, keeps_trans k₁ k2, fresh k₁ hI, itr⟩
end
end Mine
end
section
namespace Mine
section
variable {w : World} {base : Heap} {F : Nat → List D → Option D} {n : Nat} {A : Around} {ad : Ad} {μ : List (List D)}
noncomputable def compInner (elt : Expr) (gens : List Comprehension) (scope : Scope) (pos : Pos) (depth : Nat) (acc : Value) (env : Env) (k : Sem Fin) : Sem Fin :=
  match gens[depth + 1]? with
  | some g' => eval g'.iter env >>= fun x => standAt g'.iter.pos >>= fun _ => foldedSetIterable g'.iter env x >>= fun x => holding [x] (pyIter x) >>= fun it => runOwn (.compStart (.ListComp elt gens scope pos) (depth + 1) it acc env) env >>= fun _ => k
  | none => (eval elt env >>= fun x => call (.builtin "list.append") [acc, x] >>= fun _ => pure ()) >>= fun _ => k
noncomputable def compTests' (ifs : List Expr) (env : Env) : Sem Bool := forIn ifs true fun c r => if r = true then do let ok ← isTrue c env (eval c env); pure (ForInStep.yield ok) else pure (ForInStep.yield r)
theorem compTurn_at {elt target iter : Expr} {ifs : List Expr} {gens : List Comprehension} {scope : Scope} {pos : Pos} {depth : Nat} {it acc : Value} {env : Env} (hg : gens[depth]? = some ⟨target, iter, ifs, 0⟩) (hz : ∀ g', gens[depth + 1]? = some g' → g'.is_async = 0) :
    compTurn (.ListComp elt gens scope pos) depth it acc env = (standAt iter.pos >>= fun _ => pyNext it >>= fun r => match r with
      | none => pure (.done .next)
      | some v => letOwnedTupleGo target it v >>= fun _ => assign target env v >>= fun _ => compTests' ifs env >>= fun ok =>
        (if ok = true then compInner elt gens scope pos depth acc env (again (.compLoop (.ListComp elt gens scope pos) depth it acc env)) else again (.compLoop (.ListComp elt gens scope pos) depth it acc env))) := by
  unfold compTurn compInner compTests'
  simp only [hg]
  cases hq : gens[depth + 1]? with
  | none => rfl
  | some g' =>
    have := hz g' hq
    obtain ⟨a, b, c, d⟩ := g'
    simp only at this
    subst this
    rfl
theorem comp_loop_at {elt target iter : Expr} {ifs : List Expr} {gens : List Comprehension} {scope : Scope} {pos : Pos} {depth : Nat} {it acc : Value} {env : Env} {R : Result → Shared → Prop} {s : Shared} (hg : gens[depth]? = some ⟨target, iter, ifs, 0⟩)
    (hz : ∀ g', gens[depth + 1]? = some g' → g'.is_async = 0) (I : Nat → Shared → Prop)
    (turn : ∀ n s, I n s → wpAny (model pg w) A (pyNext it) (fun r s₁ => match r with
      | none => R (.ok .next) s₁
      | some v => wpAny (model pg w) A (assign target env v) (fun _ s₂ => wpAny (model pg w) A (compTests' ifs env) (fun ok s₃ =>
            if ok = true then ∀ (k : Sem Fin) (Q : Fin → Shared → Prop) (E : Value → Shared → Prop), (∀ s₄ m, m < n → I m s₄ → wpAny (model pg w) A k Q E s₄) → wpAny (model pg w) A (compInner elt gens scope pos depth acc env k) Q E s₃ else ∃ m, m < n ∧ I m s₃) NoE s₂) NoE s₁) NoE s)
    (n : Nat) (h : I n s) (ht : ∀ v, letOwnedTupleGo target it v = pure () := by intro _; rfl) :
    codeAny (model pg w) A (.compLoop (.ListComp elt gens scope pos) depth it acc env) R s := by
  refine codeAny_loop rfl I (fun n s hI => ?_) n h
  show wpAny _ A ((compTurn (.ListComp elt gens scope pos) depth it acc env).onRaise (fun x => do noteFrame x env; theTreesLotGoes x)) _ _ s
  refine wpAny_noted ?_
  rw [compTurn_at hg hz]
  refine wpAny_bind (wpAny_standAt (wpAny_bind (mono' (turn n s hI) fun r s₁ h₁ => ?_)))
  cases r with
  | none => exact wpAny_pure h₁
  | some v =>
    refine wpAny_bind (wpAny_of_eq (ht v) ?_)
    refine wpAny_bind (mono' h₁ fun _ s₂ h₂ => wpAny_bind (mono' h₂ fun ok s₃ h₃ => ?_))
    cases ok with
    | false => exact wpAny_pure ⟨rfl, h₃⟩
    | true => exact h₃ _ _ _ fun s₄ m hm hi => wpAny_pure ⟨rfl, m, hm, hi⟩
theorem comp_start_at {elt target iter : Expr} {ifs : List Expr} {gens : List Comprehension} {scope : Scope} {pos : Pos} {depth : Nat} {it acc : Value} {env : Env} {R : Result → Shared → Prop} {s : Shared} (hg : gens[depth]? = some ⟨target, iter, ifs, 0⟩)
    (h0 : codeAny (model pg w) A (.compLoop (.ListComp elt gens scope pos) depth it acc env) R s)
    (h : wpAny (model pg w) A (pyIter it) (fun it' s' => codeAny (model pg w) A (.compLoop (.ListComp elt gens scope pos) depth it' acc env) R s') NoE s) :
    codeAny (model pg w) A (.compStart (.ListComp elt gens scope pos) depth it acc env) R s := by
  refine codeAny_of_tree ?_
  show wpAny _ _ ((compStart (.ListComp elt gens scope pos) depth it acc env).onRaise (fun x => do noteFrame x env; standAt theWindowsPlace)) _ _ s
  refine wpAny_notedAt ?_
  unfold compStart
  have hc : clausesOf (.ListComp elt gens scope pos) = gens := rfl
  rw [hc, hg]
  show wpAny _ _ (ask >>= _) _ _ s
  refine wpAny_bind (wpAny_askSetting (wpAny_ite ?_))
  split
  · first
      | exact wpAny_bind (wpAny_pure (wpAny_pure (And.intro rfl h0)))
      | exact wpAny_pure (And.intro rfl h0)
  · first
      | exact wpAny_bind (wpAny_rule (wpAny_bind (wpAny_standAt (wpAny_bind (mono' h fun it' s' h' => wpAny_pure (And.intro rfl h'))))))
      | (refine wpAny_bind (wpAny_rule ?_); show wpAny _ _ (standAt iter.pos >>= _) _ _ s; exact wpAny_bind (wpAny_standAt (wpAny_bind (mono' h fun it' s' h' => wpAny_pure (And.intro rfl h')))))
theorem tests_false {env : Env} : ∀ (ifs : List Expr), (forIn ifs false fun c r => if r = true then do let ok ← isTrue c env (eval c env); pure (ForInStep.yield ok) else pure (ForInStep.yield r) : Sem Bool) = pure false
  | [] => rfl
  | c :: r => by rw [List.forIn_cons]; exact tests_false r
theorem tests_ok {M : Nat} (Hs : ∀ m, m ≤ M → Snd w base F A ad μ m) {env : Env} {cx : List Str} {ρ : List (Option D)} : ∀ (ifs : List Expr) (fuel : Nat) (conds : List PX) (s : Shared) (b : Bool), fuel ≤ M + 1 → ER env cx ρ ad s.heap → Amb base ad μ s.heap →
    trL env.scope.names fuel cx ifs = some conds → evT F μ ρ conds = some b → wpAny (model pg w) A (compTests' ifs env) (fun ok s' => ok = b ∧ Keeps s s') NoE s
  | [], fuel, conds, s, b, hf, r, am, ht, he => by
    cases fuel with
    | zero => cases ht
    | succ k =>
      cases ht
      cases he
      exact wpAny_pure ⟨rfl, keeps_refl _⟩
  | c :: ifs, fuel, conds, s, b, hf, r, am, ht, he => by
    cases fuel with
    | zero => cases ht
    | succ k =>
      obtain ⟨p1, p2, h1, h2, rfl⟩ := trL_cons ht
      simp only [qevT0, qevT1] at he
      split at he
      · cases he
      rename_i d ed
      unfold compTests'
      rw [List.forIn_cons]
      simp only [if_true]
      split at he
      · cases he
      · rename_i hb
        injection he with he; subst he
        refine wpAny_bind (wpAny_bind (mono' ((Hs k (by omega)).tru env cx ρ s c p1 d false r am h1 ed hb) fun ok s' q => wpAny_pure ?_))
        obtain ⟨rfl, k'⟩ := q
        show wpAny _ _ (forIn ifs false _) _ _ _
        rw [tests_false]
        exact wpAny_pure ⟨rfl, k'⟩
      · rename_i hb
        refine wpAny_bind (wpAny_bind (mono' ((Hs k (by omega)).tru env cx ρ s c p1 d true r am h1 ed hb) fun ok s' q => wpAny_pure ?_))
        obtain ⟨rfl, k'⟩ := q
        have := tests_ok Hs ifs k p2 s' b (by omega) (r.up k') (am.up k') h2 he
        exact mono' this fun ok s'' q2 => ⟨q2.1, keeps_trans k' q2.2⟩
theorem ER.weak {env : Env} {cx : List Str} {ρ ρ' : List (Option D)} {h : Heap} (r : ER env cx ρ' ad h) (k : ∀ (i : Nat) d, ρ[i]? = some (some d) → ρ'[i]? = some (some d)) : ER env cx ρ ad h :=
  { r with var := fun x i d a b => r.var x i d a (k i d b) }
theorem set_weak {ρ : List (Option D)} {sl : Nat} {x : Option D} (h : ∀ d, ρ[sl]? ≠ some (some d)) (i : Nat) (d : D) (e : ρ[i]? = some (some d)) : (ρ.set sl x)[i]? = some (some d) := by
  by_cases hq : sl = i
  · subst hq; exact absurd e (h d)
  · rw [List.getElem?_set_ne hq]; exact e
noncomputable def Writes (h₀ : Heap) (env : Env) (ys : List Str) : Prop := h₀.get? env.locals = none ∧ ∀ y ∈ ys, (env.kindOf y = some .local ∨ env.kindOf y = some .cell) ∧ ∀ c, env.kindOf y = some .cell → env.cells.lookup y = some c → h₀.get? c = none
theorem reps_it {ad : Ad} {I : Addr} {fp : List Addr} {xs : List D} {P : Nat → Value → Prop} {St : Nat → Heap → Prop} {h h' : Heap} (it : Itr w A ad I fp xs P St h) {i : Nat} {d : D} {v : Value} (e : xs[i]? = some d) (p : P i v) {av : List Addr} (k : Kx (av ++ [I]) h h') (hs : ∀ a ∈ av, a ∈ ad.all) : Rep ad h' d v := by
  refine Rep.sk (fun b o hb hg hq => ?_) _ _ (it.rep i d v e p)
  refine k b o (fun m => ?_) hg (still_notNs hq)
  rcases List.mem_append.mp m with m | m
  · exact hb (hs b m)
  · rw [List.mem_singleton.mp m] at hg
    obtain ⟨oI, eI, hI⟩ := it.fld 0 h it.st
    rw [eI] at hg; injection hg with hg; subst hg
    exact isIt_not hI hq
theorem collect_cons {f : D → Option (List D)} {d : D} {r ws : List D} (h : collectM f (d :: r) = some ws) : ∃ a b, f d = some a ∧ collectM f r = some b ∧ ws = a ++ b := by
  simp only [qcollectM0, qcollectM1] at h
  split at h
  · cases h
  · rename_i a ha
    split at h
    · cases h
    · rename_i b hb
      cases h; exact ⟨a, b, ha, hb, rfl⟩
structure CSt (base h₀ : Heap) (μ : List (List D)) (cenv : Env) (cx : List Str) (ad : Ad) (Dd : Addr) (ρ : List (Option D)) (ys : List D) (vs : List Value) (h : Heap) : Prop where
  er : ER cenv cx ρ (ad.off Dd) h
  am : Amb base (ad.off Dd) μ h
  pl : PL h Dd vs
  rs : Reps (ad.off Dd) h ys vs
  kh : Kept h₀ h
theorem CSt.kept {h₀ : Heap} {cenv : Env} {cx : List Str} {Dd : Addr} {ρ : List (Option D)} {ys : List D} {vs : List Value} {h h' : Heap} (c : CSt base h₀ μ cenv cx ad Dd ρ ys vs h) (k : Kept h h') : CSt base h₀ μ cenv cx ad Dd ρ ys vs h' := ⟨c.er.kept k, c.am.kept k, c.pl.kept k, c.rs.kept k, c.kh.trans k⟩
inductive CInv (base h₀ : Heap) (μ : List (List D)) (cenv : Env) (cx : List Str) (ad : Ad) (Dd I : Addr) (ρ : List (Option D)) (s : Shared) (St : Nat → Heap → Prop) (f : D → Option (List D)) (xs ys zs : List D) (k : Nat) (s' : Shared) : Prop
  | mk (h' : Heap) (tk i : Nat) (us ws : List D) (vs' : List Value) (e : s' = { s with heap := h', toks := tk }) (hk : k = xs.length + 1 - i) (hi : i ≤ xs.length) (st : St i h') (c : CSt base h₀ μ cenv cx ad Dd ρ (ys ++ us) vs' h')
    (hc : collectM f (xs.drop i) = some ws) (hz : zs = us ++ ws) (kx : Kx [Dd, I] s.heap h')
theorem comp_gen {M : Nat} {elt : Expr} {gens : List Comprehension} {scope : Scope} {pos : Pos} {cenv : Env} {cx : List Str} {h₀ : Heap} {Dd : Addr} (Hs : ∀ m, m ≤ M → Snd w base F A (ad.off Dd) μ m) (hD₀ : h₀.get? Dd = none) (hDad : Dd ∉ ad.all) (hb₀ : Kept base h₀)
    {fuel depth : Nat} {x : Str} {px : Pos} {iter : Expr} {ifs : List Expr} {conds : List PX} {I : Addr} {fp : List Addr} {P : Nat → Value → Prop} {St : Nat → Heap → Prop} {xs ys zs : List D} {vs : List Value} {ρ : List (Option D)} {s : Shared} {R : Result → Shared → Prop} {sl : Nat} {f : D → Option (List D)}
    (hfu : fuel ≤ M + 1) (hg : gens[depth]? = some ⟨.Name x px, iter, ifs, 0⟩) (hz : ∀ g', gens[depth + 1]? = some g' → g'.is_async = 0) (hsl : fi x cx = some sl) (htc : trL cenv.scope.names fuel cx ifs = some conds) (hev : collectM f xs = some zs)
    (c₀ : CSt base h₀ μ cenv cx ad Dd ρ ys vs s.heap) (it : Itr w A (ad.off Dd) I fp xs P St s.heap) (hlen : ys.length + zs.length ≤ lim)
    (hI : h₀.get? I = none) (hw : h₀.get? cenv.locals = none ∧ (cenv.kindOf x = some .local ∨ cenv.kindOf x = some .cell) ∧ ∀ c, cenv.kindOf x = some .cell → cenv.cells.lookup x = some c → h₀.get? c = none) (hfree : ∀ d, ρ[sl]? ≠ some (some d))
    (hbody : ∀ d us, f d = some us → ∃ b, evT F μ (ρ.set sl (some d)) conds = some b ∧ (b = false → us = []) ∧ (b = true → ∀ (s₃ : Shared) (ys : List D) (vs : List Value), CSt base h₀ μ cenv cx ad Dd (ρ.set sl (some d)) ys vs s₃.heap → ys.length + us.length ≤ lim →
      ∀ (k : Sem Fin) (Q : Fin → Shared → Prop) (E : Value → Shared → Prop), (∀ s₄ vs', (∃ h' tk, s₄ = { s₃ with heap := h', toks := tk }) → CSt base h₀ μ cenv cx ad Dd (ρ.set sl (some d)) (ys ++ us) vs' s₄.heap → Kx [Dd] s₃.heap s₄.heap → wpAny (model pg w) A k Q E s₄) →
        wpAny (model pg w) A (compInner elt gens scope pos depth (.ref Dd) cenv k) Q E s₃))
    (hR : ∀ s' vs', (∃ h' tk, s' = { s with heap := h', toks := tk }) → CSt base h₀ μ cenv cx ad Dd ρ (ys ++ zs) vs' s'.heap → Kx [Dd, I] s.heap s'.heap → R (.ok .next) s') :
    codeAny (model pg w) A (.compLoop (.ListComp elt gens scope pos) depth (.ref I) (.ref Dd) cenv) R s := by
  have hDI : Dd ≠ I := by
    rintro rfl
    obtain ⟨m, e⟩ := c₀.pl
    obtain ⟨oI, eI, hI⟩ := it.fld 0 _ it.st
    rw [e] at eI; injection eI with eI; subst eI
    exact isIt_not hI (.inl ⟨_, _, rfl⟩)
  have hfpD : ∀ b ∈ fp, b ∉ [Dd] := fun b hb m => it.off b hb (List.mem_singleton.mp m ▸ Ad.mem_off.mpr (.inr rfl))
  have hDall : Dd ∈ (ad.off Dd).all := Ad.mem_off.mpr (.inr rfl)
  refine comp_loop_at hg hz (CInv base h₀ μ cenv cx ad Dd I ρ s St f xs ys zs) ?_ (xs.length + 1) ⟨s.heap, s.toks, 0, [], zs, vs, rfl, rfl, Nat.zero_le _, it.st, by rw [List.append_nil]; exact c₀, hev, rfl, fun b o _ e _ => e⟩
  rintro k s' ⟨h', tk, i, us, ws, vs', rfl, rfl, hi, st, ⟨er', am', pl', rs', kh'⟩, hc, hzs, kx⟩
  by_cases hlt : i < xs.length
  · have hd : xs[i]? = some xs[i] := List.getElem?_eq_getElem hlt
    generalize xs[i] = d at hd
    have hdrop : xs.drop i = d :: xs.drop (i + 1) := by
      rw [List.drop_eq_getElem_cons hlt]; congr 1
      rw [List.getElem?_eq_getElem hlt] at hd; injection hd
    rw [hdrop] at hc
    obtain ⟨a, b, ha, hb, rfl⟩ := collect_cons hc
    obtain ⟨bb, hbb, hbf, hbt⟩ := hbody d a ha
    refine it.W.item i _ _ _ hlt st fun v h₁ tk₁ hP st₁ k₁ => ?_
    obtain ⟨kc, sk⟩ := step_keep (it.fld i h' st) k₁
    have kh₁ : Kept h₀ h₁ := kh'.buts k₁ fun b m => by rw [List.mem_singleton.mp m]; exact hI
    have er₁ := er'.keep kc (fun b o _ e q => sk b o (by simp) e q)
    have am₁ := am'.sk0 sk (hb₀.trans kh₁) kc.dk
    have kx₁ : Kx [Dd, I] s.heap h₁ := fun b o hb e n => k₁ b o (fun m => hb (by rw [List.mem_singleton.mp m]; simp)) (kx b o hb e n)
    have rv : Rep (ad.off Dd) h₁ d v := reps_it it hd hP (av := [Dd]) kx₁ (by intro a ha; rw [List.mem_singleton.mp ha]; exact hDall)
    refine wpAny_assign_Name (ER.store (s := { s with heap := h₁, toks := tk₁ }) er₁ hsl hw.2.1 rv fun h₂ tk₂ a₂ er₂ ha₂ hsb kd dk₂ => ?_)
    have hn₂ : h₀.get? a₂ = none := by
      rcases ha₂ with rfl | ⟨q1, q2⟩
      · exact hw.1
      · exact hw.2.2 _ q1 q2
    have kh₂ : Kept h₀ h₂ := kh₁.same hsb hn₂
    have am₂ : Amb base (ad.off Dd) μ h₂ := am₁.sk0 kd.sk (hb₀.trans kh₂) dk₂
    have kx₂ : Kx [Dd, I] s.heap h₂ := kx₁.trans (kd.kx _)
    have st₂ : St (i + 1) h₂ := it.keep st₁ (kd.kx [Dd]) hfpD
    have pl₂ : PL h₂ Dd vs' := SK.pl kd.sk (by simp : Dd ∉ []) (SK.pl sk (by simp) pl')
    have rs₂ : Reps (ad.off Dd) h₂ (ys ++ us) vs' := Reps.sk (fun b o _ e q => kd.sk b o (by simp : b ∉ []) (sk b o (by simp) e q) q) _ _ rs'
    refine mono' (tests_ok Hs ifs fuel conds { s with heap := h₂, toks := tk₂ } bb hfu er₂ am₂ htc hbb) fun ok s₃ q => ?_
    obtain ⟨rfl, h₃, tk₃, rfl, k₃⟩ := q
    have hlen' : ys.length + (us.length + (a.length + b.length)) ≤ lim := by rw [hzs] at hlen; simpa using hlen
    cases ok with
    | false =>
      simp only [Bool.false_eq_true, if_false]
      have := hbf rfl
      subst this
      exact ⟨xs.length + 1 - (i + 1), by omega, h₃, tk₃, i + 1, us, b, vs', rfl, rfl, hlt, it.keep st₂ (Kept.kx k₃ [Dd]) hfpD, ⟨(er₂.kept k₃).weak (set_weak hfree), am₂.kept k₃, pl₂.kept k₃, rs₂.kept k₃, kh₂.trans k₃⟩, hb, hzs, kx₂.trans (Kept.kx k₃ _)⟩
    | true =>
      simp only [if_true]
      intro kk Q E hk
      refine hbt rfl { s with heap := h₃, toks := tk₃ } (ys ++ us) vs' ⟨er₂.kept k₃, am₂.kept k₃, pl₂.kept k₃, rs₂.kept k₃, kh₂.trans k₃⟩ (by rw [List.length_append]; lia) kk Q E fun s₄ vs'' hs₄ c₄ kx₄ => ?_
      obtain ⟨h₄, tk₄, rfl⟩ := hs₄
      exact hk _ (xs.length + 1 - (i + 1)) (by omega) ⟨h₄, tk₄, i + 1, us ++ a, b, vs'', rfl, rfl, hlt, it.keep (it.keep st₂ (Kept.kx k₃ [Dd]) hfpD) kx₄ hfpD, ⟨c₄.er.weak (set_weak hfree), c₄.am, c₄.pl, by rw [← List.append_assoc]; exact c₄.rs, c₄.kh⟩, hb, by rw [hzs, List.append_assoc], (kx₂.trans (Kept.kx k₃ _)).trans (kx₄.more (by simp))⟩
  · have hin : i = xs.length := by lia
    subst hin
    rw [List.drop_length] at hc
    cases hc
    refine it.W.done _ _ _ st fun h₁ tk₁ k₁ => ?_
    obtain ⟨kc, sk⟩ := step_keep (it.fld _ h' st) k₁
    have kh₁ : Kept h₀ h₁ := kh'.buts k₁ fun b m => by rw [List.mem_singleton.mp m]; exact hI
    refine hR _ vs' ⟨h₁, tk₁, rfl⟩ ⟨er'.keep kc (fun b o _ e q => sk b o (by simp) e q), am'.sk0 sk (hb₀.trans kh₁) kc.dk, SK.pl sk (by simp) pl', ?_, kh₁⟩ ?_
    · rw [hzs, List.append_nil]
      exact Reps.sk (fun b o _ e q => sk b o (by simp) e q) _ _ rs'
    · exact fun b o hb e n => k₁ b o (fun m => hb (by rw [List.mem_singleton.mp m]; simp)) (kx b o hb e n)
end
end Mine
end
section
namespace Mine
section
variable {w : World} {base : Heap} {F : Nat → List D → Option D} {n : Nat} {A : Around} {ad : Ad} {μ : List (List D)}
theorem at_drop {α : Type} {l r : List α} {i : Nat} {x : α} (h : l.drop i = x :: r) : l[i]? = some x ∧ l.drop (i + 1) = r ∧ l[i + 1]? = r.head? := by
  have h1 : l[i]? = some x := by
    have : (l.drop i)[0]? = some x := by rw [h]; rfl
    rwa [List.getElem?_drop, Nat.add_zero] at this
  have h2 : l.drop (i + 1) = r := by
    have : (l.drop i).drop 1 = r := by rw [h]; rfl
    rwa [List.drop_drop] at this
  refine ⟨h1, h2, ?_⟩
  have : (l.drop (i + 1))[0]? = r.head? := by rw [h2]; cases r <;> rfl
  rwa [List.getElem?_drop, Nat.add_zero] at this
theorem folded_plain {e : Expr} {nm : List (Str × NameKind)} {m : Nat} {cx : List Str} {pi : PI} (h : trI nm m cx e = some pi) (env : Env) (v : Value) : foldedSetIterable e env v = pure v := by
  cases m with
  | zero => cases h
  | succ m =>
    exact fst_el (P := foldedSetIterable e env v = pure v) (show fst [iRng (TRn m) nm cx e, (tr nm m cx e).map .seq] = some pi from alt_two h) ⟨fun h => dCall_el (P := fun e => foldedSetIterable e env v = pure v) h fun _ _ _ _ _ => rfl, fun h => mp_el (P := fun _ => foldedSetIterable e env v = pure v) h fun px h1 => by cases shp h1 <;> rfl, trivial⟩
theorem comp_loop {M : Nat} (W : Wd w base F n) (hA : AOK (n + 1) A) {elt : Expr} {gens : List Comprehension} {scope : Scope} {pos : Pos} {cenv : Env} {cx : List Str} {h₀ : Heap} {Dd : Addr} (Hs : ∀ m, m ≤ M → Snd w base F A (ad.off Dd) μ m) (hD₀ : h₀.get? Dd = none) (hDad : Dd ∉ ad.all) (hb₀ : Kept base h₀) :
    ∀ (rest : List Comprehension) (fuel depth : Nat) (x : Str) (px : Pos) (iter : Expr) (ifs : List Expr) (c : PC) (I : Addr) (fp : List Addr) (P : Nat → Value → Prop) (St : Nat → Heap → Prop) (xs ys zs : List D) (vs : List Value) (ρ : List (Option D)) (s : Shared) (R : Result → Shared → Prop),
    fuel ≤ M + 1 → gens.drop depth = ⟨.Name x px, iter, ifs, 0⟩ :: rest → trC cenv.scope.names fuel cx x ifs rest elt = some c → evC F μ ρ c xs = some zs →
    CSt base h₀ μ cenv cx ad Dd ρ ys vs s.heap → Itr w A (ad.off Dd) I fp xs P St s.heap → ys.length + zs.length ≤ lim → h₀.get? I = none → Writes h₀ cenv (x :: rest.filterMap nameOf) → (x :: rest.filterMap nameOf).Nodup → (∀ y ∈ x :: rest.filterMap nameOf, ∀ j d, fi y cx = some j → ρ[j]? ≠ some (some d)) →
    (∀ s' vs', (∃ h' tk, s' = { s with heap := h', toks := tk }) → CSt base h₀ μ cenv cx ad Dd ρ (ys ++ zs) vs' s'.heap → Kx [Dd, I] s.heap s'.heap → R (.ok .next) s') →
    codeAny (model pg w) A (.compLoop (.ListComp elt gens scope pos) depth (.ref I) (.ref Dd) cenv) R s := by
  intro rest
  induction rest with
  | nil =>
    intro fuel depth x px iter ifs c I fp P St xs ys zs vs ρ s R hfu hg htc hev c₀ it hlen hI hw hnd hfree hR
    obtain ⟨g1, g2, g3⟩ := at_drop hg
    cases fuel with
    | zero => cases htc
    | succ fuel =>
        refine trC_nil (P := fun c => evC F μ ρ c xs = some zs → _) htc (fun sl conds pe hsl h1 h2 hev => ?_) hev
        simp only [qevC0, qevC1] at hev
        have hwx := hw.2 x (.head _)
        refine comp_gen Hs hD₀ hDad hb₀ (fuel := fuel) (by omega) g1 (fun g' q => by rw [g3] at q; cases q) hsl h1 hev c₀ it hlen hI ⟨hw.1, hwx.1, hwx.2⟩ (fun d => hfree x (.head _) sl d hsl) (fun d us hd => ?_) hR
        split at hd
        · cases hd
        · rename_i hb; injection hd with hd; subst hd
          exact ⟨false, hb, fun _ => rfl, (fun q => nomatch q)⟩
        · rename_i hb
          obtain ⟨y, hy, rfl⟩ := Option.map_eq_some_iff.mp hd
          refine ⟨true, hb, (fun q => nomatch q), fun _ s₃ ys₃ vs₃ c₃ hl₃ k Q E hk => ?_⟩
          unfold compInner
          rw [g3]
          refine wpAny_bind (wpAny_bind (mono' ((Hs fuel (by omega)).ex cenv cx _ s₃ elt pe y c₃.er c₃.am h2 hy) fun v s₄ q => wpAny_bind ?_))
          obtain ⟨⟨⟨h₄, tk₄, rfl, k₄⟩, rv⟩, _⟩ := q
          have pl₄ := c₃.pl.kept k₄
          have hsz : vs₃.length ≤ sizeLine := by rw [c₃.rs.length, sizeLine_eq]; unfold lim at hl₃; lia
          refine wpAny_list_append_plain (hsz := by simpa using hsz) pl₄ fun h₅ pl₅ hs₅ => wpAny_pure ?_
          have pl₅' : PL h₅ Dd (vs₃ ++ [v]) := by simpa using pl₅
          obtain ⟨kc, sk⟩ := list_keep pl₄ hs₅
          have hDall : Dd ∈ (ad.off Dd).all := Ad.mem_off.mpr (.inr rfl)
          have sk' : SK (ad.off Dd).all h₄ h₅ := fun b o n e q => sk b o (fun m => n (by rw [List.mem_singleton.mp m]; exact hDall)) e q
          have kh₅ : Kept h₀ h₅ := (c₃.kh.trans k₄).same hs₅ hD₀
          refine hk _ (vs₃ ++ [v]) ⟨h₅, tk₄, rfl⟩ ⟨(c₃.er.kept k₄).keep kc sk', (c₃.am.kept k₄).app hDad hs₅ pl₅' (hb₀.trans kh₅) kc.dk, pl₅', (Reps.sk sk' _ _ (c₃.rs.kept k₄)).snoc (Rep.sk sk' _ _ rv), kh₅⟩ ?_
          exact fun b o hb e n => (hs₅.2 b fun m => hb (by rw [m]; simp)).trans (k₄.at e n.1)
  | cons g' rest' ih =>
    intro fuel depth x px iter ifs c I fp P St xs ys zs vs ρ s R hfu hg htc hev c₀ it hlen hI hw hnd hfree hR
    obtain ⟨g1, g2, g3⟩ := at_drop hg
    cases fuel with
    | zero => cases htc
    | succ fuel =>
        obtain ⟨t', iter', ifs', a'⟩ := g'
        refine trC_cons (P := fun t a c => gens.drop depth = ⟨.Name x px, iter, ifs, 0⟩ :: ⟨t, iter', ifs', a⟩ :: rest' → gens[depth + 1]? = some ⟨t, iter', ifs', a⟩ → Writes h₀ cenv (x :: List.filterMap nameOf (⟨t, iter', ifs', a⟩ :: rest')) → (x :: List.filterMap nameOf (⟨t, iter', ifs', a⟩ :: rest')).Nodup →
          (∀ y ∈ x :: List.filterMap nameOf (⟨t, iter', ifs', a⟩ :: rest'), ∀ j d, fi y cx = some j → ρ[j]? ≠ some (some d)) → List.drop (depth + 1) gens = ⟨t, iter', ifs', a⟩ :: rest' → evC F μ ρ c xs = some zs → codeAny _ _ _ _ _) htc (fun sl conds yn py pi c' hsl h1 h2 h3 hg g3 hw hnd hfree g2 hev => ?_) hg g3 hw hnd hfree g2 hev
        simp only [qevC0, qevC1] at hev
        have hwx := hw.2 x (.head _)
        have hyx : yn ≠ x := by
          rintro rfl
          rw [fm_cons] at hnd
          exact (List.nodup_cons.mp hnd).1 (.head _)
        refine comp_gen Hs hD₀ hDad hb₀ (fuel := fuel) (by omega) g1 (fun g' q => by rw [g3] at q; injection q with q; subst q; rfl) hsl h1 hev c₀ it hlen hI ⟨hw.1, hwx.1, hwx.2⟩ (fun d => hfree x (.head _) sl d hsl) (fun d us hd => ?_) hR
        split at hd
        · cases hd
        · rename_i hb; injection hd with hd; subst hd
          exact ⟨false, hb, fun _ => rfl, (fun q => nomatch q)⟩
        · rename_i hb
          refine bd_el hd fun ys' hys' hd => ?_
          refine ⟨true, hb, (fun q => nomatch q), fun _ s₃ ys₃ vs₃ c₃ hl₃ k Q E hk => ?_⟩
          unfold compInner
          rw [g3]
          dsimp only [List.head?_cons]
          cases fuel with
          | zero => cases h2
          | succ fuel =>
          refine wpAny_bind (mono' (pi_iter W hA (Hs fuel (by omega)) c₃.er c₃.am h2 hys') fun xv s₄ q => ?_)
          refine wpAny_bind (wpAny_standAt (wpAny_bind (wpAny_of_eq (folded_plain h2 _ _) (wpAny_bind (wpAny_holding (mono' q fun itv s₅ q2 => ?_))))))
          obtain ⟨I', fp', P', St', rfl, k₅, hI', it'⟩ := q2
          obtain ⟨h₅, tk₅, rfl, k₅⟩ := k₅
          have hI₀ : h₀.get? I' = none := by
            cases e : h₀.get? I' with
            | none => rfl
            | some o => have := c₃.kh.none hI'; rw [e] at this; cases this
          refine wpAny_bind (wpAny_runOwn ?_)
          have loop : codeAny (model pg w) A (.compLoop (.ListComp elt gens scope pos) (depth + 1) (.ref I') (.ref Dd) cenv) (fun r s' => match r with | .ok f => wpAny (model pg w) A k Q E s' | .error e => cameBackBy (model pg w) A cenv E e s') { s₃ with heap := h₅, toks := tk₅ } := by
            refine ih (fuel + 1) (depth + 1) yn py iter' ifs' c' I' fp' P' St' ys' ys₃ us vs₃ (ρ.set sl (some d)) _ _ (by omega) g2 h3 hd (c₃.kept k₅) it' hl₃ hI₀ ⟨hw.1, fun y hy => hw.2 y (.tail _ hy)⟩ ?_ ?_ ?_
            · exact (List.nodup_cons.mp hnd).2
            · intro y hy j dd hj
              have hyx' : y ≠ x := by
                rintro rfl
                exact (List.nodup_cons.mp hnd).1 hy
              have hne : sl ≠ j := fun q => hyx' (fi_inj hj (q ▸ hsl))
              rw [List.getElem?_set_ne hne]
              exact hfree y (.tail _ hy) j dd hj
            · rintro s' vs' ⟨h', tk', rfl⟩ c' kx'
              refine hk _ vs' ⟨h', tk', rfl⟩ c' fun b o hb e n => kx' b o (fun m => ?_) (k₅.at e n.1) n
              simp only [List.mem_cons, List.not_mem_nil, or_false] at m hb
              rcases m with rfl | rfl
              · exact hb rfl
              · rw [hI'] at e; cases e
          have hg' : gens[depth + 1]? = some ⟨.Name yn py, iter', ifs', 0⟩ := g3
          exact comp_start_at hg' loop (it'.W.self 0 _ _ _ it'.st loop)
end
end Mine
end
section
namespace Mine
noncomputable def closL (cells : List (Str × Addr)) : List (Str × NameKind) → List (Str × Addr) → List (Str × Addr)
  | [], acc => acc
  | (n, k) :: r, acc => if k == .free then closL cells r ((n, (cells.lookup n).getD 0) :: acc) else closL cells r acc
theorem clos_loop {env : Env} : ∀ (names : List (Str × NameKind)) (acc : List (Str × Addr)) (f : Str × NameKind → List (Str × Addr) → Sem (ForInStep (List (Str × Addr)))), (∀ n k cs, f (n, k) cs = if (k == .free) = true then (do let c ← cellOf env n; pure (.yield ((n, c) :: cs))) else pure (.yield cs)) →
    (∀ p ∈ names, p.2 = .free → ∃ c, env.cells.lookup p.1 = some c) → forIn names acc f = pure (closL env.cells names acc)
  | [], acc, f, hf, h => rfl
  | (n, k) :: r, acc, f, hf, h => by
    rw [List.forIn_cons, hf]
    have hr := fun a => clos_loop r a f hf fun p hp => h p (.tail _ hp)
    unfold closL
    by_cases hk : (k == .free) = true
    · obtain ⟨c, hc⟩ := h (n, k) (.head _) (by simpa using hk)
      simp only [hk, if_true]
      have hco : cellOf env n = pure c := by unfold cellOf; rw [hc]
      rw [hco]
      simp only at hc
      rw [hc]
      exact hr _
    · simp only [hk]
      exact hr _
theorem clos_eq {env : Env} {sc : Scope} (h : ∀ p ∈ sc.names, p.2 = .free → ∃ c, env.cells.lookup p.1 = some c) : closureFor sc env = pure (closL env.cells sc.names []) := by
  unfold closureFor
  have := clos_loop (env := env) sc.names [] (fun x cs => match x with | (name, kind) => if (kind == NameKind.free) = true then (do let c ← cellOf env name; pure (.yield ((name, c) :: cs))) else pure (.yield cs)) (fun n k cs => rfl) h
  dsimp only
  rw [this]
  rfl
theorem lookup_none_of {α : Type} {y : Str} : ∀ {l : List (Str × α)}, y ∉ l.map (·.1) → l.lookup y = none
  | [], _ => rfl
  | (n, k) :: r, h => by
    simp only [List.map_cons, List.mem_cons, not_or] at h
    rw [List.lookup_cons, show (y == n) = false by simpa using h.1]
    exact lookup_none_of h.2
theorem closL_lookup {cells : List (Str × Addr)} {y : Str} : ∀ (names : List (Str × NameKind)) (acc : List (Str × Addr)), (names.map (·.1)).Nodup →
    (names.lookup y = some .free → (closL cells names acc).lookup y = some ((cells.lookup y).getD 0)) ∧ (names.lookup y ≠ some .free → (closL cells names acc).lookup y = acc.lookup y)
  | [], acc, _ => ⟨fun h => by simp at h, fun _ => rfl⟩
  | (n, k) :: r, acc, h => by
    simp only [List.map_cons, List.nodup_cons] at h
    have ih := fun a => closL_lookup (cells := cells) (y := y) r a h.2
    unfold closL
    rw [List.lookup_cons]
    by_cases hy : y = n
    · subst hy
      have hr : r.lookup y = none := lookup_none_of h.1
      simp only [beq_self_eq_true]
      have := fun a => (ih a).2 (by rw [hr]; simp)
      constructor
      · intro hk
        injection hk with hk; subst hk
        simp only [beq_self_eq_true, if_true]
        rw [this, List.lookup_cons]; simp
      · intro hk
        have : (k == NameKind.free) = false := by simpa using fun q => hk (by rw [q])
        simp only [this, Bool.false_eq_true, if_false]
        rename_i t; exact t _
    · have hb : (y == n) = false := by simpa using hy
      simp only [hb]
      by_cases hk : (k == .free) = true
      · simp only [hk, if_true]
        have := ih ((n, (cells.lookup n).getD 0) :: acc)
        rw [List.lookup_cons, hb] at this
        exact this
      · simp only [hk]
        exact ih acc
theorem closL_mem {cells : List (Str × Addr)} {p : Str × Addr} : ∀ (names : List (Str × NameKind)) (acc : List (Str × Addr)), p ∈ closL cells names acc → (∃ k, (p.1, k) ∈ names ∧ k = NameKind.free ∧ p.2 = (cells.lookup p.1).getD 0) ∨ p ∈ acc
  | [], acc, h => .inr h
  | (n, k) :: r, acc, h => by
    unfold closL at h
    split at h
    · rename_i hk
      rcases closL_mem r _ h with ⟨k', a, b, c⟩ | h
      · exact .inl ⟨k', .tail _ a, b, c⟩
      · rcases List.mem_cons.mp h with rfl | h
        · exact .inl ⟨k, .head _, by simpa using hk, rfl⟩
        · exact .inr h
    · rcases closL_mem r _ h with ⟨k', a, b, c⟩ | h
      · exact .inl ⟨k', .tail _ a, b, c⟩
      · exact .inr h
theorem closL_apart {cells : List (Str × Addr)} (ap : cells.Pairwise fun x y => x.2 ≠ y.2) : ∀ (names : List (Str × NameKind)) (acc : List (Str × Addr)), (names.map (·.1)).Nodup → (∀ p ∈ names, p.2 = .free → ∃ c, cells.lookup p.1 = some c) → (acc.Pairwise fun x y => x.2 ≠ y.2) →
    (∀ p ∈ acc, cells.lookup p.1 = some p.2 ∧ p.1 ∉ names.map (·.1)) → (closL cells names acc).Pairwise fun x y => x.2 ≠ y.2
  | [], acc, _, _, h, _ => h
  | (n, k) :: r, acc, hn, hc, ha, hm => by
    simp only [List.map_cons, List.nodup_cons] at hn
    unfold closL
    split
    · rename_i hk
      obtain ⟨c, e⟩ := hc (n, k) (.head _) (by simpa using hk)
      simp only at e
      rw [e]
      refine closL_apart ap r _ hn.2 (fun p hp => hc p (.tail _ hp)) (List.pairwise_cons.mpr ⟨fun y hy => ?_, ha⟩) fun p hp => ?_
      · obtain ⟨e1, e2⟩ := hm y hy
        simp only [List.map_cons, List.mem_cons, not_or] at e2
        exact pw_ne ap (lookup_mem e) (lookup_mem e1) (Ne.symm e2.1)
      · rcases List.mem_cons.mp hp with rfl | hp
        · exact ⟨e, hn.1⟩
        · obtain ⟨e1, e2⟩ := hm p hp
          simp only [List.map_cons, List.mem_cons, not_or] at e2
          exact ⟨e1, e2.2⟩
    · refine closL_apart ap r _ hn.2 (fun p hp => hc p (.tail _ hp)) ha fun p hp => ?_
      obtain ⟨e1, e2⟩ := hm p hp
      simp only [List.map_cons, List.mem_cons, not_or] at e2
      exact ⟨e1, e2.2⟩
theorem cf_lookup {y : Str} : ∀ (names : List (Str × NameKind)) (h : Heap) (acc : List (Str × Addr)), (names.map (·.1)).Nodup →
    (names.lookup y = some .cell → ∃ c, (cellsFrom h.objs.size names acc).lookup y = some c ∧ (pushCells h names).IsCell c none ∧ h.objs.size ≤ c) ∧ (names.lookup y ≠ some .cell → (cellsFrom h.objs.size names acc).lookup y = acc.lookup y)
  | [], h, acc, _ => ⟨fun h => by simp at h, fun _ => rfl⟩
  | (n, k) :: r, h, acc, hn => by
    simp only [List.map_cons, List.nodup_cons] at hn
    unfold cellsFrom pushCells
    rw [List.lookup_cons]
    by_cases hk : (k == .cell) = true
    · simp only [hk, if_true]
      have hk' : k = .cell := by simpa using hk
      subst hk'
      have ih := cf_lookup (y := y) r (h.push { cls := .type "cell", data := .cell none }) ((n, h.objs.size) :: acc) hn.2
      rw [Heap.size_push] at ih
      by_cases hy : y = n
      · subst hy
        have hr : r.lookup y = none := lookup_none_of hn.1
        simp only [beq_self_eq_true, ne_eq, not_true, false_implies, and_true, true_implies]
        have := ih.2 (by rw [hr]; simp)
        rw [List.lookup_cons] at this
        simp only [beq_self_eq_true] at this
        exact ⟨_, this, ⟨_, pushCells_keeps _ _ _ _ (Heap.get?_push_size _ rfl), rfl⟩, Nat.le_refl _⟩
      · have hb : (y == n) = false := by simpa using hy
        simp only [hb]
        rw [List.lookup_cons, hb] at ih
        exact ⟨fun q => let ⟨c, a, b, d⟩ := ih.1 q; ⟨c, a, b, by lia⟩, ih.2⟩
    · simp only [hk]
      have ih := cf_lookup (y := y) r h acc hn.2
      by_cases hy : y = n
      · subst hy
        have hr : r.lookup y = none := lookup_none_of hn.1
        simp only [beq_self_eq_true]
        refine ⟨fun q => ?_, fun _ => ih.2 (by rw [hr]; simp)⟩
        injection q with q; subst q; exact absurd rfl hk
      · have hb : (y == n) = false := by simpa using hy
        simp only [hb]
        exact ih
theorem cf_apart : ∀ (names : List (Str × NameKind)) (n : Nat) (acc : List (Str × Addr)), (acc.Pairwise fun x y => x.2 ≠ y.2) → (∀ p ∈ acc, p.2 < n) → (cellsFrom n names acc).Pairwise fun x y => x.2 ≠ y.2
  | [], n, acc, h, _ => h
  | (x, k) :: r, n, acc, h, hl => by
    unfold cellsFrom
    split
    · refine cf_apart r (n + 1) _ (List.pairwise_cons.mpr ⟨fun y hy => ?_, h⟩) fun p hp => ?_
      · exact Nat.ne_of_gt (hl y hy)
      · rcases List.mem_cons.mp hp with rfl | hp
        · simp
        · exact Nat.lt_succ_of_lt (hl p hp)
    · exact cf_apart r n acc h hl
theorem new_comp_env {M : Model} {A : Around} {E : Value → Shared → Prop} {s : Shared} {sc : Scope} {gl : Addr} {cl : List (Str × Addr)} {qual : Str} {env : Env} {Q : Env → Shared → Prop}
    (h : Q (newEnv sc s.heap.objs.size gl (cellsFrom (s.heap.objs.size + 1) sc.names cl) qual none .none (some env) builtinsNs) { s with heap := pushCells (s.heap.push { cls := .type "dict", data := .dict #[] }) sc.names }) :
    wpAny M A (newFunctionEnv sc gl cl [] qual none .none (some env)) Q E s := by
  simp only [newFunctionEnv, Option.isSome_some, if_true]
  refine wpAny_bind (wpAny_alloc ?_)
  refine wpAny_bind (wpAny_layCells _ (fun name kind cells => by cases hkc : kind == NameKind.cell <;> simp [hkc]) _ _ _ _ ?_)
  rw [show ({ s with heap := s.heap.push { cls := .type "dict", data := .dict #[] } } : Shared).heap.objs.size = s.heap.objs.size + 1 from Heap.size_push ..]
  exact wpAny_bind (wpAny_pure (wpAny_pure h))
theorem lookup_relab {c : Str → NameKind → Bool} {y : Str} : ∀ (l : List (Str × NameKind)), (l.map fun (n, k) => if c n k = true then (n, NameKind.cell) else (n, k)).lookup y = (l.lookup y).map fun k => if c y k = true then .cell else k
  | [] => rfl
  | (n, k) :: r => by
    simp only [List.map_cons]
    by_cases hy : y = n
    · subst hy
      by_cases hc : c y k = true
      · rw [if_pos hc, List.lookup_cons, List.lookup_cons]; simp [hc]
      · rw [if_neg hc, List.lookup_cons, List.lookup_cons]; simp [hc]
    · have hb : (y == n) = false := by simpa using hy
      by_cases hc : c n k = true
      · rw [if_pos hc, List.lookup_cons, List.lookup_cons]; simp only [hb]; exact lookup_relab r
      · rw [if_neg hc, List.lookup_cons, List.lookup_cons]; simp only [hb]; exact lookup_relab r
theorem fi_append {y : Str} : ∀ {xs cx : List Str} {i : Nat}, fi y (xs ++ cx) = some i → i < xs.length ∨ ∃ j, i = xs.length + j ∧ fi y cx = some j
  | [], cx, i, h => .inr ⟨i, by simp, h⟩
  | x :: r, cx, i, h => by
    simp only [List.cons_append, fi] at h
    by_cases hx : y = x
    · rw [if_pos hx] at h; injection h with h; subst h; simp
    · rw [if_neg hx] at h
      obtain ⟨j, h1, rfl⟩ := Option.map_eq_some_iff.mp h
      rcases fi_append h1 with q | ⟨j', rfl, q⟩
      · left; simp; omega
      · right; exact ⟨j', by simp; lia, q⟩
theorem fi_mem {y : Str} : ∀ {xs cx : List Str}, y ∈ xs → ∃ i, fi y (xs ++ cx) = some i ∧ i < xs.length
  | x :: r, cx, h => by
    simp only [List.cons_append, fi]
    by_cases hx : y = x
    · exact ⟨0, by rw [if_pos hx], by simp⟩
    · rcases List.mem_cons.mp h with e | h
      · exact absurd e hx
      · obtain ⟨i, a, b⟩ := fi_mem (cx := cx) h
        exact ⟨i + 1, by rw [if_neg hx, a]; rfl, by simp; omega⟩
theorem fi_get {y : Str} : ∀ {cx : List Str} {i : Nat}, fi y cx = some i → cx[i]? = some y
  | [], i, h => by simp [fi] at h
  | x :: r, i, h => by
    simp only [fi] at h
    by_cases hx : y = x
    · rw [if_pos hx] at h; injection h with h; subst h; simp [hx]
    · rw [if_neg hx] at h
      obtain ⟨j, h1, rfl⟩ := Option.map_eq_some_iff.mp h
      simpa using fi_get h1
theorem maskR_get : ∀ {mask : List Bool} {ρ : List (Option D)} {j : Nat} {d : D}, (maskR mask ρ)[j]? = some (some d) → mask[j]? = some true ∧ ρ[j]? = some (some d)
  | b :: m, r :: ρ, j, d, h => by
    simp only [qmaskR0, qmaskR1, qmaskR2] at h
    cases j with
    | zero => cases b <;> simp_all
    | succ j => simpa using maskR_get (by simpa using h)
  | [], ρ, j, d, h => by simp [qmaskR0, qmaskR1, qmaskR2] at h
  | _ :: _, [], j, d, h => by simp [qmaskR0, qmaskR1, qmaskR2] at h
end Mine
end
section
namespace Mine
section
variable {w : World} {base : Heap} {F : Nat → List D → Option D} {n : Nat} {A : Around} {ad : Ad} {μ : List (List D)}
structure CompSc (nm : List (Str × NameKind)) (sc : Scope) (xs : List Str) : Prop where
  kind : sc.kind = .function
  loc : ∀ y ∈ sc.names, y.2 = .local → sc.names.lookup y.1 = some .local
  own : ∀ x ∈ xs, sc.names.lookup x = some .local ∨ sc.names.lookup x = some .cell
  nd : xs.Nodup
  ndn : (sc.names.map (·.1)).Nodup
  free : ∀ y ∈ sc.names, y.2 = .free → (nm.lookup y.1 = some .cell ∨ nm.lookup y.1 = some .free) ∧ sc.names.lookup y.1 = some .free
theorem compSc_of {nm : List (Str × NameKind)} {sc : Scope} {xs : List Str} (h : compOk nm sc xs = true) : CompSc nm sc xs := by
  unfold compOk at h
  simp only [Bool.and_eq_true, beq_iff_eq, List.all_eq_true, Bool.or_eq_true, decide_eq_true_eq, bne_iff_ne, ne_eq] at h
  obtain ⟨⟨⟨⟨⟨h1, h2⟩, h3⟩, h4⟩, h5⟩, h6⟩ := h
  refine ⟨h1, fun y hy hl => ?_, h3, h4, h5, fun y hy hl => ?_⟩
  · rcases h2 y hy with q | q
    · exact absurd hl q
    · exact q
  · rcases h6 y hy with q | q
    · exact absurd hl q
    · exact ⟨q.1.1, q.1.2⟩
theorem relabel_eq {env : Env} {sc : Scope} (hk : env.scope.kind = .function) : (relabel sc env).names = relabelL env.scope.names sc.names := by
  unfold relabel relabelL
  refine List.map_congr_left fun p _ => ?_
  obtain ⟨n, k⟩ := p
  simp only [hk, beq_self_eq_true, Bool.and_true, Env.kindOf]
theorem relabelL_lookup (nm l : List (Str × NameKind)) (y : Str) : (relabelL nm l).lookup y = (l.lookup y).map fun k => if (k == .free && nm.lookup y == some .cell) = true then .cell else k := by
  unfold relabelL
  exact lookup_relab (c := fun n k => k == .free && nm.lookup n == some .cell) l
noncomputable def cenvOf (sc : Scope) (env : Env) (C : Addr) : Env := { newEnv sc C env.globals (cellsFrom (C + 1) sc.names (closL env.cells sc.names [])) env.qual none .none (some env) builtinsNs with scope := relabel sc env }
theorem cenv_er {env : Env} {cx : List Str} {ρ : List (Option D)} {h : Heap} {sc : Scope} {xs : List Str} (r : ER env cx ρ ad h) (S : CompSc env.scope.names sc xs) :
    ER (cenvOf sc env h.objs.size) (xs ++ cx) (List.replicate xs.length none ++ maskR (cx.map fun y => sc.names.lookup y == some .free) ρ) ad (pushCells (h.push { cls := .type "dict", data := .dict #[] }) sc.names) := by
  have kp : Kept h (pushCells (h.push { cls := .type "dict", data := .dict #[] }) sc.names) := KeptS.w fun b o e => pushCells_keeps _ _ b o (Heap.get?_push_of_some _ e)
  have hsz : (h.push { cls := .type "dict", data := .dict #[] }).objs.size = h.objs.size + 1 := Heap.size_push ..
  have hfc : ∀ p ∈ sc.names, p.2 = .free → ∃ c, env.cells.lookup p.1 = some c ∧ ∃ v, h.IsCell c v := fun p hp hf => by
    have := (S.free p hp hf).1
    exact r.cells p.1 this
  have hkind : ∀ y, (cenvOf sc env h.objs.size).kindOf y = (sc.names.lookup y).map fun k => if (k == .free && env.scope.names.lookup y == some .cell) = true then .cell else k := fun y => by
    show (relabel sc env).names.lookup y = _
    rw [relabel_eq r.kind, relabelL_lookup]
  have hlook : ∀ y c, sc.names.lookup y = some .free → env.cells.lookup y = some c → (cenvOf sc env h.objs.size).cells.lookup y = some c := fun y c hf hc => by
    show (cellsFrom (h.objs.size + 1) sc.names _).lookup y = _
    have q := (cf_lookup (y := y) sc.names (h.push { cls := .type "dict", data := .dict #[] }) (closL env.cells sc.names []) S.ndn).2 (by rw [hf]; simp)
    rw [hsz] at q
    rw [q, (closL_lookup sc.names [] S.ndn).1 hf, hc]; rfl
  refine ⟨S.kind, ⟨_, (Heap.Ns.new h (.type "dict")).keeps (pushCells_keeps _ _)⟩, fun y i d hi hd => ?_, fun y hy => ?_, ?_, r.glob, r.bns⟩
  · rcases fi_append hi with hlt | ⟨j, rfl, hj⟩
    · rw [List.getElem?_append_left (by simpa using hlt), List.getElem?_replicate] at hd
      split at hd <;> cases hd
    · rw [List.getElem?_append_right (by simp), List.length_replicate, Nat.add_sub_cancel_left] at hd
      obtain ⟨m1, m2⟩ := maskR_get hd
      obtain ⟨v, l, p⟩ := r.var y j d hj m2
      refine ⟨v, ?_, p.kept kp⟩
      rw [List.getElem?_map, fi_get hj] at m1
      simp only [Option.map_some, Option.some.injEq, beq_iff_eq] at m1
      have hm := lookup_mem m1
      obtain ⟨hk, _⟩ := S.free _ hm rfl
      have hk' : env.kindOf y = some .cell ∨ env.kindOf y = some .free := hk
      rcases l with ⟨a, _⟩ | ⟨a, c, b, q⟩
      · rw [a] at hk'; rcases hk' with q | q <;> cases q
      · refine .inr ⟨?_, c, hlook y c m1 b, kp.cell q⟩
        rw [hkind, m1]
        simp only [Option.map_some, beq_self_eq_true, Bool.true_and]
        split
        · exact .inl rfl
        · exact .inr rfl
  · rw [hkind] at hy
    cases hl : sc.names.lookup y with
    | none => rw [hl] at hy; simp at hy
    | some k =>
      rw [hl] at hy
      cases k with
      | cell =>
        have q := (cf_lookup (y := y) sc.names (h.push { cls := .type "dict", data := .dict #[] }) (closL env.cells sc.names []) S.ndn).1 hl
        rw [hsz] at q
        obtain ⟨c, a, b, _⟩ := q
        exact ⟨c, a, none, b⟩
      | free =>
        obtain ⟨c, a, v, b⟩ := hfc _ (lookup_mem hl) rfl
        exact ⟨c, hlook y c hl a, v, kp.cell b⟩
      | _ => simp at hy
  · show (cellsFrom (h.objs.size + 1) sc.names _).Pairwise _
    refine cf_apart _ _ _ (closL_apart r.apart _ _ S.ndn (fun p hp hf => let ⟨c, a, _⟩ := hfc p hp hf; ⟨c, a⟩) List.Pairwise.nil (fun p hp => nomatch hp)) fun p hp => ?_
    rcases closL_mem _ _ hp with ⟨k, a, rfl, e⟩ | hp
    · obtain ⟨c, e1, v, e2⟩ := hfc _ a rfl
      simp only at e1
      rw [e1] at e
      simp only [Option.getD_some] at e
      rw [e]
      exact Nat.lt_succ_of_lt e2.lt
    · cases hp
theorem cenv_writes {env : Env} {h h₀ : Heap} {sc : Scope} {xs : List Str} (hk : env.scope.kind = .function) (S : CompSc env.scope.names sc xs) (hn : ∀ a, h.objs.size ≤ a → h₀.get? a = none) : Writes h₀ (cenvOf sc env h.objs.size) xs := by
  have hsz : (h.push { cls := .type "dict", data := .dict #[] }).objs.size = h.objs.size + 1 := Heap.size_push ..
  have hkind : ∀ y, (cenvOf sc env h.objs.size).kindOf y = (sc.names.lookup y).map fun k => if (k == .free && env.scope.names.lookup y == some .cell) = true then .cell else k := fun y => by
    show (relabel sc env).names.lookup y = _
    rw [relabel_eq hk, relabelL_lookup]
  refine ⟨hn _ (Nat.le_refl _), fun y hy => ?_⟩
  rcases S.own y hy with q | q
  · rw [hkind, q]
    exact ⟨.inl rfl, fun c e => by simp at e⟩
  · rw [hkind, q]
    refine ⟨.inr rfl, fun c _ e => ?_⟩
    obtain ⟨c', a, _, b⟩ := (cf_lookup (y := y) sc.names (h.push { cls := .type "dict", data := .dict #[] }) (closL env.cells sc.names []) S.ndn).1 q
    rw [hsz] at a b
    have : (cenvOf sc env h.objs.size).cells.lookup y = some c' := a
    rw [this] at e; injection e with e; subst e
    exact hn _ (Nat.le_of_succ_le b)
theorem comp_whole {M : Nat} (W : Wd w base F n) (hA : AOK (n + 1) A) (Hs : ∀ m, m ≤ M → ∀ ad' : Ad, ad'.av.fs = ad.av.fs → Snd w base F A ad' μ m) {env : Env} {cx : List Str} {ρ : List (Option D)} {s : Shared} {elt : Expr} {gens : List Comprehension} {sc : Scope} {pos : Pos} {x : Str} {ppx : Pos} {iter : Expr} {ifs : List Expr} {px : PX} {d : D} {E : Value → Shared → Prop}
    {RR : Value → Addr → Result → Shared → Prop} (r : ER env cx ρ ad s.heap) (am : Amb base ad μ s.heap) (ht : tr env.scope.names (M + 2) cx (.ListComp elt (⟨.Name x ppx, iter, ifs, 0⟩ :: gens) sc pos) = some px) (he : ev F μ ρ px = some d)
    (hRR : ∀ Dd C s' vs' zs, d = .list zs → (∃ h' tk, s' = { s with heap := h', toks := tk }) → s.heap.get? Dd = none → s.heap.get? C = none → (∃ m, s'.heap.Ns C m) → PL s'.heap Dd vs' → Reps (ad.off Dd) s'.heap zs vs' → Kept s.heap s'.heap → RR (.ref Dd) C (.ok .next) s') :
    closureFor sc env = pure (closL env.cells sc.names []) ∧ sc.kind = .function ∧ (∀ y ∈ sc.names, y.2 = .local → sc.names.lookup y.1 = some .local) ∧ (∀ v, foldedSetIterable iter env v = pure v) ∧
    wpAny (model pg w) A (eval iter env) (fun xv s₁ => wpAny (model pg w) A (pyIter xv) (fun it s₂ => wpAny (model pg w) A (newList []) (fun acc s₃ =>
      wpAny (model pg w) A (newFunctionEnv sc env.globals (closL env.cells sc.names []) [] env.qual none .none (some env)) (fun cenv s₄ =>
        codeAny (model pg w) A (.compStart (.ListComp elt (⟨.Name x ppx, iter, ifs, 0⟩ :: gens) sc pos) 0 it acc { cenv with scope := relabel sc env }) (RR acc cenv.locals) s₄) E s₃) E s₂) E s₁) E s := by
  refine tr_comp' (P := fun px => ev F μ ρ px = some d → _) ht (fun c pi hok hc hpi he => ?_) he
  have S := compSc_of hok
  have hfc : ∀ p ∈ sc.names, p.2 = .free → ∃ c, env.cells.lookup p.1 = some c := fun p hp hf => by
    obtain ⟨c, a, _⟩ := r.cells p.1 (S.free p hp hf).1
    exact ⟨c, a⟩
  refine ⟨clos_eq hfc, S.kind, S.loc, folded_plain hpi env, ?_⟩
  refine bd_el he fun xs hxs he => bd_el he fun zs hzs he => ?_
  obtain ⟨hlim, he⟩ := if_is he
  cases he
  refine mono' (pi_iter W hA (Hs M (Nat.le_refl _) ad rfl) r am hpi hxs) fun xv s₁ q => mono' q fun it s₂ q2 => ?_
  obtain ⟨I, fp, P, St, rfl, k₂, hI, itr⟩ := q2
  refine wpAny_newObj_type (new_comp_env ?_) (by show ([] : List Value).toArray.size ≤ _; rw [sizeLine_eq]; decide)
  obtain ⟨h₂, tk₂, rfl, k₂⟩ := k₂
  dsimp only
  generalize hH : h₂.push { cls := .type "list", dict := none, data := .seq ([] : List Value).toArray } = H
  have hHs : H.objs.size = h₂.objs.size + 1 := by rw [← hH, Heap.size_push]
  have kH : KeptS h₂ H := by rw [← hH]; exact fun _ _ e => Heap.get?_push_of_some _ e
  have hD : PL H h₂.objs.size [] := by rw [← hH]; exact pl_push _ _
  have fr₂ : h₂.get? h₂.objs.size = none := fresh_size _
  have fr : ∀ a, h₂.objs.size ≤ a → s.heap.get? a = none := fun a ha => by
    cases e : s.heap.get? a with
    | none => rfl
    | some o => exact absurd (Kept.size k₂ e) (Nat.not_lt.mpr ha)
  have am₂ : Amb base ad μ h₂ := am.kept k₂
  have hDad : h₂.objs.size ∉ ad.all := am₂.fresh fr₂
  have r₂ : ER env cx ρ (ad.off h₂.objs.size) H := by
    have := r.kept k₂
    refine ER.kept ?_ (KeptS.w kH)
    exact { this with var := fun x i d a b => let ⟨v, l, q⟩ := this.var x i d a b; ⟨v, l, q.off fr₂⟩ }
  have er := cenv_er r₂ S
  generalize hH' : pushCells (H.push { cls := .type "dict", data := .dict #[] }) sc.names = H' at er ⊢
  have kH' : KeptS H H' := by rw [← hH']; exact fun b o e => pushCells_keeps _ _ b o (Heap.get?_push_of_some _ e)
  have k₃ : KeptS h₂ H' := fun b o e => kH' b o (kH b o e)
  have am₄ : Amb base (ad.off h₂.objs.size) μ H' := by
    refine ⟨am.keep.trans (Kept.trans k₂ (KeptS.w k₃)), fun a m => ?_, fun a m => ?_, fun i a ds e f => ?_, am.nd, FrF.dk (l := ad.av.fs) (am₂.fr) (KeptS.w k₃).dk⟩
    · rcases Ad.mem_off.mp m with m | rfl
      · obtain ⟨o, e, q⟩ := am₂.there a m; exact ⟨o, k₃ _ _ e, q⟩
      · obtain ⟨m, e⟩ := hD; exact ⟨_, kH' _ _ e, _, _, rfl⟩
    · rcases Ad.mem_off.mp m with m | rfl
      · exact am.new a m
      · cases e : base.get? h₂.objs.size with
        | none => rfl
        | some o => have := am₂.keep.none fr₂; rw [e] at this; cases this
    · obtain ⟨vs, p, q⟩ := am₂.mu i a ds e f
      exact ⟨vs, p.kept (KeptS.w k₃), (q.off fr₂).kept (KeptS.w k₃)⟩
  have itr' : Itr w A (ad.off h₂.objs.size) I fp xs P St H' := by
    refine ⟨itr.W, itr.W.frame 0 _ _ itr.st fun b _ o e => k₃ b o e, fun i d v e p => ((itr.rep i d v e p).off fr₂).kept (KeptS.w k₃), fun b hb m => ?_, itr.obj, itr.fld, fun nm => ?_⟩
    rcases Ad.mem_off.mp m with m | rfl
    · exact itr.off b hb m
    · obtain ⟨o, e, _⟩ := itr.obj 0 _ itr.st _ hb
      rw [fr₂] at e; cases e
    obtain ⟨as, s1, s2⟩ := itr.sup nm
    refine ⟨as, fun a ha => ?_, fun ad' h' q => s2 ad' h' fun a ha => ?_⟩
    · obtain ⟨q1, o, q2, q3⟩ := s1 a ha
      refine ⟨fun m => ?_, o, k₃ _ _ q2, q3⟩
      rcases Ad.mem_off.mp m with m | rfl
      · exact q1 m
      · have q2 : h₂.get? h₂.objs.size = some o := q2
        rw [fr₂] at q2; cases q2
    · obtain ⟨q1, o, q2, q3⟩ := s1 a ha
      obtain ⟨r1, r2⟩ := q a ha
      have q2 : h₂.get? a = some o := q2
      exact ⟨r1, r2.trans ((k₃ _ _ q2).trans q2.symm)⟩
  have hnd : (x :: gens.filterMap nameOf).Nodup := S.nd
  have hcenv : ({ newEnv sc H.objs.size env.globals (cellsFrom (H.objs.size + 1) sc.names (closL env.cells sc.names [])) env.qual none .none (some env) builtinsNs with scope := relabel sc env } : Env) = cenvOf sc env H.objs.size := rfl
  show codeAny (model pg w) A (.compStart _ 0 (.ref I) (.ref h₂.objs.size) (cenvOf sc env H.objs.size)) (RR (.ref h₂.objs.size) H.objs.size) { s with heap := H', toks := tk₂ }
  have loop : codeAny (model pg w) A (.compLoop (.ListComp elt (⟨.Name x ppx, iter, ifs, 0⟩ :: gens) sc pos) 0 (.ref I) (.ref h₂.objs.size) (cenvOf sc env H.objs.size)) (RR (.ref h₂.objs.size) H.objs.size) { s with heap := H', toks := tk₂ } := by
    refine comp_loop (h₀ := s.heap) (cx := (x :: gens.filterMap nameOf) ++ cx) W hA (fun m hm => Hs m hm (ad.off h₂.objs.size) rfl) (fr _ (Nat.le_refl _)) hDad am.keep gens (M + 1) 0 x ppx iter ifs c I fp P St xs [] zs [] _ { s with heap := H', toks := tk₂ } _ (Nat.le_refl _) rfl ?_ hzs ⟨er, am₄, hD.kept (KeptS.w kH'), Reps.nil, Kept.trans k₂ (KeptS.w k₃)⟩ itr' (by simpa using hlim) hI (cenv_writes r.kind S fun a ha => fr a (by lia)) hnd (fun y hy j dd hj => ?_) fun s' vs' hs' c' kx' => ?_
    · show trC (relabel sc env).names _ _ _ _ _ _ = _
      rw [relabel_eq r.kind]
      exact hc
    · obtain ⟨j', hj', hlt⟩ := fi_mem (cx := cx) hy
      rw [hj'] at hj; injection hj with hj; subst hj
      rw [List.getElem?_append_left (by simpa using hlt), List.getElem?_replicate]
      split <;> simp
    · obtain ⟨h', tk', rfl⟩ := hs'
      exact hRR _ _ _ vs' zs rfl ⟨h', tk', rfl⟩ (fr _ (Nat.le_refl _)) (fr _ (by omega)) c'.er.ns c'.pl c'.rs c'.kh
  exact comp_start_at (gens := ⟨.Name x ppx, iter, ifs, 0⟩ :: gens) (depth := 0) rfl loop (itr'.W.self 0 _ _ _ itr'.st loop)
end
end Mine
end
section
namespace Mine
section
variable {w : World} {base : Heap} {F : Nat → List D → Option D} {n : Nat} {A : Around} {ad : Ad} {μ : List (List D)}
theorem comp_shape {nm : List (Str × NameKind)} {m : Nat} {cx : List Str} {elt : Expr} {gens : List Comprehension} {sc : Scope} {pos : Pos} {px : PX} (ht : tr nm (m + 1) cx (.ListComp elt gens sc pos) = some px) :
    ∃ x ppx iter ifs gens' M, gens = ⟨.Name x ppx, iter, ifs, 0⟩ :: gens' ∧ m = M + 1 := by
  refine tr_comp (P := fun gens _ => ∃ x ppx iter ifs gens' M, gens = ⟨.Name x ppx, iter, ifs, 0⟩ :: gens' ∧ m = M + 1) ht fun x p it ifs r c i _ h1 _ => ?_
  cases m with
  | succ M => exact ⟨x, p, it, ifs, r, M, rfl, rfl⟩
  | zero => cases h1
theorem comp_ok (W : Wd w base F n) (hA : AOK (n + 1) A) {m : Nat} (Hs : ∀ m', m' ≤ m → ∀ ad : Ad, A.frames = some ad.av.fs → Snd w base F A ad μ m') (ad : Ad) (hf : A.frames = some ad.av.fs) : CompOK w base F A ad μ (m + 1) := by
  intro env cx ρ s elt gens sc pos px d r am ht he
  obtain ⟨x, ppx, iter, ifs, gens', M, rfl, rfl⟩ := comp_shape ht
  obtain ⟨h1, h2, h3, h4, h5⟩ := comp_whole (M := M) (E := NoE) (RR := compPost (model pg w) A NoE none (IsN ad s d (.ListComp elt (⟨.Name x ppx, iter, ifs, 0⟩ :: gens') sc pos))) W hA (fun m' hm ad' q => Hs m' (by omega) ad' (q ▸ hf)) r am ht he (fun Dd C s' vs' zs hd hs' hD hC hns pl rs kh => by
    subst hd
    obtain ⟨h', tk, rfl⟩ := hs'
    obtain ⟨mm, hns⟩ := hns
    refine ⟨mm, hns, fun h'' hsb => ?_⟩
    have kd := sk_ns hns hsb
    refine ⟨⟨⟨h'', tk, rfl, Kept.same kh hsb hC⟩, ?_⟩, fun _ => ⟨Dd, zs, vs', rfl, rfl, hD, SK.pl kd.sk (by simp : Dd ∉ []) pl, Reps.sk kd.sk _ _ rs⟩⟩
    exact rep_list (am.fresh hD) (SK.pl kd.sk (by simp : Dd ∉ []) pl) (Reps.sk kd.sk _ _ rs.on))
  rw [eval_ListComp]
  exact wpAny_comprehension_free (use := none) rfl h4 h1 h2 h3 h5
theorem snd_succ (W : Wd w base F n) (hA : AOK (n + 1) A) {m : Nat} (Hs : ∀ m', m' ≤ m → ∀ ad : Ad, A.frames = some ad.av.fs → Snd w base F A ad μ m') (ad : Ad) (hf : A.frames = some ad.av.fs) : Snd w base F A ad μ (m + 1) := by
  have H := Hs m (Nat.le_refl _) ad hf
  have HC := comp_ok W hA Hs ad hf
  have hex : ∀ (env : Env) (cx : List Str) (ρ : List (Option D)) (s : Shared) (e : Expr) (px : PX) (d : D), ER env cx ρ ad s.heap → Amb base ad μ s.heap → tr env.scope.names (m + 1) cx e = some px → ev F μ ρ px = some d → wpAny (model pg w) A (eval e env) (IsN ad s d e) NoE s :=
    fun env cx ρ s e px d r am ht he => snd_ex W hA H HC r am ht he
  exact ⟨hf, hex, fun env cx ρ s e px d b r am ht he hb => snd_tru hex hA H r am ht he hb, fun env cx ρ s es px ds r am ht he => snd_li H r am ht he, fun nm cx es px ht => snd_st H ht, fun env cx ρ s e px d r am ht he => snd_op H r am ht he,
    fun env cx ρ s es px d pos r am ht he => snd_an H r am ht he, fun env cx ρ s es px d pos r am ht he => snd_or H r am ht he, fun env cx ρ s es px d b r am ht he hb => snd_tan H r am ht he hb, fun env cx ρ s es px d b r am ht he hb => snd_tor H r am ht he hb⟩
theorem snd_zero (hf : A.frames = some ad.av.fs) : Snd w base F A ad μ 0 := by
  refine ⟨hf, ?_, ?_, ?_, ?_, ?_, ?_, ?_, ?_, ?_⟩
  · intro env cx ρ s e px d _ _ h; cases h
  · intro env cx ρ s e px d b _ _ h; cases h
  · intro env cx ρ s e px d _ _ h; cases h
  · intro nm cx es px h; cases h
  · intro env cx ρ s e px d _ _ h; cases h
  · intro env cx ρ s e px d pos _ _ h; cases h
  · intro env cx ρ s e px d pos _ _ h; cases h
  · intro env cx ρ s e px d b _ _ h; cases h
  · intro env cx ρ s e px d b _ _ h; cases h
theorem snd_all (W : Wd w base F n) (hA : AOK (n + 1) A) : ∀ (m m' : Nat), m' ≤ m → ∀ ad : Ad, A.frames = some ad.av.fs → Snd w base F A ad μ m'
  | 0, m', h, ad, hf => by cases (Nat.le_zero.mp h); exact snd_zero hf
  | m + 1, m', h, ad, hf => by
    rcases Nat.lt_or_eq_of_le h with q | rfl
    · exact snd_all W hA m m' (by omega) ad hf
    · exact snd_succ W hA (snd_all W hA m) ad hf
theorem snd (W : Wd w base F n) (hA : AOK (n + 1) A) (hf : A.frames = some ad.av.fs) (m : Nat) : Snd w base F A ad μ m := snd_all W hA m m (Nat.le_refl _) ad hf
end
end Mine
end
section
namespace Mine
inductive PS where
  | ret (e : Option PX)
  | asg (sl : Nat) (e : PX)
  | asgM (sl : Nat) (e : PX)
  | aug (sl : Nat) (op : Operator) (e : PX)
  | setI (l : Nat) (i e : PX)
  | app (l : Nat) (e : PX)
  | appB (l : Nat) (e : PX)
  | bnd (sl l : Nat)
  | pop (sl l : Nat)
  | callM (k l : Nat) (as : List PX)
  | asgCM (sl k l : Nat) (as : List PX)
  | ite (c : PX) (a b : List PS)
  | whl (c : PX) (b : List PS)
  | for1 (sl : Nat) (it : PI) (b : List PS)
  | for2 (s1 s2 : Nat) (x y : PX) (b : List PS)
  | brk
  | cont
  | bad
inductive Out where
  | next | brk | cont
  | ret (d : D)
noncomputable def isComp (e : Expr) : Bool := e.ctorIdx == 8
noncomputable def mnames : List Str := ["heappush", "heappop", "_siftdown", "_siftup"]
structure SR where
  s : Stmt → Option PS
  l : List Stmt → Option (List PS)
section
variable (nm : List (Str × NameKind)) (mt : List Str) (cx : List Str)
noncomputable def slotOf (x : Str) : Option Nat := if plainName x && (nm.lookup x == some .local || nm.lookup x == some .cell) then fi x cx else none
noncomputable def glName (f : Str) : Bool := plainName f && (fi f cx).isNone && nm.lookup f == some .globalImplicit
noncomputable def sl1 (e : Expr) : Option Nat := dName e fun x _ => slotOf nm cx x
noncomputable def hd1 {β : Type} (l : List Expr) (K : Expr → List Expr → Option β) : Option β := match l with
  | [] => none
  | a :: r => K a r
variable (n : Nat) (R : SR) (st : Stmt)
noncomputable def yRet : Option PS := sReturn st fun e _ => match e with
  | none => some (.ret none)
  | some e => (tr nm n cx e).map fun p => .ret (some p)
noncomputable def yAsgCM : Option PS := sAssign st fun ts e _ => (one ts).bind fun t => (sl1 nm cx t).bind fun x => dCall e fun f as kw _ => dName f fun f _ => gd (kw.isEmpty && glName nm cx f) ((fi f mnames).bind fun k => hd1 as fun l as => (sl1 nm cx l).bind fun y => (trL nm n cx as).map fun ps => .asgCM x k y ps)
noncomputable def yPop : Option PS := sAssign st fun ts e _ => (one ts).bind fun t => (sl1 nm cx t).bind fun x => dCall e fun f as kw p => dAttribute f fun l m q => gd (kw.isEmpty && as.isEmpty && m == ("pop" : Str) && q.endLine == p.line) ((sl1 nm cx l).map fun y => .pop x y)
noncomputable def yBnd : Option PS := sAssign st fun ts e _ => (one ts).bind fun t => (sl1 nm cx t).bind fun x => dAttribute e fun l m _ => gd (m == ("append" : Str)) ((sl1 nm cx l).map fun y => .bnd x y)
noncomputable def ySet : Option PS := sAssign st fun ts e _ => (one ts).bind fun t => dSubscript t fun l i _ => (sl1 nm cx l).bind fun y => (tr nm n cx i).bind fun pi => (tr nm n cx e).map fun pe => .setI y pi pe
noncomputable def yAug : Option PS := sAugAssign st fun t op e _ => (sl1 nm cx t).bind fun x => (tr nm n cx e).map fun p => .aug x op p
noncomputable def yIf : Option PS := sIf st fun c a b _ => (tr nm n cx c).bind fun pc => (R.l a).bind fun pa => (R.l b).map fun pb => .ite pc pa pb
noncomputable def yWhl : Option PS := sWhile st fun c b el _ => gd el.isEmpty ((tr nm n cx c).bind fun pc => (R.l b).map fun pb => .whl pc pb)
noncomputable def yFor1 : Option PS := sFor st fun t it b el _ => gd el.isEmpty ((sl1 nm cx t).bind fun x => (trI nm n cx it).bind fun pi => (R.l b).map fun pb => .for1 x pi pb)
noncomputable def yFor2 : Option PS := sFor st fun t it b el _ => gd el.isEmpty (dTuple t fun ts _ _ => hd1 ts fun t1 r => (one r).bind fun t2 => dCall it fun f as kw _ => dName f fun f _ => gd (kw.isEmpty && f == ("zip" : Str) && glName nm cx f) (hd1 as fun a r => (one r).bind fun c =>
  (sl1 nm cx t1).bind fun x => (sl1 nm cx t2).bind fun y => (tr nm n cx a).bind fun pa => (tr nm n cx c).bind fun pc => (R.l b).map fun pb => .for2 x y pa pc pb))
noncomputable def yBrk : Option PS := sBreak st fun _ => some .brk
noncomputable def yCont : Option PS := sContinue st fun _ => some .cont
noncomputable def yApp : Option PS := sExpr st fun e _ => dCall e fun f as kw p => dAttribute f fun l m q => gd (kw.isEmpty && m == ("append" : Str) && q.endLine == p.line) ((one as).bind fun a => (sl1 nm cx l).bind fun y => (tr nm n cx a).map fun pe => .app y pe)
noncomputable def yAppB : Option PS := sExpr st fun e _ => dCall e fun f as kw p => gd kw.isEmpty ((one as).bind fun a => (sl1 nm cx f).bind fun y => (tr nm n cx a).map fun pe => .appB y pe)
noncomputable def yCallM : Option PS := sExpr st fun e _ => dCall e fun f as kw p => dName f fun f _ => gd (kw.isEmpty && glName nm cx f) ((fi f mnames).bind fun k => hd1 as fun l as => (sl1 nm cx l).bind fun y => (trL nm n cx as).map fun ps => .callM k y ps)
noncomputable def yBad : Option PS := sRaise st fun _ _ _ => some .bad
noncomputable def yAsgM : Option PS := sAssign st fun ts e _ => (one ts).bind fun t => dName t fun x _ => gd (mt.contains x && isNewE e && (!isComp e || nm.lookup x == some .cell)) ((slotOf nm cx x).bind fun s => (tr nm n cx e).map fun p => .asgM s p)
noncomputable def yAsg : Option PS := sAssign st fun ts e _ => (one ts).bind fun t => dName t fun x _ => gd (!mt.contains x) ((slotOf nm cx x).bind fun s => (tr nm n cx e).map fun p => .asg s p)
noncomputable def stepS : Option PS := fst [yRet nm cx n st, yAsgCM nm cx n st, yPop nm cx st, yBnd nm cx st, ySet nm cx n st, yAug nm cx n st, yIf nm cx n R st, yWhl nm cx n R st, yFor1 nm cx n R st, yFor2 nm cx n R st, yBrk st, yCont st, yApp nm cx n st, yAppB nm cx n st, yCallM nm cx n st, yBad st, yAsgM nm mt cx n st, yAsg nm mt cx n st]
noncomputable def stepSL (R : SR) (l : List Stmt) : Option (List PS) := match l with
  | [] => some []
  | s :: r => (R.s s).bind fun p => (R.l r).map fun ps => p :: ps
noncomputable def SRn : Nat → SR
  | 0 => ⟨fun _ => none, fun _ => none⟩
  | n + 1 => ⟨stepS nm mt cx n (SRn n), stepSL (SRn n)⟩
noncomputable def trS (n : Nat) : Stmt → Option PS := (SRn nm mt cx n).s
noncomputable def trSL (n : Nat) : List Stmt → Option (List PS) := (SRn nm mt cx n).l
end
noncomputable abbrev Sto := List (Option D)
noncomputable abbrev Mus := List (List D)
section
variable (F : Nat → List D → Option D) (MF : Nat → List D → List D → Option (List D × D))
noncomputable def augI (op : Operator) (a b : Int) : Option D := match op with
  | .Add => some (.int (a + b))
  | .Sub => some (.int (a - b))
  | _ => none
noncomputable def augD (op : Operator) (x y : D) : Option D := match x with
  | .int a => match y with
    | .int b => augI op a b
    | _ => none
  | .str a => match y with
    | .str b => gd (isAdd op) (if a.length + b.length ≤ lim then some (.str (a ++ b)) else none)
    | _ => none
  | _ => none
noncomputable def mlOf (ρ : Sto) (l : Nat) : Option Nat := match ρ[l]? with
  | some (some (.ml k)) => some k
  | _ => none
noncomputable def bmOf (ρ : Sto) (l : Nat) : Option Nat := match ρ[l]? with
  | some (some (.bm k)) => some k
  | _ => none
mutual
noncomputable def exS : Nat → PS → Sto → Mus → Option (Out × Sto × Mus)
  | 0, _, _, _ => none
  | n + 1, ps, ρ, μ => match ps with
    | .ret none => some (.ret .none, ρ, μ)
    | .ret (some e) => (ev F μ ρ e).bind fun d => some (.ret d, ρ, μ)
    | .asg sl e => (ev F μ ρ e).bind fun d => some (.next, ρ.set sl (some d), μ)
    | .asgM sl e => (ev F μ ρ e).bind fun d => (lst0 d).bind fun ds => some (.next, ρ.set sl (some (.ml μ.length)), μ ++ [ds])
    | .aug sl op e => (ρ[sl]?).bind fun x => x.bind fun x => (ev F μ ρ e).bind fun y => (augD op x y).bind fun d => some (.next, ρ.set sl (some d), μ)
    | .setI l i e => (ev F μ ρ e).bind fun d => (mlOf ρ l).bind fun k => (ev F μ ρ i).bind fun j => (intD j).bind fun j => (μ[k]?).bind fun ds => if 0 ≤ j && j < ds.length && ds.length ≤ lim then some (.next, ρ, μ.set k (ds.set j.toNat d)) else none
    | .app l e => (mlOf ρ l).bind fun k => (ev F μ ρ e).bind fun d => (μ[k]?).bind fun ds => if ds.length ≤ lim then some (.next, ρ, μ.set k (ds ++ [d])) else none
    | .appB l e => (bmOf ρ l).bind fun k => (ev F μ ρ e).bind fun d => (μ[k]?).bind fun ds => if ds.length ≤ lim then some (.next, ρ, μ.set k (ds ++ [d])) else none
    | .bnd sl l => (mlOf ρ l).bind fun k => some (.next, ρ.set sl (some (.bm k)), μ)
    | .pop sl l => (mlOf ρ l).bind fun k => (μ[k]?).bind fun ds => (ds.getLast?).bind fun d => if ds.length ≤ lim then some (.next, ρ.set sl (some d), μ.set k ds.dropLast) else none
    | .callM f l as => (mlOf ρ l).bind fun k => (evL F μ ρ as).bind fun ds => (μ[k]?).bind fun c => (MF f c ds).bind fun r => if isNn r.2 then some (.next, ρ, μ.set k r.1) else none
    | .asgCM sl f l as => (mlOf ρ l).bind fun k => (evL F μ ρ as).bind fun ds => (μ[k]?).bind fun c => (MF f c ds).bind fun r => some (.next, ρ.set sl (some r.2), μ.set k r.1)
    | .ite c a b => (ev F μ ρ c).bind fun d => (truthD μ d).bind fun t => exL n (if t then a else b) ρ μ
    | .whl c b => (ev F μ ρ c).bind fun d => (truthD μ d).bind fun t => match t with
        | false => some (.next, ρ, μ)
        | true => match exL n b ρ μ with
          | none => none
          | some (.brk, ρ', μ') => some (.next, ρ', μ')
          | some (.ret d, ρ', μ') => some (.ret d, ρ', μ')
          | some (_, ρ', μ') => exS n (.whl c b) ρ' μ'
    | .for1 sl it b => (evI F μ ρ it).bind fun xs => if noMls xs then exF n sl b xs ρ μ else none
    | .for2 s1 s2 x y b => (ev F μ ρ x).bind fun xs => (lst0 xs).bind fun xs => (ev F μ ρ y).bind fun ys => (lst0 ys).bind fun ys => (gInts xs).bind fun xs => (gInts ys).bind fun ys => exZ n s1 s2 b (xs.zip ys) ρ μ
    | .brk => some (.brk, ρ, μ)
    | .cont => some (.cont, ρ, μ)
    | .bad => none
noncomputable def exL : Nat → List PS → Sto → Mus → Option (Out × Sto × Mus)
  | 0, _, _, _ => none
  | n + 1, l, ρ, μ => match l with
    | [] => some (.next, ρ, μ)
    | s :: r => match exS n s ρ μ with
      | none => none
      | some (.next, ρ', μ') => exL n r ρ' μ'
      | some x => some x
noncomputable def exF : Nat → Nat → List PS → List D → Sto → Mus → Option (Out × Sto × Mus)
  | 0, _, _, _, _, _ => none
  | n + 1, sl, b, xs, ρ, μ => match xs with
    | [] => some (.next, ρ, μ)
    | x :: xs => match exL n b (ρ.set sl (some x)) μ with
      | none => none
      | some (.brk, ρ', μ') => some (.next, ρ', μ')
      | some (.ret d, ρ', μ') => some (.ret d, ρ', μ')
      | some (_, ρ', μ') => exF n sl b xs ρ' μ'
noncomputable def exZ : Nat → Nat → Nat → List PS → List (Int × Int) → Sto → Mus → Option (Out × Sto × Mus)
  | 0, _, _, _, _, _, _ => none
  | n + 1, s1, s2, b, xs, ρ, μ => match xs with
    | [] => some (.next, ρ, μ)
    | (x, y) :: xs => match exL n b ((ρ.set s1 (some (.int x))).set s2 (some (.int y))) μ with
      | none => none
      | some (.brk, ρ', μ') => some (.next, ρ', μ')
      | some (.ret d, ρ', μ') => some (.ret d, ρ', μ')
      | some (_, ρ', μ') => exZ n s1 s2 b xs ρ' μ'
end
theorem qexZ0 {F : Nat → List D → Option D} {MF : Nat → List D → List D → Option (List D × D)} {n s1 s2 : Nat} {b : List PS} {ρ : Sto} {μ : Mus} {x y : Int} {xs : List (Int × Int)} : exZ F MF (n + 1) s1 s2 b ((x, y) :: xs) ρ μ = match exL F MF n b ((ρ.set s1 (some (.int x))).set s2 (some (.int y))) μ with
      | none => none
      | some (.brk, ρ', μ') => some (.next, ρ', μ')
      | some (.ret d, ρ', μ') => some (.ret d, ρ', μ')
      | some (_, ρ', μ') => exZ F MF n s1 s2 b xs ρ' μ' := rfl
theorem qexF0 {F : Nat → List D → Option D} {MF : Nat → List D → List D → Option (List D × D)} {n sl : Nat} {b : List PS} {ρ : Sto} {μ : Mus} {x : D} {xs : List D} : exF F MF (n + 1) sl b (x :: xs) ρ μ = match exL F MF n b (ρ.set sl (some x)) μ with
      | none => none
      | some (.brk, ρ', μ') => some (.next, ρ', μ')
      | some (.ret d, ρ', μ') => some (.ret d, ρ', μ')
      | some (_, ρ', μ') => exF F MF n sl b xs ρ' μ' := rfl
theorem qexL0 {F : Nat → List D → Option D} {MF : Nat → List D → List D → Option (List D × D)} {n : Nat} {ρ : Sto} {μ : Mus} : exL F MF (n + 1) [] ρ μ = some (.next, ρ, μ) := rfl
theorem qexL1 {F : Nat → List D → Option D} {MF : Nat → List D → List D → Option (List D × D)} {n : Nat} {ρ : Sto} {μ : Mus} {s : PS} {r : List PS} : exL F MF (n + 1) (s :: r) ρ μ = match exS F MF n s ρ μ with
      | none => none
      | some (.next, ρ', μ') => exL F MF n r ρ' μ'
      | some x => some x := rfl
end
end Mine
end
section
namespace Mine
structure SI (base h₀ : Heap) (ms pv : List Addr) (env : Env) (cx : List Str) (ρ : Sto) (ad : Ad) (μ : Mus) (h : Heap) : Prop where
  er : ER env cx ρ ad h
  am : Amb base ad μ h
  len : ad.own.length = μ.length
  kb : KeptB ms h₀ h
  own : ∀ a ∈ ad.own, h₀.get? a = none ∨ a ∈ ms
  pvo : ∀ b ∈ pv, b ∉ ad.own ∧ ∃ o, h.get? b = some o ∧ NotNs o
  msub : ∀ a ∈ ms, a ∈ ad.own
  fsl : ∀ e ∈ ad.av.fs, ∀ L, e.frame = some L → L = env.locals ∨ ∃ o, h₀.get? L = some o
structure WrS (base h₀ : Heap) (ms : List Addr) (env : Env) : Prop where
  b₀ : Kept base h₀
  ms₀ : ∀ a ∈ ms, base.get? a = none
  loc : h₀.get? env.locals = none
  cel : ∀ x c, env.kindOf x = some .cell → env.cells.lookup x = some c → h₀.get? c = none
  hi : ∀ L, base.get? L = none → 176 ≤ L
noncomputable def Pv (pv : List Addr) (h h' : Heap) : Prop := ∀ b ∈ pv, h'.get? b = h.get? b
theorem Pv.refl (pv : List Addr) (h : Heap) : Pv pv h h := fun _ _ => rfl
theorem Pv.trans {pv : List Addr} {a b c : Heap} (x : Pv pv a b) (y : Pv pv b c) : Pv pv a c := fun p m => (y p m).trans (x p m)
inductive Same (s s' : Shared) : Prop
  | mk (h' : Heap) (tk : Nat) (e : s' = { s with heap := h', toks := tk })
theorem Same.refl (s : Shared) : Same s s := ⟨s.heap, s.toks, rfl⟩
theorem Same.trans {a b c : Shared} (x : Same a b) (y : Same b c) : Same a c := by
  obtain ⟨h, t, rfl⟩ := x; obtain ⟨h', t', rfl⟩ := y; exact ⟨h', t', rfl⟩
theorem keeps_same {s s' : Shared} (k : Keeps s s') : Same s s' := by obtain ⟨h, t, rfl, _⟩ := k; exact ⟨h, t, rfl⟩
section
variable {w : World} {base h₀ : Heap} {ms pv : List Addr} {F : Nat → List D → Option D} {n : Nat} {A : Around} {ad : Ad} {μ : Mus} {env : Env} {cx : List Str} {ρ : Sto}
theorem SI.keep {h h' : Heap} (x : SI base h₀ ms pv env cx ρ ad μ h) (k : Kept h h') : SI base h₀ ms pv env cx ρ ad μ h' ∧ Pv pv h h' :=
  ⟨⟨x.er.kept k, x.am.kept k, x.len, x.kb.then k, x.own, fun b m => let ⟨p, o, e, q⟩ := x.pvo b m; ⟨p, o, k.at e q.1, q⟩, x.msub, x.fsl⟩, fun b m => by obtain ⟨_, o, e, q⟩ := x.pvo b m; rw [e]; exact k.at e q.1⟩
theorem SI.up {s s' : Shared} (x : SI base h₀ ms pv env cx ρ ad μ s.heap) (k : Keeps s s') : SI base h₀ ms pv env cx ρ ad μ s'.heap ∧ Pv pv s.heap s'.heap := x.keep (keeps_kept k)
theorem slot_is {x : Str} {sl : Nat} (h : slotOf env.scope.names cx x = some sl) : plainName x = true ∧ (env.kindOf x = some .local ∨ env.kindOf x = some .cell) ∧ fi x cx = some sl := by
  unfold slotOf at h
  split at h
  · rename_i hc
    simp only [Bool.and_eq_true, Bool.or_eq_true, beq_iff_eq] at hc
    exact ⟨hc.1, hc.2, h⟩
  · cases h
theorem SI.store {s : Shared} {x : Str} {sl : Nat} {d : D} {v : Value} {Q : Unit → Shared → Prop} (W : WrS base h₀ ms env) (i : SI base h₀ ms pv env cx ρ ad μ s.heap) (hx : slotOf env.scope.names cx x = some sl) (rv : Rep ad s.heap d v)
    (h : ∀ s', SI base h₀ ms pv env cx (ρ.set sl (some d)) ad μ s'.heap → Same s s' → Pv pv s.heap s'.heap → (∃ a, (a = env.locals ∨ (env.kindOf x = some .cell ∧ env.cells.lookup x = some a)) ∧ Heap.SameBut a s.heap s'.heap) → Q () s') : wpAny (model pg w) A (storeName env x v) Q NoE s := by
  obtain ⟨_, hk, hi⟩ := slot_is hx
  refine ER.store i.er hi hk rv fun h' tk a er' ha hsb kd dk => ?_
  have hn : h₀.get? a = none := by
    rcases ha with rfl | ⟨q1, q2⟩
    · exact W.loc
    · exact W.cel _ _ q1 q2
  have kb' : KeptB ms h₀ h' := i.kb.same hsb (.inl hn)
  have bn : base.get? a = none := by
    exact W.b₀.none hn
  have kb₂ : Kept base h' := i.am.keep.same hsb bn
  refine h _ ⟨er', i.am.sk0 kd.sk kb₂ dk, i.len, kb', i.own, fun b m => ?_, i.msub, i.fsl⟩ ⟨h', tk, rfl⟩ (fun b m => ?_) ⟨a, ha, hsb⟩
  · obtain ⟨p, o, e, q⟩ := i.pvo b m
    exact ⟨p, o, kd b o e q.1 q.2, q⟩
  · obtain ⟨p, o, e, q⟩ := i.pvo b m
    rw [e]; exact kd b o e q.1 q.2
theorem SI.list {h h' : Heap} {k : Nat} {a : Addr} {vs vs' : List Value} {ds' : List D} (W : WrS base h₀ ms env) (i : SI base h₀ ms pv env cx ρ ad μ h) (hk : ad.own[k]? = some a) (pl : PL h a vs) (hsb : ∀ b o, b ≠ a → h.get? b = some o → h'.get? b = some o) (pl' : PL h' a vs') (rs : Reps ad h ds' vs') :
    SI base h₀ ms pv env cx ρ ad (μ.set k ds') h' ∧ Pv pv h h' := by
  have hm : a ∈ ad.own := List.mem_of_getElem? hk
  have hall : a ∈ ad.all := List.mem_append_left _ hm
  have kc : Kc h h' := fun b o e q => hsb b o (by
    rintro rfl
    obtain ⟨m, e'⟩ := pl
    rw [e] at e'; injection e' with e'; subst e'
    rcases q with ⟨_, _, q⟩ | ⟨_, q⟩ <;> cases q) e
  have sk : SK ad.all h h' := fun b o n e q => hsb b o (by rintro rfl; exact n hall) e
  have kb₂ : Kept base h' := i.am.keep.but hsb (i.am.new _ hall)
  refine ⟨⟨i.er.keep kc sk, ⟨kb₂, fun b m => ?_, i.am.new, fun j b ds e f => ?_, i.am.nd, i.am.fr.dk kc.dk⟩, by simpa using i.len, i.kb.but hsb (i.own _ hm), i.own, fun b m => ?_, i.msub, i.fsl⟩, fun b m => ?_⟩
  · by_cases hb : b = a
    · subst hb; obtain ⟨m, e⟩ := pl'; exact ⟨_, e, _, _, rfl⟩
    · obtain ⟨o, e, q⟩ := i.am.there b m
      exact ⟨o, hsb b o hb e, q⟩
  · by_cases hj : k = j
    · subst hj
      rw [hk] at e; injection e with e; subst e
      rw [List.getElem?_set_self (by have := i.len; have := (List.getElem?_eq_some_iff.mp hk).1; omega)] at f
      injection f with f; subst f
      exact ⟨vs', pl', Reps.sk sk _ _ rs⟩
    · rw [List.getElem?_set_ne hj] at f
      obtain ⟨us, p, q⟩ := i.am.mu j b ds e f
      have hb : b ≠ a := by
        rintro rfl
        obtain ⟨h1, e1⟩ := List.getElem?_eq_some_iff.mp hk
        obtain ⟨h2, e2⟩ := List.getElem?_eq_some_iff.mp e
        rcases Nat.lt_or_gt_of_ne hj with q | q
        · exact (List.pairwise_iff_getElem.mp i.am.nd _ _ h1 h2 q) (e1.trans e2.symm)
        · exact (List.pairwise_iff_getElem.mp i.am.nd _ _ h2 h1 q) (e2.trans e1.symm)
      exact ⟨us, let ⟨m, w⟩ := p; ⟨m, hsb b _ hb w⟩, Reps.sk sk _ _ q⟩
  · obtain ⟨p, o, e, q⟩ := i.pvo b m
    exact ⟨p, o, hsb b o (by rintro rfl; exact p hm) e, q⟩
  · obtain ⟨p, o, e, q⟩ := i.pvo b m
    rw [e]; exact hsb b o (by rintro rfl; exact p hm) e
theorem SI.fresh {s s' : Shared} {a : Addr} {ds : List D} {vs : List Value} (W : WrS base h₀ ms env) (i : SI base h₀ ms pv env cx ρ ad μ s.heap) (k : Keeps s s') (hn : s.heap.get? a = none) (pl : PL s'.heap a vs) (rs : Reps (ad.off a) s'.heap ds vs) :
    SI base h₀ ms pv env cx ρ (ad.add a) (μ ++ [ds]) s'.heap ∧ Pv pv s.heap s'.heap ∧ Rep (ad.add a) s'.heap (.ml μ.length) (.ref a) := by
  have kp := keeps_kept k
  have bn : base.get? a = none := by
    exact i.am.keep.none hn
  have hna : a ∉ ad.all := i.am.fresh hn
  have hget : (ad.add a).own[μ.length]? = some a := by
    show (ad.own ++ [a])[μ.length]? = some a
    rw [← i.len]; simp
  refine ⟨⟨?_, ⟨i.am.keep.trans kp, fun b m => ?_, fun b m => ?_, fun j b es e f => ?_, ?_, FrF.dk (l := ad.av.fs) i.am.fr kp.dk⟩, ?_, i.kb.then kp, fun b m => ?_, fun b m => ?_, fun x hx => List.mem_append_left _ (i.msub x hx), i.fsl⟩, (i.keep kp).2, by simp only [qRep0, qRep1, qRep2, qRep3, qRep4, qRep5, qRep6, qRep7]; exact ⟨a, rfl, hget⟩⟩
  · have := i.er
    exact ER.kept { this with var := fun x i d a b => let ⟨v, l, q⟩ := this.var x i d a b; ⟨v, l, q.add hn⟩ } kp
  · rcases Ad.mem_add.mp m with m | rfl
    · obtain ⟨o, e, xs, m, q⟩ := i.am.there b m; exact ⟨o, kp.at e (fun _ _ z => by rw [q] at z; cases z), xs, m, q⟩
    · obtain ⟨m, e⟩ := pl; exact ⟨_, e, _, _, rfl⟩
  · rcases Ad.mem_add.mp m with m | rfl
    · exact i.am.new b m
    · exact bn
  · have hl := i.len
    by_cases hj : j < ad.own.length
    · have e' : ad.own[j]? = some b := by
        have : (ad.own ++ [a])[j]? = some b := e
        rwa [List.getElem?_append_left hj] at this
      rw [List.getElem?_append_left (by omega)] at f
      obtain ⟨us, p, q⟩ := i.am.mu j b es e' f
      exact ⟨us, p.kept kp, (q.add hn).kept kp⟩
    · have hj' : j = ad.own.length := by
        have := (List.getElem?_eq_some_iff.mp e).1
        have h2 : (ad.add a).own.length = ad.own.length + 1 := by show (ad.own ++ [a]).length = _; simp
        lia
      subst hj'
      have e' : (ad.own ++ [a])[ad.own.length]? = some b := e
      rw [List.getElem?_append_right (Nat.le_refl _)] at e'
      simp at e'
      subst e'
      rw [hl, List.getElem?_append_right (Nat.le_refl _)] at f
      simp at f
      subst f
      refine ⟨vs, pl, Reps.ad (ad := ad.off a) (ad' := ad.add a) (fun i b e => ?_) (fun b o e m q => m (Ad.mem_off.mpr (Ad.mem_add.mp q))) _ _ rs⟩
      show (ad.own ++ [a])[i]? = some b
      have e : ad.own[i]? = some b := e
      rw [List.getElem?_append_left (List.getElem?_eq_some_iff.mp e).1]; exact e
  · show (ad.own ++ [a]).Nodup
    rw [List.nodup_append]
    refine ⟨i.am.nd, by simp, fun x hx y hy => ?_⟩
    rw [List.mem_singleton.mp hy]
    rintro rfl
    exact hna (List.mem_append_left _ hx)
  · show (ad.own ++ [a]).length = _
    simp [i.len]
  · rcases List.mem_append.mp (show b ∈ ad.own ++ [a] from m) with m | m
    · exact i.own b m
    · rw [List.mem_singleton.mp m]
      left
      by_cases hm : a ∈ ms
      · obtain ⟨o', e', _⟩ := i.am.there a (List.mem_append_left _ (i.msub a hm)); rw [hn] at e'; cases e'
      · exact i.kb.none hm hn
  · obtain ⟨p, o, e, q⟩ := i.pvo b m
    refine ⟨fun q => ?_, o, kp.at e q.1, q⟩
    rcases List.mem_append.mp (show b ∈ ad.own ++ [a] from q) with q | q
    · exact p q
    · rw [List.mem_singleton.mp q, hn] at e; cases e
theorem ER.other {h h' : Heap} {C : Addr} {m : Str → Option Value} (r : ER env cx ρ ad h) (n : h.Ns C m) (hne : C ≠ env.locals) (hs : Heap.SameBut C h h') : ER env cx ρ ad h' where
  kind := r.kind
  ns := let ⟨m, e⟩ := r.ns; ⟨m, e.sameBut hs (Ne.symm hne)⟩
  var := fun x i d a b => by
    obtain ⟨v, l, p⟩ := r.var x i d a b
    refine ⟨v, ?_, Rep.sk (sk_ns n hs).sk _ _ p⟩
    rcases l with ⟨a, m, b, c⟩ | ⟨a, c, b, d⟩
    · exact .inl ⟨a, m, b.sameBut hs (Ne.symm hne), c⟩
    · exact .inr ⟨a, c, b, d.sameBut hs (Ne.symm (ns_ne_cell n d))⟩
  cells := fun x a => let ⟨c, b, v, e⟩ := r.cells x a; ⟨c, b, v, e.sameBut hs (Ne.symm (ns_ne_cell n e))⟩
  apart := r.apart
  glob := r.glob
  bns := r.bns
theorem SI.other {h h' : Heap} {C : Addr} {m : Str → Option Value} (W : WrS base h₀ ms env) (i : SI base h₀ ms pv env cx ρ ad μ h) (n : h.Ns C m) (hne : C ≠ env.locals) (h0 : h₀.get? C = none) (hs : Heap.SameBut C h h') : SI base h₀ ms pv env cx ρ ad μ h' ∧ Pv pv h h' := by
  have kd := sk_ns n hs
  have bn : base.get? C = none := by
    exact W.b₀.none h0
  have fr' : FrF base h' ad.av.fs := fun e m => by
    obtain ⟨a, L, o, es, ep, b, c, d, f⟩ := i.am.fr e m
    refine ⟨a, L, o, es, ep, b, c, (hs.2 L ?_).trans d, f⟩
    rcases i.fsl e m L b with rfl | ⟨o', q⟩
    · exact hne.symm
    · rintro rfl; rw [h0] at q; cases q
  refine ⟨⟨i.er.other n hne hs, i.am.sk1 kd.sk (i.am.keep.same hs bn) fr', i.len, i.kb.same hs (.inl h0), i.own, fun b m => ?_, i.msub, i.fsl⟩, fun b m => ?_⟩
  · obtain ⟨p, o, e, q⟩ := i.pvo b m
    exact ⟨p, o, kd b o e q.1 q.2, q⟩
  · obtain ⟨p, o, e, q⟩ := i.pvo b m
    rw [e]; exact kd b o e q.1 q.2
end
end Mine
end
section
namespace Mine
noncomputable def Flw (ad : Ad) (h : Heap) : Out → Flow → Prop
  | .next, .next => True
  | .brk, .brk => True
  | .cont, .cont => True
  | .ret d, .ret v => Rep ad h d v
  | _, _ => False
inductive Post (base h₀ : Heap) (ms pv : List Addr) (env : Env) (cx : List Str) (av : Av) (s : Shared) (o : Out) (ρ' : Sto) (μ' : Mus) (f : Flow) (s' : Shared) : Prop
  | mk (ad' : Ad) (h1 : ad'.av = av) (h2 : SI base h₀ ms pv env cx ρ' ad' μ' s'.heap) (h3 : Flw ad' s'.heap o f) (h4 : Same s s') (h5 : Pv pv s.heap s'.heap)
section
variable {w : World} {base h₀ : Heap} {ms pv : List Addr} {F : Nat → List D → Option D} {n : Nat} {A : Around} {ad : Ad} {μ : Mus} {env : Env} {cx : List Str} {ρ : Sto} {s : Shared}
theorem Post.after {s₁ : Shared} {av : Av} {o : Out} {ρ' : Sto} {μ' : Mus} {f : Flow} {s₂ : Shared} (k : Same s s₁) (p : Pv pv s.heap s₁.heap) (h : Post base h₀ ms pv env cx av s₁ o ρ' μ' f s₂) : Post base h₀ ms pv env cx av s o ρ' μ' f s₂ :=
  let ⟨ad', a, b, c, d, e⟩ := h; ⟨ad', a, b, c, k.trans d, p.trans e⟩
theorem swaps_plain {m : Nat} {nm : List (Str × NameKind)} {e : Expr} {px : PX} {t : Option Expr} {l : Nat} (ht : tr nm m cx e = some px) (hn : ∀ a b c d, e ≠ .ListComp a b c d) : swapsWith e t l env = pure false := by
  cases m with
  | zero => cases ht
  | succ m => cases shp ht <;> first | rfl | exact absurd rfl (hn _ _ _ _)
theorem swaps_comp (elt : Expr) (gens : List Comprehension) (sc : Scope) (pos : Pos) (x : Str) (p : Pos) (l : Nat) : ∃ b, swapsWith (.ListComp elt gens sc pos) (some (.Name x p)) l env = pure b ∧ (b = true → env.kindOf x = some .local) := by
  refine ⟨_, rfl, fun h => ?_⟩
  simp only [Bool.and_eq_true, beq_iff_eq] at h
  exact h.1.1.2
theorem st_asg {m : Nat} (W : Wd w base F n) (hA : AOK (n + 1) A) (hf : A.frames = some ad.av.fs) (V : WrS base h₀ ms env) (i : SI base h₀ ms pv env cx ρ ad μ s.heap) {x : Str} {p pos : Pos} {e : Expr} {sl : Nat} {px : PX} {d : D} (hx : slotOf env.scope.names cx x = some sl) (ht : tr env.scope.names m cx e = some px)
    (he : ev F μ ρ px = some d) : wpAny (model pg w) A (exec (.Assign [.Name x p] e pos) env) (Post base h₀ ms pv env cx ad.av s .next (ρ.set sl (some d)) μ) NoE s := by
  have plain : swapsWith e (some (.Name x p)) pos.line env = pure false → wpAny (model pg w) A (exec (.Assign [.Name x p] e pos) env) (Post base h₀ ms pv env cx ad.av s .next (ρ.set sl (some d)) μ) NoE s := fun hs => by
    refine wpAny_Assign_Name (mono' ((snd W hA hf m).ex env cx ρ s e px d i.er i.am ht he) fun v s₁ q => ?_) hs
    obtain ⟨i₁, p₁⟩ := i.up q.1.1
    exact i₁.store V hx q.1.2 fun s₂ i₂ k₂ p₂ _ => ⟨ad, rfl, i₂, trivial, (keeps_same q.1.1).trans k₂, p₁.trans p₂⟩
  by_cases hc : ∃ a b c d, e = .ListComp a b c d
  rotate_left
  · exact plain (swaps_plain ht fun a b c d q => hc ⟨a, b, c, d, q⟩)
  obtain ⟨elt, gens, sc, cpos, rfl⟩ := hc
  obtain ⟨b, hb, hbl⟩ := swaps_comp (env := env) elt gens sc cpos x p pos.line
  cases b with
  | false => exact plain hb
  | true =>
    have hl := hbl rfl
    cases m with
    | zero => cases ht
    | succ m =>
    obtain ⟨y, ppx, iter, ifs, gens', M, rfl, rfl⟩ := comp_shape ht
    obtain ⟨h1, h2, h3, h4, h5⟩ := comp_whole (M := M) (E := NoE) (RR := compPost (model pg w) A NoE (some (assign (.Name x p) env)) (fun _ s' => Post base h₀ ms pv env cx ad.av s .next (ρ.set sl (some d)) μ .next s')) W hA (fun m' hm ad' q => snd W hA (q ▸ hf) m') i.er i.am ht he
      (fun Dd C s' vs' zs hd hs' hD hC hns pl rs kh => by
        subst hd
        obtain ⟨h', tk, rfl⟩ := hs'
        obtain ⟨mm, hns⟩ := hns
        obtain ⟨i₁, p₁⟩ := i.keep kh
        have hrep : Rep ad h' (.list zs) (.ref Dd) := rep_list (i.am.fresh hD) pl rs.on
        have hLC : C ≠ env.locals := by
          rintro rfl
          obtain ⟨_, o, es, ep, q, _⟩ := i.er.ns
          rw [hC] at q; cases q
        have h0C : h₀.get? C = none := by
          by_cases hm : C ∈ ms
          · obtain ⟨o', e', _⟩ := i.am.there C (List.mem_append_left _ (i.msub C hm)); rw [hC] at e'; cases e'
          · exact i.kb.none hm hC
        show wpAny (model pg w) A (assign (.Name x p) env (.ref Dd)) _ _ _
        refine wpAny_assign_Name (SI.store (s := { s with heap := h', toks := tk }) V i₁ hx hrep fun s'' i₂ k₂ p₂ hsb => ?_)
        obtain ⟨a, ha, hsb⟩ := hsb
        have hal : a = env.locals := by
          rcases ha with q | ⟨q, _⟩
          · exact q
          · rw [hl] at q; cases q
        subst hal
        have hns' : s''.heap.Ns C mm := hns.sameBut hsb hLC
        refine ⟨mm, hns', fun h'' hsb' => ?_⟩
        obtain ⟨i₃, p₃⟩ := i₂.other V hns' hLC h0C hsb'
        exact ⟨ad, rfl, i₃, trivial, (Same.trans ⟨h', tk, rfl⟩ k₂).trans ⟨h'', s''.toks, rfl⟩, (p₁.trans p₂).trans p₃⟩)
    rw [exec_Assign_Name_used _ _ _ _ hb]
    refine wpAny_bind (wpAny_standAt (wpAny_bind ?_))
    show wpAny _ A (do let _ ← comprehension (.ListComp elt (⟨.Name y ppx, iter, ifs, 0⟩ :: gens') sc cpos) sc env _ (newList []) false (eval iter env) (some (assign (.Name x p) env))) _ _ s
    exact wpAny_bind (mono' (wpAny_comprehension_free (use := some (assign (.Name x p) env)) (Q := fun _ s' => Post base h₀ ms pv env cx ad.av s .next (ρ.set sl (some d)) μ .next s') rfl h4 h1 h2 h3 h5) fun _ s' hq => wpAny_pure (wpAny_pure hq))
theorem st_asgM {m : Nat} (W : Wd w base F n) (hA : AOK (n + 1) A) (hf : A.frames = some ad.av.fs) (V : WrS base h₀ ms env) (i : SI base h₀ ms pv env cx ρ ad μ s.heap) {x : Str} {p pos : Pos} {e : Expr} {sl : Nat} {px : PX} {ds : List D} (hx : slotOf env.scope.names cx x = some sl) (ht : tr env.scope.names m cx e = some px) (hnew : isNewE e = true) (hcell : isComp e = true → env.kindOf x = some .cell)
    (he : ev F μ ρ px = some (.list ds)) : wpAny (model pg w) A (exec (.Assign [.Name x p] e pos) env) (Post base h₀ ms pv env cx ad.av s .next (ρ.set sl (some (.ml μ.length))) (μ ++ [ds])) NoE s := by
  have plain : swapsWith e (some (.Name x p)) pos.line env = pure false → wpAny (model pg w) A (exec (.Assign [.Name x p] e pos) env) (Post base h₀ ms pv env cx ad.av s .next (ρ.set sl (some (.ml μ.length))) (μ ++ [ds])) NoE s := fun hs => by
    refine wpAny_Assign_Name (mono' ((snd W hA hf m).ex env cx ρ s e px _ i.er i.am ht he) fun v s₁ q => ?_) hs
    obtain ⟨a, ds', vs, rfl, hd, hn, pl, rs⟩ := q.2 hnew
    injection hd with hd; subst hd
    obtain ⟨i₁, p₁, r₁⟩ := i.fresh V q.1.1 hn pl rs
    exact i₁.store V hx r₁ fun s₂ i₂ k₂ p₂ _ => ⟨ad.add a, rfl, i₂, trivial, (keeps_same q.1.1).trans k₂, p₁.trans p₂⟩
  by_cases hc : ∃ a b c d, e = .ListComp a b c d
  rotate_left
  · exact plain (swaps_plain ht fun a b c d q => hc ⟨a, b, c, d, q⟩)
  obtain ⟨elt, gens, sc, cpos, rfl⟩ := hc
  obtain ⟨b, hb, hbl⟩ := swaps_comp (env := env) elt gens sc cpos x p pos.line
  cases b with
  | false => exact plain hb
  | true => have := hbl rfl; rw [hcell rfl] at this; cases this
end
end Mine
end
section
namespace Mine
section
variable {w : World} {base h₀ : Heap} {ms pv : List Addr} {F : Nat → List D → Option D} {n : Nat} {A : Around} {ad : Ad} {μ : Mus} {env : Env} {cx : List Str} {ρ : Sto} {s : Shared}
theorem pl_update {h : Heap} {a : Addr} {vs vs' : List Value} {f : Array Value → Array Value} (p : PL h a vs) (e : f vs.toArray = vs'.toArray) : PL (h.update a (Obj.mapSeq f)) a vs' := by
  obtain ⟨m, g⟩ := p
  have q := PySem.IsL.update g f
  rw [e] at q
  exact ⟨_, q⟩
theorem list_set {a : Addr} {vs : List Value} {k : Int} {t : Tok} {v : Value} {Q : Unit → Shared → Prop} {E : Value → Shared → Prop} (pl : PL s.heap a vs) (h0 : 0 ≤ k) (h1 : k < vs.length) (h2 : k < 2 ^ 63)
    (hQ : ∀ h', PL h' a (vs.set k.toNat v) → Heap.SameBut a s.heap h' → Q () { s with heap := h' }) : wpAny (model pg w) A (setItem (.ref a) (.int k t) v) Q E s := by
  have hl := pl.isList
  obtain ⟨o, ho, hc, ne, hd⟩ := id hl
  unfold setItem
  try with_reducible refine wpAny_holding ?_
  first | refine wpAny_bind (wpAny_pure ?_) | skip
  refine wpAny_bind (wpAny_sequenceKey hl.typeIs (by decide) ?_)
  refine wpAny_bind (wpAny_callSpecial?_slot (name := Str.ofString "__setitem__") hl.typeIs slot_list_setitem
    (wpAny_call_entry slot_list_setitem hl.typeIs entry_list_setitem ?_ (args_list_setitem _ _ _)))
  show wpAny _ _ (Builtin.List.listSubscript? (.int k t) >>= _) _ _ s
  refine wpAny_bind (wpAny_listSubscript_int (fitsIndex_of h0 h2) ?_)
  clear h2
  obtain ⟨j, rfl⟩ := Int.eq_ofNat_of_zero_le h0
  have hj : j < vs.toArray.size := by simp; omega
  have hx' : vs.toArray[j]? = some vs.toArray[j] := Array.getElem?_eq_getElem hj
  show wpAny _ _ ((seqItemAt a j >>= fun r => pure (r.map (j, ·))) >>= _) _ _ s
  refine wpAny_bind (wpAny_bind (wpAny_seqItemAt ho hd (wpAny_pure ?_)))
  rw [hx']
  show wpAny _ _ (setSeqItemAt a j v >>= _) _ _ s
  have hfin : PL (s.heap.update a (Obj.mapSeq (·.setIfInBounds j v))) a (vs.set j v) := pl_update pl (by simp)
  refine wpAny_bind (wpAny_setSeqItemAt ho hd ?_)
  first
    | exact wpAny_bind (wpAny_pure (wpAny_pure ⟨.none, rfl, wpAny_pure (hQ _ hfin (Heap.SameBut.update ..))⟩))
    | exact wpAny_pure ⟨.none, rfl, wpAny_pure (hQ _ hfin (Heap.SameBut.update ..))⟩
theorem list_pop {a : Addr} {p : List Value} {y : Value} {Q : Value → Shared → Prop} {E : Value → Shared → Prop} (pl : PL s.heap a (p ++ [y])) (hz : (p ++ [y]).length ≤ sizeLine)
    (hQ : ∀ h', PL h' a p → Heap.SameBut a s.heap h' → Q y { s with heap := h' }) : wpAny (model pg w) A (call (.builtin "list.pop") [.ref a]) Q E s := by
  obtain ⟨m, g⟩ := id pl
  have hz' : (p ++ [y]).toArray.size ≤ sizeLine := by rw [List.size_toArray]; exact hz
  have hk : (p ++ [y]).toArray.size - 1 = p.length := by rw [List.size_toArray, List.length_append]; rfl
  have hy : (p ++ [y]).toArray[(p ++ [y]).toArray.size - 1]? = some y := by rw [hk]; simp
  refine call_meets PySem.F.slot_list_pop ⟨_, g, rfl⟩ PySem.F.entry_list_pop (PySem.F.args_list_pop_1 _) (PySem.MeetsSeq.list_pop_last a _ m y hy hz') ⟨g, hQ _ (pl_update pl ?_) (Heap.SameBut.update ..)⟩
  show (p ++ [y]).toArray.eraseIdxIfInBounds ((p ++ [y]).toArray.size - 1) = p.toArray
  rw [hk, kl_erase, List.append_nil]
theorem ml_is {l k : Nat} (h : mlOf ρ l = some k) : ρ[l]? = some (some (.ml k)) := by
  unfold mlOf at h
  split at h
  · rename_i q; injection h with h; subst h; exact q
  · cases h
theorem ml_var {x : Str} {l k : Nat} (i : SI base h₀ ms pv env cx ρ ad μ s.heap) (hx : slotOf env.scope.names cx x = some l) (hk : mlOf ρ l = some k) : ∃ a, ad.own[k]? = some a ∧ ∀ (pos : Pos) (Q : Value → Shared → Prop), Q (.ref a) s → wpAny (model pg w) A (eval (.Name x pos) env) Q NoE s := by
  obtain ⟨hp, _, hi⟩ := slot_is hx
  obtain ⟨v, lc, r⟩ := i.er.var x l _ hi (ml_is hk)
  simp only [qRep0, qRep1, qRep2, qRep3, qRep4, qRep5, qRep6, qRep7] at r
  obtain ⟨a, rfl, e⟩ := r
  exact ⟨a, e, fun pos Q h => lc.name i.er.kind hp h⟩
theorem st_aug {m : Nat} (W : Wd w base F n) (hA : AOK (n + 1) A) (hf : A.frames = some ad.av.fs) (V : WrS base h₀ ms env) (i : SI base h₀ ms pv env cx ρ ad μ s.heap) {x : Str} {p pos : Pos} {op : Operator} {e : Expr} {sl : Nat} {px : PX} {a b d : D} (hx : slotOf env.scope.names cx x = some sl) (ht : tr env.scope.names m cx e = some px)
    (ha : ρ[sl]? = some (some a)) (he : ev F μ ρ px = some b) (hd : augD op a b = some d) : wpAny (model pg w) A (exec (.AugAssign (.Name x p) op e pos) env) (Post base h₀ ms pv env cx ad.av s .next (ρ.set sl (some d)) μ) NoE s := by
  obtain ⟨hp, _, hi⟩ := slot_is hx
  obtain ⟨v, lc, rv⟩ := i.er.var x sl _ hi ha
  refine wpAny_AugAssign_Name (lc.load i.er.kind hp (mono' ((snd W hA hf m).ex env cx ρ s e px b i.er i.am ht he) fun u s₁ q => ?_))
  have rv₁ := rv.up q.1.1
  have fin : ∀ (s₂ : Shared) (r : Value), Keeps s₁ s₂ → Rep ad s₂.heap d r → wpAny (model pg w) A (storeName env x r) (fun _ => Post base h₀ ms pv env cx ad.av s .next (ρ.set sl (some d)) μ .next) NoE s₂ := fun s₂ r k rr => by
    have k' := keeps_trans q.1.1 k
    obtain ⟨i₂, p₂⟩ := i.up k'
    exact i₂.store V hx rr fun s₃ i₃ k₃ p₃ _ => ⟨ad, rfl, i₃, trivial, (keeps_same k').trans k₃, p₂.trans p₃⟩
  cases a with
  | int a =>
    cases b with
    | int b =>
      obtain ⟨t, rfl⟩ := of_int rv₁; obtain ⟨t', rfl⟩ := of_int q.1.2
      cases op with
      | Add => cases hd; exact PySem.P.iadd_int (fin _ _ (keeps_tok _ _) rep_int)
      | Sub => cases hd; exact PySem.P.isub_int (fin _ _ (keeps_tok _ _) rep_int)
      | _ => cases hd
    | _ => cases hd
  | str a =>
    cases b with
    | str b =>
      obtain ⟨t, rfl⟩ := of_str rv₁; obtain ⟨t', rfl⟩ := of_str q.1.2
      refine gd_el hd fun ha hd => ?_
      obtain ⟨hc, hd⟩ := if_is hd
      cases hd
      obtain rfl := isAdd_is ha
      exact PyProof.Rows.iadd_str (fun t' tk => fin _ _ (keeps_tok _ _) rep_str) (lim_line hc)
    | _ => cases hd
  | _ => cases hd
theorem not_inter (i : SI base h₀ ms pv env cx ρ ad μ s.heap) : interactive env = false := by
  unfold interactive; rw [i.er.kind]; rfl
theorem st_setI {m : Nat} (W : Wd w base F n) (hA : AOK (n + 1) A) (hf : A.frames = some ad.av.fs) (V : WrS base h₀ ms env) (i : SI base h₀ ms pv env cx ρ ad μ s.heap) {x : Str} {p p' pos : Pos} {e ie : Expr} {l k : Nat} {pe pi : PX} {d : D} {j : Int} {ds : List D} (hx : slotOf env.scope.names cx x = some l) (ht : tr env.scope.names m cx e = some pe)
    (hti : tr env.scope.names m cx ie = some pi) (he : ev F μ ρ pe = some d) (hk : mlOf ρ l = some k) (hi : ev F μ ρ pi = some (.int j)) (hds : μ[k]? = some ds) (h0 : 0 ≤ j) (h1 : j < ds.length) (h2 : ds.length ≤ lim) :
    wpAny (model pg w) A (exec (.Assign [.Subscript (.Name x p) ie p'] e pos) env) (Post base h₀ ms pv env cx ad.av s .next ρ (μ.set k (ds.set j.toNat d))) NoE s := by
  refine wpAny_Assign_Subscript (mono' ((snd W hA hf m).ex env cx ρ s e pe d i.er i.am ht he) fun v s₁ q => ?_) ?_
  · obtain ⟨i₁, p₁⟩ := i.up q.1.1
    obtain ⟨a, ha, nm⟩ := ml_var (w := w) (A := A) i₁ hx hk
    refine nm _ _ (mono' ((snd W hA hf m).ex env cx ρ s₁ ie pi _ i₁.er i₁.am hti hi) fun u s₂ q2 => ?_)
    obtain ⟨i₂, p₂⟩ := i₁.up q2.1.1
    obtain ⟨t, rfl⟩ := of_int q2.1.2
    obtain ⟨vs, pl, rs⟩ := i₂.am.mu k a ds ha hds
    have hl := rs.length
    unfold lim at h2
    refine list_set pl h0 (by rw [hl]; exact h1) (by omega) fun h' pl' hsb => ?_
    obtain ⟨i₃, p₃⟩ := i₂.list V ha pl (fun b o hb e => (hsb.2 b hb).trans e) pl' (rs.set j.toNat (q.1.2.up q2.1.1))
    exact ⟨ad, rfl, i₃, trivial, ((keeps_same q.1.1).trans (keeps_same q2.1.1)).trans ⟨h', s₂.toks, rfl⟩, (p₁.trans p₂).trans p₃⟩
  · cases m with
    | zero => cases ht
    | succ m => cases shp ht <;> rfl
theorem attr_name {x : Str} {p : Pos} {name : Str} : attributeBase (.Name x p) name env (eval (.Name x p) env) = eval (.Name x p) env := rfl
theorem list_meth {x : Str} {p apos pos : Pos} {a : Addr} {vs : List Value} {name : Str} {id : String} {args : List Expr} {Q : Value → Shared → Prop} (i : SI base h₀ ms pv env cx ρ ad μ s.heap) (nm : ∀ (pos : Pos) (Q : Value → Shared → Prop), Q (.ref a) s → wpAny (model pg w) A (eval (.Name x pos) env) Q NoE s)
    (pl : PL s.heap a vs) (hst : noStar args = true) (hl : args.length < 5) (hline : (apos.endLine == pos.line) = true) (slot : Slot "list" name id) (ty : typeOf (.builtin id) = pure (.type "method_descriptor"))
    (h : wpAny (model pg w) A (callWith pos (.builtin id) [.ref a] (plainArgs args env) []) Q NoE s) : wpAny (model pg w) A (eval (.Call (.Attribute (.Name x p) name apos) args [] pos) env) Q NoE s := by
  refine wpAny_Call_method attr_name ?_ hline PySem.F.plainAttrs_list slot ty (nm _ _ ⟨pl.typ, fun b e => ?_, ?_⟩)
  · rw [backTo_plain hst]
    have : (plainArgs args env).all (fun x => !x.1) = true := by
      have := plainArgs_any args env
      rw [List.any_eq_false] at this
      rw [List.all_eq_true]
      intro y hy
      simpa using this y hy
    rw [this]
    simp [backToKw, kwE]
    omega
  · injection e with e; subst e
    obtain ⟨m, g⟩ := pl
    exact ⟨_, g, rfl⟩
  · rw [backTo_plain hst]; exact h
theorem st_app {m : Nat} (W : Wd w base F n) (hA : AOK (n + 1) A) (hf : A.frames = some ad.av.fs) (V : WrS base h₀ ms env) (i : SI base h₀ ms pv env cx ρ ad μ s.heap) {x : Str} {p apos cpos pos : Pos} {e : Expr} {l k : Nat} {pe : PX} {d : D} {ds : List D} (hx : slotOf env.scope.names cx x = some l) (ht : tr env.scope.names m cx e = some pe)
    (he : ev F μ ρ pe = some d) (hk : mlOf ρ l = some k) (hds : μ[k]? = some ds) (h2 : ds.length ≤ lim) (hline : (apos.endLine == cpos.line) = true) :
    wpAny (model pg w) A (exec (.Expr (.Call (.Attribute (.Name x p) ("append" : Str) apos) [e] [] cpos) pos) env) (Post base h₀ ms pv env cx ad.av s .next ρ (μ.set k (ds ++ [d]))) NoE s := by
  obtain ⟨a, ha, nm⟩ := ml_var (w := w) (A := A) i hx hk
  obtain ⟨us, plu, _⟩ := i.am.mu k a ds ha hds
  refine wpAny_Expr_any (list_meth i nm plu (noStar_of ht []) (by simp) hline PySem.F.slot_list_append PySem.F.type_list_append ?_) (not_inter i) rfl
  refine callWith_builtin (plainArgs_any _ _) (evalArgs_plain (spliced_cons (mono' ((snd W hA hf m).ex env cx ρ s e pe d i.er i.am ht he) fun v s₁ q => spliced_nil ?_)))
  obtain ⟨i₁, p₁⟩ := i.up q.1.1
  obtain ⟨vs, pl, rs⟩ := i₁.am.mu k a ds ha hds
  have hl := rs.length
  unfold lim at h2
  refine wpAny_list_append_plain (hsz := by simp [sizeLine_eq]; omega) pl fun h' pl' hsb => ?_
  have pl'' : PL h' a (vs ++ [v]) := by simpa using pl'
  obtain ⟨i₃, p₃⟩ := i₁.list V ha pl (fun b o hb e => (hsb.2 b hb).trans e) pl'' (rs.snoc q.1.2)
  exact ⟨ad, rfl, i₃, trivial, (keeps_same q.1.1).trans ⟨h', s₁.toks, rfl⟩, p₁.trans p₃⟩
theorem st_pop (V : WrS base h₀ ms env) (i : SI base h₀ ms pv env cx ρ ad μ s.heap) {y x : Str} {p p' apos cpos pos : Pos} {sl l k : Nat} {d : D} {ds : List D} (hy : slotOf env.scope.names cx y = some sl) (hx : slotOf env.scope.names cx x = some l)
    (hk : mlOf ρ l = some k) (hds : μ[k]? = some ds) (hd : ds.getLast? = some d) (h2 : ds.length ≤ lim) (hline : (apos.endLine == cpos.line) = true) :
    wpAny (model pg w) A (exec (.Assign [.Name y p'] (.Call (.Attribute (.Name x p) ("pop" : Str) apos) [] [] cpos) pos) env) (Post base h₀ ms pv env cx ad.av s .next (ρ.set sl (some d)) (μ.set k ds.dropLast)) NoE s := by
  obtain ⟨a, ha, nm⟩ := ml_var (w := w) (A := A) i hx hk
  obtain ⟨us, plu, rs⟩ := i.am.mu k a ds ha hds
  refine wpAny_Assign_Name (list_meth i nm plu rfl (by simp) hline PySem.F.slot_list_pop PySem.F.type_list_pop ?_) rfl
  refine callWith_builtin (plainArgs_any _ _) (PyProof.Rows.evalArgs_none ?_)
  have hl := rs.length
  have hne : ds ≠ [] := by rintro rfl; simp at hd
  have hdl : ds = ds.dropLast ++ [d] := by
    rw [List.getLast?_eq_some_getLast hne] at hd
    injection hd with hd
    rw [← hd]; exact (List.dropLast_concat_getLast hne).symm
  have hune : us ≠ [] := by rintro rfl; rw [hdl] at hl; simp at hl
  have hul : us = us.dropLast ++ [us.getLast hune] := (List.dropLast_concat_getLast hune).symm
  have hr1 : Reps ad s.heap ds.dropLast us.dropLast := by
    have := rs.take (ds.length - 1)
    rw [List.dropLast_eq_take, List.dropLast_eq_take, hl]; exact this
  have hr2 : Rep ad s.heap d (us.getLast hune) := by
    have hg : ds[ds.length - 1]? = some d := by rw [← List.getLast?_eq_getElem?]; exact hd
    obtain ⟨v, e, r⟩ := rs.get hg
    have : us.getLast hune = v := by
      have e' : us.getLast? = some v := by rw [List.getLast?_eq_getElem?, hl]; exact e
      rw [List.getLast?_eq_some_getLast hune] at e'
      injection e'
    rw [this]; exact r
  rw [hul] at plu
  unfold lim at h2
  refine list_pop plu (by rw [← hul, hl, sizeLine_eq]; omega) fun h' pl' hsb => ?_
  obtain ⟨i₃, p₃⟩ := i.list V ha plu (fun b o hb e => (hsb.2 b hb).trans e) pl' hr1
  have hr3 : Rep ad h' d (us.getLast hune) := Rep.sk (fun b o n e _ => (hsb.2 b (by rintro rfl; exact n (List.mem_append_left _ (List.mem_of_getElem? ha)))).trans e) _ _ hr2
  exact SI.store (s := { s with heap := h' }) V i₃ hy hr3 fun s₄ i₄ k₄ p₄ _ => ⟨ad, rfl, i₄, trivial, (Same.trans ⟨h', s.toks, rfl⟩ k₄), p₃.trans p₄⟩
end
end Mine
end
section
namespace Mine
section
variable {w : World} {base h₀ : Heap} {ms pv : List Addr} {F : Nat → List D → Option D} {MF : Nat → List D → List D → Option (List D × D)} {n : Nat} {A : Around} {ad : Ad} {μ : Mus} {env : Env} {cx : List Str} {ρ : Sto} {s : Shared}
noncomputable def LiOK (w : World) (base : Heap) (F : Nat → List D → Option D) (MF : Nat → List D → List D → Option (List D × D)) (A : Around) (N : Nat) : Prop :=
  ∀ (h₀ : Heap) (ms pv : List Addr) (env : Env) (cx : List Str) (mt : List Str) (ρ : Sto) (ad : Ad) (μ : Mus) (s : Shared) (sts : List Stmt) (ps : List PS) (m : Nat) (o : Out) (ρ' : Sto) (μ' : Mus), WrS base h₀ ms env → A.frames = some ad.av.fs → SI base h₀ ms pv env cx ρ ad μ s.heap →
    trSL env.scope.names mt cx m sts = some ps → exL F MF N ps ρ μ = some (o, ρ', μ') → wpAny (model pg w) A (execs sts env) (Post base h₀ ms pv env cx ad.av s o ρ' μ') NoE s
theorem flw_ret {ad : Ad} {h : Heap} {d : D} {f : Flow} (x : Flw ad h (.ret d) f) : ∃ v, f = .ret v ∧ Rep ad h d v := by
  cases f <;> first | exact ⟨_, rfl, x⟩ | exact x.elim
theorem st_ite {m N : Nat} {mt : List Str} (W : Wd w base F n) (hA : AOK (n + 1) A) (hf : A.frames = some ad.av.fs) (V : WrS base h₀ ms env) (i : SI base h₀ ms pv env cx ρ ad μ s.heap) (H : LiOK w base F MF A N) {c : Expr} {a b : List Stmt} {pos : Pos} {pc : PX} {pa pb : List PS} {d : D} {t : Bool} {o : Out} {ρ' : Sto} {μ' : Mus}
    (hc : tr env.scope.names m cx c = some pc) (ha : trSL env.scope.names mt cx m a = some pa) (hb : trSL env.scope.names mt cx m b = some pb) (he : ev F μ ρ pc = some d) (ht : truthD μ d = some t) (hx : exL F MF N (if t then pa else pb) ρ μ = some (o, ρ', μ')) :
    wpAny (model pg w) A (exec (.If c a b pos) env) (Post base h₀ ms pv env cx ad.av s o ρ' μ') NoE s := by
  refine wpAny_If (mono' ((snd W hA hf m).tru env cx ρ s c pc d t i.er i.am hc he ht) fun c' s₁ q => ?_)
  obtain ⟨rfl, k⟩ := q
  obtain ⟨i₁, p₁⟩ := i.up k
  cases c' with
  | true => exact mono' (H h₀ ms pv env cx mt ρ ad μ s₁ a pa m o ρ' μ' V hf i₁ ha hx) fun f s₂ q => q.after (keeps_same k) p₁
  | false => exact mono' (H h₀ ms pv env cx mt ρ ad μ s₁ b pb m o ρ' μ' V hf i₁ hb hx) fun f s₂ q => q.after (keeps_same k) p₁
noncomputable def onTurn (o : Out) (ρ : Sto) (μ : Mus) (k : Option (Out × Sto × Mus)) : Option (Out × Sto × Mus) := match o with
  | .brk => some (.next, ρ, μ)
  | .ret d => some (.ret d, ρ, μ)
  | .next => k
  | .cont => k
theorem turn_is {e r : Option (Out × Sto × Mus)} {k : Sto → Mus → Option (Out × Sto × Mus)} (h : (match e with | none => none | some (.brk, ρ', μ') => some (.next, ρ', μ') | some (.ret d, ρ', μ') => some (.ret d, ρ', μ') | some (_, ρ', μ') => k ρ' μ') = r) {x : Out × Sto × Mus} (hr : r = some x) :
    ∃ o₂ ρ₂ μ₂, e = some (o₂, ρ₂, μ₂) ∧ onTurn o₂ ρ₂ μ₂ (k ρ₂ μ₂) = some x := by
  subst h
  cases e with
  | none => cases hr
  | some y =>
    obtain ⟨o₂, ρ₂, μ₂⟩ := y
    refine ⟨o₂, ρ₂, μ₂, rfl, ?_⟩
    cases o₂ <;> exact hr
theorem exZ_cons {N s1 s2 : Nat} {b : List PS} {x y : Int} {zs : List (Int × Int)} {ρ : Sto} {μ : Mus} {r : Out × Sto × Mus} (h : exZ F MF (N + 1) s1 s2 b ((x, y) :: zs) ρ μ = some r) :
    ∃ o₂ ρ₂ μ₂, exL F MF N b ((ρ.set s1 (some (.int x))).set s2 (some (.int y))) μ = some (o₂, ρ₂, μ₂) ∧ onTurn o₂ ρ₂ μ₂ (exZ F MF N s1 s2 b zs ρ₂ μ₂) = some r := turn_is (k := exZ F MF N s1 s2 b zs) rfl h
theorem exF_cons {N sl : Nat} {b : List PS} {x : D} {zs : List D} {ρ : Sto} {μ : Mus} {r : Out × Sto × Mus} (h : exF F MF (N + 1) sl b (x :: zs) ρ μ = some r) :
    ∃ o₂ ρ₂ μ₂, exL F MF N b (ρ.set sl (some x)) μ = some (o₂, ρ₂, μ₂) ∧ onTurn o₂ ρ₂ μ₂ (exF F MF N sl b zs ρ₂ μ₂) = some r := turn_is (k := exF F MF N sl b zs) rfl h
inductive WhlI (base h₀ : Heap) (ms pv : List Addr) (env : Env) (cx : List Str) (av : Av) (s : Shared) (N : Nat) (R : Nat → Sto → Mus → Prop) (k : Nat) (s' : Shared) : Prop
  | mk (hk : k ≤ N) (ρ₁ : Sto) (μ₁ : Mus) (ad₁ : Ad) (hav : ad₁.av = av) (i : SI base h₀ ms pv env cx ρ₁ ad₁ μ₁ s'.heap) (sm : Same s s') (pp : Pv pv s.heap s'.heap) (r : R k ρ₁ μ₁)
theorem st_whl {m N : Nat} {mt : List Str} (W : Wd w base F n) (hA : AOK (n + 1) A) (hf : A.frames = some ad.av.fs) (V : WrS base h₀ ms env) (i : SI base h₀ ms pv env cx ρ ad μ s.heap) (H : ∀ N', N' < N → LiOK w base F MF A N') {c : Expr} {b : List Stmt} {pos : Pos} {pc : PX} {pb : List PS} {o : Out} {ρ' : Sto} {μ' : Mus}
    (hc : tr env.scope.names m cx c = some pc) (hb : trSL env.scope.names mt cx m b = some pb) (hx : exS F MF N (.whl pc pb) ρ μ = some (o, ρ', μ')) :
    wpAny (model pg w) A (exec (.While c b [] pos) env) (Post base h₀ ms pv env cx ad.av s o ρ' μ') NoE s := by
  refine wpAny_While (codeAny_whileLoop (WhlI base h₀ ms pv env cx ad.av s N fun k ρ₁ μ₁ => exS F MF k (.whl pc pb) ρ₁ μ₁ = some (o, ρ', μ')) ?_ N ⟨Nat.le_refl _, ρ, μ, ad, rfl, i, Same.refl _, Pv.refl _ _, hx⟩)
  rintro k s' ⟨hk, ρ₁, μ₁, ad₁, hav, i₁, sm, p₁, hx⟩
  cases k with
  | zero => cases hx
  | succ k =>
    refine bd_el hx fun d hd hx => bd_el hx fun t ht hx => ?_
    cases t with
    | false =>
      injection hx with hx; injection hx with h1 h2; injection h2 with h2 h3; subst h1; subst h2; subst h3
      refine mono' ((snd W hA (by rw [hav]; exact hf) m).tru env cx ρ₁ s' c pc d false i₁.er i₁.am hc hd ht) fun c' s₁ q => ?_
      obtain ⟨rfl, kk⟩ := q
      obtain ⟨i₂, p₂⟩ := i₁.up kk
      simp only [Bool.false_eq_true, if_false]
      exact wpAny_execs_nil ⟨ad₁, hav, i₂, trivial, sm.trans (keeps_same kk), p₁.trans p₂⟩
    | true =>
      dsimp only at hx
      refine mono' ((snd W hA (by rw [hav]; exact hf) m).tru env cx ρ₁ s' c pc d true i₁.er i₁.am hc hd ht) fun c' s₁ q => ?_
      obtain ⟨rfl, kk⟩ := q
      obtain ⟨i₂, p₂⟩ := i₁.up kk
      have sm₂ := sm.trans (keeps_same kk)
      have pp₂ := p₁.trans p₂
      simp only [if_true]
      obtain ⟨o₂, ρ₂, μ₂, hl, hx⟩ := turn_is (k := fun ρ' μ' => exS F MF k (.whl pc pb) ρ' μ') rfl hx
      refine mono' (H k hk h₀ ms pv env cx mt ρ₁ ad₁ μ₁ s₁ b pb m _ _ _ V (by rw [hav]; exact hf) i₂ hb hl) fun f s₂ q => ?_
      obtain ⟨ad₂, hav₂, i₃, fl, sm₃, p₃⟩ := q
      cases o₂ with
      | brk =>
        cases hx
        cases f <;> first | exact fl.elim | exact ⟨ad₂, hav₂.trans hav, i₃, trivial, sm₂.trans sm₃, pp₂.trans p₃⟩
      | ret d =>
        cases hx
        obtain ⟨v, rfl, rv⟩ := flw_ret fl
        exact ⟨ad₂, hav₂.trans hav, i₃, rv, sm₂.trans sm₃, pp₂.trans p₃⟩
      | next => cases f <;> first | exact fl.elim | exact ⟨k, Nat.lt_succ_self _, Nat.le_of_lt hk, ρ₂, μ₂, ad₂, hav₂.trans hav, i₃, sm₂.trans sm₃, pp₂.trans p₃, hx⟩
      | cont => cases f <;> first | exact fl.elim | exact ⟨k, Nat.lt_succ_self _, Nat.le_of_lt hk, ρ₂, μ₂, ad₂, hav₂.trans hav, i₃, sm₂.trans sm₃, pp₂.trans p₃, hx⟩
end
end Mine
end
section
namespace Mine
section
variable {w : World} {base h₀ : Heap} {ms pv : List Addr} {F : Nat → List D → Option D} {MF : Nat → List D → List D → Option (List D × D)} {n : Nat} {A : Around} {ad : Ad} {μ : Mus} {env : Env} {cx : List Str} {ρ : Sto} {s : Shared}
theorem SI.less {pv' : List Addr} {h : Heap} (i : SI base h₀ ms pv' env cx ρ ad μ h) (k : ∀ b ∈ pv, b ∈ pv') : SI base h₀ ms pv env cx ρ ad μ h := { i with pvo := fun b m => i.pvo b (k b m) }
theorem SI.step {h h' : Heap} {I : Addr} (V : WrS base h₀ ms env) (i : SI base h₀ ms pv env cx ρ ad μ h) (f : ∃ o, h.get? I = some o ∧ IsIt o) (k : ∀ b o, b ∉ [I] → h.get? b = some o → h'.get? b = some o) (h0 : h₀.get? I = none) (hI : I ∈ pv → ∃ o, h'.get? I = some o ∧ NotNs o) : SI base h₀ ms pv env cx ρ ad μ h' := by
  obtain ⟨kc, sk⟩ := step_keep f k
  have bn : base.get? I = none := by
    exact V.b₀.none h0
  refine ⟨i.er.keep kc (fun b o _ e q => sk b o (by simp) e q), i.am.sk0 sk (i.am.keep.buts k fun b m => by rw [List.mem_singleton.mp m]; exact bn) kc.dk, i.len, i.kb.buts k (fun b m => by rw [List.mem_singleton.mp m]; exact .inl h0), i.own, fun b m => ?_, i.msub, i.fsl⟩
  obtain ⟨p, o, e, q⟩ := i.pvo b m
  by_cases hb : b = I
  · subst hb
    obtain ⟨o', e', q'⟩ := hI m
    exact ⟨p, o', e', q'⟩
  · exact ⟨p, o, k b o (fun m => hb (List.mem_singleton.mp m)) e, q⟩
theorem seq_notNs {o : Obj} (q : ∃ xs n, o.data = .seq xs n) : NotNs o := still_notNs (.inl q)
inductive ForI (base h₀ : Heap) (ms pv : List Addr) (env : Env) (cx : List Str) (av : Av) (s : Shared) (N : Nat) (pq : List Addr) (h₂ : Heap) (St : Nat → Heap → Prop) {α : Type} (xs : List α) (R : Nat → List α → Sto → Mus → Prop) (k : Nat) (s' : Shared) : Prop
  | mk (hk : k ≤ N) (j : Nat) (ρ₁ : Sto) (μ₁ : Mus) (ad₁ : Ad) (hav : ad₁.av = av) (i : SI base h₀ ms pv env cx ρ₁ ad₁ μ₁ s'.heap) (sm : Same s s') (pp : Pv pq h₂ s'.heap) (st : St j s'.heap) (hj : j ≤ xs.length) (r : R k (xs.drop j) ρ₁ μ₁)
theorem st_for1 {m M N : Nat} {mt : List Str} (W : Wd w base F n) (hA : AOK (n + 1) A) (hf : A.frames = some ad.av.fs) (V : WrS base h₀ ms env) (i : SI base h₀ ms pv env cx ρ ad μ s.heap) (H : ∀ N', N' < N → LiOK w base F MF A N') {x : Str} {p pos : Pos} {iter : Expr} {b : List Stmt} {pi : PI} {pb : List PS} {sl : Nat} {xs : List D} {o : Out} {ρ' : Sto} {μ' : Mus}
    (hsl : slotOf env.scope.names cx x = some sl) (hti : trI env.scope.names (M + 1) cx iter = some pi) (hb : trSL env.scope.names mt cx m b = some pb) (hxs : evI F μ ρ pi = some xs) (hnm : noMls xs = true) (hx : exF F MF N sl pb xs ρ μ = some (o, ρ', μ')) :
    wpAny (model pg w) A (exec (.For (.Name x p) iter b [] pos) env) (Post base h₀ ms pv env cx ad.av s o ρ' μ') NoE s := by
  refine wpAny_For (mono' (pi_iter W hA (snd W hA hf M) i.er i.am hti hxs) fun xv s₁ q => mono' q fun it s₂ q2 => ?_) (folded_plain hti env)
  obtain ⟨I, fp, P, St, rfl, k₂, hI, itr⟩ := q2
  obtain ⟨i₂, p₂⟩ := i.up k₂
  obtain ⟨as, s1, s2⟩ := itr.sup hnm
  have h0I : h₀.get? I = none := by
    by_cases hm : I ∈ ms
    · obtain ⟨o', e', _⟩ := i.am.there I (List.mem_append_left _ (i.msub I hm)); rw [hI] at e'; cases e'
    · exact i.kb.none hm hI
  have hIpv : I ∉ as ++ pv := fun hm => by
    rcases List.mem_append.mp hm with hm | hm
    · obtain ⟨_, o, e, q⟩ := s1 I hm
      obtain ⟨o', e', q'⟩ := itr.fld 0 _ itr.st
      rw [e] at e'; injection e' with e'; subst e'
      exact isIt_not q' (.inl q)
    · obtain ⟨_, o, e, _⟩ := i.pvo I hm
      rw [hI] at e; cases e
  have i₃ : SI base h₀ ms (fp ++ (as ++ pv)) env cx ρ ad μ s₂.heap := by
    refine ⟨i₂.er, i₂.am, i₂.len, i₂.kb, i₂.own, fun b m => ?_, i₂.msub, i₂.fsl⟩
    rcases List.mem_append.mp m with m | m
    · exact ⟨fun q => itr.off b m (List.mem_append_left _ q), itr.obj 0 _ itr.st b m⟩
    · rcases List.mem_append.mp m with m | m
      · obtain ⟨q1, o, q2, q3⟩ := s1 b m
        exact ⟨fun q => q1 (List.mem_append_left _ q), o, q2, seq_notNs q3⟩
      · exact i₂.pvo b m
  refine codeAny_forLoop (ForI base h₀ ms (fp ++ (as ++ pv)) env cx ad.av s N (as ++ pv) s₂.heap St xs fun k l ρ₁ μ₁ => exF F MF k sl pb l ρ₁ μ₁ = some (o, ρ', μ')) ?_ N
    ⟨Nat.le_refl _, 0, ρ, μ, ad, rfl, i₃, keeps_same k₂, Pv.refl _ _, itr.st, Nat.zero_le _, by simpa using hx⟩
  rintro k s' ⟨hk, j, ρ₁, μ₁, ad₁, hav, i', sm, pp, st, hj, hx⟩
  have ppv : Pv pv s.heap s'.heap := p₂.trans fun b m => pp b (List.mem_append_right _ m)
  cases k with
  | zero => cases hx
  | succ k =>
    by_cases hlt : j < xs.length
    · have hd : xs[j]? = some xs[j] := List.getElem?_eq_getElem hlt
      generalize xs[j] = d at hd
      have hdrop : xs.drop j = d :: xs.drop (j + 1) := by
        rw [List.drop_eq_getElem_cons hlt]; congr 1
        rw [List.getElem?_eq_getElem hlt] at hd; injection hd
      rw [hdrop] at hx
      refine itr.W.item j _ _ _ hlt st fun v h₁ tk₁ hP st₁ k₁ => ?_
      have i₁ := i'.step V (itr.fld j _ st) k₁ h0I fun hm => by
        obtain ⟨o, e, q⟩ := itr.fld (j + 1) _ st₁
        obtain ⟨⟨vs, dd⟩, _⟩ := q
        exact ⟨o, e, fun _ _ x => (by rw [dd] at x; cases x), fun _ x => (by rw [dd] at x; cases x)⟩
      have pv₁ : Pv (as ++ pv) s'.heap h₁ := fun b m => by
        obtain ⟨_, o, e, _⟩ := i'.pvo b (List.mem_append_right _ m)
        rw [e]
        exact k₁ b o (fun q => hIpv (List.mem_singleton.mp q ▸ m)) e
      have rv : Rep ad₁ h₁ d v := s2 ad₁ h₁ (fun a ha => ⟨fun q => (List.mem_append.mp q).elim (i'.pvo a (List.mem_append_right _ (List.mem_append_left _ ha))).1 (fun q => (s1 a ha).1 (List.mem_append_right _ (by rw [hav] at q; exact q))), (pp.trans pv₁) a (List.mem_append_left _ ha)⟩) j d v hd hP
      refine wpAny_assign_Name (mono' (SI.store (s := { s' with heap := h₁, toks := tk₁ }) (Q := fun _ s₃ => SI base h₀ ms (fp ++ (as ++ pv)) env cx (ρ₁.set sl (some d)) ad₁ μ₁ s₃.heap ∧ Same { s' with heap := h₁, toks := tk₁ } s₃ ∧ Pv (fp ++ (as ++ pv)) h₁ s₃.heap) V i₁ hsl rv fun s₃ a b c _ => ⟨a, b, c⟩) fun _ s₃ q4 => ?_)
      obtain ⟨i₄, sm₄, p₄⟩ := q4
      have st₃ : St (j + 1) s₃.heap := itr.W.frame _ _ _ st₁ fun b hb o e => (p₄ b (List.mem_append_left _ hb)).trans e
      have sm₃ : Same s s₃ := sm.trans (Same.trans ⟨h₁, tk₁, rfl⟩ sm₄)
      have pp₃ : Pv (as ++ pv) s₂.heap s₃.heap := (pp.trans pv₁).trans fun b m => p₄ b (List.mem_append_right _ m)
      have ppv₃ : Pv pv s.heap s₃.heap := p₂.trans fun b m => pp₃ b (List.mem_append_right _ m)
      obtain ⟨o₂, ρ₂, μ₂, hl, hx⟩ := exF_cons hx
      refine mono' (H k hk h₀ ms _ env cx mt _ ad₁ μ₁ s₃ b pb m _ _ _ V (by rw [hav]; exact hf) i₄ hb hl) fun f s₄ q => ?_
      obtain ⟨ad₂, hav₂, i₅, fl, sm₅, p₅⟩ := q
      cases o₂ with
      | brk =>
        cases hx
        cases f <;> first | exact fl.elim | exact ⟨ad₂, hav₂.trans hav, i₅.less (fun b m => List.mem_append_right _ (List.mem_append_right _ m)), trivial, sm₃.trans sm₅, ppv₃.trans fun b m => p₅ b (List.mem_append_right _ (List.mem_append_right _ m))⟩
      | ret d =>
        cases hx
        obtain ⟨v, rfl, rv⟩ := flw_ret fl
        exact ⟨ad₂, hav₂.trans hav, i₅.less (fun b m => List.mem_append_right _ (List.mem_append_right _ m)), rv, sm₃.trans sm₅, ppv₃.trans fun b m => p₅ b (List.mem_append_right _ (List.mem_append_right _ m))⟩
      | next => cases f <;> first | exact fl.elim | exact ⟨k, Nat.lt_succ_self _, Nat.le_of_lt hk, j + 1, ρ₂, μ₂, ad₂, hav₂.trans hav, i₅, sm₃.trans sm₅, pp₃.trans (fun b m => p₅ b (List.mem_append_right _ m)), itr.W.frame _ _ _ st₃ fun b hb o e => (p₅ b (List.mem_append_left _ hb)).trans e, hlt, hx⟩
      | cont => cases f <;> first | exact fl.elim | exact ⟨k, Nat.lt_succ_self _, Nat.le_of_lt hk, j + 1, ρ₂, μ₂, ad₂, hav₂.trans hav, i₅, sm₃.trans sm₅, pp₃.trans (fun b m => p₅ b (List.mem_append_right _ m)), itr.W.frame _ _ _ st₃ fun b hb o e => (p₅ b (List.mem_append_left _ hb)).trans e, hlt, hx⟩
    · have hin : j = xs.length := by omega
      subst hin
      rw [List.drop_length] at hx
      cases hx
      refine itr.W.done _ _ _ st fun h₁ tk₁ k₁ => wpAny_execs_nil ?_
      have i₆ : SI base h₀ ms pv env cx _ ad₁ _ s'.heap := i'.less fun b m => List.mem_append_right _ (List.mem_append_right _ m)
      refine ⟨ad₁, hav, i₆.step V (itr.fld _ _ st) k₁ h0I (fun hm => absurd (List.mem_append_right _ hm) hIpv), trivial, sm.trans ⟨h₁, tk₁, rfl⟩, ppv.trans fun b m => ?_⟩
      obtain ⟨_, o, e, _⟩ := i₆.pvo b m
      rw [e]
      exact k₁ b o (fun q => hIpv (List.mem_append_right _ (List.mem_singleton.mp q ▸ m))) e
end
end Mine
end
section
namespace Mine
section
variable {w : World} {base h₀ : Heap} {ms pv : List Addr} {F : Nat → List D → Option D} {MF : Nat → List D → List D → Option (List D × D)} {n : Nat} {A : Around} {ad : Ad} {μ : Mus} {env : Env} {cx : List Str} {ρ : Sto} {s : Shared}
theorem SI.chg {h h' : Heap} {wr av₂ : List Addr} (V : WrS base h₀ ms env) (i : SI base h₀ ms pv env cx ρ ad μ h) (k : ∀ b o, b ∉ wr → h.get? b = some o → h'.get? b = some o) (h0 : ∀ b ∈ wr, h₀.get? b = none) (hav : ∀ b ∈ av₂, b ∈ ad.av.av)
    (hw : ∀ b ∈ wr, (∃ o, h.get? b = some o ∧ IsIt o) ∨ (b ∈ ad.av.av ∧ b ∉ ad.own ∧ (∃ o, h.get? b = some o ∧ ∃ xs n, o.data = .seq xs n) ∧ (b ∈ av₂ → ∃ o, h'.get? b = some o ∧ ∃ xs n, o.data = .seq xs n))) (hp : ∀ b ∈ pv, b ∈ wr → ∃ o, h'.get? b = some o ∧ NotNs o) :
    SI base h₀ ms pv env cx ρ ⟨ad.own, ⟨av₂, ad.av.fs⟩⟩ μ h' := by
  have base0 : ∀ b ∈ wr, base.get? b = none := fun b hb => by
    exact V.b₀.none (h0 b hb)
  have hall : ∀ b, b ∈ (⟨ad.own, ⟨av₂, ad.av.fs⟩⟩ : Ad).all → b ∈ ad.all := fun b hb => by
    rcases List.mem_append.mp hb with q | q
    · exact List.mem_append_left _ q
    · exact List.mem_append_right _ (hav b q)
  have kc : Kc h h' := fun b o e q => k b o (fun hb => by
    rcases hw b hb with ⟨o', e', q'⟩ | ⟨_, _, ⟨o', e', q'⟩, _⟩
    · rw [e] at e'; injection e' with e'; subst e'
      obtain ⟨⟨vs, d⟩, _⟩ := q'
      rw [d] at q; rcases q with ⟨_, _, q⟩ | ⟨_, q⟩ <;> cases q
    · rw [e] at e'; injection e' with e'; subst e'
      obtain ⟨xs, n, d⟩ := q'
      rw [d] at q; rcases q with ⟨_, _, q⟩ | ⟨_, q⟩ <;> cases q) e
  have sk : SK ad.all h h' := fun b o hn e q => k b o (fun hb => by
    rcases hw b hb with ⟨o', e', q'⟩ | ⟨m, _⟩
    · rw [e] at e'; injection e' with e'; subst e'
      exact isIt_not q' q
    · exact hn (List.mem_append_right _ m)) e
  have kown : ∀ a ∈ ad.own, ∀ o, h.get? a = some o → (∃ xs n, o.data = .seq xs n) → h'.get? a = some o := fun a ha o e q => k a o (fun hb => by
    rcases hw a hb with ⟨o', e', q'⟩ | ⟨_, m, _⟩
    · rw [e] at e'; injection e' with e'; subst e'
      exact isIt_not q' (.inl q)
    · exact m ha) e
  have toad : ∀ d v, Rep ad h' d v → Rep ⟨ad.own, ⟨av₂, ad.av.fs⟩⟩ h' d v := fun d v r => Rep.ad (ad := ad) (ad' := ⟨ad.own, ⟨av₂, ad.av.fs⟩⟩) (fun _ _ e => e) (fun a o e m q => m (hall a q)) d v r
  have toads : ∀ d v, Reps ad h' d v → Reps ⟨ad.own, ⟨av₂, ad.av.fs⟩⟩ h' d v := fun d v r => Reps.ad (ad := ad) (ad' := ⟨ad.own, ⟨av₂, ad.av.fs⟩⟩) (fun _ _ e => e) (fun a o e m q => m (hall a q)) d v r
  refine ⟨?_, ⟨i.am.keep.buts k base0, fun b m => ?_, fun b m => i.am.new b (hall b m), fun j a ds e f => ?_, i.am.nd, FrF.dk (l := ad.av.fs) i.am.fr kc.dk⟩, i.len, i.kb.buts k (fun b m => .inl (h0 b m)), i.own, fun b m => ?_, i.msub, i.fsl⟩
  · have er := i.er.keep kc sk
    exact { er with var := fun x j d a b => let ⟨v, l, q⟩ := er.var x j d a b; ⟨v, l, toad d v q⟩ }
  · by_cases hb : b ∈ wr
    · rcases hw b hb with ⟨o', e', q'⟩ | ⟨_, q2, _, q4⟩
      · obtain ⟨o, e, q⟩ := i.am.there b (hall b m)
        rw [e] at e'; injection e' with e'; subst e'
        exact (isIt_not q' (.inl q)).elim
      · rcases List.mem_append.mp m with q | q
        · exact absurd q q2
        · exact q4 q
    · obtain ⟨o, e, q⟩ := i.am.there b (hall b m)
      exact ⟨o, k b o hb e, q⟩
  · obtain ⟨vs, p, q⟩ := i.am.mu j a ds e f
    obtain ⟨m, g⟩ := p
    exact ⟨vs, ⟨m, kown a (List.mem_of_getElem? e) _ g ⟨_, _, rfl⟩⟩, toads _ _ (Reps.sk sk _ _ q)⟩
  · obtain ⟨p, o, e, q⟩ := i.pvo b m
    by_cases hb : b ∈ wr
    · obtain ⟨o', e', q'⟩ := hp b m hb
      exact ⟨p, o', e', q'⟩
    · exact ⟨p, o, k b o hb e, q⟩
theorem SI.off {s' : Shared} {a : Addr} (V : WrS base h₀ ms env) (i : SI base h₀ ms pv env cx ρ ad μ s.heap) (k : Keeps s s') (hn : s.heap.get? a = none) (hs : ∃ o, s'.heap.get? a = some o ∧ ∃ xs n, o.data = .seq xs n) : SI base h₀ ms pv env cx ρ (ad.off a) μ s'.heap := by
  have kp := keeps_kept k
  have bn : base.get? a = none := by
    exact i.am.keep.none hn
  refine ⟨?_, ⟨i.am.keep.trans kp, fun b m => ?_, fun b m => ?_, fun j b es e f => ?_, i.am.nd, FrF.dk (l := ad.av.fs) i.am.fr kp.dk⟩, i.len, i.kb.then kp, i.own, fun b m => ?_, i.msub, i.fsl⟩
  · have := i.er
    exact ER.kept { this with var := fun x i d a b => let ⟨v, l, q⟩ := this.var x i d a b; ⟨v, l, q.off hn⟩ } kp
  · rcases Ad.mem_off.mp m with m | rfl
    · obtain ⟨o, e, xs, m, q⟩ := i.am.there b m; exact ⟨o, kp.at e (fun _ _ z => by rw [q] at z; cases z), xs, m, q⟩
    · exact hs
  · rcases Ad.mem_off.mp m with m | rfl
    · exact i.am.new b m
    · exact bn
  · obtain ⟨vs, p, q⟩ := i.am.mu j b es e f
    exact ⟨vs, p.kept kp, (q.off hn).kept kp⟩
  · obtain ⟨p, o, e, q⟩ := i.pvo b m
    exact ⟨p, o, kp.at e q.1, q⟩
end
end Mine
end
section
namespace Mine
section
variable {w : World} {base h₀ : Heap} {ms pv : List Addr} {F : Nat → List D → Option D} {MF : Nat → List D → List D → Option (List D × D)} {n : Nat} {A : Around} {ad : Ad} {μ : Mus} {env : Env} {cx : List Str} {ρ : Sto} {s : Shared}
theorem ints_get {vs : List Value} {ks : List Int} (h : IntsAre vs ks) : ∀ (i : Nat) (v : Value), vs[i]? = some v → ∃ k t, ks[i]? = some k ∧ v = .int k t := by
  induction h with
  | nil => intro i v e; simp at e
  | cons k t _ ih =>
    intro i v e
    cases i with
    | zero => simp at e; exact ⟨k, t, by simp, e.symm⟩
    | succ i => obtain ⟨k', t', a, b⟩ := ih i v (by simpa using e); exact ⟨k', t', by simpa using a, b⟩
theorem zip_name : plainName ("zip" : Str) = true := by decide +kernel
theorem it_zip {h : Heap} {z TI TO : Addr} {f0 : Value} (e : IsZip h z TI TO f0) : ∃ o, h.get? z = some o ∧ IsIt o := ⟨_, e, ⟨_, rfl⟩, show Value.type "zip" ≠ _ by decide⟩
theorem it_li {h : Heap} {i l : Addr} {k : Nat} (e : h.IsListIter i l k) : ∃ o, h.get? i = some o ∧ IsIt o := by
  obtain ⟨o, e, c, d⟩ := e
  exact ⟨o, e, ⟨_, d⟩, by rw [c]; decide⟩
theorem it_ns {h : Heap} {b : Addr} (e : ∃ o, h.get? b = some o ∧ IsIt o) : ∃ o, h.get? b = some o ∧ NotNs o := by
  obtain ⟨o, e, ⟨vs, d⟩, _⟩ := e
  exact ⟨o, e, fun _ _ x => (by rw [d] at x; cases x), fun _ x => (by rw [d] at x; cases x)⟩
theorem seq_ns {h : Heap} {b : Addr} (e : ∃ o, h.get? b = some o ∧ ∃ xs n, o.data = .seq xs n) : ∃ o, h.get? b = some o ∧ NotNs o := let ⟨o, e, q⟩ := e; ⟨o, e, seq_notNs q⟩
theorem pair_seq {h : Heap} {T : Addr} {a b : Value} (e : IsPair h T a b) : ∃ o, h.get? T = some o ∧ ∃ xs n, o.data = .seq xs n := ⟨_, e, _, _, rfl⟩
theorem SI.storeE {x : Str} {sl : Nat} {d : D} {v : Value} {Q : Unit → Shared → Prop} {E : Value → Shared → Prop} (W : WrS base h₀ ms env) (i : SI base h₀ ms pv env cx ρ ad μ s.heap) (hx : slotOf env.scope.names cx x = some sl) (rv : Rep ad s.heap d v)
    (h : ∀ s', SI base h₀ ms pv env cx (ρ.set sl (some d)) ad μ s'.heap → Same s s' → Pv pv s.heap s'.heap → Q () s') : wpAny (model pg w) A (storeName env x v) Q E s := mono' (i.store (Q := Q) W hx rv fun s' a b c _ => h s' a b c) fun _ _ q => q
noncomputable def ZH (wr : List Addr) (TO : Addr) (h : Heap) : Prop := ∀ b ∈ wr, (∃ o, h.get? b = some o ∧ IsIt o) ∨ (b = TO ∧ ∃ o, h.get? b = some o ∧ ∃ xs n, o.data = .seq xs n)
theorem ZH.wr {wr ow av₁ av₂ : List Addr} {TO : Addr} {h h' : Heap} (x : ZH wr TO h) (y : ZH wr TO h') (ta : TO ∈ av₁) (tn : TO ∉ ow) (ns : TO ∈ av₂ → ∀ o, h'.get? TO = some o → ¬ IsIt o) :
    ∀ b ∈ wr, (∃ o, h.get? b = some o ∧ IsIt o) ∨ (b ∈ av₁ ∧ b ∉ ow ∧ (∃ o, h.get? b = some o ∧ ∃ xs n, o.data = .seq xs n) ∧ (b ∈ av₂ → ∃ o, h'.get? b = some o ∧ ∃ xs n, o.data = .seq xs n)) := fun b hb => by
  rcases x b hb with q | ⟨rfl, q⟩
  · exact .inl q
  · refine .inr ⟨ta, tn, q, fun m => ?_⟩
    rcases y b hb with ⟨o, e, z⟩ | ⟨_, z⟩
    · exact absurd z (ns m o e)
    · exact z
theorem ZH.ns {wr : List Addr} {TO : Addr} {h : Heap} (x : ZH wr TO h) : ∀ b ∈ wr, ∃ o, h.get? b = some o ∧ NotNs o := fun b hb => by
  rcases x b hb with q | ⟨_, q⟩
  · exact it_ns q
  · exact seq_ns q
theorem zip_loop {m N : Nat} {mt : List Str} (hh : A.handled = none) (V : WrS base h₀ ms env) (H : ∀ N', N' < N → LiOK w base F MF A N') {x y : Str} {p1 p2 pt : Pos} {kk : Nat} {bd : List Stmt} {pbd : List PS} {s1 s2 : Nat} {zs : List (Int × Int)} {o : Out} {ρ' : Sto} {μ' : Mus} {av : Av} (hf : A.frames = some av.fs)
    {z TO : Addr} {fp wr : List Addr} {Pt : Nat → Array Value → Prop} {St : Nat → Heap → Prop} {Mid : Nat → Addr → Heap → Prop} {nn : Nat} (W : WalksT pg w A z fp wr nn Pt St Mid) (hn : nn = zs.length) (hP : ∀ j vals d, Pt j vals → zs[j]? = some d → ∃ t u, vals = #[.int d.1 t, .int d.2 u])
    (hS : ∀ j h, St j h → ZH wr TO h ∧ ∀ o, h.get? TO = some o → ¬ IsIt o) (hM : ∀ j T h, Mid j T h → ZH wr TO h ∧ ∀ o, h.get? TO = some o → ¬ IsIt o) (hsx : slotOf env.scope.names cx x = some s1) (hsy : slotOf env.scope.names cx y = some s2) (hbd : trSL env.scope.names mt cx m bd = some pbd)
    (h0 : ∀ b ∈ wr, h₀.get? b = none) (hfp : TO ∈ fp) (hTO : TO ∉ av.av) (hpv : ∀ b ∈ wr, b ∉ pv) (hst : St 0 s.heap)
    (i : SI base h₀ ms (fp ++ pv) env cx ρ ad μ s.heap) (hav : ad.av = ⟨TO :: av.av, av.fs⟩) (hx : exZ F MF N s1 s2 pbd zs ρ μ = some (o, ρ', μ')) :
    codeAny (model pg w) A (.forLoop (.Tuple [.Name x p1, .Name y p2] kk pt) (.ref z) bd [] env) (fun r s' => match r with | .ok f => Post base h₀ ms pv env cx av s o ρ' μ' f s' | .error e => cameBackBy (model pg w) A env NoE e s') s := by
  have back : ∀ (ad₁ : Ad) (ρ₁ : Sto) (μ₁ : Mus) (h : Heap), ad₁.av = ⟨TO :: av.av, av.fs⟩ → SI base h₀ ms (fp ++ pv) env cx ρ₁ ad₁ μ₁ h → SI base h₀ ms pv env cx ρ₁ ⟨ad₁.own, av⟩ μ₁ h := fun ad₁ ρ₁ μ₁ h e i₁ => by
    have q := (i₁.less fun b m => List.mem_append_right _ m).chg (pv := pv) (h' := h) (wr := []) (av₂ := av.av) V (fun b o _ e => e) (fun b m => nomatch m) (fun b m => by rw [e]; exact .tail _ m) (fun b m => nomatch m) (fun b _ m => nomatch m)
    rw [show ad₁.av.fs = av.fs by rw [e]] at q
    exact q
  have backR : ∀ (ad₁ : Ad) (h : Heap) (d : D) (v : Value), ad₁.av = ⟨TO :: av.av, av.fs⟩ → Rep ad₁ h d v → Rep ⟨ad₁.own, av⟩ h d v := fun ad₁ h d v e r => Rep.ad (ad := ad₁) (ad' := ⟨ad₁.own, av⟩) (fun _ _ e => e) (fun a o _ m q => m (by
    rcases List.mem_append.mp q with q | q
    · exact List.mem_append_left _ q
    · refine List.mem_append_right _ ?_
      rw [e]; exact .tail _ q)) d v r
  refine codeAny_forLoop_any (ForI base h₀ ms (fp ++ pv) env cx ⟨TO :: av.av, av.fs⟩ s N pv s.heap St zs fun k l ρ₁ μ₁ => exZ F MF k s1 s2 pbd l ρ₁ μ₁ = some (o, ρ', μ')) ?_ N ⟨Nat.le_refl _, 0, ρ, μ, ad, hav, i, Same.refl _, Pv.refl _ _, hst, Nat.zero_le _, hx⟩
  rintro k s' ⟨hk, j, ρ₁, μ₁, ad₁, hav₁, i', sm, pp, st, hj, hx⟩
  have notwr : ∀ b ∈ pv, b ∉ wr := fun b m q => hpv b q m
  have TOown : TO ∉ ad₁.own := (i'.pvo TO (List.mem_append_left _ hfp)).1
  have TOav : TO ∈ ad₁.av.av := by rw [hav₁]; exact .head _
  have kpv : ∀ {ad₁ : Ad} {ρ₁ : Sto} {μ₁ : Mus} {h h' : Heap}, SI base h₀ ms (fp ++ pv) env cx ρ₁ ad₁ μ₁ h → (∀ b o, b ∉ wr → h.get? b = some o → h'.get? b = some o) → Pv pv h h' := fun {ad₁ ρ₁ μ₁ h h'} i₁ k₁ b m => by
    obtain ⟨_, o, e, _⟩ := i₁.pvo b (List.mem_append_right _ m)
    rw [e]; exact k₁ b o (notwr b m) e
  cases k with
  | zero => cases hx
  | succ k =>
    by_cases hlt : j < zs.length
    · have hd : zs[j]? = some zs[j] := List.getElem?_eq_getElem hlt
      rw [List.drop_eq_getElem_cons hlt] at hx
      generalize zs[j] = d at hd hx
      obtain ⟨kx, ky⟩ := d
      refine W.item j _ _ _ (hn ▸ hlt) st fun T vals h₁ tk₁ hPt _ hT hMid k₁ => ?_
      obtain ⟨t1, t2, rfl⟩ := hP j vals _ hPt hd
      have i₁ : SI base h₀ ms (fp ++ pv) env cx ρ₁ ad₁ μ₁ h₁ := i'.chg (wr := wr) (av₂ := ad₁.av.av) V k₁ h0 (fun b m => m) ((hS j _ st).1.wr (hM j T _ hMid).1 TOav TOown fun _ => (hM j T _ hMid).2) (fun b _ hb => (hM j T _ hMid).1.ns b hb)
      refine W.go _ kk pt j T _ _ _ hMid fun h₂ st₂ k₂ => ?_
      have i₂ : SI base h₀ ms (fp ++ pv) env cx ρ₁ ad₁ μ₁ h₂ := i₁.chg (wr := wr) (av₂ := ad₁.av.av) V k₂ h0 (fun b m => m) ((hM j T _ hMid).1.wr (hS _ _ st₂).1 TOav TOown fun _ => (hS _ _ st₂).2) (fun b _ hb => (hS _ _ st₂).1.ns b hb)
      have ht₂ : h₂.IsTuple T #[Value.int kx t1, Value.int ky t2] := hT.at fun o e => k₂ T o (W.apart j T h₁ hMid) e
      refine wpAny_assign_Tuple hh ht₂ rfl rfl fun h₃ hx₃ => ?_
      have kp₃ : Kept h₂ h₃ := KeptS.w fun b o x => hx₃ b o (Nat.ne_of_lt (Heap.lt_size x)) x
      obtain ⟨i₃, pv₃⟩ := i₂.keep kp₃
      show wpAny _ A (assignInOrder [assign (.Name x p1) env, assign (.Name y p2) env] [Value.int kx t1, Value.int ky t2]) _ _ _
      refine assignInOrder_cons (wpAny_assign_Name (i₃.storeE (s := { s' with heap := h₃, toks := tk₁ }) V hsx rep_int fun s₄ i₄ sm₄ pv₄ => assignInOrder_cons (wpAny_assign_Name (i₄.storeE V hsy rep_int fun s₅ i₅ sm₅ pv₅ => assignInOrder_nil ?_))))
      have pv₃₅ : Pv (fp ++ pv) h₂ s₅.heap := (pv₃.trans pv₄).trans pv₅
      have st₅ := W.frame _ _ _ st₂ fun b hb o e => (pv₃₅ b (List.mem_append_left _ hb)).trans e
      have sm' : Same s s₅ := (sm.trans (Same.trans ⟨h₃, tk₁, rfl⟩ sm₄)).trans sm₅
      have pp' : Pv pv s.heap s₅.heap := ((pp.trans (kpv i' k₁)).trans (kpv i₁ k₂)).trans fun b m => pv₃₅ b (List.mem_append_right _ m)
      obtain ⟨o₂, ρ₂, μ₂, hl, hx⟩ := exZ_cons hx
      refine mono' (H k (Nat.lt_of_lt_of_le (Nat.lt_succ_self k) hk) h₀ ms _ env cx mt _ ad₁ μ₁ s₅ bd pbd m _ _ _ V (by rw [hav₁]; exact hf) i₅ hbd hl) fun f s₆ q => ?_
      obtain ⟨ad₂, hav₂, i₆, fl, sm₆, p₆⟩ := q
      have pp₆ : Pv pv s.heap s₆.heap := pp'.trans fun b m => p₆ b (List.mem_append_right _ m)
      cases o₂ with
      | brk =>
        cases hx
        cases f <;> first | exact fl.elim | exact ⟨⟨ad₂.own, av⟩, rfl, back _ _ _ _ (hav₂.trans hav₁) i₆, trivial, sm'.trans sm₆, pp₆⟩
      | ret d =>
        cases hx
        obtain ⟨v, rfl, rv⟩ := flw_ret fl
        exact ⟨⟨ad₂.own, av⟩, rfl, back _ _ _ _ (hav₂.trans hav₁) i₆, backR _ _ _ _ (hav₂.trans hav₁) rv, sm'.trans sm₆, pp₆⟩
      | next => cases f <;> first | exact fl.elim | exact ⟨k, Nat.lt_succ_self _, Nat.le_of_lt hk, j + 1, ρ₂, μ₂, ad₂, hav₂.trans hav₁, i₆, sm'.trans sm₆, pp₆, W.frame _ _ _ st₅ fun b hb o e => (p₆ b (List.mem_append_left _ hb)).trans e, hlt, hx⟩
      | cont => cases f <;> first | exact fl.elim | exact ⟨k, Nat.lt_succ_self _, Nat.le_of_lt hk, j + 1, ρ₂, μ₂, ad₂, hav₂.trans hav₁, i₆, sm'.trans sm₆, pp₆, W.frame _ _ _ st₅ fun b hb o e => (p₆ b (List.mem_append_left _ hb)).trans e, hlt, hx⟩
    · have hin : j = zs.length := Nat.le_antisymm hj (Nat.le_of_not_lt hlt)
      subst hin
      rw [List.drop_length] at hx
      cases hx
      refine W.done _ _ _ (hn ▸ st) fun h₁ tk₁ k₁ => wpAny_execs_nil ?_
      have i₆ : SI base h₀ ms pv env cx _ ad₁ _ s'.heap := i'.less fun b m => List.mem_append_right _ m
      have i₇ := i₆.chg (wr := wr) (av₂ := av.av) V k₁ h0 (fun b m => by rw [hav₁]; exact .tail _ m) (fun b hb => ((hS _ _ st).1 b hb).imp id fun ⟨e, q⟩ => ⟨e ▸ TOav, e ▸ TOown, q, fun m => absurd (e ▸ m) hTO⟩) (fun b m hb => absurd hb (notwr b m))
      rw [show ad₁.av.fs = av.fs by rw [hav₁]] at i₇
      exact ⟨⟨ad₁.own, av⟩, rfl, i₇, trivial, sm.trans ⟨h₁, tk₁, rfl⟩, pp.trans (kpv i' k₁)⟩
end
end Mine
end
section
namespace Mine
section
variable {w : World} {base h₀ : Heap} {ms pv : List Addr} {F : Nat → List D → Option D} {MF : Nat → List D → List D → Option (List D × D)} {n : Nat} {A : Around} {ad : Ad} {μ : Mus} {env : Env} {cx : List Str} {ρ : Sto} {s : Shared}
theorem SI.h0new {h : Heap} {b : Addr} (i : SI base h₀ ms pv env cx ρ ad μ h) (hI : h.get? b = none) : h₀.get? b = none := by
  by_cases hm : b ∈ ms
  · obtain ⟨o', e', _⟩ := i.am.there b (List.mem_append_left _ (i.msub b hm)); rw [hI] at e'; cases e'
  · exact i.kb.none hm hI
theorem size_none (h : Heap) (k : Nat) : h.get? (h.objs.size + k) = none := by
  cases e : h.get? (h.objs.size + k) with
  | none => rfl
  | some o => exact absurd (Heap.lt_size e) (Nat.not_lt.mpr (Nat.le_add_right _ k))
theorem st_for2 {m N : Nat} {mt : List Str} (W : Wd w base F n) (hA : AOK (n + 1) A) (hf : A.frames = some ad.av.fs) (V : WrS base h₀ ms env) (i : SI base h₀ ms pv env cx ρ ad μ s.heap) (H : ∀ N', N' < N → LiOK w base F MF A N') {x y : Str} {p1 p2 pt pf cpos pos : Pos} {kk : Nat} {a b : Expr} {bd : List Stmt} {pa pb : PX} {pbd : List PS} {s1 s2 : Nat} {xs ys : List D} {ks ls : List Int} {o : Out} {ρ' : Sto} {μ' : Mus}
    (hg : glName env.scope.names cx ("zip" : Str) = true) (hsx : slotOf env.scope.names cx x = some s1) (hsy : slotOf env.scope.names cx y = some s2) (hta : tr env.scope.names m cx a = some pa) (htb : tr env.scope.names m cx b = some pb) (hbd : trSL env.scope.names mt cx m bd = some pbd)
    (ea : ev F μ ρ pa = some (.list xs)) (eb : ev F μ ρ pb = some (.list ys)) (gx : gInts xs = some ks) (gy : gInts ys = some ls) (hx : exZ F MF N s1 s2 pbd (ks.zip ls) ρ μ = some (o, ρ', μ')) :
    wpAny (model pg w) A (exec (.For (.Tuple [.Name x p1, .Name y p2] kk pt) (.Call (.Name ("zip" : Str) pf) [a, b] [] cpos) bd [] pos) env) (Post base h₀ ms pv env cx ad.av s o ρ' μ') NoE s := by
  unfold glName at hg
  simp only [Bool.and_eq_true, beq_iff_eq, Option.isNone_iff_eq_none] at hg
  refine wpAny_For (call_name (by rw [noStar_of hta, noStar_of htb]; rfl) (boot_name W.glo i.er i.am hg.1.1 hg.2 W.glo.zip (PyProof.Rows.callWith_type (plainArgs_any _ _) ?_))) (fun _ => rfl)
  refine evalArgs_plain (spliced_cons (mono' ((snd W hA hf m).ex env cx ρ s a pa _ i.er i.am hta ea) fun va sa qa => ?_))
  obtain ⟨ia, pva⟩ := i.up qa.1.1
  refine spliced_cons (mono' ((snd W hA hf m).ex env cx ρ sa b pb _ ia.er ia.am htb eb) fun vb sb qb => spliced_nil ?_)
  obtain ⟨ib, pvb⟩ := ia.up qb.1.1
  obtain ⟨l1, vs, rfl, n1, pl1, rs1⟩ := of_list (qa.1.2.up qb.1.1)
  obtain ⟨l2, us, rfl, n2, pl2, rs2⟩ := of_list qb.1.2
  have iv := gInts_val gx rs1
  have iu := gInts_val gy rs2
  have a1 := pl1.lt
  have a2 := pl2.lt
  refine call_zip_2 pl1.isList pl2.isList fun h' hz hTI hTO hi1 hi2 _ hk => ?_
  have Da := zipApart_new a1 a2
  have kz : Keeps sb { sb with heap := h' } := ⟨h', sb.toks, rfl, KeptS.w hk⟩
  have st : IsZip h' (sb.heap.objs.size + 4) (sb.heap.objs.size + 2) (sb.heap.objs.size + 3) .none ∧ IsPair h' (sb.heap.objs.size + 2) (.ref sb.heap.objs.size) (.ref (sb.heap.objs.size + 1)) ∧ (∃ a b, IsPair h' (sb.heap.objs.size + 3) a b) ∧ h'.IsListIter sb.heap.objs.size l1 0 ∧ h'.IsListIter (sb.heap.objs.size + 1) l2 0 ∧ h'.IsList l1 vs.toArray ∧ h'.IsList l2 us.toArray :=
    ⟨hz, hTI, ⟨_, _, hTO⟩, hi1, hi2, pl1.isList.at fun o e => hk _ o e, pl2.isList.at fun o e => hk _ o e⟩
  have Wz := WalksT.zip2 (prog := pg) (w := w) hA.hh _ _ _ _ _ _ _ Da vs.toArray us.toArray
  have io := ib.off V (s' := { sb with heap := h' }) kz (size_none sb.heap 3) (pair_seq hTO)
  have pvz := (ib.keep (KeptS.w hk)).2
  refine Wz.self 0 _ _ _ st ?_
  have fr : ∀ q ∈ [sb.heap.objs.size + 4, sb.heap.objs.size + 3, sb.heap.objs.size, sb.heap.objs.size + 1], sb.heap.get? q = none := fun q hq => by
    simp only [List.mem_cons, List.not_mem_nil, or_false] at hq
    rcases hq with rfl | rfl | rfl | rfl
    · exact size_none _ 4
    · exact size_none _ 3
    · exact size_none _ 0
    · exact size_none _ 1
  have iz : SI base h₀ ms ([sb.heap.objs.size + 4, sb.heap.objs.size + 2, sb.heap.objs.size + 3, sb.heap.objs.size, sb.heap.objs.size + 1, l1, l2] ++ pv) env cx ρ (ad.off (sb.heap.objs.size + 3)) μ h' := by
    refine ⟨io.er, io.am, io.len, io.kb, io.own, fun q hq => ?_, io.msub, io.fsl⟩
    have nw : ∀ k, sb.heap.objs.size + k ∉ ad.own := fun k q => ib.am.fresh (size_none sb.heap k) (List.mem_append_left _ q)
    rcases List.mem_append.mp hq with hq | hq
    · simp only [List.mem_cons, List.not_mem_nil, or_false] at hq
      rcases hq with rfl | rfl | rfl | rfl | rfl | rfl | rfl
      · exact ⟨nw 4, it_ns (it_zip hz)⟩
      · exact ⟨nw 2, seq_ns (pair_seq hTI)⟩
      · exact ⟨nw 3, seq_ns (pair_seq hTO)⟩
      · exact ⟨nw 0, it_ns (it_li hi1)⟩
      · exact ⟨nw 1, it_ns (it_li hi2)⟩
      · refine ⟨fun q => n1 (List.mem_append_left _ q), ?_⟩
        obtain ⟨m, e⟩ := pl1
        exact seq_ns ⟨_, hk _ _ e, _, _, rfl⟩
      · refine ⟨fun q => n2 (List.mem_append_left _ q), ?_⟩
        obtain ⟨m, e⟩ := pl2
        exact seq_ns ⟨_, hk _ _ e, _, _, rfl⟩
    · exact io.pvo q hq
  have hS : ∀ {h : Heap} {f0 : Value} {j : Nat} {a b : Value}, IsZip h (sb.heap.objs.size + 4) (sb.heap.objs.size + 2) (sb.heap.objs.size + 3) f0 → IsPair h (sb.heap.objs.size + 3) a b → h.IsListIter sb.heap.objs.size l1 j → h.IsListIter (sb.heap.objs.size + 1) l2 j →
      ZH [sb.heap.objs.size + 4, sb.heap.objs.size + 3, sb.heap.objs.size, sb.heap.objs.size + 1] (sb.heap.objs.size + 3) h ∧ ∀ o, h.get? (sb.heap.objs.size + 3) = some o → ¬ IsIt o := fun {h f0 j a b} q1 q2 q3 q4 => by
    refine ⟨fun q hq => ?_, fun o e z => ?_⟩
    · simp only [List.mem_cons, List.not_mem_nil, or_false] at hq
      rcases hq with rfl | rfl | rfl | rfl
      · exact .inl (it_zip q1)
      · exact .inr ⟨rfl, pair_seq q2⟩
      · exact .inl (it_li q3)
      · exact .inl (it_li q4)
    · obtain ⟨o', e', q'⟩ := pair_seq q2
      rw [e] at e'; cases e'
      exact isIt_not z (.inl q')
  have main := zip_loop (s := { sb with heap := h' }) (w := w) (av := ad.av) (TO := sb.heap.objs.size + 3) hA.hh V H (hf := hf) Wz (zs := ks.zip ls) (by simp [iv.length, iu.length]) (fun j vals d ⟨x0, y0, e1, e2, e3⟩ hd => by
      obtain ⟨a1, t1, g1, rfl⟩ := ints_get iv j x0 (by simpa using e1)
      obtain ⟨a2, t2, g2, rfl⟩ := ints_get iu j y0 (by simpa using e2)
      rw [PyProof.Rows.zip_get g1 g2] at hd
      cases hd
      exact ⟨t1, t2, e3⟩) (fun j h ⟨q1, _, ⟨_, _, q2⟩, q3, q4, _⟩ => hS q1 q2 q3 q4) (fun j T h ⟨q1, _, ⟨_, _, q2⟩, q3, q4, _⟩ => hS q1 q2 q3 q4) hsx hsy hbd (fun q hq => ib.h0new (fr q hq)) (by simp) (fun q => ib.am.fresh (size_none sb.heap 3) (List.mem_append_right _ q)) (fun q hq hp => by
    obtain ⟨_, o, e, _⟩ := ib.pvo q hp
    rw [fr q hq] at e; cases e) st iz rfl hx (p1 := p1) (p2 := p2) (pt := pt) (kk := kk)
  refine codeAny_mono main fun r s' q => ?_
  cases r with
  | ok f => exact q.after (((keeps_same qa.1.1).trans (keeps_same qb.1.1)).trans (keeps_same kz)) ((pva.trans pvb).trans pvz)
  | error e => exact q
end
end Mine
end
section
namespace Mine
theorem lk_list_append : typeLookup (.type "list") ("append" : Str) = pure (some (.builtin "list.append")) := by rw [typeLookup_type, builtinLookup_eq_fast]; kernel_rfl
theorem slot_md_get : Slot "method_descriptor" "__get__" "method_descriptor.__get__" :=
  .of (owner := "method_descriptor") (n := "__get__") (by rw [typeLookup_type, builtinLookup_eq_fast]; kernel_rfl) (by decide +kernel) (by decide +kernel) (by decide +kernel)
    (by first | exact .inl (by decide +kernel) | exact .inr (by decide +kernel)) (by rw [isSubtype_type]; kernel_rfl)
theorem entry_md_get : entryFor table "method_descriptor.__get__" = some Builtin.«method_descriptor.__get__» := entryFor_of_tree (by kernel_rfl)
theorem args_md_get (a b c : Value) : argsOk "method_descriptor.__get__" ⟨[a, b, c], []⟩ := by unfold argsOk; kernel_rfl
theorem md_noset : typeLookup (.type "method_descriptor") "__set__" = pure none := by rw [typeLookup_type, builtinLookup_eq_fast]; kernel_rfl
theorem md_nodel : typeLookup (.type "method_descriptor") "__delete__" = pure none := by rw [typeLookup_type, builtinLookup_eq_fast]; kernel_rfl
theorem sub_app_owner : isSubtype (.type "list") (.type (".".intercalate ("list.append".cutAt '.').dropLast)) = pure true := by
  rw [show ".".intercalate ("list.append".cutAt '.').dropLast = "list" from by decide +kernel, isSubtype_type]; kernel_rfl
section
variable {w : World} {A : Around} {E : Value → Shared → Prop} {h : Heap} {g : Array GenState} {d : Drawn} {t : Nat} {os : OsState} {a : Addr} {o : Obj}
theorem app_get {R : Result → Shared → Prop} (hx : h.get? a = some o) (hc : o.cls = .type "list") (hq : R (.ok (.ret (.ref h.objs.size))) ⟨h.push (bmObj a), g, d, t, os⟩) :
    codeAny (model pg w) A (.call (.builtin "method_descriptor.__get__") ⟨[.builtin "list.append", .ref a, .type "list"], []⟩) R ⟨h, g, d, t, os⟩ := by
  have hT : (⟨h, g, d, t, os⟩ : Shared).TypeIs (.ref a) "list" := ⟨_, hx, hc⟩
  have hT5 : (⟨h, g, d, t, os⟩ : Shared).TypeIs (.builtin "list.append") "method_descriptor" := PySem.F.type_list_append
  have f8 := sub_app_owner
  refine codeAny_call_builtin slot_md_get.plain entry_md_get (slot_md_get.check _ _ _ _ _ _ _ _ hT5 (args_md_get _ _ _) ?_)
  unfold Builtin.«method_descriptor.__get__»
  repeat (any_goals (first | assumption | wp_step))
theorem copied_app : (["__module__", "__name__", "__qualname__", "__doc__", "__annotations__"] : List Str).contains ("append" : Str) = false := by decide +kernel
theorem app_entry {tk : Tok} {xs : Array Value} {k : Nat} {Q : Fin → Shared → Prop} (hx : h.get? a = some { cls := .type "list", dict := none, data := .seq xs k, slots := #[] }) (hq : Q (.done (.ret (.ref h.objs.size))) ⟨h.push (bmObj a), g, d, t, os⟩) :
    wpAny (model pg w) A (Builtin.«object.__getattribute__» ⟨[.ref a, .str ("append" : Str) tk], []⟩) Q E ⟨h, g, d, t, os⟩ := by
  have hT : (⟨h, g, d, t, os⟩ : Shared).TypeIs (.ref a) "list" := ⟨_, hx, rfl⟩
  have hT5 : (⟨h, g, d, t, os⟩ : Shared).TypeIs (.builtin "list.append") "method_descriptor" := PySem.F.type_list_append
  have f4 := lk_list_append
  have f5 := PySem.F.type_list_append
  have f6 := slot_md_get.lookup
  have f7 := md_noset
  have f8 := md_nodel
  unfold Builtin.«object.__getattribute__»
  repeat (any_goals (first | assumption | wp_step))
  exact app_get hx rfl (wpAny_pure hq)
theorem app_call {tk : Tok} {xs : Array Value} {k : Nat} {R : Result → Shared → Prop} (hx : h.get? a = some { cls := .type "list", dict := none, data := .seq xs k, slots := #[] }) (hq : R (.ok (.ret (.ref h.objs.size))) ⟨h.push (bmObj a), g, d, t, os⟩) :
    codeAny (model pg w) A (.call (.builtin "list.__getattribute__") ⟨[.ref a, .str ("append" : Str) tk], []⟩) R ⟨h, g, d, t, os⟩ :=
  codeAny_call_builtin PySem.F.slot_list_getattribute.plain PySem.F.entry_list_ga (PySem.F.slot_list_getattribute.check _ _ _ _ _ _ _ _ (show (⟨h, g, d, t, os⟩ : Shared).TypeIs (.ref a) "list" from ⟨_, hx, rfl⟩) (PySem.F.args_list_getattribute_2 _ _) (app_entry hx hq))
theorem app_attr {xs : Array Value} {k : Nat} {Q : Value → Shared → Prop} (hx : h.get? a = some { cls := .type "list", dict := none, data := .seq xs k, slots := #[] }) (hq : Q (.ref h.objs.size) ⟨h.push (bmObj a), g, d, t + 1, os⟩) :
    wpAny (model pg w) A (getAttr (.ref a) ("append" : Str) true) Q E ⟨h, g, d, t, os⟩ := by
  have hT : ∀ tk', (⟨h, g, d, tk', os⟩ : Shared).TypeIs (.ref a) "list" := fun _ => ⟨_, hx, rfl⟩
  have f2 := PySem.F.slot_list_getattribute.lookup
  have f3 := PySem.F.slot_list_getattribute.bind (.ref a)
  have f5 := am_list_getattr_none
  unfold getAttr getAttrBy
  repeat (any_goals (first | assumption | exact hT _ | wp_step))
  refine app_call hx ?_
  repeat (any_goals (first | assumption | wp_step))
theorem app_name {env : Env} {x : Str} {p pos : Pos} {vs : List Value} {Q : Value → Shared → Prop} {s : Shared} (pl : PL s.heap a vs) (hn : wpAny (model pg w) A (eval (.Name x p) env) (fun v s' => v = .ref a ∧ s' = s) E s)
    (hq : Q (.ref s.heap.objs.size) { s with heap := s.heap.push (bmObj a), toks := s.toks + 1 }) : wpAny (model pg w) A (eval (.Attribute (.Name x p) ("append" : Str) pos) env) Q E s := by
  obtain ⟨n, e⟩ := pl
  refine Attribute_name (wpAny_mono hn (fun v s' q => ?_) fun _ _ x => x)
  obtain ⟨rfl, rfl⟩ := q
  obtain ⟨h, g, d, t, os⟩ := s'
  exact app_attr e hq
noncomputable def BmAt (u a : Addr) (h : Heap) : Prop := h.get? u = some (bmObj a)
theorem callWith_bm {M : Model} {s : Shared} {pos : Pos} {u : Addr} {first : List Value} {args : List (Bool × Sem Value)} {Q : Value → Shared → Prop} (hplain : args.any (·.1) = false)
    (h : wpAny M A (evalArgs (.ref u) true args []) (fun x s₁ => BmAt u a s₁.heap ∧ wpAny M A (call (.ref u) (first ++ x.pos) x.kw) Q E s₁) E s) : wpAny M A (callWith pos (.ref u) first args []) Q E s := by
  unfold callWith
  refine wpAny_bind (wpAny_holding (wpAny_mono h (fun x s₁ h₁ => wpAny_bind (wpAny_standAt ?_)) fun _ _ x => x))
  obtain ⟨ho, hcall⟩ := h₁
  simp -iota only [hplain, List.any_nil, Bool.or_false]
  refine wpAny_bind (m := keeperOf (.ref u)) ?_
  unfold keeperOf
  refine wpAny_bind (wpAny_load ho ?_)
  simp -iota only [bmObj, show (Value.type "builtin_function_or_method" != Value.type "method") = true by decide, show (Value.type "builtin_function_or_method" == Value.type "builtin_function_or_method" || Value.type "builtin_function_or_method" == Value.type "method-wrapper") = true by decide, if_true]
  refine wpAny_pure ?_
  exact wpAny_bind (wpAny_mono hcall (fun r s₂ hr => wpAny_bind (wpAny_holding (wpAny_point (wpAny_pure hr)))) fun _ _ x => x)
theorem sub_list_module : isSubtype (.type "list") (.type "module") = pure false := by rw [isSubtype_type]; kernel_rfl
theorem sub_list_type : isSubtype (.type "list") (.type "type") = pure false := by rw [isSubtype_type]; kernel_rfl
theorem kind_app : builtinKind "list.append" = some .method := by first | rfl | decide +kernel | kernel_rfl
theorem quiet_app {as : Args} : (Code.builtin "list.append" as).quiet = true := Code.quiet_builtin _ (by decide +kernel)
theorem check_app {v : Value} {xs : Array Value} {k : Nat} {Q : Unit → Shared → Prop} (hx : h.get? a = some { cls := .type "list", dict := none, data := .seq xs k, slots := #[] }) (hq : Q () ⟨h, g, d, t, os⟩) :
    wpAny (model pg w) A (checkBoundCall "list.append" ⟨[.ref a, v], []⟩) Q E ⟨h, g, d, t, os⟩ := by
  have hT : (⟨h, g, d, t, os⟩ : Shared).TypeIs (.ref a) "list" := ⟨_, hx, rfl⟩
  have f1 := sub_list_module
  have f2 := sub_list_type
  unfold checkBoundCall
  rw [kind_app]
  repeat (any_goals (first | assumption | wp_step))
  repeat (any_goals (first | assumption | wp_step))
theorem app_bound {v : Value} {u : Addr} {vs : List Value} {s : Shared} {Q : Value → Shared → Prop} (hu : BmAt u a s.heap) (pl : PL s.heap a vs) (hsz : vs.length ≤ sizeLine)
    (hQ : ∀ h', PL h' a (vs ++ [v]) → Heap.SameBut a s.heap h' → Q .none { s with heap := h' }) : wpAny (model pg w) A (call (.ref u) [v]) Q E s := by
  obtain ⟨n, hx⟩ := id pl
  refine wpAny_call (codeAny_of_tree ?_)
  show wpAny _ A.in1 (callAny (.ref u) ⟨[v], []⟩) _ _ s
  unfold callAny
  refine wpAny_bind (wpAny_load hu ?_)
  simp -iota only [bmObj, show (Value.type "builtin_function_or_method" == Value.type "method" || Value.type "builtin_function_or_method" == Value.type "builtin_function_or_method" || Value.type "builtin_function_or_method" == Value.type "method-wrapper") = true by decide, if_true]
  refine PySem.W.KFB.if_so (by decide) ?_
  obtain ⟨h, g, d, t, os⟩ := s
  refine wpAny_bind (check_app hx ?_)
  refine wpAny_bind (wpAny_pure (wpAny_pure ?_))
  refine ⟨quiet_app, codeAny_builtin PySem.F.entry_list_append ?_⟩
  show wpAny _ _ (updateSeq a (·.push v) >>= fun _ => ret .none) _ _ _
  refine wpAny_bind ?_
  exact wpAny_updateSeq hx rfl (wpAny_pure (hQ _ (pl_update pl (by simp)) (Heap.SameBut.update ..))) (hz := by simpa using hsz) (_hz' := by simp; omega)
end
end Mine
end
section
namespace Mine
section
variable {w : World} {base h₀ : Heap} {ms pv : List Addr} {F : Nat → List D → Option D} {MF : Nat → List D → List D → Option (List D × D)} {n : Nat} {A : Around} {ad : Ad} {μ : Mus} {env : Env} {cx : List Str} {ρ : Sto} {s : Shared}
theorem st_bnd (V : WrS base h₀ ms env) (i : SI base h₀ ms pv env cx ρ ad μ s.heap) {y x : Str} {p p' apos pos : Pos} {sl l k : Nat} (hy : slotOf env.scope.names cx y = some sl) (hx : slotOf env.scope.names cx x = some l) (hk : mlOf ρ l = some k) (hlt : k < μ.length) :
    wpAny (model pg w) A (exec (.Assign [.Name y p'] (.Attribute (.Name x p) ("append" : Str) apos) pos) env) (Post base h₀ ms pv env cx ad.av s .next (ρ.set sl (some (.bm k))) μ) NoE s := by
  obtain ⟨a, ha, nm⟩ := ml_var (w := w) (A := A) i hx hk
  obtain ⟨us, plu, rs⟩ := i.am.mu k a _ ha (List.getElem?_eq_getElem hlt)
  refine wpAny_Assign_Name (app_name plu (nm _ _ ⟨rfl, rfl⟩) ?_) rfl
  have kp : Keeps s { s with heap := s.heap.push (bmObj a), toks := s.toks + 1 } := keeps_mk (Kept.push _ _)
  obtain ⟨i₁, p₁⟩ := i.up kp
  have hr : Rep ad (s.heap.push (bmObj a)) (.bm k) (.ref s.heap.objs.size) := by
    simp only [qRep0, qRep1, qRep2, qRep3, qRep4, qRep5, qRep6, qRep7]
    exact ⟨_, a, rfl, i.am.fresh (fresh_size _), Heap.get?_push_size _ rfl, ha⟩
  exact SI.store (s := { s with heap := s.heap.push (bmObj a), toks := s.toks + 1 }) V i₁ hy hr fun s₄ i₄ k₄ p₄ _ => ⟨ad, rfl, i₄, trivial, (keeps_same kp).trans k₄, p₁.trans p₄⟩
theorem st_appB {m : Nat} (W : Wd w base F n) (hA : AOK (n + 1) A) (hfr : A.frames = some ad.av.fs) (V : WrS base h₀ ms env) (i : SI base h₀ ms pv env cx ρ ad μ s.heap) {f : Str} {p cpos pos : Pos} {e : Expr} {sl k : Nat} {pe : PX} {d : D} {ds : List D} (hf : slotOf env.scope.names cx f = some sl) (ht : tr env.scope.names m cx e = some pe)
    (he : ev F μ ρ pe = some d) (hk : ρ[sl]? = some (some (.bm k))) (hds : μ[k]? = some ds) (h2 : ds.length ≤ lim) :
    wpAny (model pg w) A (exec (.Expr (.Call (.Name f p) [e] [] cpos) pos) env) (Post base h₀ ms pv env cx ad.av s .next ρ (μ.set k (ds ++ [d]))) NoE s := by
  obtain ⟨hp, _, hi⟩ := slot_is hf
  obtain ⟨u, lc, rv⟩ := i.er.var f sl _ hi hk
  have rv' := rv
  simp only [qRep0, qRep1, qRep2, qRep3, qRep4, qRep5, qRep6, qRep7] at rv
  obtain ⟨um, a, rfl, hu, hb, ha⟩ := rv
  refine wpAny_Expr_any (call_name (noStar_of ht []) (lc.name i.er.kind hp (callWith_bm (a := a) (plainArgs_any _ _) ?_))) (not_inter i) rfl
  refine evalArgs_plain (spliced_cons (mono' ((snd W hA hfr m).ex env cx ρ s e pe d i.er i.am ht he) fun v s₁ q => spliced_nil ?_))
  obtain ⟨i₁, p₁⟩ := i.up q.1.1
  obtain ⟨vs, pl, rs⟩ := i₁.am.mu k a ds ha hds
  have hl := rs.length
  unfold lim at h2
  refine ⟨(keeps_kept q.1.1).at hb (fun _ _ z => nomatch z), ?_⟩
  refine app_bound ((keeps_kept q.1.1).at hb (fun _ _ z => nomatch z)) pl (by simp [sizeLine_eq]; omega) fun h' pl' hsb => ?_
  obtain ⟨i₃, p₃⟩ := i₁.list V ha pl (fun b o hb e => (hsb.2 b hb).trans e) pl' (rs.snoc q.1.2)
  exact ⟨ad, rfl, i₃, trivial, (keeps_same q.1.1).trans ⟨h', s₁.toks, rfl⟩, p₁.trans p₃⟩
theorem st_ret {m : Nat} (W : Wd w base F n) (hA : AOK (n + 1) A) (hfr : A.frames = some ad.av.fs) (i : SI base h₀ ms pv env cx ρ ad μ s.heap) {e : Expr} {pos : Pos} {pe : PX} {d : D} (ht : tr env.scope.names m cx e = some pe) (he : ev F μ ρ pe = some d) :
    wpAny (model pg w) A (exec (.Return (some e) pos) env) (Post base h₀ ms pv env cx ad.av s (.ret d) ρ μ) NoE s := by
  refine wpAny_Return_some (mono' ((snd W hA hfr m).ex env cx ρ s e pe d i.er i.am ht he) fun v s₁ q => ?_)
  obtain ⟨i₁, p₁⟩ := i.up q.1.1
  exact ⟨ad, rfl, i₁, q.1.2, keeps_same q.1.1, p₁⟩
theorem st_ret0 (i : SI base h₀ ms pv env cx ρ ad μ s.heap) {pos : Pos} : wpAny (model pg w) A (exec (.Return none pos) env) (Post base h₀ ms pv env cx ad.av s (.ret .none) ρ μ) NoE s := by
  refine wpAny_Return_none ?_
  exact ⟨ad, rfl, i, (by show Rep ad s.heap .none .none; simp only [qRep0, qRep1, qRep2, qRep3, qRep4, qRep5, qRep6, qRep7]), Same.refl _, Pv.refl _ _⟩
end
end Mine
end
section
namespace Mine
noncomputable def MFnOK (w : World) (base : Heap) (n : Nat) (a : Addr) (f : List D → List D → Option (List D × D)) : Prop :=
  ∀ (A : Around) (s : Shared) (ad : Ad) (a₀ : Addr) (cvs vs : List Value) (c ds c' : List D) (d : D), AOK n A → A.frames = some ad.av.fs → FrF base s.heap ad.av.fs → Kept base s.heap → (∀ x ∈ ad.all, base.get? x = none ∧ ∃ o, s.heap.get? x = some o ∧ ∃ xs m, o.data = .seq xs m) → a₀ ∈ ad.own →
    PL s.heap a₀ cvs → Reps ad s.heap c cvs → Reps ad s.heap ds vs → f c ds = some (c', d) →
    wpAny (model pg w) A (call (.ref a) (.ref a₀ :: vs)) (fun v s' => Same s s' ∧ KeptB [a₀] s.heap s'.heap ∧ ∃ cvs', PL s'.heap a₀ cvs' ∧ Reps ad s'.heap c' cvs' ∧ Rep ad s'.heap d v) NoE s
structure WdM (w : World) (base : Heap) (MF : Nat → List D → List D → Option (List D × D)) (n : Nat) : Prop where
  fns : ∀ k x, fi x mnames = some k → ∃ a o fd, (mgB base) x = some (.ref a) ∧ base.get? a = some o ∧ o.data = .func fd ∧ MFnOK w base n a (MF k)
section
variable {w : World} {base h₀ : Heap} {ms pv : List Addr} {F : Nat → List D → Option D} {MF : Nat → List D → List D → Option (List D × D)} {n : Nat} {A : Around} {ad : Ad} {μ : Mus} {env : Env} {cx : List Str} {ρ : Sto} {s : Shared}
theorem SI.list' {h h' : Heap} {k : Nat} {a : Addr} {vs vs' : List Value} {ds' : List D} (W : WrS base h₀ ms env) (i : SI base h₀ ms pv env cx ρ ad μ h) (hk : ad.own[k]? = some a) (pl : PL h a vs) (hsb : KeptB [a] h h') (pl' : PL h' a vs') (rs : Reps ad h' ds' vs') :
    SI base h₀ ms pv env cx ρ ad (μ.set k ds') h' ∧ Pv pv h h' := by
  have hm : a ∈ ad.own := List.mem_of_getElem? hk
  have hall : a ∈ ad.all := List.mem_append_left _ hm
  obtain ⟨nc, dk⟩ := hsb.nc pl
  have nin : ∀ b, b ≠ a → b ∉ [a] := fun b hb q => hb (List.mem_singleton.mp q)
  have sk : SK ad.all h h' := fun b o n e q => hsb.at (nin b (by rintro rfl; exact n hall)) e (Still.nd q)
  have kb₂ : Kept base h' := KeptB.kept ((i.am.keep.b []).butsW hsb fun b m => .inl (by rw [List.mem_singleton.mp m]; exact i.am.new _ hall))
  refine ⟨⟨i.er.keepN nc sk, ⟨kb₂, fun b m => ?_, i.am.new, fun j b ds e f => ?_, i.am.nd, i.am.fr.dk dk⟩, by simpa using i.len, i.kb.butsW hsb (fun b m => by rw [List.mem_singleton.mp m]; exact i.own _ hm), i.own, fun b m => ?_, i.msub, i.fsl⟩, fun b m => ?_⟩
  · by_cases hb : b = a
    · subst hb; obtain ⟨m, e⟩ := pl'; exact ⟨_, e, _, _, rfl⟩
    · obtain ⟨o, e, xs, m, q⟩ := i.am.there b m
      exact ⟨o, hsb.at (nin b hb) e (fun _ _ z => by rw [q] at z; cases z), xs, m, q⟩
  · by_cases hj : k = j
    · subst hj
      rw [hk] at e; injection e with e; subst e
      rw [List.getElem?_set_self (by have := i.len; have := (List.getElem?_eq_some_iff.mp hk).1; omega)] at f
      injection f with f; subst f
      exact ⟨vs', pl', rs⟩
    · rw [List.getElem?_set_ne hj] at f
      obtain ⟨us, p, q⟩ := i.am.mu j b ds e f
      have hb : b ≠ a := by
        rintro rfl
        obtain ⟨h1, e1⟩ := List.getElem?_eq_some_iff.mp hk
        obtain ⟨h2, e2⟩ := List.getElem?_eq_some_iff.mp e
        rcases Nat.lt_or_gt_of_ne hj with q | q
        · exact (List.pairwise_iff_getElem.mp i.am.nd _ _ h1 h2 q) (e1.trans e2.symm)
        · exact (List.pairwise_iff_getElem.mp i.am.nd _ _ h2 h1 q) (e2.trans e1.symm)
      exact ⟨us, let ⟨m, w⟩ := p; ⟨m, hsb.at (nin b hb) w (fun _ _ z => nomatch z)⟩, Reps.sk sk _ _ q⟩
  · obtain ⟨p, o, e, q⟩ := i.pvo b m
    exact ⟨p, o, hsb.at (nin b (by rintro rfl; exact p hm)) e q.1, q⟩
  · obtain ⟨p, o, e, q⟩ := i.pvo b m
    rw [e]; exact hsb.at (nin b (by rintro rfl; exact p hm)) e q.1
theorem glm_is {f : Str} (hg : glName env.scope.names cx f = true) : plainName f = true ∧ env.scope.names.lookup f = some .globalImplicit := by
  unfold glName at hg
  simp only [Bool.and_eq_true, beq_iff_eq, Option.isNone_iff_eq_none] at hg
  exact ⟨hg.1.1, hg.2⟩
theorem call_mut {m : Nat} (W : Wd w base F n) (WM : WdM w base MF n) (hA : AOK (n + 1) A) (hfr : A.frames = some ad.av.fs) (V : WrS base h₀ ms env) (i : SI base h₀ ms pv env cx ρ ad μ s.heap) {f l : Str} {p p' cpos : Pos} {as : List Expr} {k sl j : Nat} {pas : List PX} {ds c c' : List D} {d : D}
    (hg : glName env.scope.names cx f = true) (hf : fi f mnames = some k) (hl : slotOf env.scope.names cx l = some sl) (ht : trL env.scope.names m cx as = some pas) (hj : mlOf ρ sl = some j) (he : evL F μ ρ pas = some ds) (hc : μ[j]? = some c) (hm : MF k c ds = some (c', d)) :
    wpAny (model pg w) A (eval (.Call (.Name f p) (.Name l p' :: as) [] cpos) env) (fun v s' => SI base h₀ ms pv env cx ρ ad (μ.set j c') s'.heap ∧ Same s s' ∧ Pv pv s.heap s'.heap ∧ Rep ad s'.heap d v) NoE s := by
  obtain ⟨a, o, fd, h1, h2, h3, h4⟩ := WM.fns k f hf
  obtain ⟨hn, hk⟩ := glm_is hg
  have hst := ((snd (ad := ad) (μ := μ) W hA hfr m).st _ _ _ _ ht).1
  refine call_name (by show noStar as = true; exact hst) (glob_name W.glo i.er i.am hn hk h1 (callWith_function (o := o) (fd := fd) ?_))
  obtain ⟨a₀, ha, nm⟩ := ml_var (w := w) (A := A) i hl hj
  refine evalArgs_plain (spliced_cons (nm _ _ ?_))
  refine mono' ((snd W hA hfr m).li env cx ρ s as pas ds i.er i.am ht he) fun vs s₁ q => ?_
  obtain ⟨k₁, rs⟩ := q
  obtain ⟨i₁, p₁⟩ := i.up k₁
  obtain ⟨cvs, pl, rc⟩ := i₁.am.mu j a₀ c ha hc
  refine ⟨⟨i₁.am.keep.at h2 (fun _ _ z => by rw [h3] at z; cases z), h3⟩, ?_⟩
  refine mono' (h4 A s₁ ad a₀ cvs vs c ds c' d (hA.less (by lia)) hfr i₁.am.fr i₁.am.keep (fun x hx => ⟨i₁.am.new x hx, i₁.am.there x hx⟩) (List.mem_of_getElem? ha) pl rc rs hm) fun v s₂ q => ?_
  obtain ⟨sm, kb, cvs', pl', rc', rv⟩ := q
  obtain ⟨i₂, p₂⟩ := i₁.list' V ha pl kb pl' rc'
  exact ⟨i₂, (keeps_same k₁).trans sm, p₁.trans p₂, rv⟩
theorem st_callM {m : Nat} (W : Wd w base F n) (WM : WdM w base MF n) (hA : AOK (n + 1) A) (hfr : A.frames = some ad.av.fs) (V : WrS base h₀ ms env) (i : SI base h₀ ms pv env cx ρ ad μ s.heap) {f l : Str} {p p' cpos pos : Pos} {as : List Expr} {k sl j : Nat} {pas : List PX} {ds c c' : List D} {d : D}
    (hg : glName env.scope.names cx f = true) (hf : fi f mnames = some k) (hl : slotOf env.scope.names cx l = some sl) (ht : trL env.scope.names m cx as = some pas) (hj : mlOf ρ sl = some j) (he : evL F μ ρ pas = some ds) (hc : μ[j]? = some c) (hm : MF k c ds = some (c', d)) :
    wpAny (model pg w) A (exec (.Expr (.Call (.Name f p) (.Name l p' :: as) [] cpos) pos) env) (Post base h₀ ms pv env cx ad.av s .next ρ (μ.set j c')) NoE s := by
  refine wpAny_Expr_any (mono' (call_mut W WM hA hfr V i hg hf hl ht hj he hc hm) fun v s₁ q => ?_) (not_inter i) rfl
  obtain ⟨i₁, sm, pv₁, rv⟩ := q
  exact ⟨ad, rfl, i₁, trivial, sm, pv₁⟩
theorem st_asgCM {m : Nat} (W : Wd w base F n) (WM : WdM w base MF n) (hA : AOK (n + 1) A) (hfr : A.frames = some ad.av.fs) (V : WrS base h₀ ms env) (i : SI base h₀ ms pv env cx ρ ad μ s.heap) {x f l : Str} {p p' p'' cpos pos : Pos} {as : List Expr} {k sl sx j : Nat} {pas : List PX} {ds c c' : List D} {d : D}
    (hx : slotOf env.scope.names cx x = some sx) (hg : glName env.scope.names cx f = true) (hf : fi f mnames = some k) (hl : slotOf env.scope.names cx l = some sl) (ht : trL env.scope.names m cx as = some pas) (hj : mlOf ρ sl = some j) (he : evL F μ ρ pas = some ds) (hc : μ[j]? = some c) (hm : MF k c ds = some (c', d)) :
    wpAny (model pg w) A (exec (.Assign [.Name x p''] (.Call (.Name f p) (.Name l p' :: as) [] cpos) pos) env) (Post base h₀ ms pv env cx ad.av s .next (ρ.set sx (some d)) (μ.set j c')) NoE s := by
  refine wpAny_Assign_Name (mono' (call_mut W WM hA hfr V i hg hf hl ht hj he hc hm) fun v s₁ q => ?_) rfl
  obtain ⟨i₁, sm, pv₁, rv⟩ := q
  exact i₁.store V hx rv fun s₂ i₂ k₂ p₂ _ => ⟨ad, rfl, i₂, trivial, sm.trans k₂, pv₁.trans p₂⟩
end
end Mine
end
section
namespace Mine
section
variable {w : World} {base : Heap} {F : Nat → List D → Option D} {MF : Nat → List D → List D → Option (List D × D)} {n : Nat} {A : Around}
noncomputable def StOK (w : World) (base : Heap) (F : Nat → List D → Option D) (MF : Nat → List D → List D → Option (List D × D)) (A : Around) (N : Nat) : Prop :=
  ∀ (h₀ : Heap) (ms pv : List Addr) (env : Env) (cx : List Str) (mt : List Str) (ρ : Sto) (ad : Ad) (μ : Mus) (s : Shared) (st : Stmt) (ps : PS) (m : Nat) (o : Out) (ρ' : Sto) (μ' : Mus), WrS base h₀ ms env → A.frames = some ad.av.fs → SI base h₀ ms pv env cx ρ ad μ s.heap →
    trS env.scope.names mt cx m st = some ps → exS F MF N ps ρ μ = some (o, ρ', μ') → wpAny (model pg w) A (exec st env) (Post base h₀ ms pv env cx ad.av s o ρ' μ') NoE s
theorem out_eq {o o' : Out} {a a' : Sto} {b b' : Mus} (h : some (o, a, b) = some (o', a', b')) : o = o' ∧ a = a' ∧ b = b' := by
  injection h with h; injection h with h1 h2; injection h2 with h2 h3; exact ⟨h1, h2, h3⟩
noncomputable abbrev YS (w : World) (base : Heap) (F : Nat → List D → Option D) (MF : Nat → List D → List D → Option (List D × D)) (A : Around) (N : Nat) (h₀ : Heap) (ms pv : List Addr) (env : Env) (cx : List Str) (ρ : Sto) (ad : Ad) (μ : Mus) (s : Shared) (o : Out) (ρ' : Sto) (μ' : Mus) (ps : PS) (st : Stmt) : Prop :=
  exS F MF (N + 1) ps ρ μ = some (o, ρ', μ') → wpAny (model pg w) A (exec st env) (Post base h₀ ms pv env cx ad.av s o ρ' μ') NoE s
theorem sl1_el {P : Expr → Prop} {nm : List (Str × NameKind)} {cx : List Str} {e : Expr} {k : Nat} (h : sl1 nm cx e = some k) (kk : ∀ x p, slotOf nm cx x = some k → P (.Name x p)) : P e := dName_el h kk
theorem hd1_el {β : Type} {P : List Expr → Prop} {l : List Expr} {K : Expr → List Expr → Option β} {y : β} (h : hd1 l K = some y) (kk : ∀ a r, K a r = some y → P (a :: r)) : P l := by
  cases l with
  | nil => cases h
  | cons a r => exact kk a r h
theorem bm_is {ρ : Sto} {l k : Nat} (h : bmOf ρ l = some k) : ρ[l]? = some (some (.bm k)) := by
  unfold bmOf at h
  split at h
  · rename_i e; cases h; exact e
  · cases h
section
variable {h₀ : Heap} {ms pv : List Addr} {env : Env} {cx mt : List Str} {ρ : Sto} {ad : Ad} {μ : Mus} {s : Shared} {o : Out} {ρ' : Sto} {μ' : Mus} {ps : PS} {st : Stmt} {m N : Nat} {R : SR}
theorem y_ret (W : Wd w base F n) (hA : AOK (n + 1) A) (hf : A.frames = some ad.av.fs) (i : SI base h₀ ms pv env cx ρ ad μ s.heap) (h : yRet env.scope.names cx m st = some ps) : YS w base F MF A N h₀ ms pv env cx ρ ad μ s o ρ' μ' ps st :=
  sReturn_el (P := YS w base F MF A N h₀ ms pv env cx ρ ad μ s o ρ' μ' ps) h fun e p h => by
    cases e with
    | none => cases h; intro hx; cases hx; exact st_ret0 i
    | some e => exact mp_el (P := fun ps => YS w base F MF A N h₀ ms pv env cx ρ ad μ s o ρ' μ' ps _) h fun px h1 hx => bd_el hx fun d he hx => by cases hx; exact st_ret W hA hf i h1 he
theorem y_asgCM (W : Wd w base F n) (WM : WdM w base MF n) (hA : AOK (n + 1) A) (hf : A.frames = some ad.av.fs) (V : WrS base h₀ ms env) (i : SI base h₀ ms pv env cx ρ ad μ s.heap) (h : yAsgCM env.scope.names cx m st = some ps) : YS w base F MF A N h₀ ms pv env cx ρ ad μ s o ρ' μ' ps st :=
  sAssign_el (P := YS w base F MF A N h₀ ms pv env cx ρ ad μ s o ρ' μ' ps) h fun ts e pos h => bd_el h fun t ht h => bd_el h fun sx hx h => one_el (P := fun ts => YS w base F MF A N h₀ ms pv env cx ρ ad μ s o ρ' μ' ps (.Assign ts e pos)) ht
    (sl1_el (P := fun t => YS w base F MF A N h₀ ms pv env cx ρ ad μ s o ρ' μ' ps (.Assign [t] e pos)) hx fun x p h1 => dCall_el (P := fun e => YS w base F MF A N h₀ ms pv env cx ρ ad μ s o ρ' μ' ps (.Assign [.Name x p] e pos)) h fun f as kw q h =>
      dName_el (P := fun f => YS w base F MF A N h₀ ms pv env cx ρ ad μ s o ρ' μ' ps (.Assign [.Name x p] (.Call f as kw q) pos)) h fun f pf h => gd_el h fun hc h => em_el (P := fun kw => YS w base F MF A N h₀ ms pv env cx ρ ad μ s o ρ' μ' ps (.Assign [.Name x p] (.Call (.Name f pf) as kw q) pos)) (and_l hc)
        (bd_el h fun k h2 h => hd1_el (P := fun as => YS w base F MF A N h₀ ms pv env cx ρ ad μ s o ρ' μ' ps (.Assign [.Name x p] (.Call (.Name f pf) as [] q) pos)) h fun l as h => bd_el h fun sl h3 h => sl1_el (P := fun l => YS w base F MF A N h₀ ms pv env cx ρ ad μ s o ρ' μ' ps (.Assign [.Name x p] (.Call (.Name f pf) (l :: as) [] q) pos)) h3 fun l pl h3 =>
          mp_el (P := fun ps => YS w base F MF A N h₀ ms pv env cx ρ ad μ s o ρ' μ' ps _) h fun pas h4 hx => bd_el hx fun j hj hx => bd_el hx fun ds he hx => bd_el hx fun c hc' hx => bd_el hx fun r hm hx => by cases hx; exact st_asgCM W WM hA hf V i h1 (and_r hc) h2 h3 h4 hj he hc' hm))
theorem y_pop (V : WrS base h₀ ms env) (i : SI base h₀ ms pv env cx ρ ad μ s.heap) (h : yPop env.scope.names cx st = some ps) : YS w base F MF A N h₀ ms pv env cx ρ ad μ s o ρ' μ' ps st :=
  sAssign_el (P := YS w base F MF A N h₀ ms pv env cx ρ ad μ s o ρ' μ' ps) h fun ts e pos h => bd_el h fun t ht h => bd_el h fun sx hx h => one_el (P := fun ts => YS w base F MF A N h₀ ms pv env cx ρ ad μ s o ρ' μ' ps (.Assign ts e pos)) ht
    (sl1_el (P := fun t => YS w base F MF A N h₀ ms pv env cx ρ ad μ s o ρ' μ' ps (.Assign [t] e pos)) hx fun x p h1 => dCall_el (P := fun e => YS w base F MF A N h₀ ms pv env cx ρ ad μ s o ρ' μ' ps (.Assign [.Name x p] e pos)) h fun f as kw q h =>
      dAttribute_el (P := fun f => YS w base F MF A N h₀ ms pv env cx ρ ad μ s o ρ' μ' ps (.Assign [.Name x p] (.Call f as kw q) pos)) h fun l nm pf h => gd_el h fun hc h => em_el (P := fun kw => YS w base F MF A N h₀ ms pv env cx ρ ad μ s o ρ' μ' ps (.Assign [.Name x p] (.Call (.Attribute l nm pf) as kw q) pos)) (and_l (and_l (and_l hc)))
        (em_el (P := fun as => YS w base F MF A N h₀ ms pv env cx ρ ad μ s o ρ' μ' ps (.Assign [.Name x p] (.Call (.Attribute l nm pf) as [] q) pos)) (and_r (and_l (and_l hc)))
          (mp_el (P := fun ps => YS w base F MF A N h₀ ms pv env cx ρ ad μ s o ρ' μ' ps _) h fun sl h2 => sl1_el (P := fun l => YS w base F MF A N h₀ ms pv env cx ρ ad μ s o ρ' μ' (.pop sx sl) (.Assign [.Name x p] (.Call (.Attribute l nm pf) [] [] q) pos)) h2 fun l pl h2 hx => bd_el hx fun j hj hx => bd_el hx fun ds hds hx => bd_el hx fun d hd hx => by
            have hn : nm = ("pop" : Str) := eq_of_beq (and_r (and_l hc))
            subst hn
            obtain ⟨hle, hx⟩ := if_is hx
            cases hx
            exact st_pop V i h1 h2 hj hds hd hle (and_r hc))))
theorem y_bnd (V : WrS base h₀ ms env) (i : SI base h₀ ms pv env cx ρ ad μ s.heap) (h : yBnd env.scope.names cx st = some ps) : YS w base F MF A N h₀ ms pv env cx ρ ad μ s o ρ' μ' ps st :=
  sAssign_el (P := YS w base F MF A N h₀ ms pv env cx ρ ad μ s o ρ' μ' ps) h fun ts e pos h => bd_el h fun t ht h => bd_el h fun sx hx h => one_el (P := fun ts => YS w base F MF A N h₀ ms pv env cx ρ ad μ s o ρ' μ' ps (.Assign ts e pos)) ht
    (sl1_el (P := fun t => YS w base F MF A N h₀ ms pv env cx ρ ad μ s o ρ' μ' ps (.Assign [t] e pos)) hx fun x p h1 => dAttribute_el (P := fun e => YS w base F MF A N h₀ ms pv env cx ρ ad μ s o ρ' μ' ps (.Assign [.Name x p] e pos)) h fun l nm pf h => gd_el h fun hc h =>
      mp_el (P := fun ps => YS w base F MF A N h₀ ms pv env cx ρ ad μ s o ρ' μ' ps _) h fun sl h2 => sl1_el (P := fun l => YS w base F MF A N h₀ ms pv env cx ρ ad μ s o ρ' μ' (.bnd sx sl) (.Assign [.Name x p] (.Attribute l nm pf) pos)) h2 fun l pl h2 hx => bd_el hx fun j hj hx => by
        have hn : nm = ("append" : Str) := eq_of_beq hc
        subst hn
        cases hx
        obtain ⟨v, lc, r⟩ := i.er.var _ _ _ (slot_is h2).2.2 (ml_is hj)
        simp only [qRep0, qRep1, qRep2, qRep3, qRep4, qRep5, qRep6, qRep7] at r
        obtain ⟨a, _, e⟩ := r
        exact st_bnd V i h1 h2 hj (by rw [← i.len]; exact (List.getElem?_eq_some_iff.mp e).1))
theorem y_set (W : Wd w base F n) (hA : AOK (n + 1) A) (hf : A.frames = some ad.av.fs) (V : WrS base h₀ ms env) (i : SI base h₀ ms pv env cx ρ ad μ s.heap) (h : ySet env.scope.names cx m st = some ps) : YS w base F MF A N h₀ ms pv env cx ρ ad μ s o ρ' μ' ps st :=
  sAssign_el (P := YS w base F MF A N h₀ ms pv env cx ρ ad μ s o ρ' μ' ps) h fun ts e pos h => bd_el h fun t ht h => one_el (P := fun ts => YS w base F MF A N h₀ ms pv env cx ρ ad μ s o ρ' μ' ps (.Assign ts e pos)) ht
    (dSubscript_el (P := fun t => YS w base F MF A N h₀ ms pv env cx ρ ad μ s o ρ' μ' ps (.Assign [t] e pos)) h fun l ie p h => bd_el h fun sl h1 h => sl1_el (P := fun l => YS w base F MF A N h₀ ms pv env cx ρ ad μ s o ρ' μ' ps (.Assign [.Subscript l ie p] e pos)) h1 fun l pl h1 =>
      bd_el h fun pi h2 h => mp_el (P := fun ps => YS w base F MF A N h₀ ms pv env cx ρ ad μ s o ρ' μ' ps _) h fun pe h3 hx => bd_el hx fun d he hx => bd_el hx fun k hk hx => bd_el hx fun dj hj hx => bd_el hx fun j hj' hx => bd_el hx fun ds hds hx => by
        obtain ⟨hc, hx⟩ := if_is hx
        cases hx
        exact st_setI W hA hf V i h1 h3 h2 he hk (int_is hj' ▸ hj) hds (of_decide_eq_true (and_l (and_l hc))) (of_decide_eq_true (and_r (and_l hc))) (of_decide_eq_true (and_r hc)))
theorem y_aug (W : Wd w base F n) (hA : AOK (n + 1) A) (hf : A.frames = some ad.av.fs) (V : WrS base h₀ ms env) (i : SI base h₀ ms pv env cx ρ ad μ s.heap) (h : yAug env.scope.names cx m st = some ps) : YS w base F MF A N h₀ ms pv env cx ρ ad μ s o ρ' μ' ps st :=
  sAugAssign_el (P := YS w base F MF A N h₀ ms pv env cx ρ ad μ s o ρ' μ' ps) h fun t op e p h => bd_el h fun sl h1 h => sl1_el (P := fun t => YS w base F MF A N h₀ ms pv env cx ρ ad μ s o ρ' μ' ps (.AugAssign t op e p)) h1 fun x px h1 =>
    mp_el (P := fun ps => YS w base F MF A N h₀ ms pv env cx ρ ad μ s o ρ' μ' ps _) h fun pe h2 hx => bd_el hx fun xo hxx hx => bd_el hx fun x hxo hx => bd_el hx fun y hy hx => bd_el hx fun d hd hx => by cases hx; exact st_aug W hA hf V i h1 h2 (hxo ▸ hxx) hy hd
theorem y_if (W : Wd w base F n) (hA : AOK (n + 1) A) (hf : A.frames = some ad.av.fs) (V : WrS base h₀ ms env) (i : SI base h₀ ms pv env cx ρ ad μ s.heap) (H : ∀ N', N' < N + 1 → LiOK w base F MF A N') (h : yIf env.scope.names cx m (SRn env.scope.names mt cx m) st = some ps) : YS w base F MF A N h₀ ms pv env cx ρ ad μ s o ρ' μ' ps st :=
  sIf_el (P := YS w base F MF A N h₀ ms pv env cx ρ ad μ s o ρ' μ' ps) h fun c a b p h => bd_el h fun pc h1 h => bd_el h fun pa h2 h => mp_el (P := fun ps => YS w base F MF A N h₀ ms pv env cx ρ ad μ s o ρ' μ' ps _) h fun pb h3 hx => bd_el hx fun d hd hx => bd_el hx fun t ht hx =>
    st_ite W hA hf V i (H N (Nat.lt_succ_self _)) h1 h2 h3 hd ht hx
theorem y_whl (W : Wd w base F n) (hA : AOK (n + 1) A) (hf : A.frames = some ad.av.fs) (V : WrS base h₀ ms env) (i : SI base h₀ ms pv env cx ρ ad μ s.heap) (H : ∀ N', N' < N + 1 → LiOK w base F MF A N') (h : yWhl env.scope.names cx m (SRn env.scope.names mt cx m) st = some ps) : YS w base F MF A N h₀ ms pv env cx ρ ad μ s o ρ' μ' ps st :=
  sWhile_el (P := YS w base F MF A N h₀ ms pv env cx ρ ad μ s o ρ' μ' ps) h fun c b el p h => gd_el h fun he h => em_el (P := fun el => YS w base F MF A N h₀ ms pv env cx ρ ad μ s o ρ' μ' ps (.While c b el p)) he
    (bd_el h fun pc h1 h => mp_el (P := fun ps => YS w base F MF A N h₀ ms pv env cx ρ ad μ s o ρ' μ' ps _) h fun pb h2 hx => st_whl W hA hf V i H h1 h2 hx)
theorem y_for1 (W : Wd w base F n) (hA : AOK (n + 1) A) (hf : A.frames = some ad.av.fs) (V : WrS base h₀ ms env) (i : SI base h₀ ms pv env cx ρ ad μ s.heap) (H : ∀ N', N' < N + 1 → LiOK w base F MF A N') (h : yFor1 env.scope.names cx m (SRn env.scope.names mt cx m) st = some ps) : YS w base F MF A N h₀ ms pv env cx ρ ad μ s o ρ' μ' ps st :=
  sFor_el (P := YS w base F MF A N h₀ ms pv env cx ρ ad μ s o ρ' μ' ps) h fun t it b el p h => gd_el h fun he h => em_el (P := fun el => YS w base F MF A N h₀ ms pv env cx ρ ad μ s o ρ' μ' ps (.For t it b el p)) he
    (bd_el h fun sl h1 h => sl1_el (P := fun t => YS w base F MF A N h₀ ms pv env cx ρ ad μ s o ρ' μ' ps (.For t it b [] p)) h1 fun x px h1 => bd_el h fun pi h2 h => mp_el (P := fun ps => YS w base F MF A N h₀ ms pv env cx ρ ad μ s o ρ' μ' ps _) h fun pb h3 hx => bd_el hx fun xs hxs hx => by
      obtain ⟨hnm, hx⟩ := if_is hx
      cases m with
      | zero => cases h2
      | succ M => exact st_for1 W hA hf V i (fun N' h => H N' (Nat.lt_succ_of_lt h)) h1 h2 h3 hxs hnm hx)
theorem y_for2 (W : Wd w base F n) (hA : AOK (n + 1) A) (hf : A.frames = some ad.av.fs) (V : WrS base h₀ ms env) (i : SI base h₀ ms pv env cx ρ ad μ s.heap) (H : ∀ N', N' < N + 1 → LiOK w base F MF A N') (h : yFor2 env.scope.names cx m (SRn env.scope.names mt cx m) st = some ps) : YS w base F MF A N h₀ ms pv env cx ρ ad μ s o ρ' μ' ps st :=
  sFor_el (P := YS w base F MF A N h₀ ms pv env cx ρ ad μ s o ρ' μ' ps) h fun t it b el p h => gd_el h fun he h => em_el (P := fun el => YS w base F MF A N h₀ ms pv env cx ρ ad μ s o ρ' μ' ps (.For t it b el p)) he
    (dTuple_el (P := fun t => YS w base F MF A N h₀ ms pv env cx ρ ad μ s o ρ' μ' ps (.For t it b [] p)) h fun ts kk pt h => hd1_el (P := fun ts => YS w base F MF A N h₀ ms pv env cx ρ ad μ s o ρ' μ' ps (.For (.Tuple ts kk pt) it b [] p)) h fun t1 r h => bd_el h fun t2 ht2 h => one_el (P := fun r => YS w base F MF A N h₀ ms pv env cx ρ ad μ s o ρ' μ' ps (.For (.Tuple (t1 :: r) kk pt) it b [] p)) ht2
      (dCall_el (P := fun it => YS w base F MF A N h₀ ms pv env cx ρ ad μ s o ρ' μ' ps (.For (.Tuple [t1, t2] kk pt) it b [] p)) h fun f as kw q h => dName_el (P := fun f => YS w base F MF A N h₀ ms pv env cx ρ ad μ s o ρ' μ' ps (.For (.Tuple [t1, t2] kk pt) (.Call f as kw q) b [] p)) h fun f pf h => gd_el h fun hc h =>
        em_el (P := fun kw => YS w base F MF A N h₀ ms pv env cx ρ ad μ s o ρ' μ' ps (.For (.Tuple [t1, t2] kk pt) (.Call (.Name f pf) as kw q) b [] p)) (and_l (and_l hc)) (hd1_el (P := fun as => YS w base F MF A N h₀ ms pv env cx ρ ad μ s o ρ' μ' ps (.For (.Tuple [t1, t2] kk pt) (.Call (.Name f pf) as [] q) b [] p)) h fun a r h => bd_el h fun c hcc h =>
          one_el (P := fun r => YS w base F MF A N h₀ ms pv env cx ρ ad μ s o ρ' μ' ps (.For (.Tuple [t1, t2] kk pt) (.Call (.Name f pf) (a :: r) [] q) b [] p)) hcc (bd_el h fun s1 h1 h => bd_el h fun s2 h2 h => sl1_el (P := fun t1 => YS w base F MF A N h₀ ms pv env cx ρ ad μ s o ρ' μ' ps (.For (.Tuple [t1, t2] kk pt) (.Call (.Name f pf) [a, c] [] q) b [] p)) h1 fun x p1 h1 =>
            sl1_el (P := fun t2 => YS w base F MF A N h₀ ms pv env cx ρ ad μ s o ρ' μ' ps (.For (.Tuple [.Name x p1, t2] kk pt) (.Call (.Name f pf) [a, c] [] q) b [] p)) h2 fun y p2 h2 => bd_el h fun pa h3 h => bd_el h fun pc h4 h => mp_el (P := fun ps => YS w base F MF A N h₀ ms pv env cx ρ ad μ s o ρ' μ' ps _) h fun pb h5 hx =>
              bd_el hx fun dx ex hx => bd_el hx fun xs lx hx => bd_el hx fun dy ey hx => bd_el hx fun ys ly hx => bd_el hx fun ks gx hx => bd_el hx fun ls gy hx => by
                have hz : f = ("zip" : Str) := eq_of_beq (and_r (and_l hc))
                subst hz
                exact st_for2 W hA hf V i (fun N' h => H N' (Nat.lt_succ_of_lt h)) (and_r hc) h1 h2 h3 h4 h5 (lst0_is lx ▸ ex) (lst0_is ly ▸ ey) gx gy hx))))
theorem y_brk (i : SI base h₀ ms pv env cx ρ ad μ s.heap) (h : yBrk st = some ps) : YS w base F MF A N h₀ ms pv env cx ρ ad μ s o ρ' μ' ps st :=
  sBreak_el (P := YS w base F MF A N h₀ ms pv env cx ρ ad μ s o ρ' μ' ps) h fun p h => by cases h; intro hx; cases hx; exact wpAny_Break ⟨ad, rfl, i, trivial, Same.refl _, Pv.refl _ _⟩
theorem y_cont (i : SI base h₀ ms pv env cx ρ ad μ s.heap) (h : yCont st = some ps) : YS w base F MF A N h₀ ms pv env cx ρ ad μ s o ρ' μ' ps st :=
  sContinue_el (P := YS w base F MF A N h₀ ms pv env cx ρ ad μ s o ρ' μ' ps) h fun p h => by cases h; intro hx; cases hx; exact wpAny_Continue ⟨ad, rfl, i, trivial, Same.refl _, Pv.refl _ _⟩
theorem y_app (W : Wd w base F n) (hA : AOK (n + 1) A) (hf : A.frames = some ad.av.fs) (V : WrS base h₀ ms env) (i : SI base h₀ ms pv env cx ρ ad μ s.heap) (h : yApp env.scope.names cx m st = some ps) : YS w base F MF A N h₀ ms pv env cx ρ ad μ s o ρ' μ' ps st :=
  sExpr_el (P := YS w base F MF A N h₀ ms pv env cx ρ ad μ s o ρ' μ' ps) h fun e pos h => dCall_el (P := fun e => YS w base F MF A N h₀ ms pv env cx ρ ad μ s o ρ' μ' ps (.Expr e pos)) h fun f as kw q h =>
    dAttribute_el (P := fun f => YS w base F MF A N h₀ ms pv env cx ρ ad μ s o ρ' μ' ps (.Expr (.Call f as kw q) pos)) h fun l nm pf h => gd_el h fun hc h => em_el (P := fun kw => YS w base F MF A N h₀ ms pv env cx ρ ad μ s o ρ' μ' ps (.Expr (.Call (.Attribute l nm pf) as kw q) pos)) (and_l (and_l hc))
      (bd_el h fun a ha h => one_el (P := fun as => YS w base F MF A N h₀ ms pv env cx ρ ad μ s o ρ' μ' ps (.Expr (.Call (.Attribute l nm pf) as [] q) pos)) ha (bd_el h fun sl h1 h => sl1_el (P := fun l => YS w base F MF A N h₀ ms pv env cx ρ ad μ s o ρ' μ' ps (.Expr (.Call (.Attribute l nm pf) [a] [] q) pos)) h1 fun l pl h1 =>
        mp_el (P := fun ps => YS w base F MF A N h₀ ms pv env cx ρ ad μ s o ρ' μ' ps _) h fun pe h2 hx => bd_el hx fun k hk hx => bd_el hx fun d he hx => bd_el hx fun ds hds hx => by
          have hn : nm = ("append" : Str) := eq_of_beq (and_r (and_l hc))
          subst hn
          obtain ⟨hle, hx⟩ := if_is hx
          cases hx
          exact st_app W hA hf V i h1 h2 he hk hds hle (and_r hc)))
theorem y_appB (W : Wd w base F n) (hA : AOK (n + 1) A) (hf : A.frames = some ad.av.fs) (V : WrS base h₀ ms env) (i : SI base h₀ ms pv env cx ρ ad μ s.heap) (h : yAppB env.scope.names cx m st = some ps) : YS w base F MF A N h₀ ms pv env cx ρ ad μ s o ρ' μ' ps st :=
  sExpr_el (P := YS w base F MF A N h₀ ms pv env cx ρ ad μ s o ρ' μ' ps) h fun e pos h => dCall_el (P := fun e => YS w base F MF A N h₀ ms pv env cx ρ ad μ s o ρ' μ' ps (.Expr e pos)) h fun f as kw q h => gd_el h fun hc h =>
    em_el (P := fun kw => YS w base F MF A N h₀ ms pv env cx ρ ad μ s o ρ' μ' ps (.Expr (.Call f as kw q) pos)) hc (bd_el h fun a ha h => one_el (P := fun as => YS w base F MF A N h₀ ms pv env cx ρ ad μ s o ρ' μ' ps (.Expr (.Call f as [] q) pos)) ha
      (bd_el h fun sl h1 h => sl1_el (P := fun f => YS w base F MF A N h₀ ms pv env cx ρ ad μ s o ρ' μ' ps (.Expr (.Call f [a] [] q) pos)) h1 fun f pf h1 => mp_el (P := fun ps => YS w base F MF A N h₀ ms pv env cx ρ ad μ s o ρ' μ' ps _) h fun pe h2 hx =>
        bd_el hx fun k hk hx => bd_el hx fun d he hx => bd_el hx fun ds hds hx => by
          obtain ⟨hle, hx⟩ := if_is hx
          cases hx
          exact st_appB W hA hf V i h1 h2 he (bm_is hk) hds hle))
theorem y_callM (W : Wd w base F n) (WM : WdM w base MF n) (hA : AOK (n + 1) A) (hf : A.frames = some ad.av.fs) (V : WrS base h₀ ms env) (i : SI base h₀ ms pv env cx ρ ad μ s.heap) (h : yCallM env.scope.names cx m st = some ps) : YS w base F MF A N h₀ ms pv env cx ρ ad μ s o ρ' μ' ps st :=
  sExpr_el (P := YS w base F MF A N h₀ ms pv env cx ρ ad μ s o ρ' μ' ps) h fun e pos h => dCall_el (P := fun e => YS w base F MF A N h₀ ms pv env cx ρ ad μ s o ρ' μ' ps (.Expr e pos)) h fun f as kw q h =>
    dName_el (P := fun f => YS w base F MF A N h₀ ms pv env cx ρ ad μ s o ρ' μ' ps (.Expr (.Call f as kw q) pos)) h fun f pf h => gd_el h fun hc h => em_el (P := fun kw => YS w base F MF A N h₀ ms pv env cx ρ ad μ s o ρ' μ' ps (.Expr (.Call (.Name f pf) as kw q) pos)) (and_l hc)
      (bd_el h fun k h2 h => hd1_el (P := fun as => YS w base F MF A N h₀ ms pv env cx ρ ad μ s o ρ' μ' ps (.Expr (.Call (.Name f pf) as [] q) pos)) h fun l as h => bd_el h fun sl h3 h => sl1_el (P := fun l => YS w base F MF A N h₀ ms pv env cx ρ ad μ s o ρ' μ' ps (.Expr (.Call (.Name f pf) (l :: as) [] q) pos)) h3 fun l pl h3 =>
        mp_el (P := fun ps => YS w base F MF A N h₀ ms pv env cx ρ ad μ s o ρ' μ' ps _) h fun pas h4 hx => bd_el hx fun j hj hx => bd_el hx fun ds he hx => bd_el hx fun c hc' hx => bd_el hx fun r hm hx => by
          obtain ⟨hn, hx⟩ := if_is hx
          cases hx
          obtain ⟨r1, r2⟩ := r
          have hn : r2 = .none := isNn_is hn
          subst hn
          exact st_callM W WM hA hf V i (and_r hc) h2 h3 h4 hj he hc' hm)
theorem y_bad (h : yBad st = some ps) : YS w base F MF A N h₀ ms pv env cx ρ ad μ s o ρ' μ' ps st :=
  sRaise_el (P := YS w base F MF A N h₀ ms pv env cx ρ ad μ s o ρ' μ' ps) h fun a b p h => by cases h; intro hx; cases hx
theorem y_asgM (W : Wd w base F n) (hA : AOK (n + 1) A) (hf : A.frames = some ad.av.fs) (V : WrS base h₀ ms env) (i : SI base h₀ ms pv env cx ρ ad μ s.heap) (h : yAsgM env.scope.names mt cx m st = some ps) : YS w base F MF A N h₀ ms pv env cx ρ ad μ s o ρ' μ' ps st :=
  sAssign_el (P := YS w base F MF A N h₀ ms pv env cx ρ ad μ s o ρ' μ' ps) h fun ts e pos h => bd_el h fun t ht h => one_el (P := fun ts => YS w base F MF A N h₀ ms pv env cx ρ ad μ s o ρ' μ' ps (.Assign ts e pos)) ht
    (dName_el (P := fun t => YS w base F MF A N h₀ ms pv env cx ρ ad μ s o ρ' μ' ps (.Assign [t] e pos)) h fun x p h => gd_el h fun hc h => bd_el h fun sl h1 h => mp_el (P := fun ps => YS w base F MF A N h₀ ms pv env cx ρ ad μ s o ρ' μ' ps _) h fun px h2 hx => bd_el hx fun d he hx => bd_el hx fun ds hl hx => by
      cases hx
      refine st_asgM W hA hf V i h1 h2 (and_r (and_l hc)) (fun q => ?_) (lst0_is hl ▸ he)
      have hr := and_r hc
      rw [q] at hr
      exact eq_of_beq hr)
theorem y_asg (W : Wd w base F n) (hA : AOK (n + 1) A) (hf : A.frames = some ad.av.fs) (V : WrS base h₀ ms env) (i : SI base h₀ ms pv env cx ρ ad μ s.heap) (h : yAsg env.scope.names mt cx m st = some ps) : YS w base F MF A N h₀ ms pv env cx ρ ad μ s o ρ' μ' ps st :=
  sAssign_el (P := YS w base F MF A N h₀ ms pv env cx ρ ad μ s o ρ' μ' ps) h fun ts e pos h => bd_el h fun t ht h => one_el (P := fun ts => YS w base F MF A N h₀ ms pv env cx ρ ad μ s o ρ' μ' ps (.Assign ts e pos)) ht
    (dName_el (P := fun t => YS w base F MF A N h₀ ms pv env cx ρ ad μ s o ρ' μ' ps (.Assign [t] e pos)) h fun x p h => gd_el h fun hc h => bd_el h fun sl h1 h => mp_el (P := fun ps => YS w base F MF A N h₀ ms pv env cx ρ ad μ s o ρ' μ' ps _) h fun px h2 hx => bd_el hx fun d he hx => by
      cases hx; exact st_asg W hA hf V i h1 h2 he)
end
theorem st_ok {N : Nat} (W : Wd w base F n) (WM : WdM w base MF n) (hA : AOK (n + 1) A) (H : ∀ N', N' < N → LiOK w base F MF A N') : StOK w base F MF A N := by
  intro h₀ ms pv env cx mt ρ ad μ s st ps m o ρ' μ' V hf i ht hx
  cases m with
  | zero => cases ht
  | succ m =>
  cases N with
  | zero => cases hx
  | succ N =>
  exact fst_el (P := YS w base F MF A N h₀ ms pv env cx ρ ad μ s o ρ' μ' ps st) (show stepS env.scope.names mt cx m (SRn env.scope.names mt cx m) st = some ps from ht) ⟨
    fun h => y_ret W hA hf i h, fun h => y_asgCM W WM hA hf V i h, fun h => y_pop V i h, fun h => y_bnd V i h, fun h => y_set W hA hf V i h, fun h => y_aug W hA hf V i h, fun h => y_if W hA hf V i H h, fun h => y_whl W hA hf V i H h, fun h => y_for1 W hA hf V i H h, fun h => y_for2 W hA hf V i H h,
    fun h => y_brk i h, fun h => y_cont i h, fun h => y_app W hA hf V i h, fun h => y_appB W hA hf V i h, fun h => y_callM W WM hA hf V i h, fun h => y_bad h, fun h => y_asgM W hA hf V i h, fun h => y_asg W hA hf V i h, trivial⟩ hx
theorem li_ok (W : Wd w base F n) (WM : WdM w base MF n) (hA : AOK (n + 1) A) : ∀ (N N' : Nat), N' ≤ N → LiOK w base F MF A N'
  | 0, N', h => by
    cases Nat.le_zero.mp h
    intro h₀ ms pv env cx mt ρ ad μ s sts ps m o ρ' μ' V hf i ht hx
    cases hx
  | N + 1, N', h => by
    rcases Nat.lt_or_eq_of_le h with q | rfl
    · exact li_ok W WM hA N N' (by omega)
    · have ih := li_ok W WM hA N
      have so := st_ok (N := N) W WM hA (fun N' q => ih N' (by omega))
      intro h₀ ms pv env cx mt ρ ad μ s sts ps m o ρ' μ' V hf i ht hx
      cases m with
      | zero => cases ht
      | succ m =>
      cases sts with
      | nil =>
        cases ht
        obtain ⟨rfl, rfl, rfl⟩ := out_eq hx
        exact wpAny_execs_nil ⟨ad, rfl, i, trivial, Same.refl _, Pv.refl _ _⟩
      | cons st r =>
        refine bd_el (show ((SRn env.scope.names mt cx m).s st).bind (fun p => ((SRn env.scope.names mt cx m).l r).map fun ps => p :: ps) = some ps from ht) fun p h1 ht => mp_el (P := fun ps => exL F MF (N + 1) ps ρ μ = some (o, ρ', μ') → _) ht (fun ps' h2 hx => ?_) hx
        simp only [qexL0, qexL1] at hx
        split at hx
        · cases hx
        · rename_i ρ₁ μ₁ hs
          refine wpAny_execs_cons (mono' (so h₀ ms pv env cx mt ρ ad μ s st p m _ _ _ V hf i h1 hs) fun f s₁ q => ?_)
          obtain ⟨ad₁, hav, i₁, fl, sm, p₁⟩ := q
          cases f <;> first | exact fl.elim | skip
          refine mono' (ih N (Nat.le_refl _) h₀ ms pv env cx mt ρ₁ ad₁ μ₁ s₁ r ps' m o ρ' μ' V (by rw [hav]; exact hf) i₁ h2 hx) fun f s₂ q => ?_
          rw [hav] at q
          exact q.after sm p₁
        · rename_i x hn hs
          injection hx with hx; subst hx
          refine wpAny_execs_cons (mono' (so h₀ ms pv env cx mt ρ ad μ s st p m _ _ _ V hf i h1 hs) fun f s₁ q => ?_)
          have q' := q
          obtain ⟨ad₁, hav, i₁, fl, sm, p₁⟩ := q
          cases o with
          | next => exact (hn _ _ rfl).elim
          | brk => cases f <;> first | exact fl.elim | exact q'
          | cont => cases f <;> first | exact fl.elim | exact q'
          | ret d => cases f <;> first | exact fl.elim | exact q'
end
end Mine
end
section
namespace Mine
theorem bindL_other {kd : Str → Option NameKind} {x : Str} : ∀ (bs : List (Str × Value)) (m : Str → Option Value), x ∉ bs.map (·.1) → bindL kd bs m x = m x
  | [], m, _ => rfl
  | (n, v) :: r, m, h => by
    simp only [List.map_cons, List.mem_cons, not_or] at h
    unfold bindL
    rw [bindL_other r _ h.2]
    split
    · simp only [if_neg h.1]
    · rfl
theorem bindC_other {kd : Str → Option NameKind} {x : Str} : ∀ (bs : List (Str × Value)) (m : Str → Option Value), x ∉ bs.map (·.1) → bindC kd bs m x = m x
  | [], m, _ => rfl
  | (n, v) :: r, m, h => by
    simp only [List.map_cons, List.mem_cons, not_or] at h
    unfold bindC
    rw [bindC_other r _ h.2]
    split
    · rfl
    · simp only [if_neg h.1]
theorem bindL_get {kd : Str → Option NameKind} {x : Str} {v : Value} (hk : kd x = some .local) : ∀ (bs : List (Str × Value)) (m : Str → Option Value), (bs.map (·.1)).Nodup → (x, v) ∈ bs → bindL kd bs m x = some v
  | [], m, _, h => nomatch h
  | (n, u) :: r, m, hn, h => by
    simp only [List.map_cons, List.nodup_cons] at hn
    rcases List.mem_cons.mp h with e | h
    · injection e with e1 e2; subst e1; subst e2
      unfold bindL
      rw [bindL_other r _ hn.1, if_pos hk]; simp
    · unfold bindL; exact bindL_get hk r _ hn.2 h
theorem bindC_get {kd : Str → Option NameKind} {x : Str} {v : Value} (hk : kd x ≠ some .local) : ∀ (bs : List (Str × Value)) (m : Str → Option Value), (bs.map (·.1)).Nodup → (x, v) ∈ bs → bindC kd bs m x = some v
  | [], m, _, h => nomatch h
  | (n, u) :: r, m, hn, h => by
    simp only [List.map_cons, List.nodup_cons] at hn
    rcases List.mem_cons.mp h with e | h
    · injection e with e1 e2; subst e1; subst e2
      unfold bindC
      rw [bindC_other r _ hn.1, if_neg hk]; simp
    · unfold bindC; exact bindC_get hk r _ hn.2 h
theorem cells_mem {x : Str} : ∀ (names : List (Str × NameKind)) (n : Nat) (acc : List (Str × Addr)), ((x, NameKind.cell) ∈ names ∨ (acc.lookup x).isSome = true) → ((cellsFrom n names acc).lookup x).isSome = true
  | [], n, acc, h => by
    rcases h with h | h
    · cases h
    · exact h
  | (y, k) :: r, n, acc, h => by
    unfold cellsFrom
    split
    · rename_i hk
      refine cells_mem r _ _ ?_
      rcases h with h | h
      · rcases List.mem_cons.mp h with e | h
        · injection e with e1 e2; subst e1
          right; simp [List.lookup_cons]
        · exact .inl h
      · right
        rw [List.lookup_cons]
        split
        · rfl
        · exact h
    · rename_i hk
      refine cells_mem r _ _ ?_
      rcases h with h | h
      · rcases List.mem_cons.mp h with e | h
        · injection e with e1 e2; subst e2; simp at hk
        · exact .inl h
      · exact .inr h
noncomputable def scOk (sc : Scope) (cx pn : List Str) : Bool :=
  sc.kind == .function && !sc.isCoroutine && !sc.isGenerator && (sc.names.all fun (_, k) => k != .free) && decide pn.Nodup && (cx.take pn.length == pn) && (pn.all fun x => sc.names.lookup x == some .local || sc.names.lookup x == some .cell)
theorem lookup_mem' {x : Str} {k : NameKind} {l : List (Str × NameKind)} (h : l.lookup x = some k) : (x, k) ∈ l := lookup_mem h
theorem scOk_is {sc : Scope} {cx pn : List Str} (h : scOk sc cx pn = true) : sc.kind = .function ∧ sc.isCoroutine = false ∧ sc.isGenerator = false ∧ (∀ x, sc.names.lookup x ≠ some .free) ∧ pn.Nodup ∧ cx.take pn.length = pn ∧ (∀ x ∈ pn, sc.names.lookup x = some .local ∨ sc.names.lookup x = some .cell) := by
  unfold scOk at h
  simp only [Bool.and_eq_true, beq_iff_eq, Bool.not_eq_true', decide_eq_true_eq, List.all_eq_true, bne_iff_ne, Bool.or_eq_true] at h
  obtain ⟨⟨⟨⟨⟨⟨h1, h2⟩, h3⟩, h4⟩, h5⟩, h6⟩, h7⟩ := h
  exact ⟨h1, h2, h3, fun x e => h4 _ (lookup_mem e) rfl, h5, h6, h7⟩
structure FdOk (base : Heap) (fd : FuncData) (sc : Scope) (body : List Stmt) (pn : List Str) (dv : List Value) : Prop where
  code : base.CodeRec fd.code fd.qualname
  body : fd.body = .stmts body
  scope : fd.scope = sc
  globals : fd.globals = mainGlobals
  builtins : fd.builtins = builtinsNs
  closure : fd.closure = []
  bind : ∀ (s : Shared) (vals : List Value), Kept base s.heap → vals.length + dv.length = pn.length → BindsTo s fd ⟨vals, []⟩ (pn.zip (vals ++ dv))
section
variable {w : World} {base : Heap} {F : Nat → List D → Option D} {MF : Nat → List D → List D → Option (List D × D)} {n : Nat} {A : Around} {ad : Ad} {s : Shared}
noncomputable def Ad.inn (x : Ad) (env : Env) : Ad := ⟨x.own, ⟨x.av.av, env :: x.av.fs⟩⟩
theorem Rep.inn {ad : Ad} {h : Heap} {d : D} {v : Value} (env : Env) (r : Rep ad h d v) : Rep (ad.inn env) h d v := Rep.ad (ad := ad) (ad' := ad.inn env) (fun _ _ e => e) (fun _ _ _ m => m) d v r
theorem Reps.inn {ad : Ad} {h : Heap} {d : List D} {v : List Value} (env : Env) (r : Reps ad h d v) : Reps (ad.inn env) h d v := Reps.ad (ad := ad) (ad' := ad.inn env) (fun _ _ e => e) (fun _ _ _ m => m) d v r
theorem enter {a : Addr} {o : Obj} {fd : FuncData} {sc : Scope} {body : List Stmt} {pn cx : List Str} {dv vals : List Value} {ds : List D} {k : Nat} {ms : List Addr} {μ : Mus} {R : Result → Shared → Prop}
    (hA : AOK (n + 2) A) (hi : ∀ L, base.get? L = none → 176 ≤ L) (hlim : base.NoLimit) (ho : base.get? a = some o) (hd : o.data = .func fd) (X : FdOk base fd sc body pn dv) (hsc : scOk sc cx pn = true) (hk : Kept base s.heap) (hlen : vals.length + dv.length = pn.length)
    (hfr : A.frames = some ad.av.fs) (am : Amb base ad μ s.heap) (ml : ad.own.length = μ.length) (mo : ∀ a ∈ ad.own, a ∈ ms) (mo' : ∀ a ∈ ms, a ∈ ad.own) (rs : Reps ad s.heap ds (vals ++ dv))
    (h : ∀ env s₁, env.scope = sc → AOK (n + 1) (A.deeper env) → (A.deeper env).frames = some (ad.inn env).av.fs → env.frame = some env.locals → WrS base s.heap ms env → SI base s.heap ms [] env cx (ds.map some ++ List.replicate k none) (ad.inn env) μ s₁.heap → Same s s₁ →
      wpAny (model pg w) (A.deeper env) (execs body env) (fun f s' => R (.ok (.ret (match f with | .ret v => v | _ => .none))) s') NoE s₁) :
    codeAny (model pg w) A (.call (.ref a) ⟨vals, []⟩) R s := by
  obtain ⟨c1, c2, c3, c4, c5, c6, c7⟩ := scOk_is hsc
  obtain ⟨rfl⟩ := X.scope
  have hnames : (pn.zip (vals ++ dv)).map (·.1) = pn := by
    rw [List.map_fst_zip]; simp; omega
  have hkc : ∀ (L : Nat) (x : Str), fd.scope.names.lookup x = some .cell → ((cellsFrom L fd.scope.names []).lookup x).isSome = true := fun L x e => cells_mem _ _ _ (.inl (lookup_mem e))
  refine codeAny_call_function hA.room (hk.at ho (fun _ _ z => by rw [hd] at z; cases z)) hd c2 c3 X.body (let ⟨c, o, vs, t, e1, e2, e3, e4⟩ := X.code; ⟨c, o, vs, t, e1, hk.at e2 (fun _ _ z => by rw [e3] at z; cases z), e3, e4⟩) (X.bind s vals hk hlen _ _ _ _ ?_)
  rw [X.closure]
  refine wpAny_newFunctionEnv_cells c1 (fun x hx => ?_) fun env he s' x => ?_
  · have : x.1 ∈ pn := hnames ▸ List.mem_map.mpr ⟨x, hx, rfl⟩
    rcases c7 _ this with q | q
    · exact .inl q
    · exact .inr ⟨q, hkc _ _ q⟩
  have e1 : env.scope = fd.scope := by rw [he]; rfl
  have e2 : env.locals = s.heap.objs.size := by rw [he]; rfl
  have e3 : env.globals = mainGlobals := by rw [he]; exact X.globals
  have e4 : env.builtins = builtinsNs := by rw [he]; exact X.builtins
  have e5 : env.cells = cellsFrom (s.heap.objs.size + 1) fd.scope.names [] := by rw [he]; rfl
  have e6 : ∀ x, env.kindOf x = fd.scope.names.lookup x := fun x => by rw [he]; rfl
  have e7 : env = callEnvC fd s.heap.objs.size a := he
  refine ⟨Heap.NoLimit.keeps (let ⟨mc, q, r⟩ := hlim; ⟨mc, hk.ns q, r⟩) x.toInCall.keep, codeAny_func ?_⟩
  have hin := x
  have kp : Kept s.heap s'.heap := KeptS.w x.toInCall.keep
  have e8 : env.frame = some env.locals := by rw [he]; rfl
  have bn : base.get? env.locals = none := hk.none (by rw [e2]; exact fresh_size _)
  have am' := am.kept kp
  have ai : Amb base (ad.inn env) μ s'.heap := by
    refine ⟨am'.keep, am'.there, am'.new, fun i b es q1 q2 => ?_, am'.nd, fun e m => ?_⟩
    · obtain ⟨us, p, q⟩ := am'.mu i b es q1 q2
      exact ⟨us, p, q.inn env⟩
    · rcases List.mem_cons.mp m with rfl | m
      · obtain ⟨o, es, ep, q1, q2, _⟩ := x.toInCall.ns
        exact ⟨by rw [e1, c1]; exact (fun z => nomatch z), _, o, es, ep, e8, bn, q1, q2⟩
      · exact am'.fr e m
  have fl : ∀ e ∈ (ad.inn env).av.fs, ∀ L, e.frame = some L → L = env.locals ∨ ∃ o, s.heap.get? L = some o := fun e m L q => by
    rcases List.mem_cons.mp m with rfl | m
    · rw [e8] at q; injection q with q; exact .inl q.symm
    · obtain ⟨_, L', o, es, ep, b1, _, b2, _⟩ := am.fr e m
      rw [q] at b1; injection b1 with b1; subst b1
      exact .inr ⟨o, b2⟩
  refine mono' (h env s' e1 ⟨hA.hh, ?_, ?_⟩ (by show A.frames.map (env :: ·) = _; rw [hfr]; rfl) e8 ⟨hk, fun b m => am.new b (List.mem_append_left _ (mo' b m)), ?_, ?_, hi⟩ ⟨⟨by rw [e1]; exact c1, ⟨_, x.toInCall.ns⟩, ?_, ?_, x.apart, e3, e4⟩, ai, ml, kp.b ms, fun b m => .inr (mo b m), fun b m => (nomatch m), mo', fl⟩ (let ⟨a, b, c⟩ := x.toInCall.same; ⟨a, b, c⟩)) fun f s'' q => q
  · have := hA.dep; show A.depth + 1 + (n + 1) < 900; omega
  · have := hA.un; show A.units + 3 + 10 * (n + 1) < 400; omega
  · rw [e2]; exact fresh_size _
  · intro y c hy hc
    have := x.above y c (lookup_mem hc)
    rw [e2] at this
    cases e : s.heap.get? c with
    | none => rfl
    | some o => exact absurd (Heap.lt_size e) (Nat.not_lt.mpr (Nat.le_of_lt this))
  · intro y i d hy hd
    have hcx := fi_get hy
    have hi : i < ds.length := by
      rcases Nat.lt_or_ge i ds.length with q | q
      · exact q
      · rw [List.getElem?_append_right (by simpa using q)] at hd
        rw [List.getElem?_replicate] at hd
        split at hd <;> cases hd
    rw [List.getElem?_append_left (by simpa using hi), List.getElem?_map] at hd
    obtain ⟨d', hd1, hd2⟩ := Option.map_eq_some_iff.mp hd
    injection hd2 with hd2; subst hd2
    obtain ⟨v, hv, rv⟩ := rs.get hd1
    have hl : (vals ++ dv).length = ds.length := rs.length
    have hpn : pn[i]? = some y := by
      have hp : i < pn.length := by simp at hl; omega
      rw [← c6, List.getElem?_take_of_lt hp]; exact hcx
    have hm : (y, v) ∈ pn.zip (vals ++ dv) := List.mem_of_getElem? (PyProof.Rows.zip_get hpn hv)
    refine ⟨v, ?_, (rv.kept kp).inn env⟩
    have hy : y ∈ pn := List.mem_of_getElem? hpn
    rcases c7 _ hy with q | q
    · exact .inl ⟨(e6 y).trans q, _, x.toInCall.ns, bindL_get ((e6 y).trans q) _ _ (by rw [hnames]; exact c5) hm⟩
    · obtain ⟨c, hc⟩ := Option.isSome_iff_exists.mp (hkc (s.heap.objs.size + 1) y q)
      rw [← e5] at hc
      have := x.cell y c hc
      rw [bindC_get (by rw [e6 y, q]; decide) _ _ (by rw [hnames]; exact c5) hm] at this
      exact .inr ⟨.inl ((e6 y).trans q), c, hc, this⟩
  · intro y hy
    rw [e6 y] at hy
    rcases hy with q | q
    · obtain ⟨c, hc⟩ := Option.isSome_iff_exists.mp (hkc (s.heap.objs.size + 1) y q)
      rw [← e5] at hc
      exact ⟨c, hc, _, x.cell y c hc⟩
    · exact absurd q (c4 y)
end
end Mine
end
section
namespace Mine
noncomputable def frz (μ : Mus) (d : D) : Option D := match d with
  | .ml i => match μ[i]? with
    | some ds => if noMls ds then some (.list ds) else none
    | none => none
  | d => if noMl d then some d else none
structure Fn where
  ps : List PS
  ar : Nat
  k : Nat
  dd : List D
noncomputable def outF (o : Out) (μ : Mus) : Option D := match o with
  | .ret d => frz μ d
  | .next => some .none
  | _ => none
noncomputable def outM (o : Out) (c : List D) : Option (List D × D) := match o with
  | .ret d => if noMls c && noMl d then some (c, d) else none
  | .next => if noMls c then some (c, .none) else none
  | _ => none
noncomputable def one1 : Mus → Option (List D)
  | [] => none
  | c :: r => match r with
    | [] => some c
    | _ :: _ => none
theorem one1_is {μ : Mus} {c : List D} (h : one1 μ = some c) : μ = [c] := by
  cases μ with
  | nil => cases h
  | cons x r => cases r with
    | nil => cases h; rfl
    | cons _ _ => cases h
section
variable (F : Nat → List D → Option D) (MF : Nat → List D → List D → Option (List D × D)) (N : Nat)
noncomputable def runF (f : Fn) (ds : List D) : Option D :=
  if ds.length == f.ar && noMls ds then (exL F MF N f.ps ((ds ++ f.dd).map some ++ List.replicate f.k none) []).bind fun r => outF r.1 r.2.2 else none
noncomputable def runM (f : Fn) (c ds : List D) : Option (List D × D) :=
  if ds.length + 1 == f.ar && noMls c && noMls ds then (exL F MF N f.ps ((D.ml 0 :: ds).map some ++ List.replicate f.k none) [c]).bind fun r => (one1 r.2.2).bind fun c' => outM r.1 c' else none
end
theorem rep_to {ad ad' : Ad} {h : Heap} {d : D} {v : Value} (hn : noMl d = true) (sub : ∀ a, a ∈ ad'.all → a ∈ ad.all) (r : Rep ad h d v) : Rep ad' h d v := by
  obtain ⟨as, s1, s2⟩ := Rep.sup d v hn r
  exact s2 ad' h fun a ha => ⟨fun q => (s1 a ha).1 (sub a q), rfl⟩
theorem reps_to {ad ad' : Ad} {h : Heap} {d : List D} {v : List Value} (hn : noMls d = true) (sub : ∀ a, a ∈ ad'.all → a ∈ ad.all) (r : Reps ad h d v) : Reps ad' h d v := by
  obtain ⟨as, s1, s2⟩ := Reps.sup d v hn r
  exact s2 ad' h fun a ha => ⟨fun q => (s1 a ha).1 (sub a q), rfl⟩
theorem reps_base {base : Heap} {ad : Ad} {d : List D} {v : List Value} (hn : noMls d = true) (nw : ∀ a ∈ ad.all, base.get? a = none) (r : Reps ad0 base d v) : Reps ad base d v := by
  obtain ⟨as, s1, s2⟩ := Reps.sup d v hn r
  refine s2 ad base fun a ha => ⟨fun q => ?_, rfl⟩
  obtain ⟨_, o, e, _⟩ := s1 a ha
  rw [nw a q] at e; cases e
section
variable {w : World} {base : Heap} {F : Nat → List D → Option D} {MF : Nat → List D → List D → Option (List D × D)} {n N : Nat}
structure FnIs (base : Heap) (f : Fn) (a : Addr) : Prop where
  is : ∃ o fd sc body pn cx mt dv m, base.get? a = some o ∧ o.data = .func fd ∧ FdOk base fd sc body pn dv ∧ scOk sc cx pn = true ∧ trSL sc.names mt cx m body = some f.ps ∧ f.ar + f.dd.length = pn.length ∧ noMls f.dd = true ∧ Reps ad0 base f.dd dv
theorem same_keeps {s s' : Shared} (h : Same s s') (k : Kept s.heap s'.heap) : Keeps s s' := by
  obtain ⟨h', t, rfl⟩ := h; exact ⟨h', t, rfl, k⟩
theorem frz_one {d0 d : D} {P : D → Prop} (k : noMl d0 = true → P d0) (h : (if noMl d0 then some d0 else none) = some d) : P d := by
  obtain ⟨hn, h⟩ := if_is h
  cases h
  exact k hn
theorem frz_rep {μ : Mus} {d0 d : D} {P : D → Prop} (h : frz μ d0 = some d) (k : noMl d0 = true → P d0) (kl : ∀ j es, d0 = .ml j → μ[j]? = some es → noMls es = true → P (.list es)) : P d := by
  cases d0 with
  | ml j =>
    have h : (match μ[j]? with
      | some ds => if noMls ds then some (D.list ds) else none
      | none => none) = some d := h
    cases e : μ[j]? with
    | none => rw [e] at h; cases h
    | some es =>
      rw [e] at h
      obtain ⟨hn, h⟩ := if_is h
      cases h
      exact kl j es rfl e hn
  | _ => exact frz_one (P := P) k h
theorem fn_ok {f : Fn} {a : Addr} (W : Wd w base F n) (WM : WdM w base MF n) (hlim : base.NoLimit) (X : FnIs base f a) : FnOK w base (n + 2) a (runF F MF N f) := by
  intro A s ad vs ds d hA hfr hff hk had rs hf
  obtain ⟨o, fd, sc, body, pn, cx, mt, dv, m, h1, h2, h3, h4, h5, h6, h7, h8⟩ := X.is
  obtain ⟨hc, hf⟩ := if_is hf
  obtain ⟨⟨o, ρ', μ'⟩, hx, hf⟩ := Option.bind_eq_some_iff.mp hf
  have hc := And.intro (eq_of_beq (and_l hc)) (and_r hc)
  have sub1 : ∀ a, a ∈ (⟨[], ⟨ad.all, ad.av.fs⟩⟩ : Ad).all → a ∈ ad.all := fun a q => by simpa [Ad.all] using q
  have sub2 : ∀ a, a ∈ ad.all → a ∈ (⟨[], ⟨ad.all, ad.av.fs⟩⟩ : Ad).all := fun a q => by
    show a ∈ [] ++ ad.all
    simpa using q
  have rs1 : Reps ⟨[], ⟨ad.all, ad.av.fs⟩⟩ s.heap ds vs := reps_to hc.2 sub1 rs
  have rs2 : Reps ⟨[], ⟨ad.all, ad.av.fs⟩⟩ s.heap f.dd dv := (reps_base h7 (fun x hx => (had x (sub1 x hx)).1) h8).kept hk
  have rs3 := rs1.append rs2
  have hvl : vs.length = ds.length := rs1.length
  have hdl : dv.length = f.dd.length := rs2.length
  have am : Amb base ⟨[], ⟨ad.all, ad.av.fs⟩⟩ [] s.heap := ⟨hk, fun x hx => (had x (sub1 x hx)).2, fun x hx => (had x (sub1 x hx)).1, fun i x ds e _ => by simp at e, List.nodup_nil, hff⟩
  refine wpAny_call (enter (n := n) (w := w) (k := f.k) (ad := ⟨[], ⟨ad.all, ad.av.fs⟩⟩) (μ := []) (ms := []) (ds := ds ++ f.dd) hA W.glo.hi hlim h1 h2 h3 h4 hk (by omega) hfr am rfl (fun _ m => nomatch m) (fun _ m => nomatch m) rs3 fun env s₁ e1 hA' hfr' _ V i sm => ?_)
  have H := li_ok (w := w) (base := base) W WM hA' N N (Nat.le_refl _)
  refine mono' (H s.heap [] [] env cx mt _ (Ad.inn ⟨[], ⟨ad.all, ad.av.fs⟩⟩ env) [] s₁ body f.ps m _ _ _ V hfr' i (by rw [e1]; exact h5) hx) fun fl s' q => ?_
  obtain ⟨ad', a1, i', fl', a4, a5⟩ := q
  have sb : ∀ x, x ∈ ad.all → x ∈ ad'.all := fun x hx => List.mem_append_right _ (by rw [a1]; exact hx)
  have kp : Keeps s s' := same_keeps (sm.trans a4) i'.kb.kept
  cases o with
  | ret d0 =>
    obtain ⟨v, rfl, rv⟩ := flw_ret fl'
    exact ⟨kp, frz_rep (P := fun d => Rep ad s'.heap d v) hf (fun hn => rep_to hn sb rv) fun j es ej hes hn => by
      subst ej
      obtain ⟨b, rfl, hb⟩ := rv
      obtain ⟨us, pl, ru⟩ := i'.am.mu j b es hb hes
      refine rep_list (fun hm => ?_) pl (reps_to hn sb ru)
      rcases i'.own b (List.mem_of_getElem? hb) with q | q
      · obtain ⟨_, o, e, _⟩ := had b hm
        rw [q] at e; cases e
      · cases q⟩
  | next =>
    cases hf
    cases fl <;> first | exact fl'.elim | exact ⟨kp, rep_none⟩
  | _ => cases hf
theorem own1 {ow : List Addr} {c : List D} {a₀ : Addr} (hl : ow.length = [c].length) (hm : a₀ ∈ ow) : ow[0]? = some a₀ := by
  cases ow with
  | nil => cases hl
  | cons b r => cases r with
    | nil => rw [List.mem_singleton.mp hm]; rfl
    | cons _ _ => cases hl
theorem mfn_ok {f : Fn} {a : Addr} (W : Wd w base F n) (WM : WdM w base MF n) (hlim : base.NoLimit) (X : FnIs base f a) (hdd : f.dd = []) : MFnOK w base (n + 2) a (runM F MF N f) := by
  intro A s ad a₀ cvs vs c ds c' d hA hfr hff hk had ha pl rc rs hf
  obtain ⟨o, fd, sc, body, pn, cx, mt, dv, m, h1, h2, h3, h4, h5, h6, h7, h8⟩ := X.is
  rw [hdd] at h6 h8
  have hdv := h8.nil_iff
  subst hdv
  obtain ⟨hc, hf⟩ := if_is hf
  obtain ⟨⟨o, ρ', μ'⟩, hx, hf⟩ := Option.bind_eq_some_iff.mp hf
  obtain ⟨c₁, hμ, hf⟩ := Option.bind_eq_some_iff.mp hf
  obtain rfl := one1_is hμ
  have hc := And.intro (And.intro (eq_of_beq (and_l (and_l hc))) (and_r (and_l hc))) (and_r hc)
  have hm₀ : a₀ ∈ ad.all := List.mem_append_left _ ha
  have sub1 : ∀ a, a ∈ (⟨[a₀], ⟨ad.all, ad.av.fs⟩⟩ : Ad).all → a ∈ ad.all := fun a q => by
    rcases List.mem_append.mp q with q | q
    · rw [List.mem_singleton.mp q]; exact hm₀
    · exact q
  have rc1 : Reps ⟨[a₀], ⟨ad.all, ad.av.fs⟩⟩ s.heap c cvs := reps_to hc.1.2 sub1 rc
  have rs1 : Reps ⟨[a₀], ⟨ad.all, ad.av.fs⟩⟩ s.heap ds vs := reps_to hc.2 sub1 rs
  have rs3 : Reps ⟨[a₀], ⟨ad.all, ad.av.fs⟩⟩ s.heap (.ml 0 :: ds) ((.ref a₀ :: vs) ++ []) := by
    rw [List.append_nil]
    exact Reps.cons (by simp only [qRep0, qRep1, qRep2, qRep3, qRep4, qRep5, qRep6, qRep7]; exact ⟨a₀, rfl, rfl⟩) rs1
  have hvl : vs.length = ds.length := rs1.length
  have am : Amb base ⟨[a₀], ⟨ad.all, ad.av.fs⟩⟩ [c] s.heap := ⟨hk, fun x hx => (had x (sub1 x hx)).2, fun x hx => (had x (sub1 x hx)).1, fun i x es e f => by
    cases i with
    | zero => simp at e f; subst e; subst f; exact ⟨cvs, pl, rc1⟩
    | succ i => simp at e, by simp, hff⟩
  refine wpAny_call (enter (n := n) (w := w) (k := f.k) (ad := ⟨[a₀], ⟨ad.all, ad.av.fs⟩⟩) (μ := [c]) (ms := [a₀]) (ds := .ml 0 :: ds) hA W.glo.hi hlim h1 h2 h3 h4 hk (by simp at h6 ⊢; omega) hfr am rfl (fun _ m => m) (fun _ m => m) rs3 fun env s₁ e1 hA' hfr' _ V i sm => ?_)
  have H := li_ok (w := w) (base := base) W WM hA' N N (Nat.le_refl _)
  refine mono' (H s.heap [a₀] [] env cx mt _ (Ad.inn ⟨[a₀], ⟨ad.all, ad.av.fs⟩⟩ env) [c] s₁ body f.ps m _ _ _ V hfr' i (by rw [e1]; exact h5) hx) fun fl s' q => ?_
  obtain ⟨ad', a1, i', fl', a4, a5⟩ := q
  have sb : ∀ x, x ∈ ad.all → x ∈ ad'.all := fun x hx => List.mem_append_right _ (by rw [a1]; exact hx)
  obtain ⟨us, pl', ru⟩ := i'.am.mu 0 a₀ _ (own1 i'.len (i'.msub a₀ (.head _))) rfl
  cases o with
  | ret d0 =>
    obtain ⟨hn, hf⟩ := if_is hf
    cases hf
    obtain ⟨v, rfl, rv⟩ := flw_ret fl'
    exact ⟨sm.trans a4, i'.kb, us, pl', reps_to (and_l hn) sb ru, rep_to (and_r hn) sb rv⟩
  | next =>
    obtain ⟨hn, hf⟩ := if_is hf
    cases hf
    cases fl <;> first | exact fl'.elim | exact ⟨sm.trans a4, i'.kb, us, pl', reps_to hn sb ru, rep_none⟩
  | _ => cases hf
end
end Mine
end
section
namespace Mine
noncomputable def ExcRaw (h : Heap) (e : Addr) (tb cv : Value) : Prop := ∃ ob t, h.get? e = some ob ∧ ob.cls = .type "IndexError" ∧ ob.data = .fields #[t, tb, cv, .none, .bool false, .none]
noncomputable def Trc (h : Heap) (T : Addr) (fl : Value) : Prop := ∃ o ts, h.get? T = some o ∧ o.cls = .type "traceback" ∧ o.data = .fields ts ∧ ts[3]? = some fl
theorem ExcRaw.it {h : Heap} {e : Addr} {tb cv : Value} (x : ExcRaw h e tb cv) : ∃ o, h.get? e = some o ∧ IsIt o := by
  obtain ⟨o, t, a, b, c⟩ := x
  exact ⟨o, a, ⟨_, c⟩, by rw [b]; decide⟩
theorem Trc.it {h : Heap} {T : Addr} {fl : Value} (x : Trc h T fl) : ∃ o, h.get? T = some o ∧ IsIt o := by
  obtain ⟨o, t, a, b, c, _⟩ := x
  exact ⟨o, a, ⟨_, c⟩, by rw [b]; decide⟩
theorem ExcRaw.at {h h' : Heap} {e : Addr} {tb cv : Value} (x : ExcRaw h e tb cv) (k : h'.get? e = h.get? e) : ExcRaw h' e tb cv := let ⟨o, t, a, b⟩ := x; ⟨o, t, k.trans a, b⟩
theorem Trc.at {h h' : Heap} {e : Addr} {tb : Value} (x : Trc h e tb) (k : h'.get? e = h.get? e) : Trc h' e tb := let ⟨o, t, a, b⟩ := x; ⟨o, t, k.trans a, b⟩
theorem ExcRaw.kept {h h' : Heap} {e : Addr} {tb cv : Value} (x : ExcRaw h e tb cv) (k : Kept h h') : ExcRaw h' e tb cv := let ⟨o, t, a, b, c⟩ := x; ⟨o, t, k.at a (fun _ _ z => by rw [c] at z; cases z), b, c⟩
theorem Trc.kept {h h' : Heap} {e : Addr} {tb : Value} (x : Trc h e tb) (k : Kept h h') : Trc h' e tb := let ⟨o, t, a, b, c, d⟩ := x; ⟨o, t, k.at a (fun _ _ z => by rw [c] at z; cases z), b, c, d⟩
theorem it_notNs {o : Obj} (x : IsIt o) : NotNs o := by
  obtain ⟨⟨vs, d⟩, _⟩ := x
  exact ⟨fun _ _ z => (by rw [d] at z; cases z), fun _ z => (by rw [d] at z; cases z)⟩
section
variable {w : World} {base h₀ : Heap} {ms pv : List Addr} {A : Around} {ad : Ad} {μ : Mus} {env : Env} {cx : List Str} {ρ : Sto} {s : Shared}
theorem SI.exc {h h' : Heap} {wr : List Addr} (V : WrS base h₀ ms env) (i : SI base h₀ ms pv env cx ρ ad μ h) (k : KeptB wr h h') (f : ∀ a ∈ wr, ∃ o, h.get? a = some o ∧ IsIt o) (h0 : ∀ a ∈ wr, h₀.get? a = none) (np : ∀ a ∈ wr, a ∉ pv) :
    SI base h₀ ms pv env cx ρ ad μ h' ∧ Pv pv h h' := by
  have nin : ∀ b o, h.get? b = some o → ¬ IsIt o → b ∉ wr := fun b o e q m => by
    obtain ⟨o', e', q'⟩ := f b m
    rw [e] at e'; injection e' with e'; subst e'
    exact q q'
  have dn : ∀ o, (∃ es ep, o.data = .dict es ep) ∨ (∃ v, o.data = .cell v) → ¬ IsIt o := fun o q ⟨⟨vs, d⟩, _⟩ => by
    rcases q with ⟨_, _, q⟩ | ⟨_, q⟩ <;> (rw [d] at q; cases q)
  have nc : Nc h h' := ⟨fun b m n => by
      obtain ⟨o, es, ep, e, d, r⟩ := n
      obtain ⟨sl, x, _⟩ := k b o (nin b o e (dn o (.inl ⟨_, _, d⟩))) e
      exact ⟨_, es, ep, x, d, r⟩, fun c v n => by
      obtain ⟨o, e, d⟩ := n
      obtain ⟨sl, x, _⟩ := k c o (nin c o e (dn o (.inr ⟨_, d⟩))) e
      exact ⟨_, x, d⟩⟩
  have dk : Dk h h' := fun b o es ep e d => by
    obtain ⟨sl, x, _⟩ := k b o (nin b o e (dn o (.inl ⟨_, _, d⟩))) e
    exact ⟨_, es, ep, x, d⟩
  have sk : SK [] h h' := fun b o _ e q => k.at (nin b o e fun z => isIt_not z q) e (Still.nd q)
  have base0 : ∀ b ∈ wr, base.get? b = none := fun b m => V.b₀.none (h0 b m)
  have pvk : Pv pv h h' := fun b m => by
    obtain ⟨_, o, e, q⟩ := i.pvo b m
    rw [e]; exact k.at (fun z => np b z m) e q.1
  refine ⟨⟨i.er.keepN nc (fun b o _ e q => sk b o (by simp) e q), i.am.sk0 sk (KeptB.kept ((i.am.keep.b []).butsW k fun b m => .inl (base0 b m))) dk, i.len, i.kb.butsW k (fun b m => .inl (h0 b m)), i.own, fun b m => ?_, i.msub, i.fsl⟩, pvk⟩
  obtain ⟨p, o, e, q⟩ := i.pvo b m
  exact ⟨p, o, (pvk b m).trans e, q⟩
theorem note_first {outer : List Env} {L e : Addr} {cv : Value} {Q : Unit → Shared → Prop} {E : Value → Shared → Prop} (hi : ∀ L, base.get? L = none → 176 ≤ L) (hfr : A.frames = some (env :: outer)) (hl : FrF base s.heap (env :: outer)) (hf : env.frame = some L) (x : ExcRaw s.heap e .none cv)
    (h : ∀ h' T, KeptB [e] s.heap h' → s.heap.get? T = none → ExcRaw h' e (.ref T) cv → Trc h' T (rawInt L) → Q () { s with heap := h' }) : wpAny (model pg w) A (noteFrame (.ref e) env) Q E s := by
  obtain ⟨oe, t, he, hc, hd⟩ := x
  have ff : ∀ {l : List Env}, FrF base s.heap l → s.heap.FunFrames base l := fun {l} => by
    induction l with
    | nil => exact fun _ => trivial
    | cons a r ih =>
      intro q
      obtain ⟨k, L, o, es, ep, a1, a2, a3, a4⟩ := q a (.head _)
      exact ⟨k, ⟨L, o, a1, a2, a3, fun vs z => by rw [a4] at z; cases z⟩, ih fun e m => q e (.tail _ m)⟩
  unfold noteFrame
  simp only [hf]
  refine wpAny_bind (wpAny_field he hd (i := 1) (x := .none) rfl ?_)
  rw [if_neg (by decide)]
  refine wpAny_bind (wpAny_frameOf_fun hfr (ff hl) hf fun h₁ hs₁ => ?_)
  refine wpAny_bind (wpAny_entryPlaceOf fun pl hpl => ?_)
  unfold EntryCells.newEntry newFields
  refine wpAny_bind (wpAny_newObj_type ?_ (hpl.sizeOk5 _ _ _ _ _))
  have nd : ∀ b o, s.heap.get? b = some o → (∀ es ep, o.data ≠ .dict es ep) ∨ b < 176 → h₁.get? b = some o := fun b o q n => by
    refine (hs₁.2.1 b fun m => ?_).trans q
    obtain ⟨e', m', q'⟩ := List.mem_filterMap.mp m
    obtain ⟨_, L', o', es, ep, a1, a2, a3, a4⟩ := hl e' m'
    rw [q'] at a1; injection a1 with a1; subst a1
    rw [q] at a3; injection a3 with a3; subst a3
    rcases n with n | n
    · exact n _ _ a4
    · exact absurd n (Nat.not_lt.mpr (hi _ a2))
  have k₁ : Kept s.heap h₁ := fun b o q => by
    obtain ⟨sl, z⟩ := hs₁.2.2 b o q
    refine ⟨sl, z, fun n => ?_⟩
    have := nd b o q n
    rw [this] at z; injection z with z
    have := congrArg Obj.slots z
    exact this.symm
  have he₁ : h₁.get? e = some oe := nd e oe he (.inl fun _ _ z => by rw [hd] at z; cases z)
  have he₂ := Heap.get?_push_of_some (h := h₁) { cls := .type "traceback", dict := none, data := .fields ([Value.none, .ref L, .none, rawInt L, .none] ++ (if pl.isEmpty then List.replicate 6 Value.none else pl)).toArray } he₁
  refine wpAny_setField he₂ hd (by simp) (h _ h₁.objs.size (fun b o m q => ?_) ?_ ?_ ?_)
  · obtain ⟨sl, z, n⟩ := k₁ b o q
    refine ⟨sl, ?_, n⟩
    have hb : b ≠ e := fun z => m (List.mem_singleton.mpr z)
    rw [Heap.get?_update_other _ _ (Ne.symm hb)]
    exact Heap.get?_push_of_some _ z
  · rw [hs₁.1]; exact fresh_size _
  · have hd₃ := Obj.data_mapFields hd (·.setIfInBounds 1 (Value.ref h₁.objs.size))
    refine ⟨_, t, Heap.get?_update_self _ he₂ (Obj.isFreed_of_fields hd₃), ?_, hd₃⟩
    rw [Obj.cls_mapFields]; exact hc
  · have hTe : h₁.objs.size ≠ e := Nat.ne_of_gt (Heap.lt_size he₁)
    refine ⟨_, _, (Heap.get?_update_other _ _ (Ne.symm hTe)).trans (Heap.get?_push_size h₁ rfl), rfl, rfl, ?_⟩
    rcases hpl with rfl | ⟨_, _, _, _, _, _, _, rfl⟩ <;> simp
theorem note_again {L e T : Addr} {cv : Value} {Q : Unit → Shared → Prop} {E : Value → Shared → Prop} (hf : env.frame = some L) (x : ExcRaw s.heap e (.ref T) cv) (t : Trc s.heap T (rawInt L)) (h : Q () s) : wpAny (model pg w) A (noteFrame (.ref e) env) Q E s := by
  obtain ⟨oe, t', he, hc, hd⟩ := x
  obtain ⟨oT, ts, hT, _, hdT, h3⟩ := t
  exact wpAny_noteFrame_inFlight hf he hd rfl hT hdT h3 h
theorem set_flight {e T : Addr} {cv fl : Value} {f : Option Addr} {Q : Unit → Shared → Prop} {E : Value → Shared → Prop} (x : ExcRaw s.heap e (.ref T) cv) (t : Trc s.heap T fl) (ne : e ≠ T)
    (h : ∀ h', KeptB [T] s.heap h' → ExcRaw h' e (.ref T) cv → Trc h' T (f.elim .none fun a => rawInt a) → Q () { s with heap := h' }) : wpAny (model pg w) A (setFlight (.ref e) f) Q E s := by
  obtain ⟨oT, ts, hT, hcT, hdT, h3⟩ := t
  have x' := x
  obtain ⟨oe, t', he, hc, hd⟩ := x
  unfold setFlight
  refine wpAny_bind (wpAny_field he hd (i := 1) (x := .ref T) rfl ?_)
  rw [if_pos (show (Value.ref T != Value.none) = true from by simp)]
  have hsz : 3 < ts.size := (Array.getElem?_eq_some_iff.mp h3).1
  have hd₃ := Obj.data_mapFields hdT (·.setIfInBounds 3 (f.elim Value.none fun a => rawInt a))
  refine wpAny_setField hT hdT hsz (h _ (fun b o m q => ⟨o.slots, ?_, fun _ => rfl⟩) (x'.at ?_) ⟨_, _, Heap.get?_update_self _ hT (Obj.isFreed_of_fields hd₃), ?_, hd₃, ?_⟩)
  · exact (Heap.get?_update_other _ _ (fun z => m (List.mem_singleton.mpr z.symm))).trans q
  · exact Heap.get?_update_other _ _ (Ne.symm ne)
  · rw [Obj.cls_mapFields]; exact hcT
  · simp [hsz]
theorem came_back {e T : Addr} {cv fl : Value} {L : Addr} {E : Value → Shared → Prop} (hf : env.frame = some L) (x : ExcRaw s.heap e (.ref T) cv) (t : Trc s.heap T fl) (ne : e ≠ T)
    (h : ∀ h', KeptB [T] s.heap h' → ExcRaw h' e (.ref T) cv → Trc h' T (rawInt L) → E (.ref e) { s with heap := h' }) : cameBackBy (model pg w) A env E (.ref e) s := by
  have x' := x
  obtain ⟨oe, t', he, hc, hd⟩ := x
  unfold cameBackBy
  refine wpAny_bind (wpAny_field he hd (i := 1) (x := .ref T) rfl ?_)
  rw [if_neg (show ¬ (Value.ref T == Value.none) = true from by simp), hf]
  first
    | exact set_flight x' t ne h
    | exact wpAny_bind (wpAny_pure (set_flight x' t ne h))
theorem pass_on {α : Type} {what : String} {e T : Addr} {cv fl : Value} {L : Addr} {Q : α → Shared → Prop} {E : Value → Shared → Prop} (hf : env.frame = some L) (x : ExcRaw s.heap e (.ref T) cv) (t : Trc s.heap T fl) (ne : e ≠ T)
    (h : ∀ h', KeptB [T] s.heap h' → ExcRaw h' e (.ref T) cv → Trc h' T (rawInt L) → E (.ref e) { s with heap := h' }) : wpAny (model pg w) A (PySem.passOn what (.ref e) env : Sem α) Q E s := by
  have x' := x
  obtain ⟨oe, t', he, hc, hd⟩ := x
  unfold PySem.passOn
  refine wpAny_bind (wpAny_field he hd (i := 1) (x := .ref T) rfl ?_)
  rw [if_neg (show ¬ (Value.ref T == Value.none) = true from by simp), hf]
  first
    | exact wpAny_bind (set_flight x' t ne fun h' a b c => wpAny_throw (h h' a b c))
    | exact wpAny_bind (wpAny_pure (wpAny_bind (set_flight x' t ne fun h' a b c => wpAny_throw (h h' a b c))))
end
end Mine
end
section
namespace Mine
theorem entry_unchain : entryFor table "proto.unchain" = some Builtin.«proto.unchain» := entryFor_of_tree (by kernel_rfl)
noncomputable def Hd (A : Around) (h : Heap) : Prop := A.handled = none ∨ ∃ e tb, A.handled = some (.ref e) ∧ ExcRaw h e tb .none
theorem Hd.kept {A : Around} {h h' : Heap} (x : Hd A h) (k : Kept h h') : Hd A h' := x.elim .inl fun ⟨e, tb, a, b⟩ => .inr ⟨e, tb, a, b.kept k⟩
section
variable {w : World} {A : Around} {s : Shared}
theorem raise_idx {α : Type} {msg : String} {Q : α → Shared → Prop} {E : Value → Shared → Prop} (hh : Hd A s.heap)
    (h : ∀ h' tk e cv, Kept s.heap h' → s.heap.get? e = none → ExcRaw h' e .none cv → (A.handled = none → cv = .none) → E (.ref e) { s with heap := h', toks := tk }) :
    wpAny (model pg w) A (raiseErrorWords "IndexError" msg : Sem α) Q E s := by
  unfold raiseErrorWords
  refine wpAny_bind (wpAny_mkText (wpAny_bind ?_))
  refine wpAny_newExc_plain plainExc_IndexError (fun h' e hm => ?_) (by simp [sizeLine_eq])
  obtain ⟨t, he, _, _⟩ := hm.there
  have k' : Kept s.heap h' := KeptS.w hm.keeps
  unfold raiseNew
  refine wpAny_bind (wpAny_handled ?_)
  rcases hh with hh | ⟨e1, tb, hh, x⟩
  · rw [hh]
    have fin : E (.ref e) { s with heap := h', toks := s.toks + 1 } := h h' _ e .none k' hm.new ⟨_, .ref t, he, rfl, rfl⟩ fun _ => rfl
    first
      | exact wpAny_throw fin
      | exact wpAny_bind (wpAny_pure (wpAny_throw fin))
  · rw [hh]
    dsimp only
    have ne : e1 ≠ e := by
      rintro rfl
      obtain ⟨o, _, q, _⟩ := x
      have := hm.new
      rw [q] at this; cases this
    rw [if_pos (by simp [ne])]
    obtain ⟨o1, t1, g1, g2, g3⟩ := x.kept k'
    refine wpAny_bind (wpAny_holding (wpAny_runValue (codeAny_builtin entry_unchain ?_)))
    show wpAny _ _ (do
      let context ← field (.ref e1) 2
      if context == .none then return ← ret .none
      if context == .ref e then
        rule "raise.context-cycle-cut"
        setField (.ref e1) 2 .none
        return ← ret .none
      if context == .ref e1 then rule "raise.context-old-cycle"; return ← ret .none
      let slow ← if false then field (.ref e1) 2 else pure (.ref e1)
      again (.builtin "proto.unchain" ⟨[.ref e, context, slow, .bool !false], []⟩)) _ _ _
    refine wpAny_bind (wpAny_field g1 g3 (i := 2) (x := .none) rfl ?_)
    rw [if_pos (by decide)]
    refine wpAny_pure ?_
    have hd₃ := Obj.data_mapFields (o := { cls := .type "IndexError", data := .fields #[.ref t, .none, .none, .none, .bool false, .none] }) rfl (·.setIfInBounds 2 (Value.ref e1))
    refine wpAny_bind ?_
    show wpAny _ _ (setField (.ref e) 2 (.ref e1)) _ _ _
    refine wpAny_setField (s := { s with heap := h', toks := s.toks + 1 }) he rfl (by simp) (wpAny_throw ?_)
    refine h (h'.update e _) _ e (.ref e1) (fun b o q => ?_) hm.new ⟨_, .ref t, Heap.get?_update_self _ he (Obj.isFreed_of_fields hd₃), ?_, hd₃⟩ fun q => by rw [hh] at q; cases q
    · obtain ⟨sl, z, n⟩ := k' b o q
      refine ⟨sl, ?_, n⟩
      have hb : b ≠ e := by rintro rfl; have := hm.new; rw [q] at this; cases this
      rw [Heap.get?_update_other _ _ (Ne.symm hb)]; exact z
    · rw [Obj.cls_mapFields]
theorem item_out {l : Addr} {vs : List Value} {k : Int} {t : Tok} {value slice : Expr} {Q : Value → Shared → Prop} {E : Value → Shared → Prop} (hh : Hd A s.heap) (pl : PL s.heap l vs) (h0 : (vs.length : Int) ≤ k) (h1 : k < 2 ^ 63)
    (hE : ∀ h' tk e cv, Kept s.heap h' → s.heap.get? e = none → ExcRaw h' e .none cv → (A.handled = none → cv = .none) → E (.ref e) { s with heap := h', toks := tk }) :
    wpAny (model pg w) A (subscriptTail value slice (.ref l) (.int k t)) Q E s := by
  obtain ⟨ops, hs⟩ : ∃ ops, subscripted slice false (.ref l) (.int k t) = operate ops (PySem.getItem (.ref l) (.int k t)) := subs _ _ _
  refine tail_any pl.typ slot_list_getitem.lookup ?_ hs
  obtain ⟨n, ho⟩ := id pl
  have hT := pl.isList.typeIs (s := s)
  unfold PySem.getItem
  try with_reducible refine wpAny_holding ?_
  first | refine wpAny_bind (wpAny_pure ?_) | skip
  refine wpAny_bind (wpAny_sequenceKey hT (by decide) ?_)
  refine wpAny_bind (wpAny_callSpecial?_slot (name := Str.ofString "__getitem__") hT slot_list_getitem
    (wpAny_call_entry slot_list_getitem hT entry_list_getitem ?_ (args_list_getitem _ _)))
  show wpAny _ _ (Builtin.List.listSubscript? (.int k t) >>= _) _ _ s
  refine wpAny_bind (wpAny_listSubscript_int (fitsIndex_of (by omega) h1) ?_)
  obtain ⟨j, rfl⟩ := Int.eq_ofNat_of_zero_le (show (0 : Int) ≤ k by omega)
  have hx : vs.toArray[j]? = none := Array.getElem?_eq_none (by simp; omega)
  show wpAny _ _ ((seqItemAt l j >>= fun r => pure (r.map (j, ·))) >>= _) _ _ s
  refine wpAny_bind (wpAny_bind (wpAny_seqItemAt ho rfl (wpAny_pure ?_)))
  rw [hx]
  first
    | exact wpAny_bind (wpAny_rule (raise_idx hh hE))
    | exact wpAny_bind (wpAny_rule (wpAny_bind (raise_idx hh hE)))
    | exact wpAny_bind (wpAny_bind (wpAny_rule (raise_idx hh hE)))
    | exact wpAny_rule (raise_idx hh hE)
end
end Mine
end
section
namespace Mine
noncomputable def rho (xs ys : List Int) (i j : Nat) (oe oa : Option D) : Sto := [some (ofI xs), some (ofI ys), some (.int i), some (.int j), some (.ml 0), some (.ml 1), oe, oa]
noncomputable def mus (ms us : List Int) : Mus := [ms.map .int, us.map .int]
noncomputable def cxS : List Str := ["expected", "actual", "i", "j", "missing", "unexpected", "e", "a"]
noncomputable def namesS : List (Str × NameKind) := [("expected", .local), ("actual", .local), ("i", .local), ("j", .local), ("missing", .local), ("unexpected", .local), ("e", .local), ("a", .local), ("IndexError", .globalImplicit)]
structure Sx (base h₀ : Heap) (pv : List Addr) (env : Env) (xs ys : List Int) (av : Av) (s₀ : Shared) (hp : Heap) (i j : Nat) (oe oa : Option D) (ms us : List Int) (s : Shared) : Prop where
  si : ∃ ad : Ad, ad.av = av ∧ SI base h₀ [] pv env cxS (rho xs ys i j oe oa) ad (mus ms us) s.heap
  sm : Same s₀ s
  pvk : Pv pv hp s.heap
section
variable {w : World} {base h₀ hp : Heap} {pv : List Addr} {A : Around} {av : Av} {env : Env} {xs ys ms us : List Int} {i j : Nat} {oe oa : Option D} {s s₀ : Shared} {E : Value → Shared → Prop}
theorem Sx.up {s' : Shared} (x : Sx base h₀ pv env xs ys av s₀ hp i j oe oa ms us s) (k : Keeps s s') : Sx base h₀ pv env xs ys av s₀ hp i j oe oa ms us s' := by
  obtain ⟨ad, ha, hi⟩ := x.si
  obtain ⟨a, b⟩ := hi.up k
  exact ⟨⟨ad, ha, a⟩, x.sm.trans (keeps_same k), x.pvk.trans b⟩
theorem slot_s (hn : env.scope.names = namesS) : ∀ {x : Str} {sl : Nat}, slotOf namesS cxS x = some sl → slotOf env.scope.names cxS x = some sl := fun h => by rw [hn]; exact h
theorem Sx.name {ad : Ad} {μ : Mus} {ρ : Sto} (hn : env.scope.names = namesS) (x : SI base h₀ [] pv env cxS ρ ad μ s.heap) {y : Str} {sl : Nat} {d : D} (hs : slotOf namesS cxS y = some sl) (hd : ρ[sl]? = some (some d)) :
    ∃ v, Rep ad s.heap d v ∧ ∀ (pos : Pos) (s' : Shared) (Q : Value → Shared → Prop) (E : Value → Shared → Prop), Keeps s s' → Q v s' → wpAny (model pg w) A (eval (.Name y pos) env) Q E s' := by
  obtain ⟨hp, _, hi⟩ := slot_is (env := env) (slot_s hn hs)
  obtain ⟨v, lc, r⟩ := x.er.var y sl d hi hd
  exact ⟨v, r, fun pos s' Q E k q => (lc.kept (keeps_kept k)).name x.er.kind hp q⟩
theorem Sx.store {ad : Ad} {μ : Mus} {ρ : Sto} (hn : env.scope.names = namesS) (V : WrS base h₀ [] env) (x : SI base h₀ [] pv env cxS ρ ad μ s.heap) {y : Str} {sl : Nat} {d : D} {v : Value} (hs : slotOf namesS cxS y = some sl) (rv : Rep ad s.heap d v) {Q : Unit → Shared → Prop}
    (h : ∀ s', SI base h₀ [] pv env cxS (ρ.set sl (some d)) ad μ s'.heap → Same s s' → Pv pv s.heap s'.heap → Q () s') : wpAny (model pg w) A (storeName env y v) Q E s :=
  wpAny_mono (SI.store V x (slot_s hn hs) rv fun s' a b c _ => h s' a b c) (fun _ _ q => q) fun _ _ f => f.elim
theorem aug_one {ad : Ad} {μ : Mus} {ρ : Sto} (hn : env.scope.names = namesS) (V : WrS base h₀ [] env) (x : SI base h₀ [] pv env cxS ρ ad μ s.heap) {y : Str} {sl : Nat} {k : Int} {p p' p'' : Pos} {kk : Nat} (hs : slotOf namesS cxS y = some sl) (hd : ρ[sl]? = some (some (.int k))) {Q : Flow → Shared → Prop}
    (h : ∀ s', SI base h₀ [] pv env cxS (ρ.set sl (some (.int (k + 1)))) ad μ s'.heap → Same s s' → Pv pv s.heap s'.heap → Q .next s') : wpAny (model pg w) A (exec (.AugAssign (.Name y p) .Add (.Constant (.int 1) kk p') p'') env) Q E s := by
  obtain ⟨hp, _, hi⟩ := slot_is (env := env) (slot_s hn hs)
  obtain ⟨v, lc, r⟩ := x.er.var y sl _ hi hd
  obtain ⟨t, rfl⟩ := of_int r
  refine wpAny_AugAssign_Name (lc.load x.er.kind hp (wpAny_mkInt (PySem.P.iadd_int ?_)))
  have kk := keeps_tok s (s.toks + 1 + 1)
  obtain ⟨i₁, p₁⟩ := x.up kk
  exact Sx.store (s := { s with toks := _ }) hn V i₁ hs rep_int fun s' a b c => h s' a ((keeps_same kk).trans b) (p₁.trans c)
theorem idx_in {ad : Ad} {μ : Mus} {ρ : Sto} (hn : env.scope.names = namesS) (x : SI base h₀ [] pv env cxS ρ ad μ s.heap) {y z : Str} {sl sk k : Nat} {zs : List Int} {c : Int} {p p' p'' : Pos} (hs : slotOf namesS cxS y = some sl) (hd : ρ[sl]? = some (some (ofI zs))) (hs' : slotOf namesS cxS z = some sk) (hd' : ρ[sk]? = some (some (.int k)))
    (hk : k ≤ lim) (hc : zs[k]? = some c) {Q : Value → Shared → Prop} (h : ∀ v s', Keeps s s' → Rep ad s'.heap (.int c) v → Q v s') : wpAny (model pg w) A (eval (.Subscript (.Name y p) (.Name z p') p'') env) Q E s := by
  obtain ⟨v, rv, e1⟩ := Sx.name (w := w) (A := A) hn x hs hd
  obtain ⟨u, ru, e2⟩ := Sx.name (w := w) (A := A) hn x hs' hd'
  refine Subscript_ (e1 _ _ _ _ (keeps_refl s) (e2 _ _ _ _ (keeps_refl s) (wpAny_mono (idx_op (d := .int c) x.am ?_ rv ru) (fun v s' q => h v s' q.1 q.2) fun _ _ f => f.elim)))
  unfold lim at hk
  have e : (-(lim : Int) ≤ (k : Int) ∧ (k : Int) ≤ lim) := by unfold lim; omega
  show (if 0 ≤ (k : Int) && (k : Int) ≤ (lim : Int) then (lst μ (ofI zs)).bind (·[(k : Int).toNat]?) else _) = _
  rw [if_pos (by simp; unfold lim; omega)]
  show (zs.map D.int)[(k : Int).toNat]? = _
  simp [hc]
theorem idx_out {ad : Ad} {μ : Mus} {ρ : Sto} (hn : env.scope.names = namesS) (hh : Hd A s.heap) (x : SI base h₀ [] pv env cxS ρ ad μ s.heap) {y z : Str} {sl sk k : Nat} {zs : List Int} {p p' p'' : Pos} (hs : slotOf namesS cxS y = some sl) (hd : ρ[sl]? = some (some (ofI zs))) (hs' : slotOf namesS cxS z = some sk) (hd' : ρ[sk]? = some (some (.int k)))
    (hk : k ≤ lim) (hc : zs.length ≤ k) {Q : Value → Shared → Prop} (h : ∀ s' e cv, Keeps s s' → s.heap.get? e = none → ExcRaw s'.heap e .none cv → (A.handled = none → cv = .none) → E (.ref e) s') : wpAny (model pg w) A (eval (.Subscript (.Name y p) (.Name z p') p'') env) Q E s := by
  obtain ⟨v, rv, e1⟩ := Sx.name (w := w) (A := A) hn x hs hd
  obtain ⟨u, ru, e2⟩ := Sx.name (w := w) (A := A) hn x hs' hd'
  obtain ⟨t, rfl⟩ := of_int ru
  obtain ⟨a, vs, rfl, _, pl, rs⟩ := of_list rv
  have hl : vs.length = zs.length := by rw [rs.length]; simp
  unfold lim at hk
  refine Subscript_ (e1 _ _ _ _ (keeps_refl s) (e2 _ _ _ _ (keeps_refl s) (item_out hh pl (by omega) (by omega) fun h' tk e cv k n r z => h _ e cv (keeps_mk k) n r z)))
theorem test_in {ad : Ad} {μ : Mus} {ρ : Sto} (hn : env.scope.names = namesS) (hu : A.units + 10 < cLine) (x : SI base h₀ [] pv env cxS ρ ad μ s.heap) {y z q : Str} {sl sk sq k : Nat} {zs : List Int} {c b : Int} {p p' p'' p3 p4 : Pos} {whole : Sem Value} (hs : slotOf namesS cxS y = some sl) (hd : ρ[sl]? = some (some (ofI zs))) (hs' : slotOf namesS cxS z = some sk) (hd' : ρ[sk]? = some (some (.int k)))
    (hq : slotOf namesS cxS q = some sq) (hdq : ρ[sq]? = some (some (.int b))) (hk : k ≤ lim) (hc : zs[k]? = some c) {Q : Bool → Shared → Prop} (h : ∀ s', Keeps s s' → Q (c == b) s') : wpAny (model pg w) A (isTrue (.Compare (.Subscript (.Name y p) (.Name z p') p'') [.Eq] [.Name q p3] p4) env whole) Q E s := by
  obtain ⟨v, rv, e1⟩ := Sx.name (w := w) (A := A) hn x hq hdq
  refine wpAny_isTrue_Compare1 (idx_in hn x hs hd hs' hd' hk hc fun u s' k' ru => e1 _ _ _ _ k' (wpAny_mono (cmp_op (d := .bool (c == b)) (μ := μ) hu rfl ru (rv.up k')) (fun v' s₂ q2 => ?_) fun _ _ f => f.elim)) rfl
  have := of_bool q2.2
  subst this
  exact wpAny_truthy_bool (h _ (keeps_trans k' q2.1))
theorem test_out {ad : Ad} {μ : Mus} {ρ : Sto} (hn : env.scope.names = namesS) (hh : Hd A s.heap) (x : SI base h₀ [] pv env cxS ρ ad μ s.heap) {y z q : Str} {sl sk k : Nat} {zs : List Int} {p p' p'' p3 p4 : Pos} {whole : Sem Value} (hs : slotOf namesS cxS y = some sl) (hd : ρ[sl]? = some (some (ofI zs))) (hs' : slotOf namesS cxS z = some sk) (hd' : ρ[sk]? = some (some (.int k)))
    (hk : k ≤ lim) (hc : zs.length ≤ k) {Q : Bool → Shared → Prop} (h : ∀ s' e cv, Keeps s s' → s.heap.get? e = none → ExcRaw s'.heap e .none cv → (A.handled = none → cv = .none) → E (.ref e) s') : wpAny (model pg w) A (isTrue (.Compare (.Subscript (.Name y p) (.Name z p') p'') [.Eq] [.Name q p3] p4) env whole) Q E s :=
  wpAny_isTrue_Compare1 (idx_out hn hh x hs hd hs' hd' hk hc h) rfl
end
end Mine
end
section
namespace Mine
structure XR (h₀ : Heap) (pv : List Addr) (e : Addr) (cv : Value) (h : Heap) : Prop where
  ex : ExcRaw h e .none cv
  e0 : h₀.get? e = none
  ep : e ∉ pv
structure XN (h₀ : Heap) (pv : List Addr) (e T : Addr) (cv fl : Value) (h : Heap) : Prop where
  ex : ExcRaw h e (.ref T) cv
  tr : Trc h T fl
  e0 : h₀.get? e = none
  t0 : h₀.get? T = none
  ep : e ∉ pv
  tp : T ∉ pv
  ne : e ≠ T
section
variable {w : World} {base h₀ : Heap} {pv : List Addr} {A : Around} {ad : Ad} {μ : Mus} {env : Env} {cx : List Str} {ρ : Sto} {s : Shared} {E : Value → Shared → Prop}
theorem XR.of {s' : Shared} {e : Addr} {cv : Value} (i : SI base h₀ [] pv env cx ρ ad μ s.heap) (n : s.heap.get? e = none) (x : ExcRaw s'.heap e .none cv) : XR h₀ pv e cv s'.heap :=
  ⟨x, i.h0new n, fun m => by obtain ⟨_, o, q, _⟩ := i.pvo e m; rw [n] at q; cases q⟩
theorem x_note {outer : List Env} {e : Addr} {cv : Value} {Q : Unit → Shared → Prop} (hfr : A.frames = some (env :: outer)) (hav : ad.av.fs = env :: outer) (hf : env.frame = some env.locals) (V : WrS base h₀ [] env) (i : SI base h₀ [] pv env cx ρ ad μ s.heap) (x : XR h₀ pv e cv s.heap)
    (h : ∀ s' T, SI base h₀ [] pv env cx ρ ad μ s'.heap → XN h₀ pv e T cv (rawInt env.locals) s'.heap → Same s s' → Pv pv s.heap s'.heap → Q () s') : wpAny (model pg w) A (noteFrame (.ref e) env) Q E s := by
  have xr := x.ex
  refine note_first (base := base) V.hi hfr (hav ▸ i.am.fr) hf xr fun h' T kb hT x' t' => ?_
  obtain ⟨i', p'⟩ := i.exc V kb (fun a m => by rw [List.mem_singleton.mp m]; exact xr.it) (fun a m => by rw [List.mem_singleton.mp m]; exact x.e0) (fun a m => by rw [List.mem_singleton.mp m]; exact x.ep)
  refine h _ T i' ⟨x', t', x.e0, i.h0new hT, x.ep, fun m => ?_, ?_⟩ ⟨h', s.toks, rfl⟩ p'
  · obtain ⟨_, o, q, _⟩ := i.pvo T m
    rw [hT] at q; cases q
  · rintro rfl
    obtain ⟨o, _, q, _⟩ := xr
    rw [hT] at q; cases q
theorem x_again {e T : Addr} {cv : Value} {Q : Unit → Shared → Prop} (hf : env.frame = some env.locals) (x : XN h₀ pv e T cv (rawInt env.locals) s.heap) (h : Q () s) : wpAny (model pg w) A (noteFrame (.ref e) env) Q E s :=
  note_again hf x.ex x.tr h
theorem XN.step {e T : Addr} {fl fl' cv : Value} {h' : Heap} (V : WrS base h₀ [] env) (i : SI base h₀ [] pv env cx ρ ad μ s.heap) (x : XN h₀ pv e T cv fl s.heap) (kb : KeptB [T] s.heap h') (x' : ExcRaw h' e (.ref T) cv) (t' : Trc h' T fl') :
    SI base h₀ [] pv env cx ρ ad μ h' ∧ Pv pv s.heap h' ∧ XN h₀ pv e T cv fl' h' := by
  obtain ⟨i', p'⟩ := i.exc V kb (fun a m => by rw [List.mem_singleton.mp m]; exact x.tr.it) (fun a m => by rw [List.mem_singleton.mp m]; exact x.t0) (fun a m => by rw [List.mem_singleton.mp m]; exact x.tp)
  exact ⟨i', p', x', t', x.e0, x.t0, x.ep, x.tp, x.ne⟩
theorem x_set {e T : Addr} {cv fl : Value} {f : Option Addr} {Q : Unit → Shared → Prop} (V : WrS base h₀ [] env) (i : SI base h₀ [] pv env cx ρ ad μ s.heap) (x : XN h₀ pv e T cv fl s.heap)
    (h : ∀ s', SI base h₀ [] pv env cx ρ ad μ s'.heap → XN h₀ pv e T cv (f.elim .none fun a => rawInt a) s'.heap → Same s s' → Pv pv s.heap s'.heap → Q () s') : wpAny (model pg w) A (setFlight (.ref e) f) Q E s := by
  have q := x.ex
  refine set_flight q x.tr x.ne fun h' kb x' t' => ?_
  obtain ⟨a, b, c⟩ := x.step V i kb x' t'
  exact h _ a c ⟨h', s.toks, rfl⟩ b
theorem x_back {e T : Addr} {cv fl : Value} (hf : env.frame = some env.locals) (V : WrS base h₀ [] env) (i : SI base h₀ [] pv env cx ρ ad μ s.heap) (x : XN h₀ pv e T cv fl s.heap)
    (h : ∀ s', SI base h₀ [] pv env cx ρ ad μ s'.heap → XN h₀ pv e T cv (rawInt env.locals) s'.heap → Same s s' → Pv pv s.heap s'.heap → E (.ref e) s') : cameBackBy (model pg w) A env E (.ref e) s := by
  have q := x.ex
  refine came_back hf q x.tr x.ne fun h' kb x' t' => ?_
  obtain ⟨a, b, c⟩ := x.step V i kb x' t'
  exact h _ a c ⟨h', s.toks, rfl⟩ b
theorem x_pass {α : Type} {what : String} {e T : Addr} {cv fl : Value} {Q : α → Shared → Prop} (hf : env.frame = some env.locals) (V : WrS base h₀ [] env) (i : SI base h₀ [] pv env cx ρ ad μ s.heap) (x : XN h₀ pv e T cv fl s.heap)
    (h : ∀ s', SI base h₀ [] pv env cx ρ ad μ s'.heap → XN h₀ pv e T cv (rawInt env.locals) s'.heap → Same s s' → Pv pv s.heap s'.heap → E (.ref e) s') : wpAny (model pg w) A (PySem.passOn what (.ref e) env : Sem α) Q E s := by
  have q := x.ex
  refine pass_on hf q x.tr x.ne fun h' kb x' t' => ?_
  obtain ⟨a, b, c⟩ := x.step V i kb x' t'
  exact h _ a c ⟨h', s.toks, rfl⟩ b
end
section
variable {w : World} {base h₀ : Heap} {pv : List Addr} {A : Around} {ad : Ad} {μ : Mus} {env : Env} {ρ : Sto} {s : Shared} {E : Value → Shared → Prop}
theorem whl_no (hn : env.scope.names = namesS) (hu : A.units + 10 < cLine) (x : SI base h₀ [] pv env cxS ρ ad μ s.heap) {y z q : Str} {sl sk sq k : Nat} {zs : List Int} {c b : Int} {p p' p'' p3 p4 pos : Pos} {body : List Stmt} (hs : slotOf namesS cxS y = some sl) (hd : ρ[sl]? = some (some (ofI zs))) (hs' : slotOf namesS cxS z = some sk) (hd' : ρ[sk]? = some (some (.int k)))
    (hq : slotOf namesS cxS q = some sq) (hdq : ρ[sq]? = some (some (.int b))) (hk : k ≤ lim) (hc : zs[k]? = some c) (ne : c ≠ b) {Q : Flow → Shared → Prop} (h : ∀ s', SI base h₀ [] pv env cxS ρ ad μ s'.heap → Same s s' → Pv pv s.heap s'.heap → Q .next s') :
    wpAny (model pg w) A (exec (.While (.Compare (.Subscript (.Name y p) (.Name z p') p'') [.Eq] [.Name q p3] p4) body [] pos) env) Q E s := by
  refine wpAny_While (codeAny_whileLoop (fun _ s' => s' = s) ?_ 0 rfl)
  rintro n s' rfl
  refine test_in hn hu x hs hd hs' hd' hq hdq hk hc fun s₂ k₂ => ?_
  rw [show (c == b) = false by simpa using ne]
  simp only [Bool.false_eq_true, if_false]
  obtain ⟨i₂, p₂⟩ := x.up k₂
  exact wpAny_execs_nil (h s₂ i₂ (keeps_same k₂) p₂)
theorem whl_out {outer : List Env} (hn : env.scope.names = namesS) (hh : Hd A s.heap) (hfr : A.frames = some (env :: outer)) (hav : ad.av.fs = env :: outer) (hf : env.frame = some env.locals) (V : WrS base h₀ [] env) (x : SI base h₀ [] pv env cxS ρ ad μ s.heap) {y z q : Str} {sl sk k : Nat} {zs : List Int} {p p' p'' p3 p4 pos : Pos} {body : List Stmt} (hs : slotOf namesS cxS y = some sl) (hd : ρ[sl]? = some (some (ofI zs))) (hs' : slotOf namesS cxS z = some sk) (hd' : ρ[sk]? = some (some (.int k)))
    (hk : k ≤ lim) (hc : zs.length ≤ k) {Q : Flow → Shared → Prop} (h : ∀ s' e T cv, SI base h₀ [] pv env cxS ρ ad μ s'.heap → XN h₀ pv e T cv (rawInt env.locals) s'.heap → (A.handled = none → cv = .none) → Same s s' → Pv pv s.heap s'.heap → E (.ref e) s') :
    wpAny (model pg w) A (exec (.While (.Compare (.Subscript (.Name y p) (.Name z p') p'') [.Eq] [.Name q p3] p4) body [] pos) env) Q E s := by
  refine wpAny_While (codeAny_whileLoop (fun _ s' => s' = s) ?_ 0 rfl)
  rintro n s' rfl
  refine test_out hn hh x hs hd hs' hd' hk hc fun s₂ e cv k₂ n₂ r₂ z₂ => ?_
  obtain ⟨i₂, p₂⟩ := x.up k₂
  show wpAny _ _ _ _ _ _
  refine x_note hfr hav hf V i₂ (XR.of x n₂ r₂) fun s₃ T i₃ x₃ m₃ p₃ => ?_
  refine x_back hf V i₃ x₃ fun s₄ i₄ x₄ m₄ p₄ => ?_
  exact h s₄ e T cv i₄ x₄ z₂ (((keeps_same k₂).trans m₃).trans m₄) ((p₂.trans p₃).trans p₄)
end
end Mine
end
section
namespace Mine
section
variable {w : World} {base h₀ : Heap} {pv : List Addr} {A : Around} {ad : Ad} {μ : Mus} {env : Env} {ρ : Sto} {s : Shared} {E : Value → Shared → Prop}
theorem slice_from {y z : Str} {sl sk k : Nat} {zs : List Int} {p1 p2 p3 p4 : Pos} (hn : env.scope.names = namesS) (x : SI base h₀ [] pv env cxS ρ ad μ s.heap) (hs : slotOf namesS cxS y = some sl) (hd : ρ[sl]? = some (some (ofI zs))) (hs' : slotOf namesS cxS z = some sk) (hd' : ρ[sk]? = some (some (.int k)))
    (hk : k ≤ lim) (hz : zs.length ≤ lim) : wpAny (model pg w) A (eval (.Subscript (.Name y p1) (.Slice (some (.Name z p2)) none none p3) p4) env) (Is ad s (ofI (zs.drop k))) NoE s := by
  obtain ⟨v, rv, e1⟩ := Sx.name (w := w) (A := A) hn x hs hd
  obtain ⟨u, ru, e2⟩ := Sx.name (w := w) (A := A) hn x hs' hd'
  refine Subscript_ (e1 _ _ _ _ (keeps_refl s) ?_)
  show wpAny _ _ (valueOrNone (evalOpt (some (.Name z p2)) env) >>= fun vl => holding [vl] (valueOrNone (evalOpt none env)) >>= fun vh => holding [vl, vh] (valueOrNone (evalOpt none env)) >>= fun vk => newFields "slice" [vl, vh, vk]) _ _ _
  refine wpAny_bind ?_
  show wpAny _ _ (eval (.Name z p2) env) _ _ _
  refine e2 _ _ _ _ (keeps_refl s) ?_
  refine wpAny_bind (wpAny_holding ?_)
  show wpAny _ _ (pure Value.none) _ _ _
  refine wpAny_pure ?_
  refine wpAny_bind (wpAny_holding ?_)
  show wpAny _ _ (pure Value.none) _ _ _
  refine wpAny_pure ?_
  refine wpAny_newObj_type ?_ (by show [u, Value.none, Value.none].toArray.size ≤ _; simp [sizeLine_eq])
  have kp := keeps_push s { cls := .type "slice", data := .fields [u, Value.none, Value.none].toArray }
  obtain ⟨a, vs, rfl, _, pl, rs⟩ := of_list rv
  obtain ⟨ops, ho⟩ : ∃ ops, subscripted (.Slice (some (.Name z p2)) none none p3) false (.ref a) (.ref s.heap.objs.size) = operate ops (PySem.getItem (.ref a) (.ref s.heap.objs.size)) := subs _ _ _
  refine tail_any (PL.typ (s := { s with heap := _ }) (pl.kept (keeps_kept kp))) slot_list_getitem.lookup ?_ ho
  refine mono' (slc_op (d := ofI (zs.drop k)) (lo := .int k) (hi := .none) (st := .none) (x.up kp).1.am ?_ (rv.up kp) (ru.up kp) rep_none rep_none (Heap.get?_push_size _ rfl)) fun v s' q => q.after kp
  have hl : (zs.map D.int).length ≤ lim := by simpa using hz
  show (if (zs.map D.int).length ≤ lim && 0 ≤ (k : Int) && (k : Int) ≤ lim && 0 ≤ (0 : Int) && (0 : Int) ≤ lim then some (D.list (((zs.map D.int).take (zs.map D.int).length).drop ((k : Int).toNat))) else none) = _
  rw [if_pos]
  · rw [List.take_length, ofI, ← List.map_drop]; rfl
  · simp only [Bool.and_eq_true, decide_eq_true_eq]
    unfold lim at *
    lia
theorem ext_from {l y z : Str} {sm sl sk k c : Nat} {zs ms : List Int} {p p1 p2 p3 p4 apos cpos pos : Pos} (hn : env.scope.names = namesS) (V : WrS base h₀ [] env) (x : SI base h₀ [] pv env cxS ρ ad μ s.heap) (hs : slotOf namesS cxS y = some sl) (hd : ρ[sl]? = some (some (ofI zs))) (hs' : slotOf namesS cxS z = some sk) (hd' : ρ[sk]? = some (some (.int k)))
    (hm : slotOf namesS cxS l = some sm) (hdm : mlOf ρ sm = some c) (hmu : μ[c]? = some (ms.map .int)) (hk : k ≤ lim) (hz : zs.length ≤ lim) (hms : ms.length ≤ lim) (hline : (apos.endLine == cpos.line) = true) {Q : Flow → Shared → Prop}
    (h : ∀ s', SI base h₀ [] pv env cxS ρ ad (μ.set c ((ms ++ zs.drop k).map .int)) s'.heap → Same s s' → Pv pv s.heap s'.heap → Q .next s') :
    wpAny (model pg w) A (exec (.Expr (.Call (.Attribute (.Name l p) ("extend" : Str) apos) [.Subscript (.Name y p1) (.Slice (some (.Name z p2)) none none p3) p4] [] cpos) pos) env) Q E s := by
  obtain ⟨a, ha, nm⟩ := ml_var (w := w) (A := A) x (slot_s hn hm) hdm
  obtain ⟨us, plu, _⟩ := x.am.mu c a _ ha hmu
  refine wpAny_mono (E := NoE) (wpAny_Expr_any (list_meth x nm plu rfl (by simp) hline PySem.F.slot_list_extend PySem.F.type_list_extend ?_) (not_inter x) rfl) (fun _ _ q => q) fun _ _ f => f.elim
  refine callWith_builtin (plainArgs_any _ _) (evalArgs_plain (spliced_cons (mono' (slice_from hn x hs hd hs' hd' hk hz) fun v s₁ q => spliced_nil ?_)))
  obtain ⟨i₁, p₁⟩ := x.up q.1
  obtain ⟨vs, pl, rs⟩ := i₁.am.mu c a _ ha hmu
  obtain ⟨b, ws, rfl, _, plb, rb⟩ := of_list q.2
  have hl : vs.length = ms.length := by rw [rs.length]; simp
  have hlb : ws.length ≤ lim := by rw [rb.length]; simp; omega
  obtain ⟨n, ho⟩ := id pl
  obtain ⟨n2, hb⟩ := id plb
  unfold lim at hms hlb
  refine call_meets PySem.F.slot_list_extend ⟨_, ho, rfl⟩ PySem.F.entry_list_extend (PySem.F.args_list_extend_2 _ _) (PySem.AutoSeq1.list_extend_list_list_0 a vs.toArray n b ws.toArray n2 ?_ ?_ ?_) ⟨ho, hb, ?_⟩
  · unfold Builtin.List.listTooLong; simp [sizeLine_eq]; intro _; omega
  · simp [sizeLine_eq]; omega
  · simp [sizeLine_eq]; omega
  have hsb := Heap.SameBut.update s₁.heap a (Obj.mapSeq fun x => x ++ ws.toArray)
  have pl' : PL (s₁.heap.update a (Obj.mapSeq fun x => x ++ ws.toArray)) a (vs ++ ws) := pl_update pl (by simp)
  obtain ⟨i₃, p₃⟩ := i₁.list (ds' := (ms ++ zs.drop k).map .int) V ha pl (fun b o hb e => (hsb.2 b hb).trans e) pl' (by rw [List.map_append]; exact rs.append rb)
  exact h _ i₃ ((keeps_same q.1).trans ⟨_, _, rfl⟩) (p₁.trans p₃)
end
end Mine
end
section
namespace Mine
noncomputable abbrev cmpE (y z q : Str) (p1 p2 p3 p4 p5 : Pos) : Expr := .Compare (.Subscript (.Name y p1) (.Name z p2) p3) [.Eq] [.Name q p4] p5
noncomputable abbrev incS (y : Str) (p1 p2 p3 : Pos) : Stmt := .AugAssign (.Name y p1) .Add (.Constant (.int 1) 0 p2) p3
section
variable {w : World} {base h₀ : Heap} {A : Around} {ad : Ad} {env : Env} {s : Shared} {E : Value → Shared → Prop} {xs ys : List Int}
inductive Nx (base h₀ : Heap) (env : Env) (xs ys : List Int) (ad : Ad) (s : Shared) (i j : Nat) (ms us : List Int) (f : Flow) (s' : Shared) : Prop
  | mk (e : f = .next) (oe oa : Option D) (i : SI base h₀ [] [] env cxS (rho xs ys i j oe oa) ad (mus ms us) s'.heap) (m : Same s s')
inductive Xx (base h₀ : Heap) (env : Env) (xs ys : List Int) (ad : Ad) (s : Shared) (i j : Nat) (ms us : List Int) (v : Value) (s' : Shared) : Prop
  | mk (e : Addr) (oe oa : Option D) (h : v = .ref e) (i : SI base h₀ [] [] env cxS (rho xs ys i j oe oa) ad (mus ms us) s'.heap) (m : Same s s')
    (x : (∃ cv, XR h₀ [] e cv s'.heap) ∨ ∃ T cv, XN h₀ [] e T cv (rawInt env.locals) s'.heap)
structure Fx (A : Around) (ad : Ad) (env : Env) (base h₀ : Heap) : Prop where
  hn : env.scope.names = namesS
  hu : A.units + 10 < cLine
  hh : A.handled = none
  fr : ∃ o, A.frames = some (env :: o) ∧ ad.av.fs = env :: o
  hf : env.frame = some env.locals
  V : WrS base h₀ [] env
theorem fin_pend {i j : Nat} {ms us : List Int} {oe : Option D} {c : Int} {e T : Addr} {fl : Value} {p1 p2 p3 p4 p5 p6 p7 p8 p9 : Pos} {b : List Stmt} (X : Fx A ad env base h₀) (hj : ys[j]? = some c) (hs : ys.Pairwise (· < ·)) (hl : ys.length < lim)
    (x : SI base h₀ [] [] env cxS (rho xs ys i j oe (some (.int c))) ad (mus ms us) s.heap) (n : XN h₀ [] e T .none fl s.heap) {Q : Flow → Shared → Prop}
    (hE : ∀ v s', Xx base h₀ env xs ys ad s i (j + 1) ms us v s' → E v s') :
    wpAny (model pg w) (A.mark (some (.ref e))) (execs [incS "j" p1 p2 p3, .While (cmpE "actual" "j" "a" p4 p5 p6 p7 p8) b [] p9] env)
      (fun g s₂ => match g with | .next => wpAny (model pg w) A (PySem.passOn "try.finally" (.ref e) env) Q E s₂ | g => wpAny (model pg w) A (setFlight (.ref e) none) (fun _ s₃ => Q g s₃) E s₂) (notedBy (model pg w) (A.mark (some (.ref e))) env (cameBackBy (model pg w) A env E)) s := by
  obtain ⟨o, hfr, hav⟩ := X.fr
  have hjl : j < ys.length := (List.getElem?_eq_some_iff.mp hj).1
  have x' : SI base h₀ [] [e, T] env cxS (rho xs ys i j oe (some (.int c))) ad (mus ms us) s.heap := by
    have nown : ∀ a, h₀.get? a = none → (∃ o, s.heap.get? a = some o ∧ IsIt o) → a ∉ ad.own := fun a h0 ⟨o, q1, q2⟩ m => by
      obtain ⟨o', q3, q4⟩ := x.am.there a (List.mem_append_left _ m)
      rw [q1] at q3; injection q3 with q3; subst q3
      exact isIt_not q2 (.inl q4)
    refine { x with pvo := fun b m => ?_ }
    rcases List.mem_cons.mp m with rfl | m
    · obtain ⟨o, q1, q2⟩ := n.ex.it
      exact ⟨nown _ n.e0 ⟨o, q1, q2⟩, o, q1, it_notNs q2⟩
    · rw [List.mem_singleton.mp m]
      obtain ⟨o, q1, q2⟩ := n.tr.it
      exact ⟨nown _ n.t0 ⟨o, q1, q2⟩, o, q1, it_notNs q2⟩
  refine wpAny_execs_cons (aug_one (sl := 3) (k := (j : Int)) X.hn X.V x' rfl rfl fun s₁ i₁ m₁ pv₁ => ?_)
  have i₁ : SI base h₀ [] [e, T] env cxS (rho xs ys i (j + 1) oe (some (.int c))) ad (mus ms us) s₁.heap := i₁
  have ex₁ : ExcRaw s₁.heap e (.ref T) .none := n.ex.at (pv₁ e (.head _))
  have tr₁ : Trc s₁.heap T fl := n.tr.at (pv₁ T (.tail _ (.head _)))
  have hd : Hd (A.mark (some (.ref e))) s₁.heap := .inr ⟨e, _, rfl, ex₁⟩
  refine wpAny_execs_cons ?_
  rcases Nat.lt_or_ge (j + 1) ys.length with hlt | hge
  · have hne : ys[j + 1] ≠ c := by
      have := List.pairwise_iff_getElem.mp hs j (j + 1) hjl hlt (Nat.lt_succ_self j)
      obtain ⟨_, hc⟩ := List.getElem?_eq_some_iff.mp hj
      omega
    refine whl_no (sl := 1) (sk := 3) (sq := 7) (k := j + 1) (A := A.mark (some (.ref e))) X.hn X.hu i₁ rfl rfl rfl rfl rfl rfl (by omega) (List.getElem?_eq_getElem hlt) hne fun s₂ i₂ m₂ pv₂ => ?_
    refine wpAny_execs_nil ?_
    have n₂ : XN h₀ [] e T .none fl s₂.heap := { n with ex := ex₁.at (pv₂ e (.head _)), tr := tr₁.at (pv₂ T (.tail _ (.head _))) }
    refine x_pass X.hf X.V (i₂.less (pv := []) fun _ m => nomatch m) n₂ fun s₃ i₃ n₃ m₃ _ => ?_
    exact hE _ _ ⟨e, _, _, rfl, i₃, (m₁.trans m₂).trans m₃, .inr ⟨T, _, n₃⟩⟩
  · refine whl_out (sl := 1) (sk := 3) (k := j + 1) (A := A.mark (some (.ref e))) (outer := o) X.hn hd hfr hav X.hf X.V i₁ rfl rfl rfl rfl (by omega) hge fun s₂ e₂ T₂ cv₂ i₂ n₂ _ m₂ _ => ?_
    show wpAny _ _ _ _ _ _
    refine x_again X.hf n₂ ?_
    refine x_back X.hf X.V i₂ n₂ fun s₃ i₃ n₃ m₃ _ => ?_
    exact hE _ _ ⟨e₂, _, _, rfl, i₃.less (pv := []) (fun _ m => nomatch m), (m₁.trans m₂).trans m₃, .inr ⟨T₂, cv₂, { n₃ with ep := (fun m => nomatch m), tp := (fun m => nomatch m) }⟩⟩
theorem fin_plain {i j : Nat} {ms us : List Int} {oe : Option D} {c : Int} {p1 p2 p3 p4 p5 p6 p7 p8 p9 : Pos} {b : List Stmt} (X : Fx A ad env base h₀) (hj : ys[j]? = some c) (hs : ys.Pairwise (· < ·)) (hl : ys.length < lim)
    (x : SI base h₀ [] [] env cxS (rho xs ys i j oe (some (.int c))) ad (mus ms us) s.heap) {Q : Flow → Shared → Prop} (hQ : ∀ s', Nx base h₀ env xs ys ad s i (j + 1) ms us .next s' → Q .next s') (hE : ys.length ≤ j + 1 → ∀ v s', Xx base h₀ env xs ys ad s i (j + 1) ms us v s' → E v s') :
    wpAny (model pg w) A (execs [incS "j" p1 p2 p3, .While (cmpE "actual" "j" "a" p4 p5 p6 p7 p8) b [] p9] env) Q E s := by
  obtain ⟨o, hfr, hav⟩ := X.fr
  have hjl : j < ys.length := (List.getElem?_eq_some_iff.mp hj).1
  refine wpAny_execs_cons (aug_one (sl := 3) (k := (j : Int)) X.hn X.V x rfl rfl fun s₁ i₁ m₁ pv₁ => ?_)
  have i₁ : SI base h₀ [] [] env cxS (rho xs ys i (j + 1) oe (some (.int c))) ad (mus ms us) s₁.heap := i₁
  refine wpAny_execs_cons ?_
  rcases Nat.lt_or_ge (j + 1) ys.length with hlt | hge
  · have hne : ys[j + 1] ≠ c := by
      have := List.pairwise_iff_getElem.mp hs j (j + 1) hjl hlt (Nat.lt_succ_self j)
      obtain ⟨_, hc⟩ := List.getElem?_eq_some_iff.mp hj
      omega
    refine whl_no (sl := 1) (sk := 3) (sq := 7) (k := j + 1) X.hn X.hu i₁ rfl rfl rfl rfl rfl rfl (by omega) (List.getElem?_eq_getElem hlt) hne fun s₂ i₂ m₂ pv₂ => ?_
    exact wpAny_execs_nil (hQ _ ⟨rfl, _, _, i₂, m₁.trans m₂⟩)
  · refine whl_out (sl := 1) (sk := 3) (k := j + 1) (outer := o) X.hn (.inl X.hh) hfr hav X.hf X.V i₁ rfl rfl rfl rfl (by omega) hge fun s₂ e₂ T₂ cv₂ i₂ n₂ _ m₂ _ => ?_
    exact hE hge _ _ ⟨e₂, _, _, rfl, i₂, m₁.trans m₂, .inr ⟨T₂, cv₂, n₂⟩⟩
end
end Mine
end
section
namespace Mine
section
variable {w : World} {base h₀ : Heap} {A : Around} {ad : Ad} {env : Env} {s : Shared} {E : Value → Shared → Prop} {xs ys : List Int} {Q : Flow → Shared → Prop}
theorem Xx.after {s₁ s₂ : Shared} {i j : Nat} {ms us : List Int} {v : Value} (m : Same s s₁) (x : Xx base h₀ env xs ys ad s₁ i j ms us v s₂) : Xx base h₀ env xs ys ad s i j ms us v s₂ :=
  let ⟨e, oe, oa, a, b, c, d⟩ := x; ⟨e, oe, oa, a, b, m.trans c, d⟩
theorem Nx.after {s₁ s₂ : Shared} {i j : Nat} {ms us : List Int} {f : Flow} (m : Same s s₁) (x : Nx base h₀ env xs ys ad s₁ i j ms us f s₂) : Nx base h₀ env xs ys ad s i j ms us f s₂ :=
  let ⟨a, oe, oa, b, c⟩ := x; ⟨a, oe, oa, b, m.trans c⟩
theorem eq_case {i j : Nat} {ms us : List Int} {c d : Int} {p1 p2 p3 p4 p5 p6 p7 p8 p9 q1 q2 q3 q4 q5 q6 q7 q8 q9 pos : Pos} {b b' : List Stmt} (X : Fx A ad env base h₀) (hi : xs[i]? = some c) (hj : ys[j]? = some d) (hs : xs.Pairwise (· < ·)) (hl : xs.length < lim) (hs' : ys.Pairwise (· < ·)) (hl' : ys.length < lim)
    (x : SI base h₀ [] [] env cxS (rho xs ys i j (some (.int c)) (some (.int d))) ad (mus ms us) s.heap) (hQ : ∀ s', Nx base h₀ env xs ys ad s (i + 1) (j + 1) ms us .next s' → Q .next s') (hE : xs.length ≤ i + 1 ∨ ys.length ≤ j + 1 → ∀ v s', Xx base h₀ env xs ys ad s (i + 1) (j + 1) ms us v s' → E v s') :
    wpAny (model pg w) A (execs [incS "i" p1 p2 p3, .Try [.While (cmpE "expected" "i" "e" p4 p5 p6 p7 p8) b [] p9] [] [] [incS "j" q1 q2 q3, .While (cmpE "actual" "j" "a" q4 q5 q6 q7 q8) b' [] q9] pos] env) Q E s := by
  obtain ⟨o, hfr, hav⟩ := X.fr
  have hil : i < xs.length := (List.getElem?_eq_some_iff.mp hi).1
  refine wpAny_execs_cons (aug_one (sl := 2) (k := (i : Int)) X.hn X.V x rfl rfl fun s₁ i₁ m₁ pv₁ => ?_)
  have i₁ : SI base h₀ [] [] env cxS (rho xs ys (i + 1) j (some (.int c)) (some (.int d))) ad (mus ms us) s₁.heap := i₁
  refine wpAny_execs_cons (wpAny_Try_finally (wpAny_execs_cons ?_))
  rcases Nat.lt_or_ge (i + 1) xs.length with hlt | hge
  · have hne : xs[i + 1] ≠ c := by
      have := List.pairwise_iff_getElem.mp hs i (i + 1) hil hlt (Nat.lt_succ_self i)
      obtain ⟨_, hc⟩ := List.getElem?_eq_some_iff.mp hi
      omega
    refine whl_no (sl := 0) (sk := 2) (sq := 6) (k := i + 1) X.hn X.hu i₁ rfl rfl rfl rfl rfl rfl (by omega) (List.getElem?_eq_getElem hlt) hne fun s₂ i₂ m₂ pv₂ => ?_
    refine wpAny_execs_nil (wpAny_execs_nil ?_)
    refine fin_plain X hj hs' hl' i₂ (fun s₃ n₃ => wpAny_execs_nil (hQ _ (n₃.after (m₁.trans m₂)))) fun hge v s₃ x₃ => ?_
    have x₃' := x₃.after (m₁.trans m₂)
    obtain ⟨e, oe, oa, rfl, i₃, m₃, r₃⟩ := x₃
    show wpAny _ _ _ _ _ _
    rcases r₃ with ⟨cv, r₃⟩ | ⟨T, cv, r₃⟩
    · refine x_note hfr hav X.hf X.V i₃ r₃ fun s₄ T i₄ n₄ m₄ _ => ?_
      exact x_back X.hf X.V i₄ n₄ fun s₅ i₅ n₅ m₅ _ => hE (.inr hge) _ _ ⟨e, _, _, rfl, i₅, (((m₁.trans m₂).trans m₃).trans m₄).trans m₅, .inr ⟨T, cv, n₅⟩⟩
    · refine x_again X.hf r₃ ?_
      exact x_back X.hf X.V i₃ r₃ fun s₅ i₅ n₅ m₅ _ => hE (.inr hge) _ _ ⟨e, _, _, rfl, i₅, ((m₁.trans m₂).trans m₃).trans m₅, .inr ⟨T, cv, n₅⟩⟩
  · refine whl_out (sl := 0) (sk := 2) (k := i + 1) (outer := o) X.hn (.inl X.hh) hfr hav X.hf X.V i₁ rfl rfl rfl rfl (by omega) hge fun s₂ e T cv i₂ n₂ z₂ m₂ _ => ?_
    have := z₂ X.hh
    subst this
    refine x_again X.hf n₂ ?_
    refine ⟨ref_ne_byPass e, x_again X.hf n₂ ?_⟩
    refine x_set X.V i₂ n₂ fun s₃ i₃ n₃ m₃ _ => ?_
    exact fin_pend X hj hs' hl' i₃ n₃ fun v s₄ x₄ => hE (.inl hge) _ _ (x₄.after ((m₁.trans m₂).trans m₃))
end
end Mine
end
section
namespace Mine
section
variable {w : World} {base h₀ : Heap} {A : Around} {ad : Ad} {env : Env} {s : Shared} {E : Value → Shared → Prop} {xs ys : List Int} {Q : Flow → Shared → Prop}
theorem app_one {pv : List Addr} {μ : Mus} {ρ : Sto} {l z : Str} {sm sk c : Nat} {k : Int} {ms : List Int} {p p1 apos cpos pos : Pos} (hn : env.scope.names = namesS) (V : WrS base h₀ [] env) (x : SI base h₀ [] pv env cxS ρ ad μ s.heap) (hs' : slotOf namesS cxS z = some sk) (hd' : ρ[sk]? = some (some (.int k)))
    (hm : slotOf namesS cxS l = some sm) (hdm : mlOf ρ sm = some c) (hmu : μ[c]? = some (ms.map .int)) (hms : ms.length ≤ lim) (hline : (apos.endLine == cpos.line) = true)
    (h : ∀ s', SI base h₀ [] pv env cxS ρ ad (μ.set c ((ms ++ [k]).map .int)) s'.heap → Same s s' → Pv pv s.heap s'.heap → Q .next s') :
    wpAny (model pg w) A (exec (.Expr (.Call (.Attribute (.Name l p) ("append" : Str) apos) [.Name z p1] [] cpos) pos) env) Q E s := by
  obtain ⟨a, ha, nm⟩ := ml_var (w := w) (A := A) x (slot_s hn hm) hdm
  obtain ⟨us, plu, _⟩ := x.am.mu c a _ ha hmu
  obtain ⟨u, ru, e2⟩ := Sx.name (w := w) (A := A) hn x hs' hd'
  refine wpAny_mono (E := NoE) (wpAny_Expr_any (list_meth x nm plu rfl (by simp) hline PySem.F.slot_list_append PySem.F.type_list_append ?_) (not_inter x) rfl) (fun _ _ q => q) fun _ _ f => f.elim
  refine callWith_builtin (plainArgs_any _ _) (evalArgs_plain (spliced_cons (e2 _ _ _ _ (keeps_refl s) (spliced_nil ?_))))
  obtain ⟨vs, pl, rs⟩ := x.am.mu c a _ ha hmu
  have hl : vs.length = ms.length := by rw [rs.length]; simp
  unfold lim at hms
  refine wpAny_list_append_plain (hsz := by simp [sizeLine_eq]; omega) pl fun h' pl' hsb => ?_
  have pl'' : PL h' a (vs ++ [u]) := by simpa using pl'
  obtain ⟨i₃, p₃⟩ := x.list (ds' := (ms ++ [k]).map .int) V ha pl (fun b o hb e => (hsb.2 b hb).trans e) pl'' (by rw [List.map_append]; exact rs.snoc ru)
  exact h _ i₃ ⟨_, _, rfl⟩ p₃
theorem lt_case {i j : Nat} {ms us : List Int} {c d : Int} {p1 p2 p3 p4 p5 p6 p7 p8 p9 q1 q2 q3 q4 q5 : Pos} {b : List Stmt} (X : Fx A ad env base h₀) (hi : xs[i]? = some c) (hs : xs.Pairwise (· < ·)) (hl : xs.length < lim) (hms : ms.length ≤ lim) (hline : (q3.endLine == q4.line) = true)
    (x : SI base h₀ [] [] env cxS (rho xs ys i j (some (.int c)) (some (.int d))) ad (mus ms us) s.heap) (hQ : ∀ s', Nx base h₀ env xs ys ad s (i + 1) j (ms ++ [c]) us .next s' → Q .next s') (hE : xs.length ≤ i + 1 → ∀ v s', Xx base h₀ env xs ys ad s (i + 1) j (ms ++ [c]) us v s' → E v s') :
    wpAny (model pg w) A (execs [.Expr (.Call (.Attribute (.Name "missing" q1) ("append" : Str) q3) [.Name "e" q2] [] q4) q5, incS "i" p1 p2 p3, .While (cmpE "expected" "i" "e" p4 p5 p6 p7 p8) b [] p9] env) Q E s := by
  obtain ⟨o, hfr, hav⟩ := X.fr
  have hil : i < xs.length := (List.getElem?_eq_some_iff.mp hi).1
  refine wpAny_execs_cons (app_one (sm := 4) (sk := 6) (c := 0) X.hn X.V x rfl rfl rfl rfl rfl hms hline fun s₀ i₀ m₀ _ => ?_)
  have i₀ : SI base h₀ [] [] env cxS (rho xs ys i j (some (.int c)) (some (.int d))) ad (mus (ms ++ [c]) us) s₀.heap := i₀
  refine wpAny_execs_cons (aug_one (sl := 2) (k := (i : Int)) X.hn X.V i₀ rfl rfl fun s₁ i₁ m₁ pv₁ => ?_)
  have i₁ : SI base h₀ [] [] env cxS (rho xs ys (i + 1) j (some (.int c)) (some (.int d))) ad (mus (ms ++ [c]) us) s₁.heap := i₁
  refine wpAny_execs_cons ?_
  rcases Nat.lt_or_ge (i + 1) xs.length with hlt | hge
  · have hne : xs[i + 1] ≠ c := by
      have := List.pairwise_iff_getElem.mp hs i (i + 1) hil hlt (Nat.lt_succ_self i)
      obtain ⟨_, hc⟩ := List.getElem?_eq_some_iff.mp hi
      omega
    refine whl_no (sl := 0) (sk := 2) (sq := 6) (k := i + 1) X.hn X.hu i₁ rfl rfl rfl rfl rfl rfl (by omega) (List.getElem?_eq_getElem hlt) hne fun s₂ i₂ m₂ pv₂ => ?_
    exact wpAny_execs_nil (hQ _ ⟨rfl, _, _, i₂, (m₀.trans m₁).trans m₂⟩)
  · refine whl_out (sl := 0) (sk := 2) (k := i + 1) (outer := o) X.hn (.inl X.hh) hfr hav X.hf X.V i₁ rfl rfl rfl rfl (by omega) hge fun s₂ e T cv i₂ n₂ z₂ m₂ _ => ?_
    exact hE hge _ _ ⟨e, _, _, rfl, i₂, (m₀.trans m₁).trans m₂, .inr ⟨T, cv, n₂⟩⟩
theorem gt_case {i j : Nat} {ms us : List Int} {c d : Int} {p1 p2 p3 p4 p5 p6 p7 p8 p9 q1 q2 q3 q4 q5 : Pos} {b : List Stmt} (X : Fx A ad env base h₀) (hi : ys[j]? = some d) (hs : ys.Pairwise (· < ·)) (hl : ys.length < lim) (hms : us.length ≤ lim) (hline : (q3.endLine == q4.line) = true)
    (x : SI base h₀ [] [] env cxS (rho xs ys i j (some (.int c)) (some (.int d))) ad (mus ms us) s.heap) (hQ : ∀ s', Nx base h₀ env xs ys ad s i (j + 1) ms (us ++ [d]) .next s' → Q .next s') (hE : ys.length ≤ j + 1 → ∀ v s', Xx base h₀ env xs ys ad s i (j + 1) ms (us ++ [d]) v s' → E v s') :
    wpAny (model pg w) A (execs [.Expr (.Call (.Attribute (.Name "unexpected" q1) ("append" : Str) q3) [.Name "a" q2] [] q4) q5, incS "j" p1 p2 p3, .While (cmpE "actual" "j" "a" p4 p5 p6 p7 p8) b [] p9] env) Q E s := by
  obtain ⟨o, hfr, hav⟩ := X.fr
  have hil : j < ys.length := (List.getElem?_eq_some_iff.mp hi).1
  refine wpAny_execs_cons (app_one (sm := 5) (sk := 7) (c := 1) X.hn X.V x rfl rfl rfl rfl rfl hms hline fun s₀ i₀ m₀ _ => ?_)
  have i₀ : SI base h₀ [] [] env cxS (rho xs ys i j (some (.int c)) (some (.int d))) ad (mus ms (us ++ [d])) s₀.heap := i₀
  refine wpAny_execs_cons (aug_one (sl := 3) (k := (j : Int)) X.hn X.V i₀ rfl rfl fun s₁ i₁ m₁ pv₁ => ?_)
  have i₁ : SI base h₀ [] [] env cxS (rho xs ys i (j + 1) (some (.int c)) (some (.int d))) ad (mus ms (us ++ [d])) s₁.heap := i₁
  refine wpAny_execs_cons ?_
  rcases Nat.lt_or_ge (j + 1) ys.length with hlt | hge
  · have hne : ys[j + 1] ≠ d := by
      have := List.pairwise_iff_getElem.mp hs j (j + 1) hil hlt (Nat.lt_succ_self j)
      obtain ⟨_, hc⟩ := List.getElem?_eq_some_iff.mp hi
      omega
    refine whl_no (sl := 1) (sk := 3) (sq := 7) (k := j + 1) X.hn X.hu i₁ rfl rfl rfl rfl rfl rfl (by omega) (List.getElem?_eq_getElem hlt) hne fun s₂ i₂ m₂ pv₂ => ?_
    exact wpAny_execs_nil (hQ _ ⟨rfl, _, _, i₂, (m₀.trans m₁).trans m₂⟩)
  · refine whl_out (sl := 1) (sk := 3) (k := j + 1) (outer := o) X.hn (.inl X.hh) hfr hav X.hf X.V i₁ rfl rfl rfl rfl (by omega) hge fun s₂ e T cv i₂ n₂ z₂ m₂ _ => ?_
    exact hE hge _ _ ⟨e, _, _, rfl, i₂, (m₀.trans m₁).trans m₂, .inr ⟨T, cv, n₂⟩⟩
theorem cmp_names {pv : List Addr} {μ : Mus} {ρ : Sto} {y z : Str} {sy sz : Nat} {c d : Int} {op : CmpOp} {r : Bool} {p1 p2 p3 : Pos} {whole : Sem Value} (hn : env.scope.names = namesS) (hu : A.units + 10 < cLine) (x : SI base h₀ [] pv env cxS ρ ad μ s.heap) (hs : slotOf namesS cxS y = some sy) (hd : ρ[sy]? = some (some (.int c)))
    (hs' : slotOf namesS cxS z = some sz) (hd' : ρ[sz]? = some (some (.int d))) (hr : cmpD μ op (.int c) (.int d) = some (.bool r)) (hop : behindInMarks op (.Name z p2) = false) {Qb : Bool → Shared → Prop} (h : ∀ s', SI base h₀ [] pv env cxS ρ ad μ s'.heap → Same s s' → Qb r s') :
    wpAny (model pg w) A (isTrue (.Compare (.Name y p1) [op] [.Name z p2] p3) env whole) Qb E s := by
  obtain ⟨v, rv, e1⟩ := Sx.name (w := w) (A := A) hn x hs hd
  obtain ⟨u, ru, e2⟩ := Sx.name (w := w) (A := A) hn x hs' hd'
  refine wpAny_isTrue_Compare1 (e1 _ _ _ _ (keeps_refl s) (e2 _ _ _ _ (keeps_refl s) (wpAny_mono (cmp_op hu hr rv ru) (fun v' s₂ q2 => ?_) fun _ _ f => f.elim))) hop
  have := of_bool q2.2
  subst this
  exact wpAny_truthy_bool (h _ (x.up q2.1).1 (keeps_same q2.1))
end
end Mine
end
section
namespace Mine
noncomputable def sldF : Nat → List Int → List Int → List Int × List Int
  | 0, xs, ys => (xs, ys)
  | _ + 1, [], ys => ([], ys)
  | _ + 1, x :: xs, [] => (x :: xs, [])
  | n + 1, x :: xs, y :: ys => if x < y then (x :: (sldF n xs (y :: ys)).1, (sldF n xs (y :: ys)).2) else if y < x then ((sldF n (x :: xs) ys).1, y :: (sldF n (x :: xs) ys).2) else sldF n xs ys
theorem qsldF0 {n : Nat} {x y : Int} {xs ys : List Int} : sldF (n + 1) (x :: xs) (y :: ys) = if x < y then (x :: (sldF n xs (y :: ys)).1, (sldF n xs (y :: ys)).2) else if y < x then ((sldF n (x :: xs) ys).1, y :: (sldF n (x :: xs) ys).2) else sldF n xs ys := rfl
noncomputable def sld (xs ys : List Int) : List Int × List Int := sldF (xs.length + ys.length + 1) xs ys
theorem sldF_l {n : Nat} {ys : List Int} : sldF n [] ys = ([], ys) := by cases n <;> rfl
theorem sldF_r {n : Nat} {xs : List Int} : sldF n xs [] = (xs, []) := by cases n <;> cases xs <;> rfl
structure Go (xs ys MS US : List Int) (k i j : Nat) (ms us : List Int) : Prop where
  hi : i ≤ xs.length
  hj : j ≤ ys.length
  hk : xs.length + ys.length < k + (i + j)
  e1 : ms ++ (sldF k (xs.drop i) (ys.drop j)).1 = MS
  e2 : us ++ (sldF k (xs.drop i) (ys.drop j)).2 = US
  hm : ms.length ≤ i
  hu : us.length ≤ j
structure En (xs ys MS US : List Int) (i j : Nat) (ms us : List Int) : Prop where
  hi : i ≤ xs.length
  hj : j ≤ ys.length
  e1 : ms ++ xs.drop i = MS
  e2 : us ++ ys.drop j = US
  hm : ms.length ≤ i
  hu : us.length ≤ j
theorem Go.en {xs ys MS US : List Int} {k i j : Nat} {ms us : List Int} (g : Go xs ys MS US k i j ms us) (h : xs.length ≤ i ∨ ys.length ≤ j) : En xs ys MS US i j ms us := by
  obtain ⟨a, b, c, d, e, f, f'⟩ := g
  refine ⟨a, b, ?_, ?_, f, f'⟩
  · rcases h with h | h
    · rw [List.drop_of_length_le h] at d ⊢; rw [sldF_l] at d; exact d
    · rw [List.drop_of_length_le h, sldF_r] at d; exact d
  · rcases h with h | h
    · rw [List.drop_of_length_le h, sldF_l] at e; exact e
    · rw [List.drop_of_length_le h] at e ⊢; rw [sldF_r] at e; exact e
theorem drop_at {xs : List Int} {i : Nat} {c : Int} (h : xs[i]? = some c) : xs.drop i = c :: xs.drop (i + 1) := by
  obtain ⟨h1, h2⟩ := List.getElem?_eq_some_iff.mp h
  rw [List.drop_eq_getElem_cons h1, h2]
theorem Go.lt {xs ys MS US : List Int} {k i j : Nat} {ms us : List Int} {c d : Int} (g : Go xs ys MS US (k + 1) i j ms us) (hc : xs[i]? = some c) (hd : ys[j]? = some d) (h : c < d) : Go xs ys MS US k (i + 1) j (ms ++ [c]) us := by
  obtain ⟨a, b, hk, e1, e2, f, f'⟩ := g
  have := (List.getElem?_eq_some_iff.mp hc).1
  rw [drop_at hc, drop_at hd] at e1 e2
  simp only [qsldF0, if_pos h] at e1 e2
  refine ⟨by omega, b, by omega, ?_, ?_, by simp; omega, f'⟩
  · rw [drop_at hd]; simpa using e1
  · rw [drop_at hd]; exact e2
theorem Go.gt {xs ys MS US : List Int} {k i j : Nat} {ms us : List Int} {c d : Int} (g : Go xs ys MS US (k + 1) i j ms us) (hc : xs[i]? = some c) (hd : ys[j]? = some d) (h : d < c) : Go xs ys MS US k i (j + 1) ms (us ++ [d]) := by
  obtain ⟨a, b, hk, e1, e2, f, f'⟩ := g
  have := (List.getElem?_eq_some_iff.mp hd).1
  rw [drop_at hc, drop_at hd] at e1 e2
  simp only [qsldF0, if_pos h, if_neg (show ¬ c < d by omega)] at e1 e2
  refine ⟨a, by omega, by omega, ?_, ?_, f, by simp; omega⟩
  · rw [drop_at hc]; exact e1
  · rw [drop_at hc]; simpa using e2
theorem Go.eq {xs ys MS US : List Int} {k i j : Nat} {ms us : List Int} {c d : Int} (g : Go xs ys MS US (k + 1) i j ms us) (hc : xs[i]? = some c) (hd : ys[j]? = some d) (h1 : ¬ c < d) (h2 : ¬ d < c) : Go xs ys MS US k (i + 1) (j + 1) ms us := by
  obtain ⟨a, b, hk, e1, e2, f, f'⟩ := g
  have := (List.getElem?_eq_some_iff.mp hc).1
  have := (List.getElem?_eq_some_iff.mp hd).1
  rw [drop_at hc, drop_at hd] at e1 e2
  simp only [qsldF0, if_neg h1, if_neg h2] at e1 e2
  exact ⟨by omega, by omega, by omega, e1, e2, by omega, by omega⟩
section
variable {w : World} {base h₀ : Heap} {A : Around} {ad : Ad} {env : Env} {s : Shared} {E : Value → Shared → Prop} {xs ys MS US : List Int} {Q : Flow → Shared → Prop}
theorem clause {i j : Nat} {ms us : List Int} {v : Value} {p1 p2 p3 p4 p5 p6 p7 p8 q1 q2 q3 q4 q5 q6 q7 q8 np bp hp : Pos} (gl : Glo base) (X : Fx A ad env base h₀) (hl : xs.length < lim) (hl' : ys.length < lim) (en : En xs ys MS US i j ms us) (hline : (p6.endLine == p7.line) = true) (hline' : (q6.endLine == q7.line) = true)
    {s₁ : Shared} (x : Xx base h₀ env xs ys ad s i j ms us v s₁) (hQ : ∀ s' oe oa, SI base h₀ [] [] env cxS (rho xs ys i j oe oa) ad (mus MS US) s'.heap → Same s s' → Q .brk s') :
    wpAny (model pg w) A (noteFrame v env) (fun _ s₂ => wpAny (model pg w) A (setFlight v none) (fun _ s₃ => wpAny (model pg w) A (handleBy v env
      [.ExceptHandler (some (.Name "IndexError" np)) none [.Expr (.Call (.Attribute (.Name "missing" p1) ("extend" : Str) p6) [.Subscript (.Name "expected" p2) (.Slice (some (.Name "i" p3)) none none p4) p5] [] p7) p8,
        .Expr (.Call (.Attribute (.Name "unexpected" q1) ("extend" : Str) q6) [.Subscript (.Name "actual" q2) (.Slice (some (.Name "j" q3)) none none q4) q5] [] q7) q8, .Break bp] hp]) Q E s₃) E s₂) E s₁ := by
  obtain ⟨o, hfr, hav⟩ := X.fr
  obtain ⟨e, oe, oa, rfl, i₁, m₁, r₁⟩ := x
  have main : ∀ (s₂ : Shared) (T : Addr) (cv : Value), SI base h₀ [] [] env cxS (rho xs ys i j oe oa) ad (mus ms us) s₂.heap → XN h₀ [] e T cv (rawInt env.locals) s₂.heap → Same s s₂ → wpAny (model pg w) A (setFlight (.ref e) none) (fun _ s₃ => wpAny (model pg w) A (handleBy (.ref e) env
      [.ExceptHandler (some (.Name "IndexError" np)) none [.Expr (.Call (.Attribute (.Name "missing" p1) ("extend" : Str) p6) [.Subscript (.Name "expected" p2) (.Slice (some (.Name "i" p3)) none none p4) p5] [] p7) p8,
        .Expr (.Call (.Attribute (.Name "unexpected" q1) ("extend" : Str) q6) [.Subscript (.Name "actual" q2) (.Slice (some (.Name "j" q3)) none none q4) q5] [] q7) q8, .Break bp] hp]) Q E s₃) E s₂ := by
    intro s₂ T cv i₂ n₂ m₂
    refine x_set X.V i₂ n₂ fun s₃ i₃ n₃ m₃ _ => ?_
    refine wpAny_handleBy_builtin (X := "IndexError") (T := "IndexError") (b := true) PySem.F.isExc_IndexError PySem.F.notTuple_IndexError (by rw [isSubtype_type]; kernel_rfl) ?_
    refine boot_name (A := A.mark (some (.ref e))) gl i₃.er i₃.am (by decide) (by rw [X.hn]; rfl) gl.ixe ⟨rfl, ?_, ?_⟩
    · obtain ⟨ob, t, g1, g2, _⟩ := n₃.ex
      exact ⟨ob, g1, g2⟩
    · simp only [if_true]
      refine x_set X.V i₃ n₃ fun s₄ i₄ n₄ m₄ _ => ?_
      refine wpAny_execs_cons (ext_from (sm := 4) (sl := 0) (sk := 2) (k := i) (c := 0) (ms := ms) (zs := xs) X.hn X.V i₄ rfl rfl rfl rfl rfl rfl rfl (by have := en.hi; omega) (by omega) (by have := en.hi; have := en.hm; omega) hline fun s₅ i₅ m₅ _ => ?_)
      have i₅ : SI base h₀ [] [] env cxS (rho xs ys i j oe oa) ad (mus MS us) s₅.heap := by rw [← en.e1]; exact i₅
      refine wpAny_execs_cons (ext_from (sm := 5) (sl := 1) (sk := 3) (k := j) (c := 1) (ms := us) (zs := ys) X.hn X.V i₅ rfl rfl rfl rfl rfl rfl rfl (by have := en.hj; omega) (by omega) (by have := en.hj; have := en.hu; omega) hline' fun s₆ i₆ m₆ _ => ?_)
      have i₆ : SI base h₀ [] [] env cxS (rho xs ys i j oe oa) ad (mus MS US) s₆.heap := by rw [← en.e2]; exact i₆
      refine wpAny_execs_cons (wpAny_Break ?_)
      exact hQ _ _ _ i₆ ((((m₂.trans m₃).trans m₄).trans m₅).trans m₆)
  rcases r₁ with ⟨cv, r₁⟩ | ⟨T, cv, r₁⟩
  · exact x_note hfr hav X.hf X.V i₁ r₁ fun s₂ T i₂ n₂ m₂ _ => main s₂ T cv i₂ n₂ (m₁.trans m₂)
  · exact x_again X.hf r₁ (main s₁ T cv i₁ r₁ m₁)
end
end Mine
end
section
namespace Mine
noncomputable abbrev extS (l x i : Str) (p1 p2 p3 p4 p5 p6 p7 p8 : Pos) : Stmt := .Expr (.Call (.Attribute (.Name l p1) ("extend" : Str) p6) [.Subscript (.Name x p2) (.Slice (some (.Name i p3)) none none p4) p5] [] p7) p8
noncomputable abbrev asgS (e x i : Str) (p1 p2 p3 p4 p5 : Pos) : Stmt := .Assign [.Name e p1] (.Subscript (.Name x p2) (.Name i p3) p4) p5
noncomputable abbrev appS (l e : Str) (p1 p2 p3 p4 p5 : Pos) : Stmt := .Expr (.Call (.Attribute (.Name l p1) ("append" : Str) p3) [.Name e p2] [] p4) p5
noncomputable abbrev cmpN (op : CmpOp) (p1 p2 p3 : Pos) : Expr := .Compare (.Name "e" p1) [op] [.Name "a" p2] p3
section
variable {w : World} {base h₀ : Heap} {A : Around} {ad : Ad} {env : Env} {s : Shared} {E : Value → Shared → Prop} {xs ys MS US : List Int} {Q : Flow → Shared → Prop}
theorem Go.len {k i j : Nat} {ms us : List Int} (g : Go xs ys MS US k i j ms us) : ms.length ≤ xs.length ∧ us.length ≤ ys.length := ⟨Nat.le_trans g.hm g.hi, Nat.le_trans g.hu g.hj⟩
theorem try_body {k i j : Nat} {ms us : List Int} {oe oa : Option D} {a1 a2 a3 a4 a5 a6 a7 a8 a9 a10 b1 b2 b3 b4 b5 b6 b7 b8 c1 c2 c3 c4 c5 c6 c7 c8 c9 c10 c11 c12 c13 c14 d1 d2 d3 d4 d5 d6 d7 d8 d9 d10 d11 d12 d13 d14 e1 e2 e3 e4 e5 e6 e7 e8 e9 f1 f2 f3 f4 f5 f6 f7 f8 f9 f10 : Pos} {B1 B2 B3 B4 : List Stmt} (X : Fx A ad env base h₀) (hs : xs.Pairwise (· < ·)) (hl : xs.length < lim) (hs' : ys.Pairwise (· < ·)) (hl' : ys.length < lim)
    (g : Go xs ys MS US (k + 1) i j ms us) (hline : (c3.endLine == c4.line) = true) (hline' : (d3.endLine == d4.line) = true)
    (x : SI base h₀ [] [] env cxS (rho xs ys i j oe oa) ad (mus ms us) s.heap)
    (hQ : ∀ s' i j ms us, Nx base h₀ env xs ys ad s i j ms us .next s' → Go xs ys MS US k i j ms us → Q .next s') (hE : ∀ v s' i j ms us, Xx base h₀ env xs ys ad s i j ms us v s' → En xs ys MS US i j ms us → E v s') :
    wpAny (model pg w) A (execs [asgS "e" "expected" "i" a1 a2 a3 a4 a5, asgS "a" "actual" "j" a6 a7 a8 a9 a10, .If (cmpN .Lt b1 b2 b3) [appS "missing" "e" c1 c2 c3 c4 c5, incS "i" c6 c7 c8, .While (cmpE "expected" "i" "e" c9 c10 c11 c12 c13) B1 [] c14]
      [.If (cmpN .Gt b4 b5 b6) [appS "unexpected" "a" d1 d2 d3 d4 d5, incS "j" d6 d7 d8, .While (cmpE "actual" "j" "a" d9 d10 d11 d12 d13) B2 [] d14]
        [incS "i" e1 e2 e3, .Try [.While (cmpE "expected" "i" "e" e4 e5 e6 e7 e8) B3 [] e9] [] [] [incS "j" f1 f2 f3, .While (cmpE "actual" "j" "a" f4 f5 f6 f7 f8) B4 [] f9] f10] b7] b8] env) Q E s := by
  have ln := g.len
  refine wpAny_execs_cons (wpAny_Assign_Name ?_)
  rcases Nat.lt_or_ge i xs.length with hi | hi
  rotate_left
  · refine idx_out (sl := 0) (sk := 2) (k := i) X.hn (.inl X.hh) x rfl rfl rfl rfl (by have := g.hi; omega) hi fun s' e cv k n r z => ?_
    exact hE _ _ _ _ _ _ ⟨e, _, _, rfl, (x.up k).1, keeps_same k, .inl ⟨cv, XR.of x n r⟩⟩ (g.en (.inl hi))
  have hc := List.getElem?_eq_getElem hi
  generalize xs[i] = c at hc
  refine idx_in (sl := 0) (sk := 2) (k := i) X.hn x rfl rfl rfl rfl (by omega) hc fun v s₁ k₁ rv => ?_
  obtain ⟨x₁, _⟩ := x.up k₁
  refine Sx.store (sl := 6) X.hn X.V x₁ rfl rv fun s₂ x₂ m₂ _ => ?_
  have x₂ : SI base h₀ [] [] env cxS (rho xs ys i j (some (.int c)) oa) ad (mus ms us) s₂.heap := x₂
  have m₂' := (keeps_same k₁).trans m₂
  refine wpAny_execs_cons (wpAny_Assign_Name ?_)
  rcases Nat.lt_or_ge j ys.length with hj | hj
  rotate_left
  · refine idx_out (sl := 1) (sk := 3) (k := j) X.hn (.inl X.hh) x₂ rfl rfl rfl rfl (by have := g.hj; omega) hj fun s' e cv k n r z => ?_
    exact hE _ _ _ _ _ _ ⟨e, _, _, rfl, (x₂.up k).1, m₂'.trans (keeps_same k), .inl ⟨cv, XR.of x₂ n r⟩⟩ (g.en (.inr hj))
  have hd := List.getElem?_eq_getElem hj
  generalize ys[j] = d at hd
  refine idx_in (sl := 1) (sk := 3) (k := j) X.hn x₂ rfl rfl rfl rfl (by omega) hd fun v s₃ k₃ rv => ?_
  obtain ⟨x₃, _⟩ := x₂.up k₃
  refine Sx.store (sl := 7) X.hn X.V x₃ rfl rv fun s₄ x₄ m₄ _ => ?_
  have x₄ : SI base h₀ [] [] env cxS (rho xs ys i j (some (.int c)) (some (.int d))) ad (mus ms us) s₄.heap := x₄
  have m₄' := (m₂'.trans (keeps_same k₃)).trans m₄
  have nil : ∀ {s'}, Q .next s' → wpAny (model pg w) A (execs [] env) Q E s' := fun q => wpAny_execs_nil q
  refine wpAny_execs_cons (wpAny_If (cmp_names (μ := mus ms us) (sy := 6) (sz := 7) (c := c) (d := d) (r := decide (c < d)) X.hn X.hu x₄ rfl rfl rfl rfl rfl rfl fun s₅ x₅ m₅ => ?_))
  have m₅' := m₄'.trans m₅
  by_cases h1 : c < d
  · rw [show decide (c < d) = true from decide_eq_true h1]
    simp -iota only [if_true]
    refine lt_case X hc hs hl (by omega) hline x₅ (fun s' q => nil (hQ _ _ _ _ _ (q.after m₅') (g.lt hc hd h1))) fun hge v s' q => ?_
    exact hE _ _ _ _ _ _ (q.after m₅') ((g.lt hc hd h1).en (.inl hge))
  rw [show decide (c < d) = false from decide_eq_false h1]
  simp -iota only [Bool.false_eq_true, if_false]
  refine wpAny_execs_cons (wpAny_If (cmp_names (μ := mus ms us) (sy := 6) (sz := 7) (c := c) (d := d) (r := decide (d < c)) X.hn X.hu x₅ rfl rfl rfl rfl rfl rfl fun s₆ x₆ m₆ => ?_))
  have m₆' := m₅'.trans m₆
  by_cases h2 : d < c
  · rw [show decide (d < c) = true from decide_eq_true h2]
    simp -iota only [if_true]
    refine gt_case X hd hs' hl' (by omega) hline' x₆ (fun s' q => wpAny_execs_nil (wpAny_execs_nil (hQ _ _ _ _ _ (q.after m₆') (g.gt hc hd h2)))) fun hge v s' q => ?_
    exact hE _ _ _ _ _ _ (q.after m₆') ((g.gt hc hd h2).en (.inr hge))
  rw [show decide (d < c) = false from decide_eq_false h2]
  simp -iota only [Bool.false_eq_true, if_false]
  refine eq_case X hc hd hs hl hs' hl' x₆ (fun s' q => wpAny_execs_nil (wpAny_execs_nil (hQ _ _ _ _ _ (q.after m₆') (g.eq hc hd h1 h2)))) fun hge v s' q => ?_
  exact hE _ _ _ _ _ _ (q.after m₆') ((g.eq hc hd h1 h2).en hge)
end
end Mine
end
section
namespace Mine
section
variable {w : World} {base h₀ : Heap} {F : Nat → List D → Option D} {n : Nat} {A : Around} {ad : Ad} {env : Env} {s : Shared} {E : Value → Shared → Prop} {xs ys : List Int} {Q : Flow → Shared → Prop}
theorem sld_loop {k : Nat} {ms us MS US : List Int} {a1 a2 a3 a4 a5 a6 a7 a8 a9 a10 b1 b2 b3 b4 b5 b6 b7 b8 c1 c2 c3 c4 c5 c6 c7 c8 c9 c10 c11 c12 c13 c14 d1 d2 d3 d4 d5 d6 d7 d8 d9 d10 d11 d12 d13 d14 e1 e2 e3 e4 e5 e6 e7 e8 e9 f1 f2 f3 f4 f5 f6 f7 f8 f9 f10 : Pos} {B1 B2 B3 B4 : List Stmt}
    {p1 p2 p3 p4 p5 p6 p7 p8 q1 q2 q3 q4 q5 q6 q7 q8 np bp hp tp wp cp : Pos} {kk : Nat} (gl : Glo base) (X : Fx A ad env base h₀) (hs : xs.Pairwise (· < ·)) (hl : xs.length < lim) (hs' : ys.Pairwise (· < ·)) (hl' : ys.length < lim)
    (g : Go xs ys MS US k 0 0 ms us) (hline : (c3.endLine == c4.line) = true) (hline' : (d3.endLine == d4.line) = true) (hline2 : (p6.endLine == p7.line) = true) (hline3 : (q6.endLine == q7.line) = true)
    {oe oa : Option D} (x : SI base h₀ [] [] env cxS (rho xs ys 0 0 oe oa) ad (mus ms us) s.heap) (hQ : ∀ s' i j oe oa, SI base h₀ [] [] env cxS (rho xs ys i j oe oa) ad (mus MS US) s'.heap → Same s s' → Q .next s') :
    wpAny (model pg w) A (exec (.While (.Constant (.bool true) kk cp) [.Try [asgS "e" "expected" "i" a1 a2 a3 a4 a5, asgS "a" "actual" "j" a6 a7 a8 a9 a10, .If (cmpN .Lt b1 b2 b3) [appS "missing" "e" c1 c2 c3 c4 c5, incS "i" c6 c7 c8, .While (cmpE "expected" "i" "e" c9 c10 c11 c12 c13) B1 [] c14]
      [.If (cmpN .Gt b4 b5 b6) [appS "unexpected" "a" d1 d2 d3 d4 d5, incS "j" d6 d7 d8, .While (cmpE "actual" "j" "a" d9 d10 d11 d12 d13) B2 [] d14]
        [incS "i" e1 e2 e3, .Try [.While (cmpE "expected" "i" "e" e4 e5 e6 e7 e8) B3 [] e9] [] [] [incS "j" f1 f2 f3, .While (cmpE "actual" "j" "a" f4 f5 f6 f7 f8) B4 [] f9] f10] b7] b8]
      [.ExceptHandler (some (.Name "IndexError" np)) none [extS "missing" "expected" "i" p1 p2 p3 p4 p5 p6 p7 p8, extS "unexpected" "actual" "j" q1 q2 q3 q4 q5 q6 q7 q8, .Break bp] hp] [] [] tp] [] wp) env) Q E s := by
  refine wpAny_While (codeAny_whileLoop (fun k s' => ∃ i j ms us oe oa, SI base h₀ [] [] env cxS (rho xs ys i j oe oa) ad (mus ms us) s'.heap ∧ Same s s' ∧ Go xs ys MS US k i j ms us) ?_ k ⟨0, 0, ms, us, oe, oa, x, Same.refl _, g⟩)
  rintro k s₁ ⟨i, j, ms, us, oe, oa, x₁, m₁, g₁⟩
  cases k with
  | zero => exact absurd (Nat.lt_of_lt_of_le g₁.hk (Nat.le_trans (Nat.le_of_eq (Nat.zero_add _)) (Nat.add_le_add g₁.hi g₁.hj))) (Nat.lt_irrefl _)
  | succ k =>
  refine isTrue_plain (wpAny_pure (wpAny_truthy_bool ?_)) rfl
  simp only [if_true]
  refine wpAny_execs_cons (wpAny_Try_except ?_)
  refine try_body X hs hl hs' hl' g₁ hline hline' x₁ (fun s₂ i j ms us q g₂ => wpAny_execs_nil (wpAny_execs_nil ?_)) fun v s₂ i j ms us q en => ?_
  · obtain ⟨_, oe, oa, x₂, m₂⟩ := q
    exact ⟨k, Nat.lt_succ_self _, i, j, ms, us, oe, oa, x₂, m₁.trans m₂, g₂⟩
  · exact clause gl X hl hl' en hline2 hline3 q fun s₃ oe oa x₃ m₃ => hQ _ _ _ _ _ x₃ (m₁.trans m₃)
theorem gInts_of : ∀ {ds : List D} {xs : List Int}, gInts ds = some xs → ds = xs.map .int
  | [], xs, e => by simp only [gInts, qmapO0, qmapO1, Option.some.injEq] at e; subst e; rfl
  | d :: ds, xs, e => by
    simp only [gInts, qmapO0, qmapO1] at e
    split at e
    · cases e
    · split at e
      · cases e
      · rename_i h1 _ _ h2
        injection e with e; subst e
        cases d <;> simp only [intD, Option.some.injEq, reduceCtorEq] at h1
        subst h1
        rw [gInts_of h2]; rfl
noncomputable def rising : List Int → Bool
  | x :: y :: r => decide (x < y) && rising (y :: r)
  | _ => true
theorem qrising0 {x y : Int} {r : List Int} : rising (x :: y :: r) = (decide (x < y) && rising (y :: r)) := rfl
theorem rising_pw : ∀ {l : List Int}, rising l = true → l.Pairwise (· < ·)
  | [], _ => .nil
  | [x], _ => by simp
  | x :: y :: r, h => by
    simp only [qrising0, Bool.and_eq_true, decide_eq_true_eq] at h
    have ih := rising_pw h.2
    refine List.pairwise_cons.mpr ⟨fun z m => ?_, ih⟩
    rcases List.mem_cons.mp m with rfl | m
    · exact h.1
    · exact Int.lt_trans h.1 ((List.pairwise_cons.mp ih).1 z m)
noncomputable def sldD : List D → Option D
  | [.list a, .list b] => match gInts a, gInts b with
    | some p, some q => if rising p && rising q && decide (p.length < lim) && decide (q.length < lim) then some (.tup [ofI (sld p q).1, ofI (sld p q).2]) else none
    | _, _ => none
  | _ => none
theorem sld_ok {a : Addr} {o : Obj} {fd : FuncData} {sc : Scope} {a1 a2 a3 a4 a5 a6 a7 a8 a9 a10 b1 b2 b3 b4 b5 b6 b7 b8 c1 c2 c3 c4 c5 c6 c7 c8 c9 c10 c11 c12 c13 c14 d1 d2 d3 d4 d5 d6 d7 d8 d9 d10 d11 d12 d13 d14 e1 e2 e3 e4 e5 e6 e7 e8 e9 f1 f2 f3 f4 f5 f6 f7 f8 f9 f10 : Pos} {B1 B2 B3 B4 : List Stmt}
    {p1 p2 p3 p4 p5 p6 p7 p8 q1 q2 q3 q4 q5 q6 q7 q8 np bp hp tp wp cp i1 i2 i3 i4 m1 m2 m3 u1 u2 u3 r1 r2 r3 r4 : Pos} {kk k0 : Nat} (W : Wd w base F n) (hlim : base.NoLimit) (h1 : base.get? a = some o) (h2 : o.data = .func fd) (hn : sc.names = namesS) (h4 : scOk sc cxS ["expected", "actual"] = true)
    (hline : (c3.endLine == c4.line) = true) (hline' : (d3.endLine == d4.line) = true) (hline2 : (p6.endLine == p7.line) = true) (hline3 : (q6.endLine == q7.line) = true)
    (h3 : FdOk base fd sc [.Assign [.Name "i" i1, .Name "j" i2] (.Constant (.int 0) k0 i3) i4, .Assign [.Name "missing" m1] (.List [] m2) m3, .Assign [.Name "unexpected" u1] (.List [] u2) u3,
      .While (.Constant (.bool true) kk cp) [.Try [asgS "e" "expected" "i" a1 a2 a3 a4 a5, asgS "a" "actual" "j" a6 a7 a8 a9 a10, .If (cmpN .Lt b1 b2 b3) [appS "missing" "e" c1 c2 c3 c4 c5, incS "i" c6 c7 c8, .While (cmpE "expected" "i" "e" c9 c10 c11 c12 c13) B1 [] c14]
      [.If (cmpN .Gt b4 b5 b6) [appS "unexpected" "a" d1 d2 d3 d4 d5, incS "j" d6 d7 d8, .While (cmpE "actual" "j" "a" d9 d10 d11 d12 d13) B2 [] d14]
        [incS "i" e1 e2 e3, .Try [.While (cmpE "expected" "i" "e" e4 e5 e6 e7 e8) B3 [] e9] [] [] [incS "j" f1 f2 f3, .While (cmpE "actual" "j" "a" f4 f5 f6 f7 f8) B4 [] f9] f10] b7] b8]
      [.ExceptHandler (some (.Name "IndexError" np)) none [extS "missing" "expected" "i" p1 p2 p3 p4 p5 p6 p7 p8, extS "unexpected" "actual" "j" q1 q2 q3 q4 q5 q6 q7 q8, .Break bp] hp] [] [] tp] [] wp,
      .Return (some (.Tuple [.Name "missing" r1, .Name "unexpected" r2] 0 r3)) r4] ["expected", "actual"] []) : FnOK w base (n + 2) a sldD := by
  intro A s ad vs ds d hA hfr hff hk had rs hf
  unfold sldD at hf
  split at hf
  rotate_left
  · cases hf
  rename_i da db
  split at hf
  rotate_left
  · cases hf
  rename_i p q ga gb
  split at hf
  rotate_left
  · cases hf
  rename_i hc
  simp only [Bool.and_eq_true, decide_eq_true_eq] at hc
  obtain ⟨⟨⟨hp, hq⟩, hlp⟩, hlq⟩ := hc
  injection hf with hf; subst hf
  rw [gInts_of ga, gInts_of gb] at rs
  have sub1 : ∀ a, a ∈ (⟨[], ⟨ad.all, ad.av.fs⟩⟩ : Ad).all → a ∈ ad.all := fun a q => by simpa [Ad.all] using q
  have noi : ∀ l : List Int, noMls (l.map .int) = true := fun l => by induction l with | nil => rfl | cons x r ih => simpa [qnoMls0, qnoMls1, qnoMl0, qnoMl1, qnoMl2, qnoMl3, qnoMl4, qnoMl5, qnoMl6, qnoMl7] using ih
  have rs1 : Reps ⟨[], ⟨ad.all, ad.av.fs⟩⟩ s.heap [ofI p, ofI q] vs := reps_to (by simp [qnoMls0, qnoMls1, qnoMl0, qnoMl1, qnoMl2, qnoMl3, qnoMl4, qnoMl5, qnoMl6, qnoMl7, ofI, noi]) sub1 rs
  have hvl : vs.length = 2 := rs1.length
  have am : Amb base ⟨[], ⟨ad.all, ad.av.fs⟩⟩ [] s.heap := ⟨hk, fun x hx => (had x (sub1 x hx)).2, fun x hx => (had x (sub1 x hx)).1, fun i x ds e _ => by simp at e, List.nodup_nil, hff⟩
  refine wpAny_call (enter (ad := ⟨[], ⟨ad.all, ad.av.fs⟩⟩) (n := n) (w := w) (k := 6) (μ := []) (ms := []) (ds := [ofI p, ofI q]) hA W.glo.hi hlim h1 h2 h3 h4 hk (by simp [hvl]) hfr am rfl (fun _ m => nomatch m) (fun _ m => nomatch m) (by rw [List.append_nil]; exact rs1) fun env s₁ e1' hA' hfr' hfl V i sm => ?_)
  have hn' : env.scope.names = namesS := by rw [e1']; exact hn
  have i : SI base s.heap [] [] env cxS [some (ofI p), some (ofI q), none, none, none, none, none, none] (Ad.inn ⟨[], ⟨ad.all, ad.av.fs⟩⟩ env) [] s₁.heap := i
  refine wpAny_execs_cons (wpAny_Assign_two (wpAny_mkInt (wpAny_assign_Name (Sx.store (sl := 2) (d := .int 0) (s := { s₁ with toks := _ }) hn' V (i.up (keeps_tok s₁ _)).1 rfl rep_int fun s₂ i₂ m₂ _ => wpAny_assign_Name (Sx.store (sl := 3) (d := .int 0) hn' V i₂ rfl rep_int fun s₃ i₃ m₃ _ => ?_)))))
  have m₃' : Same s s₃ := (sm.trans (Same.trans (keeps_same (keeps_tok s₁ _)) m₂)).trans m₃
  have i₃ : SI base s.heap [] [] env cxS [some (ofI p), some (ofI q), some (.int 0), some (.int 0), none, none, none, none] (Ad.inn ⟨[], ⟨ad.all, ad.av.fs⟩⟩ env) [] s₃.heap := i₃
  refine wpAny_execs_cons (mono' (st_asgM (m := 2) (sl := 4) (px := .list []) (ds := []) W hA' hfr' V i₃ (slot_s hn' rfl) rfl rfl (fun q => nomatch q) rfl) fun f s₄ z₄ => ?_)
  obtain ⟨ad₄, av₄, i₄, fl₄, m₄, _⟩ := z₄
  cases f <;> first | exact fl₄.elim | skip
  have hfr₄ : (A.deeper env).frames = some ad₄.av.fs := by rw [av₄]; exact hfr'
  refine wpAny_execs_cons (mono' (st_asgM (m := 2) (sl := 5) (px := .list []) (ds := []) W hA' hfr₄ V i₄ (slot_s hn' rfl) rfl rfl (fun q => nomatch q) rfl) fun f s₅ z₅ => ?_)
  obtain ⟨ad₅, av₅, i₅, fl₅, m₅, _⟩ := z₅
  cases f <;> first | exact fl₅.elim | skip
  have av₅' : ad₅.av = (Ad.inn ⟨[], ⟨ad.all, ad.av.fs⟩⟩ env).av := av₅.trans av₄
  have i₅ : SI base s.heap [] [] env cxS (rho p q 0 0 none none) ad₅ (mus [] []) s₅.heap := i₅
  have X : Fx (A.deeper env) ad₅ env base s.heap := by
    refine ⟨hn', ?_, hA'.hh, ⟨ad.av.fs, ?_, by rw [av₅']; rfl⟩, hfl, V⟩
    · have := hA'.un; unfold cLine; lia
    · rw [hfr']; rfl
  have g : Go p q (sld p q).1 (sld p q).2 (p.length + q.length + 1) 0 0 [] [] := ⟨Nat.zero_le _, Nat.zero_le _, Nat.lt_succ_self _, rfl, rfl, Nat.zero_le _, Nat.zero_le _⟩
  refine wpAny_execs_cons (sld_loop W.glo X (rising_pw hp) hlp (rising_pw hq) hlq g hline hline' hline2 hline3 i₅ fun s₆ i' j' oe oa i₆ m₆ => ?_)
  have hfr₆ : (A.deeper env).frames = some ad₅.av.fs := by rw [av₅']; exact hfr'
  refine wpAny_execs_cons (mono' (st_ret (m := 6) (pe := .tup [.var 4, .var 5]) (d := .tup [.ml 0, .ml 1]) W hA' hfr₆ i₆ ?_ rfl) fun f s₇ z₇ => ?_)
  · rw [hn']; rfl
  obtain ⟨ad₇, av₇, i₇, fl₇, m₇, _⟩ := z₇
  obtain ⟨v, rfl, rv⟩ := flw_ret fl₇
  have kp : Keeps s s₇ := same_keeps ((((m₃'.trans m₄).trans m₅).trans m₆).trans m₇) i₇.kb.kept
  refine ⟨kp, ?_⟩
  obtain ⟨t, us, rfl, nt, pt, rr⟩ := of_tup rv
  have sb : ∀ x, x ∈ ad.all → x ∈ ad₇.all := fun x hx => List.mem_append_right _ (by rw [av₇, av₅']; exact hx)
  have old : ∀ b, b ∈ ad₇.own → b ∉ ad.all := fun b hb hm => by
    rcases i₇.own b hb with z | z
    · obtain ⟨_, o, e, _⟩ := had b hm
      rw [z] at e; cases e
    · cases z
  simp only [qReps0, qReps1] at rr
  obtain ⟨v1, _, rfl, r1, v2, _, rfl, r2, rfl⟩ := rr
  simp only [qRep0, qRep1, qRep2, qRep3, qRep4, qRep5, qRep6, qRep7] at r1 r2
  obtain ⟨b1, rfl, g1⟩ := r1
  obtain ⟨b2, rfl, g2⟩ := r2
  obtain ⟨us1, pl1, ru1⟩ := i₇.am.mu 0 b1 _ g1 rfl
  obtain ⟨us2, pl2, ru2⟩ := i₇.am.mu 1 b2 _ g2 rfl
  refine rep_tup (fun hm => nt (sb _ hm)) pt (Reps.cons (rep_list (old _ (List.mem_of_getElem? g1)) pl1 (reps_to (noi _) sb ru1)) (Reps.cons (rep_list (old _ (List.mem_of_getElem? g2)) pl2 (reps_to (noi _) sb ru2)) Reps.nil))
end
end Mine
end
section
namespace Mine
noncomputable def b_unquote : List PS := [(.ret (some (.b1 .chr (.int2 (.slc (.var 0) (.lit (.int (1))) (.lit (.int (3))) (.lit .none)) (.lit (.int (16)))))))]
noncomputable def b_bodyencode : List PS := [(.ite (.cmp .Lt (.var 1) (.lit (.int (4)))) [.bad] []), (.ite (.not (.var 0)) [(.ret (some (.var 0)))] []), (.asg 0 (.trans (.var 0) (.glob 2))), (.asg 3 (.bin .Add (.lit (.str ⟨#[61]⟩)) (.var 2))), (.asg 4 (.bin .Sub (.var 1) (.lit (.int (1))))), (.asgM 5 (.list [])), (.bnd 6 5), (.for1 7 (.seq (.meth0 .splitlines (.var 0))) [(.asg 8 (.lit (.int (0)))), (.asg 9 (.bin .Sub (.bin .Sub (.b1 .len (.var 7)) (.lit (.int (1)))) (.var 1))), (.whl (.cmp .LtE (.var 8) (.var 9)) [(.asg 10 (.bin .Add (.var 8) (.var 4))), (.ite (.cmp .Eq (.idx (.var 7) (.bin .Sub (.var 10) (.lit (.int (2))))) (.lit (.str ⟨#[61]⟩))) [(.appB 6 (.slc (.var 7) (.var 8) (.bin .Sub (.var 10) (.lit (.int (1)))) (.lit .none))), (.asg 8 (.bin .Sub (.var 10) (.lit (.int (2)))))] [(.ite (.cmp .Eq (.idx (.var 7) (.bin .Sub (.var 10) (.lit (.int (1))))) (.lit (.str ⟨#[61]⟩))) [(.appB 6 (.slc (.var 7) (.var 8) (.var 10) (.lit .none))), (.asg 8 (.bin .Sub (.var 10) (.lit (.int (1)))))] [(.appB 6 (.bin .Add (.slc (.var 7) (.var 8) (.var 10) (.lit .none)) (.lit (.str ⟨#[61]⟩)))), (.asg 8 (.var 10))])])]), (.ite (.and [(.var 7), (.cmp .In (.idx (.var 7) (.neg (.lit (.int (1))))) (.lit (.str ⟨#[32, 9]⟩)))]) [(.asg 11 (.bin .Sub (.var 8) (.var 9))), (.ite (.cmp .GtE (.var 11) (.lit (.int (3)))) [(.asg 12 (.call 20 [(.idx (.var 7) (.neg (.lit (.int (1)))))]))] [(.ite (.cmp .Eq (.var 11) (.lit (.int (2)))) [(.asg 12 (.bin .Add (.idx (.var 7) (.neg (.lit (.int (1))))) (.var 3)))] [(.asg 12 (.bin .Add (.var 3) (.call 20 [(.idx (.var 7) (.neg (.lit (.int (1)))))])))])]), (.appB 6 (.bin .Add (.slc (.var 7) (.var 8) (.neg (.lit (.int (1)))) (.lit .none)) (.var 12)))] [(.appB 6 (.slc (.var 7) (.var 8) (.lit .none) (.lit .none)))])]), (.ite (.cmp .In (.idx (.var 0) (.neg (.lit (.int (1))))) (.glob 1)) [(.appB 6 (.lit (.str ⟨#[]⟩)))] []), (.ret (some (.meth1 .join (.var 2) (.var 5))))]
noncomputable def b_decode : List PS := [(.ite (.not (.var 0)) [(.ret (some (.var 0)))] []), (.asg 2 (.lit (.str ⟨#[]⟩))), (.for1 3 (.seq (.meth0 .splitlines (.var 0))) [(.asg 3 (.meth0 .rstrip (.var 3))), (.ite (.not (.var 3)) [(.aug 2 .Add (.var 1)), .cont] []), (.asg 4 (.lit (.int (0)))), (.asg 5 (.b1 .len (.var 3))), (.whl (.cmp .Lt (.var 4) (.var 5)) [(.asg 6 (.idx (.var 3) (.var 4))), (.ite (.cmp .NotEq (.var 6) (.lit (.str ⟨#[61]⟩))) [(.aug 2 .Add (.var 6)), (.aug 4 .Add (.lit (.int (1))))] [(.ite (.cmp .Eq (.bin .Add (.var 4) (.lit (.int (1)))) (.var 5)) [(.aug 4 .Add (.lit (.int (1)))), .cont] [(.ite (.and [(.cmp .Lt (.bin .Add (.var 4) (.lit (.int (2)))) (.var 5)), (.cmp .In (.idx (.var 3) (.bin .Add (.var 4) (.lit (.int (1))))) (.glob 0)), (.cmp .In (.idx (.var 3) (.bin .Add (.var 4) (.lit (.int (2))))) (.glob 0))]) [(.aug 2 .Add (.call 0 [(.slc (.var 3) (.var 4) (.bin .Add (.var 4) (.lit (.int (3)))) (.lit .none))])), (.aug 4 .Add (.lit (.int (3))))] [(.aug 2 .Add (.var 6)), (.aug 4 .Add (.lit (.int (1))))])])]), (.ite (.cmp .Eq (.var 4) (.var 5)) [(.aug 2 .Add (.var 1))] [])])]), (.ite (.and [(.cmp .NotIn (.idx (.var 0) (.neg (.lit (.int (1))))) (.lit (.str ⟨#[13, 10]⟩))), (.meth1 .endswith (.var 2) (.var 1))]) [(.asg 2 (.slc (.var 2) (.lit .none) (.neg (.b1 .len (.var 1))) (.lit .none)))] []), (.ret (some (.var 2)))]
noncomputable def b_heappush : List PS := [(.app 0 (.var 1)), (.callM 2 0 [(.lit (.int (0))), (.bin .Sub (.b1 .len (.var 0)) (.lit (.int (1))))])]
noncomputable def b_heappop : List PS := [(.pop 1 0), (.ite (.var 0) [(.asg 2 (.idx (.var 0) (.lit (.int (0))))), (.setI 0 (.lit (.int (0))) (.var 1)), (.callM 3 0 [(.lit (.int (0)))]), (.ret (some (.var 2)))] []), (.ret (some (.var 1)))]
noncomputable def b_siftdown : List PS := [(.asg 3 (.idx (.var 0) (.var 2))), (.whl (.cmp .Gt (.var 2) (.var 1)) [(.asg 4 (.bin .RShift (.bin .Sub (.var 2) (.lit (.int (1)))) (.lit (.int (1))))), (.asg 5 (.idx (.var 0) (.var 4))), (.ite (.cmp .Lt (.var 3) (.var 5)) [(.setI 0 (.var 2) (.var 5)), (.asg 2 (.var 4)), .cont] []), .brk]), (.setI 0 (.var 2) (.var 3))]
noncomputable def b_siftup : List PS := [(.asg 2 (.b1 .len (.var 0))), (.asg 3 (.var 1)), (.asg 4 (.idx (.var 0) (.var 1))), (.asg 5 (.bin .Add (.bin .Mult (.lit (.int (2))) (.var 1)) (.lit (.int (1))))), (.whl (.cmp .Lt (.var 5) (.var 2)) [(.asg 6 (.bin .Add (.var 5) (.lit (.int (1))))), (.ite (.and [(.cmp .Lt (.var 6) (.var 2)), (.not (.cmp .Lt (.idx (.var 0) (.var 5)) (.idx (.var 0) (.var 6))))]) [(.asg 5 (.var 6))] []), (.setI 0 (.var 1) (.idx (.var 0) (.var 5))), (.asg 1 (.var 5)), (.asg 5 (.bin .Add (.bin .Mult (.lit (.int (2))) (.var 1)) (.lit (.int (1)))))]), (.setI 0 (.var 1) (.var 4)), (.callM 2 0 [(.var 3), (.var 1)])]
noncomputable def b_lawnumbers : List PS := [(.asg 1 (.list [(.lit (.int (1))), (.lit (.int (325))), (.lit (.int (0))), (.lit (.int (3))), (.lit (.int (538))), (.lit (.int (330))), (.lit (.int (145))), (.lit (.int (335))), (.lit (.int (340)))])), (.ret (some (.comp [true, true] 1 (.rng [(.lit (.int (9)))]) (.fin 0 [] (.bin .Add (.idx (.var 2) (.var 0)) (.b1 .sum (.slc (.var 1) (.var 0) (.lit .none) (.lit (.int (9))))))))))]
noncomputable def b_lawoctet : List PS := [(.asg 1 (.bin .FloorDiv (.var 0) (.lit (.int (5))))), (.ite (.cmp .Gt (.bin .Mod (.var 0) (.lit (.int (5)))) (.lit (.int (2)))) [(.ite (.cmp .Eq (.bin .Mod (.var 1) (.lit (.int (130)))) (.lit (.int (0)))) [(.ret (some (.lit (.int (61)))))] []), (.ret (some (.bin .Add (.lit (.int (126))) (.bin .Mod (.var 1) (.lit (.int (130)))))))] []), (.ite (.cmp .Eq (.bin .Mod (.var 1) (.lit (.int (95)))) (.lit (.int (29)))) [(.ret (some (.lit (.int (9)))))] []), (.ret (some (.bin .Add (.lit (.int (32))) (.bin .Mod (.var 1) (.lit (.int (95)))))))]
noncomputable def b_lawsign : List PS := [(.asg 1 (.lit (.str ⟨#[48, 49, 50, 51, 52, 53, 54, 55, 56, 57, 65, 66, 67, 68, 69, 70]⟩))), (.ite (.or [(.cmp .Eq (.var 0) (.lit (.int (61)))), (.cmp .Gt (.var 0) (.lit (.int (126))))]) [(.ret (some (.bin .Add (.bin .Add (.lit (.str ⟨#[61]⟩)) (.idx (.var 1) (.bin .FloorDiv (.var 0) (.lit (.int (16)))))) (.idx (.var 1) (.bin .Mod (.var 0) (.lit (.int (16))))))))] []), (.ret (some (.b1 .chr (.var 0))))]
noncomputable def b_lawbreaks : List PS := [(.asg 1 (.comp [false, false] 1 (.seq (.meth1 .split (.var 0) (.lit (.str ⟨#[10]⟩)))) (.fin 0 [] (.b1 .len (.call 2 [(.var 0)]))))), (.ret (some (.comp [false, true] 1 (.rng [(.lit (.int (1))), (.b1 .len (.var 1))]) (.fin 0 [] (.b1 .sum (.slc (.var 2) (.lit .none) (.var 0) (.lit .none)))))))]
noncomputable def b_lawfits : List PS := [(.for2 3 4 (.bin .Add (.list [(.lit (.int (0)))]) (.var 2)) (.bin .Add (.var 2) (.list [(.b1 .len (.var 0))])) [(.asg 5 (.var 1)), (.ite (.cmp .Lt (.var 4) (.b1 .len (.var 0))) [(.asg 5 (.bin .Sub (.var 1) (.lit (.int (1)))))] []), (.ite (.or [(.cmp .GtE (.var 3) (.var 4)), (.cmp .Gt (.b1 .sum (.slc (.var 0) (.var 3) (.var 4) (.lit .none))) (.var 5))]) [(.ret (some (.lit (.bool false))))] [])]), (.ret (some (.lit (.bool true))))]
noncomputable def b_lawnoted : List PS := [(.asgM 3 (.list [(.bin .Mult (.list [(.lit (.int (0)))]) (.b1 .len (.var 2)))])), (.asgM 4 (.list [])), (.whl (.var 3) [(.asgCM 5 1 3 []), (.ite (.and [(.var 4), (.cmp .Eq (.idx (.var 4) (.neg (.lit (.int (1))))) (.var 5))]) [.cont] []), (.app 4 (.var 5)), (.for1 6 (.rng [(.b1 .len (.var 5))]) [(.asg 7 (.bin .Add (.bin .Add (.slc (.var 5) (.lit .none) (.var 6) (.lit .none)) (.list [(.bin .Add (.idx (.var 5) (.var 6)) (.lit (.int (1))))])) (.slc (.var 5) (.bin .Add (.var 6) (.lit (.int (1)))) (.lit .none) (.lit .none)))), (.ite (.call 12 [(.var 0), (.var 1), (.call 14 [(.var 2), (.var 7)])]) [(.callM 0 3 [(.var 7)])] [])])]), (.ret (some (.var 4)))]
noncomputable def b_lawmoved : List PS := [(.ret (some (.comp [true, true] 1 (.rng [(.b1 .len (.var 0))]) (.fin 0 [] (.bin .Sub (.idx (.var 1) (.var 0)) (.idx (.var 2) (.var 0)))))))]
noncomputable def b_lawfewest : List PS := [(.asg 2 (.b1 .len (.var 0))), (.asgM 4 (.comp [false, false, false, false, false, false, false] 1 (.rng [(.var 2)]) (.fin 0 [] (.list [])))), (.for1 3 (.rng [(.bin .Sub (.var 2) (.lit (.int (1)))), (.neg (.lit (.int (1)))), (.neg (.lit (.int (1))))]) [(.ite (.cmp .LtE (.b1 .sum (.slc (.var 0) (.var 3) (.lit .none) (.lit .none))) (.var 1)) [(.setI 4 (.var 3) (.list [(.list [])]))] [(.asg 5 (.comp [true, true, false, true, false, false, false] 1 (.rng [(.bin .Add (.var 3) (.lit (.int (1)))), (.var 2)]) (.fin 0 [(.cmp .Lt (.b1 .sum (.slc (.var 1) (.var 4) (.var 0) (.lit .none))) (.var 2))] (.var 0)))), (.asg 6 (.b1 .min (.comp [false, false, false, false, true, false, false] 1 (.seq (.var 5)) (.fin 0 [] (.b1 .len (.idx (.idx (.var 5) (.var 0)) (.lit (.int (0))))))))), (.setI 4 (.var 3) (.comp [false, false, false, false, true, false, true] 2 (.seq (.var 5)) (.nest 0 [] (.seq (.idx (.var 6) (.var 0))) (.fin 1 [(.cmp .Eq (.b1 .len (.var 1)) (.var 8))] (.bin .Add (.list [(.var 0)]) (.var 1))))))])]), (.ret (some (.idx (.var 4) (.lit (.int (0))))))]
noncomputable def b_lawspelled : List PS := [(.asgM 2 (.list [])), (.for2 3 4 (.bin .Add (.list [(.lit (.int (0)))]) (.var 1)) (.bin .Add (.var 1) (.list [(.b1 .len (.var 0))])) [(.app 2 (.meth1 .join (.lit (.str ⟨#[]⟩)) (.comp [false, false, false, false, false] 1 (.seq (.slc (.var 0) (.var 3) (.var 4) (.lit .none))) (.fin 0 [] (.call 10 [(.var 0)])))))]), (.ret (some (.meth1 .join (.lit (.str ⟨#[61, 10]⟩)) (.var 2))))]
noncomputable def b_lawapart : List PS := [(.asg 2 (.comp [true, true, false] 1 (.rng [(.b1 .len (.var 0))]) (.fin 0 [(.cmp .NotEq (.idx (.var 1) (.var 0)) (.idx (.var 2) (.var 0)))] (.var 0)))), (.ret (some (.tup [(.comp [true, false, false] 1 (.seq (.var 2)) (.fin 0 [] (.idx (.var 1) (.var 0)))), (.comp [false, true, false] 1 (.seq (.var 2)) (.fin 0 [] (.idx (.var 2) (.var 0))))])))]
noncomputable def b_lawtold : List PS := [(.asg 4 (.var 2)), (.for1 5 (.seq (.var 3)) [(.ite (.cmp .NotEq (.call 2 [(.call 16 [(.var 0), (.var 5)])]) (.var 1)) [(.ret (some (.lit (.bool false))))] []), (.ite (.cmp .NotEq (.call 7 [(.var 2), (.var 5)]) (.call 17 [(.var 2), (.var 5)])) [(.ret (some (.lit (.bool false))))] []), (.ite (.cmp .NotEq (.call 7 [(.var 5), (.var 4)]) (.call 17 [(.var 5), (.var 4)])) [(.ret (some (.lit (.bool false))))] []), (.asg 4 (.var 5))]), (.ret (some (.lit (.bool true))))]
noncomputable def b_lawholds : List PS := [(.asg 2 (.comp [false, false, false, false, false, false, false, false, false] 1 (.seq (.var 1)) (.fin 0 [] (.b1 .len (.call 10 [(.var 0)]))))), (.asg 3 (.meth1 .join (.lit (.str ⟨#[]⟩)) (.comp [false, false, false, false, false, false, false, false, false] 1 (.seq (.var 1)) (.fin 0 [] (.b1 .chr (.var 0)))))), (.asg 4 (.call 1 [(.var 3), (.var 0)])), (.asg 5 (.call 11 [(.var 4)])), (.asg 6 (.call 15 [(.var 2), (.var 0)])), (.ite (.cmp .NotEq (.var 5) (.comp [false, false, false, false, false, false, true, false, false] 1 (.rng [(.b1 .len (.idx (.var 6) (.lit (.int (0)))))]) (.fin 0 [] (.b1 .max (.comp [true, false, false, false, false, false, false, false, false, false] 1 (.seq (.var 7)) (.fin 0 [] (.idx (.var 0) (.var 1)))))))) [(.ret (some (.lit (.bool false))))] []), (.asg 7 (.call 13 [(.var 2), (.var 0), (.var 5)])), (.ite (.cmp .NotEq (.var 7) (.b1 .sorted (.comp [false, false, false, false, false, true, false, false, false] 1 (.seq (.var 6)) (.fin 0 [] (.call 14 [(.var 6), (.var 0)]))))) [(.ret (some (.lit (.bool false))))] []), (.asg 8 (.comp [false, false, false, false, false, true, false, false, false] 1 (.seq (.var 7)) (.fin 0 [] (.call 14 [(.var 6), (.var 0)])))), (.ret (some (.and [(.cmp .Eq (.var 4) (.call 16 [(.var 1), (.var 5)])), (.call 18 [(.var 1), (.var 3), (.var 5), (.var 8)]), (.cmp .Eq (.var 8) (.comp [false, false, false, false, false, true, false, false, false] 1 (.seq (.var 7)) (.fin 0 [] (.call 14 [(.var 6), (.var 0)])))), (.cmp .Eq (.var 5) (.comp [false, false, false, false, false, false, true, false, false] 1 (.rng [(.b1 .len (.idx (.var 6) (.lit (.int (0)))))]) (.fin 0 [] (.b1 .max (.comp [true, false, false, false, false, false, false, false, false, false] 1 (.seq (.var 7)) (.fin 0 [] (.idx (.var 0) (.var 1))))))))])))]
noncomputable def b_law : List PS := [(.asg 1 (.call 8 [(.var 0)])), (.ret (some (.call 19 [(.bin .Add (.lit (.int (4))) (.bin .Mod (.idx (.var 1) (.lit (.int (0)))) (.lit (.int (4))))), (.bin .Add (.comp [false, false] 1 (.seq (.slc (.var 1) (.lit (.int (1))) (.lit .none) (.lit .none))) (.fin 0 [] (.call 9 [(.var 0)]))) (.list [(.lit (.int (46)))]))])))]
end Mine
end
section
namespace Mine
section
variable (F : Nat → List D → Option D) (MF : Nat → List D → List D → Option (List D × D))
noncomputable def RS (ps : PS) (ρ : Sto) (μ : Mus) (r : Out × Sto × Mus) : Prop := ∃ n, ∀ m, exS F MF (n + m) ps ρ μ = some r
noncomputable def RL (ps : List PS) (ρ : Sto) (μ : Mus) (r : Out × Sto × Mus) : Prop := ∃ n, ∀ m, exL F MF (n + m) ps ρ μ = some r
noncomputable def RF (sl : Nat) (b : List PS) (xs : List D) (ρ : Sto) (μ : Mus) (r : Out × Sto × Mus) : Prop := ∃ n, ∀ m, exF F MF (n + m) sl b xs ρ μ = some r
noncomputable def RZ (s1 s2 : Nat) (b : List PS) (xs : List (Int × Int)) (ρ : Sto) (μ : Mus) (r : Out × Sto × Mus) : Prop := ∃ n, ∀ m, exZ F MF (n + m) s1 s2 b xs ρ μ = some r
end
noncomputable def Out.isNext : Out → Bool
  | .next => true
  | _ => false
noncomputable def Out.goes : Out → Bool
  | .next => true
  | .cont => true
  | _ => false
section
variable {F : Nat → List D → Option D} {MF : Nat → List D → List D → Option (List D × D)} {ρ ρ' : Sto} {μ μ' : Mus} {r : Out × Sto × Mus} {d : D} {e c : PX} {ps b : List PS} {p : PS} {sl l k : Nat} {o : Out}
theorem RL.nil : RL F MF [] ρ μ (.next, ρ, μ) := ⟨1, fun m => by rw [Nat.add_comm]; rfl⟩
theorem RL.cons (h : RS F MF p ρ μ (.next, ρ', μ')) (k : RL F MF ps ρ' μ' r) : RL F MF (p :: ps) ρ μ r := by
  obtain ⟨n, h⟩ := h
  obtain ⟨n', k⟩ := k
  refine ⟨n + n' + 1, fun m => ?_⟩
  rw [show n + n' + 1 + m = (n + (n' + m)) + 1 by omega]
  show (match exS F MF (n + (n' + m)) p ρ μ with | none => none | some (.next, ρ', μ') => exL F MF (n + (n' + m)) ps ρ' μ' | some x => some x) = _
  rw [h]
  show exL F MF (n + (n' + m)) ps ρ' μ' = _
  rw [show n + (n' + m) = n' + (n + m) by omega]
  exact k _
theorem RL.out (h : RS F MF p ρ μ (o, ρ', μ')) (ho : o.isNext = false) : RL F MF (p :: ps) ρ μ (o, ρ', μ') := by
  obtain ⟨n, h⟩ := h
  refine ⟨n + 1, fun m => ?_⟩
  rw [show n + 1 + m = (n + m) + 1 by omega]
  show (match exS F MF (n + m) p ρ μ with | none => none | some (.next, ρ', μ') => exL F MF (n + m) ps ρ' μ' | some x => some x) = _
  rw [h]
  cases o <;> first | rfl | cases ho
theorem RS.of (h : ∀ m, exS F MF (m + 1) p ρ μ = some r) : RS F MF p ρ μ r := ⟨1, fun m => by rw [Nat.add_comm]; exact h m⟩
theorem RS.ret (h : ev F μ ρ e = some d) : RS F MF (.ret (some e)) ρ μ (.ret d, ρ, μ) := .of fun m => bs h
theorem RS.asg (h : ev F μ ρ e = some d) : RS F MF (.asg sl e) ρ μ (.next, ρ.set sl (some d), μ) := .of fun m => bs h
theorem RS.asgM {ds : List D} (h : ev F μ ρ e = some (.list ds)) : RS F MF (.asgM sl e) ρ μ (.next, ρ.set sl (some (.ml μ.length)), μ ++ [ds]) := .of fun m => bs h
theorem RS.aug {op : Operator} {x y : D} (h0 : ρ[sl]? = some (some x)) (h : ev F μ ρ e = some y) (h2 : augD op x y = some d) : RS F MF (.aug sl op e) ρ μ (.next, ρ.set sl (some d), μ) := .of fun m => (bs h0).trans ((bs h).trans (bs h2))
theorem RS.setI {i : PX} {j : Int} {ds : List D} (h : ev F μ ρ e = some d) (hk : mlOf ρ l = some k) (hi : ev F μ ρ i = some (.int j)) (hd : μ[k]? = some ds) (hc : (0 ≤ j && j < ds.length && ds.length ≤ lim) = true) :
    RS F MF (.setI l i e) ρ μ (.next, ρ, μ.set k (ds.set j.toNat d)) := .of fun m => (bs h).trans ((bs hk).trans ((bs hi).trans ((bs hd).trans (if_pos hc))))
theorem RS.app {ds : List D} (hk : mlOf ρ l = some k) (h : ev F μ ρ e = some d) (hd : μ[k]? = some ds) (hc : ds.length ≤ lim) : RS F MF (.app l e) ρ μ (.next, ρ, μ.set k (ds ++ [d])) := .of fun m => (bs hk).trans ((bs h).trans ((bs hd).trans (if_pos hc)))
theorem RS.appB {ds : List D} (hk : ρ[l]? = some (some (.bm k))) (h : ev F μ ρ e = some d) (hd : μ[k]? = some ds) (hc : ds.length ≤ lim) : RS F MF (.appB l e) ρ μ (.next, ρ, μ.set k (ds ++ [d])) := .of fun m => (bs (by unfold bmOf; rw [hk])).trans ((bs h).trans ((bs hd).trans (if_pos hc)))
theorem RS.bnd (hk : mlOf ρ l = some k) : RS F MF (.bnd sl l) ρ μ (.next, ρ.set sl (some (.bm k)), μ) := .of fun m => bs hk
theorem RS.pop {ds : List D} (hk : mlOf ρ l = some k) (hd : μ[k]? = some ds) (hl : ds.getLast? = some d) (hc : ds.length ≤ lim) : RS F MF (.pop sl l) ρ μ (.next, ρ.set sl (some d), μ.set k ds.dropLast) := .of fun m => (bs hk).trans ((bs hd).trans ((bs hl).trans (if_pos hc)))
theorem RS.callM {f : Nat} {as : List PX} {ds c c' : List D} (hk : mlOf ρ l = some k) (h : evL F μ ρ as = some ds) (hc : μ[k]? = some c) (hm : MF f c ds = some (c', .none)) : RS F MF (.callM f l as) ρ μ (.next, ρ, μ.set k c') := .of fun m => (bs hk).trans ((bs h).trans ((bs hc).trans (bs hm)))
theorem RS.asgCM {f : Nat} {as : List PX} {ds c c' : List D} (hk : mlOf ρ l = some k) (h : evL F μ ρ as = some ds) (hc : μ[k]? = some c) (hm : MF f c ds = some (c', d)) : RS F MF (.asgCM sl f l as) ρ μ (.next, ρ.set sl (some d), μ.set k c') := .of fun m => (bs hk).trans ((bs h).trans ((bs hc).trans (bs hm)))
theorem RS.brk : RS F MF .brk ρ μ (.brk, ρ, μ) := .of fun m => rfl
theorem RS.cont : RS F MF .cont ρ μ (.cont, ρ, μ) := .of fun m => rfl
theorem RS.ite {a b : List PS} {t : Bool} (h : ev F μ ρ c = some d) (ht : truthD μ d = some t) (k : RL F MF (if t then a else b) ρ μ r) : RS F MF (.ite c a b) ρ μ r := by
  obtain ⟨n, k⟩ := k
  refine ⟨n + 1, fun m => ?_⟩
  rw [show n + 1 + m = (n + m) + 1 by omega]
  exact (bs h).trans ((bs ht).trans (k m))
theorem RS.whl_no (h : ev F μ ρ c = some d) (ht : truthD μ d = some false) : RS F MF (.whl c b) ρ μ (.next, ρ, μ) := .of fun m => (bs h).trans (bs ht)
theorem RS.whl_go (h : ev F μ ρ c = some d) (ht : truthD μ d = some true) (k : RL F MF b ρ μ (o, ρ', μ')) (ho : o.goes = true) (k' : RS F MF (.whl c b) ρ' μ' r) : RS F MF (.whl c b) ρ μ r := by
  obtain ⟨n, k⟩ := k
  obtain ⟨n', k'⟩ := k'
  refine ⟨n + n' + 1, fun m => ?_⟩
  rw [show n + n' + 1 + m = (n + (n' + m)) + 1 by omega]
  have e1 := k (n' + m)
  have e2 := k' (n + m)
  rw [show n' + (n + m) = n + (n' + m) by omega] at e2
  cases o <;> first | (cases ho; done) | exact (bs h).trans ((bs ht).trans (by dsimp only; rw [e1]; exact e2))
theorem RS.whl_brk (h : ev F μ ρ c = some d) (ht : truthD μ d = some true) (k : RL F MF b ρ μ (.brk, ρ', μ')) : RS F MF (.whl c b) ρ μ (.next, ρ', μ') := by
  obtain ⟨n, k⟩ := k
  refine ⟨n + 1, fun m => ?_⟩
  rw [show n + 1 + m = (n + m) + 1 by omega]
  exact (bs h).trans ((bs ht).trans (by dsimp only; rw [k m]))
theorem RF.nil : RF F MF sl b [] ρ μ (.next, ρ, μ) := ⟨1, fun m => by rw [Nat.add_comm]; rfl⟩
theorem RF.go {x : D} {xs : List D} (k : RL F MF b (ρ.set sl (some x)) μ (o, ρ', μ')) (ho : o.goes = true) (k' : RF F MF sl b xs ρ' μ' r) : RF F MF sl b (x :: xs) ρ μ r := by
  obtain ⟨n, k⟩ := k
  obtain ⟨n', k'⟩ := k'
  refine ⟨n + n' + 1, fun m => ?_⟩
  rw [show n + n' + 1 + m = (n + (n' + m)) + 1 by omega]
  have e1 := k (n' + m)
  have e2 := k' (n + m)
  rw [show n' + (n + m) = n + (n' + m) by omega] at e2
  cases o <;> first | (cases ho; done) | (simp only [qexF0, e1, e2])
theorem RF.ret {x : D} {xs : List D} (k : RL F MF b (ρ.set sl (some x)) μ (.ret d, ρ', μ')) : RF F MF sl b (x :: xs) ρ μ (.ret d, ρ', μ') := by
  obtain ⟨n, k⟩ := k
  refine ⟨n + 1, fun m => ?_⟩
  rw [show n + 1 + m = (n + m) + 1 by omega]
  simp only [qexF0, k m]
theorem RS.for1 {it : PI} {xs : List D} (h : evI F μ ρ it = some xs) (hn : noMls xs = true) (k : RF F MF sl b xs ρ μ r) : RS F MF (.for1 sl it b) ρ μ r := by
  obtain ⟨n, k⟩ := k
  refine ⟨n + 1, fun m => ?_⟩
  rw [show n + 1 + m = (n + m) + 1 by omega]
  exact (bs h).trans ((if_pos hn).trans (k m))
variable {s1 s2 : Nat} {x y : Int} {zs : List (Int × Int)}
theorem RZ.nil : RZ F MF s1 s2 b [] ρ μ (.next, ρ, μ) := ⟨1, fun m => by rw [Nat.add_comm]; rfl⟩
theorem RZ.go (k : RL F MF b ((ρ.set s1 (some (.int x))).set s2 (some (.int y))) μ (o, ρ', μ')) (ho : o.goes = true) (k' : RZ F MF s1 s2 b zs ρ' μ' r) : RZ F MF s1 s2 b ((x, y) :: zs) ρ μ r := by
  obtain ⟨n, k⟩ := k
  obtain ⟨n', k'⟩ := k'
  refine ⟨n + n' + 1, fun m => ?_⟩
  rw [show n + n' + 1 + m = (n + (n' + m)) + 1 by omega]
  have e1 := k (n' + m)
  have e2 := k' (n + m)
  rw [show n' + (n + m) = n + (n' + m) by omega] at e2
  cases o <;> first | (cases ho; done) | (simp only [qexZ0, e1, e2])
theorem RZ.ret (k : RL F MF b ((ρ.set s1 (some (.int x))).set s2 (some (.int y))) μ (.ret d, ρ', μ')) : RZ F MF s1 s2 b ((x, y) :: zs) ρ μ (.ret d, ρ', μ') := by
  obtain ⟨n, k⟩ := k
  refine ⟨n + 1, fun m => ?_⟩
  rw [show n + 1 + m = (n + m) + 1 by omega]
  simp only [qexZ0, k m]
theorem RS.for2 {ex ey : PX} {xs ys : List D} {is js : List Int} (hx : ev F μ ρ ex = some (.list xs)) (hy : ev F μ ρ ey = some (.list ys)) (gx : gInts xs = some is) (gy : gInts ys = some js) (k : RZ F MF s1 s2 b (is.zip js) ρ μ r) : RS F MF (.for2 s1 s2 ex ey b) ρ μ r := by
  obtain ⟨n, k⟩ := k
  refine ⟨n + 1, fun m => ?_⟩
  rw [show n + 1 + m = (n + m) + 1 by omega]
  exact (bs hx).trans ((bs hy).trans ((bs gx).trans ((bs gy).trans (k m))))
structure Runs1 (F : Nat → List D → Option D) (MF : Nat → List D → List D → Option (List D × D)) (f : Fn) (ds : List D) (d : D) : Prop where
  ar : ds.length = f.ar
  nm : noMls ds = true
  run : ∃ d0 ρ' μ', RL F MF f.ps ((ds ++ f.dd).map some ++ List.replicate f.k none) [] (.ret d0, ρ', μ') ∧ frz μ' d0 = some d
theorem Runs1.runF {f : Fn} {ds : List D} (x : Runs1 F MF f ds d) : ∃ N, runF F MF N f ds = some d := by
  obtain ⟨h1, h2, d0, ρ', μ', ⟨n, h3⟩, h4⟩ := x
  refine ⟨n, ?_⟩
  have e := h3 0
  rw [Nat.add_zero] at e
  simp only [Mine.runF, h1, h2, beq_self_eq_true, Bool.and_self, if_true, e, Option.bind_some, outF, h4]
structure RunsM (F : Nat → List D → Option D) (MF : Nat → List D → List D → Option (List D × D)) (f : Fn) (c ds c' : List D) (d : D) : Prop where
  ar : ds.length + 1 = f.ar
  nm : noMls c = true ∧ noMls ds = true ∧ noMls c' = true ∧ noMl d = true
  run : ∃ o ρ', RL F MF f.ps ((D.ml 0 :: ds).map some ++ List.replicate f.k none) [c] (o, ρ', [c']) ∧ (o = .ret d ∨ (o = .next ∧ d = .none))
theorem RunsM.runM {f : Fn} {c ds c' : List D} (x : RunsM F MF f c ds c' d) : ∃ N, runM F MF N f c ds = some (c', d) := by
  obtain ⟨h1, ⟨h2, h3, h4, h5⟩, o, ρ', ⟨n, h6⟩, h7⟩ := x
  refine ⟨n, ?_⟩
  have e := h6 0
  rw [Nat.add_zero] at e
  rcases h7 with rfl | ⟨rfl, rfl⟩
  · simp only [Mine.runM, h1, h2, h3, h4, h5, beq_self_eq_true, Bool.and_self, if_true, e, Option.bind_some, outM, one1]
  · simp only [Mine.runM, h1, h2, h3, h4, beq_self_eq_true, Bool.and_self, if_true, e, Option.bind_some, outM, one1]
end
section
variable {w : World} {base : Heap} {F : Nat → List D → Option D} {MF : Nat → List D → List D → Option (List D × D)} {n : Nat}
theorem fnok_of {f : Fn} {a : Addr} {spec : List D → Option D} (W : Wd w base F n) (WM : WdM w base MF n) (hlim : base.NoLimit) (X : FnIs base f a) (h : ∀ ds d, spec ds = some d → Runs1 F MF f ds d) : FnOK w base (n + 2) a spec := by
  intro A s ad vs ds d hA hfr hff hk had rs hf
  obtain ⟨N, e⟩ := (h ds d hf).runF
  exact fn_ok (N := N) W WM hlim X A s ad vs ds d hA hfr hff hk had rs e
theorem mfnok_of {f : Fn} {a : Addr} {spec : List D → List D → Option (List D × D)} (W : Wd w base F n) (WM : WdM w base MF n) (hlim : base.NoLimit) (X : FnIs base f a) (hdd : f.dd = []) (h : ∀ c ds c' d, spec c ds = some (c', d) → RunsM F MF f c ds c' d) : MFnOK w base (n + 2) a spec := by
  intro A s ad a₀ cvs vs c ds c' d hA hfr hff hk had ha pl rc rs hf
  obtain ⟨N, e⟩ := (h c ds c' d hf).runM
  exact mfn_ok (N := N) W WM hlim X hdd A s ad a₀ cvs vs c ds c' d hA hfr hff hk had ha pl rc rs e
end
end Mine
end
section
namespace Mine
theorem gI (xs : List Int) : gInts (xs.map .int) = some xs := by
  unfold gInts
  induction xs with
  | nil => rfl
  | cons x r ih => simp only [List.map_cons, qmapO0, qmapO1, intD, ih]
theorem nmI (xs : List Int) : noMls (xs.map .int) = true := by
  induction xs with
  | nil => rfl
  | cons x r ih => simpa only [List.map_cons, qnoMls0, qnoMls1, qnoMl0, qnoMl1, qnoMl2, qnoMl3, qnoMl4, qnoMl5, qnoMl6, qnoMl7, Bool.true_and] using ih
theorem nm_ofI (xs : List Int) : noMl (ofI xs) = true := nmI xs
theorem nmL (xs : List (List Int)) : noMls (xs.map ofI) = true := by
  induction xs with
  | nil => rfl
  | cons x r ih => simp only [List.map_cons, qnoMls0, qnoMls1, nm_ofI, Bool.true_and]; exact ih
noncomputable def ofL (xs : List (List Int)) : D := .list (xs.map ofI)
section
variable {F : Nat → List D → Option D} {MF : Nat → List D → List D → Option (List D × D)} {ρ ρ' : Sto} {μ μ' : Mus} {r : Out × Sto × Mus} {d : D} {e c : PX} {ps b : List PS} {p : PS} {sl l k : Nat} {o : Out}
section
variable {a f g h : PX} {x y z u : D} {i : Nat} {es : List PX} {ds : List D}
theorem ev_var (h : ρ[i]? = some (some d)) : ev F μ ρ (.var i) = some d := bs h
theorem ev_lit : ev F μ ρ (.lit d) = some d := rfl
theorem ev_bin {op : Operator} (h1 : ev F μ ρ a = some x) (h2 : ev F μ ρ f = some y) (h : binD μ op x y = some d) : ev F μ ρ (.bin op a f) = some d := (bs h1).trans ((bs h2).trans h)
theorem ev_cmp {op : CmpOp} (h1 : ev F μ ρ a = some x) (h2 : ev F μ ρ f = some y) (h : cmpD μ op x y = some d) : ev F μ ρ (.cmp op a f) = some d := (bs h1).trans ((bs h2).trans h)
theorem ev_idx (h1 : ev F μ ρ a = some x) (h2 : ev F μ ρ f = some y) (h : idxD μ x y = some d) : ev F μ ρ (.idx a f) = some d := (bs h1).trans ((bs h2).trans h)
theorem ev_slc (h1 : ev F μ ρ a = some x) (h2 : ev F μ ρ f = some y) (h3 : ev F μ ρ g = some z) (h4 : ev F μ ρ e = some u) (h : slcD μ x y z u = some d) : ev F μ ρ (.slc a f g e) = some d := (bs h1).trans ((bs h2).trans ((bs h3).trans ((bs h4).trans h)))
theorem ev_b1 {q : B1} (h1 : ev F μ ρ a = some x) (h : b1D μ q x = some d) : ev F μ ρ (.b1 q a) = some d := (bs h1).trans h
theorem ev_not {t : Bool} (h1 : ev F μ ρ a = some x) (h : truthD μ x = some t) : ev F μ ρ (.not a) = some (.bool (!t)) := (bs h1).trans (congrArg (Option.map fun b => D.bool (!b)) h)
theorem ev_call {k : Nat} (h1 : evL F μ ρ es = some ds) (h : F k ds = some d) : ev F μ ρ (.call k es) = some d := (bs h1).trans h
theorem ev_meth1 {m : M1} (h1 : ev F μ ρ a = some x) (h2 : ev F μ ρ f = some y) (h : meth1D μ m x y = some d) : ev F μ ρ (.meth1 m a f) = some d := (bs h1).trans ((bs h2).trans h)
theorem ev_meth0 {m : M0} (h1 : ev F μ ρ a = some x) (h : meth0D m x = some d) : ev F μ ρ (.meth0 m a) = some d := (bs h1).trans h
theorem ev_trans (h1 : ev F μ ρ a = some x) (h2 : ev F μ ρ f = some y) (h : transD x y = some d) : ev F μ ρ (.trans a f) = some d := (bs h1).trans ((bs h2).trans h)
theorem ev_int2 (h1 : ev F μ ρ a = some x) (h2 : ev F μ ρ f = some y) (h : int2D x y = some d) : ev F μ ρ (.int2 a f) = some d := (bs h1).trans ((bs h2).trans h)
theorem ev_list (h1 : evL F μ ρ es = some ds) (h : ds.length ≤ lim) : ev F μ ρ (.list es) = some (.list ds) := (bs h1).trans (if_pos h)
theorem ev_tup (h1 : evL F μ ρ es = some ds) (h : ds.length ≤ lim) : ev F μ ρ (.tup es) = some (.tup ds) := (bs h1).trans (if_pos h)
theorem evL_nil : evL F μ ρ [] = some [] := rfl
theorem evL_cons (h1 : ev F μ ρ a = some x) (h2 : evL F μ ρ es = some ds) : evL F μ ρ (a :: es) = some (x :: ds) := (bs h1).trans (bs h2)
theorem or_yes (h1 : ev F μ ρ a = some (.bool true)) : ev F μ ρ (.or [a, f]) = some (.bool true) := by show evOr _ _ _ _ = _; simp only [qevOr0, qevOr1, h1, truthD]
theorem or_no (h1 : ev F μ ρ a = some (.bool false)) (h2 : ev F μ ρ f = some d) : ev F μ ρ (.or [a, f]) = some d := by show evOr _ _ _ _ = _; simp only [qevOr0, qevOr1, h1, h2, truthD]
theorem evI_rng (h1 : evL F μ ρ es = some ds) {xs : List D} (h : rangeD ds = some xs) : evI F μ ρ (.rng es) = some xs := (bs h1).trans h
theorem evI_seq (h1 : ev F μ ρ a = some (.list ds)) : evI F μ ρ (.seq a) = some ds := bs h1
end
theorem RS.iteP {P : Prop} [Decidable P] {a b : List PS} (h : ev F μ ρ c = some (.bool (decide P))) (k1 : P → RL F MF a ρ μ r) (k2 : ¬ P → RL F MF b ρ μ r) : RS F MF (.ite c a b) ρ μ r := by
  by_cases q : P
  · exact RS.ite (t := true) (h.trans (by rw [decide_eq_true q])) rfl (k1 q)
  · exact RS.ite (t := false) (h.trans (by rw [decide_eq_false q])) rfl (k2 q)
theorem idxI {xs : List Int} {i : Int} {c : Int} (h0 : 0 ≤ i) (hl : i ≤ lim) (h : xs[i.toNat]? = some c) : idxD μ (ofI xs) (.int i) = some (.int c) := by
  show (if 0 ≤ i && i ≤ lim then (lst μ (ofI xs)).bind (·[i.toNat]?) else _) = _
  rw [if_pos (by simp [h0, hl])]
  show (xs.map D.int)[i.toNat]? = _
  simp [h]
theorem collect_map {f : D → Option (List D)} {α : Type} {g : α → D} {q : α → D} : ∀ {xs : List α}, (∀ x ∈ xs, f (g x) = some [q x]) → collectM f (xs.map g) = some (xs.map q)
  | [], _ => rfl
  | x :: xs, h => by
    simp only [List.map_cons, qcollectM0, qcollectM1, h x (.head _), collect_map fun y m => h y (.tail _ m), List.singleton_append]
theorem evC_map {sl : Nat} {elt : PX} {α : Type} {g q : α → D} {xs : List α} (h : ∀ x ∈ xs, ev F μ (ρ.set sl (some (g x))) elt = some (q x)) : evC F μ ρ (.fin sl [] elt) (xs.map g) = some (xs.map q) := by
  simp only [qevC0, qevC1, qevT0, qevT1]
  exact collect_map fun x m => by simp only [h x m, Option.map_some]
theorem ev_comp {mask : List Bool} {it : PI} {c : PC} {xs zs : List D} (h1 : evI F μ ρ it = some xs) (h2 : evC F μ (List.replicate k none ++ maskR mask ρ) c xs = some zs) (h3 : zs.length ≤ lim) : ev F μ ρ (.comp mask k it c) = some (.list zs) := by
  exact (bs h1).trans ((bs h2).trans (if_pos h3))
theorem range_ev {a b : Int} (ha : -(lim : Int) ≤ a) (ha' : a ≤ lim) (hb : -(lim : Int) ≤ b) (hb' : b ≤ lim) : rangeD [.int a, .int b] = some ((List.range (b - a).toNat).map fun (i : Nat) => .int (a + i)) := by
  exact if_pos (c := (-(lim : Int) ≤ a && a ≤ lim && -(lim : Int) ≤ b && b ≤ lim) = true) (by simp [ha, ha', hb, hb'])
theorem range1_ev {b : Int} (hb : -(lim : Int) ≤ b) (hb' : b ≤ lim) : rangeD [.int b] = some ((List.range b.toNat).map fun (i : Nat) => .int i) := by
  exact if_pos (c := (-(lim : Int) ≤ b && b ≤ lim) = true) (by simp [hb, hb'])
noncomputable def octI (n : Int) : Int := if 2 < n.fmod 5 then (if (n.fdiv 5).fmod 130 = 0 then 61 else 126 + (n.fdiv 5).fmod 130) else if (n.fdiv 5).fmod 95 = 29 then 9 else 32 + (n.fdiv 5).fmod 95
noncomputable def f_octet : Fn := ⟨b_lawoctet, 1, 1, []⟩
theorem runs_octet (n : Int) : Runs1 F MF f_octet [.int n] (.int (octI n)) := by
  have key : ∃ ρ', RL F MF b_lawoctet [some (.int n), none] [] (.ret (.int (octI n)), ρ', []) := by
    refine ⟨[some (.int n), some (.int (n.fdiv 5))], RL.cons (RS.asg rfl) ?_⟩
    unfold octI
    by_cases h1 : 2 < n.fmod 5
    · rw [if_pos h1]
      refine RL.out (RS.iteP (P := 2 < n.fmod 5) rfl (fun _ => ?_) (fun h => absurd h1 h)) rfl
      by_cases h2 : (n.fdiv 5).fmod 130 = 0
      · rw [if_pos h2]
        exact RL.out (RS.ite (t := true) (d := .bool ((n.fdiv 5).fmod 130 == 0)) rfl (by rw [h2]; rfl) (RL.out (RS.ret rfl) rfl)) rfl
      · rw [if_neg h2]
        exact RL.cons (RS.ite (t := false) (d := .bool ((n.fdiv 5).fmod 130 == 0)) rfl (by rw [beq_false_of_ne h2]; rfl) RL.nil) (RL.out (RS.ret rfl) rfl)
    · rw [if_neg h1]
      refine RL.cons (RS.iteP (P := 2 < n.fmod 5) rfl (fun h => absurd h h1) (fun _ => RL.nil)) ?_
      by_cases h2 : (n.fdiv 5).fmod 95 = 29
      · rw [if_pos h2]
        exact RL.out (RS.ite (t := true) (d := .bool ((n.fdiv 5).fmod 95 == 29)) rfl (by rw [h2]; rfl) (RL.out (RS.ret rfl) rfl)) rfl
      · rw [if_neg h2]
        exact RL.cons (RS.ite (t := false) (d := .bool ((n.fdiv 5).fmod 95 == 29)) rfl (by rw [beq_false_of_ne h2]; rfl) RL.nil) (RL.out (RS.ret rfl) rfl)
  obtain ⟨ρ', key⟩ := key
  exact ⟨rfl, rfl, _, _, _, key, rfl⟩
noncomputable def wide (o : Nat) : Bool := o == 61 || decide (126 < o)
noncomputable def sgn (o : Nat) : List Nat := if wide o then [61, hxc (o / 16), hxc (o % 16)] else [o]
noncomputable def f_sign : Fn := ⟨b_lawsign, 1, 1, []⟩
theorem figs (n : Nat) (h : n < 16) : idxD μ (.str ⟨#[48, 49, 50, 51, 52, 53, 54, 55, 56, 57, 65, 66, 67, 68, 69, 70]⟩) (.int n) = some (.str ⟨#[hxc n]⟩) := by
  have : ∀ n : Fin 16, Txt.charAt ⟨#[48, 49, 50, 51, 52, 53, 54, 55, 56, 57, 65, 66, 67, 68, 69, 70]⟩ (n.val : Int) = some (hxc n.val) := by decide
  show (if -(lim : Int) ≤ (n : Int) && (n : Int) ≤ lim then (Txt.charAt _ (n : Int)).map fun c => D.str ⟨#[c]⟩ else none) = _
  rw [if_pos (by unfold lim; simp; omega), this ⟨n, h⟩]; rfl
theorem runs_sign (o : Nat) (ho : o < 256) : Runs1 F MF f_sign [.int o] (.str ⟨(sgn o).toArray⟩) := by
  have h1 : ((o : Int).fdiv 16) = ((o / 16 : Nat) : Int) := by rw [Int.fdiv_eq_ediv_of_nonneg _ (by decide)]; rfl
  have h2 : ((o : Int).fmod 16) = ((o % 16 : Nat) : Int) := by rw [Int.fmod_eq_emod_of_nonneg _ (by decide)]; rfl
  have f1 := figs (μ := []) (o / 16) (by omega)
  have f2 := figs (μ := []) (o % 16) (by omega)
  let ρ1 : Sto := [some (.int o), some (.str ⟨#[48, 49, 50, 51, 52, 53, 54, 55, 56, 57, 65, 66, 67, 68, 69, 70]⟩)]
  have e0 : ev F [] ρ1 (.var 0) = some (.int o) := ev_var rfl
  have e1 : ev F [] ρ1 (.var 1) = some (.str ⟨#[48, 49, 50, 51, 52, 53, 54, 55, 56, 57, 65, 66, 67, 68, 69, 70]⟩) := ev_var rfl
  have ec : ev F [] ρ1 (.or [(.cmp .Eq (.var 0) (.lit (.int (61)))), (.cmp .Gt (.var 0) (.lit (.int (126))))]) = some (.bool (wide o)) := by
    unfold wide
    by_cases h : o = 61
    · subst h; exact or_yes (ev_cmp e0 ev_lit rfl)
    · rw [beq_false_of_ne h, Bool.false_or]
      refine or_no (ev_cmp e0 ev_lit ?_) (ev_cmp e0 ev_lit ?_)
      · show some (D.bool ((o : Int) == 61)) = _
        rw [show ((o : Int) == 61) = false by simp; omega]
      · show some (D.bool (decide ((126 : Int) < o))) = _
        rw [decide_eq_decide.mpr (show (126 : Int) < o ↔ 126 < o by omega)]
  have key : RL F MF b_lawsign [some (.int o), none] [] (.ret (.str ⟨(sgn o).toArray⟩), ρ1, []) := by
    refine RL.cons (RS.asg rfl) ?_
    cases hw : wide o with
    | true =>
      have hs : D.str ⟨(sgn o).toArray⟩ = .str (⟨#[61]⟩ ++ ⟨#[hxc (o / 16)]⟩ ++ ⟨#[hxc (o % 16)]⟩) := by simp only [sgn, hw, if_true]; rfl
      rw [hs]
      exact RL.out (RS.ite (t := true) (ec.trans (by rw [hw])) rfl (RL.out (RS.ret (ev_bin (ev_bin ev_lit (ev_idx e1 (ev_bin e0 ev_lit (congrArg (fun x => some (D.int x)) h1)) f1) rfl) (ev_idx e1 (ev_bin e0 ev_lit (congrArg (fun x => some (D.int x)) h2)) f2) rfl)) rfl)) rfl
    | false =>
      refine RL.cons (RS.ite (t := false) (ec.trans (by rw [hw])) rfl RL.nil) (RL.out (RS.ret (ev_b1 e0 ?_)) rfl)
      show (if 0 ≤ (o : Int) && (o : Int) < 256 then some (D.str ⟨#[(o : Int).toNat]⟩) else none) = _
      rw [if_pos (by simp; omega)]
      simp only [sgn, hw, Bool.false_eq_true, if_false]
      rfl
  exact ⟨rfl, rfl, _, _, _, key, rfl⟩
end
end Mine
end
section
namespace Mine
section
variable {F : Nat → List D → Option D} {MF : Nat → List D → List D → Option (List D × D)} {ρ ρ' : Sto} {μ μ' : Mus} {r : Out × Sto × Mus} {d : D} {e c : PX} {ps b : List PS} {p : PS} {sl l k : Nat} {o : Out}
theorem frzI (xs : List Int) : frz μ (ofI xs) = some (ofI xs) := by
  show (if noMl (ofI xs) then some (ofI xs) else none) = _
  rw [if_pos (nm_ofI xs)]
theorem idxN {xs : List Int} {i : Nat} {c : Int} (hl : i ≤ lim) (h : xs[i]? = some c) : idxD μ (ofI xs) (.int (i : Int)) = some (.int c) := idxI (by omega) (by omega) (by simpa using h)
theorem sumI (xs : List Int) : b1D μ .sum (ofI xs) = some (.int xs.sum) := by
  show ((lst μ (ofI xs)).bind gInts).map (fun xs => D.int xs.sum) = _
  rw [show lst μ (ofI xs) = some (xs.map .int) from rfl, Option.bind_some, gI]; rfl
theorem lenI (xs : List Int) (h : xs.length ≤ lim) : b1D μ .len (ofI xs) = some (.int xs.length) := by
  show ((lst μ (ofI xs)).bind fun ds => if ds.length ≤ lim then some (D.int ds.length) else none) = _
  rw [show lst μ (ofI xs) = some (xs.map .int) from rfl, Option.bind_some, List.length_map, if_pos h]
theorem filterMap_int (is : List Nat) (xs : List Int) : is.filterMap ((xs.map D.int)[·]?) = (is.filterMap (xs[·]?)).map .int := by
  induction is with
  | nil => rfl
  | cons i r ih =>
    simp only [List.filterMap_cons, List.getElem?_map]
    cases xs[i]? with
    | none => simpa using ih
    | some c => simpa using ih
theorem slc9 {xs : List Int} {k : Int} (hl : xs.length ≤ lim) (h0 : 0 ≤ k) (h1 : k ≤ lim) : slcD μ (ofI xs) (.int k) .none (.int 9) = some (ofI ((everyI k xs.length).filterMap (xs[·]?))) := by
  show (if (xs.map D.int).length ≤ lim && 0 ≤ k && k ≤ lim then some (D.list ((everyI k (xs.map D.int).length).filterMap ((xs.map D.int)[·]?))) else none) = _
  rw [List.length_map, if_pos (by simp [hl, h0, h1]), filterMap_int]; rfl
noncomputable def cut (xs : List Int) (a b : Nat) : List Int := (xs.take b).drop a
theorem slcI {xs : List Int} {a b : Nat} (hl : xs.length ≤ lim) (ha : a ≤ lim) (hb : b ≤ lim) : slcD μ (ofI xs) (.int a) (.int b) .none = some (ofI (cut xs a b)) := by
  show (if (xs.map D.int).length ≤ lim && 0 ≤ (a : Int) && (a : Int) ≤ lim && 0 ≤ (b : Int) && (b : Int) ≤ lim then some (D.list (((xs.map D.int).take (b : Int).toNat).drop (a : Int).toNat)) else none) = _
  rw [List.length_map, if_pos (by simp [hl]; omega), Int.toNat_natCast, Int.toNat_natCast, ← List.map_take, ← List.map_drop]; rfl
theorem slcI0 {xs : List Int} {b : Nat} (hl : xs.length ≤ lim) (hb : b ≤ lim) : slcD μ (ofI xs) .none (.int b) .none = some (ofI (xs.take b)) := by
  show (if (xs.map D.int).length ≤ lim && 0 ≤ (0 : Int) && (0 : Int) ≤ lim && 0 ≤ (b : Int) && (b : Int) ≤ lim then some (D.list (((xs.map D.int).take (b : Int).toNat).drop (0 : Int).toNat)) else none) = _
  rw [List.length_map, if_pos (by simp [hl]; omega), Int.toNat_natCast, ← List.map_take]; rfl
theorem slcI1 {xs : List Int} {a : Nat} (hl : xs.length ≤ lim) (ha : a ≤ lim) : slcD μ (ofI xs) (.int a) .none .none = some (ofI (xs.drop a)) := by
  show (if (xs.map D.int).length ≤ lim && 0 ≤ (a : Int) && (a : Int) ≤ lim && 0 ≤ (0 : Int) && (0 : Int) ≤ lim then some (D.list (((xs.map D.int).take (xs.map D.int).length).drop (a : Int).toNat)) else none) = _
  rw [if_pos (by simp [hl]; omega), Int.toNat_natCast, List.take_length, ← List.map_drop]; rfl
theorem rngN {n : Nat} (h : n ≤ lim) : rangeD [.int n] = some ((List.range n).map fun (i : Nat) => .int i) := by
  rw [range1_ev (by omega) (by omega)]; rfl
noncomputable def starts : List Int := [1, 325, 0, 3, 538, 330, 145, 335, 340]
noncomputable def numI (xs : List Int) : List Int := (List.range 9).map fun (k : Nat) => starts.getD k 0 + ((everyI k xs.length).filterMap (xs[·]?)).sum
noncomputable def f_numbers : Fn := ⟨b_lawnumbers, 1, 1, []⟩
theorem runs_numbers (xs : List Int) (hl : xs.length ≤ lim) : Runs1 F MF f_numbers [ofI xs] (ofI (numI xs)) := by
  have key : RL F MF b_lawnumbers [some (ofI xs), none] [] (.ret (ofI (numI xs)), [some (ofI xs), some (ofI starts)], []) := by
    refine RL.cons (ρ' := [some (ofI xs), some (ofI starts)]) (RS.asg (d := ofI starts) rfl) (RL.out (RS.ret (ev_comp (evI_rng (evL_cons ev_lit evL_nil) (rngN (n := 9) (by decide))) (zs := (numI xs).map .int) ?_ (by simp [numI, lim]))) rfl)
    rw [show (numI xs).map D.int = (List.range 9).map fun (k : Nat) => D.int (starts.getD k 0 + ((everyI k xs.length).filterMap (xs[·]?)).sum) by rw [numI, List.map_map]; rfl]
    refine evC_map fun k hk => ?_
    have hk := List.mem_range.mp hk
    refine ev_bin (ev_idx (ev_var rfl) (ev_var rfl) (idxN (c := starts.getD k 0) (by unfold lim; omega) ?_)) (ev_b1 (ev_slc (ev_var rfl) (ev_var rfl) ev_lit ev_lit (slc9 hl (by omega) (by unfold lim; omega))) (sumI _)) rfl
    rw [List.getD_eq_getElem?_getD, List.getElem?_eq_getElem (show k < starts.length from hk)]; rfl
  exact ⟨rfl, by simp [qnoMls0, qnoMls1, nm_ofI], _, _, _, key, frzI _⟩
noncomputable def movI (a b : List Int) : List Int := List.zipWith (· - ·) a b
noncomputable def f_moved : Fn := ⟨b_lawmoved, 2, 0, []⟩
theorem movI_at {a b : List Int} (h : a.length ≤ b.length) : (movI a b).map D.int = (List.range a.length).map fun (k : Nat) => D.int (a.getD k 0 - b.getD k 0) := by
  refine List.ext_getElem (by simp [movI]; omega) fun i h1 h2 => ?_
  have h3 : i < a.length := by simpa using h2
  simp [movI, h3, show i < b.length by omega]
theorem runs_moved (a b : List Int) (hl : a.length ≤ lim) (h : a.length ≤ b.length) : Runs1 F MF f_moved [ofI a, ofI b] (ofI (movI a b)) := by
  have key : RL F MF b_lawmoved [some (ofI a), some (ofI b)] [] (.ret (ofI (movI a b)), [some (ofI a), some (ofI b)], []) := by
    refine RL.out (RS.ret (ev_comp (evI_rng (evL_cons (ev_b1 (ev_var rfl) (lenI a hl)) evL_nil) (rngN hl)) (zs := (movI a b).map .int) ?_ (by simp [movI]; omega))) rfl
    rw [movI_at h]
    refine evC_map fun k hk => ?_
    have hk := List.mem_range.mp hk
    refine ev_bin (ev_idx (ev_var rfl) (ev_var rfl) (idxN (c := a.getD k 0) (by omega) (by simp [hk]))) (ev_idx (ev_var rfl) (ev_var rfl) (idxN (c := b.getD k 0) (by omega) (by simp [show k < b.length by omega]))) rfl
  exact ⟨rfl, by simp [qnoMls0, qnoMls1, nm_ofI], _, _, _, key, frzI _⟩
end
end Mine
end
section
namespace Mine
section
variable {F : Nat → List D → Option D} {MF : Nat → List D → List D → Option (List D × D)} {ρ ρ' : Sto} {μ μ' : Mus} {r : Out × Sto × Mus} {d : D} {e c : PX} {ps b : List PS} {p : PS} {sl l k : Nat} {o : Out}
noncomputable def fitsP (ws : List Int) (w : Int) : List (Int × Int) → Bool
  | [] => true
  | (s, e) :: r => if e ≤ s then false else if (if e < ws.length then w - 1 else w) < (cut ws s.toNat e.toNat).sum then false else fitsP ws w r
noncomputable def fitsI (ws : List Int) (w : Int) (bs : List Int) : Bool := fitsP ws w ((0 :: bs).zip (bs ++ [(ws.length : Int)]))
noncomputable def f_fits : Fn := ⟨b_lawfits, 3, 3, []⟩
noncomputable def bodyFits : List PS := [(.asg 5 (.var 1)), (.ite (.cmp .Lt (.var 4) (.b1 .len (.var 0))) [(.asg 5 (.bin .Sub (.var 1) (.lit (.int (1)))))] []), (.ite (.or [(.cmp .GtE (.var 3) (.var 4)), (.cmp .Gt (.b1 .sum (.slc (.var 0) (.var 3) (.var 4) (.lit .none))) (.var 5))]) [(.ret (some (.lit (.bool false))))] [])]
theorem turn_fits {ws bs : List Int} {w s e : Int} {x y z : Option D} (hl : ws.length ≤ lim) (h0 : 0 ≤ s) (he : e ≤ lim) :
    RL F MF bodyFits [some (ofI ws), some (.int w), some (ofI bs), some (.int s), some (.int e), z] []
      ((if e ≤ s then .ret (.bool false) else if (if e < ws.length then w - 1 else w) < (cut ws s.toNat e.toNat).sum then .ret (.bool false) else .next), [some (ofI ws), some (.int w), some (ofI bs), some (.int s), some (.int e), some (.int (if e < ws.length then w - 1 else w))], []) := by
  refine RL.cons (RS.asg (ev_var rfl)) ?_
  refine RL.cons (μ' := []) (ρ' := [some (ofI ws), some (.int w), some (ofI bs), some (.int s), some (.int e), some (.int (if e < ws.length then w - 1 else w))]) (RS.iteP (P := e < (ws.length : Int)) (ev_cmp (ev_var rfl) (ev_b1 (ev_var rfl) (lenI ws hl)) rfl) (fun h => ?_) (fun h => ?_)) ?_
  · rw [if_pos h]; exact RL.cons (RS.asg (ev_bin (ev_var rfl) ev_lit rfl)) RL.nil
  · rw [if_neg h]; exact RL.nil
  by_cases h1 : e ≤ s
  · rw [if_pos h1]
    refine RL.out (RS.ite (t := true) (or_yes (ev_cmp (ev_var rfl) (ev_var rfl) ?_)) rfl (RL.out (RS.ret ev_lit) rfl)) rfl
    show some (D.bool (decide (e ≤ s))) = _
    rw [decide_eq_true h1]
  · rw [if_neg h1]
    have hs := slcI (μ := []) (xs := ws) (a := s.toNat) (b := e.toNat) hl (by omega) (by omega)
    rw [Int.toNat_of_nonneg h0, Int.toNat_of_nonneg (by omega)] at hs
    have ec := or_no (F := F) (μ := []) (ρ := [some (ofI ws), some (.int w), some (ofI bs), some (.int s), some (.int e), some (.int (if e < ws.length then w - 1 else w))]) (a := .cmp .GtE (.var 3) (.var 4)) (f := .cmp .Gt (.b1 .sum (.slc (.var 0) (.var 3) (.var 4) (.lit .none))) (.var 5))
      (ev_cmp (ev_var rfl) (ev_var rfl) (by show some (D.bool (decide (e ≤ s))) = _; rw [decide_eq_false h1])) (ev_cmp (ev_b1 (ev_slc (ev_var rfl) (ev_var rfl) (ev_var rfl) ev_lit hs) (sumI _)) (ev_var rfl) rfl)
    by_cases h2 : (if e < (ws.length : Int) then w - 1 else w) < (cut ws s.toNat e.toNat).sum
    · rw [if_pos h2]
      exact RL.out (RS.ite (t := true) (ec.trans (by rw [decide_eq_true h2])) rfl (RL.out (RS.ret ev_lit) rfl)) rfl
    · rw [if_neg h2]
      exact RL.cons (RS.ite (t := false) (ec.trans (by rw [decide_eq_false h2])) rfl RL.nil) RL.nil
theorem loop_fits {ws bs : List Int} {w : Int} (hl : ws.length ≤ lim) : ∀ (ps : List (Int × Int)) (x y z : Option D), (∀ q ∈ ps, q.2 ≤ lim) → (∀ q ∈ ps.head?, 0 ≤ q.1) → (∀ (i : Nat) q q', ps[i]? = some q → ps[i + 1]? = some q' → q'.1 = q.2) →
    ∃ ρ', RZ F MF 3 4 bodyFits ps [some (ofI ws), some (.int w), some (ofI bs), x, y, z] [] ((if fitsP ws w ps then .next else .ret (.bool false)), ρ', [])
  | [], x, y, z, _, _, _ => ⟨_, RZ.nil⟩
  | (s, e) :: r, x, y, z, h1, h2, h3 => by
    have t := turn_fits (F := F) (MF := MF) (ws := ws) (bs := bs) (w := w) (s := s) (e := e) (x := x) (y := y) (z := z) hl (h2 (s, e) rfl) (h1 _ (.head _))
    unfold fitsP
    by_cases q1 : e ≤ s
    · rw [if_pos q1] at t ⊢
      exact ⟨_, RZ.ret t⟩
    · rw [if_neg q1] at t ⊢
      by_cases q2 : (if e < (ws.length : Int) then w - 1 else w) < (cut ws s.toNat e.toNat).sum
      · rw [if_pos q2] at t ⊢
        exact ⟨_, RZ.ret t⟩
      · rw [if_neg q2] at t ⊢
        obtain ⟨ρ', k⟩ := loop_fits hl r (some (.int s)) (some (.int e)) (some (.int (if e < ws.length then w - 1 else w))) (fun q m => h1 q (.tail _ m)) (fun q m => by
          have := h3 0 (s, e) q rfl (by rw [List.head?_eq_getElem?] at m; simpa using m)
          have h0 := h2 (s, e) rfl
          simp only at h0
          omega) (fun i q q' e1 e2 => h3 (i + 1) q q' (by simpa using e1) (by simpa using e2))
        exact ⟨ρ', RZ.go t rfl k⟩
theorem runs_fits (ws bs : List Int) (w : Int) (hl : ws.length ≤ lim) (hb : bs.length < lim) (hbs : ∀ b ∈ bs, b ≤ lim) : Runs1 F MF f_fits [ofI ws, .int w, ofI bs] (.bool (fitsI ws w bs)) := by
  obtain ⟨ρ', k⟩ := loop_fits (F := F) (MF := MF) (ws := ws) (bs := bs) (w := w) hl ((0 :: bs).zip (bs ++ [(ws.length : Int)])) none none none (fun q m => by
      rcases List.mem_append.mp (List.of_mem_zip m).2 with q2 | q2
      · exact hbs _ q2
      · rw [List.mem_singleton.mp q2]; omega) (fun q m => by
      cases bs with
      | nil => simp at m; subst m; exact Int.le_refl 0
      | cons b r => simp at m; subst m; exact Int.le_refl 0) (fun i q q' e1 e2 => by
      rw [List.getElem?_zip_eq_some] at e1 e2
      obtain ⟨_, a2⟩ := e1
      obtain ⟨b1, b2⟩ := e2
      simp only [List.getElem?_cons_succ] at b1
      have hlt : i < bs.length := (List.getElem?_eq_some_iff.mp b1).1
      rw [List.getElem?_append_left hlt, b1] at a2
      injection a2)
  have e1 : ev F [] [some (ofI ws), some (.int w), some (ofI bs), none, none, none] (.bin .Add (.list [(.lit (.int (0)))]) (.var 2)) = some (ofI (0 :: bs)) :=
    ev_bin (ev_list (evL_cons ev_lit evL_nil) (by decide)) (ev_var rfl) (by show (if 1 + (bs.map D.int).length ≤ lim then some (D.list (_ ++ _)) else none) = _; rw [if_pos (by simp; omega)]; rfl)
  have e2 : ev F [] [some (ofI ws), some (.int w), some (ofI bs), none, none, none] (.bin .Add (.var 2) (.list [(.b1 .len (.var 0))])) = some (ofI (bs ++ [(ws.length : Int)])) :=
    ev_bin (ev_var rfl) (ev_list (evL_cons (ev_b1 (ev_var rfl) (lenI ws hl)) evL_nil) (by decide : 1 ≤ lim)) (by show (if (bs.map D.int).length + 1 ≤ lim then some (D.list (_ ++ _)) else none) = _; rw [if_pos (by simp; omega)]; simp [ofI])
  have l := RS.for2 e1 e2 (gI _) (gI _) k
  have key : RL F MF b_lawfits [some (ofI ws), some (.int w), some (ofI bs), none, none, none] [] (.ret (.bool (fitsI ws w bs)), ρ', []) := by
    have hf : fitsI ws w bs = fitsP ws w ((0 :: bs).zip (bs ++ [(ws.length : Int)])) := rfl
    rw [hf]
    cases hq : fitsP ws w ((0 :: bs).zip (bs ++ [(ws.length : Int)])) with
    | true => rw [hq] at l; exact RL.cons l (RL.out (RS.ret ev_lit) rfl)
    | false => rw [hq] at l; exact RL.out l rfl
  exact ⟨rfl, by simp [qnoMls0, qnoMls1, nm_ofI, qnoMl0, qnoMl1, qnoMl2, qnoMl3, qnoMl4, qnoMl5, qnoMl6, qnoMl7], _, _, _, key, rfl⟩
end
end Mine
end
section
namespace Mine
section
variable {F : Nat → List D → Option D} {MF : Nat → List D → List D → Option (List D × D)} {ρ ρ' : Sto} {μ μ' : Mus} {r : Out × Sto × Mus} {d : D} {e c : PX} {ps b : List PS} {p : PS} {sl l k : Nat} {o : Out}
noncomputable abbrev LI := List (List Int)
theorem idxM {h : LI} {i : Nat} {x : List Int} (hl : h.length ≤ lim) (hx : h[i]? = some x) : idxD [h.map ofI] (.ml 0) (.int (i : Int)) = some (ofI x) := by
  have hi := (List.getElem?_eq_some_iff.mp hx).1
  show (if 0 ≤ (i : Int) && (i : Int) ≤ lim then (lst [h.map ofI] (.ml 0)).bind (·[(i : Int).toNat]?) else _) = _
  rw [if_pos (by simp; omega)]
  show (h.map ofI)[(i : Int).toNat]? = _
  simp [hx]
theorem ltL {x y : List Int} : cmpD μ .Lt (ofI x) (ofI y) = some (.bool (ltI x y)) := by
  show (match gInts (x.map .int) with | some x => (match gInts (y.map .int) with | some y => some (D.bool (ltI x y)) | none => none) | none => none) = _
  rw [gI, gI]
theorem lenM {h : LI} (hl : h.length ≤ lim) : b1D [h.map ofI] .len (.ml 0) = some (.int h.length) := by
  show ((lst [h.map ofI] (.ml 0)).bind fun ds => if ds.length ≤ lim then some (D.int ds.length) else none) = _
  show (if (h.map ofI).length ≤ lim then some (D.int (h.map ofI).length) else none) = _
  rw [List.length_map, if_pos hl]
theorem setM {h : LI} {i : Nat} {x : List Int} (e1 : ev F [h.map ofI] ρ e = some (ofI x)) (hk : mlOf ρ l = some 0) (ei : ev F [h.map ofI] ρ c = some (.int (i : Int))) (hi : i < h.length) (hl : h.length ≤ lim) : RS F MF (.setI l c e) ρ [h.map ofI] (.next, ρ, [(h.set i x).map ofI]) := by
  have := RS.setI (MF := MF) e1 hk ei (show ([h.map ofI] : Mus)[0]? = some (h.map ofI) from rfl) (by simp; omega)
  simpa using this
noncomputable def sdP : Nat → LI → List Int → Nat → LI × Nat
  | 0, h, _, p => (h, p)
  | n + 1, h, x, p => if p = 0 then (h, p) else if ltI x (h.getD ((p - 1) / 2) []) then sdP n (h.set p (h.getD ((p - 1) / 2) [])) x ((p - 1) / 2) else (h, p)
noncomputable def sdH (h : LI) (p : Nat) : LI := (sdP p h (h.getD p []) p).1.set (sdP p h (h.getD p []) p).2 (h.getD p [])
noncomputable def f_siftdown : Fn := ⟨b_siftdown, 3, 3, []⟩
theorem sdP_len : ∀ (n : Nat) (h : LI) (x : List Int) (p : Nat), p < h.length → (sdP n h x p).1.length = h.length ∧ (sdP n h x p).2 < h.length
  | 0, h, x, p, hp => ⟨rfl, hp⟩
  | n + 1, h, x, p, hp => by
    unfold sdP
    by_cases h0 : p = 0
    · rw [if_pos h0]; exact ⟨rfl, hp⟩
    · rw [if_neg h0]
      by_cases h1 : ltI x (h.getD ((p - 1) / 2) []) = true
      · rw [if_pos h1]
        have := sdP_len n (h.set p (h.getD ((p - 1) / 2) [])) x ((p - 1) / 2) (by simp; omega)
        simpa using this
      · rw [if_neg h1]; exact ⟨rfl, hp⟩
theorem loop_siftdown (x : List Int) : ∀ (n : Nat) (h : LI) (p : Nat) (u v : Option D), p ≤ n → p < h.length → h.length ≤ lim → ∃ u' v', RS F MF (.whl (.cmp .Gt (.var 2) (.var 1)) [(.asg 4 (.bin .RShift (.bin .Sub (.var 2) (.lit (.int (1)))) (.lit (.int (1))))), (.asg 5 (.idx (.var 0) (.var 4))), (.ite (.cmp .Lt (.var 3) (.var 5)) [(.setI 0 (.var 2) (.var 5)), (.asg 2 (.var 4)), .cont] []), .brk])
    [some (.ml 0), some (.int 0), some (.int p), some (ofI x), u, v] [h.map ofI] (.next, [some (.ml 0), some (.int 0), some (.int (sdP n h x p).2), some (ofI x), u', v'], [(sdP n h x p).1.map ofI])
  | 0, h, p, u, v, hn, hp, hl => by
    obtain rfl : p = 0 := by omega
    exact ⟨u, v, RS.whl_no (ev_cmp (ev_var rfl) (ev_var rfl) rfl) rfl⟩
  | n + 1, h, p, u, v, hn, hp, hl => by
    unfold sdP
    by_cases h0 : p = 0
    · rw [if_pos h0]
      subst h0
      exact ⟨u, v, RS.whl_no (ev_cmp (ev_var rfl) (ev_var rfl) rfl) rfl⟩
    rw [if_neg h0]
    have hc : ev F [h.map ofI] [some (.ml 0), some (.int 0), some (.int p), some (ofI x), u, v] (.cmp .Gt (.var 2) (.var 1)) = some (.bool true) :=
      ev_cmp (ev_var rfl) (ev_var rfl) (by show some (D.bool (decide ((0 : Int) < p))) = _; rw [decide_eq_true (by omega)])
    have hq : ((p : Int) - 1).fdiv 2 = (((p - 1) / 2 : Nat) : Int) := by rw [Int.fdiv_eq_ediv_of_nonneg _ (by decide)]; omega
    have e4 : ev F [h.map ofI] [some (.ml 0), some (.int 0), some (.int p), some (ofI x), u, v] (.bin .RShift (.bin .Sub (.var 2) (.lit (.int (1)))) (.lit (.int (1)))) = some (.int (((p - 1) / 2 : Nat) : Int)) :=
      ev_bin (ev_bin (ev_var rfl) ev_lit rfl) ev_lit (by
        show (if (1 : Int) == 1 && -(lim : Int) ≤ (p : Int) - 1 && (p : Int) - 1 ≤ lim then some (D.int (((p : Int) - 1).fdiv 2)) else none) = _
        rw [if_pos (by unfold lim at *; simp; omega), hq])
    have hpp : (p - 1) / 2 < h.length := by omega
    have hy : h[(p - 1) / 2]? = some (h.getD ((p - 1) / 2) []) := by rw [List.getD_eq_getElem?_getD, List.getElem?_eq_getElem hpp]; rfl
    generalize h.getD ((p - 1) / 2) [] = y at hy ⊢
    by_cases h1 : ltI x y = true
    · rw [if_pos h1]
      obtain ⟨u', v', ih⟩ := loop_siftdown x n (h.set p y) ((p - 1) / 2) (some (.int (((p - 1) / 2 : Nat) : Int))) (some (ofI y)) (by omega) (by simp; omega) (by simpa using hl)
      refine ⟨u', v', RS.whl_go hc rfl ?_ (o := .cont) rfl ih⟩
      refine RL.cons (RS.asg e4) (RL.cons (RS.asg (ev_idx (ev_var rfl) (ev_var rfl) (idxM hl hy))) (RL.out (RS.ite (t := true) (ev_cmp (ev_var rfl) (ev_var rfl) (ltL.trans (by rw [h1]))) rfl ?_) rfl))
      exact RL.cons (setM (i := p) (ev_var rfl) rfl (ev_var rfl) hp hl) (RL.cons (RS.asg (ev_var rfl)) (RL.out RS.cont rfl))
    · rw [if_neg h1]
      have h1 : ltI x y = false := by simpa using h1
      refine ⟨_, _, RS.whl_brk hc rfl (RL.cons (RS.asg e4) (RL.cons (RS.asg (ev_idx (ev_var rfl) (ev_var rfl) (idxM hl hy))) (RL.cons (RS.ite (t := false) (ev_cmp (ev_var rfl) (ev_var rfl) (ltL.trans (by rw [h1]))) rfl RL.nil) (RL.out RS.brk rfl))))⟩
theorem getD_at {h : LI} {p : Nat} (hp : p < h.length) : h[p]? = some (h.getD p []) := by rw [List.getD_eq_getElem?_getD, List.getElem?_eq_getElem hp]; rfl
theorem runs_siftdown (h : LI) (p : Nat) (hp : p < h.length) (hl : h.length ≤ lim) : RunsM F MF f_siftdown (h.map ofI) [.int 0, .int p] ((sdH h p).map ofI) .none := by
  obtain ⟨u, v, l⟩ := loop_siftdown (F := F) (MF := MF) (h.getD p []) p h p none none (Nat.le_refl _) hp hl
  obtain ⟨l1, l2⟩ := sdP_len p h (h.getD p []) p hp
  have key := RL.cons (RS.asg (F := F) (MF := MF) (ρ := [some (.ml 0), some (.int 0), some (.int p), none, none, none]) (sl := 3) (e := .idx (.var 0) (.var 2)) (ev_idx (ev_var rfl) (ev_var rfl) (idxM hl (getD_at hp)))) (RL.cons l (RL.cons (setM (i := (sdP p h (h.getD p []) p).2) (l := 0) (c := .var 2) (e := .var 3) (ev_var rfl) rfl (ev_var rfl) (by omega) (by omega)) RL.nil))
  exact ⟨rfl, ⟨nmL _, rfl, nmL _, rfl⟩, _, _, key, .inr ⟨rfl, rfl⟩⟩
noncomputable def hpush (h : LI) (x : List Int) : LI := sdH (h ++ [x]) h.length
noncomputable def f_heappush : Fn := ⟨b_heappush, 2, 0, []⟩
theorem mapO_ofI (h : LI) : mapO intsL (h.map ofI) = some h := by
  induction h with
  | nil => rfl
  | cons x r ih =>
    simp only [List.map_cons, qmapO0, qmapO1]
    rw [show intsL (ofI x) = some x from gI x, ih]
theorem runs_heappush (h : LI) (x : List Int) (hl : h.length < lim) (hM : ∀ (h : LI) (p : Nat), p < h.length → h.length ≤ lim → MF 2 (h.map ofI) [.int 0, .int p] = some ((sdH h p).map ofI, .none)) : RunsM F MF f_heappush (h.map ofI) [ofI x] ((hpush h x).map ofI) .none := by
  have key : RL F MF b_heappush [some (.ml 0), some (ofI x)] [h.map ofI] (.next, [some (.ml 0), some (ofI x)], [(hpush h x).map ofI]) := by
    refine RL.cons (ρ' := [some (.ml 0), some (ofI x)]) (μ' := [(h ++ [x]).map ofI]) ?_ (RL.cons (μ' := [(hpush h x).map ofI]) ?_ RL.nil)
    · have := RS.app (F := F) (MF := MF) (ρ := [some (.ml 0), some (ofI x)]) (μ := [h.map ofI]) (l := 0) (e := .var 1) (k := 0) (ds := h.map ofI) rfl (ev_var rfl) rfl (by simp; omega)
      simpa using this
    · refine RS.callM (k := 0) rfl (evL_cons ev_lit (evL_cons (ev_bin (ev_b1 (ev_var rfl) (lenM (by simp; omega))) ev_lit rfl) evL_nil)) rfl ?_
      have e := hM (h ++ [x]) h.length (by simp) (by simp; omega)
      rw [show (((h ++ [x]).length : Int) - 1) = (h.length : Int) by simp]
      exact e
  exact ⟨rfl, ⟨nmL _, by simp [qnoMls0, qnoMls1, nm_ofI], nmL _, rfl⟩, _, _, key, .inr ⟨rfl, rfl⟩⟩
end
end Mine
end
section
namespace Mine
section
variable {F : Nat → List D → Option D} {MF : Nat → List D → List D → Option (List D × D)} {ρ ρ' : Sto} {μ μ' : Mus} {r : Out × Sto × Mus} {d : D} {e c a f : PX} {ps b : List PS} {p : PS} {sl l k : Nat} {o : Out}
theorem and_no (h1 : ev F μ ρ a = some (.bool false)) : ev F μ ρ (.and [a, f]) = some (.bool false) := by show evAnd _ _ _ _ = _; simp only [qevAnd0, qevAnd1, h1, truthD]
theorem and_yes (h1 : ev F μ ρ a = some (.bool true)) (h2 : ev F μ ρ f = some d) : ev F μ ρ (.and [a, f]) = some d := by show evAnd _ _ _ _ = _; simp only [qevAnd0, qevAnd1, h1, h2, truthD]
noncomputable def suQ (h : LI) (p : Nat) : Nat := if 2 * p + 2 < h.length ∧ ltI (h.getD (2 * p + 1) []) (h.getD (2 * p + 2) []) = false then 2 * p + 2 else 2 * p + 1
noncomputable def suP : Nat → LI → Nat → LI × Nat
  | 0, h, p => (h, p)
  | n + 1, h, p => if 2 * p + 1 < h.length then suP n (h.set p (h.getD (suQ h p) [])) (suQ h p) else (h, p)
noncomputable def suH (h : LI) : LI := sdH ((suP h.length h 0).1.set (suP h.length h 0).2 (h.getD 0 [])) (suP h.length h 0).2
noncomputable def f_siftup : Fn := ⟨b_siftup, 2, 5, []⟩
theorem suQ_lt {h : LI} {p : Nat} (hc : 2 * p + 1 < h.length) : p < suQ h p ∧ suQ h p < h.length := by
  unfold suQ; split <;> omega
theorem suP_len : ∀ (n : Nat) (h : LI) (p : Nat), p < h.length → (suP n h p).1.length = h.length ∧ (suP n h p).2 < h.length
  | 0, h, p, hp => ⟨rfl, hp⟩
  | n + 1, h, p, hp => by
    unfold suP
    by_cases h1 : 2 * p + 1 < h.length
    · rw [if_pos h1]
      have := suP_len n (h.set p (h.getD (suQ h p) [])) (suQ h p) (by have := suQ_lt h1; simp; omega)
      simpa using this
    · rw [if_neg h1]; exact ⟨rfl, hp⟩
noncomputable abbrev bodyUp : List PS := [(.asg 6 (.bin .Add (.var 5) (.lit (.int (1))))), (.ite (.and [(.cmp .Lt (.var 6) (.var 2)), (.not (.cmp .Lt (.idx (.var 0) (.var 5)) (.idx (.var 0) (.var 6))))]) [(.asg 5 (.var 6))] []), (.setI 0 (.var 1) (.idx (.var 0) (.var 5))), (.asg 1 (.var 5)), (.asg 5 (.bin .Add (.bin .Mult (.lit (.int (2))) (.var 1)) (.lit (.int (1)))))]
theorem mul_ok {p : Nat} (hp : p ≤ lim) : binD μ .Mult (.int 2) (.int p) = some (.int (2 * (p : Int))) := by
  show (if -(lim : Int) ≤ (p : Int) && (p : Int) ≤ lim then some (D.int (2 * (p : Int))) else none) = _
  rw [if_pos (by simp; omega)]
theorem turn_up {h : LI} {p : Nat} {x : List Int} {v : Option D} (hc : 2 * p + 1 < h.length) (hl : h.length ≤ lim) :
    ∃ v', RL F MF bodyUp [some (.ml 0), some (.int p), some (.int h.length), some (.int 0), some (ofI x), some (.int ((2 * p + 1 : Nat) : Int)), v] [h.map ofI]
      (.next, [some (.ml 0), some (.int (suQ h p)), some (.int h.length), some (.int 0), some (ofI x), some (.int ((2 * suQ h p + 1 : Nat) : Int)), v'], [(h.set p (h.getD (suQ h p) [])).map ofI]) := by
  have q := suQ_lt hc
  have g1 := getD_at hc
  have pick : RL F MF [(.ite (.and [(.cmp .Lt (.var 6) (.var 2)), (.not (.cmp .Lt (.idx (.var 0) (.var 5)) (.idx (.var 0) (.var 6))))]) [(.asg 5 (.var 6))] [])] [some (.ml 0), some (.int p), some (.int h.length), some (.int 0), some (ofI x), some (.int ((2 * p + 1 : Nat) : Int)), some (.int ((2 * p + 2 : Nat) : Int))] [h.map ofI]
      (.next, [some (.ml 0), some (.int p), some (.int h.length), some (.int 0), some (ofI x), some (.int (suQ h p)), some (.int ((2 * p + 2 : Nat) : Int))], [h.map ofI]) := by
    refine RL.cons (ρ' := [some (.ml 0), some (.int p), some (.int h.length), some (.int 0), some (ofI x), some (.int (suQ h p)), some (.int ((2 * p + 2 : Nat) : Int))]) (μ' := [h.map ofI]) ?_ RL.nil
    by_cases h1 : 2 * p + 2 < h.length
    · have g2 := getD_at h1
      have ec := and_yes (F := F) (μ := [h.map ofI]) (ρ := [some (.ml 0), some (.int p), some (.int h.length), some (.int 0), some (ofI x), some (.int ((2 * p + 1 : Nat) : Int)), some (.int ((2 * p + 2 : Nat) : Int))]) (a := .cmp .Lt (.var 6) (.var 2)) (f := .not (.cmp .Lt (.idx (.var 0) (.var 5)) (.idx (.var 0) (.var 6))))
        (ev_cmp (ev_var rfl) (ev_var rfl) (by show some (D.bool (decide (((2 * p + 2 : Nat) : Int) < h.length))) = _; rw [decide_eq_true (by omega)])) (ev_not (ev_cmp (ev_idx (ev_var rfl) (ev_var rfl) (idxM hl g1)) (ev_idx (ev_var rfl) (ev_var rfl) (idxM hl g2)) ltL) rfl)
      cases hq : ltI (h.getD (2 * p + 1) []) (h.getD (2 * p + 2) []) with
      | true =>
        rw [show suQ h p = 2 * p + 1 by unfold suQ; rw [if_neg (by rw [hq]; simp)]]
        exact RS.ite (t := false) (ec.trans (by rw [hq])) rfl RL.nil
      | false =>
        rw [show suQ h p = 2 * p + 2 by unfold suQ; rw [if_pos ⟨h1, hq⟩]]
        exact RS.ite (t := true) (ec.trans (by rw [hq])) rfl (RL.cons (RS.asg (ev_var rfl)) RL.nil)
    · rw [show suQ h p = 2 * p + 1 by unfold suQ; rw [if_neg (fun z => h1 z.1)]]
      exact RS.ite (t := false) (and_no (ev_cmp (ev_var rfl) (ev_var rfl) (by show some (D.bool (decide (((2 * p + 2 : Nat) : Int) < h.length))) = _; rw [decide_eq_false (by omega)]))) rfl RL.nil
  obtain ⟨v', hv⟩ : ∃ v', v' = some (D.int ((2 * p + 2 : Nat) : Int)) := ⟨_, rfl⟩
  refine ⟨v', ?_⟩
  subst hv
  have a1 : RS F MF (.asg 6 (.bin .Add (.var 5) (.lit (.int (1))))) [some (.ml 0), some (.int p), some (.int h.length), some (.int 0), some (ofI x), some (.int ((2 * p + 1 : Nat) : Int)), v] [h.map ofI] (.next, [some (.ml 0), some (.int p), some (.int h.length), some (.int 0), some (ofI x), some (.int ((2 * p + 1 : Nat) : Int)), some (.int ((2 * p + 2 : Nat) : Int))], [h.map ofI]) :=
    RS.asg (d := .int ((2 * p + 2 : Nat) : Int)) (ev_bin (ev_var rfl) ev_lit rfl)
  have a2 := setM (F := F) (MF := MF) (h := h) (i := p) (x := h.getD (suQ h p) []) (l := 0) (c := .var 1) (e := .idx (.var 0) (.var 5)) (ρ := [some (.ml 0), some (.int p), some (.int h.length), some (.int 0), some (ofI x), some (.int (suQ h p)), some (.int ((2 * p + 2 : Nat) : Int))])
    (ev_idx (ev_var rfl) (ev_var rfl) (idxM hl (getD_at q.2))) rfl (ev_var rfl) (by omega) hl
  refine RL.cons a1 ?_
  have cat : ∀ {p1 : PS} {ps : List PS} {ρ ρ' : Sto} {μ μ' : Mus} {r}, RL F MF [p1] ρ μ (.next, ρ', μ') → RL F MF ps ρ' μ' r → RL F MF (p1 :: ps) ρ μ r := by
    intro p1 ps ρ ρ' μ μ' r ⟨n, k1⟩ ⟨n', k2⟩
    refine ⟨n + n' + 1, fun m => ?_⟩
    have e1 := k1 (n' + 1 + m)
    rw [show n + (n' + 1 + m) = (n + n' + m) + 1 by omega] at e1
    rw [show n + n' + 1 + m = (n + n' + m) + 1 by omega]
    simp only [qexL0, qexL1] at e1 ⊢
    cases hs : exS F MF (n + n' + m) p1 ρ μ with
    | none => rw [hs] at e1; cases e1
    | some z =>
      obtain ⟨o, ρ1, μ1⟩ := z
      rw [hs] at e1
      cases o with
      | next =>
        have hz : exL F MF (n + n' + m) [] ρ1 μ1 = some (.next, ρ1, μ1) ∨ exL F MF (n + n' + m) [] ρ1 μ1 = none := by
          cases n + n' + m with
          | zero => right; rfl
          | succ _ => left; rfl
        simp only at e1 ⊢
        rcases hz with hz | hz
        · rw [hz] at e1
          injection e1 with e1; injection e1 with _ e1; injection e1 with e2 e3; subst e2; subst e3
          have := k2 (n + m)
          rwa [show n' + (n + m) = n + n' + m by omega] at this
        · rw [hz] at e1; cases e1
      | _ => simp at e1
  refine cat pick (RL.cons a2 (RL.cons (RS.asg (ev_var rfl)) (RL.cons (RS.asg (d := .int ((2 * suQ h p + 1 : Nat) : Int)) (ev_bin (ev_bin ev_lit (ev_var rfl) (mul_ok (by omega))) ev_lit rfl)) RL.nil)))
theorem loop_up (x : List Int) : ∀ (n : Nat) (h : LI) (p : Nat) (v : Option D), h.length - p ≤ n → p < h.length → h.length ≤ lim → ∃ u' v', RS F MF (.whl (.cmp .Lt (.var 5) (.var 2)) bodyUp)
    [some (.ml 0), some (.int p), some (.int h.length), some (.int 0), some (ofI x), some (.int ((2 * p + 1 : Nat) : Int)), v] [h.map ofI] (.next, [some (.ml 0), some (.int (suP n h p).2), some (.int h.length), some (.int 0), some (ofI x), u', v'], [(suP n h p).1.map ofI])
  | 0, h, p, v, hn, hp, hl => by omega
  | n + 1, h, p, v, hn, hp, hl => by
    unfold suP
    by_cases h1 : 2 * p + 1 < h.length
    · rw [if_pos h1]
      obtain ⟨v', t⟩ := turn_up (F := F) (MF := MF) (x := x) (v := v) h1 hl
      have q := suQ_lt h1
      obtain ⟨u2, v2, ih⟩ := loop_up x n (h.set p (h.getD (suQ h p) [])) (suQ h p) v' (by simp; omega) (by simp; omega) (by simpa using hl)
      rw [List.length_set] at ih
      exact ⟨u2, v2, RS.whl_go (ev_cmp (ev_var rfl) (ev_var rfl) (by show some (D.bool (decide (((2 * p + 1 : Nat) : Int) < h.length))) = _; rw [decide_eq_true (by omega)])) rfl t rfl ih⟩
    · rw [if_neg h1]
      exact ⟨_, _, RS.whl_no (ev_cmp (ev_var rfl) (ev_var rfl) (by show some (D.bool (decide (((2 * p + 1 : Nat) : Int) < h.length))) = _; rw [decide_eq_false (by omega)])) rfl⟩
theorem runs_siftup (h : LI) (h0 : 0 < h.length) (hl : h.length ≤ lim) (hM : ∀ (h : LI) (p : Nat), p < h.length → h.length ≤ lim → MF 2 (h.map ofI) [.int 0, .int p] = some ((sdH h p).map ofI, .none)) : RunsM F MF f_siftup (h.map ofI) [.int 0] ((suH h).map ofI) .none := by
  obtain ⟨u, v, l⟩ := loop_up (F := F) (MF := MF) (h.getD 0 []) h.length h 0 none (by omega) h0 hl
  obtain ⟨l1, l2⟩ := suP_len h.length h 0 h0
  have key : ∃ ρ', RL F MF b_siftup [some (.ml 0), some (.int 0), none, none, none, none, none] [h.map ofI] (.next, ρ', [(suH h).map ofI]) := by
    refine ⟨_, RL.cons (RS.asg (ev_b1 (ev_var rfl) (lenM hl))) (RL.cons (RS.asg (ev_var rfl)) (RL.cons (RS.asg (ev_idx (ev_var rfl) (ev_var rfl) (idxM (i := 0) hl (getD_at h0)))) (RL.cons (RS.asg (d := .int 1) (ev_bin (ev_bin ev_lit (ev_var rfl) (mul_ok (p := 0) (by decide))) ev_lit rfl)) (RL.cons l
      (RL.cons (setM (i := (suP h.length h 0).2) (l := 0) (c := .var 1) (e := .var 4) (ev_var rfl) rfl (ev_var rfl) (by omega) (by omega)) (RL.cons (RS.callM (k := 0) (μ := [((suP h.length h 0).1.set (suP h.length h 0).2 (h.getD 0 [])).map ofI]) (c' := (suH h).map ofI) rfl (evL_cons (ev_var rfl) (evL_cons (ev_var rfl) evL_nil)) rfl ?_) RL.nil))))))⟩
    exact hM _ _ (by simp; omega) (by simp; omega)
  obtain ⟨ρ', key⟩ := key
  exact ⟨rfl, ⟨nmL _, rfl, nmL _, rfl⟩, _, _, key, .inr ⟨rfl, rfl⟩⟩
noncomputable def hpop (h : LI) : List Int × LI := if h.length = 1 then (h.getD 0 [], []) else (h.getD 0 [], suH (h.dropLast.set 0 (h.getD (h.length - 1) [])))
noncomputable def f_heappop : Fn := ⟨b_heappop, 1, 2, []⟩
theorem runs_heappop (h : LI) (h0 : 0 < h.length) (hl : h.length ≤ lim) (hM : ∀ h : LI, 0 < h.length → h.length ≤ lim → MF 3 (h.map ofI) [.int 0] = some ((suH h).map ofI, .none)) : RunsM F MF f_heappop (h.map ofI) [] ((hpop h).2.map ofI) (ofI (hpop h).1) := by
  have hlast : (h.map ofI).getLast? = some (ofI (h.getD (h.length - 1) [])) := by
    rw [List.getLast?_map, List.getLast?_eq_getElem?, getD_at (show h.length - 1 < h.length by omega)]; rfl
  have pop : RS F MF (.pop 1 0) [some (.ml 0), none, none] [h.map ofI] (.next, [some (.ml 0), some (ofI (h.getD (h.length - 1) [])), none], [h.dropLast.map ofI]) := by
    have := RS.pop (F := F) (MF := MF) (ρ := [some (.ml 0), none, none]) (μ := [h.map ofI]) (sl := 1) (l := 0) (k := 0) rfl rfl hlast (by simpa using hl)
    rw [← List.map_dropLast] at this
    exact this
  have key : ∃ ρ', RL F MF b_heappop [some (.ml 0), none, none] [h.map ofI] (.ret (ofI (hpop h).1), ρ', [(hpop h).2.map ofI]) := by
    have tr : truthD [h.dropLast.map ofI] (.ml 0) = some (!(h.dropLast.map ofI).isEmpty) := by
      show (if (h.dropLast.map ofI).length ≤ lim then some (!(h.dropLast.map ofI).isEmpty) else none) = _
      rw [if_pos (by simp; omega)]
    unfold hpop
    by_cases h1 : h.length = 1
    · rw [if_pos h1]
      have hd : h.dropLast = [] := List.eq_nil_of_length_eq_zero (by simp [h1])
      rw [hd] at pop tr
      rw [h1] at pop
      exact ⟨_, RL.cons pop (RL.cons (RS.ite (t := false) (ev_var rfl) tr RL.nil) (RL.out (RS.ret (ev_var rfl)) rfl))⟩
    · rw [if_neg h1]
      have hlen : 0 < h.dropLast.length := by simp; omega
      have g0 : h.dropLast[0]? = some (h.getD 0 []) := by
        rw [List.getElem?_dropLast, if_pos (by omega)]; exact getD_at h0
      have tr' : truthD [h.dropLast.map ofI] (.ml 0) = some true := by
        rw [tr]; congr 1
        cases hq : h.dropLast with
        | nil => rw [hq] at hlen; cases hlen
        | cons => rfl
      refine ⟨_, RL.cons pop (RL.out (RS.ite (t := true) (ev_var rfl) tr' (RL.cons (RS.asg (ev_idx (ev_var rfl) ev_lit (idxM (i := 0) (by simp; omega) g0))) (RL.cons (setM (i := 0) (l := 0) (c := .lit (.int 0)) (e := .var 1) (ev_var rfl) rfl ev_lit hlen (by simp; omega)) (RL.cons (RS.callM (k := 0) (c' := (suH (h.dropLast.set 0 (h.getD (h.length - 1) []))).map ofI) rfl (evL_cons ev_lit evL_nil) rfl ?_) (RL.out (RS.ret (ev_var rfl)) rfl))))) rfl)⟩
      exact hM _ (by simpa using hlen) (by simp; omega)
  obtain ⟨ρ', key⟩ := key
  exact ⟨rfl, ⟨nmL _, rfl, nmL _, nm_ofI _⟩, _, _, key, .inl rfl⟩
end
end Mine
end
section
namespace Mine
section
variable {F : Nat → List D → Option D} {MF : Nat → List D → List D → Option (List D × D)} {ρ ρ' : Sto} {μ μ' : Mus} {r : Out × Sto × Mus} {d : D} {e c a f : PX} {ps b : List PS} {p : PS} {sl l k : Nat} {o : Out}
theorem collect_filter {f : D → Option (List D)} {α : Type} {g q : α → D} {P : α → Bool} : ∀ {xs : List α}, (∀ x ∈ xs, f (g x) = some (if P x then [q x] else [])) → collectM f (xs.map g) = some ((xs.filter P).map q)
  | [], _ => rfl
  | x :: xs, h => by
    simp only [List.map_cons, qcollectM0, qcollectM1, h x (.head _), collect_filter fun y m => h y (.tail _ m), List.filter_cons]
    cases P x <;> simp
theorem evC_filter {sl : Nat} {elt cnd : PX} {α : Type} {g q : α → D} {P : α → Bool} {xs : List α} (h1 : ∀ x ∈ xs, ev F μ (ρ.set sl (some (g x))) cnd = some (.bool (P x))) (h2 : ∀ x ∈ xs, P x = true → ev F μ (ρ.set sl (some (g x))) elt = some (q x)) :
    evC F μ ρ (.fin sl [cnd] elt) (xs.map g) = some ((xs.filter P).map q) := by
  simp only [qevC0, qevC1]
  refine collect_filter fun x m => ?_
  simp only [qevT0, qevT1, h1 x m, truthD]
  cases hp : P x with
  | false => rfl
  | true => simp only [h2 x m hp]; rfl
theorem collect_flat {f : D → Option (List D)} {α : Type} {g : α → D} {q : α → List D} : ∀ {xs : List α}, (∀ x ∈ xs, f (g x) = some (q x)) → collectM f (xs.map g) = some (xs.flatMap q)
  | [], _ => rfl
  | x :: xs, h => by
    simp only [List.map_cons, qcollectM0, qcollectM1, h x (.head _), collect_flat fun y m => h y (.tail _ m), List.flatMap_cons]
theorem evC_nest {sl : Nat} {it : PI} {c : PC} {α : Type} {g : α → D} {q : α → List D} {ys : α → List D} {xs : List α} (h1 : ∀ x ∈ xs, evI F μ (ρ.set sl (some (g x))) it = some (ys x)) (h2 : ∀ x ∈ xs, evC F μ (ρ.set sl (some (g x))) c (ys x) = some (q x)) :
    evC F μ ρ (.nest sl [] it c) (xs.map g) = some (xs.flatMap q) := by
  simp only [qevC0, qevC1]
  refine collect_flat fun x m => ?_
  simp only [qevT0, qevT1, h1 x m, Option.bind_some, h2 x m]
noncomputable def ends (ws : List Int) (w : Int) (p : Nat) : List Nat := ((List.range (ws.length - (p + 1))).map (p + 1 + ·)).filter fun e => decide ((cut ws p e).sum < w)
noncomputable def stepW (ws : List Int) (w : Int) (ways : List LI) (p : Nat) : Option LI :=
  if (ws.drop p).sum ≤ w then some [[]] else
  match mapO (fun e => (ways[e]?).bind fun h => h.head?.map fun x => (x.length : Int)) (ends ws w p) with
  | none => none
  | some ls => (minI ls).map fun m => (ends ws w p).flatMap fun e => ((ways.getD e []).filter fun y => (y.length : Int) == m).map fun y => (e : Int) :: y
noncomputable def fewL (ws : List Int) (w : Int) : List Nat → List LI → Option (List LI)
  | [], ways => some ways
  | p :: ps, ways => match stepW ws w ways p with
    | none => none
    | some x => if x.length ≤ lim then fewL ws w ps (ways.set p x) else none
theorem qfewL0 {ws : List Int} {w : Int} {ways : List LI} : fewL ws w [] ways = some ways := rfl
theorem qfewL1 {ws : List Int} {w : Int} {ways : List LI} {p : Nat} {ps : List Nat} : fewL ws w (p :: ps) ways = match stepW ws w ways p with
    | none => none
    | some x => if x.length ≤ lim then fewL ws w ps (ways.set p x) else none := rfl
noncomputable def fewO (ws : List Int) (w : Int) : Option LI := (fewL ws w ((List.range ws.length).map fun i => ws.length - 1 - i) (List.replicate ws.length [])).bind (·[0]?)
noncomputable def f_fewest : Fn := ⟨b_lawfewest, 2, 5, []⟩
noncomputable abbrev wD (ways : List LI) : List D := ways.map ofL
theorem nmW (ways : List LI) : noMls (wD ways) = true := by
  induction ways with
  | nil => rfl
  | cons x r ih => simp only [wD, List.map_cons, qnoMls0, qnoMls1]; rw [show noMl (ofL x) = true from nmL x]; exact ih
theorem idxW {ways : List LI} {i : Nat} {x : LI} (hl : ways.length ≤ lim) (hx : ways[i]? = some x) : idxD [wD ways] (.ml 0) (.int (i : Int)) = some (ofL x) := by
  have hi := (List.getElem?_eq_some_iff.mp hx).1
  show (if 0 ≤ (i : Int) && (i : Int) ≤ lim then (lst [wD ways] (.ml 0)).bind (·[(i : Int).toNat]?) else _) = _
  rw [if_pos (by simp; omega)]
  show (ways.map ofL)[(i : Int).toNat]? = _
  simp [hx]
theorem idxL {h : LI} {i : Nat} {x : List Int} (hi : i ≤ lim) (hx : h[i]? = some x) : idxD μ (ofL h) (.int (i : Int)) = some (ofI x) := by
  show (if 0 ≤ (i : Int) && (i : Int) ≤ lim then (lst μ (ofL h)).bind (·[(i : Int).toNat]?) else _) = _
  rw [if_pos (by simp; omega)]
  show (h.map ofI)[(i : Int).toNat]? = _
  simp [hx]
theorem minD {ls : List Int} {m : Int} (h : minI ls = some m) : b1D μ .min (ofI ls) = some (.int m) := by
  show ((gInts (ls.map .int)).bind minI).map D.int = _
  rw [gI, Option.bind_some, h]; rfl
end
end Mine
end
section
namespace Mine
section
variable {F : Nat → List D → Option D} {MF : Nat → List D → List D → Option (List D × D)} {ρ ρ' : Sto} {μ μ' : Mus} {r : Out × Sto × Mus} {d : D} {e c a f : PX} {ps b : List PS} {p : PS} {sl l k : Nat} {o : Out}
noncomputable abbrev bodyFew : List PS := [(.ite (.cmp .LtE (.b1 .sum (.slc (.var 0) (.var 3) (.lit .none) (.lit .none))) (.var 1)) [(.setI 4 (.var 3) (.list [(.list [])]))] [(.asg 5 (.comp [true, true, false, true, false, false, false] 1 (.rng [(.bin .Add (.var 3) (.lit (.int (1)))), (.var 2)]) (.fin 0 [(.cmp .Lt (.b1 .sum (.slc (.var 1) (.var 4) (.var 0) (.lit .none))) (.var 2))] (.var 0)))), (.asg 6 (.b1 .min (.comp [false, false, false, false, true, false, false] 1 (.seq (.var 5)) (.fin 0 [] (.b1 .len (.idx (.idx (.var 5) (.var 0)) (.lit (.int (0))))))))), (.setI 4 (.var 3) (.comp [false, false, false, false, true, false, true] 2 (.seq (.var 5)) (.nest 0 [] (.seq (.idx (.var 6) (.var 0))) (.fin 1 [(.cmp .Eq (.b1 .len (.var 1)) (.var 8))] (.bin .Add (.list [(.var 0)]) (.var 1))))))])]
noncomputable abbrev roF (ws : List Int) (w : Int) (p : Nat) (x5 x6 : Option D) : Sto := [some (ofI ws), some (.int w), some (.int ws.length), some (.int p), some (.ml 0), x5, x6]
theorem setW {ways : List LI} {i : Nat} {x : LI} (e1 : ev F [wD ways] ρ e = some (ofL x)) (hk : mlOf ρ l = some 0) (ei : ev F [wD ways] ρ c = some (.int (i : Int))) (hi : i < ways.length) (hl : ways.length ≤ lim) : RS F MF (.setI l c e) ρ [wD ways] (.next, ρ, [wD (ways.set i x)]) := by
  have := RS.setI (MF := MF) e1 hk ei (show ([wD ways] : Mus)[0]? = some (wD ways) from rfl) (by simp; lia)
  simpa using this
theorem ends_lt {ws : List Int} {w : Int} {p e : Nat} (h : e ∈ ends ws w p) : p < e ∧ e < ws.length := by
  unfold ends at h
  obtain ⟨i, hi, rfl⟩ := List.mem_map.mp (List.mem_filter.mp h).1
  have := List.mem_range.mp hi
  lia
theorem ends_len (ws : List Int) (w : Int) (p : Nat) : (ends ws w p).length ≤ ws.length := by
  unfold ends
  refine Nat.le_trans (List.length_filter_le _ _) (by simp)
theorem mem_len {y : List Int} {h : LI} (m : y ∈ h) : True := trivial
theorem turn_few {ws : List Int} {w : Int} {ways : List LI} {p : Nat} {x5 x6 : Option D} {x : LI} (hl : ws.length ≤ 1000) (hw : ways.length = ws.length) (hp : p < ws.length) (hy : ∀ h ∈ ways, ∀ y ∈ h, y.length < 1000) (hs : stepW ws w ways p = some x) (hx : x.length ≤ lim) :
    ∃ y5 y6, RL F MF bodyFew (roF ws w p x5 x6) [wD ways] (.next, roF ws w p y5 y6, [wD (ways.set p x)]) := by
  have hl' : ws.length ≤ lim := by unfold lim; lia
  have ec := ev_cmp (F := F) (μ := [wD ways]) (ρ := roF ws w p x5 x6) (op := .LtE) (a := .b1 .sum (.slc (.var 0) (.var 3) (.lit .none) (.lit .none))) (f := .var 1) (d := .bool (decide ((ws.drop p).sum ≤ w))) (ev_b1 (ev_slc (ev_var rfl) (ev_var rfl) ev_lit ev_lit (slcI1 hl' (by lia))) (sumI _)) (ev_var rfl) rfl
  unfold stepW at hs
  by_cases h1 : (ws.drop p).sum ≤ w
  · rw [if_pos h1] at hs
    injection hs with hs; subst hs
    refine ⟨x5, x6, RL.cons (RS.ite (t := true) (ec.trans (by rw [decide_eq_true h1])) rfl (RL.cons (setW (i := p) ?_ rfl (ev_var rfl) (by lia) (by lia)) RL.nil)) RL.nil⟩
    exact ev_list (evL_cons (ev_list evL_nil (by decide)) evL_nil) (by decide : 1 ≤ lim)
  rw [if_neg h1] at hs
  split at hs
  · cases hs
  rename_i ls hls
  obtain ⟨m, hm, rfl⟩ := Option.map_eq_some_iff.mp hs
  have hends : ev F [wD ways] (roF ws w p x5 x6) (.comp [true, true, false, true, false, false, false] 1 (.rng [(.bin .Add (.var 3) (.lit (.int (1)))), (.var 2)]) (.fin 0 [(.cmp .Lt (.b1 .sum (.slc (.var 1) (.var 4) (.var 0) (.lit .none))) (.var 2))] (.var 0))) = some (.list ((ends ws w p).map fun (e : Nat) => D.int (e : Int))) := by
    have hr : rangeD [.int ((p : Int) + 1), .int ws.length] = some (((List.range (ws.length - (p + 1))).map (p + 1 + ·)).map fun (e : Nat) => D.int (e : Int)) := by
      rw [range_ev (by lia) (by unfold lim; lia) (by lia) (by lia), List.map_map]
      rw [show ((ws.length : Int) - ((p : Int) + 1)).toNat = ws.length - (p + 1) by lia]
      congr 1
    refine ev_comp (evI_rng (evL_cons (ev_bin (ev_var rfl) ev_lit rfl) (evL_cons (ev_var rfl) evL_nil)) hr) (evC_filter (P := fun e => decide ((cut ws p e).sum < w)) (q := fun (e : Nat) => D.int (e : Int)) (fun e me => ?_) fun e me _ => ev_var rfl) (by have := ends_len ws w p; simpa [ends] using Nat.le_trans this hl')
    obtain ⟨i, hi, rfl⟩ := List.mem_map.mp me
    have := List.mem_range.mp hi
    exact ev_cmp (ev_b1 (ev_slc (ev_var rfl) (ev_var rfl) (ev_var rfl) ev_lit (slcI hl' (by lia) (by unfold lim; lia))) (sumI _)) (ev_var rfl) rfl
  generalize hE : ends ws w p = es at *
  have hlen : es.length ≤ ws.length := by rw [← hE]; exact ends_len ws w p
  have hle : ∀ e ∈ es, e < ways.length := fun e me => by rw [hw]; exact (ends_lt (hE ▸ me)).2
  let ρ5 : Sto := roF ws w p (some (.list (es.map fun (e : Nat) => D.int (e : Int)))) x6
  have hleast : ev F [wD ways] ρ5 (.b1 .min (.comp [false, false, false, false, true, false, false] 1 (.seq (.var 5)) (.fin 0 [] (.b1 .len (.idx (.idx (.var 5) (.var 0)) (.lit (.int (0)))))))) = some (.int m) := by
    have hll := mapO_length hls
    have he : (es.map fun (e : Nat) => D.int (((ways.getD e []).head?.getD []).length : Int)) = ls.map D.int := by
      refine List.ext_getElem (by simp [hll]) fun i h1 h2 => ?_
      have hi : i < ls.length := by simpa using h2
      obtain ⟨z, g1, g2⟩ := mapO_get hls (List.getElem?_eq_getElem hi)
      obtain ⟨h, g3, g4⟩ := Option.bind_eq_some_iff.mp g2
      obtain ⟨y, g5, g6⟩ := Option.map_eq_some_iff.mp g4
      have g1' : es[i]? = some z := g1
      have : es[i] = z := by rw [List.getElem?_eq_getElem (by lia)] at g1'; injection g1'
      simp only [List.getElem_map, this, List.getD_eq_getElem?_getD, g3, Option.getD_some, g5, ← g6]
    refine ev_b1 (ev_comp (evI_seq (ev_var rfl)) (zs := ls.map .int) ?_ (by simp; lia)) (minD hm)
    rw [← he]
    refine evC_map fun e me => ?_
    obtain ⟨i, hi, rfl⟩ := List.mem_iff_getElem.mp me
    have hil : i < ls.length := by lia
    obtain ⟨z, g1, g2⟩ := mapO_get hls (List.getElem?_eq_getElem hil)
    obtain ⟨h, g3, g4⟩ := Option.bind_eq_some_iff.mp g2
    obtain ⟨y, g5, g6⟩ := Option.map_eq_some_iff.mp g4
    have : es[i] = z := by rw [List.getElem?_eq_getElem hi] at g1; injection g1
    subst this
    have g0 : h[0]? = some y := by rw [← List.head?_eq_getElem?]; exact g5
    have hv : (((ways.getD es[i] []).head?.getD []).length : Int) = y.length := by simp only [List.getD_eq_getElem?_getD, g3, Option.getD_some, g5]
    rw [hv]
    refine ev_b1 (ev_idx (ev_idx (ev_var rfl) (ev_var rfl) (idxW (by lia) g3)) ev_lit (idxL (i := 0) (by decide) g0)) (lenI y ?_)
    have := hy h (List.mem_of_getElem? g3) y (List.mem_of_getElem? g0)
    unfold lim; lia
  let ρ6 : Sto := roF ws w p (some (.list (es.map fun (e : Nat) => D.int (e : Int)))) (some (.int m))
  have hways : ev F [wD ways] ρ6 (.comp [false, false, false, false, true, false, true] 2 (.seq (.var 5)) (.nest 0 [] (.seq (.idx (.var 6) (.var 0))) (.fin 1 [(.cmp .Eq (.b1 .len (.var 1)) (.var 8))] (.bin .Add (.list [(.var 0)]) (.var 1))))) = some (ofL (es.flatMap fun e => ((ways.getD e []).filter fun y => (y.length : Int) == m).map fun y => (e : Int) :: y)) := by
    show _ = some (D.list _)
    refine ev_comp (F := F) (μ := [wD ways]) (ρ := ρ6) (evI_seq (ds := es.map fun (e : Nat) => D.int (e : Int)) (a := .var 5) (ev_var rfl)) (zs := (es.flatMap fun e => ((ways.getD e []).filter fun y => (y.length : Int) == m).map fun y => (e : Int) :: y).map ofI) ?_ (by simpa using hx)
    rw [List.map_flatMap]
    refine evC_nest (ys := fun e => (ways.getD e []).map ofI) (fun e me => evI_seq (ev_idx (ev_var rfl) (ev_var rfl) (idxW (x := ways.getD e []) (by lia) ?_))) fun e me => ?_
    · rw [List.getD_eq_getElem?_getD, List.getElem?_eq_getElem (hle e me)]; rfl
    · rw [show List.map ofI (List.map (fun y => (e : Int) :: y) ((ways.getD e []).filter fun y => (y.length : Int) == m)) = ((ways.getD e []).filter fun y => (y.length : Int) == m).map fun y => ofI ((e : Int) :: y) by rw [List.map_map]; rfl]
      have hmem : ∀ y ∈ ways.getD e [], y.length < 1000 := fun y hy' => by
        have : ways.getD e [] = ways[e]'(hle e me) := by rw [List.getD_eq_getElem?_getD, List.getElem?_eq_getElem (hle e me)]; rfl
        rw [this] at hy'
        exact hy _ (List.getElem_mem _) y hy'
      refine evC_filter (P := fun y => (y.length : Int) == m) (q := fun y => ofI ((e : Int) :: y)) (fun y my => ?_) fun y my _ => ?_
      · exact ev_cmp (ev_b1 (ev_var rfl) (lenI y (by have := hmem y my; unfold lim; lia))) (ev_var rfl) rfl
      · refine ev_bin (ev_list (evL_cons (ev_var rfl) evL_nil) (by decide : 1 ≤ lim)) (ev_var rfl) ?_
        show (if 1 + (y.map D.int).length ≤ lim then some (D.list (_ ++ _)) else none) = _
        rw [if_pos (by have := hmem y my; unfold lim; simp; lia)]; rfl
  refine ⟨_, _, RL.cons (RS.ite (t := false) (ec.trans (by rw [decide_eq_false h1])) rfl (RL.cons (RS.asg hends) (RL.cons (ρ' := ρ6) (RS.asg (ρ := ρ5) hleast) (RL.cons (setW (i := p) (ρ := ρ6) hways rfl (ev_var rfl) (by lia) (by lia)) RL.nil)))) RL.nil⟩
end
end Mine
end
section
namespace Mine
section
variable {F : Nat → List D → Option D} {MF : Nat → List D → List D → Option (List D × D)}
theorem stepO_len {ws : List Int} {w : Int} {ways : List LI} {p K : Nat} {x : LI} (h : ∀ h ∈ ways, ∀ y ∈ h, y.length ≤ K) (hs : stepW ws w ways p = some x) : ∀ y ∈ x, y.length ≤ K + 1 := by
  unfold stepW at hs
  split at hs
  · injection hs with hs; subst hs
    intro y m
    rw [List.mem_singleton.mp m]; exact Nat.zero_le _
  · split at hs
    · cases hs
    · obtain ⟨m, _, rfl⟩ := Option.map_eq_some_iff.mp hs
      intro y my
      obtain ⟨e, he, my⟩ := List.mem_flatMap.mp my
      obtain ⟨z, mz, rfl⟩ := List.mem_map.mp my
      have mz := (List.mem_filter.mp mz).1
      rw [List.getD_eq_getElem?_getD] at mz
      cases hq : ways[e]? with
      | none => rw [hq] at mz; cases mz
      | some g =>
        rw [hq] at mz
        have := h g (List.mem_of_getElem? hq) z mz
        simpa using this
theorem loop_few {ws : List Int} {w : Int} (hl : ws.length ≤ 900) : ∀ (ps : List Nat) (ways ways' : List LI) (K : Nat) (x3 x5 x6 : Option D), ways.length = ws.length → (∀ p ∈ ps, p < ws.length) → (∀ h ∈ ways, ∀ y ∈ h, y.length ≤ K) → K + ps.length ≤ 950 → fewL ws w ps ways = some ways' →
    ways'.length = ws.length ∧ ∃ y3 y5 y6, RF F MF 3 bodyFew (ps.map fun (p : Nat) => D.int (p : Int)) [some (ofI ws), some (.int w), some (.int ws.length), x3, some (.ml 0), x5, x6] [wD ways] (.next, [some (ofI ws), some (.int w), some (.int ws.length), y3, some (.ml 0), y5, y6], [wD ways'])
  | [], ways, ways', K, x3, x5, x6, hw, _, _, _, hf => by
    simp only [qfewL0, qfewL1, Option.some.injEq] at hf
    subst hf
    exact ⟨hw, _, _, _, RF.nil⟩
  | p :: ps, ways, ways', K, x3, x5, x6, hw, hp, hy, hK, hf => by
    simp only [qfewL0, qfewL1] at hf
    split at hf
    · cases hf
    rename_i x hs
    split at hf
    rotate_left
    · cases hf
    rename_i hx
    simp only [List.length_cons] at hK
    obtain ⟨y5, y6, t⟩ := turn_few (F := F) (MF := MF) (x5 := x5) (x6 := x6) (by omega) hw (hp p (.head _)) (fun h m y my => by have := hy h m y my; omega) hs hx
    have hsl := stepO_len hy hs
    obtain ⟨hw', y3', y5', y6', k⟩ := loop_few hl ps (ways.set p x) ways' (K + 1) (some (.int p)) y5 y6 (by simpa using hw) (fun q m => hp q (.tail _ m)) (fun h m y my => by
      rcases List.mem_or_eq_of_mem_set m with m | rfl
      · have := hy h m y my; omega
      · exact hsl y my) (by omega) hf
    exact ⟨hw', _, _, _, RF.go t rfl k⟩
theorem runs_fewest (ws : List Int) (w : Int) (few : LI) (hl : ws.length ≤ 900) (hf : fewO ws w = some few) : Runs1 F MF f_fewest [ofI ws, .int w] (ofL few) := by
  obtain ⟨ways', h1, h2⟩ := Option.bind_eq_some_iff.mp hf
  have hl' : ws.length ≤ lim := by unfold lim; omega
  have n0 : 0 < ws.length := by
    rcases Nat.eq_zero_or_pos ws.length with h | h
    · rw [h] at h1
      simp only [List.range_zero, List.map_nil, List.replicate_zero, qfewL0, qfewL1, Option.some.injEq] at h1
      subst h1; simp at h2
    · exact h
  obtain ⟨hw', y3, y5, y6, k⟩ := loop_few (F := F) (MF := MF) hl ((List.range ws.length).map fun i => ws.length - 1 - i) (List.replicate ws.length []) ways' 0 none none none (by simp) (fun p m => by
    obtain ⟨i, hi, rfl⟩ := List.mem_map.mp m
    have := List.mem_range.mp hi
    omega) (fun h m y my => by rw [(List.mem_replicate.mp m).2] at my; cases my) (by simp; omega) h1
  have key : RL F MF b_lawfewest [some (ofI ws), some (.int w), none, none, none, none, none] [] (.ret (ofL few), [some (ofI ws), some (.int w), some (.int ws.length), y3, some (.ml 0), y5, y6], [wD ways']) := by
    refine RL.cons (RS.asg (ev_b1 (ev_var rfl) (lenI ws hl'))) (RL.cons (μ' := [wD (List.replicate ws.length [])]) (ρ' := [some (ofI ws), some (.int w), some (.int ws.length), none, some (.ml 0), none, none]) ?_ (RL.cons (RS.for1 (xs := ((List.range ws.length).map fun i => ws.length - 1 - i).map fun (p : Nat) => D.int (p : Int)) ?_ ?_ k) (RL.out (RS.ret (ev_idx (ev_var rfl) ev_lit (idxW (i := 0) (by omega) h2))) rfl)))
    · have := RS.asgM (F := F) (MF := MF) (sl := 4) (ds := wD (List.replicate ws.length [])) (ρ := [some (ofI ws), some (.int w), some (.int ws.length), none, none, none, none]) (μ := []) (e := .comp [false, false, false, false, false, false, false] 1 (.rng [(.var 2)]) (.fin 0 [] (.list []))) (by
        refine ev_comp (evI_rng (evL_cons (ev_var rfl) evL_nil) (rngN hl')) ?_ (by simpa using hl')
        rw [show wD (List.replicate ws.length []) = (List.range ws.length).map fun _ => D.list [] from List.ext_getElem (by simp) fun i _ _ => by simp [ofL]]
        exact evC_map fun k _ => ev_list evL_nil (by decide))
      exact this
    · refine evI_rng (evL_cons (ev_bin (ev_var rfl) ev_lit rfl) (evL_cons (x := .int (-1)) rfl (evL_cons (x := .int (-1)) rfl evL_nil))) ?_
      show (if (-1 : Int) == -1 && -(lim : Int) ≤ (ws.length : Int) - 1 && (ws.length : Int) - 1 ≤ lim && -(lim : Int) ≤ (-1 : Int) && (-1 : Int) ≤ lim then some ((List.range (((ws.length : Int) - 1) - (-1)).toNat).map fun (i : Nat) => D.int ((ws.length : Int) - 1 - i)) else none) = _
      rw [if_pos (by unfold lim at *; simp; omega), show (((ws.length : Int) - 1) - (-1)).toNat = ws.length by omega, List.map_map]
      congr 1
      refine List.map_congr_left fun i hi => ?_
      have := List.mem_range.mp hi
      show D.int ((ws.length : Int) - 1 - i) = D.int ((ws.length - 1 - i : Nat) : Int)
      congr 1; omega
    · induction ((List.range ws.length).map fun i => ws.length - 1 - i) with
      | nil => rfl
      | cons x r ih => simpa only [List.map_cons, qnoMls0, qnoMls1, qnoMl0, qnoMl1, qnoMl2, qnoMl3, qnoMl4, qnoMl5, qnoMl6, qnoMl7, Bool.true_and] using ih
  refine ⟨rfl, by simp [qnoMls0, qnoMls1, nm_ofI, qnoMl0, qnoMl1, qnoMl2, qnoMl3, qnoMl4, qnoMl5, qnoMl6, qnoMl7], _, _, _, key, ?_⟩
  show (if noMl (ofL few) then some (ofL few) else none) = _
  rw [if_pos (show noMl (ofL few) = true from nmL few)]
end
end Mine
end
section
namespace Mine
noncomputable def fitsO (ws : List Int) (w : Int) (bs : List Int) : Option Bool := if decide (ws.length ≤ lim) && decide (bs.length < lim) && bs.all (fun b => decide (b ≤ lim)) then some (fitsI ws w bs) else none
noncomputable def movO (a b : List Int) : Option (List Int) := if decide (a.length ≤ lim) && decide (a.length ≤ b.length) then some (movI a b) else none
theorem eqI (a b : List Int) : eqD (ofI a) (ofI b) = some (decide (a = b)) := by
  show (if (a.map D.int).length == (b.map D.int).length then eqLst (eqN eq0) (a.map D.int) (b.map D.int) else some false) = _
  by_cases h : a.length = b.length
  · rw [if_pos (by simp [h])]
    have key : ∀ (a b : List Int), a.length = b.length → eqLst (eqN eq0) (a.map D.int) (b.map D.int) = some (decide (a = b)) := by
      intro a
      induction a with
      | nil => intro b hb; cases b with | nil => rfl | cons => cases hb
      | cons x r ih =>
        intro b hb
        cases b with
        | nil => cases hb
        | cons y q =>
          have := ih q (by simpa using hb)
          show (match some (x == y), eqLst (eqN eq0) (r.map D.int) (q.map D.int) with | some a, some b => some (a && b) | _, _ => none) = _
          rw [this]
          by_cases h1 : x = y <;> by_cases h2 : r = q <;> simp [h1, h2]
    exact key a b h
  · rw [if_neg (by simp [h])]
    rw [decide_eq_false (fun q => h (by rw [q]))]
section
variable {F : Nat → List D → Option D} {MF : Nat → List D → List D → Option (List D × D)} {ρ ρ' : Sto} {μ μ' : Mus}
noncomputable def bump (e : List Int) (k : Nat) : List Int := e.take k ++ [e.getD k 0 + 1] ++ e.drop (k + 1)
noncomputable def pushO (ws : List Int) (w : Int) (la e : List Int) : List Nat → LI → Option LI
  | [], h => some h
  | k :: ks, h => match movO la (bump e k) with
    | none => none
    | some m => match fitsO ws w m with
      | none => none
      | some true => if h.length < lim then pushO ws w la e ks (hpush h (bump e k)) else none
      | some false => pushO ws w la e ks h
theorem qpushO0 {ws : List Int} {w : Int} {la e : List Int} {h : LI} : pushO ws w la e [] h = some h := rfl
theorem qpushO1 {ws : List Int} {w : Int} {la e : List Int} {h : LI} {k : Nat} {ks : List Nat} : pushO ws w la e (k :: ks) h = match movO la (bump e k) with
    | none => none
    | some m => match fitsO ws w m with
      | none => none
      | some true => if h.length < lim then pushO ws w la e ks (hpush h (bump e k)) else none
      | some false => pushO ws w la e ks h := rfl
noncomputable def notedO (ws : List Int) (w : Int) (la : List Int) : Nat → LI → LI → Option LI
  | 0, _, _ => none
  | n + 1, h, nt => if h.length = 0 then some nt else
    if h.length ≤ lim ∧ nt.length < lim ∧ (hpop h).1.length < 900 then
      if nt.getLast? = some (hpop h).1 then notedO ws w la n (hpop h).2 nt else
      match pushO ws w la (hpop h).1 (List.range (hpop h).1.length) (hpop h).2 with
      | none => none
      | some h' => notedO ws w la n h' (nt ++ [(hpop h).1])
    else none
theorem qnotedO0 {ws : List Int} {w : Int} {la : List Int} {h nt : LI} : notedO ws w la 0 h nt = none := rfl
theorem qnotedO1 {ws : List Int} {w : Int} {la : List Int} {n : Nat} {h nt : LI} : notedO ws w la (n + 1) h nt = if h.length = 0 then some nt else
    if h.length ≤ lim ∧ nt.length < lim ∧ (hpop h).1.length < 900 then
      if nt.getLast? = some (hpop h).1 then notedO ws w la n (hpop h).2 nt else
      match pushO ws w la (hpop h).1 (List.range (hpop h).1.length) (hpop h).2 with
      | none => none
      | some h' => notedO ws w la n h' (nt ++ [(hpop h).1])
    else none := rfl
noncomputable abbrev roN (ws : List Int) (w : Int) (la : List Int) (x5 x6 x7 : Option D) : Sto := [some (ofI ws), some (.int w), some (ofI la), some (.ml 0), some (.ml 1), x5, x6, x7]
noncomputable abbrev muN (h nt : LI) : Mus := [h.map ofI, nt.map ofI]
noncomputable abbrev bodyPush : List PS := [(.asg 7 (.bin .Add (.bin .Add (.slc (.var 5) (.lit .none) (.var 6) (.lit .none)) (.list [(.bin .Add (.idx (.var 5) (.var 6)) (.lit (.int (1))))])) (.slc (.var 5) (.bin .Add (.var 6) (.lit (.int (1)))) (.lit .none) (.lit .none)))), (.ite (.call 12 [(.var 0), (.var 1), (.call 14 [(.var 2), (.var 7)])]) [(.callM 0 3 [(.var 7)])] [])]
theorem addI {a b : List Int} (h : a.length + b.length ≤ lim) : binD μ .Add (ofI a) (ofI b) = some (ofI (a ++ b)) := by
  show (if (a.map D.int).length + (b.map D.int).length ≤ lim then some (D.list (a.map D.int ++ b.map D.int)) else none) = _
  rw [if_pos (by simpa using h), ← List.map_append]; rfl
theorem loop_push {ws la e : List Int} {w : Int} (h12 : ∀ ws w bs t, fitsO ws w bs = some t → F 12 [ofI ws, .int w, ofI bs] = some (.bool t)) (h14 : ∀ a b y, movO a b = some y → F 14 [ofI a, ofI b] = some (ofI y)) (hM : ∀ (h : LI) (x : List Int), h.length < lim → MF 0 (h.map ofI) [ofI x] = some ((hpush h x).map ofI, .none)) (he : e.length < 900) (nt : LI) : ∀ (ks : List Nat) (h h' : LI) (x6 x7 : Option D), (∀ k ∈ ks, k < e.length) → pushO ws w la e ks h = some h' →
    ∃ y6 y7, RF F MF 6 bodyPush (ks.map fun (k : Nat) => D.int (k : Int)) (roN ws w la (some (ofI e)) x6 x7) (muN h nt) (.next, roN ws w la (some (ofI e)) y6 y7, muN h' nt)
  | [], h, h', x6, x7, _, hp => by
    simp only [qpushO0, qpushO1, Option.some.injEq] at hp
    subst hp
    exact ⟨_, _, RF.nil⟩
  | k :: ks, h, h', x6, x7, hk, hp => by
    have hke := hk k (.head _)
    have hlim : (lim : Nat) = 100000 := rfl
    simp only [qpushO0, qpushO1] at hp
    split at hp
    · cases hp
    rename_i m hm
    have ef : ev F (muN h nt) (roN ws w la (some (ofI e)) (some (.int k)) x7) (.bin .Add (.bin .Add (.slc (.var 5) (.lit .none) (.var 6) (.lit .none)) (.list [(.bin .Add (.idx (.var 5) (.var 6)) (.lit (.int (1))))])) (.slc (.var 5) (.bin .Add (.var 6) (.lit (.int (1)))) (.lit .none) (.lit .none))) = some (ofI (bump e k)) := by
      refine ev_bin (ev_bin (ev_slc (ev_var rfl) ev_lit (ev_var rfl) ev_lit (slcI0 (by omega) (by omega))) (ev_list (evL_cons (ev_bin (ev_idx (ev_var rfl) (ev_var rfl) (idxN (c := e.getD k 0) (by omega) (by simp [hke]))) ev_lit rfl) evL_nil) (by decide : 1 ≤ lim)) (addI (a := e.take k) (b := [e.getD k 0 + 1]) (by simp; omega))) (ev_slc (ev_var rfl) (ev_bin (ev_var rfl) ev_lit rfl) ev_lit ev_lit (slcI1 (a := k + 1) (by omega) (by omega))) (addI (by simp; omega))
    have em : ev F (muN h nt) (roN ws w la (some (ofI e)) (some (.int k)) (some (ofI (bump e k)))) (.call 14 [(.var 2), (.var 7)]) = some (ofI m) :=
      ev_call (evL_cons (ev_var rfl) (evL_cons (ev_var rfl) evL_nil)) (h14 _ _ _ hm)
    split at hp
    · cases hp
    · rename_i hft
      have ec := ev_call (F := F) (μ := muN h nt) (k := 12) (evL_cons (ρ := roN ws w la (some (ofI e)) (some (.int k)) (some (ofI (bump e k)))) (a := .var 0) (ev_var rfl) (evL_cons (a := .var 1) (ev_var rfl) (evL_cons em evL_nil))) (d := .bool true) (h12 _ _ _ _ hft)
      split at hp
      rotate_left
      · cases hp
      rename_i hl
      obtain ⟨y6, y7, ih⟩ := loop_push h12 h14 hM he nt ks (hpush h (bump e k)) h' (some (.int k)) (some (ofI (bump e k))) (fun q m => hk q (.tail _ m)) hp
      refine ⟨y6, y7, RF.go (o := .next) (RL.cons (RS.asg ef) (RL.cons (RS.ite (t := true) ec rfl (RL.cons (μ' := muN (hpush h (bump e k)) nt) (RS.callM (k := 0) (c := h.map ofI) (c' := (hpush h (bump e k)).map ofI) rfl (evL_cons (ev_var rfl) evL_nil) rfl ?_) RL.nil)) RL.nil)) rfl ih⟩
      exact hM _ _ hl
    · rename_i hft
      have ec := ev_call (F := F) (μ := muN h nt) (k := 12) (evL_cons (ρ := roN ws w la (some (ofI e)) (some (.int k)) (some (ofI (bump e k)))) (a := .var 0) (ev_var rfl) (evL_cons (a := .var 1) (ev_var rfl) (evL_cons em evL_nil))) (d := .bool false) (h12 _ _ _ _ hft)
      obtain ⟨y6, y7, ih⟩ := loop_push h12 h14 hM he nt ks h h' (some (.int k)) (some (ofI (bump e k))) (fun q m => hk q (.tail _ m)) hp
      exact ⟨y6, y7, RF.go (o := .next) (RL.cons (RS.asg ef) (RL.cons (RS.ite (t := false) ec rfl RL.nil) RL.nil)) rfl ih⟩
end
end Mine
end
section
namespace Mine
section
variable {F : Nat → List D → Option D} {MF : Nat → List D → List D → Option (List D × D)} {ρ ρ' : Sto} {μ μ' : Mus} {d : D}
noncomputable def f_noted : Fn := ⟨b_lawnoted, 3, 5, []⟩
noncomputable abbrev bodyNoted : List PS := [(.asgCM 5 1 3 []), (.ite (.and [(.var 4), (.cmp .Eq (.idx (.var 4) (.neg (.lit (.int (1))))) (.var 5))]) [.cont] []), (.app 4 (.var 5)), (.for1 6 (.rng [(.b1 .len (.var 5))]) bodyPush)]
theorem nmR (n : Nat) : noMls ((List.range n).map fun (i : Nat) => D.int (i : Int)) = true := by
  induction (List.range n) with
  | nil => rfl
  | cons x r ih => simpa only [List.map_cons, qnoMls0, qnoMls1, qnoMl0, qnoMl1, qnoMl2, qnoMl3, qnoMl4, qnoMl5, qnoMl6, qnoMl7, Bool.true_and] using ih
theorem truth_ml {μ : Mus} {i : Nat} {ds : List D} (h : μ[i]? = some ds) (hl : ds.length ≤ lim) : truthD μ (.ml i) = some (!ds.isEmpty) := by
  simp only [truthD, h, hl, if_true]
theorem and_go {a f : PX} {x : D} (h1 : ev F μ ρ a = some x) (ht : truthD μ x = some true) (h2 : ev F μ ρ f = some d) : ev F μ ρ (.and [a, f]) = some d := by show evAnd _ _ _ _ = _; simp only [qevAnd0, qevAnd1, h1, ht, h2]
theorem and_stop {a f : PX} {x : D} (h1 : ev F μ ρ a = some x) (ht : truthD μ x = some false) : ev F μ ρ (.and [a, f]) = some x := by show evAnd _ _ _ _ = _; simp only [qevAnd0, qevAnd1, h1, ht]
theorem loop_noted {ws la : List Int} {w : Int} (h12 : ∀ ws w bs t, fitsO ws w bs = some t → F 12 [ofI ws, .int w, ofI bs] = some (.bool t)) (h14 : ∀ a b y, movO a b = some y → F 14 [ofI a, ofI b] = some (ofI y)) (hM0 : ∀ (h : LI) (x : List Int), h.length < lim → MF 0 (h.map ofI) [ofI x] = some ((hpush h x).map ofI, .none)) (hM1 : ∀ h : LI, 0 < h.length → h.length ≤ lim → MF 1 (h.map ofI) [] = some ((hpop h).2.map ofI, ofI (hpop h).1)) : ∀ (n : Nat) (h nt nt' : LI) (x5 x6 x7 : Option D), notedO ws w la n h nt = some nt' →
    ∃ y5 y6 y7 h', RS F MF (.whl (.var 3) bodyNoted) (roN ws w la x5 x6 x7) (muN h nt) (.next, roN ws w la y5 y6 y7, muN h' nt')
  | 0, h, nt, nt', x5, x6, x7, hn => by simp [qnotedO0, qnotedO1] at hn
  | n + 1, h, nt, nt', x5, x6, x7, hn => by
    simp only [qnotedO0, qnotedO1] at hn
    by_cases h0 : h.length = 0
    · rw [if_pos h0] at hn
      injection hn with hn; subst hn
      have : h = [] := List.eq_nil_of_length_eq_zero h0
      subst this
      exact ⟨_, _, _, [], RS.whl_no (ev_var rfl) (truth_ml (ds := []) rfl (Nat.zero_le _))⟩
    rw [if_neg h0] at hn
    split at hn
    rotate_left
    · cases hn
    rename_i hc
    obtain ⟨hl, hnt, he⟩ := hc
    have tr : truthD (muN h nt) (.ml 0) = some true := by
      rw [truth_ml (ds := h.map ofI) rfl (by simpa using hl)]
      cases h with
      | nil => exact absurd rfl h0
      | cons => rfl
    have pop : RS F MF (.asgCM 5 1 3 []) (roN ws w la x5 x6 x7) (muN h nt) (.next, roN ws w la (some (ofI (hpop h).1)) x6 x7, muN (hpop h).2 nt) :=
      RS.asgCM (k := 0) (c := h.map ofI) (c' := (hpop h).2.map ofI) (d := ofI (hpop h).1) rfl evL_nil rfl (hM1 h (by omega) hl)
    generalize hpop h = q at hn pop he
    obtain ⟨e, h1⟩ := q
    dsimp only at hn pop he
    have trn : truthD (muN h1 nt) (.ml 1) = some (!(nt.map ofI).isEmpty) := truth_ml (ds := nt.map ofI) rfl (by simp; omega)
    have last : ∀ y, nt.getLast? = some y → ev F (muN h1 nt) (roN ws w la (some (ofI e)) x6 x7) (.and [(.var 4), (.cmp .Eq (.idx (.var 4) (.neg (.lit (.int (1))))) (.var 5))]) = some (.bool (decide (y = e))) := by
      intro y hy
      have t1 : truthD (muN h1 nt) (.ml 1) = some true := by
        rw [trn]
        cases nt with
        | nil => cases hy
        | cons => rfl
      have e4 : ev F (muN h1 nt) (roN ws w la (some (ofI e)) x6 x7) (.var 4) = some (.ml 1) := ev_var rfl
      have ex : ev F (muN h1 nt) (roN ws w la (some (ofI e)) x6 x7) (.idx (.var 4) (.neg (.lit (.int (1))))) = some (ofI y) := by
        refine ev_idx (y := .int (-1)) e4 rfl ?_
        show (lst (muN h1 nt) (.ml 1)).bind (·.getLast?) = _
        show (nt.map ofI).getLast? = _
        rw [List.getLast?_map, hy]; rfl
      have ec := ev_cmp (op := .Eq) (d := .bool (decide (y = e))) ex (ev_var (i := 5) rfl) (by show (eqD (ofI y) (ofI e)).map D.bool = _; rw [eqI]; rfl)
      exact and_go e4 t1 ec
    by_cases hq : nt.getLast? = some e
    · rw [if_pos hq] at hn
      obtain ⟨y5, y6, y7, h', ih⟩ := loop_noted h12 h14 hM0 hM1 n h1 nt nt' (some (ofI e)) x6 x7 hn
      exact ⟨y5, y6, y7, h', RS.whl_go (o := .cont) (ev_var rfl) tr (RL.cons pop (RL.out (RS.ite (t := true) (d := .bool (decide (e = e))) (last e hq) (by rw [decide_eq_true rfl]; rfl) (RL.out RS.cont rfl)) rfl)) rfl ih⟩
    · rw [if_neg hq] at hn
      split at hn
      · cases hn
      rename_i h2 hp
      have skip : RS F MF (.ite (.and [(.var 4), (.cmp .Eq (.idx (.var 4) (.neg (.lit (.int (1))))) (.var 5))]) [.cont] []) (roN ws w la (some (ofI e)) x6 x7) (muN h1 nt) (.next, roN ws w la (some (ofI e)) x6 x7, muN h1 nt) := by
        cases hlast : nt.getLast? with
        | none =>
          have : nt = [] := List.getLast?_eq_none_iff.mp hlast
          subst this
          exact RS.ite (t := false) (d := .ml 1) (and_stop (ev_var rfl) trn) trn RL.nil
        | some y =>
          have hne : y ≠ e := fun z => hq (by rw [hlast, z])
          exact RS.ite (t := false) (last y hlast) (by rw [decide_eq_false hne]; rfl) RL.nil
      have app : RS F MF (.app 4 (.var 5)) (roN ws w la (some (ofI e)) x6 x7) (muN h1 nt) (.next, roN ws w la (some (ofI e)) x6 x7, muN h1 (nt ++ [e])) := by
        have e : muN h1 (nt ++ [e]) = (muN h1 nt).set 1 (nt.map ofI ++ [ofI e]) := by
          show [h1.map ofI, (nt ++ [e]).map ofI] = [h1.map ofI, nt.map ofI ++ [ofI e]]
          rw [List.map_append]; rfl
        rw [e]
        exact RS.app (k := 1) (ds := nt.map ofI) rfl (ev_var rfl) rfl (by simp; omega)
      obtain ⟨z6, z7, lp⟩ := loop_push (F := F) (MF := MF) h12 h14 hM0 he (nt ++ [e]) (List.range e.length) h1 h2 x6 x7 (fun k m => List.mem_range.mp m) hp
      obtain ⟨y5, y6, y7, h', ih⟩ := loop_noted h12 h14 hM0 hM1 n h2 (nt ++ [e]) nt' (some (ofI e)) z6 z7 hn
      have hlen : e.length ≤ lim := by unfold lim; omega
      exact ⟨y5, y6, y7, h', RS.whl_go (o := .next) (ev_var rfl) tr (RL.cons pop (RL.cons skip (RL.cons app (RL.cons (RS.for1 (evI_rng (evL_cons (ev_b1 (ev_var rfl) (lenI e hlen)) evL_nil) (rngN hlen)) (nmR _) lp) RL.nil)))) rfl ih⟩
theorem runs_noted (ws la : List Int) (w : Int) (n : Nat) (nt : LI) (h12 : ∀ ws w bs t, fitsO ws w bs = some t → F 12 [ofI ws, .int w, ofI bs] = some (.bool t)) (h14 : ∀ a b y, movO a b = some y → F 14 [ofI a, ofI b] = some (ofI y)) (hM0 : ∀ (h : LI) (x : List Int), h.length < lim → MF 0 (h.map ofI) [ofI x] = some ((hpush h x).map ofI, .none)) (hM1 : ∀ h : LI, 0 < h.length → h.length ≤ lim → MF 1 (h.map ofI) [] = some ((hpop h).2.map ofI, ofI (hpop h).1)) (hla : la.length ≤ lim)
    (hn : notedO ws w la n [List.replicate la.length 0] [] = some nt) : Runs1 F MF f_noted [ofI ws, .int w, ofI la] (ofL nt) := by
  obtain ⟨y5, y6, y7, h', k⟩ := loop_noted (F := F) (MF := MF) h12 h14 hM0 hM1 n [List.replicate la.length 0] [] nt none none none hn
  have e0 : ev F [] [some (ofI ws), some (.int w), some (ofI la), none, none, none, none, none] (.list [(.bin .Mult (.list [(.lit (.int (0)))]) (.b1 .len (.var 2)))]) = some (.list ([List.replicate la.length 0].map ofI)) := by
    refine ev_list (evL_cons (ev_bin (ev_list (evL_cons ev_lit evL_nil) (by decide : 1 ≤ lim)) (ev_b1 (ev_var rfl) (lenI la hla)) ?_) evL_nil) (by decide : 1 ≤ lim)
    show (if 0 ≤ (la.length : Int) && (la.length : Int) ≤ lim then some (D.list (List.replicate (la.length : Int).toNat (D.int 0))) else none) = _
    rw [if_pos (by simp; omega)]
    simp [ofI]
  have key : RL F MF b_lawnoted [some (ofI ws), some (.int w), some (ofI la), none, none, none, none, none] [] (.ret (.ml 1), roN ws w la y5 y6 y7, muN h' nt) :=
    RL.cons (RS.asgM e0) (RL.cons (RS.asgM (ev_list evL_nil (Nat.zero_le _))) (RL.cons k (RL.out (RS.ret (ev_var rfl)) rfl)))
  refine ⟨rfl, by simp [qnoMls0, qnoMls1, nm_ofI, qnoMl0, qnoMl1, qnoMl2, qnoMl3, qnoMl4, qnoMl5, qnoMl6, qnoMl7], _, _, _, key, ?_⟩
  show (if noMls (nt.map ofI) then some (D.list (nt.map ofI)) else none) = _
  rw [if_pos (nmL nt)]; rfl
end
end Mine
end
section
namespace Mine
theorem T_app (a b : List Nat) : T a ++ T b = T (a ++ b) := PySem.Str.ext' (by show a.toArray ++ b.toArray = (a ++ b).toArray; simp)
theorem T_len (a : List Nat) : (T a).length = a.length := by simp [Str.length]
theorem T_inj {a b : List Nat} : T a = T b ↔ a = b := ⟨fun h => by have := congrArg (fun x => x.cps.toList) h; simpa using this, fun h => by rw [h]⟩
theorem T_beq (a b : List Nat) : (T a == T b) = decide (a = b) := by
  by_cases h : a = b
  · rw [h, decide_eq_true rfl]; exact beq_self_eq_true _
  · rw [decide_eq_false h]; exact beq_false_of_ne fun q => h (T_inj.mp q)
theorem T_of (x : Str) : x = T x.cps.toList := PySem.Str.ext' (by simp)
theorem T_at {l : List Nat} {i : Nat} {c : Nat} (h : l[i]? = some c) : Txt.charAt (T l) (i : Int) = some c := StrLaws.at_nonneg (by omega) (by simpa using h)
theorem T_last {l : List Nat} {c : Nat} (h : l.getLast? = some c) : Txt.charAt (T l) (-1) = some c := by
  have hl : l ≠ [] := by rintro rfl; cases h
  have h0 : 0 < l.length := List.length_pos_iff.mpr hl
  refine StrLaws.at_neg (by decide) (by rw [T_len]; omega) ?_
  rw [T_len, show ((-1 : Int) + (l.length : Int)).toNat = l.length - 1 by omega]
  rw [List.getLast?_eq_getElem?] at h
  simpa using h
theorem T_slc {l : List Nat} {a b : Nat} (hab : a ≤ b) (hb : b ≤ l.length) : Txt.slice (T l) (some (a : Int)) (some (b : Int)) = T ((l.drop a).take (b - a)) := by
  have := StrLaws.sliceText_nat (T l) hab (by rw [T_len]; exact hb)
  rw [show ((T l).cps.toList) = l by simp] at this
  exact this
theorem T_slc1 {l : List Nat} {a : Nat} (h : a ≤ l.length) : Txt.slice (T l) (some (a : Int)) none = T (l.drop a) := by
  have := StrLaws.sliceText_from (x := T l) (i := (a : Int)) ⟨by omega, by simpa using h⟩
  rw [show ((T l).cps.toList) = l by simp, show ((l.length : Int) - (a : Int)).toNat = (l.drop a).length by simp, Int.toNat_natCast, List.take_length] at this
  exact this
theorem T_slcN {l : List Nat} {n : Nat} (h0 : 0 < n) (h : n ≤ l.length) : Txt.slice (T l) none (some (-(n : Int))) = T (l.take (l.length - n)) := by
  have := StrLaws.sliceText_to_neg (x := T l) (j := -(n : Int)) (by omega) (by rw [T_len]; omega)
  rw [T_len, show ((T l).cps.toList) = l by simp, List.drop_zero, show (-(n : Int) + (l.length : Int) - 0).toNat = l.length - n by omega] at this
  exact this
theorem T_in (l : List Nat) (c : Nat) : Txt.contains (T l) (T [c]) = decide (c ∈ l) := by
  have := StrLaws.found_one (T l) c
  rw [show ((T l).cps.toList) = l by simp] at this
  exact this
theorem T_ends (l : List Nat) (c : Nat) : Txt.endswith (T l) (T [c]) = decide (l.getLast? = some c) := by
  unfold Txt.endswith
  rw [T_len, StrLaws.subAt_eq, T_len]
  cases h : l.getLast? with
  | none =>
    have : l = [] := List.getLast?_eq_none_iff.mp h
    subst this; rfl
  | some d =>
    have hl : l ≠ [] := by rintro rfl; cases h
    have h0 : 0 < l.length := List.length_pos_iff.mpr hl
    have e : l.drop (l.length - 1) = [d] := by
      rw [List.getLast?_eq_getElem?] at h
      obtain ⟨q, e⟩ := List.getElem?_eq_some_iff.mp h
      rw [List.drop_eq_getElem_cons q, e, List.drop_of_length_le (by omega)]
    show (decide (0 + 1 ≤ l.length) && ((l.toArray.toList.drop (l.length - 1)).take 1 == [c])) = _
    rw [decide_eq_true (by omega), Bool.true_and, show l.toArray.toList = l by simp, e]
    show ([d] == [c]) = _
    by_cases hd : d = c
    · subst hd; simp
    · simp [hd]
theorem T_rstrip {l : List Nat} {c : Nat} (h : l.getLast? = some c) (hc : Unicode.isSpace c = false) : Txt.rstrip (T l) = T l := by
  unfold Txt.rstrip Txt.stripBy
  rw [if_pos]
  unfold stripSame stripLo stripHi
  simp only [Bool.false_eq_true, if_false, if_true, List.drop_zero]
  have : (l.reverse.takeWhile Unicode.isSpace) = [] := by
    have h2 : l.reverse.head? = some c := by rw [List.head?_reverse]; exact h
    cases hr : l.reverse with
    | nil => rfl
    | cons x r =>
      rw [hr] at h2
      have : x = c := by simpa using h2
      subst this
      rw [List.takeWhile_cons, hc]; rfl
  simp [this]
noncomputable def joinN (sep : List Nat) : List (List Nat) → List Nat
  | [] => []
  | [x] => x
  | x :: r => x ++ sep ++ joinN sep r
theorem qjoinN0 {sep : List Nat} : joinN sep [] = [] := rfl
theorem qjoinN1 {sep x : List Nat} : joinN sep [x] = x := rfl
theorem qjoinN2 {sep x y : List Nat} {r : List (List Nat)} : joinN sep (x :: y :: r) = x ++ sep ++ joinN sep (y :: r) := rfl
theorem T_join (sep : List Nat) : ∀ xs : List (List Nat), Str.join (T sep) (xs.map T) = T (joinN sep xs)
  | [] => rfl
  | [x] => rfl
  | x :: y :: r => by
    show T x ++ T sep ++ Str.join (T sep) ((y :: r).map T) = T (x ++ sep ++ joinN sep (y :: r))
    rw [T_join sep (y :: r), T_app, T_app]
theorem join_free {c : Nat} : ∀ {xs ys : List (List Nat)}, (∀ x ∈ xs, c ∉ x) → (∀ y ∈ ys, c ∉ y) → xs ≠ [] → ys ≠ [] → joinN [c] xs = joinN [c] ys → xs = ys
  | [], _, _, _, h, _, _ => absurd rfl h
  | _, [], _, _, _, h, _ => absurd rfl h
  | x :: r, y :: q, hx, hy, _, _, e => by
    have key : ∀ (a b : List Nat) (p q : List Nat), c ∉ a → c ∉ b → a ++ c :: p = b ++ c :: q → a = b ∧ p = q := by
      intro a
      induction a with
      | nil =>
        intro b p q _ hb e
        cases b with
        | nil => exact ⟨rfl, by simpa using e⟩
        | cons z b => simp at e; exact absurd (by rw [e.1]; exact .head _) hb
      | cons z a ih =>
        intro b p q ha hb e
        cases b with
        | nil => simp at e; exact absurd (by rw [e.1]; exact .head _) ha
        | cons w b =>
          simp only [List.cons_append, List.cons.injEq] at e
          obtain ⟨e1, e2⟩ := ih b p q (fun m => ha (.tail _ m)) (fun m => hb (.tail _ m)) e.2
          exact ⟨by rw [e.1, e1], e2⟩
    have one : ∀ (a b : List Nat) (q : List Nat), c ∉ a → a = b ++ c :: q → False := fun a b q h e => h (by rw [e]; simp)
    have hx0 := hx x (.head _)
    have hy0 := hy y (.head _)
    cases r with
    | nil => cases q with
      | nil => have : x = y := e
               rw [this]
      | cons z q =>
        refine (one x y (joinN [c] (z :: q)) hx0 ?_).elim
        have : x = y ++ [c] ++ joinN [c] (z :: q) := e
        simpa using this
    | cons w r => cases q with
      | nil =>
        refine (one y x (joinN [c] (w :: r)) hy0 ?_).elim
        have : x ++ [c] ++ joinN [c] (w :: r) = y := e
        simpa using this.symm
      | cons z q =>
        have : x ++ [c] ++ joinN [c] (w :: r) = y ++ [c] ++ joinN [c] (z :: q) := e
        obtain ⟨e1, e2⟩ := key x y _ _ hx0 hy0 (by simpa using this)
        rw [e1, join_free (fun x m => hx x (.tail _ m)) (fun y m => hy y (.tail _ m)) (by simp) (by simp) e2]
theorem T_split {c : Nat} {xs : List (List Nat)} (h : ∀ x ∈ xs, c ∉ x) (h0 : xs ≠ []) : Txt.split (T (joinN [c] xs)) (T [c]) = xs.map T := by
  have e := StrLaws.join_split (T (joinN [c] xs)) (T [c])
  have f := StrLaws.split_free (T (joinN [c] xs)) c
  have hne : Txt.split (T (joinN [c] xs)) (T [c]) ≠ [] := by
    unfold Txt.split
    split
    · simp
    · split
      · simp
      · rw [StrLaws.partsBetween_eq]
        obtain ⟨p, r, e⟩ := StrLaws.partsFrom_ne (T (joinN [c] xs)) (T [c]).length 0 (Builtin.Str.occurrences (T (joinN [c] xs)) (T [c]) 0 (T (joinN [c] xs)).length ((T (joinN [c] xs)).length + 1))
        rw [e]; simp
  generalize Txt.split (T (joinN [c] xs)) (T [c]) = ps at e f hne
  have hp : ps = (ps.map (·.cps.toList)).map T := by
    rw [List.map_map]
    conv => lhs; rw [← List.map_id ps]
    exact List.map_congr_left fun x _ => T_of x
  rw [hp, T_join] at e
  rw [hp, join_free (fun x m => by obtain ⟨p, m', rfl⟩ := List.mem_map.mp m; exact f p m') h (by simpa using hne) h0 (T_inj.mp e)]
end Mine
end
section
namespace Mine
open StrLaws Builtin Builtin.Str in
theorem free_run (s : Str) (q : Nat) : ∀ (m cur : Nat) (st : LsSt), (∀ k, cur ≤ k → k < cur + m → Unicode.isLineBreak (s.cps.getD k 0) = false) → Id.run (forIn (m := Id) (List.range' cur (m + q)) st (lsBody s)) = Id.run (forIn (m := Id) (List.range' (cur + m) q) st (lsBody s))
  | 0, cur, st, _ => by rw [Nat.zero_add, Nat.add_zero]
  | m + 1, cur, st, h => by
    rw [show m + 1 + q = (m + q) + 1 by omega, List.range'_succ, List.forIn_cons]
    have hb : lsBody s cur st = pure (ForInStep.yield st) := by
      unfold lsBody
      rw [h cur (Nat.le_refl _) (by omega), Bool.and_false]; rfl
    rw [hb, show cur + (m + 1) = cur + 1 + m by omega]
    exact free_run s q m (cur + 1) st fun k h1 h2 => h k (by omega) (by omega)
noncomputable def spans : Nat → List (List Nat) → List (Nat × Nat × Nat)
  | _, [] => []
  | a, [x] => [(a, a + x.length, a + x.length)]
  | a, x :: r => (a, a + x.length, a + x.length + 1) :: spans (a + x.length + 1) r
noncomputable def noBrk (x : List Nat) : Prop := ∀ c ∈ x, Unicode.isLineBreak c = false
theorem getD_drop {l r : List Nat} {a j c : Nat} (h : l.drop a = r) (hj : r[j]? = some c) : l.toArray.getD (a + j) 0 = c := by
  subst h
  rw [List.getElem?_drop] at hj
  rw [Array.getD_eq_getD_getElem?]
  simp [hj]
open StrLaws Builtin Builtin.Str in
theorem spans_run (l : List Nat) : ∀ (ls : List (List Nat)) (a : Nat) (found : Array (Nat × Nat × Nat)), l.drop a = joinN [10] ls → a ≤ l.length → (∀ x ∈ ls, noBrk x) → (∃ y, ls.getLast? = some y ∧ y ≠ []) →
    lsEnd (T l) (Id.run (forIn (m := Id) (List.range' a (l.length - a)) ((found, a) : LsSt) (lsBody (T l)))) = found.toList ++ spans a ls
  | [], a, found, _, _, _, h => by obtain ⟨_, h, _⟩ := h; cases h
  | [x], a, found, h1, h2, h3, h4 => by
    obtain ⟨y, e, hy⟩ := h4
    have : x = y := by simpa using e
    subst this
    have hx : l.drop a = x := h1
    have hl : l.length - a = x.length := by rw [← hx]; simp
    have hx0 : 0 < x.length := List.length_pos_iff.mpr hy
    rw [hl, show x.length = x.length + 0 from rfl, free_run (T l) 0 x.length a]
    · show lsEnd (T l) (found, a) = _
      unfold lsEnd
      have hlt : a < (T l).length := by rw [T_len]; omega
      simp only [hlt, if_true, Array.toList_push]
      rw [T_len]
      show _ = found.toList ++ [(a, a + x.length, a + x.length)]
      rw [show l.length = a + x.length by omega]
    · intro k k1 k2
      obtain ⟨j, rfl⟩ := Nat.exists_eq_add_of_le k1
      have hj : j < x.length := by omega
      have := getD_drop hx (List.getElem?_eq_getElem hj)
      show Unicode.isLineBreak (l.toArray.getD (a + j) 0) = false
      rw [this]
      exact h3 x (.head _) _ (List.getElem_mem hj)
  | x :: z :: r, a, found, h1, h2, h3, h4 => by
    have hd : l.drop a = x ++ [10] ++ joinN [10] (z :: r) := h1
    have hlen := congrArg List.length hd
    simp only [List.length_drop, List.length_append, List.length_cons, List.length_nil] at hlen
    have hm : l.length - a = x.length + ((l.length - (a + x.length + 1)) + 1) := by omega
    rw [hm, free_run (T l) _ x.length a]
    · rw [List.range'_succ, List.forIn_cons]
      have hc : (T l).cps.getD (a + x.length) 0 = 10 := getD_drop (r := x ++ [10] ++ joinN [10] (z :: r)) hd (by simp)
      have hb : Unicode.isLineBreak 10 = true := by decide +kernel
      have hcond : (decide (((found, a) : LsSt).snd ≤ a + x.length) && Unicode.isLineBreak ((T l).cps.getD (a + x.length) 0)) = true := by rw [hc, hb]; simp
      have hnext : lsNext (T l) (a + x.length) = a + x.length + 1 := by
        unfold lsNext
        rw [hc]; rfl
      have hbody : lsBody (T l) (a + x.length) ((found, a) : LsSt) = pure (ForInStep.yield ((found.push (a, a + x.length, a + x.length + 1), a + x.length + 1) : LsSt)) := by
        unfold lsBody
        rw [if_pos hcond, hnext]
      rw [hbody]
      have ih := spans_run l (z :: r) (a + x.length + 1) (found.push (a, a + x.length, a + x.length + 1)) (by
        rw [show a + x.length + 1 = a + (x.length + 1) by omega, ← List.drop_drop, hd]
        rw [show x.length + 1 = (x ++ [10]).length by simp, List.drop_left]) (by omega) (fun y m => h3 y (.tail _ m)) (by simpa using h4)
      refine ih.trans ?_
      show (found.push _).toList ++ spans (a + x.length + 1) (z :: r) = found.toList ++ ((a, a + x.length, a + x.length + 1) :: spans (a + x.length + 1) (z :: r))
      rw [Array.toList_push, List.append_assoc]; rfl
    · intro k k1 k2
      obtain ⟨j, rfl⟩ := Nat.exists_eq_add_of_le k1
      have hj : j < x.length := by omega
      have := getD_drop (j := j) hd (List.getElem?_append_left (by simp; omega) |>.trans ((List.getElem?_append_left hj).trans (List.getElem?_eq_getElem hj)))
      show Unicode.isLineBreak (l.toArray.getD (a + j) 0) = false
      rw [this]
      exact h3 x (.head _) _ (List.getElem_mem hj)
open StrLaws Builtin Builtin.Str in
theorem spans_sub (l : List Nat) : ∀ (ls : List (List Nat)) (a : Nat), l.drop a = joinN [10] ls → ((spans a ls).map fun p => strSub (T l) p.1 p.2.1) = ls.map T
  | [], a, h => rfl
  | [x], a, h => by
    have hx : l.drop a = x := h
    show [strSub (T l) a (a + x.length)] = [T x]
    congr 1
    refine (T_of _).trans ?_
    rw [strSub_toList, show ((T l).cps.toList) = l by simp, hx, show a + x.length - a = x.length by omega, List.take_length]
  | x :: z :: r, a, h => by
    have hd : l.drop a = x ++ [10] ++ joinN [10] (z :: r) := h
    show strSub (T l) a (a + x.length) :: (spans (a + x.length + 1) (z :: r)).map _ = T x :: (z :: r).map T
    rw [spans_sub l (z :: r) (a + x.length + 1) (by
      rw [show a + x.length + 1 = a + (x.length + 1) by omega, ← List.drop_drop, hd]
      rw [show x.length + 1 = (x ++ [10]).length by simp, List.drop_left])]
    congr 1
    refine (T_of _).trans ?_
    rw [strSub_toList, show ((T l).cps.toList) = l by simp, hd, show a + x.length - a = x.length by omega, List.append_assoc, List.take_left]
open StrLaws Builtin Builtin.Str in
theorem T_lines {ls : List (List Nat)} (h1 : ∀ x ∈ ls, noBrk x) (h2 : ∃ y, ls.getLast? = some y ∧ y ≠ []) : Txt.lines (T (joinN [10] ls)) = ls.map T := by
  have e : linesOf (T (joinN [10] ls)) = ls.map T := by
    have hs := spans_run (joinN [10] ls) ls 0 #[] rfl (Nat.zero_le _) h1 h2
    unfold linesOf lineCuts
    rw [ls_eq, T_len, List.map_map]
    rw [Nat.sub_zero] at hs
    rw [hs]
    exact spans_sub (joinN [10] ls) ls 0 rfl
  unfold Txt.lines
  split
  · rename_i hc
    rw [← e]
    unfold linesOf
    rw [beq_iff_eq.mp hc]
    show _ = [strSub _ 0 _]
    rw [sub_whole]
  · exact e
end Mine
end
section
namespace Mine
section
variable {F : Nat → List D → Option D} {MF : Nat → List D → List D → Option (List D × D)} {ρ ρ' : Sto} {μ μ' : Mus} {r : Out × Sto × Mus} {d : D} {e c a f : PX} {ps b : List PS} {p : PS} {sl l k : Nat} {o : Out}
theorem RL.det {ps : List PS} {r r' : Out × Sto × Mus} (h : RL F MF ps ρ μ r) (h' : RL F MF ps ρ μ r') : r = r' := by
  obtain ⟨n, h⟩ := h
  obtain ⟨n', h'⟩ := h'
  have e := h n'
  have e' := h' n
  rw [Nat.add_comm n' n, e] at e'
  exact Option.some.inj e'
theorem Runs1.det {f : Fn} {ds : List D} {d d' : D} (h : Runs1 F MF f ds d) (h' : Runs1 F MF f ds d') : d = d' := by
  obtain ⟨_, _, d0, ρ', μ', k, e⟩ := h
  obtain ⟨_, _, d1, ρ1, μ1, k', e'⟩ := h'
  have q := RL.det k k'
  injection q with q1 q2
  injection q1 with q1
  injection q2 with q2 q3
  subst q1 q3
  rw [e] at e'
  exact Option.some.inj e'
open Classical in
noncomputable def specOf (F : Nat → List D → Option D) (MF : Nat → List D → List D → Option (List D × D)) (f : Fn) : List D → Option D := fun ds => if h : ∃ d, Runs1 F MF f ds d then some h.choose else none
theorem specOf_runs {f : Fn} {ds : List D} {d : D} (h : specOf F MF f ds = some d) : Runs1 F MF f ds d := by
  unfold specOf at h
  split at h
  · rename_i q
    injection h with h
    rw [← h]; exact q.choose_spec
  · cases h
theorem specOf_at {f : Fn} {ds : List D} {d : D} (h : Runs1 F MF f ds d) : specOf F MF f ds = some d := by
  unfold specOf
  have q : ∃ d, Runs1 F MF f ds d := ⟨d, h⟩
  rw [dif_pos q, q.choose_spec.det h]
theorem idxT {l : List Nat} {i : Nat} {c : Nat} (hi : i ≤ lim) (h : l[i]? = some c) : idxD μ (tD l) (.int (i : Int)) = some (tD [c]) := by
  show (if -(lim : Int) ≤ (i : Int) && (i : Int) ≤ lim then (Txt.charAt (T l) i).map fun c => D.str ⟨#[c]⟩ else none) = _
  rw [if_pos (by simp; omega), T_at h]; rfl
theorem idxTL {l : List Nat} {c : Nat} (h : l.getLast? = some c) : idxD μ (tD l) (.int (-1)) = some (tD [c]) := by
  show (if -(lim : Int) ≤ (-1 : Int) && (-1 : Int) ≤ lim then (Txt.charAt (T l) (-1)).map fun c => D.str ⟨#[c]⟩ else none) = _
  rw [if_pos (by decide), T_last h]; rfl
theorem slcT {l : List Nat} {a b : Nat} (hab : a ≤ b) (hb : b ≤ l.length) (hl : l.length ≤ lim) : slcD μ (tD l) (.int (a : Int)) (.int (b : Int)) .none = some (tD ((l.drop a).take (b - a))) := by
  show (if (T l).length ≤ lim && (((some (a : Int)) : Option Int).getD 0).natAbs ≤ lim && (((some (b : Int)) : Option Int).getD 0).natAbs ≤ lim then some (D.str (Txt.slice (T l) (some (a : Int)) (some (b : Int)))) else none) = _
  rw [if_pos (by rw [T_len]; simp; omega), T_slc hab hb]
theorem slcT1 {l : List Nat} {a : Nat} (ha : a ≤ l.length) (hl : l.length ≤ lim) : slcD μ (tD l) (.int (a : Int)) .none .none = some (tD (l.drop a)) := by
  show (if (T l).length ≤ lim && (((some (a : Int)) : Option Int).getD 0).natAbs ≤ lim && ((none : Option Int).getD 0).natAbs ≤ lim then some (D.str (Txt.slice (T l) (some (a : Int)) none)) else none) = _
  rw [if_pos (by rw [T_len]; simp; omega), T_slc1 ha]
theorem slcTN {l : List Nat} {n : Nat} (h0 : 0 < n) (hn : n ≤ l.length) (hl : l.length ≤ lim) : slcD μ (tD l) .none (.int (-(n : Int))) .none = some (tD (l.take (l.length - n))) := by
  show (if (T l).length ≤ lim && ((none : Option Int).getD 0).natAbs ≤ lim && (((some (-(n : Int))) : Option Int).getD 0).natAbs ≤ lim then some (D.str (Txt.slice (T l) none (some (-(n : Int))))) else none) = _
  rw [if_pos (by rw [T_len]; simp; omega), T_slcN h0 hn]
theorem lenT {l : List Nat} (hl : l.length ≤ lim) : b1D μ .len (tD l) = some (.int (l.length : Int)) := by
  show (if (T l).length ≤ lim then some (D.int (T l).length) else none) = _
  rw [T_len, if_pos hl]
theorem addT {l m : List Nat} (h : l.length + m.length ≤ lim) : binD μ .Add (tD l) (tD m) = some (tD (l ++ m)) := by
  show (if (T l).length + (T m).length ≤ lim then some (D.str (T l ++ T m)) else none) = _
  rw [T_len, T_len, if_pos h, T_app]
theorem eqT {l m : List Nat} : cmpD μ .Eq (tD l) (tD m) = some (.bool (decide (l = m))) := by
  show some (D.bool (T l == T m)) = _
  rw [T_beq]
theorem neT {l m : List Nat} : cmpD μ .NotEq (tD l) (tD m) = some (.bool (!decide (l = m))) := by
  show some (D.bool (!(T l == T m))) = _
  rw [T_beq]
theorem inT {l : List Nat} {c : Nat} : cmpD μ .In (tD [c]) (tD l) = some (.bool (decide (c ∈ l))) := by
  show some (D.bool (Txt.contains (T l) (T [c]))) = _
  rw [T_in]
theorem ninT {l : List Nat} {c : Nat} : cmpD μ .NotIn (tD [c]) (tD l) = some (.bool (!decide (c ∈ l))) := by
  show some (D.bool (!Txt.contains (T l) (T [c]))) = _
  rw [T_in]
theorem truT {l : List Nat} (hl : l.length ≤ lim) : truthD μ (tD l) = some (decide (l ≠ [])) := by
  show (if (T l).length ≤ lim then some ((T l).length != 0) else none) = _
  rw [T_len, if_pos hl]
  cases l <;> simp
theorem nmT (xs : List (List Nat)) : noMls (xs.map tD) = true := by
  induction xs with
  | nil => rfl
  | cons x r ih => simpa only [List.map_cons, qnoMls0, qnoMls1, qnoMl0, qnoMl1, qnoMl2, qnoMl3, qnoMl4, qnoMl5, qnoMl6, qnoMl7, Bool.true_and] using ih
theorem frzT (l : List Nat) : frz μ (tD l) = some (tD l) := rfl
theorem hexv_hxc : ∀ n, n < 16 → hexv (hxc n) = some n := by decide
noncomputable def f_unquote : Fn := ⟨b_unquote, 1, 0, []⟩
theorem runs_unquote (o : Nat) (ho : o < 256) : Runs1 F MF f_unquote [tD [61, hxc (o / 16), hxc (o % 16)]] (tD [o]) := by
  have e1 : ev F [] [some (tD [61, hxc (o / 16), hxc (o % 16)])] (.slc (.var 0) (.lit (.int (1))) (.lit (.int (3))) (.lit .none)) = some (tD [hxc (o / 16), hxc (o % 16)]) :=
    ev_slc (ev_var rfl) ev_lit ev_lit ev_lit (slcT (a := 1) (b := 3) (by omega) (by simp) (by simp [lim]))
  have e2 : ev F [] [some (tD [61, hxc (o / 16), hxc (o % 16)])] (.int2 (.slc (.var 0) (.lit (.int (1))) (.lit (.int (3))) (.lit .none)) (.lit (.int (16)))) = some (.int (o : Int)) := by
    refine ev_int2 e1 ev_lit ?_
    show (((hexv (hxc (o / 16))).bind fun p => (hexv (hxc (o % 16))).bind fun q => if List.isEmpty ([] : List Nat) then some (p * 16 + q) else none).map fun (n : Nat) => D.int n) = _
    rw [hexv_hxc _ (by omega), hexv_hxc _ (by omega)]
    show some (D.int ((o / 16 * 16 + o % 16 : Nat) : Int)) = _
    rw [show o / 16 * 16 + o % 16 = o by omega]
  have key : RL F MF b_unquote [some (tD [61, hxc (o / 16), hxc (o % 16)])] [] (.ret (tD [o]), _, []) := RL.out (RS.ret (ev_b1 e2 (by
    show (if 0 ≤ (o : Int) && (o : Int) < 256 then some (D.str ⟨#[(o : Int).toNat]⟩) else none) = _
    rw [if_pos (by simp; omega)]; rfl))) rfl
  exact ⟨rfl, rfl, _, _, _, key, rfl⟩
end
end Mine
end
section
namespace Mine
noncomputable def okO (o : Nat) : Prop := o = 9 ∨ (32 ≤ o ∧ o < 256)
noncomputable def sp (os : List Nat) : List Nat := os.flatMap sgn
theorem okO.lt {o : Nat} (h : okO o) : o < 256 := by rcases h with h | h <;> omega
theorem sp_cons (o : Nat) (os : List Nat) : sp (o :: os) = sgn o ++ sp os := rfl
theorem sgn_ne (o : Nat) : sgn o ≠ [] := by unfold sgn; split <;> simp
theorem sp_nil {os : List Nat} (h : sp os = []) : os = [] := by
  cases os with
  | nil => rfl
  | cons o r => rw [sp_cons] at h; exact absurd (List.append_eq_nil_iff.mp h).1 (sgn_ne o)
theorem hex_in : ∀ n, n < 16 → hxc n ∈ hexs := by decide
section
variable {F : Nat → List D → Option D} {MF : Nat → List D → List D → Option (List D × D)} {ρ ρ' : Sto} {μ μ' : Mus} {r : Out × Sto × Mus} {d : D} {e c a f : PX} {ps b : List PS} {p : PS} {sl l k : Nat} {o : Out}
noncomputable def f_decode : Fn := ⟨b_decode, 1, 5, [tD [10]]⟩
noncomputable abbrev bodyDec : List PS := [(.asg 6 (.idx (.var 3) (.var 4))), (.ite (.cmp .NotEq (.var 6) (.lit (.str ⟨#[61]⟩))) [(.aug 2 .Add (.var 6)), (.aug 4 .Add (.lit (.int (1))))] [(.ite (.cmp .Eq (.bin .Add (.var 4) (.lit (.int (1)))) (.var 5)) [(.aug 4 .Add (.lit (.int (1)))), .cont] [(.ite (.and [(.cmp .Lt (.bin .Add (.var 4) (.lit (.int (2)))) (.var 5)), (.cmp .In (.idx (.var 3) (.bin .Add (.var 4) (.lit (.int (1))))) (.glob 0)), (.cmp .In (.idx (.var 3) (.bin .Add (.var 4) (.lit (.int (2))))) (.glob 0))]) [(.aug 2 .Add (.call 0 [(.slc (.var 3) (.var 4) (.bin .Add (.var 4) (.lit (.int (3)))) (.lit .none))])), (.aug 4 .Add (.lit (.int (3))))] [(.aug 2 .Add (.var 6)), (.aug 4 .Add (.lit (.int (1))))])])]), (.ite (.cmp .Eq (.var 4) (.var 5)) [(.aug 2 .Add (.var 1))] [])]
noncomputable abbrev roD (enc acc l : List Nat) (i n : Nat) (x6 : Option D) : Sto := [some (tD enc), some (tD [10]), some (tD acc), some (tD l), some (.int (i : Int)), some (.int (n : Int)), x6]
theorem augT {l m : List Nat} (h : l.length + m.length ≤ lim) : augD .Add (tD l) (tD m) = some (tD (l ++ m)) := by
  show (if (T l).length + (T m).length ≤ lim then some (D.str (T l ++ T m)) else none) = _
  rw [T_len, T_len, if_pos h, T_app]
theorem and3 {x y z : PX} (h1 : ev F μ ρ x = some (.bool true)) (h2 : ev F μ ρ y = some (.bool true)) (h3 : ev F μ ρ z = some d) : ev F μ ρ (.and [x, y, z]) = some d := by show evAnd _ _ _ _ = _; simp only [qevAnd0, qevAnd1, h1, h2, h3, truthD]
theorem ev_glob {i : Nat} (h : Gv[i]? = some d) : ev F μ ρ (.glob i) = some d := h
theorem fin_dec {enc l : List Nat} {soft : Bool} {acc os : List Nat} {i j : Nat} {x6 y6 : Option D} (hi : i < l.length) (hj : j ≤ l.length) (hd : l.drop j = sp os ++ (if soft then [61] else [])) (hacc : acc.length + 1 ≤ lim)
    (h1 : RS F MF (.asg 6 (.idx (.var 3) (.var 4))) (roD enc ac0 l i l.length x6) [] (.next, roD enc ac0 l i l.length y6, []))
    (h2 : RS F MF bodyDec[1] (roD enc ac0 l i l.length y6) [] (.next, roD enc acc l j l.length y6, []))
    (ih : ∃ z6, RS F MF (.whl (.cmp .Lt (.var 4) (.var 5)) bodyDec) (roD enc acc l j l.length y6) [] (.next, roD enc (acc ++ os ++ (if soft || os.isEmpty then [] else [10])) l l.length l.length z6, [])) :
    ∃ z6, RS F MF (.whl (.cmp .Lt (.var 4) (.var 5)) bodyDec) (roD enc ac0 l i l.length x6) [] (.next, roD enc (acc ++ os ++ (if soft then [] else [10])) l l.length l.length z6, []) := by
  have hc : ev F [] (roD enc ac0 l i l.length x6) (.cmp .Lt (.var 4) (.var 5)) = some (.bool true) := by
    refine ev_cmp (ev_var rfl) (ev_var rfl) ?_
    show some (D.bool (decide ((i : Int) < (l.length : Int)))) = _
    rw [decide_eq_true (by omega)]
  have he : ev F [] (roD enc acc l j l.length y6) (.cmp .Eq (.var 4) (.var 5)) = some (.bool (decide (j = l.length))) := by
    refine ev_cmp (ev_var rfl) (ev_var rfl) ?_
    show some (D.bool ((j : Int) == (l.length : Int))) = _
    by_cases q : j = l.length
    · simp [q]
    · rw [decide_eq_false q]
      have : ((j : Int) == (l.length : Int)) = false := beq_false_of_ne (by omega)
      rw [this]
  by_cases q : j = l.length
  · have h0 : l.drop j = [] := by rw [q]; exact List.drop_length
    rw [h0] at hd
    obtain ⟨q1, q2⟩ := List.append_eq_nil_iff.mp hd.symm
    have hs : soft = false := by
      cases soft with
      | false => rfl
      | true => cases q2
    have ho := sp_nil q1
    subst hs ho q
    have e1 : RS F MF (.ite (.cmp .Eq (.var 4) (.var 5)) [(.aug 2 .Add (.var 1))] []) (roD enc acc l l.length l.length y6) [] (.next, roD enc (acc ++ [10]) l l.length l.length y6, []) := by
      refine RS.ite (t := true) (he.trans (by rw [decide_eq_true rfl])) rfl (RL.cons (RS.aug (x := tD acc) (y := tD [10]) rfl (ev_var rfl) (augT hacc)) RL.nil)
    refine ⟨y6, RS.whl_go (o := .next) hc rfl (RL.cons h1 (RL.cons h2 (RL.cons e1 RL.nil))) rfl ?_⟩
    rw [List.append_nil]
    refine RS.whl_no (d := .bool false) (ev_cmp (ev_var rfl) (ev_var rfl) ?_) rfl
    show some (D.bool (decide ((l.length : Int) < (l.length : Int)))) = _
    rw [decide_eq_false (by omega)]
  · have hs : (soft || os.isEmpty) = soft := by
      cases soft with
      | true => rfl
      | false =>
        cases os with
        | nil =>
          have := congrArg List.length hd
          simp [sp] at this
          omega
        | cons => rfl
    rw [hs] at ih
    obtain ⟨z6, ih⟩ := ih
    exact ⟨z6, RS.whl_go (o := .next) hc rfl (RL.cons h1 (RL.cons h2 (RL.cons (RS.ite (t := false) (he.trans (by rw [decide_eq_false q])) rfl RL.nil) RL.nil))) rfl ih⟩
theorem dropT_at {l r : List Nat} {i j : Nat} {c : Nat} (h : l.drop i = r) (hj : r[j]? = some c) : l[i + j]? = some c := by
  subst h; rwa [List.getElem?_drop] at hj
theorem loop_dec (hG : Gv[0]? = some (tD hexs)) (hU : ∀ o, o < 256 → F 0 [tD [61, hxc (o / 16), hxc (o % 16)]] = some (tD [o])) {enc l : List Nat} (soft : Bool) (hl : l.length ≤ 1000) : ∀ (os : List Nat) (i : Nat) (acc : List Nat) (x6 : Option D), (∀ o ∈ os, okO o) →
    l.drop i = sp os ++ (if soft then [61] else []) → i ≤ l.length → acc.length + os.length + 1 ≤ lim →
    ∃ y6, RS F MF (.whl (.cmp .Lt (.var 4) (.var 5)) bodyDec) (roD enc acc l i l.length x6) [] (.next, roD enc (acc ++ os ++ (if soft || os.isEmpty then [] else [10])) l l.length l.length y6, [])
  | [], i, acc, x6, _, hd, hi, ha => by
    have hlim : (lim : Nat) = 100000 := rfl
    have hlen := congrArg List.length hd
    cases soft with
    | false =>
      simp [sp] at hlen
      have : i = l.length := by omega
      subst this
      refine ⟨x6, ?_⟩
      simp only [List.isEmpty_nil, Bool.or_true, if_true, List.append_nil]
      refine RS.whl_no (d := .bool false) (ev_cmp (ev_var rfl) (ev_var rfl) ?_) rfl
      show some (D.bool (decide ((l.length : Int) < (l.length : Int)))) = _
      rw [decide_eq_false (by omega)]
    | true =>
      simp [sp] at hlen
      have h0 : l[i]? = some 61 := dropT_at (j := 0) hd rfl
      have e1 : ∀ x, ev F [] (roD enc acc l i l.length x) (.idx (.var 3) (.var 4)) = some (tD [61]) := fun x => ev_idx (ev_var rfl) (ev_var rfl) (idxT (by omega) h0)
      refine ⟨some (tD [61]), ?_⟩
      simp only [Bool.true_or, if_true, List.append_nil]
      refine RS.whl_go (o := .cont) (d := .bool true) (ev_cmp (ev_var rfl) (ev_var rfl) ?_) rfl (RL.cons (RS.asg (e1 _)) (RL.out (RS.ite (t := false) (d := .bool false) (ev_cmp (ev_var rfl) ev_lit rfl) rfl (RL.out (RS.ite (t := true) (d := .bool true) (ev_cmp (ev_bin (ev_var rfl) ev_lit rfl) (ev_var rfl) ?_) rfl (RL.cons (RS.aug (x := .int i) (y := .int 1) (d := .int (l.length : Int)) rfl ev_lit ?_) (RL.out RS.cont rfl))) rfl)) rfl)) rfl (RS.whl_no (d := .bool false) (ev_cmp (ev_var rfl) (ev_var rfl) ?_) rfl)
      · show some (D.bool (decide ((i : Int) < (l.length : Int)))) = _
        rw [decide_eq_true (by omega)]
      · show some (D.bool ((i : Int) + 1 == (l.length : Int))) = _
        have : ((i : Int) + 1 == (l.length : Int)) = true := beq_iff_eq.mpr (by omega)
        rw [this]
      · show some (D.int ((i : Int) + 1)) = _
        rw [show (i : Int) + 1 = (l.length : Int) by omega]
      · show some (D.bool (decide ((l.length : Int) < (l.length : Int)))) = _
        rw [decide_eq_false (by omega)]
  | o :: os, i, acc, x6, hok, hd, hi, ha => by
    have hlim : (lim : Nat) = 100000 := rfl
    have ho := (hok o (.head _)).lt
    simp only [List.length_cons] at ha
    rw [sp_cons, List.append_assoc] at hd
    have hlen := congrArg List.length hd
    simp only [List.length_drop, List.length_append] at hlen
    have goal : (soft || (o :: os).isEmpty) = soft := by simp
    rw [goal, show acc ++ o :: os = (acc ++ [o]) ++ os by simp]
    cases hw : wide o with
    | false =>
      have hs : sgn o = [o] := by unfold sgn; rw [hw]; rfl
      rw [hs] at hd hlen
      have hne : o ≠ 61 := by rintro rfl; cases hw
      have h0 : l[i]? = some o := dropT_at (j := 0) hd rfl
      simp only [List.length_cons, List.length_nil] at hlen
      have hd' : l.drop (i + 1) = sp os ++ (if soft then [61] else []) := by
        rw [← List.drop_drop, hd]; rfl
      refine fin_dec (j := i + 1) (y6 := some (tD [o])) (by omega) (by omega) hd' (by simp; omega) (RS.asg (ev_idx (ev_var rfl) (ev_var rfl) (idxT (by omega) h0))) ?_ (loop_dec hG hU soft hl os (i + 1) (acc ++ [o]) (some (tD [o])) (fun q m => hok q (.tail _ m)) hd' (by omega) (by simp; omega))
      refine RS.ite (t := true) (d := .bool true) (ev_cmp (ev_var rfl) ev_lit ?_) rfl (RL.cons (RS.aug (x := tD acc) (y := tD [o]) rfl (ev_var rfl) (augT (by simp; omega))) (RL.cons (RS.aug (x := .int i) (y := .int 1) rfl ev_lit rfl) RL.nil))
      refine neT.trans ?_
      rw [decide_eq_false (by simpa using hne)]; rfl
    | true =>
      have hs : sgn o = [61, hxc (o / 16), hxc (o % 16)] := by unfold sgn; rw [hw]; rfl
      rw [hs] at hd hlen
      have h0 : l[i]? = some 61 := dropT_at (j := 0) hd rfl
      have h1 : l[i + 1]? = some (hxc (o / 16)) := dropT_at (j := 1) hd rfl
      have h2 : l[i + 2]? = some (hxc (o % 16)) := dropT_at (j := 2) hd rfl
      simp only [List.length_cons, List.length_nil] at hlen
      have hd' : l.drop (i + 3) = sp os ++ (if soft then [61] else []) := by
        rw [← List.drop_drop, hd]; rfl
      have hcut : (l.drop i).take (i + 3 - i) = [61, hxc (o / 16), hxc (o % 16)] := by
        rw [hd, show i + 3 - i = 3 by omega]; rfl
      have hsl := slcT (μ := []) (l := l) (a := i) (b := i + 3) (by omega) (by omega) (by omega)
      rw [hcut] at hsl
      refine fin_dec (j := i + 3) (y6 := some (tD [61])) (by omega) (by omega) hd' (by simp; omega) (RS.asg (ev_idx (ev_var rfl) (ev_var rfl) (idxT (by omega) h0))) ?_ (loop_dec hG hU soft hl os (i + 3) (acc ++ [o]) (some (tD [61])) (fun q m => hok q (.tail _ m)) hd' (by omega) (by simp; omega))
      refine RS.ite (t := false) (d := .bool false) (ev_cmp (ev_var rfl) ev_lit rfl) rfl (RL.cons (RS.ite (t := false) (d := .bool false) (ev_cmp (ev_bin (ev_var rfl) ev_lit rfl) (ev_var rfl) ?_) rfl (RL.cons (RS.ite (t := true) (d := .bool true) (and3 (ev_cmp (ev_bin (ev_var rfl) ev_lit rfl) (ev_var rfl) ?_) (ev_cmp (ev_idx (ev_var rfl) (ev_bin (ev_var rfl) ev_lit rfl) (idxT (i := i + 1) (by omega) h1)) (ev_glob hG) ?_) (ev_cmp (ev_idx (ev_var rfl) (ev_bin (ev_var rfl) ev_lit rfl) (idxT (i := i + 2) (by omega) h2)) (ev_glob hG) ?_)) rfl
        (RL.cons (RS.aug (x := tD acc) (y := tD [o]) rfl (ev_call (evL_cons (ev_slc (ev_var rfl) (ev_var rfl) (ev_bin (ev_var rfl) ev_lit rfl) ev_lit hsl) evL_nil) (hU o ho)) (augT (by simp; omega))) (RL.cons (RS.aug (x := .int i) (y := .int 3) rfl ev_lit rfl) RL.nil))) RL.nil)) RL.nil)
      · show some (D.bool ((i : Int) + 1 == (l.length : Int))) = _
        have : ((i : Int) + 1 == (l.length : Int)) = false := beq_false_of_ne (by omega)
        rw [this]
      · show some (D.bool (decide ((i : Int) + 2 < (l.length : Int)))) = _
        rw [decide_eq_true (by omega)]
      · refine inT.trans ?_
        rw [decide_eq_true (hex_in _ (by omega))]
      · refine inT.trans ?_
        rw [decide_eq_true (hex_in _ (by omega))]
end
end Mine
end
section
namespace Mine
noncomputable def lineOf (q : List Nat × Bool) : List Nat := sp q.1 ++ (if q.2 then [61] else [])
noncomputable def rawOf (q : List Nat × Bool) : List Nat := q.1 ++ (if q.2 then [] else [10])
structure LnOK (q : List Nat × Bool) : Prop where
  ok : ∀ o ∈ q.1, okO o
  lst : q.2 = true ∨ q.1.getLast? = some 46
  len : (lineOf q).length ≤ 1000
theorem LnOK.last {q : List Nat × Bool} (h : LnOK q) : ∃ c, (lineOf q).getLast? = some c ∧ (c = 61 ∨ c = 46) := by
  rcases h.lst with e | e
  · exact ⟨61, by unfold lineOf; rw [e]; simp, .inl rfl⟩
  · cases hq : q.2 with
    | true => exact ⟨61, by unfold lineOf; rw [hq]; simp, .inl rfl⟩
    | false =>
      refine ⟨46, ?_, .inr rfl⟩
      unfold lineOf
      rw [hq]
      obtain ⟨ys, e⟩ := List.getLast?_eq_some_iff.mp e
      rw [e]
      simp [sp, sgn, wide]
theorem rawOf_len (q : List Nat × Bool) : (rawOf q).length ≤ q.1.length + 1 := by unfold rawOf; split <;> simp
theorem sgn_len (o : Nat) : 1 ≤ (sgn o).length := by unfold sgn; split <;> simp
theorem sp_len (os : List Nat) : os.length ≤ (sp os).length := by
  induction os with
  | nil => exact Nat.le_refl _
  | cons o r ih => rw [sp_cons]; have := sgn_len o; simp; omega
theorem lineOf_len (q : List Nat × Bool) : q.1.length ≤ (lineOf q).length := by unfold lineOf; have := sp_len q.1; simp; omega
theorem nobrk_small : ∀ c, c < 127 → (c = 9 ∨ 32 ≤ c) → Unicode.isLineBreak c = false := by
  have : ∀ c : Fin 127, (c.val = 9 ∨ 32 ≤ c.val) → Unicode.isLineBreak c.val = false := by decide +kernel
  exact fun c h => this ⟨c, h⟩
theorem hxc_lt {n : Nat} (h : n < 16) : 32 ≤ hxc n ∧ hxc n < 127 := by unfold hxc; split <;> omega
theorem sgn_small {o : Nat} (h : okO o) : ∀ c ∈ sgn o, c < 127 ∧ (c = 9 ∨ 32 ≤ c) := by
  intro c m
  unfold sgn at m
  have ho := h.lt
  split at m
  · have h1 := hxc_lt (n := o / 16) (by omega)
    have h2 := hxc_lt (n := o % 16) (by omega)
    simp only [List.mem_cons, List.not_mem_nil, or_false] at m
    rcases m with rfl | rfl | rfl
    · exact ⟨by omega, .inr (by omega)⟩
    · exact ⟨h1.2, .inr h1.1⟩
    · exact ⟨h2.2, .inr h2.1⟩
  · rename_i hw
    have : c = o := by simpa using m
    subst this
    unfold wide at hw
    simp only [Bool.or_eq_true, decide_eq_true_eq, not_or] at hw
    rcases h with h | h
    · exact ⟨by omega, .inl h⟩
    · exact ⟨by omega, .inr h.1⟩
theorem sp_small {os : List Nat} (h : ∀ o ∈ os, okO o) : ∀ c ∈ sp os, c < 127 ∧ (c = 9 ∨ 32 ≤ c) := by
  intro c m
  obtain ⟨o, m1, m2⟩ := List.mem_flatMap.mp m
  exact sgn_small (h o m1) c m2
theorem LnOK.small {q : List Nat × Bool} (h : LnOK q) : ∀ c ∈ lineOf q, c < 127 ∧ (c = 9 ∨ 32 ≤ c) := by
  intro c m
  rcases List.mem_append.mp m with m | m
  · exact sp_small h.ok c m
  · split at m
    · have : c = 61 := by simpa using m
      subst this; exact ⟨by omega, .inr (by omega)⟩
    · cases m
theorem LnOK.nobrk {q : List Nat × Bool} (h : LnOK q) : noBrk (lineOf q) := fun c m => let ⟨a, b⟩ := h.small c m; nobrk_small c a b
theorem LnOK.no10 {q : List Nat × Bool} (h : LnOK q) : 10 ∉ lineOf q := fun m => by have := h.small 10 m; omega
section
variable {F : Nat → List D → Option D} {MF : Nat → List D → List D → Option (List D × D)} {ρ ρ' : Sto} {μ μ' : Mus} {r : Out × Sto × Mus} {d : D} {e c a f : PX} {ps b : List PS} {p : PS} {sl l k : Nat} {o : Out}
noncomputable abbrev turnDec : List PS := [(.asg 3 (.meth0 .rstrip (.var 3))), (.ite (.not (.var 3)) [(.aug 2 .Add (.var 1)), .cont] []), (.asg 4 (.lit (.int (0)))), (.asg 5 (.b1 .len (.var 3))), (.whl (.cmp .Lt (.var 4) (.var 5)) bodyDec)]
theorem lines_dec (hG : Gv[0]? = some (tD hexs)) (hU : ∀ o, o < 256 → F 0 [tD [61, hxc (o / 16), hxc (o % 16)]] = some (tD [o])) {enc : List Nat} : ∀ (cs : List (List Nat × Bool)) (acc : List Nat) (x3 x4 x5 x6 : Option D), (∀ q ∈ cs, LnOK q) → acc.length + (cs.flatMap rawOf).length ≤ 9000 →
    ∃ y3 y4 y5 y6, RF F MF 3 turnDec (cs.map fun q => tD (lineOf q)) [some (tD enc), some (tD [10]), some (tD acc), x3, x4, x5, x6] [] (.next, [some (tD enc), some (tD [10]), some (tD (acc ++ cs.flatMap rawOf)), y3, y4, y5, y6], [])
  | [], acc, x3, x4, x5, x6, _, _ => ⟨x3, x4, x5, x6, by rw [List.flatMap_nil, List.append_nil]; exact RF.nil⟩
  | q :: cs, acc, x3, x4, x5, x6, h, ha => by
    have hlim : (lim : Nat) = 100000 := rfl
    have hq := h q (.head _)
    have hl := hq.len
    obtain ⟨c, hc, hc'⟩ := hq.last
    have hne : lineOf q ≠ [] := by intro z; rw [z] at hc; cases hc
    have hsp : Unicode.isSpace c = false := by rcases hc' with rfl | rfl <;> decide +kernel
    have hol := lineOf_len q
    have hr : rawOf q = q.1 ++ (if q.2 || q.1.isEmpty then [] else [10]) := by
      unfold rawOf
      rcases hq.lst with e | e
      · rw [e]; rfl
      · have : q.1.isEmpty = false := by cases h1 : q.1 with | nil => rw [h1] at e; cases e | cons => rfl
        rw [this, Bool.or_false]
    rw [List.flatMap_cons, List.length_append] at ha
    have hrl : q.1.length ≤ (rawOf q).length := by unfold rawOf; simp
    obtain ⟨z6, lp⟩ := loop_dec (F := F) (MF := MF) hG hU (enc := enc) (l := lineOf q) q.2 hl q.1 0 acc x6 hq.ok rfl (Nat.zero_le _) (by omega)
    rw [List.append_assoc, ← hr] at lp
    obtain ⟨y3, y4, y5, y6, ih⟩ := lines_dec hG hU (enc := enc) cs (acc ++ rawOf q) (some (tD (lineOf q))) (some (.int ((lineOf q).length : Int))) (some (.int ((lineOf q).length : Int))) z6 (fun q m => h q (.tail _ m)) (by rw [List.length_append]; omega)
    refine ⟨y3, y4, y5, y6, RF.go (o := .next) (RL.cons (RS.asg (d := tD (lineOf q)) (ev_meth0 (ev_var rfl) ?_)) (RL.cons (RS.ite (t := false) (ev_not (t := true) (x := tD (lineOf q)) (ev_var rfl) ?_) rfl RL.nil) (RL.cons (RS.asg ev_lit) (RL.cons (RS.asg (ev_b1 (ev_var rfl) (lenT (l := lineOf q) (by omega)))) (RL.cons lp RL.nil))))) rfl ?_⟩
    · show (if (T (lineOf q)).length ≤ lim then some (D.str (Txt.rstrip (T (lineOf q)))) else none) = _
      rw [T_len, if_pos (by omega), T_rstrip hc hsp]
    · rw [truT (by omega), decide_eq_true hne]
    · rw [List.flatMap_cons, ← List.append_assoc]; exact ih
noncomputable def decF (raw : List Nat) : List Nat := if raw.getLast? = some 10 then raw.dropLast else raw
theorem join_last {ls : List (List Nat)} {y : List Nat} {c : Nat} (h : ls.getLast? = some y) (hc : y.getLast? = some c) : (joinN [10] ls).getLast? = some c := by
  induction ls with
  | nil => cases h
  | cons x r ih => cases r with
    | nil =>
      have : x = y := by simpa using h
      subst this; exact hc
    | cons z r =>
      have e := ih (by simpa using h)
      show (x ++ [10] ++ joinN [10] (z :: r)).getLast? = some c
      rw [List.getLast?_append, e]; rfl
theorem runs_decode (hG : Gv[0]? = some (tD hexs)) (hU : ∀ o, o < 256 → F 0 [tD [61, hxc (o / 16), hxc (o % 16)]] = some (tD [o])) (cs : List (List Nat × Bool)) (h : ∀ q ∈ cs, LnOK q) (h0 : cs ≠ []) (hr : (cs.flatMap rawOf).length ≤ 9000) (he : (joinN [10] (cs.map lineOf)).length ≤ 9000) :
    Runs1 F MF f_decode [tD (joinN [10] (cs.map lineOf))] (tD (decF (cs.flatMap rawOf))) := by
  have hlim : (lim : Nat) = 100000 := rfl
  obtain ⟨q, hq⟩ : ∃ q, cs.getLast? = some q := by cases hq : cs.getLast? with | none => exact absurd (List.getLast?_eq_none_iff.mp hq) h0 | some q => exact ⟨q, rfl⟩
  obtain ⟨c, hc, hc'⟩ := (h q (List.mem_of_getLast? hq)).last
  have hlast : (cs.map lineOf).getLast? = some (lineOf q) := by rw [List.getLast?_map, hq]; rfl
  have hel := join_last hlast hc
  have hlines := T_lines (ls := cs.map lineOf) (fun x m => by obtain ⟨q, m', rfl⟩ := List.mem_map.mp m; exact (h q m').nobrk) ⟨_, hlast, by intro z; rw [z] at hc; cases hc⟩
  generalize hE : joinN [10] (cs.map lineOf) = enc at hel hlines he ⊢
  generalize hR : cs.flatMap rawOf = raw at hr
  obtain ⟨y3, y4, y5, y6, lp⟩ := lines_dec (F := F) (MF := MF) hG hU (enc := enc) cs [] none none none none h (by rw [hR]; simpa using hr)
  rw [hR, List.nil_append] at lp
  have hene : enc ≠ [] := by intro z; rw [z] at hel; cases hel
  let ρ1 : Sto := [some (tD enc), some (tD [10]), some (tD raw), y3, y4, y5, y6]
  have ecnd : ev F [] ρ1 (.and [(.cmp .NotIn (.idx (.var 0) (.neg (.lit (.int (1))))) (.lit (.str ⟨#[13, 10]⟩))), (.meth1 .endswith (.var 2) (.var 1))]) = some (.bool (decide (raw.getLast? = some 10))) := by
    refine and_yes (ev_cmp (ev_idx (ev_var rfl) (y := .int (-1)) rfl (idxTL hel)) ev_lit (d := .bool true) ?_) (ev_meth1 (ev_var rfl) (ev_var rfl) ?_)
    · refine (ninT (l := [13, 10])).trans ?_
      rw [decide_eq_false (by rcases hc' with rfl | rfl <;> simp)]; rfl
    · show some (D.bool (Txt.endswith (T raw) (T [10]))) = _
      rw [T_ends]
  have tail : RL F MF [(.ite (.and [(.cmp .NotIn (.idx (.var 0) (.neg (.lit (.int (1))))) (.lit (.str ⟨#[13, 10]⟩))), (.meth1 .endswith (.var 2) (.var 1))]) [(.asg 2 (.slc (.var 2) (.lit .none) (.neg (.b1 .len (.var 1))) (.lit .none)))] []), (.ret (some (.var 2)))] ρ1 [] (.ret (tD (decF raw)), [some (tD enc), some (tD [10]), some (tD (decF raw)), y3, y4, y5, y6], []) := by
    by_cases hq : raw.getLast? = some 10
    · have hne : 1 ≤ raw.length := by cases raw with | nil => cases hq | cons => simp
      have hdf : decF raw = raw.take (raw.length - 1) := by unfold decF; rw [if_pos hq, List.dropLast_eq_take]
      refine RL.cons (RS.ite (t := true) (ecnd.trans (by rw [decide_eq_true hq])) rfl (RL.cons (RS.asg (d := tD (decF raw)) (ev_slc (ev_var rfl) ev_lit (z := .int (-1)) rfl ev_lit ?_)) RL.nil)) (RL.out (RS.ret (ev_var rfl)) rfl)
      rw [hdf]
      exact slcTN (n := 1) (by omega) hne (by omega)
    · have hdf : decF raw = raw := by unfold decF; rw [if_neg hq]
      rw [hdf]
      exact RL.cons (RS.ite (t := false) (ecnd.trans (by rw [decide_eq_false hq])) rfl RL.nil) (RL.out (RS.ret (ev_var rfl)) rfl)
  have key : RL F MF b_decode [some (tD enc), some (tD [10]), none, none, none, none, none] [] (.ret (tD (decF raw)), [some (tD enc), some (tD [10]), some (tD (decF raw)), y3, y4, y5, y6], []) := by
    refine RL.cons (RS.ite (t := false) (ev_not (t := true) (x := tD enc) (ev_var rfl) ?_) rfl RL.nil) (RL.cons (RS.asg (d := tD []) ev_lit) (RL.cons (RS.for1 (xs := cs.map fun q => tD (lineOf q)) (evI_seq (ev_meth0 (ev_var rfl) ?_)) ?_ lp) tail))
    · rw [truT (by omega), decide_eq_true hene]
    · show (if (T enc).length ≤ lim then some (D.list ((Txt.lines (T enc)).map .str)) else none) = _
      rw [T_len, if_pos (by omega), hlines]
      simp [List.map_map, Function.comp_def]
    · have := nmT (cs.map lineOf)
      rwa [List.map_map] at this
  exact ⟨rfl, rfl, _, _, _, key, rfl⟩
end
end Mine
end
section
namespace Mine
noncomputable def takeN : Nat → List Nat → Nat
  | _, [] => 0
  | r, o :: os => if (sgn o).length ≤ r then takeN (r - (sgn o).length) os + 1 else 0
noncomputable def gr (w : Nat) : Nat → List Nat → List (List Nat)
  | 0, os => [os]
  | n + 1, os => if (sp os).length ≤ w then [os] else os.take (takeN (w - 1) os) :: gr w n (os.drop (takeN (w - 1) os))
noncomputable def softs : List (List Nat) → List (List Nat × Bool)
  | [] => []
  | [x] => [(x, false)]
  | x :: r => (x, true) :: softs r
theorem qsofts0  : softs [] = [] := rfl
theorem qsofts1 {x : List Nat} : softs [x] = [(x, false)] := rfl
theorem qsofts2 {x y : List Nat} {r : List (List Nat)} : softs (x :: y :: r) = (x, true) :: softs (y :: r) := rfl
theorem gr_ne (w n : Nat) (os : List Nat) : ∃ x r, gr w n os = x :: r := by
  cases n with
  | zero => exact ⟨_, _, rfl⟩
  | succ n => unfold gr; split <;> exact ⟨_, _, rfl⟩
theorem takeN_spec : ∀ (os : List Nat) (r : Nat), takeN r os ≤ os.length ∧ (sp (os.take (takeN r os))).length ≤ r ∧ ∀ o, os[takeN r os]? = some o → r < (sp (os.take (takeN r os))).length + (sgn o).length
  | [], r => ⟨Nat.le_refl _, Nat.zero_le _, fun o h => by cases h⟩
  | o :: os, r => by
    unfold takeN
    by_cases h : (sgn o).length ≤ r
    · rw [if_pos h]
      obtain ⟨h1, h2, h3⟩ := takeN_spec os (r - (sgn o).length)
      refine ⟨by simp; lia, by rw [List.take_succ_cons, sp_cons, List.length_append]; lia, fun o' h' => ?_⟩
      have := h3 o' (by simpa using h')
      rw [List.take_succ_cons, sp_cons, List.length_append]; lia
    · rw [if_neg h]
      refine ⟨Nat.zero_le _, Nat.zero_le _, fun o' h' => ?_⟩
      have : o = o' := by simpa using h'
      subst this
      simp [sp]; lia
theorem eq_far : ∀ (xs : List Nat) (j : Nat), (sp xs)[j]? = some 61 → j + 3 ≤ (sp xs).length
  | [], j, h => by cases h
  | o :: r, j, h => by
    rw [sp_cons] at h ⊢
    rw [List.length_append]
    cases hw : wide o with
    | false =>
      have hs : sgn o = [o] := by unfold sgn; rw [hw]; rfl
      rw [hs] at h ⊢
      cases j with
      | zero =>
        have : o = 61 := by simpa using h
        subst this; cases hw
      | succ j =>
        have := eq_far r j (by simpa using h)
        simp only [List.length_cons, List.length_nil]; lia
    | true =>
      have hs : sgn o = [61, hxc (o / 16), hxc (o % 16)] := by unfold sgn; rw [hw]; rfl
      rw [hs] at h ⊢
      simp only [List.length_cons, List.length_nil]
      match j, h with
      | 0, h => lia
      | 1, h =>
        have : hxc (o / 16) = 61 := by simpa using h
        unfold hxc at this
        split at this
        · lia
        · have e : o / 16 = 6 := by lia
          lia
      | 2, h =>
        have : hxc (o % 16) = 61 := by simpa using h
        unfold hxc at this
        split at this <;> lia
      | j + 3, h =>
        have := eq_far r j (by simpa using h)
        lia
theorem sp_app (a b : List Nat) : sp (a ++ b) = sp a ++ sp b := by simp [sp]
theorem sp_split (os : List Nat) (p : Nat) : sp os = sp (os.take p) ++ sp (os.drop p) := by rw [← sp_app, List.take_append_drop]
theorem qmap_sgn {o : Nat} (h : okO o) : qmap o = sgn o := by
  unfold qmap sgn wide
  rcases h with rfl | ⟨h1, h2⟩
  · rfl
  · by_cases h : o = 61
    · subst h; rfl
    · by_cases h3 : 126 < o
      · rw [if_neg (by lia), if_pos (by simp [h3])]
      · rw [if_pos (by lia), if_neg (by simp [h, h3])]
theorem qtab_at {c : Nat} (h : c < 256) : qtab[c]? = some (tD (qmap c)) := by simp [qtab, h]
theorem trStr_sp : ∀ (os : List Nat), (∀ o ∈ os, okO o) → trStr qtab os = some (sp os)
  | [], _ => rfl
  | o :: os, h => by
    have ho := h o (.head _)
    simp only [qtrStr0, qtrStr1, qtab_at ho.lt, trStr_sp os fun q m => h q (.tail _ m), Option.map_some, qmap_sgn ho]
    rw [sp_cons]
theorem qtab_all : (qtab.all fun | .str y => y.length ≤ 3 | _ => false) = true := by
  rw [List.all_eq_true]
  intro x m
  obtain ⟨c, _, rfl⟩ := List.mem_map.mp m
  show decide ((T (qmap c)).length ≤ 3) = true
  rw [T_len]
  unfold qmap
  split <;> simp
section
variable {F : Nat → List D → Option D} {MF : Nat → List D → List D → Option (List D × D)} {ρ ρ' : Sto} {μ μ' : Mus} {r : Out × Sto × Mus} {d : D} {e c a f : PX} {ps b : List PS} {p : PS} {sl l k : Nat} {o : Out}
noncomputable def f_encode : Fn := ⟨b_bodyencode, 2, 10, [tD [10]]⟩
noncomputable abbrev roE (bd : List Nat) (w : Nat) (l : List Nat) (i : Nat) (x10 : Option D) : Sto := [some (tD bd), some (.int (w : Int)), some (tD [10]), some (tD [61, 10]), some (.int ((w : Int) - 1)), some (.ml 0), some (.bm 0), some (tD l), some (.int (i : Int)), some (.int ((l.length : Int) - 1 - w)), x10, none, none]
noncomputable abbrev bodyEnc : List PS := [(.asg 10 (.bin .Add (.var 8) (.var 4))), (.ite (.cmp .Eq (.idx (.var 7) (.bin .Sub (.var 10) (.lit (.int (2))))) (.lit (.str ⟨#[61]⟩))) [(.appB 6 (.slc (.var 7) (.var 8) (.bin .Sub (.var 10) (.lit (.int (1)))) (.lit .none))), (.asg 8 (.bin .Sub (.var 10) (.lit (.int (2)))))] [(.ite (.cmp .Eq (.idx (.var 7) (.bin .Sub (.var 10) (.lit (.int (1))))) (.lit (.str ⟨#[61]⟩))) [(.appB 6 (.slc (.var 7) (.var 8) (.var 10) (.lit .none))), (.asg 8 (.bin .Sub (.var 10) (.lit (.int (1)))))] [(.appB 6 (.bin .Add (.slc (.var 7) (.var 8) (.var 10) (.lit .none)) (.lit (.str ⟨#[61]⟩)))), (.asg 8 (.var 10))])])]
noncomputable abbrev stE (bd l : List Nat) (s i : Nat) : Sto := roE bd (s + 1) l i (some (.int ((i + s : Nat) : Int)))
theorem enc_end {bd l : List Nat} {s i : Nat} {x : Option D} : ev F μ (roE bd (s + 1) l i x) (.bin .Add (.var 8) (.var 4)) = some (.int ((i + s : Nat) : Int)) :=
  ev_bin (ev_var rfl) (ev_var rfl) (congrArg (fun z => some (D.int z)) (by show (i : Int) + (((s + 1 : Nat) : Int) - 1) = _; lia))
theorem enc_sub {bd l : List Nat} {s i k j : Nat} (hs : s = j + k) : ev F μ (stE bd l s i) (.bin .Sub (.var 10) (.lit (.int (k : Int)))) = some (.int ((i + j : Nat) : Int)) := by
  subst hs
  exact ev_bin (ev_var rfl) ev_lit (congrArg (fun z => some (D.int z)) (by show ((i + (j + k) : Nat) : Int) - (k : Int) = _; lia))
theorem enc_at {bd l : List Nat} {s i k j c : Nat} (hl : l.length ≤ 1000) (hs : s = j + k) (hc : l[i + j]? = some c) : ev F μ (stE bd l s i) (.cmp .Eq (.idx (.var 7) (.bin .Sub (.var 10) (.lit (.int (k : Int))))) (.lit (.str ⟨#[61]⟩))) = some (.bool (decide (c = 61))) := by
  refine ev_cmp (ev_idx (ev_var rfl) (enc_sub hs) (idxT (by have := (List.getElem?_eq_some_iff.mp hc).1; have : (lim : Nat) = 100000 := rfl; lia) hc)) ev_lit ((eqT (l := [c]) (m := [61])).trans ?_)
  simp
theorem enc_app {e : PX} {ρ : Sto} {acc : List (List Nat)} {z : List Nat} (ha : acc.length ≤ 1000) (h6 : ρ[6]? = some (some (.bm 0))) (he : ev F [acc.map tD] ρ e = some (tD z)) : RS F MF (.appB 6 e) ρ [acc.map tD] (.next, ρ, [(acc ++ [z]).map tD]) := by
  have e1 : [(acc ++ [z]).map tD] = ([acc.map tD] : Mus).set 0 (acc.map tD ++ [tD z]) := by
    show [(acc ++ [z]).map tD] = [acc.map tD ++ [tD z]]
    rw [List.map_append]; rfl
  rw [e1]
  exact RS.appB (k := 0) (ds := acc.map tD) h6 he rfl (by rw [List.length_map]; exact Nat.le_trans ha (show 1000 ≤ lim by decide))
noncomputable abbrev restE : List PS := [(.ite (.cmp .Eq (.idx (.var 7) (.bin .Sub (.var 10) (.lit (.int (2))))) (.lit (.str ⟨#[61]⟩))) [(.appB 6 (.slc (.var 7) (.var 8) (.bin .Sub (.var 10) (.lit (.int (1)))) (.lit .none))), (.asg 8 (.bin .Sub (.var 10) (.lit (.int (2)))))] [(.ite (.cmp .Eq (.idx (.var 7) (.bin .Sub (.var 10) (.lit (.int (1))))) (.lit (.str ⟨#[61]⟩))) [(.appB 6 (.slc (.var 7) (.var 8) (.var 10) (.lit .none))), (.asg 8 (.bin .Sub (.var 10) (.lit (.int (1)))))] [(.appB 6 (.bin .Add (.slc (.var 7) (.var 8) (.var 10) (.lit .none)) (.lit (.str ⟨#[61]⟩)))), (.asg 8 (.var 10))])])]
noncomputable def TurnE (F : Nat → List D → Option D) (MF : Nat → List D → List D → Option (List D × D)) (bd l : List Nat) (s i a : Nat) (acc : List (List Nat)) (z : List Nat) : Prop :=
  RL F MF restE (stE bd l s i) [acc.map tD] (.next, roE bd (s + 1) l (i + a) (some (.int ((i + s : Nat) : Int))), [(acc ++ [z]).map tD])
theorem enc_slc {l z : List Nat} {i n : Nat} (hl : l.length ≤ 1000) (h : i + n ≤ l.length) (hz : (l.drop i).take n = z) : slcD μ (tD l) (.int (i : Int)) (.int ((i + n : Nat) : Int)) .none = some (tD z) := by
  rw [slcT (Nat.le_add_right _ _) h (Nat.le_trans hl (by decide)), Nat.add_sub_cancel_left, hz]
theorem enc_3 {bd l z : List Nat} {i a : Nat} {acc : List (List Nat)} (ha : acc.length ≤ 1000) (hl : l.length ≤ 1000) (h : i + (a + 1) ≤ l.length) (h61 : l[i + a]? = some 61) (hz : (l.drop i).take (a + 1) = z) : TurnE F MF bd l (a + 2) i a acc z :=
  RL.cons (RS.ite (t := true) (d := .bool true) (enc_at hl rfl h61) rfl (RL.cons (enc_app ha rfl (ev_slc (ev_var rfl) (ev_var rfl) (enc_sub (k := 1) (j := a + 1) rfl) ev_lit (enc_slc hl h hz))) (RL.cons (RS.asg (enc_sub (k := 2) rfl)) RL.nil))) RL.nil
theorem enc_2 {bd l z : List Nat} {i a c : Nat} {acc : List (List Nat)} (ha : acc.length ≤ 1000) (hl : l.length ≤ 1000) (h : i + (a + 2) ≤ l.length) (h61 : l[i + (a + 1)]? = some 61) (hc : l[i + a]? = some c) (hn : c ≠ 61) (hz : (l.drop i).take (a + 2) = z) : TurnE F MF bd l (a + 2) i (a + 1) acc z :=
  RL.cons (RS.ite (t := false) (d := .bool false) ((enc_at hl rfl hc).trans (by rw [decide_eq_false hn])) rfl (RL.cons (RS.ite (t := true) (d := .bool true) (enc_at (k := 1) (j := a + 1) hl rfl h61) rfl (RL.cons (enc_app ha rfl (ev_slc (ev_var rfl) (ev_var rfl) (ev_var rfl) ev_lit (enc_slc hl h hz))) (RL.cons (RS.asg (enc_sub (k := 1) (j := a + 1) rfl)) RL.nil))) RL.nil)) RL.nil
theorem enc_1 {bd l z : List Nat} {i a c c2 : Nat} {acc : List (List Nat)} (ha : acc.length ≤ 1000) (hl : l.length ≤ 1000) (h : i + (a + 2) ≤ l.length) (hc : l[i + a]? = some c) (hn : c ≠ 61) (hc2 : l[i + (a + 1)]? = some c2) (hn2 : c2 ≠ 61) (hz : (l.drop i).take (a + 2) = z) (hzl : z.length ≤ 1000) : TurnE F MF bd l (a + 2) i (a + 2) acc (z ++ [61]) :=
  RL.cons (RS.ite (t := false) (d := .bool false) ((enc_at hl rfl hc).trans (by rw [decide_eq_false hn])) rfl (RL.cons (RS.ite (t := false) (d := .bool false) ((enc_at (k := 1) (j := a + 1) hl rfl hc2).trans (by rw [decide_eq_false hn2])) rfl (RL.cons (enc_app ha rfl (ev_bin (ev_slc (ev_var rfl) (ev_var rfl) (ev_var rfl) ev_lit (enc_slc hl h hz)) ev_lit (addT (l := z) (m := [61]) (Nat.le_trans (Nat.add_le_add_right hzl 1) (by decide))))) (RL.cons (RS.asg (ev_var (i := 10) rfl)) RL.nil))) RL.nil)) RL.nil
theorem enc_cut {s : Nat} {A g B l' : List Nat} (h : l' = A ++ (g ++ B)) (h2 : A.length ≤ s) (h3 : s < A.length + g.length) (hg : g.length = 1 ∨ ∃ p q, g = [61, p, q]) (hfar : ∀ j : Nat, A[j]? = some 61 → j + 3 ≤ A.length) (hs : 3 ≤ s) :
    (∃ a, A.length = a ∧ s = a + 2 ∧ l'[a]? = some 61 ∧ l'.take (a + 1) = A ++ [61]) ∨ (∃ a c, A.length = a + 1 ∧ s = a + 2 ∧ l'[a + 1]? = some 61 ∧ l'[a]? = some c ∧ c ≠ 61 ∧ l'.take (a + 2) = A ++ [61]) ∨
    ∃ a c c2, A.length = a + 2 ∧ s = a + 2 ∧ l'[a]? = some c ∧ c ≠ 61 ∧ l'[a + 1]? = some c2 ∧ c2 ≠ 61 ∧ l'.take (a + 2) = A := by
  have at1 : ∀ j, j < A.length → A.length < j + 3 → ∃ c, l'[j]? = some c ∧ c ≠ 61 := fun j hj hk => by
    refine ⟨A[j], by rw [h, List.getElem?_append_left hj, List.getElem?_eq_getElem hj], fun q => ?_⟩
    have := hfar j (by rw [List.getElem?_eq_getElem hj, q])
    lia
  have at2 : ∀ p q, g = [61, p, q] → l'[A.length]? = some 61 ∧ l'.take (A.length + 1) = A ++ [61] := fun p q e => by
    subst e
    rw [h, List.getElem?_append_right (Nat.le_refl _), Nat.sub_self, List.take_length_add_append]
    exact ⟨rfl, rfl⟩
  by_cases h1 : s = A.length
  · subst h1
    obtain ⟨a, ea⟩ : ∃ a, A.length = a + 2 := ⟨A.length - 2, by lia⟩
    obtain ⟨c, hc, hn⟩ := at1 a (by lia) (by lia)
    obtain ⟨c2, hc2, hn2⟩ := at1 (a + 1) (by lia) (by lia)
    exact .inr (.inr ⟨a, c, c2, ea, ea, hc, hn, hc2, hn2, by rw [← ea, h, List.take_left]⟩)
  · have hg : ∃ p q, g = [61, p, q] := hg.resolve_left fun e => h1 (by lia)
    obtain ⟨p, q, e⟩ := hg
    obtain ⟨h61, hz⟩ := at2 p q e
    have hgl : g.length = 3 := by rw [e]; rfl
    by_cases h2' : s = A.length + 1
    · obtain ⟨a, ea⟩ : ∃ a, A.length = a + 1 := ⟨A.length - 1, by lia⟩
      obtain ⟨c, hc, hn⟩ := at1 a (by lia) (by lia)
      rw [ea] at h61 hz h2'
      exact .inr (.inl ⟨a, c, ea, h2', h61, hc, hn, hz⟩)
    · exact .inl ⟨_, rfl, by lia, h61, hz⟩
theorem enc_piece {os : List Nat} {s : Nat} (hlong : s + 1 < (sp os).length) : ∃ A g B, sp (os.take (takeN s os)) = A ∧ sp os = A ++ (g ++ B) ∧ A.length ≤ s ∧ s < A.length + g.length ∧ (g.length = 1 ∨ ∃ p q, g = [61, p, q]) ∧ ∀ j : Nat, A[j]? = some 61 → j + 3 ≤ A.length := by
  obtain ⟨h1, h2, h3⟩ := takeN_spec os s
  have hpl : takeN s os < os.length := by
    by_cases q : takeN s os < os.length
    · exact q
    · rw [List.take_of_length_le (Nat.le_of_not_lt q)] at h2
      exact absurd (Nat.lt_of_lt_of_le hlong h2) (by lia)
  have hs := sp_split os (takeN s os)
  rw [List.drop_eq_getElem_cons hpl, sp_cons] at hs
  refine ⟨_, _, _, rfl, hs, h2, h3 _ (List.getElem?_eq_getElem hpl), ?_, eq_far _⟩
  unfold sgn
  split
  · exact .inr ⟨_, _, rfl⟩
  · exact .inl rfl
theorem turn_enc {bd l os : List Nat} {w i p : Nat} {acc : List (List Nat)} {x : Option D} (hw : 4 ≤ w) (hl : l.length ≤ 1000) (hi : i ≤ l.length) (hd : l.drop i = sp os) (hlong : w < (sp os).length) (hp : p = takeN (w - 1) os) (ha : acc.length ≤ 1000) :
    ∃ y, RL F MF bodyEnc (roE bd w l i x) [acc.map tD] (.next, roE bd w l (i + (sp (os.take p)).length) y, [(acc ++ [sp (os.take p) ++ [61]]).map tD]) := by
  obtain ⟨s, rfl⟩ : ∃ s, w = s + 1 := ⟨w - 1, by lia⟩
  obtain ⟨A, g, B, hA, h, h2, h3, hg, hf⟩ := enc_piece hlong
  subst hp
  have hdl := congrArg List.length hd
  rw [List.length_drop] at hdl
  rw [Nat.add_sub_cancel, hA]
  refine ⟨some (.int ((i + s : Nat) : Int)), RL.cons (RS.asg enc_end) ?_⟩
  show TurnE F MF bd l s i A.length acc (A ++ [61])
  have e : ∀ {j c}, (sp os)[j]? = some c → l[i + j]? = some c := fun {j c} q => by rw [← hd, List.getElem?_drop] at q; exact q
  have hb : i + (s + 1) < l.length := by lia
  rcases enc_cut h h2 h3 hg hf (Nat.le_of_succ_le_succ hw) with ⟨a, e1, e2, h61, hz⟩ | ⟨a, c, e1, e2, h61, hc, hn, hz⟩ | ⟨a, c, c2, e1, e2, hc, hn, hc2, hn2, hz⟩
  · rw [e1]; subst e2
    exact enc_3 ha hl (by lia) (e h61) (hd ▸ hz)
  · rw [e1]; subst e2
    exact enc_2 ha hl (by lia) (e h61) (e hc) hn (hd ▸ hz)
  · rw [e1]; subst e2
    exact enc_1 ha hl (by lia) (e hc) hn (e hc2) hn2 (hd ▸ hz) (by lia)
end
end Mine
end
section
namespace Mine
theorem softs_cons (x : List Nat) {xs : List (List Nat)} (h : xs ≠ []) : softs (x :: xs) = (x, true) :: softs xs := by
  cases xs with
  | nil => exact absurd rfl h
  | cons y r => rfl
theorem softs_mem {xs : List (List Nat)} {q : List Nat × Bool} (h : q ∈ softs xs) : q.1 ∈ xs := by
  induction xs with
  | nil => cases h
  | cons x r ih => cases r with
    | nil => have : q = (x, false) := by simpa [qsofts0, qsofts1, qsofts2] using h
             rw [this]; exact .head _
    | cons y r =>
      rw [softs_cons x (by simp)] at h
      rcases List.mem_cons.mp h with rfl | h
      · exact .head _
      · exact .tail _ (ih h)
theorem gr_flat (w : Nat) : ∀ (n : Nat) (os : List Nat), (gr w n os).flatten = os
  | 0, os => by simp [gr]
  | n + 1, os => by
    unfold gr
    split
    · simp
    · rw [List.flatten_cons, gr_flat w n, List.take_append_drop]
theorem sp_le {x : List Nat} {xs : List (List Nat)} (h : x ∈ xs) : (sp x).length ≤ (sp xs.flatten).length := by
  induction xs with
  | nil => cases h
  | cons y r ih =>
    rw [List.flatten_cons, sp_app, List.length_append]
    rcases List.mem_cons.mp h with rfl | h
    · lia
    · have := ih h; lia
theorem lineOf_le (q : List Nat × Bool) : (lineOf q).length ≤ (sp q.1).length + 1 := by unfold lineOf; rw [List.length_append]; split <;> simp
theorem takeN_pos {os : List Nat} {r : Nat} (h : 3 ≤ r) (h0 : os ≠ []) : 0 < takeN r os := by
  cases os with
  | nil => exact absurd rfl h0
  | cons o os =>
    unfold takeN
    rw [if_pos (by unfold sgn; split <;> simp <;> lia)]
    lia
section
variable {F : Nat → List D → Option D} {MF : Nat → List D → List D → Option (List D × D)} {ρ ρ' : Sto} {μ μ' : Mus} {r : Out × Sto × Mus} {d : D} {e c a f : PX} {ps b : List PS} {p : PS} {sl l k : Nat} {o : Out}
theorem enc_c {bd l : List Nat} {w i : Nat} {os : List Nat} {m : Mus} {x : Option D} (hi : i ≤ l.length) (hdl : l.length - i = (sp os).length) : ev F m (roE bd w l i x) (.cmp .LtE (.var 8) (.var 9)) = some (.bool (decide (w < (sp os).length))) := by
  refine ev_cmp (ev_var rfl) (ev_var rfl) ?_
  show some (D.bool (decide ((i : Int) ≤ (l.length : Int) - 1 - w))) = _
  rw [decide_eq_decide.mpr (show (i : Int) ≤ (l.length : Int) - 1 - w ↔ w < (sp os).length by lia)]
theorem enc_stop {bd l : List Nat} {w n i : Nat} {os : List Nat} {acc : List (List Nat)} {x : Option D} (hi : i ≤ l.length) (hd : l.drop i = sp os) (hc : ev F [acc.map tD] (roE bd w l i x) (.cmp .LtE (.var 8) (.var 9)) = some (.bool (decide (w < (sp os).length)))) (q : ¬ w < (sp os).length) :
    ∃ j y mid last, RS F MF (.whl (.cmp .LtE (.var 8) (.var 9)) bodyEnc) (roE bd w l i x) [acc.map tD] (.next, roE bd w l j y, [(acc ++ mid).map tD]) ∧ j ≤ l.length ∧ l.drop j = last ∧ (softs (gr w n os)).map lineOf = mid ++ [last] ∧ mid.length ≤ n := by
  refine ⟨i, x, [], l.drop i, ?_, hi, rfl, ?_, Nat.zero_le _⟩
  · rw [List.append_nil]
    exact RS.whl_no (hc.trans (by rw [decide_eq_false q])) rfl
  · have : gr w n os = [os] := by
      cases n with
      | zero => rfl
      | succ n => exact if_pos (Nat.le_of_not_lt q)
    rw [this, hd]
    exact congrArg (· :: []) (List.append_nil (sp os))
theorem loop_enc {bd l : List Nat} {w : Nat} (hw : 4 ≤ w) (hl : l.length ≤ 1000) (n : Nat) : ∀ (os : List Nat) (i : Nat) (acc : List (List Nat)) (x : Option D), os.length ≤ n → i ≤ l.length → l.drop i = sp os → acc.length + n ≤ 1000 →
    ∃ j y mid last, RS F MF (.whl (.cmp .LtE (.var 8) (.var 9)) bodyEnc) (roE bd w l i x) [acc.map tD] (.next, roE bd w l j y, [(acc ++ mid).map tD]) ∧ j ≤ l.length ∧ l.drop j = last ∧ (softs (gr w n os)).map lineOf = mid ++ [last] ∧ mid.length ≤ n := by
  induction n with
  | zero =>
    intro os i acc x hn hi hd ha
    have hdl := congrArg List.length hd
    rw [List.length_drop] at hdl
    refine enc_stop hi hd (enc_c hi hdl) ?_
    have : os = [] := List.eq_nil_of_length_eq_zero (Nat.le_zero.mp hn)
    subst this
    exact Nat.not_lt_zero _
  | succ n ih =>
    intro os i acc x hn hi hd ha
    have hdl := congrArg List.length hd
    rw [List.length_drop] at hdl
    by_cases q : w < (sp os).length
    · have hne : os ≠ [] := by rintro rfl; exact Nat.not_lt_zero _ q
      obtain ⟨y, t⟩ := turn_enc (F := F) (MF := MF) (bd := bd) (x := x) hw hl hi hd q rfl (acc := acc) (by lia)
      have hsp := sp_split os (takeN (w - 1) os)
      have hsl := congrArg List.length hsp
      rw [List.length_append] at hsl
      have hp := takeN_pos (os := os) (r := w - 1) (by lia) hne
      obtain ⟨j, y', mid, last, r1, r2, r3, r4, r5⟩ := ih (os.drop (takeN (w - 1) os)) (i + (sp (os.take (takeN (w - 1) os))).length) (acc ++ [sp (os.take (takeN (w - 1) os)) ++ [61]]) y (by rw [List.length_drop]; lia) (by lia) (by
        rw [← List.drop_drop, hd]; conv => lhs; rw [hsp]
        exact List.drop_left) (by rw [List.length_append]; show acc.length + 1 + n ≤ 1000; lia)
      rw [List.append_assoc] at r1
      refine ⟨j, y', (sp (os.take (takeN (w - 1) os)) ++ [61]) :: mid, last, RS.whl_go (o := .next) ((enc_c hi hdl).trans (by rw [decide_eq_true q])) rfl t rfl r1, r2, r3, ?_, Nat.succ_le_succ r5⟩
      obtain ⟨g1, g2, hg⟩ := gr_ne w n (os.drop (takeN (w - 1) os))
      have : gr w (n + 1) os = os.take (takeN (w - 1) os) :: gr w n (os.drop (takeN (w - 1) os)) := if_neg (by lia)
      rw [this, softs_cons _ (by rw [hg]; exact List.cons_ne_nil _ _), List.map_cons, r4]; rfl
    · exact enc_stop hi hd (enc_c hi hdl) q
theorem last_sp {os : List Nat} (h : os.getLast? = some 46) : (sp os).getLast? = some 46 := by
  obtain ⟨ys, e⟩ := List.getLast?_eq_some_iff.mp h
  rw [e, sp_app]
  simp [sp, sgn, wide]
theorem runs_encode (hG1 : Gv[1]? = some (tD [13, 10])) (hG2 : Gv[2]? = some (.list qtab)) (os : List Nat) (w : Nat) (hok : ∀ o ∈ os, okO o) (hlast : os.getLast? = some 46) (hlen : os.length ≤ 300) (hw : 4 ≤ w) :
    Runs1 F MF f_encode [tD os, .int (w : Int)] (tD (joinN [10] ((softs (gr w os.length os)).map lineOf))) := by
  have hlim : (lim : Nat) = 100000 := rfl
  have hsl : (sp os).length ≤ 3 * os.length := by
    clear hlast hlen hok
    induction os with
    | nil => exact Nat.le_refl _
    | cons o r ih => rw [sp_cons, List.length_append, List.length_cons]; have : (sgn o).length ≤ 3 := by unfold sgn; split <;> simp
                     lia
  have hne : os ≠ [] := by rintro rfl; cases hlast
  have hsp := last_sp hlast
  have hspne : sp os ≠ [] := by intro z; rw [z] at hsp; cases hsp
  have hpos : 0 < (sp os).length := List.length_pos_iff.mpr hspne
  let ρ1 : Sto := [some (tD (sp os)), some (.int (w : Int)), some (tD [10]), some (tD [61, 10]), some (.int ((w : Int) - 1)), some (.ml 0), some (.bm 0), none, none, none, none, none, none]
  obtain ⟨j, y, mid, last, r1, r2, r3, r4, r5⟩ := loop_enc (F := F) (MF := MF) (bd := sp os) (l := sp os) hw (by lia) os.length os 0 [] none (Nat.le_refl _) (Nat.zero_le _) rfl (by simp; lia)
  rw [List.nil_append] at r1
  have hnb : noBrk (sp os) := fun c m => let ⟨a, b⟩ := sp_small hok c m; nobrk_small c a b
  have hlines := T_lines (ls := [sp os]) (fun x m => by rw [List.mem_singleton.mp m]; exact hnb) ⟨_, rfl, hspne⟩
  have turn : RL F MF [(.asg 8 (.lit (.int (0)))), (.asg 9 (.bin .Sub (.bin .Sub (.b1 .len (.var 7)) (.lit (.int (1)))) (.var 1))), (.whl (.cmp .LtE (.var 8) (.var 9)) bodyEnc), (.ite (.and [(.var 7), (.cmp .In (.idx (.var 7) (.neg (.lit (.int (1))))) (.lit (.str ⟨#[32, 9]⟩)))]) [(.asg 11 (.bin .Sub (.var 8) (.var 9))), (.ite (.cmp .GtE (.var 11) (.lit (.int (3)))) [(.asg 12 (.call 20 [(.idx (.var 7) (.neg (.lit (.int (1)))))]))] [(.ite (.cmp .Eq (.var 11) (.lit (.int (2)))) [(.asg 12 (.bin .Add (.idx (.var 7) (.neg (.lit (.int (1))))) (.var 3)))] [(.asg 12 (.bin .Add (.var 3) (.call 20 [(.idx (.var 7) (.neg (.lit (.int (1)))))])))])]), (.appB 6 (.bin .Add (.slc (.var 7) (.var 8) (.neg (.lit (.int (1)))) (.lit .none)) (.var 12)))] [(.appB 6 (.slc (.var 7) (.var 8) (.lit .none) (.lit .none)))])]
      (ρ1.set 7 (some (tD (sp os)))) [[]] (.next, roE (sp os) w (sp os) j y, [(mid ++ [last]).map tD]) := by
    refine RL.cons (RS.asg ev_lit) (RL.cons (RS.asg (d := .int (((sp os).length : Int) - 1 - w)) (ev_bin (ev_bin (ev_b1 (ev_var rfl) (lenT (by lia))) ev_lit rfl) (ev_var rfl) rfl)) (RL.cons r1 (RL.cons (RS.ite (t := false) (d := .bool false) (and_go (x := tD (sp os)) (ev_var rfl) ((truT (by lia)).trans (by rw [decide_eq_true hspne])) (ev_cmp (ev_idx (ev_var rfl) (y := .int (-1)) rfl (idxTL hsp)) ev_lit ?_)) rfl ?_) RL.nil)))
    · refine (inT (l := [32, 9])).trans ?_
      rw [decide_eq_false (by simp)]
    · have e1 : [(mid ++ [last]).map tD] = ([mid.map tD] : Mus).set 0 (mid.map tD ++ [tD last]) := by
        show [(mid ++ [last]).map tD] = [mid.map tD ++ [tD last]]
        rw [List.map_append]; rfl
      rw [e1]
      refine RL.cons (RS.appB (k := 0) (ds := mid.map tD) rfl (ev_slc (ev_var rfl) (ev_var rfl) ev_lit ev_lit ?_) rfl (by simp; lia)) RL.nil
      rw [slcT1 r2 (by lia), r3]
  have key : RL F MF b_bodyencode [some (tD os), some (.int (w : Int)), some (tD [10]), none, none, none, none, none, none, none, none, none, none] [] (.ret (tD (joinN [10] ((softs (gr w os.length os)).map lineOf))), roE (sp os) w (sp os) j y, [(mid ++ [last]).map tD]) := by
    refine RL.cons (RS.ite (t := false) (d := .bool false) (ev_cmp (ev_var rfl) ev_lit ?_) rfl RL.nil) (RL.cons (RS.ite (t := false) (ev_not (t := true) (x := tD os) (ev_var rfl) ?_) rfl RL.nil) (RL.cons (RS.asg (d := tD (sp os)) (ev_trans (ev_var rfl) (ev_glob hG2) ?_)) (RL.cons (RS.asg (d := tD [61, 10]) (ev_bin ev_lit (ev_var rfl) (addT (l := [61]) (m := [10]) (by simp [lim])))) (RL.cons (RS.asg (d := .int ((w : Int) - 1)) (ev_bin (ev_var rfl) ev_lit rfl)) (RL.cons (RS.asgM (ds := []) (ev_list evL_nil (Nat.zero_le _))) (RL.cons (RS.bnd rfl) (RL.cons (RS.for1 (xs := [tD (sp os)]) (evI_seq (ev_meth0 (ev_var rfl) ?_)) rfl (RF.go (o := .next) turn rfl RF.nil)) (RL.cons (RS.ite (t := false) (d := .bool false) (ev_cmp (ev_idx (ev_var rfl) (y := .int (-1)) rfl (idxTL hsp)) (ev_glob hG1) ?_) rfl RL.nil) (RL.out (RS.ret (ev_meth1 (ev_var rfl) (ev_var rfl) ?_)) rfl)))))))))
    · show some (D.bool (decide ((w : Int) < 4))) = _
      rw [decide_eq_false (by lia)]
    · rw [truT (by lia), decide_eq_true hne]
    · show (if (T os).length ≤ 1000 && 0 < (T os).length && qtab.length == 256 && (qtab.all fun | .str y => y.length ≤ 3 | _ => false) then (trStr qtab (T os).cps.toList).map fun r => D.str ⟨r.toArray⟩ else none) = _
      have h0 : 0 < os.length := List.length_pos_iff.mpr hne
      have hq : (T os).length ≤ 1000 ∧ 0 < (T os).length := by rw [T_len]; lia
      have hq2 : qtab.length = 256 := by simp [qtab]
      have hq3 : (T os).cps.toList = os := by simp
      have hcnd : ((T os).length ≤ 1000 && 0 < (T os).length && qtab.length == 256) = true := by rw [decide_eq_true hq.1, decide_eq_true hq.2, hq2]; rfl
      rw [hcnd, Bool.true_and]
      refine (if_pos qtab_all).trans ?_
      rw [hq3, trStr_sp os hok]; rfl
    · show (if (T (sp os)).length ≤ lim then some (D.list ((Txt.lines (T (sp os))).map .str)) else none) = _
      rw [T_len, if_pos (by lia), show sp os = joinN [10] [sp os] from rfl, hlines]; rfl
    · refine (inT (l := [13, 10])).trans ?_
      rw [decide_eq_false (by simp)]
    · have hbig : ∀ x ∈ (mid ++ [last]), x.length ≤ 1000 := by
        intro x m
        rw [← r4] at m
        obtain ⟨q, m', rfl⟩ := List.mem_map.mp m
        have h1 := lineOf_le q
        have h2 := sp_le (softs_mem m')
        rw [gr_flat] at h2
        lia
      have hg : gStrs ((mid ++ [last]).map tD) = some ((mid ++ [last]).map T) := by
        clear hbig r1 r2 r3 r4 r5
        induction (mid ++ [last]) with
        | nil => rfl
        | cons x r ih => unfold gStrs at ih ⊢; simp only [List.map_cons, qmapO0, qmapO1, strD, ih]
      show ((gStrs ((mid ++ [last]).map tD)).bind fun xs => if (T [10]).length ≤ 3 && xs.length ≤ 1000 && (xs.all fun x => x.length ≤ 1000) then some (D.str (Str.join (T [10]) xs)) else none) = _
      rw [hg, Option.bind_some, if_pos, T_join, r4]
      simp only [List.length_map, Bool.and_eq_true, decide_eq_true_eq, List.all_eq_true]
      refine ⟨⟨by rw [T_len]; simp, ?_⟩, fun x m => ?_⟩
      · simp; lia
      · obtain ⟨y, m', rfl⟩ := List.mem_map.mp m
        rw [T_len]; exact hbig y m'
  exact ⟨rfl, rfl, _, _, _, key, rfl⟩
end
end Mine
end
section
namespace Mine
noncomputable def oI (os : List Nat) : List Int := os.map fun (o : Nat) => (o : Int)
noncomputable def brkI (ls : List Nat) : List Int := (List.range (ls.length - 1)).map fun i => ((ls.map fun (l : Nat) => (l : Int)).take (1 + i)).sum
theorem gStrs_T (xs : List (List Nat)) : gStrs (xs.map tD) = some (xs.map T) := by
  induction xs with
  | nil => rfl
  | cons x r ih => unfold gStrs at ih ⊢; simp only [List.map_cons, qmapO0, qmapO1, strD, ih]
section
variable {F : Nat → List D → Option D} {MF : Nat → List D → List D → Option (List D × D)} {ρ ρ' : Sto} {μ μ' : Mus} {r : Out × Sto × Mus} {d : D} {e c a f : PX} {ps b : List PS} {p : PS} {sl l k : Nat} {o : Out}
theorem joinT {sep : List Nat} {xs : List (List Nat)} (h1 : sep.length ≤ 3) (h2 : xs.length ≤ 1000) (h3 : ∀ x ∈ xs, x.length ≤ 1000) : meth1D μ .join (tD sep) (.list (xs.map tD)) = some (tD (joinN sep xs)) := by
  show ((gStrs (xs.map tD)).bind fun xs => if (T sep).length ≤ 3 && xs.length ≤ 1000 && (xs.all fun x => x.length ≤ 1000) then some (D.str (Str.join (T sep) xs)) else none) = _
  rw [gStrs_T, Option.bind_some, if_pos, T_join]
  simp only [List.length_map, Bool.and_eq_true, decide_eq_true_eq, List.all_eq_true]
  refine ⟨⟨by rw [T_len]; exact h1, h2⟩, fun x m => ?_⟩
  obtain ⟨y, m', rfl⟩ := List.mem_map.mp m
  rw [T_len]; exact h3 y m'
theorem joinTm {sep : List Nat} {xs : List (List Nat)} {i : Nat} (hm : μ[i]? = some (xs.map tD)) (h1 : sep.length ≤ 3) (h2 : xs.length ≤ 1000) (h3 : ∀ x ∈ xs, x.length ≤ 1000) : meth1D μ .join (tD sep) (.ml i) = some (tD (joinN sep xs)) := by
  refine Eq.trans ?_ (joinT (μ := μ) h1 h2 h3)
  show ((lst μ (.ml i)).bind gStrs).bind _ = ((lst μ (.list (xs.map tD))).bind gStrs).bind _
  rw [show lst μ (.ml i) = some (xs.map tD) from hm]; rfl
noncomputable def f_breaks : Fn := ⟨b_lawbreaks, 1, 1, []⟩
theorem runs_breaks (hD : ∀ q, LnOK q → F 2 [tD (lineOf q)] = some (tD q.1)) (qs : List (List Nat × Bool)) (h : ∀ q ∈ qs, LnOK q) (h0 : qs ≠ []) (hl : qs.length ≤ 1000) (hb : (joinN [10] (qs.map lineOf)).length ≤ lim) :
    Runs1 F MF f_breaks [tD (joinN [10] (qs.map lineOf))] (ofI (brkI (qs.map fun q => q.1.length))) := by
  have hlim : (lim : Nat) = 100000 := rfl
  have hsp := T_split (c := 10) (xs := qs.map lineOf) (fun x m => by obtain ⟨q, m', rfl⟩ := List.mem_map.mp m; exact (h q m').no10) (by simpa using h0)
  generalize joinN [10] (qs.map lineOf) = bd at hb hsp
  let sz : List Int := qs.map fun q => (q.1.length : Int)
  have hszl : sz.length = qs.length := by simp [sz]
  have e1 : ev F [] [some (tD bd), none] (.comp [false, false] 1 (.seq (.meth1 .split (.var 0) (.lit (.str ⟨#[10]⟩)))) (.fin 0 [] (.b1 .len (.call 2 [(.var 0)])))) = some (ofI sz) := by
    refine ev_comp (evI_seq (ev_meth1 (ev_var rfl) ev_lit (d := .list (qs.map fun q => tD (lineOf q))) ?_)) (zs := sz.map .int) ?_ (by simp [sz]; omega)
    · show (if (T bd).length ≤ lim && 0 < (T [10]).length then some (D.list ((Txt.split (T bd) (T [10])).map .str)) else none) = _
      rw [if_pos (by rw [T_len, T_len]; simpa using hb), hsp, List.map_map, List.map_map]; rfl
    · rw [show sz.map D.int = qs.map fun q => D.int (q.1.length : Int) by simp [sz]]
      refine evC_map fun q m => ?_
      have hq := h q m
      have := lineOf_len q
      have := hq.len
      exact ev_b1 (ev_call (evL_cons (ev_var rfl) evL_nil) (hD q hq)) (lenT (by omega))
  have key : RL F MF b_lawbreaks [some (tD bd), none] [] (.ret (ofI (brkI (qs.map fun q => q.1.length))), [some (tD bd), some (ofI sz)], []) := by
    refine RL.cons (RS.asg e1) (RL.out (RS.ret (ev_comp (evI_rng (evL_cons ev_lit (evL_cons (ev_b1 (ev_var rfl) (lenI sz (by omega))) evL_nil)) (range_ev (by decide) (by decide) (by omega) (by omega))) (zs := (brkI (qs.map fun q => q.1.length)).map .int) ?_ (by simp [brkI]; omega))) rfl)
    rw [show ((sz.length : Int) - 1).toNat = qs.length - 1 by omega]
    have hbr : (brkI (qs.map fun q => q.1.length)).map D.int = (List.range (qs.length - 1)).map fun i => D.int ((sz.take (1 + i)).sum) := by
      simp [brkI, sz, Function.comp_def]
    rw [hbr]
    refine evC_map fun i m => ?_
    have := List.mem_range.mp m
    refine ev_b1 (ev_slc (ev_var rfl) ev_lit (ev_var rfl) ev_lit (d := ofI (sz.take (1 + i))) ?_) (sumI _)
    have e2 : (1 : Int) + (i : Int) = ((1 + i : Nat) : Int) := by omega
    rw [e2]
    exact slcI0 (by omega) (by omega)
  exact ⟨rfl, rfl, _, _, _, key, frzI _⟩
noncomputable def f_spelled : Fn := ⟨b_lawspelled, 2, 3, []⟩
noncomputable def piecesF (os : List Nat) : Nat → List Nat → List (List Nat)
  | a, [] => [os.drop a]
  | a, b :: bs => (os.take b).drop a :: piecesF os b bs
theorem qpiecesF0 {os : List Nat} {a : Nat} : piecesF os a [] = [os.drop a] := rfl
theorem qpiecesF1 {os bs : List Nat} {a b : Nat} : piecesF os a (b :: bs) = (os.take b).drop a :: piecesF os b bs := rfl
noncomputable def pieces (os bs : List Nat) : List (List Nat) := piecesF os 0 bs
noncomputable abbrev roS (os bs : List Nat) (x3 x4 : Option D) : Sto := [some (ofI (oI os)), some (ofI (oI bs)), some (.ml 0), x3, x4]
noncomputable abbrev bodySp : List PS := [(.app 2 (.meth1 .join (.lit (.str ⟨#[]⟩)) (.comp [false, false, false, false, false] 1 (.seq (.slc (.var 0) (.var 3) (.var 4) (.lit .none))) (.fin 0 [] (.call 10 [(.var 0)])))))]
theorem joinN_nil (xs : List (List Nat)) : joinN [] xs = xs.flatten := by
  induction xs with
  | nil => rfl
  | cons x r ih => cases r with
    | nil => simp [qjoinN0, qjoinN1, qjoinN2]
    | cons y r => rw [List.flatten_cons, ← ih]; simp [qjoinN0, qjoinN1, qjoinN2]
theorem oI_len (os : List Nat) : (oI os).length = os.length := by simp [oI]
theorem spell_piece {os bs x : List Nat} {m : Mus} {a b : Nat} (h10 : ∀ o : Nat, o < 256 → F 10 [.int (o : Int)] = some (tD (sgn o))) (hok : ∀ o ∈ os, o < 256) (hl : os.length ≤ 300) (ha : a ≤ lim) (hb : b ≤ lim) :
    ev F m (roS os bs (some (.int (a : Int))) (some (.int (b : Int)))) (.meth1 .join (.lit (.str ⟨#[]⟩)) (.comp [false, false, false, false, false] 1 (.seq (.slc (.var 0) (.var 3) (.var 4) (.lit .none))) (.fin 0 [] (.call 10 [(.var 0)])))) = some (tD (sp ((os.take b).drop a))) := by
  have hlim : (lim : Nat) = 100000 := rfl
  have hpl : ((os.take b).drop a).length ≤ os.length := by simp; omega
  refine ev_meth1 ev_lit (ev_comp (zs := ((os.take b).drop a).map fun o => tD (sgn o)) (evI_seq (ev_slc (ev_var rfl) (ev_var rfl) (ev_var rfl) ev_lit (slcI (by rw [oI_len]; omega) ha hb))) ?_ (by simp; omega)) ?_
  · have e : (cut (oI os) a b).map D.int = ((os.take b).drop a).map fun (o : Nat) => D.int (o : Int) := by
      unfold cut oI
      rw [← List.map_take, ← List.map_drop, List.map_map]; rfl
    rw [e]
    refine evC_map fun o mo => ?_
    exact ev_call (evL_cons (ev_var rfl) evL_nil) (h10 o (hok o (List.mem_of_mem_take (List.mem_of_mem_drop mo))))
  · have e : (((os.take b).drop a).map fun o => tD (sgn o)) = (((os.take b).drop a).map sgn).map tD := by rw [List.map_map]; rfl
    rw [e]
    refine (joinT (sep := []) (by simp) (by simp; omega) (fun x m => ?_)).trans ?_
    · obtain ⟨o, _, rfl⟩ := List.mem_map.mp m
      unfold sgn; split <;> simp
    · rw [joinN_nil]; rfl
theorem loop_sp {os bs : List Nat} (h10 : ∀ o : Nat, o < 256 → F 10 [.int (o : Int)] = some (tD (sgn o))) (hok : ∀ o ∈ os, o < 256) (hl : os.length ≤ 300) : ∀ (cs : List Nat) (a : Nat) (acc : List (List Nat)) (x3 x4 : Option D), a ≤ os.length → (∀ c ∈ cs, c ≤ os.length) → acc.length + cs.length ≤ 900 →
    ∃ y3 y4, RZ F MF 3 4 bodySp (((a : Int) :: oI cs).zip (oI cs ++ [(os.length : Int)])) (roS os bs x3 x4) [acc.map tD] (.next, roS os bs y3 y4, [(acc ++ (piecesF os a cs).map sp).map tD])
  | cs, a, acc, x3, x4, ha, hc, hn => by
    have hlim : (lim : Nat) = 100000 := rfl
    have app : ∀ (b : Nat), b ≤ os.length → RL F MF bodySp (roS os bs (some (.int (a : Int))) (some (.int (b : Int)))) [acc.map tD] (.next, roS os bs (some (.int (a : Int))) (some (.int (b : Int))), [(acc ++ [sp ((os.take b).drop a)]).map tD]) := fun b hb => by
      have e1 : [(acc ++ [sp ((os.take b).drop a)]).map tD] = ([acc.map tD] : Mus).set 0 (acc.map tD ++ [tD (sp ((os.take b).drop a))]) := by
        show _ = [acc.map tD ++ [tD (sp ((os.take b).drop a))]]
        rw [List.map_append]; rfl
      rw [e1]
      exact RL.cons (RS.app (k := 0) (ds := acc.map tD) rfl (spell_piece (x := []) h10 hok hl (by omega) (by omega)) rfl (by simp; omega)) RL.nil
    cases cs with
    | nil =>
      refine ⟨some (.int (a : Int)), some (.int (os.length : Int)), RZ.go (o := .next) (app os.length (Nat.le_refl _)) rfl ?_⟩
      have e : acc ++ (piecesF os a []).map sp = acc ++ [sp ((os.take os.length).drop a)] := by rw [List.take_length]; rfl
      rw [e]
      exact RZ.nil
    | cons c cs =>
      obtain ⟨y3, y4, ih⟩ := loop_sp (bs := bs) h10 hok hl cs c (acc ++ [sp ((os.take c).drop a)]) (some (.int (a : Int))) (some (.int (c : Int))) (hc c (.head _)) (fun q m => hc q (.tail _ m)) (by simp at hn ⊢; omega)
      refine ⟨y3, y4, RZ.go (o := .next) (app c (hc c (.head _))) rfl ?_⟩
      have e : acc ++ (piecesF os a (c :: cs)).map sp = acc ++ [sp ((os.take c).drop a)] ++ (piecesF os c cs).map sp := by
        rw [List.append_assoc]; rfl
      rw [e]; exact ih
theorem runs_spelled (os bs : List Nat) (h10 : ∀ o : Nat, o < 256 → F 10 [.int (o : Int)] = some (tD (sgn o))) (hok : ∀ o ∈ os, o < 256) (hl : os.length ≤ 300) (hb : ∀ b ∈ bs, b ≤ os.length) (hbl : bs.length ≤ 800) (hp : ∀ x ∈ pieces os bs, (sp x).length ≤ 1000) :
    Runs1 F MF f_spelled [ofI (oI os), ofI (oI bs)] (tD (joinN [61, 10] ((pieces os bs).map sp))) := by
  have hlim : (lim : Nat) = 100000 := rfl
  obtain ⟨y3, y4, lp⟩ := loop_sp (F := F) (MF := MF) (bs := bs) h10 hok hl bs 0 [] none none (Nat.zero_le _) hb (by simp; omega)
  rw [List.nil_append] at lp
  have hpl : ∀ (cs : List Nat) (a : Nat), (piecesF os a cs).length = cs.length + 1 := by
    intro cs
    induction cs with
    | nil => intro a; rfl
    | cons c cs ih => intro a; simp [qpiecesF0, qpiecesF1, ih]
  have key : RL F MF b_lawspelled [some (ofI (oI os)), some (ofI (oI bs)), none, none, none] [] (.ret (tD (joinN [61, 10] ((pieces os bs).map sp))), roS os bs y3 y4, [((pieces os bs).map sp).map tD]) := by
    refine RL.cons (RS.asgM (ds := []) (ev_list evL_nil (Nat.zero_le _))) (RL.cons (RS.for2 (xs := ((0 : Int) :: oI bs).map .int) (ys := (oI bs ++ [(os.length : Int)]).map .int) (is := (0 : Int) :: oI bs) (js := oI bs ++ [(os.length : Int)]) ?_ ?_ (gI _) (gI _) lp) (RL.out (RS.ret (ev_meth1 ev_lit (ev_var rfl) (joinTm (i := 0) (sep := [61, 10]) rfl (by simp) ?_ ?_))) rfl))
    · refine ev_bin (ev_list (evL_cons ev_lit evL_nil) (by decide : 1 ≤ lim)) (ev_var rfl) (addI (a := [0]) (b := oI bs) (by rw [oI_len]; simp; omega))
    · refine ev_bin (ev_var rfl) (ev_list (evL_cons (ev_b1 (ev_var rfl) (lenI _ (by rw [oI_len]; omega))) evL_nil) (by decide : 1 ≤ lim)) ?_
      rw [oI_len]
      exact addI (a := oI bs) (b := [(os.length : Int)]) (by rw [oI_len]; simp; omega)
    · rw [List.length_map]; unfold pieces; rw [hpl]; omega
    · intro x m
      obtain ⟨y, m', rfl⟩ := List.mem_map.mp m
      exact hp y m'
  exact ⟨rfl, by simp [qnoMls0, qnoMls1, nm_ofI], _, _, _, key, rfl⟩
end
end Mine
end
section
namespace Mine
noncomputable def apI (a b : List Int) : List Int × List Int := (((List.range a.length).filter fun i => a.getD i 0 != b.getD i 0).map (a.getD · 0), ((List.range a.length).filter fun i => a.getD i 0 != b.getD i 0).map (b.getD · 0))
noncomputable def tupI (p : List Int × List Int) : D := .tup [ofI p.1, ofI p.2]
theorem eqLst_refl {f : D → D → Option Bool} : ∀ (xs : List D), (∀ x ∈ xs, f x x = some true) → eqLst f xs xs = some true
  | [], _ => rfl
  | x :: xs, h => by simp only [qeqLst0, qeqLst1, qeqLst2, qeqLst3, h x (.head _), eqLst_refl xs fun y m => h y (.tail _ m), Bool.and_true]
theorem eq1_ofI (x : List Int) : eqN eq0 (ofI x) (ofI x) = some true := by
  show (if (x.map D.int).length == (x.map D.int).length then eqLst eq0 (x.map D.int) (x.map D.int) else some false) = _
  rw [if_pos (beq_self_eq_true _)]
  refine eqLst_refl _ fun y m => ?_
  obtain ⟨i, _, rfl⟩ := List.mem_map.mp m
  show some (i == i) = _
  rw [beq_self_eq_true]
theorem eqTup (p : List Int × List Int) : cmpD μ .NotEq (tupI p) (tupI p) = some (.bool false) := by
  show (eqD (tupI p) (tupI p)).map (fun x => D.bool (!x)) = _
  have : eqD (tupI p) (tupI p) = some true := by
    show (if (2 : Nat) == 2 then eqLst (eqN eq0) [ofI p.1, ofI p.2] [ofI p.1, ofI p.2] else none) = _
    refine eqLst_refl _ fun y m => ?_
    simp only [List.mem_cons, List.not_mem_nil, or_false] at m
    rcases m with rfl | rfl <;> exact eq1_ofI _
  rw [this]; rfl
theorem eqL (xs : LI) : eqD (ofL xs) (ofL xs) = some true := by
  show (if (xs.map ofI).length == (xs.map ofI).length then eqLst (eqN eq0) (xs.map ofI) (xs.map ofI) else some false) = _
  rw [if_pos (beq_self_eq_true _)]
  refine eqLst_refl _ fun y m => ?_
  obtain ⟨i, _, rfl⟩ := List.mem_map.mp m
  exact eq1_ofI i
section
variable {F : Nat → List D → Option D} {MF : Nat → List D → List D → Option (List D × D)} {ρ ρ' : Sto} {μ μ' : Mus} {r : Out × Sto × Mus} {d : D} {e c a f : PX} {ps b : List PS} {p : PS} {sl l k : Nat} {o : Out}
noncomputable def f_apart : Fn := ⟨b_lawapart, 2, 1, []⟩
theorem runs_apart (a b : List Int) (hl : a.length ≤ lim) (h : a.length ≤ b.length) : Runs1 F MF f_apart [ofI a, ofI b] (tupI (apI a b)) := by
  let pl := (List.range a.length).filter fun i => a.getD i 0 != b.getD i 0
  let pI : List Int := pl.map fun (i : Nat) => (i : Int)
  have hpl : ∀ i ∈ pl, i < a.length := fun i m => List.mem_range.mp (List.mem_filter.mp m).1
  have hpll : pl.length ≤ a.length := by
    have := List.length_filter_le (fun i => a.getD i 0 != b.getD i 0) (List.range a.length)
    rwa [List.length_range] at this
  have e1 : ev F [] [some (ofI a), some (ofI b), none] (.comp [true, true, false] 1 (.rng [(.b1 .len (.var 0))]) (.fin 0 [(.cmp .NotEq (.idx (.var 1) (.var 0)) (.idx (.var 2) (.var 0)))] (.var 0))) = some (ofI pI) := by
    refine ev_comp (evI_rng (evL_cons (ev_b1 (ev_var rfl) (lenI a hl)) evL_nil) (rngN hl)) (zs := pI.map .int) ?_ (by simp [pI]; omega)
    rw [show pI.map D.int = pl.map fun (i : Nat) => D.int (i : Int) by rw [List.map_map]; rfl]
    refine evC_filter (fun i m => ?_) (fun i m _ => ev_var rfl)
    have := List.mem_range.mp m
    exact ev_cmp (ev_idx (ev_var rfl) (ev_var rfl) (idxN (c := a.getD i 0) (by omega) (by simp [this]))) (ev_idx (ev_var rfl) (ev_var rfl) (idxN (c := b.getD i 0) (by omega) (by simp [show i < b.length by omega]))) rfl
  have ea : ev F [] [some (ofI a), some (ofI b), some (ofI pI)] (.comp [true, false, false] 1 (.seq (.var 2)) (.fin 0 [] (.idx (.var 1) (.var 0)))) = some (ofI (apI a b).1) := by
    refine ev_comp (evI_seq (ev_var rfl)) (zs := (apI a b).1.map .int) ?_ (by rw [List.length_map]; show (pl.map _).length ≤ lim; rw [List.length_map]; omega)
    rw [show pI.map D.int = pl.map fun (i : Nat) => D.int (i : Int) by rw [List.map_map]; rfl, show (apI a b).1.map D.int = pl.map fun i => D.int (a.getD i 0) by simp [apI, pl]]
    refine evC_map fun i m => ?_
    have := hpl i m
    exact ev_idx (ev_var rfl) (ev_var rfl) (idxN (c := a.getD i 0) (by omega) (by simp [this]))
  have eb : ev F [] [some (ofI a), some (ofI b), some (ofI pI)] (.comp [false, true, false] 1 (.seq (.var 2)) (.fin 0 [] (.idx (.var 2) (.var 0)))) = some (ofI (apI a b).2) := by
    refine ev_comp (evI_seq (ev_var rfl)) (zs := (apI a b).2.map .int) ?_ (by rw [List.length_map]; show (pl.map _).length ≤ lim; rw [List.length_map]; omega)
    rw [show pI.map D.int = pl.map fun (i : Nat) => D.int (i : Int) by rw [List.map_map]; rfl, show (apI a b).2.map D.int = pl.map fun i => D.int (b.getD i 0) by simp [apI, pl]]
    refine evC_map fun i m => ?_
    have := hpl i m
    exact ev_idx (ev_var rfl) (ev_var rfl) (idxN (c := b.getD i 0) (by omega) (by simp [show i < b.length by omega]))
  have key : RL F MF b_lawapart [some (ofI a), some (ofI b), none] [] (.ret (tupI (apI a b)), [some (ofI a), some (ofI b), some (ofI pI)], []) :=
    RL.cons (RS.asg e1) (RL.out (RS.ret (ev_tup (evL_cons ea (evL_cons eb evL_nil)) (by decide : 2 ≤ lim))) rfl)
  refine ⟨rfl, by simp [qnoMls0, qnoMls1, nm_ofI], _, _, _, key, ?_⟩
  show (if noMl (tupI (apI a b)) then some (tupI (apI a b)) else none) = _
  rw [if_pos]
  show noMls [ofI (apI a b).1, ofI (apI a b).2] = true
  simp [qnoMls0, qnoMls1, nm_ofI]
noncomputable def f_told : Fn := ⟨b_lawtold, 4, 2, []⟩
structure WayOK (F : Nat → List D → Option D) (os text : List Nat) (lat fm y : List Int) : Prop where
  sp : ∃ s, F 16 [ofI (oI os), ofI y] = some (tD s) ∧ F 2 [tD s] = some (tD text)
  d1 : ∃ p, F 7 [ofI lat, ofI y] = some (tupI p) ∧ F 17 [ofI lat, ofI y] = some (tupI p)
  d2 : ∃ p, F 7 [ofI y, ofI fm] = some (tupI p) ∧ F 17 [ofI y, ofI fm] = some (tupI p)
noncomputable def ChOK (R : List Int → List Int → Prop) : List Int → LI → Prop
  | _, [] => True
  | fm, y :: r => R fm y ∧ ChOK R y r
noncomputable abbrev bodyTold : List PS := [(.ite (.cmp .NotEq (.call 2 [(.call 16 [(.var 0), (.var 5)])]) (.var 1)) [(.ret (some (.lit (.bool false))))] []), (.ite (.cmp .NotEq (.call 7 [(.var 2), (.var 5)]) (.call 17 [(.var 2), (.var 5)])) [(.ret (some (.lit (.bool false))))] []), (.ite (.cmp .NotEq (.call 7 [(.var 5), (.var 4)]) (.call 17 [(.var 5), (.var 4)])) [(.ret (some (.lit (.bool false))))] []), (.asg 4 (.var 5))]
noncomputable abbrev roT (os text : List Nat) (lat : List Int) (ways : LI) (fm : List Int) (x5 : Option D) : Sto := [some (ofI (oI os)), some (tD text), some (ofI lat), some (ofL ways), some (ofI fm), x5]
theorem loop_told {os text : List Nat} {lat : List Int} {ways : LI} : ∀ (ys : LI) (fm : List Int) (x5 : Option D), ChOK (WayOK F os text lat) fm ys →
    ∃ fm' y5, RF F MF 5 bodyTold (ys.map ofI) (roT os text lat ways fm x5) [] (.next, roT os text lat ways fm' y5, [])
  | [], fm, x5, _ => ⟨fm, x5, RF.nil⟩
  | y :: ys, fm, x5, h => by
    obtain ⟨⟨⟨s, s1, s2⟩, ⟨p, p1, p2⟩, ⟨q, q1, q2⟩⟩, h'⟩ := h
    obtain ⟨fm', y5, ih⟩ := loop_told (ways := ways) ys y (some (ofI y)) h'
    refine ⟨fm', y5, RF.go (o := .next) (RL.cons (RS.ite (t := false) (d := .bool false) (ev_cmp (ev_call (evL_cons (ev_call (evL_cons (ev_var rfl) (evL_cons (ev_var rfl) evL_nil)) s1) evL_nil) s2) (ev_var rfl) (neT.trans (by simp))) rfl RL.nil)
      (RL.cons (RS.ite (t := false) (d := .bool false) (ev_cmp (ev_call (evL_cons (ev_var rfl) (evL_cons (ev_var rfl) evL_nil)) p1) (ev_call (evL_cons (ev_var rfl) (evL_cons (ev_var rfl) evL_nil)) p2) (eqTup p)) rfl RL.nil)
      (RL.cons (RS.ite (t := false) (d := .bool false) (ev_cmp (ev_call (evL_cons (ev_var rfl) (evL_cons (ev_var rfl) evL_nil)) q1) (ev_call (evL_cons (ev_var rfl) (evL_cons (ev_var rfl) evL_nil)) q2) (eqTup q)) rfl RL.nil)
      (RL.cons (RS.asg (d := ofI y) (ev_var rfl)) RL.nil)))) rfl ih⟩
theorem runs_told (os text : List Nat) (lat : List Int) (ways : LI) (h : ChOK (WayOK F os text lat) lat ways) : Runs1 F MF f_told [ofI (oI os), tD text, ofI lat, ofL ways] (.bool true) := by
  obtain ⟨fm', y5, lp⟩ := loop_told (F := F) (MF := MF) (ways := ways) ways lat none h
  have key : RL F MF b_lawtold [some (ofI (oI os)), some (tD text), some (ofI lat), some (ofL ways), none, none] [] (.ret (.bool true), roT os text lat ways fm' y5, []) :=
    RL.cons (RS.asg (d := ofI lat) (ev_var rfl)) (RL.cons (RS.for1 (evI_seq (ev_var rfl)) (nmL ways) lp) (RL.out (RS.ret ev_lit) rfl))
  refine ⟨rfl, ?_, _, _, _, key, rfl⟩
  have : noMl (ofL ways) = true := nmL ways
  simp [qnoMls0, qnoMls1, nm_ofI, this, qnoMl0, qnoMl1, qnoMl2, qnoMl3, qnoMl4, qnoMl5, qnoMl6, qnoMl7]
end
end Mine
end
section
namespace Mine
noncomputable def takeW : Nat → List Nat → Nat
  | _, [] => 0
  | r, o :: os => if o ≤ r then takeW (r - o) os + 1 else 0
noncomputable def grL (w : Nat) : Nat → List Nat → List Nat
  | 0, ws => [ws.length]
  | n + 1, ws => if ws.sum ≤ w then [ws.length] else takeW (w - 1) ws :: grL w n (ws.drop (takeW (w - 1) ws))
noncomputable def sortI (xs : LI) : Option LI := if xs.length < 2 then some xs else if xs.length < 64 then (runC (fun i j => ltI (xs.getD i []) (xs.getD j [])) xs.length (kas_sort xs.length)).bind fun p => mapO (fun i => xs[i]?) p.toList else none
noncomputable def maxes (few : LI) : Option (List Int) := match few with
  | [] => none
  | x :: _ => mapO (fun i => (mapO (fun y => y[i]?) few).bind maxI) (List.range x.length)
noncomputable def okWay (n : Nat) (y : List Int) : Bool := rising y && y.all fun b => decide (0 < b) && decide (b < n)
noncomputable def chain (R : List Int → List Int → Bool) : List Int → LI → Bool
  | _, [] => true
  | fm, y :: r => R fm y && chain R y r
theorem qchain0 {R : List Int → List Int → Bool} {fm : List Int} : chain R fm [] = true := rfl
theorem qchain1 {R : List Int → List Int → Bool} {fm y : List Int} {r : LI} : chain R fm (y :: r) = (R fm y && chain R y r) := rfl
noncomputable def twoOK (a b : List Int) : Bool := rising a && rising b && decide (a.length < 700) && decide (b.length < 700) && decide (a.length ≤ b.length) && sld a b == apI a b
noncomputable def chk (w : Nat) (ws : List Nat) : Bool :=
  match fewO (oI ws) w with
  | none => false
  | some few => match maxes few with
    | none => false
    | some lat => lat == brkI (grL w ws.length ws) && decide (few.length < 900) && few.all (fun y => decide (y.length < 900)) && decide (lat.length < 700) && okWay ws.length lat && match notedO (oI ws) w lat 400 [List.replicate lat.length 0] [], mapO (movO lat) few with
      | some nt, some mv => sortI mv == some nt && decide (nt.length < 800) && match mapO (movO lat) nt with
        | none => false
        | some ways => chain (fun fm y => okWay ws.length y && twoOK lat y && twoOK y fm) lat ways
      | _, _ => false
noncomputable def pats : Nat → List (List Nat)
  | 0 => [[1]]
  | n + 1 => (pats n).flatMap fun p => [1 :: p, 3 :: p]
theorem qpats0  : pats 0 = [[1]] := rfl
theorem qpats1 {n : Nat} : pats (n + 1) = (pats n).flatMap fun p => [1 :: p, 3 :: p] := rfl
end Mine
end
section
namespace Mine
theorem mapO_map {α β : Type} {f : α → Option β} {g : α → β} : ∀ {xs : List α} {ys : List β}, mapO f xs = some ys → (∀ x y, f x = some y → g x = y) → ys = xs.map g
  | [], ys, h, _ => by simp only [qmapO0, qmapO1, Option.some.injEq] at h; rw [← h]; rfl
  | x :: xs, ys, h, hg => by
    simp only [qmapO0, qmapO1] at h
    split at h
    · cases h
    rename_i y hy
    split at h
    · cases h
    rename_i zs hz
    injection h with h
    rw [← h, mapO_map hz hg, List.map_cons, hg x y hy]
theorem mapO_mem {α β : Type} {f : α → Option β} : ∀ {xs : List α} {ys : List β}, mapO f xs = some ys → ∀ x ∈ xs, ∃ y, f x = some y
  | [], ys, h, x, m => by cases m
  | x :: xs, ys, h, z, m => by
    simp only [qmapO0, qmapO1] at h
    split at h
    · cases h
    rename_i y hy
    split at h
    · cases h
    rename_i zs hz
    rcases List.mem_cons.mp m with rfl | m
    · exact ⟨y, hy⟩
    · exact mapO_mem hz z m
theorem mapO_comp {α β γ : Type} {f : α → Option β} {f' : α → Option γ} {g : β → γ} (h : ∀ x, f' x = (f x).map g) : ∀ (xs : List α), mapO f' xs = (mapO f xs).map (·.map g)
  | [] => rfl
  | x :: xs => by
    simp only [qmapO0, qmapO1, h x, mapO_comp h xs]
    cases f x with
    | none => rfl
    | some y => cases mapO f xs with
      | none => rfl
      | some ys => rfl
theorem movO_eq {a b y : List Int} (h : movO a b = some y) : y = movI a b := by
  unfold movO at h
  split at h
  · injection h with h; exact h.symm
  · cases h
theorem singles : ∀ (os : List Nat), (os.map fun o => [o]).flatten = os
  | [] => rfl
  | o :: r => by rw [List.map_cons, List.flatten_cons, singles r]; rfl
theorem sortD_ofI (xs : LI) : sortD xs (xs.map ofI) = (sortI xs).map (·.map ofI) := by
  unfold sortD sortI
  rw [List.length_map]
  split
  · rfl
  · split
    · cases runC (fun i j => ltI (xs.getD i []) (xs.getD j [])) xs.length (kas_sort xs.length) with
      | none => rfl
      | some p =>
        simp only [Option.bind_some]
        exact mapO_comp (fun i => by rw [List.getElem?_map]) p.toList
    · rfl
theorem sortedD {μ : Mus} {xs ys : LI} (h : sortI xs = some ys) : b1D μ .sorted (ofL xs) = some (ofL ys) := by
  show ((mapO intsL (xs.map ofI)).bind fun xss => sortD xss (xs.map ofI)).map D.list = _
  rw [mapO_ofI, Option.bind_some, sortD_ofI, h]; rfl
section
variable {F : Nat → List D → Option D} {MF : Nat → List D → List D → Option (List D × D)} {ρ ρ' : Sto} {μ μ' : Mus} {r : Out × Sto × Mus} {d : D} {e c a f : PX} {ps b : List PS} {p : PS} {sl l k : Nat} {o : Out}
theorem and4 {x y z u : PX} (h1 : ev F μ ρ x = some (.bool true)) (h2 : ev F μ ρ y = some (.bool true)) (h3 : ev F μ ρ z = some (.bool true)) (h4 : ev F μ ρ u = some d) : ev F μ ρ (.and [x, y, z, u]) = some d := by show evAnd _ _ _ _ = _; simp only [qevAnd0, qevAnd1, h1, h2, h3, h4, truthD]
noncomputable def f_holds : Fn := ⟨b_lawholds, 2, 7, []⟩
noncomputable def wd (os : List Nat) : List Nat := os.map fun o => (sgn o).length
noncomputable abbrev px1 : PX := .comp [false, false, false, false, false, false, true, false, false] 1 (.rng [(.b1 .len (.idx (.var 6) (.lit (.int (0)))))]) (.fin 0 [] (.b1 .max (.comp [true, false, false, false, false, false, false, false, false, false] 1 (.seq (.var 7)) (.fin 0 [] (.idx (.var 0) (.var 1))))))
noncomputable abbrev px2 (i : Nat) : PX := .comp [false, false, false, false, false, true, false, false, false] 1 (.seq (.var i)) (.fin 0 [] (.call 14 [(.var 6), (.var 0)]))
theorem ev_max {few : LI} {lat : List Int} (hl : few.length ≤ lim) (hmx : maxes few = some lat) (hll : ∀ x ∈ few, x.length ≤ lim) (h6 : ρ[6]? = some (some (ofL few))) (h6' : ∀ x, (([x] ++ maskR [false, false, false, false, false, false, true, false, false] ρ) : Sto)[7]? = some (some (ofL few)))
    (hm : ∀ x, (([none] ++ maskR [true, false, false, false, false, false, false, false, false, false] ([x] ++ maskR [false, false, false, false, false, false, true, false, false] ρ)) : Sto) = [none, x, none, none, none, none, none, none, none, none, none]) : ev F μ ρ px1 = some (ofI lat) := by
  cases few with
  | nil => cases hmx
  | cons x0 few =>
    have h0 := hll x0 (.head _)
    have hll' : lat.length ≤ lim := by
      have := mapO_map (g := fun i => ((mapO (fun y : List Int => y[i]?) (x0 :: few)).bind maxI).getD 0) hmx (fun i m h => by rw [h]; rfl)
      rw [this]; simpa using h0
    refine ev_comp (evI_rng (evL_cons (ev_b1 (ev_idx (ev_var h6) ev_lit (idxL (i := 0) (by decide) rfl)) (lenI x0 h0)) evL_nil) (rngN h0)) (zs := lat.map .int) ?_ (by simpa using hll')
    rw [show lat.map D.int = (List.range x0.length).map fun i => D.int (((mapO (fun y : List Int => y[i]?) (x0 :: few)).bind maxI).getD 0) by
      rw [mapO_map (g := fun i => ((mapO (fun y : List Int => y[i]?) (x0 :: few)).bind maxI).getD 0) hmx (fun i m h => by rw [h]; rfl), List.map_map]; rfl]
    refine evC_map fun i m => ?_
    have hi := List.mem_range.mp m
    obtain ⟨mv, hmv⟩ := mapO_mem hmx i m
    rw [hmv]
    obtain ⟨vs, hvs, hmax⟩ := Option.bind_eq_some_iff.mp hmv
    have hvs' := mapO_map (g := fun y : List Int => y.getD i 0) hvs (fun y v h => by rw [List.getD_eq_getElem?_getD, h]; rfl)
    have hset : (([none] ++ maskR [false, false, false, false, false, false, true, false, false] ρ) : Sto).set 0 (some (.int (i : Int))) = [some (.int (i : Int))] ++ maskR [false, false, false, false, false, false, true, false, false] ρ := rfl
    show ev F μ ((([none] ++ maskR [false, false, false, false, false, false, true, false, false] ρ) : Sto).set 0 (some (.int (i : Int)))) _ = _
    rw [hset]
    refine ev_b1 (x := ofI vs) (ev_comp (evI_seq (ds := (x0 :: few).map ofI) (ev_var (h6' _))) (zs := vs.map .int) ?_ (by rw [hvs']; simpa using hl)) ?_
    · rw [show vs.map D.int = (x0 :: few).map fun y => D.int (y.getD i 0) by rw [hvs', List.map_map]; rfl]
      show evC F μ ([none] ++ maskR [true, false, false, false, false, false, false, false, false, false] _) _ _ = _
      rw [hm]
      refine evC_map fun y my => ?_
      obtain ⟨v, hv⟩ := mapO_mem hvs y my
      refine ev_idx (ev_var rfl) (ev_var rfl) (idxN (c := y.getD i 0) (by omega) (by rw [List.getD_eq_getElem?_getD, hv]; rfl))
    · show ((gInts (vs.map D.int)).bind maxI).map D.int = _
      rw [gI, Option.bind_some, hmax]; rfl
theorem ev_mov {few mv : LI} {lat : List Int} {i : Nat} (hl : few.length ≤ lim) (h14 : ∀ a b y, movO a b = some y → F 14 [ofI a, ofI b] = some (ofI y)) (hmv : mapO (movO lat) few = some mv) (hi : ρ[i]? = some (some (ofL few))) (h6 : ∀ x, (([x] ++ maskR [false, false, false, false, false, true, false, false, false] ρ) : Sto)[6]? = some (some (ofI lat))) : ev F μ ρ (px2 i) = some (ofL mv) := by
  have hm := mapO_map (g := movI lat) hmv (fun y z h => (movO_eq h).symm)
  refine ev_comp (evI_seq (ds := few.map ofI) (ev_var hi)) (zs := mv.map ofI) ?_ (by rw [hm]; simpa using hl)
  rw [show mv.map ofI = few.map fun y => ofI (movI lat y) by rw [hm, List.map_map]; rfl]
  refine evC_map fun y m => ?_
  obtain ⟨z, hz⟩ := mapO_mem hmv y m
  have hz' := movO_eq hz
  exact ev_call (evL_cons (ev_var (h6 _)) (evL_cons (ev_var rfl) evL_nil)) (by rw [h14 lat y z hz, hz'])
theorem runs_holds {os bd : List Nat} {w : Nat} {lat : List Int} {few nt mv ways : LI} (hlen : os.length ≤ 300) (hok : ∀ o ∈ os, o < 256) (h10 : ∀ o : Nat, o < 256 → F 10 [.int (o : Int)] = some (tD (sgn o)))
    (h1 : F 1 [tD os, .int (w : Int)] = some (tD bd)) (h11 : F 11 [tD bd] = some (ofI lat)) (h15 : F 15 [ofI (oI (wd os)), .int (w : Int)] = some (ofL few)) (hmx : maxes few = some lat) (h13 : F 13 [ofI (oI (wd os)), .int (w : Int), ofI lat] = some (ofL nt))
    (h14 : ∀ a b y, movO a b = some y → F 14 [ofI a, ofI b] = some (ofI y)) (hmv : mapO (movO lat) few = some mv) (hst : sortI mv = some nt) (hways : mapO (movO lat) nt = some ways) (h16 : F 16 [ofI (oI os), ofI lat] = some (tD bd)) (h18 : F 18 [ofI (oI os), tD os, ofI lat, ofL ways] = some (.bool true))
    (hfl : few.length ≤ lim) (hfl2 : ∀ x ∈ few, x.length ≤ lim) (hnl : nt.length ≤ lim) : Runs1 F MF f_holds [.int (w : Int), ofI (oI os)] (.bool true) := by
  have hlim : (lim : Nat) = 100000 := rfl
  let ρ8 : Sto := [some (.int (w : Int)), some (ofI (oI os)), some (ofI (oI (wd os))), some (tD os), some (tD bd), some (ofI lat), some (ofL few), some (ofL nt), some (ofL ways)]
  have e2 : ev F [] [some (.int (w : Int)), some (ofI (oI os)), none, none, none, none, none, none, none] (.comp [false, false, false, false, false, false, false, false, false] 1 (.seq (.var 1)) (.fin 0 [] (.b1 .len (.call 10 [(.var 0)])))) = some (ofI (oI (wd os))) := by
    refine ev_comp (evI_seq (ds := (oI os).map .int) (ev_var rfl)) (zs := (oI (wd os)).map .int) ?_ (by rw [List.length_map, oI_len]; simp [wd]; omega)
    rw [show (oI os).map D.int = os.map fun (o : Nat) => D.int (o : Int) by simp [oI, Function.comp_def], show (oI (wd os)).map D.int = os.map fun (o : Nat) => D.int ((sgn o).length : Int) by simp [oI, wd, Function.comp_def]]
    refine evC_map fun o m => ?_
    exact ev_b1 (ev_call (evL_cons (ev_var rfl) evL_nil) (h10 o (hok o m))) (lenT (by unfold sgn; split <;> simp [lim]))
  have e3 : ev F [] [some (.int (w : Int)), some (ofI (oI os)), some (ofI (oI (wd os))), none, none, none, none, none, none] (.meth1 .join (.lit (.str ⟨#[]⟩)) (.comp [false, false, false, false, false, false, false, false, false] 1 (.seq (.var 1)) (.fin 0 [] (.b1 .chr (.var 0))))) = some (tD os) := by
    refine ev_meth1 ev_lit (ev_comp (evI_seq (ds := (oI os).map .int) (ev_var rfl)) (zs := (os.map fun o => [o]).map tD) ?_ (by simp; omega)) ((joinT (sep := []) (by simp) (by simp; omega) (fun x m => ?_)).trans ?_)
    · rw [show (oI os).map D.int = os.map fun (o : Nat) => D.int (o : Int) by simp [oI, Function.comp_def], List.map_map]
      refine evC_map fun o m => ?_
      refine ev_b1 (ev_var rfl) ?_
      have := hok o m
      show (if 0 ≤ (o : Int) && (o : Int) < 256 then some (D.str ⟨#[(o : Int).toNat]⟩) else none) = _
      rw [if_pos (by simp; omega)]; rfl
    · obtain ⟨o, _, rfl⟩ := List.mem_map.mp m
      simp
    · rw [joinN_nil]
      rw [singles]
  have eneI : ∀ {x y : PX} {ρ : Sto}, ev F [] ρ x = some (ofI lat) → ev F [] ρ y = some (ofI lat) → ev F [] ρ (.cmp .NotEq x y) = some (.bool false) := fun hx hy => ev_cmp hx hy (by
    show (eqD (ofI lat) (ofI lat)).map (fun x => D.bool (!x)) = _
    rw [eqI, decide_eq_true rfl]; rfl)
  have eeqI : ∀ {x y : PX} {ρ : Sto}, ev F [] ρ x = some (ofI lat) → ev F [] ρ y = some (ofI lat) → ev F [] ρ (.cmp .Eq x y) = some (.bool true) := fun hx hy => ev_cmp hx hy (by
    show (eqD (ofI lat) (ofI lat)).map D.bool = _
    rw [eqI, decide_eq_true rfl]; rfl)
  have key : RL F MF b_lawholds [some (.int (w : Int)), some (ofI (oI os)), none, none, none, none, none, none, none] [] (.ret (.bool true), ρ8, []) := by
    refine RL.cons (RS.asg e2) (RL.cons (RS.asg e3) (RL.cons (RS.asg (ev_call (evL_cons (ev_var rfl) (evL_cons (ev_var rfl) evL_nil)) h1)) (RL.cons (RS.asg (ev_call (evL_cons (ev_var rfl) evL_nil) h11)) (RL.cons (RS.asg (ev_call (evL_cons (ev_var rfl) (evL_cons (ev_var rfl) evL_nil)) h15))
      (RL.cons (RS.ite (t := false) (eneI (ev_var rfl) (ev_max hfl hmx hfl2 rfl (fun _ => rfl) (fun _ => rfl))) rfl RL.nil) (RL.cons (RS.asg (ev_call (evL_cons (ev_var rfl) (evL_cons (ev_var rfl) (evL_cons (ev_var rfl) evL_nil))) h13))
      (RL.cons (RS.ite (t := false) (d := .bool false) (ev_cmp (ev_var rfl) (ev_b1 (ev_mov hfl h14 hmv rfl (fun _ => rfl)) (sortedD hst)) ?_) rfl RL.nil) (RL.cons (RS.asg (ev_mov hnl h14 hways rfl (fun _ => rfl))) (RL.out (RS.ret (and4 (ev_cmp (ev_var rfl) (ev_call (evL_cons (ev_var rfl) (evL_cons (ev_var rfl) evL_nil)) h16) (eqT.trans (by simp))) (ev_call (evL_cons (ev_var rfl) (evL_cons (ev_var rfl) (evL_cons (ev_var rfl) (evL_cons (ev_var rfl) evL_nil)))) h18) (ev_cmp (ev_var rfl) (ev_mov hnl h14 hways rfl (fun _ => rfl)) ?_) (eeqI (ev_var rfl) (ev_max hfl hmx hfl2 rfl (fun _ => rfl) (fun _ => rfl))))) rfl)))))))))
    · show (eqD (ofL nt) (ofL nt)).map (fun x => D.bool (!x)) = _
      rw [eqL]; rfl
    · show (eqD (ofL ways) (ofL ways)).map D.bool = _
      rw [eqL]; rfl
  exact ⟨rfl, by simp [qnoMls0, qnoMls1, nm_ofI, qnoMl0, qnoMl1, qnoMl2, qnoMl3, qnoMl4, qnoMl5, qnoMl6, qnoMl7], _, _, _, key, rfl⟩
noncomputable def f_law : Fn := ⟨b_law, 1, 1, []⟩
theorem runs_law {xs ns : List Int} {w : Nat} {os : List Nat} {b : D} (h8 : F 8 [ofI xs] = some (ofI ns)) (hn : ns.length = 9) (hw : (4 : Int) + (ns.getD 0 0).fmod 4 = w) (h9 : ∀ n : Int, F 9 [.int n] = some (.int (octI n))) (hos : oI os = (ns.drop 1).map octI) (h19 : F 19 [.int (w : Int), ofI (oI (os ++ [46]))] = some b) (hb : noMl b = true) : Runs1 F MF f_law [ofI xs] b := by
  have hlim : (lim : Nat) = 100000 := rfl
  have key : RL F MF b_law [some (ofI xs), none] [] (.ret b, [some (ofI xs), some (ofI ns)], []) := by
    refine RL.cons (RS.asg (ev_call (evL_cons (ev_var rfl) evL_nil) h8)) (RL.out (RS.ret (ev_call (evL_cons (x := .int (w : Int)) (ev_bin ev_lit (ev_bin (x := .int (ns.getD 0 0)) (ev_idx (ev_var rfl) ev_lit (idxN (i := 0) (by decide) ?_)) ev_lit rfl) ?_) (evL_cons (x := ofI (oI (os ++ [46]))) (ev_bin (ev_comp (evI_seq (ev_slc (ev_var rfl) ev_lit ev_lit ev_lit (slcI1 (a := 1) (by omega) (by decide)))) (zs := (oI os).map .int) ?_ ?_) (ev_list (evL_cons ev_lit evL_nil) (by decide : 1 ≤ lim)) ?_) evL_nil)) h19)) rfl)
    · rw [List.getD_eq_getElem?_getD, List.getElem?_eq_getElem (show 0 < ns.length by omega)]; rfl
    · show some (D.int (4 + (ns.getD 0 0).fmod 4)) = _
      rw [hw]
    · rw [hos, List.map_map]
      exact evC_map fun n m => ev_call (evL_cons (ev_var rfl) evL_nil) (h9 n)
    · rw [hos]; simp; omega
    · have := addI (μ := ([] : Mus)) (a := oI os) (b := [46]) (by rw [hos]; simp; omega)
      refine this.trans ?_
      simp [oI]
  refine ⟨rfl, by simp [qnoMls0, qnoMls1, nm_ofI], _, _, _, key, ?_⟩
  cases b <;> simp_all [frz, qnoMl0, qnoMl1, qnoMl2, qnoMl3, qnoMl4, qnoMl5, qnoMl6, qnoMl7]
end
end Mine
end
section
namespace Mine
section
variable {F : Nat → List D → Option D} {MF : Nat → List D → List D → Option (List D × D)}
theorem RunsM.det {f : Fn} {c ds c' c2 : List D} {d d2 : D} (h : RunsM F MF f c ds c' d) (h' : RunsM F MF f c ds c2 d2) : c' = c2 ∧ d = d2 := by
  obtain ⟨_, _, o, ρ, k, e⟩ := h
  obtain ⟨_, _, o', ρ', k', e'⟩ := h'
  have q := RL.det k k'
  injection q with q1 q2
  injection q2 with q2 q3
  injection q3 with q3
  subst q1
  refine ⟨q3, ?_⟩
  rcases e with e | ⟨e, f⟩ <;> rcases e' with e' | ⟨e', f'⟩ <;> rw [e] at e'
  · injection e'
  · cases e'
  · cases e'
  · rw [f, f']
open Classical in
noncomputable def specMOf (F : Nat → List D → Option D) (MF : Nat → List D → List D → Option (List D × D)) (f : Fn) : List D → List D → Option (List D × D) := fun c ds => if h : ∃ r : List D × D, RunsM F MF f c ds r.1 r.2 then some h.choose else none
theorem specMOf_runs {f : Fn} {c ds c' : List D} {d : D} (h : specMOf F MF f c ds = some (c', d)) : RunsM F MF f c ds c' d := by
  unfold specMOf at h
  split at h
  · rename_i q
    injection h with h
    have := q.choose_spec
    rw [h] at this; exact this
  · cases h
theorem specMOf_at {f : Fn} {c ds c' : List D} {d : D} (h : RunsM F MF f c ds c' d) : specMOf F MF f c ds = some (c', d) := by
  unfold specMOf
  have q : ∃ r : List D × D, RunsM F MF f c ds r.1 r.2 := ⟨(c', d), h⟩
  rw [dif_pos q]
  obtain ⟨e1, e2⟩ := q.choose_spec.det h
  exact congrArg some (Prod.ext e1 e2)
end
inductive AllF (P : Nat → Fn → Prop) : Nat → List (Option Fn) → Prop
  | nil {i : Nat} : AllF P i []
  | no {i : Nat} {r : List (Option Fn)} (h : AllF P (i + 1) r) : AllF P i (none :: r)
  | one {i : Nat} {f : Fn} {r : List (Option Fn)} (p : P i f) (h : AllF P (i + 1) r) : AllF P i (some f :: r)
theorem AllF.get {P : Nat → Fn → Prop} {l : List (Option Fn)} {i k : Nat} {f : Fn} (h : AllF P i l) (e : (l[k]?).bind id = some f) : P (i + k) f := by
  induction h generalizing k with
  | nil => cases e
  | no h ih => cases k with
    | zero => cases e
    | succ k => rw [Nat.add_comm k 1, ← Nat.add_assoc]; exact ih e
  | one p h ih => cases k with
    | zero => cases e; exact p
    | succ k => rw [Nat.add_comm k 1, ← Nat.add_assoc]; exact ih e
noncomputable def tabL : List (Option Fn) := [some f_unquote, some f_encode, some f_decode, none, none, none, none, none, some f_numbers, some f_octet, some f_sign, some f_breaks, some f_fits, some f_noted, some f_moved, some f_fewest, some f_spelled, some f_apart, some f_told, some f_holds]
noncomputable def tab (k : Nat) : Option Fn := (tabL[k]?).bind id
noncomputable def mtabL : List (Option Fn) := [some f_heappush, some f_heappop, some f_siftdown, some f_siftup]
noncomputable def mtab (k : Nat) : Option Fn := (mtabL[k]?).bind id
noncomputable def Fl : Nat → (Nat → List D → Option D) × (Nat → List D → List D → Option (List D × D))
  | 0 => (fun _ _ => none, fun _ _ _ => none)
  | j + 1 => (fun k ds => if k = 7 then sldD ds else (tab k).bind fun f => specOf (Fl j).1 (Fl j).2 f ds, fun k c ds => (mtab k).bind fun f => specMOf (Fl j).1 (Fl j).2 f c ds)
structure Bs (w : World) (base : Heap) (fa : Nat → Addr) : Prop where
  glo : Glo base
  at' : ∀ k x, fi x fnames = some k → ∃ o fd, (mgB base) x = some (.ref (fa k)) ∧ base.get? (fa k) = some o ∧ o.data = .func fd
  atM : ∀ k x, fi x mnames = some k → ∃ o fd, (mgB base) x = some (.ref (fa (k + 3))) ∧ base.get? (fa (k + 3)) = some o ∧ o.data = .func fd
  is : ∀ k f, tab k = some f → FnIs base f (fa k)
  isM : ∀ k f, mtab k = some f → FnIs base f (fa (k + 3))
  sld : ∀ F n, Wd w base F n → FnOK w base (n + 2) (fa 7) sldD
  nol : base.NoLimit
section
variable {w : World} {base : Heap} {fa : Nat → Addr}
theorem lev (B : Bs w base fa) : ∀ j, Wd w base (Fl j).1 (2 * j) ∧ WdM w base (Fl j).2 (2 * j)
  | 0 => ⟨⟨B.glo, fun k x h => let ⟨o, fd, h1, h2, h3⟩ := B.at' k x h; ⟨_, o, fd, h1, h2, h3, fun A s ad vs ds d _ _ _ _ _ _ hf => by cases hf⟩⟩, ⟨fun k x h => let ⟨o, fd, h1, h2, h3⟩ := B.atM k x h; ⟨_, o, fd, h1, h2, h3, fun A s ad a₀ cvs vs c ds c' d _ _ _ _ _ _ _ _ _ hf => by cases hf⟩⟩⟩
  | j + 1 => by
    obtain ⟨W, WM⟩ := lev B j
    refine ⟨⟨B.glo, fun k x h => ?_⟩, ⟨fun k x h => ?_⟩⟩
    · obtain ⟨o, fd, h1, h2, h3⟩ := B.at' k x h
      refine ⟨_, o, fd, h1, h2, h3, ?_⟩
      show FnOK w base (2 * j + 2) (fa k) (fun ds => if k = 7 then sldD ds else (tab k).bind fun f => specOf (Fl j).1 (Fl j).2 f ds)
      by_cases hk : k = 7
      · subst hk
        exact B.sld _ _ W
      · simp only [if_neg hk]
        cases ht : tab k with
        | none => exact fun A s ad vs ds d _ _ _ _ _ _ hf => by cases hf
        | some f => exact fnok_of W WM B.nol (B.is k f ht) fun ds d hs => specOf_runs hs
    · obtain ⟨o, fd, h1, h2, h3⟩ := B.atM k x h
      refine ⟨_, o, fd, h1, h2, h3, ?_⟩
      show MFnOK w base (2 * j + 2) (fa (k + 3)) (fun c ds => (mtab k).bind fun f => specMOf (Fl j).1 (Fl j).2 f c ds)
      cases ht : mtab k with
      | none => exact fun A s ad a₀ cvs vs c ds c' d _ _ _ _ _ _ _ _ _ hf => by cases hf
      | some f =>
        have hdd : f.dd = [] := AllF.get (P := fun _ f => f.dd = []) (i := 0) (.one rfl (.one rfl (.one rfl (.one rfl .nil)))) ht
        exact mfnok_of W WM B.nol (B.isM k f ht) hdd fun c ds c' d hs => specMOf_runs hs
end
theorem fl_at {j k : Nat} {f : Fn} {ds : List D} {d : D} (ht : tab k = some f) (h7 : k ≠ 7) (h : Runs1 (Fl j).1 (Fl j).2 f ds d) : (Fl (j + 1)).1 k ds = some d := by
  show (if k = 7 then sldD ds else (tab k).bind fun f => specOf (Fl j).1 (Fl j).2 f ds) = _
  rw [if_neg h7, ht, Option.bind_some, specOf_at h]
theorem ml_at {j k : Nat} {f : Fn} {c ds c' : List D} {d : D} (ht : mtab k = some f) (h : RunsM (Fl j).1 (Fl j).2 f c ds c' d) : (Fl (j + 1)).2 k c ds = some (c', d) := by
  show ((mtab k).bind fun f => specMOf (Fl j).1 (Fl j).2 f c ds) = _
  rw [ht, Option.bind_some, specMOf_at h]
theorem g0 (j : Nat) (o : Nat) (h : o < 256) : (Fl (j + 1)).1 0 [tD [61, hxc (o / 16), hxc (o % 16)]] = some (tD [o]) := fl_at rfl (by decide) (runs_unquote o h)
theorem g8 (j : Nat) (xs : List Int) (h : xs.length ≤ lim) : (Fl (j + 1)).1 8 [ofI xs] = some (ofI (numI xs)) := fl_at rfl (by decide) (runs_numbers xs h)
theorem g9 (j : Nat) (n : Int) : (Fl (j + 1)).1 9 [.int n] = some (.int (octI n)) := fl_at rfl (by decide) (runs_octet n)
theorem g10 (j : Nat) (o : Nat) (h : o < 256) : (Fl (j + 1)).1 10 [.int (o : Int)] = some (tD (sgn o)) := fl_at rfl (by decide) (runs_sign o h)
theorem g12 (j : Nat) (ws : List Int) (w : Int) (bs : List Int) (t : Bool) (h : fitsO ws w bs = some t) : (Fl (j + 1)).1 12 [ofI ws, .int w, ofI bs] = some (.bool t) := by
  unfold fitsO at h
  split at h
  · rename_i q
    injection h with h
    subst h
    simp only [Bool.and_eq_true, decide_eq_true_eq, List.all_eq_true] at q
    exact fl_at rfl (by decide) (runs_fits ws bs w q.1.1 q.1.2 q.2)
  · cases h
theorem g14 (j : Nat) (a b y : List Int) (h : movO a b = some y) : (Fl (j + 1)).1 14 [ofI a, ofI b] = some (ofI y) := by
  unfold movO at h
  split at h
  · rename_i q
    injection h with h
    subst h
    simp only [Bool.and_eq_true, decide_eq_true_eq] at q
    exact fl_at rfl (by decide) (runs_moved a b q.1 q.2)
  · cases h
theorem g15 (j : Nat) (ws : List Int) (w : Int) (few : LI) (hl : ws.length ≤ 900) (h : fewO ws w = some few) : (Fl (j + 1)).1 15 [ofI ws, .int w] = some (ofL few) := fl_at rfl (by decide) (runs_fewest ws w few hl h)
theorem g17 (j : Nat) (a b : List Int) (hl : a.length ≤ lim) (h : a.length ≤ b.length) : (Fl (j + 1)).1 17 [ofI a, ofI b] = some (tupI (apI a b)) := fl_at rfl (by decide) (runs_apart a b hl h)
theorem g7 (j : Nat) (a b : List Int) (h1 : rising a = true) (h2 : rising b = true) (h3 : a.length < lim) (h4 : b.length < lim) : (Fl (j + 1)).1 7 [ofI a, ofI b] = some (tupI (sld a b)) := by
  show sldD [ofI a, ofI b] = _
  show (match gInts (a.map D.int), gInts (b.map D.int) with | some p, some q => (if rising p && rising q && decide (p.length < lim) && decide (q.length < lim) then some (D.tup [ofI (sld p q).1, ofI (sld p q).2]) else none) | _, _ => none) = _
  rw [gI, gI]
  exact if_pos (by simp [h1, h2, h3, h4])
theorem g1 (j : Nat) (os : List Nat) (w : Nat) (hok : ∀ o ∈ os, okO o) (hlast : os.getLast? = some 46) (hlen : os.length ≤ 300) (hw : 4 ≤ w) : (Fl (j + 1)).1 1 [tD os, .int (w : Int)] = some (tD (joinN [10] ((softs (gr w os.length os)).map lineOf))) := fl_at rfl (by decide) (runs_encode rfl rfl os w hok hlast hlen hw)
theorem g2 (j : Nat) (cs : List (List Nat × Bool)) (h : ∀ q ∈ cs, LnOK q) (h0 : cs ≠ []) (hr : (cs.flatMap rawOf).length ≤ 9000) (he : (joinN [10] (cs.map lineOf)).length ≤ 9000) : (Fl (j + 2)).1 2 [tD (joinN [10] (cs.map lineOf))] = some (tD (decF (cs.flatMap rawOf))) := fl_at rfl (by decide) (runs_decode rfl (g0 j) cs h h0 hr he)
theorem g16 (j : Nat) (os bs : List Nat) (hok : ∀ o ∈ os, o < 256) (hl : os.length ≤ 300) (hb : ∀ b ∈ bs, b ≤ os.length) (hbl : bs.length ≤ 800) (hp : ∀ x ∈ pieces os bs, (sp x).length ≤ 1000) : (Fl (j + 2)).1 16 [ofI (oI os), ofI (oI bs)] = some (tD (joinN [61, 10] ((pieces os bs).map sp))) := fl_at rfl (by decide) (runs_spelled os bs (g10 j) hok hl hb hbl hp)
theorem m2 (j : Nat) (h : LI) (p : Nat) (hp : p < h.length) (hl : h.length ≤ lim) : (Fl (j + 1)).2 2 (h.map ofI) [.int 0, .int p] = some ((sdH h p).map ofI, .none) := ml_at rfl (runs_siftdown h p hp hl)
theorem m0 (j : Nat) (h : LI) (x : List Int) (hl : h.length < lim) : (Fl (j + 2)).2 0 (h.map ofI) [ofI x] = some ((hpush h x).map ofI, .none) := ml_at rfl (runs_heappush h x hl (m2 j))
theorem m3 (j : Nat) (h : LI) (h0 : 0 < h.length) (hl : h.length ≤ lim) : (Fl (j + 2)).2 3 (h.map ofI) [.int 0] = some ((suH h).map ofI, .none) := ml_at rfl (runs_siftup h h0 hl (m2 j))
theorem m1 (j : Nat) (h : LI) (h0 : 0 < h.length) (hl : h.length ≤ lim) : (Fl (j + 3)).2 1 (h.map ofI) [] = some ((hpop h).2.map ofI, ofI (hpop h).1) := ml_at rfl (runs_heappop h h0 hl (m3 j))
theorem g13 (j : Nat) (ws la : List Int) (w : Int) (n : Nat) (nt : LI) (hla : la.length ≤ lim) (hn : notedO ws w la n [List.replicate la.length 0] [] = some nt) : (Fl (j + 4)).1 13 [ofI ws, .int w, ofI la] = some (ofL nt) := fl_at rfl (by decide) (runs_noted ws la w n nt (g12 (j + 2)) (g14 (j + 2)) (m0 (j + 1)) (m1 j) hla hn)
end Mine
end
section
namespace Mine
theorem decF_raw {q : List Nat × Bool} (h : LnOK q) : decF (rawOf q) = q.1 := by
  unfold rawOf decF
  cases q.2 with
  | true =>
    rw [if_pos rfl, List.append_nil, if_neg]
    intro z
    have := h.ok 10 (List.mem_of_getLast? z)
    unfold okO at this; omega
  | false => simp
theorem gdP (j : Nat) (q : List Nat × Bool) (h : LnOK q) : (Fl (j + 2)).1 2 [tD (lineOf q)] = some (tD q.1) := by
  have h1 := lineOf_len q
  have h2 := h.len
  have := g2 j [q] (fun x m => by rw [List.mem_singleton.mp m]; exact h) (by simp) (by have := rawOf_len q; simp; omega) (by show (lineOf q).length ≤ 9000; omega)
  rw [List.flatMap_singleton, decF_raw h] at this
  exact this
theorem g11 (j : Nat) (qs : List (List Nat × Bool)) (h : ∀ q ∈ qs, LnOK q) (h0 : qs ≠ []) (hl : qs.length ≤ 1000) (hb : (joinN [10] (qs.map lineOf)).length ≤ lim) : (Fl (j + 3)).1 11 [tD (joinN [10] (qs.map lineOf))] = some (ofI (brkI (qs.map fun q => q.1.length))) := fl_at rfl (by decide) (runs_breaks (gdP j) qs h h0 hl hb)
theorem softs_fst (xs : List (List Nat)) : (softs xs).map (fun q => q.1.length) = xs.map List.length := by
  induction xs with
  | nil => rfl
  | cons x r ih => cases r with
    | nil => rfl
    | cons y r => rw [softs_cons x (by simp), List.map_cons, ih]; rfl
theorem softs_raw : ∀ {xs : List (List Nat)}, xs ≠ [] → (softs xs).flatMap rawOf = xs.flatten ++ [10]
  | [], h => absurd rfl h
  | [x], _ => by simp [qsofts0, qsofts1, qsofts2, rawOf]
  | x :: y :: r, _ => by
    rw [softs_cons x (by simp), List.flatMap_cons, softs_raw (by simp), List.flatten_cons]
    simp [rawOf]
theorem softs_join : ∀ (xs : List (List Nat)), joinN [61, 10] (xs.map sp) = joinN [10] ((softs xs).map lineOf)
  | [] => rfl
  | [x] => by simp [qsofts0, qsofts1, qsofts2, lineOf, qjoinN0, qjoinN1, qjoinN2]
  | x :: y :: r => by
    have ih := softs_join (y :: r)
    rw [softs_cons x (by simp)]
    obtain ⟨z, zs, hz⟩ : ∃ z zs, (softs (y :: r)).map lineOf = z :: zs := by cases r <;> exact ⟨_, _, rfl⟩
    show joinN [61, 10] (sp x :: (y :: r).map sp) = joinN [10] (lineOf (x, true) :: (softs (y :: r)).map lineOf)
    rw [hz]
    show sp x ++ [61, 10] ++ joinN [61, 10] ((y :: r).map sp) = lineOf (x, true) ++ [10] ++ joinN [10] (z :: zs)
    rw [ih, hz]
    simp [lineOf]
theorem softs_ok {xs : List (List Nat)} {os : List Nat} (hf : xs.flatten = os) (hok : ∀ o ∈ os, okO o) (hlen : os.length ≤ 300) (hl : ∃ x, xs.getLast? = some x ∧ x.getLast? = some 46) : ∀ q ∈ softs xs, LnOK q := by
  intro q m
  have hm := softs_mem m
  have hsub : ∀ o ∈ q.1, o ∈ os := fun o mo => by rw [← hf]; exact List.mem_flatten.mpr ⟨q.1, hm, mo⟩
  have hspl : ∀ ys : List Nat, (sp ys).length ≤ 3 * ys.length := by
    intro ys
    induction ys with
    | nil => exact Nat.le_refl _
    | cons o r ih => rw [sp_cons, List.length_append, List.length_cons]; have : (sgn o).length ≤ 3 := by unfold sgn; split <;> simp
                     omega
  refine ⟨fun o mo => hok o (hsub o mo), ?_, ?_⟩
  · obtain ⟨x, hx, hx'⟩ := hl
    clear hsub hf hm
    induction xs with
    | nil => cases m
    | cons y r ih => cases r with
      | nil =>
        have e1 : y = x := by simpa using hx
        have e2 : q = (y, false) := by simpa [qsofts0, qsofts1, qsofts2] using m
        rw [e2, e1]; exact .inr hx'
      | cons z r =>
        rw [softs_cons y (by simp)] at m
        rcases List.mem_cons.mp m with rfl | m
        · exact .inl rfl
        · exact ih m (by simpa using hx)
  · have h1 := lineOf_le q
    have h2 := sp_le hm
    rw [hf] at h2
    have := hspl os
    omega
theorem gr_last (w : Nat) (hw : 4 ≤ w) : ∀ (n : Nat) (os : List Nat), os.length ≤ n → os.getLast? = some 46 → ∃ x, (gr w n os).getLast? = some x ∧ x.getLast? = some 46
  | 0, os, hn, hl => by
    have : os = [] := List.eq_nil_of_length_eq_zero (by omega)
    subst this; cases hl
  | n + 1, os, hn, hl => by
    unfold gr
    by_cases h : (sp os).length ≤ w
    · rw [if_pos h]; exact ⟨os, rfl, hl⟩
    · rw [if_neg h]
      have hne : os ≠ [] := by rintro rfl; cases hl
      have hp := takeN_pos (os := os) (r := w - 1) (by omega) hne
      obtain ⟨t1, t2, t3⟩ := takeN_spec os (w - 1)
      have hlt : takeN (w - 1) os < os.length := by
        by_cases q : takeN (w - 1) os < os.length
        · exact q
        · rw [List.take_of_length_le (by omega)] at t2; omega
      obtain ⟨x, hx, hx'⟩ := gr_last w hw n (os.drop (takeN (w - 1) os)) (by rw [List.length_drop]; omega) (by rw [List.getLast?_drop, if_neg (by omega)]; exact hl)
      refine ⟨x, ?_, hx'⟩
      rw [List.getLast?_cons, hx]; rfl
noncomputable def cumF : Nat → List Nat → List Nat
  | _, [] => []
  | _, [_] => []
  | a, x :: y :: r => (a + x) :: cumF (a + x) (y :: r)
theorem brk_cum : ∀ (ls : List Nat) (a : Nat), (List.range (ls.length - 1)).map (fun i => (a : Int) + ((ls.map fun (l : Nat) => (l : Int)).take (1 + i)).sum) = oI (cumF a ls)
  | [], a => rfl
  | [x], a => rfl
  | x :: y :: r, a => by
    have ih := brk_cum (y :: r) (a + x)
    rw [show (x :: y :: r).length - 1 = ((y :: r).length - 1) + 1 by simp, List.range_succ_eq_map, List.map_cons, List.map_map]
    show _ = ((a + x : Nat) : Int) :: oI (cumF (a + x) (y :: r))
    rw [← ih]
    refine List.cons_eq_cons.mpr ⟨by simp, ?_⟩
    · refine List.map_congr_left fun i _ => ?_
      show (a : Int) + ((((x : Int)) :: ((y :: r).map fun (l : Nat) => (l : Int))).take (1 + (i + 1))).sum = _
      rw [show 1 + (i + 1) = (1 + i) + 1 by omega, List.take_succ_cons, List.sum_cons]
      omega
theorem brkI_cum (ls : List Nat) : brkI ls = oI (cumF 0 ls) := by
  rw [← brk_cum ls 0]
  unfold brkI
  refine List.map_congr_left fun i _ => ?_
  simp
theorem pieces_cum (os : List Nat) : ∀ (cs : List (List Nat)) (a : Nat), cs ≠ [] → os.drop a = cs.flatten → piecesF os a (cumF a (cs.map List.length)) = cs
  | [], a, h, _ => absurd rfl h
  | [x], a, _, h => by
    show [os.drop a] = [x]
    rw [h]; simp
  | x :: y :: r, a, _, h => by
    have hd : os.drop (a + x.length) = (y :: r).flatten := by
      rw [← List.drop_drop, h, List.flatten_cons, List.drop_left]
    show (os.take (a + x.length)).drop a :: piecesF os (a + x.length) (cumF (a + x.length) ((y :: r).map List.length)) = _
    rw [pieces_cum os (y :: r) (a + x.length) (by simp) hd]
    congr 1
    rw [List.drop_take, h, List.flatten_cons, show a + x.length - a = x.length by omega, List.take_left]
theorem pieces_flat (os : List Nat) : ∀ (ks : List Nat) (a : Nat), (∀ k ∈ ks, a ≤ k) → ks.Pairwise (· ≤ ·) → (piecesF os a ks).flatten = os.drop a
  | [], a, _, _ => by simp [qpiecesF0, qpiecesF1]
  | k :: ks, a, h, hp => by
    obtain ⟨h1, h2⟩ := List.pairwise_cons.mp hp
    have hk := h k (.head _)
    show ((os.take k).drop a ++ (piecesF os k ks).flatten) = _
    rw [pieces_flat os ks k h1 h2, List.drop_take]
    have : os.drop k = (os.drop a).drop (k - a) := by rw [List.drop_drop]; congr 1; omega
    rw [this, List.take_append_drop]
theorem pieces_last (os : List Nat) : ∀ (ks : List Nat) (a : Nat), a < os.length → (∀ k ∈ ks, k < os.length) → ∃ x, (piecesF os a ks).getLast? = some x ∧ x.getLast? = os.getLast?
  | [], a, ha, _ => ⟨os.drop a, rfl, by rw [List.getLast?_drop, if_neg (by omega)]⟩
  | k :: ks, a, ha, h => by
    obtain ⟨x, h1, h2⟩ := pieces_last os ks k (h k (.head _)) (fun q m => h q (.tail _ m))
    refine ⟨x, ?_, h2⟩
    show ((os.take k).drop a :: piecesF os k ks).getLast? = _
    rw [List.getLast?_cons, h1]; rfl
theorem pieces_ne (os ks : List Nat) (a : Nat) : piecesF os a ks ≠ [] := by cases ks <;> simp [qpiecesF0, qpiecesF1]
theorem takeN_W : ∀ (os : List Nat) (r : Nat), takeN r os = takeW r (wd os)
  | [], r => rfl
  | o :: os, r => by
    show (if (sgn o).length ≤ r then takeN (r - (sgn o).length) os + 1 else 0) = (if (sgn o).length ≤ r then takeW (r - (sgn o).length) (wd os) + 1 else 0)
    rw [takeN_W os]
theorem sp_sum (os : List Nat) : (sp os).length = (wd os).sum := by
  induction os with
  | nil => rfl
  | cons o r ih => rw [sp_cons, List.length_append, ih]; rfl
theorem gr_W (w : Nat) : ∀ (n : Nat) (os : List Nat), (gr w n os).map List.length = grL w n (wd os)
  | 0, os => by simp [gr, grL, wd]
  | n + 1, os => by
    unfold gr grL
    rw [sp_sum]
    split
    · simp [wd]
    · rw [List.map_cons, gr_W w n, takeN_W]
      have h := (takeN_spec os (w - 1)).1
      rw [takeN_W] at h
      congr 1
      · rw [List.length_take]; omega
      · congr 1; unfold wd; rw [List.map_drop]
theorem wd_pats : ∀ (os : List Nat), wd (os ++ [46]) ∈ pats os.length
  | [] => by simp [qpats0, qpats1, wd, sgn, wide]
  | o :: os => by
    have ih := wd_pats os
    show (sgn o).length :: wd (os ++ [46]) ∈ (pats os.length).flatMap fun p => [1 :: p, 3 :: p]
    refine List.mem_flatMap.mpr ⟨_, ih, ?_⟩
    unfold sgn
    split <;> simp
end Mine
end
section
namespace Mine
noncomputable def heads : Nat → List Nat → List (List Nat)
  | 0, t => [t]
  | n + 1, t => heads n (1 :: t) ++ heads n (3 :: t)
noncomputable def ck (w : Nat) (t : List Nat) : Bool := (heads 4 t).all (chk w)
theorem fc {w : Nat} {a : List Nat} {l : List (List Nat)} (h : ck w a = true) (k : ∀ t ∈ l, ck w t = true) : ∀ t ∈ a :: l, ck w t = true := List.forall_mem_cons.mpr ⟨h, k⟩
theorem heads_up {q p : List Nat} : ∀ {k : Nat} {t : List Nat}, q ∈ heads k t → p ∈ [1 :: q, 3 :: q] → p ∈ heads (k + 1) t
  | 0, t, h, m => by
    rw [List.mem_singleton.mp h] at m; exact m
  | k + 1, t, h, m => by
    rcases List.mem_append.mp h with h | h
    · exact List.mem_append_left _ (heads_up h m)
    · exact List.mem_append_right _ (heads_up h m)
theorem heads_of {n : Nat} : ∀ {k : Nat} {p : List Nat}, p ∈ pats (k + n) → ∃ t ∈ pats n, p ∈ heads k t := by
  intro k
  induction k with
  | zero => intro p h; rw [Nat.zero_add] at h; exact ⟨p, h, .head _⟩
  | succ k ih =>
    intro p h
    rw [Nat.succ_add] at h
    obtain ⟨q, hq, h⟩ := List.mem_flatMap.mp h
    obtain ⟨t, ht, hq⟩ := ih hq
    exact ⟨t, ht, heads_up hq h⟩
theorem c4n0 : ck 4 [1,1,1,1,1] = true := by decide +kernel
theorem c4n1 : ck 4 [3,1,1,1,1] = true := by decide +kernel
theorem c4n2 : ck 4 [1,3,1,1,1] = true := by decide +kernel
theorem c4n3 : ck 4 [3,3,1,1,1] = true := by decide +kernel
theorem c4n4 : ck 4 [1,1,3,1,1] = true := by decide +kernel
theorem c4n5 : ck 4 [3,1,3,1,1] = true := by decide +kernel
theorem c4n6 : ck 4 [1,3,3,1,1] = true := by decide +kernel
theorem c4n7 : ck 4 [3,3,3,1,1] = true := by decide +kernel
theorem c4n8 : ck 4 [1,1,1,3,1] = true := by decide +kernel
theorem c4n9 : ck 4 [3,1,1,3,1] = true := by decide +kernel
theorem c4n10 : ck 4 [1,3,1,3,1] = true := by decide +kernel
theorem c4n11 : ck 4 [3,3,1,3,1] = true := by decide +kernel
theorem c4n12 : ck 4 [1,1,3,3,1] = true := by decide +kernel
theorem c4n13 : ck 4 [3,1,3,3,1] = true := by decide +kernel
theorem c4n14 : ck 4 [1,3,3,3,1] = true := by decide +kernel
theorem c4n15 : ck 4 [3,3,3,3,1] = true := by decide +kernel
theorem chk4 : ∀ t ∈ pats 4, ck 4 t = true :=
  fc c4n0 <| fc c4n1 <| fc c4n2 <| fc c4n3 <| fc c4n4 <| fc c4n5 <| fc c4n6 <| fc c4n7 <| fc c4n8 <| fc c4n9 <| fc c4n10 <| fc c4n11 <| fc c4n12 <| fc c4n13 <| fc c4n14 <| fc c4n15 <| fun _ m => nomatch m
theorem c5n0 : ck 5 [1,1,1,1,1] = true := by decide +kernel
theorem c5n1 : ck 5 [3,1,1,1,1] = true := by decide +kernel
theorem c5n2 : ck 5 [1,3,1,1,1] = true := by decide +kernel
theorem c5n3 : ck 5 [3,3,1,1,1] = true := by decide +kernel
theorem c5n4 : ck 5 [1,1,3,1,1] = true := by decide +kernel
theorem c5n5 : ck 5 [3,1,3,1,1] = true := by decide +kernel
theorem c5n6 : ck 5 [1,3,3,1,1] = true := by decide +kernel
theorem c5n7 : ck 5 [3,3,3,1,1] = true := by decide +kernel
theorem c5n8 : ck 5 [1,1,1,3,1] = true := by decide +kernel
theorem c5n9 : ck 5 [3,1,1,3,1] = true := by decide +kernel
theorem c5n10 : ck 5 [1,3,1,3,1] = true := by decide +kernel
theorem c5n11 : ck 5 [3,3,1,3,1] = true := by decide +kernel
theorem c5n12 : ck 5 [1,1,3,3,1] = true := by decide +kernel
theorem c5n13 : ck 5 [3,1,3,3,1] = true := by decide +kernel
theorem c5n14 : ck 5 [1,3,3,3,1] = true := by decide +kernel
theorem c5n15 : ck 5 [3,3,3,3,1] = true := by decide +kernel
theorem chk5 : ∀ t ∈ pats 4, ck 5 t = true :=
  fc c5n0 <| fc c5n1 <| fc c5n2 <| fc c5n3 <| fc c5n4 <| fc c5n5 <| fc c5n6 <| fc c5n7 <| fc c5n8 <| fc c5n9 <| fc c5n10 <| fc c5n11 <| fc c5n12 <| fc c5n13 <| fc c5n14 <| fc c5n15 <| fun _ m => nomatch m
theorem c6n0 : ck 6 [1,1,1,1,1] = true := by decide +kernel
theorem c6n1 : ck 6 [3,1,1,1,1] = true := by decide +kernel
theorem c6n2 : ck 6 [1,3,1,1,1] = true := by decide +kernel
theorem c6n3 : ck 6 [3,3,1,1,1] = true := by decide +kernel
theorem c6n4 : ck 6 [1,1,3,1,1] = true := by decide +kernel
theorem c6n5 : ck 6 [3,1,3,1,1] = true := by decide +kernel
theorem c6n6 : ck 6 [1,3,3,1,1] = true := by decide +kernel
theorem c6n7 : ck 6 [3,3,3,1,1] = true := by decide +kernel
theorem c6n8 : ck 6 [1,1,1,3,1] = true := by decide +kernel
theorem c6n9 : ck 6 [3,1,1,3,1] = true := by decide +kernel
theorem c6n10 : ck 6 [1,3,1,3,1] = true := by decide +kernel
theorem c6n11 : ck 6 [3,3,1,3,1] = true := by decide +kernel
theorem c6n12 : ck 6 [1,1,3,3,1] = true := by decide +kernel
theorem c6n13 : ck 6 [3,1,3,3,1] = true := by decide +kernel
theorem c6n14 : ck 6 [1,3,3,3,1] = true := by decide +kernel
theorem c6n15 : ck 6 [3,3,3,3,1] = true := by decide +kernel
theorem chk6 : ∀ t ∈ pats 4, ck 6 t = true :=
  fc c6n0 <| fc c6n1 <| fc c6n2 <| fc c6n3 <| fc c6n4 <| fc c6n5 <| fc c6n6 <| fc c6n7 <| fc c6n8 <| fc c6n9 <| fc c6n10 <| fc c6n11 <| fc c6n12 <| fc c6n13 <| fc c6n14 <| fc c6n15 <| fun _ m => nomatch m
theorem c7n0 : ck 7 [1,1,1,1,1] = true := by decide +kernel
theorem c7n1 : ck 7 [3,1,1,1,1] = true := by decide +kernel
theorem c7n2 : ck 7 [1,3,1,1,1] = true := by decide +kernel
theorem c7n3 : ck 7 [3,3,1,1,1] = true := by decide +kernel
theorem c7n4 : ck 7 [1,1,3,1,1] = true := by decide +kernel
theorem c7n5 : ck 7 [3,1,3,1,1] = true := by decide +kernel
theorem c7n6 : ck 7 [1,3,3,1,1] = true := by decide +kernel
theorem c7n7 : ck 7 [3,3,3,1,1] = true := by decide +kernel
theorem c7n8 : ck 7 [1,1,1,3,1] = true := by decide +kernel
theorem c7n9 : ck 7 [3,1,1,3,1] = true := by decide +kernel
theorem c7n10 : ck 7 [1,3,1,3,1] = true := by decide +kernel
theorem c7n11 : ck 7 [3,3,1,3,1] = true := by decide +kernel
theorem c7n12 : ck 7 [1,1,3,3,1] = true := by decide +kernel
theorem c7n13 : ck 7 [3,1,3,3,1] = true := by decide +kernel
theorem c7n14 : ck 7 [1,3,3,3,1] = true := by decide +kernel
theorem c7n15 : ck 7 [3,3,3,3,1] = true := by decide +kernel
theorem chk7 : ∀ t ∈ pats 4, ck 7 t = true :=
  fc c7n0 <| fc c7n1 <| fc c7n2 <| fc c7n3 <| fc c7n4 <| fc c7n5 <| fc c7n6 <| fc c7n7 <| fc c7n8 <| fc c7n9 <| fc c7n10 <| fc c7n11 <| fc c7n12 <| fc c7n13 <| fc c7n14 <| fc c7n15 <| fun _ m => nomatch m
theorem allChk {w : Nat} (h1 : 4 ≤ w) (h2 : w ≤ 7) {p : List Nat} (hp : p ∈ pats 8) : chk w p = true := by
  obtain ⟨t, ht, hp⟩ := heads_of (k := 4) (n := 4) hp
  have : w = 4 ∨ w = 5 ∨ w = 6 ∨ w = 7 := by omega
  rcases this with rfl | rfl | rfl | rfl
  · exact List.all_eq_true.mp (chk4 t ht) p hp
  · exact List.all_eq_true.mp (chk5 t ht) p hp
  · exact List.all_eq_true.mp (chk6 t ht) p hp
  · exact List.all_eq_true.mp (chk7 t ht) p hp
end Mine
end
section
namespace Mine
theorem okWay_nat {n : Nat} {y : List Int} (h : okWay n y = true) : ∃ ks : List Nat, y = oI ks ∧ ks.Pairwise (· ≤ ·) ∧ ∀ k ∈ ks, k < n := by
  unfold okWay at h
  simp only [Bool.and_eq_true, List.all_eq_true, decide_eq_true_eq] at h
  obtain ⟨h1, h2⟩ := h
  have hp := rising_pw h1
  refine ⟨y.map Int.toNat, ?_, ?_, fun k m => ?_⟩
  · unfold oI
    rw [List.map_map]
    conv => lhs; rw [← List.map_id y]
    refine List.map_congr_left fun b m => ?_
    have := (h2 b m).1
    show b = ((b.toNat : Nat) : Int)
    lia
  · refine List.pairwise_map.mpr (List.Pairwise.imp ?_ hp)
    intro a b hab; lia
  · obtain ⟨b, m', rfl⟩ := List.mem_map.mp m
    have := h2 b m'
    lia
theorem spl_le (ys : List Nat) : (sp ys).length ≤ 3 * ys.length := by
  induction ys with
  | nil => exact Nat.le_refl _
  | cons o r ih => rw [sp_cons, List.length_append, List.length_cons]; have : (sgn o).length ≤ 3 := by unfold sgn; split <;> simp
                   lia
theorem joinN_len (sep : List Nat) : ∀ xs : List (List Nat), (joinN sep xs).length ≤ (xs.map fun x => x.length + sep.length).sum
  | [] => Nat.zero_le _
  | [x] => by simp [qjoinN0, qjoinN1, qjoinN2]
  | x :: y :: r => by
    have := joinN_len sep (y :: r)
    show (x ++ sep ++ joinN sep (y :: r)).length ≤ (x.length + sep.length) + ((y :: r).map fun x => x.length + sep.length).sum
    rw [List.length_append, List.length_append]; lia
theorem lines_len (qs : List (List Nat × Bool)) : (joinN [10] (qs.map lineOf)).length ≤ 3 * (qs.map Prod.fst).flatten.length + 2 * qs.length := by
  refine Nat.le_trans (joinN_len _ _) ?_
  induction qs with
  | nil => exact Nat.le_refl _
  | cons q r ih =>
    have h1 := lineOf_le q
    have h2 := spl_le q.1
    simp only [List.map_cons, List.sum_cons, List.flatten_cons, List.length_append, List.length_cons, List.length_nil] at ih ⊢
    lia
theorem softs_fsts (xs : List (List Nat)) : (softs xs).map Prod.fst = xs := by
  induction xs with
  | nil => rfl
  | cons x r ih => cases r with
    | nil => rfl
    | cons y r => rw [softs_cons x (by simp), List.map_cons, ih]
theorem softs_len (xs : List (List Nat)) : (softs xs).length = xs.length := by
  have := congrArg List.length (softs_fsts xs)
  simpa using this
theorem piecesF_len (os : List Nat) : ∀ (ks : List Nat) (a : Nat), (piecesF os a ks).length = ks.length + 1
  | [], a => rfl
  | k :: ks, a => by show (piecesF os k ks).length + 1 = _; rw [piecesF_len os ks k]; rfl
theorem sp_piece {os : List Nat} {xs : List (List Nat)} (hf : xs.flatten = os) (hl : os.length ≤ 300) : ∀ x ∈ xs, (sp x).length ≤ 1000 := fun x m => by
  have h1 := sp_le m
  rw [hf] at h1
  have := spl_le os
  lia
theorem way_ok {os : List Nat} {y : List Int} (j : Nat) (hok : ∀ o ∈ os, okO o) (hlen : os.length ≤ 300) (hlast : os.getLast? = some 46) (h : okWay os.length y = true) (hyl : y.length < 700) :
    ∃ s, (Fl (j + 2)).1 16 [ofI (oI os), ofI y] = some (tD s) ∧ (Fl (j + 2)).1 2 [tD s] = some (tD os) := by
  obtain ⟨ks, rfl, h2, h3⟩ := okWay_nat h
  have hne : 0 < os.length := by cases os with | nil => cases hlast | cons => simp
  have hfl : (pieces os ks).flatten = os := pieces_flat os ks 0 (fun k _ => Nat.zero_le _) h2
  have hl := pieces_last os ks 0 hne h3
  rw [hlast] at hl
  have hpn := pieces_ne os ks 0
  have hkl : ks.length < 700 := by rwa [oI_len] at hyl
  refine ⟨_, g16 j os ks (fun o m => (hok o m).lt) hlen (fun b m => Nat.le_of_lt (h3 b m)) (by lia) (sp_piece hfl hlen), ?_⟩
  rw [softs_join]
  have hr := softs_raw hpn
  have hsn : softs (pieces os ks) ≠ [] := by
    intro z
    have := softs_len (pieces os ks)
    rw [z] at this
    exact hpn (List.eq_nil_of_length_eq_zero this.symm)
  have e := g2 j (softs (pieces os ks)) (softs_ok hfl hok hlen hl) hsn (by rw [show piecesF os 0 ks = pieces os ks from rfl] at hr; rw [hr, List.length_append, hfl]; simp; lia) (by
    have := lines_len (softs (pieces os ks))
    rw [softs_fsts, hfl, softs_len] at this
    have h5 := piecesF_len os ks 0
    unfold pieces at this ⊢
    lia)
  rw [e]
  rw [show piecesF os 0 ks = pieces os ks from rfl] at hr
  rw [hr, hfl]
  unfold decF
  simp
theorem two_ok {a b : List Int} (j : Nat) (h : twoOK a b = true) : ∃ p, (Fl (j + 1)).1 7 [ofI a, ofI b] = some (tupI p) ∧ (Fl (j + 1)).1 17 [ofI a, ofI b] = some (tupI p) := by
  have hlim : (lim : Nat) = 100000 := rfl
  unfold twoOK at h
  simp only [Bool.and_eq_true, decide_eq_true_eq, beq_iff_eq] at h
  obtain ⟨⟨⟨⟨⟨h1, h2⟩, h3⟩, h4⟩, h5⟩, h6⟩ := h
  exact ⟨sld a b, g7 j a b h1 h2 (by lia) (by lia), by rw [g17 j a b (by lia) h5, h6]⟩
theorem chain_ok {os : List Nat} {lat : List Int} (hok : ∀ o ∈ os, okO o) (hlen : os.length ≤ 300) (hlast : os.getLast? = some 46) : ∀ (ways : LI) (fm : List Int), chain (fun fm y => okWay os.length y && twoOK lat y && twoOK y fm) fm ways = true → ChOK (WayOK (Fl 3).1 os os lat) fm ways
  | [], fm, _ => trivial
  | y :: r, fm, h => by
    simp only [qchain0, qchain1, Bool.and_eq_true] at h
    obtain ⟨⟨⟨h1, h2⟩, h3⟩, h4⟩ := h
    have hyl : y.length < 700 := by
      unfold twoOK at h3
      simp only [Bool.and_eq_true, decide_eq_true_eq] at h3
      lia
    exact ⟨⟨way_ok 1 hok hlen hlast h1 hyl, two_ok 2 h2, two_ok 2 h3⟩, chain_ok hok hlen hlast r y h4⟩
theorem holds_true {os : List Nat} {w : Nat} (hok : ∀ o ∈ os, okO o) (hlen : os.length ≤ 300) (hlast : os.getLast? = some 46) (hw : 4 ≤ w) (hc : chk w (wd os) = true) : (Fl 5).1 19 [.int (w : Int), ofI (oI os)] = some (.bool true) := by
  have hlim : (lim : Nat) = 100000 := rfl
  have hwl : (wd os).length = os.length := by simp [wd]
  unfold chk at hc
  split at hc
  · cases hc
  rename_i few hfew
  split at hc
  · cases hc
  rename_i lat hmx
  simp only [Bool.and_eq_true, decide_eq_true_eq, beq_iff_eq, List.all_eq_true] at hc
  obtain ⟨⟨⟨⟨⟨h1, h2⟩, h3⟩, h4⟩, h5⟩, hc⟩ := hc
  split at hc
  rotate_left
  · cases hc
  rename_i nt mv hnt hmv
  simp only [Bool.and_eq_true, decide_eq_true_eq, beq_iff_eq] at hc
  obtain ⟨⟨h6, h7⟩, hc⟩ := hc
  split at hc
  · cases hc
  rename_i ways hways
  rw [hwl] at h1 h5 hc
  obtain ⟨ks, hks, hk2, hk3⟩ := okWay_nat h5
  have hgl := gr_last w hw os.length os (Nat.le_refl _) hlast
  have hgf := gr_flat w os.length os
  obtain ⟨c0, cr, hgn⟩ := gr_ne w os.length os
  have hgne : gr w os.length os ≠ [] := by rw [hgn]; simp
  have hlat : lat = brkI ((gr w os.length os).map List.length) := by rw [h1, gr_W]
  have hkc : ks = cumF 0 ((gr w os.length os).map List.length) := by
    have : oI ks = oI (cumF 0 ((gr w os.length os).map List.length)) := by rw [← hks, hlat, brkI_cum]
    unfold oI at this
    exact (List.map_inj_right fun a b h => Int.ofNat.inj h).mp this
  have hpc : pieces os ks = gr w os.length os := by rw [hkc]; exact pieces_cum os _ 0 hgne hgf.symm
  have hql := softs_ok hgf hok hlen hgl
  have hkl : ks.length < 700 := by rw [hks, oI_len] at h4; exact h4
  have hgrl : (gr w os.length os).length ≤ 701 := by rw [← hpc]; unfold pieces; rw [piecesF_len]; lia
  have hb := lines_len (softs (gr w os.length os))
  rw [softs_fsts, hgf, softs_len] at hb
  refine fl_at rfl (by decide) (runs_holds (os := os) (lat := lat) (few := few) (nt := nt) (mv := mv) (ways := ways) hlen (fun o m => (hok o m).lt) (g10 3) (g1 3 os w hok hlast hlen hw) ?_ (g15 3 _ _ _ (by rw [oI_len, hwl]; lia) hfew) hmx (g13 0 _ lat _ 400 nt (by lia) hnt) (g14 3) hmv h6 hways ?_ ?_ (by lia) (fun x m => by have := h3 x m; lia) (by lia))
  · rw [g11 1 (softs (gr w os.length os)) hql (by intro z; have := softs_len (gr w os.length os); rw [z, hgn] at this; cases this) (by rw [softs_len]; lia) (by lia), softs_fst, hlat]
  · have := g16 2 os ks (fun o m => (hok o m).lt) hlen (fun b m => Nat.le_of_lt (hk3 b m)) (by lia) (by rw [hpc]; exact sp_piece hgf hlen)
    rw [hks, this, hpc, softs_join]
  · exact fl_at rfl (by decide) (runs_told os os lat ways (chain_ok hok hlen hlast ways lat hc))
end Mine
end
section
namespace Mine
theorem octI_ok (n : Int) : 0 ≤ octI n ∧ okO (octI n).toNat := by
  have h1 : 0 ≤ (n.fdiv 5).fmod 130 ∧ (n.fdiv 5).fmod 130 < 130 := ⟨Int.fmod_nonneg_of_pos _ (by decide), Int.fmod_lt_of_pos _ (by decide)⟩
  have h2 : 0 ≤ (n.fdiv 5).fmod 95 ∧ (n.fdiv 5).fmod 95 < 95 := ⟨Int.fmod_nonneg_of_pos _ (by decide), Int.fmod_lt_of_pos _ (by decide)⟩
  unfold octI okO
  split
  · split
    · omega
    · omega
  · split
    · omega
    · omega
theorem law_true (xs : List Int) (hl : xs.length ≤ lim) : Runs1 (Fl 5).1 (Fl 5).2 f_law [ofI xs] (.bool true) := by
  have hn : (numI xs).length = 9 := by simp [numI]
  have hm : 0 ≤ ((numI xs).getD 0 0).fmod 4 ∧ ((numI xs).getD 0 0).fmod 4 < 4 := ⟨Int.fmod_nonneg_of_pos _ (by decide), Int.fmod_lt_of_pos _ (by decide)⟩
  let os : List Nat := ((numI xs).drop 1).map fun n => (octI n).toNat
  have hos : oI os = ((numI xs).drop 1).map octI := by
    simp only [oI, os, List.map_map]
    refine List.map_congr_left fun n _ => ?_
    have := (octI_ok n).1
    show (((octI n).toNat : Nat) : Int) = _
    omega
  have hol : os.length = 8 := by simp only [os, List.length_map, List.length_drop, hn]
  have hok : ∀ o ∈ os ++ [46], okO o := fun o m => by
    rcases List.mem_append.mp m with m | m
    · obtain ⟨n, _, rfl⟩ := List.mem_map.mp m
      exact (octI_ok n).2
    · rw [List.mem_singleton.mp m]; exact .inr (by omega)
  have hp := wd_pats os
  rw [hol] at hp
  generalize hw : (4 + ((numI xs).getD 0 0).fmod 4).toNat = w
  have hw4 : 4 ≤ w ∧ w ≤ 7 := by omega
  exact runs_law (w := w) (os := os) (g8 4 xs hl) hn (by omega) (g9 4) hos (holds_true hok (by simp [hol]) (by simp) hw4.1 (allChk hw4.1 hw4.2 hp)) rfl
section
variable {w : World} {base : Heap} {fa : Nat → Addr}
open Classical in
theorem law_ok {a : Addr} (B : Bs w base fa) (X : FnIs base f_law a) : FnOK w base 12 a fun ds => if ∃ xs : List Int, ds = [ofI xs] ∧ xs.length ≤ lim then some (.bool true) else none := by
  obtain ⟨W, WM⟩ := lev B 5
  refine fnok_of W WM B.nol X fun ds d h => ?_
  split at h
  · rename_i q
    obtain ⟨xs, rfl, hl⟩ := q
    injection h with h
    rw [← h]; exact law_true xs hl
  · cases h
end
end Mine
end
section
open PySem PySem.W PyProof.Rows
namespace Mine
noncomputable abbrev pw := PySem.Challenge.pw_op0127_01
noncomputable def bod : List Stmt := behindTheImports pw
noncomputable def env0 : Env := { scope := pw.main.scope, locals := mainNs, globals := mainNs, cells := [], code := .ref 13, frame := some 14 }
noncomputable def cE : Code := .body bod env0
noncomputable def ann : Option Value := some (.ref 6)
noncomputable def q0 : Pos := ⟨0, 0, 0, 0⟩
noncomputable abbrev u (s : String) : Str := Str.ofString s
noncomputable def de (P : Params) (k : String) (t : Nat) (v : Value) : DictEntry := ⟨PyData.keyHash P (Str.ofString k), .str (Str.ofString k) t, v⟩
noncomputable def hxg (n : Nat) : Nat := if n < 10 then 48 + n else 55 + n
noncomputable def hx (k : Nat) : Str := ⟨#[61, hxg (k / 16), hxg (k % 16)]⟩
noncomputable def accV : Nat → Array Value
  | 0 => #[]
  | k + 1 => (accV k).push (.str (hx k) (197 + 4 * k))
noncomputable def accD (n : Nat) : Data := .seq (accV n) n
noncomputable def mpF : Nat → List Nat → List Value
  | _, [] => []
  | c, t :: r => (if t == 197 + 4 * c then .str (hx c) t else if t == 1444 || t == 1447 then .str ⟨#[95]⟩ t else .str ⟨#[c]⟩ t) :: mpF (c + 1) r
noncomputable def mp (l : List Nat) : List Value := mpF 0 l
noncomputable def bt (l : List Obj) : Nat → Nat → Nat → BT
  | 0, _, _ => .nil
  | f + 1, a, b => match l[b]? with
    | some o => .node o (bt l f (2 * a) (a + b)) (bt l f (2 * a) (2 * a + b))
    | none => .nil
noncomputable def fdT (i : Nat) : FuncData := match bod.getD i default with
  | .FunctionDef name args body _ _ _ sc _ _ _ => { name, qualname := name, params := args, body := .stmts body, scope := sc, globals := 0, closure := [], defaults := .none, kwdefaults := .none }
  | _ => default
noncomputable def fdF (i : Nat) (dfl md code : Value) : FuncData := { fdT i with globals := 3, defaults := dfl, pyModule := md, code := code }
noncomputable def o11_a : Obj := { cls := (.type "tuple"), data := .seq #[] 0 }
noncomputable def o12_a : Obj := { cls := .none, data := .fields #[] }
noncomputable def o13_a : Obj := { cls := (.type "code"), data := .fields #[(.str (u "<module>") 182), (.str (u "<module>") 183), (.str (u "/claim/cut.py") 184), (.int 1 0), (.int 0 0), (.int 0 0), (.int 0 0), (.int 0 0), (.ref 11), (.bool false), (.int 181 0), (.ref 12), .none, .none, .none, .none, (.int 185 0), (.int 1 0), (.str (u "/claim/cut.py") 186)] }
noncomputable def o14_a : Obj := { cls := (.type "frame"), data := .plain, slots := #[some (.ref 13), some (.ref 3), some (.ref 3), none, some (.str (u "__main__") 164), none, some (.ref 0)] }
noncomputable def L_a (P : Params) : List Obj := [boot_o_0 P, boot_o_1 P, boot_o_2 P, boot_o_3 P, boot_o_4 P, boot_o_5 P, boot_o_6 P, boot_o_7 P, boot_o_8 P, boot_o_9 P, boot_o_10 P, o11_a, o12_a, o13_a, o14_a]
noncomputable def S_a (w : World) (os : OsState) : SharedT := ⟨bt (L_a w.params) 9 1 0, 15, {}, #[], boot_drawn, 187, os⟩
noncomputable def o3_1 (P : Params) : Obj := { cls := (.type "dict"), data := .dict #[de P "__name__" 165 (.str (u "__main__") 164), de P "__doc__" 166 .none, de P "__package__" 167 .none, de P "__loader__" 168 (.builtin "__main__.__loader__#opaque"), de P "__spec__" 169 .none, de P "__annotations__" 170 (.ref 6), de P "__builtins__" 171 (.ref 4), de P "__file__" 173 (.str (u "/claim/cut.py") 172), de P "__cached__" 174 .none, de P "CRLF" 188 (.str ⟨#[13, 10]⟩ 187), de P "NL" 190 (.str ⟨#[10]⟩ 189)] 11 }
noncomputable def L_1 (P : Params) : List Obj := [boot_o_0 P, boot_o_1 P, boot_o_2 P, o3_1 P, boot_o_4 P, boot_o_5 P, boot_o_6 P, boot_o_7 P, boot_o_8 P, boot_o_9 P, boot_o_10 P, o11_a, o12_a, o13_a, o14_a]
noncomputable def S_1 (w : World) (os : OsState) : SharedT := ⟨bt (L_1 w.params) 9 1 0, 15, {}, #[], boot_drawn, 191, os⟩
noncomputable def o15_2m : Obj := { cls := (.type "range"), data := .fields #[(.int 0 192), (.int 256 191), (.int 1 193)] }
noncomputable def o16_2m : Obj := { cls := (.type "range_iterator"), data := .fields #[(.int 0 0), (.int 256 0), (.int 1 0)] }
noncomputable def o17_2m : Obj := { cls := (.type "list"), data := .seq #[] 0 }
noncomputable def o18_2m : Obj := { cls := (.type "dict"), data := .dict #[] 0 }
noncomputable def L_2m (P : Params) : List Obj := [boot_o_0 P, boot_o_1 P, boot_o_2 P, o3_1 P, boot_o_4 P, boot_o_5 P, boot_o_6 P, boot_o_7 P, boot_o_8 P, boot_o_9 P, boot_o_10 P, o11_a, o12_a, o13_a, o14_a, o15_2m, o16_2m, o17_2m, o18_2m]
noncomputable def S_2m (w : World) (os : OsState) : SharedT := ⟨bt (L_2m w.params) 9 1 0, 19, {}, #[], boot_drawn, 194, os⟩
noncomputable def o3_2 (P : Params) : Obj := { cls := (.type "dict"), data := .dict #[de P "__name__" 165 (.str (u "__main__") 164), de P "__doc__" 166 .none, de P "__package__" 167 .none, de P "__loader__" 168 (.builtin "__main__.__loader__#opaque"), de P "__spec__" 169 .none, de P "__annotations__" 170 (.ref 6), de P "__builtins__" 171 (.ref 4), de P "__file__" 173 (.str (u "/claim/cut.py") 172), de P "__cached__" 174 .none, de P "CRLF" 188 (.str ⟨#[13, 10]⟩ 187), de P "NL" 190 (.str ⟨#[10]⟩ 189), de P "_QUOPRI_MAP" 1218 (.ref 17)] 12 }
noncomputable def o16_2 : Obj := { cls := (.type "range_iterator"), data := .fields #[(.int 256 0), (.int 0 0), (.int 1 0)] }
noncomputable def o17_2 : Obj := { cls := (.type "list"), data := accD 256 }
noncomputable def o18_2 : Obj := { cls := (.type "dict"), data := .dict #[] 2 }
noncomputable def o19_2 : Obj := { cls := (.type "tuple"), data := .seq #[] 0 }
noncomputable def o20_2 : Obj := { cls := (.type "StopIteration"), data := .fields #[(.ref 19), .none, .none, .none, (.bool false), .none] }
noncomputable def L_2 (P : Params) : List Obj := [boot_o_0 P, boot_o_1 P, boot_o_2 P, o3_2 P, boot_o_4 P, boot_o_5 P, boot_o_6 P, boot_o_7 P, boot_o_8 P, boot_o_9 P, boot_o_10 P, o11_a, o12_a, o13_a, o14_a, o15_2m, o16_2, o17_2, o18_2, o19_2, o20_2]
noncomputable def S_2 (w : World) (os : OsState) : SharedT := ⟨bt (L_2 w.params) 9 1 0, 21, {}, #[], boot_drawn, 1219, os⟩
noncomputable def o3_10 (P : Params) : Obj := { cls := (.type "dict"), data := .dict #[de P "__name__" 165 (.str (u "cpy313.email.quoprimime") 1234), de P "__doc__" 166 .none, de P "__package__" 167 .none, de P "__loader__" 168 (.builtin "__main__.__loader__#opaque"), de P "__spec__" 169 .none, de P "__annotations__" 170 (.ref 6), de P "__builtins__" 171 (.ref 4), de P "__file__" 173 (.str (u "/claim/cut.py") 172), de P "__cached__" 174 .none, de P "CRLF" 188 (.str ⟨#[13, 10]⟩ 187), de P "NL" 190 (.str ⟨#[10]⟩ 189), de P "_QUOPRI_MAP" 1218 (.ref 17), de P "_QUOPRI_HEADER_MAP" 1219 (.ref 22), de P "_QUOPRI_BODY_MAP" 1220 (.ref 24), de P "ascii_lowercase" 1222 (.str (u "abcdefghijklmnopqrstuvwxyz") 1221), de P "ascii_uppercase" 1224 (.str (u "ABCDEFGHIJKLMNOPQRSTUVWXYZ") 1223), de P "ascii_letters" 1226 (.str (u "abcdefghijklmnopqrstuvwxyzABCDEFGHIJKLMNOPQRSTUVWXYZ") 1225), de P "digits" 1228 (.str (u "0123456789") 1227), de P "hexdigits" 1233 (.str (u "0123456789abcdefABCDEF") 1232)] 19 }
noncomputable def o21_10 : Obj := { cls := (.type "slice"), data := .fields #[.none, .none, .none] }
noncomputable def o22_10 : Obj := { cls := (.type "list"), data := .seq (mp [197, 201, 205, 209, 213, 217, 221, 225, 229, 233, 237, 241, 245, 249, 253, 257, 261, 265, 269, 273, 277, 281, 285, 289, 293, 297, 301, 305, 309, 313, 317, 321, 325, 329, 333, 337, 341, 345, 349, 353, 357, 361, 365, 369, 373, 377, 381, 385, 389, 393, 397, 401, 405, 409, 413, 417, 421, 425, 429, 433, 437, 441, 445, 449, 453, 457, 461, 465, 469, 473, 477, 481, 485, 489, 493, 497, 501, 505, 509, 513, 517, 521, 525, 529, 533, 537, 541, 545, 549, 553, 557, 561, 565, 569, 573, 577, 581, 585, 589, 593, 597, 601, 605, 609, 613, 617, 621, 625, 629, 633, 637, 641, 645, 649, 653, 657, 661, 665, 669, 673, 677, 681, 685, 689, 693, 697, 701, 705, 709, 713, 717, 721, 725, 729, 733, 737, 741, 745, 749, 753, 757, 761, 765, 769, 773, 777, 781, 785, 789, 793, 797, 801, 805, 809, 813, 817, 821, 825, 829, 833, 837, 841, 845, 849, 853, 857, 861, 865, 869, 873, 877, 881, 885, 889, 893, 897, 901, 905, 909, 913, 917, 921, 925, 929, 933, 937, 941, 945, 949, 953, 957, 961, 965, 969, 973, 977, 981, 985, 989, 993, 997, 1001, 1005, 1009, 1013, 1017, 1021, 1025, 1029, 1033, 1037, 1041, 1045, 1049, 1053, 1057, 1061, 1065, 1069, 1073, 1077, 1081, 1085, 1089, 1093, 1097, 1101, 1105, 1109, 1113, 1117, 1121, 1125, 1129, 1133, 1137, 1141, 1145, 1149, 1153, 1157, 1161, 1165, 1169, 1173, 1177, 1181, 1185, 1189, 1193, 1197, 1201, 1205, 1209, 1213, 1217]).toArray 0 }
noncomputable def o23_10 : Obj := { cls := (.type "slice"), data := .fields #[.none, .none, .none] }
noncomputable def o24_10 : Obj := { cls := (.type "list"), data := .seq (mp [197, 201, 205, 209, 213, 217, 221, 225, 229, 233, 237, 241, 245, 249, 253, 257, 261, 265, 269, 273, 277, 281, 285, 289, 293, 297, 301, 305, 309, 313, 317, 321, 325, 329, 333, 337, 341, 345, 349, 353, 357, 361, 365, 369, 373, 377, 381, 385, 389, 393, 397, 401, 405, 409, 413, 417, 421, 425, 429, 433, 437, 441, 445, 449, 453, 457, 461, 465, 469, 473, 477, 481, 485, 489, 493, 497, 501, 505, 509, 513, 517, 521, 525, 529, 533, 537, 541, 545, 549, 553, 557, 561, 565, 569, 573, 577, 581, 585, 589, 593, 597, 601, 605, 609, 613, 617, 621, 625, 629, 633, 637, 641, 645, 649, 653, 657, 661, 665, 669, 673, 677, 681, 685, 689, 693, 697, 701, 705, 709, 713, 717, 721, 725, 729, 733, 737, 741, 745, 749, 753, 757, 761, 765, 769, 773, 777, 781, 785, 789, 793, 797, 801, 805, 809, 813, 817, 821, 825, 829, 833, 837, 841, 845, 849, 853, 857, 861, 865, 869, 873, 877, 881, 885, 889, 893, 897, 901, 905, 909, 913, 917, 921, 925, 929, 933, 937, 941, 945, 949, 953, 957, 961, 965, 969, 973, 977, 981, 985, 989, 993, 997, 1001, 1005, 1009, 1013, 1017, 1021, 1025, 1029, 1033, 1037, 1041, 1045, 1049, 1053, 1057, 1061, 1065, 1069, 1073, 1077, 1081, 1085, 1089, 1093, 1097, 1101, 1105, 1109, 1113, 1117, 1121, 1125, 1129, 1133, 1137, 1141, 1145, 1149, 1153, 1157, 1161, 1165, 1169, 1173, 1177, 1181, 1185, 1189, 1193, 1197, 1201, 1205, 1209, 1213, 1217]).toArray 0 }
noncomputable def L_10 (P : Params) : List Obj := [boot_o_0 P, boot_o_1 P, boot_o_2 P, o3_10 P, boot_o_4 P, boot_o_5 P, boot_o_6 P, boot_o_7 P, boot_o_8 P, boot_o_9 P, boot_o_10 P, o11_a, o12_a, o13_a, o14_a, o15_2m, o16_2, o17_2, o18_2, o19_2, o20_2, o21_10, o22_10, o23_10, o24_10]
noncomputable def S_10 (w : World) (os : OsState) : SharedT := ⟨bt (L_10 w.params) 9 1 0, 25, {}, #[], boot_drawn, 1236, os⟩
noncomputable def L_11m (P : Params) : List Obj := [boot_o_0 P, boot_o_1 P, boot_o_2 P, o3_10 P, boot_o_4 P, boot_o_5 P, boot_o_6 P, boot_o_7 P, boot_o_8 P, boot_o_9 P, boot_o_10 P, o11_a, o12_a, o13_a, o14_a, o15_2m, o16_2, o17_2, o18_2, o19_2, o20_2, o21_10, o22_10, o23_10, o24_10]
noncomputable def S_11m (w : World) (os : OsState) : SharedT := ⟨bt (L_11m w.params) 9 1 0, 25, {}, #[], boot_drawn, 1243, os⟩
noncomputable def o3_11 (P : Params) : Obj := { cls := (.type "dict"), data := .dict #[de P "__name__" 165 (.str (u "cpy313.email.quoprimime") 1234), de P "__doc__" 166 .none, de P "__package__" 167 .none, de P "__loader__" 168 (.builtin "__main__.__loader__#opaque"), de P "__spec__" 169 .none, de P "__annotations__" 170 (.ref 6), de P "__builtins__" 171 (.ref 4), de P "__file__" 173 (.str (u "/claim/cut.py") 172), de P "__cached__" 174 .none, de P "CRLF" 188 (.str ⟨#[13, 10]⟩ 187), de P "NL" 190 (.str ⟨#[10]⟩ 189), de P "_QUOPRI_MAP" 1218 (.ref 17), de P "_QUOPRI_HEADER_MAP" 1219 (.ref 22), de P "_QUOPRI_BODY_MAP" 1220 (.ref 24), de P "ascii_lowercase" 1222 (.str (u "abcdefghijklmnopqrstuvwxyz") 1221), de P "ascii_uppercase" 1224 (.str (u "ABCDEFGHIJKLMNOPQRSTUVWXYZ") 1223), de P "ascii_letters" 1226 (.str (u "abcdefghijklmnopqrstuvwxyzABCDEFGHIJKLMNOPQRSTUVWXYZ") 1225), de P "digits" 1228 (.str (u "0123456789") 1227), de P "hexdigits" 1233 (.str (u "0123456789abcdefABCDEF") 1232), de P "c" 1244 (.int 57 1441)] 20 }
noncomputable def o22_11 : Obj := { cls := (.type "list"), data := .seq (mp [197, 201, 205, 209, 213, 217, 221, 225, 229, 233, 237, 241, 245, 249, 253, 257, 261, 265, 269, 273, 277, 281, 285, 289, 293, 297, 301, 305, 309, 313, 317, 321, 325, 1248, 333, 337, 341, 345, 349, 353, 357, 361, 1251, 1254, 373, 1245, 381, 1257, 1416, 1419, 1422, 1425, 1428, 1431, 1434, 1437, 1440, 1443, 429, 433, 437, 441, 445, 449, 453, 1338, 1341, 1344, 1347, 1350, 1353, 1356, 1359, 1362, 1365, 1368, 1371, 1374, 1377, 1380, 1383, 1386, 1389, 1392, 1395, 1398, 1401, 1404, 1407, 1410, 1413, 561, 565, 569, 573, 577, 581, 1260, 1263, 1266, 1269, 1272, 1275, 1278, 1281, 1284, 1287, 1290, 1293, 1296, 1299, 1302, 1305, 1308, 1311, 1314, 1317, 1320, 1323, 1326, 1329, 1332, 1335, 689, 693, 697, 701, 705, 709, 713, 717, 721, 725, 729, 733, 737, 741, 745, 749, 753, 757, 761, 765, 769, 773, 777, 781, 785, 789, 793, 797, 801, 805, 809, 813, 817, 821, 825, 829, 833, 837, 841, 845, 849, 853, 857, 861, 865, 869, 873, 877, 881, 885, 889, 893, 897, 901, 905, 909, 913, 917, 921, 925, 929, 933, 937, 941, 945, 949, 953, 957, 961, 965, 969, 973, 977, 981, 985, 989, 993, 997, 1001, 1005, 1009, 1013, 1017, 1021, 1025, 1029, 1033, 1037, 1041, 1045, 1049, 1053, 1057, 1061, 1065, 1069, 1073, 1077, 1081, 1085, 1089, 1093, 1097, 1101, 1105, 1109, 1113, 1117, 1121, 1125, 1129, 1133, 1137, 1141, 1145, 1149, 1153, 1157, 1161, 1165, 1169, 1173, 1177, 1181, 1185, 1189, 1193, 1197, 1201, 1205, 1209, 1213, 1217]).toArray 0 }
noncomputable def o25_11 : Obj := { cls := (.type "bytes_iterator"), data := .fields #[.none, (.int 67 0)] }
noncomputable def o26_11 : Obj := { cls := (.type "tuple"), data := .seq #[] 0 }
noncomputable def o27_11 : Obj := { cls := (.type "StopIteration"), data := .fields #[(.ref 26), .none, .none, .none, (.bool false), .none] }
noncomputable def L_11 (P : Params) : List Obj := [boot_o_0 P, boot_o_1 P, boot_o_2 P, o3_11 P, boot_o_4 P, boot_o_5 P, boot_o_6 P, boot_o_7 P, boot_o_8 P, boot_o_9 P, boot_o_10 P, o11_a, o12_a, o13_a, o14_a, o15_2m, o16_2, o17_2, o18_2, o19_2, o20_2, o21_10, o22_11, o23_10, o24_10, o25_11, o26_11, o27_11]
noncomputable def S_11 (w : World) (os : OsState) : SharedT := ⟨bt (L_11 w.params) 9 1 0, 28, {}, #[], boot_drawn, 1444, os⟩
noncomputable def o22_12 : Obj := { cls := (.type "list"), data := .seq (mp [197, 201, 205, 209, 213, 217, 221, 225, 229, 233, 237, 241, 245, 249, 253, 257, 261, 265, 269, 273, 277, 281, 285, 289, 293, 297, 301, 305, 309, 313, 317, 321, 1444, 1248, 333, 337, 341, 345, 349, 353, 357, 361, 1251, 1254, 373, 1245, 381, 1257, 1416, 1419, 1422, 1425, 1428, 1431, 1434, 1437, 1440, 1443, 429, 433, 437, 441, 445, 449, 453, 1338, 1341, 1344, 1347, 1350, 1353, 1356, 1359, 1362, 1365, 1368, 1371, 1374, 1377, 1380, 1383, 1386, 1389, 1392, 1395, 1398, 1401, 1404, 1407, 1410, 1413, 561, 565, 569, 573, 577, 581, 1260, 1263, 1266, 1269, 1272, 1275, 1278, 1281, 1284, 1287, 1290, 1293, 1296, 1299, 1302, 1305, 1308, 1311, 1314, 1317, 1320, 1323, 1326, 1329, 1332, 1335, 689, 693, 697, 701, 705, 709, 713, 717, 721, 725, 729, 733, 737, 741, 745, 749, 753, 757, 761, 765, 769, 773, 777, 781, 785, 789, 793, 797, 801, 805, 809, 813, 817, 821, 825, 829, 833, 837, 841, 845, 849, 853, 857, 861, 865, 869, 873, 877, 881, 885, 889, 893, 897, 901, 905, 909, 913, 917, 921, 925, 929, 933, 937, 941, 945, 949, 953, 957, 961, 965, 969, 973, 977, 981, 985, 989, 993, 997, 1001, 1005, 1009, 1013, 1017, 1021, 1025, 1029, 1033, 1037, 1041, 1045, 1049, 1053, 1057, 1061, 1065, 1069, 1073, 1077, 1081, 1085, 1089, 1093, 1097, 1101, 1105, 1109, 1113, 1117, 1121, 1125, 1129, 1133, 1137, 1141, 1145, 1149, 1153, 1157, 1161, 1165, 1169, 1173, 1177, 1181, 1185, 1189, 1193, 1197, 1201, 1205, 1209, 1213, 1217]).toArray 0 }
noncomputable def L_12 (P : Params) : List Obj := [boot_o_0 P, boot_o_1 P, boot_o_2 P, o3_11 P, boot_o_4 P, boot_o_5 P, boot_o_6 P, boot_o_7 P, boot_o_8 P, boot_o_9 P, boot_o_10 P, o11_a, o12_a, o13_a, o14_a, o15_2m, o16_2, o17_2, o18_2, o19_2, o20_2, o21_10, o22_12, o23_10, o24_10, o25_11, o26_11, o27_11]
noncomputable def S_12 (w : World) (os : OsState) : SharedT := ⟨bt (L_12 w.params) 9 1 0, 28, {}, #[], boot_drawn, 1447, os⟩
noncomputable def L_13m (P : Params) : List Obj := [boot_o_0 P, boot_o_1 P, boot_o_2 P, o3_11 P, boot_o_4 P, boot_o_5 P, boot_o_6 P, boot_o_7 P, boot_o_8 P, boot_o_9 P, boot_o_10 P, o11_a, o12_a, o13_a, o14_a, o15_2m, o16_2, o17_2, o18_2, o19_2, o20_2, o21_10, o22_12, o23_10, o24_10, o25_11, o26_11, o27_11]
noncomputable def S_13m (w : World) (os : OsState) : SharedT := ⟨bt (L_13m w.params) 9 1 0, 28, {}, #[], boot_drawn, 1448, os⟩
noncomputable def o3_13 (P : Params) : Obj := { cls := (.type "dict"), data := .dict #[de P "__name__" 165 (.str (u "cpy313.email.quoprimime") 1234), de P "__doc__" 166 .none, de P "__package__" 167 .none, de P "__loader__" 168 (.builtin "__main__.__loader__#opaque"), de P "__spec__" 169 .none, de P "__annotations__" 170 (.ref 6), de P "__builtins__" 171 (.ref 4), de P "__file__" 173 (.str (u "/claim/cut.py") 172), de P "__cached__" 174 .none, de P "CRLF" 188 (.str ⟨#[13, 10]⟩ 187), de P "NL" 190 (.str ⟨#[10]⟩ 189), de P "_QUOPRI_MAP" 1218 (.ref 17), de P "_QUOPRI_HEADER_MAP" 1219 (.ref 22), de P "_QUOPRI_BODY_MAP" 1220 (.ref 24), de P "ascii_lowercase" 1222 (.str (u "abcdefghijklmnopqrstuvwxyz") 1221), de P "ascii_uppercase" 1224 (.str (u "ABCDEFGHIJKLMNOPQRSTUVWXYZ") 1223), de P "ascii_letters" 1226 (.str (u "abcdefghijklmnopqrstuvwxyzABCDEFGHIJKLMNOPQRSTUVWXYZ") 1225), de P "digits" 1228 (.str (u "0123456789") 1227), de P "hexdigits" 1233 (.str (u "0123456789abcdefABCDEF") 1232), de P "c" 1244 (.int 9 1730)] 20 }
noncomputable def o24_13 : Obj := { cls := (.type "list"), data := .seq (mp [197, 201, 205, 209, 213, 217, 221, 225, 229, 1732, 237, 241, 245, 249, 253, 257, 261, 265, 269, 273, 277, 281, 285, 289, 293, 297, 301, 305, 309, 313, 317, 321, 1450, 1453, 1456, 1459, 1462, 1465, 1468, 1471, 1474, 1477, 1480, 1483, 1486, 1489, 1492, 1495, 1498, 1501, 1504, 1507, 1510, 1513, 1516, 1519, 1522, 1525, 1528, 1531, 1534, 441, 1537, 1540, 1543, 1546, 1549, 1552, 1555, 1558, 1561, 1564, 1567, 1570, 1573, 1576, 1579, 1582, 1585, 1588, 1591, 1594, 1597, 1600, 1603, 1606, 1609, 1612, 1615, 1618, 1621, 1624, 1627, 1630, 1633, 1636, 1639, 1642, 1645, 1648, 1651, 1654, 1657, 1660, 1663, 1666, 1669, 1672, 1675, 1678, 1681, 1684, 1687, 1690, 1693, 1696, 1699, 1702, 1705, 1708, 1711, 1714, 1717, 1720, 1723, 1726, 1729, 705, 709, 713, 717, 721, 725, 729, 733, 737, 741, 745, 749, 753, 757, 761, 765, 769, 773, 777, 781, 785, 789, 793, 797, 801, 805, 809, 813, 817, 821, 825, 829, 833, 837, 841, 845, 849, 853, 857, 861, 865, 869, 873, 877, 881, 885, 889, 893, 897, 901, 905, 909, 913, 917, 921, 925, 929, 933, 937, 941, 945, 949, 953, 957, 961, 965, 969, 973, 977, 981, 985, 989, 993, 997, 1001, 1005, 1009, 1013, 1017, 1021, 1025, 1029, 1033, 1037, 1041, 1045, 1049, 1053, 1057, 1061, 1065, 1069, 1073, 1077, 1081, 1085, 1089, 1093, 1097, 1101, 1105, 1109, 1113, 1117, 1121, 1125, 1129, 1133, 1137, 1141, 1145, 1149, 1153, 1157, 1161, 1165, 1169, 1173, 1177, 1181, 1185, 1189, 1193, 1197, 1201, 1205, 1209, 1213, 1217]).toArray 0 }
noncomputable def o28_13 : Obj := { cls := (.type "bytes_iterator"), data := .fields #[.none, (.int 95 0)] }
noncomputable def o29_13 : Obj := { cls := (.type "tuple"), data := .seq #[] 0 }
noncomputable def o30_13 : Obj := { cls := (.type "StopIteration"), data := .fields #[(.ref 29), .none, .none, .none, (.bool false), .none] }
noncomputable def L_13 (P : Params) : List Obj := [boot_o_0 P, boot_o_1 P, boot_o_2 P, o3_13 P, boot_o_4 P, boot_o_5 P, boot_o_6 P, boot_o_7 P, boot_o_8 P, boot_o_9 P, boot_o_10 P, o11_a, o12_a, o13_a, o14_a, o15_2m, o16_2, o17_2, o18_2, o19_2, o20_2, o21_10, o22_12, o23_10, o24_13, o25_11, o26_11, o27_11, o28_13, o29_13, o30_13]
noncomputable def S_13 (w : World) (os : OsState) : SharedT := ⟨bt (L_13 w.params) 9 1 0, 31, {}, #[], boot_drawn, 1733, os⟩
noncomputable def o3_16 (P : Params) : Obj := { cls := (.type "dict"), data := .dict #[de P "__name__" 165 (.str (u "cpy313.email.quoprimime") 1234), de P "__doc__" 166 .none, de P "__package__" 167 .none, de P "__loader__" 168 (.builtin "__main__.__loader__#opaque"), de P "__spec__" 169 .none, de P "__annotations__" 170 (.ref 6), de P "__builtins__" 171 (.ref 4), de P "__file__" 173 (.str (u "/claim/cut.py") 172), de P "__cached__" 174 .none, de P "CRLF" 188 (.str ⟨#[13, 10]⟩ 187), de P "NL" 190 (.str ⟨#[10]⟩ 189), de P "_QUOPRI_MAP" 1218 (.ref 17), de P "_QUOPRI_HEADER_MAP" 1219 (.ref 22), de P "_QUOPRI_BODY_MAP" 1220 (.ref 24), de P "ascii_lowercase" 1222 (.str (u "abcdefghijklmnopqrstuvwxyz") 1221), de P "ascii_uppercase" 1224 (.str (u "ABCDEFGHIJKLMNOPQRSTUVWXYZ") 1223), de P "ascii_letters" 1226 (.str (u "abcdefghijklmnopqrstuvwxyzABCDEFGHIJKLMNOPQRSTUVWXYZ") 1225), de P "digits" 1228 (.str (u "0123456789") 1227), de P "hexdigits" 1233 (.str (u "0123456789abcdefABCDEF") 1232), de P "c" 1244 (.int 9 1730), de P "unquote" 1739 (.ref 37), de P "quote" 1746 (.ref 44), de P "_QUOPRI_BODY_ENCODE_MAP" 1747 (.ref 46)] 23 }
noncomputable def o12_16 : Obj := { cls := .none, data := .fields #[(.int 17 0), (.int 0 0), (.ref 36), (.int 19 0), (.int 0 0), (.ref 43)] }
noncomputable def o31_16 : Obj := { cls := (.type "tuple"), data := .seq #[] 0 }
noncomputable def o32_16 : Obj := { cls := .none, data := .fields #[] }
noncomputable def o33_16 : Obj := { cls := (.type "tuple"), data := .seq #[(.str (u "s") 1736)] 0 }
noncomputable def o34_16 : Obj := { cls := (.type "tuple"), data := .seq #[] 0 }
noncomputable def o35_16 : Obj := { cls := .none, data := .func (fdT 14) }
noncomputable def o36_16 : Obj := { cls := (.type "code"), data := .fields #[(.str (u "unquote") 1733), (.str (u "unquote") 1734), (.str (u "/claim/cut.py") 1735), (.int 17 0), (.int 1 0), (.int 0 0), (.int 0 0), (.int 3 0), (.ref 31), (.bool true), (.int 181 0), (.ref 32), .none, (.ref 33), (.ref 34), (.ref 35), (.int 1737 0), (.int 17 0), (.str (u "/claim/cut.py") 1738)] }
noncomputable def o37_16 : Obj := { cls := (.type "function"), data := .func (fdF 14 .none (.str (u "cpy313.email.quoprimime") 1234) (.ref 36)) }
noncomputable def o38_16 : Obj := { cls := (.type "tuple"), data := .seq #[] 0 }
noncomputable def o39_16 : Obj := { cls := .none, data := .fields #[] }
noncomputable def o40_16 : Obj := { cls := (.type "tuple"), data := .seq #[(.str (u "c") 1743)] 0 }
noncomputable def o41_16 : Obj := { cls := (.type "tuple"), data := .seq #[] 0 }
noncomputable def o42_16 : Obj := { cls := .none, data := .func (fdT 15) }
noncomputable def o43_16 : Obj := { cls := (.type "code"), data := .fields #[(.str (u "quote") 1740), (.str (u "quote") 1741), (.str (u "/claim/cut.py") 1742), (.int 19 0), (.int 1 0), (.int 0 0), (.int 0 0), (.int 3 0), (.ref 38), (.bool true), (.int 181 0), (.ref 39), .none, (.ref 40), (.ref 41), (.ref 42), (.int 1744 0), (.int 19 0), (.str (u "/claim/cut.py") 1745)] }
noncomputable def o44_16 : Obj := { cls := (.type "function"), data := .func (fdF 15 .none (.str (u "cpy313.email.quoprimime") 1234) (.ref 43)) }
noncomputable def o45_16 : Obj := { cls := (.type "slice"), data := .fields #[.none, .none, .none] }
noncomputable def o46_16 : Obj := { cls := (.type "list"), data := .seq (mp [197, 201, 205, 209, 213, 217, 221, 225, 229, 1732, 237, 241, 245, 249, 253, 257, 261, 265, 269, 273, 277, 281, 285, 289, 293, 297, 301, 305, 309, 313, 317, 321, 1450, 1453, 1456, 1459, 1462, 1465, 1468, 1471, 1474, 1477, 1480, 1483, 1486, 1489, 1492, 1495, 1498, 1501, 1504, 1507, 1510, 1513, 1516, 1519, 1522, 1525, 1528, 1531, 1534, 441, 1537, 1540, 1543, 1546, 1549, 1552, 1555, 1558, 1561, 1564, 1567, 1570, 1573, 1576, 1579, 1582, 1585, 1588, 1591, 1594, 1597, 1600, 1603, 1606, 1609, 1612, 1615, 1618, 1621, 1624, 1627, 1630, 1633, 1636, 1639, 1642, 1645, 1648, 1651, 1654, 1657, 1660, 1663, 1666, 1669, 1672, 1675, 1678, 1681, 1684, 1687, 1690, 1693, 1696, 1699, 1702, 1705, 1708, 1711, 1714, 1717, 1720, 1723, 1726, 1729, 705, 709, 713, 717, 721, 725, 729, 733, 737, 741, 745, 749, 753, 757, 761, 765, 769, 773, 777, 781, 785, 789, 793, 797, 801, 805, 809, 813, 817, 821, 825, 829, 833, 837, 841, 845, 849, 853, 857, 861, 865, 869, 873, 877, 881, 885, 889, 893, 897, 901, 905, 909, 913, 917, 921, 925, 929, 933, 937, 941, 945, 949, 953, 957, 961, 965, 969, 973, 977, 981, 985, 989, 993, 997, 1001, 1005, 1009, 1013, 1017, 1021, 1025, 1029, 1033, 1037, 1041, 1045, 1049, 1053, 1057, 1061, 1065, 1069, 1073, 1077, 1081, 1085, 1089, 1093, 1097, 1101, 1105, 1109, 1113, 1117, 1121, 1125, 1129, 1133, 1137, 1141, 1145, 1149, 1153, 1157, 1161, 1165, 1169, 1173, 1177, 1181, 1185, 1189, 1193, 1197, 1201, 1205, 1209, 1213, 1217]).toArray 0 }
noncomputable def L_16 (P : Params) : List Obj := [boot_o_0 P, boot_o_1 P, boot_o_2 P, o3_16 P, boot_o_4 P, boot_o_5 P, boot_o_6 P, boot_o_7 P, boot_o_8 P, boot_o_9 P, boot_o_10 P, o11_a, o12_16, o13_a, o14_a, o15_2m, o16_2, o17_2, o18_2, o19_2, o20_2, o21_10, o22_12, o23_10, o24_13, o25_11, o26_11, o27_11, o28_13, o29_13, o30_13, o31_16, o32_16, o33_16, o34_16, o35_16, o36_16, o37_16, o38_16, o39_16, o40_16, o41_16, o42_16, o43_16, o44_16, o45_16, o46_16]
noncomputable def S_16 (w : World) (os : OsState) : SharedT := ⟨bt (L_16 w.params) 9 1 0, 47, {}, #[], boot_drawn, 1748, os⟩
noncomputable def L_17m (P : Params) : List Obj := [boot_o_0 P, boot_o_1 P, boot_o_2 P, o3_16 P, boot_o_4 P, boot_o_5 P, boot_o_6 P, boot_o_7 P, boot_o_8 P, boot_o_9 P, boot_o_10 P, o11_a, o12_16, o13_a, o14_a, o15_2m, o16_2, o17_2, o18_2, o19_2, o20_2, o21_10, o22_12, o23_10, o24_13, o25_11, o26_11, o27_11, o28_13, o29_13, o30_13, o31_16, o32_16, o33_16, o34_16, o35_16, o36_16, o37_16, o38_16, o39_16, o40_16, o41_16, o42_16, o43_16, o44_16, o45_16, o46_16]
noncomputable def S_17m (w : World) (os : OsState) : SharedT := ⟨bt (L_17m w.params) 9 1 0, 47, {}, #[], boot_drawn, 1749, os⟩
noncomputable def o3_17 (P : Params) : Obj := { cls := (.type "dict"), data := .dict #[de P "__name__" 165 (.str (u "cpy313.email.quoprimime") 1234), de P "__doc__" 166 .none, de P "__package__" 167 .none, de P "__loader__" 168 (.builtin "__main__.__loader__#opaque"), de P "__spec__" 169 .none, de P "__annotations__" 170 (.ref 6), de P "__builtins__" 171 (.ref 4), de P "__file__" 173 (.str (u "/claim/cut.py") 172), de P "__cached__" 174 .none, de P "CRLF" 188 (.str ⟨#[13, 10]⟩ 187), de P "NL" 190 (.str ⟨#[10]⟩ 189), de P "_QUOPRI_MAP" 1218 (.ref 17), de P "_QUOPRI_HEADER_MAP" 1219 (.ref 22), de P "_QUOPRI_BODY_MAP" 1220 (.ref 24), de P "ascii_lowercase" 1222 (.str (u "abcdefghijklmnopqrstuvwxyz") 1221), de P "ascii_uppercase" 1224 (.str (u "ABCDEFGHIJKLMNOPQRSTUVWXYZ") 1223), de P "ascii_letters" 1226 (.str (u "abcdefghijklmnopqrstuvwxyzABCDEFGHIJKLMNOPQRSTUVWXYZ") 1225), de P "digits" 1228 (.str (u "0123456789") 1227), de P "hexdigits" 1233 (.str (u "0123456789abcdefABCDEF") 1232), de P "c" 1244 (.int 10 1752), de P "unquote" 1739 (.ref 37), de P "quote" 1746 (.ref 44), de P "_QUOPRI_BODY_ENCODE_MAP" 1747 (.ref 46)] 23 }
noncomputable def o46_17 : Obj := { cls := (.type "list"), data := .seq (mp [197, 201, 205, 209, 213, 217, 221, 225, 229, 1732, 1754, 241, 245, 1751, 253, 257, 261, 265, 269, 273, 277, 281, 285, 289, 293, 297, 301, 305, 309, 313, 317, 321, 1450, 1453, 1456, 1459, 1462, 1465, 1468, 1471, 1474, 1477, 1480, 1483, 1486, 1489, 1492, 1495, 1498, 1501, 1504, 1507, 1510, 1513, 1516, 1519, 1522, 1525, 1528, 1531, 1534, 441, 1537, 1540, 1543, 1546, 1549, 1552, 1555, 1558, 1561, 1564, 1567, 1570, 1573, 1576, 1579, 1582, 1585, 1588, 1591, 1594, 1597, 1600, 1603, 1606, 1609, 1612, 1615, 1618, 1621, 1624, 1627, 1630, 1633, 1636, 1639, 1642, 1645, 1648, 1651, 1654, 1657, 1660, 1663, 1666, 1669, 1672, 1675, 1678, 1681, 1684, 1687, 1690, 1693, 1696, 1699, 1702, 1705, 1708, 1711, 1714, 1717, 1720, 1723, 1726, 1729, 705, 709, 713, 717, 721, 725, 729, 733, 737, 741, 745, 749, 753, 757, 761, 765, 769, 773, 777, 781, 785, 789, 793, 797, 801, 805, 809, 813, 817, 821, 825, 829, 833, 837, 841, 845, 849, 853, 857, 861, 865, 869, 873, 877, 881, 885, 889, 893, 897, 901, 905, 909, 913, 917, 921, 925, 929, 933, 937, 941, 945, 949, 953, 957, 961, 965, 969, 973, 977, 981, 985, 989, 993, 997, 1001, 1005, 1009, 1013, 1017, 1021, 1025, 1029, 1033, 1037, 1041, 1045, 1049, 1053, 1057, 1061, 1065, 1069, 1073, 1077, 1081, 1085, 1089, 1093, 1097, 1101, 1105, 1109, 1113, 1117, 1121, 1125, 1129, 1133, 1137, 1141, 1145, 1149, 1153, 1157, 1161, 1165, 1169, 1173, 1177, 1181, 1185, 1189, 1193, 1197, 1201, 1205, 1209, 1213, 1217]).toArray 0 }
noncomputable def o47_17 : Obj := { cls := (.type "bytes_iterator"), data := .fields #[.none, (.int 2 0)] }
noncomputable def o48_17 : Obj := { cls := (.type "tuple"), data := .seq #[] 0 }
noncomputable def o49_17 : Obj := { cls := (.type "StopIteration"), data := .fields #[(.ref 48), .none, .none, .none, (.bool false), .none] }
noncomputable def L_17 (P : Params) : List Obj := [boot_o_0 P, boot_o_1 P, boot_o_2 P, o3_17 P, boot_o_4 P, boot_o_5 P, boot_o_6 P, boot_o_7 P, boot_o_8 P, boot_o_9 P, boot_o_10 P, o11_a, o12_16, o13_a, o14_a, o15_2m, o16_2, o17_2, o18_2, o19_2, o20_2, o21_10, o22_12, o23_10, o24_13, o25_11, o26_11, o27_11, o28_13, o29_13, o30_13, o31_16, o32_16, o33_16, o34_16, o35_16, o36_16, o37_16, o38_16, o39_16, o40_16, o41_16, o42_16, o43_16, o44_16, o45_16, o46_17, o47_17, o48_17, o49_17]
noncomputable def S_17 (w : World) (os : OsState) : SharedT := ⟨bt (L_17 w.params) 9 1 0, 50, {}, #[], boot_drawn, 1755, os⟩
noncomputable def o3_41 (P : Params) : Obj := { cls := (.type "dict"), data := .dict #[de P "__name__" 165 (.str (u "law_op0127_01") 1848), de P "__doc__" 166 .none, de P "__package__" 167 .none, de P "__loader__" 168 (.builtin "__main__.__loader__#opaque"), de P "__spec__" 169 .none, de P "__annotations__" 170 (.ref 6), de P "__builtins__" 171 (.ref 4), de P "__file__" 173 (.str (u "/claim/cut.py") 172), de P "__cached__" 174 .none, de P "CRLF" 188 (.str ⟨#[13, 10]⟩ 187), de P "NL" 190 (.str ⟨#[10]⟩ 189), de P "_QUOPRI_MAP" 1218 (.ref 17), de P "_QUOPRI_HEADER_MAP" 1219 (.ref 22), de P "_QUOPRI_BODY_MAP" 1220 (.ref 24), de P "ascii_lowercase" 1222 (.str (u "abcdefghijklmnopqrstuvwxyz") 1221), de P "ascii_uppercase" 1224 (.str (u "ABCDEFGHIJKLMNOPQRSTUVWXYZ") 1223), de P "ascii_letters" 1226 (.str (u "abcdefghijklmnopqrstuvwxyzABCDEFGHIJKLMNOPQRSTUVWXYZ") 1225), de P "digits" 1228 (.str (u "0123456789") 1227), de P "hexdigits" 1233 (.str (u "0123456789abcdefABCDEF") 1232), de P "unquote" 1739 (.ref 37), de P "quote" 1746 (.ref 44), de P "_QUOPRI_BODY_ENCODE_MAP" 1747 (.ref 46), de P "body_encode" 1774 (.ref 57), de P "decode" 1787 (.ref 65), de P "heappush" 1797 (.ref 72), de P "heappop" 1806 (.ref 79), de P "_siftdown" 1818 (.ref 86), de P "_siftup" 1831 (.ref 93), de P "sorted_list_difference" 1847 (.ref 100), de P "_law_numbers" 1855 (.ref 105), de P "_law_octet" 1863 (.ref 112), de P "_law_sign" 1871 (.ref 119), de P "_law_breaks" 1877 (.ref 124), de P "_law_fits" 1889 (.ref 131), de P "_law_noted" 1903 (.ref 138), de P "_law_moved" 1909 (.ref 143), de P "_law_fewest" 1915 (.ref 148), de P "_law_spelled" 1921 (.ref 153), de P "_law_apart" 1927 (.ref 158), de P "_law_told" 1939 (.ref 165), de P "_law_holds" 1945 (.ref 170), de P "law" 1951 (.ref 175)] 44 }
noncomputable def o12_41 : Obj := { cls := .none, data := .fields #[(.int 17 0), (.int 0 0), (.ref 36), (.int 19 0), (.int 0 0), (.ref 43), (.int 25 0), (.int 0 0), (.ref 56), (.int 63 0), (.int 0 0), (.ref 64), (.int 94 0), (.int 0 0), (.ref 71), (.int 97 0), (.int 0 0), (.ref 78), (.int 105 0), (.int 0 0), (.ref 85), (.int 116 0), (.int 0 0), (.ref 92), (.int 131 0), (.int 0 0), (.ref 99), (.int 164 0), (.int 0 0), (.ref 104), (.int 167 0), (.int 0 0), (.ref 111), (.int 176 0), (.int 0 0), (.ref 118), (.int 181 0), (.int 0 0), (.ref 123), (.int 184 0), (.int 0 0), (.ref 130), (.int 192 0), (.int 0 0), (.ref 137), (.int 205 0), (.int 0 0), (.ref 142), (.int 207 0), (.int 0 0), (.ref 147), (.int 218 0), (.int 0 0), (.ref 152), (.int 223 0), (.int 0 0), (.ref 157), (.int 226 0), (.int 0 0), (.ref 164), (.int 237 0), (.int 0 0), (.ref 169), (.int 250 0), (.int 0 0), (.ref 174)] }
noncomputable def o50_41 : Obj := { cls := (.type "tuple"), data := .seq #[(.int 76 1755), (.str ⟨#[10]⟩ 189)] 0 }
noncomputable def o51_41 : Obj := { cls := (.type "tuple"), data := .seq #[] 0 }
noncomputable def o52_41 : Obj := { cls := .none, data := .fields #[] }
noncomputable def o53_41 : Obj := { cls := (.type "tuple"), data := .seq #[(.str (u "body") 1759), (.str (u "maxlinelen") 1760), (.str (u "eol") 1761), (.str (u "soft_break") 1762), (.str (u "maxlinelen1") 1763), (.str (u "encoded_body") 1764), (.str (u "append") 1765), (.str (u "line") 1766), (.str (u "start") 1767), (.str (u "laststart") 1768), (.str (u "stop") 1769), (.str (u "room") 1770), (.str (u "q") 1771)] 0 }
noncomputable def o54_41 : Obj := { cls := (.type "tuple"), data := .seq #[] 0 }
noncomputable def o55_41 : Obj := { cls := .none, data := .func (fdT 19) }
noncomputable def o56_41 : Obj := { cls := (.type "code"), data := .fields #[(.str (u "body_encode") 1756), (.str (u "body_encode") 1757), (.str (u "/claim/cut.py") 1758), (.int 25 0), (.int 3 0), (.int 0 0), (.int 0 0), (.int 3 0), (.ref 51), (.bool true), (.int 181 0), (.ref 52), .none, (.ref 53), (.ref 54), (.ref 55), (.int 1772 0), (.int 25 0), (.str (u "/claim/cut.py") 1773)] }
noncomputable def o57_41 : Obj := { cls := (.type "function"), data := .func (fdF 19 (.ref 50) (.str (u "cpy313.email.quoprimime") 1234) (.ref 56)) }
noncomputable def o58_41 : Obj := { cls := (.type "tuple"), data := .seq #[(.str ⟨#[10]⟩ 189)] 0 }
noncomputable def o59_41 : Obj := { cls := (.type "tuple"), data := .seq #[] 0 }
noncomputable def o60_41 : Obj := { cls := .none, data := .fields #[] }
noncomputable def o61_41 : Obj := { cls := (.type "tuple"), data := .seq #[(.str (u "encoded") 1778), (.str (u "eol") 1779), (.str (u "decoded") 1780), (.str (u "line") 1781), (.str (u "i") 1782), (.str (u "n") 1783), (.str (u "c") 1784)] 0 }
noncomputable def o62_41 : Obj := { cls := (.type "tuple"), data := .seq #[] 0 }
noncomputable def o63_41 : Obj := { cls := .none, data := .func (fdT 20) }
noncomputable def o64_41 : Obj := { cls := (.type "code"), data := .fields #[(.str (u "decode") 1775), (.str (u "decode") 1776), (.str (u "/claim/cut.py") 1777), (.int 63 0), (.int 2 0), (.int 0 0), (.int 0 0), (.int 3 0), (.ref 59), (.bool true), (.int 181 0), (.ref 60), .none, (.ref 61), (.ref 62), (.ref 63), (.int 1785 0), (.int 63 0), (.str (u "/claim/cut.py") 1786)] }
noncomputable def o65_41 : Obj := { cls := (.type "function"), data := .func (fdF 20 (.ref 58) (.str (u "cpy313.email.quoprimime") 1234) (.ref 64)) }
noncomputable def o66_41 : Obj := { cls := (.type "tuple"), data := .seq #[] 0 }
noncomputable def o67_41 : Obj := { cls := .none, data := .fields #[] }
noncomputable def o68_41 : Obj := { cls := (.type "tuple"), data := .seq #[(.str (u "heap") 1793), (.str (u "item") 1794)] 0 }
noncomputable def o69_41 : Obj := { cls := (.type "tuple"), data := .seq #[] 0 }
noncomputable def o70_41 : Obj := { cls := .none, data := .func (fdT 22) }
noncomputable def o71_41 : Obj := { cls := (.type "code"), data := .fields #[(.str (u "heappush") 1790), (.str (u "heappush") 1791), (.str (u "/claim/cut.py") 1792), (.int 94 0), (.int 2 0), (.int 0 0), (.int 0 0), (.int 3 0), (.ref 66), (.bool true), (.int 181 0), (.ref 67), .none, (.ref 68), (.ref 69), (.ref 70), (.int 1795 0), (.int 94 0), (.str (u "/claim/cut.py") 1796)] }
noncomputable def o72_41 : Obj := { cls := (.type "function"), data := .func (fdF 22 .none (.str (u "cpy313.heapq") 1788) (.ref 71)) }
noncomputable def o73_41 : Obj := { cls := (.type "tuple"), data := .seq #[] 0 }
noncomputable def o74_41 : Obj := { cls := .none, data := .fields #[] }
noncomputable def o75_41 : Obj := { cls := (.type "tuple"), data := .seq #[(.str (u "heap") 1801), (.str (u "lastelt") 1802), (.str (u "returnitem") 1803)] 0 }
noncomputable def o76_41 : Obj := { cls := (.type "tuple"), data := .seq #[] 0 }
noncomputable def o77_41 : Obj := { cls := .none, data := .func (fdT 23) }
noncomputable def o78_41 : Obj := { cls := (.type "code"), data := .fields #[(.str (u "heappop") 1798), (.str (u "heappop") 1799), (.str (u "/claim/cut.py") 1800), (.int 97 0), (.int 1 0), (.int 0 0), (.int 0 0), (.int 3 0), (.ref 73), (.bool true), (.int 181 0), (.ref 74), .none, (.ref 75), (.ref 76), (.ref 77), (.int 1804 0), (.int 97 0), (.str (u "/claim/cut.py") 1805)] }
noncomputable def o79_41 : Obj := { cls := (.type "function"), data := .func (fdF 23 .none (.str (u "cpy313.heapq") 1788) (.ref 78)) }
noncomputable def o80_41 : Obj := { cls := (.type "tuple"), data := .seq #[] 0 }
noncomputable def o81_41 : Obj := { cls := .none, data := .fields #[] }
noncomputable def o82_41 : Obj := { cls := (.type "tuple"), data := .seq #[(.str (u "heap") 1810), (.str (u "startpos") 1811), (.str (u "pos") 1812), (.str (u "newitem") 1813), (.str (u "parentpos") 1814), (.str (u "parent") 1815)] 0 }
noncomputable def o83_41 : Obj := { cls := (.type "tuple"), data := .seq #[] 0 }
noncomputable def o84_41 : Obj := { cls := .none, data := .func (fdT 24) }
noncomputable def o85_41 : Obj := { cls := (.type "code"), data := .fields #[(.str (u "_siftdown") 1807), (.str (u "_siftdown") 1808), (.str (u "/claim/cut.py") 1809), (.int 105 0), (.int 3 0), (.int 0 0), (.int 0 0), (.int 3 0), (.ref 80), (.bool true), (.int 181 0), (.ref 81), .none, (.ref 82), (.ref 83), (.ref 84), (.int 1816 0), (.int 105 0), (.str (u "/claim/cut.py") 1817)] }
noncomputable def o86_41 : Obj := { cls := (.type "function"), data := .func (fdF 24 .none (.str (u "cpy313.heapq") 1788) (.ref 85)) }
noncomputable def o87_41 : Obj := { cls := (.type "tuple"), data := .seq #[] 0 }
noncomputable def o88_41 : Obj := { cls := .none, data := .fields #[] }
noncomputable def o89_41 : Obj := { cls := (.type "tuple"), data := .seq #[(.str (u "heap") 1822), (.str (u "pos") 1823), (.str (u "endpos") 1824), (.str (u "startpos") 1825), (.str (u "newitem") 1826), (.str (u "childpos") 1827), (.str (u "rightpos") 1828)] 0 }
noncomputable def o90_41 : Obj := { cls := (.type "tuple"), data := .seq #[] 0 }
noncomputable def o91_41 : Obj := { cls := .none, data := .func (fdT 25) }
noncomputable def o92_41 : Obj := { cls := (.type "code"), data := .fields #[(.str (u "_siftup") 1819), (.str (u "_siftup") 1820), (.str (u "/claim/cut.py") 1821), (.int 116 0), (.int 2 0), (.int 0 0), (.int 0 0), (.int 3 0), (.ref 87), (.bool true), (.int 181 0), (.ref 88), .none, (.ref 89), (.ref 90), (.ref 91), (.int 1829 0), (.int 116 0), (.str (u "/claim/cut.py") 1830)] }
noncomputable def o93_41 : Obj := { cls := (.type "function"), data := .func (fdF 25 .none (.str (u "cpy313.heapq") 1788) (.ref 92)) }
noncomputable def o94_41 : Obj := { cls := (.type "tuple"), data := .seq #[] 0 }
noncomputable def o95_41 : Obj := { cls := .none, data := .fields #[] }
noncomputable def o96_41 : Obj := { cls := (.type "tuple"), data := .seq #[(.str (u "expected") 1837), (.str (u "actual") 1838), (.str (u "i") 1839), (.str (u "j") 1840), (.str (u "missing") 1841), (.str (u "unexpected") 1842), (.str (u "e") 1843), (.str (u "a") 1844)] 0 }
noncomputable def o97_41 : Obj := { cls := (.type "tuple"), data := .seq #[] 0 }
noncomputable def o98_41 : Obj := { cls := .none, data := .func (fdT 27) }
noncomputable def o99_41 : Obj := { cls := (.type "code"), data := .fields #[(.str (u "sorted_list_difference") 1834), (.str (u "sorted_list_difference") 1835), (.str (u "/claim/cut.py") 1836), (.int 131 0), (.int 2 0), (.int 0 0), (.int 0 0), (.int 3 0), (.ref 94), (.bool true), (.int 181 0), (.ref 95), .none, (.ref 96), (.ref 97), (.ref 98), (.int 1845 0), (.int 131 0), (.str (u "/claim/cut.py") 1846)] }
noncomputable def o100_41 : Obj := { cls := (.type "function"), data := .func (fdF 27 .none (.str (u "cpy313.unittest.util") 1832) (.ref 99)) }
noncomputable def o101_41 : Obj := { cls := (.type "tuple"), data := .seq #[] 0 }
noncomputable def o102_41 : Obj := { cls := .none, data := .fields #[] }
noncomputable def o103_41 : Obj := { cls := .none, data := .func (fdT 29) }
noncomputable def o104_41 : Obj := { cls := (.type "code"), data := .fields #[(.str (u "_law_numbers") 1850), (.str (u "_law_numbers") 1851), (.str (u "/claim/cut.py") 1852), (.int 164 0), (.int 1 0), (.int 0 0), (.int 0 0), (.int 3 0), (.ref 101), (.bool true), (.int 181 0), (.ref 102), .none, .none, .none, (.ref 103), (.int 1853 0), (.int 164 0), (.str (u "/claim/cut.py") 1854)] }
noncomputable def o105_41 : Obj := { cls := (.type "function"), data := .func (fdF 29 .none (.str (u "law_op0127_01") 1848) (.ref 104)) }
noncomputable def o106_41 : Obj := { cls := (.type "tuple"), data := .seq #[] 0 }
noncomputable def o107_41 : Obj := { cls := .none, data := .fields #[] }
noncomputable def o108_41 : Obj := { cls := (.type "tuple"), data := .seq #[(.str (u "number") 1859), (.str (u "part") 1860)] 0 }
noncomputable def o109_41 : Obj := { cls := (.type "tuple"), data := .seq #[] 0 }
noncomputable def o110_41 : Obj := { cls := .none, data := .func (fdT 30) }
noncomputable def o111_41 : Obj := { cls := (.type "code"), data := .fields #[(.str (u "_law_octet") 1856), (.str (u "_law_octet") 1857), (.str (u "/claim/cut.py") 1858), (.int 167 0), (.int 1 0), (.int 0 0), (.int 0 0), (.int 3 0), (.ref 106), (.bool true), (.int 181 0), (.ref 107), .none, (.ref 108), (.ref 109), (.ref 110), (.int 1861 0), (.int 167 0), (.str (u "/claim/cut.py") 1862)] }
noncomputable def o112_41 : Obj := { cls := (.type "function"), data := .func (fdF 30 .none (.str (u "law_op0127_01") 1848) (.ref 111)) }
noncomputable def o113_41 : Obj := { cls := (.type "tuple"), data := .seq #[] 0 }
noncomputable def o114_41 : Obj := { cls := .none, data := .fields #[] }
noncomputable def o115_41 : Obj := { cls := (.type "tuple"), data := .seq #[(.str (u "octet") 1867), (.str (u "figures") 1868)] 0 }
noncomputable def o116_41 : Obj := { cls := (.type "tuple"), data := .seq #[] 0 }
noncomputable def o117_41 : Obj := { cls := .none, data := .func (fdT 31) }
noncomputable def o118_41 : Obj := { cls := (.type "code"), data := .fields #[(.str (u "_law_sign") 1864), (.str (u "_law_sign") 1865), (.str (u "/claim/cut.py") 1866), (.int 176 0), (.int 1 0), (.int 0 0), (.int 0 0), (.int 3 0), (.ref 113), (.bool true), (.int 181 0), (.ref 114), .none, (.ref 115), (.ref 116), (.ref 117), (.int 1869 0), (.int 176 0), (.str (u "/claim/cut.py") 1870)] }
noncomputable def o119_41 : Obj := { cls := (.type "function"), data := .func (fdF 31 .none (.str (u "law_op0127_01") 1848) (.ref 118)) }
noncomputable def o120_41 : Obj := { cls := (.type "tuple"), data := .seq #[] 0 }
noncomputable def o121_41 : Obj := { cls := .none, data := .fields #[] }
noncomputable def o122_41 : Obj := { cls := .none, data := .func (fdT 32) }
noncomputable def o123_41 : Obj := { cls := (.type "code"), data := .fields #[(.str (u "_law_breaks") 1872), (.str (u "_law_breaks") 1873), (.str (u "/claim/cut.py") 1874), (.int 181 0), (.int 1 0), (.int 0 0), (.int 0 0), (.int 3 0), (.ref 120), (.bool true), (.int 181 0), (.ref 121), .none, .none, .none, (.ref 122), (.int 1875 0), (.int 181 0), (.str (u "/claim/cut.py") 1876)] }
noncomputable def o124_41 : Obj := { cls := (.type "function"), data := .func (fdF 32 .none (.str (u "law_op0127_01") 1848) (.ref 123)) }
noncomputable def o125_41 : Obj := { cls := (.type "tuple"), data := .seq #[] 0 }
noncomputable def o126_41 : Obj := { cls := .none, data := .fields #[] }
noncomputable def o127_41 : Obj := { cls := (.type "tuple"), data := .seq #[(.str (u "widths") 1881), (.str (u "width") 1882), (.str (u "breaks") 1883), (.str (u "start") 1884), (.str (u "end") 1885), (.str (u "room") 1886)] 0 }
noncomputable def o128_41 : Obj := { cls := (.type "tuple"), data := .seq #[] 0 }
noncomputable def o129_41 : Obj := { cls := .none, data := .func (fdT 33) }
noncomputable def o130_41 : Obj := { cls := (.type "code"), data := .fields #[(.str (u "_law_fits") 1878), (.str (u "_law_fits") 1879), (.str (u "/claim/cut.py") 1880), (.int 184 0), (.int 3 0), (.int 0 0), (.int 0 0), (.int 3 0), (.ref 125), (.bool true), (.int 181 0), (.ref 126), .none, (.ref 127), (.ref 128), (.ref 129), (.int 1887 0), (.int 184 0), (.str (u "/claim/cut.py") 1888)] }
noncomputable def o131_41 : Obj := { cls := (.type "function"), data := .func (fdF 33 .none (.str (u "law_op0127_01") 1848) (.ref 130)) }
noncomputable def o132_41 : Obj := { cls := (.type "tuple"), data := .seq #[] 0 }
noncomputable def o133_41 : Obj := { cls := .none, data := .fields #[] }
noncomputable def o134_41 : Obj := { cls := (.type "tuple"), data := .seq #[(.str (u "widths") 1893), (.str (u "width") 1894), (.str (u "latest") 1895), (.str (u "heap") 1896), (.str (u "noted") 1897), (.str (u "earlier") 1898), (.str (u "which") 1899), (.str (u "further") 1900)] 0 }
noncomputable def o135_41 : Obj := { cls := (.type "tuple"), data := .seq #[] 0 }
noncomputable def o136_41 : Obj := { cls := .none, data := .func (fdT 34) }
noncomputable def o137_41 : Obj := { cls := (.type "code"), data := .fields #[(.str (u "_law_noted") 1890), (.str (u "_law_noted") 1891), (.str (u "/claim/cut.py") 1892), (.int 192 0), (.int 3 0), (.int 0 0), (.int 0 0), (.int 3 0), (.ref 132), (.bool true), (.int 181 0), (.ref 133), .none, (.ref 134), (.ref 135), (.ref 136), (.int 1901 0), (.int 192 0), (.str (u "/claim/cut.py") 1902)] }
noncomputable def o138_41 : Obj := { cls := (.type "function"), data := .func (fdF 34 .none (.str (u "law_op0127_01") 1848) (.ref 137)) }
noncomputable def o139_41 : Obj := { cls := (.type "tuple"), data := .seq #[] 0 }
noncomputable def o140_41 : Obj := { cls := .none, data := .fields #[] }
noncomputable def o141_41 : Obj := { cls := .none, data := .func (fdT 35) }
noncomputable def o142_41 : Obj := { cls := (.type "code"), data := .fields #[(.str (u "_law_moved") 1904), (.str (u "_law_moved") 1905), (.str (u "/claim/cut.py") 1906), (.int 205 0), (.int 2 0), (.int 0 0), (.int 0 0), (.int 3 0), (.ref 139), (.bool true), (.int 181 0), (.ref 140), .none, .none, .none, (.ref 141), (.int 1907 0), (.int 205 0), (.str (u "/claim/cut.py") 1908)] }
noncomputable def o143_41 : Obj := { cls := (.type "function"), data := .func (fdF 35 .none (.str (u "law_op0127_01") 1848) (.ref 142)) }
noncomputable def o144_41 : Obj := { cls := (.type "tuple"), data := .seq #[] 0 }
noncomputable def o145_41 : Obj := { cls := .none, data := .fields #[] }
noncomputable def o146_41 : Obj := { cls := .none, data := .func (fdT 36) }
noncomputable def o147_41 : Obj := { cls := (.type "code"), data := .fields #[(.str (u "_law_fewest") 1910), (.str (u "_law_fewest") 1911), (.str (u "/claim/cut.py") 1912), (.int 207 0), (.int 2 0), (.int 0 0), (.int 0 0), (.int 3 0), (.ref 144), (.bool true), (.int 181 0), (.ref 145), .none, .none, .none, (.ref 146), (.int 1913 0), (.int 207 0), (.str (u "/claim/cut.py") 1914)] }
noncomputable def o148_41 : Obj := { cls := (.type "function"), data := .func (fdF 36 .none (.str (u "law_op0127_01") 1848) (.ref 147)) }
noncomputable def o149_41 : Obj := { cls := (.type "tuple"), data := .seq #[] 0 }
noncomputable def o150_41 : Obj := { cls := .none, data := .fields #[] }
noncomputable def o151_41 : Obj := { cls := .none, data := .func (fdT 37) }
noncomputable def o152_41 : Obj := { cls := (.type "code"), data := .fields #[(.str (u "_law_spelled") 1916), (.str (u "_law_spelled") 1917), (.str (u "/claim/cut.py") 1918), (.int 218 0), (.int 2 0), (.int 0 0), (.int 0 0), (.int 3 0), (.ref 149), (.bool true), (.int 181 0), (.ref 150), .none, .none, .none, (.ref 151), (.int 1919 0), (.int 218 0), (.str (u "/claim/cut.py") 1920)] }
noncomputable def o153_41 : Obj := { cls := (.type "function"), data := .func (fdF 37 .none (.str (u "law_op0127_01") 1848) (.ref 152)) }
noncomputable def o154_41 : Obj := { cls := (.type "tuple"), data := .seq #[] 0 }
noncomputable def o155_41 : Obj := { cls := .none, data := .fields #[] }
noncomputable def o156_41 : Obj := { cls := .none, data := .func (fdT 38) }
noncomputable def o157_41 : Obj := { cls := (.type "code"), data := .fields #[(.str (u "_law_apart") 1922), (.str (u "_law_apart") 1923), (.str (u "/claim/cut.py") 1924), (.int 223 0), (.int 2 0), (.int 0 0), (.int 0 0), (.int 3 0), (.ref 154), (.bool true), (.int 181 0), (.ref 155), .none, .none, .none, (.ref 156), (.int 1925 0), (.int 223 0), (.str (u "/claim/cut.py") 1926)] }
noncomputable def o158_41 : Obj := { cls := (.type "function"), data := .func (fdF 38 .none (.str (u "law_op0127_01") 1848) (.ref 157)) }
noncomputable def o159_41 : Obj := { cls := (.type "tuple"), data := .seq #[] 0 }
noncomputable def o160_41 : Obj := { cls := .none, data := .fields #[] }
noncomputable def o161_41 : Obj := { cls := (.type "tuple"), data := .seq #[(.str (u "octets") 1931), (.str (u "text") 1932), (.str (u "latest") 1933), (.str (u "ways") 1934), (.str (u "former") 1935), (.str (u "way") 1936)] 0 }
noncomputable def o162_41 : Obj := { cls := (.type "tuple"), data := .seq #[] 0 }
noncomputable def o163_41 : Obj := { cls := .none, data := .func (fdT 39) }
noncomputable def o164_41 : Obj := { cls := (.type "code"), data := .fields #[(.str (u "_law_told") 1928), (.str (u "_law_told") 1929), (.str (u "/claim/cut.py") 1930), (.int 226 0), (.int 4 0), (.int 0 0), (.int 0 0), (.int 3 0), (.ref 159), (.bool true), (.int 181 0), (.ref 160), .none, (.ref 161), (.ref 162), (.ref 163), (.int 1937 0), (.int 226 0), (.str (u "/claim/cut.py") 1938)] }
noncomputable def o165_41 : Obj := { cls := (.type "function"), data := .func (fdF 39 .none (.str (u "law_op0127_01") 1848) (.ref 164)) }
noncomputable def o166_41 : Obj := { cls := (.type "tuple"), data := .seq #[] 0 }
noncomputable def o167_41 : Obj := { cls := .none, data := .fields #[] }
noncomputable def o168_41 : Obj := { cls := .none, data := .func (fdT 40) }
noncomputable def o169_41 : Obj := { cls := (.type "code"), data := .fields #[(.str (u "_law_holds") 1940), (.str (u "_law_holds") 1941), (.str (u "/claim/cut.py") 1942), (.int 237 0), (.int 2 0), (.int 0 0), (.int 0 0), (.int 3 0), (.ref 166), (.bool true), (.int 181 0), (.ref 167), .none, .none, .none, (.ref 168), (.int 1943 0), (.int 237 0), (.str (u "/claim/cut.py") 1944)] }
noncomputable def o170_41 : Obj := { cls := (.type "function"), data := .func (fdF 40 .none (.str (u "law_op0127_01") 1848) (.ref 169)) }
noncomputable def o171_41 : Obj := { cls := (.type "tuple"), data := .seq #[] 0 }
noncomputable def o172_41 : Obj := { cls := .none, data := .fields #[] }
noncomputable def o173_41 : Obj := { cls := .none, data := .func (fdT 41) }
noncomputable def o174_41 : Obj := { cls := (.type "code"), data := .fields #[(.str (u "law") 1946), (.str (u "law") 1947), (.str (u "/claim/cut.py") 1948), (.int 250 0), (.int 1 0), (.int 0 0), (.int 0 0), (.int 3 0), (.ref 171), (.bool true), (.int 181 0), (.ref 172), .none, .none, .none, (.ref 173), (.int 1949 0), (.int 250 0), (.str (u "/claim/cut.py") 1950)] }
noncomputable def o175_41 : Obj := { cls := (.type "function"), data := .func (fdF 41 .none (.str (u "law_op0127_01") 1848) (.ref 174)) }
noncomputable def L_41 (P : Params) : List Obj := [boot_o_0 P, boot_o_1 P, boot_o_2 P, o3_41 P, boot_o_4 P, boot_o_5 P, boot_o_6 P, boot_o_7 P, boot_o_8 P, boot_o_9 P, boot_o_10 P, o11_a, o12_41, o13_a, o14_a, o15_2m, o16_2, o17_2, o18_2, o19_2, o20_2, o21_10, o22_12, o23_10, o24_13, o25_11, o26_11, o27_11, o28_13, o29_13, o30_13, o31_16, o32_16, o33_16, o34_16, o35_16, o36_16, o37_16, o38_16, o39_16, o40_16, o41_16, o42_16, o43_16, o44_16, o45_16, o46_17, o47_17, o48_17, o49_17, o50_41, o51_41, o52_41, o53_41, o54_41, o55_41, o56_41, o57_41, o58_41, o59_41, o60_41, o61_41, o62_41, o63_41, o64_41, o65_41, o66_41, o67_41, o68_41, o69_41, o70_41, o71_41, o72_41, o73_41, o74_41, o75_41, o76_41, o77_41, o78_41, o79_41, o80_41, o81_41, o82_41, o83_41, o84_41, o85_41, o86_41, o87_41, o88_41, o89_41, o90_41, o91_41, o92_41, o93_41, o94_41, o95_41, o96_41, o97_41, o98_41, o99_41, o100_41, o101_41, o102_41, o103_41, o104_41, o105_41, o106_41, o107_41, o108_41, o109_41, o110_41, o111_41, o112_41, o113_41, o114_41, o115_41, o116_41, o117_41, o118_41, o119_41, o120_41, o121_41, o122_41, o123_41, o124_41, o125_41, o126_41, o127_41, o128_41, o129_41, o130_41, o131_41, o132_41, o133_41, o134_41, o135_41, o136_41, o137_41, o138_41, o139_41, o140_41, o141_41, o142_41, o143_41, o144_41, o145_41, o146_41, o147_41, o148_41, o149_41, o150_41, o151_41, o152_41, o153_41, o154_41, o155_41, o156_41, o157_41, o158_41, o159_41, o160_41, o161_41, o162_41, o163_41, o164_41, o165_41, o166_41, o167_41, o168_41, o169_41, o170_41, o171_41, o172_41, o173_41, o174_41, o175_41]
noncomputable def S_41 (w : World) (os : OsState) : SharedT := ⟨bt (L_41 w.params) 9 1 0, 176, {}, #[], boot_drawn, 1952, os⟩
end Mine
end
section
open PySem PySem.W PyProof.Rows
namespace Mine
noncomputable def sts (i n : Nat) : List Stmt := (bod.drop i).take n
noncomputable abbrev sR := Fast.tw10110043849684766642 Fast.tw14364793385576792824 pw
noncomputable abbrev sG := Fast.tw10295753902157049106 Fast.tw14364793385576792824 pw
noncomputable abbrev pcs (l : List Stmt) (p : Pos) : Thread := ⟨(Fast.tw12563942051412417395 l env0).wrap doneF deadEnd id id, cE, p, [topFrame q0]⟩
noncomputable def thOf : Option (SharedT × Thread) → Thread
  | some (_, t) => t
  | none => pcs [] q0
noncomputable abbrev wSG (w : World) : World := w.withFollow "special-get-raises" false
noncomputable abbrev wSC (w : World) : World := (wSG w).withFollow "comprehension-iter-twice" false
noncomputable def TH2 (w : World) (os : OsState) : Thread := thOf (sG (wSC w) 11 ann 1 60 (S_1 (wSC w) os) (pcs (sts 2 1) ⟨2, 0, 2, 2⟩))
noncomputable def TH11 (w : World) (os : OsState) : Thread := thOf (sG (wSG w) 11 ann 1 39 (S_10 (wSG w) os) (pcs (sts 11 1) ⟨11, 0, 11, 8⟩))
noncomputable def TH13 (w : World) (os : OsState) : Thread := thOf (sG (wSG w) 11 ann 1 5 (S_12 (wSG w) os) (pcs (sts 13 1) ⟨14, 0, 14, 28⟩))
noncomputable def TH17 (w : World) (os : OsState) : Thread := thOf (sG (wSG w) 11 ann 1 5 (S_16 (wSG w) os) (pcs (sts 17 1) ⟨21, 0, 21, 23⟩))
end Mine
end
section
open PySem PySem.W PyProof.Rows
namespace Mine
theorem s_0 (w : World) (os : OsState) : sR w 11 ann 1 19 (S_a w os) (pcs (sts 0 2) ⟨0, 0, 0, 0⟩) = some (.next, S_1 w os, cE, ⟨2, 0, 2, 2⟩) := by kernel_rfl!
theorem m2_ff (w : World) (os : OsState) : sG ((w.withFollow "special-get-raises" false).withFollow "comprehension-iter-twice" false) 11 ann 1 60 (S_1 ((w.withFollow "special-get-raises" false).withFollow "comprehension-iter-twice" false) os) (pcs (sts 2 1) ⟨2, 0, 2, 2⟩) = some (S_2m ((w.withFollow "special-get-raises" false).withFollow "comprehension-iter-twice" false) os, TH2 ((w.withFollow "special-get-raises" false).withFollow "comprehension-iter-twice" false) os) := by kernel_rfl!
theorem m2_ft (w : World) (os : OsState) : sG ((w.withFollow "special-get-raises" false).withFollow "comprehension-iter-twice" true) 11 ann 1 50 (S_1 ((w.withFollow "special-get-raises" false).withFollow "comprehension-iter-twice" true) os) (pcs (sts 2 1) ⟨2, 0, 2, 2⟩) = some (S_2m ((w.withFollow "special-get-raises" false).withFollow "comprehension-iter-twice" true) os, TH2 ((w.withFollow "special-get-raises" false).withFollow "comprehension-iter-twice" true) os) := by kernel_rfl!
theorem m2_tf (w : World) (os : OsState) : sG ((w.withFollow "special-get-raises" true).withFollow "comprehension-iter-twice" false) 11 ann 1 60 (S_1 ((w.withFollow "special-get-raises" true).withFollow "comprehension-iter-twice" false) os) (pcs (sts 2 1) ⟨2, 0, 2, 2⟩) = some (S_2m ((w.withFollow "special-get-raises" true).withFollow "comprehension-iter-twice" false) os, TH2 ((w.withFollow "special-get-raises" true).withFollow "comprehension-iter-twice" false) os) := by kernel_rfl!
theorem m2_tt (w : World) (os : OsState) : sG ((w.withFollow "special-get-raises" true).withFollow "comprehension-iter-twice" true) 11 ann 1 50 (S_1 ((w.withFollow "special-get-raises" true).withFollow "comprehension-iter-twice" true) os) (pcs (sts 2 1) ⟨2, 0, 2, 2⟩) = some (S_2m ((w.withFollow "special-get-raises" true).withFollow "comprehension-iter-twice" true) os, TH2 ((w.withFollow "special-get-raises" true).withFollow "comprehension-iter-twice" true) os) := by kernel_rfl!
theorem m11_f (w : World) (os : OsState) : sG (w.withFollow "special-get-raises" false) 11 ann 1 39 (S_10 (w.withFollow "special-get-raises" false) os) (pcs (sts 11 1) ⟨11, 0, 11, 8⟩) = some (S_11m (w.withFollow "special-get-raises" false) os, TH11 (w.withFollow "special-get-raises" false) os) := by kernel_rfl!
theorem m11_t (w : World) (os : OsState) : sG (w.withFollow "special-get-raises" true) 11 ann 1 39 (S_10 (w.withFollow "special-get-raises" true) os) (pcs (sts 11 1) ⟨11, 0, 11, 8⟩) = some (S_11m (w.withFollow "special-get-raises" true) os, TH11 (w.withFollow "special-get-raises" true) os) := by kernel_rfl!
theorem m13_f (w : World) (os : OsState) : sG (w.withFollow "special-get-raises" false) 11 ann 1 5 (S_12 (w.withFollow "special-get-raises" false) os) (pcs (sts 13 1) ⟨14, 0, 14, 28⟩) = some (S_13m (w.withFollow "special-get-raises" false) os, TH13 (w.withFollow "special-get-raises" false) os) := by kernel_rfl!
theorem m13_t (w : World) (os : OsState) : sG (w.withFollow "special-get-raises" true) 11 ann 1 5 (S_12 (w.withFollow "special-get-raises" true) os) (pcs (sts 13 1) ⟨14, 0, 14, 28⟩) = some (S_13m (w.withFollow "special-get-raises" true) os, TH13 (w.withFollow "special-get-raises" true) os) := by kernel_rfl!
theorem m17_f (w : World) (os : OsState) : sG (w.withFollow "special-get-raises" false) 11 ann 1 5 (S_16 (w.withFollow "special-get-raises" false) os) (pcs (sts 17 1) ⟨21, 0, 21, 23⟩) = some (S_17m (w.withFollow "special-get-raises" false) os, TH17 (w.withFollow "special-get-raises" false) os) := by kernel_rfl!
theorem m17_t (w : World) (os : OsState) : sG (w.withFollow "special-get-raises" true) 11 ann 1 5 (S_16 (w.withFollow "special-get-raises" true) os) (pcs (sts 17 1) ⟨21, 0, 21, 23⟩) = some (S_17m (w.withFollow "special-get-raises" true) os, TH17 (w.withFollow "special-get-raises" true) os) := by kernel_rfl!
theorem s_3 (w : World) (os : OsState) : sR w 11 ann 1 133 (S_2 w os) (pcs (sts 3 8) ⟨3, 0, 3, 11⟩) = some (.next, S_10 w os, cE, ⟨11, 0, 11, 8⟩) := by kernel_rfl!
theorem s_12 (w : World) (os : OsState) : sR w 11 ann 1 25 (S_11 w os) (pcs (sts 12 1) ⟨12, 9, 12, 74⟩) = some (.next, S_12 w os, cE, ⟨14, 0, 14, 28⟩) := by kernel_rfl!
theorem s_14 (w : World) (os : OsState) : sR w 11 ann 1 86 (S_13 w os) (pcs (sts 14 3) ⟨15, 9, 15, 110⟩) = some (.next, S_16 w os, cE, ⟨21, 0, 21, 23⟩) := by kernel_rfl!
theorem s_18 (w : World) (os : OsState) : sR w 11 ann 1 900 (S_17 w os) (pcs (sts 18 24) ⟨22, 9, 22, 16⟩) = some (.next, S_41 w os, cE, ⟨250, 0, 252, 96⟩) := by kernel_rfl!
end Mine
end
section
open PySem PySem.W PyProof.Rows
namespace Mine
theorem r_17 (w : World) (os : OsState) : sR w 11 ann 1 113 (S_17m w os) (TH17 w os) = some (.next, S_17 w os, cE, ⟨22, 9, 22, 16⟩) := by kernel_rfl!
theorem r_11 (w : World) (os : OsState) : sR w 11 ann 1 3038 (S_11m w os) (TH11 w os) = some (.next, S_11 w os, cE, ⟨12, 9, 12, 74⟩) := by kernel_rfl!
theorem r_13 (w : World) (os : OsState) : sR w 11 ann 1 4298 (S_13m w os) (TH13 w os) = some (.next, S_13 w os, cE, ⟨15, 9, 15, 110⟩) := by kernel_rfl!
theorem r_2 (w : World) (os : OsState) : sR w 11 ann 1 9492 (S_2m w os) (TH2 w os) = some (.next, S_2 w os, cE, ⟨3, 0, 3, 11⟩) := by kernel_rfl!
end Mine
end
section
open PySem PySem.W PyProof.Rows
namespace Mine
noncomputable abbrev tT := treeTable
theorem sR_of {w : World} {n : Nat} {s s' : SharedT} {l : List Stmt} {p p' : Pos} (h : sR w 11 ann 1 n s (pcs l p) = some (.next, s', cE, p')) : segRun treeTable pw w 11 ann 1 n s.abs (piecesOf l env0 cE p [topFrame q0]) = some (.next, s'.abs, cE, p') := by
  refine segRun_of ?_
  rw [Fast.te10110043849684766642, Fast.te14364793385576792824]
  unfold piecesOf
  rw [Fast.te12563942051412417395]
  exact h
theorem sGR_of {w : World} {n m : Nat} {s s' s₂ : SharedT} {t : Thread} {l : List Stmt} {p p' : Pos} (h : sG w 11 ann 1 n s (pcs l p) = some (s₂, t)) (k : sR w 11 ann 1 m s₂ t = some (.next, s', cE, p')) : segRun treeTable pw w 11 ann 1 (n + m) s.abs (piecesOf l env0 cE p [topFrame q0]) = some (.next, s'.abs, cE, p') := by
  have h' : segGo treeTable pw w 11 ann 1 n s.abs (piecesOf l env0 cE p [topFrame q0]) = some (s₂.abs, t) := by
    refine segGo_of ?_
    rw [Fast.te10295753902157049106, Fast.te14364793385576792824]
    unfold piecesOf
    rw [Fast.te12563942051412417395]
    exact h
  have k' : segRun treeTable pw w 11 ann 1 m s₂.abs t = some (.next, s'.abs, cE, p') := by
    refine segRun_of ?_
    rw [Fast.te10110043849684766642, Fast.te14364793385576792824]
    exact k
  exact seg_go h' k'
theorem hg11 (w : World) (os : OsState) : segRun treeTable pw w 11 ann 1 (39 + 3038) (S_10 w os).abs (piecesOf (sts 11 1) env0 cE ⟨11, 0, 11, 8⟩ [topFrame q0]) = some (.next, (S_11 w os).abs, cE, ⟨12, 9, 12, 74⟩) :=
  byRow2 "special-get-raises" (P := fun w => segRun treeTable pw w 11 ann 1 (39 + 3038) (S_10 w os).abs (piecesOf (sts 11 1) env0 cE ⟨11, 0, 11, 8⟩ [topFrame q0]) = some (.next, (S_11 w os).abs, cE, ⟨12, 9, 12, 74⟩)) (fun w => sGR_of (m11_f w os) (r_11 _ os)) (fun w => sGR_of (m11_t w os) (r_11 _ os)) w
theorem hg13 (w : World) (os : OsState) : segRun treeTable pw w 11 ann 1 (5 + 4298) (S_12 w os).abs (piecesOf (sts 13 1) env0 cE ⟨14, 0, 14, 28⟩ [topFrame q0]) = some (.next, (S_13 w os).abs, cE, ⟨15, 9, 15, 110⟩) :=
  byRow2 "special-get-raises" (P := fun w => segRun treeTable pw w 11 ann 1 (5 + 4298) (S_12 w os).abs (piecesOf (sts 13 1) env0 cE ⟨14, 0, 14, 28⟩ [topFrame q0]) = some (.next, (S_13 w os).abs, cE, ⟨15, 9, 15, 110⟩)) (fun w => sGR_of (m13_f w os) (r_13 _ os)) (fun w => sGR_of (m13_t w os) (r_13 _ os)) w
theorem hg17 (w : World) (os : OsState) : segRun treeTable pw w 11 ann 1 (5 + 113) (S_16 w os).abs (piecesOf (sts 17 1) env0 cE ⟨21, 0, 21, 23⟩ [topFrame q0]) = some (.next, (S_17 w os).abs, cE, ⟨22, 9, 22, 16⟩) :=
  byRow2 "special-get-raises" (P := fun w => segRun treeTable pw w 11 ann 1 (5 + 113) (S_16 w os).abs (piecesOf (sts 17 1) env0 cE ⟨21, 0, 21, 23⟩ [topFrame q0]) = some (.next, (S_17 w os).abs, cE, ⟨22, 9, 22, 16⟩)) (fun w => sGR_of (m17_f w os) (r_17 _ os)) (fun w => sGR_of (m17_t w os) (r_17 _ os)) w
theorem segRun_mono {tb : String → Option Builtin} {p : Program} {w : World} {n₀ : Nat} {ann : Option Value} {b : Nat} (k : Nat) : ∀ (n : Nat) (s : Shared) (t : Thread) (r : Flow × Shared × Code × Pos), segRun tb p w n₀ ann b n s t = some r → segRun tb p w n₀ ann b (n + k) s t = some r
  | 0, s, t, r, h => by simp [segRun] at h
  | n + 1, s, t, r, h => by
    rw [show n + 1 + k = n + k + 1 by omega]
    unfold segRun at h ⊢
    cases ht : endAt b t with
    | some f => rw [ht] at h; exact h
    | none =>
      rw [ht] at h
      cases hk : stepOk n₀ ann t with
      | false => rw [hk] at h; cases h
      | true =>
        rw [hk] at h
        cases hs : step (denote tb) p w s t with
        | halt o s' => rw [hs] at h; cases h
        | go s' t' => rw [hs] at h; exact segRun_mono k n s' t' r h
noncomputable def P2 (os : OsState) (w : World) : Prop := segRun treeTable pw w 11 ann 1 9552 (S_1 w os).abs (piecesOf (sts 2 1) env0 cE ⟨2, 0, 2, 2⟩ [topFrame q0]) = some (.next, (S_2 w os).abs, cE, ⟨3, 0, 3, 11⟩)
theorem P2_60 {w : World} {os : OsState} {t : Thread} (h : sG w 11 ann 1 60 (S_1 w os) (pcs (sts 2 1) ⟨2, 0, 2, 2⟩) = some (S_2m w os, t)) (k : sR w 11 ann 1 9492 (S_2m w os) t = some (.next, S_2 w os, cE, ⟨3, 0, 3, 11⟩)) : P2 os w := by
  have r := sGR_of h k
  rw [show 60 + 9492 = 9552 from rfl] at r
  exact r
theorem P2_50 {w : World} {os : OsState} {t : Thread} (h : sG w 11 ann 1 50 (S_1 w os) (pcs (sts 2 1) ⟨2, 0, 2, 2⟩) = some (S_2m w os, t)) (k : sR w 11 ann 1 9492 (S_2m w os) t = some (.next, S_2 w os, cE, ⟨3, 0, 3, 11⟩)) : P2 os w := by
  have r := segRun_mono 10 _ _ _ _ (sGR_of h k)
  rw [show 50 + 9492 + 10 = 9552 from rfl] at r
  exact r
theorem hg2 (w : World) (os : OsState) : P2 os w := by
  refine byRow2 "comprehension-iter-twice" (P := P2 os) (fun v => ?_) (fun v => ?_) w
  · refine byRow2 "special-get-raises" (P := fun v => P2 os (v.withFollow "comprehension-iter-twice" false)) (fun v => ?_) (fun v => ?_) v
    · exact P2_60 (m2_ff v os) (r_2 _ os)
    · exact P2_60 (m2_tf v os) (r_2 _ os)
  · refine byRow2 "special-get-raises" (P := fun v => P2 os (v.withFollow "comprehension-iter-twice" true)) (fun v => ?_) (fun v => ?_) v
    · exact P2_50 (m2_ft v os) (r_2 _ os)
    · exact P2_50 (m2_tt v os) (r_2 _ os)
theorem bod_eq : bod = sts 0 2 ++ (sts 2 1 ++ (sts 3 8 ++ (sts 11 1 ++ (sts 12 1 ++ (sts 13 1 ++ (sts 14 3 ++ (sts 17 1 ++ (sts 18 24 ++ [])))))))) := by kernel_rfl!
noncomputable def Sh (w : World) (os : OsState) : Shared := ⟨boot_heap w.params, Array.mk [], boot_drawn, boot_toks, os⟩
theorem t_pre (w : World) (os : OsState) : topGo treeTable pw w 11 ann 12 (Sh w os) (topStub pw) = some ((S_a w os).abs, ⟨denote treeTable cE, cE, q0, [topFrame q0]⟩) := by
  rw [Fast.te15667345088766844465, Fast.te11892475500146522536]
  kernel_rfl!
theorem t_block (w : World) (os : OsState) : segRun treeTable pw w 11 ann 1 1 (S_a w os).abs (blockOf bod env0 cE q0 [topFrame q0]) = some (.next, (S_a w os).abs, cE, q0) := by
  kernel_rfl!
theorem t_end (w : World) (os : OsState) : topRun treeTable pw w 11 ann 3 (S_41 w os).abs ⟨doneF .next, cE, ⟨250, 0, 252, 96⟩, [topFrame q0]⟩ = some (S_41 w os).abs := by
  kernel_rfl!
theorem t_run (w : World) (os : OsState) : topRun treeTable pw w 11 ann (12 + (1 + (19 + (9552 + (133 + (39 + 3038 + (25 + (5 + 4298 + (86 + (5 + 113 + (900 + 3))))))))))) (Sh w os) (topStub pw) = some (S_41 w os).abs := by
  refine go_top (t_pre w os) (piece_block (t_block w os) ?_)
  rw [bod_eq]
  refine piece_app (sR_of (s_0 w os)) (piece_app (hg2 w os) (piece_app (sR_of (s_3 w os)) (piece_app (hg11 w os) (piece_app (sR_of (s_12 w os)) (piece_app (hg13 w os) (piece_app (sR_of (s_14 w os)) (piece_app (hg17 w os) (piece_app (sR_of (s_18 w os)) (piece_nil (t_end w os))))))))))
end Mine
end
section
open PySem PySem.W PyProof.Rows
namespace Mine
noncomputable def qv : Program := { pw with main := { pw.main with body := bod.drop 41 } }
noncomputable def boundS : List Str := (["CRLF", "NL", "_QUOPRI_MAP", "_QUOPRI_HEADER_MAP", "_QUOPRI_BODY_MAP", "ascii_lowercase", "ascii_uppercase", "ascii_letters", "digits", "hexdigits", "c", "unquote", "quote", "_QUOPRI_BODY_ENCODE_MAP", "body_encode", "decode", "heappush", "heappop", "_siftdown", "_siftup", "sorted_list_difference", "_law_numbers", "_law_octet", "_law_sign", "_law_breaks", "_law_fits", "_law_noted", "_law_moved", "_law_fewest", "_law_spelled", "_law_apart", "_law_told", "_law_holds"] : List String).map Str.ofString
noncomputable def H1 (P : Params) : Heap := absHeap (bt (L_41 P) 9 1 0) 176 {}
theorem size_eq (w : World) : ((boot_heap w.params).isNs mainGlobals && (Array.mk [] : Array GenState).size == 0, (boot_heap w.params).objs.size, (boot_heap w.params).nsMap mainGlobals "__annotations__") = (true, 11, ann) := by kernel_rfl!
theorem fence_eq : ∀ s, fenceModules? pw s = some s := fun s => by kernel_rfl!
theorem boot_eq (w : World) : (importEnds treeTable (opening pw) w 600 (start (opening pw)).1 (start (opening pw)).2).map (fun s => (s.heap, s.gens, s.drawn, s.toks)) = some (boot_heap w.params, Array.mk [], boot_drawn, boot_toks) := by kernel_rfl!
end Mine
end
section
open PySem PySem.W PyProof.Rows
namespace Mine
theorem boot_open' : ∀ w : World, (fencedOpening treeTable pw w 40000).map (fun s => (s.heap, s.gens, s.drawn, s.toks)) = some (boot_heap w.params, Array.mk [], boot_drawn, boot_toks) := fun w => by
  obtain ⟨s, hs, hv⟩ := Option.map_eq_some_iff.mp (boot_eq w)
  have m := importEnds_mono (40000 - 600) _ _ _ _ hs
  rw [show 600 + (40000 - 600) = 40000 from rfl] at m
  unfold fencedOpening
  rw [m]
  show ((fenceModules? pw s)).map _ = _
  rw [fence_eq s]
  exact congrArg some hv
noncomputable def Sf (w : World) (os : OsState) : Shared := ⟨H1 w.params, #[], boot_drawn, 1952, os⟩
theorem look1 (w : World) (os : OsState) : (staticsOk (importedModules pw.main.body) (boot_heap w.params) (H1 w.params) && namesBound pw (H1 w.params) && gensDone (Sf w os) && laidKept (boot_heap w.params) (H1 w.params)) = true := by kernel_rfl!
end Mine
end
section
open PySem PySem.W PyProof.Rows
namespace Mine
theorem look2 (w : World) (os : OsState) : openSeen qv boundS (importedModules pw.main.body) (fun _ => true) true (Sf w os) = openGood qv boundS := by
  rw [Fast.te4187177175401517315]
  kernel_rfl!
end Mine
end
section
open PySem PySem.W PyProof.Rows
namespace Mine
theorem left_ok : LeftO pw qv boundS (fun _ => true) (fun s : Shared => s.heap) (fun w => H1 w.params) 40000 true := by
  refine LeftO.of_pieces (H₀ := boot_heap) (H₁ := H1) (gs₀ := Array.mk []) (gs₁ := #[]) (d₀ := boot_drawn) (d₁ := boot_drawn) (k₀ := boot_toks) (k₁ := 1952) (m₀ := 11) (ann := ann) (M := 12 + (1 + (19 + (9552 + (133 + (39 + 3038 + (25 + (5 + 4298 + (86 + (5 + 113 + (900 + 3))))))))))) boot_open' size_eq (fun w os => t_run w os) (by decide) (fun w => funext fun os => ?_)
  exact Prod.ext (look1 w os) (Prod.ext (look2 w os) rfl)
end Mine
end
section
namespace Mine
noncomputable def mgF (P : Params) : Str → Option Value := (H1 P).nsMap mainGlobals
noncomputable def mbF (P : Params) : Str → Option Value := (H1 P).nsMap builtinsNs
theorem isg (P : Params) : (H1 P).isNs mainGlobals = true := by kernel_rfl!
theorem isb (P : Params) : (H1 P).isNs builtinsNs = true := by kernel_rfl!
theorem iss (P : Params) : (H1 P).isNs cStatics = true := by kernel_rfl!
theorem nolim (P : Params) : (H1 P).nsMap cStatics "sys.recursionlimit" = none := by kernel_rfl!
theorem nol (P : Params) : (H1 P).NoLimit := ⟨_, .of_isNs (iss P), nolim P⟩
theorem h1_at (P : Params) : ∀ i, i < 176 → ∃ o, (H1 P).get? i = some o := by
  have h : ∀ i, i < 176 → ((H1 P).get? i).isSome = true := by
    have : (List.range 176).all (fun i => ((H1 P).get? i).isSome) = true := by kernel_rfl!
    intro i hi
    exact List.all_eq_true.mp this i (List.mem_range.mpr hi)
  exact fun i hi => Option.isSome_iff_exists.mp (h i hi)
theorem h1_hi (P : Params) (L : Addr) (h : (H1 P).get? L = none) : 176 ≤ L := by
  rcases Nat.lt_or_ge L 176 with q | q
  · obtain ⟨o, e⟩ := h1_at P L q
    rw [h] at e; cases e
  · exact q
noncomputable def fa : Nat → Addr
  | 0 => 37 | 1 => 57 | 2 => 65 | 3 => 72 | 4 => 79 | 5 => 86 | 6 => 93 | 7 => 100 | 8 => 105 | 9 => 112 | 10 => 119 | 11 => 124 | 12 => 131 | 13 => 138 | 14 => 143 | 15 => 148 | 16 => 153 | 17 => 158 | 18 => 165 | 19 => 170 | _ => 44
noncomputable def fnL : List Obj := [o37_16, o57_41, o65_41, o72_41, o79_41, o86_41, o93_41, o100_41, o105_41, o112_41, o119_41, o124_41, o131_41, o138_41, o143_41, o148_41, o153_41, o158_41, o165_41, o170_41, o44_16]
noncomputable def fdO (o : Obj) : FuncData := match o.data with
  | .func fd => fd
  | _ => default
theorem fnL_fd : fnL.map Obj.data = fnL.map fun o => .func (fdO o) := by kernel_rfl!
theorem fns_all (P : Params) : (fnames.zipIdx.map fun x => (mgF P x.1, (H1 P).get? (fa x.2))) = fnames.zipIdx.map fun x => (some (.ref (fa x.2)), fnL[x.2]?) := by kernel_rfl!
theorem zip_mem {l : List Str} {k : Nat} {x : Str} (h : fi x l = some k) : (x, k) ∈ l.zipIdx := List.mem_of_getElem? (i := k) (by rw [List.getElem?_zipIdx, fi_get h, Nat.zero_add]; rfl)
theorem fnL_at {k : Nat} (h : k < 21) : ∃ o fd, fnL[k]? = some o ∧ o.data = .func fd := by
  have hk : k < fnL.length := h
  exact ⟨fnL[k], fdO fnL[k], List.getElem?_eq_getElem hk, List.map_inj_left.mp fnL_fd _ (List.getElem_mem hk)⟩
theorem fns_at (P : Params) (k : Nat) (x : Str) (h : fi x fnames = some k) : ∃ o fd, mgF P x = some (.ref (fa k)) ∧ (H1 P).get? (fa k) = some o ∧ o.data = .func fd := by
  have e := List.map_inj_left.mp (fns_all P) _ (zip_mem h)
  obtain ⟨o, fd, a, b⟩ := fnL_at (k := k) (List.getElem?_eq_some_iff.mp (fi_get h)).1
  exact ⟨o, fd, (Prod.mk.inj e).1, (Prod.mk.inj e).2.trans a, b⟩
theorem mfns_all (P : Params) : (mnames.zipIdx.map fun x => (mgF P x.1, (H1 P).get? (fa (x.2 + 3)))) = mnames.zipIdx.map fun x => (some (.ref (fa (x.2 + 3))), fnL[x.2 + 3]?) := by kernel_rfl!
theorem mfns_at (P : Params) (k : Nat) (x : Str) (h : fi x mnames = some k) : ∃ o fd, mgF P x = some (.ref (fa (k + 3))) ∧ (H1 P).get? (fa (k + 3)) = some o ∧ o.data = .func fd := by
  have e := List.map_inj_left.mp (mfns_all P) _ (zip_mem h)
  have hk : k < 4 := (List.getElem?_eq_some_iff.mp (fi_get h)).1
  obtain ⟨o, fd, a, b⟩ := fnL_at (k := k + 3) (by omega)
  exact ⟨o, fd, (Prod.mk.inj e).1, (Prod.mk.inj e).2.trans a, b⟩
theorem bi_all (P : Params) : (bnames.map fun x => (mgF P x.1, mbF P x.1)) = bnames.map fun x => (none, some (.builtin (bid x.2))) := by kernel_rfl!
theorem bi_at (P : Params) (x : Str) (f : B1) (h : bnames.lookup x = some f) : mgF P x = none ∧ mbF P x = some (.builtin (bid f)) := Prod.mk.inj (List.map_inj_left.mp (bi_all P) (x, f) (lookup_mem h))
theorem ty_all (P : Params) : ((["int", "range", "zip", "IndexError"] : List String).map fun x => (mgF P (Str.ofString x), mbF P (Str.ofString x))) = (["int", "range", "zip", "IndexError"] : List String).map fun x => (none, some (.type x)) := by kernel_rfl!
theorem ty_at (P : Params) (x : String) (h : x ∈ (["int", "range", "zip", "IndexError"] : List String)) : mgF P (Str.ofString x) = none ∧ mbF P (Str.ofString x) = some (.type x) := Prod.mk.inj (List.map_inj_left.mp (ty_all P) x h)
noncomputable def tok1 : Value → Tok
  | .str _ t => t
  | _ => 0
noncomputable def q46 : Array Value := match o46_17.data with
  | .seq vs _ => vs
  | _ => #[]
theorem q_at (P : Params) : (H1 P).get? 46 = some { cls := .type "list", data := .seq q46 0 } := by kernel_rfl!
theorem q_vals : q46.toList = List.zipWith (fun c t => Value.str ⟨(qmap c).toArray⟩ t) (List.range 256) (q46.toList.map tok1) := by kernel_rfl!
theorem reps_zip {h : Heap} : ∀ (cs : List Nat) (ts : List Tok), cs.length = ts.length → Reps ad0 h (cs.map fun c => tD (qmap c)) (List.zipWith (fun c t => Value.str ⟨(qmap c).toArray⟩ t) cs ts)
  | [], _, _ => Reps.nil
  | c :: cs, [], e => nomatch e
  | c :: cs, t :: ts, e => Reps.cons rep_str (reps_zip cs ts (Nat.succ.inj e))
theorem gv0 (P : Params) : (["hexdigits", "CRLF", "_QUOPRI_BODY_ENCODE_MAP"] : List String).map (fun x => mgF P (Str.ofString x)) = [some (.str ⟨hexs.toArray⟩ (((mgF P "hexdigits").map tok1).getD 0)), some (.str ⟨#[13, 10]⟩ (((mgF P "CRLF").map tok1).getD 0)), some (.ref 46)] := by kernel_rfl!
theorem gv_at (P : Params) (i : Nat) (x : Str) (d : D) (h : fi x gnames = some i) (hd : Gv[i]? = some d) : ∃ v, mgF P x = some v ∧ Rep ad0 (H1 P) d v := by
  have q := gv0 P
  injection q with q0 q
  injection q with q1 q
  injection q with q2 q
  have hx := fi_get h
  match i, hx, hd with
  | 0, hx, hd => cases hx; cases hd; exact ⟨_, q0, rep_str⟩
  | 1, hx, hd => cases hx; cases hd; exact ⟨_, q1, rep_str⟩
  | 2, hx, hd =>
    cases hx; cases hd
    refine ⟨_, q2, ?_⟩
    simp only [qRep0, qRep1, qRep2, qRep3, qRep4, qRep5, qRep6, qRep7]
    exact ⟨46, q46.toList, rfl, List.not_mem_nil, ⟨0, q_at P⟩, q_vals ▸ reps_zip (List.range 256) (q46.toList.map tok1) (by decide +kernel)⟩
theorem glo (P : Params) : Glo (H1 P) where
  hi := h1_hi P
  g := .of_isNs (isg P)
  b := .of_isNs (isb P)
  gv := gv_at P
  bi := bi_at P
  int := ty_at P "int" (by decide)
  rng := ty_at P "range" (by decide)
  zip := ty_at P "zip" (by decide)
  ixe := ty_at P "IndexError" (by decide)
end Mine
end
section
namespace Mine
noncomputable def bdT (i : Nat) : List Stmt := match (fdT i).body with
  | .stmts b => b
  | _ => []
theorem len1 {α : Type} {P : List α → Prop} {l : List α} (k : ∀ a, P [a]) (h : l.length = 1) : P l := by
  obtain ⟨a, rfl⟩ := List.length_eq_one_iff.mp h
  exact k a
theorem lenS {α : Type} {P : List α → Prop} {l : List α} {n : Nat} (k : ∀ a r, r.length = n → P (a :: r)) (h : l.length = n + 1) : P l := by
  cases l with
  | nil => cases h
  | cons a r => exact k a r (Nat.succ.inj h)
theorem len2 {α : Type} {P : List α → Prop} {l : List α} (k : ∀ a b, P [a, b]) (h : l.length = 2) : P l := lenS (fun a r h => len1 (P := fun r => P (a :: r)) (k a) h) h
theorem len3 {α : Type} {P : List α → Prop} {l : List α} (k : ∀ a b c, P [a, b, c]) (h : l.length = 3) : P l := lenS (fun a r h => len2 (P := fun r => P (a :: r)) (k a) h) h
theorem len4 {α : Type} {P : List α → Prop} {l : List α} (k : ∀ a b c d, P [a, b, c, d]) (h : l.length = 4) : P l := lenS (fun a r h => len3 (P := fun r => P (a :: r)) (k a) h) h
theorem at_37 (P : Params) : (H1 P).get? 37 = some o37_16 := by kernel_rfl!
theorem at_36 (P : Params) : (H1 P).get? 36 = some o36_16 := by kernel_rfl!
theorem is_unquote (P : Params) : FnIs (H1 P) f_unquote 37 := ⟨⟨o37_16, fdF 14 .none _ _, _, bdT 14, ["s"], ["s"], [], [], 100, at_37 P, rfl, ⟨⟨36, o36_16, _, _, rfl, at_36 P, rfl, rfl⟩, rfl, rfl, rfl, rfl, rfl, (fun s vals _ hl => len1 (P := fun vals => BindsTo s (fdF 14 .none _ _) ⟨vals, []⟩ (List.zip ["s"] (vals ++ []))) (fun v0 => BindsTo.of_eq (by kernel_rfl!)) hl)⟩, by kernel_rfl!, by kernel_rfl!, rfl, rfl, Reps.nil⟩⟩
theorem at_50 (P : Params) : (H1 P).get? 50 = some o50_41 := by kernel_rfl!
theorem at_57 (P : Params) : (H1 P).get? 57 = some o57_41 := by kernel_rfl!
theorem at_56 (P : Params) : (H1 P).get? 56 = some o56_41 := by kernel_rfl!
theorem is_encode (P : Params) : FnIs (H1 P) f_encode 57 := ⟨⟨o57_41, fdF 19 (.ref 50) _ _, _, bdT 19, ["body", "maxlinelen", "eol"], ["body", "maxlinelen", "eol", "soft_break", "maxlinelen1", "encoded_body", "append", "line", "start", "laststart", "stop", "room", "q"], ["encoded_body"], [.str ⟨#[10]⟩ 189], 100, at_57 P, rfl, ⟨⟨56, o56_41, _, _, rfl, at_56 P, rfl, rfl⟩, rfl, rfl, rfl, rfl, rfl, (fun s vals hk hl => len2 (P := fun vals => BindsTo s (fdF 19 (.ref 50) _ _) ⟨vals, []⟩ (List.zip ["body", "maxlinelen", "eol"] (vals ++ [.str ⟨#[10]⟩ 189]))) (fun v0 v1 => BindsTo.of_defaults rfl (hk.at (at_50 P) (fun _ _ z => nomatch z)) rfl rfl rfl) (Nat.succ.inj hl))⟩, by kernel_rfl!, by kernel_rfl!, rfl, rfl, Reps.cons rep_str Reps.nil⟩⟩
theorem at_58 (P : Params) : (H1 P).get? 58 = some o58_41 := by kernel_rfl!
theorem at_65 (P : Params) : (H1 P).get? 65 = some o65_41 := by kernel_rfl!
theorem at_64 (P : Params) : (H1 P).get? 64 = some o64_41 := by kernel_rfl!
theorem is_decode (P : Params) : FnIs (H1 P) f_decode 65 := ⟨⟨o65_41, fdF 20 (.ref 58) _ _, _, bdT 20, ["encoded", "eol"], ["encoded", "eol", "decoded", "line", "i", "n", "c"], [], [.str ⟨#[10]⟩ 189], 100, at_65 P, rfl, ⟨⟨64, o64_41, _, _, rfl, at_64 P, rfl, rfl⟩, rfl, rfl, rfl, rfl, rfl, (fun s vals hk hl => len1 (P := fun vals => BindsTo s (fdF 20 (.ref 58) _ _) ⟨vals, []⟩ (List.zip ["encoded", "eol"] (vals ++ [.str ⟨#[10]⟩ 189]))) (fun v0 => BindsTo.of_defaults rfl (hk.at (at_58 P) (fun _ _ z => nomatch z)) rfl rfl rfl) (Nat.succ.inj hl))⟩, by kernel_rfl!, by kernel_rfl!, rfl, rfl, Reps.cons rep_str Reps.nil⟩⟩
theorem at_105 (P : Params) : (H1 P).get? 105 = some o105_41 := by kernel_rfl!
theorem at_104 (P : Params) : (H1 P).get? 104 = some o104_41 := by kernel_rfl!
theorem is_numbers (P : Params) : FnIs (H1 P) f_numbers 105 := ⟨⟨o105_41, fdF 29 .none _ _, _, bdT 29, ["script"], ["script", "starts"], [], [], 100, at_105 P, rfl, ⟨⟨104, o104_41, _, _, rfl, at_104 P, rfl, rfl⟩, rfl, rfl, rfl, rfl, rfl, (fun s vals _ hl => len1 (P := fun vals => BindsTo s (fdF 29 .none _ _) ⟨vals, []⟩ (List.zip ["script"] (vals ++ []))) (fun v0 => BindsTo.of_eq (by kernel_rfl!)) hl)⟩, by kernel_rfl!, by kernel_rfl!, rfl, rfl, Reps.nil⟩⟩
theorem at_112 (P : Params) : (H1 P).get? 112 = some o112_41 := by kernel_rfl!
theorem at_111 (P : Params) : (H1 P).get? 111 = some o111_41 := by kernel_rfl!
theorem is_octet (P : Params) : FnIs (H1 P) f_octet 112 := ⟨⟨o112_41, fdF 30 .none _ _, _, bdT 30, ["number"], ["number", "part"], [], [], 100, at_112 P, rfl, ⟨⟨111, o111_41, _, _, rfl, at_111 P, rfl, rfl⟩, rfl, rfl, rfl, rfl, rfl, (fun s vals _ hl => len1 (P := fun vals => BindsTo s (fdF 30 .none _ _) ⟨vals, []⟩ (List.zip ["number"] (vals ++ []))) (fun v0 => BindsTo.of_eq (by kernel_rfl!)) hl)⟩, by kernel_rfl!, by kernel_rfl!, rfl, rfl, Reps.nil⟩⟩
theorem at_119 (P : Params) : (H1 P).get? 119 = some o119_41 := by kernel_rfl!
theorem at_118 (P : Params) : (H1 P).get? 118 = some o118_41 := by kernel_rfl!
theorem is_sign (P : Params) : FnIs (H1 P) f_sign 119 := ⟨⟨o119_41, fdF 31 .none _ _, _, bdT 31, ["octet"], ["octet", "figures"], [], [], 100, at_119 P, rfl, ⟨⟨118, o118_41, _, _, rfl, at_118 P, rfl, rfl⟩, rfl, rfl, rfl, rfl, rfl, (fun s vals _ hl => len1 (P := fun vals => BindsTo s (fdF 31 .none _ _) ⟨vals, []⟩ (List.zip ["octet"] (vals ++ []))) (fun v0 => BindsTo.of_eq (by kernel_rfl!)) hl)⟩, by kernel_rfl!, by kernel_rfl!, rfl, rfl, Reps.nil⟩⟩
theorem at_124 (P : Params) : (H1 P).get? 124 = some o124_41 := by kernel_rfl!
theorem at_123 (P : Params) : (H1 P).get? 123 = some o123_41 := by kernel_rfl!
theorem is_breaks (P : Params) : FnIs (H1 P) f_breaks 124 := ⟨⟨o124_41, fdF 32 .none _ _, _, bdT 32, ["body"], ["body", "sizes"], [], [], 100, at_124 P, rfl, ⟨⟨123, o123_41, _, _, rfl, at_123 P, rfl, rfl⟩, rfl, rfl, rfl, rfl, rfl, (fun s vals _ hl => len1 (P := fun vals => BindsTo s (fdF 32 .none _ _) ⟨vals, []⟩ (List.zip ["body"] (vals ++ []))) (fun v0 => BindsTo.of_eq (by kernel_rfl!)) hl)⟩, by kernel_rfl!, by kernel_rfl!, rfl, rfl, Reps.nil⟩⟩
theorem at_131 (P : Params) : (H1 P).get? 131 = some o131_41 := by kernel_rfl!
theorem at_130 (P : Params) : (H1 P).get? 130 = some o130_41 := by kernel_rfl!
theorem is_fits (P : Params) : FnIs (H1 P) f_fits 131 := ⟨⟨o131_41, fdF 33 .none _ _, _, bdT 33, ["widths", "width", "breaks"], ["widths", "width", "breaks", "start", "end", "room"], [], [], 100, at_131 P, rfl, ⟨⟨130, o130_41, _, _, rfl, at_130 P, rfl, rfl⟩, rfl, rfl, rfl, rfl, rfl, (fun s vals _ hl => len3 (P := fun vals => BindsTo s (fdF 33 .none _ _) ⟨vals, []⟩ (List.zip ["widths", "width", "breaks"] (vals ++ []))) (fun v0 v1 v2 => BindsTo.of_eq (by kernel_rfl!)) hl)⟩, by kernel_rfl!, by kernel_rfl!, rfl, rfl, Reps.nil⟩⟩
theorem at_138 (P : Params) : (H1 P).get? 138 = some o138_41 := by kernel_rfl!
theorem at_137 (P : Params) : (H1 P).get? 137 = some o137_41 := by kernel_rfl!
theorem is_noted (P : Params) : FnIs (H1 P) f_noted 138 := ⟨⟨o138_41, fdF 34 .none _ _, _, bdT 34, ["widths", "width", "latest"], ["widths", "width", "latest", "heap", "noted", "earlier", "which", "further"], ["heap", "noted"], [], 100, at_138 P, rfl, ⟨⟨137, o137_41, _, _, rfl, at_137 P, rfl, rfl⟩, rfl, rfl, rfl, rfl, rfl, (fun s vals _ hl => len3 (P := fun vals => BindsTo s (fdF 34 .none _ _) ⟨vals, []⟩ (List.zip ["widths", "width", "latest"] (vals ++ []))) (fun v0 v1 v2 => BindsTo.of_eq (by kernel_rfl!)) hl)⟩, by kernel_rfl!, by kernel_rfl!, rfl, rfl, Reps.nil⟩⟩
theorem at_143 (P : Params) : (H1 P).get? 143 = some o143_41 := by kernel_rfl!
theorem at_142 (P : Params) : (H1 P).get? 142 = some o142_41 := by kernel_rfl!
theorem is_moved (P : Params) : FnIs (H1 P) f_moved 143 := ⟨⟨o143_41, fdF 35 .none _ _, _, bdT 35, ["latest", "earlier"], ["latest", "earlier"], [], [], 100, at_143 P, rfl, ⟨⟨142, o142_41, _, _, rfl, at_142 P, rfl, rfl⟩, rfl, rfl, rfl, rfl, rfl, (fun s vals _ hl => len2 (P := fun vals => BindsTo s (fdF 35 .none _ _) ⟨vals, []⟩ (List.zip ["latest", "earlier"] (vals ++ []))) (fun v0 v1 => BindsTo.of_eq (by kernel_rfl!)) hl)⟩, by kernel_rfl!, by kernel_rfl!, rfl, rfl, Reps.nil⟩⟩
theorem at_148 (P : Params) : (H1 P).get? 148 = some o148_41 := by kernel_rfl!
theorem at_147 (P : Params) : (H1 P).get? 147 = some o147_41 := by kernel_rfl!
theorem is_fewest (P : Params) : FnIs (H1 P) f_fewest 148 := ⟨⟨o148_41, fdF 36 .none _ _, _, bdT 36, ["widths", "width"], ["widths", "width", "size", "place", "ways", "ends", "least"], ["ways"], [], 100, at_148 P, rfl, ⟨⟨147, o147_41, _, _, rfl, at_147 P, rfl, rfl⟩, rfl, rfl, rfl, rfl, rfl, (fun s vals _ hl => len2 (P := fun vals => BindsTo s (fdF 36 .none _ _) ⟨vals, []⟩ (List.zip ["widths", "width"] (vals ++ []))) (fun v0 v1 => BindsTo.of_eq (by kernel_rfl!)) hl)⟩, by kernel_rfl!, by kernel_rfl!, rfl, rfl, Reps.nil⟩⟩
theorem at_153 (P : Params) : (H1 P).get? 153 = some o153_41 := by kernel_rfl!
theorem at_152 (P : Params) : (H1 P).get? 152 = some o152_41 := by kernel_rfl!
theorem is_spelled (P : Params) : FnIs (H1 P) f_spelled 153 := ⟨⟨o153_41, fdF 37 .none _ _, _, bdT 37, ["octets", "breaks"], ["octets", "breaks", "lines", "start", "end"], ["lines"], [], 100, at_153 P, rfl, ⟨⟨152, o152_41, _, _, rfl, at_152 P, rfl, rfl⟩, rfl, rfl, rfl, rfl, rfl, (fun s vals _ hl => len2 (P := fun vals => BindsTo s (fdF 37 .none _ _) ⟨vals, []⟩ (List.zip ["octets", "breaks"] (vals ++ []))) (fun v0 v1 => BindsTo.of_eq (by kernel_rfl!)) hl)⟩, by kernel_rfl!, by kernel_rfl!, rfl, rfl, Reps.nil⟩⟩
theorem at_158 (P : Params) : (H1 P).get? 158 = some o158_41 := by kernel_rfl!
theorem at_157 (P : Params) : (H1 P).get? 157 = some o157_41 := by kernel_rfl!
theorem is_apart (P : Params) : FnIs (H1 P) f_apart 158 := ⟨⟨o158_41, fdF 38 .none _ _, _, bdT 38, ["one", "other"], ["one", "other", "places"], [], [], 100, at_158 P, rfl, ⟨⟨157, o157_41, _, _, rfl, at_157 P, rfl, rfl⟩, rfl, rfl, rfl, rfl, rfl, (fun s vals _ hl => len2 (P := fun vals => BindsTo s (fdF 38 .none _ _) ⟨vals, []⟩ (List.zip ["one", "other"] (vals ++ []))) (fun v0 v1 => BindsTo.of_eq (by kernel_rfl!)) hl)⟩, by kernel_rfl!, by kernel_rfl!, rfl, rfl, Reps.nil⟩⟩
theorem at_165 (P : Params) : (H1 P).get? 165 = some o165_41 := by kernel_rfl!
theorem at_164 (P : Params) : (H1 P).get? 164 = some o164_41 := by kernel_rfl!
theorem is_told (P : Params) : FnIs (H1 P) f_told 165 := ⟨⟨o165_41, fdF 39 .none _ _, _, bdT 39, ["octets", "text", "latest", "ways"], ["octets", "text", "latest", "ways", "former", "way"], [], [], 100, at_165 P, rfl, ⟨⟨164, o164_41, _, _, rfl, at_164 P, rfl, rfl⟩, rfl, rfl, rfl, rfl, rfl, (fun s vals _ hl => len4 (P := fun vals => BindsTo s (fdF 39 .none _ _) ⟨vals, []⟩ (List.zip ["octets", "text", "latest", "ways"] (vals ++ []))) (fun v0 v1 v2 v3 => BindsTo.of_eq (by kernel_rfl!)) hl)⟩, by kernel_rfl!, by kernel_rfl!, rfl, rfl, Reps.nil⟩⟩
theorem at_170 (P : Params) : (H1 P).get? 170 = some o170_41 := by kernel_rfl!
theorem at_169 (P : Params) : (H1 P).get? 169 = some o169_41 := by kernel_rfl!
theorem is_holds (P : Params) : FnIs (H1 P) f_holds 170 := ⟨⟨o170_41, fdF 40 .none _ _, _, bdT 40, ["width", "octets"], ["width", "octets", "widths", "text", "body", "latest", "fewest", "noted", "ways"], [], [], 100, at_170 P, rfl, ⟨⟨169, o169_41, _, _, rfl, at_169 P, rfl, rfl⟩, rfl, rfl, rfl, rfl, rfl, (fun s vals _ hl => len2 (P := fun vals => BindsTo s (fdF 40 .none _ _) ⟨vals, []⟩ (List.zip ["width", "octets"] (vals ++ []))) (fun v0 v1 => BindsTo.of_eq (by kernel_rfl!)) hl)⟩, by kernel_rfl!, by kernel_rfl!, rfl, rfl, Reps.nil⟩⟩
theorem at_175 (P : Params) : (H1 P).get? 175 = some o175_41 := by kernel_rfl!
theorem at_174 (P : Params) : (H1 P).get? 174 = some o174_41 := by kernel_rfl!
theorem is_law (P : Params) : FnIs (H1 P) f_law 175 := ⟨⟨o175_41, fdF 41 .none _ _, _, bdT 41, ["script"], ["script", "numbers"], [], [], 100, at_175 P, rfl, ⟨⟨174, o174_41, _, _, rfl, at_174 P, rfl, rfl⟩, rfl, rfl, rfl, rfl, rfl, (fun s vals _ hl => len1 (P := fun vals => BindsTo s (fdF 41 .none _ _) ⟨vals, []⟩ (List.zip ["script"] (vals ++ []))) (fun v0 => BindsTo.of_eq (by kernel_rfl!)) hl)⟩, by kernel_rfl!, by kernel_rfl!, rfl, rfl, Reps.nil⟩⟩
theorem at_72 (P : Params) : (H1 P).get? 72 = some o72_41 := by kernel_rfl!
theorem at_71 (P : Params) : (H1 P).get? 71 = some o71_41 := by kernel_rfl!
theorem is_heappush (P : Params) : FnIs (H1 P) f_heappush 72 := ⟨⟨o72_41, fdF 22 .none _ _, _, bdT 22, ["heap", "item"], ["heap", "item"], [], [], 100, at_72 P, rfl, ⟨⟨71, o71_41, _, _, rfl, at_71 P, rfl, rfl⟩, rfl, rfl, rfl, rfl, rfl, (fun s vals _ hl => len2 (P := fun vals => BindsTo s (fdF 22 .none _ _) ⟨vals, []⟩ (List.zip ["heap", "item"] (vals ++ []))) (fun v0 v1 => BindsTo.of_eq (by kernel_rfl!)) hl)⟩, by kernel_rfl!, by kernel_rfl!, rfl, rfl, Reps.nil⟩⟩
theorem at_79 (P : Params) : (H1 P).get? 79 = some o79_41 := by kernel_rfl!
theorem at_78 (P : Params) : (H1 P).get? 78 = some o78_41 := by kernel_rfl!
theorem is_heappop (P : Params) : FnIs (H1 P) f_heappop 79 := ⟨⟨o79_41, fdF 23 .none _ _, _, bdT 23, ["heap"], ["heap", "lastelt", "returnitem"], [], [], 100, at_79 P, rfl, ⟨⟨78, o78_41, _, _, rfl, at_78 P, rfl, rfl⟩, rfl, rfl, rfl, rfl, rfl, (fun s vals _ hl => len1 (P := fun vals => BindsTo s (fdF 23 .none _ _) ⟨vals, []⟩ (List.zip ["heap"] (vals ++ []))) (fun v0 => BindsTo.of_eq (by kernel_rfl!)) hl)⟩, by kernel_rfl!, by kernel_rfl!, rfl, rfl, Reps.nil⟩⟩
theorem at_86 (P : Params) : (H1 P).get? 86 = some o86_41 := by kernel_rfl!
theorem at_85 (P : Params) : (H1 P).get? 85 = some o85_41 := by kernel_rfl!
theorem is_siftdown (P : Params) : FnIs (H1 P) f_siftdown 86 := ⟨⟨o86_41, fdF 24 .none _ _, _, bdT 24, ["heap", "startpos", "pos"], ["heap", "startpos", "pos", "newitem", "parentpos", "parent"], [], [], 100, at_86 P, rfl, ⟨⟨85, o85_41, _, _, rfl, at_85 P, rfl, rfl⟩, rfl, rfl, rfl, rfl, rfl, (fun s vals _ hl => len3 (P := fun vals => BindsTo s (fdF 24 .none _ _) ⟨vals, []⟩ (List.zip ["heap", "startpos", "pos"] (vals ++ []))) (fun v0 v1 v2 => BindsTo.of_eq (by kernel_rfl!)) hl)⟩, by kernel_rfl!, by kernel_rfl!, rfl, rfl, Reps.nil⟩⟩
theorem at_93 (P : Params) : (H1 P).get? 93 = some o93_41 := by kernel_rfl!
theorem at_92 (P : Params) : (H1 P).get? 92 = some o92_41 := by kernel_rfl!
theorem is_siftup (P : Params) : FnIs (H1 P) f_siftup 93 := ⟨⟨o93_41, fdF 25 .none _ _, _, bdT 25, ["heap", "pos"], ["heap", "pos", "endpos", "startpos", "newitem", "childpos", "rightpos"], [], [], 100, at_93 P, rfl, ⟨⟨92, o92_41, _, _, rfl, at_92 P, rfl, rfl⟩, rfl, rfl, rfl, rfl, rfl, (fun s vals _ hl => len2 (P := fun vals => BindsTo s (fdF 25 .none _ _) ⟨vals, []⟩ (List.zip ["heap", "pos"] (vals ++ []))) (fun v0 v1 => BindsTo.of_eq (by kernel_rfl!)) hl)⟩, by kernel_rfl!, by kernel_rfl!, rfl, rfl, Reps.nil⟩⟩
end Mine
end
section
namespace Mine
theorem at_100 (P : Params) : (H1 P).get? 100 = some o100_41 := by kernel_rfl!
theorem at_99 (P : Params) : (H1 P).get? 99 = some o99_41 := by kernel_rfl!
theorem fd_sld (P : Params) : FdOk (H1 P) (fdF 27 .none (.str (u "cpy313.unittest.util") 1832) (.ref 99)) (fdT 27).scope (bdT 27) ["expected", "actual"] [] :=
  ⟨⟨99, o99_41, _, _, rfl, at_99 P, rfl, rfl⟩, rfl, rfl, rfl, rfl, rfl, (fun s vals _ hl => len2 (P := fun vals => BindsTo s (fdF 27 .none _ _) ⟨vals, []⟩ (List.zip ["expected", "actual"] (vals ++ []))) (fun v0 v1 => BindsTo.of_eq (by kernel_rfl!)) hl)⟩
theorem sld_is {w : World} {F : Nat → List D → Option D} {n : Nat} (W : Wd w (H1 w.params) F n) : FnOK w (H1 w.params) (n + 2) (fa 7) sldD :=
  sld_ok W (nol _) (at_100 _) rfl (by kernel_rfl!) (by kernel_rfl!) rfl rfl rfl rfl (fd_sld _)
theorem is_all (P : Params) (k : Nat) (f : Fn) (h : tab k = some f) : FnIs (H1 P) f (fa k) :=
  Nat.zero_add k ▸ AllF.get (P := fun k f => FnIs (H1 P) f (fa k)) (i := 0) (.one (is_unquote P) (.one (is_encode P) (.one (is_decode P) (.no (.no (.no (.no (.no (.one (is_numbers P) (.one (is_octet P) (.one (is_sign P) (.one (is_breaks P) (.one (is_fits P) (.one (is_noted P) (.one (is_moved P) (.one (is_fewest P) (.one (is_spelled P) (.one (is_apart P) (.one (is_told P) (.one (is_holds P) (.nil))))))))))))))))))))) h
theorem ism_all (P : Params) (k : Nat) (f : Fn) (h : mtab k = some f) : FnIs (H1 P) f (fa (k + 3)) :=
  Nat.zero_add k ▸ AllF.get (P := fun k f => FnIs (H1 P) f (fa (k + 3))) (i := 0) (.one (is_heappush P) (.one (is_heappop P) (.one (is_siftdown P) (.one (is_siftup P) (.nil))))) h
theorem bsW (w : World) : Bs w (H1 w.params) fa where
  glo := glo _
  at' := fns_at _
  atM := mfns_at _
  is := is_all _
  isM := ism_all _
  sld := fun _ _ W => sld_is W
  nol := nol _
theorem law_fn (w : World) : FnOK w (H1 w.params) 12 175 fun ds => open Classical in if ∃ xs : List Int, ds = [ofI xs] ∧ xs.length ≤ lim then some (.bool true) else none := law_ok (bsW w) (is_law _)
end Mine
end
section
namespace Mine
noncomputable abbrev rw' : OpenLaw := PySem.Challenge.rw_op0127_01
noncomputable abbrev cl' : ClaimW := rw'.row.toRowW.claim
theorem ints_of {xs : List WData} (h : WShape.hasItems [] xs .int = true) : ∃ is : List Int, xs = is.map .int := by
  induction xs with
  | nil => exact ⟨[], rfl⟩
  | cons x r ih =>
    simp only [WShape.hasItems, Bool.and_eq_true] at h
    obtain ⟨i, rfl⟩ := hasW_int h.1
    obtain ⟨is, rfl⟩ := ih h.2
    exact ⟨i :: is, rfl⟩
theorem pre_is {args : List WData} (h : cl'.pre args = true) : ∃ is : List Int, args = [.list (is.map .int)] ∧ is.length ≤ 63 := by
  obtain ⟨h1, h2⟩ := pre_splitW h
  obtain ⟨d, r, rfl, ha, hr⟩ := hasAllW_cons h1
  obtain rfl := hasAllW_nil hr
  obtain ⟨xs, rfl, hi⟩ := hasW_list ha
  obtain ⟨is, rfl⟩ := ints_of hi
  refine ⟨is, rfl, ?_⟩
  have h3 : WTm.holds [] (.and (.not (.lt (.lit (.int 63)) (.len (.arg 0)))) (.lit (.bool true))) { args := [.list (is.map .int)] } = true := h2
  simp only [WTm.holds, WTm.value, List.getElem?_cons_zero, less?, Num.less?, Option.map_some, List.length_map] at h3
  by_cases q : (63 : Int) < is.length
  · simp [q] at h3
  · omega
theorem lay_ints {R : WRecords} {cl : Str → Option Addr} {P : Params} {ord : List DictEntry → List DictEntry} : ∀ (is : List Int) (s : Shared), ∃ vs t, layAllW R cl P ord (is.map .int) s = some (vs, { s with toks := t }) ∧ ∀ h, Reps ad0 h (is.map .int) vs
  | [], s => ⟨[], s.toks, rfl, fun _ => Reps.nil⟩
  | i :: r, s => by
    obtain ⟨vs, t, e, q⟩ := lay_ints (R := R) (cl := cl) (P := P) (ord := ord) r { s with toks := s.toks + 1 }
    refine ⟨.int i s.toks :: vs, t, ?_, fun h => Reps.cons (rep_int) (q h)⟩
    simp only [List.map_cons, layAllW, layW, e]
theorem kept_all {P : Params} {s s' : Shared} {o : Obj} (h1 : s.heap = (H1 P).push o) (hf : o.isFreed = false) (hd : ∀ es ep, o.data ≠ .dict es ep) (k : Kept s.heap s'.heap) : OldK s.heap s'.heap := by
  refine OldK.of_keep fun b p e => ?_
  obtain ⟨sl, x, y⟩ := k b p e
  have : sl = p.slots := by
    refine y ?_
    rcases Nat.lt_or_ge b 176 with q | q
    · exact .inr q
    · left
      have hs : b < s.heap.objs.size := Heap.lt_size e
      rw [h1] at e hs
      have h2 : ((H1 P).push o).objs.size = (H1 P).objs.size + 1 := by simp [Heap.push]
      have h3 : (H1 P).objs.size = 176 := by kernel_rfl!
      rw [h2, h3] at hs
      have hb : b = (H1 P).objs.size := by rw [h3]; exact Nat.le_antisymm (Nat.le_of_lt_succ hs) q
      rw [hb, Heap.get?_push_size _ hf] at e
      injection e with e; subst e; exact hd
  rw [this] at x; exact x
theorem mg_law (P : Params) : mgF P "law" = some (.ref 175) := by kernel_rfl!
theorem call_law (w : World) (s : Shared) (hs : s.heap = H1 w.params) (is : List Int) (hl : is.length ≤ 63) {vs : List Value} {t : Nat} (hv : ∀ h, Reps ad0 h (is.map .int) vs) :
    wpAny (model pg w) callerA (call (.ref 175) [.ref s.heap.objs.size]) (fun v s' => v = .bool true ∧ Keeps { s with toks := t, heap := s.heap.push { cls := .type "list", data := .seq vs.toArray } } s') NoE { s with toks := t, heap := s.heap.push { cls := .type "list", data := .seq vs.toArray } } := by
  have hk : Kept (H1 w.params) (s.heap.push { cls := .type "list", data := .seq vs.toArray }) := hs ▸ Kept.push _ _
  refine wpAny_mono (law_fn w callerA _ ad0 [.ref s.heap.objs.size] [ofI is] (.bool true) ⟨rfl, by decide, by decide⟩ rfl (fun _ m => nomatch m) hk (fun _ m => nomatch m) (Reps.cons ?_ Reps.nil) (if_pos ⟨is, rfl, by unfold lim; omega⟩)) (fun v s' q => ?_) fun _ _ q => q
  · show Rep ad0 _ (.list (is.map .int)) _
    simp only [qRep0, qRep1, qRep2, qRep3, qRep4, qRep5, qRep6, qRep7]
    exact ⟨_, vs, rfl, (by simp [Ad.all, ad0]), ⟨0, Heap.get?_push_size _ rfl⟩, hv _⟩
  · obtain ⟨k, r⟩ := q
    simp only [qRep0, qRep1, qRep2, qRep3, qRep4, qRep5, qRep6, qRep7] at r
    exact ⟨r, k⟩
theorem row_holds (k1 : rw'.row.wellSaid = true) : rw'.row.Holds := by
  have hch : chainsOk qv = true := by decide +kernel
  refine ⟨k1, ⟨[.list []], by decide +kernel, by decide +kernel⟩, ⟨⟨rfl, rfl, rfl, rfl, rfl, by decide +kernel⟩, by decide +kernel, rfl⟩, ⟨[.list []], by decide +kernel, by decide +kernel⟩, fun w => ⟨(left_ok.behind (XP := fun _ _ => True) (fun _ _ => trivial) hch w).1, fun s' hs' => ?_⟩⟩
  obtain ⟨s₀, hf, hg0, s, hT, hz, hgens, hg, G, y⟩ := (left_ok.behind (XP := fun _ _ => True) (fun _ _ => trivial) hch w).2 s' hs'
  have y : s.heap = H1 w.params := y
  have hgens : s.gens = #[] := Array.eq_empty_of_size_eq_zero (beq_iff_eq.mp hgens)
  refine ⟨s₀, hf, hg0, s, hT, fun n hn => ?_, fun _ m => absurd m List.not_mem_nil, fun _ m => absurd m List.not_mem_nil, ?_⟩
  · obtain rfl : n = rw'.row.name := by
      have : n ∈ [rw'.row.name] := hn
      exact List.mem_singleton.mp this
    exact pinned_of_view hg G (by rfl) (by rfl) (by rfl)
  refine ClaimW.callFrom_of_specG (c := cl') hz hgens fun args hpre hlay ord hord => ?_
  obtain ⟨is, rfl, hl⟩ := pre_is hpre
  obtain ⟨vs, t, e, hv⟩ := lay_ints (R := cl'.records) (cl := classAt s.heap) (P := w.params) (ord := ord) is s
  have hlaid : layAllW cl'.records (classAt s.heap) w.params ord [.list (is.map .int)] s = some ([.ref s.heap.objs.size], { s with toks := t, heap := s.heap.push { cls := .type "list", data := .seq vs.toArray } }) := by
    simp only [layAllW, layW, e]
  refine ⟨_, _, hlaid, ?_⟩
  have keeps := layAllW_keeps _ _ _ hlaid
  obtain ⟨as, hrd, hin, hold⟩ := reads_layAllW hord _ _ _ hlaid hlay _ (fun _ _ e => e)
  have L : Laid cl'.records w s _ _ _ as := ⟨⟨ord, hord, hlaid⟩, hrd, hin, hold, keeps, hgens, rfl⟩
  have hns : (s.heap.push { cls := .type "list", data := .seq vs.toArray }).Ns mainGlobals (mgF w.params) := by
    rw [y]; exact (Kept.push _ _).ns (Heap.Ns.of_isNs (isg _))
  refine wpAny_bind (wpAny_nsGet hns ?_)
  rw [show mgF w.params rw'.row.name = some (.ref 175) from mg_law _]
  refine wpAny_bind (wpAny_mono (pg_eq ▸ call_law w s y is hl hv) (fun v s'' q => wpAny_pure ?_) fun _ _ q => q.elim)
  obtain ⟨rfl, h, tk, rfl, k⟩ := q
  have g : GoodWG cl' (classAt s.heap) (ExcName.means s.heap) [.list (is.map .int)] { s with toks := t, heap := s.heap.push { cls := .type "list", data := .seq vs.toArray } } (.ok (.ret (.bool true))) { s with toks := tk, heap := h } :=
    ⟨.inl ⟨_, .bool true, [], rfl, fun _ => rfl, .bool true, (by kernel_rfl!), fun _ => ⟨.nil, fun _ m => absurd m List.not_mem_nil⟩⟩, kept_all (P := w.params) (s := { s with toks := t, heap := s.heap.push { cls := .type "list", data := .seq vs.toArray } }) (s' := { s with toks := tk, heap := h }) (by rw [y]) rfl (fun _ _ z => by cases z) k, rfl, .of_eq hgens⟩
  obtain ⟨z1, z2, z3⟩ := GoodWG.laid (c := cl') rfl rfl (fun _ _ => ident_freeW (r := rw'.row.toRowW) rfl rfl rfl _ _) L g
  exact ⟨_, rfl, z1, z2, z3, fun q => nomatch q⟩
theorem law_said : rw'.wellSaid = true := by decide +kernel
end Mine
end
end
theorem PySem.Challenge.cw_op0127_01_holds : PySem.Challenge.rw_op0127_01.Holds := by
  exact PySem.W.holds_law Mine.law_said Mine.row_holds
