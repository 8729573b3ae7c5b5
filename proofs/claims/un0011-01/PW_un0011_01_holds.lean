import PyProof.Rows.All
import Wide.All
import Wide.FinOn
import Open.Line
import OpenK.KCall
import OpenK.KWalk
import OpenK.KList
import PySem.Challenge.RW_un0011_01
set_option Elab.async false
set_option linter.unusedVariables false
set_option linter.unusedSimpArgs false
/-! ## part FW1 -/
section
open PySem PySem.W PyProof.Rows PySem.Calls
set_option bootstrap.genMatcherCode false
namespace Mine
/-! ### of the model, for the texts ahead -/
theorem rev_range (n : Nat) : sliceRange ((n : Int) - 1) (-1) (-1) = (List.range n).reverse := by
  unfold sliceRange
  rw [if_neg (by decide)]
  apply List.ext_getElem
  · by_cases h : n = 0
    · subst h; simp
    · rw [if_pos (by lia)]
      simp
  · intro i h1 h2
    simp only [List.getElem_map, List.getElem_range, List.getElem_reverse, List.length_range]
    simp only [List.length_reverse, List.length_range] at h2
    lia
theorem rev_pick (items : Array Value) : slicePick items none none (some (-1)) = items.toList.reverse.toArray := by
  have h := pick_run items 0 items.size
  have e : (List.range items.size).map (0 + ·) = List.range items.size := by simp
  rw [e, List.drop_zero, List.take_of_length_le (Nat.le_of_eq Array.length_toList)] at h
  unfold slicePick
  show ((sliceRange ((items.size : Int) - 1) (-1) (-1)).filterMap (items[·]?)).toArray = _
  rw [rev_range, List.filterMap_reverse, h]
section
variable {prog : Program} {w : World} {A : Around} {E : Value → Shared → Prop} {s : Shared}
theorem set_at {l : Addr} {items : Array Value} {n : Nat} {k : Int} {t : Tok} {v : Value} {Q : Unit → Shared → Prop} (ho : s.heap.get? l = some (listOf items n)) (h0 : 0 ≤ k) (hfit : k < 2 ^ 63) (hn : k < items.size)
    (hQ : Q () { s with heap := s.heap.update l (Obj.mapSeq (·.setIfInBounds k.toNat v)) }) : wpAny (model prog w) A (setItem (.ref l) (.int k t) v) Q E s := by
  have hl : s.heap.IsList l items := ⟨_, ho, rfl, n, rfl⟩
  unfold setItem
  try with_reducible refine wpAny_holding ?_
  first | refine wpAny_bind (wpAny_pure ?_) | skip
  refine wpAny_bind (wpAny_sequenceKey hl.typeIs (by decide) (wpAny_bind (wpAny_callSpecial?_slot (name := Str.ofString "__setitem__") hl.typeIs slot_list_setitem
    (wpAny_call_entry slot_list_setitem hl.typeIs entry_list_setitem ?_ (args_list_setitem _ _ _)))))
  show wpAny _ _ (Builtin.List.listSubscript? (.int k t) >>= _) _ _ s
  refine wpAny_bind (wpAny_listSubscript_int (fitsIndex_of h0 hfit) ?_)
  clear hfit
  obtain ⟨j, rfl⟩ := Int.eq_ofNat_of_zero_le h0
  have hx' : items[j]? = some (items[j]'(Int.ofNat_lt.mp hn)) := Array.getElem?_eq_getElem _
  show wpAny _ _ ((seqItemAt l j >>= fun r => pure (r.map (j, ·))) >>= _) _ _ s
  refine wpAny_bind (wpAny_bind (wpAny_seqItemAt ho rfl (wpAny_pure ?_)))
  rw [hx']
  show wpAny _ _ (setSeqItemAt l j v >>= _) _ _ s
  refine wpAny_bind (wpAny_setSeqItemAt ho rfl ?_)
  first
    | exact wpAny_bind (wpAny_pure (wpAny_pure ⟨.none, rfl, wpAny_pure hQ⟩))
    | exact wpAny_pure ⟨.none, rfl, wpAny_pure hQ⟩
end
theorem entry_iter : entryFor table "iter" = some Builtin.«iter» := entryFor_of_fast (by kernel_rfl)
theorem entry_next : entryFor table "next" = some Builtin.«next» := entryFor_of_fast (by kernel_rfl)
theorem args_iter (a : Value) : argsOk "iter" ⟨[a], []⟩ := by unfold argsOk; kernel_rfl
theorem args_next (a : Value) : argsOk "next" ⟨[a], []⟩ := by unfold argsOk; kernel_rfl
theorem stop_exc : isSubtype (.type "StopIteration") (.type "BaseException") = pure true := by rw [isSubtype_type]; kernel_rfl
inductive AV where
  | none
  | bool (b : Bool)
  | int (i : Int)
  | str (x : Str)
  | tuple (xs : List AV)
  | lst (i : Nat)
  | rng (a b : Int)
  | raw (v : Value)
abbrev KM := Addr → Option Obj
mutual
inductive VR (K : KM) (ρ : List Addr) : Value → AV → Prop
  | none : VR K ρ Value.none AV.none
  | bool (b : Bool) : VR K ρ (Value.bool b) (AV.bool b)
  | int (i : Int) (t : Tok) : VR K ρ (Value.int i t) (AV.int i)
  | str (x : Str) (t : Tok) : VR K ρ (Value.str x t) (AV.str x)
  | tuple {a : Addr} {o : Obj} {us : List Value} {n : Nat} {xs : List AV} : K a = some o → o.cls = .type "tuple" → o.data = .seq us.toArray n → VRs K ρ us xs → VR K ρ (Value.ref a) (AV.tuple xs)
  | lst {i : Nat} {a : Addr} : ρ[i]? = some a → VR K ρ (Value.ref a) (AV.lst i)
  | rng {r : Addr} {a b : Int} {t u v : Tok} : K r = some { cls := .type "range", data := .fields #[.int a t, .int b u, .int 1 v] } → VR K ρ (Value.ref r) (AV.rng a b)
  | raw (v : Value) : VR K ρ v (AV.raw v)
inductive VRs (K : KM) (ρ : List Addr) : List Value → List AV → Prop
  | nil : VRs K ρ [] []
  | cons {u : Value} {us : List Value} {x : AV} {xs : List AV} : VR K ρ u x → VRs K ρ us xs → VRs K ρ (u :: us) (x :: xs)
end
theorem VR.intE {K : KM} {ρ : List Addr} {i : Int} {motive : (u : Value) → VR K ρ u (.int i) → Prop} (int : ∀ (_ : Unit) (t : Tok), motive (.int i t) (.int i t)) {u : Value} (h : VR K ρ u (.int i)) : motive u h := by
  cases h with | int _ t => exact int () t
theorem VR.strE {K : KM} {ρ : List Addr} {i : Str} {motive : (u : Value) → VR K ρ u (.str i) → Prop} (str : ∀ (_ : Unit) (t : Tok), motive (.str i t) (.str i t)) {u : Value} (h : VR K ρ u (.str i)) : motive u h := by
  cases h with | str _ t => exact str () t
theorem VR.lstE {K : KM} {ρ : List Addr} {i : Nat} {motive : (u : Value) → VR K ρ u (.lst i) → Prop} (lst : ∀ {a : Addr} (h : ρ[i]? = some a), motive (.ref a) (.lst h)) {u : Value} (h : VR K ρ u (.lst i)) : motive u h := by
  cases h with | lst h => exact lst h
theorem VR.tupleE {K : KM} {ρ : List Addr} {xs : List AV} {motive : (u : Value) → VR K ρ u (.tuple xs) → Prop} (tuple : ∀ {a : Addr} {o : Obj} {us : List Value} {n : Nat} (e1 : K a = some o) (e2 : o.cls = .type "tuple") (e3 : o.data = .seq us.toArray n) (e4 : VRs K ρ us xs), motive (.ref a) (.tuple e1 e2 e3 e4)) {u : Value} (h : VR K ρ u (.tuple xs)) : motive u h := by
  cases h with | tuple a b d e => exact tuple a b d e
theorem VRs.consE {K : KM} {ρ : List Addr} {x : AV} {xs : List AV} {motive : (us : List Value) → VRs K ρ us (x :: xs) → Prop} (cons : ∀ {u : Value} {us : List Value} (r1 : VR K ρ u x) (r2 : VRs K ρ us xs), motive (u :: us) (.cons r1 r2)) {us : List Value} (h : VRs K ρ us (x :: xs)) : motive us h := by
  cases h with | cons a b => exact cons a b
theorem VRs.nilE {K : KM} {ρ : List Addr} {motive : (us : List Value) → VRs K ρ us [] → Prop} (nil : motive [] .nil) {us : List Value} (h : VRs K ρ us []) : motive us h := by
  cases h; exact nil
noncomputable def KLe (K K' : KM) : Prop := ∀ b o, K b = some o → K' b = some o
noncomputable def PLe (ρ ρ' : List Addr) : Prop := ∀ (i : Nat) (a : Addr), ρ[i]? = some a → ρ'[i]? = some a
theorem KLe.refl (K : KM) : KLe K K := fun _ _ h => h
theorem PLe.refl (ρ : List Addr) : PLe ρ ρ := fun _ _ h => h
theorem KLe.trans {K K' K'' : KM} (h : KLe K K') (h' : KLe K' K'') : KLe K K'' := fun b o e => h' b o (h b o e)
theorem PLe.trans {ρ ρ' ρ'' : List Addr} (h : PLe ρ ρ') (h' : PLe ρ' ρ'') : PLe ρ ρ'' := fun b o e => h' b o (h b o e)
theorem PLe.snoc (ρ : List Addr) (a : Addr) : PLe ρ (ρ ++ [a]) := fun i b h => by
  have := (List.getElem?_eq_some_iff.mp h).1
  rw [List.getElem?_append_left this]; exact h
theorem VR.mono {K K' : KM} {ρ ρ' : List Addr} (hK : KLe K K') (hρ : PLe ρ ρ') {u : Value} {v : AV} (h : VR K ρ u v) : VR K' ρ' u v :=
  VR.rec (motive_1 := fun u v _ => VR K' ρ' u v) (motive_2 := fun us xs _ => VRs K' ρ' us xs) .none .bool .int .str (fun h c d _ ih => .tuple (hK _ _ h) c d ih) (fun h => .lst (hρ _ _ h)) (fun h => .rng (hK _ _ h)) .raw .nil (fun _ _ a b => .cons a b) h
theorem VRs.ind {K : KM} {ρ : List Addr} {P : List Value → List AV → Prop} (nil : P [] []) (cons : ∀ {u : Value} {us : List Value} {x : AV} {xs : List AV}, VR K ρ u x → VRs K ρ us xs → P us xs → P (u :: us) (x :: xs)) {us : List Value} {xs : List AV} (h : VRs K ρ us xs) : P us xs := by
  induction xs generalizing us with
  | nil => cases h using VRs.nilE; exact nil
  | cons x xs ih => cases h using VRs.consE with
    | cons a r => exact cons a r (ih r)
theorem VRs.mono {K K' : KM} {ρ ρ' : List Addr} (hK : KLe K K') (hρ : PLe ρ ρ') {us : List Value} {xs : List AV} (h : VRs K ρ us xs) : VRs K' ρ' us xs :=
  VRs.ind (P := fun us xs => VRs K' ρ' us xs) .nil (fun a _ e => .cons (a.mono hK hρ) e) h
/-- an object that no abstract value stands for -/
noncomputable def NotVal (o : Obj) : Prop := (∀ us n, o.data = .seq us n → o.cls ≠ .type "tuple") ∧ (∀ fs, o.data = .fields fs → o.cls ≠ .type "range")
noncomputable def KM.lock (K : KM) (h : Heap) (D : List Addr) : KM := fun b => if b ∈ D then h.get? b else K b
noncomputable def KM.free (K : KM) (D : List Addr) : KM := fun b => if b ∈ D then none else K b
noncomputable def KM.set (K : KM) (a : Addr) (o : Obj) : KM := fun b => if b = a then some o else K b
theorem KLe.set {K : KM} {a : Addr} (o : Obj) (h : K a = none) : KLe K (K.set a o) := fun b o' e => by
  unfold KM.set
  by_cases q : b = a
  · subst q; rw [h] at e; cases e
  · rw [if_neg q]; exact e
theorem KLe.lock {K : KM} {h : Heap} {D : List Addr} (hk : ∀ b o, K b = some o → h.get? b = some o) : KLe K (K.lock h D) := fun b o e => by
  unfold KM.lock
  split
  · exact hk b o e
  · exact e
theorem KLe.free {K K' : KM} {D : List Addr} (hk : KLe K K') (hD : ∀ b ∈ D, K b = none) : KLe K (K'.free D) := fun b o e => by
  unfold KM.free
  split
  · rename_i q; rw [hD b q] at e; cases e
  · exact hk b o e
theorem free_at {K : KM} {D : List Addr} {a : Addr} {o : Obj} (h : K a = some o) (q : a ∉ D) : K.free D a = some o := by
  unfold KM.free
  rw [if_neg q]; exact h
theorem VR.free {K : KM} {ρ : List Addr} {D : List Addr} (hD : ∀ b ∈ D, ∀ o, K b = some o → NotVal o) {u : Value} {v : AV} (h : VR K ρ u v) : VR (K.free D) ρ u v :=
  VR.rec (motive_1 := fun u v _ => VR (K.free D) ρ u v) (motive_2 := fun us xs _ => VRs (K.free D) ρ us xs) .none .bool .int .str (fun h c d _ ih => .tuple (free_at h fun q => absurd c ((hD _ q _ h).1 _ _ d)) c d ih) (fun h => .lst h)
    (fun h => .rng (free_at h fun q => absurd rfl ((hD _ q _ h).2 _ rfl))) .raw .nil (fun _ _ a b => .cons a b) h
theorem VRs.free {K : KM} {ρ : List Addr} {D : List Addr} (hD : ∀ b ∈ D, ∀ o, K b = some o → NotVal o) {us : List Value} {xs : List AV} (h : VRs K ρ us xs) : VRs (K.free D) ρ us xs :=
  VRs.ind (P := fun us xs => VRs (K.free D) ρ us xs) .nil (fun a _ e => .cons (a.free hD) e) h
section
variable {K : KM} {ρ : List Addr}
theorem VRs.length {us : List Value} {xs : List AV} (h : VRs K ρ us xs) : us.length = xs.length := VRs.ind (P := fun us xs => us.length = xs.length) rfl (fun _ _ e => congrArg Nat.succ e) h
theorem VRs.append {us : List Value} {xs : List AV} {vs : List Value} {ys : List AV} (h : VRs K ρ us xs) (h' : VRs K ρ vs ys) : VRs K ρ (us ++ vs) (xs ++ ys) := VRs.ind (P := fun us xs => VRs K ρ (us ++ vs) (xs ++ ys)) h' (fun a _ e => .cons a e) h
theorem VRs.get {us : List Value} {xs : List AV} (h : VRs K ρ us xs) {i : Nat} {x : AV} (e : xs[i]? = some x) : ∃ u, us[i]? = some u ∧ VR K ρ u x :=
  VRs.ind (P := fun us xs => ∀ (i : Nat) (x : AV), xs[i]? = some x → ∃ u, us[i]? = some u ∧ VR K ρ u x) (fun i x e => by cases e) (fun a _ ih i x e => by
    cases i with
    | zero => cases e; exact ⟨_, rfl, a⟩
    | succ i => exact ih i x e) h i x e
theorem VRs.set {us : List Value} {xs : List AV} (h : VRs K ρ us xs) (i : Nat) {u : Value} {x : AV} (r : VR K ρ u x) : VRs K ρ (us.set i u) (xs.set i x) :=
  VRs.ind (P := fun us xs => ∀ i : Nat, VRs K ρ (us.set i u) (xs.set i x)) (fun _ => .nil) (fun a h ih i => by
    cases i with
    | zero => exact .cons r h
    | succ i => exact .cons a (ih i)) h i
theorem VRs.take {us : List Value} {xs : List AV} (h : VRs K ρ us xs) (n : Nat) : VRs K ρ (us.take n) (xs.take n) :=
  VRs.ind (P := fun us xs => ∀ n : Nat, VRs K ρ (us.take n) (xs.take n)) (fun n => by rw [List.take_nil, List.take_nil]; exact .nil) (fun a h ih n => by
    cases n with
    | zero => exact .nil
    | succ n => exact .cons a (ih n)) h n
theorem VRs.reverse {us : List Value} {xs : List AV} (h : VRs K ρ us xs) : VRs K ρ us.reverse xs.reverse :=
  VRs.ind (P := fun us xs => VRs K ρ us.reverse xs.reverse) .nil (fun a _ e => by rw [List.reverse_cons, List.reverse_cons]; exact e.append (.cons a .nil)) h
theorem VRs.ints {us : List Value} {ns : List Int} (h : VRs K ρ us (ns.map AV.int)) : IntsAre us ns := by
  induction ns generalizing us with
  | nil => cases h using VRs.nilE; exact .nil
  | cons n ns ih => cases h using VRs.consE with
    | cons a r => cases a using VR.intE with
      | int _ t => exact .cons n t (ih r)
theorem VRs.ofInts {us : List Value} {ns : List Int} (h : IntsAre us ns) : VRs K ρ us (ns.map AV.int) := by
  induction h with
  | nil => exact .nil
  | cons n t _ ih => exact .cons (.int n t) ih
end
structure AS where
  loc : Str → Option AV
  H : List (List AV)
/-- the heap's part: what stays, and the lists -/
structure GRep (base : Heap) (K : KM) (ρ : List Addr) (H : List (List AV)) (h : Heap) : Prop where
  base : ∀ b o, base.get? b = some o → K b = some o
  keep : ∀ b o, K b = some o → h.get? b = some o
  len : ρ.length = H.length
  lists : ∀ (i : Nat) (a : Addr) (xs : List AV), ρ[i]? = some a → H[i]? = some xs → ∃ us n, h.get? a = some (listOf us.toArray n) ∧ VRs K ρ us xs
  nodup : ρ.Nodup
  fresh : ∀ a ∈ ρ, K a = none
structure Rep (base : Heap) (env : Env) (oc : List (Str × Addr)) (K : KM) (ρ : List Addr) (st : AS) (h : Heap) : Prop where
  g : GRep base K ρ st.H h
  ns : ∃ m, h.Ns env.locals m ∧ ∀ x v, env.kindOf x = some .local → st.loc x = some v → ∃ u, m x = some u ∧ VR K ρ u v
  cells : ∀ x v, env.kindOf x ≠ some .local → st.loc x = some v → (env.kindOf x = some .cell ∨ env.kindOf x = some .free) ∧
    ∃ c u, env.cells.lookup x = some c ∧ ((x, c) ∈ oc ∨ ∃ o, K c = some o) ∧ h.IsCell c (some u) ∧ VR K ρ u v
  own : ∀ p ∈ oc, env.kindOf p.1 = some .cell ∧ env.cells.lookup p.1 = some p.2 ∧ ∃ u, h.IsCell p.2 u
  apart : (env.locals :: (oc.map (·.2))).Nodup
  off : ∀ b ∈ env.locals :: (oc.map (·.2)), b ∉ ρ ∧ K b = none
theorem nodup_get {ρ : List Addr} (hn : ρ.Nodup) {i j : Nat} {a : Addr} (hi : ρ[i]? = some a) (hj : ρ[j]? = some a) : i = j := by
  obtain ⟨l1, g1⟩ := List.getElem?_eq_some_iff.mp hi
  obtain ⟨l2, g2⟩ := List.getElem?_eq_some_iff.mp hj
  have hp := List.pairwise_iff_getElem.mp hn
  rcases Nat.lt_trichotomy i j with h | h | h
  · exact absurd (g1.trans g2.symm) (hp i j l1 l2 h)
  · exact h
  · exact absurd (g2.trans g1.symm) (hp j i l2 l1 h)
theorem mem_of_get {ρ : List Addr} {i : Nat} {a : Addr} (h : ρ[i]? = some a) : a ∈ ρ := List.mem_of_getElem? h
section
variable {base : Heap} {K : KM} {ρ : List Addr} {H : List (List AV)} {h : Heap}
theorem GRep.listAt (R : GRep base K ρ H h) {i : Nat} {a : Addr} (e : ρ[i]? = some a) : ∃ xs us n, H[i]? = some xs ∧ h.get? a = some (listOf us.toArray n) ∧ VRs K ρ us xs := by
  have hi : i < H.length := R.len ▸ (List.getElem?_eq_some_iff.mp e).1
  obtain ⟨us, n, h1, h2⟩ := R.lists i a _ e (List.getElem?_eq_getElem hi)
  exact ⟨_, us, n, List.getElem?_eq_getElem hi, h1, h2⟩
theorem GRep.addr (R : GRep base K ρ H h) {i : Nat} {xs : List AV} (e : H[i]? = some xs) : ∃ a, ρ[i]? = some a := by
  have hi : i < ρ.length := R.len ▸ (List.getElem?_eq_some_iff.mp e).1
  exact ⟨_, List.getElem?_eq_getElem hi⟩
/-- every object that there is stays -/
theorem GRep.grow (R : GRep base K ρ H h) {h' : Heap} (k : ∀ b o, h.get? b = some o → h'.get? b = some o) : GRep base K ρ H h' :=
  ⟨R.base, fun b o e => k b o (R.keep b o e), R.len, fun i a xs e e' => let ⟨us, n, h1, h2⟩ := R.lists i a xs e e'; ⟨us, n, k _ _ h1, h2⟩, R.nodup, R.fresh⟩
theorem GRep.newK (R : GRep base K ρ H h) {a : Addr} {o : Obj} (h0 : h.get? a = none) {h' : Heap} (k : ∀ b o, h.get? b = some o → h'.get? b = some o) (ha : h'.get? a = some o) : GRep base (K.set a o) ρ H h' := by
  have hKa : K a = none := by
    cases e : K a with
    | none => rfl
    | some o' => have := R.keep a o' e; rw [h0] at this; cases this
  have hle : KLe K (K.set a o) := KLe.set o hKa
  refine ⟨fun b o' e => hle _ _ (R.base b o' e), fun b o' e => ?_, R.len, fun i b xs e e' => ?_, R.nodup, fun b hb => ?_⟩
  · unfold KM.set at e
    by_cases q : b = a
    · subst q; rw [if_pos rfl] at e; cases e; exact ha
    · rw [if_neg q] at e; exact k b o' (R.keep b o' e)
  · obtain ⟨us, n, h1, h2⟩ := R.lists i b xs e e'
    exact ⟨us, n, k _ _ h1, h2.mono hle (PLe.refl ρ)⟩
  · unfold KM.set
    have : b ≠ a := by
      rintro rfl
      obtain ⟨i, hi⟩ := List.mem_iff_getElem?.mp hb
      obtain ⟨_, us, n, _, h1, _⟩ := R.listAt hi
      rw [h0] at h1; cases h1
    rw [if_neg this]; exact R.fresh b hb
theorem GRep.newL (R : GRep base K ρ H h) {a : Addr} {us : List Value} {n : Nat} {xs : List AV} (h0 : h.get? a = none) {h' : Heap} (k : ∀ b o, h.get? b = some o → h'.get? b = some o)
    (ha : h'.get? a = some (listOf us.toArray n)) (hx : VRs K (ρ ++ [a]) us xs) : GRep base K (ρ ++ [a]) (H ++ [xs]) h' := by
  have hKa : K a = none := by
    cases e : K a with
    | none => rfl
    | some o' => have := R.keep a o' e; rw [h0] at this; cases this
  have hρ : a ∉ ρ := fun hm => by
    obtain ⟨i, hi⟩ := List.mem_iff_getElem?.mp hm
    obtain ⟨_, us, n, _, h1, _⟩ := R.listAt hi
    rw [h0] at h1; cases h1
  refine ⟨R.base, fun b o e => k b o (R.keep b o e), by simp [R.len], fun i b ys e e' => ?_, ?_, fun b hb => ?_⟩
  · by_cases q : i < ρ.length
    · rw [List.getElem?_append_left q] at e
      rw [List.getElem?_append_left (R.len ▸ q)] at e'
      obtain ⟨us, n, h1, h2⟩ := R.lists i b ys e e'
      exact ⟨us, n, k _ _ h1, h2.mono (KLe.refl K) (PLe.snoc ρ a)⟩
    · have hi : i = ρ.length := by
        have := (List.getElem?_eq_some_iff.mp e).1
        simp at this; (first | lia | omega)
      subst hi
      rw [List.getElem?_append_right (Nat.le_refl _)] at e
      rw [R.len, List.getElem?_append_right (Nat.le_refl _)] at e'
      simp at e e'
      subst e e'
      exact ⟨us, n, ha, hx⟩
  · rw [List.nodup_append]
    exact ⟨R.nodup, by simp, fun x hm y hy e => by simp at hy; subst hy; subst e; exact hρ hm⟩
  · rcases List.mem_append.mp hb with hb | hb
    · exact R.fresh b hb
    · simp at hb; subst hb; exact hKa
theorem GRep.setL (R : GRep base K ρ H h) {i : Nat} {a : Addr} {us : List Value} {n : Nat} {xs : List AV} (hi : ρ[i]? = some a) {h' : Heap} (hs : Heap.SameBut a h h')
    (ha : h'.get? a = some (listOf us.toArray n)) (hx : VRs K ρ us xs) : GRep base K ρ (H.set i xs) h' := by
  refine ⟨R.base, fun b o e => ?_, by simp [R.len], fun j b ys e e' => ?_, R.nodup, R.fresh⟩
  · have : b ≠ a := by rintro rfl; rw [R.fresh b (mem_of_get hi)] at e; cases e
    rw [hs.2 b this]; exact R.keep b o e
  · by_cases q : j = i
    · subst q
      rw [hi] at e; cases e
      have hlt : j < H.length := R.len ▸ (List.getElem?_eq_some_iff.mp hi).1
      rw [List.getElem?_set_self hlt] at e'
      cases e'
      exact ⟨us, n, ha, hx⟩
    · rw [List.getElem?_set_ne (Ne.symm q)] at e'
      have : b ≠ a := by
        rintro rfl
        exact q (nodup_get R.nodup e hi)
      obtain ⟨us', n', h1, h2⟩ := R.lists j b ys e e'
      exact ⟨us', n', (hs.2 b this).trans h1, h2⟩
theorem GRep.lock (R : GRep base K ρ H h) {D : List Addr} (hD : ∀ b ∈ D, b ∉ ρ) : GRep base (K.lock h D) ρ H h := by
  have hle : KLe K (K.lock h D) := KLe.lock R.keep
  refine ⟨fun b o e => hle _ _ (R.base b o e), fun b o e => ?_, R.len, fun i a xs e e' => ?_, R.nodup, fun a ha => ?_⟩
  · unfold KM.lock at e
    split at e
    · exact e
    · exact R.keep b o e
  · obtain ⟨us, n, h1, h2⟩ := R.lists i a xs e e'
    exact ⟨us, n, h1, h2.mono hle (PLe.refl ρ)⟩
  · unfold KM.lock
    rw [if_neg fun q => hD a q ha]; exact R.fresh a ha
theorem GRep.free (R : GRep base K ρ H h) {D : List Addr} (hB : ∀ b ∈ D, base.get? b = none) (hD : ∀ b ∈ D, ∀ o, K b = some o → NotVal o) : GRep base (K.free D) ρ H h := by
  refine ⟨fun b o e => ?_, fun b o e => ?_, R.len, fun i a xs e e' => ?_, R.nodup, fun a ha => ?_⟩
  · unfold KM.free
    rw [if_neg fun q => by rw [hB b q] at e; cases e]
    exact R.base b o e
  · unfold KM.free at e
    split at e
    · cases e
    · exact R.keep b o e
  · obtain ⟨us, n, h1, h2⟩ := R.lists i a xs e e'
    exact ⟨us, n, h1, h2.free hD⟩
  · unfold KM.free
    split
    · rfl
    · exact R.fresh a ha
/-- a change at an address that stands for nothing -/
theorem GRep.but (R : GRep base K ρ H h) {h' : Heap} {D : List Addr} (k : ∀ b o, b ∉ D → h.get? b = some o → h'.get? b = some o) (hD : ∀ b ∈ D, b ∉ ρ ∧ K b = none) : GRep base K ρ H h' := by
  refine ⟨R.base, fun b o e => k b o (fun q => by rw [(hD b q).2] at e; cases e) (R.keep b o e), R.len, fun i a xs e e' => ?_, R.nodup, R.fresh⟩
  obtain ⟨us, n, h1, h2⟩ := R.lists i a xs e e'
  exact ⟨us, n, k _ _ (fun q => (hD a q).1 (mem_of_get e)) h1, h2⟩
theorem GRep.fresh_of (R : GRep base K ρ H h) {a : Addr} (h0 : h.get? a = none) : a ∉ ρ ∧ K a = none := by
  refine ⟨fun hm => ?_, ?_⟩
  · obtain ⟨i, hi⟩ := List.mem_iff_getElem?.mp hm
    obtain ⟨_, us, n, _, h1, _⟩ := R.listAt hi
    rw [h0] at h1; cases h1
  · cases e : K a with
    | none => rfl
    | some o' => have := R.keep a o' e; rw [h0] at this; cases this
end
section
variable {base : Heap} {env : Env} {oc : List (Str × Addr)} {K : KM} {ρ : List Addr} {st : AS} {h : Heap}
/-- the frame's own addresses -/
noncomputable def frm (env : Env) (oc : List (Str × Addr)) : List Addr := env.locals :: oc.map (·.2)
theorem Rep.frm_there (R : Rep base env oc K ρ st h) : ∀ b ∈ frm env oc, ∃ o, h.get? b = some o := by
  intro b hb
  rcases List.mem_cons.mp hb with rfl | hb
  · obtain ⟨m, ⟨o, es, ep, ho, _⟩, _⟩ := R.ns
    exact ⟨o, ho⟩
  · obtain ⟨p, hp, rfl⟩ := List.mem_map.mp hb
    obtain ⟨_, _, u, o, ho, _⟩ := R.own p hp
    exact ⟨o, ho⟩
theorem get_none_of {h : Heap} {a : Addr} (ha : h.objs.size ≤ a) : h.get? a = none := by
  cases e : h.get? a with
  | none => rfl
  | some o => exact absurd (Heap.lt_size e) (Nat.not_lt.mpr ha)
theorem Rep.frm_lt (R : Rep base env oc K ρ st h) : ∀ b ∈ frm env oc, b < h.objs.size := by
  intro b hb
  rcases List.mem_cons.mp hb with rfl | hb
  · obtain ⟨m, ⟨o, es, ep, ho, _⟩, _⟩ := R.ns
    exact Heap.lt_size ho
  · obtain ⟨p, hp, rfl⟩ := List.mem_map.mp hb
    obtain ⟨_, _, u, o, ho, _⟩ := R.own p hp
    exact Heap.lt_size ho
theorem Rep.off_of (R : Rep base env oc K ρ st h) {a : Addr} (h0 : h.get? a = none) : a ∉ frm env oc ∧ a ∉ ρ ∧ K a = none := by
  refine ⟨fun hm => ?_, R.g.fresh_of h0⟩
  obtain ⟨o, ho⟩ := R.frm_there a hm
  rw [h0] at ho; cases ho
/-- the general step: the lists' part is given, the frame's own objects stay -/
theorem Rep.move (R : Rep base env oc K ρ st h) {K' : KM} {ρ' : List Addr} {H' : List (List AV)} {h' : Heap} (hK : KLe K K') (hρ : PLe ρ ρ') (G : GRep base K' ρ' H' h')
    (hf : ∀ b ∈ frm env oc, h'.get? b = h.get? b) (ho : ∀ b ∈ frm env oc, b ∉ ρ' ∧ K' b = none) : Rep base env oc K' ρ' { st with H := H' } h' := by
  refine ⟨G, ?_, ?_, ?_, R.apart, ho⟩
  · obtain ⟨m, ⟨o, es, ep, h1, h2⟩, hm⟩ := R.ns
    refine ⟨m, ⟨o, es, ep, (hf _ List.mem_cons_self).trans h1, h2⟩, fun x v hx hv => ?_⟩
    obtain ⟨u, e, r⟩ := hm x v hx hv
    exact ⟨u, e, r.mono hK hρ⟩
  · intro x v hx hv
    obtain ⟨hk, c, u, h1, h2, ⟨o, ho', hd⟩, h4⟩ := R.cells x v hx hv
    refine ⟨hk, c, u, h1, h2.imp id fun ⟨o, e⟩ => ⟨o, hK _ _ e⟩, ⟨o, ?_, hd⟩, h4.mono hK hρ⟩
    rcases h2 with h2 | ⟨o', e⟩
    · exact (hf c (List.mem_cons_of_mem _ (List.mem_map.mpr ⟨_, h2, rfl⟩))).trans ho'
    · have e1 := G.keep _ _ (hK _ _ e)
      have e2 := R.g.keep _ _ e
      rw [e2] at ho'; cases ho'; exact e1
  · intro p hp
    obtain ⟨h1, h2, u, o, ho', hd⟩ := R.own p hp
    exact ⟨h1, h2, u, o, (hf _ (List.mem_cons_of_mem _ (List.mem_map.mpr ⟨p, hp, rfl⟩))).trans ho', hd⟩
theorem Rep.grow (R : Rep base env oc K ρ st h) {h' : Heap} (k : ∀ b o, h.get? b = some o → h'.get? b = some o) : Rep base env oc K ρ st h' :=
  R.move (KLe.refl K) (PLe.refl ρ) (R.g.grow k) (fun b hb => by
    obtain ⟨o, ho⟩ := R.frm_there b hb
    rw [ho]; exact k b o ho) R.off
theorem same_frm (R : Rep base env oc K ρ st h) {h' : Heap} (k : ∀ b o, h.get? b = some o → h'.get? b = some o) : ∀ b ∈ frm env oc, h'.get? b = h.get? b := fun b hb => by
  obtain ⟨o, ho⟩ := R.frm_there b hb
  rw [ho]; exact k b o ho
theorem Rep.newK (R : Rep base env oc K ρ st h) {a : Addr} {o : Obj} (h0 : h.get? a = none) {h' : Heap} (k : ∀ b o, h.get? b = some o → h'.get? b = some o) (ha : h'.get? a = some o) : Rep base env oc (K.set a o) ρ st h' := by
  obtain ⟨o1, o2, o3⟩ := R.off_of h0
  refine R.move (KLe.set o o3) (PLe.refl ρ) (R.g.newK h0 k ha) (same_frm R k) fun b hb => ⟨(R.off b hb).1, ?_⟩
  unfold KM.set
  rw [if_neg (by rintro rfl; exact o1 hb)]
  exact (R.off b hb).2
theorem Rep.newL (R : Rep base env oc K ρ st h) {a : Addr} {us : List Value} {n : Nat} {xs : List AV} (h0 : h.get? a = none) {h' : Heap} (k : ∀ b o, h.get? b = some o → h'.get? b = some o)
    (ha : h'.get? a = some (listOf us.toArray n)) (hx : VRs K ρ us xs) : Rep base env oc K (ρ ++ [a]) { st with H := st.H ++ [xs] } h' := by
  obtain ⟨o1, o2, o3⟩ := R.off_of h0
  refine R.move (KLe.refl K) (PLe.snoc ρ a) (R.g.newL h0 k ha (hx.mono (KLe.refl K) (PLe.snoc ρ a))) (same_frm R k) fun b hb => ⟨fun hm => ?_, (R.off b hb).2⟩
  rcases List.mem_append.mp hm with hm | hm
  · exact (R.off b hb).1 hm
  · simp at hm; subst hm; exact o1 hb
theorem Rep.setL (R : Rep base env oc K ρ st h) {i : Nat} {a : Addr} {us : List Value} {n : Nat} {xs : List AV} (hi : ρ[i]? = some a) {h' : Heap} (hs : Heap.SameBut a h h')
    (ha : h'.get? a = some (listOf us.toArray n)) (hx : VRs K ρ us xs) : Rep base env oc K ρ { st with H := st.H.set i xs } h' :=
  R.move (KLe.refl K) (PLe.refl ρ) (R.g.setL hi hs ha hx) (fun b hb => hs.2 b fun q => (R.off b hb).1 (q ▸ mem_of_get hi)) R.off
theorem Rep.lock (R : Rep base env oc K ρ st h) {D : List Addr} (hD : ∀ b ∈ D, b ∉ ρ ∧ b ∉ frm env oc) : Rep base env oc (K.lock h D) ρ st h :=
  R.move (KLe.lock R.g.keep) (PLe.refl ρ) (R.g.lock fun b hb => (hD b hb).1) (fun _ _ => rfl) fun b hb => ⟨(R.off b hb).1, by
    unfold KM.lock
    rw [if_neg fun q => (hD b q).2 hb]
    exact (R.off b hb).2⟩
theorem Rep.but (R : Rep base env oc K ρ st h) {h' : Heap} {D : List Addr} (k : ∀ b o, b ∉ D → h.get? b = some o → h'.get? b = some o) (hD : ∀ b ∈ D, b ∉ frm env oc ∧ b ∉ ρ ∧ K b = none) : Rep base env oc K ρ st h' :=
  R.move (KLe.refl K) (PLe.refl ρ) (R.g.but k fun b hb => (hD b hb).2) (fun b hb => by
    obtain ⟨o, ho⟩ := R.frm_there b hb
    rw [ho]; exact k b o (fun q => (hD b q).1 hb) ho) R.off
end
end Mine
end
/-! ## part FW2 -/
section
open PySem PySem.W PyProof.Rows PySem.Calls
set_option bootstrap.genMatcherCode false
namespace Mine
structure AOk (k : Nat) (A : Around) : Prop where
  handled : A.handled = none
  depth : A.depth ≤ 301 + k
  units : A.units ≤ 10 + 10 * k
  kb : k ≤ 50
  fr0 : k = 0 → A.frames = some []
theorem AOk.le {k k' : Nat} {A : Around} (h : AOk k A) (hk : k ≤ k') (hb : k' ≤ 50) : AOk k' A := ⟨h.handled, by have := h.depth; (first | lia | omega), by have := h.units; (first | lia | omega), hb, fun e => h.fr0 (by (first | lia | omega))⟩
theorem AOk.room {k : Nat} {A : Around} (h : AOk k A) : A.depth < recursionLimit := by
  have h1 := h.depth
  have h2 := h.kb
  have : recursionLimit = 1000 := by decide +kernel
  (first | lia | omega)
theorem AOk.unit {k : Nat} {A : Around} (h : AOk k A) (j : Nat) (hj : j ≤ 1000) : A.units + j < cLine := by
  have h1 := h.units
  have h2 := h.kb
  have : cLine = 9900 := by decide +kernel
  (first | lia | omega)
theorem AOk.deeper {k : Nat} {A : Around} (h : AOk k A) (env : Env) (hk : k + 1 ≤ 50) : AOk (k + 1) (A.deeper env) :=
  ⟨h.handled, by show A.depth + 1 ≤ _; have := h.depth; (first | lia | omega), by show A.units + 3 ≤ _; have := h.units; (first | lia | omega), hk, fun e => by (first | lia | omega)⟩
structure EnvIs (A : Around) (t : Bool) (sc : Scope) (env : Env) : Prop where
  scope : env.scope = sc
  kind : sc.kind = .function
  globals : env.globals = mainGlobals
  builtins : env.builtins = builtinsNs
  on : t = true → A.frames = some [env] ∧ env.frame = some env.locals
structure Cx where
  prog : Program
  w : World
  base : Heap
  mg : Str → Option Value
  mb : Str → Option Value
structure Cx.Ok (c : Cx) : Prop where
  g : c.base.Ns mainGlobals c.mg
  b : c.base.Ns builtinsNs c.mb
  nolimit : c.base.NoLimit
  builtins : ∀ x, x ≠ Str.ofString "__name__" → c.mb x = bootBuiltins x
structure Fx where
  sc : Scope
  own : List Str
  k : Nat
  t : Bool
abbrev EM := AS → Option (AV × AS)
abbrev TM := AS → Option (Bool × AS)
inductive Fl where
  | next | brk | cont
  | ret (v : AV)
abbrev SM := AS → Option (Fl × AS)
inductive FR (K : KM) (ρ : List Addr) : Flow → Fl → Prop
  | next : FR K ρ .next .next
  | brk : FR K ρ .brk .brk
  | cont : FR K ρ .cont .cont
  | ret {u : Value} {v : AV} : VR K ρ u v → FR K ρ (.ret u) (.ret v)
/-- what is so behind a step: R says what was handed back -/
noncomputable def Pst (base : Heap) (env : Env) (oc : List (Str × Addr)) (K : KM) (ρ : List Addr) (s : Shared) (st' : AS) (R : KM → List Addr → Prop) (s' : Shared) : Prop :=
  ∃ K' ρ' h' tk', s' = { s with heap := h', toks := tk' } ∧ KLe K K' ∧ PLe ρ ρ' ∧ Rep base env oc K' ρ' st' h' ∧ R K' ρ'
noncomputable def Ev (c : Cx) (f : Fx) (e : Expr) (F : EM) : Prop :=
  ∀ A env oc, AOk f.k A → EnvIs A f.t f.sc env → oc.map (·.1) = f.own → ∀ st v st', F st = some (v, st') → ∀ K ρ s, Rep c.base env oc K ρ st s.heap →
    wpAny (model c.prog c.w) A (eval e env) (fun u => Pst c.base env oc K ρ s st' (fun K' ρ' => VR K' ρ' u v)) (fun _ _ => False) s
noncomputable def Tt (c : Cx) (f : Fx) (e : Expr) (F : TM) : Prop :=
  ∀ A env oc, AOk f.k A → EnvIs A f.t f.sc env → oc.map (·.1) = f.own → ∀ st b st', F st = some (b, st') → ∀ K ρ s, Rep c.base env oc K ρ st s.heap →
    wpAny (model c.prog c.w) A (isTrue e env (eval e env)) (fun b' => Pst c.base env oc K ρ s st' (fun _ _ => b' = b)) (fun _ _ => False) s
noncomputable def St (c : Cx) (f : Fx) (e : Stmt) (F : SM) : Prop :=
  ∀ A env oc, AOk f.k A → EnvIs A f.t f.sc env → oc.map (·.1) = f.own → ∀ st v st', F st = some (v, st') → ∀ K ρ s, Rep c.base env oc K ρ st s.heap →
    wpAny (model c.prog c.w) A (exec e env) (fun u => Pst c.base env oc K ρ s st' (fun K' ρ' => FR K' ρ' u v)) (fun _ _ => False) s
noncomputable def Ss (c : Cx) (f : Fx) (es : List Stmt) (F : SM) : Prop :=
  ∀ A env oc, AOk f.k A → EnvIs A f.t f.sc env → oc.map (·.1) = f.own → ∀ st v st', F st = some (v, st') → ∀ K ρ s, Rep c.base env oc K ρ st s.heap →
    wpAny (model c.prog c.w) A (execs es env) (fun u => Pst c.base env oc K ρ s st' (fun K' ρ' => FR K' ρ' u v)) (fun _ _ => False) s
section
variable {base : Heap} {env : Env} {oc : List (Str × Addr)} {K K₁ : KM} {ρ ρ₁ : List Addr} {st st' : AS} {s : Shared} {h₁ : Heap} {t₁ : Nat}
theorem Pst.mk {R : KM → List Addr → Prop} {K' : KM} {ρ' : List Addr} {h' : Heap} {tk' : Nat} (a : KLe K K') (b : PLe ρ ρ') (d : Rep base env oc K' ρ' st' h') (e : R K' ρ') : Pst base env oc K ρ s st' R { s with heap := h', toks := tk' } := ⟨K', ρ', h', tk', rfl, a, b, d, e⟩
theorem Pst.up {R : KM → List Addr → Prop} {s' : Shared} (hK : KLe K K₁) (hρ : PLe ρ ρ₁) (h : Pst base env oc K₁ ρ₁ { s with heap := h₁, toks := t₁ } st' R s') : Pst base env oc K ρ s st' R s' := by
  obtain ⟨K', ρ', h', tk', rfl, a, b, c, d⟩ := h
  exact Pst.mk (K' := K') (ρ' := ρ') (hK.trans a) (hρ.trans b) c d
theorem Pst.here {R : KM → List Addr → Prop} {tk : Nat} (h : Rep base env oc K ρ st s.heap) (r : R K ρ) : Pst base env oc K ρ s st R { s with toks := tk } :=
  (Pst.mk (K' := K) (ρ' := ρ) (KLe.refl K) (PLe.refl ρ) h r)
theorem Pst.now {R : KM → List Addr → Prop} (h : Rep base env oc K ρ st s.heap) (r : R K ρ) : Pst base env oc K ρ s st R s :=
  (Pst.mk (K' := K) (ρ' := ρ) (KLe.refl K) (PLe.refl ρ) h r)
theorem step {α : Type} {M : Model} {A : Around} {t : Sem α} {E : Value → Shared → Prop} {R : α → KM → List Addr → Prop} {Q : α → Shared → Prop}
    (h : wpAny M A t (fun u => Pst base env oc K ρ s st' (R u)) E s)
    (k : ∀ u K₁ ρ₁ h₁ t₁, KLe K K₁ → PLe ρ ρ₁ → Rep base env oc K₁ ρ₁ st' h₁ → R u K₁ ρ₁ → Q u { s with heap := h₁, toks := t₁ }) : wpAny M A t Q E s := by
  refine wpAny_mono h (fun u s' p => ?_) fun _ _ e => e
  obtain ⟨K', ρ', h', tk', rfl, a, b, c, d⟩ := p
  exact k u K' ρ' h' tk' a b c d
end
/-- an operation upon two values that makes nothing that counts -/
noncomputable def Op2 (c : Cx) (op : Value → Value → Sem Value) (f : List (List AV) → AV → AV → Option AV) : Prop :=
  ∀ k A, AOk k A → ∀ x y z H, f H x y = some z → ∀ K ρ (s : Shared), GRep c.base K ρ H s.heap → ∀ u v, VR K ρ u x → VR K ρ v y →
    ∀ Q : Value → Shared → Prop, (∀ r h' tk', (∀ b o, s.heap.get? b = some o → h'.get? b = some o) → VR K ρ r z → Q r { s with heap := h', toks := tk' }) →
      wpAny (model c.prog c.w) A (op u v) Q (fun _ _ => False) s
noncomputable def Op1 (c : Cx) (op : Value → Sem Value) (f : List (List AV) → AV → Option AV) : Prop :=
  ∀ k A, AOk k A → ∀ x z H, f H x = some z → ∀ K ρ (s : Shared), GRep c.base K ρ H s.heap → ∀ u, VR K ρ u x →
    ∀ Q : Value → Shared → Prop, (∀ r h' tk', (∀ b o, s.heap.get? b = some o → h'.get? b = some o) → VR K ρ r z → Q r { s with heap := h', toks := tk' }) →
      wpAny (model c.prog c.w) A (op u) Q (fun _ _ => False) s
noncomputable def TrOp (c : Cx) (f : List (List AV) → AV → Option Bool) : Prop :=
  ∀ k A, AOk k A → ∀ x z H, f H x = some z → ∀ K ρ (s : Shared), GRep c.base K ρ H s.heap → ∀ u, VR K ρ u x →
    ∀ Q : Bool → Shared → Prop, (∀ h' tk', (∀ b o, s.heap.get? b = some o → h'.get? b = some o) → Q z { s with heap := h', toks := tk' }) →
      wpAny (model c.prog c.w) A (truthy u) Q (fun _ _ => False) s
/-! ### the meanings -/
noncomputable def eVal (v : AV) : EM := fun st => some (v, st)
noncomputable def eVar (x : Str) : EM := fun st => match st.loc x with | some v => some (v, st) | none => none
noncomputable def eBin (f : List (List AV) → AV → AV → Option AV) (a b : EM) : EM := fun st => match a st with
  | some (x, s1) => match b s1 with
    | some (y, s2) => match f s2.H x y with
      | some z => some (z, s2)
      | none => none
    | none => none
  | none => none
noncomputable def eUn (f : List (List AV) → AV → Option AV) (a : EM) : EM := fun st => match a st with
  | some (x, s1) => match f s1.H x with
    | some z => some (z, s1)
    | none => none
  | none => none
noncomputable def tVal (f : List (List AV) → AV → Option Bool) (a : EM) : TM := fun st => match a st with
  | some (x, s1) => match f s1.H x with
    | some z => some (z, s1)
    | none => none
  | none => none
noncomputable def tCmp (f : List (List AV) → AV → AV → Option Bool) (a b : EM) : TM := fun st => match a st with
  | some (x, s1) => match b s1 with
    | some (y, s2) => match f s2.H x y with
      | some z => some (z, s2)
      | none => none
    | none => none
  | none => none
noncomputable def tNot (a : TM) : TM := fun st => match a st with
  | some (b, s1) => some (!b, s1)
  | none => none
noncomputable def tAnd (a b : TM) : TM := fun st => match a st with
  | some (true, s1) => b s1
  | some (false, s1) => some (false, s1)
  | none => none
noncomputable def tOr (a b : TM) : TM := fun st => match a st with
  | some (true, s1) => some (true, s1)
  | some (false, s1) => b s1
  | none => none
noncomputable def eIf (t : TM) (a b : EM) : EM := fun st => match t st with
  | some (true, s1) => a s1
  | some (false, s1) => b s1
  | none => none
noncomputable def AS.put (st : AS) (x : Str) (v : AV) : AS := { st with loc := fun y => if y = x then some v else st.loc y }
noncomputable def sAssign (x : Str) (a : EM) : SM := fun st => match a st with
  | some (v, s1) => some (.next, s1.put x v)
  | none => none
noncomputable def sRet (a : EM) : SM := fun st => match a st with
  | some (v, s1) => some (.ret v, s1)
  | none => none
noncomputable def sFl (f : Fl) : SM := fun st => some (f, st)
noncomputable def sSeq (a b : SM) : SM := fun st => match a st with
  | some (.next, s1) => b s1
  | r => r
noncomputable def sIf (t : TM) (a b : SM) : SM := fun st => match t st with
  | some (true, s1) => a s1
  | some (false, s1) => b s1
  | none => none
noncomputable def sWhile (t : TM) (b : SM) : Nat → SM
  | 0 => fun _ => none
  | n + 1 => fun st => match t st with
    | some (false, s1) => some (.next, s1)
    | some (true, s1) => match b s1 with
      | some (.next, s2) => sWhile t b n s2
      | some (.cont, s2) => sWhile t b n s2
      | some (.brk, s2) => some (.next, s2)
      | some (.ret v, s2) => some (.ret v, s2)
      | none => none
    | none => none
section
variable {c : Cx} {f : Fx}
theorem Ev.int (i : Int) (k : Nat) (pos : Pos) : Ev c f (.Constant (.int i) k pos) (eVal (.int i)) := by
  intro A env oc hA hE ho st v st' hF K ρ s R
  cases hF
  exact wpAny_Constant_int (Pst.here R (.int _ _))
theorem Ev.str (x : Str) (k : Nat) (pos : Pos) : Ev c f (.Constant (.str x) k pos) (eVal (.str x)) := by
  intro A env oc hA hE ho st v st' hF K ρ s R
  cases hF
  exact wpAny_Constant_str (Pst.here R (.str _ _))
theorem Ev.bool (b : Bool) (k : Nat) (pos : Pos) : Ev c f (.Constant (.bool b) k pos) (eVal (.bool b)) := by
  intro A env oc hA hE ho st v st' hF K ρ s R
  cases hF
  exact wpAny_Constant_bool (Pst.now R (.bool _))
theorem Ev.var (x : Str) (pos : Pos) (hd : (x == ("__debug__" : Str)) = false := by decide) (hn : (x == ("__classdict__" : Str)) = false := by decide) : Ev c f (.Name x pos) (eVar x) := by
  intro A env oc hA hE ho st v st' hF K ρ s R
  unfold eVar at hF
  cases hx : st.loc x with
  | none => rw [hx] at hF; cases hF
  | some v' =>
    rw [hx] at hF
    cases hF
    refine wpAny_Name ?_ hd
    have hk : env.scope.kind = .function := by rw [hE.scope]; exact hE.kind
    by_cases hl : env.kindOf x = some .local
    · obtain ⟨m, hn, hm⟩ := R.ns
      obtain ⟨u, e, r⟩ := hm x _ hl hx
      exact wpAny_loadName_local hk hl hn e (Pst.now R r)
    · obtain ⟨hkk, cc, u, h1, _, h3, h4⟩ := R.cells x _ hl hx
      rcases hkk with hkk | hkk
      · exact wpAny_loadName_cell hk hkk h1 h3 (Pst.now R h4)
      · exact wpAny_loadName_free hk hkk h1 h3 (Pst.now R h4) hn
theorem Ev.bin {a b : Expr} {op : Operator} {pos : Pos} {Fa Fb : EM} {g : List (List AV) → AV → AV → Option AV} (ha : Ev c f a Fa) (hb : Ev c f b Fb) (ho : Op2 c (binaryOp op) g) : Ev c f (.BinOp a op b pos) (eBin g Fa Fb) := by
  intro A env oc hA hE hoc st v st' hF K ρ s R
  unfold eBin at hF
  split at hF
  · rename_i x s1 h1
    split at hF
    · rename_i y s2 h2
      split at hF
      · rename_i z h3
        cases hF
        refine wpAny_BinOp (step (ha A env oc hA hE hoc _ _ _ h1 K ρ s R) fun u K₁ ρ₁ h₁ t₁ k1 p1 R1 r1 => ?_)
        refine step (hb A env oc hA hE hoc _ _ _ h2 K₁ ρ₁ _ R1) fun u' K₂ ρ₂ h₂ t₂ k2 p2 R2 r2 => ?_
        refine ho _ _ hA _ _ _ _ h3 K₂ ρ₂ _ R2.g _ _ (r1.mono k2 p2) r2 _ fun r h' tk' kk vr => ?_
        exact Pst.mk (K' := K₂) (ρ' := ρ₂) (k1.trans k2) (p1.trans p2) (R2.grow kk) vr
      · cases hF
    · cases hF
  · cases hF
theorem Ev.cmp {a b : Expr} {op : CmpOp} {pos : Pos} {Fa Fb : EM} {g : List (List AV) → AV → AV → Option AV} (ha : Ev c f a Fa) (hb : Ev c f b Fb) (ho : Op2 c (compareOp op) g) (hm : behindInMarks op b = false := by rfl) :
    Ev c f (.Compare a [op] [b] pos) (eBin g Fa Fb) := by
  intro A env oc hA hE hoc st v st' hF K ρ s R
  unfold eBin at hF
  split at hF
  · rename_i x s1 h1
    split at hF
    · rename_i y s2 h2
      split at hF
      · rename_i z h3
        cases hF
        refine wpAny_Compare1 (step (ha A env oc hA hE hoc _ _ _ h1 K ρ s R) fun u K₁ ρ₁ h₁ t₁ k1 p1 R1 r1 => ?_) hm
        refine step (hb A env oc hA hE hoc _ _ _ h2 K₁ ρ₁ _ R1) fun u' K₂ ρ₂ h₂ t₂ k2 p2 R2 r2 => ?_
        refine ho _ _ hA _ _ _ _ h3 K₂ ρ₂ _ R2.g _ _ (r1.mono k2 p2) r2 _ fun r h' tk' kk vr => ?_
        exact Pst.mk (K' := K₂) (ρ' := ρ₂) (k1.trans k2) (p1.trans p2) (R2.grow kk) vr
      · cases hF
    · cases hF
  · cases hF
theorem Tt.cmp {a b : Expr} {op : CmpOp} {pos : Pos} {Fa Fb : EM} {g : List (List AV) → AV → AV → Option Bool} (ha : Ev c f a Fa) (hb : Ev c f b Fb)
    (ho : Op2 c (compareOp op) (fun H x y => (g H x y).map AV.bool)) (hm : behindInMarks op b = false := by rfl) :
    Tt c f (.Compare a [op] [b] pos) (tCmp g Fa Fb) := by
  intro A env oc hA hE hoc st v st' hF K ρ s R
  unfold tCmp at hF
  split at hF
  · rename_i x s1 h1
    split at hF
    · rename_i y s2 h2
      split at hF
      · rename_i z h3
        cases hF
        refine wpAny_isTrue_Compare1 (step (ha A env oc hA hE hoc _ _ _ h1 K ρ s R) fun u K₁ ρ₁ h₁ t₁ k1 p1 R1 r1 => ?_) hm
        refine step (hb A env oc hA hE hoc _ _ _ h2 K₁ ρ₁ _ R1) fun u' K₂ ρ₂ h₂ t₂ k2 p2 R2 r2 => ?_
        refine ho _ _ hA _ _ _ _ (by show (g st'.H x y).map AV.bool = some (AV.bool v); rw [h3]; rfl) K₂ ρ₂ _ R2.g _ _ (r1.mono k2 p2) r2 _ fun r h' tk' kk vr => ?_
        cases vr
        exact wpAny_truthy_bool (Pst.mk (K' := K₂) (ρ' := ρ₂) (k1.trans k2) (p1.trans p2) (R2.grow kk) rfl)
      · cases hF
    · cases hF
  · cases hF
theorem Tt.val {a : Expr} {Fa : EM} {g : List (List AV) → AV → Option Bool} (ha : Ev c f a Fa) (ho : TrOp c g)
    (hw : ∀ env, isTrue a env (eval a env) = (do let v ← eval a env; standAt a.pos; holding [v] (truthy v)) := by intro _; rfl) : Tt c f a (tVal g Fa) := by
  intro A env oc hA hE hoc st v st' hF K ρ s R
  unfold tVal at hF
  split at hF
  · rename_i x s1 h1
    split at hF
    · rename_i z h3
      cases hF
      refine wpAny_isTrue_value (step (ha A env oc hA hE hoc _ _ _ h1 K ρ s R) fun u K₁ ρ₁ h₁ t₁ k1 p1 R1 r1 => ?_) (hw env)
      refine ho _ _ hA _ _ _ h3 K₁ ρ₁ _ R1.g _ r1 _ fun h' tk' kk => ?_
      exact Pst.mk (K' := K₁) (ρ' := ρ₁) k1 p1 (R1.grow kk) (by first | rfl | trivial)
    · cases hF
  · cases hF
theorem Tt.not {a : Expr} {pos : Pos} {Fa : TM} (ha : Tt c f a Fa) : Tt c f (.UnaryOp .Not a pos) (tNot Fa) := by
  intro A env oc hA hE hoc st v st' hF K ρ s R
  unfold tNot at hF
  split at hF
  · rename_i x s1 h1
    cases hF
    refine wpAny_isTrue_Not (step (ha A env oc hA hE hoc _ _ _ h1 K ρ s R) fun u K₁ ρ₁ h₁ t₁ k1 p1 R1 r1 => ?_)
    subst r1
    exact Pst.mk (K' := K₁) (ρ' := ρ₁) k1 p1 R1 (by first | rfl | trivial)
  · cases hF
theorem Tt.and {a b : Expr} {pos : Pos} {Fa Fb : TM} (ha : Tt c f a Fa) (hb : Tt c f b Fb) : Tt c f (.BoolOp .And [a, b] pos) (tAnd Fa Fb) := by
  intro A env oc hA hE hoc st v st' hF K ρ s R
  unfold tAnd at hF
  split at hF
  · rename_i s1 h1
    refine wpAny_isTrue_BoolOp (wpAny_allTrue_And_cons (step (ha A env oc hA hE hoc _ _ _ h1 K ρ s R) fun u K₁ ρ₁ h₁ t₁ k1 p1 R1 r1 => ?_))
    subst r1
    simp only [if_true]
    refine wpAny_allTrue_And_cons (step (hb A env oc hA hE hoc _ _ _ hF K₁ ρ₁ _ R1) fun u K₂ ρ₂ h₂ t₂ k2 p2 R2 r2 => ?_)
    subst r2
    cases u
    · exact Pst.mk (K' := K₂) (ρ' := ρ₂) (k1.trans k2) (p1.trans p2) R2 (by first | rfl | trivial)
    · simp only [if_true]
      exact wpAny_allTrue_And_nil (Pst.mk (K' := K₂) (ρ' := ρ₂) (k1.trans k2) (p1.trans p2) R2 (by first | rfl | trivial))
  · rename_i s1 h1
    cases hF
    refine wpAny_isTrue_BoolOp (wpAny_allTrue_And_cons (step (ha A env oc hA hE hoc _ _ _ h1 K ρ s R) fun u K₁ ρ₁ h₁ t₁ k1 p1 R1 r1 => ?_))
    subst r1
    simp only [Bool.false_eq_true, if_false]
    exact Pst.mk (K' := K₁) (ρ' := ρ₁) k1 p1 R1 (by first | rfl | trivial)
  · cases hF
theorem Tt.or {a b : Expr} {pos : Pos} {Fa Fb : TM} (ha : Tt c f a Fa) (hb : Tt c f b Fb) : Tt c f (.BoolOp .Or [a, b] pos) (tOr Fa Fb) := by
  intro A env oc hA hE hoc st v st' hF K ρ s R
  unfold tOr at hF
  split at hF
  · rename_i s1 h1
    cases hF
    refine wpAny_isTrue_BoolOp (wpAny_allTrue_Or_cons (step (ha A env oc hA hE hoc _ _ _ h1 K ρ s R) fun u K₁ ρ₁ h₁ t₁ k1 p1 R1 r1 => ?_))
    subst r1
    simp only [if_true]
    exact Pst.mk (K' := K₁) (ρ' := ρ₁) k1 p1 R1 (by first | rfl | trivial)
  · rename_i s1 h1
    refine wpAny_isTrue_BoolOp (wpAny_allTrue_Or_cons (step (ha A env oc hA hE hoc _ _ _ h1 K ρ s R) fun u K₁ ρ₁ h₁ t₁ k1 p1 R1 r1 => ?_))
    subst r1
    simp only [Bool.false_eq_true, if_false]
    refine wpAny_allTrue_Or_cons (step (hb A env oc hA hE hoc _ _ _ hF K₁ ρ₁ _ R1) fun u K₂ ρ₂ h₂ t₂ k2 p2 R2 r2 => ?_)
    subst r2
    cases u
    · simp only [Bool.false_eq_true, if_false]
      exact wpAny_allTrue_Or_nil (Pst.mk (K' := K₂) (ρ' := ρ₂) (k1.trans k2) (p1.trans p2) R2 (by first | rfl | trivial))
    · simp only [if_true]
      exact Pst.mk (K' := K₂) (ρ' := ρ₂) (k1.trans k2) (p1.trans p2) R2 (by first | rfl | trivial)
  · cases hF
theorem Ev.ife {t a b : Expr} {pos : Pos} {Ft : TM} {Fa Fb : EM} (ht : Tt c f t Ft) (ha : Ev c f a Fa) (hb : Ev c f b Fb) : Ev c f (.IfExp t a b pos) (eIf Ft Fa Fb) := by
  intro A env oc hA hE hoc st v st' hF K ρ s R
  unfold eIf at hF
  split at hF
  · rename_i s1 h1
    refine wpAny_IfExp (step (ht A env oc hA hE hoc _ _ _ h1 K ρ s R) fun u K₁ ρ₁ h₁ t₁ k1 p1 R1 r1 => ?_)
    subst r1
    simp only [if_true]
    exact wpAny_mono (ha A env oc hA hE hoc _ _ _ hF K₁ ρ₁ _ R1) (fun _ _ p => p.up k1 p1) fun _ _ e => e
  · rename_i s1 h1
    refine wpAny_IfExp (step (ht A env oc hA hE hoc _ _ _ h1 K ρ s R) fun u K₁ ρ₁ h₁ t₁ k1 p1 R1 r1 => ?_)
    subst r1
    simp only [Bool.false_eq_true, if_false]
    exact wpAny_mono (hb A env oc hA hE hoc _ _ _ hF K₁ ρ₁ _ R1) (fun _ _ p => p.up k1 p1) fun _ _ e => e
  · cases hF
/-! ### statements -/
theorem Ss.nil : Ss c f [] (sFl .next) := by
  intro A env oc hA hE hoc st v st' hF K ρ s R
  cases hF
  exact wpAny_execs_nil (Pst.now R .next)
theorem Ss.cons {a : Stmt} {rest : List Stmt} {Fa Fr : SM} (ha : St c f a Fa) (hr : Ss c f rest Fr) : Ss c f (a :: rest) (sSeq Fa Fr) := by
  intro A env oc hA hE hoc st v st' hF K ρ s R
  unfold sSeq at hF
  split at hF
  · rename_i s1 h1
    refine wpAny_execs_cons (step (ha A env oc hA hE hoc _ _ _ h1 K ρ s R) fun u K₁ ρ₁ h₁ t₁ k1 p1 R1 r1 => ?_)
    cases r1
    exact wpAny_mono (hr A env oc hA hE hoc _ _ _ hF K₁ ρ₁ _ R1) (fun _ _ p => p.up k1 p1) fun _ _ e => e
  · rename_i h1
    refine wpAny_execs_cons (wpAny_mono (ha A env oc hA hE hoc _ _ _ hF K ρ s R) (fun u s' p => ?_) fun _ _ e => e)
    cases u with
    | next =>
      obtain ⟨K₁, ρ₁, h₁, t₁, rfl, k1, p1, R1, r1⟩ := p
      cases r1
      exact absurd hF (h1 _)
    | brk => exact p
    | cont => exact p
    | ret v => exact p
theorem Ss.one {a : Stmt} {Fa : SM} (ha : St c f a Fa) : Ss c f [a] Fa := by
  intro A env oc hA hE hoc st v st' hF K ρ s R
  refine wpAny_execs_cons (wpAny_mono (ha A env oc hA hE hoc _ _ _ hF K ρ s R) (fun u s' p => ?_) fun _ _ e => e)
  cases u with
  | next => exact wpAny_execs_nil p
  | brk => exact p
  | cont => exact p
  | ret v => exact p
theorem St.brk (pos : Pos) : St c f (.Break pos) (sFl .brk) := by
  intro A env oc hA hE hoc st v st' hF K ρ s R
  cases hF
  exact wpAny_Break (Pst.now R .brk)
theorem St.cont (pos : Pos) : St c f (.Continue pos) (sFl .cont) := by
  intro A env oc hA hE hoc st v st' hF K ρ s R
  cases hF
  exact wpAny_Continue (Pst.now R .cont)
theorem St.ret {a : Expr} {pos : Pos} {Fa : EM} (ha : Ev c f a Fa) : St c f (.Return (some a) pos) (sRet Fa) := by
  intro A env oc hA hE hoc st v st' hF K ρ s R
  unfold sRet at hF
  split at hF
  · rename_i v' s1 h1
    cases hF
    refine wpAny_Return_some (step (ha A env oc hA hE hoc _ _ _ h1 K ρ s R) fun u K₁ ρ₁ h₁ t₁ k1 p1 R1 r1 => ?_)
    exact Pst.mk (K' := K₁) (ρ' := ρ₁) k1 p1 R1 (.ret r1)
  · cases hF
theorem St.ite {t : Expr} {a b : List Stmt} {pos : Pos} {Ft : TM} {Fa Fb : SM} (ht : Tt c f t Ft) (ha : Ss c f a Fa) (hb : Ss c f b Fb) : St c f (.If t a b pos) (sIf Ft Fa Fb) := by
  intro A env oc hA hE hoc st v st' hF K ρ s R
  unfold sIf at hF
  split at hF
  · rename_i s1 h1
    refine wpAny_If (step (ht A env oc hA hE hoc _ _ _ h1 K ρ s R) fun u K₁ ρ₁ h₁ t₁ k1 p1 R1 r1 => ?_)
    subst r1
    simp only [if_true]
    exact wpAny_mono (ha A env oc hA hE hoc _ _ _ hF K₁ ρ₁ _ R1) (fun _ _ p => p.up k1 p1) fun _ _ e => e
  · rename_i s1 h1
    refine wpAny_If (step (ht A env oc hA hE hoc _ _ _ h1 K ρ s R) fun u K₁ ρ₁ h₁ t₁ k1 p1 R1 r1 => ?_)
    subst r1
    simp only [Bool.false_eq_true, if_false]
    exact wpAny_mono (hb A env oc hA hE hoc _ _ _ hF K₁ ρ₁ _ R1) (fun _ _ p => p.up k1 p1) fun _ _ e => e
  · cases hF
/-- storing a name -/
theorem store_rep {A : Around} {env : Env} {oc : List (Str × Addr)} {st : AS} {K : KM} {ρ : List Addr} {s : Shared} {x : Str} {u : Value} {v : AV} (hE : EnvIs A f.t f.sc env) (hoc : oc.map (·.1) = f.own)
    (hx : f.sc.names.lookup x = some .local ∨ (f.sc.names.lookup x = some .cell ∧ x ∈ f.own)) (R : Rep c.base env oc K ρ st s.heap) (r : VR K ρ u v) {Q : Unit → Shared → Prop}
    (hQ : ∀ h' tk', Rep c.base env oc K ρ (st.put x v) h' → (∀ b, b ∉ frm env oc → h'.get? b = s.heap.get? b) → Q () { s with heap := h', toks := tk' }) : wpAny (model c.prog c.w) A (storeName env x u) Q (fun _ _ => False) s := by
  have hk : env.scope.kind = .function := by rw [hE.scope]; exact hE.kind
  have hkk : ∀ y, env.kindOf y = f.sc.names.lookup y := fun y => by unfold Env.kindOf; rw [hE.scope]
  have hap := List.pairwise_cons.mp R.apart
  rcases hx with hl | ⟨hl, hm⟩
  · obtain ⟨m, hn, hm⟩ := R.ns
    refine wpAny_storeName_local (by rw [hkk]; exact hl) hn (fun h' hn' hs' => ?_) (by rw [hk]; rfl)
    have hL := R.off env.locals List.mem_cons_self
    refine hQ h' _ ⟨R.g.but (D := [env.locals]) (fun b o hb e => (hs'.2 b (by simpa using hb)).trans e) (by intro b hb; simp at hb; subst hb; exact hL), ⟨_, hn', fun y v' hy hv => ?_⟩, fun y v' hy hv => ?_, fun p hp => ?_, R.apart, R.off⟩ (fun b hb => hs'.2 b (by rintro rfl; exact hb List.mem_cons_self))
    · unfold AS.put at hv
      dsimp only at hv
      by_cases q : y = x
      · subst q
        rw [if_pos rfl] at hv; cases hv
        exact ⟨u, if_pos rfl, r⟩
      · rw [if_neg q] at hv
        obtain ⟨u', e, r'⟩ := hm y v' hy hv
        exact ⟨u', by rw [if_neg q]; exact e, r'⟩
    · unfold AS.put at hv
      dsimp only at hv
      have q : y ≠ x := by rintro rfl; exact hy (by rw [hkk]; exact hl)
      rw [if_neg q] at hv
      obtain ⟨h1, cc, u', h2, h3, ⟨o, h4, h4'⟩, h5⟩ := R.cells y v' hy hv
      refine ⟨h1, cc, u', h2, h3, ⟨o, ?_, h4'⟩, h5⟩
      refine (hs'.2 cc ?_).trans h4
      rcases h3 with h3 | ⟨o', h3⟩
      · exact fun q => hap.1 cc (List.mem_map.mpr ⟨_, h3, rfl⟩) q.symm
      · rintro rfl; rw [hL.2] at h3; cases h3
    · obtain ⟨h1, h2, u', o, h3, h4⟩ := R.own p hp
      exact ⟨h1, h2, u', o, (hs'.2 _ fun q => hap.1 _ (List.mem_map.mpr ⟨p, hp, rfl⟩) q.symm).trans h3, h4⟩
  · rw [← hoc] at hm
    obtain ⟨p, hp, rfl⟩ := List.mem_map.mp hm
    obtain ⟨x, cc⟩ := p
    obtain ⟨h1, h2, u', hc⟩ := R.own _ hp
    dsimp only at h1 h2 hc hl ⊢
    have hC := R.off cc (List.mem_cons_of_mem _ (List.mem_map.mpr ⟨_, hp, rfl⟩))
    have hLC : env.locals ≠ cc := hap.1 _ (List.mem_map.mpr ⟨_, hp, rfl⟩)
    refine wpAny_storeName_cell hk h1 h2 hc fun h' hc' hs' => ?_
    have other : ∀ y c', (y, c') ∈ oc → y ≠ x → c' ≠ cc := by
      intro y c' hy hne e
      subst e
      have hp2 := List.pairwise_map.mp hap.2
      exact hne (name_of_addr hp2 hy hp)
    refine hQ h' s.toks ⟨R.g.but (D := [cc]) (fun b o hb e => (hs'.2 b (by simpa using hb)).trans e) (by intro b hb; simp at hb; subst hb; exact hC), ?_, fun y v' hy hv => ?_, fun p hp' => ?_, R.apart, R.off⟩ (fun b hb => hs'.2 b (by rintro rfl; exact hb (List.mem_cons_of_mem _ (List.mem_map.mpr ⟨_, hp, rfl⟩))))
    · obtain ⟨m, ⟨o, es, ep, g1, g2⟩, hm⟩ := R.ns
      refine ⟨m, ⟨o, es, ep, (hs'.2 _ hLC).trans g1, g2⟩, fun y v' hy hv => ?_⟩
      unfold AS.put at hv
      dsimp only at hv
      have q : y ≠ x := by rintro rfl; rw [h1] at hy; cases hy
      rw [if_neg q] at hv
      exact hm y v' hy hv
    · unfold AS.put at hv
      dsimp only at hv
      by_cases q : y = x
      · subst q
        rw [if_pos rfl] at hv; cases hv
        exact ⟨.inl h1, cc, u, h2, .inl hp, hc', r⟩
      · rw [if_neg q] at hv
        obtain ⟨g1, c', u'', g2, g3, ⟨o, g4, g4'⟩, g5⟩ := R.cells y v' hy hv
        refine ⟨g1, c', u'', g2, g3, ⟨o, ?_, g4'⟩, g5⟩
        refine (hs'.2 c' ?_).trans g4
        rcases g3 with g3 | ⟨o', g3⟩
        · exact other y c' g3 q
        · rintro rfl; rw [hC.2] at g3; cases g3
    · obtain ⟨g1, g2, u'', o, g3, g4⟩ := R.own p hp'
      refine ⟨g1, g2, ?_⟩
      by_cases q : p.1 = x
      · have : p.2 = cc := by rw [q, h2] at g2; exact (Option.some.inj g2).symm
        rw [this]; exact ⟨_, hc'⟩
      · exact ⟨u'', o, (hs'.2 _ (other p.1 p.2 hp' q)).trans g3, g4⟩
theorem St.assign {x : Str} {a : Expr} {p' pos : Pos} {Fa : EM} (ha : Ev c f a Fa) (hx : f.sc.names.lookup x = some .local ∨ (f.sc.names.lookup x = some .cell ∧ x ∈ f.own))
    (hs : ∀ env, swapsWith a (some (.Name x p')) pos.line env = pure false := by intro _; rfl) : St c f (.Assign [.Name x p'] a pos) (sAssign x Fa) := by
  intro A env oc hA hE hoc st v st' hF K ρ s R
  unfold sAssign at hF
  split at hF
  · rename_i v' s1 h1
    cases hF
    refine wpAny_Assign_Name (step (ha A env oc hA hE hoc _ _ _ h1 K ρ s R) fun u K₁ ρ₁ h₁ t₁ k1 p1 R1 r1 => ?_) (hs env)
    refine store_rep hE hoc hx R1 r1 fun h' tk' R2 _ => ?_
    exact Pst.mk (K' := K₁) (ρ' := ρ₁) k1 p1 R2 .next
  · cases hF
noncomputable def LoopQ (Inv : Nat → Shared → Prop) (Q : Flow → Shared → Prop) (n : Nat) (fl : Flow) (s : Shared) : Prop := match fl with
  | .next | .cont => ∃ m, m < n ∧ Inv m s
  | .brk => Q .next s
  | .ret v => Q (.ret v) s
theorem while_rule {prog : Program} {w : World} {A : Around} {env : Env} {t : Expr} {b : List Stmt} {pos : Pos} {s : Shared} (Inv : Nat → Shared → Prop) (Q : Flow → Shared → Prop)
    (turn : ∀ n s, Inv n s → wpAny (model prog w) A (isTrue t env (eval t env)) (fun x s₂ => if x = true then wpAny (model prog w) A (execs b env) (LoopQ Inv Q n) (fun _ _ => False) s₂ else Q .next s₂) (fun _ _ => False) s)
    (n : Nat) (h : Inv n s) : wpAny (model prog w) A (exec (.While t b [] pos) env) Q (fun _ _ => False) s := by
  refine wpAny_While (codeAny_whileLoop Inv (fun n s' hI => wpAny_noRaise (wpAny_mono (turn n s' hI) (fun x s₂ hx => ?_) fun _ _ z => z)) n h)
  cases x with
  | false => exact wpAny_execs_nil hx
  | true =>
    refine wpAny_noRaise (wpAny_mono hx (fun fl s₃ h3 => ?_) fun _ _ z => z)
    cases fl with
    | next => exact h3
    | cont => exact h3
    | brk => exact h3
    | ret v => exact h3
inductive WInv (c : Cx) (env : Env) (oc : List (Str × Addr)) (K : KM) (ρ : List Addr) (s : Shared) (Ft : TM) (Fb : SM) (out : Fl × AS) (n : Nat) : Shared → Prop
  | mk {sa : AS} {K' : KM} {ρ' : List Addr} {h' : Heap} {tk' : Nat} : KLe K K' → PLe ρ ρ' → Rep c.base env oc K' ρ' sa h' → sWhile Ft Fb n sa = some out → WInv c env oc K ρ s Ft Fb out n { s with heap := h', toks := tk' }
theorem St.whileS {t : Expr} {b : List Stmt} {pos : Pos} {Ft : TM} {Fb : SM} (n : Nat) (ht : Tt c f t Ft) (hb : Ss c f b Fb) : St c f (.While t b [] pos) (sWhile Ft Fb n) := by
  intro A env oc hA hE hoc st v st' hF K ρ s R
  refine while_rule (WInv c env oc K ρ s Ft Fb (v, st')) _ ?_ n (.mk (KLe.refl K) (PLe.refl ρ) R hF)
  rintro n s' ⟨k0, p0, R0, hF⟩
  rename_i st K₀ ρ₀ h₀ t₀
  cases n with
  | zero => cases hF
  | succ n =>
    unfold sWhile at hF
    cases h1 : Ft st with
    | none => rw [h1] at hF; cases hF
    | some r =>
      obtain ⟨bb, s1⟩ := r
      rw [h1] at hF
      refine step (s := { s with heap := h₀, toks := t₀ }) (ht A env oc hA hE hoc _ _ _ h1 K₀ ρ₀ _ R0) fun u K₁ ρ₁ h₁ t₁ k1 p1 R1 r1 => ?_
      subst r1
      cases u with
      | false =>
        cases hF
        exact Pst.mk (k0.trans k1) (p0.trans p1) R1 .next
      | true =>
        dsimp only at hF
        rw [if_pos rfl]
        cases h2 : Fb s1 with
        | none => rw [h2] at hF; cases hF
        | some r =>
          obtain ⟨fl, s2⟩ := r
          rw [h2] at hF
          refine step (s := { s with heap := h₁, toks := t₁ }) (hb A env oc hA hE hoc _ _ _ h2 K₁ ρ₁ _ R1) fun u K₂ ρ₂ h₂ t₂ k2 p2 R2 r2 => ?_
          have kk := k0.trans (k1.trans k2)
          have pp := p0.trans (p1.trans p2)
          cases r2 with
          | next => exact ⟨n, Nat.lt_succ_self n, .mk kk pp R2 hF⟩
          | cont => exact ⟨n, Nat.lt_succ_self n, .mk kk pp R2 hF⟩
          | brk => cases hF; exact Pst.mk kk pp R2 .next
          | ret r => cases hF; exact Pst.mk kk pp R2 (.ret r)
end
end Mine
end
/-! ## part FW3 -/
section
open PySem PySem.W PyProof.Rows PySem.Calls
set_option bootstrap.genMatcherCode false
namespace Mine
/-! ### operations that make things -/
noncomputable def Stay (K : KM) (ρ : List Addr) (h : Heap) (K' : KM) (ρ' : List Addr) (h' : Heap) : Prop :=
  (∀ b o, b ∉ ρ → h.get? b = some o → h'.get? b = some o) ∧ (∀ a ∈ ρ', a ∈ ρ ∨ h.get? a = none) ∧ (∀ b o, h.get? b = some o → K b = none → K' b = none)
theorem Stay.refl {K : KM} {ρ : List Addr} {h h' : Heap} (k : ∀ b o, h.get? b = some o → h'.get? b = some o) : Stay K ρ h K ρ h' := ⟨fun b o _ e => k b o e, fun _ ha => .inl ha, fun _ _ _ e => e⟩
theorem Stay.newK {K : KM} {ρ : List Addr} {h h' : Heap} {a : Addr} {o : Obj} (h0 : h.get? a = none) (k : ∀ b o, h.get? b = some o → h'.get? b = some o) : Stay K ρ h (K.set a o) ρ h' :=
  ⟨fun b o _ e => k b o e, fun _ ha => .inl ha, fun b o' e e' => by unfold KM.set; rw [if_neg (by rintro rfl; rw [h0] at e; cases e)]; exact e'⟩
theorem Stay.newL {K : KM} {ρ : List Addr} {h h' : Heap} {a : Addr} (h0 : h.get? a = none) (k : ∀ b o, h.get? b = some o → h'.get? b = some o) : Stay K ρ h K (ρ ++ [a]) h' :=
  ⟨fun b o _ e => k b o e, fun b hb => by
    rcases List.mem_append.mp hb with hb | hb
    · exact .inl hb
    · simp at hb; subst hb; exact .inr h0, fun _ _ _ e => e⟩
theorem Stay.setL {K : KM} {ρ : List Addr} {h h' : Heap} {i : Nat} {a : Addr} (hi : ρ[i]? = some a) (hs : Heap.SameBut a h h') : Stay K ρ h K ρ h' :=
  ⟨fun b o hb e => (hs.2 b (by rintro rfl; exact hb (mem_of_get hi))).trans e, fun _ ha => .inl ha, fun _ _ _ e => e⟩
section
variable {base : Heap} {env : Env} {oc : List (Str × Addr)} {K : KM} {ρ : List Addr} {st : AS} {h : Heap}
theorem Rep.stay (R : Rep base env oc K ρ st h) {K' : KM} {ρ' : List Addr} {H' : List (List AV)} {h' : Heap} (hK : KLe K K') (hρ : PLe ρ ρ') (G : GRep base K' ρ' H' h') (S : Stay K ρ h K' ρ' h') :
    Rep base env oc K' ρ' { st with H := H' } h' := by
  refine R.move hK hρ G (fun b hb => ?_) fun b hb => ?_
  · obtain ⟨o, ho⟩ := R.frm_there b hb
    rw [ho]; exact S.1 b o (R.off b hb).1 ho
  · obtain ⟨o, ho⟩ := R.frm_there b hb
    refine ⟨fun hm => ?_, S.2.2 b o ho (R.off b hb).2⟩
    rcases S.2.1 b hm with q | q
    · exact (R.off b hb).1 q
    · rw [ho] at q; cases q
theorem Rep.frm_notval (R : Rep base env oc K ρ st h) : ∀ b ∈ frm env oc, ∀ o, h.get? b = some o → NotVal o := by
  intro b hb o e
  rcases List.mem_cons.mp hb with rfl | hb
  · obtain ⟨m, ⟨o', es, ep, ho, hd, hrest⟩, hm⟩ := R.ns
    rw [e] at ho; cases ho
    exact ⟨fun us n e' => (by rw [hd] at e'; cases e'), fun fs e' => (by rw [hd] at e'; cases e')⟩
  · obtain ⟨p, hp, rfl⟩ := List.mem_map.mp hb
    obtain ⟨h1, h2, u, o', ho, hd⟩ := R.own p hp
    rw [e] at ho; cases ho
    exact ⟨fun us n e' => (by rw [hd] at e'; cases e'), fun fs e' => (by rw [hd] at e'; cases e')⟩
end
/-- «args» and «H» give a value and the lists behind it -/
abbrev GF := List AV → List (List AV) → Option (AV × List (List AV))
noncomputable def Gop (c : Cx) (t : List Value → Sem Value) (g : GF) : Prop :=
  ∀ k A, AOk k A → ∀ args H v H', g args H = some (v, H') → ∀ K ρ (s : Shared), GRep c.base K ρ H s.heap → ∀ us, VRs K ρ us args →
    ∀ Q : Value → Shared → Prop, (∀ u K' ρ' h' tk', KLe K K' → PLe ρ ρ' → GRep c.base K' ρ' H' h' → VR K' ρ' u v → Stay K ρ s.heap K' ρ' h' → Q u { s with heap := h', toks := tk' }) →
      wpAny (model c.prog c.w) A (t us) Q (fun _ _ => False) s
noncomputable def Fn (c : Cx) (k : Nat) (fa : Addr) (g : GF) : Prop :=
  ∀ A, AOk k A → ∀ args H v H', g args H = some (v, H') → ∀ K ρ (s : Shared), GRep c.base K ρ H s.heap → ∀ us, VRs K ρ us args →
    ∀ Q : Value → Shared → Prop, (∀ u K' ρ' h' tk', KLe K K' → PLe ρ ρ' → GRep c.base K' ρ' H' h' → VR K' ρ' u v → Q u { s with heap := h', toks := tk' }) →
      wpAny (model c.prog c.w) A (call (.ref fa) us) Q (fun _ _ => False) s
theorem Fn.weaken {c : Cx} {k k' : Nat} {fa : Addr} {g g' : GF} (h : Fn c k fa g) (hk : k' ≤ k) (hb : k ≤ 50) (hg : ∀ args H r, g' args H = some r → g args H = some r) : Fn c k' fa g' :=
  fun A hA args H v H' e => h A (hA.le hk hb) args H v H' (hg _ _ _ e)
abbrev EsM := AS → Option (List AV × AS)
noncomputable def esNil : EsM := fun st => some ([], st)
noncomputable def esCons (a : EM) (r : EsM) : EsM := fun st => match a st with
  | some (x, s1) => match r s1 with
    | some (xs, s2) => some (x :: xs, s2)
    | none => none
  | none => none
noncomputable def eCall (g : GF) (a : EsM) : EM := fun st => match a st with
  | some (xs, s1) => match g xs s1.H with
    | some (v, H') => some (v, { s1 with H := H' })
    | none => none
  | none => none
noncomputable def Es (c : Cx) (f : Fx) (es : List Expr) (F : EsM) : Prop :=
  ∀ A env oc, AOk f.k A → EnvIs A f.t f.sc env → oc.map (·.1) = f.own → ∀ st v st', F st = some (v, st') → ∀ K ρ s, Rep c.base env oc K ρ st s.heap → ∀ pos,
    wpAny (model c.prog c.w) A (spliced (backTo pos (starEach es env))) (fun u => Pst c.base env oc K ρ s st' (fun K' ρ' => VRs K' ρ' u v)) (fun _ _ => False) s
section
variable {c : Cx} {f : Fx}
theorem Es.nil : Es c f [] esNil := by
  intro A env oc hA hE ho st v st' hF K ρ s R pos
  cases hF
  exact wpAny_items_nil (Pst.now R .nil)
theorem Es.cons {a : Expr} {r : List Expr} {Fa : EM} {Fr : EsM} (ha : Ev c f a Fa) (hr : Es c f r Fr) (hs : ∀ env, starEach (a :: r) env = (false, eval a env) :: starEach r env := by intro _; rfl) : Es c f (a :: r) (esCons Fa Fr) := by
  intro A env oc hA hE hoc st v st' hF K ρ s R pos
  unfold esCons at hF
  split at hF
  · rename_i x s1 h1
    split at hF
    · rename_i xs s2 h2
      cases hF
      refine wpAny_items_cons (step (ha A env oc hA hE hoc _ _ _ h1 K ρ s R) fun u K₁ ρ₁ h₁ t₁ k1 p1 R1 r1 => ?_) (hs env)
      refine step (hr A env oc hA hE hoc _ _ _ h2 K₁ ρ₁ _ R1 pos) fun u' K₂ ρ₂ h₂ t₂ k2 p2 R2 r2 => ?_
      exact Pst.mk (K' := K₂) (ρ' := ρ₂) (k1.trans k2) (p1.trans p2) R2 (.cons (r1.mono k2 p2) r2)
    · cases hF
  · cases hF
theorem Gop.use {t : List Value → Sem Value} {g : GF} (ho : Gop c t g) {A : Around} {env : Env} {oc : List (Str × Addr)} {k : Nat} (hA : AOk k A) {st : AS} {args : List AV} {v : AV} {H' : List (List AV)}
    (e : g args st.H = some (v, H')) {K : KM} {ρ : List Addr} {s : Shared} (R : Rep c.base env oc K ρ st s.heap) {us : List Value} (r : VRs K ρ us args) {Q : Value → Shared → Prop}
    (hQ : ∀ u K₁ ρ₁ h₁ t₁, KLe K K₁ → PLe ρ ρ₁ → Rep c.base env oc K₁ ρ₁ { st with H := H' } h₁ → VR K₁ ρ₁ u v → Q u { s with heap := h₁, toks := t₁ }) : wpAny (model c.prog c.w) A (t us) Q (fun _ _ => False) s :=
  ho k A hA _ _ _ _ e K ρ s R.g us r _ fun u K' ρ' h' tk' a b d e' S => hQ u K' ρ' h' tk' a b (R.stay a b d S) e'
theorem Fn.use {fa : Addr} {g : GF} {k : Nat} (ho : Fn c k fa g) {A : Around} {env : Env} {oc : List (Str × Addr)} (hA : AOk k A) {st : AS} {args : List AV} {v : AV} {H' : List (List AV)}
    (e : g args st.H = some (v, H')) {K : KM} {ρ : List Addr} {s : Shared} (R : Rep c.base env oc K ρ st s.heap) {us : List Value} (r : VRs K ρ us args) {Q : Value → Shared → Prop}
    (hQ : ∀ u K₁ ρ₁ h₁ t₁, KLe K K₁ → PLe ρ ρ₁ → Rep c.base env oc K₁ ρ₁ { st with H := H' } h₁ → VR K₁ ρ₁ u v → Q u { s with heap := h₁, toks := t₁ }) : wpAny (model c.prog c.w) A (call (.ref fa) us) Q (fun _ _ => False) s := by
  have G := R.g.lock (D := frm env oc) fun b hb => (R.off b hb).1
  have hle : KLe K (K.lock s.heap (frm env oc)) := KLe.lock R.g.keep
  refine ho A hA _ _ _ _ e _ ρ s G us (r.mono hle (PLe.refl ρ)) _ fun u K' ρ' h' tk' a b d e' => ?_
  have hK' : ∀ x ∈ frm env oc, ∃ o, s.heap.get? x = some o ∧ K' x = some o := fun x hx => by
    obtain ⟨o, ho⟩ := R.frm_there x hx
    exact ⟨o, ho, a x o (by unfold KM.lock; rw [if_pos hx]; exact ho)⟩
  have hN : ∀ x ∈ frm env oc, ∀ o, K' x = some o → NotVal o := fun x hx o e => by
    obtain ⟨o', h1, h2⟩ := hK' x hx
    rw [e] at h2; cases h2
    exact R.frm_notval x hx o h1
  have hB : ∀ x ∈ frm env oc, c.base.get? x = none := fun x hx => by
    cases e : c.base.get? x with
    | none => rfl
    | some o => have := R.g.base x o e; rw [(R.off x hx).2] at this; cases this
  refine hQ u (K'.free (frm env oc)) ρ' h' tk' (KLe.free (hle.trans a) fun x hx => (R.off x hx).2) b (R.move (KLe.free (hle.trans a) fun x hx => (R.off x hx).2) b (d.free hB hN) (fun x hx => ?_) fun x hx => ⟨fun hm => ?_, ?_⟩) (e'.free hN)
  · obtain ⟨o, h1, h2⟩ := hK' x hx
    rw [h1]; exact d.keep x o h2
  · obtain ⟨o, h1, h2⟩ := hK' x hx
    rw [d.fresh x hm] at h2; cases h2
  · unfold KM.free; rw [if_pos hx]
end
end Mine
end
/-! ## part FW4 -/
section
open PySem PySem.W PyProof.Rows PySem.Calls
set_option bootstrap.genMatcherCode false
namespace Mine
section
variable {c : Cx} {f : Fx}
theorem eval_callName (x : Str) (np : Pos) (args : List Expr) (pos : Pos) (env : Env) :
    eval (.Call (.Name x np) args [] pos) env = (eval (.Name x np) env >>= fun fv => callWith pos fv [] (backTo pos (starEach args env)) []) := by rfl
theorem ns_up {h : Heap} {K : KM} {ρ : List Addr} {H : List (List AV)} (G : GRep c.base K ρ H h) {a : Addr} {m : Str → Option Value} (n : c.base.Ns a m) : h.Ns a m := n.at' fun o e => G.keep _ _ (G.base _ _ e)
/-- a call of something that is no object of the heap -/
theorem callWith_val {A : Around} {fv : Value} {first : List Value} {e : Expr} {rest : List Expr} {env : Env} {pos : Pos} {s : Shared} {Q : Value → Shared → Prop} {M : Model} {E : Value → Shared → Prop} (hk : keeperOf fv = pure .machine)
    (hplain : (backTo pos (starEach (e :: rest) env)).any (·.1) = false) (he : starEach (e :: rest) env = (false, eval e env) :: starEach rest env)
    (h : wpAny M A (spliced (backTo pos (starEach (e :: rest) env))) (fun vs s₁ => wpAny M A (call fv (first ++ vs)) Q E s₁) E s) :
    wpAny M A (callWith pos fv first (backTo pos (starEach (e :: rest) env)) []) Q E s := by
  refine callWith_of (P := fun _ => True) (by rw [hplain]; rfl) (fun _ _ => ⟨.machine, .inr (.inl rfl), Looks.of_pure hk⟩) ?_
  rw [he] at h ⊢
  exact evalArgs_plain (wpAny_mono h (fun vs s₁ h₁ => ⟨trivial, h₁⟩) fun _ _ x => x)
theorem callWith_val0 {A : Around} {fv : Value} {first : List Value} {env : Env} {pos : Pos} {s : Shared} {Q : Value → Shared → Prop} {M : Model} {E : Value → Shared → Prop} (hk : keeperOf fv = pure .machine)
    (h : wpAny M A (call fv (first ++ [])) Q E s) : wpAny M A (callWith pos fv first (backTo pos (starEach [] env)) []) Q E s :=
  callWith_of (P := fun _ => True) rfl (fun _ _ => ⟨.machine, .inr (.inl rfl), Looks.of_pure hk⟩) (evalArgs_nil3 ⟨trivial, h⟩)
theorem Ev.callB {x : Str} {np pos : Pos} {e : Expr} {rest : List Expr} {Fa : EsM} {fv : Value} {g : GF} (hc : c.Ok) (hx : f.sc.names.lookup x = some .globalImplicit) (hm : c.mg x = none) (hb : bootBuiltins x = some fv)
    (hk : keeperOf fv = pure .machine) (ha : Es c f (e :: rest) Fa) (ho : Gop c (fun us => call fv us) g)
    (hn : x ≠ Str.ofString "__name__" := by decide) (hd : (x == ("__debug__" : Str)) = false := by decide) (hplain : ∀ env, (backTo pos (starEach (e :: rest) env)).any (·.1) = false := by intro _; rfl) (he : ∀ env, starEach (e :: rest) env = (false, eval e env) :: starEach rest env := by intro _; rfl) :
    Ev c f (.Call (.Name x np) (e :: rest) [] pos) (eCall g Fa) := by
  intro A env oc hA hE hoc st v st' hF K ρ s R
  unfold eCall at hF
  split at hF
  · rename_i xs s1 h1
    split at hF
    · rename_i w H' h2
      cases hF
      rw [eval_callName]
      refine wpAny_bind (Name_function_global (by rw [hE.scope]; exact hE.kind) (by unfold Env.kindOf; rw [hE.scope]; exact hx) (loadGlobal_builtin (by rw [hE.globals]; exact ns_up R.g hc.g) hm (by rw [hE.builtins]; exact ns_up R.g hc.b) (by rw [hc.builtins x hn]; exact hb) ?_) hd)
      refine callWith_val hk (hplain env) (he env) (step (ha A env oc hA hE hoc _ _ _ h1 K ρ s R pos) fun u K₁ ρ₁ h₁ t₁ k1 p1 R1 r1 => ?_)
      rw [List.nil_append]
      refine ho.use hA h2 R1 r1 fun u' K₂ ρ₂ h₂ t₂ k2 p2 R2 r2 => ?_
      exact Pst.mk (K' := K₂) (ρ' := ρ₂) (k1.trans k2) (p1.trans p2) R2 r2
    · cases hF
  · cases hF
theorem Ev.callF {x : Str} {np pos : Pos} {e : Expr} {rest : List Expr} {Fa : EsM} {fa : Addr} {o : Obj} {fd : FuncData} {g : GF} (hc : c.Ok) (hx : f.sc.names.lookup x = some .globalImplicit) (hm : c.mg x = some (.ref fa))
    (ho : c.base.get? fa = some o) (hd : o.data = .func fd) (ha : Es c f (e :: rest) Fa) (hf : Fn c f.k fa g)
    (hdb : (x == ("__debug__" : Str)) = false := by decide) (hplain : ∀ env, (backTo pos (starEach (e :: rest) env)).any (·.1) = false := by intro _; rfl) (he : ∀ env, starEach (e :: rest) env = (false, eval e env) :: starEach rest env := by intro _; rfl) :
    Ev c f (.Call (.Name x np) (e :: rest) [] pos) (eCall g Fa) := by
  intro A env oc hA hE hoc st v st' hF K ρ s R
  unfold eCall at hF
  split at hF
  · rename_i xs s1 h1
    split at hF
    · rename_i w H' h2
      cases hF
      rw [eval_callName]
      refine wpAny_bind (Name_function_global (by rw [hE.scope]; exact hE.kind) (by unfold Env.kindOf; rw [hE.scope]; exact hx) (loadGlobal_global (by rw [hE.globals]; exact ns_up R.g hc.g) hm ?_) hdb)
      have hsp := ha A env oc hA hE hoc _ _ _ h1 K ρ s R pos
      rw [he env] at hsp ⊢
      refine callWith_function (o := o) (fd := fd) (evalArgs_plain ?_)
      refine step hsp fun u K₁ ρ₁ h₁ t₁ k1 p1 R1 r1 => ?_
      refine ⟨⟨R1.g.keep _ _ (R1.g.base _ _ ho), hd⟩, ?_⟩
      rw [List.nil_append]
      refine hf.use hA h2 R1 r1 fun u' K₂ ρ₂ h₂ t₂ k2 p2 R2 r2 => ?_
      exact Pst.mk (K' := K₂) (ρ' := ρ₂) (k1.trans k2) (p1.trans p2) R2 r2
    · cases hF
  · cases hF
/-- which built-in a method's name stands for -/
noncomputable def MGet (c : Cx) (name : Str) (p : AV → Bool) (id : String) : Prop :=
  ∀ x, p x = true → ∀ A K ρ H (s : Shared), GRep c.base K ρ H s.heap → ∀ u, VR K ρ u x →
    ∀ (pl : Sem Bool) (Q : Value × List Value → Shared → Prop), Q (.builtin id, [u]) s → wpAny (model c.prog c.w) A (getMethod u name pl) Q (fun _ _ => False) s
noncomputable def eMeth (p : AV → Bool) (g : GF) (o : EM) (a : EsM) : EM := fun st => match o st with
  | some (x, s1) => match p x with
    | true => match a s1 with
      | some (xs, s2) => match g (x :: xs) s2.H with
        | some (v, H') => some (v, { s2 with H := H' })
        | none => none
      | none => none
    | false => none
  | none => none
theorem Ev.meth {o : Expr} {name : Str} {apos pos : Pos} {e : Expr} {rest : List Expr} {Fo : EM} {Fa : EsM} {id : String} {p : AV → Bool} {g : GF} {pl : Env → Sem Bool} (hmg : MGet c name p id) (hob : Ev c f o Fo) (ha : Es c f (e :: rest) Fa) (ho : Gop c (fun us => call (.builtin id) us) g)
    (hev : ∀ env, eval (.Call (.Attribute o name apos) (e :: rest) [] pos) env = (do
      let ov ← eval o env
      standAt apos.atName
      let (f, first) ← holding [ov] (getMethod ov name (pl env))
      callWith pos f first (backTo pos (starEach (e :: rest) env)) []) := by intro _; rfl)
    (hplain : ∀ env, (backTo pos (starEach (e :: rest) env)).any (·.1) = false := by intro _; rfl) (he : ∀ env, starEach (e :: rest) env = (false, eval e env) :: starEach rest env := by intro _; rfl) :
    Ev c f (.Call (.Attribute o name apos) (e :: rest) [] pos) (eMeth p g Fo Fa) := by
  intro A env oc hA hE hoc st v st' hF K ρ s R
  unfold eMeth at hF
  split at hF
  · rename_i x s1 h1
    split at hF
    · rename_i hp
      split at hF
      · rename_i xs s2 h2
        split at hF
        · rename_i w H' h3
          cases hF
          rw [hev env]
          refine wpAny_bind (step (hob A env oc hA hE hoc _ _ _ h1 K ρ s R) fun u K₁ ρ₁ h₁ t₁ k1 p1 R1 r1 => wpAny_bind (wpAny_standAt (wpAny_bind (wpAny_holding ?_))))
          refine hmg x hp A K₁ ρ₁ _ _ R1.g u r1 _ _ ?_
          show wpAny _ A (callWith pos (.builtin id) [u] _ []) _ _ _
          refine callWith_val rfl (hplain env) (he env) (step (ha A env oc hA hE hoc _ _ _ h2 K₁ ρ₁ _ R1 pos) fun us K₂ ρ₂ h₂ t₂ k2 p2 R2 r2 => ?_)
          refine ho.use (us := u :: us) hA h3 R2 (.cons (r1.mono k2 p2) r2) fun u' K₃ ρ₃ h₃ t₃ k3 p3 R3 r3 => ?_
          exact Pst.mk (K' := K₃) (ρ' := ρ₃) (k1.trans (k2.trans k3)) (p1.trans (p2.trans p3)) R3 r3
        · cases hF
      · cases hF
    · cases hF
  · cases hF
theorem Ev.meth0 {o : Expr} {name : Str} {apos pos : Pos} {Fo : EM} {id : String} {p : AV → Bool} {g : GF} {pl : Env → Sem Bool} (hmg : MGet c name p id) (hob : Ev c f o Fo) (ho : Gop c (fun us => call (.builtin id) us) g)
    (hev : ∀ env, eval (.Call (.Attribute o name apos) [] [] pos) env = (do
      let ov ← eval o env
      standAt apos.atName
      let (f, first) ← holding [ov] (getMethod ov name (pl env))
      callWith pos f first (backTo pos (starEach [] env)) []) := by intro _; rfl) :
    Ev c f (.Call (.Attribute o name apos) [] [] pos) (eMeth p g Fo esNil) := by
  intro A env oc hA hE hoc st v st' hF K ρ s R
  unfold eMeth esNil at hF
  split at hF
  · rename_i x s1 h1
    split at hF
    · rename_i hp
      dsimp only at hF
      split at hF
      · rename_i w H' h3
        cases hF
        rw [hev env]
        refine wpAny_bind (step (hob A env oc hA hE hoc _ _ _ h1 K ρ s R) fun u K₁ ρ₁ h₁ t₁ k1 p1 R1 r1 => wpAny_bind (wpAny_standAt (wpAny_bind (wpAny_holding ?_))))
        refine hmg x hp A K₁ ρ₁ _ _ R1.g u r1 _ _ ?_
        show wpAny _ A (callWith pos (.builtin id) [u] _ []) _ _ _
        refine callWith_val0 rfl ?_
        refine ho.use (us := [u]) hA h3 R1 (.cons r1 .nil) fun u' K₃ ρ₃ h₃ t₃ k3 p3 R3 r3 => ?_
        exact Pst.mk (K' := K₃) (ρ' := ρ₃) (k1.trans k3) (p1.trans p3) R3 r3
      · cases hF
    · cases hF
  · cases hF
/-! ### displays, binary operations that make a list, subscripts -/
noncomputable def gTuple : GF := fun args H => some (.tuple args, H)
noncomputable def gList : GF := fun args H => some (.lst H.length, H ++ [args])
theorem newL_len {K : KM} {ρ : List Addr} {H : List (List AV)} {h : Heap} (G : GRep c.base K ρ H h) (a : Addr) : (ρ ++ [a])[H.length]? = some a := by
  rw [← G.len, List.getElem?_append_right (Nat.le_refl _)]; simp
theorem Ev.list {es : List Expr} {pos : Pos} {Fa : EsM} (ha : Es c f es Fa) (hz : es.length ≤ 1000) (hl : ∀ st xs s1, Fa st = some (xs, s1) → xs.length = es.length) : Ev c f (.List es pos) (eCall gList Fa) := by
  intro A env oc hA hE hoc st v st' hF K ρ s R
  unfold eCall gList at hF
  split at hF
  · rename_i xs s1 h1
    cases hF
    refine wpAny_List (step (ha A env oc hA hE hoc _ _ _ h1 K ρ s R pos) fun u K₁ ρ₁ h₁ t₁ k1 p1 R1 r1 => ?_)
    have hlen := hl _ _ _ h1
    refine ⟨by rw [r1.length, hlen]; exact Nat.le_trans hz (by decide), ?_⟩
    refine Pst.mk (K' := K₁) (ρ' := ρ₁ ++ [h₁.objs.size]) k1 (p1.trans (PLe.snoc _ _)) (R1.newL (get_none_of (Nat.le_refl _)) (fun _ _ e => Heap.get?_push_of_some _ e) (Heap.get?_push_size _ rfl) r1) (?_)
    exact .lst (newL_len R1.g _)
  · cases hF
theorem Ev.tuple {es : List Expr} {k : Nat} {pos : Pos} {Fa : EsM} (ha : Es c f es Fa) (hz : es.length ≤ 1000) (hl : ∀ st xs s1, Fa st = some (xs, s1) → xs.length = es.length) : Ev c f (.Tuple es k pos) (eCall gTuple Fa) := by
  intro A env oc hA hE hoc st v st' hF K ρ s R
  unfold eCall gTuple at hF
  split at hF
  · rename_i xs s1 h1
    cases hF
    refine wpAny_Tuple (step (ha A env oc hA hE hoc _ _ _ h1 K ρ s R pos) fun u K₁ ρ₁ h₁ t₁ k1 p1 R1 r1 => ?_)
    have hlen := hl _ _ _ h1
    refine ⟨by rw [r1.length, hlen]; exact Nat.le_trans hz (by decide), ?_⟩
    have h0 : h₁.get? h₁.objs.size = none := get_none_of (Nat.le_refl _)
    have hk := KLe.set (K := K₁) (a := h₁.objs.size) { cls := .type "tuple", data := .seq u.toArray } (R1.g.fresh_of h0).2
    refine ⟨K₁.set h₁.objs.size { cls := .type "tuple", data := .seq u.toArray }, ρ₁, h₁.push _, t₁, rfl, k1.trans hk, p1, R1.newK h0 (fun _ _ e => Heap.get?_push_of_some _ e) (Heap.get?_push_size _ rfl), ?_⟩
    exact .tuple (by unfold KM.set; rw [if_pos rfl]) rfl rfl (r1.mono hk (PLe.refl _))
  · cases hF
theorem esCons_len {a : EM} {r : EsM} {n : Nat} (hr : ∀ st xs s1, r st = some (xs, s1) → xs.length = n) : ∀ st xs s1, esCons a r st = some (xs, s1) → xs.length = n + 1 := by
  intro st xs s1 h
  unfold esCons at h
  split at h
  · split at h
    · rename_i h2
      cases h
      rw [List.length_cons, hr _ _ _ h2]
    · cases h
  · cases h
theorem esNil_len : ∀ st xs s1, esNil st = some (xs, s1) → xs.length = 0 := by intro st xs s1 h; cases h; rfl
noncomputable def eBinG (g : GF) (a b : EM) : EM := fun st => match a st with
  | some (x, s1) => match b s1 with
    | some (y, s2) => match g [x, y] s2.H with
      | some (v, H') => some (v, { s2 with H := H' })
      | none => none
    | none => none
  | none => none
theorem Ev.binG {a b : Expr} {op : Operator} {pos : Pos} {Fa Fb : EM} {g : GF} (ha : Ev c f a Fa) (hb : Ev c f b Fb) (ho : Gop c (fun us => match us with | [u, v] => binaryOp op u v | _ => unsupported "") g) : Ev c f (.BinOp a op b pos) (eBinG g Fa Fb) := by
  intro A env oc hA hE hoc st v st' hF K ρ s R
  unfold eBinG at hF
  split at hF
  · rename_i x s1 h1
    split at hF
    · rename_i y s2 h2
      split at hF
      · rename_i w H' h3
        cases hF
        refine wpAny_BinOp (step (ha A env oc hA hE hoc _ _ _ h1 K ρ s R) fun u K₁ ρ₁ h₁ t₁ k1 p1 R1 r1 => ?_)
        refine step (hb A env oc hA hE hoc _ _ _ h2 K₁ ρ₁ _ R1) fun u' K₂ ρ₂ h₂ t₂ k2 p2 R2 r2 => ?_
        refine ho.use (us := [u, u']) hA h3 R2 (.cons (r1.mono k2 p2) (.cons r2 .nil)) fun u'' K₃ ρ₃ h₃ t₃ k3 p3 R3 r3 => ?_
        exact Pst.mk (K' := K₃) (ρ' := ρ₃) (k1.trans (k2.trans k3)) (p1.trans (p2.trans p3)) R3 r3
      · cases hF
    · cases hF
  · cases hF
/-- reading by an index -/
theorem Ev.idx {a b : Expr} {pos : Pos} {Fa Fb : EM} {g : List (List AV) → AV → AV → Option AV} (ha : Ev c f a Fa) (hb : Ev c f b Fb) (ho : Op2 c (subscriptTail a b) g) : Ev c f (.Subscript a b pos) (eBin g Fa Fb) := by
  intro A env oc hA hE hoc st v st' hF K ρ s R
  unfold eBin at hF
  split at hF
  · rename_i x s1 h1
    split at hF
    · rename_i y s2 h2
      split at hF
      · rename_i z h3
        cases hF
        refine Subscript_ (step (ha A env oc hA hE hoc _ _ _ h1 K ρ s R) fun u K₁ ρ₁ h₁ t₁ k1 p1 R1 r1 => ?_)
        refine step (hb A env oc hA hE hoc _ _ _ h2 K₁ ρ₁ _ R1) fun u' K₂ ρ₂ h₂ t₂ k2 p2 R2 r2 => ?_
        refine ho _ _ hA _ _ _ _ h3 K₂ ρ₂ _ R2.g _ _ (r1.mono k2 p2) r2 _ fun r h' tk' kk vr => ?_
        exact Pst.mk (K' := K₂) (ρ' := ρ₂) (k1.trans k2) (p1.trans p2) (R2.grow kk) vr
      · cases hF
    · cases hF
  · cases hF
/-- item assignment -/
noncomputable def sSetIdx (o i v : EM) : SM := fun st => match v st with
  | some (y, s1) => match o s1 with
    | some (.lst l, s2) => match i s2 with
      | some (.int k, s3) => match s3.H[l]? with
        | some xs => if 0 ≤ k ∧ k < xs.length ∧ xs.length ≤ 1000000 then some (.next, { s3 with H := s3.H.set l (xs.set k.toNat y) }) else none
        | none => none
      | _ => none
    | _ => none
  | none => none
theorem St.setIdx {o i v : Expr} {p' pos : Pos} {Fo Fi Fv : EM} (hv : Ev c f v Fv) (ho : Ev c f o Fo) (hi : Ev c f i Fi) (hs : ∀ env, swapsWith v (some (.Subscript o i p')) pos.line env = pure false := by intro _; rfl) :
    St c f (.Assign [.Subscript o i p'] v pos) (sSetIdx Fo Fi Fv) := by
  intro A env oc hA hE hoc st fl st' hF K ρ s R
  unfold sSetIdx at hF
  split at hF
  · rename_i y s1 h1
    split at hF
    · rename_i l s2 h2
      split at hF
      · rename_i k s3 h3
        split at hF
        · rename_i xs h4
          split at hF
          · rename_i hb
            cases hF
            refine wpAny_Assign_Subscript (step (hv A env oc hA hE hoc _ _ _ h1 K ρ s R) fun u K₁ ρ₁ h₁ t₁ k1 p1 R1 r1 => ?_) (hs env)
            refine step (ho A env oc hA hE hoc _ _ _ h2 K₁ ρ₁ _ R1) fun ov K₂ ρ₂ h₂ t₂ k2 p2 R2 r2 => ?_
            refine step (hi A env oc hA hE hoc _ _ _ h3 K₂ ρ₂ _ R2) fun iv K₃ ρ₃ h₃ t₃ k3 p3 R3 r3 => ?_
            cases r3 using VR.intE with
            | int _ tk =>
              have r2' := r2.mono k3 p3
              cases r2' with
              | lst hl =>
                obtain ⟨us, n, e1, e2⟩ := R3.g.lists _ _ _ hl h4
                have hlen := e2.length
                refine set_at (items := us.toArray) (n := n) e1 hb.1 (by (first | lia | omega)) (by rw [List.size_toArray, hlen]; exact hb.2.1) ?_
                refine Pst.mk (K' := K₃) (ρ' := ρ₃) (k1.trans (k2.trans k3)) (p1.trans (p2.trans p3)) (R3.setL (us := us.set k.toNat u) (n := n) hl (Heap.SameBut.update ..) ?_ (e2.set _ (r1.mono (k2.trans k3) (p2.trans p3)))) .next
                rw [Heap.get?_update_self _ e1 rfl]
                show some ({ cls := .type "list", data := .seq (us.toArray.setIfInBounds k.toNat u) (if (us.toArray.setIfInBounds k.toNat u).size == us.toArray.size then n else n + 1) } : Obj) = _
                rw [show us.toArray.setIfInBounds k.toNat u = (us.set k.toNat u).toArray from Array.toList_inj.mp (by simp)]
                simp [PySem.W.listOf]
          · cases hF
        · cases hF
      · cases hF
    · cases hF
  · cases hF
/-- an expression as a statement -/
noncomputable def sExpr (a : EM) : SM := fun st => match a st with
  | some (_, s1) => some (.next, s1)
  | none => none
theorem wpAny_dropValue {A : Around} {e : Expr} {pos : Pos} {v : Value} {s : Shared} {Q : Flow → Shared → Prop} {E : Value → Shared → Prop} (h : Q .next s) : wpAny (model c.prog c.w) A (dropValue e pos v) Q E s := by
  by_cases hv : ∃ a, v = .ref a
  · obtain ⟨a, rfl⟩ := hv
    have main : wpAny (model c.prog c.w) A (do standAt pos; let _ ← runValue (.builtin "proto.let_go" {}); pure .next) Q E s :=
      wpAny_bind (wpAny_standAt (wpAny_bind (wpAny_runValue (codeAny_builtin entry_let_go (show wpAny _ _ (ret .none) _ _ s from wpAny_pure (wpAny_pure h))))))
    cases e <;> first | exact main | exact wpAny_pure h
  · rw [dropValue_plain fun a e => hv ⟨a, e⟩]; exact wpAny_pure h
theorem St.expr {a : Expr} {pos : Pos} {Fa : EM} (ha : Ev c f a Fa) (hs : ∀ env, swapsWith a none pos.line env = pure false := by intro _; rfl) : St c f (.Expr a pos) (sExpr Fa) := by
  intro A env oc hA hE hoc st v st' hF K ρ s R
  unfold sExpr at hF
  split at hF
  · rename_i x s1 h1
    cases hF
    have hi : interactive env = false := by unfold interactive; rw [hE.scope, hE.kind]; rfl
    rw [exec_Expr env a pos hi (hs env)]
    refine wpAny_bind (wpAny_standAt (wpAny_bind (step (ha A env oc hA hE hoc _ _ _ h1 K ρ s R) fun u K₁ ρ₁ h₁ t₁ k1 p1 R1 r1 => ?_)))
    exact wpAny_dropValue (Pst.mk (K' := K₁) (ρ' := ρ₁) k1 p1 R1 .next)
  · cases hF
end
end Mine
end
/-! ## part FW5 -/
section
open PySem PySem.W PyProof.Rows PySem.Calls
set_option bootstrap.genMatcherCode false
namespace Mine
noncomputable def locAfter : List (Str × AV) → (Str → Option AV) → (Str → Option AV)
  | [], m => m
  | (n, v) :: r, m => locAfter r (fun y => if y = n then some v else m y)
noncomputable def gFn (names : List Str) (B : SM) : GF := fun args H => if args.length = names.length then
    match B ⟨locAfter (names.zip args) (fun _ => none), H⟩ with
    | some (.ret v, s) => some (v, s.H)
    | some (.next, s) => some (.none, s.H)
    | _ => none
  else none
theorem bind_rel {K : KM} {ρ : List Addr} {kd : Str → Option NameKind} : ∀ (names : List Str) (us : List Value) (args : List AV), VRs K ρ us args → ∀ (m : Str → Option Value) (l : Str → Option AV),
    (∀ x v, kd x = some .local → l x = some v → ∃ u, m x = some u ∧ VR K ρ u v) → ∀ x v, kd x = some .local → locAfter (names.zip args) l x = some v → ∃ u, bindL kd (names.zip us) m x = some u ∧ VR K ρ u v
  | [], _, _, _, m, l, h, x, v, hk, e => by simp only [List.zip_nil_left] at e ⊢; exact h x v hk e
  | n :: names, [], _, .nil, m, l, h, x, v, hk, e => by simp only [List.zip_nil_right] at e ⊢; exact h x v hk e
  | n :: names, u :: us, a :: args, .cons r rs, m, l, h, x, v, hk, e => by
    simp only [List.zip_cons_cons] at e ⊢
    unfold locAfter at e
    unfold bindL
    refine bind_rel names us args rs _ _ ?_ x v hk e
    intro y w hy hw
    by_cases q : y = n
    · subst q
      rw [if_pos rfl] at hw; cases hw
      rw [if_pos hy]
      exact ⟨u, if_pos rfl, r⟩
    · rw [if_neg q] at hw
      obtain ⟨u', e1, e2⟩ := h y w hy hw
      refine ⟨u', ?_, e2⟩
      split
      · exact (if_neg q).trans e1
      · exact e1
theorem bind_relC {K : KM} {ρ : List Addr} {kd : Str → Option NameKind} : ∀ (names : List Str) (us : List Value) (args : List AV), VRs K ρ us args → ∀ (m : Str → Option Value) (l : Str → Option AV),
    (∀ x v, kd x ≠ some .local → l x = some v → ∃ u, m x = some u ∧ VR K ρ u v) → ∀ x v, kd x ≠ some .local → locAfter (names.zip args) l x = some v → ∃ u, bindC kd (names.zip us) m x = some u ∧ VR K ρ u v
  | [], _, _, _, m, l, h, x, v, hk, e => by simp only [List.zip_nil_left] at e ⊢; exact h x v hk e
  | n :: names, [], _, .nil, m, l, h, x, v, hk, e => by simp only [List.zip_nil_right] at e ⊢; exact h x v hk e
  | n :: names, u :: us, a :: args, .cons r rs, m, l, h, x, v, hk, e => by
    simp only [List.zip_cons_cons] at e ⊢
    unfold locAfter at e
    unfold bindC
    refine bind_relC names us args rs _ _ ?_ x v hk e
    intro y w hy hw
    by_cases q : y = n
    · subst q
      rw [if_pos rfl] at hw; cases hw
      rw [if_neg hy]
      exact ⟨u, if_pos rfl, r⟩
    · rw [if_neg q] at hw
      obtain ⟨u', e1, e2⟩ := h y w hy hw
      refine ⟨u', ?_, e2⟩
      split
      · exact e1
      · exact (if_neg q).trans e1
theorem locAfter_mem : ∀ (bs : List (Str × AV)) (l : Str → Option AV) (x : Str) (v : AV), locAfter bs l x = some v → x ∈ bs.map (·.1) ∨ l x = some v
  | [], _, _, _, h => .inr h
  | (n, a) :: r, l, x, v, h => by
    unfold locAfter at h
    rcases locAfter_mem r _ x v h with q | q
    · exact .inl (List.mem_cons_of_mem _ q)
    · by_cases e : x = n
      · exact .inl (by rw [e]; exact List.mem_cons_self)
      · rw [if_neg e] at q; exact .inr q
theorem zip_names {α : Type} : ∀ (names : List Str) (l : List α) (x : Str), x ∈ (names.zip l).map (·.1) → x ∈ names
  | [], _, x, h => by simp at h
  | n :: ns, [], x, h => by simp at h
  | n :: ns, a :: l, x, h => by
    simp only [List.zip_cons_cons, List.map_cons, List.mem_cons] at h ⊢
    exact h.imp id (zip_names ns l x)
section
variable {c : Cx}
theorem Fn.intro {k : Nat} {fa : Addr} {o : Obj} {name : Str} {params : Arguments} {body : List Stmt} {scope : Scope} {pm cd doc : Value} {names own : List Str} {B : SM}
    (hc : c.Ok) (ho : c.base.get? fa = some o) (hd : o.data = .func (docDef name params body scope pm cd doc)) (hcd : c.base.CodeRec cd name)
    (hbody : Ss c ⟨scope, own, k + 1, k == 0⟩ body B) (hk : k + 1 ≤ 50)
    (hbind : ∀ us : List Value, us.length = names.length → bindArgs (docDef name params body scope pm cd doc) ⟨us, []⟩ = pure (names.zip us))
    (hsc : scope.kind = .function) (hco : scope.isCoroutine = false) (hgen : scope.isGenerator = false)
    (hown : (cellsFrom 0 scope.names []).map (·.1) = own) (hnd : own.Nodup) (hcell : ∀ x ∈ own, scope.names.lookup x = some .cell)
    (hpar : ∀ x ∈ names, scope.names.lookup x = some .local ∨ (scope.names.lookup x = some .cell ∧ x ∈ own)) : Fn c k fa (gFn names B) := by
  intro A hA args H v H' hG K ρ s G us r Q hQ
  unfold gFn at hG
  split at hG
  · rename_i hlen
    have hul : us.length = names.length := r.length.trans hlen
    have hn : ∀ n, (cellsFrom n scope.names []).map (·.1) = own := fun n => (cellsFrom_names scope.names n 0 [] [] rfl).trans hown
    have look : ∀ n x, x ∈ own → ∃ a, (cellsFrom n scope.names []).lookup x = some a ∧ (x, a) ∈ cellsFrom n scope.names [] := fun n x hx => by
      rw [← hn n] at hx
      obtain ⟨p, hp, rfl⟩ := List.mem_map.mp hx
      exact ⟨p.2, lookup_of_mem_nodup (by rw [hn n]; exact hnd) hp, hp⟩
    refine wpAny_call (codeAny_call_cells (fd := docDef name params body scope pm cd doc) hA.room (G.keep _ _ (G.base _ _ ho)) hd (hc.nolimit.keeps fun b o e => G.keep _ _ (G.base _ _ e)) ?_ rfl (hbind us hul) rfl ?_ (fun s₁ X => ?_) hco hgen hsc)
    · obtain ⟨a1, a2, a3, a4, a5, a6, a7⟩ := hcd
      exact ⟨a1, a2, a3, a4, a5, G.keep _ _ (G.base _ _ a6), a7⟩
    · intro x hx
      have hx' : x.1 ∈ names := zip_names names us x.1 (List.mem_map.mpr ⟨x, hx, rfl⟩)
      rcases hpar _ hx' with q | ⟨q1, q2⟩
      · exact .inl q
      · obtain ⟨a, e, _⟩ := look (s.heap.objs.size + 1) x.1 q2
        exact .inr ⟨q1, by show ((cellsFrom (s.heap.objs.size + 1) scope.names []).lookup x.1).isSome = true; rw [e]; rfl⟩
    · obtain ⟨h₁, tk, rfl, hkeep⟩ := X.done
      have hloc : (callEnvC (docDef name params body scope pm cd doc) s.heap.objs.size fa).locals = s.heap.objs.size := rfl
      have hcells : (callEnvC (docDef name params body scope pm cd doc) s.heap.objs.size fa).cells = cellsFrom (s.heap.objs.size + 1) scope.names [] := rfl
      have hkd : (callEnvC (docDef name params body scope pm cd doc) s.heap.objs.size fa).kindOf = fun x => scope.names.lookup x := rfl
      generalize hEnv : callEnvC (docDef name params body scope pm cd doc) s.heap.objs.size fa = env at *
      have hE : EnvIs (A.deeper env) (k == 0) scope env := by
        refine ⟨by rw [← hEnv]; rfl, hsc, by rw [← hEnv]; rfl, by rw [← hEnv]; rfl, fun e => ?_⟩
        have h0 : k = 0 := beq_iff_eq.mp e
        exact ⟨Around.frames_deeper (hA.fr0 h0), by rw [← hEnv]; rfl⟩
      have hab : ∀ p ∈ cellsFrom (s.heap.objs.size + 1) scope.names [], s.heap.objs.size < p.2 := fun p hp => by
        have := X.above p.1 p.2 (by rw [hcells]; exact hp)
        rw [hloc] at this; exact this
      have hoff : ∀ b, s.heap.objs.size ≤ b → b ∉ ρ ∧ K b = none := fun b hb => G.fresh_of (get_none_of hb)
      have R : Rep c.base env (cellsFrom (s.heap.objs.size + 1) scope.names []) K ρ ⟨locAfter (names.zip args) (fun _ => none), H⟩ h₁ := by
        refine ⟨G.grow hkeep, ⟨_, X.toInCall.ns, ?_⟩, ?_, ?_, ?_, ?_⟩
        · exact bind_rel names us args r _ _ (fun _ _ _ e => by cases e)
        · intro x w hx hw
          obtain ⟨u, e1, e2⟩ := bind_relC (kd := env.kindOf) names us args r (fun _ => none) (fun _ => none) (fun _ _ _ e => by cases e) x w hx hw
          have hm : x ∈ names := by
            rcases locAfter_mem _ _ _ _ hw with q | q
            · exact zip_names _ _ _ q
            · cases q
          rw [hkd] at hx
          rcases hpar x hm with q | ⟨q1, q2⟩
          · exact absurd q hx
          · obtain ⟨a, g1, g2⟩ := look (s.heap.objs.size + 1) x q2
            refine ⟨.inl (by rw [hkd]; exact q1), a, u, by rw [hcells]; exact g1, .inl g2, ?_, e2⟩
            have := X.cell x a (by rw [hcells]; exact g1)
            rw [e1] at this; exact this
        · intro p hp
          have hx : p.1 ∈ own := by rw [← hn (s.heap.objs.size + 1)]; exact List.mem_map.mpr ⟨p, hp, rfl⟩
          have hl := lookup_of_mem_nodup (cs := cellsFrom (s.heap.objs.size + 1) scope.names []) (by rw [hn]; exact hnd) (show (p.1, p.2) ∈ _ from hp)
          exact ⟨by rw [hkd]; exact hcell _ hx, by rw [hcells]; exact hl, _, X.cell p.1 p.2 (by rw [hcells]; exact hl)⟩
        · refine List.pairwise_cons.mpr ⟨fun b hb => ?_, ?_⟩
          · obtain ⟨p, hp, rfl⟩ := List.mem_map.mp hb
            rw [hloc]; exact Nat.ne_of_lt (hab p hp)
          · refine List.pairwise_map.mpr ?_
            have := X.apart
            rw [hcells] at this; exact this
        · intro b hb
          rcases List.mem_cons.mp hb with rfl | hb
          · rw [hloc]; exact hoff _ (Nat.le_refl _)
          · obtain ⟨p, hp, rfl⟩ := List.mem_map.mp hb
            exact hoff _ (Nat.le_of_lt (hab p hp))
      have fin : ∀ fl st', B ⟨locAfter (names.zip args) (fun _ => none), H⟩ = some (fl, st') → (∀ K' ρ' u, FR K' ρ' u fl → VR K' ρ' (match u with | .ret v => v | _ => .none) v) → st'.H = H' →
          wpAny (model c.prog c.w) (A.deeper env) (execs body env) (fun u s' => Q (match u with | .ret v => v | _ => .none) s') (fun _ _ => False) { s with heap := h₁, toks := tk } := by
        intro fl st' hB hv hH
        refine step (hbody _ env _ (hA.deeper env hk) hE (hn _) _ _ _ hB K ρ _ R) fun u K₁ ρ₁ h₂ t₂ k1 p1 R1 r1 => ?_
        exact hQ _ K₁ ρ₁ h₂ t₂ k1 p1 (hH ▸ R1.g) (hv _ _ _ r1)
      refine wpAny_mono (Q := fun u s' => Q (match u with | .ret v => v | _ => .none) s') (E := fun _ _ => False) ?_ (fun u s' q => q) fun _ _ x => x.elim
      split at hG
      · rename_i w st' hB
        cases hG
        exact fin _ _ hB (fun K' ρ' u h => by cases h with | ret r => exact r) rfl
      · rename_i st' hB
        cases hG
        exact fin _ _ hB (fun K' ρ' u h => by cases h with | next => exact .none) rfl
      · cases hG
  · cases hG
end
end Mine
end
/-! ## part FW0 -/
section
open PySem PySem.W PyProof.Rows PySem.Calls
open PySem.AutoSeq1 (wpAny_loadPart')
set_option bootstrap.genMatcherCode false
namespace Mine
section
variable {prog : Program} {w : World} {A : Around} {E : Value → Shared → Prop} {s : Shared}
theorem nextOf_tuple_item {it l : Addr} {i : Nat} {items} {x : Value} {Q : Value → Shared → Prop} (hit : s.heap.IsTupleIter it l i)
    (hl : s.heap.IsTuple l items) (hx : items[i]? = some x)
    (hQ : ∀ h', h'.IsTupleIter it l (i + 1) → Heap.SameBut it s.heap h' → Q x { s with heap := h' }) :
    wpAny (model prog w) A (Builtin.SmallTypes.nextOf (.ref it)) Q E s := by
  obtain ⟨o, ho, hc, hd⟩ := id hit
  obtain ⟨ol, hol, _, nl, hdl⟩ := hl
  unfold Builtin.SmallTypes.nextOf
  refine wpAny_bind (wpAny_callSpecial?_slot (name := Str.ofString "__next__") hit.typeIs PySem.F.slot_tuple_iterator_next
    (wpAny_call_entry PySem.F.slot_tuple_iterator_next hit.typeIs PySem.F.entry_tuple_iterator_next ?_ (PySem.F.args_tuple_iterator_next_1 _)))
  show wpAny _ _ (field (.ref it) 0 >>= _) _ _ s
  refine wpAny_bind (wpAny_field ho hd (x := .ref l) rfl ?_)
  show wpAny _ _ (if (Value.ref l == Value.none) = true then _ else _) _ _ s
  rw [if_neg (show ¬ ((Value.ref l == Value.none) = true) from Bool.false_ne_true)]
  show wpAny _ _ (field (.ref it) 1 >>= _) _ _ s
  refine wpAny_bind (wpAny_field ho hd (x := .int i 0) rfl ?_)
  show wpAny _ _ (seqItems? (.ref l) >>= _) _ _ s
  refine wpAny_bind (wpAny_seqItems hol hdl ?_)
  simp only [Int.toNat_natCast, hx]
  refine wpAny_bind (wpAny_setField ho hd (by simp) (wpAny_pure ⟨x, rfl, wpAny_pure (hQ _ ?_ (Heap.SameBut.update ..))⟩))
  exact ⟨_, Heap.get?_update_self _ ho (Obj.isFreed_of_fields (Obj.data_mapFields hd _)), (Obj.cls_mapFields ..).trans hc, by
    rw [Obj.data_mapFields hd]; simp [rawInt]⟩
theorem nextOf_tuple_end {it l : Addr} {i : Nat} {items} {Q : Value → Shared → Prop} (hh : A.handled = none)
    (hit : s.heap.IsTupleIter it l i) (hl : s.heap.IsTuple l items) (hx : items[i]? = none)
    (hE : ∀ h' e, Heap.ExtBut it s.heap h' → (∃ o, h'.get? e = some o ∧ o.cls = .type "StopIteration") → E (.ref e) { s with heap := h' }) :
    wpAny (model prog w) A (Builtin.SmallTypes.nextOf (.ref it)) Q E s := by
  obtain ⟨o, ho, hc, hd⟩ := id hit
  obtain ⟨ol, hol, _, nl, hdl⟩ := hl
  unfold Builtin.SmallTypes.nextOf
  refine wpAny_bind (wpAny_callSpecial?_slot (name := Str.ofString "__next__") hit.typeIs PySem.F.slot_tuple_iterator_next
    (wpAny_call_entry PySem.F.slot_tuple_iterator_next hit.typeIs PySem.F.entry_tuple_iterator_next ?_ (PySem.F.args_tuple_iterator_next_1 _)))
  show wpAny _ _ (field (.ref it) 0 >>= _) _ _ s
  refine wpAny_bind (wpAny_field ho hd (x := .ref l) rfl ?_)
  show wpAny _ _ (if (Value.ref l == Value.none) = true then _ else _) _ _ s
  rw [if_neg (show ¬ ((Value.ref l == Value.none) = true) from Bool.false_ne_true)]
  show wpAny _ _ (field (.ref it) 1 >>= _) _ _ s
  refine wpAny_bind (wpAny_field ho hd (x := .int i 0) rfl ?_)
  show wpAny _ _ (seqItems? (.ref l) >>= _) _ _ s
  refine wpAny_bind (wpAny_seqItems hol hdl ?_)
  simp only [Int.toNat_natCast, hx]
  refine wpAny_bind (wpAny_rule (wpAny_bind (wpAny_setField ho hd (by simp) ?_)))
  show wpAny _ _ (newExc (.type "StopIteration") [] >>= _) _ _ _
  refine wpAny_bind ?_
  simp only [newExc, newTuple]
  refine wpAny_bind (wpAny_newObj_type ?_ (by size_fits))
  refine wpAny_bind (m := firstArgMember _ _) (wpAny_of_eq (a := Value.none) (by first | rfl | (simp only [firstArgMember]; rfl)) ?_)
  refine wpAny_newObj_type ?_ (by size_fits)
  simp only [raiseNew]
  refine wpAny_bind (wpAny_handled ?_)
  first | rw [show A.in1.handled = none from hh] | rw [hh]
  refine wpAny_bind (wpAny_pure (wpAny_throw ?_))
  exact hE _ _ (((Heap.SameBut.update ..).extBut.push _).push _) ⟨_, Heap.get?_push_size _ rfl, rfl⟩
theorem draws_tuple (hh : A.handled = none) {it t : Addr} {items : Array Value} (hne : t ≠ it) :
    Draws prog w A it [it, t] items.size (fun i v => items[i]? = some v) (fun i h => h.IsTupleIter it t i ∧ h.IsTuple t items) where
  live := fun i h st => let ⟨⟨o, ho, _⟩, _⟩ := st; ⟨o, ho⟩
  frame := fun i h h' st k => ⟨st.1.at fun o e => k it (by simp) o e, let ⟨o, ho, r⟩ := st.2; ⟨o, k t (by simp) o ho, r⟩⟩
  item := fun i s Q E hi st hQ => nextOf_tuple_item (x := items[i]) st.1 st.2 (by simp [hi]) fun h' hit' hs' => hQ _ h' s.toks (by simp [hi]) ⟨hit', let ⟨o, ho, r⟩ := st.2; ⟨o, (hs'.2 t hne).trans ho, r⟩⟩ hs'
  done := fun s Q E st hE => nextOf_tuple_end hh st.1 st.2 (by simp) fun h' e hs' ho => hE h' e hs' ho
theorem meets_enumerate_newT (l : Addr) (items : Array Value) (n : Nat) (dct : Option Addr) (sl : Array (Option Value)) :
    Meets (Builtin.«enumerate.__new__» ⟨[.type "enumerate", .ref l], []⟩) (fun _ R s => s.heap.get? l = some { cls := .type "tuple", dict := dct, data := .seq items n, slots := sl } ∧
      R (.ok (.ret (.ref (s.heap.push { cls := .type "tuple_iterator", data := .fields #[.ref l, .int 0 0] }).objs.size)))
        { s with heap := (s.heap.push { cls := .type "tuple_iterator", data := .fields #[.ref l, .int 0 0] }).push { cls := .type "enumerate", data := .fields #[.none, .bool false, .ref s.heap.objs.size, rawInt 0, .none, .none] } }) :=
  .of_wp fun prog w A R s h => by
    obtain ⟨hp, g, d, tk, os⟩ := s; obtain ⟨hl, h⟩ := h
    have hsub := sub_enumerate
    have hL : Heap.IsTuple (Shared.heap ⟨hp, g, d, tk, os⟩) l items := ⟨_, hl, rfl, n, rfl⟩
    wp_walk using wpAny_loadPart' hl
    refine wpAny_stack_any fun st => wpAny_pure ?_
    split
    · rename_i c _ _ _ _ _
      cases (c == Value.type "enumerate")
      · wp_walk using wpAny_loadPart' hl, wpAny_pyIter_tuple hL
        exact ⟨_, rfl, h⟩
      · wp_walk using wpAny_loadPart' hl, wpAny_pyIter_tuple hL
        exact ⟨_, rfl, h⟩
    · wp_walk using wpAny_loadPart' hl, wpAny_pyIter_tuple hL
      exact ⟨_, rfl, h⟩
theorem call_enumerate_tuple {l : Addr} {items : Array Value} {Q : Value → Shared → Prop} (hL : s.heap.IsTuple l items)
    (h : ∀ h', IsEnum h' (s.heap.objs.size + 1) s.heap.objs.size 0 .none → h'.IsTupleIter s.heap.objs.size l 0 → h'.objs.size = s.heap.objs.size + 2 →
      (∀ b o, s.heap.get? b = some o → h'.get? b = some o) → Q (.ref (s.heap.objs.size + 1)) { s with heap := h' }) :
    wpAny (model prog w) A (call (.type "enumerate") [.ref l]) Q E s := by
  obtain ⟨⟨c, dct, dt, sl⟩, hl, hc, n, hd⟩ := hL
  replace hc : c = .type "tuple" := hc
  replace hd : dt = .seq items n := hd
  subst hc hd
  refine callType_new PySem.F.called_enumerate (by decide) (PySem.F.typeCall_enumerate_1 _) (PySem.F.newCall_enumerate_1 _) (fun obj => PySem.F.args_object_init_2 obj _) PySem.F.entry_enumerate_new
    (meets_enumerate_newT l items n dct sl) ⟨hl, ?_⟩
  have hz : (s.heap.push { cls := .type "tuple_iterator", data := .fields #[.ref l, .int 0 0] }).objs.size = s.heap.objs.size + 1 := Heap.size_push ..
  show _ ∧ _
  rw [hz]
  refine ⟨⟨_, by rw [← hz]; exact Heap.get?_push_size _ rfl, rfl⟩, h _ (by rw [← hz]; exact Heap.get?_push_size _ rfl) ⟨_, Heap.get?_push_of_some _ (Heap.get?_push_size _ rfl), rfl, rfl⟩ (by rw [Heap.size_push, hz]) fun b o e => Heap.get?_push_of_some _ (Heap.get?_push_of_some _ e)⟩
theorem wpAny_pyNext_enum_endD' {e it l : Addr} {i : Nat} {items : Array Value} {old : Value} {Q : Option Value → Shared → Prop} (hh : A.handled = none)
    (he : IsEnum s.heap e it i old) (hit : s.heap.IsTupleIter it l i) (hl : s.heap.IsTuple l items) (hx : items.size ≤ i)
    (hQ : ∀ h', Heap.ExtBut it s.heap h' → Q none { s with heap := h' }) : wpAny (model prog w) A (pyNext (.ref e)) Q E s := by
  have hT : s.TypeIs (.ref e) "enumerate" := ⟨_, he, rfl⟩
  unfold pyNext
  refine wpAny_bind (wpAny_attempt (wpAny_callSpecial?_slot (name := Str.ofString "__next__") hT PySem.F.slot_enumerate_next
    (wpAny_call_entry PySem.F.slot_enumerate_next hT PySem.F.entry_enumerate_next ?_ (PySem.F.args_enumerate_next_1 _))))
  show wpAny _ _ (field (.ref e) 2 >>= _) _ _ _
  refine wpAny_bind (wpAny_field he rfl (x := .ref it) rfl ?_)
  refine wpAny_bind (nextOf_tuple_end hh hit hl (by simp [hx]) fun h' x he' hx' => ?_)
  obtain ⟨o, ho, hc⟩ := hx'
  refine wpAny_bind (wpAny_isInstance (T := "StopIteration") (b := true) ⟨o, ho, hc⟩ isSubtype_stop ?_)
  exact wpAny_pure (hQ _ he')
end
end Mine
end
/-! ## part FW6 -/
section
open PySem PySem.W PyProof.Rows PySem.Calls
set_option bootstrap.genMatcherCode false
namespace Mine
inductive IT where
  | lst (l i : Nat)
  | rng (cur : Int) (left : Nat)
  | tup (xs : List AV) (i : Nat)
  | en (l i : Nat)
  | ent (xs : List AV) (i : Nat)
noncomputable def nextI : IT → List (List AV) → Option (Option (AV × IT))
  | .lst l i, H => match H[l]? with
    | some xs => match xs[i]? with
      | some v => some (some (v, .lst l (i + 1)))
      | none => some none
    | none => none
  | .rng _ 0, _ => some none
  | .rng cur (n + 1), _ => some (some (.int cur, .rng (cur + 1) n))
  | .tup xs i, _ => match xs[i]? with
    | some v => some (some (v, .tup xs (i + 1)))
    | none => some none
  | .en l i, H => match H[l]? with
    | some xs => match xs[i]? with
      | some v => some (some (.tuple [.int i, v], .en l (i + 1)))
      | none => some none
    | none => none
  | .ent xs i, _ => match xs[i]? with
    | some v => some (some (.tuple [.int i, v], .ent xs (i + 1)))
    | none => some none
noncomputable def ItRep (K : KM) (ρ : List Addr) (h : Heap) : IT → Addr → List Addr → Prop
  | .lst l i, I, D => D = [I] ∧ ∃ a, ρ[l]? = some a ∧ h.IsListIter I a i
  | .rng cur left, I, D => D = [I] ∧ IsRangeIter h I cur left 1
  | .tup xs i, I, D => D = [I] ∧ ∃ a, VR K ρ (.ref a) (.tuple xs) ∧ h.IsTupleIter I a i
  | .en l i, I, D => ∃ J a old, D = [I, J] ∧ I ≠ J ∧ ρ[l]? = some a ∧ IsEnum h I J i old ∧ h.IsListIter J a i
  | .ent xs i, I, D => ∃ J a old, D = [I, J] ∧ I ≠ J ∧ VR K ρ (.ref a) (.tuple xs) ∧ IsEnum h I J i old ∧ h.IsTupleIter J a i
section
variable {K K' : KM} {ρ ρ' : List Addr} {h h' : Heap}
theorem notval_of {o : Obj} {fs : Array Value} {T : String} (hc : o.cls = .type T) (hd : o.data = .fields fs) (hT : Value.type T ≠ .type "range") : NotVal o ∧ ∀ v, o.data ≠ .cell v :=
  ⟨⟨fun us n e => (by rw [hd] at e; cases e), fun fs e => (by rw [hc]; exact hT)⟩, fun v e => (by rw [hd] at e; cases e)⟩
theorem ItRep.notval {it : IT} {I : Addr} {D : List Addr} (T : ItRep K ρ h it I D) : ∀ b ∈ D, ∃ o, h.get? b = some o ∧ NotVal o ∧ ∀ v, o.data ≠ .cell v := by
  cases it with
  | lst l i =>
    obtain ⟨rfl, a, _, o, ho, hc, hd⟩ := T
    intro b hb
    rw [List.mem_singleton.mp hb]
    exact ⟨o, ho, notval_of hc hd (by decide)⟩
  | rng cur left =>
    obtain ⟨rfl, hr⟩ := T
    intro b hb
    rw [List.mem_singleton.mp hb]
    exact ⟨_, hr, notval_of rfl rfl (by decide)⟩
  | tup xs i =>
    obtain ⟨rfl, a, _, o, ho, hc, hd⟩ := T
    intro b hb
    rw [List.mem_singleton.mp hb]
    exact ⟨o, ho, notval_of hc hd (by decide)⟩
  | en l i =>
    obtain ⟨J, a, old, rfl, hne, _, he, o, ho, hc, hd⟩ := T
    intro b hb
    rcases List.mem_cons.mp hb with hb | hb
    · rw [hb]; exact ⟨_, he, notval_of rfl rfl (by decide)⟩
    · rw [List.mem_singleton.mp hb]; exact ⟨o, ho, notval_of hc hd (by decide)⟩
  | ent xs i =>
    obtain ⟨J, a, old, rfl, hne, _, he, o, ho, hc, hd⟩ := T
    intro b hb
    rcases List.mem_cons.mp hb with hb | hb
    · rw [hb]; exact ⟨_, he, notval_of rfl rfl (by decide)⟩
    · rw [List.mem_singleton.mp hb]; exact ⟨o, ho, notval_of hc hd (by decide)⟩
theorem ItRep.move (hK : KLe K K') (hρ : PLe ρ ρ') {it : IT} {I : Addr} {D : List Addr} (T : ItRep K ρ h it I D) (hs : ∀ b ∈ D, h'.get? b = h.get? b) : ItRep K' ρ' h' it I D := by
  cases it with
  | lst l i =>
    obtain ⟨rfl, a, ha, o, ho, hr⟩ := T
    exact ⟨rfl, a, hρ _ _ ha, o, (hs I List.mem_cons_self).trans ho, hr⟩
  | rng cur left =>
    obtain ⟨rfl, hr⟩ := T
    exact ⟨rfl, (hs I List.mem_cons_self).trans hr⟩
  | tup xs i =>
    obtain ⟨rfl, a, ha, o, ho, hr⟩ := T
    exact ⟨rfl, a, ha.mono hK hρ, o, (hs I List.mem_cons_self).trans ho, hr⟩
  | en l i =>
    obtain ⟨J, a, old, rfl, hne, ha, he, o, ho, hr⟩ := T
    exact ⟨J, a, old, rfl, hne, hρ _ _ ha, (hs I List.mem_cons_self).trans he, o, (hs J (List.mem_cons_of_mem _ List.mem_cons_self)).trans ho, hr⟩
  | ent xs i =>
    obtain ⟨J, a, old, rfl, hne, ha, he, o, ho, hr⟩ := T
    exact ⟨J, a, old, rfl, hne, ha.mono hK hρ, (hs I List.mem_cons_self).trans he, o, (hs J (List.mem_cons_of_mem _ List.mem_cons_self)).trans ho, hr⟩
theorem VR.tuple_at {a : Addr} {xs : List AV} (r : VR K ρ (.ref a) (.tuple xs)) (hk : ∀ b o, K b = some o → h.get? b = some o) : ∃ us, h.IsTuple a us.toArray ∧ VRs K ρ us xs := by
  cases r with
  | tuple e1 e2 e3 e4 => exact ⟨_, ⟨_, hk _ _ e1, e2, _, e3⟩, e4⟩
end
/-- a target that takes an item -/
noncomputable def isTup : Expr → Bool
  | .Tuple .. => true
  | _ => false
noncomputable def isName : Expr → Bool
  | .Name .. => true
  | _ => false
theorem isTup_inv {t : Expr} (h : isTup t = true) : ∃ elts k p, t = .Tuple elts k p := by
  cases t <;> first | exact ⟨_, _, _, rfl⟩ | exact (Bool.false_ne_true h).elim
theorem isName_inv {t : Expr} (h : isName t = true) : ∃ x p, t = .Name x p := by
  cases t <;> first | exact ⟨_, _, rfl⟩ | exact (Bool.false_ne_true h).elim
/-- the pair that «enumerate» hands out is held fast -/
theorem enum_tail {base : Heap} {K : KM} {ρ : List Addr} {H : List (List AV)} {h : Heap} (G : GRep base K ρ H h) {z : Addr} {i : Int} {tk : Tok} {u : Value} {v : AV} (off : z ∉ ρ ∧ K z = none) (hz : h.get? z = some { cls := .type "tuple", data := .seq #[.int i tk, u] }) (hv : VR K ρ u v) :
    ∃ K', KLe K K' ∧ GRep base K' ρ H h ∧ VR K' ρ (.ref z) (.tuple [.int i, v]) ∧ ∀ b, b ≠ z → K b = none → K' b = none := by
  have hle := KLe.set (K := K) (a := z) { cls := .type "tuple", data := .seq #[.int i tk, u] } off.2
  refine ⟨_, hle, ⟨fun b o e => hle _ _ (G.base b o e), fun b o e => ?_, G.len, fun j b ys e e' => ?_, G.nodup, fun b hb => ?_⟩, .tuple (us := [.int i tk, u]) (n := 0) (by unfold KM.set; rw [if_pos rfl]) rfl rfl (.cons (.int _ _) (.cons (hv.mono hle (PLe.refl ρ)) .nil)), fun b hb e => ?_⟩
  · unfold KM.set at e
    by_cases q : b = z
    · subst q; rw [if_pos rfl] at e; cases e; exact hz
    · rw [if_neg q] at e; exact G.keep b o e
  · obtain ⟨us', n', q1, q2⟩ := G.lists j b ys e e'
    exact ⟨us', n', q1, q2.mono hle (PLe.refl ρ)⟩
  · unfold KM.set
    rw [if_neg (by rintro rfl; exact off.1 hb)]
    exact G.fresh b hb
  · unfold KM.set
    rw [if_neg hb]; exact e
section
variable {c : Cx}
theorem letOwned_name {A : Around} {x : Str} {p : Pos} {it v : Value} {s : Shared} {Q : Unit → Shared → Prop} {E : Value → Shared → Prop} (h : Q () s) : wpAny (model c.prog c.w) A (letOwnedTupleGo (.Name x p) it v) Q E s := wpAny_pure h
theorem letOwned_tup {A : Around} {elts : List Expr} {k : Nat} {p : Pos} {I : Addr} {v : Value} {s : Shared} {Q : Unit → Shared → Prop} {E : Value → Shared → Prop} {o : Obj} (ho : s.heap.get? I = some o)
    (hc : o.cls = .type "list_iterator" ∨ o.cls = .type "range_iterator" ∨ o.cls = .type "tuple_iterator") (h : Q () s) : wpAny (model c.prog c.w) A (letOwnedTupleGo (.Tuple elts k p) (.ref I) v) Q E s := by
  unfold letOwnedTupleGo
  cases v <;> first
    | exact wpAny_pure h
    | (rename_i a
       refine wpAny_bind (wpAny_load ho ?_)
       obtain ⟨cls, d, data, sl⟩ := o
       dsimp only at hc ⊢
       rcases hc with rfl | rfl | rfl <;> (cases data <;> first
         | exact wpAny_pure h
         | (rename_i vs
            dsimp only
            rw [if_neg (by simp)]
            exact wpAny_pure h)))
theorem letOwned_any {A : Around} {t : Expr} (ht : isName t = true ∨ isTup t = true) {I : Addr} {v : Value} {s : Shared} {Q : Unit → Shared → Prop} {E : Value → Shared → Prop} {o : Obj} (ho : s.heap.get? I = some o)
    (hc : o.cls = .type "list_iterator" ∨ o.cls = .type "range_iterator" ∨ o.cls = .type "tuple_iterator") (h : Q () s) : wpAny (model c.prog c.w) A (letOwnedTupleGo t (.ref I) v) Q E s := by
  rcases ht with ht | ht
  · obtain ⟨x, p, rfl⟩ := isName_inv ht
    exact letOwned_name h
  · obtain ⟨e, k, p, rfl⟩ := isTup_inv ht
    exact letOwned_tup ho hc h
/-- which targets go with which iterators -/
noncomputable def okT (t : Expr) : IT → Prop
  | .en .. => isTup t = true
  | .ent .. => isTup t = true
  | _ => isName t = true ∨ isTup t = true
theorem it_next {A : Around} {k : Nat} (hA : AOk k A) {t : Expr} {it it' : IT} {v : AV} {H : List (List AV)} (hn : nextI it H = some (some (v, it'))) (ht : okT t it) {K : KM} {ρ : List Addr} {s : Shared} {I : Addr} {D : List Addr} (G : GRep c.base K ρ H s.heap)
    (T : ItRep K ρ s.heap it I D) (hD : ∀ b ∈ D, b ∉ ρ ∧ K b = none) {Q : Value → Shared → Prop}
    (hQ : ∀ u K' h' tk', KLe K K' → GRep c.base K' ρ H h' → VR K' ρ u v → ItRep K' ρ h' it' I D → okT t it' → (∀ b o, b ∉ D → s.heap.get? b = some o → h'.get? b = some o) → (∀ b o, s.heap.get? b = some o → K b = none → K' b = none) → Q u { s with heap := h', toks := tk' }) :
    wpAny (model c.prog c.w) A (pyNext (.ref I)) (fun r s₁ => match r with | none => False | some u => wpAny (model c.prog c.w) A (letOwnedTupleGo t (.ref I) u) (fun _ s₂ => Q u s₂) (fun _ _ => False) s₁) (fun _ _ => False) s := by
  cases it with
  | lst l i =>
    obtain ⟨rfl, a, ha, hI⟩ := T
    obtain ⟨xs, us, n, e1, e2, e3⟩ := G.listAt ha
    simp only [nextI, e1] at hn
    cases hx : xs[i]? with
    | none => rw [hx] at hn; cases hn
    | some w =>
      rw [hx] at hn; cases hn
      obtain ⟨u, hu, hv⟩ := e3.get hx
      refine wpAny_pyNext_list_item (items := us.toArray) hI ⟨_, e2, rfl, n, rfl⟩ (by simpa using hu) fun h' hI' hs' => ?_
      obtain ⟨o, ho, hc, hd⟩ := id hI'
      have k : ∀ b o, b ∉ [I] → s.heap.get? b = some o → h'.get? b = some o := fun b o hb e => (hs'.2 b (by simpa using hb)).trans e
      exact letOwned_any ht ho (.inl hc) (hQ u K h' s.toks (KLe.refl K) (G.but k hD) hv ⟨rfl, a, ha, hI'⟩ ht k (fun _ _ _ e => e))
  | rng cur left =>
    obtain ⟨rfl, hI⟩ := T
    cases left with
    | zero => cases hn
    | succ left =>
      cases hn
      refine wpAny_pyNext_range_item hI (by (first | lia | omega)) fun h' hI' hs' => ?_
      have k : ∀ b o, b ∉ [I] → s.heap.get? b = some o → h'.get? b = some o := fun b o hb e => (hs'.2 b (by simpa using hb)).trans e
      have hI'' : IsRangeIter h' I (cur + 1) left 1 := by
        rw [show ((left : Nat) : Int) = ((left + 1 : Nat) : Int) - 1 by (first | lia | omega)]; exact hI'
      exact letOwned_any ht hI' (.inr (.inl rfl)) (hQ _ K h' _ (KLe.refl K) (G.but k hD) (.int _ _) ⟨rfl, hI''⟩ ht k (fun _ _ _ e => e))
  | tup xs i =>
    obtain ⟨rfl, a, ha, hI⟩ := T
    obtain ⟨us, hT, hr⟩ := ha.tuple_at G.keep
    simp only [nextI] at hn
    cases hx : xs[i]? with
    | none => rw [hx] at hn; cases hn
    | some w =>
      rw [hx] at hn; cases hn
      obtain ⟨u, hu, hv⟩ := hr.get hx
      refine wpAny_pyNext_tuple_item (items := us.toArray) hI hT (by simpa using hu) fun h' hI' hs' => ?_
      obtain ⟨o, ho, hc, hd⟩ := id hI'
      have k : ∀ b o, b ∉ [I] → s.heap.get? b = some o → h'.get? b = some o := fun b o hb e => (hs'.2 b (by simpa using hb)).trans e
      exact letOwned_any ht ho (.inr (.inr hc)) (hQ u K h' s.toks (KLe.refl K) (G.but k hD) hv ⟨rfl, a, ha, hI'⟩ ht k (fun _ _ _ e => e))
  | en l i =>
    obtain ⟨J, a, old, rfl, hne, ha, hE, hI⟩ := T
    obtain ⟨xs, us, n, e1, e2, e3⟩ := G.listAt ha
    simp only [nextI, e1] at hn
    cases hx : xs[i]? with
    | none => rw [hx] at hn; cases hn
    | some w =>
      rw [hx] at hn; cases hn
      obtain ⟨u, hu, hv⟩ := e3.get hx
      obtain ⟨elts, kk, pp, rfl⟩ := isTup_inv ht
      refine wpAny_pyNext_enum_item (items := us.toArray) hE hI ⟨_, e2, rfl, n, rfl⟩ (by simpa using hu) hne fun h' hO hI' ht' hsz hk => ?_
      refine wpAny_letOwnedTupleGo_enum hO fun h'' hE'' hs'' => ?_
      have h0 : s.heap.get? s.heap.objs.size = none := get_none_of (Nat.le_refl _)
      have k1 : ∀ b o, b ∉ [I, J] → s.heap.get? b = some o → h''.get? b = some o := fun b o hb e => by
        simp only [List.mem_cons, List.not_mem_nil, or_false, not_or] at hb
        exact (hs''.2 b hb.1).trans (hk b o hb.1 hb.2 e)
      have hIlt : I ≠ s.heap.objs.size := Nat.ne_of_lt (Heap.lt_size hE)
      have htn : h''.get? s.heap.objs.size = some { cls := .type "tuple", data := .seq #[.int i s.toks, u] } := (hs''.2 _ (Ne.symm hIlt)).trans ht'
      obtain ⟨K', hle, G2, v2, fr⟩ := enum_tail (G.but k1 hD) (G.fresh_of h0) htn hv
      refine hQ _ K' h'' _ hle G2 v2 ⟨J, a, u, rfl, hne, ha, by exact_mod_cast hE'', ?_⟩ ht k1 fun b o e e' => fr b (by rintro rfl; rw [h0] at e; cases e) e'
      obtain ⟨o, ho, hc⟩ := hI'
      exact ⟨o, (hs''.2 _ (Ne.symm hne)).trans ho, hc⟩
  | ent xs i =>
    obtain ⟨J, a, old, rfl, hne, ha, hE, hI⟩ := T
    obtain ⟨us, hT, e3⟩ := ha.tuple_at G.keep
    simp only [nextI] at hn
    have hlen := e3.length
    have haI : a ≠ I := fun q => by
      obtain ⟨o, ho, hc, _⟩ := hT
      rw [q, hE] at ho; cases ho; exact absurd hc (show Value.type "enumerate" ≠ Value.type "tuple" by decide)
    have haJ : a ≠ J := fun q => by
      obtain ⟨o, ho, hc, _⟩ := hT
      obtain ⟨o', ho', hc', _⟩ := hI
      rw [q, ho'] at ho; cases ho; rw [hc] at hc'; exact absurd hc' (by decide)
    cases hx : xs[i]? with
    | none => rw [hx] at hn; cases hn
    | some w =>
      rw [hx] at hn; cases hn
      obtain ⟨u, hu, hv⟩ := e3.get hx
      obtain ⟨elts, kk, pp, rfl⟩ := isTup_inv ht
      refine wpAny_pyNext_enum_itemD (draws_tuple (A := A.in1) hA.handled (items := us.toArray) haJ) hE ⟨hI, hT⟩ (by rw [List.size_toArray]; exact (List.getElem?_eq_some_iff.mp hu).1) hne (by simp [hne, Ne.symm haI]) fun x' h' tk hx' hO hI' ht' hsz hk => ?_
      have hI' := hI'.1
      have hxx : u = x' := by
        have : us[i]? = some x' := by simpa using hx'
        rw [hu] at this; exact Option.some.inj this
      subst hxx
      refine wpAny_letOwnedTupleGo_enum hO fun h'' hE'' hs'' => ?_
      have h0 : s.heap.get? s.heap.objs.size = none := get_none_of (Nat.le_refl _)
      have k1 : ∀ b o, b ∉ [I, J] → s.heap.get? b = some o → h''.get? b = some o := fun b o hb e => by
        simp only [List.mem_cons, List.not_mem_nil, or_false, not_or] at hb
        exact (hs''.2 b hb.1).trans (hk b o hb.1 hb.2 e)
      have hIlt : I ≠ s.heap.objs.size := Nat.ne_of_lt (Heap.lt_size hE)
      have htn : h''.get? s.heap.objs.size = some { cls := .type "tuple", data := .seq #[.int i tk, u] } := (hs''.2 _ (Ne.symm hIlt)).trans ht'
      obtain ⟨K', hle, G2, v2, fr⟩ := enum_tail (G.but k1 hD) (G.fresh_of h0) htn hv
      refine hQ _ K' h'' _ hle G2 v2 ⟨J, a, u, rfl, hne, ha.mono hle (PLe.refl ρ), by exact_mod_cast hE'', ?_⟩ ht k1 fun b o e e' => fr b (by rintro rfl; rw [h0] at e; cases e) e'
      obtain ⟨o, ho, hc⟩ := hI'
      exact ⟨o, (hs''.2 _ (Ne.symm hne)).trans ho, hc⟩
theorem it_end {A : Around} {k : Nat} (hA : AOk k A) {it : IT} {H : List (List AV)} (hn : nextI it H = some none) {K : KM} {ρ : List Addr} {s : Shared} {I : Addr} {D : List Addr} (G : GRep c.base K ρ H s.heap)
    (T : ItRep K ρ s.heap it I D) {Q : Option Value → Shared → Prop}
    (hQ : ∀ h' tk', (∀ b o, b ∉ D → s.heap.get? b = some o → h'.get? b = some o) → Q none { s with heap := h', toks := tk' }) :
    wpAny (model c.prog c.w) A (pyNext (.ref I)) Q (fun _ _ => False) s := by
  cases it with
  | lst l i =>
    obtain ⟨rfl, a, ha, hI⟩ := T
    obtain ⟨xs, us, n, e1, e2, e3⟩ := G.listAt ha
    simp only [nextI, e1] at hn
    cases hx : xs[i]? with
    | some w => rw [hx] at hn; cases hn
    | none =>
      have hlen := e3.length
      refine wpAny_pyNext_list_end hA.handled hI ⟨_, e2, rfl, n, rfl⟩ (by simpa [hlen] using hx) fun h' he => hQ h' s.toks fun b o hb e => he b o (by simpa using hb) e
  | rng cur left =>
    obtain ⟨rfl, hI⟩ := T
    cases left with
    | succ left => cases hn
    | zero => exact wpAny_pyNext_range_end hA.handled hI (by simp) fun h' he => hQ h' s.toks fun b o hb e => he b o (by simpa using hb) e
  | tup xs i =>
    obtain ⟨rfl, a, ha, hI⟩ := T
    obtain ⟨us, hT, hr⟩ := ha.tuple_at G.keep
    simp only [nextI] at hn
    cases hx : xs[i]? with
    | some w => rw [hx] at hn; cases hn
    | none =>
      have hlen := hr.length
      exact wpAny_pyNext_tuple_end (items := us.toArray) hA.handled hI hT (by simpa [hlen] using hx) fun h' he => hQ h' s.toks fun b o hb e => he b o (by simpa using hb) e
  | en l i =>
    obtain ⟨J, a, old, rfl, hne, ha, hE, hI⟩ := T
    obtain ⟨xs, us, n, e1, e2, e3⟩ := G.listAt ha
    simp only [nextI, e1] at hn
    cases hx : xs[i]? with
    | some w => rw [hx] at hn; cases hn
    | none =>
      have hlen := e3.length
      refine wpAny_pyNext_enum_end hA.handled hE hI ⟨_, e2, rfl, n, rfl⟩ (by simpa [hlen] using hx) fun h' he => hQ h' s.toks fun b o hb e => he b o (fun q => hb (by simp [q])) e
  | ent xs i =>
    obtain ⟨J, a, old, rfl, hne, ha, hE, hI⟩ := T
    obtain ⟨us, hT, e3⟩ := ha.tuple_at G.keep
    simp only [nextI] at hn
    have hlen := e3.length
    have haJ : a ≠ J := fun q => by
      obtain ⟨o, ho, hc, _⟩ := hT
      obtain ⟨o', ho', hc', _⟩ := hI
      rw [q, ho'] at ho; cases ho; rw [hc] at hc'; exact absurd hc' (by decide)
    cases hx : xs[i]? with
    | some w => rw [hx] at hn; cases hn
    | none =>
      have hI0 := hI
      have hge : us.length ≤ i := by rw [hlen]; exact List.getElem?_eq_none_iff.mp hx
      refine wpAny_pyNext_enum_endD' (A := A) hA.handled hE hI hT (by simpa using hge) fun h' he => hQ h' s.toks fun b o hb e => he b o (fun q => hb (by simp [q])) e
end
end Mine
end
/-! ## part FW7 -/
section
open PySem PySem.W PyProof.Rows PySem.Calls
set_option bootstrap.genMatcherCode false
namespace Mine
/-- what was held fast is let go again -/
structure Unlocked (base : Heap) (env : Env) (oc : List (Str × Addr)) (K K' : KM) (ρ' : List Addr) (st' : AS) (h h' : Heap) (D : List Addr) : Prop where
  rep : Rep base env oc (K'.free D) ρ' st' h'
  le : KLe K (K'.free D)
  same : ∀ b ∈ D, h'.get? b = h.get? b
  off : ∀ b ∈ D, b ∉ ρ' ∧ K'.free D b = none ∧ b ∉ frm env oc
  vr : ∀ u v, VR K' ρ' u v → VR (K'.free D) ρ' u v
  vrs : ∀ u v, VRs K' ρ' u v → VRs (K'.free D) ρ' u v
theorem unlock {base : Heap} {env : Env} {oc : List (Str × Addr)} {K K' : KM} {ρ' : List Addr} {st' : AS} {h h' : Heap} {D : List Addr} (hb : ∀ b o, base.get? b = some o → K b = some o) (hk : ∀ b o, K b = some o → h.get? b = some o)
    (hD : ∀ b ∈ D, K b = none) (hN : ∀ b ∈ D, ∃ o, h.get? b = some o ∧ NotVal o ∧ ∀ v, o.data ≠ .cell v) (hle : KLe (K.lock h D) K') (R : Rep base env oc K' ρ' st' h') : Unlocked base env oc K K' ρ' st' h h' D := by
  have at_ : ∀ b ∈ D, ∃ o, h.get? b = some o ∧ NotVal o ∧ K' b = some o := fun b q => by
    obtain ⟨o, ho, hn, _⟩ := hN b q
    exact ⟨o, ho, hn, hle b o (by unfold KM.lock; rw [if_pos q]; exact ho)⟩
  have nv : ∀ b ∈ D, ∀ o, K' b = some o → NotVal o := fun b q o e => by
    obtain ⟨o', h1, h2, h3⟩ := at_ b q
    rw [e] at h3; cases h3; exact h2
  have nb : ∀ b ∈ D, base.get? b = none := fun b q => by
    cases e : base.get? b with
    | none => rfl
    | some o => have := hb b o e; rw [hD b q] at this; cases this
  have le : KLe K (K'.free D) := KLe.free ((KLe.lock hk).trans hle) hD
  have fr : ∀ b, (K'.free D) b = none ∨ (K'.free D) b = K' b := fun b => by
    unfold KM.free
    by_cases q : b ∈ D
    · exact .inl (if_pos q)
    · exact .inr (if_neg q)
  have offF : ∀ b ∈ D, b ∉ frm env oc := fun b q hm => by
    obtain ⟨o, h1, h2, h3⟩ := at_ b q
    have := (R.off b hm).2
    rw [this] at h3; cases h3
  refine ⟨⟨R.g.free nb nv, ?_, ?_, R.own, R.apart, fun b hb => ⟨(R.off b hb).1, ?_⟩⟩, le, fun b q => ?_, fun b q => ⟨fun hm => ?_, ?_, offF b q⟩, fun u v r => r.free nv, fun u v r => r.free nv⟩
  · obtain ⟨m, h1, h2⟩ := R.ns
    exact ⟨m, h1, fun x v hx hv => let ⟨u, e, r⟩ := h2 x v hx hv; ⟨u, e, r.free nv⟩⟩
  · intro x v hx hv
    obtain ⟨h1, c, u, h2, h3, h4, h5⟩ := R.cells x v hx hv
    refine ⟨h1, c, u, h2, ?_, h4, h5.free nv⟩
    rcases h3 with h3 | ⟨o, h3⟩
    · exact .inl h3
    · refine .inr ⟨o, ?_⟩
      unfold KM.free
      rw [if_neg]
      · exact h3
      · intro q
        obtain ⟨o', g1, g2, g4⟩ := hN c q
        obtain ⟨o'', g5, g6, g3⟩ := at_ c q
        rw [g1] at g5; cases g5
        rw [h3] at g3; cases g3
        obtain ⟨oc', e1, e2⟩ := h4
        have e3 := R.g.keep _ _ h3
        rw [e1] at e3; cases e3
        exact g4 _ e2
  · rcases fr b with q | q
    · exact q
    · rw [q]; exact (R.off b hb).2
  · obtain ⟨o, h1, h2, h3⟩ := at_ b q
    rw [h1]; exact R.g.keep _ _ h3
  · obtain ⟨o, h1, h2, h3⟩ := at_ b q
    rw [R.g.fresh b hm] at h3; cases h3
  · unfold KM.free; rw [if_pos q]
/-- a frame that was held fast is let go again -/
structure Back (base : Heap) (env : Env) (oc : List (Str × Addr)) (K K' : KM) (ρ' : List Addr) (st' : AS) (h' : Heap) : Prop where
  rep : Rep base env oc (K'.free (frm env oc)) ρ' st' h'
  le : KLe K (K'.free (frm env oc))
  vr : ∀ u v, VR K' ρ' u v → VR (K'.free (frm env oc)) ρ' u v
theorem back {base : Heap} {env : Env} {oc : List (Str × Addr)} {K K' : KM} {ρ ρ' : List Addr} {st : AS} {H' : List (List AV)} {h h' : Heap} (R : Rep base env oc K ρ st h) (hle : KLe (K.lock h (frm env oc)) K') (hp : PLe ρ ρ') (G : GRep base K' ρ' H' h') :
    Back base env oc K K' ρ' { st with H := H' } h' := by
  have hl : KLe K (K.lock h (frm env oc)) := KLe.lock R.g.keep
  have hK' : ∀ x ∈ frm env oc, ∃ o, h.get? x = some o ∧ K' x = some o := fun x hx => by
    obtain ⟨o, ho⟩ := R.frm_there x hx
    exact ⟨o, ho, hle x o (by unfold KM.lock; rw [if_pos hx]; exact ho)⟩
  have hN : ∀ x ∈ frm env oc, ∀ o, K' x = some o → NotVal o := fun x hx o e => by
    obtain ⟨o', h1, h2⟩ := hK' x hx
    rw [e] at h2; cases h2
    exact R.frm_notval x hx o h1
  have hB : ∀ x ∈ frm env oc, base.get? x = none := fun x hx => by
    cases e : base.get? x with
    | none => rfl
    | some o => have := R.g.base x o e; rw [(R.off x hx).2] at this; cases this
  have le := KLe.free (hl.trans hle) fun x hx => (R.off x hx).2
  refine ⟨R.move le hp (G.free hB hN) (fun x hx => ?_) fun x hx => ⟨fun hm => ?_, ?_⟩, le, fun u v r => r.free hN⟩
  · obtain ⟨o, h1, h2⟩ := hK' x hx
    rw [h1]; exact G.keep x o h2
  · obtain ⟨o, h1, h2⟩ := hK' x hx
    rw [G.fresh x hm] at h2; cases h2
  · unfold KM.free; rw [if_pos hx]
/-! ### targets -/
noncomputable def tgName (x : Str) : AV → AS → Option AS := fun v st => some (st.put x v)
noncomputable def tgPair (x y : Str) : AV → AS → Option AS := fun v st => match v with
  | .tuple [a, b] => some ((st.put x a).put y b)
  | _ => none
structure Tg (c : Cx) (f : Fx) (t : Expr) (F : AV → AS → Option AS) : Prop where
  kind : isName t = true ∨ isTup t = true
  go : ∀ A env oc, AOk f.k A → EnvIs A f.t f.sc env → oc.map (·.1) = f.own → ∀ v st st', F v st = some st' → ∀ K ρ s, Rep c.base env oc K ρ st s.heap → ∀ u, VR K ρ u v →
    wpAny (model c.prog c.w) A (assign t env u) (fun _ => Pst c.base env oc K ρ s st' (fun _ _ => True)) (fun _ _ => False) s
section
variable {c : Cx} {f : Fx}
theorem Tg.name {x : Str} {p : Pos} (hx : f.sc.names.lookup x = some .local ∨ (f.sc.names.lookup x = some .cell ∧ x ∈ f.own)) : Tg c f (.Name x p) (tgName x) := by
  refine ⟨.inl rfl, ?_⟩
  intro A env oc hA hE hoc v st st' hF K ρ s R u r
  cases hF
  exact wpAny_assign_Name (store_rep hE hoc hx R r fun h' tk' R2 _ => (Pst.mk (K' := K) (ρ' := ρ) (KLe.refl K) (PLe.refl ρ) R2 trivial))
theorem Tg.pair {x y : Str} {px py p : Pos} {k : Nat} (hx : f.sc.names.lookup x = some .local ∨ (f.sc.names.lookup x = some .cell ∧ x ∈ f.own)) (hy : f.sc.names.lookup y = some .local ∨ (f.sc.names.lookup y = some .cell ∧ y ∈ f.own)) :
    Tg c f (.Tuple [.Name x px, .Name y py] k p) (tgPair x y) := by
  refine ⟨.inr rfl, ?_⟩
  intro A env oc hA hE hoc v st st' hF K ρ s R u r
  unfold tgPair at hF
  split at hF
  · rename_i a b
    cases hF
    cases r using VR.tupleE with
    | tuple e1 e2 e3 e4 =>
      cases e4 using VRs.consE with
      | cons r1 e5 =>
        cases e5 using VRs.consE with
        | cons r2 e6 =>
          cases e6 using VRs.nilE
          rename_i u1 u2
          refine wpAny_assign_Tuple (items := #[u1, u2]) hA.handled ⟨_, R.g.keep _ _ e1, e2, _, e3⟩ rfl rfl fun h' he => ?_
          have hsz : s.heap.get? s.heap.objs.size = none := get_none_of (Nat.le_refl _)
          have R1 : Rep c.base env oc K ρ st h' := R.grow fun b o e => he b o (by rintro rfl; rw [hsz] at e; cases e) e
          show wpAny _ A (assignInOrder [assign (.Name x px) env, assign (.Name y py) env] [u1, u2]) _ _ _
          refine wpAny_bind (wpAny_holding (wpAny_assign_Name (store_rep (s := { s with heap := h' }) hE hoc hx R1 r1 fun h2 tk2 R2 _ => ?_)))
          refine wpAny_bind (wpAny_holding (wpAny_assign_Name (store_rep (s := { s with heap := h2, toks := tk2 }) hE hoc hy R2 r2 fun h3 tk3 R3 _ => ?_)))
          exact wpAny_pure (Pst.mk (K' := K) (ρ' := ρ) (KLe.refl K) (PLe.refl ρ) R3 trivial)
  · cases hF
/-! ### what is walked -/
noncomputable def It (c : Cx) (f : Fx) (e : Expr) (F : AS → Option (IT × AS)) : Prop :=
  ∀ A env oc, AOk f.k A → EnvIs A f.t f.sc env → oc.map (·.1) = f.own → ∀ st it st', F st = some (it, st') → ∀ K ρ s, Rep c.base env oc K ρ st s.heap →
    ∀ Q : Value → Shared → Prop, (∀ I D K' ρ' h' tk', KLe K K' → PLe ρ ρ' → Rep c.base env oc K' ρ' st' h' → ItRep K' ρ' h' it I D → (∀ b ∈ D, b ∉ ρ' ∧ K' b = none ∧ b ∉ frm env oc) → Q (.ref I) { s with heap := h', toks := tk' }) →
      wpAny (model c.prog c.w) A (eval e env) (fun u s₁ => wpAny (model c.prog c.w) A (pyIter u) Q (fun _ _ => False) s₁) (fun _ _ => False) s
noncomputable def itOf : AV → Option IT
  | .lst l => some (.lst l 0)
  | .rng a b => if -(2 ^ 62) ≤ a ∧ a < 2 ^ 62 ∧ -(2 ^ 62) ≤ b ∧ b < 2 ^ 62 then some (.rng a (b - a).toNat) else none
  | .tuple xs => some (.tup xs 0)
  | _ => none
noncomputable def iOf (F : EM) : AS → Option (IT × AS) := fun st => match F st with
  | some (v, s1) => match itOf v with
    | some it => some (it, s1)
    | none => none
  | none => none
theorem off_new {env : Env} {oc : List (Str × Addr)} {K : KM} {ρ : List Addr} {st : AS} {h : Heap} (R : Rep c.base env oc K ρ st h) : ∀ b ∈ [h.objs.size], b ∉ ρ ∧ K b = none ∧ b ∉ frm env oc := fun b hb => by
  simp at hb; subst hb
  obtain ⟨a1, a2, a3⟩ := R.off_of (get_none_of (Nat.le_refl _))
  exact ⟨a2, a3, a1⟩
theorem It.of {e : Expr} {F : EM} (he : Ev c f e F) : It c f e (iOf F) := by
  intro A env oc hA hE hoc st it st' hF K ρ s R Q hQ
  unfold iOf at hF
  split at hF
  · rename_i v s1 h1
    split at hF
    · rename_i it' h2
      cases hF
      refine step (he A env oc hA hE hoc _ _ _ h1 K ρ s R) fun u K₁ ρ₁ h₁ t₁ k1 p1 R1 r1 => ?_
      cases r1 with
      | lst hl =>
        cases h2
        obtain ⟨xs, us, n, e1, e2, e3⟩ := R1.g.listAt hl
        refine wpAny_pyIter_list (items := us.toArray) ⟨_, e2, rfl, n, rfl⟩ ?_
        exact hQ _ [h₁.objs.size] K₁ ρ₁ _ t₁ k1 p1 (R1.grow fun _ _ e => Heap.get?_push_of_some _ e) ⟨rfl, _, hl, _, Heap.get?_push_size _ rfl, rfl, rfl⟩ (off_new R1)
      | rng hr =>
        rename_i r a b t u v
        simp only [itOf] at h2
        split at h2
        · rename_i hb
          cases h2
          refine wpAny_pyIter_range (R1.g.keep _ _ hr) (small_one hb.1 hb.2.1 hb.2.2.1 hb.2.2.2) ?_
          refine hQ _ [h₁.objs.size] K₁ ρ₁ _ t₁ k1 p1 (R1.grow fun _ _ e => Heap.get?_push_of_some _ e) ⟨rfl, ?_⟩ (off_new R1)
          have : Builtin.Range.rangeSize a b 1 = (((b - a).toNat : Nat) : Int) := by rw [rangeSize_one]; split <;> (first | lia | omega)
          rw [this]
          exact Heap.get?_push_size _ rfl
        · cases h2
      | tuple e1 e2 e3 e4 =>
        cases h2
        rename_i a o us n xs
        refine wpAny_pyIter_tuple (items := us.toArray) ⟨_, R1.g.keep _ _ e1, e2, n, e3⟩ ?_
        exact hQ _ [h₁.objs.size] K₁ ρ₁ _ t₁ k1 p1 (R1.grow fun _ _ e => Heap.get?_push_of_some _ e) ⟨rfl, _, .tuple e1 e2 e3 e4, _, Heap.get?_push_size _ rfl, rfl, rfl⟩ (off_new R1)
      | none => cases h2
      | bool => cases h2
      | int => cases h2
      | str => cases h2
      | raw => cases h2
    · cases hF
  · cases hF
/-- «enumerate(xs)» in a loop's head -/
noncomputable def iEnum (F : EM) : AS → Option (IT × AS) := fun st => match F st with
  | some (.lst l, s1) => some (.en l 0, s1)
  | some (.tuple xs, s1) => some (.ent xs 0, s1)
  | _ => none
theorem It.enum {e : Expr} {np pos : Pos} {F : EM} (hc : c.Ok) (hx : f.sc.names.lookup (Str.ofString "enumerate") = some .globalImplicit) (hm : c.mg (Str.ofString "enumerate") = none) (hb : bootBuiltins (Str.ofString "enumerate") = some (.type "enumerate")) (he : Ev c f e F)
    (hs : ∀ env, starEach [e] env = [(false, eval e env)] := by intro _; rfl) : It c f (.Call (.Name (Str.ofString "enumerate") np) [e] [] pos) (iEnum F) := by
  intro A env oc hA hE hoc st it st' hF K ρ s R Q hQ
  unfold iEnum at hF
  split at hF
  · rename_i l s1 h1
    cases hF
    rw [eval_callName]
    refine wpAny_bind (Name_function_global (by rw [hE.scope]; exact hE.kind) (by unfold Env.kindOf; rw [hE.scope]; exact hx) (loadGlobal_builtin (by rw [hE.globals]; exact ns_up R.g hc.g) hm (by rw [hE.builtins]; exact ns_up R.g hc.b) (by rw [hc.builtins _ (by decide)]; exact hb) ?_))
    have hes : Es c f [e] (esCons F esNil) := Es.cons he Es.nil hs
    refine callWith_val rfl (by rw [hs env]; rfl) (by rw [hs env]; rfl) (step (hes A env oc hA hE hoc _ _ _ (by unfold esCons; rw [h1]; rfl) K ρ s R pos) fun us K₁ ρ₁ h₁ t₁ k1 p1 R1 r1 => ?_)
    rw [List.nil_append]
    cases r1 using VRs.consE with
    | cons r1 r2 =>
      cases r2 using VRs.nilE
      cases r1 using VR.lstE with
      | lst hl =>
        obtain ⟨xs, us, n, e1, e2, e3⟩ := R1.g.listAt hl
        refine call_enumerate_1 e2 fun h' hen hli hsz hk => ?_
        refine wpAny_pyIter_enum hen ?_
        refine hQ _ [h₁.objs.size + 1, h₁.objs.size] K₁ ρ₁ h' t₁ k1 p1 (R1.grow hk) ⟨_, _, .none, rfl, Nat.succ_ne_self _, hl, hen, hli⟩ fun b hb => ?_
        have h0 : h₁.get? b = none := by
          simp at hb
          rcases hb with rfl | rfl
          · exact get_none_of (Nat.le_succ _)
          · exact get_none_of (Nat.le_refl _)
        obtain ⟨a1, a2, a3⟩ := R1.off_of h0
        exact ⟨a2, a3, a1⟩
  · rename_i xs s1 h1
    cases hF
    rw [eval_callName]
    refine wpAny_bind (Name_function_global (by rw [hE.scope]; exact hE.kind) (by unfold Env.kindOf; rw [hE.scope]; exact hx) (loadGlobal_builtin (by rw [hE.globals]; exact ns_up R.g hc.g) hm (by rw [hE.builtins]; exact ns_up R.g hc.b) (by rw [hc.builtins _ (by decide)]; exact hb) ?_))
    have hes : Es c f [e] (esCons F esNil) := Es.cons he Es.nil hs
    refine callWith_val rfl (by rw [hs env]; rfl) (by rw [hs env]; rfl) (step (hes A env oc hA hE hoc _ _ _ (by unfold esCons; rw [h1]; rfl) K ρ s R pos) fun us K₁ ρ₁ h₁ t₁ k1 p1 R1 r1 => ?_)
    rw [List.nil_append]
    cases r1 using VRs.consE with
    | cons r1 r2 =>
      cases r2 using VRs.nilE
      cases r1 using VR.tupleE with
      | tuple e1 e2 e3 e4 =>
        rename_i a o us n
        refine call_enumerate_tuple (items := us.toArray) ⟨_, R1.g.keep _ _ e1, e2, n, e3⟩ fun h' hen hli hsz hk => ?_
        refine wpAny_pyIter_enum hen ?_
        refine hQ _ [h₁.objs.size + 1, h₁.objs.size] K₁ ρ₁ h' t₁ k1 p1 (R1.grow hk) ⟨_, _, .none, rfl, Nat.succ_ne_self _, .tuple e1 e2 e3 e4, hen, hli⟩ fun b hb => ?_
        have h0 : h₁.get? b = none := by
          simp at hb
          rcases hb with rfl | rfl
          · exact get_none_of (Nat.le_succ _)
          · exact get_none_of (Nat.le_refl _)
        obtain ⟨a1, a2, a3⟩ := R1.off_of h0
        exact ⟨a2, a3, a1⟩
  · cases hF
/-! ### for -/
noncomputable def sForGo (tg : AV → AS → Option AS) (b els : SM) : Nat → IT → SM
  | 0, _ => fun _ => none
  | n + 1, it => fun st => match nextI it st.H with
    | some none => els st
    | some (some (v, it')) => match tg v st with
      | some s1 => match b s1 with
        | some (.next, s2) => sForGo tg b els n it' s2
        | some (.cont, s2) => sForGo tg b els n it' s2
        | some (.brk, s2) => some (.next, s2)
        | some (.ret v, s2) => some (.ret v, s2)
        | none => none
      | none => none
    | none => none
noncomputable def sFor (n : Nat) (i : AS → Option (IT × AS)) (tg : AV → AS → Option AS) (b els : SM) : SM := fun st => match i st with
  | some (it, s1) => sForGo tg b els n it s1
  | none => none
inductive ForInv (c : Cx) (env : Env) (oc : List (Str × Addr)) (K : KM) (ρ : List Addr) (s : Shared) (t : Expr) (Ft : AV → AS → Option AS) (Fb Fe : SM) (I : Addr) (D : List Addr) (out : Fl × AS) (n : Nat) : Shared → Prop
  | mk {it : IT} {sa : AS} {K' : KM} {ρ' : List Addr} {h' : Heap} {tk' : Nat} : KLe K K' → PLe ρ ρ' → Rep c.base env oc K' ρ' sa h' → ItRep K' ρ' h' it I D → okT t it → (∀ b ∈ D, b ∉ ρ' ∧ K' b = none ∧ b ∉ frm env oc) →
      sForGo Ft Fb Fe n it sa = some out → ForInv c env oc K ρ s t Ft Fb Fe I D out n { s with heap := h', toks := tk' }
theorem loop_rule {prog : Program} {w : World} {A : Around} {env : Env} {t : Expr} {it : Value} {b els : List Stmt} {R : Result → Shared → Prop} {s : Shared} (Inv : Nat → Shared → Prop) (Q : Flow → Shared → Prop) (hR : ∀ f s', Q f s' → R (.ok f) s')
    (turn : ∀ n s, Inv n s → wpAny (model prog w) A (pyNext it) (fun r s₁ => match r with
      | none => wpAny (model prog w) A (execs els env) Q (fun _ _ => False) s₁
      | some v => wpAny (model prog w) A (letOwnedTupleGo t it v) (fun _ s₂ => wpAny (model prog w) A (PySem.assign t env v) (fun _ s₃ => wpAny (model prog w) A (execs b env) (LoopQ Inv Q n) (fun _ _ => False) s₃) (fun _ _ => False) s₂) (fun _ _ => False) s₁) (fun _ _ => False) s)
    (n : Nat) (h : Inv n s) : codeAny (model prog w) A (.forLoop t it b els env) R s := by
  refine codeAny_forLoop_any (I := Inv) (fun n s' hI => wpAny_noRaise (wpAny_mono (turn n s' hI) (fun r s₃ hr => ?_) fun _ _ x => x)) n h
  cases r with
  | none => exact wpAny_noRaise (wpAny_mono hr (fun f s₄ h4 => hR f s₄ h4) fun _ _ x => x)
  | some u =>
    refine wpAny_noRaise (wpAny_mono hr (fun _ s₄ h4 => wpAny_noRaise (wpAny_mono h4 (fun _ s₅ h5 => wpAny_noRaise (wpAny_mono h5 (fun fl s₆ h6 => ?_) fun _ _ x => x)) fun _ _ x => x)) fun _ _ x => x)
    cases fl with
    | next => exact h6
    | cont => exact h6
    | brk => exact hR _ _ h6
    | ret v => exact hR _ _ h6
theorem it_some {M : Model} {A : Around} {t : Expr} {it : Value} {s : Shared} {N : Shared → Prop} {P : Value → Shared → Prop} (h : wpAny M A (pyNext it) (fun r s₁ => match r with | none => False | some u => wpAny M A (letOwnedTupleGo t it u) (fun _ s₂ => P u s₂) (fun _ _ => False) s₁) (fun _ _ => False) s) :
    wpAny M A (pyNext it) (fun r s₁ => match r with | none => N s₁ | some u => wpAny M A (letOwnedTupleGo t it u) (fun _ s₂ => P u s₂) (fun _ _ => False) s₁) (fun _ _ => False) s := wpAny_mono h (fun r s₁ hr => by
  cases r with
  | none => exact hr.elim
  | some u => exact hr) fun _ _ x => x
/-- the state behind a turn's item -/
theorem rep_item {base : Heap} {env : Env} {oc : List (Str × Addr)} {K₂ K₃ : KM} {ρ₂ : List Addr} {sa : AS} {h₂ h₃ : Heap} {D : List Addr} (R2 : Rep base env oc K₂ ρ₂ sa h₂) (off2 : ∀ b ∈ D, b ∉ frm env oc) (k3 : KLe K₂ K₃) (G3 : GRep base K₃ ρ₂ sa.H h₃)
    (kk : ∀ b o, b ∉ D → h₂.get? b = some o → h₃.get? b = some o) (fr3 : ∀ b o, h₂.get? b = some o → K₂ b = none → K₃ b = none) : Rep base env oc K₃ ρ₂ sa h₃ := by
  refine R2.move k3 (PLe.refl ρ₂) G3 (fun b hb => ?_) fun b hb => ?_
  · obtain ⟨o, ho⟩ := R2.frm_there b hb
    rw [ho]; exact kk b o (fun q => off2 b q hb) ho
  · obtain ⟨o, ho⟩ := R2.frm_there b hb
    exact ⟨(R2.off b hb).1, fr3 b o ho (R2.off b hb).2⟩
theorem St.forS {t iter : Expr} {b els : List Stmt} {pos : Pos} {Fi : AS → Option (IT × AS)} {Ft : AV → AS → Option AS} {Fb Fe : SM} (n : Nat) (hi : It c f iter Fi) (ht : Tg c f t Ft) (hb : Ss c f b Fb) (he : Ss c f els Fe)
    (hok : ∀ st it st', Fi st = some (it, st') → okT t it) (hs : ∀ env x, foldedSetIterable iter env x = pure x := by intro _ _; rfl) : St c f (.For t iter b els pos) (sFor n Fi Ft Fb Fe) := by
  intro A env oc hA hE hoc st v st' hF K ρ s R
  unfold sFor at hF
  split at hF
  · rename_i it s1 h1
    refine wpAny_For (hi A env oc hA hE hoc _ _ _ h1 K ρ s R _ fun I D K₁ ρ₁ h₁ t₁ k1 p1 R1 T1 off1 => ?_) (hs env)
    refine loop_rule (ForInv c env oc K ρ s t Ft Fb Fe I D (v, st')) (fun u => Pst c.base env oc K ρ s st' (fun K' ρ' => FR K' ρ' u v)) (fun f s' h => h) ?_ n (.mk k1 p1 R1 T1 (hok _ _ _ h1) off1 hF)
    rintro n s' ⟨k2, p2, R2, T2, ok2, off2, hg⟩
    rename_i it sa K₂ ρ₂ h₂ t₂
    cases n with
    | zero => cases hg
    | succ n =>
      unfold sForGo at hg
      cases hn : nextI it sa.H with
      | none => rw [hn] at hg; cases hg
      | some r =>
        rw [hn] at hg
        cases r with
        | none =>
          refine it_end (s := { s with heap := h₂, toks := t₂ }) hA hn R2.g T2 fun h' tk' kk => ?_
          refine step (s := { s with heap := h', toks := tk' }) (he A env oc hA hE hoc _ _ _ hg K₂ ρ₂ _ (R2.but (D := D) kk fun b hb => ⟨(off2 b hb).2.2, (off2 b hb).1, (off2 b hb).2.1⟩)) fun u K₃ ρ₃ h₃ t₃ k3 p3 R4 r4 => ?_
          exact Pst.mk (K' := K₃) (ρ' := ρ₃) (k2.trans k3) (p2.trans p3) R4 r4
        | some r =>
          obtain ⟨w, it'⟩ := r
          dsimp only at hg
          cases hw : Ft w sa with
          | none => rw [hw] at hg; cases hg
          | some sb =>
            rw [hw] at hg
            dsimp only at hg
            refine it_some (it_next (s := { s with heap := h₂, toks := t₂ }) hA hn ok2 R2.g T2 (fun b hb => ⟨(off2 b hb).1, (off2 b hb).2.1⟩) fun u K₃ h₃ t₃ k3 G3 v3 T3 ok3 kk fr3 => ?_)
            have R3 := rep_item R2 (fun b hb => (off2 b hb).2.2) k3 G3 kk fr3
            have off3 : ∀ b ∈ D, b ∉ ρ₂ ∧ K₃ b = none ∧ b ∉ frm env oc := fun b hb => by
              obtain ⟨o, ho, _⟩ := T2.notval b hb
              exact ⟨(off2 b hb).1, fr3 b o ho (off2 b hb).2.1, (off2 b hb).2.2⟩
            have RL : Rep c.base env oc (K₃.lock h₃ D) ρ₂ sa h₃ := R3.lock fun b hb => ⟨(off3 b hb).1, (off3 b hb).2.2⟩
            refine step (s := { s with heap := h₃, toks := t₃ }) (ht.go A env oc hA hE hoc _ _ _ hw _ ρ₂ _ RL u (v3.mono (KLe.lock R3.g.keep) (PLe.refl _))) fun _ K₄ ρ₄ h₄ t₄ k4 p4 R4 _ => ?_
            cases hbb : Fb sb with
            | none => rw [hbb] at hg; cases hg
            | some q =>
              obtain ⟨fl, sc⟩ := q
              rw [hbb] at hg
              refine step (s := { s with heap := h₄, toks := t₄ }) (hb A env oc hA hE hoc _ _ _ hbb K₄ ρ₄ _ R4) fun u' K₅ ρ₅ h₅ t₅ k5 p5 R5 r5 => ?_
              have U := unlock R3.g.base R3.g.keep (fun b hb => (off3 b hb).2.1) T3.notval (k4.trans k5) R5
              have kk5 : KLe K (K₅.free D) := k2.trans (k3.trans U.le)
              have pp5 : PLe ρ ρ₅ := p2.trans (p4.trans p5)
              have T5 : ItRep (K₅.free D) ρ₅ h₅ it' I D := T3.move U.le (p4.trans p5) U.same
              cases r5 with
              | next => exact ⟨n, Nat.lt_succ_self n, .mk kk5 pp5 U.rep T5 ok3 U.off hg⟩
              | cont => exact ⟨n, Nat.lt_succ_self n, .mk kk5 pp5 U.rep T5 ok3 U.off hg⟩
              | brk => cases hg; exact Pst.mk kk5 pp5 U.rep .next
              | ret r => cases hg; exact Pst.mk kk5 pp5 U.rep (.ret (U.vr _ _ r))
  · cases hF
end
end Mine
end
/-! ## part FW8 -/
section
open PySem PySem.W PyProof.Rows PySem.Calls
set_option bootstrap.genMatcherCode false
namespace Mine
section
variable {prog : Program} {w : World} {A : Around} {R : Result → Shared → Prop} {s : Shared}
theorem compLoop_any {elt target iter : Expr} {ifs : List Expr} {scope : Scope} {pos : Pos} {it acc : Value} {env : Env} (I : Nat → Shared → Prop)
    (turn : ∀ n s, I n s → wpAny (model prog w) A (pyNext it) (fun r s₁ => match r with
      | none => R (.ok .next) s₁
      | some v => wpAny (model prog w) A (letOwnedTupleGo target it v) (fun _ s₁' => wpAny (model prog w) A (PySem.assign target env v) (fun _ s₂ =>
          wpAny (model prog w) A (forIn ifs true fun c r => if r = true then do let ok ← isTrue c env (eval c env); pure (ForInStep.yield ok) else pure (ForInStep.yield r)) (fun ok s₃ =>
            if ok = true then wpAny (model prog w) A (eval elt env) (fun x s₄ =>
              wpAny (model prog w) A (call (.builtin "list.append") [acc, x]) (fun _ s₅ => ∃ m, m < n ∧ I m s₅) (fun _ _ => False) s₄) (fun _ _ => False) s₃
            else ∃ m, m < n ∧ I m s₃) (fun _ _ => False) s₂) (fun _ _ => False) s₁') (fun _ _ => False) s₁) (fun _ _ => False) s)
    (n : Nat) (h : I n s) : codeAny (model prog w) A (.compLoop (.ListComp elt [⟨target, iter, ifs, 0⟩] scope pos) 0 it acc env) R s := by
  refine codeAny_loop rfl I (fun n s hI => ?_) n h
  show wpAny _ A ((compTurn (.ListComp elt [⟨target, iter, ifs, 0⟩] scope pos) 0 it acc env).onRaise (fun x => do noteFrame x env; theTreesLotGoes x)) _ _ s
  refine wpAny_noted (wpAny_noRaise ?_)
  rw [compTurn_list]
  refine wpAny_bind (wpAny_standAt (wpAny_bind (wpAny_mono (turn n s hI) (fun r s₁ h₁ => ?_) fun _ _ h' => h')))
  cases r with
  | none => exact wpAny_pure h₁
  | some v =>
    refine wpAny_bind (wpAny_mono h₁ (fun _ s₁' h₁' => wpAny_bind (wpAny_mono h₁' (fun _ s₂ h₂ => wpAny_bind (wpAny_mono h₂ (fun ok s₃ h₃ => ?_) fun _ _ h' => h')) fun _ _ h' => h')) fun _ _ h' => h')
    cases ok with
    | false => exact wpAny_pure ⟨rfl, h₃⟩
    | true =>
      exact wpAny_bind (wpAny_bind (wpAny_mono h₃ (fun x s₄ h₄ => wpAny_bind (wpAny_mono h₄ (fun _ s₅ h₅ => wpAny_pure (wpAny_pure ⟨rfl, h₅⟩)) fun _ _ h' => h')) fun _ _ h' => h'))
end
/-! ### the frame of a comprehension -/
noncomputable def relabelS (scope sc : Scope) : Scope :=
  { scope with names := scope.names.map fun (n, k) => if (k == .free && sc.kind == .function && sc.names.lookup n == some .cell) then (n, .cell) else (n, k) }
theorem relabel_eq {scope sc : Scope} {env : Env} (h : env.scope = sc) : relabel scope env = relabelS scope sc := by
  subst h; rfl
theorem lookup_relabelS {scope sc : Scope} (x : Str) : (relabelS scope sc).names.lookup x = (scope.names.lookup x).map fun k => if (k == .free && sc.kind == .function && sc.names.lookup x == some .cell) then .cell else k := by
  unfold relabelS
  dsimp only
  induction scope.names with
  | nil => rfl
  | cons p r ih =>
    obtain ⟨n, k⟩ := p
    have e : (if (k == NameKind.free && sc.kind == ScopeKind.function && sc.names.lookup n == some NameKind.cell) = true then (n, NameKind.cell) else (n, k)) =
        (n, if (k == NameKind.free && sc.kind == ScopeKind.function && sc.names.lookup n == some NameKind.cell) = true then NameKind.cell else k) := by split <;> rfl
    rw [List.map_cons]
    dsimp only
    rw [e, List.lookup_cons, List.lookup_cons]
    cases hx : x == n with
    | false => exact ih
    | true =>
      have hx' : x = n := eq_of_beq hx
      subst hx'
      rfl
theorem cellsFrom_acc : ∀ (names : List (Str × NameKind)) (n : Nat) (acc : List (Str × Addr)), cellsFrom n names acc = cellsFrom n names [] ++ acc
  | [], n, acc => rfl
  | (x, k) :: r, n, acc => by
    unfold cellsFrom
    split
    · rw [cellsFrom_acc r (n + 1) ((x, n) :: acc), cellsFrom_acc r (n + 1) [(x, n)], List.append_assoc]; rfl
    · exact cellsFrom_acc r n acc
theorem newEnv_comp {M : Model} {A : Around} {s : Shared} {E : Value → Shared → Prop} {scope : Scope} {globals : Addr} {cl : List (Str × Addr)} {qual : Str} {outer : Env} {Q : Env → Shared → Prop}
    (hQ : ∀ h', (∀ b o, s.heap.get? b = some o → h'.get? b = some o) → h'.Ns s.heap.objs.size (fun _ => none) → (∀ n a, (n, a) ∈ cellsFrom (s.heap.objs.size + 1) scope.names [] → h'.IsCell a none ∧ s.heap.objs.size < a) →
      ((cellsFrom (s.heap.objs.size + 1) scope.names []).Pairwise fun x y => x.2 ≠ y.2) →
      Q (newEnv scope s.heap.objs.size globals (cellsFrom (s.heap.objs.size + 1) scope.names [] ++ cl) qual none .none (some outer) builtinsNs) { s with heap := h' }) :
    wpAny M A (newFunctionEnv scope globals cl [] qual none .none (some outer)) Q E s := by
  simp only [newFunctionEnv, Option.isSome_some, if_true]
  refine wpAny_bind (wpAny_alloc ?_)
  refine wpAny_bind (wpAny_layCells _ (fun name kind cells => by cases hkc : kind == NameKind.cell <;> simp [hkc]) _ _ _ _ ?_)
  have ok := cellsFrom_ok scope.names (s.heap.push { cls := .type "dict", data := .dict #[] }) (s.heap.objs.size + 1) [] ⟨fun _ _ hm => (nomatch hm), List.Pairwise.nil⟩ (by rw [Heap.size_push]; exact Nat.le_refl _)
  rw [Heap.size_push] at ok
  rw [show ({ s with heap := s.heap.push { cls := .type "dict", data := .dict #[] } } : Shared).heap.objs.size = s.heap.objs.size + 1 from Heap.size_push ..]
  refine wpAny_bind ?_
  rw [List.forIn_nil]
  refine wpAny_pure (wpAny_pure ?_)
  rw [cellsFrom_acc]
  exact hQ _ (fun b o e => pushCells_keeps _ _ b o (Heap.get?_push_of_some _ e)) ((Heap.Ns.new s.heap (.type "dict")).keeps (pushCells_keeps _ _)) (fun n a hm => ok.empty n a hm) ok.apart
theorem closure_is {env : Env} : ∀ (names : List (Str × NameKind)) (acc : List (Str × Addr)), (∀ p ∈ names, p.2 = .free → ∃ a, env.cells.lookup p.1 = some a) →
    ∃ cl, (forIn names acc fun (x : Str × NameKind) (r : List (Str × Addr)) => if (x.2 == NameKind.free) = true then (do let a ← cellOf env x.1; pure (ForInStep.yield ((x.1, a) :: r))) else pure (ForInStep.yield r) : Sem (List (Str × Addr))) = pure cl ∧
      ∀ x, (x, NameKind.free) ∈ names ∨ (acc.lookup x = env.cells.lookup x ∧ (acc.lookup x).isSome = true) → cl.lookup x = env.cells.lookup x
  | [], acc, _ => ⟨acc, rfl, fun x h => by
      rcases h with h | h
      · exact nomatch h
      · exact h.1⟩
  | (n, k) :: r, acc, h => by
    by_cases hk : k = .free
    · subst hk
      obtain ⟨a, ha⟩ := h (n, .free) List.mem_cons_self rfl
      obtain ⟨cl, e, hl⟩ := closure_is r ((n, a) :: acc) fun p hp => h p (List.mem_cons_of_mem _ hp)
      refine ⟨cl, ?_, fun x hx => hl x ?_⟩
      · rw [List.forIn_cons]
        have : cellOf env n = pure a := by unfold cellOf; rw [ha]
        simp only [this, beq_self_eq_true, if_true]
        exact e
      · have hself : x = n → ((n, a) :: acc).lookup x = env.cells.lookup x ∧ (((n, a) :: acc).lookup x).isSome = true := by
          rintro rfl
          simp [List.lookup_cons, ha]
        by_cases q : x = n
        · exact .inr (hself q)
        · rcases hx with hx | hx
          · rcases List.mem_cons.mp hx with e | hx
            · cases e; exact absurd rfl q
            · exact .inl hx
          · refine .inr ?_
            have hb : (x == n) = false := by simpa using q
            rw [List.lookup_cons, hb]; exact hx
    · obtain ⟨cl, e, hl⟩ := closure_is r acc fun p hp => h p (List.mem_cons_of_mem _ hp)
      refine ⟨cl, ?_, fun x hx => hl x ?_⟩
      · rw [List.forIn_cons]
        have hb : (k == NameKind.free) = false := by simpa using hk
        simp only [hb, Bool.false_eq_true, if_false]
        exact e
      · rcases hx with hx | hx
        · rcases List.mem_cons.mp hx with e | hx
          · cases e; exact absurd rfl hk
          · exact .inl hx
        · exact .inr hx
theorem closureFor_is {env : Env} {scope : Scope} (h : ∀ p ∈ scope.names, p.2 = .free → ∃ a, env.cells.lookup p.1 = some a) :
    ∃ cl, closureFor scope env = pure cl ∧ ∀ x, (x, NameKind.free) ∈ scope.names → cl.lookup x = env.cells.lookup x := by
  obtain ⟨cl, e, hl⟩ := closure_is (env := env) scope.names [] h
  refine ⟨cl, ?_, fun x hx => hl x (.inl hx)⟩
  unfold closureFor
  refine (congrArg (· >>= fun cs => pure cs) ?_).trans (show (pure cl >>= fun cs => pure cs : Sem (List (Str × Addr))) = pure cl from rfl)
  exact e
end Mine
end
/-! ## part FW9 -/
section
open PySem PySem.W PyProof.Rows PySem.Calls
set_option bootstrap.genMatcherCode false
namespace Mine
noncomputable def compGo (tg : AV → AS → Option AS) (tst : TM) (elt : EM) : Nat → IT → AS → List AV → Option (List AV × List (List AV))
  | 0, _, _, _ => none
  | n + 1, it, st, acc => match nextI it st.H with
    | some none => some (acc, st.H)
    | some (some (v, it')) => match tg v st with
      | some s1 => match tst s1 with
        | some (true, s2) => match elt s2 with
          | some (y, s3) => compGo tg tst elt n it' s3 (acc ++ [y])
          | none => none
        | some (false, s2) => compGo tg tst elt n it' s2 acc
        | none => none
      | none => none
    | none => none
noncomputable def compLoc (fv : List Str) (st : AS) : AS := ⟨fun x => if x ∈ fv then st.loc x else none, st.H⟩
noncomputable def eComp (n : Nat) (i : AS → Option (IT × AS)) (fv : List Str) (tg : AV → AS → Option AS) (tst : TM) (elt : EM) : EM := fun st => if fv.all (fun x => (st.loc x).isSome) = true then
    match i st with
    | some (it, s1) => match compGo tg tst elt n it (compLoc fv s1) [] with
      | some (ys, H') => some (.lst H'.length, { s1 with H := H' ++ [ys] })
      | none => none
    | none => none
  else none
noncomputable def Ts (c : Cx) (f : Fx) (ifs : List Expr) (F : TM) : Prop :=
  ∀ A env oc, AOk f.k A → EnvIs A f.t f.sc env → oc.map (·.1) = f.own → ∀ st b st', F st = some (b, st') → ∀ K ρ s, Rep c.base env oc K ρ st s.heap →
    wpAny (model c.prog c.w) A (forIn ifs true fun c r => if r = true then do let ok ← isTrue c env (eval c env); pure (ForInStep.yield ok) else pure (ForInStep.yield r))
      (fun b' => Pst c.base env oc K ρ s st' (fun _ _ => b' = b)) (fun _ _ => False) s
noncomputable def tTrue : TM := fun st => some (true, st)
section
variable {c : Cx} {f : Fx}
theorem Ts.nil : Ts c f [] tTrue := by
  intro A env oc hA hE ho st v st' hF K ρ s R
  cases hF
  exact wpAny_tests_nil (Pst.now R rfl)
theorem Ts.one {a : Expr} {F : TM} (h : Tt c f a F) : Ts c f [a] F := by
  intro A env oc hA hE ho st v st' hF K ρ s R
  exact wpAny_tests_one (h A env oc hA hE ho _ _ _ hF K ρ s R)
theorem it_self {A : Around} {K : KM} {ρ : List Addr} {s : Shared} {it : IT} {I : Addr} {D : List Addr} (T : ItRep K ρ s.heap it I D) {Q : Value → Shared → Prop} {E : Value → Shared → Prop} (h : Q (.ref I) s) : wpAny (model c.prog c.w) A (pyIter (.ref I)) Q E s := by
  cases it with
  | lst l i => obtain ⟨_, a, _, hI⟩ := T; exact wpAny_pyIter_listiter hI h
  | rng cur left => exact wpAny_pyIter_rangeiter T.2 h
  | tup xs i => obtain ⟨_, a, _, hI⟩ := T; exact wpAny_pyIter_tupleiter hI h
  | en l i => obtain ⟨J, a, old, _, _, _, hE, _⟩ := T; exact wpAny_pyIter_enum hE h
  | ent xs i => obtain ⟨J, a, old, _, _, _, hE, _⟩ := T; exact wpAny_pyIter_enum hE h
theorem GRep.addL {base : Heap} {K : KM} {ρ : List Addr} {H : List (List AV)} {h : Heap} (R : GRep base K ρ H h) {a : Addr} {us : List Value} {n : Nat} {xs : List AV} (h1 : a ∉ ρ) (h2 : K a = none)
    (ha : h.get? a = some (listOf us.toArray n)) (hx : VRs K ρ us xs) : GRep base K (ρ ++ [a]) (H ++ [xs]) h := by
  refine ⟨R.base, R.keep, by simp [R.len], fun i b ys e e' => ?_, ?_, fun b hb => ?_⟩
  · by_cases q : i < ρ.length
    · rw [List.getElem?_append_left q] at e
      rw [List.getElem?_append_left (R.len ▸ q)] at e'
      obtain ⟨us, n, h1, h2⟩ := R.lists i b ys e e'
      exact ⟨us, n, h1, h2.mono (KLe.refl K) (PLe.snoc ρ a)⟩
    · have hi : i = ρ.length := by
        have := (List.getElem?_eq_some_iff.mp e).1
        simp at this; (first | lia | omega)
      subst hi
      rw [List.getElem?_append_right (Nat.le_refl _)] at e
      rw [R.len, List.getElem?_append_right (Nat.le_refl _)] at e'
      simp at e e'
      subst e e'
      exact ⟨us, n, ha, hx.mono (KLe.refl K) (PLe.snoc ρ a)⟩
  · rw [List.nodup_append]
    exact ⟨R.nodup, by simp, fun x hm y hy e => by simp at hy; subst hy; subst e; exact h1 hm⟩
  · rcases List.mem_append.mp hb with hb | hb
    · exact R.fresh b hb
    · simp at hb; subst hb; exact h2
theorem Rep.addL {base : Heap} {env : Env} {oc : List (Str × Addr)} {K : KM} {ρ : List Addr} {st : AS} {h : Heap} (R : Rep base env oc K ρ st h) {a : Addr} {us : List Value} {n : Nat} {xs : List AV} (h0 : a ∉ frm env oc) (h1 : a ∉ ρ) (h2 : K a = none)
    (ha : h.get? a = some (listOf us.toArray n)) (hx : VRs K ρ us xs) : Rep base env oc K (ρ ++ [a]) { st with H := st.H ++ [xs] } h :=
  R.move (KLe.refl K) (PLe.snoc ρ a) (R.g.addL h1 h2 ha hx) (fun _ _ => rfl) fun b hb => ⟨fun hm => (by
    rcases List.mem_append.mp hm with hm | hm
    · exact (R.off b hb).1 hm
    · simp at hm; subst hm; exact h0 hb), (R.off b hb).2⟩
structure CompOk (f : Fx) (scope : Scope) (own fv : List Str) : Prop where
  kind : scope.kind = .function
  names : ∀ x ∈ scope.names, x.2 = .local → scope.names.lookup x.1 = some .local
  free : ∀ p ∈ scope.names, p.2 = .free → p.1 ∈ fv
  cfv : ∀ x ∈ fv, (x, NameKind.free) ∈ scope.names ∧ scope.names.lookup x = some .free ∧ f.sc.names.lookup x ≠ some .local
  cown : (cellsFrom 0 scope.names []).map (·.1) = own
  nodup : own.Nodup
  cell : ∀ x ∈ own, scope.names.lookup x = some .cell
inductive CInv (c : Cx) (Ft : AV → AS → Option AS) (Fts : TM) (Fe : EM) (target : Expr) (cenv : Env) (oc' : List (Str × Addr)) (K0 : KM) (ρ : List Addr) (s : Shared) (I D : Addr) (DI : List Addr) (out : List AV × List (List AV)) (m : Nat) : Shared → Prop
  | mk {it : IT} {sa : AS} {acc : List AV} {us : List Value} {K' : KM} {ρ' : List Addr} {h' : Heap} {tk' : Nat} : KLe K0 K' → PLe ρ ρ' → Rep c.base cenv oc' K' ρ' sa h' → ItRep K' ρ' h' it I DI → okT target it → (∀ b ∈ D :: DI, b ∉ ρ' ∧ K' b = none ∧ b ∉ frm cenv oc') →
      h'.get? D = some (listOf us.toArray us.length) → VRs K' ρ' us acc → acc.length + m ≤ 100000 → compGo Ft Fts Fe m it sa acc = some out → CInv c Ft Fts Fe target cenv oc' K0 ρ s I D DI out m { s with heap := h', toks := tk' }
noncomputable def CompQ (Inv : Nat → Shared → Prop) (m : Nat) (s : Shared) : Prop := ∃ j, j < m ∧ Inv j s
theorem comp_loop {A : Around} {elt target iter : Expr} {ifs : List Expr} {scope : Scope} {pos : Pos} {Ft : AV → AS → Option AS} {Fts : TM} {Fe : EM} {g : Fx} (htg : Tg c g target Ft) (hts : Ts c g ifs Fts) (hel : Ev c g elt Fe)
    (hA : AOk g.k A) {cenv : Env} (hE' : EnvIs A g.t g.sc cenv) {oc' : List (Str × Addr)} (hoc' : oc'.map (·.1) = g.own) {K0 : KM} {ρ : List Addr} {s : Shared} {I D : Addr} {DI : List Addr} {out : List AV × List (List AV)} (hDDI : D ∉ DI) {RR : Result → Shared → Prop}
    (fin : ∀ {us : List Value} {sa : AS} {K' : KM} {ρ' : List Addr} {h' : Heap} {tk' : Nat}, KLe K0 K' → PLe ρ ρ' → Rep c.base cenv oc' K' ρ' sa h' → D ∉ ρ' ∧ K' D = none ∧ D ∉ frm cenv oc' → h'.get? D = some (listOf us.toArray us.length) → VRs K' ρ' us out.1 → sa.H = out.2 → RR (.ok .next) { s with heap := h', toks := tk' })
    (n : Nat) {s' : Shared} (h : CInv c Ft Fts Fe target cenv oc' K0 ρ s I D DI out n s') : codeAny (model c.prog c.w) A (.compLoop (.ListComp elt [⟨target, iter, ifs, 0⟩] scope pos) 0 (.ref I) (.ref D) cenv) RR s' := by
  refine compLoop_any (I := CInv c Ft Fts Fe target cenv oc' K0 ρ s I D DI out) ?_ n h
  rintro m s' ⟨k2, p2, R2, T2, ok2, off2, hD2', va, hlen, hg⟩
  rename_i it sa acc us K₂ ρ₂ h₂ t₂
  cases m with
  | zero => cases hg
  | succ m =>
    unfold compGo at hg
    have offI : ∀ b ∈ DI, b ∉ ρ₂ ∧ K₂ b = none ∧ b ∉ frm cenv oc' := fun b hb => off2 b (List.mem_cons_of_mem _ hb)
    cases hnx : nextI it sa.H with
    | none => rw [hnx] at hg; cases hg
    | some r =>
      rw [hnx] at hg
      cases r with
      | none =>
        cases hg
        refine it_end (s := { s with heap := h₂, toks := t₂ }) hA hnx R2.g T2 fun h' tk' kk => ?_
        exact fin k2 p2 (R2.but (D := DI) kk fun b hb => ⟨(offI b hb).2.2, (offI b hb).1, (offI b hb).2.1⟩) (off2 D List.mem_cons_self) (kk _ _ hDDI hD2') va rfl
      | some r =>
        obtain ⟨w, it'⟩ := r
        dsimp only at hg
        cases hw : Ft w sa with
        | none => rw [hw] at hg; cases hg
        | some sb =>
          rw [hw] at hg
          dsimp only at hg
          refine it_some (it_next (s := { s with heap := h₂, toks := t₂ }) hA hnx ok2 R2.g T2 (fun b hb => ⟨(offI b hb).1, (offI b hb).2.1⟩) fun u K₃ h₃ t₃ k3 G3 v3 T3 ok3 kk fr3 => ?_)
          have R3 := rep_item R2 (fun b hb => (offI b hb).2.2) k3 G3 kk fr3
          have hD3 : h₃.get? D = some (listOf us.toArray us.length) := kk _ _ hDDI hD2'
          have off3 : ∀ b ∈ D :: DI, b ∉ ρ₂ ∧ K₃ b = none ∧ b ∉ frm cenv oc' := fun b hb => by
            have ho : ∃ o, h₂.get? b = some o := by
              rcases List.mem_cons.mp hb with e | hb
              · exact ⟨_, by rw [e]; exact hD2'⟩
              · obtain ⟨o, ho, _⟩ := T2.notval b hb
                exact ⟨o, ho⟩
            obtain ⟨o, ho⟩ := ho
            exact ⟨(off2 b hb).1, fr3 b o ho (off2 b hb).2.1, (off2 b hb).2.2⟩
          have nv3 : ∀ b ∈ D :: DI, ∃ o, h₃.get? b = some o ∧ NotVal o ∧ ∀ v, o.data ≠ .cell v := fun b hb => by
            rcases List.mem_cons.mp hb with e | hb
            · exact ⟨_, by rw [e]; exact hD3, ⟨fun us n _ => (by show Value.type "list" ≠ _; decide), fun fs e => (by cases e)⟩, fun v e => (by cases e)⟩
            · exact T3.notval b hb
          have RL : Rep c.base cenv oc' (K₃.lock h₃ (D :: DI)) ρ₂ sa h₃ := R3.lock fun b hb => ⟨(off3 b hb).1, (off3 b hb).2.2⟩
          refine step (s := { s with heap := h₃, toks := t₃ }) (htg.go A cenv oc' hA hE' hoc' _ _ _ hw _ ρ₂ _ RL u (v3.mono (KLe.lock R3.g.keep) (PLe.refl _))) fun _ K₄ ρ₄ h₄ t₄ k4 p4 R4 _ => ?_
          cases htt : Fts sb with
          | none => rw [htt] at hg; cases hg
          | some q =>
            obtain ⟨bb, sc⟩ := q
            rw [htt] at hg
            refine step (s := { s with heap := h₄, toks := t₄ }) (hts A cenv oc' hA hE' hoc' _ _ _ htt K₄ ρ₄ _ R4) fun b' K₅ ρ₅ h₅ t₅ k5 p5 R5 r5 => ?_
            subst r5
            cases b' with
            | false =>
              have U := unlock R3.g.base R3.g.keep (fun b hb => (off3 b hb).2.1) nv3 (k4.trans k5) R5
              rw [if_neg Bool.false_ne_true]
              exact ⟨m, Nat.lt_succ_self m, .mk (k2.trans (k3.trans U.le)) (p2.trans (p4.trans p5)) U.rep (T3.move U.le (p4.trans p5) fun b hb => U.same b (List.mem_cons_of_mem _ hb)) ok3 U.off
                ((U.same D List.mem_cons_self).trans hD3) (va.mono (k3.trans U.le) (p4.trans p5)) (by (first | lia | omega)) hg⟩
            | true =>
              rw [if_pos rfl]
              dsimp only at hg
              cases hel' : Fe sc with
              | none => rw [hel'] at hg; cases hg
              | some q =>
                obtain ⟨y, sd⟩ := q
                rw [hel'] at hg
                dsimp only at hg
                refine step (s := { s with heap := h₅, toks := t₅ }) (hel A cenv oc' hA hE' hoc' _ _ _ hel' K₅ ρ₅ _ R5) fun uy K₆ ρ₆ h₆ t₆ k6 p6 R6 r6 => ?_
                have U := unlock R3.g.base R3.g.keep (fun b hb => (off3 b hb).2.1) nv3 (k4.trans (k5.trans k6)) R6
                have hul : us.length = acc.length := va.length
                refine append_at (its := us.toArray) (n := us.length) ((U.same D List.mem_cons_self).trans hD3) (fun h₇ hs₇ hD₇ => ?_) (by rw [List.size_toArray, hul]; have : sizeLine = 16777216 := by decide
                                                                                                                                           (first | lia | omega))
                have oD := U.off D List.mem_cons_self
                have R7 : Rep c.base cenv oc' (K₆.free (D :: DI)) ρ₆ sd h₇ := U.rep.but (D := [D]) (fun b o hb e => (hs₇.2 b (by simpa using hb)).trans e) fun b hb => by
                  have hb := List.mem_singleton.mp hb
                  subst hb; exact ⟨oD.2.2, oD.1, oD.2.1⟩
                refine ⟨m, Nat.lt_succ_self m, .mk (us := us ++ [uy]) (k2.trans (k3.trans U.le)) (p2.trans (p4.trans (p5.trans p6))) R7 (T3.move U.le (p4.trans (p5.trans p6)) fun b hb => ?_) ok3 U.off ?_ ((va.mono (k3.trans U.le) (p4.trans (p5.trans p6))).append (.cons (U.vr _ _ r6) .nil))
                  (by rw [List.length_append, List.length_singleton]; (first | lia | omega)) hg⟩
                · have hbD : b ≠ D := by rintro rfl; exact hDDI hb
                  rw [hs₇.2 b hbD]; exact U.same b (List.mem_cons_of_mem _ hb)
                · rw [hD₇, List.length_append, List.length_singleton, List.push_toArray]
/-- the block's own frame -/
theorem comp_rep {A : Around} {env cenv : Env} {oc oc' : List (Str × Addr)} {scope : Scope} {own fv : List Str} {cl : List (Str × Addr)} (O : CompOk f scope own fv) (hE : EnvIs A f.t f.sc env) (hE' : EnvIs A false (relabelS scope f.sc) cenv) {st : AS} {K : KM} {ρ : List Addr} {h₁ : Heap} {D C : Addr}
    (R1 : Rep c.base env oc K ρ st h₁) (offB : ∀ b, D ≤ b → b ∉ frm env oc ∧ b ∉ ρ ∧ K b = none) (hDC : D < C) (hcl' : cenv.locals = C) (hcc : cenv.cells = oc' ++ cl) (hoc' : oc'.map (·.1) = own)
    (hns₁ : h₁.Ns C (fun _ => none)) (hcs₁ : ∀ x a, (x, a) ∈ oc' → h₁.IsCell a none ∧ C < a) (hap₁ : oc'.Pairwise fun p q => p.2 ≠ q.2) (hcl : ∀ x, (x, NameKind.free) ∈ scope.names → cl.lookup x = env.cells.lookup x) :
    Rep c.base cenv oc' (K.lock h₁ (frm env oc)) ρ (compLoc fv st) h₁ ∧ ∀ b ∈ frm cenv oc', D ≤ b ∧ b ≠ D := by
  have hl0 : KLe K (K.lock h₁ (frm env oc)) := KLe.lock R1.g.keep
  have hkd : ∀ x, cenv.kindOf x = (relabelS scope f.sc).names.lookup x := fun x => by unfold Env.kindOf; rw [hE'.scope]
  have lookOwn : ∀ x a, (x, a) ∈ oc' → cenv.cells.lookup x = some a := fun x a hm => by
    have := lookup_of_mem_nodup (cs := oc') (by rw [hoc']; exact O.nodup) hm
    rw [hcc, List.lookup_append, this]; rfl
  have lookFree : ∀ x ∈ fv, cenv.cells.lookup x = env.cells.lookup x := fun x hx => by
    have h1 := O.cfv x hx
    have : oc'.lookup x = none := by
      cases e : oc'.lookup x with
      | none => rfl
      | some a =>
        have hm : x ∈ own := by rw [← hoc']; exact List.mem_map.mpr ⟨(x, a), mem_of_lookup e, rfl⟩
        have := O.cell x hm
        rw [h1.2.1] at this; cases this
    rw [hcc, List.lookup_append, this, Option.none_or, hcl x h1.1]
  have hab : ∀ p ∈ oc', C < p.2 := fun p hp => (hcs₁ p.1 p.2 hp).2
  have hfrmC : ∀ b ∈ frm cenv oc', D ≤ b ∧ b ≠ D := fun b hb => by
    rcases List.mem_cons.mp hb with e | hm
    · rw [e, hcl']; exact ⟨Nat.le_of_lt hDC, Nat.ne_of_gt hDC⟩
    · obtain ⟨p, hp, rfl⟩ := List.mem_map.mp hm
      have := hab p hp
      exact ⟨Nat.le_of_lt (Nat.lt_trans hDC this), Nat.ne_of_gt (Nat.lt_trans hDC this)⟩
  refine ⟨⟨R1.g.lock fun b hb => (R1.off b hb).1, ⟨fun _ => none, by rw [hcl']; exact hns₁, fun x v hx hv => ?_⟩, fun x v hx hv => ?_, fun p hp => ?_, ?_, fun b hb => ?_⟩, hfrmC⟩
  · unfold compLoc at hv
    dsimp only at hv
    split at hv
    · rename_i hm
      rw [hkd, lookup_relabelS, (O.cfv x hm).2.1] at hx
      simp only [Option.map_some, Option.some.injEq] at hx
      split at hx <;> cases hx
    · cases hv
  · unfold compLoc at hv
    dsimp only at hv
    split at hv
    · rename_i hm
      have h1 := O.cfv x hm
      have hkl : env.kindOf x ≠ some .local := by unfold Env.kindOf; rw [hE.scope]; exact h1.2.2
      obtain ⟨g1, a, u, g2, g3, g4, g5⟩ := R1.cells x v hkl hv
      refine ⟨?_, a, u, by rw [lookFree x hm]; exact g2, .inr ?_, g4, g5.mono hl0 (PLe.refl ρ)⟩
      · rw [hkd, lookup_relabelS, h1.2.1]
        simp only [Option.map_some, Option.some.injEq]
        split
        · exact .inl rfl
        · exact .inr rfl
      · rcases g3 with g3 | ⟨o, g3⟩
        · obtain ⟨o, ho, _⟩ := g4
          refine ⟨o, ?_⟩
          unfold KM.lock
          exact (if_pos (List.mem_cons_of_mem _ (List.mem_map.mpr ⟨(x, a), g3, rfl⟩))).trans ho
        · exact ⟨o, hl0 _ _ g3⟩
    · cases hv
  · have hx : p.1 ∈ own := by rw [← hoc']; exact List.mem_map.mpr ⟨p, hp, rfl⟩
    refine ⟨?_, lookOwn p.1 p.2 hp, _, (hcs₁ p.1 p.2 hp).1⟩
    rw [hkd, lookup_relabelS, O.cell p.1 hx]
    rfl
  · refine List.pairwise_cons.mpr ⟨fun b hb => ?_, List.pairwise_map.mpr hap₁⟩
    obtain ⟨p, hp, rfl⟩ := List.mem_map.mp hb
    rw [hcl']; exact Nat.ne_of_lt (hab p hp)
  · have := offB b (hfrmC b hb).1
    refine ⟨this.2.1, ?_⟩
    unfold KM.lock
    rw [if_neg this.1]
    exact this.2.2
theorem comp_core {A : Around} {env cenv : Env} {oc oc' : List (Str × Addr)} {elt target iter : Expr} {ifs : List Expr} {scope : Scope} {own fv : List Str} {pos : Pos} {Ft : AV → AS → Option AS} {Fts : TM} {Fe : EM} {cl : List (Str × Addr)} {n : Nat}
    (O : CompOk f scope own fv) (htg : Tg c ⟨relabelS scope f.sc, own, f.k, false⟩ target Ft) (hts : Ts c ⟨relabelS scope f.sc, own, f.k, false⟩ ifs Fts) (hel : Ev c ⟨relabelS scope f.sc, own, f.k, false⟩ elt Fe) (hn : n ≤ 100000)
    (hA : AOk f.k A) (hE : EnvIs A f.t f.sc env) (hE' : EnvIs A false (relabelS scope f.sc) cenv) {st : AS} {K : KM} {ρ : List Addr} {s : Shared} (R : Rep c.base env oc K ρ st s.heap) {it : IT} {I : Addr} {DI : List Addr}
    (T : ItRep K ρ s.heap it I DI) (ok : okT target it) (off : ∀ b ∈ DI, b ∉ ρ ∧ K b = none ∧ b ∉ frm env oc) {ys : List AV} {H' : List (List AV)} (hgo : compGo Ft Fts Fe n it (compLoc fv st) [] = some (ys, H'))
    (hcl : ∀ x, (x, NameKind.free) ∈ scope.names → cl.lookup x = env.cells.lookup x) {h₁ : Heap} {D C : Addr} (hDd : s.heap.objs.size = D) (hDC : D < C) (hup : ∀ b o, s.heap.get? b = some o → h₁.get? b = some o) (hD1 : h₁.get? D = some (listOf ([] : List Value).toArray 0))
    (hcl' : cenv.locals = C) (hcc : cenv.cells = oc' ++ cl) (hoc' : oc'.map (·.1) = own) (hns₁ : h₁.Ns C (fun _ => none)) (hcs₁ : ∀ x a, (x, a) ∈ oc' → h₁.IsCell a none ∧ C < a) (hap₁ : oc'.Pairwise fun p q => p.2 ≠ q.2) {RR : Result → Shared → Prop}
    (hRR : ∀ K' ρ' h' tk' m', KLe K K' → PLe ρ ρ' → Rep c.base env oc K' ρ' { st with H := H' ++ [ys] } h' → ρ'[H'.length]? = some D → h'.Ns C m' → C ∉ frm env oc → C ∉ ρ' → K' C = none → RR (.ok .next) { s with heap := h', toks := tk' }) :
    codeAny (model c.prog c.w) A (.compStart (.ListComp elt [⟨target, iter, ifs, 0⟩] scope pos) 0 (.ref I) (.ref D) cenv) RR { s with heap := h₁ } := by
  have offB : ∀ b, D ≤ b → b ∉ frm env oc ∧ b ∉ ρ ∧ K b = none := fun b hb => R.off_of (get_none_of (by rw [hDd]; exact hb))
  have R1 := R.grow hup
  obtain ⟨RC, hfrmC⟩ := comp_rep O hE hE' R1 offB hDC hcl' hcc hoc' hns₁ hcs₁ hap₁ hcl
  have hl0 : KLe K (K.lock h₁ (frm env oc)) := KLe.lock R1.g.keep
  have hDlt : ∀ b ∈ DI, b < D := fun b hb => by
    obtain ⟨o, ho, _⟩ := T.notval b hb
    have := Heap.lt_size ho
    rw [hDd] at this; exact this
  have T0 : ItRep (K.lock h₁ (frm env oc)) ρ h₁ it I DI := T.move hl0 (PLe.refl ρ) fun b hb => by
    obtain ⟨o, ho, _⟩ := T.notval b hb
    rw [ho]; exact hup b o ho
  have loop : codeAny (model c.prog c.w) A (.compLoop (.ListComp elt [⟨target, iter, ifs, 0⟩] scope pos) 0 (.ref I) (.ref D) cenv) RR { s with heap := h₁ } := by
    refine comp_loop (g := ⟨relabelS scope f.sc, own, f.k, false⟩) (K0 := K.lock h₁ (frm env oc)) (ρ := ρ) (s := s) (DI := DI) (out := (ys, H')) htg hts hel hA hE' hoc' (fun q => Nat.lt_irrefl _ (hDlt D q)) (fun {us sa K₂ ρ₂ h' tk'} k2 p2 R3 offD hD3 va hH => ?_) n
      (.mk (us := []) (KLe.refl _) (PLe.refl ρ) RC T0 ok (fun b hb => ?_) hD1 .nil (by simpa using hn) hgo)
    · have B := back R1 k2 p2 R3.g
      have freeNone : ∀ b, K₂ b = none → (K₂.free (frm env oc)) b = none := fun b hb => by
        unfold KM.free
        split
        · rfl
        · exact hb
      have va' : VRs (K₂.free (frm env oc)) ρ₂ us ys := by
        refine va.free fun b hb o e => ?_
        obtain ⟨o', ho⟩ := R1.frm_there b hb
        have e2 := k2 b o' (by unfold KM.lock; rw [if_pos hb]; exact ho)
        rw [e] at e2; cases e2
        exact R1.frm_notval b hb o ho
      have RF := B.rep.addL (offB D (Nat.le_refl _)).1 offD.1 (freeNone D offD.2.1) hD3 va'
      obtain ⟨mm, hmm, _⟩ := R3.ns
      rw [hcl'] at hmm
      have oC := R3.off C (by rw [← hcl']; exact List.mem_cons_self)
      have hH : sa.H = H' := hH
      rw [hH] at RF
      refine hRR _ _ h' tk' mm B.le (p2.trans (PLe.snoc _ _)) RF (hH ▸ newL_len R3.g D) hmm (offB C (Nat.le_of_lt hDC)).1 (fun hm => ?_) (freeNone C oC.2)
      rcases List.mem_append.mp hm with hm | hm
      · exact oC.1 hm
      · exact absurd (List.mem_singleton.mp hm) (Nat.ne_of_gt hDC)
    · rcases List.mem_cons.mp hb with e | hb
      · rw [e]
        exact ⟨(offB D (Nat.le_refl _)).2.1, by unfold KM.lock; rw [if_neg (offB D (Nat.le_refl _)).1]; exact (offB D (Nat.le_refl _)).2.2, fun hm => (hfrmC D hm).2 rfl⟩
      · have o1 := off b hb
        refine ⟨o1.1, ?_, fun hm => absurd (hfrmC b hm).1 (Nat.not_le.mpr (hDlt b hb))⟩
        unfold KM.lock
        rw [if_neg o1.2.2]; exact o1.2.1
  exact codeAny_compStart_list loop (it_self (s := { s with heap := h₁ }) T0 loop)
theorem comp_block {A : Around} {env : Env} {oc : List (Str × Addr)} {elt target iter : Expr} {ifs : List Expr} {scope : Scope} {own fv : List Str} {pos : Pos} {Ft : AV → AS → Option AS} {Fts : TM} {Fe : EM} {cl : List (Str × Addr)} {n : Nat}
    (O : CompOk f scope own fv) (htg : Tg c ⟨relabelS scope f.sc, own, f.k, false⟩ target Ft) (hts : Ts c ⟨relabelS scope f.sc, own, f.k, false⟩ ifs Fts) (hel : Ev c ⟨relabelS scope f.sc, own, f.k, false⟩ elt Fe) (hn : n ≤ 100000)
    (hA : AOk f.k A) (hE : EnvIs A f.t f.sc env) {st : AS} {K : KM} {ρ : List Addr} {s : Shared} (R : Rep c.base env oc K ρ st s.heap) {it : IT} {I : Addr} {DI : List Addr}
    (T : ItRep K ρ s.heap it I DI) (ok : okT target it) (off : ∀ b ∈ DI, b ∉ ρ ∧ K b = none ∧ b ∉ frm env oc) {ys : List AV} {H' : List (List AV)} (hgo : compGo Ft Fts Fe n it (compLoc fv st) [] = some (ys, H'))
    (hcl : ∀ x, (x, NameKind.free) ∈ scope.names → cl.lookup x = env.cells.lookup x) {RR : Value → Addr → Result → Shared → Prop}
    (hRR : ∀ D C K' ρ' h' tk' m', KLe K K' → PLe ρ ρ' → Rep c.base env oc K' ρ' { st with H := H' ++ [ys] } h' → ρ'[H'.length]? = some D → h'.Ns C m' → C ∉ frm env oc → C ∉ ρ' → K' C = none → RR (.ref D) C (.ok .next) { s with heap := h', toks := tk' }) :
    wpAny (model c.prog c.w) A (newList []) (fun acc s₃ => wpAny (model c.prog c.w) A (newFunctionEnv scope env.globals cl [] env.qual none .none (some env)) (fun cenv s₄ =>
      codeAny (model c.prog c.w) A (.compStart (.ListComp elt [⟨target, iter, ifs, 0⟩] scope pos) 0 (.ref I) acc { cenv with scope := relabel scope env }) (RR acc cenv.locals) s₄) (fun _ _ => False) s₃) (fun _ _ => False) s := by
  refine wpAny_newObj_type (newEnv_comp fun h₁ hk₁ hns₁ hcs₁ hap₁ => ?_)
  have hsz : (s.heap.push { cls := .type "list", dict := none, data := .seq ([] : List Value).toArray }).objs.size = s.heap.objs.size + 1 := Heap.size_push ..
  refine comp_core (C := (s.heap.push { cls := .type "list", dict := none, data := .seq ([] : List Value).toArray }).objs.size) (oc' := cellsFrom ((s.heap.push { cls := .type "list", dict := none, data := .seq ([] : List Value).toArray }).objs.size + 1) scope.names [])
    (cenv := { newEnv scope (s.heap.push { cls := .type "list", dict := none, data := .seq ([] : List Value).toArray }).objs.size env.globals (cellsFrom ((s.heap.push { cls := .type "list", dict := none, data := .seq ([] : List Value).toArray }).objs.size + 1) scope.names [] ++ cl) env.qual none .none (some env) builtinsNs with scope := relabel scope env }) O htg hts hel hn hA hE ⟨relabel_eq hE.scope, O.kind, hE.globals, hE.builtins, fun e => by cases e⟩ R T ok off hgo hcl rfl (by rw [hsz]; exact Nat.lt_succ_self _)
    (fun b o e => hk₁ b o (Heap.get?_push_of_some _ e)) (hk₁ _ _ (Heap.get?_push_size _ rfl)) rfl rfl ((cellsFrom_names scope.names _ 0 [] [] rfl).trans O.cown) hns₁ hcs₁ hap₁ fun K' ρ' h' tk' m' => hRR _ _ K' ρ' h' tk' m'
end
end Mine
end
/-! ## part FW10 -/
section
open PySem PySem.W PyProof.Rows PySem.Calls
set_option bootstrap.genMatcherCode false
namespace Mine
section
variable {c : Cx} {f : Fx}
theorem closure_of {scope : Scope} {own fv : List Str} (O : CompOk f scope own fv) {A : Around} {env : Env} {oc : List (Str × Addr)} (hE : EnvIs A f.t f.sc env) {K : KM} {ρ : List Addr} {st : AS} {h : Heap} (R : Rep c.base env oc K ρ st h)
    (hfv : fv.all (fun x => (st.loc x).isSome) = true) : ∃ cl, closureFor scope env = pure cl ∧ ∀ x, (x, NameKind.free) ∈ scope.names → cl.lookup x = env.cells.lookup x := by
  refine closureFor_is fun p hp hk => ?_
  have hm := O.free p hp hk
  have h1 := O.cfv p.1 hm
  have hs := List.all_eq_true.mp hfv p.1 hm
  obtain ⟨v, hv⟩ := Option.isSome_iff_exists.mp hs
  obtain ⟨_, a, u, e, _⟩ := R.cells p.1 v (by unfold Env.kindOf; rw [hE.scope]; exact h1.2.2) hv
  exact ⟨a, e⟩
theorem eComp_some {n : Nat} {i : AS → Option (IT × AS)} {fv : List Str} {tg : AV → AS → Option AS} {tst : TM} {elt : EM} {st st' : AS} {v : AV} (h : eComp n i fv tg tst elt st = some (v, st')) :
    ∃ it s1 ys H', i st = some (it, s1) ∧ fv.all (fun x => (st.loc x).isSome) = true ∧ compGo tg tst elt n it (compLoc fv s1) [] = some (ys, H') ∧ v = .lst H'.length ∧ st' = { s1 with H := H' ++ [ys] } := by
  unfold eComp at h
  split at h
  · rename_i h2
    split at h
    · rename_i it s1 h1
      split at h
      · rename_i ys H' h3
        cases h
        exact ⟨it, s1, ys, H', h1, h2, h3, rfl, rfl⟩
      · cases h
    · cases h
  · cases h
theorem Ev.comp {elt target iter : Expr} {ifs : List Expr} {scope : Scope} {own fv : List Str} {pos : Pos} {Fi : AS → Option (IT × AS)} {Ft : AV → AS → Option AS} {Fts : TM} {Fe : EM} (n : Nat) (hn : n ≤ 100000)
    (O : CompOk f scope own fv) (hi : It c f iter Fi) (htg : Tg c ⟨relabelS scope f.sc, own, f.k, false⟩ target Ft) (hts : Ts c ⟨relabelS scope f.sc, own, f.k, false⟩ ifs Fts) (hel : Ev c ⟨relabelS scope f.sc, own, f.k, false⟩ elt Fe)
    (hok : ∀ st it st', Fi st = some (it, st') → okT target it) (hs : ∀ env x, foldedSetIterable iter env x = pure x := by intro _ _; rfl) :
    Ev c f (.ListComp elt [⟨target, iter, ifs, 0⟩] scope pos) (eComp n Fi fv Ft Fts Fe) := by
  intro A env oc hA hE hoc st v st' hF K ρ s R
  obtain ⟨it, s1, ys, H', h1, h2, h3, rfl, rfl⟩ := eComp_some hF
  obtain ⟨cl, hcl, hll⟩ := closure_of O hE R h2
  rw [eval_ListComp]
  refine wpAny_comprehension_free (use := none) rfl (hs env) hcl O.kind O.names ?_
  refine hi A env oc hA hE hoc _ _ _ h1 K ρ s R _ fun I D K₁ ρ₁ h₁ t₁ k1 p1 R1 T1 off1 => ?_
  refine comp_block (s := { s with heap := h₁, toks := t₁ }) (fv := fv) O htg hts hel hn hA hE R1 T1 (hok _ _ _ h1) off1 h3 hll fun D' C K₂ ρ₂ h₂ t₂ m₂ k2 p2 R2 hD hns c1 c2 c3 => ?_
  refine ⟨m₂, hns, fun h' hs' => ?_⟩
  refine Pst.mk (K' := K₂) (ρ' := ρ₂) (k1.trans k2) (p1.trans p2) (R2.but (D := [C]) (fun b o hb e => (hs'.2 b (by simpa using hb)).trans e) (fun b hb => ?_)) (.lst hD)
  simp at hb; subst hb
  exact ⟨c1, c2, c3⟩
theorem St.assignComp {x : Str} {elt target iter : Expr} {ifs : List Expr} {scope : Scope} {own fv : List Str} {p' pos spos : Pos} {Fi : AS → Option (IT × AS)} {Ft : AV → AS → Option AS} {Fts : TM} {Fe : EM} (n : Nat) (hn : n ≤ 100000)
    (O : CompOk f scope own fv) (hi : It c f iter Fi) (htg : Tg c ⟨relabelS scope f.sc, own, f.k, false⟩ target Ft) (hts : Ts c ⟨relabelS scope f.sc, own, f.k, false⟩ ifs Fts) (hel : Ev c ⟨relabelS scope f.sc, own, f.k, false⟩ elt Fe)
    (hok : ∀ st it st', Fi st = some (it, st') → okT target it) (hx : f.sc.names.lookup x = some .local ∨ (f.sc.names.lookup x = some .cell ∧ x ∈ f.own))
    (hsw : ∀ {A : Around} env, EnvIs A f.t f.sc env → swapsWith (.ListComp elt [⟨target, iter, ifs, 0⟩] scope pos) (some (.Name x p')) spos.line env = pure true) (hs : ∀ env x, foldedSetIterable iter env x = pure x := by intro _ _; rfl) :
    St c f (.Assign [.Name x p'] (.ListComp elt [⟨target, iter, ifs, 0⟩] scope pos) spos) (sAssign x (eComp n Fi fv Ft Fts Fe)) := by
  intro A env oc hA hE hoc st v st' hF K ρ s R
  unfold sAssign at hF
  split at hF
  · rename_i v' s1' h0
    cases hF
    obtain ⟨it, s1, ys, H', h1, h2, h3, rfl, rfl⟩ := eComp_some h0
    obtain ⟨cl, hcl, hll⟩ := closure_of O hE R h2
    rw [exec_Assign_Name_used _ _ _ _ (hsw env hE)]
    refine wpAny_bind (wpAny_standAt (wpAny_bind ?_))
    show wpAny _ A (do let _ ← comprehension (.ListComp elt [⟨target, iter, ifs, 0⟩] scope pos) scope env _ (newList []) false (eval iter env) (some (PySem.assign (.Name x p') env))) _ _ s
    refine wpAny_bind (wpAny_mono (wpAny_comprehension_free (use := some (PySem.assign (.Name x p') env)) (Q := fun _ s' => Pst c.base env oc K ρ s (AS.put { s1 with H := H' ++ [ys] } x (.lst H'.length)) (fun K' ρ' => FR K' ρ' .next .next) s') rfl (hs env) hcl O.kind O.names ?_) (fun _ s' hq => wpAny_pure (wpAny_pure hq)) fun _ _ e => e)
    refine hi A env oc hA hE hoc _ _ _ h1 K ρ s R _ fun I D K₁ ρ₁ h₁ t₁ k1 p1 R1 T1 off1 => ?_
    refine comp_block (s := { s with heap := h₁, toks := t₁ }) (fv := fv) O htg hts hel hn hA hE R1 T1 (hok _ _ _ h1) off1 h3 hll fun D' C K₂ ρ₂ h₂ t₂ m₂ k2 p2 R2 hD hns c1 c2 c3 => ?_
    show wpAny _ A (PySem.assign (.Name x p') env (.ref D')) _ _ _
    refine wpAny_assign_Name (store_rep (s := { s with heap := h₂, toks := t₂ }) hE hoc hx R2 (.lst hD) fun h₃ t₃ R3 hsame => ?_)
    have hns3 : h₃.Ns C m₂ := hns.at' fun o e => (hsame C c1).trans e
    refine ⟨m₂, hns3, fun h' hs' => ?_⟩
    refine Pst.mk (K' := K₂) (ρ' := ρ₂) (k1.trans k2) (p1.trans p2) (R3.but (D := [C]) (fun b o hb e => (hs'.2 b (by simpa using hb)).trans e) (fun b hb => ?_)) .next
    simp at hb; subst hb
    exact ⟨c1, c2, c3⟩
  · cases hF
end
end Mine
end
/-! ## part FW11 -/
section
open PySem PySem.W PyProof.Rows PySem.Calls
set_option bootstrap.genMatcherCode false
namespace Mine
/-! ### ints and strings -/
theorem sizeLine_eq : sizeLine = 16777216 := by decide
noncomputable def oInt (f : Int → Int → Option Int) : List (List AV) → AV → AV → Option AV
  | _, .int a, .int b => match f a b with
    | some r => some (.int r)
    | none => none
  | _, _, _ => none
noncomputable def cInt (f : Int → Int → Bool) : List (List AV) → AV → AV → Option Bool
  | _, .int a, .int b => some (f a b)
  | _, _, _ => none
section
variable {c : Cx}
theorem Op2.int {op : Value → Value → Sem Value} {f : Int → Int → Option Int}
    (h : ∀ (A : Around) (a b r : Int) (t u : Tok) (s : Shared) (Q : Value → Shared → Prop), f a b = some r → (∀ t' tk, Q (.int r t') { s with toks := tk }) → wpAny (model c.prog c.w) A (op (.int a t) (.int b u)) Q (fun _ _ => False) s) : Op2 c op (oInt f) := by
  intro k A hA x y z H hz K ρ s G u v ru rv Q hQ
  unfold oInt at hz
  split at hz
  · rename_i a b
    split at hz
    · rename_i r hr
      cases hz
      cases ru using VR.intE with
      | int _ t => cases rv using VR.intE with
        | int _ t' => exact h A a b r t t' s Q hr fun t'' tk => hQ _ s.heap tk (fun _ _ e => e) (.int _ _)
    · cases hz
  · cases hz
theorem Op2.cint {op : Value → Value → Sem Value} {f : Int → Int → Bool}
    (h : ∀ (A : Around) (a b : Int) (t u : Tok) (s : Shared) (Q : Value → Shared → Prop), (∀ tk, Q (.bool (f a b)) { s with toks := tk }) → wpAny (model c.prog c.w) A (op (.int a t) (.int b u)) Q (fun _ _ => False) s) : Op2 c op (fun H x y => (cInt f H x y).map AV.bool) := by
  intro k A hA x y z H hz K ρ s G u v ru rv Q hQ
  unfold cInt at hz
  dsimp only at hz
  split at hz
  · rename_i a b
    cases hz
    cases ru using VR.intE with
    | int _ t => cases rv using VR.intE with
      | int _ t' => exact h A a b t t' s Q fun tk => hQ _ s.heap tk (fun _ _ e => e) (.bool _)
  · cases hz
theorem op_add : Op2 c (binaryOp .Add) (oInt fun a b => some (a + b)) := .int fun A a b r t u s Q e h => by cases e; exact PyProof.Rows.add_int (h _ _)
theorem op_sub : Op2 c (binaryOp .Sub) (oInt fun a b => some (a - b)) := .int fun A a b r t u s Q e h => by cases e; exact PyProof.Rows.sub_int (h _ _)
noncomputable def fMul (a b : Int) : Option Int := if -(2 ^ 62) ≤ a ∧ a < 2 ^ 62 then some (a * b) else none
theorem op_mul : Op2 c (binaryOp .Mult) (oInt fMul) := .int fun A a b r t u s Q e h => by
  unfold fMul at e
  split at e
  · cases e; exact PyProof.Rows.mul_int (h _ _) (PySem.IntMulOk.of_left (PySem.intBits_le_64 (by (first | lia | omega)) (by (first | lia | omega))))
  · cases e
noncomputable def fDiv (a b : Int) : Option Int := if 0 < b ∧ b < 1000000 then some (a.fdiv b) else none
theorem op_div : Op2 c (binaryOp .FloorDiv) (oInt fDiv) := .int fun A a b r t u s Q e h => by
  unfold fDiv at e
  split at e
  · cases e; exact PyProof.Rows.floordiv_int (by (first | lia | omega)) (h _ _) (.inl (PyProof.noPylong_small (by (first | lia | omega))))
  · cases e
noncomputable def fMod (a b : Int) : Option Int := if b ≠ 0 then some (a.fmod b) else none
theorem op_mod : Op2 c (binaryOp .Mod) (oInt fMod) := .int fun A a b r t u s Q e h => by
  unfold fMod at e
  split at e
  · rename_i hb
    cases e; exact PyProof.Rows.mod_int' hb (h _ _)
  · cases e
noncomputable def fShr (a n : Int) : Option Int := if 0 ≤ n then some (a.fdiv (2 ^ n.toNat)) else none
theorem op_shr : Op2 c (binaryOp .RShift) (oInt fShr) := .int fun A a b r t u s Q e h => by
  unfold fShr at e
  split at e
  · rename_i hb
    cases e; exact PyProof.Rows.rshift_int hb (h _ _)
  · cases e
noncomputable def fShl (a n : Int) : Option Int := if 0 ≤ n ∧ n ≤ 1000000 ∧ a.natAbs < 2 ^ 64 then some (a * 2 ^ n.toNat) else none
theorem op_shl : Op2 c (binaryOp .LShift) (oInt fShl) := .int fun A a b r t u s Q e h => by
  unfold fShl at e
  split at e
  · rename_i hb
    cases e; exact PyProof.Rows.lshift_int_small hb.1 hb.2.1 hb.2.2 (h _ _)
  · cases e
theorem op_ishl : Op2 c (inplaceOp .LShift) (oInt fShl) := .int fun A a b r t u s Q e h => by
  unfold fShl at e
  split at e
  · rename_i hb
    cases e; exact PyProof.Rows.ilshift_int_small hb.1 hb.2.1 hb.2.2 (h _ _)
  · cases e
theorem op_and : Op2 c (binaryOp .BitAnd) (oInt fun a b => some (Builtin.bitAnd a b)) := .int fun A a b r t u s Q e h => by cases e; exact PyProof.Rows.and_int (h _ _)
theorem op_ior : Op2 c (inplaceOp .BitOr) (oInt fun a b => some (Builtin.bitOr a b)) := .int fun A a b r t u s Q e h => by cases e; exact PyProof.Rows.ior_int (h _ _)
theorem op_ixor : Op2 c (inplaceOp .BitXor) (oInt fun a b => some (Builtin.bitXor a b)) := .int fun A a b r t u s Q e h => by cases e; exact PyProof.Rows.ixor_int (h _ _)
theorem op_lt : Op2 c (compareOp .Lt) (fun H x y => (cInt (fun a b => decide (a < b)) H x y).map AV.bool) := .cint fun A a b t u s Q h => P.lt_int (h _)
theorem op_le : Op2 c (compareOp .LtE) (fun H x y => (cInt (fun a b => decide (a ≤ b)) H x y).map AV.bool) := .cint fun A a b t u s Q h => P.le_int (h _)
theorem op_gt : Op2 c (compareOp .Gt) (fun H x y => (cInt (fun a b => decide (a > b)) H x y).map AV.bool) := .cint fun A a b t u s Q h => P.gt_int (h _)
theorem op_ge : Op2 c (compareOp .GtE) (fun H x y => (cInt (fun a b => decide (a ≥ b)) H x y).map AV.bool) := .cint fun A a b t u s Q h => P.ge_int (h _)
theorem op_eq : Op2 c (compareOp .Eq) (fun H x y => (cInt (fun a b => a == b) H x y).map AV.bool) := .cint fun A a b t u s Q h => P.eq_int (h _)
theorem op_ne : Op2 c (compareOp .NotEq) (fun H x y => (cInt (fun a b => a != b) H x y).map AV.bool) := .cint fun A a b t u s Q h => P.ne_int (h _)
noncomputable def cStr (f : Str → Str → Bool) : List (List AV) → AV → AV → Option Bool
  | _, .str a, .str b => some (f a b)
  | _, _, _ => none
theorem Op2.cstr {op : Value → Value → Sem Value} {f : Str → Str → Bool}
    (h : ∀ (A : Around) (a b : Str) (t u : Tok) (s : Shared) (Q : Value → Shared → Prop), (∀ tk, Q (.bool (f a b)) { s with toks := tk }) → wpAny (model c.prog c.w) A (op (.str a t) (.str b u)) Q (fun _ _ => False) s) : Op2 c op (fun H x y => (cStr f H x y).map AV.bool) := by
  intro k A hA x y z H hz K ρ s G u v ru rv Q hQ
  unfold cStr at hz
  dsimp only at hz
  split at hz
  · rename_i a b
    cases hz
    cases ru using VR.strE with
    | str _ t => cases rv using VR.strE with
      | str _ t' => exact h A a b t t' s Q fun tk => hQ _ s.heap tk (fun _ _ e => e) (.bool _)
  · cases hz
theorem op_eqs : Op2 c (compareOp .Eq) (fun H x y => (cStr (fun a b => a == b) H x y).map AV.bool) := .cstr fun A a b t u s Q h => PyProof.Rows.eq_str (h _)
theorem op_nes : Op2 c (compareOp .NotEq) (fun H x y => (cStr (fun a b => a != b) H x y).map AV.bool) := .cstr fun A a b t u s Q h => PyProof.Rows.ne_str (h _)
noncomputable def oStrAdd : List (List AV) → AV → AV → Option AV
  | _, .str a, .str b => if a.length + b.length ≤ 1000000 then some (.str (a ++ b)) else none
  | _, _, _ => none
theorem op_adds : Op2 c (binaryOp .Add) oStrAdd := by
  intro k A hA x y z H hz K ρ s G u v ru rv Q hQ
  unfold oStrAdd at hz
  split at hz
  · rename_i a b
    split at hz
    · rename_i hb
      cases hz
      cases ru using VR.strE with
      | str _ t => cases rv using VR.strE with
        | str _ t' => exact PyProof.Rows.add_str (fun t'' tk => hQ _ s.heap tk (fun _ _ e => e) (.str _ _)) (by rw [sizeLine_eq]; (first | lia | omega))
    · cases hz
  · cases hz
/-! ### truth -/
noncomputable def trInt : List (List AV) → AV → Option Bool
  | _, .int a => some (a != 0)
  | _, _ => none
theorem tr_int : TrOp c trInt := by
  intro k A hA x z H hz K ρ s G u ru Q hQ
  unfold trInt at hz
  split at hz
  · cases hz
    cases ru using VR.intE with
    | int _ t => exact P.truthy_int (hQ s.heap s.toks fun _ _ e => e)
  · cases hz
noncomputable def trStr : List (List AV) → AV → Option Bool
  | _, .str a => if a.length < 1000000 then some (a.length != 0) else none
  | _, _ => none
theorem tr_str : TrOp c trStr := by
  intro k A hA x z H hz K ρ s G u ru Q hQ
  unfold trStr at hz
  split at hz
  · rename_i a
    split at hz
    · cases hz
      cases ru using VR.strE with
      | str _ t => exact P.truthy_str (by (first | lia | omega)) (by
          have : ((a.length : Int) != 0) = (a.length != 0) := by
            by_cases q : a.length = 0
            · rw [q]; rfl
            · rw [bne_iff_ne.mpr q]; exact bne_iff_ne.mpr (by (first | lia | omega))
          rw [this]; exact hQ s.heap _ fun _ _ e => e)
    · cases hz
  · cases hz
noncomputable def trLst : List (List AV) → AV → Option Bool
  | H, .lst l => match H[l]? with
    | some xs => if xs.length ≤ 1000000 then some (!xs.isEmpty) else none
    | none => none
  | _, _ => none
theorem tr_lst : TrOp c trLst := by
  intro k A hA x z H hz K ρ s G u ru Q hQ
  unfold trLst at hz
  split at hz
  · rename_i H l
    split at hz
    · rename_i xs hl
      split at hz
      · rename_i hb
        cases hz
        cases ru using VR.lstE with
        | lst hr =>
          obtain ⟨us, n, e1, e2⟩ := G.lists _ _ _ hr hl
          have hlen := e2.length
          refine wpAny_truthy_list (items := us.toArray) ⟨_, e1, rfl, n, rfl⟩ (by rw [List.size_toArray]; (first | lia | omega)) ?_
          have : (!us.toArray.isEmpty) = !xs.isEmpty := by
            cases us <;> cases xs <;> first | rfl | simp at hlen
          rw [this]; exact hQ s.heap _ fun _ _ e => e
      · cases hz
    · cases hz
  · cases hz
/-! ### items -/
noncomputable def oItem : List (List AV) → AV → AV → Option AV
  | H, .lst l, .int k => match H[l]? with
    | some xs => if 0 ≤ k ∧ k < 1000000 then xs[k.toNat]? else if k < 0 ∧ -(xs.length : Int) ≤ k ∧ -1000000 ≤ k then xs[(k + xs.length).toNat]? else none
    | none => none
  | _, .tuple xs, .int k => if 0 ≤ k ∧ k < 1000000 then xs[k.toNat]? else none
  | _, .str x, .int k => if 0 ≤ k ∧ k < 1000000 then match x.cps[k.toNat]? with
      | some c => some (.str ⟨#[c]⟩)
      | none => none
    else none
  | _, _, _ => none
theorem seqIndex_of {k : Int} {n : Nat} (h0 : 0 ≤ k) (h1 : k.toNat < n) : seqIndex? k n = some k.toNat := by
  unfold seqIndex?
  first | (simp; (first | lia | omega)) | (split <;> simp_all <;> (first | lia | omega))
theorem op_item {value slice : Expr} (hs : ∀ a k u, subscripted slice false (.ref a) (.int k u) = operate [.ref a, .int k u] (getItem (.ref a) (.int k u)))
    (hs2 : ∀ x t k u, subscripted slice false (.str x t) (.int k u) = operate [.str x t, .int k u] (getItem (.str x t) (.int k u))) : Op2 c (subscriptTail value slice) oItem := by
  intro k A hA x y z H hz K ρ s G u v ru rv Q hQ
  unfold oItem at hz
  split at hz
  · rename_i H l k
    cases rv using VR.intE with
    | int _ t' =>
      cases ru using VR.lstE with
      | lst hr =>
        split at hz
        · rename_i xs hl
          obtain ⟨us, n, e1, e2⟩ := G.lists _ _ _ hr hl
          have hlen := e2.length
          have hL : s.heap.IsList _ us.toArray := ⟨_, e1, rfl, n, rfl⟩
          split at hz
          · rename_i hb
            obtain ⟨w, hw, rw'⟩ := e2.get hz
            exact tail_any hL.typeIs slot_list_getitem.lookup (wpAny_getItem_list hL hb.1 (by (first | lia | omega)) (by simpa using hw) (hQ _ s.heap s.toks (fun _ _ e => e) rw')) (hs _ _ _)
          · split at hz
            · rename_i hb
              obtain ⟨w, hw, rw'⟩ := e2.get hz
              exact tail_any hL.typeIs slot_list_getitem.lookup (wpAny_getItem_list_neg hL hb.1 (by rw [List.size_toArray, hlen]; exact hb.2.1) (by (first | lia | omega)) (by rw [List.size_toArray, hlen]; simpa using hw) (hQ _ s.heap s.toks (fun _ _ e => e) rw')) (hs _ _ _)
            · cases hz
        · cases hz
  · rename_i xs k
    split at hz
    · rename_i hb
      cases rv using VR.intE with
      | int _ t' =>
        cases ru using VR.tupleE with
        | tuple e1 e2 e3 e4 =>
          rename_i a o us n
          obtain ⟨w, hw, rw'⟩ := e4.get hz
          have hlt : k.toNat < us.length := (List.getElem?_eq_some_iff.mp hw).1
          exact item_tupleT (l := us) ⟨_, G.keep _ _ e1, e2, n, e3⟩ (by (first | lia | omega)) (by (first | lia | omega)) (seqIndex_of hb.1 hlt) hw (hQ _ s.heap s.toks (fun _ _ e => e) rw') (hs _ _ _)
    · cases hz
  · rename_i x k
    split at hz
    · rename_i hb
      split at hz
      · rename_i cp hcp
        cases hz
        cases rv using VR.intE with
        | int _ t' =>
          cases ru using VR.strE with
          | str _ t =>
            have hlt : k.toNat < x.length := by
              have := (Array.getElem?_eq_some_iff.mp hcp).1
              exact this
            refine tail_any (typeIs_str s x t) PySem.F.slot_str_getitem.lookup (PyProof.Rows.getItem_str (c := cp) (by simp; (first | lia | omega)) (by rw [seqIndex_of hb.1 hlt]; exact hcp) (hQ _ s.heap _ (fun _ _ e => e) (.str _ _))) (hs2 _ _ _ _)
      · cases hz
    · cases hz
  · cases hz
end
end Mine
end
/-! ## part FW12 -/
section
open PySem PySem.W PyProof.Rows PySem.Calls
open PySem.AutoSeq1 (wpAny_loadPart')
open PySem.SeqAt PySem.MeetsSeq PySem.MeetsSeq2 PySem.MeetsSeq3 PySem.SeqRoads2
set_option bootstrap.genMatcherCode false
namespace Mine
theorem tuple_lt2 (l b : Addr) (a1 a2 b1 b2 : Int) (t1 t2 u1 u2 : Tok) (n n2 : Nat) (dd dd2 : Option Addr) (sl sl2 : Array (Option Value)) :
    Meets (Builtin.«tuple.__lt__» ⟨[.ref l, .ref b], []⟩)
      (fun A R s => s.heap.get? l = some { cls := .type "tuple", dict := dd, data := .seq #[.int a1 t1, .int a2 t2] n, slots := sl } ∧ s.heap.get? b = some { cls := .type "tuple", dict := dd2, data := .seq #[.int b1 u1, .int b2 u2] n2, slots := sl2 } ∧
        R (.ok (.ret (.bool (decide (a1 < b1 ∨ (a1 = b1 ∧ a2 < b2)))))) s) :=
  .of_wp fun prog w A R s h => by
    obtain ⟨hp, g, d, tk, os⟩ := s; obtain ⟨hl, hb, h⟩ := h
    have f2 := AutoSeq1.sub_tuple_tuple
    wp_walk using wpAny_loadPart' hl, wpAny_loadPart' hb, wpAny_forIn_list _ (fun rest b s' => b.1 = none ∧ s' = ⟨hp, g, d, tk, os⟩ ∧ (rest = [(Value.int a1 t1, Value.int b1 u1), (Value.int a2 t2, Value.int b2 u2)] ∨ (rest = [(Value.int a2 t2, Value.int b2 u2)] ∧ a1 = b1) ∨ (rest = [] ∧ a1 = b1 ∧ a2 = b2))) _
    case turn =>
      rintro ⟨y, x⟩ rest b s' ⟨hb', rfl, hz⟩
      rcases hz with hz | ⟨hz, e⟩ | ⟨hz, _⟩
      · cases hz
        refine wpAny_bind (EqAt.int_int a1 t1 b1 u1 prog w _ _ ?_)
        cases hy : a1 == b1 with
        | true =>
          wp_walk
          exact ⟨rfl, rfl, .inr (.inl ⟨rfl, by simpa using hy⟩)⟩
        | false =>
          have hne : a1 ≠ b1 := by simpa using hy
          rw [show decide (a1 < b1 ∨ (a1 = b1 ∧ a2 < b2)) = decide (a1 < b1) from by simp [hne]] at h
          simp only [Bool.not_false, if_true]
          refine wpAny_bind (wpAny_rule (wpAny_bind (P.lt_int ?_)))
          exact wpAny_bind (wpAny_pure (wpAny_pure (wpAny_pure ⟨_, rfl, h⟩)))
      · cases hz
        refine wpAny_bind (EqAt.int_int a2 t2 b2 u2 prog w _ _ ?_)
        cases hy : a2 == b2 with
        | true =>
          wp_walk
          exact ⟨rfl, rfl, .inr (.inr ⟨rfl, e, by simpa using hy⟩)⟩
        | false =>
          rw [show decide (a1 < b1 ∨ (a1 = b1 ∧ a2 < b2)) = decide (a2 < b2) from by simp [e]] at h
          simp only [Bool.not_false, if_true]
          refine wpAny_bind (wpAny_rule (wpAny_bind (P.lt_int ?_)))
          exact wpAny_bind (wpAny_pure (wpAny_pure (wpAny_pure ⟨_, rfl, h⟩)))
      · cases hz
    case fin =>
      rintro ⟨c1, c2⟩ s' ⟨hb', rfl, hz⟩
      simp only at hb'
      subst hb'
      rcases hz with hz | ⟨hz, _⟩ | ⟨_, e1, e2⟩
      · cases hz
      · cases hz
      · rw [show decide (a1 < b1 ∨ (a1 = b1 ∧ a2 < b2)) = false from by simp [e1, e2]] at h
        exact wpAny_pure ⟨_, rfl, h⟩
    exact ⟨rfl, rfl, .inl rfl⟩
section
variable {c : Cx}
noncomputable def int1 : AV → Option Int
  | .int a => some a
  | _ => none
noncomputable def tup2 : AV → Option (Int × Int)
  | .tuple xs => match xs with
    | a :: r => match r with
      | b :: q => match q with
        | [] => match int1 a with
          | some i => match int1 b with
            | some j => some (i, j)
            | none => none
          | none => none
        | _ :: _ => none
      | [] => none
    | [] => none
  | _ => none
theorem int1_inv {x : AV} {a : Int} (h : int1 x = some a) : x = .int a := by
  cases x <;> first | (cases h; rfl) | cases h
theorem tup2_inv {x : AV} {p : Int × Int} (h : tup2 x = some p) : x = .tuple [.int p.1, .int p.2] := by
  cases x with
  | tuple xs =>
    cases xs with
    | nil => cases h
    | cons a r => cases r with
      | nil => cases h
      | cons b q => cases q with
        | cons _ _ => cases h
        | nil =>
          unfold tup2 at h
          dsimp only at h
          cases h1 : int1 a with
          | none => rw [h1] at h; cases h
          | some i => cases h2 : int1 b with
            | none => rw [h1, h2] at h; cases h
            | some j => rw [h1, h2] at h; cases h; rw [int1_inv h1, int1_inv h2]
  | none => cases h
  | bool => cases h
  | int => cases h
  | str => cases h
  | lst => cases h
  | rng => cases h
  | raw => cases h
noncomputable def cTup : List (List AV) → AV → AV → Option Bool := fun _ x y => match tup2 x with
  | some p => match tup2 y with
    | some q => some (decide (p.1 < q.1 ∨ (p.1 = q.1 ∧ p.2 < q.2)))
    | none => none
  | none => none
theorem ints2 {K : KM} {ρ : List Addr} {us : List Value} {a b : Int} (h : VRs K ρ us [.int a, .int b]) : ∃ t u, us = [.int a t, .int b u] := by
  cases h using VRs.consE with
  | cons p r => cases r using VRs.consE with
    | cons q r =>
      cases r using VRs.nilE
      cases p using VR.intE with
      | int _ t => cases q using VR.intE with
        | int _ u => exact ⟨t, u, rfl⟩
theorem op_ltt : Op2 c (compareOp .Lt) (fun H x y => (cTup H x y).map AV.bool) := by
  intro k A hA x y z H hz K ρ s G u v ru rv Q hQ
  unfold cTup at hz
  dsimp only at hz
  cases hp : tup2 x with
  | none => rw [hp] at hz; cases hz
  | some p => cases hq : tup2 y with
   | none => rw [hp, hq] at hz; cases hz
   | some q =>
    rw [hp, hq] at hz
    obtain rfl := tup2_inv hp
    obtain rfl := tup2_inv hq
    obtain ⟨a, b⟩ := p
    obtain ⟨a', b'⟩ := q
    cases hz
    cases ru using VR.tupleE with
    | tuple e1 e2 e3 e4 =>
      rename_i al ol vl nl
      cases rv using VR.tupleE with
      | tuple f1 f2 f3 f4 =>
        rename_i ar or vr nr
        obtain ⟨t1, t2, rfl⟩ := ints2 e4
        obtain ⟨t3, t4, rfl⟩ := ints2 f4
        skip
        focus
                        obtain ⟨cls, dd, data, sl⟩ := ol
                        obtain ⟨cls', dd', data', sl'⟩ := or
                        dsimp only at e2 e3 f2 f3
                        subst e2 e3 f2 f3
                        have g1 := G.keep _ _ e1
                        have g2 := G.keep _ _ f1
                        show wpAny _ A (richCompare .Lt _ _) _ _ s
                        exact richCompare_meets_room (op := .Lt) ⟨_, g1, rfl⟩ ⟨_, g2, rfl⟩ PySem.F.slot_tuple_lt PySem.F.entry_tuple_lt (PySem.F.args_tuple_lt_2 _ _) (tuple_lt2 _ _ a b a' b' t1 t2 t3 t4 _ _ _ _ _ _)
                          ⟨g1, g2, (fun x => nomatch x), hQ _ s.heap s.toks (fun _ _ e => e) (.bool _)⟩ (by have := hA.unit 0 (by (first | lia | omega)); (first | lia | omega))
end
end Mine
end
/-! ## part FW13 -/
section
open PySem PySem.W PyProof.Rows PySem.Calls
set_option bootstrap.genMatcherCode false
namespace Mine
noncomputable def intsOf : List AV → Option (List Int)
  | [] => some []
  | .int i :: r => match intsOf r with
    | some ns => some (i :: ns)
    | none => none
  | _ => none
noncomputable def strsOf : List AV → Option (List Str)
  | [] => some []
  | .str i :: r => match strsOf r with
    | some ns => some (i :: ns)
    | none => none
  | _ => none
theorem intsOf_eq : ∀ {xs : List AV} {ns : List Int}, intsOf xs = some ns → xs = ns.map AV.int
  | [], ns, h => by cases h; rfl
  | .int i :: r, ns, h => by
    simp only [intsOf] at h
    split at h
    · rename_i ns' hr
      cases h
      rw [List.map_cons, ← intsOf_eq hr]
    · cases h
  | .none :: r, ns, h => by cases h
  | .bool _ :: r, ns, h => by cases h
  | .str _ :: r, ns, h => by cases h
  | .tuple _ :: r, ns, h => by cases h
  | .lst _ :: r, ns, h => by cases h
  | .rng _ _ :: r, ns, h => by cases h
  | .raw _ :: r, ns, h => by cases h
theorem strsOf_eq : ∀ {xs : List AV} {ns : List Str}, strsOf xs = some ns → xs = ns.map AV.str
  | [], ns, h => by cases h; rfl
  | .str i :: r, ns, h => by
    simp only [strsOf] at h
    split at h
    · rename_i ns' hr
      cases h
      rw [List.map_cons, ← strsOf_eq hr]
    · cases h
  | .none :: r, ns, h => by cases h
  | .bool _ :: r, ns, h => by cases h
  | .int _ :: r, ns, h => by cases h
  | .tuple _ :: r, ns, h => by cases h
  | .lst _ :: r, ns, h => by cases h
  | .rng _ _ :: r, ns, h => by cases h
  | .raw _ :: r, ns, h => by cases h
@[simp] theorem intsOf_map : ∀ (ns : List Int), intsOf (ns.map AV.int) = some ns
  | [] => rfl
  | n :: ns => by simp only [List.map_cons, intsOf, intsOf_map ns]
@[simp] theorem strsOf_map : ∀ (ns : List Str), strsOf (ns.map AV.str) = some ns
  | [] => rfl
  | n :: ns => by simp only [List.map_cons, strsOf, strsOf_map ns]
theorem VRs.strs {K : KM} {ρ : List Addr} {us : List Value} {ns : List Str} (h : VRs K ρ us (ns.map AV.str)) : StrsAre us ns := by
  induction ns generalizing us with
  | nil => cases h using VRs.nilE; exact .nil
  | cons n ns ih => cases h using VRs.consE with
    | cons a r => cases a using VR.strE with
      | str _ t => exact .cons n t (ih r)
theorem upd_list {h : Heap} {a : Addr} {us us' : List Value} {n : Nat} {f : Array Value → Array Value} (e : h.get? a = some (listOf us.toArray n)) (hf : f us.toArray = us'.toArray) :
    ∃ n', (h.update a (Obj.mapSeq f)).get? a = some (listOf us'.toArray n') := by
  rw [Heap.get?_update_self _ e rfl]
  show ∃ n', some ({ cls := .type "list", data := .seq (f us.toArray) (if (f us.toArray).size == us.toArray.size then n else n + 1) } : Obj) = _
  rw [hf]
  exact ⟨_, rfl⟩
/-! ### methods -/
noncomputable def isLst : AV → Bool
  | .lst _ => true
  | _ => false
noncomputable def isStr : AV → Bool
  | .str _ => true
  | _ => false
section
variable {c : Cx}
theorem MGet.lst {name : Str} {id : String} (slot : Slot "list" name id) (hty : typeOf (.builtin id) = pure (.type "method_descriptor")) : MGet c name isLst id := by
  intro x hx A K ρ H s G u r pl Q h
  cases r with
  | lst hr =>
    obtain ⟨xs, us, n, e1, e2, e3⟩ := G.listAt hr
    exact getMethod_list_of slot hty (items := us.toArray) ⟨_, e2, rfl, n, rfl⟩ ⟨_, e2, rfl⟩ h
  | _ => cases hx
set_option maxRecDepth 20000 in
theorem MGet.strg {name : Str} {id : String} (slot : Slot "str" name id) (hty : typeOf (.builtin id) = pure (.type "method_descriptor")) : MGet c name isStr id := by
  intro x hx A K ρ H s G u r pl Q h
  cases r with
  | str y t => exact getMethod_builtin (T := "str") (typeIs_str s y t) PySem.F.plainAttrs_str slot hty (fun a e => nomatch e) h
  | none => cases hx
  | bool => cases hx
  | int => cases hx
  | tuple => cases hx
  | lst => cases hx
  | rng => cases hx
  | raw => cases hx
noncomputable def gAppend : GF := fun args H => match args with
  | [.lst l, x] => match H[l]? with
    | some xs => if xs.length ≤ 1000000 then some (.none, H.set l (xs ++ [x])) else none
    | none => none
  | _ => none
theorem gop_append : Gop c (fun us => call (.builtin "list.append") us) gAppend := by
  intro k A hA args H v H' hg K ρ s G us r Q hQ
  unfold gAppend at hg
  split at hg
  · rename_i l x
    split at hg
    · rename_i xs hl
      split at hg
      · rename_i hb
        cases hg
        cases r using VRs.consE with
        | cons r1 r2 =>
          cases r2 using VRs.consE with
          | cons r2 r3 =>
            cases r3 using VRs.nilE
            rename_i u1 u2
            cases r1 using VR.lstE with
            | lst hr =>
              obtain ⟨us, n, e1, e2⟩ := G.lists _ _ _ hr hl
              have hlen := e2.length
              refine append_at (its := us.toArray) (n := n) e1 (fun h' hs' h1 => ?_) (by rw [List.size_toArray, sizeLine_eq]; (first | lia | omega))
              refine hQ _ K ρ h' s.toks (KLe.refl K) (PLe.refl ρ) (G.setL (us := us ++ [u2]) (n := n + 1) hr hs' ?_ (e2.append (.cons r2 .nil))) .none (Stay.setL hr hs')
              rw [h1, List.push_toArray]
      · cases hg
    · cases hg
  · cases hg
noncomputable def gPop : GF := fun args H => match args with
  | [.lst l] => match H[l]? with
    | some xs => match xs.getLast? with
      | some x => if xs.length ≤ 1000000 then some (x, H.set l xs.dropLast) else none
      | none => none
    | none => none
  | _ => none
theorem VRs.dropLast {K : KM} {ρ : List Addr} {us : List Value} {xs : List AV} (h : VRs K ρ us xs) : VRs K ρ us.dropLast xs.dropLast := by
  rw [List.dropLast_eq_take, List.dropLast_eq_take, h.length]
  exact h.take _
theorem gop_pop : Gop c (fun us => call (.builtin "list.pop") us) gPop := by
  intro k A hA args H v H' hg K ρ s G us r Q hQ
  unfold gPop at hg
  split at hg
  · rename_i l
    split at hg
    · rename_i xs hl
      split at hg
      · rename_i x hx
        split at hg
        · rename_i hb
          cases hg
          cases r using VRs.consE with
          | cons r1 r2 =>
            cases r2 using VRs.nilE
            cases r1 using VR.lstE with
            | lst hr =>
              obtain ⟨us, n, e1, e2⟩ := G.lists _ _ _ hr hl
              have hlen := e2.length
              rw [List.getLast?_eq_getElem?] at hx
              obtain ⟨u, hu, ru⟩ := e2.get hx
              rw [← hlen] at hu
              have hf : us.toArray.eraseIdxIfInBounds (us.toArray.size - 1) = us.dropLast.toArray := by
                apply Array.toList_inj.mp
                rw [Array.toList_eraseIdxIfInBounds]
                simp [List.dropLast_eq_take, List.eraseIdx_eq_take_drop_succ]
                (first | lia | omega)
              obtain ⟨n', hn'⟩ := upd_list (f := fun xs => xs.eraseIdxIfInBounds (us.toArray.size - 1)) (us' := us.dropLast) e1 hf
              refine call_meets PySem.F.slot_list_pop ⟨_, e1, rfl⟩ PySem.F.entry_list_pop (PySem.F.args_list_pop_1 _) (MeetsSeq.list_pop_last _ us.toArray n u (by simpa using hu) (by rw [List.size_toArray, sizeLine_eq]; (first | lia | omega))) ⟨e1, ?_⟩
              exact hQ _ K ρ _ s.toks (KLe.refl K) (PLe.refl ρ) (G.setL hr (Heap.SameBut.update ..) hn' e2.dropLast) ru (Stay.setL hr (Heap.SameBut.update ..))
        · cases hg
      · cases hg
    · cases hg
  · cases hg
noncomputable def gLen : GF := fun args H => match args with
  | [.lst l] => match H[l]? with
    | some xs => if xs.length ≤ 1000000 then some (.int xs.length, H) else none
    | none => none
  | _ => none
theorem gop_len : Gop c (fun us => call (.builtin "len") us) gLen := by
  intro k A hA args H v H' hg K ρ s G us r Q hQ
  unfold gLen at hg
  split at hg
  · rename_i l
    split at hg
    · rename_i xs hl
      split at hg
      · rename_i hb
        cases hg
        cases r using VRs.consE with
        | cons r1 r2 =>
          cases r2 using VRs.nilE
          cases r1 using VR.lstE with
          | lst hr =>
            obtain ⟨us, n, e1, e2⟩ := G.lists _ _ _ hr hl
            have hlen := e2.length
            refine call_len_list (items := us.toArray) ⟨_, e1, rfl, n, rfl⟩ (by rw [List.size_toArray]; (first | lia | omega)) ?_
            rw [List.size_toArray, hlen]
            exact hQ _ K ρ s.heap _ (KLe.refl K) (PLe.refl ρ) G (.int _ _) (Stay.refl fun _ _ e => e)
      · cases hg
    · cases hg
  · cases hg
noncomputable def gExtend : GF := fun args H => match args with
  | [.lst l, .lst m] => match H[l]? with
    | some xs => match H[m]? with
      | some ys => if xs.length + ys.length ≤ 1000000 then some (.none, H.set l (xs ++ ys)) else none
      | none => none
    | none => none
  | _ => none
theorem gop_extend : Gop c (fun us => call (.builtin "list.extend") us) gExtend := by
  intro k A hA args H v H' hg K ρ s G us r Q hQ
  unfold gExtend at hg
  split at hg
  · rename_i l m
    split at hg
    · rename_i xs hl
      split at hg
      · rename_i ys hm
        split at hg
        · rename_i hb
          cases hg
          cases r using VRs.consE with
          | cons r1 r2 =>
            cases r2 using VRs.consE with
            | cons r2 r3 =>
              cases r3 using VRs.nilE
              cases r1 using VR.lstE with
              | lst hr =>
                cases r2 using VR.lstE with
                | lst hr2 =>
                  obtain ⟨us, n, e1, e2⟩ := G.lists _ _ _ hr hl
                  obtain ⟨vs, n2, f1, f2⟩ := G.lists _ _ _ hr2 hm
                  have hlen := e2.length
                  have hlen2 := f2.length
                  obtain ⟨n', hn'⟩ := upd_list (f := fun xs => xs ++ vs.toArray) (us' := us ++ vs) e1 (by simp)
                  refine call_meets PySem.F.slot_list_extend ⟨_, e1, rfl⟩ PySem.F.entry_list_extend (PySem.F.args_list_extend_2 _ _) (AutoSeq1.list_extend_list_list_0 _ us.toArray n _ vs.toArray n2 ?_ ?_ ?_) ⟨e1, f1, ?_⟩
                  · simp only [List.size_toArray, hlen, hlen2]
                    unfold Builtin.List.listTooLong
                    rw [sizeLine_eq]
                    simp
                    intro _
                    (first | lia | omega)
                  · rw [List.size_toArray, sizeLine_eq]; (first | lia | omega)
                  · rw [List.size_toArray, List.size_toArray, sizeLine_eq]; (first | lia | omega)
                  · exact hQ _ K ρ _ s.toks (KLe.refl K) (PLe.refl ρ) (G.setL hr (Heap.SameBut.update ..) hn' (e2.append f2)) .none (Stay.setL hr (Heap.SameBut.update ..))
        · cases hg
      · cases hg
    · cases hg
  · cases hg
noncomputable def gCount : GF := fun args H => match args with
  | [.lst l, .int k] => match H[l]? with
    | some xs => match intsOf xs with
      | some ns => some (.int (ns.count k : Nat), H)
      | none => none
    | none => none
  | _ => none
theorem gop_count : Gop c (fun us => call (.builtin "list.count") us) gCount := by
  intro k A hA args H v H' hg K ρ s G us r Q hQ
  unfold gCount at hg
  split at hg
  · rename_i l k
    split at hg
    · rename_i xs hl
      split at hg
      · rename_i ns hn
        cases hg
        cases r using VRs.consE with
        | cons r1 r2 =>
          cases r2 using VRs.consE with
          | cons r2 r3 =>
            cases r3 using VRs.nilE
            cases r1 using VR.lstE with
            | lst hr =>
              cases r2 using VR.intE with
              | int _ t =>
                obtain ⟨us, n, e1, e2⟩ := G.lists _ _ _ hr hl
                rw [intsOf_eq hn] at e2
                refine count_list_ints (vs := us) ⟨_, e1, rfl, n, rfl⟩ e2.ints ?_
                exact hQ _ K ρ s.heap _ (KLe.refl K) (PLe.refl ρ) G (.int _ _) (Stay.refl fun _ _ e => e)
      · cases hg
    · cases hg
  · cases hg
noncomputable def gSCount : GF := fun args H => match args with
  | [.str x, .str y] => some (.int (Builtin.Str.occurrences x y 0 x.length (x.length + 1)).length, H)
  | _ => none
theorem gop_scount : Gop c (fun us => call (.builtin "str.count") us) gSCount := by
  intro k A hA args H v H' hg K ρ s G us r Q hQ
  unfold gSCount at hg
  split at hg
  · rename_i x y
    cases hg
    cases r using VRs.consE with
    | cons r1 r2 =>
      cases r2 using VRs.consE with
      | cons r2 r3 =>
        cases r3 using VRs.nilE
        cases r1 using VR.strE with
        | str _ t =>
          cases r2 using VR.strE with
          | str _ t2 =>
            refine call_meets PySem.F.slot_str_count (typeIs_str s x t) PySem.F.entry_str_count (PySem.F.args_str_count_2 _ _) (gives_str_count x y t t2).meets ?_
            exact hQ _ K ρ s.heap _ (KLe.refl K) (PLe.refl ρ) G (.int _ _) (Stay.refl fun _ _ e => e)
  · cases hg
noncomputable def gJoin : GF := fun args H => match args with
  | [.str x, .lst l] => match H[l]? with
    | some xs => match strsOf xs with
      | some ys => if (ys.map (·.length)).sum + ys.length * x.length ≤ 1000000 then some (.str (Txt.join x ys), H) else none
      | none => none
    | none => none
  | _ => none
theorem gop_join : Gop c (fun us => call (.builtin "str.join") us) gJoin := by
  intro k A hA args H v H' hg K ρ s G us r Q hQ
  unfold gJoin at hg
  split at hg
  · rename_i x l
    split at hg
    · rename_i xs hl
      split at hg
      · rename_i ys hn
        split at hg
        · rename_i hb
          cases hg
          cases r using VRs.consE with
          | cons r1 r2 =>
            cases r2 using VRs.consE with
            | cons r2 r3 =>
              cases r3 using VRs.nilE
              cases r2 using VR.lstE with
              | lst hr =>
                cases r1 using VR.strE with
                | str _ t =>
                  obtain ⟨us, n, e1, e2⟩ := G.lists _ _ _ hr hl
                  rw [strsOf_eq hn] at e2
                  refine join_list (items := us.toArray) ⟨_, e1, rfl, n, rfl⟩ e2.strs (by (first | lia | omega)) fun t' kk => ?_
                  exact hQ _ K ρ s.heap _ (KLe.refl K) (PLe.refl ρ) G (.str _ _) (Stay.refl fun _ _ e => e)
        · cases hg
      · cases hg
    · cases hg
  · cases hg
end
end Mine
end
/-! ## part FW14 -/
section
open PySem PySem.W PyProof.Rows PySem.Calls
set_option bootstrap.genMatcherCode false
namespace Mine
section
variable {c : Cx}
noncomputable def gHex : GF := fun args H => match args with
  | [.int i] => if (baseText "0x" 16 i).length ≤ 1000000 then some (.str (baseText "0x" 16 i), H) else none
  | _ => none
theorem gop_hex : Gop c (fun us => call (.builtin "hex") us) gHex := by
  intro k A hA args H v H' hg K ρ s G us r Q hQ
  unfold gHex at hg
  split at hg
  · rename_i i
    split at hg
    · rename_i hb
      cases hg
      cases r using VRs.consE with
      | cons r1 r2 =>
        cases r2 using VRs.nilE
        cases r1 using VR.intE with
        | int _ t =>
          exact P.hex_of_int (hQ _ K ρ s.heap _ (KLe.refl K) (PLe.refl ρ) G (.str _ _) (Stay.refl fun _ _ e => e)) (by rw [sizeLine_eq]; (first | lia | omega))
    · cases hg
  · cases hg
noncomputable def gRange : GF := fun args H => match args with
  | [.int n] => some (.rng 0 n, H)
  | [.int a, .int b] => some (.rng a b, H)
  | _ => none
theorem gop_range : Gop c (fun us => call (.type "range") us) gRange := by
  intro k A hA args H v H' hg K ρ s G us r Q hQ
  have h0 : s.heap.get? s.heap.objs.size = none := get_none_of (Nat.le_refl _)
  have key : ∀ (o : Obj) (a b : Int) (t u w : Tok) (tk : Nat), v = .rng a b → o = { cls := .type "range", data := .fields #[.int a t, .int b u, .int 1 w] } → H' = H → Q (.ref s.heap.objs.size) { s with heap := s.heap.push o, toks := tk } := by
    intro o a b t u w tk ev eo eH
    subst ev eo eH
    have hk := KLe.set (K := K) (a := s.heap.objs.size) { cls := .type "range", data := .fields #[.int a t, .int b u, .int 1 w] } (G.fresh_of h0).2
    refine hQ _ (K.set s.heap.objs.size _) ρ _ tk hk (PLe.refl ρ) (G.newK h0 (fun _ _ e => Heap.get?_push_of_some _ e) (Heap.get?_push_size _ rfl)) (.rng (t := t) (u := u) (v := w) ?_) (Stay.newK h0 fun _ _ e => Heap.get?_push_of_some _ e)
    unfold KM.set; rw [if_pos rfl]
  unfold gRange at hg
  split at hg
  · rename_i n
    cases hg
    cases r using VRs.consE with
    | cons r1 r2 =>
      cases r2 using VRs.nilE
      cases r1 using VR.intE with
      | int _ t => exact call_range_1 (key _ 0 n _ _ _ _ rfl rfl rfl)
  · rename_i a b
    cases hg
    cases r using VRs.consE with
    | cons r1 r2 =>
      cases r2 using VRs.consE with
      | cons r2 r3 =>
        cases r3 using VRs.nilE
        cases r1 using VR.intE with
        | int _ t => cases r2 using VR.intE with
          | int _ u => exact call_range_2 (key _ a b _ _ _ _ rfl rfl rfl)
  · cases hg
noncomputable def gSum : GF := fun args H => match args with
  | [.lst l] => match H[l]? with
    | some xs => match intsOf xs with
      | some ns => some (.int ns.sum, H)
      | none => none
    | none => none
  | _ => none
theorem gop_sum : Gop c (fun us => call (.builtin "sum") us) gSum := by
  intro k A hA args H v H' hg K ρ s G us r Q hQ
  unfold gSum at hg
  split at hg
  · rename_i l
    split at hg
    · rename_i xs hl
      split at hg
      · rename_i ns hn
        cases hg
        cases r using VRs.consE with
        | cons r1 r2 =>
          cases r2 using VRs.nilE
          cases r1 using VR.lstE with
          | lst hr =>
            obtain ⟨us, n, e1, e2⟩ := G.lists _ _ _ hr hl
            rw [intsOf_eq hn] at e2
            have hi := e2.ints
            obtain ⟨ys, e⟩ := hi.allInts.items
            have hns : ns = ys.toList.map (·.1) := by rw [← hi.numsOf, ← nums_intItems, ← e]
            rw [e] at e1
            refine sum_intListG hA.handled (l := _) (xs := ys) ⟨_, e1, rfl, n, rfl⟩ fun h' tk t' hk => ?_
            rw [preSum_eq, List.take_of_length_le (by simp), ← hns]
            exact hQ _ K ρ h' _ (KLe.refl K) (PLe.refl ρ) (G.grow hk) (.int _ _) (Stay.refl hk)
      · cases hg
    · cases hg
  · cases hg
noncomputable def gMax : GF := fun args H => match args with
  | [.lst l] => match H[l]? with
    | some xs => match intsOf xs with
      | some ns => match ns.max? with
        | some m => some (.int m, H)
        | none => none
      | none => none
    | none => none
  | _ => none
theorem gop_max : Gop c (fun us => call (.builtin "max") us) gMax := by
  intro k A hA args H v H' hg K ρ s G us r Q hQ
  unfold gMax at hg
  split at hg
  · rename_i l
    split at hg
    · rename_i xs hl
      split at hg
      · rename_i ns hn
        split at hg
        · rename_i m hm
          cases hg
          obtain ⟨hm1, hm2⟩ := List.max?_eq_some_iff.mp hm
          cases r using VRs.consE with
          | cons r1 r2 =>
            cases r2 using VRs.nilE
            cases r1 using VR.lstE with
            | lst hr =>
              obtain ⟨us, n, e1, e2⟩ := G.lists _ _ _ hr hl
              rw [intsOf_eq hn] at e2
              have hi := e2.ints
              obtain ⟨ys, e⟩ := hi.allInts.items
              have hns : ns = ys.toList.map (·.1) := by rw [← hi.numsOf, ← nums_intItems, ← e]
              have hsz : 0 < ys.size := by
                have : 0 < ns.length := List.length_pos_of_mem hm1
                rw [hns, List.length_map, Array.length_toList] at this; exact this
              rw [e] at e1
              refine max_intList hA.handled (l := _) (xs := ys) ⟨_, e1, rfl, n, rfl⟩ hsz fun v h' tk hv hk => ?_
              obtain ⟨t, rfl⟩ := intItems_at hv
              obtain ⟨h1, h2⟩ := argBest_gt (numAt ys) (ys.size - 1)
              have hin : numAt ys (argBest (fun i j => decide (numAt ys i > numAt ys j)) (ys.size - 1)) ∈ ns := by
                rw [hns, numAt_eq]; exact getD_mem (by rw [List.length_map, Array.length_toList]; (first | lia | omega))
              have hup : ∀ a ∈ ns, a ≤ numAt ys (argBest (fun i j => decide (numAt ys i > numAt ys j)) (ys.size - 1)) := fun a ha => by
                rw [hns] at ha
                obtain ⟨j, hj, rfl⟩ := mem_getD ha
                rw [List.length_map, Array.length_toList] at hj
                rw [← numAt_eq]; exact h2 j (by (first | lia | omega))
              have : numAt ys (argBest (fun i j => decide (numAt ys i > numAt ys j)) (ys.size - 1)) = m := Int.le_antisymm (hm2 _ hin) (hup _ hm1)
              rw [this]
              exact hQ _ K ρ h' _ (KLe.refl K) (PLe.refl ρ) (G.grow hk) (.int _ _) (Stay.refl hk)
        · cases hg
      · cases hg
    · cases hg
  · cases hg
/-! ### new lists -/
theorem newL_done {K : KM} {ρ : List Addr} {H : List (List AV)} {s : Shared} (G : GRep c.base K ρ H s.heap) {us : List Value} {xs : List AV} (hx : VRs K ρ us xs) {o : Obj} (ho : o = listOf us.toArray 0) {v : AV} {H' : List (List AV)} (hv : v = .lst H.length) (hH : H' = H ++ [xs]) {Q : Value → Shared → Prop}
    (hQ : ∀ u K' ρ' h' tk', KLe K K' → PLe ρ ρ' → GRep c.base K' ρ' H' h' → VR K' ρ' u v → Stay K ρ s.heap K' ρ' h' → Q u { s with heap := h', toks := tk' }) : Q (.ref s.heap.objs.size) { s with heap := s.heap.push o } := by
  subst ho hv hH
  have h0 : s.heap.get? s.heap.objs.size = none := get_none_of (Nat.le_refl _)
  exact hQ _ K (ρ ++ [s.heap.objs.size]) _ s.toks (KLe.refl K) (PLe.snoc _ _) (G.newL h0 (fun _ _ e => Heap.get?_push_of_some _ e) (Heap.get?_push_size _ rfl) (hx.mono (KLe.refl K) (PLe.snoc _ _))) (.lst (newL_len G _)) (Stay.newL h0 fun _ _ e => Heap.get?_push_of_some _ e)
noncomputable def gAddL : GF := fun args H => match args with
  | [.lst l, .lst m] => match H[l]? with
    | some xs => match H[m]? with
      | some ys => if xs.length + ys.length ≤ 1000000 then some (.lst H.length, H ++ [xs ++ ys]) else none
      | none => none
    | none => none
  | _ => none
theorem gop_addL : Gop c (fun us => match us with | [u, v] => binaryOp .Add u v | _ => unsupported "") gAddL := by
  intro k A hA args H v H' hg K ρ s G us r Q hQ
  unfold gAddL at hg
  split at hg
  · rename_i l m
    split at hg
    · rename_i xs hl
      split at hg
      · rename_i ys hm
        split at hg
        · rename_i hb
          cases hg
          cases r using VRs.consE with
          | cons r1 r2 =>
            cases r2 using VRs.consE with
            | cons r2 r3 =>
              cases r3 using VRs.nilE
              cases r1 using VR.lstE with
              | lst hr =>
                cases r2 using VR.lstE with
                | lst hr2 =>
                  obtain ⟨us, n, e1, e2⟩ := G.lists _ _ _ hr hl
                  obtain ⟨vs, n2, f1, f2⟩ := G.lists _ _ _ hr2 hm
                  have hlen := e2.length
                  have hlen2 := f2.length
                  refine concat_meets ⟨_, e1, rfl⟩ ⟨_, f1, rfl⟩ noFill_list_add seq_list_add PySem.F.slot_list_add PySem.F.entry_list_add (PySem.F.args_list_add_2 _ _) (list_addW _ _ us.toArray vs.toArray n n2 none none #[] #[] (by rw [List.size_toArray, List.size_toArray, sizeLine_eq]; (first | lia | omega))) ⟨e1, f1, ?_⟩
                  exact newL_done G (e2.append f2) (by rw [List.append_toArray]) rfl rfl hQ
        · cases hg
      · cases hg
    · cases hg
  · cases hg
theorem foldl_one (x : Value) : ∀ (n : Nat) (a : Array Value), (List.replicate n #[x]).foldl (fun x1 x2 => x1 ++ x2) a = a ++ (List.replicate n x).toArray
  | 0, a => by simp
  | n + 1, a => by
    rw [List.replicate_succ, List.foldl_cons, foldl_one x n, List.replicate_succ]
    apply Array.toList_inj.mp
    simp
noncomputable def gMulL : GF := fun args H => match args with
  | [.lst l, .int k] => match H[l]? with
    | some [x] => if 0 ≤ k ∧ k ≤ 1000000 then some (.lst H.length, H ++ [List.replicate k.toNat x]) else none
    | _ => none
  | _ => none
theorem VRs.rep {K : KM} {ρ : List Addr} {u : Value} {x : AV} (h : VR K ρ u x) : ∀ n, VRs K ρ (List.replicate n u) (List.replicate n x)
  | 0 => .nil
  | n + 1 => by rw [List.replicate_succ, List.replicate_succ]; exact .cons h (VRs.rep h n)
theorem gop_mulL : Gop c (fun us => match us with | [u, v] => binaryOp .Mult u v | _ => unsupported "") gMulL := by
  intro k A hA args H v H' hg K ρ s G us r Q hQ
  unfold gMulL at hg
  split at hg
  · rename_i l k
    split at hg
    · rename_i x hl
      split at hg
      · rename_i hb
        cases hg
        cases r using VRs.consE with
        | cons r1 r2 =>
          cases r2 using VRs.consE with
          | cons r2 r3 =>
            cases r3 using VRs.nilE
            cases r1 using VR.lstE with
            | lst hr =>
              cases r2 using VR.intE with
              | int _ u =>
                obtain ⟨us, n, e1, e2⟩ := G.lists _ _ _ hr hl
                cases e2 using VRs.consE with
                | cons e2 e3 =>
                  cases e3 using VRs.nilE
                  rename_i w
                  refine wpAny_binaryOp_repeat_ref (T := "list") (U := "int") (by decide) ⟨_, e1, rfl⟩ (fun s' => typeIs_int s' k u) noFill_list_mul PySem.F.fills_int_mul PySem.F.slot_int_rmul repeat_list PySem.F.slot_int_index.lookup
                    (call_meets PySem.F.slot_int_rmul (typeIs_int s k u) PySem.F.entry_int_rmul (PySem.F.args_int_rmul_2 _ _) (int___rmul___int_list k u _ [w].toArray n)
                      ⟨e1, rfl, ⟨_, e1, rfl⟩, call_meets PySem.F.slot_list_mul ⟨_, e1, rfl⟩ PySem.F.entry_list_mul (PySem.F.args_list_mul_2 _ _)
                        (AutoListH.list___mul___list_int_3 _ [w].toArray n k u (by simp [Builtin.List.listFitsIndex]; (first | lia | omega)) (by simp; (first | lia | omega)) (by simp [Builtin.List.listTooLong, sizeLine_eq]; (first | lia | omega)))
                        ⟨e1, ?_⟩⟩)
                  refine newL_done G (VRs.rep e2 k.toNat) ?_ rfl rfl hQ
                  show ({ cls := .type "list", data := .seq (List.foldl (fun x1 x2 => x1 ++ x2) #[] (List.replicate (if [w].toArray.isEmpty = true then 0 else k.toNat) [w].toArray)) } : Obj) = _
                  rw [show (if [w].toArray.isEmpty = true then 0 else k.toNat) = k.toNat from rfl, show [w].toArray = #[w] from rfl, foldl_one]
                  simp [PySem.W.listOf]
      · cases hg
    · cases hg
  · cases hg
/-! ### compare lists -/
noncomputable def cIn : List (List AV) → AV → AV → Option Bool
  | H, .int k, .lst l => match H[l]? with
    | some xs => match intsOf xs with
      | some ns => some (ns.any (· == k))
      | none => none
    | none => none
  | _, _, _ => none
theorem op_in : Op2 c (compareOp .In) (fun H x y => (cIn H x y).map AV.bool) := by
  intro k A hA x y z H hz K ρ s G u v ru rv Q hQ
  unfold cIn at hz
  dsimp only at hz
  split at hz
  · rename_i H k l
    split at hz
    · rename_i xs hl
      split at hz
      · rename_i ns hn
        cases hz
        cases ru using VR.intE with
        | int _ t => cases rv using VR.lstE with
          | lst hr =>
            obtain ⟨us, n, e1, e2⟩ := G.lists _ _ _ hr hl
            rw [intsOf_eq hn] at e2
            exact in_list_ints (vs := us) ⟨_, e1, rfl, n, rfl⟩ e2.ints (hQ _ s.heap s.toks (fun _ _ e => e) (.bool _))
      · cases hz
    · cases hz
  · cases hz
noncomputable def cEqL : List (List AV) → AV → AV → Option Bool
  | H, .lst l, .lst m => match H[l]? with
    | some xs => match H[m]? with
      | some ys => if xs.length ≠ ys.length then some false else match strsOf xs with
        | some a => match strsOf ys with
          | some b => some (decide (a = b))
          | none => none
        | none => none
      | none => none
    | none => none
  | _, _, _ => none
theorem strs_get {K : KM} {ρ : List Addr} : ∀ {us : List Value} {ys : List Str}, VRs K ρ us (ys.map AV.str) → ∀ j (h : j < us.length) (h' : j < ys.length), ∃ t, us[j] = .str ys[j] t
:= by
  intro us ys
  induction ys generalizing us with
  | nil => intro r j h h'; exact absurd h' (Nat.not_lt_zero _)
  | cons y ys ih =>
    intro r j h h'
    cases r using VRs.consE with
    | cons a r => cases a using VR.strE with
      | str _ t => cases j with
        | zero => exact ⟨t, rfl⟩
        | succ j => exact ih r j (Nat.lt_of_succ_lt_succ h) (Nat.lt_of_succ_lt_succ h')
theorem op_eql : Op2 c (compareOp .Eq) (fun H x y => (cEqL H x y).map AV.bool) := by
  intro k A hA x y z H hz K ρ s G u v ru rv Q hQ
  unfold cEqL at hz
  dsimp only at hz
  split at hz
  · rename_i H l m
    split at hz
    · rename_i xs hl
      split at hz
      · rename_i ys hm
        cases ru using VR.lstE with
        | lst hr =>
          cases rv using VR.lstE with
          | lst hr2 =>
            obtain ⟨us, n, e1, e2⟩ := G.lists _ _ _ hr hl
            obtain ⟨vs, n2, f1, f2⟩ := G.lists _ _ _ hr2 hm
            have hlen := e2.length
            have hlen2 := f2.length
            have hu : A.units < cLine := by have := hA.unit 0 (by (first | lia | omega)); (first | lia | omega)
            split at hz
            · rename_i hne
              cases hz
              exact SeqAt.eq_list_lengthsAt (items := us.toArray) (items2 := vs.toArray) ⟨_, e1, rfl, n, rfl⟩ ⟨_, f1, rfl, n2, rfl⟩ (by simp; (first | lia | omega)) hu (hQ _ s.heap s.toks (fun _ _ e => e) (.bool _))
            · rename_i heq
              split at hz
              · rename_i a ha
                split at hz
                · rename_i b hb
                  cases hz
                  rw [strsOf_eq ha] at e2 hlen heq
                  rw [strsOf_eq hb] at f2 hlen2 heq
                  simp at heq hlen hlen2
                  have e : ((List.range us.toArray.size).all fun j => a[j]? == b[j]?) = decide (a = b) := by
                    rw [Bool.eq_iff_iff]
                    simp only [List.all_eq_true, List.mem_range, beq_iff_eq, decide_eq_true_eq, List.size_toArray]
                    constructor
                    · intro h
                      apply List.ext_getElem?
                      intro j
                      by_cases q : j < us.length
                      · exact h j q
                      · rw [List.getElem?_eq_none (by (first | lia | omega)), List.getElem?_eq_none (by (first | lia | omega))]
                    · intro h j _; rw [h]
                  refine SeqAt.eq_listAt (items := us.toArray) (items2 := vs.toArray) (e := fun j => a[j]? == b[j]?) ⟨_, e1, rfl, n, rfl⟩ ⟨_, f1, rfl, n2, rfl⟩ (by simp; (first | lia | omega)) hu (fun j h1 h2 => ?_) (by rw [e]; exact hQ _ s.heap s.toks (fun _ _ e => e) (.bool _))
                  simp only [List.size_toArray] at h1 h2
                  obtain ⟨t, ht⟩ := strs_get e2 j h1 (by (first | lia | omega))
                  obtain ⟨t', ht'⟩ := strs_get f2 j h2 (by (first | lia | omega))
                  simp only [List.getElem_toArray]
                  rw [ht, ht']
                  have : (a[j]? == b[j]?) = (a[j]'(by (first | lia | omega)) == b[j]'(by (first | lia | omega))) := by
                    rw [List.getElem?_eq_getElem (by (first | lia | omega)), List.getElem?_eq_getElem (by (first | lia | omega))]; rfl
                  rw [this]
                  exact SeqAt.EqAt.str_str _ _ _ _
                · cases hz
              · cases hz
      · cases hz
    · cases hz
  · cases hz
noncomputable def cNeL : List (List AV) → AV → AV → Option Bool
  | H, .lst l, .lst m => match H[l]? with
    | some xs => match H[m]? with
      | some ys => if xs.length ≠ ys.length then some true else if xs.length = 0 then some false else none
      | none => none
    | none => none
  | _, _, _ => none
theorem op_nel : Op2 c (compareOp .NotEq) (fun H x y => (cNeL H x y).map AV.bool) := by
  intro k A hA x y z H hz K ρ s G u v ru rv Q hQ
  unfold cNeL at hz
  dsimp only at hz
  split at hz
  · rename_i H l m
    split at hz
    · rename_i xs hl
      split at hz
      · rename_i ys hm
        cases ru using VR.lstE with
        | lst hr =>
          cases rv using VR.lstE with
          | lst hr2 =>
            obtain ⟨us, n, e1, e2⟩ := G.lists _ _ _ hr hl
            obtain ⟨vs, n2, f1, f2⟩ := G.lists _ _ _ hr2 hm
            have hlen := e2.length
            have hlen2 := f2.length
            have hu : A.units < cLine := by have := hA.unit 0 (by (first | lia | omega)); (first | lia | omega)
            show wpAny _ A (richCompare .NotEq _ _) _ _ s
            split at hz
            · rename_i hne
              cases hz
              exact SeqAt.RcNeAt.lists_lengths (items := us.toArray) (items2 := vs.toArray) ⟨_, e1, rfl, n, rfl⟩ ⟨_, f1, rfl, n2, rfl⟩ (by simp; (first | lia | omega)) hu _ _ _ _ (hQ _ s.heap s.toks (fun _ _ e => e) (.bool _))
            · split at hz
              · rename_i heq h0
                cases hz
                have e0 : us = [] := List.length_eq_zero_iff.mp (by (first | lia | omega))
                have e0' : vs = [] := List.length_eq_zero_iff.mp (by (first | lia | omega))
                subst e0 e0'
                refine SeqAt.RcNeAt.lists (items := #[]) (items2 := #[]) (e := fun _ => true) ⟨_, e1, rfl, n, rfl⟩ ⟨_, f1, rfl, n2, rfl⟩ rfl hu (fun j h1 _ => absurd h1 (by simp)) _ _ _ _ ?_
                exact hQ _ s.heap s.toks (fun _ _ e => e) (.bool _)
              · cases hz
      · cases hz
    · cases hz
  · cases hz
end
end Mine
end
/-! ## part FW15 -/
section
open PySem PySem.W PyProof.Rows PySem.Calls
set_option bootstrap.genMatcherCode false
namespace Mine
section
variable {c : Cx} {f : Fx}
/-- a name of the module that stands for data -/
theorem Ev.glob {x : Str} {pos : Pos} {u : Value} {v : AV} (hc : c.Ok) (hx : f.sc.names.lookup x = some .globalImplicit) (hm : c.mg x = some u) (hr : VR c.base.get? [] u v) (hd : (x == ("__debug__" : Str)) = false := by decide) : Ev c f (.Name x pos) (eVal v) := by
  intro A env oc hA hE hoc st v' st' hF K ρ s R
  cases hF
  refine Name_function_global (by rw [hE.scope]; exact hE.kind) (by unfold Env.kindOf; rw [hE.scope]; exact hx) (loadGlobal_global (by rw [hE.globals]; exact ns_up R.g hc.g) hm ?_) hd
  exact Pst.now R (hr.mono R.g.base (fun i a e => by simp at e))
/-! ### slices -/
noncomputable def eUpto (Fa Fb : EM) : EM := fun st => match Fa st with
  | some (.lst l, s1) => match Fb s1 with
    | some (.int k, s2) => match s2.H[l]? with
      | some xs => if 0 ≤ k ∧ xs.length ≤ 1000000 then some (.lst s2.H.length, { s2 with H := s2.H ++ [xs.take k.toNat] }) else none
      | none => none
    | _ => none
  | _ => none
theorem upto_tail {base : Heap} {env : Env} {oc : List (Str × Addr)} {K₂ : KM} {ρ₂ : List Addr} {s2 : AS} {h₂ : Heap} (R2 : Rep base env oc K₂ ρ₂ s2 h₂) {us : List Value} {xs : List AV} (e2 : VRs K₂ ρ₂ us xs) {k : Int} (hk : 0 ≤ k) (t : Tok) :
    slicePick us.toArray none (some k) none = (us.take k.toNat).toArray ∧ Rep base env oc K₂ (ρ₂ ++ [h₂.objs.size + 1]) { s2 with H := s2.H ++ [xs.take k.toNat] } ((h₂.push { cls := .type "slice", data := .fields #[.none, .int k t, .none] }).push { cls := .type "list", data := .seq (us.take k.toNat).toArray }) := by
  have ek : k = (k.toNat : Int) := by (first | lia | omega)
  refine ⟨by conv => lhs; rw [ek]
             rw [slicePick_upto'], ?_⟩
  have R3 : Rep base env oc K₂ ρ₂ s2 (h₂.push { cls := .type "slice", data := .fields #[.none, .int k t, .none] }) := R2.grow fun _ _ e => Heap.get?_push_of_some _ e
  have hsz : (h₂.push { cls := .type "slice", data := .fields #[.none, .int k t, .none] }).objs.size = h₂.objs.size + 1 := Heap.size_push ..
  refine R3.newL (a := h₂.objs.size + 1) (us := us.take k.toNat) (n := 0) (get_none_of (by rw [hsz]; exact Nat.le_refl _)) (fun _ _ e => Heap.get?_push_of_some _ e) ?_ (e2.take _)
  rw [← hsz]; exact Heap.get?_push_size _ rfl
theorem Ev.upto {a b : Expr} {p pos : Pos} {Fa Fb : EM} (ha : Ev c f a Fa) (hb : Ev c f b Fb) (ht : ∀ o r, letTemporaryGo a o r = pure () := by intro _ _; rfl) :
    Ev c f (.Subscript a (.Slice none (some b) none p) pos) (eUpto Fa Fb) := by
  intro A env oc hA hE hoc st v st' hF K ρ s R
  unfold eUpto at hF
  split at hF
  · rename_i l s1 h1
    split at hF
    · rename_i k s2 h2
      split at hF
      · rename_i xs hl
        split at hF
        · rename_i hk
          cases hF
          refine wpAny_Subscript_list_slice (step (ha A env oc hA hE hoc _ _ _ h1 K ρ s R) fun u K₁ ρ₁ h₁ t₁ k1 p1 R1 r1 => ?_) ht
          rw [evalPart_none]
          refine wpAny_pure ?_
          rw [evalPart_some]
          refine step (hb A env oc hA hE hoc _ _ _ h2 K₁ ρ₁ _ R1) fun u' K₂ ρ₂ h₂ t₂ k2 p2 R2 r2 => ?_
          cases r2 using VR.intE with
          | int _ t =>
            have r1' := r1.mono k2 p2
            cases r1' with
            | lst hr =>
              obtain ⟨us, n, e1, e2⟩ := R2.g.lists _ _ _ hr hl
              have hlen := e2.length
              refine ⟨_, us.toArray, none, some k, rfl, ⟨_, e1, rfl, n, rfl⟩, by rw [List.size_toArray, sizeLine_eq]; (first | lia | omega), .none, .int _ _, ?_⟩
              obtain ⟨ep, R3⟩ := upto_tail R2 e2 hk.1 t
              rw [ep]
              exact Pst.mk (K' := K₂) (ρ' := ρ₂ ++ [h₂.objs.size + 1]) (k1.trans k2) ((p1.trans p2).trans (PLe.snoc _ _)) R3 (.lst (newL_len R2.g _))
        · cases hF
      · cases hF
    · cases hF
  · cases hF
noncomputable def eRev (Fa : EM) : EM := fun st => match Fa st with
  | some (.lst l, s2) => match s2.H[l]? with
    | some xs => if xs.length ≤ 1000000 then some (.lst s2.H.length, { s2 with H := s2.H ++ [xs.reverse] }) else none
    | none => none
  | _ => none
theorem neg_one {k : Nat} {p q : Pos} {env : Env} {A : Around} {s : Shared} {Q : Value → Shared → Prop} (h : ∀ t tk, Q (.int (-1) t) { s with toks := tk }) :
    wpAny (model c.prog c.w) A (eval (.UnaryOp .USub (.Constant (.int 1) k p) q) env) Q (fun _ _ => False) s :=
  wpAny_UnaryOp (wpAny_Constant_int (P.neg_int (h _ _)))
theorem Ev.neg {i : Int} {k : Nat} {p q : Pos} : Ev c f (.UnaryOp .USub (.Constant (.int i) k p) q) (eVal (.int (-i))) := by
  intro A env oc hA hE hoc st v st' hF K ρ s R
  cases hF
  exact wpAny_UnaryOp (wpAny_Constant_int (P.neg_int (Pst.mk (K' := K) (ρ' := ρ) (KLe.refl K) (PLe.refl ρ) R (.int _ _))))
theorem Ev.rev {a : Expr} {kk : Nat} {p1 p2 p pos : Pos} {Fa : EM} (ha : Ev c f a Fa) (ht : ∀ o r, letTemporaryGo a o r = pure () := by intro _ _; rfl) :
    Ev c f (.Subscript a (.Slice none none (some (.UnaryOp .USub (.Constant (.int 1) kk p1) p2)) p) pos) (eRev Fa) := by
  intro A env oc hA hE hoc st v st' hF K ρ s R
  unfold eRev at hF
  split at hF
  · rename_i l s2 h1
    split at hF
    · rename_i xs hl
      split at hF
      · rename_i hk
        cases hF
        refine wpAny_Subscript_Slice_step (T := "list") list_getitem_lookup (step (ha A env oc hA hE hoc _ _ _ h1 K ρ s R) fun u K₂ ρ₂ h₂ t₂ k2 p2 R2 r2 => ?_) ht
        refine wpAny_Slice ?_
        rw [evalPart_none]
        refine wpAny_pure (wpAny_pure ?_)
        rw [evalPart_some]
        refine neg_one fun t tk => ?_
        cases r2 using VR.lstE with
        | lst hr =>
          obtain ⟨us, n, e1, e2⟩ := R2.g.lists _ _ _ hr hl
          have hlen := e2.length
          have hL : Heap.IsList h₂ _ us.toArray := ⟨_, e1, rfl, n, rfl⟩
          refine ⟨(hL.push _).typeIs, wpAny_getItem_list_slice (hL.push _) (Heap.IsSliceOf.new ..) .none .none (.int (-1) t) (by decide) ?_ (by rw [List.size_toArray, sizeLine_eq]; (first | lia | omega))⟩
          have h0 : h₂.get? h₂.objs.size = none := get_none_of (Nat.le_refl _)
          have R3 : Rep c.base env oc K₂ ρ₂ s2 (h₂.push { cls := .type "slice", data := .fields #[.none, .none, .int (-1) t] }) := R2.grow fun _ _ e => Heap.get?_push_of_some _ e
          have hsz : (h₂.push { cls := .type "slice", data := .fields #[.none, .none, .int (-1) t] }).objs.size = h₂.objs.size + 1 := Heap.size_push ..
          rw [rev_pick]
          show Pst _ _ _ _ _ _ _ _ _
          dsimp only
          rw [hsz]
          refine Pst.mk (K' := K₂) (ρ' := ρ₂ ++ [h₂.objs.size + 1]) k2 (p2.trans (PLe.snoc _ _)) (R3.newL (a := h₂.objs.size + 1) (us := us.reverse) (n := 0) (get_none_of (by rw [hsz]; (first | lia | omega))) (fun _ _ e => Heap.get?_push_of_some _ e) ?_ e2.reverse) (.lst (newL_len R2.g _))
          rw [← hsz]; exact Heap.get?_push_size _ rfl
      · cases hF
    · cases hF
  · cases hF
/-! ### «x op= e» on a plain local -/
theorem load_rep {x : Str} {A : Around} {env : Env} {oc : List (Str × Addr)} (hE : EnvIs A f.t f.sc env) {st : AS} {v : AV} (hx : st.loc x = some v) (hl : f.sc.names.lookup x = some .local) {K : KM} {ρ : List Addr} {s : Shared} (R : Rep c.base env oc K ρ st s.heap)
    {Q : Value → Shared → Prop} (hQ : ∀ u, VR K ρ u v → Q u s) : wpAny (model c.prog c.w) A (loadName env x) Q (fun _ _ => False) s := by
  have hk : env.scope.kind = .function := by rw [hE.scope]; exact hE.kind
  have hl' : env.kindOf x = some .local := by unfold Env.kindOf; rw [hE.scope]; exact hl
  obtain ⟨m, hn, hm⟩ := R.ns
  obtain ⟨u, e, r⟩ := hm x _ hl' hx
  exact wpAny_loadName_local hk hl' hn e (hQ u r)
noncomputable def sAug (x : Str) (g : List (List AV) → AV → AV → Option AV) (a : EM) : SM := fun st => match st.loc x with
  | some w => match a st with
    | some (v, s1) => match g s1.H w v with
      | some z => some (.next, s1.put x z)
      | none => none
    | none => none
  | none => none
theorem St.aug {x : Str} {op : Operator} {a : Expr} {p' pos : Pos} {Fa : EM} {g : List (List AV) → AV → AV → Option AV} (ha : Ev c f a Fa) (hl : f.sc.names.lookup x = some .local) (ho : Op2 c (inplaceOp op) g) : St c f (.AugAssign (.Name x p') op a pos) (sAug x g Fa) := by
  intro A env oc hA hE hoc st fl st' hF K ρ s R
  unfold sAug at hF
  split at hF
  · rename_i w hw
    split at hF
    · rename_i v s1 h1
      split at hF
      · rename_i z h2
        cases hF
        refine wpAny_AugAssign_Name (load_rep hE hw hl R fun u r => ?_)
        refine step (ha A env oc hA hE hoc _ _ _ h1 K ρ s R) fun u' K₁ ρ₁ h₁ t₁ k1 p1 R1 r1 => ?_
        refine ho _ _ hA _ _ _ _ h2 K₁ ρ₁ _ R1.g _ _ (r.mono k1 p1) r1 _ fun rr h' tk' kk vr => ?_
        refine store_rep (s := { s with heap := h', toks := tk' }) hE hoc (.inl hl) (R1.grow kk) vr fun h2 tk2 R2 _ => ?_
        exact Pst.mk (K' := K₁) (ρ' := ρ₁) k1 p1 R2 .next
      · cases hF
    · cases hF
  · cases hF
/-! ### «a or b» as a value -/
noncomputable def eOr (g : List (List AV) → AV → Option Bool) (a b : EM) : EM := fun st => match a st with
  | some (v, s1) => match g s1.H v with
    | some true => some (v, s1)
    | some false => b s1
    | none => none
  | none => none
theorem Ev.or {a b : Expr} {pos : Pos} {Fa Fb : EM} {g : List (List AV) → AV → Option Bool} (ha : Ev c f a Fa) (hb : Ev c f b Fb) (ho : TrOp c g) : Ev c f (.BoolOp .Or [a, b] pos) (eOr g Fa Fb) := by
  intro A env oc hA hE hoc st v st' hF K ρ s R
  unfold eOr at hF
  split at hF
  · rename_i v' s1 h1
    refine wpAny_Or2 (step (ha A env oc hA hE hoc _ _ _ h1 K ρ s R) fun u K₁ ρ₁ h₁ t₁ k1 p1 R1 r1 => ?_)
    split at hF
    · rename_i h2
      cases hF
      refine ho _ _ hA _ _ _ h2 K₁ ρ₁ _ R1.g _ r1 _ fun h' tk' kk => ?_
      rw [if_pos rfl]
      exact Pst.mk (K' := K₁) (ρ' := ρ₁) k1 p1 (R1.grow kk) r1
    · rename_i h2
      refine ho _ _ hA _ _ _ h2 K₁ ρ₁ _ R1.g _ r1 _ fun h' tk' kk => ?_
      rw [if_neg (by decide)]
      exact wpAny_mono (hb A env oc hA hE hoc _ _ _ hF K₁ ρ₁ _ (R1.grow kk)) (fun _ _ p => p.up (s := s) k1 p1) fun _ _ e => e
    · cases hF
  · cases hF
/-! ### «a op b op' d» -/
noncomputable def tChain (g g' : List (List AV) → AV → AV → Option Bool) (a b d : EM) : TM := fun st => match a st with
  | some (x, s1) => match b s1 with
    | some (y, s2) => match g s2.H x y with
      | some true => match d s2 with
        | some (z, s3) => match g' s3.H y z with
          | some t => some (t, s3)
          | none => none
        | none => none
      | some false => some (false, s2)
      | none => none
    | none => none
  | none => none
theorem Tt.chain {a b d : Expr} {op op' : CmpOp} {pos : Pos} {Fa Fb Fd : EM} {g g' : List (List AV) → AV → AV → Option Bool} (ha : Ev c f a Fa) (hb : Ev c f b Fb) (hd : Ev c f d Fd)
    (ho : Op2 c (compareOp op) (fun H x y => (g H x y).map AV.bool)) (ho' : Op2 c (compareOp op') (fun H x y => (g' H x y).map AV.bool))
    (hm : lastMarks [op, op'] [b, d] = false := by with_unfolding_all rfl) : Tt c f (.Compare a [op, op'] [b, d] pos) (tChain g g' Fa Fb Fd) := by
  intro A env oc hA hE hoc st v st' hF K ρ s R
  unfold tChain at hF
  split at hF
  · rename_i x s1 h1
    split at hF
    · rename_i y s2 h2
      refine isTrue_chain (step (ha A env oc hA hE hoc _ _ _ h1 K ρ s R) fun u K₁ ρ₁ h₁ t₁ k1 p1 R1 r1 => ?_) hm
      refine test_link (step (hb A env oc hA hE hoc _ _ _ h2 K₁ ρ₁ _ R1) fun u' K₂ ρ₂ h₂ t₂ k2 p2 R2 r2 => ?_)
      split at hF
      · rename_i h3
        split at hF
        · rename_i z s3 h4
          split at hF
          · rename_i t h5
            cases hF
            refine ho _ _ hA _ _ _ _ (by show (g s2.H x y).map AV.bool = some (AV.bool true); rw [h3]; rfl) K₂ ρ₂ _ R2.g _ _ (r1.mono k2 p2) r2 _ fun r h' tk' kk vr => ?_
            cases vr
            refine wpAny_truthy_bool ?_
            rw [if_pos rfl]
            refine test_last (step (s := { s with heap := h', toks := tk' }) (hd A env oc hA hE hoc _ _ _ h4 K₂ ρ₂ _ (R2.grow kk)) fun u'' K₃ ρ₃ h₃ t₃ k3 p3 R3 r3 => ?_)
            refine ho' _ _ hA _ _ _ _ (by show (g' st'.H y z).map AV.bool = some (AV.bool v); rw [h5]; rfl) K₃ ρ₃ _ R3.g _ _ (r2.mono k3 p3) r3 _ fun r h'' tk'' kk' vr => ?_
            cases vr
            exact wpAny_truthy_bool (Pst.mk (K' := K₃) (ρ' := ρ₃) (k1.trans (k2.trans k3)) (p1.trans (p2.trans p3)) (R3.grow kk') rfl)
          · cases hF
        · cases hF
      · rename_i h3
        cases hF
        refine ho _ _ hA _ _ _ _ (by show (g st'.H x y).map AV.bool = some (AV.bool false); rw [h3]; rfl) K₂ ρ₂ _ R2.g _ _ (r1.mono k2 p2) r2 _ fun r h' tk' kk vr => ?_
        cases vr
        refine wpAny_truthy_bool ?_
        rw [if_neg (by decide)]
        exact Pst.mk (K' := K₂) (ρ' := ρ₂) (k1.trans k2) (p1.trans p2) (R2.grow kk) rfl
      · cases hF
    · cases hF
  · cases hF
/-! ### a table of the module: «d.get(i, text)» -/
noncomputable def isDict (d : Addr) : AV → Bool
  | .raw (.ref a) => a == d
  | _ => false
theorem MGet.dict {d : Addr} {D : List (PyData × PyData)} (hT : IntTab c.prog c.w c.base d D) : MGet c (Str.ofString "get") (isDict d) "dict.get" := by
  intro x hx A K ρ H s G u r pl Q h
  cases r with
  | raw =>
    cases u with
    | ref a =>
      have : a = d := eq_of_beq hx
      subst this
      exact getMethod_intTab_get (hT.keep fun b o e => G.keep _ _ (G.base _ _ e)) h
    | _ => cases hx
  | none => cases hx
  | bool => cases hx
  | int => cases hx
  | str => cases hx
  | tuple => cases hx
  | lst => cases hx
  | rng => cases hx
noncomputable def gGet (d : Addr) (D : List (PyData × PyData)) : GF := fun args H => match args with
  | [.raw (.ref a), .int i, .str y] => if a = d then match Spec.lookup (.int i) D with
      | some (.str x) => some (.str x, H)
      | none => some (.str y, H)
      | _ => none
    else none
  | _ => none
theorem flat_str {v : Value} {x : Str} (h : PyProof.V.Flat v (.str x)) : ∃ t, v = .str x t := by
  have := h default
  cases this
  exact ⟨_, rfl⟩
theorem gop_get {d : Addr} {D : List (PyData × PyData)} (hT : IntTab c.prog c.w c.base d D) : Gop c (fun us => call (.builtin "dict.get") us) (gGet d D) := by
  intro k A hA args H v H' hg K ρ s G us r Q hQ
  have T' := hT.keep fun b o e => G.keep _ _ (G.base _ _ e)
  unfold gGet at hg
  split at hg
  · rename_i a i y
    split at hg
    · rename_i ha
      subst ha
      cases r using VRs.consE with
      | cons r1 r2 =>
        cases r2 using VRs.consE with
        | cons r2 r3 =>
          cases r3 using VRs.consE with
          | cons r3 r4 =>
            cases r4 using VRs.nilE
            cases r1 with
            | raw =>
              cases r2 using VR.intE with
              | int _ t =>
                cases r3 using VR.strE with
                | str _ t' =>
                  refine call_get2_intTab T' (PyProof.V.Flat.str y t') fun w hw => ?_
                  split at hg
                  · rename_i x hx
                    cases hg
                    rw [hx] at hw
                    obtain ⟨t2, rfl⟩ := flat_str hw
                    exact hQ _ K ρ s.heap _ (KLe.refl K) (PLe.refl ρ) G (.str _ _) (Stay.refl fun _ _ e => e)
                  · rename_i hx
                    cases hg
                    rw [hx] at hw
                    obtain ⟨t2, rfl⟩ := flat_str hw
                    exact hQ _ K ρ s.heap _ (KLe.refl K) (PLe.refl ρ) G (.str _ _) (Stay.refl fun _ _ e => e)
                  · cases hg
    · cases hg
  · cases hg
end
end Mine
end
/-! ## part FW16 -/
section
open PySem PySem.W PyProof.Rows PySem.Calls
set_option bootstrap.genMatcherCode false
namespace Mine
noncomputable def nthS : List Stmt → Nat → Stmt
  | a :: _, 0 => a
  | _ :: r, n + 1 => nthS r n
  | [], _ => .Pass ⟨0, 0, 0, 0⟩
noncomputable def bodyOf : Stmt → List Stmt
  | .FunctionDef _ _ b _ _ _ _ _ _ _ => b
  | _ => []
noncomputable def parsOf : Stmt → Arguments
  | .FunctionDef _ a _ _ _ _ _ _ _ _ => a
  | _ => ⟨[], [], none, [], [], none, []⟩
noncomputable def scopOf : Stmt → Scope
  | .FunctionDef _ _ _ _ _ _ s _ _ _ => s
  | _ => { kind := .function, names := [], isGenerator := false, isCoroutine := false, more := [] }
noncomputable def posOf : Stmt → Pos
  | .FunctionDef _ _ _ _ _ _ _ _ _ p => p
  | _ => ⟨0, 0, 0, 0⟩
noncomputable def top (k : Nat) : Stmt := nthS PySem.Challenge.pw_un0011_01.main.body k
/-- the function «x», the k-th statement of the text, lies at fa -/
noncomputable def Fd (c : Cx) (k : Nat) (x : Str) (fa : Addr) : Prop :=
  c.mg x = some (.ref fa) ∧ ∃ o pm cd doc, c.base.get? fa = some o ∧ o.data = .func (docDef x (parsOf (top k)) (bodyOf (top k)) (scopOf (top k)) pm cd doc) ∧ c.base.CodeRec cd x
structure Nm (c : Cx) : Prop where
  len : c.mg (Str.ofString "len") = none
  range : c.mg (Str.ofString "range") = none
  sum : c.mg (Str.ofString "sum") = none
  max : c.mg (Str.ofString "max") = none
  hex : c.mg (Str.ofString "hex") = none
  enumerate : c.mg (Str.ofString "enumerate") = none
  iter : c.mg (Str.ofString "iter") = none
  next : c.mg (Str.ofString "next") = none
  stop : c.mg (Str.ofString "StopIteration") = none
section
variable {c : Cx} {f : Fx}
theorem Ev.callD {x : Str} {np pos : Pos} {e : Expr} {rest : List Expr} {Fa : EsM} {fa : Addr} {j : Nat} {g : GF} (hc : c.Ok) (hf : Fd c j x fa) (hx : f.sc.names.lookup x = some .globalImplicit)
    (ha : Es c f (e :: rest) Fa) (hg : Fn c f.k fa g)
    (hdb : (x == ("__debug__" : Str)) = false := by decide) (hplain : ∀ env, (backTo pos (starEach (e :: rest) env)).any (·.1) = false := by intro _; rfl) (he : ∀ env, starEach (e :: rest) env = (false, eval e env) :: starEach rest env := by intro _; rfl) :
    Ev c f (.Call (.Name x np) (e :: rest) [] pos) (eCall g Fa) := by
  obtain ⟨h1, o, pm, cd, doc, h2, h3, h4⟩ := hf
  exact Ev.callF hc hx h1 h2 h3 ha hg hdb hplain he
theorem itOf_ok {t : Expr} (h : isName t = true ∨ isTup t = true) : ∀ v it, itOf v = some it → okT t it := by
  intro v it e
  unfold itOf at e
  split at e
  · cases e; exact h
  · split at e
    · cases e; exact h
    · cases e
  · cases e; exact h
  · cases e
theorem ok_of {t : Expr} {F : EM} (h : isName t = true ∨ isTup t = true) : ∀ st it st', iOf F st = some (it, st') → okT t it := by
  intro st it st' e
  unfold iOf at e
  cases h1 : F st with
  | none => rw [h1] at e; cases e
  | some r =>
    obtain ⟨v, s1⟩ := r
    rw [h1] at e
    dsimp only at e
    cases h2 : itOf v with
    | none => rw [h2] at e; cases e
    | some it' => rw [h2] at e; cases e; exact itOf_ok h v _ h2
theorem ok_en {t : Expr} {F : EM} (h : isTup t = true) : ∀ st it st', iEnum F st = some (it, st') → okT t it := by
  intro st it st' e
  unfold iEnum at e
  split at e
  · cases e; exact h
  · cases e; exact h
  · cases e
structure Bd (c : Cx) (j : Nat) (own : List Str) (k : Nat) (B : SM) : Prop where
  ok : Ss c ⟨scopOf (top j), own, k + 1, k == 0⟩ (bodyOf (top j)) B
theorem Fd.fn {k j : Nat} {x : Str} {fa : Addr} {names own : List Str} {B : SM} (hc : c.Ok) (h : Fd c j x fa) (hbody : Bd c j own k B) (hk : k + 1 ≤ 50)
    (hbind : ∀ pm cd doc, ∀ us : List Value, us.length = names.length → bindArgs (docDef x (parsOf (top j)) (bodyOf (top j)) (scopOf (top j)) pm cd doc) ⟨us, []⟩ = pure (names.zip us))
    (hsc : (scopOf (top j)).kind = .function) (hco : (scopOf (top j)).isCoroutine = false) (hgen : (scopOf (top j)).isGenerator = false)
    (hown : (cellsFrom 0 (scopOf (top j)).names []).map (·.1) = own) (hnd : own.Nodup) (hcell : ∀ x ∈ own, (scopOf (top j)).names.lookup x = some .cell)
    (hpar : ∀ x ∈ names, (scopOf (top j)).names.lookup x = some .local ∨ ((scopOf (top j)).names.lookup x = some .cell ∧ x ∈ own)) : Fn c k fa (gFn names B) := by
  obtain ⟨h1, o, pm, cd, doc, h2, h3, h4⟩ := h
  exact Fn.intro hc h2 h3 h4 hbody.ok hk (hbind pm cd doc) hsc hco hgen hown hnd hcell hpar
end
section
variable {c : Cx} {f : Fx}
theorem St.assignC {x : Str} {a : Expr} {p' pos : Pos} {Fa : EM} (ha : Ev c f a Fa) (hx : f.sc.names.lookup x = some .local ∨ (f.sc.names.lookup x = some .cell ∧ x ∈ f.own))
    (hs : ∀ {A : Around} env, EnvIs A f.t f.sc env → swapsWith a (some (.Name x p')) pos.line env = pure false) : St c f (.Assign [.Name x p'] a pos) (sAssign x Fa) := by
  intro A env oc hA hE hoc st v st' hF K ρ s R
  unfold sAssign at hF
  split at hF
  · rename_i v' s1 h1
    cases hF
    refine wpAny_Assign_Name (step (ha A env oc hA hE hoc _ _ _ h1 K ρ s R) fun u K₁ ρ₁ h₁ t₁ k1 p1 R1 r1 => ?_) (hs env hE)
    refine store_rep hE hoc hx R1 r1 fun h' tk' R2 _ => ?_
    exact Pst.mk (K' := K₁) (ρ' := ρ₁) k1 p1 R2 .next
  · cases hF
theorem blockKind_of {A : Around} {t : Bool} {sc : Scope} {env : Env} (hE : EnvIs A t sc env) : env.blockKind = .function := by
  have h : env.scope.kind = .function := by rw [hE.scope]; exact hE.kind
  unfold Env.blockKind
  simp only [h, ScopeKind.isAnnotationScope, Bool.false_and, Bool.false_eq_true, if_false]
theorem swaps_no {A : Around} {t : Bool} {sc : Scope} {env : Env} {elt : Expr} {gs : List Comprehension} {scope : Scope} {p p' : Pos} {x : Str} {l : Nat} (hE : EnvIs A t sc env) (hl : (sc.names.lookup x == some .local) = false) : swapsWith (.ListComp elt gs scope p) (some (.Name x p')) l env = pure false := by
  show pure (env.blockKind == .function && env.kindOf x == some .local && p'.line == p.line && !(scope.names.any fun (n, k) => n == x && (k == .local || k == .cell))) = pure false
  rw [show env.kindOf x = sc.names.lookup x from by unfold Env.kindOf; rw [hE.scope], hl]
  simp
theorem swaps_yes {A : Around} {t : Bool} {sc : Scope} {env : Env} {elt : Expr} {gs : List Comprehension} {scope : Scope} {p p' : Pos} {x : Str} {l : Nat} (hE : EnvIs A t sc env) (hl : (sc.names.lookup x == some .local) = true) (hp : (p'.line == p.line) = true)
    (hn : (!(scope.names.any fun (n, k) => n == x && (k == .local || k == .cell))) = true) : swapsWith (.ListComp elt gs scope p) (some (.Name x p')) l env = pure true := by
  show pure (env.blockKind == .function && env.kindOf x == some .local && p'.line == p.line && !(scope.names.any fun (n, k) => n == x && (k == .local || k == .cell))) = pure true
  rw [show env.kindOf x = sc.names.lookup x from by unfold Env.kindOf; rw [hE.scope], hl, hp, hn, blockKind_of hE]
  rfl
noncomputable def compOkP (sc scope : Scope) (own fv : List Str) : Bool :=
  decide (scope.kind = .function) && decide (∀ x ∈ scope.names, x.2 = .local → scope.names.lookup x.1 = some .local) && decide (∀ p ∈ scope.names, p.2 = .free → p.1 ∈ fv) &&
  decide (∀ x ∈ fv, (x, NameKind.free) ∈ scope.names ∧ scope.names.lookup x = some .free ∧ sc.names.lookup x ≠ some .local) && decide ((cellsFrom 0 scope.names []).map (·.1) = own) && decide own.Nodup && decide (∀ x ∈ own, scope.names.lookup x = some .cell)
theorem CompOk.ofB {scope : Scope} {own fv : List Str} (h : compOkP f.sc scope own fv = true) : CompOk f scope own fv := by
  unfold compOkP at h
  simp only [Bool.and_eq_true, decide_eq_true_eq] at h
  obtain ⟨⟨⟨⟨⟨⟨h1, h2⟩, h3⟩, h4⟩, h5⟩, h6⟩, h7⟩ := h
  exact ⟨h1, h2, h3, h4, h5, h6, h7⟩
theorem bind_1 {n0 : Str} {F : List Value → Sem (List (Str × Value))} {us : List Value} (h : us.length = [n0].length) (hb : ∀ u, F [u] = pure ([n0].zip [u])) : F us = pure ([n0].zip us) := by
  cases us with
  | nil => cases h
  | cons u us => cases us with
    | nil => exact hb u
    | cons => simp at h
theorem bind_2 {n0 n1 : Str} {F : List Value → Sem (List (Str × Value))} {us : List Value} (h : us.length = [n0, n1].length) (hb : ∀ u v, F [u, v] = pure ([n0, n1].zip [u, v])) : F us = pure ([n0, n1].zip us) := by
  cases us with
  | nil => cases h
  | cons u us => cases us with
    | nil => simp at h
    | cons v us => cases us with
      | nil => exact hb u v
      | cons => simp at h
theorem bind_3 {n0 n1 n2 : Str} {F : List Value → Sem (List (Str × Value))} {us : List Value} (h : us.length = [n0, n1, n2].length) (hb : ∀ u v w, F [u, v, w] = pure ([n0, n1, n2].zip [u, v, w])) : F us = pure ([n0, n1, n2].zip us) := by
  cases us with
  | nil => cases h
  | cons u us => cases us with
    | nil => simp at h
    | cons v us => cases us with
      | nil => simp at h
      | cons w us => cases us with
        | nil => exact hb u v w
        | cons => simp at h
end
noncomputable def fAdd (a b : Int) : Option Int := some (a + b)
noncomputable def fSub (a b : Int) : Option Int := some (a - b)
noncomputable def fAnd (a b : Int) : Option Int := some (Builtin.bitAnd a b)
noncomputable def fXor (a b : Int) : Option Int := some (Builtin.bitXor a b)
noncomputable def vTable : AV := .tuple [
  .tuple [.tuple [.int 40960, .str ⟨#[108]⟩], .tuple [.int 49152, .str ⟨#[115]⟩], .tuple [.int 32768, .str ⟨#[45]⟩], .tuple [.int 24576, .str ⟨#[98]⟩], .tuple [.int 16384, .str ⟨#[100]⟩], .tuple [.int 8192, .str ⟨#[99]⟩], .tuple [.int 4096, .str ⟨#[112]⟩]],
  .tuple [.tuple [.int 256, .str ⟨#[114]⟩]], .tuple [.tuple [.int 128, .str ⟨#[119]⟩]], .tuple [.tuple [.int 2112, .str ⟨#[115]⟩], .tuple [.int 2048, .str ⟨#[83]⟩], .tuple [.int 64, .str ⟨#[120]⟩]],
  .tuple [.tuple [.int 32, .str ⟨#[114]⟩]], .tuple [.tuple [.int 16, .str ⟨#[119]⟩]], .tuple [.tuple [.int 1032, .str ⟨#[115]⟩], .tuple [.int 1024, .str ⟨#[83]⟩], .tuple [.int 8, .str ⟨#[120]⟩]],
  .tuple [.tuple [.int 4, .str ⟨#[114]⟩]], .tuple [.tuple [.int 2, .str ⟨#[119]⟩]], .tuple [.tuple [.int 513, .str ⟨#[116]⟩], .tuple [.int 512, .str ⟨#[84]⟩], .tuple [.int 1, .str ⟨#[120]⟩]]]
noncomputable def Dflags : List (PyData × PyData) := [(.int 1, .str "OPTIMIZED"), (.int 2, .str "NEWLOCALS"), (.int 4, .str "VARARGS"), (.int 8, .str "VARKEYWORDS"), (.int 16, .str "NESTED"), (.int 32, .str "GENERATOR"), (.int 64, .str "NOFREE"), (.int 128, .str "COROUTINE"), (.int 256, .str "ITERABLE_COROUTINE"), (.int 512, .str "ASYNC_GENERATOR")]
end Mine
end
/-! ## part FR1 -/
section
open PySem PySem.W PyProof.Rows PySem.Calls
set_option bootstrap.genMatcherCode false
namespace Mine
/-! ### «iter» and «next» upon a list -/
section
variable {prog : Program} {w : World} {A : Around} {E : Value → Shared → Prop} {s : Shared}
theorem iter_list {l : Addr} {items : Array Value} {Q : Value → Shared → Prop} (hl : s.heap.IsList l items)
    (hQ : Q (.ref s.heap.objs.size) { s with heap := s.heap.push { cls := .type "list_iterator", data := .fields #[.ref l, .int 0 0] } }) :
    wpAny (model prog w) A (call (.builtin "iter") [.ref l]) Q E s := by
  refine call_function_entry (by decide +kernel) (by decide +kernel) entry_iter (args_iter _) ?_
  unfold Builtin.«iter»
  refine wpAny_bind (m := someArgs "iter" 1 2 _) (wpAny_of_eq (a := [Value.ref l]) (by first | rfl | kernel_rfl!) ?_)
  show wpAny _ _ (pyIter (.ref l) >>= _) _ _ _
  exact wpAny_bind (wpAny_pyIter_list hl (wpAny_pure ⟨_, rfl, hQ⟩))
theorem next_item {it l : Addr} {i : Nat} {items : Array Value} {x : Value} {Q : Value → Shared → Prop} (hit : s.heap.IsListIter it l i)
    (hl : s.heap.IsList l items) (hx : items[i]? = some x)
    (hQ : ∀ h', h'.IsListIter it l (i + 1) → Heap.SameBut it s.heap h' → Q x { s with heap := h' }) :
    wpAny (model prog w) A (call (.builtin "next") [.ref it]) Q E s := by
  refine call_function_entry (by decide +kernel) (by decide +kernel) entry_next (args_next _) ?_
  obtain ⟨o, ho, hc, hd⟩ := id hit
  obtain ⟨ol, hol, _, nl, hdl⟩ := hl
  unfold Builtin.«next»
  refine wpAny_bind (m := someArgs "next" 1 2 _) (wpAny_of_eq (a := [Value.ref it]) (by first | rfl | kernel_rfl!) ?_)
  dsimp only
  refine wpAny_bind (wpAny_specialOf (name := Str.ofString "__next__") hit.typeIs slot_listiter_next.lookup ?_)
  refine wpAny_ite_split (fun hab => absurd hab (by decide)) (fun _ => ?_)
  refine wpAny_bind (wpAny_callSpecial?_slot (name := Str.ofString "__next__") hit.typeIs slot_listiter_next
    (wpAny_call_entry slot_listiter_next hit.typeIs entry_listiter_next ?_ (args_listiter_next _)))
  show wpAny _ _ (field (.ref it) 0 >>= _) _ _ s
  refine wpAny_bind (wpAny_field ho hd (x := .ref l) rfl ?_)
  show wpAny _ _ (if (Value.ref l == Value.none) = true then _ else _) _ _ s
  rw [if_neg (show ¬ ((Value.ref l == Value.none) = true) from Bool.false_ne_true)]
  show wpAny _ _ (field (.ref it) 1 >>= _) _ _ s
  refine wpAny_bind (wpAny_field ho hd (x := .int i 0) rfl ?_)
  show wpAny _ _ (seqItems? (.ref l) >>= _) _ _ s
  refine wpAny_bind (wpAny_seqItems hol hdl ?_)
  simp only [Int.toNat_natCast, hx]
  refine wpAny_bind (wpAny_setField ho hd (by simp) (wpAny_pure ⟨x, rfl, wpAny_pure ⟨_, rfl, hQ _ ?_ (Heap.SameBut.update ..)⟩⟩))
  exact ⟨_, Heap.get?_update_self _ ho (Obj.isFreed_of_fields (Obj.data_mapFields hd _)), (Obj.cls_mapFields ..).trans hc, by
    rw [Obj.data_mapFields hd]; simp [rawInt]⟩
theorem next_end {it l : Addr} {i : Nat} {items : Array Value} {Q : Value → Shared → Prop} (hh : A.handled = none) (hit : s.heap.IsListIter it l i)
    (hl : s.heap.IsList l items) (hx : items[i]? = none)
    (hE : ∀ h' e, Heap.ExtBut it s.heap h' → s.heap.get? e = none → (∃ t, h'.get? e = some { cls := .type "StopIteration", data := .fields #[t, .none, .none, .none, .bool false, .none] }) → E (.ref e) { s with heap := h' }) :
    wpAny (model prog w) A (call (.builtin "next") [.ref it]) Q E s := by
  refine call_function_entry (by decide +kernel) (by decide +kernel) entry_next (args_next _) ?_
  obtain ⟨o, ho, hc, hd⟩ := id hit
  obtain ⟨ol, hol, _, nl, hdl⟩ := hl
  unfold Builtin.«next»
  refine wpAny_bind (m := someArgs "next" 1 2 _) (wpAny_of_eq (a := [Value.ref it]) (by first | rfl | kernel_rfl!) ?_)
  dsimp only
  refine wpAny_bind (wpAny_specialOf (name := Str.ofString "__next__") hit.typeIs slot_listiter_next.lookup ?_)
  refine wpAny_ite_split (fun hab => absurd hab (by decide)) (fun _ => ?_)
  refine wpAny_bind (wpAny_callSpecial?_slot (name := Str.ofString "__next__") hit.typeIs slot_listiter_next
    (wpAny_call_entry slot_listiter_next hit.typeIs entry_listiter_next ?_ (args_listiter_next _)))
  show wpAny _ _ (field (.ref it) 0 >>= _) _ _ s
  refine wpAny_bind (wpAny_field ho hd (x := .ref l) rfl ?_)
  show wpAny _ _ (if (Value.ref l == Value.none) = true then _ else _) _ _ s
  rw [if_neg (show ¬ ((Value.ref l == Value.none) = true) from Bool.false_ne_true)]
  show wpAny _ _ (field (.ref it) 1 >>= _) _ _ s
  refine wpAny_bind (wpAny_field ho hd (x := .int i 0) rfl ?_)
  show wpAny _ _ (seqItems? (.ref l) >>= _) _ _ s
  refine wpAny_bind (wpAny_seqItems hol hdl ?_)
  simp only [Int.toNat_natCast, hx]
  refine wpAny_bind (wpAny_rule (wpAny_bind (wpAny_setField ho hd (by simp) ?_)))
  show wpAny _ _ (newExc (.type "StopIteration") [] >>= _) _ _ _
  refine wpAny_bind ?_
  simp only [newExc, newTuple]
  refine wpAny_bind (wpAny_newObj_type ?_ (by size_fits))
  refine wpAny_bind (m := firstArgMember _ _) (wpAny_of_eq (a := Value.none) (by first | rfl | (simp only [firstArgMember]; rfl)) ?_)
  refine wpAny_newObj_type ?_ (by size_fits)
  simp only [raiseNew]
  refine wpAny_bind (wpAny_handled ?_)
  first | rw [show A.in1.in1.handled = none from hh] | rw [show A.in1.handled = none from hh] | rw [hh]
  refine wpAny_bind (wpAny_pure (wpAny_throw ?_))
  refine hE _ _ (((Heap.SameBut.update ..).extBut.push _).push _) (get_none_of ?_) ⟨_, Heap.get?_push_size _ rfl⟩
  rw [Heap.size_push]
  have : (s.heap.update it (Obj.mapFields fun x => x.setIfInBounds 1 Value.none)).objs.size = s.heap.objs.size := Heap.size_after_update ..
  first | exact Nat.le_of_lt (by rw [Heap.size_after_update]; exact Nat.lt_succ_self _) | (simp [Heap.size_after_update])
end
end Mine
end
/-! ## part FR2 -/
section
open PySem PySem.W PyProof.Rows PySem.Calls
set_option bootstrap.genMatcherCode false
namespace Mine
section
variable {c : Cx}
/-- a call of a function without cells, whatever its body does -/
theorem enter {k j : Nat} {x : Str} {fa : Addr} {names : List Str} (hc : c.Ok) (h : Fd c j x fa) (hk : k + 1 ≤ 50)
    (hbind : ∀ pm cd doc, ∀ us : List Value, us.length = names.length → bindArgs (docDef x (parsOf (top j)) (bodyOf (top j)) (scopOf (top j)) pm cd doc) ⟨us, []⟩ = pure (names.zip us))
    (hsc : (scopOf (top j)).kind = .function) (hco : (scopOf (top j)).isCoroutine = false) (hgen : (scopOf (top j)).isGenerator = false)
    (hown : cellsFrom 0 (scopOf (top j)).names [] = []) (hpar : ∀ x ∈ names, (scopOf (top j)).names.lookup x = some .local)
    {A : Around} (hA : AOk k A) {K : KM} {ρ : List Addr} {H : List (List AV)} {s : Shared} (G : GRep c.base K ρ H s.heap) {us : List Value} {args : List AV} (r : VRs K ρ us args) (hlen : args.length = names.length)
    {Q E : Value → Shared → Prop}
    (hb : ∀ env h₁ tk, EnvIs (A.deeper env) (k == 0) (scopOf (top j)) env → env.frame = some env.locals → env.locals = s.heap.objs.size → (∀ b o, s.heap.get? b = some o → h₁.get? b = some o) →
      Rep c.base env [] K ρ ⟨locAfter (names.zip args) (fun _ => none), H⟩ h₁ →
      wpAny (model c.prog c.w) (A.deeper env) (execs (bodyOf (top j)) env) (fun u s' => Q (match u with | .ret v => v | _ => .none) s')
        (fun e s' => wpAny (model c.prog c.w) (A.deeper env) (leaving env e) (fun _ s'' => E e s'') (fun e' s'' => E e' s'') s') { s with heap := h₁, toks := tk }) :
    wpAny (model c.prog c.w) A (call (.ref fa) us) Q E s := by
  obtain ⟨_, o, pm, cd, doc, ho, hd, hcd⟩ := h
  have hul : us.length = names.length := r.length.trans hlen
  have hn : ∀ n, cellsFrom n (scopOf (top j)).names [] = [] := fun n => by
    have := cellsFrom_names (scopOf (top j)).names n 0 [] [] rfl
    rw [hown] at this
    exact List.map_eq_nil_iff.mp this
  refine wpAny_call (codeAny_call_cells (fd := docDef x (parsOf (top j)) (bodyOf (top j)) (scopOf (top j)) pm cd doc) hA.room (G.keep _ _ (G.base _ _ ho)) hd (hc.nolimit.keeps fun b o e => G.keep _ _ (G.base _ _ e)) ?_ rfl (hbind pm cd doc us hul) rfl ?_ (fun s₁ X => ?_) hco hgen hsc)
  · obtain ⟨a1, a2, a3, a4, a5, a6, a7⟩ := hcd
    exact ⟨a1, a2, a3, a4, a5, G.keep _ _ (G.base _ _ a6), a7⟩
  · intro x hx
    have hx' : x.1 ∈ names := zip_names names us x.1 (List.mem_map.mpr ⟨x, hx, rfl⟩)
    exact .inl (hpar _ hx')
  · obtain ⟨h₁, tk, rfl, hkeep⟩ := X.done
    have hloc : (callEnvC (docDef x (parsOf (top j)) (bodyOf (top j)) (scopOf (top j)) pm cd doc) s.heap.objs.size fa).locals = s.heap.objs.size := rfl
    have hkd : (callEnvC (docDef x (parsOf (top j)) (bodyOf (top j)) (scopOf (top j)) pm cd doc) s.heap.objs.size fa).kindOf = fun y => (scopOf (top j)).names.lookup y := rfl
    have hfr : (callEnvC (docDef x (parsOf (top j)) (bodyOf (top j)) (scopOf (top j)) pm cd doc) s.heap.objs.size fa).frame = some (callEnvC (docDef x (parsOf (top j)) (bodyOf (top j)) (scopOf (top j)) pm cd doc) s.heap.objs.size fa).locals := rfl
    generalize hEnv : callEnvC (docDef x (parsOf (top j)) (bodyOf (top j)) (scopOf (top j)) pm cd doc) s.heap.objs.size fa = env at *
    have hE : EnvIs (A.deeper env) (k == 0) (scopOf (top j)) env := by
      refine ⟨by rw [← hEnv]; rfl, hsc, by rw [← hEnv]; rfl, by rw [← hEnv]; rfl, fun e => ?_⟩
      have h0 : k = 0 := beq_iff_eq.mp e
      exact ⟨Around.frames_deeper (hA.fr0 h0), hfr⟩
    have R : Rep c.base env [] K ρ ⟨locAfter (names.zip args) (fun _ => none), H⟩ h₁ := by
      refine ⟨G.grow hkeep, ⟨_, X.toInCall.ns, ?_⟩, ?_, ?_, ?_, ?_⟩
      · exact bind_rel names us args r _ _ (fun _ _ _ e => by cases e)
      · intro y w hy hw
        have hm : y ∈ names := by
          rcases locAfter_mem _ _ _ _ hw with q | q
          · exact zip_names _ _ _ q
          · cases q
        rw [hkd] at hy
        exact absurd (hpar y hm) hy
      · intro p hp; cases hp
      · exact List.pairwise_cons.mpr ⟨fun b hb => absurd hb List.not_mem_nil, List.Pairwise.nil⟩
      · intro b hb
        rcases List.mem_cons.mp hb with rfl | hb
        · rw [hloc]; exact G.fresh_of (get_none_of (Nat.le_refl _))
        · cases hb
    refine wpAny_mono (hb env h₁ tk hE hfr hloc hkeep R) (fun u s' q => ?_) fun _ _ z => ?_
    · exact q
    · exact z
end
/-! ### a state with an iterator upon the list l that stands at i -/
structure TR (base : Heap) (env : Env) (oc : List (Str × Addr)) (K : KM) (ρ : List Addr) (st : AS) (h : Heap) (I l i : Nat) : Prop where
  rep : Rep base env oc K ρ st h
  it : ItRep K ρ h (.lst l i) I [I]
  off : I ∉ ρ ∧ K I = none ∧ I ∉ frm env oc
section
variable {base : Heap} {env : Env} {oc : List (Str × Addr)} {K : KM} {ρ : List Addr} {st st' : AS} {h h₁ : Heap} {I l i : Nat}
theorem TR.lock (T : TR base env oc K ρ st h I l i) : Rep base env oc (K.lock h [I]) ρ st h := T.rep.lock fun b hb => by
  have hb := List.mem_singleton.mp hb
  subst hb
  exact ⟨T.off.1, T.off.2.2⟩
theorem TR.le (T : TR base env oc K ρ st h I l i) : KLe K (K.lock h [I]) := KLe.lock T.rep.g.keep
theorem TR.back (T : TR base env oc K ρ st h I l i) {K₁ : KM} {ρ₁ : List Addr} (k1 : KLe (K.lock h [I]) K₁) (p1 : PLe ρ ρ₁) (R1 : Rep base env oc K₁ ρ₁ st' h₁) :
    ∃ K₂, KLe K K₂ ∧ TR base env oc K₂ ρ₁ st' h₁ I l i ∧ (∀ u v, VR K₁ ρ₁ u v → VR K₂ ρ₁ u v) := by
  have U := unlock (D := [I]) T.rep.g.base T.rep.g.keep (fun b hb => by have hb := List.mem_singleton.mp hb; subst hb; exact T.off.2.1) T.it.notval k1 R1
  exact ⟨_, U.le, ⟨U.rep, T.it.move U.le p1 U.same, U.off I List.mem_cons_self⟩, U.vr⟩
end
section
variable {c : Cx} {f : Fx}
noncomputable def TPst (base : Heap) (env : Env) (oc : List (Str × Addr)) (K : KM) (ρ : List Addr) (s : Shared) (st' : AS) (I l i' : Nat) (R : KM → List Addr → Prop) (s' : Shared) : Prop :=
  ∃ K' ρ' h' tk', s' = { s with heap := h', toks := tk' } ∧ KLe K K' ∧ PLe ρ ρ' ∧ TR base env oc K' ρ' st' h' I l i' ∧ R K' ρ'
theorem TPst.mk {base : Heap} {env : Env} {oc : List (Str × Addr)} {K K' : KM} {ρ ρ' : List Addr} {s : Shared} {st' : AS} {I l i' : Nat} {R : KM → List Addr → Prop} {h' : Heap} {tk' : Nat} (a : KLe K K') (b : PLe ρ ρ') (d : TR base env oc K' ρ' st' h' I l i') (e : R K' ρ') : TPst base env oc K ρ s st' I l i' R { s with heap := h', toks := tk' } := ⟨K', ρ', h', tk', rfl, a, b, d, e⟩
theorem FR.vr {K K' : KM} {ρ : List Addr} {u : Flow} {v : Fl} (h : FR K ρ u v) (k : ∀ u v, VR K ρ u v → VR K' ρ u v) : FR K' ρ u v := by
  cases h with
  | next => exact .next
  | brk => exact .brk
  | cont => exact .cont
  | ret r => exact .ret (k _ _ r)
abbrev SI := AS × Nat → Option (Fl × AS × Nat)
/-- a statement that may move the iterator -/
noncomputable def StI (c : Cx) (f : Fx) (l : Nat) (e : Stmt) (F : SI) : Prop :=
  ∀ A env oc, AOk f.k A → EnvIs A f.t f.sc env → oc.map (·.1) = f.own → ∀ st i fl st' i', F (st, i) = some (fl, st', i') → ∀ I, st.loc (Str.ofString "iterator") = some (.raw (.ref I)) → ∀ K ρ s, TR c.base env oc K ρ st s.heap I l i →
    wpAny (model c.prog c.w) A (exec e env) (fun u s' => st'.loc (Str.ofString "iterator") = some (.raw (.ref I)) ∧ TPst c.base env oc K ρ s st' I l i' (fun K' ρ' => FR K' ρ' u fl) s') (fun _ _ => False) s
noncomputable def SsI (c : Cx) (f : Fx) (l : Nat) (es : List Stmt) (F : SI) : Prop :=
  ∀ A env oc, AOk f.k A → EnvIs A f.t f.sc env → oc.map (·.1) = f.own → ∀ st i fl st' i', F (st, i) = some (fl, st', i') → ∀ I, st.loc (Str.ofString "iterator") = some (.raw (.ref I)) → ∀ K ρ s, TR c.base env oc K ρ st s.heap I l i →
    wpAny (model c.prog c.w) A (execs es env) (fun u s' => st'.loc (Str.ofString "iterator") = some (.raw (.ref I)) ∧ TPst c.base env oc K ρ s st' I l i' (fun K' ρ' => FR K' ρ' u fl) s') (fun _ _ => False) s
noncomputable def iLift (F : SM) : SI := fun p => match F p.1 with
  | some (fl, st') => some (fl, st', p.2)
  | none => none
noncomputable def iNext (x : Str) (l : Nat) : SI := fun p => match p.1.H[l]? with
  | some xs => match xs[p.2]? with
    | some v => some (.next, p.1.put x v, p.2 + 1)
    | none => none
  | none => none
noncomputable def iSeq (a b : SI) : SI := fun p => match a p with
  | some (.next, s1) => b s1
  | r => r
noncomputable def iWhile (t : TM) (b : SI) : Nat → SI
  | 0 => fun _ => none
  | n + 1 => fun p => match t p.1 with
    | some (false, s1) => some (.next, s1, p.2)
    | some (true, s1) => match b (s1, p.2) with
      | some (.next, s2) => iWhile t b n s2
      | _ => none
    | none => none
/-- F leaves the name of the iterator alone -/
noncomputable def KeepsI (F : SM) : Prop := ∀ st fl st', F st = some (fl, st') → st'.loc (Str.ofString "iterator") = st.loc (Str.ofString "iterator")
theorem StI.of {l : Nat} {e : Stmt} {F : SM} (h : St c f e F) (hk : KeepsI F) : StI c f l e (iLift F) := by
  intro A env oc hA hE hoc st i fl st' i' hF I hI K ρ s T
  unfold iLift at hF
  cases h1 : F st with
  | none => rw [show F (st, i).1 = none from h1] at hF; cases hF
  | some r =>
    obtain ⟨fl', s1⟩ := r
    rw [show F (st, i).1 = some (fl', s1) from h1] at hF
    cases hF
    refine step (h A env oc hA hE hoc _ _ _ h1 _ ρ s T.lock) fun u K₁ ρ₁ h₁ t₁ k1 p1 R1 r1 => ?_
    obtain ⟨K₂, k2, T2, vr⟩ := T.back k1 p1 R1
    exact ⟨(hk _ _ _ h1).trans hI, TPst.mk (K' := K₂) (ρ' := ρ₁) k2 p1 T2 (r1.vr vr)⟩
theorem SsI.cons {l : Nat} {a : Stmt} {rest : List Stmt} {Fa Fr : SI} (ha : StI c f l a Fa) (hr : SsI c f l rest Fr) : SsI c f l (a :: rest) (iSeq Fa Fr) := by
  intro A env oc hA hE hoc st i fl st' i' hF I hI K ρ s T
  unfold iSeq at hF
  split at hF
  · rename_i s1 h1
    obtain ⟨s1, i1⟩ := s1
    refine wpAny_execs_cons (wpAny_mono (ha A env oc hA hE hoc _ _ _ _ _ h1 I hI K ρ s T) (fun u s' p => ?_) fun _ _ e => e)
    obtain ⟨hI1, K₁, ρ₁, h₁, t₁, rfl, k1, p1, T1, r1⟩ := p
    cases r1
    refine wpAny_mono (hr A env oc hA hE hoc _ _ _ _ _ hF I hI1 K₁ ρ₁ _ T1) (fun u s' p => ?_) fun _ _ e => e
    obtain ⟨hI2, K₂, ρ₂, h₂, t₂, rfl, k2, p2, T2, r2⟩ := p
    exact ⟨hI2, TPst.mk (K' := K₂) (ρ' := ρ₂) (k1.trans k2) (p1.trans p2) T2 r2⟩
  · rename_i h1
    refine wpAny_execs_cons (wpAny_mono (ha A env oc hA hE hoc _ _ _ _ _ hF I hI K ρ s T) (fun u s' p => ?_) fun _ _ e => e)
    cases u with
    | next =>
      obtain ⟨hI1, K₁, ρ₁, h₁, t₁, rfl, k1, p1, R1, r1⟩ := p
      cases r1
      exact absurd hF (h1 _)
    | brk => exact p
    | cont => exact p
    | ret v => exact p
theorem SsI.one {l : Nat} {a : Stmt} {Fa : SI} (ha : StI c f l a Fa) : SsI c f l [a] Fa := by
  intro A env oc hA hE hoc st i fl st' i' hF I hI K ρ s T
  refine wpAny_execs_cons (wpAny_mono (ha A env oc hA hE hoc _ _ _ _ _ hF I hI K ρ s T) (fun u s' p => ?_) fun _ _ e => e)
  cases u with
  | next => exact wpAny_execs_nil p
  | brk => exact p
  | cont => exact p
  | ret v => exact p
theorem StI.next {l : Nat} {x : Str} {p' np ap cp pos : Pos} (hc : c.Ok) (nm : Nm c) (hn : f.sc.names.lookup (Str.ofString "next") = some .globalImplicit) (hx : f.sc.names.lookup x = some .local) (hxi : (Str.ofString "iterator") ≠ x)
    (hs : ∀ env, swapsWith (.Call (.Name (Str.ofString "next") np) [.Name (Str.ofString "iterator") ap] [] cp) (some (.Name x p')) pos.line env = pure false := by intro _; rfl) :
    StI c f l (.Assign [.Name x p'] (.Call (.Name (Str.ofString "next") np) [.Name (Str.ofString "iterator") ap] [] cp) pos) (iNext x l) := by
  intro A env oc hA hE hoc st i fl st' i' hF I hI K ρ s T
  unfold iNext at hF
  dsimp only at hF
  split at hF
  · rename_i xs h1
    split at hF
    · rename_i v h2
      cases hF
      refine wpAny_Assign_Name ?_ (hs env)
      rw [eval_callName]
      refine wpAny_bind (Name_function_global (by rw [hE.scope]; exact hE.kind) (by unfold Env.kindOf; rw [hE.scope]; exact hn) (loadGlobal_builtin (by rw [hE.globals]; exact ns_up T.rep.g hc.g) nm.next (by rw [hE.builtins]; exact ns_up T.rep.g hc.b) (by rw [hc.builtins _ (by decide)]; exact Boot.«next») ?_))
      have hv : Es c f [.Name (Str.ofString "iterator") ap] (esCons (eVar (Str.ofString "iterator")) esNil) := Es.cons (Ev.var _ _) Es.nil
      refine callWith_val (s := s) rfl rfl rfl ?_
      refine wpAny_mono (hv A env oc hA hE hoc st [.raw (.ref I)] st (by simp only [esCons, esNil, eVar, hI]) _ ρ s T.lock cp) (fun us s₁ p => ?_) fun _ _ e => e
      obtain ⟨K₁, ρ₁, h₁, t₁, rfl, k1, p1, R1, r1⟩ := p
      obtain ⟨K₂, k2, T2, vr⟩ := T.back k1 p1 R1
      cases r1 using VRs.consE with
      | cons ra rb =>
        cases rb using VRs.nilE
        cases ra
        obtain ⟨_, a, ha, hit⟩ := T2.it
        obtain ⟨us', n, e2, e3⟩ := T2.rep.g.lists l a xs ha h1
        obtain ⟨u, hu, hvr⟩ := e3.get h2
        refine next_item (s := { s with heap := h₁, toks := t₁ }) hit ⟨_, e2, rfl, n, rfl⟩ (x := u) (by simpa using hu) fun h' hit' hs' => ?_
        have R2 : Rep c.base env oc K₂ ρ₁ st h' := T2.rep.but (D := [I]) (fun b o hb e => (hs'.2 b (by simpa using hb)).trans e) fun b hb => by
          have hb := List.mem_singleton.mp hb
          subst hb
          exact ⟨T2.off.2.2, T2.off.1, T2.off.2.1⟩
        refine store_rep (s := { s with heap := h', toks := t₁ }) hE hoc (.inl hx) R2 hvr fun h3 tk3 R3 hf3 => ?_
        refine ⟨?_, K₂, ρ₁, h3, tk3, rfl, k2, p1, ⟨R3, ⟨rfl, a, ha, ?_⟩, T2.off⟩, .next⟩
        · show (if (Str.ofString "iterator") = x then _ else _) = _
          rw [if_neg hxi]; exact hI
        · obtain ⟨o, ho, hr⟩ := hit'
          exact ⟨o, (hf3 I T2.off.2.2).trans ho, hr⟩
    · cases hF
  · cases hF
inductive WInvI (c : Cx) (env : Env) (oc : List (Str × Addr)) (K : KM) (ρ : List Addr) (s : Shared) (Ft : TM) (Fb : SI) (I l : Nat) (out : Fl × AS × Nat) (n : Nat) : Shared → Prop
  | mk {sa : AS} {i : Nat} {K' : KM} {ρ' : List Addr} {h' : Heap} {tk' : Nat} : KLe K K' → PLe ρ ρ' → sa.loc (Str.ofString "iterator") = some (.raw (.ref I)) → TR c.base env oc K' ρ' sa h' I l i → iWhile Ft Fb n (sa, i) = some out → WInvI c env oc K ρ s Ft Fb I l out n { s with heap := h', toks := tk' }
theorem StI.while {l : Nat} {t : Expr} {b : List Stmt} {pos : Pos} {Ft : TM} {Fb : SI} (n : Nat) (ht : Tt c f t Ft) (htI : ∀ st x st', Ft st = some (x, st') → st'.loc (Str.ofString "iterator") = st.loc (Str.ofString "iterator")) (hb : SsI c f l b Fb) : StI c f l (.While t b [] pos) (iWhile Ft Fb n) := by
  intro A env oc hA hE hoc st i fl st' i' hF I hI K ρ s T
  refine while_rule (WInvI c env oc K ρ s Ft Fb I l (fl, st', i')) _ ?_ n (.mk (KLe.refl K) (PLe.refl ρ) hI T hF)
  rintro n s' ⟨k0, p0, hI0, T0, hF⟩
  rename_i st i K₀ ρ₀ h₀ t₀
  cases n with
  | zero => cases hF
  | succ n =>
    unfold iWhile at hF
    cases h1 : Ft st with
    | none => rw [show Ft (st, i).1 = none from h1] at hF; cases hF
    | some r =>
      obtain ⟨bb, s1⟩ := r
      rw [show Ft (st, i).1 = some (bb, s1) from h1] at hF
      refine step (s := { s with heap := h₀, toks := t₀ }) (ht A env oc hA hE hoc _ _ _ h1 _ ρ₀ _ T0.lock) fun u K₁ ρ₁ h₁ t₁ k1 p1 R1 r1 => ?_
      subst r1
      obtain ⟨K₂, k2, T2, vr⟩ := T0.back k1 p1 R1
      have hI1 := (htI _ _ _ h1).trans hI0
      cases u with
      | false =>
        cases hF
        exact ⟨hI1, TPst.mk (k0.trans k2) (p0.trans p1) T2 .next⟩
      | true =>
        rw [if_pos rfl]
        dsimp only at hF
        cases h2 : Fb (s1, i) with
        | none => rw [h2] at hF; cases hF
        | some r =>
          obtain ⟨fl', s2, i2⟩ := r
          rw [h2] at hF
          refine wpAny_mono (hb A env oc hA hE hoc _ _ _ _ _ h2 I hI1 K₂ ρ₁ { s with heap := h₁, toks := t₁ } T2) (fun u s' p => ?_) fun _ _ e => e
          obtain ⟨hI2, K₃, ρ₃, h₃, t₃, rfl, k3, p3, T3, r3⟩ := p
          cases r3 with
          | next => exact ⟨n, Nat.lt_succ_self n, .mk (k0.trans (k2.trans k3)) (p0.trans (p1.trans p3)) hI2 T3 hF⟩
          | cont => cases hF
          | brk => cases hF
          | ret r => cases hF
end
end Mine
end
/-! ## part FR3 -/
section
open PySem PySem.W PyProof.Rows PySem.Calls
set_option bootstrap.genMatcherCode false
namespace Mine
/-! ### «_parse_varint» -/
noncomputable def PureE (a : EM) : Prop := ∀ st v st', a st = some (v, st') → st' = st
theorem pure_var (x : Str) : PureE (eVar x) := by
  intro st v st' h
  unfold eVar at h
  cases e : st.loc x with
  | none => rw [e] at h; cases h
  | some w => rw [e] at h; cases h; rfl
theorem pure_val (x : AV) : PureE (eVal x) := by intro st v st' h; cases h; rfl
theorem pure_bin {f : List (List AV) → AV → AV → Option AV} {a b : EM} (ha : PureE a) (hb : PureE b) : PureE (eBin f a b) := by
  intro st v st' h
  unfold eBin at h
  split at h
  · rename_i x s1 h1
    split at h
    · rename_i y s2 h2
      split at h
      · cases h
        have e1 := ha _ _ _ h1
        have e2 := hb _ _ _ h2
        rw [e2, e1]
      · cases h
    · cases h
  · cases h
theorem keeps_assign {x : Str} {a : EM} (ha : PureE a) (hx : Str.ofString "iterator" ≠ x) : KeepsI (sAssign x a) := by
  intro st fl st' h
  unfold sAssign at h
  split at h
  · rename_i v s1 h1
    cases h
    have e := ha _ _ _ h1
    show (if Str.ofString "iterator" = x then _ else _) = _
    rw [if_neg hx, e]
  · cases h
theorem keeps_aug {x : Str} {g : List (List AV) → AV → AV → Option AV} {a : EM} (ha : PureE a) (hx : Str.ofString "iterator" ≠ x) : KeepsI (sAug x g a) := by
  intro st fl st' h
  unfold sAug at h
  split at h
  · split at h
    · rename_i v s1 h1
      split at h
      · cases h
        have e := ha _ _ _ h1
        show (if Str.ofString "iterator" = x then _ else _) = _
        rw [if_neg hx, e]
      · cases h
    · cases h
  · cases h
theorem keeps_ret {a : EM} (ha : PureE a) : KeepsI (sRet a) := by
  intro st fl st' h
  unfold sRet at h
  split at h
  · rename_i v s1 h1
    cases h
    rw [ha _ _ _ h1]
  · cases h
theorem keeps_test {a : EM} {f : List (List AV) → AV → Option Bool} (ha : PureE a) : ∀ st x st', tVal f a st = some (x, st') → st'.loc (Str.ofString "iterator") = st.loc (Str.ofString "iterator") := by
  intro st x st' h
  unfold tVal at h
  split at h
  · rename_i v s1 h1
    split at h
    · cases h
      rw [ha _ _ _ h1]
    · cases h
  · cases h
noncomputable def eAnd63 : EM := eBin (oInt fAnd) (eVar (Str.ofString "b")) (eVal (.int 63))
noncomputable def eAnd64 : EM := eBin (oInt fAnd) (eVar (Str.ofString "b")) (eVal (.int 64))
theorem pure_63 : PureE eAnd63 := pure_bin (pure_var _) (pure_val _)
theorem pure_64 : PureE eAnd64 := pure_bin (pure_var _) (pure_val _)
noncomputable def fOr2 (a b : Int) : Option Int := some (Builtin.bitOr a b)
noncomputable def pvTurn (l : Nat) : SI := iSeq (iLift (sAug (Str.ofString "val") (oInt fShl) (eVal (.int 6)))) (iSeq (iNext (Str.ofString "b") l) (iLift (sAug (Str.ofString "val") (oInt fOr2) eAnd63)))
noncomputable def pvF (l : Nat) : SI := iSeq (iNext (Str.ofString "b") l) (iSeq (iLift (sAssign (Str.ofString "val") eAnd63)) (iSeq (iWhile (tVal trInt eAnd64) (pvTurn l) 5) (iLift (sRet (eVar (Str.ofString "val"))))))
set_option maxRecDepth 20000 in
theorem pvBody {c : Cx} {k : Nat} (hc : c.Ok) (nm : Nm c) (l : Nat) : SsI c ⟨scopOf (top 8), [], k + 1, k == 0⟩ l (bodyOf (top 8)) (pvF l) :=
  (SsI.cons (StI.next (x := (Str.ofString "b")) hc nm (by kernel_rfl) (by kernel_rfl) (by decide))
  (SsI.cons (StI.of (St.assign (x := (Str.ofString "val")) (Ev.bin (Ev.var (Str.ofString "b") _) (Ev.int 63 _ _) op_and) (.inl (by kernel_rfl))) (keeps_assign pure_63 (by decide)))
  (SsI.cons (StI.while 5 (Tt.val (Ev.bin (Ev.var (Str.ofString "b") _) (Ev.int 64 _ _) op_and) tr_int) (keeps_test pure_64)
    (SsI.cons (StI.of (St.aug (x := (Str.ofString "val")) (Ev.int 6 _ _) (by kernel_rfl) op_ishl) (keeps_aug (pure_val _) (by decide)))
    (SsI.cons (StI.next (x := (Str.ofString "b")) hc nm (by kernel_rfl) (by kernel_rfl) (by decide))
    (SsI.one (StI.of (St.aug (x := (Str.ofString "val")) (Ev.bin (Ev.var (Str.ofString "b") _) (Ev.int 63 _ _) op_and) (by kernel_rfl) op_ior) (keeps_aug pure_63 (by decide)))))))
  (SsI.one (StI.of (St.ret (Ev.var (Str.ofString "val") _)) (keeps_ret (pure_var _)))))))
end Mine
end
/-! ## part FR4 -/
section
open PySem PySem.W PyProof.Rows PySem.Calls
set_option bootstrap.genMatcherCode false
namespace Mine
theorem iSeq_next {a b : SI} {p q : AS × Nat} (h : a p = some (.next, q)) : iSeq a b p = b q := by
  obtain ⟨q1, q2⟩ := q
  simp only [iSeq, h]
theorem iNext_ok {x : Str} {l i : Nat} {st : AS} {xs : List AV} {v : AV} (hl : st.H[l]? = some xs) (hx : xs[i]? = some v) : iNext x l (st, i) = some (.next, st.put x v, i + 1) := by
  simp only [iNext, hl, hx]
theorem iLift_ok {F : SM} {st st' : AS} {i : Nat} {fl : Fl} (h : F st = some (fl, st')) : iLift F (st, i) = some (fl, st', i) := by
  simp only [iLift, h]
theorem sAug_ok {x : Str} {g : List (List AV) → AV → AV → Option AV} {a : EM} {st : AS} {w v z : AV} (hx : st.loc x = some w) (h : a st = some (v, st)) (hg : g st.H w v = some z) : sAug x g a st = some (.next, st.put x z) := by
  simp only [sAug, hx, h, hg]
theorem put_same (st : AS) (x : Str) (v : AV) : (st.put x v).loc x = some v := if_pos rfl
theorem put_other (st : AS) {x y : Str} (v : AV) (h : y ≠ x) : (st.put x v).loc y = st.loc y := if_neg h
theorem loc_o {st : AS} {x y : Str} {v : AV} {w : Option AV} (h : st.loc y = w) (n : y ≠ x) : (st.put x v).loc y = w := (if_neg n).trans h
theorem eAnd_ok {st : AS} {b : Int} (m : Int) (h : st.loc (Str.ofString "b") = some (.int b)) : eBin (oInt fAnd) (eVar (Str.ofString "b")) (eVal (.int m)) st = some (.int (Builtin.bitAnd b m), st) := by
  simp only [eBin, eVar, eVal, h, oInt, fAnd]
theorem pvTurn_ok {l i : Nat} {st : AS} {xs : List AV} {V v : Int} (hl : st.H[l]? = some xs) (hx : xs[i]? = some (.int v)) (hv : st.loc (Str.ofString "val") = some (.int V)) (hV : V.natAbs < 2 ^ 64) :
    pvTurn l (st, i) = some (.next, ((st.put (Str.ofString "val") (.int (V * 2 ^ 6))).put (Str.ofString "b") (.int v)).put (Str.ofString "val") (.int (Builtin.bitOr (V * 2 ^ 6) (Builtin.bitAnd v 63))), i + 1) := by
  have hs : oInt fShl st.H (.int V) (.int 6) = some (.int (V * 2 ^ 6)) := by
    simp only [oInt, fShl]
    rw [if_pos ⟨by decide, by decide, hV⟩]
    rfl
  have e1 := iLift_ok (i := i) (sAug_ok (g := oInt fShl) hv (show eVal (.int 6) st = some (.int 6, st) from rfl) hs)
  have e2 := iNext_ok (x := Str.ofString "b") (l := l) (i := i) (st := st.put (Str.ofString "val") (.int (V * 2 ^ 6))) hl hx
  have hb : ((st.put (Str.ofString "val") (.int (V * 2 ^ 6))).put (Str.ofString "b") (.int v)).loc (Str.ofString "val") = some (.int (V * 2 ^ 6)) := by
    rw [put_other _ _ (by decide), put_same]
  have e3 := iLift_ok (i := i + 1) (sAug_ok (g := oInt fOr2) hb (eAnd_ok 63 (put_same _ _ _)) (show _ = some (AV.int (Builtin.bitOr (V * 2 ^ 6) (Builtin.bitAnd v 63))) from rfl))
  unfold pvTurn
  rw [iSeq_next e1, iSeq_next e2]
  exact e3
theorem iWhile_t {t : TM} {b : SI} {n i : Nat} {st st1 : AS} {q : AS × Nat} (h : t st = some (true, st1)) (hb : b (st1, i) = some (.next, q)) : iWhile t b (n + 1) (st, i) = iWhile t b n q := by
  obtain ⟨q1, q2⟩ := q
  simp only [iWhile, h, hb]
theorem iWhile_f {t : TM} {b : SI} {n i : Nat} {st st1 : AS} (h : t st = some (false, st1)) : iWhile t b (n + 1) (st, i) = some (.next, st1, i) := by
  simp only [iWhile, h]
theorem test_ok {st : AS} {b : Int} (h : st.loc (Str.ofString "b") = some (.int b)) : tVal trInt eAnd64 st = some (Builtin.bitAnd b 64 != 0, st) := by
  unfold eAnd64 tVal
  rw [eAnd_ok 64 h]
  rfl
theorem pv_num0 : ∀ x ∈ List.range 8, Builtin.bitOr (8 * 2 ^ 6) (Builtin.bitAnd (64 + (x : Nat) : Int) 63) = ((512 + x : Nat) : Int) ∧ (Builtin.bitAnd (64 + (x : Nat) : Int) 64 != 0) = true := by decide +kernel
theorem pv_num1 : ∀ x ∈ List.range 8, ∀ y ∈ List.range 64, Builtin.bitOr (((512 + x : Nat) : Int) * 2 ^ 6) (Builtin.bitAnd (y : Int) 63) = ((32768 + x * 64 + y : Nat) : Int) := by decide +kernel
theorem pv_num2 : ∀ y ∈ List.range 64, (Builtin.bitAnd (y : Int) 64 != 0) = false := by decide +kernel
theorem pvF_ok {l i : Nat} {st : AS} {xs : List AV} {B D : Int} (hl : st.H[l]? = some xs) (x0 : xs[i]? = some (.int 72)) (x1 : xs[i + 1]? = some (.int B)) (x2 : xs[i + 2]? = some (.int D)) (hB : 64 ≤ B ∧ B < 72) (hD : 0 ≤ D ∧ D < 64) :
    ∃ st', pvF l (st, i) = some (.ret (.int (32768 + (B - 64) * 64 + D)), st', i + 3) ∧ st'.H = st.H := by
  obtain ⟨x, hx, rfl⟩ : ∃ x : Nat, x < 8 ∧ B = 64 + (x : Int) := ⟨(B - 64).toNat, by (first | lia | omega), by (first | lia | omega)⟩
  obtain ⟨y, hy, rfl⟩ : ∃ y : Nat, y < 64 ∧ D = (y : Int) := ⟨D.toNat, by (first | lia | omega), by (first | lia | omega)⟩
  have n0 := pv_num0 x (List.mem_range.mpr hx)
  have n1 := pv_num1 x (List.mem_range.mpr hx) y (List.mem_range.mpr hy)
  have n2 := pv_num2 y (List.mem_range.mpr hy)
  have hres : (32768 : Int) + (64 + (x : Int) - 64) * 64 + (y : Int) = ((32768 + x * 64 + y : Nat) : Int) := by (first | lia | omega)
  rw [hres]
  generalize hBB : (64 + (x : Int)) = BB at *
  generalize hDD : (y : Int) = DD at n1 n2 x2
  have a0 := iNext_ok (x := Str.ofString "b") hl x0
  have a1 : iLift (sAssign (Str.ofString "val") eAnd63) (st.put (Str.ofString "b") (.int 72), i + 1) = some (.next, (st.put (Str.ofString "b") (.int 72)).put (Str.ofString "val") (.int 8), i + 1) := by
    refine iLift_ok ?_
    unfold sAssign eAnd63
    rw [eAnd_ok 63 (put_same _ _ _)]
    rfl
  obtain ⟨s1, hs1⟩ : ∃ s1, s1 = (st.put (Str.ofString "b") (.int 72)).put (Str.ofString "val") (.int 8) := ⟨_, rfl⟩
  rw [← hs1] at a1
  have b1 : s1.loc (Str.ofString "val") = some (.int 8) := by rw [hs1, put_same]
  have b2 : s1.loc (Str.ofString "b") = some (.int 72) := by rw [hs1, put_other _ _ (by decide), put_same]
  have b3 : s1.H = st.H := by rw [hs1]; rfl
  clear hs1
  have c1 := pvTurn_ok (l := l) (i := i + 1) (st := s1) (v := BB) (by rw [b3]; exact hl) x1 b1 (by decide)
  rw [n0.1] at c1
  obtain ⟨s2, hs2⟩ : ∃ s2, s2 = ((s1.put (Str.ofString "val") (.int (8 * 2 ^ 6))).put (Str.ofString "b") (.int BB)).put (Str.ofString "val") (.int ((512 + x : Nat) : Int)) := ⟨_, rfl⟩
  rw [← hs2] at c1
  have d1 : s2.loc (Str.ofString "val") = some (.int ((512 + x : Nat) : Int)) := by rw [hs2, put_same]
  have d2 : s2.loc (Str.ofString "b") = some (.int BB) := by rw [hs2, put_other _ _ (by decide), put_same]
  have d3 : s2.H = st.H := by rw [hs2]; exact b3
  clear hs2
  have e1 := pvTurn_ok (l := l) (i := i + 1 + 1) (st := s2) (v := DD) (by rw [d3]; exact hl) x2 d1 (by (first | lia | omega))
  rw [n1] at e1
  obtain ⟨s3, hs3⟩ : ∃ s3, s3 = ((s2.put (Str.ofString "val") (.int (((512 + x : Nat) : Int) * 2 ^ 6))).put (Str.ofString "b") (.int DD)).put (Str.ofString "val") (.int ((32768 + x * 64 + y : Nat) : Int)) := ⟨_, rfl⟩
  rw [← hs3] at e1
  have f1 : s3.loc (Str.ofString "val") = some (.int ((32768 + x * 64 + y : Nat) : Int)) := by rw [hs3, put_same]
  have f2 : s3.loc (Str.ofString "b") = some (.int DD) := by rw [hs3, put_other _ _ (by decide), put_same]
  have f3 : s3.H = st.H := by rw [hs3]; exact d3
  clear hs3
  have t1 : tVal trInt eAnd64 s1 = some (true, s1) := by
    rw [test_ok b2]; rfl
  have t2 : tVal trInt eAnd64 s2 = some (true, s2) := by
    rw [test_ok d2, n0.2]
  have t3 : tVal trInt eAnd64 s3 = some (false, s3) := by
    rw [test_ok f2, n2]
  have w : iWhile (tVal trInt eAnd64) (pvTurn l) 5 (s1, i + 1) = some (.next, s3, i + 3) := by
    rw [iWhile_t t1 c1, iWhile_t t2 e1, iWhile_f t3]
  have r : iLift (sRet (eVar (Str.ofString "val"))) (s3, i + 3) = some (.ret (.int ((32768 + x * 64 + y : Nat) : Int)), s3, i + 3) := by
    refine iLift_ok ?_
    simp only [sRet, eVar, f1]
  refine ⟨s3, ?_, f3⟩
  unfold pvF
  rw [iSeq_next a0, iSeq_next a1, iSeq_next w]
  exact r
section
variable {c : Cx}
theorem bindPv : ∀ pm cd doc, ∀ us : List Value, us.length = [Str.ofString "iterator"].length → bindArgs (docDef (Str.ofString "_parse_varint") (parsOf (top 8)) (bodyOf (top 8)) (scopOf (top 8)) pm cd doc) ⟨us, []⟩ = pure ([Str.ofString "iterator"].zip us) := by
  intro pm cd doc us h; exact bind_1 (F := fun us => bindArgs (docDef (Str.ofString "_parse_varint") (parsOf (top 8)) (bodyOf (top 8)) (scopOf (top 8)) pm cd doc) ⟨us, []⟩) h (fun u0 => by kernel_rfl)
theorem pv_in {k : Nat} {A : Around} {K : KM} {ρ : List Addr} {H : List (List AV)} {s : Shared} (G : GRep c.base K ρ H s.heap) {I l i : Nat} (T : ItRep K ρ s.heap (.lst l i) I [I]) (off : I ∉ ρ ∧ K I = none) {env : Env} {h₁ : Heap} {st : AS}
    (hloc : env.locals = s.heap.objs.size) (hkeep : ∀ b o, s.heap.get? b = some o → h₁.get? b = some o) (R : Rep c.base env [] K ρ st h₁) : TR c.base env [] K ρ st h₁ I l i := by
  have hI : ∃ o, s.heap.get? I = some o := let ⟨_, a, _, o, ho, _⟩ := T; ⟨o, ho⟩
  obtain ⟨o, ho⟩ := hI
  refine ⟨R, T.move (KLe.refl _) (PLe.refl _) (fun b hb => ?_), off.1, off.2, fun hm => ?_⟩
  · have hb := List.mem_singleton.mp hb
    subst hb
    rw [ho]; exact hkeep _ _ ho
  · have hm : I = env.locals := by
      rcases List.mem_cons.mp hm with h | h
      · exact h
      · cases h
    rw [hm, hloc] at ho
    rw [get_none_of (Nat.le_refl _)] at ho
    cases ho
theorem pv_item {k : Nat} (hc : c.Ok) (nm : Nm c) {fa : Addr} (hf : Fd c 8 (Str.ofString "_parse_varint") fa) (hk : k + 1 ≤ 50) {A : Around} (hA : AOk k A) {K : KM} {ρ : List Addr} {H : List (List AV)} {s : Shared} (G : GRep c.base K ρ H s.heap)
    {I l i : Nat} (T : ItRep K ρ s.heap (.lst l i) I [I]) (off : I ∉ ρ ∧ K I = none) {xs : List AV} {B D : Int} (hl : H[l]? = some xs) (x0 : xs[i]? = some (.int 72)) (x1 : xs[i + 1]? = some (.int B)) (x2 : xs[i + 2]? = some (.int D)) (hB : 64 ≤ B ∧ B < 72) (hD : 0 ≤ D ∧ D < 64)
    {Q : Value → Shared → Prop} (hQ : ∀ u K' ρ' h' tk', KLe K K' → PLe ρ ρ' → GRep c.base K' ρ' H h' → VR K' ρ' u (.int (32768 + (B - 64) * 64 + D)) → ItRep K' ρ' h' (.lst l (i + 3)) I [I] → (I ∉ ρ' ∧ K' I = none) → Q u { s with heap := h', toks := tk' }) :
    wpAny (model c.prog c.w) A (call (.ref fa) [.ref I]) Q (fun _ _ => False) s := by
  refine enter (names := [Str.ofString "iterator"]) hc hf hk bindPv (by kernel_rfl) (by kernel_rfl) (by kernel_rfl) (by kernel_rfl) (by decide +kernel) hA G (us := [.ref I]) (args := [.raw (.ref I)]) (.cons (.raw _) .nil) rfl fun env h₁ tk hE hfr hloc hkeep R => ?_
  have T1 := pv_in (k := k) (A := A) G T off hloc hkeep R
  obtain ⟨st', e, hH⟩ := pvF_ok (st := ⟨locAfter ([Str.ofString "iterator"].zip [.raw (.ref I)]) (fun _ => none), H⟩) hl x0 x1 x2 hB hD
  refine wpAny_noRaise (wpAny_mono (pvBody (k := k) hc nm l (A.deeper env) env [] (hA.deeper env hk) hE rfl _ _ _ _ _ e I rfl K ρ { s with heap := h₁, toks := tk } T1) (fun u s' p => ?_) fun _ _ z => z)
  obtain ⟨_, K', ρ', h', tk', rfl, k1, p1, T2, r⟩ := p
  cases r with
  | ret r => exact hQ _ K' ρ' h' tk' k1 p1 ((show st'.H = H from hH) ▸ T2.rep.g) r T2.it ⟨T2.off.1, T2.off.2.1⟩
theorem pv_end {k : Nat} (hc : c.Ok) (nm : Nm c) {fa : Addr} (hf : Fd c 8 (Str.ofString "_parse_varint") fa) (hk : k + 1 ≤ 50) {A : Around} (hA : AOk k A) {K : KM} {ρ : List Addr} {H : List (List AV)} {s : Shared} (G : GRep c.base K ρ H s.heap)
    {I l i : Nat} (T : ItRep K ρ s.heap (.lst l i) I [I]) (off : I ∉ ρ ∧ K I = none) {xs : List AV} (hl : H[l]? = some xs) (hx : xs[i]? = none)
    {envs : List Env} (hfr : A.frames = some envs) {B : Heap} (hB : ∀ b o, B.get? b = some o → s.heap.get? b = some o ∧ b ≠ I) (hF : s.heap.FunFrames B envs) {Q E : Value → Shared → Prop}
    (hEx : ∀ e a0 h' tk', Heap.FlyingW B envs e (.type "StopIteration") a0 h' → (∀ b o, b ≠ I → s.heap.get? b = some o → (∀ vs, o.data ≠ .fields vs) → ∃ sl, h'.get? b = some { o with slots := sl }) → E (.ref e) { s with heap := h', toks := tk' }) :
    wpAny (model c.prog c.w) A (call (.ref fa) [.ref I]) Q E s := by
  refine enter (names := [Str.ofString "iterator"]) hc hf hk bindPv (by kernel_rfl) (by kernel_rfl) (by kernel_rfl) (by kernel_rfl) (by decide +kernel) hA G (us := [.ref I]) (args := [.raw (.ref I)]) (.cons (.raw _) .nil) rfl fun env h₁ tk hE hfr1 hloc hkeep R => ?_
  have T1 := pv_in (k := k) (A := A) G T off hloc hkeep R
  generalize hst : (⟨locAfter ([Str.ofString "iterator"].zip [.raw (.ref I)]) (fun _ => none), H⟩ : AS) = st at R T1
  have hI : st.loc (Str.ofString "iterator") = some (.raw (.ref I)) := by rw [← hst]; rfl
  have hH : st.H = H := by rw [← hst]
  have hbody : bodyOf (top 8) = nthS (bodyOf (top 8)) 0 :: (bodyOf (top 8)).drop 1 := by kernel_rfl
  rw [hbody]
  refine wpAny_execs_cons ?_
  show wpAny _ _ (exec (.Assign [.Name (Str.ofString "b") _] (.Call (.Name (Str.ofString "next") _) [.Name (Str.ofString "iterator") _] [] _) _) env) _ _ _
  refine wpAny_Assign_Name ?_ rfl
  rw [eval_callName]
  refine wpAny_bind (Name_function_global (by rw [hE.scope]; exact hE.kind) (by unfold Env.kindOf; rw [hE.scope]; kernel_rfl) (loadGlobal_builtin (by rw [hE.globals]; exact ns_up R.g hc.g) nm.next (by rw [hE.builtins]; exact ns_up R.g hc.b) (by rw [hc.builtins _ (by decide)]; exact Boot.«next») ?_))
  refine callWith_val rfl rfl rfl ?_
  refine wpAny_items_cons (wpAny_noRaise (wpAny_Name (load_rep (f := ⟨scopOf (top 8), [], k + 1, k == 0⟩) hE hI (by kernel_rfl) R fun u r => ?_) (by decide))) rfl
  cases r
  refine wpAny_items_nil ?_
  show wpAny _ _ (call (.builtin "next") [.ref I]) _ _ _
  obtain ⟨_, a, ha, hit⟩ := T1.it
  obtain ⟨us', n, e2, e3⟩ := T1.rep.g.lists l a xs ha (hH ▸ hl)
  have hlen := e3.length
  refine next_end (s := { s with heap := h₁, toks := tk }) (show (A.deeper env).handled = none from hA.handled) hit ⟨_, e2, rfl, n, rfl⟩ (by simpa [hlen] using hx) fun h₃ e hext hnew he => ?_
  obtain ⟨t, he⟩ := he
  have hne : ∀ b o, s.heap.get? b = some o → (∀ vs, o.data ≠ .fields vs) → b ≠ I := fun b o hb hnf q => by
    obtain ⟨o', ho', _, hd'⟩ := hit
    have := hkeep _ _ hb
    rw [q, ho'] at this
    cases this
    exact hnf _ hd'
  have hen : B.get? e = none := by
    cases q : B.get? e with
    | none => rfl
    | some o => have := hkeep _ _ (hB e o q).1; rw [hnew] at this; cases this
  have hBL : B.get? env.locals = none := by
    cases q : B.get? env.locals with
    | none => rfl
    | some o => have := (hB _ o q).1; rw [hloc, get_none_of (Nat.le_refl _)] at this; cases this
  obtain ⟨m, ⟨oL, es, ep, hoL, hdL, _⟩, _⟩ := R.ns
  have hLI : env.locals ≠ I := fun q => T1.off.2.2 (q ▸ List.mem_cons_self)
  have hl3 : h₃.FunFrames B (env :: envs) := ⟨by rw [hE.scope]; rw [show (scopOf (top 8)).kind = .function by kernel_rfl]; decide,
    ⟨env.locals, oL, hfr1, hBL, hext _ _ hLI hoL, fun vs q => by rw [hdL] at q; cases q⟩,
    hF.of_keeps fun b o hb hnf => ⟨o, hext b o (hne b o hb hnf) (hkeep b o hb), rfl⟩⟩
  refine wpAny_leaving_firstW (a0 := t) (Around.frames_deeper hfr) hl3 hfr1 he (fun b o hb => hext b o (hB b o hb).2 (hkeep _ _ (hB b o hb).1)) hen rfl rfl rfl fun h' hL => ?_
  obtain ⟨k1, ⟨_, _, k2⟩, k3, k4⟩ := hL
  exact hEx e t h' tk ⟨k1, hen, k2, k3⟩ fun b o hb ho hnf => k4 b o (hext b o hb (hkeep b o ho)) hnf
end
end Mine
end
/-! ## part FR5 -/
section
open PySem PySem.W PyProof.Rows PySem.Calls
set_option bootstrap.genMatcherCode false
namespace Mine
/-! ### «_law_read» -/
noncomputable def decode : List AV → Option (List AV)
  | [] => some []
  | .int a :: .int b :: .int d :: r => if a = 72 ∧ 64 ≤ b ∧ b < 72 ∧ 0 ≤ d ∧ d < 64 then match decode r with
      | some ys => some (.int (32768 + (b - 64) * 64 + d) :: ys)
      | none => none
    else none
  | _ => none
noncomputable def gRead : GF := fun args H => match args with
  | [.lst l] => match H[l]? with
    | some xs => match decode xs with
      | some ys => if ys.length ≤ 30 then some (.lst H.length, H ++ [ys]) else none
      | none => none
    | none => none
  | _ => none
theorem decode_spec : ∀ {xs ys : List AV}, decode xs = some ys → xs.length = 3 * ys.length ∧ ∀ j, j < ys.length → ∃ b d : Int, xs[3 * j]? = some (.int 72) ∧ xs[3 * j + 1]? = some (.int b) ∧ xs[3 * j + 2]? = some (.int d) ∧ (64 ≤ b ∧ b < 72) ∧ (0 ≤ d ∧ d < 64) ∧ ys[j]? = some (.int (32768 + (b - 64) * 64 + d)) := by
  intro xs
  refine decode.induct (motive := fun xs => ∀ {ys}, decode xs = some ys → xs.length = 3 * ys.length ∧ ∀ j, j < ys.length → ∃ b d : Int, xs[3 * j]? = some (.int 72) ∧ xs[3 * j + 1]? = some (.int b) ∧ xs[3 * j + 2]? = some (.int d) ∧ (64 ≤ b ∧ b < 72) ∧ (0 ≤ d ∧ d < 64) ∧ ys[j]? = some (.int (32768 + (b - 64) * 64 + d))) ?_ ?_ ?_ ?_ ?_ xs
  · intro ys h
    unfold decode at h
    cases h
    exact ⟨rfl, fun j hj => absurd hj (Nat.not_lt_zero _)⟩
  · intro a b d r hc zs hz ih ys h
    unfold decode at h
    rw [if_pos hc, hz] at h
    cases h
    obtain ⟨h1, h2⟩ := ih hz
    obtain ⟨q1, q2, q3, q4, q5⟩ := hc
    refine ⟨by simp only [List.length_cons, h1]; (first | lia | omega), fun j hj => ?_⟩
    cases j with
    | zero => exact ⟨b, d, by simp [q1], by simp, by simp, ⟨q2, q3⟩, ⟨q4, q5⟩, by simp⟩
    | succ j =>
      obtain ⟨b', d', e1, e2, e3, e4, e5, e6⟩ := h2 j (by simp only [List.length_cons] at hj; (first | lia | omega))
      refine ⟨b', d', ?_, ?_, ?_, e4, e5, ?_⟩
      · rw [show 3 * (j + 1) = 3 * j + 1 + 1 + 1 by (first | lia | omega)]; simpa using e1
      · rw [show 3 * (j + 1) + 1 = 3 * j + 1 + 1 + 1 + 1 by (first | lia | omega)]; simpa using e2
      · rw [show 3 * (j + 1) + 2 = 3 * j + 2 + 1 + 1 + 1 by (first | lia | omega)]; simpa using e3
      · simpa using e6
  · intro a b d r hc hz ih ys h
    unfold decode at h
    rw [if_pos hc, hz] at h
    cases h
  · intro a b d r hc ys h
    unfold decode at h
    rw [if_neg hc] at h
    cases h
  · intro t h1 h2 ys h
    unfold decode at h
    split at h
    · exact absurd rfl (h1 ·)
    · exact absurd rfl (h2 _ _ _ _ ·)
    · cases h
section
variable {base : Heap} {env : Env} {oc : List (Str × Addr)} {K : KM} {ρ : List Addr} {st : AS} {h : Heap}
/-- as Rep.move; the frame's own objects may get other slots -/
theorem Rep.moveS (R : Rep base env oc K ρ st h) {K' : KM} {ρ' : List Addr} {H' : List (List AV)} {h' : Heap} (hK : KLe K K') (hρ : PLe ρ ρ') (G : GRep base K' ρ' H' h')
    (hf : ∀ b ∈ frm env oc, ∀ o, h.get? b = some o → ∃ sl, h'.get? b = some { o with slots := sl }) (ho : ∀ b ∈ frm env oc, b ∉ ρ' ∧ K' b = none) : Rep base env oc K' ρ' { st with H := H' } h' := by
  refine ⟨G, ?_, ?_, ?_, R.apart, ho⟩
  · obtain ⟨m, ⟨o, es, ep, h1, h2⟩, hm⟩ := R.ns
    obtain ⟨sl, h3⟩ := hf _ List.mem_cons_self o h1
    refine ⟨m, ⟨_, es, ep, h3, h2⟩, fun x v hx hv => ?_⟩
    obtain ⟨u, e, r⟩ := hm x v hx hv
    exact ⟨u, e, r.mono hK hρ⟩
  · intro x v hx hv
    obtain ⟨hk, c, u, h1, h2, ⟨o, ho', hd⟩, h4⟩ := R.cells x v hx hv
    refine ⟨hk, c, u, h1, h2.imp id fun ⟨o, e⟩ => ⟨o, hK _ _ e⟩, ?_, h4.mono hK hρ⟩
    rcases h2 with h2 | ⟨o', e⟩
    · obtain ⟨sl, h3⟩ := hf c (List.mem_cons_of_mem _ (List.mem_map.mpr ⟨_, h2, rfl⟩)) o ho'
      exact ⟨_, h3, hd⟩
    · have e1 := G.keep _ _ (hK _ _ e)
      have e2 := R.g.keep _ _ e
      rw [e2] at ho'; cases ho'; exact ⟨_, e1, hd⟩
  · intro p hp
    obtain ⟨h1, h2, u, o, ho', hd⟩ := R.own p hp
    obtain ⟨sl, h3⟩ := hf _ (List.mem_cons_of_mem _ (List.mem_map.mpr ⟨p, hp, rfl⟩)) o ho'
    exact ⟨h1, h2, u, _, h3, hd⟩
end
/-! a state with two iterators -/
structure TJ (base : Heap) (env : Env) (oc : List (Str × Addr)) (K : KM) (ρ : List Addr) (st : AS) (h : Heap) (I l i J : Nat) (cur : Int) (left : Nat) : Prop where
  rep : Rep base env oc K ρ st h
  itI : ItRep K ρ h (.lst l i) I [I]
  itJ : ItRep K ρ h (.rng cur left) J [J]
  off : ∀ b ∈ [I, J], b ∉ ρ ∧ K b = none ∧ b ∉ frm env oc
  ne : I ≠ J
section
variable {base : Heap} {env : Env} {oc : List (Str × Addr)} {K : KM} {ρ : List Addr} {st st' : AS} {h h₁ : Heap} {I l i J : Nat} {cur : Int} {left : Nat}
theorem TJ.lock (T : TJ base env oc K ρ st h I l i J cur left) : Rep base env oc (K.lock h [I, J]) ρ st h := T.rep.lock fun b hb => ⟨(T.off b hb).1, (T.off b hb).2.2⟩
theorem TJ.notval (T : TJ base env oc K ρ st h I l i J cur left) : ∀ b ∈ [I, J], ∃ o, h.get? b = some o ∧ NotVal o ∧ ∀ v, o.data ≠ .cell v := by
  intro b hb
  rcases List.mem_cons.mp hb with rfl | hb
  · exact T.itI.notval _ List.mem_cons_self
  · exact T.itJ.notval _ hb
theorem TJ.back (T : TJ base env oc K ρ st h I l i J cur left) {K₁ : KM} {ρ₁ : List Addr} (k1 : KLe (K.lock h [I, J]) K₁) (p1 : PLe ρ ρ₁) (R1 : Rep base env oc K₁ ρ₁ st' h₁) :
    ∃ K₂, KLe K K₂ ∧ TJ base env oc K₂ ρ₁ st' h₁ I l i J cur left ∧ (∀ u v, VR K₁ ρ₁ u v → VR K₂ ρ₁ u v) := by
  have U := unlock (D := [I, J]) T.rep.g.base T.rep.g.keep (fun b hb => (T.off b hb).2.1) T.notval k1 R1
  exact ⟨_, U.le, ⟨U.rep, T.itI.move U.le p1 fun b hb => U.same b (by have hb := List.mem_singleton.mp hb; subst hb; exact List.mem_cons_self),
    T.itJ.move U.le p1 fun b hb => U.same b (List.mem_cons_of_mem _ hb), U.off, T.ne⟩, U.vr⟩
end
end Mine
end
/-! ## part FR6 -/
section
open PySem PySem.W PyProof.Rows PySem.Calls
set_option bootstrap.genMatcherCode false
namespace Mine
noncomputable def fR : Fx := ⟨scopOf (top 33), [], 2, 1 == 0⟩
section
variable {c : Cx}
theorem meth_walk {M : Model} {A : Around} {env : Env} {s : Shared} {Q : Value → Shared → Prop} {E : Value → Shared → Prop} {o e : Expr} {name : Str} {rest : List Expr} {apos pos : Pos} {pl : Env → Sem Bool}
    (h : wpAny M A (eval o env) (fun ov s₁ => wpAny M A (standAt apos.atName) (fun _ s₂ => wpAny M A (holding [ov] (getMethod ov name (pl env))) (fun r s₃ => wpAny M A (callWith pos r.1 r.2 (backTo pos (starEach (e :: rest) env)) []) Q E s₃) E s₂) E s₁) E s)
    (hev : ∀ env, eval (.Call (.Attribute o name apos) (e :: rest) [] pos) env = (do
      let ov ← eval o env
      standAt apos.atName
      let (f, first) ← holding [ov] (getMethod ov name (pl env))
      callWith pos f first (backTo pos (starEach (e :: rest) env)) []) := by intro _; rfl) :
    wpAny M A (eval (.Call (.Attribute o name apos) (e :: rest) [] pos) env) Q E s := by
  rw [hev env]
  exact wpAny_bind (wpAny_mono h (fun ov s₁ h1 => wpAny_bind (wpAny_mono h1 (fun _ s₂ h2 => wpAny_bind (wpAny_mono h2 (fun r s₃ h3 => h3) fun _ _ z => z)) fun _ _ z => z)) fun _ _ z => z)
/-- the statement within «try» -/
noncomputable def eRead : Stmt := .Expr (.Call (.Attribute (.Name (Str.ofString "numbers") ⟨106, 12, 106, 19⟩) (Str.ofString "append") ⟨106, 12, 106, 26⟩) [.Call (.Name (Str.ofString "_parse_varint") ⟨106, 27, 106, 40⟩) [.Name (Str.ofString "tape") ⟨106, 41, 106, 45⟩] [] ⟨106, 27, 106, 46⟩] [] ⟨106, 12, 106, 47⟩) ⟨106, 12, 106, 47⟩
theorem turn_in {fa : Addr} (hc : c.Ok) (hf : Fd c 8 (Str.ofString "_parse_varint") fa) {A : Around} {env : Env} (hE : EnvIs A fR.t fR.sc env) {K : KM} {ρ : List Addr} {st : AS} {s : Shared} {I n : Nat} (R : Rep c.base env [] K ρ st s.heap)
    (htape : st.loc (Str.ofString "tape") = some (.raw (.ref I))) (hnum : st.loc (Str.ofString "numbers") = some (.lst n)) {Q : Flow → Shared → Prop} {E : Value → Shared → Prop}
    (h : ∀ a, ρ[n]? = some a → wpAny (model c.prog c.w) A (call (.ref fa) [.ref I]) (fun v s₁ => wpAny (model c.prog c.w) A (call (.builtin "list.append") [.ref a, v]) (fun _ s₂ => Q .next s₂) E s₁) E s) :
    wpAny (model c.prog c.w) A (exec (eRead) env) Q E s := by
  have hi : interactive env = false := by unfold interactive; rw [hE.scope, hE.kind]; rfl
  unfold eRead
  rw [exec_Expr env _ _ hi rfl]
  refine wpAny_bind (wpAny_standAt (wpAny_bind ?_))
  refine meth_walk ?_
  refine wpAny_noRaise (wpAny_Name (load_rep (f := fR) hE hnum (by kernel_rfl) R fun u r => ?_) (by decide))
  cases r using VR.lstE with
  | lst hr =>
    rename_i a
    refine wpAny_standAt (wpAny_holding ?_)
    refine wpAny_noRaise (MGet.lst (c := c) PySem.F.slot_list_append PySem.F.type_list_append (.lst n) rfl A K ρ st.H _ R.g (.ref a) (.lst hr) _ _ ?_)
    show wpAny _ A (callWith _ (.builtin "list.append") [.ref a] _ []) _ _ _
    refine callWith_val rfl rfl rfl ?_
    refine wpAny_items_cons ?_ rfl
    rw [eval_callName]
    obtain ⟨hm, o, pm, cd, doc, ho, hd, hcd⟩ := hf
    refine wpAny_bind (Name_function_global (by rw [hE.scope]; exact hE.kind) (by unfold Env.kindOf; rw [hE.scope]; kernel_rfl) (loadGlobal_global (by rw [hE.globals]; exact ns_up R.g hc.g) hm ?_))
    show wpAny _ A (callWith _ (.ref fa) [] (backTo _ ((false, eval (.Name (Str.ofString "tape") ⟨106, 41, 106, 45⟩) env) :: starEach [] env)) []) _ _ _
    refine callWith_function (o := o) (fd := docDef (Str.ofString "_parse_varint") (parsOf (top 8)) (bodyOf (top 8)) (scopOf (top 8)) pm cd doc) (evalArgs_plain ?_)
    show wpAny _ A (spliced (backTo _ (starEach [.Name (Str.ofString "tape") ⟨106, 41, 106, 45⟩] env))) _ _ _
    refine wpAny_items_cons (wpAny_noRaise (wpAny_Name (load_rep (f := fR) hE htape (by kernel_rfl) R fun u r => ?_) (by decide))) rfl
    cases r
    refine wpAny_items_nil ?_
    refine ⟨⟨R.g.keep _ _ (R.g.base _ _ ho), hd⟩, ?_⟩
    refine wpAny_mono (h a hr) (fun v s₁ h1 => ?_) fun _ _ z => z
    refine wpAny_items_nil ?_
    refine wpAny_mono h1 (fun _ s₂ h2 => ?_) fun _ _ z => z
    exact wpAny_dropValue h2
theorem turn_item {fa : Addr} (hc : c.Ok) (nm : Nm c) (hf : Fd c 8 (Str.ofString "_parse_varint") fa) {A : Around} (hA : AOk 2 A) {env : Env} (hE : EnvIs A fR.t fR.sc env) {K : KM} {ρ : List Addr} {st : AS} {s : Shared} {I l i J n left : Nat} {cur : Int}
    (T : TJ c.base env [] K ρ st s.heap I l i J cur left) (htape : st.loc (Str.ofString "tape") = some (.raw (.ref I))) (hnum : st.loc (Str.ofString "numbers") = some (.lst n))
    {xs zs : List AV} {B D : Int} (hl : st.H[l]? = some xs) (x0 : xs[i]? = some (.int 72)) (x1 : xs[i + 1]? = some (.int B)) (x2 : xs[i + 2]? = some (.int D)) (hB : 64 ≤ B ∧ B < 72) (hD : 0 ≤ D ∧ D < 64) (hz : st.H[n]? = some zs) (hzl : zs.length ≤ 1000)
    {Q : Flow → Shared → Prop} (hQ : ∀ K' ρ' h' tk', KLe K K' → PLe ρ ρ' → TJ c.base env [] K' ρ' { st with H := st.H.set n (zs ++ [.int (32768 + (B - 64) * 64 + D)]) } h' I l (i + 3) J cur left → Q .next { s with heap := h', toks := tk' }) :
    wpAny (model c.prog c.w) A (exec (eRead) env) Q (fun _ _ => False) s := by
  refine turn_in hc hf hE T.rep htape hnum fun a hr => ?_
  have oI := T.off I List.mem_cons_self
  have oJ := T.off J (List.mem_cons_of_mem _ List.mem_cons_self)
  have R1 : Rep c.base env [] (K.lock s.heap [J]) ρ st s.heap := T.rep.lock fun b hb => by
    have hb := List.mem_singleton.mp hb
    subst hb
    exact ⟨oJ.1, oJ.2.2⟩
  have G1 := R1.g.lock (D := frm env []) fun b hb => (R1.off b hb).1
  have hIn : ((K.lock s.heap [J]).lock s.heap (frm env [])) I = none := by
    unfold KM.lock
    rw [if_neg oI.2.2, if_neg fun q => T.ne (List.mem_singleton.mp q)]
    exact oI.2.1
  have hle1 : KLe K ((K.lock s.heap [J]).lock s.heap (frm env [])) := (KLe.lock T.rep.g.keep).trans (KLe.lock R1.g.keep)
  refine pv_item (k := 2) hc nm hf (by decide) hA G1 (T.itI.move hle1 (PLe.refl _) fun _ _ => rfl) ⟨oI.1, hIn⟩ hl x0 x1 x2 hB hD fun u K5 ρ5 h5 t5 k5 q5 G5 v5 it5 off5 => ?_
  have Bk := back R1 k5 q5 G5
  have U := unlock (D := [J]) T.rep.g.base T.rep.g.keep (fun b hb => by have hb := List.mem_singleton.mp hb; subst hb; exact oJ.2.1) T.itJ.notval Bk.le Bk.rep
  have T5 : TJ c.base env [] ((K5.free (frm env [])).free [J]) ρ5 st h5 I l (i + 3) J cur left := by
    refine ⟨U.rep, ?_, T.itJ.move U.le q5 U.same, fun b hb => ?_, T.ne⟩
    · obtain ⟨w1, a, w2, w3⟩ := it5
      exact ⟨w1, a, w2, w3⟩
    · rcases List.mem_cons.mp hb with rfl | hb
      · refine ⟨off5.1, ?_, oI.2.2⟩
        unfold KM.free
        split
        · rfl
        · split
          · rfl
          · exact off5.2
      · exact U.off b hb
  cases v5
  refine gop_append.use (c := c) (us := [.ref a, .int _ _]) hA (st := st) (args := [.lst n, .int (32768 + (B - 64) * 64 + D)]) (v := .none) (H' := st.H.set n (zs ++ [.int (32768 + (B - 64) * 64 + D)])) ?_ T5.lock (.cons (.lst (q5 _ _ hr)) (.cons (.int _ _) .nil)) fun u K6 ρ6 h6 t6 k6 q6 R6 r6 => ?_
  · simp only [gAppend, hz]
    rw [if_pos (by (first | lia | omega))]
  obtain ⟨K7, k7, T7, _⟩ := T5.back k6 q6 R6
  exact hQ K7 ρ6 h6 t6 (U.le.trans k7) (q5.trans q6) T7
end
end Mine
end
/-! ## part FR7 -/
section
open PySem PySem.W PyProof.Rows PySem.Calls
set_option bootstrap.genMatcherCode false
namespace Mine
noncomputable def sTry : Stmt := .Try [eRead] [.ExceptHandler (some (.Name (Str.ofString "StopIteration") ⟨107, 15, 107, 28⟩)) none [.Return (some (.Name (Str.ofString "numbers") ⟨108, 19, 108, 26⟩)) ⟨108, 12, 108, 26⟩] ⟨107, 8, 108, 26⟩] [] [] ⟨105, 8, 108, 26⟩
section
variable {c : Cx}
theorem try_item {A : Around} {env : Env} {s : Shared} {Q : Flow → Shared → Prop} (h : wpAny (model c.prog c.w) A (exec eRead env) (fun f s₁ => match f with | .next => Q .next s₁ | _ => False) (fun _ _ => False) s) :
    wpAny (model c.prog c.w) A (exec sTry env) Q (fun _ _ => False) s := by
  unfold sTry
  refine wpAny_Try_except (wpAny_execs_cons (wpAny_noRaise (wpAny_mono h (fun f s₁ h1 => ?_) fun _ _ z => z)))
  cases f with
  | next => exact wpAny_execs_nil (wpAny_execs_nil h1)
  | brk => exact h1.elim
  | cont => exact h1.elim
  | ret v => exact h1.elim
theorem stop_tup : isSubtype (.type ((Manifest.find? "StopIteration").elim "type" fun x => x.metatype)) (.type "tuple") = pure false := by rw [isSubtype_type]; kernel_rfl
theorem stop_sub : isSubtype (.type "StopIteration") (.type "StopIteration") = pure true := isSubtype_stop
theorem turn_end {fa : Addr} (hc : c.Ok) (nm : Nm c) (hf : Fd c 8 (Str.ofString "_parse_varint") fa) {A : Around} (hA : AOk 2 A) {env env0 : Env} (hE : EnvIs A fR.t fR.sc env) {L0 : Addr} (hfr : A.frames = some [env, env0]) (hff : env.frame = some env.locals)
    (hk0 : env0.scope.kind ≠ .module) (hf0 : env0.frame = some L0) {K : KM} {o0 : Obj} (hK0 : K L0 = some o0) (hd0 : ∀ vs, o0.data ≠ .fields vs) (hb0 : c.base.get? L0 = none)
    {ρ : List Addr} {st : AS} {s : Shared} {I l i J n left : Nat} {cur : Int}
    (T : TJ c.base env [] K ρ st s.heap I l i J cur left) (htape : st.loc (Str.ofString "tape") = some (.raw (.ref I))) (hnum : st.loc (Str.ofString "numbers") = some (.lst n))
    {xs : List AV} (hl : st.H[l]? = some xs) (hx : xs[i]? = none)
    {Q : Flow → Shared → Prop} (hQ : ∀ a h' tk', ρ[n]? = some a → (∀ b o, s.heap.get? b = some o → b ≠ env.locals → b ≠ L0 → b ≠ I → h'.get? b = some o) → (∃ sl, h'.get? L0 = some { o0 with slots := sl }) → Q (.ret (.ref a)) { s with heap := h', toks := tk' }) :
    wpAny (model c.prog c.w) A (exec sTry env) Q (fun _ _ => False) s := by
  have oI := T.off I List.mem_cons_self
  have oL := T.rep.off env.locals List.mem_cons_self
  have hs0 : s.heap.get? L0 = some o0 := T.rep.g.keep _ _ hK0
  have hBget : ∀ b o, s.heap.get? b = some o → b ≠ env.locals → b ≠ L0 → b ≠ I → (hideAll s.heap [env.locals, L0, I]).get? b = some o := fun b o e q1 q2 q3 => hideAll_get _ e fun hm => by
    simp only [List.mem_cons, List.not_mem_nil, or_false] at hm
    rcases hm with h | h | h
    · exact q1 h
    · exact q2 h
    · exact q3 h
  have hBof : ∀ b o, (hideAll s.heap [env.locals, L0, I]).get? b = some o → s.heap.get? b = some o ∧ b ≠ I := fun b o e => ⟨of_hideAll _ e, fun q => by
    rw [q, hideAll_none _ (by simp)] at e; cases e⟩
  have hBL : (hideAll s.heap [env.locals, L0, I]).get? env.locals = none := hideAll_none _ (by simp)
  have hB0 : (hideAll s.heap [env.locals, L0, I]).get? L0 = none := hideAll_none _ (by simp)
  have hBbase : ∀ b o, c.base.get? b = some o → (hideAll s.heap [env.locals, L0, I]).get? b = some o := fun b o e => hBget b o (T.rep.g.keep _ _ (T.rep.g.base _ _ e))
    (fun q => by have := T.rep.g.base _ _ e; rw [q, oL.2] at this; cases this) (fun q => by rw [q, hb0] at e; cases e) (fun q => by have := T.rep.g.base _ _ e; rw [q, oI.2.1] at this; cases this)
  generalize hideAll s.heap [env.locals, L0, I] = B at *
  obtain ⟨m, ⟨oE, es, ep, hoE, hdE, hrE⟩, hm⟩ := T.rep.ns
  have hF : s.heap.FunFrames B [env, env0] := ⟨by rw [hE.scope, hE.kind]; decide, ⟨env.locals, oE, hff, hBL, hoE, fun vs q => by rw [hdE] at q; cases q⟩, hk0, ⟨L0, o0, hf0, hB0, hs0, hd0⟩, trivial⟩
  unfold sTry
  refine wpAny_Try_except (wpAny_execs_cons ?_)
  refine turn_in hc hf hE T.rep htape hnum fun a hr => ?_
  refine pv_end (k := 2) hc nm hf (by decide) hA T.rep.g T.itI ⟨oI.1, oI.2.1⟩ hl hx hfr hBof hF fun e a0 h3 t3 hfl sl3 => ?_
  refine wpAny_looks_onW (s := { s with heap := h3, toks := t3 }) hfr hff hfl fun h4 hheld sm4 => ?_
  refine wpAny_landsW hheld fun h5 hfl5 sm5 => ?_
  obtain ⟨ob, hob, hobc⟩ := hfl5.there
  refine wpAny_handleBy_builtin (X := "StopIteration") (T := "StopIteration") (b := true) stop_exc stop_tup stop_sub ?_
  refine Name_function_global (by rw [hE.scope]; exact hE.kind) (by unfold Env.kindOf; rw [hE.scope]; kernel_rfl) (loadGlobal_builtin (mg := c.mg) (mb := c.mb) (by rw [hE.globals]; exact hc.g.at' fun o e => hfl5.1 _ _ (hBbase _ _ e)) nm.stop (by rw [hE.builtins]; exact hc.b.at' fun o e => hfl5.1 _ _ (hBbase _ _ e)) (by rw [hc.builtins _ (by decide)]; exact Boot.«StopIteration») ?_)
  refine ⟨rfl, ⟨ob, hob, hobc⟩, ?_⟩
  rw [if_pos rfl]
  refine wpAny_setFlight_noneW hfl5.1 hfl5.2.2.1 hfl5.2.2.2.at fun h6 k1 k2 k3 k4 => ?_
  have up : ∀ b o, b ≠ I → s.heap.get? b = some o → (∀ vs, o.data ≠ .fields vs) → ∃ sl, h6.get? b = some { o with slots := sl } := fun b o hb ho hn => by
    obtain ⟨sl, e3⟩ := sl3 b o hb ho hn
    obtain ⟨sl', e4⟩ := sm4 b _ e3 hn
    obtain ⟨sl'', e5⟩ := sm5 b _ e4 hn
    exact ⟨sl'', k4 b _ e5 hn⟩
  have hLI : env.locals ≠ I := fun q => oI.2.2 (q ▸ List.mem_cons_self)
  have h0I : L0 ≠ I := fun q => by rw [q, oI.2.1] at hK0; cases hK0
  obtain ⟨sl, e6⟩ := up _ _ hLI hoE fun vs q => by rw [hdE] at q; cases q
  have hkn : env.kindOf (Str.ofString "numbers") = some .local := by unfold Env.kindOf; rw [hE.scope]; kernel_rfl
  obtain ⟨u, hu, r⟩ := hm _ _ hkn hnum
  refine wpAny_execs_cons (wpAny_Return_some (wpAny_Name (wpAny_loadName_local (m := m) (by rw [hE.scope]; exact hE.kind) hkn ⟨_, es, ep, e6, hdE, hrE⟩ hu ?_) (by decide)))
  cases r with
  | lst hr =>
    exact hQ _ h6 _ hr (fun b o e q1 q2 q3 => k1 _ _ (hBget b o e q1 q2 q3)) (up _ _ h0I hs0 hd0)
end
end Mine
end
/-! ## part FR8 -/
section
open PySem PySem.W PyProof.Rows PySem.Calls
set_option bootstrap.genMatcherCode false
namespace Mine
theorem TR.backE {base : Heap} {env : Env} {oc : List (Str × Addr)} {K : KM} {ρ : List Addr} {st st' : AS} {h h₁ : Heap} {I l i : Nat} (T : TR base env oc K ρ st h I l i) {K₁ : KM} {ρ₁ : List Addr} (k1 : KLe (K.lock h [I]) K₁) (p1 : PLe ρ ρ₁) (R1 : Rep base env oc K₁ ρ₁ st' h₁) :
    KLe K (K₁.free [I]) ∧ TR base env oc (K₁.free [I]) ρ₁ st' h₁ I l i ∧ ∃ o, K₁ I = some o := by
  have U := unlock (D := [I]) T.rep.g.base T.rep.g.keep (fun b hb => by have hb := List.mem_singleton.mp hb; subst hb; exact T.off.2.1) T.it.notval k1 R1
  refine ⟨U.le, ⟨U.rep, T.it.move U.le p1 U.same, U.off I List.mem_cons_self⟩, ?_⟩
  obtain ⟨o, ho, _⟩ := T.it.notval I List.mem_cons_self
  exact ⟨o, k1 _ _ (by unfold KM.lock; rw [if_pos List.mem_cons_self]; exact ho)⟩
section
variable {c : Cx}
noncomputable def eRng : EM := eCall gRange (esCons (eBin (oInt fAdd) (eCall gLen (esCons (eVar (Str.ofString "octets")) esNil)) (eVal (.int 1))) esNil)
theorem eCall1_r {g : GF} {a : EM} {st s1 : AS} {x v : AV} {H' : List (List AV)} (h : a st = some (x, s1)) (h2 : g [x] s1.H = some (v, H')) : eCall g (esCons a esNil) st = some (v, { s1 with H := H' }) := by
  simp only [eCall, esCons, esNil, h, h2]
theorem eBin_r {f : List (List AV) → AV → AV → Option AV} {a b : EM} {st s1 s2 : AS} {x y z : AV} (h1 : a st = some (x, s1)) (h2 : b s1 = some (y, s2)) (h3 : f s2.H x y = some z) : eBin f a b st = some (z, s2) := by
  simp only [eBin, h1, h2, h3]
theorem gLen_r {H : List (List AV)} {l : Nat} {xs : List AV} (h : H[l]? = some xs) (hx : xs.length ≤ 1000000) : gLen [.lst l] H = some (.int xs.length, H) := by
  simp only [gLen, h]; rw [if_pos hx]
theorem itOf_r (a b : Int) (h : -(2 ^ 62) ≤ a ∧ a < 2 ^ 62 ∧ -(2 ^ 62) ≤ b ∧ b < 2 ^ 62) : itOf (.rng a b) = some (.rng a (b - a).toNat) := by
  unfold itOf
  dsimp only
  rw [if_pos h]
theorem iOf_r {F : EM} {st s1 : AS} {v : AV} {it : IT} (h : F st = some (v, s1)) (h2 : itOf v = some it) : iOf F st = some (it, s1) := by
  unfold iOf
  rw [h]
  dsimp only
  rw [h2]
theorem rng1 (N : Nat) (h : N ≤ 1000) : itOf (.rng 0 ((N : Int) + 1)) = some (.rng 0 (N + 1)) := by
  have h2 := itOf_r 0 ((N : Int) + 1) ⟨by decide, by decide, by (first | lia | omega), by (first | lia | omega)⟩
  have h3 : ((N : Int) + 1 - 0).toNat = N + 1 := by (first | lia | omega)
  rw [h3] at h2
  exact h2
theorem var_r {st : AS} {x : Str} {v : AV} (h : st.loc x = some v) : eVar x st = some (v, st) := by
  unfold eVar; rw [h]
theorem add_r (H : List (List AV)) (a b : Int) : oInt fAdd H (.int a) (.int b) = some (.int (a + b)) := rfl
theorem grng_r (H : List (List AV)) (b : Int) : gRange [.int b] H = some (.rng 0 b, H) := rfl
theorem eRng_ok {st : AS} {l : Nat} {xs : List AV} (h : st.loc (Str.ofString "octets") = some (.lst l)) (hl : st.H[l]? = some xs) (hx : xs.length ≤ 1000) : iOf eRng st = some (.rng 0 (xs.length + 1), st) := by
  have e1 := eCall1_r (var_r h) (gLen_r hl (by (first | lia | omega)))
  have e2 := eBin_r e1 (show eVal (.int 1) _ = some (.int 1, _) from rfl) (add_r _ _ _)
  have e3 := eCall1_r e2 (grng_r _ _)
  exact iOf_r e3 (rng1 _ hx)
theorem bindRead : ∀ pm cd doc, ∀ us : List Value, us.length = [Str.ofString "octets"].length → bindArgs (docDef (Str.ofString "_law_read") (parsOf (top 33)) (bodyOf (top 33)) (scopOf (top 33)) pm cd doc) ⟨us, []⟩ = pure ([Str.ofString "octets"].zip us) := by
  intro pm cd doc us h; exact bind_1 (F := fun us => bindArgs (docDef (Str.ofString "_law_read") (parsOf (top 33)) (bodyOf (top 33)) (scopOf (top 33)) pm cd doc) ⟨us, []⟩) h (fun u0 => by kernel_rfl)
noncomputable def sLoop : Stmt := nthS (bodyOf (top 33)) 2
inductive RInv (c : Cx) (env : Env) (K : KM) (ρ : List Addr) (s : Shared) (I l J n : Nat) (H : List (List AV)) (ys : List AV) (k : Nat) : Shared → Prop
  | mk {t : Nat} {K' : KM} {ρ' : List Addr} {h' : Heap} {tk' : Nat} {sa : AS} : t ≤ ys.length → k = ys.length - t + 1 → KLe K K' → PLe ρ ρ' → TJ c.base env [] K' ρ' sa h' I l (3 * t) J t (3 * ys.length + 1 - t) → sa.loc (Str.ofString "tape") = some (.raw (.ref I)) → sa.loc (Str.ofString "numbers") = some (.lst n) →
      sa.H = H ++ [ys.take t] → RInv c env K ρ s I l J n H ys k { s with heap := h', toks := tk' }
theorem read_loop {fp : Addr} (hc : c.Ok) (nm : Nm c) (hp : Fd c 8 (Str.ofString "_parse_varint") fp) {A : Around} (hA : AOk 2 A) {env env0 : Env} (hE : EnvIs A fR.t fR.sc env) {L0 : Addr} (hfr : A.frames = some [env, env0]) (hff : env.frame = some env.locals)
    (hk0 : env0.scope.kind ≠ .module) (hf0 : env0.frame = some L0) {K : KM} {o0 : Obj} (hK0 : K L0 = some o0) (hd0 : ∀ vs, o0.data ≠ .fields vs) (hb0 : c.base.get? L0 = none)
    {ρ : List Addr} {st : AS} {s : Shared} {I l n : Nat} {H : List (List AV)}
    (T : TR c.base env [] K ρ st s.heap I l 0) (hoct : st.loc (Str.ofString "octets") = some (.lst l)) (htape : st.loc (Str.ofString "tape") = some (.raw (.ref I))) (hnum : st.loc (Str.ofString "numbers") = some (.lst n)) (hH : st.H = H ++ [[]]) (hn : n = H.length)
    {xs ys : List AV} (hl : H[l]? = some xs) (hd : decode xs = some ys) (hy : ys.length ≤ 30)
    {Q : Flow → Shared → Prop} (hQ : ∀ a K' ρ' h' h₂ tk' lc, KLe K K' → PLe ρ ρ' → Rep c.base env [] K' ρ' ⟨lc, H ++ [ys]⟩ h₂ → (I ∉ ρ' ∧ K' I = none) → ρ'[n]? = some a → (∀ b o, h₂.get? b = some o → b ≠ env.locals → b ≠ L0 → b ≠ I → h'.get? b = some o) → (∃ sl, h'.get? L0 = some { o0 with slots := sl }) → Q (.ret (.ref a)) { s with heap := h', toks := tk' }) :
    wpAny (model c.prog c.w) A (exec sLoop env) Q (fun _ _ => False) s := by
  obtain ⟨hlen, hspec⟩ := decode_spec hd
  have hlt := (List.getElem?_eq_some_iff.mp hl).1
  have hls : st.H[l]? = some xs := by rw [hH, List.getElem?_append_left hlt]; exact hl
  show wpAny _ _ (exec (.For (.Name (Str.ofString "turn") ⟨104, 8, 104, 12⟩) _ [sTry] [] _) env) _ _ _
  have hi : It c fR (.Call (.Name (Str.ofString "range") ⟨104, 16, 104, 21⟩) [.BinOp (.Call (.Name (Str.ofString "len") ⟨104, 22, 104, 25⟩) [.Name (Str.ofString "octets") ⟨104, 26, 104, 32⟩] [] ⟨104, 22, 104, 33⟩) .Add (.Constant (.int 1) 0 ⟨104, 36, 104, 37⟩) ⟨104, 22, 104, 37⟩] [] ⟨104, 16, 104, 38⟩) (iOf eRng) :=
    It.of (Ev.callB hc (by kernel_rfl) nm.range Boot.«range» rfl (Es.cons (Ev.bin (Ev.callB hc (by kernel_rfl) nm.len Boot.«len» rfl (Es.cons (Ev.var (Str.ofString "octets") _) Es.nil) gop_len) (Ev.int 1 _ _) op_add) Es.nil) gop_range)
  refine wpAny_For (hi A env [] hA hE rfl st _ st (eRng_ok hoct hls (by (first | lia | omega))) _ ρ s T.lock _ fun J D K1 ρ1 h1 t1 k1 p1 R1 itJ off1 => ?_) (fun _ => rfl)
  obtain ⟨rfl, hJ⟩ := id itJ
  obtain ⟨k2, T2, oI, hoI⟩ := T.backE k1 p1 R1
  have offJ := off1 J List.mem_cons_self
  have hIJ : I ≠ J := fun q => by rw [q, offJ.2.1] at hoI; cases hoI
  have TJ1 : TJ c.base env [] (K1.free [I]) ρ1 st h1 I l 0 J 0 (xs.length + 1) := by
    refine ⟨T2.rep, T2.it, ⟨rfl, hJ⟩, fun b hb => ?_, hIJ⟩
    rcases List.mem_cons.mp hb with rfl | hb
    · exact T2.off
    · have hb := List.mem_singleton.mp hb
      subst hb
      refine ⟨offJ.1, ?_, offJ.2.2⟩
      unfold KM.free
      split
      · rfl
      · exact offJ.2.1
  refine loop_rule (RInv c env K ρ s I l J n H ys) Q (fun f s' h => h) ?_ (ys.length + 1) (.mk (Nat.zero_le _) rfl k2 p1 (by rw [hlen] at TJ1; exact TJ1) htape hnum (by rw [hH]; rfl))
  rintro k s' ⟨ht, rfl, k3, p3, T3, tape3, num3, H3⟩
  rename_i t K3 ρ3 h3 t3 sa
  have hleft : 3 * ys.length + 1 - t = (3 * ys.length - t) + 1 := by (first | lia | omega)
  have hnx : nextI (.rng (t : Int) (3 * ys.length + 1 - t)) sa.H = some (some (.int (t : Int), .rng ((t : Int) + 1) (3 * ys.length - t))) := by rw [hleft]; rfl
  have oJ := T3.off J (List.mem_cons_of_mem _ List.mem_cons_self)
  refine it_some (it_next (s := { s with heap := h3, toks := t3 }) (t := .Name (Str.ofString "turn") ⟨104, 8, 104, 12⟩) hA hnx (.inl rfl) T3.rep.g T3.itJ (fun b hb => by have hb := List.mem_singleton.mp hb; subst hb; exact ⟨oJ.1, oJ.2.1⟩)
    fun u K4 h4 t4 k4 G4 v4 T4 ok4 kk fr4 => ?_)
  have R4 := rep_item T3.rep (fun b hb => by have hb := List.mem_singleton.mp hb; subst hb; exact oJ.2.2) k4 G4 kk fr4
  have off4 : ∀ b ∈ [I, J], b ∉ ρ3 ∧ K4 b = none ∧ b ∉ frm env [] := fun b hb => by
    obtain ⟨o, ho, _⟩ := T3.notval b hb
    exact ⟨(T3.off b hb).1, fr4 b o ho (T3.off b hb).2.1, (T3.off b hb).2.2⟩
  cases v4
  refine wpAny_assign_Name (store_rep (f := fR) (s := { s with heap := h4, toks := t4 }) hE rfl (.inl (by kernel_rfl)) R4 (.int _ _) fun h5 t5 R5 hf5 => ?_)
  have T5 : TJ c.base env [] K4 ρ3 (sa.put (Str.ofString "turn") (.int t)) h5 I l (3 * t) J ((t : Int) + 1) (3 * ys.length - t) := by
    refine ⟨R5, T3.itI.move k4 (PLe.refl _) fun b hb => ?_, T4.move (KLe.refl _) (PLe.refl _) fun b hb => ?_, off4, T3.ne⟩
    · have hb := List.mem_singleton.mp hb
      subst hb
      obtain ⟨o, ho, _⟩ := T3.notval b List.mem_cons_self
      rw [hf5 _ (off4 _ List.mem_cons_self).2.2, ho]
      exact kk _ _ (fun q => T3.ne (List.mem_singleton.mp q)) ho
    · have hb := List.mem_singleton.mp hb
      subst hb
      exact hf5 _ (off4 _ (List.mem_cons_of_mem _ List.mem_cons_self)).2.2
  have tape5 : (sa.put (Str.ofString "turn") (.int t)).loc (Str.ofString "tape") = some (.raw (.ref I)) := by rw [put_other _ _ (by decide)]; exact tape3
  have num5 : (sa.put (Str.ofString "turn") (.int t)).loc (Str.ofString "numbers") = some (.lst n) := by rw [put_other _ _ (by decide)]; exact num3
  have H5 : (sa.put (Str.ofString "turn") (.int t)).H = H ++ [ys.take t] := H3
  generalize sa.put (Str.ofString "turn") (.int t) = sb at *
  have hl5 : sb.H[l]? = some xs := by rw [H5, List.getElem?_append_left hlt]; exact hl
  have hz5 : sb.H[n]? = some (ys.take t) := by rw [H5, hn, List.getElem?_append_right (Nat.le_refl _), Nat.sub_self]; rfl
  refine wpAny_execs_cons ?_
  rcases Nat.lt_or_ge t ys.length with hlt2 | hge
  · obtain ⟨B, D, x0, x1, x2, hB, hD, hyt⟩ := hspec t hlt2
    refine try_item (turn_item (s := { s with heap := h5, toks := t5 }) hc nm hp hA hE T5 tape5 num5 hl5 x0 x1 x2 hB hD hz5 (by rw [List.length_take]; (first | lia | omega)) fun K6 ρ6 h6 t6 k6 p6 T6 => ?_)
    refine wpAny_execs_nil ?_
    refine ⟨ys.length - (t + 1) + 1, by (first | lia | omega), .mk (t := t + 1) (sa := { sb with H := sb.H.set n (ys.take t ++ [.int (32768 + (B - 64) * 64 + D)]) }) hlt2 rfl (k3.trans (k4.trans k6)) (p3.trans p6) ?_ tape5 num5 ?_⟩
    · rw [show 3 * ys.length + 1 - (t + 1) = 3 * ys.length - t by (first | lia | omega), show ((t + 1 : Nat) : Int) = (t : Int) + 1 by (first | lia | omega)]
      exact T6
    · show sb.H.set n _ = _
      rw [H5, hn, List.set_append_right _ _ (Nat.le_refl _), Nat.sub_self, List.take_add_one, hyt]
      rfl
  · have htm : t = ys.length := by (first | lia | omega)
    have hx : xs[3 * t]? = none := List.getElem?_eq_none (by (first | lia | omega))
    refine turn_end (s := { s with heap := h5, toks := t5 }) hc nm hp hA hE hfr hff hk0 hf0 (k4 _ _ (k3 _ _ hK0)) hd0 hb0 T5 tape5 num5 hl5 hx fun a h6 t6 ha keep6 sl6 => ?_
    have hsb : sb.H = H ++ [ys] := by rw [H5, htm, List.take_length]
    refine hQ a K4 ρ3 h6 h5 t6 sb.loc (k3.trans k4) p3 (by rw [← hsb]; exact R5) ⟨(off4 I List.mem_cons_self).1, (off4 I List.mem_cons_self).2.1⟩ ha keep6 sl6
end
end Mine
end
/-! ## part FR9 -/
section
open PySem PySem.W PyProof.Rows PySem.Calls
set_option bootstrap.genMatcherCode false
namespace Mine
theorem KM.free_free (K : KM) (D D' : List Addr) (h : ∀ b ∈ D, b ∈ D') : (K.free D).free D' = K.free D' := by
  funext b
  unfold KM.free
  by_cases q : b ∈ D'
  · rw [if_pos q, if_pos q]
  · rw [if_neg q, if_neg q, if_neg fun z => q (h b z)]
/-- the caller's frame, whose own object got other slots -/
theorem read_fin {base : Heap} {env : Env} {oc : List (Str × Addr)} {K K1 K' : KM} {ρ ρ' : List Addr} {st : AS} {h h' : Heap} {Hn : List (List AV)} (R : Rep base env oc K ρ st h) (hle0 : KLe K K1) (hKf : ∀ x ∈ frm env oc, ∀ o, h.get? x = some o → K1 x = some o)
    (k : KLe K1 K') (p : PLe ρ ρ') (hLn : env.locals ∉ ρ') (G : GRep base (K'.free [env.locals]) ρ' Hn h') {o0 : Obj} (ho0 : h.get? env.locals = some o0) (hsl : ∃ sl, h'.get? env.locals = some { o0 with slots := sl }) :
    ∃ K₁, KLe K K₁ ∧ Rep base env oc K₁ ρ' { st with H := Hn } h' := by
  have hB : ∀ x ∈ frm env oc, base.get? x = none := fun x hx => by
    cases e : base.get? x with
    | none => rfl
    | some o => have := R.g.base x o e; rw [(R.off x hx).2] at this; cases this
  have G2 := G.free hB fun b hb o e => by
    obtain ⟨o', ho'⟩ := R.frm_there b hb
    have e2 := k _ _ (hKf b hb o' ho')
    unfold KM.free at e
    split at e
    · cases e
    · rw [e] at e2; cases e2
      exact R.frm_notval b hb o ho'
  rw [KM.free_free _ _ _ (fun b hb => by have hb := List.mem_singleton.mp hb; subst hb; exact List.mem_cons_self)] at G2
  have le : KLe K (K'.free (frm env oc)) := KLe.free (hle0.trans k) fun x hx => (R.off x hx).2
  refine ⟨_, le, R.moveS le p G2 (fun b hb o ho => ?_) fun b hb => ⟨fun hm => ?_, by unfold KM.free; rw [if_pos hb]⟩⟩
  · by_cases q : b = env.locals
    · subst q
      rw [ho0] at ho; cases ho
      exact hsl
    · exact ⟨o.slots, G.keep b o (free_at (k _ _ (hKf b hb o ho)) fun z => q (List.mem_singleton.mp z))⟩
  · by_cases q : b = env.locals
    · subst q; exact hLn hm
    · obtain ⟨o, ho⟩ := R.frm_there b hb
      have h1 := G.fresh b hm
      rw [free_at (k _ _ (hKf b hb o ho)) fun z => q (List.mem_singleton.mp z)] at h1
      cases h1
theorem GRep.loose {base : Heap} {K : KM} {ρ : List Addr} {H : List (List AV)} {h h' : Heap} (G : GRep base K ρ H h) {L0 Lr I : Addr} {o0 : Obj} (hb0 : base.get? L0 = none) (offr : Lr ∉ ρ ∧ K Lr = none) (offI : I ∉ ρ ∧ K I = none) (hK0 : K L0 = some o0) (hN : NotVal o0)
    (keep : ∀ b o, h.get? b = some o → b ≠ Lr → b ≠ L0 → b ≠ I → h'.get? b = some o) : GRep base (K.free [L0]) ρ H h' := by
  have hLn : L0 ∉ ρ := fun hm => by rw [G.fresh _ hm] at hK0; cases hK0
  refine ⟨fun b o e => free_at (G.base b o e) fun z => (by rw [List.mem_singleton.mp z, hb0] at e; cases e), fun b o e => ?_, G.len, fun i a xs e e' => ?_, G.nodup, fun a hm => ?_⟩
  · unfold KM.free at e
    split at e
    · cases e
    · rename_i hne
      refine keep b o (G.keep b o e) (fun q => ?_) (fun q => hne (by rw [q]; exact List.mem_cons_self)) fun q => ?_
      · rw [q, offr.2] at e; cases e
      · rw [q, offI.2] at e; cases e
  · obtain ⟨us, n, e1, e2⟩ := G.lists i a xs e e'
    have hm := mem_of_get e
    refine ⟨us, n, keep a _ e1 (fun q => offr.1 (q ▸ hm)) (fun q => hLn (q ▸ hm)) (fun q => offI.1 (q ▸ hm)), e2.free fun b hb o e3 => ?_⟩
    have hb := List.mem_singleton.mp hb
    subst hb
    rw [hK0] at e3; cases e3
    exact hN
  · unfold KM.free
    split
    · rfl
    · exact G.fresh a hm
section
variable {c : Cx}
theorem read_use {fa fp : Addr} (hc : c.Ok) (nm : Nm c) (hf : Fd c 33 (Str.ofString "_law_read") fa) (hp : Fd c 8 (Str.ofString "_parse_varint") fp) {A : Around} {env : Env} {oc : List (Str × Addr)} (hA : AOk 1 A) (hfr : A.frames = some [env]) (hff : env.frame = some env.locals)
    (hkd : env.scope.kind = .function) {st : AS} {args : List AV} {v : AV} {H' : List (List AV)} (e : gRead args st.H = some (v, H')) {K : KM} {ρ : List Addr} {s : Shared} (R : Rep c.base env oc K ρ st s.heap) {us : List Value} (r : VRs K ρ us args) {Q : Value → Shared → Prop}
    (hQ : ∀ u K₁ ρ₁ h₁ t₁, KLe K K₁ → PLe ρ ρ₁ → Rep c.base env oc K₁ ρ₁ { st with H := H' } h₁ → VR K₁ ρ₁ u v → Q u { s with heap := h₁, toks := t₁ }) : wpAny (model c.prog c.w) A (call (.ref fa) us) Q (fun _ _ => False) s := by
  obtain ⟨l, xs, ys, rfl, hl, hd, hy, rfl, rfl⟩ : ∃ l xs ys, args = [.lst l] ∧ st.H[l]? = some xs ∧ decode xs = some ys ∧ ys.length ≤ 30 ∧ v = .lst st.H.length ∧ H' = st.H ++ [ys] := by
    unfold gRead at e
    split at e
    · rename_i l
      split at e
      · rename_i xs h1
        split at e
        · rename_i ys h2
          split at e
          · rename_i h3
            cases e
            exact ⟨l, xs, ys, rfl, h1, h2, h3, rfl, rfl⟩
          · cases e
        · cases e
      · cases e
    · cases e
  have hle0 : KLe K (K.lock s.heap (frm env oc)) := KLe.lock R.g.keep
  have G1 := R.g.lock (D := frm env oc) fun b hb => (R.off b hb).1
  have hKf : ∀ x ∈ frm env oc, ∀ o, s.heap.get? x = some o → (K.lock s.heap (frm env oc)) x = some o := fun x hx o ho => by unfold KM.lock; rw [if_pos hx]; exact ho
  have hb0 : c.base.get? env.locals = none := by
    cases e : c.base.get? env.locals with
    | none => rfl
    | some o => have := R.g.base _ o e; rw [(R.off _ List.mem_cons_self).2] at this; cases this
  obtain ⟨m0, ⟨o0, es0, ep0, ho0, hd0, hr0⟩, hm0⟩ := R.ns
  have hL0 : env.locals ∈ frm env oc := List.mem_cons_self
  have hK0 := hKf _ hL0 _ ho0
  have hnf0 : ∀ vs, o0.data ≠ .fields vs := fun vs q => by rw [hd0] at q; cases q
  have r1 := r.mono hle0 (PLe.refl ρ)
  generalize K.lock s.heap (frm env oc) = K1 at *
  refine enter (names := [Str.ofString "octets"]) hc hf (by decide) bindRead (by kernel_rfl) (by kernel_rfl) (by kernel_rfl) (by kernel_rfl) (by decide +kernel) hA G1 (us := us) (args := [.lst l]) r1 rfl fun envr h₁ tk hE hfr1 hloc hkeep Rr => ?_
  refine wpAny_noRaise ?_
  have hA2 : AOk 2 (A.deeper envr) := hA.deeper envr (by decide)
  have hfr2 : (A.deeper envr).frames = some [envr, env] := Around.frames_deeper hfr
  have hE : EnvIs (A.deeper envr) fR.t fR.sc envr := hE
  have hLr : ∀ b, b < s.heap.objs.size → b ≠ envr.locals := fun b hb q => by rw [q, hloc] at hb; exact Nat.lt_irrefl _ hb
  generalize hst : (⟨locAfter ([Str.ofString "octets"].zip [.lst l]) (fun _ => none), st.H⟩ : AS) = st0 at Rr
  have oct0 : st0.loc (Str.ofString "octets") = some (.lst l) := by rw [← hst]; rfl
  have H0 : st0.H = st.H := by rw [← hst]
  have hbody : bodyOf (top 33) = nthS (bodyOf (top 33)) 0 :: nthS (bodyOf (top 33)) 1 :: sLoop :: (bodyOf (top 33)).drop 3 := by kernel_rfl
  rw [hbody]
  refine wpAny_execs_cons ?_
  show wpAny _ _ (exec (.Assign [.Name (Str.ofString "tape") _] (.Call (.Name (Str.ofString "iter") _) [.Name (Str.ofString "octets") _] [] _) _) envr) _ _ _
  refine wpAny_Assign_Name ?_ rfl
  rw [eval_callName]
  refine wpAny_bind (Name_function_global (by rw [hE.scope]; exact hE.kind) (by unfold Env.kindOf; rw [hE.scope]; kernel_rfl) (loadGlobal_builtin (by rw [hE.globals]; exact ns_up Rr.g hc.g) nm.iter (by rw [hE.builtins]; exact ns_up Rr.g hc.b) (by rw [hc.builtins _ (by decide)]; exact Boot.«iter») ?_))
  refine callWith_val rfl rfl rfl ?_
  refine wpAny_items_cons (wpAny_Name (load_rep (f := fR) hE oct0 (by kernel_rfl) Rr fun u r => ?_) (by decide)) rfl
  cases r using VR.lstE with
  | lst hr =>
    rename_i a
    refine wpAny_items_nil ?_
    show wpAny _ _ (call (.builtin "iter") [.ref a]) _ _ _
    obtain ⟨us', n', e2, e3⟩ := Rr.g.lists l a xs hr (H0 ▸ hl)
    refine iter_list ⟨_, e2, rfl, n', rfl⟩ ?_
    obtain ⟨o1, o2, o3⟩ := Rr.off_of (get_none_of (Nat.le_refl h₁.objs.size))
    have R1 : Rep c.base envr [] K1 ρ st0 (h₁.push { cls := .type "list_iterator", data := .fields #[.ref a, .int 0 0] }) := Rr.grow fun _ _ e => Heap.get?_push_of_some _ e
    refine store_rep (f := fR) (s := { s with heap := h₁.push { cls := .type "list_iterator", data := .fields #[.ref a, .int 0 0] }, toks := tk }) hE rfl (.inl (by kernel_rfl)) R1 (.raw (.ref h₁.objs.size)) fun h2 tk2 R2 hf2 => ?_
    have T2 : TR c.base envr [] K1 ρ (st0.put (Str.ofString "tape") (.raw (.ref h₁.objs.size))) h2 h₁.objs.size l 0 :=
      ⟨R2, ⟨rfl, a, hr, _, (hf2 _ o1).trans (Heap.get?_push_size _ rfl), rfl, rfl⟩, o2, o3, o1⟩
    generalize h₁.objs.size = I at *
    have tape1 : (st0.put (Str.ofString "tape") (.raw (.ref I))).loc (Str.ofString "tape") = some (.raw (.ref I)) := put_same _ _ _
    have oct1 : (st0.put (Str.ofString "tape") (.raw (.ref I))).loc (Str.ofString "octets") = some (.lst l) := by rw [put_other _ _ (by decide)]; exact oct0
    have H1 : (st0.put (Str.ofString "tape") (.raw (.ref I))).H = st.H := H0
    generalize st0.put (Str.ofString "tape") (.raw (.ref I)) = st1 at *
    refine wpAny_execs_cons ?_
    have hs1 : St c fR (.Assign [.Name (Str.ofString "numbers") ⟨103, 4, 103, 11⟩] (.List [] ⟨103, 14, 103, 16⟩) ⟨103, 4, 103, 16⟩) (sAssign (Str.ofString "numbers") (eCall gList esNil)) := St.assign (Ev.list Es.nil (by decide) esNil_len) (.inl (by kernel_rfl))
    show wpAny _ _ (exec (.Assign [.Name (Str.ofString "numbers") ⟨103, 4, 103, 11⟩] (.List [] ⟨103, 14, 103, 16⟩) ⟨103, 4, 103, 16⟩) envr) _ _ _
    refine step (s := { s with heap := h2, toks := tk2 }) (hs1 (A.deeper envr) envr [] hA2 hE rfl st1 .next ({ st1 with H := st1.H ++ [[]] }.put (Str.ofString "numbers") (.lst st1.H.length)) rfl _ ρ _ T2.lock) fun u K3 ρ3 h3 t3 k3 p3 R3 r3 => ?_
    cases r3
    obtain ⟨k4, T4, _⟩ := T2.backE k3 p3 R3
    generalize hst2 : ({ st1 with H := st1.H ++ [[]] } : AS).put (Str.ofString "numbers") (.lst st1.H.length) = st2 at *
    have tape2 : st2.loc (Str.ofString "tape") = some (.raw (.ref I)) := by rw [← hst2, put_other _ _ (by decide)]; exact tape1
    have oct2 : st2.loc (Str.ofString "octets") = some (.lst l) := by rw [← hst2, put_other _ _ (by decide)]; exact oct1
    have num2 : st2.loc (Str.ofString "numbers") = some (.lst st.H.length) := by rw [← hst2, put_same, H1]
    have H2 : st2.H = st.H ++ [[]] := by rw [← hst2, ← H1]; rfl
    refine wpAny_execs_cons ?_
    refine read_loop (s := { s with heap := h3, toks := t3 }) hc nm hp hA2 hE hfr2 hfr1 (by rw [hkd]; decide) hff (k4 _ _ hK0) hnf0 hb0 T4 oct2 tape2 num2 H2 rfl hl hd hy fun a' K5 ρ5 h5 h6 t5 lc k5 p5 R5 off5 ha' keep5 sl5 => ?_
    have hK5 := k5 _ _ (k4 _ _ hK0)
    obtain ⟨K9, k9, R9⟩ := read_fin R hle0 hKf (k4.trans k5) (p3.trans p5) (fun hm => by rw [R5.g.fresh _ hm] at hK5; cases hK5) (R5.g.loose hb0 (R5.off envr.locals List.mem_cons_self) off5 hK5 ⟨fun us n q => (by rw [hd0] at q; cases q), fun fs q => (by rw [hd0] at q; cases q)⟩ keep5) ho0 sl5
    exact hQ _ K9 ρ5 h5 t5 k9 (p3.trans p5) R9 (.lst ha')
end
section
variable {c : Cx} {f : Fx}
/-- a call of «_law_read» from the law's own frame -/
theorem Ev.callR {np pos : Pos} {e : Expr} {rest : List Expr} {Fa : EsM} {fa fp : Addr} (hc : c.Ok) (nm : Nm c) (hf : Fd c 33 (Str.ofString "_law_read") fa) (hp : Fd c 8 (Str.ofString "_parse_varint") fp) (hk : f.k = 1) (ht : f.t = true)
    (hx : f.sc.names.lookup (Str.ofString "_law_read") = some .globalImplicit) (ha : Es c f (e :: rest) Fa)
    (hplain : ∀ env, (backTo pos (starEach (e :: rest) env)).any (·.1) = false := by intro _; rfl) (he : ∀ env, starEach (e :: rest) env = (false, eval e env) :: starEach rest env := by intro _; rfl) :
    Ev c f (.Call (.Name (Str.ofString "_law_read") np) (e :: rest) [] pos) (eCall gRead Fa) := by
  intro A env oc hA hE hoc st v st' hF K ρ s R
  unfold eCall at hF
  split at hF
  · rename_i xs s1 h1
    split at hF
    · rename_i w H' h2
      cases hF
      have hf' := hf
      obtain ⟨hm, o, pm, cd, doc, ho, hd, hcd⟩ := hf'
      rw [eval_callName]
      refine wpAny_bind (Name_function_global (by rw [hE.scope]; exact hE.kind) (by unfold Env.kindOf; rw [hE.scope]; exact hx) (loadGlobal_global (by rw [hE.globals]; exact ns_up R.g hc.g) hm ?_))
      have hsp := ha A env oc hA hE hoc _ _ _ h1 K ρ s R pos
      rw [he env] at hsp ⊢
      refine callWith_function (o := o) (fd := docDef (Str.ofString "_law_read") (parsOf (top 33)) (bodyOf (top 33)) (scopOf (top 33)) pm cd doc) (evalArgs_plain ?_)
      refine step hsp fun u K₁ ρ₁ h₁ t₁ k1 p1 R1 r1 => ?_
      refine ⟨⟨R1.g.keep _ _ (R1.g.base _ _ ho), hd⟩, ?_⟩
      rw [List.nil_append]
      refine read_use hc nm hf hp (hk ▸ hA) (hE.on ht).1 (hE.on ht).2 (by rw [hE.scope]; exact hE.kind) h2 R1 r1 fun u' K₂ ρ₂ h₂ t₂ k2 p2 R2 r2 => ?_
      exact Pst.mk (K' := K₂) (ρ' := ρ₂) (k1.trans k2) (p1.trans p2) R2 r2
    · cases hF
  · cases hF
end
end Mine
end
/-! ## part FR10 -/
section
open PySem PySem.W PyProof.Rows PySem.Calls
set_option bootstrap.genMatcherCode false
namespace Mine
/-! ### the script: a list that stays as it is -/
noncomputable def eUptoR (a : Addr) (ns : List Int) (Fa Fb : EM) : EM := fun st => match Fa st with
  | some (.raw (.ref b), s1) => match Fb s1 with
    | some (.int k, s2) => if b = a ∧ 0 ≤ k ∧ ns.length ≤ 1000 then some (.lst s2.H.length, { s2 with H := s2.H ++ [(ns.take k.toNat).map AV.int] }) else none
    | _ => none
  | _ => none
section
variable {c : Cx} {f : Fx}
theorem IntsAre.len : ∀ {us : List Value} {ns : List Int}, IntsAre us ns → us.length = ns.length
  | _, _, .nil => rfl
  | _, _, .cons n t r => by rw [List.length_cons, List.length_cons, IntsAre.len r]
theorem Ev.uptoR {a b : Expr} {p pos : Pos} {Fa Fb : EM} {sa : Addr} {us : List Value} {ns : List Int} (hL : c.base.IsList sa us.toArray) (hI : IntsAre us ns) (ha : Ev c f a Fa) (hb : Ev c f b Fb) (ht : ∀ o r, letTemporaryGo a o r = pure () := by intro _ _; rfl) :
    Ev c f (.Subscript a (.Slice none (some b) none p) pos) (eUptoR sa ns Fa Fb) := by
  intro A env oc hA hE hoc st v st' hF K ρ s R
  unfold eUptoR at hF
  split at hF
  · rename_i b' s1 h1
    split at hF
    · rename_i k s2 h2
      split at hF
      · rename_i hk
        obtain ⟨rfl, hk, hn⟩ := hk
        cases hF
        refine wpAny_Subscript_list_slice (step (ha A env oc hA hE hoc _ _ _ h1 K ρ s R) fun u K₁ ρ₁ h₁ t₁ k1 p1 R1 r1 => ?_) ht
        rw [evalPart_none]
        refine wpAny_pure ?_
        rw [evalPart_some]
        refine step (hb A env oc hA hE hoc _ _ _ h2 K₁ ρ₁ _ R1) fun u' K₂ ρ₂ h₂ t₂ k2 p2 R2 r2 => ?_
        cases r2 using VR.intE with
        | int _ t =>
          cases r1
          have hlen := IntsAre.len hI
          obtain ⟨o, ho, hr⟩ := hL
          refine ⟨_, us.toArray, none, some k, rfl, ⟨o, R2.g.keep _ _ (R2.g.base _ _ ho), hr⟩, by rw [List.size_toArray, sizeLine_eq]; (first | lia | omega), .none, .int _ _, ?_⟩
          obtain ⟨ep, R3⟩ := upto_tail R2 (VRs.ofInts hI) hk t
          rw [ep]
          rw [List.map_take]
          exact Pst.mk (K' := K₂) (ρ' := ρ₂ ++ [h₂.objs.size + 1]) (k1.trans k2) ((p1.trans p2).trans (PLe.snoc _ _)) R3 (.lst (newL_len R2.g _))
      · cases hF
    · cases hF
  · cases hF
end
end Mine
end
/-! ## part FW17 -/
section
open PySem PySem.W PyProof.Rows PySem.Calls
set_option bootstrap.genMatcherCode false
namespace Mine
noncomputable def bDown_w1_t : TM :=
  (tCmp (cInt fun a b => decide (a > b)) (eVar (Str.ofString "pos")) (eVar (Str.ofString "startpos")))
noncomputable def bDown_w1_b : SM :=
  (sSeq (sAssign (Str.ofString "parentpos") (eBin (oInt fShr) (eBin (oInt fSub) (eVar (Str.ofString "pos")) (eVal (.int 1))) (eVal (.int 1)))) (sSeq (sAssign (Str.ofString "parent") (eBin oItem (eVar (Str.ofString "heap")) (eVar (Str.ofString "parentpos")))) (sSeq (sIf (tCmp cTup (eVar (Str.ofString "newitem")) (eVar (Str.ofString "parent"))) (sSeq (sSetIdx (eVar (Str.ofString "heap")) (eVar (Str.ofString "pos")) (eVar (Str.ofString "parent"))) (sSeq (sAssign (Str.ofString "pos") (eVar (Str.ofString "parentpos"))) (sFl .cont))) (sFl .next)) (sFl .brk))))
noncomputable def bDown_0 : SM :=
  (sAssign (Str.ofString "newitem") (eBin oItem (eVar (Str.ofString "heap")) (eVar (Str.ofString "pos"))))
noncomputable def bDown_1 : SM :=
  (sWhile bDown_w1_t bDown_w1_b 100)
noncomputable def bDown_2 : SM :=
  (sSetIdx (eVar (Str.ofString "heap")) (eVar (Str.ofString "pos")) (eVar (Str.ofString "newitem")))
noncomputable def bDown : SM :=
  (sSeq bDown_0 (sSeq bDown_1 bDown_2))
noncomputable def gDown : GF := gFn [(Str.ofString "heap"), (Str.ofString "startpos"), (Str.ofString "pos")] bDown
set_option maxRecDepth 20000 in
set_option maxHeartbeats 4000000 in
theorem bodyDown {c : Cx} {k : Nat} (hc : c.Ok) (nm : Nm c) : Bd c 3 [] k bDown := ⟨
  (Ss.cons (St.assign (Ev.idx (Ev.var (Str.ofString "heap") _) (Ev.var (Str.ofString "pos") _) (op_item (by intros; rfl) (by intros; rfl))) (.inl (by kernel_rfl)))
    (Ss.cons (St.whileS 100 (Tt.cmp (Ev.var (Str.ofString "pos") _) (Ev.var (Str.ofString "startpos") _) op_gt) (Ss.cons (St.assign (Ev.bin (Ev.bin (Ev.var (Str.ofString "pos") _) (Ev.int 1 _ _) op_sub) (Ev.int 1 _ _) op_shr) (.inl (by kernel_rfl)))
    (Ss.cons (St.assign (Ev.idx (Ev.var (Str.ofString "heap") _) (Ev.var (Str.ofString "parentpos") _) (op_item (by intros; rfl) (by intros; rfl))) (.inl (by kernel_rfl)))
    (Ss.cons (St.ite (Tt.cmp (Ev.var (Str.ofString "newitem") _) (Ev.var (Str.ofString "parent") _) op_ltt) (Ss.cons (St.setIdx (Ev.var (Str.ofString "parent") _) (Ev.var (Str.ofString "heap") _) (Ev.var (Str.ofString "pos") _))
    (Ss.cons (St.assign (Ev.var (Str.ofString "parentpos") _) (.inl (by kernel_rfl)))
    (Ss.one (St.cont _)))) Ss.nil)
    (Ss.one (St.brk _))))))
    (Ss.one (St.setIdx (Ev.var (Str.ofString "newitem") _) (Ev.var (Str.ofString "heap") _) (Ev.var (Str.ofString "pos") _)))))⟩
theorem fnDown {c : Cx} {k : Nat} (hc : c.Ok) (nm : Nm c) (hk : k + 1 ≤ 50) {fa : Addr} (hfa : Fd c 3 (Str.ofString "_siftdown") fa) : Fn c k fa gDown :=
  Fd.fn (own := []) hc hfa (bodyDown hc nm) hk
    (by intro pm cd doc us h; exact bind_3 (F := fun us => bindArgs (docDef (Str.ofString "_siftdown") (parsOf (top 3)) (bodyOf (top 3)) (scopOf (top 3)) pm cd doc) ⟨us, []⟩) h (fun u0 u1 u2 => by kernel_rfl)) (by kernel_rfl) (by kernel_rfl) (by kernel_rfl) (by kernel_rfl) (by decide +kernel) (by decide +kernel) (by decide +kernel)
noncomputable def bUp_w1_t : TM :=
  (tCmp (cInt fun a b => decide (a < b)) (eVar (Str.ofString "childpos")) (eVar (Str.ofString "endpos")))
noncomputable def bUp_w1_b : SM :=
  (sSeq (sAssign (Str.ofString "rightpos") (eBin (oInt fAdd) (eVar (Str.ofString "childpos")) (eVal (.int 1)))) (sSeq (sIf (tAnd (tCmp (cInt fun a b => decide (a < b)) (eVar (Str.ofString "rightpos")) (eVar (Str.ofString "endpos"))) (tNot (tCmp cTup (eBin oItem (eVar (Str.ofString "heap")) (eVar (Str.ofString "childpos"))) (eBin oItem (eVar (Str.ofString "heap")) (eVar (Str.ofString "rightpos")))))) (sAssign (Str.ofString "childpos") (eVar (Str.ofString "rightpos"))) (sFl .next)) (sSeq (sSetIdx (eVar (Str.ofString "heap")) (eVar (Str.ofString "pos")) (eBin oItem (eVar (Str.ofString "heap")) (eVar (Str.ofString "childpos")))) (sSeq (sAssign (Str.ofString "pos") (eVar (Str.ofString "childpos"))) (sAssign (Str.ofString "childpos") (eBin (oInt fAdd) (eBin (oInt fMul) (eVal (.int 2)) (eVar (Str.ofString "pos"))) (eVal (.int 1))))))))
noncomputable def bUp_0 : SM :=
  (sAssign (Str.ofString "endpos") (eCall gLen (esCons (eVar (Str.ofString "heap")) esNil)))
noncomputable def bUp_1 : SM :=
  (sAssign (Str.ofString "startpos") (eVar (Str.ofString "pos")))
noncomputable def bUp_2 : SM :=
  (sAssign (Str.ofString "newitem") (eBin oItem (eVar (Str.ofString "heap")) (eVar (Str.ofString "pos"))))
noncomputable def bUp_3 : SM :=
  (sAssign (Str.ofString "childpos") (eBin (oInt fAdd) (eBin (oInt fMul) (eVal (.int 2)) (eVar (Str.ofString "pos"))) (eVal (.int 1))))
noncomputable def bUp_4 : SM :=
  (sWhile bUp_w1_t bUp_w1_b 100)
noncomputable def bUp_5 : SM :=
  (sSetIdx (eVar (Str.ofString "heap")) (eVar (Str.ofString "pos")) (eVar (Str.ofString "newitem")))
noncomputable def bUp_6 : SM :=
  (sExpr (eCall gDown (esCons (eVar (Str.ofString "heap")) (esCons (eVar (Str.ofString "startpos")) (esCons (eVar (Str.ofString "pos")) esNil)))))
noncomputable def bUp : SM :=
  (sSeq bUp_0 (sSeq bUp_1 (sSeq bUp_2 (sSeq bUp_3 (sSeq bUp_4 (sSeq bUp_5 bUp_6))))))
noncomputable def gUp : GF := gFn [(Str.ofString "heap"), (Str.ofString "pos")] bUp
set_option maxRecDepth 20000 in
set_option maxHeartbeats 4000000 in
theorem bodyUp {c : Cx} {k : Nat} (hc : c.Ok) (nm : Nm c) {aDown : Addr} (dDown : Fd c 3 (Str.ofString "_siftdown") aDown) (hDown : Fn c (k + 1) aDown gDown) : Bd c 4 [] k bUp := ⟨
  (Ss.cons (St.assign (Ev.callB hc (by kernel_rfl) nm.len Boot.«len» rfl (Es.cons (Ev.var (Str.ofString "heap") _) Es.nil) gop_len) (.inl (by kernel_rfl)))
    (Ss.cons (St.assign (Ev.var (Str.ofString "pos") _) (.inl (by kernel_rfl)))
    (Ss.cons (St.assign (Ev.idx (Ev.var (Str.ofString "heap") _) (Ev.var (Str.ofString "pos") _) (op_item (by intros; rfl) (by intros; rfl))) (.inl (by kernel_rfl)))
    (Ss.cons (St.assign (Ev.bin (Ev.bin (Ev.int 2 _ _) (Ev.var (Str.ofString "pos") _) op_mul) (Ev.int 1 _ _) op_add) (.inl (by kernel_rfl)))
    (Ss.cons (St.whileS 100 (Tt.cmp (Ev.var (Str.ofString "childpos") _) (Ev.var (Str.ofString "endpos") _) op_lt) (Ss.cons (St.assign (Ev.bin (Ev.var (Str.ofString "childpos") _) (Ev.int 1 _ _) op_add) (.inl (by kernel_rfl)))
    (Ss.cons (St.ite (Tt.and (Tt.cmp (Ev.var (Str.ofString "rightpos") _) (Ev.var (Str.ofString "endpos") _) op_lt) (Tt.not (Tt.cmp (Ev.idx (Ev.var (Str.ofString "heap") _) (Ev.var (Str.ofString "childpos") _) (op_item (by intros; rfl) (by intros; rfl))) (Ev.idx (Ev.var (Str.ofString "heap") _) (Ev.var (Str.ofString "rightpos") _) (op_item (by intros; rfl) (by intros; rfl))) op_ltt))) (Ss.one (St.assign (Ev.var (Str.ofString "rightpos") _) (.inl (by kernel_rfl)))) Ss.nil)
    (Ss.cons (St.setIdx (Ev.idx (Ev.var (Str.ofString "heap") _) (Ev.var (Str.ofString "childpos") _) (op_item (by intros; rfl) (by intros; rfl))) (Ev.var (Str.ofString "heap") _) (Ev.var (Str.ofString "pos") _))
    (Ss.cons (St.assign (Ev.var (Str.ofString "childpos") _) (.inl (by kernel_rfl)))
    (Ss.one (St.assign (Ev.bin (Ev.bin (Ev.int 2 _ _) (Ev.var (Str.ofString "pos") _) op_mul) (Ev.int 1 _ _) op_add) (.inl (by kernel_rfl)))))))))
    (Ss.cons (St.setIdx (Ev.var (Str.ofString "newitem") _) (Ev.var (Str.ofString "heap") _) (Ev.var (Str.ofString "pos") _))
    (Ss.one (St.expr (Ev.callD hc dDown (by kernel_rfl) (Es.cons (Ev.var (Str.ofString "heap") _) (Es.cons (Ev.var (Str.ofString "startpos") _) (Es.cons (Ev.var (Str.ofString "pos") _) Es.nil))) hDown)))))))))⟩
theorem fnUp {c : Cx} {k : Nat} (hc : c.Ok) (nm : Nm c) {aDown : Addr} (dDown : Fd c 3 (Str.ofString "_siftdown") aDown) (hDown : Fn c (k + 1) aDown gDown) (hk : k + 1 ≤ 50) {fa : Addr} (hfa : Fd c 4 (Str.ofString "_siftup") fa) : Fn c k fa gUp :=
  Fd.fn (own := []) hc hfa (bodyUp hc nm dDown hDown) hk
    (by intro pm cd doc us h; exact bind_2 (F := fun us => bindArgs (docDef (Str.ofString "_siftup") (parsOf (top 4)) (bodyOf (top 4)) (scopOf (top 4)) pm cd doc) ⟨us, []⟩) h (fun u0 u1 => by kernel_rfl)) (by kernel_rfl) (by kernel_rfl) (by kernel_rfl) (by kernel_rfl) (by decide +kernel) (by decide +kernel) (by decide +kernel)
noncomputable def bHPush_0 : SM :=
  (sExpr (eMeth isLst gAppend (eVar (Str.ofString "heap")) (esCons (eVar (Str.ofString "item")) esNil)))
noncomputable def bHPush_1 : SM :=
  (sExpr (eCall gDown (esCons (eVar (Str.ofString "heap")) (esCons (eVal (.int 0)) (esCons (eBin (oInt fSub) (eCall gLen (esCons (eVar (Str.ofString "heap")) esNil)) (eVal (.int 1))) esNil)))))
noncomputable def bHPush : SM :=
  (sSeq bHPush_0 bHPush_1)
noncomputable def gHPush : GF := gFn [(Str.ofString "heap"), (Str.ofString "item")] bHPush
set_option maxRecDepth 20000 in
set_option maxHeartbeats 4000000 in
theorem bodyHPush {c : Cx} {k : Nat} (hc : c.Ok) (nm : Nm c) {aDown : Addr} (dDown : Fd c 3 (Str.ofString "_siftdown") aDown) (hDown : Fn c (k + 1) aDown gDown) : Bd c 1 [] k bHPush := ⟨
  (Ss.cons (St.expr (Ev.meth (MGet.lst PySem.F.slot_list_append PySem.F.type_list_append) (Ev.var (Str.ofString "heap") _) (Es.cons (Ev.var (Str.ofString "item") _) Es.nil) gop_append))
    (Ss.one (St.expr (Ev.callD hc dDown (by kernel_rfl) (Es.cons (Ev.var (Str.ofString "heap") _) (Es.cons (Ev.int 0 _ _) (Es.cons (Ev.bin (Ev.callB hc (by kernel_rfl) nm.len Boot.«len» rfl (Es.cons (Ev.var (Str.ofString "heap") _) Es.nil) gop_len) (Ev.int 1 _ _) op_sub) Es.nil))) hDown))))⟩
theorem fnHPush {c : Cx} {k : Nat} (hc : c.Ok) (nm : Nm c) {aDown : Addr} (dDown : Fd c 3 (Str.ofString "_siftdown") aDown) (hDown : Fn c (k + 1) aDown gDown) (hk : k + 1 ≤ 50) {fa : Addr} (hfa : Fd c 1 (Str.ofString "heappush") fa) : Fn c k fa gHPush :=
  Fd.fn (own := []) hc hfa (bodyHPush hc nm dDown hDown) hk
    (by intro pm cd doc us h; exact bind_2 (F := fun us => bindArgs (docDef (Str.ofString "heappush") (parsOf (top 1)) (bodyOf (top 1)) (scopOf (top 1)) pm cd doc) ⟨us, []⟩) h (fun u0 u1 => by kernel_rfl)) (by kernel_rfl) (by kernel_rfl) (by kernel_rfl) (by kernel_rfl) (by decide +kernel) (by decide +kernel) (by decide +kernel)
noncomputable def bHPop_0 : SM :=
  (sAssign (Str.ofString "lastelt") (eMeth isLst gPop (eVar (Str.ofString "heap")) esNil))
noncomputable def bHPop_1 : SM :=
  (sIf (tVal trLst (eVar (Str.ofString "heap"))) (sSeq (sAssign (Str.ofString "returnitem") (eBin oItem (eVar (Str.ofString "heap")) (eVal (.int 0)))) (sSeq (sSetIdx (eVar (Str.ofString "heap")) (eVal (.int 0)) (eVar (Str.ofString "lastelt"))) (sSeq (sExpr (eCall gUp (esCons (eVar (Str.ofString "heap")) (esCons (eVal (.int 0)) esNil)))) (sRet (eVar (Str.ofString "returnitem")))))) (sFl .next))
noncomputable def bHPop_2 : SM :=
  (sRet (eVar (Str.ofString "lastelt")))
noncomputable def bHPop : SM :=
  (sSeq bHPop_0 (sSeq bHPop_1 bHPop_2))
noncomputable def gHPop : GF := gFn [(Str.ofString "heap")] bHPop
set_option maxRecDepth 20000 in
set_option maxHeartbeats 4000000 in
theorem bodyHPop {c : Cx} {k : Nat} (hc : c.Ok) (nm : Nm c) {aUp : Addr} (dUp : Fd c 4 (Str.ofString "_siftup") aUp) (hUp : Fn c (k + 1) aUp gUp) : Bd c 2 [] k bHPop := ⟨
  (Ss.cons (St.assign (Ev.meth0 (MGet.lst PySem.F.slot_list_pop PySem.F.type_list_pop) (Ev.var (Str.ofString "heap") _) gop_pop) (.inl (by kernel_rfl)))
    (Ss.cons (St.ite (Tt.val (Ev.var (Str.ofString "heap") _) tr_lst) (Ss.cons (St.assign (Ev.idx (Ev.var (Str.ofString "heap") _) (Ev.int 0 _ _) (op_item (by intros; rfl) (by intros; rfl))) (.inl (by kernel_rfl)))
    (Ss.cons (St.setIdx (Ev.var (Str.ofString "lastelt") _) (Ev.var (Str.ofString "heap") _) (Ev.int 0 _ _))
    (Ss.cons (St.expr (Ev.callD hc dUp (by kernel_rfl) (Es.cons (Ev.var (Str.ofString "heap") _) (Es.cons (Ev.int 0 _ _) Es.nil)) hUp))
    (Ss.one (St.ret (Ev.var (Str.ofString "returnitem") _)))))) Ss.nil)
    (Ss.one (St.ret (Ev.var (Str.ofString "lastelt") _)))))⟩
theorem fnHPop {c : Cx} {k : Nat} (hc : c.Ok) (nm : Nm c) {aUp : Addr} (dUp : Fd c 4 (Str.ofString "_siftup") aUp) (hUp : Fn c (k + 1) aUp gUp) (hk : k + 1 ≤ 50) {fa : Addr} (hfa : Fd c 2 (Str.ofString "heappop") fa) : Fn c k fa gHPop :=
  Fd.fn (own := []) hc hfa (bodyHPop hc nm dUp hUp) hk
    (by intro pm cd doc us h; exact bind_1 (F := fun us => bindArgs (docDef (Str.ofString "heappop") (parsOf (top 2)) (bodyOf (top 2)) (scopOf (top 2)) pm cd doc) ⟨us, []⟩) h (fun u0 => by kernel_rfl)) (by kernel_rfl) (by kernel_rfl) (by kernel_rfl) (by kernel_rfl) (by decide +kernel) (by decide +kernel) (by decide +kernel)
end Mine
end
/-! ## part FW18 -/
section
open PySem PySem.W PyProof.Rows PySem.Calls
set_option bootstrap.genMatcherCode false
namespace Mine
noncomputable def bIfmt_0 : SM :=
  (sRet (eBin (oInt fAnd) (eVar (Str.ofString "mode")) (eVal (.int 61440))))
noncomputable def bIfmt : SM :=
  bIfmt_0
noncomputable def gIfmt : GF := gFn [(Str.ofString "mode")] bIfmt
set_option maxRecDepth 20000 in
set_option maxHeartbeats 4000000 in
theorem bodyIfmt {c : Cx} {k : Nat} (hc : c.Ok) (nm : Nm c) : Bd c 10 [] k bIfmt := ⟨
  (Ss.one (St.ret (Ev.bin (Ev.var (Str.ofString "mode") _) (Ev.int 61440 _ _) op_and)))⟩
theorem fnIfmt {c : Cx} {k : Nat} (hc : c.Ok) (nm : Nm c) (hk : k + 1 ≤ 50) {fa : Addr} (hfa : Fd c 10 (Str.ofString "S_IFMT") fa) : Fn c k fa gIfmt :=
  Fd.fn (own := []) hc hfa (bodyIfmt hc nm) hk
    (by intro pm cd doc us h; exact bind_1 (F := fun us => bindArgs (docDef (Str.ofString "S_IFMT") (parsOf (top 10)) (bodyOf (top 10)) (scopOf (top 10)) pm cd doc) ⟨us, []⟩) h (fun u0 => by kernel_rfl)) (by kernel_rfl) (by kernel_rfl) (by kernel_rfl) (by kernel_rfl) (by decide +kernel) (by decide +kernel) (by decide +kernel)
noncomputable def bMode_f1_b : SM :=
  (sIf (tCmp (cInt fun a b => a == b) (eVar (Str.ofString "index")) (eVal (.int 0))) (sIf (tCmp (cInt fun a b => a == b) (eCall gIfmt (esCons (eVar (Str.ofString "mode")) esNil)) (eVar (Str.ofString "bit"))) (sSeq (sExpr (eMeth isLst gAppend (eVar (Str.ofString "perm")) (esCons (eVar (Str.ofString "char")) esNil))) (sFl .brk)) (sFl .next)) (sIf (tCmp (cInt fun a b => a == b) (eBin (oInt fAnd) (eVar (Str.ofString "mode")) (eVar (Str.ofString "bit"))) (eVar (Str.ofString "bit"))) (sSeq (sExpr (eMeth isLst gAppend (eVar (Str.ofString "perm")) (esCons (eVar (Str.ofString "char")) esNil))) (sFl .brk)) (sFl .next)))
noncomputable def bMode_f1_e : SM :=
  (sIf (tCmp (cInt fun a b => a == b) (eVar (Str.ofString "index")) (eVal (.int 0))) (sExpr (eMeth isLst gAppend (eVar (Str.ofString "perm")) (esCons (eVal (.str (Str.ofString "?"))) esNil))) (sExpr (eMeth isLst gAppend (eVar (Str.ofString "perm")) (esCons (eVal (.str (Str.ofString "-"))) esNil))))
noncomputable def bMode_f2_b : SM :=
  (sFor 100 (iOf (eVar (Str.ofString "table"))) (tgPair (Str.ofString "bit") (Str.ofString "char")) bMode_f1_b bMode_f1_e)
noncomputable def bMode_0 : SM :=
  (sAssign (Str.ofString "perm") (eCall gList esNil))
noncomputable def bMode_1 : SM :=
  (sFor 100 (iEnum (eVal vTable)) (tgPair (Str.ofString "index") (Str.ofString "table")) bMode_f2_b (sFl .next))
noncomputable def bMode_2 : SM :=
  (sRet (eMeth isStr gJoin (eVal (.str (Str.ofString ""))) (esCons (eVar (Str.ofString "perm")) esNil)))
noncomputable def bMode : SM :=
  (sSeq bMode_0 (sSeq bMode_1 bMode_2))
noncomputable def gMode : GF := gFn [(Str.ofString "mode")] bMode
set_option maxRecDepth 20000 in
set_option maxHeartbeats 4000000 in
theorem bodyMode {c : Cx} {k : Nat} (hc : c.Ok) (nm : Nm c) {aIfmt : Addr} (dIfmt : Fd c 10 (Str.ofString "S_IFMT") aIfmt) (hIfmt : Fn c (k + 1) aIfmt gIfmt) {uT : Value} (hmT : c.mg (Str.ofString "_filemode_table") = some uT) (hrT : VR c.base.get? [] uT vTable) : Bd c 31 [] k bMode := ⟨
  (Ss.cons (St.assign (Ev.list Es.nil (by decide) esNil_len) (.inl (by kernel_rfl)))
    (Ss.cons (St.forS 100 (It.enum hc (by kernel_rfl) nm.enumerate Boot.«enumerate» (Ev.glob hc (by kernel_rfl) hmT hrT)) (Tg.pair (.inl (by kernel_rfl)) (.inl (by kernel_rfl))) (Ss.one (St.forS 100 (It.of (Ev.var (Str.ofString "table") _)) (Tg.pair (.inl (by kernel_rfl)) (.inl (by kernel_rfl))) (Ss.one (St.ite (Tt.cmp (Ev.var (Str.ofString "index") _) (Ev.int 0 _ _) op_eq) (Ss.one (St.ite (Tt.cmp (Ev.callD hc dIfmt (by kernel_rfl) (Es.cons (Ev.var (Str.ofString "mode") _) Es.nil) hIfmt) (Ev.var (Str.ofString "bit") _) op_eq) (Ss.cons (St.expr (Ev.meth (MGet.lst PySem.F.slot_list_append PySem.F.type_list_append) (Ev.var (Str.ofString "perm") _) (Es.cons (Ev.var (Str.ofString "char") _) Es.nil) gop_append))
    (Ss.one (St.brk _))) Ss.nil)) (Ss.one (St.ite (Tt.cmp (Ev.bin (Ev.var (Str.ofString "mode") _) (Ev.var (Str.ofString "bit") _) op_and) (Ev.var (Str.ofString "bit") _) op_eq) (Ss.cons (St.expr (Ev.meth (MGet.lst PySem.F.slot_list_append PySem.F.type_list_append) (Ev.var (Str.ofString "perm") _) (Es.cons (Ev.var (Str.ofString "char") _) Es.nil) gop_append))
    (Ss.one (St.brk _))) Ss.nil)))) (Ss.one (St.ite (Tt.cmp (Ev.var (Str.ofString "index") _) (Ev.int 0 _ _) op_eq) (Ss.one (St.expr (Ev.meth (MGet.lst PySem.F.slot_list_append PySem.F.type_list_append) (Ev.var (Str.ofString "perm") _) (Es.cons (Ev.str (Str.ofString "?") _ _) Es.nil) gop_append))) (Ss.one (St.expr (Ev.meth (MGet.lst PySem.F.slot_list_append PySem.F.type_list_append) (Ev.var (Str.ofString "perm") _) (Es.cons (Ev.str (Str.ofString "-") _ _) Es.nil) gop_append))))) (ok_of (.inr rfl)))) Ss.nil (ok_en rfl))
    (Ss.one (St.ret (Ev.meth (MGet.strg PySem.F.slot_str_join PySem.F.type_str_join) (Ev.str (Str.ofString "") _ _) (Es.cons (Ev.var (Str.ofString "perm") _) Es.nil) gop_join)))))⟩
theorem fnMode {c : Cx} {k : Nat} (hc : c.Ok) (nm : Nm c) {aIfmt : Addr} (dIfmt : Fd c 10 (Str.ofString "S_IFMT") aIfmt) (hIfmt : Fn c (k + 1) aIfmt gIfmt) {uT : Value} (hmT : c.mg (Str.ofString "_filemode_table") = some uT) (hrT : VR c.base.get? [] uT vTable) (hk : k + 1 ≤ 50) {fa : Addr} (hfa : Fd c 31 (Str.ofString "filemode") fa) : Fn c k fa gMode :=
  Fd.fn (own := []) hc hfa (bodyMode hc nm dIfmt hIfmt hmT hrT) hk
    (by intro pm cd doc us h; exact bind_1 (F := fun us => bindArgs (docDef (Str.ofString "filemode") (parsOf (top 31)) (bodyOf (top 31)) (scopOf (top 31)) pm cd doc) ⟨us, []⟩) h (fun u0 => by kernel_rfl)) (by kernel_rfl) (by kernel_rfl) (by kernel_rfl) (by kernel_rfl) (by decide +kernel) (by decide +kernel) (by decide +kernel)
noncomputable def bFlags_f1_b (d : Addr) : SM :=
  (sSeq (sAssign (Str.ofString "flag") (eBin (oInt fShl) (eVal (.int 1)) (eVar (Str.ofString "i")))) (sIf (tVal trInt (eBin (oInt fAnd) (eVar (Str.ofString "flags")) (eVar (Str.ofString "flag")))) (sSeq (sExpr (eMeth isLst gAppend (eVar (Str.ofString "names")) (esCons (eMeth (isDict d) (gGet d Dflags) (eVal (.raw (.ref d))) (esCons (eVar (Str.ofString "flag")) (esCons (eCall gHex (esCons (eVar (Str.ofString "flag")) esNil)) esNil))) esNil))) (sSeq (sAug (Str.ofString "flags") (oInt fXor) (eVar (Str.ofString "flag"))) (sIf (tNot (tVal trInt (eVar (Str.ofString "flags")))) (sFl .brk) (sFl .next)))) (sFl .next)))
noncomputable def bFlags_f1_e (d : Addr) : SM :=
  (sExpr (eMeth isLst gAppend (eVar (Str.ofString "names")) (esCons (eCall gHex (esCons (eVar (Str.ofString "flags")) esNil)) esNil)))
noncomputable def bFlags_0 (d : Addr) : SM :=
  (sAssign (Str.ofString "names") (eCall gList esNil))
noncomputable def bFlags_1 (d : Addr) : SM :=
  (sFor 100 (iOf (eCall gRange (esCons (eVal (.int 32)) esNil))) (tgName (Str.ofString "i")) (bFlags_f1_b d) (bFlags_f1_e d))
noncomputable def bFlags_2 (d : Addr) : SM :=
  (sRet (eMeth isStr gJoin (eVal (.str (Str.ofString ", "))) (esCons (eVar (Str.ofString "names")) esNil)))
noncomputable def bFlags (d : Addr) : SM :=
  (sSeq (bFlags_0 d) (sSeq (bFlags_1 d) (bFlags_2 d)))
noncomputable def gFlags (d : Addr) : GF := gFn [(Str.ofString "flags")] (bFlags d)
set_option maxRecDepth 20000 in
set_option maxHeartbeats 4000000 in
theorem bodyFlags {c : Cx} {k : Nat} (hc : c.Ok) (nm : Nm c) {d : Addr} (hmD : c.mg (Str.ofString "COMPILER_FLAG_NAMES") = some (.ref d)) (hT : IntTab c.prog c.w c.base d Dflags) : Bd c 7 [] k (bFlags d) := ⟨
  (Ss.cons (St.assign (Ev.list Es.nil (by decide) esNil_len) (.inl (by kernel_rfl)))
    (Ss.cons (St.forS 100 (It.of (Ev.callB hc (by kernel_rfl) nm.range Boot.«range» rfl (Es.cons (Ev.int 32 _ _) Es.nil) gop_range)) (Tg.name (.inl (by kernel_rfl))) (Ss.cons (St.assign (Ev.bin (Ev.int 1 _ _) (Ev.var (Str.ofString "i") _) op_shl) (.inl (by kernel_rfl)))
    (Ss.one (St.ite (Tt.val (Ev.bin (Ev.var (Str.ofString "flags") _) (Ev.var (Str.ofString "flag") _) op_and) tr_int) (Ss.cons (St.expr (Ev.meth (MGet.lst PySem.F.slot_list_append PySem.F.type_list_append) (Ev.var (Str.ofString "names") _) (Es.cons (Ev.meth (MGet.dict hT) (Ev.glob hc (by kernel_rfl) hmD (.raw _)) (Es.cons (Ev.var (Str.ofString "flag") _) (Es.cons (Ev.callB hc (by kernel_rfl) nm.hex Boot.«hex» rfl (Es.cons (Ev.var (Str.ofString "flag") _) Es.nil) gop_hex) Es.nil)) (gop_get hT)) Es.nil) gop_append))
    (Ss.cons (St.aug (Ev.var (Str.ofString "flag") _) (by kernel_rfl) op_ixor)
    (Ss.one (St.ite (Tt.not (Tt.val (Ev.var (Str.ofString "flags") _) tr_int)) (Ss.one (St.brk _)) Ss.nil)))) Ss.nil))) (Ss.one (St.expr (Ev.meth (MGet.lst PySem.F.slot_list_append PySem.F.type_list_append) (Ev.var (Str.ofString "names") _) (Es.cons (Ev.callB hc (by kernel_rfl) nm.hex Boot.«hex» rfl (Es.cons (Ev.var (Str.ofString "flags") _) Es.nil) gop_hex) Es.nil) gop_append))) (ok_of (.inl rfl)))
    (Ss.one (St.ret (Ev.meth (MGet.strg PySem.F.slot_str_join PySem.F.type_str_join) (Ev.str (Str.ofString ", ") _ _) (Es.cons (Ev.var (Str.ofString "names") _) Es.nil) gop_join)))))⟩
theorem fnFlags {c : Cx} {k : Nat} (hc : c.Ok) (nm : Nm c) {d : Addr} (hmD : c.mg (Str.ofString "COMPILER_FLAG_NAMES") = some (.ref d)) (hT : IntTab c.prog c.w c.base d Dflags) (hk : k + 1 ≤ 50) {fa : Addr} (hfa : Fd c 7 (Str.ofString "pretty_flags") fa) : Fn c k fa (gFlags d) :=
  Fd.fn (own := []) hc hfa (bodyFlags hc nm hmD hT) hk
    (by intro pm cd doc us h; exact bind_1 (F := fun us => bindArgs (docDef (Str.ofString "pretty_flags") (parsOf (top 7)) (bodyOf (top 7)) (scopOf (top 7)) pm cd doc) ⟨us, []⟩) h (fun u0 => by kernel_rfl)) (by kernel_rfl) (by kernel_rfl) (by kernel_rfl) (by kernel_rfl) (by decide +kernel) (by decide +kernel) (by decide +kernel)
noncomputable def bGiven_f1_b : SM :=
  (sIf (tAnd (tCmp (cStr fun a b => a != b) (eBin oItem (eVar (Str.ofString "row")) (eBin (oInt fAdd) (eVal (.int 1)) (eVar (Str.ofString "hour")))) (eVal (.str (Str.ofString "-")))) (tOr (tCmp (cInt fun a b => a == b) (eVar (Str.ofString "hour")) (eVal (.int 0))) (tCmp (cStr fun a b => a == b) (eBin oItem (eVar (Str.ofString "row")) (eVar (Str.ofString "hour"))) (eVal (.str (Str.ofString "-")))))) (sExpr (eCall gHPush (esCons (eVar (Str.ofString "heap")) (esCons (eCall gTuple (esCons (eBin (oInt fSub) (eBin (oInt fAdd) (eVar (Str.ofString "hour")) (eVal (.int 10))) (eMeth isStr gSCount (eVar (Str.ofString "row")) (esCons (eVal (.str (Str.ofString "-"))) esNil))) (esCons (eVar (Str.ofString "k")) esNil))) esNil)))) (sFl .next))
noncomputable def bGiven_w2_t : TM :=
  (tAnd (tCmp cNeL (eVar (Str.ofString "heap")) (eCall gList esNil)) (tCmp (cInt fun a b => decide (a ≤ b)) (eBin oItem (eBin oItem (eVar (Str.ofString "heap")) (eVal (.int 0))) (eVal (.int 0))) (eVar (Str.ofString "hour"))))
noncomputable def bGiven_w2_b : SM :=
  (sExpr (eCall gHPop (esCons (eVar (Str.ofString "heap")) esNil)))
noncomputable def bGiven_f3_b : SM :=
  (sSeq (sFor 100 (iEnum (eVar (Str.ofString "rows"))) (tgPair (Str.ofString "k") (Str.ofString "row")) bGiven_f1_b (sFl .next)) (sSeq (sWhile bGiven_w2_t bGiven_w2_b 100) (sIf (tCmp cNeL (eVar (Str.ofString "heap")) (eCall gList esNil)) (sSetIdx (eVar (Str.ofString "given")) (eBin oItem (eCall gHPop (esCons (eVar (Str.ofString "heap")) esNil)) (eVal (.int 1))) (eVar (Str.ofString "hour"))) (sFl .next))))
noncomputable def bGiven_0 : SM :=
  (sAssign (Str.ofString "heap") (eCall gList esNil))
noncomputable def bGiven_1 : SM :=
  (sAssign (Str.ofString "given") (eBinG gMulL (eCall gList (esCons (eVal (.int 9)) esNil)) (eCall gLen (esCons (eVar (Str.ofString "rows")) esNil))))
noncomputable def bGiven_2 : SM :=
  (sFor 100 (iOf (eCall gRange (esCons (eVal (.int 9)) esNil))) (tgName (Str.ofString "hour")) bGiven_f3_b (sFl .next))
noncomputable def bGiven_3 : SM :=
  (sRet (eVar (Str.ofString "given")))
noncomputable def bGiven : SM :=
  (sSeq bGiven_0 (sSeq bGiven_1 (sSeq bGiven_2 bGiven_3)))
noncomputable def gGiven : GF := gFn [(Str.ofString "rows")] bGiven
set_option maxRecDepth 20000 in
set_option maxHeartbeats 4000000 in
theorem bodyGiven {c : Cx} {k : Nat} (hc : c.Ok) (nm : Nm c) {aHPush : Addr} (dHPush : Fd c 1 (Str.ofString "heappush") aHPush) (hHPush : Fn c (k + 1) aHPush gHPush) {aHPop : Addr} (dHPop : Fd c 2 (Str.ofString "heappop") aHPop) (hHPop : Fn c (k + 1) aHPop gHPop) : Bd c 34 [] k bGiven := ⟨
  (Ss.cons (St.assign (Ev.list Es.nil (by decide) esNil_len) (.inl (by kernel_rfl)))
    (Ss.cons (St.assign (Ev.binG (Ev.list (Es.cons (Ev.int 9 _ _) Es.nil) (by decide) (esCons_len esNil_len)) (Ev.callB hc (by kernel_rfl) nm.len Boot.«len» rfl (Es.cons (Ev.var (Str.ofString "rows") _) Es.nil) gop_len) gop_mulL) (.inl (by kernel_rfl)))
    (Ss.cons (St.forS 100 (It.of (Ev.callB hc (by kernel_rfl) nm.range Boot.«range» rfl (Es.cons (Ev.int 9 _ _) Es.nil) gop_range)) (Tg.name (.inl (by kernel_rfl))) (Ss.cons (St.forS 100 (It.enum hc (by kernel_rfl) nm.enumerate Boot.«enumerate» (Ev.var (Str.ofString "rows") _)) (Tg.pair (.inl (by kernel_rfl)) (.inl (by kernel_rfl))) (Ss.one (St.ite (Tt.and (Tt.cmp (Ev.idx (Ev.var (Str.ofString "row") _) (Ev.bin (Ev.int 1 _ _) (Ev.var (Str.ofString "hour") _) op_add) (op_item (by intros; rfl) (by intros; rfl))) (Ev.str (Str.ofString "-") _ _) op_nes) (Tt.or (Tt.cmp (Ev.var (Str.ofString "hour") _) (Ev.int 0 _ _) op_eq) (Tt.cmp (Ev.idx (Ev.var (Str.ofString "row") _) (Ev.var (Str.ofString "hour") _) (op_item (by intros; rfl) (by intros; rfl))) (Ev.str (Str.ofString "-") _ _) op_eqs))) (Ss.one (St.expr (Ev.callD hc dHPush (by kernel_rfl) (Es.cons (Ev.var (Str.ofString "heap") _) (Es.cons (Ev.tuple (Es.cons (Ev.bin (Ev.bin (Ev.var (Str.ofString "hour") _) (Ev.int 10 _ _) op_add) (Ev.meth (MGet.strg PySem.F.slot_str_count PySem.F.type_str_count) (Ev.var (Str.ofString "row") _) (Es.cons (Ev.str (Str.ofString "-") _ _) Es.nil) gop_scount) op_sub) (Es.cons (Ev.var (Str.ofString "k") _) Es.nil)) (by decide) (esCons_len (esCons_len esNil_len))) Es.nil)) hHPush))) Ss.nil)) Ss.nil (ok_en rfl))
    (Ss.cons (St.whileS 100 (Tt.and (Tt.cmp (Ev.var (Str.ofString "heap") _) (Ev.list Es.nil (by decide) esNil_len) op_nel) (Tt.cmp (Ev.idx (Ev.idx (Ev.var (Str.ofString "heap") _) (Ev.int 0 _ _) (op_item (by intros; rfl) (by intros; rfl))) (Ev.int 0 _ _) (op_item (by intros; rfl) (by intros; rfl))) (Ev.var (Str.ofString "hour") _) op_le)) (Ss.one (St.expr (Ev.callD hc dHPop (by kernel_rfl) (Es.cons (Ev.var (Str.ofString "heap") _) Es.nil) hHPop))))
    (Ss.one (St.ite (Tt.cmp (Ev.var (Str.ofString "heap") _) (Ev.list Es.nil (by decide) esNil_len) op_nel) (Ss.one (St.setIdx (Ev.var (Str.ofString "hour") _) (Ev.var (Str.ofString "given") _) (Ev.idx (Ev.callD hc dHPop (by kernel_rfl) (Es.cons (Ev.var (Str.ofString "heap") _) Es.nil) hHPop) (Ev.int 1 _ _) (op_item (by intros; rfl) (by intros; rfl))))) Ss.nil)))) Ss.nil (ok_of (.inl rfl)))
    (Ss.one (St.ret (Ev.var (Str.ofString "given") _))))))⟩
theorem fnGiven {c : Cx} {k : Nat} (hc : c.Ok) (nm : Nm c) {aHPush : Addr} (dHPush : Fd c 1 (Str.ofString "heappush") aHPush) (hHPush : Fn c (k + 1) aHPush gHPush) {aHPop : Addr} (dHPop : Fd c 2 (Str.ofString "heappop") aHPop) (hHPop : Fn c (k + 1) aHPop gHPop) (hk : k + 1 ≤ 50) {fa : Addr} (hfa : Fd c 34 (Str.ofString "_law_given") fa) : Fn c k fa gGiven :=
  Fd.fn (own := []) hc hfa (bodyGiven hc nm dHPush hHPush dHPop hHPop) hk
    (by intro pm cd doc us h; exact bind_1 (F := fun us => bindArgs (docDef (Str.ofString "_law_given") (parsOf (top 34)) (bodyOf (top 34)) (scopOf (top 34)) pm cd doc) ⟨us, []⟩) h (fun u0 => by kernel_rfl)) (by kernel_rfl) (by kernel_rfl) (by kernel_rfl) (by kernel_rfl) (by decide +kernel) (by decide +kernel) (by decide +kernel)
noncomputable def bWithout_c1_x : EM :=
  (eVal (.int 1))
noncomputable def bWithout_c1_q : TM :=
  (tAnd (tCmp (cInt fun a b => decide (a ≤ b)) (eVar (Str.ofString "begin")) (eVar (Str.ofString "first"))) (tCmp (cInt fun a b => decide (a ≤ b)) (eVar (Str.ofString "last")) (eVar (Str.ofString "end"))))
noncomputable def bWithout_c2_x : EM :=
  (eBin (oInt fAdd) (eBin (oInt fSub) (eBin (oInt fAdd) (eBin oItem (eVar (Str.ofString "most")) (eVar (Str.ofString "begin"))) (eVar (Str.ofString "begin"))) (eVar (Str.ofString "end"))) (eCall gLen (esCons (eComp 100 (iOf (eVar (Str.ofString "stretches"))) [(Str.ofString "begin"), (Str.ofString "end")] (tgPair (Str.ofString "first") (Str.ofString "last")) bWithout_c1_q bWithout_c1_x) esNil)))
noncomputable def bWithout_f3_b : SM :=
  (sSeq (sAssign (Str.ofString "counts") (eComp 100 (iOf (eCall gRange (esCons (eVar (Str.ofString "end")) esNil))) [(Str.ofString "end"), (Str.ofString "most"), (Str.ofString "stretches")] (tgName (Str.ofString "begin")) tTrue bWithout_c2_x)) (sExpr (eMeth isLst gAppend (eVar (Str.ofString "most")) (esCons (eCall gMax (esCons (eBinG gAddL (eCall gList (esCons (eBin oItem (eVar (Str.ofString "most")) (eVal (.int (-1)))) esNil)) (eVar (Str.ofString "counts"))) esNil)) esNil))))
noncomputable def bWithout_0 : SM :=
  (sAssign (Str.ofString "most") (eCall gList (esCons (eVal (.int 0)) esNil)))
noncomputable def bWithout_1 : SM :=
  (sFor 100 (iOf (eCall gRange (esCons (eVal (.int 1)) (esCons (eVal (.int 10)) esNil)))) (tgName (Str.ofString "end")) bWithout_f3_b (sFl .next))
noncomputable def bWithout_2 : SM :=
  (sRet (eBin oItem (eVar (Str.ofString "most")) (eVal (.int 9))))
noncomputable def bWithout : SM :=
  (sSeq bWithout_0 (sSeq bWithout_1 bWithout_2))
noncomputable def gWithout : GF := gFn [(Str.ofString "stretches")] bWithout
set_option maxRecDepth 20000 in
set_option maxHeartbeats 4000000 in
theorem bodyWithout {c : Cx} {k : Nat} (hc : c.Ok) (nm : Nm c) : Bd c 35 [(Str.ofString "end"), (Str.ofString "most"), (Str.ofString "stretches")] k bWithout := ⟨
  (Ss.cons (St.assign (Ev.list (Es.cons (Ev.int 0 _ _) Es.nil) (by decide) (esCons_len esNil_len)) (.inr ⟨by kernel_rfl, (.tail _ (.head _))⟩))
    (Ss.cons (St.forS 100 (It.of (Ev.callB hc (by kernel_rfl) nm.range Boot.«range» rfl (Es.cons (Ev.int 1 _ _) (Es.cons (Ev.int 10 _ _) Es.nil)) gop_range)) (Tg.name (.inr ⟨by kernel_rfl, (.head _)⟩)) (Ss.cons (St.assignComp (own := [(Str.ofString "begin")]) (fv := [(Str.ofString "end"), (Str.ofString "most"), (Str.ofString "stretches")]) 100 (by decide) (CompOk.ofB (by kernel_rfl)) (It.of (Ev.callB hc (by kernel_rfl) nm.range Boot.«range» rfl (Es.cons (Ev.var (Str.ofString "end") _) Es.nil) gop_range)) (Tg.name (.inr ⟨by kernel_rfl, (.head _)⟩)) Ts.nil (Ev.bin (Ev.bin (Ev.bin (Ev.idx (Ev.var (Str.ofString "most") _) (Ev.var (Str.ofString "begin") _) (op_item (by intros; rfl) (by intros; rfl))) (Ev.var (Str.ofString "begin") _) op_add) (Ev.var (Str.ofString "end") _) op_sub) (Ev.callB hc (by kernel_rfl) nm.len Boot.«len» rfl (Es.cons (Ev.comp (own := []) (fv := [(Str.ofString "begin"), (Str.ofString "end")]) 100 (by decide) (CompOk.ofB (by kernel_rfl)) (It.of (Ev.var (Str.ofString "stretches") _)) (Tg.pair (.inl (by kernel_rfl)) (.inl (by kernel_rfl))) (Ts.one (Tt.and (Tt.cmp (Ev.var (Str.ofString "begin") _) (Ev.var (Str.ofString "first") _) op_le) (Tt.cmp (Ev.var (Str.ofString "last") _) (Ev.var (Str.ofString "end") _) op_le))) (Ev.int 1 _ _) (ok_of (.inr rfl))) Es.nil) gop_len) op_add) (ok_of (.inl rfl)) (.inl (by kernel_rfl)) (fun env hE => swaps_yes hE (by kernel_rfl) (by kernel_rfl) (by kernel_rfl)))
    (Ss.one (St.expr (Ev.meth (MGet.lst PySem.F.slot_list_append PySem.F.type_list_append) (Ev.var (Str.ofString "most") _) (Es.cons (Ev.callB hc (by kernel_rfl) nm.max Boot.«max» rfl (Es.cons (Ev.binG (Ev.list (Es.cons (Ev.idx (Ev.var (Str.ofString "most") _) Ev.neg (op_item (by intros; rfl) (by intros; rfl))) Es.nil) (by decide) (esCons_len esNil_len)) (Ev.var (Str.ofString "counts") _) gop_addL) Es.nil) gop_max) Es.nil) gop_append)))) Ss.nil (ok_of (.inl rfl)))
    (Ss.one (St.ret (Ev.idx (Ev.var (Str.ofString "most") _) (Ev.int 9 _ _) (op_item (by intros; rfl) (by intros; rfl)))))))⟩
theorem fnWithout {c : Cx} {k : Nat} (hc : c.Ok) (nm : Nm c) (hk : k + 1 ≤ 50) {fa : Addr} (hfa : Fd c 35 (Str.ofString "_law_without") fa) : Fn c k fa gWithout :=
  Fd.fn (own := [(Str.ofString "end"), (Str.ofString "most"), (Str.ofString "stretches")]) hc hfa (bodyWithout hc nm) hk
    (by intro pm cd doc us h; exact bind_1 (F := fun us => bindArgs (docDef (Str.ofString "_law_without") (parsOf (top 35)) (bodyOf (top 35)) (scopOf (top 35)) pm cd doc) ⟨us, []⟩) h (fun u0 => by kernel_rfl)) (by kernel_rfl) (by kernel_rfl) (by kernel_rfl) (by kernel_rfl) (by decide +kernel) (by decide +kernel) (by decide +kernel)
end Mine
end
/-! ## part FW19 -/
section
open PySem PySem.W PyProof.Rows PySem.Calls
set_option bootstrap.genMatcherCode false
namespace Mine
noncomputable def bLaw_c1_x (d : Addr) : EM :=
  (eCall gTuple (esCons (eBin (oInt fMod) (eVar (Str.ofString "v")) (eVal (.int 9))) (esCons (eBin (oInt fAdd) (eBin (oInt fAdd) (eBin (oInt fMod) (eVar (Str.ofString "v")) (eVal (.int 9))) (eVal (.int 1))) (eBin (oInt fMod) (eBin (oInt fDiv) (eVar (Str.ofString "v")) (eVal (.int 9))) (eBin (oInt fSub) (eVal (.int 9)) (eBin (oInt fMod) (eVar (Str.ofString "v")) (eVal (.int 9)))))) esNil)))
noncomputable def bLaw_c2_x (d : Addr) : EM :=
  (eBin (oInt fShl) (eVal (.int 1)) (eBin (oInt fSub) (eVal (.int 8)) (eVar (Str.ofString "hour"))))
noncomputable def bLaw_f3_b (d : Addr) : SM :=
  (sSeq (sAssign (Str.ofString "rights") (eCall gSum (esCons (eComp 100 (iOf (eCall gRange (esCons (eVar (Str.ofString "first")) (esCons (eVar (Str.ofString "last")) esNil)))) [] (tgName (Str.ofString "hour")) tTrue (bLaw_c2_x d)) esNil))) (sExpr (eMeth isLst gExtend (eVar (Str.ofString "octets")) (esCons (eCall gList (esCons (eVal (.int 72)) (esCons (eBin (oInt fAdd) (eVal (.int 64)) (eBin (oInt fDiv) (eVar (Str.ofString "rights")) (eVal (.int 64)))) (esCons (eBin (oInt fMod) (eVar (Str.ofString "rights")) (eVal (.int 64))) esNil)))) esNil))))
noncomputable def bLaw_c4_x (d : Addr) : EM :=
  (eCall gMode (esCons (eVar (Str.ofString "mode")) esNil))
noncomputable def bLaw_c5_x (d : Addr) : EM :=
  (eVar (Str.ofString "hour"))
noncomputable def bLaw_c5_q (d : Addr) : TM :=
  (tCmp cIn (eVar (Str.ofString "hour")) (eVar (Str.ofString "given")))
noncomputable def bLaw_c6_x (d : Addr) : EM :=
  (eBin (oInt fShl) (eVal (.int 1)) (eBin (oInt fSub) (eVal (.int 8)) (eVar (Str.ofString "hour"))))
noncomputable def bLaw_c6_q (d : Addr) : TM :=
  (tCmp (cInt fun a b => decide (a < b)) (eVar (Str.ofString "hour")) (eVal (.int 9)))
noncomputable def bLaw_c7_x (d : Addr) : EM :=
  (eBin oItem (eVar (Str.ofString "names")) (eVar (Str.ofString "hour")))
noncomputable def bLaw_c8_x (d : Addr) : EM :=
  (eVar (Str.ofString "k"))
noncomputable def bLaw_c8_q (d : Addr) : TM :=
  (tAnd (tCmp (cInt fun a b => decide (a < b)) (eBin oItem (eVar (Str.ofString "given")) (eVar (Str.ofString "k"))) (eVal (.int 9))) (tOr (tCmp (cInt fun a b => decide (a < b)) (eBin oItem (eVar (Str.ofString "given")) (eVar (Str.ofString "k"))) (eBin oItem (eBin oItem (eVar (Str.ofString "stretches")) (eVar (Str.ofString "k"))) (eVal (.int 0)))) (tCmp (cInt fun a b => decide (a ≥ b)) (eBin oItem (eVar (Str.ofString "given")) (eVar (Str.ofString "k"))) (eBin oItem (eBin oItem (eVar (Str.ofString "stretches")) (eVar (Str.ofString "k"))) (eVal (.int 1))))))
noncomputable def bLaw_f9_b (d : Addr) : SM :=
  (sSeq (sAssign (Str.ofString "given") (eCall gGiven (esCons (eUpto (eVar (Str.ofString "rows")) (eVar (Str.ofString "many"))) esNil))) (sSeq (sAssign (Str.ofString "hours") (eComp 100 (iOf (eCall gRange (esCons (eVal (.int 9)) esNil))) [(Str.ofString "given")] (tgName (Str.ofString "hour")) (bLaw_c5_q d) (bLaw_c5_x d))) (sSeq (sIf (tCmp (cInt fun a b => a != b) (eMeth isLst gCount (eVar (Str.ofString "given")) (esCons (eVal (.int 9)) esNil)) (eCall gWithout (esCons (eUpto (eVar (Str.ofString "stretches")) (eVar (Str.ofString "many"))) esNil))) (sRet (eVal (.bool false))) (sFl .next)) (sSeq (sIf (tCmp (cStr fun a b => a != b) (eCall (gFlags d) (esCons (eCall gSum (esCons (eComp 100 (iOf (eVar (Str.ofString "given"))) [] (tgName (Str.ofString "hour")) (bLaw_c6_q d) (bLaw_c6_x d)) esNil)) esNil)) (eOr trStr (eMeth isStr gJoin (eVal (.str (Str.ofString ", "))) (esCons (eComp 100 (iOf (eRev (eVar (Str.ofString "hours")))) [(Str.ofString "names")] (tgName (Str.ofString "hour")) tTrue (bLaw_c7_x d)) esNil)) (eVal (.str (Str.ofString "0x0"))))) (sRet (eVal (.bool false))) (sFl .next)) (sIf (tCmp cNeL (eComp 100 (iOf (eCall gRange (esCons (eVar (Str.ofString "many")) esNil))) [(Str.ofString "given"), (Str.ofString "stretches")] (tgName (Str.ofString "k")) (bLaw_c8_q d) (bLaw_c8_x d)) (eCall gList esNil)) (sRet (eVal (.bool false))) (sFl .next))))))
noncomputable def bLaw_c10_x (d : Addr) : EM :=
  (eIf (tChain (cInt fun a b => decide (a ≤ b)) (cInt fun a b => decide (a < b)) (eVar (Str.ofString "first")) (eVar (Str.ofString "hour")) (eVar (Str.ofString "last"))) (eBin oItem (eVal (.str (Str.ofString "rwxrwxrwx"))) (eVar (Str.ofString "hour"))) (eVal (.str (Str.ofString "-"))))
noncomputable def bLaw_c11_x (d : Addr) : EM :=
  (eBin oStrAdd (eVal (.str (Str.ofString "-"))) (eMeth isStr gJoin (eVal (.str (Str.ofString ""))) (esCons (eComp 100 (iOf (eCall gRange (esCons (eVal (.int 9)) esNil))) [(Str.ofString "first"), (Str.ofString "last")] (tgName (Str.ofString "hour")) tTrue (bLaw_c10_x d)) esNil)))
noncomputable def bLaw_0 (d : Addr) : SM :=
  (sAssign (Str.ofString "names") (eCall gList (esCons (eVal (.str (Str.ofString "ITERABLE_COROUTINE"))) (esCons (eVal (.str (Str.ofString "COROUTINE"))) (esCons (eVal (.str (Str.ofString "NOFREE"))) (esCons (eVal (.str (Str.ofString "GENERATOR"))) (esCons (eVal (.str (Str.ofString "NESTED"))) (esCons (eVal (.str (Str.ofString "VARKEYWORDS"))) (esCons (eVal (.str (Str.ofString "VARARGS"))) (esCons (eVal (.str (Str.ofString "NEWLOCALS"))) (esCons (eVal (.str (Str.ofString "OPTIMIZED"))) esNil)))))))))))
noncomputable def bLaw_1 (d sa : Addr) (sn : List Int) : SM :=
  (sAssign (Str.ofString "numbers") (eBinG gAddL (eUptoR sa sn (eVar (Str.ofString "script")) (eVal (.int 6))) (eCall gList (esCons (eVal (.int 9)) (esCons (eVal (.int 0)) (esCons (eVal (.int 0)) (esCons (eVal (.int 1)) esNil)))))))
noncomputable def bLaw_2 (d : Addr) : SM :=
  (sAssign (Str.ofString "stretches") (eComp 100 (iOf (eVar (Str.ofString "numbers"))) [] (tgName (Str.ofString "v")) tTrue (bLaw_c1_x d)))
noncomputable def bLaw_3 (d : Addr) : SM :=
  (sAssign (Str.ofString "octets") (eCall gList esNil))
noncomputable def bLaw_4 (d : Addr) : SM :=
  (sFor 100 (iOf (eVar (Str.ofString "stretches"))) (tgPair (Str.ofString "first") (Str.ofString "last")) (bLaw_f3_b d) (sFl .next))
noncomputable def bLaw_5 (d : Addr) : SM :=
  (sAssign (Str.ofString "rows") (eComp 100 (iOf (eCall gRead (esCons (eVar (Str.ofString "octets")) esNil))) [] (tgName (Str.ofString "mode")) tTrue (bLaw_c4_x d)))
noncomputable def bLaw_6 (d : Addr) : SM :=
  (sIf (tCmp (cInt fun a b => a != b) (eCall gLen (esCons (eVar (Str.ofString "rows")) esNil)) (eCall gLen (esCons (eVar (Str.ofString "stretches")) esNil))) (sRet (eVal (.bool false))) (sFl .next))
noncomputable def bLaw_7 (d : Addr) : SM :=
  (sFor 100 (iOf (eCall gList (esCons (eBin (oInt fSub) (eCall gLen (esCons (eVar (Str.ofString "rows")) esNil)) (eVal (.int 1))) (esCons (eCall gLen (esCons (eVar (Str.ofString "rows")) esNil)) esNil)))) (tgName (Str.ofString "many")) (bLaw_f9_b d) (sFl .next))
noncomputable def bLaw_8 (d : Addr) : SM :=
  (sRet (eBin (fun H x y => (cEqL H x y).map AV.bool) (eVar (Str.ofString "rows")) (eComp 100 (iOf (eVar (Str.ofString "stretches"))) [] (tgPair (Str.ofString "first") (Str.ofString "last")) tTrue (bLaw_c11_x d))))
noncomputable def bLaw (d sa : Addr) (sn : List Int) : SM :=
  (sSeq (bLaw_0 d) (sSeq (bLaw_1 d sa sn) (sSeq (bLaw_2 d) (sSeq (bLaw_3 d) (sSeq (bLaw_4 d) (sSeq (bLaw_5 d) (sSeq (bLaw_6 d) (sSeq (bLaw_7 d) (bLaw_8 d)))))))))
noncomputable def gLaw (d sa : Addr) (sn : List Int) : GF := gFn [(Str.ofString "script")] (bLaw d sa sn)
set_option maxRecDepth 20000 in
set_option maxHeartbeats 4000000 in
theorem bodyLaw {c : Cx} (hc : c.Ok) (nm : Nm c) {sa : Addr} {su : List Value} {sn : List Int} (hSa : c.base.IsList sa su.toArray) (hSi : IntsAre su sn) {d : Addr} {aRead : Addr} (dRead : Fd c 33 (Str.ofString "_law_read") aRead) {aPv : Addr} (dPv : Fd c 8 (Str.ofString "_parse_varint") aPv) {aMode : Addr} (dMode : Fd c 31 (Str.ofString "filemode") aMode) (hMode : Fn c 1 aMode gMode) {aGiven : Addr} (dGiven : Fd c 34 (Str.ofString "_law_given") aGiven) (hGiven : Fn c 1 aGiven gGiven) {aWithout : Addr} (dWithout : Fd c 35 (Str.ofString "_law_without") aWithout) (hWithout : Fn c 1 aWithout gWithout) {aFlags : Addr} (dFlags : Fd c 7 (Str.ofString "pretty_flags") aFlags) (hFlags : Fn c 1 aFlags (gFlags d)) : Bd c 36 [(Str.ofString "given"), (Str.ofString "stretches"), (Str.ofString "names")] 0 (bLaw d sa sn) := ⟨
  (Ss.cons (St.assign (Ev.list (Es.cons (Ev.str (Str.ofString "ITERABLE_COROUTINE") _ _) (Es.cons (Ev.str (Str.ofString "COROUTINE") _ _) (Es.cons (Ev.str (Str.ofString "NOFREE") _ _) (Es.cons (Ev.str (Str.ofString "GENERATOR") _ _) (Es.cons (Ev.str (Str.ofString "NESTED") _ _) (Es.cons (Ev.str (Str.ofString "VARKEYWORDS") _ _) (Es.cons (Ev.str (Str.ofString "VARARGS") _ _) (Es.cons (Ev.str (Str.ofString "NEWLOCALS") _ _) (Es.cons (Ev.str (Str.ofString "OPTIMIZED") _ _) Es.nil))))))))) (by decide) (esCons_len (esCons_len (esCons_len (esCons_len (esCons_len (esCons_len (esCons_len (esCons_len (esCons_len esNil_len)))))))))) (.inr ⟨by kernel_rfl, (.tail _ (.tail _ (.head _)))⟩))
    (Ss.cons (St.assign (Ev.binG (Ev.uptoR hSa hSi (Ev.var (Str.ofString "script") _) (Ev.int 6 _ _)) (Ev.list (Es.cons (Ev.int 9 _ _) (Es.cons (Ev.int 0 _ _) (Es.cons (Ev.int 0 _ _) (Es.cons (Ev.int 1 _ _) Es.nil)))) (by decide) (esCons_len (esCons_len (esCons_len (esCons_len esNil_len))))) gop_addL) (.inl (by kernel_rfl)))
    (Ss.cons (St.assignC (Ev.comp (own := []) (fv := []) 100 (by decide) (CompOk.ofB (by kernel_rfl)) (It.of (Ev.var (Str.ofString "numbers") _)) (Tg.name (.inl (by kernel_rfl))) Ts.nil (Ev.tuple (Es.cons (Ev.bin (Ev.var (Str.ofString "v") _) (Ev.int 9 _ _) op_mod) (Es.cons (Ev.bin (Ev.bin (Ev.bin (Ev.var (Str.ofString "v") _) (Ev.int 9 _ _) op_mod) (Ev.int 1 _ _) op_add) (Ev.bin (Ev.bin (Ev.var (Str.ofString "v") _) (Ev.int 9 _ _) op_div) (Ev.bin (Ev.int 9 _ _) (Ev.bin (Ev.var (Str.ofString "v") _) (Ev.int 9 _ _) op_mod) op_sub) op_mod) op_add) Es.nil)) (by decide) (esCons_len (esCons_len esNil_len))) (ok_of (.inl rfl))) (.inr ⟨by kernel_rfl, (.tail _ (.head _))⟩) (fun env hE => swaps_no hE (by kernel_rfl)))
    (Ss.cons (St.assign (Ev.list Es.nil (by decide) esNil_len) (.inl (by kernel_rfl)))
    (Ss.cons (St.forS 100 (It.of (Ev.var (Str.ofString "stretches") _)) (Tg.pair (.inl (by kernel_rfl)) (.inl (by kernel_rfl))) (Ss.cons (St.assign (Ev.callB hc (by kernel_rfl) nm.sum Boot.«sum» rfl (Es.cons (Ev.comp (own := []) (fv := []) 100 (by decide) (CompOk.ofB (by kernel_rfl)) (It.of (Ev.callB hc (by kernel_rfl) nm.range Boot.«range» rfl (Es.cons (Ev.var (Str.ofString "first") _) (Es.cons (Ev.var (Str.ofString "last") _) Es.nil)) gop_range)) (Tg.name (.inl (by kernel_rfl))) Ts.nil (Ev.bin (Ev.int 1 _ _) (Ev.bin (Ev.int 8 _ _) (Ev.var (Str.ofString "hour") _) op_sub) op_shl) (ok_of (.inl rfl))) Es.nil) gop_sum) (.inl (by kernel_rfl)))
    (Ss.one (St.expr (Ev.meth (MGet.lst PySem.F.slot_list_extend PySem.F.type_list_extend) (Ev.var (Str.ofString "octets") _) (Es.cons (Ev.list (Es.cons (Ev.int 72 _ _) (Es.cons (Ev.bin (Ev.int 64 _ _) (Ev.bin (Ev.var (Str.ofString "rights") _) (Ev.int 64 _ _) op_div) op_add) (Es.cons (Ev.bin (Ev.var (Str.ofString "rights") _) (Ev.int 64 _ _) op_mod) Es.nil))) (by decide) (esCons_len (esCons_len (esCons_len esNil_len)))) Es.nil) gop_extend)))) Ss.nil (ok_of (.inr rfl)))
    (Ss.cons (St.assignComp (own := []) (fv := []) 100 (by decide) (CompOk.ofB (by kernel_rfl)) (It.of (Ev.callR hc nm dRead dPv rfl rfl (by kernel_rfl) (Es.cons (Ev.var (Str.ofString "octets") _) Es.nil))) (Tg.name (.inl (by kernel_rfl))) Ts.nil (Ev.callD hc dMode (by kernel_rfl) (Es.cons (Ev.var (Str.ofString "mode") _) Es.nil) hMode) (ok_of (.inl rfl)) (.inl (by kernel_rfl)) (fun env hE => swaps_yes hE (by kernel_rfl) (by kernel_rfl) (by kernel_rfl)))
    (Ss.cons (St.ite (Tt.cmp (Ev.callB hc (by kernel_rfl) nm.len Boot.«len» rfl (Es.cons (Ev.var (Str.ofString "rows") _) Es.nil) gop_len) (Ev.callB hc (by kernel_rfl) nm.len Boot.«len» rfl (Es.cons (Ev.var (Str.ofString "stretches") _) Es.nil) gop_len) op_ne) (Ss.one (St.ret (Ev.bool false _ _))) Ss.nil)
    (Ss.cons (St.forS 100 (It.of (Ev.list (Es.cons (Ev.bin (Ev.callB hc (by kernel_rfl) nm.len Boot.«len» rfl (Es.cons (Ev.var (Str.ofString "rows") _) Es.nil) gop_len) (Ev.int 1 _ _) op_sub) (Es.cons (Ev.callB hc (by kernel_rfl) nm.len Boot.«len» rfl (Es.cons (Ev.var (Str.ofString "rows") _) Es.nil) gop_len) Es.nil)) (by decide) (esCons_len (esCons_len esNil_len)))) (Tg.name (.inl (by kernel_rfl))) (Ss.cons (St.assign (Ev.callD hc dGiven (by kernel_rfl) (Es.cons (Ev.upto (Ev.var (Str.ofString "rows") _) (Ev.var (Str.ofString "many") _)) Es.nil) hGiven) (.inr ⟨by kernel_rfl, (.head _)⟩))
    (Ss.cons (St.assignComp (own := []) (fv := [(Str.ofString "given")]) 100 (by decide) (CompOk.ofB (by kernel_rfl)) (It.of (Ev.callB hc (by kernel_rfl) nm.range Boot.«range» rfl (Es.cons (Ev.int 9 _ _) Es.nil) gop_range)) (Tg.name (.inl (by kernel_rfl))) (Ts.one (Tt.cmp (Ev.var (Str.ofString "hour") _) (Ev.var (Str.ofString "given") _) op_in)) (Ev.var (Str.ofString "hour") _) (ok_of (.inl rfl)) (.inl (by kernel_rfl)) (fun env hE => swaps_yes hE (by kernel_rfl) (by kernel_rfl) (by kernel_rfl)))
    (Ss.cons (St.ite (Tt.cmp (Ev.meth (MGet.lst PySem.F.slot_list_count PySem.F.type_list_count) (Ev.var (Str.ofString "given") _) (Es.cons (Ev.int 9 _ _) Es.nil) gop_count) (Ev.callD hc dWithout (by kernel_rfl) (Es.cons (Ev.upto (Ev.var (Str.ofString "stretches") _) (Ev.var (Str.ofString "many") _)) Es.nil) hWithout) op_ne) (Ss.one (St.ret (Ev.bool false _ _))) Ss.nil)
    (Ss.cons (St.ite (Tt.cmp (Ev.callD hc dFlags (by kernel_rfl) (Es.cons (Ev.callB hc (by kernel_rfl) nm.sum Boot.«sum» rfl (Es.cons (Ev.comp (own := []) (fv := []) 100 (by decide) (CompOk.ofB (by kernel_rfl)) (It.of (Ev.var (Str.ofString "given") _)) (Tg.name (.inl (by kernel_rfl))) (Ts.one (Tt.cmp (Ev.var (Str.ofString "hour") _) (Ev.int 9 _ _) op_lt)) (Ev.bin (Ev.int 1 _ _) (Ev.bin (Ev.int 8 _ _) (Ev.var (Str.ofString "hour") _) op_sub) op_shl) (ok_of (.inl rfl))) Es.nil) gop_sum) Es.nil) hFlags) (Ev.or (Ev.meth (MGet.strg PySem.F.slot_str_join PySem.F.type_str_join) (Ev.str (Str.ofString ", ") _ _) (Es.cons (Ev.comp (own := []) (fv := [(Str.ofString "names")]) 100 (by decide) (CompOk.ofB (by kernel_rfl)) (It.of (Ev.rev (Ev.var (Str.ofString "hours") _))) (Tg.name (.inl (by kernel_rfl))) Ts.nil (Ev.idx (Ev.var (Str.ofString "names") _) (Ev.var (Str.ofString "hour") _) (op_item (by intros; rfl) (by intros; rfl))) (ok_of (.inl rfl))) Es.nil) gop_join) (Ev.str (Str.ofString "0x0") _ _) tr_str) op_nes) (Ss.one (St.ret (Ev.bool false _ _))) Ss.nil)
    (Ss.one (St.ite (Tt.cmp (Ev.comp (own := []) (fv := [(Str.ofString "given"), (Str.ofString "stretches")]) 100 (by decide) (CompOk.ofB (by kernel_rfl)) (It.of (Ev.callB hc (by kernel_rfl) nm.range Boot.«range» rfl (Es.cons (Ev.var (Str.ofString "many") _) Es.nil) gop_range)) (Tg.name (.inl (by kernel_rfl))) (Ts.one (Tt.and (Tt.cmp (Ev.idx (Ev.var (Str.ofString "given") _) (Ev.var (Str.ofString "k") _) (op_item (by intros; rfl) (by intros; rfl))) (Ev.int 9 _ _) op_lt) (Tt.or (Tt.cmp (Ev.idx (Ev.var (Str.ofString "given") _) (Ev.var (Str.ofString "k") _) (op_item (by intros; rfl) (by intros; rfl))) (Ev.idx (Ev.idx (Ev.var (Str.ofString "stretches") _) (Ev.var (Str.ofString "k") _) (op_item (by intros; rfl) (by intros; rfl))) (Ev.int 0 _ _) (op_item (by intros; rfl) (by intros; rfl))) op_lt) (Tt.cmp (Ev.idx (Ev.var (Str.ofString "given") _) (Ev.var (Str.ofString "k") _) (op_item (by intros; rfl) (by intros; rfl))) (Ev.idx (Ev.idx (Ev.var (Str.ofString "stretches") _) (Ev.var (Str.ofString "k") _) (op_item (by intros; rfl) (by intros; rfl))) (Ev.int 1 _ _) (op_item (by intros; rfl) (by intros; rfl))) op_ge)))) (Ev.var (Str.ofString "k") _) (ok_of (.inl rfl))) (Ev.list Es.nil (by decide) esNil_len) op_nel) (Ss.one (St.ret (Ev.bool false _ _))) Ss.nil)))))) Ss.nil (ok_of (.inl rfl)))
    (Ss.one (St.ret (Ev.cmp (Ev.var (Str.ofString "rows") _) (Ev.comp (own := [(Str.ofString "last"), (Str.ofString "first")]) (fv := []) 100 (by decide) (CompOk.ofB (by kernel_rfl)) (It.of (Ev.var (Str.ofString "stretches") _)) (Tg.pair (.inr ⟨by kernel_rfl, (.tail _ (.head _))⟩) (.inr ⟨by kernel_rfl, (.head _)⟩)) Ts.nil (Ev.bin (Ev.str (Str.ofString "-") _ _) (Ev.meth (MGet.strg PySem.F.slot_str_join PySem.F.type_str_join) (Ev.str (Str.ofString "") _ _) (Es.cons (Ev.comp (own := []) (fv := [(Str.ofString "first"), (Str.ofString "last")]) 100 (by decide) (CompOk.ofB (by kernel_rfl)) (It.of (Ev.callB hc (by kernel_rfl) nm.range Boot.«range» rfl (Es.cons (Ev.int 9 _ _) Es.nil) gop_range)) (Tg.name (.inl (by kernel_rfl))) Ts.nil (Ev.ife (Tt.chain (Ev.var (Str.ofString "first") _) (Ev.var (Str.ofString "hour") _) (Ev.var (Str.ofString "last") _) op_le op_lt) (Ev.idx (Ev.str (Str.ofString "rwxrwxrwx") _ _) (Ev.var (Str.ofString "hour") _) (op_item (by intros; rfl) (by intros; rfl))) (Ev.str (Str.ofString "-") _ _)) (ok_of (.inl rfl))) Es.nil) gop_join) op_adds) (ok_of (.inr rfl))) op_eql)))))))))))⟩
theorem fnLaw {c : Cx} (hc : c.Ok) (nm : Nm c) {sa : Addr} {su : List Value} {sn : List Int} (hSa : c.base.IsList sa su.toArray) (hSi : IntsAre su sn) {d : Addr} {aRead : Addr} (dRead : Fd c 33 (Str.ofString "_law_read") aRead) {aPv : Addr} (dPv : Fd c 8 (Str.ofString "_parse_varint") aPv) {aMode : Addr} (dMode : Fd c 31 (Str.ofString "filemode") aMode) (hMode : Fn c 1 aMode gMode) {aGiven : Addr} (dGiven : Fd c 34 (Str.ofString "_law_given") aGiven) (hGiven : Fn c 1 aGiven gGiven) {aWithout : Addr} (dWithout : Fd c 35 (Str.ofString "_law_without") aWithout) (hWithout : Fn c 1 aWithout gWithout) {aFlags : Addr} (dFlags : Fd c 7 (Str.ofString "pretty_flags") aFlags) (hFlags : Fn c 1 aFlags (gFlags d)) {fa : Addr} (hfa : Fd c 36 (Str.ofString "law") fa) : Fn c 0 fa (gLaw d sa sn) :=
  Fd.fn (own := [(Str.ofString "given"), (Str.ofString "stretches"), (Str.ofString "names")]) hc hfa (bodyLaw hc nm hSa hSi dRead dPv dMode hMode dGiven hGiven dWithout hWithout dFlags hFlags) (by decide)
    (by intro pm cd doc us h; exact bind_1 (F := fun us => bindArgs (docDef (Str.ofString "law") (parsOf (top 36)) (bodyOf (top 36)) (scopOf (top 36)) pm cd doc) ⟨us, []⟩) h (fun u0 => by kernel_rfl)) (by kernel_rfl) (by kernel_rfl) (by kernel_rfl) (by kernel_rfl) (by decide +kernel) (by decide +kernel) (by decide +kernel)
end Mine
end
/-! ## part FW21 -/
section
open PySem PySem.W PyProof.Rows PySem.Calls
set_option bootstrap.genMatcherCode false
namespace Mine
/-- a number for a name: names of different numbers are different -/
noncomputable def code (s : Str) : Nat := s.cps.foldl (fun a c => a * 128 + c) 0
theorem ne_code {a b : Str} (h : (code a == code b) = false) : (a = b) = False := eq_false fun e => by rw [e] at h; simp at h
@[simp] theorem code_COMPILER_FLAG_NAMES : code (Str.ofString "COMPILER_FLAG_NAMES") = 5752637227127004704524313007972479623891 := by kernel_rfl
@[simp] theorem code_S_IFMT : code (Str.ofString "S_IFMT") = 2877513901780 := by kernel_rfl
@[simp] theorem code__filemode_table : code (Str.ofString "_filemode_table") = 30361288959563339616040968042085 := by kernel_rfl
@[simp] theorem code__law_given : code (Str.ofString "_law_given") = 884057696462362751726 := by kernel_rfl
@[simp] theorem code__law_read : code (Str.ofString "_law_read") = 6906700753635209444 := by kernel_rfl
@[simp] theorem code__law_without : code (Str.ofString "_law_without") = 14484401298909719537908468 := by kernel_rfl
@[simp] theorem code__siftdown : code (Str.ofString "_siftdown") = 6910676009173646318 := by kernel_rfl
@[simp] theorem code__siftup : code (Str.ofString "_siftup") = 421794190015216 := by kernel_rfl
@[simp] theorem code_begin : code (Str.ofString "begin") = 26520188142 := by kernel_rfl
@[simp] theorem code_bit : code (Str.ofString "bit") = 1619188 := by kernel_rfl
@[simp] theorem code_char : code (Str.ofString "char") = 209334514 := by kernel_rfl
@[simp] theorem code_childpos : code (Str.ofString "childpos") = 56193079200987123 := by kernel_rfl
@[simp] theorem code_counts : code (Str.ofString "counts") = 3431657618035 := by kernel_rfl
@[simp] theorem code_end : code (Str.ofString "end") = 1668964 := by kernel_rfl
@[simp] theorem code_endpos : code (Str.ofString "endpos") = 3500073039859 := by kernel_rfl
@[simp] theorem code_filemode : code (Str.ofString "filemode") = 57886428326785637 := by kernel_rfl
@[simp] theorem code_first : code (Str.ofString "first") = 27602500084 := by kernel_rfl
@[simp] theorem code_flag : code (Str.ofString "flag") = 215691495 := by kernel_rfl
@[simp] theorem code_flags : code (Str.ofString "flags") = 27608511475 := by kernel_rfl
@[simp] theorem code_given : code (Str.ofString "given") = 27870999278 := by kernel_rfl
@[simp] theorem code_heap : code (Str.ofString "heap") = 219771120 := by kernel_rfl
@[simp] theorem code_heappop : code (Str.ofString "heappop") = 460893445699568 := by kernel_rfl
@[simp] theorem code_heappush : code (Str.ofString "heappush") = 58994361049643496 := by kernel_rfl
@[simp] theorem code_hour : code (Str.ofString "hour") = 219937522 := by kernel_rfl
@[simp] theorem code_hours : code (Str.ofString "hours") = 28152002931 := by kernel_rfl
@[simp] theorem code_i : code (Str.ofString "i") = 105 := by kernel_rfl
@[simp] theorem code_index : code (Str.ofString "index") = 28418061048 := by kernel_rfl
@[simp] theorem code_item : code (Str.ofString "item") = 222114541 := by kernel_rfl
@[simp] theorem code_k : code (Str.ofString "k") = 107 := by kernel_rfl
@[simp] theorem code_last : code (Str.ofString "last") = 228096500 := by kernel_rfl
@[simp] theorem code_lastelt : code (Str.ofString "lastelt") = 478353032836724 := by kernel_rfl
@[simp] theorem code_law : code (Str.ofString "law") = 1782007 := by kernel_rfl
@[simp] theorem code_many : code (Str.ofString "many") = 230193017 := by kernel_rfl
@[simp] theorem code_mode : code (Str.ofString "mode") = 230421093 := by kernel_rfl
@[simp] theorem code_most : code (Str.ofString "most") = 230423028 := by kernel_rfl
@[simp] theorem code_names : code (Str.ofString "names") = 29733122803 := by kernel_rfl
@[simp] theorem code_newitem : code (Str.ofString "newitem") = 487287615730413 := by kernel_rfl
@[simp] theorem code_numbers : code (Str.ofString "numbers") = 487834672265587 := by kernel_rfl
@[simp] theorem code_octets : code (Str.ofString "octets") = 3840751008371 := by kernel_rfl
@[simp] theorem code_parent : code (Str.ofString "parent") = 3874569680756 := by kernel_rfl
@[simp] theorem code_parentpos : code (Str.ofString "parentpos") = 8125561555138656243 := by kernel_rfl
@[simp] theorem code_perm : code (Str.ofString "perm") = 236550509 := by kernel_rfl
@[simp] theorem code_pos : code (Str.ofString "pos") = 1849331 := by kernel_rfl
@[simp] theorem code_pretty_flags : code (Str.ofString "pretty_flags") = 17060488904460874074846195 := by kernel_rfl
@[simp] theorem code_returnitem : code (Str.ofString "returnitem") = 1058808049912074023661 := by kernel_rfl
@[simp] theorem code_rightpos : code (Str.ofString "rightpos") = 64641656789153779 := by kernel_rfl
@[simp] theorem code_rights : code (Str.ofString "rights") = 3945413622387 := by kernel_rfl
@[simp] theorem code_row : code (Str.ofString "row") = 1882103 := by kernel_rfl
@[simp] theorem code_rows : code (Str.ofString "rows") = 240909299 := by kernel_rfl
@[simp] theorem code_script : code (Str.ofString "script") = 3978185832564 := by kernel_rfl
@[simp] theorem code_startpos : code (Str.ofString "startpos") = 65252781780121587 := by kernel_rfl
@[simp] theorem code_stretches : code (Str.ofString "stretches") = 8352430387942273779 := by kernel_rfl
@[simp] theorem code_table : code (Str.ofString "table") = 31343556197 := by kernel_rfl
@[simp] theorem code_v : code (Str.ofString "v") = 118 := by kernel_rfl
end Mine
end
/-! ## part FW22 -/
section
open PySem PySem.W PyProof.Rows PySem.Calls
set_option bootstrap.genMatcherCode false
namespace Mine
abbrev K2 := Int × Int
noncomputable def lt2 (p q : K2) : Bool := decide (p.1 < q.1 ∨ (p.1 = q.1 ∧ p.2 < q.2))
noncomputable def P2 (p : K2) : AV := .tuple [.int p.1, .int p.2]
noncomputable def downGo (new : K2) : Nat → List K2 → Nat → List K2
  | 0, ps, pos => ps.set pos new
  | n + 1, ps, pos => if pos = 0 then ps.set pos new else
    match ps[(pos - 1) / 2]? with
    | some par => if lt2 new par = true then downGo new n (ps.set pos par) ((pos - 1) / 2) else ps.set pos new
    | none => ps.set pos new
theorem AS.put_get (st : AS) (x : Str) (v : AV) (y : Str) : (st.put x v).loc y = if y = x then some v else st.loc y := rfl
theorem AS.put_H (st : AS) (x : Str) (v : AV) : (st.put x v).H = st.H := rfl
theorem oItem_nat {H : List (List AV)} {l : Nat} {xs : List AV} (h : H[l]? = some xs) (i : Nat) (hi : i < 1000000) : oItem H (.lst l) (.int i) = xs[i]? := by
  simp only [oItem, h]
  rw [if_pos (by (first | lia | omega))]
  simp
theorem cInt_i (f : Int → Int → Bool) (H : List (List AV)) (a b : Int) : cInt f H (.int a) (.int b) = some (f a b) := rfl
theorem cStr_s (f : Str → Str → Bool) (H : List (List AV)) (a b : Str) : cStr f H (.str a) (.str b) = some (f a b) := rfl
theorem cTup_P2 (H : List (List AV)) (p q : K2) : cTup H (P2 p) (P2 q) = some (lt2 p q) := rfl
theorem oShr1 (H : List (List AV)) (pos : Nat) (h : 0 < pos) : oInt fShr H (.int ((pos : Int) - 1)) (.int 1) = some (.int (((pos - 1) / 2 : Nat) : Int)) := by
  have : ((pos : Int) - 1) = ((pos - 1 : Nat) : Int) := by (first | lia | omega)
  simp only [oInt, fShr, this]
  rw [if_pos (by decide)]
  simp only [Option.some.injEq, AV.int.injEq]
  show ((pos - 1 : Nat) : Int).fdiv 2 = _
  rw [Int.fdiv_eq_ediv_of_nonneg _ (by decide)]
  rfl
theorem sSetIdx_ok {o i v : EM} {st s1 s2 s3 : AS} {y : AV} {l k : Nat} {xs : List AV} (hv : v st = some (y, s1)) (ho : o s1 = some (.lst l, s2)) (hi : i s2 = some (.int k, s3)) (hx : s3.H[l]? = some xs) (hk : k < xs.length) (hn : xs.length ≤ 1000000) :
    sSetIdx o i v st = some (.next, { s3 with H := s3.H.set l (xs.set k y) }) := by
  simp only [sSetIdx, hv, ho, hi, hx]
  rw [if_pos ⟨by (first | lia | omega), by (first | lia | omega), hn⟩]
  simp
theorem oSub (H : List (List AV)) (a b : Int) : oInt fSub H (.int a) (.int b) = some (.int (a - b)) := rfl
theorem oAdd (H : List (List AV)) (a b : Int) : oInt fAdd H (.int a) (.int b) = some (.int (a + b)) := rfl
theorem set_map {ps : List K2} {i : Nat} {p : K2} : (ps.map P2).set i (P2 p) = (ps.set i p).map P2 := by rw [List.map_set]
theorem getK {ps : List K2} {i : Nat} (h : i < ps.length) : (ps.map P2)[i]? = some (P2 ps[i]) := by rw [List.getElem?_map, List.getElem?_eq_getElem h]; rfl
theorem down_while (l : Nat) (new : K2) : ∀ (n fuel : Nat) (ps : List K2) (pos : Nat) (st : AS), st.H[l]? = some (ps.map P2) → pos < ps.length → ps.length ≤ 1000 → pos < n → pos < fuel →
    st.loc (Str.ofString "heap") = some (.lst l) → st.loc (Str.ofString "pos") = some (.int pos) → st.loc (Str.ofString "startpos") = some (.int 0) → st.loc (Str.ofString "newitem") = some (P2 new) →
    ∃ st', sSeq (sWhile bDown_w1_t bDown_w1_b n) bDown_2 st = some (.next, st') ∧ st'.H = st.H.set l ((downGo new fuel ps pos).map P2) := by
  intro n
  induction n with
  | zero => intro fuel ps pos st _ _ _ h; (first | lia | omega)
  | succ n ih =>
    intro fuel ps pos st hH hp hlen hn hf h1 h2 h3 h4
    have hfin : ∀ s1 : AS, s1.H = st.H → s1.loc (Str.ofString "heap") = some (.lst l) → s1.loc (Str.ofString "pos") = some (.int pos) → s1.loc (Str.ofString "newitem") = some (P2 new) → bDown_2 s1 = some (.next, { s1 with H := s1.H.set l ((ps.set pos new).map P2) }) := by
      intro s1 e1 e2 e3 e4
      unfold bDown_2
      rw [sSetIdx_ok (xs := ps.map P2) (l := l) (k := pos) (y := P2 new) (s1 := s1) (s2 := s1) (s3 := s1) (by simp only [eVar, e4]) (by simp only [eVar, e2]) (by simp only [eVar, e3]) (by rw [e1]; exact hH) (by simpa using hp) (by simp; (first | lia | omega)), set_map]
    cases fuel with
    | zero => (first | lia | omega)
    | succ fuel =>
    by_cases h0 : pos = 0
    · subst h0
      have ht : bDown_w1_t st = some (false, st) := by
        simp only [bDown_w1_t, tCmp, eVar, h2, h3, cInt]; rfl
      simp only [sSeq, sWhile, ht]
      rw [hfin st rfl h1 h2 h4]
      exact ⟨_, rfl, rfl⟩
    · have hpos : 0 < pos := Nat.pos_of_ne_zero h0
      have hq : (pos - 1) / 2 < ps.length := by (first | lia | omega)
      have hpar : ps[(pos - 1) / 2]? = some ps[(pos - 1) / 2] := List.getElem?_eq_getElem hq
      have hpar2 : (ps.map P2)[(pos - 1) / 2]? = some (P2 ps[(pos - 1) / 2]) := getK hq
      generalize ps[(pos - 1) / 2] = par at hpar hpar2
      have ht : decide ((pos : Int) > 0) = true := decide_eq_true (by (first | lia | omega))
      unfold downGo
      rw [if_neg h0, hpar]
      dsimp only
      cases hlt : lt2 new par with
      | true =>
        have step := ih fuel (ps.set pos par) ((pos - 1) / 2) (AS.put { (st.put (Str.ofString "parentpos") (.int ((pos - 1) / 2 : Nat))).put (Str.ofString "parent") (P2 par) with H := st.H.set l ((ps.set pos par).map P2) } (Str.ofString "pos") (.int ((pos - 1) / 2 : Nat)))
          (by show (st.H.set l _)[l]? = _
              rw [List.getElem?_set_self ((List.getElem?_eq_some_iff.mp hH).1)])
          (by rw [List.length_set]; exact hq) (by rw [List.length_set]; exact hlen) (by (first | lia | omega)) (by (first | lia | omega))
          (by (first | exact h1 | exact loc_o h1 (by decide) | exact loc_o (loc_o h1 (by decide)) (by decide))) (by (first | exact put_same _ _ _ | exact loc_o (put_same _ _ _) (by decide) | exact loc_o (loc_o (put_same _ _ _) (by decide)) (by decide))) (by (first | exact h3 | exact loc_o h3 (by decide) | exact loc_o (loc_o h3 (by decide)) (by decide))) (by (first | exact h4 | exact loc_o h4 (by decide) | exact loc_o (loc_o h4 (by decide)) (by decide)))
        obtain ⟨st', e1, e2⟩ := step
        refine ⟨st', ?_, ?_⟩
        · rw [← e1]
          have hset : ∀ s1 : AS, s1.H = st.H → s1.loc (Str.ofString "heap") = some (.lst l) → s1.loc (Str.ofString "pos") = some (.int pos) → s1.loc (Str.ofString "parent") = some (P2 par) → sSetIdx (eVar (Str.ofString "heap")) (eVar (Str.ofString "pos")) (eVar (Str.ofString "parent")) s1 = some (.next, { s1 with H := st.H.set l ((ps.set pos par).map P2) }) := by
            intro s1 e1 e2 e3 e4
            rw [sSetIdx_ok (xs := ps.map P2) (l := l) (k := pos) (y := P2 par) (s1 := s1) (s2 := s1) (s3 := s1) (by simp only [eVar, e4]) (by simp only [eVar, e2]) (by simp only [eVar, e3]) (by rw [e1]; exact hH) (by simpa using hp) (by simp; (first | lia | omega)), set_map, e1]
          simp only [sSeq, sAssign, sRet, sFl, sIf, sExpr, eBin, eUn, eVar, eVal, eCall, eMeth, eBinG, esCons, esNil, eIf, tCmp, tNot, tAnd, tOr, tVal, tTrue, AS.put_get, AS.put_H, ne_code, isLst, isStr, if_true, if_false, eq_self, List.zip_cons_cons, List.zip_nil_right, locAfter, Nat.reduceBEq, Bool.false_eq_true, reduceCtorEq, code_COMPILER_FLAG_NAMES, code_S_IFMT, code__filemode_table, code__law_given, code__law_read, code__law_without, code__siftdown, code__siftup, code_begin, code_bit, code_char, code_childpos, code_counts, code_end, code_endpos, code_filemode, code_first, code_flag, code_flags, code_given, code_heap, code_heappop, code_heappush, code_hour, code_hours, code_i, code_index, code_item, code_k, code_last, code_lastelt, code_law, code_many, code_mode, code_most, code_names, code_newitem, code_numbers, code_octets, code_parent, code_parentpos, code_perm, code_pos, code_pretty_flags, code_returnitem, code_rightpos, code_rights, code_row, code_rows, code_script, code_startpos, code_stretches, code_table, code_v, bDown_w1_t, bDown_w1_b, sWhile, h2, h3, cInt_i, ht, oSub, oShr1 _ _ hpos, h1, oItem_nat hH _ (by (first | lia | omega) : (pos - 1) / 2 < 1000000), hpar2, h4, cTup_P2, hlt]
          rw [hset ((st.put (Str.ofString "parentpos") (.int ((pos - 1) / 2 : Nat))).put (Str.ofString "parent") (P2 par)) rfl (by (first | exact h1 | exact loc_o h1 (by decide) | exact loc_o (loc_o h1 (by decide)) (by decide))) (by (first | exact h2 | exact loc_o h2 (by decide) | exact loc_o (loc_o h2 (by decide)) (by decide))) (by (first | exact put_same _ _ _ | exact loc_o (put_same _ _ _) (by decide) | exact loc_o (loc_o (put_same _ _ _) (by decide)) (by decide)))]
          simp only [sSeq, sAssign, sRet, sFl, sIf, sExpr, eBin, eUn, eVar, eVal, eCall, eMeth, eBinG, esCons, esNil, eIf, tCmp, tNot, tAnd, tOr, tVal, tTrue, AS.put_get, AS.put_H, ne_code, isLst, isStr, if_true, if_false, eq_self, List.zip_cons_cons, List.zip_nil_right, locAfter, Nat.reduceBEq, Bool.false_eq_true, reduceCtorEq, code_COMPILER_FLAG_NAMES, code_S_IFMT, code__filemode_table, code__law_given, code__law_read, code__law_without, code__siftdown, code__siftup, code_begin, code_bit, code_char, code_childpos, code_counts, code_end, code_endpos, code_filemode, code_first, code_flag, code_flags, code_given, code_heap, code_heappop, code_heappush, code_hour, code_hours, code_i, code_index, code_item, code_k, code_last, code_lastelt, code_law, code_many, code_mode, code_most, code_names, code_newitem, code_numbers, code_octets, code_parent, code_parentpos, code_perm, code_pos, code_pretty_flags, code_returnitem, code_rightpos, code_rights, code_row, code_rows, code_script, code_startpos, code_stretches, code_table, code_v, bDown_w1_t, bDown_w1_b]
        · rw [e2]
          show (st.H.set l _).set l _ = _
          rw [List.set_set]
          rfl
      | false =>
        have e := hfin ((st.put (Str.ofString "parentpos") (.int ((pos - 1) / 2 : Nat))).put (Str.ofString "parent") (P2 par)) rfl (by (first | exact h1 | exact loc_o h1 (by decide) | exact loc_o (loc_o h1 (by decide)) (by decide))) (by (first | exact h2 | exact loc_o h2 (by decide) | exact loc_o (loc_o h2 (by decide)) (by decide))) (by (first | exact h4 | exact loc_o h4 (by decide) | exact loc_o (loc_o h4 (by decide)) (by decide)))
        simp only [Bool.false_eq_true, if_false]
        refine ⟨_, Eq.trans ?_ e, rfl⟩
        · skip
          simp only [sSeq, sAssign, sRet, sFl, sIf, sExpr, eBin, eUn, eVar, eVal, eCall, eMeth, eBinG, esCons, esNil, eIf, tCmp, tNot, tAnd, tOr, tVal, tTrue, AS.put_get, AS.put_H, ne_code, isLst, isStr, if_true, if_false, eq_self, List.zip_cons_cons, List.zip_nil_right, locAfter, Nat.reduceBEq, Bool.false_eq_true, reduceCtorEq, code_COMPILER_FLAG_NAMES, code_S_IFMT, code__filemode_table, code__law_given, code__law_read, code__law_without, code__siftdown, code__siftup, code_begin, code_bit, code_char, code_childpos, code_counts, code_end, code_endpos, code_filemode, code_first, code_flag, code_flags, code_given, code_heap, code_heappop, code_heappush, code_hour, code_hours, code_i, code_index, code_item, code_k, code_last, code_lastelt, code_law, code_many, code_mode, code_most, code_names, code_newitem, code_numbers, code_octets, code_parent, code_parentpos, code_perm, code_pos, code_pretty_flags, code_returnitem, code_rightpos, code_rights, code_row, code_rows, code_script, code_startpos, code_stretches, code_table, code_v, bDown_w1_t, bDown_w1_b, sWhile, h2, h3, cInt_i, ht, oSub, oShr1 _ _ hpos, h1, oItem_nat hH _ (by (first | lia | omega) : (pos - 1) / 2 < 1000000), hpar2, h4, cTup_P2, hlt]
theorem gDown_eq {H : List (List AV)} {l pos : Nat} {ps : List K2} (hH : H[l]? = some (ps.map P2)) (hp : pos < ps.length) (hlen : ps.length ≤ 90) :
    gDown [.lst l, .int 0, .int pos] H = some (.none, H.set l ((downGo ps[pos] 100 ps pos).map P2)) := by
  have h0 : bDown_0 ⟨locAfter ([(Str.ofString "heap"), (Str.ofString "startpos"), (Str.ofString "pos")].zip [.lst l, .int 0, .int pos]) (fun _ => none), H⟩ =
      some (.next, AS.put ⟨locAfter ([(Str.ofString "heap"), (Str.ofString "startpos"), (Str.ofString "pos")].zip [.lst l, .int 0, .int pos]) (fun _ => none), H⟩ (Str.ofString "newitem") (P2 ps[pos])) := by
    simp only [sSeq, sAssign, sRet, sFl, sIf, sExpr, eBin, eUn, eVar, eVal, eCall, eMeth, eBinG, esCons, esNil, eIf, tCmp, tNot, tAnd, tOr, tVal, tTrue, AS.put_get, AS.put_H, ne_code, isLst, isStr, if_true, if_false, eq_self, List.zip_cons_cons, List.zip_nil_right, locAfter, Nat.reduceBEq, Bool.false_eq_true, reduceCtorEq, code_COMPILER_FLAG_NAMES, code_S_IFMT, code__filemode_table, code__law_given, code__law_read, code__law_without, code__siftdown, code__siftup, code_begin, code_bit, code_char, code_childpos, code_counts, code_end, code_endpos, code_filemode, code_first, code_flag, code_flags, code_given, code_heap, code_heappop, code_heappush, code_hour, code_hours, code_i, code_index, code_item, code_k, code_last, code_lastelt, code_law, code_many, code_mode, code_most, code_names, code_newitem, code_numbers, code_octets, code_parent, code_parentpos, code_perm, code_pos, code_pretty_flags, code_returnitem, code_rightpos, code_rights, code_row, code_rows, code_script, code_startpos, code_stretches, code_table, code_v, bDown_0, List.zip_cons_cons, List.zip_nil_right, locAfter, oItem_nat hH _ (by (first | lia | omega) : pos < 1000000), getK hp]
  obtain ⟨st', e1, e2⟩ := down_while l ps[pos] 100 100 ps pos (AS.put ⟨locAfter ([(Str.ofString "heap"), (Str.ofString "startpos"), (Str.ofString "pos")].zip [.lst l, .int 0, .int pos]) (fun _ => none), H⟩ (Str.ofString "newitem") (P2 ps[pos])) hH hp (by (first | lia | omega)) (by (first | lia | omega)) (by (first | lia | omega))
    (by simp only [sSeq, sAssign, sRet, sFl, sIf, sExpr, eBin, eUn, eVar, eVal, eCall, eMeth, eBinG, esCons, esNil, eIf, tCmp, tNot, tAnd, tOr, tVal, tTrue, AS.put_get, AS.put_H, ne_code, isLst, isStr, if_true, if_false, eq_self, List.zip_cons_cons, List.zip_nil_right, locAfter, Nat.reduceBEq, Bool.false_eq_true, reduceCtorEq, code_COMPILER_FLAG_NAMES, code_S_IFMT, code__filemode_table, code__law_given, code__law_read, code__law_without, code__siftdown, code__siftup, code_begin, code_bit, code_char, code_childpos, code_counts, code_end, code_endpos, code_filemode, code_first, code_flag, code_flags, code_given, code_heap, code_heappop, code_heappush, code_hour, code_hours, code_i, code_index, code_item, code_k, code_last, code_lastelt, code_law, code_many, code_mode, code_most, code_names, code_newitem, code_numbers, code_octets, code_parent, code_parentpos, code_perm, code_pos, code_pretty_flags, code_returnitem, code_rightpos, code_rights, code_row, code_rows, code_script, code_startpos, code_stretches, code_table, code_v, List.zip_cons_cons, List.zip_nil_right, locAfter]) (by simp only [sSeq, sAssign, sRet, sFl, sIf, sExpr, eBin, eUn, eVar, eVal, eCall, eMeth, eBinG, esCons, esNil, eIf, tCmp, tNot, tAnd, tOr, tVal, tTrue, AS.put_get, AS.put_H, ne_code, isLst, isStr, if_true, if_false, eq_self, List.zip_cons_cons, List.zip_nil_right, locAfter, Nat.reduceBEq, Bool.false_eq_true, reduceCtorEq, code_COMPILER_FLAG_NAMES, code_S_IFMT, code__filemode_table, code__law_given, code__law_read, code__law_without, code__siftdown, code__siftup, code_begin, code_bit, code_char, code_childpos, code_counts, code_end, code_endpos, code_filemode, code_first, code_flag, code_flags, code_given, code_heap, code_heappop, code_heappush, code_hour, code_hours, code_i, code_index, code_item, code_k, code_last, code_lastelt, code_law, code_many, code_mode, code_most, code_names, code_newitem, code_numbers, code_octets, code_parent, code_parentpos, code_perm, code_pos, code_pretty_flags, code_returnitem, code_rightpos, code_rights, code_row, code_rows, code_script, code_startpos, code_stretches, code_table, code_v, List.zip_cons_cons, List.zip_nil_right, locAfter]) (by simp only [sSeq, sAssign, sRet, sFl, sIf, sExpr, eBin, eUn, eVar, eVal, eCall, eMeth, eBinG, esCons, esNil, eIf, tCmp, tNot, tAnd, tOr, tVal, tTrue, AS.put_get, AS.put_H, ne_code, isLst, isStr, if_true, if_false, eq_self, List.zip_cons_cons, List.zip_nil_right, locAfter, Nat.reduceBEq, Bool.false_eq_true, reduceCtorEq, code_COMPILER_FLAG_NAMES, code_S_IFMT, code__filemode_table, code__law_given, code__law_read, code__law_without, code__siftdown, code__siftup, code_begin, code_bit, code_char, code_childpos, code_counts, code_end, code_endpos, code_filemode, code_first, code_flag, code_flags, code_given, code_heap, code_heappop, code_heappush, code_hour, code_hours, code_i, code_index, code_item, code_k, code_last, code_lastelt, code_law, code_many, code_mode, code_most, code_names, code_newitem, code_numbers, code_octets, code_parent, code_parentpos, code_perm, code_pos, code_pretty_flags, code_returnitem, code_rightpos, code_rights, code_row, code_rows, code_script, code_startpos, code_stretches, code_table, code_v, List.zip_cons_cons, List.zip_nil_right, locAfter]) (by (first | exact put_same _ _ _ | exact loc_o (put_same _ _ _) (by decide) | exact loc_o (loc_o (put_same _ _ _) (by decide)) (by decide)))
  have h1 : bDown ⟨locAfter ([(Str.ofString "heap"), (Str.ofString "startpos"), (Str.ofString "pos")].zip [.lst l, .int 0, .int pos]) (fun _ => none), H⟩ = some (.next, st') := by
    rw [← e1]
    unfold bDown
    rw [sSeq.eq_1, h0]
    rfl
  simp only [gDown, gFn, List.length_cons, List.length_nil, if_true, h1, e2]
  rfl
end Mine
end
/-! ## part FW23 -/
section
open PySem PySem.W PyProof.Rows PySem.Calls
set_option bootstrap.genMatcherCode false
namespace Mine
noncomputable def pick (ps : List K2) (c : Nat) : Nat := if c + 1 < ps.length ∧ lt2 (ps.getD c (0, 0)) (ps.getD (c + 1) (0, 0)) = false then c + 1 else c
noncomputable def upGo : Nat → List K2 → Nat → List K2 × Nat
  | 0, ps, pos => (ps, pos)
  | n + 1, ps, pos => if 2 * pos + 1 < ps.length then upGo n (ps.set pos (ps.getD (pick ps (2 * pos + 1)) (0, 0))) (pick ps (2 * pos + 1)) else (ps, pos)
theorem upGo_len : ∀ (n : Nat) (ps : List K2) (pos : Nat), (upGo n ps pos).1.length = ps.length
  | 0, _, _ => rfl
  | n + 1, ps, pos => by
    unfold upGo
    split
    · rw [upGo_len n, List.length_set]
    · rfl
theorem pick_lt {ps : List K2} {c : Nat} (h : c < ps.length) : pick ps c < ps.length ∧ c ≤ pick ps c ∧ pick ps c ≤ c + 1 := by
  unfold pick
  split <;> (first | lia | omega)
theorem upGo_pos : ∀ (n : Nat) (ps : List K2) (pos : Nat), pos < ps.length → (upGo n ps pos).2 < ps.length
  | 0, _, _, h => h
  | n + 1, ps, pos, h => by
    unfold upGo
    split
    · rename_i h2
      have := upGo_pos n (ps.set pos (ps.getD (pick ps (2 * pos + 1)) (0, 0))) (pick ps (2 * pos + 1)) (by rw [List.length_set]; exact (pick_lt h2).1)
      rwa [List.length_set] at this
    · exact h
theorem getD_map {ps : List K2} {i : Nat} (h : i < ps.length) : (ps.map P2)[i]? = some (P2 (ps.getD i (0, 0))) := by
  rw [getK h, List.getD_eq_getElem?_getD, List.getElem?_eq_getElem h]; rfl
theorem oMul2 (H : List (List AV)) (n : Nat) : oInt fMul H (.int 2) (.int n) = some (.int ((2 * n : Nat) : Int)) := by
  simp only [oInt, fMul]
  rw [if_pos (by decide)]
  simp
theorem up_while (l : Nat) (new : K2) (len : Nat) : ∀ (n : Nat) (ps : List K2) (pos : Nat) (st : AS), st.H[l]? = some (ps.map P2) → pos < ps.length → ps.length = len → len ≤ 1000 → len < n + pos →
    st.loc (Str.ofString "heap") = some (.lst l) → st.loc (Str.ofString "pos") = some (.int pos) → st.loc (Str.ofString "startpos") = some (.int 0) → st.loc (Str.ofString "newitem") = some (P2 new) → st.loc (Str.ofString "endpos") = some (.int len) → st.loc (Str.ofString "childpos") = some (.int ((2 * pos + 1 : Nat) : Int)) →
    ∃ st', sWhile bUp_w1_t bUp_w1_b n st = some (.next, st') ∧ st'.H = st.H.set l ((upGo n ps pos).1.map P2) ∧ st'.loc (Str.ofString "heap") = some (.lst l) ∧ st'.loc (Str.ofString "pos") = some (.int ((upGo n ps pos).2 : Nat)) ∧ st'.loc (Str.ofString "startpos") = some (.int 0) ∧ st'.loc (Str.ofString "newitem") = some (P2 new) := by
  intro n
  induction n with
  | zero => intro ps pos st _ h _ _ _; (first | lia | omega)
  | succ n ih =>
    intro ps pos st hH hp hl hlen hn h1 h2 h3 h4 h5 h6
    unfold upGo
    by_cases hc : 2 * pos + 1 < ps.length
    · rw [if_pos hc]
      have ht : bUp_w1_t st = some (true, st) := by
        simp only [sSeq, sAssign, sRet, sFl, sIf, sExpr, eBin, eUn, eVar, eVal, eCall, eMeth, eBinG, esCons, esNil, eIf, tCmp, tNot, tAnd, tOr, tVal, tTrue, AS.put_get, AS.put_H, ne_code, isLst, isStr, if_true, if_false, eq_self, List.zip_cons_cons, List.zip_nil_right, locAfter, Nat.reduceBEq, Bool.false_eq_true, reduceCtorEq, code_COMPILER_FLAG_NAMES, code_S_IFMT, code__filemode_table, code__law_given, code__law_read, code__law_without, code__siftdown, code__siftup, code_begin, code_bit, code_char, code_childpos, code_counts, code_end, code_endpos, code_filemode, code_first, code_flag, code_flags, code_given, code_heap, code_heappop, code_heappush, code_hour, code_hours, code_i, code_index, code_item, code_k, code_last, code_lastelt, code_law, code_many, code_mode, code_most, code_names, code_newitem, code_numbers, code_octets, code_parent, code_parentpos, code_perm, code_pos, code_pretty_flags, code_returnitem, code_rightpos, code_rights, code_row, code_rows, code_script, code_startpos, code_stretches, code_table, code_v, bUp_w1_t, h5, h6, cInt_i]
        rw [decide_eq_true (by (first | lia | omega) : ((2 * pos + 1 : Nat) : Int) < (len : Int))]
      obtain ⟨k1, k2, k3⟩ := pick_lt hc
      generalize hq : pick ps (2 * pos + 1) = q at *
      have step := ih (ps.set pos (ps.getD q (0, 0))) q (((AS.put { ((st.put (Str.ofString "rightpos") (.int (((2 * pos + 1 : Nat) : Int) + 1))).put (Str.ofString "childpos") (.int q)) with H := st.H.set l ((ps.set pos (ps.getD q (0, 0))).map P2) } (Str.ofString "pos") (.int q))).put (Str.ofString "childpos") (.int ((2 * q + 1 : Nat) : Int)))
        (by show (st.H.set l _)[l]? = _
            rw [List.getElem?_set_self ((List.getElem?_eq_some_iff.mp hH).1)])
        (by rw [List.length_set]; exact k1) (by rw [List.length_set]; exact hl) hlen (by (first | lia | omega))
        (by (first | exact h1 | exact loc_o h1 (by decide) | exact loc_o (loc_o h1 (by decide)) (by decide))) (by (first | exact put_same _ _ _ | exact loc_o (put_same _ _ _) (by decide) | exact loc_o (loc_o (put_same _ _ _) (by decide)) (by decide))) (by (first | exact h3 | exact loc_o h3 (by decide) | exact loc_o (loc_o h3 (by decide)) (by decide))) (by (first | exact h4 | exact loc_o h4 (by decide) | exact loc_o (loc_o h4 (by decide)) (by decide))) (by (first | exact h5 | exact loc_o h5 (by decide) | exact loc_o (loc_o h5 (by decide)) (by decide))) (by (first | exact put_same _ _ _ | exact loc_o (put_same _ _ _) (by decide) | exact loc_o (loc_o (put_same _ _ _) (by decide)) (by decide)))
      obtain ⟨st', e1, e2, e3⟩ := step
      have hb : bUp_w1_b st = some (.next, (((AS.put { ((st.put (Str.ofString "rightpos") (.int (((2 * pos + 1 : Nat) : Int) + 1))).put (Str.ofString "childpos") (.int q)) with H := st.H.set l ((ps.set pos (ps.getD q (0, 0))).map P2) } (Str.ofString "pos") (.int q))).put (Str.ofString "childpos") (.int ((2 * q + 1 : Nat) : Int)))) := by
        have hset : ∀ s1 : AS, s1.H = st.H → s1.loc (Str.ofString "heap") = some (.lst l) → s1.loc (Str.ofString "pos") = some (.int pos) → s1.loc (Str.ofString "childpos") = some (.int q) → sSetIdx (eVar (Str.ofString "heap")) (eVar (Str.ofString "pos")) (eBin oItem (eVar (Str.ofString "heap")) (eVar (Str.ofString "childpos"))) s1 = some (.next, { s1 with H := st.H.set l ((ps.set pos (ps.getD q (0, 0))).map P2) }) := by
          intro s1 e1 e2 e3 e4
          rw [sSetIdx_ok (xs := ps.map P2) (l := l) (k := pos) (y := P2 (ps.getD q (0, 0))) (s1 := s1) (s2 := s1) (s3 := s1) (by simp only [sSeq, sAssign, sRet, sFl, sIf, sExpr, eBin, eUn, eVar, eVal, eCall, eMeth, eBinG, esCons, esNil, eIf, tCmp, tNot, tAnd, tOr, tVal, tTrue, AS.put_get, AS.put_H, ne_code, isLst, isStr, if_true, if_false, eq_self, List.zip_cons_cons, List.zip_nil_right, locAfter, Nat.reduceBEq, Bool.false_eq_true, reduceCtorEq, code_COMPILER_FLAG_NAMES, code_S_IFMT, code__filemode_table, code__law_given, code__law_read, code__law_without, code__siftdown, code__siftup, code_begin, code_bit, code_char, code_childpos, code_counts, code_end, code_endpos, code_filemode, code_first, code_flag, code_flags, code_given, code_heap, code_heappop, code_heappush, code_hour, code_hours, code_i, code_index, code_item, code_k, code_last, code_lastelt, code_law, code_many, code_mode, code_most, code_names, code_newitem, code_numbers, code_octets, code_parent, code_parentpos, code_perm, code_pos, code_pretty_flags, code_returnitem, code_rightpos, code_rights, code_row, code_rows, code_script, code_startpos, code_stretches, code_table, code_v, e2, e4]; rw [oItem_nat (by rw [e1]; exact hH) _ (by (first | lia | omega)), getD_map k1]) (by simp only [eVar, e2]) (by simp only [eVar, e3]) (by rw [e1]; exact hH) (by simpa using hp) (by simp; (first | lia | omega)), set_map, e1]
        have hrest : ∀ s1 : AS, s1.H = st.H → s1.loc (Str.ofString "heap") = some (.lst l) → s1.loc (Str.ofString "pos") = some (.int pos) → s1.loc (Str.ofString "childpos") = some (.int q) →
            sSeq (sSetIdx (eVar (Str.ofString "heap")) (eVar (Str.ofString "pos")) (eBin oItem (eVar (Str.ofString "heap")) (eVar (Str.ofString "childpos")))) (sSeq (sAssign (Str.ofString "pos") (eVar (Str.ofString "childpos"))) (sAssign (Str.ofString "childpos") (eBin (oInt fAdd) (eBin (oInt fMul) (eVal (.int 2)) (eVar (Str.ofString "pos"))) (eVal (.int 1))))) s1 =
              some (.next, (AS.put { s1 with H := st.H.set l ((ps.set pos (ps.getD q (0, 0))).map P2) } (Str.ofString "pos") (.int q)).put (Str.ofString "childpos") (.int ((2 * q + 1 : Nat) : Int))) := by
          intro s1 e1 e2 e3 e4
          rw [sSeq.eq_1, hset s1 e1 e2 e3 e4]
          simp only [sSeq, sAssign, sRet, sFl, sIf, sExpr, eBin, eUn, eVar, eVal, eCall, eMeth, eBinG, esCons, esNil, eIf, tCmp, tNot, tAnd, tOr, tVal, tTrue, AS.put_get, AS.put_H, ne_code, isLst, isStr, if_true, if_false, eq_self, List.zip_cons_cons, List.zip_nil_right, locAfter, Nat.reduceBEq, Bool.false_eq_true, reduceCtorEq, code_COMPILER_FLAG_NAMES, code_S_IFMT, code__filemode_table, code__law_given, code__law_read, code__law_without, code__siftdown, code__siftup, code_begin, code_bit, code_char, code_childpos, code_counts, code_end, code_endpos, code_filemode, code_first, code_flag, code_flags, code_given, code_heap, code_heappop, code_heappush, code_hour, code_hours, code_i, code_index, code_item, code_k, code_last, code_lastelt, code_law, code_many, code_mode, code_most, code_names, code_newitem, code_numbers, code_octets, code_parent, code_parentpos, code_perm, code_pos, code_pretty_flags, code_returnitem, code_rightpos, code_rights, code_row, code_rows, code_script, code_startpos, code_stretches, code_table, code_v, e4, oMul2, oAdd]
          rfl
        have put_put : ∀ (s : AS) (x : Str) (u v : AV), (s.put x u).put x v = s.put x v := by
          intro s x u v
          unfold AS.put
          congr 1
          funext y
          dsimp only
          split <;> rfl
        unfold bUp_w1_b
        rw [sSeq.eq_1]
        have e0 : sAssign (Str.ofString "rightpos") (eBin (oInt fAdd) (eVar (Str.ofString "childpos")) (eVal (.int 1))) st = some (.next, st.put (Str.ofString "rightpos") (.int (((2 * pos + 1 : Nat) : Int) + 1))) := by
          simp only [sSeq, sAssign, sRet, sFl, sIf, sExpr, eBin, eUn, eVar, eVal, eCall, eMeth, eBinG, esCons, esNil, eIf, tCmp, tNot, tAnd, tOr, tVal, tTrue, AS.put_get, AS.put_H, ne_code, isLst, isStr, if_true, if_false, eq_self, List.zip_cons_cons, List.zip_nil_right, locAfter, Nat.reduceBEq, Bool.false_eq_true, reduceCtorEq, code_COMPILER_FLAG_NAMES, code_S_IFMT, code__filemode_table, code__law_given, code__law_read, code__law_without, code__siftdown, code__siftup, code_begin, code_bit, code_char, code_childpos, code_counts, code_end, code_endpos, code_filemode, code_first, code_flag, code_flags, code_given, code_heap, code_heappop, code_heappush, code_hour, code_hours, code_i, code_index, code_item, code_k, code_last, code_lastelt, code_law, code_many, code_mode, code_most, code_names, code_newitem, code_numbers, code_octets, code_parent, code_parentpos, code_perm, code_pos, code_pretty_flags, code_returnitem, code_rightpos, code_rights, code_row, code_rows, code_script, code_startpos, code_stretches, code_table, code_v, h6, oAdd]
        rw [e0]
        dsimp only
        rw [sSeq.eq_1]
        have hcast : (((2 * pos + 1 : Nat) : Int) + 1) = ((2 * pos + 1 + 1 : Nat) : Int) := by (first | lia | omega)
        unfold pick at hq
        by_cases hr : 2 * pos + 1 + 1 < ps.length
        · have hi1 := oItem_nat hH (2 * pos + 1) (by (first | lia | omega))
          rw [getD_map hc] at hi1
          have hi2 := oItem_nat hH (2 * pos + 1 + 1) (by (first | lia | omega))
          rw [getD_map hr] at hi2
          cases hlt : lt2 (ps.getD (2 * pos + 1) (0, 0)) (ps.getD (2 * pos + 1 + 1) (0, 0)) with
          | false =>
            rw [if_pos ⟨hr, hlt⟩] at hq
            have ei : sIf (tAnd (tCmp (cInt fun a b => decide (a < b)) (eVar (Str.ofString "rightpos")) (eVar (Str.ofString "endpos"))) (tNot (tCmp cTup (eBin oItem (eVar (Str.ofString "heap")) (eVar (Str.ofString "childpos"))) (eBin oItem (eVar (Str.ofString "heap")) (eVar (Str.ofString "rightpos")))))) (sAssign (Str.ofString "childpos") (eVar (Str.ofString "rightpos"))) (sFl .next) (st.put (Str.ofString "rightpos") (.int (((2 * pos + 1 : Nat) : Int) + 1))) =
                some (.next, (st.put (Str.ofString "rightpos") (.int (((2 * pos + 1 : Nat) : Int) + 1))).put (Str.ofString "childpos") (.int q)) := by
              rw [← hq, hcast]
              have hd : decide (((2 * pos + 1 + 1 : Nat) : Int) < (len : Int)) = true := decide_eq_true (by (first | lia | omega))
              simp only [sSeq, sAssign, sRet, sFl, sIf, sExpr, eBin, eUn, eVar, eVal, eCall, eMeth, eBinG, esCons, esNil, eIf, tCmp, tNot, tAnd, tOr, tVal, tTrue, AS.put_get, AS.put_H, ne_code, isLst, isStr, if_true, if_false, eq_self, List.zip_cons_cons, List.zip_nil_right, locAfter, Nat.reduceBEq, Bool.false_eq_true, reduceCtorEq, code_COMPILER_FLAG_NAMES, code_S_IFMT, code__filemode_table, code__law_given, code__law_read, code__law_without, code__siftdown, code__siftup, code_begin, code_bit, code_char, code_childpos, code_counts, code_end, code_endpos, code_filemode, code_first, code_flag, code_flags, code_given, code_heap, code_heappop, code_heappush, code_hour, code_hours, code_i, code_index, code_item, code_k, code_last, code_lastelt, code_law, code_many, code_mode, code_most, code_names, code_newitem, code_numbers, code_octets, code_parent, code_parentpos, code_perm, code_pos, code_pretty_flags, code_returnitem, code_rightpos, code_rights, code_row, code_rows, code_script, code_startpos, code_stretches, code_table, code_v, h5, h6, h1, cInt_i, hd, hi1, hi2, cTup_P2, hlt, Bool.not_false]
            rw [ei]
            dsimp only
            rw [hrest ((st.put (Str.ofString "rightpos") (.int (((2 * pos + 1 : Nat) : Int) + 1))).put (Str.ofString "childpos") (.int q)) rfl (by (first | exact h1 | exact loc_o h1 (by decide) | exact loc_o (loc_o h1 (by decide)) (by decide))) (by (first | exact h2 | exact loc_o h2 (by decide) | exact loc_o (loc_o h2 (by decide)) (by decide))) (by (first | exact put_same _ _ _ | exact loc_o (put_same _ _ _) (by decide) | exact loc_o (loc_o (put_same _ _ _) (by decide)) (by decide)))]
          | true =>
            rw [if_neg (fun h => by rw [hlt] at h; exact absurd h.2 (by decide))] at hq
            have ei : sIf (tAnd (tCmp (cInt fun a b => decide (a < b)) (eVar (Str.ofString "rightpos")) (eVar (Str.ofString "endpos"))) (tNot (tCmp cTup (eBin oItem (eVar (Str.ofString "heap")) (eVar (Str.ofString "childpos"))) (eBin oItem (eVar (Str.ofString "heap")) (eVar (Str.ofString "rightpos")))))) (sAssign (Str.ofString "childpos") (eVar (Str.ofString "rightpos"))) (sFl .next) (st.put (Str.ofString "rightpos") (.int (((2 * pos + 1 : Nat) : Int) + 1))) =
                some (.next, (st.put (Str.ofString "rightpos") (.int (((2 * pos + 1 : Nat) : Int) + 1)))) := by
              rw [hcast]
              have hd : decide (((2 * pos + 1 + 1 : Nat) : Int) < (len : Int)) = true := decide_eq_true (by (first | lia | omega))
              simp only [sSeq, sAssign, sRet, sFl, sIf, sExpr, eBin, eUn, eVar, eVal, eCall, eMeth, eBinG, esCons, esNil, eIf, tCmp, tNot, tAnd, tOr, tVal, tTrue, AS.put_get, AS.put_H, ne_code, isLst, isStr, if_true, if_false, eq_self, List.zip_cons_cons, List.zip_nil_right, locAfter, Nat.reduceBEq, Bool.false_eq_true, reduceCtorEq, code_COMPILER_FLAG_NAMES, code_S_IFMT, code__filemode_table, code__law_given, code__law_read, code__law_without, code__siftdown, code__siftup, code_begin, code_bit, code_char, code_childpos, code_counts, code_end, code_endpos, code_filemode, code_first, code_flag, code_flags, code_given, code_heap, code_heappop, code_heappush, code_hour, code_hours, code_i, code_index, code_item, code_k, code_last, code_lastelt, code_law, code_many, code_mode, code_most, code_names, code_newitem, code_numbers, code_octets, code_parent, code_parentpos, code_perm, code_pos, code_pretty_flags, code_returnitem, code_rightpos, code_rights, code_row, code_rows, code_script, code_startpos, code_stretches, code_table, code_v, h5, h6, h1, cInt_i, hd, hi1, hi2, cTup_P2, hlt, Bool.not_true]
            rw [ei]
            dsimp only
            rw [hrest (st.put (Str.ofString "rightpos") (.int (((2 * pos + 1 : Nat) : Int) + 1))) rfl (by (first | exact h1 | exact loc_o h1 (by decide) | exact loc_o (loc_o h1 (by decide)) (by decide))) (by (first | exact h2 | exact loc_o h2 (by decide) | exact loc_o (loc_o h2 (by decide)) (by decide))) (by simp only [sSeq, sAssign, sRet, sFl, sIf, sExpr, eBin, eUn, eVar, eVal, eCall, eMeth, eBinG, esCons, esNil, eIf, tCmp, tNot, tAnd, tOr, tVal, tTrue, AS.put_get, AS.put_H, ne_code, isLst, isStr, if_true, if_false, eq_self, List.zip_cons_cons, List.zip_nil_right, locAfter, Nat.reduceBEq, Bool.false_eq_true, reduceCtorEq, code_COMPILER_FLAG_NAMES, code_S_IFMT, code__filemode_table, code__law_given, code__law_read, code__law_without, code__siftdown, code__siftup, code_begin, code_bit, code_char, code_childpos, code_counts, code_end, code_endpos, code_filemode, code_first, code_flag, code_flags, code_given, code_heap, code_heappop, code_heappush, code_hour, code_hours, code_i, code_index, code_item, code_k, code_last, code_lastelt, code_law, code_many, code_mode, code_most, code_names, code_newitem, code_numbers, code_octets, code_parent, code_parentpos, code_perm, code_pos, code_pretty_flags, code_returnitem, code_rightpos, code_rights, code_row, code_rows, code_script, code_startpos, code_stretches, code_table, code_v, h6, ← hq])]
            have : ∀ s1 : AS, s1.loc (Str.ofString "childpos") = some (.int q) → ∀ h, (AS.put { s1 with H := h } (Str.ofString "pos") (.int q)).put (Str.ofString "childpos") (.int ((2 * q + 1 : Nat) : Int)) = (AS.put { (s1.put (Str.ofString "childpos") (.int q)) with H := h } (Str.ofString "pos") (.int q)).put (Str.ofString "childpos") (.int ((2 * q + 1 : Nat) : Int)) := by
              intro s1 _ h
              unfold AS.put
              congr 1
              funext y
              dsimp only
              by_cases hy : y = (Str.ofString "childpos")
              · rw [if_pos hy, if_pos hy]
              · rw [if_neg hy, if_neg hy, if_neg hy]
            rw [this _ (by simp only [sSeq, sAssign, sRet, sFl, sIf, sExpr, eBin, eUn, eVar, eVal, eCall, eMeth, eBinG, esCons, esNil, eIf, tCmp, tNot, tAnd, tOr, tVal, tTrue, AS.put_get, AS.put_H, ne_code, isLst, isStr, if_true, if_false, eq_self, List.zip_cons_cons, List.zip_nil_right, locAfter, Nat.reduceBEq, Bool.false_eq_true, reduceCtorEq, code_COMPILER_FLAG_NAMES, code_S_IFMT, code__filemode_table, code__law_given, code__law_read, code__law_without, code__siftdown, code__siftup, code_begin, code_bit, code_char, code_childpos, code_counts, code_end, code_endpos, code_filemode, code_first, code_flag, code_flags, code_given, code_heap, code_heappop, code_heappush, code_hour, code_hours, code_i, code_index, code_item, code_k, code_last, code_lastelt, code_law, code_many, code_mode, code_most, code_names, code_newitem, code_numbers, code_octets, code_parent, code_parentpos, code_perm, code_pos, code_pretty_flags, code_returnitem, code_rightpos, code_rights, code_row, code_rows, code_script, code_startpos, code_stretches, code_table, code_v, h6, ← hq])]
        · rw [if_neg (by (first | lia | omega))] at hq
          have ei : sIf (tAnd (tCmp (cInt fun a b => decide (a < b)) (eVar (Str.ofString "rightpos")) (eVar (Str.ofString "endpos"))) (tNot (tCmp cTup (eBin oItem (eVar (Str.ofString "heap")) (eVar (Str.ofString "childpos"))) (eBin oItem (eVar (Str.ofString "heap")) (eVar (Str.ofString "rightpos")))))) (sAssign (Str.ofString "childpos") (eVar (Str.ofString "rightpos"))) (sFl .next) (st.put (Str.ofString "rightpos") (.int (((2 * pos + 1 : Nat) : Int) + 1))) =
              some (.next, (st.put (Str.ofString "rightpos") (.int (((2 * pos + 1 : Nat) : Int) + 1)))) := by
            rw [hcast]
            have hd : decide (((2 * pos + 1 + 1 : Nat) : Int) < (len : Int)) = false := decide_eq_false (by (first | lia | omega))
            simp only [sSeq, sAssign, sRet, sFl, sIf, sExpr, eBin, eUn, eVar, eVal, eCall, eMeth, eBinG, esCons, esNil, eIf, tCmp, tNot, tAnd, tOr, tVal, tTrue, AS.put_get, AS.put_H, ne_code, isLst, isStr, if_true, if_false, eq_self, List.zip_cons_cons, List.zip_nil_right, locAfter, Nat.reduceBEq, Bool.false_eq_true, reduceCtorEq, code_COMPILER_FLAG_NAMES, code_S_IFMT, code__filemode_table, code__law_given, code__law_read, code__law_without, code__siftdown, code__siftup, code_begin, code_bit, code_char, code_childpos, code_counts, code_end, code_endpos, code_filemode, code_first, code_flag, code_flags, code_given, code_heap, code_heappop, code_heappush, code_hour, code_hours, code_i, code_index, code_item, code_k, code_last, code_lastelt, code_law, code_many, code_mode, code_most, code_names, code_newitem, code_numbers, code_octets, code_parent, code_parentpos, code_perm, code_pos, code_pretty_flags, code_returnitem, code_rightpos, code_rights, code_row, code_rows, code_script, code_startpos, code_stretches, code_table, code_v, h5, h6, h1, cInt_i, hd]
          rw [ei]
          dsimp only
          rw [hrest (st.put (Str.ofString "rightpos") (.int (((2 * pos + 1 : Nat) : Int) + 1))) rfl (by (first | exact h1 | exact loc_o h1 (by decide) | exact loc_o (loc_o h1 (by decide)) (by decide))) (by (first | exact h2 | exact loc_o h2 (by decide) | exact loc_o (loc_o h2 (by decide)) (by decide))) (by simp only [sSeq, sAssign, sRet, sFl, sIf, sExpr, eBin, eUn, eVar, eVal, eCall, eMeth, eBinG, esCons, esNil, eIf, tCmp, tNot, tAnd, tOr, tVal, tTrue, AS.put_get, AS.put_H, ne_code, isLst, isStr, if_true, if_false, eq_self, List.zip_cons_cons, List.zip_nil_right, locAfter, Nat.reduceBEq, Bool.false_eq_true, reduceCtorEq, code_COMPILER_FLAG_NAMES, code_S_IFMT, code__filemode_table, code__law_given, code__law_read, code__law_without, code__siftdown, code__siftup, code_begin, code_bit, code_char, code_childpos, code_counts, code_end, code_endpos, code_filemode, code_first, code_flag, code_flags, code_given, code_heap, code_heappop, code_heappush, code_hour, code_hours, code_i, code_index, code_item, code_k, code_last, code_lastelt, code_law, code_many, code_mode, code_most, code_names, code_newitem, code_numbers, code_octets, code_parent, code_parentpos, code_perm, code_pos, code_pretty_flags, code_returnitem, code_rightpos, code_rights, code_row, code_rows, code_script, code_startpos, code_stretches, code_table, code_v, h6, ← hq])]
          have : ∀ s1 : AS, s1.loc (Str.ofString "childpos") = some (.int q) → ∀ h, (AS.put { s1 with H := h } (Str.ofString "pos") (.int q)).put (Str.ofString "childpos") (.int ((2 * q + 1 : Nat) : Int)) = (AS.put { (s1.put (Str.ofString "childpos") (.int q)) with H := h } (Str.ofString "pos") (.int q)).put (Str.ofString "childpos") (.int ((2 * q + 1 : Nat) : Int)) := by
            intro s1 _ h
            unfold AS.put
            congr 1
            funext y
            dsimp only
            by_cases hy : y = (Str.ofString "childpos")
            · rw [if_pos hy, if_pos hy]
            · rw [if_neg hy, if_neg hy, if_neg hy]
          rw [this _ (by simp only [sSeq, sAssign, sRet, sFl, sIf, sExpr, eBin, eUn, eVar, eVal, eCall, eMeth, eBinG, esCons, esNil, eIf, tCmp, tNot, tAnd, tOr, tVal, tTrue, AS.put_get, AS.put_H, ne_code, isLst, isStr, if_true, if_false, eq_self, List.zip_cons_cons, List.zip_nil_right, locAfter, Nat.reduceBEq, Bool.false_eq_true, reduceCtorEq, code_COMPILER_FLAG_NAMES, code_S_IFMT, code__filemode_table, code__law_given, code__law_read, code__law_without, code__siftdown, code__siftup, code_begin, code_bit, code_char, code_childpos, code_counts, code_end, code_endpos, code_filemode, code_first, code_flag, code_flags, code_given, code_heap, code_heappop, code_heappush, code_hour, code_hours, code_i, code_index, code_item, code_k, code_last, code_lastelt, code_law, code_many, code_mode, code_most, code_names, code_newitem, code_numbers, code_octets, code_parent, code_parentpos, code_perm, code_pos, code_pretty_flags, code_returnitem, code_rightpos, code_rights, code_row, code_rows, code_script, code_startpos, code_stretches, code_table, code_v, h6, ← hq])]
      refine ⟨st', by simp only [sWhile, ht, hb]; exact e1, ?_, e3⟩
      · rw [e2]
        show (st.H.set l _).set l _ = _
        rw [List.set_set]
    · rw [if_neg hc]
      have ht : bUp_w1_t st = some (false, st) := by
        simp only [sSeq, sAssign, sRet, sFl, sIf, sExpr, eBin, eUn, eVar, eVal, eCall, eMeth, eBinG, esCons, esNil, eIf, tCmp, tNot, tAnd, tOr, tVal, tTrue, AS.put_get, AS.put_H, ne_code, isLst, isStr, if_true, if_false, eq_self, List.zip_cons_cons, List.zip_nil_right, locAfter, Nat.reduceBEq, Bool.false_eq_true, reduceCtorEq, code_COMPILER_FLAG_NAMES, code_S_IFMT, code__filemode_table, code__law_given, code__law_read, code__law_without, code__siftdown, code__siftup, code_begin, code_bit, code_char, code_childpos, code_counts, code_end, code_endpos, code_filemode, code_first, code_flag, code_flags, code_given, code_heap, code_heappop, code_heappush, code_hour, code_hours, code_i, code_index, code_item, code_k, code_last, code_lastelt, code_law, code_many, code_mode, code_most, code_names, code_newitem, code_numbers, code_octets, code_parent, code_parentpos, code_perm, code_pos, code_pretty_flags, code_returnitem, code_rightpos, code_rights, code_row, code_rows, code_script, code_startpos, code_stretches, code_table, code_v, bUp_w1_t, h5, h6, cInt_i]
        rw [decide_eq_false (by (first | lia | omega) : ¬ ((2 * pos + 1 : Nat) : Int) < (len : Int))]
      refine ⟨st, by simp only [sWhile, ht], ?_, h1, h2, h3, h4⟩
      have hl' : l < st.H.length := (List.getElem?_eq_some_iff.mp hH).1
      rw [show (ps, pos).1 = ps from rfl]
      have hg := (List.getElem?_eq_some_iff.mp hH).2
      rw [← hg, List.set_getElem_self]
end Mine
end
/-! ## part FW24 -/
section
open PySem PySem.W PyProof.Rows PySem.Calls
set_option bootstrap.genMatcherCode false
namespace Mine
theorem sSeq_next {a b : SM} {st s1 : AS} (h : a st = some (.next, s1)) : sSeq a b st = b s1 := by rw [sSeq.eq_1, h]
theorem gLen_eq {H : List (List AV)} {l : Nat} {xs : List AV} (h : H[l]? = some xs) (hx : xs.length ≤ 1000000) : gLen [.lst l] H = some (.int xs.length, H) := by
  simp only [gLen, h]; rw [if_pos hx]
theorem gAppend_eq {H : List (List AV)} {l : Nat} {xs : List AV} {v : AV} (h : H[l]? = some xs) (hx : xs.length ≤ 1000000) : gAppend [.lst l, v] H = some (.none, H.set l (xs ++ [v])) := by
  simp only [gAppend, h]; rw [if_pos hx]
theorem gPop_eq {H : List (List AV)} {l : Nat} {xs : List AV} {v : AV} (h : H[l]? = some (xs ++ [v])) (hx : xs.length < 1000000) : gPop [.lst l] H = some (v, H.set l xs) := by
  simp only [gPop, h, List.getLast?_append, List.getLast?_singleton, Option.some_or, List.dropLast_concat]
  rw [if_pos (by simp; (first | lia | omega))]
noncomputable def siftUp (ps : List K2) : List K2 := downGo (ps.getD 0 (0, 0)) 100 ((upGo 100 ps 0).1.set (upGo 100 ps 0).2 (ps.getD 0 (0, 0))) (upGo 100 ps 0).2
theorem gUp_eq {H : List (List AV)} {l : Nat} {ps : List K2} (hH : H[l]? = some (ps.map P2)) (hp : 0 < ps.length) (hlen : ps.length ≤ 90) :
    gUp [.lst l, .int 0] H = some (.none, H.set l ((siftUp ps).map P2)) := by
  have hi0 := oItem_nat hH 0 (by decide)
  rw [getD_map hp] at hi0
  have hi0 : oItem H (.lst l) (.int 0) = some (P2 (ps.getD 0 (0, 0))) := hi0
  generalize hnew : ps.getD 0 (0, 0) = new at hi0
  have hln := gLen_eq hH (by simp; (first | lia | omega))
  rw [List.length_map] at hln
  generalize hst : (⟨locAfter ([(Str.ofString "heap"), (Str.ofString "pos")].zip [.lst l, .int 0]) (fun _ => none), H⟩ : AS) = st
  have a1 : st.loc (Str.ofString "heap") = some (.lst l) := by rw [← hst]; simp only [sSeq, sAssign, sRet, sFl, sIf, sExpr, eBin, eUn, eVar, eVal, eCall, eMeth, eBinG, esCons, esNil, eIf, tCmp, tNot, tAnd, tOr, tVal, tTrue, AS.put_get, AS.put_H, ne_code, isLst, isStr, if_true, if_false, eq_self, List.zip_cons_cons, List.zip_nil_right, locAfter, Nat.reduceBEq, Bool.false_eq_true, reduceCtorEq, code_COMPILER_FLAG_NAMES, code_S_IFMT, code__filemode_table, code__law_given, code__law_read, code__law_without, code__siftdown, code__siftup, code_begin, code_bit, code_char, code_childpos, code_counts, code_end, code_endpos, code_filemode, code_first, code_flag, code_flags, code_given, code_heap, code_heappop, code_heappush, code_hour, code_hours, code_i, code_index, code_item, code_k, code_last, code_lastelt, code_law, code_many, code_mode, code_most, code_names, code_newitem, code_numbers, code_octets, code_parent, code_parentpos, code_perm, code_pos, code_pretty_flags, code_returnitem, code_rightpos, code_rights, code_row, code_rows, code_script, code_startpos, code_stretches, code_table, code_v]
  have a2 : st.loc (Str.ofString "pos") = some (.int 0) := by rw [← hst]; simp only [sSeq, sAssign, sRet, sFl, sIf, sExpr, eBin, eUn, eVar, eVal, eCall, eMeth, eBinG, esCons, esNil, eIf, tCmp, tNot, tAnd, tOr, tVal, tTrue, AS.put_get, AS.put_H, ne_code, isLst, isStr, if_true, if_false, eq_self, List.zip_cons_cons, List.zip_nil_right, locAfter, Nat.reduceBEq, Bool.false_eq_true, reduceCtorEq, code_COMPILER_FLAG_NAMES, code_S_IFMT, code__filemode_table, code__law_given, code__law_read, code__law_without, code__siftdown, code__siftup, code_begin, code_bit, code_char, code_childpos, code_counts, code_end, code_endpos, code_filemode, code_first, code_flag, code_flags, code_given, code_heap, code_heappop, code_heappush, code_hour, code_hours, code_i, code_index, code_item, code_k, code_last, code_lastelt, code_law, code_many, code_mode, code_most, code_names, code_newitem, code_numbers, code_octets, code_parent, code_parentpos, code_perm, code_pos, code_pretty_flags, code_returnitem, code_rightpos, code_rights, code_row, code_rows, code_script, code_startpos, code_stretches, code_table, code_v]
  have aH : st.H = H := by rw [← hst]
  have e0 : bUp_0 st = some (.next, st.put (Str.ofString "endpos") (.int ps.length)) := by
    simp only [sSeq, sAssign, sRet, sFl, sIf, sExpr, eBin, eUn, eVar, eVal, eCall, eMeth, eBinG, esCons, esNil, eIf, tCmp, tNot, tAnd, tOr, tVal, tTrue, AS.put_get, AS.put_H, ne_code, isLst, isStr, if_true, if_false, eq_self, List.zip_cons_cons, List.zip_nil_right, locAfter, Nat.reduceBEq, Bool.false_eq_true, reduceCtorEq, code_COMPILER_FLAG_NAMES, code_S_IFMT, code__filemode_table, code__law_given, code__law_read, code__law_without, code__siftdown, code__siftup, code_begin, code_bit, code_char, code_childpos, code_counts, code_end, code_endpos, code_filemode, code_first, code_flag, code_flags, code_given, code_heap, code_heappop, code_heappush, code_hour, code_hours, code_i, code_index, code_item, code_k, code_last, code_lastelt, code_law, code_many, code_mode, code_most, code_names, code_newitem, code_numbers, code_octets, code_parent, code_parentpos, code_perm, code_pos, code_pretty_flags, code_returnitem, code_rightpos, code_rights, code_row, code_rows, code_script, code_startpos, code_stretches, code_table, code_v, bUp_0, a1, aH, hln]
    rw [← aH]
  have e1 : bUp_1 (st.put (Str.ofString "endpos") (.int ps.length)) = some (.next, (st.put (Str.ofString "endpos") (.int ps.length)).put (Str.ofString "startpos") (.int 0)) := by
    simp only [sSeq, sAssign, sRet, sFl, sIf, sExpr, eBin, eUn, eVar, eVal, eCall, eMeth, eBinG, esCons, esNil, eIf, tCmp, tNot, tAnd, tOr, tVal, tTrue, AS.put_get, AS.put_H, ne_code, isLst, isStr, if_true, if_false, eq_self, List.zip_cons_cons, List.zip_nil_right, locAfter, Nat.reduceBEq, Bool.false_eq_true, reduceCtorEq, code_COMPILER_FLAG_NAMES, code_S_IFMT, code__filemode_table, code__law_given, code__law_read, code__law_without, code__siftdown, code__siftup, code_begin, code_bit, code_char, code_childpos, code_counts, code_end, code_endpos, code_filemode, code_first, code_flag, code_flags, code_given, code_heap, code_heappop, code_heappush, code_hour, code_hours, code_i, code_index, code_item, code_k, code_last, code_lastelt, code_law, code_many, code_mode, code_most, code_names, code_newitem, code_numbers, code_octets, code_parent, code_parentpos, code_perm, code_pos, code_pretty_flags, code_returnitem, code_rightpos, code_rights, code_row, code_rows, code_script, code_startpos, code_stretches, code_table, code_v, bUp_1, a2]
  have e2 : bUp_2 ((st.put (Str.ofString "endpos") (.int ps.length)).put (Str.ofString "startpos") (.int 0)) = some (.next, ((st.put (Str.ofString "endpos") (.int ps.length)).put (Str.ofString "startpos") (.int 0)).put (Str.ofString "newitem") (P2 new)) := by
    simp only [sSeq, sAssign, sRet, sFl, sIf, sExpr, eBin, eUn, eVar, eVal, eCall, eMeth, eBinG, esCons, esNil, eIf, tCmp, tNot, tAnd, tOr, tVal, tTrue, AS.put_get, AS.put_H, ne_code, isLst, isStr, if_true, if_false, eq_self, List.zip_cons_cons, List.zip_nil_right, locAfter, Nat.reduceBEq, Bool.false_eq_true, reduceCtorEq, code_COMPILER_FLAG_NAMES, code_S_IFMT, code__filemode_table, code__law_given, code__law_read, code__law_without, code__siftdown, code__siftup, code_begin, code_bit, code_char, code_childpos, code_counts, code_end, code_endpos, code_filemode, code_first, code_flag, code_flags, code_given, code_heap, code_heappop, code_heappush, code_hour, code_hours, code_i, code_index, code_item, code_k, code_last, code_lastelt, code_law, code_many, code_mode, code_most, code_names, code_newitem, code_numbers, code_octets, code_parent, code_parentpos, code_perm, code_pos, code_pretty_flags, code_returnitem, code_rightpos, code_rights, code_row, code_rows, code_script, code_startpos, code_stretches, code_table, code_v, bUp_2, a1, a2, aH, hi0]
  have e3 : bUp_3 (((st.put (Str.ofString "endpos") (.int ps.length)).put (Str.ofString "startpos") (.int 0)).put (Str.ofString "newitem") (P2 new)) = some (.next, (((st.put (Str.ofString "endpos") (.int ps.length)).put (Str.ofString "startpos") (.int 0)).put (Str.ofString "newitem") (P2 new)).put (Str.ofString "childpos") (.int ((2 * 0 + 1 : Nat) : Int))) := by
    simp only [sSeq, sAssign, sRet, sFl, sIf, sExpr, eBin, eUn, eVar, eVal, eCall, eMeth, eBinG, esCons, esNil, eIf, tCmp, tNot, tAnd, tOr, tVal, tTrue, AS.put_get, AS.put_H, ne_code, isLst, isStr, if_true, if_false, eq_self, List.zip_cons_cons, List.zip_nil_right, locAfter, Nat.reduceBEq, Bool.false_eq_true, reduceCtorEq, code_COMPILER_FLAG_NAMES, code_S_IFMT, code__filemode_table, code__law_given, code__law_read, code__law_without, code__siftdown, code__siftup, code_begin, code_bit, code_char, code_childpos, code_counts, code_end, code_endpos, code_filemode, code_first, code_flag, code_flags, code_given, code_heap, code_heappop, code_heappush, code_hour, code_hours, code_i, code_index, code_item, code_k, code_last, code_lastelt, code_law, code_many, code_mode, code_most, code_names, code_newitem, code_numbers, code_octets, code_parent, code_parentpos, code_perm, code_pos, code_pretty_flags, code_returnitem, code_rightpos, code_rights, code_row, code_rows, code_script, code_startpos, code_stretches, code_table, code_v, bUp_3, a2]
    rfl
  obtain ⟨st4, e4, f1, f2, f3, f4, f5⟩ := up_while l new ps.length 100 ps 0 ((((st.put (Str.ofString "endpos") (.int ps.length)).put (Str.ofString "startpos") (.int 0)).put (Str.ofString "newitem") (P2 new)).put (Str.ofString "childpos") (.int ((2 * 0 + 1 : Nat) : Int)))
    (by show st.H[l]? = _; rw [aH]; exact hH) hp rfl (by (first | lia | omega)) (by (first | lia | omega)) (by simp only [sSeq, sAssign, sRet, sFl, sIf, sExpr, eBin, eUn, eVar, eVal, eCall, eMeth, eBinG, esCons, esNil, eIf, tCmp, tNot, tAnd, tOr, tVal, tTrue, AS.put_get, AS.put_H, ne_code, isLst, isStr, if_true, if_false, eq_self, List.zip_cons_cons, List.zip_nil_right, locAfter, Nat.reduceBEq, Bool.false_eq_true, reduceCtorEq, code_COMPILER_FLAG_NAMES, code_S_IFMT, code__filemode_table, code__law_given, code__law_read, code__law_without, code__siftdown, code__siftup, code_begin, code_bit, code_char, code_childpos, code_counts, code_end, code_endpos, code_filemode, code_first, code_flag, code_flags, code_given, code_heap, code_heappop, code_heappush, code_hour, code_hours, code_i, code_index, code_item, code_k, code_last, code_lastelt, code_law, code_many, code_mode, code_most, code_names, code_newitem, code_numbers, code_octets, code_parent, code_parentpos, code_perm, code_pos, code_pretty_flags, code_returnitem, code_rightpos, code_rights, code_row, code_rows, code_script, code_startpos, code_stretches, code_table, code_v, a1]) (by simp only [sSeq, sAssign, sRet, sFl, sIf, sExpr, eBin, eUn, eVar, eVal, eCall, eMeth, eBinG, esCons, esNil, eIf, tCmp, tNot, tAnd, tOr, tVal, tTrue, AS.put_get, AS.put_H, ne_code, isLst, isStr, if_true, if_false, eq_self, List.zip_cons_cons, List.zip_nil_right, locAfter, Nat.reduceBEq, Bool.false_eq_true, reduceCtorEq, code_COMPILER_FLAG_NAMES, code_S_IFMT, code__filemode_table, code__law_given, code__law_read, code__law_without, code__siftdown, code__siftup, code_begin, code_bit, code_char, code_childpos, code_counts, code_end, code_endpos, code_filemode, code_first, code_flag, code_flags, code_given, code_heap, code_heappop, code_heappush, code_hour, code_hours, code_i, code_index, code_item, code_k, code_last, code_lastelt, code_law, code_many, code_mode, code_most, code_names, code_newitem, code_numbers, code_octets, code_parent, code_parentpos, code_perm, code_pos, code_pretty_flags, code_returnitem, code_rightpos, code_rights, code_row, code_rows, code_script, code_startpos, code_stretches, code_table, code_v, a2]; rfl) (by simp only [sSeq, sAssign, sRet, sFl, sIf, sExpr, eBin, eUn, eVar, eVal, eCall, eMeth, eBinG, esCons, esNil, eIf, tCmp, tNot, tAnd, tOr, tVal, tTrue, AS.put_get, AS.put_H, ne_code, isLst, isStr, if_true, if_false, eq_self, List.zip_cons_cons, List.zip_nil_right, locAfter, Nat.reduceBEq, Bool.false_eq_true, reduceCtorEq, code_COMPILER_FLAG_NAMES, code_S_IFMT, code__filemode_table, code__law_given, code__law_read, code__law_without, code__siftdown, code__siftup, code_begin, code_bit, code_char, code_childpos, code_counts, code_end, code_endpos, code_filemode, code_first, code_flag, code_flags, code_given, code_heap, code_heappop, code_heappush, code_hour, code_hours, code_i, code_index, code_item, code_k, code_last, code_lastelt, code_law, code_many, code_mode, code_most, code_names, code_newitem, code_numbers, code_octets, code_parent, code_parentpos, code_perm, code_pos, code_pretty_flags, code_returnitem, code_rightpos, code_rights, code_row, code_rows, code_script, code_startpos, code_stretches, code_table, code_v]) (by simp only [sSeq, sAssign, sRet, sFl, sIf, sExpr, eBin, eUn, eVar, eVal, eCall, eMeth, eBinG, esCons, esNil, eIf, tCmp, tNot, tAnd, tOr, tVal, tTrue, AS.put_get, AS.put_H, ne_code, isLst, isStr, if_true, if_false, eq_self, List.zip_cons_cons, List.zip_nil_right, locAfter, Nat.reduceBEq, Bool.false_eq_true, reduceCtorEq, code_COMPILER_FLAG_NAMES, code_S_IFMT, code__filemode_table, code__law_given, code__law_read, code__law_without, code__siftdown, code__siftup, code_begin, code_bit, code_char, code_childpos, code_counts, code_end, code_endpos, code_filemode, code_first, code_flag, code_flags, code_given, code_heap, code_heappop, code_heappush, code_hour, code_hours, code_i, code_index, code_item, code_k, code_last, code_lastelt, code_law, code_many, code_mode, code_most, code_names, code_newitem, code_numbers, code_octets, code_parent, code_parentpos, code_perm, code_pos, code_pretty_flags, code_returnitem, code_rightpos, code_rights, code_row, code_rows, code_script, code_startpos, code_stretches, code_table, code_v]) (by simp only [sSeq, sAssign, sRet, sFl, sIf, sExpr, eBin, eUn, eVar, eVal, eCall, eMeth, eBinG, esCons, esNil, eIf, tCmp, tNot, tAnd, tOr, tVal, tTrue, AS.put_get, AS.put_H, ne_code, isLst, isStr, if_true, if_false, eq_self, List.zip_cons_cons, List.zip_nil_right, locAfter, Nat.reduceBEq, Bool.false_eq_true, reduceCtorEq, code_COMPILER_FLAG_NAMES, code_S_IFMT, code__filemode_table, code__law_given, code__law_read, code__law_without, code__siftdown, code__siftup, code_begin, code_bit, code_char, code_childpos, code_counts, code_end, code_endpos, code_filemode, code_first, code_flag, code_flags, code_given, code_heap, code_heappop, code_heappush, code_hour, code_hours, code_i, code_index, code_item, code_k, code_last, code_lastelt, code_law, code_many, code_mode, code_most, code_names, code_newitem, code_numbers, code_octets, code_parent, code_parentpos, code_perm, code_pos, code_pretty_flags, code_returnitem, code_rightpos, code_rights, code_row, code_rows, code_script, code_startpos, code_stretches, code_table, code_v]) (by simp only [sSeq, sAssign, sRet, sFl, sIf, sExpr, eBin, eUn, eVar, eVal, eCall, eMeth, eBinG, esCons, esNil, eIf, tCmp, tNot, tAnd, tOr, tVal, tTrue, AS.put_get, AS.put_H, ne_code, isLst, isStr, if_true, if_false, eq_self, List.zip_cons_cons, List.zip_nil_right, locAfter, Nat.reduceBEq, Bool.false_eq_true, reduceCtorEq, code_COMPILER_FLAG_NAMES, code_S_IFMT, code__filemode_table, code__law_given, code__law_read, code__law_without, code__siftdown, code__siftup, code_begin, code_bit, code_char, code_childpos, code_counts, code_end, code_endpos, code_filemode, code_first, code_flag, code_flags, code_given, code_heap, code_heappop, code_heappush, code_hour, code_hours, code_i, code_index, code_item, code_k, code_last, code_lastelt, code_law, code_many, code_mode, code_most, code_names, code_newitem, code_numbers, code_octets, code_parent, code_parentpos, code_perm, code_pos, code_pretty_flags, code_returnitem, code_rightpos, code_rights, code_row, code_rows, code_script, code_startpos, code_stretches, code_table, code_v])
  have f1 : st4.H = H.set l ((upGo 100 ps 0).1.map P2) := by rw [f1]; show st.H.set l _ = _; rw [aH]
  have hul := upGo_len 100 ps 0
  have hup := upGo_pos 100 ps 0 hp
  generalize hr : upGo 100 ps 0 = r at *
  obtain ⟨qs, q⟩ := r
  dsimp only at f1 f3 hul hup
  have hl' : l < H.length := (List.getElem?_eq_some_iff.mp hH).1
  have hst4 : st4.H[l]? = some (qs.map P2) := by rw [f1, List.getElem?_set_self hl']
  have e5 : bUp_5 st4 = some (.next, { st4 with H := H.set l ((qs.set q new).map P2) }) := by
    unfold bUp_5
    rw [sSetIdx_ok (xs := qs.map P2) (l := l) (k := q) (y := P2 new) (s1 := st4) (s2 := st4) (s3 := st4) (by simp only [eVar, f5]) (by simp only [eVar, f2]) (by simp only [eVar, f3]) hst4 (by rw [List.length_map]; (first | lia | omega)) (by rw [List.length_map]; (first | lia | omega)), set_map, f1, List.set_set]
  have hH5 : (H.set l ((qs.set q new).map P2))[l]? = some ((qs.set q new).map P2) := List.getElem?_set_self hl'
  have hg := gDown_eq (pos := q) hH5 (by rw [List.length_set]; (first | lia | omega)) (by rw [List.length_set]; (first | lia | omega))
  have hget : (qs.set q new)[q]'(by rw [List.length_set]; (first | lia | omega)) = new := List.getElem_set_self ..
  rw [hget, List.set_set] at hg
  have e6 : bUp_6 { st4 with H := H.set l ((qs.set q new).map P2) } = some (.next, { st4 with H := H.set l ((downGo new 100 (qs.set q new) q).map P2) }) := by
    simp only [sSeq, sAssign, sRet, sFl, sIf, sExpr, eBin, eUn, eVar, eVal, eCall, eMeth, eBinG, esCons, esNil, eIf, tCmp, tNot, tAnd, tOr, tVal, tTrue, AS.put_get, AS.put_H, ne_code, isLst, isStr, if_true, if_false, eq_self, List.zip_cons_cons, List.zip_nil_right, locAfter, Nat.reduceBEq, Bool.false_eq_true, reduceCtorEq, code_COMPILER_FLAG_NAMES, code_S_IFMT, code__filemode_table, code__law_given, code__law_read, code__law_without, code__siftdown, code__siftup, code_begin, code_bit, code_char, code_childpos, code_counts, code_end, code_endpos, code_filemode, code_first, code_flag, code_flags, code_given, code_heap, code_heappop, code_heappush, code_hour, code_hours, code_i, code_index, code_item, code_k, code_last, code_lastelt, code_law, code_many, code_mode, code_most, code_names, code_newitem, code_numbers, code_octets, code_parent, code_parentpos, code_perm, code_pos, code_pretty_flags, code_returnitem, code_rightpos, code_rights, code_row, code_rows, code_script, code_startpos, code_stretches, code_table, code_v, bUp_6, f2, f3, f4, hg]
  have hB : bUp st = some (.next, { st4 with H := H.set l ((downGo new 100 (qs.set q new) q).map P2) }) := by
    unfold bUp
    rw [sSeq_next e0, sSeq_next e1, sSeq_next e2, sSeq_next e3, sSeq_next (show bUp_4 _ = _ from e4), sSeq_next e5, e6]
  have hsu : siftUp ps = downGo new 100 (qs.set q new) q := by unfold siftUp; rw [hr, hnew]
  rw [hsu]
  simp only [gUp, gFn, List.length_cons, List.length_nil, if_true]
  rw [hst, hB]
theorem gHPush_eq {H : List (List AV)} {l : Nat} {ps : List K2} {p : K2} (hH : H[l]? = some (ps.map P2)) (hlen : ps.length < 90) :
    gHPush [.lst l, P2 p] H = some (.none, H.set l ((downGo p 100 (ps ++ [p]) ps.length).map P2)) := by
  have hl' : l < H.length := (List.getElem?_eq_some_iff.mp hH).1
  generalize hst : (⟨locAfter ([(Str.ofString "heap"), (Str.ofString "item")].zip [.lst l, P2 p]) (fun _ => none), H⟩ : AS) = st
  have a1 : st.loc (Str.ofString "heap") = some (.lst l) := by rw [← hst]; simp only [sSeq, sAssign, sRet, sFl, sIf, sExpr, eBin, eUn, eVar, eVal, eCall, eMeth, eBinG, esCons, esNil, eIf, tCmp, tNot, tAnd, tOr, tVal, tTrue, AS.put_get, AS.put_H, ne_code, isLst, isStr, if_true, if_false, eq_self, List.zip_cons_cons, List.zip_nil_right, locAfter, Nat.reduceBEq, Bool.false_eq_true, reduceCtorEq, code_COMPILER_FLAG_NAMES, code_S_IFMT, code__filemode_table, code__law_given, code__law_read, code__law_without, code__siftdown, code__siftup, code_begin, code_bit, code_char, code_childpos, code_counts, code_end, code_endpos, code_filemode, code_first, code_flag, code_flags, code_given, code_heap, code_heappop, code_heappush, code_hour, code_hours, code_i, code_index, code_item, code_k, code_last, code_lastelt, code_law, code_many, code_mode, code_most, code_names, code_newitem, code_numbers, code_octets, code_parent, code_parentpos, code_perm, code_pos, code_pretty_flags, code_returnitem, code_rightpos, code_rights, code_row, code_rows, code_script, code_startpos, code_stretches, code_table, code_v]
  have a2 : st.loc (Str.ofString "item") = some (P2 p) := by rw [← hst]; simp only [sSeq, sAssign, sRet, sFl, sIf, sExpr, eBin, eUn, eVar, eVal, eCall, eMeth, eBinG, esCons, esNil, eIf, tCmp, tNot, tAnd, tOr, tVal, tTrue, AS.put_get, AS.put_H, ne_code, isLst, isStr, if_true, if_false, eq_self, List.zip_cons_cons, List.zip_nil_right, locAfter, Nat.reduceBEq, Bool.false_eq_true, reduceCtorEq, code_COMPILER_FLAG_NAMES, code_S_IFMT, code__filemode_table, code__law_given, code__law_read, code__law_without, code__siftdown, code__siftup, code_begin, code_bit, code_char, code_childpos, code_counts, code_end, code_endpos, code_filemode, code_first, code_flag, code_flags, code_given, code_heap, code_heappop, code_heappush, code_hour, code_hours, code_i, code_index, code_item, code_k, code_last, code_lastelt, code_law, code_many, code_mode, code_most, code_names, code_newitem, code_numbers, code_octets, code_parent, code_parentpos, code_perm, code_pos, code_pretty_flags, code_returnitem, code_rightpos, code_rights, code_row, code_rows, code_script, code_startpos, code_stretches, code_table, code_v]
  have aH : st.H = H := by rw [← hst]
  have hap := gAppend_eq (v := P2 p) hH (by rw [List.length_map]; (first | lia | omega))
  have hm : ps.map P2 ++ [P2 p] = (ps ++ [p]).map P2 := by simp
  rw [hm] at hap
  have e0 : bHPush_0 st = some (.next, { st with H := H.set l ((ps ++ [p]).map P2) }) := by
    simp only [sSeq, sAssign, sRet, sFl, sIf, sExpr, eBin, eUn, eVar, eVal, eCall, eMeth, eBinG, esCons, esNil, eIf, tCmp, tNot, tAnd, tOr, tVal, tTrue, AS.put_get, AS.put_H, ne_code, isLst, isStr, if_true, if_false, eq_self, List.zip_cons_cons, List.zip_nil_right, locAfter, Nat.reduceBEq, Bool.false_eq_true, reduceCtorEq, code_COMPILER_FLAG_NAMES, code_S_IFMT, code__filemode_table, code__law_given, code__law_read, code__law_without, code__siftdown, code__siftup, code_begin, code_bit, code_char, code_childpos, code_counts, code_end, code_endpos, code_filemode, code_first, code_flag, code_flags, code_given, code_heap, code_heappop, code_heappush, code_hour, code_hours, code_i, code_index, code_item, code_k, code_last, code_lastelt, code_law, code_many, code_mode, code_most, code_names, code_newitem, code_numbers, code_octets, code_parent, code_parentpos, code_perm, code_pos, code_pretty_flags, code_returnitem, code_rightpos, code_rights, code_row, code_rows, code_script, code_startpos, code_stretches, code_table, code_v, bHPush_0, a1, a2, aH, hap]
  have hH1 : (H.set l ((ps ++ [p]).map P2))[l]? = some ((ps ++ [p]).map P2) := List.getElem?_set_self hl'
  have hln := gLen_eq hH1 (by simp; (first | lia | omega))
  have hln : gLen [.lst l] (H.set l ((ps ++ [p]).map P2)) = some (.int ((ps.length + 1 : Nat) : Int), H.set l ((ps ++ [p]).map P2)) := by rw [hln]; simp
  have hg := gDown_eq (pos := ps.length) hH1 (by simp) (by simp; (first | lia | omega))
  have hget : (ps ++ [p])[ps.length]'(by simp) = p := by simp
  rw [hget, List.set_set] at hg
  have hsub : ((ps.length + 1 : Nat) : Int) - 1 = (ps.length : Int) := by (first | lia | omega)
  have e1 : bHPush_1 { st with H := H.set l ((ps ++ [p]).map P2) } = some (.next, { st with H := H.set l ((downGo p 100 (ps ++ [p]) ps.length).map P2) }) := by
    simp only [sSeq, sAssign, sRet, sFl, sIf, sExpr, eBin, eUn, eVar, eVal, eCall, eMeth, eBinG, esCons, esNil, eIf, tCmp, tNot, tAnd, tOr, tVal, tTrue, AS.put_get, AS.put_H, ne_code, isLst, isStr, if_true, if_false, eq_self, List.zip_cons_cons, List.zip_nil_right, locAfter, Nat.reduceBEq, Bool.false_eq_true, reduceCtorEq, code_COMPILER_FLAG_NAMES, code_S_IFMT, code__filemode_table, code__law_given, code__law_read, code__law_without, code__siftdown, code__siftup, code_begin, code_bit, code_char, code_childpos, code_counts, code_end, code_endpos, code_filemode, code_first, code_flag, code_flags, code_given, code_heap, code_heappop, code_heappush, code_hour, code_hours, code_i, code_index, code_item, code_k, code_last, code_lastelt, code_law, code_many, code_mode, code_most, code_names, code_newitem, code_numbers, code_octets, code_parent, code_parentpos, code_perm, code_pos, code_pretty_flags, code_returnitem, code_rightpos, code_rights, code_row, code_rows, code_script, code_startpos, code_stretches, code_table, code_v, bHPush_1, a1, hln, oSub, hsub, hg]
  simp only [gHPush, gFn, List.length_cons, List.length_nil, if_true]
  rw [hst]
  unfold bHPush
  rw [sSeq_next e0, e1]
theorem trLst_eq {H : List (List AV)} {l : Nat} {xs : List AV} (h : H[l]? = some xs) (hx : xs.length ≤ 1000000) : trLst H (.lst l) = some (!xs.isEmpty) := by
  simp only [trLst, h]; rw [if_pos hx]
/-- what the list is behind a pop, and what is handed back -/
noncomputable def hpop (ps : List K2) (q : K2) : K2 × List K2 := match ps with
  | [] => (q, [])
  | p :: r => (p, siftUp (q :: r))
theorem gHPop_eq {H : List (List AV)} {l : Nat} {ps : List K2} {q : K2} (hH : H[l]? = some ((ps ++ [q]).map P2)) (hlen : ps.length < 90) :
    gHPop [.lst l] H = some (P2 (hpop ps q).1, H.set l ((hpop ps q).2.map P2)) := by
  have hl' : l < H.length := (List.getElem?_eq_some_iff.mp hH).1
  generalize hst : (⟨locAfter ([(Str.ofString "heap")].zip [.lst l]) (fun _ => none), H⟩ : AS) = st
  have a1 : st.loc (Str.ofString "heap") = some (.lst l) := by rw [← hst]; simp only [sSeq, sAssign, sRet, sFl, sIf, sExpr, eBin, eUn, eVar, eVal, eCall, eMeth, eBinG, esCons, esNil, eIf, tCmp, tNot, tAnd, tOr, tVal, tTrue, AS.put_get, AS.put_H, ne_code, isLst, isStr, if_true, if_false, eq_self, List.zip_cons_cons, List.zip_nil_right, locAfter, Nat.reduceBEq, Bool.false_eq_true, reduceCtorEq, code_COMPILER_FLAG_NAMES, code_S_IFMT, code__filemode_table, code__law_given, code__law_read, code__law_without, code__siftdown, code__siftup, code_begin, code_bit, code_char, code_childpos, code_counts, code_end, code_endpos, code_filemode, code_first, code_flag, code_flags, code_given, code_heap, code_heappop, code_heappush, code_hour, code_hours, code_i, code_index, code_item, code_k, code_last, code_lastelt, code_law, code_many, code_mode, code_most, code_names, code_newitem, code_numbers, code_octets, code_parent, code_parentpos, code_perm, code_pos, code_pretty_flags, code_returnitem, code_rightpos, code_rights, code_row, code_rows, code_script, code_startpos, code_stretches, code_table, code_v]
  have aH : st.H = H := by rw [← hst]
  have hm : (ps ++ [q]).map P2 = ps.map P2 ++ [P2 q] := by simp
  rw [hm] at hH
  have hpp := gPop_eq hH (by rw [List.length_map]; (first | lia | omega))
  have e0 : bHPop_0 st = some (.next, AS.put { st with H := H.set l (ps.map P2) } (Str.ofString "lastelt") (P2 q)) := by
    simp only [sSeq, sAssign, sRet, sFl, sIf, sExpr, eBin, eUn, eVar, eVal, eCall, eMeth, eBinG, esCons, esNil, eIf, tCmp, tNot, tAnd, tOr, tVal, tTrue, AS.put_get, AS.put_H, ne_code, isLst, isStr, if_true, if_false, eq_self, List.zip_cons_cons, List.zip_nil_right, locAfter, Nat.reduceBEq, Bool.false_eq_true, reduceCtorEq, code_COMPILER_FLAG_NAMES, code_S_IFMT, code__filemode_table, code__law_given, code__law_read, code__law_without, code__siftdown, code__siftup, code_begin, code_bit, code_char, code_childpos, code_counts, code_end, code_endpos, code_filemode, code_first, code_flag, code_flags, code_given, code_heap, code_heappop, code_heappush, code_hour, code_hours, code_i, code_index, code_item, code_k, code_last, code_lastelt, code_law, code_many, code_mode, code_most, code_names, code_newitem, code_numbers, code_octets, code_parent, code_parentpos, code_perm, code_pos, code_pretty_flags, code_returnitem, code_rightpos, code_rights, code_row, code_rows, code_script, code_startpos, code_stretches, code_table, code_v, bHPop_0, a1, aH, hpp]
  have hH1 : (H.set l (ps.map P2))[l]? = some (ps.map P2) := List.getElem?_set_self hl'
  have htr := trLst_eq hH1 (by rw [List.length_map]; (first | lia | omega))
  simp only [gHPop, gFn, List.length_cons, List.length_nil, if_true]
  rw [hst]
  unfold bHPop
  rw [sSeq_next e0]
  cases ps with
  | nil =>
    have htr : trLst (H.set l (List.map P2 [])) (.lst l) = some false := htr
    have e1 : bHPop_1 (AS.put { st with H := H.set l (List.map P2 []) } (Str.ofString "lastelt") (P2 q)) = some (.next, AS.put { st with H := H.set l (List.map P2 []) } (Str.ofString "lastelt") (P2 q)) := by
      simp only [sSeq, sAssign, sRet, sFl, sIf, sExpr, eBin, eUn, eVar, eVal, eCall, eMeth, eBinG, esCons, esNil, eIf, tCmp, tNot, tAnd, tOr, tVal, tTrue, AS.put_get, AS.put_H, ne_code, isLst, isStr, if_true, if_false, eq_self, List.zip_cons_cons, List.zip_nil_right, locAfter, Nat.reduceBEq, Bool.false_eq_true, reduceCtorEq, code_COMPILER_FLAG_NAMES, code_S_IFMT, code__filemode_table, code__law_given, code__law_read, code__law_without, code__siftdown, code__siftup, code_begin, code_bit, code_char, code_childpos, code_counts, code_end, code_endpos, code_filemode, code_first, code_flag, code_flags, code_given, code_heap, code_heappop, code_heappush, code_hour, code_hours, code_i, code_index, code_item, code_k, code_last, code_lastelt, code_law, code_many, code_mode, code_most, code_names, code_newitem, code_numbers, code_octets, code_parent, code_parentpos, code_perm, code_pos, code_pretty_flags, code_returnitem, code_rightpos, code_rights, code_row, code_rows, code_script, code_startpos, code_stretches, code_table, code_v, bHPop_1, a1, htr]
    have e2 : bHPop_2 (AS.put { st with H := H.set l (List.map P2 []) } (Str.ofString "lastelt") (P2 q)) = some (.ret (P2 q), AS.put { st with H := H.set l (List.map P2 []) } (Str.ofString "lastelt") (P2 q)) := by
      simp only [sSeq, sAssign, sRet, sFl, sIf, sExpr, eBin, eUn, eVar, eVal, eCall, eMeth, eBinG, esCons, esNil, eIf, tCmp, tNot, tAnd, tOr, tVal, tTrue, AS.put_get, AS.put_H, ne_code, isLst, isStr, if_true, if_false, eq_self, List.zip_cons_cons, List.zip_nil_right, locAfter, Nat.reduceBEq, Bool.false_eq_true, reduceCtorEq, code_COMPILER_FLAG_NAMES, code_S_IFMT, code__filemode_table, code__law_given, code__law_read, code__law_without, code__siftdown, code__siftup, code_begin, code_bit, code_char, code_childpos, code_counts, code_end, code_endpos, code_filemode, code_first, code_flag, code_flags, code_given, code_heap, code_heappop, code_heappush, code_hour, code_hours, code_i, code_index, code_item, code_k, code_last, code_lastelt, code_law, code_many, code_mode, code_most, code_names, code_newitem, code_numbers, code_octets, code_parent, code_parentpos, code_perm, code_pos, code_pretty_flags, code_returnitem, code_rightpos, code_rights, code_row, code_rows, code_script, code_startpos, code_stretches, code_table, code_v, bHPop_2]
    rw [sSeq_next e1, e2]
    rfl
  | cons p r =>
    have htr : trLst (H.set l (List.map P2 (p :: r))) (.lst l) = some true := htr
    have hi0 := oItem_nat hH1 0 (by decide)
    have hi0 : oItem (H.set l (List.map P2 (p :: r))) (.lst l) (.int 0) = some (P2 p) := hi0
    have hs : ∀ s1 : AS, s1.H = H.set l ((p :: r).map P2) → s1.loc (Str.ofString "heap") = some (.lst l) → s1.loc (Str.ofString "lastelt") = some (P2 q) → sSetIdx (eVar (Str.ofString "heap")) (eVal (.int 0)) (eVar (Str.ofString "lastelt")) s1 = some (.next, { s1 with H := H.set l ((q :: r).map P2) }) := by
      intro s1 g1 g2 g3
      rw [sSetIdx_ok (xs := (p :: r).map P2) (l := l) (k := 0) (y := P2 q) (s1 := s1) (s2 := s1) (s3 := s1) (by simp only [eVar, g3]) (by simp only [eVar, g2]) rfl (by rw [g1]; exact hH1) (by simp) (by simp; simp at hlen; (first | lia | omega)), g1, List.set_set]
      rfl
    have hH2 : (H.set l ((q :: r).map P2))[l]? = some ((q :: r).map P2) := List.getElem?_set_self hl'
    have hu := gUp_eq hH2 (by simp) (by simp; simp at hlen; (first | lia | omega))
    rw [List.set_set] at hu
    have e1 : bHPop_1 (AS.put { st with H := H.set l ((p :: r).map P2) } (Str.ofString "lastelt") (P2 q)) =
        some (.ret (P2 p), { (AS.put { st with H := H.set l ((p :: r).map P2) } (Str.ofString "lastelt") (P2 q)).put (Str.ofString "returnitem") (P2 p) with H := H.set l ((siftUp (q :: r)).map P2) }) := by
      simp only [sSeq, sAssign, sRet, sFl, sIf, sExpr, eBin, eUn, eVar, eVal, eCall, eMeth, eBinG, esCons, esNil, eIf, tCmp, tNot, tAnd, tOr, tVal, tTrue, AS.put_get, AS.put_H, ne_code, isLst, isStr, if_true, if_false, eq_self, List.zip_cons_cons, List.zip_nil_right, locAfter, Nat.reduceBEq, Bool.false_eq_true, reduceCtorEq, code_COMPILER_FLAG_NAMES, code_S_IFMT, code__filemode_table, code__law_given, code__law_read, code__law_without, code__siftdown, code__siftup, code_begin, code_bit, code_char, code_childpos, code_counts, code_end, code_endpos, code_filemode, code_first, code_flag, code_flags, code_given, code_heap, code_heappop, code_heappush, code_hour, code_hours, code_i, code_index, code_item, code_k, code_last, code_lastelt, code_law, code_many, code_mode, code_most, code_names, code_newitem, code_numbers, code_octets, code_parent, code_parentpos, code_perm, code_pos, code_pretty_flags, code_returnitem, code_rightpos, code_rights, code_row, code_rows, code_script, code_startpos, code_stretches, code_table, code_v, bHPop_1, a1, htr, hi0]
      rw [hs ((AS.put { st with H := H.set l ((p :: r).map P2) } (Str.ofString "lastelt") (P2 q)).put (Str.ofString "returnitem") (P2 p)) rfl (by (first | exact a1 | exact loc_o a1 (by decide) | exact loc_o (loc_o a1 (by decide)) (by decide))) (by (first | exact put_same _ _ _ | exact loc_o (put_same _ _ _) (by decide) | exact loc_o (loc_o (put_same _ _ _) (by decide)) (by decide)))]
      simp only [sSeq, sAssign, sRet, sFl, sIf, sExpr, eBin, eUn, eVar, eVal, eCall, eMeth, eBinG, esCons, esNil, eIf, tCmp, tNot, tAnd, tOr, tVal, tTrue, AS.put_get, AS.put_H, ne_code, isLst, isStr, if_true, if_false, eq_self, List.zip_cons_cons, List.zip_nil_right, locAfter, Nat.reduceBEq, Bool.false_eq_true, reduceCtorEq, code_COMPILER_FLAG_NAMES, code_S_IFMT, code__filemode_table, code__law_given, code__law_read, code__law_without, code__siftdown, code__siftup, code_begin, code_bit, code_char, code_childpos, code_counts, code_end, code_endpos, code_filemode, code_first, code_flag, code_flags, code_given, code_heap, code_heappop, code_heappush, code_hour, code_hours, code_i, code_index, code_item, code_k, code_last, code_lastelt, code_law, code_many, code_mode, code_most, code_names, code_newitem, code_numbers, code_octets, code_parent, code_parentpos, code_perm, code_pos, code_pretty_flags, code_returnitem, code_rightpos, code_rights, code_row, code_rows, code_script, code_startpos, code_stretches, code_table, code_v, a1, hu]
    rw [sSeq.eq_1, e1]
    rfl
end Mine
end
/-! ## part FW25 -/
section
open PySem PySem.W PyProof.Rows PySem.Calls
set_option bootstrap.genMatcherCode false
namespace Mine
/-! ### the heap, in plain Lean -/
abbrev at_ (ps : List K2) (i : Nat) : K2 := ps.getD i (0, 0)
noncomputable def le2 (p q : K2) : Prop := lt2 q p = false
theorem le2_iff {p q : K2} : le2 p q ↔ p.1 < q.1 ∨ (p.1 = q.1 ∧ p.2 ≤ q.2) := by
  unfold le2 lt2
  rw [decide_eq_false_iff_not]
  constructor
  · intro h
    rcases Int.lt_trichotomy p.1 q.1 with g | g | g
    · exact .inl g
    · exact .inr ⟨g, Int.not_lt.mp fun z => h (.inr ⟨g.symm, z⟩)⟩
    · exact absurd (.inl g) h
  · rintro (g | ⟨g1, g2⟩) (z | ⟨z1, z2⟩)
    · exact Int.lt_asymm g z
    · exact absurd g (z1 ▸ Int.lt_irrefl _)
    · exact absurd z (g1 ▸ Int.lt_irrefl _)
    · exact Int.not_lt.mpr g2 z2
theorem lt2_iff {p q : K2} : lt2 p q = true ↔ p.1 < q.1 ∨ (p.1 = q.1 ∧ p.2 < q.2) := by
  unfold lt2
  rw [decide_eq_true_iff]
theorem le2_trans {p q r : K2} (h : le2 p q) (h' : le2 q r) : le2 p r := by
  rw [le2_iff] at *
  rcases h with g | ⟨g1, g2⟩ <;> rcases h' with z | ⟨z1, z2⟩
  · exact .inl (Int.lt_trans g z)
  · exact .inl (z1 ▸ g)
  · exact .inl (g1 ▸ z)
  · exact .inr ⟨g1.trans z1, Int.le_trans g2 z2⟩
theorem le2_of_lt {p q : K2} (h : lt2 p q = true) : le2 p q := by
  rw [lt2_iff] at h
  rw [le2_iff]
  (first | lia | omega)
theorem le2_refl (p : K2) : le2 p p := by rw [le2_iff]; (first | lia | omega)
noncomputable def HeapP (ps : List K2) : Prop := ∀ i, 0 < i → i < ps.length → le2 (at_ ps ((i - 1) / 2)) (at_ ps i)
theorem at_set {ps : List K2} {i j : Nat} {v : K2} (h : i < ps.length) : at_ (ps.set i v) j = if j = i then v else at_ ps j := by
  unfold at_
  rw [List.getD_eq_getElem?_getD, List.getD_eq_getElem?_getD, List.getElem?_set]
  by_cases q : i = j
  · subst q; simp [h]
  · rw [if_neg q, if_neg (Ne.symm q)]
theorem swap_perm {ps : List K2} {i j : Nat} (v : K2) (hi : i < ps.length) (hj : j < ps.length) (hij : i ≠ j) : ((ps.set i (at_ ps j)).set j v).Perm (ps.set i v) := by
  have h := List.set_set_perm (as := ps.set i v) (i := i) (j := j) (by simpa using hi) (by simpa using hj)
  rw [List.getElem_set_self, List.getElem_set_ne hij, List.set_set] at h
  have : at_ ps j = ps[j] := by unfold at_; rw [List.getD_eq_getElem?_getD, List.getElem?_eq_getElem hj]; rfl
  rw [this]
  exact h
theorem down_heap (new : K2) : ∀ (n : Nat) (ps : List K2) (pos : Nat), pos < ps.length → pos < n →
    (∀ i, 0 < i → i < ps.length → i ≠ pos → le2 (at_ (ps.set pos new) ((i - 1) / 2)) (at_ (ps.set pos new) i)) →
    (∀ i, 0 < i → i < ps.length → (i - 1) / 2 = pos → 0 < pos → le2 (at_ (ps.set pos new) ((pos - 1) / 2)) (at_ (ps.set pos new) i)) →
    HeapP (downGo new n ps pos) ∧ (downGo new n ps pos).Perm (ps.set pos new) := by
  intro n
  induction n with
  | zero => intro ps pos _ h; (first | lia | omega)
  | succ n ih =>
    intro ps pos hp hn hA hB
    unfold downGo
    by_cases h0 : pos = 0
    · rw [if_pos h0]
      refine ⟨fun i h1 h2 => hA i h1 (by simpa using h2) (by (first | lia | omega)), List.Perm.refl _⟩
    · rw [if_neg h0]
      have hq : (pos - 1) / 2 < ps.length := by (first | lia | omega)
      have hqp : (pos - 1) / 2 < pos := by (first | lia | omega)
      have hpar : ps[(pos - 1) / 2]? = some (at_ ps ((pos - 1) / 2)) := by
        unfold at_; rw [List.getD_eq_getElem?_getD, List.getElem?_eq_getElem hq]; rfl
      rw [hpar]
      dsimp only
      generalize hqq : (pos - 1) / 2 = q at *
      simp only [at_set hp] at hA hB
      cases hlt : lt2 new (at_ ps q) with
      | false =>
        rw [if_neg (by decide)]
        refine ⟨fun i h1 h2 => ?_, List.Perm.refl _⟩
        rw [List.length_set] at h2
        simp only [at_set hp]
        by_cases hi : i = pos
        · subst hi
          rw [hqq, if_neg (by (first | lia | omega)), if_pos rfl]
          exact hlt
        · exact hA i h1 h2 hi
      | true =>
        rw [if_pos rfl]
        have hq' : q < (ps.set pos (at_ ps q)).length := by rw [List.length_set]; exact hq
        have key := ih (ps.set pos (at_ ps q)) q hq' (by (first | lia | omega)) ?_ ?_
        · exact ⟨key.1, key.2.trans (swap_perm new hp hq (by (first | lia | omega)))⟩
        · intro i h1 h2 hi
          rw [List.length_set] at h2
          simp only [at_set hq', at_set hp]
          by_cases hip : i = pos
          · subst hip
            rw [hqq, if_pos rfl, if_neg hi, if_pos rfl]
            exact le2_of_lt hlt
          · rw [if_neg hi, if_neg hip]
            have h3 := hA i h1 h2 hip
            rw [if_neg hip] at h3
            by_cases hj : (i - 1) / 2 = q
            · rw [if_pos hj]
              rw [hj, if_neg (by (first | lia | omega))] at h3
              exact le2_trans (le2_of_lt hlt) h3
            · rw [if_neg hj]
              by_cases hj2 : (i - 1) / 2 = pos
              · rw [if_pos hj2]
                have h4 := hB i h1 h2 hj2 (by (first | lia | omega))
                rw [if_neg (by (first | lia | omega)), if_neg hip] at h4
                exact h4
              · rw [if_neg hj2] at h3 ⊢
                exact h3
        · intro i h1 h2 hi hq0
          rw [List.length_set] at h2
          simp only [at_set hq', at_set hp]
          have h3 := hA q hq0 hq (by (first | lia | omega))
          rw [if_neg (by (first | lia | omega)), if_neg (by (first | lia | omega))] at h3
          rw [if_neg (by (first | lia | omega)), if_neg (by (first | lia | omega)), if_neg (by (first | lia | omega))]
          by_cases hip : i = pos
          · rw [if_pos hip]; exact h3
          · rw [if_neg hip]
            have h4 := hA i h1 h2 hip
            rw [hi, if_neg (by (first | lia | omega)), if_neg hip] at h4
            exact le2_trans h3 h4
theorem up_heap (new : K2) : ∀ (n : Nat) (ps : List K2) (pos : Nat), pos < ps.length → ps.length ≤ n + pos →
    (∀ i, 0 < i → i < ps.length → i ≠ pos → (i - 1) / 2 ≠ pos → le2 (at_ ps ((i - 1) / 2)) (at_ ps i)) →
    (∀ i, 0 < i → i < ps.length → (i - 1) / 2 = pos → 0 < pos → le2 (at_ ps ((pos - 1) / 2)) (at_ ps i)) →
    ps.length ≤ 2 * (upGo n ps pos).2 + 1 ∧ ((upGo n ps pos).1.set (upGo n ps pos).2 new).Perm (ps.set pos new) ∧
    (∀ i, 0 < i → i < ps.length → i ≠ (upGo n ps pos).2 → le2 (at_ (upGo n ps pos).1 ((i - 1) / 2)) (at_ (upGo n ps pos).1 i)) := by
  intro n
  induction n with
  | zero => intro ps pos h1 h2; (first | lia | omega)
  | succ n ih =>
    intro ps pos hp hn hA hB
    unfold upGo
    by_cases hc : 2 * pos + 1 < ps.length
    · rw [if_pos hc]
      obtain ⟨k1, k2, k3⟩ := pick_lt hc
      have hpk : ∀ i, 0 < i → i < ps.length → (i - 1) / 2 = pos → le2 (at_ ps (pick ps (2 * pos + 1))) (at_ ps i) := by
        intro i h1 h2 h3
        have hi : i = 2 * pos + 1 ∨ i = 2 * pos + 1 + 1 := by (first | lia | omega)
        unfold pick
        by_cases hr : 2 * pos + 1 + 1 < ps.length ∧ lt2 (at_ ps (2 * pos + 1)) (at_ ps (2 * pos + 1 + 1)) = false
        · rw [if_pos hr]
          rcases hi with rfl | rfl
          · exact hr.2
          · exact le2_refl _
        · rw [if_neg hr]
          rcases hi with rfl | rfl
          · exact le2_refl _
          · have : lt2 (at_ ps (2 * pos + 1)) (at_ ps (2 * pos + 1 + 1)) = true := by
              cases h : lt2 (at_ ps (2 * pos + 1)) (at_ ps (2 * pos + 1 + 1)) with
              | true => rfl
              | false => exact absurd ⟨h2, h⟩ hr
            exact le2_of_lt this
      generalize pick ps (2 * pos + 1) = ch at *
      have hchp : (ch - 1) / 2 = pos := by (first | lia | omega)
      have key := ih (ps.set pos (at_ ps ch)) ch (by rw [List.length_set]; exact k1) (by rw [List.length_set]; (first | lia | omega)) ?_ ?_
      · rw [List.length_set] at key
        refine ⟨key.1, key.2.1.trans ?_, key.2.2⟩
        exact swap_perm new hp k1 (by (first | lia | omega))
      · intro i h1 h2 hi hj
        rw [List.length_set] at h2
        simp only [at_set hp]
        by_cases hip : i = pos
        · subst hip
          rw [if_pos rfl, if_neg (by (first | lia | omega))]
          exact hB ch (by (first | lia | omega)) k1 hchp (by (first | lia | omega))
        · rw [if_neg hip]
          by_cases hjp : (i - 1) / 2 = pos
          · rw [if_pos hjp]; exact hpk i h1 h2 hjp
          · rw [if_neg hjp]; exact hA i h1 h2 hip hjp
      · intro i h1 h2 hi hq0
        rw [List.length_set] at h2
        simp only [at_set hp]
        rw [hchp, if_pos rfl, if_neg (by (first | lia | omega))]
        have := hA i h1 h2 (by (first | lia | omega)) (by (first | lia | omega))
        rw [hi] at this
        exact this
    · rw [if_neg hc]
      refine ⟨by dsimp only; (first | lia | omega), List.Perm.refl _, fun i h1 h2 h3 => ?_⟩
      dsimp only at h3 ⊢
      exact hA i h1 h2 h3 (by (first | lia | omega))
theorem push_heap {ps : List K2} (p : K2) (h : HeapP ps) (hlen : ps.length < 100) : HeapP (downGo p 100 (ps ++ [p]) ps.length) ∧ (downGo p 100 (ps ++ [p]) ps.length).Perm (p :: ps) := by
  have e : (ps ++ [p]).set ps.length p = ps ++ [p] := by
    rw [List.set_append_right _ _ (Nat.le_refl _)]; simp
  have hat : ∀ i, i < ps.length → at_ (ps ++ [p]) i = at_ ps i := fun i hi => by
    unfold at_; rw [List.getD_eq_getElem?_getD, List.getD_eq_getElem?_getD, List.getElem?_append_left hi]
  have := down_heap p 100 (ps ++ [p]) ps.length (by simp) hlen ?_ ?_
  · rw [e] at this
    exact ⟨this.1, this.2.trans (List.perm_append_comm (l₁ := ps) (l₂ := [p]))⟩
  · intro i h1 h2 h3
    rw [e]
    simp at h2
    rw [hat i (by (first | lia | omega)), hat _ (by (first | lia | omega))]
    exact h i h1 (by (first | lia | omega))
  · intro i h1 h2 h3
    simp at h2
    (first | lia | omega)
theorem siftUp_heap {q : K2} {r : List K2} (hA : ∀ i, 0 < i → i < r.length + 1 → (i - 1) / 2 ≠ 0 → le2 (at_ (q :: r) ((i - 1) / 2)) (at_ (q :: r) i)) (hlen : r.length < 90) :
    HeapP (siftUp (q :: r)) ∧ (siftUp (q :: r)).Perm (q :: r) := by
  have hU := up_heap q 100 (q :: r) 0 (by simp) (by simp; (first | lia | omega)) (fun i h1 h2 h3 h4 => hA i h1 (by simpa using h2) h4) (fun i h1 h2 h3 h4 => by (first | lia | omega))
  have hl := upGo_len 100 (q :: r) 0
  have hp := upGo_pos 100 (q :: r) 0 (by simp)
  unfold siftUp
  rw [show (q :: r).getD 0 (0, 0) = q from rfl]
  generalize upGo 100 (q :: r) 0 = u at *
  obtain ⟨us, k⟩ := u
  dsimp only at hU hl hp ⊢
  obtain ⟨h1, h2, h3⟩ := hU
  have hk : k < us.length := by (first | lia | omega)
  have hss : (us.set k q).set k q = us.set k q := List.set_set ..
  have hD := down_heap q 100 (us.set k q) k (by rw [List.length_set]; exact hk) (by simp at hl; (first | lia | omega)) ?_ ?_
  · rw [hss] at hD
    refine ⟨hD.1, hD.2.trans ?_⟩
    simpa using h2
  · intro i g1 g2 g3
    rw [List.length_set] at g2
    rw [hss]
    simp only [at_set hk]
    rw [if_neg g3, if_neg (by (first | lia | omega))]
    exact h3 i g1 (by (first | lia | omega)) g3
  · intro i g1 g2 g3 g4
    rw [List.length_set] at g2
    (first | lia | omega)
theorem heap_min {ps : List K2} (h : HeapP ps) : ∀ i, i < ps.length → le2 (at_ ps 0) (at_ ps i) := by
  intro i
  induction i using Nat.strongRecOn with
  | _ i ih =>
    intro hi
    by_cases h0 : i = 0
    · subst h0; exact le2_refl _
    · exact le2_trans (ih ((i - 1) / 2) (by (first | lia | omega)) (by (first | lia | omega))) (h i (by (first | lia | omega)) hi)
theorem pop_heap {ps : List K2} {q : K2} (h : HeapP (ps ++ [q])) (hlen : ps.length < 90) :
    HeapP (hpop ps q).2 ∧ ((hpop ps q).1 :: (hpop ps q).2).Perm (ps ++ [q]) ∧ (hpop ps q).1 = at_ (ps ++ [q]) 0 := by
  cases ps with
  | nil => exact ⟨fun i h1 h2 => by simp [hpop] at h2, List.Perm.refl _, rfl⟩
  | cons p r =>
    have hS := siftUp_heap (q := q) (r := r) (fun i h1 h2 h3 => ?_) (by simp at hlen; (first | lia | omega))
    · refine ⟨hS.1, ?_, rfl⟩
      show (p :: siftUp (q :: r)).Perm (p :: (r ++ [q]))
      exact List.Perm.cons _ (hS.2.trans (List.perm_append_comm (l₁ := [q]) (l₂ := r)))
    · have := h i h1 (by simp; (first | lia | omega))
      have e : ∀ j, 0 < j → j < r.length + 1 → at_ (p :: r ++ [q]) j = at_ (q :: r) j := by
        intro j j1 j2
        obtain ⟨j, rfl⟩ : ∃ k, j = k + 1 := ⟨j - 1, by (first | lia | omega)⟩
        unfold at_
        simp only [List.cons_append, List.getD_cons_succ]
        rw [List.getD_eq_getElem?_getD, List.getD_eq_getElem?_getD, List.getElem?_append_left (by (first | lia | omega))]
      rw [e i h1 h2, e _ (by (first | lia | omega)) (by (first | lia | omega))] at this
      exact this
end Mine
end
/-! ## part FW26 -/
section
open PySem PySem.W PyProof.Rows PySem.Calls
set_option bootstrap.genMatcherCode false
namespace Mine
/-! ### loops by an invariant -/
theorem for_any {tg : AV → AS → Option AS} {b els : SM} (it : Nat → IT) (val : Nat → AV) (m : Nat) (P : Nat → AS → Prop) (Q : AS → Prop)
    (hn : ∀ j st, j < m → P j st → nextI (it j) st.H = some (some (val j, it (j + 1)))) (he : ∀ st, P m st → nextI (it m) st.H = some none)
    (hs : ∀ j st, j < m → P j st → ∃ s1 st', tg (val j) st = some s1 ∧ (((b s1 = some (.next, st') ∨ b s1 = some (.cont, st')) ∧ P (j + 1) st') ∨ (b s1 = some (.brk, st') ∧ Q st'))) :
    ∀ left j st fuel, j + left = m → P j st → left < fuel → ∃ st', (P m st' ∧ sForGo tg b els fuel (it j) st = els st') ∨ (Q st' ∧ sForGo tg b els fuel (it j) st = some (.next, st')) := by
  intro left
  induction left with
  | zero =>
    intro j st fuel hj hP hf
    have hj : j = m := by (first | lia | omega)
    subst hj
    cases fuel with
    | zero => (first | lia | omega)
    | succ fuel =>
      refine ⟨st, .inl ⟨hP, ?_⟩⟩
      simp only [sForGo, he st hP]
  | succ left ih =>
    intro j st fuel hj hP hf
    cases fuel with
    | zero => (first | lia | omega)
    | succ fuel =>
      obtain ⟨s1, st', h1, h2⟩ := hs j st (by (first | lia | omega)) hP
      rcases h2 with ⟨h2, h3⟩ | ⟨h2, h3⟩
      · obtain ⟨st'', h4⟩ := ih (j + 1) st' fuel (by (first | lia | omega)) h3 (by (first | lia | omega))
        refine ⟨st'', ?_⟩
        have e : sForGo tg b els (fuel + 1) (it j) st = sForGo tg b els fuel (it (j + 1)) st' := by
          simp only [sForGo, hn j st (by (first | lia | omega)) hP, h1]
          rcases h2 with h2 | h2 <;> rw [h2]
        rw [e]
        exact h4
      · refine ⟨st', .inr ⟨h3, ?_⟩⟩
        simp only [sForGo, hn j st (by (first | lia | omega)) hP, h1, h2]
theorem comp_any {tg : AV → AS → Option AS} {tst : TM} {elt : EM} (it : Nat → IT) (val : Nat → AV) (m : Nat) (P : Nat → List AV → AS → Prop)
    (hn : ∀ j acc st, j < m → P j acc st → nextI (it j) st.H = some (some (val j, it (j + 1)))) (he : ∀ acc st, P m acc st → nextI (it m) st.H = some none)
    (hs : ∀ j acc st, j < m → P j acc st → ∃ s1 t s2, tg (val j) st = some s1 ∧ tst s1 = some (t, s2) ∧ (t = true → ∃ y s3, elt s2 = some (y, s3) ∧ P (j + 1) (acc ++ [y]) s3) ∧ (t = false → P (j + 1) acc s2)) :
    ∀ left j acc st fuel, j + left = m → P j acc st → left < fuel → ∃ ys st', P m ys st' ∧ compGo tg tst elt fuel (it j) st acc = some (ys, st'.H) := by
  intro left
  induction left with
  | zero =>
    intro j acc st fuel hj hP hf
    have hj : j = m := by (first | lia | omega)
    subst hj
    cases fuel with
    | zero => (first | lia | omega)
    | succ fuel =>
      refine ⟨acc, st, hP, ?_⟩
      simp only [compGo, he acc st hP]
  | succ left ih =>
    intro j acc st fuel hj hP hf
    cases fuel with
    | zero => (first | lia | omega)
    | succ fuel =>
      obtain ⟨s1, t, s2, h1, h2, h3, h4⟩ := hs j acc st (by (first | lia | omega)) hP
      cases t with
      | true =>
        obtain ⟨y, s3, h5, h6⟩ := h3 rfl
        obtain ⟨ys, st', h7, h8⟩ := ih (j + 1) _ s3 fuel (by (first | lia | omega)) h6 (by (first | lia | omega))
        refine ⟨ys, st', h7, ?_⟩
        simp only [compGo, hn j acc st (by (first | lia | omega)) hP, h1, h2, h5]
        exact h8
      | false =>
        obtain ⟨ys, st', h7, h8⟩ := ih (j + 1) _ s2 fuel (by (first | lia | omega)) (h4 rfl) (by (first | lia | omega))
        refine ⟨ys, st', h7, ?_⟩
        simp only [compGo, hn j acc st (by (first | lia | omega)) hP, h1, h2]
        exact h8
/-- the iterators, by position -/
noncomputable def rngAt (a : Int) (m : Nat) (j : Nat) : IT := .rng (a + j) (m - j)
theorem rng_next (a : Int) (m : Nat) (H : List (List AV)) (j : Nat) (h : j < m) : nextI (rngAt a m j) H = some (some (.int (a + j), rngAt a m (j + 1))) := by
  unfold rngAt
  obtain ⟨k, hk⟩ : ∃ k, m - j = k + 1 := ⟨m - j - 1, by (first | lia | omega)⟩
  rw [hk, show m - (j + 1) = k by (first | lia | omega)]
  show some (some (AV.int (a + j), IT.rng (a + j + 1) k)) = _
  rw [show a + ((j + 1 : Nat) : Int) = a + j + 1 by (first | lia | omega)]
theorem rng_end (a : Int) (m : Nat) (H : List (List AV)) : nextI (rngAt a m m) H = some none := by
  unfold rngAt
  rw [Nat.sub_self]; rfl
theorem lst_next {l : Nat} {H : List (List AV)} {xs : List AV} (h : H[l]? = some xs) {j : Nat} {v : AV} (hv : xs[j]? = some v) : nextI (.lst l j) H = some (some (v, .lst l (j + 1))) := by
  simp only [nextI, h, hv]
theorem lst_end {l : Nat} {H : List (List AV)} {xs : List AV} (h : H[l]? = some xs) : nextI (.lst l xs.length) H = some none := by
  simp only [nextI, h, List.getElem?_eq_none (Nat.le_refl _)]
theorem en_next {l : Nat} {H : List (List AV)} {xs : List AV} (h : H[l]? = some xs) {j : Nat} {v : AV} (hv : xs[j]? = some v) : nextI (.en l j) H = some (some (.tuple [.int j, v], .en l (j + 1))) := by
  simp only [nextI, h, hv]
theorem en_end {l : Nat} {H : List (List AV)} {xs : List AV} (h : H[l]? = some xs) : nextI (.en l xs.length) H = some none := by
  simp only [nextI, h, List.getElem?_eq_none (Nat.le_refl _)]
theorem tup_next {xs : List AV} (H : List (List AV)) {j : Nat} {v : AV} (hv : xs[j]? = some v) : nextI (.tup xs j) H = some (some (v, .tup xs (j + 1))) := by
  simp only [nextI, hv]
theorem tup_end (xs : List AV) (H : List (List AV)) : nextI (.tup xs xs.length) H = some none := by
  simp only [nextI, List.getElem?_eq_none (Nat.le_refl _)]
theorem ent_next {xs : List AV} (H : List (List AV)) {j : Nat} {v : AV} (hv : xs[j]? = some v) : nextI (.ent xs j) H = some (some (.tuple [.int j, v], .ent xs (j + 1))) := by
  simp only [nextI, hv]
theorem ent_end (xs : List AV) (H : List (List AV)) : nextI (.ent xs xs.length) H = some none := by
  simp only [nextI, List.getElem?_eq_none (Nat.le_refl _)]
/-! ### filemode -/
theorem gIfmt_eq (m : Int) (H : List (List AV)) : gIfmt [.int m] H = some (.int (Builtin.bitAnd m 61440), H) := by
  simp only [gIfmt, gFn, List.length_cons, List.length_nil, if_true, bIfmt, bIfmt_0, sSeq, sAssign, sRet, sFl, sIf, sExpr, eBin, eUn, eVar, eVal, eCall, eMeth, eBinG, esCons, esNil, eIf, tCmp, tNot, tAnd, tOr, tVal, tTrue, AS.put_get, AS.put_H, ne_code, isLst, isStr, if_true, if_false, eq_self, List.zip_cons_cons, List.zip_nil_right, locAfter, Nat.reduceBEq, Bool.false_eq_true, reduceCtorEq, code_COMPILER_FLAG_NAMES, code_S_IFMT, code__filemode_table, code__law_given, code__law_read, code__law_without, code__siftdown, code__siftup, code_begin, code_bit, code_char, code_childpos, code_counts, code_end, code_endpos, code_filemode, code_first, code_flag, code_flags, code_given, code_heap, code_heappop, code_heappush, code_hour, code_hours, code_i, code_index, code_item, code_k, code_last, code_lastelt, code_law, code_many, code_mode, code_most, code_names, code_newitem, code_numbers, code_octets, code_parent, code_parentpos, code_perm, code_pos, code_pretty_flags, code_returnitem, code_rightpos, code_rights, code_row, code_rows, code_script, code_startpos, code_stretches, code_table, code_v, oInt, fAnd]
noncomputable def PE (e : Int × Str) : AV := .tuple [.int e.1, .str e.2]
noncomputable def tabs : List (List (Int × Str)) := [
  [(40960, ⟨#[108]⟩), (49152, ⟨#[115]⟩), (32768, ⟨#[45]⟩), (24576, ⟨#[98]⟩), (16384, ⟨#[100]⟩), (8192, ⟨#[99]⟩), (4096, ⟨#[112]⟩)],
  [(256, ⟨#[114]⟩)], [(128, ⟨#[119]⟩)], [(2112, ⟨#[115]⟩), (2048, ⟨#[83]⟩), (64, ⟨#[120]⟩)],
  [(32, ⟨#[114]⟩)], [(16, ⟨#[119]⟩)], [(1032, ⟨#[115]⟩), (1024, ⟨#[83]⟩), (8, ⟨#[120]⟩)],
  [(4, ⟨#[114]⟩)], [(2, ⟨#[119]⟩)], [(513, ⟨#[116]⟩), (512, ⟨#[84]⟩), (1, ⟨#[120]⟩)]]
noncomputable def hit (i : Nat) (m : Int) (e : Int × Str) : Bool := if i = 0 then Builtin.bitAnd m 61440 == e.1 else Builtin.bitAnd m e.1 == e.1
noncomputable def modeChar (i : Nat) (m : Int) (t : List (Int × Str)) : Str := match t.find? (hit i m) with
  | some e => e.2
  | none => if i = 0 then (Str.ofString "?") else (Str.ofString "-")
noncomputable def modeChars (m : Int) : List Str := tabs.zipIdx.map fun p => modeChar p.2 m p.1
theorem mode_inner (m : Int) (i : Nat) (p : Nat) (perm : List Str) (t : List (Int × Str)) (st : AS) (hp : st.H[p]? = some (perm.map .str)) (hl : perm.length ≤ 1000) (ht : t.length ≤ 50)
    (h1 : st.loc (Str.ofString "perm") = some (.lst p)) (h2 : st.loc (Str.ofString "mode") = some (.int m)) (h3 : st.loc (Str.ofString "index") = some (.int i)) (h4 : st.loc (Str.ofString "table") = some (.tuple (t.map PE))) :
    ∃ st', bMode_f2_b st = some (.next, st') ∧ st'.H = st.H.set p ((perm ++ [modeChar i m t]).map .str) ∧ st'.loc (Str.ofString "perm") = some (.lst p) ∧ st'.loc (Str.ofString "mode") = some (.int m) := by
  unfold bMode_f2_b sFor
  have hi : iOf (eVar (Str.ofString "table")) st = some (.tup (t.map PE) 0, st) := by simp only [iOf, eVar, h4, itOf]
  rw [hi]
  dsimp only
  obtain ⟨st', hst⟩ := for_any (tg := tgPair (Str.ofString "bit") (Str.ofString "char")) (b := bMode_f1_b) (els := bMode_f1_e) (fun j => .tup (t.map PE) j) (fun j => PE (t.getD j (0, ⟨#[]⟩))) t.length
    (fun j s => s.H = st.H ∧ s.loc (Str.ofString "perm") = some (.lst p) ∧ s.loc (Str.ofString "mode") = some (.int m) ∧ s.loc (Str.ofString "index") = some (.int i) ∧ (t.take j).find? (hit i m) = none)
    (fun s => s.H = st.H.set p ((perm ++ [modeChar i m t]).map .str) ∧ s.loc (Str.ofString "perm") = some (.lst p) ∧ s.loc (Str.ofString "mode") = some (.int m))
    (fun j s hj _ => by
      refine tup_next _ ?_
      rw [List.getElem?_map, List.getD_eq_getElem?_getD, List.getElem?_eq_getElem hj]; rfl)
    (fun s _ => by
      have := tup_end (t.map PE) s.H
      rw [List.length_map] at this; exact this)
    (fun j s hj hP => by
      obtain ⟨a1, a2, a3, a4, a5⟩ := hP
      have hget : t[j]? = some (t.getD j (0, ⟨#[]⟩)) := by rw [List.getD_eq_getElem?_getD, List.getElem?_eq_getElem hj]; rfl
      generalize t.getD j (0, ⟨#[]⟩) = e at hget
      obtain ⟨bit, ch⟩ := e
      have htake : t.take (j + 1) = t.take j ++ [(bit, ch)] := by rw [List.take_add_one, hget]; rfl
      have hfind : hit i m (bit, ch) = true → t.find? (hit i m) = some (bit, ch) := fun hh => by
        rw [← List.take_append_drop (j + 1) t, List.find?_append, htake, List.find?_append, a5]
        simp [hh]
      have happ := gAppend_eq (v := .str ch) hp (by rw [List.length_map]; (first | lia | omega))
      have hm : perm.map AV.str ++ [.str ch] = (perm ++ [ch]).map .str := by simp
      rw [hm] at happ
      refine ⟨(s.put (Str.ofString "bit") (.int bit)).put (Str.ofString "char") (.str ch), ?_⟩
      cases hh : hit i m (bit, ch) with
      | true =>
        have hch : modeChar i m t = ch := by unfold modeChar; rw [hfind hh]
        refine ⟨{ (s.put (Str.ofString "bit") (.int bit)).put (Str.ofString "char") (.str ch) with H := st.H.set p ((perm ++ [ch]).map .str) }, rfl, .inr ⟨?_, by rw [hch], by (first | exact a2 | exact loc_o a2 (by decide) | exact loc_o (loc_o a2 (by decide)) (by decide)), by (first | exact a3 | exact loc_o a3 (by decide) | exact loc_o (loc_o a3 (by decide)) (by decide))⟩⟩
        unfold hit at hh
        by_cases hi0 : i = 0
        · rw [if_pos hi0] at hh
          simp only [sSeq, sAssign, sRet, sFl, sIf, sExpr, eBin, eUn, eVar, eVal, eCall, eMeth, eBinG, esCons, esNil, eIf, tCmp, tNot, tAnd, tOr, tVal, tTrue, AS.put_get, AS.put_H, ne_code, isLst, isStr, if_true, if_false, eq_self, List.zip_cons_cons, List.zip_nil_right, locAfter, Nat.reduceBEq, Bool.false_eq_true, reduceCtorEq, code_COMPILER_FLAG_NAMES, code_S_IFMT, code__filemode_table, code__law_given, code__law_read, code__law_without, code__siftdown, code__siftup, code_begin, code_bit, code_char, code_childpos, code_counts, code_end, code_endpos, code_filemode, code_first, code_flag, code_flags, code_given, code_heap, code_heappop, code_heappush, code_hour, code_hours, code_i, code_index, code_item, code_k, code_last, code_lastelt, code_law, code_many, code_mode, code_most, code_names, code_newitem, code_numbers, code_octets, code_parent, code_parentpos, code_perm, code_pos, code_pretty_flags, code_returnitem, code_rightpos, code_rights, code_row, code_rows, code_script, code_startpos, code_stretches, code_table, code_v, bMode_f1_b, cInt_i, a1, a2, a3, a4, gIfmt_eq, hi0, Int.natCast_zero, beq_self_eq_true, hh, happ]
        · rw [if_neg hi0] at hh
          have hb : ((i : Int) == 0) = false := by rw [beq_eq_false_iff_ne]; (first | lia | omega)
          simp only [sSeq, sAssign, sRet, sFl, sIf, sExpr, eBin, eUn, eVar, eVal, eCall, eMeth, eBinG, esCons, esNil, eIf, tCmp, tNot, tAnd, tOr, tVal, tTrue, AS.put_get, AS.put_H, ne_code, isLst, isStr, if_true, if_false, eq_self, List.zip_cons_cons, List.zip_nil_right, locAfter, Nat.reduceBEq, Bool.false_eq_true, reduceCtorEq, code_COMPILER_FLAG_NAMES, code_S_IFMT, code__filemode_table, code__law_given, code__law_read, code__law_without, code__siftdown, code__siftup, code_begin, code_bit, code_char, code_childpos, code_counts, code_end, code_endpos, code_filemode, code_first, code_flag, code_flags, code_given, code_heap, code_heappop, code_heappush, code_hour, code_hours, code_i, code_index, code_item, code_k, code_last, code_lastelt, code_law, code_many, code_mode, code_most, code_names, code_newitem, code_numbers, code_octets, code_parent, code_parentpos, code_perm, code_pos, code_pretty_flags, code_returnitem, code_rightpos, code_rights, code_row, code_rows, code_script, code_startpos, code_stretches, code_table, code_v, bMode_f1_b, cInt_i, a1, a2, a3, a4, hb, oInt, fAnd, hh, happ]
      | false =>
        refine ⟨(s.put (Str.ofString "bit") (.int bit)).put (Str.ofString "char") (.str ch), rfl, .inl ⟨.inl ?_, a1, by (first | exact a2 | exact loc_o a2 (by decide) | exact loc_o (loc_o a2 (by decide)) (by decide)), by (first | exact a3 | exact loc_o a3 (by decide) | exact loc_o (loc_o a3 (by decide)) (by decide)), by (first | exact a4 | exact loc_o a4 (by decide) | exact loc_o (loc_o a4 (by decide)) (by decide)), ?_⟩⟩
        · unfold hit at hh
          by_cases hi0 : i = 0
          · rw [if_pos hi0] at hh
            simp only [sSeq, sAssign, sRet, sFl, sIf, sExpr, eBin, eUn, eVar, eVal, eCall, eMeth, eBinG, esCons, esNil, eIf, tCmp, tNot, tAnd, tOr, tVal, tTrue, AS.put_get, AS.put_H, ne_code, isLst, isStr, if_true, if_false, eq_self, List.zip_cons_cons, List.zip_nil_right, locAfter, Nat.reduceBEq, Bool.false_eq_true, reduceCtorEq, code_COMPILER_FLAG_NAMES, code_S_IFMT, code__filemode_table, code__law_given, code__law_read, code__law_without, code__siftdown, code__siftup, code_begin, code_bit, code_char, code_childpos, code_counts, code_end, code_endpos, code_filemode, code_first, code_flag, code_flags, code_given, code_heap, code_heappop, code_heappush, code_hour, code_hours, code_i, code_index, code_item, code_k, code_last, code_lastelt, code_law, code_many, code_mode, code_most, code_names, code_newitem, code_numbers, code_octets, code_parent, code_parentpos, code_perm, code_pos, code_pretty_flags, code_returnitem, code_rightpos, code_rights, code_row, code_rows, code_script, code_startpos, code_stretches, code_table, code_v, bMode_f1_b, cInt_i, a1, a2, a3, a4, gIfmt_eq, hi0, Int.natCast_zero, beq_self_eq_true, hh]
            rw [← a1]; rfl
          · rw [if_neg hi0] at hh
            have hb : ((i : Int) == 0) = false := by rw [beq_eq_false_iff_ne]; (first | lia | omega)
            simp only [sSeq, sAssign, sRet, sFl, sIf, sExpr, eBin, eUn, eVar, eVal, eCall, eMeth, eBinG, esCons, esNil, eIf, tCmp, tNot, tAnd, tOr, tVal, tTrue, AS.put_get, AS.put_H, ne_code, isLst, isStr, if_true, if_false, eq_self, List.zip_cons_cons, List.zip_nil_right, locAfter, Nat.reduceBEq, Bool.false_eq_true, reduceCtorEq, code_COMPILER_FLAG_NAMES, code_S_IFMT, code__filemode_table, code__law_given, code__law_read, code__law_without, code__siftdown, code__siftup, code_begin, code_bit, code_char, code_childpos, code_counts, code_end, code_endpos, code_filemode, code_first, code_flag, code_flags, code_given, code_heap, code_heappop, code_heappush, code_hour, code_hours, code_i, code_index, code_item, code_k, code_last, code_lastelt, code_law, code_many, code_mode, code_most, code_names, code_newitem, code_numbers, code_octets, code_parent, code_parentpos, code_perm, code_pos, code_pretty_flags, code_returnitem, code_rightpos, code_rights, code_row, code_rows, code_script, code_startpos, code_stretches, code_table, code_v, bMode_f1_b, cInt_i, a1, a2, a3, a4, hb, oInt, fAnd, hh]
        · rw [htake, List.find?_append, a5]
          simp [hh])
    t.length 0 st 100 (by (first | lia | omega)) ⟨rfl, h1, h2, h3, by simp⟩ (by (first | lia | omega))
  rcases hst with ⟨⟨a1, a2, a3, a4, a5⟩, e⟩ | ⟨⟨a1, a2, a3⟩, e⟩
  · rw [List.take_length] at a5
    rw [e]
    have happ := fun ch => gAppend_eq (v := .str ch) hp (by rw [List.length_map]; (first | lia | omega))
    have hm : ∀ ch, perm.map AV.str ++ [.str ch] = (perm ++ [ch]).map .str := by simp
    simp only [hm] at happ
    by_cases hi0 : i = 0
    · have hch : modeChar i m t = (Str.ofString "?") := by unfold modeChar; rw [a5]; exact if_pos hi0
      refine ⟨{ st' with H := st.H.set p ((perm ++ [(Str.ofString "?")]).map .str) }, ?_, by rw [hch], a2, a3⟩
      simp only [sSeq, sAssign, sRet, sFl, sIf, sExpr, eBin, eUn, eVar, eVal, eCall, eMeth, eBinG, esCons, esNil, eIf, tCmp, tNot, tAnd, tOr, tVal, tTrue, AS.put_get, AS.put_H, ne_code, isLst, isStr, if_true, if_false, eq_self, List.zip_cons_cons, List.zip_nil_right, locAfter, Nat.reduceBEq, Bool.false_eq_true, reduceCtorEq, code_COMPILER_FLAG_NAMES, code_S_IFMT, code__filemode_table, code__law_given, code__law_read, code__law_without, code__siftdown, code__siftup, code_begin, code_bit, code_char, code_childpos, code_counts, code_end, code_endpos, code_filemode, code_first, code_flag, code_flags, code_given, code_heap, code_heappop, code_heappush, code_hour, code_hours, code_i, code_index, code_item, code_k, code_last, code_lastelt, code_law, code_many, code_mode, code_most, code_names, code_newitem, code_numbers, code_octets, code_parent, code_parentpos, code_perm, code_pos, code_pretty_flags, code_returnitem, code_rightpos, code_rights, code_row, code_rows, code_script, code_startpos, code_stretches, code_table, code_v, bMode_f1_e, cInt_i, a1, a2, a3, a4, hi0, Int.natCast_zero, beq_self_eq_true, happ]
    · have hb : ((i : Int) == 0) = false := by rw [beq_eq_false_iff_ne]; (first | lia | omega)
      have hch : modeChar i m t = (Str.ofString "-") := by unfold modeChar; rw [a5]; exact if_neg hi0
      refine ⟨{ st' with H := st.H.set p ((perm ++ [(Str.ofString "-")]).map .str) }, ?_, by rw [hch], a2, a3⟩
      simp only [sSeq, sAssign, sRet, sFl, sIf, sExpr, eBin, eUn, eVar, eVal, eCall, eMeth, eBinG, esCons, esNil, eIf, tCmp, tNot, tAnd, tOr, tVal, tTrue, AS.put_get, AS.put_H, ne_code, isLst, isStr, if_true, if_false, eq_self, List.zip_cons_cons, List.zip_nil_right, locAfter, Nat.reduceBEq, Bool.false_eq_true, reduceCtorEq, code_COMPILER_FLAG_NAMES, code_S_IFMT, code__filemode_table, code__law_given, code__law_read, code__law_without, code__siftdown, code__siftup, code_begin, code_bit, code_char, code_childpos, code_counts, code_end, code_endpos, code_filemode, code_first, code_flag, code_flags, code_given, code_heap, code_heappop, code_heappush, code_hour, code_hours, code_i, code_index, code_item, code_k, code_last, code_lastelt, code_law, code_many, code_mode, code_most, code_names, code_newitem, code_numbers, code_octets, code_parent, code_parentpos, code_perm, code_pos, code_pretty_flags, code_returnitem, code_rightpos, code_rights, code_row, code_rows, code_script, code_startpos, code_stretches, code_table, code_v, bMode_f1_e, cInt_i, a1, a2, a3, a4, hb, happ]
  · exact ⟨st', e, a1, a2, a3⟩
theorem vTable_eq : vTable = .tuple (tabs.map fun t => .tuple (t.map PE)) := rfl
theorem gMode_eq (m : Int) (H : List (List AV)) (hj : ((modeChars m).map (·.length)).sum + (modeChars m).length * ((Str.ofString "")).length ≤ 1000000) :
    gMode [.int m] H = some (.str (Txt.join (Str.ofString "") (modeChars m)), H ++ [(modeChars m).map .str]) := by
  generalize hst : (⟨locAfter ([(Str.ofString "mode")].zip [.int m]) (fun _ => none), H⟩ : AS) = st
  have a1 : st.loc (Str.ofString "mode") = some (.int m) := by rw [← hst]; simp only [sSeq, sAssign, sRet, sFl, sIf, sExpr, eBin, eUn, eVar, eVal, eCall, eMeth, eBinG, esCons, esNil, eIf, tCmp, tNot, tAnd, tOr, tVal, tTrue, AS.put_get, AS.put_H, ne_code, isLst, isStr, if_true, if_false, eq_self, List.zip_cons_cons, List.zip_nil_right, locAfter, Nat.reduceBEq, Bool.false_eq_true, reduceCtorEq, code_COMPILER_FLAG_NAMES, code_S_IFMT, code__filemode_table, code__law_given, code__law_read, code__law_without, code__siftdown, code__siftup, code_begin, code_bit, code_char, code_childpos, code_counts, code_end, code_endpos, code_filemode, code_first, code_flag, code_flags, code_given, code_heap, code_heappop, code_heappush, code_hour, code_hours, code_i, code_index, code_item, code_k, code_last, code_lastelt, code_law, code_many, code_mode, code_most, code_names, code_newitem, code_numbers, code_octets, code_parent, code_parentpos, code_perm, code_pos, code_pretty_flags, code_returnitem, code_rightpos, code_rights, code_row, code_rows, code_script, code_startpos, code_stretches, code_table, code_v]
  have aH : st.H = H := by rw [← hst]
  have e0 : bMode_0 st = some (.next, AS.put { st with H := H ++ [[]] } (Str.ofString "perm") (.lst H.length)) := by
    simp only [sSeq, sAssign, sRet, sFl, sIf, sExpr, eBin, eUn, eVar, eVal, eCall, eMeth, eBinG, esCons, esNil, eIf, tCmp, tNot, tAnd, tOr, tVal, tTrue, AS.put_get, AS.put_H, ne_code, isLst, isStr, if_true, if_false, eq_self, List.zip_cons_cons, List.zip_nil_right, locAfter, Nat.reduceBEq, Bool.false_eq_true, reduceCtorEq, code_COMPILER_FLAG_NAMES, code_S_IFMT, code__filemode_table, code__law_given, code__law_read, code__law_without, code__siftdown, code__siftup, code_begin, code_bit, code_char, code_childpos, code_counts, code_end, code_endpos, code_filemode, code_first, code_flag, code_flags, code_given, code_heap, code_heappop, code_heappush, code_hour, code_hours, code_i, code_index, code_item, code_k, code_last, code_lastelt, code_law, code_many, code_mode, code_most, code_names, code_newitem, code_numbers, code_octets, code_parent, code_parentpos, code_perm, code_pos, code_pretty_flags, code_returnitem, code_rightpos, code_rights, code_row, code_rows, code_script, code_startpos, code_stretches, code_table, code_v, bMode_0, gList, aH]
  have hmc : ∀ j, ((modeChars m).take j).length ≤ 10 := fun j => by
    have : (modeChars m).length = 10 := by simp [modeChars, tabs]
    rw [List.length_take]; (first | lia | omega)
  have hloop := for_any (tg := tgPair (Str.ofString "index") (Str.ofString "table")) (b := bMode_f2_b) (els := sFl .next) (fun j => .ent (tabs.map fun t => .tuple (t.map PE)) j) (fun j => .tuple [.int j, .tuple ((tabs.getD j []).map PE)]) tabs.length
    (fun j s => s.H = H ++ [((modeChars m).take j).map .str] ∧ s.loc (Str.ofString "perm") = some (.lst H.length) ∧ s.loc (Str.ofString "mode") = some (.int m)) (fun _ => False)
    (fun j s hj _ => by
      refine ent_next _ ?_
      rw [List.getElem?_map, List.getD_eq_getElem?_getD, List.getElem?_eq_getElem hj]; rfl)
    (fun s _ => by
      have := ent_end (tabs.map fun t => .tuple (t.map PE)) s.H
      rw [List.length_map] at this; exact this)
    (fun j s hj hP => by
      obtain ⟨b1, b2, b3⟩ := hP
      refine ⟨(s.put (Str.ofString "index") (.int j)).put (Str.ofString "table") (.tuple ((tabs.getD j []).map PE)), ?_⟩
      have ht : (tabs.getD j []).length ≤ 50 := by
        have : ∀ t ∈ tabs, t.length ≤ 50 := by decide
        rw [List.getD_eq_getElem?_getD, List.getElem?_eq_getElem hj]
        exact this _ (List.getElem_mem hj)
      obtain ⟨st', c1, c2, c3, c4⟩ := mode_inner m j H.length ((modeChars m).take j) (tabs.getD j []) ((s.put (Str.ofString "index") (.int j)).put (Str.ofString "table") (.tuple ((tabs.getD j []).map PE)))
        (by show s.H[H.length]? = _
            rw [b1, List.getElem?_append_right (Nat.le_refl _)]; simp)
        (by have := hmc j; (first | lia | omega)) ht (by (first | exact b2 | exact loc_o b2 (by decide) | exact loc_o (loc_o b2 (by decide)) (by decide))) (by (first | exact b3 | exact loc_o b3 (by decide) | exact loc_o (loc_o b3 (by decide)) (by decide))) (by (first | exact put_same _ _ _ | exact loc_o (put_same _ _ _) (by decide) | exact loc_o (loc_o (put_same _ _ _) (by decide)) (by decide))) (by (first | exact put_same _ _ _ | exact loc_o (put_same _ _ _) (by decide) | exact loc_o (loc_o (put_same _ _ _) (by decide)) (by decide)))
      refine ⟨st', rfl, .inl ⟨.inl c1, ?_, c3, c4⟩⟩
      rw [c2]
      show s.H.set _ _ = _
      rw [b1, List.set_append_right _ _ (Nat.le_refl _), Nat.sub_self]
      show H ++ [_] = _
      congr 3
      have hlt : j < (modeChars m).length := by simpa [modeChars] using hj
      rw [List.take_add_one, List.getElem?_eq_getElem hlt]
      congr 1
      simp only [Option.toList_some, List.cons.injEq, and_true]
      simp only [modeChars, List.getElem_map, List.getElem_zipIdx, Nat.zero_add]
      rw [List.getD_eq_getElem?_getD, List.getElem?_eq_getElem hj]
      rfl)
    tabs.length 0 (AS.put { st with H := H ++ [[]] } (Str.ofString "perm") (.lst H.length)) 100 (by (first | lia | omega)) ⟨by simp [AS.put_H], by (first | exact put_same _ _ _ | exact loc_o (put_same _ _ _) (by decide) | exact loc_o (loc_o (put_same _ _ _) (by decide)) (by decide)), by (first | exact a1 | exact loc_o a1 (by decide) | exact loc_o (loc_o a1 (by decide)) (by decide))⟩ (by decide)
  obtain ⟨st1, h1⟩ := hloop
  rcases h1 with ⟨⟨b1, b2, b3⟩, e⟩ | ⟨h, _⟩
  · have e1 : bMode_1 (AS.put { st with H := H ++ [[]] } (Str.ofString "perm") (.lst H.length)) = some (.next, st1) := by
      unfold bMode_1 sFor
      have hi : iEnum (eVal vTable) (AS.put { st with H := H ++ [[]] } (Str.ofString "perm") (.lst H.length)) = some (.ent (tabs.map fun t => .tuple (t.map PE)) 0, (AS.put { st with H := H ++ [[]] } (Str.ofString "perm") (.lst H.length))) := by
        simp only [iEnum, eVal, vTable_eq]
      rw [hi]
      exact e
    have hall : (modeChars m).take tabs.length = modeChars m := by
      apply List.take_of_length_le
      simp [modeChars]
    rw [hall] at b1
    have hget : st1.H[H.length]? = some ((modeChars m).map .str) := by rw [b1, List.getElem?_append_right (Nat.le_refl _)]; simp
    have hjn : gJoin [.str (Str.ofString ""), .lst H.length] st1.H = some (.str (Txt.join (Str.ofString "") (modeChars m)), st1.H) := by
      simp only [gJoin, hget, strsOf_map]
      rw [if_pos hj]
    have e2 : bMode_2 st1 = some (.ret (.str (Txt.join (Str.ofString "") (modeChars m))), st1) := by
      simp only [sSeq, sAssign, sRet, sFl, sIf, sExpr, eBin, eUn, eVar, eVal, eCall, eMeth, eBinG, esCons, esNil, eIf, tCmp, tNot, tAnd, tOr, tVal, tTrue, AS.put_get, AS.put_H, ne_code, isLst, isStr, if_true, if_false, eq_self, List.zip_cons_cons, List.zip_nil_right, locAfter, Nat.reduceBEq, Bool.false_eq_true, reduceCtorEq, code_COMPILER_FLAG_NAMES, code_S_IFMT, code__filemode_table, code__law_given, code__law_read, code__law_without, code__siftdown, code__siftup, code_begin, code_bit, code_char, code_childpos, code_counts, code_end, code_endpos, code_filemode, code_first, code_flag, code_flags, code_given, code_heap, code_heappop, code_heappush, code_hour, code_hours, code_i, code_index, code_item, code_k, code_last, code_lastelt, code_law, code_many, code_mode, code_most, code_names, code_newitem, code_numbers, code_octets, code_parent, code_parentpos, code_perm, code_pos, code_pretty_flags, code_returnitem, code_rightpos, code_rights, code_row, code_rows, code_script, code_startpos, code_stretches, code_table, code_v, bMode_2, b2, hjn]
    simp only [gMode, gFn, List.length_cons, List.length_nil, if_true]
    rw [hst]
    unfold bMode
    rw [sSeq_next e0, sSeq_next e1, e2]
    dsimp only
    rw [b1]
  · exact h.elim
end Mine
end
/-! ## part FW27 -/
section
open PySem PySem.W PyProof.Rows PySem.Calls
set_option bootstrap.genMatcherCode false
namespace Mine
/-! ### the rows -/
noncomputable def rwx (h : Nat) : Nat := if h % 3 = 0 then 114 else if h % 3 = 1 then 119 else 120
noncomputable def rowChars (a b : Nat) : List Str := (List.range 9).map fun h => if a ≤ h ∧ h < b then ⟨#[rwx h]⟩ else ⟨#[45]⟩
noncomputable def rowStr (a b : Nat) : Str := ⟨#[45]⟩ ++ Txt.join ⟨#[]⟩ (rowChars a b)
noncomputable def rightsOf (a b : Nat) : Nat := (List.range 9).foldl (fun s h => if a ≤ h ∧ h < b then s + 2 ^ (8 - h) else s) 0
theorem rowStr_mode0 : ∀ a ∈ List.range 9, ∀ b ∈ List.range 10, a < b → Txt.join ⟨#[]⟩ (modeChars (32768 + rightsOf a b)) = rowStr a b ∧ ((modeChars (32768 + rightsOf a b)).map (·.length)).sum ≤ 100 := by decide +kernel
theorem rowStr_at0 : ∀ a ∈ List.range 9, ∀ b ∈ List.range 10, a < b → ∀ h ∈ List.range 9, (rowStr a b).cps[1 + h]? = some (if a ≤ h ∧ h < b then rwx h else 45) := by decide +kernel
theorem rowStr_count0 : ∀ a ∈ List.range 9, ∀ b ∈ List.range 10, a < b → (Builtin.Str.occurrences (rowStr a b) ⟨#[45]⟩ 0 (rowStr a b).length ((rowStr a b).length + 1)).length = 10 - (b - a) := by decide +kernel
theorem dash : Str.ofString "-" = ⟨#[45]⟩ := by kernel_rfl
theorem empty_str : Str.ofString "" = ⟨#[]⟩ := by kernel_rfl
theorem rights_lt0 : ∀ a ∈ List.range 9, ∀ b ∈ List.range 10, a < b → rightsOf a b < 512 := by decide +kernel
theorem modeChars_len (m : Int) : (modeChars m).length = 10 := by simp [modeChars, tabs]
theorem oAnd (H : List (List AV)) (a b : Int) : oInt fAnd H (.int a) (.int b) = some (.int (Builtin.bitAnd a b)) := rfl
theorem oXor (H : List (List AV)) (a b : Int) : oInt fXor H (.int a) (.int b) = some (.int (Builtin.bitXor a b)) := rfl
theorem trInt_i (H : List (List AV)) (a : Int) : trInt H (.int a) = some (a != 0) := rfl
section
variable {a b : Nat}
theorem ab_mem (h : a < b) (hb : b ≤ 9) : a ∈ List.range 9 ∧ b ∈ List.range 10 := ⟨List.mem_range.mpr (by (first | lia | omega)), List.mem_range.mpr (by (first | lia | omega))⟩
theorem rights_lt (h : a < b) (hb : b ≤ 9) : rightsOf a b < 512 := rights_lt0 a (ab_mem h hb).1 b (ab_mem h hb).2 h
theorem gMode_row (h : a < b) (hb : b ≤ 9) (H : List (List AV)) : ∃ perm, gMode [.int (32768 + rightsOf a b : Nat)] H = some (.str (rowStr a b), H ++ [perm]) := by
  obtain ⟨h1, h2⟩ := rowStr_mode0 a (ab_mem h hb).1 b (ab_mem h hb).2 h
  have hl := modeChars_len (32768 + rightsOf a b)
  have := gMode_eq (32768 + rightsOf a b) H (by rw [hl, empty_str]; show _ + 10 * 0 ≤ _; (first | lia | omega))
  rw [empty_str, h1] at this
  refine ⟨(modeChars (32768 + (rightsOf a b : Int))).map AV.str, ?_⟩
  rw [show ((32768 + rightsOf a b : Nat) : Int) = 32768 + (rightsOf a b : Int) from Int.natCast_add ..]
  exact this
theorem row_at (h : a < b) (hb : b ≤ 9) {x : Nat} (hx : x < 9) : (rowStr a b).cps[1 + x]? = some (if a ≤ x ∧ x < b then rwx x else 45) :=
  rowStr_at0 a (ab_mem h hb).1 b (ab_mem h hb).2 h x (by simpa using hx)
theorem row_count (h : a < b) (hb : b ≤ 9) (H : List (List AV)) : gSCount [.str (rowStr a b), .str (Str.ofString "-")] H = some (.int ((10 - (b - a) : Nat) : Int), H) := by
  have := rowStr_count0 a (ab_mem h hb).1 b (ab_mem h hb).2 h
  simp only [gSCount, dash, this]
end
theorem rwx_ne (h : Nat) : (⟨#[rwx h]⟩ : Str) ≠ (Str.ofString "-") := by
  rw [dash]
  unfold rwx
  split
  · decide
  · split <;> decide
/-! ### pretty_flags -/
noncomputable def flagName : Nat → Str
  | 0 => (Str.ofString "OPTIMIZED") | 1 => (Str.ofString "NEWLOCALS") | 2 => (Str.ofString "VARARGS") | 3 => (Str.ofString "VARKEYWORDS") | 4 => (Str.ofString "NESTED") | 5 => (Str.ofString "GENERATOR") | 6 => (Str.ofString "NOFREE") | 7 => (Str.ofString "COROUTINE") | _ => (Str.ofString "ITERABLE_COROUTINE")
noncomputable def Fl_ (m j : Nat) : Nat := (m / 2 ^ j) * 2 ^ j
noncomputable def bitsUpto (m j : Nat) : List Nat := (List.range j).filter fun i => m.testBit i
theorem factA : ∀ m ∈ List.range 512, ∀ j ∈ List.range 9, Builtin.bitAnd (Fl_ m j : Nat) (2 ^ j : Nat) = (if m.testBit j then 2 ^ j else 0 : Nat) ∧ (m.testBit j = true → Builtin.bitXor (Fl_ m j : Nat) (2 ^ j : Nat) = (Fl_ m (j + 1) : Nat)) ∧ (m.testBit j = false → Fl_ m (j + 1) = Fl_ m j) ∧ (Fl_ m (j + 1) = 0 → bitsUpto m (j + 1) = bitsUpto m 9) := by decide +kernel
theorem factZ : ∀ j ∈ List.range 32, Builtin.bitAnd 0 (2 ^ j : Nat) = 0 := by decide +kernel
theorem Fl_big {m j : Nat} (hm : m < 512) (hj : 9 ≤ j) : Fl_ m j = 0 := by
  unfold Fl_
  rw [Nat.div_eq_of_lt, Nat.zero_mul]
  calc m < 2 ^ 9 := hm
    _ ≤ 2 ^ j := Nat.pow_le_pow_right (by decide) hj
theorem oShl1 (H : List (List AV)) (j : Nat) (hj : j ≤ 100) : oInt fShl H (.int 1) (.int j) = some (.int ((2 ^ j : Nat) : Int)) := by
  simp only [oInt, fShl]
  rw [if_pos ⟨by (first | lia | omega), by (first | lia | omega), by decide⟩]
  simp
theorem get_flag {d : Addr} (y : Str) (H : List (List AV)) : ∀ j, j < 9 → gGet d Dflags [.raw (.ref d), .int ((2 ^ j : Nat) : Int), .str y] H = some (.str (flagName j), H) := by
  have key : ∀ (i : Int) (x : Str), Spec.lookup (.int i) Dflags = some (.str x) → gGet d Dflags [.raw (.ref d), .int i, .str y] H = some (.str x, H) := by
    intro i x h
    simp only [gGet, if_true, h]
  intro j hj
  have : j = 0 ∨ j = 1 ∨ j = 2 ∨ j = 3 ∨ j = 4 ∨ j = 5 ∨ j = 6 ∨ j = 7 ∨ j = 8 := by (first | lia | omega)
  rcases this with rfl | rfl | rfl | rfl | rfl | rfl | rfl | rfl | rfl <;> exact key _ _ (by kernel_rfl)
theorem hex_flag (H : List (List AV)) : ∀ j, j < 9 → ∃ y, gHex [.int ((2 ^ j : Nat) : Int)] H = some (.str y, H) := by
  have key : ∀ j ∈ List.range 9, (baseText "0x" 16 ((2 ^ j : Nat) : Int)).length ≤ 1000000 := by decide +kernel
  intro j hj
  simp only [gHex]
  rw [if_pos (key j (by simpa using hj))]
  exact ⟨_, rfl⟩
theorem hex_zero (H : List (List AV)) : gHex [.int 0] H = some (.str (Str.ofString "0x0"), H) := by
  simp only [gHex]
  rw [if_pos (by decide +kernel), show baseText "0x" 16 0 = (Str.ofString "0x0") by kernel_rfl]
noncomputable def flagsNames (m : Nat) : List Str := if m = 0 then [(Str.ofString "0x0")] else (bitsUpto m 9).map flagName
theorem flagName_len (j : Nat) : 0 < (flagName j).length ∧ (flagName j).length ≤ 20 := by
  unfold flagName
  split <;> decide +kernel
theorem names_len : ∀ (l : List Nat), ((l.map flagName).map (·.length)).sum ≤ 20 * l.length
  | [] => by simp
  | j :: l => by
    simp only [List.map_cons, List.sum_cons, List.length_cons]
    have := names_len l
    have := (flagName_len j).2
    (first | lia | omega)
theorem bits_len (m j : Nat) : (bitsUpto m j).length ≤ j := by
  unfold bitsUpto
  exact Nat.le_trans (List.length_filter_le _ _) (by simp)
theorem gFlags_eq (d : Addr) (m : Nat) (hm : m < 512) (H : List (List AV)) : gFlags d [.int m] H = some (.str (Txt.join (Str.ofString ", ") (flagsNames m)), H ++ [(flagsNames m).map .str]) := by
  generalize hst : (⟨locAfter ([(Str.ofString "flags")].zip [.int m]) (fun _ => none), H⟩ : AS) = st
  have a1 : st.loc (Str.ofString "flags") = some (.int m) := by rw [← hst]; simp only [sSeq, sAssign, sRet, sFl, sIf, sExpr, eBin, eUn, eVar, eVal, eCall, eMeth, eBinG, esCons, esNil, eIf, tCmp, tNot, tAnd, tOr, tVal, tTrue, AS.put_get, AS.put_H, ne_code, isLst, isStr, if_true, if_false, eq_self, List.zip_cons_cons, List.zip_nil_right, locAfter, Nat.reduceBEq, Bool.false_eq_true, reduceCtorEq, code_COMPILER_FLAG_NAMES, code_S_IFMT, code__filemode_table, code__law_given, code__law_read, code__law_without, code__siftdown, code__siftup, code_begin, code_bit, code_char, code_childpos, code_counts, code_end, code_endpos, code_filemode, code_first, code_flag, code_flags, code_given, code_heap, code_heappop, code_heappush, code_hour, code_hours, code_i, code_index, code_item, code_k, code_last, code_lastelt, code_law, code_many, code_mode, code_most, code_names, code_newitem, code_numbers, code_octets, code_parent, code_parentpos, code_perm, code_pos, code_pretty_flags, code_returnitem, code_rightpos, code_rights, code_row, code_rows, code_script, code_startpos, code_stretches, code_table, code_v]
  have aH : st.H = H := by rw [← hst]
  have e0 : bFlags_0 d st = some (.next, AS.put { st with H := H ++ [[]] } (Str.ofString "names") (.lst H.length)) := by
    simp only [sSeq, sAssign, sRet, sFl, sIf, sExpr, eBin, eUn, eVar, eVal, eCall, eMeth, eBinG, esCons, esNil, eIf, tCmp, tNot, tAnd, tOr, tVal, tTrue, AS.put_get, AS.put_H, ne_code, isLst, isStr, if_true, if_false, eq_self, List.zip_cons_cons, List.zip_nil_right, locAfter, Nat.reduceBEq, Bool.false_eq_true, reduceCtorEq, code_COMPILER_FLAG_NAMES, code_S_IFMT, code__filemode_table, code__law_given, code__law_read, code__law_without, code__siftdown, code__siftup, code_begin, code_bit, code_char, code_childpos, code_counts, code_end, code_endpos, code_filemode, code_first, code_flag, code_flags, code_given, code_heap, code_heappop, code_heappush, code_hour, code_hours, code_i, code_index, code_item, code_k, code_last, code_lastelt, code_law, code_many, code_mode, code_most, code_names, code_newitem, code_numbers, code_octets, code_parent, code_parentpos, code_perm, code_pos, code_pretty_flags, code_returnitem, code_rightpos, code_rights, code_row, code_rows, code_script, code_startpos, code_stretches, code_table, code_v, bFlags_0, gList, aH]
  have hF0 : Fl_ m 0 = m := by simp [Fl_]
  have hloop := for_any (tg := tgName (Str.ofString "i")) (b := bFlags_f1_b d) (els := bFlags_f1_e d) (rngAt 0 32) (fun j => .int (0 + j)) 32
    (fun j s => (m = 0 ∨ Fl_ m j ≠ 0) ∧ s.H = H ++ [((bitsUpto m j).map flagName).map .str] ∧ s.loc (Str.ofString "names") = some (.lst H.length) ∧ s.loc (Str.ofString "flags") = some (.int (Fl_ m j)))
    (fun s => s.H = H ++ [(flagsNames m).map .str] ∧ s.loc (Str.ofString "names") = some (.lst H.length))
    (fun j s hj _ => rng_next 0 32 s.H j hj) (fun s _ => rng_end 0 32 s.H)
    (fun j s hj hP => by
      obtain ⟨b0, b1, b2, b3⟩ := hP
      have hget : s.H[H.length]? = some (((bitsUpto m j).map flagName).map .str) := by rw [b1, List.getElem?_append_right (Nat.le_refl _)]; simp
      have hj0 : (0 + (j : Int)) = j := by (first | lia | omega)
      have hsh := oShl1 s.H j (by (first | lia | omega))
      refine ⟨s.put (Str.ofString "i") (.int (0 + j)), ?_⟩
      rw [hj0]
      by_cases hbit : m.testBit j = true
      · have hj9 : j < 9 := by
          rcases b0 with b0 | b0
          · rw [b0] at hbit; simp at hbit
          · rcases Nat.lt_or_ge j 9 with h | h
            · exact h
            · exact absurd (Fl_big hm h) b0
        have hm0 : m ≠ 0 := by rintro rfl; simp at hbit
        obtain ⟨f1, f2, f3, f4⟩ := factA m (by simpa using hm) j (by simpa using hj9)
        rw [if_pos hbit] at f1
        obtain ⟨y, hy⟩ := hex_flag s.H j hj9
        have hgt := get_flag (d := d) y s.H j hj9
        have hap := gAppend_eq (v := .str (flagName j)) hget (by have := bits_len m j; simp; (first | lia | omega))
        have hup : bitsUpto m (j + 1) = bitsUpto m j ++ [j] := by
          unfold bitsUpto
          rw [List.range_succ, List.filter_append]
          simp [hbit]
        have hmm : ((bitsUpto m j).map flagName).map AV.str ++ [.str (flagName j)] = ((bitsUpto m (j + 1)).map flagName).map .str := by rw [hup]; simp
        have hHH : s.H.set H.length (((bitsUpto m (j + 1)).map flagName).map .str) = H ++ [((bitsUpto m (j + 1)).map flagName).map .str] := by
          rw [b1, List.set_append_right _ _ (Nat.le_refl _), Nat.sub_self]; rfl
        rw [hmm, hHH] at hap
        have hne : (((2 ^ j : Nat) : Int) != 0) = true := by
          rw [bne_iff_ne]
          have : 0 < 2 ^ j := Nat.pow_pos (by decide)
          (first | lia | omega)
        refine ⟨(AS.put { (s.put (Str.ofString "i") (.int j)).put (Str.ofString "flag") (.int ((2 ^ j : Nat) : Int)) with H := H ++ [((bitsUpto m (j + 1)).map flagName).map .str] } (Str.ofString "flags") (.int (Fl_ m (j + 1)))), rfl, ?_⟩
        by_cases hz : Fl_ m (j + 1) = 0
        · refine .inr ⟨?_, ?_, by (first | exact b2 | exact loc_o b2 (by decide) | exact loc_o (loc_o b2 (by decide)) (by decide))⟩
          · have hz' : (((Fl_ m (j + 1) : Nat) : Int) != 0) = false := by rw [hz]; rfl
            simp only [sSeq, sAssign, sRet, sFl, sIf, sExpr, eBin, eUn, eVar, eVal, eCall, eMeth, eBinG, esCons, esNil, eIf, tCmp, tNot, tAnd, tOr, tVal, tTrue, AS.put_get, AS.put_H, ne_code, isLst, isStr, if_true, if_false, eq_self, List.zip_cons_cons, List.zip_nil_right, locAfter, Nat.reduceBEq, Bool.false_eq_true, reduceCtorEq, code_COMPILER_FLAG_NAMES, code_S_IFMT, code__filemode_table, code__law_given, code__law_read, code__law_without, code__siftdown, code__siftup, code_begin, code_bit, code_char, code_childpos, code_counts, code_end, code_endpos, code_filemode, code_first, code_flag, code_flags, code_given, code_heap, code_heappop, code_heappush, code_hour, code_hours, code_i, code_index, code_item, code_k, code_last, code_lastelt, code_law, code_many, code_mode, code_most, code_names, code_newitem, code_numbers, code_octets, code_parent, code_parentpos, code_perm, code_pos, code_pretty_flags, code_returnitem, code_rightpos, code_rights, code_row, code_rows, code_script, code_startpos, code_stretches, code_table, code_v, bFlags_f1_b, hsh, b2, b3, trInt_i, oAnd, oXor, f1, hne, isDict, beq_self_eq_true, hy, hgt, hap, sAug, f2 hbit, hz', Bool.not_false]
          · rw [f4 hz]
            unfold flagsNames
            rw [if_neg hm0]
            rfl
        · refine .inl ⟨.inl ?_, .inr hz, rfl, by (first | exact b2 | exact loc_o b2 (by decide) | exact loc_o (loc_o b2 (by decide)) (by decide)), by (first | exact put_same _ _ _ | exact loc_o (put_same _ _ _) (by decide) | exact loc_o (loc_o (put_same _ _ _) (by decide)) (by decide))⟩
          have hz' : (((Fl_ m (j + 1) : Nat) : Int) != 0) = true := by rw [bne_iff_ne]; (first | lia | omega)
          simp only [sSeq, sAssign, sRet, sFl, sIf, sExpr, eBin, eUn, eVar, eVal, eCall, eMeth, eBinG, esCons, esNil, eIf, tCmp, tNot, tAnd, tOr, tVal, tTrue, AS.put_get, AS.put_H, ne_code, isLst, isStr, if_true, if_false, eq_self, List.zip_cons_cons, List.zip_nil_right, locAfter, Nat.reduceBEq, Bool.false_eq_true, reduceCtorEq, code_COMPILER_FLAG_NAMES, code_S_IFMT, code__filemode_table, code__law_given, code__law_read, code__law_without, code__siftdown, code__siftup, code_begin, code_bit, code_char, code_childpos, code_counts, code_end, code_endpos, code_filemode, code_first, code_flag, code_flags, code_given, code_heap, code_heappop, code_heappush, code_hour, code_hours, code_i, code_index, code_item, code_k, code_last, code_lastelt, code_law, code_many, code_mode, code_most, code_names, code_newitem, code_numbers, code_octets, code_parent, code_parentpos, code_perm, code_pos, code_pretty_flags, code_returnitem, code_rightpos, code_rights, code_row, code_rows, code_script, code_startpos, code_stretches, code_table, code_v, bFlags_f1_b, hsh, b2, b3, trInt_i, oAnd, oXor, f1, hne, isDict, beq_self_eq_true, hy, hgt, hap, sAug, f2 hbit, hz', Bool.not_true]
      · have hbit' : m.testBit j = false := by simpa using hbit
        have hand : Builtin.bitAnd (Fl_ m j : Nat) (2 ^ j : Nat) = 0 ∧ Fl_ m (j + 1) = Fl_ m j := by
          rcases Nat.lt_or_ge j 9 with h | h
          · obtain ⟨f1, f2, f3, f4⟩ := factA m (by simpa using hm) j (by simpa using h)
            rw [if_neg hbit] at f1
            exact ⟨f1, f3 hbit'⟩
          · rw [Fl_big hm h, Fl_big hm (by (first | lia | omega))]
            exact ⟨factZ j (by simpa using hj), rfl⟩
        have hup : bitsUpto m (j + 1) = bitsUpto m j := by
          unfold bitsUpto
          rw [List.range_succ, List.filter_append]
          simp [hbit']
        refine ⟨(s.put (Str.ofString "i") (.int j)).put (Str.ofString "flag") (.int ((2 ^ j : Nat) : Int)), rfl, .inl ⟨.inl ?_, by rw [hand.2]; exact b0, by rw [hup]; exact b1, by (first | exact b2 | exact loc_o b2 (by decide) | exact loc_o (loc_o b2 (by decide)) (by decide)), by rw [hand.2]; (first | exact b3 | exact loc_o b3 (by decide) | exact loc_o (loc_o b3 (by decide)) (by decide))⟩⟩
        have hn0 : ((0 : Int) != 0) = false := rfl
        simp only [sSeq, sAssign, sRet, sFl, sIf, sExpr, eBin, eUn, eVar, eVal, eCall, eMeth, eBinG, esCons, esNil, eIf, tCmp, tNot, tAnd, tOr, tVal, tTrue, AS.put_get, AS.put_H, ne_code, isLst, isStr, if_true, if_false, eq_self, List.zip_cons_cons, List.zip_nil_right, locAfter, Nat.reduceBEq, Bool.false_eq_true, reduceCtorEq, code_COMPILER_FLAG_NAMES, code_S_IFMT, code__filemode_table, code__law_given, code__law_read, code__law_without, code__siftdown, code__siftup, code_begin, code_bit, code_char, code_childpos, code_counts, code_end, code_endpos, code_filemode, code_first, code_flag, code_flags, code_given, code_heap, code_heappop, code_heappush, code_hour, code_hours, code_i, code_index, code_item, code_k, code_last, code_lastelt, code_law, code_many, code_mode, code_most, code_names, code_newitem, code_numbers, code_octets, code_parent, code_parentpos, code_perm, code_pos, code_pretty_flags, code_returnitem, code_rightpos, code_rights, code_row, code_rows, code_script, code_startpos, code_stretches, code_table, code_v, bFlags_f1_b, hsh, b2, b3, trInt_i, oAnd, oXor, hand.1, hn0])
    32 0 (AS.put { st with H := H ++ [[]] } (Str.ofString "names") (.lst H.length)) 100 (by (first | lia | omega)) ⟨by (first | lia | omega), by simp [AS.put_H, bitsUpto], by (first | exact put_same _ _ _ | exact loc_o (put_same _ _ _) (by decide) | exact loc_o (loc_o (put_same _ _ _) (by decide)) (by decide)), by simp only [sSeq, sAssign, sRet, sFl, sIf, sExpr, eBin, eUn, eVar, eVal, eCall, eMeth, eBinG, esCons, esNil, eIf, tCmp, tNot, tAnd, tOr, tVal, tTrue, AS.put_get, AS.put_H, ne_code, isLst, isStr, if_true, if_false, eq_self, List.zip_cons_cons, List.zip_nil_right, locAfter, Nat.reduceBEq, Bool.false_eq_true, reduceCtorEq, code_COMPILER_FLAG_NAMES, code_S_IFMT, code__filemode_table, code__law_given, code__law_read, code__law_without, code__siftdown, code__siftup, code_begin, code_bit, code_char, code_childpos, code_counts, code_end, code_endpos, code_filemode, code_first, code_flag, code_flags, code_given, code_heap, code_heappop, code_heappush, code_hour, code_hours, code_i, code_index, code_item, code_k, code_last, code_lastelt, code_law, code_many, code_mode, code_most, code_names, code_newitem, code_numbers, code_octets, code_parent, code_parentpos, code_perm, code_pos, code_pretty_flags, code_returnitem, code_rightpos, code_rights, code_row, code_rows, code_script, code_startpos, code_stretches, code_table, code_v, a1, hF0]⟩ (by decide)
  have hfin : ∀ st1 : AS, st1.H = H ++ [(flagsNames m).map .str] → st1.loc (Str.ofString "names") = some (.lst H.length) → bFlags_1 d (AS.put { st with H := H ++ [[]] } (Str.ofString "names") (.lst H.length)) = some (.next, st1) →
      gFlags d [.int m] H = some (.str (Txt.join (Str.ofString ", ") (flagsNames m)), H ++ [(flagsNames m).map .str]) := by
    intro st1 c1 c2 c3
    have hget : st1.H[H.length]? = some ((flagsNames m).map .str) := by rw [c1, List.getElem?_append_right (Nat.le_refl _)]; simp
    have hj : ((flagsNames m).map (·.length)).sum + (flagsNames m).length * ((Str.ofString ", ")).length ≤ 1000000 := by
      have h2 : ((Str.ofString ", ")).length = 2 := by decide +kernel
      rw [h2]
      unfold flagsNames
      by_cases h0 : m = 0
      · rw [if_pos h0]
        decide +kernel
      · rw [if_neg h0]
        have := names_len (bitsUpto m 9)
        have := bits_len m 9
        rw [List.length_map]
        (first | lia | omega)
    have hjn : gJoin [.str (Str.ofString ", "), .lst H.length] st1.H = some (.str (Txt.join (Str.ofString ", ") (flagsNames m)), st1.H) := by
      simp only [gJoin, hget, strsOf_map]
      rw [if_pos hj]
    have e2 : bFlags_2 d st1 = some (.ret (.str (Txt.join (Str.ofString ", ") (flagsNames m))), st1) := by
      simp only [sSeq, sAssign, sRet, sFl, sIf, sExpr, eBin, eUn, eVar, eVal, eCall, eMeth, eBinG, esCons, esNil, eIf, tCmp, tNot, tAnd, tOr, tVal, tTrue, AS.put_get, AS.put_H, ne_code, isLst, isStr, if_true, if_false, eq_self, List.zip_cons_cons, List.zip_nil_right, locAfter, Nat.reduceBEq, Bool.false_eq_true, reduceCtorEq, code_COMPILER_FLAG_NAMES, code_S_IFMT, code__filemode_table, code__law_given, code__law_read, code__law_without, code__siftdown, code__siftup, code_begin, code_bit, code_char, code_childpos, code_counts, code_end, code_endpos, code_filemode, code_first, code_flag, code_flags, code_given, code_heap, code_heappop, code_heappush, code_hour, code_hours, code_i, code_index, code_item, code_k, code_last, code_lastelt, code_law, code_many, code_mode, code_most, code_names, code_newitem, code_numbers, code_octets, code_parent, code_parentpos, code_perm, code_pos, code_pretty_flags, code_returnitem, code_rightpos, code_rights, code_row, code_rows, code_script, code_startpos, code_stretches, code_table, code_v, bFlags_2, c2, hjn]
    simp only [gFlags, gFn, List.length_cons, List.length_nil, if_true]
    rw [hst]
    unfold bFlags
    rw [sSeq_next e0, sSeq_next c3, e2]
    dsimp only
    rw [c1]
  have hit : bFlags_1 d (AS.put { st with H := H ++ [[]] } (Str.ofString "names") (.lst H.length)) = sForGo (tgName (Str.ofString "i")) (bFlags_f1_b d) (bFlags_f1_e d) 100 (rngAt 0 32 0) (AS.put { st with H := H ++ [[]] } (Str.ofString "names") (.lst H.length)) := by
    unfold bFlags_1 sFor
    have : iOf (eCall gRange (esCons (eVal (.int 32)) esNil)) (AS.put { st with H := H ++ [[]] } (Str.ofString "names") (.lst H.length)) = some (rngAt 0 32 0, (AS.put { st with H := H ++ [[]] } (Str.ofString "names") (.lst H.length))) := by
      simp only [iOf, sSeq, sAssign, sRet, sFl, sIf, sExpr, eBin, eUn, eVar, eVal, eCall, eMeth, eBinG, esCons, esNil, eIf, tCmp, tNot, tAnd, tOr, tVal, tTrue, AS.put_get, AS.put_H, ne_code, isLst, isStr, if_true, if_false, eq_self, List.zip_cons_cons, List.zip_nil_right, locAfter, Nat.reduceBEq, Bool.false_eq_true, reduceCtorEq, code_COMPILER_FLAG_NAMES, code_S_IFMT, code__filemode_table, code__law_given, code__law_read, code__law_without, code__siftdown, code__siftup, code_begin, code_bit, code_char, code_childpos, code_counts, code_end, code_endpos, code_filemode, code_first, code_flag, code_flags, code_given, code_heap, code_heappop, code_heappush, code_hour, code_hours, code_i, code_index, code_item, code_k, code_last, code_lastelt, code_law, code_many, code_mode, code_most, code_names, code_newitem, code_numbers, code_octets, code_parent, code_parentpos, code_perm, code_pos, code_pretty_flags, code_returnitem, code_rightpos, code_rights, code_row, code_rows, code_script, code_startpos, code_stretches, code_table, code_v, gRange, itOf]
      rw [if_pos (by decide)]
      rfl
    rw [this]
  obtain ⟨st1, h1⟩ := hloop
  rcases h1 with ⟨⟨b0, b1, b2, b3⟩, e⟩ | ⟨⟨b1, b2⟩, e⟩
  · have hm0 : m = 0 := by
      rcases b0 with h | h
      · exact h
      · exact absurd (Fl_big hm (by decide)) h
    subst hm0
    have hget : st1.H[H.length]? = some [] := by rw [b1, List.getElem?_append_right (Nat.le_refl _)]; simp [bitsUpto]
    have hap := gAppend_eq (v := .str (Str.ofString "0x0")) hget (by simp)
    have hF : Fl_ 0 32 = 0 := by decide
    rw [hF] at b3
    have b3 : st1.loc (Str.ofString "flags") = some (.int 0) := b3
    refine hfin { st1 with H := st1.H.set H.length ([] ++ [.str (Str.ofString "0x0")]) } ?_ b2 ?_
    · show st1.H.set _ _ = _
      rw [b1, List.set_append_right _ _ (Nat.le_refl _), Nat.sub_self]
      rfl
    · rw [hit, e]
      simp only [sSeq, sAssign, sRet, sFl, sIf, sExpr, eBin, eUn, eVar, eVal, eCall, eMeth, eBinG, esCons, esNil, eIf, tCmp, tNot, tAnd, tOr, tVal, tTrue, AS.put_get, AS.put_H, ne_code, isLst, isStr, if_true, if_false, eq_self, List.zip_cons_cons, List.zip_nil_right, locAfter, Nat.reduceBEq, Bool.false_eq_true, reduceCtorEq, code_COMPILER_FLAG_NAMES, code_S_IFMT, code__filemode_table, code__law_given, code__law_read, code__law_without, code__siftdown, code__siftup, code_begin, code_bit, code_char, code_childpos, code_counts, code_end, code_endpos, code_filemode, code_first, code_flag, code_flags, code_given, code_heap, code_heappop, code_heappush, code_hour, code_hours, code_i, code_index, code_item, code_k, code_last, code_lastelt, code_law, code_many, code_mode, code_most, code_names, code_newitem, code_numbers, code_octets, code_parent, code_parentpos, code_perm, code_pos, code_pretty_flags, code_returnitem, code_rightpos, code_rights, code_row, code_rows, code_script, code_startpos, code_stretches, code_table, code_v, bFlags_f1_e, b2, b3, hex_zero, hap]
  · exact hfin st1 b1 b2 (by rw [hit, e])
end Mine
end
/-! ## part FW28 -/
section
open PySem PySem.W PyProof.Rows PySem.Calls
set_option bootstrap.genMatcherCode false
namespace Mine
/-! ### hours given by the heap: the invariant, in plain Lean -/
abbrev Jb := List (Nat × Nat)
noncomputable def ga (gv : List Nat) (k : Nat) : Nat := gv.getD k 9
noncomputable def kb (b k : Nat) : K2 := ((b : Int), (k : Int))
structure HInv (J : Jb) (t : Nat) (rel : Nat → Prop) (hp : List K2) (gv : List Nat) : Prop where
  heap : HeapP hp
  mem : ∀ p ∈ hp, ∃ k a b, J[k]? = some (a, b) ∧ p = kb b k ∧ rel k ∧ ga gv k = 9
  nodup : hp.Nodup
  full : ∀ k a b, J[k]? = some (a, b) → rel k → ga gv k = 9 → t < b → kb b k ∈ hp
structure SInv (J : Jb) (t : Nat) (gv : List Nat) : Prop where
  len : gv.length = J.length
  f1 : ∀ k a b, J[k]? = some (a, b) → ga gv k = 9 ∨ (ga gv k < t ∧ a ≤ ga gv k ∧ ga gv k < b)
  f2 : ∀ k k', k < J.length → k' < J.length → ga gv k = ga gv k' → ga gv k ≠ 9 → k = k'
  f3 : ∀ h, h < t → ∀ i a b, J[i]? = some (a, b) → a ≤ h → h < b → (ga gv i = 9 ∨ h ≤ ga gv i) → ∃ k a' b', J[k]? = some (a', b') ∧ ga gv k = h ∧ b' ≤ b
theorem kb_inj {b k b' k' : Nat} (h : kb b k = kb b' k') : b = b' ∧ k = k' := by
  unfold kb at h
  simp only [Prod.mk.injEq] at h
  (first | lia | omega)
theorem HInv.congr {J : Jb} {t : Nat} {rel rel' : Nat → Prop} {hp : List K2} {gv : List Nat} (h : HInv J t rel hp gv) (hr : ∀ k a b, J[k]? = some (a, b) → (rel k ↔ rel' k)) : HInv J t rel' hp gv :=
  ⟨h.heap, fun p hp => let ⟨k, a, b, h1, h2, h3, h4⟩ := h.mem p hp; ⟨k, a, b, h1, h2, (hr k a b h1).mp h3, h4⟩, h.nodup, fun k a b h1 h2 h3 h4 => h.full k a b h1 ((hr k a b h1).mpr h2) h3 h4⟩
theorem nodup_lt : ∀ (n : Nat) (l : List Nat), l.Nodup → (∀ x ∈ l, x < n) → l.length ≤ n
  | 0, [], _, _ => Nat.le_refl _
  | 0, x :: l, _, h => absurd (h x List.mem_cons_self) (Nat.not_lt_zero _)
  | n + 1, l, hn, h => by
    have := nodup_lt n (l.erase n) (hn.erase n) fun x hx => by
      obtain ⟨h1, h2⟩ := (hn.mem_erase_iff).mp hx
      have := h x h2
      (first | lia | omega)
    rw [List.length_erase] at this
    split at this <;> (first | lia | omega)
theorem HInv.len {J : Jb} {t : Nat} {rel : Nat → Prop} {hp : List K2} {gv : List Nat} (h : HInv J t rel hp gv) : hp.length ≤ J.length := by
  have h1 : (hp.map fun p => p.2.toNat).Nodup := by
    rw [List.nodup_iff_pairwise_ne, List.pairwise_map]
    refine List.Pairwise.imp_of_mem ?_ (List.nodup_iff_pairwise_ne.mp h.nodup)
    intro x y hx hy hne e
    obtain ⟨k, a, b, e1, rfl, _, _⟩ := h.mem x hx
    obtain ⟨k', a', b', e1', rfl, _, _⟩ := h.mem y hy
    have : k = k' := by simpa [kb] using e
    subst this
    rw [e1] at e1'
    cases e1'
    exact hne rfl
  have h2 : ∀ x ∈ hp.map fun p => p.2.toNat, x ∈ List.range J.length := by
    intro x hx
    obtain ⟨p, hp', rfl⟩ := List.mem_map.mp hx
    obtain ⟨k, a, b, e1, rfl, _, _⟩ := h.mem p hp'
    have := (List.getElem?_eq_some_iff.mp e1).1
    exact List.mem_range.mpr (by simpa [kb] using this)
  have := nodup_lt J.length _ h1 fun x hx => List.mem_range.mp (h2 x hx)
  simpa using this
noncomputable def relJ (J : Jb) (t j k : Nat) : Prop := ∃ a b, J[k]? = some (a, b) ∧ (a < t ∨ (a = t ∧ k < j))
theorem HInv.push {J : Jb} {t j a b : Nat} {hp : List K2} {gv : List Nat} (h : HInv J t (relJ J t j) hp gv) (S : SInv J t gv) (hj : J[j]? = some (a, b)) (ha : a = t) (hJ : J.length ≤ 20) :
    HInv J t (relJ J t (j + 1)) (downGo (kb b j) 100 (hp ++ [kb b j]) hp.length) gv := by
  have hlen := h.len
  obtain ⟨h1, h2⟩ := push_heap (kb b j) h.heap (by (first | lia | omega))
  have hnot : kb b j ∉ hp := fun hm => by
    obtain ⟨k, a', b', e1, e2, ⟨a2, b2, e3, e4⟩, _⟩ := h.mem _ hm
    obtain ⟨rfl, rfl⟩ := kb_inj e2
    rw [hj] at e3; cases e3
    (first | lia | omega)
  have h9 : ga gv j = 9 := by
    rcases S.f1 j a b hj with q | ⟨q1, q2, q3⟩
    · exact q
    · (first | lia | omega)
  refine ⟨h1, fun p hp' => ?_, ?_, fun k a' b' e1 e2 e3 e4 => ?_⟩
  · rcases List.mem_cons.mp (h2.mem_iff.mp hp') with rfl | hm
    · exact ⟨j, a, b, hj, rfl, ⟨a, b, hj, .inr ⟨ha, Nat.lt_succ_self j⟩⟩, h9⟩
    · obtain ⟨k, a', b', e1, e2, ⟨a2, b2, e3, e4⟩, e5⟩ := h.mem p hm
      exact ⟨k, a', b', e1, e2, ⟨a2, b2, e3, e4.imp id fun q => ⟨q.1, Nat.lt_succ_of_lt q.2⟩⟩, e5⟩
  · exact h2.nodup_iff.mpr (List.nodup_cons.mpr ⟨hnot, h.nodup⟩)
  · refine h2.mem_iff.mpr ?_
    by_cases q : k = j
    · subst q
      rw [hj] at e1; cases e1
      exact List.mem_cons_self
    · refine List.mem_cons_of_mem _ (h.full k a' b' e1 ?_ e3 e4)
      obtain ⟨a2, b2, e5, e6⟩ := e2
      exact ⟨a2, b2, e5, e6.imp id fun q' => ⟨q'.1, by (first | lia | omega)⟩⟩
theorem HInv.skip {J : Jb} {t j a b : Nat} {hp : List K2} {gv : List Nat} (h : HInv J t (relJ J t j) hp gv) (hj : J[j]? = some (a, b)) (ha : a ≠ t) : HInv J t (relJ J t (j + 1)) hp gv :=
  h.congr fun k a' b' e => by
    constructor
    · rintro ⟨a2, b2, e5, e6⟩
      exact ⟨a2, b2, e5, e6.imp id fun q => ⟨q.1, Nat.lt_succ_of_lt q.2⟩⟩
    · rintro ⟨a2, b2, e5, e6⟩
      refine ⟨a2, b2, e5, e6.imp id fun q => ⟨q.1, ?_⟩⟩
      by_cases hk : k = j
      · subst hk; rw [hj] at e5; cases e5; (first | lia | omega)
      · (first | lia | omega)
theorem HInv.drop {J : Jb} {t : Nat} {rel : Nat → Prop} {hp hp' : List K2} {p : K2} {gv : List Nat} (h : HInv J t rel hp gv) (hh : HeapP hp') (hperm : (p :: hp').Perm hp) (hp : p.1 ≤ (t : Int)) : HInv J t rel hp' gv := by
  refine ⟨hh, fun q hq => h.mem q (hperm.mem_iff.mp (List.mem_cons_of_mem _ hq)), (List.nodup_cons.mp (hperm.nodup_iff.mpr h.nodup)).2, fun k a b e1 e2 e3 e4 => ?_⟩
  rcases List.mem_cons.mp (hperm.mem_iff.mpr (h.full k a b e1 e2 e3 e4)) with q | q
  · rw [← q] at hp
    have : (b : Int) ≤ t := hp
    (first | lia | omega)
  · exact q
theorem ga_set {gv : List Nat} {k x i : Nat} (hk : k < gv.length) : ga (gv.set k x) i = if i = k then x else ga gv i := by
  unfold ga
  rw [List.getD_eq_getElem?_getD, List.getD_eq_getElem?_getD, List.getElem?_set]
  by_cases q : k = i
  · subst q; simp [hk]
  · rw [if_neg q, if_neg (Ne.symm q)]
theorem serve {J : Jb} {t : Nat} {hp hp' : List K2} {p : K2} {gv : List Nat} (h : HInv J t (relJ J (t + 1) 0) hp gv) (S : SInv J t gv) (hh : HeapP hp') (hperm : (p :: hp').Perm hp) (hmin : ∀ q ∈ hp, le2 p q) (hp0 : ¬ p.1 ≤ (t : Int)) (ht : t < 9) :
    ∃ k : Nat, p.2 = (k : Int) ∧ k < gv.length ∧ HInv J (t + 1) (relJ J (t + 1) 0) hp' (gv.set k t) ∧ SInv J (t + 1) (gv.set k t) := by
  obtain ⟨k, a, b, e1, e2, ⟨a2, b2, e3, e4⟩, e5⟩ := h.mem p (hperm.mem_iff.mp List.mem_cons_self)
  rw [e1] at e3; cases e3
  subst e2
  have hkJ := (List.getElem?_eq_some_iff.mp e1).1
  have hk : k < gv.length := by rw [S.len]; exact hkJ
  have hat : a ≤ t := by (first | lia | omega)
  have htb : t < b := by
    have : ¬ (b : Int) ≤ t := hp0
    (first | lia | omega)
  have hnd := List.nodup_cons.mp (hperm.nodup_iff.mpr h.nodup)
  refine ⟨k, rfl, hk, ⟨hh, fun q hq => ?_, hnd.2, fun i a' b' g1 g2 g3 g4 => ?_⟩, ⟨by rw [List.length_set]; exact S.len, fun i a' b' g1 => ?_, fun i i' g1 g2 g3 g4 => ?_, fun x hx i a' b' g1 g2 g3 g4 => ?_⟩⟩
  · obtain ⟨i, a', b', g1, g2, g3, g4⟩ := h.mem q (hperm.mem_iff.mp (List.mem_cons_of_mem _ hq))
    refine ⟨i, a', b', g1, g2, g3, ?_⟩
    rw [ga_set hk, if_neg ?_]
    · exact g4
    · rintro rfl
      rw [e1] at g1; cases g1
      subst g2
      exact hnd.1 hq
  · rw [ga_set hk] at g3
    by_cases q : i = k
    · rw [if_pos q] at g3; (first | lia | omega)
    · rw [if_neg q] at g3
      rcases List.mem_cons.mp (hperm.mem_iff.mpr (h.full i a' b' g1 g2 g3 (by (first | lia | omega)))) with w | w
      · exact absurd (kb_inj w).2 q
      · exact w
  · rw [ga_set hk]
    by_cases q : i = k
    · subst q
      rw [e1] at g1; cases g1
      rw [if_pos rfl]
      exact .inr ⟨by (first | lia | omega), hat, htb⟩
    · rw [if_neg q]
      rcases S.f1 i a' b' g1 with w | ⟨w1, w2, w3⟩
      · exact .inl w
      · exact .inr ⟨by (first | lia | omega), w2, w3⟩
  · rw [ga_set hk] at g3 g4
    rw [ga_set hk] at g3
    have lt9 : ∀ j, j < J.length → ga gv j ≠ t := fun j hj e => by
      obtain ⟨a', b', hjb⟩ : ∃ a' b', J[j]? = some (a', b') := ⟨_, _, List.getElem?_eq_getElem hj⟩
      rcases S.f1 j a' b' hjb with w | ⟨w1, w2, w3⟩ <;> (first | lia | omega)
    by_cases q : i = k
    · by_cases q' : i' = k
      · (first | lia | omega)
      · rw [if_pos q, if_neg q'] at g3
        exact absurd g3.symm (lt9 i' g2)
    · rw [if_neg q] at g3 g4
      by_cases q' : i' = k
      · rw [if_pos q'] at g3
        exact absurd g3 (lt9 i g1)
      · rw [if_neg q'] at g3
        exact S.f2 i i' g1 g2 g3 g4
  · rw [ga_set hk] at g4
    rcases Nat.lt_or_ge x t with hxt | hxt
    · have g4' : ga gv i = 9 ∨ x ≤ ga gv i := by
        by_cases q : i = k
        · rw [q, e5]; exact .inl rfl
        · rw [if_neg q] at g4; exact g4
      obtain ⟨k', a2, b2, w1, w2, w3⟩ := S.f3 x hxt i a' b' g1 g2 g3 g4'
      refine ⟨k', a2, b2, w1, ?_, w3⟩
      rw [ga_set hk, if_neg (by rintro rfl; (first | lia | omega))]
      exact w2
    · have hx' : x = t := by (first | lia | omega)
      subst hx'
      refine ⟨k, a, b, e1, by rw [ga_set hk, if_pos rfl], ?_⟩
      by_cases q : i = k
      · subst q; rw [e1] at g1; cases g1; exact Nat.le_refl _
      · rw [if_neg q] at g4
        have g9 : ga gv i = 9 := by
          rcases S.f1 i a' b' g1 with w | ⟨w1, w2, w3⟩
          · exact w
          · rcases g4 with w | w <;> (first | lia | omega)
        have := hmin _ (h.full i a' b' g1 ⟨a', b', g1, .inl (by (first | lia | omega))⟩ g9 g3)
        rw [le2_iff] at this
        simp only [kb] at this
        (first | lia | omega)
theorem idle {J : Jb} {t : Nat} {gv : List Nat} (h : HInv J t (relJ J (t + 1) 0) [] gv) (S : SInv J t gv) (ht : t < 9) :
    HInv J (t + 1) (relJ J (t + 1) 0) [] gv ∧ SInv J (t + 1) gv := by
  refine ⟨⟨h.heap, h.mem, h.nodup, fun k a b g1 g2 g3 g4 => h.full k a b g1 g2 g3 (by (first | lia | omega))⟩, ⟨S.len, fun i a' b' g1 => ?_, S.f2, fun x hx i a' b' g1 g2 g3 g4 => ?_⟩⟩
  · rcases S.f1 i a' b' g1 with w | ⟨w1, w2, w3⟩
    · exact .inl w
    · exact .inr ⟨by (first | lia | omega), w2, w3⟩
  · rcases Nat.lt_or_ge x t with hxt | hxt
    · exact S.f3 x hxt i a' b' g1 g2 g3 g4
    · have hx' : x = t := by (first | lia | omega)
      subst hx'
      have g9 : ga gv i = 9 := by
        rcases S.f1 i a' b' g1 with w | ⟨w1, w2, w3⟩
        · exact w
        · rcases g4 with w | w <;> (first | lia | omega)
      have := h.full i a' b' g1 ⟨a', b', g1, .inl (by (first | lia | omega))⟩ g9 g3
      cases this
end Mine
end
/-! ## part FW29 -/
section
open PySem PySem.W PyProof.Rows PySem.Calls
set_option bootstrap.genMatcherCode false
namespace Mine
noncomputable def rowsOf (J : Jb) : List AV := J.map fun p => .str (rowStr p.1 p.2)
noncomputable def natsAV (gv : List Nat) : List AV := gv.map (fun x : Nat => AV.int (x : Int))
noncomputable def JOk (J : Jb) : Prop := (∀ p ∈ J, p.1 < p.2 ∧ p.2 ≤ 9) ∧ J.length ≤ 20
/-- the lists h (heap) and g (given) beyond the old ones -/
structure GS (H0 : List (List AV)) (r h g : Nat) (hp : List K2) (gv : List Nat) (st : AS) : Prop where
  keep : ∀ i, i < H0.length → st.H[i]? = H0[i]?
  hH : st.H[h]? = some (hp.map P2)
  hG : st.H[g]? = some (natsAV gv)
  rows : st.loc (Str.ofString "rows") = some (.lst r)
  heap : st.loc (Str.ofString "heap") = some (.lst h)
  given : st.loc (Str.ofString "given") = some (.lst g)
section
variable {H0 : List (List AV)} {r h g : Nat} {hp hp' : List K2} {gv gv' : List Nat} {st : AS} {J : Jb}
theorem lt_of_get {H : List (List AV)} {i : Nat} {x : List AV} (e : H[i]? = some x) : i < H.length := (List.getElem?_eq_some_iff.mp e).1
theorem GS.app (R : GS H0 r h g hp gv st) (x : List AV) : GS H0 r h g hp gv { st with H := st.H ++ [x] } where
  keep := fun i hi => by
    have hl : i < st.H.length := by
      rcases Nat.lt_or_ge i st.H.length with q | q
      · exact q
      · have := R.keep i hi
        rw [List.getElem?_eq_none q, List.getElem?_eq_getElem hi] at this; cases this
    show (st.H ++ [x])[i]? = _
    rw [List.getElem?_append_left hl]; exact R.keep i hi
  hH := by show (st.H ++ [x])[h]? = _; rw [List.getElem?_append_left (lt_of_get R.hH)]; exact R.hH
  hG := by show (st.H ++ [x])[g]? = _; rw [List.getElem?_append_left (lt_of_get R.hG)]; exact R.hG
  rows := R.rows
  heap := R.heap
  given := R.given
theorem GS.setH (R : GS H0 r h g hp gv st) (h1 : H0.length ≤ h) (h2 : h ≠ g) : GS H0 r h g hp' gv { st with H := st.H.set h (hp'.map P2) } where
  keep := fun i hi => by show (st.H.set h _)[i]? = _; rw [List.getElem?_set_ne (by (first | lia | omega))]; exact R.keep i hi
  hH := by show (st.H.set h _)[h]? = _; exact List.getElem?_set_self (lt_of_get R.hH)
  hG := by show (st.H.set h _)[g]? = _; rw [List.getElem?_set_ne h2]; exact R.hG
  rows := R.rows
  heap := R.heap
  given := R.given
theorem GS.setG (R : GS H0 r h g hp gv st) (h1 : H0.length ≤ g) (h2 : h ≠ g) : GS H0 r h g hp gv' { st with H := st.H.set g (natsAV gv') } where
  keep := fun i hi => by show (st.H.set g _)[i]? = _; rw [List.getElem?_set_ne (by (first | lia | omega))]; exact R.keep i hi
  hH := by show (st.H.set g _)[h]? = _; rw [List.getElem?_set_ne (Ne.symm h2)]; exact R.hH
  hG := by show (st.H.set g _)[g]? = _; exact List.getElem?_set_self (lt_of_get R.hG)
  rows := R.rows
  heap := R.heap
  given := R.given
theorem GS.putk (R : GS H0 r h g hp gv st) (v : AV) : GS H0 r h g hp gv (st.put (Str.ofString "k") v) := ⟨R.keep, R.hH, R.hG, by simp only [sSeq, sAssign, sRet, sFl, sIf, sExpr, eBin, eUn, eVar, eVal, eCall, eMeth, eBinG, esCons, esNil, eIf, tCmp, tNot, tAnd, tOr, tVal, tTrue, AS.put_get, AS.put_H, ne_code, isLst, isStr, if_true, if_false, eq_self, List.zip_cons_cons, List.zip_nil_right, locAfter, Nat.reduceBEq, Bool.false_eq_true, reduceCtorEq, code_COMPILER_FLAG_NAMES, code_S_IFMT, code__filemode_table, code__law_given, code__law_read, code__law_without, code__siftdown, code__siftup, code_begin, code_bit, code_char, code_childpos, code_counts, code_end, code_endpos, code_filemode, code_first, code_flag, code_flags, code_given, code_heap, code_heappop, code_heappush, code_hour, code_hours, code_i, code_index, code_item, code_k, code_last, code_lastelt, code_law, code_many, code_mode, code_most, code_names, code_newitem, code_numbers, code_octets, code_parent, code_parentpos, code_perm, code_pos, code_pretty_flags, code_returnitem, code_rightpos, code_rights, code_row, code_rows, code_script, code_startpos, code_stretches, code_table, code_v, R.rows], by simp only [sSeq, sAssign, sRet, sFl, sIf, sExpr, eBin, eUn, eVar, eVal, eCall, eMeth, eBinG, esCons, esNil, eIf, tCmp, tNot, tAnd, tOr, tVal, tTrue, AS.put_get, AS.put_H, ne_code, isLst, isStr, if_true, if_false, eq_self, List.zip_cons_cons, List.zip_nil_right, locAfter, Nat.reduceBEq, Bool.false_eq_true, reduceCtorEq, code_COMPILER_FLAG_NAMES, code_S_IFMT, code__filemode_table, code__law_given, code__law_read, code__law_without, code__siftdown, code__siftup, code_begin, code_bit, code_char, code_childpos, code_counts, code_end, code_endpos, code_filemode, code_first, code_flag, code_flags, code_given, code_heap, code_heappop, code_heappush, code_hour, code_hours, code_i, code_index, code_item, code_k, code_last, code_lastelt, code_law, code_many, code_mode, code_most, code_names, code_newitem, code_numbers, code_octets, code_parent, code_parentpos, code_perm, code_pos, code_pretty_flags, code_returnitem, code_rightpos, code_rights, code_row, code_rows, code_script, code_startpos, code_stretches, code_table, code_v, R.heap], by simp only [sSeq, sAssign, sRet, sFl, sIf, sExpr, eBin, eUn, eVar, eVal, eCall, eMeth, eBinG, esCons, esNil, eIf, tCmp, tNot, tAnd, tOr, tVal, tTrue, AS.put_get, AS.put_H, ne_code, isLst, isStr, if_true, if_false, eq_self, List.zip_cons_cons, List.zip_nil_right, locAfter, Nat.reduceBEq, Bool.false_eq_true, reduceCtorEq, code_COMPILER_FLAG_NAMES, code_S_IFMT, code__filemode_table, code__law_given, code__law_read, code__law_without, code__siftdown, code__siftup, code_begin, code_bit, code_char, code_childpos, code_counts, code_end, code_endpos, code_filemode, code_first, code_flag, code_flags, code_given, code_heap, code_heappop, code_heappush, code_hour, code_hours, code_i, code_index, code_item, code_k, code_last, code_lastelt, code_law, code_many, code_mode, code_most, code_names, code_newitem, code_numbers, code_octets, code_parent, code_parentpos, code_perm, code_pos, code_pretty_flags, code_returnitem, code_rightpos, code_rights, code_row, code_rows, code_script, code_startpos, code_stretches, code_table, code_v, R.given]⟩
theorem GS.putrow (R : GS H0 r h g hp gv st) (v : AV) : GS H0 r h g hp gv (st.put (Str.ofString "row") v) := ⟨R.keep, R.hH, R.hG, by simp only [sSeq, sAssign, sRet, sFl, sIf, sExpr, eBin, eUn, eVar, eVal, eCall, eMeth, eBinG, esCons, esNil, eIf, tCmp, tNot, tAnd, tOr, tVal, tTrue, AS.put_get, AS.put_H, ne_code, isLst, isStr, if_true, if_false, eq_self, List.zip_cons_cons, List.zip_nil_right, locAfter, Nat.reduceBEq, Bool.false_eq_true, reduceCtorEq, code_COMPILER_FLAG_NAMES, code_S_IFMT, code__filemode_table, code__law_given, code__law_read, code__law_without, code__siftdown, code__siftup, code_begin, code_bit, code_char, code_childpos, code_counts, code_end, code_endpos, code_filemode, code_first, code_flag, code_flags, code_given, code_heap, code_heappop, code_heappush, code_hour, code_hours, code_i, code_index, code_item, code_k, code_last, code_lastelt, code_law, code_many, code_mode, code_most, code_names, code_newitem, code_numbers, code_octets, code_parent, code_parentpos, code_perm, code_pos, code_pretty_flags, code_returnitem, code_rightpos, code_rights, code_row, code_rows, code_script, code_startpos, code_stretches, code_table, code_v, R.rows], by simp only [sSeq, sAssign, sRet, sFl, sIf, sExpr, eBin, eUn, eVar, eVal, eCall, eMeth, eBinG, esCons, esNil, eIf, tCmp, tNot, tAnd, tOr, tVal, tTrue, AS.put_get, AS.put_H, ne_code, isLst, isStr, if_true, if_false, eq_self, List.zip_cons_cons, List.zip_nil_right, locAfter, Nat.reduceBEq, Bool.false_eq_true, reduceCtorEq, code_COMPILER_FLAG_NAMES, code_S_IFMT, code__filemode_table, code__law_given, code__law_read, code__law_without, code__siftdown, code__siftup, code_begin, code_bit, code_char, code_childpos, code_counts, code_end, code_endpos, code_filemode, code_first, code_flag, code_flags, code_given, code_heap, code_heappop, code_heappush, code_hour, code_hours, code_i, code_index, code_item, code_k, code_last, code_lastelt, code_law, code_many, code_mode, code_most, code_names, code_newitem, code_numbers, code_octets, code_parent, code_parentpos, code_perm, code_pos, code_pretty_flags, code_returnitem, code_rightpos, code_rights, code_row, code_rows, code_script, code_startpos, code_stretches, code_table, code_v, R.heap], by simp only [sSeq, sAssign, sRet, sFl, sIf, sExpr, eBin, eUn, eVar, eVal, eCall, eMeth, eBinG, esCons, esNil, eIf, tCmp, tNot, tAnd, tOr, tVal, tTrue, AS.put_get, AS.put_H, ne_code, isLst, isStr, if_true, if_false, eq_self, List.zip_cons_cons, List.zip_nil_right, locAfter, Nat.reduceBEq, Bool.false_eq_true, reduceCtorEq, code_COMPILER_FLAG_NAMES, code_S_IFMT, code__filemode_table, code__law_given, code__law_read, code__law_without, code__siftdown, code__siftup, code_begin, code_bit, code_char, code_childpos, code_counts, code_end, code_endpos, code_filemode, code_first, code_flag, code_flags, code_given, code_heap, code_heappop, code_heappush, code_hour, code_hours, code_i, code_index, code_item, code_k, code_last, code_lastelt, code_law, code_many, code_mode, code_most, code_names, code_newitem, code_numbers, code_octets, code_parent, code_parentpos, code_perm, code_pos, code_pretty_flags, code_returnitem, code_rightpos, code_rights, code_row, code_rows, code_script, code_startpos, code_stretches, code_table, code_v, R.given]⟩
theorem GS.puthour (R : GS H0 r h g hp gv st) (v : AV) : GS H0 r h g hp gv (st.put (Str.ofString "hour") v) := ⟨R.keep, R.hH, R.hG, by simp only [sSeq, sAssign, sRet, sFl, sIf, sExpr, eBin, eUn, eVar, eVal, eCall, eMeth, eBinG, esCons, esNil, eIf, tCmp, tNot, tAnd, tOr, tVal, tTrue, AS.put_get, AS.put_H, ne_code, isLst, isStr, if_true, if_false, eq_self, List.zip_cons_cons, List.zip_nil_right, locAfter, Nat.reduceBEq, Bool.false_eq_true, reduceCtorEq, code_COMPILER_FLAG_NAMES, code_S_IFMT, code__filemode_table, code__law_given, code__law_read, code__law_without, code__siftdown, code__siftup, code_begin, code_bit, code_char, code_childpos, code_counts, code_end, code_endpos, code_filemode, code_first, code_flag, code_flags, code_given, code_heap, code_heappop, code_heappush, code_hour, code_hours, code_i, code_index, code_item, code_k, code_last, code_lastelt, code_law, code_many, code_mode, code_most, code_names, code_newitem, code_numbers, code_octets, code_parent, code_parentpos, code_perm, code_pos, code_pretty_flags, code_returnitem, code_rightpos, code_rights, code_row, code_rows, code_script, code_startpos, code_stretches, code_table, code_v, R.rows], by simp only [sSeq, sAssign, sRet, sFl, sIf, sExpr, eBin, eUn, eVar, eVal, eCall, eMeth, eBinG, esCons, esNil, eIf, tCmp, tNot, tAnd, tOr, tVal, tTrue, AS.put_get, AS.put_H, ne_code, isLst, isStr, if_true, if_false, eq_self, List.zip_cons_cons, List.zip_nil_right, locAfter, Nat.reduceBEq, Bool.false_eq_true, reduceCtorEq, code_COMPILER_FLAG_NAMES, code_S_IFMT, code__filemode_table, code__law_given, code__law_read, code__law_without, code__siftdown, code__siftup, code_begin, code_bit, code_char, code_childpos, code_counts, code_end, code_endpos, code_filemode, code_first, code_flag, code_flags, code_given, code_heap, code_heappop, code_heappush, code_hour, code_hours, code_i, code_index, code_item, code_k, code_last, code_lastelt, code_law, code_many, code_mode, code_most, code_names, code_newitem, code_numbers, code_octets, code_parent, code_parentpos, code_perm, code_pos, code_pretty_flags, code_returnitem, code_rightpos, code_rights, code_row, code_rows, code_script, code_startpos, code_stretches, code_table, code_v, R.heap], by simp only [sSeq, sAssign, sRet, sFl, sIf, sExpr, eBin, eUn, eVar, eVal, eCall, eMeth, eBinG, esCons, esNil, eIf, tCmp, tNot, tAnd, tOr, tVal, tTrue, AS.put_get, AS.put_H, ne_code, isLst, isStr, if_true, if_false, eq_self, List.zip_cons_cons, List.zip_nil_right, locAfter, Nat.reduceBEq, Bool.false_eq_true, reduceCtorEq, code_COMPILER_FLAG_NAMES, code_S_IFMT, code__filemode_table, code__law_given, code__law_read, code__law_without, code__siftdown, code__siftup, code_begin, code_bit, code_char, code_childpos, code_counts, code_end, code_endpos, code_filemode, code_first, code_flag, code_flags, code_given, code_heap, code_heappop, code_heappush, code_hour, code_hours, code_i, code_index, code_item, code_k, code_last, code_lastelt, code_law, code_many, code_mode, code_most, code_names, code_newitem, code_numbers, code_octets, code_parent, code_parentpos, code_perm, code_pos, code_pretty_flags, code_returnitem, code_rightpos, code_rights, code_row, code_rows, code_script, code_startpos, code_stretches, code_table, code_v, R.given]⟩
end
theorem oItem_str {x : Str} {c : Nat} (H : List (List AV)) (i : Nat) (hi : i < 1000000) (hc : x.cps[i]? = some c) : oItem H (.str x) (.int i) = some (.str ⟨#[c]⟩) := by
  have h1 : (0 : Int) ≤ (i : Int) ∧ (i : Int) < 1000000 := ⟨by (first | lia | omega), by (first | lia | omega)⟩
  have h2 : (i : Int).toNat = i := Int.toNat_natCast i
  generalize (i : Int) = k at h1 h2
  subst h2
  unfold oItem
  dsimp only
  rw [if_pos h1, hc]
theorem row_char (H : List (List AV)) {a b x : Nat} {w : Str} (hw : ∀ x, x < 9 → w.cps[1 + x]? = some (if a ≤ x ∧ x < b then rwx x else 45)) (hx : x < 9) :
    oItem H (.str w) (.int ((x : Nat) + 1 : Int)) = some (.str ⟨#[if a ≤ x ∧ x < b then rwx x else 45]⟩) := by
  have := oItem_str H (1 + x) (by (first | lia | omega)) (hw x hx)
  rw [show ((x : Int) + 1) = ((1 + x : Nat) : Int) by (first | lia | omega)]
  exact this
theorem beq_dash {a b x : Nat} : ((⟨#[if a ≤ x ∧ x < b then rwx x else 45]⟩ : Str) == (Str.ofString "-")) = !(decide (a ≤ x ∧ x < b)) := by
  by_cases q : a ≤ x ∧ x < b
  · rw [if_pos q, decide_eq_true q, beq_eq_false_iff_ne.mpr (rwx_ne x)]; rfl
  · rw [if_neg q, decide_eq_false q, dash]; exact beq_self_eq_true _
theorem tOr_row (st : AS) (T : Int) (w c2 : Str) (b : Bool) (hrow : st.loc (Str.ofString "row") = some (.str w)) (hhour : st.loc (Str.ofString "hour") = some (.int T)) (hz : (T == 0) = false) (e2 : oItem st.H (.str w) (.int T) = some (.str c2)) (q3 : (c2 == (Str.ofString "-")) = b) :
  tOr (tCmp (cInt fun a b => a == b) (eVar (Str.ofString "hour")) (eVal (.int 0))) (tCmp (cStr fun a b => a == b) (eBin oItem (eVar (Str.ofString "row")) (eVar (Str.ofString "hour"))) (eVal (.str (Str.ofString "-")))) st = some (b, st) := by
  simp only [tOr, tCmp, eVar, eVal, eBin, hrow, hhour, cInt_i, hz, e2, cStr_s, q3]
theorem given_row {H0 : List (List AV)} {r h g : Nat} {hp : List K2} {gv : List Nat} {st : AS} {J : Jb} {t j a b : Nat} {w : Str} (R : GS H0 r h g hp gv st) (hJ : JOk J) (hj : J[j]? = some (a, b)) (ht : t < 9)
    (h1 : H0.length ≤ h) (h2 : h ≠ g) (hhour : st.loc (Str.ofString "hour") = some (.int t)) (I : HInv J t (relJ J t j) hp gv) (S : SInv J t gv) (hk : st.loc (Str.ofString "k") = some (.int j)) (hrow : st.loc (Str.ofString "row") = some (.str w)) (hw : ∀ x, x < 9 → w.cps[1 + x]? = some (if a ≤ x ∧ x < b then rwx x else 45))
    (hcnt : gSCount [.str w, .str (Str.ofString "-")] st.H = some (.int ((10 - (b - a) : Nat) : Int), st.H)) :
    ∃ st' hp', bGiven_f1_b st = some (.next, st') ∧ GS H0 r h g hp' gv st' ∧ st'.loc (Str.ofString "hour") = some (.int t) ∧ HInv J t (relJ J t (j + 1)) hp' gv := by
  have hab := hJ.1 (a, b) (List.mem_of_getElem? hj)
  dsimp only at hab
  have e1 := row_char st.H hw ht
  have e1 : oItem st.H (.str w) (.int (1 + (t : Int))) = some (.str ⟨#[if a ≤ t ∧ t < b then rwx t else 45]⟩) := by
    rw [Int.add_comm]; exact e1
  obtain ⟨k1, ha1, e1⟩ : ∃ k1 : Int, oInt fAdd st.H (.int 1) (.int t) = some (.int k1) ∧ oItem st.H (.str w) (.int k1) = some (.str ⟨#[if a ≤ t ∧ t < b then rwx t else 45]⟩) := ⟨_, oAdd _ _ _, e1⟩
  have hlen := I.len
  have hpush := gHPush_eq (p := kb b j) R.hH (by have := hJ.2; (first | lia | omega))
  by_cases hin : a ≤ t ∧ t < b
  · have q1 : ((⟨#[if a ≤ t ∧ t < b then rwx t else 45]⟩ : Str) != (Str.ofString "-")) = true := by
      show (!(_ == _)) = true
      rw [beq_dash, decide_eq_true hin]; rfl
    generalize (⟨#[if a ≤ t ∧ t < b then rwx t else 45]⟩ : Str) = c1 at e1 q1
    by_cases hat : a = t
    · have q2 : tOr (tCmp (cInt fun a b => a == b) (eVar (Str.ofString "hour")) (eVal (.int 0))) (tCmp (cStr fun a b => a == b) (eBin oItem (eVar (Str.ofString "row")) (eVar (Str.ofString "hour"))) (eVal (.str (Str.ofString "-")))) st = some (true, st) := by
        rcases Nat.eq_zero_or_pos t with h0 | h0
        · have hz : ((t : Int) == 0) = true := by rw [h0]; rfl
          simp only [sSeq, sAssign, sRet, sFl, sIf, sExpr, eBin, eUn, eVar, eVal, eCall, eMeth, eBinG, esCons, esNil, eIf, tCmp, tNot, tAnd, tOr, tVal, tTrue, AS.put_get, AS.put_H, ne_code, isLst, isStr, if_true, if_false, eq_self, List.zip_cons_cons, List.zip_nil_right, locAfter, Nat.reduceBEq, Bool.false_eq_true, reduceCtorEq, code_COMPILER_FLAG_NAMES, code_S_IFMT, code__filemode_table, code__law_given, code__law_read, code__law_without, code__siftdown, code__siftup, code_begin, code_bit, code_char, code_childpos, code_counts, code_end, code_endpos, code_filemode, code_first, code_flag, code_flags, code_given, code_heap, code_heappop, code_heappush, code_hour, code_hours, code_i, code_index, code_item, code_k, code_last, code_lastelt, code_law, code_many, code_mode, code_most, code_names, code_newitem, code_numbers, code_octets, code_parent, code_parentpos, code_perm, code_pos, code_pretty_flags, code_returnitem, code_rightpos, code_rights, code_row, code_rows, code_script, code_startpos, code_stretches, code_table, code_v, hhour, cInt_i, hz]
        · have hz : ((t : Int) == 0) = false := by rw [beq_eq_false_iff_ne]; (first | lia | omega)
          have e2 := row_char st.H hw (show t - 1 < 9 by (first | lia | omega))
          rw [show (((t - 1 : Nat) : Int) + 1) = (t : Int) by (first | lia | omega)] at e2
          have q3 : ((⟨#[if a ≤ t - 1 ∧ t - 1 < b then rwx (t - 1) else 45]⟩ : Str) == (Str.ofString "-")) = true := by
            rw [beq_dash, decide_eq_false (by (first | lia | omega))]; rfl
          generalize (⟨#[if a ≤ t - 1 ∧ t - 1 < b then rwx (t - 1) else 45]⟩ : Str) = c2 at e2 q3
          exact tOr_row st (t : Int) w c2 true hrow hhour hz e2 q3
      have harith : ((t : Int) + 10) - ((10 - (b - a) : Nat) : Int) = (b : Int) := by (first | lia | omega)
      have htup : gTuple [.int (b : Int), .int (j : Int)] st.H = some (P2 (kb b j), st.H) := rfl
      refine ⟨{ st with H := st.H.set h ((downGo (kb b j) 100 (hp ++ [kb b j]) hp.length).map P2) }, _, ?_, R.setH h1 h2, hhour, I.push S hj hat (by have := hJ.2; (first | lia | omega))⟩
      simp only [bGiven_f1_b, sIf, tAnd, tCmp, eBin, eVar, hrow, hhour, eVal, ha1, e1, cStr_s, q1, q2]
      simp only [sSeq, sAssign, sRet, sFl, sIf, sExpr, eBin, eUn, eVar, eVal, eCall, eMeth, eBinG, esCons, esNil, eIf, tCmp, tNot, tAnd, tOr, tVal, tTrue, AS.put_get, AS.put_H, ne_code, isLst, isStr, if_true, if_false, eq_self, List.zip_cons_cons, List.zip_nil_right, locAfter, Nat.reduceBEq, Bool.false_eq_true, reduceCtorEq, code_COMPILER_FLAG_NAMES, code_S_IFMT, code__filemode_table, code__law_given, code__law_read, code__law_without, code__siftdown, code__siftup, code_begin, code_bit, code_char, code_childpos, code_counts, code_end, code_endpos, code_filemode, code_first, code_flag, code_flags, code_given, code_heap, code_heappop, code_heappush, code_hour, code_hours, code_i, code_index, code_item, code_k, code_last, code_lastelt, code_law, code_many, code_mode, code_most, code_names, code_newitem, code_numbers, code_octets, code_parent, code_parentpos, code_perm, code_pos, code_pretty_flags, code_returnitem, code_rightpos, code_rights, code_row, code_rows, code_script, code_startpos, code_stretches, code_table, code_v, R.heap, hhour, oAdd, hrow, hcnt, oSub, harith, hk, htup, hpush]
    · have h0 : 0 < t := by (first | lia | omega)
      have hz : ((t : Int) == 0) = false := by rw [beq_eq_false_iff_ne]; (first | lia | omega)
      have e2 := row_char st.H hw (show t - 1 < 9 by (first | lia | omega))
      rw [show (((t - 1 : Nat) : Int) + 1) = (t : Int) by (first | lia | omega)] at e2
      have q3 : ((⟨#[if a ≤ t - 1 ∧ t - 1 < b then rwx (t - 1) else 45]⟩ : Str) == (Str.ofString "-")) = false := by
        rw [beq_dash, decide_eq_true (by (first | lia | omega))]; rfl
      generalize (⟨#[if a ≤ t - 1 ∧ t - 1 < b then rwx (t - 1) else 45]⟩ : Str) = c2 at e2 q3
      refine ⟨st, hp, ?_, R, hhour, I.skip hj hat⟩
      have q2 := tOr_row st (t : Int) w c2 false hrow hhour hz e2 q3
      simp only [bGiven_f1_b, sIf, tAnd, tCmp, eBin, eVar, hrow, hhour, eVal, ha1, e1, cStr_s, q1, q2, sFl]
  · have q1 : ((⟨#[if a ≤ t ∧ t < b then rwx t else 45]⟩ : Str) != (Str.ofString "-")) = false := by
      show (!(_ == _)) = false
      rw [beq_dash, decide_eq_false hin]; rfl
    generalize (⟨#[if a ≤ t ∧ t < b then rwx t else 45]⟩ : Str) = c1 at e1 q1
    refine ⟨st, hp, ?_, R, hhour, I.skip hj (by (first | lia | omega))⟩
    simp only [sSeq, sAssign, sRet, sFl, sIf, sExpr, eBin, eUn, eVar, eVal, eCall, eMeth, eBinG, esCons, esNil, eIf, tCmp, tNot, tAnd, tOr, tVal, tTrue, AS.put_get, AS.put_H, ne_code, isLst, isStr, if_true, if_false, eq_self, List.zip_cons_cons, List.zip_nil_right, locAfter, Nat.reduceBEq, Bool.false_eq_true, reduceCtorEq, code_COMPILER_FLAG_NAMES, code_S_IFMT, code__filemode_table, code__law_given, code__law_read, code__law_without, code__siftdown, code__siftup, code_begin, code_bit, code_char, code_childpos, code_counts, code_end, code_endpos, code_filemode, code_first, code_flag, code_flags, code_given, code_heap, code_heappop, code_heappush, code_hour, code_hours, code_i, code_index, code_item, code_k, code_last, code_lastelt, code_law, code_many, code_mode, code_most, code_names, code_newitem, code_numbers, code_octets, code_parent, code_parentpos, code_perm, code_pos, code_pretty_flags, code_returnitem, code_rightpos, code_rights, code_row, code_rows, code_script, code_startpos, code_stretches, code_table, code_v, bGiven_f1_b, hrow, hhour, ha1, e1, cStr_s, q1]
theorem given_rows {H0 : List (List AV)} {r h g : Nat} {hp : List K2} {gv : List Nat} {st : AS} {J : Jb} {t : Nat} (R : GS H0 r h g hp gv st) (hJ : JOk J) (hr : H0[r]? = some (rowsOf J)) (ht : t < 9)
    (h1 : H0.length ≤ h) (h2 : h ≠ g) (hhour : st.loc (Str.ofString "hour") = some (.int t)) (I : HInv J t (relJ J t 0) hp gv) (S : SInv J t gv) :
    ∃ st' hp', sFor 100 (iEnum (eVar (Str.ofString "rows"))) (tgPair (Str.ofString "k") (Str.ofString "row")) bGiven_f1_b (sFl .next) st = some (.next, st') ∧ GS H0 r h g hp' gv st' ∧ st'.loc (Str.ofString "hour") = some (.int t) ∧ HInv J t (relJ J (t + 1) 0) hp' gv := by
  have hrl : r < H0.length := lt_of_get hr
  have hloop := for_any (tg := tgPair (Str.ofString "k") (Str.ofString "row")) (b := bGiven_f1_b) (els := sFl .next) (fun j => .en r j) (fun j => .tuple [.int j, .str (rowStr (J.getD j (0, 0)).1 (J.getD j (0, 0)).2)]) J.length
    (fun j s => ∃ hp', GS H0 r h g hp' gv s ∧ s.loc (Str.ofString "hour") = some (.int t) ∧ HInv J t (relJ J t j) hp' gv) (fun _ => False)
    (fun j s hj hP => by
      obtain ⟨hp', R', _⟩ := hP
      refine en_next ((R'.keep r hrl).trans hr) ?_
      unfold rowsOf
      rw [List.getElem?_map, List.getD_eq_getElem?_getD, List.getElem?_eq_getElem hj]; rfl)
    (fun s hP => by
      obtain ⟨hp', R', _⟩ := hP
      have := en_end ((R'.keep r hrl).trans hr)
      unfold rowsOf at this
      rw [List.length_map] at this; exact this)
    (fun j s hj hP => by
      obtain ⟨hp', R', c1, c2⟩ := hP
      have hget : J[j]? = some (J.getD j (0, 0)) := by rw [List.getD_eq_getElem?_getD, List.getElem?_eq_getElem hj]; rfl
      generalize J.getD j (0, 0) = e at hget
      obtain ⟨a, b⟩ := e
      have hab := hJ.1 (a, b) (List.mem_of_getElem? hget)
      dsimp only at hab
      obtain ⟨st', hp'', d1, d2, d3, d4⟩ := given_row (st := (s.put (Str.ofString "k") (.int j)).put (Str.ofString "row") (.str (rowStr a b))) ((R'.putk _).putrow _) hJ hget ht h1 h2 (by (first | exact c1 | exact loc_o c1 (by decide) | exact loc_o (loc_o c1 (by decide)) (by decide))) c2 S (by (first | exact put_same _ _ _ | exact loc_o (put_same _ _ _) (by decide) | exact loc_o (loc_o (put_same _ _ _) (by decide)) (by decide))) (by (first | exact put_same _ _ _ | exact loc_o (put_same _ _ _) (by decide) | exact loc_o (loc_o (put_same _ _ _) (by decide)) (by decide))) (fun x hx => row_at hab.1 hab.2 hx) (row_count hab.1 hab.2 _)
      exact ⟨(s.put (Str.ofString "k") (.int j)).put (Str.ofString "row") (.str (rowStr a b)), st', rfl, .inl ⟨.inl d1, hp'', d2, d3, d4⟩⟩)
    J.length 0 st 100 (by (first | lia | omega)) ⟨hp, R, hhour, I⟩ (by have := hJ.2; (first | lia | omega))
  obtain ⟨st', hst⟩ := hloop
  rcases hst with ⟨⟨hp', R', c1, c2⟩, e⟩ | ⟨h, _⟩
  · refine ⟨st', hp', ?_, R', c1, c2.congr fun k a b hk => ?_⟩
    · unfold sFor
      have : iEnum (eVar (Str.ofString "rows")) st = some (.en r 0, st) := by simp only [iEnum, eVar, R.rows]
      rw [this]
      exact e
    · have hkl := (List.getElem?_eq_some_iff.mp hk).1
      unfold relJ
      constructor
      · rintro ⟨a2, b2, e1, e2⟩
        exact ⟨a2, b2, e1, .inl (by (first | lia | omega))⟩
      · rintro ⟨a2, b2, e1, e2⟩
        refine ⟨a2, b2, e1, ?_⟩
        rcases e2 with e2 | ⟨_, e2⟩ <;> (first | lia | omega)
  · exact h.elim
end Mine
end
/-! ## part FW30 -/
section
open PySem PySem.W PyProof.Rows PySem.Calls
set_option bootstrap.genMatcherCode false
namespace Mine
theorem cNeL_eq {H : List (List AV)} {l m : Nat} {xs : List AV} (h1 : H[l]? = some xs) (h2 : H[m]? = some []) : cNeL H (.lst l) (.lst m) = some (!xs.isEmpty) := by
  simp only [cNeL, h1, h2]
  cases xs with
  | nil => rfl
  | cons x xs => rfl
theorem oItem_P2_0 (H : List (List AV)) (p : K2) : oItem H (P2 p) (.int 0) = some (.int p.1) := rfl
theorem oItem_P2_1 (H : List (List AV)) (p : K2) : oItem H (P2 p) (.int 1) = some (.int p.2) := rfl
theorem oItem_0 {H : List (List AV)} {l : Nat} {x : AV} {xs : List AV} (h : H[l]? = some (x :: xs)) : oItem H (.lst l) (.int 0) = some x := by
  have := oItem_nat h 0 (by decide)
  exact this
theorem get_new (H : List (List AV)) (x : List AV) : (H ++ [x])[H.length]? = some x := by rw [List.getElem?_append_right (Nat.le_refl _)]; simp
theorem gList_eq (args : List AV) (H : List (List AV)) : gList args H = some (.lst H.length, H ++ [args]) := rfl
noncomputable def topLe (t : Nat) : List K2 → Bool
  | [] => false
  | p :: _ => decide (p.1 ≤ (t : Int))
/-- the while's test -/
theorem wtest {H0 : List (List AV)} {r h g : Nat} {hp : List K2} {gv : List Nat} {st : AS} {t : Nat} (R : GS H0 r h g hp gv st) (hhour : st.loc (Str.ofString "hour") = some (.int t)) :
    bGiven_w2_t st = some (topLe t hp, { st with H := st.H ++ [[]] }) := by
  have R' := R.app []
  have e0 := cNeL_eq R'.hH (get_new st.H [])
  cases hp with
  | nil =>
    have e0 : cNeL (st.H ++ [[]]) (.lst h) (.lst st.H.length) = some false := e0
    simp only [bGiven_w2_t, tAnd, tCmp, eVar, R.heap, eCall, esNil, gList_eq, e0, topLe]
  | cons p rest =>
    have e0 : cNeL (st.H ++ [[]]) (.lst h) (.lst st.H.length) = some true := e0
    have e1 : oItem (st.H ++ [[]]) (.lst h) (.int 0) = some (P2 p) := oItem_0 R'.hH
    simp only [bGiven_w2_t, tAnd, tCmp, eVar, R.heap, eCall, esNil, gList_eq, e0, eBin, eVal, e1, oItem_P2_0, hhour, cInt_i, topLe]
theorem pop_split {hp : List K2} {p : K2} {rest : List K2} (h : hp = p :: rest) (hH : HeapP hp) (hlen : hp.length ≤ 90) :
    ∃ ps q, hp = ps ++ [q] ∧ ps.length < 90 ∧ HeapP (hpop ps q).2 ∧ (p :: (hpop ps q).2).Perm hp ∧ (hpop ps q).1 = p ∧ ∀ x ∈ hp, le2 p x := by
  have hne : hp ≠ [] := by rw [h]; simp
  have hs := List.dropLast_concat_getLast hne
  have hl : hp.dropLast.length < 90 := by
    rw [List.length_dropLast]
    have : 0 < hp.length := List.length_pos_iff.mpr hne
    (first | lia | omega)
  have hp' := pop_heap (ps := hp.dropLast) (q := hp.getLast hne) (by rw [hs]; exact hH) hl
  rw [hs] at hp'
  have h0 : at_ hp 0 = p := by rw [h]; rfl
  rw [h0] at hp'
  refine ⟨hp.dropLast, hp.getLast hne, hs.symm, hl, hp'.1, by rw [← hp'.2.2]; exact hp'.2.1, hp'.2.2, fun x hx => ?_⟩
  obtain ⟨i, hi, rfl⟩ := List.getElem_of_mem hx
  have := heap_min hH i hi
  rw [h0] at this
  have e : at_ hp i = hp[i] := by unfold at_; rw [List.getD_eq_getElem?_getD, List.getElem?_eq_getElem hi]; rfl
  rw [e] at this
  exact this
theorem given_drop {H0 : List (List AV)} {r h g : Nat} {gv : List Nat} {J : Jb} {t : Nat} (hJ : JOk J) (h1 : H0.length ≤ h) (h2 : h ≠ g) :
    ∀ (n fuel : Nat) (hp : List K2) (st : AS), hp.length ≤ n → n < fuel → GS H0 r h g hp gv st → st.loc (Str.ofString "hour") = some (.int t) → HInv J t (relJ J (t + 1) 0) hp gv →
    ∃ st' hp', sWhile bGiven_w2_t bGiven_w2_b fuel st = some (.next, st') ∧ GS H0 r h g hp' gv st' ∧ st'.loc (Str.ofString "hour") = some (.int t) ∧ HInv J t (relJ J (t + 1) 0) hp' gv ∧ (∀ p rest, hp' = p :: rest → ¬ p.1 ≤ (t : Int)) := by
  intro n
  induction n with
  | zero =>
    intro fuel hp st hn hf R hhour I
    cases fuel with
    | zero => (first | lia | omega)
    | succ fuel =>
      have : hp = [] := List.length_eq_zero_iff.mp (by (first | lia | omega))
      subst this
      have ht := wtest R hhour
      have ht : bGiven_w2_t st = some (false, { st with H := st.H ++ [[]] }) := ht
      exact ⟨_, [], by simp only [sWhile, ht], R.app [], hhour, I, fun p rest e => by cases e⟩
  | succ n ih =>
    intro fuel hp st hn hf R hhour I
    cases fuel with
    | zero => (first | lia | omega)
    | succ fuel =>
      have ht := wtest R hhour
      cases hhp : hp with
      | nil =>
        subst hhp
        have ht : bGiven_w2_t st = some (false, { st with H := st.H ++ [[]] }) := ht
        exact ⟨_, [], by simp only [sWhile, ht], R.app [], hhour, I, fun p rest e => by cases e⟩
      | cons p rest =>
        have ht : bGiven_w2_t st = some (decide (p.1 ≤ (t : Int)), { st with H := st.H ++ [[]] }) := by rw [ht, hhp]; rfl
        have hlen := I.len
        have hj := hJ.2
        by_cases hle : p.1 ≤ (t : Int)
        · rw [decide_eq_true hle] at ht
          obtain ⟨ps, q, e1, e2, e3, e4, e5, e6⟩ := pop_split hhp I.heap (by (first | lia | omega))
          have R1 := R.app []
          have hpp := gHPop_eq (by rw [← e1]; exact R1.hH) e2
          have hb : bGiven_w2_b { st with H := st.H ++ [[]] } = some (.next, { st with H := (st.H ++ [[]]).set h ((hpop ps q).2.map P2) }) := by
            simp only [bGiven_w2_b, sExpr, eCall, esCons, esNil, eVar, R.heap, hpp]
          obtain ⟨st', hp', g1, g2, g3, g4, g5⟩ := ih fuel (hpop ps q).2 { st with H := (st.H ++ [[]]).set h ((hpop ps q).2.map P2) } (by
            have := e4.length_eq
            simp only [List.length_cons] at this
            (first | lia | omega)) (by (first | lia | omega)) (R1.setH h1 h2) hhour (I.drop e3 e4 hle)
          refine ⟨st', hp', ?_, g2, g3, g4, g5⟩
          simp only [sWhile, ht, hb]
          exact g1
        · rw [decide_eq_false hle] at ht
          refine ⟨_, hp, by simp only [sWhile, ht], R.app [], hhour, I, fun p' rest' e => ?_⟩
          rw [hhp] at e; cases e
          exact hle
theorem sSetIdx_ok' {o i v : EM} {st s1 s2 s3 : AS} {y : AV} {l k : Nat} {xs : List AV} (hv : v st = some (y, s1)) (ho : o s1 = some (.lst l, s2)) (hi : i s2 = some (.int k, s3)) (hx : s3.H[l]? = some xs) (hk : k < xs.length) (hn : xs.length ≤ 1000000) :
    sSetIdx o i v st = some (.next, { s3 with H := s3.H.set l (xs.set k y) }) := sSetIdx_ok hv ho hi hx hk hn
theorem given_serve {H0 : List (List AV)} {r h g : Nat} {hp : List K2} {gv : List Nat} {J : Jb} {t : Nat} {st : AS} (hJ : JOk J) (h1 : H0.length ≤ h) (h1' : H0.length ≤ g) (h2 : h ≠ g) (ht9 : t < 9)
    (R : GS H0 r h g hp gv st) (hhour : st.loc (Str.ofString "hour") = some (.int t)) (I : HInv J t (relJ J (t + 1) 0) hp gv) (S : SInv J t gv) (hex : ∀ p rest, hp = p :: rest → ¬ p.1 ≤ (t : Int)) :
    ∃ st' hp' gv', sIf (tCmp cNeL (eVar (Str.ofString "heap")) (eCall gList esNil)) (sSetIdx (eVar (Str.ofString "given")) (eBin oItem (eCall gHPop (esCons (eVar (Str.ofString "heap")) esNil)) (eVal (.int 1))) (eVar (Str.ofString "hour"))) (sFl .next) st = some (.next, st') ∧
      GS H0 r h g hp' gv' st' ∧ HInv J (t + 1) (relJ J (t + 1) 0) hp' gv' ∧ SInv J (t + 1) gv' := by
  have R' := R.app []
  have e0 := cNeL_eq R'.hH (get_new st.H [])
  have ht : tCmp cNeL (eVar (Str.ofString "heap")) (eCall gList esNil) st = some (!(hp.map P2).isEmpty, { st with H := st.H ++ [[]] }) := by
    simp only [tCmp, eVar, R.heap, eCall, esNil, gList_eq, e0]
  cases hhp : hp with
  | nil =>
    subst hhp
    obtain ⟨i1, i2⟩ := idle I S ht9
    refine ⟨{ st with H := st.H ++ [[]] }, [], gv, ?_, R', i1, i2⟩
    rw [sIf.eq_1, ht]
    rfl
  | cons p rest =>
    have hlen := I.len
    have hj := hJ.2
    obtain ⟨ps, q, e1, e2, e3, e4, e5, e6⟩ := pop_split hhp I.heap (by (first | lia | omega))
    have hpp := gHPop_eq (by rw [← e1]; exact R'.hH) e2
    rw [e5] at hpp
    obtain ⟨k, k1, k2, k3, k4⟩ := serve I S e3 e4 e6 (hex p rest hhp) ht9
    have R2 : GS H0 r h g (hpop ps q).2 gv { st with H := (st.H ++ [[]]).set h ((hpop ps q).2.map P2) } := R'.setH h1 h2
    have hi : eBin oItem (eCall gHPop (esCons (eVar (Str.ofString "heap")) esNil)) (eVal (.int 1)) { st with H := st.H ++ [[]] } = some (.int k, { st with H := (st.H ++ [[]]).set h ((hpop ps q).2.map P2) }) := by
      simp only [eBin, eCall, esCons, esNil, eVar, R.heap, hpp, eVal, oItem_P2_1, k1]
    have hset := sSetIdx_ok' (o := eVar (Str.ofString "given")) (i := eBin oItem (eCall gHPop (esCons (eVar (Str.ofString "heap")) esNil)) (eVal (.int 1))) (v := eVar (Str.ofString "hour")) (st := { st with H := st.H ++ [[]] }) (s1 := { st with H := st.H ++ [[]] }) (s2 := { st with H := st.H ++ [[]] }) (y := .int t) (l := g) (k := k)
      (by simp only [eVar, hhour]) (by simp only [eVar, R.given]) hi R2.hG (by unfold natsAV; rw [List.length_map]; exact k2) (by unfold natsAV; rw [List.length_map, S.len]; (first | lia | omega))
    have hns : (natsAV gv).set k (.int (t : Int)) = natsAV (gv.set k t) := by unfold natsAV; rw [List.map_set]
    rw [hns] at hset
    refine ⟨_, _, _, ?_, R2.setG (gv' := gv.set k t) h1' h2, k3, k4⟩
    rw [sIf.eq_1, ht, hhp]
    exact hset
theorem given_hour {H0 : List (List AV)} {r h g : Nat} {hp : List K2} {gv : List Nat} {J : Jb} {t : Nat} {st : AS} (hJ : JOk J) (hr : H0[r]? = some (rowsOf J)) (h1 : H0.length ≤ h) (h1' : H0.length ≤ g) (h2 : h ≠ g) (ht9 : t < 9)
    (R : GS H0 r h g hp gv st) (hhour : st.loc (Str.ofString "hour") = some (.int t)) (I : HInv J t (relJ J t 0) hp gv) (S : SInv J t gv) :
    ∃ st' hp' gv', bGiven_f3_b st = some (.next, st') ∧ GS H0 r h g hp' gv' st' ∧ HInv J (t + 1) (relJ J (t + 1) 0) hp' gv' ∧ SInv J (t + 1) gv' := by
  obtain ⟨s1, p1, a1, a2, a3, a4⟩ := given_rows R hJ hr ht9 h1 h2 hhour I S
  have hlen := a4.len
  have hj := hJ.2
  obtain ⟨s2, p2, b1, b2, b3, b4, b5⟩ := given_drop hJ h1 h2 50 100 p1 s1 (by (first | lia | omega)) (by decide) a2 a3 a4
  obtain ⟨s3, p3, g3, c1, c2, c3, c4⟩ := given_serve hJ h1 h1' h2 ht9 b2 b3 b4 S b5
  refine ⟨s3, p3, g3, ?_, c2, c3, c4⟩
  unfold bGiven_f3_b
  rw [sSeq_next a1, sSeq_next b1, c1]
theorem gGiven_eq {H : List (List AV)} {r : Nat} {J : Jb} (hJ : JOk J) (hr : H[r]? = some (rowsOf J)) :
    ∃ H' g gv, gGiven [.lst r] H = some (.lst g, H') ∧ (∀ i, i < H.length → H'[i]? = H[i]?) ∧ H'[g]? = some (natsAV gv) ∧ SInv J 9 gv ∧ H.length ≤ g := by
  have hrl := lt_of_get hr
  generalize hst : (⟨locAfter ([(Str.ofString "rows")].zip [.lst r]) (fun _ => none), H⟩ : AS) = st
  have a1 : st.loc (Str.ofString "rows") = some (.lst r) := by rw [← hst]; simp only [sSeq, sAssign, sRet, sFl, sIf, sExpr, eBin, eUn, eVar, eVal, eCall, eMeth, eBinG, esCons, esNil, eIf, tCmp, tNot, tAnd, tOr, tVal, tTrue, AS.put_get, AS.put_H, ne_code, isLst, isStr, if_true, if_false, eq_self, List.zip_cons_cons, List.zip_nil_right, locAfter, Nat.reduceBEq, Bool.false_eq_true, reduceCtorEq, code_COMPILER_FLAG_NAMES, code_S_IFMT, code__filemode_table, code__law_given, code__law_read, code__law_without, code__siftdown, code__siftup, code_begin, code_bit, code_char, code_childpos, code_counts, code_end, code_endpos, code_filemode, code_first, code_flag, code_flags, code_given, code_heap, code_heappop, code_heappush, code_hour, code_hours, code_i, code_index, code_item, code_k, code_last, code_lastelt, code_law, code_many, code_mode, code_most, code_names, code_newitem, code_numbers, code_octets, code_parent, code_parentpos, code_perm, code_pos, code_pretty_flags, code_returnitem, code_rightpos, code_rights, code_row, code_rows, code_script, code_startpos, code_stretches, code_table, code_v]
  have aH : st.H = H := by rw [← hst]
  have e0 : bGiven_0 st = some (.next, AS.put { st with H := H ++ [[]] } (Str.ofString "heap") (.lst H.length)) := by
    simp only [sSeq, sAssign, sRet, sFl, sIf, sExpr, eBin, eUn, eVar, eVal, eCall, eMeth, eBinG, esCons, esNil, eIf, tCmp, tNot, tAnd, tOr, tVal, tTrue, AS.put_get, AS.put_H, ne_code, isLst, isStr, if_true, if_false, eq_self, List.zip_cons_cons, List.zip_nil_right, locAfter, Nat.reduceBEq, Bool.false_eq_true, reduceCtorEq, code_COMPILER_FLAG_NAMES, code_S_IFMT, code__filemode_table, code__law_given, code__law_read, code__law_without, code__siftdown, code__siftup, code_begin, code_bit, code_char, code_childpos, code_counts, code_end, code_endpos, code_filemode, code_first, code_flag, code_flags, code_given, code_heap, code_heappop, code_heappush, code_hour, code_hours, code_i, code_index, code_item, code_k, code_last, code_lastelt, code_law, code_many, code_mode, code_most, code_names, code_newitem, code_numbers, code_octets, code_parent, code_parentpos, code_perm, code_pos, code_pretty_flags, code_returnitem, code_rightpos, code_rights, code_row, code_rows, code_script, code_startpos, code_stretches, code_table, code_v, bGiven_0, gList_eq, aH]
  have hlen : gLen [.lst r] (H ++ [[]] ++ [[.int 9]]) = some (.int J.length, H ++ [[]] ++ [[.int 9]]) := by
    have : (H ++ [[]] ++ [[.int 9]])[r]? = some (rowsOf J) := by
      rw [List.getElem?_append_left (by simp; (first | lia | omega)), List.getElem?_append_left hrl]; exact hr
    have h2 := gLen_eq this (by unfold rowsOf; rw [List.length_map]; have := hJ.2; (first | lia | omega))
    unfold rowsOf at h2
    rw [List.length_map] at h2
    exact h2
  have hmul : gMulL [.lst (H.length + 1), .int J.length] (H ++ [[]] ++ [[.int 9]]) = some (.lst (H.length + 2), H ++ [[]] ++ [[.int 9]] ++ [natsAV (List.replicate J.length 9)]) := by
    have h1 : (H ++ [[]] ++ [[AV.int 9]])[H.length + 1]? = some [.int 9] := by
      have := get_new (H ++ [[]]) [AV.int 9]
      rw [List.length_append, List.length_singleton] at this
      exact this
    simp only [gMulL, h1]
    have hc : (0 : Int) ≤ (J.length : Int) ∧ (J.length : Int) ≤ 1000000 := ⟨by (first | lia | omega), by have := hJ.2; (first | lia | omega)⟩
    rw [if_pos hc]
    simp [natsAV]
  have hl1 : (H ++ [[]]).length = H.length + 1 := by simp
  have e1 : bGiven_1 (AS.put { st with H := H ++ [[]] } (Str.ofString "heap") (.lst H.length)) = some (.next, AS.put (AS.put { st with H := H ++ [[]] ++ [[.int 9]] ++ [natsAV (List.replicate J.length 9)] } (Str.ofString "heap") (.lst H.length)) (Str.ofString "given") (.lst (H.length + 2))) := by
    simp only [sSeq, sAssign, sRet, sFl, sIf, sExpr, eBin, eUn, eVar, eVal, eCall, eMeth, eBinG, esCons, esNil, eIf, tCmp, tNot, tAnd, tOr, tVal, tTrue, AS.put_get, AS.put_H, ne_code, isLst, isStr, if_true, if_false, eq_self, List.zip_cons_cons, List.zip_nil_right, locAfter, Nat.reduceBEq, Bool.false_eq_true, reduceCtorEq, code_COMPILER_FLAG_NAMES, code_S_IFMT, code__filemode_table, code__law_given, code__law_read, code__law_without, code__siftdown, code__siftup, code_begin, code_bit, code_char, code_childpos, code_counts, code_end, code_endpos, code_filemode, code_first, code_flag, code_flags, code_given, code_heap, code_heappop, code_heappush, code_hour, code_hours, code_i, code_index, code_item, code_k, code_last, code_lastelt, code_law, code_many, code_mode, code_most, code_names, code_newitem, code_numbers, code_octets, code_parent, code_parentpos, code_perm, code_pos, code_pretty_flags, code_returnitem, code_rightpos, code_rights, code_row, code_rows, code_script, code_startpos, code_stretches, code_table, code_v, bGiven_1, gList_eq, a1, hlen, hl1, hmul]
    rfl
  generalize hs2 : AS.put (AS.put { st with H := H ++ [[]] ++ [[.int 9]] ++ [natsAV (List.replicate J.length 9)] } (Str.ofString "heap") (.lst H.length)) (Str.ofString "given") (.lst (H.length + 2)) = s2 at e1
  have R : GS H r H.length (H.length + 2) [] (List.replicate J.length 9) s2 := by
    rw [← hs2]
    refine ⟨fun i hi => ?_, ?_, ?_, by (first | exact a1 | exact loc_o a1 (by decide) | exact loc_o (loc_o a1 (by decide)) (by decide)), by (first | exact put_same _ _ _ | exact loc_o (put_same _ _ _) (by decide) | exact loc_o (loc_o (put_same _ _ _) (by decide)) (by decide)), by (first | exact put_same _ _ _ | exact loc_o (put_same _ _ _) (by decide) | exact loc_o (loc_o (put_same _ _ _) (by decide)) (by decide))⟩
    · show (H ++ [[]] ++ [[AV.int 9]] ++ [natsAV (List.replicate J.length 9)])[i]? = _
      rw [List.append_assoc, List.append_assoc, List.getElem?_append_left hi]
    · show (H ++ [[]] ++ [[AV.int 9]] ++ [natsAV (List.replicate J.length 9)])[H.length]? = _
      rw [List.append_assoc, List.append_assoc, List.getElem?_append_right (Nat.le_refl _), Nat.sub_self]
      rfl
    · show (H ++ [[]] ++ [[AV.int 9]] ++ [natsAV (List.replicate J.length 9)])[H.length + 2]? = _
      have := get_new (H ++ [[]] ++ [[AV.int 9]]) (natsAV (List.replicate J.length 9))
      have hl2 : (H ++ [[]] ++ [[AV.int 9]]).length = H.length + 2 := by simp
      rw [hl2] at this
      exact this
  have hga : ∀ k, ga (List.replicate J.length 9) k = 9 := fun k => by
    unfold ga
    rw [List.getD_eq_getElem?_getD, List.getElem?_replicate]
    split <;> rfl
  have I0 : HInv J 0 (relJ J 0 0) [] (List.replicate J.length 9) := ⟨fun i h1 h2 => by simp at h2, fun p hp => (by cases hp), List.nodup_nil, fun k a b g1 ⟨a2, b2, g2, g3⟩ => by (first | lia | omega)⟩
  have S0 : SInv J 0 (List.replicate J.length 9) := ⟨by simp, fun k a b _ => .inl (hga k), fun k k' _ _ _ h => absurd (hga k) h, fun x hx => by (first | lia | omega)⟩
  obtain ⟨s3, h3⟩ := for_any (tg := tgName (Str.ofString "hour")) (b := bGiven_f3_b) (els := sFl .next) (rngAt 0 9) (fun j => .int (0 + j)) 9
    (fun j s => ∃ hp' gv', GS H r H.length (H.length + 2) hp' gv' s ∧ HInv J j (relJ J j 0) hp' gv' ∧ SInv J j gv') (fun _ => False)
    (fun j s hj _ => rng_next 0 9 s.H j hj) (fun s _ => rng_end 0 9 s.H)
    (fun j s hj hP => by
      obtain ⟨hp', gv', R', I', S'⟩ := hP
      have hj0 : (0 + (j : Int)) = j := by (first | lia | omega)
      rw [hj0]
      obtain ⟨s', p', g', c1, c2, c3, c4⟩ := given_hour hJ hr (Nat.le_refl _) (by (first | lia | omega)) (by (first | lia | omega)) hj (R'.puthour (.int j)) (by (first | exact put_same _ _ _ | exact loc_o (put_same _ _ _) (by decide) | exact loc_o (loc_o (put_same _ _ _) (by decide)) (by decide))) I' S'
      exact ⟨_, s', rfl, .inl ⟨.inl c1, p', g', c2, c3, c4⟩⟩)
    9 0 s2 100 (by (first | lia | omega)) ⟨[], _, R, I0, S0⟩ (by decide)
  rcases h3 with ⟨⟨hp', gv', R', I', S'⟩, e⟩ | ⟨h, _⟩
  · have e2 : bGiven_2 s2 = some (.next, s3) := by
      unfold bGiven_2 sFor
      have : iOf (eCall gRange (esCons (eVal (.int 9)) esNil)) s2 = some (rngAt 0 9 0, s2) := by
        simp only [iOf, sSeq, sAssign, sRet, sFl, sIf, sExpr, eBin, eUn, eVar, eVal, eCall, eMeth, eBinG, esCons, esNil, eIf, tCmp, tNot, tAnd, tOr, tVal, tTrue, AS.put_get, AS.put_H, ne_code, isLst, isStr, if_true, if_false, eq_self, List.zip_cons_cons, List.zip_nil_right, locAfter, Nat.reduceBEq, Bool.false_eq_true, reduceCtorEq, code_COMPILER_FLAG_NAMES, code_S_IFMT, code__filemode_table, code__law_given, code__law_read, code__law_without, code__siftdown, code__siftup, code_begin, code_bit, code_char, code_childpos, code_counts, code_end, code_endpos, code_filemode, code_first, code_flag, code_flags, code_given, code_heap, code_heappop, code_heappush, code_hour, code_hours, code_i, code_index, code_item, code_k, code_last, code_lastelt, code_law, code_many, code_mode, code_most, code_names, code_newitem, code_numbers, code_octets, code_parent, code_parentpos, code_perm, code_pos, code_pretty_flags, code_returnitem, code_rightpos, code_rights, code_row, code_rows, code_script, code_startpos, code_stretches, code_table, code_v, gRange, itOf]
        rw [if_pos (by decide)]
        rfl
      rw [this]
      exact e
    have e3 : bGiven_3 s3 = some (.ret (.lst (H.length + 2)), s3) := by simp only [sSeq, sAssign, sRet, sFl, sIf, sExpr, eBin, eUn, eVar, eVal, eCall, eMeth, eBinG, esCons, esNil, eIf, tCmp, tNot, tAnd, tOr, tVal, tTrue, AS.put_get, AS.put_H, ne_code, isLst, isStr, if_true, if_false, eq_self, List.zip_cons_cons, List.zip_nil_right, locAfter, Nat.reduceBEq, Bool.false_eq_true, reduceCtorEq, code_COMPILER_FLAG_NAMES, code_S_IFMT, code__filemode_table, code__law_given, code__law_read, code__law_without, code__siftdown, code__siftup, code_begin, code_bit, code_char, code_childpos, code_counts, code_end, code_endpos, code_filemode, code_first, code_flag, code_flags, code_given, code_heap, code_heappop, code_heappush, code_hour, code_hours, code_i, code_index, code_item, code_k, code_last, code_lastelt, code_law, code_many, code_mode, code_most, code_names, code_newitem, code_numbers, code_octets, code_parent, code_parentpos, code_perm, code_pos, code_pretty_flags, code_returnitem, code_rightpos, code_rights, code_row, code_rows, code_script, code_startpos, code_stretches, code_table, code_v, bGiven_3, R'.given]
    refine ⟨s3.H, H.length + 2, gv', ?_, R'.keep, R'.hG, S', by (first | lia | omega)⟩
    simp only [gGiven, gFn, List.length_cons, List.length_nil, if_true]
    rw [hst]
    unfold bGiven
    rw [sSeq_next e0, sSeq_next e1, sSeq_next e2, e3]
  · exact h.elim
end Mine
end
/-! ## part FW31 -/
section
open PySem PySem.W PyProof.Rows PySem.Calls
set_option bootstrap.genMatcherCode false
namespace Mine
noncomputable def inside (J : Jb) (x y : Nat) : Nat := (J.filter fun p => decide (x ≤ p.1) && decide (p.2 ≤ y)).length
noncomputable def cnt (J : Jb) (L : List Int) (e b : Nat) : Int := L.getD b 0 + b - e + inside J b e
noncomputable def mostL (J : Jb) : Nat → List Int
  | 0 => [0]
  | e + 1 => mostL J e ++ [(((mostL J e).getD e 0) :: (List.range (e + 1)).map (cnt J (mostL J e) (e + 1))).max?.getD 0]
theorem mostL_len (J : Jb) : ∀ e, (mostL J e).length = e + 1
  | 0 => rfl
  | e + 1 => by simp only [mostL, List.length_append, mostL_len J e, List.length_singleton]
noncomputable def intsAV (L : List Int) : List AV := L.map AV.int
noncomputable def strAV (J : Jb) : List AV := J.map fun p : Nat × Nat => AV.tuple [.int (p.1 : Int), .int (p.2 : Int)]
theorem compLoc_get (fv : List Str) (st : AS) (x : Str) : (compLoc fv st).loc x = if x ∈ fv then st.loc x else none := rfl
theorem compLoc_H (fv : List Str) (st : AS) : (compLoc fv st).H = st.H := rfl
noncomputable def Kept (H H' : List (List AV)) : Prop := ∀ i, i < H.length → H'[i]? = H[i]?
theorem Kept.refl (H : List (List AV)) : Kept H H := fun _ _ => rfl
theorem Kept.len {H H' : List (List AV)} (h : Kept H H') : H.length ≤ H'.length := by
  rcases Nat.lt_or_ge H'.length H.length with q | q
  · have := h H'.length q
    rw [List.getElem?_eq_none (Nat.le_refl _), List.getElem?_eq_getElem q] at this; cases this
  · exact q
theorem Kept.trans {H H' H'' : List (List AV)} (h : Kept H H') (h' : Kept H' H'') : Kept H H'' := fun i hi => (h' i (Nat.lt_of_lt_of_le hi h.len)).trans (h i hi)
theorem Kept.app (H : List (List AV)) (x : List AV) : Kept H (H ++ [x]) := fun i hi => List.getElem?_append_left hi
theorem Kept.get {H H' : List (List AV)} (h : Kept H H') {i : Nat} {x : List AV} (e : H[i]? = some x) : H'[i]? = some x := (h i (lt_of_get e)).trans e
theorem inside_take (J : Jb) (b e j : Nat) {p : Nat × Nat} (h : J[j]? = some p) : inside (J.take (j + 1)) b e = inside (J.take j) b e + if (decide (b ≤ p.1) && decide (p.2 ≤ e)) = true then 1 else 0 := by
  unfold inside
  rw [List.take_add_one, h, Option.toList_some, List.filter_append, List.length_append]
  congr 1
  by_cases q : (decide (b ≤ p.1) && decide (p.2 ≤ e)) = true
  · rw [if_pos q, List.filter_cons_of_pos (by simpa using q)]; rfl
  · rw [if_neg q, List.filter_cons_of_neg (by simpa using q)]; rfl
theorem int_le (a b : Nat) : decide ((a : Int) ≤ (b : Int)) = decide (a ≤ b) := by
  by_cases q : a ≤ b
  · rw [decide_eq_true q, decide_eq_true (by (first | lia | omega))]
  · rw [decide_eq_false q, decide_eq_false (by (first | lia | omega))]
theorem comp1 {st : AS} {J : Jb} {l b e : Nat} (hl : st.H[l]? = some (strAV J)) (hJ : J.length ≤ 50) (h1 : st.loc (Str.ofString "begin") = some (.int b)) (h2 : st.loc (Str.ofString "end") = some (.int e)) (h3 : st.loc (Str.ofString "stretches") = some (.lst l)) :
    eComp 100 (iOf (eVar (Str.ofString "stretches"))) [(Str.ofString "begin"), (Str.ofString "end")] (tgPair (Str.ofString "first") (Str.ofString "last")) bWithout_c1_q bWithout_c1_x st = some (.lst st.H.length, { st with H := st.H ++ [List.replicate (inside J b e) (.int 1)] }) := by
  obtain ⟨ys, st', hP, hgo⟩ := comp_any (tg := tgPair (Str.ofString "first") (Str.ofString "last")) (tst := bWithout_c1_q) (elt := bWithout_c1_x) (fun j => .lst l j) (fun j => .tuple [.int ((J.getD j (0, 0)).1 : Int), .int ((J.getD j (0, 0)).2 : Int)]) J.length
    (fun j acc s => s.H = st.H ∧ s.loc (Str.ofString "begin") = some (.int b) ∧ s.loc (Str.ofString "end") = some (.int e) ∧ acc = List.replicate (inside (J.take j) b e) (.int 1))
    (fun j acc s hj hP => by
      refine lst_next (by rw [hP.1]; exact hl) ?_
      unfold strAV
      rw [List.getElem?_map, List.getD_eq_getElem?_getD, List.getElem?_eq_getElem hj]; rfl)
    (fun acc s hP => by
      have := lst_end (l := l) (H := s.H) (xs := strAV J) (by rw [hP.1]; exact hl)
      unfold strAV at this
      rw [List.length_map] at this; exact this)
    (fun j acc s hj hP => by
      obtain ⟨a1, a2, a3, a4⟩ := hP
      have hget : J[j]? = some (J.getD j (0, 0)) := by rw [List.getD_eq_getElem?_getD, List.getElem?_eq_getElem hj]; rfl
      generalize J.getD j (0, 0) = p at hget
      obtain ⟨x, y⟩ := p
      have hin := inside_take J b e j hget
      dsimp only at hin ⊢
      refine ⟨(s.put (Str.ofString "first") (.int x)).put (Str.ofString "last") (.int y), decide (b ≤ x) && decide (y ≤ e), (s.put (Str.ofString "first") (.int x)).put (Str.ofString "last") (.int y), rfl, ?_, fun ht => ?_, fun ht => ?_⟩
      · have i1 := int_le b x
        have i2 := int_le y e
        cases hd : decide (b ≤ x) with
        | true =>
          rw [hd] at i1
          simp only [sSeq, sAssign, sRet, sFl, sIf, sExpr, eBin, eUn, eVar, eVal, eCall, eMeth, eBinG, esCons, esNil, eIf, tCmp, tNot, tAnd, tOr, tVal, tTrue, AS.put_get, AS.put_H, ne_code, isLst, isStr, if_true, if_false, eq_self, List.zip_cons_cons, List.zip_nil_right, locAfter, Nat.reduceBEq, Bool.false_eq_true, reduceCtorEq, code_COMPILER_FLAG_NAMES, code_S_IFMT, code__filemode_table, code__law_given, code__law_read, code__law_without, code__siftdown, code__siftup, code_begin, code_bit, code_char, code_childpos, code_counts, code_end, code_endpos, code_filemode, code_first, code_flag, code_flags, code_given, code_heap, code_heappop, code_heappush, code_hour, code_hours, code_i, code_index, code_item, code_k, code_last, code_lastelt, code_law, code_many, code_mode, code_most, code_names, code_newitem, code_numbers, code_octets, code_parent, code_parentpos, code_perm, code_pos, code_pretty_flags, code_returnitem, code_rightpos, code_rights, code_row, code_rows, code_script, code_startpos, code_stretches, code_table, code_v, bWithout_c1_q, a2, a3, cInt_i, i1, i2, Bool.true_and]
        | false =>
          rw [hd] at i1
          simp only [sSeq, sAssign, sRet, sFl, sIf, sExpr, eBin, eUn, eVar, eVal, eCall, eMeth, eBinG, esCons, esNil, eIf, tCmp, tNot, tAnd, tOr, tVal, tTrue, AS.put_get, AS.put_H, ne_code, isLst, isStr, if_true, if_false, eq_self, List.zip_cons_cons, List.zip_nil_right, locAfter, Nat.reduceBEq, Bool.false_eq_true, reduceCtorEq, code_COMPILER_FLAG_NAMES, code_S_IFMT, code__filemode_table, code__law_given, code__law_read, code__law_without, code__siftdown, code__siftup, code_begin, code_bit, code_char, code_childpos, code_counts, code_end, code_endpos, code_filemode, code_first, code_flag, code_flags, code_given, code_heap, code_heappop, code_heappush, code_hour, code_hours, code_i, code_index, code_item, code_k, code_last, code_lastelt, code_law, code_many, code_mode, code_most, code_names, code_newitem, code_numbers, code_octets, code_parent, code_parentpos, code_perm, code_pos, code_pretty_flags, code_returnitem, code_rightpos, code_rights, code_row, code_rows, code_script, code_startpos, code_stretches, code_table, code_v, bWithout_c1_q, a2, a3, cInt_i, i1, Bool.false_and]
      · rw [if_pos ht] at hin
        refine ⟨.int 1, _, rfl, a1, by (first | exact a2 | exact loc_o a2 (by decide) | exact loc_o (loc_o a2 (by decide)) (by decide)), by (first | exact a3 | exact loc_o a3 (by decide) | exact loc_o (loc_o a3 (by decide)) (by decide)), ?_⟩
        rw [hin, a4, List.replicate_succ']
      · rw [if_neg (by rw [ht]; decide)] at hin
        exact ⟨a1, by (first | exact a2 | exact loc_o a2 (by decide) | exact loc_o (loc_o a2 (by decide)) (by decide)), by (first | exact a3 | exact loc_o a3 (by decide) | exact loc_o (loc_o a3 (by decide)) (by decide)), by rw [hin]; exact a4⟩)
    J.length 0 [] (compLoc [(Str.ofString "begin"), (Str.ofString "end")] st) 100 (by (first | lia | omega)) ⟨rfl, by simp only [compLoc_get, List.mem_cons, true_or, if_true, h1], by simp only [compLoc_get, List.mem_cons, true_or, or_true, if_true, h2], rfl⟩ (by (first | lia | omega))
  obtain ⟨c1, c2, c3, c4⟩ := hP
  rw [List.take_length] at c4
  have hi : iOf (eVar (Str.ofString "stretches")) st = some (.lst l 0, st) := by simp only [iOf, eVar, h3, itOf]
  unfold eComp
  rw [if_pos (by simp [h1, h2]), hi]
  dsimp only
  rw [hgo, c4]
  dsimp only
  rw [c1]
theorem oItem_last {H : List (List AV)} {l : Nat} {xs : List AV} {x : AV} (h : H[l]? = some (xs ++ [x])) : oItem H (.lst l) (.int (-1)) = some x := by
  have h1 : ¬ ((0 : Int) ≤ -1 ∧ (-1 : Int) < 1000000) := by decide
  have h2 : (-1 : Int) < 0 ∧ -((xs ++ [x]).length : Int) ≤ -1 ∧ (-1000000 : Int) ≤ -1 := ⟨by decide, by rw [List.length_append, List.length_singleton]; (first | lia | omega), by decide⟩
  unfold oItem
  dsimp only
  rw [h]
  dsimp only
  rw [if_neg h1, if_pos h2]
  have : ((-1 : Int) + ((xs ++ [x]).length : Int)).toNat = xs.length := by rw [List.length_append, List.length_singleton]; (first | lia | omega)
  rw [this, List.getElem?_append_right (Nat.le_refl _)]; simp
theorem eBin_ok {f : List (List AV) → AV → AV → Option AV} {a b : EM} {st s1 s2 : AS} {x y z : AV} (h1 : a st = some (x, s1)) (h2 : b s1 = some (y, s2)) (h3 : f s2.H x y = some z) : eBin f a b st = some (z, s2) := by
  simp only [eBin, h1, h2, h3]
theorem elt2 {st : AS} {J : Jb} {L : List Int} {l m b e : Nat} (hl : st.H[l]? = some (strAV J)) (hm : st.H[m]? = some (intsAV L)) (hb : b < L.length) (hL : L.length ≤ 50) (hJ : J.length ≤ 50) (h1 : st.loc (Str.ofString "begin") = some (.int b)) (h2 : st.loc (Str.ofString "end") = some (.int e)) (h3 : st.loc (Str.ofString "stretches") = some (.lst l)) (h4 : st.loc (Str.ofString "most") = some (.lst m)) :
    bWithout_c2_x st = some (.int (cnt J L e b), { st with H := st.H ++ [List.replicate (inside J b e) (.int 1)] }) := by
  have hc := comp1 hl hJ h1 h2 h3
  have hlen := gLen_eq (get_new st.H (List.replicate (inside J b e) (AV.int 1))) (by
    rw [List.length_replicate]
    have : inside J b e ≤ J.length := List.length_filter_le _ _
    (first | lia | omega))
  rw [List.length_replicate] at hlen
  have hi := oItem_nat hm b (by (first | lia | omega))
  have hv : (intsAV L)[b]? = some (.int (L.getD b 0)) := by
    unfold intsAV
    rw [List.getElem?_map, List.getD_eq_getElem?_getD, List.getElem?_eq_getElem hb]; rfl
  rw [hv] at hi
  have v1 : eVar (Str.ofString "most") st = some (.lst m, st) := by simp only [eVar, h4]
  have v2 : eVar (Str.ofString "begin") st = some (.int b, st) := by simp only [eVar, h1]
  have v3 : eVar (Str.ofString "end") st = some (.int e, st) := by simp only [eVar, h2]
  have e2 : eCall gLen (esCons (eComp 100 (iOf (eVar (Str.ofString "stretches"))) [(Str.ofString "begin"), (Str.ofString "end")] (tgPair (Str.ofString "first") (Str.ofString "last")) bWithout_c1_q bWithout_c1_x) esNil) st = some (.int (inside J b e), { st with H := st.H ++ [List.replicate (inside J b e) (.int 1)] }) := by
    simp only [eCall, esCons, esNil, hc, hlen]
  exact eBin_ok (eBin_ok (eBin_ok (eBin_ok v1 v2 hi) v2 (oAdd _ _ _)) v3 (oSub _ _ _)) e2 (oAdd _ _ _)
theorem itOf_rng (a b : Int) (h : -(2 ^ 62) ≤ a ∧ a < 2 ^ 62 ∧ -(2 ^ 62) ≤ b ∧ b < 2 ^ 62) : itOf (.rng a b) = some (.rng a (b - a).toNat) := by
  unfold itOf
  dsimp only
  rw [if_pos h]
theorem iOf_ok {F : EM} {st s1 : AS} {v : AV} {it : IT} (h : F st = some (v, s1)) (h2 : itOf v = some it) : iOf F st = some (it, s1) := by
  unfold iOf
  rw [h]
  dsimp only
  rw [h2]
theorem iOf_rng {F : EM} {st s1 : AS} {e : Nat} (h : F st = some (.rng 0 e, s1)) (he : e ≤ 1000) : iOf F st = some (rngAt 0 e 0, s1) := by
  have h2 := itOf_rng 0 (e : Int) ⟨by decide, by decide, by (first | lia | omega), by (first | lia | omega)⟩
  have h3 : ((e : Int) - 0).toNat = e := by (first | lia | omega)
  rw [h3] at h2
  exact iOf_ok h h2
theorem comp2 {st : AS} {J : Jb} {L : List Int} {l m e : Nat} (hl : st.H[l]? = some (strAV J)) (hm : st.H[m]? = some (intsAV L)) (he : e ≤ L.length) (hL : L.length ≤ 50) (hJ : J.length ≤ 50) (h2 : st.loc (Str.ofString "end") = some (.int e)) (h3 : st.loc (Str.ofString "stretches") = some (.lst l)) (h4 : st.loc (Str.ofString "most") = some (.lst m)) :
    ∃ H', Kept st.H H' ∧ eComp 100 (iOf (eCall gRange (esCons (eVar (Str.ofString "end")) esNil))) [(Str.ofString "end"), (Str.ofString "most"), (Str.ofString "stretches")] (tgName (Str.ofString "begin")) tTrue bWithout_c2_x st = some (.lst H'.length, { st with H := H' ++ [intsAV ((List.range e).map (cnt J L e))] }) := by
  obtain ⟨ys, st', hP, hgo⟩ := comp_any (tg := tgName (Str.ofString "begin")) (tst := tTrue) (elt := bWithout_c2_x) (rngAt 0 e) (fun j => .int (0 + j)) e
    (fun j acc s => Kept st.H s.H ∧ s.loc (Str.ofString "end") = some (.int e) ∧ s.loc (Str.ofString "stretches") = some (.lst l) ∧ s.loc (Str.ofString "most") = some (.lst m) ∧ acc = intsAV ((List.range j).map (cnt J L e)))
    (fun j acc s hj _ => rng_next 0 e s.H j hj) (fun acc s _ => rng_end 0 e s.H)
    (fun j acc s hj hP => by
      obtain ⟨a1, a2, a3, a4, a5⟩ := hP
      have hj0 : (0 + (j : Int)) = j := by (first | lia | omega)
      rw [hj0]
      have hx := elt2 (st := s.put (Str.ofString "begin") (.int j)) (J := J) (L := L) (l := l) (m := m) (b := j) (e := e) (a1.get hl) (a1.get hm) (by (first | lia | omega)) hL hJ (by (first | exact put_same _ _ _ | exact loc_o (put_same _ _ _) (by decide) | exact loc_o (loc_o (put_same _ _ _) (by decide)) (by decide))) (by (first | exact a2 | exact loc_o a2 (by decide) | exact loc_o (loc_o a2 (by decide)) (by decide))) (by (first | exact a3 | exact loc_o a3 (by decide) | exact loc_o (loc_o a3 (by decide)) (by decide))) (by (first | exact a4 | exact loc_o a4 (by decide) | exact loc_o (loc_o a4 (by decide)) (by decide)))
      refine ⟨s.put (Str.ofString "begin") (.int j), true, s.put (Str.ofString "begin") (.int j), rfl, rfl, fun _ => ⟨_, _, hx, a1.trans (Kept.app _ _), by (first | exact a2 | exact loc_o a2 (by decide) | exact loc_o (loc_o a2 (by decide)) (by decide)), by (first | exact a3 | exact loc_o a3 (by decide) | exact loc_o (loc_o a3 (by decide)) (by decide)), by (first | exact a4 | exact loc_o a4 (by decide) | exact loc_o (loc_o a4 (by decide)) (by decide)), ?_⟩, fun h => (by cases h)⟩
      rw [a5, List.range_succ, List.map_append]
      unfold intsAV
      rw [List.map_append]
      rfl)
    e 0 [] (compLoc [(Str.ofString "end"), (Str.ofString "most"), (Str.ofString "stretches")] st) 100 (by (first | lia | omega)) ⟨Kept.refl _, by simp only [compLoc_get, List.mem_cons, true_or, if_true, h2], by simp only [compLoc_get, List.mem_cons, true_or, or_true, if_true, h3], by simp only [compLoc_get, List.mem_cons, true_or, or_true, if_true, h4], rfl⟩ (by (first | lia | omega))
  obtain ⟨c1, c2, c3, c4, c5⟩ := hP
  refine ⟨st'.H, c1, ?_⟩
  have hi : iOf (eCall gRange (esCons (eVar (Str.ofString "end")) esNil)) st = some (rngAt 0 e 0, st) :=
    iOf_rng (by simp only [sSeq, sAssign, sRet, sFl, sIf, sExpr, eBin, eUn, eVar, eVal, eCall, eMeth, eBinG, esCons, esNil, eIf, tCmp, tNot, tAnd, tOr, tVal, tTrue, AS.put_get, AS.put_H, ne_code, isLst, isStr, if_true, if_false, eq_self, List.zip_cons_cons, List.zip_nil_right, locAfter, Nat.reduceBEq, Bool.false_eq_true, reduceCtorEq, code_COMPILER_FLAG_NAMES, code_S_IFMT, code__filemode_table, code__law_given, code__law_read, code__law_without, code__siftdown, code__siftup, code_begin, code_bit, code_char, code_childpos, code_counts, code_end, code_endpos, code_filemode, code_first, code_flag, code_flags, code_given, code_heap, code_heappop, code_heappush, code_hour, code_hours, code_i, code_index, code_item, code_k, code_last, code_lastelt, code_law, code_many, code_mode, code_most, code_names, code_newitem, code_numbers, code_octets, code_parent, code_parentpos, code_perm, code_pos, code_pretty_flags, code_returnitem, code_rightpos, code_rights, code_row, code_rows, code_script, code_startpos, code_stretches, code_table, code_v, h2, gRange]) (by (first | lia | omega))
  unfold eComp
  rw [if_pos (by simp [h2, h3, h4]), hi]
  dsimp only
  rw [hgo, c5]
theorem without_step {st : AS} {J : Jb} {n0 l m e : Nat} {H0 : List (List AV)} (hK : Kept H0 st.H) (hm0 : H0.length ≤ m) (hl : H0[l]? = some (strAV J)) (hm : st.H[m]? = some (intsAV (mostL J e))) (he : e < 9) (hJ : J.length ≤ 50)
    (h2 : st.loc (Str.ofString "end") = some (.int ((e + 1 : Nat) : Int))) (h3 : st.loc (Str.ofString "stretches") = some (.lst l)) (h4 : st.loc (Str.ofString "most") = some (.lst m)) :
    ∃ st', bWithout_f3_b st = some (.next, st') ∧ Kept H0 st'.H ∧ st'.H[m]? = some (intsAV (mostL J (e + 1))) ∧ st'.loc (Str.ofString "stretches") = some (.lst l) ∧ st'.loc (Str.ofString "most") = some (.lst m) := by
  have hlen := mostL_len J e
  obtain ⟨H', hK', hc⟩ := comp2 (hK.get hl) hm (e := e + 1) (by (first | lia | omega)) (by (first | lia | omega)) hJ h2 h3 h4
  have hm1 := hK'.get hm
  generalize hcs : intsAV ((List.range (e + 1)).map (cnt J (mostL J e) (e + 1))) = cs at hc
  have e0 : sAssign (Str.ofString "counts") (eComp 100 (iOf (eCall gRange (esCons (eVar (Str.ofString "end")) esNil))) [(Str.ofString "end"), (Str.ofString "most"), (Str.ofString "stretches")] (tgName (Str.ofString "begin")) tTrue bWithout_c2_x) st = some (.next, AS.put { st with H := H' ++ [cs] } (Str.ofString "counts") (.lst H'.length)) := by
    simp only [sAssign, hc]
  have hm2 : (H' ++ [cs])[m]? = some (intsAV (mostL J e)) := (Kept.app H' cs).get hm1
  have hne : mostL J e ≠ [] := by intro h; rw [h] at hlen; simp at hlen
  have hsp : mostL J e = (mostL J e).dropLast ++ [(mostL J e).getD e 0] := by
    have h1 := List.dropLast_concat_getLast hne
    have h2 : (mostL J e).getLast hne = (mostL J e).getD e 0 := by
      rw [List.getLast_eq_getElem, List.getD_eq_getElem?_getD, List.getElem?_eq_getElem (by (first | lia | omega))]
      simp [hlen]
    rw [h2] at h1
    exact h1.symm
  have hsp' : intsAV (mostL J e) = intsAV (mostL J e).dropLast ++ [.int ((mostL J e).getD e 0)] := by
    conv => lhs; rw [hsp]
    unfold intsAV
    rw [List.map_append]; rfl
  have hlast : oItem (H' ++ [cs]) (.lst m) (.int (-1)) = some (.int ((mostL J e).getD e 0)) := oItem_last (by rw [hm2, hsp'])
  generalize hx : (mostL J e).getD e 0 = x at hlast
  have h5 : (H' ++ [cs] ++ [[AV.int x]])[H'.length]? = some cs := (Kept.app _ _).get (get_new H' cs)
  have h6 : (H' ++ [cs] ++ [[AV.int x]])[H'.length + 1]? = some [.int x] := by
    have := get_new (H' ++ [cs]) [AV.int x]
    rw [List.length_append, List.length_singleton] at this
    exact this
  have hcl : cs.length = e + 1 := by rw [← hcs]; simp [intsAV]
  have hadd : gAddL [.lst (H'.length + 1), .lst H'.length] (H' ++ [cs] ++ [[AV.int x]]) = some (.lst (H'.length + 2), H' ++ [cs] ++ [[AV.int x]] ++ [AV.int x :: cs]) := by
    simp only [gAddL, h5, h6]
    rw [if_pos (by simp [hcl]; (first | lia | omega))]
    simp
  have h7 : (H' ++ [cs] ++ [[AV.int x]] ++ [AV.int x :: cs])[H'.length + 2]? = some (AV.int x :: cs) := by
    have := get_new (H' ++ [cs] ++ [[AV.int x]]) (AV.int x :: cs)
    have hl2 : (H' ++ [cs] ++ [[AV.int x]]).length = H'.length + 2 := by simp
    rw [hl2] at this
    exact this
  have hints : intsOf (AV.int x :: cs) = some (x :: (List.range (e + 1)).map (cnt J (mostL J e) (e + 1))) := by
    rw [← hcs]
    have := intsOf_map (x :: (List.range (e + 1)).map (cnt J (mostL J e) (e + 1)))
    exact this
  have hmx : ∃ y, (x :: (List.range (e + 1)).map (cnt J (mostL J e) (e + 1))).max? = some y := by
    cases h : (x :: (List.range (e + 1)).map (cnt J (mostL J e) (e + 1))).max? with
    | none => rw [List.max?_eq_none_iff] at h; cases h
    | some y => exact ⟨y, rfl⟩
  obtain ⟨y, hy⟩ := hmx
  have hmax : gMax [.lst (H'.length + 2)] (H' ++ [cs] ++ [[AV.int x]] ++ [AV.int x :: cs]) = some (.int y, H' ++ [cs] ++ [[AV.int x]] ++ [AV.int x :: cs]) := by
    simp only [gMax, h7, hints, hy]
  have h8 : (H' ++ [cs] ++ [[AV.int x]] ++ [AV.int x :: cs])[m]? = some (intsAV (mostL J e)) := ((Kept.app _ _).trans (Kept.app _ _)).get hm2
  have happ := gAppend_eq (v := .int y) h8 (by simp [intsAV, hlen]; (first | lia | omega))
  have hmost : intsAV (mostL J e) ++ [.int y] = intsAV (mostL J (e + 1)) := by
    rw [mostL, hx, hy]
    unfold intsAV
    rw [List.map_append]; rfl
  rw [hmost] at happ
  have hl1 : (H' ++ [cs]).length = H'.length + 1 := by simp
  have ea : eBinG gAddL (eCall gList (esCons (eBin oItem (eVar (Str.ofString "most")) (eVal (.int (-1)))) esNil)) (eVar (Str.ofString "counts")) (AS.put { st with H := H' ++ [cs] } (Str.ofString "counts") (.lst H'.length)) = some (.lst (H'.length + 2), { (AS.put { st with H := H' ++ [cs] } (Str.ofString "counts") (.lst H'.length)) with H := H' ++ [cs] ++ [[AV.int x]] ++ [AV.int x :: cs] }) := by
    simp only [sSeq, sAssign, sRet, sFl, sIf, sExpr, eBin, eUn, eVar, eVal, eCall, eMeth, eBinG, esCons, esNil, eIf, tCmp, tNot, tAnd, tOr, tVal, tTrue, AS.put_get, AS.put_H, ne_code, isLst, isStr, if_true, if_false, eq_self, List.zip_cons_cons, List.zip_nil_right, locAfter, Nat.reduceBEq, Bool.false_eq_true, reduceCtorEq, code_COMPILER_FLAG_NAMES, code_S_IFMT, code__filemode_table, code__law_given, code__law_read, code__law_without, code__siftdown, code__siftup, code_begin, code_bit, code_char, code_childpos, code_counts, code_end, code_endpos, code_filemode, code_first, code_flag, code_flags, code_given, code_heap, code_heappop, code_heappush, code_hour, code_hours, code_i, code_index, code_item, code_k, code_last, code_lastelt, code_law, code_many, code_mode, code_most, code_names, code_newitem, code_numbers, code_octets, code_parent, code_parentpos, code_perm, code_pos, code_pretty_flags, code_returnitem, code_rightpos, code_rights, code_row, code_rows, code_script, code_startpos, code_stretches, code_table, code_v, h4, hlast, gList_eq, hl1, hadd]
  have e1 : sExpr (eMeth isLst gAppend (eVar (Str.ofString "most")) (esCons (eCall gMax (esCons (eBinG gAddL (eCall gList (esCons (eBin oItem (eVar (Str.ofString "most")) (eVal (.int (-1)))) esNil)) (eVar (Str.ofString "counts"))) esNil)) esNil)) (AS.put { st with H := H' ++ [cs] } (Str.ofString "counts") (.lst H'.length)) =
      some (.next, { (AS.put { st with H := H' ++ [cs] } (Str.ofString "counts") (.lst H'.length)) with H := (H' ++ [cs] ++ [[AV.int x]] ++ [AV.int x :: cs]).set m (intsAV (mostL J (e + 1))) }) := by
    have hmv : eVar (Str.ofString "most") (AS.put { st with H := H' ++ [cs] } (Str.ofString "counts") (.lst H'.length)) = some (.lst m, (AS.put { st with H := H' ++ [cs] } (Str.ofString "counts") (.lst H'.length))) := by simp only [sSeq, sAssign, sRet, sFl, sIf, sExpr, eBin, eUn, eVar, eVal, eCall, eMeth, eBinG, esCons, esNil, eIf, tCmp, tNot, tAnd, tOr, tVal, tTrue, AS.put_get, AS.put_H, ne_code, isLst, isStr, if_true, if_false, eq_self, List.zip_cons_cons, List.zip_nil_right, locAfter, Nat.reduceBEq, Bool.false_eq_true, reduceCtorEq, code_COMPILER_FLAG_NAMES, code_S_IFMT, code__filemode_table, code__law_given, code__law_read, code__law_without, code__siftdown, code__siftup, code_begin, code_bit, code_char, code_childpos, code_counts, code_end, code_endpos, code_filemode, code_first, code_flag, code_flags, code_given, code_heap, code_heappop, code_heappush, code_hour, code_hours, code_i, code_index, code_item, code_k, code_last, code_lastelt, code_law, code_many, code_mode, code_most, code_names, code_newitem, code_numbers, code_octets, code_parent, code_parentpos, code_perm, code_pos, code_pretty_flags, code_returnitem, code_rightpos, code_rights, code_row, code_rows, code_script, code_startpos, code_stretches, code_table, code_v, h4]
    simp only [sExpr, eMeth, hmv, isLst, esCons, esNil, eCall, ea, hmax, happ]
  refine ⟨{ (AS.put { st with H := H' ++ [cs] } (Str.ofString "counts") (.lst H'.length)) with H := (H' ++ [cs] ++ [[AV.int x]] ++ [AV.int x :: cs]).set m (intsAV (mostL J (e + 1))) }, ?_, ?_, ?_, ?_, ?_⟩
  · unfold bWithout_f3_b
    rw [sSeq_next e0, e1]
  · have hk2 : Kept H0 (H' ++ [cs] ++ [[AV.int x]] ++ [AV.int x :: cs]) := hK.trans (hK'.trans ((Kept.app _ _).trans ((Kept.app _ _).trans (Kept.app _ _))))
    intro i hi
    show ((H' ++ [cs] ++ [[AV.int x]] ++ [AV.int x :: cs]).set m _)[i]? = _
    rw [List.getElem?_set_ne (by (first | lia | omega))]
    exact hk2 i hi
  · show ((H' ++ [cs] ++ [[AV.int x]] ++ [AV.int x :: cs]).set m _)[m]? = _
    exact List.getElem?_set_self (lt_of_get h8)
  · simp only [sSeq, sAssign, sRet, sFl, sIf, sExpr, eBin, eUn, eVar, eVal, eCall, eMeth, eBinG, esCons, esNil, eIf, tCmp, tNot, tAnd, tOr, tVal, tTrue, AS.put_get, AS.put_H, ne_code, isLst, isStr, if_true, if_false, eq_self, List.zip_cons_cons, List.zip_nil_right, locAfter, Nat.reduceBEq, Bool.false_eq_true, reduceCtorEq, code_COMPILER_FLAG_NAMES, code_S_IFMT, code__filemode_table, code__law_given, code__law_read, code__law_without, code__siftdown, code__siftup, code_begin, code_bit, code_char, code_childpos, code_counts, code_end, code_endpos, code_filemode, code_first, code_flag, code_flags, code_given, code_heap, code_heappop, code_heappush, code_hour, code_hours, code_i, code_index, code_item, code_k, code_last, code_lastelt, code_law, code_many, code_mode, code_most, code_names, code_newitem, code_numbers, code_octets, code_parent, code_parentpos, code_perm, code_pos, code_pretty_flags, code_returnitem, code_rightpos, code_rights, code_row, code_rows, code_script, code_startpos, code_stretches, code_table, code_v, h3]
  · simp only [sSeq, sAssign, sRet, sFl, sIf, sExpr, eBin, eUn, eVar, eVal, eCall, eMeth, eBinG, esCons, esNil, eIf, tCmp, tNot, tAnd, tOr, tVal, tTrue, AS.put_get, AS.put_H, ne_code, isLst, isStr, if_true, if_false, eq_self, List.zip_cons_cons, List.zip_nil_right, locAfter, Nat.reduceBEq, Bool.false_eq_true, reduceCtorEq, code_COMPILER_FLAG_NAMES, code_S_IFMT, code__filemode_table, code__law_given, code__law_read, code__law_without, code__siftdown, code__siftup, code_begin, code_bit, code_char, code_childpos, code_counts, code_end, code_endpos, code_filemode, code_first, code_flag, code_flags, code_given, code_heap, code_heappop, code_heappush, code_hour, code_hours, code_i, code_index, code_item, code_k, code_last, code_lastelt, code_law, code_many, code_mode, code_most, code_names, code_newitem, code_numbers, code_octets, code_parent, code_parentpos, code_perm, code_pos, code_pretty_flags, code_returnitem, code_rightpos, code_rights, code_row, code_rows, code_script, code_startpos, code_stretches, code_table, code_v, h4]
theorem gWithout_eq {H : List (List AV)} {l : Nat} {J : Jb} (hl : H[l]? = some (strAV J)) (hJ : J.length ≤ 50) :
    ∃ H', gWithout [.lst l] H = some (.int ((mostL J 9).getD 9 0), H') ∧ Kept H H' := by
  generalize hst : (⟨locAfter ([(Str.ofString "stretches")].zip [.lst l]) (fun _ => none), H⟩ : AS) = st
  have a1 : st.loc (Str.ofString "stretches") = some (.lst l) := by rw [← hst]; simp only [sSeq, sAssign, sRet, sFl, sIf, sExpr, eBin, eUn, eVar, eVal, eCall, eMeth, eBinG, esCons, esNil, eIf, tCmp, tNot, tAnd, tOr, tVal, tTrue, AS.put_get, AS.put_H, ne_code, isLst, isStr, if_true, if_false, eq_self, List.zip_cons_cons, List.zip_nil_right, locAfter, Nat.reduceBEq, Bool.false_eq_true, reduceCtorEq, code_COMPILER_FLAG_NAMES, code_S_IFMT, code__filemode_table, code__law_given, code__law_read, code__law_without, code__siftdown, code__siftup, code_begin, code_bit, code_char, code_childpos, code_counts, code_end, code_endpos, code_filemode, code_first, code_flag, code_flags, code_given, code_heap, code_heappop, code_heappush, code_hour, code_hours, code_i, code_index, code_item, code_k, code_last, code_lastelt, code_law, code_many, code_mode, code_most, code_names, code_newitem, code_numbers, code_octets, code_parent, code_parentpos, code_perm, code_pos, code_pretty_flags, code_returnitem, code_rightpos, code_rights, code_row, code_rows, code_script, code_startpos, code_stretches, code_table, code_v]
  have aH : st.H = H := by rw [← hst]
  have e0 : bWithout_0 st = some (.next, AS.put { st with H := H ++ [[.int 0]] } (Str.ofString "most") (.lst H.length)) := by
    simp only [sSeq, sAssign, sRet, sFl, sIf, sExpr, eBin, eUn, eVar, eVal, eCall, eMeth, eBinG, esCons, esNil, eIf, tCmp, tNot, tAnd, tOr, tVal, tTrue, AS.put_get, AS.put_H, ne_code, isLst, isStr, if_true, if_false, eq_self, List.zip_cons_cons, List.zip_nil_right, locAfter, Nat.reduceBEq, Bool.false_eq_true, reduceCtorEq, code_COMPILER_FLAG_NAMES, code_S_IFMT, code__filemode_table, code__law_given, code__law_read, code__law_without, code__siftdown, code__siftup, code_begin, code_bit, code_char, code_childpos, code_counts, code_end, code_endpos, code_filemode, code_first, code_flag, code_flags, code_given, code_heap, code_heappop, code_heappush, code_hour, code_hours, code_i, code_index, code_item, code_k, code_last, code_lastelt, code_law, code_many, code_mode, code_most, code_names, code_newitem, code_numbers, code_octets, code_parent, code_parentpos, code_perm, code_pos, code_pretty_flags, code_returnitem, code_rightpos, code_rights, code_row, code_rows, code_script, code_startpos, code_stretches, code_table, code_v, bWithout_0, gList_eq, aH]
  obtain ⟨s3, h3⟩ := for_any (tg := tgName (Str.ofString "end")) (b := bWithout_f3_b) (els := sFl .next) (rngAt 1 9) (fun j => .int (1 + j)) 9
    (fun j s => Kept H s.H ∧ s.H[H.length]? = some (intsAV (mostL J j)) ∧ s.loc (Str.ofString "stretches") = some (.lst l) ∧ s.loc (Str.ofString "most") = some (.lst H.length)) (fun _ => False)
    (fun j s hj _ => rng_next 1 9 s.H j hj) (fun s _ => rng_end 1 9 s.H)
    (fun j s hj hP => by
      obtain ⟨b1, b2, b3, b4⟩ := hP
      have hj0 : (1 + (j : Int)) = ((j + 1 : Nat) : Int) := by (first | lia | omega)
      rw [hj0]
      obtain ⟨st', c1, c2, c3, c4, c5⟩ := without_step (st := s.put (Str.ofString "end") (.int ((j + 1 : Nat) : Int))) (n0 := 0) b1 (Nat.le_refl _) hl b2 hj hJ (by (first | exact put_same _ _ _ | exact loc_o (put_same _ _ _) (by decide) | exact loc_o (loc_o (put_same _ _ _) (by decide)) (by decide))) (by (first | exact b3 | exact loc_o b3 (by decide) | exact loc_o (loc_o b3 (by decide)) (by decide))) (by (first | exact b4 | exact loc_o b4 (by decide) | exact loc_o (loc_o b4 (by decide)) (by decide)))
      exact ⟨_, st', rfl, .inl ⟨.inl c1, c2, c3, c4, c5⟩⟩)
    9 0 (AS.put { st with H := H ++ [[.int 0]] } (Str.ofString "most") (.lst H.length)) 100 (by (first | lia | omega)) ⟨Kept.app _ _, get_new H _, by (first | exact a1 | exact loc_o a1 (by decide) | exact loc_o (loc_o a1 (by decide)) (by decide)), by (first | exact put_same _ _ _ | exact loc_o (put_same _ _ _) (by decide) | exact loc_o (loc_o (put_same _ _ _) (by decide)) (by decide))⟩ (by decide)
  rcases h3 with ⟨⟨b1, b2, b3, b4⟩, e⟩ | ⟨h, _⟩
  · have e1 : bWithout_1 (AS.put { st with H := H ++ [[.int 0]] } (Str.ofString "most") (.lst H.length)) = some (.next, s3) := by
      unfold bWithout_1 sFor
      have : iOf (eCall gRange (esCons (eVal (.int 1)) (esCons (eVal (.int 10)) esNil))) (AS.put { st with H := H ++ [[.int 0]] } (Str.ofString "most") (.lst H.length)) = some (rngAt 1 9 0, (AS.put { st with H := H ++ [[.int 0]] } (Str.ofString "most") (.lst H.length))) := by
        simp only [iOf, sSeq, sAssign, sRet, sFl, sIf, sExpr, eBin, eUn, eVar, eVal, eCall, eMeth, eBinG, esCons, esNil, eIf, tCmp, tNot, tAnd, tOr, tVal, tTrue, AS.put_get, AS.put_H, ne_code, isLst, isStr, if_true, if_false, eq_self, List.zip_cons_cons, List.zip_nil_right, locAfter, Nat.reduceBEq, Bool.false_eq_true, reduceCtorEq, code_COMPILER_FLAG_NAMES, code_S_IFMT, code__filemode_table, code__law_given, code__law_read, code__law_without, code__siftdown, code__siftup, code_begin, code_bit, code_char, code_childpos, code_counts, code_end, code_endpos, code_filemode, code_first, code_flag, code_flags, code_given, code_heap, code_heappop, code_heappush, code_hour, code_hours, code_i, code_index, code_item, code_k, code_last, code_lastelt, code_law, code_many, code_mode, code_most, code_names, code_newitem, code_numbers, code_octets, code_parent, code_parentpos, code_perm, code_pos, code_pretty_flags, code_returnitem, code_rightpos, code_rights, code_row, code_rows, code_script, code_startpos, code_stretches, code_table, code_v, gRange, itOf]
        rw [if_pos (by decide)]
        rfl
      rw [this]
      exact e
    have hL9 := mostL_len J 9
    generalize mostL J 9 = L at b2 hL9 ⊢
    have hi := oItem_nat b2 9 (by decide)
    have hv : (intsAV L)[9]? = some (.int (L.getD 9 0)) := by
      unfold intsAV
      rw [List.getElem?_map, List.getD_eq_getElem?_getD, List.getElem?_eq_getElem (by (first | lia | omega))]; rfl
    rw [hv] at hi
    generalize L.getD 9 0 = v at hi ⊢
    have hi : oItem s3.H (.lst H.length) (.int 9) = some (.int v) := hi
    have e2 : bWithout_2 s3 = some (.ret (.int v), s3) := by
      simp only [sSeq, sAssign, sRet, sFl, sIf, sExpr, eBin, eUn, eVar, eVal, eCall, eMeth, eBinG, esCons, esNil, eIf, tCmp, tNot, tAnd, tOr, tVal, tTrue, AS.put_get, AS.put_H, ne_code, isLst, isStr, if_true, if_false, eq_self, List.zip_cons_cons, List.zip_nil_right, locAfter, Nat.reduceBEq, Bool.false_eq_true, reduceCtorEq, code_COMPILER_FLAG_NAMES, code_S_IFMT, code__filemode_table, code__law_given, code__law_read, code__law_without, code__siftdown, code__siftup, code_begin, code_bit, code_char, code_childpos, code_counts, code_end, code_endpos, code_filemode, code_first, code_flag, code_flags, code_given, code_heap, code_heappop, code_heappush, code_hour, code_hours, code_i, code_index, code_item, code_k, code_last, code_lastelt, code_law, code_many, code_mode, code_most, code_names, code_newitem, code_numbers, code_octets, code_parent, code_parentpos, code_perm, code_pos, code_pretty_flags, code_returnitem, code_rightpos, code_rights, code_row, code_rows, code_script, code_startpos, code_stretches, code_table, code_v, bWithout_2, b4, hi]
    refine ⟨s3.H, ?_, b1⟩
    simp only [gWithout, gFn, List.length_cons, List.length_nil, if_true]
    rw [hst]
    unfold bWithout
    rw [sSeq_next e0, sSeq_next e1, e2]
  · exact h.elim
end Mine
end
/-! ## part FW32 -/
section
open PySem PySem.W PyProof.Rows PySem.Calls
set_option bootstrap.genMatcherCode false
namespace Mine
/-! ### counting -/
noncomputable def cP (n : Nat) (p : Nat → Bool) : Nat := (List.range n).countP p
theorem countP_le3 {p q r : Nat → Bool} : ∀ (l : List Nat), (∀ k ∈ l, (if p k then 1 else 0) + (if q k then 1 else 0) ≤ (if r k then 1 else 0 : Nat)) → l.countP p + l.countP q ≤ l.countP r
  | [], _ => by simp
  | x :: l, h => by
    have h1 := countP_le3 l fun k hk => h k (List.mem_cons_of_mem _ hk)
    have h2 := h x List.mem_cons_self
    rw [List.countP_cons, List.countP_cons, List.countP_cons]
    (first | lia | omega)
theorem countP_le3' {p q r : Nat → Bool} : ∀ (l : List Nat), (∀ k ∈ l, (if r k then 1 else 0 : Nat) ≤ (if p k then 1 else 0) + (if q k then 1 else 0)) → l.countP r ≤ l.countP p + l.countP q
  | [], _ => by simp
  | x :: l, h => by
    have h1 := countP_le3' l fun k hk => h k (List.mem_cons_of_mem _ hk)
    have h2 := h x List.mem_cons_self
    rw [List.countP_cons, List.countP_cons, List.countP_cons]
    (first | lia | omega)
theorem sub_len : ∀ (R L : List Nat), R.Nodup → (∀ x ∈ R, x ∈ L) → R.length ≤ L.length
  | [], _, _, _ => Nat.zero_le _
  | x :: R, L, hn, hs => by
    obtain ⟨h1, h2⟩ := List.nodup_cons.mp hn
    have hx := hs x List.mem_cons_self
    have := sub_len R (L.erase x) h2 fun y hy => by
      have hne : y ≠ x := fun e => h1 (e ▸ hy)
      exact (List.mem_erase_of_ne hne).mpr (hs y (List.mem_cons_of_mem _ hy))
    rw [List.length_erase, if_pos hx] at this
    have : 0 < L.length := List.length_pos_of_mem hx
    rw [List.length_cons]
    (first | lia | omega)
abbrev ja (J : Jb) (k : Nat) : Nat := (J.getD k (0, 0)).1
abbrev jb (J : Jb) (k : Nat) : Nat := (J.getD k (0, 0)).2
theorem jget {J : Jb} {k : Nat} (h : k < J.length) : J[k]? = some (ja J k, jb J k) := by
  unfold ja jb
  rw [List.getD_eq_getElem?_getD, List.getElem?_eq_getElem h]; rfl
theorem inside_cP (J : Jb) (x y : Nat) : inside J x y = cP J.length fun k => decide (x ≤ ja J k) && decide (jb J k ≤ y) := by
  have hJ : J = (List.range J.length).map fun k => J.getD k (0, 0) := by
    apply List.ext_getElem
    · simp
    · intro i h1 h2
      simp only [List.getElem_map, List.getElem_range]
      rw [List.getD_eq_getElem?_getD, List.getElem?_eq_getElem h1]; rfl
  unfold inside cP
  rw [← List.countP_eq_length_filter]
  conv => lhs; rw [hJ]
  rw [List.countP_map]
  rfl
section
variable {J : Jb} {gv : List Nat}
noncomputable def uns (J : Jb) (gv : List Nat) (e : Nat) : Nat := cP J.length fun k => decide (ga gv k = 9) && decide (jb J k ≤ e)
theorem upper_step (S : SInv J 9 gv) (hJ : JOk J) {b e : Nat} (hbe : b < e) : uns J gv b + inside J b e ≤ uns J gv e + (e - b) := by
  rw [inside_cP]
  have hjob : ∀ k, k < J.length → ja J k < jb J k ∧ jb J k ≤ 9 := fun k hk => hJ.1 _ (List.mem_of_getElem? (jget hk))
  have hsplit : cP J.length (fun k => decide (b ≤ ja J k) && decide (jb J k ≤ e)) ≤ cP J.length (fun k => decide (ga gv k = 9) && (decide (b ≤ ja J k) && decide (jb J k ≤ e))) + cP J.length (fun k => !decide (ga gv k = 9) && (decide (b ≤ ja J k) && decide (jb J k ≤ e))) := by
    refine countP_le3' _ fun k _ => ?_
    cases decide (ga gv k = 9) <;> simp
  have hun : uns J gv b + cP J.length (fun k => decide (ga gv k = 9) && (decide (b ≤ ja J k) && decide (jb J k ≤ e))) ≤ uns J gv e := by
    refine countP_le3 _ fun k hk => ?_
    have hk := List.mem_range.mp hk
    have := hjob k hk
    by_cases h9 : ga gv k = 9
    · by_cases h1 : jb J k ≤ b
      · have h2 : ¬ b ≤ ja J k := by (first | lia | omega)
        have h3 : jb J k ≤ e := by (first | lia | omega)
        simp [h9, h1, h2, h3]
      · by_cases h3 : jb J k ≤ e
        · by_cases h2 : b ≤ ja J k <;> simp [h9, h1, h2, h3]
        · simp [h9, h1, h3]
    · simp [h9]
  have hsv : cP J.length (fun k => !decide (ga gv k = 9) && (decide (b ≤ ja J k) && decide (jb J k ≤ e))) ≤ e - b := by
    unfold cP
    rw [List.countP_eq_length_filter]
    have := sub_len (((List.range J.length).filter fun k => !decide (ga gv k = 9) && (decide (b ≤ ja J k) && decide (jb J k ≤ e))).map (ga gv)) (List.range' b (e - b)) ?_ ?_
    · simpa using this
    · rw [List.nodup_iff_pairwise_ne, List.pairwise_map]
      refine List.Pairwise.imp_of_mem ?_ (List.nodup_iff_pairwise_ne.mp (List.nodup_range.filter _))
      intro x y hx hy hne heq
      simp only [List.mem_filter, List.mem_range, Bool.and_eq_true, Bool.not_eq_true', decide_eq_false_iff_not, decide_eq_true_eq] at hx hy
      exact hne (S.f2 x y hx.1 hy.1 heq hx.2.1)
    · intro x hx
      obtain ⟨k, hk, rfl⟩ := List.mem_map.mp hx
      simp only [List.mem_filter, List.mem_range, Bool.and_eq_true, Bool.not_eq_true', decide_eq_false_iff_not, decide_eq_true_eq] at hk
      obtain ⟨k1, k2, k3, k4⟩ := hk
      rcases S.f1 k _ _ (jget k1) with w | ⟨w1, w2, w3⟩
      · exact absurd w k2
      · rw [List.mem_range'_1]
        (first | lia | omega)
  (first | lia | omega)
noncomputable def usedBy (J : Jb) (gv : List Nat) (e h : Nat) : Prop := ∃ k, k < J.length ∧ ga gv k = h ∧ jb J k ≤ e
theorem f3' (S : SInv J 9 gv) {h i : Nat} (hh : h < 9) (hi : i < J.length) (h1 : ja J i ≤ h) (h2 : h < jb J i) (h3 : ga gv i = 9 ∨ h ≤ ga gv i) : ∃ k, k < J.length ∧ ga gv k = h ∧ jb J k ≤ jb J i := by
  obtain ⟨k, a, b, e1, e2, e3⟩ := S.f3 h hh i _ _ (jget hi) h1 h2 h3
  have hk := (List.getElem?_eq_some_iff.mp e1).1
  have := jget hk
  rw [e1] at this
  cases this
  exact ⟨k, hk, e2, e3⟩
/-- the least start of a run of used hours that ends at e -/
theorem least_start {P : Nat → Prop} {e : Nat} : ∀ (a : Nat), a ≤ e → (∀ h, a ≤ h → h < e → P h) → ∃ b, b ≤ a ∧ (∀ h, b ≤ h → h < e → P h) ∧ (0 < b → ¬ P (b - 1)) := by
  intro a
  induction a with
  | zero => intro _ h; exact ⟨0, Nat.le_refl _, h, fun h => by (first | lia | omega)⟩
  | succ a ih =>
    intro hae h
    by_cases hp : P a
    · obtain ⟨b, b1, b2, b3⟩ := ih (by (first | lia | omega)) fun x h1 h2 => by
        by_cases q : x = a
        · rw [q]; exact hp
        · exact h x (by (first | lia | omega)) h2
      exact ⟨b, by (first | lia | omega), b2, b3⟩
    · exact ⟨a + 1, Nat.le_refl _, h, fun _ => hp⟩
theorem lower_step (S : SInv J 9 gv) (hJ : JOk J) {e : Nat} (he : e < 9) (hex : ∃ j, j < J.length ∧ ga gv j = 9 ∧ jb J j = e + 1) :
    ∃ b, b < e + 1 ∧ uns J gv (e + 1) + (e + 1 - b) ≤ uns J gv b + inside J b (e + 1) := by
  have hjob : ∀ k, k < J.length → ja J k < jb J k ∧ jb J k ≤ 9 := fun k hk => hJ.1 _ (List.mem_of_getElem? (jget hk))
  obtain ⟨j, hj, hj9, hjb⟩ := hex
  have hjj := hjob j hj
  obtain ⟨b, b1, b2, b3⟩ := least_start (P := usedBy J gv (e + 1)) (e := e + 1) (ja J j) (by (first | lia | omega)) fun h h1 h2 => by
    obtain ⟨k, k1, k2, k3⟩ := f3' S (by (first | lia | omega)) hj h1 (by (first | lia | omega)) (.inl hj9)
    exact ⟨k, k1, k2, by (first | lia | omega)⟩
  have hge : ∀ i, i < J.length → jb J i ≤ e + 1 → b < jb J i → (ga gv i = 9 ∨ b ≤ ga gv i) → b ≤ ja J i := by
    intro i hi h1 h2 h3
    rcases Nat.lt_or_ge (ja J i) b with q | q
    · exfalso
      refine b3 (by (first | lia | omega)) ?_
      obtain ⟨k, k1, k2, k3⟩ := f3' S (h := b - 1) (by (first | lia | omega)) hi (by (first | lia | omega)) (by (first | lia | omega)) (h3.imp id fun w => by (first | lia | omega))
      exact ⟨k, k1, k2, by (first | lia | omega)⟩
    · exact q
  refine ⟨b, by (first | lia | omega), ?_⟩
  rw [inside_cP]
  have hsplit : cP J.length (fun k => decide (ga gv k = 9) && (decide (b ≤ ja J k) && decide (jb J k ≤ e + 1))) + cP J.length (fun k => !decide (ga gv k = 9) && (decide (b ≤ ja J k) && decide (jb J k ≤ e + 1))) ≤ cP J.length (fun k => decide (b ≤ ja J k) && decide (jb J k ≤ e + 1)) := by
    refine countP_le3 _ fun k _ => ?_
    cases decide (ga gv k = 9) <;> simp
  have hun : uns J gv (e + 1) ≤ uns J gv b + cP J.length (fun k => decide (ga gv k = 9) && (decide (b ≤ ja J k) && decide (jb J k ≤ e + 1))) := by
    refine countP_le3' _ fun k hk => ?_
    have hk := List.mem_range.mp hk
    by_cases h9 : ga gv k = 9
    · by_cases h3 : jb J k ≤ e + 1
      · by_cases h1 : jb J k ≤ b
        · simp [h9, h1, h3]
        · have := hge k hk h3 (by (first | lia | omega)) (.inl h9)
          simp [h9, h1, h3, this]
      · simp [h9, h3]
    · simp [h9]
  have hsv : e + 1 - b ≤ cP J.length (fun k => !decide (ga gv k = 9) && (decide (b ≤ ja J k) && decide (jb J k ≤ e + 1))) := by
    unfold cP
    rw [List.countP_eq_length_filter]
    have := sub_len (List.range' b (e + 1 - b)) (((List.range J.length).filter fun k => !decide (ga gv k = 9) && (decide (b ≤ ja J k) && decide (jb J k ≤ e + 1))).map (ga gv)) (List.nodup_range' (step := 1) (by decide)) fun h hh => by
      rw [List.mem_range'_1] at hh
      obtain ⟨k, k1, k2, k3⟩ := b2 h hh.1 (by (first | lia | omega))
      have hkk := hjob k k1
      have hne : ga gv k ≠ 9 := by (first | lia | omega)
      have hlt : b < jb J k := by
        rcases S.f1 k _ _ (jget k1) with w | ⟨w1, w2, w3⟩ <;> (first | lia | omega)
      have := hge k k1 k3 hlt (.inr (by (first | lia | omega)))
      refine List.mem_map.mpr ⟨k, ?_, k2⟩
      simp only [List.mem_filter, List.mem_range, Bool.and_eq_true, Bool.not_eq_true', decide_eq_false_iff_not, decide_eq_true_eq]
      exact ⟨k1, hne, this, k3⟩
    simpa using this
  (first | lia | omega)
/-! ### the table -/
theorem mostL_stable (J : Jb) (i : Nat) : ∀ e, i ≤ e → (mostL J e).getD i 0 = (mostL J i).getD i 0 := by
  intro e
  induction e with
  | zero => intro h; rw [Nat.le_zero.mp h]
  | succ e ih =>
    intro h
    by_cases q : i = e + 1
    · rw [q]
    · have := ih (by (first | lia | omega))
      rw [← this]
      show (mostL J e ++ _).getD i 0 = _
      rw [List.getD_eq_getElem?_getD, List.getElem?_append_left (by rw [mostL_len]; (first | lia | omega)), List.getD_eq_getElem?_getD]
noncomputable def mo (J : Jb) (e : Nat) : Int := (mostL J e).getD e 0
theorem mo_step (J : Jb) (e : Nat) : (mo J e :: (List.range (e + 1)).map fun b => mo J b + b - ((e + 1 : Nat) : Int) + inside J b (e + 1)).max? = some (mo J (e + 1)) := by
  have h1 : (List.range (e + 1)).map (cnt J (mostL J e) (e + 1)) = (List.range (e + 1)).map fun b => mo J b + b - ((e + 1 : Nat) : Int) + inside J b (e + 1) := by
    apply List.map_congr_left
    intro b hb
    have := mostL_stable J b e (by have := List.mem_range.mp hb; (first | lia | omega))
    unfold cnt mo
    rw [this]
  have h2 : mo J (e + 1) = ((mo J e :: (List.range (e + 1)).map (cnt J (mostL J e) (e + 1))).max?).getD 0 := by
    unfold mo
    show (mostL J e ++ [_]).getD (e + 1) 0 = _
    have hl := mostL_len J e
    rw [List.getD_eq_getElem?_getD, List.getElem?_append_right (by (first | lia | omega)), hl, Nat.sub_self]
    rfl
  rw [h1] at h2
  rw [h2]
  cases h : (mo J e :: (List.range (e + 1)).map fun b => mo J b + b - ((e + 1 : Nat) : Int) + inside J b (e + 1)).max? with
  | none => rw [List.max?_eq_none_iff] at h; cases h
  | some y => rfl
theorem count_eq (S : SInv J 9 gv) (hJ : JOk J) : ∀ e, e ≤ 9 → (uns J gv e : Int) = mo J e := by
  have hjob : ∀ k, k < J.length → ja J k < jb J k ∧ jb J k ≤ 9 := fun k hk => hJ.1 _ (List.mem_of_getElem? (jget hk))
  intro e
  induction e using Nat.strongRecOn with
  | _ e ih =>
    intro he
    cases e with
    | zero =>
      have : uns J gv 0 = 0 := by
        unfold uns cP
        rw [List.countP_eq_zero]
        intro k hk
        have := hjob k (List.mem_range.mp hk)
        simp; (first | lia | omega)
      rw [this]; rfl
    | succ e =>
      obtain ⟨m1, m2⟩ := List.max?_eq_some_iff.mp (mo_step J e)
      have ihe := ih e (by (first | lia | omega)) (by (first | lia | omega))
      have hmono : uns J gv e ≤ uns J gv (e + 1) := by
        unfold uns cP
        apply List.countP_mono_left
        intro k _ hk
        simp only [Bool.and_eq_true, decide_eq_true_eq] at hk ⊢
        exact ⟨hk.1, by (first | lia | omega)⟩
      apply Int.le_antisymm
      · by_cases hex : ∃ j, j < J.length ∧ ga gv j = 9 ∧ jb J j = e + 1
        · obtain ⟨b, hb, hle⟩ := lower_step S hJ (by (first | lia | omega)) hex
          have h1 := ih b (by (first | lia | omega)) (by (first | lia | omega))
          have h2 := m2 (mo J b + b - ((e + 1 : Nat) : Int) + inside J b (e + 1)) (List.mem_cons_of_mem _ (List.mem_map.mpr ⟨b, List.mem_range.mpr hb, rfl⟩))
          (first | lia | omega)
        · have heq : uns J gv (e + 1) = uns J gv e := by
            unfold uns cP
            apply List.countP_congr
            intro k hk
            have hk := List.mem_range.mp hk
            have : ¬ (ga gv k = 9 ∧ jb J k = e + 1) := fun w => hex ⟨k, hk, w.1, w.2⟩
            simp only [Bool.and_eq_true, decide_eq_true_eq]
            (first | lia | omega)
          have h2 := m2 (mo J e) List.mem_cons_self
          (first | lia | omega)
      · rcases List.mem_cons.mp m1 with h | h
        · (first | lia | omega)
        · obtain ⟨b, hb, hbe⟩ := List.mem_map.mp h
          have hb := List.mem_range.mp hb
          have h1 := ih b (by (first | lia | omega)) (by (first | lia | omega))
          have h2 := upper_step S hJ (b := b) (e := e + 1) hb
          (first | lia | omega)
theorem count_nine (S : SInv J 9 gv) (hJ : JOk J) : ((gv.map fun x : Nat => (x : Int)).count 9 : Int) = (mostL J 9).getD 9 0 := by
  have hjob : ∀ k, k < J.length → ja J k < jb J k ∧ jb J k ≤ 9 := fun k hk => hJ.1 _ (List.mem_of_getElem? (jget hk))
  have h1 := count_eq S hJ 9 (Nat.le_refl _)
  have h2 : (gv.map fun x : Nat => (x : Int)).count 9 = uns J gv 9 := by
    have hgv : gv = (List.range J.length).map (ga gv) := by
      apply List.ext_getElem
      · simp [S.len]
      · intro i h1 h2
        simp only [List.getElem_map, List.getElem_range]
        unfold ga
        rw [List.getD_eq_getElem?_getD, List.getElem?_eq_getElem h1]; rfl
    unfold uns cP
    rw [List.count_eq_countP]
    conv => lhs; rw [hgv]
    rw [List.map_map, List.countP_map]
    apply List.countP_congr
    intro k hk
    have := (hjob k (List.mem_range.mp hk)).2
    simp only [Function.comp, beq_iff_eq, Bool.and_eq_true, decide_eq_true_eq]
    (first | lia | omega)
  rw [h2, h1]
  rfl
end
end Mine
end
/-! ## part FW33 -/
section
open PySem PySem.W PyProof.Rows PySem.Calls
set_option bootstrap.genMatcherCode false
namespace Mine
/-! ### the law's own parts -/
noncomputable def jobN (v : Int) : Nat × Nat := ((v.fmod 9).toNat, (v.fmod 9 + 1 + (v.fdiv 9).fmod (9 - v.fmod 9)).toNat)
theorem fmod_9 (v : Int) : 0 ≤ v.fmod 9 ∧ v.fmod 9 < 9 := ⟨Int.fmod_nonneg_of_pos _ (by decide), Int.fmod_lt_of_pos _ (by decide)⟩
theorem jobN_arith {x y : Int} (h : 0 ≤ y ∧ y < 9) (h1 : 0 ≤ x) (h2 : x < 9 - y) : (y.toNat : Int) = y ∧ ((y + 1 + x).toNat : Int) = y + 1 + x ∧ y.toNat < (y + 1 + x).toNat ∧ (y + 1 + x).toNat ≤ 9 := by
  have e1 := Int.toNat_of_nonneg h.1
  have e2 := Int.toNat_of_nonneg (a := y + 1 + x) (Int.add_nonneg (Int.add_nonneg h.1 (by decide)) h1)
  refine ⟨e1, e2, Int.ofNat_lt.mp ?_, Int.ofNat_le.mp ?_⟩
  · rw [e1, e2]; lia
  · rw [e2]; show y + 1 + x ≤ 9; lia
theorem jobN_spec (v : Int) : ((jobN v).1 : Int) = v.fmod 9 ∧ ((jobN v).2 : Int) = v.fmod 9 + 1 + (v.fdiv 9).fmod (9 - v.fmod 9) ∧ (jobN v).1 < (jobN v).2 ∧ (jobN v).2 ≤ 9 := by
  have h := fmod_9 v
  have h0 : 0 < 9 - v.fmod 9 := Int.sub_pos_of_lt h.2
  exact jobN_arith h (Int.fmod_nonneg_of_pos _ h0) (Int.fmod_lt_of_pos _ h0)
theorem oMod (H : List (List AV)) (a b : Int) (hb : b ≠ 0) : oInt fMod H (.int a) (.int b) = some (.int (a.fmod b)) := by
  unfold oInt fMod
  dsimp only
  rw [if_pos hb]
theorem oDiv (H : List (List AV)) (a b : Int) (hb : 0 < b ∧ b < 1000000) : oInt fDiv H (.int a) (.int b) = some (.int (a.fdiv b)) := by
  unfold oInt fDiv
  dsimp only
  rw [if_pos hb]
theorem eVal_ok (v : AV) (st : AS) : eVal v st = some (v, st) := rfl
theorem eVar_ok {st : AS} {x : Str} {v : AV} (h : st.loc x = some v) : eVar x st = some (v, st) := by
  unfold eVar; rw [h]
theorem c1_x (d : Addr) {st : AS} {v : Int} (h : st.loc (Str.ofString "v") = some (.int v)) : bLaw_c1_x d st = some (.tuple [.int ((jobN v).1 : Int), .int ((jobN v).2 : Int)], st) := by
  obtain ⟨h1, h2, _, _⟩ := jobN_spec v
  rw [h1, h2]
  have hf := fmod_9 v
  have hv := eVar_ok h
  have e1 : eBin (oInt fMod) (eVar (Str.ofString "v")) (eVal (.int 9)) st = some (.int (v.fmod 9), st) := eBin_ok hv (eVal_ok _ _) (oMod _ _ _ (by decide))
  have e2 : eBin (oInt fDiv) (eVar (Str.ofString "v")) (eVal (.int 9)) st = some (.int (v.fdiv 9), st) := eBin_ok hv (eVal_ok _ _) (oDiv _ _ _ (by decide))
  have e3 := eBin_ok (eVal_ok (.int 9) st) e1 (oSub _ _ _)
  have e4 := eBin_ok e2 e3 (oMod st.H _ _ (by (first | lia | omega)))
  have e5 := eBin_ok (eBin_ok e1 (eVal_ok (.int 1) st) (oAdd _ _ _)) e4 (oAdd _ _ _)
  simp only [bLaw_c1_x, eCall, esCons, esNil, e1, e5, gTuple]
theorem comp_stretches (d : Addr) {st : AS} {l : Nat} {ns : List Int} (hl : st.H[l]? = some (intsAV ns)) (h : st.loc (Str.ofString "numbers") = some (.lst l)) (hn : ns.length ≤ 50) :
    eComp 100 (iOf (eVar (Str.ofString "numbers"))) [] (tgName (Str.ofString "v")) tTrue (bLaw_c1_x d) st = some (.lst st.H.length, { st with H := st.H ++ [strAV (ns.map jobN)] }) := by
  obtain ⟨ys, st', hP, hgo⟩ := comp_any (tg := tgName (Str.ofString "v")) (tst := tTrue) (elt := bLaw_c1_x d) (fun j => .lst l j) (fun j => .int (ns.getD j 0)) ns.length
    (fun j acc s => s.H = st.H ∧ acc = strAV ((ns.take j).map jobN))
    (fun j acc s hj hP => by
      refine lst_next (by rw [hP.1]; exact hl) ?_
      unfold intsAV
      rw [List.getElem?_map, List.getD_eq_getElem?_getD, List.getElem?_eq_getElem hj]; rfl)
    (fun acc s hP => by
      have := lst_end (l := l) (H := s.H) (xs := intsAV ns) (by rw [hP.1]; exact hl)
      unfold intsAV at this
      rw [List.length_map] at this; exact this)
    (fun j acc s hj hP => by
      obtain ⟨a1, a2⟩ := hP
      have hget : ns[j]? = some (ns.getD j 0) := by rw [List.getD_eq_getElem?_getD, List.getElem?_eq_getElem hj]; rfl
      generalize ns.getD j 0 = v at hget
      refine ⟨s.put (Str.ofString "v") (.int v), true, s.put (Str.ofString "v") (.int v), rfl, rfl, fun _ => ⟨_, _, c1_x d (v := v) (by (first | exact put_same _ _ _ | exact loc_o (put_same _ _ _) (by decide) | exact loc_o (loc_o (put_same _ _ _) (by decide)) (by decide))), a1, ?_⟩, fun h => (by cases h)⟩
      rw [a2, List.take_add_one, hget, List.map_append]
      unfold strAV
      rw [List.map_append]
      rfl)
    ns.length 0 [] (compLoc [] st) 100 (by (first | lia | omega)) ⟨rfl, by simp [strAV]⟩ (by (first | lia | omega))
  obtain ⟨c1, c2⟩ := hP
  rw [List.take_length] at c2
  have hi : iOf (eVar (Str.ofString "numbers")) st = some (.lst l 0, st) := iOf_ok (eVar_ok h) rfl
  unfold eComp
  rw [if_pos (by simp), hi]
  dsimp only
  rw [hgo, c2]
  dsimp only
  rw [c1]
/-! rights and octets -/
theorem sum_rights0 : ∀ a ∈ List.range 9, ∀ b ∈ List.range 10, a < b → (((List.range (b - a)).map fun j => ((2 ^ (8 - (a + j)) : Nat) : Int)).sum = (rightsOf a b : Int)) := by decide +kernel
theorem c2_x (d : Addr) {st : AS} {x : Nat} (hx : x < 9) (h : st.loc (Str.ofString "hour") = some (.int x)) : bLaw_c2_x d st = some (.int ((2 ^ (8 - x) : Nat) : Int), st) := by
  have e1 : eBin (oInt fSub) (eVal (.int 8)) (eVar (Str.ofString "hour")) st = some (.int (8 - (x : Int)), st) := eBin_ok (eVal_ok _ _) (eVar_ok h) (oSub _ _ _)
  rw [show (8 - (x : Int)) = ((8 - x : Nat) : Int) by (first | lia | omega)] at e1
  unfold bLaw_c2_x
  exact eBin_ok (eVal_ok _ _) e1 (oShl1 _ _ (by (first | lia | omega)))
theorem comp_rights (d : Addr) {st : AS} {a b : Nat} (hab : a < b) (hb : b ≤ 9) (h1 : st.loc (Str.ofString "first") = some (.int a)) (h2 : st.loc (Str.ofString "last") = some (.int b)) :
    eComp 100 (iOf (eCall gRange (esCons (eVar (Str.ofString "first")) (esCons (eVar (Str.ofString "last")) esNil)))) [] (tgName (Str.ofString "hour")) tTrue (bLaw_c2_x d) st =
      some (.lst st.H.length, { st with H := st.H ++ [intsAV ((List.range (b - a)).map fun j => ((2 ^ (8 - (a + j)) : Nat) : Int))] }) := by
  obtain ⟨ys, st', hP, hgo⟩ := comp_any (tg := tgName (Str.ofString "hour")) (tst := tTrue) (elt := bLaw_c2_x d) (rngAt a (b - a)) (fun j => .int ((a : Int) + j)) (b - a)
    (fun j acc s => s.H = st.H ∧ acc = intsAV ((List.range j).map fun j => ((2 ^ (8 - (a + j)) : Nat) : Int)))
    (fun j acc s hj hP => rng_next a (b - a) s.H j hj) (fun acc s hP => rng_end a (b - a) s.H)
    (fun j acc s hj hP => by
      obtain ⟨a1, a2⟩ := hP
      have hj0 : ((a : Int) + (j : Int)) = ((a + j : Nat) : Int) := by (first | lia | omega)
      rw [hj0]
      refine ⟨s.put (Str.ofString "hour") (.int ((a + j : Nat) : Int)), true, s.put (Str.ofString "hour") (.int ((a + j : Nat) : Int)), rfl, rfl, fun _ => ⟨_, _, c2_x d (x := a + j) (by (first | lia | omega)) (by (first | exact put_same _ _ _ | exact loc_o (put_same _ _ _) (by decide) | exact loc_o (loc_o (put_same _ _ _) (by decide)) (by decide))), a1, ?_⟩, fun h => (by cases h)⟩
      rw [a2, List.range_succ, List.map_append]
      unfold intsAV
      rw [List.map_append]
      rfl)
    (b - a) 0 [] (compLoc [] st) 100 (by (first | lia | omega)) ⟨rfl, rfl⟩ (by (first | lia | omega))
  obtain ⟨c1, c2⟩ := hP
  have hr : eCall gRange (esCons (eVar (Str.ofString "first")) (esCons (eVar (Str.ofString "last")) esNil)) st = some (.rng a b, st) := by simp only [sSeq, sAssign, sRet, sFl, sIf, sExpr, eBin, eUn, eVar, eVal, eCall, eMeth, eBinG, esCons, esNil, eIf, tCmp, tNot, tAnd, tOr, tVal, tTrue, AS.put_get, AS.put_H, ne_code, isLst, isStr, if_true, if_false, eq_self, List.zip_cons_cons, List.zip_nil_right, locAfter, Nat.reduceBEq, Bool.false_eq_true, reduceCtorEq, code_COMPILER_FLAG_NAMES, code_S_IFMT, code__filemode_table, code__law_given, code__law_read, code__law_without, code__siftdown, code__siftup, code_begin, code_bit, code_char, code_childpos, code_counts, code_end, code_endpos, code_filemode, code_first, code_flag, code_flags, code_given, code_heap, code_heappop, code_heappush, code_hour, code_hours, code_i, code_index, code_item, code_k, code_last, code_lastelt, code_law, code_many, code_mode, code_most, code_names, code_newitem, code_numbers, code_octets, code_parent, code_parentpos, code_perm, code_pos, code_pretty_flags, code_returnitem, code_rightpos, code_rights, code_row, code_rows, code_script, code_startpos, code_stretches, code_table, code_v, h1, h2, gRange]
  have hi : iOf (eCall gRange (esCons (eVar (Str.ofString "first")) (esCons (eVar (Str.ofString "last")) esNil))) st = some (rngAt a (b - a) 0, st) := by
    have h3 := itOf_rng (a : Int) (b : Int) ⟨by (first | lia | omega), by (first | lia | omega), by (first | lia | omega), by (first | lia | omega)⟩
    have h4 : ((b : Int) - (a : Int)).toNat = b - a := by (first | lia | omega)
    rw [h4] at h3
    have h5 : rngAt a (b - a) 0 = .rng a (b - a) := by unfold rngAt; simp
    rw [h5]
    exact iOf_ok hr h3
  unfold eComp
  rw [if_pos (by simp), hi]
  dsimp only
  rw [hgo, c2]
  dsimp only
  rw [c1]
noncomputable def octs (p : Nat × Nat) : List AV := [.int 72, .int ((64 + rightsOf p.1 p.2 / 64 : Nat) : Int), .int ((rightsOf p.1 p.2 % 64 : Nat) : Int)]
theorem decode_octs : ∀ (J : Jb), (∀ p ∈ J, p.1 < p.2 ∧ p.2 ≤ 9) → decode (J.flatMap octs) = some (J.map fun p => .int ((32768 + rightsOf p.1 p.2 : Nat) : Int))
  | [], _ => rfl
  | p :: J, h => by
    have ih := decode_octs J fun q hq => h q (List.mem_cons_of_mem _ hq)
    have hp := h p List.mem_cons_self
    have hr := rights_lt hp.1 hp.2
    rw [List.flatMap_cons]
    generalize hR : rightsOf p.1 p.2 = R at hr
    show decode (octs p ++ _) = _
    unfold octs
    rw [hR]
    have hc : (72 : Int) = 72 ∧ 64 ≤ ((64 + R / 64 : Nat) : Int) ∧ ((64 + R / 64 : Nat) : Int) < 72 ∧ 0 ≤ ((R % 64 : Nat) : Int) ∧ ((R % 64 : Nat) : Int) < 64 := ⟨rfl, by (first | lia | omega), by (first | lia | omega), by (first | lia | omega), by (first | lia | omega)⟩
    have hv : (32768 : Int) + (((64 + R / 64 : Nat) : Int) - 64) * 64 + ((R % 64 : Nat) : Int) = ((32768 + R : Nat) : Int) := by (first | lia | omega)
    rw [List.map_cons, hR, ← hv]
    generalize ((64 + R / 64 : Nat) : Int) = B at hc ⊢
    generalize ((R % 64 : Nat) : Int) = D at hc ⊢
    show decode (.int 72 :: .int B :: .int D :: J.flatMap octs) = _
    unfold decode
    rw [if_pos hc, ih]
end Mine
end
/-! ## part FW34 -/
section
open PySem PySem.W PyProof.Rows PySem.Calls
set_option bootstrap.genMatcherCode false
namespace Mine
theorem eCall1_ok {g : GF} {a : EM} {st s1 : AS} {x v : AV} {H' : List (List AV)} (h : a st = some (x, s1)) (h2 : g [x] s1.H = some (v, H')) : eCall g (esCons a esNil) st = some (v, { s1 with H := H' }) := by
  simp only [eCall, esCons, esNil, h, h2]
theorem eMeth1_ok {p : AV → Bool} {g : GF} {o a : EM} {st s1 s2 : AS} {x y v : AV} {H' : List (List AV)} (ho : o st = some (x, s1)) (hp : p x = true) (h : a s1 = some (y, s2)) (h2 : g [x, y] s2.H = some (v, H')) : eMeth p g o (esCons a esNil) st = some (v, { s2 with H := H' }) := by
  simp only [eMeth, ho, hp, esCons, esNil, h, h2]
theorem sAssign_ok {x : Str} {a : EM} {st s1 : AS} {v : AV} (h : a st = some (v, s1)) : sAssign x a st = some (.next, s1.put x v) := by
  simp only [sAssign, h]
theorem sExpr_ok {a : EM} {st s1 : AS} {v : AV} (h : a st = some (v, s1)) : sExpr a st = some (.next, s1) := by
  simp only [sExpr, h]
theorem gSum_eq {H : List (List AV)} {l : Nat} {ns : List Int} (h : H[l]? = some (intsAV ns)) : gSum [.lst l] H = some (.int ns.sum, H) := by
  unfold intsAV at h
  simp only [gSum, h, intsOf_map]
theorem gExtend_eq {H : List (List AV)} {l m : Nat} {xs ys : List AV} (h : H[l]? = some xs) (h2 : H[m]? = some ys) (hx : xs.length + ys.length ≤ 1000000) : gExtend [.lst l, .lst m] H = some (.none, H.set l (xs ++ ys)) := by
  simp only [gExtend, h, h2]; rw [if_pos hx]
theorem octets_step (d : Addr) {st : AS} {H0 : List (List AV)} {o a b s n : Nat} {os : List AV} (hK : Kept H0 st.H) (ho0 : H0.length ≤ o) (ho : st.H[o]? = some os) (hos : os.length ≤ 1000) (hab : a < b) (hb : b ≤ 9)
    (h1 : st.loc (Str.ofString "first") = some (.int a)) (h2 : st.loc (Str.ofString "last") = some (.int b)) (h3 : st.loc (Str.ofString "octets") = some (.lst o)) (h4 : st.loc (Str.ofString "stretches") = some (.lst s)) (h5 : st.loc (Str.ofString "names") = some (.lst n)) :
    ∃ st', bLaw_f3_b d st = some (.next, st') ∧ Kept H0 st'.H ∧ st'.H[o]? = some (os ++ octs (a, b)) ∧ st'.loc (Str.ofString "octets") = some (.lst o) ∧ st'.loc (Str.ofString "stretches") = some (.lst s) ∧ st'.loc (Str.ofString "names") = some (.lst n) := by
  have hc := comp_rights d hab hb h1 h2
  have hsum := sum_rights0 a (ab_mem hab hb).1 b (ab_mem hab hb).2 hab
  have hr := rights_lt hab hb
  generalize hL : (List.range (b - a)).map (fun j => ((2 ^ (8 - (a + j)) : Nat) : Int)) = L at hc hsum
  have hg := gSum_eq (get_new st.H (intsAV L))
  rw [hsum] at hg
  have e0 := sAssign_ok (x := (Str.ofString "rights")) (eCall1_ok hc hg)
  generalize hs1 : AS.put { { st with H := st.H ++ [intsAV L] } with H := st.H ++ [intsAV L] } (Str.ofString "rights") (.int (rightsOf a b)) = s1 at e0
  have f1 : s1.loc (Str.ofString "rights") = some (.int (rightsOf a b)) := by rw [← hs1]; (first | exact put_same _ _ _ | exact loc_o (put_same _ _ _) (by decide) | exact loc_o (loc_o (put_same _ _ _) (by decide)) (by decide))
  have f2 : s1.loc (Str.ofString "octets") = some (.lst o) := by rw [← hs1]; (first | exact h3 | exact loc_o h3 (by decide) | exact loc_o (loc_o h3 (by decide)) (by decide))
  have f3 : s1.loc (Str.ofString "stretches") = some (.lst s) := by rw [← hs1]; (first | exact h4 | exact loc_o h4 (by decide) | exact loc_o (loc_o h4 (by decide)) (by decide))
  have f4 : s1.loc (Str.ofString "names") = some (.lst n) := by rw [← hs1]; (first | exact h5 | exact loc_o h5 (by decide) | exact loc_o (loc_o h5 (by decide)) (by decide))
  have fH : s1.H = st.H ++ [intsAV L] := by rw [← hs1]; rfl
  have g1 := eBin_ok (eVal_ok (.int 64) s1) (eBin_ok (eVar_ok f1) (eVal_ok (.int 64) s1) (oDiv _ _ _ (by decide))) (oAdd _ _ _)
  have g2 := eBin_ok (eVar_ok f1) (eVal_ok (.int 64) s1) (oMod s1.H _ _ (by decide))
  have hd : (64 : Int) + (rightsOf a b : Int).fdiv 64 = ((64 + rightsOf a b / 64 : Nat) : Int) := by
    rw [Int.fdiv_eq_ediv_of_nonneg _ (by decide)]; (first | lia | omega)
  have hm : (rightsOf a b : Int).fmod 64 = ((rightsOf a b % 64 : Nat) : Int) := by
    rw [Int.fmod_eq_emod_of_nonneg _ (by decide)]; (first | lia | omega)
  rw [hd] at g1
  rw [hm] at g2
  have hlist : eCall gList (esCons (eVal (.int 72)) (esCons (eBin (oInt fAdd) (eVal (.int 64)) (eBin (oInt fDiv) (eVar (Str.ofString "rights")) (eVal (.int 64)))) (esCons (eBin (oInt fMod) (eVar (Str.ofString "rights")) (eVal (.int 64))) esNil))) s1 =
      some (.lst s1.H.length, { s1 with H := s1.H ++ [octs (a, b)] }) := by
    simp only [eCall, esCons, esNil, eVal_ok, g1, g2, gList_eq]
    rfl
  have ho1 : (s1.H ++ [octs (a, b)])[o]? = some os := (Kept.app _ _).get (by rw [fH]; exact (Kept.app _ _).get ho)
  have hext := gExtend_eq ho1 (get_new s1.H (octs (a, b))) (by show os.length + 3 ≤ _; (first | lia | omega))
  have e1 := sExpr_ok (eMeth1_ok (p := isLst) (eVar_ok f2) rfl hlist hext)
  refine ⟨{ s1 with H := (s1.H ++ [octs (a, b)]).set o (os ++ octs (a, b)) }, ?_, ?_, ?_, f2, f3, f4⟩
  · unfold bLaw_f3_b
    rw [sSeq_next e0]
    exact e1
  · intro i hi
    show ((s1.H ++ [octs (a, b)]).set o _)[i]? = _
    rw [List.getElem?_set_ne (by (first | lia | omega))]
    exact (hK.trans ((Kept.app st.H _).trans (by rw [← fH]; exact Kept.app _ _))) i hi
  · show ((s1.H ++ [octs (a, b)]).set o _)[o]? = _
    exact List.getElem?_set_self (lt_of_get ho1)
theorem octets_loop (d : Addr) {st : AS} {J : Jb} {o s n : Nat} (hJ : JOk J) (hs : st.H[s]? = some (strAV J)) (hso : s < o) (ho : st.H[o]? = some []) (h3 : st.loc (Str.ofString "octets") = some (.lst o)) (h4 : st.loc (Str.ofString "stretches") = some (.lst s)) (h5 : st.loc (Str.ofString "names") = some (.lst n)) :
    ∃ st', bLaw_4 d st = some (.next, st') ∧ Kept (st.H.take o) st'.H ∧ st'.H[o]? = some (J.flatMap octs) ∧ st'.loc (Str.ofString "octets") = some (.lst o) ∧ st'.loc (Str.ofString "stretches") = some (.lst s) ∧ st'.loc (Str.ofString "names") = some (.lst n) := by
  have hol := lt_of_get ho
  have hK0 : Kept (st.H.take o) st.H := fun i hi => by
    rw [List.length_take] at hi
    rw [List.getElem?_take_of_lt (by (first | lia | omega))]
  have hs0 : (st.H.take o)[s]? = some (strAV J) := by rw [List.getElem?_take_of_lt hso]; exact hs
  have hlen : ∀ j, ((J.take j).flatMap octs).length ≤ 60 := fun j => by
    have h1 : ∀ K : Jb, (K.flatMap octs).length = 3 * K.length := by
      intro K
      induction K with
      | nil => rfl
      | cons p K ih => rw [List.flatMap_cons, List.length_append, ih]; simp only [octs, List.length_cons, List.length_nil]; (first | lia | omega)
    rw [h1, List.length_take]
    have := hJ.2
    (first | lia | omega)
  obtain ⟨st', h⟩ := for_any (tg := tgPair (Str.ofString "first") (Str.ofString "last")) (b := bLaw_f3_b d) (els := sFl .next) (fun j => .lst s j) (fun j => .tuple [.int ((J.getD j (0, 0)).1 : Int), .int ((J.getD j (0, 0)).2 : Int)]) J.length
    (fun j t => Kept (st.H.take o) t.H ∧ t.H[o]? = some ((J.take j).flatMap octs) ∧ t.loc (Str.ofString "octets") = some (.lst o) ∧ t.loc (Str.ofString "stretches") = some (.lst s) ∧ t.loc (Str.ofString "names") = some (.lst n)) (fun _ => False)
    (fun j t hj hP => by
      refine lst_next (hP.1.get hs0) ?_
      unfold strAV
      rw [List.getElem?_map, List.getD_eq_getElem?_getD, List.getElem?_eq_getElem hj]; rfl)
    (fun t hP => by
      have := lst_end (hP.1.get hs0)
      unfold strAV at this
      rw [List.length_map] at this; exact this)
    (fun j t hj hP => by
      obtain ⟨a1, a2, a3, a4, a5⟩ := hP
      have hget : J[j]? = some (J.getD j (0, 0)) := by rw [List.getD_eq_getElem?_getD, List.getElem?_eq_getElem hj]; rfl
      generalize J.getD j (0, 0) = p at hget
      obtain ⟨a, b⟩ := p
      have hab := hJ.1 (a, b) (List.mem_of_getElem? hget)
      dsimp only at hab ⊢
      obtain ⟨t', b1, b2, b3, b4, b5, b6⟩ := octets_step d (st := (t.put (Str.ofString "first") (.int a)).put (Str.ofString "last") (.int b)) (a := a) (b := b) (s := s) (n := n) a1 (by rw [List.length_take]; (first | lia | omega)) a2 (by have := hlen j; (first | lia | omega)) hab.1 hab.2 (by (first | exact put_same _ _ _ | exact loc_o (put_same _ _ _) (by decide) | exact loc_o (loc_o (put_same _ _ _) (by decide)) (by decide))) (by (first | exact put_same _ _ _ | exact loc_o (put_same _ _ _) (by decide) | exact loc_o (loc_o (put_same _ _ _) (by decide)) (by decide))) (by (first | exact a3 | exact loc_o a3 (by decide) | exact loc_o (loc_o a3 (by decide)) (by decide))) (by (first | exact a4 | exact loc_o a4 (by decide) | exact loc_o (loc_o a4 (by decide)) (by decide))) (by (first | exact a5 | exact loc_o a5 (by decide) | exact loc_o (loc_o a5 (by decide)) (by decide)))
      refine ⟨_, t', rfl, .inl ⟨.inl b1, b2, ?_, b4, b5, b6⟩⟩
      rw [b3, List.take_add_one, hget, List.flatMap_append]
      rfl)
    J.length 0 st 100 (by (first | lia | omega)) ⟨hK0, ho, h3, h4, h5⟩ (by have := hJ.2; (first | lia | omega))
  rcases h with ⟨⟨b1, b2, b3, b4, b5⟩, e⟩ | ⟨h, _⟩
  · rw [List.take_length] at b2
    refine ⟨st', ?_, b1, b2, b3, b4, b5⟩
    unfold bLaw_4 sFor
    rw [iOf_ok (eVar_ok h4) (show itOf (.lst s) = some (.lst s 0) from rfl)]
    exact e
  · exact h.elim
end Mine
end
/-! ## part FW35 -/
section
open PySem PySem.W PyProof.Rows PySem.Calls
set_option bootstrap.genMatcherCode false
namespace Mine
theorem comp_rows (d : Addr) {st : AS} {J : Jb} {o : Nat} (hJ : JOk J) (ho : st.H[o]? = some (J.flatMap octs)) (h : st.loc (Str.ofString "octets") = some (.lst o)) :
    ∃ H', Kept st.H H' ∧ eComp 100 (iOf (eCall gRead (esCons (eVar (Str.ofString "octets")) esNil))) [] (tgName (Str.ofString "mode")) tTrue (bLaw_c4_x d) st = some (.lst H'.length, { st with H := H' ++ [rowsOf J] }) := by
  generalize hM : (J.map fun p => AV.int ((32768 + rightsOf p.1 p.2 : Nat) : Int)) = M
  have hMl : M.length = J.length := by rw [← hM, List.length_map]
  have hrd : gRead [.lst o] st.H = some (.lst st.H.length, st.H ++ [M]) := by
    have hd := decode_octs J hJ.1
    rw [hM] at hd
    have hl : M.length ≤ 30 := by have := hJ.2; (first | lia | omega)
    simp only [gRead, ho, hd]
    rw [if_pos hl]
  have hi : iOf (eCall gRead (esCons (eVar (Str.ofString "octets")) esNil)) st = some (.lst st.H.length 0, { st with H := st.H ++ [M] }) := iOf_ok (eCall1_ok (eVar_ok h) hrd) rfl
  obtain ⟨ys, st', hP, hgo⟩ := comp_any (tg := tgName (Str.ofString "mode")) (tst := tTrue) (elt := bLaw_c4_x d) (fun j => .lst st.H.length j) (fun j => .int ((32768 + rightsOf (J.getD j (0, 0)).1 (J.getD j (0, 0)).2 : Nat) : Int)) J.length
    (fun j acc s => Kept (st.H ++ [M]) s.H ∧ acc = rowsOf (J.take j))
    (fun j acc s hj hP => by
      refine lst_next (hP.1.get (get_new st.H M)) ?_
      rw [← hM, List.getElem?_map, List.getD_eq_getElem?_getD, List.getElem?_eq_getElem hj]; rfl)
    (fun acc s hP => by
      have := lst_end (hP.1.get (get_new st.H M))
      rw [hMl] at this; exact this)
    (fun j acc s hj hP => by
      obtain ⟨a1, a2⟩ := hP
      have hget : J[j]? = some (J.getD j (0, 0)) := by rw [List.getD_eq_getElem?_getD, List.getElem?_eq_getElem hj]; rfl
      generalize J.getD j (0, 0) = p at hget
      obtain ⟨a, b⟩ := p
      have hab := hJ.1 (a, b) (List.mem_of_getElem? hget)
      dsimp only at hab ⊢
      obtain ⟨perm, hm⟩ := gMode_row hab.1 hab.2 s.H
      generalize ((32768 + rightsOf a b : Nat) : Int) = m at hm ⊢
      have hx : bLaw_c4_x d (s.put (Str.ofString "mode") (.int m)) = some (.str (rowStr a b), { s.put (Str.ofString "mode") (.int m) with H := s.H ++ [perm] }) := eCall1_ok (eVar_ok (by (first | exact put_same _ _ _ | exact loc_o (put_same _ _ _) (by decide) | exact loc_o (loc_o (put_same _ _ _) (by decide)) (by decide)))) hm
      refine ⟨s.put (Str.ofString "mode") (.int m), true, s.put (Str.ofString "mode") (.int m), rfl, rfl, fun _ => ⟨_, _, hx, a1.trans (Kept.app _ _), ?_⟩, fun h => (by cases h)⟩
      rw [a2, List.take_add_one, hget]
      unfold rowsOf
      rw [List.map_append]
      rfl)
    J.length 0 [] (compLoc [] { st with H := st.H ++ [M] }) 100 (by (first | lia | omega)) ⟨Kept.refl _, rfl⟩ (by have := hJ.2; (first | lia | omega))
  obtain ⟨c1, c2⟩ := hP
  rw [List.take_length] at c2
  refine ⟨st'.H, (Kept.app _ _).trans c1, ?_⟩
  unfold eComp
  rw [if_pos (by simp), hi]
  dsimp only
  rw [hgo, c2]
end Mine
end
/-! ## part FW36 -/
section
open PySem PySem.W PyProof.Rows PySem.Calls
set_option bootstrap.genMatcherCode false
namespace Mine
noncomputable def allBools : Nat → List (List Bool)
  | 0 => [[]]
  | n + 1 => (allBools n).flatMap fun l => [false :: l, true :: l]
theorem mem_allBools : ∀ l : List Bool, l ∈ allBools l.length
  | [] => by simp [allBools]
  | b :: l => by
    have := mem_allBools l
    simp only [allBools, List.length_cons, List.mem_flatMap]
    exact ⟨l, this, by cases b <;> simp⟩
noncomputable def hsOf (bs : List Bool) : List Nat := (List.range 9).filter fun h => bs.getD h false
noncomputable def maskOf (hs : List Nat) : Nat := (hs.map fun h => 2 ^ (8 - h)).sum
theorem mask_fact0 : ∀ bs ∈ allBools 9, maskOf (hsOf bs) < 512 ∧ bitsUpto (maskOf (hsOf bs)) 9 = (hsOf bs).reverse.map (fun h => 8 - h) ∧ (maskOf (hsOf bs) = 0 → hsOf bs = []) := by decide +kernel
theorem mask_fact (P : Nat → Bool) : maskOf ((List.range 9).filter P) < 512 ∧ bitsUpto (maskOf ((List.range 9).filter P)) 9 = ((List.range 9).filter P).reverse.map (fun h => 8 - h) ∧ (maskOf ((List.range 9).filter P) = 0 → (List.range 9).filter P = []) := by
  have h := mask_fact0 ((List.range 9).map P) (by simpa using mem_allBools ((List.range 9).map P))
  have e : hsOf ((List.range 9).map P) = (List.range 9).filter P := by
    unfold hsOf
    apply List.filter_congr
    intro x hx
    have hx := List.mem_range.mp hx
    rw [List.getD_eq_getElem?_getD, List.getElem?_map, List.getElem?_range hx]
    rfl
  rw [e] at h
  exact h
noncomputable def hoursL (gv : List Nat) : List Nat := (List.range 9).filter fun h => gv.any (· == h)
noncomputable def servedL (gv : List Nat) : List Nat := gv.filter (· < 9)
theorem mask_served {J : Jb} {gv : List Nat} (S : SInv J 9 gv) : maskOf (servedL gv) = maskOf (hoursL gv) := by
  have hp : (servedL gv).Perm (hoursL gv) := by
    rw [List.perm_ext_iff_of_nodup]
    · intro x
      simp only [servedL, hoursL, List.mem_filter, List.mem_range, List.any_eq_true, beq_iff_eq, decide_eq_true_eq]
      constructor
      · rintro ⟨h1, h2⟩; exact ⟨h2, x, h1, rfl⟩
      · rintro ⟨h1, y, h2, rfl⟩; exact ⟨h2, h1⟩
    · unfold servedL
      rw [List.nodup_iff_pairwise_ne]
      have hgv : gv = (List.range J.length).map (ga gv) := by
        apply List.ext_getElem
        · simp [S.len]
        · intro i h1 h2
          simp only [List.getElem_map, List.getElem_range]
          unfold ga
          rw [List.getD_eq_getElem?_getD, List.getElem?_eq_getElem h1]; rfl
      conv => arg 2; rw [hgv]
      rw [List.filter_map, List.pairwise_map]
      refine List.Pairwise.imp_of_mem ?_ (List.nodup_iff_pairwise_ne.mp (List.nodup_range.filter _))
      intro x y hx hy hne heq
      simp only [List.mem_filter, List.mem_range, Function.comp, decide_eq_true_eq] at hx hy
      exact hne (S.f2 x y hx.1 hy.1 heq (by (first | lia | omega)))
    · exact List.nodup_range.filter _
  exact (hp.map _).sum_nat
end Mine
end
/-! ## part FW37 -/
section
open PySem PySem.W PyProof.Rows PySem.Calls
set_option bootstrap.genMatcherCode false
namespace Mine
theorem natsAV_eq (gv : List Nat) : natsAV gv = intsAV (gv.map fun x : Nat => (x : Int)) := by
  unfold natsAV intsAV; rw [List.map_map]; rfl
theorem natsAV_take {l : List Nat} {j x : Nat} (h : l[j]? = some x) : natsAV (l.take (j + 1)) = natsAV (l.take j) ++ [.int (x : Int)] := by
  unfold natsAV
  rw [List.take_add_one, h, List.map_append]; rfl
theorem cIn_eq {H : List (List AV)} {g x : Nat} {gv : List Nat} (h : H[g]? = some (natsAV gv)) : cIn H (.int (x : Int)) (.lst g) = some (gv.any (· == x)) := by
  rw [natsAV_eq] at h
  unfold intsAV at h
  simp only [cIn, h, intsOf_map]
  congr 1
  rw [List.any_map]
  congr 1
  funext y
  simp only [Function.comp]
  by_cases q : y = x
  · rw [q]; simp
  · rw [beq_eq_false_iff_ne.mpr q, beq_eq_false_iff_ne]; (first | lia | omega)
theorem comp_hours (d : Addr) {st : AS} {g : Nat} {gv : List Nat} (hg : st.H[g]? = some (natsAV gv)) (h : st.loc (Str.ofString "given") = some (.lst g)) :
    eComp 100 (iOf (eCall gRange (esCons (eVal (.int 9)) esNil))) [(Str.ofString "given")] (tgName (Str.ofString "hour")) (bLaw_c5_q d) (bLaw_c5_x d) st = some (.lst st.H.length, { st with H := st.H ++ [natsAV (hoursL gv)] }) := by
  obtain ⟨ys, st', hP, hgo⟩ := comp_any (tg := tgName (Str.ofString "hour")) (tst := bLaw_c5_q d) (elt := bLaw_c5_x d) (rngAt 0 9) (fun j => .int (0 + j)) 9
    (fun j acc s => s.H = st.H ∧ s.loc (Str.ofString "given") = some (.lst g) ∧ acc = natsAV ((List.range j).filter fun h => gv.any (· == h)))
    (fun j acc s hj _ => rng_next 0 9 s.H j hj) (fun acc s _ => rng_end 0 9 s.H)
    (fun j acc s hj hP => by
      obtain ⟨a1, a2, a3⟩ := hP
      have hj0 : (0 + (j : Int)) = j := by (first | lia | omega)
      rw [hj0]
      have hc := cIn_eq (x := j) (by rw [← a1] at hg; exact hg)
      refine ⟨s.put (Str.ofString "hour") (.int j), gv.any (· == j), s.put (Str.ofString "hour") (.int j), rfl, ?_, fun ht => ⟨.int j, s.put (Str.ofString "hour") (.int j), ?_, a1, by (first | exact a2 | exact loc_o a2 (by decide) | exact loc_o (loc_o a2 (by decide)) (by decide)), ?_⟩, fun ht => ⟨a1, by (first | exact a2 | exact loc_o a2 (by decide) | exact loc_o (loc_o a2 (by decide)) (by decide)), ?_⟩⟩
      · simp only [sSeq, sAssign, sRet, sFl, sIf, sExpr, eBin, eUn, eVar, eVal, eCall, eMeth, eBinG, esCons, esNil, eIf, tCmp, tNot, tAnd, tOr, tVal, tTrue, AS.put_get, AS.put_H, ne_code, isLst, isStr, if_true, if_false, eq_self, List.zip_cons_cons, List.zip_nil_right, locAfter, Nat.reduceBEq, Bool.false_eq_true, reduceCtorEq, code_COMPILER_FLAG_NAMES, code_S_IFMT, code__filemode_table, code__law_given, code__law_read, code__law_without, code__siftdown, code__siftup, code_begin, code_bit, code_char, code_childpos, code_counts, code_end, code_endpos, code_filemode, code_first, code_flag, code_flags, code_given, code_heap, code_heappop, code_heappush, code_hour, code_hours, code_i, code_index, code_item, code_k, code_last, code_lastelt, code_law, code_many, code_mode, code_most, code_names, code_newitem, code_numbers, code_octets, code_parent, code_parentpos, code_perm, code_pos, code_pretty_flags, code_returnitem, code_rightpos, code_rights, code_row, code_rows, code_script, code_startpos, code_stretches, code_table, code_v, bLaw_c5_q, a2, hc]
      · simp only [sSeq, sAssign, sRet, sFl, sIf, sExpr, eBin, eUn, eVar, eVal, eCall, eMeth, eBinG, esCons, esNil, eIf, tCmp, tNot, tAnd, tOr, tVal, tTrue, AS.put_get, AS.put_H, ne_code, isLst, isStr, if_true, if_false, eq_self, List.zip_cons_cons, List.zip_nil_right, locAfter, Nat.reduceBEq, Bool.false_eq_true, reduceCtorEq, code_COMPILER_FLAG_NAMES, code_S_IFMT, code__filemode_table, code__law_given, code__law_read, code__law_without, code__siftdown, code__siftup, code_begin, code_bit, code_char, code_childpos, code_counts, code_end, code_endpos, code_filemode, code_first, code_flag, code_flags, code_given, code_heap, code_heappop, code_heappush, code_hour, code_hours, code_i, code_index, code_item, code_k, code_last, code_lastelt, code_law, code_many, code_mode, code_most, code_names, code_newitem, code_numbers, code_octets, code_parent, code_parentpos, code_perm, code_pos, code_pretty_flags, code_returnitem, code_rightpos, code_rights, code_row, code_rows, code_script, code_startpos, code_stretches, code_table, code_v, bLaw_c5_x]
      · rw [a3, List.range_succ, List.filter_append, List.filter_cons_of_pos (by exact ht)]
        unfold natsAV
        rw [List.map_append]; rfl
      · rw [a3, List.range_succ, List.filter_append, List.filter_cons_of_neg (by rw [ht]; decide), List.filter_nil, List.append_nil])
    9 0 [] (compLoc [(Str.ofString "given")] st) 100 (by (first | lia | omega)) ⟨rfl, by simp only [compLoc_get, List.mem_cons, true_or, if_true, h], rfl⟩ (by (first | lia | omega))
  obtain ⟨c1, c2, c3⟩ := hP
  have hr : eCall gRange (esCons (eVal (.int 9)) esNil) st = some (.rng 0 ((9 : Nat) : Int), st) := by simp only [sSeq, sAssign, sRet, sFl, sIf, sExpr, eBin, eUn, eVar, eVal, eCall, eMeth, eBinG, esCons, esNil, eIf, tCmp, tNot, tAnd, tOr, tVal, tTrue, AS.put_get, AS.put_H, ne_code, isLst, isStr, if_true, if_false, eq_self, List.zip_cons_cons, List.zip_nil_right, locAfter, Nat.reduceBEq, Bool.false_eq_true, reduceCtorEq, code_COMPILER_FLAG_NAMES, code_S_IFMT, code__filemode_table, code__law_given, code__law_read, code__law_without, code__siftdown, code__siftup, code_begin, code_bit, code_char, code_childpos, code_counts, code_end, code_endpos, code_filemode, code_first, code_flag, code_flags, code_given, code_heap, code_heappop, code_heappush, code_hour, code_hours, code_i, code_index, code_item, code_k, code_last, code_lastelt, code_law, code_many, code_mode, code_most, code_names, code_newitem, code_numbers, code_octets, code_parent, code_parentpos, code_perm, code_pos, code_pretty_flags, code_returnitem, code_rightpos, code_rights, code_row, code_rows, code_script, code_startpos, code_stretches, code_table, code_v, gRange]; rfl
  unfold eComp
  rw [if_pos (by simp [h]), iOf_rng hr (by decide)]
  dsimp only
  rw [hgo, c3]
  dsimp only
  rw [c1]
  rfl
theorem comp_sum (d : Addr) {st : AS} {g : Nat} {gv : List Nat} (hg : st.H[g]? = some (natsAV gv)) (hn : gv.length ≤ 50) (h9 : ∀ x ∈ gv, x ≤ 9) (h : st.loc (Str.ofString "given") = some (.lst g)) :
    eComp 100 (iOf (eVar (Str.ofString "given"))) [] (tgName (Str.ofString "hour")) (bLaw_c6_q d) (bLaw_c6_x d) st = some (.lst st.H.length, { st with H := st.H ++ [natsAV ((servedL gv).map fun h => 2 ^ (8 - h))] }) := by
  obtain ⟨ys, st', hP, hgo⟩ := comp_any (tg := tgName (Str.ofString "hour")) (tst := bLaw_c6_q d) (elt := bLaw_c6_x d) (fun j => .lst g j) (fun j => .int (gv.getD j 0 : Nat)) gv.length
    (fun j acc s => s.H = st.H ∧ acc = natsAV ((servedL (gv.take j)).map fun h => 2 ^ (8 - h)))
    (fun j acc s hj hP => by
      refine lst_next (by rw [hP.1]; exact hg) ?_
      unfold natsAV
      rw [List.getElem?_map, List.getD_eq_getElem?_getD, List.getElem?_eq_getElem hj]; rfl)
    (fun acc s hP => by
      have := lst_end (l := g) (H := s.H) (xs := natsAV gv) (by rw [hP.1]; exact hg)
      unfold natsAV at this
      rw [List.length_map] at this; exact this)
    (fun j acc s hj hP => by
      obtain ⟨a1, a2⟩ := hP
      have hget : gv[j]? = some (gv.getD j 0) := by rw [List.getD_eq_getElem?_getD, List.getElem?_eq_getElem hj]; rfl
      generalize gv.getD j 0 = x at hget
      have hx9 := h9 x (List.mem_of_getElem? hget)
      have hs : servedL (gv.take (j + 1)) = servedL (gv.take j) ++ (if x < 9 then [x] else []) := by
        unfold servedL
        rw [List.take_add_one, hget, List.filter_append]
        congr 1
        by_cases q : x < 9 <;> simp [q]
      have hd : decide ((x : Int) < 9) = decide (x < 9) := by
        by_cases q : x < 9
        · rw [decide_eq_true q, decide_eq_true (by (first | lia | omega))]
        · rw [decide_eq_false q, decide_eq_false (by (first | lia | omega))]
      refine ⟨s.put (Str.ofString "hour") (.int x), decide (x < 9), s.put (Str.ofString "hour") (.int x), rfl, ?_, fun ht => ?_, fun ht => ?_⟩
      · simp only [sSeq, sAssign, sRet, sFl, sIf, sExpr, eBin, eUn, eVar, eVal, eCall, eMeth, eBinG, esCons, esNil, eIf, tCmp, tNot, tAnd, tOr, tVal, tTrue, AS.put_get, AS.put_H, ne_code, isLst, isStr, if_true, if_false, eq_self, List.zip_cons_cons, List.zip_nil_right, locAfter, Nat.reduceBEq, Bool.false_eq_true, reduceCtorEq, code_COMPILER_FLAG_NAMES, code_S_IFMT, code__filemode_table, code__law_given, code__law_read, code__law_without, code__siftdown, code__siftup, code_begin, code_bit, code_char, code_childpos, code_counts, code_end, code_endpos, code_filemode, code_first, code_flag, code_flags, code_given, code_heap, code_heappop, code_heappush, code_hour, code_hours, code_i, code_index, code_item, code_k, code_last, code_lastelt, code_law, code_many, code_mode, code_most, code_names, code_newitem, code_numbers, code_octets, code_parent, code_parentpos, code_perm, code_pos, code_pretty_flags, code_returnitem, code_rightpos, code_rights, code_row, code_rows, code_script, code_startpos, code_stretches, code_table, code_v, bLaw_c6_q, cInt_i, hd]
      · have hx : x < 9 := of_decide_eq_true ht
        refine ⟨_, _, c2_x d (x := x) hx (by (first | exact put_same _ _ _ | exact loc_o (put_same _ _ _) (by decide) | exact loc_o (loc_o (put_same _ _ _) (by decide)) (by decide))), a1, ?_⟩
        rw [hs, if_pos hx, a2, List.map_append]
        unfold natsAV
        rw [List.map_append]; rfl
      · have hx : ¬ x < 9 := of_decide_eq_false ht
        rw [hs, if_neg hx, List.append_nil]
        exact ⟨a1, a2⟩)
    gv.length 0 [] (compLoc [] st) 100 (by (first | lia | omega)) ⟨rfl, rfl⟩ (by (first | lia | omega))
  obtain ⟨c1, c2⟩ := hP
  rw [List.take_length] at c2
  unfold eComp
  rw [if_pos (by simp), iOf_ok (eVar_ok h) (show itOf (.lst g) = some (.lst g 0) from rfl)]
  dsimp only
  rw [hgo, c2]
  dsimp only
  rw [c1]
end Mine
end
/-! ## part FW38 -/
section
open PySem PySem.W PyProof.Rows PySem.Calls
set_option bootstrap.genMatcherCode false
namespace Mine
noncomputable def namesAV : List AV := (List.range 9).map fun h => .str (flagName (8 - h))
theorem names_get {h : Nat} (hh : h < 9) : namesAV[h]? = some (.str (flagName (8 - h))) := by
  unfold namesAV
  rw [List.getElem?_map, List.getElem?_range hh]; rfl
theorem eRev_eq {st : AS} {x : Str} {l : Nat} {xs : List AV} (h : st.loc x = some (.lst l)) (hl : st.H[l]? = some xs) (hx : xs.length ≤ 1000000) : eRev (eVar x) st = some (.lst st.H.length, { st with H := st.H ++ [xs.reverse] }) := by
  simp only [eRev, eVar, h, hl]
  rw [if_pos hx]
theorem comp_names (d : Addr) {st : AS} {h n : Nat} {hs : List Nat} (hh : st.H[h]? = some (natsAV hs)) (hl : hs.length ≤ 50) (h9 : ∀ x ∈ hs, x < 9) (hn : st.H[n]? = some namesAV) (h1 : st.loc (Str.ofString "hours") = some (.lst h)) (h2 : st.loc (Str.ofString "names") = some (.lst n)) :
    ∃ H', Kept st.H H' ∧ eComp 100 (iOf (eRev (eVar (Str.ofString "hours")))) [(Str.ofString "names")] (tgName (Str.ofString "hour")) tTrue (bLaw_c7_x d) st = some (.lst H'.length, { st with H := H' ++ [(hs.reverse.map fun h => flagName (8 - h)).map .str] }) := by
  have hrev : (natsAV hs).reverse = natsAV hs.reverse := by unfold natsAV; rw [List.map_reverse]
  have hi : iOf (eRev (eVar (Str.ofString "hours"))) st = some (.lst st.H.length 0, { st with H := st.H ++ [natsAV hs.reverse] }) := by
    have := eRev_eq h1 hh (by unfold natsAV; rw [List.length_map]; (first | lia | omega))
    rw [hrev] at this
    exact iOf_ok this rfl
  have h9' : ∀ x ∈ hs.reverse, x < 9 := fun x hx => h9 x (List.mem_reverse.mp hx)
  have hl' : hs.reverse.length ≤ 50 := by rw [List.length_reverse]; exact hl
  generalize hs.reverse = ks at *
  obtain ⟨ys, st', hP, hgo⟩ := comp_any (tg := tgName (Str.ofString "hour")) (tst := tTrue) (elt := bLaw_c7_x d) (fun j => .lst st.H.length j) (fun j => .int (ks.getD j 0 : Nat)) ks.length
    (fun j acc s => s.H = st.H ++ [natsAV ks] ∧ s.loc (Str.ofString "names") = some (.lst n) ∧ acc = ((ks.take j).map fun h => flagName (8 - h)).map .str)
    (fun j acc s hj hP => by
      refine lst_next (by rw [hP.1]; exact get_new _ _) ?_
      unfold natsAV
      rw [List.getElem?_map, List.getD_eq_getElem?_getD, List.getElem?_eq_getElem hj]; rfl)
    (fun acc s hP => by
      have := lst_end (l := st.H.length) (H := s.H) (xs := natsAV ks) (by rw [hP.1]; exact get_new _ _)
      unfold natsAV at this
      rw [List.length_map] at this; exact this)
    (fun j acc s hj hP => by
      obtain ⟨a1, a2, a3⟩ := hP
      have hget : ks[j]? = some (ks.getD j 0) := by rw [List.getD_eq_getElem?_getD, List.getElem?_eq_getElem hj]; rfl
      generalize ks.getD j 0 = x at hget
      have hx9 := h9' x (List.mem_of_getElem? hget)
      have hit := oItem_nat (H := s.H) (l := n) (xs := namesAV) (by rw [a1]; exact (Kept.app _ _).get hn) x (by (first | lia | omega))
      rw [names_get hx9] at hit
      have hx : bLaw_c7_x d (s.put (Str.ofString "hour") (.int x)) = some (.str (flagName (8 - x)), s.put (Str.ofString "hour") (.int x)) := by
        unfold bLaw_c7_x
        exact eBin_ok (eVar_ok (by (first | exact a2 | exact loc_o a2 (by decide) | exact loc_o (loc_o a2 (by decide)) (by decide)))) (eVar_ok (by (first | exact put_same _ _ _ | exact loc_o (put_same _ _ _) (by decide) | exact loc_o (loc_o (put_same _ _ _) (by decide)) (by decide)))) hit
      refine ⟨s.put (Str.ofString "hour") (.int x), true, s.put (Str.ofString "hour") (.int x), rfl, rfl, fun _ => ⟨_, _, hx, a1, by (first | exact a2 | exact loc_o a2 (by decide) | exact loc_o (loc_o a2 (by decide)) (by decide)), ?_⟩, fun h => (by cases h)⟩
      rw [a3, List.take_add_one, hget, List.map_append, List.map_append]
      rfl)
    ks.length 0 [] (compLoc [(Str.ofString "names")] { st with H := st.H ++ [natsAV ks] }) 100 (by (first | lia | omega)) ⟨rfl, by simp only [compLoc_get, List.mem_cons, true_or, if_true, h2], rfl⟩ (by (first | lia | omega))
  obtain ⟨c1, c2, c3⟩ := hP
  rw [List.take_length] at c3
  refine ⟨st'.H, by rw [c1]; exact Kept.app _ _, ?_⟩
  unfold eComp
  rw [if_pos (by simp [h2]), hi]
  dsimp only
  rw [hgo, c3]
end Mine
end
/-! ## part FW39 -/
section
open PySem PySem.W PyProof.Rows PySem.Calls
set_option bootstrap.genMatcherCode false
namespace Mine
theorem tCmp_ok {f : List (List AV) → AV → AV → Option Bool} {a b : EM} {st s1 s2 : AS} {x y : AV} {z : Bool} (h1 : a st = some (x, s1)) (h2 : b s1 = some (y, s2)) (h3 : f s2.H x y = some z) : tCmp f a b st = some (z, s2) := by
  simp only [tCmp, h1, h2, h3]
theorem tAnd_f {a b : TM} {st s1 : AS} (h : a st = some (false, s1)) : tAnd a b st = some (false, s1) := by simp only [tAnd, h]
theorem tAnd_t {a b : TM} {st s1 : AS} (h : a st = some (true, s1)) : tAnd a b st = b s1 := by simp only [tAnd, h]
theorem tOr_f {a b : TM} {st s1 : AS} (h : a st = some (false, s1)) : tOr a b st = b s1 := by simp only [tOr, h]
theorem oItem_pair (H : List (List AV)) (x y : AV) : oItem H (.tuple [x, y]) (.int 0) = some x ∧ oItem H (.tuple [x, y]) (.int 1) = some y := ⟨rfl, rfl⟩
theorem int_lt (a b : Nat) : decide ((a : Int) < (b : Int)) = decide (a < b) := by
  by_cases q : a < b
  · rw [decide_eq_true q, decide_eq_true (by (first | lia | omega))]
  · rw [decide_eq_false q, decide_eq_false (by (first | lia | omega))]
theorem c8_q (d : Addr) {st : AS} {J : Jb} {gv : List Nat} {g s k : Nat} (hg : st.H[g]? = some (natsAV gv)) (hs : st.H[s]? = some (strAV J)) (h1 : st.loc (Str.ofString "given") = some (.lst g)) (h2 : st.loc (Str.ofString "stretches") = some (.lst s)) (h3 : st.loc (Str.ofString "k") = some (.int k))
    (hk : k < gv.length) (hkJ : k < J.length) (hl : J.length ≤ 50) (hf : ga gv k = 9 ∨ (ga gv k < 9 ∧ ja J k ≤ ga gv k ∧ ga gv k < jb J k)) : bLaw_c8_q d st = some (false, st) := by
  have hi := oItem_nat hg k (by (first | lia | omega))
  have hv : (natsAV gv)[k]? = some (.int (ga gv k : Nat)) := by
    unfold natsAV ga
    rw [List.getElem?_map, List.getD_eq_getElem?_getD, List.getElem?_eq_getElem hk]; rfl
  rw [hv] at hi
  have hj := oItem_nat hs k (by (first | lia | omega))
  have hv2 : (strAV J)[k]? = some (.tuple [.int (ja J k : Nat), .int (jb J k : Nat)]) := by
    unfold strAV
    rw [List.getElem?_map, jget hkJ]; rfl
  rw [hv2] at hj
  have eg := eBin_ok (eVar_ok h1) (eVar_ok h3) hi
  have es := eBin_ok (eVar_ok h2) (eVar_ok h3) hj
  have e0 := eBin_ok es (eVal_ok (.int 0) st) (oItem_pair _ _ _).1
  have e1 := eBin_ok es (eVal_ok (.int 1) st) (oItem_pair _ _ _).2
  unfold bLaw_c8_q
  rcases hf with hf | ⟨f1, f2, f3⟩
  · refine tAnd_f (tCmp_ok eg (eVal_ok _ _) ?_)
    rw [cInt_i, hf]; rfl
  · have t1 : tCmp (cInt fun a b => decide (a < b)) (eBin oItem (eVar (Str.ofString "given")) (eVar (Str.ofString "k"))) (eVal (.int 9)) st = some (true, st) := tCmp_ok eg (eVal_ok _ _) (by
      rw [cInt_i, decide_eq_true (by (first | lia | omega) : ((ga gv k : Nat) : Int) < 9)])
    rw [tAnd_t t1]
    have t2 : tCmp (cInt fun a b => decide (a < b)) (eBin oItem (eVar (Str.ofString "given")) (eVar (Str.ofString "k"))) (eBin oItem (eBin oItem (eVar (Str.ofString "stretches")) (eVar (Str.ofString "k"))) (eVal (.int 0))) st = some (false, st) := tCmp_ok eg e0 (by
      rw [cInt_i, decide_eq_false (by (first | lia | omega) : ¬ ((ga gv k : Nat) : Int) < ((ja J k : Nat) : Int))])
    rw [tOr_f t2]
    exact tCmp_ok eg e1 (by rw [cInt_i, decide_eq_false (by (first | lia | omega) : ¬ ((ga gv k : Nat) : Int) ≥ ((jb J k : Nat) : Int))])
theorem comp_k (d : Addr) {st : AS} {J : Jb} {gv : List Nat} {g s m : Nat} (hg : st.H[g]? = some (natsAV gv)) (hs : st.H[s]? = some (strAV J)) (h1 : st.loc (Str.ofString "given") = some (.lst g)) (h2 : st.loc (Str.ofString "stretches") = some (.lst s)) (hm : st.loc (Str.ofString "many") = some (.int m))
    (hmg : m = gv.length) (hmJ : m ≤ J.length) (hl : J.length ≤ 50) (hf : ∀ k, k < m → ga gv k = 9 ∨ (ga gv k < 9 ∧ ja J k ≤ ga gv k ∧ ga gv k < jb J k)) :
    eComp 100 (iOf (eCall gRange (esCons (eVar (Str.ofString "many")) esNil))) [(Str.ofString "given"), (Str.ofString "stretches")] (tgName (Str.ofString "k")) (bLaw_c8_q d) (bLaw_c8_x d) st = some (.lst st.H.length, { st with H := st.H ++ [[]] }) := by
  obtain ⟨ys, st', hP, hgo⟩ := comp_any (tg := tgName (Str.ofString "k")) (tst := bLaw_c8_q d) (elt := bLaw_c8_x d) (rngAt 0 m) (fun j => .int (0 + j)) m
    (fun j acc t => t.H = st.H ∧ t.loc (Str.ofString "given") = some (.lst g) ∧ t.loc (Str.ofString "stretches") = some (.lst s) ∧ acc = [])
    (fun j acc t hj _ => rng_next 0 m t.H j hj) (fun acc t _ => rng_end 0 m t.H)
    (fun j acc t hj hP => by
      obtain ⟨a1, a2, a3, a4⟩ := hP
      have hj0 : (0 + (j : Int)) = j := by (first | lia | omega)
      rw [hj0]
      have hq := c8_q d (st := t.put (Str.ofString "k") (.int j)) (J := J) (gv := gv) (g := g) (s := s) (k := j) (by show t.H[g]? = _; rw [a1]; exact hg) (by show t.H[s]? = _; rw [a1]; exact hs) (by (first | exact a2 | exact loc_o a2 (by decide) | exact loc_o (loc_o a2 (by decide)) (by decide))) (by (first | exact a3 | exact loc_o a3 (by decide) | exact loc_o (loc_o a3 (by decide)) (by decide))) (by (first | exact put_same _ _ _ | exact loc_o (put_same _ _ _) (by decide) | exact loc_o (loc_o (put_same _ _ _) (by decide)) (by decide))) (by (first | lia | omega)) (by (first | lia | omega)) hl (hf j hj)
      exact ⟨t.put (Str.ofString "k") (.int j), false, t.put (Str.ofString "k") (.int j), rfl, hq, fun h => (by cases h), fun _ => ⟨a1, by (first | exact a2 | exact loc_o a2 (by decide) | exact loc_o (loc_o a2 (by decide)) (by decide)), by (first | exact a3 | exact loc_o a3 (by decide) | exact loc_o (loc_o a3 (by decide)) (by decide)), a4⟩⟩)
    m 0 [] (compLoc [(Str.ofString "given"), (Str.ofString "stretches")] st) 100 (by (first | lia | omega)) ⟨rfl, by simp only [compLoc_get, List.mem_cons, true_or, if_true, h1], by simp only [compLoc_get, List.mem_cons, true_or, or_true, if_true, h2], rfl⟩ (by (first | lia | omega))
  obtain ⟨c1, c2, c3, c4⟩ := hP
  have hr : eCall gRange (esCons (eVar (Str.ofString "many")) esNil) st = some (.rng 0 (m : Int), st) := by simp only [sSeq, sAssign, sRet, sFl, sIf, sExpr, eBin, eUn, eVar, eVal, eCall, eMeth, eBinG, esCons, esNil, eIf, tCmp, tNot, tAnd, tOr, tVal, tTrue, AS.put_get, AS.put_H, ne_code, isLst, isStr, if_true, if_false, eq_self, List.zip_cons_cons, List.zip_nil_right, locAfter, Nat.reduceBEq, Bool.false_eq_true, reduceCtorEq, code_COMPILER_FLAG_NAMES, code_S_IFMT, code__filemode_table, code__law_given, code__law_read, code__law_without, code__siftdown, code__siftup, code_begin, code_bit, code_char, code_childpos, code_counts, code_end, code_endpos, code_filemode, code_first, code_flag, code_flags, code_given, code_heap, code_heappop, code_heappush, code_hour, code_hours, code_i, code_index, code_item, code_k, code_last, code_lastelt, code_law, code_many, code_mode, code_most, code_names, code_newitem, code_numbers, code_octets, code_parent, code_parentpos, code_perm, code_pos, code_pretty_flags, code_returnitem, code_rightpos, code_rights, code_row, code_rows, code_script, code_startpos, code_stretches, code_table, code_v, hm, gRange]
  unfold eComp
  rw [if_pos (by simp [h1, h2]), iOf_rng hr (by (first | lia | omega))]
  dsimp only
  rw [hgo, c4]
  dsimp only
  rw [c1]
end Mine
end
/-! ## part FW40 -/
section
open PySem PySem.W PyProof.Rows PySem.Calls
set_option bootstrap.genMatcherCode false
namespace Mine
theorem sIf_f {t : TM} {a b : SM} {st s1 : AS} (h : t st = some (false, s1)) : sIf t a b st = b s1 := by simp only [sIf, h]
noncomputable def hourNames (hs : List Nat) : List Str := hs.reverse.map fun h => flagName (8 - h)
theorem hourNames_eq (P : Nat → Bool) (h : (List.range 9).filter P ≠ []) : flagsNames (maskOf ((List.range 9).filter P)) = hourNames ((List.range 9).filter P) := by
  obtain ⟨h1, h2, h3⟩ := mask_fact P
  unfold flagsNames hourNames
  rw [if_neg fun e => h (h3 e), h2, List.map_map]
  rfl
theorem join_nil (sep : Str) : Txt.join sep [] = ⟨#[]⟩ := rfl
theorem flags_nil : flagsNames (maskOf []) = [(Str.ofString "0x0")] := rfl
theorem join_one (sep x : Str) : Txt.join sep [x] = x := rfl
theorem join_len (l : List Nat) (hl : l ≠ []) (hl9 : l.length ≤ 9) : 0 < (Txt.join (Str.ofString ", ") (l.map flagName)).length ∧ (Txt.join (Str.ofString ", ") (l.map flagName)).length < 1000000 := by
  have h2 : ((Str.ofString ", ")).length = 2 := by decide +kernel
  have h := PySem.size_glued (Str.ofString ", ") (l.map flagName)
  rw [h2] at h
  have h3 := names_len l
  have h4 : 0 < ((l.map flagName).map (·.length)).sum := by
    cases l with
    | nil => exact absurd rfl hl
    | cons x l =>
      simp only [List.map_cons, List.sum_cons]
      have := (flagName_len x).1
      (first | lia | omega)
  have h5 : Txt.join (Str.ofString ", ") (l.map flagName) = Builtin.Str.glued (Str.ofString ", ") (l.map flagName) := rfl
  rw [h5, h, List.length_map]
  (first | lia | omega)
end Mine
end
/-! ## part FW41 -/
section
open PySem PySem.W PyProof.Rows PySem.Calls
set_option bootstrap.genMatcherCode false
namespace Mine
theorem eUpto_ok {st : AS} {x y : Str} {l m : Nat} {xs : List AV} (h : st.loc x = some (.lst l)) (hl : st.H[l]? = some xs) (h2 : st.loc y = some (.int m)) (hx : xs.length ≤ 1000) : eUpto (eVar x) (eVar y) st = some (.lst st.H.length, { st with H := st.H ++ [xs.take m] }) := by
  simp only [eUpto, eVar, h, h2, hl]
  rw [if_pos ⟨by (first | lia | omega), by (first | lia | omega)⟩]
  simp
theorem gCount_eq {H : List (List AV)} {g : Nat} {gv : List Nat} (h : H[g]? = some (natsAV gv)) : gCount [.lst g, .int 9] H = some (.int ((gv.map fun x : Nat => (x : Int)).count 9 : Nat), H) := by
  rw [natsAV_eq] at h
  unfold intsAV at h
  simp only [gCount, h, intsOf_map]
theorem JOk.take {J : Jb} (h : JOk J) (m : Nat) : JOk (J.take m) := ⟨fun p hp => h.1 p (List.mem_of_mem_take hp), by rw [List.length_take]; have := h.2; (first | lia | omega)⟩
/-- what the law's frame holds in the loop -/
structure LS (H0 : List (List AV)) (J : Jb) (r s n : Nat) (st : AS) : Prop where
  kept : Kept H0 st.H
  rows : st.loc (Str.ofString "rows") = some (.lst r)
  str : st.loc (Str.ofString "stretches") = some (.lst s)
  names : st.loc (Str.ofString "names") = some (.lst n)
structure L0 (H0 : List (List AV)) (J : Jb) (r s n : Nat) : Prop where
  ok : JOk J
  r : H0[r]? = some (rowsOf J)
  s : H0[s]? = some (strAV J)
  n : H0[n]? = some namesAV
theorem f9_given (d : Addr) {H0 : List (List AV)} {J : Jb} {r s n m : Nat} {st : AS} (Z : L0 H0 J r s n) (L : LS H0 J r s n st) (hm : m ≤ J.length) (h : st.loc (Str.ofString "many") = some (.int m)) :
    ∃ st' g gv, sAssign (Str.ofString "given") (eCall gGiven (esCons (eUpto (eVar (Str.ofString "rows")) (eVar (Str.ofString "many"))) esNil)) st = some (.next, st') ∧ LS H0 J r s n st' ∧ st'.loc (Str.ofString "many") = some (.int m) ∧ st'.loc (Str.ofString "given") = some (.lst g) ∧ st'.H[g]? = some (natsAV gv) ∧ SInv (J.take m) 9 gv := by
  have hr := L.kept.get Z.r
  have hup := eUpto_ok L.rows hr h (by unfold rowsOf; rw [List.length_map]; have := Z.ok.2; (first | lia | omega))
  have htake : (rowsOf J).take m = rowsOf (J.take m) := by unfold rowsOf; rw [List.map_take]
  rw [htake] at hup
  obtain ⟨H', g, gv, h1, h2, h3, h4, h5⟩ := gGiven_eq (H := st.H ++ [rowsOf (J.take m)]) (Z.ok.take m) (get_new st.H _)
  have e := sAssign_ok (x := (Str.ofString "given")) (eCall1_ok hup h1)
  refine ⟨_, g, gv, e, ⟨L.kept.trans ((Kept.app _ _).trans h2), by simp only [sSeq, sAssign, sRet, sFl, sIf, sExpr, eBin, eUn, eVar, eVal, eCall, eMeth, eBinG, esCons, esNil, eIf, tCmp, tNot, tAnd, tOr, tVal, tTrue, AS.put_get, AS.put_H, ne_code, isLst, isStr, if_true, if_false, eq_self, List.zip_cons_cons, List.zip_nil_right, locAfter, Nat.reduceBEq, Bool.false_eq_true, reduceCtorEq, code_COMPILER_FLAG_NAMES, code_S_IFMT, code__filemode_table, code__law_given, code__law_read, code__law_without, code__siftdown, code__siftup, code_begin, code_bit, code_char, code_childpos, code_counts, code_end, code_endpos, code_filemode, code_first, code_flag, code_flags, code_given, code_heap, code_heappop, code_heappush, code_hour, code_hours, code_i, code_index, code_item, code_k, code_last, code_lastelt, code_law, code_many, code_mode, code_most, code_names, code_newitem, code_numbers, code_octets, code_parent, code_parentpos, code_perm, code_pos, code_pretty_flags, code_returnitem, code_rightpos, code_rights, code_row, code_rows, code_script, code_startpos, code_stretches, code_table, code_v, L.rows], by simp only [sSeq, sAssign, sRet, sFl, sIf, sExpr, eBin, eUn, eVar, eVal, eCall, eMeth, eBinG, esCons, esNil, eIf, tCmp, tNot, tAnd, tOr, tVal, tTrue, AS.put_get, AS.put_H, ne_code, isLst, isStr, if_true, if_false, eq_self, List.zip_cons_cons, List.zip_nil_right, locAfter, Nat.reduceBEq, Bool.false_eq_true, reduceCtorEq, code_COMPILER_FLAG_NAMES, code_S_IFMT, code__filemode_table, code__law_given, code__law_read, code__law_without, code__siftdown, code__siftup, code_begin, code_bit, code_char, code_childpos, code_counts, code_end, code_endpos, code_filemode, code_first, code_flag, code_flags, code_given, code_heap, code_heappop, code_heappush, code_hour, code_hours, code_i, code_index, code_item, code_k, code_last, code_lastelt, code_law, code_many, code_mode, code_most, code_names, code_newitem, code_numbers, code_octets, code_parent, code_parentpos, code_perm, code_pos, code_pretty_flags, code_returnitem, code_rightpos, code_rights, code_row, code_rows, code_script, code_startpos, code_stretches, code_table, code_v, L.str], by simp only [sSeq, sAssign, sRet, sFl, sIf, sExpr, eBin, eUn, eVar, eVal, eCall, eMeth, eBinG, esCons, esNil, eIf, tCmp, tNot, tAnd, tOr, tVal, tTrue, AS.put_get, AS.put_H, ne_code, isLst, isStr, if_true, if_false, eq_self, List.zip_cons_cons, List.zip_nil_right, locAfter, Nat.reduceBEq, Bool.false_eq_true, reduceCtorEq, code_COMPILER_FLAG_NAMES, code_S_IFMT, code__filemode_table, code__law_given, code__law_read, code__law_without, code__siftdown, code__siftup, code_begin, code_bit, code_char, code_childpos, code_counts, code_end, code_endpos, code_filemode, code_first, code_flag, code_flags, code_given, code_heap, code_heappop, code_heappush, code_hour, code_hours, code_i, code_index, code_item, code_k, code_last, code_lastelt, code_law, code_many, code_mode, code_most, code_names, code_newitem, code_numbers, code_octets, code_parent, code_parentpos, code_perm, code_pos, code_pretty_flags, code_returnitem, code_rightpos, code_rights, code_row, code_rows, code_script, code_startpos, code_stretches, code_table, code_v, L.names]⟩, by (first | exact h | exact loc_o h (by decide) | exact loc_o (loc_o h (by decide)) (by decide)), by (first | exact put_same _ _ _ | exact loc_o (put_same _ _ _) (by decide) | exact loc_o (loc_o (put_same _ _ _) (by decide)) (by decide)), h3, h4⟩
theorem f9_hours (d : Addr) {H0 : List (List AV)} {J : Jb} {r s n m g : Nat} {gv : List Nat} {st : AS} (L : LS H0 J r s n st) (h : st.loc (Str.ofString "many") = some (.int m)) (h1 : st.loc (Str.ofString "given") = some (.lst g)) (h2 : st.H[g]? = some (natsAV gv)) :
    ∃ st' hh, sAssign (Str.ofString "hours") (eComp 100 (iOf (eCall gRange (esCons (eVal (.int 9)) esNil))) [(Str.ofString "given")] (tgName (Str.ofString "hour")) (bLaw_c5_q d) (bLaw_c5_x d)) st = some (.next, st') ∧ LS H0 J r s n st' ∧ st'.loc (Str.ofString "many") = some (.int m) ∧ st'.loc (Str.ofString "given") = some (.lst g) ∧ st'.H[g]? = some (natsAV gv) ∧ st'.loc (Str.ofString "hours") = some (.lst hh) ∧ st'.H[hh]? = some (natsAV (hoursL gv)) := by
  have e := sAssign_ok (x := (Str.ofString "hours")) (comp_hours d h2 h1)
  refine ⟨_, st.H.length, e, ⟨L.kept.trans (Kept.app _ _), by simp only [sSeq, sAssign, sRet, sFl, sIf, sExpr, eBin, eUn, eVar, eVal, eCall, eMeth, eBinG, esCons, esNil, eIf, tCmp, tNot, tAnd, tOr, tVal, tTrue, AS.put_get, AS.put_H, ne_code, isLst, isStr, if_true, if_false, eq_self, List.zip_cons_cons, List.zip_nil_right, locAfter, Nat.reduceBEq, Bool.false_eq_true, reduceCtorEq, code_COMPILER_FLAG_NAMES, code_S_IFMT, code__filemode_table, code__law_given, code__law_read, code__law_without, code__siftdown, code__siftup, code_begin, code_bit, code_char, code_childpos, code_counts, code_end, code_endpos, code_filemode, code_first, code_flag, code_flags, code_given, code_heap, code_heappop, code_heappush, code_hour, code_hours, code_i, code_index, code_item, code_k, code_last, code_lastelt, code_law, code_many, code_mode, code_most, code_names, code_newitem, code_numbers, code_octets, code_parent, code_parentpos, code_perm, code_pos, code_pretty_flags, code_returnitem, code_rightpos, code_rights, code_row, code_rows, code_script, code_startpos, code_stretches, code_table, code_v, L.rows], by simp only [sSeq, sAssign, sRet, sFl, sIf, sExpr, eBin, eUn, eVar, eVal, eCall, eMeth, eBinG, esCons, esNil, eIf, tCmp, tNot, tAnd, tOr, tVal, tTrue, AS.put_get, AS.put_H, ne_code, isLst, isStr, if_true, if_false, eq_self, List.zip_cons_cons, List.zip_nil_right, locAfter, Nat.reduceBEq, Bool.false_eq_true, reduceCtorEq, code_COMPILER_FLAG_NAMES, code_S_IFMT, code__filemode_table, code__law_given, code__law_read, code__law_without, code__siftdown, code__siftup, code_begin, code_bit, code_char, code_childpos, code_counts, code_end, code_endpos, code_filemode, code_first, code_flag, code_flags, code_given, code_heap, code_heappop, code_heappush, code_hour, code_hours, code_i, code_index, code_item, code_k, code_last, code_lastelt, code_law, code_many, code_mode, code_most, code_names, code_newitem, code_numbers, code_octets, code_parent, code_parentpos, code_perm, code_pos, code_pretty_flags, code_returnitem, code_rightpos, code_rights, code_row, code_rows, code_script, code_startpos, code_stretches, code_table, code_v, L.str], by simp only [sSeq, sAssign, sRet, sFl, sIf, sExpr, eBin, eUn, eVar, eVal, eCall, eMeth, eBinG, esCons, esNil, eIf, tCmp, tNot, tAnd, tOr, tVal, tTrue, AS.put_get, AS.put_H, ne_code, isLst, isStr, if_true, if_false, eq_self, List.zip_cons_cons, List.zip_nil_right, locAfter, Nat.reduceBEq, Bool.false_eq_true, reduceCtorEq, code_COMPILER_FLAG_NAMES, code_S_IFMT, code__filemode_table, code__law_given, code__law_read, code__law_without, code__siftdown, code__siftup, code_begin, code_bit, code_char, code_childpos, code_counts, code_end, code_endpos, code_filemode, code_first, code_flag, code_flags, code_given, code_heap, code_heappop, code_heappush, code_hour, code_hours, code_i, code_index, code_item, code_k, code_last, code_lastelt, code_law, code_many, code_mode, code_most, code_names, code_newitem, code_numbers, code_octets, code_parent, code_parentpos, code_perm, code_pos, code_pretty_flags, code_returnitem, code_rightpos, code_rights, code_row, code_rows, code_script, code_startpos, code_stretches, code_table, code_v, L.names]⟩, by (first | exact h | exact loc_o h (by decide) | exact loc_o (loc_o h (by decide)) (by decide)), by (first | exact h1 | exact loc_o h1 (by decide) | exact loc_o (loc_o h1 (by decide)) (by decide)), (Kept.app _ _).get h2, by (first | exact put_same _ _ _ | exact loc_o (put_same _ _ _) (by decide) | exact loc_o (loc_o (put_same _ _ _) (by decide)) (by decide)), get_new _ _⟩
theorem f9_count (d : Addr) {H0 : List (List AV)} {J : Jb} {r s n m g : Nat} {gv : List Nat} {st : AS} (Z : L0 H0 J r s n) (L : LS H0 J r s n st) (hm : m ≤ J.length) (h : st.loc (Str.ofString "many") = some (.int m)) (h1 : st.loc (Str.ofString "given") = some (.lst g)) (h2 : st.H[g]? = some (natsAV gv)) (S : SInv (J.take m) 9 gv) :
    ∃ H', Kept st.H H' ∧ sIf (tCmp (cInt fun a b => a != b) (eMeth isLst gCount (eVar (Str.ofString "given")) (esCons (eVal (.int 9)) esNil)) (eCall gWithout (esCons (eUpto (eVar (Str.ofString "stretches")) (eVar (Str.ofString "many"))) esNil))) (sRet (eVal (.bool false))) (sFl .next) st = some (.next, { st with H := H' }) := by
  have hc := eMeth1_ok (p := isLst) (eVar_ok h1) rfl (eVal_ok (.int 9) st) (gCount_eq h2)
  have hs := L.kept.get Z.s
  have hup := eUpto_ok L.str hs h (by unfold strAV; rw [List.length_map]; have := Z.ok.2; (first | lia | omega))
  have htake : (strAV J).take m = strAV (J.take m) := by unfold strAV; rw [List.map_take]
  rw [htake] at hup
  obtain ⟨H', h3, h4⟩ := gWithout_eq (H := st.H ++ [strAV (J.take m)]) (get_new st.H _) (by have := (Z.ok.take m).2; (first | lia | omega))
  have hn := count_nine S (Z.ok.take m)
  rw [← hn] at h3
  have hw := eCall1_ok hup h3
  generalize ((gv.map fun x : Nat => (x : Int)).count 9 : Nat) = v at hc hw
  refine ⟨H', (Kept.app _ _).trans h4, ?_⟩
  have ht : tCmp (cInt fun a b => a != b) (eMeth isLst gCount (eVar (Str.ofString "given")) (esCons (eVal (.int 9)) esNil)) (eCall gWithout (esCons (eUpto (eVar (Str.ofString "stretches")) (eVar (Str.ofString "many"))) esNil)) st = some (false, { st with H := H' }) := by
    refine tCmp_ok hc hw ?_
    rw [cInt_i]
    simp
  rw [sIf_f ht]
  rfl
end Mine
end
/-! ## part FW42 -/
section
open PySem PySem.W PyProof.Rows PySem.Calls
set_option bootstrap.genMatcherCode false
namespace Mine
theorem sum_cast : ∀ l : List Nat, (l.map fun x : Nat => (x : Int)).sum = (l.sum : Int)
  | [] => rfl
  | x :: l => by rw [List.map_cons, List.sum_cons, sum_cast l, List.sum_cons]; (first | lia | omega)
theorem gJoin_eq {H : List (List AV)} {l : Nat} {sep : Str} {ys : List Str} (h : H[l]? = some (ys.map .str)) (hj : (ys.map (·.length)).sum + ys.length * sep.length ≤ 1000000) : gJoin [.str sep, .lst l] H = some (.str (Txt.join sep ys), H) := by
  simp only [gJoin, h, strsOf_map]
  rw [if_pos hj]
theorem hoursL_lt (gv : List Nat) : ∀ x ∈ hoursL gv, x < 9 := fun x hx => List.mem_range.mp (List.mem_filter.mp hx).1
theorem hoursL_len (gv : List Nat) : (hoursL gv).length ≤ 9 := Nat.le_trans (List.length_filter_le _ _) (by simp)
theorem trStr_eq {H : List (List AV)} {x : Str} (h : x.length < 1000000) : trStr H (.str x) = some (x.length != 0) := by
  simp only [trStr]
  rw [if_pos h]
theorem f9_flags (d : Addr) {H0 : List (List AV)} {J : Jb} {r s n m g hh : Nat} {gv : List Nat} {st : AS} (Z : L0 H0 J r s n) (L : LS H0 J r s n st) (hm : m ≤ J.length) (h1 : st.loc (Str.ofString "given") = some (.lst g)) (h2 : st.H[g]? = some (natsAV gv)) (S : SInv (J.take m) 9 gv) (h3 : st.loc (Str.ofString "hours") = some (.lst hh)) (h4 : st.H[hh]? = some (natsAV (hoursL gv))) :
    ∃ H', Kept st.H H' ∧ sIf (tCmp (cStr fun a b => a != b) (eCall (gFlags d) (esCons (eCall gSum (esCons (eComp 100 (iOf (eVar (Str.ofString "given"))) [] (tgName (Str.ofString "hour")) (bLaw_c6_q d) (bLaw_c6_x d)) esNil)) esNil)) (eOr trStr (eMeth isStr gJoin (eVal (.str (Str.ofString ", "))) (esCons (eComp 100 (iOf (eRev (eVar (Str.ofString "hours")))) [(Str.ofString "names")] (tgName (Str.ofString "hour")) tTrue (bLaw_c7_x d)) esNil)) (eVal (.str (Str.ofString "0x0"))))) (sRet (eVal (.bool false))) (sFl .next) st = some (.next, { st with H := H' }) := by
  have hlen : gv.length ≤ 50 := by rw [S.len]; have := (Z.ok.take m).2; (first | lia | omega)
  have h9 : ∀ x ∈ gv, x ≤ 9 := fun x hx => by
    obtain ⟨k, hk, rfl⟩ := List.getElem_of_mem hx
    have hkJ : k < (J.take m).length := by rw [← S.len]; exact hk
    have hga : ga gv k = gv[k] := by unfold ga; rw [List.getD_eq_getElem?_getD, List.getElem?_eq_getElem hk]; rfl
    rcases S.f1 k _ _ (jget hkJ) with w | ⟨w, _⟩ <;> (first | lia | omega)
  have hc := comp_sum d h2 hlen h9 h1
  have hg := get_new st.H (natsAV ((servedL gv).map fun h => 2 ^ (8 - h)))
  rw [natsAV_eq] at hg hc
  have hs := gSum_eq hg
  rw [sum_cast] at hs
  have hmask : ((servedL gv).map fun h => 2 ^ (8 - h)).sum = maskOf (hoursL gv) := mask_served S
  rw [hmask] at hs
  obtain ⟨m1, m2, m3⟩ := mask_fact fun h => gv.any (· == h)
  have hfl := gFlags_eq d (maskOf (hoursL gv)) m1 (st.H ++ [intsAV (((servedL gv).map fun h => 2 ^ (8 - h)).map fun x : Nat => (x : Int))])
  have e1 := eCall1_ok (eCall1_ok hc hs) hfl
  generalize hH1 : st.H ++ [intsAV (((servedL gv).map fun h => 2 ^ (8 - h)).map fun x : Nat => (x : Int))] ++ [(flagsNames (maskOf (hoursL gv))).map .str] = H1 at e1
  have hK1 : Kept st.H H1 := by rw [← hH1]; exact (Kept.app _ _).trans (Kept.app _ _)
  obtain ⟨H2, hK2, hc2⟩ := comp_names d (st := { st with H := H1 }) (hK1.get h4) (by have := hoursL_len gv; (first | lia | omega)) (hoursL_lt gv) (hK1.get (L.kept.get Z.n)) h3 L.names
  have hnames : ((hoursL gv).reverse.map fun h => flagName (8 - h)) = ((hoursL gv).reverse.map fun h => 8 - h).map flagName := by rw [List.map_map]; rfl
  have hll : ((hoursL gv).reverse.map fun h => 8 - h).length ≤ 9 := by rw [List.length_map, List.length_reverse]; exact hoursL_len gv
  have h2l : ((Str.ofString ", ")).length = 2 := by decide +kernel
  have hj := gJoin_eq (sep := (Str.ofString ", ")) (get_new H2 (((hoursL gv).reverse.map fun h => flagName (8 - h)).map AV.str)) (by
    rw [h2l, hnames]
    have := names_len ((hoursL gv).reverse.map fun h => 8 - h)
    rw [List.length_map]
    (first | lia | omega))
  have e2 := eMeth1_ok (p := isStr) (g := gJoin) (eVal_ok (.str (Str.ofString ", ")) { st with H := H1 }) rfl hc2 hj
  generalize hH3 : H2 ++ [((hoursL gv).reverse.map fun h => flagName (8 - h)).map AV.str] = H3 at e2
  have hK3 : Kept st.H H3 := by rw [← hH3]; exact hK1.trans (hK2.trans (Kept.app _ _))
  refine ⟨H3, hK3, ?_⟩
  have ht : tCmp (cStr fun a b => a != b) (eCall (gFlags d) (esCons (eCall gSum (esCons (eComp 100 (iOf (eVar (Str.ofString "given"))) [] (tgName (Str.ofString "hour")) (bLaw_c6_q d) (bLaw_c6_x d)) esNil)) esNil)) (eOr trStr (eMeth isStr gJoin (eVal (.str (Str.ofString ", "))) (esCons (eComp 100 (iOf (eRev (eVar (Str.ofString "hours")))) [(Str.ofString "names")] (tgName (Str.ofString "hour")) tTrue (bLaw_c7_x d)) esNil)) (eVal (.str (Str.ofString "0x0")))) st = some (false, { st with H := H3 }) := by
    by_cases hne : hoursL gv = []
    · have e3 : eOr trStr (eMeth isStr gJoin (eVal (.str (Str.ofString ", "))) (esCons (eComp 100 (iOf (eRev (eVar (Str.ofString "hours")))) [(Str.ofString "names")] (tgName (Str.ofString "hour")) tTrue (bLaw_c7_x d)) esNil)) (eVal (.str (Str.ofString "0x0"))) { st with H := H1 } = some (.str (Str.ofString "0x0"), { st with H := H3 }) := by
        unfold eOr
        rw [e2, hne]
        dsimp only
        rw [show Txt.join (Str.ofString ", ") (([] : List Nat).reverse.map fun h => flagName (8 - h)) = ⟨#[]⟩ from rfl, trStr_eq (by decide)]
        rfl
      refine tCmp_ok e1 e3 ?_
      rw [cStr_s, hne, flags_nil, join_one]
      simp
    · have hjl := join_len ((hoursL gv).reverse.map fun h => 8 - h) (by simpa using hne) hll
      rw [← hnames] at hjl
      have e3 : eOr trStr (eMeth isStr gJoin (eVal (.str (Str.ofString ", "))) (esCons (eComp 100 (iOf (eRev (eVar (Str.ofString "hours")))) [(Str.ofString "names")] (tgName (Str.ofString "hour")) tTrue (bLaw_c7_x d)) esNil)) (eVal (.str (Str.ofString "0x0"))) { st with H := H1 } = some (.str (Txt.join (Str.ofString ", ") ((hoursL gv).reverse.map fun h => flagName (8 - h))), { st with H := H3 }) := by
        unfold eOr
        rw [e2]
        dsimp only
        rw [trStr_eq hjl.2, bne_iff_ne.mpr (by (first | lia | omega))]
      refine tCmp_ok e1 e3 ?_
      rw [cStr_s]
      have := hourNames_eq (fun h => gv.any (· == h)) hne
      unfold hourNames at this
      have this' : flagsNames (maskOf (hoursL gv)) = ((hoursL gv).reverse.map fun h => flagName (8 - h)) := this
      rw [this']
      simp
  rw [sIf_f ht]
  rfl
end Mine
end
/-! ## part FW43 -/
section
open PySem PySem.W PyProof.Rows PySem.Calls
set_option bootstrap.genMatcherCode false
namespace Mine
theorem f9_k (d : Addr) {H0 : List (List AV)} {J : Jb} {r s n m g : Nat} {gv : List Nat} {st : AS} (Z : L0 H0 J r s n) (L : LS H0 J r s n st) (hm : m ≤ J.length) (h : st.loc (Str.ofString "many") = some (.int m)) (h1 : st.loc (Str.ofString "given") = some (.lst g)) (h2 : st.H[g]? = some (natsAV gv)) (S : SInv (J.take m) 9 gv) :
    ∃ H', Kept st.H H' ∧ sIf (tCmp cNeL (eComp 100 (iOf (eCall gRange (esCons (eVar (Str.ofString "many")) esNil))) [(Str.ofString "given"), (Str.ofString "stretches")] (tgName (Str.ofString "k")) (bLaw_c8_q d) (bLaw_c8_x d)) (eCall gList esNil)) (sRet (eVal (.bool false))) (sFl .next) st = some (.next, { st with H := H' }) := by
  have hJl := Z.ok.2
  have hgl : m = gv.length := by rw [S.len, List.length_take]; (first | lia | omega)
  have hf : ∀ k, k < m → ga gv k = 9 ∨ (ga gv k < 9 ∧ ja J k ≤ ga gv k ∧ ga gv k < jb J k) := fun k hk => by
    have e : (J.take m)[k]? = some (ja J k, jb J k) := by rw [List.getElem?_take_of_lt hk]; exact jget (by (first | lia | omega))
    exact S.f1 k _ _ e
  have hc := comp_k d h2 (L.kept.get Z.s) h1 L.str h hgl hm (by (first | lia | omega)) hf
  have hl : eCall gList esNil { st with H := st.H ++ [[]] } = some (.lst (st.H ++ [[]]).length, { st with H := st.H ++ [[]] ++ [[]] }) := rfl
  have hne : cNeL (st.H ++ [[]] ++ [[]]) (.lst st.H.length) (.lst (st.H ++ [[]]).length) = some false := cNeL_eq ((Kept.app _ _).get (get_new st.H [])) (get_new (st.H ++ [[]]) [])
  refine ⟨st.H ++ [[]] ++ [[]], (Kept.app _ _).trans (Kept.app _ _), ?_⟩
  rw [sIf_f (tCmp_ok hc hl hne)]
  rfl
theorem LS.withH {H0 : List (List AV)} {J : Jb} {r s n : Nat} {st : AS} {H' : List (List AV)} (L : LS H0 J r s n st) (h : Kept st.H H') : LS H0 J r s n { st with H := H' } := ⟨L.kept.trans h, L.rows, L.str, L.names⟩
theorem f9 (d : Addr) {H0 : List (List AV)} {J : Jb} {r s n m : Nat} {st : AS} (Z : L0 H0 J r s n) (L : LS H0 J r s n st) (hm : m ≤ J.length) (h : st.loc (Str.ofString "many") = some (.int m)) :
    ∃ st', bLaw_f9_b d st = some (.next, st') ∧ LS H0 J r s n st' := by
  obtain ⟨s1, g, gv, a1, a2, a3, a4, a5, a6⟩ := f9_given d Z L hm h
  obtain ⟨s2, hh, b1, b2, b3, b4, b5, b6, b7⟩ := f9_hours d a2 a3 a4 a5
  obtain ⟨H3, c1, c2⟩ := f9_count d Z b2 hm b3 b4 b5 a6
  obtain ⟨H4, d1, d2⟩ := f9_flags d (st := { s2 with H := H3 }) Z (b2.withH c1) hm b4 (c1.get b5) a6 b6 (c1.get b7)
  obtain ⟨H5, e1, e2⟩ := f9_k d (st := { s2 with H := H4 }) Z (b2.withH (c1.trans d1)) hm b3 b4 (d1.get (c1.get b5)) a6
  refine ⟨{ s2 with H := H5 }, ?_, b2.withH (c1.trans (d1.trans e1))⟩
  unfold bLaw_f9_b
  rw [sSeq_next a1, sSeq_next b1, sSeq_next c2, sSeq_next d2, e2]
theorem law_7 (d : Addr) {H0 : List (List AV)} {J : Jb} {r s n : Nat} {st : AS} (Z : L0 H0 J r s n) (L : LS H0 J r s n st) (hJ1 : 0 < J.length) : ∃ st', bLaw_7 d st = some (.next, st') ∧ LS H0 J r s n st' := by
  have hJl := Z.ok.2
  have hlen : gLen [.lst r] st.H = some (.int J.length, st.H) := by
    have h := gLen_eq (L.kept.get Z.r) (by unfold rowsOf; rw [List.length_map]; (first | lia | omega))
    unfold rowsOf at h
    rw [List.length_map] at h
    exact h
  have e0 := eCall1_ok (eVar_ok L.rows) hlen
  have e1 := eBin_ok e0 (eVal_ok (.int 1) _) (oSub st.H _ _)
  have hsub : ((J.length : Int) - 1) = ((J.length - 1 : Nat) : Int) := by (first | lia | omega)
  rw [hsub] at e1
  have hl : eCall gList (esCons (eBin (oInt fSub) (eCall gLen (esCons (eVar (Str.ofString "rows")) esNil)) (eVal (.int 1))) (esCons (eCall gLen (esCons (eVar (Str.ofString "rows")) esNil)) esNil)) st = some (.lst st.H.length, { st with H := st.H ++ [natsAV [J.length - 1, J.length]] }) := by
    have e1' : eBin (oInt fSub) (eCall gLen (esCons (eVar (Str.ofString "rows")) esNil)) (eVal (.int 1)) st = some (.int ((J.length - 1 : Nat) : Int), st) := e1
    have e0' : eCall gLen (esCons (eVar (Str.ofString "rows")) esNil) st = some (.int J.length, st) := e0
    simp only [eCall] at e0'
    simp only [eCall, esCons, esNil, e1', gList_eq]
    simp only [esCons, esNil] at e0'
    rw [e0']
    rfl
  have hK : Kept st.H (st.H ++ [natsAV [J.length - 1, J.length]]) := Kept.app _ _
  have Z' := Z
  obtain ⟨st', h3⟩ := for_any (tg := tgName (Str.ofString "many")) (b := bLaw_f9_b d) (els := sFl .next) (fun j => .lst st.H.length j) (fun j => .int (([J.length - 1, J.length].getD j 0 : Nat) : Int)) 2
    (fun j t => LS H0 J r s n t ∧ Kept (st.H ++ [natsAV [J.length - 1, J.length]]) t.H) (fun _ => False)
    (fun j t hj hP => by
      refine lst_next (hP.2.get (get_new _ _)) ?_
      have : j = 0 ∨ j = 1 := by (first | lia | omega)
      rcases this with rfl | rfl <;> rfl)
    (fun t hP => by
      have := lst_end (hP.2.get (get_new st.H (natsAV [J.length - 1, J.length])))
      exact this)
    (fun j t hj hP => by
      have hle : [J.length - 1, J.length].getD j 0 ≤ J.length := by
        have : j = 0 ∨ j = 1 := by (first | lia | omega)
        rcases this with rfl | rfl
        · exact Nat.sub_le _ _
        · exact Nat.le_refl _
      generalize [J.length - 1, J.length].getD j 0 = m at hle ⊢
      have Lp : LS H0 J r s n (t.put (Str.ofString "many") (.int m)) := ⟨hP.1.kept, by simp only [sSeq, sAssign, sRet, sFl, sIf, sExpr, eBin, eUn, eVar, eVal, eCall, eMeth, eBinG, esCons, esNil, eIf, tCmp, tNot, tAnd, tOr, tVal, tTrue, AS.put_get, AS.put_H, ne_code, isLst, isStr, if_true, if_false, eq_self, List.zip_cons_cons, List.zip_nil_right, locAfter, Nat.reduceBEq, Bool.false_eq_true, reduceCtorEq, code_COMPILER_FLAG_NAMES, code_S_IFMT, code__filemode_table, code__law_given, code__law_read, code__law_without, code__siftdown, code__siftup, code_begin, code_bit, code_char, code_childpos, code_counts, code_end, code_endpos, code_filemode, code_first, code_flag, code_flags, code_given, code_heap, code_heappop, code_heappush, code_hour, code_hours, code_i, code_index, code_item, code_k, code_last, code_lastelt, code_law, code_many, code_mode, code_most, code_names, code_newitem, code_numbers, code_octets, code_parent, code_parentpos, code_perm, code_pos, code_pretty_flags, code_returnitem, code_rightpos, code_rights, code_row, code_rows, code_script, code_startpos, code_stretches, code_table, code_v, hP.1.rows], by simp only [sSeq, sAssign, sRet, sFl, sIf, sExpr, eBin, eUn, eVar, eVal, eCall, eMeth, eBinG, esCons, esNil, eIf, tCmp, tNot, tAnd, tOr, tVal, tTrue, AS.put_get, AS.put_H, ne_code, isLst, isStr, if_true, if_false, eq_self, List.zip_cons_cons, List.zip_nil_right, locAfter, Nat.reduceBEq, Bool.false_eq_true, reduceCtorEq, code_COMPILER_FLAG_NAMES, code_S_IFMT, code__filemode_table, code__law_given, code__law_read, code__law_without, code__siftdown, code__siftup, code_begin, code_bit, code_char, code_childpos, code_counts, code_end, code_endpos, code_filemode, code_first, code_flag, code_flags, code_given, code_heap, code_heappop, code_heappush, code_hour, code_hours, code_i, code_index, code_item, code_k, code_last, code_lastelt, code_law, code_many, code_mode, code_most, code_names, code_newitem, code_numbers, code_octets, code_parent, code_parentpos, code_perm, code_pos, code_pretty_flags, code_returnitem, code_rightpos, code_rights, code_row, code_rows, code_script, code_startpos, code_stretches, code_table, code_v, hP.1.str], by simp only [sSeq, sAssign, sRet, sFl, sIf, sExpr, eBin, eUn, eVar, eVal, eCall, eMeth, eBinG, esCons, esNil, eIf, tCmp, tNot, tAnd, tOr, tVal, tTrue, AS.put_get, AS.put_H, ne_code, isLst, isStr, if_true, if_false, eq_self, List.zip_cons_cons, List.zip_nil_right, locAfter, Nat.reduceBEq, Bool.false_eq_true, reduceCtorEq, code_COMPILER_FLAG_NAMES, code_S_IFMT, code__filemode_table, code__law_given, code__law_read, code__law_without, code__siftdown, code__siftup, code_begin, code_bit, code_char, code_childpos, code_counts, code_end, code_endpos, code_filemode, code_first, code_flag, code_flags, code_given, code_heap, code_heappop, code_heappush, code_hour, code_hours, code_i, code_index, code_item, code_k, code_last, code_lastelt, code_law, code_many, code_mode, code_most, code_names, code_newitem, code_numbers, code_octets, code_parent, code_parentpos, code_perm, code_pos, code_pretty_flags, code_returnitem, code_rightpos, code_rights, code_row, code_rows, code_script, code_startpos, code_stretches, code_table, code_v, hP.1.names]⟩
      have Zk : L0 (st.H ++ [natsAV [J.length - 1, J.length]]) J r s n := ⟨Z.ok, hK.get (L.kept.get Z.r), hK.get (L.kept.get Z.s), hK.get (L.kept.get Z.n)⟩
      have Lk : LS (st.H ++ [natsAV [J.length - 1, J.length]]) J r s n (t.put (Str.ofString "many") (.int m)) := ⟨hP.2, Lp.rows, Lp.str, Lp.names⟩
      obtain ⟨t', c1, c2⟩ := f9 d Zk Lk hle (by (first | exact put_same _ _ _ | exact loc_o (put_same _ _ _) (by decide) | exact loc_o (loc_o (put_same _ _ _) (by decide)) (by decide)))
      exact ⟨t.put (Str.ofString "many") (.int m), t', rfl, .inl ⟨.inl c1, ⟨L.kept.trans (hK.trans c2.kept), c2.rows, c2.str, c2.names⟩, c2.kept⟩⟩)
    2 0 { st with H := st.H ++ [natsAV [J.length - 1, J.length]] } 100 (by (first | lia | omega)) ⟨L.withH hK, Kept.refl _⟩ (by decide)
  rcases h3 with ⟨⟨b1, b2⟩, e⟩ | ⟨h, _⟩
  · refine ⟨st', ?_, b1⟩
    unfold bLaw_7 sFor
    rw [iOf_ok hl (show itOf (.lst st.H.length) = some (.lst st.H.length 0) from rfl)]
    exact e
  · exact h.elim
end Mine
end
/-! ## part FW44 -/
section
open PySem PySem.W PyProof.Rows PySem.Calls
set_option bootstrap.genMatcherCode false
namespace Mine
/-! ### the rows shown -/
theorem tChain_t {g g' : List (List AV) → AV → AV → Option Bool} {a b e : EM} {st : AS} {x y z : AV} {t : Bool} (h1 : a st = some (x, st)) (h2 : b st = some (y, st)) (h3 : g st.H x y = some true) (h4 : e st = some (z, st)) (h5 : g' st.H y z = some t) : tChain g g' a b e st = some (t, st) := by
  simp only [tChain, h1, h2, h3, h4, h5]
theorem tChain_f {g g' : List (List AV) → AV → AV → Option Bool} {a b e : EM} {st : AS} {x y : AV} (h1 : a st = some (x, st)) (h2 : b st = some (y, st)) (h3 : g st.H x y = some false) : tChain g g' a b e st = some (false, st) := by
  simp only [tChain, h1, h2, h3]
theorem eIf_t {t : TM} {a b : EM} {st s1 : AS} (h : t st = some (true, s1)) : eIf t a b st = a s1 := by simp only [eIf, h]
theorem eIf_f {t : TM} {a b : EM} {st s1 : AS} (h : t st = some (false, s1)) : eIf t a b st = b s1 := by simp only [eIf, h]
theorem rwx_at0 : ∀ x ∈ List.range 9, ((Str.ofString "rwxrwxrwx")).cps[x]? = some (rwx x) := by decide +kernel
noncomputable def rowChar (a b h : Nat) : Str := if a ≤ h ∧ h < b then ⟨#[rwx h]⟩ else ⟨#[45]⟩
theorem rowChars_eq (a b : Nat) : rowChars a b = (List.range 9).map (rowChar a b) := rfl
theorem c10_x (d : Addr) {st : AS} {a b x : Nat} (hx : x < 9) (h1 : st.loc (Str.ofString "first") = some (.int a)) (h2 : st.loc (Str.ofString "last") = some (.int b)) (h3 : st.loc (Str.ofString "hour") = some (.int x)) :
    bLaw_c10_x d st = some (.str (rowChar a b x), st) := by
  unfold bLaw_c10_x
  have hd : ((Str.ofString "-") : Str) = ⟨#[45]⟩ := dash
  by_cases q : a ≤ x
  · have q1 : (cInt (fun a b => decide (a ≤ b))) st.H (.int (a : Int)) (.int (x : Int)) = some true := by rw [cInt_i, decide_eq_true (by (first | lia | omega))]
    by_cases q2 : x < b
    · have q3 : (cInt (fun a b => decide (a < b))) st.H (.int (x : Int)) (.int (b : Int)) = some true := by rw [cInt_i, decide_eq_true (by (first | lia | omega))]
      rw [eIf_t (tChain_t (eVar_ok h1) (eVar_ok h3) q1 (eVar_ok h2) q3)]
      have hi := oItem_str (x := (Str.ofString "rwxrwxrwx")) st.H x (by (first | lia | omega)) (rwx_at0 x (List.mem_range.mpr hx))
      have hr : rowChar a b x = ⟨#[rwx x]⟩ := by unfold rowChar; rw [if_pos ⟨q, q2⟩]
      rw [hr]
      exact eBin_ok (eVal_ok _ _) (eVar_ok h3) hi
    · have q3 : (cInt (fun a b => decide (a < b))) st.H (.int (x : Int)) (.int (b : Int)) = some false := by rw [cInt_i, decide_eq_false (by (first | lia | omega))]
      rw [eIf_f (tChain_t (eVar_ok h1) (eVar_ok h3) q1 (eVar_ok h2) q3)]
      have hr : rowChar a b x = ⟨#[45]⟩ := by unfold rowChar; rw [if_neg fun h => q2 h.2]
      rw [hr, hd]; rfl
  · have q1 : (cInt (fun a b => decide (a ≤ b))) st.H (.int (a : Int)) (.int (x : Int)) = some false := by rw [cInt_i, decide_eq_false (by (first | lia | omega))]
    rw [eIf_f (tChain_f (eVar_ok h1) (eVar_ok h3) q1)]
    have hr : rowChar a b x = ⟨#[45]⟩ := by unfold rowChar; rw [if_neg fun h => q h.1]
    rw [hr, hd]; rfl
theorem comp_chars (d : Addr) {st : AS} {a b : Nat} (h1 : st.loc (Str.ofString "first") = some (.int a)) (h2 : st.loc (Str.ofString "last") = some (.int b)) :
    eComp 100 (iOf (eCall gRange (esCons (eVal (.int 9)) esNil))) [(Str.ofString "first"), (Str.ofString "last")] (tgName (Str.ofString "hour")) tTrue (bLaw_c10_x d) st = some (.lst st.H.length, { st with H := st.H ++ [(rowChars a b).map .str] }) := by
  obtain ⟨ys, st', hP, hgo⟩ := comp_any (tg := tgName (Str.ofString "hour")) (tst := tTrue) (elt := bLaw_c10_x d) (rngAt 0 9) (fun j => .int (0 + j)) 9
    (fun j acc t => t.H = st.H ∧ t.loc (Str.ofString "first") = some (.int a) ∧ t.loc (Str.ofString "last") = some (.int b) ∧ acc = ((List.range j).map (rowChar a b)).map .str)
    (fun j acc t hj _ => rng_next 0 9 t.H j hj) (fun acc t _ => rng_end 0 9 t.H)
    (fun j acc t hj hP => by
      obtain ⟨a1, a2, a3, a4⟩ := hP
      have hj0 : (0 + (j : Int)) = j := by (first | lia | omega)
      rw [hj0]
      have hx := c10_x d (st := t.put (Str.ofString "hour") (.int j)) (a := a) (b := b) (x := j) hj (by (first | exact a2 | exact loc_o a2 (by decide) | exact loc_o (loc_o a2 (by decide)) (by decide))) (by (first | exact a3 | exact loc_o a3 (by decide) | exact loc_o (loc_o a3 (by decide)) (by decide))) (by (first | exact put_same _ _ _ | exact loc_o (put_same _ _ _) (by decide) | exact loc_o (loc_o (put_same _ _ _) (by decide)) (by decide)))
      refine ⟨t.put (Str.ofString "hour") (.int j), true, t.put (Str.ofString "hour") (.int j), rfl, rfl, fun _ => ⟨_, _, hx, a1, by (first | exact a2 | exact loc_o a2 (by decide) | exact loc_o (loc_o a2 (by decide)) (by decide)), by (first | exact a3 | exact loc_o a3 (by decide) | exact loc_o (loc_o a3 (by decide)) (by decide)), ?_⟩, fun h => (by cases h)⟩
      rw [a4, List.range_succ, List.map_append, List.map_append]
      rfl)
    9 0 [] (compLoc [(Str.ofString "first"), (Str.ofString "last")] st) 100 (by (first | lia | omega)) ⟨rfl, by simp only [compLoc_get, List.mem_cons, true_or, if_true, h1], by simp only [compLoc_get, List.mem_cons, true_or, or_true, if_true, h2], rfl⟩ (by (first | lia | omega))
  obtain ⟨c1, c2, c3, c4⟩ := hP
  have hr : eCall gRange (esCons (eVal (.int 9)) esNil) st = some (.rng 0 ((9 : Nat) : Int), st) := by simp only [sSeq, sAssign, sRet, sFl, sIf, sExpr, eBin, eUn, eVar, eVal, eCall, eMeth, eBinG, esCons, esNil, eIf, tCmp, tNot, tAnd, tOr, tVal, tTrue, AS.put_get, AS.put_H, ne_code, isLst, isStr, if_true, if_false, eq_self, List.zip_cons_cons, List.zip_nil_right, locAfter, Nat.reduceBEq, Bool.false_eq_true, reduceCtorEq, code_COMPILER_FLAG_NAMES, code_S_IFMT, code__filemode_table, code__law_given, code__law_read, code__law_without, code__siftdown, code__siftup, code_begin, code_bit, code_char, code_childpos, code_counts, code_end, code_endpos, code_filemode, code_first, code_flag, code_flags, code_given, code_heap, code_heappop, code_heappush, code_hour, code_hours, code_i, code_index, code_item, code_k, code_last, code_lastelt, code_law, code_many, code_mode, code_most, code_names, code_newitem, code_numbers, code_octets, code_parent, code_parentpos, code_perm, code_pos, code_pretty_flags, code_returnitem, code_rightpos, code_rights, code_row, code_rows, code_script, code_startpos, code_stretches, code_table, code_v, gRange]; rfl
  unfold eComp
  rw [if_pos (by simp [h1, h2]), iOf_rng hr (by decide)]
  dsimp only
  rw [hgo, c4]
  dsimp only
  rw [c1]
  rfl
theorem rowChars_len0 : ∀ a ∈ List.range 9, ∀ b ∈ List.range 10, a < b → ((rowChars a b).map (·.length)).sum + (rowChars a b).length * ((Str.ofString "") : Str).length ≤ 100 ∧ (Txt.join ⟨#[]⟩ (rowChars a b)).length ≤ 100 := by decide +kernel
theorem oStrAdd_eq (H : List (List AV)) {x y : Str} (h : x.length + y.length ≤ 1000000) : oStrAdd H (.str x) (.str y) = some (.str (x ++ y)) := by
  simp only [oStrAdd]
  rw [if_pos h]
theorem c11_x (d : Addr) {st : AS} {a b : Nat} (hab : a < b) (hb : b ≤ 9) (h1 : st.loc (Str.ofString "first") = some (.int a)) (h2 : st.loc (Str.ofString "last") = some (.int b)) :
    bLaw_c11_x d st = some (.str (rowStr a b), { st with H := st.H ++ [(rowChars a b).map .str] }) := by
  obtain ⟨l1, l2⟩ := rowChars_len0 a (ab_mem hab hb).1 b (ab_mem hab hb).2 hab
  have hc := comp_chars d h1 h2
  have hr : rowStr a b = ⟨#[45]⟩ ++ Txt.join ⟨#[]⟩ (rowChars a b) := rfl
  rw [hr]
  generalize rowChars a b = L at *
  have hj := gJoin_eq (sep := (Str.ofString "")) (get_new st.H (L.map AV.str)) (by (first | lia | omega))
  rw [empty_str] at hj
  have hm := eMeth1_ok (p := isStr) (eVal_ok (.str (Str.ofString "")) st) rfl hc (by rw [empty_str]; exact hj)
  have hd : ((Str.ofString "-") : Str).length = 1 := by decide +kernel
  generalize hT : Txt.join ⟨#[]⟩ L = T at *
  have := eBin_ok (eVal_ok (.str (Str.ofString "-")) st) hm (oStrAdd_eq _ (x := (Str.ofString "-")) (y := T) (by (first | lia | omega)))
  rw [dash] at this
  unfold bLaw_c11_x
  rw [dash]
  exact this
theorem comp_shown (d : Addr) {st : AS} {J : Jb} {s : Nat} (hJ : JOk J) (hs : st.H[s]? = some (strAV J)) (h : st.loc (Str.ofString "stretches") = some (.lst s)) :
    ∃ H', Kept st.H H' ∧ eComp 100 (iOf (eVar (Str.ofString "stretches"))) [] (tgPair (Str.ofString "first") (Str.ofString "last")) tTrue (bLaw_c11_x d) st = some (.lst H'.length, { st with H := H' ++ [rowsOf J] }) := by
  obtain ⟨ys, st', hP, hgo⟩ := comp_any (tg := tgPair (Str.ofString "first") (Str.ofString "last")) (tst := tTrue) (elt := bLaw_c11_x d) (fun j => .lst s j) (fun j => .tuple [.int ((J.getD j (0, 0)).1 : Int), .int ((J.getD j (0, 0)).2 : Int)]) J.length
    (fun j acc t => Kept st.H t.H ∧ acc = rowsOf (J.take j))
    (fun j acc t hj hP => by
      refine lst_next (hP.1.get hs) ?_
      unfold strAV
      rw [List.getElem?_map, List.getD_eq_getElem?_getD, List.getElem?_eq_getElem hj]; rfl)
    (fun acc t hP => by
      have := lst_end (hP.1.get hs)
      unfold strAV at this
      rw [List.length_map] at this; exact this)
    (fun j acc t hj hP => by
      obtain ⟨a1, a2⟩ := hP
      have hget : J[j]? = some (J.getD j (0, 0)) := by rw [List.getD_eq_getElem?_getD, List.getElem?_eq_getElem hj]; rfl
      generalize J.getD j (0, 0) = p at hget
      obtain ⟨a, b⟩ := p
      have hab := hJ.1 (a, b) (List.mem_of_getElem? hget)
      dsimp only at hab ⊢
      have hx := c11_x d (st := (t.put (Str.ofString "first") (.int a)).put (Str.ofString "last") (.int b)) hab.1 hab.2 (by (first | exact put_same _ _ _ | exact loc_o (put_same _ _ _) (by decide) | exact loc_o (loc_o (put_same _ _ _) (by decide)) (by decide))) (by (first | exact put_same _ _ _ | exact loc_o (put_same _ _ _) (by decide) | exact loc_o (loc_o (put_same _ _ _) (by decide)) (by decide)))
      refine ⟨(t.put (Str.ofString "first") (.int a)).put (Str.ofString "last") (.int b), true, (t.put (Str.ofString "first") (.int a)).put (Str.ofString "last") (.int b), rfl, rfl, fun _ => ⟨_, _, hx, a1.trans (Kept.app _ _), ?_⟩, fun h => (by cases h)⟩
      rw [a2, List.take_add_one, hget]
      unfold rowsOf
      rw [List.map_append]
      rfl)
    J.length 0 [] (compLoc [] st) 100 (by (first | lia | omega)) ⟨Kept.refl _, rfl⟩ (by have := hJ.2; (first | lia | omega))
  obtain ⟨c1, c2⟩ := hP
  rw [List.take_length] at c2
  refine ⟨st'.H, c1, ?_⟩
  unfold eComp
  rw [if_pos (by simp), iOf_ok (eVar_ok h) (show itOf (.lst s) = some (.lst s 0) from rfl)]
  dsimp only
  rw [hgo, c2]
theorem cEqL_eq {H : List (List AV)} {l m : Nat} {ss : List Str} (h1 : H[l]? = some (ss.map .str)) (h2 : H[m]? = some (ss.map .str)) : cEqL H (.lst l) (.lst m) = some true := by
  simp only [cEqL, h1, h2, strsOf_map]
  rw [if_neg (by simp)]; exact congrArg some (decide_eq_true trivial)
theorem law_8 (d : Addr) {H0 : List (List AV)} {J : Jb} {r s n : Nat} {st : AS} (Z : L0 H0 J r s n) (L : LS H0 J r s n st) : ∃ st', bLaw_8 d st = some (.ret (.bool true), st') ∧ Kept st.H st'.H := by
  obtain ⟨H', a1, a2⟩ := comp_shown d Z.ok (L.kept.get Z.s) L.str
  have hr : rowsOf J = (J.map fun p => rowStr p.1 p.2).map .str := by unfold rowsOf; rw [List.map_map]; rfl
  have e1 : (H' ++ [rowsOf J])[r]? = some ((J.map fun p => rowStr p.1 p.2).map .str) := by rw [← hr]; exact (Kept.app _ _).get (a1.get (L.kept.get Z.r))
  have e2 : (H' ++ [rowsOf J])[H'.length]? = some ((J.map fun p => rowStr p.1 p.2).map .str) := by rw [← hr]; exact get_new _ _
  have hq := cEqL_eq e1 e2
  refine ⟨{ st with H := H' ++ [rowsOf J] }, ?_, a1.trans (Kept.app _ _)⟩
  unfold bLaw_8
  have hb := eBin_ok (f := fun H x y => (cEqL H x y).map AV.bool) (eVar_ok L.rows) a2 (by show (cEqL _ _ _).map AV.bool = _; rw [hq]; rfl)
  simp only [sRet, hb]
end Mine
end
/-! ## part FW45 -/
section
open PySem PySem.W PyProof.Rows PySem.Calls
set_option bootstrap.genMatcherCode false
namespace Mine
/-! ### the whole law -/
theorem namesAV_eq : [AV.str (Str.ofString "ITERABLE_COROUTINE"), .str (Str.ofString "COROUTINE"), .str (Str.ofString "NOFREE"), .str (Str.ofString "GENERATOR"), .str (Str.ofString "NESTED"), .str (Str.ofString "VARKEYWORDS"), .str (Str.ofString "VARARGS"), .str (Str.ofString "NEWLOCALS"), .str (Str.ofString "OPTIMIZED")] = namesAV := by kernel_rfl
theorem law_0 (d : Addr) (st : AS) : bLaw_0 d st = some (.next, AS.put { st with H := st.H ++ [namesAV] } (Str.ofString "names") (.lst st.H.length)) := by
  unfold bLaw_0
  refine sAssign_ok ?_
  rw [← namesAV_eq]
  simp only [eCall, esCons, esNil, eVal_ok, gList_eq]
theorem eUptoR_ok {st : AS} {x : Str} {sa k : Nat} {sn : List Int} (h : st.loc x = some (.raw (.ref sa))) (hx : sn.length ≤ 1000) : eUptoR sa sn (eVar x) (eVal (.int (k : Int))) st = some (.lst st.H.length, { st with H := st.H ++ [intsAV (sn.take k)] }) := by
  simp only [eUptoR, eVar_ok h, eVal_ok]
  rw [if_pos ⟨trivial, by (first | lia | omega), hx⟩]
  simp [intsAV]
theorem eBinG_ok {g : GF} {a b : EM} {st s1 s2 : AS} {x y v : AV} {H' : List (List AV)} (h1 : a st = some (x, s1)) (h2 : b s1 = some (y, s2)) (h3 : g [x, y] s2.H = some (v, H')) : eBinG g a b st = some (v, { s2 with H := H' }) := by
  simp only [eBinG, h1, h2, h3]
theorem gAddL_eq {H : List (List AV)} {l m : Nat} {xs ys : List AV} (h1 : H[l]? = some xs) (h2 : H[m]? = some ys) (h : xs.length + ys.length ≤ 1000) : gAddL [.lst l, .lst m] H = some (.lst H.length, H ++ [xs ++ ys]) := by
  simp only [gAddL, h1, h2]
  rw [if_pos (by (first | lia | omega))]
noncomputable def nums (ns : List Int) : List Int := ns.take 6 ++ [9, 0, 0, 1]
noncomputable def jobsOf (ns : List Int) : Jb := (nums ns).map jobN
theorem nums_len (ns : List Int) : 4 ≤ (nums ns).length ∧ (nums ns).length ≤ 10 := by
  unfold nums
  rw [List.length_append, List.length_take]
  show 4 ≤ min 6 ns.length + 4 ∧ min 6 ns.length + 4 ≤ 10
  (first | lia | omega)
theorem jobsOf_ok (ns : List Int) : JOk (jobsOf ns) := by
  refine ⟨fun p hp => ?_, ?_⟩
  · unfold jobsOf at hp
    obtain ⟨v, _, rfl⟩ := List.mem_map.mp hp
    exact ⟨(jobN_spec v).2.2.1, (jobN_spec v).2.2.2⟩
  · unfold jobsOf
    rw [List.length_map]
    have := (nums_len ns).2
    (first | lia | omega)
theorem law_1 (d : Addr) {st : AS} {sa : Addr} {ns : List Int} (h : st.loc (Str.ofString "script") = some (.raw (.ref sa))) (hn : ns.length ≤ 63) :
    ∃ H' q, bLaw_1 d sa ns st = some (.next, AS.put { st with H := H' } (Str.ofString "numbers") (.lst q)) ∧ Kept st.H H' ∧ H'[q]? = some (intsAV (nums ns)) := by
  have e1 := eUptoR_ok (k := 6) (sn := ns) h (by (first | lia | omega))
  have e2 : eCall gList (esCons (eVal (.int 9)) (esCons (eVal (.int 0)) (esCons (eVal (.int 0)) (esCons (eVal (.int 1)) esNil)))) { st with H := st.H ++ [intsAV (ns.take 6)] } = some (.lst (st.H ++ [intsAV (ns.take 6)]).length, { st with H := st.H ++ [intsAV (ns.take 6)] ++ [intsAV [9, 0, 0, 1]] }) := by
    simp only [eCall, esCons, esNil, eVal_ok, gList_eq]
    rfl
  have e3 := gAddL_eq (H := st.H ++ [intsAV (ns.take 6)] ++ [intsAV [9, 0, 0, 1]]) ((Kept.app _ _).get (get_new st.H (intsAV (ns.take 6)))) (get_new (st.H ++ [intsAV (ns.take 6)]) (intsAV [9, 0, 0, 1])) (by
    unfold intsAV; rw [List.length_map, List.length_map, List.length_take]; show min 6 _ + 4 ≤ 1000; (first | lia | omega))
  have e4 := eBinG_ok e1 e2 e3
  have hq : intsAV (ns.take 6) ++ intsAV [9, 0, 0, 1] = intsAV (nums ns) := by
    unfold intsAV nums; rw [List.map_append]
  rw [hq] at e4
  refine ⟨_, _, sAssign_ok e4, ?_, ?_⟩
  · exact ((Kept.app _ _).trans (Kept.app _ _)).trans (Kept.app _ _)
  · exact get_new _ _
theorem law_6 (d : Addr) {st : AS} {r s : Nat} {J : Jb} (hr : st.H[r]? = some (rowsOf J)) (hs : st.H[s]? = some (strAV J)) (h1 : st.loc (Str.ofString "rows") = some (.lst r)) (h2 : st.loc (Str.ofString "stretches") = some (.lst s)) (hJ : J.length ≤ 1000) : bLaw_6 d st = some (.next, st) := by
  have g1 := gLen_eq hr (by unfold rowsOf; rw [List.length_map]; (first | lia | omega))
  have g2 := gLen_eq hs (by unfold strAV; rw [List.length_map]; (first | lia | omega))
  unfold rowsOf at g1
  unfold strAV at g2
  rw [List.length_map] at g1 g2
  have e1 := eCall1_ok (eVar_ok h1) g1
  have e2 := eCall1_ok (eVar_ok h2) g2
  have hc : (cInt fun a b => a != b) st.H (.int (J.length : Int)) (.int (J.length : Int)) = some false := by
    rw [cInt_i]
    exact congrArg some (bne_self_eq_false _)
  unfold bLaw_6
  rw [sIf_f (tCmp_ok e1 e2 hc)]
  rfl
theorem gLaw_eq (d sa : Addr) {H : List (List AV)} {ns : List Int} (hn : ns.length ≤ 63) : ∃ H', gLaw d sa ns [.raw (.ref sa)] H = some (.bool true, H') ∧ Kept H H' := by
  generalize hst : (⟨locAfter ([(Str.ofString "script")].zip [.raw (.ref sa)]) (fun _ => none), H⟩ : AS) = st
  have a1 : st.loc (Str.ofString "script") = some (.raw (.ref sa)) := by rw [← hst]; simp only [sSeq, sAssign, sRet, sFl, sIf, sExpr, eBin, eUn, eVar, eVal, eCall, eMeth, eBinG, esCons, esNil, eIf, tCmp, tNot, tAnd, tOr, tVal, tTrue, AS.put_get, AS.put_H, ne_code, isLst, isStr, if_true, if_false, eq_self, List.zip_cons_cons, List.zip_nil_right, locAfter, Nat.reduceBEq, Bool.false_eq_true, reduceCtorEq, code_COMPILER_FLAG_NAMES, code_S_IFMT, code__filemode_table, code__law_given, code__law_read, code__law_without, code__siftdown, code__siftup, code_begin, code_bit, code_char, code_childpos, code_counts, code_end, code_endpos, code_filemode, code_first, code_flag, code_flags, code_given, code_heap, code_heappop, code_heappush, code_hour, code_hours, code_i, code_index, code_item, code_k, code_last, code_lastelt, code_law, code_many, code_mode, code_most, code_names, code_newitem, code_numbers, code_octets, code_parent, code_parentpos, code_perm, code_pos, code_pretty_flags, code_returnitem, code_rightpos, code_rights, code_row, code_rows, code_script, code_startpos, code_stretches, code_table, code_v]
  have aH : st.H = H := by rw [← hst]
  obtain ⟨st0, hst0⟩ : ∃ st0, st0 = AS.put { st with H := st.H ++ [namesAV] } (Str.ofString "names") (.lst st.H.length) := ⟨_, rfl⟩
  have e0 := law_0 d st
  rw [← hst0] at e0
  have k0 : Kept H st0.H := by rw [hst0, ← aH]; exact Kept.app _ _
  have b1 : st0.loc (Str.ofString "script") = some (.raw (.ref sa)) := by rw [hst0]; (first | exact a1 | exact loc_o a1 (by decide) | exact loc_o (loc_o a1 (by decide)) (by decide))
  have b2 : st0.loc (Str.ofString "names") = some (.lst st.H.length) := by rw [hst0]; (first | exact put_same _ _ _ | exact loc_o (put_same _ _ _) (by decide) | exact loc_o (loc_o (put_same _ _ _) (by decide)) (by decide))
  have b3 : st0.H[st.H.length]? = some namesAV := by rw [hst0]; exact get_new st.H namesAV
  generalize st.H.length = n at b2 b3
  clear hst0
  obtain ⟨H1, q, e1, k1, hq⟩ := law_1 d (ns := ns) b1 hn
  obtain ⟨st1, hst1⟩ : ∃ st1, st1 = AS.put { st0 with H := H1 } (Str.ofString "numbers") (.lst q) := ⟨_, rfl⟩
  rw [← hst1] at e1
  have k1' : Kept H st1.H := by rw [hst1]; exact k0.trans k1
  have c1 : st1.loc (Str.ofString "numbers") = some (.lst q) := by rw [hst1]; (first | exact put_same _ _ _ | exact loc_o (put_same _ _ _) (by decide) | exact loc_o (loc_o (put_same _ _ _) (by decide)) (by decide))
  have c2 : st1.loc (Str.ofString "names") = some (.lst n) := by rw [hst1]; (first | exact b2 | exact loc_o b2 (by decide) | exact loc_o (loc_o b2 (by decide)) (by decide))
  have c3 : st1.H[n]? = some namesAV := by rw [hst1]; exact k1.get b3
  have c4 : st1.H[q]? = some (intsAV (nums ns)) := by rw [hst1]; exact hq
  clear hst1
  have hJ := jobsOf_ok ns
  have hlen : (jobsOf ns).length = (nums ns).length := by unfold jobsOf; rw [List.length_map]
  have hnl := nums_len ns
  have e2 := sAssign_ok (x := (Str.ofString "stretches")) (comp_stretches d c4 c1 (by (first | lia | omega)))
  rw [show (nums ns).map jobN = jobsOf ns from rfl] at e2
  generalize jobsOf ns = J at *
  obtain ⟨st2, hst2⟩ : ∃ st2, st2 = AS.put { st1 with H := st1.H ++ [strAV J] } (Str.ofString "stretches") (.lst st1.H.length) := ⟨_, rfl⟩
  rw [← hst2] at e2
  have k2 : Kept H st2.H := by rw [hst2]; exact k1'.trans (Kept.app _ _)
  have d1 : st2.loc (Str.ofString "stretches") = some (.lst st1.H.length) := by rw [hst2]; (first | exact put_same _ _ _ | exact loc_o (put_same _ _ _) (by decide) | exact loc_o (loc_o (put_same _ _ _) (by decide)) (by decide))
  have d2 : st2.loc (Str.ofString "names") = some (.lst n) := by rw [hst2]; (first | exact c2 | exact loc_o c2 (by decide) | exact loc_o (loc_o c2 (by decide)) (by decide))
  have d3 : st2.H[n]? = some namesAV := by rw [hst2]; exact (Kept.app _ _).get c3
  have d4 : st2.H[st1.H.length]? = some (strAV J) := by rw [hst2]; exact get_new st1.H (strAV J)
  generalize st1.H.length = s at d1 d4
  clear hst2
  have e3 : bLaw_3 d st2 = some (.next, AS.put { st2 with H := st2.H ++ [[]] } (Str.ofString "octets") (.lst st2.H.length)) := by
    unfold bLaw_3
    refine sAssign_ok ?_
    simp only [eCall, esNil, gList_eq]
  obtain ⟨st3, hst3⟩ : ∃ st3, st3 = AS.put { st2 with H := st2.H ++ [[]] } (Str.ofString "octets") (.lst st2.H.length) := ⟨_, rfl⟩
  rw [← hst3] at e3
  have hH3 : st3.H = st2.H ++ [[]] := by rw [hst3]; rfl
  have f1 : st3.loc (Str.ofString "octets") = some (.lst st2.H.length) := by rw [hst3]; (first | exact put_same _ _ _ | exact loc_o (put_same _ _ _) (by decide) | exact loc_o (loc_o (put_same _ _ _) (by decide)) (by decide))
  have f2 : st3.loc (Str.ofString "stretches") = some (.lst s) := by rw [hst3]; (first | exact d1 | exact loc_o d1 (by decide) | exact loc_o (loc_o d1 (by decide)) (by decide))
  have f3 : st3.loc (Str.ofString "names") = some (.lst n) := by rw [hst3]; (first | exact d2 | exact loc_o d2 (by decide) | exact loc_o (loc_o d2 (by decide)) (by decide))
  have f4 : st3.H[s]? = some (strAV J) := by rw [hH3]; exact (Kept.app _ _).get d4
  have f5 : st3.H[st2.H.length]? = some [] := by rw [hH3]; exact get_new _ _
  have f6 : st3.H.take st2.H.length = st2.H := by rw [hH3, List.take_append_of_le_length (Nat.le_refl _), List.take_length]
  clear hst3
  obtain ⟨st4, e4, g1, g2, g3, g4, g5⟩ := octets_loop d hJ f4 (lt_of_get d4) f5 f1 f2 f3
  rw [f6] at g1
  obtain ⟨H5, k5, e5⟩ := comp_rows d hJ g2 g3
  have e5' := sAssign_ok (x := (Str.ofString "rows")) e5
  obtain ⟨st5, hst5⟩ : ∃ st5, st5 = AS.put { st4 with H := H5 ++ [rowsOf J] } (Str.ofString "rows") (.lst H5.length) := ⟨_, rfl⟩
  rw [← hst5] at e5'
  have k5' : Kept st4.H st5.H := by rw [hst5]; exact k5.trans (Kept.app _ _)
  have h1 : st5.loc (Str.ofString "rows") = some (.lst H5.length) := by rw [hst5]; (first | exact put_same _ _ _ | exact loc_o (put_same _ _ _) (by decide) | exact loc_o (loc_o (put_same _ _ _) (by decide)) (by decide))
  have h2 : st5.loc (Str.ofString "stretches") = some (.lst s) := by rw [hst5]; (first | exact g4 | exact loc_o g4 (by decide) | exact loc_o (loc_o g4 (by decide)) (by decide))
  have h3 : st5.loc (Str.ofString "names") = some (.lst n) := by rw [hst5]; (first | exact g5 | exact loc_o g5 (by decide) | exact loc_o (loc_o g5 (by decide)) (by decide))
  have h4 : st5.H[H5.length]? = some (rowsOf J) := by rw [hst5]; exact get_new H5 (rowsOf J)
  have h5 : st5.H[s]? = some (strAV J) := k5'.get (g1.get d4)
  have h6 : st5.H[n]? = some namesAV := k5'.get (g1.get d3)
  clear hst5
  have e6 := law_6 d h4 h5 h1 h2 (by have := hJ.2; (first | lia | omega))
  have Z : L0 st5.H J H5.length s n := ⟨hJ, h4, h5, h6⟩
  have L : LS st5.H J H5.length s n st5 := ⟨Kept.refl _, h1, h2, h3⟩
  obtain ⟨st7, e7, L7⟩ := law_7 d Z L (by (first | lia | omega))
  obtain ⟨st8, e8, k8⟩ := law_8 d Z L7
  refine ⟨st8.H, ?_, k2.trans (g1.trans (k5'.trans (L7.kept.trans k8)))⟩
  unfold gLaw gFn
  rw [if_pos (show [AV.raw (.ref sa)].length = [(Str.ofString "script")].length from rfl), hst]
  unfold bLaw
  rw [sSeq_next e0, sSeq_next e1, sSeq_next (show bLaw_2 d st1 = some (.next, st2) from e2), sSeq_next e3, sSeq_next e4, sSeq_next (show bLaw_5 d st4 = some (.next, st5) from e5'), sSeq_next e6, sSeq_next e7, e8]
end Mine
end
/-! ## part FZ0 -/
section
open PySem PySem.W PyProof.Rows PySem.Calls
set_option bootstrap.genMatcherCode false
namespace Mine
mutual
noncomputable def avOf : WData → AV
  | .int i => .int i
  | .str x => .str x
  | .tuple xs => .tuple (avsOf xs)
  | _ => .none
noncomputable def avsOf : List WData → List AV
  | [] => []
  | d :: r => avOf d :: avsOf r
end
mutual
noncomputable def goodD : WData → Bool
  | .int _ => true
  | .str _ => true
  | .tuple xs => goodsD xs
  | _ => false
noncomputable def goodsD : List WData → Bool
  | [] => true
  | d :: r => goodD d && goodsD r
end
theorem vr_of {R : WRecords} {cl : Str → Option Addr} {h : Heap} {v : Value} {d : WData} {as : List Addr} (r : ReadsW R cl h v d as) : goodD d = true → VR h.get? [] v (avOf d) := by
  refine ReadsW.rec (motive_1 := fun v d as _ => goodD d = true → VR h.get? [] v (avOf d)) (motive_2 := fun vs ds as _ => goodsD ds = true → VRs h.get? [] vs (avsOf ds)) (motive_3 := fun _ _ _ _ => True)
    ?_ ?_ ?_ ?_ ?_ ?_ ?_ ?_ ?_ ?_ ?_ ?_ ?_ ?_ ?_ ?_ ?_ r
  · intro g; unfold goodD at g; cases g
  · intro b g; unfold goodD at g; cases g
  · intro i t g; unfold avOf; exact .int i t
  · intro x t g; unfold avOf; exact .str x t
  · intro a o vs n xs as ho hc hd _ ih g; unfold goodD at g; cases g
  · intro a o vs n xs as ho hc hd _ ih g
    unfold goodD at g
    unfold avOf
    exact .tuple (us := vs.toList) ho hc (by simpa using hd) (ih g)
  · intro a o es n kvs as bs ho hc hd _ _ ih ih' g; unfold goodD at g; cases g
  · intro b t g; unfold goodD at g; cases g
  · intro b t g; unfold goodD at g; cases g
  · intro a o b ho hc hd g; unfold goodD at g; cases g
  · intro a o es n t vs xs ho hc hd hp hs _ ih g; unfold goodD at g; cases g
  · intro a o es n t vs xs ho hc hd hp hs _ ih g; unfold goodD at g; cases g
  · intro c fs ca a o dA od es n ens kvs as h1 h2 h3 h4 h5 h6 h7 h8 h9 h10 h11 h12 h13 _ ih g; unfold goodD at g; cases g
  · intro g; unfold avsOf; exact .nil
  · intro v vs d ds as bs _ _ ih1 ih2 g
    unfold goodsD at g
    unfold avsOf
    have g := Bool.and_eq_true_iff.mp g
    exact .cons (ih1 g.1) (ih2 g.2)
  · trivial
  · intros; trivial
theorem fd_of {view : Program} {loose : List Str} {mean : ExcName → Option Value} {c : Cx} {mb : Str → Option Value} (T : Top view loose mean c.mg mb c.base) {j : Nat} {x : Str}
    (hr : (recsOf view).find? (fun e => e.name == x) = some ⟨x, parsOf (top j), bodyOf (top j), scopOf (top j), posOf (top j)⟩) : ∃ fa, Fd c j x fa := by
  obtain ⟨a, o, pm, code, doc, h1, h2, h3, h4⟩ := T.fn _ (List.mem_of_find?_eq_some hr)
  exact ⟨a, h1, o, pm, code, doc, h2, h3, h4⟩
theorem free_of {view : Program} {loose : List Str} {mean : ExcName → Option Value} {mg mb : Str → Option Value} {h : Heap} (T : Top view loose mean mg mb h) {xs : List Str}
    (hx : ∀ x ∈ xs, x ∉ startupNames ∧ x ∉ loose ∧ x ∉ (recsOf view).map (·.name) ∧ x ∉ (litsOf view).map (·.1) ∧ x ∉ (clssOf view loose).map (·.name)) : ∀ x ∈ xs, mg x = none := fun x h =>
  let ⟨a, b, d, e, f⟩ := hx x h; T.free x a b d e f
theorem pairs_cast {p q : Program} {w : World} : ∀ {es : List DictEntry} {kvs : List (Int × Value)}, PySem.Pairs (intKind p w) es kvs → PySem.Pairs (intKind q w) es kvs
  | _, _, .nil => .nil
  | _, _, .cons a b r => .cons a b (pairs_cast r)
theorem intTab_cast {p q : Program} {w : World} {h : Heap} {d : Addr} {D : List (PyData × PyData)} (T : IntTab p w h d D) : IntTab q w h d D := by
  obtain ⟨lo, kvs, ⟨o, es, ep, h1, h2, h3, h4, h5, h6⟩, hf⟩ := T
  exact ⟨lo, kvs, ⟨o, es, ep, h1, h2, h3, h4, pairs_cast h5, h6⟩, hf⟩
theorem aok_caller : AOk 0 callerA := ⟨rfl, by decide +kernel, by decide +kernel, by decide, fun _ => rfl⟩
theorem grep_start (h : Heap) : GRep h h.get? [] [] h := ⟨fun _ _ e => e, fun _ _ e => e, rfl, fun i a xs e _ => by simp at e, .nil, fun a ha => by cases ha⟩
end Mine
end
/-! ## part FZ -/
section
open PySem PySem.W PyProof.Rows PySem.Calls
set_option bootstrap.genMatcherCode false
namespace Mine
noncomputable def recAt (x : Str) (j : Nat) : DefRec := ⟨x, parsOf (top j), bodyOf (top j), scopOf (top j), posOf (top j)⟩
abbrev RecAt (view : Program) (x : Str) (j : Nat) : Prop := (recsOf view).find? (fun e => e.name == x) = some (recAt x j)
structure Recs (view : Program) : Prop where
  r1 : RecAt view (Str.ofString "heappush") 1
  r2 : RecAt view (Str.ofString "heappop") 2
  r3 : RecAt view (Str.ofString "_siftdown") 3
  r4 : RecAt view (Str.ofString "_siftup") 4
  r7 : RecAt view (Str.ofString "pretty_flags") 7
  r8 : RecAt view (Str.ofString "_parse_varint") 8
  r10 : RecAt view (Str.ofString "S_IFMT") 10
  r31 : RecAt view (Str.ofString "filemode") 31
  r33 : RecAt view (Str.ofString "_law_read") 33
  r34 : RecAt view (Str.ofString "_law_given") 34
  r35 : RecAt view (Str.ofString "_law_without") 35
  r36 : RecAt view (Str.ofString "law") 36
noncomputable def names9 : List Str := [Str.ofString "len", Str.ofString "range", Str.ofString "sum", Str.ofString "max", Str.ofString "hex", Str.ofString "enumerate", Str.ofString "iter", Str.ofString "next", Str.ofString "StopIteration"]
theorem law_end {view prog : Program} {w : World} {loose : List Str} {mean : ExcName → Option Value} {mg mb : Str → Option Value} {s₁ : Shared} (T : Top view loose mean mg mb s₁.heap) (B : Tables view w mg s₁.heap) {lv : List (Str × WData)} (V : LooseAre lv mg s₁.heap)
    (hr : Recs view) (hfree : ∀ x ∈ names9, x ∉ startupNames ∧ x ∉ loose ∧ x ∉ (recsOf view).map (·.name) ∧ x ∉ (litsOf view).map (·.1) ∧ x ∉ (clssOf view loose).map (·.name))
    (hlv : ∃ q ∈ lv, q.1 = Str.ofString "_filemode_table" ∧ goodD q.2 = true ∧ avOf q.2 = vTable) (hD : tabIntOf view (Str.ofString "COMPILER_FLAG_NAMES") = some Dflags)
    {sa : Addr} {su : List Value} {sn : List Int} (hL : s₁.heap.IsList sa su.toArray) (hI : IntsAre su sn) (hn : sn.length ≤ 63) {fa : Addr} (hmg : mg (Str.ofString "law") = some (.ref fa)) {Q E : Value → Shared → Prop}
    (hQ : ∀ h' tk', (∀ b o, s₁.heap.get? b = some o → h'.get? b = some o) → Q (.bool true) { s₁ with heap := h', toks := tk' }) :
    wpAny (model prog w) callerA (call (.ref fa) [.ref sa]) Q E s₁ := by
  obtain ⟨c, hcc⟩ : ∃ c : Cx, c = ⟨prog, w, s₁.heap, mg, mb⟩ := ⟨_, rfl⟩
  have hc : c.Ok := by rw [hcc]; exact ⟨T.g, T.b, T.nolimit, T.builtins⟩
  have hf := free_of T hfree
  have nm : Nm c := by
    rw [hcc]
    exact ⟨hf _ (.head _), hf _ (.tail _ (.head _)), hf _ (.tail _ (.tail _ (.head _))), hf _ (.tail _ (.tail _ (.tail _ (.head _)))), hf _ (.tail _ (.tail _ (.tail _ (.tail _ (.head _))))), hf _ (.tail _ (.tail _ (.tail _ (.tail _ (.tail _ (.head _)))))), hf _ (.tail _ (.tail _ (.tail _ (.tail _ (.tail _ (.tail _ (.head _))))))), hf _ (.tail _ (.tail _ (.tail _ (.tail _ (.tail _ (.tail _ (.tail _ (.head _)))))))), hf _ (.tail _ (.tail _ (.tail _ (.tail _ (.tail _ (.tail _ (.tail _ (.tail _ (.head _)))))))))⟩
  have T' : Top view loose mean c.mg c.mb c.base := by rw [hcc]; exact T
  obtain ⟨a1, d1⟩ := fd_of T' hr.r1
  obtain ⟨a2, d2⟩ := fd_of T' hr.r2
  obtain ⟨a3, d3⟩ := fd_of T' hr.r3
  obtain ⟨a4, d4⟩ := fd_of T' hr.r4
  obtain ⟨a7, d7⟩ := fd_of T' hr.r7
  obtain ⟨a8, d8⟩ := fd_of T' hr.r8
  obtain ⟨a10, d10⟩ := fd_of T' hr.r10
  obtain ⟨a31, d31⟩ := fd_of T' hr.r31
  obtain ⟨a33, d33⟩ := fd_of T' hr.r33
  obtain ⟨a34, d34⟩ := fd_of T' hr.r34
  obtain ⟨a35, d35⟩ := fd_of T' hr.r35
  obtain ⟨a36, d36⟩ := fd_of T' hr.r36
  have hm' : c.mg (Str.ofString "law") = some (.ref fa) := by rw [hcc]; exact hmg
  have e36 : a36 = fa := by
    have := d36.1
    rw [hm'] at this
    cases this; rfl
  subst e36
  obtain ⟨q, hq, hq1, hq2, hq3⟩ := hlv
  obtain ⟨uT, hmT, hrT⟩ := V.val q hq
  have hvT := vr_of hrT hq2
  rw [hq3] at hvT
  rw [hq1] at hmT
  have hmT' : c.mg (Str.ofString "_filemode_table") = some uT := by rw [hcc]; exact hmT
  have hvT' : VR c.base.get? [] uT vTable := by rw [hcc]; exact hvT
  obtain ⟨aD, hmD, hTD⟩ := B.tabI _ _ hD
  have hmD' : c.mg (Str.ofString "COMPILER_FLAG_NAMES") = some (.ref aD) := by rw [hcc]; exact hmD
  have hTD' : IntTab c.prog c.w c.base aD Dflags := by rw [hcc]; exact intTab_cast hTD
  have hL' : c.base.IsList sa su.toArray := by rw [hcc]; exact hL
  have hb : c.base = s₁.heap := by rw [hcc]
  have hp : model prog w = model c.prog c.w := by rw [hcc]
  clear hcc
  have g3 : ∀ k, k + 1 ≤ 50 → Fn c k a3 gDown := fun k hk => fnDown hc nm hk d3
  have g4 : Fn c 3 a4 gUp := fnUp hc nm d3 (g3 4 (by decide)) (by decide) d4
  have g1 : Fn c 2 a1 gHPush := fnHPush hc nm d3 (g3 3 (by decide)) (by decide) d1
  have g2 : Fn c 2 a2 gHPop := fnHPop hc nm d4 g4 (by decide) d2
  have g34 : Fn c 1 a34 gGiven := fnGiven hc nm d1 g1 d2 g2 (by decide) d34
  have g35 : Fn c 1 a35 gWithout := fnWithout hc nm (by decide) d35
  have g7 : Fn c 1 a7 (gFlags aD) := fnFlags hc nm hmD' hTD' (by decide) d7
  have g31 : Fn c 1 a31 gMode := fnMode hc nm d10 (fnIfmt hc nm (by decide) d10) hmT' hvT' (by decide) d31
  have gL := fnLaw hc nm hL' hI d33 d8 d31 g31 d34 g34 d35 g35 d7 g7 d36
  obtain ⟨H', e, _⟩ := gLaw_eq aD sa (H := []) hn
  rw [hp]
  refine wpAny_noRaise (gL callerA aok_caller _ _ _ _ e c.base.get? [] s₁ (hb ▸ grep_start c.base) [.ref sa] (.cons (.raw _) .nil) _ fun u K' ρ' h' tk' k p G r => ?_)
  cases r
  exact hQ h' tk' fun b o ho => G.keep b o (k b o (hb ▸ ho))
end Mine
end
open PySem PySem.W PyProof.Rows
set_option maxRecDepth 100000 in
set_option maxHeartbeats 8000000 in
theorem PySem.Challenge.cw_un0011_01_holds : PySem.Challenge.rw_un0011_01.Holds := by
  w_on
  o_law
  o_head Hook.none
  (case hw => w_witness2)
  w_strict (
    intro w s₀ s₁ mg mb G Y fa o pm cd doc dV kV ho hd hcd hD hmg hg args vals as hpre hlay hrd hwl hlo
    have V := (Ground.X G).2
    refine Ground.open G ?_
    intro T B D TE TW
    wrow_args hpre hlay hrd hwl hlo
    refine Mine.law_end T B V ⟨by kernel_rfl, by kernel_rfl, by kernel_rfl, by kernel_rfl, by kernel_rfl, by kernel_rfl, by kernel_rfl, by kernel_rfl, by kernel_rfl, by kernel_rfl, by kernel_rfl, by kernel_rfl⟩ (by decide +kernel) ⟨_, List.mem_cons_self, rfl, by kernel_rfl, by kernel_rfl⟩ (by kernel_rfl) (by assumption) (by assumption) (by omega) hmg ?_
    intro h' tk' hk
    refine ⟨.inl ⟨.bool true, .bool true, [], rfl, raisesW_false ?_, .bool true, ?_, unshared_nil⟩, .of_keep hk, rfl, .of_eq hg⟩
    · wrow_none_raised
    · wrow_post)
